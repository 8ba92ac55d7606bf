import JvmDerived
import JvmDerived.Pilot.@@N@@Statement
import JvmDerived.Pilot.@@N@@Code
set_option linter.unusedVariables false
set_option linter.unusedSimpArgs false
namespace Jvm.Pilot.@@N@@
open Jvm Jvm.ClassFile Sem Op Lib Jvm.Free Jvm.Stand Jvm.LawKit Jvm.RoadKit Bundle Jvm.Pilot.@@N@@.Jvm.D
abbrev vI (x : Int32) : Value := .int x
abbrev vJ (x : Int64) : Value := .long x
abbrev vD (x : UInt64) : Value := .double x
abbrev vF (x : UInt32) : Value := .float x
abbrev vR (x : Addr) : Value := .ref x
abbrev si (x : Int32) : Slot := .val (.int x)
abbrev sj (x : Int64) : Slot := .val (.long x)
abbrev sd (x : UInt64) : Slot := .val (.double x)
abbrev sf (x : UInt32) : Slot := .val (.float x)
abbrev sr (x : Addr) : Slot := .val (.ref x)
abbrev rm (a b c d : Nat) : Room := { frames := a, cells := b, slots := c, locals := d }
abbrev Met (l : Launch) (y : MethodName) (bn : ByteArray) (ml : Nat) (rt : Option FieldType) (ws : List Jvm.Cond) (R : Room) (A : Array Value) (Z : State) (h0 : Heap) (Q : Option Value → Heap → List Loc → Prop) : Prop := MetFree l y (head1 (Jvm.Cond.code y bn ml rt :: ws) R) (fun a U => a = A ∧ Z.Warmed39 U.vm ∧ U.heap = h0) (fun _ _ _ _ _ => True) (fun _ U o U' => ∃ v L, o = .returned v ∧ Q v U'.heap L ∧ FrameEnd U o U' L R.cells R.slots)
abbrev un : Slot := .unset
abbrev se : Slot := .second
abbrev Sp (p : Program) (e : Env) (b : List Frame) (T : State) (g : JFrame) (t : State) : Prop := Steps p.tables e b (T.setTop g) t
abbrev Rt (p : Program) (e : Env) (b : List Frame) (T : State) (g : JFrame) (s : State) (m : MethodId) (A : Array Value) (n : Nat) : Prop := ∀ t, Steps p.tables e b (T.setTop g) t → Steps p.tables e b (s.setTop (entryFrame m A n)) t
theorem gFs {p : Program} {l : Launch} {e : Env} {R : Room} {s : State} {m : MethodId} {args : Array Value} {below : List Frame} {meth : Method} {c : Code} {T : State} {locs : List Loc} {cells slots : Nat} {Z : State} {a0 : Array Value} {h : Heap} (X : Stand p l e R s m args below meth c T locs cells slots) (hx : p.tables.exec = Jvm.exec) (hZ : Z.Warmed39 s.vm) {own O n d : String} {index : Nat} (hown : s.vm.findClass own = some m.cls) (w : (Cond.fieldLink own index O n d).before a0 Z = true) (eT : T.heap = h) {a : Addr} {v : Value} (F : Fld Z h a O n d v) {pc : Nat} {Ls : Array Slot} {rest : List Value} {s1 : State} {A : Array Value} {N : Nat} (k : Rt p e below T (mkF m pc Ls (.ref a :: rest)) s1 m A N) (hd : decode c.code pc = .ok (.getfield index, 3)) : ∃ T', Stand p l e R s m args below meth c T' locs cells slots ∧ T'.heap = h ∧ Rt p e below T' (mkF m (pc + 3) Ls (v :: rest)) s1 m A N := by
 obtain ⟨T', X', e', st⟩ := getF X hx hZ hown (host := "") (Or.inl w) Via.refl eT F (g := mkF m pc Ls (.ref a :: rest)) rfl rfl hd
 exact ⟨T', X', e', fun t q => k t (st t q)⟩
abbrev zI : Value := .int (0 : Int32)
theorem nL {a b c : Nat} (x : a < b) (y : b ≤ c) : a ≠ c := Nat.ne_of_lt (Nat.lt_of_lt_of_le x y)
theorem nG {a b c : Nat} (x : a < b) (y : b ≤ c) : c ≠ a := Nat.ne_of_gt (Nat.lt_of_lt_of_le x y)
theorem oL {l : List Addr} {a : Addr} {P : Prop} (i : Nat) (e : l[i]? = some a) : a ∈ l ∨ P := Or.inl (List.mem_of_getElem? e)
section
variable {p : Program} {l : Launch} {e : Env} {R : Room} {s : State} {m : MethodId} {args : Array Value} {below : List Frame} {meth : Method} {c : Code} {T : State} {locs : List Loc} {cells slots : Nat} {s1 : State} {A : Array Value} {N pc : Nat} {Ls : Array Slot} {st : List Value}
theorem lt_b {a b : Nat} (h : Nat.blt a b = true) : a < b := Nat.le_of_ble_eq_true h
theorem b5 {a b c d e f g h i j : Nat} (q : (Nat.ble a b && (Nat.ble c d && (Nat.ble e f && (Nat.ble g h && Nat.ble i j)))) = true) : a ≤ b ∧ c ≤ d ∧ e ≤ f ∧ g ≤ h ∧ i ≤ j := by
 simp only [Bool.and_eq_true, Nat.ble_eq] at q; exact q
theorem f_ilN {n : Fin 4} {v : Int32} (X : Stand p l e R s m args below meth c T locs cells slots) (hx : p.tables.exec = Jvm.exec) (k : Rt p e below T (mkF m pc Ls st) s1 m A N) (hd : decode c.code pc = .ok (.iload_n n, 1)) (hl : Ls[n.val]? = some (.val (.int v))) : Rt p e below T (mkF m (pc + 1) Ls (.int v :: st)) s1 m A N := fun t q => k t (XS.iloadN X.here hx rfl hd hl q)
theorem f_alN {n : Fin 4} {a : Addr} (X : Stand p l e R s m args below meth c T locs cells slots) (hx : p.tables.exec = Jvm.exec) (k : Rt p e below T (mkF m pc Ls st) s1 m A N) (hd : decode c.code pc = .ok (.aload_n n, 1)) (hl : Ls[n.val]? = some (.val (.ref a))) : Rt p e below T (mkF m (pc + 1) Ls (.ref a :: st)) s1 m A N := fun t q => k t (XS.aloadN X.here hx rfl hd hl rfl q)
theorem f_dlN {n : Fin 4} {v : UInt64} (X : Stand p l e R s m args below meth c T locs cells slots) (hx : p.tables.exec = Jvm.exec) (k : Rt p e below T (mkF m pc Ls st) s1 m A N) (hd : decode c.code pc = .ok (.dload_n n, 1)) (hl : Ls[n.val]? = some (.val (.double v))) : Rt p e below T (mkF m (pc + 1) Ls (.double v :: st)) s1 m A N := fun t q => k t (XS.dloadN X.here hx rfl hd hl q)
theorem f_isN {n : Fin 4} {v : Int32} {l' : Array Slot} (X : Stand p l e R s m args below meth c T locs cells slots) (hx : p.tables.exec = Jvm.exec) (k : Rt p e below T (mkF m pc Ls (.int v :: st)) s1 m A N) (hd : decode c.code pc = .ok (.istore_n n, 1)) (hl : storeLocals Ls n.val (.int v) = some l') : Rt p e below T (mkF m (pc + 1) l' st) s1 m A N := fun t q => k t (XS.istoreN X.here hx rfl hd rfl hl q)
theorem f_dsN {n : Fin 4} {v : UInt64} {l' : Array Slot} (X : Stand p l e R s m args below meth c T locs cells slots) (hx : p.tables.exec = Jvm.exec) (k : Rt p e below T (mkF m pc Ls (.double v :: st)) s1 m A N) (hd : decode c.code pc = .ok (.dstore_n n, 1)) (hl : storeLocals Ls n.val (.double v) = some l') : Rt p e below T (mkF m (pc + 1) l' st) s1 m A N := fun t q => k t (XS.dstoreN X.here hx rfl hd rfl hl q)
theorem f_asN {n : Fin 4} {a : Addr} {l' : Array Slot} (X : Stand p l e R s m args below meth c T locs cells slots) (hx : p.tables.exec = Jvm.exec) (k : Rt p e below T (mkF m pc Ls (.ref a :: st)) s1 m A N) (hd : decode c.code pc = .ok (.astore_n n, 1)) (hl : storeLocals Ls n.val (.ref a) = some l') : Rt p e below T (mkF m (pc + 1) l' st) s1 m A N := fun t q => k t (XS.astoreN X.here hx rfl hd rfl rfl hl q)
theorem f_il {n : Nat} {v : Int32} (X : Stand p l e R s m args below meth c T locs cells slots) (hx : p.tables.exec = Jvm.exec) (k : Rt p e below T (mkF m pc Ls st) s1 m A N) (hd : decode c.code pc = .ok (.iload n, 2)) (hl : Ls[n]? = some (.val (.int v))) : Rt p e below T (mkF m (pc + 2) Ls (.int v :: st)) s1 m A N := fun t q => k t (XS.iload X.here hx rfl hd hl q)
theorem f_al {n : Nat} {a : Addr} (X : Stand p l e R s m args below meth c T locs cells slots) (hx : p.tables.exec = Jvm.exec) (k : Rt p e below T (mkF m pc Ls st) s1 m A N) (hd : decode c.code pc = .ok (.aload n, 2)) (hl : Ls[n]? = some (.val (.ref a))) : Rt p e below T (mkF m (pc + 2) Ls (.ref a :: st)) s1 m A N := fun t q => k t (XS.aload X.here hx rfl hd hl rfl q)
theorem f_dl {n : Nat} {v : UInt64} (X : Stand p l e R s m args below meth c T locs cells slots) (hx : p.tables.exec = Jvm.exec) (k : Rt p e below T (mkF m pc Ls st) s1 m A N) (hd : decode c.code pc = .ok (.dload n, 2)) (hl : Ls[n]? = some (.val (.double v))) : Rt p e below T (mkF m (pc + 2) Ls (.double v :: st)) s1 m A N := fun t q => k t (XS.dload X.here hx rfl hd hl q)
theorem f_is {n : Nat} {v : Int32} {l' : Array Slot} (X : Stand p l e R s m args below meth c T locs cells slots) (hx : p.tables.exec = Jvm.exec) (k : Rt p e below T (mkF m pc Ls (.int v :: st)) s1 m A N) (hd : decode c.code pc = .ok (.istore n, 2)) (hl : storeLocals Ls n (.int v) = some l') : Rt p e below T (mkF m (pc + 2) l' st) s1 m A N := fun t q => k t (XS.istore X.here hx rfl hd rfl hl q)
theorem f_ds {n : Nat} {v : UInt64} {l' : Array Slot} (X : Stand p l e R s m args below meth c T locs cells slots) (hx : p.tables.exec = Jvm.exec) (k : Rt p e below T (mkF m pc Ls (.double v :: st)) s1 m A N) (hd : decode c.code pc = .ok (.dstore n, 2)) (hl : storeLocals Ls n (.double v) = some l') : Rt p e below T (mkF m (pc + 2) l' st) s1 m A N := fun t q => k t (XS.dstore X.here hx rfl hd rfl hl q)
theorem f_as {n : Nat} {a : Addr} {l' : Array Slot} (X : Stand p l e R s m args below meth c T locs cells slots) (hx : p.tables.exec = Jvm.exec) (k : Rt p e below T (mkF m pc Ls (.ref a :: st)) s1 m A N) (hd : decode c.code pc = .ok (.astore n, 2)) (hl : storeLocals Ls n (.ref a) = some l') : Rt p e below T (mkF m (pc + 2) l' st) s1 m A N := fun t q => k t (XS.astore X.here hx rfl hd rfl rfl hl q)
theorem f_ic {i : Int} {v : Int32} (X : Stand p l e R s m args below meth c T locs cells slots) (hx : p.tables.exec = Jvm.exec) (k : Rt p e below T (mkF m pc Ls st) s1 m A N) (hd : decode c.code pc = .ok (.iconst i, 1)) (hv : Int32.ofInt i = v) : Rt p e below T (mkF m (pc + 1) Ls (.int v :: st)) s1 m A N := by subst hv; exact fun t q => k t (XS.iconst X.here hx rfl hd q)
theorem f_bp {i : Int} {v : Int32} (X : Stand p l e R s m args below meth c T locs cells slots) (hx : p.tables.exec = Jvm.exec) (k : Rt p e below T (mkF m pc Ls st) s1 m A N) (hd : decode c.code pc = .ok (.bipush i, 2)) (hv : (Int8.ofInt i).toInt32 = v) : Rt p e below T (mkF m (pc + 2) Ls (.int v :: st)) s1 m A N := by subst hv; exact fun t q => k t (XS.bipush X.here hx rfl hd q)
theorem f_sp {i : Int} {v : Int32} (X : Stand p l e R s m args below meth c T locs cells slots) (hx : p.tables.exec = Jvm.exec) (k : Rt p e below T (mkF m pc Ls st) s1 m A N) (hd : decode c.code pc = .ok (.sipush i, 3)) (hv : (Int16.ofInt i).toInt32 = v) : Rt p e below T (mkF m (pc + 3) Ls (.int v :: st)) s1 m A N := by subst hv; exact fun t q => k t (XS.sipush X.here hx rfl hd q)
theorem f_d0 (X : Stand p l e R s m args below meth c T locs cells slots) (hx : p.tables.exec = Jvm.exec) (k : Rt p e below T (mkF m pc Ls st) s1 m A N) (hd : decode c.code pc = .ok (.dconst 0, 1)) : Rt p e below T (mkF m (pc + 1) Ls (.double (0 : UInt64) :: st)) s1 m A N := fun t q => k t (XS.dconst0 X.here hx rfl hd (v := (0 : UInt64)) rfl q)
theorem f_d1 (X : Stand p l e R s m args below meth c T locs cells slots) (hx : p.tables.exec = Jvm.exec) (k : Rt p e below T (mkF m pc Ls st) s1 m A N) (hd : decode c.code pc = .ok (.dconst 1, 1)) : Rt p e below T (mkF m (pc + 1) Ls (.double (4607182418800017408 : UInt64) :: st)) s1 m A N := fun t q => k t (XS.dconst1 X.here hx rfl hd (v := (4607182418800017408 : UInt64)) rfl q)
theorem f_iadd {u v r : Int32} (X : Stand p l e R s m args below meth c T locs cells slots) (hx : p.tables.exec = Jvm.exec) (k : Rt p e below T (mkF m pc Ls (.int v :: .int u :: st)) s1 m A N) (hd : decode c.code pc = .ok (.iadd, 1)) (hr : u + v = r) : Rt p e below T (mkF m (pc + 1) Ls (.int r :: st)) s1 m A N := by subst hr; exact fun t q => k t (XS.iadd X.here hx rfl hd rfl q)
theorem f_isub {u v r : Int32} (X : Stand p l e R s m args below meth c T locs cells slots) (hx : p.tables.exec = Jvm.exec) (k : Rt p e below T (mkF m pc Ls (.int v :: .int u :: st)) s1 m A N) (hd : decode c.code pc = .ok (.isub, 1)) (hr : u - v = r) : Rt p e below T (mkF m (pc + 1) Ls (.int r :: st)) s1 m A N := by subst hr; exact fun t q => k t (XS.isub X.here hx rfl hd rfl q)
theorem f_iand {u v r : Int32} (X : Stand p l e R s m args below meth c T locs cells slots) (hx : p.tables.exec = Jvm.exec) (k : Rt p e below T (mkF m pc Ls (.int v :: .int u :: st)) s1 m A N) (hd : decode c.code pc = .ok (.iand, 1)) (hr : u &&& v = r) : Rt p e below T (mkF m (pc + 1) Ls (.int r :: st)) s1 m A N := by subst hr; exact fun t q => k t (XS.iand X.here hx rfl hd rfl q)
theorem f_iushr {u v r : Int32} (X : Stand p l e R s m args below meth c T locs cells slots) (hx : p.tables.exec = Jvm.exec) (k : Rt p e below T (mkF m pc Ls (.int v :: .int u :: st)) s1 m A N) (hd : decode c.code pc = .ok (.iushr, 1)) (hr : ((u.toUInt32 >>> (v &&& 31).toUInt32).toInt32) = r) : Rt p e below T (mkF m (pc + 1) Ls (.int r :: st)) s1 m A N := by subst hr; exact fun t q => k t (XS.iushr X.here hx rfl hd rfl q)
theorem f_nlN {n : Fin 4} (X : Stand p l e R s m args below meth c T locs cells slots) (hx : p.tables.exec = Jvm.exec) (k : Rt p e below T (mkF m pc Ls st) s1 m A N) (hd : decode c.code pc = .ok (.aload_n n, 1)) (hl : Ls[n.val]? = some (.val .null)) : Rt p e below T (mkF m (pc + 1) Ls (.null :: st)) s1 m A N := fun t q => k t (XS.aloadN X.here hx rfl hd hl rfl q)
theorem f_nsN {n : Fin 4} {l' : Array Slot} (X : Stand p l e R s m args below meth c T locs cells slots) (hx : p.tables.exec = Jvm.exec) (k : Rt p e below T (mkF m pc Ls (.null :: st)) s1 m A N) (hd : decode c.code pc = .ok (.astore_n n, 1)) (hl : storeLocals Ls n.val .null = some l') : Rt p e below T (mkF m (pc + 1) l' st) s1 m A N := fun t q => k t (XS.astoreN X.here hx rfl hd rfl rfl hl q)
theorem f_nl {n : Nat} (X : Stand p l e R s m args below meth c T locs cells slots) (hx : p.tables.exec = Jvm.exec) (k : Rt p e below T (mkF m pc Ls st) s1 m A N) (hd : decode c.code pc = .ok (.aload n, 2)) (hl : Ls[n]? = some (.val .null)) : Rt p e below T (mkF m (pc + 2) Ls (.null :: st)) s1 m A N := fun t q => k t (XS.aload X.here hx rfl hd hl rfl q)
theorem f_ns {n : Nat} {l' : Array Slot} (X : Stand p l e R s m args below meth c T locs cells slots) (hx : p.tables.exec = Jvm.exec) (k : Rt p e below T (mkF m pc Ls (.null :: st)) s1 m A N) (hd : decode c.code pc = .ok (.astore n, 2)) (hl : storeLocals Ls n .null = some l') : Rt p e below T (mkF m (pc + 2) l' st) s1 m A N := fun t q => k t (XS.astore X.here hx rfl hd rfl rfl hl q)
theorem f_an (X : Stand p l e R s m args below meth c T locs cells slots) (hx : p.tables.exec = Jvm.exec) (k : Rt p e below T (mkF m pc Ls st) s1 m A N) (hd : decode c.code pc = .ok (.aconst_null, 1)) : Rt p e below T (mkF m (pc + 1) Ls (.null :: st)) s1 m A N := fun t q => k t (XS.aconstNull X.here hx rfl hd q)
theorem f_pop {u : Value} (X : Stand p l e R s m args below meth c T locs cells slots) (hx : p.tables.exec = Jvm.exec) (k : Rt p e below T (mkF m pc Ls (u :: st)) s1 m A N) (hd : decode c.code pc = .ok (.pop, 1)) (hc : u.category = 1) : Rt p e below T (mkF m (pc + 1) Ls st) s1 m A N := fun t q => k t (XS.pop X.here hx rfl hd rfl hc q)
theorem f_inc {n : Nat} {i : Int} {v : Int32} {l' : Array Slot} (X : Stand p l e R s m args below meth c T locs cells slots) (hx : p.tables.exec = Jvm.exec) (k : Rt p e below T (mkF m pc Ls st) s1 m A N) (hd : decode c.code pc = .ok (.iinc n i, 3)) (hl : Ls[n]? = some (.val (.int v))) (hl' : storeLocals Ls n (.int (v + Int32.ofInt i)) = some l') : Rt p e below T (mkF m (pc + 3) l' st) s1 m A N := fun t q => k t (XS.iinc X.here hx rfl hd hl hl' q)
theorem f_dup {u : Value} (X : Stand p l e R s m args below meth c T locs cells slots) (hx : p.tables.exec = Jvm.exec) (k : Rt p e below T (mkF m pc Ls (u :: st)) s1 m A N) (hd : decode c.code pc = .ok (.dup, 1)) (hc : u.category = 1) : Rt p e below T (mkF m (pc + 1) Ls (u :: u :: st)) s1 m A N := fun t q => k t (XS.dup X.here hx rfl hd rfl hc q)
theorem f_dupX1 {u v : Value} (X : Stand p l e R s m args below meth c T locs cells slots) (hx : p.tables.exec = Jvm.exec) (k : Rt p e below T (mkF m pc Ls (u :: v :: st)) s1 m A N) (hd : decode c.code pc = .ok (.dup_x1, 1)) (hc : u.category = 1) (hc' : v.category = 1) : Rt p e below T (mkF m (pc + 1) Ls (u :: v :: u :: st)) s1 m A N := fun t q => k t (XS.dupX1 X.here hx rfl hd rfl hc hc' q)
theorem f_go {i : Int} {pc' : Nat} (X : Stand p l e R s m args below meth c T locs cells slots) (hx : p.tables.exec = Jvm.exec) (k : Rt p e below T (mkF m pc Ls st) s1 m A N) (hd : decode c.code pc = .ok (.goto i, 3)) (hp : 0 ≤ (pc : Int) + i ∧ ((pc : Int) + i).toNat = pc') : Rt p e below T (mkF m pc' Ls st) s1 m A N := fun t q => k t (XS.goto X.here hx rfl (pc0 := pc) rfl hd hp.1 hp.2 q)
theorem f_ifY {i : Int} {pc' : Nat} {cd : ClassFile.Cond} {u : Int32} (X : Stand p l e R s m args below meth c T locs cells slots) (hx : p.tables.exec = Jvm.exec) (k : Rt p e below T (mkF m pc Ls (.int u :: st)) s1 m A N) (hd : decode c.code pc = .ok (.ifCond cd i, 3)) (hc : ifCond.holds cd u = true) (hp : 0 ≤ (pc : Int) + i ∧ ((pc : Int) + i).toNat = pc') : Rt p e below T (mkF m pc' Ls st) s1 m A N := fun t q => k t (XS.ifYes X.here hx rfl (pc0 := pc) rfl hd rfl hc hp.1 hp.2 q)
theorem f_ifN {i : Int} {cd : ClassFile.Cond} {u : Int32} (X : Stand p l e R s m args below meth c T locs cells slots) (hx : p.tables.exec = Jvm.exec) (k : Rt p e below T (mkF m pc Ls (.int u :: st)) s1 m A N) (hd : decode c.code pc = .ok (.ifCond cd i, 3)) (hc : ifCond.holds cd u = false) : Rt p e below T (mkF m (pc + 3) Ls st) s1 m A N := fun t q => k t (XS.ifNo X.here hx rfl hd rfl hc q)
theorem f_icY {i : Int} {pc' : Nat} {cd : ClassFile.Cond} {u v : Int32} (X : Stand p l e R s m args below meth c T locs cells slots) (hx : p.tables.exec = Jvm.exec) (k : Rt p e below T (mkF m pc Ls (.int v :: .int u :: st)) s1 m A N) (hd : decode c.code pc = .ok (.if_icmp cd i, 3)) (hc : if_icmp.holds cd u v = true) (hp : 0 ≤ (pc : Int) + i ∧ ((pc : Int) + i).toNat = pc') : Rt p e below T (mkF m pc' Ls st) s1 m A N := fun t q => k t (XS.icmpYes X.here hx rfl (pc0 := pc) rfl hd rfl hc hp.1 hp.2 q)
theorem f_icN {i : Int} {cd : ClassFile.Cond} {u v : Int32} (X : Stand p l e R s m args below meth c T locs cells slots) (hx : p.tables.exec = Jvm.exec) (k : Rt p e below T (mkF m pc Ls (.int v :: .int u :: st)) s1 m A N) (hd : decode c.code pc = .ok (.if_icmp cd i, 3)) (hc : if_icmp.holds cd u v = false) : Rt p e below T (mkF m (pc + 3) Ls st) s1 m A N := fun t q => k t (XS.icmpNo X.here hx rfl hd rfl hc q)
theorem f_inY {i : Int} {pc' : Nat} (X : Stand p l e R s m args below meth c T locs cells slots) (hx : p.tables.exec = Jvm.exec) (k : Rt p e below T (mkF m pc Ls (.null :: st)) s1 m A N) (hd : decode c.code pc = .ok (.ifnull i, 3)) (hp : 0 ≤ (pc : Int) + i ∧ ((pc : Int) + i).toNat = pc') : Rt p e below T (mkF m pc' Ls st) s1 m A N := fun t q => k t (XS.ifnullYes X.here hx rfl (pc0 := pc) rfl hd rfl hp.1 hp.2 q)
theorem f_inN {i : Int} {a : Addr} (X : Stand p l e R s m args below meth c T locs cells slots) (hx : p.tables.exec = Jvm.exec) (k : Rt p e below T (mkF m pc Ls (.ref a :: st)) s1 m A N) (hd : decode c.code pc = .ok (.ifnull i, 3)) : Rt p e below T (mkF m (pc + 3) Ls st) s1 m A N := fun t q => k t (XS.ifnullNo X.here hx rfl hd rfl q)
theorem f_nnY {i : Int} {pc' : Nat} {a : Addr} (X : Stand p l e R s m args below meth c T locs cells slots) (hx : p.tables.exec = Jvm.exec) (k : Rt p e below T (mkF m pc Ls (.ref a :: st)) s1 m A N) (hd : decode c.code pc = .ok (.ifnonnull i, 3)) (hp : 0 ≤ (pc : Int) + i ∧ ((pc : Int) + i).toNat = pc') : Rt p e below T (mkF m pc' Ls st) s1 m A N := fun t q => k t (XS.ifnonnullYes X.here hx rfl (pc0 := pc) rfl hd rfl hp.1 hp.2 q)
theorem f_nnN {i : Int} (X : Stand p l e R s m args below meth c T locs cells slots) (hx : p.tables.exec = Jvm.exec) (k : Rt p e below T (mkF m pc Ls (.null :: st)) s1 m A N) (hd : decode c.code pc = .ok (.ifnonnull i, 3)) : Rt p e below T (mkF m (pc + 3) Ls st) s1 m A N := fun t q => k t (XS.ifnonnullNo X.here hx rfl hd rfl q)
theorem f_lsw {u : Int32} {df x y : Int} {ps : Array (Int × Int)} {ln pc' : Nat} (X : Stand p l e R s m args below meth c T locs cells slots) (hx : p.tables.exec = Jvm.exec) (k : Rt p e below T (mkF m pc Ls (.int u :: st)) s1 m A N) (hd : decode c.code pc = .ok (.lookupswitch df ps, ln)) (hs : (ps.toList.zip (ps.toList.drop 1)).all (fun (a, next) => a.1 < next.1) = true) (hf : ps.find? (·.1 == u.toInt) = some (x, y)) (hp : 0 ≤ (pc : Int) + y ∧ ((pc : Int) + y).toNat = pc') : Rt p e below T (mkF m pc' Ls st) s1 m A N := by obtain ⟨hp1, rfl⟩ := hp; exact fun t q => k t (X.lookupswitchHit hx (g := mkF m pc Ls (.int u :: st)) rfl rfl hd hs hf hp1 t q)
theorem f_dc {i : CmpOp} {u v : UInt64} (X : Stand p l e R s m args below meth c T locs cells slots) (hx : p.tables.exec = Jvm.exec) (k : Rt p e below T (mkF m pc Ls (.double v :: .double u :: st)) s1 m A N) (hd : decode c.code pc = .ok (.dcmp i, 1)) : Rt p e below T (mkF m (pc + 1) Ls (.int (cmpValue (FP.dcmp u v) i) :: st)) s1 m A N := fun t q => k t (XS.dcmpS X.here hx rfl hd rfl rfl q)
theorem f_ddiv {u v : UInt64} (X : Stand p l e R s m args below meth c T locs cells slots) (hx : p.tables.exec = Jvm.exec) (k : Rt p e below T (mkF m pc Ls (.double v :: .double u :: st)) s1 m A N) (hd : decode c.code pc = .ok (.ddiv, 1)) (hn : Jvm.Free.Fl.NoNaN64 (FP.ddiv u v)) : Rt p e below T (mkF m (pc + 1) Ls (.double (FP.ddiv u v) :: st)) s1 m A N := fun t q => k t (XS.ddivS X.here hx rfl hd rfl hn rfl q)
theorem f_i2d {u : Int32} (X : Stand p l e R s m args below meth c T locs cells slots) (hx : p.tables.exec = Jvm.exec) (k : Rt p e below T (mkF m pc Ls (.int u :: st)) s1 m A N) (hd : decode c.code pc = .ok (.i2d, 1)) : Rt p e below T (mkF m (pc + 1) Ls (.double (FP.i2d u) :: st)) s1 m A N := fun t q => k t (XS.i2dS X.here hx rfl hd rfl rfl q)
theorem f_len {Z : State} {h : Heap} {a : Addr} {kk : ClassId} {ty : FieldType} {n : Int32} {vs : List Value} {dv : Value} (X : Stand p l e R s m args below meth c T locs cells slots) (hx : p.tables.exec = Jvm.exec) (hZ : Z.Warmed39 s.vm) (eT : T.heap = h) (V : Arv Z h a kk ty n vs dv) (k : Rt p e below T (mkF m pc Ls (.ref a :: st)) s1 m A N) (hd : decode c.code pc = .ok (.arraylength, 1)) : Rt p e below T (mkF m (pc + 1) Ls (.int n :: st)) s1 m A N := by
 obtain ⟨cc, Ar, -, As, An, -, -⟩ := V
 exact fun t w => k t (X.arraylength hx (by rw [eT]; exact Ar.1) (State.isArrayOf_alike hZ.alike Ar.2.1) (g := mkF m pc Ls (.ref a :: st)) rfl rfl hd _ (by rw [len_of As An]; exact w))
theorem f_ial {Z : State} {h : Heap} {a : Addr} {kk : ClassId} {n j : Int32} {vs : List Value} {dv : Value} {v : Int32} (X : Stand p l e R s m args below meth c T locs cells slots) (hx : p.tables.exec = Jvm.exec) (hZ : Z.Warmed39 s.vm) (eT : T.heap = h) (V : Arv Z h a kk .int n vs dv) (k : Rt p e below T (mkF m pc Ls (.int j :: .ref a :: st)) s1 m A N) (hd : decode c.code pc = .ok (.iaload, 1)) (q : ¬ j < 0 ∧ j < n) (u : vs.getD j.toNatClampNeg dv = .int v) : Rt p e below T (mkF m (pc + 1) Ls (.int v :: st)) s1 m A N := by
 obtain ⟨cc, Ar, -, As, -, Ah, -⟩ := V
 exact fun t w => k t (X.iaload hx (by rw [eT]; exact Ar.1) (State.isArrayOf_alike hZ.alike Ar.2.1) Ar.2.2 (inb_of As q) (Has.at Ah (inb_of As q) u) (g := mkF m pc Ls (.int j :: .ref a :: st)) rfl rfl hd _ w)
theorem f_aal {Z : State} {h : Heap} {a : Addr} {kk : ClassId} {ty : FieldType} {n j : Int32} {vs : List Value} {dv v : Value} (X : Stand p l e R s m args below meth c T locs cells slots) (hx : p.tables.exec = Jvm.exec) (hZ : Z.Warmed39 s.vm) (eT : T.heap = h) (V : Arv Z h a kk ty n vs dv) (k : Rt p e below T (mkF m pc Ls (.int j :: .ref a :: st)) s1 m A N) (hd : decode c.code pc = .ok (.aaload, 1)) (ht : ty.isReference = true) (q : ¬ j < 0 ∧ j < n) (u : vs.getD j.toNatClampNeg dv = v) : Rt p e below T (mkF m (pc + 1) Ls (v :: st)) s1 m A N := by
 obtain ⟨cc, Ar, -, As, -, Ah, -⟩ := V
 exact fun t w => k t (X.aaload hx (by rw [eT]; exact Ar.1) (State.isArrayOf_alike hZ.alike Ar.2.1) ht Ar.2.2 (inb_of As q) (Has.at Ah (inb_of As q) u) (g := mkF m pc Ls (.int j :: .ref a :: st)) rfl rfl hd _ w)
theorem f_ast {Z : State} {h : Heap} {a : Addr} {kk : ClassId} {ty : FieldType} {n j : Int32} {vs : List Value} {dv v : Value} {n0 : Nat} (X : Stand p l e R s m args below meth c T locs cells slots) (hx : p.tables.exec = Jvm.exec) (hZ : Z.Warmed39 s.vm) (eT : T.heap = h) (V : Arv Z h a kk ty n vs dv) (NF : Fr n0 locs) (ga : n0 ≤ a) (zs : n0 ≤ h.size) (k : Rt p e below T (mkF m pc Ls (v :: .int j :: .ref a :: st)) s1 m A N) (hd : decode c.code pc = .ok (.aastore, 1)) (ht : ty.isReference = true) (hf : fits ty v = true) (F : ∀ cc, Arr Z h a cc ty → cc.cls = kk → Sto Z h a v) (q : ¬ j < 0 ∧ j < n) (i : Nat) (hj : j.toNatClampNeg = i) (hi : i < vs.length) : ∃ T' h' L', Stand p l e R s m args below meth c T' L' cells slots ∧ T'.heap = h' ∧ Wr h h' a j.toNatClampNeg v ∧ Arv Z h' a kk ty n (vs.set i v) dv ∧ Fr n0 L' ∧ n0 ≤ h'.size ∧ Rt p e below T' (mkF m (pc + 1) Ls st) s1 m A N := by
 obtain ⟨cc, Ar, Aq, As, An, Ah, Ag⟩ := id V
 obtain ⟨T', h', X', e', W, sx⟩ := stR X hx hZ eT Ar (j := j) (inb_of As q) ht (F cc Ar Aq) (g := mkF m pc Ls (v :: .int j :: .ref a :: st)) rfl rfl hd
 exact ⟨T', h', _, X', e', W, Arv.set Ar Aq As An Ah Ag hf W i hj hi, Fr.snoc X' NF ga, Nat.le_trans zs (Nat.le_of_eq W.size.symm), fun t w => k t (sx t w)⟩
theorem f_cln {Z : State} {a0 : Array Value} {h : Heap} {a : Addr} {kk : ClassId} {ty : FieldType} {n : Int32} {vs : List Value} {dv : Value} {own ad : String} {index : Nat} (X : Stand p l e R s m args below meth c T locs cells slots) (hx : p.tables.exec = Jvm.exec) (hZ : Z.Warmed39 s.vm) (hown : s.vm.findClass own = some m.cls)
 (w1 : (Cond.methodLink own index ⟨ad, "clone", "()Ljava/lang/Object;"⟩).before a0 Z = true) (w2 : (Cond.sameMethod ad "java/lang/Object" "clone" "()Ljava/lang/Object;").before a0 Z = true) (w3 : (Cond.native ⟨"java/lang/Object", "clone", "()Ljava/lang/Object;"⟩).before a0 Z = true)
 (w4 : (Cond.instanceMethod ⟨"java/lang/Object", "clone", "()Ljava/lang/Object;"⟩).before a0 Z = true) (w5 : (Cond.selects ad ⟨ad, "clone", "()Ljava/lang/Object;"⟩ ⟨"java/lang/Object", "clone", "()Ljava/lang/Object;"⟩).before a0 Z = true) (w6 : (Cond.castable ad "java/lang/Cloneable").before a0 Z = true)
 (eT : T.heap = h) (F : Arv Z h a kk ty n vs dv) (E : Exa Z h a ad) {g : JFrame} (hg : g.method = m) (hsize : g.locals.size = c.maxLocals) {rest : List Value} (hst : g.stack = .ref a :: rest) (hd : decode c.code g.pc = .ok (.invokevirtual index, 3))
 (hf : 1 ≤ R.frames) {W cap : Nat} (hW : 2 * g.monitorRoom + (rest.map fun v => v.category).sum ≤ W) (hl : W + 14 ≤ R.locals) (hcap : n.toNatClampNeg ≤ cap) (hc : cells + 1 ≤ R.cells) (hsl : slots + cap ≤ R.slots) :
 ∃ T' h', Stand p l e R s m args below meth c T' locs (cells + 1) (slots + cap) ∧ T'.heap = h' ∧ Ext h h' ∧ Arv Z h' h.size kk ty n vs dv ∧ Exa Z h' h.size ad ∧
 ∀ target, Steps p.tables e below (T'.setTop { g with pc := g.pc + 3, stack := .ref h.size :: rest }) target → Steps p.tables e below (T.setTop g) target := by
 obtain ⟨cl, A, q1, S, q3, H, G⟩ := F
 have FC : FitC Z cl := fitC_of A fun i hi v hv => by rw [H i hi] at hv; cases hv; exact G i hi
 obtain ⟨T', h', X', e', ex, A', E', sx⟩ := cloneA X hx hZ hown w1 w2 w3 w4 w5 w6 eT A E FC hg hsize hst hd hf hW hl (by rw [S]; exact hcap) hc hsl
 exact ⟨T', h', X', e', ex, ⟨cloneOf cl, A', q1, S, q3, H, G⟩, E', sx⟩
theorem f_ist {Z : State} {h : Heap} {a : Addr} {kk : ClassId} {n j : Int32} {vs : List Value} {dv : Value} {v : Int32} {n0 : Nat} (X : Stand p l e R s m args below meth c T locs cells slots) (hx : p.tables.exec = Jvm.exec) (hZ : Z.Warmed39 s.vm) (eT : T.heap = h) (V : Arv Z h a kk .int n vs dv) (NF : Fr n0 locs) (ga : n0 ≤ a) (zs : n0 ≤ h.size) (k : Rt p e below T (mkF m pc Ls (.int v :: .int j :: .ref a :: st)) s1 m A N) (hd : decode c.code pc = .ok (.iastore, 1)) (q : ¬ j < 0 ∧ j < n) (i : Nat) (hj : j.toNatClampNeg = i) (hi : i < vs.length) : ∃ T' h' L', Stand p l e R s m args below meth c T' L' cells slots ∧ T'.heap = h' ∧ Wr h h' a j.toNatClampNeg (.int v) ∧ Arv Z h' a kk .int n (vs.set i (.int v)) dv ∧ Fr n0 L' ∧ n0 ≤ h'.size ∧ Rt p e below T' (mkF m (pc + 1) Ls st) s1 m A N := by
 obtain ⟨cc, Ar, Aq, As, An, Ah, Ag⟩ := id V
 obtain ⟨T', h', X', e', W, sx⟩ := stI X hx hZ eT Ar (j := j) (inb_of As q) (g := mkF m pc Ls (.int v :: .int j :: .ref a :: st)) rfl rfl hd
 exact ⟨T', h', _, X', e', W, Arv.set Ar Aq As An Ah Ag rfl W i hj hi, Fr.snoc X' NF ga, Nat.le_trans zs (Nat.le_of_eq W.size.symm), fun t w => k t (sx t w)⟩
end
section
variable {p : Program} {l : Launch} {e : Env} {R : Room} {s : State} {m : MethodId} {args : Array Value} {below : List Frame} {meth : Method} {c : Code} {T : State} {locs : List Loc} {cells slots : Nat} {s1 : State} {A : Array Value} {N pc : Nat} {Ls : Array Slot} {st : List Value}
variable {Z : State} {a0 : Array Value} {h : Heap} {own : String} {index : Nat} {y : MethodName} {bn : ByteArray} {ml : Nat} {rt : Option FieldType} {R' : Room} {A' : Array Value} {Q : Option Value → Heap → List Loc → Prop} {argsL rest : List Value} {W : Nat}
theorem c_S  (X : Stand p l e R s m args below meth c T locs cells slots) (hx : p.tables.exec = Jvm.exec) (hZ : Z.Warmed39 s.vm) (hown : s.vm.findClass own = some m.cls) (w1 : (Cond.methodLink own index y).before a0 Z = true) (w2 : (Cond.static y).before a0 Z = true) (w3 : (Cond.initialized y.cls).before a0 Z = true) (w4 : (Cond.code y bn ml rt).before a0 Z = true) (hy : y.cls ≠ "java/lang/invoke/MethodHandle" ∧ y.cls ≠ "java/lang/invoke/VarHandle") (M : Met l y bn ml rt [] R' A' Z h Q) (eT : T.heap = h) (ha : (argsL).toArray = A') (hsz : Ls.size = c.maxLocals) (k : Rt p e below T (mkF m pc Ls st) s1 m A N) (hs : st = argsL.reverse ++ rest) (hd : decode c.code pc = .ok (.invokestatic index, 3)) (hlen : ∀ sig, parseMethodDescriptor y.desc = some sig → argsL.length = sig.parameters.length) (hr : (rest.map fun v => v.category).sum ≤ W ∧ R'.frames + 1 ≤ R.frames ∧ W + (ml + 11) + R'.locals ≤ R.locals ∧ cells + R'.cells ≤ R.cells ∧ slots + R'.slots ≤ R.slots) : ∃ v T' L', Stand p l e R s m args below meth c T' (locs ++ L') (cells + R'.cells) (slots + R'.slots) ∧ Q v T'.heap L' ∧ Rt p e below T' (mkF m (pc + 3) Ls (v.toList ++ rest)) s1 m A N := by
 subst hs
 obtain ⟨hW, hf, hl, hc, hsl⟩ := hr
 obtain ⟨v, _, ⟨T', L', k', n'⟩, -, X', ⟨Lc, hQ, e1, e2, e3⟩, sx⟩ := Jvm.LawKit.callS X hx (y := y) hown (mvT hZ w1) (mvT hZ w2) (mvT hZ w3) (mvT hZ w4) hy (backOf (W := W) M hZ w4 w3 hf hl) (g := mkF m pc Ls (argsL.reverse ++ rest)) rfl hsz (argsL := argsL) (rest := rest) hlen rfl (by show 2 * 0 + _ ≤ _; omega) hd (fun _ _ => ⟨ha, eT, hc, hsl⟩)
 dsimp only [Pt.U, Pt.locs, Pt.cells, Pt.slots] at X' e1 e2 e3 sx hQ
 subst e1 e2 e3
 exact ⟨v, T', Lc, X', hQ, fun t q => k t (sx t q)⟩
theorem c_N {b : Addr} (X : Stand p l e R s m args below meth c T locs cells slots) (hx : p.tables.exec = Jvm.exec) (hZ : Z.Warmed39 s.vm) (hown : s.vm.findClass own = some m.cls) (w1 : (Cond.methodLink own index y).before a0 Z = true) (w2 : (Cond.instanceMethod y).before a0 Z = true) (w3 : (Cond.code y bn ml none).before a0 Z = true) (w4 : (Cond.initialized y.cls).before a0 Z = true) (hn : y.name = "<init>") (hy : y.cls ≠ "java/lang/invoke/MethodHandle" ∧ y.cls ≠ "java/lang/invoke/VarHandle") (M : Met l y bn ml none [] R' A' Z h Q) (eT : T.heap = h) (ha : (.ref b :: argsL).toArray = A') (hsz : Ls.size = c.maxLocals) (k : Rt p e below T (mkF m pc Ls st) s1 m A N) (hs : st = argsL.reverse ++ .ref b :: rest) (hd : decode c.code pc = .ok (.invokespecial index, 3)) (hlen : ∀ sig, parseMethodDescriptor y.desc = some sig → argsL.length = sig.parameters.length) (hr : (rest.map fun v => v.category).sum ≤ W ∧ R'.frames + 1 ≤ R.frames ∧ W + (ml + 11) + R'.locals ≤ R.locals ∧ cells + R'.cells ≤ R.cells ∧ slots + R'.slots ≤ R.slots) : ∃ v T' L', Stand p l e R s m args below meth c T' (locs ++ L') (cells + R'.cells) (slots + R'.slots) ∧ Q v T'.heap L' ∧ Rt p e below T' (mkF m (pc + 3) Ls (v.toList ++ rest)) s1 m A N := by
 subst hs
 obtain ⟨hW, hf, hl, hc, hsl⟩ := hr
 obtain ⟨v, _, ⟨T', L', k', n'⟩, -, X', ⟨Lc, hQ, e1, e2, e3⟩, sx⟩ := X.specialBack hx (y := y) hn hown (mvT hZ w1) (mvT hZ w2) (mvT hZ w3) hy (backOf (W := W) M hZ w3 w4 hf hl) (g := mkF m pc Ls (argsL.reverse ++ .ref b :: rest)) rfl hsz (Steps.refl _) (a := b) (argsL := argsL) (rest := rest) hlen rfl (by show 2 * 0 + _ ≤ _; omega) hd (fun _ _ => ⟨ha, eT, hc, hsl⟩)
 dsimp only [Pt.U, Pt.locs, Pt.cells, Pt.slots] at X' e1 e2 e3 sx hQ
 subst e1 e2 e3
 exact ⟨v, T', Lc, X', hQ, fun t q => k t (sx.trans q)⟩
theorem c_V {b : Addr} {C : String} {x : MethodName} (X : Stand p l e R s m args below meth c T locs cells slots) (hx : p.tables.exec = Jvm.exec) (hZ : Z.Warmed39 s.vm) (hown : s.vm.findClass own = some m.cls) (w1 : (Cond.methodLink own index x).before a0 Z = true) (w2 : (Cond.declares x).before a0 Z = true) (nf : Free.NotFace s x) (w3 : (Cond.selects C x y).before a0 Z = true) (w4 : (Cond.instanceMethod y).before a0 Z = true) (w5 : (Cond.code y bn ml rt).before a0 Z = true) (w6 : (Cond.initialized y.cls).before a0 Z = true) (hy : x.cls ≠ "java/lang/invoke/MethodHandle" ∧ x.cls ≠ "java/lang/invoke/VarHandle") (E : Exa Z h b C) (M : Met l y bn ml rt [] R' A' Z h Q) (eT : T.heap = h) (ha : (.ref b :: argsL).toArray = A') (hsz : Ls.size = c.maxLocals) (k : Rt p e below T (mkF m pc Ls st) s1 m A N) (hs : st = argsL.reverse ++ .ref b :: rest) (hd : decode c.code pc = .ok (.invokevirtual index, 3)) (hlen : ∀ sig, parseMethodDescriptor x.desc = some sig → argsL.length = sig.parameters.length) (hr : (rest.map fun v => v.category).sum ≤ W ∧ R'.frames + 1 ≤ R.frames ∧ W + (ml + 11) + R'.locals ≤ R.locals ∧ cells + R'.cells ≤ R.cells ∧ slots + R'.slots ≤ R.slots) : ∃ v T' L', Stand p l e R s m args below meth c T' (locs ++ L') (cells + R'.cells) (slots + R'.slots) ∧ Q v T'.heap L' ∧ Rt p e below T' (mkF m (pc + 3) Ls (v.toList ++ rest)) s1 m A N := by
 subst hs
 obtain ⟨hW, hf, hl, hc, hsl⟩ := hr
 obtain ⟨cB, kB, q1, q2, q3⟩ := isOf hZ eT E
 obtain ⟨v, _, ⟨T', L', k', n'⟩, -, X', ⟨Lc, hQ, e1, e2, e3⟩, sx⟩ := X.virtualBack hx (y := x) (z := y) hown (mvT hZ w1) (mvT hZ w2) nf (mvT hZ w3) (mvT hZ w4) hy (backOf (W := W) M hZ w5 w6 hf hl) q1 q3 (g := mkF m pc Ls (argsL.reverse ++ .ref b :: rest)) rfl hsz (Steps.refl _) (argsL := argsL) (rest := rest) hlen rfl (by show 2 * 0 + _ ≤ _; omega) hd (fun _ _ => ⟨ha, eT, hc, hsl⟩)
 dsimp only [Pt.U, Pt.locs, Pt.cells, Pt.slots] at X' e1 e2 e3 sx hQ
 subst e1 e2 e3
 exact ⟨v, T', Lc, X', hQ, fun t q => k t (sx.trans q)⟩
theorem c_U {b : Addr} {C ow : String} {x : MethodName} (X : Stand p l e R s m args below meth c T locs cells slots) (hx : p.tables.exec = Jvm.exec) (hZ : Z.Warmed39 s.vm) (hown : s.vm.findClass own = some m.cls) (w1 : (Cond.methodLink own index x).before a0 Z = true) (w2 : (Cond.sameMethod x.cls ow x.name x.desc).before a0 Z = true) (w2' : (Cond.declares ⟨ow, x.name, x.desc⟩).before a0 Z = true) (ho : ow ≠ "java/lang/invoke/MethodHandle" ∧ ow ≠ "java/lang/invoke/VarHandle") (w3 : (Cond.selects C x y).before a0 Z = true) (w4 : (Cond.instanceMethod y).before a0 Z = true) (w5 : (Cond.code y bn ml rt).before a0 Z = true) (w6 : (Cond.initialized y.cls).before a0 Z = true) (E : Exa Z h b C) (M : Met l y bn ml rt [] R' A' Z h Q) (eT : T.heap = h) (ha : (.ref b :: argsL).toArray = A') (hsz : Ls.size = c.maxLocals) (k : Rt p e below T (mkF m pc Ls st) s1 m A N) (hs : st = argsL.reverse ++ .ref b :: rest) (hd : decode c.code pc = .ok (.invokevirtual index, 3)) (hlen : ∀ sig, parseMethodDescriptor x.desc = some sig → argsL.length = sig.parameters.length) (hr : (rest.map fun v => v.category).sum ≤ W ∧ R'.frames + 1 ≤ R.frames ∧ W + (ml + 11) + R'.locals ≤ R.locals ∧ cells + R'.cells ≤ R.cells ∧ slots + R'.slots ≤ R.slots) : ∃ v T' L', Stand p l e R s m args below meth c T' (locs ++ L') (cells + R'.cells) (slots + R'.slots) ∧ Q v T'.heap L' ∧ Rt p e below T' (mkF m (pc + 3) Ls (v.toList ++ rest)) s1 m A N := by
 subst hs
 obtain ⟨hW, hf, hl, hc, hsl⟩ := hr
 obtain ⟨cB, kB, q1, q2, q3⟩ := isOf hZ eT E
 obtain ⟨v, _, ⟨T', L', k', n'⟩, -, X', ⟨Lc, hQ, e1, e2, e3⟩, sx⟩ := X.virtualBackUp hx (x := x) (y := y) hown (mvT hZ w1) (mvT hZ w2) (mvT hZ w2') ho (mvT hZ w3) (mvT hZ w4) (backOf (W := W) M hZ w5 w6 hf hl) q1 q3 (g := mkF m pc Ls (argsL.reverse ++ .ref b :: rest)) rfl hsz (Steps.refl _) (argsL := argsL) (rest := rest) hlen rfl (by show 2 * 0 + _ ≤ _; omega) hd (fun _ _ => ⟨ha, eT, hc, hsl⟩)
 dsimp only [Pt.U, Pt.locs, Pt.cells, Pt.slots] at X' e1 e2 e3 sx hQ
 subst e1 e2 e3
 exact ⟨v, T', Lc, X', hQ, fun t q => k t (sx.trans q)⟩
theorem c_P {b : Addr} {C : String} (X : Stand p l e R s m args below meth c T locs cells slots) (hx : p.tables.exec = Jvm.exec) (hZ : Z.Warmed39 s.vm) (hown : s.vm.findClass own = some m.cls) (w1 : (Cond.methodLink own index y).before a0 Z = true) (w2 : (Cond.instanceMethod y).before a0 Z = true) (hsel : (Cond.selects y.cls y y).before args s = true) (hp : s.PrivateAt y) (w3 : (Cond.code y bn ml rt).before a0 Z = true) (w4 : (Cond.initialized y.cls).before a0 Z = true) (hy : y.cls ≠ "java/lang/invoke/MethodHandle" ∧ y.cls ≠ "java/lang/invoke/VarHandle") (E : Exa Z h b C) (M : Met l y bn ml rt [] R' A' Z h Q) (eT : T.heap = h) (ha : (.ref b :: argsL).toArray = A') (hsz : Ls.size = c.maxLocals) (k : Rt p e below T (mkF m pc Ls st) s1 m A N) (hs : st = argsL.reverse ++ .ref b :: rest) (hd : decode c.code pc = .ok (.invokevirtual index, 3)) (hlen : ∀ sig, parseMethodDescriptor y.desc = some sig → argsL.length = sig.parameters.length) (hr : (rest.map fun v => v.category).sum ≤ W ∧ R'.frames + 1 ≤ R.frames ∧ W + (ml + 11) + R'.locals ≤ R.locals ∧ cells + R'.cells ≤ R.cells ∧ slots + R'.slots ≤ R.slots) : ∃ v T' L', Stand p l e R s m args below meth c T' (locs ++ L') (cells + R'.cells) (slots + R'.slots) ∧ Q v T'.heap L' ∧ Rt p e below T' (mkF m (pc + 3) Ls (v.toList ++ rest)) s1 m A N := by
 subst hs
 obtain ⟨hW, hf, hl, hc, hsl⟩ := hr
 obtain ⟨cq, q1, q2⟩ := E.cell
 obtain ⟨v, _, ⟨T', L', k', n'⟩, -, X', ⟨Lc, hQ, e1, e2, e3⟩, sx⟩ := X.privateBack hx (y := y) hown (mvT hZ w1) (mvT hZ w2) hsel hp (mvT hZ w3) hy (backOf (W := W) M hZ w3 w4 hf hl) (g := mkF m pc Ls (argsL.reverse ++ .ref b :: rest)) rfl hsz (Steps.refl _) (a := b) (by rw [eT]; exact q1) q2 (argsL := argsL) (rest := rest) hlen rfl (by show 2 * 0 + _ ≤ _; omega) hd (fun _ _ => ⟨ha, eT, hc, hsl⟩)
 dsimp only [Pt.U, Pt.locs, Pt.cells, Pt.slots] at X' e1 e2 e3 sx hQ
 subst e1 e2 e3
 exact ⟨v, T', Lc, X', hQ, fun t q => k t (sx.trans q)⟩
theorem c_I {b : Addr} {C : String} {x : MethodName} {cnt : Nat} (X : Stand p l e R s m args below meth c T locs cells slots) (hx : p.tables.exec = Jvm.exec) (hZ : Z.Warmed39 s.vm) (hown : s.vm.findClass own = some m.cls) (w1 : (Cond.methodLink own index x).before a0 Z = true) (w2 : (Cond.declares x).before a0 Z = true) (w3 : (Cond.interfaceMethod x.cls x.cls x.name x.desc).before a0 Z = true) (w4 : (Cond.selects C x y).before a0 Z = true) (w5 : (Cond.instanceMethod y).before a0 Z = true) (w6 : (Cond.publicMethod y).before a0 Z = true) (w7 : (Cond.unhidden C x.name x.desc).before a0 Z = true) (w8 : (Cond.castable C x.cls).before a0 Z = true) (w9 : (Cond.code y bn ml rt).before a0 Z = true) (w10 : (Cond.initialized y.cls).before a0 Z = true) (hy : x.cls ≠ "java/lang/invoke/MethodHandle" ∧ x.cls ≠ "java/lang/invoke/VarHandle") (E : Exa Z h b C) (M : Met l y bn ml rt [] R' A' Z h Q) (eT : T.heap = h) (ha : (.ref b :: argsL).toArray = A') (hsz : Ls.size = c.maxLocals) (k : Rt p e below T (mkF m pc Ls st) s1 m A N) (hs : st = argsL.reverse ++ .ref b :: rest) (hd : decode c.code pc = .ok (.invokeinterface index cnt, 5)) (hlen : ∀ sig, parseMethodDescriptor x.desc = some sig → argsL.length = sig.parameters.length) (hr : (rest.map fun v => v.category).sum ≤ W ∧ R'.frames + 1 ≤ R.frames ∧ W + (ml + 11) + R'.locals ≤ R.locals ∧ cells + R'.cells ≤ R.cells ∧ slots + R'.slots ≤ R.slots) : ∃ v T' L', Stand p l e R s m args below meth c T' (locs ++ L') (cells + R'.cells) (slots + R'.slots) ∧ Q v T'.heap L' ∧ Rt p e below T' (mkF m (pc + 5) Ls (v.toList ++ rest)) s1 m A N := by
 subst hs
 obtain ⟨hW, hf, hl, hc, hsl⟩ := hr
 obtain ⟨cB, kB, q1, q2, q3⟩ := isOf hZ eT E
 obtain ⟨v, _, ⟨T', L', k', n'⟩, -, X', ⟨Lc, hQ, e1, e2, e3⟩, sx⟩ := X.interfaceBack hx (xi := x) (y := y) hown (mvT hZ w1) (mvT hZ w2) (mvT hZ w3 (by simp [Cond.onTables, Cond.keepsFace, Cond.keeps, Cond.faceAtom, hy.1, hy.2])) (mvT hZ w4) (mvT hZ w5) (mvT hZ w6) (mvT hZ w7) (mvT hZ w8) hy (backOf (W := W) M hZ w9 w10 hf hl) q1 q2 q3 (g := mkF m pc Ls (argsL.reverse ++ .ref b :: rest)) rfl hsz (Steps.refl _) (argsL := argsL) (rest := rest) hlen rfl (by show 2 * 0 + _ ≤ _; omega) hd (fun _ _ => ⟨ha, eT, hc, hsl⟩)
 dsimp only [Pt.U, Pt.locs, Pt.cells, Pt.slots] at X' e1 e2 e3 sx hQ
 subst e1 e2 e3
 exact ⟨v, T', Lc, X', hQ, fun t q => k t (sx.trans q)⟩
end
abbrev Gl (p : Program) (e : Env) (s : State) (m : MethodId) (A : Array Value) (below : List Frame) (s₁ : State) (ml : Nat) (R : Room) (Q : Option Value → Heap → List Loc → Prop) : Prop := ∃ s₂ o, Steps p.tables e below (s₁.setTop (entryFrame m A ml)) s₂ ∧ s₂.status = .running ∧ Ended s₂ below o ∧ ∃ v L, o = .returned v ∧ Q v s₂.heap L ∧ FrameEnd s o s₂ L R.cells R.slots
theorem Met.intro {l : Launch} {y : MethodName} {bn : ByteArray} {ml : Nat} {rt : Option FieldType} {ws : List Jvm.Cond} {R : Room} {A : Array Value} {Z : State} {h0 : Heap} {Q : Option Value → Heap → List Loc → Prop} (hp : plainFor y = true) (g : ∀ (p : Program) (e : Env) (s : State) (m : MethodId) (below : List Frame) (meth : Method) (c : Code) (s₁ : State), p.tables.exec = Jvm.exec → c.code = bn → c.maxLocals = ml → Z.Warmed39 s.vm → s.vm.findClass y.cls = some m.cls → meth.name = y.name → meth.sig.returnType = rt → meth.locks = false → Stand p l e R s m A below meth c s₁ [] 0 0 → s₁.heap = h0 → Gl p e s m A below s₁ ml R Q) : Met l y bn ml rt ws R A Z h0 Q := by
 refine MetFree.of_bodySF hp hisR ?_
 intro p e s m args below meth c s₁ Bd hml0 hP hK
 obtain ⟨hA, hZ, hh⟩ := hP
 subst hA
 exact g p e s m below meth c s₁ Bd.exec Bd.bytes hml0 hZ (findClass_of_methodNamed Bd.named) (name_of_methodNamed Bd.named Bd.method).1 Bd.returns (BodyLoose.notSynchronized Bd) (Stand.of_body Bd) (by rw [← hh, Bd.state]; rfl)
theorem fin_v {p : Program} {l : Launch} {e : Env} {R : Room} {s : State} {m : MethodId} {A : Array Value} {below : List Frame} {meth : Method} {c : Code} {T s₁ : State} {L : List Loc} {cells slots ml pc : Nat} {Ls : Array Slot} {Q : Option Value → Heap → List Loc → Prop} (X : Stand p l e R s m A below meth c T L cells slots) (hx : p.tables.exec = Jvm.exec) (hrt : meth.sig.returnType = none) (hlk : meth.locks = false) (k : Rt p e below T (mkF m pc Ls []) s₁ m A ml) (hd : decode c.code pc = .ok (.return_, 1)) (q : Q none T.heap L) (hc : cells ≤ R.cells) (hs : slots ≤ R.slots) : Gl p e s m A below s₁ ml R Q := by
 obtain ⟨fs, hr, hrun, hended, hW, hsame⟩ := X.leave (v := none) (fun _ => rfl) hlk
 exact ⟨_, _, k _ (X.returnOut hx hrt hd hr), hrun, hended, _, _, rfl, q, ⟨_, rfl⟩, hW, hsame.mono hc hs⟩
theorem fin_r {p : Program} {l : Launch} {e : Env} {R : Room} {s : State} {m : MethodId} {A : Array Value} {below : List Frame} {meth : Method} {c : Code} {T s₁ : State} {L : List Loc} {cells slots ml pc : Nat} {Ls : Array Slot} {Q : Option Value → Heap → List Loc → Prop} (X : Stand p l e R s m A below meth c T L cells slots) (hx : p.tables.exec = Jvm.exec) {w : Value} {t : FieldType} {i : Instr} {st : List Value} (hrt : meth.sig.returnType = some t) (hlk : meth.locks = false) (hn : narrow t w = w) (hi : (i = .ireturn ∧ (t = .int ∨ t = .boolean ∨ t = .byte ∨ t = .char ∨ t = .short) ∧ ∃ z, w = .int z) ∨ (i = .lreturn ∧ t = .long ∧ ∃ z, w = .long z) ∨ (i = .dreturn ∧ t = .double ∧ ∃ z, w = .double z) ∨ (i = .freturn ∧ t = .float ∧ ∃ z, w = .float z) ∨ (i = .areturn ∧ t.isReference = true ∧ w.isRef = true)) (k : Rt p e below T (mkF m pc Ls (w :: st)) s₁ m A ml) (hd : decode c.code pc = .ok (i, 1)) (q : Q (some w) T.heap L) (hc : cells ≤ R.cells) (hs : slots ≤ R.slots) : Gl p e s m A below s₁ ml R Q := by
 obtain ⟨fs, hr, hrun, hended, hW, hsame⟩ := X.leave (v := some w) (fun h => by rw [hrt] at h; cases h) hlk
 exact ⟨_, _, k _ (retOut X hx hrt hn hi hd hr), hrun, hended, _, _, rfl, q, ⟨_, rfl⟩, hW, hsame.mono hc hs⟩
open Jvm.FP.Core
theorem nn_of {x : UInt64} (h : dIsNaN x = false) : Jvm.Free.Fl.NoNaN64 x := Jvm.Free.Fl.noNaN64_no.mpr h
theorem no_of {x : UInt64} (h : Jvm.Free.Fl.NoNaN64 x) : dIsNaN x = false := Jvm.Free.Fl.noNaN64_no.mp h
theorem no_fin {x : UInt64} (h : DFin x) : dIsNaN x = false := (notNaN_iff x).mpr (by obtain ⟨s, c, q, e⟩ := h; rw [e]; exact nofun)
theorem i2d_nz {v : Int32} (h : v ≠ 0) : ¬ DZero (FP.i2d v) := fun q => i2d_ne_zero h ((zero_bits2 _).mp q)
theorem nn_div {a : UInt64} {v : Int32} (ha : dIsNaN a = false) (h : v ≠ 0) : Jvm.Free.Fl.NoNaN64 (FP.ddiv a (FP.i2d v)) := nn_of (ddiv_out ha (i2d_fin v) (i2d_nz h))
theorem own_nn0 : Jvm.Free.Fl.NoNaN64 (0 : UInt64) := nn_of (by decide +kernel)
theorem own_nn {x y : Addr} {l : List Addr} (h : x ∉ l) {i : Nat} (e : l[i]? = some y) : x ≠ y := fun q => h (q ▸ List.mem_of_getElem? e)
theorem own_bxne {b x n0 : Nat} {h : Heap} (P : b < n0 ∨ h.size ≤ b) (g : n0 ≤ x) (l : x < h.size) : b ≠ x := by omega
theorem own_boxin {p : Int32} {c : Cell} (a : ¬ p < (-128 : Int32)) (b : ¬ (127 : Int32) < p) (S : c.slots.size = (256 : Int32).toNatClampNeg) : ¬ ((p + (128 : Int32)) < 0 ∨ c.slots.size ≤ (p + (128 : Int32)).toNatClampNeg) := inb_of S (by
 have s := c_iadd p 128; have r := rng32 p; have r2 := rng32 (p + 128)
 rw [Int32.lt_iff_toInt_lt, show (-128 : Int32).toInt = -128 by decide] at a
 rw [Int32.lt_iff_toInt_lt, show (127 : Int32).toInt = 127 by decide] at b
 rw [show (128 : Int32).toInt = 128 by decide] at s
 rw [Int32.lt_iff_toInt_lt, Int32.lt_iff_toInt_lt, show (0 : Int32).toInt = 0 by decide, show (256 : Int32).toInt = 256 by decide]
 omega)
theorem own_boxv {Z : State} {h : Heap} {b : Addr} {C n d : String} {p : Int32} (F : Fld Z h b C n d ((fun j : Int32 => Value.int (j - (128 : Int32))) (p + (128 : Int32)))) : Fld Z h b C n d (.int p) := by
 have e : (p + (128 : Int32)) - (128 : Int32) = p := by
  have s := c_iadd p 128; have t := c_isub (p + 128) 128; have r := rng32 p; have r2 := rng32 (p + 128 - 128)
  apply Int32.toInt_inj.mp; omega
 rw [show ((fun j : Int32 => Value.int (j - (128 : Int32))) (p + (128 : Int32))) = .int p from congrArg Value.int e] at F; exact F
theorem own_in16 {l : List Value} {j : Int32} (h : l.length = 16) (q : ¬ j < (0 : Int32) ∧ j < (16 : Int32)) : j.toNatClampNeg < l.length := by
 rw [h]
 obtain ⟨q1, q2⟩ := q
 rw [Int32.lt_iff_toInt_lt] at q1 q2
 rw [show (0 : Int32).toInt = 0 by decide] at q1
 rw [show (16 : Int32).toInt = 16 by decide] at q2
 simp only [Int32.toNatClampNeg]; omega
theorem own_nul16 (j : Int32) : ([.null, .null, .null, .null, .null, .null, .null, .null, .null, .null, .null, .null, .null, .null, .null, .null] : List Value).getD j.toNatClampNeg .null = .null := by
 generalize j.toNatClampNeg = n
 match n with
 | 0 | 1 | 2 | 3 | 4 | 5 | 6 | 7 | 8 | 9 | 10 | 11 | 12 | 13 | 14 | 15 => rfl
 | n + 16 => rfl
theorem own_gpos {r j : Int32} (h : j = (if r < (0 : Int32) then (0 : Int32) else r)) : (0 : Int32) < j ↔ (0 : Int32) < r := by
 by_cases q : r < (0 : Int32)
 · rw [if_pos q] at h; subst h
   constructor
   · intro a; exact absurd a (by decide)
   · intro a; rw [Int32.lt_iff_toInt_lt] at q a; omega
 · rw [if_neg q] at h; subst h; exact Iff.rfl
theorem own_nulls {l : List Value} {i : Int32} (n m : Nat) (hi : i.toInt = (n : Int)) (h : l.drop n = List.replicate m .null) : ∀ j : Int32, i.toInt ≤ j.toInt → j.toInt < 16 → l.getD j.toNatClampNeg .null = .null := fun j a b => by
 have e : l.getD j.toNatClampNeg .null = (l.drop n).getD (j.toNatClampNeg - n) .null := by
  rw [List.getD_eq_getElem?_getD, List.getD_eq_getElem?_getD, List.getElem?_drop]
  have : n + (j.toNatClampNeg - n) = j.toNatClampNeg := by simp only [Int32.toNatClampNeg]; omega
  rw [this]
 rw [e, h, List.getD_eq_getElem?_getD, List.getElem?_replicate]
 split <;> rfl
theorem own_d1 : (4607182418800017408 : UInt64) = FP.i2d 1 := by decide +kernel
theorem own_d2 : (4611686018427387904 : UInt64) = FP.i2d 2 := by decide +kernel
theorem own_d3 : (4613937818241073152 : UInt64) = FP.i2d 3 := by decide +kernel
theorem own_lit (n : Int32) (k : Nat) (h : 0 ≤ n.toInt ∧ n.toInt ≤ k) : n = Int32.ofInt (n.toInt.toNat : Int) ∧ n.toInt.toNat ≤ k := ⟨by rw [show ((n.toInt.toNat : Nat) : Int) = n.toInt by omega, Int32.ofInt_toInt], by omega⟩

theorem own_bxn2 {b x n0 : Nat} {h h1 : Heap} (P : b < n0 ∨ h.size ≤ b) (g : n0 ≤ x) (l : x < h1.size) (k : h1.size ≤ h.size) : b ≠ x := by omega
def own_gv (t : Value) (r : Int32) : Int32 := match t with | .null => (0 : Int32) | _ => (if r < (0 : Int32) then (0 : Int32) else r)
def own_c (t : Value) : Int32 := match t with | .null => (0 : Int32) | _ => (1 : Int32)
theorem own_n3r {x n : Int32} (h : n = ((x &&& (2147483647 : Int32)) % (4 : Int32))) : n = (0 : Int32) ∨ n = (1 : Int32) ∨ n = (2 : Int32) ∨ n = (3 : Int32) := by
 have j1 := c_and x 2147483647 (by decide)
 have m := (c_irem (x &&& 2147483647) 4 4 (by decide)).1 j1.1
 rw [← h] at m
 obtain ⟨e, k⟩ := own_lit n 3 (by omega)
 generalize n.toInt.toNat = j at e k
 match j, k with
 | 0, _ => exact Or.inl e
 | 1, _ => exact Or.inr (Or.inl e)
 | 2, _ => exact Or.inr (Or.inr (Or.inl e))
 | 3, _ => exact Or.inr (Or.inr (Or.inr e))
theorem own_n0 {n : Int32} (h : n = (0 : Int32) ∨ n = (1 : Int32) ∨ n = (2 : Int32) ∨ n = (3 : Int32)) : ¬ n < (0 : Int32) := by rcases h with rfl | rfl | rfl | rfl <;> decide
theorem own_n3l {n : Int32} (h : n = (0 : Int32) ∨ n = (1 : Int32) ∨ n = (2 : Int32) ∨ n = (3 : Int32)) : n.toNatClampNeg ≤ 3 := by rcases h with rfl | rfl | rfl | rfl <;> decide
theorem own_lt3 {n : Int32} (h : n = (0 : Int32) ∨ n = (1 : Int32) ∨ n = (2 : Int32) ∨ n = (3 : Int32)) : ¬ (3 : Int32) < n := by rcases h with rfl | rfl | rfl | rfl <;> decide
theorem own_ln01 {n : Int32} (h : ¬ (0 : Int32) < n) : ¬ (1 : Int32) < n := fun q => h (Int32.lt_trans (by decide) q)
theorem own_ln02 {n : Int32} (h : ¬ (0 : Int32) < n) : ¬ (2 : Int32) < n := fun q => h (Int32.lt_trans (by decide) q)
theorem own_ln12 {n : Int32} (h : ¬ (1 : Int32) < n) : ¬ (2 : Int32) < n := fun q => h (Int32.lt_trans (by decide) q)
theorem own_eq0 {n : Int32} (h : n = (0 : Int32) ∨ n = (1 : Int32) ∨ n = (2 : Int32) ∨ n = (3 : Int32)) (q : ¬ (0 : Int32) < n) : n = (0 : Int32) := by
 rcases h with rfl | rfl | rfl | rfl
 · rfl
 all_goals exact absurd (by decide) q
theorem own_eq1 {n : Int32} (h : n = (0 : Int32) ∨ n = (1 : Int32) ∨ n = (2 : Int32) ∨ n = (3 : Int32)) (p : (0 : Int32) < n) (q : ¬ (1 : Int32) < n) : n = (1 : Int32) := by
 rcases h with rfl | rfl | rfl | rfl
 · exact absurd p (by decide)
 · rfl
 all_goals exact absurd (by decide) q
theorem own_eq2 {n : Int32} (h : n = (0 : Int32) ∨ n = (1 : Int32) ∨ n = (2 : Int32) ∨ n = (3 : Int32)) (p : (1 : Int32) < n) (q : ¬ (2 : Int32) < n) : n = (2 : Int32) := by
 rcases h with rfl | rfl | rfl | rfl
 · exact absurd p (by decide)
 · exact absurd p (by decide)
 · rfl
 · exact absurd (by decide) q
theorem own_eq3 {n : Int32} (h : n = (0 : Int32) ∨ n = (1 : Int32) ∨ n = (2 : Int32) ∨ n = (3 : Int32)) (p : (2 : Int32) < n) : n = (3 : Int32) := by
 rcases h with rfl | rfl | rfl | rfl
 · exact absurd p (by decide)
 · exact absurd p (by decide)
 · exact absurd p (by decide)
 · rfl
theorem own_ltn {a b : Int32} (h : ¬ (b < a)) (n : ¬ (a = b)) : a < b := by
 rw [Int32.lt_iff_toInt_lt] at h ⊢
 have : a.toInt ≠ b.toInt := fun e => n (Int32.toInt_inj.mp e)
 omega
theorem own_le0 {x y : Nat} (h : x ≤ y) : (0 : Int32).toNatClampNeg + x ≤ y := by rw [show (0 : Int32).toNatClampNeg = 0 by decide, Nat.zero_add]; exact h
theorem own_pr {sx cn : Int32} (h : (sx = (0 : Int32) ∧ cn = (0 : Int32)) ∨ (sx = (1 : Int32) ∧ cn = (0 : Int32)) ∨ (sx = (1 : Int32) ∧ cn = (1 : Int32)) ∨ (sx = (2 : Int32) ∧ cn = (0 : Int32)) ∨ (sx = (2 : Int32) ∧ cn = (1 : Int32)) ∨ (sx = (2 : Int32) ∧ cn = (2 : Int32)) ∨ (sx = (3 : Int32) ∧ cn = (0 : Int32)) ∨ (sx = (3 : Int32) ∧ cn = (1 : Int32)) ∨ (sx = (3 : Int32) ∧ cn = (2 : Int32)) ∨ (sx = (3 : Int32) ∧ cn = (3 : Int32))) :
  ¬ (cn < (0 : Int32)) ∧ cn.toNatClampNeg ≤ sx.toNatClampNeg ∧ sx.toNatClampNeg ≤ 3 ∧ ¬ (sx < cn) ∧ (cn = (0 : Int32) ∨ cn = (1 : Int32) ∨ cn = (2 : Int32) ∨ cn = (3 : Int32)) := by
 rcases h with ⟨rfl, rfl⟩ | ⟨rfl, rfl⟩ | ⟨rfl, rfl⟩ | ⟨rfl, rfl⟩ | ⟨rfl, rfl⟩ | ⟨rfl, rfl⟩ | ⟨rfl, rfl⟩ | ⟨rfl, rfl⟩ | ⟨rfl, rfl⟩ | ⟨rfl, rfl⟩ <;> decide
theorem own_pad {Z : State} {h : Heap} {a : Addr} {k : ClassId} {ty : FieldType} {n : Int32} {vs vs' : List Value} {dv : Value} (V : Arv Z h a k ty n vs dv) (q : ∀ i, i < n.toNatClampNeg → vs'.getD i dv = vs.getD i dv) : Arv Z h a k ty n vs' dv := by
 obtain ⟨c, A, r1, r2, r3, H, G⟩ := V
 exact ⟨c, A, r1, r2, r3, fun i hi => by rw [q i (r2 ▸ hi)]; exact H i hi, fun i hi => by rw [q i (r2 ▸ hi)]; exact G i hi⟩
theorem own_pd0 {Z : State} {h : Heap} {a : Addr} {k : ClassId} {r0 r1 r2 : Int32} {dv : Value} (V : Arv Z h a k .int (0 : Int32) [.int r0, .int r1, .int r2] dv) : Arv Z h a k .int (0 : Int32) [] dv := own_pad V fun i hi => absurd (show i < 0 from hi) (by omega)
theorem own_pd1 {Z : State} {h : Heap} {a : Addr} {k : ClassId} {r0 r1 r2 : Int32} {dv : Value} (V : Arv Z h a k .int (1 : Int32) [.int r0, .int r1, .int r2] dv) : Arv Z h a k .int (1 : Int32) [.int r0] dv := own_pad V fun i hi => by
 have : i = 0 := by have q : i < 1 := hi; omega
 subst this; rfl
theorem own_pd2 {Z : State} {h : Heap} {a : Addr} {k : ClassId} {r0 r1 r2 : Int32} {dv : Value} (V : Arv Z h a k .int (2 : Int32) [.int r0, .int r1, .int r2] dv) : Arv Z h a k .int (2 : Int32) [.int r0, .int r1] dv := own_pad V fun i hi => by
 have q : i < 2 := hi
 match i, q with
 | 0, _ => rfl
 | 1, _ => rfl
theorem own_ex3 {Z : State} {h : Heap} {a : Addr} {k : ClassId} {n : Int32} {vs : List Value} {dv : Value} (V : Arv Z h a k .int n vs dv) (hn : n.toNatClampNeg ≤ 3) : ∃ r0 r1 r2 : Int32, Arv Z h a k .int n [.int r0, .int r1, .int r2] (.int (0 : Int32)) := by
 obtain ⟨c, A, r1, r2, r3, H, G⟩ := V
 have e : ∀ i, ∃ x : Int32, i < c.slots.size → vs.getD i dv = .int x := fun i => by
  by_cases q : i < c.slots.size
  · obtain ⟨x, hx⟩ := fit_I (G i q) (by simp)
    exact ⟨x, fun _ => hx⟩
  · exact ⟨0, fun z => absurd z q⟩
 obtain ⟨x0, h0⟩ := e 0
 obtain ⟨x1, h1⟩ := e 1
 obtain ⟨x2, h2⟩ := e 2
 have g : ∀ i, i < c.slots.size → ([.int x0, .int x1, .int x2] : List Value).getD i (.int (0 : Int32)) = vs.getD i dv := fun i hi => by
  have b : i < 3 := by omega
  match i, b, hi with
  | 0, _, hi => exact (h0 hi).symm
  | 1, _, hi => exact (h1 hi).symm
  | 2, _, hi => exact (h2 hi).symm
 exact ⟨x0, x1, x2, c, A, r1, r2, r3, fun i hi => by rw [g i hi]; exact H i hi, fun i hi => by rw [g i hi]; exact G i hi⟩
def own_rr (b0 b1 b2 : Bool) : UInt64 := if b0 then FP.ddiv (4607182418800017408 : UInt64) (FP.i2d 1) else if b1 then FP.ddiv (4607182418800017408 : UInt64) (FP.i2d 2) else if b2 then FP.ddiv (4607182418800017408 : UInt64) (FP.i2d 3) else (0 : UInt64)
theorem own_dt {i n g : Int32} (l : i < n) (q : (0 : Int32) < g) : decide (i < n ∧ (0 : Int32) < g) = true := decide_eq_true ⟨l, q⟩
theorem own_df {i n g : Int32} (q : ¬ (0 : Int32) < g) : decide (i < n ∧ (0 : Int32) < g) = false := decide_eq_false fun z => q z.2
theorem own_dl {i n g : Int32} (l : ¬ i < n) : decide (i < n ∧ (0 : Int32) < g) = false := decide_eq_false fun z => l z.1
theorem own_qr0 : Jvm.Free.Fl.NoNaN64 (FP.ddiv (4607182418800017408 : UInt64) (FP.i2d (1 : Int32))) := nn_div (by decide +kernel) (by decide)
theorem own_qr1 : Jvm.Free.Fl.NoNaN64 (FP.ddiv (4607182418800017408 : UInt64) (FP.i2d (2 : Int32))) := nn_div (by decide +kernel) (by decide)
theorem own_qr2 : Jvm.Free.Fl.NoNaN64 (FP.ddiv (4607182418800017408 : UInt64) (FP.i2d (3 : Int32))) := nn_div (by decide +kernel) (by decide)
theorem own_rp0 {n g0 : Int32} {b1 b2 : Bool} (l : (0 : Int32) < n) (q : (0 : Int32) < g0) : FP.ddiv (4607182418800017408 : UInt64) (FP.i2d (1 : Int32)) = own_rr (decide ((0 : Int32) < n ∧ (0 : Int32) < g0)) b1 b2 := by unfold own_rr; rw [own_dt l q]; rfl
theorem own_rp1 {n g0 g1 : Int32} {b2 : Bool} (q0 : ¬ (0 : Int32) < g0) (l : (1 : Int32) < n) (q : (0 : Int32) < g1) : FP.ddiv (4607182418800017408 : UInt64) (FP.i2d (2 : Int32)) = own_rr (decide ((0 : Int32) < n ∧ (0 : Int32) < g0)) (decide ((1 : Int32) < n ∧ (0 : Int32) < g1)) b2 := by unfold own_rr; rw [own_df q0, own_dt l q]; rfl
theorem own_rp2 {n g0 g1 g2 : Int32} (q0 : ¬ (0 : Int32) < g0) (q1 : ¬ (0 : Int32) < g1) (l : (2 : Int32) < n) (q : (0 : Int32) < g2) : FP.ddiv (4607182418800017408 : UInt64) (FP.i2d (3 : Int32)) = own_rr (decide ((0 : Int32) < n ∧ (0 : Int32) < g0)) (decide ((1 : Int32) < n ∧ (0 : Int32) < g1)) (decide ((2 : Int32) < n ∧ (0 : Int32) < g2)) := by unfold own_rr; rw [own_df q0, own_df q1, own_dt l q]; rfl
theorem own_rs0 {n g0 g1 g2 : Int32} (l : ¬ (0 : Int32) < n) : (0 : UInt64) = own_rr (decide ((0 : Int32) < n ∧ (0 : Int32) < g0)) (decide ((1 : Int32) < n ∧ (0 : Int32) < g1)) (decide ((2 : Int32) < n ∧ (0 : Int32) < g2)) := by unfold own_rr; rw [own_dl l, own_dl (own_ln01 l), own_dl (own_ln02 l)]; rfl
theorem own_rs1 {n g0 g1 g2 : Int32} (q0 : ¬ (0 : Int32) < g0) (l : ¬ (1 : Int32) < n) : (0 : UInt64) = own_rr (decide ((0 : Int32) < n ∧ (0 : Int32) < g0)) (decide ((1 : Int32) < n ∧ (0 : Int32) < g1)) (decide ((2 : Int32) < n ∧ (0 : Int32) < g2)) := by unfold own_rr; rw [own_df q0, own_dl l, own_dl (own_ln12 l)]; rfl
theorem own_rs2 {n g0 g1 g2 : Int32} (q0 : ¬ (0 : Int32) < g0) (q1 : ¬ (0 : Int32) < g1) (l : ¬ (2 : Int32) < n) : (0 : UInt64) = own_rr (decide ((0 : Int32) < n ∧ (0 : Int32) < g0)) (decide ((1 : Int32) < n ∧ (0 : Int32) < g1)) (decide ((2 : Int32) < n ∧ (0 : Int32) < g2)) := by unfold own_rr; rw [own_df q0, own_df q1, own_dl l]; rfl
theorem own_rz {n g0 g1 g2 : Int32} (q0 : ¬ (0 : Int32) < g0) (q1 : ¬ (0 : Int32) < g1) (q2 : ¬ (0 : Int32) < g2) : (0 : UInt64) = own_rr (decide ((0 : Int32) < n ∧ (0 : Int32) < g0)) (decide ((1 : Int32) < n ∧ (0 : Int32) < g1)) (decide ((2 : Int32) < n ∧ (0 : Int32) < g2)) := by unfold own_rr; rw [own_df q0, own_df q1, own_df q2]; rfl
theorem own_bj {i n g j r h : Int32} (hg : i < n → g = (if j = (0 : Int32) then (0 : Int32) else (if r < (0 : Int32) then (0 : Int32) else r))) (hh : h = (if i < n then (if j = (0 : Int32) then (0 : Int32) else (if (0 : Int32) < r then (1 : Int32) else (0 : Int32))) else (0 : Int32))) : decide (i < n ∧ (0 : Int32) < g) = decide (¬ (h = (0 : Int32))) := by
 by_cases l : i < n
 · rw [if_pos l] at hh
   have hg := hg l
   by_cases v : j = (0 : Int32)
   · rw [if_pos v] at hg hh
     rw [decide_eq_false (fun z => absurd (hg ▸ z.2) (by decide)), decide_eq_false (fun z => z hh)]
   · rw [if_neg v] at hg hh
     by_cases w : (0 : Int32) < r
     · rw [if_pos w] at hh; subst hh
       rw [decide_eq_true ⟨l, (own_gpos hg).mpr w⟩]; rfl
     · rw [if_neg w] at hh
       rw [decide_eq_false (fun z => w ((own_gpos hg).mp z.2)), decide_eq_false (fun z => z hh)]
 · rw [if_neg l] at hh
   rw [decide_eq_false (fun z => l z.1), decide_eq_false (fun z => z hh)]
theorem own_k1 : FP.ddiv (4607182418800017408 : UInt64) (FP.i2d 1) = (4607182418800017408 : UInt64) := by decide +kernel
theorem own_k2 : FP.ddiv (4607182418800017408 : UInt64) (FP.i2d 2) = (4602678819172646912 : UInt64) := by decide +kernel
theorem own_k3 : FP.ddiv (4607182418800017408 : UInt64) (FP.i2d 3) = (4599676419421066581 : UInt64) := by decide +kernel
theorem own_fin2 {n g0 g1 g2 j0 j1 j2 r0 r1 r2 h0 h1 h2 : Int32} {u v : UInt64} (hn : n = (0 : Int32) ∨ n = (1 : Int32) ∨ n = (2 : Int32) ∨ n = (3 : Int32)) (hu : u = own_rr (decide ((0 : Int32) < n ∧ (0 : Int32) < g0)) (decide ((1 : Int32) < n ∧ (0 : Int32) < g1)) (decide ((2 : Int32) < n ∧ (0 : Int32) < g2)))
  (k0 : (0 : Int32) < n → g0 = (if j0 = (0 : Int32) then (0 : Int32) else (if r0 < (0 : Int32) then (0 : Int32) else r0))) (k1 : (1 : Int32) < n → g1 = (if j1 = (0 : Int32) then (0 : Int32) else (if r1 < (0 : Int32) then (0 : Int32) else r1))) (k2 : (2 : Int32) < n → g2 = (if j2 = (0 : Int32) then (0 : Int32) else (if r2 < (0 : Int32) then (0 : Int32) else r2)))
  (e0 : h0 = (if (0 : Int32) < n then (if j0 = (0 : Int32) then (0 : Int32) else (if (0 : Int32) < r0 then (1 : Int32) else (0 : Int32))) else (0 : Int32))) (e1 : h1 = (if (1 : Int32) < n then (if j1 = (0 : Int32) then (0 : Int32) else (if (0 : Int32) < r1 then (1 : Int32) else (0 : Int32))) else (0 : Int32))) (e2 : h2 = (if (2 : Int32) < n then (if j2 = (0 : Int32) then (0 : Int32) else (if (0 : Int32) < r2 then (1 : Int32) else (0 : Int32))) else (0 : Int32)))
  (hv : v = (if h0 = (0 : Int32) then (if h1 = (0 : Int32) then (if h2 = (0 : Int32) then (0 : UInt64) else (4599676419421066581 : UInt64)) else (4602678819172646912 : UInt64)) else (4607182418800017408 : UInt64))) : cmpValue (FP.dcmp u v) .l = (0 : Int32) := by
 rw [own_bj k0 e0, own_bj k1 e1, own_bj k2 e2] at hu
 have e : u = v := by
  rw [hu, hv]; unfold own_rr
  by_cases a : h0 = (0 : Int32)
  · rw [if_pos a, decide_eq_false (fun z => z a)]
    by_cases b : h1 = (0 : Int32)
    · rw [if_pos b, decide_eq_false (fun z => z b)]
      by_cases d : h2 = (0 : Int32)
      · rw [if_pos d, decide_eq_false (fun z => z d)]; rfl
      · rw [if_neg d, decide_eq_true d, own_k3]; rfl
    · rw [if_neg b, decide_eq_true b, own_k2]; rfl
  · rw [if_neg a, decide_eq_true a, own_k1]; rfl
 have nv : Jvm.Free.Fl.NoNaN64 v := by
  rw [hv]
  split
  · split
    · split
      · exact own_nn0
      · exact nn_of (by decide +kernel)
    · exact nn_of (by decide +kernel)
  · exact nn_of (by decide +kernel)
 rw [e]; exact dcmpV_self nv .l

theorem own_len {Z : State} {args : Array Value} {t : Term} {a : Addr} {c : Cell} {ty : FieldType} {z : Int32} (A : Arr Z Z.heap a c ty) (ev : t.eval args Z none [] Z = some (.ref a)) (L : (Term.length t).eval args Z none [] Z = some (.int z)) : c.slots.size.toInt32 = z ∧ c.slots.size < 2 ^ 31 := by
 have F := A.fin (Vm.Alike.refl _)
 by_cases q : c.slots.size < 2 ^ 31
 · rw [len_f ev F q] at L
   cases L; exact ⟨rfl, q⟩
 · simp [Term.eval, ev, F, q] at L
theorem own_arv0 {Z : State} {a : Addr} {c : Cell} {ty : FieldType} {dv : Value} (A : Arr Z Z.heap a c ty) (L : c.slots.size.toInt32 = (0 : Int32) ∧ c.slots.size < 2 ^ 31) : Arv Z Z.heap a c.cls ty (0 : Int32) [] dv := by
 have S : c.slots.size = (0 : Int32).toNatClampNeg := by rw [← L.1]; simp only [Int32.toNatClampNeg, len_toInt L.2]; rfl
 have S0 : c.slots.size = 0 := S
 exact ⟨c, A, rfl, S, by decide, fun i hi => absurd hi (by omega), fun i hi => absurd hi (by omega)⟩
theorem own_bxF {args : Array Value} {Z : State} {j : Int32} (nn : ¬ j < 0) : (Term.sub (Term.index 0) (Term.int 128)).eval args Z none [j.toNatClampNeg] Z = some (.int (j - (128 : Int32))) := by
 simp [Term.eval, (back32 nn).1]
def OBJ (Z : State) (h : Heap) (o : Addr) (K : String) (ly : List (String × String × String)) (vs : List Value) : Prop := Exa Z h o K ∧ ∀ i, i < ly.length → Fld Z h o (ly.getD i ("", "", "")).1 (ly.getD i ("", "", "")).2.1 (ly.getD i ("", "", "")).2.2 (vs.getD i .null)
def SN (Z : State) (ly : List (String × String × String)) : Prop := ∀ i j, i < ly.length → j < ly.length → i ≠ j → Jvm.RoadKit.slotOf Z (ly.getD i ("", "", "")).1 (ly.getD i ("", "", "")).2.1 (ly.getD i ("", "", "")).2.2 ≠ Jvm.RoadKit.slotOf Z (ly.getD j ("", "", "")).1 (ly.getD j ("", "", "")).2.1 (ly.getD j ("", "", "")).2.2
section
variable {Z : State} {h h' : Heap} {o a : Addr} {K : String} {ly : List (String × String × String)} {vs vs' : List Value}
theorem OBJ.g (N : OBJ Z h o K ly vs) (i : Nat) {C f d : String} {v : Value} (hi : i < ly.length) (e : ly.getD i ("", "", "") = (C, f, d)) (ev : vs.getD i .null = v) : Fld Z h o C f d v := by
 have q := N.2 i hi
 rw [e, ev] at q; exact q
theorem OBJ.lt (N : OBJ Z h o K ly vs) : o < h.size := N.1.lt
theorem OBJ.ext (N : OBJ Z h o K ly vs) (E : Ext h h') : OBJ Z h' o K ly vs := ⟨N.1.ext E, fun i hi => (N.2 i hi).ext E⟩
theorem OBJ.other {sl : Nat} {v : Value} (N : OBJ Z h o K ly vs) (W : Wr h h' a sl v) (e : o ≠ a) : OBJ Z h' o K ly vs := ⟨N.1.wr W, fun i hi => (N.2 i hi).other W (Or.inl e)⟩
theorem OBJ.keep {ws : List Addr} (N : OBJ Z h o K ly vs) (W : Keep h h' ws) (e : o ∉ ws) : OBJ Z h' o K ly vs := ⟨N.1.keep W, fun i hi => (N.2 i hi).keep W e⟩
theorem OBJ.set {C f d : String} {v : Value} (S : SN Z ly) (N : OBJ Z h o K ly vs) (i : Nat) (hi : i < ly.length) (W : Wr h h' o (Jvm.RoadKit.slotOf Z C f d) v) (e : ly.getD i ("", "", "") = (C, f, d)) (hl : vs.length = ly.length) (e' : vs' = vs.set i v) : OBJ Z h' o K ly vs' := by
 subst e'
 have e1 : C = (ly.getD i ("", "", "")).1 := by rw [e]
 have e2 : f = (ly.getD i ("", "", "")).2.1 := by rw [e]
 have e3 : d = (ly.getD i ("", "", "")).2.2 := by rw [e]
 rw [e1, e2, e3] at W
 refine ⟨N.1.wr W, fun j hj => ?_⟩
 by_cases y : j = i
 · subst y
   have z : (vs.set j v).getD j .null = v := by rw [List.getD_eq_getElem?_getD, List.getElem?_set_self (by omega)]; rfl
   rw [z]; exact (N.2 j hj).same W
 · have z : (vs.set i v).getD j .null = vs.getD j .null := by rw [List.getD_eq_getElem?_getD, List.getD_eq_getElem?_getD, List.getElem?_set_ne (fun q => y q.symm)]
   rw [z]; exact (N.2 j hj).other W (Or.inr (S j i hj hi y))
theorem SN.of {a0 : Array Value} {ts : List FieldType} (L : ∀ i, i < ly.length → Laid Z a0 K (ly.getD i ("", "", "")).1 (ly.getD i ("", "", "")).2.1 (ly.getD i ("", "", "")).2.2) (hn : ∀ i j : Fin ly.length, i ≠ j → (ly.getD i.val ("", "", "")).2.1 ≠ (ly.getD j.val ("", "", "")).2.1) (ht : ∀ i : Fin ly.length, parseFieldDescriptor (ly.getD i.val ("", "", "")).2.2 = some (ts.getD i.val .int)) : SN Z ly := fun i j hi hj n =>
 slot_ne (L i hi) (L j hj) (hn ⟨i, hi⟩ ⟨j, hj⟩ (fun e => n (Fin.mk.inj e))) (ht ⟨i, hi⟩) (ht ⟨j, hj⟩)
end
theorem f_pF {p : Program} {l : Launch} {e : Env} {R : Room} {s : State} {m : MethodId} {args : Array Value} {below : List Frame} {meth : Method} {c : Code} {T : State} {locs : List Loc} {cells slots : Nat} {s1 : State} {A : Array Value} {N pc : Nat} {Ls : Array Slot} {st : List Value} {Z : State} {a0 : Array Value} {h : Heap} {o : Addr} {K own R0 O n d : String} {index kk : Nat} {ty : FieldType} {v : Value} {ly : List (String × String × String)} {vs vs' : List Value} {n0 : Nat} (X : Stand p l e R s m args below meth c T locs cells slots) (hx : p.tables.exec = Jvm.exec) (hZ : Z.Warmed39 s.vm) (hown : s.vm.findClass own = some m.cls) (w : (Cond.fieldLink own index R0 n d).before a0 Z = true) (via : Via Z R0 O n d) (eT : T.heap = h) (B : OBJ Z h o K ly vs) (S : SN Z ly)
  (L : (Cond.lays K O n d).before a0 Z = true ∨ ((Cond.laysFinal K O n d).before a0 Z = true ∧ own = O ∧ meth.name = "<init>")) (wi : (Cond.instantiable K kk).before a0 Z = true) (i : Nat) (hi : i < ly.length) (hy : ly.getD i ("", "", "") = (O, n, d)) (hl : vs.length = ly.length) (hty : parseFieldDescriptor d = some ty) (hn : narrow ty v = v) (hf : fits ty v = true) (NF : Fr n0 locs) (ga : n0 ≤ o) (zs : n0 ≤ h.size)
  (k : Rt p e below T (mkF m pc Ls (v :: .ref o :: st)) s1 m A N) (hd : decode c.code pc = .ok (.putfield index, 3)) (hv : vs' = vs.set i v) : ∃ T' h' L', Stand p l e R s m args below meth c T' L' cells slots ∧ T'.heap = h' ∧ Wr h h' o (Jvm.RoadKit.slotOf Z O n d) v ∧ OBJ Z h' o K ly vs' ∧ Fr n0 L' ∧ n0 ≤ h'.size ∧ Rt p e below T' (mkF m (pc + 3) Ls st) s1 m A N := by
 obtain ⟨T', h', X', e', W, sx⟩ := putF X hx hZ hown (host := "") (Or.inl w) via eT (B.g i hi hy rfl) B.1 L wi hty hn hf (g := mkF m pc Ls (v :: .ref o :: st)) rfl rfl hd
 exact ⟨T', h', _, X', e', W, OBJ.set S B i hi W hy hl hv, Fr.snoc X' NF ga, Nat.le_trans zs (Nat.le_of_eq W.size.symm), fun t q => k t (sx t q)⟩
abbrev lyST : List (String × String × String) := [("java/lang/String", "value", "[B"), ("java/lang/String", "coder", "B"), ("java/lang/String", "hash", "I"), ("java/lang/String", "hashIsZero", "Z")]
theorem snST {Z : State} {a0 : Array Value} (hw : ∀ d ∈ tables_1, d.before a0 Z = true) : SN Z lyST := SN.of (K := "java/lang/String") (ts := [(.array .byte), .byte, .int, .boolean]) (fun i hi => by
 match i, hi with
 | 0, _ => exact Or.inr (hw _ (List.mem_of_getElem? (i := 24) rfl))
 | 1, _ => exact Or.inr (hw _ (List.mem_of_getElem? (i := 26) rfl))
 | 2, _ => exact Or.inl (hw _ (List.mem_of_getElem? (i := 262) rfl))
 | 3, _ => exact Or.inl (hw _ (List.mem_of_getElem? (i := 264) rfl))
 | n + 4, h => exact absurd h (by simp)) (by decide +kernel) (by decide +kernel)
theorem mkST {Z : State} {h : Heap} {o : Addr} {f0 f1 f2 f3 : Value} (A : Exa Z h o "java/lang/String") (g0 : Fld Z h o "java/lang/String" "value" "[B" f0) (g1 : Fld Z h o "java/lang/String" "coder" "B" f1) (g2 : Fld Z h o "java/lang/String" "hash" "I" f2) (g3 : Fld Z h o "java/lang/String" "hashIsZero" "Z" f3) : OBJ Z h o "java/lang/String" lyST [f0, f1, f2, f3] := ⟨A, fun i hi => by
 match i, hi with
 | 0, _ => exact g0
 | 1, _ => exact g1
 | 2, _ => exact g2
 | 3, _ => exact g3
 | n + 4, h => exact absurd h (by simp)⟩
abbrev lyIG : List (String × String × String) := [("java/lang/Integer", "value", "I")]
theorem snIG {Z : State} {a0 : Array Value} (hw : ∀ d ∈ tables_1, d.before a0 Z = true) : SN Z lyIG := fun i j hi hj n => absurd (show i = j by have a : i < 1 := hi; have b : j < 1 := hj; omega) n
theorem mkIG {Z : State} {h : Heap} {o : Addr} {f0 : Value} (A : Exa Z h o "java/lang/Integer") (g0 : Fld Z h o "java/lang/Integer" "value" "I" f0) : OBJ Z h o "java/lang/Integer" lyIG [f0] := ⟨A, fun i hi => by
 match i, hi with
 | 0, _ => exact g0
 | n + 1, h => exact absurd h (by simp)⟩
abbrev lySD : List (String × String × String) := [("com/example/multinomial/multinomial/search/ScoredDocument", "id", "Ljava/lang/String;"), ("com/example/multinomial/multinomial/search/ScoredDocument", "score", "D")]
theorem snSD {Z : State} {a0 : Array Value} (hw : ∀ d ∈ tables_1, d.before a0 Z = true) : SN Z lySD := SN.of (K := "com/example/multinomial/multinomial/search/ScoredDocument") (ts := [(.object "java/lang/String"), .double]) (fun i hi => by
 match i, hi with
 | 0, _ => exact Or.inr (hw _ (List.mem_of_getElem? (i := 208) rfl))
 | 1, _ => exact Or.inr (hw _ (List.mem_of_getElem? (i := 210) rfl))
 | n + 2, h => exact absurd h (by simp)) (by decide +kernel) (by decide +kernel)
theorem mkSD {Z : State} {h : Heap} {o : Addr} {f0 f1 : Value} (A : Exa Z h o "com/example/multinomial/multinomial/search/ScoredDocument") (g0 : Fld Z h o "com/example/multinomial/multinomial/search/ScoredDocument" "id" "Ljava/lang/String;" f0) (g1 : Fld Z h o "com/example/multinomial/multinomial/search/ScoredDocument" "score" "D" f1) : OBJ Z h o "com/example/multinomial/multinomial/search/ScoredDocument" lySD [f0, f1] := ⟨A, fun i hi => by
 match i, hi with
 | 0, _ => exact g0
 | 1, _ => exact g1
 | n + 2, h => exact absurd h (by simp)⟩
abbrev lyJR : List (String × String × String) := [("com/example/multinomial/multinomial/eval/JudgedRanking", "gains", "[I"), ("com/example/multinomial/multinomial/eval/JudgedRanking", "idealGains", "[I")]
theorem snJR {Z : State} {a0 : Array Value} (hw : ∀ d ∈ tables_1, d.before a0 Z = true) : SN Z lyJR := SN.of (K := "com/example/multinomial/multinomial/eval/JudgedRanking") (ts := [(.array .int), (.array .int)]) (fun i hi => by
 match i, hi with
 | 0, _ => exact Or.inr (hw _ (List.mem_of_getElem? (i := 87) rfl))
 | 1, _ => exact Or.inr (hw _ (List.mem_of_getElem? (i := 194) rfl))
 | n + 2, h => exact absurd h (by simp)) (by decide +kernel) (by decide +kernel)
theorem mkJR {Z : State} {h : Heap} {o : Addr} {f0 f1 : Value} (A : Exa Z h o "com/example/multinomial/multinomial/eval/JudgedRanking") (g0 : Fld Z h o "com/example/multinomial/multinomial/eval/JudgedRanking" "gains" "[I" f0) (g1 : Fld Z h o "com/example/multinomial/multinomial/eval/JudgedRanking" "idealGains" "[I" f1) : OBJ Z h o "com/example/multinomial/multinomial/eval/JudgedRanking" lyJR [f0, f1] := ⟨A, fun i hi => by
 match i, hi with
 | 0, _ => exact g0
 | 1, _ => exact g1
 | n + 2, h => exact absurd h (by simp)⟩
abbrev lyLS : List (String × String × String) := [("java/util/AbstractList", "modCount", "I"), ("java/util/ArrayList", "elementData", "[Ljava/lang/Object;"), ("java/util/ArrayList", "size", "I")]
theorem snLS {Z : State} {a0 : Array Value} (hw : ∀ d ∈ tables_1, d.before a0 Z = true) : SN Z lyLS := SN.of (K := "java/util/ArrayList") (ts := [.int, (.array (.object "java/lang/Object")), .int]) (fun i hi => by
 match i, hi with
 | 0, _ => exact Or.inl (hw _ (List.mem_of_getElem? (i := 47) rfl))
 | 1, _ => exact Or.inl (hw _ (List.mem_of_getElem? (i := 50) rfl))
 | 2, _ => exact Or.inl (hw _ (List.mem_of_getElem? (i := 84) rfl))
 | n + 3, h => exact absurd h (by simp)) (by decide +kernel) (by decide +kernel)
theorem mkLS {Z : State} {h : Heap} {o : Addr} {f0 f1 f2 : Value} (A : Exa Z h o "java/util/ArrayList") (g0 : Fld Z h o "java/util/AbstractList" "modCount" "I" f0) (g1 : Fld Z h o "java/util/ArrayList" "elementData" "[Ljava/lang/Object;" f1) (g2 : Fld Z h o "java/util/ArrayList" "size" "I" f2) : OBJ Z h o "java/util/ArrayList" lyLS [f0, f1, f2] := ⟨A, fun i hi => by
 match i, hi with
 | 0, _ => exact g0
 | 1, _ => exact g1
 | 2, _ => exact g2
 | n + 3, h => exact absurd h (by simp)⟩
abbrev lyND : List (String × String × String) := [("java/util/HashMap$Node", "hash", "I"), ("java/util/HashMap$Node", "key", "Ljava/lang/Object;"), ("java/util/HashMap$Node", "value", "Ljava/lang/Object;"), ("java/util/HashMap$Node", "next", "Ljava/util/HashMap$Node;")]
theorem snND {Z : State} {a0 : Array Value} (hw : ∀ d ∈ tables_1, d.before a0 Z = true) : SN Z lyND := SN.of (K := "java/util/HashMap$Node") (ts := [.int, (.object "java/lang/Object"), (.object "java/lang/Object"), (.object "java/util/HashMap$Node")]) (fun i hi => by
 match i, hi with
 | 0, _ => exact Or.inr (hw _ (List.mem_of_getElem? (i := 301) rfl))
 | 1, _ => exact Or.inr (hw _ (List.mem_of_getElem? (i := 303) rfl))
 | 2, _ => exact Or.inl (hw _ (List.mem_of_getElem? (i := 305) rfl))
 | 3, _ => exact Or.inl (hw _ (List.mem_of_getElem? (i := 307) rfl))
 | n + 4, h => exact absurd h (by simp)) (by decide +kernel) (by decide +kernel)
theorem mkND {Z : State} {h : Heap} {o : Addr} {f0 f1 f2 f3 : Value} (A : Exa Z h o "java/util/HashMap$Node") (g0 : Fld Z h o "java/util/HashMap$Node" "hash" "I" f0) (g1 : Fld Z h o "java/util/HashMap$Node" "key" "Ljava/lang/Object;" f1) (g2 : Fld Z h o "java/util/HashMap$Node" "value" "Ljava/lang/Object;" f2) (g3 : Fld Z h o "java/util/HashMap$Node" "next" "Ljava/util/HashMap$Node;" f3) : OBJ Z h o "java/util/HashMap$Node" lyND [f0, f1, f2, f3] := ⟨A, fun i hi => by
 match i, hi with
 | 0, _ => exact g0
 | 1, _ => exact g1
 | 2, _ => exact g2
 | 3, _ => exact g3
 | n + 4, h => exact absurd h (by simp)⟩
abbrev lyVS : List (String × String × String) := [("java/util/HashMap$Values", "this$0", "Ljava/util/HashMap;")]
theorem snVS {Z : State} {a0 : Array Value} (hw : ∀ d ∈ tables_1, d.before a0 Z = true) : SN Z lyVS := fun i j hi hj n => absurd (show i = j by have a : i < 1 := hi; have b : j < 1 := hj; omega) n
theorem mkVS {Z : State} {h : Heap} {o : Addr} {f0 : Value} (A : Exa Z h o "java/util/HashMap$Values") (g0 : Fld Z h o "java/util/HashMap$Values" "this$0" "Ljava/util/HashMap;" f0) : OBJ Z h o "java/util/HashMap$Values" lyVS [f0] := ⟨A, fun i hi => by
 match i, hi with
 | 0, _ => exact g0
 | n + 1, h => exact absurd h (by simp)⟩
abbrev lyIT : List (String × String × String) := [("java/util/HashMap$HashIterator", "this$0", "Ljava/util/HashMap;"), ("java/util/HashMap$HashIterator", "expectedModCount", "I"), ("java/util/HashMap$HashIterator", "next", "Ljava/util/HashMap$Node;"), ("java/util/HashMap$HashIterator", "current", "Ljava/util/HashMap$Node;"), ("java/util/HashMap$HashIterator", "index", "I")]
theorem snIT {Z : State} {a0 : Array Value} (hw : ∀ d ∈ tables_1, d.before a0 Z = true) : SN Z lyIT := SN.of (K := "java/util/HashMap$ValueIterator") (ts := [(.object "java/util/HashMap"), .int, (.object "java/util/HashMap$Node"), (.object "java/util/HashMap$Node"), .int]) (fun i hi => by
 match i, hi with
 | 0, _ => exact Or.inr (hw _ (List.mem_of_getElem? (i := 144) rfl))
 | 1, _ => exact Or.inl (hw _ (List.mem_of_getElem? (i := 149) rfl))
 | 2, _ => exact Or.inl (hw _ (List.mem_of_getElem? (i := 153) rfl))
 | 3, _ => exact Or.inl (hw _ (List.mem_of_getElem? (i := 155) rfl))
 | 4, _ => exact Or.inl (hw _ (List.mem_of_getElem? (i := 157) rfl))
 | n + 5, h => exact absurd h (by simp)) (by decide +kernel) (by decide +kernel)
theorem mkIT {Z : State} {h : Heap} {o : Addr} {f0 f1 f2 f3 f4 : Value} (A : Exa Z h o "java/util/HashMap$ValueIterator") (g0 : Fld Z h o "java/util/HashMap$HashIterator" "this$0" "Ljava/util/HashMap;" f0) (g1 : Fld Z h o "java/util/HashMap$HashIterator" "expectedModCount" "I" f1) (g2 : Fld Z h o "java/util/HashMap$HashIterator" "next" "Ljava/util/HashMap$Node;" f2) (g3 : Fld Z h o "java/util/HashMap$HashIterator" "current" "Ljava/util/HashMap$Node;" f3) (g4 : Fld Z h o "java/util/HashMap$HashIterator" "index" "I" f4) : OBJ Z h o "java/util/HashMap$ValueIterator" lyIT [f0, f1, f2, f3, f4] := ⟨A, fun i hi => by
 match i, hi with
 | 0, _ => exact g0
 | 1, _ => exact g1
 | 2, _ => exact g2
 | 3, _ => exact g3
 | 4, _ => exact g4
 | n + 5, h => exact absurd h (by simp)⟩
abbrev lyMP : List (String × String × String) := [("java/util/HashMap", "table", "[Ljava/util/HashMap$Node;"), ("java/util/HashMap", "size", "I"), ("java/util/HashMap", "modCount", "I"), ("java/util/HashMap", "threshold", "I"), ("java/util/AbstractMap", "values", "Ljava/util/Collection;"), ("java/util/HashMap", "loadFactor", "F")]
theorem snMP {Z : State} {a0 : Array Value} (hw : ∀ d ∈ tables_1, d.before a0 Z = true) : SN Z lyMP := SN.of (K := "java/util/HashMap") (ts := [(.array (.object "java/util/HashMap$Node")), .int, .int, .int, (.object "java/util/Collection"), .float]) (fun i hi => by
 match i, hi with
 | 0, _ => exact Or.inl (hw _ (List.mem_of_getElem? (i := 151) rfl))
 | 1, _ => exact Or.inl (hw _ (List.mem_of_getElem? (i := 98) rfl))
 | 2, _ => exact Or.inl (hw _ (List.mem_of_getElem? (i := 147) rfl))
 | 3, _ => exact Or.inl (hw _ (List.mem_of_getElem? (i := 285) rfl))
 | 4, _ => exact Or.inl (hw _ (List.mem_of_getElem? (i := 109) rfl))
 | 5, _ => exact Or.inr (hw _ (List.mem_of_getElem? (i := 66) rfl))
 | n + 6, h => exact absurd h (by simp)) (by decide +kernel) (by decide +kernel)
theorem mkMP {Z : State} {h : Heap} {o : Addr} {f0 f1 f2 f3 f4 f5 : Value} (A : Exa Z h o "java/util/HashMap") (g0 : Fld Z h o "java/util/HashMap" "table" "[Ljava/util/HashMap$Node;" f0) (g1 : Fld Z h o "java/util/HashMap" "size" "I" f1) (g2 : Fld Z h o "java/util/HashMap" "modCount" "I" f2) (g3 : Fld Z h o "java/util/HashMap" "threshold" "I" f3) (g4 : Fld Z h o "java/util/AbstractMap" "values" "Ljava/util/Collection;" f4) (g5 : Fld Z h o "java/util/HashMap" "loadFactor" "F" f5) : OBJ Z h o "java/util/HashMap" lyMP [f0, f1, f2, f3, f4, f5] := ⟨A, fun i hi => by
 match i, hi with
 | 0, _ => exact g0
 | 1, _ => exact g1
 | 2, _ => exact g2
 | 3, _ => exact g3
 | 4, _ => exact g4
 | 5, _ => exact g5
 | n + 6, h => exact absurd h (by simp)⟩
abbrev mn0 : MethodName := ⟨"java/util/AbstractCollection", "<init>", "()V"⟩
abbrev mn1 : MethodName := ⟨"java/util/AbstractMap", "<init>", "()V"⟩
abbrev mn2 : MethodName := ⟨"java/lang/Number", "<init>", "()V"⟩
abbrev mn3 : MethodName := ⟨"java/lang/StringLatin1", "canEncode", "(C)Z"⟩
abbrev mn4 : MethodName := ⟨"java/lang/StringLatin1", "toBytes", "(C)[B"⟩
abbrev mn5 : MethodName := ⟨"java/lang/String", "<init>", "([BB)V"⟩
abbrev mn6 : MethodName := ⟨"java/lang/String", "valueOf", "(C)Ljava/lang/String;"⟩
abbrev mn7 : MethodName := ⟨"java/lang/String", "isLatin1", "()Z"⟩
abbrev mn8 : MethodName := ⟨"java/lang/StringLatin1", "hashCode", "([B)I"⟩
abbrev mn9 : MethodName := ⟨"java/lang/String", "hashCode", "()I"⟩
abbrev mn10 : MethodName := ⟨"java/lang/Object", "hashCode", "()I"⟩
abbrev mn11 : MethodName := ⟨"java/util/HashMap", "hash", "(Ljava/lang/Object;)I"⟩
abbrev mn12 : MethodName := ⟨"java/lang/Integer", "<init>", "(I)V"⟩
abbrev mn13 : MethodName := ⟨"java/lang/Integer", "valueOf", "(I)Ljava/lang/Integer;"⟩
abbrev mn14 : MethodName := ⟨"java/lang/Integer", "intValue", "()I"⟩
abbrev mn15 : MethodName := ⟨"com/example/multinomial/multinomial/search/ScoredDocument", "<init>", "(Ljava/lang/String;D)V"⟩
abbrev mn16 : MethodName := ⟨"com/example/multinomial/multinomial/search/ScoredDocument", "id", "()Ljava/lang/String;"⟩
abbrev mn17 : MethodName := ⟨"java/lang/Math", "max", "(II)I"⟩
abbrev mn18 : MethodName := ⟨"com/example/multinomial/multinomial/eval/JudgedRanking", "gain", "(I)I"⟩
abbrev mn19 : MethodName := ⟨"java/util/AbstractList", "<init>", "()V"⟩
abbrev mn20 : MethodName := ⟨"java/util/ArrayList", "<init>", "()V"⟩
abbrev mn21 : MethodName := ⟨"java/util/ArrayList", "grow", "(I)[Ljava/lang/Object;"⟩
abbrev mn22 : MethodName := ⟨"java/util/ArrayList", "grow", "()[Ljava/lang/Object;"⟩
abbrev mn23 : MethodName := ⟨"java/util/ArrayList", "add", "(Ljava/lang/Object;[Ljava/lang/Object;I)V"⟩
abbrev mn24 : MethodName := ⟨"java/util/ArrayList", "add", "(Ljava/lang/Object;)Z"⟩
abbrev mn25 : MethodName := ⟨"java/util/ArrayList", "size", "()I"⟩
abbrev mn26 : MethodName := ⟨"jdk/internal/util/Preconditions", "checkIndex", "(IILjava/util/function/BiFunction;)I"⟩
abbrev mn27 : MethodName := ⟨"java/util/Objects", "checkIndex", "(II)I"⟩
abbrev mn28 : MethodName := ⟨"java/util/ArrayList", "elementData", "(I)Ljava/lang/Object;"⟩
abbrev mn29 : MethodName := ⟨"java/util/ArrayList", "get", "(I)Ljava/lang/Object;"⟩
abbrev mn30 : MethodName := ⟨"java/util/HashMap", "<init>", "()V"⟩
abbrev mn31 : MethodName := ⟨"java/util/HashMap$Node", "<init>", "(ILjava/lang/Object;Ljava/lang/Object;Ljava/util/HashMap$Node;)V"⟩
abbrev mn32 : MethodName := ⟨"java/util/HashMap", "newNode", "(ILjava/lang/Object;Ljava/lang/Object;Ljava/util/HashMap$Node;)Ljava/util/HashMap$Node;"⟩
abbrev mn33 : MethodName := ⟨"java/util/HashMap", "afterNodeInsertion", "(Z)V"⟩
abbrev mn34 : MethodName := ⟨"java/util/HashMap", "resize", "()[Ljava/util/HashMap$Node;"⟩
abbrev mn35 : MethodName := ⟨"java/util/HashMap", "putVal", "(ILjava/lang/Object;Ljava/lang/Object;ZZ)Ljava/lang/Object;"⟩
abbrev mn36 : MethodName := ⟨"java/util/HashMap", "put", "(Ljava/lang/Object;Ljava/lang/Object;)Ljava/lang/Object;"⟩
abbrev mn37 : MethodName := ⟨"java/util/HashMap", "getNode", "(Ljava/lang/Object;)Ljava/util/HashMap$Node;"⟩
abbrev mn38 : MethodName := ⟨"java/util/HashMap", "getOrDefault", "(Ljava/lang/Object;Ljava/lang/Object;)Ljava/lang/Object;"⟩
abbrev mn39 : MethodName := ⟨"java/util/HashMap", "size", "()I"⟩
abbrev mn40 : MethodName := ⟨"java/util/HashMap$Values", "<init>", "(Ljava/util/HashMap;)V"⟩
abbrev mn41 : MethodName := ⟨"java/util/HashMap", "values", "()Ljava/util/Collection;"⟩
abbrev mn42 : MethodName := ⟨"java/util/HashMap$HashIterator", "hasNext", "()Z"⟩
abbrev mn43 : MethodName := ⟨"java/util/HashMap$HashIterator", "<init>", "(Ljava/util/HashMap;)V"⟩
abbrev mn44 : MethodName := ⟨"java/util/HashMap$ValueIterator", "<init>", "(Ljava/util/HashMap;)V"⟩
abbrev mn45 : MethodName := ⟨"java/util/HashMap$Values", "iterator", "()Ljava/util/Iterator;"⟩
abbrev mn46 : MethodName := ⟨"java/util/HashMap$HashIterator", "nextNode", "()Ljava/util/HashMap$Node;"⟩
abbrev mn47 : MethodName := ⟨"java/util/HashMap$ValueIterator", "nextNode", "()Ljava/util/HashMap$Node;"⟩
abbrev mn48 : MethodName := ⟨"java/util/HashMap$ValueIterator", "next", "()Ljava/lang/Object;"⟩
abbrev mn49 : MethodName := ⟨"java/lang/Math", "min", "(II)I"⟩
abbrev mn50 : MethodName := ⟨"java/util/DualPivotQuicksort", "insertionSort", "([III)V"⟩
abbrev mn51 : MethodName := ⟨"java/util/DualPivotQuicksort", "sort", "(Ljava/util/DualPivotQuicksort$Sorter;[IIII)V"⟩
abbrev mn52 : MethodName := ⟨"java/util/DualPivotQuicksort", "sort", "([IIII)V"⟩
abbrev mn53 : MethodName := ⟨"java/util/Arrays", "sort", "([I)V"⟩
abbrev mn54 : MethodName := ⟨"java/util/Arrays", "copyOf", "([II)[I"⟩
abbrev mn55 : MethodName := ⟨"com/example/multinomial/multinomial/eval/JudgedRanking", "reciprocalRank", "()D"⟩
abbrev mn56 : MethodName := ⟨"java/util/List", "size", "()I"⟩
abbrev mn57 : MethodName := ⟨"java/util/List", "get", "(I)Ljava/lang/Object;"⟩
abbrev mn58 : MethodName := ⟨"java/util/Map", "getOrDefault", "(Ljava/lang/Object;Ljava/lang/Object;)Ljava/lang/Object;"⟩
abbrev mn59 : MethodName := ⟨"java/util/Map", "size", "()I"⟩
abbrev mn60 : MethodName := ⟨"java/util/Map", "values", "()Ljava/util/Collection;"⟩
abbrev mn61 : MethodName := ⟨"java/util/Collection", "iterator", "()Ljava/util/Iterator;"⟩
abbrev mn62 : MethodName := ⟨"java/util/Iterator", "hasNext", "()Z"⟩
abbrev mn63 : MethodName := ⟨"java/util/Iterator", "next", "()Ljava/lang/Object;"⟩
abbrev mn64 : MethodName := ⟨"com/example/multinomial/multinomial/eval/JudgedRanking", "<init>", "(Ljava/util/List;Ljava/util/Map;)V"⟩
abbrev HW (Z : State) (a0 : Array Value) : Prop := ∀ d ∈ tables_1, d.before a0 Z = true
theorem kw {h0 h h' : Heap} {ws : List Addr} {a : Addr} {sl : Nat} {v : Value} (K : Keep h0 h ws) (W : Wr h h' a sl v) (i : Nat) (e : ws[i]? = some a) : Keep h0 h' ws := K.wr W (Or.inl (List.mem_of_getElem? e))
theorem k_e {p : Program} {e : Env} {below : List Frame} {s : State} {m : MethodId} {A : Array Value} {N : Nat} {g : JFrame} (h : entryFrame m A N = g) : Rt p e below s g s m A N := fun t k => castTop h k
set_option maxRecDepth 65536
set_option maxHeartbeats 40000000
theorem hvw {a0 : Array Value} {Z : State} (hw : ∀ d ∈ tables_1, d.before a0 Z = true) : ∀ (i : Nat) {c : Jvm.Cond}, tables_1[i]? = some c → c.before a0 Z = true := fun _ c h => hw c (List.mem_of_getElem? h)
theorem dch {c : Code} {code : ByteArray} {l : List (Nat × Instr × Nat)} (h : c.code = code) (D : ∀ x ∈ l, decode code x.1 = .ok x.2) (i : Nat) {pc n : Nat} {r : Instr} (e : l[i]? = some (pc, r, n)) : decode c.code pc = .ok (r, n) := by rw [h]; exact D (pc, r, n) (List.mem_of_getElem? e)
abbrev L1 : List (Nat × Instr × Nat) := [(0, .getstatic 38, 3), (3, .ifCond .eq 23, 3), (6, .iload_n 0, 1), (7, .invokestatic 1015, 3), (10, .ifCond .eq 16, 3), (13, .new 10, 3), (16, .dup, 1), (17, .iload_n 0, 1), (18, .invokestatic 1018, 3), (21, .iconst 0, 1), (22, .invokespecial 209, 3), (25, .areturn, 1)]
set_option maxRecDepth 65536 in
theorem D1 : ∀ x ∈ L1, decode jdk_42_method_139_code x.1 = .ok x.2 := by decide +kernel
abbrev L2 : List (Nat × Instr × Nat) := [(0, .iload_n 0, 1), (1, .sipush 255, 3), (4, .if_icmp .gt 7, 3), (7, .iconst 1, 1), (8, .goto 4, 3), (12, .ireturn, 1)]
set_option maxRecDepth 65536 in
theorem D2 : ∀ x ∈ L2, decode jdk_43_method_3_code x.1 = .ok x.2 := by decide +kernel
abbrev L3 : List (Nat × Instr × Nat) := [(0, .iconst 1, 1), (1, .newarray .byte, 2), (3, .dup, 1), (4, .iconst 0, 1), (5, .iload_n 0, 1), (6, .i2b, 1), (7, .bastore, 1), (8, .areturn, 1)]
set_option maxRecDepth 65536 in
theorem D3 : ∀ x ∈ L3, decode jdk_43_method_46_code x.1 = .ok x.2 := by decide +kernel
abbrev L4 : List (Nat × Instr × Nat) := [(0, .aload_n 0, 1), (1, .invokespecial 1, 3), (4, .aload_n 0, 1), (5, .aload_n 1, 1), (6, .putfield 9, 3), (9, .aload_n 0, 1), (10, .iload_n 2, 1), (11, .putfield 15, 3), (14, .return_, 1)]
set_option maxRecDepth 65536 in
theorem D4 : ∀ x ∈ L4, decode jdk_42_method_151_code x.1 = .ok x.2 := by decide +kernel
abbrev L6 : List (Nat × Instr × Nat) := [(0, .aload_n 0, 1), (1, .invokespecial 1, 3), (4, .aload_n 0, 1), (5, .getstatic 39, 3), (8, .putfield 9, 3), (11, .return_, 1)]
set_option maxRecDepth 65536 in
theorem D6 : ∀ x ∈ L6, decode jdk_38_method_2_code x.1 = .ok x.2 := by decide +kernel
abbrev L7 : List (Nat × Instr × Nat) := [(0, .aload_n 0, 1), (1, .invokespecial 1, 3), (4, .aload_n 0, 1), (5, .iconst 0, 1), (6, .putfield 7, 3), (9, .return_, 1)]
set_option maxRecDepth 65536 in
theorem D7 : ∀ x ∈ L7, decode jdk_39_method_1_code x.1 = .ok x.2 := by decide +kernel
abbrev L8 : List (Nat × Instr × Nat) := [(0, .aload_n 0, 1), (1, .invokespecial 1, 3), (4, .return_, 1)]
set_option maxRecDepth 65536 in
theorem D8 : ∀ x ∈ L8, decode jdk_22_method_1_code x.1 = .ok x.2 := by decide +kernel
abbrev L9 : List (Nat × Instr × Nat) := [(0, .aload_n 0, 1), (1, .invokespecial 43, 3), (4, .aload_n 0, 1), (5, .ldc 92, 2), (7, .putfield 81, 3), (10, .return_, 1)]
set_option maxRecDepth 65536 in
theorem D9 : ∀ x ∈ L9, decode jdk_69_method_7_code x.1 = .ok x.2 := by decide +kernel
abbrev L10 : List (Nat × Instr × Nat) := [(0, .aload_n 0, 1), (1, .invokespecial 1, 3), (4, .return_, 1)]
set_option maxRecDepth 65536 in
theorem D10 : ∀ x ∈ L10, decode jdk_71_method_1_code x.1 = .ok x.2 := by decide +kernel
abbrev L11 : List (Nat × Instr × Nat) := [(0, .aload_n 0, 1), (1, .invokespecial 1, 3), (4, .aload_n 0, 1), (5, .aload_n 1, 1), (6, .invokeinterface 7 1, 5), (11, .newarray .int, 2), (13, .putfield 13, 3), (16, .iconst 0, 1), (17, .istore_n 3, 1), (18, .iload_n 3, 1), (19, .aload_n 0, 1), (20, .getfield 13, 3), (23, .arraylength, 1), (24, .if_icmp .ge 47, 3), (27, .aload_n 0, 1), (28, .getfield 13, 3), (31, .iload_n 3, 1), (32, .aload_n 2, 1), (33, .aload_n 1, 1), (34, .iload_n 3, 1), (35, .invokeinterface 19 2, 5), (40, .checkcast 23, 3), (43, .invokevirtual 25, 3), (46, .iconst 0, 1), (47, .invokestatic 29, 3), (50, .invokeinterface 35 3, 5), (55, .checkcast 30, 3), (58, .invokevirtual 41, 3), (61, .invokestatic 44, 3), (64, .iastore, 1), (65, .iinc 3 1, 3), (68, .goto (-50), 3), (71, .aload_n 2, 1), (72, .invokeinterface 48 1, 5), (77, .newarray .int, 2), (79, .astore_n 3, 1), (80, .iconst 0, 1), (81, .istore 4, 2), (83, .aload_n 2, 1), (84, .invokeinterface 49 1, 5), (89, .invokeinterface 53 1, 5), (94, .astore 5, 2), (96, .aload 5, 2), (98, .invokeinterface 59 1, 5), (103, .ifCond .eq 38, 3), (106, .aload 5, 2), (108, .invokeinterface 65 1, 5), (113, .checkcast 30, 3), (116, .invokevirtual 41, 3), (119, .istore 6, 2), (121, .iload 6, 2), (123, .invokestatic 44, 3), (126, .ifCond .le 12, 3), (129, .aload_n 3, 1), (130, .iload 4, 2), (132, .iload 6, 2), (134, .iastore, 1), (135, .iinc 4 1, 3), (138, .goto (-42), 3), (141, .aload_n 3, 1), (142, .iload 4, 2), (144, .invokestatic 69, 3), (147, .astore 5, 2), (149, .aload 5, 2), (151, .invokestatic 75, 3), (154, .aload_n 0, 1), (155, .iload 4, 2), (157, .newarray .int, 2), (159, .putfield 79, 3), (162, .iconst 0, 1), (163, .istore 6, 2), (165, .iload 6, 2), (167, .iload 4, 2), (169, .if_icmp .ge 26, 3), (195, .return_, 1), (172, .aload_n 0, 1), (173, .getfield 79, 3), (176, .iload 6, 2), (178, .aload 5, 2), (180, .iload 4, 2), (182, .iconst 1, 1), (183, .isub, 1), (184, .iload 6, 2), (186, .isub, 1), (187, .iaload, 1), (188, .iastore, 1), (189, .iinc 6 1, 3), (192, .goto (-27), 3)]
set_option maxRecDepth 65536 in
theorem D11 : ∀ x ∈ L11, decode prog_10_method_1_code x.1 = .ok x.2 := by decide +kernel
abbrev L12 : List (Nat × Instr × Nat) := [(0, .aload_n 0, 1), (1, .getfield 48, 3), (4, .ireturn, 1)]
set_option maxRecDepth 65536 in
theorem D12 : ∀ x ∈ L12, decode jdk_38_method_8_code x.1 = .ok x.2 := by decide +kernel
abbrev L13 : List (Nat × Instr × Nat) := [(0, .aload_n 0, 1), (1, .getfield 156, 3), (4, .ireturn, 1)]
set_option maxRecDepth 65536 in
theorem D13 : ∀ x ∈ L13, decode jdk_69_method_10_code x.1 = .ok x.2 := by decide +kernel
abbrev L14 : List (Nat × Instr × Nat) := [(0, .aload_n 0, 1), (1, .getfield 259, 3), (4, .astore_n 1, 1), (5, .aload_n 1, 1), (6, .ifnonnull 17, 3), (9, .new 263, 3), (12, .dup, 1), (13, .aload_n 0, 1), (14, .invokespecial 265, 3), (17, .astore_n 1, 1), (18, .aload_n 0, 1), (19, .aload_n 1, 1), (20, .putfield 259, 3), (23, .aload_n 1, 1), (24, .areturn, 1)]
set_option maxRecDepth 65536 in
theorem D14 : ∀ x ∈ L14, decode jdk_69_method_28_code x.1 = .ok x.2 := by decide +kernel
abbrev L15 : List (Nat × Instr × Nat) := [(0, .aload_n 0, 1), (1, .aload_n 1, 1), (2, .putfield 1, 3), (5, .aload_n 0, 1), (6, .invokespecial 7, 3), (9, .return_, 1)]
set_option maxRecDepth 65536 in
theorem D15 : ∀ x ∈ L15, decode jdk_2571_method_1_code x.1 = .ok x.2 := by decide +kernel
abbrev L16 : List (Nat × Instr × Nat) := [(0, .new 22, 3), (3, .dup, 1), (4, .aload_n 0, 1), (5, .getfield 1, 3), (8, .invokespecial 24, 3), (11, .areturn, 1)]
set_option maxRecDepth 65536 in
theorem D16 : ∀ x ∈ L16, decode jdk_2571_method_4_code x.1 = .ok x.2 := by decide +kernel
abbrev L17 : List (Nat × Instr × Nat) := [(0, .aload_n 0, 1), (1, .aload_n 1, 1), (2, .invokespecial 1, 3), (5, .return_, 1)]
set_option maxRecDepth 65536 in
theorem D17 : ∀ x ∈ L17, decode jdk_2569_method_1_code x.1 = .ok x.2 := by decide +kernel
abbrev L18 : List (Nat × Instr × Nat) := [(0, .aload_n 0, 1), (1, .aload_n 1, 1), (2, .putfield 1, 3), (5, .aload_n 0, 1), (6, .invokespecial 7, 3), (9, .aload_n 0, 1), (10, .aload_n 1, 1), (11, .getfield 13, 3), (14, .putfield 19, 3), (17, .aload_n 1, 1), (18, .getfield 22, 3), (21, .astore_n 2, 1), (22, .aload_n 0, 1), (23, .aload_n 0, 1), (24, .aconst_null, 1), (25, .dup_x1, 1), (26, .putfield 26, 3), (29, .putfield 30, 3), (32, .aload_n 0, 1), (33, .iconst 0, 1), (34, .putfield 33, 3), (37, .aload_n 2, 1), (38, .ifnull 40, 3), (41, .aload_n 1, 1), (42, .getfield 36, 3), (45, .ifCond .le 33, 3), (48, .aload_n 0, 1), (49, .getfield 33, 3), (52, .aload_n 2, 1), (53, .arraylength, 1), (54, .if_icmp .ge 24, 3), (57, .aload_n 0, 1), (58, .aload_n 2, 1), (59, .aload_n 0, 1), (60, .dup, 1), (61, .getfield 33, 3), (64, .dup_x1, 1), (65, .iconst 1, 1), (66, .iadd, 1), (67, .putfield 33, 3), (70, .aaload, 1), (71, .dup_x1, 1), (72, .putfield 26, 3), (75, .ifnull (-27), 3), (78, .return_, 1)]
set_option maxRecDepth 65536 in
theorem D18 : ∀ x ∈ L18, decode jdk_99_method_1_code x.1 = .ok x.2 := by decide +kernel
abbrev L19 : List (Nat × Instr × Nat) := [(0, .aload_n 0, 1), (1, .getfield 26, 3), (4, .ifnull 7, 3), (7, .iconst 1, 1), (8, .goto 4, 3), (12, .ireturn, 1), (11, .iconst 0, 1)]
set_option maxRecDepth 65536 in
theorem D19 : ∀ x ∈ L19, decode jdk_99_method_2_code x.1 = .ok x.2 := by decide +kernel
abbrev L20 : List (Nat × Instr × Nat) := [(0, .iload_n 1, 1), (1, .aload_n 0, 1), (2, .arraylength, 1), (3, .if_icmp .ne 11, 3), (6, .aload_n 0, 1), (7, .invokevirtual 316, 3), (10, .checkcast 317, 3), (13, .areturn, 1), (14, .iload_n 1, 1), (15, .newarray .int, 2), (17, .astore_n 2, 1), (18, .aload_n 0, 1), (19, .iconst 0, 1), (20, .aload_n 2, 1), (21, .iconst 0, 1), (22, .aload_n 0, 1), (23, .arraylength, 1), (24, .iload_n 1, 1), (25, .invokestatic 304, 3), (28, .invokestatic 150, 3), (31, .aload_n 2, 1), (32, .areturn, 1)]
set_option maxRecDepth 65536 in
theorem D20 : ∀ x ∈ L20, decode jdk_65_method_123_code x.1 = .ok x.2 := by decide +kernel
abbrev L21 : List (Nat × Instr × Nat) := [(0, .aload_n 0, 1), (1, .iconst 0, 1), (2, .iconst 0, 1), (3, .aload_n 0, 1), (4, .arraylength, 1), (5, .invokestatic 7, 3), (8, .return_, 1)]
set_option maxRecDepth 65536 in
theorem D21 : ∀ x ∈ L21, decode jdk_65_method_2_code x.1 = .ok x.2 := by decide +kernel
abbrev L22 : List (Nat × Instr × Nat) := [(0, .iload_n 3, 1), (1, .iload_n 2, 1), (2, .isub, 1), (3, .istore 4, 2), (5, .iload_n 1, 1), (6, .iconst 1, 1), (7, .if_icmp .le 61, 3), (68, .aconst_null, 1), (69, .aload_n 0, 1), (70, .iconst 0, 1), (71, .iload_n 2, 1), (72, .iload_n 3, 1), (73, .invokestatic 26, 3), (76, .return_, 1)]
set_option maxRecDepth 65536 in
theorem D22 : ∀ x ∈ L22, decode jdk_2529_method_3_code x.1 = .ok x.2 := by decide +kernel
abbrev L23 : List (Nat × Instr × Nat) := [(0, .iload 4, 2), (2, .iconst 1, 1), (3, .isub, 1), (4, .istore 5, 2), (6, .iload 4, 2), (8, .iload_n 3, 1), (9, .isub, 1), (10, .istore 6, 2), (12, .iload 6, 2), (14, .bipush 65, 2), (16, .iload_n 2, 1), (17, .iadd, 1), (18, .if_icmp .ge 28, 3), (21, .iload_n 2, 1), (22, .iconst 1, 1), (23, .iand, 1), (24, .ifCond .le 22, 3), (46, .iload 6, 2), (48, .bipush 44, 2), (50, .if_icmp .ge 11, 3), (53, .aload_n 1, 1), (54, .iload_n 3, 1), (55, .iload 4, 2), (57, .invokestatic 34, 3), (60, .return_, 1)]
set_option maxRecDepth 65536 in
theorem D23 : ∀ x ∈ L23, decode jdk_2529_method_4_code x.1 = .ok x.2 := by decide +kernel
abbrev L24 : List (Nat × Instr × Nat) := [(0, .iload_n 1, 1), (1, .istore 4, 2), (3, .iinc 4 1, 3), (6, .iload 4, 2), (8, .iload_n 2, 1), (9, .if_icmp .ge 58, 3), (67, .return_, 1), (12, .aload_n 0, 1), (13, .iload 4, 2), (15, .dup, 1), (16, .istore_n 3, 1), (17, .iaload, 1), (18, .istore 5, 2), (20, .iload 5, 2), (22, .aload_n 0, 1), (23, .iload_n 3, 1), (24, .iconst 1, 1), (25, .isub, 1), (26, .iaload, 1), (27, .if_icmp .ge 37, 3), (30, .iinc 3 (-1), 3), (33, .iload_n 3, 1), (34, .iload_n 1, 1), (35, .if_icmp .lt 22, 3), (38, .iload 5, 2), (40, .aload_n 0, 1), (41, .iload_n 3, 1), (42, .iaload, 1), (43, .if_icmp .ge 14, 3), (46, .aload_n 0, 1), (47, .iload_n 3, 1), (48, .iconst 1, 1), (49, .iadd, 1), (50, .aload_n 0, 1), (51, .iload_n 3, 1), (52, .iaload, 1), (53, .iastore, 1), (54, .goto (-24), 3), (57, .aload_n 0, 1), (58, .iload_n 3, 1), (59, .iconst 1, 1), (60, .iadd, 1), (61, .iload 5, 2), (63, .iastore, 1), (64, .goto (-61), 3)]
set_option maxRecDepth 65536 in
theorem D24 : ∀ x ∈ L24, decode jdk_2529_method_6_code x.1 = .ok x.2 := by decide +kernel
abbrev L25 : List (Nat × Instr × Nat) := [(0, .dconst 0, 1), (1, .dstore_n 1, 1), (2, .iconst 0, 1), (3, .istore_n 3, 1), (4, .iload_n 3, 1), (5, .aload_n 0, 1), (6, .getfield 13, 3), (9, .arraylength, 1), (10, .if_icmp .ge 28, 3), (13, .aload_n 0, 1), (14, .getfield 13, 3), (17, .iload_n 3, 1), (18, .iaload, 1), (19, .ifCond .le 13, 3), (22, .dconst 1, 1), (23, .iload_n 3, 1), (24, .iconst 1, 1), (25, .iadd, 1), (26, .i2d, 1), (27, .ddiv, 1), (28, .dstore_n 1, 1), (29, .goto 9, 3), (38, .dload_n 1, 1), (39, .dreturn, 1), (32, .iinc 3 1, 3), (35, .goto (-31), 3)]
set_option maxRecDepth 65536 in
theorem D25 : ∀ x ∈ L25, decode prog_10_method_7_code x.1 = .ok x.2 := by decide +kernel
abbrev L26 : List (Nat × Instr × Nat) := [(0, .aload_n 0, 1), (1, .invokespecial 1, 3), (4, .aload_n 0, 1), (5, .aload_n 1, 1), (6, .putfield 7, 3), (9, .aload_n 0, 1), (10, .dload_n 2, 1), (11, .putfield 13, 3), (14, .return_, 1)]
set_option maxRecDepth 65536 in
theorem D26 : ∀ x ∈ L26, decode prog_44_method_1_code x.1 = .ok x.2 := by decide +kernel
abbrev L27 : List (Nat × Instr × Nat) := [(0, .aload_n 0, 1), (1, .dup, 1), (2, .getfield 63, 3), (5, .iconst 1, 1), (6, .iadd, 1), (7, .putfield 63, 3), (10, .aload_n 0, 1), (11, .aload_n 1, 1), (12, .aload_n 0, 1), (13, .getfield 9, 3), (16, .aload_n 0, 1), (17, .getfield 48, 3), (20, .invokevirtual 131, 3), (23, .iconst 1, 1), (24, .ireturn, 1)]
set_option maxRecDepth 65536 in
theorem D27 : ∀ x ∈ L27, decode jdk_38_method_25_code x.1 = .ok x.2 := by decide +kernel
abbrev L28 : List (Nat × Instr × Nat) := [(0, .iload_n 3, 1), (1, .aload_n 2, 1), (2, .arraylength, 1), (3, .if_icmp .ne 8, 3), (6, .aload_n 0, 1), (7, .invokevirtual 129, 3), (10, .astore_n 2, 1), (11, .aload_n 2, 1), (12, .iload_n 3, 1), (13, .aload_n 1, 1), (14, .aastore, 1), (15, .aload_n 0, 1), (16, .iload_n 3, 1), (17, .iconst 1, 1), (18, .iadd, 1), (19, .putfield 48, 3), (22, .return_, 1)]
set_option maxRecDepth 65536 in
theorem D28 : ∀ x ∈ L28, decode jdk_38_method_24_code x.1 = .ok x.2 := by decide +kernel
abbrev L29 : List (Nat × Instr × Nat) := [(0, .aload_n 0, 1), (1, .aload_n 0, 1), (2, .getfield 48, 3), (5, .iconst 1, 1), (6, .iadd, 1), (7, .invokevirtual 69, 3), (10, .areturn, 1)]
set_option maxRecDepth 65536 in
theorem D29 : ∀ x ∈ L29, decode jdk_38_method_7_code x.1 = .ok x.2 := by decide +kernel
abbrev L30 : List (Nat × Instr × Nat) := [(0, .aload_n 0, 1), (1, .getfield 9, 3), (4, .arraylength, 1), (5, .istore_n 2, 1), (6, .iload_n 2, 1), (7, .ifCond .gt 13, 3), (10, .aload_n 0, 1), (11, .getfield 9, 3), (14, .getstatic 39, 3), (17, .if_acmp .eq 28, 3), (45, .aload_n 0, 1), (46, .bipush 10, 2), (48, .iload_n 1, 1), (49, .invokestatic 79, 3), (52, .anewarray 7, 3), (55, .dup_x1, 1), (56, .putfield 9, 3), (59, .areturn, 1)]
set_option maxRecDepth 65536 in
theorem D30 : ∀ x ∈ L30, decode jdk_38_method_6_code x.1 = .ok x.2 := by decide +kernel
abbrev L31 : List (Nat × Instr × Nat) := [(0, .iload_n 0, 1), (1, .iload_n 1, 1), (2, .if_icmp .lt 7, 3), (9, .iload_n 1, 1), (5, .iload_n 0, 1), (6, .goto 4, 3), (10, .ireturn, 1)]
set_option maxRecDepth 65536 in
theorem D31 : ∀ x ∈ L31, decode jdk_29_method_65_code x.1 = .ok x.2 := by decide +kernel
abbrev L32 : List (Nat × Instr × Nat) := [(0, .iload_n 0, 1), (1, .bipush (-128), 2), (3, .if_icmp .lt 20, 3), (23, .new 1, 3), (26, .dup, 1), (27, .iload_n 0, 1), (28, .invokespecial 199, 3), (31, .areturn, 1), (6, .iload_n 0, 1), (7, .getstatic 191, 3), (10, .if_icmp .gt 13, 3), (13, .getstatic 195, 3), (16, .iload_n 0, 1), (17, .sipush 128, 3), (20, .iadd, 1), (21, .aaload, 1), (22, .areturn, 1)]
set_option maxRecDepth 65536 in
theorem D32 : ∀ x ∈ L32, decode jdk_33_method_22_code x.1 = .ok x.2 := by decide +kernel
abbrev L33 : List (Nat × Instr × Nat) := [(0, .aload_n 0, 1), (1, .aload_n 1, 1), (2, .invokestatic 149, 3), (5, .aload_n 1, 1), (6, .aload_n 2, 1), (7, .iconst 0, 1), (8, .iconst 1, 1), (9, .invokevirtual 152, 3), (12, .areturn, 1)]
set_option maxRecDepth 65536 in
theorem D33 : ∀ x ∈ L33, decode jdk_69_method_15_code x.1 = .ok x.2 := by decide +kernel
abbrev L34 : List (Nat × Instr × Nat) := [(0, .aload_n 0, 1), (1, .ifnonnull 7, 3), (8, .aload_n 0, 1), (9, .invokevirtual 1, 3), (12, .dup, 1), (13, .istore_n 1, 1), (14, .iload_n 1, 1), (15, .bipush 16, 2), (17, .iushr, 1), (18, .ixor, 1), (19, .ireturn, 1)]
set_option maxRecDepth 65536 in
theorem D34 : ∀ x ∈ L34, decode jdk_69_method_1_code x.1 = .ok x.2 := by decide +kernel
abbrev L35 : List (Nat × Instr × Nat) := [(0, .aload_n 0, 1), (1, .getfield 19, 3), (4, .istore_n 1, 1), (5, .iload_n 1, 1), (6, .ifCond .ne 52, 3), (9, .aload_n 0, 1), (10, .getfield 23, 3), (13, .ifCond .ne 45, 3), (16, .aload_n 0, 1), (17, .invokevirtual 492, 3), (20, .ifCond .eq 13, 3), (23, .aload_n 0, 1), (24, .getfield 9, 3), (27, .invokestatic 628, 3), (30, .goto 10, 3), (40, .istore_n 1, 1), (41, .iload_n 1, 1), (42, .ifCond .ne 11, 3), (53, .aload_n 0, 1), (54, .iload_n 1, 1), (55, .putfield 19, 3), (58, .iload_n 1, 1), (59, .ireturn, 1)]
set_option maxRecDepth 65536 in
theorem D35 : ∀ x ∈ L35, decode jdk_42_method_78_code x.1 = .ok x.2 := by decide +kernel
abbrev L36 : List (Nat × Instr × Nat) := [(0, .getstatic 38, 3), (3, .ifCond .eq 14, 3), (6, .aload_n 0, 1), (7, .getfield 15, 3), (10, .ifCond .ne 7, 3), (13, .iconst 1, 1), (14, .goto 4, 3), (18, .ireturn, 1)]
set_option maxRecDepth 65536 in
theorem D36 : ∀ x ∈ L36, decode jdk_42_method_154_code x.1 = .ok x.2 := by decide +kernel
abbrev L37 : List (Nat × Instr × Nat) := [(0, .aload_n 0, 1), (1, .arraylength, 1), (2, .lookupswitch 40 #[(0, 26), (1, 30)], 26), (32, .aload_n 0, 1), (33, .iconst 0, 1), (34, .baload, 1), (35, .sipush 255, 3), (38, .iand, 1), (39, .goto 12, 3), (51, .ireturn, 1)]
set_option maxRecDepth 65536 in
theorem D37 : ∀ x ∈ L37, decode jdk_43_method_21_code x.1 = .ok x.2 := by decide +kernel
abbrev L38 : List (Nat × Instr × Nat) := [(0, .aload_n 0, 1), (1, .getfield 105, 3), (4, .dup, 1), (5, .astore 6, 2), (7, .ifnull 12, 3), (19, .aload_n 0, 1), (20, .invokevirtual 117, 3), (23, .dup, 1), (24, .astore 6, 2), (26, .arraylength, 1), (27, .istore 8, 2), (29, .aload 6, 2), (31, .iload 8, 2), (33, .iconst 1, 1), (34, .isub, 1), (35, .iload_n 1, 1), (36, .iand, 1), (37, .dup, 1), (38, .istore 9, 2), (40, .aaload, 1), (41, .dup, 1), (42, .astore 7, 2), (44, .ifnonnull 19, 3), (47, .aload 6, 2), (49, .iload 9, 2), (51, .aload_n 0, 1), (52, .iload_n 1, 1), (53, .aload_n 2, 1), (54, .aload_n 3, 1), (55, .aconst_null, 1), (56, .invokevirtual 186, 3), (59, .aastore, 1), (60, .goto 199, 3), (259, .aload_n 0, 1), (260, .dup, 1), (261, .getfield 202, 3), (264, .iconst 1, 1), (265, .iadd, 1), (266, .putfield 202, 3), (269, .aload_n 0, 1), (270, .dup, 1), (271, .getfield 156, 3), (274, .iconst 1, 1), (275, .iadd, 1), (276, .dup_x1, 1), (277, .putfield 156, 3), (280, .aload_n 0, 1), (281, .getfield 88, 3), (284, .if_icmp .le 8, 3), (292, .aload_n 0, 1), (293, .iload 5, 2), (295, .invokevirtual 205, 3), (298, .aconst_null, 1), (299, .areturn, 1), (10, .aload 6, 2), (12, .arraylength, 1), (13, .dup, 1), (14, .istore 8, 2), (16, .ifCond .ne 13, 3)]
set_option maxRecDepth 65536 in
theorem D38 : ∀ x ∈ L38, decode jdk_69_method_16_code x.1 = .ok x.2 := by decide +kernel
abbrev L39 : List (Nat × Instr × Nat) := [(0, .aload_n 0, 1), (1, .getfield 105, 3), (4, .astore_n 1, 1), (5, .aload_n 1, 1), (6, .ifnonnull 7, 3), (9, .iconst 0, 1), (10, .goto 5, 3), (15, .istore_n 2, 1), (16, .aload_n 0, 1), (17, .getfield 88, 3), (20, .istore_n 3, 1), (21, .iconst 0, 1), (22, .istore 5, 2), (24, .iload_n 2, 1), (25, .ifCond .le 42, 3), (67, .iload_n 3, 1), (68, .ifCond .le 9, 3), (77, .bipush 16, 2), (79, .istore 4, 2), (81, .bipush 12, 2), (83, .istore 5, 2), (85, .iload 5, 2), (87, .ifCond .ne 38, 3), (125, .aload_n 0, 1), (126, .iload 5, 2), (128, .putfield 88, 3), (131, .iload 4, 2), (133, .anewarray 163, 3), (136, .astore 6, 2), (138, .aload_n 0, 1), (139, .aload 6, 2), (141, .putfield 105, 3), (144, .aload_n 1, 1), (145, .ifnull 208, 3), (353, .aload 6, 2), (355, .areturn, 1)]
set_option maxRecDepth 65536 in
theorem D39 : ∀ x ∈ L39, decode jdk_69_method_17_code x.1 = .ok x.2 := by decide +kernel
abbrev L40 : List (Nat × Instr × Nat) := [(0, .new 163, 3), (3, .dup, 1), (4, .iload_n 1, 1), (5, .aload_n 2, 1), (6, .aload_n 3, 1), (7, .aload 4, 2), (9, .invokespecial 375, 3), (12, .areturn, 1)]
set_option maxRecDepth 65536 in
theorem D40 : ∀ x ∈ L40, decode jdk_69_method_46_code x.1 = .ok x.2 := by decide +kernel
abbrev L41 : List (Nat × Instr × Nat) := [(0, .aload_n 0, 1), (1, .invokespecial 1, 3), (4, .aload_n 0, 1), (5, .iload_n 1, 1), (6, .putfield 7, 3), (9, .aload_n 0, 1), (10, .aload_n 2, 1), (11, .putfield 13, 3), (14, .aload_n 0, 1), (15, .aload_n 3, 1), (16, .putfield 17, 3), (19, .aload_n 0, 1), (20, .aload 4, 2), (22, .putfield 20, 3), (25, .return_, 1)]
set_option maxRecDepth 65536 in
theorem D41 : ∀ x ∈ L41, decode jdk_70_method_1_code x.1 = .ok x.2 := by decide +kernel
abbrev L42 : List (Nat × Instr × Nat) := [(0, .return_, 1)]
set_option maxRecDepth 65536 in
theorem D42 : ∀ x ∈ L42, decode jdk_69_method_52_code x.1 = .ok x.2 := by decide +kernel
abbrev L43 : List (Nat × Instr × Nat) := [(0, .iload_n 1, 1), (1, .aload_n 0, 1), (2, .getfield 48, 3), (5, .invokestatic 118, 3), (8, .pop, 1), (9, .aload_n 0, 1), (10, .iload_n 1, 1), (11, .invokevirtual 123, 3), (14, .areturn, 1)]
set_option maxRecDepth 65536 in
theorem D43 : ∀ x ∈ L43, decode jdk_38_method_20_code x.1 = .ok x.2 := by decide +kernel
abbrev L44 : List (Nat × Instr × Nat) := [(0, .iload_n 0, 1), (1, .iload_n 1, 1), (2, .aconst_null, 1), (3, .invokestatic 105, 3), (6, .ireturn, 1)]
set_option maxRecDepth 65536 in
theorem D44 : ∀ x ∈ L44, decode jdk_31_method_17_code x.1 = .ok x.2 := by decide +kernel
abbrev L45 : List (Nat × Instr × Nat) := [(0, .iload_n 0, 1), (1, .ifCond .lt 8, 3), (4, .iload_n 0, 1), (5, .iload_n 1, 1), (6, .if_icmp .lt 10, 3), (16, .iload_n 0, 1), (17, .ireturn, 1)]
set_option maxRecDepth 65536 in
theorem D45 : ∀ x ∈ L45, decode jdk_41_method_11_code x.1 = .ok x.2 := by decide +kernel
abbrev L46 : List (Nat × Instr × Nat) := [(0, .aload_n 0, 1), (1, .getfield 9, 3), (4, .iload_n 1, 1), (5, .aaload, 1), (6, .areturn, 1)]
set_option maxRecDepth 65536 in
theorem D46 : ∀ x ∈ L46, decode jdk_38_method_18_code x.1 = .ok x.2 := by decide +kernel
abbrev L47 : List (Nat × Instr × Nat) := [(0, .aload_n 0, 1), (1, .getfield 7, 3), (4, .areturn, 1)]
set_option maxRecDepth 65536 in
theorem D47 : ∀ x ∈ L47, decode prog_44_method_2_code x.1 = .ok x.2 := by decide +kernel
abbrev L48 : List (Nat × Instr × Nat) := [(0, .aload_n 0, 1), (1, .aload_n 1, 1), (2, .invokevirtual 158, 3), (5, .dup, 1), (6, .astore_n 3, 1), (7, .ifnonnull 7, 3), (14, .aload_n 3, 1), (15, .getfield 162, 3), (18, .areturn, 1), (10, .aload_n 2, 1), (11, .goto 7, 3)]
set_option maxRecDepth 65536 in
theorem D48 : ∀ x ∈ L48, decode jdk_69_method_30_code x.1 = .ok x.2 := by decide +kernel
abbrev L49 : List (Nat × Instr × Nat) := [(0, .aload_n 0, 1), (1, .getfield 105, 3), (4, .dup, 1), (5, .astore_n 2, 1), (6, .ifnull 142, 3), (9, .aload_n 2, 1), (10, .arraylength, 1), (11, .dup, 1), (12, .istore 5, 2), (14, .ifCond .le 134, 3), (17, .aload_n 2, 1), (18, .iload 5, 2), (20, .iconst 1, 1), (21, .isub, 1), (22, .aload_n 1, 1), (23, .invokestatic 149, 3), (26, .dup, 1), (27, .istore 6, 2), (29, .iand, 1), (30, .aaload, 1), (31, .dup, 1), (32, .astore_n 3, 1), (33, .ifnull 115, 3), (36, .aload_n 3, 1), (37, .getfield 168, 3), (40, .iload 6, 2), (42, .if_icmp .ne 29, 3), (45, .aload_n 3, 1), (46, .getfield 170, 3), (49, .dup, 1), (50, .astore 7, 2), (52, .aload_n 1, 1), (53, .if_acmp .eq 16, 3), (69, .aload_n 3, 1), (70, .areturn, 1), (148, .aconst_null, 1), (149, .areturn, 1)]
set_option maxRecDepth 65536 in
theorem D49 : ∀ x ∈ L49, decode jdk_69_method_13_code x.1 = .ok x.2 := by decide +kernel
abbrev L50 : List (Nat × Instr × Nat) := [(0, .aload_n 0, 1), (1, .getfield 205, 3), (4, .ireturn, 1)]
set_option maxRecDepth 65536 in
theorem D50 : ∀ x ∈ L50, decode jdk_33_method_27_code x.1 = .ok x.2 := by decide +kernel
abbrev L51 : List (Nat × Instr × Nat) := [(0, .iload_n 0, 1), (1, .iconst 0, 1), (2, .invokestatic 110, 3), (5, .ireturn, 1)]
set_option maxRecDepth 65536 in
theorem D51 : ∀ x ∈ L51, decode prog_10_method_13_code x.1 = .ok x.2 := by decide +kernel
abbrev L52 : List (Nat × Instr × Nat) := [(0, .aload_n 0, 1), (1, .invokevirtual 7, 3), (4, .getfield 13, 3), (7, .areturn, 1)]
set_option maxRecDepth 65536 in
theorem D52 : ∀ x ∈ L52, decode jdk_2569_method_2_code x.1 = .ok x.2 := by decide +kernel
abbrev L53 : List (Nat × Instr × Nat) := [(68, .aload_n 0, 1), (69, .getfield 33, 3), (72, .aload_n 1, 1), (73, .arraylength, 1), (74, .if_icmp .ge 24, 3), (77, .aload_n 0, 1), (78, .aload_n 1, 1), (79, .aload_n 0, 1), (80, .dup, 1), (81, .getfield 33, 3), (84, .dup_x1, 1), (85, .iconst 1, 1), (86, .iadd, 1), (87, .putfield 33, 3), (90, .aaload, 1), (91, .dup_x1, 1), (92, .putfield 26, 3), (95, .ifnull (-27), 3), (0, .aload_n 0, 1), (1, .getfield 26, 3), (4, .astore_n 2, 1), (5, .aload_n 0, 1), (6, .getfield 1, 3), (9, .getfield 13, 3), (12, .aload_n 0, 1), (13, .getfield 19, 3), (16, .if_icmp .eq 11, 3), (27, .aload_n 2, 1), (28, .ifnonnull 11, 3), (39, .aload_n 0, 1), (40, .aload_n 0, 1), (41, .aload_n 2, 1), (42, .dup_x1, 1), (43, .putfield 30, 3), (46, .getfield 45, 3), (49, .dup_x1, 1), (50, .putfield 26, 3), (53, .ifnonnull 45, 3), (56, .aload_n 0, 1), (57, .getfield 1, 3), (60, .getfield 22, 3), (63, .dup, 1), (64, .astore_n 1, 1), (65, .ifnull 33, 3), (98, .aload_n 2, 1), (99, .areturn, 1)]
set_option maxRecDepth 65536 in
theorem D53 : ∀ x ∈ L53, decode jdk_99_method_3_code x.1 = .ok x.2 := by decide +kernel
abbrev L54 : List (Nat × Instr × Nat) := [(0, .aload_n 0, 1), (1, .invokespecial 202, 3), (4, .aload_n 0, 1), (5, .iload_n 1, 1), (6, .putfield 205, 3), (9, .return_, 1)]
set_option maxRecDepth 65536 in
theorem D54 : ∀ x ∈ L54, decode jdk_33_method_23_code x.1 = .ok x.2 := by decide +kernel
abbrev L55 : List (Nat × Instr × Nat) := [(0, .aload_n 0, 1), (1, .invokespecial 1, 3), (4, .return_, 1)]
set_option maxRecDepth 65536 in
theorem D55 : ∀ x ∈ L55, decode jdk_18_method_1_code x.1 = .ok x.2 := by decide +kernel
abbrev L56 : List (Nat × Instr × Nat) := [(0, .iload_n 0, 1), (1, .iload_n 1, 1), (2, .if_icmp .gt 7, 3), (9, .iload_n 1, 1), (5, .iload_n 0, 1), (6, .goto 4, 3), (10, .ireturn, 1)]
set_option maxRecDepth 65536 in
theorem D56 : ∀ x ∈ L56, decode jdk_29_method_69_code x.1 = .ok x.2 := by decide +kernel

abbrev s1 (x : Slot) : Bool := match x with | .unset => true | .second => false | .val v => v.category == 1
theorem st6 {a b c d e f x : Slot} {v : Int32} (h : s1 x = true) : storeLocals #[a, b, c, d, e, f, x] 6 (.int v) = some #[a, b, c, d, e, f, .val (.int v)] := by
 cases x with
 | unset => rfl
 | second => exact absurd (show false = true from h) (by decide)
 | val w => cases w <;> first | rfl | exact absurd (show false = true from h) (by decide)
theorem own_lsz {Z : State} {h : Heap} {o : Addr} {lm n n' : Int32} {ev : Value} (e : n' = n) (B : OBJ Z h o "java/util/ArrayList" lyLS [.int lm, ev, .int n]) : OBJ Z h o "java/util/ArrayList" lyLS [.int lm, ev, .int n'] := by subst e; exact B
theorem ef_8_R (m : MethodId) (x0 : Addr) : entryFrame m #[(.ref x0)] 1 = mkF m 0 #[.val (.ref x0)] [] := by first | (simp [entryFrame, mkF, argsToLocals, Value.category]; done) | rfl
def Q_i_AbstractCollection (Z : State) (a1 : Addr) (h0 : Heap) (n0 : Nat) (v : Option Value) (h : Heap) (L : List Loc) : Prop := v = none ∧ Fr n0 L ∧ h = h0
theorem pn_java_2futil_2fAbstractCollection : plainName "java/util/AbstractCollection" = true := by first | (simp [plainName, overriddenIn]; done) | decide +kernel
theorem i_AbstractCollection (l : Launch) (Z : State) (a0 : Array Value) (hw : HW Z a0) (ws : List Jvm.Cond) (a1 : Addr) (h0 : Heap) (n0 : Nat) (Z0 : n0 ≤ h0.size) :
  Met l mn0 jdk_22_method_1_code 1 none ws (rm 1 0 0 12) #[(.ref a1)] Z h0 (Q_i_AbstractCollection Z a1 h0 n0) := by
 refine Met.intro (plainFor_of_name pn_java_2futil_2fAbstractCollection) ?_
 intro p e s m below meth c s₁ hx hby hml hZ hown hnm hrt hlk X0 e0
 have N0 := Fr.nil n0
 have hww := @hvw _ _ hw
 have k0 := k_e (p := p) (e := e) (below := below) (s := s₁) (ef_8_R m a1)
 have H := @dch _ _ _ hby D8
 have k101 := f_alN X0 hx k0 (H 0 rfl) rfl
 obtain ⟨T102, X102, e102, st102⟩ := initO X0 hx hZ hown (hww 45 rfl) (hww 21 rfl) (hww 22 rfl) e0 (g := (mkF m 1 #[sr a1] [vR a1])) rfl (by rw [hml]; rfl) rfl (H 1 rfl) (by decide) (W := 0) (by show 2 * 0 + _ ≤ _; exact Nat.le_of_eq rfl) (by decide)
 have k103 : Rt p e below T102 (mkF m 4 #[sr a1] []) s₁ m #[(.ref a1)] 1 := fun t k => k101 t (st102 t k)
 exact fin_v X102 hx hrt hlk k103 (H 2 rfl) (by rw [e102]; exact ⟨rfl, N0, rfl⟩) (by decide) (by decide)
theorem ef_10_R (m : MethodId) (x0 : Addr) : entryFrame m #[(.ref x0)] 1 = mkF m 0 #[.val (.ref x0)] [] := by first | (simp [entryFrame, mkF, argsToLocals, Value.category]; done) | rfl
def Q_i_AbstractMap (Z : State) (a1 : Addr) (h0 : Heap) (n0 : Nat) (v : Option Value) (h : Heap) (L : List Loc) : Prop := v = none ∧ Fr n0 L ∧ h = h0
theorem pn_java_2futil_2fAbstractMap : plainName "java/util/AbstractMap" = true := by first | (simp [plainName, overriddenIn]; done) | decide +kernel
theorem i_AbstractMap (l : Launch) (Z : State) (a0 : Array Value) (hw : HW Z a0) (ws : List Jvm.Cond) (a1 : Addr) (h0 : Heap) (n0 : Nat) (Z0 : n0 ≤ h0.size) :
  Met l mn1 jdk_71_method_1_code 1 none ws (rm 1 0 0 12) #[(.ref a1)] Z h0 (Q_i_AbstractMap Z a1 h0 n0) := by
 refine Met.intro (plainFor_of_name pn_java_2futil_2fAbstractMap) ?_
 intro p e s m below meth c s₁ hx hby hml hZ hown hnm hrt hlk X0 e0
 have N0 := Fr.nil n0
 have hww := @hvw _ _ hw
 have k0 := k_e (p := p) (e := e) (below := below) (s := s₁) (ef_10_R m a1)
 have H := @dch _ _ _ hby D10
 have k101 := f_alN X0 hx k0 (H 0 rfl) rfl
 obtain ⟨T102, X102, e102, st102⟩ := initO X0 hx hZ hown (hww 63 rfl) (hww 21 rfl) (hww 22 rfl) e0 (g := (mkF m 1 #[sr a1] [vR a1])) rfl (by rw [hml]; rfl) rfl (H 1 rfl) (by decide) (W := 0) (by show 2 * 0 + _ ≤ _; exact Nat.le_of_eq rfl) (by decide)
 have k103 : Rt p e below T102 (mkF m 4 #[sr a1] []) s₁ m #[(.ref a1)] 1 := fun t k => k101 t (st102 t k)
 exact fin_v X102 hx hrt hlk k103 (H 2 rfl) (by rw [e102]; exact ⟨rfl, N0, rfl⟩) (by decide) (by decide)
theorem ef_55_R (m : MethodId) (x0 : Addr) : entryFrame m #[(.ref x0)] 1 = mkF m 0 #[.val (.ref x0)] [] := by first | (simp [entryFrame, mkF, argsToLocals, Value.category]; done) | rfl
def Q_i_Number (Z : State) (a1 : Addr) (h0 : Heap) (n0 : Nat) (v : Option Value) (h : Heap) (L : List Loc) : Prop := v = none ∧ Fr n0 L ∧ h = h0
theorem pn_java_2flang_2fNumber : plainName "java/lang/Number" = true := by first | (simp [plainName, overriddenIn]; done) | decide +kernel
theorem i_Number (l : Launch) (Z : State) (a0 : Array Value) (hw : HW Z a0) (ws : List Jvm.Cond) (a1 : Addr) (h0 : Heap) (n0 : Nat) (Z0 : n0 ≤ h0.size) :
  Met l mn2 jdk_18_method_1_code 1 none ws (rm 1 0 0 12) #[(.ref a1)] Z h0 (Q_i_Number Z a1 h0 n0) := by
 refine Met.intro (plainFor_of_name pn_java_2flang_2fNumber) ?_
 intro p e s m below meth c s₁ hx hby hml hZ hown hnm hrt hlk X0 e0
 have N0 := Fr.nil n0
 have hww := @hvw _ _ hw
 have k0 := k_e (p := p) (e := e) (below := below) (s := s₁) (ef_55_R m a1)
 have H := @dch _ _ _ hby D55
 have k101 := f_alN X0 hx k0 (H 0 rfl) rfl
 obtain ⟨T102, X102, e102, st102⟩ := initO X0 hx hZ hown (hww 400 rfl) (hww 21 rfl) (hww 22 rfl) e0 (g := (mkF m 1 #[sr a1] [vR a1])) rfl (by rw [hml]; rfl) rfl (H 1 rfl) (by decide) (W := 0) (by show 2 * 0 + _ ≤ _; exact Nat.le_of_eq rfl) (by decide)
 have k103 : Rt p e below T102 (mkF m 4 #[sr a1] []) s₁ m #[(.ref a1)] 1 := fun t k => k101 t (st102 t k)
 exact fin_v X102 hx hrt hlk k103 (H 2 rfl) (by rw [e102]; exact ⟨rfl, N0, rfl⟩) (by decide) (by decide)
theorem ef_2_I (m : MethodId) (x0 : Int32) : entryFrame m #[(.int x0)] 1 = mkF m 0 #[.val (.int x0)] [] := by first | (simp [entryFrame, mkF, argsToLocals, Value.category]; done) | rfl
def Q_cenc (Z : State) (p1 : Int32) (h0 : Heap) (n0 : Nat) (v : Option Value) (h : Heap) (L : List Loc) : Prop := v = some (.int (1 : Int32)) ∧ Fr n0 L ∧ h = h0
theorem pn_java_2flang_2fStringLatin1 : plainName "java/lang/StringLatin1" = true := by first | (simp [plainName, overriddenIn]; done) | decide +kernel
theorem cenc (l : Launch) (Z : State) (a0 : Array Value) (hw : HW Z a0) (ws : List Jvm.Cond) (p1 : Int32) (h0 : Heap) (n0 : Nat) (Z0 : n0 ≤ h0.size) (hc1 : ¬ ((255 : Int32) < p1)) :
  Met l mn3 jdk_43_method_3_code 1 (some .boolean) ws (rm 0 0 0 0) #[(.int p1)] Z h0 (Q_cenc Z p1 h0 n0) := by
 refine Met.intro (plainFor_of_name pn_java_2flang_2fStringLatin1) ?_
 intro p e s m below meth c s₁ hx hby hml hZ hown hnm hrt hlk X0 e0
 have N0 := Fr.nil n0
 have hww := @hvw _ _ hw
 have k0 := k_e (p := p) (e := e) (below := below) (s := s₁) (ef_2_I m p1)
 have H := @dch _ _ _ hby D2
 have k101 := f_ilN X0 hx k0 (H 0 rfl) rfl
 have k102 := f_sp X0 hx k101 (H 1 rfl) (v := 255) rfl
 have k103 := f_icN X0 hx k102 (H 2 rfl) (flt hc1).2.2.1
 have k104 := f_ic X0 hx k103 (H 3 rfl) (v := 1) rfl
 have k105 := f_go X0 hx k104 (H 4 rfl) (pc' := 12) (by decide)
 exact fin_r X0 hx (w := (.int (1 : Int32))) hrt hlk rfl (Or.inl ⟨rfl, Or.inr (Or.inl rfl), _, rfl⟩) k105 (H 5 rfl) (by rw [e0]; exact ⟨rfl, N0, rfl⟩) (by decide) (by decide)
theorem ef_3_I (m : MethodId) (x0 : Int32) : entryFrame m #[(.int x0)] 1 = mkF m 0 #[.val (.int x0)] [] := by first | (simp [entryFrame, mkF, argsToLocals, Value.category]; done) | rfl
def Q_tobs (Z : State) (p1 : Int32) (h0 : Heap) (n0 : Nat) (v : Option Value) (h : Heap) (L : List Loc) : Prop := ∃ (b : Addr) (kb : ClassId), v = some (.ref b) ∧ Fr n0 L ∧ Keep h0 h [] ∧ h0.size ≤ b ∧ Arv Z h b kb .byte (1 : Int32) [(.int p1)] zI
theorem tobs (l : Launch) (Z : State) (a0 : Array Value) (hw : HW Z a0) (ws : List Jvm.Cond) (p1 : Int32) (h0 : Heap) (n0 : Nat) (Z0 : n0 ≤ h0.size) (hc2 : nar .byte (p1.toInt8.toInt32) = p1) :
  Met l mn4 jdk_43_method_46_code 1 (some (.array .byte)) ws (rm 0 1 1 0) #[(.int p1)] Z h0 (Q_tobs Z p1 h0 n0) := by
 refine Met.intro (plainFor_of_name pn_java_2flang_2fStringLatin1) ?_
 intro p e s m below meth c s₁ hx hby hml hZ hown hnm hrt hlk X0 e0
 have N0 := Fr.nil n0
 have hww := @hvw _ _ hw
 have k0 := k_e (p := p) (e := e) (below := below) (s := s₁) (ef_3_I m p1)
 have K0 : Keep h0 h0 [] := Keep.refl h0 []
 have H := @dch _ _ _ hby D3
 have k101 := f_ic X0 hx k0 (H 0 rfl) (v := 1) rfl
 obtain ⟨T102, h102, k102, X102, e102, E102, A102, st102⟩ := newP X0 hx hZ (hww 15 rfl) e0 (g := (mkF m 1 #[si p1] [vI 1])) rfl (H 1 rfl) rfl (by decide) (cap := 1) (by decide) (by decide) (by decide) (by decide)
 obtain ⟨b102, g102⟩ : ∃ z, z = h0.size := ⟨_, rfl⟩
 rw [← g102] at A102 st102
 have g103 : n0 ≤ b102 := Nat.le_trans Z0 (Nat.le_of_eq g102.symm)
 have z104 : h0.size ≤ b102 := Nat.le_trans K0.1 (Nat.le_of_eq g102.symm)
 have Z105 : n0 ≤ h102.size := Nat.le_trans Z0 E102.1
 have K106 := K0.ext E102
 have V107 : Arv Z h102 b102 k102 .byte (1 : Int32) [zI] zI := (Arv.new A102 (by decide)).pad (pad_rep [] zI 1)
 have k108 : Rt p e below T102 (mkF m 3 #[si p1] [vR b102]) s₁ m #[(.int p1)] 1 := fun t k => k101 t (st102 t k)
 have k109 := f_dup X102 hx k108 (H 2 rfl) rfl
 have k110 := f_ic X102 hx k109 (H 3 rfl) (v := 0) rfl
 have k111 := f_ilN X102 hx k110 (H 4 rfl) rfl
 have k112 : Rt p e below T102 (mkF m 7 #[si p1] [vI (p1.toInt8.toInt32), vI 0, vR b102, vR b102]) s₁ m #[(.int p1)] 1 := fun t k => k111 t (by
  show Sp p e below T102 (mkF m 6 #[si p1] [vI p1, vI 0, vR b102, vR b102]) _
  refine XS.i2b X102.here hx rfl (H 5 rfl) rfl ?_
  exact k)
 obtain ⟨c113, Ar113, Aq113, As113, An113, Ah113, Ag113⟩ := id V107
 have hin113 : ¬ ((0 : Int32) < 0 ∨ c113.slots.size ≤ ((0 : Int32)).toNatClampNeg) := inb_of As113 ⟨by decide, by decide⟩
 obtain ⟨T113, h113, X113, e113, W113, st113⟩ := stB X102 hx hZ e102 Ar113 (j := (0 : Int32)) hin113 (g := (mkF m 7 #[si p1] [vI (p1.toInt8.toInt32), vI 0, vR b102, vR b102])) rfl rfl (H 6 rfl)
 have V114 : Arv Z h113 b102 k102 .byte (1 : Int32) [(.int p1)] zI := by have q := Arv.set Ar113 Aq113 As113 An113 Ah113 Ag113 (fits_nar_byte _) W113 0 rfl (Nat.le_of_ble_eq_true rfl); rw [show p1.toInt8.toInt32.toInt8.toInt32 = p1 from hc2] at q; exact q
 have Z115 : n0 ≤ h113.size := Nat.le_trans Z105 (Nat.le_of_eq W113.size.symm)
 have N116 := Fr.snoc X113 N0 g103
 have K117 := K106.wr W113 (Or.inr z104)
 have k118 : Rt p e below T113 (mkF m 8 #[si p1] [vR b102]) s₁ m #[(.int p1)] 1 := fun t k => k112 t (st113 t k)
 exact fin_r X113 hx (w := (.ref b102)) hrt hlk rfl (Or.inr (Or.inr (Or.inr (Or.inr ⟨rfl, rfl, rfl⟩)))) k118 (H 7 rfl) (by rw [e113]; exact ⟨b102, k102, rfl, N116, K117, z104, V114⟩) (by decide) (by decide)
theorem ef_4_RRI (m : MethodId) (x0 : Addr) (x1 : Addr) (x2 : Int32) : entryFrame m #[(.ref x0), (.ref x1), (.int x2)] 3 = mkF m 0 #[.val (.ref x0), .val (.ref x1), .val (.int x2)] [] := by first | (simp [entryFrame, mkF, argsToLocals, Value.category]; done) | rfl
def Q_sini (Z : State) (a1 a2 : Addr) (h0 : Heap) (n0 : Nat) (v : Option Value) (h : Heap) (L : List Loc) : Prop := v = none ∧ Fr n0 L ∧ Keep h0 h [a1] ∧ OBJ Z h a1 "java/lang/String" lyST [(.ref a2), zI, zI, zI]
theorem pn_java_2flang_2fString : plainName "java/lang/String" = true := by first | (simp [plainName, overriddenIn]; done) | decide +kernel
theorem sini (l : Launch) (Z : State) (a0 : Array Value) (hw : HW Z a0) (ws : List Jvm.Cond) (a1 a2 : Addr) (h0 : Heap) (n0 : Nat) (Z0 : n0 ≤ h0.size) (Fk0 : OBJ Z h0 a1 "java/lang/String" lyST [.null, zI, zI, zI]) (ge_a1 : n0 ≤ a1) :
  Met l mn5 jdk_42_method_151_code 3 none ws (rm 1 0 0 12) #[(.ref a1), (.ref a2), zI] Z h0 (Q_sini Z a1 a2 h0 n0) := by
 refine Met.intro (plainFor_of_name pn_java_2flang_2fString) ?_
 intro p e s m below meth c s₁ hx hby hml hZ hown hnm hrt hlk X0 e0
 have N0 := Fr.nil n0
 have hww := @hvw _ _ hw
 have k0 := k_e (p := p) (e := e) (below := below) (s := s₁) (ef_4_RRI m a1 a2 (0 : Int32))
 have K0 := Keep.refl h0 [a1]
 have H := @dch _ _ _ hby D4
 have k101 := f_alN X0 hx k0 (H 0 rfl) rfl
 obtain ⟨T102, X102, e102, st102⟩ := initO X0 hx hZ hown (hww 20 rfl) (hww 21 rfl) (hww 22 rfl) e0 (g := (mkF m 1 #[sr a1, sr a2, si 0] [vR a1])) rfl (by rw [hml]; rfl) rfl (H 1 rfl) (by decide) (W := 0) (by show 2 * 0 + _ ≤ _; exact Nat.le_of_eq rfl) (by decide)
 have k103 : Rt p e below T102 (mkF m 4 #[sr a1, sr a2, si 0] []) s₁ m #[(.ref a1), (.ref a2), zI] 3 := fun t k => k101 t (st102 t k)
 have k104 := f_alN X102 hx k103 (H 2 rfl) rfl
 have k105 := f_alN X102 hx k104 (H 3 rfl) rfl
 obtain ⟨T106, h106, L106, X106, e106, W106, B106, N106, Z106, k106⟩ := f_pF X102 hx hZ hown (hww 23 rfl) Via.refl e102 Fk0 (snST hw) (Or.inr ⟨(hww 24 rfl), rfl, hnm⟩) (hww 11 rfl) 0 (by decide) rfl rfl (ty := (.array .byte)) (by decide) rfl rfl N0 ge_a1 Z0 k105 (H 4 rfl) rfl
 have K107 := kw K0 W106 0 rfl
 have k108 := f_alN X106 hx k106 (H 5 rfl) rfl
 have k109 := f_ilN X106 hx k108 (H 6 rfl) rfl
 obtain ⟨T110, h110, L110, X110, e110, W110, B110, N110, Z110, k110⟩ := f_pF X106 hx hZ hown (hww 25 rfl) Via.refl e106 B106 (snST hw) (Or.inr ⟨(hww 26 rfl), rfl, hnm⟩) (hww 11 rfl) 1 (by decide) rfl rfl (ty := .byte) (by decide) rfl rfl N106 ge_a1 Z106 k109 (H 7 rfl) rfl
 have K111 := kw K107 W110 0 rfl
 exact fin_v X110 hx hrt hlk k110 (H 8 rfl) (by rw [e110]; exact ⟨rfl, N110, K111, B110⟩) (by decide) (by decide)
theorem ef_1_I (m : MethodId) (x0 : Int32) : entryFrame m #[(.int x0)] 1 = mkF m 0 #[.val (.int x0)] [] := by first | (simp [entryFrame, mkF, argsToLocals, Value.category]; done) | rfl
theorem pd__28C_29Z : parseMethodDescriptor "(C)Z" = some ⟨[.char], some .boolean⟩ := by decide +kernel
theorem pd__28C_29_5bB : parseMethodDescriptor "(C)[B" = some ⟨[.char], some (.array .byte)⟩ := by decide +kernel
theorem pd__28_5bBB_29V : parseMethodDescriptor "([BB)V" = some ⟨[(.array .byte), .byte], none⟩ := by decide +kernel
def Q_vof (Z : State) (p1 cs : Int32) (h0 : Heap) (n0 : Nat) (v : Option Value) (h : Heap) (L : List Loc) : Prop := ∃ (a : Addr) (b : Addr) (kb : ClassId), v = some (.ref a) ∧ Fr n0 L ∧ Keep h0 h [] ∧ h0.size ≤ a ∧ h0.size ≤ b ∧ a ≠ b ∧ OBJ Z h a "java/lang/String" lyST [(.ref b), zI, zI, zI] ∧ Arv Z h b kb .byte (1 : Int32) [(.int p1)] zI
theorem vof (l : Launch) (Z : State) (a0 : Array Value) (hw : HW Z a0) (ws : List Jvm.Cond) (p1 cs : Int32) (h0 : Heap) (n0 : Nat) (Z0 : n0 ≤ h0.size) (hc1 : ¬ ((255 : Int32) < p1)) (hc2 : nar .byte (p1.toInt8.toInt32) = p1) (Scs : Sta Z Z.heap "java/lang/String" "COMPACT_STRINGS" "Z" (.int cs)) (hcs : ¬ (cs = (0 : Int32))) (O0 : Old Z n0 h0) :
  Met l mn6 jdk_42_method_139_code 1 (some (.object "java/lang/String")) ws (rm 2 2 5 27) #[(.int p1)] Z h0 (Q_vof Z p1 cs h0 n0) := by
 refine Met.intro (plainFor_of_name pn_java_2flang_2fString) ?_
 intro p e s m below meth c s₁ hx hby hml hZ hown hnm hrt hlk X0 e0
 have N0 := Fr.nil n0
 have hww := @hvw _ _ hw
 have k0 := k_e (p := p) (e := e) (below := below) (s := s₁) (ef_1_I m p1)
 have K0 : Keep h0 h0 [] := Keep.refl h0 []
 have H := @dch _ _ _ hby D1
 obtain ⟨T101, X101, e101, st101⟩ := getS2 X0 hx hZ hown (host := "") (Or.inl (hww 5 rfl)) Via.refl e0 (Scs.ext O0.2) (g := (mkF m 0 #[si p1] [])) rfl (H 0 rfl)
 have k102 : Rt p e below T101 (mkF m 3 #[si p1] [vI cs]) s₁ m #[(.int p1)] 1 := fun t k => k0 t (st101 t k)
 have k103 := f_ifN X101 hx k102 (H 1 rfl) ((if0 _ _).trans (feq hcs).1)
 have k104 := f_ilN X101 hx k103 (H 2 rfl) rfl
 obtain ⟨_, T105, L105, X105, hQ105, k105⟩ := c_S (W := 0) X101 hx hZ hown (hww 6 rfl) (hww 7 rfl) (hww 8 rfl) (hww 9 rfl) (by decide) (cenc l Z a0 hw [] p1 h0 n0 Z0 hc1) e101 (argsL := [(.int p1)]) (rest := []) rfl (by rw [hml]; rfl) k104 rfl (H 3 rfl) (lenOf pd__28C_29Z rfl) (b5 rfl)
 obtain ⟨rfl, N105q, e105⟩ := hQ105
 have N106 := Fr.app N0 N105q
 have k107 := f_ifN X105 hx k105 (H 4 rfl) ((if0 _ _).trans (feq (by decide)).1)
 obtain ⟨T108, h108, X108, e108, E108, A108, D108, -, st108⟩ := newO X105 hx hZ hown (hww 10 rfl) (hww 11 rfl) (hww 3 rfl) e105 (g := (mkF m 13 #[si p1] [])) rfl (H 5 rfl) (by decide) (by decide)
 obtain ⟨b108, g108⟩ : ∃ z, z = h0.size := ⟨_, rfl⟩
 rw [← g108] at A108 D108 st108
 have g109 : n0 ≤ b108 := Nat.le_trans Z0 (Nat.le_of_eq g108.symm)
 have z110 : h0.size ≤ b108 := Nat.le_trans K0.1 (Nat.le_of_eq g108.symm)
 have F111 := O0.ext E108
 have Z112 : n0 ≤ h108.size := Nat.le_trans Z0 E108.1
 have K113 := K0.ext E108
 have F114 : Fld Z h108 b108 "java/lang/String" "value" "[B" .null := D108 (Or.inr (hww 24 rfl)) (ty := (.array .byte)) (by decide)
 have F115 : Fld Z h108 b108 "java/lang/String" "coder" "B" zI := D108 (Or.inr (hww 26 rfl)) (ty := .byte) (by decide)
 have F116 : Fld Z h108 b108 "java/lang/String" "hash" "I" zI := D108 (Or.inl (hww 262 rfl)) (ty := .int) (by decide)
 have F117 : Fld Z h108 b108 "java/lang/String" "hashIsZero" "Z" zI := D108 (Or.inl (hww 264 rfl)) (ty := .boolean) (by decide)
 have k118 : Rt p e below T108 (mkF m 16 #[si p1] [vR b108]) s₁ m #[(.int p1)] 1 := fun t k => k107 t (st108 t k)
 have B119 := mkST A108 F114 F115 F116 F117
 have k120 := f_dup X108 hx k118 (H 6 rfl) rfl
 have k121 := f_ilN X108 hx k120 (H 7 rfl) rfl
 obtain ⟨_, T122, L122, X122, hQ122, k122⟩ := c_S (W := 2) X108 hx hZ hown (hww 12 rfl) (hww 13 rfl) (hww 8 rfl) (hww 14 rfl) (by decide) (tobs l Z a0 hw [] p1 h108 n0 Z112 hc2) e108 (argsL := [(.int p1)]) (rest := [(.ref b108), (.ref b108)]) rfl (by rw [hml]; rfl) k121 rfl (H 8 rfl) (lenOf pd__28C_29_5bB rfl) (b5 rfl)
 obtain ⟨h122, e122⟩ : ∃ h', T122.heap = h' := ⟨_, rfl⟩
 rw [e122] at hQ122
 obtain ⟨b122, kb122, rfl, N122q, K122, Zx122_0, R122_0⟩ := hQ122
 have N123 := Fr.app N106 N122q
 have F124 := F111.keep K122 all0
 have F125 := B119.keep K122 nin0
 have Z126 : n0 ≤ h122.size := Nat.le_trans Z112 K122.1
 have K127 := Keep.trans K113 K122 all0
 have k128 := f_ic X122 hx k122 (H 9 rfl) (v := 0) rfl
 obtain ⟨_, T129, L129, X129, hQ129, k129⟩ := c_N (W := 1) X122 hx hZ hown (hww 16 rfl) (hww 17 rfl) (hww 19 rfl) (hww 3 rfl) rfl (by decide) (sini l Z a0 hw [] b108 b122 h122 n0 Z126 F125 g109) e122 (argsL := [(.ref b122), zI]) (rest := [(.ref b108)]) rfl (by rw [hml]; rfl) k128 rfl (H 10 rfl) (lenOf pd__28_5bBB_29V rfl) (b5 rfl)
 obtain ⟨h129, e129⟩ : ∃ h', T129.heap = h' := ⟨_, rfl⟩
 rw [e129] at hQ129
 obtain ⟨rfl, N129q, K129, R129_0⟩ := hQ129
 have N130 := Fr.app N123 N129q
 have F131 := F124.keep K129 (allS g109 all0)
 have F132 := R122_0.keep K129 (ninS (nG B119.lt Zx122_0) nin0)
 have Z133 : n0 ≤ h129.size := Nat.le_trans Z126 K129.1
 have K134 := Keep.trans K127 K129 (allS (Or.inr z110) all0)
 exact fin_r X129 hx (w := (.ref b108)) hrt hlk rfl (Or.inr (Or.inr (Or.inr (Or.inr ⟨rfl, rfl, rfl⟩)))) k129 (H 11 rfl) (by rw [e129]; exact ⟨b108, b122, kb122, rfl, N130, K134, z110, (Nat.le_trans K113.1 Zx122_0), (nL B119.lt Zx122_0), R129_0, F132⟩) (by decide) (by decide)
theorem ef_36_R (m : MethodId) (x0 : Addr) : entryFrame m #[(.ref x0)] 1 = mkF m 0 #[.val (.ref x0)] [] := by first | (simp [entryFrame, mkF, argsToLocals, Value.category]; done) | rfl
def Q_isl1 (Z : State) (a1 : Addr) (cs : Int32) (h0 : Heap) (n0 : Nat) (v : Option Value) (h : Heap) (L : List Loc) : Prop := v = some (.int (1 : Int32)) ∧ Fr n0 L ∧ h = h0
theorem isl1 (l : Launch) (Z : State) (a0 : Array Value) (hw : HW Z a0) (ws : List Jvm.Cond) (a1 : Addr) (cs : Int32) (h0 : Heap) (n0 : Nat) (Z0 : n0 ≤ h0.size) (Fk0 : Fld Z h0 a1 "java/lang/String" "coder" "B" zI) (Scs : Sta Z Z.heap "java/lang/String" "COMPACT_STRINGS" "Z" (.int cs)) (hcs : ¬ (cs = (0 : Int32))) (O0 : Old Z n0 h0) :
  Met l mn7 jdk_42_method_154_code 1 (some .boolean) ws (rm 0 0 0 0) #[(.ref a1)] Z h0 (Q_isl1 Z a1 cs h0 n0) := by
 refine Met.intro (plainFor_of_name pn_java_2flang_2fString) ?_
 intro p e s m below meth c s₁ hx hby hml hZ hown hnm hrt hlk X0 e0
 have N0 := Fr.nil n0
 have hww := @hvw _ _ hw
 have k0 := k_e (p := p) (e := e) (below := below) (s := s₁) (ef_36_R m a1)
 have H := @dch _ _ _ hby D36
 obtain ⟨T101, X101, e101, st101⟩ := getS2 X0 hx hZ hown (host := "") (Or.inl (hww 5 rfl)) Via.refl e0 (Scs.ext O0.2) (g := (mkF m 0 #[sr a1] [])) rfl (H 0 rfl)
 have k102 : Rt p e below T101 (mkF m 3 #[sr a1] [vI cs]) s₁ m #[(.ref a1)] 1 := fun t k => k0 t (st101 t k)
 have k103 := f_ifN X101 hx k102 (H 1 rfl) ((if0 _ _).trans (feq hcs).1)
 have k104 := f_alN X101 hx k103 (H 2 rfl) rfl
 obtain ⟨T105, X105, e105, k106⟩ := gFs X101 hx hZ hown (hww 25 rfl) e101 Fk0 k104 (H 3 rfl)
 have k107 := f_ifN X105 hx k106 (H 4 rfl) ((if0 _ _).trans (teq (by decide)).2)
 have k108 := f_ic X105 hx k107 (H 5 rfl) (v := 1) rfl
 have k109 := f_go X105 hx k108 (H 6 rfl) (pc' := 18) (by decide)
 exact fin_r X105 hx (w := (.int (1 : Int32))) hrt hlk rfl (Or.inl ⟨rfl, Or.inr (Or.inl rfl), _, rfl⟩) k109 (H 7 rfl) (by rw [e105]; exact ⟨rfl, N0, rfl⟩) (by decide) (by decide)
theorem ef_37_R (m : MethodId) (x0 : Addr) : entryFrame m #[(.ref x0)] 1 = mkF m 0 #[.val (.ref x0)] [] := by first | (simp [entryFrame, mkF, argsToLocals, Value.category]; done) | rfl
def Q_lhc (Z : State) (a1 : Addr) (kb : ClassId) (p1 : Int32) (h0 : Heap) (n0 : Nat) (v : Option Value) (h : Heap) (L : List Loc) : Prop := v = some (.int p1) ∧ Fr n0 L ∧ h = h0
theorem lhc (l : Launch) (Z : State) (a0 : Array Value) (hw : HW Z a0) (ws : List Jvm.Cond) (a1 : Addr) (kb : ClassId) (p1 : Int32) (h0 : Heap) (n0 : Nat) (Z0 : n0 ≤ h0.size) (Fk0 : Arv Z h0 a1 kb .byte (1 : Int32) [(.int p1)] zI) (hc3 : p1 &&& (255 : Int32) = p1) :
  Met l mn8 jdk_43_method_21_code 1 (some .int) ws (rm 0 0 0 0) #[(.ref a1)] Z h0 (Q_lhc Z a1 kb p1 h0 n0) := by
 refine Met.intro (plainFor_of_name pn_java_2flang_2fStringLatin1) ?_
 intro p e s m below meth c s₁ hx hby hml hZ hown hnm hrt hlk X0 e0
 have N0 := Fr.nil n0
 have hww := @hvw _ _ hw
 have k0 := k_e (p := p) (e := e) (below := below) (s := s₁) (ef_37_R m a1)
 have H := @dch _ _ _ hby D37
 have k101 := f_alN X0 hx k0 (H 0 rfl) rfl
 have k102 := f_len X0 hx hZ e0 Fk0 k101 (H 1 rfl)
 have k103 := f_lsw X0 hx k102 (H 2 rfl) (x := 1) (y := 30) (pc' := 32) (by decide) (by decide) (by decide)
 have k104 := f_alN X0 hx k103 (H 3 rfl) rfl
 have k105 := f_ic X0 hx k104 (H 4 rfl) (v := 0) rfl
 obtain ⟨c106, Ar106, -, As106, An106, Ah106, -⟩ := id Fk0
 have hin106 : ¬ ((0 : Int32) < 0 ∨ c106.slots.size ≤ ((0 : Int32)).toNatClampNeg) := inb_of As106 ⟨by decide, by decide⟩
 have hat106 : c106.slots[((0 : Int32)).toNatClampNeg]? = some (.int p1) := Has.at Ah106 hin106 rfl
 have k107 : Rt p e below s₁ (mkF m 35 #[sr a1] [vI p1]) s₁ m #[(.ref a1)] 1 := fun t k => k105 t (by
  show Sp p e below s₁ (mkF m 34 #[sr a1] [vI 0, vR a1]) _
  refine X0.baloadBytes hx (j := (0 : Int32)) (v := (.int p1)) (by rw [e0]; exact Ar106.1) (State.isArrayOf_alike hZ.alike Ar106.2.1) Ar106.2.2 hin106 hat106 (g := (mkF m 34 #[sr a1] [vI 0, vR a1])) rfl rfl (H 5 rfl) _ ?_
  exact k)
 have k108 := f_sp X0 hx k107 (H 6 rfl) (v := 255) rfl
 have k109 := f_iand X0 hx k108 (H 7 rfl) rfl
 have k110 := f_go X0 hx k109 (H 8 rfl) (pc' := 51) (by decide)
 have k111 : Rt p e below s₁ (mkF m 51 #[sr a1] [vI p1]) s₁ m #[(.ref a1)] 1 := fun t q => k110 t (castTop (by rw [show (p1 &&& (255 : Int32)) = p1 from hc3] <;> rfl) q)
 exact fin_r X0 hx (w := (.int p1)) hrt hlk rfl (Or.inl ⟨rfl, Or.inl rfl, _, rfl⟩) k111 (H 9 rfl) (by rw [e0]; exact ⟨rfl, N0, rfl⟩) (by decide) (by decide)
theorem ef_35_R (m : MethodId) (x0 : Addr) : entryFrame m #[(.ref x0)] 2 = mkF m 0 #[.val (.ref x0), .unset] [] := by first | (simp [entryFrame, mkF, argsToLocals, Value.category]; done) | rfl
theorem pd__28_29Z : parseMethodDescriptor "()Z" = some ⟨[], some .boolean⟩ := by decide +kernel
theorem pd__28_5bB_29I : parseMethodDescriptor "([B)I" = some ⟨[(.array .byte)], some .int⟩ := by decide +kernel
def Q_shc0 (Z : State) (a1 b1 : Addr) (kb : ClassId) (p1 cs : Int32) (h0 : Heap) (n0 : Nat) (v : Option Value) (h : Heap) (L : List Loc) : Prop := v = some (.int p1) ∧ Fr n0 L ∧ Keep h0 h [a1] ∧ OBJ Z h a1 "java/lang/String" lyST [(.ref b1), zI, (.int p1), zI] ∧ Arv Z h b1 kb .byte (1 : Int32) [(.int p1)] zI
theorem shc0 (l : Launch) (Z : State) (a0 : Array Value) (hw : HW Z a0) (ws : List Jvm.Cond) (a1 b1 : Addr) (kb : ClassId) (p1 cs : Int32) (h0 : Heap) (n0 : Nat) (Z0 : n0 ≤ h0.size) (Fk0 : OBJ Z h0 a1 "java/lang/String" lyST [(.ref b1), zI, zI, zI]) (Fk1 : Arv Z h0 b1 kb .byte (1 : Int32) [(.int p1)] zI) (ge_a1 : n0 ≤ a1) (ne_a1_b1 : a1 ≠ b1) (hc3 : p1 &&& (255 : Int32) = p1) (hc4 : ¬ (p1 = (0 : Int32))) (Scs : Sta Z Z.heap "java/lang/String" "COMPACT_STRINGS" "Z" (.int cs)) (hcs : ¬ (cs = (0 : Int32))) (O0 : Old Z n0 h0) :
  Met l mn9 jdk_42_method_78_code 2 (some .int) ws (rm 1 0 0 12) #[(.ref a1)] Z h0 (Q_shc0 Z a1 b1 kb p1 cs h0 n0) := by
 refine Met.intro (plainFor_of_name pn_java_2flang_2fString) ?_
 intro p e s m below meth c s₁ hx hby hml hZ hown hnm hrt hlk X0 e0
 have N0 := Fr.nil n0
 have hww := @hvw _ _ hw
 have k0 := k_e (p := p) (e := e) (below := below) (s := s₁) (ef_35_R m a1)
 have K0 := Keep.refl h0 [a1]
 have H := @dch _ _ _ hby D35
 have k101 := f_alN X0 hx k0 (H 0 rfl) rfl
 obtain ⟨T102, X102, e102, k103⟩ := gFs X0 hx hZ hown (hww 261 rfl) e0 (Fk0.g 2 (v := zI) (by decide) rfl rfl) k101 (H 1 rfl)
 have k104 := f_isN X102 hx k103 (H 2 rfl) (l' := #[sr a1, si 0]) rfl
 have k105 := f_ilN X102 hx k104 (H 3 rfl) rfl
 have k106 := f_ifN X102 hx k105 (H 4 rfl) ((if0 _ _).trans (teq (by decide)).2)
 have k107 := f_alN X102 hx k106 (H 5 rfl) rfl
 obtain ⟨T108, X108, e108, k109⟩ := gFs X102 hx hZ hown (hww 263 rfl) e102 (Fk0.g 3 (v := zI) (by decide) rfl rfl) k107 (H 6 rfl)
 have k110 := f_ifN X108 hx k109 (H 7 rfl) ((if0 _ _).trans (teq (by decide)).2)
 have k111 := f_alN X108 hx k110 (H 8 rfl) rfl
 obtain ⟨_, T112, L112, X112, hQ112, k112⟩ := c_V (W := 0) (x := mn7) X108 hx hZ hown (hww 265 rfl) (hww 266 rfl) (notFace_of_selects (args := #[]) (mvT hZ (hww 268 rfl))) (hww 268 rfl) (hww 267 rfl) (hww 269 rfl) (hww 3 rfl) (by decide) Fk0.1 (isl1 l Z a0 hw [] a1 cs h0 n0 Z0 (Fk0.g 1 (v := zI) (by decide) rfl rfl) Scs hcs O0) e108 (argsL := []) (rest := []) rfl (by rw [hml]; rfl) k111 rfl (H 9 rfl) (lenOf pd__28_29Z rfl) (b5 rfl)
 obtain ⟨rfl, N112q, e112⟩ := hQ112
 have N113 := Fr.app N0 N112q
 have k114 := f_ifN X112 hx k112 (H 10 rfl) ((if0 _ _).trans (feq (by decide)).1)
 have k115 := f_alN X112 hx k114 (H 11 rfl) rfl
 obtain ⟨T116, X116, e116, k117⟩ := gFs X112 hx hZ hown (hww 23 rfl) e112 (Fk0.g 0 (v := (.ref b1)) (by decide) rfl rfl) k115 (H 12 rfl)
 obtain ⟨_, T118, L118, X118, hQ118, k118⟩ := c_S (W := 0) X116 hx hZ hown (hww 270 rfl) (hww 271 rfl) (hww 8 rfl) (hww 272 rfl) (by decide) (lhc l Z a0 hw [] b1 kb p1 h0 n0 Z0 Fk1 hc3) e116 (argsL := [(.ref b1)]) (rest := []) rfl (by rw [hml]; rfl) k117 rfl (H 13 rfl) (lenOf pd__28_5bB_29I rfl) (b5 rfl)
 obtain ⟨rfl, N118q, e118⟩ := hQ118
 have N119 := Fr.app N113 N118q
 have k120 := f_go X118 hx k118 (H 14 rfl) (pc' := 40) (by decide)
 have k121 := f_isN X118 hx k120 (H 15 rfl) (l' := #[sr a1, si p1]) rfl
 have k122 := f_ilN X118 hx k121 (H 16 rfl) rfl
 have k123 := f_ifY X118 hx k122 (H 17 rfl) (pc' := 53) ((if0 _ _).trans (feq hc4).2) (by decide)
 have k124 := f_alN X118 hx k123 (H 18 rfl) rfl
 have k125 := f_ilN X118 hx k124 (H 19 rfl) rfl
 obtain ⟨T126, h126, L126, X126, e126, W126, B126, N126, Z126, k126⟩ := f_pF X118 hx hZ hown (hww 261 rfl) Via.refl e118 Fk0 (snST hw) (Or.inl (hww 262 rfl)) (hww 11 rfl) 2 (by decide) rfl rfl (ty := .int) (by decide) rfl rfl N119 ge_a1 Z0 k125 (H 20 rfl) rfl
 have F127 := O0.wr W126 ge_a1
 have K128 := kw K0 W126 0 rfl
 have k129 := f_ilN X126 hx k126 (H 21 rfl) rfl
 exact fin_r X126 hx (w := (.int p1)) hrt hlk rfl (Or.inl ⟨rfl, Or.inl rfl, _, rfl⟩) k129 (H 22 rfl) (by rw [e126]; exact ⟨rfl, N126, K128, B126, (Fk1.keep K128 (ninS (Ne.symm ne_a1_b1) nin0))⟩) (by decide) (by decide)
def Q_shc1 (Z : State) (a1 : Addr) (p1 : Int32) (h0 : Heap) (n0 : Nat) (v : Option Value) (h : Heap) (L : List Loc) : Prop := v = some (.int p1) ∧ Fr n0 L ∧ h = h0
theorem shc1 (l : Launch) (Z : State) (a0 : Array Value) (hw : HW Z a0) (ws : List Jvm.Cond) (a1 : Addr) (p1 : Int32) (h0 : Heap) (n0 : Nat) (Z0 : n0 ≤ h0.size) (Fk0 : Fld Z h0 a1 "java/lang/String" "hash" "I" (.int p1)) (hc4 : ¬ (p1 = (0 : Int32))) :
  Met l mn9 jdk_42_method_78_code 2 (some .int) ws (rm 0 0 0 0) #[(.ref a1)] Z h0 (Q_shc1 Z a1 p1 h0 n0) := by
 refine Met.intro (plainFor_of_name pn_java_2flang_2fString) ?_
 intro p e s m below meth c s₁ hx hby hml hZ hown hnm hrt hlk X0 e0
 have N0 := Fr.nil n0
 have hww := @hvw _ _ hw
 have k0 := k_e (p := p) (e := e) (below := below) (s := s₁) (ef_35_R m a1)
 have H := @dch _ _ _ hby D35
 have k101 := f_alN X0 hx k0 (H 0 rfl) rfl
 obtain ⟨T102, X102, e102, k103⟩ := gFs X0 hx hZ hown (hww 261 rfl) e0 Fk0 k101 (H 1 rfl)
 have k104 := f_isN X102 hx k103 (H 2 rfl) (l' := #[sr a1, si p1]) rfl
 have k105 := f_ilN X102 hx k104 (H 3 rfl) rfl
 have k106 := f_ifY X102 hx k105 (H 4 rfl) (pc' := 58) ((if0 _ _).trans (feq hc4).2) (by decide)
 have k107 := f_ilN X102 hx k106 (H 21 rfl) rfl
 exact fin_r X102 hx (w := (.int p1)) hrt hlk rfl (Or.inl ⟨rfl, Or.inl rfl, _, rfl⟩) k107 (H 22 rfl) (by rw [e102]; exact ⟨rfl, N0, rfl⟩) (by decide) (by decide)
theorem ef_34_R (m : MethodId) (x0 : Addr) : entryFrame m #[(.ref x0)] 2 = mkF m 0 #[.val (.ref x0), .unset] [] := by first | (simp [entryFrame, mkF, argsToLocals, Value.category]; done) | rfl
theorem own_nfp {s : State} {args : Array Value} {C : String} {x y z : MethodName} (hsel : (Cond.selects C x z).before args s = true) (hz : z.cls = y.cls) : Free.NotFace s y := fun r0 h0 => by
 obtain ⟨c, r, m, -, -, a3, -, k, hk, hki⟩ := Cond.selects_spec hsel
 have q := findClass_of_methodNamed a3
 have q' := findClass_of_methodNamed h0
 rw [hz] at q
 have e : m.cls = r0.cls := Option.some.inj (q.symm.trans q')
 exact ⟨k, e ▸ hk, hki⟩
theorem pd__28_29I : parseMethodDescriptor "()I" = some ⟨[], some .int⟩ := by decide +kernel
def Q_hsh0 (Z : State) (a1 b1 : Addr) (kb : ClassId) (p1 cs : Int32) (h0 : Heap) (n0 : Nat) (v : Option Value) (h : Heap) (L : List Loc) : Prop := v = some (.int p1) ∧ Fr n0 L ∧ Keep h0 h [a1] ∧ OBJ Z h a1 "java/lang/String" lyST [(.ref b1), zI, (.int p1), zI] ∧ Arv Z h b1 kb .byte (1 : Int32) [(.int p1)] zI
theorem pn_java_2futil_2fHashMap : plainName "java/util/HashMap" = true := by first | (simp [plainName, overriddenIn]; done) | decide +kernel
theorem hsh0 (l : Launch) (Z : State) (a0 : Array Value) (hw : HW Z a0) (ws : List Jvm.Cond) (a1 b1 : Addr) (kb : ClassId) (p1 cs : Int32) (h0 : Heap) (n0 : Nat) (Z0 : n0 ≤ h0.size) (Fk0 : OBJ Z h0 a1 "java/lang/String" lyST [(.ref b1), zI, zI, zI]) (Fk1 : Arv Z h0 b1 kb .byte (1 : Int32) [(.int p1)] zI) (ge_a1 : n0 ≤ a1) (ne_a1_b1 : a1 ≠ b1) (hc3 : p1 &&& (255 : Int32) = p1) (hc4 : ¬ (p1 = (0 : Int32))) (hc5 : p1 ^^^ ((p1.toUInt32 >>> ((16 : Int32) &&& 31).toUInt32).toInt32) = p1) (Scs : Sta Z Z.heap "java/lang/String" "COMPACT_STRINGS" "Z" (.int cs)) (hcs : ¬ (cs = (0 : Int32))) (O0 : Old Z n0 h0) :
  Met l mn11 jdk_69_method_1_code 2 (some .int) ws (rm 2 0 0 25) #[(.ref a1)] Z h0 (Q_hsh0 Z a1 b1 kb p1 cs h0 n0) := by
 refine Met.intro (plainFor_of_name pn_java_2futil_2fHashMap) ?_
 intro p e s m below meth c s₁ hx hby hml hZ hown hnm hrt hlk X0 e0
 have N0 := Fr.nil n0
 have hww := @hvw _ _ hw
 have k0 := k_e (p := p) (e := e) (below := below) (s := s₁) (ef_34_R m a1)
 have K0 := Keep.refl h0 [a1]
 have H := @dch _ _ _ hby D34
 have k101 := f_alN X0 hx k0 (H 0 rfl) rfl
 have k102 := f_nnY X0 hx k101 (H 1 rfl) (pc' := 8) (by decide)
 have k103 := f_alN X0 hx k102 (H 2 rfl) rfl
 obtain ⟨_, T104, L104, X104, hQ104, k104⟩ := c_V (W := 0) (x := mn10) X0 hx hZ hown (hww 255 rfl) (hww 256 rfl) (own_nfp (args := #[]) (mvT hZ (hww 175 rfl)) rfl) (hww 258 rfl) (hww 259 rfl) (hww 260 rfl) (hww 3 rfl) (by decide) Fk0.1 (shc0 l Z a0 hw [] a1 b1 kb p1 cs h0 n0 Z0 Fk0 Fk1 ge_a1 ne_a1_b1 hc3 hc4 Scs hcs O0) e0 (argsL := []) (rest := []) rfl (by rw [hml]; rfl) k103 rfl (H 3 rfl) (lenOf pd__28_29I rfl) (b5 rfl)
 obtain ⟨h104, e104⟩ : ∃ h', T104.heap = h' := ⟨_, rfl⟩
 rw [e104] at hQ104
 obtain ⟨rfl, N104q, K104, R104_0, R104_1⟩ := hQ104
 have N105 := Fr.app N0 N104q
 have F106 := O0.keep K104 (allS ge_a1 all0)
 have Z107 : n0 ≤ h104.size := Nat.le_trans Z0 K104.1
 have K108 := Keep.trans K0 K104 (allS (oL 0 rfl) all0)
 have k109 := f_dup X104 hx k104 (H 4 rfl) rfl
 have k110 := f_isN X104 hx k109 (H 5 rfl) (l' := #[sr a1, si p1]) rfl
 have k111 := f_ilN X104 hx k110 (H 6 rfl) rfl
 have k112 := f_bp X104 hx k111 (H 7 rfl) (v := 16) rfl
 have k113 := f_iushr X104 hx k112 (H 8 rfl) rfl
 have k114 : Rt p e below T104 (mkF m 19 #[sr a1, si p1] [vI (p1 ^^^ ((p1.toUInt32 >>> ((16 : Int32) &&& 31).toUInt32).toInt32))]) s₁ m #[(.ref a1)] 2 := fun t k => k113 t (by
  show Sp p e below T104 (mkF m 18 #[sr a1, si p1] [vI ((p1.toUInt32 >>> ((16 : Int32) &&& 31).toUInt32).toInt32), vI p1]) _
  refine XS.ixor X104.here hx rfl (H 9 rfl) rfl ?_
  exact k)
 have k115 : Rt p e below T104 (mkF m 19 #[sr a1, si p1] [vI p1]) s₁ m #[(.ref a1)] 2 := fun t q => k114 t (castTop (by rw [show (p1 ^^^ ((p1.toUInt32 >>> ((16 : Int32) &&& 31).toUInt32).toInt32)) = p1 from hc5] <;> rfl) q)
 exact fin_r X104 hx (w := (.int p1)) hrt hlk rfl (Or.inl ⟨rfl, Or.inl rfl, _, rfl⟩) k115 (H 10 rfl) (by rw [e104]; exact ⟨rfl, N105, K108, R104_0, R104_1⟩) (by decide) (by decide)
def Q_hsh1 (Z : State) (a1 : Addr) (p1 : Int32) (h0 : Heap) (n0 : Nat) (v : Option Value) (h : Heap) (L : List Loc) : Prop := v = some (.int p1) ∧ Fr n0 L ∧ h = h0
theorem hsh1 (l : Launch) (Z : State) (a0 : Array Value) (hw : HW Z a0) (ws : List Jvm.Cond) (a1 : Addr) (p1 : Int32) (h0 : Heap) (n0 : Nat) (Z0 : n0 ≤ h0.size) (Fk0 : Exa Z h0 a1 "java/lang/String") (Fk1 : Fld Z h0 a1 "java/lang/String" "hash" "I" (.int p1)) (hc4 : ¬ (p1 = (0 : Int32))) (hc5 : p1 ^^^ ((p1.toUInt32 >>> ((16 : Int32) &&& 31).toUInt32).toInt32) = p1) :
  Met l mn11 jdk_69_method_1_code 2 (some .int) ws (rm 1 0 0 13) #[(.ref a1)] Z h0 (Q_hsh1 Z a1 p1 h0 n0) := by
 refine Met.intro (plainFor_of_name pn_java_2futil_2fHashMap) ?_
 intro p e s m below meth c s₁ hx hby hml hZ hown hnm hrt hlk X0 e0
 have N0 := Fr.nil n0
 have hww := @hvw _ _ hw
 have k0 := k_e (p := p) (e := e) (below := below) (s := s₁) (ef_34_R m a1)
 have H := @dch _ _ _ hby D34
 have k101 := f_alN X0 hx k0 (H 0 rfl) rfl
 have k102 := f_nnY X0 hx k101 (H 1 rfl) (pc' := 8) (by decide)
 have k103 := f_alN X0 hx k102 (H 2 rfl) rfl
 obtain ⟨_, T104, L104, X104, hQ104, k104⟩ := c_V (W := 0) (x := mn10) X0 hx hZ hown (hww 255 rfl) (hww 256 rfl) (own_nfp (args := #[]) (mvT hZ (hww 175 rfl)) rfl) (hww 258 rfl) (hww 259 rfl) (hww 260 rfl) (hww 3 rfl) (by decide) Fk0 (shc1 l Z a0 hw [] a1 p1 h0 n0 Z0 Fk1 hc4) e0 (argsL := []) (rest := []) rfl (by rw [hml]; rfl) k103 rfl (H 3 rfl) (lenOf pd__28_29I rfl) (b5 rfl)
 obtain ⟨rfl, N104q, e104⟩ := hQ104
 have N105 := Fr.app N0 N104q
 have k106 := f_dup X104 hx k104 (H 4 rfl) rfl
 have k107 := f_isN X104 hx k106 (H 5 rfl) (l' := #[sr a1, si p1]) rfl
 have k108 := f_ilN X104 hx k107 (H 6 rfl) rfl
 have k109 := f_bp X104 hx k108 (H 7 rfl) (v := 16) rfl
 have k110 := f_iushr X104 hx k109 (H 8 rfl) rfl
 have k111 : Rt p e below T104 (mkF m 19 #[sr a1, si p1] [vI (p1 ^^^ ((p1.toUInt32 >>> ((16 : Int32) &&& 31).toUInt32).toInt32))]) s₁ m #[(.ref a1)] 2 := fun t k => k110 t (by
  show Sp p e below T104 (mkF m 18 #[sr a1, si p1] [vI ((p1.toUInt32 >>> ((16 : Int32) &&& 31).toUInt32).toInt32), vI p1]) _
  refine XS.ixor X104.here hx rfl (H 9 rfl) rfl ?_
  exact k)
 have k112 : Rt p e below T104 (mkF m 19 #[sr a1, si p1] [vI p1]) s₁ m #[(.ref a1)] 2 := fun t q => k111 t (castTop (by rw [show (p1 ^^^ ((p1.toUInt32 >>> ((16 : Int32) &&& 31).toUInt32).toInt32)) = p1 from hc5] <;> rfl) q)
 exact fin_r X104 hx (w := (.int p1)) hrt hlk rfl (Or.inl ⟨rfl, Or.inl rfl, _, rfl⟩) k112 (H 10 rfl) (by rw [e104]; exact ⟨rfl, N105, rfl⟩) (by decide) (by decide)
theorem ef_54_RI (m : MethodId) (x0 : Addr) (x1 : Int32) : entryFrame m #[(.ref x0), (.int x1)] 2 = mkF m 0 #[.val (.ref x0), .val (.int x1)] [] := by first | (simp [entryFrame, mkF, argsToLocals, Value.category]; done) | rfl
theorem pd__28_29V : parseMethodDescriptor "()V" = some ⟨[], none⟩ := by decide +kernel
def Q_igi (Z : State) (a1 : Addr) (p1 : Int32) (h0 : Heap) (n0 : Nat) (v : Option Value) (h : Heap) (L : List Loc) : Prop := v = none ∧ Fr n0 L ∧ Keep h0 h [a1] ∧ OBJ Z h a1 "java/lang/Integer" lyIG [(.int p1)]
theorem pn_java_2flang_2fInteger : plainName "java/lang/Integer" = true := by first | (simp [plainName, overriddenIn]; done) | decide +kernel
theorem igi (l : Launch) (Z : State) (a0 : Array Value) (hw : HW Z a0) (ws : List Jvm.Cond) (a1 : Addr) (p1 : Int32) (h0 : Heap) (n0 : Nat) (Z0 : n0 ≤ h0.size) (Fk0 : OBJ Z h0 a1 "java/lang/Integer" lyIG [zI]) (ge_a1 : n0 ≤ a1) :
  Met l mn12 jdk_33_method_23_code 2 none ws (rm 2 0 0 24) #[(.ref a1), (.int p1)] Z h0 (Q_igi Z a1 p1 h0 n0) := by
 refine Met.intro (plainFor_of_name pn_java_2flang_2fInteger) ?_
 intro p e s m below meth c s₁ hx hby hml hZ hown hnm hrt hlk X0 e0
 have N0 := Fr.nil n0
 have hww := @hvw _ _ hw
 have k0 := k_e (p := p) (e := e) (below := below) (s := s₁) (ef_54_RI m a1 p1)
 have K0 := Keep.refl h0 [a1]
 have H := @dch _ _ _ hby D54
 have k101 := f_alN X0 hx k0 (H 0 rfl) rfl
 obtain ⟨_, T102, L102, X102, hQ102, k102⟩ := c_N (W := 0) X0 hx hZ hown (hww 394 rfl) (hww 395 rfl) (hww 399 rfl) (hww 398 rfl) rfl (by decide) (i_Number l Z a0 hw [] a1 h0 n0 Z0 ) e0 (argsL := []) (rest := []) rfl (by rw [hml]; rfl) k101 rfl (H 1 rfl) (lenOf pd__28_29V rfl) (b5 rfl)
 obtain ⟨rfl, N102q, e102⟩ := hQ102
 have N103 := Fr.app N0 N102q
 have k104 := f_alN X102 hx k102 (H 2 rfl) rfl
 have k105 := f_ilN X102 hx k104 (H 3 rfl) rfl
 obtain ⟨T106, h106, L106, X106, e106, W106, B106, N106, Z106, k106⟩ := f_pF X102 hx hZ hown (hww 366 rfl) Via.refl e102 Fk0 (snIG hw) (Or.inr ⟨(hww 367 rfl), rfl, hnm⟩) (hww 390 rfl) 0 (by decide) rfl rfl (ty := .int) (by decide) rfl rfl N103 ge_a1 Z0 k105 (H 4 rfl) rfl
 have K107 := kw K0 W106 0 rfl
 exact fin_v X106 hx hrt hlk k106 (H 5 rfl) (by rw [e106]; exact ⟨rfl, N106, K107, B106⟩) (by decide) (by decide)
theorem ef_32_I (m : MethodId) (x0 : Int32) : entryFrame m #[(.int x0)] 1 = mkF m 0 #[.val (.int x0)] [] := by first | (simp [entryFrame, mkF, argsToLocals, Value.category]; done) | rfl
theorem pd__28I_29V : parseMethodDescriptor "(I)V" = some ⟨[.int], none⟩ := by decide +kernel
def Q_box (Z : State) (p1 : Int32) (ca : Addr) (ce : Cell) (h0 : Heap) (n0 : Nat) (v : Option Value) (h : Heap) (L : List Loc) : Prop := ∃ (b : Addr), v = some (.ref b) ∧ Fr n0 L ∧ Keep h0 h [] ∧ OBJ Z h b "java/lang/Integer" lyIG [(.int p1)] ∧ (b < n0 ∨ h0.size ≤ b)
theorem box (l : Launch) (Z : State) (a0 : Array Value) (hw : HW Z a0) (ws : List Jvm.Cond) (p1 : Int32) (ca : Addr) (ce : Cell) (h0 : Heap) (n0 : Nat) (Z0 : n0 ≤ h0.size) (Shi : Sta Z Z.heap "java/lang/Integer$IntegerCache" "high" "I" (.int (127 : Int32))) (Sca : Sta Z Z.heap "java/lang/Integer$IntegerCache" "cache" "[Ljava/lang/Integer;" (.ref ca)) (Bx : Bxs Z ca ce "java/lang/Integer" "I" (256 : Int32) (fun j => .int (j - (128 : Int32)))) (O0 : Old Z n0 h0) :
  Met l mn13 jdk_33_method_22_code 1 (some (.object "java/lang/Integer")) ws (rm 3 1 1 38) #[(.int p1)] Z h0 (Q_box Z p1 ca ce h0 n0) := by
 refine Met.intro (plainFor_of_name pn_java_2flang_2fInteger) ?_
 intro p e s m below meth c s₁ hx hby hml hZ hown hnm hrt hlk X0 e0
 have N0 := Fr.nil n0
 have hww := @hvw _ _ hw
 have k0 := k_e (p := p) (e := e) (below := below) (s := s₁) (ef_32_I m p1)
 have K0 : Keep h0 h0 [] := Keep.refl h0 []
 have H := @dch _ _ _ hby D32
 have k101 := f_ilN X0 hx k0 (H 0 rfl) rfl
 have k102 := f_bp X0 hx k101 (H 1 rfl) (v := (-128)) rfl
 by_cases ql : p1 < (-128 : Int32)
 · have k103 := f_icY X0 hx k102 (H 2 rfl) (pc' := 23) (tlt ql).1 (by decide)
   obtain ⟨T104, h104, X104, e104, E104, A104, D104, -, st104⟩ := newO X0 hx hZ hown (hww 389 rfl) (hww 390 rfl) (hww 242 rfl) e0 (g := (mkF m 23 #[si p1] [])) rfl (H 3 rfl) (by decide) (by decide)
   obtain ⟨b104, g104⟩ : ∃ z, z = h0.size := ⟨_, rfl⟩
   rw [← g104] at A104 D104 st104
   have g105 : n0 ≤ b104 := Nat.le_trans Z0 (Nat.le_of_eq g104.symm)
   have z106 : h0.size ≤ b104 := Nat.le_trans K0.1 (Nat.le_of_eq g104.symm)
   have F107 := O0.ext E104
   have Z108 : n0 ≤ h104.size := Nat.le_trans Z0 E104.1
   have K109 := K0.ext E104
   have F110 : Fld Z h104 b104 "java/lang/Integer" "value" "I" zI := D104 (Or.inr (hww 367 rfl)) (ty := .int) (by decide)
   have k111 : Rt p e below T104 (mkF m 26 #[si p1] [vR b104]) s₁ m #[(.int p1)] 1 := fun t k => k103 t (st104 t k)
   have B112 := mkIG A104 F110
   have k113 := f_dup X104 hx k111 (H 4 rfl) rfl
   have k114 := f_ilN X104 hx k113 (H 5 rfl) rfl
   obtain ⟨_, T115, L115, X115, hQ115, k115⟩ := c_N (W := 1) X104 hx hZ hown (hww 391 rfl) (hww 392 rfl) (hww 393 rfl) (hww 242 rfl) rfl (by decide) (igi l Z a0 hw [] b104 p1 h104 n0 Z108 B112 g105) e104 (argsL := [(.int p1)]) (rest := [(.ref b104)]) rfl (by rw [hml]; rfl) k114 rfl (H 6 rfl) (lenOf pd__28I_29V rfl) (b5 rfl)
   obtain ⟨h115, e115⟩ : ∃ h', T115.heap = h' := ⟨_, rfl⟩
   rw [e115] at hQ115
   obtain ⟨rfl, N115q, K115, R115_0⟩ := hQ115
   have N116 := Fr.app N0 N115q
   have F117 := F107.keep K115 (allS g105 all0)
   have Z118 : n0 ≤ h115.size := Nat.le_trans Z108 K115.1
   have K119 := Keep.trans K109 K115 (allS (Or.inr z106) all0)
   exact fin_r X115 hx (w := (.ref b104)) hrt hlk rfl (Or.inr (Or.inr (Or.inr (Or.inr ⟨rfl, rfl, rfl⟩)))) k115 (H 7 rfl) (by rw [e115]; exact ⟨b104, rfl, N116, K119, R115_0, Or.inr z106⟩) (by decide) (by decide)
 · have k120 := f_icN X0 hx k102 (H 2 rfl) (flt ql).1
   have k121 := f_ilN X0 hx k120 (H 8 rfl) rfl
   obtain ⟨T122, X122, e122, st122⟩ := getS2 X0 hx hZ hown (host := "") (Or.inl (hww 244 rfl)) Via.refl e0 (Shi.ext O0.2) (g := (mkF m 7 #[si p1] [vI p1])) rfl (H 9 rfl)
   have k123 : Rt p e below T122 (mkF m 10 #[si p1] [vI 127, vI p1]) s₁ m #[(.int p1)] 1 := fun t k => k121 t (st122 t k)
   by_cases qh : (127 : Int32) < p1
   · have k124 := f_icY X122 hx k123 (H 10 rfl) (pc' := 23) (tlt qh).2.2.1 (by decide)
     obtain ⟨T125, h125, X125, e125, E125, A125, D125, -, st125⟩ := newO X122 hx hZ hown (hww 389 rfl) (hww 390 rfl) (hww 242 rfl) e122 (g := (mkF m 23 #[si p1] [])) rfl (H 3 rfl) (by decide) (by decide)
     obtain ⟨b125, g125⟩ : ∃ z, z = h0.size := ⟨_, rfl⟩
     rw [← g125] at A125 D125 st125
     have g126 : n0 ≤ b125 := Nat.le_trans Z0 (Nat.le_of_eq g125.symm)
     have z127 : h0.size ≤ b125 := Nat.le_trans K0.1 (Nat.le_of_eq g125.symm)
     have F128 := O0.ext E125
     have Z129 : n0 ≤ h125.size := Nat.le_trans Z0 E125.1
     have K130 := K0.ext E125
     have F131 : Fld Z h125 b125 "java/lang/Integer" "value" "I" zI := D125 (Or.inr (hww 367 rfl)) (ty := .int) (by decide)
     have k132 : Rt p e below T125 (mkF m 26 #[si p1] [vR b125]) s₁ m #[(.int p1)] 1 := fun t k => k124 t (st125 t k)
     have B133 := mkIG A125 F131
     have k134 := f_dup X125 hx k132 (H 4 rfl) rfl
     have k135 := f_ilN X125 hx k134 (H 5 rfl) rfl
     obtain ⟨_, T136, L136, X136, hQ136, k136⟩ := c_N (W := 1) X125 hx hZ hown (hww 391 rfl) (hww 392 rfl) (hww 393 rfl) (hww 242 rfl) rfl (by decide) (igi l Z a0 hw [] b125 p1 h125 n0 Z129 B133 g126) e125 (argsL := [(.int p1)]) (rest := [(.ref b125)]) rfl (by rw [hml]; rfl) k135 rfl (H 6 rfl) (lenOf pd__28I_29V rfl) (b5 rfl)
     obtain ⟨h136, e136⟩ : ∃ h', T136.heap = h' := ⟨_, rfl⟩
     rw [e136] at hQ136
     obtain ⟨rfl, N136q, K136, R136_0⟩ := hQ136
     have N137 := Fr.app N0 N136q
     have F138 := F128.keep K136 (allS g126 all0)
     have Z139 : n0 ≤ h136.size := Nat.le_trans Z129 K136.1
     have K140 := Keep.trans K130 K136 (allS (Or.inr z127) all0)
     exact fin_r X136 hx (w := (.ref b125)) hrt hlk rfl (Or.inr (Or.inr (Or.inr (Or.inr ⟨rfl, rfl, rfl⟩)))) k136 (H 7 rfl) (by rw [e136]; exact ⟨b125, rfl, N137, K140, R136_0, Or.inr z127⟩) (by decide) (by decide)
   · have k141 := f_icN X122 hx k123 (H 10 rfl) (flt qh).2.2.1
     obtain ⟨T142, X142, e142, st142⟩ := getS2 X122 hx hZ hown (host := "") (Or.inl (hww 246 rfl)) Via.refl e122 (Sca.ext O0.2) (g := (mkF m 13 #[si p1] [])) rfl (H 11 rfl)
     have k143 : Rt p e below T142 (mkF m 16 #[si p1] [vR ca]) s₁ m #[(.int p1)] 1 := fun t k => k141 t (st142 t k)
     have k144 := f_ilN X142 hx k143 (H 12 rfl) rfl
     have k145 := f_sp X142 hx k144 (H 13 rfl) (v := 128) rfl
     have k146 := f_iadd X142 hx k145 (H 14 rfl) rfl
     have hj := own_boxin ql qh Bx.2.1
     obtain ⟨bq, hs, ebq, fbq⟩ := Bx.2.2.2 (p1 + (128 : Int32)) hj
     have fb : Fld Z h0 bq "java/lang/Integer" "value" "I" (.int p1) := own_boxv (fbq.ext O0.2)
     have eb := ebq.ext O0.2
     have k147 : Rt p e below T142 (mkF m 22 #[si p1] [vR bq]) s₁ m #[(.int p1)] 1 := fun t w => k146 t (X142.aaload hx (by rw [e142]; exact (Bx.1.ext O0.2).1) (State.isArrayOf_alike hZ.alike Bx.1.2.1) rfl Bx.1.2.2 hj hs rfl rfl (H 15 rfl) _ w)
     have B148 := mkIG eb fb
     exact fin_r X142 hx (w := (.ref bq)) hrt hlk rfl (Or.inr (Or.inr (Or.inr (Or.inr ⟨rfl, rfl, rfl⟩)))) k147 (H 16 rfl) (by rw [e142]; exact ⟨bq, rfl, N0, K0, B148, Or.inl (O0.1 ▸ ebq.lt)⟩) (by decide) (by decide)
theorem ef_50_R (m : MethodId) (x0 : Addr) : entryFrame m #[(.ref x0)] 1 = mkF m 0 #[.val (.ref x0)] [] := by first | (simp [entryFrame, mkF, argsToLocals, Value.category]; done) | rfl
def Q_iv (Z : State) (a1 : Addr) (p1 : Int32) (h0 : Heap) (n0 : Nat) (v : Option Value) (h : Heap) (L : List Loc) : Prop := v = some (.int p1) ∧ Fr n0 L ∧ h = h0
theorem iv (l : Launch) (Z : State) (a0 : Array Value) (hw : HW Z a0) (ws : List Jvm.Cond) (a1 : Addr) (p1 : Int32) (h0 : Heap) (n0 : Nat) (Z0 : n0 ≤ h0.size) (Fk0 : Fld Z h0 a1 "java/lang/Integer" "value" "I" (.int p1)) :
  Met l mn14 jdk_33_method_27_code 1 (some .int) ws (rm 0 0 0 0) #[(.ref a1)] Z h0 (Q_iv Z a1 p1 h0 n0) := by
 refine Met.intro (plainFor_of_name pn_java_2flang_2fInteger) ?_
 intro p e s m below meth c s₁ hx hby hml hZ hown hnm hrt hlk X0 e0
 have N0 := Fr.nil n0
 have hww := @hvw _ _ hw
 have k0 := k_e (p := p) (e := e) (below := below) (s := s₁) (ef_50_R m a1)
 have H := @dch _ _ _ hby D50
 have k101 := f_alN X0 hx k0 (H 0 rfl) rfl
 obtain ⟨T102, X102, e102, k103⟩ := gFs X0 hx hZ hown (hww 366 rfl) e0 Fk0 k101 (H 1 rfl)
 exact fin_r X102 hx (w := (.int p1)) hrt hlk rfl (Or.inl ⟨rfl, Or.inl rfl, _, rfl⟩) k103 (H 2 rfl) (by rw [e102]; exact ⟨rfl, N0, rfl⟩) (by decide) (by decide)
theorem ef_26_RRD (m : MethodId) (x0 : Addr) (x1 : Addr) (x2 : UInt64) : entryFrame m #[(.ref x0), (.ref x1), (.double x2)] 4 = mkF m 0 #[.val (.ref x0), .val (.ref x1), .val (.double x2), .second] [] := by first | (simp [entryFrame, mkF, argsToLocals, Value.category]; done) | rfl
def Q_sdi (Z : State) (a1 a2 : Addr) (u1 : UInt64) (h0 : Heap) (n0 : Nat) (v : Option Value) (h : Heap) (L : List Loc) : Prop := v = none ∧ Fr n0 L ∧ Keep h0 h [a1] ∧ OBJ Z h a1 "com/example/multinomial/multinomial/search/ScoredDocument" lySD [(.ref a2), (.double u1)]
theorem pn_com_2fexample_2fmultinomial_2fmultinomial_2fsearch_2fScoredDocument : plainName "com/example/multinomial/multinomial/search/ScoredDocument" = true := by first | (simp [plainName, overriddenIn]; done) | decide +kernel
theorem sdi (l : Launch) (Z : State) (a0 : Array Value) (hw : HW Z a0) (ws : List Jvm.Cond) (a1 a2 : Addr) (u1 : UInt64) (h0 : Heap) (n0 : Nat) (Z0 : n0 ≤ h0.size) (Fk0 : OBJ Z h0 a1 "com/example/multinomial/multinomial/search/ScoredDocument" lySD [.null, (.double (0 : UInt64))]) (ge_a1 : n0 ≤ a1) :
  Met l mn15 prog_44_method_1_code 4 none ws (rm 1 0 0 12) #[(.ref a1), (.ref a2), (.double u1)] Z h0 (Q_sdi Z a1 a2 u1 h0 n0) := by
 refine Met.intro (plainFor_of_name pn_com_2fexample_2fmultinomial_2fmultinomial_2fsearch_2fScoredDocument) ?_
 intro p e s m below meth c s₁ hx hby hml hZ hown hnm hrt hlk X0 e0
 have N0 := Fr.nil n0
 have hww := @hvw _ _ hw
 have k0 := k_e (p := p) (e := e) (below := below) (s := s₁) (ef_26_RRD m a1 a2 u1)
 have K0 := Keep.refl h0 [a1]
 have H := @dch _ _ _ hby D26
 have k101 := f_alN X0 hx k0 (H 0 rfl) rfl
 obtain ⟨T102, X102, e102, st102⟩ := initO X0 hx hZ hown (hww 206 rfl) (hww 21 rfl) (hww 22 rfl) e0 (g := (mkF m 1 #[sr a1, sr a2, sd u1, se] [vR a1])) rfl (by rw [hml]; rfl) rfl (H 1 rfl) (by decide) (W := 0) (by show 2 * 0 + _ ≤ _; exact Nat.le_of_eq rfl) (by decide)
 have k103 : Rt p e below T102 (mkF m 4 #[sr a1, sr a2, sd u1, se] []) s₁ m #[(.ref a1), (.ref a2), (.double u1)] 4 := fun t k => k101 t (st102 t k)
 have k104 := f_alN X102 hx k103 (H 2 rfl) rfl
 have k105 := f_alN X102 hx k104 (H 3 rfl) rfl
 obtain ⟨T106, h106, L106, X106, e106, W106, B106, N106, Z106, k106⟩ := f_pF X102 hx hZ hown (hww 207 rfl) Via.refl e102 Fk0 (snSD hw) (Or.inr ⟨(hww 208 rfl), rfl, hnm⟩) (hww 201 rfl) 0 (by decide) rfl rfl (ty := (.object "java/lang/String")) (by decide) rfl rfl N0 ge_a1 Z0 k105 (H 4 rfl) rfl
 have K107 := kw K0 W106 0 rfl
 have k108 := f_alN X106 hx k106 (H 5 rfl) rfl
 have k109 := f_dlN X106 hx k108 (H 6 rfl) rfl
 obtain ⟨T110, h110, L110, X110, e110, W110, B110, N110, Z110, k110⟩ := f_pF X106 hx hZ hown (hww 209 rfl) Via.refl e106 B106 (snSD hw) (Or.inr ⟨(hww 210 rfl), rfl, hnm⟩) (hww 201 rfl) 1 (by decide) rfl rfl (ty := .double) (by decide) rfl rfl N106 ge_a1 Z106 k109 (H 7 rfl) rfl
 have K111 := kw K107 W110 0 rfl
 exact fin_v X110 hx hrt hlk k110 (H 8 rfl) (by rw [e110]; exact ⟨rfl, N110, K111, B110⟩) (by decide) (by decide)
theorem ef_47_R (m : MethodId) (x0 : Addr) : entryFrame m #[(.ref x0)] 1 = mkF m 0 #[.val (.ref x0)] [] := by first | (simp [entryFrame, mkF, argsToLocals, Value.category]; done) | rfl
def Q_sid (Z : State) (a1 a2 : Addr) (h0 : Heap) (n0 : Nat) (v : Option Value) (h : Heap) (L : List Loc) : Prop := v = some (.ref a2) ∧ Fr n0 L ∧ h = h0
theorem sid (l : Launch) (Z : State) (a0 : Array Value) (hw : HW Z a0) (ws : List Jvm.Cond) (a1 a2 : Addr) (h0 : Heap) (n0 : Nat) (Z0 : n0 ≤ h0.size) (Fk0 : Fld Z h0 a1 "com/example/multinomial/multinomial/search/ScoredDocument" "id" "Ljava/lang/String;" (.ref a2)) :
  Met l mn16 prog_44_method_2_code 1 (some (.object "java/lang/String")) ws (rm 0 0 0 0) #[(.ref a1)] Z h0 (Q_sid Z a1 a2 h0 n0) := by
 refine Met.intro (plainFor_of_name pn_com_2fexample_2fmultinomial_2fmultinomial_2fsearch_2fScoredDocument) ?_
 intro p e s m below meth c s₁ hx hby hml hZ hown hnm hrt hlk X0 e0
 have N0 := Fr.nil n0
 have hww := @hvw _ _ hw
 have k0 := k_e (p := p) (e := e) (below := below) (s := s₁) (ef_47_R m a1)
 have H := @dch _ _ _ hby D47
 have k101 := f_alN X0 hx k0 (H 0 rfl) rfl
 obtain ⟨T102, X102, e102, k103⟩ := gFs X0 hx hZ hown (hww 207 rfl) e0 Fk0 k101 (H 1 rfl)
 exact fin_r X102 hx (w := (.ref a2)) hrt hlk rfl (Or.inr (Or.inr (Or.inr (Or.inr ⟨rfl, rfl, rfl⟩)))) k103 (H 2 rfl) (by rw [e102]; exact ⟨rfl, N0, rfl⟩) (by decide) (by decide)
theorem ef_31_II (m : MethodId) (x0 : Int32) (x1 : Int32) : entryFrame m #[(.int x0), (.int x1)] 2 = mkF m 0 #[.val (.int x0), .val (.int x1)] [] := by first | (simp [entryFrame, mkF, argsToLocals, Value.category]; done) | rfl
def Q_mmax (Z : State) (p1 p2 : Int32) (h0 : Heap) (n0 : Nat) (v : Option Value) (h : Heap) (L : List Loc) : Prop := ∃ (j : Int32), v = some (.int j) ∧ Fr n0 L ∧ h = h0 ∧ (j = (if p1 < p2 then p2 else p1))
theorem mmax (l : Launch) (Z : State) (a0 : Array Value) (hw : HW Z a0) (ws : List Jvm.Cond) (p1 p2 : Int32) (h0 : Heap) (n0 : Nat) (Z0 : n0 ≤ h0.size) :
  Met l mn17 jdk_29_method_65_code 2 (some .int) ws (rm 0 0 0 0) #[(.int p1), (.int p2)] Z h0 (Q_mmax Z p1 p2 h0 n0) := by
 refine Met.intro (Jvm.Free.JP.mathPlain rfl (by decide +kernel)) ?_
 intro p e s m below meth c s₁ hx hby hml hZ hown hnm hrt hlk X0 e0
 have N0 := Fr.nil n0
 have hww := @hvw _ _ hw
 have k0 := k_e (p := p) (e := e) (below := below) (s := s₁) (ef_31_II m p1 p2)
 have H := @dch _ _ _ hby D31
 have k101 := f_ilN X0 hx k0 (H 0 rfl) rfl
 have k102 := f_ilN X0 hx k101 (H 1 rfl) rfl
 obtain ⟨i104, hi104⟩ : ∃ z : Int32, z = (if p1 < p2 then p2 else p1) := ⟨_, rfl⟩
 have k105 : Rt p e below s₁ (mkF m 10 #[si p1, si p2] [vI i104]) s₁ m #[(.int p1), (.int p2)] 2 := fun t k => k102 t (by
  by_cases c103 : p1 < p2
  · rw [if_pos c103] at hi104
    show Sp p e below s₁ (mkF m 2 #[si p1, si p2] [vI p2, vI p1]) _
    refine XS.icmpYes X0.here hx rfl (pc0 := 2) (pc' := 9) rfl (H 2 rfl) rfl (tlt c103).1 (by decide) (by decide) ?_
    refine XS.iloadN X0.here hx rfl (H 3 rfl) rfl ?_
    show Sp p e below s₁ (mkF m 10 #[si p1, si p2] [vI p2]) _
    exact castTop (by rw [hi104]) k
  · rw [if_neg c103] at hi104
    show Sp p e below s₁ (mkF m 2 #[si p1, si p2] [vI p2, vI p1]) _
    refine XS.icmpNo X0.here hx rfl (H 2 rfl) rfl (flt c103).1 ?_
    refine XS.iloadN X0.here hx rfl (H 4 rfl) rfl ?_
    refine XS.goto X0.here hx rfl (pc0 := 6) (pc' := 10) rfl (H 5 rfl) (by decide) (by decide) ?_
    show Sp p e below s₁ (mkF m 10 #[si p1, si p2] [vI p1]) _
    exact castTop (by rw [hi104]) k)
 exact fin_r X0 hx (w := (.int i104)) hrt hlk rfl (Or.inl ⟨rfl, Or.inl rfl, _, rfl⟩) k105 (H 6 rfl) (by rw [e0]; exact ⟨i104, rfl, N0, rfl, hi104⟩) (by decide) (by decide)
theorem ef_51_I (m : MethodId) (x0 : Int32) : entryFrame m #[(.int x0)] 1 = mkF m 0 #[.val (.int x0)] [] := by first | (simp [entryFrame, mkF, argsToLocals, Value.category]; done) | rfl
theorem pd__28II_29I : parseMethodDescriptor "(II)I" = some ⟨[.int, .int], some .int⟩ := by decide +kernel
def Q_gain (Z : State) (p1 : Int32) (h0 : Heap) (n0 : Nat) (v : Option Value) (h : Heap) (L : List Loc) : Prop := ∃ (j : Int32), v = some (.int j) ∧ Fr n0 L ∧ h = h0 ∧ (j = (if p1 < (0 : Int32) then (0 : Int32) else p1))
theorem pn_com_2fexample_2fmultinomial_2fmultinomial_2feval_2fJudgedRanking : plainName "com/example/multinomial/multinomial/eval/JudgedRanking" = true := by first | (simp [plainName, overriddenIn]; done) | decide +kernel
theorem gain (l : Launch) (Z : State) (a0 : Array Value) (hw : HW Z a0) (ws : List Jvm.Cond) (p1 : Int32) (h0 : Heap) (n0 : Nat) (Z0 : n0 ≤ h0.size) :
  Met l mn18 prog_10_method_13_code 1 (some .int) ws (rm 1 0 0 13) #[(.int p1)] Z h0 (Q_gain Z p1 h0 n0) := by
 refine Met.intro (plainFor_of_name pn_com_2fexample_2fmultinomial_2fmultinomial_2feval_2fJudgedRanking) ?_
 intro p e s m below meth c s₁ hx hby hml hZ hown hnm hrt hlk X0 e0
 have N0 := Fr.nil n0
 have hww := @hvw _ _ hw
 have k0 := k_e (p := p) (e := e) (below := below) (s := s₁) (ef_51_I m p1)
 have H := @dch _ _ _ hby D51
 have k101 := f_ilN X0 hx k0 (H 0 rfl) rfl
 have k102 := f_ic X0 hx k101 (H 1 rfl) (v := 0) rfl
 obtain ⟨_, T103, L103, X103, hQ103, k103⟩ := c_S (W := 0) X0 hx hZ hown (hww 371 rfl) (hww 234 rfl) (hww 235 rfl) (hww 236 rfl) (by decide) (mmax l Z a0 hw [] p1 (0 : Int32) h0 n0 Z0 ) e0 (argsL := [(.int p1), zI]) (rest := []) rfl (by rw [hml]; rfl) k102 rfl (H 2 rfl) (lenOf pd__28II_29I rfl) (b5 rfl)
 obtain ⟨h103, e103⟩ : ∃ h', T103.heap = h' := ⟨_, rfl⟩
 rw [e103] at hQ103
 obtain ⟨j103, rfl, N103q, hh103, P103_0⟩ := hQ103
 have N104 := Fr.app N0 N103q
 have ee103 : T103.heap = h0 := e103.trans hh103
 exact fin_r X103 hx (w := (.int j103)) hrt hlk rfl (Or.inl ⟨rfl, Or.inl rfl, _, rfl⟩) k103 (H 3 rfl) (by rw [ee103]; exact ⟨j103, rfl, N104, rfl, P103_0⟩) (by decide) (by decide)
theorem ef_7_R (m : MethodId) (x0 : Addr) : entryFrame m #[(.ref x0)] 1 = mkF m 0 #[.val (.ref x0)] [] := by first | (simp [entryFrame, mkF, argsToLocals, Value.category]; done) | rfl
def Q_abl (Z : State) (a1 : Addr) (h0 : Heap) (n0 : Nat) (v : Option Value) (h : Heap) (L : List Loc) : Prop := v = none ∧ Fr n0 L ∧ Keep h0 h [a1] ∧ OBJ Z h a1 "java/util/ArrayList" lyLS [zI, .null, zI]
theorem pn_java_2futil_2fAbstractList : plainName "java/util/AbstractList" = true := by first | (simp [plainName, overriddenIn]; done) | decide +kernel
theorem abl (l : Launch) (Z : State) (a0 : Array Value) (hw : HW Z a0) (ws : List Jvm.Cond) (a1 : Addr) (h0 : Heap) (n0 : Nat) (Z0 : n0 ≤ h0.size) (Fk0 : OBJ Z h0 a1 "java/util/ArrayList" lyLS [zI, .null, zI]) (ge_a1 : n0 ≤ a1) :
  Met l mn19 jdk_39_method_1_code 1 none ws (rm 2 0 0 24) #[(.ref a1)] Z h0 (Q_abl Z a1 h0 n0) := by
 refine Met.intro (plainFor_of_name pn_java_2futil_2fAbstractList) ?_
 intro p e s m below meth c s₁ hx hby hml hZ hown hnm hrt hlk X0 e0
 have N0 := Fr.nil n0
 have hww := @hvw _ _ hw
 have k0 := k_e (p := p) (e := e) (below := below) (s := s₁) (ef_7_R m a1)
 have K0 := Keep.refl h0 [a1]
 have H := @dch _ _ _ hby D7
 have k101 := f_alN X0 hx k0 (H 0 rfl) rfl
 obtain ⟨_, T102, L102, X102, hQ102, k102⟩ := c_N (W := 0) X0 hx hZ hown (hww 39 rfl) (hww 40 rfl) (hww 44 rfl) (hww 43 rfl) rfl (by decide) (i_AbstractCollection l Z a0 hw [] a1 h0 n0 Z0 ) e0 (argsL := []) (rest := []) rfl (by rw [hml]; rfl) k101 rfl (H 1 rfl) (lenOf pd__28_29V rfl) (b5 rfl)
 obtain ⟨rfl, N102q, e102⟩ := hQ102
 have N103 := Fr.app N0 N102q
 have k104 := f_alN X102 hx k102 (H 2 rfl) rfl
 have k105 := f_ic X102 hx k104 (H 3 rfl) (v := 0) rfl
 obtain ⟨T106, h106, L106, X106, e106, W106, B106, N106, Z106, k106⟩ := f_pF X102 hx hZ hown (hww 46 rfl) Via.refl e102 Fk0 (snLS hw) (Or.inl (hww 47 rfl)) (hww 28 rfl) 0 (by decide) rfl rfl (ty := .int) (by decide) rfl rfl N103 ge_a1 Z0 k105 (H 4 rfl) rfl
 have K107 := kw K0 W106 0 rfl
 exact fin_v X106 hx hrt hlk k106 (H 5 rfl) (by rw [e106]; exact ⟨rfl, N106, K107, B106⟩) (by decide) (by decide)
theorem ef_6_R (m : MethodId) (x0 : Addr) : entryFrame m #[(.ref x0)] 1 = mkF m 0 #[.val (.ref x0)] [] := by first | (simp [entryFrame, mkF, argsToLocals, Value.category]; done) | rfl
def Q_ali (Z : State) (a1 de : Addr) (h0 : Heap) (n0 : Nat) (v : Option Value) (h : Heap) (L : List Loc) : Prop := v = none ∧ Fr n0 L ∧ Keep h0 h [a1] ∧ OBJ Z h a1 "java/util/ArrayList" lyLS [zI, (.ref de), zI]
theorem pn_java_2futil_2fArrayList : plainName "java/util/ArrayList" = true := by first | (simp [plainName, overriddenIn]; done) | decide +kernel
theorem ali (l : Launch) (Z : State) (a0 : Array Value) (hw : HW Z a0) (ws : List Jvm.Cond) (a1 de : Addr) (h0 : Heap) (n0 : Nat) (Z0 : n0 ≤ h0.size) (Fk0 : OBJ Z h0 a1 "java/util/ArrayList" lyLS [zI, .null, zI]) (ge_a1 : n0 ≤ a1) (Sde : Sta Z Z.heap "java/util/ArrayList" "DEFAULTCAPACITY_EMPTY_ELEMENTDATA" "[Ljava/lang/Object;" (.ref de)) (O0 : Old Z n0 h0) :
  Met l mn20 jdk_38_method_2_code 1 none ws (rm 3 0 0 36) #[(.ref a1)] Z h0 (Q_ali Z a1 de h0 n0) := by
 refine Met.intro (plainFor_of_name pn_java_2futil_2fArrayList) ?_
 intro p e s m below meth c s₁ hx hby hml hZ hown hnm hrt hlk X0 e0
 have N0 := Fr.nil n0
 have hww := @hvw _ _ hw
 have k0 := k_e (p := p) (e := e) (below := below) (s := s₁) (ef_6_R m a1)
 have K0 := Keep.refl h0 [a1]
 have H := @dch _ _ _ hby D6
 have k101 := f_alN X0 hx k0 (H 0 rfl) rfl
 obtain ⟨_, T102, L102, X102, hQ102, k102⟩ := c_N (W := 0) X0 hx hZ hown (hww 33 rfl) (hww 34 rfl) (hww 38 rfl) (hww 37 rfl) rfl (by decide) (abl l Z a0 hw [] a1 h0 n0 Z0 Fk0 ge_a1) e0 (argsL := []) (rest := []) rfl (by rw [hml]; rfl) k101 rfl (H 1 rfl) (lenOf pd__28_29V rfl) (b5 rfl)
 obtain ⟨h102, e102⟩ : ∃ h', T102.heap = h' := ⟨_, rfl⟩
 rw [e102] at hQ102
 obtain ⟨rfl, N102q, K102, R102_0⟩ := hQ102
 have N103 := Fr.app N0 N102q
 have F104 := O0.keep K102 (allS ge_a1 all0)
 have Z105 : n0 ≤ h102.size := Nat.le_trans Z0 K102.1
 have K106 := Keep.trans K0 K102 (allS (oL 0 rfl) all0)
 have k107 := f_alN X102 hx k102 (H 2 rfl) rfl
 obtain ⟨T108, X108, e108, st108⟩ := getS2 X102 hx hZ hown (host := "") (Or.inl (hww 48 rfl)) Via.refl e102 (Sde.ext F104.2) (g := (mkF m 5 #[sr a1] [vR a1])) rfl (H 3 rfl)
 have k109 : Rt p e below T108 (mkF m 8 #[sr a1] [vR de, vR a1]) s₁ m #[(.ref a1)] 1 := fun t k => k107 t (st108 t k)
 obtain ⟨T110, h110, L110, X110, e110, W110, B110, N110, Z110, k110⟩ := f_pF X108 hx hZ hown (hww 49 rfl) Via.refl e108 R102_0 (snLS hw) (Or.inl (hww 50 rfl)) (hww 28 rfl) 1 (by decide) rfl rfl (ty := (.array (.object "java/lang/Object"))) (by decide) rfl rfl N103 ge_a1 Z105 k109 (H 4 rfl) rfl
 have F111 := F104.wr W110 ge_a1
 have K112 := kw K106 W110 0 rfl
 exact fin_v X110 hx hrt hlk k110 (H 5 rfl) (by rw [e110]; exact ⟨rfl, N110, K112, B110⟩) (by decide) (by decide)
theorem ef_30_RI (m : MethodId) (x0 : Addr) (x1 : Int32) : entryFrame m #[(.ref x0), (.int x1)] 4 = mkF m 0 #[.val (.ref x0), .val (.int x1), .unset, .unset] [] := by first | (simp [entryFrame, mkF, argsToLocals, Value.category]; done) | rfl
def Q_grw1 (Z : State) (a1 de : Addr) (kd : ClassId) (mc : Int32) (h0 : Heap) (n0 : Nat) (v : Option Value) (h : Heap) (L : List Loc) : Prop := ∃ (ea : Addr) (ka : ClassId), v = some (.ref ea) ∧ Fr n0 L ∧ Keep h0 h [a1] ∧ h0.size ≤ ea ∧ OBJ Z h a1 "java/util/ArrayList" lyLS [(.int mc), (.ref ea), zI] ∧ Arv Z h ea ka (.object "java/lang/Object") (10 : Int32) [.null, .null, .null, .null, .null, .null, .null, .null, .null, .null] .null ∧ (Ovr Z ka "java/lang/Object")
theorem grw1 (l : Launch) (Z : State) (a0 : Array Value) (hw : HW Z a0) (ws : List Jvm.Cond) (a1 de : Addr) (kd : ClassId) (mc : Int32) (h0 : Heap) (n0 : Nat) (Z0 : n0 ≤ h0.size) (Fk0 : OBJ Z h0 a1 "java/util/ArrayList" lyLS [(.int mc), (.ref de), zI]) (ge_a1 : n0 ≤ a1) (Sde : Sta Z Z.heap "java/util/ArrayList" "DEFAULTCAPACITY_EMPTY_ELEMENTDATA" "[Ljava/lang/Object;" (.ref de)) (Vde : Arv Z Z.heap de kd (.object "java/lang/Object") (0 : Int32) [] .null) (O0 : Old Z n0 h0) :
  Met l mn21 jdk_38_method_6_code 4 (some (.array (.object "java/lang/Object"))) ws (rm 1 1 10 14) #[(.ref a1), (.int (1 : Int32))] Z h0 (Q_grw1 Z a1 de kd mc h0 n0) := by
 refine Met.intro (plainFor_of_name pn_java_2futil_2fArrayList) ?_
 intro p e s m below meth c s₁ hx hby hml hZ hown hnm hrt hlk X0 e0
 have N0 := Fr.nil n0
 have hww := @hvw _ _ hw
 have k0 := k_e (p := p) (e := e) (below := below) (s := s₁) (ef_30_RI m a1 (1 : Int32))
 have K0 := Keep.refl h0 [a1]
 have H := @dch _ _ _ hby D30
 have k101 := f_alN X0 hx k0 (H 0 rfl) rfl
 obtain ⟨T102, X102, e102, k103⟩ := gFs X0 hx hZ hown (hww 49 rfl) e0 (Fk0.g 1 (v := (.ref de)) (by decide) rfl rfl) k101 (H 1 rfl)
 have k104 := f_len X102 hx hZ e102 (Vde.ext O0.2) k103 (H 2 rfl)
 have k105 := f_isN X102 hx k104 (H 3 rfl) (l' := #[sr a1, si 1, si 0, un]) rfl
 have k106 := f_ilN X102 hx k105 (H 4 rfl) rfl
 have k107 := f_ifN X102 hx k106 (H 5 rfl) ((if0 _ _).trans (flt (by decide)).2.2.1)
 have k108 := f_alN X102 hx k107 (H 6 rfl) rfl
 obtain ⟨T109, X109, e109, k110⟩ := gFs X102 hx hZ hown (hww 49 rfl) e102 (Fk0.g 1 (v := (.ref de)) (by decide) rfl rfl) k108 (H 7 rfl)
 obtain ⟨T111, X111, e111, st111⟩ := getS2 X109 hx hZ hown (host := "") (Or.inl (hww 48 rfl)) Via.refl e109 (Sde.ext O0.2) (g := (mkF m 14 #[sr a1, si 1, si 0, un] [vR de])) rfl (H 8 rfl)
 have k112 : Rt p e below T111 (mkF m 17 #[sr a1, si 1, si 0, un] [vR de, vR de]) s₁ m #[(.ref a1), (.int (1 : Int32))] 4 := fun t k => k110 t (st111 t k)
 have k113 : Rt p e below T111 (mkF m 45 #[sr a1, si 1, si 0, un] []) s₁ m #[(.ref a1), (.int (1 : Int32))] 4 := fun t k => k112 t (by
  show Sp p e below T111 (mkF m 17 #[sr a1, si 1, si 0, un] [vR de, vR de]) _
  refine Jvm.RoadKit.acmp X111 hx rfl (x := (.ref de)) (y := (.ref de)) rfl rfl (same := true) (pc0 := 17) (pc' := 45) rfl (H 9 rfl) rfl (decide_eq_true rfl) (by decide) (by decide) ?_
  exact k)
 have k114 := f_alN X111 hx k113 (H 10 rfl) rfl
 have k115 := f_bp X111 hx k114 (H 11 rfl) (v := 10) rfl
 have k116 := f_ilN X111 hx k115 (H 12 rfl) rfl
 obtain ⟨_, T117, L117, X117, hQ117, k117⟩ := c_S (W := 1) X111 hx hZ hown (hww 233 rfl) (hww 234 rfl) (hww 235 rfl) (hww 236 rfl) (by decide) (mmax l Z a0 hw [] (10 : Int32) (1 : Int32) h0 n0 Z0 ) e111 (argsL := [(.int (10 : Int32)), (.int (1 : Int32))]) (rest := [(.ref a1)]) rfl (by rw [hml]; rfl) k116 rfl (H 13 rfl) (lenOf pd__28II_29I rfl) (b5 rfl)
 obtain ⟨h117, e117⟩ : ∃ h', T117.heap = h' := ⟨_, rfl⟩
 rw [e117] at hQ117
 obtain ⟨j117, rfl, N117q, hh117, P117_0⟩ := hQ117
 have N118 := Fr.app N0 N117q
 have ee117 : T117.heap = h0 := e117.trans hh117
 have k119 : Rt p e below T117 (mkF m 52 #[sr a1, si 1, si 0, un] [vI 10, vR a1]) s₁ m #[(.ref a1), (.int (1 : Int32))] 4 := fun t q => k117 t (castTop (by rw [show j117 = (10 : Int32) from (P117_0.trans (by decide))] <;> rfl) q)
 obtain ⟨T120, h120, k120, X120, e120, E120, A120, O120, st120⟩ := newR X117 hx hZ hown (hww 237 rfl) (hww 238 rfl) ee117 (g := (mkF m 52 #[sr a1, si 1, si 0, un] [vI 10, vR a1])) rfl (H 14 rfl) rfl (by decide) (cap := 10) (by decide) (by decide) (by decide) (by decide)
 obtain ⟨b120, g120⟩ : ∃ z, z = h0.size := ⟨_, rfl⟩
 rw [← g120] at A120 st120
 have g121 : n0 ≤ b120 := Nat.le_trans Z0 (Nat.le_of_eq g120.symm)
 have z122 : h0.size ≤ b120 := Nat.le_trans K0.1 (Nat.le_of_eq g120.symm)
 have F123 := Fk0.ext E120
 have F124 := O0.ext E120
 have Z125 : n0 ≤ h120.size := Nat.le_trans Z0 E120.1
 have K126 := K0.ext E120
 have V127 : Arv Z h120 b120 k120 (.object "java/lang/Object") (10 : Int32) [.null, .null, .null, .null, .null, .null, .null, .null, .null, .null] .null := (Arv.new A120 (by decide)).pad (pad_rep [] .null 10)
 have k128 : Rt p e below T120 (mkF m 55 #[sr a1, si 1, si 0, un] [vR b120, vR a1]) s₁ m #[(.ref a1), (.int (1 : Int32))] 4 := fun t k => k119 t (st120 t k)
 have k129 := f_dupX1 X120 hx k128 (H 15 rfl) rfl rfl
 obtain ⟨T130, h130, L130, X130, e130, W130, B130, N130, Z130, k130⟩ := f_pF X120 hx hZ hown (hww 49 rfl) Via.refl e120 F123 (snLS hw) (Or.inl (hww 50 rfl)) (hww 28 rfl) 1 (by decide) rfl rfl (ty := (.array (.object "java/lang/Object"))) (by decide) rfl rfl N118 ge_a1 Z125 k129 (H 16 rfl) rfl
 have F131 := F124.wr W130 ge_a1
 have F132 := V127.other W130 (nG Fk0.lt (Nat.le_of_eq g120.symm))
 have K133 := kw K126 W130 0 rfl
 exact fin_r X130 hx (w := (.ref b120)) hrt hlk rfl (Or.inr (Or.inr (Or.inr (Or.inr ⟨rfl, rfl, rfl⟩)))) k130 (H 17 rfl) (by rw [e130]; exact ⟨b120, k120, rfl, N130, K133, z122, B130, F132, O120⟩) (by decide) (by decide)
theorem ef_29_R (m : MethodId) (x0 : Addr) : entryFrame m #[(.ref x0)] 1 = mkF m 0 #[.val (.ref x0)] [] := by first | (simp [entryFrame, mkF, argsToLocals, Value.category]; done) | rfl
theorem pd__28I_29_5bLjava_2flang_2fObject_3b : parseMethodDescriptor "(I)[Ljava/lang/Object;" = some ⟨[.int], some (.array (.object "java/lang/Object"))⟩ := by decide +kernel
def Q_grw0 (Z : State) (a1 de : Addr) (kd : ClassId) (mc : Int32) (h0 : Heap) (n0 : Nat) (v : Option Value) (h : Heap) (L : List Loc) : Prop := ∃ (ea : Addr) (ka : ClassId), v = some (.ref ea) ∧ Fr n0 L ∧ Keep h0 h [a1] ∧ h0.size ≤ ea ∧ OBJ Z h a1 "java/util/ArrayList" lyLS [(.int mc), (.ref ea), zI] ∧ Arv Z h ea ka (.object "java/lang/Object") (10 : Int32) [.null, .null, .null, .null, .null, .null, .null, .null, .null, .null] .null ∧ (Ovr Z ka "java/lang/Object")
theorem grw0 (l : Launch) (Z : State) (a0 : Array Value) (hw : HW Z a0) (ws : List Jvm.Cond) (a1 de : Addr) (kd : ClassId) (mc : Int32) (h0 : Heap) (n0 : Nat) (Z0 : n0 ≤ h0.size) (Fk0 : OBJ Z h0 a1 "java/util/ArrayList" lyLS [(.int mc), (.ref de), zI]) (ge_a1 : n0 ≤ a1) (Sde : Sta Z Z.heap "java/util/ArrayList" "DEFAULTCAPACITY_EMPTY_ELEMENTDATA" "[Ljava/lang/Object;" (.ref de)) (Vde : Arv Z Z.heap de kd (.object "java/lang/Object") (0 : Int32) [] .null) (O0 : Old Z n0 h0) :
  Met l mn22 jdk_38_method_7_code 1 (some (.array (.object "java/lang/Object"))) ws (rm 2 1 10 29) #[(.ref a1)] Z h0 (Q_grw0 Z a1 de kd mc h0 n0) := by
 refine Met.intro (plainFor_of_name pn_java_2futil_2fArrayList) ?_
 intro p e s m below meth c s₁ hx hby hml hZ hown hnm hrt hlk X0 e0
 have N0 := Fr.nil n0
 have hww := @hvw _ _ hw
 have k0 := k_e (p := p) (e := e) (below := below) (s := s₁) (ef_29_R m a1)
 have K0 := Keep.refl h0 [a1]
 have H := @dch _ _ _ hby D29
 have k101 := f_alN X0 hx k0 (H 0 rfl) rfl
 have k102 := f_alN X0 hx k101 (H 1 rfl) rfl
 obtain ⟨T103, X103, e103, k104⟩ := gFs X0 hx hZ hown (hww 83 rfl) e0 (Fk0.g 2 (v := zI) (by decide) rfl rfl) k102 (H 2 rfl)
 have k105 := f_ic X103 hx k104 (H 3 rfl) (v := 1) rfl
 have k106 := f_iadd X103 hx k105 (H 4 rfl) (r := 1) (by decide)
 obtain ⟨_, T107, L107, X107, hQ107, k107⟩ := c_P (W := 0) X103 hx hZ hown (hww 228 rfl) (hww 229 rfl) (mvT hZ (hww 231 rfl)) (Cond.privateMethod_at (mvP hZ (hww 230 rfl) (args := #[]))) (hww 232 rfl) (hww 29 rfl) (by decide) Fk0.1 (grw1 l Z a0 hw [] a1 de kd mc h0 n0 Z0 Fk0 ge_a1 Sde Vde O0) e103 (argsL := [(.int (1 : Int32))]) (rest := []) rfl (by rw [hml]; rfl) k106 rfl (H 5 rfl) (lenOf pd__28I_29_5bLjava_2flang_2fObject_3b rfl) (b5 rfl)
 obtain ⟨h107, e107⟩ : ∃ h', T107.heap = h' := ⟨_, rfl⟩
 rw [e107] at hQ107
 obtain ⟨ea107, ka107, rfl, N107q, K107, Zx107_0, R107_0, R107_1, P107_0⟩ := hQ107
 have N108 := Fr.app N0 N107q
 have F109 := O0.keep K107 (allS ge_a1 all0)
 have Z110 : n0 ≤ h107.size := Nat.le_trans Z0 K107.1
 have K111 := Keep.trans K0 K107 (allS (oL 0 rfl) all0)
 exact fin_r X107 hx (w := (.ref ea107)) hrt hlk rfl (Or.inr (Or.inr (Or.inr (Or.inr ⟨rfl, rfl, rfl⟩)))) k107 (H 6 rfl) (by rw [e107]; exact ⟨ea107, ka107, rfl, N108, K111, (Nat.le_trans K0.1 Zx107_0), R107_0, R107_1, P107_0⟩) (by decide) (by decide)
theorem ef_28_RRRI (m : MethodId) (x0 : Addr) (x1 : Addr) (x2 : Addr) (x3 : Int32) : entryFrame m #[(.ref x0), (.ref x1), (.ref x2), (.int x3)] 4 = mkF m 0 #[.val (.ref x0), .val (.ref x1), .val (.ref x2), .val (.int x3)] [] := by first | (simp [entryFrame, mkF, argsToLocals, Value.category]; done) | rfl
theorem pd__28_29_5bLjava_2flang_2fObject_3b : parseMethodDescriptor "()[Ljava/lang/Object;" = some ⟨[], some (.array (.object "java/lang/Object"))⟩ := by decide +kernel
def Q_add0p (Z : State) (a1 d1 : Addr) (mc : Int32) (de : Addr) (kd : ClassId) (h0 : Heap) (n0 : Nat) (v : Option Value) (h : Heap) (L : List Loc) : Prop := ∃ (ea : Addr) (ka : ClassId), v = none ∧ Fr n0 L ∧ Keep h0 h [a1] ∧ h0.size ≤ ea ∧ OBJ Z h a1 "java/util/ArrayList" lyLS [(.int mc), (.ref ea), (.int (1 : Int32))] ∧ Arv Z h ea ka (.object "java/lang/Object") (10 : Int32) [(.ref d1), .null, .null, .null, .null, .null, .null, .null, .null, .null] .null ∧ (Ovr Z ka "java/lang/Object")
theorem add0p (l : Launch) (Z : State) (a0 : Array Value) (hw : HW Z a0) (ws : List Jvm.Cond) (a1 d1 : Addr) (mc : Int32) (de : Addr) (kd : ClassId) (h0 : Heap) (n0 : Nat) (Z0 : n0 ≤ h0.size) (Fk0 : OBJ Z h0 a1 "java/util/ArrayList" lyLS [(.int mc), (.ref de), zI]) (Fk1 : Exa Z h0 d1 "com/example/multinomial/multinomial/search/ScoredDocument") (ge_a1 : n0 ≤ a1) (ne_d1_a1 : d1 ≠ a1) (Sde : Sta Z Z.heap "java/util/ArrayList" "DEFAULTCAPACITY_EMPTY_ELEMENTDATA" "[Ljava/lang/Object;" (.ref de)) (Vde : Arv Z Z.heap de kd (.object "java/lang/Object") (0 : Int32) [] .null) (O0 : Old Z n0 h0) :
  Met l mn23 jdk_38_method_24_code 4 none ws (rm 3 1 10 41) #[(.ref a1), (.ref d1), (.ref de), zI] Z h0 (Q_add0p Z a1 d1 mc de kd h0 n0) := by
 refine Met.intro (plainFor_of_name pn_java_2futil_2fArrayList) ?_
 intro p e s m below meth c s₁ hx hby hml hZ hown hnm hrt hlk X0 e0
 have N0 := Fr.nil n0
 have hww := @hvw _ _ hw
 have k0 := k_e (p := p) (e := e) (below := below) (s := s₁) (ef_28_RRRI m a1 d1 de (0 : Int32))
 have K0 := Keep.refl h0 [a1]
 have H := @dch _ _ _ hby D28
 have k101 := f_ilN X0 hx k0 (H 0 rfl) rfl
 have k102 := f_alN X0 hx k101 (H 1 rfl) rfl
 have k103 := f_len X0 hx hZ e0 (Vde.ext O0.2) k102 (H 2 rfl)
 have k104 := f_icN X0 hx k103 (H 3 rfl) (teq (by decide)).2
 have k105 := f_alN X0 hx k104 (H 4 rfl) rfl
 obtain ⟨_, T106, L106, X106, hQ106, k106⟩ := c_P (W := 0) X0 hx hZ hown (hww 223 rfl) (hww 224 rfl) (mvT hZ (hww 226 rfl)) (Cond.privateMethod_at (mvP hZ (hww 225 rfl) (args := #[]))) (hww 227 rfl) (hww 29 rfl) (by decide) Fk0.1 (grw0 l Z a0 hw [] a1 de kd mc h0 n0 Z0 Fk0 ge_a1 Sde Vde O0) e0 (argsL := []) (rest := []) rfl (by rw [hml]; rfl) k105 rfl (H 5 rfl) (lenOf pd__28_29_5bLjava_2flang_2fObject_3b rfl) (b5 rfl)
 obtain ⟨h106, e106⟩ : ∃ h', T106.heap = h' := ⟨_, rfl⟩
 rw [e106] at hQ106
 obtain ⟨ea106, ka106, rfl, N106q, K106, Zx106_0, R106_0, R106_1, P106_0⟩ := hQ106
 have N107 := Fr.app N0 N106q
 have F108 := O0.keep K106 (allS ge_a1 all0)
 have Z109 : n0 ≤ h106.size := Nat.le_trans Z0 K106.1
 have K110 := Keep.trans K0 K106 (allS (oL 0 rfl) all0)
 have k111 := f_asN X106 hx k106 (H 6 rfl) (l' := #[sr a1, sr d1, sr ea106, si 0]) rfl
 have k112 := f_alN X106 hx k111 (H 7 rfl) rfl
 have k113 := f_ilN X106 hx k112 (H 8 rfl) rfl
 have k114 := f_alN X106 hx k113 (H 9 rfl) rfl
 obtain ⟨T115, h115, L115, X115, e115, W115, V115, N115, Z115, k115⟩ := f_ast X106 hx hZ e106 R106_1 N107 (Nat.le_trans Z0 Zx106_0) Z109 k114 (H 10 rfl) rfl rfl (fun cc A q => Sto.ofV A q P106_0 (Ins.of_exa (Fk1.keep K110) (hww 239 rfl))) (by decide) 0 rfl (lt_b rfl)
 have F116 := F108.wr W115 (Nat.le_trans Z0 Zx106_0)
 have K117 := K110.wr W115 (Or.inr (Nat.le_trans K0.1 Zx106_0))
 have B118 := R106_0.other W115 (nL Fk0.lt Zx106_0)
 have k119 := f_alN X115 hx k115 (H 11 rfl) rfl
 have k120 := f_ilN X115 hx k119 (H 12 rfl) rfl
 have k121 := f_ic X115 hx k120 (H 13 rfl) (v := 1) rfl
 have k122 := f_iadd X115 hx k121 (H 14 rfl) (r := 1) (by decide)
 obtain ⟨T123, h123, L123, X123, e123, W123, B123, N123, Z123, k123⟩ := f_pF X115 hx hZ hown (hww 83 rfl) Via.refl e115 B118 (snLS hw) (Or.inl (hww 84 rfl)) (hww 28 rfl) 2 (by decide) rfl rfl (ty := .int) (by decide) rfl rfl N115 ge_a1 Z115 k122 (H 15 rfl) rfl
 have F124 := F116.wr W123 ge_a1
 have F125 := V115.other W123 (nG Fk0.lt Zx106_0)
 have K126 := kw K117 W123 0 rfl
 exact fin_v X123 hx hrt hlk k123 (H 16 rfl) (by rw [e123]; exact ⟨ea106, ka106, rfl, N123, K126, (Nat.le_trans K0.1 Zx106_0), B123, F125, P106_0⟩) (by decide) (by decide)
theorem ef_27_RR (m : MethodId) (x0 : Addr) (x1 : Addr) : entryFrame m #[(.ref x0), (.ref x1)] 2 = mkF m 0 #[.val (.ref x0), .val (.ref x1)] [] := by first | (simp [entryFrame, mkF, argsToLocals, Value.category]; done) | rfl
theorem pd__28Ljava_2flang_2fObject_3b_5bLjava_2flang_2fObject_3bI_29V : parseMethodDescriptor "(Ljava/lang/Object;[Ljava/lang/Object;I)V" = some ⟨[(.object "java/lang/Object"), (.array (.object "java/lang/Object")), .int], none⟩ := by decide +kernel
def Q_add0f (Z : State) (a1 d1 : Addr) (mc : Int32) (de : Addr) (kd : ClassId) (h0 : Heap) (n0 : Nat) (v : Option Value) (h : Heap) (L : List Loc) : Prop := ∃ (ea : Addr) (ka : ClassId), v = some (.int (1 : Int32)) ∧ Fr n0 L ∧ Keep h0 h [a1] ∧ h0.size ≤ ea ∧ OBJ Z h a1 "java/util/ArrayList" lyLS [(.int (mc + (1 : Int32))), (.ref ea), (.int (1 : Int32))] ∧ Arv Z h ea ka (.object "java/lang/Object") (10 : Int32) [(.ref d1), .null, .null, .null, .null, .null, .null, .null, .null, .null] .null ∧ (Ovr Z ka "java/lang/Object")
theorem add0f (l : Launch) (Z : State) (a0 : Array Value) (hw : HW Z a0) (ws : List Jvm.Cond) (a1 d1 : Addr) (mc : Int32) (de : Addr) (kd : ClassId) (h0 : Heap) (n0 : Nat) (Z0 : n0 ≤ h0.size) (Fk0 : OBJ Z h0 a1 "java/util/ArrayList" lyLS [(.int mc), (.ref de), zI]) (Fk1 : Exa Z h0 d1 "com/example/multinomial/multinomial/search/ScoredDocument") (ge_a1 : n0 ≤ a1) (ne_d1_a1 : d1 ≠ a1) (Sde : Sta Z Z.heap "java/util/ArrayList" "DEFAULTCAPACITY_EMPTY_ELEMENTDATA" "[Ljava/lang/Object;" (.ref de)) (Vde : Arv Z Z.heap de kd (.object "java/lang/Object") (0 : Int32) [] .null) (O0 : Old Z n0 h0) :
  Met l mn24 jdk_38_method_25_code 2 (some .boolean) ws (rm 4 1 10 56) #[(.ref a1), (.ref d1)] Z h0 (Q_add0f Z a1 d1 mc de kd h0 n0) := by
 refine Met.intro (plainFor_of_name pn_java_2futil_2fArrayList) ?_
 intro p e s m below meth c s₁ hx hby hml hZ hown hnm hrt hlk X0 e0
 have N0 := Fr.nil n0
 have hww := @hvw _ _ hw
 have k0 := k_e (p := p) (e := e) (below := below) (s := s₁) (ef_27_RR m a1 d1)
 have K0 := Keep.refl h0 [a1]
 have H := @dch _ _ _ hby D27
 have k101 := f_alN X0 hx k0 (H 0 rfl) rfl
 have k102 := f_dup X0 hx k101 (H 1 rfl) rfl
 obtain ⟨T103, X103, e103, st103⟩ := getF X0 hx hZ hown (host := "") (Or.inl (hww 216 rfl)) (Via.of (hww 217 rfl)) e0 (Fk0.g 0 (v := (.int mc)) (by decide) rfl rfl) (g := (mkF m 2 #[sr a1, sr d1] [vR a1, vR a1])) rfl rfl (H 2 rfl)
 have k104 : Rt p e below T103 (mkF m 5 #[sr a1, sr d1] [vI mc, vR a1]) s₁ m #[(.ref a1), (.ref d1)] 2 := fun t k => k102 t (st103 t k)
 have k105 := f_ic X103 hx k104 (H 3 rfl) (v := 1) rfl
 have k106 := f_iadd X103 hx k105 (H 4 rfl) rfl
 obtain ⟨T107, h107, L107, X107, e107, W107, B107, N107, Z107, k107⟩ := f_pF X103 hx hZ hown (hww 216 rfl) (Via.of (hww 217 rfl)) e103 Fk0 (snLS hw) (Or.inl (hww 47 rfl)) (hww 28 rfl) 0 (by decide) rfl rfl (ty := .int) (by decide) rfl rfl N0 ge_a1 Z0 k106 (H 5 rfl) rfl
 have F108 := O0.wr W107 ge_a1
 have K109 := kw K0 W107 0 rfl
 have k110 := f_alN X107 hx k107 (H 6 rfl) rfl
 have k111 := f_alN X107 hx k110 (H 7 rfl) rfl
 have k112 := f_alN X107 hx k111 (H 8 rfl) rfl
 obtain ⟨T113, X113, e113, k114⟩ := gFs X107 hx hZ hown (hww 49 rfl) e107 (B107.g 1 (v := (.ref de)) (by decide) rfl rfl) k112 (H 9 rfl)
 have k115 := f_alN X113 hx k114 (H 10 rfl) rfl
 obtain ⟨T116, X116, e116, k117⟩ := gFs X113 hx hZ hown (hww 83 rfl) e113 (B107.g 2 (v := zI) (by decide) rfl rfl) k115 (H 11 rfl)
 obtain ⟨_, T118, L118, X118, hQ118, k118⟩ := c_P (W := 0) X116 hx hZ hown (hww 218 rfl) (hww 219 rfl) (mvT hZ (hww 221 rfl)) (Cond.privateMethod_at (mvP hZ (hww 220 rfl) (args := #[]))) (hww 222 rfl) (hww 29 rfl) (by decide) B107.1 (add0p l Z a0 hw [] a1 d1 (mc + (1 : Int32)) de kd h107 n0 Z107 B107 (Fk1.keep K109) ge_a1 ne_d1_a1 Sde Vde F108) e116 (argsL := [(.ref d1), (.ref de), zI]) (rest := []) rfl (by rw [hml]; rfl) k117 rfl (H 12 rfl) (lenOf pd__28Ljava_2flang_2fObject_3b_5bLjava_2flang_2fObject_3bI_29V rfl) (b5 rfl)
 obtain ⟨h118, e118⟩ : ∃ h', T118.heap = h' := ⟨_, rfl⟩
 rw [e118] at hQ118
 obtain ⟨ea118, ka118, rfl, N118q, K118, Zx118_0, R118_0, R118_1, P118_0⟩ := hQ118
 have N119 := Fr.app N107 N118q
 have F120 := F108.keep K118 (allS ge_a1 all0)
 have Z121 : n0 ≤ h118.size := Nat.le_trans Z107 K118.1
 have K122 := Keep.trans K109 K118 (allS (oL 0 rfl) all0)
 have k123 := f_ic X118 hx k118 (H 13 rfl) (v := 1) rfl
 exact fin_r X118 hx (w := (.int (1 : Int32))) hrt hlk rfl (Or.inl ⟨rfl, Or.inr (Or.inl rfl), _, rfl⟩) k123 (H 14 rfl) (by rw [e118]; exact ⟨ea118, ka118, rfl, N119, K122, (Nat.le_trans K109.1 Zx118_0), R118_0, R118_1, P118_0⟩) (by decide) (by decide)
def Q_add1p (Z : State) (a1 d1 : Addr) (mc : Int32) (ed0 ea : Addr) (ka : ClassId) (h0 : Heap) (n0 : Nat) (v : Option Value) (h : Heap) (L : List Loc) : Prop := v = none ∧ Fr n0 L ∧ Keep h0 h [a1, ea] ∧ OBJ Z h a1 "java/util/ArrayList" lyLS [(.int mc), (.ref ea), (.int (2 : Int32))] ∧ Arv Z h ea ka (.object "java/lang/Object") (10 : Int32) [(.ref ed0), (.ref d1), .null, .null, .null, .null, .null, .null, .null, .null] .null
theorem add1p (l : Launch) (Z : State) (a0 : Array Value) (hw : HW Z a0) (ws : List Jvm.Cond) (a1 d1 : Addr) (mc : Int32) (ed0 ea : Addr) (ka : ClassId) (h0 : Heap) (n0 : Nat) (Z0 : n0 ≤ h0.size) (Fk0 : OBJ Z h0 a1 "java/util/ArrayList" lyLS [(.int mc), (.ref ea), (.int (1 : Int32))]) (Fk1 : Exa Z h0 d1 "com/example/multinomial/multinomial/search/ScoredDocument") (Fk2 : Arv Z h0 ea ka (.object "java/lang/Object") (10 : Int32) [(.ref ed0), .null, .null, .null, .null, .null, .null, .null, .null, .null] .null) (ge_a1 : n0 ≤ a1) (ge_ea : n0 ≤ ea) (ne_d1_a1 : d1 ≠ a1) (ne_a1_ea : a1 ≠ ea) (ne_d1_ea : d1 ≠ ea) (Ov : Ovr Z ka "java/lang/Object") :
  Met l mn23 jdk_38_method_24_code 4 none ws (rm 0 0 0 0) #[(.ref a1), (.ref d1), (.ref ea), (.int (1 : Int32))] Z h0 (Q_add1p Z a1 d1 mc ed0 ea ka h0 n0) := by
 refine Met.intro (plainFor_of_name pn_java_2futil_2fArrayList) ?_
 intro p e s m below meth c s₁ hx hby hml hZ hown hnm hrt hlk X0 e0
 have N0 := Fr.nil n0
 have hww := @hvw _ _ hw
 have k0 := k_e (p := p) (e := e) (below := below) (s := s₁) (ef_28_RRRI m a1 d1 ea (1 : Int32))
 have K0 := Keep.refl h0 [a1, ea]
 have H := @dch _ _ _ hby D28
 have k101 := f_ilN X0 hx k0 (H 0 rfl) rfl
 have k102 := f_alN X0 hx k101 (H 1 rfl) rfl
 have k103 := f_len X0 hx hZ e0 Fk2 k102 (H 2 rfl)
 have k104 := f_icY X0 hx k103 (H 3 rfl) (pc' := 11) (feq (by decide)).2 (by decide)
 have k105 := f_alN X0 hx k104 (H 7 rfl) rfl
 have k106 := f_ilN X0 hx k105 (H 8 rfl) rfl
 have k107 := f_alN X0 hx k106 (H 9 rfl) rfl
 obtain ⟨T108, h108, L108, X108, e108, W108, V108, N108, Z108, k108⟩ := f_ast X0 hx hZ e0 Fk2 N0 ge_ea Z0 k107 (H 10 rfl) rfl rfl (fun cc A q => Sto.ofV A q Ov (Ins.of_exa Fk1 (hww 239 rfl))) (by decide) 1 rfl (lt_b rfl)
 have K109 := kw K0 W108 1 rfl
 have B110 := Fk0.other W108 ne_a1_ea
 have k111 := f_alN X108 hx k108 (H 11 rfl) rfl
 have k112 := f_ilN X108 hx k111 (H 12 rfl) rfl
 have k113 := f_ic X108 hx k112 (H 13 rfl) (v := 1) rfl
 have k114 := f_iadd X108 hx k113 (H 14 rfl) (r := 2) (by decide)
 obtain ⟨T115, h115, L115, X115, e115, W115, B115, N115, Z115, k115⟩ := f_pF X108 hx hZ hown (hww 83 rfl) Via.refl e108 B110 (snLS hw) (Or.inl (hww 84 rfl)) (hww 28 rfl) 2 (by decide) rfl rfl (ty := .int) (by decide) rfl rfl N108 ge_a1 Z108 k114 (H 15 rfl) rfl
 have F116 := V108.other W115 (Ne.symm ne_a1_ea)
 have K117 := kw K109 W115 0 rfl
 exact fin_v X115 hx hrt hlk k115 (H 16 rfl) (by rw [e115]; exact ⟨rfl, N115, K117, B115, F116⟩) (by decide) (by decide)
def Q_add1f (Z : State) (a1 d1 : Addr) (mc : Int32) (ed0 ea : Addr) (ka : ClassId) (h0 : Heap) (n0 : Nat) (v : Option Value) (h : Heap) (L : List Loc) : Prop := v = some (.int (1 : Int32)) ∧ Fr n0 L ∧ Keep h0 h [a1, ea] ∧ OBJ Z h a1 "java/util/ArrayList" lyLS [(.int (mc + (1 : Int32))), (.ref ea), (.int (2 : Int32))] ∧ Arv Z h ea ka (.object "java/lang/Object") (10 : Int32) [(.ref ed0), (.ref d1), .null, .null, .null, .null, .null, .null, .null, .null] .null
theorem add1f (l : Launch) (Z : State) (a0 : Array Value) (hw : HW Z a0) (ws : List Jvm.Cond) (a1 d1 : Addr) (mc : Int32) (ed0 ea : Addr) (ka : ClassId) (h0 : Heap) (n0 : Nat) (Z0 : n0 ≤ h0.size) (Fk0 : OBJ Z h0 a1 "java/util/ArrayList" lyLS [(.int mc), (.ref ea), (.int (1 : Int32))]) (Fk1 : Exa Z h0 d1 "com/example/multinomial/multinomial/search/ScoredDocument") (Fk2 : Arv Z h0 ea ka (.object "java/lang/Object") (10 : Int32) [(.ref ed0), .null, .null, .null, .null, .null, .null, .null, .null, .null] .null) (ge_a1 : n0 ≤ a1) (ge_ea : n0 ≤ ea) (ne_d1_a1 : d1 ≠ a1) (ne_a1_ea : a1 ≠ ea) (ne_d1_ea : d1 ≠ ea) (Ov : Ovr Z ka "java/lang/Object") :
  Met l mn24 jdk_38_method_25_code 2 (some .boolean) ws (rm 1 0 0 15) #[(.ref a1), (.ref d1)] Z h0 (Q_add1f Z a1 d1 mc ed0 ea ka h0 n0) := by
 refine Met.intro (plainFor_of_name pn_java_2futil_2fArrayList) ?_
 intro p e s m below meth c s₁ hx hby hml hZ hown hnm hrt hlk X0 e0
 have N0 := Fr.nil n0
 have hww := @hvw _ _ hw
 have k0 := k_e (p := p) (e := e) (below := below) (s := s₁) (ef_27_RR m a1 d1)
 have K0 := Keep.refl h0 [a1, ea]
 have H := @dch _ _ _ hby D27
 have k101 := f_alN X0 hx k0 (H 0 rfl) rfl
 have k102 := f_dup X0 hx k101 (H 1 rfl) rfl
 obtain ⟨T103, X103, e103, st103⟩ := getF X0 hx hZ hown (host := "") (Or.inl (hww 216 rfl)) (Via.of (hww 217 rfl)) e0 (Fk0.g 0 (v := (.int mc)) (by decide) rfl rfl) (g := (mkF m 2 #[sr a1, sr d1] [vR a1, vR a1])) rfl rfl (H 2 rfl)
 have k104 : Rt p e below T103 (mkF m 5 #[sr a1, sr d1] [vI mc, vR a1]) s₁ m #[(.ref a1), (.ref d1)] 2 := fun t k => k102 t (st103 t k)
 have k105 := f_ic X103 hx k104 (H 3 rfl) (v := 1) rfl
 have k106 := f_iadd X103 hx k105 (H 4 rfl) rfl
 obtain ⟨T107, h107, L107, X107, e107, W107, B107, N107, Z107, k107⟩ := f_pF X103 hx hZ hown (hww 216 rfl) (Via.of (hww 217 rfl)) e103 Fk0 (snLS hw) (Or.inl (hww 47 rfl)) (hww 28 rfl) 0 (by decide) rfl rfl (ty := .int) (by decide) rfl rfl N0 ge_a1 Z0 k106 (H 5 rfl) rfl
 have F108 := Fk2.other W107 (Ne.symm ne_a1_ea)
 have K109 := kw K0 W107 0 rfl
 have k110 := f_alN X107 hx k107 (H 6 rfl) rfl
 have k111 := f_alN X107 hx k110 (H 7 rfl) rfl
 have k112 := f_alN X107 hx k111 (H 8 rfl) rfl
 obtain ⟨T113, X113, e113, k114⟩ := gFs X107 hx hZ hown (hww 49 rfl) e107 (B107.g 1 (v := (.ref ea)) (by decide) rfl rfl) k112 (H 9 rfl)
 have k115 := f_alN X113 hx k114 (H 10 rfl) rfl
 obtain ⟨T116, X116, e116, k117⟩ := gFs X113 hx hZ hown (hww 83 rfl) e113 (B107.g 2 (v := (.int (1 : Int32))) (by decide) rfl rfl) k115 (H 11 rfl)
 obtain ⟨_, T118, L118, X118, hQ118, k118⟩ := c_P (W := 0) X116 hx hZ hown (hww 218 rfl) (hww 219 rfl) (mvT hZ (hww 221 rfl)) (Cond.privateMethod_at (mvP hZ (hww 220 rfl) (args := #[]))) (hww 222 rfl) (hww 29 rfl) (by decide) B107.1 (add1p l Z a0 hw [] a1 d1 (mc + (1 : Int32)) ed0 ea ka h107 n0 Z107 B107 (Fk1.keep K109) F108 ge_a1 ge_ea ne_d1_a1 ne_a1_ea ne_d1_ea Ov) e116 (argsL := [(.ref d1), (.ref ea), (.int (1 : Int32))]) (rest := []) rfl (by rw [hml]; rfl) k117 rfl (H 12 rfl) (lenOf pd__28Ljava_2flang_2fObject_3b_5bLjava_2flang_2fObject_3bI_29V rfl) (b5 rfl)
 obtain ⟨h118, e118⟩ : ∃ h', T118.heap = h' := ⟨_, rfl⟩
 rw [e118] at hQ118
 obtain ⟨rfl, N118q, K118, R118_0, R118_1⟩ := hQ118
 have N119 := Fr.app N107 N118q
 have Z120 : n0 ≤ h118.size := Nat.le_trans Z107 K118.1
 have K121 := Keep.trans K109 K118 (allS (oL 0 rfl) (allS (oL 1 rfl) all0))
 have k122 := f_ic X118 hx k118 (H 13 rfl) (v := 1) rfl
 exact fin_r X118 hx (w := (.int (1 : Int32))) hrt hlk rfl (Or.inl ⟨rfl, Or.inr (Or.inl rfl), _, rfl⟩) k122 (H 14 rfl) (by rw [e118]; exact ⟨rfl, N119, K121, R118_0, R118_1⟩) (by decide) (by decide)
def Q_add2p (Z : State) (a1 d1 : Addr) (mc : Int32) (ed0 ed1 ea : Addr) (ka : ClassId) (h0 : Heap) (n0 : Nat) (v : Option Value) (h : Heap) (L : List Loc) : Prop := v = none ∧ Fr n0 L ∧ Keep h0 h [a1, ea] ∧ OBJ Z h a1 "java/util/ArrayList" lyLS [(.int mc), (.ref ea), (.int (3 : Int32))] ∧ Arv Z h ea ka (.object "java/lang/Object") (10 : Int32) [(.ref ed0), (.ref ed1), (.ref d1), .null, .null, .null, .null, .null, .null, .null] .null
theorem add2p (l : Launch) (Z : State) (a0 : Array Value) (hw : HW Z a0) (ws : List Jvm.Cond) (a1 d1 : Addr) (mc : Int32) (ed0 ed1 ea : Addr) (ka : ClassId) (h0 : Heap) (n0 : Nat) (Z0 : n0 ≤ h0.size) (Fk0 : OBJ Z h0 a1 "java/util/ArrayList" lyLS [(.int mc), (.ref ea), (.int (2 : Int32))]) (Fk1 : Exa Z h0 d1 "com/example/multinomial/multinomial/search/ScoredDocument") (Fk2 : Arv Z h0 ea ka (.object "java/lang/Object") (10 : Int32) [(.ref ed0), (.ref ed1), .null, .null, .null, .null, .null, .null, .null, .null] .null) (ge_a1 : n0 ≤ a1) (ge_ea : n0 ≤ ea) (ne_d1_a1 : d1 ≠ a1) (ne_a1_ea : a1 ≠ ea) (ne_d1_ea : d1 ≠ ea) (Ov : Ovr Z ka "java/lang/Object") :
  Met l mn23 jdk_38_method_24_code 4 none ws (rm 0 0 0 0) #[(.ref a1), (.ref d1), (.ref ea), (.int (2 : Int32))] Z h0 (Q_add2p Z a1 d1 mc ed0 ed1 ea ka h0 n0) := by
 refine Met.intro (plainFor_of_name pn_java_2futil_2fArrayList) ?_
 intro p e s m below meth c s₁ hx hby hml hZ hown hnm hrt hlk X0 e0
 have N0 := Fr.nil n0
 have hww := @hvw _ _ hw
 have k0 := k_e (p := p) (e := e) (below := below) (s := s₁) (ef_28_RRRI m a1 d1 ea (2 : Int32))
 have K0 := Keep.refl h0 [a1, ea]
 have H := @dch _ _ _ hby D28
 have k101 := f_ilN X0 hx k0 (H 0 rfl) rfl
 have k102 := f_alN X0 hx k101 (H 1 rfl) rfl
 have k103 := f_len X0 hx hZ e0 Fk2 k102 (H 2 rfl)
 have k104 := f_icY X0 hx k103 (H 3 rfl) (pc' := 11) (feq (by decide)).2 (by decide)
 have k105 := f_alN X0 hx k104 (H 7 rfl) rfl
 have k106 := f_ilN X0 hx k105 (H 8 rfl) rfl
 have k107 := f_alN X0 hx k106 (H 9 rfl) rfl
 obtain ⟨T108, h108, L108, X108, e108, W108, V108, N108, Z108, k108⟩ := f_ast X0 hx hZ e0 Fk2 N0 ge_ea Z0 k107 (H 10 rfl) rfl rfl (fun cc A q => Sto.ofV A q Ov (Ins.of_exa Fk1 (hww 239 rfl))) (by decide) 2 rfl (lt_b rfl)
 have K109 := kw K0 W108 1 rfl
 have B110 := Fk0.other W108 ne_a1_ea
 have k111 := f_alN X108 hx k108 (H 11 rfl) rfl
 have k112 := f_ilN X108 hx k111 (H 12 rfl) rfl
 have k113 := f_ic X108 hx k112 (H 13 rfl) (v := 1) rfl
 have k114 := f_iadd X108 hx k113 (H 14 rfl) (r := 3) (by decide)
 obtain ⟨T115, h115, L115, X115, e115, W115, B115, N115, Z115, k115⟩ := f_pF X108 hx hZ hown (hww 83 rfl) Via.refl e108 B110 (snLS hw) (Or.inl (hww 84 rfl)) (hww 28 rfl) 2 (by decide) rfl rfl (ty := .int) (by decide) rfl rfl N108 ge_a1 Z108 k114 (H 15 rfl) rfl
 have F116 := V108.other W115 (Ne.symm ne_a1_ea)
 have K117 := kw K109 W115 0 rfl
 exact fin_v X115 hx hrt hlk k115 (H 16 rfl) (by rw [e115]; exact ⟨rfl, N115, K117, B115, F116⟩) (by decide) (by decide)
def Q_add2f (Z : State) (a1 d1 : Addr) (mc : Int32) (ed0 ed1 ea : Addr) (ka : ClassId) (h0 : Heap) (n0 : Nat) (v : Option Value) (h : Heap) (L : List Loc) : Prop := v = some (.int (1 : Int32)) ∧ Fr n0 L ∧ Keep h0 h [a1, ea] ∧ OBJ Z h a1 "java/util/ArrayList" lyLS [(.int (mc + (1 : Int32))), (.ref ea), (.int (3 : Int32))] ∧ Arv Z h ea ka (.object "java/lang/Object") (10 : Int32) [(.ref ed0), (.ref ed1), (.ref d1), .null, .null, .null, .null, .null, .null, .null] .null
theorem add2f (l : Launch) (Z : State) (a0 : Array Value) (hw : HW Z a0) (ws : List Jvm.Cond) (a1 d1 : Addr) (mc : Int32) (ed0 ed1 ea : Addr) (ka : ClassId) (h0 : Heap) (n0 : Nat) (Z0 : n0 ≤ h0.size) (Fk0 : OBJ Z h0 a1 "java/util/ArrayList" lyLS [(.int mc), (.ref ea), (.int (2 : Int32))]) (Fk1 : Exa Z h0 d1 "com/example/multinomial/multinomial/search/ScoredDocument") (Fk2 : Arv Z h0 ea ka (.object "java/lang/Object") (10 : Int32) [(.ref ed0), (.ref ed1), .null, .null, .null, .null, .null, .null, .null, .null] .null) (ge_a1 : n0 ≤ a1) (ge_ea : n0 ≤ ea) (ne_d1_a1 : d1 ≠ a1) (ne_a1_ea : a1 ≠ ea) (ne_d1_ea : d1 ≠ ea) (Ov : Ovr Z ka "java/lang/Object") :
  Met l mn24 jdk_38_method_25_code 2 (some .boolean) ws (rm 1 0 0 15) #[(.ref a1), (.ref d1)] Z h0 (Q_add2f Z a1 d1 mc ed0 ed1 ea ka h0 n0) := by
 refine Met.intro (plainFor_of_name pn_java_2futil_2fArrayList) ?_
 intro p e s m below meth c s₁ hx hby hml hZ hown hnm hrt hlk X0 e0
 have N0 := Fr.nil n0
 have hww := @hvw _ _ hw
 have k0 := k_e (p := p) (e := e) (below := below) (s := s₁) (ef_27_RR m a1 d1)
 have K0 := Keep.refl h0 [a1, ea]
 have H := @dch _ _ _ hby D27
 have k101 := f_alN X0 hx k0 (H 0 rfl) rfl
 have k102 := f_dup X0 hx k101 (H 1 rfl) rfl
 obtain ⟨T103, X103, e103, st103⟩ := getF X0 hx hZ hown (host := "") (Or.inl (hww 216 rfl)) (Via.of (hww 217 rfl)) e0 (Fk0.g 0 (v := (.int mc)) (by decide) rfl rfl) (g := (mkF m 2 #[sr a1, sr d1] [vR a1, vR a1])) rfl rfl (H 2 rfl)
 have k104 : Rt p e below T103 (mkF m 5 #[sr a1, sr d1] [vI mc, vR a1]) s₁ m #[(.ref a1), (.ref d1)] 2 := fun t k => k102 t (st103 t k)
 have k105 := f_ic X103 hx k104 (H 3 rfl) (v := 1) rfl
 have k106 := f_iadd X103 hx k105 (H 4 rfl) rfl
 obtain ⟨T107, h107, L107, X107, e107, W107, B107, N107, Z107, k107⟩ := f_pF X103 hx hZ hown (hww 216 rfl) (Via.of (hww 217 rfl)) e103 Fk0 (snLS hw) (Or.inl (hww 47 rfl)) (hww 28 rfl) 0 (by decide) rfl rfl (ty := .int) (by decide) rfl rfl N0 ge_a1 Z0 k106 (H 5 rfl) rfl
 have F108 := Fk2.other W107 (Ne.symm ne_a1_ea)
 have K109 := kw K0 W107 0 rfl
 have k110 := f_alN X107 hx k107 (H 6 rfl) rfl
 have k111 := f_alN X107 hx k110 (H 7 rfl) rfl
 have k112 := f_alN X107 hx k111 (H 8 rfl) rfl
 obtain ⟨T113, X113, e113, k114⟩ := gFs X107 hx hZ hown (hww 49 rfl) e107 (B107.g 1 (v := (.ref ea)) (by decide) rfl rfl) k112 (H 9 rfl)
 have k115 := f_alN X113 hx k114 (H 10 rfl) rfl
 obtain ⟨T116, X116, e116, k117⟩ := gFs X113 hx hZ hown (hww 83 rfl) e113 (B107.g 2 (v := (.int (2 : Int32))) (by decide) rfl rfl) k115 (H 11 rfl)
 obtain ⟨_, T118, L118, X118, hQ118, k118⟩ := c_P (W := 0) X116 hx hZ hown (hww 218 rfl) (hww 219 rfl) (mvT hZ (hww 221 rfl)) (Cond.privateMethod_at (mvP hZ (hww 220 rfl) (args := #[]))) (hww 222 rfl) (hww 29 rfl) (by decide) B107.1 (add2p l Z a0 hw [] a1 d1 (mc + (1 : Int32)) ed0 ed1 ea ka h107 n0 Z107 B107 (Fk1.keep K109) F108 ge_a1 ge_ea ne_d1_a1 ne_a1_ea ne_d1_ea Ov) e116 (argsL := [(.ref d1), (.ref ea), (.int (2 : Int32))]) (rest := []) rfl (by rw [hml]; rfl) k117 rfl (H 12 rfl) (lenOf pd__28Ljava_2flang_2fObject_3b_5bLjava_2flang_2fObject_3bI_29V rfl) (b5 rfl)
 obtain ⟨h118, e118⟩ : ∃ h', T118.heap = h' := ⟨_, rfl⟩
 rw [e118] at hQ118
 obtain ⟨rfl, N118q, K118, R118_0, R118_1⟩ := hQ118
 have N119 := Fr.app N107 N118q
 have Z120 : n0 ≤ h118.size := Nat.le_trans Z107 K118.1
 have K121 := Keep.trans K109 K118 (allS (oL 0 rfl) (allS (oL 1 rfl) all0))
 have k122 := f_ic X118 hx k118 (H 13 rfl) (v := 1) rfl
 exact fin_r X118 hx (w := (.int (1 : Int32))) hrt hlk rfl (Or.inl ⟨rfl, Or.inr (Or.inl rfl), _, rfl⟩) k122 (H 14 rfl) (by rw [e118]; exact ⟨rfl, N119, K121, R118_0, R118_1⟩) (by decide) (by decide)
theorem ef_12_R (m : MethodId) (x0 : Addr) : entryFrame m #[(.ref x0)] 1 = mkF m 0 #[.val (.ref x0)] [] := by first | (simp [entryFrame, mkF, argsToLocals, Value.category]; done) | rfl
def Q_asz (Z : State) (a1 : Addr) (p1 : Int32) (h0 : Heap) (n0 : Nat) (v : Option Value) (h : Heap) (L : List Loc) : Prop := v = some (.int p1) ∧ Fr n0 L ∧ h = h0
theorem asz (l : Launch) (Z : State) (a0 : Array Value) (hw : HW Z a0) (ws : List Jvm.Cond) (a1 : Addr) (p1 : Int32) (h0 : Heap) (n0 : Nat) (Z0 : n0 ≤ h0.size) (Fk0 : Fld Z h0 a1 "java/util/ArrayList" "size" "I" (.int p1)) :
  Met l mn25 jdk_38_method_8_code 1 (some .int) ws (rm 0 0 0 0) #[(.ref a1)] Z h0 (Q_asz Z a1 p1 h0 n0) := by
 refine Met.intro (plainFor_of_name pn_java_2futil_2fArrayList) ?_
 intro p e s m below meth c s₁ hx hby hml hZ hown hnm hrt hlk X0 e0
 have N0 := Fr.nil n0
 have hww := @hvw _ _ hw
 have k0 := k_e (p := p) (e := e) (below := below) (s := s₁) (ef_12_R m a1)
 have H := @dch _ _ _ hby D12
 have k101 := f_alN X0 hx k0 (H 0 rfl) rfl
 obtain ⟨T102, X102, e102, k103⟩ := gFs X0 hx hZ hown (hww 83 rfl) e0 Fk0 k101 (H 1 rfl)
 exact fin_r X102 hx (w := (.int p1)) hrt hlk rfl (Or.inl ⟨rfl, Or.inl rfl, _, rfl⟩) k103 (H 2 rfl) (by rw [e102]; exact ⟨rfl, N0, rfl⟩) (by decide) (by decide)
theorem ef_45_IIn (m : MethodId) (x0 : Int32) (x1 : Int32) : entryFrame m #[(.int x0), (.int x1), .null] 3 = mkF m 0 #[.val (.int x0), .val (.int x1), .val .null] [] := by first | (simp [entryFrame, mkF, argsToLocals, Value.category]; done) | rfl
def Q_pci (Z : State) (p1 p2 : Int32) (h0 : Heap) (n0 : Nat) (v : Option Value) (h : Heap) (L : List Loc) : Prop := v = some (.int p1) ∧ Fr n0 L ∧ h = h0
theorem pn_jdk_2finternal_2futil_2fPreconditions : plainName "jdk/internal/util/Preconditions" = true := by first | (simp [plainName, overriddenIn]; done) | decide +kernel
theorem pci (l : Launch) (Z : State) (a0 : Array Value) (hw : HW Z a0) (ws : List Jvm.Cond) (p1 p2 : Int32) (h0 : Heap) (n0 : Nat) (Z0 : n0 ≤ h0.size) (hi0 : ¬ (p1 < (0 : Int32))) (hi1 : p1 < p2) :
  Met l mn26 jdk_41_method_11_code 3 (some .int) ws (rm 0 0 0 0) #[(.int p1), (.int p2), .null] Z h0 (Q_pci Z p1 p2 h0 n0) := by
 refine Met.intro (plainFor_of_name pn_jdk_2finternal_2futil_2fPreconditions) ?_
 intro p e s m below meth c s₁ hx hby hml hZ hown hnm hrt hlk X0 e0
 have N0 := Fr.nil n0
 have hww := @hvw _ _ hw
 have k0 := k_e (p := p) (e := e) (below := below) (s := s₁) (ef_45_IIn m p1 p2)
 have H := @dch _ _ _ hby D45
 have k101 := f_ilN X0 hx k0 (H 0 rfl) rfl
 have k102 := f_ifN X0 hx k101 (H 1 rfl) ((if0 _ _).trans (flt hi0).1)
 have k103 := f_ilN X0 hx k102 (H 2 rfl) rfl
 have k104 := f_ilN X0 hx k103 (H 3 rfl) rfl
 have k105 := f_icY X0 hx k104 (H 4 rfl) (pc' := 16) (tlt hi1).1 (by decide)
 have k106 := f_ilN X0 hx k105 (H 5 rfl) rfl
 exact fin_r X0 hx (w := (.int p1)) hrt hlk rfl (Or.inl ⟨rfl, Or.inl rfl, _, rfl⟩) k106 (H 6 rfl) (by rw [e0]; exact ⟨rfl, N0, rfl⟩) (by decide) (by decide)
theorem ef_44_II (m : MethodId) (x0 : Int32) (x1 : Int32) : entryFrame m #[(.int x0), (.int x1)] 2 = mkF m 0 #[.val (.int x0), .val (.int x1)] [] := by first | (simp [entryFrame, mkF, argsToLocals, Value.category]; done) | rfl
theorem pd__28IILjava_2futil_2ffunction_2fBiFunction_3b_29I : parseMethodDescriptor "(IILjava/util/function/BiFunction;)I" = some ⟨[.int, .int, (.object "java/util/function/BiFunction")], some .int⟩ := by decide +kernel
def Q_oci (Z : State) (p1 p2 : Int32) (h0 : Heap) (n0 : Nat) (v : Option Value) (h : Heap) (L : List Loc) : Prop := v = some (.int p1) ∧ Fr n0 L ∧ h = h0
theorem pn_java_2futil_2fObjects : plainName "java/util/Objects" = true := by first | (simp [plainName, overriddenIn]; done) | decide +kernel
theorem oci (l : Launch) (Z : State) (a0 : Array Value) (hw : HW Z a0) (ws : List Jvm.Cond) (p1 p2 : Int32) (h0 : Heap) (n0 : Nat) (Z0 : n0 ≤ h0.size) (hi0 : ¬ (p1 < (0 : Int32))) (hi1 : p1 < p2) :
  Met l mn27 jdk_31_method_17_code 2 (some .int) ws (rm 1 0 0 14) #[(.int p1), (.int p2)] Z h0 (Q_oci Z p1 p2 h0 n0) := by
 refine Met.intro (plainFor_of_name pn_java_2futil_2fObjects) ?_
 intro p e s m below meth c s₁ hx hby hml hZ hown hnm hrt hlk X0 e0
 have N0 := Fr.nil n0
 have hww := @hvw _ _ hw
 have k0 := k_e (p := p) (e := e) (below := below) (s := s₁) (ef_44_II m p1 p2)
 have H := @dch _ _ _ hby D44
 have k101 := f_ilN X0 hx k0 (H 0 rfl) rfl
 have k102 := f_ilN X0 hx k101 (H 1 rfl) rfl
 have k103 := f_an X0 hx k102 (H 2 rfl)
 obtain ⟨_, T104, L104, X104, hQ104, k104⟩ := c_S (W := 0) X0 hx hZ hown (hww 326 rfl) (hww 327 rfl) (hww 328 rfl) (hww 329 rfl) (by decide) (pci l Z a0 hw [] p1 p2 h0 n0 Z0 hi0 hi1) e0 (argsL := [(.int p1), (.int p2), .null]) (rest := []) rfl (by rw [hml]; rfl) k103 rfl (H 3 rfl) (lenOf pd__28IILjava_2futil_2ffunction_2fBiFunction_3b_29I rfl) (b5 rfl)
 obtain ⟨rfl, N104q, e104⟩ := hQ104
 have N105 := Fr.app N0 N104q
 exact fin_r X104 hx (w := (.int p1)) hrt hlk rfl (Or.inl ⟨rfl, Or.inl rfl, _, rfl⟩) k104 (H 4 rfl) (by rw [e104]; exact ⟨rfl, N105, rfl⟩) (by decide) (by decide)
theorem ef_46_RI (m : MethodId) (x0 : Addr) (x1 : Int32) : entryFrame m #[(.ref x0), (.int x1)] 2 = mkF m 0 #[.val (.ref x0), .val (.int x1)] [] := by first | (simp [entryFrame, mkF, argsToLocals, Value.category]; done) | rfl
def Q_eld0 (Z : State) (a1 ea : Addr) (ka : ClassId) (ed0 : Addr) (v1 v2 : Value) (h0 : Heap) (n0 : Nat) (v : Option Value) (h : Heap) (L : List Loc) : Prop := v = some (.ref ed0) ∧ Fr n0 L ∧ h = h0
theorem eld0 (l : Launch) (Z : State) (a0 : Array Value) (hw : HW Z a0) (ws : List Jvm.Cond) (a1 ea : Addr) (ka : ClassId) (ed0 : Addr) (v1 v2 : Value) (h0 : Heap) (n0 : Nat) (Z0 : n0 ≤ h0.size) (Fk0 : Fld Z h0 a1 "java/util/ArrayList" "elementData" "[Ljava/lang/Object;" (.ref ea)) (Fk1 : Arv Z h0 ea ka (.object "java/lang/Object") (10 : Int32) [(.ref ed0), v1, v2, .null, .null, .null, .null, .null, .null, .null] .null) :
  Met l mn28 jdk_38_method_18_code 2 (some (.object "java/lang/Object")) ws (rm 0 0 0 0) #[(.ref a1), zI] Z h0 (Q_eld0 Z a1 ea ka ed0 v1 v2 h0 n0) := by
 refine Met.intro (plainFor_of_name pn_java_2futil_2fArrayList) ?_
 intro p e s m below meth c s₁ hx hby hml hZ hown hnm hrt hlk X0 e0
 have N0 := Fr.nil n0
 have hww := @hvw _ _ hw
 have k0 := k_e (p := p) (e := e) (below := below) (s := s₁) (ef_46_RI m a1 (0 : Int32))
 have H := @dch _ _ _ hby D46
 have k101 := f_alN X0 hx k0 (H 0 rfl) rfl
 obtain ⟨T102, X102, e102, k103⟩ := gFs X0 hx hZ hown (hww 49 rfl) e0 Fk0 k101 (H 1 rfl)
 have k104 := f_ilN X102 hx k103 (H 2 rfl) rfl
 have k105 := f_aal X102 hx hZ e102 Fk1 k104 (H 3 rfl) (v := (.ref ed0)) rfl (by decide) rfl
 exact fin_r X102 hx (w := (.ref ed0)) hrt hlk rfl (Or.inr (Or.inr (Or.inr (Or.inr ⟨rfl, rfl, rfl⟩)))) k105 (H 4 rfl) (by rw [e102]; exact ⟨rfl, N0, rfl⟩) (by decide) (by decide)
theorem ef_43_RI (m : MethodId) (x0 : Addr) (x1 : Int32) : entryFrame m #[(.ref x0), (.int x1)] 2 = mkF m 0 #[.val (.ref x0), .val (.int x1)] [] := by first | (simp [entryFrame, mkF, argsToLocals, Value.category]; done) | rfl
theorem pd__28I_29Ljava_2flang_2fObject_3b : parseMethodDescriptor "(I)Ljava/lang/Object;" = some ⟨[.int], some (.object "java/lang/Object")⟩ := by decide +kernel
def Q_aget0 (Z : State) (a1 ea : Addr) (ka : ClassId) (ed0 : Addr) (v1 v2 : Value) (p2 : Int32) (h0 : Heap) (n0 : Nat) (v : Option Value) (h : Heap) (L : List Loc) : Prop := v = some (.ref ed0) ∧ Fr n0 L ∧ h = h0
theorem aget0 (l : Launch) (Z : State) (a0 : Array Value) (hw : HW Z a0) (ws : List Jvm.Cond) (a1 ea : Addr) (ka : ClassId) (ed0 : Addr) (v1 v2 : Value) (p2 : Int32) (h0 : Heap) (n0 : Nat) (Z0 : n0 ≤ h0.size) (Fk0 : Exa Z h0 a1 "java/util/ArrayList") (Fk1 : Fld Z h0 a1 "java/util/ArrayList" "elementData" "[Ljava/lang/Object;" (.ref ea)) (Fk2 : Fld Z h0 a1 "java/util/ArrayList" "size" "I" (.int p2)) (Fk3 : Arv Z h0 ea ka (.object "java/lang/Object") (10 : Int32) [(.ref ed0), v1, v2, .null, .null, .null, .null, .null, .null, .null] .null) (hi1 : (0 : Int32) < p2) :
  Met l mn29 jdk_38_method_20_code 2 (some (.object "java/lang/Object")) ws (rm 2 0 0 27) #[(.ref a1), zI] Z h0 (Q_aget0 Z a1 ea ka ed0 v1 v2 p2 h0 n0) := by
 refine Met.intro (plainFor_of_name pn_java_2futil_2fArrayList) ?_
 intro p e s m below meth c s₁ hx hby hml hZ hown hnm hrt hlk X0 e0
 have N0 := Fr.nil n0
 have hww := @hvw _ _ hw
 have k0 := k_e (p := p) (e := e) (below := below) (s := s₁) (ef_43_RI m a1 (0 : Int32))
 have H := @dch _ _ _ hby D43
 have k101 := f_ilN X0 hx k0 (H 0 rfl) rfl
 have k102 := f_alN X0 hx k101 (H 1 rfl) rfl
 obtain ⟨T103, X103, e103, k104⟩ := gFs X0 hx hZ hown (hww 83 rfl) e0 Fk2 k102 (H 2 rfl)
 obtain ⟨_, T105, L105, X105, hQ105, k105⟩ := c_S (W := 0) X103 hx hZ hown (hww 322 rfl) (hww 323 rfl) (hww 324 rfl) (hww 325 rfl) (by decide) (oci l Z a0 hw [] (0 : Int32) p2 h0 n0 Z0 (by decide) hi1) e103 (argsL := [zI, (.int p2)]) (rest := []) rfl (by rw [hml]; rfl) k104 rfl (H 3 rfl) (lenOf pd__28II_29I rfl) (b5 rfl)
 obtain ⟨rfl, N105q, e105⟩ := hQ105
 have N106 := Fr.app N0 N105q
 have k107 := f_pop X105 hx k105 (H 4 rfl) rfl
 have k108 := f_alN X105 hx k107 (H 5 rfl) rfl
 have k109 := f_ilN X105 hx k108 (H 6 rfl) rfl
 obtain ⟨_, T110, L110, X110, hQ110, k110⟩ := c_V (W := 0) (x := mn28) X105 hx hZ hown (hww 330 rfl) (hww 331 rfl) (notFace_of_selects (args := #[]) (mvT hZ (hww 333 rfl))) (hww 333 rfl) (hww 332 rfl) (hww 334 rfl) (hww 29 rfl) (by decide) Fk0 (eld0 l Z a0 hw [] a1 ea ka ed0 v1 v2 h0 n0 Z0 Fk1 Fk3) e105 (argsL := [zI]) (rest := []) rfl (by rw [hml]; rfl) k109 rfl (H 7 rfl) (lenOf pd__28I_29Ljava_2flang_2fObject_3b rfl) (b5 rfl)
 obtain ⟨rfl, N110q, e110⟩ := hQ110
 have N111 := Fr.app N106 N110q
 exact fin_r X110 hx (w := (.ref ed0)) hrt hlk rfl (Or.inr (Or.inr (Or.inr (Or.inr ⟨rfl, rfl, rfl⟩)))) k110 (H 8 rfl) (by rw [e110]; exact ⟨rfl, N111, rfl⟩) (by decide) (by decide)
def Q_eld1 (Z : State) (a1 ea : Addr) (ka : ClassId) (ed0 ed1 : Addr) (v2 : Value) (h0 : Heap) (n0 : Nat) (v : Option Value) (h : Heap) (L : List Loc) : Prop := v = some (.ref ed1) ∧ Fr n0 L ∧ h = h0
theorem eld1 (l : Launch) (Z : State) (a0 : Array Value) (hw : HW Z a0) (ws : List Jvm.Cond) (a1 ea : Addr) (ka : ClassId) (ed0 ed1 : Addr) (v2 : Value) (h0 : Heap) (n0 : Nat) (Z0 : n0 ≤ h0.size) (Fk0 : Fld Z h0 a1 "java/util/ArrayList" "elementData" "[Ljava/lang/Object;" (.ref ea)) (Fk1 : Arv Z h0 ea ka (.object "java/lang/Object") (10 : Int32) [(.ref ed0), (.ref ed1), v2, .null, .null, .null, .null, .null, .null, .null] .null) :
  Met l mn28 jdk_38_method_18_code 2 (some (.object "java/lang/Object")) ws (rm 0 0 0 0) #[(.ref a1), (.int (1 : Int32))] Z h0 (Q_eld1 Z a1 ea ka ed0 ed1 v2 h0 n0) := by
 refine Met.intro (plainFor_of_name pn_java_2futil_2fArrayList) ?_
 intro p e s m below meth c s₁ hx hby hml hZ hown hnm hrt hlk X0 e0
 have N0 := Fr.nil n0
 have hww := @hvw _ _ hw
 have k0 := k_e (p := p) (e := e) (below := below) (s := s₁) (ef_46_RI m a1 (1 : Int32))
 have H := @dch _ _ _ hby D46
 have k101 := f_alN X0 hx k0 (H 0 rfl) rfl
 obtain ⟨T102, X102, e102, k103⟩ := gFs X0 hx hZ hown (hww 49 rfl) e0 Fk0 k101 (H 1 rfl)
 have k104 := f_ilN X102 hx k103 (H 2 rfl) rfl
 have k105 := f_aal X102 hx hZ e102 Fk1 k104 (H 3 rfl) (v := (.ref ed1)) rfl (by decide) rfl
 exact fin_r X102 hx (w := (.ref ed1)) hrt hlk rfl (Or.inr (Or.inr (Or.inr (Or.inr ⟨rfl, rfl, rfl⟩)))) k105 (H 4 rfl) (by rw [e102]; exact ⟨rfl, N0, rfl⟩) (by decide) (by decide)
def Q_aget1 (Z : State) (a1 ea : Addr) (ka : ClassId) (ed0 ed1 : Addr) (v2 : Value) (p2 : Int32) (h0 : Heap) (n0 : Nat) (v : Option Value) (h : Heap) (L : List Loc) : Prop := v = some (.ref ed1) ∧ Fr n0 L ∧ h = h0
theorem aget1 (l : Launch) (Z : State) (a0 : Array Value) (hw : HW Z a0) (ws : List Jvm.Cond) (a1 ea : Addr) (ka : ClassId) (ed0 ed1 : Addr) (v2 : Value) (p2 : Int32) (h0 : Heap) (n0 : Nat) (Z0 : n0 ≤ h0.size) (Fk0 : Exa Z h0 a1 "java/util/ArrayList") (Fk1 : Fld Z h0 a1 "java/util/ArrayList" "elementData" "[Ljava/lang/Object;" (.ref ea)) (Fk2 : Fld Z h0 a1 "java/util/ArrayList" "size" "I" (.int p2)) (Fk3 : Arv Z h0 ea ka (.object "java/lang/Object") (10 : Int32) [(.ref ed0), (.ref ed1), v2, .null, .null, .null, .null, .null, .null, .null] .null) (hi1 : (1 : Int32) < p2) :
  Met l mn29 jdk_38_method_20_code 2 (some (.object "java/lang/Object")) ws (rm 2 0 0 27) #[(.ref a1), (.int (1 : Int32))] Z h0 (Q_aget1 Z a1 ea ka ed0 ed1 v2 p2 h0 n0) := by
 refine Met.intro (plainFor_of_name pn_java_2futil_2fArrayList) ?_
 intro p e s m below meth c s₁ hx hby hml hZ hown hnm hrt hlk X0 e0
 have N0 := Fr.nil n0
 have hww := @hvw _ _ hw
 have k0 := k_e (p := p) (e := e) (below := below) (s := s₁) (ef_43_RI m a1 (1 : Int32))
 have H := @dch _ _ _ hby D43
 have k101 := f_ilN X0 hx k0 (H 0 rfl) rfl
 have k102 := f_alN X0 hx k101 (H 1 rfl) rfl
 obtain ⟨T103, X103, e103, k104⟩ := gFs X0 hx hZ hown (hww 83 rfl) e0 Fk2 k102 (H 2 rfl)
 obtain ⟨_, T105, L105, X105, hQ105, k105⟩ := c_S (W := 0) X103 hx hZ hown (hww 322 rfl) (hww 323 rfl) (hww 324 rfl) (hww 325 rfl) (by decide) (oci l Z a0 hw [] (1 : Int32) p2 h0 n0 Z0 (by decide) hi1) e103 (argsL := [(.int (1 : Int32)), (.int p2)]) (rest := []) rfl (by rw [hml]; rfl) k104 rfl (H 3 rfl) (lenOf pd__28II_29I rfl) (b5 rfl)
 obtain ⟨rfl, N105q, e105⟩ := hQ105
 have N106 := Fr.app N0 N105q
 have k107 := f_pop X105 hx k105 (H 4 rfl) rfl
 have k108 := f_alN X105 hx k107 (H 5 rfl) rfl
 have k109 := f_ilN X105 hx k108 (H 6 rfl) rfl
 obtain ⟨_, T110, L110, X110, hQ110, k110⟩ := c_V (W := 0) (x := mn28) X105 hx hZ hown (hww 330 rfl) (hww 331 rfl) (notFace_of_selects (args := #[]) (mvT hZ (hww 333 rfl))) (hww 333 rfl) (hww 332 rfl) (hww 334 rfl) (hww 29 rfl) (by decide) Fk0 (eld1 l Z a0 hw [] a1 ea ka ed0 ed1 v2 h0 n0 Z0 Fk1 Fk3) e105 (argsL := [(.int (1 : Int32))]) (rest := []) rfl (by rw [hml]; rfl) k109 rfl (H 7 rfl) (lenOf pd__28I_29Ljava_2flang_2fObject_3b rfl) (b5 rfl)
 obtain ⟨rfl, N110q, e110⟩ := hQ110
 have N111 := Fr.app N106 N110q
 exact fin_r X110 hx (w := (.ref ed1)) hrt hlk rfl (Or.inr (Or.inr (Or.inr (Or.inr ⟨rfl, rfl, rfl⟩)))) k110 (H 8 rfl) (by rw [e110]; exact ⟨rfl, N111, rfl⟩) (by decide) (by decide)
def Q_eld2 (Z : State) (a1 ea : Addr) (ka : ClassId) (ed0 ed1 ed2 : Addr) (h0 : Heap) (n0 : Nat) (v : Option Value) (h : Heap) (L : List Loc) : Prop := v = some (.ref ed2) ∧ Fr n0 L ∧ h = h0
theorem eld2 (l : Launch) (Z : State) (a0 : Array Value) (hw : HW Z a0) (ws : List Jvm.Cond) (a1 ea : Addr) (ka : ClassId) (ed0 ed1 ed2 : Addr) (h0 : Heap) (n0 : Nat) (Z0 : n0 ≤ h0.size) (Fk0 : Fld Z h0 a1 "java/util/ArrayList" "elementData" "[Ljava/lang/Object;" (.ref ea)) (Fk1 : Arv Z h0 ea ka (.object "java/lang/Object") (10 : Int32) [(.ref ed0), (.ref ed1), (.ref ed2), .null, .null, .null, .null, .null, .null, .null] .null) :
  Met l mn28 jdk_38_method_18_code 2 (some (.object "java/lang/Object")) ws (rm 0 0 0 0) #[(.ref a1), (.int (2 : Int32))] Z h0 (Q_eld2 Z a1 ea ka ed0 ed1 ed2 h0 n0) := by
 refine Met.intro (plainFor_of_name pn_java_2futil_2fArrayList) ?_
 intro p e s m below meth c s₁ hx hby hml hZ hown hnm hrt hlk X0 e0
 have N0 := Fr.nil n0
 have hww := @hvw _ _ hw
 have k0 := k_e (p := p) (e := e) (below := below) (s := s₁) (ef_46_RI m a1 (2 : Int32))
 have H := @dch _ _ _ hby D46
 have k101 := f_alN X0 hx k0 (H 0 rfl) rfl
 obtain ⟨T102, X102, e102, k103⟩ := gFs X0 hx hZ hown (hww 49 rfl) e0 Fk0 k101 (H 1 rfl)
 have k104 := f_ilN X102 hx k103 (H 2 rfl) rfl
 have k105 := f_aal X102 hx hZ e102 Fk1 k104 (H 3 rfl) (v := (.ref ed2)) rfl (by decide) rfl
 exact fin_r X102 hx (w := (.ref ed2)) hrt hlk rfl (Or.inr (Or.inr (Or.inr (Or.inr ⟨rfl, rfl, rfl⟩)))) k105 (H 4 rfl) (by rw [e102]; exact ⟨rfl, N0, rfl⟩) (by decide) (by decide)
def Q_aget2 (Z : State) (a1 ea : Addr) (ka : ClassId) (ed0 ed1 ed2 : Addr) (p2 : Int32) (h0 : Heap) (n0 : Nat) (v : Option Value) (h : Heap) (L : List Loc) : Prop := v = some (.ref ed2) ∧ Fr n0 L ∧ h = h0
theorem aget2 (l : Launch) (Z : State) (a0 : Array Value) (hw : HW Z a0) (ws : List Jvm.Cond) (a1 ea : Addr) (ka : ClassId) (ed0 ed1 ed2 : Addr) (p2 : Int32) (h0 : Heap) (n0 : Nat) (Z0 : n0 ≤ h0.size) (Fk0 : Exa Z h0 a1 "java/util/ArrayList") (Fk1 : Fld Z h0 a1 "java/util/ArrayList" "elementData" "[Ljava/lang/Object;" (.ref ea)) (Fk2 : Fld Z h0 a1 "java/util/ArrayList" "size" "I" (.int p2)) (Fk3 : Arv Z h0 ea ka (.object "java/lang/Object") (10 : Int32) [(.ref ed0), (.ref ed1), (.ref ed2), .null, .null, .null, .null, .null, .null, .null] .null) (hi1 : (2 : Int32) < p2) :
  Met l mn29 jdk_38_method_20_code 2 (some (.object "java/lang/Object")) ws (rm 2 0 0 27) #[(.ref a1), (.int (2 : Int32))] Z h0 (Q_aget2 Z a1 ea ka ed0 ed1 ed2 p2 h0 n0) := by
 refine Met.intro (plainFor_of_name pn_java_2futil_2fArrayList) ?_
 intro p e s m below meth c s₁ hx hby hml hZ hown hnm hrt hlk X0 e0
 have N0 := Fr.nil n0
 have hww := @hvw _ _ hw
 have k0 := k_e (p := p) (e := e) (below := below) (s := s₁) (ef_43_RI m a1 (2 : Int32))
 have H := @dch _ _ _ hby D43
 have k101 := f_ilN X0 hx k0 (H 0 rfl) rfl
 have k102 := f_alN X0 hx k101 (H 1 rfl) rfl
 obtain ⟨T103, X103, e103, k104⟩ := gFs X0 hx hZ hown (hww 83 rfl) e0 Fk2 k102 (H 2 rfl)
 obtain ⟨_, T105, L105, X105, hQ105, k105⟩ := c_S (W := 0) X103 hx hZ hown (hww 322 rfl) (hww 323 rfl) (hww 324 rfl) (hww 325 rfl) (by decide) (oci l Z a0 hw [] (2 : Int32) p2 h0 n0 Z0 (by decide) hi1) e103 (argsL := [(.int (2 : Int32)), (.int p2)]) (rest := []) rfl (by rw [hml]; rfl) k104 rfl (H 3 rfl) (lenOf pd__28II_29I rfl) (b5 rfl)
 obtain ⟨rfl, N105q, e105⟩ := hQ105
 have N106 := Fr.app N0 N105q
 have k107 := f_pop X105 hx k105 (H 4 rfl) rfl
 have k108 := f_alN X105 hx k107 (H 5 rfl) rfl
 have k109 := f_ilN X105 hx k108 (H 6 rfl) rfl
 obtain ⟨_, T110, L110, X110, hQ110, k110⟩ := c_V (W := 0) (x := mn28) X105 hx hZ hown (hww 330 rfl) (hww 331 rfl) (notFace_of_selects (args := #[]) (mvT hZ (hww 333 rfl))) (hww 333 rfl) (hww 332 rfl) (hww 334 rfl) (hww 29 rfl) (by decide) Fk0 (eld2 l Z a0 hw [] a1 ea ka ed0 ed1 ed2 h0 n0 Z0 Fk1 Fk3) e105 (argsL := [(.int (2 : Int32))]) (rest := []) rfl (by rw [hml]; rfl) k109 rfl (H 7 rfl) (lenOf pd__28I_29Ljava_2flang_2fObject_3b rfl) (b5 rfl)
 obtain ⟨rfl, N110q, e110⟩ := hQ110
 have N111 := Fr.app N106 N110q
 exact fin_r X110 hx (w := (.ref ed2)) hrt hlk rfl (Or.inr (Or.inr (Or.inr (Or.inr ⟨rfl, rfl, rfl⟩)))) k110 (H 8 rfl) (by rw [e110]; exact ⟨rfl, N111, rfl⟩) (by decide) (by decide)
theorem ef_9_R (m : MethodId) (x0 : Addr) : entryFrame m #[(.ref x0)] 1 = mkF m 0 #[.val (.ref x0)] [] := by first | (simp [entryFrame, mkF, argsToLocals, Value.category]; done) | rfl
def Q_hmi (Z : State) (a1 : Addr) (h0 : Heap) (n0 : Nat) (v : Option Value) (h : Heap) (L : List Loc) : Prop := v = none ∧ Fr n0 L ∧ Keep h0 h [a1] ∧ OBJ Z h a1 "java/util/HashMap" lyMP [.null, zI, zI, zI, .null, (.float (1061158912 : UInt32))]
theorem hmi (l : Launch) (Z : State) (a0 : Array Value) (hw : HW Z a0) (ws : List Jvm.Cond) (a1 : Addr) (h0 : Heap) (n0 : Nat) (Z0 : n0 ≤ h0.size) (Fk0 : OBJ Z h0 a1 "java/util/HashMap" lyMP [.null, zI, zI, zI, .null, (.float (0 : UInt32))]) (ge_a1 : n0 ≤ a1) :
  Met l mn30 jdk_69_method_7_code 1 none ws (rm 2 0 0 24) #[(.ref a1)] Z h0 (Q_hmi Z a1 h0 n0) := by
 refine Met.intro (plainFor_of_name pn_java_2futil_2fHashMap) ?_
 intro p e s m below meth c s₁ hx hby hml hZ hown hnm hrt hlk X0 e0
 have N0 := Fr.nil n0
 have hww := @hvw _ _ hw
 have k0 := k_e (p := p) (e := e) (below := below) (s := s₁) (ef_9_R m a1)
 have K0 := Keep.refl h0 [a1]
 have H := @dch _ _ _ hby D9
 have k101 := f_alN X0 hx k0 (H 0 rfl) rfl
 obtain ⟨_, T102, L102, X102, hQ102, k102⟩ := c_N (W := 0) X0 hx hZ hown (hww 57 rfl) (hww 58 rfl) (hww 62 rfl) (hww 61 rfl) rfl (by decide) (i_AbstractMap l Z a0 hw [] a1 h0 n0 Z0 ) e0 (argsL := []) (rest := []) rfl (by rw [hml]; rfl) k101 rfl (H 1 rfl) (lenOf pd__28_29V rfl) (b5 rfl)
 obtain ⟨rfl, N102q, e102⟩ := hQ102
 have N103 := Fr.app N0 N102q
 have k104 := f_alN X102 hx k102 (H 2 rfl) rfl
 have k105 : Rt p e below T102 (mkF m 7 #[sr a1] [vF 1061158912, vR a1]) s₁ m #[(.ref a1)] 1 := fun t k => k104 t (by
  show Sp p e below T102 (mkF m 5 #[sr a1] [vR a1]) _
  refine X102.ldcFloatC hx hown (mvT hZ (hww 64 rfl)) (g := (mkF m 5 #[sr a1] [vR a1])) rfl (H 3 rfl) _ ?_
  exact k)
 obtain ⟨T106, h106, L106, X106, e106, W106, B106, N106, Z106, k106⟩ := f_pF X102 hx hZ hown (hww 65 rfl) Via.refl e102 Fk0 (snMP hw) (Or.inr ⟨(hww 66 rfl), rfl, hnm⟩) (hww 52 rfl) 5 (by decide) rfl rfl (ty := .float) (by decide) rfl rfl N103 ge_a1 Z0 k105 (H 4 rfl) rfl
 have K107 := kw K0 W106 0 rfl
 exact fin_v X106 hx hrt hlk k106 (H 5 rfl) (by rw [e106]; exact ⟨rfl, N106, K107, B106⟩) (by decide) (by decide)
theorem ef_41_RIRRn (m : MethodId) (x0 : Addr) (x1 : Int32) (x2 : Addr) (x3 : Addr) : entryFrame m #[(.ref x0), (.int x1), (.ref x2), (.ref x3), .null] 5 = mkF m 0 #[.val (.ref x0), .val (.int x1), .val (.ref x2), .val (.ref x3), .val .null] [] := by first | (simp [entryFrame, mkF, argsToLocals, Value.category]; done) | rfl
def Q_ndi (Z : State) (a1 : Addr) (p1 : Int32) (a2 a3 : Addr) (h0 : Heap) (n0 : Nat) (v : Option Value) (h : Heap) (L : List Loc) : Prop := v = none ∧ Fr n0 L ∧ Keep h0 h [a1] ∧ OBJ Z h a1 "java/util/HashMap$Node" lyND [(.int p1), (.ref a2), (.ref a3), .null]
theorem pn_java_2futil_2fHashMap_24Node : plainName "java/util/HashMap$Node" = true := by first | (simp [plainName, overriddenIn]; done) | decide +kernel
theorem ndi (l : Launch) (Z : State) (a0 : Array Value) (hw : HW Z a0) (ws : List Jvm.Cond) (a1 : Addr) (p1 : Int32) (a2 a3 : Addr) (h0 : Heap) (n0 : Nat) (Z0 : n0 ≤ h0.size) (Fk0 : OBJ Z h0 a1 "java/util/HashMap$Node" lyND [zI, .null, .null, .null]) (ge_a1 : n0 ≤ a1) :
  Met l mn31 jdk_70_method_1_code 5 none ws (rm 1 0 0 12) #[(.ref a1), (.int p1), (.ref a2), (.ref a3), .null] Z h0 (Q_ndi Z a1 p1 a2 a3 h0 n0) := by
 refine Met.intro (plainFor_of_name pn_java_2futil_2fHashMap_24Node) ?_
 intro p e s m below meth c s₁ hx hby hml hZ hown hnm hrt hlk X0 e0
 have N0 := Fr.nil n0
 have hww := @hvw _ _ hw
 have k0 := k_e (p := p) (e := e) (below := below) (s := s₁) (ef_41_RIRRn m a1 p1 a2 a3)
 have K0 := Keep.refl h0 [a1]
 have H := @dch _ _ _ hby D41
 have k101 := f_alN X0 hx k0 (H 0 rfl) rfl
 obtain ⟨T102, X102, e102, st102⟩ := initO X0 hx hZ hown (hww 299 rfl) (hww 21 rfl) (hww 22 rfl) e0 (g := (mkF m 1 #[sr a1, si p1, sr a2, sr a3, .val .null] [vR a1])) rfl (by rw [hml]; rfl) rfl (H 1 rfl) (by decide) (W := 0) (by show 2 * 0 + _ ≤ _; exact Nat.le_of_eq rfl) (by decide)
 have k103 : Rt p e below T102 (mkF m 4 #[sr a1, si p1, sr a2, sr a3, .val .null] []) s₁ m #[(.ref a1), (.int p1), (.ref a2), (.ref a3), .null] 5 := fun t k => k101 t (st102 t k)
 have k104 := f_alN X102 hx k103 (H 2 rfl) rfl
 have k105 := f_ilN X102 hx k104 (H 3 rfl) rfl
 obtain ⟨T106, h106, L106, X106, e106, W106, B106, N106, Z106, k106⟩ := f_pF X102 hx hZ hown (hww 300 rfl) Via.refl e102 Fk0 (snND hw) (Or.inr ⟨(hww 301 rfl), rfl, hnm⟩) (hww 293 rfl) 0 (by decide) rfl rfl (ty := .int) (by decide) rfl rfl N0 ge_a1 Z0 k105 (H 4 rfl) rfl
 have K107 := kw K0 W106 0 rfl
 have k108 := f_alN X106 hx k106 (H 5 rfl) rfl
 have k109 := f_alN X106 hx k108 (H 6 rfl) rfl
 obtain ⟨T110, h110, L110, X110, e110, W110, B110, N110, Z110, k110⟩ := f_pF X106 hx hZ hown (hww 302 rfl) Via.refl e106 B106 (snND hw) (Or.inr ⟨(hww 303 rfl), rfl, hnm⟩) (hww 293 rfl) 1 (by decide) rfl rfl (ty := (.object "java/lang/Object")) (by decide) rfl rfl N106 ge_a1 Z106 k109 (H 7 rfl) rfl
 have K111 := kw K107 W110 0 rfl
 have k112 := f_alN X110 hx k110 (H 8 rfl) rfl
 have k113 := f_alN X110 hx k112 (H 9 rfl) rfl
 obtain ⟨T114, h114, L114, X114, e114, W114, B114, N114, Z114, k114⟩ := f_pF X110 hx hZ hown (hww 304 rfl) Via.refl e110 B110 (snND hw) (Or.inl (hww 305 rfl)) (hww 293 rfl) 2 (by decide) rfl rfl (ty := (.object "java/lang/Object")) (by decide) rfl rfl N110 ge_a1 Z110 k113 (H 10 rfl) rfl
 have K115 := kw K111 W114 0 rfl
 have k116 := f_alN X114 hx k114 (H 11 rfl) rfl
 have k117 := f_nl X114 hx k116 (H 12 rfl) rfl
 obtain ⟨T118, h118, L118, X118, e118, W118, B118, N118, Z118, k118⟩ := f_pF X114 hx hZ hown (hww 306 rfl) Via.refl e114 B114 (snND hw) (Or.inl (hww 307 rfl)) (hww 293 rfl) 3 (by decide) rfl rfl (ty := (.object "java/util/HashMap$Node")) (by decide) rfl rfl N114 ge_a1 Z114 k117 (H 13 rfl) rfl
 have K119 := kw K115 W118 0 rfl
 exact fin_v X118 hx hrt hlk k118 (H 14 rfl) (by rw [e118]; exact ⟨rfl, N118, K119, B118⟩) (by decide) (by decide)
theorem ef_40_RIRRn (m : MethodId) (x0 : Addr) (x1 : Int32) (x2 : Addr) (x3 : Addr) : entryFrame m #[(.ref x0), (.int x1), (.ref x2), (.ref x3), .null] 5 = mkF m 0 #[.val (.ref x0), .val (.int x1), .val (.ref x2), .val (.ref x3), .val .null] [] := by first | (simp [entryFrame, mkF, argsToLocals, Value.category]; done) | rfl
theorem pd__28ILjava_2flang_2fObject_3bLjava_2flang_2fObject_3bLjava_2futil_2fHashMap_24Node_3b_29V : parseMethodDescriptor "(ILjava/lang/Object;Ljava/lang/Object;Ljava/util/HashMap$Node;)V" = some ⟨[.int, (.object "java/lang/Object"), (.object "java/lang/Object"), (.object "java/util/HashMap$Node")], none⟩ := by decide +kernel
def Q_nwn (Z : State) (a1 : Addr) (p1 : Int32) (a2 a3 : Addr) (h0 : Heap) (n0 : Nat) (v : Option Value) (h : Heap) (L : List Loc) : Prop := ∃ (nd : Addr), v = some (.ref nd) ∧ Fr n0 L ∧ Keep h0 h [] ∧ h0.size ≤ nd ∧ OBJ Z h nd "java/util/HashMap$Node" lyND [(.int p1), (.ref a2), (.ref a3), .null]
theorem nwn (l : Launch) (Z : State) (a0 : Array Value) (hw : HW Z a0) (ws : List Jvm.Cond) (a1 : Addr) (p1 : Int32) (a2 a3 : Addr) (h0 : Heap) (n0 : Nat) (Z0 : n0 ≤ h0.size) :
  Met l mn32 jdk_69_method_46_code 5 (some (.object "java/util/HashMap$Node")) ws (rm 2 1 4 29) #[(.ref a1), (.int p1), (.ref a2), (.ref a3), .null] Z h0 (Q_nwn Z a1 p1 a2 a3 h0 n0) := by
 refine Met.intro (plainFor_of_name pn_java_2futil_2fHashMap) ?_
 intro p e s m below meth c s₁ hx hby hml hZ hown hnm hrt hlk X0 e0
 have N0 := Fr.nil n0
 have hww := @hvw _ _ hw
 have k0 := k_e (p := p) (e := e) (below := below) (s := s₁) (ef_40_RIRRn m a1 p1 a2 a3)
 have K0 : Keep h0 h0 [] := Keep.refl h0 []
 have H := @dch _ _ _ hby D40
 obtain ⟨T101, h101, X101, e101, E101, A101, D101, -, st101⟩ := newO X0 hx hZ hown (hww 286 rfl) (hww 293 rfl) (hww 294 rfl) e0 (g := (mkF m 0 #[sr a1, si p1, sr a2, sr a3, .val .null] [])) rfl (H 0 rfl) (by decide) (by decide)
 obtain ⟨b101, g101⟩ : ∃ z, z = h0.size := ⟨_, rfl⟩
 rw [← g101] at A101 D101 st101
 have g102 : n0 ≤ b101 := Nat.le_trans Z0 (Nat.le_of_eq g101.symm)
 have z103 : h0.size ≤ b101 := Nat.le_trans K0.1 (Nat.le_of_eq g101.symm)
 have Z104 : n0 ≤ h101.size := Nat.le_trans Z0 E101.1
 have K105 := K0.ext E101
 have F106 : Fld Z h101 b101 "java/util/HashMap$Node" "hash" "I" zI := D101 (Or.inr (hww 301 rfl)) (ty := .int) (by decide)
 have F107 : Fld Z h101 b101 "java/util/HashMap$Node" "key" "Ljava/lang/Object;" .null := D101 (Or.inr (hww 303 rfl)) (ty := (.object "java/lang/Object")) (by decide)
 have F108 : Fld Z h101 b101 "java/util/HashMap$Node" "value" "Ljava/lang/Object;" .null := D101 (Or.inl (hww 305 rfl)) (ty := (.object "java/lang/Object")) (by decide)
 have F109 : Fld Z h101 b101 "java/util/HashMap$Node" "next" "Ljava/util/HashMap$Node;" .null := D101 (Or.inl (hww 307 rfl)) (ty := (.object "java/util/HashMap$Node")) (by decide)
 have k110 : Rt p e below T101 (mkF m 3 #[sr a1, si p1, sr a2, sr a3, .val .null] [vR b101]) s₁ m #[(.ref a1), (.int p1), (.ref a2), (.ref a3), .null] 5 := fun t k => k0 t (st101 t k)
 have B111 := mkND A101 F106 F107 F108 F109
 have k112 := f_dup X101 hx k110 (H 1 rfl) rfl
 have k113 := f_ilN X101 hx k112 (H 2 rfl) rfl
 have k114 := f_alN X101 hx k113 (H 3 rfl) rfl
 have k115 := f_alN X101 hx k114 (H 4 rfl) rfl
 have k116 := f_nl X101 hx k115 (H 5 rfl) rfl
 obtain ⟨_, T117, L117, X117, hQ117, k117⟩ := c_N (W := 1) X101 hx hZ hown (hww 295 rfl) (hww 296 rfl) (hww 298 rfl) (hww 294 rfl) rfl (by decide) (ndi l Z a0 hw [] b101 p1 a2 a3 h101 n0 Z104 B111 g102) e101 (argsL := [(.int p1), (.ref a2), (.ref a3), .null]) (rest := [(.ref b101)]) rfl (by rw [hml]; rfl) k116 rfl (H 6 rfl) (lenOf pd__28ILjava_2flang_2fObject_3bLjava_2flang_2fObject_3bLjava_2futil_2fHashMap_24Node_3b_29V rfl) (b5 rfl)
 obtain ⟨h117, e117⟩ : ∃ h', T117.heap = h' := ⟨_, rfl⟩
 rw [e117] at hQ117
 obtain ⟨rfl, N117q, K117, R117_0⟩ := hQ117
 have N118 := Fr.app N0 N117q
 have Z119 : n0 ≤ h117.size := Nat.le_trans Z104 K117.1
 have K120 := Keep.trans K105 K117 (allS (Or.inr z103) all0)
 exact fin_r X117 hx (w := (.ref b101)) hrt hlk rfl (Or.inr (Or.inr (Or.inr (Or.inr ⟨rfl, rfl, rfl⟩)))) k117 (H 7 rfl) (by rw [e117]; exact ⟨b101, rfl, N118, K120, z103, R117_0⟩) (by decide) (by decide)
theorem ef_42_RI (m : MethodId) (x0 : Addr) (x1 : Int32) : entryFrame m #[(.ref x0), (.int x1)] 2 = mkF m 0 #[.val (.ref x0), .val (.int x1)] [] := by first | (simp [entryFrame, mkF, argsToLocals, Value.category]; done) | rfl
def Q_ani (Z : State) (a1 : Addr) (h0 : Heap) (n0 : Nat) (v : Option Value) (h : Heap) (L : List Loc) : Prop := v = none ∧ Fr n0 L ∧ h = h0
theorem ani (l : Launch) (Z : State) (a0 : Array Value) (hw : HW Z a0) (ws : List Jvm.Cond) (a1 : Addr) (h0 : Heap) (n0 : Nat) (Z0 : n0 ≤ h0.size) :
  Met l mn33 jdk_69_method_52_code 2 none ws (rm 0 0 0 0) #[(.ref a1), (.int (1 : Int32))] Z h0 (Q_ani Z a1 h0 n0) := by
 refine Met.intro (plainFor_of_name pn_java_2futil_2fHashMap) ?_
 intro p e s m below meth c s₁ hx hby hml hZ hown hnm hrt hlk X0 e0
 have N0 := Fr.nil n0
 have hww := @hvw _ _ hw
 have k0 := k_e (p := p) (e := e) (below := below) (s := s₁) (ef_42_RI m a1 (1 : Int32))
 have H := @dch _ _ _ hby D42
 exact fin_v X0 hx hrt hlk k0 (H 0 rfl) (by rw [e0]; exact ⟨rfl, N0, rfl⟩) (by decide) (by decide)
theorem ef_39_R (m : MethodId) (x0 : Addr) : entryFrame m #[(.ref x0)] 14 = mkF m 0 #[.val (.ref x0), .unset, .unset, .unset, .unset, .unset, .unset, .unset, .unset, .unset, .unset, .unset, .unset, .unset] [] := by first | (simp [entryFrame, mkF, argsToLocals, Value.category]; done) | rfl
def Q_rsz (Z : State) (a1 : Addr) (h0 : Heap) (n0 : Nat) (v : Option Value) (h : Heap) (L : List Loc) : Prop := ∃ (tb : Addr) (kt : ClassId), v = some (.ref tb) ∧ Fr n0 L ∧ Keep h0 h [a1] ∧ h0.size ≤ tb ∧ OBJ Z h a1 "java/util/HashMap" lyMP [(.ref tb), zI, zI, (.int (12 : Int32)), .null, (.float (1061158912 : UInt32))] ∧ Arv Z h tb kt (.object "java/util/HashMap$Node") (16 : Int32) [.null, .null, .null, .null, .null, .null, .null, .null, .null, .null, .null, .null, .null, .null, .null, .null] .null ∧ (Ovr Z kt "java/util/HashMap$Node")
theorem rsz (l : Launch) (Z : State) (a0 : Array Value) (hw : HW Z a0) (ws : List Jvm.Cond) (a1 : Addr) (h0 : Heap) (n0 : Nat) (Z0 : n0 ≤ h0.size) (Fk0 : OBJ Z h0 a1 "java/util/HashMap" lyMP [.null, zI, zI, zI, .null, (.float (1061158912 : UInt32))]) (ge_a1 : n0 ≤ a1) :
  Met l mn34 jdk_69_method_17_code 14 (some (.array (.object "java/util/HashMap$Node"))) ws (rm 0 1 16 0) #[(.ref a1)] Z h0 (Q_rsz Z a1 h0 n0) := by
 refine Met.intro (plainFor_of_name pn_java_2futil_2fHashMap) ?_
 intro p e s m below meth c s₁ hx hby hml hZ hown hnm hrt hlk X0 e0
 have N0 := Fr.nil n0
 have hww := @hvw _ _ hw
 have k0 := k_e (p := p) (e := e) (below := below) (s := s₁) (ef_39_R m a1)
 have K0 := Keep.refl h0 [a1]
 have H := @dch _ _ _ hby D39
 have k101 := f_alN X0 hx k0 (H 0 rfl) rfl
 obtain ⟨T102, X102, e102, k103⟩ := gFs X0 hx hZ hown (hww 278 rfl) e0 (Fk0.g 0 (v := .null) (by decide) rfl rfl) k101 (H 1 rfl)
 have k104 := f_nsN X102 hx k103 (H 2 rfl) (l' := #[sr a1, .val .null, un, un, un, un, un, un, un, un, un, un, un, un]) rfl
 have k105 := f_nlN X102 hx k104 (H 3 rfl) rfl
 have k106 := f_nnN X102 hx k105 (H 4 rfl)
 have k107 := f_ic X102 hx k106 (H 5 rfl) (v := 0) rfl
 have k108 := f_go X102 hx k107 (H 6 rfl) (pc' := 15) (by decide)
 have k109 := f_isN X102 hx k108 (H 7 rfl) (l' := #[sr a1, .val .null, si 0, un, un, un, un, un, un, un, un, un, un, un]) rfl
 have k110 := f_alN X102 hx k109 (H 8 rfl) rfl
 obtain ⟨T111, X111, e111, k112⟩ := gFs X102 hx hZ hown (hww 284 rfl) e102 (Fk0.g 3 (v := zI) (by decide) rfl rfl) k110 (H 9 rfl)
 have k113 := f_isN X111 hx k112 (H 10 rfl) (l' := #[sr a1, .val .null, si 0, si 0, un, un, un, un, un, un, un, un, un, un]) rfl
 have k114 := f_ic X111 hx k113 (H 11 rfl) (v := 0) rfl
 have k115 := f_is X111 hx k114 (H 12 rfl) (l' := #[sr a1, .val .null, si 0, si 0, un, si 0, un, un, un, un, un, un, un, un]) rfl
 have k116 := f_ilN X111 hx k115 (H 13 rfl) rfl
 have k117 := f_ifY X111 hx k116 (H 14 rfl) (pc' := 67) ((if0 _ _).trans (flt (by decide)).2.2.2) (by decide)
 have k118 := f_ilN X111 hx k117 (H 15 rfl) rfl
 have k119 := f_ifY X111 hx k118 (H 16 rfl) (pc' := 77) ((if0 _ _).trans (flt (by decide)).2.2.2) (by decide)
 have k120 := f_bp X111 hx k119 (H 17 rfl) (v := 16) rfl
 have k121 := f_is X111 hx k120 (H 18 rfl) (l' := #[sr a1, .val .null, si 0, si 0, si 16, si 0, un, un, un, un, un, un, un, un]) rfl
 have k122 := f_bp X111 hx k121 (H 19 rfl) (v := 12) rfl
 have k123 := f_is X111 hx k122 (H 20 rfl) (l' := #[sr a1, .val .null, si 0, si 0, si 16, si 12, un, un, un, un, un, un, un, un]) rfl
 have k124 := f_il X111 hx k123 (H 21 rfl) rfl
 have k125 := f_ifY X111 hx k124 (H 22 rfl) (pc' := 125) ((if0 _ _).trans (feq (by decide)).2) (by decide)
 have k126 := f_alN X111 hx k125 (H 23 rfl) rfl
 have k127 := f_il X111 hx k126 (H 24 rfl) rfl
 obtain ⟨T128, h128, L128, X128, e128, W128, B128, N128, Z128, k128⟩ := f_pF X111 hx hZ hown (hww 284 rfl) Via.refl e111 Fk0 (snMP hw) (Or.inl (hww 285 rfl)) (hww 52 rfl) 3 (by decide) rfl rfl (ty := .int) (by decide) rfl rfl N0 ge_a1 Z0 k127 (H 25 rfl) rfl
 have K129 := kw K0 W128 0 rfl
 have k130 := f_il X128 hx k128 (H 26 rfl) rfl
 obtain ⟨T131, h131, k131, X131, e131, E131, A131, O131, st131⟩ := newR X128 hx hZ hown (hww 286 rfl) (hww 287 rfl) e128 (g := (mkF m 133 #[sr a1, .val .null, si 0, si 0, si 16, si 12, un, un, un, un, un, un, un, un] [vI 16])) rfl (H 27 rfl) rfl (by decide) (cap := 16) (by decide) (by decide) (by decide) (by decide)
 obtain ⟨b131, g131⟩ : ∃ z, z = h128.size := ⟨_, rfl⟩
 rw [← g131] at A131 st131
 have g132 : n0 ≤ b131 := Nat.le_trans Z128 (Nat.le_of_eq g131.symm)
 have z133 : h0.size ≤ b131 := Nat.le_trans K129.1 (Nat.le_of_eq g131.symm)
 have F134 := B128.ext E131
 have Z135 : n0 ≤ h131.size := Nat.le_trans Z128 E131.1
 have K136 := K129.ext E131
 have V137 : Arv Z h131 b131 k131 (.object "java/util/HashMap$Node") (16 : Int32) [.null, .null, .null, .null, .null, .null, .null, .null, .null, .null, .null, .null, .null, .null, .null, .null] .null := (Arv.new A131 (by decide)).pad (pad_rep [] .null 16)
 have k138 : Rt p e below T131 (mkF m 136 #[sr a1, .val .null, si 0, si 0, si 16, si 12, un, un, un, un, un, un, un, un] [vR b131]) s₁ m #[(.ref a1)] 14 := fun t k => k130 t (st131 t k)
 have k139 := f_as X131 hx k138 (H 28 rfl) (l' := #[sr a1, .val .null, si 0, si 0, si 16, si 12, sr b131, un, un, un, un, un, un, un]) rfl
 have k140 := f_alN X131 hx k139 (H 29 rfl) rfl
 have k141 := f_al X131 hx k140 (H 30 rfl) rfl
 obtain ⟨T142, h142, L142, X142, e142, W142, B142, N142, Z142, k142⟩ := f_pF X131 hx hZ hown (hww 278 rfl) Via.refl e131 F134 (snMP hw) (Or.inl (hww 151 rfl)) (hww 52 rfl) 0 (by decide) rfl rfl (ty := (.array (.object "java/util/HashMap$Node"))) (by decide) rfl rfl N128 ge_a1 Z135 k141 (H 31 rfl) rfl
 have F143 := V137.other W142 (nG B128.lt (Nat.le_of_eq g131.symm))
 have K144 := kw K136 W142 0 rfl
 have k145 := f_nlN X142 hx k142 (H 32 rfl) rfl
 have k146 := f_inY X142 hx k145 (H 33 rfl) (pc' := 353) (by decide)
 have k147 := f_al X142 hx k146 (H 34 rfl) rfl
 exact fin_r X142 hx (w := (.ref b131)) hrt hlk rfl (Or.inr (Or.inr (Or.inr (Or.inr ⟨rfl, rfl, rfl⟩)))) k147 (H 35 rfl) (by rw [e142]; exact ⟨b131, k131, rfl, N142, K144, z133, B142, F143, O131⟩) (by decide) (by decide)
theorem ef_38_RIRRII (m : MethodId) (x0 : Addr) (x1 : Int32) (x2 : Addr) (x3 : Addr) (x4 : Int32) (x5 : Int32) : entryFrame m #[(.ref x0), (.int x1), (.ref x2), (.ref x3), (.int x4), (.int x5)] 13 = mkF m 0 #[.val (.ref x0), .val (.int x1), .val (.ref x2), .val (.ref x3), .val (.int x4), .val (.int x5), .unset, .unset, .unset, .unset, .unset, .unset, .unset] [] := by first | (simp [entryFrame, mkF, argsToLocals, Value.category]; done) | rfl
theorem pd__28_29_5bLjava_2futil_2fHashMap_24Node_3b : parseMethodDescriptor "()[Ljava/util/HashMap$Node;" = some ⟨[], some (.array (.object "java/util/HashMap$Node"))⟩ := by decide +kernel
theorem pd__28ILjava_2flang_2fObject_3bLjava_2flang_2fObject_3bLjava_2futil_2fHashMap_24Node_3b_29Ljava_2futil_2fHashMap_24Node_3b : parseMethodDescriptor "(ILjava/lang/Object;Ljava/lang/Object;Ljava/util/HashMap$Node;)Ljava/util/HashMap$Node;" = some ⟨[.int, (.object "java/lang/Object"), (.object "java/lang/Object"), (.object "java/util/HashMap$Node")], some (.object "java/util/HashMap$Node")⟩ := by decide +kernel
theorem pd__28Z_29V : parseMethodDescriptor "(Z)V" = some ⟨[.boolean], none⟩ := by decide +kernel
def Q_pvl0 (Z : State) (a1 : Addr) (p1 : Int32) (a2 a3 : Addr) (ix : Int32) (h0 : Heap) (n0 : Nat) (v : Option Value) (h : Heap) (L : List Loc) : Prop := ∃ (nd : Addr) (tb : Addr) (kt : ClassId), v = some .null ∧ Fr n0 L ∧ Keep h0 h [a1] ∧ h0.size ≤ nd ∧ h0.size ≤ tb ∧ tb ≠ nd ∧ OBJ Z h a1 "java/util/HashMap" lyMP [(.ref tb), (.int (1 : Int32)), (.int (1 : Int32)), (.int (12 : Int32)), .null, (.float (1061158912 : UInt32))] ∧ Arv Z h tb kt (.object "java/util/HashMap$Node") (16 : Int32) ([.null, .null, .null, .null, .null, .null, .null, .null, .null, .null, .null, .null, .null, .null, .null, .null].set ix.toNatClampNeg (.ref nd)) .null ∧ OBJ Z h nd "java/util/HashMap$Node" lyND [(.int p1), (.ref a2), (.ref a3), .null] ∧ (Ovr Z kt "java/util/HashMap$Node")
theorem pvl0 (l : Launch) (Z : State) (a0 : Array Value) (hw : HW Z a0) (ws : List Jvm.Cond) (a1 : Addr) (p1 : Int32) (a2 a3 : Addr) (ix : Int32) (h0 : Heap) (n0 : Nat) (Z0 : n0 ≤ h0.size) (Fk0 : OBJ Z h0 a1 "java/util/HashMap" lyMP [.null, zI, zI, zI, .null, (.float (1061158912 : UInt32))]) (ge_a1 : n0 ≤ a1) (hix : (15 : Int32) &&& p1 = ix) (hin : ¬ ix < (0 : Int32) ∧ ix < (16 : Int32)) :
  Met l mn35 jdk_69_method_16_code 13 (some (.object "java/lang/Object")) ws (rm 3 2 20 47) #[(.ref a1), (.int p1), (.ref a2), (.ref a3), zI, (.int (1 : Int32))] Z h0 (Q_pvl0 Z a1 p1 a2 a3 ix h0 n0) := by
 refine Met.intro (plainFor_of_name pn_java_2futil_2fHashMap) ?_
 intro p e s m below meth c s₁ hx hby hml hZ hown hnm hrt hlk X0 e0
 have N0 := Fr.nil n0
 have hww := @hvw _ _ hw
 have k0 := k_e (p := p) (e := e) (below := below) (s := s₁) (ef_38_RIRRII m a1 p1 a2 a3 (0 : Int32) (1 : Int32))
 have K0 := Keep.refl h0 [a1]
 have H := @dch _ _ _ hby D38
 have k101 := f_alN X0 hx k0 (H 0 rfl) rfl
 obtain ⟨T102, X102, e102, k103⟩ := gFs X0 hx hZ hown (hww 278 rfl) e0 (Fk0.g 0 (v := .null) (by decide) rfl rfl) k101 (H 1 rfl)
 have k104 := f_dup X102 hx k103 (H 2 rfl) rfl
 have k105 := f_ns X102 hx k104 (H 3 rfl) (l' := #[sr a1, si p1, sr a2, sr a3, si 0, si 1, .val .null, un, un, un, un, un, un]) rfl
 have k106 := f_inY X102 hx k105 (H 4 rfl) (pc' := 19) (by decide)
 have k107 := f_alN X102 hx k106 (H 5 rfl) rfl
 obtain ⟨_, T108, L108, X108, hQ108, k108⟩ := c_V (W := 0) (x := mn34) X102 hx hZ hown (hww 279 rfl) (hww 280 rfl) (notFace_of_selects (args := #[]) (mvT hZ (hww 282 rfl))) (hww 282 rfl) (hww 281 rfl) (hww 283 rfl) (hww 53 rfl) (by decide) Fk0.1 (rsz l Z a0 hw [] a1 h0 n0 Z0 Fk0 ge_a1) e102 (argsL := []) (rest := []) rfl (by rw [hml]; rfl) k107 rfl (H 6 rfl) (lenOf pd__28_29_5bLjava_2futil_2fHashMap_24Node_3b rfl) (b5 rfl)
 obtain ⟨h108, e108⟩ : ∃ h', T108.heap = h' := ⟨_, rfl⟩
 rw [e108] at hQ108
 obtain ⟨tb108, kt108, rfl, N108q, K108, Zx108_0, R108_0, R108_1, P108_0⟩ := hQ108
 have N109 := Fr.app N0 N108q
 have Z110 : n0 ≤ h108.size := Nat.le_trans Z0 K108.1
 have K111 := Keep.trans K0 K108 (allS (oL 0 rfl) all0)
 have k112 := f_dup X108 hx k108 (H 7 rfl) rfl
 have k113 := f_as X108 hx k112 (H 8 rfl) (l' := #[sr a1, si p1, sr a2, sr a3, si 0, si 1, sr tb108, un, un, un, un, un, un]) rfl
 have k114 := f_len X108 hx hZ e108 R108_1 k113 (H 9 rfl)
 have k115 := f_is X108 hx k114 (H 10 rfl) (l' := #[sr a1, si p1, sr a2, sr a3, si 0, si 1, sr tb108, un, si 16, un, un, un, un]) rfl
 have k116 := f_al X108 hx k115 (H 11 rfl) rfl
 have k117 := f_il X108 hx k116 (H 12 rfl) rfl
 have k118 := f_ic X108 hx k117 (H 13 rfl) (v := 1) rfl
 have k119 := f_isub X108 hx k118 (H 14 rfl) (r := 15) (by decide)
 have k120 := f_ilN X108 hx k119 (H 15 rfl) rfl
 have k121 := f_iand X108 hx k120 (H 16 rfl) rfl
 have k122 := f_dup X108 hx k121 (H 17 rfl) rfl
 have k123 := f_is X108 hx k122 (H 18 rfl) (l' := #[sr a1, si p1, sr a2, sr a3, si 0, si 1, sr tb108, un, si 16, si ((15 : Int32) &&& p1), un, un, un]) rfl
 have k124 : Rt p e below T108 (mkF m 40 #[sr a1, si p1, sr a2, sr a3, si 0, si 1, sr tb108, un, si 16, si ix, un, un, un] [vI ix, vR tb108]) s₁ m #[(.ref a1), (.int p1), (.ref a2), (.ref a3), zI, (.int (1 : Int32))] 13 := fun t q => k123 t (castTop (by rw [show ((15 : Int32) &&& p1) = ix from hix] <;> rfl) q)
 have k125 := f_aal X108 hx hZ e108 R108_1 k124 (H 19 rfl) (v := .null) rfl hin (own_nul16 ix)
 have k126 := f_dup X108 hx k125 (H 20 rfl) rfl
 have k127 := f_ns X108 hx k126 (H 21 rfl) (l' := #[sr a1, si p1, sr a2, sr a3, si 0, si 1, sr tb108, .val .null, si 16, si ix, un, un, un]) rfl
 have k128 := f_nnN X108 hx k127 (H 22 rfl)
 have k129 := f_al X108 hx k128 (H 23 rfl) rfl
 have k130 := f_il X108 hx k129 (H 24 rfl) rfl
 have k131 := f_alN X108 hx k130 (H 25 rfl) rfl
 have k132 := f_ilN X108 hx k131 (H 26 rfl) rfl
 have k133 := f_alN X108 hx k132 (H 27 rfl) rfl
 have k134 := f_alN X108 hx k133 (H 28 rfl) rfl
 have k135 := f_an X108 hx k134 (H 29 rfl)
 obtain ⟨_, T136, L136, X136, hQ136, k136⟩ := c_V (W := 2) (x := mn32) X108 hx hZ hown (hww 288 rfl) (hww 289 rfl) (notFace_of_selects (args := #[]) (mvT hZ (hww 291 rfl))) (hww 291 rfl) (hww 290 rfl) (hww 292 rfl) (hww 53 rfl) (by decide) R108_0.1 (nwn l Z a0 hw [] a1 p1 a2 a3 h108 n0 Z110 ) e108 (argsL := [(.int p1), (.ref a2), (.ref a3), .null]) (rest := [(.int ix), (.ref tb108)]) rfl (by rw [hml]; rfl) k135 rfl (H 30 rfl) (lenOf pd__28ILjava_2flang_2fObject_3bLjava_2flang_2fObject_3bLjava_2futil_2fHashMap_24Node_3b_29Ljava_2futil_2fHashMap_24Node_3b rfl) (b5 rfl)
 obtain ⟨h136, e136⟩ : ∃ h', T136.heap = h' := ⟨_, rfl⟩
 rw [e136] at hQ136
 obtain ⟨nd136, rfl, N136q, K136, Zx136_0, R136_0⟩ := hQ136
 have N137 := Fr.app N109 N136q
 have F138 := R108_0.keep K136 nin0
 have F139 := R108_1.keep K136 nin0
 have Z140 : n0 ≤ h136.size := Nat.le_trans Z110 K136.1
 have K141 := Keep.trans K111 K136 all0
 obtain ⟨T142, h142, L142, X142, e142, W142, V142, N142, Z142, k142⟩ := f_ast X136 hx hZ e136 F139 N137 (Nat.le_trans Z0 Zx108_0) Z140 k136 (H 31 rfl) rfl rfl (fun cc A q => Sto.ofV A q P108_0 (Ins.self R136_0.1)) hin ix.toNatClampNeg rfl (own_in16 (by decide) hin)
 have K143 := K141.wr W142 (Or.inr (Nat.le_trans K0.1 Zx108_0))
 have B144 := F138.other W142 (nL Fk0.lt Zx108_0)
 have B145 := R136_0.other W142 (nG R108_1.lt Zx136_0)
 have k146 := f_go X142 hx k142 (H 32 rfl) (pc' := 259) (by decide)
 have k147 := f_alN X142 hx k146 (H 33 rfl) rfl
 have k148 := f_dup X142 hx k147 (H 34 rfl) rfl
 obtain ⟨T149, X149, e149, k150⟩ := gFs X142 hx hZ hown (hww 308 rfl) e142 (B144.g 2 (v := zI) (by decide) rfl rfl) k148 (H 35 rfl)
 have k151 := f_ic X149 hx k150 (H 36 rfl) (v := 1) rfl
 have k152 := f_iadd X149 hx k151 (H 37 rfl) (r := 1) (by decide)
 obtain ⟨T153, h153, L153, X153, e153, W153, B153, N153, Z153, k153⟩ := f_pF X149 hx hZ hown (hww 308 rfl) Via.refl e149 B144 (snMP hw) (Or.inl (hww 147 rfl)) (hww 52 rfl) 2 (by decide) rfl rfl (ty := .int) (by decide) rfl rfl N142 ge_a1 Z142 k152 (H 38 rfl) rfl
 have F154 := V142.other W153 (nG Fk0.lt Zx108_0)
 have K155 := kw K143 W153 0 rfl
 have B156 := B145.other W153 (nG R108_0.lt Zx136_0)
 have k157 := f_alN X153 hx k153 (H 39 rfl) rfl
 have k158 := f_dup X153 hx k157 (H 40 rfl) rfl
 obtain ⟨T159, X159, e159, k160⟩ := gFs X153 hx hZ hown (hww 97 rfl) e153 (B153.g 1 (v := zI) (by decide) rfl rfl) k158 (H 41 rfl)
 have k161 := f_ic X159 hx k160 (H 42 rfl) (v := 1) rfl
 have k162 := f_iadd X159 hx k161 (H 43 rfl) (r := 1) (by decide)
 have k163 := f_dupX1 X159 hx k162 (H 44 rfl) rfl rfl
 obtain ⟨T164, h164, L164, X164, e164, W164, B164, N164, Z164, k164⟩ := f_pF X159 hx hZ hown (hww 97 rfl) Via.refl e159 B153 (snMP hw) (Or.inl (hww 98 rfl)) (hww 52 rfl) 1 (by decide) rfl rfl (ty := .int) (by decide) rfl rfl N153 ge_a1 Z153 k163 (H 45 rfl) rfl
 have F165 := F154.other W164 (nG Fk0.lt Zx108_0)
 have K166 := kw K155 W164 0 rfl
 have B167 := B156.other W164 (nG R108_0.lt Zx136_0)
 have k168 := f_alN X164 hx k164 (H 46 rfl) rfl
 obtain ⟨T169, X169, e169, k170⟩ := gFs X164 hx hZ hown (hww 284 rfl) e164 (B164.g 3 (v := (.int (12 : Int32))) (by decide) rfl rfl) k168 (H 47 rfl)
 have k171 := f_icY X169 hx k170 (H 48 rfl) (pc' := 292) (flt (by decide)).2.2.2 (by decide)
 have k172 := f_alN X169 hx k171 (H 49 rfl) rfl
 have k173 := f_il X169 hx k172 (H 50 rfl) rfl
 obtain ⟨_, T174, L174, X174, hQ174, k174⟩ := c_V (W := 0) (x := mn33) X169 hx hZ hown (hww 309 rfl) (hww 310 rfl) (notFace_of_selects (args := #[]) (mvT hZ (hww 312 rfl))) (hww 312 rfl) (hww 311 rfl) (hww 313 rfl) (hww 53 rfl) (by decide) B164.1 (ani l Z a0 hw [] a1 h164 n0 Z164 ) e169 (argsL := [(.int (1 : Int32))]) (rest := []) rfl (by rw [hml]; rfl) k173 rfl (H 51 rfl) (lenOf pd__28Z_29V rfl) (b5 rfl)
 obtain ⟨rfl, N174q, e174⟩ := hQ174
 have N175 := Fr.app N164 N174q
 have k176 := f_an X174 hx k174 (H 52 rfl)
 exact fin_r X174 hx (w := .null) hrt hlk rfl (Or.inr (Or.inr (Or.inr (Or.inr ⟨rfl, rfl, rfl⟩)))) k176 (H 53 rfl) (by rw [e174]; exact ⟨nd136, tb108, kt108, rfl, N175, K166, (Nat.le_trans K111.1 Zx136_0), (Nat.le_trans K0.1 Zx108_0), (nL R108_1.lt Zx136_0), B164, F165, B167, P108_0⟩) (by decide) (by decide)
theorem ef_33_RRR (m : MethodId) (x0 : Addr) (x1 : Addr) (x2 : Addr) : entryFrame m #[(.ref x0), (.ref x1), (.ref x2)] 3 = mkF m 0 #[.val (.ref x0), .val (.ref x1), .val (.ref x2)] [] := by first | (simp [entryFrame, mkF, argsToLocals, Value.category]; done) | rfl
theorem pd__28Ljava_2flang_2fObject_3b_29I : parseMethodDescriptor "(Ljava/lang/Object;)I" = some ⟨[(.object "java/lang/Object")], some .int⟩ := by decide +kernel
theorem pd__28ILjava_2flang_2fObject_3bLjava_2flang_2fObject_3bZZ_29Ljava_2flang_2fObject_3b : parseMethodDescriptor "(ILjava/lang/Object;Ljava/lang/Object;ZZ)Ljava/lang/Object;" = some ⟨[.int, (.object "java/lang/Object"), (.object "java/lang/Object"), .boolean, .boolean], some (.object "java/lang/Object")⟩ := by decide +kernel
def Q_put0 (Z : State) (a1 : Addr) (p1 : Int32) (a2 a3 : Addr) (ix : Int32) (b2 : Addr) (kb : ClassId) (cs : Int32) (h0 : Heap) (n0 : Nat) (v : Option Value) (h : Heap) (L : List Loc) : Prop := ∃ (nd : Addr) (tb : Addr) (kt : ClassId), v = some .null ∧ Fr n0 L ∧ Keep h0 h [a1, a2] ∧ h0.size ≤ nd ∧ h0.size ≤ tb ∧ tb ≠ nd ∧ OBJ Z h a1 "java/util/HashMap" lyMP [(.ref tb), (.int (1 : Int32)), (.int (1 : Int32)), (.int (12 : Int32)), .null, (.float (1061158912 : UInt32))] ∧ Arv Z h tb kt (.object "java/util/HashMap$Node") (16 : Int32) ([.null, .null, .null, .null, .null, .null, .null, .null, .null, .null, .null, .null, .null, .null, .null, .null].set ix.toNatClampNeg (.ref nd)) .null ∧ OBJ Z h nd "java/util/HashMap$Node" lyND [(.int p1), (.ref a2), (.ref a3), .null] ∧ OBJ Z h a2 "java/lang/String" lyST [(.ref b2), zI, (.int p1), zI] ∧ Arv Z h b2 kb .byte (1 : Int32) [(.int p1)] zI ∧ (Ovr Z kt "java/util/HashMap$Node")
theorem put0 (l : Launch) (Z : State) (a0 : Array Value) (hw : HW Z a0) (ws : List Jvm.Cond) (a1 : Addr) (p1 : Int32) (a2 a3 : Addr) (ix : Int32) (b2 : Addr) (kb : ClassId) (cs : Int32) (h0 : Heap) (n0 : Nat) (Z0 : n0 ≤ h0.size) (Fk0 : OBJ Z h0 a1 "java/util/HashMap" lyMP [.null, zI, zI, zI, .null, (.float (1061158912 : UInt32))]) (Fk1 : OBJ Z h0 a2 "java/lang/String" lyST [(.ref b2), zI, zI, zI]) (Fk2 : Arv Z h0 b2 kb .byte (1 : Int32) [(.int p1)] zI) (ge_a1 : n0 ≤ a1) (ge_a2 : n0 ≤ a2) (ne_a1_a2 : a1 ≠ a2) (ne_a2_b2 : a2 ≠ b2) (ne_a1_b2 : a1 ≠ b2) (hc3 : p1 &&& (255 : Int32) = p1) (hc4 : ¬ (p1 = (0 : Int32))) (hc5 : p1 ^^^ ((p1.toUInt32 >>> ((16 : Int32) &&& 31).toUInt32).toInt32) = p1) (Scs : Sta Z Z.heap "java/lang/String" "COMPACT_STRINGS" "Z" (.int cs)) (hcs : ¬ (cs = (0 : Int32))) (hix : (15 : Int32) &&& p1 = ix) (hin : ¬ ix < (0 : Int32) ∧ ix < (16 : Int32)) (O0 : Old Z n0 h0) :
  Met l mn36 jdk_69_method_15_code 3 (some (.object "java/lang/Object")) ws (rm 4 2 20 71) #[(.ref a1), (.ref a2), (.ref a3)] Z h0 (Q_put0 Z a1 p1 a2 a3 ix b2 kb cs h0 n0) := by
 refine Met.intro (plainFor_of_name pn_java_2futil_2fHashMap) ?_
 intro p e s m below meth c s₁ hx hby hml hZ hown hnm hrt hlk X0 e0
 have N0 := Fr.nil n0
 have hww := @hvw _ _ hw
 have k0 := k_e (p := p) (e := e) (below := below) (s := s₁) (ef_33_RRR m a1 a2 a3)
 have K0 := Keep.refl h0 [a1, a2]
 have H := @dch _ _ _ hby D33
 have k101 := f_alN X0 hx k0 (H 0 rfl) rfl
 have k102 := f_alN X0 hx k101 (H 1 rfl) rfl
 obtain ⟨_, T103, L103, X103, hQ103, k103⟩ := c_S (W := 1) X0 hx hZ hown (hww 252 rfl) (hww 253 rfl) (hww 53 rfl) (hww 254 rfl) (by decide) (hsh0 l Z a0 hw [] a2 b2 kb p1 cs h0 n0 Z0 Fk1 Fk2 ge_a2 ne_a2_b2 hc3 hc4 hc5 Scs hcs O0) e0 (argsL := [(.ref a2)]) (rest := [(.ref a1)]) rfl (by rw [hml]; rfl) k102 rfl (H 2 rfl) (lenOf pd__28Ljava_2flang_2fObject_3b_29I rfl) (b5 rfl)
 obtain ⟨h103, e103⟩ : ∃ h', T103.heap = h' := ⟨_, rfl⟩
 rw [e103] at hQ103
 obtain ⟨rfl, N103q, K103, R103_0, R103_1⟩ := hQ103
 have N104 := Fr.app N0 N103q
 have F105 := Fk0.keep K103 (ninS ne_a1_a2 nin0)
 have F106 := O0.keep K103 (allS ge_a2 all0)
 have Z107 : n0 ≤ h103.size := Nat.le_trans Z0 K103.1
 have K108 := Keep.trans K0 K103 (allS (oL 1 rfl) all0)
 have k109 := f_alN X103 hx k103 (H 3 rfl) rfl
 have k110 := f_alN X103 hx k109 (H 4 rfl) rfl
 have k111 := f_ic X103 hx k110 (H 5 rfl) (v := 0) rfl
 have k112 := f_ic X103 hx k111 (H 6 rfl) (v := 1) rfl
 obtain ⟨_, T113, L113, X113, hQ113, k113⟩ := c_V (W := 0) (x := mn35) X103 hx hZ hown (hww 273 rfl) (hww 274 rfl) (notFace_of_selects (args := #[]) (mvT hZ (hww 276 rfl))) (hww 276 rfl) (hww 275 rfl) (hww 277 rfl) (hww 53 rfl) (by decide) F105.1 (pvl0 l Z a0 hw [] a1 p1 a2 a3 ix h103 n0 Z107 F105 ge_a1 hix hin) e103 (argsL := [(.int p1), (.ref a2), (.ref a3), zI, (.int (1 : Int32))]) (rest := []) rfl (by rw [hml]; rfl) k112 rfl (H 7 rfl) (lenOf pd__28ILjava_2flang_2fObject_3bLjava_2flang_2fObject_3bZZ_29Ljava_2flang_2fObject_3b rfl) (b5 rfl)
 obtain ⟨h113, e113⟩ : ∃ h', T113.heap = h' := ⟨_, rfl⟩
 rw [e113] at hQ113
 obtain ⟨nd113, tb113, kt113, rfl, N113q, K113, Zx113_0, Zx113_1, Nx113_0, R113_0, R113_1, R113_2, P113_0⟩ := hQ113
 have N114 := Fr.app N104 N113q
 have F115 := F106.keep K113 (allS ge_a1 all0)
 have F116 := R103_0.keep K113 (ninS (Ne.symm ne_a1_a2) nin0)
 have F117 := R103_1.keep K113 (ninS (Ne.symm ne_a1_b2) nin0)
 have Z118 : n0 ≤ h113.size := Nat.le_trans Z107 K113.1
 have K119 := Keep.trans K108 K113 (allS (oL 0 rfl) all0)
 exact fin_r X113 hx (w := .null) hrt hlk rfl (Or.inr (Or.inr (Or.inr (Or.inr ⟨rfl, rfl, rfl⟩)))) k113 (H 8 rfl) (by rw [e113]; exact ⟨nd113, tb113, kt113, rfl, N114, K119, (Nat.le_trans K108.1 Zx113_0), (Nat.le_trans K108.1 Zx113_1), Nx113_0, R113_0, R113_1, R113_2, F116, F117, P113_0⟩) (by decide) (by decide)
def Q_pvl1 (Z : State) (a1 : Addr) (p1 : Int32) (a2 a3 : Addr) (ix : Int32) (tb : Addr) (kt : ClassId) (tl : List Value) (sz mc : Int32) (h0 : Heap) (n0 : Nat) (v : Option Value) (h : Heap) (L : List Loc) : Prop := ∃ (nd : Addr), v = some .null ∧ Fr n0 L ∧ Keep h0 h [a1, tb] ∧ h0.size ≤ nd ∧ OBJ Z h a1 "java/util/HashMap" lyMP [(.ref tb), (.int (sz + (1 : Int32))), (.int (mc + (1 : Int32))), (.int (12 : Int32)), .null, (.float (1061158912 : UInt32))] ∧ Arv Z h tb kt (.object "java/util/HashMap$Node") (16 : Int32) (tl.set ix.toNatClampNeg (.ref nd)) .null ∧ OBJ Z h nd "java/util/HashMap$Node" lyND [(.int p1), (.ref a2), (.ref a3), .null]
theorem pvl1 (l : Launch) (Z : State) (a0 : Array Value) (hw : HW Z a0) (ws : List Jvm.Cond) (a1 : Addr) (p1 : Int32) (a2 a3 : Addr) (ix : Int32) (tb : Addr) (kt : ClassId) (tl : List Value) (sz mc : Int32) (h0 : Heap) (n0 : Nat) (Z0 : n0 ≤ h0.size) (Fk0 : OBJ Z h0 a1 "java/util/HashMap" lyMP [(.ref tb), (.int sz), (.int mc), (.int (12 : Int32)), .null, (.float (1061158912 : UInt32))]) (Fk1 : Arv Z h0 tb kt (.object "java/util/HashMap$Node") (16 : Int32) tl .null) (ge_a1 : n0 ≤ a1) (ge_tb : n0 ≤ tb) (ne_a1_tb : a1 ≠ tb) (hix : (15 : Int32) &&& p1 = ix) (hin : ¬ ix < (0 : Int32) ∧ ix < (16 : Int32)) (hlen : tl.length = 16) (hnul : tl.getD ix.toNatClampNeg .null = .null) (Ov : Ovr Z kt "java/util/HashMap$Node") (hth : ¬ ((12 : Int32) < sz + (1 : Int32))) :
  Met l mn35 jdk_69_method_16_code 13 (some (.object "java/lang/Object")) ws (rm 3 1 4 47) #[(.ref a1), (.int p1), (.ref a2), (.ref a3), zI, (.int (1 : Int32))] Z h0 (Q_pvl1 Z a1 p1 a2 a3 ix tb kt tl sz mc h0 n0) := by
 refine Met.intro (plainFor_of_name pn_java_2futil_2fHashMap) ?_
 intro p e s m below meth c s₁ hx hby hml hZ hown hnm hrt hlk X0 e0
 have N0 := Fr.nil n0
 have hww := @hvw _ _ hw
 have k0 := k_e (p := p) (e := e) (below := below) (s := s₁) (ef_38_RIRRII m a1 p1 a2 a3 (0 : Int32) (1 : Int32))
 have K0 := Keep.refl h0 [a1, tb]
 have H := @dch _ _ _ hby D38
 have k101 := f_alN X0 hx k0 (H 0 rfl) rfl
 obtain ⟨T102, X102, e102, k103⟩ := gFs X0 hx hZ hown (hww 278 rfl) e0 (Fk0.g 0 (v := (.ref tb)) (by decide) rfl rfl) k101 (H 1 rfl)
 have k104 := f_dup X102 hx k103 (H 2 rfl) rfl
 have k105 := f_as X102 hx k104 (H 3 rfl) (l' := #[sr a1, si p1, sr a2, sr a3, si 0, si 1, sr tb, un, un, un, un, un, un]) rfl
 have k106 := f_inN X102 hx k105 (H 4 rfl)
 have k107 := f_al X102 hx k106 (H 54 rfl) rfl
 have k108 := f_len X102 hx hZ e102 Fk1 k107 (H 55 rfl)
 have k109 := f_dup X102 hx k108 (H 56 rfl) rfl
 have k110 := f_is X102 hx k109 (H 57 rfl) (l' := #[sr a1, si p1, sr a2, sr a3, si 0, si 1, sr tb, un, si 16, un, un, un, un]) rfl
 have k111 := f_ifY X102 hx k110 (H 58 rfl) (pc' := 29) ((if0 _ _).trans (feq (by decide)).2) (by decide)
 have k112 := f_al X102 hx k111 (H 11 rfl) rfl
 have k113 := f_il X102 hx k112 (H 12 rfl) rfl
 have k114 := f_ic X102 hx k113 (H 13 rfl) (v := 1) rfl
 have k115 := f_isub X102 hx k114 (H 14 rfl) (r := 15) (by decide)
 have k116 := f_ilN X102 hx k115 (H 15 rfl) rfl
 have k117 := f_iand X102 hx k116 (H 16 rfl) rfl
 have k118 := f_dup X102 hx k117 (H 17 rfl) rfl
 have k119 := f_is X102 hx k118 (H 18 rfl) (l' := #[sr a1, si p1, sr a2, sr a3, si 0, si 1, sr tb, un, si 16, si ((15 : Int32) &&& p1), un, un, un]) rfl
 have k120 : Rt p e below T102 (mkF m 40 #[sr a1, si p1, sr a2, sr a3, si 0, si 1, sr tb, un, si 16, si ix, un, un, un] [vI ix, vR tb]) s₁ m #[(.ref a1), (.int p1), (.ref a2), (.ref a3), zI, (.int (1 : Int32))] 13 := fun t q => k119 t (castTop (by rw [show ((15 : Int32) &&& p1) = ix from hix] <;> rfl) q)
 have k121 := f_aal X102 hx hZ e102 Fk1 k120 (H 19 rfl) (v := .null) rfl hin hnul
 have k122 := f_dup X102 hx k121 (H 20 rfl) rfl
 have k123 := f_ns X102 hx k122 (H 21 rfl) (l' := #[sr a1, si p1, sr a2, sr a3, si 0, si 1, sr tb, .val .null, si 16, si ix, un, un, un]) rfl
 have k124 := f_nnN X102 hx k123 (H 22 rfl)
 have k125 := f_al X102 hx k124 (H 23 rfl) rfl
 have k126 := f_il X102 hx k125 (H 24 rfl) rfl
 have k127 := f_alN X102 hx k126 (H 25 rfl) rfl
 have k128 := f_ilN X102 hx k127 (H 26 rfl) rfl
 have k129 := f_alN X102 hx k128 (H 27 rfl) rfl
 have k130 := f_alN X102 hx k129 (H 28 rfl) rfl
 have k131 := f_an X102 hx k130 (H 29 rfl)
 obtain ⟨_, T132, L132, X132, hQ132, k132⟩ := c_V (W := 2) (x := mn32) X102 hx hZ hown (hww 288 rfl) (hww 289 rfl) (notFace_of_selects (args := #[]) (mvT hZ (hww 291 rfl))) (hww 291 rfl) (hww 290 rfl) (hww 292 rfl) (hww 53 rfl) (by decide) Fk0.1 (nwn l Z a0 hw [] a1 p1 a2 a3 h0 n0 Z0 ) e102 (argsL := [(.int p1), (.ref a2), (.ref a3), .null]) (rest := [(.int ix), (.ref tb)]) rfl (by rw [hml]; rfl) k131 rfl (H 30 rfl) (lenOf pd__28ILjava_2flang_2fObject_3bLjava_2flang_2fObject_3bLjava_2futil_2fHashMap_24Node_3b_29Ljava_2futil_2fHashMap_24Node_3b rfl) (b5 rfl)
 obtain ⟨h132, e132⟩ : ∃ h', T132.heap = h' := ⟨_, rfl⟩
 rw [e132] at hQ132
 obtain ⟨nd132, rfl, N132q, K132, Zx132_0, R132_0⟩ := hQ132
 have N133 := Fr.app N0 N132q
 have F134 := Fk0.keep K132 nin0
 have F135 := Fk1.keep K132 nin0
 have Z136 : n0 ≤ h132.size := Nat.le_trans Z0 K132.1
 have K137 := Keep.trans K0 K132 all0
 obtain ⟨T138, h138, L138, X138, e138, W138, V138, N138, Z138, k138⟩ := f_ast X132 hx hZ e132 F135 N133 ge_tb Z136 k132 (H 31 rfl) rfl rfl (fun cc A q => Sto.ofV A q Ov (Ins.self R132_0.1)) hin ix.toNatClampNeg rfl (own_in16 hlen hin)
 have K139 := kw K137 W138 1 rfl
 have B140 := F134.other W138 ne_a1_tb
 have B141 := R132_0.other W138 (nG Fk1.lt Zx132_0)
 have k142 := f_go X138 hx k138 (H 32 rfl) (pc' := 259) (by decide)
 have k143 := f_alN X138 hx k142 (H 33 rfl) rfl
 have k144 := f_dup X138 hx k143 (H 34 rfl) rfl
 obtain ⟨T145, X145, e145, k146⟩ := gFs X138 hx hZ hown (hww 308 rfl) e138 (B140.g 2 (v := (.int mc)) (by decide) rfl rfl) k144 (H 35 rfl)
 have k147 := f_ic X145 hx k146 (H 36 rfl) (v := 1) rfl
 have k148 := f_iadd X145 hx k147 (H 37 rfl) rfl
 obtain ⟨T149, h149, L149, X149, e149, W149, B149, N149, Z149, k149⟩ := f_pF X145 hx hZ hown (hww 308 rfl) Via.refl e145 B140 (snMP hw) (Or.inl (hww 147 rfl)) (hww 52 rfl) 2 (by decide) rfl rfl (ty := .int) (by decide) rfl rfl N138 ge_a1 Z138 k148 (H 38 rfl) rfl
 have F150 := V138.other W149 (Ne.symm ne_a1_tb)
 have K151 := kw K139 W149 0 rfl
 have B152 := B141.other W149 (nG Fk0.lt Zx132_0)
 have k153 := f_alN X149 hx k149 (H 39 rfl) rfl
 have k154 := f_dup X149 hx k153 (H 40 rfl) rfl
 obtain ⟨T155, X155, e155, k156⟩ := gFs X149 hx hZ hown (hww 97 rfl) e149 (B149.g 1 (v := (.int sz)) (by decide) rfl rfl) k154 (H 41 rfl)
 have k157 := f_ic X155 hx k156 (H 42 rfl) (v := 1) rfl
 have k158 := f_iadd X155 hx k157 (H 43 rfl) rfl
 have k159 := f_dupX1 X155 hx k158 (H 44 rfl) rfl rfl
 obtain ⟨T160, h160, L160, X160, e160, W160, B160, N160, Z160, k160⟩ := f_pF X155 hx hZ hown (hww 97 rfl) Via.refl e155 B149 (snMP hw) (Or.inl (hww 98 rfl)) (hww 52 rfl) 1 (by decide) rfl rfl (ty := .int) (by decide) rfl rfl N149 ge_a1 Z149 k159 (H 45 rfl) rfl
 have F161 := F150.other W160 (Ne.symm ne_a1_tb)
 have K162 := kw K151 W160 0 rfl
 have B163 := B152.other W160 (nG Fk0.lt Zx132_0)
 have k164 := f_alN X160 hx k160 (H 46 rfl) rfl
 obtain ⟨T165, X165, e165, k166⟩ := gFs X160 hx hZ hown (hww 284 rfl) e160 (B160.g 3 (v := (.int (12 : Int32))) (by decide) rfl rfl) k164 (H 47 rfl)
 have k167 := f_icY X165 hx k166 (H 48 rfl) (pc' := 292) (flt hth).2.2.2 (by decide)
 have k168 := f_alN X165 hx k167 (H 49 rfl) rfl
 have k169 := f_il X165 hx k168 (H 50 rfl) rfl
 obtain ⟨_, T170, L170, X170, hQ170, k170⟩ := c_V (W := 0) (x := mn33) X165 hx hZ hown (hww 309 rfl) (hww 310 rfl) (notFace_of_selects (args := #[]) (mvT hZ (hww 312 rfl))) (hww 312 rfl) (hww 311 rfl) (hww 313 rfl) (hww 53 rfl) (by decide) B160.1 (ani l Z a0 hw [] a1 h160 n0 Z160 ) e165 (argsL := [(.int (1 : Int32))]) (rest := []) rfl (by rw [hml]; rfl) k169 rfl (H 51 rfl) (lenOf pd__28Z_29V rfl) (b5 rfl)
 obtain ⟨rfl, N170q, e170⟩ := hQ170
 have N171 := Fr.app N160 N170q
 have k172 := f_an X170 hx k170 (H 52 rfl)
 exact fin_r X170 hx (w := .null) hrt hlk rfl (Or.inr (Or.inr (Or.inr (Or.inr ⟨rfl, rfl, rfl⟩)))) k172 (H 53 rfl) (by rw [e170]; exact ⟨nd132, rfl, N171, K162, (Nat.le_trans K0.1 Zx132_0), B160, F161, B163⟩) (by decide) (by decide)
def Q_put1 (Z : State) (a1 : Addr) (p1 : Int32) (a2 a3 : Addr) (ix : Int32) (tb : Addr) (kt : ClassId) (tl : List Value) (sz mc : Int32) (b2 : Addr) (kb : ClassId) (cs : Int32) (h0 : Heap) (n0 : Nat) (v : Option Value) (h : Heap) (L : List Loc) : Prop := ∃ (nd : Addr), v = some .null ∧ Fr n0 L ∧ Keep h0 h [a1, a2, tb] ∧ h0.size ≤ nd ∧ OBJ Z h a1 "java/util/HashMap" lyMP [(.ref tb), (.int (sz + (1 : Int32))), (.int (mc + (1 : Int32))), (.int (12 : Int32)), .null, (.float (1061158912 : UInt32))] ∧ Arv Z h tb kt (.object "java/util/HashMap$Node") (16 : Int32) (tl.set ix.toNatClampNeg (.ref nd)) .null ∧ OBJ Z h nd "java/util/HashMap$Node" lyND [(.int p1), (.ref a2), (.ref a3), .null] ∧ OBJ Z h a2 "java/lang/String" lyST [(.ref b2), zI, (.int p1), zI] ∧ Arv Z h b2 kb .byte (1 : Int32) [(.int p1)] zI
theorem put1 (l : Launch) (Z : State) (a0 : Array Value) (hw : HW Z a0) (ws : List Jvm.Cond) (a1 : Addr) (p1 : Int32) (a2 a3 : Addr) (ix : Int32) (tb : Addr) (kt : ClassId) (tl : List Value) (sz mc : Int32) (b2 : Addr) (kb : ClassId) (cs : Int32) (h0 : Heap) (n0 : Nat) (Z0 : n0 ≤ h0.size) (Fk0 : OBJ Z h0 a1 "java/util/HashMap" lyMP [(.ref tb), (.int sz), (.int mc), (.int (12 : Int32)), .null, (.float (1061158912 : UInt32))]) (Fk1 : Arv Z h0 tb kt (.object "java/util/HashMap$Node") (16 : Int32) tl .null) (Fk2 : OBJ Z h0 a2 "java/lang/String" lyST [(.ref b2), zI, zI, zI]) (Fk3 : Arv Z h0 b2 kb .byte (1 : Int32) [(.int p1)] zI) (ge_a1 : n0 ≤ a1) (ge_a2 : n0 ≤ a2) (ge_tb : n0 ≤ tb) (ne_a1_a2 : a1 ≠ a2) (ne_a2_b2 : a2 ≠ b2) (ne_a1_b2 : a1 ≠ b2) (ne_a1_tb : a1 ≠ tb) (ne_tb_a2 : tb ≠ a2) (ne_tb_b2 : tb ≠ b2) (hc3 : p1 &&& (255 : Int32) = p1) (hc4 : ¬ (p1 = (0 : Int32))) (hc5 : p1 ^^^ ((p1.toUInt32 >>> ((16 : Int32) &&& 31).toUInt32).toInt32) = p1) (Scs : Sta Z Z.heap "java/lang/String" "COMPACT_STRINGS" "Z" (.int cs)) (hcs : ¬ (cs = (0 : Int32))) (hix : (15 : Int32) &&& p1 = ix) (hin : ¬ ix < (0 : Int32) ∧ ix < (16 : Int32)) (hlen : tl.length = 16) (hnul : tl.getD ix.toNatClampNeg .null = .null) (Ov : Ovr Z kt "java/util/HashMap$Node") (hth : ¬ ((12 : Int32) < sz + (1 : Int32))) (O0 : Old Z n0 h0) :
  Met l mn36 jdk_69_method_15_code 3 (some (.object "java/lang/Object")) ws (rm 4 1 4 71) #[(.ref a1), (.ref a2), (.ref a3)] Z h0 (Q_put1 Z a1 p1 a2 a3 ix tb kt tl sz mc b2 kb cs h0 n0) := by
 refine Met.intro (plainFor_of_name pn_java_2futil_2fHashMap) ?_
 intro p e s m below meth c s₁ hx hby hml hZ hown hnm hrt hlk X0 e0
 have N0 := Fr.nil n0
 have hww := @hvw _ _ hw
 have k0 := k_e (p := p) (e := e) (below := below) (s := s₁) (ef_33_RRR m a1 a2 a3)
 have K0 := Keep.refl h0 [a1, a2, tb]
 have H := @dch _ _ _ hby D33
 have k101 := f_alN X0 hx k0 (H 0 rfl) rfl
 have k102 := f_alN X0 hx k101 (H 1 rfl) rfl
 obtain ⟨_, T103, L103, X103, hQ103, k103⟩ := c_S (W := 1) X0 hx hZ hown (hww 252 rfl) (hww 253 rfl) (hww 53 rfl) (hww 254 rfl) (by decide) (hsh0 l Z a0 hw [] a2 b2 kb p1 cs h0 n0 Z0 Fk2 Fk3 ge_a2 ne_a2_b2 hc3 hc4 hc5 Scs hcs O0) e0 (argsL := [(.ref a2)]) (rest := [(.ref a1)]) rfl (by rw [hml]; rfl) k102 rfl (H 2 rfl) (lenOf pd__28Ljava_2flang_2fObject_3b_29I rfl) (b5 rfl)
 obtain ⟨h103, e103⟩ : ∃ h', T103.heap = h' := ⟨_, rfl⟩
 rw [e103] at hQ103
 obtain ⟨rfl, N103q, K103, R103_0, R103_1⟩ := hQ103
 have N104 := Fr.app N0 N103q
 have F105 := Fk0.keep K103 (ninS ne_a1_a2 nin0)
 have F106 := Fk1.keep K103 (ninS ne_tb_a2 nin0)
 have F107 := O0.keep K103 (allS ge_a2 all0)
 have Z108 : n0 ≤ h103.size := Nat.le_trans Z0 K103.1
 have K109 := Keep.trans K0 K103 (allS (oL 1 rfl) all0)
 have k110 := f_alN X103 hx k103 (H 3 rfl) rfl
 have k111 := f_alN X103 hx k110 (H 4 rfl) rfl
 have k112 := f_ic X103 hx k111 (H 5 rfl) (v := 0) rfl
 have k113 := f_ic X103 hx k112 (H 6 rfl) (v := 1) rfl
 obtain ⟨_, T114, L114, X114, hQ114, k114⟩ := c_V (W := 0) (x := mn35) X103 hx hZ hown (hww 273 rfl) (hww 274 rfl) (notFace_of_selects (args := #[]) (mvT hZ (hww 276 rfl))) (hww 276 rfl) (hww 275 rfl) (hww 277 rfl) (hww 53 rfl) (by decide) F105.1 (pvl1 l Z a0 hw [] a1 p1 a2 a3 ix tb kt tl sz mc h103 n0 Z108 F105 F106 ge_a1 ge_tb ne_a1_tb hix hin hlen hnul Ov hth) e103 (argsL := [(.int p1), (.ref a2), (.ref a3), zI, (.int (1 : Int32))]) (rest := []) rfl (by rw [hml]; rfl) k113 rfl (H 7 rfl) (lenOf pd__28ILjava_2flang_2fObject_3bLjava_2flang_2fObject_3bZZ_29Ljava_2flang_2fObject_3b rfl) (b5 rfl)
 obtain ⟨h114, e114⟩ : ∃ h', T114.heap = h' := ⟨_, rfl⟩
 rw [e114] at hQ114
 obtain ⟨nd114, rfl, N114q, K114, Zx114_0, R114_0, R114_1, R114_2⟩ := hQ114
 have N115 := Fr.app N104 N114q
 have F116 := F107.keep K114 (allS ge_a1 (allS ge_tb all0))
 have F117 := R103_0.keep K114 (ninS (Ne.symm ne_a1_a2) (ninS (Ne.symm ne_tb_a2) nin0))
 have F118 := R103_1.keep K114 (ninS (Ne.symm ne_a1_b2) (ninS (Ne.symm ne_tb_b2) nin0))
 have Z119 : n0 ≤ h114.size := Nat.le_trans Z108 K114.1
 have K120 := Keep.trans K109 K114 (allS (oL 0 rfl) (allS (oL 2 rfl) all0))
 exact fin_r X114 hx (w := .null) hrt hlk rfl (Or.inr (Or.inr (Or.inr (Or.inr ⟨rfl, rfl, rfl⟩)))) k114 (H 8 rfl) (by rw [e114]; exact ⟨nd114, rfl, N115, K120, (Nat.le_trans K109.1 Zx114_0), R114_0, R114_1, R114_2, F117, F118⟩) (by decide) (by decide)
theorem ef_49_RR (m : MethodId) (x0 : Addr) (x1 : Addr) : entryFrame m #[(.ref x0), (.ref x1)] 8 = mkF m 0 #[.val (.ref x0), .val (.ref x1), .unset, .unset, .unset, .unset, .unset, .unset] [] := by first | (simp [entryFrame, mkF, argsToLocals, Value.category]; done) | rfl
def Q_gnd1 (Z : State) (a1 a2 : Addr) (p1 ix : Int32) (tb : Addr) (kt : ClassId) (tl : List Value) (nd vl : Addr) (h0 : Heap) (n0 : Nat) (v : Option Value) (h : Heap) (L : List Loc) : Prop := v = some (.ref nd) ∧ Fr n0 L ∧ h = h0
theorem gnd1 (l : Launch) (Z : State) (a0 : Array Value) (hw : HW Z a0) (ws : List Jvm.Cond) (a1 a2 : Addr) (p1 ix : Int32) (tb : Addr) (kt : ClassId) (tl : List Value) (nd vl : Addr) (h0 : Heap) (n0 : Nat) (Z0 : n0 ≤ h0.size) (Fk0 : Exa Z h0 a1 "java/util/HashMap") (Fk1 : Fld Z h0 a1 "java/util/HashMap" "table" "[Ljava/util/HashMap$Node;" (.ref tb)) (Fk2 : Arv Z h0 tb kt (.object "java/util/HashMap$Node") (16 : Int32) tl .null) (Fk3 : Exa Z h0 a2 "java/lang/String") (Fk4 : Fld Z h0 a2 "java/lang/String" "hash" "I" (.int p1)) (Fk5 : OBJ Z h0 nd "java/util/HashMap$Node" lyND [(.int p1), (.ref a2), (.ref vl), .null]) (hc4 : ¬ (p1 = (0 : Int32))) (hc5 : p1 ^^^ ((p1.toUInt32 >>> ((16 : Int32) &&& 31).toUInt32).toInt32) = p1) (hix : (15 : Int32) &&& p1 = ix) (hin : ¬ ix < (0 : Int32) ∧ ix < (16 : Int32)) (hat : tl.getD ix.toNatClampNeg .null = .ref nd) :
  Met l mn37 jdk_69_method_13_code 8 (some (.object "java/util/HashMap$Node")) ws (rm 2 0 0 28) #[(.ref a1), (.ref a2)] Z h0 (Q_gnd1 Z a1 a2 p1 ix tb kt tl nd vl h0 n0) := by
 refine Met.intro (plainFor_of_name pn_java_2futil_2fHashMap) ?_
 intro p e s m below meth c s₁ hx hby hml hZ hown hnm hrt hlk X0 e0
 have N0 := Fr.nil n0
 have hww := @hvw _ _ hw
 have k0 := k_e (p := p) (e := e) (below := below) (s := s₁) (ef_49_RR m a1 a2)
 have H := @dch _ _ _ hby D49
 have k101 := f_alN X0 hx k0 (H 0 rfl) rfl
 obtain ⟨T102, X102, e102, k103⟩ := gFs X0 hx hZ hown (hww 278 rfl) e0 Fk1 k101 (H 1 rfl)
 have k104 := f_dup X102 hx k103 (H 2 rfl) rfl
 have k105 := f_asN X102 hx k104 (H 3 rfl) (l' := #[sr a1, sr a2, sr tb, un, un, un, un, un]) rfl
 have k106 := f_inN X102 hx k105 (H 4 rfl)
 have k107 := f_alN X102 hx k106 (H 5 rfl) rfl
 have k108 := f_len X102 hx hZ e102 Fk2 k107 (H 6 rfl)
 have k109 := f_dup X102 hx k108 (H 7 rfl) rfl
 have k110 := f_is X102 hx k109 (H 8 rfl) (l' := #[sr a1, sr a2, sr tb, un, un, si 16, un, un]) rfl
 have k111 := f_ifN X102 hx k110 (H 9 rfl) ((if0 _ _).trans (tlt (by decide)).2.2.2)
 have k112 := f_alN X102 hx k111 (H 10 rfl) rfl
 have k113 := f_il X102 hx k112 (H 11 rfl) rfl
 have k114 := f_ic X102 hx k113 (H 12 rfl) (v := 1) rfl
 have k115 := f_isub X102 hx k114 (H 13 rfl) (r := 15) (by decide)
 have k116 := f_alN X102 hx k115 (H 14 rfl) rfl
 obtain ⟨_, T117, L117, X117, hQ117, k117⟩ := c_S (W := 2) X102 hx hZ hown (hww 252 rfl) (hww 253 rfl) (hww 53 rfl) (hww 254 rfl) (by decide) (hsh1 l Z a0 hw [] a2 p1 h0 n0 Z0 Fk3 Fk4 hc4 hc5) e102 (argsL := [(.ref a2)]) (rest := [(.int (15 : Int32)), (.ref tb)]) rfl (by rw [hml]; rfl) k116 rfl (H 15 rfl) (lenOf pd__28Ljava_2flang_2fObject_3b_29I rfl) (b5 rfl)
 obtain ⟨rfl, N117q, e117⟩ := hQ117
 have N118 := Fr.app N0 N117q
 have k119 := f_dup X117 hx k117 (H 16 rfl) rfl
 have k120 := f_is X117 hx k119 (H 17 rfl) (l' := #[sr a1, sr a2, sr tb, un, un, si 16, si p1, un]) rfl
 have k121 := f_iand X117 hx k120 (H 18 rfl) rfl
 have k122 : Rt p e below T117 (mkF m 30 #[sr a1, sr a2, sr tb, un, un, si 16, si p1, un] [vI ix, vR tb]) s₁ m #[(.ref a1), (.ref a2)] 8 := fun t q => k121 t (castTop (by rw [show ((15 : Int32) &&& p1) = ix from hix] <;> rfl) q)
 have k123 := f_aal X117 hx hZ e117 Fk2 k122 (H 19 rfl) (v := (.ref nd)) rfl hin hat
 have k124 := f_dup X117 hx k123 (H 20 rfl) rfl
 have k125 := f_asN X117 hx k124 (H 21 rfl) (l' := #[sr a1, sr a2, sr tb, sr nd, un, si 16, si p1, un]) rfl
 have k126 := f_inN X117 hx k125 (H 22 rfl)
 have k127 := f_alN X117 hx k126 (H 23 rfl) rfl
 obtain ⟨T128, X128, e128, k129⟩ := gFs X117 hx hZ hown (hww 356 rfl) e117 (Fk5.g 0 (v := (.int p1)) (by decide) rfl rfl) k127 (H 24 rfl)
 have k130 := f_il X128 hx k129 (H 25 rfl) rfl
 have k131 := f_icN X128 hx k130 (H 26 rfl) (teq rfl).2
 have k132 := f_alN X128 hx k131 (H 27 rfl) rfl
 obtain ⟨T133, X133, e133, k134⟩ := gFs X128 hx hZ hown (hww 357 rfl) e128 (Fk5.g 1 (v := (.ref a2)) (by decide) rfl rfl) k132 (H 28 rfl)
 have k135 := f_dup X133 hx k134 (H 29 rfl) rfl
 have k136 := f_as X133 hx k135 (H 30 rfl) (l' := #[sr a1, sr a2, sr tb, sr nd, un, si 16, si p1, sr a2]) rfl
 have k137 := f_alN X133 hx k136 (H 31 rfl) rfl
 have k138 : Rt p e below T133 (mkF m 69 #[sr a1, sr a2, sr tb, sr nd, un, si 16, si p1, sr a2] []) s₁ m #[(.ref a1), (.ref a2)] 8 := fun t k => k137 t (by
  show Sp p e below T133 (mkF m 53 #[sr a1, sr a2, sr tb, sr nd, un, si 16, si p1, sr a2] [vR a2, vR a2]) _
  refine Jvm.RoadKit.acmp X133 hx rfl (x := (.ref a2)) (y := (.ref a2)) rfl rfl (same := true) (pc0 := 53) (pc' := 69) rfl (H 32 rfl) rfl (decide_eq_true rfl) (by decide) (by decide) ?_
  exact k)
 have k139 := f_alN X133 hx k138 (H 33 rfl) rfl
 exact fin_r X133 hx (w := (.ref nd)) hrt hlk rfl (Or.inr (Or.inr (Or.inr (Or.inr ⟨rfl, rfl, rfl⟩)))) k139 (H 34 rfl) (by rw [e133]; exact ⟨rfl, N118, rfl⟩) (by decide) (by decide)
theorem ef_48_RRR (m : MethodId) (x0 : Addr) (x1 : Addr) (x2 : Addr) : entryFrame m #[(.ref x0), (.ref x1), (.ref x2)] 4 = mkF m 0 #[.val (.ref x0), .val (.ref x1), .val (.ref x2), .unset] [] := by first | (simp [entryFrame, mkF, argsToLocals, Value.category]; done) | rfl
theorem pd__28Ljava_2flang_2fObject_3b_29Ljava_2futil_2fHashMap_24Node_3b : parseMethodDescriptor "(Ljava/lang/Object;)Ljava/util/HashMap$Node;" = some ⟨[(.object "java/lang/Object")], some (.object "java/util/HashMap$Node")⟩ := by decide +kernel
def Q_god1 (Z : State) (a1 a2 : Addr) (p1 ix : Int32) (tb : Addr) (kt : ClassId) (tl : List Value) (nd vl df : Addr) (h0 : Heap) (n0 : Nat) (v : Option Value) (h : Heap) (L : List Loc) : Prop := v = some (.ref vl) ∧ Fr n0 L ∧ h = h0
theorem god1 (l : Launch) (Z : State) (a0 : Array Value) (hw : HW Z a0) (ws : List Jvm.Cond) (a1 a2 : Addr) (p1 ix : Int32) (tb : Addr) (kt : ClassId) (tl : List Value) (nd vl df : Addr) (h0 : Heap) (n0 : Nat) (Z0 : n0 ≤ h0.size) (Fk0 : Exa Z h0 a1 "java/util/HashMap") (Fk1 : Fld Z h0 a1 "java/util/HashMap" "table" "[Ljava/util/HashMap$Node;" (.ref tb)) (Fk2 : Arv Z h0 tb kt (.object "java/util/HashMap$Node") (16 : Int32) tl .null) (Fk3 : Exa Z h0 a2 "java/lang/String") (Fk4 : Fld Z h0 a2 "java/lang/String" "hash" "I" (.int p1)) (Fk5 : OBJ Z h0 nd "java/util/HashMap$Node" lyND [(.int p1), (.ref a2), (.ref vl), .null]) (hc4 : ¬ (p1 = (0 : Int32))) (hc5 : p1 ^^^ ((p1.toUInt32 >>> ((16 : Int32) &&& 31).toUInt32).toInt32) = p1) (hix : (15 : Int32) &&& p1 = ix) (hin : ¬ ix < (0 : Int32) ∧ ix < (16 : Int32)) (hat : tl.getD ix.toNatClampNeg .null = .ref nd) :
  Met l mn38 jdk_69_method_30_code 4 (some (.object "java/lang/Object")) ws (rm 3 0 0 47) #[(.ref a1), (.ref a2), (.ref df)] Z h0 (Q_god1 Z a1 a2 p1 ix tb kt tl nd vl df h0 n0) := by
 refine Met.intro (plainFor_of_name pn_java_2futil_2fHashMap) ?_
 intro p e s m below meth c s₁ hx hby hml hZ hown hnm hrt hlk X0 e0
 have N0 := Fr.nil n0
 have hww := @hvw _ _ hw
 have k0 := k_e (p := p) (e := e) (below := below) (s := s₁) (ef_48_RRR m a1 a2 df)
 have H := @dch _ _ _ hby D48
 have k101 := f_alN X0 hx k0 (H 0 rfl) rfl
 have k102 := f_alN X0 hx k101 (H 1 rfl) rfl
 obtain ⟨_, T103, L103, X103, hQ103, k103⟩ := c_V (W := 0) (x := mn37) X0 hx hZ hown (hww 351 rfl) (hww 352 rfl) (notFace_of_selects (args := #[]) (mvT hZ (hww 354 rfl))) (hww 354 rfl) (hww 353 rfl) (hww 355 rfl) (hww 53 rfl) (by decide) Fk0 (gnd1 l Z a0 hw [] a1 a2 p1 ix tb kt tl nd vl h0 n0 Z0 Fk0 Fk1 Fk2 Fk3 Fk4 Fk5 hc4 hc5 hix hin hat) e0 (argsL := [(.ref a2)]) (rest := []) rfl (by rw [hml]; rfl) k102 rfl (H 2 rfl) (lenOf pd__28Ljava_2flang_2fObject_3b_29Ljava_2futil_2fHashMap_24Node_3b rfl) (b5 rfl)
 obtain ⟨rfl, N103q, e103⟩ := hQ103
 have N104 := Fr.app N0 N103q
 have k105 := f_dup X103 hx k103 (H 3 rfl) rfl
 have k106 := f_asN X103 hx k105 (H 4 rfl) (l' := #[sr a1, sr a2, sr df, sr nd]) rfl
 have k107 := f_nnY X103 hx k106 (H 5 rfl) (pc' := 14) (by decide)
 have k108 := f_alN X103 hx k107 (H 6 rfl) rfl
 obtain ⟨T109, X109, e109, k110⟩ := gFs X103 hx hZ hown (hww 358 rfl) e103 (Fk5.g 2 (v := (.ref vl)) (by decide) rfl rfl) k108 (H 7 rfl)
 exact fin_r X109 hx (w := (.ref vl)) hrt hlk rfl (Or.inr (Or.inr (Or.inr (Or.inr ⟨rfl, rfl, rfl⟩)))) k110 (H 8 rfl) (by rw [e109]; exact ⟨rfl, N104, rfl⟩) (by decide) (by decide)
def Q_gnd0 (Z : State) (a1 a2 b2 : Addr) (kb : ClassId) (p1 cs ix : Int32) (tb : Addr) (kt : ClassId) (tl : List Value) (h0 : Heap) (n0 : Nat) (v : Option Value) (h : Heap) (L : List Loc) : Prop := v = some .null ∧ Fr n0 L ∧ Keep h0 h [a2] ∧ OBJ Z h a2 "java/lang/String" lyST [(.ref b2), zI, (.int p1), zI] ∧ Arv Z h b2 kb .byte (1 : Int32) [(.int p1)] zI
theorem gnd0 (l : Launch) (Z : State) (a0 : Array Value) (hw : HW Z a0) (ws : List Jvm.Cond) (a1 a2 b2 : Addr) (kb : ClassId) (p1 cs ix : Int32) (tb : Addr) (kt : ClassId) (tl : List Value) (h0 : Heap) (n0 : Nat) (Z0 : n0 ≤ h0.size) (Fk0 : Exa Z h0 a1 "java/util/HashMap") (Fk1 : Fld Z h0 a1 "java/util/HashMap" "table" "[Ljava/util/HashMap$Node;" (.ref tb)) (Fk2 : Arv Z h0 tb kt (.object "java/util/HashMap$Node") (16 : Int32) tl .null) (Fk3 : OBJ Z h0 a2 "java/lang/String" lyST [(.ref b2), zI, zI, zI]) (Fk4 : Arv Z h0 b2 kb .byte (1 : Int32) [(.int p1)] zI) (ge_a2 : n0 ≤ a2) (ne_a2_b2 : a2 ≠ b2) (ne_a1_a2 : a1 ≠ a2) (ne_tb_a2 : tb ≠ a2) (hc3 : p1 &&& (255 : Int32) = p1) (hc4 : ¬ (p1 = (0 : Int32))) (hc5 : p1 ^^^ ((p1.toUInt32 >>> ((16 : Int32) &&& 31).toUInt32).toInt32) = p1) (Scs : Sta Z Z.heap "java/lang/String" "COMPACT_STRINGS" "Z" (.int cs)) (hcs : ¬ (cs = (0 : Int32))) (hix : (15 : Int32) &&& p1 = ix) (hin : ¬ ix < (0 : Int32) ∧ ix < (16 : Int32)) (hat : tl.getD ix.toNatClampNeg .null = .null) (O0 : Old Z n0 h0) :
  Met l mn37 jdk_69_method_13_code 8 (some (.object "java/util/HashMap$Node")) ws (rm 3 0 0 40) #[(.ref a1), (.ref a2)] Z h0 (Q_gnd0 Z a1 a2 b2 kb p1 cs ix tb kt tl h0 n0) := by
 refine Met.intro (plainFor_of_name pn_java_2futil_2fHashMap) ?_
 intro p e s m below meth c s₁ hx hby hml hZ hown hnm hrt hlk X0 e0
 have N0 := Fr.nil n0
 have hww := @hvw _ _ hw
 have k0 := k_e (p := p) (e := e) (below := below) (s := s₁) (ef_49_RR m a1 a2)
 have K0 := Keep.refl h0 [a2]
 have H := @dch _ _ _ hby D49
 have k101 := f_alN X0 hx k0 (H 0 rfl) rfl
 obtain ⟨T102, X102, e102, k103⟩ := gFs X0 hx hZ hown (hww 278 rfl) e0 Fk1 k101 (H 1 rfl)
 have k104 := f_dup X102 hx k103 (H 2 rfl) rfl
 have k105 := f_asN X102 hx k104 (H 3 rfl) (l' := #[sr a1, sr a2, sr tb, un, un, un, un, un]) rfl
 have k106 := f_inN X102 hx k105 (H 4 rfl)
 have k107 := f_alN X102 hx k106 (H 5 rfl) rfl
 have k108 := f_len X102 hx hZ e102 Fk2 k107 (H 6 rfl)
 have k109 := f_dup X102 hx k108 (H 7 rfl) rfl
 have k110 := f_is X102 hx k109 (H 8 rfl) (l' := #[sr a1, sr a2, sr tb, un, un, si 16, un, un]) rfl
 have k111 := f_ifN X102 hx k110 (H 9 rfl) ((if0 _ _).trans (tlt (by decide)).2.2.2)
 have k112 := f_alN X102 hx k111 (H 10 rfl) rfl
 have k113 := f_il X102 hx k112 (H 11 rfl) rfl
 have k114 := f_ic X102 hx k113 (H 12 rfl) (v := 1) rfl
 have k115 := f_isub X102 hx k114 (H 13 rfl) (r := 15) (by decide)
 have k116 := f_alN X102 hx k115 (H 14 rfl) rfl
 obtain ⟨_, T117, L117, X117, hQ117, k117⟩ := c_S (W := 2) X102 hx hZ hown (hww 252 rfl) (hww 253 rfl) (hww 53 rfl) (hww 254 rfl) (by decide) (hsh0 l Z a0 hw [] a2 b2 kb p1 cs h0 n0 Z0 Fk3 Fk4 ge_a2 ne_a2_b2 hc3 hc4 hc5 Scs hcs O0) e102 (argsL := [(.ref a2)]) (rest := [(.int (15 : Int32)), (.ref tb)]) rfl (by rw [hml]; rfl) k116 rfl (H 15 rfl) (lenOf pd__28Ljava_2flang_2fObject_3b_29I rfl) (b5 rfl)
 obtain ⟨h117, e117⟩ : ∃ h', T117.heap = h' := ⟨_, rfl⟩
 rw [e117] at hQ117
 obtain ⟨rfl, N117q, K117, R117_0, R117_1⟩ := hQ117
 have N118 := Fr.app N0 N117q
 have F119 := O0.keep K117 (allS ge_a2 all0)
 have Z120 : n0 ≤ h117.size := Nat.le_trans Z0 K117.1
 have K121 := Keep.trans K0 K117 (allS (oL 0 rfl) all0)
 have k122 := f_dup X117 hx k117 (H 16 rfl) rfl
 have k123 := f_is X117 hx k122 (H 17 rfl) (l' := #[sr a1, sr a2, sr tb, un, un, si 16, si p1, un]) rfl
 have k124 := f_iand X117 hx k123 (H 18 rfl) rfl
 have k125 : Rt p e below T117 (mkF m 30 #[sr a1, sr a2, sr tb, un, un, si 16, si p1, un] [vI ix, vR tb]) s₁ m #[(.ref a1), (.ref a2)] 8 := fun t q => k124 t (castTop (by rw [show ((15 : Int32) &&& p1) = ix from hix] <;> rfl) q)
 have k126 := f_aal X117 hx hZ e117 (Fk2.keep K121 (ninS ne_tb_a2 nin0)) k125 (H 19 rfl) (v := .null) rfl hin hat
 have k127 := f_dup X117 hx k126 (H 20 rfl) rfl
 have k128 := f_nsN X117 hx k127 (H 21 rfl) (l' := #[sr a1, sr a2, sr tb, .val .null, un, si 16, si p1, un]) rfl
 have k129 := f_inY X117 hx k128 (H 22 rfl) (pc' := 148) (by decide)
 have k130 := f_an X117 hx k129 (H 35 rfl)
 exact fin_r X117 hx (w := .null) hrt hlk rfl (Or.inr (Or.inr (Or.inr (Or.inr ⟨rfl, rfl, rfl⟩)))) k130 (H 36 rfl) (by rw [e117]; exact ⟨rfl, N118, K121, R117_0, R117_1⟩) (by decide) (by decide)
def Q_god0 (Z : State) (a1 a2 b2 : Addr) (kb : ClassId) (p1 cs ix : Int32) (tb : Addr) (kt : ClassId) (tl : List Value) (df : Addr) (h0 : Heap) (n0 : Nat) (v : Option Value) (h : Heap) (L : List Loc) : Prop := v = some (.ref df) ∧ Fr n0 L ∧ Keep h0 h [a2] ∧ OBJ Z h a2 "java/lang/String" lyST [(.ref b2), zI, (.int p1), zI] ∧ Arv Z h b2 kb .byte (1 : Int32) [(.int p1)] zI
theorem god0 (l : Launch) (Z : State) (a0 : Array Value) (hw : HW Z a0) (ws : List Jvm.Cond) (a1 a2 b2 : Addr) (kb : ClassId) (p1 cs ix : Int32) (tb : Addr) (kt : ClassId) (tl : List Value) (df : Addr) (h0 : Heap) (n0 : Nat) (Z0 : n0 ≤ h0.size) (Fk0 : Exa Z h0 a1 "java/util/HashMap") (Fk1 : Fld Z h0 a1 "java/util/HashMap" "table" "[Ljava/util/HashMap$Node;" (.ref tb)) (Fk2 : Arv Z h0 tb kt (.object "java/util/HashMap$Node") (16 : Int32) tl .null) (Fk3 : OBJ Z h0 a2 "java/lang/String" lyST [(.ref b2), zI, zI, zI]) (Fk4 : Arv Z h0 b2 kb .byte (1 : Int32) [(.int p1)] zI) (ge_a2 : n0 ≤ a2) (ne_a2_b2 : a2 ≠ b2) (ne_a1_a2 : a1 ≠ a2) (ne_tb_a2 : tb ≠ a2) (hc3 : p1 &&& (255 : Int32) = p1) (hc4 : ¬ (p1 = (0 : Int32))) (hc5 : p1 ^^^ ((p1.toUInt32 >>> ((16 : Int32) &&& 31).toUInt32).toInt32) = p1) (Scs : Sta Z Z.heap "java/lang/String" "COMPACT_STRINGS" "Z" (.int cs)) (hcs : ¬ (cs = (0 : Int32))) (hix : (15 : Int32) &&& p1 = ix) (hin : ¬ ix < (0 : Int32) ∧ ix < (16 : Int32)) (hat : tl.getD ix.toNatClampNeg .null = .null) (O0 : Old Z n0 h0) :
  Met l mn38 jdk_69_method_30_code 4 (some (.object "java/lang/Object")) ws (rm 4 0 0 59) #[(.ref a1), (.ref a2), (.ref df)] Z h0 (Q_god0 Z a1 a2 b2 kb p1 cs ix tb kt tl df h0 n0) := by
 refine Met.intro (plainFor_of_name pn_java_2futil_2fHashMap) ?_
 intro p e s m below meth c s₁ hx hby hml hZ hown hnm hrt hlk X0 e0
 have N0 := Fr.nil n0
 have hww := @hvw _ _ hw
 have k0 := k_e (p := p) (e := e) (below := below) (s := s₁) (ef_48_RRR m a1 a2 df)
 have K0 := Keep.refl h0 [a2]
 have H := @dch _ _ _ hby D48
 have k101 := f_alN X0 hx k0 (H 0 rfl) rfl
 have k102 := f_alN X0 hx k101 (H 1 rfl) rfl
 obtain ⟨_, T103, L103, X103, hQ103, k103⟩ := c_V (W := 0) (x := mn37) X0 hx hZ hown (hww 351 rfl) (hww 352 rfl) (notFace_of_selects (args := #[]) (mvT hZ (hww 354 rfl))) (hww 354 rfl) (hww 353 rfl) (hww 355 rfl) (hww 53 rfl) (by decide) Fk0 (gnd0 l Z a0 hw [] a1 a2 b2 kb p1 cs ix tb kt tl h0 n0 Z0 Fk0 Fk1 Fk2 Fk3 Fk4 ge_a2 ne_a2_b2 ne_a1_a2 ne_tb_a2 hc3 hc4 hc5 Scs hcs hix hin hat O0) e0 (argsL := [(.ref a2)]) (rest := []) rfl (by rw [hml]; rfl) k102 rfl (H 2 rfl) (lenOf pd__28Ljava_2flang_2fObject_3b_29Ljava_2futil_2fHashMap_24Node_3b rfl) (b5 rfl)
 obtain ⟨h103, e103⟩ : ∃ h', T103.heap = h' := ⟨_, rfl⟩
 rw [e103] at hQ103
 obtain ⟨rfl, N103q, K103, R103_0, R103_1⟩ := hQ103
 have N104 := Fr.app N0 N103q
 have F105 := O0.keep K103 (allS ge_a2 all0)
 have Z106 : n0 ≤ h103.size := Nat.le_trans Z0 K103.1
 have K107 := Keep.trans K0 K103 (allS (oL 0 rfl) all0)
 have k108 := f_dup X103 hx k103 (H 3 rfl) rfl
 have k109 := f_nsN X103 hx k108 (H 4 rfl) (l' := #[sr a1, sr a2, sr df, .val .null]) rfl
 have k110 := f_nnN X103 hx k109 (H 5 rfl)
 have k111 := f_alN X103 hx k110 (H 9 rfl) rfl
 have k112 := f_go X103 hx k111 (H 10 rfl) (pc' := 18) (by decide)
 exact fin_r X103 hx (w := (.ref df)) hrt hlk rfl (Or.inr (Or.inr (Or.inr (Or.inr ⟨rfl, rfl, rfl⟩)))) k112 (H 8 rfl) (by rw [e103]; exact ⟨rfl, N104, K107, R103_0, R103_1⟩) (by decide) (by decide)
theorem ef_13_R (m : MethodId) (x0 : Addr) : entryFrame m #[(.ref x0)] 1 = mkF m 0 #[.val (.ref x0)] [] := by first | (simp [entryFrame, mkF, argsToLocals, Value.category]; done) | rfl
def Q_hsz (Z : State) (a1 : Addr) (p1 : Int32) (h0 : Heap) (n0 : Nat) (v : Option Value) (h : Heap) (L : List Loc) : Prop := v = some (.int p1) ∧ Fr n0 L ∧ h = h0
theorem hsz (l : Launch) (Z : State) (a0 : Array Value) (hw : HW Z a0) (ws : List Jvm.Cond) (a1 : Addr) (p1 : Int32) (h0 : Heap) (n0 : Nat) (Z0 : n0 ≤ h0.size) (Fk0 : Fld Z h0 a1 "java/util/HashMap" "size" "I" (.int p1)) :
  Met l mn39 jdk_69_method_10_code 1 (some .int) ws (rm 0 0 0 0) #[(.ref a1)] Z h0 (Q_hsz Z a1 p1 h0 n0) := by
 refine Met.intro (plainFor_of_name pn_java_2futil_2fHashMap) ?_
 intro p e s m below meth c s₁ hx hby hml hZ hown hnm hrt hlk X0 e0
 have N0 := Fr.nil n0
 have hww := @hvw _ _ hw
 have k0 := k_e (p := p) (e := e) (below := below) (s := s₁) (ef_13_R m a1)
 have H := @dch _ _ _ hby D13
 have k101 := f_alN X0 hx k0 (H 0 rfl) rfl
 obtain ⟨T102, X102, e102, k103⟩ := gFs X0 hx hZ hown (hww 97 rfl) e0 Fk0 k101 (H 1 rfl)
 exact fin_r X102 hx (w := (.int p1)) hrt hlk rfl (Or.inl ⟨rfl, Or.inl rfl, _, rfl⟩) k103 (H 2 rfl) (by rw [e102]; exact ⟨rfl, N0, rfl⟩) (by decide) (by decide)
theorem ef_15_RR (m : MethodId) (x0 : Addr) (x1 : Addr) : entryFrame m #[(.ref x0), (.ref x1)] 2 = mkF m 0 #[.val (.ref x0), .val (.ref x1)] [] := by first | (simp [entryFrame, mkF, argsToLocals, Value.category]; done) | rfl
def Q_vsi (Z : State) (a1 a2 : Addr) (h0 : Heap) (n0 : Nat) (v : Option Value) (h : Heap) (L : List Loc) : Prop := v = none ∧ Fr n0 L ∧ Keep h0 h [a1] ∧ OBJ Z h a1 "java/util/HashMap$Values" lyVS [(.ref a2)]
theorem pn_java_2futil_2fHashMap_24Values : plainName "java/util/HashMap$Values" = true := by first | (simp [plainName, overriddenIn]; done) | decide +kernel
theorem vsi (l : Launch) (Z : State) (a0 : Array Value) (hw : HW Z a0) (ws : List Jvm.Cond) (a1 a2 : Addr) (h0 : Heap) (n0 : Nat) (Z0 : n0 ≤ h0.size) (Fk0 : OBJ Z h0 a1 "java/util/HashMap$Values" lyVS [.null]) (ge_a1 : n0 ≤ a1) :
  Met l mn40 jdk_2571_method_1_code 2 none ws (rm 2 0 0 24) #[(.ref a1), (.ref a2)] Z h0 (Q_vsi Z a1 a2 h0 n0) := by
 refine Met.intro (plainFor_of_name pn_java_2futil_2fHashMap_24Values) ?_
 intro p e s m below meth c s₁ hx hby hml hZ hown hnm hrt hlk X0 e0
 have N0 := Fr.nil n0
 have hww := @hvw _ _ hw
 have k0 := k_e (p := p) (e := e) (below := below) (s := s₁) (ef_15_RR m a1 a2)
 have K0 := Keep.refl h0 [a1]
 have H := @dch _ _ _ hby D15
 have k101 := f_alN X0 hx k0 (H 0 rfl) rfl
 have k102 := f_alN X0 hx k101 (H 1 rfl) rfl
 obtain ⟨T103, h103, L103, X103, e103, W103, B103, N103, Z103, k103⟩ := f_pF X0 hx hZ hown (hww 117 rfl) Via.refl e0 Fk0 (snVS hw) (Or.inr ⟨(hww 118 rfl), rfl, hnm⟩) (hww 111 rfl) 0 (by decide) rfl rfl (ty := (.object "java/util/HashMap")) (by decide) rfl rfl N0 ge_a1 Z0 k102 (H 2 rfl) rfl
 have K104 := kw K0 W103 0 rfl
 have k105 := f_alN X103 hx k103 (H 3 rfl) rfl
 obtain ⟨_, T106, L106, X106, hQ106, k106⟩ := c_N (W := 0) X103 hx hZ hown (hww 119 rfl) (hww 40 rfl) (hww 44 rfl) (hww 43 rfl) rfl (by decide) (i_AbstractCollection l Z a0 hw [] a1 h103 n0 Z103 ) e103 (argsL := []) (rest := []) rfl (by rw [hml]; rfl) k105 rfl (H 4 rfl) (lenOf pd__28_29V rfl) (b5 rfl)
 obtain ⟨rfl, N106q, e106⟩ := hQ106
 have N107 := Fr.app N103 N106q
 exact fin_v X106 hx hrt hlk k106 (H 5 rfl) (by rw [e106]; exact ⟨rfl, N107, K104, B103⟩) (by decide) (by decide)
theorem ef_14_R (m : MethodId) (x0 : Addr) : entryFrame m #[(.ref x0)] 2 = mkF m 0 #[.val (.ref x0), .unset] [] := by first | (simp [entryFrame, mkF, argsToLocals, Value.category]; done) | rfl
theorem pd__28Ljava_2futil_2fHashMap_3b_29V : parseMethodDescriptor "(Ljava/util/HashMap;)V" = some ⟨[(.object "java/util/HashMap")], none⟩ := by decide +kernel
def Q_vls (Z : State) (a1 : Addr) (tv : Value) (sz mc th : Int32) (h0 : Heap) (n0 : Nat) (v : Option Value) (h : Heap) (L : List Loc) : Prop := ∃ (vw : Addr), v = some (.ref vw) ∧ Fr n0 L ∧ Keep h0 h [a1] ∧ h0.size ≤ vw ∧ OBJ Z h a1 "java/util/HashMap" lyMP [tv, (.int sz), (.int mc), (.int th), (.ref vw), (.float (1061158912 : UInt32))] ∧ OBJ Z h vw "java/util/HashMap$Values" lyVS [(.ref a1)]
theorem vls (l : Launch) (Z : State) (a0 : Array Value) (hw : HW Z a0) (ws : List Jvm.Cond) (a1 : Addr) (tv : Value) (sz mc th : Int32) (h0 : Heap) (n0 : Nat) (Z0 : n0 ≤ h0.size) (Fk0 : OBJ Z h0 a1 "java/util/HashMap" lyMP [tv, (.int sz), (.int mc), (.int th), .null, (.float (1061158912 : UInt32))]) (ge_a1 : n0 ≤ a1) :
  Met l mn41 jdk_69_method_28_code 2 (some (.object "java/util/Collection")) ws (rm 3 1 1 38) #[(.ref a1)] Z h0 (Q_vls Z a1 tv sz mc th h0 n0) := by
 refine Met.intro (plainFor_of_name pn_java_2futil_2fHashMap) ?_
 intro p e s m below meth c s₁ hx hby hml hZ hown hnm hrt hlk X0 e0
 have N0 := Fr.nil n0
 have hww := @hvw _ _ hw
 have k0 := k_e (p := p) (e := e) (below := below) (s := s₁) (ef_14_R m a1)
 have K0 := Keep.refl h0 [a1]
 have H := @dch _ _ _ hby D14
 have k101 := f_alN X0 hx k0 (H 0 rfl) rfl
 obtain ⟨T102, X102, e102, st102⟩ := getF X0 hx hZ hown (host := "") (Or.inl (hww 107 rfl)) (Via.of (hww 108 rfl)) e0 (Fk0.g 4 (v := .null) (by decide) rfl rfl) (g := (mkF m 1 #[sr a1, un] [vR a1])) rfl rfl (H 1 rfl)
 have k103 : Rt p e below T102 (mkF m 4 #[sr a1, un] [.null]) s₁ m #[(.ref a1)] 2 := fun t k => k101 t (st102 t k)
 have k104 := f_nsN X102 hx k103 (H 2 rfl) (l' := #[sr a1, .val .null]) rfl
 have k105 := f_nlN X102 hx k104 (H 3 rfl) rfl
 have k106 := f_nnN X102 hx k105 (H 4 rfl)
 obtain ⟨T107, h107, X107, e107, E107, A107, D107, -, st107⟩ := newO X102 hx hZ hown (hww 110 rfl) (hww 111 rfl) (hww 112 rfl) e102 (g := (mkF m 9 #[sr a1, .val .null] [])) rfl (H 5 rfl) (by decide) (by decide)
 obtain ⟨b107, g107⟩ : ∃ z, z = h0.size := ⟨_, rfl⟩
 rw [← g107] at A107 D107 st107
 have g108 : n0 ≤ b107 := Nat.le_trans Z0 (Nat.le_of_eq g107.symm)
 have z109 : h0.size ≤ b107 := Nat.le_trans K0.1 (Nat.le_of_eq g107.symm)
 have F110 := Fk0.ext E107
 have Z111 : n0 ≤ h107.size := Nat.le_trans Z0 E107.1
 have K112 := K0.ext E107
 have F113 : Fld Z h107 b107 "java/util/HashMap$Values" "this$0" "Ljava/util/HashMap;" .null := D107 (Or.inr (hww 118 rfl)) (ty := (.object "java/util/HashMap")) (by decide)
 have k114 : Rt p e below T107 (mkF m 12 #[sr a1, .val .null] [vR b107]) s₁ m #[(.ref a1)] 2 := fun t k => k106 t (st107 t k)
 have B115 := mkVS A107 F113
 have k116 := f_dup X107 hx k114 (H 6 rfl) rfl
 have k117 := f_alN X107 hx k116 (H 7 rfl) rfl
 obtain ⟨_, T118, L118, X118, hQ118, k118⟩ := c_N (W := 1) X107 hx hZ hown (hww 113 rfl) (hww 114 rfl) (hww 116 rfl) (hww 112 rfl) rfl (by decide) (vsi l Z a0 hw [] b107 a1 h107 n0 Z111 B115 g108) e107 (argsL := [(.ref a1)]) (rest := [(.ref b107)]) rfl (by rw [hml]; rfl) k117 rfl (H 8 rfl) (lenOf pd__28Ljava_2futil_2fHashMap_3b_29V rfl) (b5 rfl)
 obtain ⟨h118, e118⟩ : ∃ h', T118.heap = h' := ⟨_, rfl⟩
 rw [e118] at hQ118
 obtain ⟨rfl, N118q, K118, R118_0⟩ := hQ118
 have N119 := Fr.app N0 N118q
 have F120 := F110.keep K118 (ninS (nL Fk0.lt (Nat.le_of_eq g107.symm)) nin0)
 have Z121 : n0 ≤ h118.size := Nat.le_trans Z111 K118.1
 have K122 := Keep.trans K112 K118 (allS (Or.inr z109) all0)
 have k123 := f_asN X118 hx k118 (H 9 rfl) (l' := #[sr a1, sr b107]) rfl
 have k124 := f_alN X118 hx k123 (H 10 rfl) rfl
 have k125 := f_alN X118 hx k124 (H 11 rfl) rfl
 obtain ⟨T126, h126, L126, X126, e126, W126, B126, N126, Z126, k126⟩ := f_pF X118 hx hZ hown (hww 107 rfl) (Via.of (hww 108 rfl)) e118 F120 (snMP hw) (Or.inl (hww 109 rfl)) (hww 52 rfl) 4 (by decide) rfl rfl (ty := (.object "java/util/Collection")) (by decide) rfl rfl N119 ge_a1 Z121 k125 (H 12 rfl) rfl
 have K127 := kw K122 W126 0 rfl
 have B128 := R118_0.other W126 (nG Fk0.lt (Nat.le_of_eq g107.symm))
 have k129 := f_alN X126 hx k126 (H 13 rfl) rfl
 exact fin_r X126 hx (w := (.ref b107)) hrt hlk rfl (Or.inr (Or.inr (Or.inr (Or.inr ⟨rfl, rfl, rfl⟩)))) k129 (H 14 rfl) (by rw [e126]; exact ⟨b107, rfl, N126, K127, z109, B126, B128⟩) (by decide) (by decide)
theorem ef_19_R (m : MethodId) (x0 : Addr) : entryFrame m #[(.ref x0)] 1 = mkF m 0 #[.val (.ref x0)] [] := by first | (simp [entryFrame, mkF, argsToLocals, Value.category]; done) | rfl
def Q_hn1 (Z : State) (a1 nx : Addr) (h0 : Heap) (n0 : Nat) (v : Option Value) (h : Heap) (L : List Loc) : Prop := v = some (.int (1 : Int32)) ∧ Fr n0 L ∧ h = h0
theorem pn_java_2futil_2fHashMap_24HashIterator : plainName "java/util/HashMap$HashIterator" = true := by first | (simp [plainName, overriddenIn]; done) | decide +kernel
theorem hn1 (l : Launch) (Z : State) (a0 : Array Value) (hw : HW Z a0) (ws : List Jvm.Cond) (a1 nx : Addr) (h0 : Heap) (n0 : Nat) (Z0 : n0 ≤ h0.size) (Fk0 : Fld Z h0 a1 "java/util/HashMap$HashIterator" "next" "Ljava/util/HashMap$Node;" (.ref nx)) :
  Met l mn42 jdk_99_method_2_code 1 (some .boolean) ws (rm 0 0 0 0) #[(.ref a1)] Z h0 (Q_hn1 Z a1 nx h0 n0) := by
 refine Met.intro (plainFor_of_name pn_java_2futil_2fHashMap_24HashIterator) ?_
 intro p e s m below meth c s₁ hx hby hml hZ hown hnm hrt hlk X0 e0
 have N0 := Fr.nil n0
 have hww := @hvw _ _ hw
 have k0 := k_e (p := p) (e := e) (below := below) (s := s₁) (ef_19_R m a1)
 have H := @dch _ _ _ hby D19
 have k101 := f_alN X0 hx k0 (H 0 rfl) rfl
 obtain ⟨T102, X102, e102, k103⟩ := gFs X0 hx hZ hown (hww 152 rfl) e0 Fk0 k101 (H 1 rfl)
 have k104 := f_inN X102 hx k103 (H 2 rfl)
 have k105 := f_ic X102 hx k104 (H 3 rfl) (v := 1) rfl
 have k106 := f_go X102 hx k105 (H 4 rfl) (pc' := 12) (by decide)
 exact fin_r X102 hx (w := (.int (1 : Int32))) hrt hlk rfl (Or.inl ⟨rfl, Or.inr (Or.inl rfl), _, rfl⟩) k106 (H 5 rfl) (by rw [e102]; exact ⟨rfl, N0, rfl⟩) (by decide) (by decide)
def Q_hn0 (Z : State) (a1 : Addr) (h0 : Heap) (n0 : Nat) (v : Option Value) (h : Heap) (L : List Loc) : Prop := v = some zI ∧ Fr n0 L ∧ h = h0
theorem hn0 (l : Launch) (Z : State) (a0 : Array Value) (hw : HW Z a0) (ws : List Jvm.Cond) (a1 : Addr) (h0 : Heap) (n0 : Nat) (Z0 : n0 ≤ h0.size) (Fk0 : Fld Z h0 a1 "java/util/HashMap$HashIterator" "next" "Ljava/util/HashMap$Node;" .null) :
  Met l mn42 jdk_99_method_2_code 1 (some .boolean) ws (rm 0 0 0 0) #[(.ref a1)] Z h0 (Q_hn0 Z a1 h0 n0) := by
 refine Met.intro (plainFor_of_name pn_java_2futil_2fHashMap_24HashIterator) ?_
 intro p e s m below meth c s₁ hx hby hml hZ hown hnm hrt hlk X0 e0
 have N0 := Fr.nil n0
 have hww := @hvw _ _ hw
 have k0 := k_e (p := p) (e := e) (below := below) (s := s₁) (ef_19_R m a1)
 have H := @dch _ _ _ hby D19
 have k101 := f_alN X0 hx k0 (H 0 rfl) rfl
 obtain ⟨T102, X102, e102, k103⟩ := gFs X0 hx hZ hown (hww 152 rfl) e0 Fk0 k101 (H 1 rfl)
 have k104 := f_inY X102 hx k103 (H 2 rfl) (pc' := 11) (by decide)
 have k105 := f_ic X102 hx k104 (H 6 rfl) (v := 0) rfl
 exact fin_r X102 hx (w := zI) hrt hlk rfl (Or.inl ⟨rfl, Or.inr (Or.inl rfl), _, rfl⟩) k105 (H 5 rfl) (by rw [e102]; exact ⟨rfl, N0, rfl⟩) (by decide) (by decide)
def Q_gnd2 (Z : State) (a1 a2 : Addr) (h0 : Heap) (n0 : Nat) (v : Option Value) (h : Heap) (L : List Loc) : Prop := v = some .null ∧ Fr n0 L ∧ h = h0
theorem gnd2 (l : Launch) (Z : State) (a0 : Array Value) (hw : HW Z a0) (ws : List Jvm.Cond) (a1 a2 : Addr) (h0 : Heap) (n0 : Nat) (Z0 : n0 ≤ h0.size) (Fk0 : Exa Z h0 a1 "java/util/HashMap") (Fk1 : Fld Z h0 a1 "java/util/HashMap" "table" "[Ljava/util/HashMap$Node;" .null) :
  Met l mn37 jdk_69_method_13_code 8 (some (.object "java/util/HashMap$Node")) ws (rm 0 0 0 0) #[(.ref a1), (.ref a2)] Z h0 (Q_gnd2 Z a1 a2 h0 n0) := by
 refine Met.intro (plainFor_of_name pn_java_2futil_2fHashMap) ?_
 intro p e s m below meth c s₁ hx hby hml hZ hown hnm hrt hlk X0 e0
 have N0 := Fr.nil n0
 have hww := @hvw _ _ hw
 have k0 := k_e (p := p) (e := e) (below := below) (s := s₁) (ef_49_RR m a1 a2)
 have H := @dch _ _ _ hby D49
 have k101 := f_alN X0 hx k0 (H 0 rfl) rfl
 obtain ⟨T102, X102, e102, k103⟩ := gFs X0 hx hZ hown (hww 278 rfl) e0 Fk1 k101 (H 1 rfl)
 have k104 := f_dup X102 hx k103 (H 2 rfl) rfl
 have k105 := f_nsN X102 hx k104 (H 3 rfl) (l' := #[sr a1, sr a2, .val .null, un, un, un, un, un]) rfl
 have k106 := f_inY X102 hx k105 (H 4 rfl) (pc' := 148) (by decide)
 have k107 := f_an X102 hx k106 (H 35 rfl)
 exact fin_r X102 hx (w := .null) hrt hlk rfl (Or.inr (Or.inr (Or.inr (Or.inr ⟨rfl, rfl, rfl⟩)))) k107 (H 36 rfl) (by rw [e102]; exact ⟨rfl, N0, rfl⟩) (by decide) (by decide)
def Q_god2 (Z : State) (a1 a2 df : Addr) (h0 : Heap) (n0 : Nat) (v : Option Value) (h : Heap) (L : List Loc) : Prop := v = some (.ref df) ∧ Fr n0 L ∧ h = h0
theorem god2 (l : Launch) (Z : State) (a0 : Array Value) (hw : HW Z a0) (ws : List Jvm.Cond) (a1 a2 df : Addr) (h0 : Heap) (n0 : Nat) (Z0 : n0 ≤ h0.size) (Fk0 : Exa Z h0 a1 "java/util/HashMap") (Fk1 : Fld Z h0 a1 "java/util/HashMap" "table" "[Ljava/util/HashMap$Node;" .null) :
  Met l mn38 jdk_69_method_30_code 4 (some (.object "java/lang/Object")) ws (rm 1 0 0 19) #[(.ref a1), (.ref a2), (.ref df)] Z h0 (Q_god2 Z a1 a2 df h0 n0) := by
 refine Met.intro (plainFor_of_name pn_java_2futil_2fHashMap) ?_
 intro p e s m below meth c s₁ hx hby hml hZ hown hnm hrt hlk X0 e0
 have N0 := Fr.nil n0
 have hww := @hvw _ _ hw
 have k0 := k_e (p := p) (e := e) (below := below) (s := s₁) (ef_48_RRR m a1 a2 df)
 have H := @dch _ _ _ hby D48
 have k101 := f_alN X0 hx k0 (H 0 rfl) rfl
 have k102 := f_alN X0 hx k101 (H 1 rfl) rfl
 obtain ⟨_, T103, L103, X103, hQ103, k103⟩ := c_V (W := 0) (x := mn37) X0 hx hZ hown (hww 351 rfl) (hww 352 rfl) (notFace_of_selects (args := #[]) (mvT hZ (hww 354 rfl))) (hww 354 rfl) (hww 353 rfl) (hww 355 rfl) (hww 53 rfl) (by decide) Fk0 (gnd2 l Z a0 hw [] a1 a2 h0 n0 Z0 Fk0 Fk1) e0 (argsL := [(.ref a2)]) (rest := []) rfl (by rw [hml]; rfl) k102 rfl (H 2 rfl) (lenOf pd__28Ljava_2flang_2fObject_3b_29Ljava_2futil_2fHashMap_24Node_3b rfl) (b5 rfl)
 obtain ⟨rfl, N103q, e103⟩ := hQ103
 have N104 := Fr.app N0 N103q
 have k105 := f_dup X103 hx k103 (H 3 rfl) rfl
 have k106 := f_nsN X103 hx k105 (H 4 rfl) (l' := #[sr a1, sr a2, sr df, .val .null]) rfl
 have k107 := f_nnN X103 hx k106 (H 5 rfl)
 have k108 := f_alN X103 hx k107 (H 9 rfl) rfl
 have k109 := f_go X103 hx k108 (H 10 rfl) (pc' := 18) (by decide)
 exact fin_r X103 hx (w := (.ref df)) hrt hlk rfl (Or.inr (Or.inr (Or.inr (Or.inr ⟨rfl, rfl, rfl⟩)))) k109 (H 8 rfl) (by rw [e103]; exact ⟨rfl, N104, rfl⟩) (by decide) (by decide)
theorem ef_18_RR (m : MethodId) (x0 : Addr) (x1 : Addr) : entryFrame m #[(.ref x0), (.ref x1)] 3 = mkF m 0 #[.val (.ref x0), .val (.ref x1), .unset] [] := by first | (simp [entryFrame, mkF, argsToLocals, Value.category]; done) | rfl
def Q_hii1 (Z : State) (a1 a2 : Addr) (mc sz : Int32) (tb : Addr) (kt : ClassId) (nd : Addr) (v2 v3 : Value) (h0 : Heap) (n0 : Nat) (v : Option Value) (h : Heap) (L : List Loc) : Prop := v = none ∧ Fr n0 L ∧ Keep h0 h [a1] ∧ OBJ Z h a1 "java/util/HashMap$ValueIterator" lyIT [(.ref a2), (.int mc), (.ref nd), .null, (.int (2 : Int32))]
theorem hii1 (l : Launch) (Z : State) (a0 : Array Value) (hw : HW Z a0) (ws : List Jvm.Cond) (a1 a2 : Addr) (mc sz : Int32) (tb : Addr) (kt : ClassId) (nd : Addr) (v2 v3 : Value) (h0 : Heap) (n0 : Nat) (Z0 : n0 ≤ h0.size) (Fk0 : OBJ Z h0 a1 "java/util/HashMap$ValueIterator" lyIT [.null, zI, .null, .null, zI]) (Fk1 : Fld Z h0 a2 "java/util/HashMap" "modCount" "I" (.int mc)) (Fk2 : Fld Z h0 a2 "java/util/HashMap" "table" "[Ljava/util/HashMap$Node;" (.ref tb)) (Fk3 : Fld Z h0 a2 "java/util/HashMap" "size" "I" (.int sz)) (Fk4 : Arv Z h0 tb kt (.object "java/util/HashMap$Node") (16 : Int32) [.null, (.ref nd), v2, v3, .null, .null, .null, .null, .null, .null, .null, .null, .null, .null, .null, .null] .null) (ge_a1 : n0 ≤ a1) (ne_a1_a2 : a1 ≠ a2) (ne_a1_tb : a1 ≠ tb) (hsz : (0 : Int32) < sz) :
  Met l mn43 jdk_99_method_1_code 3 none ws (rm 1 0 0 12) #[(.ref a1), (.ref a2)] Z h0 (Q_hii1 Z a1 a2 mc sz tb kt nd v2 v3 h0 n0) := by
 refine Met.intro (plainFor_of_name pn_java_2futil_2fHashMap_24HashIterator) ?_
 intro p e s m below meth c s₁ hx hby hml hZ hown hnm hrt hlk X0 e0
 have N0 := Fr.nil n0
 have hww := @hvw _ _ hw
 have k0 := k_e (p := p) (e := e) (below := below) (s := s₁) (ef_18_RR m a1 a2)
 have K0 := Keep.refl h0 [a1]
 have H := @dch _ _ _ hby D18
 have k101 := f_alN X0 hx k0 (H 0 rfl) rfl
 have k102 := f_alN X0 hx k101 (H 1 rfl) rfl
 obtain ⟨T103, h103, L103, X103, e103, W103, B103, N103, Z103, k103⟩ := f_pF X0 hx hZ hown (hww 143 rfl) Via.refl e0 Fk0 (snIT hw) (Or.inr ⟨(hww 144 rfl), rfl, hnm⟩) (hww 131 rfl) 0 (by decide) rfl rfl (ty := (.object "java/util/HashMap")) (by decide) rfl rfl N0 ge_a1 Z0 k102 (H 2 rfl) rfl
 have K104 := kw K0 W103 0 rfl
 have k105 := f_alN X103 hx k103 (H 3 rfl) rfl
 obtain ⟨T106, X106, e106, st106⟩ := initO X103 hx hZ hown (hww 145 rfl) (hww 21 rfl) (hww 22 rfl) e103 (g := (mkF m 6 #[sr a1, sr a2, un] [vR a1])) rfl (by rw [hml]; rfl) rfl (H 4 rfl) (by decide) (W := 0) (by show 2 * 0 + _ ≤ _; exact Nat.le_of_eq rfl) (by decide)
 have k107 : Rt p e below T106 (mkF m 9 #[sr a1, sr a2, un] []) s₁ m #[(.ref a1), (.ref a2)] 3 := fun t k => k105 t (st106 t k)
 have k108 := f_alN X106 hx k107 (H 5 rfl) rfl
 have k109 := f_alN X106 hx k108 (H 6 rfl) rfl
 obtain ⟨T110, X110, e110, k111⟩ := gFs X106 hx hZ hown (hww 146 rfl) e106 (Fk1.keep K104 (ninS (Ne.symm ne_a1_a2) nin0)) k109 (H 7 rfl)
 obtain ⟨T112, h112, L112, X112, e112, W112, B112, N112, Z112, k112⟩ := f_pF X110 hx hZ hown (hww 148 rfl) Via.refl e110 B103 (snIT hw) (Or.inl (hww 149 rfl)) (hww 131 rfl) 1 (by decide) rfl rfl (ty := .int) (by decide) rfl rfl N103 ge_a1 Z103 k111 (H 8 rfl) rfl
 have K113 := kw K104 W112 0 rfl
 have k114 := f_alN X112 hx k112 (H 9 rfl) rfl
 obtain ⟨T115, X115, e115, k116⟩ := gFs X112 hx hZ hown (hww 150 rfl) e112 (Fk2.keep K113 (ninS (Ne.symm ne_a1_a2) nin0)) k114 (H 10 rfl)
 have k117 := f_asN X115 hx k116 (H 11 rfl) (l' := #[sr a1, sr a2, sr tb]) rfl
 have k118 := f_alN X115 hx k117 (H 12 rfl) rfl
 have k119 := f_alN X115 hx k118 (H 13 rfl) rfl
 have k120 := f_an X115 hx k119 (H 14 rfl)
 have k121 := f_dupX1 X115 hx k120 (H 15 rfl) rfl rfl
 obtain ⟨T122, h122, L122, X122, e122, W122, B122, N122, Z122, k122⟩ := f_pF X115 hx hZ hown (hww 152 rfl) Via.refl e115 B112 (snIT hw) (Or.inl (hww 153 rfl)) (hww 131 rfl) 2 (by decide) rfl rfl (ty := (.object "java/util/HashMap$Node")) (by decide) rfl rfl N112 ge_a1 Z112 k121 (H 16 rfl) rfl
 have K123 := kw K113 W122 0 rfl
 obtain ⟨T124, h124, L124, X124, e124, W124, B124, N124, Z124, k124⟩ := f_pF X122 hx hZ hown (hww 154 rfl) Via.refl e122 B122 (snIT hw) (Or.inl (hww 155 rfl)) (hww 131 rfl) 3 (by decide) rfl rfl (ty := (.object "java/util/HashMap$Node")) (by decide) rfl rfl N122 ge_a1 Z122 k122 (H 17 rfl) rfl
 have K125 := kw K123 W124 0 rfl
 have k126 := f_alN X124 hx k124 (H 18 rfl) rfl
 have k127 := f_ic X124 hx k126 (H 19 rfl) (v := 0) rfl
 obtain ⟨T128, h128, L128, X128, e128, W128, B128, N128, Z128, k128⟩ := f_pF X124 hx hZ hown (hww 156 rfl) Via.refl e124 B124 (snIT hw) (Or.inl (hww 157 rfl)) (hww 131 rfl) 4 (by decide) rfl rfl (ty := .int) (by decide) rfl rfl N124 ge_a1 Z124 k127 (H 20 rfl) rfl
 have K129 := kw K125 W128 0 rfl
 have k130 := f_alN X128 hx k128 (H 21 rfl) rfl
 have k131 := f_inN X128 hx k130 (H 22 rfl)
 have k132 := f_alN X128 hx k131 (H 23 rfl) rfl
 obtain ⟨T133, X133, e133, k134⟩ := gFs X128 hx hZ hown (hww 372 rfl) e128 (Fk3.keep K129 (ninS (Ne.symm ne_a1_a2) nin0)) k132 (H 24 rfl)
 have k135 := f_ifN X133 hx k134 (H 25 rfl) ((if0 _ _).trans (tlt hsz).2.2.2)
 have k136 := f_alN X133 hx k135 (H 26 rfl) rfl
 obtain ⟨T137, X137, e137, k138⟩ := gFs X133 hx hZ hown (hww 156 rfl) e133 (B128.g 4 (v := zI) (by decide) rfl rfl) k136 (H 27 rfl)
 have k139 := f_alN X137 hx k138 (H 28 rfl) rfl
 have k140 := f_len X137 hx hZ e137 (Fk4.keep K129 (ninS (Ne.symm ne_a1_tb) nin0)) k139 (H 29 rfl)
 have k141 := f_icN X137 hx k140 (H 30 rfl) (tlt (by decide)).2.1
 have k142 := f_alN X137 hx k141 (H 31 rfl) rfl
 have k143 := f_alN X137 hx k142 (H 32 rfl) rfl
 have k144 := f_alN X137 hx k143 (H 33 rfl) rfl
 have k145 := f_dup X137 hx k144 (H 34 rfl) rfl
 obtain ⟨T146, X146, e146, k147⟩ := gFs X137 hx hZ hown (hww 156 rfl) e137 (B128.g 4 (v := zI) (by decide) rfl rfl) k145 (H 35 rfl)
 have k148 := f_dupX1 X146 hx k147 (H 36 rfl) rfl rfl
 have k149 := f_ic X146 hx k148 (H 37 rfl) (v := 1) rfl
 have k150 := f_iadd X146 hx k149 (H 38 rfl) (r := 1) (by decide)
 obtain ⟨T151, h151, L151, X151, e151, W151, B151, N151, Z151, k151⟩ := f_pF X146 hx hZ hown (hww 156 rfl) Via.refl e146 B128 (snIT hw) (Or.inl (hww 157 rfl)) (hww 131 rfl) 4 (by decide) rfl rfl (ty := .int) (by decide) rfl rfl N128 ge_a1 Z128 k150 (H 39 rfl) rfl
 have K152 := kw K129 W151 0 rfl
 have k153 := f_aal X151 hx hZ e151 (Fk4.keep K152 (ninS (Ne.symm ne_a1_tb) nin0)) k151 (H 40 rfl) (v := .null) rfl (by decide) rfl
 have k154 := f_dupX1 X151 hx k153 (H 41 rfl) rfl rfl
 obtain ⟨T155, h155, L155, X155, e155, W155, B155, N155, Z155, k155⟩ := f_pF X151 hx hZ hown (hww 152 rfl) Via.refl e151 B151 (snIT hw) (Or.inl (hww 153 rfl)) (hww 131 rfl) 2 (by decide) rfl rfl (ty := (.object "java/util/HashMap$Node")) (by decide) rfl rfl N151 ge_a1 Z151 k154 (H 42 rfl) rfl
 have K156 := kw K152 W155 0 rfl
 have k157 := f_inY X155 hx k155 (H 43 rfl) (pc' := 48) (by decide)
 have k158 := f_alN X155 hx k157 (H 26 rfl) rfl
 obtain ⟨T159, X159, e159, k160⟩ := gFs X155 hx hZ hown (hww 156 rfl) e155 (B155.g 4 (v := (.int (1 : Int32))) (by decide) rfl rfl) k158 (H 27 rfl)
 have k161 := f_alN X159 hx k160 (H 28 rfl) rfl
 have k162 := f_len X159 hx hZ e159 (Fk4.keep K156 (ninS (Ne.symm ne_a1_tb) nin0)) k161 (H 29 rfl)
 have k163 := f_icN X159 hx k162 (H 30 rfl) (tlt (by decide)).2.1
 have k164 := f_alN X159 hx k163 (H 31 rfl) rfl
 have k165 := f_alN X159 hx k164 (H 32 rfl) rfl
 have k166 := f_alN X159 hx k165 (H 33 rfl) rfl
 have k167 := f_dup X159 hx k166 (H 34 rfl) rfl
 obtain ⟨T168, X168, e168, k169⟩ := gFs X159 hx hZ hown (hww 156 rfl) e159 (B155.g 4 (v := (.int (1 : Int32))) (by decide) rfl rfl) k167 (H 35 rfl)
 have k170 := f_dupX1 X168 hx k169 (H 36 rfl) rfl rfl
 have k171 := f_ic X168 hx k170 (H 37 rfl) (v := 1) rfl
 have k172 := f_iadd X168 hx k171 (H 38 rfl) (r := 2) (by decide)
 obtain ⟨T173, h173, L173, X173, e173, W173, B173, N173, Z173, k173⟩ := f_pF X168 hx hZ hown (hww 156 rfl) Via.refl e168 B155 (snIT hw) (Or.inl (hww 157 rfl)) (hww 131 rfl) 4 (by decide) rfl rfl (ty := .int) (by decide) rfl rfl N155 ge_a1 Z155 k172 (H 39 rfl) rfl
 have K174 := kw K156 W173 0 rfl
 have k175 := f_aal X173 hx hZ e173 (Fk4.keep K174 (ninS (Ne.symm ne_a1_tb) nin0)) k173 (H 40 rfl) (v := (.ref nd)) rfl (by decide) rfl
 have k176 := f_dupX1 X173 hx k175 (H 41 rfl) rfl rfl
 obtain ⟨T177, h177, L177, X177, e177, W177, B177, N177, Z177, k177⟩ := f_pF X173 hx hZ hown (hww 152 rfl) Via.refl e173 B173 (snIT hw) (Or.inl (hww 153 rfl)) (hww 131 rfl) 2 (by decide) rfl rfl (ty := (.object "java/util/HashMap$Node")) (by decide) rfl rfl N173 ge_a1 Z173 k176 (H 42 rfl) rfl
 have K178 := kw K174 W177 0 rfl
 have k179 := f_inN X177 hx k177 (H 43 rfl)
 exact fin_v X177 hx hrt hlk k179 (H 44 rfl) (by rw [e177]; exact ⟨rfl, N177, K178, B177⟩) (by decide) (by decide)
theorem ef_17_RR (m : MethodId) (x0 : Addr) (x1 : Addr) : entryFrame m #[(.ref x0), (.ref x1)] 2 = mkF m 0 #[.val (.ref x0), .val (.ref x1)] [] := by first | (simp [entryFrame, mkF, argsToLocals, Value.category]; done) | rfl
def Q_vii1 (Z : State) (a1 a2 : Addr) (mc sz : Int32) (tb : Addr) (kt : ClassId) (nd : Addr) (v2 v3 : Value) (h0 : Heap) (n0 : Nat) (v : Option Value) (h : Heap) (L : List Loc) : Prop := v = none ∧ Fr n0 L ∧ Keep h0 h [a1] ∧ OBJ Z h a1 "java/util/HashMap$ValueIterator" lyIT [(.ref a2), (.int mc), (.ref nd), .null, (.int (2 : Int32))]
theorem pn_java_2futil_2fHashMap_24ValueIterator : plainName "java/util/HashMap$ValueIterator" = true := by first | (simp [plainName, overriddenIn]; done) | decide +kernel
theorem vii1 (l : Launch) (Z : State) (a0 : Array Value) (hw : HW Z a0) (ws : List Jvm.Cond) (a1 a2 : Addr) (mc sz : Int32) (tb : Addr) (kt : ClassId) (nd : Addr) (v2 v3 : Value) (h0 : Heap) (n0 : Nat) (Z0 : n0 ≤ h0.size) (Fk0 : OBJ Z h0 a1 "java/util/HashMap$ValueIterator" lyIT [.null, zI, .null, .null, zI]) (Fk1 : Fld Z h0 a2 "java/util/HashMap" "modCount" "I" (.int mc)) (Fk2 : Fld Z h0 a2 "java/util/HashMap" "table" "[Ljava/util/HashMap$Node;" (.ref tb)) (Fk3 : Fld Z h0 a2 "java/util/HashMap" "size" "I" (.int sz)) (Fk4 : Arv Z h0 tb kt (.object "java/util/HashMap$Node") (16 : Int32) [.null, (.ref nd), v2, v3, .null, .null, .null, .null, .null, .null, .null, .null, .null, .null, .null, .null] .null) (ge_a1 : n0 ≤ a1) (ne_a1_a2 : a1 ≠ a2) (ne_a1_tb : a1 ≠ tb) (hsz : (0 : Int32) < sz) :
  Met l mn44 jdk_2569_method_1_code 2 none ws (rm 2 0 0 26) #[(.ref a1), (.ref a2)] Z h0 (Q_vii1 Z a1 a2 mc sz tb kt nd v2 v3 h0 n0) := by
 refine Met.intro (plainFor_of_name pn_java_2futil_2fHashMap_24ValueIterator) ?_
 intro p e s m below meth c s₁ hx hby hml hZ hown hnm hrt hlk X0 e0
 have N0 := Fr.nil n0
 have hww := @hvw _ _ hw
 have k0 := k_e (p := p) (e := e) (below := below) (s := s₁) (ef_17_RR m a1 a2)
 have K0 := Keep.refl h0 [a1]
 have H := @dch _ _ _ hby D17
 have k101 := f_alN X0 hx k0 (H 0 rfl) rfl
 have k102 := f_alN X0 hx k101 (H 1 rfl) rfl
 obtain ⟨_, T103, L103, X103, hQ103, k103⟩ := c_N (W := 0) X0 hx hZ hown (hww 137 rfl) (hww 138 rfl) (hww 142 rfl) (hww 141 rfl) rfl (by decide) (hii1 l Z a0 hw [] a1 a2 mc sz tb kt nd v2 v3 h0 n0 Z0 Fk0 Fk1 Fk2 Fk3 Fk4 ge_a1 ne_a1_a2 ne_a1_tb hsz) e0 (argsL := [(.ref a2)]) (rest := []) rfl (by rw [hml]; rfl) k102 rfl (H 2 rfl) (lenOf pd__28Ljava_2futil_2fHashMap_3b_29V rfl) (b5 rfl)
 obtain ⟨h103, e103⟩ : ∃ h', T103.heap = h' := ⟨_, rfl⟩
 rw [e103] at hQ103
 obtain ⟨rfl, N103q, K103, R103_0⟩ := hQ103
 have N104 := Fr.app N0 N103q
 have Z105 : n0 ≤ h103.size := Nat.le_trans Z0 K103.1
 have K106 := Keep.trans K0 K103 (allS (oL 0 rfl) all0)
 exact fin_v X103 hx hrt hlk k103 (H 3 rfl) (by rw [e103]; exact ⟨rfl, N104, K106, R103_0⟩) (by decide) (by decide)
theorem ef_16_R (m : MethodId) (x0 : Addr) : entryFrame m #[(.ref x0)] 1 = mkF m 0 #[.val (.ref x0)] [] := by first | (simp [entryFrame, mkF, argsToLocals, Value.category]; done) | rfl
def Q_vit1 (Z : State) (a0_ a2 : Addr) (mc sz : Int32) (tb : Addr) (kt : ClassId) (nd : Addr) (v2 v3 : Value) (h0 : Heap) (n0 : Nat) (v : Option Value) (h : Heap) (L : List Loc) : Prop := ∃ (it : Addr), v = some (.ref it) ∧ Fr n0 L ∧ Keep h0 h [] ∧ h0.size ≤ it ∧ OBJ Z h it "java/util/HashMap$ValueIterator" lyIT [(.ref a2), (.int mc), (.ref nd), .null, (.int (2 : Int32))]
theorem vit1 (l : Launch) (Z : State) (a0 : Array Value) (hw : HW Z a0) (ws : List Jvm.Cond) (a0_ a2 : Addr) (mc sz : Int32) (tb : Addr) (kt : ClassId) (nd : Addr) (v2 v3 : Value) (h0 : Heap) (n0 : Nat) (Z0 : n0 ≤ h0.size) (Fk0 : Fld Z h0 a2 "java/util/HashMap" "modCount" "I" (.int mc)) (Fk1 : Fld Z h0 a2 "java/util/HashMap" "table" "[Ljava/util/HashMap$Node;" (.ref tb)) (Fk2 : Fld Z h0 a2 "java/util/HashMap" "size" "I" (.int sz)) (Fk3 : Arv Z h0 tb kt (.object "java/util/HashMap$Node") (16 : Int32) [.null, (.ref nd), v2, v3, .null, .null, .null, .null, .null, .null, .null, .null, .null, .null, .null, .null] .null) (Fk4 : OBJ Z h0 a0_ "java/util/HashMap$Values" lyVS [(.ref a2)]) (hsz : (0 : Int32) < sz) :
  Met l mn45 jdk_2571_method_4_code 1 (some (.object "java/util/Iterator")) ws (rm 3 1 5 40) #[(.ref a0_)] Z h0 (Q_vit1 Z a0_ a2 mc sz tb kt nd v2 v3 h0 n0) := by
 refine Met.intro (plainFor_of_name pn_java_2futil_2fHashMap_24Values) ?_
 intro p e s m below meth c s₁ hx hby hml hZ hown hnm hrt hlk X0 e0
 have N0 := Fr.nil n0
 have hww := @hvw _ _ hw
 have k0 := k_e (p := p) (e := e) (below := below) (s := s₁) (ef_16_R m a0_)
 have K0 : Keep h0 h0 [] := Keep.refl h0 []
 have H := @dch _ _ _ hby D16
 obtain ⟨T101, h101, X101, e101, E101, A101, D101, -, st101⟩ := newO X0 hx hZ hown (hww 130 rfl) (hww 131 rfl) (hww 132 rfl) e0 (g := (mkF m 0 #[sr a0_] [])) rfl (H 0 rfl) (by decide) (by decide)
 obtain ⟨b101, g101⟩ : ∃ z, z = h0.size := ⟨_, rfl⟩
 rw [← g101] at A101 D101 st101
 have g102 : n0 ≤ b101 := Nat.le_trans Z0 (Nat.le_of_eq g101.symm)
 have z103 : h0.size ≤ b101 := Nat.le_trans K0.1 (Nat.le_of_eq g101.symm)
 have Z104 : n0 ≤ h101.size := Nat.le_trans Z0 E101.1
 have K105 := K0.ext E101
 have F106 : Fld Z h101 b101 "java/util/HashMap$HashIterator" "this$0" "Ljava/util/HashMap;" .null := D101 (Or.inr (hww 144 rfl)) (ty := (.object "java/util/HashMap")) (by decide)
 have F107 : Fld Z h101 b101 "java/util/HashMap$HashIterator" "expectedModCount" "I" zI := D101 (Or.inl (hww 149 rfl)) (ty := .int) (by decide)
 have F108 : Fld Z h101 b101 "java/util/HashMap$HashIterator" "next" "Ljava/util/HashMap$Node;" .null := D101 (Or.inl (hww 153 rfl)) (ty := (.object "java/util/HashMap$Node")) (by decide)
 have F109 : Fld Z h101 b101 "java/util/HashMap$HashIterator" "current" "Ljava/util/HashMap$Node;" .null := D101 (Or.inl (hww 155 rfl)) (ty := (.object "java/util/HashMap$Node")) (by decide)
 have F110 : Fld Z h101 b101 "java/util/HashMap$HashIterator" "index" "I" zI := D101 (Or.inl (hww 157 rfl)) (ty := .int) (by decide)
 have k111 : Rt p e below T101 (mkF m 3 #[sr a0_] [vR b101]) s₁ m #[(.ref a0_)] 1 := fun t k => k0 t (st101 t k)
 have B112 := mkIT A101 F106 F107 F108 F109 F110
 have k113 := f_dup X101 hx k111 (H 1 rfl) rfl
 have k114 := f_alN X101 hx k113 (H 2 rfl) rfl
 obtain ⟨T115, X115, e115, k116⟩ := gFs X101 hx hZ hown (hww 117 rfl) e101 ((Fk4.keep K105 nin0).g 0 (v := (.ref a2)) (by decide) rfl rfl) k114 (H 3 rfl)
 obtain ⟨_, T117, L117, X117, hQ117, k117⟩ := c_N (W := 1) X115 hx hZ hown (hww 133 rfl) (hww 134 rfl) (hww 136 rfl) (hww 132 rfl) rfl (by decide) (vii1 l Z a0 hw [] b101 a2 mc sz tb kt nd v2 v3 h101 n0 Z104 B112 (Fk0.keep K105 nin0) (Fk1.keep K105 nin0) (Fk2.keep K105 nin0) (Fk3.keep K105 nin0) g102 (nG Fk2.lt z103) (nG Fk3.lt z103) hsz) e115 (argsL := [(.ref a2)]) (rest := [(.ref b101)]) rfl (by rw [hml]; rfl) k116 rfl (H 4 rfl) (lenOf pd__28Ljava_2futil_2fHashMap_3b_29V rfl) (b5 rfl)
 obtain ⟨h117, e117⟩ : ∃ h', T117.heap = h' := ⟨_, rfl⟩
 rw [e117] at hQ117
 obtain ⟨rfl, N117q, K117, R117_0⟩ := hQ117
 have N118 := Fr.app N0 N117q
 have Z119 : n0 ≤ h117.size := Nat.le_trans Z104 K117.1
 have K120 := Keep.trans K105 K117 (allS (Or.inr z103) all0)
 exact fin_r X117 hx (w := (.ref b101)) hrt hlk rfl (Or.inr (Or.inr (Or.inr (Or.inr ⟨rfl, rfl, rfl⟩)))) k117 (H 5 rfl) (by rw [e117]; exact ⟨b101, rfl, N118, K120, z103, R117_0⟩) (by decide) (by decide)
def Q_hii2 (Z : State) (a1 a2 : Addr) (mc sz : Int32) (tb : Addr) (kt : ClassId) (nd : Addr) (v3 : Value) (h0 : Heap) (n0 : Nat) (v : Option Value) (h : Heap) (L : List Loc) : Prop := v = none ∧ Fr n0 L ∧ Keep h0 h [a1] ∧ OBJ Z h a1 "java/util/HashMap$ValueIterator" lyIT [(.ref a2), (.int mc), (.ref nd), .null, (.int (3 : Int32))]
theorem hii2 (l : Launch) (Z : State) (a0 : Array Value) (hw : HW Z a0) (ws : List Jvm.Cond) (a1 a2 : Addr) (mc sz : Int32) (tb : Addr) (kt : ClassId) (nd : Addr) (v3 : Value) (h0 : Heap) (n0 : Nat) (Z0 : n0 ≤ h0.size) (Fk0 : OBJ Z h0 a1 "java/util/HashMap$ValueIterator" lyIT [.null, zI, .null, .null, zI]) (Fk1 : Fld Z h0 a2 "java/util/HashMap" "modCount" "I" (.int mc)) (Fk2 : Fld Z h0 a2 "java/util/HashMap" "table" "[Ljava/util/HashMap$Node;" (.ref tb)) (Fk3 : Fld Z h0 a2 "java/util/HashMap" "size" "I" (.int sz)) (Fk4 : Arv Z h0 tb kt (.object "java/util/HashMap$Node") (16 : Int32) [.null, .null, (.ref nd), v3, .null, .null, .null, .null, .null, .null, .null, .null, .null, .null, .null, .null] .null) (ge_a1 : n0 ≤ a1) (ne_a1_a2 : a1 ≠ a2) (ne_a1_tb : a1 ≠ tb) (hsz : (0 : Int32) < sz) :
  Met l mn43 jdk_99_method_1_code 3 none ws (rm 1 0 0 12) #[(.ref a1), (.ref a2)] Z h0 (Q_hii2 Z a1 a2 mc sz tb kt nd v3 h0 n0) := by
 refine Met.intro (plainFor_of_name pn_java_2futil_2fHashMap_24HashIterator) ?_
 intro p e s m below meth c s₁ hx hby hml hZ hown hnm hrt hlk X0 e0
 have N0 := Fr.nil n0
 have hww := @hvw _ _ hw
 have k0 := k_e (p := p) (e := e) (below := below) (s := s₁) (ef_18_RR m a1 a2)
 have K0 := Keep.refl h0 [a1]
 have H := @dch _ _ _ hby D18
 have k101 := f_alN X0 hx k0 (H 0 rfl) rfl
 have k102 := f_alN X0 hx k101 (H 1 rfl) rfl
 obtain ⟨T103, h103, L103, X103, e103, W103, B103, N103, Z103, k103⟩ := f_pF X0 hx hZ hown (hww 143 rfl) Via.refl e0 Fk0 (snIT hw) (Or.inr ⟨(hww 144 rfl), rfl, hnm⟩) (hww 131 rfl) 0 (by decide) rfl rfl (ty := (.object "java/util/HashMap")) (by decide) rfl rfl N0 ge_a1 Z0 k102 (H 2 rfl) rfl
 have K104 := kw K0 W103 0 rfl
 have k105 := f_alN X103 hx k103 (H 3 rfl) rfl
 obtain ⟨T106, X106, e106, st106⟩ := initO X103 hx hZ hown (hww 145 rfl) (hww 21 rfl) (hww 22 rfl) e103 (g := (mkF m 6 #[sr a1, sr a2, un] [vR a1])) rfl (by rw [hml]; rfl) rfl (H 4 rfl) (by decide) (W := 0) (by show 2 * 0 + _ ≤ _; exact Nat.le_of_eq rfl) (by decide)
 have k107 : Rt p e below T106 (mkF m 9 #[sr a1, sr a2, un] []) s₁ m #[(.ref a1), (.ref a2)] 3 := fun t k => k105 t (st106 t k)
 have k108 := f_alN X106 hx k107 (H 5 rfl) rfl
 have k109 := f_alN X106 hx k108 (H 6 rfl) rfl
 obtain ⟨T110, X110, e110, k111⟩ := gFs X106 hx hZ hown (hww 146 rfl) e106 (Fk1.keep K104 (ninS (Ne.symm ne_a1_a2) nin0)) k109 (H 7 rfl)
 obtain ⟨T112, h112, L112, X112, e112, W112, B112, N112, Z112, k112⟩ := f_pF X110 hx hZ hown (hww 148 rfl) Via.refl e110 B103 (snIT hw) (Or.inl (hww 149 rfl)) (hww 131 rfl) 1 (by decide) rfl rfl (ty := .int) (by decide) rfl rfl N103 ge_a1 Z103 k111 (H 8 rfl) rfl
 have K113 := kw K104 W112 0 rfl
 have k114 := f_alN X112 hx k112 (H 9 rfl) rfl
 obtain ⟨T115, X115, e115, k116⟩ := gFs X112 hx hZ hown (hww 150 rfl) e112 (Fk2.keep K113 (ninS (Ne.symm ne_a1_a2) nin0)) k114 (H 10 rfl)
 have k117 := f_asN X115 hx k116 (H 11 rfl) (l' := #[sr a1, sr a2, sr tb]) rfl
 have k118 := f_alN X115 hx k117 (H 12 rfl) rfl
 have k119 := f_alN X115 hx k118 (H 13 rfl) rfl
 have k120 := f_an X115 hx k119 (H 14 rfl)
 have k121 := f_dupX1 X115 hx k120 (H 15 rfl) rfl rfl
 obtain ⟨T122, h122, L122, X122, e122, W122, B122, N122, Z122, k122⟩ := f_pF X115 hx hZ hown (hww 152 rfl) Via.refl e115 B112 (snIT hw) (Or.inl (hww 153 rfl)) (hww 131 rfl) 2 (by decide) rfl rfl (ty := (.object "java/util/HashMap$Node")) (by decide) rfl rfl N112 ge_a1 Z112 k121 (H 16 rfl) rfl
 have K123 := kw K113 W122 0 rfl
 obtain ⟨T124, h124, L124, X124, e124, W124, B124, N124, Z124, k124⟩ := f_pF X122 hx hZ hown (hww 154 rfl) Via.refl e122 B122 (snIT hw) (Or.inl (hww 155 rfl)) (hww 131 rfl) 3 (by decide) rfl rfl (ty := (.object "java/util/HashMap$Node")) (by decide) rfl rfl N122 ge_a1 Z122 k122 (H 17 rfl) rfl
 have K125 := kw K123 W124 0 rfl
 have k126 := f_alN X124 hx k124 (H 18 rfl) rfl
 have k127 := f_ic X124 hx k126 (H 19 rfl) (v := 0) rfl
 obtain ⟨T128, h128, L128, X128, e128, W128, B128, N128, Z128, k128⟩ := f_pF X124 hx hZ hown (hww 156 rfl) Via.refl e124 B124 (snIT hw) (Or.inl (hww 157 rfl)) (hww 131 rfl) 4 (by decide) rfl rfl (ty := .int) (by decide) rfl rfl N124 ge_a1 Z124 k127 (H 20 rfl) rfl
 have K129 := kw K125 W128 0 rfl
 have k130 := f_alN X128 hx k128 (H 21 rfl) rfl
 have k131 := f_inN X128 hx k130 (H 22 rfl)
 have k132 := f_alN X128 hx k131 (H 23 rfl) rfl
 obtain ⟨T133, X133, e133, k134⟩ := gFs X128 hx hZ hown (hww 372 rfl) e128 (Fk3.keep K129 (ninS (Ne.symm ne_a1_a2) nin0)) k132 (H 24 rfl)
 have k135 := f_ifN X133 hx k134 (H 25 rfl) ((if0 _ _).trans (tlt hsz).2.2.2)
 have k136 := f_alN X133 hx k135 (H 26 rfl) rfl
 obtain ⟨T137, X137, e137, k138⟩ := gFs X133 hx hZ hown (hww 156 rfl) e133 (B128.g 4 (v := zI) (by decide) rfl rfl) k136 (H 27 rfl)
 have k139 := f_alN X137 hx k138 (H 28 rfl) rfl
 have k140 := f_len X137 hx hZ e137 (Fk4.keep K129 (ninS (Ne.symm ne_a1_tb) nin0)) k139 (H 29 rfl)
 have k141 := f_icN X137 hx k140 (H 30 rfl) (tlt (by decide)).2.1
 have k142 := f_alN X137 hx k141 (H 31 rfl) rfl
 have k143 := f_alN X137 hx k142 (H 32 rfl) rfl
 have k144 := f_alN X137 hx k143 (H 33 rfl) rfl
 have k145 := f_dup X137 hx k144 (H 34 rfl) rfl
 obtain ⟨T146, X146, e146, k147⟩ := gFs X137 hx hZ hown (hww 156 rfl) e137 (B128.g 4 (v := zI) (by decide) rfl rfl) k145 (H 35 rfl)
 have k148 := f_dupX1 X146 hx k147 (H 36 rfl) rfl rfl
 have k149 := f_ic X146 hx k148 (H 37 rfl) (v := 1) rfl
 have k150 := f_iadd X146 hx k149 (H 38 rfl) (r := 1) (by decide)
 obtain ⟨T151, h151, L151, X151, e151, W151, B151, N151, Z151, k151⟩ := f_pF X146 hx hZ hown (hww 156 rfl) Via.refl e146 B128 (snIT hw) (Or.inl (hww 157 rfl)) (hww 131 rfl) 4 (by decide) rfl rfl (ty := .int) (by decide) rfl rfl N128 ge_a1 Z128 k150 (H 39 rfl) rfl
 have K152 := kw K129 W151 0 rfl
 have k153 := f_aal X151 hx hZ e151 (Fk4.keep K152 (ninS (Ne.symm ne_a1_tb) nin0)) k151 (H 40 rfl) (v := .null) rfl (by decide) rfl
 have k154 := f_dupX1 X151 hx k153 (H 41 rfl) rfl rfl
 obtain ⟨T155, h155, L155, X155, e155, W155, B155, N155, Z155, k155⟩ := f_pF X151 hx hZ hown (hww 152 rfl) Via.refl e151 B151 (snIT hw) (Or.inl (hww 153 rfl)) (hww 131 rfl) 2 (by decide) rfl rfl (ty := (.object "java/util/HashMap$Node")) (by decide) rfl rfl N151 ge_a1 Z151 k154 (H 42 rfl) rfl
 have K156 := kw K152 W155 0 rfl
 have k157 := f_inY X155 hx k155 (H 43 rfl) (pc' := 48) (by decide)
 have k158 := f_alN X155 hx k157 (H 26 rfl) rfl
 obtain ⟨T159, X159, e159, k160⟩ := gFs X155 hx hZ hown (hww 156 rfl) e155 (B155.g 4 (v := (.int (1 : Int32))) (by decide) rfl rfl) k158 (H 27 rfl)
 have k161 := f_alN X159 hx k160 (H 28 rfl) rfl
 have k162 := f_len X159 hx hZ e159 (Fk4.keep K156 (ninS (Ne.symm ne_a1_tb) nin0)) k161 (H 29 rfl)
 have k163 := f_icN X159 hx k162 (H 30 rfl) (tlt (by decide)).2.1
 have k164 := f_alN X159 hx k163 (H 31 rfl) rfl
 have k165 := f_alN X159 hx k164 (H 32 rfl) rfl
 have k166 := f_alN X159 hx k165 (H 33 rfl) rfl
 have k167 := f_dup X159 hx k166 (H 34 rfl) rfl
 obtain ⟨T168, X168, e168, k169⟩ := gFs X159 hx hZ hown (hww 156 rfl) e159 (B155.g 4 (v := (.int (1 : Int32))) (by decide) rfl rfl) k167 (H 35 rfl)
 have k170 := f_dupX1 X168 hx k169 (H 36 rfl) rfl rfl
 have k171 := f_ic X168 hx k170 (H 37 rfl) (v := 1) rfl
 have k172 := f_iadd X168 hx k171 (H 38 rfl) (r := 2) (by decide)
 obtain ⟨T173, h173, L173, X173, e173, W173, B173, N173, Z173, k173⟩ := f_pF X168 hx hZ hown (hww 156 rfl) Via.refl e168 B155 (snIT hw) (Or.inl (hww 157 rfl)) (hww 131 rfl) 4 (by decide) rfl rfl (ty := .int) (by decide) rfl rfl N155 ge_a1 Z155 k172 (H 39 rfl) rfl
 have K174 := kw K156 W173 0 rfl
 have k175 := f_aal X173 hx hZ e173 (Fk4.keep K174 (ninS (Ne.symm ne_a1_tb) nin0)) k173 (H 40 rfl) (v := .null) rfl (by decide) rfl
 have k176 := f_dupX1 X173 hx k175 (H 41 rfl) rfl rfl
 obtain ⟨T177, h177, L177, X177, e177, W177, B177, N177, Z177, k177⟩ := f_pF X173 hx hZ hown (hww 152 rfl) Via.refl e173 B173 (snIT hw) (Or.inl (hww 153 rfl)) (hww 131 rfl) 2 (by decide) rfl rfl (ty := (.object "java/util/HashMap$Node")) (by decide) rfl rfl N173 ge_a1 Z173 k176 (H 42 rfl) rfl
 have K178 := kw K174 W177 0 rfl
 have k179 := f_inY X177 hx k177 (H 43 rfl) (pc' := 48) (by decide)
 have k180 := f_alN X177 hx k179 (H 26 rfl) rfl
 obtain ⟨T181, X181, e181, k182⟩ := gFs X177 hx hZ hown (hww 156 rfl) e177 (B177.g 4 (v := (.int (2 : Int32))) (by decide) rfl rfl) k180 (H 27 rfl)
 have k183 := f_alN X181 hx k182 (H 28 rfl) rfl
 have k184 := f_len X181 hx hZ e181 (Fk4.keep K178 (ninS (Ne.symm ne_a1_tb) nin0)) k183 (H 29 rfl)
 have k185 := f_icN X181 hx k184 (H 30 rfl) (tlt (by decide)).2.1
 have k186 := f_alN X181 hx k185 (H 31 rfl) rfl
 have k187 := f_alN X181 hx k186 (H 32 rfl) rfl
 have k188 := f_alN X181 hx k187 (H 33 rfl) rfl
 have k189 := f_dup X181 hx k188 (H 34 rfl) rfl
 obtain ⟨T190, X190, e190, k191⟩ := gFs X181 hx hZ hown (hww 156 rfl) e181 (B177.g 4 (v := (.int (2 : Int32))) (by decide) rfl rfl) k189 (H 35 rfl)
 have k192 := f_dupX1 X190 hx k191 (H 36 rfl) rfl rfl
 have k193 := f_ic X190 hx k192 (H 37 rfl) (v := 1) rfl
 have k194 := f_iadd X190 hx k193 (H 38 rfl) (r := 3) (by decide)
 obtain ⟨T195, h195, L195, X195, e195, W195, B195, N195, Z195, k195⟩ := f_pF X190 hx hZ hown (hww 156 rfl) Via.refl e190 B177 (snIT hw) (Or.inl (hww 157 rfl)) (hww 131 rfl) 4 (by decide) rfl rfl (ty := .int) (by decide) rfl rfl N177 ge_a1 Z177 k194 (H 39 rfl) rfl
 have K196 := kw K178 W195 0 rfl
 have k197 := f_aal X195 hx hZ e195 (Fk4.keep K196 (ninS (Ne.symm ne_a1_tb) nin0)) k195 (H 40 rfl) (v := (.ref nd)) rfl (by decide) rfl
 have k198 := f_dupX1 X195 hx k197 (H 41 rfl) rfl rfl
 obtain ⟨T199, h199, L199, X199, e199, W199, B199, N199, Z199, k199⟩ := f_pF X195 hx hZ hown (hww 152 rfl) Via.refl e195 B195 (snIT hw) (Or.inl (hww 153 rfl)) (hww 131 rfl) 2 (by decide) rfl rfl (ty := (.object "java/util/HashMap$Node")) (by decide) rfl rfl N195 ge_a1 Z195 k198 (H 42 rfl) rfl
 have K200 := kw K196 W199 0 rfl
 have k201 := f_inN X199 hx k199 (H 43 rfl)
 exact fin_v X199 hx hrt hlk k201 (H 44 rfl) (by rw [e199]; exact ⟨rfl, N199, K200, B199⟩) (by decide) (by decide)
def Q_vii2 (Z : State) (a1 a2 : Addr) (mc sz : Int32) (tb : Addr) (kt : ClassId) (nd : Addr) (v3 : Value) (h0 : Heap) (n0 : Nat) (v : Option Value) (h : Heap) (L : List Loc) : Prop := v = none ∧ Fr n0 L ∧ Keep h0 h [a1] ∧ OBJ Z h a1 "java/util/HashMap$ValueIterator" lyIT [(.ref a2), (.int mc), (.ref nd), .null, (.int (3 : Int32))]
theorem vii2 (l : Launch) (Z : State) (a0 : Array Value) (hw : HW Z a0) (ws : List Jvm.Cond) (a1 a2 : Addr) (mc sz : Int32) (tb : Addr) (kt : ClassId) (nd : Addr) (v3 : Value) (h0 : Heap) (n0 : Nat) (Z0 : n0 ≤ h0.size) (Fk0 : OBJ Z h0 a1 "java/util/HashMap$ValueIterator" lyIT [.null, zI, .null, .null, zI]) (Fk1 : Fld Z h0 a2 "java/util/HashMap" "modCount" "I" (.int mc)) (Fk2 : Fld Z h0 a2 "java/util/HashMap" "table" "[Ljava/util/HashMap$Node;" (.ref tb)) (Fk3 : Fld Z h0 a2 "java/util/HashMap" "size" "I" (.int sz)) (Fk4 : Arv Z h0 tb kt (.object "java/util/HashMap$Node") (16 : Int32) [.null, .null, (.ref nd), v3, .null, .null, .null, .null, .null, .null, .null, .null, .null, .null, .null, .null] .null) (ge_a1 : n0 ≤ a1) (ne_a1_a2 : a1 ≠ a2) (ne_a1_tb : a1 ≠ tb) (hsz : (0 : Int32) < sz) :
  Met l mn44 jdk_2569_method_1_code 2 none ws (rm 2 0 0 26) #[(.ref a1), (.ref a2)] Z h0 (Q_vii2 Z a1 a2 mc sz tb kt nd v3 h0 n0) := by
 refine Met.intro (plainFor_of_name pn_java_2futil_2fHashMap_24ValueIterator) ?_
 intro p e s m below meth c s₁ hx hby hml hZ hown hnm hrt hlk X0 e0
 have N0 := Fr.nil n0
 have hww := @hvw _ _ hw
 have k0 := k_e (p := p) (e := e) (below := below) (s := s₁) (ef_17_RR m a1 a2)
 have K0 := Keep.refl h0 [a1]
 have H := @dch _ _ _ hby D17
 have k101 := f_alN X0 hx k0 (H 0 rfl) rfl
 have k102 := f_alN X0 hx k101 (H 1 rfl) rfl
 obtain ⟨_, T103, L103, X103, hQ103, k103⟩ := c_N (W := 0) X0 hx hZ hown (hww 137 rfl) (hww 138 rfl) (hww 142 rfl) (hww 141 rfl) rfl (by decide) (hii2 l Z a0 hw [] a1 a2 mc sz tb kt nd v3 h0 n0 Z0 Fk0 Fk1 Fk2 Fk3 Fk4 ge_a1 ne_a1_a2 ne_a1_tb hsz) e0 (argsL := [(.ref a2)]) (rest := []) rfl (by rw [hml]; rfl) k102 rfl (H 2 rfl) (lenOf pd__28Ljava_2futil_2fHashMap_3b_29V rfl) (b5 rfl)
 obtain ⟨h103, e103⟩ : ∃ h', T103.heap = h' := ⟨_, rfl⟩
 rw [e103] at hQ103
 obtain ⟨rfl, N103q, K103, R103_0⟩ := hQ103
 have N104 := Fr.app N0 N103q
 have Z105 : n0 ≤ h103.size := Nat.le_trans Z0 K103.1
 have K106 := Keep.trans K0 K103 (allS (oL 0 rfl) all0)
 exact fin_v X103 hx hrt hlk k103 (H 3 rfl) (by rw [e103]; exact ⟨rfl, N104, K106, R103_0⟩) (by decide) (by decide)
def Q_vit2 (Z : State) (a0_ a2 : Addr) (mc sz : Int32) (tb : Addr) (kt : ClassId) (nd : Addr) (v3 : Value) (h0 : Heap) (n0 : Nat) (v : Option Value) (h : Heap) (L : List Loc) : Prop := ∃ (it : Addr), v = some (.ref it) ∧ Fr n0 L ∧ Keep h0 h [] ∧ h0.size ≤ it ∧ OBJ Z h it "java/util/HashMap$ValueIterator" lyIT [(.ref a2), (.int mc), (.ref nd), .null, (.int (3 : Int32))]
theorem vit2 (l : Launch) (Z : State) (a0 : Array Value) (hw : HW Z a0) (ws : List Jvm.Cond) (a0_ a2 : Addr) (mc sz : Int32) (tb : Addr) (kt : ClassId) (nd : Addr) (v3 : Value) (h0 : Heap) (n0 : Nat) (Z0 : n0 ≤ h0.size) (Fk0 : Fld Z h0 a2 "java/util/HashMap" "modCount" "I" (.int mc)) (Fk1 : Fld Z h0 a2 "java/util/HashMap" "table" "[Ljava/util/HashMap$Node;" (.ref tb)) (Fk2 : Fld Z h0 a2 "java/util/HashMap" "size" "I" (.int sz)) (Fk3 : Arv Z h0 tb kt (.object "java/util/HashMap$Node") (16 : Int32) [.null, .null, (.ref nd), v3, .null, .null, .null, .null, .null, .null, .null, .null, .null, .null, .null, .null] .null) (Fk4 : OBJ Z h0 a0_ "java/util/HashMap$Values" lyVS [(.ref a2)]) (hsz : (0 : Int32) < sz) :
  Met l mn45 jdk_2571_method_4_code 1 (some (.object "java/util/Iterator")) ws (rm 3 1 5 40) #[(.ref a0_)] Z h0 (Q_vit2 Z a0_ a2 mc sz tb kt nd v3 h0 n0) := by
 refine Met.intro (plainFor_of_name pn_java_2futil_2fHashMap_24Values) ?_
 intro p e s m below meth c s₁ hx hby hml hZ hown hnm hrt hlk X0 e0
 have N0 := Fr.nil n0
 have hww := @hvw _ _ hw
 have k0 := k_e (p := p) (e := e) (below := below) (s := s₁) (ef_16_R m a0_)
 have K0 : Keep h0 h0 [] := Keep.refl h0 []
 have H := @dch _ _ _ hby D16
 obtain ⟨T101, h101, X101, e101, E101, A101, D101, -, st101⟩ := newO X0 hx hZ hown (hww 130 rfl) (hww 131 rfl) (hww 132 rfl) e0 (g := (mkF m 0 #[sr a0_] [])) rfl (H 0 rfl) (by decide) (by decide)
 obtain ⟨b101, g101⟩ : ∃ z, z = h0.size := ⟨_, rfl⟩
 rw [← g101] at A101 D101 st101
 have g102 : n0 ≤ b101 := Nat.le_trans Z0 (Nat.le_of_eq g101.symm)
 have z103 : h0.size ≤ b101 := Nat.le_trans K0.1 (Nat.le_of_eq g101.symm)
 have Z104 : n0 ≤ h101.size := Nat.le_trans Z0 E101.1
 have K105 := K0.ext E101
 have F106 : Fld Z h101 b101 "java/util/HashMap$HashIterator" "this$0" "Ljava/util/HashMap;" .null := D101 (Or.inr (hww 144 rfl)) (ty := (.object "java/util/HashMap")) (by decide)
 have F107 : Fld Z h101 b101 "java/util/HashMap$HashIterator" "expectedModCount" "I" zI := D101 (Or.inl (hww 149 rfl)) (ty := .int) (by decide)
 have F108 : Fld Z h101 b101 "java/util/HashMap$HashIterator" "next" "Ljava/util/HashMap$Node;" .null := D101 (Or.inl (hww 153 rfl)) (ty := (.object "java/util/HashMap$Node")) (by decide)
 have F109 : Fld Z h101 b101 "java/util/HashMap$HashIterator" "current" "Ljava/util/HashMap$Node;" .null := D101 (Or.inl (hww 155 rfl)) (ty := (.object "java/util/HashMap$Node")) (by decide)
 have F110 : Fld Z h101 b101 "java/util/HashMap$HashIterator" "index" "I" zI := D101 (Or.inl (hww 157 rfl)) (ty := .int) (by decide)
 have k111 : Rt p e below T101 (mkF m 3 #[sr a0_] [vR b101]) s₁ m #[(.ref a0_)] 1 := fun t k => k0 t (st101 t k)
 have B112 := mkIT A101 F106 F107 F108 F109 F110
 have k113 := f_dup X101 hx k111 (H 1 rfl) rfl
 have k114 := f_alN X101 hx k113 (H 2 rfl) rfl
 obtain ⟨T115, X115, e115, k116⟩ := gFs X101 hx hZ hown (hww 117 rfl) e101 ((Fk4.keep K105 nin0).g 0 (v := (.ref a2)) (by decide) rfl rfl) k114 (H 3 rfl)
 obtain ⟨_, T117, L117, X117, hQ117, k117⟩ := c_N (W := 1) X115 hx hZ hown (hww 133 rfl) (hww 134 rfl) (hww 136 rfl) (hww 132 rfl) rfl (by decide) (vii2 l Z a0 hw [] b101 a2 mc sz tb kt nd v3 h101 n0 Z104 B112 (Fk0.keep K105 nin0) (Fk1.keep K105 nin0) (Fk2.keep K105 nin0) (Fk3.keep K105 nin0) g102 (nG Fk2.lt z103) (nG Fk3.lt z103) hsz) e115 (argsL := [(.ref a2)]) (rest := [(.ref b101)]) rfl (by rw [hml]; rfl) k116 rfl (H 4 rfl) (lenOf pd__28Ljava_2futil_2fHashMap_3b_29V rfl) (b5 rfl)
 obtain ⟨h117, e117⟩ : ∃ h', T117.heap = h' := ⟨_, rfl⟩
 rw [e117] at hQ117
 obtain ⟨rfl, N117q, K117, R117_0⟩ := hQ117
 have N118 := Fr.app N0 N117q
 have Z119 : n0 ≤ h117.size := Nat.le_trans Z104 K117.1
 have K120 := Keep.trans K105 K117 (allS (Or.inr z103) all0)
 exact fin_r X117 hx (w := (.ref b101)) hrt hlk rfl (Or.inr (Or.inr (Or.inr (Or.inr ⟨rfl, rfl, rfl⟩)))) k117 (H 5 rfl) (by rw [e117]; exact ⟨b101, rfl, N118, K120, z103, R117_0⟩) (by decide) (by decide)
def Q_hii3 (Z : State) (a1 a2 : Addr) (mc sz : Int32) (tb : Addr) (kt : ClassId) (nd : Addr) (h0 : Heap) (n0 : Nat) (v : Option Value) (h : Heap) (L : List Loc) : Prop := v = none ∧ Fr n0 L ∧ Keep h0 h [a1] ∧ OBJ Z h a1 "java/util/HashMap$ValueIterator" lyIT [(.ref a2), (.int mc), (.ref nd), .null, (.int (4 : Int32))]
theorem hii3 (l : Launch) (Z : State) (a0 : Array Value) (hw : HW Z a0) (ws : List Jvm.Cond) (a1 a2 : Addr) (mc sz : Int32) (tb : Addr) (kt : ClassId) (nd : Addr) (h0 : Heap) (n0 : Nat) (Z0 : n0 ≤ h0.size) (Fk0 : OBJ Z h0 a1 "java/util/HashMap$ValueIterator" lyIT [.null, zI, .null, .null, zI]) (Fk1 : Fld Z h0 a2 "java/util/HashMap" "modCount" "I" (.int mc)) (Fk2 : Fld Z h0 a2 "java/util/HashMap" "table" "[Ljava/util/HashMap$Node;" (.ref tb)) (Fk3 : Fld Z h0 a2 "java/util/HashMap" "size" "I" (.int sz)) (Fk4 : Arv Z h0 tb kt (.object "java/util/HashMap$Node") (16 : Int32) [.null, .null, .null, (.ref nd), .null, .null, .null, .null, .null, .null, .null, .null, .null, .null, .null, .null] .null) (ge_a1 : n0 ≤ a1) (ne_a1_a2 : a1 ≠ a2) (ne_a1_tb : a1 ≠ tb) (hsz : (0 : Int32) < sz) :
  Met l mn43 jdk_99_method_1_code 3 none ws (rm 1 0 0 12) #[(.ref a1), (.ref a2)] Z h0 (Q_hii3 Z a1 a2 mc sz tb kt nd h0 n0) := by
 refine Met.intro (plainFor_of_name pn_java_2futil_2fHashMap_24HashIterator) ?_
 intro p e s m below meth c s₁ hx hby hml hZ hown hnm hrt hlk X0 e0
 have N0 := Fr.nil n0
 have hww := @hvw _ _ hw
 have k0 := k_e (p := p) (e := e) (below := below) (s := s₁) (ef_18_RR m a1 a2)
 have K0 := Keep.refl h0 [a1]
 have H := @dch _ _ _ hby D18
 have k101 := f_alN X0 hx k0 (H 0 rfl) rfl
 have k102 := f_alN X0 hx k101 (H 1 rfl) rfl
 obtain ⟨T103, h103, L103, X103, e103, W103, B103, N103, Z103, k103⟩ := f_pF X0 hx hZ hown (hww 143 rfl) Via.refl e0 Fk0 (snIT hw) (Or.inr ⟨(hww 144 rfl), rfl, hnm⟩) (hww 131 rfl) 0 (by decide) rfl rfl (ty := (.object "java/util/HashMap")) (by decide) rfl rfl N0 ge_a1 Z0 k102 (H 2 rfl) rfl
 have K104 := kw K0 W103 0 rfl
 have k105 := f_alN X103 hx k103 (H 3 rfl) rfl
 obtain ⟨T106, X106, e106, st106⟩ := initO X103 hx hZ hown (hww 145 rfl) (hww 21 rfl) (hww 22 rfl) e103 (g := (mkF m 6 #[sr a1, sr a2, un] [vR a1])) rfl (by rw [hml]; rfl) rfl (H 4 rfl) (by decide) (W := 0) (by show 2 * 0 + _ ≤ _; exact Nat.le_of_eq rfl) (by decide)
 have k107 : Rt p e below T106 (mkF m 9 #[sr a1, sr a2, un] []) s₁ m #[(.ref a1), (.ref a2)] 3 := fun t k => k105 t (st106 t k)
 have k108 := f_alN X106 hx k107 (H 5 rfl) rfl
 have k109 := f_alN X106 hx k108 (H 6 rfl) rfl
 obtain ⟨T110, X110, e110, k111⟩ := gFs X106 hx hZ hown (hww 146 rfl) e106 (Fk1.keep K104 (ninS (Ne.symm ne_a1_a2) nin0)) k109 (H 7 rfl)
 obtain ⟨T112, h112, L112, X112, e112, W112, B112, N112, Z112, k112⟩ := f_pF X110 hx hZ hown (hww 148 rfl) Via.refl e110 B103 (snIT hw) (Or.inl (hww 149 rfl)) (hww 131 rfl) 1 (by decide) rfl rfl (ty := .int) (by decide) rfl rfl N103 ge_a1 Z103 k111 (H 8 rfl) rfl
 have K113 := kw K104 W112 0 rfl
 have k114 := f_alN X112 hx k112 (H 9 rfl) rfl
 obtain ⟨T115, X115, e115, k116⟩ := gFs X112 hx hZ hown (hww 150 rfl) e112 (Fk2.keep K113 (ninS (Ne.symm ne_a1_a2) nin0)) k114 (H 10 rfl)
 have k117 := f_asN X115 hx k116 (H 11 rfl) (l' := #[sr a1, sr a2, sr tb]) rfl
 have k118 := f_alN X115 hx k117 (H 12 rfl) rfl
 have k119 := f_alN X115 hx k118 (H 13 rfl) rfl
 have k120 := f_an X115 hx k119 (H 14 rfl)
 have k121 := f_dupX1 X115 hx k120 (H 15 rfl) rfl rfl
 obtain ⟨T122, h122, L122, X122, e122, W122, B122, N122, Z122, k122⟩ := f_pF X115 hx hZ hown (hww 152 rfl) Via.refl e115 B112 (snIT hw) (Or.inl (hww 153 rfl)) (hww 131 rfl) 2 (by decide) rfl rfl (ty := (.object "java/util/HashMap$Node")) (by decide) rfl rfl N112 ge_a1 Z112 k121 (H 16 rfl) rfl
 have K123 := kw K113 W122 0 rfl
 obtain ⟨T124, h124, L124, X124, e124, W124, B124, N124, Z124, k124⟩ := f_pF X122 hx hZ hown (hww 154 rfl) Via.refl e122 B122 (snIT hw) (Or.inl (hww 155 rfl)) (hww 131 rfl) 3 (by decide) rfl rfl (ty := (.object "java/util/HashMap$Node")) (by decide) rfl rfl N122 ge_a1 Z122 k122 (H 17 rfl) rfl
 have K125 := kw K123 W124 0 rfl
 have k126 := f_alN X124 hx k124 (H 18 rfl) rfl
 have k127 := f_ic X124 hx k126 (H 19 rfl) (v := 0) rfl
 obtain ⟨T128, h128, L128, X128, e128, W128, B128, N128, Z128, k128⟩ := f_pF X124 hx hZ hown (hww 156 rfl) Via.refl e124 B124 (snIT hw) (Or.inl (hww 157 rfl)) (hww 131 rfl) 4 (by decide) rfl rfl (ty := .int) (by decide) rfl rfl N124 ge_a1 Z124 k127 (H 20 rfl) rfl
 have K129 := kw K125 W128 0 rfl
 have k130 := f_alN X128 hx k128 (H 21 rfl) rfl
 have k131 := f_inN X128 hx k130 (H 22 rfl)
 have k132 := f_alN X128 hx k131 (H 23 rfl) rfl
 obtain ⟨T133, X133, e133, k134⟩ := gFs X128 hx hZ hown (hww 372 rfl) e128 (Fk3.keep K129 (ninS (Ne.symm ne_a1_a2) nin0)) k132 (H 24 rfl)
 have k135 := f_ifN X133 hx k134 (H 25 rfl) ((if0 _ _).trans (tlt hsz).2.2.2)
 have k136 := f_alN X133 hx k135 (H 26 rfl) rfl
 obtain ⟨T137, X137, e137, k138⟩ := gFs X133 hx hZ hown (hww 156 rfl) e133 (B128.g 4 (v := zI) (by decide) rfl rfl) k136 (H 27 rfl)
 have k139 := f_alN X137 hx k138 (H 28 rfl) rfl
 have k140 := f_len X137 hx hZ e137 (Fk4.keep K129 (ninS (Ne.symm ne_a1_tb) nin0)) k139 (H 29 rfl)
 have k141 := f_icN X137 hx k140 (H 30 rfl) (tlt (by decide)).2.1
 have k142 := f_alN X137 hx k141 (H 31 rfl) rfl
 have k143 := f_alN X137 hx k142 (H 32 rfl) rfl
 have k144 := f_alN X137 hx k143 (H 33 rfl) rfl
 have k145 := f_dup X137 hx k144 (H 34 rfl) rfl
 obtain ⟨T146, X146, e146, k147⟩ := gFs X137 hx hZ hown (hww 156 rfl) e137 (B128.g 4 (v := zI) (by decide) rfl rfl) k145 (H 35 rfl)
 have k148 := f_dupX1 X146 hx k147 (H 36 rfl) rfl rfl
 have k149 := f_ic X146 hx k148 (H 37 rfl) (v := 1) rfl
 have k150 := f_iadd X146 hx k149 (H 38 rfl) (r := 1) (by decide)
 obtain ⟨T151, h151, L151, X151, e151, W151, B151, N151, Z151, k151⟩ := f_pF X146 hx hZ hown (hww 156 rfl) Via.refl e146 B128 (snIT hw) (Or.inl (hww 157 rfl)) (hww 131 rfl) 4 (by decide) rfl rfl (ty := .int) (by decide) rfl rfl N128 ge_a1 Z128 k150 (H 39 rfl) rfl
 have K152 := kw K129 W151 0 rfl
 have k153 := f_aal X151 hx hZ e151 (Fk4.keep K152 (ninS (Ne.symm ne_a1_tb) nin0)) k151 (H 40 rfl) (v := .null) rfl (by decide) rfl
 have k154 := f_dupX1 X151 hx k153 (H 41 rfl) rfl rfl
 obtain ⟨T155, h155, L155, X155, e155, W155, B155, N155, Z155, k155⟩ := f_pF X151 hx hZ hown (hww 152 rfl) Via.refl e151 B151 (snIT hw) (Or.inl (hww 153 rfl)) (hww 131 rfl) 2 (by decide) rfl rfl (ty := (.object "java/util/HashMap$Node")) (by decide) rfl rfl N151 ge_a1 Z151 k154 (H 42 rfl) rfl
 have K156 := kw K152 W155 0 rfl
 have k157 := f_inY X155 hx k155 (H 43 rfl) (pc' := 48) (by decide)
 have k158 := f_alN X155 hx k157 (H 26 rfl) rfl
 obtain ⟨T159, X159, e159, k160⟩ := gFs X155 hx hZ hown (hww 156 rfl) e155 (B155.g 4 (v := (.int (1 : Int32))) (by decide) rfl rfl) k158 (H 27 rfl)
 have k161 := f_alN X159 hx k160 (H 28 rfl) rfl
 have k162 := f_len X159 hx hZ e159 (Fk4.keep K156 (ninS (Ne.symm ne_a1_tb) nin0)) k161 (H 29 rfl)
 have k163 := f_icN X159 hx k162 (H 30 rfl) (tlt (by decide)).2.1
 have k164 := f_alN X159 hx k163 (H 31 rfl) rfl
 have k165 := f_alN X159 hx k164 (H 32 rfl) rfl
 have k166 := f_alN X159 hx k165 (H 33 rfl) rfl
 have k167 := f_dup X159 hx k166 (H 34 rfl) rfl
 obtain ⟨T168, X168, e168, k169⟩ := gFs X159 hx hZ hown (hww 156 rfl) e159 (B155.g 4 (v := (.int (1 : Int32))) (by decide) rfl rfl) k167 (H 35 rfl)
 have k170 := f_dupX1 X168 hx k169 (H 36 rfl) rfl rfl
 have k171 := f_ic X168 hx k170 (H 37 rfl) (v := 1) rfl
 have k172 := f_iadd X168 hx k171 (H 38 rfl) (r := 2) (by decide)
 obtain ⟨T173, h173, L173, X173, e173, W173, B173, N173, Z173, k173⟩ := f_pF X168 hx hZ hown (hww 156 rfl) Via.refl e168 B155 (snIT hw) (Or.inl (hww 157 rfl)) (hww 131 rfl) 4 (by decide) rfl rfl (ty := .int) (by decide) rfl rfl N155 ge_a1 Z155 k172 (H 39 rfl) rfl
 have K174 := kw K156 W173 0 rfl
 have k175 := f_aal X173 hx hZ e173 (Fk4.keep K174 (ninS (Ne.symm ne_a1_tb) nin0)) k173 (H 40 rfl) (v := .null) rfl (by decide) rfl
 have k176 := f_dupX1 X173 hx k175 (H 41 rfl) rfl rfl
 obtain ⟨T177, h177, L177, X177, e177, W177, B177, N177, Z177, k177⟩ := f_pF X173 hx hZ hown (hww 152 rfl) Via.refl e173 B173 (snIT hw) (Or.inl (hww 153 rfl)) (hww 131 rfl) 2 (by decide) rfl rfl (ty := (.object "java/util/HashMap$Node")) (by decide) rfl rfl N173 ge_a1 Z173 k176 (H 42 rfl) rfl
 have K178 := kw K174 W177 0 rfl
 have k179 := f_inY X177 hx k177 (H 43 rfl) (pc' := 48) (by decide)
 have k180 := f_alN X177 hx k179 (H 26 rfl) rfl
 obtain ⟨T181, X181, e181, k182⟩ := gFs X177 hx hZ hown (hww 156 rfl) e177 (B177.g 4 (v := (.int (2 : Int32))) (by decide) rfl rfl) k180 (H 27 rfl)
 have k183 := f_alN X181 hx k182 (H 28 rfl) rfl
 have k184 := f_len X181 hx hZ e181 (Fk4.keep K178 (ninS (Ne.symm ne_a1_tb) nin0)) k183 (H 29 rfl)
 have k185 := f_icN X181 hx k184 (H 30 rfl) (tlt (by decide)).2.1
 have k186 := f_alN X181 hx k185 (H 31 rfl) rfl
 have k187 := f_alN X181 hx k186 (H 32 rfl) rfl
 have k188 := f_alN X181 hx k187 (H 33 rfl) rfl
 have k189 := f_dup X181 hx k188 (H 34 rfl) rfl
 obtain ⟨T190, X190, e190, k191⟩ := gFs X181 hx hZ hown (hww 156 rfl) e181 (B177.g 4 (v := (.int (2 : Int32))) (by decide) rfl rfl) k189 (H 35 rfl)
 have k192 := f_dupX1 X190 hx k191 (H 36 rfl) rfl rfl
 have k193 := f_ic X190 hx k192 (H 37 rfl) (v := 1) rfl
 have k194 := f_iadd X190 hx k193 (H 38 rfl) (r := 3) (by decide)
 obtain ⟨T195, h195, L195, X195, e195, W195, B195, N195, Z195, k195⟩ := f_pF X190 hx hZ hown (hww 156 rfl) Via.refl e190 B177 (snIT hw) (Or.inl (hww 157 rfl)) (hww 131 rfl) 4 (by decide) rfl rfl (ty := .int) (by decide) rfl rfl N177 ge_a1 Z177 k194 (H 39 rfl) rfl
 have K196 := kw K178 W195 0 rfl
 have k197 := f_aal X195 hx hZ e195 (Fk4.keep K196 (ninS (Ne.symm ne_a1_tb) nin0)) k195 (H 40 rfl) (v := .null) rfl (by decide) rfl
 have k198 := f_dupX1 X195 hx k197 (H 41 rfl) rfl rfl
 obtain ⟨T199, h199, L199, X199, e199, W199, B199, N199, Z199, k199⟩ := f_pF X195 hx hZ hown (hww 152 rfl) Via.refl e195 B195 (snIT hw) (Or.inl (hww 153 rfl)) (hww 131 rfl) 2 (by decide) rfl rfl (ty := (.object "java/util/HashMap$Node")) (by decide) rfl rfl N195 ge_a1 Z195 k198 (H 42 rfl) rfl
 have K200 := kw K196 W199 0 rfl
 have k201 := f_inY X199 hx k199 (H 43 rfl) (pc' := 48) (by decide)
 have k202 := f_alN X199 hx k201 (H 26 rfl) rfl
 obtain ⟨T203, X203, e203, k204⟩ := gFs X199 hx hZ hown (hww 156 rfl) e199 (B199.g 4 (v := (.int (3 : Int32))) (by decide) rfl rfl) k202 (H 27 rfl)
 have k205 := f_alN X203 hx k204 (H 28 rfl) rfl
 have k206 := f_len X203 hx hZ e203 (Fk4.keep K200 (ninS (Ne.symm ne_a1_tb) nin0)) k205 (H 29 rfl)
 have k207 := f_icN X203 hx k206 (H 30 rfl) (tlt (by decide)).2.1
 have k208 := f_alN X203 hx k207 (H 31 rfl) rfl
 have k209 := f_alN X203 hx k208 (H 32 rfl) rfl
 have k210 := f_alN X203 hx k209 (H 33 rfl) rfl
 have k211 := f_dup X203 hx k210 (H 34 rfl) rfl
 obtain ⟨T212, X212, e212, k213⟩ := gFs X203 hx hZ hown (hww 156 rfl) e203 (B199.g 4 (v := (.int (3 : Int32))) (by decide) rfl rfl) k211 (H 35 rfl)
 have k214 := f_dupX1 X212 hx k213 (H 36 rfl) rfl rfl
 have k215 := f_ic X212 hx k214 (H 37 rfl) (v := 1) rfl
 have k216 := f_iadd X212 hx k215 (H 38 rfl) (r := 4) (by decide)
 obtain ⟨T217, h217, L217, X217, e217, W217, B217, N217, Z217, k217⟩ := f_pF X212 hx hZ hown (hww 156 rfl) Via.refl e212 B199 (snIT hw) (Or.inl (hww 157 rfl)) (hww 131 rfl) 4 (by decide) rfl rfl (ty := .int) (by decide) rfl rfl N199 ge_a1 Z199 k216 (H 39 rfl) rfl
 have K218 := kw K200 W217 0 rfl
 have k219 := f_aal X217 hx hZ e217 (Fk4.keep K218 (ninS (Ne.symm ne_a1_tb) nin0)) k217 (H 40 rfl) (v := (.ref nd)) rfl (by decide) rfl
 have k220 := f_dupX1 X217 hx k219 (H 41 rfl) rfl rfl
 obtain ⟨T221, h221, L221, X221, e221, W221, B221, N221, Z221, k221⟩ := f_pF X217 hx hZ hown (hww 152 rfl) Via.refl e217 B217 (snIT hw) (Or.inl (hww 153 rfl)) (hww 131 rfl) 2 (by decide) rfl rfl (ty := (.object "java/util/HashMap$Node")) (by decide) rfl rfl N217 ge_a1 Z217 k220 (H 42 rfl) rfl
 have K222 := kw K218 W221 0 rfl
 have k223 := f_inN X221 hx k221 (H 43 rfl)
 exact fin_v X221 hx hrt hlk k223 (H 44 rfl) (by rw [e221]; exact ⟨rfl, N221, K222, B221⟩) (by decide) (by decide)
def Q_vii3 (Z : State) (a1 a2 : Addr) (mc sz : Int32) (tb : Addr) (kt : ClassId) (nd : Addr) (h0 : Heap) (n0 : Nat) (v : Option Value) (h : Heap) (L : List Loc) : Prop := v = none ∧ Fr n0 L ∧ Keep h0 h [a1] ∧ OBJ Z h a1 "java/util/HashMap$ValueIterator" lyIT [(.ref a2), (.int mc), (.ref nd), .null, (.int (4 : Int32))]
theorem vii3 (l : Launch) (Z : State) (a0 : Array Value) (hw : HW Z a0) (ws : List Jvm.Cond) (a1 a2 : Addr) (mc sz : Int32) (tb : Addr) (kt : ClassId) (nd : Addr) (h0 : Heap) (n0 : Nat) (Z0 : n0 ≤ h0.size) (Fk0 : OBJ Z h0 a1 "java/util/HashMap$ValueIterator" lyIT [.null, zI, .null, .null, zI]) (Fk1 : Fld Z h0 a2 "java/util/HashMap" "modCount" "I" (.int mc)) (Fk2 : Fld Z h0 a2 "java/util/HashMap" "table" "[Ljava/util/HashMap$Node;" (.ref tb)) (Fk3 : Fld Z h0 a2 "java/util/HashMap" "size" "I" (.int sz)) (Fk4 : Arv Z h0 tb kt (.object "java/util/HashMap$Node") (16 : Int32) [.null, .null, .null, (.ref nd), .null, .null, .null, .null, .null, .null, .null, .null, .null, .null, .null, .null] .null) (ge_a1 : n0 ≤ a1) (ne_a1_a2 : a1 ≠ a2) (ne_a1_tb : a1 ≠ tb) (hsz : (0 : Int32) < sz) :
  Met l mn44 jdk_2569_method_1_code 2 none ws (rm 2 0 0 26) #[(.ref a1), (.ref a2)] Z h0 (Q_vii3 Z a1 a2 mc sz tb kt nd h0 n0) := by
 refine Met.intro (plainFor_of_name pn_java_2futil_2fHashMap_24ValueIterator) ?_
 intro p e s m below meth c s₁ hx hby hml hZ hown hnm hrt hlk X0 e0
 have N0 := Fr.nil n0
 have hww := @hvw _ _ hw
 have k0 := k_e (p := p) (e := e) (below := below) (s := s₁) (ef_17_RR m a1 a2)
 have K0 := Keep.refl h0 [a1]
 have H := @dch _ _ _ hby D17
 have k101 := f_alN X0 hx k0 (H 0 rfl) rfl
 have k102 := f_alN X0 hx k101 (H 1 rfl) rfl
 obtain ⟨_, T103, L103, X103, hQ103, k103⟩ := c_N (W := 0) X0 hx hZ hown (hww 137 rfl) (hww 138 rfl) (hww 142 rfl) (hww 141 rfl) rfl (by decide) (hii3 l Z a0 hw [] a1 a2 mc sz tb kt nd h0 n0 Z0 Fk0 Fk1 Fk2 Fk3 Fk4 ge_a1 ne_a1_a2 ne_a1_tb hsz) e0 (argsL := [(.ref a2)]) (rest := []) rfl (by rw [hml]; rfl) k102 rfl (H 2 rfl) (lenOf pd__28Ljava_2futil_2fHashMap_3b_29V rfl) (b5 rfl)
 obtain ⟨h103, e103⟩ : ∃ h', T103.heap = h' := ⟨_, rfl⟩
 rw [e103] at hQ103
 obtain ⟨rfl, N103q, K103, R103_0⟩ := hQ103
 have N104 := Fr.app N0 N103q
 have Z105 : n0 ≤ h103.size := Nat.le_trans Z0 K103.1
 have K106 := Keep.trans K0 K103 (allS (oL 0 rfl) all0)
 exact fin_v X103 hx hrt hlk k103 (H 3 rfl) (by rw [e103]; exact ⟨rfl, N104, K106, R103_0⟩) (by decide) (by decide)
def Q_vit3 (Z : State) (a0_ a2 : Addr) (mc sz : Int32) (tb : Addr) (kt : ClassId) (nd : Addr) (h0 : Heap) (n0 : Nat) (v : Option Value) (h : Heap) (L : List Loc) : Prop := ∃ (it : Addr), v = some (.ref it) ∧ Fr n0 L ∧ Keep h0 h [] ∧ h0.size ≤ it ∧ OBJ Z h it "java/util/HashMap$ValueIterator" lyIT [(.ref a2), (.int mc), (.ref nd), .null, (.int (4 : Int32))]
theorem vit3 (l : Launch) (Z : State) (a0 : Array Value) (hw : HW Z a0) (ws : List Jvm.Cond) (a0_ a2 : Addr) (mc sz : Int32) (tb : Addr) (kt : ClassId) (nd : Addr) (h0 : Heap) (n0 : Nat) (Z0 : n0 ≤ h0.size) (Fk0 : Fld Z h0 a2 "java/util/HashMap" "modCount" "I" (.int mc)) (Fk1 : Fld Z h0 a2 "java/util/HashMap" "table" "[Ljava/util/HashMap$Node;" (.ref tb)) (Fk2 : Fld Z h0 a2 "java/util/HashMap" "size" "I" (.int sz)) (Fk3 : Arv Z h0 tb kt (.object "java/util/HashMap$Node") (16 : Int32) [.null, .null, .null, (.ref nd), .null, .null, .null, .null, .null, .null, .null, .null, .null, .null, .null, .null] .null) (Fk4 : OBJ Z h0 a0_ "java/util/HashMap$Values" lyVS [(.ref a2)]) (hsz : (0 : Int32) < sz) :
  Met l mn45 jdk_2571_method_4_code 1 (some (.object "java/util/Iterator")) ws (rm 3 1 5 40) #[(.ref a0_)] Z h0 (Q_vit3 Z a0_ a2 mc sz tb kt nd h0 n0) := by
 refine Met.intro (plainFor_of_name pn_java_2futil_2fHashMap_24Values) ?_
 intro p e s m below meth c s₁ hx hby hml hZ hown hnm hrt hlk X0 e0
 have N0 := Fr.nil n0
 have hww := @hvw _ _ hw
 have k0 := k_e (p := p) (e := e) (below := below) (s := s₁) (ef_16_R m a0_)
 have K0 : Keep h0 h0 [] := Keep.refl h0 []
 have H := @dch _ _ _ hby D16
 obtain ⟨T101, h101, X101, e101, E101, A101, D101, -, st101⟩ := newO X0 hx hZ hown (hww 130 rfl) (hww 131 rfl) (hww 132 rfl) e0 (g := (mkF m 0 #[sr a0_] [])) rfl (H 0 rfl) (by decide) (by decide)
 obtain ⟨b101, g101⟩ : ∃ z, z = h0.size := ⟨_, rfl⟩
 rw [← g101] at A101 D101 st101
 have g102 : n0 ≤ b101 := Nat.le_trans Z0 (Nat.le_of_eq g101.symm)
 have z103 : h0.size ≤ b101 := Nat.le_trans K0.1 (Nat.le_of_eq g101.symm)
 have Z104 : n0 ≤ h101.size := Nat.le_trans Z0 E101.1
 have K105 := K0.ext E101
 have F106 : Fld Z h101 b101 "java/util/HashMap$HashIterator" "this$0" "Ljava/util/HashMap;" .null := D101 (Or.inr (hww 144 rfl)) (ty := (.object "java/util/HashMap")) (by decide)
 have F107 : Fld Z h101 b101 "java/util/HashMap$HashIterator" "expectedModCount" "I" zI := D101 (Or.inl (hww 149 rfl)) (ty := .int) (by decide)
 have F108 : Fld Z h101 b101 "java/util/HashMap$HashIterator" "next" "Ljava/util/HashMap$Node;" .null := D101 (Or.inl (hww 153 rfl)) (ty := (.object "java/util/HashMap$Node")) (by decide)
 have F109 : Fld Z h101 b101 "java/util/HashMap$HashIterator" "current" "Ljava/util/HashMap$Node;" .null := D101 (Or.inl (hww 155 rfl)) (ty := (.object "java/util/HashMap$Node")) (by decide)
 have F110 : Fld Z h101 b101 "java/util/HashMap$HashIterator" "index" "I" zI := D101 (Or.inl (hww 157 rfl)) (ty := .int) (by decide)
 have k111 : Rt p e below T101 (mkF m 3 #[sr a0_] [vR b101]) s₁ m #[(.ref a0_)] 1 := fun t k => k0 t (st101 t k)
 have B112 := mkIT A101 F106 F107 F108 F109 F110
 have k113 := f_dup X101 hx k111 (H 1 rfl) rfl
 have k114 := f_alN X101 hx k113 (H 2 rfl) rfl
 obtain ⟨T115, X115, e115, k116⟩ := gFs X101 hx hZ hown (hww 117 rfl) e101 ((Fk4.keep K105 nin0).g 0 (v := (.ref a2)) (by decide) rfl rfl) k114 (H 3 rfl)
 obtain ⟨_, T117, L117, X117, hQ117, k117⟩ := c_N (W := 1) X115 hx hZ hown (hww 133 rfl) (hww 134 rfl) (hww 136 rfl) (hww 132 rfl) rfl (by decide) (vii3 l Z a0 hw [] b101 a2 mc sz tb kt nd h101 n0 Z104 B112 (Fk0.keep K105 nin0) (Fk1.keep K105 nin0) (Fk2.keep K105 nin0) (Fk3.keep K105 nin0) g102 (nG Fk2.lt z103) (nG Fk3.lt z103) hsz) e115 (argsL := [(.ref a2)]) (rest := [(.ref b101)]) rfl (by rw [hml]; rfl) k116 rfl (H 4 rfl) (lenOf pd__28Ljava_2futil_2fHashMap_3b_29V rfl) (b5 rfl)
 obtain ⟨h117, e117⟩ : ∃ h', T117.heap = h' := ⟨_, rfl⟩
 rw [e117] at hQ117
 obtain ⟨rfl, N117q, K117, R117_0⟩ := hQ117
 have N118 := Fr.app N0 N117q
 have Z119 : n0 ≤ h117.size := Nat.le_trans Z104 K117.1
 have K120 := Keep.trans K105 K117 (allS (Or.inr z103) all0)
 exact fin_r X117 hx (w := (.ref b101)) hrt hlk rfl (Or.inr (Or.inr (Or.inr (Or.inr ⟨rfl, rfl, rfl⟩)))) k117 (H 5 rfl) (by rw [e117]; exact ⟨b101, rfl, N118, K120, z103, R117_0⟩) (by decide) (by decide)
def Q_hiiNone (Z : State) (a1 a2 : Addr) (mc sz : Int32) (h0 : Heap) (n0 : Nat) (v : Option Value) (h : Heap) (L : List Loc) : Prop := v = none ∧ Fr n0 L ∧ Keep h0 h [a1] ∧ OBJ Z h a1 "java/util/HashMap$ValueIterator" lyIT [(.ref a2), (.int mc), .null, .null, zI]
theorem hiiNone (l : Launch) (Z : State) (a0 : Array Value) (hw : HW Z a0) (ws : List Jvm.Cond) (a1 a2 : Addr) (mc sz : Int32) (h0 : Heap) (n0 : Nat) (Z0 : n0 ≤ h0.size) (Fk0 : OBJ Z h0 a1 "java/util/HashMap$ValueIterator" lyIT [.null, zI, .null, .null, zI]) (Fk1 : Fld Z h0 a2 "java/util/HashMap" "modCount" "I" (.int mc)) (Fk2 : Fld Z h0 a2 "java/util/HashMap" "table" "[Ljava/util/HashMap$Node;" .null) (Fk3 : Fld Z h0 a2 "java/util/HashMap" "size" "I" (.int sz)) (ge_a1 : n0 ≤ a1) (ne_a1_a2 : a1 ≠ a2) :
  Met l mn43 jdk_99_method_1_code 3 none ws (rm 1 0 0 12) #[(.ref a1), (.ref a2)] Z h0 (Q_hiiNone Z a1 a2 mc sz h0 n0) := by
 refine Met.intro (plainFor_of_name pn_java_2futil_2fHashMap_24HashIterator) ?_
 intro p e s m below meth c s₁ hx hby hml hZ hown hnm hrt hlk X0 e0
 have N0 := Fr.nil n0
 have hww := @hvw _ _ hw
 have k0 := k_e (p := p) (e := e) (below := below) (s := s₁) (ef_18_RR m a1 a2)
 have K0 := Keep.refl h0 [a1]
 have H := @dch _ _ _ hby D18
 have k101 := f_alN X0 hx k0 (H 0 rfl) rfl
 have k102 := f_alN X0 hx k101 (H 1 rfl) rfl
 obtain ⟨T103, h103, L103, X103, e103, W103, B103, N103, Z103, k103⟩ := f_pF X0 hx hZ hown (hww 143 rfl) Via.refl e0 Fk0 (snIT hw) (Or.inr ⟨(hww 144 rfl), rfl, hnm⟩) (hww 131 rfl) 0 (by decide) rfl rfl (ty := (.object "java/util/HashMap")) (by decide) rfl rfl N0 ge_a1 Z0 k102 (H 2 rfl) rfl
 have K104 := kw K0 W103 0 rfl
 have k105 := f_alN X103 hx k103 (H 3 rfl) rfl
 obtain ⟨T106, X106, e106, st106⟩ := initO X103 hx hZ hown (hww 145 rfl) (hww 21 rfl) (hww 22 rfl) e103 (g := (mkF m 6 #[sr a1, sr a2, un] [vR a1])) rfl (by rw [hml]; rfl) rfl (H 4 rfl) (by decide) (W := 0) (by show 2 * 0 + _ ≤ _; exact Nat.le_of_eq rfl) (by decide)
 have k107 : Rt p e below T106 (mkF m 9 #[sr a1, sr a2, un] []) s₁ m #[(.ref a1), (.ref a2)] 3 := fun t k => k105 t (st106 t k)
 have k108 := f_alN X106 hx k107 (H 5 rfl) rfl
 have k109 := f_alN X106 hx k108 (H 6 rfl) rfl
 obtain ⟨T110, X110, e110, k111⟩ := gFs X106 hx hZ hown (hww 146 rfl) e106 (Fk1.keep K104 (ninS (Ne.symm ne_a1_a2) nin0)) k109 (H 7 rfl)
 obtain ⟨T112, h112, L112, X112, e112, W112, B112, N112, Z112, k112⟩ := f_pF X110 hx hZ hown (hww 148 rfl) Via.refl e110 B103 (snIT hw) (Or.inl (hww 149 rfl)) (hww 131 rfl) 1 (by decide) rfl rfl (ty := .int) (by decide) rfl rfl N103 ge_a1 Z103 k111 (H 8 rfl) rfl
 have K113 := kw K104 W112 0 rfl
 have k114 := f_alN X112 hx k112 (H 9 rfl) rfl
 obtain ⟨T115, X115, e115, k116⟩ := gFs X112 hx hZ hown (hww 150 rfl) e112 (Fk2.keep K113 (ninS (Ne.symm ne_a1_a2) nin0)) k114 (H 10 rfl)
 have k117 := f_nsN X115 hx k116 (H 11 rfl) (l' := #[sr a1, sr a2, .val .null]) rfl
 have k118 := f_alN X115 hx k117 (H 12 rfl) rfl
 have k119 := f_alN X115 hx k118 (H 13 rfl) rfl
 have k120 := f_an X115 hx k119 (H 14 rfl)
 have k121 := f_dupX1 X115 hx k120 (H 15 rfl) rfl rfl
 obtain ⟨T122, h122, L122, X122, e122, W122, B122, N122, Z122, k122⟩ := f_pF X115 hx hZ hown (hww 152 rfl) Via.refl e115 B112 (snIT hw) (Or.inl (hww 153 rfl)) (hww 131 rfl) 2 (by decide) rfl rfl (ty := (.object "java/util/HashMap$Node")) (by decide) rfl rfl N112 ge_a1 Z112 k121 (H 16 rfl) rfl
 have K123 := kw K113 W122 0 rfl
 obtain ⟨T124, h124, L124, X124, e124, W124, B124, N124, Z124, k124⟩ := f_pF X122 hx hZ hown (hww 154 rfl) Via.refl e122 B122 (snIT hw) (Or.inl (hww 155 rfl)) (hww 131 rfl) 3 (by decide) rfl rfl (ty := (.object "java/util/HashMap$Node")) (by decide) rfl rfl N122 ge_a1 Z122 k122 (H 17 rfl) rfl
 have K125 := kw K123 W124 0 rfl
 have k126 := f_alN X124 hx k124 (H 18 rfl) rfl
 have k127 := f_ic X124 hx k126 (H 19 rfl) (v := 0) rfl
 obtain ⟨T128, h128, L128, X128, e128, W128, B128, N128, Z128, k128⟩ := f_pF X124 hx hZ hown (hww 156 rfl) Via.refl e124 B124 (snIT hw) (Or.inl (hww 157 rfl)) (hww 131 rfl) 4 (by decide) rfl rfl (ty := .int) (by decide) rfl rfl N124 ge_a1 Z124 k127 (H 20 rfl) rfl
 have K129 := kw K125 W128 0 rfl
 have k130 := f_nlN X128 hx k128 (H 21 rfl) rfl
 have k131 := f_inY X128 hx k130 (H 22 rfl) (pc' := 78) (by decide)
 exact fin_v X128 hx hrt hlk k131 (H 44 rfl) (by rw [e128]; exact ⟨rfl, N128, K129, B128⟩) (by decide) (by decide)
def Q_viiNone (Z : State) (a1 a2 : Addr) (mc sz : Int32) (h0 : Heap) (n0 : Nat) (v : Option Value) (h : Heap) (L : List Loc) : Prop := v = none ∧ Fr n0 L ∧ Keep h0 h [a1] ∧ OBJ Z h a1 "java/util/HashMap$ValueIterator" lyIT [(.ref a2), (.int mc), .null, .null, zI]
theorem viiNone (l : Launch) (Z : State) (a0 : Array Value) (hw : HW Z a0) (ws : List Jvm.Cond) (a1 a2 : Addr) (mc sz : Int32) (h0 : Heap) (n0 : Nat) (Z0 : n0 ≤ h0.size) (Fk0 : OBJ Z h0 a1 "java/util/HashMap$ValueIterator" lyIT [.null, zI, .null, .null, zI]) (Fk1 : Fld Z h0 a2 "java/util/HashMap" "modCount" "I" (.int mc)) (Fk2 : Fld Z h0 a2 "java/util/HashMap" "table" "[Ljava/util/HashMap$Node;" .null) (Fk3 : Fld Z h0 a2 "java/util/HashMap" "size" "I" (.int sz)) (ge_a1 : n0 ≤ a1) (ne_a1_a2 : a1 ≠ a2) :
  Met l mn44 jdk_2569_method_1_code 2 none ws (rm 2 0 0 26) #[(.ref a1), (.ref a2)] Z h0 (Q_viiNone Z a1 a2 mc sz h0 n0) := by
 refine Met.intro (plainFor_of_name pn_java_2futil_2fHashMap_24ValueIterator) ?_
 intro p e s m below meth c s₁ hx hby hml hZ hown hnm hrt hlk X0 e0
 have N0 := Fr.nil n0
 have hww := @hvw _ _ hw
 have k0 := k_e (p := p) (e := e) (below := below) (s := s₁) (ef_17_RR m a1 a2)
 have K0 := Keep.refl h0 [a1]
 have H := @dch _ _ _ hby D17
 have k101 := f_alN X0 hx k0 (H 0 rfl) rfl
 have k102 := f_alN X0 hx k101 (H 1 rfl) rfl
 obtain ⟨_, T103, L103, X103, hQ103, k103⟩ := c_N (W := 0) X0 hx hZ hown (hww 137 rfl) (hww 138 rfl) (hww 142 rfl) (hww 141 rfl) rfl (by decide) (hiiNone l Z a0 hw [] a1 a2 mc sz h0 n0 Z0 Fk0 Fk1 Fk2 Fk3 ge_a1 ne_a1_a2) e0 (argsL := [(.ref a2)]) (rest := []) rfl (by rw [hml]; rfl) k102 rfl (H 2 rfl) (lenOf pd__28Ljava_2futil_2fHashMap_3b_29V rfl) (b5 rfl)
 obtain ⟨h103, e103⟩ : ∃ h', T103.heap = h' := ⟨_, rfl⟩
 rw [e103] at hQ103
 obtain ⟨rfl, N103q, K103, R103_0⟩ := hQ103
 have N104 := Fr.app N0 N103q
 have Z105 : n0 ≤ h103.size := Nat.le_trans Z0 K103.1
 have K106 := Keep.trans K0 K103 (allS (oL 0 rfl) all0)
 exact fin_v X103 hx hrt hlk k103 (H 3 rfl) (by rw [e103]; exact ⟨rfl, N104, K106, R103_0⟩) (by decide) (by decide)
def Q_vitNone (Z : State) (a0_ a2 : Addr) (mc sz : Int32) (h0 : Heap) (n0 : Nat) (v : Option Value) (h : Heap) (L : List Loc) : Prop := ∃ (it : Addr), v = some (.ref it) ∧ Fr n0 L ∧ Keep h0 h [] ∧ h0.size ≤ it ∧ OBJ Z h it "java/util/HashMap$ValueIterator" lyIT [(.ref a2), (.int mc), .null, .null, zI]
theorem vitNone (l : Launch) (Z : State) (a0 : Array Value) (hw : HW Z a0) (ws : List Jvm.Cond) (a0_ a2 : Addr) (mc sz : Int32) (h0 : Heap) (n0 : Nat) (Z0 : n0 ≤ h0.size) (Fk0 : Fld Z h0 a2 "java/util/HashMap" "modCount" "I" (.int mc)) (Fk1 : Fld Z h0 a2 "java/util/HashMap" "table" "[Ljava/util/HashMap$Node;" .null) (Fk2 : Fld Z h0 a2 "java/util/HashMap" "size" "I" (.int sz)) (Fk3 : OBJ Z h0 a0_ "java/util/HashMap$Values" lyVS [(.ref a2)]) :
  Met l mn45 jdk_2571_method_4_code 1 (some (.object "java/util/Iterator")) ws (rm 3 1 5 40) #[(.ref a0_)] Z h0 (Q_vitNone Z a0_ a2 mc sz h0 n0) := by
 refine Met.intro (plainFor_of_name pn_java_2futil_2fHashMap_24Values) ?_
 intro p e s m below meth c s₁ hx hby hml hZ hown hnm hrt hlk X0 e0
 have N0 := Fr.nil n0
 have hww := @hvw _ _ hw
 have k0 := k_e (p := p) (e := e) (below := below) (s := s₁) (ef_16_R m a0_)
 have K0 : Keep h0 h0 [] := Keep.refl h0 []
 have H := @dch _ _ _ hby D16
 obtain ⟨T101, h101, X101, e101, E101, A101, D101, -, st101⟩ := newO X0 hx hZ hown (hww 130 rfl) (hww 131 rfl) (hww 132 rfl) e0 (g := (mkF m 0 #[sr a0_] [])) rfl (H 0 rfl) (by decide) (by decide)
 obtain ⟨b101, g101⟩ : ∃ z, z = h0.size := ⟨_, rfl⟩
 rw [← g101] at A101 D101 st101
 have g102 : n0 ≤ b101 := Nat.le_trans Z0 (Nat.le_of_eq g101.symm)
 have z103 : h0.size ≤ b101 := Nat.le_trans K0.1 (Nat.le_of_eq g101.symm)
 have Z104 : n0 ≤ h101.size := Nat.le_trans Z0 E101.1
 have K105 := K0.ext E101
 have F106 : Fld Z h101 b101 "java/util/HashMap$HashIterator" "this$0" "Ljava/util/HashMap;" .null := D101 (Or.inr (hww 144 rfl)) (ty := (.object "java/util/HashMap")) (by decide)
 have F107 : Fld Z h101 b101 "java/util/HashMap$HashIterator" "expectedModCount" "I" zI := D101 (Or.inl (hww 149 rfl)) (ty := .int) (by decide)
 have F108 : Fld Z h101 b101 "java/util/HashMap$HashIterator" "next" "Ljava/util/HashMap$Node;" .null := D101 (Or.inl (hww 153 rfl)) (ty := (.object "java/util/HashMap$Node")) (by decide)
 have F109 : Fld Z h101 b101 "java/util/HashMap$HashIterator" "current" "Ljava/util/HashMap$Node;" .null := D101 (Or.inl (hww 155 rfl)) (ty := (.object "java/util/HashMap$Node")) (by decide)
 have F110 : Fld Z h101 b101 "java/util/HashMap$HashIterator" "index" "I" zI := D101 (Or.inl (hww 157 rfl)) (ty := .int) (by decide)
 have k111 : Rt p e below T101 (mkF m 3 #[sr a0_] [vR b101]) s₁ m #[(.ref a0_)] 1 := fun t k => k0 t (st101 t k)
 have B112 := mkIT A101 F106 F107 F108 F109 F110
 have k113 := f_dup X101 hx k111 (H 1 rfl) rfl
 have k114 := f_alN X101 hx k113 (H 2 rfl) rfl
 obtain ⟨T115, X115, e115, k116⟩ := gFs X101 hx hZ hown (hww 117 rfl) e101 ((Fk3.keep K105 nin0).g 0 (v := (.ref a2)) (by decide) rfl rfl) k114 (H 3 rfl)
 obtain ⟨_, T117, L117, X117, hQ117, k117⟩ := c_N (W := 1) X115 hx hZ hown (hww 133 rfl) (hww 134 rfl) (hww 136 rfl) (hww 132 rfl) rfl (by decide) (viiNone l Z a0 hw [] b101 a2 mc sz h101 n0 Z104 B112 (Fk0.keep K105 nin0) (Fk1.keep K105 nin0) (Fk2.keep K105 nin0) g102 (nG Fk2.lt z103)) e115 (argsL := [(.ref a2)]) (rest := [(.ref b101)]) rfl (by rw [hml]; rfl) k116 rfl (H 4 rfl) (lenOf pd__28Ljava_2futil_2fHashMap_3b_29V rfl) (b5 rfl)
 obtain ⟨h117, e117⟩ : ∃ h', T117.heap = h' := ⟨_, rfl⟩
 rw [e117] at hQ117
 obtain ⟨rfl, N117q, K117, R117_0⟩ := hQ117
 have N118 := Fr.app N0 N117q
 have Z119 : n0 ≤ h117.size := Nat.le_trans Z104 K117.1
 have K120 := Keep.trans K105 K117 (allS (Or.inr z103) all0)
 exact fin_r X117 hx (w := (.ref b101)) hrt hlk rfl (Or.inr (Or.inr (Or.inr (Or.inr ⟨rfl, rfl, rfl⟩)))) k117 (H 5 rfl) (by rw [e117]; exact ⟨b101, rfl, N118, K120, z103, R117_0⟩) (by decide) (by decide)
theorem scn (l : Launch) (Z : State) (a0 : Array Value) (hw : HW Z a0) {p : Program} {e : Env} {R : Room} {s : State} {m : MethodId} {args : Array Value} {below : List Frame} {meth : Method} {c : Code} {cells slots : Nat} {s1 : State} {A : Array Value} {N n0 : Nat} {h0 : Heap} {it tb nd mp : Addr} {kt : ClassId} {mc : Int32} {cu : Value} {tl : List Value} {own : String} (hx : p.tables.exec = Jvm.exec) (hby : c.code = jdk_99_method_3_code) (hZ : Z.Warmed39 s.vm) (hown0 : s.vm.findClass own = some m.cls) (ho : own = "java/util/HashMap$HashIterator") : ∀ (d : Nat) (i : Int32), i.toInt = 16 - (d : Int) ∧ d ≤ 16 → (∀ j : Int32, i.toInt ≤ j.toInt → j.toInt < 16 → tl.getD j.toNatClampNeg .null = .null) → ∀ {T : State} {locs : List Loc} {h : Heap}, Stand p l e R s m args below meth c T locs cells slots → T.heap = h → OBJ Z h it "java/util/HashMap$ValueIterator" lyIT [(.ref mp), (.int mc), .null, cu, (.int i)] → Arv Z h tb kt (.object "java/util/HashMap$Node") (16 : Int32) tl .null → it ≠ tb → Fr n0 locs → n0 ≤ it → n0 ≤ h.size → Keep h0 h [it] → Rt p e below T (mkF m 68 #[sr it, sr tb, sr nd] []) s1 m A N → ∃ T' h' L', Stand p l e R s m args below meth c T' L' cells slots ∧ T'.heap = h' ∧ OBJ Z h' it "java/util/HashMap$ValueIterator" lyIT [(.ref mp), (.int mc), .null, cu, (.int (16 : Int32))] ∧ Fr n0 L' ∧ n0 ≤ h'.size ∧ Keep h0 h' [it] ∧ Rt p e below T' (mkF m 98 #[sr it, sr tb, sr nd] []) s1 m A N := by
 subst ho
 have hown : s.vm.findClass "java/util/HashMap$HashIterator" = some m.cls := hown0
 have hww := @hvw _ _ hw
 have H := @dch _ _ _ hby D53
 intro d
 induction d with
 | zero =>
  intro i hi hnul T locs h X eT B0 V0 hne NF ge zs Kq k
  have e16 : i = (16 : Int32) := Int32.toInt_inj.mp (by rw [hi.1]; rfl)
  subst e16
  have k501 := f_alN X hx k (H 0 rfl) rfl
  obtain ⟨T502, X502, e502, k503⟩ := gFs X hx hZ hown (hww 156 rfl) eT (B0.g 4 (v := (.int (16 : Int32))) (by decide) rfl rfl) k501 (H 1 rfl)
  have k504 := f_alN X502 hx k503 (H 2 rfl) rfl
  have k505 := f_len X502 hx hZ e502 V0 k504 (H 3 rfl)
  have k506 := f_icY X502 hx k505 (H 4 rfl) (pc' := 98) (flt (by decide)).2.1 (by decide)
  exact ⟨T502, h, _, X502, e502, B0, NF, zs, Kq, k506⟩
 | succ d ih =>
  intro i hi hnul T locs h X eT B0 V0 hne NF ge zs Kq k
  have hlt' : i.toInt < 16 := by have := hi.1; omega
  have hge : ¬ i < (0 : Int32) := by have a := hi.1; have b := hi.2; rw [Int32.lt_iff_toInt_lt, show (0 : Int32).toInt = 0 by decide]; omega
  have hlt : i < (16 : Int32) := by rw [Int32.lt_iff_toInt_lt, show (16 : Int32).toInt = 16 by decide]; exact hlt'
  have hs : (i + (1 : Int32)).toInt = i.toInt + 1 := by have a := c_iadd i 1; have r := rng32 (i + 1); have b := hi.1; have b' := hi.2; rw [show (1 : Int32).toInt = 1 by decide] at a; omega
  have k101 := f_alN X hx k (H 0 rfl) rfl
  obtain ⟨T102, X102, e102, k103⟩ := gFs X hx hZ hown (hww 156 rfl) eT (B0.g 4 (v := (.int i)) (by decide) rfl rfl) k101 (H 1 rfl)
  have k104 := f_alN X102 hx k103 (H 2 rfl) rfl
  have k105 := f_len X102 hx hZ e102 V0 k104 (H 3 rfl)
  have k106 := f_icN X102 hx k105 (H 4 rfl) (tlt hlt).2.1
  have k107 := f_alN X102 hx k106 (H 5 rfl) rfl
  have k108 := f_alN X102 hx k107 (H 6 rfl) rfl
  have k109 := f_alN X102 hx k108 (H 7 rfl) rfl
  have k110 := f_dup X102 hx k109 (H 8 rfl) rfl
  obtain ⟨T111, X111, e111, k112⟩ := gFs X102 hx hZ hown (hww 156 rfl) e102 (B0.g 4 (v := (.int i)) (by decide) rfl rfl) k110 (H 9 rfl)
  have k113 := f_dupX1 X111 hx k112 (H 10 rfl) rfl rfl
  have k114 := f_ic X111 hx k113 (H 11 rfl) (v := 1) rfl
  have k115 := f_iadd X111 hx k114 (H 12 rfl) rfl
  obtain ⟨T116, h116, L116, X116, e116, W116, B116, N116, Z116, k116⟩ := f_pF X111 hx hZ hown (hww 156 rfl) Via.refl e111 B0 (snIT hw) (Or.inl (hww 157 rfl)) (hww 131 rfl) 4 (by decide) rfl rfl (ty := .int) (by decide) rfl rfl NF ge zs k115 (H 13 rfl) rfl
  have F117 := V0.other W116 (Ne.symm hne)
  have K118 := kw Kq W116 0 rfl
  have k119 := f_aal X116 hx hZ e116 F117 k116 (H 14 rfl) (v := .null) rfl ⟨hge, hlt⟩ (hnul i (Int.le_refl _) hlt')
  have k120 := f_dupX1 X116 hx k119 (H 15 rfl) rfl rfl
  obtain ⟨T121, h121, L121, X121, e121, W121, B121, N121, Z121, k121⟩ := f_pF X116 hx hZ hown (hww 152 rfl) Via.refl e116 B116 (snIT hw) (Or.inl (hww 153 rfl)) (hww 131 rfl) 2 (by decide) rfl rfl (ty := (.object "java/util/HashMap$Node")) (by decide) rfl rfl N116 ge Z116 k120 (H 16 rfl) rfl
  have F122 := F117.other W121 (Ne.symm hne)
  have K123 := kw K118 W121 0 rfl
  have k124 := f_inY X121 hx k121 (H 17 rfl) (pc' := 68) (by decide)
  exact ih (i + (1 : Int32)) (by have a := hi.1; have b := hi.2; omega) (fun j h1 h2 => hnul j (by omega) h2) X121 e121 B121 F122 hne N121 ge Z121 K123 k124
theorem ef_53_R (m : MethodId) (x0 : Addr) : entryFrame m #[(.ref x0)] 3 = mkF m 0 #[.val (.ref x0), .unset, .unset] [] := by first | (simp [entryFrame, mkF, argsToLocals, Value.category]; done) | rfl
def Q_nxn12 (Z : State) (a1 a2 : Addr) (mc : Int32) (tb : Addr) (kt : ClassId) (nd : Addr) (cu : Value) (nx : Addr) (v1 v3 : Value) (h0 : Heap) (n0 : Nat) (v : Option Value) (h : Heap) (L : List Loc) : Prop := v = some (.ref nd) ∧ Fr n0 L ∧ Keep h0 h [a1] ∧ OBJ Z h a1 "java/util/HashMap$ValueIterator" lyIT [(.ref a2), (.int mc), (.ref nx), (.ref nd), (.int (3 : Int32))]
theorem nxn12 (l : Launch) (Z : State) (a0 : Array Value) (hw : HW Z a0) (ws : List Jvm.Cond) (a1 a2 : Addr) (mc : Int32) (tb : Addr) (kt : ClassId) (nd : Addr) (cu : Value) (nx : Addr) (v1 v3 : Value) (h0 : Heap) (n0 : Nat) (Z0 : n0 ≤ h0.size) (Fk0 : OBJ Z h0 a1 "java/util/HashMap$ValueIterator" lyIT [(.ref a2), (.int mc), (.ref nd), cu, (.int (2 : Int32))]) (Fk1 : Fld Z h0 a2 "java/util/HashMap" "modCount" "I" (.int mc)) (Fk2 : Fld Z h0 a2 "java/util/HashMap" "table" "[Ljava/util/HashMap$Node;" (.ref tb)) (Fk3 : Arv Z h0 tb kt (.object "java/util/HashMap$Node") (16 : Int32) [.null, v1, (.ref nx), v3, .null, .null, .null, .null, .null, .null, .null, .null, .null, .null, .null, .null] .null) (Fk4 : Fld Z h0 nd "java/util/HashMap$Node" "next" "Ljava/util/HashMap$Node;" .null) (ge_a1 : n0 ≤ a1) (ne_a1_a2 : a1 ≠ a2) (ne_a1_tb : a1 ≠ tb) (ne_a1_nd : a1 ≠ nd) :
  Met l mn46 jdk_99_method_3_code 3 (some (.object "java/util/HashMap$Node")) ws (rm 0 0 0 0) #[(.ref a1)] Z h0 (Q_nxn12 Z a1 a2 mc tb kt nd cu nx v1 v3 h0 n0) := by
 refine Met.intro (plainFor_of_name pn_java_2futil_2fHashMap_24HashIterator) ?_
 intro p e s m below meth c s₁ hx hby hml hZ hown hnm hrt hlk X0 e0
 have N0 := Fr.nil n0
 have hww := @hvw _ _ hw
 have k0 := k_e (p := p) (e := e) (below := below) (s := s₁) (ef_53_R m a1)
 have K0 := Keep.refl h0 [a1]
 have H := @dch _ _ _ hby D53
 have k101 := f_alN X0 hx k0 (H 18 rfl) rfl
 obtain ⟨T102, X102, e102, k103⟩ := gFs X0 hx hZ hown (hww 152 rfl) e0 (Fk0.g 2 (v := (.ref nd)) (by decide) rfl rfl) k101 (H 19 rfl)
 have k104 := f_asN X102 hx k103 (H 20 rfl) (l' := #[sr a1, un, sr nd]) rfl
 have k105 := f_alN X102 hx k104 (H 21 rfl) rfl
 obtain ⟨T106, X106, e106, k107⟩ := gFs X102 hx hZ hown (hww 143 rfl) e102 (Fk0.g 0 (v := (.ref a2)) (by decide) rfl rfl) k105 (H 22 rfl)
 obtain ⟨T108, X108, e108, k109⟩ := gFs X106 hx hZ hown (hww 146 rfl) e106 Fk1 k107 (H 23 rfl)
 have k110 := f_alN X108 hx k109 (H 24 rfl) rfl
 obtain ⟨T111, X111, e111, k112⟩ := gFs X108 hx hZ hown (hww 148 rfl) e108 (Fk0.g 1 (v := (.int mc)) (by decide) rfl rfl) k110 (H 25 rfl)
 have k113 := f_icY X111 hx k112 (H 26 rfl) (pc' := 27) (teq rfl).1 (by decide)
 have k114 := f_alN X111 hx k113 (H 27 rfl) rfl
 have k115 := f_nnY X111 hx k114 (H 28 rfl) (pc' := 39) (by decide)
 have k116 := f_alN X111 hx k115 (H 29 rfl) rfl
 have k117 := f_alN X111 hx k116 (H 30 rfl) rfl
 have k118 := f_alN X111 hx k117 (H 31 rfl) rfl
 have k119 := f_dupX1 X111 hx k118 (H 32 rfl) rfl rfl
 obtain ⟨T120, h120, L120, X120, e120, W120, B120, N120, Z120, k120⟩ := f_pF X111 hx hZ hown (hww 154 rfl) Via.refl e111 Fk0 (snIT hw) (Or.inl (hww 155 rfl)) (hww 131 rfl) 3 (by decide) rfl rfl (ty := (.object "java/util/HashMap$Node")) (by decide) rfl rfl N0 ge_a1 Z0 k119 (H 33 rfl) rfl
 have K121 := kw K0 W120 0 rfl
 obtain ⟨T122, X122, e122, k123⟩ := gFs X120 hx hZ hown (hww 387 rfl) e120 (Fk4.keep K121 (ninS (Ne.symm ne_a1_nd) nin0)) k120 (H 34 rfl)
 have k124 := f_dupX1 X122 hx k123 (H 35 rfl) rfl rfl
 obtain ⟨T125, h125, L125, X125, e125, W125, B125, N125, Z125, k125⟩ := f_pF X122 hx hZ hown (hww 152 rfl) Via.refl e122 B120 (snIT hw) (Or.inl (hww 153 rfl)) (hww 131 rfl) 2 (by decide) rfl rfl (ty := (.object "java/util/HashMap$Node")) (by decide) rfl rfl N120 ge_a1 Z120 k124 (H 36 rfl) rfl
 have K126 := kw K121 W125 0 rfl
 have k127 := f_nnN X125 hx k125 (H 37 rfl)
 have k128 := f_alN X125 hx k127 (H 38 rfl) rfl
 obtain ⟨T129, X129, e129, k130⟩ := gFs X125 hx hZ hown (hww 143 rfl) e125 (B125.g 0 (v := (.ref a2)) (by decide) rfl rfl) k128 (H 39 rfl)
 obtain ⟨T131, X131, e131, k132⟩ := gFs X129 hx hZ hown (hww 150 rfl) e129 (Fk2.keep K126 (ninS (Ne.symm ne_a1_a2) nin0)) k130 (H 40 rfl)
 have k133 := f_dup X131 hx k132 (H 41 rfl) rfl
 have k134 := f_asN X131 hx k133 (H 42 rfl) (l' := #[sr a1, sr tb, sr nd]) rfl
 have k135 := f_inN X131 hx k134 (H 43 rfl)
 have k136 := f_alN X131 hx k135 (H 0 rfl) rfl
 obtain ⟨T137, X137, e137, k138⟩ := gFs X131 hx hZ hown (hww 156 rfl) e131 (B125.g 4 (v := (.int (2 : Int32))) (by decide) rfl rfl) k136 (H 1 rfl)
 have k139 := f_alN X137 hx k138 (H 2 rfl) rfl
 have k140 := f_len X137 hx hZ e137 (Fk3.keep K126 (ninS (Ne.symm ne_a1_tb) nin0)) k139 (H 3 rfl)
 have k141 := f_icN X137 hx k140 (H 4 rfl) (tlt (by decide)).2.1
 have k142 := f_alN X137 hx k141 (H 5 rfl) rfl
 have k143 := f_alN X137 hx k142 (H 6 rfl) rfl
 have k144 := f_alN X137 hx k143 (H 7 rfl) rfl
 have k145 := f_dup X137 hx k144 (H 8 rfl) rfl
 obtain ⟨T146, X146, e146, k147⟩ := gFs X137 hx hZ hown (hww 156 rfl) e137 (B125.g 4 (v := (.int (2 : Int32))) (by decide) rfl rfl) k145 (H 9 rfl)
 have k148 := f_dupX1 X146 hx k147 (H 10 rfl) rfl rfl
 have k149 := f_ic X146 hx k148 (H 11 rfl) (v := 1) rfl
 have k150 := f_iadd X146 hx k149 (H 12 rfl) (r := 3) (by decide)
 obtain ⟨T151, h151, L151, X151, e151, W151, B151, N151, Z151, k151⟩ := f_pF X146 hx hZ hown (hww 156 rfl) Via.refl e146 B125 (snIT hw) (Or.inl (hww 157 rfl)) (hww 131 rfl) 4 (by decide) rfl rfl (ty := .int) (by decide) rfl rfl N125 ge_a1 Z125 k150 (H 13 rfl) rfl
 have K152 := kw K126 W151 0 rfl
 have k153 := f_aal X151 hx hZ e151 (Fk3.keep K152 (ninS (Ne.symm ne_a1_tb) nin0)) k151 (H 14 rfl) (v := (.ref nx)) rfl (by decide) rfl
 have k154 := f_dupX1 X151 hx k153 (H 15 rfl) rfl rfl
 obtain ⟨T155, h155, L155, X155, e155, W155, B155, N155, Z155, k155⟩ := f_pF X151 hx hZ hown (hww 152 rfl) Via.refl e151 B151 (snIT hw) (Or.inl (hww 153 rfl)) (hww 131 rfl) 2 (by decide) rfl rfl (ty := (.object "java/util/HashMap$Node")) (by decide) rfl rfl N151 ge_a1 Z151 k154 (H 16 rfl) rfl
 have K156 := kw K152 W155 0 rfl
 have k157 := f_inN X155 hx k155 (H 17 rfl)
 have k158 := f_alN X155 hx k157 (H 44 rfl) rfl
 exact fin_r X155 hx (w := (.ref nd)) hrt hlk rfl (Or.inr (Or.inr (Or.inr (Or.inr ⟨rfl, rfl, rfl⟩)))) k158 (H 45 rfl) (by rw [e155]; exact ⟨rfl, N155, K156, B155⟩) (by decide) (by decide)
theorem ef_52_R (m : MethodId) (x0 : Addr) : entryFrame m #[(.ref x0)] 1 = mkF m 0 #[.val (.ref x0)] [] := by first | (simp [entryFrame, mkF, argsToLocals, Value.category]; done) | rfl
theorem pd__28_29Ljava_2futil_2fHashMap_24Node_3b : parseMethodDescriptor "()Ljava/util/HashMap$Node;" = some ⟨[], some (.object "java/util/HashMap$Node")⟩ := by decide +kernel
def Q_nxt12 (Z : State) (a1 a2 : Addr) (mc : Int32) (tb : Addr) (kt : ClassId) (nd : Addr) (cu : Value) (nx : Addr) (v1 v3 : Value) (vl : Addr) (h0 : Heap) (n0 : Nat) (v : Option Value) (h : Heap) (L : List Loc) : Prop := v = some (.ref vl) ∧ Fr n0 L ∧ Keep h0 h [a1] ∧ OBJ Z h a1 "java/util/HashMap$ValueIterator" lyIT [(.ref a2), (.int mc), (.ref nx), (.ref nd), (.int (3 : Int32))]
theorem nxt12 (l : Launch) (Z : State) (a0 : Array Value) (hw : HW Z a0) (ws : List Jvm.Cond) (a1 a2 : Addr) (mc : Int32) (tb : Addr) (kt : ClassId) (nd : Addr) (cu : Value) (nx : Addr) (v1 v3 : Value) (vl : Addr) (h0 : Heap) (n0 : Nat) (Z0 : n0 ≤ h0.size) (Fk0 : OBJ Z h0 a1 "java/util/HashMap$ValueIterator" lyIT [(.ref a2), (.int mc), (.ref nd), cu, (.int (2 : Int32))]) (Fk1 : Fld Z h0 a2 "java/util/HashMap" "modCount" "I" (.int mc)) (Fk2 : Fld Z h0 a2 "java/util/HashMap" "table" "[Ljava/util/HashMap$Node;" (.ref tb)) (Fk3 : Arv Z h0 tb kt (.object "java/util/HashMap$Node") (16 : Int32) [.null, v1, (.ref nx), v3, .null, .null, .null, .null, .null, .null, .null, .null, .null, .null, .null, .null] .null) (Fk4 : Fld Z h0 nd "java/util/HashMap$Node" "next" "Ljava/util/HashMap$Node;" .null) (Fk5 : Fld Z h0 nd "java/util/HashMap$Node" "value" "Ljava/lang/Object;" (.ref vl)) (ge_a1 : n0 ≤ a1) (ne_a1_a2 : a1 ≠ a2) (ne_a1_tb : a1 ≠ tb) (ne_a1_nd : a1 ≠ nd) :
  Met l mn48 jdk_2569_method_2_code 1 (some (.object "java/lang/Object")) ws (rm 1 0 0 14) #[(.ref a1)] Z h0 (Q_nxt12 Z a1 a2 mc tb kt nd cu nx v1 v3 vl h0 n0) := by
 refine Met.intro (plainFor_of_name pn_java_2futil_2fHashMap_24ValueIterator) ?_
 intro p e s m below meth c s₁ hx hby hml hZ hown hnm hrt hlk X0 e0
 have N0 := Fr.nil n0
 have hww := @hvw _ _ hw
 have k0 := k_e (p := p) (e := e) (below := below) (s := s₁) (ef_52_R m a1)
 have K0 := Keep.refl h0 [a1]
 have H := @dch _ _ _ hby D52
 have k101 := f_alN X0 hx k0 (H 0 rfl) rfl
 obtain ⟨_, T102, L102, X102, hQ102, k102⟩ := c_U (W := 0) (x := mn47) X0 hx hZ hown (hww 381 rfl) (hww 382 rfl) (hww 383 rfl) (by decide) (hww 385 rfl) (hww 384 rfl) (hww 386 rfl) (hww 141 rfl) Fk0.1 (nxn12 l Z a0 hw [] a1 a2 mc tb kt nd cu nx v1 v3 h0 n0 Z0 Fk0 Fk1 Fk2 Fk3 Fk4 ge_a1 ne_a1_a2 ne_a1_tb ne_a1_nd) e0 (argsL := []) (rest := []) rfl (by rw [hml]; rfl) k101 rfl (H 1 rfl) (lenOf pd__28_29Ljava_2futil_2fHashMap_24Node_3b rfl) (b5 rfl)
 obtain ⟨h102, e102⟩ : ∃ h', T102.heap = h' := ⟨_, rfl⟩
 rw [e102] at hQ102
 obtain ⟨rfl, N102q, K102, R102_0⟩ := hQ102
 have N103 := Fr.app N0 N102q
 have Z104 : n0 ≤ h102.size := Nat.le_trans Z0 K102.1
 have K105 := Keep.trans K0 K102 (allS (oL 0 rfl) all0)
 obtain ⟨T106, X106, e106, k107⟩ := gFs X102 hx hZ hown (hww 388 rfl) e102 (Fk5.keep K105 (ninS (Ne.symm ne_a1_nd) nin0)) k102 (H 2 rfl)
 exact fin_r X106 hx (w := (.ref vl)) hrt hlk rfl (Or.inr (Or.inr (Or.inr (Or.inr ⟨rfl, rfl, rfl⟩)))) k107 (H 3 rfl) (by rw [e106]; exact ⟨rfl, N103, K105, R102_0⟩) (by decide) (by decide)
def Q_nxn13 (Z : State) (a1 a2 : Addr) (mc : Int32) (tb : Addr) (kt : ClassId) (nd : Addr) (cu : Value) (nx : Addr) (v1 : Value) (h0 : Heap) (n0 : Nat) (v : Option Value) (h : Heap) (L : List Loc) : Prop := v = some (.ref nd) ∧ Fr n0 L ∧ Keep h0 h [a1] ∧ OBJ Z h a1 "java/util/HashMap$ValueIterator" lyIT [(.ref a2), (.int mc), (.ref nx), (.ref nd), (.int (4 : Int32))]
theorem nxn13 (l : Launch) (Z : State) (a0 : Array Value) (hw : HW Z a0) (ws : List Jvm.Cond) (a1 a2 : Addr) (mc : Int32) (tb : Addr) (kt : ClassId) (nd : Addr) (cu : Value) (nx : Addr) (v1 : Value) (h0 : Heap) (n0 : Nat) (Z0 : n0 ≤ h0.size) (Fk0 : OBJ Z h0 a1 "java/util/HashMap$ValueIterator" lyIT [(.ref a2), (.int mc), (.ref nd), cu, (.int (2 : Int32))]) (Fk1 : Fld Z h0 a2 "java/util/HashMap" "modCount" "I" (.int mc)) (Fk2 : Fld Z h0 a2 "java/util/HashMap" "table" "[Ljava/util/HashMap$Node;" (.ref tb)) (Fk3 : Arv Z h0 tb kt (.object "java/util/HashMap$Node") (16 : Int32) [.null, v1, .null, (.ref nx), .null, .null, .null, .null, .null, .null, .null, .null, .null, .null, .null, .null] .null) (Fk4 : Fld Z h0 nd "java/util/HashMap$Node" "next" "Ljava/util/HashMap$Node;" .null) (ge_a1 : n0 ≤ a1) (ne_a1_a2 : a1 ≠ a2) (ne_a1_tb : a1 ≠ tb) (ne_a1_nd : a1 ≠ nd) :
  Met l mn46 jdk_99_method_3_code 3 (some (.object "java/util/HashMap$Node")) ws (rm 0 0 0 0) #[(.ref a1)] Z h0 (Q_nxn13 Z a1 a2 mc tb kt nd cu nx v1 h0 n0) := by
 refine Met.intro (plainFor_of_name pn_java_2futil_2fHashMap_24HashIterator) ?_
 intro p e s m below meth c s₁ hx hby hml hZ hown hnm hrt hlk X0 e0
 have N0 := Fr.nil n0
 have hww := @hvw _ _ hw
 have k0 := k_e (p := p) (e := e) (below := below) (s := s₁) (ef_53_R m a1)
 have K0 := Keep.refl h0 [a1]
 have H := @dch _ _ _ hby D53
 have k101 := f_alN X0 hx k0 (H 18 rfl) rfl
 obtain ⟨T102, X102, e102, k103⟩ := gFs X0 hx hZ hown (hww 152 rfl) e0 (Fk0.g 2 (v := (.ref nd)) (by decide) rfl rfl) k101 (H 19 rfl)
 have k104 := f_asN X102 hx k103 (H 20 rfl) (l' := #[sr a1, un, sr nd]) rfl
 have k105 := f_alN X102 hx k104 (H 21 rfl) rfl
 obtain ⟨T106, X106, e106, k107⟩ := gFs X102 hx hZ hown (hww 143 rfl) e102 (Fk0.g 0 (v := (.ref a2)) (by decide) rfl rfl) k105 (H 22 rfl)
 obtain ⟨T108, X108, e108, k109⟩ := gFs X106 hx hZ hown (hww 146 rfl) e106 Fk1 k107 (H 23 rfl)
 have k110 := f_alN X108 hx k109 (H 24 rfl) rfl
 obtain ⟨T111, X111, e111, k112⟩ := gFs X108 hx hZ hown (hww 148 rfl) e108 (Fk0.g 1 (v := (.int mc)) (by decide) rfl rfl) k110 (H 25 rfl)
 have k113 := f_icY X111 hx k112 (H 26 rfl) (pc' := 27) (teq rfl).1 (by decide)
 have k114 := f_alN X111 hx k113 (H 27 rfl) rfl
 have k115 := f_nnY X111 hx k114 (H 28 rfl) (pc' := 39) (by decide)
 have k116 := f_alN X111 hx k115 (H 29 rfl) rfl
 have k117 := f_alN X111 hx k116 (H 30 rfl) rfl
 have k118 := f_alN X111 hx k117 (H 31 rfl) rfl
 have k119 := f_dupX1 X111 hx k118 (H 32 rfl) rfl rfl
 obtain ⟨T120, h120, L120, X120, e120, W120, B120, N120, Z120, k120⟩ := f_pF X111 hx hZ hown (hww 154 rfl) Via.refl e111 Fk0 (snIT hw) (Or.inl (hww 155 rfl)) (hww 131 rfl) 3 (by decide) rfl rfl (ty := (.object "java/util/HashMap$Node")) (by decide) rfl rfl N0 ge_a1 Z0 k119 (H 33 rfl) rfl
 have K121 := kw K0 W120 0 rfl
 obtain ⟨T122, X122, e122, k123⟩ := gFs X120 hx hZ hown (hww 387 rfl) e120 (Fk4.keep K121 (ninS (Ne.symm ne_a1_nd) nin0)) k120 (H 34 rfl)
 have k124 := f_dupX1 X122 hx k123 (H 35 rfl) rfl rfl
 obtain ⟨T125, h125, L125, X125, e125, W125, B125, N125, Z125, k125⟩ := f_pF X122 hx hZ hown (hww 152 rfl) Via.refl e122 B120 (snIT hw) (Or.inl (hww 153 rfl)) (hww 131 rfl) 2 (by decide) rfl rfl (ty := (.object "java/util/HashMap$Node")) (by decide) rfl rfl N120 ge_a1 Z120 k124 (H 36 rfl) rfl
 have K126 := kw K121 W125 0 rfl
 have k127 := f_nnN X125 hx k125 (H 37 rfl)
 have k128 := f_alN X125 hx k127 (H 38 rfl) rfl
 obtain ⟨T129, X129, e129, k130⟩ := gFs X125 hx hZ hown (hww 143 rfl) e125 (B125.g 0 (v := (.ref a2)) (by decide) rfl rfl) k128 (H 39 rfl)
 obtain ⟨T131, X131, e131, k132⟩ := gFs X129 hx hZ hown (hww 150 rfl) e129 (Fk2.keep K126 (ninS (Ne.symm ne_a1_a2) nin0)) k130 (H 40 rfl)
 have k133 := f_dup X131 hx k132 (H 41 rfl) rfl
 have k134 := f_asN X131 hx k133 (H 42 rfl) (l' := #[sr a1, sr tb, sr nd]) rfl
 have k135 := f_inN X131 hx k134 (H 43 rfl)
 have k136 := f_alN X131 hx k135 (H 0 rfl) rfl
 obtain ⟨T137, X137, e137, k138⟩ := gFs X131 hx hZ hown (hww 156 rfl) e131 (B125.g 4 (v := (.int (2 : Int32))) (by decide) rfl rfl) k136 (H 1 rfl)
 have k139 := f_alN X137 hx k138 (H 2 rfl) rfl
 have k140 := f_len X137 hx hZ e137 (Fk3.keep K126 (ninS (Ne.symm ne_a1_tb) nin0)) k139 (H 3 rfl)
 have k141 := f_icN X137 hx k140 (H 4 rfl) (tlt (by decide)).2.1
 have k142 := f_alN X137 hx k141 (H 5 rfl) rfl
 have k143 := f_alN X137 hx k142 (H 6 rfl) rfl
 have k144 := f_alN X137 hx k143 (H 7 rfl) rfl
 have k145 := f_dup X137 hx k144 (H 8 rfl) rfl
 obtain ⟨T146, X146, e146, k147⟩ := gFs X137 hx hZ hown (hww 156 rfl) e137 (B125.g 4 (v := (.int (2 : Int32))) (by decide) rfl rfl) k145 (H 9 rfl)
 have k148 := f_dupX1 X146 hx k147 (H 10 rfl) rfl rfl
 have k149 := f_ic X146 hx k148 (H 11 rfl) (v := 1) rfl
 have k150 := f_iadd X146 hx k149 (H 12 rfl) (r := 3) (by decide)
 obtain ⟨T151, h151, L151, X151, e151, W151, B151, N151, Z151, k151⟩ := f_pF X146 hx hZ hown (hww 156 rfl) Via.refl e146 B125 (snIT hw) (Or.inl (hww 157 rfl)) (hww 131 rfl) 4 (by decide) rfl rfl (ty := .int) (by decide) rfl rfl N125 ge_a1 Z125 k150 (H 13 rfl) rfl
 have K152 := kw K126 W151 0 rfl
 have k153 := f_aal X151 hx hZ e151 (Fk3.keep K152 (ninS (Ne.symm ne_a1_tb) nin0)) k151 (H 14 rfl) (v := .null) rfl (by decide) rfl
 have k154 := f_dupX1 X151 hx k153 (H 15 rfl) rfl rfl
 obtain ⟨T155, h155, L155, X155, e155, W155, B155, N155, Z155, k155⟩ := f_pF X151 hx hZ hown (hww 152 rfl) Via.refl e151 B151 (snIT hw) (Or.inl (hww 153 rfl)) (hww 131 rfl) 2 (by decide) rfl rfl (ty := (.object "java/util/HashMap$Node")) (by decide) rfl rfl N151 ge_a1 Z151 k154 (H 16 rfl) rfl
 have K156 := kw K152 W155 0 rfl
 have k157 := f_inY X155 hx k155 (H 17 rfl) (pc' := 68) (by decide)
 have k158 := f_alN X155 hx k157 (H 0 rfl) rfl
 obtain ⟨T159, X159, e159, k160⟩ := gFs X155 hx hZ hown (hww 156 rfl) e155 (B155.g 4 (v := (.int (3 : Int32))) (by decide) rfl rfl) k158 (H 1 rfl)
 have k161 := f_alN X159 hx k160 (H 2 rfl) rfl
 have k162 := f_len X159 hx hZ e159 (Fk3.keep K156 (ninS (Ne.symm ne_a1_tb) nin0)) k161 (H 3 rfl)
 have k163 := f_icN X159 hx k162 (H 4 rfl) (tlt (by decide)).2.1
 have k164 := f_alN X159 hx k163 (H 5 rfl) rfl
 have k165 := f_alN X159 hx k164 (H 6 rfl) rfl
 have k166 := f_alN X159 hx k165 (H 7 rfl) rfl
 have k167 := f_dup X159 hx k166 (H 8 rfl) rfl
 obtain ⟨T168, X168, e168, k169⟩ := gFs X159 hx hZ hown (hww 156 rfl) e159 (B155.g 4 (v := (.int (3 : Int32))) (by decide) rfl rfl) k167 (H 9 rfl)
 have k170 := f_dupX1 X168 hx k169 (H 10 rfl) rfl rfl
 have k171 := f_ic X168 hx k170 (H 11 rfl) (v := 1) rfl
 have k172 := f_iadd X168 hx k171 (H 12 rfl) (r := 4) (by decide)
 obtain ⟨T173, h173, L173, X173, e173, W173, B173, N173, Z173, k173⟩ := f_pF X168 hx hZ hown (hww 156 rfl) Via.refl e168 B155 (snIT hw) (Or.inl (hww 157 rfl)) (hww 131 rfl) 4 (by decide) rfl rfl (ty := .int) (by decide) rfl rfl N155 ge_a1 Z155 k172 (H 13 rfl) rfl
 have K174 := kw K156 W173 0 rfl
 have k175 := f_aal X173 hx hZ e173 (Fk3.keep K174 (ninS (Ne.symm ne_a1_tb) nin0)) k173 (H 14 rfl) (v := (.ref nx)) rfl (by decide) rfl
 have k176 := f_dupX1 X173 hx k175 (H 15 rfl) rfl rfl
 obtain ⟨T177, h177, L177, X177, e177, W177, B177, N177, Z177, k177⟩ := f_pF X173 hx hZ hown (hww 152 rfl) Via.refl e173 B173 (snIT hw) (Or.inl (hww 153 rfl)) (hww 131 rfl) 2 (by decide) rfl rfl (ty := (.object "java/util/HashMap$Node")) (by decide) rfl rfl N173 ge_a1 Z173 k176 (H 16 rfl) rfl
 have K178 := kw K174 W177 0 rfl
 have k179 := f_inN X177 hx k177 (H 17 rfl)
 have k180 := f_alN X177 hx k179 (H 44 rfl) rfl
 exact fin_r X177 hx (w := (.ref nd)) hrt hlk rfl (Or.inr (Or.inr (Or.inr (Or.inr ⟨rfl, rfl, rfl⟩)))) k180 (H 45 rfl) (by rw [e177]; exact ⟨rfl, N177, K178, B177⟩) (by decide) (by decide)
def Q_nxt13 (Z : State) (a1 a2 : Addr) (mc : Int32) (tb : Addr) (kt : ClassId) (nd : Addr) (cu : Value) (nx : Addr) (v1 : Value) (vl : Addr) (h0 : Heap) (n0 : Nat) (v : Option Value) (h : Heap) (L : List Loc) : Prop := v = some (.ref vl) ∧ Fr n0 L ∧ Keep h0 h [a1] ∧ OBJ Z h a1 "java/util/HashMap$ValueIterator" lyIT [(.ref a2), (.int mc), (.ref nx), (.ref nd), (.int (4 : Int32))]
theorem nxt13 (l : Launch) (Z : State) (a0 : Array Value) (hw : HW Z a0) (ws : List Jvm.Cond) (a1 a2 : Addr) (mc : Int32) (tb : Addr) (kt : ClassId) (nd : Addr) (cu : Value) (nx : Addr) (v1 : Value) (vl : Addr) (h0 : Heap) (n0 : Nat) (Z0 : n0 ≤ h0.size) (Fk0 : OBJ Z h0 a1 "java/util/HashMap$ValueIterator" lyIT [(.ref a2), (.int mc), (.ref nd), cu, (.int (2 : Int32))]) (Fk1 : Fld Z h0 a2 "java/util/HashMap" "modCount" "I" (.int mc)) (Fk2 : Fld Z h0 a2 "java/util/HashMap" "table" "[Ljava/util/HashMap$Node;" (.ref tb)) (Fk3 : Arv Z h0 tb kt (.object "java/util/HashMap$Node") (16 : Int32) [.null, v1, .null, (.ref nx), .null, .null, .null, .null, .null, .null, .null, .null, .null, .null, .null, .null] .null) (Fk4 : Fld Z h0 nd "java/util/HashMap$Node" "next" "Ljava/util/HashMap$Node;" .null) (Fk5 : Fld Z h0 nd "java/util/HashMap$Node" "value" "Ljava/lang/Object;" (.ref vl)) (ge_a1 : n0 ≤ a1) (ne_a1_a2 : a1 ≠ a2) (ne_a1_tb : a1 ≠ tb) (ne_a1_nd : a1 ≠ nd) :
  Met l mn48 jdk_2569_method_2_code 1 (some (.object "java/lang/Object")) ws (rm 1 0 0 14) #[(.ref a1)] Z h0 (Q_nxt13 Z a1 a2 mc tb kt nd cu nx v1 vl h0 n0) := by
 refine Met.intro (plainFor_of_name pn_java_2futil_2fHashMap_24ValueIterator) ?_
 intro p e s m below meth c s₁ hx hby hml hZ hown hnm hrt hlk X0 e0
 have N0 := Fr.nil n0
 have hww := @hvw _ _ hw
 have k0 := k_e (p := p) (e := e) (below := below) (s := s₁) (ef_52_R m a1)
 have K0 := Keep.refl h0 [a1]
 have H := @dch _ _ _ hby D52
 have k101 := f_alN X0 hx k0 (H 0 rfl) rfl
 obtain ⟨_, T102, L102, X102, hQ102, k102⟩ := c_U (W := 0) (x := mn47) X0 hx hZ hown (hww 381 rfl) (hww 382 rfl) (hww 383 rfl) (by decide) (hww 385 rfl) (hww 384 rfl) (hww 386 rfl) (hww 141 rfl) Fk0.1 (nxn13 l Z a0 hw [] a1 a2 mc tb kt nd cu nx v1 h0 n0 Z0 Fk0 Fk1 Fk2 Fk3 Fk4 ge_a1 ne_a1_a2 ne_a1_tb ne_a1_nd) e0 (argsL := []) (rest := []) rfl (by rw [hml]; rfl) k101 rfl (H 1 rfl) (lenOf pd__28_29Ljava_2futil_2fHashMap_24Node_3b rfl) (b5 rfl)
 obtain ⟨h102, e102⟩ : ∃ h', T102.heap = h' := ⟨_, rfl⟩
 rw [e102] at hQ102
 obtain ⟨rfl, N102q, K102, R102_0⟩ := hQ102
 have N103 := Fr.app N0 N102q
 have Z104 : n0 ≤ h102.size := Nat.le_trans Z0 K102.1
 have K105 := Keep.trans K0 K102 (allS (oL 0 rfl) all0)
 obtain ⟨T106, X106, e106, k107⟩ := gFs X102 hx hZ hown (hww 388 rfl) e102 (Fk5.keep K105 (ninS (Ne.symm ne_a1_nd) nin0)) k102 (H 2 rfl)
 exact fin_r X106 hx (w := (.ref vl)) hrt hlk rfl (Or.inr (Or.inr (Or.inr (Or.inr ⟨rfl, rfl, rfl⟩)))) k107 (H 3 rfl) (by rw [e106]; exact ⟨rfl, N103, K105, R102_0⟩) (by decide) (by decide)
def Q_nxn23 (Z : State) (a1 a2 : Addr) (mc : Int32) (tb : Addr) (kt : ClassId) (nd : Addr) (cu : Value) (nx : Addr) (v1 v2 : Value) (h0 : Heap) (n0 : Nat) (v : Option Value) (h : Heap) (L : List Loc) : Prop := v = some (.ref nd) ∧ Fr n0 L ∧ Keep h0 h [a1] ∧ OBJ Z h a1 "java/util/HashMap$ValueIterator" lyIT [(.ref a2), (.int mc), (.ref nx), (.ref nd), (.int (4 : Int32))]
theorem nxn23 (l : Launch) (Z : State) (a0 : Array Value) (hw : HW Z a0) (ws : List Jvm.Cond) (a1 a2 : Addr) (mc : Int32) (tb : Addr) (kt : ClassId) (nd : Addr) (cu : Value) (nx : Addr) (v1 v2 : Value) (h0 : Heap) (n0 : Nat) (Z0 : n0 ≤ h0.size) (Fk0 : OBJ Z h0 a1 "java/util/HashMap$ValueIterator" lyIT [(.ref a2), (.int mc), (.ref nd), cu, (.int (3 : Int32))]) (Fk1 : Fld Z h0 a2 "java/util/HashMap" "modCount" "I" (.int mc)) (Fk2 : Fld Z h0 a2 "java/util/HashMap" "table" "[Ljava/util/HashMap$Node;" (.ref tb)) (Fk3 : Arv Z h0 tb kt (.object "java/util/HashMap$Node") (16 : Int32) [.null, v1, v2, (.ref nx), .null, .null, .null, .null, .null, .null, .null, .null, .null, .null, .null, .null] .null) (Fk4 : Fld Z h0 nd "java/util/HashMap$Node" "next" "Ljava/util/HashMap$Node;" .null) (ge_a1 : n0 ≤ a1) (ne_a1_a2 : a1 ≠ a2) (ne_a1_tb : a1 ≠ tb) (ne_a1_nd : a1 ≠ nd) :
  Met l mn46 jdk_99_method_3_code 3 (some (.object "java/util/HashMap$Node")) ws (rm 0 0 0 0) #[(.ref a1)] Z h0 (Q_nxn23 Z a1 a2 mc tb kt nd cu nx v1 v2 h0 n0) := by
 refine Met.intro (plainFor_of_name pn_java_2futil_2fHashMap_24HashIterator) ?_
 intro p e s m below meth c s₁ hx hby hml hZ hown hnm hrt hlk X0 e0
 have N0 := Fr.nil n0
 have hww := @hvw _ _ hw
 have k0 := k_e (p := p) (e := e) (below := below) (s := s₁) (ef_53_R m a1)
 have K0 := Keep.refl h0 [a1]
 have H := @dch _ _ _ hby D53
 have k101 := f_alN X0 hx k0 (H 18 rfl) rfl
 obtain ⟨T102, X102, e102, k103⟩ := gFs X0 hx hZ hown (hww 152 rfl) e0 (Fk0.g 2 (v := (.ref nd)) (by decide) rfl rfl) k101 (H 19 rfl)
 have k104 := f_asN X102 hx k103 (H 20 rfl) (l' := #[sr a1, un, sr nd]) rfl
 have k105 := f_alN X102 hx k104 (H 21 rfl) rfl
 obtain ⟨T106, X106, e106, k107⟩ := gFs X102 hx hZ hown (hww 143 rfl) e102 (Fk0.g 0 (v := (.ref a2)) (by decide) rfl rfl) k105 (H 22 rfl)
 obtain ⟨T108, X108, e108, k109⟩ := gFs X106 hx hZ hown (hww 146 rfl) e106 Fk1 k107 (H 23 rfl)
 have k110 := f_alN X108 hx k109 (H 24 rfl) rfl
 obtain ⟨T111, X111, e111, k112⟩ := gFs X108 hx hZ hown (hww 148 rfl) e108 (Fk0.g 1 (v := (.int mc)) (by decide) rfl rfl) k110 (H 25 rfl)
 have k113 := f_icY X111 hx k112 (H 26 rfl) (pc' := 27) (teq rfl).1 (by decide)
 have k114 := f_alN X111 hx k113 (H 27 rfl) rfl
 have k115 := f_nnY X111 hx k114 (H 28 rfl) (pc' := 39) (by decide)
 have k116 := f_alN X111 hx k115 (H 29 rfl) rfl
 have k117 := f_alN X111 hx k116 (H 30 rfl) rfl
 have k118 := f_alN X111 hx k117 (H 31 rfl) rfl
 have k119 := f_dupX1 X111 hx k118 (H 32 rfl) rfl rfl
 obtain ⟨T120, h120, L120, X120, e120, W120, B120, N120, Z120, k120⟩ := f_pF X111 hx hZ hown (hww 154 rfl) Via.refl e111 Fk0 (snIT hw) (Or.inl (hww 155 rfl)) (hww 131 rfl) 3 (by decide) rfl rfl (ty := (.object "java/util/HashMap$Node")) (by decide) rfl rfl N0 ge_a1 Z0 k119 (H 33 rfl) rfl
 have K121 := kw K0 W120 0 rfl
 obtain ⟨T122, X122, e122, k123⟩ := gFs X120 hx hZ hown (hww 387 rfl) e120 (Fk4.keep K121 (ninS (Ne.symm ne_a1_nd) nin0)) k120 (H 34 rfl)
 have k124 := f_dupX1 X122 hx k123 (H 35 rfl) rfl rfl
 obtain ⟨T125, h125, L125, X125, e125, W125, B125, N125, Z125, k125⟩ := f_pF X122 hx hZ hown (hww 152 rfl) Via.refl e122 B120 (snIT hw) (Or.inl (hww 153 rfl)) (hww 131 rfl) 2 (by decide) rfl rfl (ty := (.object "java/util/HashMap$Node")) (by decide) rfl rfl N120 ge_a1 Z120 k124 (H 36 rfl) rfl
 have K126 := kw K121 W125 0 rfl
 have k127 := f_nnN X125 hx k125 (H 37 rfl)
 have k128 := f_alN X125 hx k127 (H 38 rfl) rfl
 obtain ⟨T129, X129, e129, k130⟩ := gFs X125 hx hZ hown (hww 143 rfl) e125 (B125.g 0 (v := (.ref a2)) (by decide) rfl rfl) k128 (H 39 rfl)
 obtain ⟨T131, X131, e131, k132⟩ := gFs X129 hx hZ hown (hww 150 rfl) e129 (Fk2.keep K126 (ninS (Ne.symm ne_a1_a2) nin0)) k130 (H 40 rfl)
 have k133 := f_dup X131 hx k132 (H 41 rfl) rfl
 have k134 := f_asN X131 hx k133 (H 42 rfl) (l' := #[sr a1, sr tb, sr nd]) rfl
 have k135 := f_inN X131 hx k134 (H 43 rfl)
 have k136 := f_alN X131 hx k135 (H 0 rfl) rfl
 obtain ⟨T137, X137, e137, k138⟩ := gFs X131 hx hZ hown (hww 156 rfl) e131 (B125.g 4 (v := (.int (3 : Int32))) (by decide) rfl rfl) k136 (H 1 rfl)
 have k139 := f_alN X137 hx k138 (H 2 rfl) rfl
 have k140 := f_len X137 hx hZ e137 (Fk3.keep K126 (ninS (Ne.symm ne_a1_tb) nin0)) k139 (H 3 rfl)
 have k141 := f_icN X137 hx k140 (H 4 rfl) (tlt (by decide)).2.1
 have k142 := f_alN X137 hx k141 (H 5 rfl) rfl
 have k143 := f_alN X137 hx k142 (H 6 rfl) rfl
 have k144 := f_alN X137 hx k143 (H 7 rfl) rfl
 have k145 := f_dup X137 hx k144 (H 8 rfl) rfl
 obtain ⟨T146, X146, e146, k147⟩ := gFs X137 hx hZ hown (hww 156 rfl) e137 (B125.g 4 (v := (.int (3 : Int32))) (by decide) rfl rfl) k145 (H 9 rfl)
 have k148 := f_dupX1 X146 hx k147 (H 10 rfl) rfl rfl
 have k149 := f_ic X146 hx k148 (H 11 rfl) (v := 1) rfl
 have k150 := f_iadd X146 hx k149 (H 12 rfl) (r := 4) (by decide)
 obtain ⟨T151, h151, L151, X151, e151, W151, B151, N151, Z151, k151⟩ := f_pF X146 hx hZ hown (hww 156 rfl) Via.refl e146 B125 (snIT hw) (Or.inl (hww 157 rfl)) (hww 131 rfl) 4 (by decide) rfl rfl (ty := .int) (by decide) rfl rfl N125 ge_a1 Z125 k150 (H 13 rfl) rfl
 have K152 := kw K126 W151 0 rfl
 have k153 := f_aal X151 hx hZ e151 (Fk3.keep K152 (ninS (Ne.symm ne_a1_tb) nin0)) k151 (H 14 rfl) (v := (.ref nx)) rfl (by decide) rfl
 have k154 := f_dupX1 X151 hx k153 (H 15 rfl) rfl rfl
 obtain ⟨T155, h155, L155, X155, e155, W155, B155, N155, Z155, k155⟩ := f_pF X151 hx hZ hown (hww 152 rfl) Via.refl e151 B151 (snIT hw) (Or.inl (hww 153 rfl)) (hww 131 rfl) 2 (by decide) rfl rfl (ty := (.object "java/util/HashMap$Node")) (by decide) rfl rfl N151 ge_a1 Z151 k154 (H 16 rfl) rfl
 have K156 := kw K152 W155 0 rfl
 have k157 := f_inN X155 hx k155 (H 17 rfl)
 have k158 := f_alN X155 hx k157 (H 44 rfl) rfl
 exact fin_r X155 hx (w := (.ref nd)) hrt hlk rfl (Or.inr (Or.inr (Or.inr (Or.inr ⟨rfl, rfl, rfl⟩)))) k158 (H 45 rfl) (by rw [e155]; exact ⟨rfl, N155, K156, B155⟩) (by decide) (by decide)
def Q_nxt23 (Z : State) (a1 a2 : Addr) (mc : Int32) (tb : Addr) (kt : ClassId) (nd : Addr) (cu : Value) (nx : Addr) (v1 v2 : Value) (vl : Addr) (h0 : Heap) (n0 : Nat) (v : Option Value) (h : Heap) (L : List Loc) : Prop := v = some (.ref vl) ∧ Fr n0 L ∧ Keep h0 h [a1] ∧ OBJ Z h a1 "java/util/HashMap$ValueIterator" lyIT [(.ref a2), (.int mc), (.ref nx), (.ref nd), (.int (4 : Int32))]
theorem nxt23 (l : Launch) (Z : State) (a0 : Array Value) (hw : HW Z a0) (ws : List Jvm.Cond) (a1 a2 : Addr) (mc : Int32) (tb : Addr) (kt : ClassId) (nd : Addr) (cu : Value) (nx : Addr) (v1 v2 : Value) (vl : Addr) (h0 : Heap) (n0 : Nat) (Z0 : n0 ≤ h0.size) (Fk0 : OBJ Z h0 a1 "java/util/HashMap$ValueIterator" lyIT [(.ref a2), (.int mc), (.ref nd), cu, (.int (3 : Int32))]) (Fk1 : Fld Z h0 a2 "java/util/HashMap" "modCount" "I" (.int mc)) (Fk2 : Fld Z h0 a2 "java/util/HashMap" "table" "[Ljava/util/HashMap$Node;" (.ref tb)) (Fk3 : Arv Z h0 tb kt (.object "java/util/HashMap$Node") (16 : Int32) [.null, v1, v2, (.ref nx), .null, .null, .null, .null, .null, .null, .null, .null, .null, .null, .null, .null] .null) (Fk4 : Fld Z h0 nd "java/util/HashMap$Node" "next" "Ljava/util/HashMap$Node;" .null) (Fk5 : Fld Z h0 nd "java/util/HashMap$Node" "value" "Ljava/lang/Object;" (.ref vl)) (ge_a1 : n0 ≤ a1) (ne_a1_a2 : a1 ≠ a2) (ne_a1_tb : a1 ≠ tb) (ne_a1_nd : a1 ≠ nd) :
  Met l mn48 jdk_2569_method_2_code 1 (some (.object "java/lang/Object")) ws (rm 1 0 0 14) #[(.ref a1)] Z h0 (Q_nxt23 Z a1 a2 mc tb kt nd cu nx v1 v2 vl h0 n0) := by
 refine Met.intro (plainFor_of_name pn_java_2futil_2fHashMap_24ValueIterator) ?_
 intro p e s m below meth c s₁ hx hby hml hZ hown hnm hrt hlk X0 e0
 have N0 := Fr.nil n0
 have hww := @hvw _ _ hw
 have k0 := k_e (p := p) (e := e) (below := below) (s := s₁) (ef_52_R m a1)
 have K0 := Keep.refl h0 [a1]
 have H := @dch _ _ _ hby D52
 have k101 := f_alN X0 hx k0 (H 0 rfl) rfl
 obtain ⟨_, T102, L102, X102, hQ102, k102⟩ := c_U (W := 0) (x := mn47) X0 hx hZ hown (hww 381 rfl) (hww 382 rfl) (hww 383 rfl) (by decide) (hww 385 rfl) (hww 384 rfl) (hww 386 rfl) (hww 141 rfl) Fk0.1 (nxn23 l Z a0 hw [] a1 a2 mc tb kt nd cu nx v1 v2 h0 n0 Z0 Fk0 Fk1 Fk2 Fk3 Fk4 ge_a1 ne_a1_a2 ne_a1_tb ne_a1_nd) e0 (argsL := []) (rest := []) rfl (by rw [hml]; rfl) k101 rfl (H 1 rfl) (lenOf pd__28_29Ljava_2futil_2fHashMap_24Node_3b rfl) (b5 rfl)
 obtain ⟨h102, e102⟩ : ∃ h', T102.heap = h' := ⟨_, rfl⟩
 rw [e102] at hQ102
 obtain ⟨rfl, N102q, K102, R102_0⟩ := hQ102
 have N103 := Fr.app N0 N102q
 have Z104 : n0 ≤ h102.size := Nat.le_trans Z0 K102.1
 have K105 := Keep.trans K0 K102 (allS (oL 0 rfl) all0)
 obtain ⟨T106, X106, e106, k107⟩ := gFs X102 hx hZ hown (hww 388 rfl) e102 (Fk5.keep K105 (ninS (Ne.symm ne_a1_nd) nin0)) k102 (H 2 rfl)
 exact fin_r X106 hx (w := (.ref vl)) hrt hlk rfl (Or.inr (Or.inr (Or.inr (Or.inr ⟨rfl, rfl, rfl⟩)))) k107 (H 3 rfl) (by rw [e106]; exact ⟨rfl, N103, K105, R102_0⟩) (by decide) (by decide)
def Q_nxn1None (Z : State) (a1 a2 : Addr) (mc : Int32) (tb : Addr) (kt : ClassId) (nd : Addr) (cu v1 : Value) (h0 : Heap) (n0 : Nat) (v : Option Value) (h : Heap) (L : List Loc) : Prop := v = some (.ref nd) ∧ Fr n0 L ∧ Keep h0 h [a1] ∧ OBJ Z h a1 "java/util/HashMap$ValueIterator" lyIT [(.ref a2), (.int mc), .null, (.ref nd), (.int (16 : Int32))]
theorem nxn1None (l : Launch) (Z : State) (a0 : Array Value) (hw : HW Z a0) (ws : List Jvm.Cond) (a1 a2 : Addr) (mc : Int32) (tb : Addr) (kt : ClassId) (nd : Addr) (cu v1 : Value) (h0 : Heap) (n0 : Nat) (Z0 : n0 ≤ h0.size) (Fk0 : OBJ Z h0 a1 "java/util/HashMap$ValueIterator" lyIT [(.ref a2), (.int mc), (.ref nd), cu, (.int (2 : Int32))]) (Fk1 : Fld Z h0 a2 "java/util/HashMap" "modCount" "I" (.int mc)) (Fk2 : Fld Z h0 a2 "java/util/HashMap" "table" "[Ljava/util/HashMap$Node;" (.ref tb)) (Fk3 : Arv Z h0 tb kt (.object "java/util/HashMap$Node") (16 : Int32) [.null, v1, .null, .null, .null, .null, .null, .null, .null, .null, .null, .null, .null, .null, .null, .null] .null) (Fk4 : Fld Z h0 nd "java/util/HashMap$Node" "next" "Ljava/util/HashMap$Node;" .null) (ge_a1 : n0 ≤ a1) (ne_a1_a2 : a1 ≠ a2) (ne_a1_tb : a1 ≠ tb) (ne_a1_nd : a1 ≠ nd) :
  Met l mn46 jdk_99_method_3_code 3 (some (.object "java/util/HashMap$Node")) ws (rm 0 0 0 0) #[(.ref a1)] Z h0 (Q_nxn1None Z a1 a2 mc tb kt nd cu v1 h0 n0) := by
 refine Met.intro (plainFor_of_name pn_java_2futil_2fHashMap_24HashIterator) ?_
 intro p e s m below meth c s₁ hx hby hml hZ hown hnm hrt hlk X0 e0
 have N0 := Fr.nil n0
 have hww := @hvw _ _ hw
 have k0 := k_e (p := p) (e := e) (below := below) (s := s₁) (ef_53_R m a1)
 have K0 := Keep.refl h0 [a1]
 have H := @dch _ _ _ hby D53
 have k101 := f_alN X0 hx k0 (H 18 rfl) rfl
 obtain ⟨T102, X102, e102, k103⟩ := gFs X0 hx hZ hown (hww 152 rfl) e0 (Fk0.g 2 (v := (.ref nd)) (by decide) rfl rfl) k101 (H 19 rfl)
 have k104 := f_asN X102 hx k103 (H 20 rfl) (l' := #[sr a1, un, sr nd]) rfl
 have k105 := f_alN X102 hx k104 (H 21 rfl) rfl
 obtain ⟨T106, X106, e106, k107⟩ := gFs X102 hx hZ hown (hww 143 rfl) e102 (Fk0.g 0 (v := (.ref a2)) (by decide) rfl rfl) k105 (H 22 rfl)
 obtain ⟨T108, X108, e108, k109⟩ := gFs X106 hx hZ hown (hww 146 rfl) e106 Fk1 k107 (H 23 rfl)
 have k110 := f_alN X108 hx k109 (H 24 rfl) rfl
 obtain ⟨T111, X111, e111, k112⟩ := gFs X108 hx hZ hown (hww 148 rfl) e108 (Fk0.g 1 (v := (.int mc)) (by decide) rfl rfl) k110 (H 25 rfl)
 have k113 := f_icY X111 hx k112 (H 26 rfl) (pc' := 27) (teq rfl).1 (by decide)
 have k114 := f_alN X111 hx k113 (H 27 rfl) rfl
 have k115 := f_nnY X111 hx k114 (H 28 rfl) (pc' := 39) (by decide)
 have k116 := f_alN X111 hx k115 (H 29 rfl) rfl
 have k117 := f_alN X111 hx k116 (H 30 rfl) rfl
 have k118 := f_alN X111 hx k117 (H 31 rfl) rfl
 have k119 := f_dupX1 X111 hx k118 (H 32 rfl) rfl rfl
 obtain ⟨T120, h120, L120, X120, e120, W120, B120, N120, Z120, k120⟩ := f_pF X111 hx hZ hown (hww 154 rfl) Via.refl e111 Fk0 (snIT hw) (Or.inl (hww 155 rfl)) (hww 131 rfl) 3 (by decide) rfl rfl (ty := (.object "java/util/HashMap$Node")) (by decide) rfl rfl N0 ge_a1 Z0 k119 (H 33 rfl) rfl
 have K121 := kw K0 W120 0 rfl
 obtain ⟨T122, X122, e122, k123⟩ := gFs X120 hx hZ hown (hww 387 rfl) e120 (Fk4.keep K121 (ninS (Ne.symm ne_a1_nd) nin0)) k120 (H 34 rfl)
 have k124 := f_dupX1 X122 hx k123 (H 35 rfl) rfl rfl
 obtain ⟨T125, h125, L125, X125, e125, W125, B125, N125, Z125, k125⟩ := f_pF X122 hx hZ hown (hww 152 rfl) Via.refl e122 B120 (snIT hw) (Or.inl (hww 153 rfl)) (hww 131 rfl) 2 (by decide) rfl rfl (ty := (.object "java/util/HashMap$Node")) (by decide) rfl rfl N120 ge_a1 Z120 k124 (H 36 rfl) rfl
 have K126 := kw K121 W125 0 rfl
 have k127 := f_nnN X125 hx k125 (H 37 rfl)
 have k128 := f_alN X125 hx k127 (H 38 rfl) rfl
 obtain ⟨T129, X129, e129, k130⟩ := gFs X125 hx hZ hown (hww 143 rfl) e125 (B125.g 0 (v := (.ref a2)) (by decide) rfl rfl) k128 (H 39 rfl)
 obtain ⟨T131, X131, e131, k132⟩ := gFs X129 hx hZ hown (hww 150 rfl) e129 (Fk2.keep K126 (ninS (Ne.symm ne_a1_a2) nin0)) k130 (H 40 rfl)
 have k133 := f_dup X131 hx k132 (H 41 rfl) rfl
 have k134 := f_asN X131 hx k133 (H 42 rfl) (l' := #[sr a1, sr tb, sr nd]) rfl
 have k135 := f_inN X131 hx k134 (H 43 rfl)
 obtain ⟨T136, h136, L136, X136, e136, B136, N136, Z136, K136, k136⟩ := scn l Z a0 hw hx hby hZ hown rfl 14 (2 : Int32) (by decide) (own_nulls 2 14 (by decide) rfl) X131 e131 B125 (Fk3.keep K126 (ninS (Ne.symm ne_a1_tb) nin0)) (Ne.symm (Ne.symm ne_a1_tb)) N125 ge_a1 Z125 K126 k135
 have k137 := f_alN X136 hx k136 (H 44 rfl) rfl
 exact fin_r X136 hx (w := (.ref nd)) hrt hlk rfl (Or.inr (Or.inr (Or.inr (Or.inr ⟨rfl, rfl, rfl⟩)))) k137 (H 45 rfl) (by rw [e136]; exact ⟨rfl, N136, K136, B136⟩) (by decide) (by decide)
def Q_nxt1None (Z : State) (a1 a2 : Addr) (mc : Int32) (tb : Addr) (kt : ClassId) (nd : Addr) (cu v1 : Value) (vl : Addr) (h0 : Heap) (n0 : Nat) (v : Option Value) (h : Heap) (L : List Loc) : Prop := v = some (.ref vl) ∧ Fr n0 L ∧ Keep h0 h [a1] ∧ OBJ Z h a1 "java/util/HashMap$ValueIterator" lyIT [(.ref a2), (.int mc), .null, (.ref nd), (.int (16 : Int32))]
theorem nxt1None (l : Launch) (Z : State) (a0 : Array Value) (hw : HW Z a0) (ws : List Jvm.Cond) (a1 a2 : Addr) (mc : Int32) (tb : Addr) (kt : ClassId) (nd : Addr) (cu v1 : Value) (vl : Addr) (h0 : Heap) (n0 : Nat) (Z0 : n0 ≤ h0.size) (Fk0 : OBJ Z h0 a1 "java/util/HashMap$ValueIterator" lyIT [(.ref a2), (.int mc), (.ref nd), cu, (.int (2 : Int32))]) (Fk1 : Fld Z h0 a2 "java/util/HashMap" "modCount" "I" (.int mc)) (Fk2 : Fld Z h0 a2 "java/util/HashMap" "table" "[Ljava/util/HashMap$Node;" (.ref tb)) (Fk3 : Arv Z h0 tb kt (.object "java/util/HashMap$Node") (16 : Int32) [.null, v1, .null, .null, .null, .null, .null, .null, .null, .null, .null, .null, .null, .null, .null, .null] .null) (Fk4 : Fld Z h0 nd "java/util/HashMap$Node" "next" "Ljava/util/HashMap$Node;" .null) (Fk5 : Fld Z h0 nd "java/util/HashMap$Node" "value" "Ljava/lang/Object;" (.ref vl)) (ge_a1 : n0 ≤ a1) (ne_a1_a2 : a1 ≠ a2) (ne_a1_tb : a1 ≠ tb) (ne_a1_nd : a1 ≠ nd) :
  Met l mn48 jdk_2569_method_2_code 1 (some (.object "java/lang/Object")) ws (rm 1 0 0 14) #[(.ref a1)] Z h0 (Q_nxt1None Z a1 a2 mc tb kt nd cu v1 vl h0 n0) := by
 refine Met.intro (plainFor_of_name pn_java_2futil_2fHashMap_24ValueIterator) ?_
 intro p e s m below meth c s₁ hx hby hml hZ hown hnm hrt hlk X0 e0
 have N0 := Fr.nil n0
 have hww := @hvw _ _ hw
 have k0 := k_e (p := p) (e := e) (below := below) (s := s₁) (ef_52_R m a1)
 have K0 := Keep.refl h0 [a1]
 have H := @dch _ _ _ hby D52
 have k101 := f_alN X0 hx k0 (H 0 rfl) rfl
 obtain ⟨_, T102, L102, X102, hQ102, k102⟩ := c_U (W := 0) (x := mn47) X0 hx hZ hown (hww 381 rfl) (hww 382 rfl) (hww 383 rfl) (by decide) (hww 385 rfl) (hww 384 rfl) (hww 386 rfl) (hww 141 rfl) Fk0.1 (nxn1None l Z a0 hw [] a1 a2 mc tb kt nd cu v1 h0 n0 Z0 Fk0 Fk1 Fk2 Fk3 Fk4 ge_a1 ne_a1_a2 ne_a1_tb ne_a1_nd) e0 (argsL := []) (rest := []) rfl (by rw [hml]; rfl) k101 rfl (H 1 rfl) (lenOf pd__28_29Ljava_2futil_2fHashMap_24Node_3b rfl) (b5 rfl)
 obtain ⟨h102, e102⟩ : ∃ h', T102.heap = h' := ⟨_, rfl⟩
 rw [e102] at hQ102
 obtain ⟨rfl, N102q, K102, R102_0⟩ := hQ102
 have N103 := Fr.app N0 N102q
 have Z104 : n0 ≤ h102.size := Nat.le_trans Z0 K102.1
 have K105 := Keep.trans K0 K102 (allS (oL 0 rfl) all0)
 obtain ⟨T106, X106, e106, k107⟩ := gFs X102 hx hZ hown (hww 388 rfl) e102 (Fk5.keep K105 (ninS (Ne.symm ne_a1_nd) nin0)) k102 (H 2 rfl)
 exact fin_r X106 hx (w := (.ref vl)) hrt hlk rfl (Or.inr (Or.inr (Or.inr (Or.inr ⟨rfl, rfl, rfl⟩)))) k107 (H 3 rfl) (by rw [e106]; exact ⟨rfl, N103, K105, R102_0⟩) (by decide) (by decide)
def Q_nxn2None (Z : State) (a1 a2 : Addr) (mc : Int32) (tb : Addr) (kt : ClassId) (nd : Addr) (cu v1 v2 : Value) (h0 : Heap) (n0 : Nat) (v : Option Value) (h : Heap) (L : List Loc) : Prop := v = some (.ref nd) ∧ Fr n0 L ∧ Keep h0 h [a1] ∧ OBJ Z h a1 "java/util/HashMap$ValueIterator" lyIT [(.ref a2), (.int mc), .null, (.ref nd), (.int (16 : Int32))]
theorem nxn2None (l : Launch) (Z : State) (a0 : Array Value) (hw : HW Z a0) (ws : List Jvm.Cond) (a1 a2 : Addr) (mc : Int32) (tb : Addr) (kt : ClassId) (nd : Addr) (cu v1 v2 : Value) (h0 : Heap) (n0 : Nat) (Z0 : n0 ≤ h0.size) (Fk0 : OBJ Z h0 a1 "java/util/HashMap$ValueIterator" lyIT [(.ref a2), (.int mc), (.ref nd), cu, (.int (3 : Int32))]) (Fk1 : Fld Z h0 a2 "java/util/HashMap" "modCount" "I" (.int mc)) (Fk2 : Fld Z h0 a2 "java/util/HashMap" "table" "[Ljava/util/HashMap$Node;" (.ref tb)) (Fk3 : Arv Z h0 tb kt (.object "java/util/HashMap$Node") (16 : Int32) [.null, v1, v2, .null, .null, .null, .null, .null, .null, .null, .null, .null, .null, .null, .null, .null] .null) (Fk4 : Fld Z h0 nd "java/util/HashMap$Node" "next" "Ljava/util/HashMap$Node;" .null) (ge_a1 : n0 ≤ a1) (ne_a1_a2 : a1 ≠ a2) (ne_a1_tb : a1 ≠ tb) (ne_a1_nd : a1 ≠ nd) :
  Met l mn46 jdk_99_method_3_code 3 (some (.object "java/util/HashMap$Node")) ws (rm 0 0 0 0) #[(.ref a1)] Z h0 (Q_nxn2None Z a1 a2 mc tb kt nd cu v1 v2 h0 n0) := by
 refine Met.intro (plainFor_of_name pn_java_2futil_2fHashMap_24HashIterator) ?_
 intro p e s m below meth c s₁ hx hby hml hZ hown hnm hrt hlk X0 e0
 have N0 := Fr.nil n0
 have hww := @hvw _ _ hw
 have k0 := k_e (p := p) (e := e) (below := below) (s := s₁) (ef_53_R m a1)
 have K0 := Keep.refl h0 [a1]
 have H := @dch _ _ _ hby D53
 have k101 := f_alN X0 hx k0 (H 18 rfl) rfl
 obtain ⟨T102, X102, e102, k103⟩ := gFs X0 hx hZ hown (hww 152 rfl) e0 (Fk0.g 2 (v := (.ref nd)) (by decide) rfl rfl) k101 (H 19 rfl)
 have k104 := f_asN X102 hx k103 (H 20 rfl) (l' := #[sr a1, un, sr nd]) rfl
 have k105 := f_alN X102 hx k104 (H 21 rfl) rfl
 obtain ⟨T106, X106, e106, k107⟩ := gFs X102 hx hZ hown (hww 143 rfl) e102 (Fk0.g 0 (v := (.ref a2)) (by decide) rfl rfl) k105 (H 22 rfl)
 obtain ⟨T108, X108, e108, k109⟩ := gFs X106 hx hZ hown (hww 146 rfl) e106 Fk1 k107 (H 23 rfl)
 have k110 := f_alN X108 hx k109 (H 24 rfl) rfl
 obtain ⟨T111, X111, e111, k112⟩ := gFs X108 hx hZ hown (hww 148 rfl) e108 (Fk0.g 1 (v := (.int mc)) (by decide) rfl rfl) k110 (H 25 rfl)
 have k113 := f_icY X111 hx k112 (H 26 rfl) (pc' := 27) (teq rfl).1 (by decide)
 have k114 := f_alN X111 hx k113 (H 27 rfl) rfl
 have k115 := f_nnY X111 hx k114 (H 28 rfl) (pc' := 39) (by decide)
 have k116 := f_alN X111 hx k115 (H 29 rfl) rfl
 have k117 := f_alN X111 hx k116 (H 30 rfl) rfl
 have k118 := f_alN X111 hx k117 (H 31 rfl) rfl
 have k119 := f_dupX1 X111 hx k118 (H 32 rfl) rfl rfl
 obtain ⟨T120, h120, L120, X120, e120, W120, B120, N120, Z120, k120⟩ := f_pF X111 hx hZ hown (hww 154 rfl) Via.refl e111 Fk0 (snIT hw) (Or.inl (hww 155 rfl)) (hww 131 rfl) 3 (by decide) rfl rfl (ty := (.object "java/util/HashMap$Node")) (by decide) rfl rfl N0 ge_a1 Z0 k119 (H 33 rfl) rfl
 have K121 := kw K0 W120 0 rfl
 obtain ⟨T122, X122, e122, k123⟩ := gFs X120 hx hZ hown (hww 387 rfl) e120 (Fk4.keep K121 (ninS (Ne.symm ne_a1_nd) nin0)) k120 (H 34 rfl)
 have k124 := f_dupX1 X122 hx k123 (H 35 rfl) rfl rfl
 obtain ⟨T125, h125, L125, X125, e125, W125, B125, N125, Z125, k125⟩ := f_pF X122 hx hZ hown (hww 152 rfl) Via.refl e122 B120 (snIT hw) (Or.inl (hww 153 rfl)) (hww 131 rfl) 2 (by decide) rfl rfl (ty := (.object "java/util/HashMap$Node")) (by decide) rfl rfl N120 ge_a1 Z120 k124 (H 36 rfl) rfl
 have K126 := kw K121 W125 0 rfl
 have k127 := f_nnN X125 hx k125 (H 37 rfl)
 have k128 := f_alN X125 hx k127 (H 38 rfl) rfl
 obtain ⟨T129, X129, e129, k130⟩ := gFs X125 hx hZ hown (hww 143 rfl) e125 (B125.g 0 (v := (.ref a2)) (by decide) rfl rfl) k128 (H 39 rfl)
 obtain ⟨T131, X131, e131, k132⟩ := gFs X129 hx hZ hown (hww 150 rfl) e129 (Fk2.keep K126 (ninS (Ne.symm ne_a1_a2) nin0)) k130 (H 40 rfl)
 have k133 := f_dup X131 hx k132 (H 41 rfl) rfl
 have k134 := f_asN X131 hx k133 (H 42 rfl) (l' := #[sr a1, sr tb, sr nd]) rfl
 have k135 := f_inN X131 hx k134 (H 43 rfl)
 obtain ⟨T136, h136, L136, X136, e136, B136, N136, Z136, K136, k136⟩ := scn l Z a0 hw hx hby hZ hown rfl 13 (3 : Int32) (by decide) (own_nulls 3 13 (by decide) rfl) X131 e131 B125 (Fk3.keep K126 (ninS (Ne.symm ne_a1_tb) nin0)) (Ne.symm (Ne.symm ne_a1_tb)) N125 ge_a1 Z125 K126 k135
 have k137 := f_alN X136 hx k136 (H 44 rfl) rfl
 exact fin_r X136 hx (w := (.ref nd)) hrt hlk rfl (Or.inr (Or.inr (Or.inr (Or.inr ⟨rfl, rfl, rfl⟩)))) k137 (H 45 rfl) (by rw [e136]; exact ⟨rfl, N136, K136, B136⟩) (by decide) (by decide)
def Q_nxt2None (Z : State) (a1 a2 : Addr) (mc : Int32) (tb : Addr) (kt : ClassId) (nd : Addr) (cu v1 v2 : Value) (vl : Addr) (h0 : Heap) (n0 : Nat) (v : Option Value) (h : Heap) (L : List Loc) : Prop := v = some (.ref vl) ∧ Fr n0 L ∧ Keep h0 h [a1] ∧ OBJ Z h a1 "java/util/HashMap$ValueIterator" lyIT [(.ref a2), (.int mc), .null, (.ref nd), (.int (16 : Int32))]
theorem nxt2None (l : Launch) (Z : State) (a0 : Array Value) (hw : HW Z a0) (ws : List Jvm.Cond) (a1 a2 : Addr) (mc : Int32) (tb : Addr) (kt : ClassId) (nd : Addr) (cu v1 v2 : Value) (vl : Addr) (h0 : Heap) (n0 : Nat) (Z0 : n0 ≤ h0.size) (Fk0 : OBJ Z h0 a1 "java/util/HashMap$ValueIterator" lyIT [(.ref a2), (.int mc), (.ref nd), cu, (.int (3 : Int32))]) (Fk1 : Fld Z h0 a2 "java/util/HashMap" "modCount" "I" (.int mc)) (Fk2 : Fld Z h0 a2 "java/util/HashMap" "table" "[Ljava/util/HashMap$Node;" (.ref tb)) (Fk3 : Arv Z h0 tb kt (.object "java/util/HashMap$Node") (16 : Int32) [.null, v1, v2, .null, .null, .null, .null, .null, .null, .null, .null, .null, .null, .null, .null, .null] .null) (Fk4 : Fld Z h0 nd "java/util/HashMap$Node" "next" "Ljava/util/HashMap$Node;" .null) (Fk5 : Fld Z h0 nd "java/util/HashMap$Node" "value" "Ljava/lang/Object;" (.ref vl)) (ge_a1 : n0 ≤ a1) (ne_a1_a2 : a1 ≠ a2) (ne_a1_tb : a1 ≠ tb) (ne_a1_nd : a1 ≠ nd) :
  Met l mn48 jdk_2569_method_2_code 1 (some (.object "java/lang/Object")) ws (rm 1 0 0 14) #[(.ref a1)] Z h0 (Q_nxt2None Z a1 a2 mc tb kt nd cu v1 v2 vl h0 n0) := by
 refine Met.intro (plainFor_of_name pn_java_2futil_2fHashMap_24ValueIterator) ?_
 intro p e s m below meth c s₁ hx hby hml hZ hown hnm hrt hlk X0 e0
 have N0 := Fr.nil n0
 have hww := @hvw _ _ hw
 have k0 := k_e (p := p) (e := e) (below := below) (s := s₁) (ef_52_R m a1)
 have K0 := Keep.refl h0 [a1]
 have H := @dch _ _ _ hby D52
 have k101 := f_alN X0 hx k0 (H 0 rfl) rfl
 obtain ⟨_, T102, L102, X102, hQ102, k102⟩ := c_U (W := 0) (x := mn47) X0 hx hZ hown (hww 381 rfl) (hww 382 rfl) (hww 383 rfl) (by decide) (hww 385 rfl) (hww 384 rfl) (hww 386 rfl) (hww 141 rfl) Fk0.1 (nxn2None l Z a0 hw [] a1 a2 mc tb kt nd cu v1 v2 h0 n0 Z0 Fk0 Fk1 Fk2 Fk3 Fk4 ge_a1 ne_a1_a2 ne_a1_tb ne_a1_nd) e0 (argsL := []) (rest := []) rfl (by rw [hml]; rfl) k101 rfl (H 1 rfl) (lenOf pd__28_29Ljava_2futil_2fHashMap_24Node_3b rfl) (b5 rfl)
 obtain ⟨h102, e102⟩ : ∃ h', T102.heap = h' := ⟨_, rfl⟩
 rw [e102] at hQ102
 obtain ⟨rfl, N102q, K102, R102_0⟩ := hQ102
 have N103 := Fr.app N0 N102q
 have Z104 : n0 ≤ h102.size := Nat.le_trans Z0 K102.1
 have K105 := Keep.trans K0 K102 (allS (oL 0 rfl) all0)
 obtain ⟨T106, X106, e106, k107⟩ := gFs X102 hx hZ hown (hww 388 rfl) e102 (Fk5.keep K105 (ninS (Ne.symm ne_a1_nd) nin0)) k102 (H 2 rfl)
 exact fin_r X106 hx (w := (.ref vl)) hrt hlk rfl (Or.inr (Or.inr (Or.inr (Or.inr ⟨rfl, rfl, rfl⟩)))) k107 (H 3 rfl) (by rw [e106]; exact ⟨rfl, N103, K105, R102_0⟩) (by decide) (by decide)
def Q_nxn3None (Z : State) (a1 a2 : Addr) (mc : Int32) (tb : Addr) (kt : ClassId) (nd : Addr) (cu v1 v2 v3 : Value) (h0 : Heap) (n0 : Nat) (v : Option Value) (h : Heap) (L : List Loc) : Prop := v = some (.ref nd) ∧ Fr n0 L ∧ Keep h0 h [a1] ∧ OBJ Z h a1 "java/util/HashMap$ValueIterator" lyIT [(.ref a2), (.int mc), .null, (.ref nd), (.int (16 : Int32))]
theorem nxn3None (l : Launch) (Z : State) (a0 : Array Value) (hw : HW Z a0) (ws : List Jvm.Cond) (a1 a2 : Addr) (mc : Int32) (tb : Addr) (kt : ClassId) (nd : Addr) (cu v1 v2 v3 : Value) (h0 : Heap) (n0 : Nat) (Z0 : n0 ≤ h0.size) (Fk0 : OBJ Z h0 a1 "java/util/HashMap$ValueIterator" lyIT [(.ref a2), (.int mc), (.ref nd), cu, (.int (4 : Int32))]) (Fk1 : Fld Z h0 a2 "java/util/HashMap" "modCount" "I" (.int mc)) (Fk2 : Fld Z h0 a2 "java/util/HashMap" "table" "[Ljava/util/HashMap$Node;" (.ref tb)) (Fk3 : Arv Z h0 tb kt (.object "java/util/HashMap$Node") (16 : Int32) [.null, v1, v2, v3, .null, .null, .null, .null, .null, .null, .null, .null, .null, .null, .null, .null] .null) (Fk4 : Fld Z h0 nd "java/util/HashMap$Node" "next" "Ljava/util/HashMap$Node;" .null) (ge_a1 : n0 ≤ a1) (ne_a1_a2 : a1 ≠ a2) (ne_a1_tb : a1 ≠ tb) (ne_a1_nd : a1 ≠ nd) :
  Met l mn46 jdk_99_method_3_code 3 (some (.object "java/util/HashMap$Node")) ws (rm 0 0 0 0) #[(.ref a1)] Z h0 (Q_nxn3None Z a1 a2 mc tb kt nd cu v1 v2 v3 h0 n0) := by
 refine Met.intro (plainFor_of_name pn_java_2futil_2fHashMap_24HashIterator) ?_
 intro p e s m below meth c s₁ hx hby hml hZ hown hnm hrt hlk X0 e0
 have N0 := Fr.nil n0
 have hww := @hvw _ _ hw
 have k0 := k_e (p := p) (e := e) (below := below) (s := s₁) (ef_53_R m a1)
 have K0 := Keep.refl h0 [a1]
 have H := @dch _ _ _ hby D53
 have k101 := f_alN X0 hx k0 (H 18 rfl) rfl
 obtain ⟨T102, X102, e102, k103⟩ := gFs X0 hx hZ hown (hww 152 rfl) e0 (Fk0.g 2 (v := (.ref nd)) (by decide) rfl rfl) k101 (H 19 rfl)
 have k104 := f_asN X102 hx k103 (H 20 rfl) (l' := #[sr a1, un, sr nd]) rfl
 have k105 := f_alN X102 hx k104 (H 21 rfl) rfl
 obtain ⟨T106, X106, e106, k107⟩ := gFs X102 hx hZ hown (hww 143 rfl) e102 (Fk0.g 0 (v := (.ref a2)) (by decide) rfl rfl) k105 (H 22 rfl)
 obtain ⟨T108, X108, e108, k109⟩ := gFs X106 hx hZ hown (hww 146 rfl) e106 Fk1 k107 (H 23 rfl)
 have k110 := f_alN X108 hx k109 (H 24 rfl) rfl
 obtain ⟨T111, X111, e111, k112⟩ := gFs X108 hx hZ hown (hww 148 rfl) e108 (Fk0.g 1 (v := (.int mc)) (by decide) rfl rfl) k110 (H 25 rfl)
 have k113 := f_icY X111 hx k112 (H 26 rfl) (pc' := 27) (teq rfl).1 (by decide)
 have k114 := f_alN X111 hx k113 (H 27 rfl) rfl
 have k115 := f_nnY X111 hx k114 (H 28 rfl) (pc' := 39) (by decide)
 have k116 := f_alN X111 hx k115 (H 29 rfl) rfl
 have k117 := f_alN X111 hx k116 (H 30 rfl) rfl
 have k118 := f_alN X111 hx k117 (H 31 rfl) rfl
 have k119 := f_dupX1 X111 hx k118 (H 32 rfl) rfl rfl
 obtain ⟨T120, h120, L120, X120, e120, W120, B120, N120, Z120, k120⟩ := f_pF X111 hx hZ hown (hww 154 rfl) Via.refl e111 Fk0 (snIT hw) (Or.inl (hww 155 rfl)) (hww 131 rfl) 3 (by decide) rfl rfl (ty := (.object "java/util/HashMap$Node")) (by decide) rfl rfl N0 ge_a1 Z0 k119 (H 33 rfl) rfl
 have K121 := kw K0 W120 0 rfl
 obtain ⟨T122, X122, e122, k123⟩ := gFs X120 hx hZ hown (hww 387 rfl) e120 (Fk4.keep K121 (ninS (Ne.symm ne_a1_nd) nin0)) k120 (H 34 rfl)
 have k124 := f_dupX1 X122 hx k123 (H 35 rfl) rfl rfl
 obtain ⟨T125, h125, L125, X125, e125, W125, B125, N125, Z125, k125⟩ := f_pF X122 hx hZ hown (hww 152 rfl) Via.refl e122 B120 (snIT hw) (Or.inl (hww 153 rfl)) (hww 131 rfl) 2 (by decide) rfl rfl (ty := (.object "java/util/HashMap$Node")) (by decide) rfl rfl N120 ge_a1 Z120 k124 (H 36 rfl) rfl
 have K126 := kw K121 W125 0 rfl
 have k127 := f_nnN X125 hx k125 (H 37 rfl)
 have k128 := f_alN X125 hx k127 (H 38 rfl) rfl
 obtain ⟨T129, X129, e129, k130⟩ := gFs X125 hx hZ hown (hww 143 rfl) e125 (B125.g 0 (v := (.ref a2)) (by decide) rfl rfl) k128 (H 39 rfl)
 obtain ⟨T131, X131, e131, k132⟩ := gFs X129 hx hZ hown (hww 150 rfl) e129 (Fk2.keep K126 (ninS (Ne.symm ne_a1_a2) nin0)) k130 (H 40 rfl)
 have k133 := f_dup X131 hx k132 (H 41 rfl) rfl
 have k134 := f_asN X131 hx k133 (H 42 rfl) (l' := #[sr a1, sr tb, sr nd]) rfl
 have k135 := f_inN X131 hx k134 (H 43 rfl)
 obtain ⟨T136, h136, L136, X136, e136, B136, N136, Z136, K136, k136⟩ := scn l Z a0 hw hx hby hZ hown rfl 12 (4 : Int32) (by decide) (own_nulls 4 12 (by decide) rfl) X131 e131 B125 (Fk3.keep K126 (ninS (Ne.symm ne_a1_tb) nin0)) (Ne.symm (Ne.symm ne_a1_tb)) N125 ge_a1 Z125 K126 k135
 have k137 := f_alN X136 hx k136 (H 44 rfl) rfl
 exact fin_r X136 hx (w := (.ref nd)) hrt hlk rfl (Or.inr (Or.inr (Or.inr (Or.inr ⟨rfl, rfl, rfl⟩)))) k137 (H 45 rfl) (by rw [e136]; exact ⟨rfl, N136, K136, B136⟩) (by decide) (by decide)
def Q_nxt3None (Z : State) (a1 a2 : Addr) (mc : Int32) (tb : Addr) (kt : ClassId) (nd : Addr) (cu v1 v2 v3 : Value) (vl : Addr) (h0 : Heap) (n0 : Nat) (v : Option Value) (h : Heap) (L : List Loc) : Prop := v = some (.ref vl) ∧ Fr n0 L ∧ Keep h0 h [a1] ∧ OBJ Z h a1 "java/util/HashMap$ValueIterator" lyIT [(.ref a2), (.int mc), .null, (.ref nd), (.int (16 : Int32))]
theorem nxt3None (l : Launch) (Z : State) (a0 : Array Value) (hw : HW Z a0) (ws : List Jvm.Cond) (a1 a2 : Addr) (mc : Int32) (tb : Addr) (kt : ClassId) (nd : Addr) (cu v1 v2 v3 : Value) (vl : Addr) (h0 : Heap) (n0 : Nat) (Z0 : n0 ≤ h0.size) (Fk0 : OBJ Z h0 a1 "java/util/HashMap$ValueIterator" lyIT [(.ref a2), (.int mc), (.ref nd), cu, (.int (4 : Int32))]) (Fk1 : Fld Z h0 a2 "java/util/HashMap" "modCount" "I" (.int mc)) (Fk2 : Fld Z h0 a2 "java/util/HashMap" "table" "[Ljava/util/HashMap$Node;" (.ref tb)) (Fk3 : Arv Z h0 tb kt (.object "java/util/HashMap$Node") (16 : Int32) [.null, v1, v2, v3, .null, .null, .null, .null, .null, .null, .null, .null, .null, .null, .null, .null] .null) (Fk4 : Fld Z h0 nd "java/util/HashMap$Node" "next" "Ljava/util/HashMap$Node;" .null) (Fk5 : Fld Z h0 nd "java/util/HashMap$Node" "value" "Ljava/lang/Object;" (.ref vl)) (ge_a1 : n0 ≤ a1) (ne_a1_a2 : a1 ≠ a2) (ne_a1_tb : a1 ≠ tb) (ne_a1_nd : a1 ≠ nd) :
  Met l mn48 jdk_2569_method_2_code 1 (some (.object "java/lang/Object")) ws (rm 1 0 0 14) #[(.ref a1)] Z h0 (Q_nxt3None Z a1 a2 mc tb kt nd cu v1 v2 v3 vl h0 n0) := by
 refine Met.intro (plainFor_of_name pn_java_2futil_2fHashMap_24ValueIterator) ?_
 intro p e s m below meth c s₁ hx hby hml hZ hown hnm hrt hlk X0 e0
 have N0 := Fr.nil n0
 have hww := @hvw _ _ hw
 have k0 := k_e (p := p) (e := e) (below := below) (s := s₁) (ef_52_R m a1)
 have K0 := Keep.refl h0 [a1]
 have H := @dch _ _ _ hby D52
 have k101 := f_alN X0 hx k0 (H 0 rfl) rfl
 obtain ⟨_, T102, L102, X102, hQ102, k102⟩ := c_U (W := 0) (x := mn47) X0 hx hZ hown (hww 381 rfl) (hww 382 rfl) (hww 383 rfl) (by decide) (hww 385 rfl) (hww 384 rfl) (hww 386 rfl) (hww 141 rfl) Fk0.1 (nxn3None l Z a0 hw [] a1 a2 mc tb kt nd cu v1 v2 v3 h0 n0 Z0 Fk0 Fk1 Fk2 Fk3 Fk4 ge_a1 ne_a1_a2 ne_a1_tb ne_a1_nd) e0 (argsL := []) (rest := []) rfl (by rw [hml]; rfl) k101 rfl (H 1 rfl) (lenOf pd__28_29Ljava_2futil_2fHashMap_24Node_3b rfl) (b5 rfl)
 obtain ⟨h102, e102⟩ : ∃ h', T102.heap = h' := ⟨_, rfl⟩
 rw [e102] at hQ102
 obtain ⟨rfl, N102q, K102, R102_0⟩ := hQ102
 have N103 := Fr.app N0 N102q
 have Z104 : n0 ≤ h102.size := Nat.le_trans Z0 K102.1
 have K105 := Keep.trans K0 K102 (allS (oL 0 rfl) all0)
 obtain ⟨T106, X106, e106, k107⟩ := gFs X102 hx hZ hown (hww 388 rfl) e102 (Fk5.keep K105 (ninS (Ne.symm ne_a1_nd) nin0)) k102 (H 2 rfl)
 exact fin_r X106 hx (w := (.ref vl)) hrt hlk rfl (Or.inr (Or.inr (Or.inr (Or.inr ⟨rfl, rfl, rfl⟩)))) k107 (H 3 rfl) (by rw [e106]; exact ⟨rfl, N103, K105, R102_0⟩) (by decide) (by decide)
theorem ef_56_II (m : MethodId) (x0 : Int32) (x1 : Int32) : entryFrame m #[(.int x0), (.int x1)] 2 = mkF m 0 #[.val (.int x0), .val (.int x1)] [] := by first | (simp [entryFrame, mkF, argsToLocals, Value.category]; done) | rfl
def Q_mmin (Z : State) (p1 p2 : Int32) (h0 : Heap) (n0 : Nat) (v : Option Value) (h : Heap) (L : List Loc) : Prop := ∃ (j : Int32), v = some (.int j) ∧ Fr n0 L ∧ h = h0 ∧ (j = (if p2 < p1 then p2 else p1))
theorem mmin (l : Launch) (Z : State) (a0 : Array Value) (hw : HW Z a0) (ws : List Jvm.Cond) (p1 p2 : Int32) (h0 : Heap) (n0 : Nat) (Z0 : n0 ≤ h0.size) (hle : ¬ (p1 < p2)) :
  Met l mn49 jdk_29_method_69_code 2 (some .int) ws (rm 0 0 0 0) #[(.int p1), (.int p2)] Z h0 (Q_mmin Z p1 p2 h0 n0) := by
 refine Met.intro (Jvm.Free.JP.mathPlain rfl (by decide +kernel)) ?_
 intro p e s m below meth c s₁ hx hby hml hZ hown hnm hrt hlk X0 e0
 have N0 := Fr.nil n0
 have hww := @hvw _ _ hw
 have k0 := k_e (p := p) (e := e) (below := below) (s := s₁) (ef_56_II m p1 p2)
 have H := @dch _ _ _ hby D56
 have k101 := f_ilN X0 hx k0 (H 0 rfl) rfl
 have k102 := f_ilN X0 hx k101 (H 1 rfl) rfl
 obtain ⟨i104, hi104⟩ : ∃ z : Int32, z = (if p2 < p1 then p2 else p1) := ⟨_, rfl⟩
 have k105 : Rt p e below s₁ (mkF m 10 #[si p1, si p2] [vI i104]) s₁ m #[(.int p1), (.int p2)] 2 := fun t k => k102 t (by
  by_cases c103 : p2 < p1
  · rw [if_pos c103] at hi104
    show Sp p e below s₁ (mkF m 2 #[si p1, si p2] [vI p2, vI p1]) _
    refine XS.icmpYes X0.here hx rfl (pc0 := 2) (pc' := 9) rfl (H 2 rfl) rfl (tlt c103).2.2.1 (by decide) (by decide) ?_
    refine XS.iloadN X0.here hx rfl (H 3 rfl) rfl ?_
    show Sp p e below s₁ (mkF m 10 #[si p1, si p2] [vI p2]) _
    exact castTop (by rw [hi104]) k
  · rw [if_neg c103] at hi104
    show Sp p e below s₁ (mkF m 2 #[si p1, si p2] [vI p2, vI p1]) _
    refine XS.icmpNo X0.here hx rfl (H 2 rfl) rfl (flt c103).2.2.1 ?_
    refine XS.iloadN X0.here hx rfl (H 4 rfl) rfl ?_
    refine XS.goto X0.here hx rfl (pc0 := 6) (pc' := 10) rfl (H 5 rfl) (by decide) (by decide) ?_
    show Sp p e below s₁ (mkF m 10 #[si p1, si p2] [vI p1]) _
    exact castTop (by rw [hi104]) k)
 exact fin_r X0 hx (w := (.int i104)) hrt hlk rfl (Or.inl ⟨rfl, Or.inl rfl, _, rfl⟩) k105 (H 6 rfl) (by rw [e0]; exact ⟨i104, rfl, N0, rfl, hi104⟩) (by decide) (by decide)
theorem ef_24_RII (m : MethodId) (x0 : Addr) (x1 : Int32) (x2 : Int32) : entryFrame m #[(.ref x0), (.int x1), (.int x2)] 6 = mkF m 0 #[.val (.ref x0), .val (.int x1), .val (.int x2), .unset, .unset, .unset] [] := by first | (simp [entryFrame, mkF, argsToLocals, Value.category]; done) | rfl
def Q_ins0 (Z : State) (a1 : Addr) (k1 : ClassId) (h0 : Heap) (n0 : Nat) (v : Option Value) (h : Heap) (L : List Loc) : Prop := v = none ∧ Fr n0 L ∧ Keep h0 h [a1] ∧ Arv Z h a1 k1 .int (0 : Int32) [] zI
theorem pn_java_2futil_2fDualPivotQuicksort : plainName "java/util/DualPivotQuicksort" = true := by first | (simp [plainName, overriddenIn]; done) | decide +kernel
theorem ins0 (l : Launch) (Z : State) (a0 : Array Value) (hw : HW Z a0) (ws : List Jvm.Cond) (a1 : Addr) (k1 : ClassId) (h0 : Heap) (n0 : Nat) (Z0 : n0 ≤ h0.size) (Fk0 : Arv Z h0 a1 k1 .int (0 : Int32) [] zI) (ge_a1 : n0 ≤ a1) :
  Met l mn50 jdk_2529_method_6_code 6 none ws (rm 0 0 0 0) #[(.ref a1), zI, zI] Z h0 (Q_ins0 Z a1 k1 h0 n0) := by
 refine Met.intro (plainFor_of_name pn_java_2futil_2fDualPivotQuicksort) ?_
 intro p e s m below meth c s₁ hx hby hml hZ hown hnm hrt hlk X0 e0
 have N0 := Fr.nil n0
 have hww := @hvw _ _ hw
 have k0 := k_e (p := p) (e := e) (below := below) (s := s₁) (ef_24_RII m a1 (0 : Int32) (0 : Int32))
 have K0 := Keep.refl h0 [a1]
 have H := @dch _ _ _ hby D24
 have k101 := f_ilN X0 hx k0 (H 0 rfl) rfl
 have k102 := f_is X0 hx k101 (H 1 rfl) (l' := #[sr a1, si 0, si 0, un, si 0, un]) rfl
 have k103 := f_inc X0 hx k102 (H 2 rfl) rfl (l' := #[sr a1, si 0, si 0, un, si 1, un]) rfl
 have k104 := f_il X0 hx k103 (H 3 rfl) rfl
 have k105 := f_ilN X0 hx k104 (H 4 rfl) rfl
 have k106 := f_icY X0 hx k105 (H 5 rfl) (pc' := 67) (flt (by decide)).2.1 (by decide)
 exact fin_v X0 hx hrt hlk k106 (H 6 rfl) (by rw [e0]; exact ⟨rfl, N0, K0, Fk0⟩) (by decide) (by decide)
theorem ef_23_nRIII (m : MethodId) (x1 : Addr) (x2 : Int32) (x3 : Int32) (x4 : Int32) : entryFrame m #[.null, (.ref x1), (.int x2), (.int x3), (.int x4)] 21 = mkF m 0 #[.val .null, .val (.ref x1), .val (.int x2), .val (.int x3), .val (.int x4), .unset, .unset, .unset, .unset, .unset, .unset, .unset, .unset, .unset, .unset, .unset, .unset, .unset, .unset, .unset, .unset] [] := by first | (simp [entryFrame, mkF, argsToLocals, Value.category]; done) | rfl
theorem pd__28_5bIII_29V : parseMethodDescriptor "([III)V" = some ⟨[(.array .int), .int, .int], none⟩ := by decide +kernel
def Q_dps0 (Z : State) (a1 : Addr) (k1 : ClassId) (h0 : Heap) (n0 : Nat) (v : Option Value) (h : Heap) (L : List Loc) : Prop := v = none ∧ Fr n0 L ∧ Keep h0 h [a1] ∧ Arv Z h a1 k1 .int (0 : Int32) [] zI
theorem dps0 (l : Launch) (Z : State) (a0 : Array Value) (hw : HW Z a0) (ws : List Jvm.Cond) (a1 : Addr) (k1 : ClassId) (h0 : Heap) (n0 : Nat) (Z0 : n0 ≤ h0.size) (Fk0 : Arv Z h0 a1 k1 .int (0 : Int32) [] zI) (ge_a1 : n0 ≤ a1) :
  Met l mn51 jdk_2529_method_4_code 21 none ws (rm 1 0 0 17) #[.null, (.ref a1), zI, zI, zI] Z h0 (Q_dps0 Z a1 k1 h0 n0) := by
 refine Met.intro (plainFor_of_name pn_java_2futil_2fDualPivotQuicksort) ?_
 intro p e s m below meth c s₁ hx hby hml hZ hown hnm hrt hlk X0 e0
 have N0 := Fr.nil n0
 have hww := @hvw _ _ hw
 have k0 := k_e (p := p) (e := e) (below := below) (s := s₁) (ef_23_nRIII m a1 (0 : Int32) (0 : Int32) (0 : Int32))
 have K0 := Keep.refl h0 [a1]
 have H := @dch _ _ _ hby D23
 have k101 := f_il X0 hx k0 (H 0 rfl) rfl
 have k102 := f_ic X0 hx k101 (H 1 rfl) (v := 1) rfl
 have k103 := f_isub X0 hx k102 (H 2 rfl) (r := (-1)) (by decide)
 have k104 := f_is X0 hx k103 (H 3 rfl) (l' := #[.val .null, sr a1, si 0, si 0, si 0, si (-1), un, un, un, un, un, un, un, un, un, un, un, un, un, un, un]) rfl
 have k105 := f_il X0 hx k104 (H 4 rfl) rfl
 have k106 := f_ilN X0 hx k105 (H 5 rfl) rfl
 have k107 := f_isub X0 hx k106 (H 6 rfl) (r := 0) (by decide)
 have k108 := f_is X0 hx k107 (H 7 rfl) (l' := #[.val .null, sr a1, si 0, si 0, si 0, si (-1), si 0, un, un, un, un, un, un, un, un, un, un, un, un, un, un]) rfl
 have k109 := f_il X0 hx k108 (H 8 rfl) rfl
 have k110 := f_bp X0 hx k109 (H 9 rfl) (v := 65) rfl
 have k111 := f_ilN X0 hx k110 (H 10 rfl) rfl
 have k112 := f_iadd X0 hx k111 (H 11 rfl) (r := 65) (by decide)
 have k113 := f_icN X0 hx k112 (H 12 rfl) (tlt (by decide)).2.1
 have k114 := f_ilN X0 hx k113 (H 13 rfl) rfl
 have k115 := f_ic X0 hx k114 (H 14 rfl) (v := 1) rfl
 have k116 := f_iand X0 hx k115 (H 15 rfl) (r := 0) (by decide)
 have k117 := f_ifY X0 hx k116 (H 16 rfl) (pc' := 46) ((if0 _ _).trans (flt (by decide)).2.2.2) (by decide)
 have k118 := f_il X0 hx k117 (H 17 rfl) rfl
 have k119 := f_bp X0 hx k118 (H 18 rfl) (v := 44) rfl
 have k120 := f_icN X0 hx k119 (H 19 rfl) (tlt (by decide)).2.1
 have k121 := f_alN X0 hx k120 (H 20 rfl) rfl
 have k122 := f_ilN X0 hx k121 (H 21 rfl) rfl
 have k123 := f_il X0 hx k122 (H 22 rfl) rfl
 obtain ⟨_, T124, L124, X124, hQ124, k124⟩ := c_S (W := 0) X0 hx hZ hown (hww 190 rfl) (hww 191 rfl) (hww 185 rfl) (hww 192 rfl) (by decide) (ins0 l Z a0 hw [] a1 k1 h0 n0 Z0 Fk0 ge_a1) e0 (argsL := [(.ref a1), zI, zI]) (rest := []) rfl (by rw [hml]; rfl) k123 rfl (H 23 rfl) (lenOf pd__28_5bIII_29V rfl) (b5 rfl)
 obtain ⟨h124, e124⟩ : ∃ h', T124.heap = h' := ⟨_, rfl⟩
 rw [e124] at hQ124
 obtain ⟨rfl, N124q, K124, R124_0⟩ := hQ124
 have N125 := Fr.app N0 N124q
 have Z126 : n0 ≤ h124.size := Nat.le_trans Z0 K124.1
 have K127 := Keep.trans K0 K124 (allS (oL 0 rfl) all0)
 exact fin_v X124 hx hrt hlk k124 (H 24 rfl) (by rw [e124]; exact ⟨rfl, N125, K127, R124_0⟩) (by decide) (by decide)
theorem ef_22_RIII (m : MethodId) (x0 : Addr) (x1 : Int32) (x2 : Int32) (x3 : Int32) : entryFrame m #[(.ref x0), (.int x1), (.int x2), (.int x3)] 7 = mkF m 0 #[.val (.ref x0), .val (.int x1), .val (.int x2), .val (.int x3), .unset, .unset, .unset] [] := by first | (simp [entryFrame, mkF, argsToLocals, Value.category]; done) | rfl
theorem pd__28Ljava_2futil_2fDualPivotQuicksort_24Sorter_3b_5bIIII_29V : parseMethodDescriptor "(Ljava/util/DualPivotQuicksort$Sorter;[IIII)V" = some ⟨[(.object "java/util/DualPivotQuicksort$Sorter"), (.array .int), .int, .int, .int], none⟩ := by decide +kernel
def Q_dpq0 (Z : State) (a1 : Addr) (k1 : ClassId) (h0 : Heap) (n0 : Nat) (v : Option Value) (h : Heap) (L : List Loc) : Prop := v = none ∧ Fr n0 L ∧ Keep h0 h [a1] ∧ Arv Z h a1 k1 .int (0 : Int32) [] zI
theorem dpq0 (l : Launch) (Z : State) (a0 : Array Value) (hw : HW Z a0) (ws : List Jvm.Cond) (a1 : Addr) (k1 : ClassId) (h0 : Heap) (n0 : Nat) (Z0 : n0 ≤ h0.size) (Fk0 : Arv Z h0 a1 k1 .int (0 : Int32) [] zI) (ge_a1 : n0 ≤ a1) :
  Met l mn52 jdk_2529_method_3_code 7 none ws (rm 2 0 0 49) #[(.ref a1), zI, zI, zI] Z h0 (Q_dpq0 Z a1 k1 h0 n0) := by
 refine Met.intro (plainFor_of_name pn_java_2futil_2fDualPivotQuicksort) ?_
 intro p e s m below meth c s₁ hx hby hml hZ hown hnm hrt hlk X0 e0
 have N0 := Fr.nil n0
 have hww := @hvw _ _ hw
 have k0 := k_e (p := p) (e := e) (below := below) (s := s₁) (ef_22_RIII m a1 (0 : Int32) (0 : Int32) (0 : Int32))
 have K0 := Keep.refl h0 [a1]
 have H := @dch _ _ _ hby D22
 have k101 := f_ilN X0 hx k0 (H 0 rfl) rfl
 have k102 := f_ilN X0 hx k101 (H 1 rfl) rfl
 have k103 := f_isub X0 hx k102 (H 2 rfl) (r := 0) (by decide)
 have k104 := f_is X0 hx k103 (H 3 rfl) (l' := #[sr a1, si 0, si 0, si 0, si 0, un, un]) rfl
 have k105 := f_ilN X0 hx k104 (H 4 rfl) rfl
 have k106 := f_ic X0 hx k105 (H 5 rfl) (v := 1) rfl
 have k107 := f_icY X0 hx k106 (H 6 rfl) (pc' := 68) (flt (by decide)).2.2.2 (by decide)
 have k108 := f_an X0 hx k107 (H 7 rfl)
 have k109 := f_alN X0 hx k108 (H 8 rfl) rfl
 have k110 := f_ic X0 hx k109 (H 9 rfl) (v := 0) rfl
 have k111 := f_ilN X0 hx k110 (H 10 rfl) rfl
 have k112 := f_ilN X0 hx k111 (H 11 rfl) rfl
 obtain ⟨_, T113, L113, X113, hQ113, k113⟩ := c_S (W := 0) X0 hx hZ hown (hww 187 rfl) (hww 188 rfl) (hww 185 rfl) (hww 189 rfl) (by decide) (dps0 l Z a0 hw [] a1 k1 h0 n0 Z0 Fk0 ge_a1) e0 (argsL := [.null, (.ref a1), zI, zI, zI]) (rest := []) rfl (by rw [hml]; rfl) k112 rfl (H 12 rfl) (lenOf pd__28Ljava_2futil_2fDualPivotQuicksort_24Sorter_3b_5bIIII_29V rfl) (b5 rfl)
 obtain ⟨h113, e113⟩ : ∃ h', T113.heap = h' := ⟨_, rfl⟩
 rw [e113] at hQ113
 obtain ⟨rfl, N113q, K113, R113_0⟩ := hQ113
 have N114 := Fr.app N0 N113q
 have Z115 : n0 ≤ h113.size := Nat.le_trans Z0 K113.1
 have K116 := Keep.trans K0 K113 (allS (oL 0 rfl) all0)
 exact fin_v X113 hx hrt hlk k113 (H 13 rfl) (by rw [e113]; exact ⟨rfl, N114, K116, R113_0⟩) (by decide) (by decide)
theorem ef_21_R (m : MethodId) (x0 : Addr) : entryFrame m #[(.ref x0)] 1 = mkF m 0 #[.val (.ref x0)] [] := by first | (simp [entryFrame, mkF, argsToLocals, Value.category]; done) | rfl
theorem pd__28_5bIIII_29V : parseMethodDescriptor "([IIII)V" = some ⟨[(.array .int), .int, .int, .int], none⟩ := by decide +kernel
def Q_srt0 (Z : State) (a1 : Addr) (k1 : ClassId) (h0 : Heap) (n0 : Nat) (v : Option Value) (h : Heap) (L : List Loc) : Prop := v = none ∧ Fr n0 L ∧ Keep h0 h [a1] ∧ Arv Z h a1 k1 .int (0 : Int32) [] zI
theorem pn_java_2futil_2fArrays : plainName "java/util/Arrays" = true := by first | (simp [plainName, overriddenIn]; done) | decide +kernel
theorem srt0 (l : Launch) (Z : State) (a0 : Array Value) (hw : HW Z a0) (ws : List Jvm.Cond) (a1 : Addr) (k1 : ClassId) (h0 : Heap) (n0 : Nat) (Z0 : n0 ≤ h0.size) (Fk0 : Arv Z h0 a1 k1 .int (0 : Int32) [] zI) (ge_a1 : n0 ≤ a1) :
  Met l mn53 jdk_65_method_2_code 1 none ws (rm 3 0 0 67) #[(.ref a1)] Z h0 (Q_srt0 Z a1 k1 h0 n0) := by
 refine Met.intro (plainFor_of_name pn_java_2futil_2fArrays) ?_
 intro p e s m below meth c s₁ hx hby hml hZ hown hnm hrt hlk X0 e0
 have N0 := Fr.nil n0
 have hww := @hvw _ _ hw
 have k0 := k_e (p := p) (e := e) (below := below) (s := s₁) (ef_21_R m a1)
 have K0 := Keep.refl h0 [a1]
 have H := @dch _ _ _ hby D21
 have k101 := f_alN X0 hx k0 (H 0 rfl) rfl
 have k102 := f_ic X0 hx k101 (H 1 rfl) (v := 0) rfl
 have k103 := f_ic X0 hx k102 (H 2 rfl) (v := 0) rfl
 have k104 := f_alN X0 hx k103 (H 3 rfl) rfl
 have k105 := f_len X0 hx hZ e0 Fk0 k104 (H 4 rfl)
 obtain ⟨_, T106, L106, X106, hQ106, k106⟩ := c_S (W := 0) X0 hx hZ hown (hww 183 rfl) (hww 184 rfl) (hww 185 rfl) (hww 186 rfl) (by decide) (dpq0 l Z a0 hw [] a1 k1 h0 n0 Z0 Fk0 ge_a1) e0 (argsL := [(.ref a1), zI, zI, zI]) (rest := []) rfl (by rw [hml]; rfl) k105 rfl (H 5 rfl) (lenOf pd__28_5bIIII_29V rfl) (b5 rfl)
 obtain ⟨h106, e106⟩ : ∃ h', T106.heap = h' := ⟨_, rfl⟩
 rw [e106] at hQ106
 obtain ⟨rfl, N106q, K106, R106_0⟩ := hQ106
 have N107 := Fr.app N0 N106q
 have Z108 : n0 ≤ h106.size := Nat.le_trans Z0 K106.1
 have K109 := Keep.trans K0 K106 (allS (oL 0 rfl) all0)
 exact fin_v X106 hx hrt hlk k106 (H 6 rfl) (by rw [e106]; exact ⟨rfl, N107, K109, R106_0⟩) (by decide) (by decide)
def Q_ins1 (Z : State) (a1 : Addr) (k1 : ClassId) (q0 : Int32) (h0 : Heap) (n0 : Nat) (v : Option Value) (h : Heap) (L : List Loc) : Prop := ∃ (r0 : Int32), v = none ∧ Fr n0 L ∧ Keep h0 h [a1] ∧ Arv Z h a1 k1 .int (1 : Int32) [(.int r0)] zI
theorem ins1 (l : Launch) (Z : State) (a0 : Array Value) (hw : HW Z a0) (ws : List Jvm.Cond) (a1 : Addr) (k1 : ClassId) (q0 : Int32) (h0 : Heap) (n0 : Nat) (Z0 : n0 ≤ h0.size) (Fk0 : Arv Z h0 a1 k1 .int (1 : Int32) [(.int q0)] zI) (ge_a1 : n0 ≤ a1) :
  Met l mn50 jdk_2529_method_6_code 6 none ws (rm 0 0 0 0) #[(.ref a1), zI, (.int (1 : Int32))] Z h0 (Q_ins1 Z a1 k1 q0 h0 n0) := by
 refine Met.intro (plainFor_of_name pn_java_2futil_2fDualPivotQuicksort) ?_
 intro p e s m below meth c s₁ hx hby hml hZ hown hnm hrt hlk X0 e0
 have N0 := Fr.nil n0
 have hww := @hvw _ _ hw
 have k0 := k_e (p := p) (e := e) (below := below) (s := s₁) (ef_24_RII m a1 (0 : Int32) (1 : Int32))
 have K0 := Keep.refl h0 [a1]
 have H := @dch _ _ _ hby D24
 have k101 := f_ilN X0 hx k0 (H 0 rfl) rfl
 have k102 := f_is X0 hx k101 (H 1 rfl) (l' := #[sr a1, si 0, si 1, un, si 0, un]) rfl
 have k103 := f_inc X0 hx k102 (H 2 rfl) rfl (l' := #[sr a1, si 0, si 1, un, si 1, un]) rfl
 have k104 := f_il X0 hx k103 (H 3 rfl) rfl
 have k105 := f_ilN X0 hx k104 (H 4 rfl) rfl
 have k106 := f_icY X0 hx k105 (H 5 rfl) (pc' := 67) (flt (by decide)).2.1 (by decide)
 exact fin_v X0 hx hrt hlk k106 (H 6 rfl) (by rw [e0]; exact ⟨q0, rfl, N0, K0, Fk0⟩) (by decide) (by decide)
def Q_dps1 (Z : State) (a1 : Addr) (k1 : ClassId) (q0 : Int32) (h0 : Heap) (n0 : Nat) (v : Option Value) (h : Heap) (L : List Loc) : Prop := ∃ (r0 : Int32), v = none ∧ Fr n0 L ∧ Keep h0 h [a1] ∧ Arv Z h a1 k1 .int (1 : Int32) [(.int r0)] zI
theorem dps1 (l : Launch) (Z : State) (a0 : Array Value) (hw : HW Z a0) (ws : List Jvm.Cond) (a1 : Addr) (k1 : ClassId) (q0 : Int32) (h0 : Heap) (n0 : Nat) (Z0 : n0 ≤ h0.size) (Fk0 : Arv Z h0 a1 k1 .int (1 : Int32) [(.int q0)] zI) (ge_a1 : n0 ≤ a1) :
  Met l mn51 jdk_2529_method_4_code 21 none ws (rm 1 0 0 17) #[.null, (.ref a1), zI, zI, (.int (1 : Int32))] Z h0 (Q_dps1 Z a1 k1 q0 h0 n0) := by
 refine Met.intro (plainFor_of_name pn_java_2futil_2fDualPivotQuicksort) ?_
 intro p e s m below meth c s₁ hx hby hml hZ hown hnm hrt hlk X0 e0
 have N0 := Fr.nil n0
 have hww := @hvw _ _ hw
 have k0 := k_e (p := p) (e := e) (below := below) (s := s₁) (ef_23_nRIII m a1 (0 : Int32) (0 : Int32) (1 : Int32))
 have K0 := Keep.refl h0 [a1]
 have H := @dch _ _ _ hby D23
 have k101 := f_il X0 hx k0 (H 0 rfl) rfl
 have k102 := f_ic X0 hx k101 (H 1 rfl) (v := 1) rfl
 have k103 := f_isub X0 hx k102 (H 2 rfl) (r := 0) (by decide)
 have k104 := f_is X0 hx k103 (H 3 rfl) (l' := #[.val .null, sr a1, si 0, si 0, si 1, si 0, un, un, un, un, un, un, un, un, un, un, un, un, un, un, un]) rfl
 have k105 := f_il X0 hx k104 (H 4 rfl) rfl
 have k106 := f_ilN X0 hx k105 (H 5 rfl) rfl
 have k107 := f_isub X0 hx k106 (H 6 rfl) (r := 1) (by decide)
 have k108 := f_is X0 hx k107 (H 7 rfl) (l' := #[.val .null, sr a1, si 0, si 0, si 1, si 0, si 1, un, un, un, un, un, un, un, un, un, un, un, un, un, un]) rfl
 have k109 := f_il X0 hx k108 (H 8 rfl) rfl
 have k110 := f_bp X0 hx k109 (H 9 rfl) (v := 65) rfl
 have k111 := f_ilN X0 hx k110 (H 10 rfl) rfl
 have k112 := f_iadd X0 hx k111 (H 11 rfl) (r := 65) (by decide)
 have k113 := f_icN X0 hx k112 (H 12 rfl) (tlt (by decide)).2.1
 have k114 := f_ilN X0 hx k113 (H 13 rfl) rfl
 have k115 := f_ic X0 hx k114 (H 14 rfl) (v := 1) rfl
 have k116 := f_iand X0 hx k115 (H 15 rfl) (r := 0) (by decide)
 have k117 := f_ifY X0 hx k116 (H 16 rfl) (pc' := 46) ((if0 _ _).trans (flt (by decide)).2.2.2) (by decide)
 have k118 := f_il X0 hx k117 (H 17 rfl) rfl
 have k119 := f_bp X0 hx k118 (H 18 rfl) (v := 44) rfl
 have k120 := f_icN X0 hx k119 (H 19 rfl) (tlt (by decide)).2.1
 have k121 := f_alN X0 hx k120 (H 20 rfl) rfl
 have k122 := f_ilN X0 hx k121 (H 21 rfl) rfl
 have k123 := f_il X0 hx k122 (H 22 rfl) rfl
 obtain ⟨_, T124, L124, X124, hQ124, k124⟩ := c_S (W := 0) X0 hx hZ hown (hww 190 rfl) (hww 191 rfl) (hww 185 rfl) (hww 192 rfl) (by decide) (ins1 l Z a0 hw [] a1 k1 q0 h0 n0 Z0 Fk0 ge_a1) e0 (argsL := [(.ref a1), zI, (.int (1 : Int32))]) (rest := []) rfl (by rw [hml]; rfl) k123 rfl (H 23 rfl) (lenOf pd__28_5bIII_29V rfl) (b5 rfl)
 obtain ⟨h124, e124⟩ : ∃ h', T124.heap = h' := ⟨_, rfl⟩
 rw [e124] at hQ124
 obtain ⟨r0124, rfl, N124q, K124, R124_0⟩ := hQ124
 have N125 := Fr.app N0 N124q
 have Z126 : n0 ≤ h124.size := Nat.le_trans Z0 K124.1
 have K127 := Keep.trans K0 K124 (allS (oL 0 rfl) all0)
 exact fin_v X124 hx hrt hlk k124 (H 24 rfl) (by rw [e124]; exact ⟨r0124, rfl, N125, K127, R124_0⟩) (by decide) (by decide)
def Q_dpq1 (Z : State) (a1 : Addr) (k1 : ClassId) (q0 : Int32) (h0 : Heap) (n0 : Nat) (v : Option Value) (h : Heap) (L : List Loc) : Prop := ∃ (r0 : Int32), v = none ∧ Fr n0 L ∧ Keep h0 h [a1] ∧ Arv Z h a1 k1 .int (1 : Int32) [(.int r0)] zI
theorem dpq1 (l : Launch) (Z : State) (a0 : Array Value) (hw : HW Z a0) (ws : List Jvm.Cond) (a1 : Addr) (k1 : ClassId) (q0 : Int32) (h0 : Heap) (n0 : Nat) (Z0 : n0 ≤ h0.size) (Fk0 : Arv Z h0 a1 k1 .int (1 : Int32) [(.int q0)] zI) (ge_a1 : n0 ≤ a1) :
  Met l mn52 jdk_2529_method_3_code 7 none ws (rm 2 0 0 49) #[(.ref a1), zI, zI, (.int (1 : Int32))] Z h0 (Q_dpq1 Z a1 k1 q0 h0 n0) := by
 refine Met.intro (plainFor_of_name pn_java_2futil_2fDualPivotQuicksort) ?_
 intro p e s m below meth c s₁ hx hby hml hZ hown hnm hrt hlk X0 e0
 have N0 := Fr.nil n0
 have hww := @hvw _ _ hw
 have k0 := k_e (p := p) (e := e) (below := below) (s := s₁) (ef_22_RIII m a1 (0 : Int32) (0 : Int32) (1 : Int32))
 have K0 := Keep.refl h0 [a1]
 have H := @dch _ _ _ hby D22
 have k101 := f_ilN X0 hx k0 (H 0 rfl) rfl
 have k102 := f_ilN X0 hx k101 (H 1 rfl) rfl
 have k103 := f_isub X0 hx k102 (H 2 rfl) (r := 1) (by decide)
 have k104 := f_is X0 hx k103 (H 3 rfl) (l' := #[sr a1, si 0, si 0, si 1, si 1, un, un]) rfl
 have k105 := f_ilN X0 hx k104 (H 4 rfl) rfl
 have k106 := f_ic X0 hx k105 (H 5 rfl) (v := 1) rfl
 have k107 := f_icY X0 hx k106 (H 6 rfl) (pc' := 68) (flt (by decide)).2.2.2 (by decide)
 have k108 := f_an X0 hx k107 (H 7 rfl)
 have k109 := f_alN X0 hx k108 (H 8 rfl) rfl
 have k110 := f_ic X0 hx k109 (H 9 rfl) (v := 0) rfl
 have k111 := f_ilN X0 hx k110 (H 10 rfl) rfl
 have k112 := f_ilN X0 hx k111 (H 11 rfl) rfl
 obtain ⟨_, T113, L113, X113, hQ113, k113⟩ := c_S (W := 0) X0 hx hZ hown (hww 187 rfl) (hww 188 rfl) (hww 185 rfl) (hww 189 rfl) (by decide) (dps1 l Z a0 hw [] a1 k1 q0 h0 n0 Z0 Fk0 ge_a1) e0 (argsL := [.null, (.ref a1), zI, zI, (.int (1 : Int32))]) (rest := []) rfl (by rw [hml]; rfl) k112 rfl (H 12 rfl) (lenOf pd__28Ljava_2futil_2fDualPivotQuicksort_24Sorter_3b_5bIIII_29V rfl) (b5 rfl)
 obtain ⟨h113, e113⟩ : ∃ h', T113.heap = h' := ⟨_, rfl⟩
 rw [e113] at hQ113
 obtain ⟨r0113, rfl, N113q, K113, R113_0⟩ := hQ113
 have N114 := Fr.app N0 N113q
 have Z115 : n0 ≤ h113.size := Nat.le_trans Z0 K113.1
 have K116 := Keep.trans K0 K113 (allS (oL 0 rfl) all0)
 exact fin_v X113 hx hrt hlk k113 (H 13 rfl) (by rw [e113]; exact ⟨r0113, rfl, N114, K116, R113_0⟩) (by decide) (by decide)
def Q_srt1 (Z : State) (a1 : Addr) (k1 : ClassId) (q0 : Int32) (h0 : Heap) (n0 : Nat) (v : Option Value) (h : Heap) (L : List Loc) : Prop := ∃ (r0 : Int32), v = none ∧ Fr n0 L ∧ Keep h0 h [a1] ∧ Arv Z h a1 k1 .int (1 : Int32) [(.int r0)] zI
theorem srt1 (l : Launch) (Z : State) (a0 : Array Value) (hw : HW Z a0) (ws : List Jvm.Cond) (a1 : Addr) (k1 : ClassId) (q0 : Int32) (h0 : Heap) (n0 : Nat) (Z0 : n0 ≤ h0.size) (Fk0 : Arv Z h0 a1 k1 .int (1 : Int32) [(.int q0)] zI) (ge_a1 : n0 ≤ a1) :
  Met l mn53 jdk_65_method_2_code 1 none ws (rm 3 0 0 67) #[(.ref a1)] Z h0 (Q_srt1 Z a1 k1 q0 h0 n0) := by
 refine Met.intro (plainFor_of_name pn_java_2futil_2fArrays) ?_
 intro p e s m below meth c s₁ hx hby hml hZ hown hnm hrt hlk X0 e0
 have N0 := Fr.nil n0
 have hww := @hvw _ _ hw
 have k0 := k_e (p := p) (e := e) (below := below) (s := s₁) (ef_21_R m a1)
 have K0 := Keep.refl h0 [a1]
 have H := @dch _ _ _ hby D21
 have k101 := f_alN X0 hx k0 (H 0 rfl) rfl
 have k102 := f_ic X0 hx k101 (H 1 rfl) (v := 0) rfl
 have k103 := f_ic X0 hx k102 (H 2 rfl) (v := 0) rfl
 have k104 := f_alN X0 hx k103 (H 3 rfl) rfl
 have k105 := f_len X0 hx hZ e0 Fk0 k104 (H 4 rfl)
 obtain ⟨_, T106, L106, X106, hQ106, k106⟩ := c_S (W := 0) X0 hx hZ hown (hww 183 rfl) (hww 184 rfl) (hww 185 rfl) (hww 186 rfl) (by decide) (dpq1 l Z a0 hw [] a1 k1 q0 h0 n0 Z0 Fk0 ge_a1) e0 (argsL := [(.ref a1), zI, zI, (.int (1 : Int32))]) (rest := []) rfl (by rw [hml]; rfl) k105 rfl (H 5 rfl) (lenOf pd__28_5bIIII_29V rfl) (b5 rfl)
 obtain ⟨h106, e106⟩ : ∃ h', T106.heap = h' := ⟨_, rfl⟩
 rw [e106] at hQ106
 obtain ⟨r0106, rfl, N106q, K106, R106_0⟩ := hQ106
 have N107 := Fr.app N0 N106q
 have Z108 : n0 ≤ h106.size := Nat.le_trans Z0 K106.1
 have K109 := Keep.trans K0 K106 (allS (oL 0 rfl) all0)
 exact fin_v X106 hx hrt hlk k106 (H 6 rfl) (by rw [e106]; exact ⟨r0106, rfl, N107, K109, R106_0⟩) (by decide) (by decide)
def Q_ins2 (Z : State) (a1 : Addr) (k1 : ClassId) (q0 q1 : Int32) (h0 : Heap) (n0 : Nat) (v : Option Value) (h : Heap) (L : List Loc) : Prop := ∃ (r0 : Int32) (r1 : Int32), v = none ∧ Fr n0 L ∧ Keep h0 h [a1] ∧ Arv Z h a1 k1 .int (2 : Int32) [(.int r0), (.int r1)] zI
theorem ins2 (l : Launch) (Z : State) (a0 : Array Value) (hw : HW Z a0) (ws : List Jvm.Cond) (a1 : Addr) (k1 : ClassId) (q0 q1 : Int32) (h0 : Heap) (n0 : Nat) (Z0 : n0 ≤ h0.size) (Fk0 : Arv Z h0 a1 k1 .int (2 : Int32) [(.int q0), (.int q1)] zI) (ge_a1 : n0 ≤ a1) :
  Met l mn50 jdk_2529_method_6_code 6 none ws (rm 0 0 0 0) #[(.ref a1), zI, (.int (2 : Int32))] Z h0 (Q_ins2 Z a1 k1 q0 q1 h0 n0) := by
 refine Met.intro (plainFor_of_name pn_java_2futil_2fDualPivotQuicksort) ?_
 intro p e s m below meth c s₁ hx hby hml hZ hown hnm hrt hlk X0 e0
 have N0 := Fr.nil n0
 have hww := @hvw _ _ hw
 have k0 := k_e (p := p) (e := e) (below := below) (s := s₁) (ef_24_RII m a1 (0 : Int32) (2 : Int32))
 have K0 := Keep.refl h0 [a1]
 have H := @dch _ _ _ hby D24
 have k101 := f_ilN X0 hx k0 (H 0 rfl) rfl
 have k102 := f_is X0 hx k101 (H 1 rfl) (l' := #[sr a1, si 0, si 2, un, si 0, un]) rfl
 have k103 := f_inc X0 hx k102 (H 2 rfl) rfl (l' := #[sr a1, si 0, si 2, un, si 1, un]) rfl
 have k104 := f_il X0 hx k103 (H 3 rfl) rfl
 have k105 := f_ilN X0 hx k104 (H 4 rfl) rfl
 have k106 := f_icN X0 hx k105 (H 5 rfl) (tlt (by decide)).2.1
 have k107 := f_alN X0 hx k106 (H 7 rfl) rfl
 have k108 := f_il X0 hx k107 (H 8 rfl) rfl
 have k109 := f_dup X0 hx k108 (H 9 rfl) rfl
 have k110 := f_isN X0 hx k109 (H 10 rfl) (l' := #[sr a1, si 0, si 2, si 1, si 1, un]) rfl
 have k111 := f_ial X0 hx hZ e0 Fk0 k110 (H 11 rfl) (v := q1) (by decide) rfl
 have k112 := f_is X0 hx k111 (H 12 rfl) (l' := #[sr a1, si 0, si 2, si 1, si 1, si q1]) rfl
 have k113 := f_il X0 hx k112 (H 13 rfl) rfl
 have k114 := f_alN X0 hx k113 (H 14 rfl) rfl
 have k115 := f_ilN X0 hx k114 (H 15 rfl) rfl
 have k116 := f_ic X0 hx k115 (H 16 rfl) (v := 1) rfl
 have k117 := f_isub X0 hx k116 (H 17 rfl) (r := 0) (by decide)
 have k118 := f_ial X0 hx hZ e0 Fk0 k117 (H 18 rfl) (v := q0) (by decide) rfl
 obtain ⟨T119, h119, Ls119, t10, t11, ix1, X119, e119, N119, Zq119, F154, F155, kq119⟩ : ∃ (T119 : State) (h119 : Heap) (Ls119 : List Loc) (t10 : Int32) (t11 : Int32) (ix1 : Int32), Stand p l e (rm 0 0 0 0) s m #[(.ref a1), zI, (.int (2 : Int32))] below meth c T119 Ls119 0 0 ∧ T119.heap = h119 ∧ Fr n0 Ls119 ∧ n0 ≤ h119.size ∧ Arv Z h119 a1 k1 .int (2 : Int32) [(.int t10), (.int t11)] zI ∧ Keep h0 h119 [a1] ∧ (Rt p e below T119 (mkF m 3 #[sr a1, si 0, si 2, si ix1, si 1, si q1] []) s₁ m #[(.ref a1), zI, (.int (2 : Int32))] 6) := by
  by_cases qz : q1 < q0
  · have k120 := f_icN X0 hx k118 (H 19 rfl) (tlt qz).2.1
    have k121 := f_inc X0 hx k120 (H 20 rfl) rfl (l' := #[sr a1, si 0, si 2, si 0, si 1, si q1]) rfl
    have k122 := f_ilN X0 hx k121 (H 21 rfl) rfl
    have k123 := f_ilN X0 hx k122 (H 22 rfl) rfl
    have k124 := f_icN X0 hx k123 (H 23 rfl) (flt (by decide)).1
    have k125 := f_il X0 hx k124 (H 24 rfl) rfl
    have k126 := f_alN X0 hx k125 (H 25 rfl) rfl
    have k127 := f_ilN X0 hx k126 (H 26 rfl) rfl
    have k128 := f_ial X0 hx hZ e0 Fk0 k127 (H 27 rfl) (v := q0) (by decide) rfl
    have k129 := f_icN X0 hx k128 (H 28 rfl) (tlt qz).2.1
    have k130 := f_alN X0 hx k129 (H 29 rfl) rfl
    have k131 := f_ilN X0 hx k130 (H 30 rfl) rfl
    have k132 := f_ic X0 hx k131 (H 31 rfl) (v := 1) rfl
    have k133 := f_iadd X0 hx k132 (H 32 rfl) (r := 1) (by decide)
    have k134 := f_alN X0 hx k133 (H 33 rfl) rfl
    have k135 := f_ilN X0 hx k134 (H 34 rfl) rfl
    have k136 := f_ial X0 hx hZ e0 Fk0 k135 (H 35 rfl) (v := q0) (by decide) rfl
    obtain ⟨T137, h137, L137, X137, e137, W137, V137, N137, Z137, k137⟩ := f_ist X0 hx hZ e0 Fk0 N0 ge_a1 Z0 k136 (H 36 rfl) (by decide) 1 rfl (lt_b rfl)
    have K138 := kw K0 W137 0 rfl
    have k139 := f_go X137 hx k137 (H 37 rfl) (pc' := 30) (by decide)
    have k140 := f_inc X137 hx k139 (H 20 rfl) rfl (l' := #[sr a1, si 0, si 2, si (-1), si 1, si q1]) rfl
    have k141 := f_ilN X137 hx k140 (H 21 rfl) rfl
    have k142 := f_ilN X137 hx k141 (H 22 rfl) rfl
    have k143 := f_icY X137 hx k142 (H 23 rfl) (pc' := 57) (tlt (by decide)).1 (by decide)
    have k144 := f_alN X137 hx k143 (H 38 rfl) rfl
    have k145 := f_ilN X137 hx k144 (H 39 rfl) rfl
    have k146 := f_ic X137 hx k145 (H 40 rfl) (v := 1) rfl
    have k147 := f_iadd X137 hx k146 (H 41 rfl) (r := 0) (by decide)
    have k148 := f_il X137 hx k147 (H 42 rfl) rfl
    obtain ⟨T149, h149, L149, X149, e149, W149, V149, N149, Z149, k149⟩ := f_ist X137 hx hZ e137 V137 N137 ge_a1 Z137 k148 (H 43 rfl) (by decide) 0 rfl (lt_b rfl)
    have K150 := kw K138 W149 0 rfl
    have k151 := f_go X149 hx k149 (H 44 rfl) (pc' := 3) (by decide)
    exact ⟨T149, h149, _, q1, q0, (-1 : Int32), X149, e149, N149, Z149, V149, K150, k151⟩
  · have k152 := f_icY X0 hx k118 (H 19 rfl) (pc' := 64) (flt qz).2.1 (by decide)
    have k153 := f_go X0 hx k152 (H 44 rfl) (pc' := 3) (by decide)
    exact ⟨s₁, h0, _, q0, q1, (1 : Int32), X0, e0, N0, Z0, Fk0, K0, k153⟩
 have k156 := f_inc X119 hx kq119 (H 2 rfl) rfl (l' := #[sr a1, si 0, si 2, si ix1, si 2, si q1]) rfl
 have k157 := f_il X119 hx k156 (H 3 rfl) rfl
 have k158 := f_ilN X119 hx k157 (H 4 rfl) rfl
 have k159 := f_icY X119 hx k158 (H 5 rfl) (pc' := 67) (flt (by decide)).2.1 (by decide)
 exact fin_v X119 hx hrt hlk k159 (H 6 rfl) (by rw [e119]; exact ⟨t10, t11, rfl, N119, F155, F154⟩) (by decide) (by decide)
def Q_dps2 (Z : State) (a1 : Addr) (k1 : ClassId) (q0 q1 : Int32) (h0 : Heap) (n0 : Nat) (v : Option Value) (h : Heap) (L : List Loc) : Prop := ∃ (r0 : Int32) (r1 : Int32), v = none ∧ Fr n0 L ∧ Keep h0 h [a1] ∧ Arv Z h a1 k1 .int (2 : Int32) [(.int r0), (.int r1)] zI
theorem dps2 (l : Launch) (Z : State) (a0 : Array Value) (hw : HW Z a0) (ws : List Jvm.Cond) (a1 : Addr) (k1 : ClassId) (q0 q1 : Int32) (h0 : Heap) (n0 : Nat) (Z0 : n0 ≤ h0.size) (Fk0 : Arv Z h0 a1 k1 .int (2 : Int32) [(.int q0), (.int q1)] zI) (ge_a1 : n0 ≤ a1) :
  Met l mn51 jdk_2529_method_4_code 21 none ws (rm 1 0 0 17) #[.null, (.ref a1), zI, zI, (.int (2 : Int32))] Z h0 (Q_dps2 Z a1 k1 q0 q1 h0 n0) := by
 refine Met.intro (plainFor_of_name pn_java_2futil_2fDualPivotQuicksort) ?_
 intro p e s m below meth c s₁ hx hby hml hZ hown hnm hrt hlk X0 e0
 have N0 := Fr.nil n0
 have hww := @hvw _ _ hw
 have k0 := k_e (p := p) (e := e) (below := below) (s := s₁) (ef_23_nRIII m a1 (0 : Int32) (0 : Int32) (2 : Int32))
 have K0 := Keep.refl h0 [a1]
 have H := @dch _ _ _ hby D23
 have k101 := f_il X0 hx k0 (H 0 rfl) rfl
 have k102 := f_ic X0 hx k101 (H 1 rfl) (v := 1) rfl
 have k103 := f_isub X0 hx k102 (H 2 rfl) (r := 1) (by decide)
 have k104 := f_is X0 hx k103 (H 3 rfl) (l' := #[.val .null, sr a1, si 0, si 0, si 2, si 1, un, un, un, un, un, un, un, un, un, un, un, un, un, un, un]) rfl
 have k105 := f_il X0 hx k104 (H 4 rfl) rfl
 have k106 := f_ilN X0 hx k105 (H 5 rfl) rfl
 have k107 := f_isub X0 hx k106 (H 6 rfl) (r := 2) (by decide)
 have k108 := f_is X0 hx k107 (H 7 rfl) (l' := #[.val .null, sr a1, si 0, si 0, si 2, si 1, si 2, un, un, un, un, un, un, un, un, un, un, un, un, un, un]) rfl
 have k109 := f_il X0 hx k108 (H 8 rfl) rfl
 have k110 := f_bp X0 hx k109 (H 9 rfl) (v := 65) rfl
 have k111 := f_ilN X0 hx k110 (H 10 rfl) rfl
 have k112 := f_iadd X0 hx k111 (H 11 rfl) (r := 65) (by decide)
 have k113 := f_icN X0 hx k112 (H 12 rfl) (tlt (by decide)).2.1
 have k114 := f_ilN X0 hx k113 (H 13 rfl) rfl
 have k115 := f_ic X0 hx k114 (H 14 rfl) (v := 1) rfl
 have k116 := f_iand X0 hx k115 (H 15 rfl) (r := 0) (by decide)
 have k117 := f_ifY X0 hx k116 (H 16 rfl) (pc' := 46) ((if0 _ _).trans (flt (by decide)).2.2.2) (by decide)
 have k118 := f_il X0 hx k117 (H 17 rfl) rfl
 have k119 := f_bp X0 hx k118 (H 18 rfl) (v := 44) rfl
 have k120 := f_icN X0 hx k119 (H 19 rfl) (tlt (by decide)).2.1
 have k121 := f_alN X0 hx k120 (H 20 rfl) rfl
 have k122 := f_ilN X0 hx k121 (H 21 rfl) rfl
 have k123 := f_il X0 hx k122 (H 22 rfl) rfl
 obtain ⟨_, T124, L124, X124, hQ124, k124⟩ := c_S (W := 0) X0 hx hZ hown (hww 190 rfl) (hww 191 rfl) (hww 185 rfl) (hww 192 rfl) (by decide) (ins2 l Z a0 hw [] a1 k1 q0 q1 h0 n0 Z0 Fk0 ge_a1) e0 (argsL := [(.ref a1), zI, (.int (2 : Int32))]) (rest := []) rfl (by rw [hml]; rfl) k123 rfl (H 23 rfl) (lenOf pd__28_5bIII_29V rfl) (b5 rfl)
 obtain ⟨h124, e124⟩ : ∃ h', T124.heap = h' := ⟨_, rfl⟩
 rw [e124] at hQ124
 obtain ⟨r0124, r1124, rfl, N124q, K124, R124_0⟩ := hQ124
 have N125 := Fr.app N0 N124q
 have Z126 : n0 ≤ h124.size := Nat.le_trans Z0 K124.1
 have K127 := Keep.trans K0 K124 (allS (oL 0 rfl) all0)
 exact fin_v X124 hx hrt hlk k124 (H 24 rfl) (by rw [e124]; exact ⟨r0124, r1124, rfl, N125, K127, R124_0⟩) (by decide) (by decide)
def Q_dpq2 (Z : State) (a1 : Addr) (k1 : ClassId) (q0 q1 : Int32) (h0 : Heap) (n0 : Nat) (v : Option Value) (h : Heap) (L : List Loc) : Prop := ∃ (r0 : Int32) (r1 : Int32), v = none ∧ Fr n0 L ∧ Keep h0 h [a1] ∧ Arv Z h a1 k1 .int (2 : Int32) [(.int r0), (.int r1)] zI
theorem dpq2 (l : Launch) (Z : State) (a0 : Array Value) (hw : HW Z a0) (ws : List Jvm.Cond) (a1 : Addr) (k1 : ClassId) (q0 q1 : Int32) (h0 : Heap) (n0 : Nat) (Z0 : n0 ≤ h0.size) (Fk0 : Arv Z h0 a1 k1 .int (2 : Int32) [(.int q0), (.int q1)] zI) (ge_a1 : n0 ≤ a1) :
  Met l mn52 jdk_2529_method_3_code 7 none ws (rm 2 0 0 49) #[(.ref a1), zI, zI, (.int (2 : Int32))] Z h0 (Q_dpq2 Z a1 k1 q0 q1 h0 n0) := by
 refine Met.intro (plainFor_of_name pn_java_2futil_2fDualPivotQuicksort) ?_
 intro p e s m below meth c s₁ hx hby hml hZ hown hnm hrt hlk X0 e0
 have N0 := Fr.nil n0
 have hww := @hvw _ _ hw
 have k0 := k_e (p := p) (e := e) (below := below) (s := s₁) (ef_22_RIII m a1 (0 : Int32) (0 : Int32) (2 : Int32))
 have K0 := Keep.refl h0 [a1]
 have H := @dch _ _ _ hby D22
 have k101 := f_ilN X0 hx k0 (H 0 rfl) rfl
 have k102 := f_ilN X0 hx k101 (H 1 rfl) rfl
 have k103 := f_isub X0 hx k102 (H 2 rfl) (r := 2) (by decide)
 have k104 := f_is X0 hx k103 (H 3 rfl) (l' := #[sr a1, si 0, si 0, si 2, si 2, un, un]) rfl
 have k105 := f_ilN X0 hx k104 (H 4 rfl) rfl
 have k106 := f_ic X0 hx k105 (H 5 rfl) (v := 1) rfl
 have k107 := f_icY X0 hx k106 (H 6 rfl) (pc' := 68) (flt (by decide)).2.2.2 (by decide)
 have k108 := f_an X0 hx k107 (H 7 rfl)
 have k109 := f_alN X0 hx k108 (H 8 rfl) rfl
 have k110 := f_ic X0 hx k109 (H 9 rfl) (v := 0) rfl
 have k111 := f_ilN X0 hx k110 (H 10 rfl) rfl
 have k112 := f_ilN X0 hx k111 (H 11 rfl) rfl
 obtain ⟨_, T113, L113, X113, hQ113, k113⟩ := c_S (W := 0) X0 hx hZ hown (hww 187 rfl) (hww 188 rfl) (hww 185 rfl) (hww 189 rfl) (by decide) (dps2 l Z a0 hw [] a1 k1 q0 q1 h0 n0 Z0 Fk0 ge_a1) e0 (argsL := [.null, (.ref a1), zI, zI, (.int (2 : Int32))]) (rest := []) rfl (by rw [hml]; rfl) k112 rfl (H 12 rfl) (lenOf pd__28Ljava_2futil_2fDualPivotQuicksort_24Sorter_3b_5bIIII_29V rfl) (b5 rfl)
 obtain ⟨h113, e113⟩ : ∃ h', T113.heap = h' := ⟨_, rfl⟩
 rw [e113] at hQ113
 obtain ⟨r0113, r1113, rfl, N113q, K113, R113_0⟩ := hQ113
 have N114 := Fr.app N0 N113q
 have Z115 : n0 ≤ h113.size := Nat.le_trans Z0 K113.1
 have K116 := Keep.trans K0 K113 (allS (oL 0 rfl) all0)
 exact fin_v X113 hx hrt hlk k113 (H 13 rfl) (by rw [e113]; exact ⟨r0113, r1113, rfl, N114, K116, R113_0⟩) (by decide) (by decide)
def Q_srt2 (Z : State) (a1 : Addr) (k1 : ClassId) (q0 q1 : Int32) (h0 : Heap) (n0 : Nat) (v : Option Value) (h : Heap) (L : List Loc) : Prop := ∃ (r0 : Int32) (r1 : Int32), v = none ∧ Fr n0 L ∧ Keep h0 h [a1] ∧ Arv Z h a1 k1 .int (2 : Int32) [(.int r0), (.int r1)] zI
theorem srt2 (l : Launch) (Z : State) (a0 : Array Value) (hw : HW Z a0) (ws : List Jvm.Cond) (a1 : Addr) (k1 : ClassId) (q0 q1 : Int32) (h0 : Heap) (n0 : Nat) (Z0 : n0 ≤ h0.size) (Fk0 : Arv Z h0 a1 k1 .int (2 : Int32) [(.int q0), (.int q1)] zI) (ge_a1 : n0 ≤ a1) :
  Met l mn53 jdk_65_method_2_code 1 none ws (rm 3 0 0 67) #[(.ref a1)] Z h0 (Q_srt2 Z a1 k1 q0 q1 h0 n0) := by
 refine Met.intro (plainFor_of_name pn_java_2futil_2fArrays) ?_
 intro p e s m below meth c s₁ hx hby hml hZ hown hnm hrt hlk X0 e0
 have N0 := Fr.nil n0
 have hww := @hvw _ _ hw
 have k0 := k_e (p := p) (e := e) (below := below) (s := s₁) (ef_21_R m a1)
 have K0 := Keep.refl h0 [a1]
 have H := @dch _ _ _ hby D21
 have k101 := f_alN X0 hx k0 (H 0 rfl) rfl
 have k102 := f_ic X0 hx k101 (H 1 rfl) (v := 0) rfl
 have k103 := f_ic X0 hx k102 (H 2 rfl) (v := 0) rfl
 have k104 := f_alN X0 hx k103 (H 3 rfl) rfl
 have k105 := f_len X0 hx hZ e0 Fk0 k104 (H 4 rfl)
 obtain ⟨_, T106, L106, X106, hQ106, k106⟩ := c_S (W := 0) X0 hx hZ hown (hww 183 rfl) (hww 184 rfl) (hww 185 rfl) (hww 186 rfl) (by decide) (dpq2 l Z a0 hw [] a1 k1 q0 q1 h0 n0 Z0 Fk0 ge_a1) e0 (argsL := [(.ref a1), zI, zI, (.int (2 : Int32))]) (rest := []) rfl (by rw [hml]; rfl) k105 rfl (H 5 rfl) (lenOf pd__28_5bIIII_29V rfl) (b5 rfl)
 obtain ⟨h106, e106⟩ : ∃ h', T106.heap = h' := ⟨_, rfl⟩
 rw [e106] at hQ106
 obtain ⟨r0106, r1106, rfl, N106q, K106, R106_0⟩ := hQ106
 have N107 := Fr.app N0 N106q
 have Z108 : n0 ≤ h106.size := Nat.le_trans Z0 K106.1
 have K109 := Keep.trans K0 K106 (allS (oL 0 rfl) all0)
 exact fin_v X106 hx hrt hlk k106 (H 6 rfl) (by rw [e106]; exact ⟨r0106, r1106, rfl, N107, K109, R106_0⟩) (by decide) (by decide)
def Q_ins3 (Z : State) (a1 : Addr) (k1 : ClassId) (q0 q1 q2 : Int32) (h0 : Heap) (n0 : Nat) (v : Option Value) (h : Heap) (L : List Loc) : Prop := ∃ (r0 : Int32) (r1 : Int32) (r2 : Int32), v = none ∧ Fr n0 L ∧ Keep h0 h [a1] ∧ Arv Z h a1 k1 .int (3 : Int32) [(.int r0), (.int r1), (.int r2)] zI
theorem ins3 (l : Launch) (Z : State) (a0 : Array Value) (hw : HW Z a0) (ws : List Jvm.Cond) (a1 : Addr) (k1 : ClassId) (q0 q1 q2 : Int32) (h0 : Heap) (n0 : Nat) (Z0 : n0 ≤ h0.size) (Fk0 : Arv Z h0 a1 k1 .int (3 : Int32) [(.int q0), (.int q1), (.int q2)] zI) (ge_a1 : n0 ≤ a1) :
  Met l mn50 jdk_2529_method_6_code 6 none ws (rm 0 0 0 0) #[(.ref a1), zI, (.int (3 : Int32))] Z h0 (Q_ins3 Z a1 k1 q0 q1 q2 h0 n0) := by
 refine Met.intro (plainFor_of_name pn_java_2futil_2fDualPivotQuicksort) ?_
 intro p e s m below meth c s₁ hx hby hml hZ hown hnm hrt hlk X0 e0
 have N0 := Fr.nil n0
 have hww := @hvw _ _ hw
 have k0 := k_e (p := p) (e := e) (below := below) (s := s₁) (ef_24_RII m a1 (0 : Int32) (3 : Int32))
 have K0 := Keep.refl h0 [a1]
 have H := @dch _ _ _ hby D24
 have k101 := f_ilN X0 hx k0 (H 0 rfl) rfl
 have k102 := f_is X0 hx k101 (H 1 rfl) (l' := #[sr a1, si 0, si 3, un, si 0, un]) rfl
 have k103 := f_inc X0 hx k102 (H 2 rfl) rfl (l' := #[sr a1, si 0, si 3, un, si 1, un]) rfl
 have k104 := f_il X0 hx k103 (H 3 rfl) rfl
 have k105 := f_ilN X0 hx k104 (H 4 rfl) rfl
 have k106 := f_icN X0 hx k105 (H 5 rfl) (tlt (by decide)).2.1
 have k107 := f_alN X0 hx k106 (H 7 rfl) rfl
 have k108 := f_il X0 hx k107 (H 8 rfl) rfl
 have k109 := f_dup X0 hx k108 (H 9 rfl) rfl
 have k110 := f_isN X0 hx k109 (H 10 rfl) (l' := #[sr a1, si 0, si 3, si 1, si 1, un]) rfl
 have k111 := f_ial X0 hx hZ e0 Fk0 k110 (H 11 rfl) (v := q1) (by decide) rfl
 have k112 := f_is X0 hx k111 (H 12 rfl) (l' := #[sr a1, si 0, si 3, si 1, si 1, si q1]) rfl
 have k113 := f_il X0 hx k112 (H 13 rfl) rfl
 have k114 := f_alN X0 hx k113 (H 14 rfl) rfl
 have k115 := f_ilN X0 hx k114 (H 15 rfl) rfl
 have k116 := f_ic X0 hx k115 (H 16 rfl) (v := 1) rfl
 have k117 := f_isub X0 hx k116 (H 17 rfl) (r := 0) (by decide)
 have k118 := f_ial X0 hx hZ e0 Fk0 k117 (H 18 rfl) (v := q0) (by decide) rfl
 obtain ⟨T119, h119, Ls119, t10, t11, ix1, X119, e119, N119, Zq119, F154, F155, kq119⟩ : ∃ (T119 : State) (h119 : Heap) (Ls119 : List Loc) (t10 : Int32) (t11 : Int32) (ix1 : Int32), Stand p l e (rm 0 0 0 0) s m #[(.ref a1), zI, (.int (3 : Int32))] below meth c T119 Ls119 0 0 ∧ T119.heap = h119 ∧ Fr n0 Ls119 ∧ n0 ≤ h119.size ∧ Arv Z h119 a1 k1 .int (3 : Int32) [(.int t10), (.int t11), (.int q2)] zI ∧ Keep h0 h119 [a1] ∧ (Rt p e below T119 (mkF m 3 #[sr a1, si 0, si 3, si ix1, si 1, si q1] []) s₁ m #[(.ref a1), zI, (.int (3 : Int32))] 6) := by
  by_cases qz : q1 < q0
  · have k120 := f_icN X0 hx k118 (H 19 rfl) (tlt qz).2.1
    have k121 := f_inc X0 hx k120 (H 20 rfl) rfl (l' := #[sr a1, si 0, si 3, si 0, si 1, si q1]) rfl
    have k122 := f_ilN X0 hx k121 (H 21 rfl) rfl
    have k123 := f_ilN X0 hx k122 (H 22 rfl) rfl
    have k124 := f_icN X0 hx k123 (H 23 rfl) (flt (by decide)).1
    have k125 := f_il X0 hx k124 (H 24 rfl) rfl
    have k126 := f_alN X0 hx k125 (H 25 rfl) rfl
    have k127 := f_ilN X0 hx k126 (H 26 rfl) rfl
    have k128 := f_ial X0 hx hZ e0 Fk0 k127 (H 27 rfl) (v := q0) (by decide) rfl
    have k129 := f_icN X0 hx k128 (H 28 rfl) (tlt qz).2.1
    have k130 := f_alN X0 hx k129 (H 29 rfl) rfl
    have k131 := f_ilN X0 hx k130 (H 30 rfl) rfl
    have k132 := f_ic X0 hx k131 (H 31 rfl) (v := 1) rfl
    have k133 := f_iadd X0 hx k132 (H 32 rfl) (r := 1) (by decide)
    have k134 := f_alN X0 hx k133 (H 33 rfl) rfl
    have k135 := f_ilN X0 hx k134 (H 34 rfl) rfl
    have k136 := f_ial X0 hx hZ e0 Fk0 k135 (H 35 rfl) (v := q0) (by decide) rfl
    obtain ⟨T137, h137, L137, X137, e137, W137, V137, N137, Z137, k137⟩ := f_ist X0 hx hZ e0 Fk0 N0 ge_a1 Z0 k136 (H 36 rfl) (by decide) 1 rfl (lt_b rfl)
    have K138 := kw K0 W137 0 rfl
    have k139 := f_go X137 hx k137 (H 37 rfl) (pc' := 30) (by decide)
    have k140 := f_inc X137 hx k139 (H 20 rfl) rfl (l' := #[sr a1, si 0, si 3, si (-1), si 1, si q1]) rfl
    have k141 := f_ilN X137 hx k140 (H 21 rfl) rfl
    have k142 := f_ilN X137 hx k141 (H 22 rfl) rfl
    have k143 := f_icY X137 hx k142 (H 23 rfl) (pc' := 57) (tlt (by decide)).1 (by decide)
    have k144 := f_alN X137 hx k143 (H 38 rfl) rfl
    have k145 := f_ilN X137 hx k144 (H 39 rfl) rfl
    have k146 := f_ic X137 hx k145 (H 40 rfl) (v := 1) rfl
    have k147 := f_iadd X137 hx k146 (H 41 rfl) (r := 0) (by decide)
    have k148 := f_il X137 hx k147 (H 42 rfl) rfl
    obtain ⟨T149, h149, L149, X149, e149, W149, V149, N149, Z149, k149⟩ := f_ist X137 hx hZ e137 V137 N137 ge_a1 Z137 k148 (H 43 rfl) (by decide) 0 rfl (lt_b rfl)
    have K150 := kw K138 W149 0 rfl
    have k151 := f_go X149 hx k149 (H 44 rfl) (pc' := 3) (by decide)
    exact ⟨T149, h149, _, q1, q0, (-1 : Int32), X149, e149, N149, Z149, V149, K150, k151⟩
  · have k152 := f_icY X0 hx k118 (H 19 rfl) (pc' := 64) (flt qz).2.1 (by decide)
    have k153 := f_go X0 hx k152 (H 44 rfl) (pc' := 3) (by decide)
    exact ⟨s₁, h0, _, q0, q1, (1 : Int32), X0, e0, N0, Z0, Fk0, K0, k153⟩
 have k156 := f_inc X119 hx kq119 (H 2 rfl) rfl (l' := #[sr a1, si 0, si 3, si ix1, si 2, si q1]) rfl
 have k157 := f_il X119 hx k156 (H 3 rfl) rfl
 have k158 := f_ilN X119 hx k157 (H 4 rfl) rfl
 have k159 := f_icN X119 hx k158 (H 5 rfl) (tlt (by decide)).2.1
 have k160 := f_alN X119 hx k159 (H 7 rfl) rfl
 have k161 := f_il X119 hx k160 (H 8 rfl) rfl
 have k162 := f_dup X119 hx k161 (H 9 rfl) rfl
 have k163 := f_isN X119 hx k162 (H 10 rfl) (l' := #[sr a1, si 0, si 3, si 2, si 2, si q1]) rfl
 have k164 := f_ial X119 hx hZ e119 F154 k163 (H 11 rfl) (v := q2) (by decide) rfl
 have k165 := f_is X119 hx k164 (H 12 rfl) (l' := #[sr a1, si 0, si 3, si 2, si 2, si q2]) rfl
 have k166 := f_il X119 hx k165 (H 13 rfl) rfl
 have k167 := f_alN X119 hx k166 (H 14 rfl) rfl
 have k168 := f_ilN X119 hx k167 (H 15 rfl) rfl
 have k169 := f_ic X119 hx k168 (H 16 rfl) (v := 1) rfl
 have k170 := f_isub X119 hx k169 (H 17 rfl) (r := 1) (by decide)
 have k171 := f_ial X119 hx hZ e119 F154 k170 (H 18 rfl) (v := t11) (by decide) rfl
 obtain ⟨T172, h172, Ls172, t20, t21, t22, ix2, X172, e172, N172, Zq172, F235, F236, kq172⟩ : ∃ (T172 : State) (h172 : Heap) (Ls172 : List Loc) (t20 : Int32) (t21 : Int32) (t22 : Int32) (ix2 : Int32), Stand p l e (rm 0 0 0 0) s m #[(.ref a1), zI, (.int (3 : Int32))] below meth c T172 Ls172 0 0 ∧ T172.heap = h172 ∧ Fr n0 Ls172 ∧ n0 ≤ h172.size ∧ Arv Z h172 a1 k1 .int (3 : Int32) [(.int t20), (.int t21), (.int t22)] zI ∧ Keep h0 h172 [a1] ∧ (Rt p e below T172 (mkF m 3 #[sr a1, si 0, si 3, si ix2, si 2, si q2] []) s₁ m #[(.ref a1), zI, (.int (3 : Int32))] 6) := by
  by_cases qz : q2 < t11
  · have k173 := f_icN X119 hx k171 (H 19 rfl) (tlt qz).2.1
    have k174 := f_inc X119 hx k173 (H 20 rfl) rfl (l' := #[sr a1, si 0, si 3, si 1, si 2, si q2]) rfl
    have k175 := f_ilN X119 hx k174 (H 21 rfl) rfl
    have k176 := f_ilN X119 hx k175 (H 22 rfl) rfl
    have k177 := f_icN X119 hx k176 (H 23 rfl) (flt (by decide)).1
    have k178 := f_il X119 hx k177 (H 24 rfl) rfl
    have k179 := f_alN X119 hx k178 (H 25 rfl) rfl
    have k180 := f_ilN X119 hx k179 (H 26 rfl) rfl
    have k181 := f_ial X119 hx hZ e119 F154 k180 (H 27 rfl) (v := t11) (by decide) rfl
    have k182 := f_icN X119 hx k181 (H 28 rfl) (tlt qz).2.1
    have k183 := f_alN X119 hx k182 (H 29 rfl) rfl
    have k184 := f_ilN X119 hx k183 (H 30 rfl) rfl
    have k185 := f_ic X119 hx k184 (H 31 rfl) (v := 1) rfl
    have k186 := f_iadd X119 hx k185 (H 32 rfl) (r := 2) (by decide)
    have k187 := f_alN X119 hx k186 (H 33 rfl) rfl
    have k188 := f_ilN X119 hx k187 (H 34 rfl) rfl
    have k189 := f_ial X119 hx hZ e119 F154 k188 (H 35 rfl) (v := t11) (by decide) rfl
    obtain ⟨T190, h190, L190, X190, e190, W190, V190, N190, Z190, k190⟩ := f_ist X119 hx hZ e119 F154 N119 ge_a1 Zq119 k189 (H 36 rfl) (by decide) 2 rfl (lt_b rfl)
    have K191 := kw F155 W190 0 rfl
    have k192 := f_go X190 hx k190 (H 37 rfl) (pc' := 30) (by decide)
    have k193 := f_inc X190 hx k192 (H 20 rfl) rfl (l' := #[sr a1, si 0, si 3, si 0, si 2, si q2]) rfl
    have k194 := f_ilN X190 hx k193 (H 21 rfl) rfl
    have k195 := f_ilN X190 hx k194 (H 22 rfl) rfl
    have k196 := f_icN X190 hx k195 (H 23 rfl) (flt (by decide)).1
    have k197 := f_il X190 hx k196 (H 24 rfl) rfl
    have k198 := f_alN X190 hx k197 (H 25 rfl) rfl
    have k199 := f_ilN X190 hx k198 (H 26 rfl) rfl
    have k200 := f_ial X190 hx hZ e190 V190 k199 (H 27 rfl) (v := t10) (by decide) rfl
    by_cases qi1 : q2 < t10
    · have k201 := f_icN X190 hx k200 (H 28 rfl) (tlt qi1).2.1
      have k202 := f_alN X190 hx k201 (H 29 rfl) rfl
      have k203 := f_ilN X190 hx k202 (H 30 rfl) rfl
      have k204 := f_ic X190 hx k203 (H 31 rfl) (v := 1) rfl
      have k205 := f_iadd X190 hx k204 (H 32 rfl) (r := 1) (by decide)
      have k206 := f_alN X190 hx k205 (H 33 rfl) rfl
      have k207 := f_ilN X190 hx k206 (H 34 rfl) rfl
      have k208 := f_ial X190 hx hZ e190 V190 k207 (H 35 rfl) (v := t10) (by decide) rfl
      obtain ⟨T209, h209, L209, X209, e209, W209, V209, N209, Z209, k209⟩ := f_ist X190 hx hZ e190 V190 N190 ge_a1 Z190 k208 (H 36 rfl) (by decide) 1 rfl (lt_b rfl)
      have K210 := kw K191 W209 0 rfl
      have k211 := f_go X209 hx k209 (H 37 rfl) (pc' := 30) (by decide)
      have k212 := f_inc X209 hx k211 (H 20 rfl) rfl (l' := #[sr a1, si 0, si 3, si (-1), si 2, si q2]) rfl
      have k213 := f_ilN X209 hx k212 (H 21 rfl) rfl
      have k214 := f_ilN X209 hx k213 (H 22 rfl) rfl
      have k215 := f_icY X209 hx k214 (H 23 rfl) (pc' := 57) (tlt (by decide)).1 (by decide)
      have k216 := f_alN X209 hx k215 (H 38 rfl) rfl
      have k217 := f_ilN X209 hx k216 (H 39 rfl) rfl
      have k218 := f_ic X209 hx k217 (H 40 rfl) (v := 1) rfl
      have k219 := f_iadd X209 hx k218 (H 41 rfl) (r := 0) (by decide)
      have k220 := f_il X209 hx k219 (H 42 rfl) rfl
      obtain ⟨T221, h221, L221, X221, e221, W221, V221, N221, Z221, k221⟩ := f_ist X209 hx hZ e209 V209 N209 ge_a1 Z209 k220 (H 43 rfl) (by decide) 0 rfl (lt_b rfl)
      have K222 := kw K210 W221 0 rfl
      have k223 := f_go X221 hx k221 (H 44 rfl) (pc' := 3) (by decide)
      exact ⟨T221, h221, _, q2, t10, t11, (-1 : Int32), X221, e221, N221, Z221, V221, K222, k223⟩
    · have k224 := f_icY X190 hx k200 (H 28 rfl) (pc' := 57) (flt qi1).2.1 (by decide)
      have k225 := f_alN X190 hx k224 (H 38 rfl) rfl
      have k226 := f_ilN X190 hx k225 (H 39 rfl) rfl
      have k227 := f_ic X190 hx k226 (H 40 rfl) (v := 1) rfl
      have k228 := f_iadd X190 hx k227 (H 41 rfl) (r := 1) (by decide)
      have k229 := f_il X190 hx k228 (H 42 rfl) rfl
      obtain ⟨T230, h230, L230, X230, e230, W230, V230, N230, Z230, k230⟩ := f_ist X190 hx hZ e190 V190 N190 ge_a1 Z190 k229 (H 43 rfl) (by decide) 1 rfl (lt_b rfl)
      have K231 := kw K191 W230 0 rfl
      have k232 := f_go X230 hx k230 (H 44 rfl) (pc' := 3) (by decide)
      exact ⟨T230, h230, _, t10, q2, t11, (0 : Int32), X230, e230, N230, Z230, V230, K231, k232⟩
  · have k233 := f_icY X119 hx k171 (H 19 rfl) (pc' := 64) (flt qz).2.1 (by decide)
    have k234 := f_go X119 hx k233 (H 44 rfl) (pc' := 3) (by decide)
    exact ⟨T119, h119, _, t10, t11, q2, (2 : Int32), X119, e119, N119, Zq119, F154, F155, k234⟩
 have k237 := f_inc X172 hx kq172 (H 2 rfl) rfl (l' := #[sr a1, si 0, si 3, si ix2, si 3, si q2]) rfl
 have k238 := f_il X172 hx k237 (H 3 rfl) rfl
 have k239 := f_ilN X172 hx k238 (H 4 rfl) rfl
 have k240 := f_icY X172 hx k239 (H 5 rfl) (pc' := 67) (flt (by decide)).2.1 (by decide)
 exact fin_v X172 hx hrt hlk k240 (H 6 rfl) (by rw [e172]; exact ⟨t20, t21, t22, rfl, N172, F236, F235⟩) (by decide) (by decide)
def Q_dps3 (Z : State) (a1 : Addr) (k1 : ClassId) (q0 q1 q2 : Int32) (h0 : Heap) (n0 : Nat) (v : Option Value) (h : Heap) (L : List Loc) : Prop := ∃ (r0 : Int32) (r1 : Int32) (r2 : Int32), v = none ∧ Fr n0 L ∧ Keep h0 h [a1] ∧ Arv Z h a1 k1 .int (3 : Int32) [(.int r0), (.int r1), (.int r2)] zI
theorem dps3 (l : Launch) (Z : State) (a0 : Array Value) (hw : HW Z a0) (ws : List Jvm.Cond) (a1 : Addr) (k1 : ClassId) (q0 q1 q2 : Int32) (h0 : Heap) (n0 : Nat) (Z0 : n0 ≤ h0.size) (Fk0 : Arv Z h0 a1 k1 .int (3 : Int32) [(.int q0), (.int q1), (.int q2)] zI) (ge_a1 : n0 ≤ a1) :
  Met l mn51 jdk_2529_method_4_code 21 none ws (rm 1 0 0 17) #[.null, (.ref a1), zI, zI, (.int (3 : Int32))] Z h0 (Q_dps3 Z a1 k1 q0 q1 q2 h0 n0) := by
 refine Met.intro (plainFor_of_name pn_java_2futil_2fDualPivotQuicksort) ?_
 intro p e s m below meth c s₁ hx hby hml hZ hown hnm hrt hlk X0 e0
 have N0 := Fr.nil n0
 have hww := @hvw _ _ hw
 have k0 := k_e (p := p) (e := e) (below := below) (s := s₁) (ef_23_nRIII m a1 (0 : Int32) (0 : Int32) (3 : Int32))
 have K0 := Keep.refl h0 [a1]
 have H := @dch _ _ _ hby D23
 have k101 := f_il X0 hx k0 (H 0 rfl) rfl
 have k102 := f_ic X0 hx k101 (H 1 rfl) (v := 1) rfl
 have k103 := f_isub X0 hx k102 (H 2 rfl) (r := 2) (by decide)
 have k104 := f_is X0 hx k103 (H 3 rfl) (l' := #[.val .null, sr a1, si 0, si 0, si 3, si 2, un, un, un, un, un, un, un, un, un, un, un, un, un, un, un]) rfl
 have k105 := f_il X0 hx k104 (H 4 rfl) rfl
 have k106 := f_ilN X0 hx k105 (H 5 rfl) rfl
 have k107 := f_isub X0 hx k106 (H 6 rfl) (r := 3) (by decide)
 have k108 := f_is X0 hx k107 (H 7 rfl) (l' := #[.val .null, sr a1, si 0, si 0, si 3, si 2, si 3, un, un, un, un, un, un, un, un, un, un, un, un, un, un]) rfl
 have k109 := f_il X0 hx k108 (H 8 rfl) rfl
 have k110 := f_bp X0 hx k109 (H 9 rfl) (v := 65) rfl
 have k111 := f_ilN X0 hx k110 (H 10 rfl) rfl
 have k112 := f_iadd X0 hx k111 (H 11 rfl) (r := 65) (by decide)
 have k113 := f_icN X0 hx k112 (H 12 rfl) (tlt (by decide)).2.1
 have k114 := f_ilN X0 hx k113 (H 13 rfl) rfl
 have k115 := f_ic X0 hx k114 (H 14 rfl) (v := 1) rfl
 have k116 := f_iand X0 hx k115 (H 15 rfl) (r := 0) (by decide)
 have k117 := f_ifY X0 hx k116 (H 16 rfl) (pc' := 46) ((if0 _ _).trans (flt (by decide)).2.2.2) (by decide)
 have k118 := f_il X0 hx k117 (H 17 rfl) rfl
 have k119 := f_bp X0 hx k118 (H 18 rfl) (v := 44) rfl
 have k120 := f_icN X0 hx k119 (H 19 rfl) (tlt (by decide)).2.1
 have k121 := f_alN X0 hx k120 (H 20 rfl) rfl
 have k122 := f_ilN X0 hx k121 (H 21 rfl) rfl
 have k123 := f_il X0 hx k122 (H 22 rfl) rfl
 obtain ⟨_, T124, L124, X124, hQ124, k124⟩ := c_S (W := 0) X0 hx hZ hown (hww 190 rfl) (hww 191 rfl) (hww 185 rfl) (hww 192 rfl) (by decide) (ins3 l Z a0 hw [] a1 k1 q0 q1 q2 h0 n0 Z0 Fk0 ge_a1) e0 (argsL := [(.ref a1), zI, (.int (3 : Int32))]) (rest := []) rfl (by rw [hml]; rfl) k123 rfl (H 23 rfl) (lenOf pd__28_5bIII_29V rfl) (b5 rfl)
 obtain ⟨h124, e124⟩ : ∃ h', T124.heap = h' := ⟨_, rfl⟩
 rw [e124] at hQ124
 obtain ⟨r0124, r1124, r2124, rfl, N124q, K124, R124_0⟩ := hQ124
 have N125 := Fr.app N0 N124q
 have Z126 : n0 ≤ h124.size := Nat.le_trans Z0 K124.1
 have K127 := Keep.trans K0 K124 (allS (oL 0 rfl) all0)
 exact fin_v X124 hx hrt hlk k124 (H 24 rfl) (by rw [e124]; exact ⟨r0124, r1124, r2124, rfl, N125, K127, R124_0⟩) (by decide) (by decide)
def Q_dpq3 (Z : State) (a1 : Addr) (k1 : ClassId) (q0 q1 q2 : Int32) (h0 : Heap) (n0 : Nat) (v : Option Value) (h : Heap) (L : List Loc) : Prop := ∃ (r0 : Int32) (r1 : Int32) (r2 : Int32), v = none ∧ Fr n0 L ∧ Keep h0 h [a1] ∧ Arv Z h a1 k1 .int (3 : Int32) [(.int r0), (.int r1), (.int r2)] zI
theorem dpq3 (l : Launch) (Z : State) (a0 : Array Value) (hw : HW Z a0) (ws : List Jvm.Cond) (a1 : Addr) (k1 : ClassId) (q0 q1 q2 : Int32) (h0 : Heap) (n0 : Nat) (Z0 : n0 ≤ h0.size) (Fk0 : Arv Z h0 a1 k1 .int (3 : Int32) [(.int q0), (.int q1), (.int q2)] zI) (ge_a1 : n0 ≤ a1) :
  Met l mn52 jdk_2529_method_3_code 7 none ws (rm 2 0 0 49) #[(.ref a1), zI, zI, (.int (3 : Int32))] Z h0 (Q_dpq3 Z a1 k1 q0 q1 q2 h0 n0) := by
 refine Met.intro (plainFor_of_name pn_java_2futil_2fDualPivotQuicksort) ?_
 intro p e s m below meth c s₁ hx hby hml hZ hown hnm hrt hlk X0 e0
 have N0 := Fr.nil n0
 have hww := @hvw _ _ hw
 have k0 := k_e (p := p) (e := e) (below := below) (s := s₁) (ef_22_RIII m a1 (0 : Int32) (0 : Int32) (3 : Int32))
 have K0 := Keep.refl h0 [a1]
 have H := @dch _ _ _ hby D22
 have k101 := f_ilN X0 hx k0 (H 0 rfl) rfl
 have k102 := f_ilN X0 hx k101 (H 1 rfl) rfl
 have k103 := f_isub X0 hx k102 (H 2 rfl) (r := 3) (by decide)
 have k104 := f_is X0 hx k103 (H 3 rfl) (l' := #[sr a1, si 0, si 0, si 3, si 3, un, un]) rfl
 have k105 := f_ilN X0 hx k104 (H 4 rfl) rfl
 have k106 := f_ic X0 hx k105 (H 5 rfl) (v := 1) rfl
 have k107 := f_icY X0 hx k106 (H 6 rfl) (pc' := 68) (flt (by decide)).2.2.2 (by decide)
 have k108 := f_an X0 hx k107 (H 7 rfl)
 have k109 := f_alN X0 hx k108 (H 8 rfl) rfl
 have k110 := f_ic X0 hx k109 (H 9 rfl) (v := 0) rfl
 have k111 := f_ilN X0 hx k110 (H 10 rfl) rfl
 have k112 := f_ilN X0 hx k111 (H 11 rfl) rfl
 obtain ⟨_, T113, L113, X113, hQ113, k113⟩ := c_S (W := 0) X0 hx hZ hown (hww 187 rfl) (hww 188 rfl) (hww 185 rfl) (hww 189 rfl) (by decide) (dps3 l Z a0 hw [] a1 k1 q0 q1 q2 h0 n0 Z0 Fk0 ge_a1) e0 (argsL := [.null, (.ref a1), zI, zI, (.int (3 : Int32))]) (rest := []) rfl (by rw [hml]; rfl) k112 rfl (H 12 rfl) (lenOf pd__28Ljava_2futil_2fDualPivotQuicksort_24Sorter_3b_5bIIII_29V rfl) (b5 rfl)
 obtain ⟨h113, e113⟩ : ∃ h', T113.heap = h' := ⟨_, rfl⟩
 rw [e113] at hQ113
 obtain ⟨r0113, r1113, r2113, rfl, N113q, K113, R113_0⟩ := hQ113
 have N114 := Fr.app N0 N113q
 have Z115 : n0 ≤ h113.size := Nat.le_trans Z0 K113.1
 have K116 := Keep.trans K0 K113 (allS (oL 0 rfl) all0)
 exact fin_v X113 hx hrt hlk k113 (H 13 rfl) (by rw [e113]; exact ⟨r0113, r1113, r2113, rfl, N114, K116, R113_0⟩) (by decide) (by decide)
def Q_srt3 (Z : State) (a1 : Addr) (k1 : ClassId) (q0 q1 q2 : Int32) (h0 : Heap) (n0 : Nat) (v : Option Value) (h : Heap) (L : List Loc) : Prop := ∃ (r0 : Int32) (r1 : Int32) (r2 : Int32), v = none ∧ Fr n0 L ∧ Keep h0 h [a1] ∧ Arv Z h a1 k1 .int (3 : Int32) [(.int r0), (.int r1), (.int r2)] zI
theorem srt3 (l : Launch) (Z : State) (a0 : Array Value) (hw : HW Z a0) (ws : List Jvm.Cond) (a1 : Addr) (k1 : ClassId) (q0 q1 q2 : Int32) (h0 : Heap) (n0 : Nat) (Z0 : n0 ≤ h0.size) (Fk0 : Arv Z h0 a1 k1 .int (3 : Int32) [(.int q0), (.int q1), (.int q2)] zI) (ge_a1 : n0 ≤ a1) :
  Met l mn53 jdk_65_method_2_code 1 none ws (rm 3 0 0 67) #[(.ref a1)] Z h0 (Q_srt3 Z a1 k1 q0 q1 q2 h0 n0) := by
 refine Met.intro (plainFor_of_name pn_java_2futil_2fArrays) ?_
 intro p e s m below meth c s₁ hx hby hml hZ hown hnm hrt hlk X0 e0
 have N0 := Fr.nil n0
 have hww := @hvw _ _ hw
 have k0 := k_e (p := p) (e := e) (below := below) (s := s₁) (ef_21_R m a1)
 have K0 := Keep.refl h0 [a1]
 have H := @dch _ _ _ hby D21
 have k101 := f_alN X0 hx k0 (H 0 rfl) rfl
 have k102 := f_ic X0 hx k101 (H 1 rfl) (v := 0) rfl
 have k103 := f_ic X0 hx k102 (H 2 rfl) (v := 0) rfl
 have k104 := f_alN X0 hx k103 (H 3 rfl) rfl
 have k105 := f_len X0 hx hZ e0 Fk0 k104 (H 4 rfl)
 obtain ⟨_, T106, L106, X106, hQ106, k106⟩ := c_S (W := 0) X0 hx hZ hown (hww 183 rfl) (hww 184 rfl) (hww 185 rfl) (hww 186 rfl) (by decide) (dpq3 l Z a0 hw [] a1 k1 q0 q1 q2 h0 n0 Z0 Fk0 ge_a1) e0 (argsL := [(.ref a1), zI, zI, (.int (3 : Int32))]) (rest := []) rfl (by rw [hml]; rfl) k105 rfl (H 5 rfl) (lenOf pd__28_5bIIII_29V rfl) (b5 rfl)
 obtain ⟨h106, e106⟩ : ∃ h', T106.heap = h' := ⟨_, rfl⟩
 rw [e106] at hQ106
 obtain ⟨r0106, r1106, r2106, rfl, N106q, K106, R106_0⟩ := hQ106
 have N107 := Fr.app N0 N106q
 have Z108 : n0 ≤ h106.size := Nat.le_trans Z0 K106.1
 have K109 := Keep.trans K0 K106 (allS (oL 0 rfl) all0)
 exact fin_v X106 hx hrt hlk k106 (H 6 rfl) (by rw [e106]; exact ⟨r0106, r1106, r2106, rfl, N107, K109, R106_0⟩) (by decide) (by decide)
theorem ef_20_RI (m : MethodId) (x0 : Addr) (x1 : Int32) : entryFrame m #[(.ref x0), (.int x1)] 3 = mkF m 0 #[.val (.ref x0), .val (.int x1), .unset] [] := by first | (simp [entryFrame, mkF, argsToLocals, Value.category]; done) | rfl
def Q_cpg (Z : State) (a1 : Addr) (k1 : ClassId) (sx cn q0 q1 q2 : Int32) (h0 : Heap) (n0 : Nat) (v : Option Value) (h : Heap) (L : List Loc) : Prop := ∃ (b : Addr) (kb : ClassId) (r0 : Int32) (r1 : Int32) (r2 : Int32), v = some (.ref b) ∧ Fr n0 L ∧ Keep h0 h [] ∧ h0.size ≤ b ∧ Arv Z h b kb .int cn [(.int r0), (.int r1), (.int r2)] zI
theorem cpg (l : Launch) (Z : State) (a0 : Array Value) (hw : HW Z a0) (ws : List Jvm.Cond) (a1 : Addr) (k1 : ClassId) (sx cn q0 q1 q2 : Int32) (h0 : Heap) (n0 : Nat) (Z0 : n0 ≤ h0.size) (Fk0 : Arv Z h0 a1 k1 .int sx [(.int q0), (.int q1), (.int q2)] zI) (Fk1 : Exa Z h0 a1 "[I") (hc0 : ¬ (cn < (0 : Int32))) (hcs : cn.toNatClampNeg ≤ sx.toNatClampNeg) (hs3 : sx.toNatClampNeg ≤ 3) (hle : ¬ (sx < cn)) :
  Met l mn54 jdk_65_method_123_code 3 (some (.array .int)) ws (rm 1 1 3 18) #[(.ref a1), (.int cn)] Z h0 (Q_cpg Z a1 k1 sx cn q0 q1 q2 h0 n0) := by
 refine Met.intro (plainFor_of_name pn_java_2futil_2fArrays) ?_
 intro p e s m below meth c s₁ hx hby hml hZ hown hnm hrt hlk X0 e0
 have N0 := Fr.nil n0
 have hww := @hvw _ _ hw
 have k0 := k_e (p := p) (e := e) (below := below) (s := s₁) (ef_20_RI m a1 cn)
 have K0 : Keep h0 h0 [] := Keep.refl h0 []
 have H := @dch _ _ _ hby D20
 have k101 := f_ilN X0 hx k0 (H 0 rfl) rfl
 have k102 := f_alN X0 hx k101 (H 1 rfl) rfl
 have k103 := f_len X0 hx hZ e0 Fk0 k102 (H 2 rfl)
 by_cases qe : cn = sx
 · have k104 := f_icN X0 hx k103 (H 3 rfl) (teq qe).2
   have k105 := f_alN X0 hx k104 (H 4 rfl) rfl
   obtain ⟨T106, h106, X106, e106, E106, A106, Y106, st106⟩ := f_cln X0 hx hZ hown (hww 171 rfl) (hww 172 rfl) (hww 176 rfl) (hww 174 rfl) (hww 175 rfl) (hww 177 rfl) e0 Fk0 Fk1 (g := (mkF m 7 #[sr a1, si cn, un] [vR a1])) rfl (by rw [hml]; rfl) (rest := []) rfl (H 5 rfl) (by decide) (W := 0) (by show 2 * 0 + _ ≤ _; exact Nat.le_of_eq rfl) (by decide) (cap := 3) hs3 (by decide) (by decide)
   obtain ⟨b106, g106⟩ : ∃ z, z = h0.size := ⟨_, rfl⟩
   rw [← g106] at A106 Y106 st106
   have g107 : n0 ≤ b106 := Nat.le_trans Z0 (Nat.le_of_eq g106.symm)
   have z108 : h0.size ≤ b106 := Nat.le_trans K0.1 (Nat.le_of_eq g106.symm)
   have Z109 : n0 ≤ h106.size := Nat.le_trans Z0 E106.1
   have K110 := K0.ext E106
   have k111 : Rt p e below T106 (mkF m 10 #[sr a1, si cn, un] [vR b106]) s₁ m #[(.ref a1), (.int cn)] 3 := fun t k => k105 t (st106 t k)
   obtain ⟨T112, X112, e112, st112⟩ := castY X106 hx hZ hown (hww 178 rfl) e106 (Ins.self Y106) (g := (mkF m 10 #[sr a1, si cn, un] [vR b106])) rfl rfl (H 6 rfl)
   have k113 : Rt p e below T112 (mkF m 13 #[sr a1, si cn, un] [vR b106]) s₁ m #[(.ref a1), (.int cn)] 3 := fun t k => k111 t (st112 t k)
   obtain ⟨r0, r1, r2, Vr⟩ := own_ex3 A106 hs3
   rw [← qe] at Vr
   exact fin_r X112 hx (w := (.ref b106)) hrt hlk rfl (Or.inr (Or.inr (Or.inr (Or.inr ⟨rfl, rfl, rfl⟩)))) k113 (H 7 rfl) (by rw [e112]; exact ⟨b106, k1, r0, r1, r2, rfl, N0, K110, z108, Vr⟩) (by decide) (by decide)
 · have k114 := f_icY X0 hx k103 (H 3 rfl) (pc' := 14) (feq qe).2 (by decide)
   have k115 := f_ilN X0 hx k114 (H 8 rfl) rfl
   obtain ⟨T116, h116, k116, X116, e116, E116, A116, st116⟩ := newP X0 hx hZ (hww 85 rfl) e0 (g := (mkF m 15 #[sr a1, si cn, un] [vI cn])) rfl (H 9 rfl) rfl hc0 (cap := 3) (Nat.le_trans hcs hs3) (by decide) (by decide) (by decide)
   obtain ⟨b116, g116⟩ : ∃ z, z = h0.size := ⟨_, rfl⟩
   rw [← g116] at A116 st116
   have g117 : n0 ≤ b116 := Nat.le_trans Z0 (Nat.le_of_eq g116.symm)
   have z118 : h0.size ≤ b116 := Nat.le_trans K0.1 (Nat.le_of_eq g116.symm)
   have Z119 : n0 ≤ h116.size := Nat.le_trans Z0 E116.1
   have K120 := K0.ext E116
   have V121 : Arv Z h116 b116 k116 .int cn [] zI := Arv.new A116 hc0
   have k122 : Rt p e below T116 (mkF m 17 #[sr a1, si cn, un] [vR b116]) s₁ m #[(.ref a1), (.int cn)] 3 := fun t k => k115 t (st116 t k)
   have V123 : Arv Z h116 b116 k116 .int cn [zI, zI, zI] zI := V121.pad (pad_rep [] zI 3)
   have k124 := f_asN X116 hx k122 (H 10 rfl) (l' := #[sr a1, si cn, sr b116]) rfl
   have k125 := f_alN X116 hx k124 (H 11 rfl) rfl
   have k126 := f_ic X116 hx k125 (H 12 rfl) (v := 0) rfl
   have k127 := f_alN X116 hx k126 (H 13 rfl) rfl
   have k128 := f_ic X116 hx k127 (H 14 rfl) (v := 0) rfl
   have k129 := f_alN X116 hx k128 (H 15 rfl) rfl
   have k130 := f_len X116 hx hZ e116 (Fk0.keep K120 nin0) k129 (H 16 rfl)
   have k131 := f_ilN X116 hx k130 (H 17 rfl) rfl
   obtain ⟨_, T132, L132, X132, hQ132, k132⟩ := c_S (W := 4) X116 hx hZ hown (hww 401 rfl) (hww 402 rfl) (hww 235 rfl) (hww 403 rfl) (by decide) (mmin l Z a0 hw [] sx cn h116 n0 Z119 hle) e116 (argsL := [(.int sx), (.int cn)]) (rest := [zI, (.ref b116), zI, (.ref a1)]) rfl (by rw [hml]; rfl) k131 rfl (H 18 rfl) (lenOf pd__28II_29I rfl) (b5 rfl)
   obtain ⟨h132, e132⟩ : ∃ h', T132.heap = h' := ⟨_, rfl⟩
   rw [e132] at hQ132
   obtain ⟨j132, rfl, N132q, hh132, P132_0⟩ := hQ132
   have N133 := Fr.app N0 N132q
   have ee132 : T132.heap = h116 := e132.trans hh132
   have k134 : Rt p e below T132 (mkF m 28 #[sr a1, si cn, sr b116] [vI cn, vI 0, vR b116, vI 0, vR a1]) s₁ m #[(.ref a1), (.int cn)] 3 := fun t q => k132 t (castTop (by rw [show j132 = cn from (P132_0.trans (if_pos (own_ltn hle qe)))] <;> rfl) q)
   obtain ⟨T135, h135, Lc135, X135, e135, N135, K135, Vc135, st135⟩ := cpA X132 hx hZ hown (hww 404 rfl) (hww 407 rfl) (hww 405 rfl) (hww 406 rfl) ee132 (Fk0.keep K120 nin0) V123 (Or.inl ⟨rfl, rfl⟩) (sp := (0 : Int32)) (dp := (0 : Int32)) (nn := cn) (by decide) (by decide) hc0 (own_le0 hcs) (own_le0 (Nat.le_refl _)) rfl (own_le0 (Nat.le_trans hcs hs3)) N133 g117 (g := (mkF m 28 #[sr a1, si cn, sr b116] [vI cn, vI 0, vR b116, vI 0, vR a1])) rfl (by rw [hml]; rfl) rfl (H 19 rfl) (by decide) (W := 0) (by show 2 * 0 + _ ≤ _; exact Nat.le_of_eq rfl) (by decide)
   have Z136 : n0 ≤ h135.size := Nat.le_trans Z119 K135.1
   have K137 := Keep.trans K120 K135 (allS (Or.inr z118) all0)
   have k138 : Rt p e below T135 (mkF m 31 #[sr a1, si cn, sr b116] []) s₁ m #[(.ref a1), (.int cn)] 3 := fun t k => k134 t (st135 t k)
   obtain ⟨r0, r1, r2, Vr⟩ := own_ex3 Vc135 (Nat.le_trans hcs hs3)
   have k139 := f_alN X135 hx k138 (H 20 rfl) rfl
   exact fin_r X135 hx (w := (.ref b116)) hrt hlk rfl (Or.inr (Or.inr (Or.inr (Or.inr ⟨rfl, rfl, rfl⟩)))) k139 (H 21 rfl) (by rw [e135]; exact ⟨b116, k116, r0, r1, r2, rfl, N135, K137, z118, Vr⟩) (by decide) (by decide)
theorem ef_25_R (m : MethodId) (x0 : Addr) : entryFrame m #[(.ref x0)] 4 = mkF m 0 #[.val (.ref x0), .unset, .unset, .unset] [] := by first | (simp [entryFrame, mkF, argsToLocals, Value.category]; done) | rfl
def Q_rcp (Z : State) (a1 : Addr) (nn : Int32) (bg : Addr) (kg : ClassId) (g0 g1 g2 : Int32) (iv_ : Value) (h0 : Heap) (n0 : Nat) (v : Option Value) (h : Heap) (L : List Loc) : Prop := ∃ u : UInt64, v = some (.double u) ∧ Fr n0 L ∧ h = h0 ∧ u = own_rr (decide ((0 : Int32) < nn ∧ (0 : Int32) < g0)) (decide ((1 : Int32) < nn ∧ (0 : Int32) < g1)) (decide ((2 : Int32) < nn ∧ (0 : Int32) < g2))
theorem rcp (l : Launch) (Z : State) (a0 : Array Value) (hw : HW Z a0) (ws : List Jvm.Cond) (a1 : Addr) (nn : Int32) (bg : Addr) (kg : ClassId) (g0 g1 g2 : Int32) (iv_ : Value) (h0 : Heap) (n0 : Nat) (Z0 : n0 ≤ h0.size) (Fk0 : OBJ Z h0 a1 "com/example/multinomial/multinomial/eval/JudgedRanking" lyJR [(.ref bg), iv_]) (Fk1 : Arv Z h0 bg kg .int nn [(.int g0), (.int g1), (.int g2)] zI) (hn3 : nn = (0 : Int32) ∨ nn = (1 : Int32) ∨ nn = (2 : Int32) ∨ nn = (3 : Int32)) :
  Met l mn55 prog_10_method_7_code 4 (some .double) ws (rm 0 0 0 0) #[(.ref a1)] Z h0 (Q_rcp Z a1 nn bg kg g0 g1 g2 iv_ h0 n0) := by
 refine Met.intro (plainFor_of_name pn_com_2fexample_2fmultinomial_2fmultinomial_2feval_2fJudgedRanking) ?_
 intro p e s m below meth c s₁ hx hby hml hZ hown hnm hrt hlk X0 e0
 have N0 := Fr.nil n0
 have hww := @hvw _ _ hw
 have k0 := k_e (p := p) (e := e) (below := below) (s := s₁) (ef_25_R m a1)
 have H := @dch _ _ _ hby D25
 have k101 := f_d0 X0 hx k0 (H 0 rfl)
 have k102 := f_dsN X0 hx k101 (H 1 rfl) (l' := #[sr a1, sd 0, se, un]) rfl
 have k103 := f_ic X0 hx k102 (H 2 rfl) (v := 0) rfl
 have k104 := f_isN X0 hx k103 (H 3 rfl) (l' := #[sr a1, sd 0, se, si 0]) rfl
 have k105 := f_ilN X0 hx k104 (H 4 rfl) rfl
 have k106 := f_alN X0 hx k105 (H 5 rfl) rfl
 obtain ⟨T107, X107, e107, k108⟩ := gFs X0 hx hZ hown (hww 86 rfl) e0 (Fk0.g 0 (v := (.ref bg)) (by decide) rfl rfl) k106 (H 6 rfl)
 have k109 := f_len X107 hx hZ e107 Fk1 k108 (H 7 rfl)
 by_cases l0 : (0 : Int32) < nn
 · have k110 := f_icN X107 hx k109 (H 8 rfl) (tlt l0).2.1
   have k111 := f_alN X107 hx k110 (H 9 rfl) rfl
   obtain ⟨T112, X112, e112, k113⟩ := gFs X107 hx hZ hown (hww 86 rfl) e107 (Fk0.g 0 (v := (.ref bg)) (by decide) rfl rfl) k111 (H 10 rfl)
   have k114 := f_ilN X112 hx k113 (H 11 rfl) rfl
   have k115 := f_ial X112 hx hZ e112 Fk1 k114 (H 12 rfl) (v := g0) ⟨by decide, l0⟩ rfl
   by_cases q0 : (0 : Int32) < g0
   · have k116 := f_ifN X112 hx k115 (H 13 rfl) ((if0 _ _).trans (tlt q0).2.2.2)
     have k117 := f_d1 X112 hx k116 (H 14 rfl)
     have k118 := f_ilN X112 hx k117 (H 15 rfl) rfl
     have k119 := f_ic X112 hx k118 (H 16 rfl) (v := 1) rfl
     have k120 := f_iadd X112 hx k119 (H 17 rfl) (r := 1) (by decide)
     have k121 := f_i2d X112 hx k120 (H 18 rfl)
     have k122 := f_ddiv X112 hx k121 (H 19 rfl) own_qr0
     have k123 := f_dsN X112 hx k122 (H 20 rfl) (l' := #[sr a1, sd (FP.ddiv (4607182418800017408 : UInt64) (FP.i2d (1 : Int32))), se, si 0]) rfl
     have k124 := f_go X112 hx k123 (H 21 rfl) (pc' := 38) (by decide)
     have k125 := f_dlN X112 hx k124 (H 22 rfl) rfl
     exact fin_r X112 hx (w := (.double (FP.ddiv (4607182418800017408 : UInt64) (FP.i2d (1 : Int32))))) hrt hlk rfl (Or.inr (Or.inr (Or.inl ⟨rfl, rfl, _, rfl⟩))) k125 (H 23 rfl) (by rw [e112]; exact ⟨(FP.ddiv (4607182418800017408 : UInt64) (FP.i2d (1 : Int32))), rfl, N0, rfl, own_rp0  l0 q0⟩) (by decide) (by decide)
   · have k126 := f_ifY X112 hx k115 (H 13 rfl) (pc' := 32) ((if0 _ _).trans (flt q0).2.2.2) (by decide)
     have k127 := f_inc X112 hx k126 (H 24 rfl) rfl (l' := #[sr a1, sd 0, se, si 1]) rfl
     have k128 := f_go X112 hx k127 (H 25 rfl) (pc' := 4) (by decide)
     have k129 := f_ilN X112 hx k128 (H 4 rfl) rfl
     have k130 := f_alN X112 hx k129 (H 5 rfl) rfl
     obtain ⟨T131, X131, e131, k132⟩ := gFs X112 hx hZ hown (hww 86 rfl) e112 (Fk0.g 0 (v := (.ref bg)) (by decide) rfl rfl) k130 (H 6 rfl)
     have k133 := f_len X131 hx hZ e131 Fk1 k132 (H 7 rfl)
     by_cases l1 : (1 : Int32) < nn
     · have k134 := f_icN X131 hx k133 (H 8 rfl) (tlt l1).2.1
       have k135 := f_alN X131 hx k134 (H 9 rfl) rfl
       obtain ⟨T136, X136, e136, k137⟩ := gFs X131 hx hZ hown (hww 86 rfl) e131 (Fk0.g 0 (v := (.ref bg)) (by decide) rfl rfl) k135 (H 10 rfl)
       have k138 := f_ilN X136 hx k137 (H 11 rfl) rfl
       have k139 := f_ial X136 hx hZ e136 Fk1 k138 (H 12 rfl) (v := g1) ⟨by decide, l1⟩ rfl
       by_cases q1 : (0 : Int32) < g1
       · have k140 := f_ifN X136 hx k139 (H 13 rfl) ((if0 _ _).trans (tlt q1).2.2.2)
         have k141 := f_d1 X136 hx k140 (H 14 rfl)
         have k142 := f_ilN X136 hx k141 (H 15 rfl) rfl
         have k143 := f_ic X136 hx k142 (H 16 rfl) (v := 1) rfl
         have k144 := f_iadd X136 hx k143 (H 17 rfl) (r := 2) (by decide)
         have k145 := f_i2d X136 hx k144 (H 18 rfl)
         have k146 := f_ddiv X136 hx k145 (H 19 rfl) own_qr1
         have k147 := f_dsN X136 hx k146 (H 20 rfl) (l' := #[sr a1, sd (FP.ddiv (4607182418800017408 : UInt64) (FP.i2d (2 : Int32))), se, si 1]) rfl
         have k148 := f_go X136 hx k147 (H 21 rfl) (pc' := 38) (by decide)
         have k149 := f_dlN X136 hx k148 (H 22 rfl) rfl
         exact fin_r X136 hx (w := (.double (FP.ddiv (4607182418800017408 : UInt64) (FP.i2d (2 : Int32))))) hrt hlk rfl (Or.inr (Or.inr (Or.inl ⟨rfl, rfl, _, rfl⟩))) k149 (H 23 rfl) (by rw [e136]; exact ⟨(FP.ddiv (4607182418800017408 : UInt64) (FP.i2d (2 : Int32))), rfl, N0, rfl, own_rp1 q0 l1 q1⟩) (by decide) (by decide)
       · have k150 := f_ifY X136 hx k139 (H 13 rfl) (pc' := 32) ((if0 _ _).trans (flt q1).2.2.2) (by decide)
         have k151 := f_inc X136 hx k150 (H 24 rfl) rfl (l' := #[sr a1, sd 0, se, si 2]) rfl
         have k152 := f_go X136 hx k151 (H 25 rfl) (pc' := 4) (by decide)
         have k153 := f_ilN X136 hx k152 (H 4 rfl) rfl
         have k154 := f_alN X136 hx k153 (H 5 rfl) rfl
         obtain ⟨T155, X155, e155, k156⟩ := gFs X136 hx hZ hown (hww 86 rfl) e136 (Fk0.g 0 (v := (.ref bg)) (by decide) rfl rfl) k154 (H 6 rfl)
         have k157 := f_len X155 hx hZ e155 Fk1 k156 (H 7 rfl)
         by_cases l2 : (2 : Int32) < nn
         · have k158 := f_icN X155 hx k157 (H 8 rfl) (tlt l2).2.1
           have k159 := f_alN X155 hx k158 (H 9 rfl) rfl
           obtain ⟨T160, X160, e160, k161⟩ := gFs X155 hx hZ hown (hww 86 rfl) e155 (Fk0.g 0 (v := (.ref bg)) (by decide) rfl rfl) k159 (H 10 rfl)
           have k162 := f_ilN X160 hx k161 (H 11 rfl) rfl
           have k163 := f_ial X160 hx hZ e160 Fk1 k162 (H 12 rfl) (v := g2) ⟨by decide, l2⟩ rfl
           by_cases q2 : (0 : Int32) < g2
           · have k164 := f_ifN X160 hx k163 (H 13 rfl) ((if0 _ _).trans (tlt q2).2.2.2)
             have k165 := f_d1 X160 hx k164 (H 14 rfl)
             have k166 := f_ilN X160 hx k165 (H 15 rfl) rfl
             have k167 := f_ic X160 hx k166 (H 16 rfl) (v := 1) rfl
             have k168 := f_iadd X160 hx k167 (H 17 rfl) (r := 3) (by decide)
             have k169 := f_i2d X160 hx k168 (H 18 rfl)
             have k170 := f_ddiv X160 hx k169 (H 19 rfl) own_qr2
             have k171 := f_dsN X160 hx k170 (H 20 rfl) (l' := #[sr a1, sd (FP.ddiv (4607182418800017408 : UInt64) (FP.i2d (3 : Int32))), se, si 2]) rfl
             have k172 := f_go X160 hx k171 (H 21 rfl) (pc' := 38) (by decide)
             have k173 := f_dlN X160 hx k172 (H 22 rfl) rfl
             exact fin_r X160 hx (w := (.double (FP.ddiv (4607182418800017408 : UInt64) (FP.i2d (3 : Int32))))) hrt hlk rfl (Or.inr (Or.inr (Or.inl ⟨rfl, rfl, _, rfl⟩))) k173 (H 23 rfl) (by rw [e160]; exact ⟨(FP.ddiv (4607182418800017408 : UInt64) (FP.i2d (3 : Int32))), rfl, N0, rfl, own_rp2 q0 q1 l2 q2⟩) (by decide) (by decide)
           · have k174 := f_ifY X160 hx k163 (H 13 rfl) (pc' := 32) ((if0 _ _).trans (flt q2).2.2.2) (by decide)
             have k175 := f_inc X160 hx k174 (H 24 rfl) rfl (l' := #[sr a1, sd 0, se, si 3]) rfl
             have k176 := f_go X160 hx k175 (H 25 rfl) (pc' := 4) (by decide)
             have k177 := f_ilN X160 hx k176 (H 4 rfl) rfl
             have k178 := f_alN X160 hx k177 (H 5 rfl) rfl
             obtain ⟨T179, X179, e179, k180⟩ := gFs X160 hx hZ hown (hww 86 rfl) e160 (Fk0.g 0 (v := (.ref bg)) (by decide) rfl rfl) k178 (H 6 rfl)
             have k181 := f_len X179 hx hZ e179 Fk1 k180 (H 7 rfl)
             have k182 := f_icY X179 hx k181 (H 8 rfl) (pc' := 38) (flt (own_lt3 hn3)).2.1 (by decide)
             have k183 := f_dlN X179 hx k182 (H 22 rfl) rfl
             exact fin_r X179 hx (w := (.double (0 : UInt64))) hrt hlk rfl (Or.inr (Or.inr (Or.inl ⟨rfl, rfl, _, rfl⟩))) k183 (H 23 rfl) (by rw [e179]; exact ⟨(0 : UInt64), rfl, N0, rfl, own_rz q0 q1 q2⟩) (by decide) (by decide)
         · have k184 := f_icY X155 hx k157 (H 8 rfl) (pc' := 38) (flt l2).2.1 (by decide)
           have k185 := f_dlN X155 hx k184 (H 22 rfl) rfl
           exact fin_r X155 hx (w := (.double (0 : UInt64))) hrt hlk rfl (Or.inr (Or.inr (Or.inl ⟨rfl, rfl, _, rfl⟩))) k185 (H 23 rfl) (by rw [e155]; exact ⟨(0 : UInt64), rfl, N0, rfl, own_rs2 q0 q1 l2⟩) (by decide) (by decide)
     · have k186 := f_icY X131 hx k133 (H 8 rfl) (pc' := 38) (flt l1).2.1 (by decide)
       have k187 := f_dlN X131 hx k186 (H 22 rfl) rfl
       exact fin_r X131 hx (w := (.double (0 : UInt64))) hrt hlk rfl (Or.inr (Or.inr (Or.inl ⟨rfl, rfl, _, rfl⟩))) k187 (H 23 rfl) (by rw [e131]; exact ⟨(0 : UInt64), rfl, N0, rfl, own_rs1 q0 l1⟩) (by decide) (by decide)
 · have k188 := f_icY X107 hx k109 (H 8 rfl) (pc' := 38) (flt l0).2.1 (by decide)
   have k189 := f_dlN X107 hx k188 (H 22 rfl) rfl
   exact fin_r X107 hx (w := (.double (0 : UInt64))) hrt hlk rfl (Or.inr (Or.inr (Or.inl ⟨rfl, rfl, _, rfl⟩))) k189 (H 23 rfl) (by rw [e107]; exact ⟨(0 : UInt64), rfl, N0, rfl, own_rs0  l0⟩) (by decide) (by decide)
theorem ef_11_RRR (m : MethodId) (x0 : Addr) (x1 : Addr) (x2 : Addr) : entryFrame m #[(.ref x0), (.ref x1), (.ref x2)] 7 = mkF m 0 #[.val (.ref x0), .val (.ref x1), .val (.ref x2), .unset, .unset, .unset, .unset] [] := by first | (simp [entryFrame, mkF, argsToLocals, Value.category]; done) | rfl
theorem pd__28_29Ljava_2flang_2fString_3b : parseMethodDescriptor "()Ljava/lang/String;" = some ⟨[], some (.object "java/lang/String")⟩ := by decide +kernel
theorem pd__28I_29Ljava_2flang_2fInteger_3b : parseMethodDescriptor "(I)Ljava/lang/Integer;" = some ⟨[.int], some (.object "java/lang/Integer")⟩ := by decide +kernel
theorem pd__28Ljava_2flang_2fObject_3bLjava_2flang_2fObject_3b_29Ljava_2flang_2fObject_3b : parseMethodDescriptor "(Ljava/lang/Object;Ljava/lang/Object;)Ljava/lang/Object;" = some ⟨[(.object "java/lang/Object"), (.object "java/lang/Object")], some (.object "java/lang/Object")⟩ := by decide +kernel
theorem pd__28I_29I : parseMethodDescriptor "(I)I" = some ⟨[.int], some .int⟩ := by decide +kernel
theorem pd__28_29Ljava_2futil_2fCollection_3b : parseMethodDescriptor "()Ljava/util/Collection;" = some ⟨[], some (.object "java/util/Collection")⟩ := by decide +kernel
theorem pd__28_29Ljava_2futil_2fIterator_3b : parseMethodDescriptor "()Ljava/util/Iterator;" = some ⟨[], some (.object "java/util/Iterator")⟩ := by decide +kernel
theorem pd__28_29Ljava_2flang_2fObject_3b : parseMethodDescriptor "()Ljava/lang/Object;" = some ⟨[], some (.object "java/lang/Object")⟩ := by decide +kernel
theorem pd__28_5bII_29_5bI : parseMethodDescriptor "([II)[I" = some ⟨[(.array .int), .int], some (.array .int)⟩ := by decide +kernel
theorem pd__28_5bI_29V : parseMethodDescriptor "([I)V" = some ⟨[(.array .int)], none⟩ := by decide +kernel
def Q_jri (Z : State) (a1 ls : Addr) (nn lm : Int32) (ev : Value) (ea : Addr) (ka : ClassId) (w0 w1 w2 : Value) (do0 id0 ib0 : Addr) (ik0 : ClassId) (hs0 : Int32) (do1 id1 ib1 : Addr) (ik1 : ClassId) (hs1 : Int32) (do2 id2 ib2 : Addr) (ik2 : ClassId) (hs2 : Int32) (mp : Addr) (tv : Value) (sz mc th : Int32) (tb : Addr) (kt : ClassId) (t0 t1 t2 : Value) (nd0 bx0 : Addr) (r0 : Int32) (nd1 bx1 : Addr) (r1 : Int32) (nd2 bx2 : Addr) (r2 cs : Int32) (ca : Addr) (ce : Cell) (h0 : Heap) (n0 : Nat) (v : Option Value) (h : Heap) (L : List Loc) : Prop := ∃ (bg : Addr) (kg : ClassId) (g0 : Int32) (g1 : Int32) (g2 : Int32) (bi : Addr), v = none ∧ Fr n0 L ∧ Keep h0 h [a1, mp, id0, id1, id2] ∧ OBJ Z h a1 "com/example/multinomial/multinomial/eval/JudgedRanking" lyJR [(.ref bg), (.ref bi)] ∧ Arv Z h bg kg .int nn [(.int g0), (.int g1), (.int g2)] zI ∧ ((0 : Int32) < nn → g0 = own_gv t0 r0) ∧ ((1 : Int32) < nn → g1 = own_gv t1 r1) ∧ ((2 : Int32) < nn → g2 = own_gv t2 r2)
theorem jri (l : Launch) (Z : State) (a0 : Array Value) (hw : HW Z a0) (ws : List Jvm.Cond) (a1 ls : Addr) (nn lm : Int32) (ev : Value) (ea : Addr) (ka : ClassId) (w0 w1 w2 : Value) (do0 id0 ib0 : Addr) (ik0 : ClassId) (hs0 : Int32) (do1 id1 ib1 : Addr) (ik1 : ClassId) (hs1 : Int32) (do2 id2 ib2 : Addr) (ik2 : ClassId) (hs2 : Int32) (mp : Addr) (tv : Value) (sz mc th : Int32) (tb : Addr) (kt : ClassId) (t0 t1 t2 : Value) (nd0 bx0 : Addr) (r0 : Int32) (nd1 bx1 : Addr) (r1 : Int32) (nd2 bx2 : Addr) (r2 cs : Int32) (ca : Addr) (ce : Cell) (h0 : Heap) (n0 : Nat) (Z0 : n0 ≤ h0.size) (Fk0 : OBJ Z h0 a1 "com/example/multinomial/multinomial/eval/JudgedRanking" lyJR [.null, .null]) (Fk1 : OBJ Z h0 mp "java/util/HashMap" lyMP [tv, (.int sz), (.int mc), (.int th), .null, (.float (1061158912 : UInt32))]) (Fk2 : OBJ Z h0 id0 "java/lang/String" lyST [(.ref ib0), zI, (.int hs0), zI]) (Fk3 : OBJ Z h0 id1 "java/lang/String" lyST [(.ref ib1), zI, (.int hs1), zI]) (Fk4 : OBJ Z h0 id2 "java/lang/String" lyST [(.ref ib2), zI, (.int hs2), zI]) (ge_a1 : n0 ≤ a1) (ge_mp : n0 ≤ mp) (ge_id0 : n0 ≤ id0) (ge_id1 : n0 ≤ id1) (ge_id2 : n0 ≤ id2) (ne_a1_mp : a1 ≠ mp) (ne_a1_id0 : a1 ≠ id0) (ne_mp_id0 : mp ≠ id0) (ne_a1_id1 : a1 ≠ id1) (ne_mp_id1 : mp ≠ id1) (ne_a1_id2 : a1 ≠ id2) (ne_mp_id2 : mp ≠ id2) (ne_id0_id1 : id0 ≠ id1) (ne_id0_id2 : id0 ≠ id2) (ne_id1_id2 : id1 ≠ id2) (Lz0 : OBJ Z h0 ls "java/util/ArrayList" lyLS [(.int lm), ev, (.int nn)]) (Lz1 : Arv Z h0 ib0 ik0 .byte (1 : Int32) [(.int (97 : Int32))] zI) (Lz2 : Arv Z h0 ib1 ik1 .byte (1 : Int32) [(.int (98 : Int32))] zI) (Lz3 : Arv Z h0 ib2 ik2 .byte (1 : Int32) [(.int (99 : Int32))] zI) (nw_ls : ls ∉ [a1, mp, id0, id1, id2]) (nw_ib0 : ib0 ∉ [a1, mp, id0, id1, id2]) (nw_ib1 : ib1 ∉ [a1, mp, id0, id1, id2]) (nw_ib2 : ib2 ∉ [a1, mp, id0, id1, id2]) (Scs : Sta Z Z.heap "java/lang/String" "COMPACT_STRINGS" "Z" (.int cs)) (hcs : ¬ (cs = (0 : Int32))) (Shi : Sta Z Z.heap "java/lang/Integer$IntegerCache" "high" "I" (.int (127 : Int32))) (Sca : Sta Z Z.heap "java/lang/Integer$IntegerCache" "cache" "[Ljava/lang/Integer;" (.ref ca)) (Bx : Bxs Z ca ce "java/lang/Integer" "I" (256 : Int32) (fun j => .int (j - (128 : Int32)))) (hn3 : nn = (0 : Int32) ∨ nn = (1 : Int32) ∨ nn = (2 : Int32) ∨ nn = (3 : Int32)) (LA : (0 : Int32) < nn → ev = .ref ea ∧ Arv Z h0 ea ka (.object "java/lang/Object") (10 : Int32) [w0, w1, w2, .null, .null, .null, .null, .null, .null, .null] .null ∧ ea ∉ [a1, mp, id0, id1, id2]) (LD0 : (0 : Int32) < nn → w0 = .ref do0 ∧ OBJ Z h0 do0 "com/example/multinomial/multinomial/search/ScoredDocument" lySD [(.ref id0), (.double (0 : UInt64))] ∧ do0 ∉ [a1, mp, id0, id1, id2]) (LD1 : (1 : Int32) < nn → w1 = .ref do1 ∧ OBJ Z h0 do1 "com/example/multinomial/multinomial/search/ScoredDocument" lySD [(.ref id1), (.double (0 : UInt64))] ∧ do1 ∉ [a1, mp, id0, id1, id2]) (LD2 : (2 : Int32) < nn → w2 = .ref do2 ∧ OBJ Z h0 do2 "com/example/multinomial/multinomial/search/ScoredDocument" lySD [(.ref id2), (.double (0 : UInt64))] ∧ do2 ∉ [a1, mp, id0, id1, id2]) (TB : (tv = .null ∧ t0 = .null ∧ t1 = .null ∧ t2 = .null) ∨ (tv = .ref tb ∧ ¬ (t0 = .null ∧ t1 = .null ∧ t2 = .null) ∧ Arv Z h0 tb kt (.object "java/util/HashMap$Node") (16 : Int32) [.null, t0, t1, t2, .null, .null, .null, .null, .null, .null, .null, .null, .null, .null, .null, .null] .null ∧ tb ∉ [a1, mp, id0, id1, id2])) (HZ : sz = own_c t0 + own_c t1 + own_c t2) (KP0 : (t0 = .null ∧ hs0 = (0 : Int32)) ∨ (t0 = .ref nd0 ∧ hs0 = (97 : Int32) ∧ OBJ Z h0 nd0 "java/util/HashMap$Node" lyND [(.int (97 : Int32)), (.ref id0), (.ref bx0), .null] ∧ OBJ Z h0 bx0 "java/lang/Integer" lyIG [(.int r0)] ∧ nd0 ∉ [a1, mp, id0, id1, id2] ∧ bx0 ∉ [a1, mp, id0, id1, id2])) (KP1 : (t1 = .null ∧ hs1 = (0 : Int32)) ∨ (t1 = .ref nd1 ∧ hs1 = (98 : Int32) ∧ OBJ Z h0 nd1 "java/util/HashMap$Node" lyND [(.int (98 : Int32)), (.ref id1), (.ref bx1), .null] ∧ OBJ Z h0 bx1 "java/lang/Integer" lyIG [(.int r1)] ∧ nd1 ∉ [a1, mp, id0, id1, id2] ∧ bx1 ∉ [a1, mp, id0, id1, id2])) (KP2 : (t2 = .null ∧ hs2 = (0 : Int32)) ∨ (t2 = .ref nd2 ∧ hs2 = (99 : Int32) ∧ OBJ Z h0 nd2 "java/util/HashMap$Node" lyND [(.int (99 : Int32)), (.ref id2), (.ref bx2), .null] ∧ OBJ Z h0 bx2 "java/lang/Integer" lyIG [(.int r2)] ∧ nd2 ∉ [a1, mp, id0, id1, id2] ∧ bx2 ∉ [a1, mp, id0, id1, id2])) (O0 : Old Z n0 h0) :
  Met l mn64 prog_10_method_1_code 7 none ws (rm 5 9 21 79) #[(.ref a1), (.ref ls), (.ref mp)] Z h0 (Q_jri Z a1 ls nn lm ev ea ka w0 w1 w2 do0 id0 ib0 ik0 hs0 do1 id1 ib1 ik1 hs1 do2 id2 ib2 ik2 hs2 mp tv sz mc th tb kt t0 t1 t2 nd0 bx0 r0 nd1 bx1 r1 nd2 bx2 r2 cs ca ce h0 n0) := by
 refine Met.intro (plainFor_of_name pn_com_2fexample_2fmultinomial_2fmultinomial_2feval_2fJudgedRanking) ?_
 intro p e s m below meth c s₁ hx hby hml hZ hown hnm hrt hlk X0 e0
 have N0 := Fr.nil n0
 have hww := @hvw _ _ hw
 have k0 := k_e (p := p) (e := e) (below := below) (s := s₁) (ef_11_RRR m a1 ls mp)
 have K0 := Keep.refl h0 [a1, mp, id0, id1, id2]
 have H := @dch _ _ _ hby D11
 have k101 := f_alN X0 hx k0 (H 0 rfl) rfl
 obtain ⟨T102, X102, e102, st102⟩ := initO X0 hx hZ hown (hww 73 rfl) (hww 21 rfl) (hww 22 rfl) e0 (g := (mkF m 1 #[sr a1, sr ls, sr mp, un, un, un, un] [vR a1])) rfl (by rw [hml]; rfl) rfl (H 1 rfl) (by decide) (W := 0) (by show 2 * 0 + _ ≤ _; exact Nat.le_of_eq rfl) (by decide)
 have k103 : Rt p e below T102 (mkF m 4 #[sr a1, sr ls, sr mp, un, un, un, un] []) s₁ m #[(.ref a1), (.ref ls), (.ref mp)] 7 := fun t k => k101 t (st102 t k)
 have k104 := f_alN X102 hx k103 (H 2 rfl) rfl
 have k105 := f_alN X102 hx k104 (H 3 rfl) rfl
 obtain ⟨_, T106, L106, X106, hQ106, k106⟩ := c_I (W := 1) (x := mn56) X102 hx hZ hown (hww 74 rfl) (hww 75 rfl) (hww 76 rfl) (hww 77 rfl) (hww 78 rfl) (hww 79 rfl) (hww 80 rfl) (hww 81 rfl) (hww 82 rfl) (hww 29 rfl) (by decide) Lz0.1 (asz l Z a0 hw [] ls nn h0 n0 Z0 (Lz0.g 2 (v := (.int nn)) (by decide) rfl rfl)) e102 (argsL := []) (rest := [(.ref a1)]) rfl (by rw [hml]; rfl) k105 rfl (H 4 rfl) (lenOf pd__28_29I rfl) (b5 rfl)
 obtain ⟨rfl, N106q, e106⟩ := hQ106
 have N107 := Fr.app N0 N106q
 obtain ⟨T108, h108, k108, X108, e108, E108, A108, st108⟩ := newP X106 hx hZ (hww 85 rfl) e106 (g := (mkF m 11 #[sr a1, sr ls, sr mp, un, un, un, un] [vI nn, vR a1])) rfl (H 5 rfl) rfl (own_n0 hn3) (cap := 3) (own_n3l hn3) (by decide) (by decide) (by decide)
 obtain ⟨b108, g108⟩ : ∃ z, z = h0.size := ⟨_, rfl⟩
 rw [← g108] at A108 st108
 have g109 : n0 ≤ b108 := Nat.le_trans Z0 (Nat.le_of_eq g108.symm)
 have z110 : h0.size ≤ b108 := Nat.le_trans K0.1 (Nat.le_of_eq g108.symm)
 have F111 := Fk0.ext E108
 have F112 := Fk1.ext E108
 have F113 := Fk2.ext E108
 have F114 := Fk3.ext E108
 have F115 := Fk4.ext E108
 have F116 := O0.ext E108
 have Z117 : n0 ≤ h108.size := Nat.le_trans Z0 E108.1
 have K118 := K0.ext E108
 have V119 : Arv Z h108 b108 k108 .int nn [] zI := Arv.new A108 (own_n0 hn3)
 have k120 : Rt p e below T108 (mkF m 13 #[sr a1, sr ls, sr mp, un, un, un, un] [vR b108, vR a1]) s₁ m #[(.ref a1), (.ref ls), (.ref mp)] 7 := fun t k => k106 t (st108 t k)
 have V121 : Arv Z h108 b108 k108 .int nn [zI, zI, zI] zI := V119.pad (pad_rep [] zI 3)
 obtain ⟨T122, h122, L122, X122, e122, W122, B122, N122, Z122, k122⟩ := f_pF X108 hx hZ hown (hww 86 rfl) Via.refl e108 F111 (snJR hw) (Or.inr ⟨(hww 87 rfl), rfl, hnm⟩) (hww 68 rfl) 0 (by decide) rfl rfl (ty := (.array .int)) (by decide) rfl rfl N107 ge_a1 Z117 k120 (H 6 rfl) rfl
 have F123 := F116.wr W122 ge_a1
 have F124 := V121.other W122 (nG Fk0.lt (Nat.le_of_eq g108.symm))
 have K125 := kw K118 W122 0 rfl
 have B126 := F112.other W122 (Ne.symm ne_a1_mp)
 have B127 := F113.other W122 (Ne.symm ne_a1_id0)
 have B128 := F114.other W122 (Ne.symm ne_a1_id1)
 have B129 := F115.other W122 (Ne.symm ne_a1_id2)
 have k130 := f_ic X122 hx k122 (H 7 rfl) (v := 0) rfl
 have k131 := f_isN X122 hx k130 (H 8 rfl) (l' := #[sr a1, sr ls, sr mp, si 0, un, un, un]) rfl
 have k132 := f_ilN X122 hx k131 (H 9 rfl) rfl
 have k133 := f_alN X122 hx k132 (H 10 rfl) rfl
 obtain ⟨T134, X134, e134, k135⟩ := gFs X122 hx hZ hown (hww 86 rfl) e122 (B122.g 0 (v := (.ref b108)) (by decide) rfl rfl) k133 (H 11 rfl)
 have k136 := f_len X134 hx hZ e134 F124 k135 (H 12 rfl)
 obtain ⟨T137, h137, Ls137, g0, g1, g2, iz, X137, e137, N137, Zq137, F391, F392, F393, F394, F395, hgv0, hgv1, hgv2, kq137⟩ : ∃ (T137 : State) (h137 : Heap) (Ls137 : List Loc) (g0 : Int32) (g1 : Int32) (g2 : Int32) (iz : Int32), Stand p l e (rm 5 9 21 79) s m #[(.ref a1), (.ref ls), (.ref mp)] below meth c T137 Ls137 4 6 ∧ T137.heap = h137 ∧ Fr n0 Ls137 ∧ n0 ≤ h137.size ∧ OBJ Z h137 a1 "com/example/multinomial/multinomial/eval/JudgedRanking" lyJR [(.ref b108), .null] ∧ OBJ Z h137 mp "java/util/HashMap" lyMP [tv, (.int sz), (.int mc), (.int th), .null, (.float (1061158912 : UInt32))] ∧ Arv Z h137 b108 k108 .int nn [(.int g0), (.int g1), (.int g2)] zI ∧ Keep h0 h137 [a1, mp, id0, id1, id2] ∧ Old Z n0 h137 ∧ (((0 : Int32) < nn → g0 = own_gv t0 r0)) ∧ (((1 : Int32) < nn → g1 = own_gv t1 r1)) ∧ (((2 : Int32) < nn → g2 = own_gv t2 r2)) ∧ (Rt p e below T137 (mkF m 71 #[sr a1, sr ls, sr mp, si iz, un, un, un] []) s₁ m #[(.ref a1), (.ref ls), (.ref mp)] 7) := by
  by_cases l0 : (0 : Int32) < nn
  · have k138 := f_icN X134 hx k136 (H 13 rfl) (tlt l0).2.1
    obtain ⟨rfl, Lea, nw_ea⟩ := LA l0
    obtain ⟨rfl, Ldo0, nw_do0⟩ := LD0 l0
    have k139 := f_alN X134 hx k138 (H 14 rfl) rfl
    obtain ⟨T140, X140, e140, k141⟩ := gFs X134 hx hZ hown (hww 86 rfl) e134 (B122.g 0 (v := (.ref b108)) (by decide) rfl rfl) k139 (H 15 rfl)
    have k142 := f_ilN X140 hx k141 (H 16 rfl) rfl
    have k143 := f_alN X140 hx k142 (H 17 rfl) rfl
    have k144 := f_alN X140 hx k143 (H 18 rfl) rfl
    have k145 := f_ilN X140 hx k144 (H 19 rfl) rfl
    obtain ⟨_, T146, L146, X146, hQ146, k146⟩ := c_I (W := 3) (x := mn57) X140 hx hZ hown (hww 314 rfl) (hww 315 rfl) (hww 316 rfl) (hww 317 rfl) (hww 318 rfl) (hww 319 rfl) (hww 320 rfl) (hww 81 rfl) (hww 321 rfl) (hww 29 rfl) (by decide) (Lz0.keep K125 nw_ls).1 (aget0 l Z a0 hw [] ls ea ka do0 w1 w2 nn h122 n0 Z122 (Lz0.keep K125 nw_ls).1 ((Lz0.keep K125 nw_ls).g 1 (v := (.ref ea)) (by decide) rfl rfl) ((Lz0.keep K125 nw_ls).g 2 (v := (.int nn)) (by decide) rfl rfl) (Lea.keep K125 nw_ea) l0) e140 (argsL := [zI]) (rest := [(.ref mp), zI, (.ref b108)]) rfl (by rw [hml]; rfl) k145 rfl (H 20 rfl) (lenOf pd__28I_29Ljava_2flang_2fObject_3b rfl) (b5 rfl)
    obtain ⟨rfl, N146q, e146⟩ := hQ146
    have N147 := Fr.app N122 N146q
    obtain ⟨T148, X148, e148, st148⟩ := castY X146 hx hZ hown (hww 335 rfl) e146 (Ins.self (Ldo0.keep K125 nw_do0).1) (g := (mkF m 40 #[sr a1, sr ls, sr mp, si 0, un, un, un] [vR do0, vR mp, vI 0, vR b108])) rfl rfl (H 21 rfl)
    have k149 : Rt p e below T148 (mkF m 43 #[sr a1, sr ls, sr mp, si 0, un, un, un] [vR do0, vR mp, vI 0, vR b108]) s₁ m #[(.ref a1), (.ref ls), (.ref mp)] 7 := fun t k => k146 t (st148 t k)
    obtain ⟨_, T150, L150, X150, hQ150, k150⟩ := c_V (W := 3) (x := mn16) X148 hx hZ hown (hww 337 rfl) (hww 338 rfl) (notFace_of_selects (args := #[]) (mvT hZ (hww 340 rfl))) (hww 340 rfl) (hww 339 rfl) (hww 341 rfl) (hww 202 rfl) (by decide) (Ldo0.keep K125 nw_do0).1 (sid l Z a0 hw [] do0 id0 h122 n0 Z122 ((Ldo0.keep K125 nw_do0).g 0 (v := (.ref id0)) (by decide) rfl rfl)) e148 (argsL := []) (rest := [(.ref mp), zI, (.ref b108)]) rfl (by rw [hml]; rfl) k149 rfl (H 22 rfl) (lenOf pd__28_29Ljava_2flang_2fString_3b rfl) (b5 rfl)
    obtain ⟨rfl, N150q, e150⟩ := hQ150
    have N151 := Fr.app N147 N150q
    have k152 := f_ic X150 hx k150 (H 23 rfl) (v := 0) rfl
    obtain ⟨_, T153, L153, X153, hQ153, k153⟩ := c_S (W := 4) X150 hx hZ hown (hww 342 rfl) (hww 241 rfl) (hww 242 rfl) (hww 243 rfl) (by decide) (box l Z a0 hw [] (0 : Int32) ca ce h122 n0 Z122 Shi Sca Bx F123) e150 (argsL := [zI]) (rest := [(.ref id0), (.ref mp), zI, (.ref b108)]) rfl (by rw [hml]; rfl) k152 rfl (H 24 rfl) (lenOf pd__28I_29Ljava_2flang_2fInteger_3b rfl) (b5 rfl)
    obtain ⟨h153, e153⟩ : ∃ h', T153.heap = h' := ⟨_, rfl⟩
    rw [e153] at hQ153
    obtain ⟨b153, rfl, N153q, K153, R153_0, P153_0⟩ := hQ153
    have N154 := Fr.app N151 N153q
    have F155 := F123.keep K153 all0
    have F156 := F124.keep K153 nin0
    have F157 := B126.keep K153 nin0
    have F158 := B127.keep K153 nin0
    have F159 := B128.keep K153 nin0
    have F160 := B129.keep K153 nin0
    have F161 := B122.keep K153 nin0
    have Z162 : n0 ≤ h153.size := Nat.le_trans Z122 K153.1
    have K163 := Keep.trans K125 K153 all0
    obtain ⟨T164, h164, Ls164, g0, hx0, X164, e164, N164, Zq164, F198, F199, F200, F201, F202, F203, F204, F205, hg0, kq164⟩ : ∃ (T164 : State) (h164 : Heap) (Ls164 : List Loc) (g0 : Int32) (hx0 : Int32), Stand p l e (rm 5 9 21 79) s m #[(.ref a1), (.ref ls), (.ref mp)] below meth c T164 Ls164 2 4 ∧ T164.heap = h164 ∧ Fr n0 Ls164 ∧ n0 ≤ h164.size ∧ Arv Z h164 b108 k108 .int nn [zI, zI, zI] zI ∧ OBJ Z h164 mp "java/util/HashMap" lyMP [tv, (.int sz), (.int mc), (.int th), .null, (.float (1061158912 : UInt32))] ∧ OBJ Z h164 id0 "java/lang/String" lyST [(.ref ib0), zI, (.int hx0), zI] ∧ OBJ Z h164 id1 "java/lang/String" lyST [(.ref ib1), zI, (.int hs1), zI] ∧ OBJ Z h164 id2 "java/lang/String" lyST [(.ref ib2), zI, (.int hs2), zI] ∧ OBJ Z h164 a1 "com/example/multinomial/multinomial/eval/JudgedRanking" lyJR [(.ref b108), .null] ∧ Keep h0 h164 [a1, mp, id0, id1, id2] ∧ Old Z n0 h164 ∧ (g0 = own_gv t0 r0) ∧ (Rt p e below T164 (mkF m 64 #[sr a1, sr ls, sr mp, si 0, un, un, un] [vI g0, vI 0, vR b108]) s₁ m #[(.ref a1), (.ref ls), (.ref mp)] 7) := by
     rcases TB with ⟨rfl, rfl, rfl, rfl⟩ | ⟨rfl, ntb, Ltb, nw_tb⟩
     · obtain ⟨_, T165, L165, X165, hQ165, k165⟩ := c_I (W := 2) (x := mn58) X153 hx hZ hown (hww 343 rfl) (hww 344 rfl) (hww 345 rfl) (hww 346 rfl) (hww 347 rfl) (hww 348 rfl) (hww 349 rfl) (hww 95 rfl) (hww 350 rfl) (hww 53 rfl) (by decide) F157.1 (god2 l Z a0 hw [] mp id0 b153 h153 n0 Z162 F157.1 (F157.g 0 (v := .null) (by decide) rfl rfl)) e153 (argsL := [(.ref id0), (.ref b153)]) (rest := [zI, (.ref b108)]) rfl (by rw [hml]; rfl) k153 rfl (H 25 rfl) (lenOf pd__28Ljava_2flang_2fObject_3bLjava_2flang_2fObject_3b_29Ljava_2flang_2fObject_3b rfl) (b5 rfl)
       obtain ⟨rfl, N165q, e165⟩ := hQ165
       have N166 := Fr.app N154 N165q
       obtain ⟨T167, X167, e167, st167⟩ := castY X165 hx hZ hown (hww 359 rfl) e165 (Ins.self R153_0.1) (g := (mkF m 55 #[sr a1, sr ls, sr mp, si 0, un, un, un] [vR b153, vI 0, vR b108])) rfl rfl (H 26 rfl)
       have k168 : Rt p e below T167 (mkF m 58 #[sr a1, sr ls, sr mp, si 0, un, un, un] [vR b153, vI 0, vR b108]) s₁ m #[(.ref a1), (.ref ls), (.ref mp)] 7 := fun t k => k165 t (st167 t k)
       obtain ⟨_, T169, L169, X169, hQ169, k169⟩ := c_V (W := 2) (x := mn14) X167 hx hZ hown (hww 361 rfl) (hww 362 rfl) (notFace_of_selects (args := #[]) (mvT hZ (hww 364 rfl))) (hww 364 rfl) (hww 363 rfl) (hww 365 rfl) (hww 242 rfl) (by decide) R153_0.1 (iv l Z a0 hw [] b153 (0 : Int32) h153 n0 Z162 (R153_0.g 0 (v := zI) (by decide) rfl rfl)) e167 (argsL := []) (rest := [zI, (.ref b108)]) rfl (by rw [hml]; rfl) k168 rfl (H 27 rfl) (lenOf pd__28_29I rfl) (b5 rfl)
       obtain ⟨rfl, N169q, e169⟩ := hQ169
       have N170 := Fr.app N166 N169q
       obtain ⟨_, T171, L171, X171, hQ171, k171⟩ := c_S (W := 2) X169 hx hZ hown (hww 368 rfl) (hww 369 rfl) (hww 69 rfl) (hww 370 rfl) (by decide) (gain l Z a0 hw [] (0 : Int32) h153 n0 Z162 ) e169 (argsL := [zI]) (rest := [zI, (.ref b108)]) rfl (by rw [hml]; rfl) k169 rfl (H 28 rfl) (lenOf pd__28I_29I rfl) (b5 rfl)
       obtain ⟨h171, e171⟩ : ∃ h', T171.heap = h' := ⟨_, rfl⟩
       rw [e171] at hQ171
       obtain ⟨j171, rfl, N171q, hh171, P171_0⟩ := hQ171
       have N172 := Fr.app N170 N171q
       have ee171 : T171.heap = h153 := e171.trans hh171
       exact ⟨T171, h153, _, j171, hs0, X171, ee171, N172, Z162, F156, F157, F158, F159, F160, F161, K163, F155, P171_0, k171⟩
     · rcases KP0 with ⟨rfl, rfl⟩ | ⟨rfl, rfl, Lnd0, Lbx0, nw_nd0, nw_bx0⟩
       · obtain ⟨_, T173, L173, X173, hQ173, k173⟩ := c_I (W := 2) (x := mn58) X153 hx hZ hown (hww 343 rfl) (hww 344 rfl) (hww 345 rfl) (hww 346 rfl) (hww 347 rfl) (hww 348 rfl) (hww 349 rfl) (hww 95 rfl) (hww 350 rfl) (hww 53 rfl) (by decide) F157.1 (god0 l Z a0 hw [] mp id0 ib0 ik0 (97 : Int32) cs (1 : Int32) tb kt [.null, .null, t1, t2, .null, .null, .null, .null, .null, .null, .null, .null, .null, .null, .null, .null] b153 h153 n0 Z162 F157.1 (F157.g 0 (v := (.ref tb)) (by decide) rfl rfl) (Ltb.keep K163 nw_tb) F158 (Lz1.keep K163 nw_ib0) ge_id0 (Ne.symm (own_nn nw_ib0 (i := 2) rfl)) ne_mp_id0 (own_nn nw_tb (i := 2) rfl) (by decide) (by decide) (by decide) Scs hcs (by decide) (by decide) rfl F155) e153 (argsL := [(.ref id0), (.ref b153)]) (rest := [zI, (.ref b108)]) rfl (by rw [hml]; rfl) k153 rfl (H 25 rfl) (lenOf pd__28Ljava_2flang_2fObject_3bLjava_2flang_2fObject_3b_29Ljava_2flang_2fObject_3b rfl) (b5 rfl)
         obtain ⟨h173, e173⟩ : ∃ h', T173.heap = h' := ⟨_, rfl⟩
         rw [e173] at hQ173
         obtain ⟨rfl, N173q, K173, R173_0, R173_1⟩ := hQ173
         have N174 := Fr.app N154 N173q
         have F175 := F155.keep K173 (allS ge_id0 all0)
         have F176 := F156.keep K173 (ninS (nG Fk2.lt (Nat.le_of_eq g108.symm)) nin0)
         have F177 := F157.keep K173 (ninS ne_mp_id0 nin0)
         have F178 := F159.keep K173 (ninS (Ne.symm ne_id0_id1) nin0)
         have F179 := F160.keep K173 (ninS (Ne.symm ne_id0_id2) nin0)
         have F180 := F161.keep K173 (ninS ne_a1_id0 nin0)
         have F181 := R153_0.keep K173 (ninS (own_bxne P153_0 ge_id0 B127.lt) nin0)
         have Z182 : n0 ≤ h173.size := Nat.le_trans Z162 K173.1
         have K183 := Keep.trans K163 K173 (allS (oL 2 rfl) all0)
         obtain ⟨T184, X184, e184, st184⟩ := castY X173 hx hZ hown (hww 359 rfl) e173 (Ins.self F181.1) (g := (mkF m 55 #[sr a1, sr ls, sr mp, si 0, un, un, un] [vR b153, vI 0, vR b108])) rfl rfl (H 26 rfl)
         have k185 : Rt p e below T184 (mkF m 58 #[sr a1, sr ls, sr mp, si 0, un, un, un] [vR b153, vI 0, vR b108]) s₁ m #[(.ref a1), (.ref ls), (.ref mp)] 7 := fun t k => k173 t (st184 t k)
         obtain ⟨_, T186, L186, X186, hQ186, k186⟩ := c_V (W := 2) (x := mn14) X184 hx hZ hown (hww 361 rfl) (hww 362 rfl) (notFace_of_selects (args := #[]) (mvT hZ (hww 364 rfl))) (hww 364 rfl) (hww 363 rfl) (hww 365 rfl) (hww 242 rfl) (by decide) F181.1 (iv l Z a0 hw [] b153 (0 : Int32) h173 n0 Z182 (F181.g 0 (v := zI) (by decide) rfl rfl)) e184 (argsL := []) (rest := [zI, (.ref b108)]) rfl (by rw [hml]; rfl) k185 rfl (H 27 rfl) (lenOf pd__28_29I rfl) (b5 rfl)
         obtain ⟨rfl, N186q, e186⟩ := hQ186
         have N187 := Fr.app N174 N186q
         obtain ⟨_, T188, L188, X188, hQ188, k188⟩ := c_S (W := 2) X186 hx hZ hown (hww 368 rfl) (hww 369 rfl) (hww 69 rfl) (hww 370 rfl) (by decide) (gain l Z a0 hw [] (0 : Int32) h173 n0 Z182 ) e186 (argsL := [zI]) (rest := [zI, (.ref b108)]) rfl (by rw [hml]; rfl) k186 rfl (H 28 rfl) (lenOf pd__28I_29I rfl) (b5 rfl)
         obtain ⟨h188, e188⟩ : ∃ h', T188.heap = h' := ⟨_, rfl⟩
         rw [e188] at hQ188
         obtain ⟨j188, rfl, N188q, hh188, P188_0⟩ := hQ188
         have N189 := Fr.app N187 N188q
         have ee188 : T188.heap = h173 := e188.trans hh188
         exact ⟨T188, h173, _, j188, (97 : Int32), X188, ee188, N189, Z182, F176, F177, R173_0, F178, F179, F180, K183, F175, P188_0, k188⟩
       · obtain ⟨_, T190, L190, X190, hQ190, k190⟩ := c_I (W := 2) (x := mn58) X153 hx hZ hown (hww 343 rfl) (hww 344 rfl) (hww 345 rfl) (hww 346 rfl) (hww 347 rfl) (hww 348 rfl) (hww 349 rfl) (hww 95 rfl) (hww 350 rfl) (hww 53 rfl) (by decide) F157.1 (god1 l Z a0 hw [] mp id0 (97 : Int32) (1 : Int32) tb kt [.null, (.ref nd0), t1, t2, .null, .null, .null, .null, .null, .null, .null, .null, .null, .null, .null, .null] nd0 bx0 b153 h153 n0 Z162 F157.1 (F157.g 0 (v := (.ref tb)) (by decide) rfl rfl) (Ltb.keep K163 nw_tb) F158.1 (F158.g 2 (v := (.int (97 : Int32))) (by decide) rfl rfl) (Lnd0.keep K163 nw_nd0) (by decide) (by decide) (by decide) (by decide) rfl) e153 (argsL := [(.ref id0), (.ref b153)]) (rest := [zI, (.ref b108)]) rfl (by rw [hml]; rfl) k153 rfl (H 25 rfl) (lenOf pd__28Ljava_2flang_2fObject_3bLjava_2flang_2fObject_3b_29Ljava_2flang_2fObject_3b rfl) (b5 rfl)
         obtain ⟨rfl, N190q, e190⟩ := hQ190
         have N191 := Fr.app N154 N190q
         obtain ⟨T192, X192, e192, st192⟩ := castY X190 hx hZ hown (hww 359 rfl) e190 (Ins.self (Lbx0.keep K163 nw_bx0).1) (g := (mkF m 55 #[sr a1, sr ls, sr mp, si 0, un, un, un] [vR bx0, vI 0, vR b108])) rfl rfl (H 26 rfl)
         have k193 : Rt p e below T192 (mkF m 58 #[sr a1, sr ls, sr mp, si 0, un, un, un] [vR bx0, vI 0, vR b108]) s₁ m #[(.ref a1), (.ref ls), (.ref mp)] 7 := fun t k => k190 t (st192 t k)
         obtain ⟨_, T194, L194, X194, hQ194, k194⟩ := c_V (W := 2) (x := mn14) X192 hx hZ hown (hww 361 rfl) (hww 362 rfl) (notFace_of_selects (args := #[]) (mvT hZ (hww 364 rfl))) (hww 364 rfl) (hww 363 rfl) (hww 365 rfl) (hww 242 rfl) (by decide) (Lbx0.keep K163 nw_bx0).1 (iv l Z a0 hw [] bx0 r0 h153 n0 Z162 ((Lbx0.keep K163 nw_bx0).g 0 (v := (.int r0)) (by decide) rfl rfl)) e192 (argsL := []) (rest := [zI, (.ref b108)]) rfl (by rw [hml]; rfl) k193 rfl (H 27 rfl) (lenOf pd__28_29I rfl) (b5 rfl)
         obtain ⟨rfl, N194q, e194⟩ := hQ194
         have N195 := Fr.app N191 N194q
         obtain ⟨_, T196, L196, X196, hQ196, k196⟩ := c_S (W := 2) X194 hx hZ hown (hww 368 rfl) (hww 369 rfl) (hww 69 rfl) (hww 370 rfl) (by decide) (gain l Z a0 hw [] r0 h153 n0 Z162 ) e194 (argsL := [(.int r0)]) (rest := [zI, (.ref b108)]) rfl (by rw [hml]; rfl) k194 rfl (H 28 rfl) (lenOf pd__28I_29I rfl) (b5 rfl)
         obtain ⟨h196, e196⟩ : ∃ h', T196.heap = h' := ⟨_, rfl⟩
         rw [e196] at hQ196
         obtain ⟨j196, rfl, N196q, hh196, P196_0⟩ := hQ196
         have N197 := Fr.app N195 N196q
         have ee196 : T196.heap = h153 := e196.trans hh196
         exact ⟨T196, h153, _, j196, (97 : Int32), X196, ee196, N197, Z162, F156, F157, F158, F159, F160, F161, K163, F155, P196_0, k196⟩
    obtain ⟨T206, h206, L206, X206, e206, W206, V206, N206, Z206, k206⟩ := f_ist X164 hx hZ e164 F198 N164 g109 Zq164 kq164 (H 29 rfl) ⟨by decide, l0⟩ 0 rfl (lt_b rfl)
    have F207 := F205.wr W206 g109
    have K208 := F204.wr W206 (Or.inr z110)
    have B209 := F199.other W206 (nL Fk1.lt (Nat.le_of_eq g108.symm))
    have B210 := F200.other W206 (nL Fk2.lt (Nat.le_of_eq g108.symm))
    have B211 := F201.other W206 (nL Fk3.lt (Nat.le_of_eq g108.symm))
    have B212 := F202.other W206 (nL Fk4.lt (Nat.le_of_eq g108.symm))
    have B213 := F203.other W206 (nL Fk0.lt (Nat.le_of_eq g108.symm))
    have k214 := f_inc X206 hx k206 (H 30 rfl) rfl (l' := #[sr a1, sr ls, sr mp, si 1, un, un, un]) rfl
    have k215 := f_go X206 hx k214 (H 31 rfl) (pc' := 18) (by decide)
    have k216 := f_ilN X206 hx k215 (H 9 rfl) rfl
    have k217 := f_alN X206 hx k216 (H 10 rfl) rfl
    obtain ⟨T218, X218, e218, k219⟩ := gFs X206 hx hZ hown (hww 86 rfl) e206 (B213.g 0 (v := (.ref b108)) (by decide) rfl rfl) k217 (H 11 rfl)
    have k220 := f_len X218 hx hZ e218 V206 k219 (H 12 rfl)
    by_cases l1 : (1 : Int32) < nn
    · have k221 := f_icN X218 hx k220 (H 13 rfl) (tlt l1).2.1
      obtain ⟨rfl, Ldo1, nw_do1⟩ := LD1 l1
      have k222 := f_alN X218 hx k221 (H 14 rfl) rfl
      obtain ⟨T223, X223, e223, k224⟩ := gFs X218 hx hZ hown (hww 86 rfl) e218 (B213.g 0 (v := (.ref b108)) (by decide) rfl rfl) k222 (H 15 rfl)
      have k225 := f_ilN X223 hx k224 (H 16 rfl) rfl
      have k226 := f_alN X223 hx k225 (H 17 rfl) rfl
      have k227 := f_alN X223 hx k226 (H 18 rfl) rfl
      have k228 := f_ilN X223 hx k227 (H 19 rfl) rfl
      obtain ⟨_, T229, L229, X229, hQ229, k229⟩ := c_I (W := 3) (x := mn57) X223 hx hZ hown (hww 314 rfl) (hww 315 rfl) (hww 316 rfl) (hww 317 rfl) (hww 318 rfl) (hww 319 rfl) (hww 320 rfl) (hww 81 rfl) (hww 321 rfl) (hww 29 rfl) (by decide) (Lz0.keep K208 nw_ls).1 (aget1 l Z a0 hw [] ls ea ka do0 do1 w2 nn h206 n0 Z206 (Lz0.keep K208 nw_ls).1 ((Lz0.keep K208 nw_ls).g 1 (v := (.ref ea)) (by decide) rfl rfl) ((Lz0.keep K208 nw_ls).g 2 (v := (.int nn)) (by decide) rfl rfl) (Lea.keep K208 nw_ea) l1) e223 (argsL := [(.int (1 : Int32))]) (rest := [(.ref mp), (.int (1 : Int32)), (.ref b108)]) rfl (by rw [hml]; rfl) k228 rfl (H 20 rfl) (lenOf pd__28I_29Ljava_2flang_2fObject_3b rfl) (b5 rfl)
      obtain ⟨rfl, N229q, e229⟩ := hQ229
      have N230 := Fr.app N206 N229q
      obtain ⟨T231, X231, e231, st231⟩ := castY X229 hx hZ hown (hww 335 rfl) e229 (Ins.self (Ldo1.keep K208 nw_do1).1) (g := (mkF m 40 #[sr a1, sr ls, sr mp, si 1, un, un, un] [vR do1, vR mp, vI 1, vR b108])) rfl rfl (H 21 rfl)
      have k232 : Rt p e below T231 (mkF m 43 #[sr a1, sr ls, sr mp, si 1, un, un, un] [vR do1, vR mp, vI 1, vR b108]) s₁ m #[(.ref a1), (.ref ls), (.ref mp)] 7 := fun t k => k229 t (st231 t k)
      obtain ⟨_, T233, L233, X233, hQ233, k233⟩ := c_V (W := 3) (x := mn16) X231 hx hZ hown (hww 337 rfl) (hww 338 rfl) (notFace_of_selects (args := #[]) (mvT hZ (hww 340 rfl))) (hww 340 rfl) (hww 339 rfl) (hww 341 rfl) (hww 202 rfl) (by decide) (Ldo1.keep K208 nw_do1).1 (sid l Z a0 hw [] do1 id1 h206 n0 Z206 ((Ldo1.keep K208 nw_do1).g 0 (v := (.ref id1)) (by decide) rfl rfl)) e231 (argsL := []) (rest := [(.ref mp), (.int (1 : Int32)), (.ref b108)]) rfl (by rw [hml]; rfl) k232 rfl (H 22 rfl) (lenOf pd__28_29Ljava_2flang_2fString_3b rfl) (b5 rfl)
      obtain ⟨rfl, N233q, e233⟩ := hQ233
      have N234 := Fr.app N230 N233q
      have k235 := f_ic X233 hx k233 (H 23 rfl) (v := 0) rfl
      obtain ⟨_, T236, L236, X236, hQ236, k236⟩ := c_S (W := 4) X233 hx hZ hown (hww 342 rfl) (hww 241 rfl) (hww 242 rfl) (hww 243 rfl) (by decide) (box l Z a0 hw [] (0 : Int32) ca ce h206 n0 Z206 Shi Sca Bx F207) e233 (argsL := [zI]) (rest := [(.ref id1), (.ref mp), (.int (1 : Int32)), (.ref b108)]) rfl (by rw [hml]; rfl) k235 rfl (H 24 rfl) (lenOf pd__28I_29Ljava_2flang_2fInteger_3b rfl) (b5 rfl)
      obtain ⟨h236, e236⟩ : ∃ h', T236.heap = h' := ⟨_, rfl⟩
      rw [e236] at hQ236
      obtain ⟨b236, rfl, N236q, K236, R236_0, P236_0⟩ := hQ236
      have N237 := Fr.app N234 N236q
      have F238 := V206.keep K236 nin0
      have F239 := F207.keep K236 all0
      have F240 := B209.keep K236 nin0
      have F241 := B210.keep K236 nin0
      have F242 := B211.keep K236 nin0
      have F243 := B212.keep K236 nin0
      have F244 := B213.keep K236 nin0
      have Z245 : n0 ≤ h236.size := Nat.le_trans Z206 K236.1
      have K246 := Keep.trans K208 K236 all0
      obtain ⟨T247, h247, Ls247, g1, hx1, X247, e247, N247, Zq247, F281, F282, F283, F284, F285, F286, F287, F288, hg1, kq247⟩ : ∃ (T247 : State) (h247 : Heap) (Ls247 : List Loc) (g1 : Int32) (hx1 : Int32), Stand p l e (rm 5 9 21 79) s m #[(.ref a1), (.ref ls), (.ref mp)] below meth c T247 Ls247 3 5 ∧ T247.heap = h247 ∧ Fr n0 Ls247 ∧ n0 ≤ h247.size ∧ Arv Z h247 b108 k108 .int nn [(.int g0), zI, zI] zI ∧ OBJ Z h247 mp "java/util/HashMap" lyMP [tv, (.int sz), (.int mc), (.int th), .null, (.float (1061158912 : UInt32))] ∧ OBJ Z h247 id0 "java/lang/String" lyST [(.ref ib0), zI, (.int hx0), zI] ∧ OBJ Z h247 id1 "java/lang/String" lyST [(.ref ib1), zI, (.int hx1), zI] ∧ OBJ Z h247 id2 "java/lang/String" lyST [(.ref ib2), zI, (.int hs2), zI] ∧ OBJ Z h247 a1 "com/example/multinomial/multinomial/eval/JudgedRanking" lyJR [(.ref b108), .null] ∧ Keep h0 h247 [a1, mp, id0, id1, id2] ∧ Old Z n0 h247 ∧ (g1 = own_gv t1 r1) ∧ (Rt p e below T247 (mkF m 64 #[sr a1, sr ls, sr mp, si 1, un, un, un] [vI g1, vI 1, vR b108]) s₁ m #[(.ref a1), (.ref ls), (.ref mp)] 7) := by
       rcases TB with ⟨rfl, rfl, rfl, rfl⟩ | ⟨rfl, ntb, Ltb, nw_tb⟩
       · obtain ⟨_, T248, L248, X248, hQ248, k248⟩ := c_I (W := 2) (x := mn58) X236 hx hZ hown (hww 343 rfl) (hww 344 rfl) (hww 345 rfl) (hww 346 rfl) (hww 347 rfl) (hww 348 rfl) (hww 349 rfl) (hww 95 rfl) (hww 350 rfl) (hww 53 rfl) (by decide) F240.1 (god2 l Z a0 hw [] mp id1 b236 h236 n0 Z245 F240.1 (F240.g 0 (v := .null) (by decide) rfl rfl)) e236 (argsL := [(.ref id1), (.ref b236)]) (rest := [(.int (1 : Int32)), (.ref b108)]) rfl (by rw [hml]; rfl) k236 rfl (H 25 rfl) (lenOf pd__28Ljava_2flang_2fObject_3bLjava_2flang_2fObject_3b_29Ljava_2flang_2fObject_3b rfl) (b5 rfl)
         obtain ⟨rfl, N248q, e248⟩ := hQ248
         have N249 := Fr.app N237 N248q
         obtain ⟨T250, X250, e250, st250⟩ := castY X248 hx hZ hown (hww 359 rfl) e248 (Ins.self R236_0.1) (g := (mkF m 55 #[sr a1, sr ls, sr mp, si 1, un, un, un] [vR b236, vI 1, vR b108])) rfl rfl (H 26 rfl)
         have k251 : Rt p e below T250 (mkF m 58 #[sr a1, sr ls, sr mp, si 1, un, un, un] [vR b236, vI 1, vR b108]) s₁ m #[(.ref a1), (.ref ls), (.ref mp)] 7 := fun t k => k248 t (st250 t k)
         obtain ⟨_, T252, L252, X252, hQ252, k252⟩ := c_V (W := 2) (x := mn14) X250 hx hZ hown (hww 361 rfl) (hww 362 rfl) (notFace_of_selects (args := #[]) (mvT hZ (hww 364 rfl))) (hww 364 rfl) (hww 363 rfl) (hww 365 rfl) (hww 242 rfl) (by decide) R236_0.1 (iv l Z a0 hw [] b236 (0 : Int32) h236 n0 Z245 (R236_0.g 0 (v := zI) (by decide) rfl rfl)) e250 (argsL := []) (rest := [(.int (1 : Int32)), (.ref b108)]) rfl (by rw [hml]; rfl) k251 rfl (H 27 rfl) (lenOf pd__28_29I rfl) (b5 rfl)
         obtain ⟨rfl, N252q, e252⟩ := hQ252
         have N253 := Fr.app N249 N252q
         obtain ⟨_, T254, L254, X254, hQ254, k254⟩ := c_S (W := 2) X252 hx hZ hown (hww 368 rfl) (hww 369 rfl) (hww 69 rfl) (hww 370 rfl) (by decide) (gain l Z a0 hw [] (0 : Int32) h236 n0 Z245 ) e252 (argsL := [zI]) (rest := [(.int (1 : Int32)), (.ref b108)]) rfl (by rw [hml]; rfl) k252 rfl (H 28 rfl) (lenOf pd__28I_29I rfl) (b5 rfl)
         obtain ⟨h254, e254⟩ : ∃ h', T254.heap = h' := ⟨_, rfl⟩
         rw [e254] at hQ254
         obtain ⟨j254, rfl, N254q, hh254, P254_0⟩ := hQ254
         have N255 := Fr.app N253 N254q
         have ee254 : T254.heap = h236 := e254.trans hh254
         exact ⟨T254, h236, _, j254, hs1, X254, ee254, N255, Z245, F238, F240, F241, F242, F243, F244, K246, F239, P254_0, k254⟩
       · rcases KP1 with ⟨rfl, rfl⟩ | ⟨rfl, rfl, Lnd1, Lbx1, nw_nd1, nw_bx1⟩
         · obtain ⟨_, T256, L256, X256, hQ256, k256⟩ := c_I (W := 2) (x := mn58) X236 hx hZ hown (hww 343 rfl) (hww 344 rfl) (hww 345 rfl) (hww 346 rfl) (hww 347 rfl) (hww 348 rfl) (hww 349 rfl) (hww 95 rfl) (hww 350 rfl) (hww 53 rfl) (by decide) F240.1 (god0 l Z a0 hw [] mp id1 ib1 ik1 (98 : Int32) cs (2 : Int32) tb kt [.null, t0, .null, t2, .null, .null, .null, .null, .null, .null, .null, .null, .null, .null, .null, .null] b236 h236 n0 Z245 F240.1 (F240.g 0 (v := (.ref tb)) (by decide) rfl rfl) (Ltb.keep K246 nw_tb) F242 (Lz2.keep K246 nw_ib1) ge_id1 (Ne.symm (own_nn nw_ib1 (i := 3) rfl)) ne_mp_id1 (own_nn nw_tb (i := 3) rfl) (by decide) (by decide) (by decide) Scs hcs (by decide) (by decide) rfl F239) e236 (argsL := [(.ref id1), (.ref b236)]) (rest := [(.int (1 : Int32)), (.ref b108)]) rfl (by rw [hml]; rfl) k236 rfl (H 25 rfl) (lenOf pd__28Ljava_2flang_2fObject_3bLjava_2flang_2fObject_3b_29Ljava_2flang_2fObject_3b rfl) (b5 rfl)
           obtain ⟨h256, e256⟩ : ∃ h', T256.heap = h' := ⟨_, rfl⟩
           rw [e256] at hQ256
           obtain ⟨rfl, N256q, K256, R256_0, R256_1⟩ := hQ256
           have N257 := Fr.app N237 N256q
           have F258 := F238.keep K256 (ninS (nG Fk3.lt (Nat.le_of_eq g108.symm)) nin0)
           have F259 := F239.keep K256 (allS ge_id1 all0)
           have F260 := F240.keep K256 (ninS ne_mp_id1 nin0)
           have F261 := F241.keep K256 (ninS ne_id0_id1 nin0)
           have F262 := F243.keep K256 (ninS (Ne.symm ne_id1_id2) nin0)
           have F263 := F244.keep K256 (ninS ne_a1_id1 nin0)
           have F264 := R236_0.keep K256 (ninS (own_bxne P236_0 ge_id1 B211.lt) nin0)
           have Z265 : n0 ≤ h256.size := Nat.le_trans Z245 K256.1
           have K266 := Keep.trans K246 K256 (allS (oL 3 rfl) all0)
           obtain ⟨T267, X267, e267, st267⟩ := castY X256 hx hZ hown (hww 359 rfl) e256 (Ins.self F264.1) (g := (mkF m 55 #[sr a1, sr ls, sr mp, si 1, un, un, un] [vR b236, vI 1, vR b108])) rfl rfl (H 26 rfl)
           have k268 : Rt p e below T267 (mkF m 58 #[sr a1, sr ls, sr mp, si 1, un, un, un] [vR b236, vI 1, vR b108]) s₁ m #[(.ref a1), (.ref ls), (.ref mp)] 7 := fun t k => k256 t (st267 t k)
           obtain ⟨_, T269, L269, X269, hQ269, k269⟩ := c_V (W := 2) (x := mn14) X267 hx hZ hown (hww 361 rfl) (hww 362 rfl) (notFace_of_selects (args := #[]) (mvT hZ (hww 364 rfl))) (hww 364 rfl) (hww 363 rfl) (hww 365 rfl) (hww 242 rfl) (by decide) F264.1 (iv l Z a0 hw [] b236 (0 : Int32) h256 n0 Z265 (F264.g 0 (v := zI) (by decide) rfl rfl)) e267 (argsL := []) (rest := [(.int (1 : Int32)), (.ref b108)]) rfl (by rw [hml]; rfl) k268 rfl (H 27 rfl) (lenOf pd__28_29I rfl) (b5 rfl)
           obtain ⟨rfl, N269q, e269⟩ := hQ269
           have N270 := Fr.app N257 N269q
           obtain ⟨_, T271, L271, X271, hQ271, k271⟩ := c_S (W := 2) X269 hx hZ hown (hww 368 rfl) (hww 369 rfl) (hww 69 rfl) (hww 370 rfl) (by decide) (gain l Z a0 hw [] (0 : Int32) h256 n0 Z265 ) e269 (argsL := [zI]) (rest := [(.int (1 : Int32)), (.ref b108)]) rfl (by rw [hml]; rfl) k269 rfl (H 28 rfl) (lenOf pd__28I_29I rfl) (b5 rfl)
           obtain ⟨h271, e271⟩ : ∃ h', T271.heap = h' := ⟨_, rfl⟩
           rw [e271] at hQ271
           obtain ⟨j271, rfl, N271q, hh271, P271_0⟩ := hQ271
           have N272 := Fr.app N270 N271q
           have ee271 : T271.heap = h256 := e271.trans hh271
           exact ⟨T271, h256, _, j271, (98 : Int32), X271, ee271, N272, Z265, F258, F260, F261, R256_0, F262, F263, K266, F259, P271_0, k271⟩
         · obtain ⟨_, T273, L273, X273, hQ273, k273⟩ := c_I (W := 2) (x := mn58) X236 hx hZ hown (hww 343 rfl) (hww 344 rfl) (hww 345 rfl) (hww 346 rfl) (hww 347 rfl) (hww 348 rfl) (hww 349 rfl) (hww 95 rfl) (hww 350 rfl) (hww 53 rfl) (by decide) F240.1 (god1 l Z a0 hw [] mp id1 (98 : Int32) (2 : Int32) tb kt [.null, t0, (.ref nd1), t2, .null, .null, .null, .null, .null, .null, .null, .null, .null, .null, .null, .null] nd1 bx1 b236 h236 n0 Z245 F240.1 (F240.g 0 (v := (.ref tb)) (by decide) rfl rfl) (Ltb.keep K246 nw_tb) F242.1 (F242.g 2 (v := (.int (98 : Int32))) (by decide) rfl rfl) (Lnd1.keep K246 nw_nd1) (by decide) (by decide) (by decide) (by decide) rfl) e236 (argsL := [(.ref id1), (.ref b236)]) (rest := [(.int (1 : Int32)), (.ref b108)]) rfl (by rw [hml]; rfl) k236 rfl (H 25 rfl) (lenOf pd__28Ljava_2flang_2fObject_3bLjava_2flang_2fObject_3b_29Ljava_2flang_2fObject_3b rfl) (b5 rfl)
           obtain ⟨rfl, N273q, e273⟩ := hQ273
           have N274 := Fr.app N237 N273q
           obtain ⟨T275, X275, e275, st275⟩ := castY X273 hx hZ hown (hww 359 rfl) e273 (Ins.self (Lbx1.keep K246 nw_bx1).1) (g := (mkF m 55 #[sr a1, sr ls, sr mp, si 1, un, un, un] [vR bx1, vI 1, vR b108])) rfl rfl (H 26 rfl)
           have k276 : Rt p e below T275 (mkF m 58 #[sr a1, sr ls, sr mp, si 1, un, un, un] [vR bx1, vI 1, vR b108]) s₁ m #[(.ref a1), (.ref ls), (.ref mp)] 7 := fun t k => k273 t (st275 t k)
           obtain ⟨_, T277, L277, X277, hQ277, k277⟩ := c_V (W := 2) (x := mn14) X275 hx hZ hown (hww 361 rfl) (hww 362 rfl) (notFace_of_selects (args := #[]) (mvT hZ (hww 364 rfl))) (hww 364 rfl) (hww 363 rfl) (hww 365 rfl) (hww 242 rfl) (by decide) (Lbx1.keep K246 nw_bx1).1 (iv l Z a0 hw [] bx1 r1 h236 n0 Z245 ((Lbx1.keep K246 nw_bx1).g 0 (v := (.int r1)) (by decide) rfl rfl)) e275 (argsL := []) (rest := [(.int (1 : Int32)), (.ref b108)]) rfl (by rw [hml]; rfl) k276 rfl (H 27 rfl) (lenOf pd__28_29I rfl) (b5 rfl)
           obtain ⟨rfl, N277q, e277⟩ := hQ277
           have N278 := Fr.app N274 N277q
           obtain ⟨_, T279, L279, X279, hQ279, k279⟩ := c_S (W := 2) X277 hx hZ hown (hww 368 rfl) (hww 369 rfl) (hww 69 rfl) (hww 370 rfl) (by decide) (gain l Z a0 hw [] r1 h236 n0 Z245 ) e277 (argsL := [(.int r1)]) (rest := [(.int (1 : Int32)), (.ref b108)]) rfl (by rw [hml]; rfl) k277 rfl (H 28 rfl) (lenOf pd__28I_29I rfl) (b5 rfl)
           obtain ⟨h279, e279⟩ : ∃ h', T279.heap = h' := ⟨_, rfl⟩
           rw [e279] at hQ279
           obtain ⟨j279, rfl, N279q, hh279, P279_0⟩ := hQ279
           have N280 := Fr.app N278 N279q
           have ee279 : T279.heap = h236 := e279.trans hh279
           exact ⟨T279, h236, _, j279, (98 : Int32), X279, ee279, N280, Z245, F238, F240, F241, F242, F243, F244, K246, F239, P279_0, k279⟩
      obtain ⟨T289, h289, L289, X289, e289, W289, V289, N289, Z289, k289⟩ := f_ist X247 hx hZ e247 F281 N247 g109 Zq247 kq247 (H 29 rfl) ⟨by decide, l1⟩ 1 rfl (lt_b rfl)
      have F290 := F288.wr W289 g109
      have K291 := F287.wr W289 (Or.inr z110)
      have B292 := F282.other W289 (nL Fk1.lt (Nat.le_of_eq g108.symm))
      have B293 := F283.other W289 (nL Fk2.lt (Nat.le_of_eq g108.symm))
      have B294 := F284.other W289 (nL Fk3.lt (Nat.le_of_eq g108.symm))
      have B295 := F285.other W289 (nL Fk4.lt (Nat.le_of_eq g108.symm))
      have B296 := F286.other W289 (nL Fk0.lt (Nat.le_of_eq g108.symm))
      have k297 := f_inc X289 hx k289 (H 30 rfl) rfl (l' := #[sr a1, sr ls, sr mp, si 2, un, un, un]) rfl
      have k298 := f_go X289 hx k297 (H 31 rfl) (pc' := 18) (by decide)
      have k299 := f_ilN X289 hx k298 (H 9 rfl) rfl
      have k300 := f_alN X289 hx k299 (H 10 rfl) rfl
      obtain ⟨T301, X301, e301, k302⟩ := gFs X289 hx hZ hown (hww 86 rfl) e289 (B296.g 0 (v := (.ref b108)) (by decide) rfl rfl) k300 (H 11 rfl)
      have k303 := f_len X301 hx hZ e301 V289 k302 (H 12 rfl)
      by_cases l2 : (2 : Int32) < nn
      · have k304 := f_icN X301 hx k303 (H 13 rfl) (tlt l2).2.1
        obtain ⟨rfl, Ldo2, nw_do2⟩ := LD2 l2
        have k305 := f_alN X301 hx k304 (H 14 rfl) rfl
        obtain ⟨T306, X306, e306, k307⟩ := gFs X301 hx hZ hown (hww 86 rfl) e301 (B296.g 0 (v := (.ref b108)) (by decide) rfl rfl) k305 (H 15 rfl)
        have k308 := f_ilN X306 hx k307 (H 16 rfl) rfl
        have k309 := f_alN X306 hx k308 (H 17 rfl) rfl
        have k310 := f_alN X306 hx k309 (H 18 rfl) rfl
        have k311 := f_ilN X306 hx k310 (H 19 rfl) rfl
        obtain ⟨_, T312, L312, X312, hQ312, k312⟩ := c_I (W := 3) (x := mn57) X306 hx hZ hown (hww 314 rfl) (hww 315 rfl) (hww 316 rfl) (hww 317 rfl) (hww 318 rfl) (hww 319 rfl) (hww 320 rfl) (hww 81 rfl) (hww 321 rfl) (hww 29 rfl) (by decide) (Lz0.keep K291 nw_ls).1 (aget2 l Z a0 hw [] ls ea ka do0 do1 do2 nn h289 n0 Z289 (Lz0.keep K291 nw_ls).1 ((Lz0.keep K291 nw_ls).g 1 (v := (.ref ea)) (by decide) rfl rfl) ((Lz0.keep K291 nw_ls).g 2 (v := (.int nn)) (by decide) rfl rfl) (Lea.keep K291 nw_ea) l2) e306 (argsL := [(.int (2 : Int32))]) (rest := [(.ref mp), (.int (2 : Int32)), (.ref b108)]) rfl (by rw [hml]; rfl) k311 rfl (H 20 rfl) (lenOf pd__28I_29Ljava_2flang_2fObject_3b rfl) (b5 rfl)
        obtain ⟨rfl, N312q, e312⟩ := hQ312
        have N313 := Fr.app N289 N312q
        obtain ⟨T314, X314, e314, st314⟩ := castY X312 hx hZ hown (hww 335 rfl) e312 (Ins.self (Ldo2.keep K291 nw_do2).1) (g := (mkF m 40 #[sr a1, sr ls, sr mp, si 2, un, un, un] [vR do2, vR mp, vI 2, vR b108])) rfl rfl (H 21 rfl)
        have k315 : Rt p e below T314 (mkF m 43 #[sr a1, sr ls, sr mp, si 2, un, un, un] [vR do2, vR mp, vI 2, vR b108]) s₁ m #[(.ref a1), (.ref ls), (.ref mp)] 7 := fun t k => k312 t (st314 t k)
        obtain ⟨_, T316, L316, X316, hQ316, k316⟩ := c_V (W := 3) (x := mn16) X314 hx hZ hown (hww 337 rfl) (hww 338 rfl) (notFace_of_selects (args := #[]) (mvT hZ (hww 340 rfl))) (hww 340 rfl) (hww 339 rfl) (hww 341 rfl) (hww 202 rfl) (by decide) (Ldo2.keep K291 nw_do2).1 (sid l Z a0 hw [] do2 id2 h289 n0 Z289 ((Ldo2.keep K291 nw_do2).g 0 (v := (.ref id2)) (by decide) rfl rfl)) e314 (argsL := []) (rest := [(.ref mp), (.int (2 : Int32)), (.ref b108)]) rfl (by rw [hml]; rfl) k315 rfl (H 22 rfl) (lenOf pd__28_29Ljava_2flang_2fString_3b rfl) (b5 rfl)
        obtain ⟨rfl, N316q, e316⟩ := hQ316
        have N317 := Fr.app N313 N316q
        have k318 := f_ic X316 hx k316 (H 23 rfl) (v := 0) rfl
        obtain ⟨_, T319, L319, X319, hQ319, k319⟩ := c_S (W := 4) X316 hx hZ hown (hww 342 rfl) (hww 241 rfl) (hww 242 rfl) (hww 243 rfl) (by decide) (box l Z a0 hw [] (0 : Int32) ca ce h289 n0 Z289 Shi Sca Bx F290) e316 (argsL := [zI]) (rest := [(.ref id2), (.ref mp), (.int (2 : Int32)), (.ref b108)]) rfl (by rw [hml]; rfl) k318 rfl (H 24 rfl) (lenOf pd__28I_29Ljava_2flang_2fInteger_3b rfl) (b5 rfl)
        obtain ⟨h319, e319⟩ : ∃ h', T319.heap = h' := ⟨_, rfl⟩
        rw [e319] at hQ319
        obtain ⟨b319, rfl, N319q, K319, R319_0, P319_0⟩ := hQ319
        have N320 := Fr.app N317 N319q
        have F321 := V289.keep K319 nin0
        have F322 := F290.keep K319 all0
        have F323 := B292.keep K319 nin0
        have F324 := B293.keep K319 nin0
        have F325 := B294.keep K319 nin0
        have F326 := B295.keep K319 nin0
        have F327 := B296.keep K319 nin0
        have Z328 : n0 ≤ h319.size := Nat.le_trans Z289 K319.1
        have K329 := Keep.trans K291 K319 all0
        obtain ⟨T330, h330, Ls330, g2, hx2, X330, e330, N330, Zq330, F364, F365, F366, F367, F368, F369, F370, F371, hg2, kq330⟩ : ∃ (T330 : State) (h330 : Heap) (Ls330 : List Loc) (g2 : Int32) (hx2 : Int32), Stand p l e (rm 5 9 21 79) s m #[(.ref a1), (.ref ls), (.ref mp)] below meth c T330 Ls330 4 6 ∧ T330.heap = h330 ∧ Fr n0 Ls330 ∧ n0 ≤ h330.size ∧ Arv Z h330 b108 k108 .int nn [(.int g0), (.int g1), zI] zI ∧ OBJ Z h330 mp "java/util/HashMap" lyMP [tv, (.int sz), (.int mc), (.int th), .null, (.float (1061158912 : UInt32))] ∧ OBJ Z h330 id0 "java/lang/String" lyST [(.ref ib0), zI, (.int hx0), zI] ∧ OBJ Z h330 id1 "java/lang/String" lyST [(.ref ib1), zI, (.int hx1), zI] ∧ OBJ Z h330 id2 "java/lang/String" lyST [(.ref ib2), zI, (.int hx2), zI] ∧ OBJ Z h330 a1 "com/example/multinomial/multinomial/eval/JudgedRanking" lyJR [(.ref b108), .null] ∧ Keep h0 h330 [a1, mp, id0, id1, id2] ∧ Old Z n0 h330 ∧ (g2 = own_gv t2 r2) ∧ (Rt p e below T330 (mkF m 64 #[sr a1, sr ls, sr mp, si 2, un, un, un] [vI g2, vI 2, vR b108]) s₁ m #[(.ref a1), (.ref ls), (.ref mp)] 7) := by
         rcases TB with ⟨rfl, rfl, rfl, rfl⟩ | ⟨rfl, ntb, Ltb, nw_tb⟩
         · obtain ⟨_, T331, L331, X331, hQ331, k331⟩ := c_I (W := 2) (x := mn58) X319 hx hZ hown (hww 343 rfl) (hww 344 rfl) (hww 345 rfl) (hww 346 rfl) (hww 347 rfl) (hww 348 rfl) (hww 349 rfl) (hww 95 rfl) (hww 350 rfl) (hww 53 rfl) (by decide) F323.1 (god2 l Z a0 hw [] mp id2 b319 h319 n0 Z328 F323.1 (F323.g 0 (v := .null) (by decide) rfl rfl)) e319 (argsL := [(.ref id2), (.ref b319)]) (rest := [(.int (2 : Int32)), (.ref b108)]) rfl (by rw [hml]; rfl) k319 rfl (H 25 rfl) (lenOf pd__28Ljava_2flang_2fObject_3bLjava_2flang_2fObject_3b_29Ljava_2flang_2fObject_3b rfl) (b5 rfl)
           obtain ⟨rfl, N331q, e331⟩ := hQ331
           have N332 := Fr.app N320 N331q
           obtain ⟨T333, X333, e333, st333⟩ := castY X331 hx hZ hown (hww 359 rfl) e331 (Ins.self R319_0.1) (g := (mkF m 55 #[sr a1, sr ls, sr mp, si 2, un, un, un] [vR b319, vI 2, vR b108])) rfl rfl (H 26 rfl)
           have k334 : Rt p e below T333 (mkF m 58 #[sr a1, sr ls, sr mp, si 2, un, un, un] [vR b319, vI 2, vR b108]) s₁ m #[(.ref a1), (.ref ls), (.ref mp)] 7 := fun t k => k331 t (st333 t k)
           obtain ⟨_, T335, L335, X335, hQ335, k335⟩ := c_V (W := 2) (x := mn14) X333 hx hZ hown (hww 361 rfl) (hww 362 rfl) (notFace_of_selects (args := #[]) (mvT hZ (hww 364 rfl))) (hww 364 rfl) (hww 363 rfl) (hww 365 rfl) (hww 242 rfl) (by decide) R319_0.1 (iv l Z a0 hw [] b319 (0 : Int32) h319 n0 Z328 (R319_0.g 0 (v := zI) (by decide) rfl rfl)) e333 (argsL := []) (rest := [(.int (2 : Int32)), (.ref b108)]) rfl (by rw [hml]; rfl) k334 rfl (H 27 rfl) (lenOf pd__28_29I rfl) (b5 rfl)
           obtain ⟨rfl, N335q, e335⟩ := hQ335
           have N336 := Fr.app N332 N335q
           obtain ⟨_, T337, L337, X337, hQ337, k337⟩ := c_S (W := 2) X335 hx hZ hown (hww 368 rfl) (hww 369 rfl) (hww 69 rfl) (hww 370 rfl) (by decide) (gain l Z a0 hw [] (0 : Int32) h319 n0 Z328 ) e335 (argsL := [zI]) (rest := [(.int (2 : Int32)), (.ref b108)]) rfl (by rw [hml]; rfl) k335 rfl (H 28 rfl) (lenOf pd__28I_29I rfl) (b5 rfl)
           obtain ⟨h337, e337⟩ : ∃ h', T337.heap = h' := ⟨_, rfl⟩
           rw [e337] at hQ337
           obtain ⟨j337, rfl, N337q, hh337, P337_0⟩ := hQ337
           have N338 := Fr.app N336 N337q
           have ee337 : T337.heap = h319 := e337.trans hh337
           exact ⟨T337, h319, _, j337, hs2, X337, ee337, N338, Z328, F321, F323, F324, F325, F326, F327, K329, F322, P337_0, k337⟩
         · rcases KP2 with ⟨rfl, rfl⟩ | ⟨rfl, rfl, Lnd2, Lbx2, nw_nd2, nw_bx2⟩
           · obtain ⟨_, T339, L339, X339, hQ339, k339⟩ := c_I (W := 2) (x := mn58) X319 hx hZ hown (hww 343 rfl) (hww 344 rfl) (hww 345 rfl) (hww 346 rfl) (hww 347 rfl) (hww 348 rfl) (hww 349 rfl) (hww 95 rfl) (hww 350 rfl) (hww 53 rfl) (by decide) F323.1 (god0 l Z a0 hw [] mp id2 ib2 ik2 (99 : Int32) cs (3 : Int32) tb kt [.null, t0, t1, .null, .null, .null, .null, .null, .null, .null, .null, .null, .null, .null, .null, .null] b319 h319 n0 Z328 F323.1 (F323.g 0 (v := (.ref tb)) (by decide) rfl rfl) (Ltb.keep K329 nw_tb) F326 (Lz3.keep K329 nw_ib2) ge_id2 (Ne.symm (own_nn nw_ib2 (i := 4) rfl)) ne_mp_id2 (own_nn nw_tb (i := 4) rfl) (by decide) (by decide) (by decide) Scs hcs (by decide) (by decide) rfl F322) e319 (argsL := [(.ref id2), (.ref b319)]) (rest := [(.int (2 : Int32)), (.ref b108)]) rfl (by rw [hml]; rfl) k319 rfl (H 25 rfl) (lenOf pd__28Ljava_2flang_2fObject_3bLjava_2flang_2fObject_3b_29Ljava_2flang_2fObject_3b rfl) (b5 rfl)
             obtain ⟨h339, e339⟩ : ∃ h', T339.heap = h' := ⟨_, rfl⟩
             rw [e339] at hQ339
             obtain ⟨rfl, N339q, K339, R339_0, R339_1⟩ := hQ339
             have N340 := Fr.app N320 N339q
             have F341 := F321.keep K339 (ninS (nG Fk4.lt (Nat.le_of_eq g108.symm)) nin0)
             have F342 := F322.keep K339 (allS ge_id2 all0)
             have F343 := F323.keep K339 (ninS ne_mp_id2 nin0)
             have F344 := F324.keep K339 (ninS ne_id0_id2 nin0)
             have F345 := F325.keep K339 (ninS ne_id1_id2 nin0)
             have F346 := F327.keep K339 (ninS ne_a1_id2 nin0)
             have F347 := R319_0.keep K339 (ninS (own_bxne P319_0 ge_id2 B295.lt) nin0)
             have Z348 : n0 ≤ h339.size := Nat.le_trans Z328 K339.1
             have K349 := Keep.trans K329 K339 (allS (oL 4 rfl) all0)
             obtain ⟨T350, X350, e350, st350⟩ := castY X339 hx hZ hown (hww 359 rfl) e339 (Ins.self F347.1) (g := (mkF m 55 #[sr a1, sr ls, sr mp, si 2, un, un, un] [vR b319, vI 2, vR b108])) rfl rfl (H 26 rfl)
             have k351 : Rt p e below T350 (mkF m 58 #[sr a1, sr ls, sr mp, si 2, un, un, un] [vR b319, vI 2, vR b108]) s₁ m #[(.ref a1), (.ref ls), (.ref mp)] 7 := fun t k => k339 t (st350 t k)
             obtain ⟨_, T352, L352, X352, hQ352, k352⟩ := c_V (W := 2) (x := mn14) X350 hx hZ hown (hww 361 rfl) (hww 362 rfl) (notFace_of_selects (args := #[]) (mvT hZ (hww 364 rfl))) (hww 364 rfl) (hww 363 rfl) (hww 365 rfl) (hww 242 rfl) (by decide) F347.1 (iv l Z a0 hw [] b319 (0 : Int32) h339 n0 Z348 (F347.g 0 (v := zI) (by decide) rfl rfl)) e350 (argsL := []) (rest := [(.int (2 : Int32)), (.ref b108)]) rfl (by rw [hml]; rfl) k351 rfl (H 27 rfl) (lenOf pd__28_29I rfl) (b5 rfl)
             obtain ⟨rfl, N352q, e352⟩ := hQ352
             have N353 := Fr.app N340 N352q
             obtain ⟨_, T354, L354, X354, hQ354, k354⟩ := c_S (W := 2) X352 hx hZ hown (hww 368 rfl) (hww 369 rfl) (hww 69 rfl) (hww 370 rfl) (by decide) (gain l Z a0 hw [] (0 : Int32) h339 n0 Z348 ) e352 (argsL := [zI]) (rest := [(.int (2 : Int32)), (.ref b108)]) rfl (by rw [hml]; rfl) k352 rfl (H 28 rfl) (lenOf pd__28I_29I rfl) (b5 rfl)
             obtain ⟨h354, e354⟩ : ∃ h', T354.heap = h' := ⟨_, rfl⟩
             rw [e354] at hQ354
             obtain ⟨j354, rfl, N354q, hh354, P354_0⟩ := hQ354
             have N355 := Fr.app N353 N354q
             have ee354 : T354.heap = h339 := e354.trans hh354
             exact ⟨T354, h339, _, j354, (99 : Int32), X354, ee354, N355, Z348, F341, F343, F344, F345, R339_0, F346, K349, F342, P354_0, k354⟩
           · obtain ⟨_, T356, L356, X356, hQ356, k356⟩ := c_I (W := 2) (x := mn58) X319 hx hZ hown (hww 343 rfl) (hww 344 rfl) (hww 345 rfl) (hww 346 rfl) (hww 347 rfl) (hww 348 rfl) (hww 349 rfl) (hww 95 rfl) (hww 350 rfl) (hww 53 rfl) (by decide) F323.1 (god1 l Z a0 hw [] mp id2 (99 : Int32) (3 : Int32) tb kt [.null, t0, t1, (.ref nd2), .null, .null, .null, .null, .null, .null, .null, .null, .null, .null, .null, .null] nd2 bx2 b319 h319 n0 Z328 F323.1 (F323.g 0 (v := (.ref tb)) (by decide) rfl rfl) (Ltb.keep K329 nw_tb) F326.1 (F326.g 2 (v := (.int (99 : Int32))) (by decide) rfl rfl) (Lnd2.keep K329 nw_nd2) (by decide) (by decide) (by decide) (by decide) rfl) e319 (argsL := [(.ref id2), (.ref b319)]) (rest := [(.int (2 : Int32)), (.ref b108)]) rfl (by rw [hml]; rfl) k319 rfl (H 25 rfl) (lenOf pd__28Ljava_2flang_2fObject_3bLjava_2flang_2fObject_3b_29Ljava_2flang_2fObject_3b rfl) (b5 rfl)
             obtain ⟨rfl, N356q, e356⟩ := hQ356
             have N357 := Fr.app N320 N356q
             obtain ⟨T358, X358, e358, st358⟩ := castY X356 hx hZ hown (hww 359 rfl) e356 (Ins.self (Lbx2.keep K329 nw_bx2).1) (g := (mkF m 55 #[sr a1, sr ls, sr mp, si 2, un, un, un] [vR bx2, vI 2, vR b108])) rfl rfl (H 26 rfl)
             have k359 : Rt p e below T358 (mkF m 58 #[sr a1, sr ls, sr mp, si 2, un, un, un] [vR bx2, vI 2, vR b108]) s₁ m #[(.ref a1), (.ref ls), (.ref mp)] 7 := fun t k => k356 t (st358 t k)
             obtain ⟨_, T360, L360, X360, hQ360, k360⟩ := c_V (W := 2) (x := mn14) X358 hx hZ hown (hww 361 rfl) (hww 362 rfl) (notFace_of_selects (args := #[]) (mvT hZ (hww 364 rfl))) (hww 364 rfl) (hww 363 rfl) (hww 365 rfl) (hww 242 rfl) (by decide) (Lbx2.keep K329 nw_bx2).1 (iv l Z a0 hw [] bx2 r2 h319 n0 Z328 ((Lbx2.keep K329 nw_bx2).g 0 (v := (.int r2)) (by decide) rfl rfl)) e358 (argsL := []) (rest := [(.int (2 : Int32)), (.ref b108)]) rfl (by rw [hml]; rfl) k359 rfl (H 27 rfl) (lenOf pd__28_29I rfl) (b5 rfl)
             obtain ⟨rfl, N360q, e360⟩ := hQ360
             have N361 := Fr.app N357 N360q
             obtain ⟨_, T362, L362, X362, hQ362, k362⟩ := c_S (W := 2) X360 hx hZ hown (hww 368 rfl) (hww 369 rfl) (hww 69 rfl) (hww 370 rfl) (by decide) (gain l Z a0 hw [] r2 h319 n0 Z328 ) e360 (argsL := [(.int r2)]) (rest := [(.int (2 : Int32)), (.ref b108)]) rfl (by rw [hml]; rfl) k360 rfl (H 28 rfl) (lenOf pd__28I_29I rfl) (b5 rfl)
             obtain ⟨h362, e362⟩ : ∃ h', T362.heap = h' := ⟨_, rfl⟩
             rw [e362] at hQ362
             obtain ⟨j362, rfl, N362q, hh362, P362_0⟩ := hQ362
             have N363 := Fr.app N361 N362q
             have ee362 : T362.heap = h319 := e362.trans hh362
             exact ⟨T362, h319, _, j362, (99 : Int32), X362, ee362, N363, Z328, F321, F323, F324, F325, F326, F327, K329, F322, P362_0, k362⟩
        obtain ⟨T372, h372, L372, X372, e372, W372, V372, N372, Z372, k372⟩ := f_ist X330 hx hZ e330 F364 N330 g109 Zq330 kq330 (H 29 rfl) ⟨by decide, l2⟩ 2 rfl (lt_b rfl)
        have F373 := F371.wr W372 g109
        have K374 := F370.wr W372 (Or.inr z110)
        have B375 := F365.other W372 (nL Fk1.lt (Nat.le_of_eq g108.symm))
        have B376 := F366.other W372 (nL Fk2.lt (Nat.le_of_eq g108.symm))
        have B377 := F367.other W372 (nL Fk3.lt (Nat.le_of_eq g108.symm))
        have B378 := F368.other W372 (nL Fk4.lt (Nat.le_of_eq g108.symm))
        have B379 := F369.other W372 (nL Fk0.lt (Nat.le_of_eq g108.symm))
        have k380 := f_inc X372 hx k372 (H 30 rfl) rfl (l' := #[sr a1, sr ls, sr mp, si 3, un, un, un]) rfl
        have k381 := f_go X372 hx k380 (H 31 rfl) (pc' := 18) (by decide)
        have k382 := f_ilN X372 hx k381 (H 9 rfl) rfl
        have k383 := f_alN X372 hx k382 (H 10 rfl) rfl
        obtain ⟨T384, X384, e384, k385⟩ := gFs X372 hx hZ hown (hww 86 rfl) e372 (B379.g 0 (v := (.ref b108)) (by decide) rfl rfl) k383 (H 11 rfl)
        have k386 := f_len X384 hx hZ e384 V372 k385 (H 12 rfl)
        have k387 := f_icY X384 hx k386 (H 13 rfl) (pc' := 71) (flt (own_lt3 hn3)).2.1 (by decide)
        exact ⟨T384, h372, _, g0, g1, g2, (3 : Int32), X384, e384, N372, Z372, B379, B375, V372, K374, F373, (fun _ => hg0), (fun _ => hg1), (fun _ => hg2), k387⟩
      · have k388 := f_icY X301 hx k303 (H 13 rfl) (pc' := 71) (flt l2).2.1 (by decide)
        exact ⟨T301, h289, _, g0, g1, (0 : Int32), (2 : Int32), (X301.more (by decide) (by decide)), e301, N289, Z289, B296, B292, V289, K291, F290, (fun _ => hg0), (fun _ => hg1), (fun q => absurd q l2), k388⟩
    · have k389 := f_icY X218 hx k220 (H 13 rfl) (pc' := 71) (flt l1).2.1 (by decide)
      exact ⟨T218, h206, _, g0, (0 : Int32), (0 : Int32), (1 : Int32), (X218.more (by decide) (by decide)), e218, N206, Z206, B213, B209, V206, K208, F207, (fun _ => hg0), (fun q => absurd q l1), (fun q => absurd q (own_ln12 l1)), k389⟩
  · have k390 := f_icY X134 hx k136 (H 13 rfl) (pc' := 71) (flt l0).2.1 (by decide)
    exact ⟨T134, h122, _, (0 : Int32), (0 : Int32), (0 : Int32), (0 : Int32), (X134.more (by decide) (by decide)), e134, N122, Z122, B122, B126, F124, K125, F123, (fun q => absurd q l0), (fun q => absurd q (own_ln01 l0)), (fun q => absurd q (own_ln02 l0)), k390⟩
 obtain ⟨T396, h396, Ls396, br, kr, sx, itx, q0, q1, q2, cn, sl6, X396, e396, N396, Zq396, F1377, F1378, F1379, F1380, F1381, F1382, PR, S6, kq396⟩ : ∃ (T396 : State) (h396 : Heap) (Ls396 : List Loc) (br : Addr) (kr : ClassId) (sx : Int32) (itx : Addr) (q0 : Int32) (q1 : Int32) (q2 : Int32) (cn : Int32) (sl6 : Slot), Stand p l e (rm 5 9 21 79) s m #[(.ref a1), (.ref ls), (.ref mp)] below meth c T396 Ls396 7 15 ∧ T396.heap = h396 ∧ Fr n0 Ls396 ∧ n0 ≤ h396.size ∧ OBJ Z h396 a1 "com/example/multinomial/multinomial/eval/JudgedRanking" lyJR [(.ref b108), .null] ∧ Arv Z h396 b108 k108 .int nn [(.int g0), (.int g1), (.int g2)] zI ∧ Arv Z h396 br kr .int sx [(.int q0), (.int q1), (.int q2)] zI ∧ Exa Z h396 br "[I" ∧ Keep h0 h396 [a1, mp, id0, id1, id2] ∧ Old Z n0 h396 ∧ ((sx = (0 : Int32) ∧ cn = (0 : Int32)) ∨ (sx = (1 : Int32) ∧ cn = (0 : Int32)) ∨ (sx = (1 : Int32) ∧ cn = (1 : Int32)) ∨ (sx = (2 : Int32) ∧ cn = (0 : Int32)) ∨ (sx = (2 : Int32) ∧ cn = (1 : Int32)) ∨ (sx = (2 : Int32) ∧ cn = (2 : Int32)) ∨ (sx = (3 : Int32) ∧ cn = (0 : Int32)) ∨ (sx = (3 : Int32) ∧ cn = (1 : Int32)) ∨ (sx = (3 : Int32) ∧ cn = (2 : Int32)) ∨ (sx = (3 : Int32) ∧ cn = (3 : Int32))) ∧ (s1 sl6 = true) ∧ (Rt p e below T396 (mkF m 141 #[sr a1, sr ls, sr mp, sr br, si cn, sr itx, sl6] []) s₁ m #[(.ref a1), (.ref ls), (.ref mp)] 7) := by
  rcases TB with ⟨rfl, rfl, rfl, rfl⟩ | ⟨rfl, ntb, Ltb, nw_tb⟩
  · obtain rfl : sz = (0 : Int32) := HZ.trans (by decide)
    have k397 := f_alN X137 hx kq137 (H 32 rfl) rfl
    obtain ⟨_, T398, L398, X398, hQ398, k398⟩ := c_I (W := 0) (x := mn59) X137 hx hZ hown (hww 88 rfl) (hww 89 rfl) (hww 90 rfl) (hww 91 rfl) (hww 92 rfl) (hww 93 rfl) (hww 94 rfl) (hww 95 rfl) (hww 96 rfl) (hww 53 rfl) (by decide) F392.1 (hsz l Z a0 hw [] mp (0 : Int32) h137 n0 Zq137 (F392.g 1 (v := zI) (by decide) rfl rfl)) e137 (argsL := []) (rest := []) rfl (by rw [hml]; rfl) k397 rfl (H 33 rfl) (lenOf pd__28_29I rfl) (b5 rfl)
    obtain ⟨rfl, N398q, e398⟩ := hQ398
    have N399 := Fr.app N137 N398q
    obtain ⟨T400, h400, k400, X400, e400, E400, A400, Y400, st400⟩ := newPE X398 hx hZ (hww 85 rfl) e398 (g := (mkF m 77 #[sr a1, sr ls, sr mp, si iz, un, un, un] [vI 0])) rfl (H 34 rfl) rfl (by decide) (cap := 0) (by decide) (by decide) (by decide) (by decide) (ad := "[I") (by decide)
    obtain ⟨b400, g400⟩ : ∃ z, z = h137.size := ⟨_, rfl⟩
    rw [← g400] at A400 Y400 st400
    have g401 : n0 ≤ b400 := Nat.le_trans Zq137 (Nat.le_of_eq g400.symm)
    have z402 : h0.size ≤ b400 := Nat.le_trans F394.1 (Nat.le_of_eq g400.symm)
    have F403 := F391.ext E400
    have F404 := F392.ext E400
    have F405 := F393.ext E400
    have F406 := F395.ext E400
    have Z407 : n0 ≤ h400.size := Nat.le_trans Zq137 E400.1
    have K408 := F394.ext E400
    have V409 : Arv Z h400 b400 k400 .int (0 : Int32) [] zI := (Arv.new A400 (by decide)).pad (pad_rep [] zI 0)
    have k410 : Rt p e below T400 (mkF m 79 #[sr a1, sr ls, sr mp, si iz, un, un, un] [vR b400]) s₁ m #[(.ref a1), (.ref ls), (.ref mp)] 7 := fun t k => k398 t (st400 t k)
    have k411 := f_asN X400 hx k410 (H 35 rfl) (l' := #[sr a1, sr ls, sr mp, sr b400, un, un, un]) rfl
    have k412 := f_ic X400 hx k411 (H 36 rfl) (v := 0) rfl
    have k413 := f_is X400 hx k412 (H 37 rfl) (l' := #[sr a1, sr ls, sr mp, sr b400, si 0, un, un]) rfl
    have k414 := f_alN X400 hx k413 (H 38 rfl) rfl
    obtain ⟨_, T415, L415, X415, hQ415, k415⟩ := c_I (W := 0) (x := mn60) X400 hx hZ hown (hww 99 rfl) (hww 100 rfl) (hww 101 rfl) (hww 102 rfl) (hww 103 rfl) (hww 104 rfl) (hww 105 rfl) (hww 95 rfl) (hww 106 rfl) (hww 53 rfl) (by decide) F404.1 (vls l Z a0 hw [] mp .null (0 : Int32) mc th h400 n0 Z407 F404 ge_mp) e400 (argsL := []) (rest := []) rfl (by rw [hml]; rfl) k414 rfl (H 39 rfl) (lenOf pd__28_29Ljava_2futil_2fCollection_3b rfl) (b5 rfl)
    obtain ⟨h415, e415⟩ : ∃ h', T415.heap = h' := ⟨_, rfl⟩
    rw [e415] at hQ415
    obtain ⟨vw415, rfl, N415q, K415, Zx415_0, R415_0, R415_1⟩ := hQ415
    have N416 := Fr.app N399 N415q
    have F417 := F403.keep K415 (ninS ne_a1_mp nin0)
    have F418 := F405.keep K415 (ninS (nG Fk1.lt (Nat.le_of_eq g108.symm)) nin0)
    have F419 := F406.keep K415 (allS ge_mp all0)
    have F420 := V409.keep K415 (ninS (nG F392.lt (Nat.le_of_eq g400.symm)) nin0)
    have F421 := Y400.keep K415
    have Z422 : n0 ≤ h415.size := Nat.le_trans Z407 K415.1
    have K423 := Keep.trans K408 K415 (allS (oL 1 rfl) all0)
    obtain ⟨_, T424, L424, X424, hQ424, k424⟩ := c_I (W := 0) (x := mn61) X415 hx hZ hown (hww 121 rfl) (hww 122 rfl) (hww 123 rfl) (hww 124 rfl) (hww 125 rfl) (hww 126 rfl) (hww 127 rfl) (hww 128 rfl) (hww 129 rfl) (hww 112 rfl) (by decide) R415_1.1 (vitNone l Z a0 hw [] vw415 mp mc (0 : Int32) h415 n0 Z422 (R415_0.g 2 (v := (.int mc)) (by decide) rfl rfl) (R415_0.g 0 (v := .null) (by decide) rfl rfl) (R415_0.g 1 (v := zI) (by decide) rfl rfl) R415_1) e415 (argsL := []) (rest := []) rfl (by rw [hml]; rfl) k415 rfl (H 40 rfl) (lenOf pd__28_29Ljava_2futil_2fIterator_3b rfl) (b5 rfl)
    obtain ⟨h424, e424⟩ : ∃ h', T424.heap = h' := ⟨_, rfl⟩
    rw [e424] at hQ424
    obtain ⟨it424, rfl, N424q, K424, Zx424_0, R424_0⟩ := hQ424
    have N425 := Fr.app N416 N424q
    have F426 := F417.keep K424 nin0
    have F427 := F418.keep K424 nin0
    have F428 := F419.keep K424 all0
    have F429 := F420.keep K424 nin0
    have F430 := F421.keep K424
    have F431 := R415_0.keep K424 nin0
    have F432 := R415_1.keep K424 nin0
    have Z433 : n0 ≤ h424.size := Nat.le_trans Z422 K424.1
    have K434 := Keep.trans K423 K424 all0
    have k435 := f_as X424 hx k424 (H 41 rfl) (l' := #[sr a1, sr ls, sr mp, sr b400, si 0, sr it424, un]) rfl
    have k436 := f_al X424 hx k435 (H 42 rfl) rfl
    obtain ⟨_, T437, L437, X437, hQ437, k437⟩ := c_I (W := 0) (x := mn62) X424 hx hZ hown (hww 158 rfl) (hww 159 rfl) (hww 160 rfl) (hww 161 rfl) (hww 162 rfl) (hww 163 rfl) (hww 164 rfl) (hww 165 rfl) (hww 166 rfl) (hww 141 rfl) (by decide) R424_0.1 (hn0 l Z a0 hw [] it424 h424 n0 Z433 (R424_0.g 2 (v := .null) (by decide) rfl rfl)) e424 (argsL := []) (rest := []) rfl (by rw [hml]; rfl) k436 rfl (H 43 rfl) (lenOf pd__28_29Z rfl) (b5 rfl)
    obtain ⟨rfl, N437q, e437⟩ := hQ437
    have N438 := Fr.app N425 N437q
    have k439 := f_ifY X437 hx k437 (H 44 rfl) (pc' := 141) ((if0 _ _).trans (teq (by decide)).1) (by decide)
    exact ⟨T437, h424, _, b400, k400, (0 : Int32), it424, (0 : Int32), (0 : Int32), (0 : Int32), (0 : Int32), un, (X437.more (by decide) (by decide)), e437, N438, Z433, F426, F427, (F429.pad (pad_rep [] zI 3)), F430, K434, F428, (Or.inl ⟨rfl, rfl⟩), rfl, k439⟩
  · rcases KP0 with ⟨rfl, rfl⟩ | ⟨rfl, rfl, Lnd0, Lbx0, nw_nd0, nw_bx0⟩
    · rcases KP1 with ⟨rfl, rfl⟩ | ⟨rfl, rfl, Lnd1, Lbx1, nw_nd1, nw_bx1⟩
      · rcases KP2 with ⟨rfl, rfl⟩ | ⟨rfl, rfl, Lnd2, Lbx2, nw_nd2, nw_bx2⟩
        · exact absurd ⟨rfl, rfl, rfl⟩ ntb
        · obtain rfl : sz = (1 : Int32) := HZ.trans (by show (0 : Int32) + (0 : Int32) + (1 : Int32) = (1 : Int32); decide)
          have k440 := f_alN X137 hx kq137 (H 32 rfl) rfl
          obtain ⟨_, T441, L441, X441, hQ441, k441⟩ := c_I (W := 0) (x := mn59) X137 hx hZ hown (hww 88 rfl) (hww 89 rfl) (hww 90 rfl) (hww 91 rfl) (hww 92 rfl) (hww 93 rfl) (hww 94 rfl) (hww 95 rfl) (hww 96 rfl) (hww 53 rfl) (by decide) F392.1 (hsz l Z a0 hw [] mp (1 : Int32) h137 n0 Zq137 (F392.g 1 (v := (.int (1 : Int32))) (by decide) rfl rfl)) e137 (argsL := []) (rest := []) rfl (by rw [hml]; rfl) k440 rfl (H 33 rfl) (lenOf pd__28_29I rfl) (b5 rfl)
          obtain ⟨rfl, N441q, e441⟩ := hQ441
          have N442 := Fr.app N137 N441q
          obtain ⟨T443, h443, k443, X443, e443, E443, A443, Y443, st443⟩ := newPE X441 hx hZ (hww 85 rfl) e441 (g := (mkF m 77 #[sr a1, sr ls, sr mp, si iz, un, un, un] [vI 1])) rfl (H 34 rfl) rfl (by decide) (cap := 1) (by decide) (by decide) (by decide) (by decide) (ad := "[I") (by decide)
          obtain ⟨b443, g443⟩ : ∃ z, z = h137.size := ⟨_, rfl⟩
          rw [← g443] at A443 Y443 st443
          have g444 : n0 ≤ b443 := Nat.le_trans Zq137 (Nat.le_of_eq g443.symm)
          have z445 : h0.size ≤ b443 := Nat.le_trans F394.1 (Nat.le_of_eq g443.symm)
          have F446 := F391.ext E443
          have F447 := F392.ext E443
          have F448 := F393.ext E443
          have F449 := F395.ext E443
          have Z450 : n0 ≤ h443.size := Nat.le_trans Zq137 E443.1
          have K451 := F394.ext E443
          have V452 : Arv Z h443 b443 k443 .int (1 : Int32) [zI] zI := (Arv.new A443 (by decide)).pad (pad_rep [] zI 1)
          have k453 : Rt p e below T443 (mkF m 79 #[sr a1, sr ls, sr mp, si iz, un, un, un] [vR b443]) s₁ m #[(.ref a1), (.ref ls), (.ref mp)] 7 := fun t k => k441 t (st443 t k)
          have k454 := f_asN X443 hx k453 (H 35 rfl) (l' := #[sr a1, sr ls, sr mp, sr b443, un, un, un]) rfl
          have k455 := f_ic X443 hx k454 (H 36 rfl) (v := 0) rfl
          have k456 := f_is X443 hx k455 (H 37 rfl) (l' := #[sr a1, sr ls, sr mp, sr b443, si 0, un, un]) rfl
          have k457 := f_alN X443 hx k456 (H 38 rfl) rfl
          obtain ⟨_, T458, L458, X458, hQ458, k458⟩ := c_I (W := 0) (x := mn60) X443 hx hZ hown (hww 99 rfl) (hww 100 rfl) (hww 101 rfl) (hww 102 rfl) (hww 103 rfl) (hww 104 rfl) (hww 105 rfl) (hww 95 rfl) (hww 106 rfl) (hww 53 rfl) (by decide) F447.1 (vls l Z a0 hw [] mp (.ref tb) (1 : Int32) mc th h443 n0 Z450 F447 ge_mp) e443 (argsL := []) (rest := []) rfl (by rw [hml]; rfl) k457 rfl (H 39 rfl) (lenOf pd__28_29Ljava_2futil_2fCollection_3b rfl) (b5 rfl)
          obtain ⟨h458, e458⟩ : ∃ h', T458.heap = h' := ⟨_, rfl⟩
          rw [e458] at hQ458
          obtain ⟨vw458, rfl, N458q, K458, Zx458_0, R458_0, R458_1⟩ := hQ458
          have N459 := Fr.app N442 N458q
          have F460 := F446.keep K458 (ninS ne_a1_mp nin0)
          have F461 := F448.keep K458 (ninS (nG Fk1.lt (Nat.le_of_eq g108.symm)) nin0)
          have F462 := F449.keep K458 (allS ge_mp all0)
          have F463 := V452.keep K458 (ninS (nG F392.lt (Nat.le_of_eq g443.symm)) nin0)
          have F464 := Y443.keep K458
          have Z465 : n0 ≤ h458.size := Nat.le_trans Z450 K458.1
          have K466 := Keep.trans K451 K458 (allS (oL 1 rfl) all0)
          obtain ⟨_, T467, L467, X467, hQ467, k467⟩ := c_I (W := 0) (x := mn61) X458 hx hZ hown (hww 121 rfl) (hww 122 rfl) (hww 123 rfl) (hww 124 rfl) (hww 125 rfl) (hww 126 rfl) (hww 127 rfl) (hww 128 rfl) (hww 129 rfl) (hww 112 rfl) (by decide) R458_1.1 (vit3 l Z a0 hw [] vw458 mp mc (1 : Int32) tb kt nd2 h458 n0 Z465 (R458_0.g 2 (v := (.int mc)) (by decide) rfl rfl) (R458_0.g 0 (v := (.ref tb)) (by decide) rfl rfl) (R458_0.g 1 (v := (.int (1 : Int32))) (by decide) rfl rfl) (Ltb.keep K466 nw_tb) R458_1 (by decide)) e458 (argsL := []) (rest := []) rfl (by rw [hml]; rfl) k458 rfl (H 40 rfl) (lenOf pd__28_29Ljava_2futil_2fIterator_3b rfl) (b5 rfl)
          obtain ⟨h467, e467⟩ : ∃ h', T467.heap = h' := ⟨_, rfl⟩
          rw [e467] at hQ467
          obtain ⟨it467, rfl, N467q, K467, Zx467_0, R467_0⟩ := hQ467
          have N468 := Fr.app N459 N467q
          have F469 := F460.keep K467 nin0
          have F470 := F461.keep K467 nin0
          have F471 := F462.keep K467 all0
          have F472 := F463.keep K467 nin0
          have F473 := F464.keep K467
          have F474 := R458_0.keep K467 nin0
          have F475 := R458_1.keep K467 nin0
          have Z476 : n0 ≤ h467.size := Nat.le_trans Z465 K467.1
          have K477 := Keep.trans K466 K467 all0
          have k478 := f_as X467 hx k467 (H 41 rfl) (l' := #[sr a1, sr ls, sr mp, sr b443, si 0, sr it467, un]) rfl
          have k479 := f_al X467 hx k478 (H 42 rfl) rfl
          obtain ⟨_, T480, L480, X480, hQ480, k480⟩ := c_I (W := 0) (x := mn62) X467 hx hZ hown (hww 158 rfl) (hww 159 rfl) (hww 160 rfl) (hww 161 rfl) (hww 162 rfl) (hww 163 rfl) (hww 164 rfl) (hww 165 rfl) (hww 166 rfl) (hww 141 rfl) (by decide) R467_0.1 (hn1 l Z a0 hw [] it467 nd2 h467 n0 Z476 (R467_0.g 2 (v := (.ref nd2)) (by decide) rfl rfl)) e467 (argsL := []) (rest := []) rfl (by rw [hml]; rfl) k479 rfl (H 43 rfl) (lenOf pd__28_29Z rfl) (b5 rfl)
          obtain ⟨rfl, N480q, e480⟩ := hQ480
          have N481 := Fr.app N468 N480q
          have k482 := f_ifN X480 hx k480 (H 44 rfl) ((if0 _ _).trans (feq (by decide)).1)
          have k483 := f_al X480 hx k482 (H 45 rfl) rfl
          obtain ⟨_, T484, L484, X484, hQ484, k484⟩ := c_I (W := 0) (x := mn63) X480 hx hZ hown (hww 373 rfl) (hww 374 rfl) (hww 375 rfl) (hww 376 rfl) (hww 377 rfl) (hww 378 rfl) (hww 379 rfl) (hww 165 rfl) (hww 380 rfl) (hww 132 rfl) (by decide) R467_0.1 (nxt3None l Z a0 hw [] it467 mp mc tb kt nd2 .null .null .null (.ref nd2) bx2 h467 n0 Z476 R467_0 (F474.g 2 (v := (.int mc)) (by decide) rfl rfl) (F474.g 0 (v := (.ref tb)) (by decide) rfl rfl) (Ltb.keep K477 nw_tb) ((Lnd2.keep K477 nw_nd2).g 3 (v := .null) (by decide) rfl rfl) ((Lnd2.keep K477 nw_nd2).g 2 (v := (.ref bx2)) (by decide) rfl rfl) (Nat.le_trans Z465 Zx467_0) (nG R458_0.lt Zx467_0) (nG Ltb.lt (Nat.le_trans K466.1 Zx467_0)) (nG Lnd2.lt (Nat.le_trans K466.1 Zx467_0))) e480 (argsL := []) (rest := []) rfl (by rw [hml]; rfl) k483 rfl (H 46 rfl) (lenOf pd__28_29Ljava_2flang_2fObject_3b rfl) (b5 rfl)
          obtain ⟨h484, e484⟩ : ∃ h', T484.heap = h' := ⟨_, rfl⟩
          rw [e484] at hQ484
          obtain ⟨rfl, N484q, K484, R484_0⟩ := hQ484
          have N485 := Fr.app N481 N484q
          have F486 := F469.keep K484 (ninS (nL F460.lt Zx467_0) nin0)
          have F487 := F470.keep K484 (ninS (nL F461.lt Zx467_0) nin0)
          have F488 := F471.keep K484 (allS (Nat.le_trans Z465 Zx467_0) all0)
          have F489 := F472.keep K484 (ninS (nL F463.lt Zx467_0) nin0)
          have F490 := F473.keep K484
          have F491 := F474.keep K484 (ninS (nL R458_0.lt Zx467_0) nin0)
          have Z492 : n0 ≤ h484.size := Nat.le_trans Z476 K484.1
          have K493 := Keep.trans K477 K484 (allS (Or.inr (Nat.le_trans K466.1 Zx467_0)) all0)
          obtain ⟨T494, X494, e494, st494⟩ := castY X484 hx hZ hown (hww 359 rfl) e484 (Ins.self (Lbx2.keep K493 nw_bx2).1) (g := (mkF m 113 #[sr a1, sr ls, sr mp, sr b443, si 0, sr it467, un] [vR bx2])) rfl rfl (H 47 rfl)
          have k495 : Rt p e below T494 (mkF m 116 #[sr a1, sr ls, sr mp, sr b443, si 0, sr it467, un] [vR bx2]) s₁ m #[(.ref a1), (.ref ls), (.ref mp)] 7 := fun t k => k484 t (st494 t k)
          obtain ⟨_, T496, L496, X496, hQ496, k496⟩ := c_V (W := 0) (x := mn14) X494 hx hZ hown (hww 361 rfl) (hww 362 rfl) (notFace_of_selects (args := #[]) (mvT hZ (hww 364 rfl))) (hww 364 rfl) (hww 363 rfl) (hww 365 rfl) (hww 242 rfl) (by decide) (Lbx2.keep K493 nw_bx2).1 (iv l Z a0 hw [] bx2 r2 h484 n0 Z492 ((Lbx2.keep K493 nw_bx2).g 0 (v := (.int r2)) (by decide) rfl rfl)) e494 (argsL := []) (rest := []) rfl (by rw [hml]; rfl) k495 rfl (H 48 rfl) (lenOf pd__28_29I rfl) (b5 rfl)
          obtain ⟨rfl, N496q, e496⟩ := hQ496
          have N497 := Fr.app N485 N496q
          have k498 := f_is X496 hx k496 (H 49 rfl) (l' := #[sr a1, sr ls, sr mp, sr b443, si 0, sr it467, si r2]) rfl
          have k499 := f_il X496 hx k498 (H 50 rfl) rfl
          obtain ⟨_, T500, L500, X500, hQ500, k500⟩ := c_S (W := 0) X496 hx hZ hown (hww 368 rfl) (hww 369 rfl) (hww 69 rfl) (hww 370 rfl) (by decide) (gain l Z a0 hw [] r2 h484 n0 Z492 ) e496 (argsL := [(.int r2)]) (rest := []) rfl (by rw [hml]; rfl) k499 rfl (H 51 rfl) (lenOf pd__28I_29I rfl) (b5 rfl)
          obtain ⟨h500, e500⟩ : ∃ h', T500.heap = h' := ⟨_, rfl⟩
          rw [e500] at hQ500
          obtain ⟨j500, rfl, N500q, hh500, P500_0⟩ := hQ500
          have N501 := Fr.app N497 N500q
          have ee500 : T500.heap = h484 := e500.trans hh500
          obtain ⟨T502, h502, Ls502, u00, cn1, X502, e502, N502, Zq502, F517, F518, F519, F520, F521, F522, F523, F524, hcr0, kq502⟩ : ∃ (T502 : State) (h502 : Heap) (Ls502 : List Loc) (u00 : Int32) (cn1 : Int32), Stand p l e (rm 5 9 21 79) s m #[(.ref a1), (.ref ls), (.ref mp)] below meth c T502 Ls502 7 13 ∧ T502.heap = h502 ∧ Fr n0 Ls502 ∧ n0 ≤ h502.size ∧ OBJ Z h502 a1 "com/example/multinomial/multinomial/eval/JudgedRanking" lyJR [(.ref b108), .null] ∧ Arv Z h502 b108 k108 .int nn [(.int g0), (.int g1), (.int g2)] zI ∧ Arv Z h502 b443 k443 .int (1 : Int32) [(.int u00)] zI ∧ Exa Z h502 b443 "[I" ∧ OBJ Z h502 mp "java/util/HashMap" lyMP [(.ref tb), (.int (1 : Int32)), (.int mc), (.int th), (.ref vw458), (.float (1061158912 : UInt32))] ∧ OBJ Z h502 it467 "java/util/HashMap$ValueIterator" lyIT [(.ref mp), (.int mc), .null, (.ref nd2), (.int (16 : Int32))] ∧ Keep h0 h502 [a1, mp, id0, id1, id2] ∧ Old Z n0 h502 ∧ (cn1 = (0 : Int32) ∨ cn1 = (1 : Int32)) ∧ (Rt p e below T502 (mkF m 138 #[sr a1, sr ls, sr mp, sr b443, si cn1, sr it467, si r2] []) s₁ m #[(.ref a1), (.ref ls), (.ref mp)] 7) := by
           by_cases qp : (0 : Int32) < j500
           · have k503 := f_ifN X500 hx k500 (H 52 rfl) ((if0 _ _).trans (tlt qp).2.2.2)
             have k504 := f_alN X500 hx k503 (H 53 rfl) rfl
             have k505 := f_il X500 hx k504 (H 54 rfl) rfl
             have k506 := f_il X500 hx k505 (H 55 rfl) rfl
             obtain ⟨T507, h507, L507, X507, e507, W507, V507, N507, Z507, k507⟩ := f_ist X500 hx hZ ee500 F489 N501 g444 Z492 k506 (H 56 rfl) (by decide) 0 rfl (lt_b rfl)
             have F508 := F487.other W507 (nL F393.lt (Nat.le_of_eq g443.symm))
             have F509 := F488.wr W507 g444
             have F510 := F490.wr W507
             have K511 := K493.wr W507 (Or.inr z445)
             have B512 := F486.other W507 (nL F391.lt (Nat.le_of_eq g443.symm))
             have B513 := F491.other W507 (nL F392.lt (Nat.le_of_eq g443.symm))
             have B514 := R484_0.other W507 (nG F463.lt Zx467_0)
             have k515 := f_inc X507 hx k507 (H 57 rfl) rfl (l' := #[sr a1, sr ls, sr mp, sr b443, si 1, sr it467, si r2]) rfl
             exact ⟨T507, h507, _, r2, (1 : Int32), X507, e507, N507, Z507, B512, F508, V507, F510, B513, B514, K511, F509, (Or.inr (rfl)), k515⟩
           · have k516 := f_ifY X500 hx k500 (H 52 rfl) (pc' := 138) ((if0 _ _).trans (flt qp).2.2.2) (by decide)
             exact ⟨T500, h484, _, (0 : Int32), (0 : Int32), X500, ee500, N501, Z492, F486, F487, F489, F490, F491, R484_0, K493, F488, (Or.inl rfl), k516⟩
          have k525 := f_go X502 hx kq502 (H 58 rfl) (pc' := 96) (by decide)
          have k526 := f_al X502 hx k525 (H 42 rfl) rfl
          obtain ⟨_, T527, L527, X527, hQ527, k527⟩ := c_I (W := 0) (x := mn62) X502 hx hZ hown (hww 158 rfl) (hww 159 rfl) (hww 160 rfl) (hww 161 rfl) (hww 162 rfl) (hww 163 rfl) (hww 164 rfl) (hww 165 rfl) (hww 166 rfl) (hww 141 rfl) (by decide) F522.1 (hn0 l Z a0 hw [] it467 h502 n0 Zq502 (F522.g 2 (v := .null) (by decide) rfl rfl)) e502 (argsL := []) (rest := []) rfl (by rw [hml]; rfl) k526 rfl (H 43 rfl) (lenOf pd__28_29Z rfl) (b5 rfl)
          obtain ⟨rfl, N527q, e527⟩ := hQ527
          have N528 := Fr.app N502 N527q
          have k529 := f_ifY X527 hx k527 (H 44 rfl) (pc' := 141) ((if0 _ _).trans (teq (by decide)).1) (by decide)
          exact ⟨T527, h502, _, b443, k443, (1 : Int32), it467, u00, (0 : Int32), (0 : Int32), cn1, (si r2), (X527.more (by decide) (by decide)), e527, N528, Zq502, F517, F518, (F519.pad (pad_rep [(.int u00)] zI 2)), F520, F523, F524, (hcr0.elim (fun q => (Or.inr (Or.inl ⟨rfl, q⟩))) (fun q => (Or.inr (Or.inr (Or.inl ⟨rfl, q⟩))))), rfl, k529⟩
      · rcases KP2 with ⟨rfl, rfl⟩ | ⟨rfl, rfl, Lnd2, Lbx2, nw_nd2, nw_bx2⟩
        · obtain rfl : sz = (1 : Int32) := HZ.trans (by show (0 : Int32) + (1 : Int32) + (0 : Int32) = (1 : Int32); decide)
          have k530 := f_alN X137 hx kq137 (H 32 rfl) rfl
          obtain ⟨_, T531, L531, X531, hQ531, k531⟩ := c_I (W := 0) (x := mn59) X137 hx hZ hown (hww 88 rfl) (hww 89 rfl) (hww 90 rfl) (hww 91 rfl) (hww 92 rfl) (hww 93 rfl) (hww 94 rfl) (hww 95 rfl) (hww 96 rfl) (hww 53 rfl) (by decide) F392.1 (hsz l Z a0 hw [] mp (1 : Int32) h137 n0 Zq137 (F392.g 1 (v := (.int (1 : Int32))) (by decide) rfl rfl)) e137 (argsL := []) (rest := []) rfl (by rw [hml]; rfl) k530 rfl (H 33 rfl) (lenOf pd__28_29I rfl) (b5 rfl)
          obtain ⟨rfl, N531q, e531⟩ := hQ531
          have N532 := Fr.app N137 N531q
          obtain ⟨T533, h533, k533, X533, e533, E533, A533, Y533, st533⟩ := newPE X531 hx hZ (hww 85 rfl) e531 (g := (mkF m 77 #[sr a1, sr ls, sr mp, si iz, un, un, un] [vI 1])) rfl (H 34 rfl) rfl (by decide) (cap := 1) (by decide) (by decide) (by decide) (by decide) (ad := "[I") (by decide)
          obtain ⟨b533, g533⟩ : ∃ z, z = h137.size := ⟨_, rfl⟩
          rw [← g533] at A533 Y533 st533
          have g534 : n0 ≤ b533 := Nat.le_trans Zq137 (Nat.le_of_eq g533.symm)
          have z535 : h0.size ≤ b533 := Nat.le_trans F394.1 (Nat.le_of_eq g533.symm)
          have F536 := F391.ext E533
          have F537 := F392.ext E533
          have F538 := F393.ext E533
          have F539 := F395.ext E533
          have Z540 : n0 ≤ h533.size := Nat.le_trans Zq137 E533.1
          have K541 := F394.ext E533
          have V542 : Arv Z h533 b533 k533 .int (1 : Int32) [zI] zI := (Arv.new A533 (by decide)).pad (pad_rep [] zI 1)
          have k543 : Rt p e below T533 (mkF m 79 #[sr a1, sr ls, sr mp, si iz, un, un, un] [vR b533]) s₁ m #[(.ref a1), (.ref ls), (.ref mp)] 7 := fun t k => k531 t (st533 t k)
          have k544 := f_asN X533 hx k543 (H 35 rfl) (l' := #[sr a1, sr ls, sr mp, sr b533, un, un, un]) rfl
          have k545 := f_ic X533 hx k544 (H 36 rfl) (v := 0) rfl
          have k546 := f_is X533 hx k545 (H 37 rfl) (l' := #[sr a1, sr ls, sr mp, sr b533, si 0, un, un]) rfl
          have k547 := f_alN X533 hx k546 (H 38 rfl) rfl
          obtain ⟨_, T548, L548, X548, hQ548, k548⟩ := c_I (W := 0) (x := mn60) X533 hx hZ hown (hww 99 rfl) (hww 100 rfl) (hww 101 rfl) (hww 102 rfl) (hww 103 rfl) (hww 104 rfl) (hww 105 rfl) (hww 95 rfl) (hww 106 rfl) (hww 53 rfl) (by decide) F537.1 (vls l Z a0 hw [] mp (.ref tb) (1 : Int32) mc th h533 n0 Z540 F537 ge_mp) e533 (argsL := []) (rest := []) rfl (by rw [hml]; rfl) k547 rfl (H 39 rfl) (lenOf pd__28_29Ljava_2futil_2fCollection_3b rfl) (b5 rfl)
          obtain ⟨h548, e548⟩ : ∃ h', T548.heap = h' := ⟨_, rfl⟩
          rw [e548] at hQ548
          obtain ⟨vw548, rfl, N548q, K548, Zx548_0, R548_0, R548_1⟩ := hQ548
          have N549 := Fr.app N532 N548q
          have F550 := F536.keep K548 (ninS ne_a1_mp nin0)
          have F551 := F538.keep K548 (ninS (nG Fk1.lt (Nat.le_of_eq g108.symm)) nin0)
          have F552 := F539.keep K548 (allS ge_mp all0)
          have F553 := V542.keep K548 (ninS (nG F392.lt (Nat.le_of_eq g533.symm)) nin0)
          have F554 := Y533.keep K548
          have Z555 : n0 ≤ h548.size := Nat.le_trans Z540 K548.1
          have K556 := Keep.trans K541 K548 (allS (oL 1 rfl) all0)
          obtain ⟨_, T557, L557, X557, hQ557, k557⟩ := c_I (W := 0) (x := mn61) X548 hx hZ hown (hww 121 rfl) (hww 122 rfl) (hww 123 rfl) (hww 124 rfl) (hww 125 rfl) (hww 126 rfl) (hww 127 rfl) (hww 128 rfl) (hww 129 rfl) (hww 112 rfl) (by decide) R548_1.1 (vit2 l Z a0 hw [] vw548 mp mc (1 : Int32) tb kt nd1 .null h548 n0 Z555 (R548_0.g 2 (v := (.int mc)) (by decide) rfl rfl) (R548_0.g 0 (v := (.ref tb)) (by decide) rfl rfl) (R548_0.g 1 (v := (.int (1 : Int32))) (by decide) rfl rfl) (Ltb.keep K556 nw_tb) R548_1 (by decide)) e548 (argsL := []) (rest := []) rfl (by rw [hml]; rfl) k548 rfl (H 40 rfl) (lenOf pd__28_29Ljava_2futil_2fIterator_3b rfl) (b5 rfl)
          obtain ⟨h557, e557⟩ : ∃ h', T557.heap = h' := ⟨_, rfl⟩
          rw [e557] at hQ557
          obtain ⟨it557, rfl, N557q, K557, Zx557_0, R557_0⟩ := hQ557
          have N558 := Fr.app N549 N557q
          have F559 := F550.keep K557 nin0
          have F560 := F551.keep K557 nin0
          have F561 := F552.keep K557 all0
          have F562 := F553.keep K557 nin0
          have F563 := F554.keep K557
          have F564 := R548_0.keep K557 nin0
          have F565 := R548_1.keep K557 nin0
          have Z566 : n0 ≤ h557.size := Nat.le_trans Z555 K557.1
          have K567 := Keep.trans K556 K557 all0
          have k568 := f_as X557 hx k557 (H 41 rfl) (l' := #[sr a1, sr ls, sr mp, sr b533, si 0, sr it557, un]) rfl
          have k569 := f_al X557 hx k568 (H 42 rfl) rfl
          obtain ⟨_, T570, L570, X570, hQ570, k570⟩ := c_I (W := 0) (x := mn62) X557 hx hZ hown (hww 158 rfl) (hww 159 rfl) (hww 160 rfl) (hww 161 rfl) (hww 162 rfl) (hww 163 rfl) (hww 164 rfl) (hww 165 rfl) (hww 166 rfl) (hww 141 rfl) (by decide) R557_0.1 (hn1 l Z a0 hw [] it557 nd1 h557 n0 Z566 (R557_0.g 2 (v := (.ref nd1)) (by decide) rfl rfl)) e557 (argsL := []) (rest := []) rfl (by rw [hml]; rfl) k569 rfl (H 43 rfl) (lenOf pd__28_29Z rfl) (b5 rfl)
          obtain ⟨rfl, N570q, e570⟩ := hQ570
          have N571 := Fr.app N558 N570q
          have k572 := f_ifN X570 hx k570 (H 44 rfl) ((if0 _ _).trans (feq (by decide)).1)
          have k573 := f_al X570 hx k572 (H 45 rfl) rfl
          obtain ⟨_, T574, L574, X574, hQ574, k574⟩ := c_I (W := 0) (x := mn63) X570 hx hZ hown (hww 373 rfl) (hww 374 rfl) (hww 375 rfl) (hww 376 rfl) (hww 377 rfl) (hww 378 rfl) (hww 379 rfl) (hww 165 rfl) (hww 380 rfl) (hww 132 rfl) (by decide) R557_0.1 (nxt2None l Z a0 hw [] it557 mp mc tb kt nd1 .null .null (.ref nd1) bx1 h557 n0 Z566 R557_0 (F564.g 2 (v := (.int mc)) (by decide) rfl rfl) (F564.g 0 (v := (.ref tb)) (by decide) rfl rfl) (Ltb.keep K567 nw_tb) ((Lnd1.keep K567 nw_nd1).g 3 (v := .null) (by decide) rfl rfl) ((Lnd1.keep K567 nw_nd1).g 2 (v := (.ref bx1)) (by decide) rfl rfl) (Nat.le_trans Z555 Zx557_0) (nG R548_0.lt Zx557_0) (nG Ltb.lt (Nat.le_trans K556.1 Zx557_0)) (nG Lnd1.lt (Nat.le_trans K556.1 Zx557_0))) e570 (argsL := []) (rest := []) rfl (by rw [hml]; rfl) k573 rfl (H 46 rfl) (lenOf pd__28_29Ljava_2flang_2fObject_3b rfl) (b5 rfl)
          obtain ⟨h574, e574⟩ : ∃ h', T574.heap = h' := ⟨_, rfl⟩
          rw [e574] at hQ574
          obtain ⟨rfl, N574q, K574, R574_0⟩ := hQ574
          have N575 := Fr.app N571 N574q
          have F576 := F559.keep K574 (ninS (nL F550.lt Zx557_0) nin0)
          have F577 := F560.keep K574 (ninS (nL F551.lt Zx557_0) nin0)
          have F578 := F561.keep K574 (allS (Nat.le_trans Z555 Zx557_0) all0)
          have F579 := F562.keep K574 (ninS (nL F553.lt Zx557_0) nin0)
          have F580 := F563.keep K574
          have F581 := F564.keep K574 (ninS (nL R548_0.lt Zx557_0) nin0)
          have Z582 : n0 ≤ h574.size := Nat.le_trans Z566 K574.1
          have K583 := Keep.trans K567 K574 (allS (Or.inr (Nat.le_trans K556.1 Zx557_0)) all0)
          obtain ⟨T584, X584, e584, st584⟩ := castY X574 hx hZ hown (hww 359 rfl) e574 (Ins.self (Lbx1.keep K583 nw_bx1).1) (g := (mkF m 113 #[sr a1, sr ls, sr mp, sr b533, si 0, sr it557, un] [vR bx1])) rfl rfl (H 47 rfl)
          have k585 : Rt p e below T584 (mkF m 116 #[sr a1, sr ls, sr mp, sr b533, si 0, sr it557, un] [vR bx1]) s₁ m #[(.ref a1), (.ref ls), (.ref mp)] 7 := fun t k => k574 t (st584 t k)
          obtain ⟨_, T586, L586, X586, hQ586, k586⟩ := c_V (W := 0) (x := mn14) X584 hx hZ hown (hww 361 rfl) (hww 362 rfl) (notFace_of_selects (args := #[]) (mvT hZ (hww 364 rfl))) (hww 364 rfl) (hww 363 rfl) (hww 365 rfl) (hww 242 rfl) (by decide) (Lbx1.keep K583 nw_bx1).1 (iv l Z a0 hw [] bx1 r1 h574 n0 Z582 ((Lbx1.keep K583 nw_bx1).g 0 (v := (.int r1)) (by decide) rfl rfl)) e584 (argsL := []) (rest := []) rfl (by rw [hml]; rfl) k585 rfl (H 48 rfl) (lenOf pd__28_29I rfl) (b5 rfl)
          obtain ⟨rfl, N586q, e586⟩ := hQ586
          have N587 := Fr.app N575 N586q
          have k588 := f_is X586 hx k586 (H 49 rfl) (l' := #[sr a1, sr ls, sr mp, sr b533, si 0, sr it557, si r1]) rfl
          have k589 := f_il X586 hx k588 (H 50 rfl) rfl
          obtain ⟨_, T590, L590, X590, hQ590, k590⟩ := c_S (W := 0) X586 hx hZ hown (hww 368 rfl) (hww 369 rfl) (hww 69 rfl) (hww 370 rfl) (by decide) (gain l Z a0 hw [] r1 h574 n0 Z582 ) e586 (argsL := [(.int r1)]) (rest := []) rfl (by rw [hml]; rfl) k589 rfl (H 51 rfl) (lenOf pd__28I_29I rfl) (b5 rfl)
          obtain ⟨h590, e590⟩ : ∃ h', T590.heap = h' := ⟨_, rfl⟩
          rw [e590] at hQ590
          obtain ⟨j590, rfl, N590q, hh590, P590_0⟩ := hQ590
          have N591 := Fr.app N587 N590q
          have ee590 : T590.heap = h574 := e590.trans hh590
          obtain ⟨T592, h592, Ls592, u00, cn1, X592, e592, N592, Zq592, F607, F608, F609, F610, F611, F612, F613, F614, hcr0, kq592⟩ : ∃ (T592 : State) (h592 : Heap) (Ls592 : List Loc) (u00 : Int32) (cn1 : Int32), Stand p l e (rm 5 9 21 79) s m #[(.ref a1), (.ref ls), (.ref mp)] below meth c T592 Ls592 7 13 ∧ T592.heap = h592 ∧ Fr n0 Ls592 ∧ n0 ≤ h592.size ∧ OBJ Z h592 a1 "com/example/multinomial/multinomial/eval/JudgedRanking" lyJR [(.ref b108), .null] ∧ Arv Z h592 b108 k108 .int nn [(.int g0), (.int g1), (.int g2)] zI ∧ Arv Z h592 b533 k533 .int (1 : Int32) [(.int u00)] zI ∧ Exa Z h592 b533 "[I" ∧ OBJ Z h592 mp "java/util/HashMap" lyMP [(.ref tb), (.int (1 : Int32)), (.int mc), (.int th), (.ref vw548), (.float (1061158912 : UInt32))] ∧ OBJ Z h592 it557 "java/util/HashMap$ValueIterator" lyIT [(.ref mp), (.int mc), .null, (.ref nd1), (.int (16 : Int32))] ∧ Keep h0 h592 [a1, mp, id0, id1, id2] ∧ Old Z n0 h592 ∧ (cn1 = (0 : Int32) ∨ cn1 = (1 : Int32)) ∧ (Rt p e below T592 (mkF m 138 #[sr a1, sr ls, sr mp, sr b533, si cn1, sr it557, si r1] []) s₁ m #[(.ref a1), (.ref ls), (.ref mp)] 7) := by
           by_cases qp : (0 : Int32) < j590
           · have k593 := f_ifN X590 hx k590 (H 52 rfl) ((if0 _ _).trans (tlt qp).2.2.2)
             have k594 := f_alN X590 hx k593 (H 53 rfl) rfl
             have k595 := f_il X590 hx k594 (H 54 rfl) rfl
             have k596 := f_il X590 hx k595 (H 55 rfl) rfl
             obtain ⟨T597, h597, L597, X597, e597, W597, V597, N597, Z597, k597⟩ := f_ist X590 hx hZ ee590 F579 N591 g534 Z582 k596 (H 56 rfl) (by decide) 0 rfl (lt_b rfl)
             have F598 := F577.other W597 (nL F393.lt (Nat.le_of_eq g533.symm))
             have F599 := F578.wr W597 g534
             have F600 := F580.wr W597
             have K601 := K583.wr W597 (Or.inr z535)
             have B602 := F576.other W597 (nL F391.lt (Nat.le_of_eq g533.symm))
             have B603 := F581.other W597 (nL F392.lt (Nat.le_of_eq g533.symm))
             have B604 := R574_0.other W597 (nG F553.lt Zx557_0)
             have k605 := f_inc X597 hx k597 (H 57 rfl) rfl (l' := #[sr a1, sr ls, sr mp, sr b533, si 1, sr it557, si r1]) rfl
             exact ⟨T597, h597, _, r1, (1 : Int32), X597, e597, N597, Z597, B602, F598, V597, F600, B603, B604, K601, F599, (Or.inr (rfl)), k605⟩
           · have k606 := f_ifY X590 hx k590 (H 52 rfl) (pc' := 138) ((if0 _ _).trans (flt qp).2.2.2) (by decide)
             exact ⟨T590, h574, _, (0 : Int32), (0 : Int32), X590, ee590, N591, Z582, F576, F577, F579, F580, F581, R574_0, K583, F578, (Or.inl rfl), k606⟩
          have k615 := f_go X592 hx kq592 (H 58 rfl) (pc' := 96) (by decide)
          have k616 := f_al X592 hx k615 (H 42 rfl) rfl
          obtain ⟨_, T617, L617, X617, hQ617, k617⟩ := c_I (W := 0) (x := mn62) X592 hx hZ hown (hww 158 rfl) (hww 159 rfl) (hww 160 rfl) (hww 161 rfl) (hww 162 rfl) (hww 163 rfl) (hww 164 rfl) (hww 165 rfl) (hww 166 rfl) (hww 141 rfl) (by decide) F612.1 (hn0 l Z a0 hw [] it557 h592 n0 Zq592 (F612.g 2 (v := .null) (by decide) rfl rfl)) e592 (argsL := []) (rest := []) rfl (by rw [hml]; rfl) k616 rfl (H 43 rfl) (lenOf pd__28_29Z rfl) (b5 rfl)
          obtain ⟨rfl, N617q, e617⟩ := hQ617
          have N618 := Fr.app N592 N617q
          have k619 := f_ifY X617 hx k617 (H 44 rfl) (pc' := 141) ((if0 _ _).trans (teq (by decide)).1) (by decide)
          exact ⟨T617, h592, _, b533, k533, (1 : Int32), it557, u00, (0 : Int32), (0 : Int32), cn1, (si r1), (X617.more (by decide) (by decide)), e617, N618, Zq592, F607, F608, (F609.pad (pad_rep [(.int u00)] zI 2)), F610, F613, F614, (hcr0.elim (fun q => (Or.inr (Or.inl ⟨rfl, q⟩))) (fun q => (Or.inr (Or.inr (Or.inl ⟨rfl, q⟩))))), rfl, k619⟩
        · obtain rfl : sz = (2 : Int32) := HZ.trans (by show (0 : Int32) + (1 : Int32) + (1 : Int32) = (2 : Int32); decide)
          have k620 := f_alN X137 hx kq137 (H 32 rfl) rfl
          obtain ⟨_, T621, L621, X621, hQ621, k621⟩ := c_I (W := 0) (x := mn59) X137 hx hZ hown (hww 88 rfl) (hww 89 rfl) (hww 90 rfl) (hww 91 rfl) (hww 92 rfl) (hww 93 rfl) (hww 94 rfl) (hww 95 rfl) (hww 96 rfl) (hww 53 rfl) (by decide) F392.1 (hsz l Z a0 hw [] mp (2 : Int32) h137 n0 Zq137 (F392.g 1 (v := (.int (2 : Int32))) (by decide) rfl rfl)) e137 (argsL := []) (rest := []) rfl (by rw [hml]; rfl) k620 rfl (H 33 rfl) (lenOf pd__28_29I rfl) (b5 rfl)
          obtain ⟨rfl, N621q, e621⟩ := hQ621
          have N622 := Fr.app N137 N621q
          obtain ⟨T623, h623, k623, X623, e623, E623, A623, Y623, st623⟩ := newPE X621 hx hZ (hww 85 rfl) e621 (g := (mkF m 77 #[sr a1, sr ls, sr mp, si iz, un, un, un] [vI 2])) rfl (H 34 rfl) rfl (by decide) (cap := 2) (by decide) (by decide) (by decide) (by decide) (ad := "[I") (by decide)
          obtain ⟨b623, g623⟩ : ∃ z, z = h137.size := ⟨_, rfl⟩
          rw [← g623] at A623 Y623 st623
          have g624 : n0 ≤ b623 := Nat.le_trans Zq137 (Nat.le_of_eq g623.symm)
          have z625 : h0.size ≤ b623 := Nat.le_trans F394.1 (Nat.le_of_eq g623.symm)
          have F626 := F391.ext E623
          have F627 := F392.ext E623
          have F628 := F393.ext E623
          have F629 := F395.ext E623
          have Z630 : n0 ≤ h623.size := Nat.le_trans Zq137 E623.1
          have K631 := F394.ext E623
          have V632 : Arv Z h623 b623 k623 .int (2 : Int32) [zI, zI] zI := (Arv.new A623 (by decide)).pad (pad_rep [] zI 2)
          have k633 : Rt p e below T623 (mkF m 79 #[sr a1, sr ls, sr mp, si iz, un, un, un] [vR b623]) s₁ m #[(.ref a1), (.ref ls), (.ref mp)] 7 := fun t k => k621 t (st623 t k)
          have k634 := f_asN X623 hx k633 (H 35 rfl) (l' := #[sr a1, sr ls, sr mp, sr b623, un, un, un]) rfl
          have k635 := f_ic X623 hx k634 (H 36 rfl) (v := 0) rfl
          have k636 := f_is X623 hx k635 (H 37 rfl) (l' := #[sr a1, sr ls, sr mp, sr b623, si 0, un, un]) rfl
          have k637 := f_alN X623 hx k636 (H 38 rfl) rfl
          obtain ⟨_, T638, L638, X638, hQ638, k638⟩ := c_I (W := 0) (x := mn60) X623 hx hZ hown (hww 99 rfl) (hww 100 rfl) (hww 101 rfl) (hww 102 rfl) (hww 103 rfl) (hww 104 rfl) (hww 105 rfl) (hww 95 rfl) (hww 106 rfl) (hww 53 rfl) (by decide) F627.1 (vls l Z a0 hw [] mp (.ref tb) (2 : Int32) mc th h623 n0 Z630 F627 ge_mp) e623 (argsL := []) (rest := []) rfl (by rw [hml]; rfl) k637 rfl (H 39 rfl) (lenOf pd__28_29Ljava_2futil_2fCollection_3b rfl) (b5 rfl)
          obtain ⟨h638, e638⟩ : ∃ h', T638.heap = h' := ⟨_, rfl⟩
          rw [e638] at hQ638
          obtain ⟨vw638, rfl, N638q, K638, Zx638_0, R638_0, R638_1⟩ := hQ638
          have N639 := Fr.app N622 N638q
          have F640 := F626.keep K638 (ninS ne_a1_mp nin0)
          have F641 := F628.keep K638 (ninS (nG Fk1.lt (Nat.le_of_eq g108.symm)) nin0)
          have F642 := F629.keep K638 (allS ge_mp all0)
          have F643 := V632.keep K638 (ninS (nG F392.lt (Nat.le_of_eq g623.symm)) nin0)
          have F644 := Y623.keep K638
          have Z645 : n0 ≤ h638.size := Nat.le_trans Z630 K638.1
          have K646 := Keep.trans K631 K638 (allS (oL 1 rfl) all0)
          obtain ⟨_, T647, L647, X647, hQ647, k647⟩ := c_I (W := 0) (x := mn61) X638 hx hZ hown (hww 121 rfl) (hww 122 rfl) (hww 123 rfl) (hww 124 rfl) (hww 125 rfl) (hww 126 rfl) (hww 127 rfl) (hww 128 rfl) (hww 129 rfl) (hww 112 rfl) (by decide) R638_1.1 (vit2 l Z a0 hw [] vw638 mp mc (2 : Int32) tb kt nd1 (.ref nd2) h638 n0 Z645 (R638_0.g 2 (v := (.int mc)) (by decide) rfl rfl) (R638_0.g 0 (v := (.ref tb)) (by decide) rfl rfl) (R638_0.g 1 (v := (.int (2 : Int32))) (by decide) rfl rfl) (Ltb.keep K646 nw_tb) R638_1 (by decide)) e638 (argsL := []) (rest := []) rfl (by rw [hml]; rfl) k638 rfl (H 40 rfl) (lenOf pd__28_29Ljava_2futil_2fIterator_3b rfl) (b5 rfl)
          obtain ⟨h647, e647⟩ : ∃ h', T647.heap = h' := ⟨_, rfl⟩
          rw [e647] at hQ647
          obtain ⟨it647, rfl, N647q, K647, Zx647_0, R647_0⟩ := hQ647
          have N648 := Fr.app N639 N647q
          have F649 := F640.keep K647 nin0
          have F650 := F641.keep K647 nin0
          have F651 := F642.keep K647 all0
          have F652 := F643.keep K647 nin0
          have F653 := F644.keep K647
          have F654 := R638_0.keep K647 nin0
          have F655 := R638_1.keep K647 nin0
          have Z656 : n0 ≤ h647.size := Nat.le_trans Z645 K647.1
          have K657 := Keep.trans K646 K647 all0
          have k658 := f_as X647 hx k647 (H 41 rfl) (l' := #[sr a1, sr ls, sr mp, sr b623, si 0, sr it647, un]) rfl
          have k659 := f_al X647 hx k658 (H 42 rfl) rfl
          obtain ⟨_, T660, L660, X660, hQ660, k660⟩ := c_I (W := 0) (x := mn62) X647 hx hZ hown (hww 158 rfl) (hww 159 rfl) (hww 160 rfl) (hww 161 rfl) (hww 162 rfl) (hww 163 rfl) (hww 164 rfl) (hww 165 rfl) (hww 166 rfl) (hww 141 rfl) (by decide) R647_0.1 (hn1 l Z a0 hw [] it647 nd1 h647 n0 Z656 (R647_0.g 2 (v := (.ref nd1)) (by decide) rfl rfl)) e647 (argsL := []) (rest := []) rfl (by rw [hml]; rfl) k659 rfl (H 43 rfl) (lenOf pd__28_29Z rfl) (b5 rfl)
          obtain ⟨rfl, N660q, e660⟩ := hQ660
          have N661 := Fr.app N648 N660q
          have k662 := f_ifN X660 hx k660 (H 44 rfl) ((if0 _ _).trans (feq (by decide)).1)
          have k663 := f_al X660 hx k662 (H 45 rfl) rfl
          obtain ⟨_, T664, L664, X664, hQ664, k664⟩ := c_I (W := 0) (x := mn63) X660 hx hZ hown (hww 373 rfl) (hww 374 rfl) (hww 375 rfl) (hww 376 rfl) (hww 377 rfl) (hww 378 rfl) (hww 379 rfl) (hww 165 rfl) (hww 380 rfl) (hww 132 rfl) (by decide) R647_0.1 (nxt23 l Z a0 hw [] it647 mp mc tb kt nd1 .null nd2 .null (.ref nd1) bx1 h647 n0 Z656 R647_0 (F654.g 2 (v := (.int mc)) (by decide) rfl rfl) (F654.g 0 (v := (.ref tb)) (by decide) rfl rfl) (Ltb.keep K657 nw_tb) ((Lnd1.keep K657 nw_nd1).g 3 (v := .null) (by decide) rfl rfl) ((Lnd1.keep K657 nw_nd1).g 2 (v := (.ref bx1)) (by decide) rfl rfl) (Nat.le_trans Z645 Zx647_0) (nG R638_0.lt Zx647_0) (nG Ltb.lt (Nat.le_trans K646.1 Zx647_0)) (nG Lnd1.lt (Nat.le_trans K646.1 Zx647_0))) e660 (argsL := []) (rest := []) rfl (by rw [hml]; rfl) k663 rfl (H 46 rfl) (lenOf pd__28_29Ljava_2flang_2fObject_3b rfl) (b5 rfl)
          obtain ⟨h664, e664⟩ : ∃ h', T664.heap = h' := ⟨_, rfl⟩
          rw [e664] at hQ664
          obtain ⟨rfl, N664q, K664, R664_0⟩ := hQ664
          have N665 := Fr.app N661 N664q
          have F666 := F649.keep K664 (ninS (nL F640.lt Zx647_0) nin0)
          have F667 := F650.keep K664 (ninS (nL F641.lt Zx647_0) nin0)
          have F668 := F651.keep K664 (allS (Nat.le_trans Z645 Zx647_0) all0)
          have F669 := F652.keep K664 (ninS (nL F643.lt Zx647_0) nin0)
          have F670 := F653.keep K664
          have F671 := F654.keep K664 (ninS (nL R638_0.lt Zx647_0) nin0)
          have Z672 : n0 ≤ h664.size := Nat.le_trans Z656 K664.1
          have K673 := Keep.trans K657 K664 (allS (Or.inr (Nat.le_trans K646.1 Zx647_0)) all0)
          obtain ⟨T674, X674, e674, st674⟩ := castY X664 hx hZ hown (hww 359 rfl) e664 (Ins.self (Lbx1.keep K673 nw_bx1).1) (g := (mkF m 113 #[sr a1, sr ls, sr mp, sr b623, si 0, sr it647, un] [vR bx1])) rfl rfl (H 47 rfl)
          have k675 : Rt p e below T674 (mkF m 116 #[sr a1, sr ls, sr mp, sr b623, si 0, sr it647, un] [vR bx1]) s₁ m #[(.ref a1), (.ref ls), (.ref mp)] 7 := fun t k => k664 t (st674 t k)
          obtain ⟨_, T676, L676, X676, hQ676, k676⟩ := c_V (W := 0) (x := mn14) X674 hx hZ hown (hww 361 rfl) (hww 362 rfl) (notFace_of_selects (args := #[]) (mvT hZ (hww 364 rfl))) (hww 364 rfl) (hww 363 rfl) (hww 365 rfl) (hww 242 rfl) (by decide) (Lbx1.keep K673 nw_bx1).1 (iv l Z a0 hw [] bx1 r1 h664 n0 Z672 ((Lbx1.keep K673 nw_bx1).g 0 (v := (.int r1)) (by decide) rfl rfl)) e674 (argsL := []) (rest := []) rfl (by rw [hml]; rfl) k675 rfl (H 48 rfl) (lenOf pd__28_29I rfl) (b5 rfl)
          obtain ⟨rfl, N676q, e676⟩ := hQ676
          have N677 := Fr.app N665 N676q
          have k678 := f_is X676 hx k676 (H 49 rfl) (l' := #[sr a1, sr ls, sr mp, sr b623, si 0, sr it647, si r1]) rfl
          have k679 := f_il X676 hx k678 (H 50 rfl) rfl
          obtain ⟨_, T680, L680, X680, hQ680, k680⟩ := c_S (W := 0) X676 hx hZ hown (hww 368 rfl) (hww 369 rfl) (hww 69 rfl) (hww 370 rfl) (by decide) (gain l Z a0 hw [] r1 h664 n0 Z672 ) e676 (argsL := [(.int r1)]) (rest := []) rfl (by rw [hml]; rfl) k679 rfl (H 51 rfl) (lenOf pd__28I_29I rfl) (b5 rfl)
          obtain ⟨h680, e680⟩ : ∃ h', T680.heap = h' := ⟨_, rfl⟩
          rw [e680] at hQ680
          obtain ⟨j680, rfl, N680q, hh680, P680_0⟩ := hQ680
          have N681 := Fr.app N677 N680q
          have ee680 : T680.heap = h664 := e680.trans hh680
          obtain ⟨T682, h682, Ls682, u00, cn1, X682, e682, N682, Zq682, F697, F698, F699, F700, F701, F702, F703, F704, hcr0, kq682⟩ : ∃ (T682 : State) (h682 : Heap) (Ls682 : List Loc) (u00 : Int32) (cn1 : Int32), Stand p l e (rm 5 9 21 79) s m #[(.ref a1), (.ref ls), (.ref mp)] below meth c T682 Ls682 7 14 ∧ T682.heap = h682 ∧ Fr n0 Ls682 ∧ n0 ≤ h682.size ∧ OBJ Z h682 a1 "com/example/multinomial/multinomial/eval/JudgedRanking" lyJR [(.ref b108), .null] ∧ Arv Z h682 b108 k108 .int nn [(.int g0), (.int g1), (.int g2)] zI ∧ Arv Z h682 b623 k623 .int (2 : Int32) [(.int u00), zI] zI ∧ Exa Z h682 b623 "[I" ∧ OBJ Z h682 mp "java/util/HashMap" lyMP [(.ref tb), (.int (2 : Int32)), (.int mc), (.int th), (.ref vw638), (.float (1061158912 : UInt32))] ∧ OBJ Z h682 it647 "java/util/HashMap$ValueIterator" lyIT [(.ref mp), (.int mc), (.ref nd2), (.ref nd1), (.int (4 : Int32))] ∧ Keep h0 h682 [a1, mp, id0, id1, id2] ∧ Old Z n0 h682 ∧ (cn1 = (0 : Int32) ∨ cn1 = (1 : Int32)) ∧ (Rt p e below T682 (mkF m 138 #[sr a1, sr ls, sr mp, sr b623, si cn1, sr it647, si r1] []) s₁ m #[(.ref a1), (.ref ls), (.ref mp)] 7) := by
           by_cases qp : (0 : Int32) < j680
           · have k683 := f_ifN X680 hx k680 (H 52 rfl) ((if0 _ _).trans (tlt qp).2.2.2)
             have k684 := f_alN X680 hx k683 (H 53 rfl) rfl
             have k685 := f_il X680 hx k684 (H 54 rfl) rfl
             have k686 := f_il X680 hx k685 (H 55 rfl) rfl
             obtain ⟨T687, h687, L687, X687, e687, W687, V687, N687, Z687, k687⟩ := f_ist X680 hx hZ ee680 F669 N681 g624 Z672 k686 (H 56 rfl) (by decide) 0 rfl (lt_b rfl)
             have F688 := F667.other W687 (nL F393.lt (Nat.le_of_eq g623.symm))
             have F689 := F668.wr W687 g624
             have F690 := F670.wr W687
             have K691 := K673.wr W687 (Or.inr z625)
             have B692 := F666.other W687 (nL F391.lt (Nat.le_of_eq g623.symm))
             have B693 := F671.other W687 (nL F392.lt (Nat.le_of_eq g623.symm))
             have B694 := R664_0.other W687 (nG F643.lt Zx647_0)
             have k695 := f_inc X687 hx k687 (H 57 rfl) rfl (l' := #[sr a1, sr ls, sr mp, sr b623, si 1, sr it647, si r1]) rfl
             exact ⟨T687, h687, _, r1, (1 : Int32), X687, e687, N687, Z687, B692, F688, V687, F690, B693, B694, K691, F689, (Or.inr (rfl)), k695⟩
           · have k696 := f_ifY X680 hx k680 (H 52 rfl) (pc' := 138) ((if0 _ _).trans (flt qp).2.2.2) (by decide)
             exact ⟨T680, h664, _, (0 : Int32), (0 : Int32), X680, ee680, N681, Z672, F666, F667, F669, F670, F671, R664_0, K673, F668, (Or.inl rfl), k696⟩
          have k705 := f_go X682 hx kq682 (H 58 rfl) (pc' := 96) (by decide)
          have k706 := f_al X682 hx k705 (H 42 rfl) rfl
          obtain ⟨_, T707, L707, X707, hQ707, k707⟩ := c_I (W := 0) (x := mn62) X682 hx hZ hown (hww 158 rfl) (hww 159 rfl) (hww 160 rfl) (hww 161 rfl) (hww 162 rfl) (hww 163 rfl) (hww 164 rfl) (hww 165 rfl) (hww 166 rfl) (hww 141 rfl) (by decide) F702.1 (hn1 l Z a0 hw [] it647 nd2 h682 n0 Zq682 (F702.g 2 (v := (.ref nd2)) (by decide) rfl rfl)) e682 (argsL := []) (rest := []) rfl (by rw [hml]; rfl) k706 rfl (H 43 rfl) (lenOf pd__28_29Z rfl) (b5 rfl)
          obtain ⟨rfl, N707q, e707⟩ := hQ707
          have N708 := Fr.app N682 N707q
          have k709 := f_ifN X707 hx k707 (H 44 rfl) ((if0 _ _).trans (feq (by decide)).1)
          have k710 := f_al X707 hx k709 (H 45 rfl) rfl
          obtain ⟨_, T711, L711, X711, hQ711, k711⟩ := c_I (W := 0) (x := mn63) X707 hx hZ hown (hww 373 rfl) (hww 374 rfl) (hww 375 rfl) (hww 376 rfl) (hww 377 rfl) (hww 378 rfl) (hww 379 rfl) (hww 165 rfl) (hww 380 rfl) (hww 132 rfl) (by decide) F702.1 (nxt3None l Z a0 hw [] it647 mp mc tb kt nd2 (.ref nd1) .null (.ref nd1) (.ref nd2) bx2 h682 n0 Zq682 F702 (F701.g 2 (v := (.int mc)) (by decide) rfl rfl) (F701.g 0 (v := (.ref tb)) (by decide) rfl rfl) (Ltb.keep F703 nw_tb) ((Lnd2.keep F703 nw_nd2).g 3 (v := .null) (by decide) rfl rfl) ((Lnd2.keep F703 nw_nd2).g 2 (v := (.ref bx2)) (by decide) rfl rfl) (Nat.le_trans Z645 Zx647_0) (nG R638_0.lt Zx647_0) (nG Ltb.lt (Nat.le_trans K646.1 Zx647_0)) (nG Lnd2.lt (Nat.le_trans K646.1 Zx647_0))) e707 (argsL := []) (rest := []) rfl (by rw [hml]; rfl) k710 rfl (H 46 rfl) (lenOf pd__28_29Ljava_2flang_2fObject_3b rfl) (b5 rfl)
          obtain ⟨h711, e711⟩ : ∃ h', T711.heap = h' := ⟨_, rfl⟩
          rw [e711] at hQ711
          obtain ⟨rfl, N711q, K711, R711_0⟩ := hQ711
          have N712 := Fr.app N708 N711q
          have F713 := F697.keep K711 (ninS (nL F640.lt Zx647_0) nin0)
          have F714 := F698.keep K711 (ninS (nL F641.lt Zx647_0) nin0)
          have F715 := F699.keep K711 (ninS (nL F643.lt Zx647_0) nin0)
          have F716 := F700.keep K711
          have F717 := F701.keep K711 (ninS (nL R638_0.lt Zx647_0) nin0)
          have F718 := F704.keep K711 (allS (Nat.le_trans Z645 Zx647_0) all0)
          have Z719 : n0 ≤ h711.size := Nat.le_trans Zq682 K711.1
          have K720 := Keep.trans F703 K711 (allS (Or.inr (Nat.le_trans K646.1 Zx647_0)) all0)
          obtain ⟨T721, X721, e721, st721⟩ := castY X711 hx hZ hown (hww 359 rfl) e711 (Ins.self (Lbx2.keep K720 nw_bx2).1) (g := (mkF m 113 #[sr a1, sr ls, sr mp, sr b623, si cn1, sr it647, si r1] [vR bx2])) rfl rfl (H 47 rfl)
          have k722 : Rt p e below T721 (mkF m 116 #[sr a1, sr ls, sr mp, sr b623, si cn1, sr it647, si r1] [vR bx2]) s₁ m #[(.ref a1), (.ref ls), (.ref mp)] 7 := fun t k => k711 t (st721 t k)
          obtain ⟨_, T723, L723, X723, hQ723, k723⟩ := c_V (W := 0) (x := mn14) X721 hx hZ hown (hww 361 rfl) (hww 362 rfl) (notFace_of_selects (args := #[]) (mvT hZ (hww 364 rfl))) (hww 364 rfl) (hww 363 rfl) (hww 365 rfl) (hww 242 rfl) (by decide) (Lbx2.keep K720 nw_bx2).1 (iv l Z a0 hw [] bx2 r2 h711 n0 Z719 ((Lbx2.keep K720 nw_bx2).g 0 (v := (.int r2)) (by decide) rfl rfl)) e721 (argsL := []) (rest := []) rfl (by rw [hml]; rfl) k722 rfl (H 48 rfl) (lenOf pd__28_29I rfl) (b5 rfl)
          obtain ⟨rfl, N723q, e723⟩ := hQ723
          have N724 := Fr.app N712 N723q
          have k725 := f_is X723 hx k723 (H 49 rfl) (l' := #[sr a1, sr ls, sr mp, sr b623, si cn1, sr it647, si r2]) rfl
          have k726 := f_il X723 hx k725 (H 50 rfl) rfl
          obtain ⟨_, T727, L727, X727, hQ727, k727⟩ := c_S (W := 0) X723 hx hZ hown (hww 368 rfl) (hww 369 rfl) (hww 69 rfl) (hww 370 rfl) (by decide) (gain l Z a0 hw [] r2 h711 n0 Z719 ) e723 (argsL := [(.int r2)]) (rest := []) rfl (by rw [hml]; rfl) k726 rfl (H 51 rfl) (lenOf pd__28I_29I rfl) (b5 rfl)
          obtain ⟨h727, e727⟩ : ∃ h', T727.heap = h' := ⟨_, rfl⟩
          rw [e727] at hQ727
          obtain ⟨j727, rfl, N727q, hh727, P727_0⟩ := hQ727
          have N728 := Fr.app N724 N727q
          have ee727 : T727.heap = h711 := e727.trans hh727
          obtain ⟨T729, h729, Ls729, u10, u11, cn2, X729, e729, N729, Zq729, F756, F757, F758, F759, F760, F761, F762, F763, hcr1, kq729⟩ : ∃ (T729 : State) (h729 : Heap) (Ls729 : List Loc) (u10 : Int32) (u11 : Int32) (cn2 : Int32), Stand p l e (rm 5 9 21 79) s m #[(.ref a1), (.ref ls), (.ref mp)] below meth c T729 Ls729 7 14 ∧ T729.heap = h729 ∧ Fr n0 Ls729 ∧ n0 ≤ h729.size ∧ OBJ Z h729 a1 "com/example/multinomial/multinomial/eval/JudgedRanking" lyJR [(.ref b108), .null] ∧ Arv Z h729 b108 k108 .int nn [(.int g0), (.int g1), (.int g2)] zI ∧ Arv Z h729 b623 k623 .int (2 : Int32) [(.int u10), (.int u11)] zI ∧ Exa Z h729 b623 "[I" ∧ OBJ Z h729 mp "java/util/HashMap" lyMP [(.ref tb), (.int (2 : Int32)), (.int mc), (.int th), (.ref vw638), (.float (1061158912 : UInt32))] ∧ OBJ Z h729 it647 "java/util/HashMap$ValueIterator" lyIT [(.ref mp), (.int mc), .null, (.ref nd2), (.int (16 : Int32))] ∧ Keep h0 h729 [a1, mp, id0, id1, id2] ∧ Old Z n0 h729 ∧ (cn2 = (0 : Int32) ∨ cn2 = (1 : Int32) ∨ cn2 = (2 : Int32)) ∧ (Rt p e below T729 (mkF m 138 #[sr a1, sr ls, sr mp, sr b623, si cn2, sr it647, si r2] []) s₁ m #[(.ref a1), (.ref ls), (.ref mp)] 7) := by
           by_cases qp : (0 : Int32) < j727
           · have k730 := f_ifN X727 hx k727 (H 52 rfl) ((if0 _ _).trans (tlt qp).2.2.2)
             rcases hcr0 with rfl | rfl
             · have k731 := f_alN X727 hx k730 (H 53 rfl) rfl
               have k732 := f_il X727 hx k731 (H 54 rfl) rfl
               have k733 := f_il X727 hx k732 (H 55 rfl) rfl
               obtain ⟨T734, h734, L734, X734, e734, W734, V734, N734, Z734, k734⟩ := f_ist X727 hx hZ ee727 F715 N728 g624 Z719 k733 (H 56 rfl) (by decide) 0 rfl (lt_b rfl)
               have F735 := F714.other W734 (nL F393.lt (Nat.le_of_eq g623.symm))
               have F736 := F716.wr W734
               have F737 := F718.wr W734 g624
               have K738 := K720.wr W734 (Or.inr z625)
               have B739 := F713.other W734 (nL F391.lt (Nat.le_of_eq g623.symm))
               have B740 := F717.other W734 (nL F392.lt (Nat.le_of_eq g623.symm))
               have B741 := R711_0.other W734 (nG F643.lt Zx647_0)
               have k742 := f_inc X734 hx k734 (H 57 rfl) rfl (l' := #[sr a1, sr ls, sr mp, sr b623, si 1, sr it647, si r2]) rfl
               exact ⟨T734, h734, _, r2, (0 : Int32), (1 : Int32), X734, e734, N734, Z734, B739, F735, V734, F736, B740, B741, K738, F737, (Or.inr (Or.inl rfl)), k742⟩
             · have k743 := f_alN X727 hx k730 (H 53 rfl) rfl
               have k744 := f_il X727 hx k743 (H 54 rfl) rfl
               have k745 := f_il X727 hx k744 (H 55 rfl) rfl
               obtain ⟨T746, h746, L746, X746, e746, W746, V746, N746, Z746, k746⟩ := f_ist X727 hx hZ ee727 F715 N728 g624 Z719 k745 (H 56 rfl) (by decide) 1 rfl (lt_b rfl)
               have F747 := F714.other W746 (nL F393.lt (Nat.le_of_eq g623.symm))
               have F748 := F716.wr W746
               have F749 := F718.wr W746 g624
               have K750 := K720.wr W746 (Or.inr z625)
               have B751 := F713.other W746 (nL F391.lt (Nat.le_of_eq g623.symm))
               have B752 := F717.other W746 (nL F392.lt (Nat.le_of_eq g623.symm))
               have B753 := R711_0.other W746 (nG F643.lt Zx647_0)
               have k754 := f_inc X746 hx k746 (H 57 rfl) rfl (l' := #[sr a1, sr ls, sr mp, sr b623, si 2, sr it647, si r2]) rfl
               exact ⟨T746, h746, _, u00, r2, (2 : Int32), X746, e746, N746, Z746, B751, F747, V746, F748, B752, B753, K750, F749, (Or.inr (Or.inr (rfl))), k754⟩
           · have k755 := f_ifY X727 hx k727 (H 52 rfl) (pc' := 138) ((if0 _ _).trans (flt qp).2.2.2) (by decide)
             exact ⟨T727, h711, _, u00, (0 : Int32), cn1, X727, ee727, N728, Z719, F713, F714, F715, F716, F717, R711_0, K720, F718, (hcr0.elim Or.inl (fun h => Or.inr (Or.inl h))), k755⟩
          have k764 := f_go X729 hx kq729 (H 58 rfl) (pc' := 96) (by decide)
          have k765 := f_al X729 hx k764 (H 42 rfl) rfl
          obtain ⟨_, T766, L766, X766, hQ766, k766⟩ := c_I (W := 0) (x := mn62) X729 hx hZ hown (hww 158 rfl) (hww 159 rfl) (hww 160 rfl) (hww 161 rfl) (hww 162 rfl) (hww 163 rfl) (hww 164 rfl) (hww 165 rfl) (hww 166 rfl) (hww 141 rfl) (by decide) F761.1 (hn0 l Z a0 hw [] it647 h729 n0 Zq729 (F761.g 2 (v := .null) (by decide) rfl rfl)) e729 (argsL := []) (rest := []) rfl (by rw [hml]; rfl) k765 rfl (H 43 rfl) (lenOf pd__28_29Z rfl) (b5 rfl)
          obtain ⟨rfl, N766q, e766⟩ := hQ766
          have N767 := Fr.app N729 N766q
          have k768 := f_ifY X766 hx k766 (H 44 rfl) (pc' := 141) ((if0 _ _).trans (teq (by decide)).1) (by decide)
          exact ⟨T766, h729, _, b623, k623, (2 : Int32), it647, u10, u11, (0 : Int32), cn2, (si r2), (X766.more (by decide) (by decide)), e766, N767, Zq729, F756, F757, (F758.pad (pad_rep [(.int u10), (.int u11)] zI 1)), F759, F762, F763, (hcr1.elim (fun q => (Or.inr (Or.inr (Or.inr (Or.inl ⟨rfl, q⟩))))) (fun q => q.elim (fun q => (Or.inr (Or.inr (Or.inr (Or.inr (Or.inl ⟨rfl, q⟩)))))) (fun q => (Or.inr (Or.inr (Or.inr (Or.inr (Or.inr (Or.inl ⟨rfl, q⟩))))))))), rfl, k768⟩
    · rcases KP1 with ⟨rfl, rfl⟩ | ⟨rfl, rfl, Lnd1, Lbx1, nw_nd1, nw_bx1⟩
      · rcases KP2 with ⟨rfl, rfl⟩ | ⟨rfl, rfl, Lnd2, Lbx2, nw_nd2, nw_bx2⟩
        · obtain rfl : sz = (1 : Int32) := HZ.trans (by show (1 : Int32) + (0 : Int32) + (0 : Int32) = (1 : Int32); decide)
          have k769 := f_alN X137 hx kq137 (H 32 rfl) rfl
          obtain ⟨_, T770, L770, X770, hQ770, k770⟩ := c_I (W := 0) (x := mn59) X137 hx hZ hown (hww 88 rfl) (hww 89 rfl) (hww 90 rfl) (hww 91 rfl) (hww 92 rfl) (hww 93 rfl) (hww 94 rfl) (hww 95 rfl) (hww 96 rfl) (hww 53 rfl) (by decide) F392.1 (hsz l Z a0 hw [] mp (1 : Int32) h137 n0 Zq137 (F392.g 1 (v := (.int (1 : Int32))) (by decide) rfl rfl)) e137 (argsL := []) (rest := []) rfl (by rw [hml]; rfl) k769 rfl (H 33 rfl) (lenOf pd__28_29I rfl) (b5 rfl)
          obtain ⟨rfl, N770q, e770⟩ := hQ770
          have N771 := Fr.app N137 N770q
          obtain ⟨T772, h772, k772, X772, e772, E772, A772, Y772, st772⟩ := newPE X770 hx hZ (hww 85 rfl) e770 (g := (mkF m 77 #[sr a1, sr ls, sr mp, si iz, un, un, un] [vI 1])) rfl (H 34 rfl) rfl (by decide) (cap := 1) (by decide) (by decide) (by decide) (by decide) (ad := "[I") (by decide)
          obtain ⟨b772, g772⟩ : ∃ z, z = h137.size := ⟨_, rfl⟩
          rw [← g772] at A772 Y772 st772
          have g773 : n0 ≤ b772 := Nat.le_trans Zq137 (Nat.le_of_eq g772.symm)
          have z774 : h0.size ≤ b772 := Nat.le_trans F394.1 (Nat.le_of_eq g772.symm)
          have F775 := F391.ext E772
          have F776 := F392.ext E772
          have F777 := F393.ext E772
          have F778 := F395.ext E772
          have Z779 : n0 ≤ h772.size := Nat.le_trans Zq137 E772.1
          have K780 := F394.ext E772
          have V781 : Arv Z h772 b772 k772 .int (1 : Int32) [zI] zI := (Arv.new A772 (by decide)).pad (pad_rep [] zI 1)
          have k782 : Rt p e below T772 (mkF m 79 #[sr a1, sr ls, sr mp, si iz, un, un, un] [vR b772]) s₁ m #[(.ref a1), (.ref ls), (.ref mp)] 7 := fun t k => k770 t (st772 t k)
          have k783 := f_asN X772 hx k782 (H 35 rfl) (l' := #[sr a1, sr ls, sr mp, sr b772, un, un, un]) rfl
          have k784 := f_ic X772 hx k783 (H 36 rfl) (v := 0) rfl
          have k785 := f_is X772 hx k784 (H 37 rfl) (l' := #[sr a1, sr ls, sr mp, sr b772, si 0, un, un]) rfl
          have k786 := f_alN X772 hx k785 (H 38 rfl) rfl
          obtain ⟨_, T787, L787, X787, hQ787, k787⟩ := c_I (W := 0) (x := mn60) X772 hx hZ hown (hww 99 rfl) (hww 100 rfl) (hww 101 rfl) (hww 102 rfl) (hww 103 rfl) (hww 104 rfl) (hww 105 rfl) (hww 95 rfl) (hww 106 rfl) (hww 53 rfl) (by decide) F776.1 (vls l Z a0 hw [] mp (.ref tb) (1 : Int32) mc th h772 n0 Z779 F776 ge_mp) e772 (argsL := []) (rest := []) rfl (by rw [hml]; rfl) k786 rfl (H 39 rfl) (lenOf pd__28_29Ljava_2futil_2fCollection_3b rfl) (b5 rfl)
          obtain ⟨h787, e787⟩ : ∃ h', T787.heap = h' := ⟨_, rfl⟩
          rw [e787] at hQ787
          obtain ⟨vw787, rfl, N787q, K787, Zx787_0, R787_0, R787_1⟩ := hQ787
          have N788 := Fr.app N771 N787q
          have F789 := F775.keep K787 (ninS ne_a1_mp nin0)
          have F790 := F777.keep K787 (ninS (nG Fk1.lt (Nat.le_of_eq g108.symm)) nin0)
          have F791 := F778.keep K787 (allS ge_mp all0)
          have F792 := V781.keep K787 (ninS (nG F392.lt (Nat.le_of_eq g772.symm)) nin0)
          have F793 := Y772.keep K787
          have Z794 : n0 ≤ h787.size := Nat.le_trans Z779 K787.1
          have K795 := Keep.trans K780 K787 (allS (oL 1 rfl) all0)
          obtain ⟨_, T796, L796, X796, hQ796, k796⟩ := c_I (W := 0) (x := mn61) X787 hx hZ hown (hww 121 rfl) (hww 122 rfl) (hww 123 rfl) (hww 124 rfl) (hww 125 rfl) (hww 126 rfl) (hww 127 rfl) (hww 128 rfl) (hww 129 rfl) (hww 112 rfl) (by decide) R787_1.1 (vit1 l Z a0 hw [] vw787 mp mc (1 : Int32) tb kt nd0 .null .null h787 n0 Z794 (R787_0.g 2 (v := (.int mc)) (by decide) rfl rfl) (R787_0.g 0 (v := (.ref tb)) (by decide) rfl rfl) (R787_0.g 1 (v := (.int (1 : Int32))) (by decide) rfl rfl) (Ltb.keep K795 nw_tb) R787_1 (by decide)) e787 (argsL := []) (rest := []) rfl (by rw [hml]; rfl) k787 rfl (H 40 rfl) (lenOf pd__28_29Ljava_2futil_2fIterator_3b rfl) (b5 rfl)
          obtain ⟨h796, e796⟩ : ∃ h', T796.heap = h' := ⟨_, rfl⟩
          rw [e796] at hQ796
          obtain ⟨it796, rfl, N796q, K796, Zx796_0, R796_0⟩ := hQ796
          have N797 := Fr.app N788 N796q
          have F798 := F789.keep K796 nin0
          have F799 := F790.keep K796 nin0
          have F800 := F791.keep K796 all0
          have F801 := F792.keep K796 nin0
          have F802 := F793.keep K796
          have F803 := R787_0.keep K796 nin0
          have F804 := R787_1.keep K796 nin0
          have Z805 : n0 ≤ h796.size := Nat.le_trans Z794 K796.1
          have K806 := Keep.trans K795 K796 all0
          have k807 := f_as X796 hx k796 (H 41 rfl) (l' := #[sr a1, sr ls, sr mp, sr b772, si 0, sr it796, un]) rfl
          have k808 := f_al X796 hx k807 (H 42 rfl) rfl
          obtain ⟨_, T809, L809, X809, hQ809, k809⟩ := c_I (W := 0) (x := mn62) X796 hx hZ hown (hww 158 rfl) (hww 159 rfl) (hww 160 rfl) (hww 161 rfl) (hww 162 rfl) (hww 163 rfl) (hww 164 rfl) (hww 165 rfl) (hww 166 rfl) (hww 141 rfl) (by decide) R796_0.1 (hn1 l Z a0 hw [] it796 nd0 h796 n0 Z805 (R796_0.g 2 (v := (.ref nd0)) (by decide) rfl rfl)) e796 (argsL := []) (rest := []) rfl (by rw [hml]; rfl) k808 rfl (H 43 rfl) (lenOf pd__28_29Z rfl) (b5 rfl)
          obtain ⟨rfl, N809q, e809⟩ := hQ809
          have N810 := Fr.app N797 N809q
          have k811 := f_ifN X809 hx k809 (H 44 rfl) ((if0 _ _).trans (feq (by decide)).1)
          have k812 := f_al X809 hx k811 (H 45 rfl) rfl
          obtain ⟨_, T813, L813, X813, hQ813, k813⟩ := c_I (W := 0) (x := mn63) X809 hx hZ hown (hww 373 rfl) (hww 374 rfl) (hww 375 rfl) (hww 376 rfl) (hww 377 rfl) (hww 378 rfl) (hww 379 rfl) (hww 165 rfl) (hww 380 rfl) (hww 132 rfl) (by decide) R796_0.1 (nxt1None l Z a0 hw [] it796 mp mc tb kt nd0 .null (.ref nd0) bx0 h796 n0 Z805 R796_0 (F803.g 2 (v := (.int mc)) (by decide) rfl rfl) (F803.g 0 (v := (.ref tb)) (by decide) rfl rfl) (Ltb.keep K806 nw_tb) ((Lnd0.keep K806 nw_nd0).g 3 (v := .null) (by decide) rfl rfl) ((Lnd0.keep K806 nw_nd0).g 2 (v := (.ref bx0)) (by decide) rfl rfl) (Nat.le_trans Z794 Zx796_0) (nG R787_0.lt Zx796_0) (nG Ltb.lt (Nat.le_trans K795.1 Zx796_0)) (nG Lnd0.lt (Nat.le_trans K795.1 Zx796_0))) e809 (argsL := []) (rest := []) rfl (by rw [hml]; rfl) k812 rfl (H 46 rfl) (lenOf pd__28_29Ljava_2flang_2fObject_3b rfl) (b5 rfl)
          obtain ⟨h813, e813⟩ : ∃ h', T813.heap = h' := ⟨_, rfl⟩
          rw [e813] at hQ813
          obtain ⟨rfl, N813q, K813, R813_0⟩ := hQ813
          have N814 := Fr.app N810 N813q
          have F815 := F798.keep K813 (ninS (nL F789.lt Zx796_0) nin0)
          have F816 := F799.keep K813 (ninS (nL F790.lt Zx796_0) nin0)
          have F817 := F800.keep K813 (allS (Nat.le_trans Z794 Zx796_0) all0)
          have F818 := F801.keep K813 (ninS (nL F792.lt Zx796_0) nin0)
          have F819 := F802.keep K813
          have F820 := F803.keep K813 (ninS (nL R787_0.lt Zx796_0) nin0)
          have Z821 : n0 ≤ h813.size := Nat.le_trans Z805 K813.1
          have K822 := Keep.trans K806 K813 (allS (Or.inr (Nat.le_trans K795.1 Zx796_0)) all0)
          obtain ⟨T823, X823, e823, st823⟩ := castY X813 hx hZ hown (hww 359 rfl) e813 (Ins.self (Lbx0.keep K822 nw_bx0).1) (g := (mkF m 113 #[sr a1, sr ls, sr mp, sr b772, si 0, sr it796, un] [vR bx0])) rfl rfl (H 47 rfl)
          have k824 : Rt p e below T823 (mkF m 116 #[sr a1, sr ls, sr mp, sr b772, si 0, sr it796, un] [vR bx0]) s₁ m #[(.ref a1), (.ref ls), (.ref mp)] 7 := fun t k => k813 t (st823 t k)
          obtain ⟨_, T825, L825, X825, hQ825, k825⟩ := c_V (W := 0) (x := mn14) X823 hx hZ hown (hww 361 rfl) (hww 362 rfl) (notFace_of_selects (args := #[]) (mvT hZ (hww 364 rfl))) (hww 364 rfl) (hww 363 rfl) (hww 365 rfl) (hww 242 rfl) (by decide) (Lbx0.keep K822 nw_bx0).1 (iv l Z a0 hw [] bx0 r0 h813 n0 Z821 ((Lbx0.keep K822 nw_bx0).g 0 (v := (.int r0)) (by decide) rfl rfl)) e823 (argsL := []) (rest := []) rfl (by rw [hml]; rfl) k824 rfl (H 48 rfl) (lenOf pd__28_29I rfl) (b5 rfl)
          obtain ⟨rfl, N825q, e825⟩ := hQ825
          have N826 := Fr.app N814 N825q
          have k827 := f_is X825 hx k825 (H 49 rfl) (l' := #[sr a1, sr ls, sr mp, sr b772, si 0, sr it796, si r0]) rfl
          have k828 := f_il X825 hx k827 (H 50 rfl) rfl
          obtain ⟨_, T829, L829, X829, hQ829, k829⟩ := c_S (W := 0) X825 hx hZ hown (hww 368 rfl) (hww 369 rfl) (hww 69 rfl) (hww 370 rfl) (by decide) (gain l Z a0 hw [] r0 h813 n0 Z821 ) e825 (argsL := [(.int r0)]) (rest := []) rfl (by rw [hml]; rfl) k828 rfl (H 51 rfl) (lenOf pd__28I_29I rfl) (b5 rfl)
          obtain ⟨h829, e829⟩ : ∃ h', T829.heap = h' := ⟨_, rfl⟩
          rw [e829] at hQ829
          obtain ⟨j829, rfl, N829q, hh829, P829_0⟩ := hQ829
          have N830 := Fr.app N826 N829q
          have ee829 : T829.heap = h813 := e829.trans hh829
          obtain ⟨T831, h831, Ls831, u00, cn1, X831, e831, N831, Zq831, F846, F847, F848, F849, F850, F851, F852, F853, hcr0, kq831⟩ : ∃ (T831 : State) (h831 : Heap) (Ls831 : List Loc) (u00 : Int32) (cn1 : Int32), Stand p l e (rm 5 9 21 79) s m #[(.ref a1), (.ref ls), (.ref mp)] below meth c T831 Ls831 7 13 ∧ T831.heap = h831 ∧ Fr n0 Ls831 ∧ n0 ≤ h831.size ∧ OBJ Z h831 a1 "com/example/multinomial/multinomial/eval/JudgedRanking" lyJR [(.ref b108), .null] ∧ Arv Z h831 b108 k108 .int nn [(.int g0), (.int g1), (.int g2)] zI ∧ Arv Z h831 b772 k772 .int (1 : Int32) [(.int u00)] zI ∧ Exa Z h831 b772 "[I" ∧ OBJ Z h831 mp "java/util/HashMap" lyMP [(.ref tb), (.int (1 : Int32)), (.int mc), (.int th), (.ref vw787), (.float (1061158912 : UInt32))] ∧ OBJ Z h831 it796 "java/util/HashMap$ValueIterator" lyIT [(.ref mp), (.int mc), .null, (.ref nd0), (.int (16 : Int32))] ∧ Keep h0 h831 [a1, mp, id0, id1, id2] ∧ Old Z n0 h831 ∧ (cn1 = (0 : Int32) ∨ cn1 = (1 : Int32)) ∧ (Rt p e below T831 (mkF m 138 #[sr a1, sr ls, sr mp, sr b772, si cn1, sr it796, si r0] []) s₁ m #[(.ref a1), (.ref ls), (.ref mp)] 7) := by
           by_cases qp : (0 : Int32) < j829
           · have k832 := f_ifN X829 hx k829 (H 52 rfl) ((if0 _ _).trans (tlt qp).2.2.2)
             have k833 := f_alN X829 hx k832 (H 53 rfl) rfl
             have k834 := f_il X829 hx k833 (H 54 rfl) rfl
             have k835 := f_il X829 hx k834 (H 55 rfl) rfl
             obtain ⟨T836, h836, L836, X836, e836, W836, V836, N836, Z836, k836⟩ := f_ist X829 hx hZ ee829 F818 N830 g773 Z821 k835 (H 56 rfl) (by decide) 0 rfl (lt_b rfl)
             have F837 := F816.other W836 (nL F393.lt (Nat.le_of_eq g772.symm))
             have F838 := F817.wr W836 g773
             have F839 := F819.wr W836
             have K840 := K822.wr W836 (Or.inr z774)
             have B841 := F815.other W836 (nL F391.lt (Nat.le_of_eq g772.symm))
             have B842 := F820.other W836 (nL F392.lt (Nat.le_of_eq g772.symm))
             have B843 := R813_0.other W836 (nG F792.lt Zx796_0)
             have k844 := f_inc X836 hx k836 (H 57 rfl) rfl (l' := #[sr a1, sr ls, sr mp, sr b772, si 1, sr it796, si r0]) rfl
             exact ⟨T836, h836, _, r0, (1 : Int32), X836, e836, N836, Z836, B841, F837, V836, F839, B842, B843, K840, F838, (Or.inr (rfl)), k844⟩
           · have k845 := f_ifY X829 hx k829 (H 52 rfl) (pc' := 138) ((if0 _ _).trans (flt qp).2.2.2) (by decide)
             exact ⟨T829, h813, _, (0 : Int32), (0 : Int32), X829, ee829, N830, Z821, F815, F816, F818, F819, F820, R813_0, K822, F817, (Or.inl rfl), k845⟩
          have k854 := f_go X831 hx kq831 (H 58 rfl) (pc' := 96) (by decide)
          have k855 := f_al X831 hx k854 (H 42 rfl) rfl
          obtain ⟨_, T856, L856, X856, hQ856, k856⟩ := c_I (W := 0) (x := mn62) X831 hx hZ hown (hww 158 rfl) (hww 159 rfl) (hww 160 rfl) (hww 161 rfl) (hww 162 rfl) (hww 163 rfl) (hww 164 rfl) (hww 165 rfl) (hww 166 rfl) (hww 141 rfl) (by decide) F851.1 (hn0 l Z a0 hw [] it796 h831 n0 Zq831 (F851.g 2 (v := .null) (by decide) rfl rfl)) e831 (argsL := []) (rest := []) rfl (by rw [hml]; rfl) k855 rfl (H 43 rfl) (lenOf pd__28_29Z rfl) (b5 rfl)
          obtain ⟨rfl, N856q, e856⟩ := hQ856
          have N857 := Fr.app N831 N856q
          have k858 := f_ifY X856 hx k856 (H 44 rfl) (pc' := 141) ((if0 _ _).trans (teq (by decide)).1) (by decide)
          exact ⟨T856, h831, _, b772, k772, (1 : Int32), it796, u00, (0 : Int32), (0 : Int32), cn1, (si r0), (X856.more (by decide) (by decide)), e856, N857, Zq831, F846, F847, (F848.pad (pad_rep [(.int u00)] zI 2)), F849, F852, F853, (hcr0.elim (fun q => (Or.inr (Or.inl ⟨rfl, q⟩))) (fun q => (Or.inr (Or.inr (Or.inl ⟨rfl, q⟩))))), rfl, k858⟩
        · obtain rfl : sz = (2 : Int32) := HZ.trans (by show (1 : Int32) + (0 : Int32) + (1 : Int32) = (2 : Int32); decide)
          have k859 := f_alN X137 hx kq137 (H 32 rfl) rfl
          obtain ⟨_, T860, L860, X860, hQ860, k860⟩ := c_I (W := 0) (x := mn59) X137 hx hZ hown (hww 88 rfl) (hww 89 rfl) (hww 90 rfl) (hww 91 rfl) (hww 92 rfl) (hww 93 rfl) (hww 94 rfl) (hww 95 rfl) (hww 96 rfl) (hww 53 rfl) (by decide) F392.1 (hsz l Z a0 hw [] mp (2 : Int32) h137 n0 Zq137 (F392.g 1 (v := (.int (2 : Int32))) (by decide) rfl rfl)) e137 (argsL := []) (rest := []) rfl (by rw [hml]; rfl) k859 rfl (H 33 rfl) (lenOf pd__28_29I rfl) (b5 rfl)
          obtain ⟨rfl, N860q, e860⟩ := hQ860
          have N861 := Fr.app N137 N860q
          obtain ⟨T862, h862, k862, X862, e862, E862, A862, Y862, st862⟩ := newPE X860 hx hZ (hww 85 rfl) e860 (g := (mkF m 77 #[sr a1, sr ls, sr mp, si iz, un, un, un] [vI 2])) rfl (H 34 rfl) rfl (by decide) (cap := 2) (by decide) (by decide) (by decide) (by decide) (ad := "[I") (by decide)
          obtain ⟨b862, g862⟩ : ∃ z, z = h137.size := ⟨_, rfl⟩
          rw [← g862] at A862 Y862 st862
          have g863 : n0 ≤ b862 := Nat.le_trans Zq137 (Nat.le_of_eq g862.symm)
          have z864 : h0.size ≤ b862 := Nat.le_trans F394.1 (Nat.le_of_eq g862.symm)
          have F865 := F391.ext E862
          have F866 := F392.ext E862
          have F867 := F393.ext E862
          have F868 := F395.ext E862
          have Z869 : n0 ≤ h862.size := Nat.le_trans Zq137 E862.1
          have K870 := F394.ext E862
          have V871 : Arv Z h862 b862 k862 .int (2 : Int32) [zI, zI] zI := (Arv.new A862 (by decide)).pad (pad_rep [] zI 2)
          have k872 : Rt p e below T862 (mkF m 79 #[sr a1, sr ls, sr mp, si iz, un, un, un] [vR b862]) s₁ m #[(.ref a1), (.ref ls), (.ref mp)] 7 := fun t k => k860 t (st862 t k)
          have k873 := f_asN X862 hx k872 (H 35 rfl) (l' := #[sr a1, sr ls, sr mp, sr b862, un, un, un]) rfl
          have k874 := f_ic X862 hx k873 (H 36 rfl) (v := 0) rfl
          have k875 := f_is X862 hx k874 (H 37 rfl) (l' := #[sr a1, sr ls, sr mp, sr b862, si 0, un, un]) rfl
          have k876 := f_alN X862 hx k875 (H 38 rfl) rfl
          obtain ⟨_, T877, L877, X877, hQ877, k877⟩ := c_I (W := 0) (x := mn60) X862 hx hZ hown (hww 99 rfl) (hww 100 rfl) (hww 101 rfl) (hww 102 rfl) (hww 103 rfl) (hww 104 rfl) (hww 105 rfl) (hww 95 rfl) (hww 106 rfl) (hww 53 rfl) (by decide) F866.1 (vls l Z a0 hw [] mp (.ref tb) (2 : Int32) mc th h862 n0 Z869 F866 ge_mp) e862 (argsL := []) (rest := []) rfl (by rw [hml]; rfl) k876 rfl (H 39 rfl) (lenOf pd__28_29Ljava_2futil_2fCollection_3b rfl) (b5 rfl)
          obtain ⟨h877, e877⟩ : ∃ h', T877.heap = h' := ⟨_, rfl⟩
          rw [e877] at hQ877
          obtain ⟨vw877, rfl, N877q, K877, Zx877_0, R877_0, R877_1⟩ := hQ877
          have N878 := Fr.app N861 N877q
          have F879 := F865.keep K877 (ninS ne_a1_mp nin0)
          have F880 := F867.keep K877 (ninS (nG Fk1.lt (Nat.le_of_eq g108.symm)) nin0)
          have F881 := F868.keep K877 (allS ge_mp all0)
          have F882 := V871.keep K877 (ninS (nG F392.lt (Nat.le_of_eq g862.symm)) nin0)
          have F883 := Y862.keep K877
          have Z884 : n0 ≤ h877.size := Nat.le_trans Z869 K877.1
          have K885 := Keep.trans K870 K877 (allS (oL 1 rfl) all0)
          obtain ⟨_, T886, L886, X886, hQ886, k886⟩ := c_I (W := 0) (x := mn61) X877 hx hZ hown (hww 121 rfl) (hww 122 rfl) (hww 123 rfl) (hww 124 rfl) (hww 125 rfl) (hww 126 rfl) (hww 127 rfl) (hww 128 rfl) (hww 129 rfl) (hww 112 rfl) (by decide) R877_1.1 (vit1 l Z a0 hw [] vw877 mp mc (2 : Int32) tb kt nd0 .null (.ref nd2) h877 n0 Z884 (R877_0.g 2 (v := (.int mc)) (by decide) rfl rfl) (R877_0.g 0 (v := (.ref tb)) (by decide) rfl rfl) (R877_0.g 1 (v := (.int (2 : Int32))) (by decide) rfl rfl) (Ltb.keep K885 nw_tb) R877_1 (by decide)) e877 (argsL := []) (rest := []) rfl (by rw [hml]; rfl) k877 rfl (H 40 rfl) (lenOf pd__28_29Ljava_2futil_2fIterator_3b rfl) (b5 rfl)
          obtain ⟨h886, e886⟩ : ∃ h', T886.heap = h' := ⟨_, rfl⟩
          rw [e886] at hQ886
          obtain ⟨it886, rfl, N886q, K886, Zx886_0, R886_0⟩ := hQ886
          have N887 := Fr.app N878 N886q
          have F888 := F879.keep K886 nin0
          have F889 := F880.keep K886 nin0
          have F890 := F881.keep K886 all0
          have F891 := F882.keep K886 nin0
          have F892 := F883.keep K886
          have F893 := R877_0.keep K886 nin0
          have F894 := R877_1.keep K886 nin0
          have Z895 : n0 ≤ h886.size := Nat.le_trans Z884 K886.1
          have K896 := Keep.trans K885 K886 all0
          have k897 := f_as X886 hx k886 (H 41 rfl) (l' := #[sr a1, sr ls, sr mp, sr b862, si 0, sr it886, un]) rfl
          have k898 := f_al X886 hx k897 (H 42 rfl) rfl
          obtain ⟨_, T899, L899, X899, hQ899, k899⟩ := c_I (W := 0) (x := mn62) X886 hx hZ hown (hww 158 rfl) (hww 159 rfl) (hww 160 rfl) (hww 161 rfl) (hww 162 rfl) (hww 163 rfl) (hww 164 rfl) (hww 165 rfl) (hww 166 rfl) (hww 141 rfl) (by decide) R886_0.1 (hn1 l Z a0 hw [] it886 nd0 h886 n0 Z895 (R886_0.g 2 (v := (.ref nd0)) (by decide) rfl rfl)) e886 (argsL := []) (rest := []) rfl (by rw [hml]; rfl) k898 rfl (H 43 rfl) (lenOf pd__28_29Z rfl) (b5 rfl)
          obtain ⟨rfl, N899q, e899⟩ := hQ899
          have N900 := Fr.app N887 N899q
          have k901 := f_ifN X899 hx k899 (H 44 rfl) ((if0 _ _).trans (feq (by decide)).1)
          have k902 := f_al X899 hx k901 (H 45 rfl) rfl
          obtain ⟨_, T903, L903, X903, hQ903, k903⟩ := c_I (W := 0) (x := mn63) X899 hx hZ hown (hww 373 rfl) (hww 374 rfl) (hww 375 rfl) (hww 376 rfl) (hww 377 rfl) (hww 378 rfl) (hww 379 rfl) (hww 165 rfl) (hww 380 rfl) (hww 132 rfl) (by decide) R886_0.1 (nxt13 l Z a0 hw [] it886 mp mc tb kt nd0 .null nd2 (.ref nd0) bx0 h886 n0 Z895 R886_0 (F893.g 2 (v := (.int mc)) (by decide) rfl rfl) (F893.g 0 (v := (.ref tb)) (by decide) rfl rfl) (Ltb.keep K896 nw_tb) ((Lnd0.keep K896 nw_nd0).g 3 (v := .null) (by decide) rfl rfl) ((Lnd0.keep K896 nw_nd0).g 2 (v := (.ref bx0)) (by decide) rfl rfl) (Nat.le_trans Z884 Zx886_0) (nG R877_0.lt Zx886_0) (nG Ltb.lt (Nat.le_trans K885.1 Zx886_0)) (nG Lnd0.lt (Nat.le_trans K885.1 Zx886_0))) e899 (argsL := []) (rest := []) rfl (by rw [hml]; rfl) k902 rfl (H 46 rfl) (lenOf pd__28_29Ljava_2flang_2fObject_3b rfl) (b5 rfl)
          obtain ⟨h903, e903⟩ : ∃ h', T903.heap = h' := ⟨_, rfl⟩
          rw [e903] at hQ903
          obtain ⟨rfl, N903q, K903, R903_0⟩ := hQ903
          have N904 := Fr.app N900 N903q
          have F905 := F888.keep K903 (ninS (nL F879.lt Zx886_0) nin0)
          have F906 := F889.keep K903 (ninS (nL F880.lt Zx886_0) nin0)
          have F907 := F890.keep K903 (allS (Nat.le_trans Z884 Zx886_0) all0)
          have F908 := F891.keep K903 (ninS (nL F882.lt Zx886_0) nin0)
          have F909 := F892.keep K903
          have F910 := F893.keep K903 (ninS (nL R877_0.lt Zx886_0) nin0)
          have Z911 : n0 ≤ h903.size := Nat.le_trans Z895 K903.1
          have K912 := Keep.trans K896 K903 (allS (Or.inr (Nat.le_trans K885.1 Zx886_0)) all0)
          obtain ⟨T913, X913, e913, st913⟩ := castY X903 hx hZ hown (hww 359 rfl) e903 (Ins.self (Lbx0.keep K912 nw_bx0).1) (g := (mkF m 113 #[sr a1, sr ls, sr mp, sr b862, si 0, sr it886, un] [vR bx0])) rfl rfl (H 47 rfl)
          have k914 : Rt p e below T913 (mkF m 116 #[sr a1, sr ls, sr mp, sr b862, si 0, sr it886, un] [vR bx0]) s₁ m #[(.ref a1), (.ref ls), (.ref mp)] 7 := fun t k => k903 t (st913 t k)
          obtain ⟨_, T915, L915, X915, hQ915, k915⟩ := c_V (W := 0) (x := mn14) X913 hx hZ hown (hww 361 rfl) (hww 362 rfl) (notFace_of_selects (args := #[]) (mvT hZ (hww 364 rfl))) (hww 364 rfl) (hww 363 rfl) (hww 365 rfl) (hww 242 rfl) (by decide) (Lbx0.keep K912 nw_bx0).1 (iv l Z a0 hw [] bx0 r0 h903 n0 Z911 ((Lbx0.keep K912 nw_bx0).g 0 (v := (.int r0)) (by decide) rfl rfl)) e913 (argsL := []) (rest := []) rfl (by rw [hml]; rfl) k914 rfl (H 48 rfl) (lenOf pd__28_29I rfl) (b5 rfl)
          obtain ⟨rfl, N915q, e915⟩ := hQ915
          have N916 := Fr.app N904 N915q
          have k917 := f_is X915 hx k915 (H 49 rfl) (l' := #[sr a1, sr ls, sr mp, sr b862, si 0, sr it886, si r0]) rfl
          have k918 := f_il X915 hx k917 (H 50 rfl) rfl
          obtain ⟨_, T919, L919, X919, hQ919, k919⟩ := c_S (W := 0) X915 hx hZ hown (hww 368 rfl) (hww 369 rfl) (hww 69 rfl) (hww 370 rfl) (by decide) (gain l Z a0 hw [] r0 h903 n0 Z911 ) e915 (argsL := [(.int r0)]) (rest := []) rfl (by rw [hml]; rfl) k918 rfl (H 51 rfl) (lenOf pd__28I_29I rfl) (b5 rfl)
          obtain ⟨h919, e919⟩ : ∃ h', T919.heap = h' := ⟨_, rfl⟩
          rw [e919] at hQ919
          obtain ⟨j919, rfl, N919q, hh919, P919_0⟩ := hQ919
          have N920 := Fr.app N916 N919q
          have ee919 : T919.heap = h903 := e919.trans hh919
          obtain ⟨T921, h921, Ls921, u00, cn1, X921, e921, N921, Zq921, F936, F937, F938, F939, F940, F941, F942, F943, hcr0, kq921⟩ : ∃ (T921 : State) (h921 : Heap) (Ls921 : List Loc) (u00 : Int32) (cn1 : Int32), Stand p l e (rm 5 9 21 79) s m #[(.ref a1), (.ref ls), (.ref mp)] below meth c T921 Ls921 7 14 ∧ T921.heap = h921 ∧ Fr n0 Ls921 ∧ n0 ≤ h921.size ∧ OBJ Z h921 a1 "com/example/multinomial/multinomial/eval/JudgedRanking" lyJR [(.ref b108), .null] ∧ Arv Z h921 b108 k108 .int nn [(.int g0), (.int g1), (.int g2)] zI ∧ Arv Z h921 b862 k862 .int (2 : Int32) [(.int u00), zI] zI ∧ Exa Z h921 b862 "[I" ∧ OBJ Z h921 mp "java/util/HashMap" lyMP [(.ref tb), (.int (2 : Int32)), (.int mc), (.int th), (.ref vw877), (.float (1061158912 : UInt32))] ∧ OBJ Z h921 it886 "java/util/HashMap$ValueIterator" lyIT [(.ref mp), (.int mc), (.ref nd2), (.ref nd0), (.int (4 : Int32))] ∧ Keep h0 h921 [a1, mp, id0, id1, id2] ∧ Old Z n0 h921 ∧ (cn1 = (0 : Int32) ∨ cn1 = (1 : Int32)) ∧ (Rt p e below T921 (mkF m 138 #[sr a1, sr ls, sr mp, sr b862, si cn1, sr it886, si r0] []) s₁ m #[(.ref a1), (.ref ls), (.ref mp)] 7) := by
           by_cases qp : (0 : Int32) < j919
           · have k922 := f_ifN X919 hx k919 (H 52 rfl) ((if0 _ _).trans (tlt qp).2.2.2)
             have k923 := f_alN X919 hx k922 (H 53 rfl) rfl
             have k924 := f_il X919 hx k923 (H 54 rfl) rfl
             have k925 := f_il X919 hx k924 (H 55 rfl) rfl
             obtain ⟨T926, h926, L926, X926, e926, W926, V926, N926, Z926, k926⟩ := f_ist X919 hx hZ ee919 F908 N920 g863 Z911 k925 (H 56 rfl) (by decide) 0 rfl (lt_b rfl)
             have F927 := F906.other W926 (nL F393.lt (Nat.le_of_eq g862.symm))
             have F928 := F907.wr W926 g863
             have F929 := F909.wr W926
             have K930 := K912.wr W926 (Or.inr z864)
             have B931 := F905.other W926 (nL F391.lt (Nat.le_of_eq g862.symm))
             have B932 := F910.other W926 (nL F392.lt (Nat.le_of_eq g862.symm))
             have B933 := R903_0.other W926 (nG F882.lt Zx886_0)
             have k934 := f_inc X926 hx k926 (H 57 rfl) rfl (l' := #[sr a1, sr ls, sr mp, sr b862, si 1, sr it886, si r0]) rfl
             exact ⟨T926, h926, _, r0, (1 : Int32), X926, e926, N926, Z926, B931, F927, V926, F929, B932, B933, K930, F928, (Or.inr (rfl)), k934⟩
           · have k935 := f_ifY X919 hx k919 (H 52 rfl) (pc' := 138) ((if0 _ _).trans (flt qp).2.2.2) (by decide)
             exact ⟨T919, h903, _, (0 : Int32), (0 : Int32), X919, ee919, N920, Z911, F905, F906, F908, F909, F910, R903_0, K912, F907, (Or.inl rfl), k935⟩
          have k944 := f_go X921 hx kq921 (H 58 rfl) (pc' := 96) (by decide)
          have k945 := f_al X921 hx k944 (H 42 rfl) rfl
          obtain ⟨_, T946, L946, X946, hQ946, k946⟩ := c_I (W := 0) (x := mn62) X921 hx hZ hown (hww 158 rfl) (hww 159 rfl) (hww 160 rfl) (hww 161 rfl) (hww 162 rfl) (hww 163 rfl) (hww 164 rfl) (hww 165 rfl) (hww 166 rfl) (hww 141 rfl) (by decide) F941.1 (hn1 l Z a0 hw [] it886 nd2 h921 n0 Zq921 (F941.g 2 (v := (.ref nd2)) (by decide) rfl rfl)) e921 (argsL := []) (rest := []) rfl (by rw [hml]; rfl) k945 rfl (H 43 rfl) (lenOf pd__28_29Z rfl) (b5 rfl)
          obtain ⟨rfl, N946q, e946⟩ := hQ946
          have N947 := Fr.app N921 N946q
          have k948 := f_ifN X946 hx k946 (H 44 rfl) ((if0 _ _).trans (feq (by decide)).1)
          have k949 := f_al X946 hx k948 (H 45 rfl) rfl
          obtain ⟨_, T950, L950, X950, hQ950, k950⟩ := c_I (W := 0) (x := mn63) X946 hx hZ hown (hww 373 rfl) (hww 374 rfl) (hww 375 rfl) (hww 376 rfl) (hww 377 rfl) (hww 378 rfl) (hww 379 rfl) (hww 165 rfl) (hww 380 rfl) (hww 132 rfl) (by decide) F941.1 (nxt3None l Z a0 hw [] it886 mp mc tb kt nd2 (.ref nd0) (.ref nd0) .null (.ref nd2) bx2 h921 n0 Zq921 F941 (F940.g 2 (v := (.int mc)) (by decide) rfl rfl) (F940.g 0 (v := (.ref tb)) (by decide) rfl rfl) (Ltb.keep F942 nw_tb) ((Lnd2.keep F942 nw_nd2).g 3 (v := .null) (by decide) rfl rfl) ((Lnd2.keep F942 nw_nd2).g 2 (v := (.ref bx2)) (by decide) rfl rfl) (Nat.le_trans Z884 Zx886_0) (nG R877_0.lt Zx886_0) (nG Ltb.lt (Nat.le_trans K885.1 Zx886_0)) (nG Lnd2.lt (Nat.le_trans K885.1 Zx886_0))) e946 (argsL := []) (rest := []) rfl (by rw [hml]; rfl) k949 rfl (H 46 rfl) (lenOf pd__28_29Ljava_2flang_2fObject_3b rfl) (b5 rfl)
          obtain ⟨h950, e950⟩ : ∃ h', T950.heap = h' := ⟨_, rfl⟩
          rw [e950] at hQ950
          obtain ⟨rfl, N950q, K950, R950_0⟩ := hQ950
          have N951 := Fr.app N947 N950q
          have F952 := F936.keep K950 (ninS (nL F879.lt Zx886_0) nin0)
          have F953 := F937.keep K950 (ninS (nL F880.lt Zx886_0) nin0)
          have F954 := F938.keep K950 (ninS (nL F882.lt Zx886_0) nin0)
          have F955 := F939.keep K950
          have F956 := F940.keep K950 (ninS (nL R877_0.lt Zx886_0) nin0)
          have F957 := F943.keep K950 (allS (Nat.le_trans Z884 Zx886_0) all0)
          have Z958 : n0 ≤ h950.size := Nat.le_trans Zq921 K950.1
          have K959 := Keep.trans F942 K950 (allS (Or.inr (Nat.le_trans K885.1 Zx886_0)) all0)
          obtain ⟨T960, X960, e960, st960⟩ := castY X950 hx hZ hown (hww 359 rfl) e950 (Ins.self (Lbx2.keep K959 nw_bx2).1) (g := (mkF m 113 #[sr a1, sr ls, sr mp, sr b862, si cn1, sr it886, si r0] [vR bx2])) rfl rfl (H 47 rfl)
          have k961 : Rt p e below T960 (mkF m 116 #[sr a1, sr ls, sr mp, sr b862, si cn1, sr it886, si r0] [vR bx2]) s₁ m #[(.ref a1), (.ref ls), (.ref mp)] 7 := fun t k => k950 t (st960 t k)
          obtain ⟨_, T962, L962, X962, hQ962, k962⟩ := c_V (W := 0) (x := mn14) X960 hx hZ hown (hww 361 rfl) (hww 362 rfl) (notFace_of_selects (args := #[]) (mvT hZ (hww 364 rfl))) (hww 364 rfl) (hww 363 rfl) (hww 365 rfl) (hww 242 rfl) (by decide) (Lbx2.keep K959 nw_bx2).1 (iv l Z a0 hw [] bx2 r2 h950 n0 Z958 ((Lbx2.keep K959 nw_bx2).g 0 (v := (.int r2)) (by decide) rfl rfl)) e960 (argsL := []) (rest := []) rfl (by rw [hml]; rfl) k961 rfl (H 48 rfl) (lenOf pd__28_29I rfl) (b5 rfl)
          obtain ⟨rfl, N962q, e962⟩ := hQ962
          have N963 := Fr.app N951 N962q
          have k964 := f_is X962 hx k962 (H 49 rfl) (l' := #[sr a1, sr ls, sr mp, sr b862, si cn1, sr it886, si r2]) rfl
          have k965 := f_il X962 hx k964 (H 50 rfl) rfl
          obtain ⟨_, T966, L966, X966, hQ966, k966⟩ := c_S (W := 0) X962 hx hZ hown (hww 368 rfl) (hww 369 rfl) (hww 69 rfl) (hww 370 rfl) (by decide) (gain l Z a0 hw [] r2 h950 n0 Z958 ) e962 (argsL := [(.int r2)]) (rest := []) rfl (by rw [hml]; rfl) k965 rfl (H 51 rfl) (lenOf pd__28I_29I rfl) (b5 rfl)
          obtain ⟨h966, e966⟩ : ∃ h', T966.heap = h' := ⟨_, rfl⟩
          rw [e966] at hQ966
          obtain ⟨j966, rfl, N966q, hh966, P966_0⟩ := hQ966
          have N967 := Fr.app N963 N966q
          have ee966 : T966.heap = h950 := e966.trans hh966
          obtain ⟨T968, h968, Ls968, u10, u11, cn2, X968, e968, N968, Zq968, F995, F996, F997, F998, F999, F1000, F1001, F1002, hcr1, kq968⟩ : ∃ (T968 : State) (h968 : Heap) (Ls968 : List Loc) (u10 : Int32) (u11 : Int32) (cn2 : Int32), Stand p l e (rm 5 9 21 79) s m #[(.ref a1), (.ref ls), (.ref mp)] below meth c T968 Ls968 7 14 ∧ T968.heap = h968 ∧ Fr n0 Ls968 ∧ n0 ≤ h968.size ∧ OBJ Z h968 a1 "com/example/multinomial/multinomial/eval/JudgedRanking" lyJR [(.ref b108), .null] ∧ Arv Z h968 b108 k108 .int nn [(.int g0), (.int g1), (.int g2)] zI ∧ Arv Z h968 b862 k862 .int (2 : Int32) [(.int u10), (.int u11)] zI ∧ Exa Z h968 b862 "[I" ∧ OBJ Z h968 mp "java/util/HashMap" lyMP [(.ref tb), (.int (2 : Int32)), (.int mc), (.int th), (.ref vw877), (.float (1061158912 : UInt32))] ∧ OBJ Z h968 it886 "java/util/HashMap$ValueIterator" lyIT [(.ref mp), (.int mc), .null, (.ref nd2), (.int (16 : Int32))] ∧ Keep h0 h968 [a1, mp, id0, id1, id2] ∧ Old Z n0 h968 ∧ (cn2 = (0 : Int32) ∨ cn2 = (1 : Int32) ∨ cn2 = (2 : Int32)) ∧ (Rt p e below T968 (mkF m 138 #[sr a1, sr ls, sr mp, sr b862, si cn2, sr it886, si r2] []) s₁ m #[(.ref a1), (.ref ls), (.ref mp)] 7) := by
           by_cases qp : (0 : Int32) < j966
           · have k969 := f_ifN X966 hx k966 (H 52 rfl) ((if0 _ _).trans (tlt qp).2.2.2)
             rcases hcr0 with rfl | rfl
             · have k970 := f_alN X966 hx k969 (H 53 rfl) rfl
               have k971 := f_il X966 hx k970 (H 54 rfl) rfl
               have k972 := f_il X966 hx k971 (H 55 rfl) rfl
               obtain ⟨T973, h973, L973, X973, e973, W973, V973, N973, Z973, k973⟩ := f_ist X966 hx hZ ee966 F954 N967 g863 Z958 k972 (H 56 rfl) (by decide) 0 rfl (lt_b rfl)
               have F974 := F953.other W973 (nL F393.lt (Nat.le_of_eq g862.symm))
               have F975 := F955.wr W973
               have F976 := F957.wr W973 g863
               have K977 := K959.wr W973 (Or.inr z864)
               have B978 := F952.other W973 (nL F391.lt (Nat.le_of_eq g862.symm))
               have B979 := F956.other W973 (nL F392.lt (Nat.le_of_eq g862.symm))
               have B980 := R950_0.other W973 (nG F882.lt Zx886_0)
               have k981 := f_inc X973 hx k973 (H 57 rfl) rfl (l' := #[sr a1, sr ls, sr mp, sr b862, si 1, sr it886, si r2]) rfl
               exact ⟨T973, h973, _, r2, (0 : Int32), (1 : Int32), X973, e973, N973, Z973, B978, F974, V973, F975, B979, B980, K977, F976, (Or.inr (Or.inl rfl)), k981⟩
             · have k982 := f_alN X966 hx k969 (H 53 rfl) rfl
               have k983 := f_il X966 hx k982 (H 54 rfl) rfl
               have k984 := f_il X966 hx k983 (H 55 rfl) rfl
               obtain ⟨T985, h985, L985, X985, e985, W985, V985, N985, Z985, k985⟩ := f_ist X966 hx hZ ee966 F954 N967 g863 Z958 k984 (H 56 rfl) (by decide) 1 rfl (lt_b rfl)
               have F986 := F953.other W985 (nL F393.lt (Nat.le_of_eq g862.symm))
               have F987 := F955.wr W985
               have F988 := F957.wr W985 g863
               have K989 := K959.wr W985 (Or.inr z864)
               have B990 := F952.other W985 (nL F391.lt (Nat.le_of_eq g862.symm))
               have B991 := F956.other W985 (nL F392.lt (Nat.le_of_eq g862.symm))
               have B992 := R950_0.other W985 (nG F882.lt Zx886_0)
               have k993 := f_inc X985 hx k985 (H 57 rfl) rfl (l' := #[sr a1, sr ls, sr mp, sr b862, si 2, sr it886, si r2]) rfl
               exact ⟨T985, h985, _, u00, r2, (2 : Int32), X985, e985, N985, Z985, B990, F986, V985, F987, B991, B992, K989, F988, (Or.inr (Or.inr (rfl))), k993⟩
           · have k994 := f_ifY X966 hx k966 (H 52 rfl) (pc' := 138) ((if0 _ _).trans (flt qp).2.2.2) (by decide)
             exact ⟨T966, h950, _, u00, (0 : Int32), cn1, X966, ee966, N967, Z958, F952, F953, F954, F955, F956, R950_0, K959, F957, (hcr0.elim Or.inl (fun h => Or.inr (Or.inl h))), k994⟩
          have k1003 := f_go X968 hx kq968 (H 58 rfl) (pc' := 96) (by decide)
          have k1004 := f_al X968 hx k1003 (H 42 rfl) rfl
          obtain ⟨_, T1005, L1005, X1005, hQ1005, k1005⟩ := c_I (W := 0) (x := mn62) X968 hx hZ hown (hww 158 rfl) (hww 159 rfl) (hww 160 rfl) (hww 161 rfl) (hww 162 rfl) (hww 163 rfl) (hww 164 rfl) (hww 165 rfl) (hww 166 rfl) (hww 141 rfl) (by decide) F1000.1 (hn0 l Z a0 hw [] it886 h968 n0 Zq968 (F1000.g 2 (v := .null) (by decide) rfl rfl)) e968 (argsL := []) (rest := []) rfl (by rw [hml]; rfl) k1004 rfl (H 43 rfl) (lenOf pd__28_29Z rfl) (b5 rfl)
          obtain ⟨rfl, N1005q, e1005⟩ := hQ1005
          have N1006 := Fr.app N968 N1005q
          have k1007 := f_ifY X1005 hx k1005 (H 44 rfl) (pc' := 141) ((if0 _ _).trans (teq (by decide)).1) (by decide)
          exact ⟨T1005, h968, _, b862, k862, (2 : Int32), it886, u10, u11, (0 : Int32), cn2, (si r2), (X1005.more (by decide) (by decide)), e1005, N1006, Zq968, F995, F996, (F997.pad (pad_rep [(.int u10), (.int u11)] zI 1)), F998, F1001, F1002, (hcr1.elim (fun q => (Or.inr (Or.inr (Or.inr (Or.inl ⟨rfl, q⟩))))) (fun q => q.elim (fun q => (Or.inr (Or.inr (Or.inr (Or.inr (Or.inl ⟨rfl, q⟩)))))) (fun q => (Or.inr (Or.inr (Or.inr (Or.inr (Or.inr (Or.inl ⟨rfl, q⟩))))))))), rfl, k1007⟩
      · rcases KP2 with ⟨rfl, rfl⟩ | ⟨rfl, rfl, Lnd2, Lbx2, nw_nd2, nw_bx2⟩
        · obtain rfl : sz = (2 : Int32) := HZ.trans (by show (1 : Int32) + (1 : Int32) + (0 : Int32) = (2 : Int32); decide)
          have k1008 := f_alN X137 hx kq137 (H 32 rfl) rfl
          obtain ⟨_, T1009, L1009, X1009, hQ1009, k1009⟩ := c_I (W := 0) (x := mn59) X137 hx hZ hown (hww 88 rfl) (hww 89 rfl) (hww 90 rfl) (hww 91 rfl) (hww 92 rfl) (hww 93 rfl) (hww 94 rfl) (hww 95 rfl) (hww 96 rfl) (hww 53 rfl) (by decide) F392.1 (hsz l Z a0 hw [] mp (2 : Int32) h137 n0 Zq137 (F392.g 1 (v := (.int (2 : Int32))) (by decide) rfl rfl)) e137 (argsL := []) (rest := []) rfl (by rw [hml]; rfl) k1008 rfl (H 33 rfl) (lenOf pd__28_29I rfl) (b5 rfl)
          obtain ⟨rfl, N1009q, e1009⟩ := hQ1009
          have N1010 := Fr.app N137 N1009q
          obtain ⟨T1011, h1011, k1011, X1011, e1011, E1011, A1011, Y1011, st1011⟩ := newPE X1009 hx hZ (hww 85 rfl) e1009 (g := (mkF m 77 #[sr a1, sr ls, sr mp, si iz, un, un, un] [vI 2])) rfl (H 34 rfl) rfl (by decide) (cap := 2) (by decide) (by decide) (by decide) (by decide) (ad := "[I") (by decide)
          obtain ⟨b1011, g1011⟩ : ∃ z, z = h137.size := ⟨_, rfl⟩
          rw [← g1011] at A1011 Y1011 st1011
          have g1012 : n0 ≤ b1011 := Nat.le_trans Zq137 (Nat.le_of_eq g1011.symm)
          have z1013 : h0.size ≤ b1011 := Nat.le_trans F394.1 (Nat.le_of_eq g1011.symm)
          have F1014 := F391.ext E1011
          have F1015 := F392.ext E1011
          have F1016 := F393.ext E1011
          have F1017 := F395.ext E1011
          have Z1018 : n0 ≤ h1011.size := Nat.le_trans Zq137 E1011.1
          have K1019 := F394.ext E1011
          have V1020 : Arv Z h1011 b1011 k1011 .int (2 : Int32) [zI, zI] zI := (Arv.new A1011 (by decide)).pad (pad_rep [] zI 2)
          have k1021 : Rt p e below T1011 (mkF m 79 #[sr a1, sr ls, sr mp, si iz, un, un, un] [vR b1011]) s₁ m #[(.ref a1), (.ref ls), (.ref mp)] 7 := fun t k => k1009 t (st1011 t k)
          have k1022 := f_asN X1011 hx k1021 (H 35 rfl) (l' := #[sr a1, sr ls, sr mp, sr b1011, un, un, un]) rfl
          have k1023 := f_ic X1011 hx k1022 (H 36 rfl) (v := 0) rfl
          have k1024 := f_is X1011 hx k1023 (H 37 rfl) (l' := #[sr a1, sr ls, sr mp, sr b1011, si 0, un, un]) rfl
          have k1025 := f_alN X1011 hx k1024 (H 38 rfl) rfl
          obtain ⟨_, T1026, L1026, X1026, hQ1026, k1026⟩ := c_I (W := 0) (x := mn60) X1011 hx hZ hown (hww 99 rfl) (hww 100 rfl) (hww 101 rfl) (hww 102 rfl) (hww 103 rfl) (hww 104 rfl) (hww 105 rfl) (hww 95 rfl) (hww 106 rfl) (hww 53 rfl) (by decide) F1015.1 (vls l Z a0 hw [] mp (.ref tb) (2 : Int32) mc th h1011 n0 Z1018 F1015 ge_mp) e1011 (argsL := []) (rest := []) rfl (by rw [hml]; rfl) k1025 rfl (H 39 rfl) (lenOf pd__28_29Ljava_2futil_2fCollection_3b rfl) (b5 rfl)
          obtain ⟨h1026, e1026⟩ : ∃ h', T1026.heap = h' := ⟨_, rfl⟩
          rw [e1026] at hQ1026
          obtain ⟨vw1026, rfl, N1026q, K1026, Zx1026_0, R1026_0, R1026_1⟩ := hQ1026
          have N1027 := Fr.app N1010 N1026q
          have F1028 := F1014.keep K1026 (ninS ne_a1_mp nin0)
          have F1029 := F1016.keep K1026 (ninS (nG Fk1.lt (Nat.le_of_eq g108.symm)) nin0)
          have F1030 := F1017.keep K1026 (allS ge_mp all0)
          have F1031 := V1020.keep K1026 (ninS (nG F392.lt (Nat.le_of_eq g1011.symm)) nin0)
          have F1032 := Y1011.keep K1026
          have Z1033 : n0 ≤ h1026.size := Nat.le_trans Z1018 K1026.1
          have K1034 := Keep.trans K1019 K1026 (allS (oL 1 rfl) all0)
          obtain ⟨_, T1035, L1035, X1035, hQ1035, k1035⟩ := c_I (W := 0) (x := mn61) X1026 hx hZ hown (hww 121 rfl) (hww 122 rfl) (hww 123 rfl) (hww 124 rfl) (hww 125 rfl) (hww 126 rfl) (hww 127 rfl) (hww 128 rfl) (hww 129 rfl) (hww 112 rfl) (by decide) R1026_1.1 (vit1 l Z a0 hw [] vw1026 mp mc (2 : Int32) tb kt nd0 (.ref nd1) .null h1026 n0 Z1033 (R1026_0.g 2 (v := (.int mc)) (by decide) rfl rfl) (R1026_0.g 0 (v := (.ref tb)) (by decide) rfl rfl) (R1026_0.g 1 (v := (.int (2 : Int32))) (by decide) rfl rfl) (Ltb.keep K1034 nw_tb) R1026_1 (by decide)) e1026 (argsL := []) (rest := []) rfl (by rw [hml]; rfl) k1026 rfl (H 40 rfl) (lenOf pd__28_29Ljava_2futil_2fIterator_3b rfl) (b5 rfl)
          obtain ⟨h1035, e1035⟩ : ∃ h', T1035.heap = h' := ⟨_, rfl⟩
          rw [e1035] at hQ1035
          obtain ⟨it1035, rfl, N1035q, K1035, Zx1035_0, R1035_0⟩ := hQ1035
          have N1036 := Fr.app N1027 N1035q
          have F1037 := F1028.keep K1035 nin0
          have F1038 := F1029.keep K1035 nin0
          have F1039 := F1030.keep K1035 all0
          have F1040 := F1031.keep K1035 nin0
          have F1041 := F1032.keep K1035
          have F1042 := R1026_0.keep K1035 nin0
          have F1043 := R1026_1.keep K1035 nin0
          have Z1044 : n0 ≤ h1035.size := Nat.le_trans Z1033 K1035.1
          have K1045 := Keep.trans K1034 K1035 all0
          have k1046 := f_as X1035 hx k1035 (H 41 rfl) (l' := #[sr a1, sr ls, sr mp, sr b1011, si 0, sr it1035, un]) rfl
          have k1047 := f_al X1035 hx k1046 (H 42 rfl) rfl
          obtain ⟨_, T1048, L1048, X1048, hQ1048, k1048⟩ := c_I (W := 0) (x := mn62) X1035 hx hZ hown (hww 158 rfl) (hww 159 rfl) (hww 160 rfl) (hww 161 rfl) (hww 162 rfl) (hww 163 rfl) (hww 164 rfl) (hww 165 rfl) (hww 166 rfl) (hww 141 rfl) (by decide) R1035_0.1 (hn1 l Z a0 hw [] it1035 nd0 h1035 n0 Z1044 (R1035_0.g 2 (v := (.ref nd0)) (by decide) rfl rfl)) e1035 (argsL := []) (rest := []) rfl (by rw [hml]; rfl) k1047 rfl (H 43 rfl) (lenOf pd__28_29Z rfl) (b5 rfl)
          obtain ⟨rfl, N1048q, e1048⟩ := hQ1048
          have N1049 := Fr.app N1036 N1048q
          have k1050 := f_ifN X1048 hx k1048 (H 44 rfl) ((if0 _ _).trans (feq (by decide)).1)
          have k1051 := f_al X1048 hx k1050 (H 45 rfl) rfl
          obtain ⟨_, T1052, L1052, X1052, hQ1052, k1052⟩ := c_I (W := 0) (x := mn63) X1048 hx hZ hown (hww 373 rfl) (hww 374 rfl) (hww 375 rfl) (hww 376 rfl) (hww 377 rfl) (hww 378 rfl) (hww 379 rfl) (hww 165 rfl) (hww 380 rfl) (hww 132 rfl) (by decide) R1035_0.1 (nxt12 l Z a0 hw [] it1035 mp mc tb kt nd0 .null nd1 (.ref nd0) .null bx0 h1035 n0 Z1044 R1035_0 (F1042.g 2 (v := (.int mc)) (by decide) rfl rfl) (F1042.g 0 (v := (.ref tb)) (by decide) rfl rfl) (Ltb.keep K1045 nw_tb) ((Lnd0.keep K1045 nw_nd0).g 3 (v := .null) (by decide) rfl rfl) ((Lnd0.keep K1045 nw_nd0).g 2 (v := (.ref bx0)) (by decide) rfl rfl) (Nat.le_trans Z1033 Zx1035_0) (nG R1026_0.lt Zx1035_0) (nG Ltb.lt (Nat.le_trans K1034.1 Zx1035_0)) (nG Lnd0.lt (Nat.le_trans K1034.1 Zx1035_0))) e1048 (argsL := []) (rest := []) rfl (by rw [hml]; rfl) k1051 rfl (H 46 rfl) (lenOf pd__28_29Ljava_2flang_2fObject_3b rfl) (b5 rfl)
          obtain ⟨h1052, e1052⟩ : ∃ h', T1052.heap = h' := ⟨_, rfl⟩
          rw [e1052] at hQ1052
          obtain ⟨rfl, N1052q, K1052, R1052_0⟩ := hQ1052
          have N1053 := Fr.app N1049 N1052q
          have F1054 := F1037.keep K1052 (ninS (nL F1028.lt Zx1035_0) nin0)
          have F1055 := F1038.keep K1052 (ninS (nL F1029.lt Zx1035_0) nin0)
          have F1056 := F1039.keep K1052 (allS (Nat.le_trans Z1033 Zx1035_0) all0)
          have F1057 := F1040.keep K1052 (ninS (nL F1031.lt Zx1035_0) nin0)
          have F1058 := F1041.keep K1052
          have F1059 := F1042.keep K1052 (ninS (nL R1026_0.lt Zx1035_0) nin0)
          have Z1060 : n0 ≤ h1052.size := Nat.le_trans Z1044 K1052.1
          have K1061 := Keep.trans K1045 K1052 (allS (Or.inr (Nat.le_trans K1034.1 Zx1035_0)) all0)
          obtain ⟨T1062, X1062, e1062, st1062⟩ := castY X1052 hx hZ hown (hww 359 rfl) e1052 (Ins.self (Lbx0.keep K1061 nw_bx0).1) (g := (mkF m 113 #[sr a1, sr ls, sr mp, sr b1011, si 0, sr it1035, un] [vR bx0])) rfl rfl (H 47 rfl)
          have k1063 : Rt p e below T1062 (mkF m 116 #[sr a1, sr ls, sr mp, sr b1011, si 0, sr it1035, un] [vR bx0]) s₁ m #[(.ref a1), (.ref ls), (.ref mp)] 7 := fun t k => k1052 t (st1062 t k)
          obtain ⟨_, T1064, L1064, X1064, hQ1064, k1064⟩ := c_V (W := 0) (x := mn14) X1062 hx hZ hown (hww 361 rfl) (hww 362 rfl) (notFace_of_selects (args := #[]) (mvT hZ (hww 364 rfl))) (hww 364 rfl) (hww 363 rfl) (hww 365 rfl) (hww 242 rfl) (by decide) (Lbx0.keep K1061 nw_bx0).1 (iv l Z a0 hw [] bx0 r0 h1052 n0 Z1060 ((Lbx0.keep K1061 nw_bx0).g 0 (v := (.int r0)) (by decide) rfl rfl)) e1062 (argsL := []) (rest := []) rfl (by rw [hml]; rfl) k1063 rfl (H 48 rfl) (lenOf pd__28_29I rfl) (b5 rfl)
          obtain ⟨rfl, N1064q, e1064⟩ := hQ1064
          have N1065 := Fr.app N1053 N1064q
          have k1066 := f_is X1064 hx k1064 (H 49 rfl) (l' := #[sr a1, sr ls, sr mp, sr b1011, si 0, sr it1035, si r0]) rfl
          have k1067 := f_il X1064 hx k1066 (H 50 rfl) rfl
          obtain ⟨_, T1068, L1068, X1068, hQ1068, k1068⟩ := c_S (W := 0) X1064 hx hZ hown (hww 368 rfl) (hww 369 rfl) (hww 69 rfl) (hww 370 rfl) (by decide) (gain l Z a0 hw [] r0 h1052 n0 Z1060 ) e1064 (argsL := [(.int r0)]) (rest := []) rfl (by rw [hml]; rfl) k1067 rfl (H 51 rfl) (lenOf pd__28I_29I rfl) (b5 rfl)
          obtain ⟨h1068, e1068⟩ : ∃ h', T1068.heap = h' := ⟨_, rfl⟩
          rw [e1068] at hQ1068
          obtain ⟨j1068, rfl, N1068q, hh1068, P1068_0⟩ := hQ1068
          have N1069 := Fr.app N1065 N1068q
          have ee1068 : T1068.heap = h1052 := e1068.trans hh1068
          obtain ⟨T1070, h1070, Ls1070, u00, cn1, X1070, e1070, N1070, Zq1070, F1085, F1086, F1087, F1088, F1089, F1090, F1091, F1092, hcr0, kq1070⟩ : ∃ (T1070 : State) (h1070 : Heap) (Ls1070 : List Loc) (u00 : Int32) (cn1 : Int32), Stand p l e (rm 5 9 21 79) s m #[(.ref a1), (.ref ls), (.ref mp)] below meth c T1070 Ls1070 7 14 ∧ T1070.heap = h1070 ∧ Fr n0 Ls1070 ∧ n0 ≤ h1070.size ∧ OBJ Z h1070 a1 "com/example/multinomial/multinomial/eval/JudgedRanking" lyJR [(.ref b108), .null] ∧ Arv Z h1070 b108 k108 .int nn [(.int g0), (.int g1), (.int g2)] zI ∧ Arv Z h1070 b1011 k1011 .int (2 : Int32) [(.int u00), zI] zI ∧ Exa Z h1070 b1011 "[I" ∧ OBJ Z h1070 mp "java/util/HashMap" lyMP [(.ref tb), (.int (2 : Int32)), (.int mc), (.int th), (.ref vw1026), (.float (1061158912 : UInt32))] ∧ OBJ Z h1070 it1035 "java/util/HashMap$ValueIterator" lyIT [(.ref mp), (.int mc), (.ref nd1), (.ref nd0), (.int (3 : Int32))] ∧ Keep h0 h1070 [a1, mp, id0, id1, id2] ∧ Old Z n0 h1070 ∧ (cn1 = (0 : Int32) ∨ cn1 = (1 : Int32)) ∧ (Rt p e below T1070 (mkF m 138 #[sr a1, sr ls, sr mp, sr b1011, si cn1, sr it1035, si r0] []) s₁ m #[(.ref a1), (.ref ls), (.ref mp)] 7) := by
           by_cases qp : (0 : Int32) < j1068
           · have k1071 := f_ifN X1068 hx k1068 (H 52 rfl) ((if0 _ _).trans (tlt qp).2.2.2)
             have k1072 := f_alN X1068 hx k1071 (H 53 rfl) rfl
             have k1073 := f_il X1068 hx k1072 (H 54 rfl) rfl
             have k1074 := f_il X1068 hx k1073 (H 55 rfl) rfl
             obtain ⟨T1075, h1075, L1075, X1075, e1075, W1075, V1075, N1075, Z1075, k1075⟩ := f_ist X1068 hx hZ ee1068 F1057 N1069 g1012 Z1060 k1074 (H 56 rfl) (by decide) 0 rfl (lt_b rfl)
             have F1076 := F1055.other W1075 (nL F393.lt (Nat.le_of_eq g1011.symm))
             have F1077 := F1056.wr W1075 g1012
             have F1078 := F1058.wr W1075
             have K1079 := K1061.wr W1075 (Or.inr z1013)
             have B1080 := F1054.other W1075 (nL F391.lt (Nat.le_of_eq g1011.symm))
             have B1081 := F1059.other W1075 (nL F392.lt (Nat.le_of_eq g1011.symm))
             have B1082 := R1052_0.other W1075 (nG F1031.lt Zx1035_0)
             have k1083 := f_inc X1075 hx k1075 (H 57 rfl) rfl (l' := #[sr a1, sr ls, sr mp, sr b1011, si 1, sr it1035, si r0]) rfl
             exact ⟨T1075, h1075, _, r0, (1 : Int32), X1075, e1075, N1075, Z1075, B1080, F1076, V1075, F1078, B1081, B1082, K1079, F1077, (Or.inr (rfl)), k1083⟩
           · have k1084 := f_ifY X1068 hx k1068 (H 52 rfl) (pc' := 138) ((if0 _ _).trans (flt qp).2.2.2) (by decide)
             exact ⟨T1068, h1052, _, (0 : Int32), (0 : Int32), X1068, ee1068, N1069, Z1060, F1054, F1055, F1057, F1058, F1059, R1052_0, K1061, F1056, (Or.inl rfl), k1084⟩
          have k1093 := f_go X1070 hx kq1070 (H 58 rfl) (pc' := 96) (by decide)
          have k1094 := f_al X1070 hx k1093 (H 42 rfl) rfl
          obtain ⟨_, T1095, L1095, X1095, hQ1095, k1095⟩ := c_I (W := 0) (x := mn62) X1070 hx hZ hown (hww 158 rfl) (hww 159 rfl) (hww 160 rfl) (hww 161 rfl) (hww 162 rfl) (hww 163 rfl) (hww 164 rfl) (hww 165 rfl) (hww 166 rfl) (hww 141 rfl) (by decide) F1090.1 (hn1 l Z a0 hw [] it1035 nd1 h1070 n0 Zq1070 (F1090.g 2 (v := (.ref nd1)) (by decide) rfl rfl)) e1070 (argsL := []) (rest := []) rfl (by rw [hml]; rfl) k1094 rfl (H 43 rfl) (lenOf pd__28_29Z rfl) (b5 rfl)
          obtain ⟨rfl, N1095q, e1095⟩ := hQ1095
          have N1096 := Fr.app N1070 N1095q
          have k1097 := f_ifN X1095 hx k1095 (H 44 rfl) ((if0 _ _).trans (feq (by decide)).1)
          have k1098 := f_al X1095 hx k1097 (H 45 rfl) rfl
          obtain ⟨_, T1099, L1099, X1099, hQ1099, k1099⟩ := c_I (W := 0) (x := mn63) X1095 hx hZ hown (hww 373 rfl) (hww 374 rfl) (hww 375 rfl) (hww 376 rfl) (hww 377 rfl) (hww 378 rfl) (hww 379 rfl) (hww 165 rfl) (hww 380 rfl) (hww 132 rfl) (by decide) F1090.1 (nxt2None l Z a0 hw [] it1035 mp mc tb kt nd1 (.ref nd0) (.ref nd0) (.ref nd1) bx1 h1070 n0 Zq1070 F1090 (F1089.g 2 (v := (.int mc)) (by decide) rfl rfl) (F1089.g 0 (v := (.ref tb)) (by decide) rfl rfl) (Ltb.keep F1091 nw_tb) ((Lnd1.keep F1091 nw_nd1).g 3 (v := .null) (by decide) rfl rfl) ((Lnd1.keep F1091 nw_nd1).g 2 (v := (.ref bx1)) (by decide) rfl rfl) (Nat.le_trans Z1033 Zx1035_0) (nG R1026_0.lt Zx1035_0) (nG Ltb.lt (Nat.le_trans K1034.1 Zx1035_0)) (nG Lnd1.lt (Nat.le_trans K1034.1 Zx1035_0))) e1095 (argsL := []) (rest := []) rfl (by rw [hml]; rfl) k1098 rfl (H 46 rfl) (lenOf pd__28_29Ljava_2flang_2fObject_3b rfl) (b5 rfl)
          obtain ⟨h1099, e1099⟩ : ∃ h', T1099.heap = h' := ⟨_, rfl⟩
          rw [e1099] at hQ1099
          obtain ⟨rfl, N1099q, K1099, R1099_0⟩ := hQ1099
          have N1100 := Fr.app N1096 N1099q
          have F1101 := F1085.keep K1099 (ninS (nL F1028.lt Zx1035_0) nin0)
          have F1102 := F1086.keep K1099 (ninS (nL F1029.lt Zx1035_0) nin0)
          have F1103 := F1087.keep K1099 (ninS (nL F1031.lt Zx1035_0) nin0)
          have F1104 := F1088.keep K1099
          have F1105 := F1089.keep K1099 (ninS (nL R1026_0.lt Zx1035_0) nin0)
          have F1106 := F1092.keep K1099 (allS (Nat.le_trans Z1033 Zx1035_0) all0)
          have Z1107 : n0 ≤ h1099.size := Nat.le_trans Zq1070 K1099.1
          have K1108 := Keep.trans F1091 K1099 (allS (Or.inr (Nat.le_trans K1034.1 Zx1035_0)) all0)
          obtain ⟨T1109, X1109, e1109, st1109⟩ := castY X1099 hx hZ hown (hww 359 rfl) e1099 (Ins.self (Lbx1.keep K1108 nw_bx1).1) (g := (mkF m 113 #[sr a1, sr ls, sr mp, sr b1011, si cn1, sr it1035, si r0] [vR bx1])) rfl rfl (H 47 rfl)
          have k1110 : Rt p e below T1109 (mkF m 116 #[sr a1, sr ls, sr mp, sr b1011, si cn1, sr it1035, si r0] [vR bx1]) s₁ m #[(.ref a1), (.ref ls), (.ref mp)] 7 := fun t k => k1099 t (st1109 t k)
          obtain ⟨_, T1111, L1111, X1111, hQ1111, k1111⟩ := c_V (W := 0) (x := mn14) X1109 hx hZ hown (hww 361 rfl) (hww 362 rfl) (notFace_of_selects (args := #[]) (mvT hZ (hww 364 rfl))) (hww 364 rfl) (hww 363 rfl) (hww 365 rfl) (hww 242 rfl) (by decide) (Lbx1.keep K1108 nw_bx1).1 (iv l Z a0 hw [] bx1 r1 h1099 n0 Z1107 ((Lbx1.keep K1108 nw_bx1).g 0 (v := (.int r1)) (by decide) rfl rfl)) e1109 (argsL := []) (rest := []) rfl (by rw [hml]; rfl) k1110 rfl (H 48 rfl) (lenOf pd__28_29I rfl) (b5 rfl)
          obtain ⟨rfl, N1111q, e1111⟩ := hQ1111
          have N1112 := Fr.app N1100 N1111q
          have k1113 := f_is X1111 hx k1111 (H 49 rfl) (l' := #[sr a1, sr ls, sr mp, sr b1011, si cn1, sr it1035, si r1]) rfl
          have k1114 := f_il X1111 hx k1113 (H 50 rfl) rfl
          obtain ⟨_, T1115, L1115, X1115, hQ1115, k1115⟩ := c_S (W := 0) X1111 hx hZ hown (hww 368 rfl) (hww 369 rfl) (hww 69 rfl) (hww 370 rfl) (by decide) (gain l Z a0 hw [] r1 h1099 n0 Z1107 ) e1111 (argsL := [(.int r1)]) (rest := []) rfl (by rw [hml]; rfl) k1114 rfl (H 51 rfl) (lenOf pd__28I_29I rfl) (b5 rfl)
          obtain ⟨h1115, e1115⟩ : ∃ h', T1115.heap = h' := ⟨_, rfl⟩
          rw [e1115] at hQ1115
          obtain ⟨j1115, rfl, N1115q, hh1115, P1115_0⟩ := hQ1115
          have N1116 := Fr.app N1112 N1115q
          have ee1115 : T1115.heap = h1099 := e1115.trans hh1115
          obtain ⟨T1117, h1117, Ls1117, u10, u11, cn2, X1117, e1117, N1117, Zq1117, F1144, F1145, F1146, F1147, F1148, F1149, F1150, F1151, hcr1, kq1117⟩ : ∃ (T1117 : State) (h1117 : Heap) (Ls1117 : List Loc) (u10 : Int32) (u11 : Int32) (cn2 : Int32), Stand p l e (rm 5 9 21 79) s m #[(.ref a1), (.ref ls), (.ref mp)] below meth c T1117 Ls1117 7 14 ∧ T1117.heap = h1117 ∧ Fr n0 Ls1117 ∧ n0 ≤ h1117.size ∧ OBJ Z h1117 a1 "com/example/multinomial/multinomial/eval/JudgedRanking" lyJR [(.ref b108), .null] ∧ Arv Z h1117 b108 k108 .int nn [(.int g0), (.int g1), (.int g2)] zI ∧ Arv Z h1117 b1011 k1011 .int (2 : Int32) [(.int u10), (.int u11)] zI ∧ Exa Z h1117 b1011 "[I" ∧ OBJ Z h1117 mp "java/util/HashMap" lyMP [(.ref tb), (.int (2 : Int32)), (.int mc), (.int th), (.ref vw1026), (.float (1061158912 : UInt32))] ∧ OBJ Z h1117 it1035 "java/util/HashMap$ValueIterator" lyIT [(.ref mp), (.int mc), .null, (.ref nd1), (.int (16 : Int32))] ∧ Keep h0 h1117 [a1, mp, id0, id1, id2] ∧ Old Z n0 h1117 ∧ (cn2 = (0 : Int32) ∨ cn2 = (1 : Int32) ∨ cn2 = (2 : Int32)) ∧ (Rt p e below T1117 (mkF m 138 #[sr a1, sr ls, sr mp, sr b1011, si cn2, sr it1035, si r1] []) s₁ m #[(.ref a1), (.ref ls), (.ref mp)] 7) := by
           by_cases qp : (0 : Int32) < j1115
           · have k1118 := f_ifN X1115 hx k1115 (H 52 rfl) ((if0 _ _).trans (tlt qp).2.2.2)
             rcases hcr0 with rfl | rfl
             · have k1119 := f_alN X1115 hx k1118 (H 53 rfl) rfl
               have k1120 := f_il X1115 hx k1119 (H 54 rfl) rfl
               have k1121 := f_il X1115 hx k1120 (H 55 rfl) rfl
               obtain ⟨T1122, h1122, L1122, X1122, e1122, W1122, V1122, N1122, Z1122, k1122⟩ := f_ist X1115 hx hZ ee1115 F1103 N1116 g1012 Z1107 k1121 (H 56 rfl) (by decide) 0 rfl (lt_b rfl)
               have F1123 := F1102.other W1122 (nL F393.lt (Nat.le_of_eq g1011.symm))
               have F1124 := F1104.wr W1122
               have F1125 := F1106.wr W1122 g1012
               have K1126 := K1108.wr W1122 (Or.inr z1013)
               have B1127 := F1101.other W1122 (nL F391.lt (Nat.le_of_eq g1011.symm))
               have B1128 := F1105.other W1122 (nL F392.lt (Nat.le_of_eq g1011.symm))
               have B1129 := R1099_0.other W1122 (nG F1031.lt Zx1035_0)
               have k1130 := f_inc X1122 hx k1122 (H 57 rfl) rfl (l' := #[sr a1, sr ls, sr mp, sr b1011, si 1, sr it1035, si r1]) rfl
               exact ⟨T1122, h1122, _, r1, (0 : Int32), (1 : Int32), X1122, e1122, N1122, Z1122, B1127, F1123, V1122, F1124, B1128, B1129, K1126, F1125, (Or.inr (Or.inl rfl)), k1130⟩
             · have k1131 := f_alN X1115 hx k1118 (H 53 rfl) rfl
               have k1132 := f_il X1115 hx k1131 (H 54 rfl) rfl
               have k1133 := f_il X1115 hx k1132 (H 55 rfl) rfl
               obtain ⟨T1134, h1134, L1134, X1134, e1134, W1134, V1134, N1134, Z1134, k1134⟩ := f_ist X1115 hx hZ ee1115 F1103 N1116 g1012 Z1107 k1133 (H 56 rfl) (by decide) 1 rfl (lt_b rfl)
               have F1135 := F1102.other W1134 (nL F393.lt (Nat.le_of_eq g1011.symm))
               have F1136 := F1104.wr W1134
               have F1137 := F1106.wr W1134 g1012
               have K1138 := K1108.wr W1134 (Or.inr z1013)
               have B1139 := F1101.other W1134 (nL F391.lt (Nat.le_of_eq g1011.symm))
               have B1140 := F1105.other W1134 (nL F392.lt (Nat.le_of_eq g1011.symm))
               have B1141 := R1099_0.other W1134 (nG F1031.lt Zx1035_0)
               have k1142 := f_inc X1134 hx k1134 (H 57 rfl) rfl (l' := #[sr a1, sr ls, sr mp, sr b1011, si 2, sr it1035, si r1]) rfl
               exact ⟨T1134, h1134, _, u00, r1, (2 : Int32), X1134, e1134, N1134, Z1134, B1139, F1135, V1134, F1136, B1140, B1141, K1138, F1137, (Or.inr (Or.inr (rfl))), k1142⟩
           · have k1143 := f_ifY X1115 hx k1115 (H 52 rfl) (pc' := 138) ((if0 _ _).trans (flt qp).2.2.2) (by decide)
             exact ⟨T1115, h1099, _, u00, (0 : Int32), cn1, X1115, ee1115, N1116, Z1107, F1101, F1102, F1103, F1104, F1105, R1099_0, K1108, F1106, (hcr0.elim Or.inl (fun h => Or.inr (Or.inl h))), k1143⟩
          have k1152 := f_go X1117 hx kq1117 (H 58 rfl) (pc' := 96) (by decide)
          have k1153 := f_al X1117 hx k1152 (H 42 rfl) rfl
          obtain ⟨_, T1154, L1154, X1154, hQ1154, k1154⟩ := c_I (W := 0) (x := mn62) X1117 hx hZ hown (hww 158 rfl) (hww 159 rfl) (hww 160 rfl) (hww 161 rfl) (hww 162 rfl) (hww 163 rfl) (hww 164 rfl) (hww 165 rfl) (hww 166 rfl) (hww 141 rfl) (by decide) F1149.1 (hn0 l Z a0 hw [] it1035 h1117 n0 Zq1117 (F1149.g 2 (v := .null) (by decide) rfl rfl)) e1117 (argsL := []) (rest := []) rfl (by rw [hml]; rfl) k1153 rfl (H 43 rfl) (lenOf pd__28_29Z rfl) (b5 rfl)
          obtain ⟨rfl, N1154q, e1154⟩ := hQ1154
          have N1155 := Fr.app N1117 N1154q
          have k1156 := f_ifY X1154 hx k1154 (H 44 rfl) (pc' := 141) ((if0 _ _).trans (teq (by decide)).1) (by decide)
          exact ⟨T1154, h1117, _, b1011, k1011, (2 : Int32), it1035, u10, u11, (0 : Int32), cn2, (si r1), (X1154.more (by decide) (by decide)), e1154, N1155, Zq1117, F1144, F1145, (F1146.pad (pad_rep [(.int u10), (.int u11)] zI 1)), F1147, F1150, F1151, (hcr1.elim (fun q => (Or.inr (Or.inr (Or.inr (Or.inl ⟨rfl, q⟩))))) (fun q => q.elim (fun q => (Or.inr (Or.inr (Or.inr (Or.inr (Or.inl ⟨rfl, q⟩)))))) (fun q => (Or.inr (Or.inr (Or.inr (Or.inr (Or.inr (Or.inl ⟨rfl, q⟩))))))))), rfl, k1156⟩
        · obtain rfl : sz = (3 : Int32) := HZ.trans (by show (1 : Int32) + (1 : Int32) + (1 : Int32) = (3 : Int32); decide)
          have k1157 := f_alN X137 hx kq137 (H 32 rfl) rfl
          obtain ⟨_, T1158, L1158, X1158, hQ1158, k1158⟩ := c_I (W := 0) (x := mn59) X137 hx hZ hown (hww 88 rfl) (hww 89 rfl) (hww 90 rfl) (hww 91 rfl) (hww 92 rfl) (hww 93 rfl) (hww 94 rfl) (hww 95 rfl) (hww 96 rfl) (hww 53 rfl) (by decide) F392.1 (hsz l Z a0 hw [] mp (3 : Int32) h137 n0 Zq137 (F392.g 1 (v := (.int (3 : Int32))) (by decide) rfl rfl)) e137 (argsL := []) (rest := []) rfl (by rw [hml]; rfl) k1157 rfl (H 33 rfl) (lenOf pd__28_29I rfl) (b5 rfl)
          obtain ⟨rfl, N1158q, e1158⟩ := hQ1158
          have N1159 := Fr.app N137 N1158q
          obtain ⟨T1160, h1160, k1160, X1160, e1160, E1160, A1160, Y1160, st1160⟩ := newPE X1158 hx hZ (hww 85 rfl) e1158 (g := (mkF m 77 #[sr a1, sr ls, sr mp, si iz, un, un, un] [vI 3])) rfl (H 34 rfl) rfl (by decide) (cap := 3) (by decide) (by decide) (by decide) (by decide) (ad := "[I") (by decide)
          obtain ⟨b1160, g1160⟩ : ∃ z, z = h137.size := ⟨_, rfl⟩
          rw [← g1160] at A1160 Y1160 st1160
          have g1161 : n0 ≤ b1160 := Nat.le_trans Zq137 (Nat.le_of_eq g1160.symm)
          have z1162 : h0.size ≤ b1160 := Nat.le_trans F394.1 (Nat.le_of_eq g1160.symm)
          have F1163 := F391.ext E1160
          have F1164 := F392.ext E1160
          have F1165 := F393.ext E1160
          have F1166 := F395.ext E1160
          have Z1167 : n0 ≤ h1160.size := Nat.le_trans Zq137 E1160.1
          have K1168 := F394.ext E1160
          have V1169 : Arv Z h1160 b1160 k1160 .int (3 : Int32) [zI, zI, zI] zI := (Arv.new A1160 (by decide)).pad (pad_rep [] zI 3)
          have k1170 : Rt p e below T1160 (mkF m 79 #[sr a1, sr ls, sr mp, si iz, un, un, un] [vR b1160]) s₁ m #[(.ref a1), (.ref ls), (.ref mp)] 7 := fun t k => k1158 t (st1160 t k)
          have k1171 := f_asN X1160 hx k1170 (H 35 rfl) (l' := #[sr a1, sr ls, sr mp, sr b1160, un, un, un]) rfl
          have k1172 := f_ic X1160 hx k1171 (H 36 rfl) (v := 0) rfl
          have k1173 := f_is X1160 hx k1172 (H 37 rfl) (l' := #[sr a1, sr ls, sr mp, sr b1160, si 0, un, un]) rfl
          have k1174 := f_alN X1160 hx k1173 (H 38 rfl) rfl
          obtain ⟨_, T1175, L1175, X1175, hQ1175, k1175⟩ := c_I (W := 0) (x := mn60) X1160 hx hZ hown (hww 99 rfl) (hww 100 rfl) (hww 101 rfl) (hww 102 rfl) (hww 103 rfl) (hww 104 rfl) (hww 105 rfl) (hww 95 rfl) (hww 106 rfl) (hww 53 rfl) (by decide) F1164.1 (vls l Z a0 hw [] mp (.ref tb) (3 : Int32) mc th h1160 n0 Z1167 F1164 ge_mp) e1160 (argsL := []) (rest := []) rfl (by rw [hml]; rfl) k1174 rfl (H 39 rfl) (lenOf pd__28_29Ljava_2futil_2fCollection_3b rfl) (b5 rfl)
          obtain ⟨h1175, e1175⟩ : ∃ h', T1175.heap = h' := ⟨_, rfl⟩
          rw [e1175] at hQ1175
          obtain ⟨vw1175, rfl, N1175q, K1175, Zx1175_0, R1175_0, R1175_1⟩ := hQ1175
          have N1176 := Fr.app N1159 N1175q
          have F1177 := F1163.keep K1175 (ninS ne_a1_mp nin0)
          have F1178 := F1165.keep K1175 (ninS (nG Fk1.lt (Nat.le_of_eq g108.symm)) nin0)
          have F1179 := F1166.keep K1175 (allS ge_mp all0)
          have F1180 := V1169.keep K1175 (ninS (nG F392.lt (Nat.le_of_eq g1160.symm)) nin0)
          have F1181 := Y1160.keep K1175
          have Z1182 : n0 ≤ h1175.size := Nat.le_trans Z1167 K1175.1
          have K1183 := Keep.trans K1168 K1175 (allS (oL 1 rfl) all0)
          obtain ⟨_, T1184, L1184, X1184, hQ1184, k1184⟩ := c_I (W := 0) (x := mn61) X1175 hx hZ hown (hww 121 rfl) (hww 122 rfl) (hww 123 rfl) (hww 124 rfl) (hww 125 rfl) (hww 126 rfl) (hww 127 rfl) (hww 128 rfl) (hww 129 rfl) (hww 112 rfl) (by decide) R1175_1.1 (vit1 l Z a0 hw [] vw1175 mp mc (3 : Int32) tb kt nd0 (.ref nd1) (.ref nd2) h1175 n0 Z1182 (R1175_0.g 2 (v := (.int mc)) (by decide) rfl rfl) (R1175_0.g 0 (v := (.ref tb)) (by decide) rfl rfl) (R1175_0.g 1 (v := (.int (3 : Int32))) (by decide) rfl rfl) (Ltb.keep K1183 nw_tb) R1175_1 (by decide)) e1175 (argsL := []) (rest := []) rfl (by rw [hml]; rfl) k1175 rfl (H 40 rfl) (lenOf pd__28_29Ljava_2futil_2fIterator_3b rfl) (b5 rfl)
          obtain ⟨h1184, e1184⟩ : ∃ h', T1184.heap = h' := ⟨_, rfl⟩
          rw [e1184] at hQ1184
          obtain ⟨it1184, rfl, N1184q, K1184, Zx1184_0, R1184_0⟩ := hQ1184
          have N1185 := Fr.app N1176 N1184q
          have F1186 := F1177.keep K1184 nin0
          have F1187 := F1178.keep K1184 nin0
          have F1188 := F1179.keep K1184 all0
          have F1189 := F1180.keep K1184 nin0
          have F1190 := F1181.keep K1184
          have F1191 := R1175_0.keep K1184 nin0
          have F1192 := R1175_1.keep K1184 nin0
          have Z1193 : n0 ≤ h1184.size := Nat.le_trans Z1182 K1184.1
          have K1194 := Keep.trans K1183 K1184 all0
          have k1195 := f_as X1184 hx k1184 (H 41 rfl) (l' := #[sr a1, sr ls, sr mp, sr b1160, si 0, sr it1184, un]) rfl
          have k1196 := f_al X1184 hx k1195 (H 42 rfl) rfl
          obtain ⟨_, T1197, L1197, X1197, hQ1197, k1197⟩ := c_I (W := 0) (x := mn62) X1184 hx hZ hown (hww 158 rfl) (hww 159 rfl) (hww 160 rfl) (hww 161 rfl) (hww 162 rfl) (hww 163 rfl) (hww 164 rfl) (hww 165 rfl) (hww 166 rfl) (hww 141 rfl) (by decide) R1184_0.1 (hn1 l Z a0 hw [] it1184 nd0 h1184 n0 Z1193 (R1184_0.g 2 (v := (.ref nd0)) (by decide) rfl rfl)) e1184 (argsL := []) (rest := []) rfl (by rw [hml]; rfl) k1196 rfl (H 43 rfl) (lenOf pd__28_29Z rfl) (b5 rfl)
          obtain ⟨rfl, N1197q, e1197⟩ := hQ1197
          have N1198 := Fr.app N1185 N1197q
          have k1199 := f_ifN X1197 hx k1197 (H 44 rfl) ((if0 _ _).trans (feq (by decide)).1)
          have k1200 := f_al X1197 hx k1199 (H 45 rfl) rfl
          obtain ⟨_, T1201, L1201, X1201, hQ1201, k1201⟩ := c_I (W := 0) (x := mn63) X1197 hx hZ hown (hww 373 rfl) (hww 374 rfl) (hww 375 rfl) (hww 376 rfl) (hww 377 rfl) (hww 378 rfl) (hww 379 rfl) (hww 165 rfl) (hww 380 rfl) (hww 132 rfl) (by decide) R1184_0.1 (nxt12 l Z a0 hw [] it1184 mp mc tb kt nd0 .null nd1 (.ref nd0) (.ref nd2) bx0 h1184 n0 Z1193 R1184_0 (F1191.g 2 (v := (.int mc)) (by decide) rfl rfl) (F1191.g 0 (v := (.ref tb)) (by decide) rfl rfl) (Ltb.keep K1194 nw_tb) ((Lnd0.keep K1194 nw_nd0).g 3 (v := .null) (by decide) rfl rfl) ((Lnd0.keep K1194 nw_nd0).g 2 (v := (.ref bx0)) (by decide) rfl rfl) (Nat.le_trans Z1182 Zx1184_0) (nG R1175_0.lt Zx1184_0) (nG Ltb.lt (Nat.le_trans K1183.1 Zx1184_0)) (nG Lnd0.lt (Nat.le_trans K1183.1 Zx1184_0))) e1197 (argsL := []) (rest := []) rfl (by rw [hml]; rfl) k1200 rfl (H 46 rfl) (lenOf pd__28_29Ljava_2flang_2fObject_3b rfl) (b5 rfl)
          obtain ⟨h1201, e1201⟩ : ∃ h', T1201.heap = h' := ⟨_, rfl⟩
          rw [e1201] at hQ1201
          obtain ⟨rfl, N1201q, K1201, R1201_0⟩ := hQ1201
          have N1202 := Fr.app N1198 N1201q
          have F1203 := F1186.keep K1201 (ninS (nL F1177.lt Zx1184_0) nin0)
          have F1204 := F1187.keep K1201 (ninS (nL F1178.lt Zx1184_0) nin0)
          have F1205 := F1188.keep K1201 (allS (Nat.le_trans Z1182 Zx1184_0) all0)
          have F1206 := F1189.keep K1201 (ninS (nL F1180.lt Zx1184_0) nin0)
          have F1207 := F1190.keep K1201
          have F1208 := F1191.keep K1201 (ninS (nL R1175_0.lt Zx1184_0) nin0)
          have Z1209 : n0 ≤ h1201.size := Nat.le_trans Z1193 K1201.1
          have K1210 := Keep.trans K1194 K1201 (allS (Or.inr (Nat.le_trans K1183.1 Zx1184_0)) all0)
          obtain ⟨T1211, X1211, e1211, st1211⟩ := castY X1201 hx hZ hown (hww 359 rfl) e1201 (Ins.self (Lbx0.keep K1210 nw_bx0).1) (g := (mkF m 113 #[sr a1, sr ls, sr mp, sr b1160, si 0, sr it1184, un] [vR bx0])) rfl rfl (H 47 rfl)
          have k1212 : Rt p e below T1211 (mkF m 116 #[sr a1, sr ls, sr mp, sr b1160, si 0, sr it1184, un] [vR bx0]) s₁ m #[(.ref a1), (.ref ls), (.ref mp)] 7 := fun t k => k1201 t (st1211 t k)
          obtain ⟨_, T1213, L1213, X1213, hQ1213, k1213⟩ := c_V (W := 0) (x := mn14) X1211 hx hZ hown (hww 361 rfl) (hww 362 rfl) (notFace_of_selects (args := #[]) (mvT hZ (hww 364 rfl))) (hww 364 rfl) (hww 363 rfl) (hww 365 rfl) (hww 242 rfl) (by decide) (Lbx0.keep K1210 nw_bx0).1 (iv l Z a0 hw [] bx0 r0 h1201 n0 Z1209 ((Lbx0.keep K1210 nw_bx0).g 0 (v := (.int r0)) (by decide) rfl rfl)) e1211 (argsL := []) (rest := []) rfl (by rw [hml]; rfl) k1212 rfl (H 48 rfl) (lenOf pd__28_29I rfl) (b5 rfl)
          obtain ⟨rfl, N1213q, e1213⟩ := hQ1213
          have N1214 := Fr.app N1202 N1213q
          have k1215 := f_is X1213 hx k1213 (H 49 rfl) (l' := #[sr a1, sr ls, sr mp, sr b1160, si 0, sr it1184, si r0]) rfl
          have k1216 := f_il X1213 hx k1215 (H 50 rfl) rfl
          obtain ⟨_, T1217, L1217, X1217, hQ1217, k1217⟩ := c_S (W := 0) X1213 hx hZ hown (hww 368 rfl) (hww 369 rfl) (hww 69 rfl) (hww 370 rfl) (by decide) (gain l Z a0 hw [] r0 h1201 n0 Z1209 ) e1213 (argsL := [(.int r0)]) (rest := []) rfl (by rw [hml]; rfl) k1216 rfl (H 51 rfl) (lenOf pd__28I_29I rfl) (b5 rfl)
          obtain ⟨h1217, e1217⟩ : ∃ h', T1217.heap = h' := ⟨_, rfl⟩
          rw [e1217] at hQ1217
          obtain ⟨j1217, rfl, N1217q, hh1217, P1217_0⟩ := hQ1217
          have N1218 := Fr.app N1214 N1217q
          have ee1217 : T1217.heap = h1201 := e1217.trans hh1217
          obtain ⟨T1219, h1219, Ls1219, u00, cn1, X1219, e1219, N1219, Zq1219, F1234, F1235, F1236, F1237, F1238, F1239, F1240, F1241, hcr0, kq1219⟩ : ∃ (T1219 : State) (h1219 : Heap) (Ls1219 : List Loc) (u00 : Int32) (cn1 : Int32), Stand p l e (rm 5 9 21 79) s m #[(.ref a1), (.ref ls), (.ref mp)] below meth c T1219 Ls1219 7 15 ∧ T1219.heap = h1219 ∧ Fr n0 Ls1219 ∧ n0 ≤ h1219.size ∧ OBJ Z h1219 a1 "com/example/multinomial/multinomial/eval/JudgedRanking" lyJR [(.ref b108), .null] ∧ Arv Z h1219 b108 k108 .int nn [(.int g0), (.int g1), (.int g2)] zI ∧ Arv Z h1219 b1160 k1160 .int (3 : Int32) [(.int u00), zI, zI] zI ∧ Exa Z h1219 b1160 "[I" ∧ OBJ Z h1219 mp "java/util/HashMap" lyMP [(.ref tb), (.int (3 : Int32)), (.int mc), (.int th), (.ref vw1175), (.float (1061158912 : UInt32))] ∧ OBJ Z h1219 it1184 "java/util/HashMap$ValueIterator" lyIT [(.ref mp), (.int mc), (.ref nd1), (.ref nd0), (.int (3 : Int32))] ∧ Keep h0 h1219 [a1, mp, id0, id1, id2] ∧ Old Z n0 h1219 ∧ (cn1 = (0 : Int32) ∨ cn1 = (1 : Int32)) ∧ (Rt p e below T1219 (mkF m 138 #[sr a1, sr ls, sr mp, sr b1160, si cn1, sr it1184, si r0] []) s₁ m #[(.ref a1), (.ref ls), (.ref mp)] 7) := by
           by_cases qp : (0 : Int32) < j1217
           · have k1220 := f_ifN X1217 hx k1217 (H 52 rfl) ((if0 _ _).trans (tlt qp).2.2.2)
             have k1221 := f_alN X1217 hx k1220 (H 53 rfl) rfl
             have k1222 := f_il X1217 hx k1221 (H 54 rfl) rfl
             have k1223 := f_il X1217 hx k1222 (H 55 rfl) rfl
             obtain ⟨T1224, h1224, L1224, X1224, e1224, W1224, V1224, N1224, Z1224, k1224⟩ := f_ist X1217 hx hZ ee1217 F1206 N1218 g1161 Z1209 k1223 (H 56 rfl) (by decide) 0 rfl (lt_b rfl)
             have F1225 := F1204.other W1224 (nL F393.lt (Nat.le_of_eq g1160.symm))
             have F1226 := F1205.wr W1224 g1161
             have F1227 := F1207.wr W1224
             have K1228 := K1210.wr W1224 (Or.inr z1162)
             have B1229 := F1203.other W1224 (nL F391.lt (Nat.le_of_eq g1160.symm))
             have B1230 := F1208.other W1224 (nL F392.lt (Nat.le_of_eq g1160.symm))
             have B1231 := R1201_0.other W1224 (nG F1180.lt Zx1184_0)
             have k1232 := f_inc X1224 hx k1224 (H 57 rfl) rfl (l' := #[sr a1, sr ls, sr mp, sr b1160, si 1, sr it1184, si r0]) rfl
             exact ⟨T1224, h1224, _, r0, (1 : Int32), X1224, e1224, N1224, Z1224, B1229, F1225, V1224, F1227, B1230, B1231, K1228, F1226, (Or.inr (rfl)), k1232⟩
           · have k1233 := f_ifY X1217 hx k1217 (H 52 rfl) (pc' := 138) ((if0 _ _).trans (flt qp).2.2.2) (by decide)
             exact ⟨T1217, h1201, _, (0 : Int32), (0 : Int32), X1217, ee1217, N1218, Z1209, F1203, F1204, F1206, F1207, F1208, R1201_0, K1210, F1205, (Or.inl rfl), k1233⟩
          have k1242 := f_go X1219 hx kq1219 (H 58 rfl) (pc' := 96) (by decide)
          have k1243 := f_al X1219 hx k1242 (H 42 rfl) rfl
          obtain ⟨_, T1244, L1244, X1244, hQ1244, k1244⟩ := c_I (W := 0) (x := mn62) X1219 hx hZ hown (hww 158 rfl) (hww 159 rfl) (hww 160 rfl) (hww 161 rfl) (hww 162 rfl) (hww 163 rfl) (hww 164 rfl) (hww 165 rfl) (hww 166 rfl) (hww 141 rfl) (by decide) F1239.1 (hn1 l Z a0 hw [] it1184 nd1 h1219 n0 Zq1219 (F1239.g 2 (v := (.ref nd1)) (by decide) rfl rfl)) e1219 (argsL := []) (rest := []) rfl (by rw [hml]; rfl) k1243 rfl (H 43 rfl) (lenOf pd__28_29Z rfl) (b5 rfl)
          obtain ⟨rfl, N1244q, e1244⟩ := hQ1244
          have N1245 := Fr.app N1219 N1244q
          have k1246 := f_ifN X1244 hx k1244 (H 44 rfl) ((if0 _ _).trans (feq (by decide)).1)
          have k1247 := f_al X1244 hx k1246 (H 45 rfl) rfl
          obtain ⟨_, T1248, L1248, X1248, hQ1248, k1248⟩ := c_I (W := 0) (x := mn63) X1244 hx hZ hown (hww 373 rfl) (hww 374 rfl) (hww 375 rfl) (hww 376 rfl) (hww 377 rfl) (hww 378 rfl) (hww 379 rfl) (hww 165 rfl) (hww 380 rfl) (hww 132 rfl) (by decide) F1239.1 (nxt23 l Z a0 hw [] it1184 mp mc tb kt nd1 (.ref nd0) nd2 (.ref nd0) (.ref nd1) bx1 h1219 n0 Zq1219 F1239 (F1238.g 2 (v := (.int mc)) (by decide) rfl rfl) (F1238.g 0 (v := (.ref tb)) (by decide) rfl rfl) (Ltb.keep F1240 nw_tb) ((Lnd1.keep F1240 nw_nd1).g 3 (v := .null) (by decide) rfl rfl) ((Lnd1.keep F1240 nw_nd1).g 2 (v := (.ref bx1)) (by decide) rfl rfl) (Nat.le_trans Z1182 Zx1184_0) (nG R1175_0.lt Zx1184_0) (nG Ltb.lt (Nat.le_trans K1183.1 Zx1184_0)) (nG Lnd1.lt (Nat.le_trans K1183.1 Zx1184_0))) e1244 (argsL := []) (rest := []) rfl (by rw [hml]; rfl) k1247 rfl (H 46 rfl) (lenOf pd__28_29Ljava_2flang_2fObject_3b rfl) (b5 rfl)
          obtain ⟨h1248, e1248⟩ : ∃ h', T1248.heap = h' := ⟨_, rfl⟩
          rw [e1248] at hQ1248
          obtain ⟨rfl, N1248q, K1248, R1248_0⟩ := hQ1248
          have N1249 := Fr.app N1245 N1248q
          have F1250 := F1234.keep K1248 (ninS (nL F1177.lt Zx1184_0) nin0)
          have F1251 := F1235.keep K1248 (ninS (nL F1178.lt Zx1184_0) nin0)
          have F1252 := F1236.keep K1248 (ninS (nL F1180.lt Zx1184_0) nin0)
          have F1253 := F1237.keep K1248
          have F1254 := F1238.keep K1248 (ninS (nL R1175_0.lt Zx1184_0) nin0)
          have F1255 := F1241.keep K1248 (allS (Nat.le_trans Z1182 Zx1184_0) all0)
          have Z1256 : n0 ≤ h1248.size := Nat.le_trans Zq1219 K1248.1
          have K1257 := Keep.trans F1240 K1248 (allS (Or.inr (Nat.le_trans K1183.1 Zx1184_0)) all0)
          obtain ⟨T1258, X1258, e1258, st1258⟩ := castY X1248 hx hZ hown (hww 359 rfl) e1248 (Ins.self (Lbx1.keep K1257 nw_bx1).1) (g := (mkF m 113 #[sr a1, sr ls, sr mp, sr b1160, si cn1, sr it1184, si r0] [vR bx1])) rfl rfl (H 47 rfl)
          have k1259 : Rt p e below T1258 (mkF m 116 #[sr a1, sr ls, sr mp, sr b1160, si cn1, sr it1184, si r0] [vR bx1]) s₁ m #[(.ref a1), (.ref ls), (.ref mp)] 7 := fun t k => k1248 t (st1258 t k)
          obtain ⟨_, T1260, L1260, X1260, hQ1260, k1260⟩ := c_V (W := 0) (x := mn14) X1258 hx hZ hown (hww 361 rfl) (hww 362 rfl) (notFace_of_selects (args := #[]) (mvT hZ (hww 364 rfl))) (hww 364 rfl) (hww 363 rfl) (hww 365 rfl) (hww 242 rfl) (by decide) (Lbx1.keep K1257 nw_bx1).1 (iv l Z a0 hw [] bx1 r1 h1248 n0 Z1256 ((Lbx1.keep K1257 nw_bx1).g 0 (v := (.int r1)) (by decide) rfl rfl)) e1258 (argsL := []) (rest := []) rfl (by rw [hml]; rfl) k1259 rfl (H 48 rfl) (lenOf pd__28_29I rfl) (b5 rfl)
          obtain ⟨rfl, N1260q, e1260⟩ := hQ1260
          have N1261 := Fr.app N1249 N1260q
          have k1262 := f_is X1260 hx k1260 (H 49 rfl) (l' := #[sr a1, sr ls, sr mp, sr b1160, si cn1, sr it1184, si r1]) rfl
          have k1263 := f_il X1260 hx k1262 (H 50 rfl) rfl
          obtain ⟨_, T1264, L1264, X1264, hQ1264, k1264⟩ := c_S (W := 0) X1260 hx hZ hown (hww 368 rfl) (hww 369 rfl) (hww 69 rfl) (hww 370 rfl) (by decide) (gain l Z a0 hw [] r1 h1248 n0 Z1256 ) e1260 (argsL := [(.int r1)]) (rest := []) rfl (by rw [hml]; rfl) k1263 rfl (H 51 rfl) (lenOf pd__28I_29I rfl) (b5 rfl)
          obtain ⟨h1264, e1264⟩ : ∃ h', T1264.heap = h' := ⟨_, rfl⟩
          rw [e1264] at hQ1264
          obtain ⟨j1264, rfl, N1264q, hh1264, P1264_0⟩ := hQ1264
          have N1265 := Fr.app N1261 N1264q
          have ee1264 : T1264.heap = h1248 := e1264.trans hh1264
          obtain ⟨T1266, h1266, Ls1266, u10, u11, cn2, X1266, e1266, N1266, Zq1266, F1293, F1294, F1295, F1296, F1297, F1298, F1299, F1300, hcr1, kq1266⟩ : ∃ (T1266 : State) (h1266 : Heap) (Ls1266 : List Loc) (u10 : Int32) (u11 : Int32) (cn2 : Int32), Stand p l e (rm 5 9 21 79) s m #[(.ref a1), (.ref ls), (.ref mp)] below meth c T1266 Ls1266 7 15 ∧ T1266.heap = h1266 ∧ Fr n0 Ls1266 ∧ n0 ≤ h1266.size ∧ OBJ Z h1266 a1 "com/example/multinomial/multinomial/eval/JudgedRanking" lyJR [(.ref b108), .null] ∧ Arv Z h1266 b108 k108 .int nn [(.int g0), (.int g1), (.int g2)] zI ∧ Arv Z h1266 b1160 k1160 .int (3 : Int32) [(.int u10), (.int u11), zI] zI ∧ Exa Z h1266 b1160 "[I" ∧ OBJ Z h1266 mp "java/util/HashMap" lyMP [(.ref tb), (.int (3 : Int32)), (.int mc), (.int th), (.ref vw1175), (.float (1061158912 : UInt32))] ∧ OBJ Z h1266 it1184 "java/util/HashMap$ValueIterator" lyIT [(.ref mp), (.int mc), (.ref nd2), (.ref nd1), (.int (4 : Int32))] ∧ Keep h0 h1266 [a1, mp, id0, id1, id2] ∧ Old Z n0 h1266 ∧ (cn2 = (0 : Int32) ∨ cn2 = (1 : Int32) ∨ cn2 = (2 : Int32)) ∧ (Rt p e below T1266 (mkF m 138 #[sr a1, sr ls, sr mp, sr b1160, si cn2, sr it1184, si r1] []) s₁ m #[(.ref a1), (.ref ls), (.ref mp)] 7) := by
           by_cases qp : (0 : Int32) < j1264
           · have k1267 := f_ifN X1264 hx k1264 (H 52 rfl) ((if0 _ _).trans (tlt qp).2.2.2)
             rcases hcr0 with rfl | rfl
             · have k1268 := f_alN X1264 hx k1267 (H 53 rfl) rfl
               have k1269 := f_il X1264 hx k1268 (H 54 rfl) rfl
               have k1270 := f_il X1264 hx k1269 (H 55 rfl) rfl
               obtain ⟨T1271, h1271, L1271, X1271, e1271, W1271, V1271, N1271, Z1271, k1271⟩ := f_ist X1264 hx hZ ee1264 F1252 N1265 g1161 Z1256 k1270 (H 56 rfl) (by decide) 0 rfl (lt_b rfl)
               have F1272 := F1251.other W1271 (nL F393.lt (Nat.le_of_eq g1160.symm))
               have F1273 := F1253.wr W1271
               have F1274 := F1255.wr W1271 g1161
               have K1275 := K1257.wr W1271 (Or.inr z1162)
               have B1276 := F1250.other W1271 (nL F391.lt (Nat.le_of_eq g1160.symm))
               have B1277 := F1254.other W1271 (nL F392.lt (Nat.le_of_eq g1160.symm))
               have B1278 := R1248_0.other W1271 (nG F1180.lt Zx1184_0)
               have k1279 := f_inc X1271 hx k1271 (H 57 rfl) rfl (l' := #[sr a1, sr ls, sr mp, sr b1160, si 1, sr it1184, si r1]) rfl
               exact ⟨T1271, h1271, _, r1, (0 : Int32), (1 : Int32), X1271, e1271, N1271, Z1271, B1276, F1272, V1271, F1273, B1277, B1278, K1275, F1274, (Or.inr (Or.inl rfl)), k1279⟩
             · have k1280 := f_alN X1264 hx k1267 (H 53 rfl) rfl
               have k1281 := f_il X1264 hx k1280 (H 54 rfl) rfl
               have k1282 := f_il X1264 hx k1281 (H 55 rfl) rfl
               obtain ⟨T1283, h1283, L1283, X1283, e1283, W1283, V1283, N1283, Z1283, k1283⟩ := f_ist X1264 hx hZ ee1264 F1252 N1265 g1161 Z1256 k1282 (H 56 rfl) (by decide) 1 rfl (lt_b rfl)
               have F1284 := F1251.other W1283 (nL F393.lt (Nat.le_of_eq g1160.symm))
               have F1285 := F1253.wr W1283
               have F1286 := F1255.wr W1283 g1161
               have K1287 := K1257.wr W1283 (Or.inr z1162)
               have B1288 := F1250.other W1283 (nL F391.lt (Nat.le_of_eq g1160.symm))
               have B1289 := F1254.other W1283 (nL F392.lt (Nat.le_of_eq g1160.symm))
               have B1290 := R1248_0.other W1283 (nG F1180.lt Zx1184_0)
               have k1291 := f_inc X1283 hx k1283 (H 57 rfl) rfl (l' := #[sr a1, sr ls, sr mp, sr b1160, si 2, sr it1184, si r1]) rfl
               exact ⟨T1283, h1283, _, u00, r1, (2 : Int32), X1283, e1283, N1283, Z1283, B1288, F1284, V1283, F1285, B1289, B1290, K1287, F1286, (Or.inr (Or.inr (rfl))), k1291⟩
           · have k1292 := f_ifY X1264 hx k1264 (H 52 rfl) (pc' := 138) ((if0 _ _).trans (flt qp).2.2.2) (by decide)
             exact ⟨T1264, h1248, _, u00, (0 : Int32), cn1, X1264, ee1264, N1265, Z1256, F1250, F1251, F1252, F1253, F1254, R1248_0, K1257, F1255, (hcr0.elim Or.inl (fun h => Or.inr (Or.inl h))), k1292⟩
          have k1301 := f_go X1266 hx kq1266 (H 58 rfl) (pc' := 96) (by decide)
          have k1302 := f_al X1266 hx k1301 (H 42 rfl) rfl
          obtain ⟨_, T1303, L1303, X1303, hQ1303, k1303⟩ := c_I (W := 0) (x := mn62) X1266 hx hZ hown (hww 158 rfl) (hww 159 rfl) (hww 160 rfl) (hww 161 rfl) (hww 162 rfl) (hww 163 rfl) (hww 164 rfl) (hww 165 rfl) (hww 166 rfl) (hww 141 rfl) (by decide) F1298.1 (hn1 l Z a0 hw [] it1184 nd2 h1266 n0 Zq1266 (F1298.g 2 (v := (.ref nd2)) (by decide) rfl rfl)) e1266 (argsL := []) (rest := []) rfl (by rw [hml]; rfl) k1302 rfl (H 43 rfl) (lenOf pd__28_29Z rfl) (b5 rfl)
          obtain ⟨rfl, N1303q, e1303⟩ := hQ1303
          have N1304 := Fr.app N1266 N1303q
          have k1305 := f_ifN X1303 hx k1303 (H 44 rfl) ((if0 _ _).trans (feq (by decide)).1)
          have k1306 := f_al X1303 hx k1305 (H 45 rfl) rfl
          obtain ⟨_, T1307, L1307, X1307, hQ1307, k1307⟩ := c_I (W := 0) (x := mn63) X1303 hx hZ hown (hww 373 rfl) (hww 374 rfl) (hww 375 rfl) (hww 376 rfl) (hww 377 rfl) (hww 378 rfl) (hww 379 rfl) (hww 165 rfl) (hww 380 rfl) (hww 132 rfl) (by decide) F1298.1 (nxt3None l Z a0 hw [] it1184 mp mc tb kt nd2 (.ref nd1) (.ref nd0) (.ref nd1) (.ref nd2) bx2 h1266 n0 Zq1266 F1298 (F1297.g 2 (v := (.int mc)) (by decide) rfl rfl) (F1297.g 0 (v := (.ref tb)) (by decide) rfl rfl) (Ltb.keep F1299 nw_tb) ((Lnd2.keep F1299 nw_nd2).g 3 (v := .null) (by decide) rfl rfl) ((Lnd2.keep F1299 nw_nd2).g 2 (v := (.ref bx2)) (by decide) rfl rfl) (Nat.le_trans Z1182 Zx1184_0) (nG R1175_0.lt Zx1184_0) (nG Ltb.lt (Nat.le_trans K1183.1 Zx1184_0)) (nG Lnd2.lt (Nat.le_trans K1183.1 Zx1184_0))) e1303 (argsL := []) (rest := []) rfl (by rw [hml]; rfl) k1306 rfl (H 46 rfl) (lenOf pd__28_29Ljava_2flang_2fObject_3b rfl) (b5 rfl)
          obtain ⟨h1307, e1307⟩ : ∃ h', T1307.heap = h' := ⟨_, rfl⟩
          rw [e1307] at hQ1307
          obtain ⟨rfl, N1307q, K1307, R1307_0⟩ := hQ1307
          have N1308 := Fr.app N1304 N1307q
          have F1309 := F1293.keep K1307 (ninS (nL F1177.lt Zx1184_0) nin0)
          have F1310 := F1294.keep K1307 (ninS (nL F1178.lt Zx1184_0) nin0)
          have F1311 := F1295.keep K1307 (ninS (nL F1180.lt Zx1184_0) nin0)
          have F1312 := F1296.keep K1307
          have F1313 := F1297.keep K1307 (ninS (nL R1175_0.lt Zx1184_0) nin0)
          have F1314 := F1300.keep K1307 (allS (Nat.le_trans Z1182 Zx1184_0) all0)
          have Z1315 : n0 ≤ h1307.size := Nat.le_trans Zq1266 K1307.1
          have K1316 := Keep.trans F1299 K1307 (allS (Or.inr (Nat.le_trans K1183.1 Zx1184_0)) all0)
          obtain ⟨T1317, X1317, e1317, st1317⟩ := castY X1307 hx hZ hown (hww 359 rfl) e1307 (Ins.self (Lbx2.keep K1316 nw_bx2).1) (g := (mkF m 113 #[sr a1, sr ls, sr mp, sr b1160, si cn2, sr it1184, si r1] [vR bx2])) rfl rfl (H 47 rfl)
          have k1318 : Rt p e below T1317 (mkF m 116 #[sr a1, sr ls, sr mp, sr b1160, si cn2, sr it1184, si r1] [vR bx2]) s₁ m #[(.ref a1), (.ref ls), (.ref mp)] 7 := fun t k => k1307 t (st1317 t k)
          obtain ⟨_, T1319, L1319, X1319, hQ1319, k1319⟩ := c_V (W := 0) (x := mn14) X1317 hx hZ hown (hww 361 rfl) (hww 362 rfl) (notFace_of_selects (args := #[]) (mvT hZ (hww 364 rfl))) (hww 364 rfl) (hww 363 rfl) (hww 365 rfl) (hww 242 rfl) (by decide) (Lbx2.keep K1316 nw_bx2).1 (iv l Z a0 hw [] bx2 r2 h1307 n0 Z1315 ((Lbx2.keep K1316 nw_bx2).g 0 (v := (.int r2)) (by decide) rfl rfl)) e1317 (argsL := []) (rest := []) rfl (by rw [hml]; rfl) k1318 rfl (H 48 rfl) (lenOf pd__28_29I rfl) (b5 rfl)
          obtain ⟨rfl, N1319q, e1319⟩ := hQ1319
          have N1320 := Fr.app N1308 N1319q
          have k1321 := f_is X1319 hx k1319 (H 49 rfl) (l' := #[sr a1, sr ls, sr mp, sr b1160, si cn2, sr it1184, si r2]) rfl
          have k1322 := f_il X1319 hx k1321 (H 50 rfl) rfl
          obtain ⟨_, T1323, L1323, X1323, hQ1323, k1323⟩ := c_S (W := 0) X1319 hx hZ hown (hww 368 rfl) (hww 369 rfl) (hww 69 rfl) (hww 370 rfl) (by decide) (gain l Z a0 hw [] r2 h1307 n0 Z1315 ) e1319 (argsL := [(.int r2)]) (rest := []) rfl (by rw [hml]; rfl) k1322 rfl (H 51 rfl) (lenOf pd__28I_29I rfl) (b5 rfl)
          obtain ⟨h1323, e1323⟩ : ∃ h', T1323.heap = h' := ⟨_, rfl⟩
          rw [e1323] at hQ1323
          obtain ⟨j1323, rfl, N1323q, hh1323, P1323_0⟩ := hQ1323
          have N1324 := Fr.app N1320 N1323q
          have ee1323 : T1323.heap = h1307 := e1323.trans hh1323
          obtain ⟨T1325, h1325, Ls1325, u20, u21, u22, cn3, X1325, e1325, N1325, Zq1325, F1364, F1365, F1366, F1367, F1368, F1369, F1370, F1371, hcr2, kq1325⟩ : ∃ (T1325 : State) (h1325 : Heap) (Ls1325 : List Loc) (u20 : Int32) (u21 : Int32) (u22 : Int32) (cn3 : Int32), Stand p l e (rm 5 9 21 79) s m #[(.ref a1), (.ref ls), (.ref mp)] below meth c T1325 Ls1325 7 15 ∧ T1325.heap = h1325 ∧ Fr n0 Ls1325 ∧ n0 ≤ h1325.size ∧ OBJ Z h1325 a1 "com/example/multinomial/multinomial/eval/JudgedRanking" lyJR [(.ref b108), .null] ∧ Arv Z h1325 b108 k108 .int nn [(.int g0), (.int g1), (.int g2)] zI ∧ Arv Z h1325 b1160 k1160 .int (3 : Int32) [(.int u20), (.int u21), (.int u22)] zI ∧ Exa Z h1325 b1160 "[I" ∧ OBJ Z h1325 mp "java/util/HashMap" lyMP [(.ref tb), (.int (3 : Int32)), (.int mc), (.int th), (.ref vw1175), (.float (1061158912 : UInt32))] ∧ OBJ Z h1325 it1184 "java/util/HashMap$ValueIterator" lyIT [(.ref mp), (.int mc), .null, (.ref nd2), (.int (16 : Int32))] ∧ Keep h0 h1325 [a1, mp, id0, id1, id2] ∧ Old Z n0 h1325 ∧ (cn3 = (0 : Int32) ∨ cn3 = (1 : Int32) ∨ cn3 = (2 : Int32) ∨ cn3 = (3 : Int32)) ∧ (Rt p e below T1325 (mkF m 138 #[sr a1, sr ls, sr mp, sr b1160, si cn3, sr it1184, si r2] []) s₁ m #[(.ref a1), (.ref ls), (.ref mp)] 7) := by
           by_cases qp : (0 : Int32) < j1323
           · have k1326 := f_ifN X1323 hx k1323 (H 52 rfl) ((if0 _ _).trans (tlt qp).2.2.2)
             rcases hcr1 with rfl | rfl | rfl
             · have k1327 := f_alN X1323 hx k1326 (H 53 rfl) rfl
               have k1328 := f_il X1323 hx k1327 (H 54 rfl) rfl
               have k1329 := f_il X1323 hx k1328 (H 55 rfl) rfl
               obtain ⟨T1330, h1330, L1330, X1330, e1330, W1330, V1330, N1330, Z1330, k1330⟩ := f_ist X1323 hx hZ ee1323 F1311 N1324 g1161 Z1315 k1329 (H 56 rfl) (by decide) 0 rfl (lt_b rfl)
               have F1331 := F1310.other W1330 (nL F393.lt (Nat.le_of_eq g1160.symm))
               have F1332 := F1312.wr W1330
               have F1333 := F1314.wr W1330 g1161
               have K1334 := K1316.wr W1330 (Or.inr z1162)
               have B1335 := F1309.other W1330 (nL F391.lt (Nat.le_of_eq g1160.symm))
               have B1336 := F1313.other W1330 (nL F392.lt (Nat.le_of_eq g1160.symm))
               have B1337 := R1307_0.other W1330 (nG F1180.lt Zx1184_0)
               have k1338 := f_inc X1330 hx k1330 (H 57 rfl) rfl (l' := #[sr a1, sr ls, sr mp, sr b1160, si 1, sr it1184, si r2]) rfl
               exact ⟨T1330, h1330, _, r2, u11, (0 : Int32), (1 : Int32), X1330, e1330, N1330, Z1330, B1335, F1331, V1330, F1332, B1336, B1337, K1334, F1333, (Or.inr (Or.inl rfl)), k1338⟩
             · have k1339 := f_alN X1323 hx k1326 (H 53 rfl) rfl
               have k1340 := f_il X1323 hx k1339 (H 54 rfl) rfl
               have k1341 := f_il X1323 hx k1340 (H 55 rfl) rfl
               obtain ⟨T1342, h1342, L1342, X1342, e1342, W1342, V1342, N1342, Z1342, k1342⟩ := f_ist X1323 hx hZ ee1323 F1311 N1324 g1161 Z1315 k1341 (H 56 rfl) (by decide) 1 rfl (lt_b rfl)
               have F1343 := F1310.other W1342 (nL F393.lt (Nat.le_of_eq g1160.symm))
               have F1344 := F1312.wr W1342
               have F1345 := F1314.wr W1342 g1161
               have K1346 := K1316.wr W1342 (Or.inr z1162)
               have B1347 := F1309.other W1342 (nL F391.lt (Nat.le_of_eq g1160.symm))
               have B1348 := F1313.other W1342 (nL F392.lt (Nat.le_of_eq g1160.symm))
               have B1349 := R1307_0.other W1342 (nG F1180.lt Zx1184_0)
               have k1350 := f_inc X1342 hx k1342 (H 57 rfl) rfl (l' := #[sr a1, sr ls, sr mp, sr b1160, si 2, sr it1184, si r2]) rfl
               exact ⟨T1342, h1342, _, u10, r2, (0 : Int32), (2 : Int32), X1342, e1342, N1342, Z1342, B1347, F1343, V1342, F1344, B1348, B1349, K1346, F1345, (Or.inr (Or.inr (Or.inl rfl))), k1350⟩
             · have k1351 := f_alN X1323 hx k1326 (H 53 rfl) rfl
               have k1352 := f_il X1323 hx k1351 (H 54 rfl) rfl
               have k1353 := f_il X1323 hx k1352 (H 55 rfl) rfl
               obtain ⟨T1354, h1354, L1354, X1354, e1354, W1354, V1354, N1354, Z1354, k1354⟩ := f_ist X1323 hx hZ ee1323 F1311 N1324 g1161 Z1315 k1353 (H 56 rfl) (by decide) 2 rfl (lt_b rfl)
               have F1355 := F1310.other W1354 (nL F393.lt (Nat.le_of_eq g1160.symm))
               have F1356 := F1312.wr W1354
               have F1357 := F1314.wr W1354 g1161
               have K1358 := K1316.wr W1354 (Or.inr z1162)
               have B1359 := F1309.other W1354 (nL F391.lt (Nat.le_of_eq g1160.symm))
               have B1360 := F1313.other W1354 (nL F392.lt (Nat.le_of_eq g1160.symm))
               have B1361 := R1307_0.other W1354 (nG F1180.lt Zx1184_0)
               have k1362 := f_inc X1354 hx k1354 (H 57 rfl) rfl (l' := #[sr a1, sr ls, sr mp, sr b1160, si 3, sr it1184, si r2]) rfl
               exact ⟨T1354, h1354, _, u10, u11, r2, (3 : Int32), X1354, e1354, N1354, Z1354, B1359, F1355, V1354, F1356, B1360, B1361, K1358, F1357, (Or.inr (Or.inr (Or.inr (rfl)))), k1362⟩
           · have k1363 := f_ifY X1323 hx k1323 (H 52 rfl) (pc' := 138) ((if0 _ _).trans (flt qp).2.2.2) (by decide)
             exact ⟨T1323, h1307, _, u10, u11, (0 : Int32), cn2, X1323, ee1323, N1324, Z1315, F1309, F1310, F1311, F1312, F1313, R1307_0, K1316, F1314, (hcr1.elim Or.inl (fun h => Or.inr (h.elim Or.inl (fun h => Or.inr (Or.inl h))))), k1363⟩
          have k1372 := f_go X1325 hx kq1325 (H 58 rfl) (pc' := 96) (by decide)
          have k1373 := f_al X1325 hx k1372 (H 42 rfl) rfl
          obtain ⟨_, T1374, L1374, X1374, hQ1374, k1374⟩ := c_I (W := 0) (x := mn62) X1325 hx hZ hown (hww 158 rfl) (hww 159 rfl) (hww 160 rfl) (hww 161 rfl) (hww 162 rfl) (hww 163 rfl) (hww 164 rfl) (hww 165 rfl) (hww 166 rfl) (hww 141 rfl) (by decide) F1369.1 (hn0 l Z a0 hw [] it1184 h1325 n0 Zq1325 (F1369.g 2 (v := .null) (by decide) rfl rfl)) e1325 (argsL := []) (rest := []) rfl (by rw [hml]; rfl) k1373 rfl (H 43 rfl) (lenOf pd__28_29Z rfl) (b5 rfl)
          obtain ⟨rfl, N1374q, e1374⟩ := hQ1374
          have N1375 := Fr.app N1325 N1374q
          have k1376 := f_ifY X1374 hx k1374 (H 44 rfl) (pc' := 141) ((if0 _ _).trans (teq (by decide)).1) (by decide)
          exact ⟨T1374, h1325, _, b1160, k1160, (3 : Int32), it1184, u20, u21, u22, cn3, (si r2), X1374, e1374, N1375, Zq1325, F1364, F1365, F1366, F1367, F1370, F1371, (hcr2.elim (fun q => (Or.inr (Or.inr (Or.inr (Or.inr (Or.inr (Or.inr (Or.inl ⟨rfl, q⟩)))))))) (fun q => q.elim (fun q => (Or.inr (Or.inr (Or.inr (Or.inr (Or.inr (Or.inr (Or.inr (Or.inl ⟨rfl, q⟩))))))))) (fun q => q.elim (fun q => (Or.inr (Or.inr (Or.inr (Or.inr (Or.inr (Or.inr (Or.inr (Or.inr (Or.inl ⟨rfl, q⟩)))))))))) (fun q => (Or.inr (Or.inr (Or.inr (Or.inr (Or.inr (Or.inr (Or.inr (Or.inr (Or.inr (⟨rfl, q⟩)))))))))))))), rfl, k1376⟩
 have k1383 := f_alN X396 hx kq396 (H 59 rfl) rfl
 have k1384 := f_il X396 hx k1383 (H 60 rfl) rfl
 obtain ⟨_, T1385, L1385, X1385, hQ1385, k1385⟩ := c_S (W := 0) X396 hx hZ hown (hww 167 rfl) (hww 168 rfl) (hww 169 rfl) (hww 170 rfl) (by decide) (cpg l Z a0 hw [] br kr sx cn q0 q1 q2 h396 n0 Zq396 F1379 F1380 (own_pr PR).1 (own_pr PR).2.1 (own_pr PR).2.2.1 (own_pr PR).2.2.2.1) e396 (argsL := [(.ref br), (.int cn)]) (rest := []) rfl (by rw [hml]; rfl) k1384 rfl (H 61 rfl) (lenOf pd__28_5bII_29_5bI rfl) (b5 rfl)
 obtain ⟨h1385, e1385⟩ : ∃ h', T1385.heap = h' := ⟨_, rfl⟩
 rw [e1385] at hQ1385
 obtain ⟨b1385, kb1385, r01385, r11385, r21385, rfl, N1385q, K1385, Zx1385_0, R1385_0⟩ := hQ1385
 have N1386 := Fr.app N396 N1385q
 have F1387 := F1377.keep K1385 nin0
 have F1388 := F1378.keep K1385 nin0
 have F1389 := F1379.keep K1385 nin0
 have F1390 := F1380.keep K1385
 have F1391 := F1382.keep K1385 all0
 have Z1392 : n0 ≤ h1385.size := Nat.le_trans Zq396 K1385.1
 have K1393 := Keep.trans F1381 K1385 all0
 have k1394 := f_as X1385 hx k1385 (H 62 rfl) (l' := #[sr a1, sr ls, sr mp, sr br, si cn, sr b1385, sl6]) rfl
 have k1395 := f_al X1385 hx k1394 (H 63 rfl) rfl
 have PC := (own_pr PR).2.2.2.2
 rcases PC with rfl | rfl | rfl | rfl
 · have V1396 : Arv Z h1385 b1385 kb1385 .int (0 : Int32) [] zI := own_pd0 R1385_0
   obtain ⟨_, T1397, L1397, X1397, hQ1397, k1397⟩ := c_S (W := 0) X1385 hx hZ hown (hww 180 rfl) (hww 181 rfl) (hww 169 rfl) (hww 182 rfl) (by decide) (srt0 l Z a0 hw [] b1385 kb1385 h1385 n0 Z1392 V1396 (Nat.le_trans Zq396 Zx1385_0)) e1385 (argsL := [(.ref b1385)]) (rest := []) rfl (by rw [hml]; rfl) k1395 rfl (H 64 rfl) (lenOf pd__28_5bI_29V rfl) (b5 rfl)
   obtain ⟨h1397, e1397⟩ : ∃ h', T1397.heap = h' := ⟨_, rfl⟩
   rw [e1397] at hQ1397
   obtain ⟨rfl, N1397q, K1397, R1397_0⟩ := hQ1397
   have N1398 := Fr.app N1386 N1397q
   have F1399 := F1387.keep K1397 (ninS (nL F1377.lt Zx1385_0) nin0)
   have F1400 := F1388.keep K1397 (ninS (nL F1378.lt Zx1385_0) nin0)
   have F1401 := F1391.keep K1397 (allS (Nat.le_trans Zq396 Zx1385_0) all0)
   have Z1402 : n0 ≤ h1397.size := Nat.le_trans Z1392 K1397.1
   have K1403 := Keep.trans K1393 K1397 (allS (Or.inr (Nat.le_trans F1381.1 Zx1385_0)) all0)
   have k1404 := f_alN X1397 hx k1397 (H 65 rfl) rfl
   have k1405 := f_il X1397 hx k1404 (H 66 rfl) rfl
   obtain ⟨T1406, h1406, k1406, X1406, e1406, E1406, A1406, Y1406, st1406⟩ := newPE X1397 hx hZ (hww 85 rfl) e1397 (g := (mkF m 157 #[sr a1, sr ls, sr mp, sr br, si 0, sr b1385, sl6] [vI 0, vR a1])) rfl (H 67 rfl) rfl (by decide) (cap := 0) (by decide) (by decide) (by decide) (by decide) (ad := "[I") (by decide)
   obtain ⟨b1406, g1406⟩ : ∃ z, z = h1397.size := ⟨_, rfl⟩
   rw [← g1406] at A1406 Y1406 st1406
   have g1407 : n0 ≤ b1406 := Nat.le_trans Z1402 (Nat.le_of_eq g1406.symm)
   have z1408 : h0.size ≤ b1406 := Nat.le_trans K1403.1 (Nat.le_of_eq g1406.symm)
   have F1409 := F1399.ext E1406
   have F1410 := F1400.ext E1406
   have F1411 := F1401.ext E1406
   have F1412 := R1397_0.ext E1406
   have Z1413 : n0 ≤ h1406.size := Nat.le_trans Z1402 E1406.1
   have K1414 := K1403.ext E1406
   have V1415 : Arv Z h1406 b1406 k1406 .int (0 : Int32) [] zI := (Arv.new A1406 (by decide)).pad (pad_rep [] zI 0)
   have k1416 : Rt p e below T1406 (mkF m 159 #[sr a1, sr ls, sr mp, sr br, si 0, sr b1385, sl6] [vR b1406, vR a1]) s₁ m #[(.ref a1), (.ref ls), (.ref mp)] 7 := fun t k => k1405 t (st1406 t k)
   obtain ⟨T1417, h1417, L1417, X1417, e1417, W1417, B1417, N1417, Z1417, k1417⟩ := f_pF X1406 hx hZ hown (hww 193 rfl) Via.refl e1406 F1409 (snJR hw) (Or.inr ⟨(hww 194 rfl), rfl, hnm⟩) (hww 68 rfl) 1 (by decide) rfl rfl (ty := (.array .int)) (by decide) rfl rfl N1398 ge_a1 Z1413 k1416 (H 68 rfl) rfl
   have F1418 := F1410.other W1417 (nG Fk0.lt (Nat.le_of_eq g108.symm))
   have F1419 := F1411.wr W1417 ge_a1
   have F1420 := F1412.other W1417 (nG F1377.lt Zx1385_0)
   have F1421 := V1415.other W1417 (nG F1399.lt (Nat.le_of_eq g1406.symm))
   have F1422 := Y1406.wr W1417
   have K1423 := kw K1414 W1417 0 rfl
   have k1424 := f_ic X1417 hx k1417 (H 69 rfl) (v := 0) rfl
   have k1425 := f_is X1417 hx k1424 (H 70 rfl) (l' := #[sr a1, sr ls, sr mp, sr br, si 0, sr b1385, si 0]) (st6 S6)
   have k1426 := f_il X1417 hx k1425 (H 71 rfl) rfl
   have k1427 := f_il X1417 hx k1426 (H 72 rfl) rfl
   have k1428 := f_icY X1417 hx k1427 (H 73 rfl) (pc' := 195) (flt (by decide)).2.1 (by decide)
   exact fin_v X1417 hx hrt hlk k1428 (H 74 rfl) (by rw [e1417]; exact ⟨b108, k108, g0, g1, g2, b1406, rfl, N1417, K1423, B1417, F1418, hgv0, hgv1, hgv2⟩) (by decide) (by decide)
 · have V1429 : Arv Z h1385 b1385 kb1385 .int (1 : Int32) [(.int r01385)] zI := own_pd1 R1385_0
   obtain ⟨_, T1430, L1430, X1430, hQ1430, k1430⟩ := c_S (W := 0) X1385 hx hZ hown (hww 180 rfl) (hww 181 rfl) (hww 169 rfl) (hww 182 rfl) (by decide) (srt1 l Z a0 hw [] b1385 kb1385 r01385 h1385 n0 Z1392 V1429 (Nat.le_trans Zq396 Zx1385_0)) e1385 (argsL := [(.ref b1385)]) (rest := []) rfl (by rw [hml]; rfl) k1395 rfl (H 64 rfl) (lenOf pd__28_5bI_29V rfl) (b5 rfl)
   obtain ⟨h1430, e1430⟩ : ∃ h', T1430.heap = h' := ⟨_, rfl⟩
   rw [e1430] at hQ1430
   obtain ⟨r01430, rfl, N1430q, K1430, R1430_0⟩ := hQ1430
   have N1431 := Fr.app N1386 N1430q
   have F1432 := F1387.keep K1430 (ninS (nL F1377.lt Zx1385_0) nin0)
   have F1433 := F1388.keep K1430 (ninS (nL F1378.lt Zx1385_0) nin0)
   have F1434 := F1391.keep K1430 (allS (Nat.le_trans Zq396 Zx1385_0) all0)
   have Z1435 : n0 ≤ h1430.size := Nat.le_trans Z1392 K1430.1
   have K1436 := Keep.trans K1393 K1430 (allS (Or.inr (Nat.le_trans F1381.1 Zx1385_0)) all0)
   have k1437 := f_alN X1430 hx k1430 (H 65 rfl) rfl
   have k1438 := f_il X1430 hx k1437 (H 66 rfl) rfl
   obtain ⟨T1439, h1439, k1439, X1439, e1439, E1439, A1439, Y1439, st1439⟩ := newPE X1430 hx hZ (hww 85 rfl) e1430 (g := (mkF m 157 #[sr a1, sr ls, sr mp, sr br, si 1, sr b1385, sl6] [vI 1, vR a1])) rfl (H 67 rfl) rfl (by decide) (cap := 1) (by decide) (by decide) (by decide) (by decide) (ad := "[I") (by decide)
   obtain ⟨b1439, g1439⟩ : ∃ z, z = h1430.size := ⟨_, rfl⟩
   rw [← g1439] at A1439 Y1439 st1439
   have g1440 : n0 ≤ b1439 := Nat.le_trans Z1435 (Nat.le_of_eq g1439.symm)
   have z1441 : h0.size ≤ b1439 := Nat.le_trans K1436.1 (Nat.le_of_eq g1439.symm)
   have F1442 := F1432.ext E1439
   have F1443 := F1433.ext E1439
   have F1444 := F1434.ext E1439
   have F1445 := R1430_0.ext E1439
   have Z1446 : n0 ≤ h1439.size := Nat.le_trans Z1435 E1439.1
   have K1447 := K1436.ext E1439
   have V1448 : Arv Z h1439 b1439 k1439 .int (1 : Int32) [zI] zI := (Arv.new A1439 (by decide)).pad (pad_rep [] zI 1)
   have k1449 : Rt p e below T1439 (mkF m 159 #[sr a1, sr ls, sr mp, sr br, si 1, sr b1385, sl6] [vR b1439, vR a1]) s₁ m #[(.ref a1), (.ref ls), (.ref mp)] 7 := fun t k => k1438 t (st1439 t k)
   obtain ⟨T1450, h1450, L1450, X1450, e1450, W1450, B1450, N1450, Z1450, k1450⟩ := f_pF X1439 hx hZ hown (hww 193 rfl) Via.refl e1439 F1442 (snJR hw) (Or.inr ⟨(hww 194 rfl), rfl, hnm⟩) (hww 68 rfl) 1 (by decide) rfl rfl (ty := (.array .int)) (by decide) rfl rfl N1431 ge_a1 Z1446 k1449 (H 68 rfl) rfl
   have F1451 := F1443.other W1450 (nG Fk0.lt (Nat.le_of_eq g108.symm))
   have F1452 := F1444.wr W1450 ge_a1
   have F1453 := F1445.other W1450 (nG F1377.lt Zx1385_0)
   have F1454 := V1448.other W1450 (nG F1432.lt (Nat.le_of_eq g1439.symm))
   have F1455 := Y1439.wr W1450
   have K1456 := kw K1447 W1450 0 rfl
   have k1457 := f_ic X1450 hx k1450 (H 69 rfl) (v := 0) rfl
   have k1458 := f_is X1450 hx k1457 (H 70 rfl) (l' := #[sr a1, sr ls, sr mp, sr br, si 1, sr b1385, si 0]) (st6 S6)
   have k1459 := f_il X1450 hx k1458 (H 71 rfl) rfl
   have k1460 := f_il X1450 hx k1459 (H 72 rfl) rfl
   have k1461 := f_icN X1450 hx k1460 (H 73 rfl) (tlt (by decide)).2.1
   have k1462 := f_alN X1450 hx k1461 (H 75 rfl) rfl
   obtain ⟨T1463, X1463, e1463, k1464⟩ := gFs X1450 hx hZ hown (hww 193 rfl) e1450 (B1450.g 1 (v := (.ref b1439)) (by decide) rfl rfl) k1462 (H 76 rfl)
   have k1465 := f_il X1463 hx k1464 (H 77 rfl) rfl
   have k1466 := f_al X1463 hx k1465 (H 78 rfl) rfl
   have k1467 := f_il X1463 hx k1466 (H 79 rfl) rfl
   have k1468 := f_ic X1463 hx k1467 (H 80 rfl) (v := 1) rfl
   have k1469 := f_isub X1463 hx k1468 (H 81 rfl) (r := 0) (by decide)
   have k1470 := f_il X1463 hx k1469 (H 82 rfl) rfl
   have k1471 := f_isub X1463 hx k1470 (H 83 rfl) (r := 0) (by decide)
   have k1472 := f_ial X1463 hx hZ e1463 F1453 k1471 (H 84 rfl) (v := r01430) (by decide) rfl
   obtain ⟨T1473, h1473, L1473, X1473, e1473, W1473, V1473, N1473, Z1473, k1473⟩ := f_ist X1463 hx hZ e1463 F1454 N1450 g1440 Z1450 k1472 (H 85 rfl) (by decide) 0 rfl (lt_b rfl)
   have F1474 := F1451.other W1473 (nL F1433.lt (Nat.le_of_eq g1439.symm))
   have F1475 := F1452.wr W1473 g1440
   have F1476 := F1453.other W1473 (nL R1430_0.lt (Nat.le_of_eq g1439.symm))
   have F1477 := F1455.wr W1473
   have K1478 := K1456.wr W1473 (Or.inr z1441)
   have B1479 := B1450.other W1473 (nL F1432.lt (Nat.le_of_eq g1439.symm))
   have k1480 := f_inc X1473 hx k1473 (H 86 rfl) rfl (l' := #[sr a1, sr ls, sr mp, sr br, si 1, sr b1385, si 1]) rfl
   have k1481 := f_go X1473 hx k1480 (H 87 rfl) (pc' := 165) (by decide)
   have k1482 := f_il X1473 hx k1481 (H 71 rfl) rfl
   have k1483 := f_il X1473 hx k1482 (H 72 rfl) rfl
   have k1484 := f_icY X1473 hx k1483 (H 73 rfl) (pc' := 195) (flt (by decide)).2.1 (by decide)
   exact fin_v X1473 hx hrt hlk k1484 (H 74 rfl) (by rw [e1473]; exact ⟨b108, k108, g0, g1, g2, b1439, rfl, N1473, K1478, B1479, F1474, hgv0, hgv1, hgv2⟩) (by decide) (by decide)
 · have V1485 : Arv Z h1385 b1385 kb1385 .int (2 : Int32) [(.int r01385), (.int r11385)] zI := own_pd2 R1385_0
   obtain ⟨_, T1486, L1486, X1486, hQ1486, k1486⟩ := c_S (W := 0) X1385 hx hZ hown (hww 180 rfl) (hww 181 rfl) (hww 169 rfl) (hww 182 rfl) (by decide) (srt2 l Z a0 hw [] b1385 kb1385 r01385 r11385 h1385 n0 Z1392 V1485 (Nat.le_trans Zq396 Zx1385_0)) e1385 (argsL := [(.ref b1385)]) (rest := []) rfl (by rw [hml]; rfl) k1395 rfl (H 64 rfl) (lenOf pd__28_5bI_29V rfl) (b5 rfl)
   obtain ⟨h1486, e1486⟩ : ∃ h', T1486.heap = h' := ⟨_, rfl⟩
   rw [e1486] at hQ1486
   obtain ⟨r01486, r11486, rfl, N1486q, K1486, R1486_0⟩ := hQ1486
   have N1487 := Fr.app N1386 N1486q
   have F1488 := F1387.keep K1486 (ninS (nL F1377.lt Zx1385_0) nin0)
   have F1489 := F1388.keep K1486 (ninS (nL F1378.lt Zx1385_0) nin0)
   have F1490 := F1391.keep K1486 (allS (Nat.le_trans Zq396 Zx1385_0) all0)
   have Z1491 : n0 ≤ h1486.size := Nat.le_trans Z1392 K1486.1
   have K1492 := Keep.trans K1393 K1486 (allS (Or.inr (Nat.le_trans F1381.1 Zx1385_0)) all0)
   have k1493 := f_alN X1486 hx k1486 (H 65 rfl) rfl
   have k1494 := f_il X1486 hx k1493 (H 66 rfl) rfl
   obtain ⟨T1495, h1495, k1495, X1495, e1495, E1495, A1495, Y1495, st1495⟩ := newPE X1486 hx hZ (hww 85 rfl) e1486 (g := (mkF m 157 #[sr a1, sr ls, sr mp, sr br, si 2, sr b1385, sl6] [vI 2, vR a1])) rfl (H 67 rfl) rfl (by decide) (cap := 2) (by decide) (by decide) (by decide) (by decide) (ad := "[I") (by decide)
   obtain ⟨b1495, g1495⟩ : ∃ z, z = h1486.size := ⟨_, rfl⟩
   rw [← g1495] at A1495 Y1495 st1495
   have g1496 : n0 ≤ b1495 := Nat.le_trans Z1491 (Nat.le_of_eq g1495.symm)
   have z1497 : h0.size ≤ b1495 := Nat.le_trans K1492.1 (Nat.le_of_eq g1495.symm)
   have F1498 := F1488.ext E1495
   have F1499 := F1489.ext E1495
   have F1500 := F1490.ext E1495
   have F1501 := R1486_0.ext E1495
   have Z1502 : n0 ≤ h1495.size := Nat.le_trans Z1491 E1495.1
   have K1503 := K1492.ext E1495
   have V1504 : Arv Z h1495 b1495 k1495 .int (2 : Int32) [zI, zI] zI := (Arv.new A1495 (by decide)).pad (pad_rep [] zI 2)
   have k1505 : Rt p e below T1495 (mkF m 159 #[sr a1, sr ls, sr mp, sr br, si 2, sr b1385, sl6] [vR b1495, vR a1]) s₁ m #[(.ref a1), (.ref ls), (.ref mp)] 7 := fun t k => k1494 t (st1495 t k)
   obtain ⟨T1506, h1506, L1506, X1506, e1506, W1506, B1506, N1506, Z1506, k1506⟩ := f_pF X1495 hx hZ hown (hww 193 rfl) Via.refl e1495 F1498 (snJR hw) (Or.inr ⟨(hww 194 rfl), rfl, hnm⟩) (hww 68 rfl) 1 (by decide) rfl rfl (ty := (.array .int)) (by decide) rfl rfl N1487 ge_a1 Z1502 k1505 (H 68 rfl) rfl
   have F1507 := F1499.other W1506 (nG Fk0.lt (Nat.le_of_eq g108.symm))
   have F1508 := F1500.wr W1506 ge_a1
   have F1509 := F1501.other W1506 (nG F1377.lt Zx1385_0)
   have F1510 := V1504.other W1506 (nG F1488.lt (Nat.le_of_eq g1495.symm))
   have F1511 := Y1495.wr W1506
   have K1512 := kw K1503 W1506 0 rfl
   have k1513 := f_ic X1506 hx k1506 (H 69 rfl) (v := 0) rfl
   have k1514 := f_is X1506 hx k1513 (H 70 rfl) (l' := #[sr a1, sr ls, sr mp, sr br, si 2, sr b1385, si 0]) (st6 S6)
   have k1515 := f_il X1506 hx k1514 (H 71 rfl) rfl
   have k1516 := f_il X1506 hx k1515 (H 72 rfl) rfl
   have k1517 := f_icN X1506 hx k1516 (H 73 rfl) (tlt (by decide)).2.1
   have k1518 := f_alN X1506 hx k1517 (H 75 rfl) rfl
   obtain ⟨T1519, X1519, e1519, k1520⟩ := gFs X1506 hx hZ hown (hww 193 rfl) e1506 (B1506.g 1 (v := (.ref b1495)) (by decide) rfl rfl) k1518 (H 76 rfl)
   have k1521 := f_il X1519 hx k1520 (H 77 rfl) rfl
   have k1522 := f_al X1519 hx k1521 (H 78 rfl) rfl
   have k1523 := f_il X1519 hx k1522 (H 79 rfl) rfl
   have k1524 := f_ic X1519 hx k1523 (H 80 rfl) (v := 1) rfl
   have k1525 := f_isub X1519 hx k1524 (H 81 rfl) (r := 1) (by decide)
   have k1526 := f_il X1519 hx k1525 (H 82 rfl) rfl
   have k1527 := f_isub X1519 hx k1526 (H 83 rfl) (r := 1) (by decide)
   have k1528 := f_ial X1519 hx hZ e1519 F1509 k1527 (H 84 rfl) (v := r11486) (by decide) rfl
   obtain ⟨T1529, h1529, L1529, X1529, e1529, W1529, V1529, N1529, Z1529, k1529⟩ := f_ist X1519 hx hZ e1519 F1510 N1506 g1496 Z1506 k1528 (H 85 rfl) (by decide) 0 rfl (lt_b rfl)
   have F1530 := F1507.other W1529 (nL F1489.lt (Nat.le_of_eq g1495.symm))
   have F1531 := F1508.wr W1529 g1496
   have F1532 := F1509.other W1529 (nL R1486_0.lt (Nat.le_of_eq g1495.symm))
   have F1533 := F1511.wr W1529
   have K1534 := K1512.wr W1529 (Or.inr z1497)
   have B1535 := B1506.other W1529 (nL F1488.lt (Nat.le_of_eq g1495.symm))
   have k1536 := f_inc X1529 hx k1529 (H 86 rfl) rfl (l' := #[sr a1, sr ls, sr mp, sr br, si 2, sr b1385, si 1]) rfl
   have k1537 := f_go X1529 hx k1536 (H 87 rfl) (pc' := 165) (by decide)
   have k1538 := f_il X1529 hx k1537 (H 71 rfl) rfl
   have k1539 := f_il X1529 hx k1538 (H 72 rfl) rfl
   have k1540 := f_icN X1529 hx k1539 (H 73 rfl) (tlt (by decide)).2.1
   have k1541 := f_alN X1529 hx k1540 (H 75 rfl) rfl
   obtain ⟨T1542, X1542, e1542, k1543⟩ := gFs X1529 hx hZ hown (hww 193 rfl) e1529 (B1535.g 1 (v := (.ref b1495)) (by decide) rfl rfl) k1541 (H 76 rfl)
   have k1544 := f_il X1542 hx k1543 (H 77 rfl) rfl
   have k1545 := f_al X1542 hx k1544 (H 78 rfl) rfl
   have k1546 := f_il X1542 hx k1545 (H 79 rfl) rfl
   have k1547 := f_ic X1542 hx k1546 (H 80 rfl) (v := 1) rfl
   have k1548 := f_isub X1542 hx k1547 (H 81 rfl) (r := 1) (by decide)
   have k1549 := f_il X1542 hx k1548 (H 82 rfl) rfl
   have k1550 := f_isub X1542 hx k1549 (H 83 rfl) (r := 0) (by decide)
   have k1551 := f_ial X1542 hx hZ e1542 F1532 k1550 (H 84 rfl) (v := r01486) (by decide) rfl
   obtain ⟨T1552, h1552, L1552, X1552, e1552, W1552, V1552, N1552, Z1552, k1552⟩ := f_ist X1542 hx hZ e1542 V1529 N1529 g1496 Z1529 k1551 (H 85 rfl) (by decide) 1 rfl (lt_b rfl)
   have F1553 := F1530.other W1552 (nL F1489.lt (Nat.le_of_eq g1495.symm))
   have F1554 := F1531.wr W1552 g1496
   have F1555 := F1532.other W1552 (nL R1486_0.lt (Nat.le_of_eq g1495.symm))
   have F1556 := F1533.wr W1552
   have K1557 := K1534.wr W1552 (Or.inr z1497)
   have B1558 := B1535.other W1552 (nL F1488.lt (Nat.le_of_eq g1495.symm))
   have k1559 := f_inc X1552 hx k1552 (H 86 rfl) rfl (l' := #[sr a1, sr ls, sr mp, sr br, si 2, sr b1385, si 2]) rfl
   have k1560 := f_go X1552 hx k1559 (H 87 rfl) (pc' := 165) (by decide)
   have k1561 := f_il X1552 hx k1560 (H 71 rfl) rfl
   have k1562 := f_il X1552 hx k1561 (H 72 rfl) rfl
   have k1563 := f_icY X1552 hx k1562 (H 73 rfl) (pc' := 195) (flt (by decide)).2.1 (by decide)
   exact fin_v X1552 hx hrt hlk k1563 (H 74 rfl) (by rw [e1552]; exact ⟨b108, k108, g0, g1, g2, b1495, rfl, N1552, K1557, B1558, F1553, hgv0, hgv1, hgv2⟩) (by decide) (by decide)
 · have V1564 := R1385_0
   obtain ⟨_, T1565, L1565, X1565, hQ1565, k1565⟩ := c_S (W := 0) X1385 hx hZ hown (hww 180 rfl) (hww 181 rfl) (hww 169 rfl) (hww 182 rfl) (by decide) (srt3 l Z a0 hw [] b1385 kb1385 r01385 r11385 r21385 h1385 n0 Z1392 V1564 (Nat.le_trans Zq396 Zx1385_0)) e1385 (argsL := [(.ref b1385)]) (rest := []) rfl (by rw [hml]; rfl) k1395 rfl (H 64 rfl) (lenOf pd__28_5bI_29V rfl) (b5 rfl)
   obtain ⟨h1565, e1565⟩ : ∃ h', T1565.heap = h' := ⟨_, rfl⟩
   rw [e1565] at hQ1565
   obtain ⟨r01565, r11565, r21565, rfl, N1565q, K1565, R1565_0⟩ := hQ1565
   have N1566 := Fr.app N1386 N1565q
   have F1567 := F1387.keep K1565 (ninS (nL F1377.lt Zx1385_0) nin0)
   have F1568 := F1388.keep K1565 (ninS (nL F1378.lt Zx1385_0) nin0)
   have F1569 := F1391.keep K1565 (allS (Nat.le_trans Zq396 Zx1385_0) all0)
   have Z1570 : n0 ≤ h1565.size := Nat.le_trans Z1392 K1565.1
   have K1571 := Keep.trans K1393 K1565 (allS (Or.inr (Nat.le_trans F1381.1 Zx1385_0)) all0)
   have k1572 := f_alN X1565 hx k1565 (H 65 rfl) rfl
   have k1573 := f_il X1565 hx k1572 (H 66 rfl) rfl
   obtain ⟨T1574, h1574, k1574, X1574, e1574, E1574, A1574, Y1574, st1574⟩ := newPE X1565 hx hZ (hww 85 rfl) e1565 (g := (mkF m 157 #[sr a1, sr ls, sr mp, sr br, si 3, sr b1385, sl6] [vI 3, vR a1])) rfl (H 67 rfl) rfl (by decide) (cap := 3) (by decide) (by decide) (by decide) (by decide) (ad := "[I") (by decide)
   obtain ⟨b1574, g1574⟩ : ∃ z, z = h1565.size := ⟨_, rfl⟩
   rw [← g1574] at A1574 Y1574 st1574
   have g1575 : n0 ≤ b1574 := Nat.le_trans Z1570 (Nat.le_of_eq g1574.symm)
   have z1576 : h0.size ≤ b1574 := Nat.le_trans K1571.1 (Nat.le_of_eq g1574.symm)
   have F1577 := F1567.ext E1574
   have F1578 := F1568.ext E1574
   have F1579 := F1569.ext E1574
   have F1580 := R1565_0.ext E1574
   have Z1581 : n0 ≤ h1574.size := Nat.le_trans Z1570 E1574.1
   have K1582 := K1571.ext E1574
   have V1583 : Arv Z h1574 b1574 k1574 .int (3 : Int32) [zI, zI, zI] zI := (Arv.new A1574 (by decide)).pad (pad_rep [] zI 3)
   have k1584 : Rt p e below T1574 (mkF m 159 #[sr a1, sr ls, sr mp, sr br, si 3, sr b1385, sl6] [vR b1574, vR a1]) s₁ m #[(.ref a1), (.ref ls), (.ref mp)] 7 := fun t k => k1573 t (st1574 t k)
   obtain ⟨T1585, h1585, L1585, X1585, e1585, W1585, B1585, N1585, Z1585, k1585⟩ := f_pF X1574 hx hZ hown (hww 193 rfl) Via.refl e1574 F1577 (snJR hw) (Or.inr ⟨(hww 194 rfl), rfl, hnm⟩) (hww 68 rfl) 1 (by decide) rfl rfl (ty := (.array .int)) (by decide) rfl rfl N1566 ge_a1 Z1581 k1584 (H 68 rfl) rfl
   have F1586 := F1578.other W1585 (nG Fk0.lt (Nat.le_of_eq g108.symm))
   have F1587 := F1579.wr W1585 ge_a1
   have F1588 := F1580.other W1585 (nG F1377.lt Zx1385_0)
   have F1589 := V1583.other W1585 (nG F1567.lt (Nat.le_of_eq g1574.symm))
   have F1590 := Y1574.wr W1585
   have K1591 := kw K1582 W1585 0 rfl
   have k1592 := f_ic X1585 hx k1585 (H 69 rfl) (v := 0) rfl
   have k1593 := f_is X1585 hx k1592 (H 70 rfl) (l' := #[sr a1, sr ls, sr mp, sr br, si 3, sr b1385, si 0]) (st6 S6)
   have k1594 := f_il X1585 hx k1593 (H 71 rfl) rfl
   have k1595 := f_il X1585 hx k1594 (H 72 rfl) rfl
   have k1596 := f_icN X1585 hx k1595 (H 73 rfl) (tlt (by decide)).2.1
   have k1597 := f_alN X1585 hx k1596 (H 75 rfl) rfl
   obtain ⟨T1598, X1598, e1598, k1599⟩ := gFs X1585 hx hZ hown (hww 193 rfl) e1585 (B1585.g 1 (v := (.ref b1574)) (by decide) rfl rfl) k1597 (H 76 rfl)
   have k1600 := f_il X1598 hx k1599 (H 77 rfl) rfl
   have k1601 := f_al X1598 hx k1600 (H 78 rfl) rfl
   have k1602 := f_il X1598 hx k1601 (H 79 rfl) rfl
   have k1603 := f_ic X1598 hx k1602 (H 80 rfl) (v := 1) rfl
   have k1604 := f_isub X1598 hx k1603 (H 81 rfl) (r := 2) (by decide)
   have k1605 := f_il X1598 hx k1604 (H 82 rfl) rfl
   have k1606 := f_isub X1598 hx k1605 (H 83 rfl) (r := 2) (by decide)
   have k1607 := f_ial X1598 hx hZ e1598 F1588 k1606 (H 84 rfl) (v := r21565) (by decide) rfl
   obtain ⟨T1608, h1608, L1608, X1608, e1608, W1608, V1608, N1608, Z1608, k1608⟩ := f_ist X1598 hx hZ e1598 F1589 N1585 g1575 Z1585 k1607 (H 85 rfl) (by decide) 0 rfl (lt_b rfl)
   have F1609 := F1586.other W1608 (nL F1568.lt (Nat.le_of_eq g1574.symm))
   have F1610 := F1587.wr W1608 g1575
   have F1611 := F1588.other W1608 (nL R1565_0.lt (Nat.le_of_eq g1574.symm))
   have F1612 := F1590.wr W1608
   have K1613 := K1591.wr W1608 (Or.inr z1576)
   have B1614 := B1585.other W1608 (nL F1567.lt (Nat.le_of_eq g1574.symm))
   have k1615 := f_inc X1608 hx k1608 (H 86 rfl) rfl (l' := #[sr a1, sr ls, sr mp, sr br, si 3, sr b1385, si 1]) rfl
   have k1616 := f_go X1608 hx k1615 (H 87 rfl) (pc' := 165) (by decide)
   have k1617 := f_il X1608 hx k1616 (H 71 rfl) rfl
   have k1618 := f_il X1608 hx k1617 (H 72 rfl) rfl
   have k1619 := f_icN X1608 hx k1618 (H 73 rfl) (tlt (by decide)).2.1
   have k1620 := f_alN X1608 hx k1619 (H 75 rfl) rfl
   obtain ⟨T1621, X1621, e1621, k1622⟩ := gFs X1608 hx hZ hown (hww 193 rfl) e1608 (B1614.g 1 (v := (.ref b1574)) (by decide) rfl rfl) k1620 (H 76 rfl)
   have k1623 := f_il X1621 hx k1622 (H 77 rfl) rfl
   have k1624 := f_al X1621 hx k1623 (H 78 rfl) rfl
   have k1625 := f_il X1621 hx k1624 (H 79 rfl) rfl
   have k1626 := f_ic X1621 hx k1625 (H 80 rfl) (v := 1) rfl
   have k1627 := f_isub X1621 hx k1626 (H 81 rfl) (r := 2) (by decide)
   have k1628 := f_il X1621 hx k1627 (H 82 rfl) rfl
   have k1629 := f_isub X1621 hx k1628 (H 83 rfl) (r := 1) (by decide)
   have k1630 := f_ial X1621 hx hZ e1621 F1611 k1629 (H 84 rfl) (v := r11565) (by decide) rfl
   obtain ⟨T1631, h1631, L1631, X1631, e1631, W1631, V1631, N1631, Z1631, k1631⟩ := f_ist X1621 hx hZ e1621 V1608 N1608 g1575 Z1608 k1630 (H 85 rfl) (by decide) 1 rfl (lt_b rfl)
   have F1632 := F1609.other W1631 (nL F1568.lt (Nat.le_of_eq g1574.symm))
   have F1633 := F1610.wr W1631 g1575
   have F1634 := F1611.other W1631 (nL R1565_0.lt (Nat.le_of_eq g1574.symm))
   have F1635 := F1612.wr W1631
   have K1636 := K1613.wr W1631 (Or.inr z1576)
   have B1637 := B1614.other W1631 (nL F1567.lt (Nat.le_of_eq g1574.symm))
   have k1638 := f_inc X1631 hx k1631 (H 86 rfl) rfl (l' := #[sr a1, sr ls, sr mp, sr br, si 3, sr b1385, si 2]) rfl
   have k1639 := f_go X1631 hx k1638 (H 87 rfl) (pc' := 165) (by decide)
   have k1640 := f_il X1631 hx k1639 (H 71 rfl) rfl
   have k1641 := f_il X1631 hx k1640 (H 72 rfl) rfl
   have k1642 := f_icN X1631 hx k1641 (H 73 rfl) (tlt (by decide)).2.1
   have k1643 := f_alN X1631 hx k1642 (H 75 rfl) rfl
   obtain ⟨T1644, X1644, e1644, k1645⟩ := gFs X1631 hx hZ hown (hww 193 rfl) e1631 (B1637.g 1 (v := (.ref b1574)) (by decide) rfl rfl) k1643 (H 76 rfl)
   have k1646 := f_il X1644 hx k1645 (H 77 rfl) rfl
   have k1647 := f_al X1644 hx k1646 (H 78 rfl) rfl
   have k1648 := f_il X1644 hx k1647 (H 79 rfl) rfl
   have k1649 := f_ic X1644 hx k1648 (H 80 rfl) (v := 1) rfl
   have k1650 := f_isub X1644 hx k1649 (H 81 rfl) (r := 2) (by decide)
   have k1651 := f_il X1644 hx k1650 (H 82 rfl) rfl
   have k1652 := f_isub X1644 hx k1651 (H 83 rfl) (r := 0) (by decide)
   have k1653 := f_ial X1644 hx hZ e1644 F1634 k1652 (H 84 rfl) (v := r01565) (by decide) rfl
   obtain ⟨T1654, h1654, L1654, X1654, e1654, W1654, V1654, N1654, Z1654, k1654⟩ := f_ist X1644 hx hZ e1644 V1631 N1631 g1575 Z1631 k1653 (H 85 rfl) (by decide) 2 rfl (lt_b rfl)
   have F1655 := F1632.other W1654 (nL F1568.lt (Nat.le_of_eq g1574.symm))
   have F1656 := F1633.wr W1654 g1575
   have F1657 := F1634.other W1654 (nL R1565_0.lt (Nat.le_of_eq g1574.symm))
   have F1658 := F1635.wr W1654
   have K1659 := K1636.wr W1654 (Or.inr z1576)
   have B1660 := B1637.other W1654 (nL F1567.lt (Nat.le_of_eq g1574.symm))
   have k1661 := f_inc X1654 hx k1654 (H 86 rfl) rfl (l' := #[sr a1, sr ls, sr mp, sr br, si 3, sr b1385, si 3]) rfl
   have k1662 := f_go X1654 hx k1661 (H 87 rfl) (pc' := 165) (by decide)
   have k1663 := f_il X1654 hx k1662 (H 71 rfl) rfl
   have k1664 := f_il X1654 hx k1663 (H 72 rfl) rfl
   have k1665 := f_icY X1654 hx k1664 (H 73 rfl) (pc' := 195) (flt (by decide)).2.1 (by decide)
   exact fin_v X1654 hx hrt hlk k1665 (H 74 rfl) (by rw [e1654]; exact ⟨b108, k108, g0, g1, g2, b1574, rfl, N1654, K1659, B1660, F1655, hgv0, hgv1, hgv2⟩) (by decide) (by decide)
theorem ef_0_IIIII (m : MethodId) (x0 : Int32) (x1 : Int32) (x2 : Int32) (x3 : Int32) (x4 : Int32) : entryFrame m #[(.int x0), (.int x1), (.int x2), (.int x3), (.int x4)] maxLocals = mkF m 0 #[.val (.int x0), .val (.int x1), .val (.int x2), .val (.int x3), .val (.int x4), .unset, .unset, .unset, .unset, .unset, .unset, .unset, .unset, .unset, .unset, .unset, .unset, .unset, .unset, .unset, .unset, .unset] [] := by first | (simp [entryFrame, mkF, argsToLocals, Value.category, maxLocals]; done) | rfl
theorem pd__28C_29Ljava_2flang_2fString_3b : parseMethodDescriptor "(C)Ljava/lang/String;" = some ⟨[.char], some (.object "java/lang/String")⟩ := by decide +kernel
theorem pd__28Ljava_2flang_2fString_3bD_29V : parseMethodDescriptor "(Ljava/lang/String;D)V" = some ⟨[(.object "java/lang/String"), .double], none⟩ := by decide +kernel
theorem pd__28Ljava_2flang_2fObject_3b_29Z : parseMethodDescriptor "(Ljava/lang/Object;)Z" = some ⟨[(.object "java/lang/Object")], some .boolean⟩ := by decide +kernel
theorem pd__28Ljava_2futil_2fList_3bLjava_2futil_2fMap_3b_29V : parseMethodDescriptor "(Ljava/util/List;Ljava/util/Map;)V" = some ⟨[(.object "java/util/List"), (.object "java/util/Map")], none⟩ := by decide +kernel
theorem pd__28_29D : parseMethodDescriptor "()D" = some ⟨[], some .double⟩ := by decide +kernel
def Q_rm0 (Z : State) (p0 : Int32) (p1 : Int32) (p2 : Int32) (p3 : Int32) (p4 : Int32) (cs : Int32) (ca : Addr) (ce : Cell) (de : Addr) (kd : ClassId) (h0 : Heap) (n0 : Nat) (v : Option Value) (h : Heap) (L : List Loc) : Prop := v = some (.int 1) ∧ Fr n0 L
theorem pn_com_2fexample_2fmultinomial_2fmultinomial_2feval_2fJudgedRankingReciprocalRankPinLaw : plainName "com/example/multinomial/multinomial/eval/JudgedRankingReciprocalRankPinLaw" = true := by first | (simp [plainName, overriddenIn]; done) | decide +kernel
set_option maxRecDepth 65536 in
set_option maxHeartbeats 40000000 in
theorem rm0 (l : Launch) (Z : State) (a0 : Array Value) (hw : ∀ d ∈ tables_1, d.before a0 Z = true) (ws : List Jvm.Cond) (p0 : Int32) (p1 : Int32) (p2 : Int32) (p3 : Int32) (p4 : Int32) (cs : Int32) (ca : Addr) (ce : Cell) (de : Addr) (kd : ClassId) (h0 : Heap) (n0 : Nat) (Z0 : n0 ≤ h0.size) (Scs : Sta Z Z.heap "java/lang/String" "COMPACT_STRINGS" "Z" (.int cs)) (hcs : ¬ (cs = (0 : Int32))) (Shi : Sta Z Z.heap "java/lang/Integer$IntegerCache" "high" "I" (.int (127 : Int32))) (Sca : Sta Z Z.heap "java/lang/Integer$IntegerCache" "cache" "[Ljava/lang/Integer;" (.ref ca)) (Bx : Bxs Z ca ce "java/lang/Integer" "I" (256 : Int32) (fun j => .int (j - (128 : Int32)))) (Sde : Sta Z Z.heap "java/util/ArrayList" "DEFAULTCAPACITY_EMPTY_ELEMENTDATA" "[Ljava/lang/Object;" (.ref de)) (Vde : Arv Z Z.heap de kd (.object "java/lang/Object") (0 : Int32) [] .null) (O0 : Old Z n0 h0) :
  MetFree l x (head1 (Jvm.Cond.code x code maxLocals ret :: ws) room_1) (fun a U => a = #[(.int p0), (.int p1), (.int p2), (.int p3), (.int p4)] ∧ Z.Warmed39 U.vm ∧ U.heap = h0) (fun _ _ _ _ _ => True) (fun _ U o U' => ∃ v L, o = .returned v ∧ Q_rm0 Z p0 p1 p2 p3 p4 cs ca ce de kd h0 n0 v U'.heap L ∧ FrameEnd U o U' L room_1.cells room_1.slots) := by
 refine MetFree.of_bodySF (plainFor_of_name pn_com_2fexample_2fmultinomial_2fmultinomial_2feval_2fJudgedRankingReciprocalRankPinLaw) hisR ?_
 intro p e s m args below meth c s₁ Bd hml0 hP hK
 obtain ⟨rfl, hZ, hh⟩ := hP
 have hx := Bd.exec
 have hby := Bd.bytes
 have hml : c.maxLocals = 22 := hml0
 have hown : s.vm.findClass "com/example/multinomial/multinomial/eval/JudgedRankingReciprocalRankPinLaw" = some m.cls := findClass_of_methodNamed Bd.named
 have hnm := (name_of_methodNamed Bd.named Bd.method).1
 have X0 : Stand p l e room_1 s m #[(.int p0), (.int p1), (.int p2), (.int p3), (.int p4)] below meth c s₁ [] 0 0 := Stand.of_body Bd
 have e0 : s₁.heap = h0 := by rw [← hh, Bd.state]; rfl
 have N0 := Fr.nil n0
 have hww := @hvw _ _ hw
 have k0 : Rt p e below s₁ (mkF m 0 #[si p0, si p1, si p2, si p3, si p4, un, un, un, un, un, un, un, un, un, un, un, un, un, un, un, un, un] []) s₁ m #[(.int p0), (.int p1), (.int p2), (.int p3), (.int p4)] maxLocals := fun t k => castTop (ef_0_IIIII m p0 p1 p2 p3 p4) k
 have H : ∀ {pc r}, decode code pc = r → decode c.code pc = r := fun d => hb hby d
 have k101 := f_ilN X0 hx k0 (H at_0) rfl
 have k102 : Rt p e below s₁ (mkF m 3 #[si p0, si p1, si p2, si p3, si p4, un, un, un, un, un, un, un, un, un, un, un, un, un, un, un, un, un] [vI 2147483647, vI p0]) s₁ m #[(.int p0), (.int p1), (.int p2), (.int p3), (.int p4)] maxLocals := fun t k => k101 t (by
  show Sp p e below s₁ (mkF m 1 #[si p0, si p1, si p2, si p3, si p4, un, un, un, un, un, un, un, un, un, un, un, un, un, un, un, un, un] [vI p0]) _
  refine X0.ldcInt hx hown (mvT hZ (hww 0 rfl)) (g := (mkF m 1 #[si p0, si p1, si p2, si p3, si p4, un, un, un, un, un, un, un, un, un, un, un, un, un, un, un, un, un] [vI p0])) rfl (H at_1) _ ?_
  exact k)
 have k103 := f_iand X0 hx k102 (H at_3) rfl
 have k104 := f_ic X0 hx k103 (H at_4) (v := 4) rfl
 have k105 : Rt p e below s₁ (mkF m 6 #[si p0, si p1, si p2, si p3, si p4, un, un, un, un, un, un, un, un, un, un, un, un, un, un, un, un, un] [vI ((p0 &&& (2147483647 : Int32)) % (4 : Int32))]) s₁ m #[(.int p0), (.int p1), (.int p2), (.int p3), (.int p4)] maxLocals := fun t k => k104 t (by
  show Sp p e below s₁ (mkF m 5 #[si p0, si p1, si p2, si p3, si p4, un, un, un, un, un, un, un, un, un, un, un, un, un, un, un, un, un] [vI 4, vI (p0 &&& (2147483647 : Int32))]) _
  refine iremM X0 hx rfl (H at_5) rfl (by decide) ?_
  exact k)
 obtain ⟨nn, hnn⟩ : ∃ z : Int32, z = ((p0 &&& (2147483647 : Int32)) % (4 : Int32)) := ⟨_, rfl⟩
 have k106 : Rt p e below s₁ (mkF m 6 #[si p0, si p1, si p2, si p3, si p4, un, un, un, un, un, un, un, un, un, un, un, un, un, un, un, un, un] [vI nn]) s₁ m #[(.int p0), (.int p1), (.int p2), (.int p3), (.int p4)] maxLocals := fun t q => k105 t (castTop (by rw [show ((p0 &&& (2147483647 : Int32)) % (4 : Int32)) = nn from hnn.symm] <;> rfl) q)
 have hn3 := own_n3r hnn
 have k107 := f_is X0 hx k106 (H at_6) (l' := #[si p0, si p1, si p2, si p3, si p4, si nn, un, un, un, un, un, un, un, un, un, un, un, un, un, un, un, un]) rfl
 have k108 := f_bp X0 hx k107 (H at_8) (v := 97) rfl
 obtain ⟨_, T109, L109, X109, hQ109, k109⟩ := c_S (W := 0) X0 hx hZ hown (hww 1 rfl) (hww 2 rfl) (hww 3 rfl) (hww 4 rfl) (by decide) (vof l Z a0 hw [] (97 : Int32) cs h0 n0 Z0 (by decide) (by decide) Scs hcs O0) e0 (argsL := [(.int (97 : Int32))]) (rest := []) rfl (by rw [hml]; rfl) k108 rfl (H at_10) (lenOf pd__28C_29Ljava_2flang_2fString_3b rfl) (b5 rfl)
 obtain ⟨h109, e109⟩ : ∃ h', T109.heap = h' := ⟨_, rfl⟩
 rw [e109] at hQ109
 obtain ⟨a109, b109, kb109, rfl, N109q, K109, Zx109_0, Zx109_1, Nx109_0, R109_0, R109_1⟩ := hQ109
 have N110 := Fr.app N0 N109q
 have F111 := O0.keep K109 all0
 have Z112 : n0 ≤ h109.size := Nat.le_trans Z0 K109.1
 have k113 := f_as X109 hx k109 (H at_13) (l' := #[si p0, si p1, si p2, si p3, si p4, si nn, sr a109, un, un, un, un, un, un, un, un, un, un, un, un, un, un, un]) rfl
 have k114 := f_bp X109 hx k113 (H at_15) (v := 98) rfl
 obtain ⟨_, T115, L115, X115, hQ115, k115⟩ := c_S (W := 0) X109 hx hZ hown (hww 1 rfl) (hww 2 rfl) (hww 3 rfl) (hww 4 rfl) (by decide) (vof l Z a0 hw [] (98 : Int32) cs h109 n0 Z112 (by decide) (by decide) Scs hcs F111) e109 (argsL := [(.int (98 : Int32))]) (rest := []) rfl (by rw [hml]; rfl) k114 rfl (H at_17) (lenOf pd__28C_29Ljava_2flang_2fString_3b rfl) (b5 rfl)
 obtain ⟨h115, e115⟩ : ∃ h', T115.heap = h' := ⟨_, rfl⟩
 rw [e115] at hQ115
 obtain ⟨a115, b115, kb115, rfl, N115q, K115, Zx115_0, Zx115_1, Nx115_0, R115_0, R115_1⟩ := hQ115
 have N116 := Fr.app N110 N115q
 have F117 := F111.keep K115 all0
 have F118 := R109_0.keep K115 nin0
 have F119 := R109_1.keep K115 nin0
 have Z120 : n0 ≤ h115.size := Nat.le_trans Z112 K115.1
 have k121 := f_as X115 hx k115 (H at_20) (l' := #[si p0, si p1, si p2, si p3, si p4, si nn, sr a109, sr a115, un, un, un, un, un, un, un, un, un, un, un, un, un, un]) rfl
 have k122 := f_bp X115 hx k121 (H at_22) (v := 99) rfl
 obtain ⟨_, T123, L123, X123, hQ123, k123⟩ := c_S (W := 0) X115 hx hZ hown (hww 1 rfl) (hww 2 rfl) (hww 3 rfl) (hww 4 rfl) (by decide) (vof l Z a0 hw [] (99 : Int32) cs h115 n0 Z120 (by decide) (by decide) Scs hcs F117) e115 (argsL := [(.int (99 : Int32))]) (rest := []) rfl (by rw [hml]; rfl) k122 rfl (H at_24) (lenOf pd__28C_29Ljava_2flang_2fString_3b rfl) (b5 rfl)
 obtain ⟨h123, e123⟩ : ∃ h', T123.heap = h' := ⟨_, rfl⟩
 rw [e123] at hQ123
 obtain ⟨a123, b123, kb123, rfl, N123q, K123, Zx123_0, Zx123_1, Nx123_0, R123_0, R123_1⟩ := hQ123
 have N124 := Fr.app N116 N123q
 have F125 := F117.keep K123 all0
 have F126 := F118.keep K123 nin0
 have F127 := F119.keep K123 nin0
 have F128 := R115_0.keep K123 nin0
 have F129 := R115_1.keep K123 nin0
 have Z130 : n0 ≤ h123.size := Nat.le_trans Z120 K123.1
 have k131 := f_as X123 hx k123 (H at_27) (l' := #[si p0, si p1, si p2, si p3, si p4, si nn, sr a109, sr a115, sr a123, un, un, un, un, un, un, un, un, un, un, un, un, un]) rfl
 have k132 := f_il X123 hx k131 (H at_29) rfl
 have k133 := f_ic X123 hx k132 (H at_31) (v := 1) rfl
 have k134 := f_iand X123 hx k133 (H at_32) rfl
 obtain ⟨i136, hi136⟩ : ∃ z : Int32, z = (if (p4 &&& (1 : Int32)) = (0 : Int32) then (0 : Int32) else (1 : Int32)) := ⟨_, rfl⟩
 have k137 : Rt p e below T123 (mkF m 41 #[si p0, si p1, si p2, si p3, si p4, si nn, sr a109, sr a115, sr a123, un, un, un, un, un, un, un, un, un, un, un, un, un] [vI i136]) s₁ m #[(.int p0), (.int p1), (.int p2), (.int p3), (.int p4)] maxLocals := fun t k => k134 t (by
  by_cases c135 : (p4 &&& (1 : Int32)) = (0 : Int32)
  · rw [if_pos c135] at hi136
    show Sp p e below T123 (mkF m 33 #[si p0, si p1, si p2, si p3, si p4, si nn, sr a109, sr a115, sr a123, un, un, un, un, un, un, un, un, un, un, un, un, un] [vI (p4 &&& (1 : Int32))]) _
    refine XS.ifYes X123.here hx rfl (pc0 := 33) (pc' := 40) rfl (hb hby at_33) rfl ((if0 _ _).trans (teq c135).1) (by decide) (by decide) ?_
    refine XS.iconst X123.here hx rfl (hb hby at_40) ?_
    show Sp p e below T123 (mkF m 41 #[si p0, si p1, si p2, si p3, si p4, si nn, sr a109, sr a115, sr a123, un, un, un, un, un, un, un, un, un, un, un, un, un] [vI 0]) _
    exact castTop (by rw [hi136]) k
  · rw [if_neg c135] at hi136
    show Sp p e below T123 (mkF m 33 #[si p0, si p1, si p2, si p3, si p4, si nn, sr a109, sr a115, sr a123, un, un, un, un, un, un, un, un, un, un, un, un, un] [vI (p4 &&& (1 : Int32))]) _
    refine XS.ifNo X123.here hx rfl (hb hby at_33) rfl ((if0 _ _).trans (feq c135).1) ?_
    refine XS.iconst X123.here hx rfl (hb hby at_36) ?_
    refine XS.goto X123.here hx rfl (pc0 := 37) (pc' := 41) rfl (hb hby at_37) (by decide) (by decide) ?_
    show Sp p e below T123 (mkF m 41 #[si p0, si p1, si p2, si p3, si p4, si nn, sr a109, sr a115, sr a123, un, un, un, un, un, un, un, un, un, un, un, un, un] [vI 1]) _
    exact castTop (by rw [hi136]) k)
 have k138 := f_is X123 hx k137 (H at_41) (l' := #[si p0, si p1, si p2, si p3, si p4, si nn, sr a109, sr a115, sr a123, si i136, un, un, un, un, un, un, un, un, un, un, un, un]) rfl
 have k139 := f_il X123 hx k138 (H at_43) rfl
 have k140 := f_ic X123 hx k139 (H at_45) (v := 2) rfl
 have k141 := f_iand X123 hx k140 (H at_46) rfl
 obtain ⟨i143, hi143⟩ : ∃ z : Int32, z = (if (p4 &&& (2 : Int32)) = (0 : Int32) then (0 : Int32) else (1 : Int32)) := ⟨_, rfl⟩
 have k144 : Rt p e below T123 (mkF m 55 #[si p0, si p1, si p2, si p3, si p4, si nn, sr a109, sr a115, sr a123, si i136, un, un, un, un, un, un, un, un, un, un, un, un] [vI i143]) s₁ m #[(.int p0), (.int p1), (.int p2), (.int p3), (.int p4)] maxLocals := fun t k => k141 t (by
  by_cases c142 : (p4 &&& (2 : Int32)) = (0 : Int32)
  · rw [if_pos c142] at hi143
    show Sp p e below T123 (mkF m 47 #[si p0, si p1, si p2, si p3, si p4, si nn, sr a109, sr a115, sr a123, si i136, un, un, un, un, un, un, un, un, un, un, un, un] [vI (p4 &&& (2 : Int32))]) _
    refine XS.ifYes X123.here hx rfl (pc0 := 47) (pc' := 54) rfl (hb hby at_47) rfl ((if0 _ _).trans (teq c142).1) (by decide) (by decide) ?_
    refine XS.iconst X123.here hx rfl (hb hby at_54) ?_
    show Sp p e below T123 (mkF m 55 #[si p0, si p1, si p2, si p3, si p4, si nn, sr a109, sr a115, sr a123, si i136, un, un, un, un, un, un, un, un, un, un, un, un] [vI 0]) _
    exact castTop (by rw [hi143]) k
  · rw [if_neg c142] at hi143
    show Sp p e below T123 (mkF m 47 #[si p0, si p1, si p2, si p3, si p4, si nn, sr a109, sr a115, sr a123, si i136, un, un, un, un, un, un, un, un, un, un, un, un] [vI (p4 &&& (2 : Int32))]) _
    refine XS.ifNo X123.here hx rfl (hb hby at_47) rfl ((if0 _ _).trans (feq c142).1) ?_
    refine XS.iconst X123.here hx rfl (hb hby at_50) ?_
    refine XS.goto X123.here hx rfl (pc0 := 51) (pc' := 55) rfl (hb hby at_51) (by decide) (by decide) ?_
    show Sp p e below T123 (mkF m 55 #[si p0, si p1, si p2, si p3, si p4, si nn, sr a109, sr a115, sr a123, si i136, un, un, un, un, un, un, un, un, un, un, un, un] [vI 1]) _
    exact castTop (by rw [hi143]) k)
 have k145 := f_is X123 hx k144 (H at_55) (l' := #[si p0, si p1, si p2, si p3, si p4, si nn, sr a109, sr a115, sr a123, si i136, si i143, un, un, un, un, un, un, un, un, un, un, un]) rfl
 have k146 := f_il X123 hx k145 (H at_57) rfl
 have k147 := f_ic X123 hx k146 (H at_59) (v := 4) rfl
 have k148 := f_iand X123 hx k147 (H at_60) rfl
 obtain ⟨i150, hi150⟩ : ∃ z : Int32, z = (if (p4 &&& (4 : Int32)) = (0 : Int32) then (0 : Int32) else (1 : Int32)) := ⟨_, rfl⟩
 have k151 : Rt p e below T123 (mkF m 69 #[si p0, si p1, si p2, si p3, si p4, si nn, sr a109, sr a115, sr a123, si i136, si i143, un, un, un, un, un, un, un, un, un, un, un] [vI i150]) s₁ m #[(.int p0), (.int p1), (.int p2), (.int p3), (.int p4)] maxLocals := fun t k => k148 t (by
  by_cases c149 : (p4 &&& (4 : Int32)) = (0 : Int32)
  · rw [if_pos c149] at hi150
    show Sp p e below T123 (mkF m 61 #[si p0, si p1, si p2, si p3, si p4, si nn, sr a109, sr a115, sr a123, si i136, si i143, un, un, un, un, un, un, un, un, un, un, un] [vI (p4 &&& (4 : Int32))]) _
    refine XS.ifYes X123.here hx rfl (pc0 := 61) (pc' := 68) rfl (hb hby at_61) rfl ((if0 _ _).trans (teq c149).1) (by decide) (by decide) ?_
    refine XS.iconst X123.here hx rfl (hb hby at_68) ?_
    show Sp p e below T123 (mkF m 69 #[si p0, si p1, si p2, si p3, si p4, si nn, sr a109, sr a115, sr a123, si i136, si i143, un, un, un, un, un, un, un, un, un, un, un] [vI 0]) _
    exact castTop (by rw [hi150]) k
  · rw [if_neg c149] at hi150
    show Sp p e below T123 (mkF m 61 #[si p0, si p1, si p2, si p3, si p4, si nn, sr a109, sr a115, sr a123, si i136, si i143, un, un, un, un, un, un, un, un, un, un, un] [vI (p4 &&& (4 : Int32))]) _
    refine XS.ifNo X123.here hx rfl (hb hby at_61) rfl ((if0 _ _).trans (feq c149).1) ?_
    refine XS.iconst X123.here hx rfl (hb hby at_64) ?_
    refine XS.goto X123.here hx rfl (pc0 := 65) (pc' := 69) rfl (hb hby at_65) (by decide) (by decide) ?_
    show Sp p e below T123 (mkF m 69 #[si p0, si p1, si p2, si p3, si p4, si nn, sr a109, sr a115, sr a123, si i136, si i143, un, un, un, un, un, un, un, un, un, un, un] [vI 1]) _
    exact castTop (by rw [hi150]) k)
 have k152 := f_is X123 hx k151 (H at_69) (l' := #[si p0, si p1, si p2, si p3, si p4, si nn, sr a109, sr a115, sr a123, si i136, si i143, si i150, un, un, un, un, un, un, un, un, un, un]) rfl
 obtain ⟨T153, h153, X153, e153, E153, A153, D153, -, st153⟩ := newO X123 hx hZ hown (hww 27 rfl) (hww 28 rfl) (hww 29 rfl) e123 (g := (mkF m 71 #[si p0, si p1, si p2, si p3, si p4, si nn, sr a109, sr a115, sr a123, si i136, si i143, si i150, un, un, un, un, un, un, un, un, un, un] [])) rfl (H at_71) (by decide) (by decide)
 obtain ⟨b153, g153⟩ : ∃ z, z = h123.size := ⟨_, rfl⟩
 rw [← g153] at A153 D153 st153
 have g154 : n0 ≤ b153 := Nat.le_trans Z130 (Nat.le_of_eq g153.symm)
 have F155 := F125.ext E153
 have F156 := F126.ext E153
 have F157 := F127.ext E153
 have F158 := F128.ext E153
 have F159 := F129.ext E153
 have F160 := R123_0.ext E153
 have F161 := R123_1.ext E153
 have Z162 : n0 ≤ h153.size := Nat.le_trans Z130 E153.1
 have F163 : Fld Z h153 b153 "java/util/AbstractList" "modCount" "I" zI := D153 (Or.inl (hww 47 rfl)) (ty := .int) (by decide)
 have F164 : Fld Z h153 b153 "java/util/ArrayList" "elementData" "[Ljava/lang/Object;" .null := D153 (Or.inl (hww 50 rfl)) (ty := (.array (.object "java/lang/Object"))) (by decide)
 have F165 : Fld Z h153 b153 "java/util/ArrayList" "size" "I" zI := D153 (Or.inl (hww 84 rfl)) (ty := .int) (by decide)
 have k166 : Rt p e below T153 (mkF m 74 #[si p0, si p1, si p2, si p3, si p4, si nn, sr a109, sr a115, sr a123, si i136, si i143, si i150, un, un, un, un, un, un, un, un, un, un] [vR b153]) s₁ m #[(.int p0), (.int p1), (.int p2), (.int p3), (.int p4)] maxLocals := fun t k => k152 t (st153 t k)
 have B167 := mkLS A153 F163 F164 F165
 have k168 := f_dup X153 hx k166 (H at_74) rfl
 obtain ⟨_, T169, L169, X169, hQ169, k169⟩ := c_N (W := 1) X153 hx hZ hown (hww 30 rfl) (hww 31 rfl) (hww 32 rfl) (hww 29 rfl) rfl (by decide) (ali l Z a0 hw [] b153 de h153 n0 Z162 B167 g154 Sde F155) e153 (argsL := []) (rest := [(.ref b153)]) rfl (by rw [hml]; rfl) k168 rfl (H at_75) (lenOf pd__28_29V rfl) (b5 rfl)
 obtain ⟨h169, e169⟩ : ∃ h', T169.heap = h' := ⟨_, rfl⟩
 rw [e169] at hQ169
 obtain ⟨rfl, N169q, K169, R169_0⟩ := hQ169
 have N170 := Fr.app N124 N169q
 have F171 := F155.keep K169 (allS g154 all0)
 have F172 := F156.keep K169 (ninS (nL F126.lt (Nat.le_of_eq g153.symm)) nin0)
 have F173 := F157.keep K169 (ninS (nL F127.lt (Nat.le_of_eq g153.symm)) nin0)
 have F174 := F158.keep K169 (ninS (nL F128.lt (Nat.le_of_eq g153.symm)) nin0)
 have F175 := F159.keep K169 (ninS (nL F129.lt (Nat.le_of_eq g153.symm)) nin0)
 have F176 := F160.keep K169 (ninS (nL R123_0.lt (Nat.le_of_eq g153.symm)) nin0)
 have F177 := F161.keep K169 (ninS (nL R123_1.lt (Nat.le_of_eq g153.symm)) nin0)
 have Z178 : n0 ≤ h169.size := Nat.le_trans Z162 K169.1
 have k179 := f_as X169 hx k169 (H at_78) (l' := #[si p0, si p1, si p2, si p3, si p4, si nn, sr a109, sr a115, sr a123, si i136, si i143, si i150, sr b153, un, un, un, un, un, un, un, un, un]) rfl
 have k180 := f_il X169 hx k179 (H at_80) rfl
 obtain ⟨T181, h181, Ls181, lm, ev, ea, ka, w0, w1, w2, do0, do1, do2, X181, e181, N181, Zq181, F340, F341, F342, F343, F344, F345, F346, F347, LA, LD0, LD1, LD2, kq181⟩ : ∃ (T181 : State) (h181 : Heap) (Ls181 : List Loc) (lm : Int32) (ev : Value) (ea : Addr) (ka : ClassId) (w0 : Value) (w1 : Value) (w2 : Value) (do0 : Addr) (do1 : Addr) (do2 : Addr), Stand p l e room_1 s m #[(.int p0), (.int p1), (.int p2), (.int p3), (.int p4)] below meth c T181 Ls181 11 34 ∧ T181.heap = h181 ∧ Fr n0 Ls181 ∧ n0 ≤ h181.size ∧ Old Z n0 h181 ∧ OBJ Z h181 a109 "java/lang/String" lyST [(.ref b109), zI, zI, zI] ∧ Arv Z h181 b109 kb109 .byte (1 : Int32) [(.int (97 : Int32))] zI ∧ OBJ Z h181 a115 "java/lang/String" lyST [(.ref b115), zI, zI, zI] ∧ Arv Z h181 b115 kb115 .byte (1 : Int32) [(.int (98 : Int32))] zI ∧ OBJ Z h181 a123 "java/lang/String" lyST [(.ref b123), zI, zI, zI] ∧ Arv Z h181 b123 kb123 .byte (1 : Int32) [(.int (99 : Int32))] zI ∧ OBJ Z h181 b153 "java/util/ArrayList" lyLS [(.int lm), ev, (.int nn)] ∧ (((0 : Int32) < nn → ev = .ref ea ∧ Arv Z h181 ea ka (.object "java/lang/Object") (10 : Int32) [w0, w1, w2, .null, .null, .null, .null, .null, .null, .null] .null ∧ ea ≠ a109 ∧ ea ≠ a115 ∧ ea ≠ a123)) ∧ (((0 : Int32) < nn → w0 = .ref do0 ∧ OBJ Z h181 do0 "com/example/multinomial/multinomial/search/ScoredDocument" lySD [(.ref a109), (.double (0 : UInt64))] ∧ do0 ≠ a109 ∧ do0 ≠ a115 ∧ do0 ≠ a123)) ∧ (((1 : Int32) < nn → w1 = .ref do1 ∧ OBJ Z h181 do1 "com/example/multinomial/multinomial/search/ScoredDocument" lySD [(.ref a115), (.double (0 : UInt64))] ∧ do1 ≠ a109 ∧ do1 ≠ a115 ∧ do1 ≠ a123)) ∧ (((2 : Int32) < nn → w2 = .ref do2 ∧ OBJ Z h181 do2 "com/example/multinomial/multinomial/search/ScoredDocument" lySD [(.ref a123), (.double (0 : UInt64))] ∧ do2 ≠ a109 ∧ do2 ≠ a115 ∧ do2 ≠ a123)) ∧ (Rt p e below T181 (mkF m 145 #[si p0, si p1, si p2, si p3, si p4, si nn, sr a109, sr a115, sr a123, si i136, si i143, si i150, sr b153, un, un, un, un, un, un, un, un, un] []) s₁ m #[(.int p0), (.int p1), (.int p2), (.int p3), (.int p4)] maxLocals) := by
  by_cases l0 : (0 : Int32) < nn
  · have k182 := f_ifN X169 hx k180 (H at_82) ((if0 _ _).trans (tlt l0).2.2.2)
    have k183 := f_al X169 hx k182 (H at_85) rfl
    obtain ⟨T184, h184, X184, e184, E184, A184, D184, -, st184⟩ := newO X169 hx hZ hown (hww 200 rfl) (hww 201 rfl) (hww 202 rfl) e169 (g := (mkF m 87 #[si p0, si p1, si p2, si p3, si p4, si nn, sr a109, sr a115, sr a123, si i136, si i143, si i150, sr b153, un, un, un, un, un, un, un, un, un] [vR b153])) rfl (H at_87) (by decide) (by decide)
    obtain ⟨b184, g184⟩ : ∃ z, z = h169.size := ⟨_, rfl⟩
    rw [← g184] at A184 D184 st184
    have g185 : n0 ≤ b184 := Nat.le_trans Z178 (Nat.le_of_eq g184.symm)
    have F186 := F171.ext E184
    have F187 := F172.ext E184
    have F188 := F173.ext E184
    have F189 := F174.ext E184
    have F190 := F175.ext E184
    have F191 := F176.ext E184
    have F192 := F177.ext E184
    have F193 := R169_0.ext E184
    have Z194 : n0 ≤ h184.size := Nat.le_trans Z178 E184.1
    have F195 : Fld Z h184 b184 "com/example/multinomial/multinomial/search/ScoredDocument" "id" "Ljava/lang/String;" .null := D184 (Or.inr (hww 208 rfl)) (ty := (.object "java/lang/String")) (by decide)
    have F196 : Fld Z h184 b184 "com/example/multinomial/multinomial/search/ScoredDocument" "score" "D" (.double (0 : UInt64)) := D184 (Or.inr (hww 210 rfl)) (ty := .double) (by decide)
    have k197 : Rt p e below T184 (mkF m 90 #[si p0, si p1, si p2, si p3, si p4, si nn, sr a109, sr a115, sr a123, si i136, si i143, si i150, sr b153, un, un, un, un, un, un, un, un, un] [vR b184, vR b153]) s₁ m #[(.int p0), (.int p1), (.int p2), (.int p3), (.int p4)] maxLocals := fun t k => k183 t (st184 t k)
    have B198 := mkSD A184 F195 F196
    have k199 := f_dup X184 hx k197 (H at_90) rfl
    have k200 := f_al X184 hx k199 (H at_91) rfl
    have k201 := f_d0 X184 hx k200 (H at_93)
    obtain ⟨_, T202, L202, X202, hQ202, k202⟩ := c_N (W := 2) X184 hx hZ hown (hww 203 rfl) (hww 204 rfl) (hww 205 rfl) (hww 202 rfl) rfl (by decide) (sdi l Z a0 hw [] b184 a109 (0 : UInt64) h184 n0 Z194 B198 g185) e184 (argsL := [(.ref a109), (.double (0 : UInt64))]) (rest := [(.ref b184), (.ref b153)]) rfl (by rw [hml]; rfl) k201 rfl (H at_94) (lenOf pd__28Ljava_2flang_2fString_3bD_29V rfl) (b5 rfl)
    obtain ⟨h202, e202⟩ : ∃ h', T202.heap = h' := ⟨_, rfl⟩
    rw [e202] at hQ202
    obtain ⟨rfl, N202q, K202, R202_0⟩ := hQ202
    have N203 := Fr.app N170 N202q
    have F204 := F186.keep K202 (allS g185 all0)
    have F205 := F187.keep K202 (ninS (nL F172.lt (Nat.le_of_eq g184.symm)) nin0)
    have F206 := F188.keep K202 (ninS (nL F173.lt (Nat.le_of_eq g184.symm)) nin0)
    have F207 := F189.keep K202 (ninS (nL F174.lt (Nat.le_of_eq g184.symm)) nin0)
    have F208 := F190.keep K202 (ninS (nL F175.lt (Nat.le_of_eq g184.symm)) nin0)
    have F209 := F191.keep K202 (ninS (nL F176.lt (Nat.le_of_eq g184.symm)) nin0)
    have F210 := F192.keep K202 (ninS (nL F177.lt (Nat.le_of_eq g184.symm)) nin0)
    have F211 := F193.keep K202 (ninS (nL R169_0.lt (Nat.le_of_eq g184.symm)) nin0)
    have Z212 : n0 ≤ h202.size := Nat.le_trans Z194 K202.1
    obtain ⟨_, T213, L213, X213, hQ213, k213⟩ := c_V (W := 0) (x := mn24) X202 hx hZ hown (hww 211 rfl) (hww 212 rfl) (notFace_of_selects (args := #[]) (mvT hZ (hww 214 rfl))) (hww 214 rfl) (hww 213 rfl) (hww 215 rfl) (hww 29 rfl) (by decide) F211.1 (add0f l Z a0 hw [] b153 b184 (0 : Int32) de kd h202 n0 Z212 F211 R202_0.1 g154 (nG R169_0.lt (Nat.le_of_eq g184.symm)) Sde Vde F204) e202 (argsL := [(.ref b184)]) (rest := []) rfl (by rw [hml]; rfl) k202 rfl (H at_97) (lenOf pd__28Ljava_2flang_2fObject_3b_29Z rfl) (b5 rfl)
    obtain ⟨h213, e213⟩ : ∃ h', T213.heap = h' := ⟨_, rfl⟩
    rw [e213] at hQ213
    obtain ⟨ea213, ka213, rfl, N213q, K213, Zx213_0, R213_0, R213_1, P213_0⟩ := hQ213
    have N214 := Fr.app N203 N213q
    have F215 := F204.keep K213 (allS g154 all0)
    have F216 := F205.keep K213 (ninS (nL F126.lt (Nat.le_of_eq g153.symm)) nin0)
    have F217 := F206.keep K213 (ninS (nL F127.lt (Nat.le_of_eq g153.symm)) nin0)
    have F218 := F207.keep K213 (ninS (nL F128.lt (Nat.le_of_eq g153.symm)) nin0)
    have F219 := F208.keep K213 (ninS (nL F129.lt (Nat.le_of_eq g153.symm)) nin0)
    have F220 := F209.keep K213 (ninS (nL R123_0.lt (Nat.le_of_eq g153.symm)) nin0)
    have F221 := F210.keep K213 (ninS (nL R123_1.lt (Nat.le_of_eq g153.symm)) nin0)
    have F222 := R202_0.keep K213 (ninS (nG R169_0.lt (Nat.le_of_eq g184.symm)) nin0)
    have Z223 : n0 ≤ h213.size := Nat.le_trans Z212 K213.1
    have k224 := f_pop X213 hx k213 (H at_100) rfl
    have k225 := f_il X213 hx k224 (H at_101) rfl
    have k226 := f_ic X213 hx k225 (H at_103) (v := 1) rfl
    by_cases l1 : (1 : Int32) < nn
    · have k227 := f_icN X213 hx k226 (H at_104) (tlt l1).2.2.2
      have k228 := f_al X213 hx k227 (H at_107) rfl
      obtain ⟨T229, h229, X229, e229, E229, A229, D229, -, st229⟩ := newO X213 hx hZ hown (hww 200 rfl) (hww 201 rfl) (hww 202 rfl) e213 (g := (mkF m 109 #[si p0, si p1, si p2, si p3, si p4, si nn, sr a109, sr a115, sr a123, si i136, si i143, si i150, sr b153, un, un, un, un, un, un, un, un, un] [vR b153])) rfl (H at_109) (by decide) (by decide)
      obtain ⟨b229, g229⟩ : ∃ z, z = h213.size := ⟨_, rfl⟩
      rw [← g229] at A229 D229 st229
      have g230 : n0 ≤ b229 := Nat.le_trans Z223 (Nat.le_of_eq g229.symm)
      have F231 := F215.ext E229
      have F232 := F216.ext E229
      have F233 := F217.ext E229
      have F234 := F218.ext E229
      have F235 := F219.ext E229
      have F236 := F220.ext E229
      have F237 := F221.ext E229
      have F238 := F222.ext E229
      have F239 := R213_0.ext E229
      have F240 := R213_1.ext E229
      have Z241 : n0 ≤ h229.size := Nat.le_trans Z223 E229.1
      have F242 : Fld Z h229 b229 "com/example/multinomial/multinomial/search/ScoredDocument" "id" "Ljava/lang/String;" .null := D229 (Or.inr (hww 208 rfl)) (ty := (.object "java/lang/String")) (by decide)
      have F243 : Fld Z h229 b229 "com/example/multinomial/multinomial/search/ScoredDocument" "score" "D" (.double (0 : UInt64)) := D229 (Or.inr (hww 210 rfl)) (ty := .double) (by decide)
      have k244 : Rt p e below T229 (mkF m 112 #[si p0, si p1, si p2, si p3, si p4, si nn, sr a109, sr a115, sr a123, si i136, si i143, si i150, sr b153, un, un, un, un, un, un, un, un, un] [vR b229, vR b153]) s₁ m #[(.int p0), (.int p1), (.int p2), (.int p3), (.int p4)] maxLocals := fun t k => k228 t (st229 t k)
      have B245 := mkSD A229 F242 F243
      have k246 := f_dup X229 hx k244 (H at_112) rfl
      have k247 := f_al X229 hx k246 (H at_113) rfl
      have k248 := f_d0 X229 hx k247 (H at_115)
      obtain ⟨_, T249, L249, X249, hQ249, k249⟩ := c_N (W := 2) X229 hx hZ hown (hww 203 rfl) (hww 204 rfl) (hww 205 rfl) (hww 202 rfl) rfl (by decide) (sdi l Z a0 hw [] b229 a115 (0 : UInt64) h229 n0 Z241 B245 g230) e229 (argsL := [(.ref a115), (.double (0 : UInt64))]) (rest := [(.ref b229), (.ref b153)]) rfl (by rw [hml]; rfl) k248 rfl (H at_116) (lenOf pd__28Ljava_2flang_2fString_3bD_29V rfl) (b5 rfl)
      obtain ⟨h249, e249⟩ : ∃ h', T249.heap = h' := ⟨_, rfl⟩
      rw [e249] at hQ249
      obtain ⟨rfl, N249q, K249, R249_0⟩ := hQ249
      have N250 := Fr.app N214 N249q
      have F251 := F231.keep K249 (allS g230 all0)
      have F252 := F232.keep K249 (ninS (nL F216.lt (Nat.le_of_eq g229.symm)) nin0)
      have F253 := F233.keep K249 (ninS (nL F217.lt (Nat.le_of_eq g229.symm)) nin0)
      have F254 := F234.keep K249 (ninS (nL F218.lt (Nat.le_of_eq g229.symm)) nin0)
      have F255 := F235.keep K249 (ninS (nL F219.lt (Nat.le_of_eq g229.symm)) nin0)
      have F256 := F236.keep K249 (ninS (nL F220.lt (Nat.le_of_eq g229.symm)) nin0)
      have F257 := F237.keep K249 (ninS (nL F221.lt (Nat.le_of_eq g229.symm)) nin0)
      have F258 := F238.keep K249 (ninS (nL F222.lt (Nat.le_of_eq g229.symm)) nin0)
      have F259 := F239.keep K249 (ninS (nL R213_0.lt (Nat.le_of_eq g229.symm)) nin0)
      have F260 := F240.keep K249 (ninS (nL R213_1.lt (Nat.le_of_eq g229.symm)) nin0)
      have Z261 : n0 ≤ h249.size := Nat.le_trans Z241 K249.1
      obtain ⟨_, T262, L262, X262, hQ262, k262⟩ := c_V (W := 0) (x := mn24) X249 hx hZ hown (hww 211 rfl) (hww 212 rfl) (notFace_of_selects (args := #[]) (mvT hZ (hww 214 rfl))) (hww 214 rfl) (hww 213 rfl) (hww 215 rfl) (hww 29 rfl) (by decide) F259.1 (add1f l Z a0 hw [] b153 b229 ((0 : Int32) + (1 : Int32)) b184 ea213 ka213 h249 n0 Z261 F259 R249_0.1 F260 g154 (Nat.le_trans Z212 Zx213_0) (nG R213_0.lt (Nat.le_of_eq g229.symm)) (nL F211.lt Zx213_0) (nG R213_1.lt (Nat.le_of_eq g229.symm)) P213_0) e249 (argsL := [(.ref b229)]) (rest := []) rfl (by rw [hml]; rfl) k249 rfl (H at_119) (lenOf pd__28Ljava_2flang_2fObject_3b_29Z rfl) (b5 rfl)
      obtain ⟨h262, e262⟩ : ∃ h', T262.heap = h' := ⟨_, rfl⟩
      rw [e262] at hQ262
      obtain ⟨rfl, N262q, K262, R262_0, R262_1⟩ := hQ262
      have N263 := Fr.app N250 N262q
      have F264 := F251.keep K262 (allS g154 (allS (Nat.le_trans Z212 Zx213_0) all0))
      have F265 := F252.keep K262 (ninS (nL F126.lt (Nat.le_of_eq g153.symm)) (ninS (nL F205.lt Zx213_0) nin0))
      have F266 := F253.keep K262 (ninS (nL F127.lt (Nat.le_of_eq g153.symm)) (ninS (nL F206.lt Zx213_0) nin0))
      have F267 := F254.keep K262 (ninS (nL F128.lt (Nat.le_of_eq g153.symm)) (ninS (nL F207.lt Zx213_0) nin0))
      have F268 := F255.keep K262 (ninS (nL F129.lt (Nat.le_of_eq g153.symm)) (ninS (nL F208.lt Zx213_0) nin0))
      have F269 := F256.keep K262 (ninS (nL R123_0.lt (Nat.le_of_eq g153.symm)) (ninS (nL F209.lt Zx213_0) nin0))
      have F270 := F257.keep K262 (ninS (nL R123_1.lt (Nat.le_of_eq g153.symm)) (ninS (nL F210.lt Zx213_0) nin0))
      have F271 := F258.keep K262 (ninS (nG R169_0.lt (Nat.le_of_eq g184.symm)) (ninS (nL R202_0.lt Zx213_0) nin0))
      have F272 := R249_0.keep K262 (ninS (nG R213_0.lt (Nat.le_of_eq g229.symm)) (ninS (nG R213_1.lt (Nat.le_of_eq g229.symm)) nin0))
      have Z273 : n0 ≤ h262.size := Nat.le_trans Z261 K262.1
      have k274 := f_pop X262 hx k262 (H at_122) rfl
      have k275 := f_il X262 hx k274 (H at_123) rfl
      have k276 := f_ic X262 hx k275 (H at_125) (v := 2) rfl
      by_cases l2 : (2 : Int32) < nn
      · have k277 := f_icN X262 hx k276 (H at_126) (tlt l2).2.2.2
        have k278 := f_al X262 hx k277 (H at_129) rfl
        obtain ⟨T279, h279, X279, e279, E279, A279, D279, -, st279⟩ := newO X262 hx hZ hown (hww 200 rfl) (hww 201 rfl) (hww 202 rfl) e262 (g := (mkF m 131 #[si p0, si p1, si p2, si p3, si p4, si nn, sr a109, sr a115, sr a123, si i136, si i143, si i150, sr b153, un, un, un, un, un, un, un, un, un] [vR b153])) rfl (H at_131) (by decide) (by decide)
        obtain ⟨b279, g279⟩ : ∃ z, z = h262.size := ⟨_, rfl⟩
        rw [← g279] at A279 D279 st279
        have g280 : n0 ≤ b279 := Nat.le_trans Z273 (Nat.le_of_eq g279.symm)
        have F281 := F264.ext E279
        have F282 := F265.ext E279
        have F283 := F266.ext E279
        have F284 := F267.ext E279
        have F285 := F268.ext E279
        have F286 := F269.ext E279
        have F287 := F270.ext E279
        have F288 := F271.ext E279
        have F289 := F272.ext E279
        have F290 := R262_0.ext E279
        have F291 := R262_1.ext E279
        have Z292 : n0 ≤ h279.size := Nat.le_trans Z273 E279.1
        have F293 : Fld Z h279 b279 "com/example/multinomial/multinomial/search/ScoredDocument" "id" "Ljava/lang/String;" .null := D279 (Or.inr (hww 208 rfl)) (ty := (.object "java/lang/String")) (by decide)
        have F294 : Fld Z h279 b279 "com/example/multinomial/multinomial/search/ScoredDocument" "score" "D" (.double (0 : UInt64)) := D279 (Or.inr (hww 210 rfl)) (ty := .double) (by decide)
        have k295 : Rt p e below T279 (mkF m 134 #[si p0, si p1, si p2, si p3, si p4, si nn, sr a109, sr a115, sr a123, si i136, si i143, si i150, sr b153, un, un, un, un, un, un, un, un, un] [vR b279, vR b153]) s₁ m #[(.int p0), (.int p1), (.int p2), (.int p3), (.int p4)] maxLocals := fun t k => k278 t (st279 t k)
        have B296 := mkSD A279 F293 F294
        have k297 := f_dup X279 hx k295 (H at_134) rfl
        have k298 := f_al X279 hx k297 (H at_135) rfl
        have k299 := f_d0 X279 hx k298 (H at_137)
        obtain ⟨_, T300, L300, X300, hQ300, k300⟩ := c_N (W := 2) X279 hx hZ hown (hww 203 rfl) (hww 204 rfl) (hww 205 rfl) (hww 202 rfl) rfl (by decide) (sdi l Z a0 hw [] b279 a123 (0 : UInt64) h279 n0 Z292 B296 g280) e279 (argsL := [(.ref a123), (.double (0 : UInt64))]) (rest := [(.ref b279), (.ref b153)]) rfl (by rw [hml]; rfl) k299 rfl (H at_138) (lenOf pd__28Ljava_2flang_2fString_3bD_29V rfl) (b5 rfl)
        obtain ⟨h300, e300⟩ : ∃ h', T300.heap = h' := ⟨_, rfl⟩
        rw [e300] at hQ300
        obtain ⟨rfl, N300q, K300, R300_0⟩ := hQ300
        have N301 := Fr.app N263 N300q
        have F302 := F281.keep K300 (allS g280 all0)
        have F303 := F282.keep K300 (ninS (nL F265.lt (Nat.le_of_eq g279.symm)) nin0)
        have F304 := F283.keep K300 (ninS (nL F266.lt (Nat.le_of_eq g279.symm)) nin0)
        have F305 := F284.keep K300 (ninS (nL F267.lt (Nat.le_of_eq g279.symm)) nin0)
        have F306 := F285.keep K300 (ninS (nL F268.lt (Nat.le_of_eq g279.symm)) nin0)
        have F307 := F286.keep K300 (ninS (nL F269.lt (Nat.le_of_eq g279.symm)) nin0)
        have F308 := F287.keep K300 (ninS (nL F270.lt (Nat.le_of_eq g279.symm)) nin0)
        have F309 := F288.keep K300 (ninS (nL F271.lt (Nat.le_of_eq g279.symm)) nin0)
        have F310 := F289.keep K300 (ninS (nL F272.lt (Nat.le_of_eq g279.symm)) nin0)
        have F311 := F290.keep K300 (ninS (nL R262_0.lt (Nat.le_of_eq g279.symm)) nin0)
        have F312 := F291.keep K300 (ninS (nL R262_1.lt (Nat.le_of_eq g279.symm)) nin0)
        have Z313 : n0 ≤ h300.size := Nat.le_trans Z292 K300.1
        obtain ⟨_, T314, L314, X314, hQ314, k314⟩ := c_V (W := 0) (x := mn24) X300 hx hZ hown (hww 211 rfl) (hww 212 rfl) (notFace_of_selects (args := #[]) (mvT hZ (hww 214 rfl))) (hww 214 rfl) (hww 213 rfl) (hww 215 rfl) (hww 29 rfl) (by decide) F311.1 (add2f l Z a0 hw [] b153 b279 (((0 : Int32) + (1 : Int32)) + (1 : Int32)) b184 b229 ea213 ka213 h300 n0 Z313 F311 R300_0.1 F312 g154 (Nat.le_trans Z212 Zx213_0) (nG R262_0.lt (Nat.le_of_eq g279.symm)) (nL F211.lt Zx213_0) (nG R262_1.lt (Nat.le_of_eq g279.symm)) P213_0) e300 (argsL := [(.ref b279)]) (rest := []) rfl (by rw [hml]; rfl) k300 rfl (H at_141) (lenOf pd__28Ljava_2flang_2fObject_3b_29Z rfl) (b5 rfl)
        obtain ⟨h314, e314⟩ : ∃ h', T314.heap = h' := ⟨_, rfl⟩
        rw [e314] at hQ314
        obtain ⟨rfl, N314q, K314, R314_0, R314_1⟩ := hQ314
        have N315 := Fr.app N301 N314q
        have F316 := F302.keep K314 (allS g154 (allS (Nat.le_trans Z212 Zx213_0) all0))
        have F317 := F303.keep K314 (ninS (nL F126.lt (Nat.le_of_eq g153.symm)) (ninS (nL F205.lt Zx213_0) nin0))
        have F318 := F304.keep K314 (ninS (nL F127.lt (Nat.le_of_eq g153.symm)) (ninS (nL F206.lt Zx213_0) nin0))
        have F319 := F305.keep K314 (ninS (nL F128.lt (Nat.le_of_eq g153.symm)) (ninS (nL F207.lt Zx213_0) nin0))
        have F320 := F306.keep K314 (ninS (nL F129.lt (Nat.le_of_eq g153.symm)) (ninS (nL F208.lt Zx213_0) nin0))
        have F321 := F307.keep K314 (ninS (nL R123_0.lt (Nat.le_of_eq g153.symm)) (ninS (nL F209.lt Zx213_0) nin0))
        have F322 := F308.keep K314 (ninS (nL R123_1.lt (Nat.le_of_eq g153.symm)) (ninS (nL F210.lt Zx213_0) nin0))
        have F323 := F309.keep K314 (ninS (nG R169_0.lt (Nat.le_of_eq g184.symm)) (ninS (nL R202_0.lt Zx213_0) nin0))
        have F324 := F310.keep K314 (ninS (nG R213_0.lt (Nat.le_of_eq g229.symm)) (ninS (nG R213_1.lt (Nat.le_of_eq g229.symm)) nin0))
        have F325 := R300_0.keep K314 (ninS (nG R262_0.lt (Nat.le_of_eq g279.symm)) (ninS (nG R262_1.lt (Nat.le_of_eq g279.symm)) nin0))
        have Z326 : n0 ≤ h314.size := Nat.le_trans Z313 K314.1
        have k327 := f_pop X314 hx k314 (H at_144) rfl
        exact ⟨T314, h314, _, ((((0 : Int32) + (1 : Int32)) + (1 : Int32)) + (1 : Int32)), (.ref ea213), ea213, ka213, (.ref b184), (.ref b229), (.ref b279), b184, b229, b279, X314, e314, N315, Z326, F316, F317, F318, F319, F320, F321, F322, (own_lsz (own_eq3 hn3 l2) R314_0), (fun _ => ⟨rfl, R314_1, (nG F205.lt Zx213_0), (nG F207.lt Zx213_0), (nG F209.lt Zx213_0)⟩), (fun _ => ⟨rfl, F323, (nG F172.lt (Nat.le_of_eq g184.symm)), (nG F174.lt (Nat.le_of_eq g184.symm)), (nG F176.lt (Nat.le_of_eq g184.symm))⟩), (fun _ => ⟨rfl, F324, (nG F216.lt (Nat.le_of_eq g229.symm)), (nG F218.lt (Nat.le_of_eq g229.symm)), (nG F220.lt (Nat.le_of_eq g229.symm))⟩), (fun _ => ⟨rfl, F325, (nG F265.lt (Nat.le_of_eq g279.symm)), (nG F267.lt (Nat.le_of_eq g279.symm)), (nG F269.lt (Nat.le_of_eq g279.symm))⟩), k327⟩
      · have k328 := f_icY X262 hx k276 (H at_126) (pc' := 145) (flt l2).2.2.2 (by decide)
        exact ⟨T262, h262, _, (((0 : Int32) + (1 : Int32)) + (1 : Int32)), (.ref ea213), ea213, ka213, (.ref b184), (.ref b229), .null, b184, b229, 0, (X262.more (by decide) (by decide)), e262, N263, Z273, F264, F265, F266, F267, F268, F269, F270, (own_lsz (own_eq2 hn3 l1 l2) R262_0), (fun _ => ⟨rfl, R262_1, (nG F205.lt Zx213_0), (nG F207.lt Zx213_0), (nG F209.lt Zx213_0)⟩), (fun _ => ⟨rfl, F271, (nG F172.lt (Nat.le_of_eq g184.symm)), (nG F174.lt (Nat.le_of_eq g184.symm)), (nG F176.lt (Nat.le_of_eq g184.symm))⟩), (fun _ => ⟨rfl, F272, (nG F216.lt (Nat.le_of_eq g229.symm)), (nG F218.lt (Nat.le_of_eq g229.symm)), (nG F220.lt (Nat.le_of_eq g229.symm))⟩), (fun q => absurd q l2), k328⟩
    · have k329 := f_icY X213 hx k226 (H at_104) (pc' := 123) (flt l1).2.2.2 (by decide)
      have k330 := f_il X213 hx k329 (H at_123) rfl
      have k331 := f_ic X213 hx k330 (H at_125) (v := 2) rfl
      have k332 := f_icY X213 hx k331 (H at_126) (pc' := 145) (flt (own_ln12 l1)).2.2.2 (by decide)
      exact ⟨T213, h213, _, ((0 : Int32) + (1 : Int32)), (.ref ea213), ea213, ka213, (.ref b184), .null, .null, b184, 0, 0, (X213.more (by decide) (by decide)), e213, N214, Z223, F215, F216, F217, F218, F219, F220, F221, (own_lsz (own_eq1 hn3 l0 l1) R213_0), (fun _ => ⟨rfl, R213_1, (nG F205.lt Zx213_0), (nG F207.lt Zx213_0), (nG F209.lt Zx213_0)⟩), (fun _ => ⟨rfl, F222, (nG F172.lt (Nat.le_of_eq g184.symm)), (nG F174.lt (Nat.le_of_eq g184.symm)), (nG F176.lt (Nat.le_of_eq g184.symm))⟩), (fun q => absurd q l1), (fun q => absurd q (own_ln12 l1)), k332⟩
  · have k333 := f_ifY X169 hx k180 (H at_82) (pc' := 101) ((if0 _ _).trans (flt l0).2.2.2) (by decide)
    have k334 := f_il X169 hx k333 (H at_101) rfl
    have k335 := f_ic X169 hx k334 (H at_103) (v := 1) rfl
    have k336 := f_icY X169 hx k335 (H at_104) (pc' := 123) (flt (own_ln01 l0)).2.2.2 (by decide)
    have k337 := f_il X169 hx k336 (H at_123) rfl
    have k338 := f_ic X169 hx k337 (H at_125) (v := 2) rfl
    have k339 := f_icY X169 hx k338 (H at_126) (pc' := 145) (flt (own_ln02 l0)).2.2.2 (by decide)
    exact ⟨T169, h169, _, (0 : Int32), (.ref de), 0, 0, .null, .null, .null, 0, 0, 0, (X169.more (by decide) (by decide)), e169, N170, Z178, F171, F172, F173, F174, F175, F176, F177, (own_lsz (own_eq0 hn3 l0) R169_0), (fun q => absurd q l0), (fun q => absurd q l0), (fun q => absurd q (own_ln01 l0)), (fun q => absurd q (own_ln02 l0)), k339⟩
 have K1 : Keep h181 h181 [a109, a115, a123] := Keep.refl _ _
 obtain ⟨T348, h348, X348, e348, E348, A348, D348, -, st348⟩ := newO X181 hx hZ hown (hww 51 rfl) (hww 52 rfl) (hww 53 rfl) e181 (g := (mkF m 145 #[si p0, si p1, si p2, si p3, si p4, si nn, sr a109, sr a115, sr a123, si i136, si i143, si i150, sr b153, un, un, un, un, un, un, un, un, un] [])) rfl (H at_145) (by decide) (by decide)
 obtain ⟨b348, g348⟩ : ∃ z, z = h181.size := ⟨_, rfl⟩
 rw [← g348] at A348 D348 st348
 have g349 : n0 ≤ b348 := Nat.le_trans Zq181 (Nat.le_of_eq g348.symm)
 have z350 : h181.size ≤ b348 := Nat.le_trans K1.1 (Nat.le_of_eq g348.symm)
 have F351 := F340.ext E348
 have F352 := F341.ext E348
 have F353 := F342.ext E348
 have F354 := F343.ext E348
 have F355 := F344.ext E348
 have F356 := F345.ext E348
 have F357 := F346.ext E348
 have F358 := F347.ext E348
 have Z359 : n0 ≤ h348.size := Nat.le_trans Zq181 E348.1
 have K360 := K1.ext E348
 have F361 : Fld Z h348 b348 "java/util/HashMap" "loadFactor" "F" (.float (0 : UInt32)) := D348 (Or.inr (hww 66 rfl)) (ty := .float) (by decide)
 have F362 : Fld Z h348 b348 "java/util/HashMap" "size" "I" zI := D348 (Or.inl (hww 98 rfl)) (ty := .int) (by decide)
 have F363 : Fld Z h348 b348 "java/util/AbstractMap" "values" "Ljava/util/Collection;" .null := D348 (Or.inl (hww 109 rfl)) (ty := (.object "java/util/Collection")) (by decide)
 have F364 : Fld Z h348 b348 "java/util/HashMap" "modCount" "I" zI := D348 (Or.inl (hww 147 rfl)) (ty := .int) (by decide)
 have F365 : Fld Z h348 b348 "java/util/HashMap" "table" "[Ljava/util/HashMap$Node;" .null := D348 (Or.inl (hww 151 rfl)) (ty := (.array (.object "java/util/HashMap$Node"))) (by decide)
 have F366 : Fld Z h348 b348 "java/util/HashMap" "threshold" "I" zI := D348 (Or.inl (hww 285 rfl)) (ty := .int) (by decide)
 have k367 : Rt p e below T348 (mkF m 148 #[si p0, si p1, si p2, si p3, si p4, si nn, sr a109, sr a115, sr a123, si i136, si i143, si i150, sr b153, un, un, un, un, un, un, un, un, un] [vR b348]) s₁ m #[(.int p0), (.int p1), (.int p2), (.int p3), (.int p4)] maxLocals := fun t k => kq181 t (st348 t k)
 have B368 := mkMP A348 F365 F362 F364 F366 F363 F361
 have k369 := f_dup X348 hx k367 (H at_148) rfl
 obtain ⟨_, T370, L370, X370, hQ370, k370⟩ := c_N (W := 1) X348 hx hZ hown (hww 54 rfl) (hww 55 rfl) (hww 56 rfl) (hww 53 rfl) rfl (by decide) (hmi l Z a0 hw [] b348 h348 n0 Z359 B368 g349) e348 (argsL := []) (rest := [(.ref b348)]) rfl (by rw [hml]; rfl) k369 rfl (H at_149) (lenOf pd__28_29V rfl) (b5 rfl)
 obtain ⟨h370, e370⟩ : ∃ h', T370.heap = h' := ⟨_, rfl⟩
 rw [e370] at hQ370
 obtain ⟨rfl, N370q, K370, R370_0⟩ := hQ370
 have N371 := Fr.app N181 N370q
 have F372 := F351.keep K370 (allS g349 all0)
 have F373 := F352.keep K370 (ninS (nL F341.lt (Nat.le_of_eq g348.symm)) nin0)
 have F374 := F353.keep K370 (ninS (nL F342.lt (Nat.le_of_eq g348.symm)) nin0)
 have F375 := F354.keep K370 (ninS (nL F343.lt (Nat.le_of_eq g348.symm)) nin0)
 have F376 := F355.keep K370 (ninS (nL F344.lt (Nat.le_of_eq g348.symm)) nin0)
 have F377 := F356.keep K370 (ninS (nL F345.lt (Nat.le_of_eq g348.symm)) nin0)
 have F378 := F357.keep K370 (ninS (nL F346.lt (Nat.le_of_eq g348.symm)) nin0)
 have F379 := F358.keep K370 (ninS (nL F347.lt (Nat.le_of_eq g348.symm)) nin0)
 have Z380 : n0 ≤ h370.size := Nat.le_trans Z359 K370.1
 have K381 := Keep.trans K360 K370 (allS (Or.inr z350) all0)
 have k382 := f_as X370 hx k370 (H at_152) (l' := #[si p0, si p1, si p2, si p3, si p4, si nn, sr a109, sr a115, sr a123, si i136, si i143, si i150, sr b153, sr b348, un, un, un, un, un, un, un, un]) rfl
 have k383 := f_il X370 hx k382 (H at_154) rfl
 obtain ⟨T384, h384, Ls384, ja, bg, kg, g0, g1, g2, bi, X384, e384, N384, Zq384, F862, F863, hgj0, hgj1, hgj2, kq384⟩ : ∃ (T384 : State) (h384 : Heap) (Ls384 : List Loc) (ja : Addr) (bg : Addr) (kg : ClassId) (g0 : Int32) (g1 : Int32) (g2 : Int32) (bi : Addr), Stand p l e room_1 s m #[(.int p0), (.int p1), (.int p2), (.int p3), (.int p4)] below meth c T384 Ls384 29 103 ∧ T384.heap = h384 ∧ Fr n0 Ls384 ∧ n0 ≤ h384.size ∧ OBJ Z h384 ja "com/example/multinomial/multinomial/eval/JudgedRanking" lyJR [(.ref bg), (.ref bi)] ∧ Arv Z h384 bg kg .int nn [(.int g0), (.int g1), (.int g2)] zI ∧ (((0 : Int32) < nn → g0 = (if i136 = (0 : Int32) then (0 : Int32) else (if p1 < (0 : Int32) then (0 : Int32) else p1)))) ∧ (((1 : Int32) < nn → g1 = (if i143 = (0 : Int32) then (0 : Int32) else (if p2 < (0 : Int32) then (0 : Int32) else p2)))) ∧ (((2 : Int32) < nn → g2 = (if i150 = (0 : Int32) then (0 : Int32) else (if p3 < (0 : Int32) then (0 : Int32) else p3)))) ∧ (Rt p e below T384 (mkF m 216 #[si p0, si p1, si p2, si p3, si p4, si nn, sr a109, sr a115, sr a123, si i136, si i143, si i150, sr b153, sr b348, un, un, un, un, un, un, un, un] [vR ja]) s₁ m #[(.int p0), (.int p1), (.int p2), (.int p3), (.int p4)] maxLocals) := by
  by_cases z0 : i136 = (0 : Int32)
  · have k385 := f_ifY X370 hx k383 (H at_156) (pc' := 171) ((if0 _ _).trans (teq z0).1) (by decide)
    have k386 := f_il X370 hx k385 (H at_171) rfl
    by_cases z1 : i143 = (0 : Int32)
    · have k387 := f_ifY X370 hx k386 (H at_173) (pc' := 188) ((if0 _ _).trans (teq z1).1) (by decide)
      have k388 := f_il X370 hx k387 (H at_188) rfl
      by_cases z2 : i150 = (0 : Int32)
      · have k389 := f_ifY X370 hx k388 (H at_190) (pc' := 205) ((if0 _ _).trans (teq z2).1) (by decide)
        obtain ⟨T390, h390, X390, e390, E390, A390, D390, -, st390⟩ := newO X370 hx hZ hown (hww 67 rfl) (hww 68 rfl) (hww 69 rfl) e370 (g := (mkF m 205 #[si p0, si p1, si p2, si p3, si p4, si nn, sr a109, sr a115, sr a123, si i136, si i143, si i150, sr b153, sr b348, un, un, un, un, un, un, un, un] [])) rfl (H at_205) (by decide) (by decide)
        obtain ⟨b390, g390⟩ : ∃ z, z = h370.size := ⟨_, rfl⟩
        rw [← g390] at A390 D390 st390
        have g391 : n0 ≤ b390 := Nat.le_trans Z380 (Nat.le_of_eq g390.symm)
        have z392 : h181.size ≤ b390 := Nat.le_trans K381.1 (Nat.le_of_eq g390.symm)
        have F393 := F372.ext E390
        have F394 := F373.ext E390
        have F395 := F374.ext E390
        have F396 := F375.ext E390
        have F397 := F376.ext E390
        have F398 := F377.ext E390
        have F399 := F378.ext E390
        have F400 := F379.ext E390
        have F401 := R370_0.ext E390
        have Z402 : n0 ≤ h390.size := Nat.le_trans Z380 E390.1
        have K403 := K381.ext E390
        have F404 : Fld Z h390 b390 "com/example/multinomial/multinomial/eval/JudgedRanking" "gains" "[I" .null := D390 (Or.inr (hww 87 rfl)) (ty := (.array .int)) (by decide)
        have F405 : Fld Z h390 b390 "com/example/multinomial/multinomial/eval/JudgedRanking" "idealGains" "[I" .null := D390 (Or.inr (hww 194 rfl)) (ty := (.array .int)) (by decide)
        have k406 : Rt p e below T390 (mkF m 208 #[si p0, si p1, si p2, si p3, si p4, si nn, sr a109, sr a115, sr a123, si i136, si i143, si i150, sr b153, sr b348, un, un, un, un, un, un, un, un] [vR b390]) s₁ m #[(.int p0), (.int p1), (.int p2), (.int p3), (.int p4)] maxLocals := fun t k => k389 t (st390 t k)
        have B407 := mkJR A390 F404 F405
        have k408 := f_dup X390 hx k406 (H at_208) rfl
        have k409 := f_al X390 hx k408 (H at_209) rfl
        have k410 := f_al X390 hx k409 (H at_211) rfl
        obtain ⟨_, T411, L411, X411, hQ411, k411⟩ := c_N (W := 1) X390 hx hZ hown (hww 70 rfl) (hww 71 rfl) (hww 72 rfl) (hww 69 rfl) rfl (by decide) (jri l Z a0 hw [] b390 b153 nn lm ev ea ka w0 w1 w2 do0 a109 b109 kb109 (0 : Int32) do1 a115 b115 kb115 (0 : Int32) do2 a123 b123 kb123 (0 : Int32) b348 .null (0 : Int32) (0 : Int32) (0 : Int32) 0 0 .null .null .null 0 0 p1 0 0 p2 0 0 p3 cs ca ce h390 n0 Z402 B407 F401 F394 F396 F398 g391 g349 (Nat.le_trans Z0 Zx109_0) (Nat.le_trans Z112 Zx115_0) (Nat.le_trans Z120 Zx123_0) (nG R370_0.lt (Nat.le_of_eq g390.symm)) (nG F373.lt (Nat.le_of_eq g390.symm)) (nG F341.lt (Nat.le_of_eq g348.symm)) (nG F375.lt (Nat.le_of_eq g390.symm)) (nG F343.lt (Nat.le_of_eq g348.symm)) (nG F377.lt (Nat.le_of_eq g390.symm)) (nG F345.lt (Nat.le_of_eq g348.symm)) (nL R109_0.lt Zx115_0) (nL F118.lt Zx123_0) (nL R115_0.lt Zx123_0) F400 F395 F397 F399 (ninS (nL F379.lt (Nat.le_of_eq g390.symm)) (ninS (nL F347.lt (Nat.le_of_eq g348.symm)) (ninS (nG F126.lt (Nat.le_of_eq g153.symm)) (ninS (nG F128.lt (Nat.le_of_eq g153.symm)) (ninS (nG R123_0.lt (Nat.le_of_eq g153.symm)) nin0))))) (ninS (nL F374.lt (Nat.le_of_eq g390.symm)) (ninS (nL F342.lt (Nat.le_of_eq g348.symm)) (ninS (Ne.symm Nx109_0) (ninS (nL R109_1.lt Zx115_0) (ninS (nL F119.lt Zx123_0) nin0))))) (ninS (nL F376.lt (Nat.le_of_eq g390.symm)) (ninS (nL F344.lt (Nat.le_of_eq g348.symm)) (ninS (nG R109_0.lt Zx115_1) (ninS (Ne.symm Nx115_0) (ninS (nL R115_1.lt Zx123_0) nin0))))) (ninS (nL F378.lt (Nat.le_of_eq g390.symm)) (ninS (nL F346.lt (Nat.le_of_eq g348.symm)) (ninS (nG F118.lt Zx123_1) (ninS (nG R115_0.lt Zx123_1) (ninS (Ne.symm Nx123_0) nin0))))) Scs hcs Shi Sca Bx hn3 (fun q => ⟨(LA q).1, (LA q).2.1.keep K403 (ninS (LA q).2.2.1 (ninS (LA q).2.2.2.1 (ninS (LA q).2.2.2.2 nin0))), (ninS (nL (LA q).2.1.lt z392) (ninS (nL (LA q).2.1.lt z350) (ninS (LA q).2.2.1 (ninS (LA q).2.2.2.1 (ninS (LA q).2.2.2.2 nin0)))))⟩) (fun q => ⟨(LD0 q).1, (LD0 q).2.1.keep K403 (ninS (LD0 q).2.2.1 (ninS (LD0 q).2.2.2.1 (ninS (LD0 q).2.2.2.2 nin0))), (ninS (nL (LD0 q).2.1.lt z392) (ninS (nL (LD0 q).2.1.lt z350) (ninS (LD0 q).2.2.1 (ninS (LD0 q).2.2.2.1 (ninS (LD0 q).2.2.2.2 nin0)))))⟩) (fun q => ⟨(LD1 q).1, (LD1 q).2.1.keep K403 (ninS (LD1 q).2.2.1 (ninS (LD1 q).2.2.2.1 (ninS (LD1 q).2.2.2.2 nin0))), (ninS (nL (LD1 q).2.1.lt z392) (ninS (nL (LD1 q).2.1.lt z350) (ninS (LD1 q).2.2.1 (ninS (LD1 q).2.2.2.1 (ninS (LD1 q).2.2.2.2 nin0)))))⟩) (fun q => ⟨(LD2 q).1, (LD2 q).2.1.keep K403 (ninS (LD2 q).2.2.1 (ninS (LD2 q).2.2.2.1 (ninS (LD2 q).2.2.2.2 nin0))), (ninS (nL (LD2 q).2.1.lt z392) (ninS (nL (LD2 q).2.1.lt z350) (ninS (LD2 q).2.2.1 (ninS (LD2 q).2.2.2.1 (ninS (LD2 q).2.2.2.2 nin0)))))⟩) (Or.inl ⟨rfl, rfl, rfl, rfl⟩) (show (0 : Int32) = (0 : Int32) + (0 : Int32) + (0 : Int32) by decide) (Or.inl ⟨rfl, rfl⟩) (Or.inl ⟨rfl, rfl⟩) (Or.inl ⟨rfl, rfl⟩) F393) e390 (argsL := [(.ref b153), (.ref b348)]) (rest := [(.ref b390)]) rfl (by rw [hml]; rfl) k410 rfl (H at_213) (lenOf pd__28Ljava_2futil_2fList_3bLjava_2futil_2fMap_3b_29V rfl) (b5 rfl)
        obtain ⟨h411, e411⟩ : ∃ h', T411.heap = h' := ⟨_, rfl⟩
        rw [e411] at hQ411
        obtain ⟨bg411, kg411, g0411, g1411, g2411, bi411, rfl, N411q, K411, R411_0, R411_1, P411_0, P411_1, P411_2⟩ := hQ411
        have N412 := Fr.app N371 N411q
        have Z413 : n0 ≤ h411.size := Nat.le_trans Z402 K411.1
        exact ⟨T411, h411, _, b390, bg411, kg411, g0411, g1411, g2411, bi411, (X411.more (by decide) (by decide)), e411, N412, Z413, R411_0, R411_1, (fun q => (P411_0 q).trans (if_pos z0).symm), (fun q => (P411_1 q).trans (if_pos z1).symm), (fun q => (P411_2 q).trans (if_pos z2).symm), k411⟩
      · have k414 := f_ifN X370 hx k388 (H at_190) ((if0 _ _).trans (feq z2).1)
        have k415 := f_al X370 hx k414 (H at_193) rfl
        have k416 := f_al X370 hx k415 (H at_195) rfl
        have k417 := f_ilN X370 hx k416 (H at_197) rfl
        obtain ⟨_, T418, L418, X418, hQ418, k418⟩ := c_S (W := 2) X370 hx hZ hown (hww 240 rfl) (hww 241 rfl) (hww 242 rfl) (hww 243 rfl) (by decide) (box l Z a0 hw [] p3 ca ce h370 n0 Z380 Shi Sca Bx F372) e370 (argsL := [(.int p3)]) (rest := [(.ref a123), (.ref b348)]) rfl (by rw [hml]; rfl) k417 rfl (H at_198) (lenOf pd__28I_29Ljava_2flang_2fInteger_3b rfl) (b5 rfl)
        obtain ⟨h418, e418⟩ : ∃ h', T418.heap = h' := ⟨_, rfl⟩
        rw [e418] at hQ418
        obtain ⟨b418, rfl, N418q, K418, R418_0, P418_0⟩ := hQ418
        have N419 := Fr.app N371 N418q
        have F420 := F372.keep K418 all0
        have F421 := F373.keep K418 nin0
        have F422 := F374.keep K418 nin0
        have F423 := F375.keep K418 nin0
        have F424 := F376.keep K418 nin0
        have F425 := F377.keep K418 nin0
        have F426 := F378.keep K418 nin0
        have F427 := F379.keep K418 nin0
        have F428 := R370_0.keep K418 nin0
        have Z429 : n0 ≤ h418.size := Nat.le_trans Z380 K418.1
        have K430 := Keep.trans K381 K418 all0
        obtain ⟨_, T431, L431, X431, hQ431, k431⟩ := c_V (W := 0) (x := mn36) X418 hx hZ hown (hww 247 rfl) (hww 248 rfl) (notFace_of_selects (args := #[]) (mvT hZ (hww 250 rfl))) (hww 250 rfl) (hww 249 rfl) (hww 251 rfl) (hww 53 rfl) (by decide) F428.1 (put0 l Z a0 hw [] b348 (99 : Int32) a123 b418 (3 : Int32) b123 kb123 cs h418 n0 Z429 F428 F425 F426 g349 (Nat.le_trans Z120 Zx123_0) (nG F345.lt (Nat.le_of_eq g348.symm)) Nx123_0 (nG F346.lt (Nat.le_of_eq g348.symm)) (by decide) (by decide) (by decide) Scs hcs (by decide) (by decide) F420) e418 (argsL := [(.ref a123), (.ref b418)]) (rest := []) rfl (by rw [hml]; rfl) k418 rfl (H at_201) (lenOf pd__28Ljava_2flang_2fObject_3bLjava_2flang_2fObject_3b_29Ljava_2flang_2fObject_3b rfl) (b5 rfl)
        obtain ⟨h431, e431⟩ : ∃ h', T431.heap = h' := ⟨_, rfl⟩
        rw [e431] at hQ431
        obtain ⟨nd431, tb431, kt431, rfl, N431q, K431, Zx431_0, Zx431_1, Nx431_0, R431_0, R431_1, R431_2, R431_3, R431_4, P431_0⟩ := hQ431
        have N432 := Fr.app N419 N431q
        have F433 := F420.keep K431 (allS g349 (allS (Nat.le_trans Z120 Zx123_0) all0))
        have F434 := F421.keep K431 (ninS (nL F341.lt (Nat.le_of_eq g348.symm)) (ninS (nL F118.lt Zx123_0) nin0))
        have F435 := F422.keep K431 (ninS (nL F342.lt (Nat.le_of_eq g348.symm)) (ninS (nL F119.lt Zx123_0) nin0))
        have F436 := F423.keep K431 (ninS (nL F343.lt (Nat.le_of_eq g348.symm)) (ninS (nL R115_0.lt Zx123_0) nin0))
        have F437 := F424.keep K431 (ninS (nL F344.lt (Nat.le_of_eq g348.symm)) (ninS (nL R115_1.lt Zx123_0) nin0))
        have F438 := F426.keep K431 (ninS (nL F346.lt (Nat.le_of_eq g348.symm)) (ninS (Ne.symm Nx123_0) nin0))
        have F439 := F427.keep K431 (ninS (nL F347.lt (Nat.le_of_eq g348.symm)) (ninS (nG R123_0.lt (Nat.le_of_eq g153.symm)) nin0))
        have F440 := R418_0.keep K431 (ninS (own_bxne P418_0 g349 R370_0.lt) (ninS (own_bxne P418_0 (Nat.le_trans Z120 Zx123_0) F377.lt) nin0))
        have Z441 : n0 ≤ h431.size := Nat.le_trans Z429 K431.1
        have K442 := Keep.trans K430 K431 (allS (Or.inr z350) (allS (oL 2 rfl) all0))
        have V443 : Arv Z h431 tb431 kt431 (.object "java/util/HashMap$Node") (16 : Int32) [.null, .null, .null, (.ref nd431), .null, .null, .null, .null, .null, .null, .null, .null, .null, .null, .null, .null] .null := R431_1
        have k444 := f_pop X431 hx k431 (H at_204) rfl
        obtain ⟨T445, h445, X445, e445, E445, A445, D445, -, st445⟩ := newO X431 hx hZ hown (hww 67 rfl) (hww 68 rfl) (hww 69 rfl) e431 (g := (mkF m 205 #[si p0, si p1, si p2, si p3, si p4, si nn, sr a109, sr a115, sr a123, si i136, si i143, si i150, sr b153, sr b348, un, un, un, un, un, un, un, un] [])) rfl (H at_205) (by decide) (by decide)
        obtain ⟨b445, g445⟩ : ∃ z, z = h431.size := ⟨_, rfl⟩
        rw [← g445] at A445 D445 st445
        have g446 : n0 ≤ b445 := Nat.le_trans Z441 (Nat.le_of_eq g445.symm)
        have z447 : h181.size ≤ b445 := Nat.le_trans K442.1 (Nat.le_of_eq g445.symm)
        have F448 := F433.ext E445
        have F449 := F434.ext E445
        have F450 := F435.ext E445
        have F451 := F436.ext E445
        have F452 := F437.ext E445
        have F453 := R431_4.ext E445
        have F454 := F439.ext E445
        have F455 := F440.ext E445
        have F456 := R431_0.ext E445
        have F457 := V443.ext E445
        have F458 := R431_2.ext E445
        have F459 := R431_3.ext E445
        have Z460 : n0 ≤ h445.size := Nat.le_trans Z441 E445.1
        have K461 := K442.ext E445
        have F462 : Fld Z h445 b445 "com/example/multinomial/multinomial/eval/JudgedRanking" "gains" "[I" .null := D445 (Or.inr (hww 87 rfl)) (ty := (.array .int)) (by decide)
        have F463 : Fld Z h445 b445 "com/example/multinomial/multinomial/eval/JudgedRanking" "idealGains" "[I" .null := D445 (Or.inr (hww 194 rfl)) (ty := (.array .int)) (by decide)
        have k464 : Rt p e below T445 (mkF m 208 #[si p0, si p1, si p2, si p3, si p4, si nn, sr a109, sr a115, sr a123, si i136, si i143, si i150, sr b153, sr b348, un, un, un, un, un, un, un, un] [vR b445]) s₁ m #[(.int p0), (.int p1), (.int p2), (.int p3), (.int p4)] maxLocals := fun t k => k444 t (st445 t k)
        have B465 := mkJR A445 F462 F463
        have k466 := f_dup X445 hx k464 (H at_208) rfl
        have k467 := f_al X445 hx k466 (H at_209) rfl
        have k468 := f_al X445 hx k467 (H at_211) rfl
        obtain ⟨_, T469, L469, X469, hQ469, k469⟩ := c_N (W := 1) X445 hx hZ hown (hww 70 rfl) (hww 71 rfl) (hww 72 rfl) (hww 69 rfl) rfl (by decide) (jri l Z a0 hw [] b445 b153 nn lm ev ea ka w0 w1 w2 do0 a109 b109 kb109 (0 : Int32) do1 a115 b115 kb115 (0 : Int32) do2 a123 b123 kb123 (99 : Int32) b348 (.ref tb431) (1 : Int32) (1 : Int32) (12 : Int32) tb431 kt431 .null .null (.ref nd431) 0 0 p1 0 0 p2 nd431 b418 p3 cs ca ce h445 n0 Z460 B465 F456 F449 F451 F459 g446 g349 (Nat.le_trans Z0 Zx109_0) (Nat.le_trans Z112 Zx115_0) (Nat.le_trans Z120 Zx123_0) (nG R431_0.lt (Nat.le_of_eq g445.symm)) (nG F434.lt (Nat.le_of_eq g445.symm)) (nG F341.lt (Nat.le_of_eq g348.symm)) (nG F436.lt (Nat.le_of_eq g445.symm)) (nG F343.lt (Nat.le_of_eq g348.symm)) (nG R431_3.lt (Nat.le_of_eq g445.symm)) (nG F345.lt (Nat.le_of_eq g348.symm)) (nL R109_0.lt Zx115_0) (nL F118.lt Zx123_0) (nL R115_0.lt Zx123_0) F454 F450 F452 F453 (ninS (nL F439.lt (Nat.le_of_eq g445.symm)) (ninS (nL F347.lt (Nat.le_of_eq g348.symm)) (ninS (nG F126.lt (Nat.le_of_eq g153.symm)) (ninS (nG F128.lt (Nat.le_of_eq g153.symm)) (ninS (nG R123_0.lt (Nat.le_of_eq g153.symm)) nin0))))) (ninS (nL F435.lt (Nat.le_of_eq g445.symm)) (ninS (nL F342.lt (Nat.le_of_eq g348.symm)) (ninS (Ne.symm Nx109_0) (ninS (nL R109_1.lt Zx115_0) (ninS (nL F119.lt Zx123_0) nin0))))) (ninS (nL F437.lt (Nat.le_of_eq g445.symm)) (ninS (nL F344.lt (Nat.le_of_eq g348.symm)) (ninS (nG R109_0.lt Zx115_1) (ninS (Ne.symm Nx115_0) (ninS (nL R115_1.lt Zx123_0) nin0))))) (ninS (nL R431_4.lt (Nat.le_of_eq g445.symm)) (ninS (nL F346.lt (Nat.le_of_eq g348.symm)) (ninS (nG F118.lt Zx123_1) (ninS (nG R115_0.lt Zx123_1) (ninS (Ne.symm Nx123_0) nin0))))) Scs hcs Shi Sca Bx hn3 (fun q => ⟨(LA q).1, (LA q).2.1.keep K461 (ninS (LA q).2.2.1 (ninS (LA q).2.2.2.1 (ninS (LA q).2.2.2.2 nin0))), (ninS (nL (LA q).2.1.lt z447) (ninS (nL (LA q).2.1.lt z350) (ninS (LA q).2.2.1 (ninS (LA q).2.2.2.1 (ninS (LA q).2.2.2.2 nin0)))))⟩) (fun q => ⟨(LD0 q).1, (LD0 q).2.1.keep K461 (ninS (LD0 q).2.2.1 (ninS (LD0 q).2.2.2.1 (ninS (LD0 q).2.2.2.2 nin0))), (ninS (nL (LD0 q).2.1.lt z447) (ninS (nL (LD0 q).2.1.lt z350) (ninS (LD0 q).2.2.1 (ninS (LD0 q).2.2.2.1 (ninS (LD0 q).2.2.2.2 nin0)))))⟩) (fun q => ⟨(LD1 q).1, (LD1 q).2.1.keep K461 (ninS (LD1 q).2.2.1 (ninS (LD1 q).2.2.2.1 (ninS (LD1 q).2.2.2.2 nin0))), (ninS (nL (LD1 q).2.1.lt z447) (ninS (nL (LD1 q).2.1.lt z350) (ninS (LD1 q).2.2.1 (ninS (LD1 q).2.2.2.1 (ninS (LD1 q).2.2.2.2 nin0)))))⟩) (fun q => ⟨(LD2 q).1, (LD2 q).2.1.keep K461 (ninS (LD2 q).2.2.1 (ninS (LD2 q).2.2.2.1 (ninS (LD2 q).2.2.2.2 nin0))), (ninS (nL (LD2 q).2.1.lt z447) (ninS (nL (LD2 q).2.1.lt z350) (ninS (LD2 q).2.2.1 (ninS (LD2 q).2.2.2.1 (ninS (LD2 q).2.2.2.2 nin0)))))⟩) (Or.inr ⟨rfl, (fun q => by exact absurd q.2.2 (by simp)), F457, (ninS (nL V443.lt (Nat.le_of_eq g445.symm)) (ninS (nG F428.lt Zx431_1) (ninS (nG F421.lt Zx431_1) (ninS (nG F423.lt Zx431_1) (ninS (nG F425.lt Zx431_1) nin0)))))⟩) (show (1 : Int32) = (0 : Int32) + (0 : Int32) + (1 : Int32) by decide) (Or.inl ⟨rfl, rfl⟩) (Or.inl ⟨rfl, rfl⟩) (Or.inr ⟨rfl, rfl, F458, F455, (ninS (nL R431_2.lt (Nat.le_of_eq g445.symm)) (ninS (nG F428.lt Zx431_0) (ninS (nG F421.lt Zx431_0) (ninS (nG F423.lt Zx431_0) (ninS (nG F425.lt Zx431_0) nin0))))), (ninS (nL F440.lt (Nat.le_of_eq g445.symm)) (ninS (own_bxne P418_0 g349 R370_0.lt) (ninS (own_bxne P418_0 (Nat.le_trans Z0 Zx109_0) F373.lt) (ninS (own_bxne P418_0 (Nat.le_trans Z112 Zx115_0) F375.lt) (ninS (own_bxne P418_0 (Nat.le_trans Z120 Zx123_0) F377.lt) nin0)))))⟩) F448) e445 (argsL := [(.ref b153), (.ref b348)]) (rest := [(.ref b445)]) rfl (by rw [hml]; rfl) k468 rfl (H at_213) (lenOf pd__28Ljava_2futil_2fList_3bLjava_2futil_2fMap_3b_29V rfl) (b5 rfl)
        obtain ⟨h469, e469⟩ : ∃ h', T469.heap = h' := ⟨_, rfl⟩
        rw [e469] at hQ469
        obtain ⟨bg469, kg469, g0469, g1469, g2469, bi469, rfl, N469q, K469, R469_0, R469_1, P469_0, P469_1, P469_2⟩ := hQ469
        have N470 := Fr.app N432 N469q
        have Z471 : n0 ≤ h469.size := Nat.le_trans Z460 K469.1
        exact ⟨T469, h469, _, b445, bg469, kg469, g0469, g1469, g2469, bi469, (X469.more (by decide) (by decide)), e469, N470, Z471, R469_0, R469_1, (fun q => (P469_0 q).trans (if_pos z0).symm), (fun q => (P469_1 q).trans (if_pos z1).symm), (fun q => (P469_2 q).trans (if_neg z2).symm), k469⟩
    · have k472 := f_ifN X370 hx k386 (H at_173) ((if0 _ _).trans (feq z1).1)
      have k473 := f_al X370 hx k472 (H at_176) rfl
      have k474 := f_al X370 hx k473 (H at_178) rfl
      have k475 := f_ilN X370 hx k474 (H at_180) rfl
      obtain ⟨_, T476, L476, X476, hQ476, k476⟩ := c_S (W := 2) X370 hx hZ hown (hww 240 rfl) (hww 241 rfl) (hww 242 rfl) (hww 243 rfl) (by decide) (box l Z a0 hw [] p2 ca ce h370 n0 Z380 Shi Sca Bx F372) e370 (argsL := [(.int p2)]) (rest := [(.ref a115), (.ref b348)]) rfl (by rw [hml]; rfl) k475 rfl (H at_181) (lenOf pd__28I_29Ljava_2flang_2fInteger_3b rfl) (b5 rfl)
      obtain ⟨h476, e476⟩ : ∃ h', T476.heap = h' := ⟨_, rfl⟩
      rw [e476] at hQ476
      obtain ⟨b476, rfl, N476q, K476, R476_0, P476_0⟩ := hQ476
      have N477 := Fr.app N371 N476q
      have F478 := F372.keep K476 all0
      have F479 := F373.keep K476 nin0
      have F480 := F374.keep K476 nin0
      have F481 := F375.keep K476 nin0
      have F482 := F376.keep K476 nin0
      have F483 := F377.keep K476 nin0
      have F484 := F378.keep K476 nin0
      have F485 := F379.keep K476 nin0
      have F486 := R370_0.keep K476 nin0
      have Z487 : n0 ≤ h476.size := Nat.le_trans Z380 K476.1
      have K488 := Keep.trans K381 K476 all0
      obtain ⟨_, T489, L489, X489, hQ489, k489⟩ := c_V (W := 0) (x := mn36) X476 hx hZ hown (hww 247 rfl) (hww 248 rfl) (notFace_of_selects (args := #[]) (mvT hZ (hww 250 rfl))) (hww 250 rfl) (hww 249 rfl) (hww 251 rfl) (hww 53 rfl) (by decide) F486.1 (put0 l Z a0 hw [] b348 (98 : Int32) a115 b476 (2 : Int32) b115 kb115 cs h476 n0 Z487 F486 F481 F482 g349 (Nat.le_trans Z112 Zx115_0) (nG F343.lt (Nat.le_of_eq g348.symm)) Nx115_0 (nG F344.lt (Nat.le_of_eq g348.symm)) (by decide) (by decide) (by decide) Scs hcs (by decide) (by decide) F478) e476 (argsL := [(.ref a115), (.ref b476)]) (rest := []) rfl (by rw [hml]; rfl) k476 rfl (H at_184) (lenOf pd__28Ljava_2flang_2fObject_3bLjava_2flang_2fObject_3b_29Ljava_2flang_2fObject_3b rfl) (b5 rfl)
      obtain ⟨h489, e489⟩ : ∃ h', T489.heap = h' := ⟨_, rfl⟩
      rw [e489] at hQ489
      obtain ⟨nd489, tb489, kt489, rfl, N489q, K489, Zx489_0, Zx489_1, Nx489_0, R489_0, R489_1, R489_2, R489_3, R489_4, P489_0⟩ := hQ489
      have N490 := Fr.app N477 N489q
      have F491 := F478.keep K489 (allS g349 (allS (Nat.le_trans Z112 Zx115_0) all0))
      have F492 := F479.keep K489 (ninS (nL F341.lt (Nat.le_of_eq g348.symm)) (ninS (nL R109_0.lt Zx115_0) nin0))
      have F493 := F480.keep K489 (ninS (nL F342.lt (Nat.le_of_eq g348.symm)) (ninS (nL R109_1.lt Zx115_0) nin0))
      have F494 := F482.keep K489 (ninS (nL F344.lt (Nat.le_of_eq g348.symm)) (ninS (Ne.symm Nx115_0) nin0))
      have F495 := F483.keep K489 (ninS (nL F345.lt (Nat.le_of_eq g348.symm)) (ninS (nG R115_0.lt Zx123_0) nin0))
      have F496 := F484.keep K489 (ninS (nL F346.lt (Nat.le_of_eq g348.symm)) (ninS (nG R115_0.lt Zx123_1) nin0))
      have F497 := F485.keep K489 (ninS (nL F347.lt (Nat.le_of_eq g348.symm)) (ninS (nG F128.lt (Nat.le_of_eq g153.symm)) nin0))
      have F498 := R476_0.keep K489 (ninS (own_bxne P476_0 g349 R370_0.lt) (ninS (own_bxne P476_0 (Nat.le_trans Z112 Zx115_0) F375.lt) nin0))
      have Z499 : n0 ≤ h489.size := Nat.le_trans Z487 K489.1
      have K500 := Keep.trans K488 K489 (allS (Or.inr z350) (allS (oL 1 rfl) all0))
      have V501 : Arv Z h489 tb489 kt489 (.object "java/util/HashMap$Node") (16 : Int32) [.null, .null, (.ref nd489), .null, .null, .null, .null, .null, .null, .null, .null, .null, .null, .null, .null, .null] .null := R489_1
      have k502 := f_pop X489 hx k489 (H at_187) rfl
      have k503 := f_il X489 hx k502 (H at_188) rfl
      by_cases z2 : i150 = (0 : Int32)
      · have k504 := f_ifY X489 hx k503 (H at_190) (pc' := 205) ((if0 _ _).trans (teq z2).1) (by decide)
        obtain ⟨T505, h505, X505, e505, E505, A505, D505, -, st505⟩ := newO X489 hx hZ hown (hww 67 rfl) (hww 68 rfl) (hww 69 rfl) e489 (g := (mkF m 205 #[si p0, si p1, si p2, si p3, si p4, si nn, sr a109, sr a115, sr a123, si i136, si i143, si i150, sr b153, sr b348, un, un, un, un, un, un, un, un] [])) rfl (H at_205) (by decide) (by decide)
        obtain ⟨b505, g505⟩ : ∃ z, z = h489.size := ⟨_, rfl⟩
        rw [← g505] at A505 D505 st505
        have g506 : n0 ≤ b505 := Nat.le_trans Z499 (Nat.le_of_eq g505.symm)
        have z507 : h181.size ≤ b505 := Nat.le_trans K500.1 (Nat.le_of_eq g505.symm)
        have F508 := F491.ext E505
        have F509 := F492.ext E505
        have F510 := F493.ext E505
        have F511 := R489_4.ext E505
        have F512 := F495.ext E505
        have F513 := F496.ext E505
        have F514 := F497.ext E505
        have F515 := F498.ext E505
        have F516 := R489_0.ext E505
        have F517 := V501.ext E505
        have F518 := R489_2.ext E505
        have F519 := R489_3.ext E505
        have Z520 : n0 ≤ h505.size := Nat.le_trans Z499 E505.1
        have K521 := K500.ext E505
        have F522 : Fld Z h505 b505 "com/example/multinomial/multinomial/eval/JudgedRanking" "gains" "[I" .null := D505 (Or.inr (hww 87 rfl)) (ty := (.array .int)) (by decide)
        have F523 : Fld Z h505 b505 "com/example/multinomial/multinomial/eval/JudgedRanking" "idealGains" "[I" .null := D505 (Or.inr (hww 194 rfl)) (ty := (.array .int)) (by decide)
        have k524 : Rt p e below T505 (mkF m 208 #[si p0, si p1, si p2, si p3, si p4, si nn, sr a109, sr a115, sr a123, si i136, si i143, si i150, sr b153, sr b348, un, un, un, un, un, un, un, un] [vR b505]) s₁ m #[(.int p0), (.int p1), (.int p2), (.int p3), (.int p4)] maxLocals := fun t k => k504 t (st505 t k)
        have B525 := mkJR A505 F522 F523
        have k526 := f_dup X505 hx k524 (H at_208) rfl
        have k527 := f_al X505 hx k526 (H at_209) rfl
        have k528 := f_al X505 hx k527 (H at_211) rfl
        obtain ⟨_, T529, L529, X529, hQ529, k529⟩ := c_N (W := 1) X505 hx hZ hown (hww 70 rfl) (hww 71 rfl) (hww 72 rfl) (hww 69 rfl) rfl (by decide) (jri l Z a0 hw [] b505 b153 nn lm ev ea ka w0 w1 w2 do0 a109 b109 kb109 (0 : Int32) do1 a115 b115 kb115 (98 : Int32) do2 a123 b123 kb123 (0 : Int32) b348 (.ref tb489) (1 : Int32) (1 : Int32) (12 : Int32) tb489 kt489 .null (.ref nd489) .null 0 0 p1 nd489 b476 p2 0 0 p3 cs ca ce h505 n0 Z520 B525 F516 F509 F519 F512 g506 g349 (Nat.le_trans Z0 Zx109_0) (Nat.le_trans Z112 Zx115_0) (Nat.le_trans Z120 Zx123_0) (nG R489_0.lt (Nat.le_of_eq g505.symm)) (nG F492.lt (Nat.le_of_eq g505.symm)) (nG F341.lt (Nat.le_of_eq g348.symm)) (nG R489_3.lt (Nat.le_of_eq g505.symm)) (nG F343.lt (Nat.le_of_eq g348.symm)) (nG F495.lt (Nat.le_of_eq g505.symm)) (nG F345.lt (Nat.le_of_eq g348.symm)) (nL R109_0.lt Zx115_0) (nL F118.lt Zx123_0) (nL R115_0.lt Zx123_0) F514 F510 F511 F513 (ninS (nL F497.lt (Nat.le_of_eq g505.symm)) (ninS (nL F347.lt (Nat.le_of_eq g348.symm)) (ninS (nG F126.lt (Nat.le_of_eq g153.symm)) (ninS (nG F128.lt (Nat.le_of_eq g153.symm)) (ninS (nG R123_0.lt (Nat.le_of_eq g153.symm)) nin0))))) (ninS (nL F493.lt (Nat.le_of_eq g505.symm)) (ninS (nL F342.lt (Nat.le_of_eq g348.symm)) (ninS (Ne.symm Nx109_0) (ninS (nL R109_1.lt Zx115_0) (ninS (nL F119.lt Zx123_0) nin0))))) (ninS (nL R489_4.lt (Nat.le_of_eq g505.symm)) (ninS (nL F344.lt (Nat.le_of_eq g348.symm)) (ninS (nG R109_0.lt Zx115_1) (ninS (Ne.symm Nx115_0) (ninS (nL R115_1.lt Zx123_0) nin0))))) (ninS (nL F496.lt (Nat.le_of_eq g505.symm)) (ninS (nL F346.lt (Nat.le_of_eq g348.symm)) (ninS (nG F118.lt Zx123_1) (ninS (nG R115_0.lt Zx123_1) (ninS (Ne.symm Nx123_0) nin0))))) Scs hcs Shi Sca Bx hn3 (fun q => ⟨(LA q).1, (LA q).2.1.keep K521 (ninS (LA q).2.2.1 (ninS (LA q).2.2.2.1 (ninS (LA q).2.2.2.2 nin0))), (ninS (nL (LA q).2.1.lt z507) (ninS (nL (LA q).2.1.lt z350) (ninS (LA q).2.2.1 (ninS (LA q).2.2.2.1 (ninS (LA q).2.2.2.2 nin0)))))⟩) (fun q => ⟨(LD0 q).1, (LD0 q).2.1.keep K521 (ninS (LD0 q).2.2.1 (ninS (LD0 q).2.2.2.1 (ninS (LD0 q).2.2.2.2 nin0))), (ninS (nL (LD0 q).2.1.lt z507) (ninS (nL (LD0 q).2.1.lt z350) (ninS (LD0 q).2.2.1 (ninS (LD0 q).2.2.2.1 (ninS (LD0 q).2.2.2.2 nin0)))))⟩) (fun q => ⟨(LD1 q).1, (LD1 q).2.1.keep K521 (ninS (LD1 q).2.2.1 (ninS (LD1 q).2.2.2.1 (ninS (LD1 q).2.2.2.2 nin0))), (ninS (nL (LD1 q).2.1.lt z507) (ninS (nL (LD1 q).2.1.lt z350) (ninS (LD1 q).2.2.1 (ninS (LD1 q).2.2.2.1 (ninS (LD1 q).2.2.2.2 nin0)))))⟩) (fun q => ⟨(LD2 q).1, (LD2 q).2.1.keep K521 (ninS (LD2 q).2.2.1 (ninS (LD2 q).2.2.2.1 (ninS (LD2 q).2.2.2.2 nin0))), (ninS (nL (LD2 q).2.1.lt z507) (ninS (nL (LD2 q).2.1.lt z350) (ninS (LD2 q).2.2.1 (ninS (LD2 q).2.2.2.1 (ninS (LD2 q).2.2.2.2 nin0)))))⟩) (Or.inr ⟨rfl, (fun q => by exact absurd q.2.1 (by simp)), F517, (ninS (nL V501.lt (Nat.le_of_eq g505.symm)) (ninS (nG F486.lt Zx489_1) (ninS (nG F479.lt Zx489_1) (ninS (nG F481.lt Zx489_1) (ninS (nG F483.lt Zx489_1) nin0)))))⟩) (show (1 : Int32) = (0 : Int32) + (1 : Int32) + (0 : Int32) by decide) (Or.inl ⟨rfl, rfl⟩) (Or.inr ⟨rfl, rfl, F518, F515, (ninS (nL R489_2.lt (Nat.le_of_eq g505.symm)) (ninS (nG F486.lt Zx489_0) (ninS (nG F479.lt Zx489_0) (ninS (nG F481.lt Zx489_0) (ninS (nG F483.lt Zx489_0) nin0))))), (ninS (nL F498.lt (Nat.le_of_eq g505.symm)) (ninS (own_bxne P476_0 g349 R370_0.lt) (ninS (own_bxne P476_0 (Nat.le_trans Z0 Zx109_0) F373.lt) (ninS (own_bxne P476_0 (Nat.le_trans Z112 Zx115_0) F375.lt) (ninS (own_bxne P476_0 (Nat.le_trans Z120 Zx123_0) F377.lt) nin0)))))⟩) (Or.inl ⟨rfl, rfl⟩) F508) e505 (argsL := [(.ref b153), (.ref b348)]) (rest := [(.ref b505)]) rfl (by rw [hml]; rfl) k528 rfl (H at_213) (lenOf pd__28Ljava_2futil_2fList_3bLjava_2futil_2fMap_3b_29V rfl) (b5 rfl)
        obtain ⟨h529, e529⟩ : ∃ h', T529.heap = h' := ⟨_, rfl⟩
        rw [e529] at hQ529
        obtain ⟨bg529, kg529, g0529, g1529, g2529, bi529, rfl, N529q, K529, R529_0, R529_1, P529_0, P529_1, P529_2⟩ := hQ529
        have N530 := Fr.app N490 N529q
        have Z531 : n0 ≤ h529.size := Nat.le_trans Z520 K529.1
        exact ⟨T529, h529, _, b505, bg529, kg529, g0529, g1529, g2529, bi529, (X529.more (by decide) (by decide)), e529, N530, Z531, R529_0, R529_1, (fun q => (P529_0 q).trans (if_pos z0).symm), (fun q => (P529_1 q).trans (if_neg z1).symm), (fun q => (P529_2 q).trans (if_pos z2).symm), k529⟩
      · have k532 := f_ifN X489 hx k503 (H at_190) ((if0 _ _).trans (feq z2).1)
        have k533 := f_al X489 hx k532 (H at_193) rfl
        have k534 := f_al X489 hx k533 (H at_195) rfl
        have k535 := f_ilN X489 hx k534 (H at_197) rfl
        obtain ⟨_, T536, L536, X536, hQ536, k536⟩ := c_S (W := 2) X489 hx hZ hown (hww 240 rfl) (hww 241 rfl) (hww 242 rfl) (hww 243 rfl) (by decide) (box l Z a0 hw [] p3 ca ce h489 n0 Z499 Shi Sca Bx F491) e489 (argsL := [(.int p3)]) (rest := [(.ref a123), (.ref b348)]) rfl (by rw [hml]; rfl) k535 rfl (H at_198) (lenOf pd__28I_29Ljava_2flang_2fInteger_3b rfl) (b5 rfl)
        obtain ⟨h536, e536⟩ : ∃ h', T536.heap = h' := ⟨_, rfl⟩
        rw [e536] at hQ536
        obtain ⟨b536, rfl, N536q, K536, R536_0, P536_0⟩ := hQ536
        have N537 := Fr.app N490 N536q
        have F538 := F491.keep K536 all0
        have F539 := F492.keep K536 nin0
        have F540 := F493.keep K536 nin0
        have F541 := R489_4.keep K536 nin0
        have F542 := F495.keep K536 nin0
        have F543 := F496.keep K536 nin0
        have F544 := F497.keep K536 nin0
        have F545 := F498.keep K536 nin0
        have F546 := R489_0.keep K536 nin0
        have F547 := V501.keep K536 nin0
        have F548 := R489_2.keep K536 nin0
        have F549 := R489_3.keep K536 nin0
        have Z550 : n0 ≤ h536.size := Nat.le_trans Z499 K536.1
        have K551 := Keep.trans K500 K536 all0
        obtain ⟨_, T552, L552, X552, hQ552, k552⟩ := c_V (W := 0) (x := mn36) X536 hx hZ hown (hww 247 rfl) (hww 248 rfl) (notFace_of_selects (args := #[]) (mvT hZ (hww 250 rfl))) (hww 250 rfl) (hww 249 rfl) (hww 251 rfl) (hww 53 rfl) (by decide) F546.1 (put1 l Z a0 hw [] b348 (99 : Int32) a123 b536 (3 : Int32) tb489 kt489 [.null, .null, (.ref nd489), .null, .null, .null, .null, .null, .null, .null, .null, .null, .null, .null, .null, .null] (1 : Int32) (1 : Int32) b123 kb123 cs h536 n0 Z550 F546 F547 F542 F543 g349 (Nat.le_trans Z120 Zx123_0) (Nat.le_trans Z487 Zx489_1) (nG F345.lt (Nat.le_of_eq g348.symm)) Nx123_0 (nG F346.lt (Nat.le_of_eq g348.symm)) (nL F486.lt Zx489_1) (nG F483.lt Zx489_1) (nG F484.lt Zx489_1) (by decide) (by decide) (by decide) Scs hcs (by decide) (by decide) rfl rfl P489_0 (by decide) F538) e536 (argsL := [(.ref a123), (.ref b536)]) (rest := []) rfl (by rw [hml]; rfl) k536 rfl (H at_201) (lenOf pd__28Ljava_2flang_2fObject_3bLjava_2flang_2fObject_3b_29Ljava_2flang_2fObject_3b rfl) (b5 rfl)
        obtain ⟨h552, e552⟩ : ∃ h', T552.heap = h' := ⟨_, rfl⟩
        rw [e552] at hQ552
        obtain ⟨nd552, rfl, N552q, K552, Zx552_0, R552_0, R552_1, R552_2, R552_3, R552_4⟩ := hQ552
        have N553 := Fr.app N537 N552q
        have F554 := F538.keep K552 (allS g349 (allS (Nat.le_trans Z120 Zx123_0) (allS (Nat.le_trans Z487 Zx489_1) all0)))
        have F555 := F539.keep K552 (ninS (nL F341.lt (Nat.le_of_eq g348.symm)) (ninS (nL F118.lt Zx123_0) (ninS (nL F479.lt Zx489_1) nin0)))
        have F556 := F540.keep K552 (ninS (nL F342.lt (Nat.le_of_eq g348.symm)) (ninS (nL F119.lt Zx123_0) (ninS (nL F480.lt Zx489_1) nin0)))
        have F557 := F541.keep K552 (ninS (nL F344.lt (Nat.le_of_eq g348.symm)) (ninS (nL R115_1.lt Zx123_0) (ninS (nL F482.lt Zx489_1) nin0)))
        have F558 := F543.keep K552 (ninS (nL F346.lt (Nat.le_of_eq g348.symm)) (ninS (Ne.symm Nx123_0) (ninS (nL F484.lt Zx489_1) nin0)))
        have F559 := F544.keep K552 (ninS (nL F347.lt (Nat.le_of_eq g348.symm)) (ninS (nG R123_0.lt (Nat.le_of_eq g153.symm)) (ninS (nL F485.lt Zx489_1) nin0)))
        have F560 := F545.keep K552 (ninS (own_bxne P476_0 g349 R370_0.lt) (ninS (own_bxne P476_0 (Nat.le_trans Z120 Zx123_0) F377.lt) (ninS (nL R476_0.lt Zx489_1) nin0)))
        have F561 := F548.keep K552 (ninS (nG F486.lt Zx489_0) (ninS (nG F483.lt Zx489_0) (ninS (Ne.symm Nx489_0) nin0)))
        have F562 := F549.keep K552 (ninS (nL F343.lt (Nat.le_of_eq g348.symm)) (ninS (nL R115_0.lt Zx123_0) (ninS (nL F481.lt Zx489_1) nin0)))
        have F563 := R536_0.keep K552 (ninS (own_bxne P536_0 g349 R489_0.lt) (ninS (own_bxne P536_0 (Nat.le_trans Z120 Zx123_0) F495.lt) (ninS (own_bxne P536_0 (Nat.le_trans Z487 Zx489_1) V501.lt) nin0)))
        have Z564 : n0 ≤ h552.size := Nat.le_trans Z550 K552.1
        have K565 := Keep.trans K551 K552 (allS (Or.inr z350) (allS (oL 2 rfl) (allS (Or.inr (Nat.le_trans K488.1 Zx489_1)) all0)))
        have V566 : Arv Z h552 tb489 kt489 (.object "java/util/HashMap$Node") (16 : Int32) [.null, .null, (.ref nd489), (.ref nd552), .null, .null, .null, .null, .null, .null, .null, .null, .null, .null, .null, .null] .null := R552_1
        rw [show ((1 : Int32) + (1 : Int32)) = (2 : Int32) by decide] at R552_0
        have k567 := f_pop X552 hx k552 (H at_204) rfl
        obtain ⟨T568, h568, X568, e568, E568, A568, D568, -, st568⟩ := newO X552 hx hZ hown (hww 67 rfl) (hww 68 rfl) (hww 69 rfl) e552 (g := (mkF m 205 #[si p0, si p1, si p2, si p3, si p4, si nn, sr a109, sr a115, sr a123, si i136, si i143, si i150, sr b153, sr b348, un, un, un, un, un, un, un, un] [])) rfl (H at_205) (by decide) (by decide)
        obtain ⟨b568, g568⟩ : ∃ z, z = h552.size := ⟨_, rfl⟩
        rw [← g568] at A568 D568 st568
        have g569 : n0 ≤ b568 := Nat.le_trans Z564 (Nat.le_of_eq g568.symm)
        have z570 : h181.size ≤ b568 := Nat.le_trans K565.1 (Nat.le_of_eq g568.symm)
        have F571 := F554.ext E568
        have F572 := F555.ext E568
        have F573 := F556.ext E568
        have F574 := F557.ext E568
        have F575 := R552_4.ext E568
        have F576 := F559.ext E568
        have F577 := F560.ext E568
        have F578 := F561.ext E568
        have F579 := F562.ext E568
        have F580 := F563.ext E568
        have F581 := R552_0.ext E568
        have F582 := V566.ext E568
        have F583 := R552_2.ext E568
        have F584 := R552_3.ext E568
        have Z585 : n0 ≤ h568.size := Nat.le_trans Z564 E568.1
        have K586 := K565.ext E568
        have F587 : Fld Z h568 b568 "com/example/multinomial/multinomial/eval/JudgedRanking" "gains" "[I" .null := D568 (Or.inr (hww 87 rfl)) (ty := (.array .int)) (by decide)
        have F588 : Fld Z h568 b568 "com/example/multinomial/multinomial/eval/JudgedRanking" "idealGains" "[I" .null := D568 (Or.inr (hww 194 rfl)) (ty := (.array .int)) (by decide)
        have k589 : Rt p e below T568 (mkF m 208 #[si p0, si p1, si p2, si p3, si p4, si nn, sr a109, sr a115, sr a123, si i136, si i143, si i150, sr b153, sr b348, un, un, un, un, un, un, un, un] [vR b568]) s₁ m #[(.int p0), (.int p1), (.int p2), (.int p3), (.int p4)] maxLocals := fun t k => k567 t (st568 t k)
        have B590 := mkJR A568 F587 F588
        have k591 := f_dup X568 hx k589 (H at_208) rfl
        have k592 := f_al X568 hx k591 (H at_209) rfl
        have k593 := f_al X568 hx k592 (H at_211) rfl
        obtain ⟨_, T594, L594, X594, hQ594, k594⟩ := c_N (W := 1) X568 hx hZ hown (hww 70 rfl) (hww 71 rfl) (hww 72 rfl) (hww 69 rfl) rfl (by decide) (jri l Z a0 hw [] b568 b153 nn lm ev ea ka w0 w1 w2 do0 a109 b109 kb109 (0 : Int32) do1 a115 b115 kb115 (98 : Int32) do2 a123 b123 kb123 (99 : Int32) b348 (.ref tb489) (2 : Int32) (2 : Int32) (12 : Int32) tb489 kt489 .null (.ref nd489) (.ref nd552) 0 0 p1 nd489 b476 p2 nd552 b536 p3 cs ca ce h568 n0 Z585 B590 F581 F572 F579 F584 g569 g349 (Nat.le_trans Z0 Zx109_0) (Nat.le_trans Z112 Zx115_0) (Nat.le_trans Z120 Zx123_0) (nG R552_0.lt (Nat.le_of_eq g568.symm)) (nG F555.lt (Nat.le_of_eq g568.symm)) (nG F341.lt (Nat.le_of_eq g348.symm)) (nG F562.lt (Nat.le_of_eq g568.symm)) (nG F343.lt (Nat.le_of_eq g348.symm)) (nG R552_3.lt (Nat.le_of_eq g568.symm)) (nG F345.lt (Nat.le_of_eq g348.symm)) (nL R109_0.lt Zx115_0) (nL F118.lt Zx123_0) (nL R115_0.lt Zx123_0) F576 F573 F574 F575 (ninS (nL F559.lt (Nat.le_of_eq g568.symm)) (ninS (nL F347.lt (Nat.le_of_eq g348.symm)) (ninS (nG F126.lt (Nat.le_of_eq g153.symm)) (ninS (nG F128.lt (Nat.le_of_eq g153.symm)) (ninS (nG R123_0.lt (Nat.le_of_eq g153.symm)) nin0))))) (ninS (nL F556.lt (Nat.le_of_eq g568.symm)) (ninS (nL F342.lt (Nat.le_of_eq g348.symm)) (ninS (Ne.symm Nx109_0) (ninS (nL R109_1.lt Zx115_0) (ninS (nL F119.lt Zx123_0) nin0))))) (ninS (nL F557.lt (Nat.le_of_eq g568.symm)) (ninS (nL F344.lt (Nat.le_of_eq g348.symm)) (ninS (nG R109_0.lt Zx115_1) (ninS (Ne.symm Nx115_0) (ninS (nL R115_1.lt Zx123_0) nin0))))) (ninS (nL R552_4.lt (Nat.le_of_eq g568.symm)) (ninS (nL F346.lt (Nat.le_of_eq g348.symm)) (ninS (nG F118.lt Zx123_1) (ninS (nG R115_0.lt Zx123_1) (ninS (Ne.symm Nx123_0) nin0))))) Scs hcs Shi Sca Bx hn3 (fun q => ⟨(LA q).1, (LA q).2.1.keep K586 (ninS (LA q).2.2.1 (ninS (LA q).2.2.2.1 (ninS (LA q).2.2.2.2 nin0))), (ninS (nL (LA q).2.1.lt z570) (ninS (nL (LA q).2.1.lt z350) (ninS (LA q).2.2.1 (ninS (LA q).2.2.2.1 (ninS (LA q).2.2.2.2 nin0)))))⟩) (fun q => ⟨(LD0 q).1, (LD0 q).2.1.keep K586 (ninS (LD0 q).2.2.1 (ninS (LD0 q).2.2.2.1 (ninS (LD0 q).2.2.2.2 nin0))), (ninS (nL (LD0 q).2.1.lt z570) (ninS (nL (LD0 q).2.1.lt z350) (ninS (LD0 q).2.2.1 (ninS (LD0 q).2.2.2.1 (ninS (LD0 q).2.2.2.2 nin0)))))⟩) (fun q => ⟨(LD1 q).1, (LD1 q).2.1.keep K586 (ninS (LD1 q).2.2.1 (ninS (LD1 q).2.2.2.1 (ninS (LD1 q).2.2.2.2 nin0))), (ninS (nL (LD1 q).2.1.lt z570) (ninS (nL (LD1 q).2.1.lt z350) (ninS (LD1 q).2.2.1 (ninS (LD1 q).2.2.2.1 (ninS (LD1 q).2.2.2.2 nin0)))))⟩) (fun q => ⟨(LD2 q).1, (LD2 q).2.1.keep K586 (ninS (LD2 q).2.2.1 (ninS (LD2 q).2.2.2.1 (ninS (LD2 q).2.2.2.2 nin0))), (ninS (nL (LD2 q).2.1.lt z570) (ninS (nL (LD2 q).2.1.lt z350) (ninS (LD2 q).2.2.1 (ninS (LD2 q).2.2.2.1 (ninS (LD2 q).2.2.2.2 nin0)))))⟩) (Or.inr ⟨rfl, (fun q => by exact absurd q.2.1 (by simp)), F582, (ninS (nL V566.lt (Nat.le_of_eq g568.symm)) (ninS (nG F486.lt Zx489_1) (ninS (nG F479.lt Zx489_1) (ninS (nG F481.lt Zx489_1) (ninS (nG F483.lt Zx489_1) nin0)))))⟩) (show (2 : Int32) = (0 : Int32) + (1 : Int32) + (1 : Int32) by decide) (Or.inl ⟨rfl, rfl⟩) (Or.inr ⟨rfl, rfl, F578, F577, (ninS (nL F561.lt (Nat.le_of_eq g568.symm)) (ninS (nG F486.lt Zx489_0) (ninS (nG F479.lt Zx489_0) (ninS (nG F481.lt Zx489_0) (ninS (nG F483.lt Zx489_0) nin0))))), (ninS (nL F560.lt (Nat.le_of_eq g568.symm)) (ninS (own_bxne P476_0 g349 R370_0.lt) (ninS (own_bxne P476_0 (Nat.le_trans Z0 Zx109_0) F373.lt) (ninS (own_bxne P476_0 (Nat.le_trans Z112 Zx115_0) F375.lt) (ninS (own_bxne P476_0 (Nat.le_trans Z120 Zx123_0) F377.lt) nin0)))))⟩) (Or.inr ⟨rfl, rfl, F583, F580, (ninS (nL R552_2.lt (Nat.le_of_eq g568.symm)) (ninS (nG F546.lt Zx552_0) (ninS (nG F539.lt Zx552_0) (ninS (nG F549.lt Zx552_0) (ninS (nG F542.lt Zx552_0) nin0))))), (ninS (nL F563.lt (Nat.le_of_eq g568.symm)) (ninS (own_bxne P536_0 g349 R489_0.lt) (ninS (own_bxne P536_0 (Nat.le_trans Z0 Zx109_0) F492.lt) (ninS (own_bxne P536_0 (Nat.le_trans Z112 Zx115_0) R489_3.lt) (ninS (own_bxne P536_0 (Nat.le_trans Z120 Zx123_0) F495.lt) nin0)))))⟩) F571) e568 (argsL := [(.ref b153), (.ref b348)]) (rest := [(.ref b568)]) rfl (by rw [hml]; rfl) k593 rfl (H at_213) (lenOf pd__28Ljava_2futil_2fList_3bLjava_2futil_2fMap_3b_29V rfl) (b5 rfl)
        obtain ⟨h594, e594⟩ : ∃ h', T594.heap = h' := ⟨_, rfl⟩
        rw [e594] at hQ594
        obtain ⟨bg594, kg594, g0594, g1594, g2594, bi594, rfl, N594q, K594, R594_0, R594_1, P594_0, P594_1, P594_2⟩ := hQ594
        have N595 := Fr.app N553 N594q
        have Z596 : n0 ≤ h594.size := Nat.le_trans Z585 K594.1
        exact ⟨T594, h594, _, b568, bg594, kg594, g0594, g1594, g2594, bi594, (X594.more (by decide) (by decide)), e594, N595, Z596, R594_0, R594_1, (fun q => (P594_0 q).trans (if_pos z0).symm), (fun q => (P594_1 q).trans (if_neg z1).symm), (fun q => (P594_2 q).trans (if_neg z2).symm), k594⟩
  · have k597 := f_ifN X370 hx k383 (H at_156) ((if0 _ _).trans (feq z0).1)
    have k598 := f_al X370 hx k597 (H at_159) rfl
    have k599 := f_al X370 hx k598 (H at_161) rfl
    have k600 := f_ilN X370 hx k599 (H at_163) rfl
    obtain ⟨_, T601, L601, X601, hQ601, k601⟩ := c_S (W := 2) X370 hx hZ hown (hww 240 rfl) (hww 241 rfl) (hww 242 rfl) (hww 243 rfl) (by decide) (box l Z a0 hw [] p1 ca ce h370 n0 Z380 Shi Sca Bx F372) e370 (argsL := [(.int p1)]) (rest := [(.ref a109), (.ref b348)]) rfl (by rw [hml]; rfl) k600 rfl (H at_164) (lenOf pd__28I_29Ljava_2flang_2fInteger_3b rfl) (b5 rfl)
    obtain ⟨h601, e601⟩ : ∃ h', T601.heap = h' := ⟨_, rfl⟩
    rw [e601] at hQ601
    obtain ⟨b601, rfl, N601q, K601, R601_0, P601_0⟩ := hQ601
    have N602 := Fr.app N371 N601q
    have F603 := F372.keep K601 all0
    have F604 := F373.keep K601 nin0
    have F605 := F374.keep K601 nin0
    have F606 := F375.keep K601 nin0
    have F607 := F376.keep K601 nin0
    have F608 := F377.keep K601 nin0
    have F609 := F378.keep K601 nin0
    have F610 := F379.keep K601 nin0
    have F611 := R370_0.keep K601 nin0
    have Z612 : n0 ≤ h601.size := Nat.le_trans Z380 K601.1
    have K613 := Keep.trans K381 K601 all0
    obtain ⟨_, T614, L614, X614, hQ614, k614⟩ := c_V (W := 0) (x := mn36) X601 hx hZ hown (hww 247 rfl) (hww 248 rfl) (notFace_of_selects (args := #[]) (mvT hZ (hww 250 rfl))) (hww 250 rfl) (hww 249 rfl) (hww 251 rfl) (hww 53 rfl) (by decide) F611.1 (put0 l Z a0 hw [] b348 (97 : Int32) a109 b601 (1 : Int32) b109 kb109 cs h601 n0 Z612 F611 F604 F605 g349 (Nat.le_trans Z0 Zx109_0) (nG F341.lt (Nat.le_of_eq g348.symm)) Nx109_0 (nG F342.lt (Nat.le_of_eq g348.symm)) (by decide) (by decide) (by decide) Scs hcs (by decide) (by decide) F603) e601 (argsL := [(.ref a109), (.ref b601)]) (rest := []) rfl (by rw [hml]; rfl) k601 rfl (H at_167) (lenOf pd__28Ljava_2flang_2fObject_3bLjava_2flang_2fObject_3b_29Ljava_2flang_2fObject_3b rfl) (b5 rfl)
    obtain ⟨h614, e614⟩ : ∃ h', T614.heap = h' := ⟨_, rfl⟩
    rw [e614] at hQ614
    obtain ⟨nd614, tb614, kt614, rfl, N614q, K614, Zx614_0, Zx614_1, Nx614_0, R614_0, R614_1, R614_2, R614_3, R614_4, P614_0⟩ := hQ614
    have N615 := Fr.app N602 N614q
    have F616 := F603.keep K614 (allS g349 (allS (Nat.le_trans Z0 Zx109_0) all0))
    have F617 := F605.keep K614 (ninS (nL F342.lt (Nat.le_of_eq g348.symm)) (ninS (Ne.symm Nx109_0) nin0))
    have F618 := F606.keep K614 (ninS (nL F343.lt (Nat.le_of_eq g348.symm)) (ninS (nG R109_0.lt Zx115_0) nin0))
    have F619 := F607.keep K614 (ninS (nL F344.lt (Nat.le_of_eq g348.symm)) (ninS (nG R109_0.lt Zx115_1) nin0))
    have F620 := F608.keep K614 (ninS (nL F345.lt (Nat.le_of_eq g348.symm)) (ninS (nG F118.lt Zx123_0) nin0))
    have F621 := F609.keep K614 (ninS (nL F346.lt (Nat.le_of_eq g348.symm)) (ninS (nG F118.lt Zx123_1) nin0))
    have F622 := F610.keep K614 (ninS (nL F347.lt (Nat.le_of_eq g348.symm)) (ninS (nG F126.lt (Nat.le_of_eq g153.symm)) nin0))
    have F623 := R601_0.keep K614 (ninS (own_bxne P601_0 g349 R370_0.lt) (ninS (own_bxne P601_0 (Nat.le_trans Z0 Zx109_0) F373.lt) nin0))
    have Z624 : n0 ≤ h614.size := Nat.le_trans Z612 K614.1
    have K625 := Keep.trans K613 K614 (allS (Or.inr z350) (allS (oL 0 rfl) all0))
    have V626 : Arv Z h614 tb614 kt614 (.object "java/util/HashMap$Node") (16 : Int32) [.null, (.ref nd614), .null, .null, .null, .null, .null, .null, .null, .null, .null, .null, .null, .null, .null, .null] .null := R614_1
    have k627 := f_pop X614 hx k614 (H at_170) rfl
    have k628 := f_il X614 hx k627 (H at_171) rfl
    by_cases z1 : i143 = (0 : Int32)
    · have k629 := f_ifY X614 hx k628 (H at_173) (pc' := 188) ((if0 _ _).trans (teq z1).1) (by decide)
      have k630 := f_il X614 hx k629 (H at_188) rfl
      by_cases z2 : i150 = (0 : Int32)
      · have k631 := f_ifY X614 hx k630 (H at_190) (pc' := 205) ((if0 _ _).trans (teq z2).1) (by decide)
        obtain ⟨T632, h632, X632, e632, E632, A632, D632, -, st632⟩ := newO X614 hx hZ hown (hww 67 rfl) (hww 68 rfl) (hww 69 rfl) e614 (g := (mkF m 205 #[si p0, si p1, si p2, si p3, si p4, si nn, sr a109, sr a115, sr a123, si i136, si i143, si i150, sr b153, sr b348, un, un, un, un, un, un, un, un] [])) rfl (H at_205) (by decide) (by decide)
        obtain ⟨b632, g632⟩ : ∃ z, z = h614.size := ⟨_, rfl⟩
        rw [← g632] at A632 D632 st632
        have g633 : n0 ≤ b632 := Nat.le_trans Z624 (Nat.le_of_eq g632.symm)
        have z634 : h181.size ≤ b632 := Nat.le_trans K625.1 (Nat.le_of_eq g632.symm)
        have F635 := F616.ext E632
        have F636 := R614_4.ext E632
        have F637 := F618.ext E632
        have F638 := F619.ext E632
        have F639 := F620.ext E632
        have F640 := F621.ext E632
        have F641 := F622.ext E632
        have F642 := F623.ext E632
        have F643 := R614_0.ext E632
        have F644 := V626.ext E632
        have F645 := R614_2.ext E632
        have F646 := R614_3.ext E632
        have Z647 : n0 ≤ h632.size := Nat.le_trans Z624 E632.1
        have K648 := K625.ext E632
        have F649 : Fld Z h632 b632 "com/example/multinomial/multinomial/eval/JudgedRanking" "gains" "[I" .null := D632 (Or.inr (hww 87 rfl)) (ty := (.array .int)) (by decide)
        have F650 : Fld Z h632 b632 "com/example/multinomial/multinomial/eval/JudgedRanking" "idealGains" "[I" .null := D632 (Or.inr (hww 194 rfl)) (ty := (.array .int)) (by decide)
        have k651 : Rt p e below T632 (mkF m 208 #[si p0, si p1, si p2, si p3, si p4, si nn, sr a109, sr a115, sr a123, si i136, si i143, si i150, sr b153, sr b348, un, un, un, un, un, un, un, un] [vR b632]) s₁ m #[(.int p0), (.int p1), (.int p2), (.int p3), (.int p4)] maxLocals := fun t k => k631 t (st632 t k)
        have B652 := mkJR A632 F649 F650
        have k653 := f_dup X632 hx k651 (H at_208) rfl
        have k654 := f_al X632 hx k653 (H at_209) rfl
        have k655 := f_al X632 hx k654 (H at_211) rfl
        obtain ⟨_, T656, L656, X656, hQ656, k656⟩ := c_N (W := 1) X632 hx hZ hown (hww 70 rfl) (hww 71 rfl) (hww 72 rfl) (hww 69 rfl) rfl (by decide) (jri l Z a0 hw [] b632 b153 nn lm ev ea ka w0 w1 w2 do0 a109 b109 kb109 (97 : Int32) do1 a115 b115 kb115 (0 : Int32) do2 a123 b123 kb123 (0 : Int32) b348 (.ref tb614) (1 : Int32) (1 : Int32) (12 : Int32) tb614 kt614 (.ref nd614) .null .null nd614 b601 p1 0 0 p2 0 0 p3 cs ca ce h632 n0 Z647 B652 F643 F646 F637 F639 g633 g349 (Nat.le_trans Z0 Zx109_0) (Nat.le_trans Z112 Zx115_0) (Nat.le_trans Z120 Zx123_0) (nG R614_0.lt (Nat.le_of_eq g632.symm)) (nG R614_3.lt (Nat.le_of_eq g632.symm)) (nG F341.lt (Nat.le_of_eq g348.symm)) (nG F618.lt (Nat.le_of_eq g632.symm)) (nG F343.lt (Nat.le_of_eq g348.symm)) (nG F620.lt (Nat.le_of_eq g632.symm)) (nG F345.lt (Nat.le_of_eq g348.symm)) (nL R109_0.lt Zx115_0) (nL F118.lt Zx123_0) (nL R115_0.lt Zx123_0) F641 F636 F638 F640 (ninS (nL F622.lt (Nat.le_of_eq g632.symm)) (ninS (nL F347.lt (Nat.le_of_eq g348.symm)) (ninS (nG F126.lt (Nat.le_of_eq g153.symm)) (ninS (nG F128.lt (Nat.le_of_eq g153.symm)) (ninS (nG R123_0.lt (Nat.le_of_eq g153.symm)) nin0))))) (ninS (nL R614_4.lt (Nat.le_of_eq g632.symm)) (ninS (nL F342.lt (Nat.le_of_eq g348.symm)) (ninS (Ne.symm Nx109_0) (ninS (nL R109_1.lt Zx115_0) (ninS (nL F119.lt Zx123_0) nin0))))) (ninS (nL F619.lt (Nat.le_of_eq g632.symm)) (ninS (nL F344.lt (Nat.le_of_eq g348.symm)) (ninS (nG R109_0.lt Zx115_1) (ninS (Ne.symm Nx115_0) (ninS (nL R115_1.lt Zx123_0) nin0))))) (ninS (nL F621.lt (Nat.le_of_eq g632.symm)) (ninS (nL F346.lt (Nat.le_of_eq g348.symm)) (ninS (nG F118.lt Zx123_1) (ninS (nG R115_0.lt Zx123_1) (ninS (Ne.symm Nx123_0) nin0))))) Scs hcs Shi Sca Bx hn3 (fun q => ⟨(LA q).1, (LA q).2.1.keep K648 (ninS (LA q).2.2.1 (ninS (LA q).2.2.2.1 (ninS (LA q).2.2.2.2 nin0))), (ninS (nL (LA q).2.1.lt z634) (ninS (nL (LA q).2.1.lt z350) (ninS (LA q).2.2.1 (ninS (LA q).2.2.2.1 (ninS (LA q).2.2.2.2 nin0)))))⟩) (fun q => ⟨(LD0 q).1, (LD0 q).2.1.keep K648 (ninS (LD0 q).2.2.1 (ninS (LD0 q).2.2.2.1 (ninS (LD0 q).2.2.2.2 nin0))), (ninS (nL (LD0 q).2.1.lt z634) (ninS (nL (LD0 q).2.1.lt z350) (ninS (LD0 q).2.2.1 (ninS (LD0 q).2.2.2.1 (ninS (LD0 q).2.2.2.2 nin0)))))⟩) (fun q => ⟨(LD1 q).1, (LD1 q).2.1.keep K648 (ninS (LD1 q).2.2.1 (ninS (LD1 q).2.2.2.1 (ninS (LD1 q).2.2.2.2 nin0))), (ninS (nL (LD1 q).2.1.lt z634) (ninS (nL (LD1 q).2.1.lt z350) (ninS (LD1 q).2.2.1 (ninS (LD1 q).2.2.2.1 (ninS (LD1 q).2.2.2.2 nin0)))))⟩) (fun q => ⟨(LD2 q).1, (LD2 q).2.1.keep K648 (ninS (LD2 q).2.2.1 (ninS (LD2 q).2.2.2.1 (ninS (LD2 q).2.2.2.2 nin0))), (ninS (nL (LD2 q).2.1.lt z634) (ninS (nL (LD2 q).2.1.lt z350) (ninS (LD2 q).2.2.1 (ninS (LD2 q).2.2.2.1 (ninS (LD2 q).2.2.2.2 nin0)))))⟩) (Or.inr ⟨rfl, (fun q => by exact absurd q.1 (by simp)), F644, (ninS (nL V626.lt (Nat.le_of_eq g632.symm)) (ninS (nG F611.lt Zx614_1) (ninS (nG F604.lt Zx614_1) (ninS (nG F606.lt Zx614_1) (ninS (nG F608.lt Zx614_1) nin0)))))⟩) (show (1 : Int32) = (1 : Int32) + (0 : Int32) + (0 : Int32) by decide) (Or.inr ⟨rfl, rfl, F645, F642, (ninS (nL R614_2.lt (Nat.le_of_eq g632.symm)) (ninS (nG F611.lt Zx614_0) (ninS (nG F604.lt Zx614_0) (ninS (nG F606.lt Zx614_0) (ninS (nG F608.lt Zx614_0) nin0))))), (ninS (nL F623.lt (Nat.le_of_eq g632.symm)) (ninS (own_bxne P601_0 g349 R370_0.lt) (ninS (own_bxne P601_0 (Nat.le_trans Z0 Zx109_0) F373.lt) (ninS (own_bxne P601_0 (Nat.le_trans Z112 Zx115_0) F375.lt) (ninS (own_bxne P601_0 (Nat.le_trans Z120 Zx123_0) F377.lt) nin0)))))⟩) (Or.inl ⟨rfl, rfl⟩) (Or.inl ⟨rfl, rfl⟩) F635) e632 (argsL := [(.ref b153), (.ref b348)]) (rest := [(.ref b632)]) rfl (by rw [hml]; rfl) k655 rfl (H at_213) (lenOf pd__28Ljava_2futil_2fList_3bLjava_2futil_2fMap_3b_29V rfl) (b5 rfl)
        obtain ⟨h656, e656⟩ : ∃ h', T656.heap = h' := ⟨_, rfl⟩
        rw [e656] at hQ656
        obtain ⟨bg656, kg656, g0656, g1656, g2656, bi656, rfl, N656q, K656, R656_0, R656_1, P656_0, P656_1, P656_2⟩ := hQ656
        have N657 := Fr.app N615 N656q
        have Z658 : n0 ≤ h656.size := Nat.le_trans Z647 K656.1
        exact ⟨T656, h656, _, b632, bg656, kg656, g0656, g1656, g2656, bi656, (X656.more (by decide) (by decide)), e656, N657, Z658, R656_0, R656_1, (fun q => (P656_0 q).trans (if_neg z0).symm), (fun q => (P656_1 q).trans (if_pos z1).symm), (fun q => (P656_2 q).trans (if_pos z2).symm), k656⟩
      · have k659 := f_ifN X614 hx k630 (H at_190) ((if0 _ _).trans (feq z2).1)
        have k660 := f_al X614 hx k659 (H at_193) rfl
        have k661 := f_al X614 hx k660 (H at_195) rfl
        have k662 := f_ilN X614 hx k661 (H at_197) rfl
        obtain ⟨_, T663, L663, X663, hQ663, k663⟩ := c_S (W := 2) X614 hx hZ hown (hww 240 rfl) (hww 241 rfl) (hww 242 rfl) (hww 243 rfl) (by decide) (box l Z a0 hw [] p3 ca ce h614 n0 Z624 Shi Sca Bx F616) e614 (argsL := [(.int p3)]) (rest := [(.ref a123), (.ref b348)]) rfl (by rw [hml]; rfl) k662 rfl (H at_198) (lenOf pd__28I_29Ljava_2flang_2fInteger_3b rfl) (b5 rfl)
        obtain ⟨h663, e663⟩ : ∃ h', T663.heap = h' := ⟨_, rfl⟩
        rw [e663] at hQ663
        obtain ⟨b663, rfl, N663q, K663, R663_0, P663_0⟩ := hQ663
        have N664 := Fr.app N615 N663q
        have F665 := F616.keep K663 all0
        have F666 := R614_4.keep K663 nin0
        have F667 := F618.keep K663 nin0
        have F668 := F619.keep K663 nin0
        have F669 := F620.keep K663 nin0
        have F670 := F621.keep K663 nin0
        have F671 := F622.keep K663 nin0
        have F672 := F623.keep K663 nin0
        have F673 := R614_0.keep K663 nin0
        have F674 := V626.keep K663 nin0
        have F675 := R614_2.keep K663 nin0
        have F676 := R614_3.keep K663 nin0
        have Z677 : n0 ≤ h663.size := Nat.le_trans Z624 K663.1
        have K678 := Keep.trans K625 K663 all0
        obtain ⟨_, T679, L679, X679, hQ679, k679⟩ := c_V (W := 0) (x := mn36) X663 hx hZ hown (hww 247 rfl) (hww 248 rfl) (notFace_of_selects (args := #[]) (mvT hZ (hww 250 rfl))) (hww 250 rfl) (hww 249 rfl) (hww 251 rfl) (hww 53 rfl) (by decide) F673.1 (put1 l Z a0 hw [] b348 (99 : Int32) a123 b663 (3 : Int32) tb614 kt614 [.null, (.ref nd614), .null, .null, .null, .null, .null, .null, .null, .null, .null, .null, .null, .null, .null, .null] (1 : Int32) (1 : Int32) b123 kb123 cs h663 n0 Z677 F673 F674 F669 F670 g349 (Nat.le_trans Z120 Zx123_0) (Nat.le_trans Z612 Zx614_1) (nG F345.lt (Nat.le_of_eq g348.symm)) Nx123_0 (nG F346.lt (Nat.le_of_eq g348.symm)) (nL F611.lt Zx614_1) (nG F608.lt Zx614_1) (nG F609.lt Zx614_1) (by decide) (by decide) (by decide) Scs hcs (by decide) (by decide) rfl rfl P614_0 (by decide) F665) e663 (argsL := [(.ref a123), (.ref b663)]) (rest := []) rfl (by rw [hml]; rfl) k663 rfl (H at_201) (lenOf pd__28Ljava_2flang_2fObject_3bLjava_2flang_2fObject_3b_29Ljava_2flang_2fObject_3b rfl) (b5 rfl)
        obtain ⟨h679, e679⟩ : ∃ h', T679.heap = h' := ⟨_, rfl⟩
        rw [e679] at hQ679
        obtain ⟨nd679, rfl, N679q, K679, Zx679_0, R679_0, R679_1, R679_2, R679_3, R679_4⟩ := hQ679
        have N680 := Fr.app N664 N679q
        have F681 := F665.keep K679 (allS g349 (allS (Nat.le_trans Z120 Zx123_0) (allS (Nat.le_trans Z612 Zx614_1) all0)))
        have F682 := F666.keep K679 (ninS (nL F342.lt (Nat.le_of_eq g348.symm)) (ninS (nL F119.lt Zx123_0) (ninS (nL F605.lt Zx614_1) nin0)))
        have F683 := F667.keep K679 (ninS (nL F343.lt (Nat.le_of_eq g348.symm)) (ninS (nL R115_0.lt Zx123_0) (ninS (nL F606.lt Zx614_1) nin0)))
        have F684 := F668.keep K679 (ninS (nL F344.lt (Nat.le_of_eq g348.symm)) (ninS (nL R115_1.lt Zx123_0) (ninS (nL F607.lt Zx614_1) nin0)))
        have F685 := F670.keep K679 (ninS (nL F346.lt (Nat.le_of_eq g348.symm)) (ninS (Ne.symm Nx123_0) (ninS (nL F609.lt Zx614_1) nin0)))
        have F686 := F671.keep K679 (ninS (nL F347.lt (Nat.le_of_eq g348.symm)) (ninS (nG R123_0.lt (Nat.le_of_eq g153.symm)) (ninS (nL F610.lt Zx614_1) nin0)))
        have F687 := F672.keep K679 (ninS (own_bxne P601_0 g349 R370_0.lt) (ninS (own_bxne P601_0 (Nat.le_trans Z120 Zx123_0) F377.lt) (ninS (nL R601_0.lt Zx614_1) nin0)))
        have F688 := F675.keep K679 (ninS (nG F611.lt Zx614_0) (ninS (nG F608.lt Zx614_0) (ninS (Ne.symm Nx614_0) nin0)))
        have F689 := F676.keep K679 (ninS (nL F341.lt (Nat.le_of_eq g348.symm)) (ninS (nL F118.lt Zx123_0) (ninS (nL F604.lt Zx614_1) nin0)))
        have F690 := R663_0.keep K679 (ninS (own_bxne P663_0 g349 R614_0.lt) (ninS (own_bxne P663_0 (Nat.le_trans Z120 Zx123_0) F620.lt) (ninS (own_bxne P663_0 (Nat.le_trans Z612 Zx614_1) V626.lt) nin0)))
        have Z691 : n0 ≤ h679.size := Nat.le_trans Z677 K679.1
        have K692 := Keep.trans K678 K679 (allS (Or.inr z350) (allS (oL 2 rfl) (allS (Or.inr (Nat.le_trans K613.1 Zx614_1)) all0)))
        have V693 : Arv Z h679 tb614 kt614 (.object "java/util/HashMap$Node") (16 : Int32) [.null, (.ref nd614), .null, (.ref nd679), .null, .null, .null, .null, .null, .null, .null, .null, .null, .null, .null, .null] .null := R679_1
        rw [show ((1 : Int32) + (1 : Int32)) = (2 : Int32) by decide] at R679_0
        have k694 := f_pop X679 hx k679 (H at_204) rfl
        obtain ⟨T695, h695, X695, e695, E695, A695, D695, -, st695⟩ := newO X679 hx hZ hown (hww 67 rfl) (hww 68 rfl) (hww 69 rfl) e679 (g := (mkF m 205 #[si p0, si p1, si p2, si p3, si p4, si nn, sr a109, sr a115, sr a123, si i136, si i143, si i150, sr b153, sr b348, un, un, un, un, un, un, un, un] [])) rfl (H at_205) (by decide) (by decide)
        obtain ⟨b695, g695⟩ : ∃ z, z = h679.size := ⟨_, rfl⟩
        rw [← g695] at A695 D695 st695
        have g696 : n0 ≤ b695 := Nat.le_trans Z691 (Nat.le_of_eq g695.symm)
        have z697 : h181.size ≤ b695 := Nat.le_trans K692.1 (Nat.le_of_eq g695.symm)
        have F698 := F681.ext E695
        have F699 := F682.ext E695
        have F700 := F683.ext E695
        have F701 := F684.ext E695
        have F702 := R679_4.ext E695
        have F703 := F686.ext E695
        have F704 := F687.ext E695
        have F705 := F688.ext E695
        have F706 := F689.ext E695
        have F707 := F690.ext E695
        have F708 := R679_0.ext E695
        have F709 := V693.ext E695
        have F710 := R679_2.ext E695
        have F711 := R679_3.ext E695
        have Z712 : n0 ≤ h695.size := Nat.le_trans Z691 E695.1
        have K713 := K692.ext E695
        have F714 : Fld Z h695 b695 "com/example/multinomial/multinomial/eval/JudgedRanking" "gains" "[I" .null := D695 (Or.inr (hww 87 rfl)) (ty := (.array .int)) (by decide)
        have F715 : Fld Z h695 b695 "com/example/multinomial/multinomial/eval/JudgedRanking" "idealGains" "[I" .null := D695 (Or.inr (hww 194 rfl)) (ty := (.array .int)) (by decide)
        have k716 : Rt p e below T695 (mkF m 208 #[si p0, si p1, si p2, si p3, si p4, si nn, sr a109, sr a115, sr a123, si i136, si i143, si i150, sr b153, sr b348, un, un, un, un, un, un, un, un] [vR b695]) s₁ m #[(.int p0), (.int p1), (.int p2), (.int p3), (.int p4)] maxLocals := fun t k => k694 t (st695 t k)
        have B717 := mkJR A695 F714 F715
        have k718 := f_dup X695 hx k716 (H at_208) rfl
        have k719 := f_al X695 hx k718 (H at_209) rfl
        have k720 := f_al X695 hx k719 (H at_211) rfl
        obtain ⟨_, T721, L721, X721, hQ721, k721⟩ := c_N (W := 1) X695 hx hZ hown (hww 70 rfl) (hww 71 rfl) (hww 72 rfl) (hww 69 rfl) rfl (by decide) (jri l Z a0 hw [] b695 b153 nn lm ev ea ka w0 w1 w2 do0 a109 b109 kb109 (97 : Int32) do1 a115 b115 kb115 (0 : Int32) do2 a123 b123 kb123 (99 : Int32) b348 (.ref tb614) (2 : Int32) (2 : Int32) (12 : Int32) tb614 kt614 (.ref nd614) .null (.ref nd679) nd614 b601 p1 0 0 p2 nd679 b663 p3 cs ca ce h695 n0 Z712 B717 F708 F706 F700 F711 g696 g349 (Nat.le_trans Z0 Zx109_0) (Nat.le_trans Z112 Zx115_0) (Nat.le_trans Z120 Zx123_0) (nG R679_0.lt (Nat.le_of_eq g695.symm)) (nG F689.lt (Nat.le_of_eq g695.symm)) (nG F341.lt (Nat.le_of_eq g348.symm)) (nG F683.lt (Nat.le_of_eq g695.symm)) (nG F343.lt (Nat.le_of_eq g348.symm)) (nG R679_3.lt (Nat.le_of_eq g695.symm)) (nG F345.lt (Nat.le_of_eq g348.symm)) (nL R109_0.lt Zx115_0) (nL F118.lt Zx123_0) (nL R115_0.lt Zx123_0) F703 F699 F701 F702 (ninS (nL F686.lt (Nat.le_of_eq g695.symm)) (ninS (nL F347.lt (Nat.le_of_eq g348.symm)) (ninS (nG F126.lt (Nat.le_of_eq g153.symm)) (ninS (nG F128.lt (Nat.le_of_eq g153.symm)) (ninS (nG R123_0.lt (Nat.le_of_eq g153.symm)) nin0))))) (ninS (nL F682.lt (Nat.le_of_eq g695.symm)) (ninS (nL F342.lt (Nat.le_of_eq g348.symm)) (ninS (Ne.symm Nx109_0) (ninS (nL R109_1.lt Zx115_0) (ninS (nL F119.lt Zx123_0) nin0))))) (ninS (nL F684.lt (Nat.le_of_eq g695.symm)) (ninS (nL F344.lt (Nat.le_of_eq g348.symm)) (ninS (nG R109_0.lt Zx115_1) (ninS (Ne.symm Nx115_0) (ninS (nL R115_1.lt Zx123_0) nin0))))) (ninS (nL R679_4.lt (Nat.le_of_eq g695.symm)) (ninS (nL F346.lt (Nat.le_of_eq g348.symm)) (ninS (nG F118.lt Zx123_1) (ninS (nG R115_0.lt Zx123_1) (ninS (Ne.symm Nx123_0) nin0))))) Scs hcs Shi Sca Bx hn3 (fun q => ⟨(LA q).1, (LA q).2.1.keep K713 (ninS (LA q).2.2.1 (ninS (LA q).2.2.2.1 (ninS (LA q).2.2.2.2 nin0))), (ninS (nL (LA q).2.1.lt z697) (ninS (nL (LA q).2.1.lt z350) (ninS (LA q).2.2.1 (ninS (LA q).2.2.2.1 (ninS (LA q).2.2.2.2 nin0)))))⟩) (fun q => ⟨(LD0 q).1, (LD0 q).2.1.keep K713 (ninS (LD0 q).2.2.1 (ninS (LD0 q).2.2.2.1 (ninS (LD0 q).2.2.2.2 nin0))), (ninS (nL (LD0 q).2.1.lt z697) (ninS (nL (LD0 q).2.1.lt z350) (ninS (LD0 q).2.2.1 (ninS (LD0 q).2.2.2.1 (ninS (LD0 q).2.2.2.2 nin0)))))⟩) (fun q => ⟨(LD1 q).1, (LD1 q).2.1.keep K713 (ninS (LD1 q).2.2.1 (ninS (LD1 q).2.2.2.1 (ninS (LD1 q).2.2.2.2 nin0))), (ninS (nL (LD1 q).2.1.lt z697) (ninS (nL (LD1 q).2.1.lt z350) (ninS (LD1 q).2.2.1 (ninS (LD1 q).2.2.2.1 (ninS (LD1 q).2.2.2.2 nin0)))))⟩) (fun q => ⟨(LD2 q).1, (LD2 q).2.1.keep K713 (ninS (LD2 q).2.2.1 (ninS (LD2 q).2.2.2.1 (ninS (LD2 q).2.2.2.2 nin0))), (ninS (nL (LD2 q).2.1.lt z697) (ninS (nL (LD2 q).2.1.lt z350) (ninS (LD2 q).2.2.1 (ninS (LD2 q).2.2.2.1 (ninS (LD2 q).2.2.2.2 nin0)))))⟩) (Or.inr ⟨rfl, (fun q => by exact absurd q.1 (by simp)), F709, (ninS (nL V693.lt (Nat.le_of_eq g695.symm)) (ninS (nG F611.lt Zx614_1) (ninS (nG F604.lt Zx614_1) (ninS (nG F606.lt Zx614_1) (ninS (nG F608.lt Zx614_1) nin0)))))⟩) (show (2 : Int32) = (1 : Int32) + (0 : Int32) + (1 : Int32) by decide) (Or.inr ⟨rfl, rfl, F705, F704, (ninS (nL F688.lt (Nat.le_of_eq g695.symm)) (ninS (nG F611.lt Zx614_0) (ninS (nG F604.lt Zx614_0) (ninS (nG F606.lt Zx614_0) (ninS (nG F608.lt Zx614_0) nin0))))), (ninS (nL F687.lt (Nat.le_of_eq g695.symm)) (ninS (own_bxne P601_0 g349 R370_0.lt) (ninS (own_bxne P601_0 (Nat.le_trans Z0 Zx109_0) F373.lt) (ninS (own_bxne P601_0 (Nat.le_trans Z112 Zx115_0) F375.lt) (ninS (own_bxne P601_0 (Nat.le_trans Z120 Zx123_0) F377.lt) nin0)))))⟩) (Or.inl ⟨rfl, rfl⟩) (Or.inr ⟨rfl, rfl, F710, F707, (ninS (nL R679_2.lt (Nat.le_of_eq g695.symm)) (ninS (nG F673.lt Zx679_0) (ninS (nG F676.lt Zx679_0) (ninS (nG F667.lt Zx679_0) (ninS (nG F669.lt Zx679_0) nin0))))), (ninS (nL F690.lt (Nat.le_of_eq g695.symm)) (ninS (own_bxne P663_0 g349 R614_0.lt) (ninS (own_bxne P663_0 (Nat.le_trans Z0 Zx109_0) R614_3.lt) (ninS (own_bxne P663_0 (Nat.le_trans Z112 Zx115_0) F618.lt) (ninS (own_bxne P663_0 (Nat.le_trans Z120 Zx123_0) F620.lt) nin0)))))⟩) F698) e695 (argsL := [(.ref b153), (.ref b348)]) (rest := [(.ref b695)]) rfl (by rw [hml]; rfl) k720 rfl (H at_213) (lenOf pd__28Ljava_2futil_2fList_3bLjava_2futil_2fMap_3b_29V rfl) (b5 rfl)
        obtain ⟨h721, e721⟩ : ∃ h', T721.heap = h' := ⟨_, rfl⟩
        rw [e721] at hQ721
        obtain ⟨bg721, kg721, g0721, g1721, g2721, bi721, rfl, N721q, K721, R721_0, R721_1, P721_0, P721_1, P721_2⟩ := hQ721
        have N722 := Fr.app N680 N721q
        have Z723 : n0 ≤ h721.size := Nat.le_trans Z712 K721.1
        exact ⟨T721, h721, _, b695, bg721, kg721, g0721, g1721, g2721, bi721, (X721.more (by decide) (by decide)), e721, N722, Z723, R721_0, R721_1, (fun q => (P721_0 q).trans (if_neg z0).symm), (fun q => (P721_1 q).trans (if_pos z1).symm), (fun q => (P721_2 q).trans (if_neg z2).symm), k721⟩
    · have k724 := f_ifN X614 hx k628 (H at_173) ((if0 _ _).trans (feq z1).1)
      have k725 := f_al X614 hx k724 (H at_176) rfl
      have k726 := f_al X614 hx k725 (H at_178) rfl
      have k727 := f_ilN X614 hx k726 (H at_180) rfl
      obtain ⟨_, T728, L728, X728, hQ728, k728⟩ := c_S (W := 2) X614 hx hZ hown (hww 240 rfl) (hww 241 rfl) (hww 242 rfl) (hww 243 rfl) (by decide) (box l Z a0 hw [] p2 ca ce h614 n0 Z624 Shi Sca Bx F616) e614 (argsL := [(.int p2)]) (rest := [(.ref a115), (.ref b348)]) rfl (by rw [hml]; rfl) k727 rfl (H at_181) (lenOf pd__28I_29Ljava_2flang_2fInteger_3b rfl) (b5 rfl)
      obtain ⟨h728, e728⟩ : ∃ h', T728.heap = h' := ⟨_, rfl⟩
      rw [e728] at hQ728
      obtain ⟨b728, rfl, N728q, K728, R728_0, P728_0⟩ := hQ728
      have N729 := Fr.app N615 N728q
      have F730 := F616.keep K728 all0
      have F731 := R614_4.keep K728 nin0
      have F732 := F618.keep K728 nin0
      have F733 := F619.keep K728 nin0
      have F734 := F620.keep K728 nin0
      have F735 := F621.keep K728 nin0
      have F736 := F622.keep K728 nin0
      have F737 := F623.keep K728 nin0
      have F738 := R614_0.keep K728 nin0
      have F739 := V626.keep K728 nin0
      have F740 := R614_2.keep K728 nin0
      have F741 := R614_3.keep K728 nin0
      have Z742 : n0 ≤ h728.size := Nat.le_trans Z624 K728.1
      have K743 := Keep.trans K625 K728 all0
      obtain ⟨_, T744, L744, X744, hQ744, k744⟩ := c_V (W := 0) (x := mn36) X728 hx hZ hown (hww 247 rfl) (hww 248 rfl) (notFace_of_selects (args := #[]) (mvT hZ (hww 250 rfl))) (hww 250 rfl) (hww 249 rfl) (hww 251 rfl) (hww 53 rfl) (by decide) F738.1 (put1 l Z a0 hw [] b348 (98 : Int32) a115 b728 (2 : Int32) tb614 kt614 [.null, (.ref nd614), .null, .null, .null, .null, .null, .null, .null, .null, .null, .null, .null, .null, .null, .null] (1 : Int32) (1 : Int32) b115 kb115 cs h728 n0 Z742 F738 F739 F732 F733 g349 (Nat.le_trans Z112 Zx115_0) (Nat.le_trans Z612 Zx614_1) (nG F343.lt (Nat.le_of_eq g348.symm)) Nx115_0 (nG F344.lt (Nat.le_of_eq g348.symm)) (nL F611.lt Zx614_1) (nG F606.lt Zx614_1) (nG F607.lt Zx614_1) (by decide) (by decide) (by decide) Scs hcs (by decide) (by decide) rfl rfl P614_0 (by decide) F730) e728 (argsL := [(.ref a115), (.ref b728)]) (rest := []) rfl (by rw [hml]; rfl) k728 rfl (H at_184) (lenOf pd__28Ljava_2flang_2fObject_3bLjava_2flang_2fObject_3b_29Ljava_2flang_2fObject_3b rfl) (b5 rfl)
      obtain ⟨h744, e744⟩ : ∃ h', T744.heap = h' := ⟨_, rfl⟩
      rw [e744] at hQ744
      obtain ⟨nd744, rfl, N744q, K744, Zx744_0, R744_0, R744_1, R744_2, R744_3, R744_4⟩ := hQ744
      have N745 := Fr.app N729 N744q
      have F746 := F730.keep K744 (allS g349 (allS (Nat.le_trans Z112 Zx115_0) (allS (Nat.le_trans Z612 Zx614_1) all0)))
      have F747 := F731.keep K744 (ninS (nL F342.lt (Nat.le_of_eq g348.symm)) (ninS (nL R109_1.lt Zx115_0) (ninS (nL F605.lt Zx614_1) nin0)))
      have F748 := F733.keep K744 (ninS (nL F344.lt (Nat.le_of_eq g348.symm)) (ninS (Ne.symm Nx115_0) (ninS (nL F607.lt Zx614_1) nin0)))
      have F749 := F734.keep K744 (ninS (nL F345.lt (Nat.le_of_eq g348.symm)) (ninS (nG R115_0.lt Zx123_0) (ninS (nL F608.lt Zx614_1) nin0)))
      have F750 := F735.keep K744 (ninS (nL F346.lt (Nat.le_of_eq g348.symm)) (ninS (nG R115_0.lt Zx123_1) (ninS (nL F609.lt Zx614_1) nin0)))
      have F751 := F736.keep K744 (ninS (nL F347.lt (Nat.le_of_eq g348.symm)) (ninS (nG F128.lt (Nat.le_of_eq g153.symm)) (ninS (nL F610.lt Zx614_1) nin0)))
      have F752 := F737.keep K744 (ninS (own_bxne P601_0 g349 R370_0.lt) (ninS (own_bxne P601_0 (Nat.le_trans Z112 Zx115_0) F375.lt) (ninS (nL R601_0.lt Zx614_1) nin0)))
      have F753 := F740.keep K744 (ninS (nG F611.lt Zx614_0) (ninS (nG F606.lt Zx614_0) (ninS (Ne.symm Nx614_0) nin0)))
      have F754 := F741.keep K744 (ninS (nL F341.lt (Nat.le_of_eq g348.symm)) (ninS (nL R109_0.lt Zx115_0) (ninS (nL F604.lt Zx614_1) nin0)))
      have F755 := R728_0.keep K744 (ninS (own_bxne P728_0 g349 R614_0.lt) (ninS (own_bxne P728_0 (Nat.le_trans Z112 Zx115_0) F618.lt) (ninS (own_bxne P728_0 (Nat.le_trans Z612 Zx614_1) V626.lt) nin0)))
      have Z756 : n0 ≤ h744.size := Nat.le_trans Z742 K744.1
      have K757 := Keep.trans K743 K744 (allS (Or.inr z350) (allS (oL 1 rfl) (allS (Or.inr (Nat.le_trans K613.1 Zx614_1)) all0)))
      have V758 : Arv Z h744 tb614 kt614 (.object "java/util/HashMap$Node") (16 : Int32) [.null, (.ref nd614), (.ref nd744), .null, .null, .null, .null, .null, .null, .null, .null, .null, .null, .null, .null, .null] .null := R744_1
      rw [show ((1 : Int32) + (1 : Int32)) = (2 : Int32) by decide] at R744_0
      have k759 := f_pop X744 hx k744 (H at_187) rfl
      have k760 := f_il X744 hx k759 (H at_188) rfl
      by_cases z2 : i150 = (0 : Int32)
      · have k761 := f_ifY X744 hx k760 (H at_190) (pc' := 205) ((if0 _ _).trans (teq z2).1) (by decide)
        obtain ⟨T762, h762, X762, e762, E762, A762, D762, -, st762⟩ := newO X744 hx hZ hown (hww 67 rfl) (hww 68 rfl) (hww 69 rfl) e744 (g := (mkF m 205 #[si p0, si p1, si p2, si p3, si p4, si nn, sr a109, sr a115, sr a123, si i136, si i143, si i150, sr b153, sr b348, un, un, un, un, un, un, un, un] [])) rfl (H at_205) (by decide) (by decide)
        obtain ⟨b762, g762⟩ : ∃ z, z = h744.size := ⟨_, rfl⟩
        rw [← g762] at A762 D762 st762
        have g763 : n0 ≤ b762 := Nat.le_trans Z756 (Nat.le_of_eq g762.symm)
        have z764 : h181.size ≤ b762 := Nat.le_trans K757.1 (Nat.le_of_eq g762.symm)
        have F765 := F746.ext E762
        have F766 := F747.ext E762
        have F767 := R744_4.ext E762
        have F768 := F749.ext E762
        have F769 := F750.ext E762
        have F770 := F751.ext E762
        have F771 := F752.ext E762
        have F772 := F753.ext E762
        have F773 := F754.ext E762
        have F774 := F755.ext E762
        have F775 := R744_0.ext E762
        have F776 := V758.ext E762
        have F777 := R744_2.ext E762
        have F778 := R744_3.ext E762
        have Z779 : n0 ≤ h762.size := Nat.le_trans Z756 E762.1
        have K780 := K757.ext E762
        have F781 : Fld Z h762 b762 "com/example/multinomial/multinomial/eval/JudgedRanking" "gains" "[I" .null := D762 (Or.inr (hww 87 rfl)) (ty := (.array .int)) (by decide)
        have F782 : Fld Z h762 b762 "com/example/multinomial/multinomial/eval/JudgedRanking" "idealGains" "[I" .null := D762 (Or.inr (hww 194 rfl)) (ty := (.array .int)) (by decide)
        have k783 : Rt p e below T762 (mkF m 208 #[si p0, si p1, si p2, si p3, si p4, si nn, sr a109, sr a115, sr a123, si i136, si i143, si i150, sr b153, sr b348, un, un, un, un, un, un, un, un] [vR b762]) s₁ m #[(.int p0), (.int p1), (.int p2), (.int p3), (.int p4)] maxLocals := fun t k => k761 t (st762 t k)
        have B784 := mkJR A762 F781 F782
        have k785 := f_dup X762 hx k783 (H at_208) rfl
        have k786 := f_al X762 hx k785 (H at_209) rfl
        have k787 := f_al X762 hx k786 (H at_211) rfl
        obtain ⟨_, T788, L788, X788, hQ788, k788⟩ := c_N (W := 1) X762 hx hZ hown (hww 70 rfl) (hww 71 rfl) (hww 72 rfl) (hww 69 rfl) rfl (by decide) (jri l Z a0 hw [] b762 b153 nn lm ev ea ka w0 w1 w2 do0 a109 b109 kb109 (97 : Int32) do1 a115 b115 kb115 (98 : Int32) do2 a123 b123 kb123 (0 : Int32) b348 (.ref tb614) (2 : Int32) (2 : Int32) (12 : Int32) tb614 kt614 (.ref nd614) (.ref nd744) .null nd614 b601 p1 nd744 b728 p2 0 0 p3 cs ca ce h762 n0 Z779 B784 F775 F773 F778 F768 g763 g349 (Nat.le_trans Z0 Zx109_0) (Nat.le_trans Z112 Zx115_0) (Nat.le_trans Z120 Zx123_0) (nG R744_0.lt (Nat.le_of_eq g762.symm)) (nG F754.lt (Nat.le_of_eq g762.symm)) (nG F341.lt (Nat.le_of_eq g348.symm)) (nG R744_3.lt (Nat.le_of_eq g762.symm)) (nG F343.lt (Nat.le_of_eq g348.symm)) (nG F749.lt (Nat.le_of_eq g762.symm)) (nG F345.lt (Nat.le_of_eq g348.symm)) (nL R109_0.lt Zx115_0) (nL F118.lt Zx123_0) (nL R115_0.lt Zx123_0) F770 F766 F767 F769 (ninS (nL F751.lt (Nat.le_of_eq g762.symm)) (ninS (nL F347.lt (Nat.le_of_eq g348.symm)) (ninS (nG F126.lt (Nat.le_of_eq g153.symm)) (ninS (nG F128.lt (Nat.le_of_eq g153.symm)) (ninS (nG R123_0.lt (Nat.le_of_eq g153.symm)) nin0))))) (ninS (nL F747.lt (Nat.le_of_eq g762.symm)) (ninS (nL F342.lt (Nat.le_of_eq g348.symm)) (ninS (Ne.symm Nx109_0) (ninS (nL R109_1.lt Zx115_0) (ninS (nL F119.lt Zx123_0) nin0))))) (ninS (nL R744_4.lt (Nat.le_of_eq g762.symm)) (ninS (nL F344.lt (Nat.le_of_eq g348.symm)) (ninS (nG R109_0.lt Zx115_1) (ninS (Ne.symm Nx115_0) (ninS (nL R115_1.lt Zx123_0) nin0))))) (ninS (nL F750.lt (Nat.le_of_eq g762.symm)) (ninS (nL F346.lt (Nat.le_of_eq g348.symm)) (ninS (nG F118.lt Zx123_1) (ninS (nG R115_0.lt Zx123_1) (ninS (Ne.symm Nx123_0) nin0))))) Scs hcs Shi Sca Bx hn3 (fun q => ⟨(LA q).1, (LA q).2.1.keep K780 (ninS (LA q).2.2.1 (ninS (LA q).2.2.2.1 (ninS (LA q).2.2.2.2 nin0))), (ninS (nL (LA q).2.1.lt z764) (ninS (nL (LA q).2.1.lt z350) (ninS (LA q).2.2.1 (ninS (LA q).2.2.2.1 (ninS (LA q).2.2.2.2 nin0)))))⟩) (fun q => ⟨(LD0 q).1, (LD0 q).2.1.keep K780 (ninS (LD0 q).2.2.1 (ninS (LD0 q).2.2.2.1 (ninS (LD0 q).2.2.2.2 nin0))), (ninS (nL (LD0 q).2.1.lt z764) (ninS (nL (LD0 q).2.1.lt z350) (ninS (LD0 q).2.2.1 (ninS (LD0 q).2.2.2.1 (ninS (LD0 q).2.2.2.2 nin0)))))⟩) (fun q => ⟨(LD1 q).1, (LD1 q).2.1.keep K780 (ninS (LD1 q).2.2.1 (ninS (LD1 q).2.2.2.1 (ninS (LD1 q).2.2.2.2 nin0))), (ninS (nL (LD1 q).2.1.lt z764) (ninS (nL (LD1 q).2.1.lt z350) (ninS (LD1 q).2.2.1 (ninS (LD1 q).2.2.2.1 (ninS (LD1 q).2.2.2.2 nin0)))))⟩) (fun q => ⟨(LD2 q).1, (LD2 q).2.1.keep K780 (ninS (LD2 q).2.2.1 (ninS (LD2 q).2.2.2.1 (ninS (LD2 q).2.2.2.2 nin0))), (ninS (nL (LD2 q).2.1.lt z764) (ninS (nL (LD2 q).2.1.lt z350) (ninS (LD2 q).2.2.1 (ninS (LD2 q).2.2.2.1 (ninS (LD2 q).2.2.2.2 nin0)))))⟩) (Or.inr ⟨rfl, (fun q => by exact absurd q.1 (by simp)), F776, (ninS (nL V758.lt (Nat.le_of_eq g762.symm)) (ninS (nG F611.lt Zx614_1) (ninS (nG F604.lt Zx614_1) (ninS (nG F606.lt Zx614_1) (ninS (nG F608.lt Zx614_1) nin0)))))⟩) (show (2 : Int32) = (1 : Int32) + (1 : Int32) + (0 : Int32) by decide) (Or.inr ⟨rfl, rfl, F772, F771, (ninS (nL F753.lt (Nat.le_of_eq g762.symm)) (ninS (nG F611.lt Zx614_0) (ninS (nG F604.lt Zx614_0) (ninS (nG F606.lt Zx614_0) (ninS (nG F608.lt Zx614_0) nin0))))), (ninS (nL F752.lt (Nat.le_of_eq g762.symm)) (ninS (own_bxne P601_0 g349 R370_0.lt) (ninS (own_bxne P601_0 (Nat.le_trans Z0 Zx109_0) F373.lt) (ninS (own_bxne P601_0 (Nat.le_trans Z112 Zx115_0) F375.lt) (ninS (own_bxne P601_0 (Nat.le_trans Z120 Zx123_0) F377.lt) nin0)))))⟩) (Or.inr ⟨rfl, rfl, F777, F774, (ninS (nL R744_2.lt (Nat.le_of_eq g762.symm)) (ninS (nG F738.lt Zx744_0) (ninS (nG F741.lt Zx744_0) (ninS (nG F732.lt Zx744_0) (ninS (nG F734.lt Zx744_0) nin0))))), (ninS (nL F755.lt (Nat.le_of_eq g762.symm)) (ninS (own_bxne P728_0 g349 R614_0.lt) (ninS (own_bxne P728_0 (Nat.le_trans Z0 Zx109_0) R614_3.lt) (ninS (own_bxne P728_0 (Nat.le_trans Z112 Zx115_0) F618.lt) (ninS (own_bxne P728_0 (Nat.le_trans Z120 Zx123_0) F620.lt) nin0)))))⟩) (Or.inl ⟨rfl, rfl⟩) F765) e762 (argsL := [(.ref b153), (.ref b348)]) (rest := [(.ref b762)]) rfl (by rw [hml]; rfl) k787 rfl (H at_213) (lenOf pd__28Ljava_2futil_2fList_3bLjava_2futil_2fMap_3b_29V rfl) (b5 rfl)
        obtain ⟨h788, e788⟩ : ∃ h', T788.heap = h' := ⟨_, rfl⟩
        rw [e788] at hQ788
        obtain ⟨bg788, kg788, g0788, g1788, g2788, bi788, rfl, N788q, K788, R788_0, R788_1, P788_0, P788_1, P788_2⟩ := hQ788
        have N789 := Fr.app N745 N788q
        have Z790 : n0 ≤ h788.size := Nat.le_trans Z779 K788.1
        exact ⟨T788, h788, _, b762, bg788, kg788, g0788, g1788, g2788, bi788, (X788.more (by decide) (by decide)), e788, N789, Z790, R788_0, R788_1, (fun q => (P788_0 q).trans (if_neg z0).symm), (fun q => (P788_1 q).trans (if_neg z1).symm), (fun q => (P788_2 q).trans (if_pos z2).symm), k788⟩
      · have k791 := f_ifN X744 hx k760 (H at_190) ((if0 _ _).trans (feq z2).1)
        have k792 := f_al X744 hx k791 (H at_193) rfl
        have k793 := f_al X744 hx k792 (H at_195) rfl
        have k794 := f_ilN X744 hx k793 (H at_197) rfl
        obtain ⟨_, T795, L795, X795, hQ795, k795⟩ := c_S (W := 2) X744 hx hZ hown (hww 240 rfl) (hww 241 rfl) (hww 242 rfl) (hww 243 rfl) (by decide) (box l Z a0 hw [] p3 ca ce h744 n0 Z756 Shi Sca Bx F746) e744 (argsL := [(.int p3)]) (rest := [(.ref a123), (.ref b348)]) rfl (by rw [hml]; rfl) k794 rfl (H at_198) (lenOf pd__28I_29Ljava_2flang_2fInteger_3b rfl) (b5 rfl)
        obtain ⟨h795, e795⟩ : ∃ h', T795.heap = h' := ⟨_, rfl⟩
        rw [e795] at hQ795
        obtain ⟨b795, rfl, N795q, K795, R795_0, P795_0⟩ := hQ795
        have N796 := Fr.app N745 N795q
        have F797 := F746.keep K795 all0
        have F798 := F747.keep K795 nin0
        have F799 := R744_4.keep K795 nin0
        have F800 := F749.keep K795 nin0
        have F801 := F750.keep K795 nin0
        have F802 := F751.keep K795 nin0
        have F803 := F752.keep K795 nin0
        have F804 := F753.keep K795 nin0
        have F805 := F754.keep K795 nin0
        have F806 := F755.keep K795 nin0
        have F807 := R744_0.keep K795 nin0
        have F808 := V758.keep K795 nin0
        have F809 := R744_2.keep K795 nin0
        have F810 := R744_3.keep K795 nin0
        have Z811 : n0 ≤ h795.size := Nat.le_trans Z756 K795.1
        have K812 := Keep.trans K757 K795 all0
        obtain ⟨_, T813, L813, X813, hQ813, k813⟩ := c_V (W := 0) (x := mn36) X795 hx hZ hown (hww 247 rfl) (hww 248 rfl) (notFace_of_selects (args := #[]) (mvT hZ (hww 250 rfl))) (hww 250 rfl) (hww 249 rfl) (hww 251 rfl) (hww 53 rfl) (by decide) F807.1 (put1 l Z a0 hw [] b348 (99 : Int32) a123 b795 (3 : Int32) tb614 kt614 [.null, (.ref nd614), (.ref nd744), .null, .null, .null, .null, .null, .null, .null, .null, .null, .null, .null, .null, .null] (2 : Int32) (2 : Int32) b123 kb123 cs h795 n0 Z811 F807 F808 F800 F801 g349 (Nat.le_trans Z120 Zx123_0) (Nat.le_trans Z612 Zx614_1) (nG F345.lt (Nat.le_of_eq g348.symm)) Nx123_0 (nG F346.lt (Nat.le_of_eq g348.symm)) (nL F611.lt Zx614_1) (nG F608.lt Zx614_1) (nG F609.lt Zx614_1) (by decide) (by decide) (by decide) Scs hcs (by decide) (by decide) rfl rfl P614_0 (by decide) F797) e795 (argsL := [(.ref a123), (.ref b795)]) (rest := []) rfl (by rw [hml]; rfl) k795 rfl (H at_201) (lenOf pd__28Ljava_2flang_2fObject_3bLjava_2flang_2fObject_3b_29Ljava_2flang_2fObject_3b rfl) (b5 rfl)
        obtain ⟨h813, e813⟩ : ∃ h', T813.heap = h' := ⟨_, rfl⟩
        rw [e813] at hQ813
        obtain ⟨nd813, rfl, N813q, K813, Zx813_0, R813_0, R813_1, R813_2, R813_3, R813_4⟩ := hQ813
        have N814 := Fr.app N796 N813q
        have F815 := F797.keep K813 (allS g349 (allS (Nat.le_trans Z120 Zx123_0) (allS (Nat.le_trans Z612 Zx614_1) all0)))
        have F816 := F798.keep K813 (ninS (nL F342.lt (Nat.le_of_eq g348.symm)) (ninS (nL F119.lt Zx123_0) (ninS (nL F605.lt Zx614_1) nin0)))
        have F817 := F799.keep K813 (ninS (nL F344.lt (Nat.le_of_eq g348.symm)) (ninS (nL R115_1.lt Zx123_0) (ninS (nL F607.lt Zx614_1) nin0)))
        have F818 := F801.keep K813 (ninS (nL F346.lt (Nat.le_of_eq g348.symm)) (ninS (Ne.symm Nx123_0) (ninS (nL F609.lt Zx614_1) nin0)))
        have F819 := F802.keep K813 (ninS (nL F347.lt (Nat.le_of_eq g348.symm)) (ninS (nG R123_0.lt (Nat.le_of_eq g153.symm)) (ninS (nL F610.lt Zx614_1) nin0)))
        have F820 := F803.keep K813 (ninS (own_bxne P601_0 g349 R370_0.lt) (ninS (own_bxne P601_0 (Nat.le_trans Z120 Zx123_0) F377.lt) (ninS (nL R601_0.lt Zx614_1) nin0)))
        have F821 := F804.keep K813 (ninS (nG F611.lt Zx614_0) (ninS (nG F608.lt Zx614_0) (ninS (Ne.symm Nx614_0) nin0)))
        have F822 := F805.keep K813 (ninS (nL F341.lt (Nat.le_of_eq g348.symm)) (ninS (nL F118.lt Zx123_0) (ninS (nL F604.lt Zx614_1) nin0)))
        have F823 := F806.keep K813 (ninS (own_bxne P728_0 g349 R614_0.lt) (ninS (own_bxne P728_0 (Nat.le_trans Z120 Zx123_0) F620.lt) (ninS (own_bxne P728_0 (Nat.le_trans Z612 Zx614_1) V626.lt) nin0)))
        have F824 := F809.keep K813 (ninS (nG F738.lt Zx744_0) (ninS (nG F734.lt Zx744_0) (ninS (nG F739.lt Zx744_0) nin0)))
        have F825 := F810.keep K813 (ninS (nL F343.lt (Nat.le_of_eq g348.symm)) (ninS (nL R115_0.lt Zx123_0) (ninS (nL F606.lt Zx614_1) nin0)))
        have F826 := R795_0.keep K813 (ninS (own_bxne P795_0 g349 R744_0.lt) (ninS (own_bxne P795_0 (Nat.le_trans Z120 Zx123_0) F749.lt) (ninS (own_bxne P795_0 (Nat.le_trans Z612 Zx614_1) V758.lt) nin0)))
        have Z827 : n0 ≤ h813.size := Nat.le_trans Z811 K813.1
        have K828 := Keep.trans K812 K813 (allS (Or.inr z350) (allS (oL 2 rfl) (allS (Or.inr (Nat.le_trans K613.1 Zx614_1)) all0)))
        have V829 : Arv Z h813 tb614 kt614 (.object "java/util/HashMap$Node") (16 : Int32) [.null, (.ref nd614), (.ref nd744), (.ref nd813), .null, .null, .null, .null, .null, .null, .null, .null, .null, .null, .null, .null] .null := R813_1
        rw [show ((2 : Int32) + (1 : Int32)) = (3 : Int32) by decide] at R813_0
        have k830 := f_pop X813 hx k813 (H at_204) rfl
        obtain ⟨T831, h831, X831, e831, E831, A831, D831, -, st831⟩ := newO X813 hx hZ hown (hww 67 rfl) (hww 68 rfl) (hww 69 rfl) e813 (g := (mkF m 205 #[si p0, si p1, si p2, si p3, si p4, si nn, sr a109, sr a115, sr a123, si i136, si i143, si i150, sr b153, sr b348, un, un, un, un, un, un, un, un] [])) rfl (H at_205) (by decide) (by decide)
        obtain ⟨b831, g831⟩ : ∃ z, z = h813.size := ⟨_, rfl⟩
        rw [← g831] at A831 D831 st831
        have g832 : n0 ≤ b831 := Nat.le_trans Z827 (Nat.le_of_eq g831.symm)
        have z833 : h181.size ≤ b831 := Nat.le_trans K828.1 (Nat.le_of_eq g831.symm)
        have F834 := F815.ext E831
        have F835 := F816.ext E831
        have F836 := F817.ext E831
        have F837 := R813_4.ext E831
        have F838 := F819.ext E831
        have F839 := F820.ext E831
        have F840 := F821.ext E831
        have F841 := F822.ext E831
        have F842 := F823.ext E831
        have F843 := F824.ext E831
        have F844 := F825.ext E831
        have F845 := F826.ext E831
        have F846 := R813_0.ext E831
        have F847 := V829.ext E831
        have F848 := R813_2.ext E831
        have F849 := R813_3.ext E831
        have Z850 : n0 ≤ h831.size := Nat.le_trans Z827 E831.1
        have K851 := K828.ext E831
        have F852 : Fld Z h831 b831 "com/example/multinomial/multinomial/eval/JudgedRanking" "gains" "[I" .null := D831 (Or.inr (hww 87 rfl)) (ty := (.array .int)) (by decide)
        have F853 : Fld Z h831 b831 "com/example/multinomial/multinomial/eval/JudgedRanking" "idealGains" "[I" .null := D831 (Or.inr (hww 194 rfl)) (ty := (.array .int)) (by decide)
        have k854 : Rt p e below T831 (mkF m 208 #[si p0, si p1, si p2, si p3, si p4, si nn, sr a109, sr a115, sr a123, si i136, si i143, si i150, sr b153, sr b348, un, un, un, un, un, un, un, un] [vR b831]) s₁ m #[(.int p0), (.int p1), (.int p2), (.int p3), (.int p4)] maxLocals := fun t k => k830 t (st831 t k)
        have B855 := mkJR A831 F852 F853
        have k856 := f_dup X831 hx k854 (H at_208) rfl
        have k857 := f_al X831 hx k856 (H at_209) rfl
        have k858 := f_al X831 hx k857 (H at_211) rfl
        obtain ⟨_, T859, L859, X859, hQ859, k859⟩ := c_N (W := 1) X831 hx hZ hown (hww 70 rfl) (hww 71 rfl) (hww 72 rfl) (hww 69 rfl) rfl (by decide) (jri l Z a0 hw [] b831 b153 nn lm ev ea ka w0 w1 w2 do0 a109 b109 kb109 (97 : Int32) do1 a115 b115 kb115 (98 : Int32) do2 a123 b123 kb123 (99 : Int32) b348 (.ref tb614) (3 : Int32) (3 : Int32) (12 : Int32) tb614 kt614 (.ref nd614) (.ref nd744) (.ref nd813) nd614 b601 p1 nd744 b728 p2 nd813 b795 p3 cs ca ce h831 n0 Z850 B855 F846 F841 F844 F849 g832 g349 (Nat.le_trans Z0 Zx109_0) (Nat.le_trans Z112 Zx115_0) (Nat.le_trans Z120 Zx123_0) (nG R813_0.lt (Nat.le_of_eq g831.symm)) (nG F822.lt (Nat.le_of_eq g831.symm)) (nG F341.lt (Nat.le_of_eq g348.symm)) (nG F825.lt (Nat.le_of_eq g831.symm)) (nG F343.lt (Nat.le_of_eq g348.symm)) (nG R813_3.lt (Nat.le_of_eq g831.symm)) (nG F345.lt (Nat.le_of_eq g348.symm)) (nL R109_0.lt Zx115_0) (nL F118.lt Zx123_0) (nL R115_0.lt Zx123_0) F838 F835 F836 F837 (ninS (nL F819.lt (Nat.le_of_eq g831.symm)) (ninS (nL F347.lt (Nat.le_of_eq g348.symm)) (ninS (nG F126.lt (Nat.le_of_eq g153.symm)) (ninS (nG F128.lt (Nat.le_of_eq g153.symm)) (ninS (nG R123_0.lt (Nat.le_of_eq g153.symm)) nin0))))) (ninS (nL F816.lt (Nat.le_of_eq g831.symm)) (ninS (nL F342.lt (Nat.le_of_eq g348.symm)) (ninS (Ne.symm Nx109_0) (ninS (nL R109_1.lt Zx115_0) (ninS (nL F119.lt Zx123_0) nin0))))) (ninS (nL F817.lt (Nat.le_of_eq g831.symm)) (ninS (nL F344.lt (Nat.le_of_eq g348.symm)) (ninS (nG R109_0.lt Zx115_1) (ninS (Ne.symm Nx115_0) (ninS (nL R115_1.lt Zx123_0) nin0))))) (ninS (nL R813_4.lt (Nat.le_of_eq g831.symm)) (ninS (nL F346.lt (Nat.le_of_eq g348.symm)) (ninS (nG F118.lt Zx123_1) (ninS (nG R115_0.lt Zx123_1) (ninS (Ne.symm Nx123_0) nin0))))) Scs hcs Shi Sca Bx hn3 (fun q => ⟨(LA q).1, (LA q).2.1.keep K851 (ninS (LA q).2.2.1 (ninS (LA q).2.2.2.1 (ninS (LA q).2.2.2.2 nin0))), (ninS (nL (LA q).2.1.lt z833) (ninS (nL (LA q).2.1.lt z350) (ninS (LA q).2.2.1 (ninS (LA q).2.2.2.1 (ninS (LA q).2.2.2.2 nin0)))))⟩) (fun q => ⟨(LD0 q).1, (LD0 q).2.1.keep K851 (ninS (LD0 q).2.2.1 (ninS (LD0 q).2.2.2.1 (ninS (LD0 q).2.2.2.2 nin0))), (ninS (nL (LD0 q).2.1.lt z833) (ninS (nL (LD0 q).2.1.lt z350) (ninS (LD0 q).2.2.1 (ninS (LD0 q).2.2.2.1 (ninS (LD0 q).2.2.2.2 nin0)))))⟩) (fun q => ⟨(LD1 q).1, (LD1 q).2.1.keep K851 (ninS (LD1 q).2.2.1 (ninS (LD1 q).2.2.2.1 (ninS (LD1 q).2.2.2.2 nin0))), (ninS (nL (LD1 q).2.1.lt z833) (ninS (nL (LD1 q).2.1.lt z350) (ninS (LD1 q).2.2.1 (ninS (LD1 q).2.2.2.1 (ninS (LD1 q).2.2.2.2 nin0)))))⟩) (fun q => ⟨(LD2 q).1, (LD2 q).2.1.keep K851 (ninS (LD2 q).2.2.1 (ninS (LD2 q).2.2.2.1 (ninS (LD2 q).2.2.2.2 nin0))), (ninS (nL (LD2 q).2.1.lt z833) (ninS (nL (LD2 q).2.1.lt z350) (ninS (LD2 q).2.2.1 (ninS (LD2 q).2.2.2.1 (ninS (LD2 q).2.2.2.2 nin0)))))⟩) (Or.inr ⟨rfl, (fun q => by exact absurd q.1 (by simp)), F847, (ninS (nL V829.lt (Nat.le_of_eq g831.symm)) (ninS (nG F611.lt Zx614_1) (ninS (nG F604.lt Zx614_1) (ninS (nG F606.lt Zx614_1) (ninS (nG F608.lt Zx614_1) nin0)))))⟩) (show (3 : Int32) = (1 : Int32) + (1 : Int32) + (1 : Int32) by decide) (Or.inr ⟨rfl, rfl, F840, F839, (ninS (nL F821.lt (Nat.le_of_eq g831.symm)) (ninS (nG F611.lt Zx614_0) (ninS (nG F604.lt Zx614_0) (ninS (nG F606.lt Zx614_0) (ninS (nG F608.lt Zx614_0) nin0))))), (ninS (nL F820.lt (Nat.le_of_eq g831.symm)) (ninS (own_bxne P601_0 g349 R370_0.lt) (ninS (own_bxne P601_0 (Nat.le_trans Z0 Zx109_0) F373.lt) (ninS (own_bxne P601_0 (Nat.le_trans Z112 Zx115_0) F375.lt) (ninS (own_bxne P601_0 (Nat.le_trans Z120 Zx123_0) F377.lt) nin0)))))⟩) (Or.inr ⟨rfl, rfl, F843, F842, (ninS (nL F824.lt (Nat.le_of_eq g831.symm)) (ninS (nG F738.lt Zx744_0) (ninS (nG F741.lt Zx744_0) (ninS (nG F732.lt Zx744_0) (ninS (nG F734.lt Zx744_0) nin0))))), (ninS (nL F823.lt (Nat.le_of_eq g831.symm)) (ninS (own_bxne P728_0 g349 R614_0.lt) (ninS (own_bxne P728_0 (Nat.le_trans Z0 Zx109_0) R614_3.lt) (ninS (own_bxne P728_0 (Nat.le_trans Z112 Zx115_0) F618.lt) (ninS (own_bxne P728_0 (Nat.le_trans Z120 Zx123_0) F620.lt) nin0)))))⟩) (Or.inr ⟨rfl, rfl, F848, F845, (ninS (nL R813_2.lt (Nat.le_of_eq g831.symm)) (ninS (nG F807.lt Zx813_0) (ninS (nG F805.lt Zx813_0) (ninS (nG F810.lt Zx813_0) (ninS (nG F800.lt Zx813_0) nin0))))), (ninS (nL F826.lt (Nat.le_of_eq g831.symm)) (ninS (own_bxne P795_0 g349 R744_0.lt) (ninS (own_bxne P795_0 (Nat.le_trans Z0 Zx109_0) F754.lt) (ninS (own_bxne P795_0 (Nat.le_trans Z112 Zx115_0) R744_3.lt) (ninS (own_bxne P795_0 (Nat.le_trans Z120 Zx123_0) F749.lt) nin0)))))⟩) F834) e831 (argsL := [(.ref b153), (.ref b348)]) (rest := [(.ref b831)]) rfl (by rw [hml]; rfl) k858 rfl (H at_213) (lenOf pd__28Ljava_2futil_2fList_3bLjava_2futil_2fMap_3b_29V rfl) (b5 rfl)
        obtain ⟨h859, e859⟩ : ∃ h', T859.heap = h' := ⟨_, rfl⟩
        rw [e859] at hQ859
        obtain ⟨bg859, kg859, g0859, g1859, g2859, bi859, rfl, N859q, K859, R859_0, R859_1, P859_0, P859_1, P859_2⟩ := hQ859
        have N860 := Fr.app N814 N859q
        have Z861 : n0 ≤ h859.size := Nat.le_trans Z850 K859.1
        exact ⟨T859, h859, _, b831, bg859, kg859, g0859, g1859, g2859, bi859, (X859.more (by decide) (by decide)), e859, N860, Z861, R859_0, R859_1, (fun q => (P859_0 q).trans (if_neg z0).symm), (fun q => (P859_1 q).trans (if_neg z1).symm), (fun q => (P859_2 q).trans (if_neg z2).symm), k859⟩
 have k864 := f_as X384 hx kq384 (H at_216) (l' := #[si p0, si p1, si p2, si p3, si p4, si nn, sr a109, sr a115, sr a123, si i136, si i143, si i150, sr b153, sr b348, sr ja, un, un, un, un, un, un, un]) rfl
 have k865 := f_al X384 hx k864 (H at_218) rfl
 obtain ⟨_, T866, L866, X866, hQ866, k866⟩ := c_V (W := 0) (x := mn55) X384 hx hZ hown (hww 195 rfl) (hww 196 rfl) (notFace_of_selects (args := #[]) (mvT hZ (hww 198 rfl))) (hww 198 rfl) (hww 197 rfl) (hww 199 rfl) (hww 69 rfl) (by decide) F862.1 (rcp l Z a0 hw [] ja nn bg kg g0 g1 g2 (.ref bi) h384 n0 Zq384 F862 F863 hn3) e384 (argsL := []) (rest := []) rfl (by rw [hml]; rfl) k865 rfl (H at_220) (lenOf pd__28_29D rfl) (b5 rfl)
 obtain ⟨h866, e866⟩ : ∃ h', T866.heap = h' := ⟨_, rfl⟩
 rw [e866] at hQ866
 obtain ⟨u866, rfl, N866q, hh866, hu866⟩ := hQ866
 have N867 := Fr.app N384 N866q
 have ee866 : T866.heap = h384 := e866.trans hh866
 have k868 := f_ds X866 hx k866 (H at_223) (l' := #[si p0, si p1, si p2, si p3, si p4, si nn, sr a109, sr a115, sr a123, si i136, si i143, si i150, sr b153, sr b348, sr ja, sd u866, se, un, un, un, un, un]) rfl
 have k869 := f_il X866 hx k868 (H at_225) rfl
 obtain ⟨i873, hi873⟩ : ∃ z : Int32, z = (if (0 : Int32) < nn then (if i136 = (0 : Int32) then (0 : Int32) else (if (0 : Int32) < p1 then (1 : Int32) else (0 : Int32))) else (0 : Int32)) := ⟨_, rfl⟩
 have k874 : Rt p e below T866 (mkF m 244 #[si p0, si p1, si p2, si p3, si p4, si nn, sr a109, sr a115, sr a123, si i136, si i143, si i150, sr b153, sr b348, sr ja, sd u866, se, un, un, un, un, un] [vI i873]) s₁ m #[(.int p0), (.int p1), (.int p2), (.int p3), (.int p4)] maxLocals := fun t k => k869 t (by
  by_cases c870 : (0 : Int32) < nn
  · rw [if_pos c870] at hi873
    show Sp p e below T866 (mkF m 227 #[si p0, si p1, si p2, si p3, si p4, si nn, sr a109, sr a115, sr a123, si i136, si i143, si i150, sr b153, sr b348, sr ja, sd u866, se, un, un, un, un, un] [vI nn]) _
    refine XS.ifNo X866.here hx rfl (hb hby at_227) rfl ((if0 _ _).trans (tlt c870).2.2.2) ?_
    refine XS.iload X866.here hx rfl (hb hby at_230) rfl ?_
    by_cases c871 : i136 = (0 : Int32)
    · rw [if_pos c871] at hi873
      show Sp p e below T866 (mkF m 232 #[si p0, si p1, si p2, si p3, si p4, si nn, sr a109, sr a115, sr a123, si i136, si i143, si i150, sr b153, sr b348, sr ja, sd u866, se, un, un, un, un, un] [vI i136]) _
      refine XS.ifYes X866.here hx rfl (pc0 := 232) (pc' := 243) rfl (hb hby at_232) rfl ((if0 _ _).trans (teq c871).1) (by decide) (by decide) ?_
      refine XS.iconst X866.here hx rfl (hb hby at_243) ?_
      show Sp p e below T866 (mkF m 244 #[si p0, si p1, si p2, si p3, si p4, si nn, sr a109, sr a115, sr a123, si i136, si i143, si i150, sr b153, sr b348, sr ja, sd u866, se, un, un, un, un, un] [vI 0]) _
      exact castTop (by rw [hi873]) k
    · rw [if_neg c871] at hi873
      show Sp p e below T866 (mkF m 232 #[si p0, si p1, si p2, si p3, si p4, si nn, sr a109, sr a115, sr a123, si i136, si i143, si i150, sr b153, sr b348, sr ja, sd u866, se, un, un, un, un, un] [vI i136]) _
      refine XS.ifNo X866.here hx rfl (hb hby at_232) rfl ((if0 _ _).trans (feq c871).1) ?_
      refine XS.iloadN X866.here hx rfl (hb hby at_235) rfl ?_
      by_cases c872 : (0 : Int32) < p1
      · rw [if_pos c872] at hi873
        show Sp p e below T866 (mkF m 236 #[si p0, si p1, si p2, si p3, si p4, si nn, sr a109, sr a115, sr a123, si i136, si i143, si i150, sr b153, sr b348, sr ja, sd u866, se, un, un, un, un, un] [vI p1]) _
        refine XS.ifNo X866.here hx rfl (hb hby at_236) rfl ((if0 _ _).trans (tlt c872).2.2.2) ?_
        refine XS.iconst X866.here hx rfl (hb hby at_239) ?_
        refine XS.goto X866.here hx rfl (pc0 := 240) (pc' := 244) rfl (hb hby at_240) (by decide) (by decide) ?_
        show Sp p e below T866 (mkF m 244 #[si p0, si p1, si p2, si p3, si p4, si nn, sr a109, sr a115, sr a123, si i136, si i143, si i150, sr b153, sr b348, sr ja, sd u866, se, un, un, un, un, un] [vI 1]) _
        exact castTop (by rw [hi873]) k
      · rw [if_neg c872] at hi873
        show Sp p e below T866 (mkF m 236 #[si p0, si p1, si p2, si p3, si p4, si nn, sr a109, sr a115, sr a123, si i136, si i143, si i150, sr b153, sr b348, sr ja, sd u866, se, un, un, un, un, un] [vI p1]) _
        refine XS.ifYes X866.here hx rfl (pc0 := 236) (pc' := 243) rfl (hb hby at_236) rfl ((if0 _ _).trans (flt c872).2.2.2) (by decide) (by decide) ?_
        refine XS.iconst X866.here hx rfl (hb hby at_243) ?_
        show Sp p e below T866 (mkF m 244 #[si p0, si p1, si p2, si p3, si p4, si nn, sr a109, sr a115, sr a123, si i136, si i143, si i150, sr b153, sr b348, sr ja, sd u866, se, un, un, un, un, un] [vI 0]) _
        exact castTop (by rw [hi873]) k
  · rw [if_neg c870] at hi873
    show Sp p e below T866 (mkF m 227 #[si p0, si p1, si p2, si p3, si p4, si nn, sr a109, sr a115, sr a123, si i136, si i143, si i150, sr b153, sr b348, sr ja, sd u866, se, un, un, un, un, un] [vI nn]) _
    refine XS.ifYes X866.here hx rfl (pc0 := 227) (pc' := 243) rfl (hb hby at_227) rfl ((if0 _ _).trans (flt c870).2.2.2) (by decide) (by decide) ?_
    refine XS.iconst X866.here hx rfl (hb hby at_243) ?_
    show Sp p e below T866 (mkF m 244 #[si p0, si p1, si p2, si p3, si p4, si nn, sr a109, sr a115, sr a123, si i136, si i143, si i150, sr b153, sr b348, sr ja, sd u866, se, un, un, un, un, un] [vI 0]) _
    exact castTop (by rw [hi873]) k)
 have k875 := f_is X866 hx k874 (H at_244) (l' := #[si p0, si p1, si p2, si p3, si p4, si nn, sr a109, sr a115, sr a123, si i136, si i143, si i150, sr b153, sr b348, sr ja, sd u866, se, si i873, un, un, un, un]) rfl
 have k876 := f_il X866 hx k875 (H at_246) rfl
 have k877 := f_ic X866 hx k876 (H at_248) (v := 1) rfl
 obtain ⟨i881, hi881⟩ : ∃ z : Int32, z = (if (1 : Int32) < nn then (if i143 = (0 : Int32) then (0 : Int32) else (if (0 : Int32) < p2 then (1 : Int32) else (0 : Int32))) else (0 : Int32)) := ⟨_, rfl⟩
 have k882 : Rt p e below T866 (mkF m 266 #[si p0, si p1, si p2, si p3, si p4, si nn, sr a109, sr a115, sr a123, si i136, si i143, si i150, sr b153, sr b348, sr ja, sd u866, se, si i873, un, un, un, un] [vI i881]) s₁ m #[(.int p0), (.int p1), (.int p2), (.int p3), (.int p4)] maxLocals := fun t k => k877 t (by
  by_cases c878 : (1 : Int32) < nn
  · rw [if_pos c878] at hi881
    show Sp p e below T866 (mkF m 249 #[si p0, si p1, si p2, si p3, si p4, si nn, sr a109, sr a115, sr a123, si i136, si i143, si i150, sr b153, sr b348, sr ja, sd u866, se, si i873, un, un, un, un] [vI 1, vI nn]) _
    refine XS.icmpNo X866.here hx rfl (hb hby at_249) rfl (tlt c878).2.2.2 ?_
    refine XS.iload X866.here hx rfl (hb hby at_252) rfl ?_
    by_cases c879 : i143 = (0 : Int32)
    · rw [if_pos c879] at hi881
      show Sp p e below T866 (mkF m 254 #[si p0, si p1, si p2, si p3, si p4, si nn, sr a109, sr a115, sr a123, si i136, si i143, si i150, sr b153, sr b348, sr ja, sd u866, se, si i873, un, un, un, un] [vI i143]) _
      refine XS.ifYes X866.here hx rfl (pc0 := 254) (pc' := 265) rfl (hb hby at_254) rfl ((if0 _ _).trans (teq c879).1) (by decide) (by decide) ?_
      refine XS.iconst X866.here hx rfl (hb hby at_265) ?_
      show Sp p e below T866 (mkF m 266 #[si p0, si p1, si p2, si p3, si p4, si nn, sr a109, sr a115, sr a123, si i136, si i143, si i150, sr b153, sr b348, sr ja, sd u866, se, si i873, un, un, un, un] [vI 0]) _
      exact castTop (by rw [hi881]) k
    · rw [if_neg c879] at hi881
      show Sp p e below T866 (mkF m 254 #[si p0, si p1, si p2, si p3, si p4, si nn, sr a109, sr a115, sr a123, si i136, si i143, si i150, sr b153, sr b348, sr ja, sd u866, se, si i873, un, un, un, un] [vI i143]) _
      refine XS.ifNo X866.here hx rfl (hb hby at_254) rfl ((if0 _ _).trans (feq c879).1) ?_
      refine XS.iloadN X866.here hx rfl (hb hby at_257) rfl ?_
      by_cases c880 : (0 : Int32) < p2
      · rw [if_pos c880] at hi881
        show Sp p e below T866 (mkF m 258 #[si p0, si p1, si p2, si p3, si p4, si nn, sr a109, sr a115, sr a123, si i136, si i143, si i150, sr b153, sr b348, sr ja, sd u866, se, si i873, un, un, un, un] [vI p2]) _
        refine XS.ifNo X866.here hx rfl (hb hby at_258) rfl ((if0 _ _).trans (tlt c880).2.2.2) ?_
        refine XS.iconst X866.here hx rfl (hb hby at_261) ?_
        refine XS.goto X866.here hx rfl (pc0 := 262) (pc' := 266) rfl (hb hby at_262) (by decide) (by decide) ?_
        show Sp p e below T866 (mkF m 266 #[si p0, si p1, si p2, si p3, si p4, si nn, sr a109, sr a115, sr a123, si i136, si i143, si i150, sr b153, sr b348, sr ja, sd u866, se, si i873, un, un, un, un] [vI 1]) _
        exact castTop (by rw [hi881]) k
      · rw [if_neg c880] at hi881
        show Sp p e below T866 (mkF m 258 #[si p0, si p1, si p2, si p3, si p4, si nn, sr a109, sr a115, sr a123, si i136, si i143, si i150, sr b153, sr b348, sr ja, sd u866, se, si i873, un, un, un, un] [vI p2]) _
        refine XS.ifYes X866.here hx rfl (pc0 := 258) (pc' := 265) rfl (hb hby at_258) rfl ((if0 _ _).trans (flt c880).2.2.2) (by decide) (by decide) ?_
        refine XS.iconst X866.here hx rfl (hb hby at_265) ?_
        show Sp p e below T866 (mkF m 266 #[si p0, si p1, si p2, si p3, si p4, si nn, sr a109, sr a115, sr a123, si i136, si i143, si i150, sr b153, sr b348, sr ja, sd u866, se, si i873, un, un, un, un] [vI 0]) _
        exact castTop (by rw [hi881]) k
  · rw [if_neg c878] at hi881
    show Sp p e below T866 (mkF m 249 #[si p0, si p1, si p2, si p3, si p4, si nn, sr a109, sr a115, sr a123, si i136, si i143, si i150, sr b153, sr b348, sr ja, sd u866, se, si i873, un, un, un, un] [vI 1, vI nn]) _
    refine XS.icmpYes X866.here hx rfl (pc0 := 249) (pc' := 265) rfl (hb hby at_249) rfl (flt c878).2.2.2 (by decide) (by decide) ?_
    refine XS.iconst X866.here hx rfl (hb hby at_265) ?_
    show Sp p e below T866 (mkF m 266 #[si p0, si p1, si p2, si p3, si p4, si nn, sr a109, sr a115, sr a123, si i136, si i143, si i150, sr b153, sr b348, sr ja, sd u866, se, si i873, un, un, un, un] [vI 0]) _
    exact castTop (by rw [hi881]) k)
 have k883 := f_is X866 hx k882 (H at_266) (l' := #[si p0, si p1, si p2, si p3, si p4, si nn, sr a109, sr a115, sr a123, si i136, si i143, si i150, sr b153, sr b348, sr ja, sd u866, se, si i873, si i881, un, un, un]) rfl
 have k884 := f_il X866 hx k883 (H at_268) rfl
 have k885 := f_ic X866 hx k884 (H at_270) (v := 2) rfl
 obtain ⟨i889, hi889⟩ : ∃ z : Int32, z = (if (2 : Int32) < nn then (if i150 = (0 : Int32) then (0 : Int32) else (if (0 : Int32) < p3 then (1 : Int32) else (0 : Int32))) else (0 : Int32)) := ⟨_, rfl⟩
 have k890 : Rt p e below T866 (mkF m 288 #[si p0, si p1, si p2, si p3, si p4, si nn, sr a109, sr a115, sr a123, si i136, si i143, si i150, sr b153, sr b348, sr ja, sd u866, se, si i873, si i881, un, un, un] [vI i889]) s₁ m #[(.int p0), (.int p1), (.int p2), (.int p3), (.int p4)] maxLocals := fun t k => k885 t (by
  by_cases c886 : (2 : Int32) < nn
  · rw [if_pos c886] at hi889
    show Sp p e below T866 (mkF m 271 #[si p0, si p1, si p2, si p3, si p4, si nn, sr a109, sr a115, sr a123, si i136, si i143, si i150, sr b153, sr b348, sr ja, sd u866, se, si i873, si i881, un, un, un] [vI 2, vI nn]) _
    refine XS.icmpNo X866.here hx rfl (hb hby at_271) rfl (tlt c886).2.2.2 ?_
    refine XS.iload X866.here hx rfl (hb hby at_274) rfl ?_
    by_cases c887 : i150 = (0 : Int32)
    · rw [if_pos c887] at hi889
      show Sp p e below T866 (mkF m 276 #[si p0, si p1, si p2, si p3, si p4, si nn, sr a109, sr a115, sr a123, si i136, si i143, si i150, sr b153, sr b348, sr ja, sd u866, se, si i873, si i881, un, un, un] [vI i150]) _
      refine XS.ifYes X866.here hx rfl (pc0 := 276) (pc' := 287) rfl (hb hby at_276) rfl ((if0 _ _).trans (teq c887).1) (by decide) (by decide) ?_
      refine XS.iconst X866.here hx rfl (hb hby at_287) ?_
      show Sp p e below T866 (mkF m 288 #[si p0, si p1, si p2, si p3, si p4, si nn, sr a109, sr a115, sr a123, si i136, si i143, si i150, sr b153, sr b348, sr ja, sd u866, se, si i873, si i881, un, un, un] [vI 0]) _
      exact castTop (by rw [hi889]) k
    · rw [if_neg c887] at hi889
      show Sp p e below T866 (mkF m 276 #[si p0, si p1, si p2, si p3, si p4, si nn, sr a109, sr a115, sr a123, si i136, si i143, si i150, sr b153, sr b348, sr ja, sd u866, se, si i873, si i881, un, un, un] [vI i150]) _
      refine XS.ifNo X866.here hx rfl (hb hby at_276) rfl ((if0 _ _).trans (feq c887).1) ?_
      refine XS.iloadN X866.here hx rfl (hb hby at_279) rfl ?_
      by_cases c888 : (0 : Int32) < p3
      · rw [if_pos c888] at hi889
        show Sp p e below T866 (mkF m 280 #[si p0, si p1, si p2, si p3, si p4, si nn, sr a109, sr a115, sr a123, si i136, si i143, si i150, sr b153, sr b348, sr ja, sd u866, se, si i873, si i881, un, un, un] [vI p3]) _
        refine XS.ifNo X866.here hx rfl (hb hby at_280) rfl ((if0 _ _).trans (tlt c888).2.2.2) ?_
        refine XS.iconst X866.here hx rfl (hb hby at_283) ?_
        refine XS.goto X866.here hx rfl (pc0 := 284) (pc' := 288) rfl (hb hby at_284) (by decide) (by decide) ?_
        show Sp p e below T866 (mkF m 288 #[si p0, si p1, si p2, si p3, si p4, si nn, sr a109, sr a115, sr a123, si i136, si i143, si i150, sr b153, sr b348, sr ja, sd u866, se, si i873, si i881, un, un, un] [vI 1]) _
        exact castTop (by rw [hi889]) k
      · rw [if_neg c888] at hi889
        show Sp p e below T866 (mkF m 280 #[si p0, si p1, si p2, si p3, si p4, si nn, sr a109, sr a115, sr a123, si i136, si i143, si i150, sr b153, sr b348, sr ja, sd u866, se, si i873, si i881, un, un, un] [vI p3]) _
        refine XS.ifYes X866.here hx rfl (pc0 := 280) (pc' := 287) rfl (hb hby at_280) rfl ((if0 _ _).trans (flt c888).2.2.2) (by decide) (by decide) ?_
        refine XS.iconst X866.here hx rfl (hb hby at_287) ?_
        show Sp p e below T866 (mkF m 288 #[si p0, si p1, si p2, si p3, si p4, si nn, sr a109, sr a115, sr a123, si i136, si i143, si i150, sr b153, sr b348, sr ja, sd u866, se, si i873, si i881, un, un, un] [vI 0]) _
        exact castTop (by rw [hi889]) k
  · rw [if_neg c886] at hi889
    show Sp p e below T866 (mkF m 271 #[si p0, si p1, si p2, si p3, si p4, si nn, sr a109, sr a115, sr a123, si i136, si i143, si i150, sr b153, sr b348, sr ja, sd u866, se, si i873, si i881, un, un, un] [vI 2, vI nn]) _
    refine XS.icmpYes X866.here hx rfl (pc0 := 271) (pc' := 287) rfl (hb hby at_271) rfl (flt c886).2.2.2 (by decide) (by decide) ?_
    refine XS.iconst X866.here hx rfl (hb hby at_287) ?_
    show Sp p e below T866 (mkF m 288 #[si p0, si p1, si p2, si p3, si p4, si nn, sr a109, sr a115, sr a123, si i136, si i143, si i150, sr b153, sr b348, sr ja, sd u866, se, si i873, si i881, un, un, un] [vI 0]) _
    exact castTop (by rw [hi889]) k)
 have k891 := f_is X866 hx k890 (H at_288) (l' := #[si p0, si p1, si p2, si p3, si p4, si nn, sr a109, sr a115, sr a123, si i136, si i143, si i150, sr b153, sr b348, sr ja, sd u866, se, si i873, si i881, si i889, un, un]) rfl
 have k892 := f_il X866 hx k891 (H at_290) rfl
 obtain ⟨v896, hv896⟩ : ∃ z : UInt64, z = (if i873 = (0 : Int32) then (if i881 = (0 : Int32) then (if i889 = (0 : Int32) then (0 : UInt64) else (4599676419421066581 : UInt64)) else (4602678819172646912 : UInt64)) else (4607182418800017408 : UInt64)) := ⟨_, rfl⟩
 have k897 : Rt p e below T866 (mkF m 330 #[si p0, si p1, si p2, si p3, si p4, si nn, sr a109, sr a115, sr a123, si i136, si i143, si i150, sr b153, sr b348, sr ja, sd u866, se, si i873, si i881, si i889, sd v896, se] []) s₁ m #[(.int p0), (.int p1), (.int p2), (.int p3), (.int p4)] maxLocals := fun t k => k892 t (by
  by_cases c893 : i873 = (0 : Int32)
  · rw [if_pos c893] at hv896
    show Sp p e below T866 (mkF m 292 #[si p0, si p1, si p2, si p3, si p4, si nn, sr a109, sr a115, sr a123, si i136, si i143, si i150, sr b153, sr b348, sr ja, sd u866, se, si i873, si i881, si i889, un, un] [vI i873]) _
    refine XS.ifYes X866.here hx rfl (pc0 := 292) (pc' := 301) rfl (hb hby at_292) rfl ((if0 _ _).trans (teq c893).1) (by decide) (by decide) ?_
    refine XS.iload X866.here hx rfl (hb hby at_301) rfl ?_
    by_cases c894 : i881 = (0 : Int32)
    · rw [if_pos c894] at hv896
      show Sp p e below T866 (mkF m 303 #[si p0, si p1, si p2, si p3, si p4, si nn, sr a109, sr a115, sr a123, si i136, si i143, si i150, sr b153, sr b348, sr ja, sd u866, se, si i873, si i881, si i889, un, un] [vI i881]) _
      refine XS.ifYes X866.here hx rfl (pc0 := 303) (pc' := 314) rfl (hb hby at_303) rfl ((if0 _ _).trans (teq c894).1) (by decide) (by decide) ?_
      refine XS.iload X866.here hx rfl (hb hby at_314) rfl ?_
      by_cases c895 : i889 = (0 : Int32)
      · rw [if_pos c895] at hv896
        show Sp p e below T866 (mkF m 316 #[si p0, si p1, si p2, si p3, si p4, si nn, sr a109, sr a115, sr a123, si i136, si i143, si i150, sr b153, sr b348, sr ja, sd u866, se, si i873, si i881, si i889, un, un] [vI i889]) _
        refine XS.ifYes X866.here hx rfl (pc0 := 316) (pc' := 327) rfl (hb hby at_316) rfl ((if0 _ _).trans (teq c895).1) (by decide) (by decide) ?_
        refine XS.dconst0 X866.here hx rfl (hb hby at_327) (v := (0 : UInt64)) rfl ?_
        refine XS.dstore X866.here hx rfl (hb hby at_328) rfl (l' := #[.val (.int p0), .val (.int p1), .val (.int p2), .val (.int p3), .val (.int p4), .val (.int nn), .val (.ref a109), .val (.ref a115), .val (.ref a123), .val (.int i136), .val (.int i143), .val (.int i150), .val (.ref b153), .val (.ref b348), .val (.ref ja), .val (.double u866), .second, .val (.int i873), .val (.int i881), .val (.int i889), .val (.double (0 : UInt64)), .second]) rfl ?_
        show Sp p e below T866 (mkF m 330 #[si p0, si p1, si p2, si p3, si p4, si nn, sr a109, sr a115, sr a123, si i136, si i143, si i150, sr b153, sr b348, sr ja, sd u866, se, si i873, si i881, si i889, sd 0, se] []) _
        exact castTop (by rw [hv896]) k
      · rw [if_neg c895] at hv896
        show Sp p e below T866 (mkF m 316 #[si p0, si p1, si p2, si p3, si p4, si nn, sr a109, sr a115, sr a123, si i136, si i143, si i150, sr b153, sr b348, sr ja, sd u866, se, si i873, si i881, si i889, un, un] [vI i889]) _
        refine XS.ifNo X866.here hx rfl (hb hby at_316) rfl ((if0 _ _).trans (feq c895).1) ?_
        refine X866.ldc2DoubleC hx hown (mvT hZ (hww 409 rfl)) (g := (mkF m 319 #[si p0, si p1, si p2, si p3, si p4, si nn, sr a109, sr a115, sr a123, si i136, si i143, si i150, sr b153, sr b348, sr ja, sd u866, se, si i873, si i881, si i889, un, un] [])) rfl (hb hby at_319) _ ?_
        refine XS.dstore X866.here hx rfl (hb hby at_322) rfl (l' := #[.val (.int p0), .val (.int p1), .val (.int p2), .val (.int p3), .val (.int p4), .val (.int nn), .val (.ref a109), .val (.ref a115), .val (.ref a123), .val (.int i136), .val (.int i143), .val (.int i150), .val (.ref b153), .val (.ref b348), .val (.ref ja), .val (.double u866), .second, .val (.int i873), .val (.int i881), .val (.int i889), .val (.double (4599676419421066581 : UInt64)), .second]) rfl ?_
        refine XS.goto X866.here hx rfl (pc0 := 324) (pc' := 330) rfl (hb hby at_324) (by decide) (by decide) ?_
        show Sp p e below T866 (mkF m 330 #[si p0, si p1, si p2, si p3, si p4, si nn, sr a109, sr a115, sr a123, si i136, si i143, si i150, sr b153, sr b348, sr ja, sd u866, se, si i873, si i881, si i889, sd 4599676419421066581, se] []) _
        exact castTop (by rw [hv896]) k
    · rw [if_neg c894] at hv896
      show Sp p e below T866 (mkF m 303 #[si p0, si p1, si p2, si p3, si p4, si nn, sr a109, sr a115, sr a123, si i136, si i143, si i150, sr b153, sr b348, sr ja, sd u866, se, si i873, si i881, si i889, un, un] [vI i881]) _
      refine XS.ifNo X866.here hx rfl (hb hby at_303) rfl ((if0 _ _).trans (feq c894).1) ?_
      refine X866.ldc2DoubleC hx hown (mvT hZ (hww 408 rfl)) (g := (mkF m 306 #[si p0, si p1, si p2, si p3, si p4, si nn, sr a109, sr a115, sr a123, si i136, si i143, si i150, sr b153, sr b348, sr ja, sd u866, se, si i873, si i881, si i889, un, un] [])) rfl (hb hby at_306) _ ?_
      refine XS.dstore X866.here hx rfl (hb hby at_309) rfl (l' := #[.val (.int p0), .val (.int p1), .val (.int p2), .val (.int p3), .val (.int p4), .val (.int nn), .val (.ref a109), .val (.ref a115), .val (.ref a123), .val (.int i136), .val (.int i143), .val (.int i150), .val (.ref b153), .val (.ref b348), .val (.ref ja), .val (.double u866), .second, .val (.int i873), .val (.int i881), .val (.int i889), .val (.double (4602678819172646912 : UInt64)), .second]) rfl ?_
      refine XS.goto X866.here hx rfl (pc0 := 311) (pc' := 330) rfl (hb hby at_311) (by decide) (by decide) ?_
      show Sp p e below T866 (mkF m 330 #[si p0, si p1, si p2, si p3, si p4, si nn, sr a109, sr a115, sr a123, si i136, si i143, si i150, sr b153, sr b348, sr ja, sd u866, se, si i873, si i881, si i889, sd 4602678819172646912, se] []) _
      exact castTop (by rw [hv896]) k
  · rw [if_neg c893] at hv896
    show Sp p e below T866 (mkF m 292 #[si p0, si p1, si p2, si p3, si p4, si nn, sr a109, sr a115, sr a123, si i136, si i143, si i150, sr b153, sr b348, sr ja, sd u866, se, si i873, si i881, si i889, un, un] [vI i873]) _
    refine XS.ifNo X866.here hx rfl (hb hby at_292) rfl ((if0 _ _).trans (feq c893).1) ?_
    refine XS.dconst1 X866.here hx rfl (hb hby at_295) (v := (4607182418800017408 : UInt64)) rfl ?_
    refine XS.dstore X866.here hx rfl (hb hby at_296) rfl (l' := #[.val (.int p0), .val (.int p1), .val (.int p2), .val (.int p3), .val (.int p4), .val (.int nn), .val (.ref a109), .val (.ref a115), .val (.ref a123), .val (.int i136), .val (.int i143), .val (.int i150), .val (.ref b153), .val (.ref b348), .val (.ref ja), .val (.double u866), .second, .val (.int i873), .val (.int i881), .val (.int i889), .val (.double (4607182418800017408 : UInt64)), .second]) rfl ?_
    refine XS.goto X866.here hx rfl (pc0 := 298) (pc' := 330) rfl (hb hby at_298) (by decide) (by decide) ?_
    show Sp p e below T866 (mkF m 330 #[si p0, si p1, si p2, si p3, si p4, si nn, sr a109, sr a115, sr a123, si i136, si i143, si i150, sr b153, sr b348, sr ja, sd u866, se, si i873, si i881, si i889, sd 4607182418800017408, se] []) _
    exact castTop (by rw [hv896]) k)
 have hres := own_fin2 hn3 hu866 hgj0 hgj1 hgj2 hi873 hi881 hi889 hv896
 have k898 := f_dl X866 hx k897 (H at_330) rfl
 have k899 := f_dl X866 hx k898 (H at_332) rfl
 have k900 := f_dc X866 hx k899 (H at_334)
 have k901 := f_ifN X866 hx k900 (H at_335) ((if0 _ _).trans (teq hres).2)
 have k902 := f_ic X866 hx k901 (H at_338) (v := 1) rfl
 have k903 := f_go X866 hx k902 (H at_339) (pc' := 343) (by decide)
 obtain ⟨fs, hr, hrun, hended, hW, hsame⟩ := X866.leave (v := some (.int (1 : Int32))) (fun h => by rw [Bd.returns] at h; cases h)
 refine ⟨_, _, k903 _ (retOut X866 hx (t := .boolean) Bd.returns rfl (Or.inl ⟨rfl, Or.inr (Or.inl rfl), _, rfl⟩) (H at_343) hr), hrun, hended, _, _, rfl, ?_, ⟨_, rfl⟩, hW, hsame.mono (by decide) (by decide)⟩
 show Q_rm0 Z p0 p1 p2 p3 p4 cs ca ce de kd h0 n0 _ T866.heap _
 rw [ee866]
 exact ⟨rfl, N867⟩
set_option maxRecDepth 65536 in
set_option maxHeartbeats 40000000 in
theorem comes_1 {Post : Tables → Env → Array Value → State → Outcome → State → Prop} (hpost : ∀ tb e args s v u, (limb_1_1.after args s (.returned v) u = true ∧ limb_1_2.after args s (.returned v) u = true ∧ True) → FrameEnd s (.returned v) u (Jvm.fieldLocs frame_1_writes args s ++ Jvm.arrayLocs frame_1_arrays args s ++ Jvm.staticLocs frame_1_statics s) 64 256 → Post tb e args s (.returned v) u) :
  ArmFor flags0 classFile x code maxLocals ret World_1 tables_1 room_1 Calls_1 rest_1 Pre_1 Post := by
 intro l hfl _ _ p e ha hc hk s m args below hf hA hF happ hP
 obtain ⟨hcalls, hrest, hpre⟩ := hP
 obtain ⟨-, -, -, hnamed, -, -, -, hat⟩ := (Spec.applies_iff hf).mp happ
 obtain ⟨hg, hn⟩ := and_e (Cond.before_iff.mp (show (Jvm.Cond.and given_1 narrow_1).before args s = true from hpre))
 obtain ⟨g1, g2⟩ := and_e hg
 obtain ⟨g3, g4⟩ := and_e g2
 obtain ⟨g5, g6⟩ := and_e g4
 obtain ⟨g7, g8⟩ := and_e g6
 obtain ⟨g9, g10⟩ := and_e g8
 obtain ⟨w0, w1, w2, w3, w4, rfl⟩ : ∃ w0 w1 w2 w3 w4 : Value, args = #[w0, w1, w2, w3, w4] := by
  have hs : args.size = 5 := by simpa [Cond.value, given_1] using g1
  obtain ⟨L⟩ := args
  match L, hs with
  | [w0, w1, w2, w3, w4], _ => exact ⟨w0, w1, w2, w3, w4, rfl⟩
 have hw := fun d (hd : d ∈ tables_1) => atoms_spec (ws := Jvm.Cond.code x code maxLocals ret :: tables_1) hat d (List.mem_cons_of_mem _ hd)
 obtain ⟨i0, ei0⟩ := is_v g3
 obtain rfl : w0 = (.int i0) := Option.some.inj ei0
 obtain ⟨i1, ei1⟩ := is_v g5
 obtain rfl : w1 = (.int i1) := Option.some.inj ei1
 obtain ⟨i2, ei2⟩ := is_v g7
 obtain rfl : w2 = (.int i2) := Option.some.inj ei2
 obtain ⟨i3, ei3⟩ := is_v g9
 obtain rfl : w3 = (.int i3) := Option.some.inj ei3
 obtain ⟨i4, ei4⟩ := is_v g10
 obtain rfl : w4 = (.int i4) := Option.some.inj ei4
 obtain ⟨hsets, hown0⟩ := atoms_of _ (rest_1_c_eq ▸ (show rest_1_c.before _ s = true from hrest))
 have nz := not_v (Cond.before_iff.mp (hsets _ (List.mem_of_getElem? (i := 2) rfl)))
 obtain ⟨cs, ecs⟩ := is_v (Cond.before_iff.mp (hsets _ (List.mem_of_getElem? (i := 1) rfl)))
 have Scs : Sta s s.heap "java/lang/String" "COMPACT_STRINGS" "Z" (.int cs) := Sta.start ecs (Or.inl (hsets _ (List.mem_of_getElem? (i := 0) rfl)))
 have hcs : ¬ (cs = (0 : Int32)) := gotF (Cond.eq_ints ecs (Term.int_eval (0))) nz
 obtain ⟨de, ede⟩ := arr_v (Cond.before_iff.mp (hsets _ (List.mem_of_getElem? (i := 15) rfl)))
 have Sde : Sta s s.heap "java/util/ArrayList" "DEFAULTCAPACITY_EMPTY_ELEMENTDATA" "[Ljava/lang/Object;" (.ref de) := Sta.start ede (Or.inr ⟨(hw _ (List.mem_of_getElem? (i := 29) rfl)), (hsets _ (List.mem_of_getElem? (i := 11) rfl))⟩)
 obtain ⟨cd, Ad⟩ := Arr.start ede (Cond.before_iff.mp (hsets _ (List.mem_of_getElem? (i := 15) rfl)))
 have Vde := own_arv0 (dv := .null) Ad (own_len Ad ede (eqv_i (Term.int_eval 0) (Cond.before_iff.mp (hsets _ (List.mem_of_getElem? (i := 17) rfl)))))
 have ehi := eqv_i (Term.int_eval 127) (Cond.before_iff.mp (hsets _ (List.mem_of_getElem? (i := 21) rfl)))
 have Shi : Sta s s.heap "java/lang/Integer$IntegerCache" "high" "I" (.int (127 : Int32)) := Sta.start ehi (Or.inl (hsets _ (List.mem_of_getElem? (i := 19) rfl)))
 obtain ⟨ca, eca⟩ := arr_v (Cond.before_iff.mp (hsets _ (List.mem_of_getElem? (i := 22) rfl)))
 have Sca : Sta s s.heap "java/lang/Integer$IntegerCache" "cache" "[Ljava/lang/Integer;" (.ref ca) := Sta.start eca (Or.inr ⟨(hw _ (List.mem_of_getElem? (i := 245) rfl)), (hsets _ (List.mem_of_getElem? (i := 20) rfl))⟩)
 obtain ⟨ce, Ac⟩ := Arr.start eca (Cond.before_iff.mp (hsets _ (List.mem_of_getElem? (i := 22) rfl)))
 have Lc := own_len Ac eca (eqv_i (Term.int_eval 256) (Cond.before_iff.mp (hsets _ (List.mem_of_getElem? (i := 24) rfl))))
 have Bx : Bxs s ca ce "java/lang/Integer" "I" (256 : Int32) (fun j => .int (j - (128 : Int32))) := Bxs.start (fun _ => eca) Ac Lc.2 Lc.1 (by decide) (Cond.before_iff.mp (hsets _ (List.mem_of_getElem? (i := 25) rfl))) (fun X j nn y => eqv_i (own_bxF nn) y)
 obtain ⟨n, o, h1, h2, h3, _, L, rfl, ⟨rfl, N⟩, hq⟩ := rm0 l s _ hw tables_1 i0 i1 i2 i3 i4 cs ca ce de cd.cls s.heap s.heap.size (Nat.le_refl _) Scs hcs Shi Sca Bx Sde Vde (Old.start s) p e ha hc hk s m _ below hf ((Spec.applies_iff_loose hf).mp happ).1 ⟨rfl, State.Warmed39.refl s, rfl⟩ trivial
 refine ⟨n, _, h1, h2, h3, hpost _ _ _ _ _ _ ⟨Cond.after_iff.mpr rfl, Cond.after_iff.mpr (eq_i res_at (Term.int_eval (1)) rfl), trivial⟩ ⟨hq.1, hq.2.1, (hq.2.2.sift fun y hy => Or.inr (N y hy)).mono (by decide) (by decide)⟩⟩
theorem main_1_1 : Claimed_1_1 := comes_1 fun _ _ _ _ _ _ h hF => ⟨h.1, hF⟩
theorem main_1_2 : Claimed_1_2 := comes_1 fun _ _ _ _ _ _ h hF => ⟨h.2.1, hF⟩
end Jvm.Pilot.@@N@@
namespace Jvm.Pilot.@@N@@
open Jvm Jvm.ClassFile Sem Op Lib Jvm.Free Jvm.Stand Jvm.Pilot.@@N@@.Jvm.D
/-! MADE BY PROGRAM (witnessworld.py) out of the Statement's table words and the real class files: 46 classes; the members and pool entries that the words name. The judged class is class 1, her method 1. -/
namespace start1
open Jvm.ClassFile
def u (s : String) : CpInfo := .utf8 (stringToUtf16 s)
def gap : Nat → List CpInfo → List CpInfo
 | 0, r => r
 | n + 1, r => .unusable :: gap n r
def poolList (es : List (Nat × CpInfo)) (last : Nat) : List CpInfo := es.foldr (fun e r => gap e.1 (e.2 :: r)) (gap last [])
def pool (es : List (Nat × CpInfo)) (last : Nat) : Array CpInfo := ⟨poolList es last⟩
def fileOf (pool : Array CpInfo) (this : Nat) (attrs : Array Attribute := #[]) (ms : Array MethodInfo := #[]) (fl : Nat := 33) (sup : Nat := 0) (ifs : Array Nat := #[]) (fds : Array FieldInfo := #[]) : ClassFile where
 minorVersion := 0
 majorVersion := 65
 constantPool := pool
 accessFlags := fl
 thisClass := this
 superClass := sup
 interfaces := ifs
 fields := fds
 methods := ms
 attributes := attrs
def plain (name : String) (sup : Option ClassId) : Class where
 name := name
 kind := .ordinary
 loader := none
 accessFlags := 33
 super := sup
 interfaces := #[]
 cf := none
 fields := #[]
 methods := #[]
 instanceTypes := #[]
 staticTypes := #[]
 resolved := #[]
 callSites := []
 init := .initialized
 statics := none
 mirror := none

def pool0 : Array CpInfo := pool [(5, u "<init>"), (0, u "()V"), (1, .class_ 10), (1, u "java/lang/Object"), (16, u "hashCode"), (0, u "()I"), (67, u "clone"), (0, u "()Ljava/lang/Object;")] 26

def k0c0 : Code := ⟨0, 1, object_method_1_code, #[], #[]⟩
def k0m0 : Method := ⟨"<init>", "()V", ⟨[], none⟩, 1, some k0c0⟩
def k0m1 : Method := ⟨"hashCode", "()I", ⟨[], some .int⟩, 257, none⟩
def k0m2 : Method := ⟨"clone", "()Ljava/lang/Object;", ⟨[], some (.object "java/lang/Object")⟩, 260, none⟩
def k0 : Class := { plain "java/lang/Object" none with
 cf := some (fileOf pool0 8 #[] #[⟨1, 5, 6, #[]⟩, ⟨257, 27, 28, #[]⟩, ⟨260, 96, 97, #[]⟩] 33 0 #[] #[])
 methods := #[k0m0, k0m1, k0m2]
 resolved := Array.replicate 124 none
 }

def pool1 : Array CpInfo := pool [(2, .class_ 4), (0, .nameAndType 5 6), (0, u "java/lang/Object"), (0, u "<init>"), (0, u "()V"), (0, .integer 2147483647), (0, .methodref 9 10), (0, .class_ 11), (0, .nameAndType 12 13), (0, u "java/lang/String"), (0, u "valueOf"), (0, u "(C)Ljava/lang/String;"), (0, .class_ 15), (0, u "java/util/ArrayList"), (0, .methodref 14 3), (0, .class_ 18), (0, u "com/example/multinomial/multinomial/search/ScoredDocument"), (0, .methodref 17 20), (0, .nameAndType 5 21), (0, u "(Ljava/lang/String;D)V"), (0, .methodref 14 23), (0, .nameAndType 24 25), (0, u "add"), (0, u "(Ljava/lang/Object;)Z"), (0, .class_ 27), (0, u "java/util/HashMap"), (0, .methodref 26 3), (0, .methodref 30 31), (0, .class_ 32), (0, .nameAndType 12 33), (0, u "java/lang/Integer"), (0, u "(I)Ljava/lang/Integer;"), (0, .methodref 26 35), (0, .nameAndType 36 37), (0, u "put"), (0, u "(Ljava/lang/Object;Ljava/lang/Object;)Ljava/lang/Object;"), (0, .class_ 39), (0, u "com/example/multinomial/multinomial/eval/JudgedRanking"), (0, .methodref 38 41), (0, .nameAndType 5 42), (0, u "(Ljava/util/List;Ljava/util/Map;)V"), (0, .methodref 38 44), (0, .nameAndType 45 46), (0, u "reciprocalRank"), (0, u "()D"), (0, .double 4602678819172646912), (1, .double 4599676419421066581), (1, .class_ 52), (0, u "com/example/multinomial/multinomial/eval/JudgedRankingReciprocalRankPinLaw"), (2, u "law"), (0, u "(IIIII)Z")] 3

def k1m0 : Method := ⟨"<init>", "()V", ⟨[], none⟩, 1, none⟩
def k1c1 : Code := ⟨6, 22, code, #[], #[]⟩
def k1m1 : Method := ⟨"law", "(IIIII)Z", ⟨[.int, .int, .int, .int, .int], some .boolean⟩, 9, some k1c1⟩
def k1 : Class := { plain "com/example/multinomial/multinomial/eval/JudgedRankingReciprocalRankPinLaw" (some 0) with
 accessFlags := 49
 cf := some (fileOf pool1 51 #[] #[⟨1, 5, 6, #[]⟩, ⟨9, 55, 56, #[]⟩] 49 2 #[] #[])
 methods := #[k1m0, k1m1]
 resolved := Array.replicate 60 none
 }

def pool2 : Array CpInfo := pool [(1, .class_ 2), (0, u "java/io/Serializable"), (0, .class_ 4), (0, u "java/lang/Object")] 2

def k2 : Class := { plain "java/io/Serializable" (some 0) with
 accessFlags := 1537
 cf := some (fileOf pool2 1 #[] #[] 1537 3 #[] #[])
 resolved := Array.replicate 7 none
 }

def pool3 : Array CpInfo := pool [(1, .class_ 2), (0, u "java/lang/Comparable"), (0, .class_ 4), (0, u "java/lang/Object")] 7

def k3 : Class := { plain "java/lang/Comparable" (some 0) with
 accessFlags := 1537
 cf := some (fileOf pool3 1 #[] #[] 1537 3 #[] #[])
 resolved := Array.replicate 12 none
 }

def pool4 : Array CpInfo := pool [(2, .class_ 4), (1, u "java/lang/CharSequence"), (42, .class_ 48), (0, u "java/lang/CharSequence$1CodePointIterator"), (10, .class_ 60), (0, u "java/lang/CharSequence$1CharIterator"), (5, .class_ 67), (0, u "java/lang/Object")] 63

def k4 : Class := { plain "java/lang/CharSequence" (some 0) with
 accessFlags := 1537
 cf := some (fileOf pool4 2 #[.nestMembers #[47, 59]] #[] 1537 66 #[] #[])
 resolved := Array.replicate 131 none
 }

def pool5 : Array CpInfo := pool [(1, .class_ 2), (0, u "java/lang/constant/Constable"), (0, .class_ 4), (0, u "java/lang/Object")] 6

def k5 : Class := { plain "java/lang/constant/Constable" (some 0) with
 accessFlags := 1537
 cf := some (fileOf pool5 1 #[] #[] 1537 3 #[] #[])
 resolved := Array.replicate 11 none
 }

def pool6 : Array CpInfo := pool [(1, .class_ 2), (0, u "java/lang/constant/ConstantDesc"), (0, .class_ 4), (0, u "java/lang/Object")] 32

def k6 : Class := { plain "java/lang/constant/ConstantDesc" (some 0) with
 accessFlags := 1537
 cf := some (fileOf pool6 1 #[] #[] 1537 3 #[] #[])
 resolved := Array.replicate 37 none
 }

def pool7 : Array CpInfo := pool [(1, .methodref 2 3), (0, .class_ 4), (0, .nameAndType 5 6), (0, u "java/lang/Object"), (0, u "<init>"), (0, u "()V"), (2, .fieldref 10 11), (0, .class_ 12), (0, .nameAndType 13 14), (0, u "java/lang/String"), (0, u "value"), (0, u "[B"), (0, .fieldref 10 16), (0, .nameAndType 17 18), (0, u "coder"), (0, u "B"), (0, .fieldref 10 20), (0, .nameAndType 21 22), (0, u "hash"), (0, u "I"), (0, .fieldref 10 24), (0, .nameAndType 25 26), (0, u "hashIsZero"), (0, u "Z"), (11, .fieldref 10 39), (0, .nameAndType 40 26), (0, u "COMPACT_STRINGS"), (12, u "toBytes"), (53, .class_ 109), (1, u "java/lang/StringLatin1"), (32, u "()Z"), (66, .methodref 10 210), (0, .nameAndType 5 211), (0, u "([BB)V"), (122, u "()I"), (34, u "(C)Z"), (122, .methodref 10 493), (0, .nameAndType 494 142), (0, u "isLatin1"), (80, .class_ 576), (0, u "java/lang/CharSequence"), (22, u "CASE_INSENSITIVE_ORDER"), (0, u "Ljava/util/Comparator;"), (27, .methodref 107 629), (0, .nameAndType 630 631), (0, u "hashCode"), (0, u "([B)I"), (150, u "valueOf"), (0, u "(C)Ljava/lang/String;"), (231, .methodref 107 1016), (0, .nameAndType 1017 369), (0, u "canEncode"), (0, .methodref 107 1019), (0, .nameAndType 53 1020), (0, u "(C)[B"), (80, u "serialPersistentFields"), (0, u "[Ljava/io/ObjectStreamField;"), (0, .class_ 1104), (0, u "java/lang/String$CaseInsensitiveComparator"), (1, .class_ 1107), (0, u "java/io/Serializable"), (0, .class_ 1109), (0, u "java/lang/Comparable"), (0, .class_ 1111), (0, u "java/lang/constant/Constable"), (0, .class_ 1113), (0, u "java/lang/constant/ConstantDesc"), (2, u "serialVersionUID"), (0, u "J"), (3, u "REPL"), (0, u "C"), (2, u "LATIN1"), (1, u "UTF16")] 323

def k7m0 : Method := ⟨"<init>", "()V", ⟨[], none⟩, 1, none⟩
def k7c1 : Code := ⟨2, 2, jdk_42_method_78_code, #[], #[]⟩
def k7m1 : Method := ⟨"hashCode", "()I", ⟨[], some .int⟩, 1, some k7c1⟩
def k7c2 : Code := ⟨4, 1, jdk_42_method_139_code, #[], #[]⟩
def k7m2 : Method := ⟨"valueOf", "(C)Ljava/lang/String;", ⟨[.char], some (.object "java/lang/String")⟩, 9, some k7c2⟩
def k7c3 : Code := ⟨2, 3, jdk_42_method_151_code, #[], #[]⟩
def k7m3 : Method := ⟨"<init>", "([BB)V", ⟨[(.array .byte), .byte], none⟩, 0, some k7c3⟩
def k7c4 : Code := ⟨1, 1, jdk_42_method_154_code, #[], #[]⟩
def k7m4 : Method := ⟨"isLatin1", "()Z", ⟨[], some .boolean⟩, 0, some k7c4⟩
def k7 : Class := { plain "java/lang/String" (some 0) with
 accessFlags := 49
 interfaces := #[2, 3, 4, 5, 6]
 cf := some (fileOf pool7 10 #[.nestMembers #[1103]] #[⟨1, 5, 6, #[]⟩, ⟨1, 630, 334, #[]⟩, ⟨9, 782, 783, #[]⟩, ⟨0, 5, 211, #[]⟩, ⟨0, 494, 142, #[]⟩] 49 2 #[1106, 1108, 575, 1110, 1112] #[⟨18, 13, 14, #[]⟩, ⟨18, 17, 18, #[]⟩, ⟨2, 21, 22, #[]⟩, ⟨2, 25, 26, #[]⟩, ⟨26, 1116, 1117, #[]⟩, ⟨24, 40, 26, #[]⟩, ⟨26, 1101, 1102, #[]⟩, ⟨26, 1121, 1122, #[]⟩, ⟨25, 599, 600, #[]⟩, ⟨24, 1125, 18, #[]⟩, ⟨24, 1127, 18, #[]⟩])
 fields := #[⟨"value", (.array .byte), 18, 0, 0⟩, ⟨"coder", .byte, 18, 1, 0⟩, ⟨"hash", .int, 2, 2, 0⟩, ⟨"hashIsZero", .boolean, 2, 3, 0⟩, ⟨"serialVersionUID", .long, 26, 0, 0⟩, ⟨"COMPACT_STRINGS", .boolean, 24, 1, 0⟩, ⟨"serialPersistentFields", (.array (.object "java/io/ObjectStreamField")), 26, 2, 0⟩, ⟨"REPL", .char, 26, 3, 0⟩, ⟨"CASE_INSENSITIVE_ORDER", (.object "java/util/Comparator"), 25, 4, 0⟩, ⟨"LATIN1", .byte, 24, 5, 0⟩, ⟨"UTF16", .byte, 24, 6, 0⟩]
 methods := #[k7m0, k7m1, k7m2, k7m3, k7m4]
 instanceTypes := #[(.array .byte), .byte, .int, .boolean]
 staticTypes := #[.long, .boolean, (.array (.object "java/io/ObjectStreamField")), .char, (.object "java/util/Comparator"), .byte, .byte]
 resolved := Array.replicate 1451 none
 statics := some 0 }

def pool8 : Array CpInfo := pool [(4, .class_ 6), (1, u "java/lang/Object"), (0, u "<init>"), (0, u "()V"), (5, .class_ 16), (1, u "java/lang/StringLatin1"), (40, u "([B)I"), (32, u "canEncode"), (14, u "(C)Z"), (15, u "$assertionsDisabled"), (0, u "Z"), (98, .class_ 223), (1, u "java/lang/StringLatin1$LinesSpliterator"), (74, u "hashCode"), (81, u "toBytes"), (1, u "(C)[B"), (7, .class_ 391), (0, u "java/lang/StringLatin1$CharsSpliterator")] 3

def k8m0 : Method := ⟨"<init>", "()V", ⟨[], none⟩, 0, none⟩
def k8c1 : Code := ⟨2, 1, jdk_43_method_3_code, #[], #[]⟩
def k8m1 : Method := ⟨"canEncode", "(C)Z", ⟨[.char], some .boolean⟩, 9, some k8c1⟩
def k8c2 : Code := ⟨5, 1, jdk_43_method_21_code, #[], #[]⟩
def k8m2 : Method := ⟨"hashCode", "([B)I", ⟨[(.array .byte)], some .int⟩, 9, some k8c2⟩
def k8c3 : Code := ⟨4, 1, jdk_43_method_46_code, #[], #[]⟩
def k8m3 : Method := ⟨"toBytes", "(C)[B", ⟨[.char], some (.array .byte)⟩, 9, some k8c3⟩
def k8 : Class := { plain "java/lang/StringLatin1" (some 0) with
 accessFlags := 48
 cf := some (fileOf pool8 14 #[.nestMembers #[390, 221]] #[⟨0, 7, 8, #[]⟩, ⟨9, 90, 105, #[]⟩, ⟨9, 298, 57, #[]⟩, ⟨9, 380, 382, #[]⟩] 48 4 #[] #[⟨4120, 121, 122, #[]⟩])
 fields := #[⟨"$assertionsDisabled", .boolean, 4120, 0, 0⟩]
 methods := #[k8m0, k8m1, k8m2, k8m3]
 staticTypes := #[.boolean]
 resolved := Array.replicate 395 none
 }

def pool9 : Array CpInfo := pool [(8, .class_ 10), (1, u "java/lang/Iterable"), (24, .class_ 36), (0, u "java/lang/Object")] 25

def k9 : Class := { plain "java/lang/Iterable" (some 0) with
 accessFlags := 1537
 cf := some (fileOf pool9 8 #[] #[] 1537 35 #[] #[])
 resolved := Array.replicate 62 none
 }

def pool10 : Array CpInfo := pool [(10, .class_ 12), (1, u "java/util/Collection"), (10, u "iterator"), (0, u "()Ljava/util/Iterator;"), (35, .class_ 61), (0, u "java/lang/Object"), (0, .class_ 63), (0, u "java/lang/Iterable")] 51

def k10m0 : Method := ⟨"iterator", "()Ljava/util/Iterator;", ⟨[], some (.object "java/util/Iterator")⟩, 1025, none⟩
def k10 : Class := { plain "java/util/Collection" (some 0) with
 accessFlags := 1537
 interfaces := #[9]
 cf := some (fileOf pool10 10 #[] #[⟨1025, 23, 24, #[]⟩] 1537 60 #[62] #[])
 methods := #[k10m0]
 resolved := Array.replicate 115 none
 }

def pool11 : Array CpInfo := pool [(1, .methodref 2 3), (0, .class_ 4), (0, .nameAndType 5 6), (0, u "java/lang/Object"), (0, u "<init>"), (0, u "()V"), (1, .class_ 10), (1, u "java/util/AbstractCollection"), (66, .class_ 78), (0, u "java/util/Collection")] 81

def k11c0 : Code := ⟨1, 1, jdk_22_method_1_code, #[], #[]⟩
def k11m0 : Method := ⟨"<init>", "()V", ⟨[], none⟩, 4, some k11c0⟩
def k11 : Class := { plain "java/util/AbstractCollection" (some 0) with
 accessFlags := 1057
 interfaces := #[10]
 cf := some (fileOf pool11 8 #[] #[⟨4, 5, 6, #[]⟩] 1057 2 #[77] #[])
 methods := #[k11m0]
 resolved := Array.replicate 160 none
 }

def pool12 : Array CpInfo := pool [(8, .class_ 10), (1, u "java/util/SequencedCollection"), (15, .class_ 27), (0, u "java/lang/Object"), (0, .class_ 29), (0, u "java/util/Collection")] 27

def k12 : Class := { plain "java/util/SequencedCollection" (some 0) with
 accessFlags := 1537
 interfaces := #[10]
 cf := some (fileOf pool12 8 #[] #[] 1537 26 #[28] #[])
 resolved := Array.replicate 57 none
 }

def pool13 : Array CpInfo := pool [(8, .class_ 10), (1, u "java/util/List"), (64, u "get"), (0, u "(I)Ljava/lang/Object;"), (2, u "size"), (0, u "()I"), (22, .class_ 104), (0, u "java/lang/Object"), (15, .class_ 121), (0, u "java/util/SequencedCollection")] 129

def k13m0 : Method := ⟨"size", "()I", ⟨[], some .int⟩, 1025, none⟩
def k13m1 : Method := ⟨"get", "(I)Ljava/lang/Object;", ⟨[.int], some (.object "java/lang/Object")⟩, 1025, none⟩
def k13 : Class := { plain "java/util/List" (some 0) with
 accessFlags := 1537
 interfaces := #[12]
 cf := some (fileOf pool13 8 #[] #[⟨1025, 79, 80, #[]⟩, ⟨1025, 75, 76, #[]⟩] 1537 103 #[120] #[])
 methods := #[k13m0, k13m1]
 resolved := Array.replicate 251 none
 }

def pool14 : Array CpInfo := pool [(1, .methodref 2 3), (0, .class_ 4), (0, .nameAndType 5 6), (0, u "java/util/AbstractCollection"), (0, u "<init>"), (0, u "()V"), (0, .fieldref 8 9), (0, .class_ 10), (0, .nameAndType 11 12), (0, u "java/util/AbstractList"), (0, u "modCount"), (0, u "I"), (64, .class_ 78), (0, u "java/util/AbstractList$Itr"), (3, .class_ 83), (0, u "java/util/AbstractList$ListItr"), (9, .class_ 94), (0, u "java/util/AbstractList$RandomAccessSubList"), (3, .class_ 99), (0, u "java/util/AbstractList$SubList"), (33, .class_ 134), (0, u "java/util/List"), (73, .class_ 209), (0, u "java/util/AbstractList$SubList$1"), (0, .class_ 211), (0, u "java/util/AbstractList$RandomAccessSpliterator")] 6

def k14c0 : Code := ⟨2, 1, jdk_39_method_1_code, #[], #[]⟩
def k14m0 : Method := ⟨"<init>", "()V", ⟨[], none⟩, 4, some k14c0⟩
def k14 : Class := { plain "java/util/AbstractList" (some 11) with
 accessFlags := 1057
 interfaces := #[13]
 cf := some (fileOf pool14 8 #[.nestMembers #[93, 98, 208, 210, 82, 77]] #[⟨4, 5, 6, #[]⟩] 1057 2 #[133] #[⟨132, 11, 12, #[]⟩])
 fields := #[⟨"modCount", .int, 132, 0, 0⟩]
 methods := #[k14m0]
 instanceTypes := #[.int]
 resolved := Array.replicate 218 none
 }

def pool15 : Array CpInfo := pool [(1, .class_ 2), (0, u "java/util/RandomAccess"), (0, .class_ 4), (0, u "java/lang/Object")] 2

def k15 : Class := { plain "java/util/RandomAccess" (some 0) with
 accessFlags := 1537
 cf := some (fileOf pool15 1 #[] #[] 1537 3 #[] #[])
 resolved := Array.replicate 7 none
 }

def pool16 : Array CpInfo := pool [(1, .class_ 2), (0, u "java/lang/Cloneable"), (0, .class_ 4), (0, u "java/lang/Object")] 2

def k16 : Class := { plain "java/lang/Cloneable" (some 0) with
 accessFlags := 1537
 cf := some (fileOf pool16 1 #[] #[] 1537 3 #[] #[])
 resolved := Array.replicate 7 none
 }

def pool17 : Array CpInfo := pool [(1, .methodref 2 3), (0, .class_ 4), (0, .nameAndType 5 6), (0, u "java/util/AbstractList"), (0, u "<init>"), (0, u "()V"), (0, .class_ 8), (0, u "java/lang/Object"), (0, .fieldref 10 11), (0, .class_ 12), (0, .nameAndType 13 14), (0, u "java/util/ArrayList"), (0, u "elementData"), (0, u "[Ljava/lang/Object;"), (2, u "EMPTY_ELEMENTDATA"), (21, .fieldref 10 40), (0, .nameAndType 41 14), (0, u "DEFAULTCAPACITY_EMPTY_ELEMENTDATA"), (5, u "()[Ljava/lang/Object;"), (0, .fieldref 10 49), (0, .nameAndType 50 51), (0, u "size"), (0, u "I"), (11, .fieldref 10 64), (0, .nameAndType 65 51), (0, u "modCount"), (3, .methodref 10 70), (0, .nameAndType 71 72), (0, u "grow"), (0, u "(I)[Ljava/lang/Object;"), (6, .methodref 80 81), (0, .class_ 82), (0, .nameAndType 83 84), (0, u "java/lang/Math"), (0, u "max"), (0, u "(II)I"), (11, u "(Ljava/lang/Object;)Z"), (21, .methodref 119 120), (0, .class_ 121), (0, .nameAndType 122 84), (0, u "java/util/Objects"), (0, u "checkIndex"), (0, .methodref 10 124), (0, .nameAndType 13 125), (0, u "(I)Ljava/lang/Object;"), (3, .methodref 10 130), (0, .nameAndType 71 47), (0, .methodref 10 132), (0, .nameAndType 133 134), (0, u "add"), (0, u "(Ljava/lang/Object;[Ljava/lang/Object;I)V"), (13, .class_ 149), (0, u "java/util/List"), (36, u "()I"), (75, .class_ 263), (0, u "java/util/ArrayList$ListItr"), (3, .class_ 268), (0, u "java/util/ArrayList$Itr"), (7, .class_ 277), (0, u "java/util/ArrayList$SubList"), (12, .class_ 291), (0, u "java/util/ArrayList$ArrayListSpliterator"), (37, .class_ 330), (0, u "java/util/RandomAccess"), (0, .class_ 332), (0, u "java/lang/Cloneable"), (0, .class_ 334), (0, u "java/io/Serializable"), (0, u "serialVersionUID"), (0, u "J"), (3, u "DEFAULT_CAPACITY"), (40, u "get"), (118, .class_ 501), (0, u "java/util/ArrayList$SubList$2"), (0, .class_ 503), (0, u "java/util/ArrayList$SubList$1")] 5

def k17c0 : Code := ⟨2, 1, jdk_38_method_2_code, #[], #[]⟩
def k17m0 : Method := ⟨"<init>", "()V", ⟨[], none⟩, 1, some k17c0⟩
def k17c1 : Code := ⟨4, 4, jdk_38_method_6_code, #[], #[]⟩
def k17m1 : Method := ⟨"grow", "(I)[Ljava/lang/Object;", ⟨[.int], some (.array (.object "java/lang/Object"))⟩, 2, some k17c1⟩
def k17c2 : Code := ⟨3, 1, jdk_38_method_7_code, #[], #[]⟩
def k17m2 : Method := ⟨"grow", "()[Ljava/lang/Object;", ⟨[], some (.array (.object "java/lang/Object"))⟩, 2, some k17c2⟩
def k17c3 : Code := ⟨1, 1, jdk_38_method_8_code, #[], #[]⟩
def k17m3 : Method := ⟨"size", "()I", ⟨[], some .int⟩, 1, some k17c3⟩
def k17c4 : Code := ⟨2, 2, jdk_38_method_18_code, #[], #[]⟩
def k17m4 : Method := ⟨"elementData", "(I)Ljava/lang/Object;", ⟨[.int], some (.object "java/lang/Object")⟩, 0, some k17c4⟩
def k17c5 : Code := ⟨2, 2, jdk_38_method_20_code, #[], #[]⟩
def k17m5 : Method := ⟨"get", "(I)Ljava/lang/Object;", ⟨[.int], some (.object "java/lang/Object")⟩, 1, some k17c5⟩
def k17c6 : Code := ⟨3, 4, jdk_38_method_24_code, #[], #[]⟩
def k17m6 : Method := ⟨"add", "(Ljava/lang/Object;[Ljava/lang/Object;I)V", ⟨[(.object "java/lang/Object"), (.array (.object "java/lang/Object")), .int], none⟩, 2, some k17c6⟩
def k17c7 : Code := ⟨4, 2, jdk_38_method_25_code, #[], #[]⟩
def k17m7 : Method := ⟨"add", "(Ljava/lang/Object;)Z", ⟨[(.object "java/lang/Object")], some .boolean⟩, 1, some k17c7⟩
def k17 : Class := { plain "java/util/ArrayList" (some 14) with
 interfaces := #[13, 15, 16, 2]
 cf := some (fileOf pool17 10 #[.nestMembers #[290, 276, 500, 502, 262, 267]] #[⟨1, 5, 6, #[]⟩, ⟨2, 71, 72, #[]⟩, ⟨2, 71, 47, #[]⟩, ⟨1, 50, 186, #[]⟩, ⟨0, 13, 125, #[]⟩, ⟨1, 381, 125, #[]⟩, ⟨2, 133, 134, #[]⟩, ⟨1, 133, 96, #[]⟩] 33 2 #[148, 329, 331, 333] #[⟨26, 335, 336, #[]⟩, ⟨26, 340, 51, #[]⟩, ⟨26, 17, 14, #[]⟩, ⟨26, 41, 14, #[]⟩, ⟨128, 13, 14, #[]⟩, ⟨2, 50, 51, #[]⟩])
 fields := #[⟨"serialVersionUID", .long, 26, 0, 0⟩, ⟨"DEFAULT_CAPACITY", .int, 26, 1, 0⟩, ⟨"EMPTY_ELEMENTDATA", (.array (.object "java/lang/Object")), 26, 2, 0⟩, ⟨"DEFAULTCAPACITY_EMPTY_ELEMENTDATA", (.array (.object "java/lang/Object")), 26, 3, 0⟩, ⟨"elementData", (.array (.object "java/lang/Object")), 128, 1, 0⟩, ⟨"size", .int, 2, 2, 0⟩]
 methods := #[k17m0, k17m1, k17m2, k17m3, k17m4, k17m5, k17m6, k17m7]
 instanceTypes := #[.int, (.array (.object "java/lang/Object")), .int]
 staticTypes := #[.long, .int, (.array (.object "java/lang/Object")), (.array (.object "java/lang/Object"))]
 resolved := Array.replicate 509 none
 statics := some 1 }

def pool18 : Array CpInfo := pool [(2, .class_ 4), (1, u "java/util/Map"), (31, .class_ 37), (0, u "java/util/Map$Entry"), (25, u "(Ljava/lang/Object;Ljava/lang/Object;)Ljava/lang/Object;"), (29, .class_ 94), (0, u "java/lang/Object"), (25, u "size"), (0, u "()I"), (11, u "values"), (0, u "()Ljava/util/Collection;"), (3, u "getOrDefault")] 124

def k18m0 : Method := ⟨"size", "()I", ⟨[], some .int⟩, 1025, none⟩
def k18m1 : Method := ⟨"values", "()Ljava/util/Collection;", ⟨[], some (.object "java/util/Collection")⟩, 1025, none⟩
def k18c2 : Code := ⟨2, 4, ⟨#[0x2a, 0x2b, 0xb9, 0x00, 0x01, 0x02, 0x00, 0x59, 0x4e, 0xc7, 0x00, 0x0d, 0x2a, 0x2b, 0xb9, 0x00, 0x07, 0x02, 0x00, 0x99, 0x00, 0x07, 0x2d, 0xa7, 0x00, 0x04, 0x2c, 0xb0]⟩, #[], #[]⟩
def k18m2 : Method := ⟨"getOrDefault", "(Ljava/lang/Object;Ljava/lang/Object;)Ljava/lang/Object;", ⟨[(.object "java/lang/Object"), (.object "java/lang/Object")], some (.object "java/lang/Object")⟩, 1, some k18c2⟩
def k18 : Class := { plain "java/util/Map" (some 0) with
 accessFlags := 1537
 cf := some (fileOf pool18 2 #[.nestMembers #[36]] #[⟨1025, 120, 121, #[]⟩, ⟨1025, 133, 134, #[]⟩, ⟨1, 138, 63, #[]⟩] 1537 93 #[] #[])
 methods := #[k18m0, k18m1, k18m2]
 resolved := Array.replicate 263 none
 }

def pool19 : Array CpInfo := pool [(1, .methodref 2 3), (0, .class_ 4), (0, .nameAndType 5 6), (0, u "java/lang/Object"), (0, u "<init>"), (0, u "()V"), (1, .class_ 10), (1, u "java/util/AbstractMap"), (42, .class_ 54), (0, u "java/util/Map"), (9, u "keySet"), (0, u "Ljava/util/Set;"), (0, .class_ 67), (0, u "java/util/AbstractMap$1"), (5, u "values"), (0, u "Ljava/util/Collection;"), (0, .class_ 76), (0, u "java/util/AbstractMap$2"), (104, .class_ 182), (0, u "java/util/AbstractMap$ViewCollection"), (0, .class_ 184), (0, u "java/util/AbstractMap$SimpleImmutableEntry"), (0, .class_ 186), (0, u "java/util/AbstractMap$SimpleEntry"), (0, .class_ 188), (0, u "java/util/AbstractMap$2$1"), (0, .class_ 190), (0, u "java/util/AbstractMap$1$1")] 5

def k19c0 : Code := ⟨1, 1, jdk_71_method_1_code, #[], #[]⟩
def k19m0 : Method := ⟨"<init>", "()V", ⟨[], none⟩, 4, some k19c0⟩
def k19 : Class := { plain "java/util/AbstractMap" (some 0) with
 accessFlags := 1057
 interfaces := #[18]
 cf := some (fileOf pool19 8 #[.nestMembers #[181, 183, 185, 75, 187, 66, 189]] #[⟨4, 5, 6, #[]⟩] 1057 2 #[53] #[⟨128, 64, 65, #[]⟩, ⟨128, 73, 74, #[]⟩])
 fields := #[⟨"keySet", (.object "java/util/Set"), 128, 0, 0⟩, ⟨"values", (.object "java/util/Collection"), 128, 1, 0⟩]
 methods := #[k19m0]
 instanceTypes := #[(.object "java/util/Set"), (.object "java/util/Collection")]
 resolved := Array.replicate 196 none
 }

def pool20 : Array CpInfo := pool [(1, .methodref 2 3), (0, .class_ 4), (0, .nameAndType 5 6), (0, u "java/lang/Object"), (0, u "hashCode"), (0, u "()I"), (26, u "(Ljava/lang/Object;)I"), (6, .class_ 41), (0, u "java/util/HashMap"), (1, .methodref 44 45), (0, .class_ 46), (0, .nameAndType 47 48), (0, u "java/util/AbstractMap"), (0, u "<init>"), (0, u "()V"), (32, .fieldref 40 82), (0, .nameAndType 83 84), (0, u "loadFactor"), (0, u "F"), (3, .fieldref 40 89), (0, .nameAndType 90 91), (0, u "threshold"), (0, u "I"), (0, .float 1061158912), (8, .class_ 103), (1, u "java/util/Map"), (0, u "size"), (0, .fieldref 40 106), (0, .nameAndType 107 108), (0, u "table"), (0, u "[Ljava/util/HashMap$Node;"), (8, .methodref 40 118), (0, .nameAndType 119 120), (0, u "resize"), (0, u "()[Ljava/util/HashMap$Node;"), (2, u "entrySet"), (25, .methodref 40 150), (0, .nameAndType 151 33), (0, u "hash"), (0, .methodref 40 153), (0, .nameAndType 154 155), (0, u "putVal"), (0, u "(ILjava/lang/Object;Ljava/lang/Object;ZZ)Ljava/lang/Object;"), (0, .fieldref 40 157), (0, .nameAndType 104 91), (0, .methodref 40 159), (0, .nameAndType 160 161), (0, u "getNode"), (0, u "(Ljava/lang/Object;)Ljava/util/HashMap$Node;"), (0, .fieldref 163 164), (0, .class_ 165), (0, .nameAndType 166 167), (0, u "java/util/HashMap$Node"), (0, u "value"), (0, u "Ljava/lang/Object;"), (0, .fieldref 163 169), (0, .nameAndType 151 91), (0, .fieldref 163 171), (0, .nameAndType 172 167), (0, u "key"), (7, .class_ 181), (0, u "java/util/HashMap$TreeNode"), (4, .methodref 40 187), (0, .nameAndType 188 189), (0, u "newNode"), (0, u "(ILjava/lang/Object;Ljava/lang/Object;Ljava/util/HashMap$Node;)Ljava/util/HashMap$Node;"), (12, .fieldref 40 203), (0, .nameAndType 204 91), (0, u "modCount"), (0, .methodref 40 206), (0, .nameAndType 207 208), (0, u "afterNodeInsertion"), (0, u "(Z)V"), (33, u "Ljava/util/Set;"), (0, .class_ 244), (0, u "java/util/HashMap$KeySet"), (1, .nameAndType 47 247), (0, u "(Ljava/util/HashMap;)V"), (11, .fieldref 40 260), (0, .nameAndType 261 262), (0, u "values"), (0, u "Ljava/util/Collection;"), (0, .class_ 264), (0, u "java/util/HashMap$Values"), (0, .methodref 263 246), (2, .class_ 269), (0, u "java/util/HashMap$EntrySet"), (17, u "(Ljava/lang/Object;Ljava/lang/Object;)Ljava/lang/Object;"), (58, .class_ 348), (1, u "java/util/HashMap$UnsafeHolder"), (26, .methodref 163 376), (0, .nameAndType 47 377), (0, u "(ILjava/lang/Object;Ljava/lang/Object;Ljava/util/HashMap$Node;)V"), (14, .class_ 393), (0, u "java/lang/Cloneable"), (0, .class_ 395), (0, u "java/io/Serializable"), (0, u "serialVersionUID"), (0, u "J"), (3, u "DEFAULT_INITIAL_CAPACITY"), (1, u "MAXIMUM_CAPACITY"), (0, u "DEFAULT_LOAD_FACTOR"), (0, u "TREEIFY_THRESHOLD"), (1, u "UNTREEIFY_THRESHOLD"), (1, u "MIN_TREEIFY_CAPACITY"), (60, u "put"), (45, u "()Ljava/util/Collection;"), (7, u "getOrDefault"), (71, .class_ 597), (0, u "java/util/HashMap$EntrySpliterator"), (0, .class_ 599), (0, u "java/util/HashMap$ValueSpliterator"), (0, .class_ 601), (0, u "java/util/HashMap$KeySpliterator"), (0, .class_ 603), (0, u "java/util/HashMap$HashMapSpliterator"), (0, .class_ 605), (0, u "java/util/HashMap$EntryIterator"), (0, .class_ 607), (0, u "java/util/HashMap$ValueIterator"), (0, .class_ 609), (0, u "java/util/HashMap$KeyIterator"), (0, .class_ 611), (0, u "java/util/HashMap$HashIterator")] 17

def k20c0 : Code := ⟨3, 2, jdk_69_method_1_code, #[], #[]⟩
def k20m0 : Method := ⟨"hash", "(Ljava/lang/Object;)I", ⟨[(.object "java/lang/Object")], some .int⟩, 24, some k20c0⟩
def k20c1 : Code := ⟨2, 1, jdk_69_method_7_code, #[], #[]⟩
def k20m1 : Method := ⟨"<init>", "()V", ⟨[], none⟩, 1, some k20c1⟩
def k20c2 : Code := ⟨1, 1, jdk_69_method_10_code, #[], #[]⟩
def k20m2 : Method := ⟨"size", "()I", ⟨[], some .int⟩, 1, some k20c2⟩
def k20c3 : Code := ⟨4, 8, jdk_69_method_13_code, #[], #[]⟩
def k20m3 : Method := ⟨"getNode", "(Ljava/lang/Object;)Ljava/util/HashMap$Node;", ⟨[(.object "java/lang/Object")], some (.object "java/util/HashMap$Node")⟩, 16, some k20c3⟩
def k20c4 : Code := ⟨6, 3, jdk_69_method_15_code, #[], #[]⟩
def k20m4 : Method := ⟨"put", "(Ljava/lang/Object;Ljava/lang/Object;)Ljava/lang/Object;", ⟨[(.object "java/lang/Object"), (.object "java/lang/Object")], some (.object "java/lang/Object")⟩, 1, some k20c4⟩
def k20c5 : Code := ⟨7, 13, jdk_69_method_16_code, #[], #[]⟩
def k20m5 : Method := ⟨"putVal", "(ILjava/lang/Object;Ljava/lang/Object;ZZ)Ljava/lang/Object;", ⟨[.int, (.object "java/lang/Object"), (.object "java/lang/Object"), .boolean, .boolean], some (.object "java/lang/Object")⟩, 16, some k20c5⟩
def k20c6 : Code := ⟨5, 14, jdk_69_method_17_code, #[], #[]⟩
def k20m6 : Method := ⟨"resize", "()[Ljava/util/HashMap$Node;", ⟨[], some (.array (.object "java/util/HashMap$Node"))⟩, 16, some k20c6⟩
def k20c7 : Code := ⟨3, 2, jdk_69_method_28_code, #[], #[]⟩
def k20m7 : Method := ⟨"values", "()Ljava/util/Collection;", ⟨[], some (.object "java/util/Collection")⟩, 1, some k20c7⟩
def k20c8 : Code := ⟨2, 4, jdk_69_method_30_code, #[], #[]⟩
def k20m8 : Method := ⟨"getOrDefault", "(Ljava/lang/Object;Ljava/lang/Object;)Ljava/lang/Object;", ⟨[(.object "java/lang/Object"), (.object "java/lang/Object")], some (.object "java/lang/Object")⟩, 1, some k20c8⟩
def k20c9 : Code := ⟨6, 5, jdk_69_method_46_code, #[], #[]⟩
def k20m9 : Method := ⟨"newNode", "(ILjava/lang/Object;Ljava/lang/Object;Ljava/util/HashMap$Node;)Ljava/util/HashMap$Node;", ⟨[.int, (.object "java/lang/Object"), (.object "java/lang/Object"), (.object "java/util/HashMap$Node")], some (.object "java/util/HashMap$Node")⟩, 0, some k20c9⟩
def k20c10 : Code := ⟨0, 2, jdk_69_method_52_code, #[], #[]⟩
def k20m10 : Method := ⟨"afterNodeInsertion", "(Z)V", ⟨[.boolean], none⟩, 0, some k20c10⟩
def k20 : Class := { plain "java/util/HashMap" (some 19) with
 interfaces := #[18, 16, 2]
 cf := some (fileOf pool20 40 #[.nestMembers #[180, 596, 598, 600, 602, 604, 606, 608, 610, 346, 268, 263, 243, 163]] #[⟨24, 151, 33, #[]⟩, ⟨1, 47, 48, #[]⟩, ⟨1, 104, 6, #[]⟩, ⟨16, 160, 161, #[]⟩, ⟨1, 470, 287, #[]⟩, ⟨16, 154, 155, #[]⟩, ⟨16, 119, 120, #[]⟩, ⟨1, 261, 516, #[]⟩, ⟨1, 524, 287, #[]⟩, ⟨0, 188, 189, #[]⟩, ⟨0, 207, 208, #[]⟩] 33 44 #[101, 392, 394] #[⟨26, 396, 397, #[]⟩, ⟨24, 401, 91, #[]⟩, ⟨24, 403, 91, #[]⟩, ⟨24, 404, 84, #[]⟩, ⟨24, 405, 91, #[]⟩, ⟨24, 407, 91, #[]⟩, ⟨24, 409, 91, #[]⟩, ⟨128, 107, 108, #[]⟩, ⟨128, 123, 242, #[]⟩, ⟨128, 104, 91, #[]⟩, ⟨128, 204, 91, #[]⟩, ⟨0, 90, 91, #[]⟩, ⟨16, 83, 84, #[]⟩])
 fields := #[⟨"serialVersionUID", .long, 26, 0, 0⟩, ⟨"DEFAULT_INITIAL_CAPACITY", .int, 24, 1, 0⟩, ⟨"MAXIMUM_CAPACITY", .int, 24, 2, 0⟩, ⟨"DEFAULT_LOAD_FACTOR", .float, 24, 3, 0⟩, ⟨"TREEIFY_THRESHOLD", .int, 24, 4, 0⟩, ⟨"UNTREEIFY_THRESHOLD", .int, 24, 5, 0⟩, ⟨"MIN_TREEIFY_CAPACITY", .int, 24, 6, 0⟩, ⟨"table", (.array (.object "java/util/HashMap$Node")), 128, 2, 0⟩, ⟨"entrySet", (.object "java/util/Set"), 128, 3, 0⟩, ⟨"size", .int, 128, 4, 0⟩, ⟨"modCount", .int, 128, 5, 0⟩, ⟨"threshold", .int, 0, 6, 0⟩, ⟨"loadFactor", .float, 16, 7, 0⟩]
 methods := #[k20m0, k20m1, k20m2, k20m3, k20m4, k20m5, k20m6, k20m7, k20m8, k20m9, k20m10]
 instanceTypes := #[(.object "java/util/Set"), (.object "java/util/Collection"), (.array (.object "java/util/HashMap$Node")), (.object "java/util/Set"), .int, .int, .int, .float]
 staticTypes := #[.long, .int, .int, .float, .int, .int, .int]
 resolved := Array.replicate 629 none
 }

def pool21 : Array CpInfo := pool [(1, .methodref 2 3), (0, .class_ 4), (0, .nameAndType 5 6), (0, u "java/lang/Object"), (0, u "<init>"), (0, u "()V"), (0, .interfaceMethodref 8 9), (0, .class_ 10), (0, .nameAndType 11 12), (0, u "java/util/List"), (0, u "size"), (0, u "()I"), (0, .fieldref 14 15), (0, .class_ 16), (0, .nameAndType 17 18), (0, u "com/example/multinomial/multinomial/eval/JudgedRanking"), (0, u "gains"), (0, u "[I"), (0, .interfaceMethodref 8 20), (0, .nameAndType 21 22), (0, u "get"), (0, u "(I)Ljava/lang/Object;"), (0, .class_ 24), (0, u "com/example/multinomial/multinomial/search/ScoredDocument"), (0, .methodref 23 26), (0, .nameAndType 27 28), (0, u "id"), (0, u "()Ljava/lang/String;"), (0, .methodref 30 31), (0, .class_ 32), (0, .nameAndType 33 34), (0, u "java/lang/Integer"), (0, u "valueOf"), (0, u "(I)Ljava/lang/Integer;"), (0, .interfaceMethodref 36 37), (0, .class_ 38), (0, .nameAndType 39 40), (0, u "java/util/Map"), (0, u "getOrDefault"), (0, u "(Ljava/lang/Object;Ljava/lang/Object;)Ljava/lang/Object;"), (0, .methodref 30 42), (0, .nameAndType 43 12), (0, u "intValue"), (0, .methodref 14 45), (0, .nameAndType 46 47), (0, u "gain"), (0, u "(I)I"), (0, .interfaceMethodref 36 9), (0, .interfaceMethodref 36 50), (0, .nameAndType 51 52), (0, u "values"), (0, u "()Ljava/util/Collection;"), (0, .interfaceMethodref 54 55), (0, .class_ 56), (0, .nameAndType 57 58), (0, u "java/util/Collection"), (0, u "iterator"), (0, u "()Ljava/util/Iterator;"), (0, .interfaceMethodref 60 61), (0, .class_ 62), (0, .nameAndType 63 64), (0, u "java/util/Iterator"), (0, u "hasNext"), (0, u "()Z"), (0, .interfaceMethodref 60 66), (0, .nameAndType 67 68), (0, u "next"), (0, u "()Ljava/lang/Object;"), (0, .methodref 70 71), (0, .class_ 72), (0, .nameAndType 73 74), (0, u "java/util/Arrays"), (0, u "copyOf"), (0, u "([II)[I"), (0, .methodref 70 76), (0, .nameAndType 77 78), (0, u "sort"), (0, u "([I)V"), (0, .fieldref 14 80), (0, .nameAndType 81 18), (0, u "idealGains"), (15, .class_ 99), (1, u "java/lang/Math"), (1, u "(II)I"), (6, u "LN_2"), (0, u "D"), (0, .methodref 97 111), (0, .nameAndType 112 101), (0, u "max"), (2, u "(Ljava/util/List;Ljava/util/Map;)V"), (9, u "()D"), (1, u "reciprocalRank")] 5

def k21c0 : Code := ⟨5, 7, prog_10_method_1_code, #[], #[]⟩
def k21m0 : Method := ⟨"<init>", "(Ljava/util/List;Ljava/util/Map;)V", ⟨[(.object "java/util/List"), (.object "java/util/Map")], none⟩, 0, some k21c0⟩
def k21c1 : Code := ⟨4, 4, prog_10_method_7_code, #[], #[]⟩
def k21m1 : Method := ⟨"reciprocalRank", "()D", ⟨[], some .double⟩, 0, some k21c1⟩
def k21c2 : Code := ⟨2, 1, prog_10_method_13_code, #[], #[]⟩
def k21m2 : Method := ⟨"gain", "(I)I", ⟨[.int], some .int⟩, 10, some k21c2⟩
def k21 : Class := { plain "com/example/multinomial/multinomial/eval/JudgedRanking" (some 0) with
 accessFlags := 32
 cf := some (fileOf pool21 14 #[] #[⟨0, 5, 115, #[]⟩, ⟨0, 127, 125, #[]⟩, ⟨10, 46, 47, #[]⟩] 32 2 #[] #[⟨26, 108, 109, #[]⟩, ⟨18, 17, 18, #[]⟩, ⟨18, 81, 18, #[]⟩])
 fields := #[⟨"LN_2", .double, 26, 0, 0⟩, ⟨"gains", (.array .int), 18, 0, 0⟩, ⟨"idealGains", (.array .int), 18, 1, 0⟩]
 methods := #[k21m0, k21m1, k21m2]
 instanceTypes := #[(.array .int), (.array .int)]
 staticTypes := #[.double]
 resolved := Array.replicate 133 none
 }

def pool22 : Array CpInfo := pool [(1, .fieldref 2 3), (0, .class_ 4), (0, .nameAndType 5 6), (0, u "java/util/HashMap$Values"), (0, u "this$0"), (0, u "Ljava/util/HashMap;"), (0, .methodref 8 9), (0, .class_ 10), (0, .nameAndType 11 12), (0, u "java/util/AbstractCollection"), (0, u "<init>"), (0, u "()V"), (1, .class_ 16), (1, u "java/util/HashMap"), (5, .class_ 23), (0, u "java/util/HashMap$ValueIterator"), (0, .methodref 22 25), (0, .nameAndType 11 26), (0, u "(Ljava/util/HashMap;)V"), (56, u "iterator"), (0, u "()Ljava/util/Iterator;")] 35

def k22c0 : Code := ⟨2, 2, jdk_2571_method_1_code, #[], #[]⟩
def k22m0 : Method := ⟨"<init>", "(Ljava/util/HashMap;)V", ⟨[(.object "java/util/HashMap")], none⟩, 0, some k22c0⟩
def k22c1 : Code := ⟨3, 1, jdk_2571_method_4_code, #[], #[]⟩
def k22m1 : Method := ⟨"iterator", "()Ljava/util/Iterator;", ⟨[], some (.object "java/util/Iterator")⟩, 17, some k22c1⟩
def k22 : Class := { plain "java/util/HashMap$Values" (some 11) with
 accessFlags := 48
 cf := some (fileOf pool22 2 #[.nestHost 14] #[⟨0, 11, 26, #[]⟩, ⟨17, 83, 84, #[]⟩] 48 8 #[] #[⟨4112, 5, 6, #[]⟩])
 fields := #[⟨"this$0", (.object "java/util/HashMap"), 4112, 0, 0⟩]
 methods := #[k22m0, k22m1]
 instanceTypes := #[(.object "java/util/HashMap")]
 resolved := Array.replicate 120 none
 }

def pool23 : Array CpInfo := pool [(1, .fieldref 2 3), (0, .class_ 4), (0, .nameAndType 5 6), (0, u "java/util/HashMap$HashIterator"), (0, u "this$0"), (0, u "Ljava/util/HashMap;"), (0, .methodref 8 9), (0, .class_ 10), (0, .nameAndType 11 12), (0, u "java/lang/Object"), (0, u "<init>"), (0, u "()V"), (0, .fieldref 14 15), (0, .class_ 16), (0, .nameAndType 17 18), (0, u "java/util/HashMap"), (0, u "modCount"), (0, u "I"), (0, .fieldref 2 20), (0, .nameAndType 21 18), (0, u "expectedModCount"), (0, .fieldref 14 23), (0, .nameAndType 24 25), (0, u "table"), (0, u "[Ljava/util/HashMap$Node;"), (0, .fieldref 2 27), (0, .nameAndType 28 29), (0, u "next"), (0, u "Ljava/util/HashMap$Node;"), (0, .fieldref 2 31), (0, .nameAndType 32 29), (0, u "current"), (0, .fieldref 2 34), (0, .nameAndType 35 18), (0, u "index"), (0, .fieldref 14 37), (0, .nameAndType 38 18), (0, u "size"), (6, .fieldref 46 27), (0, .class_ 47), (0, u "java/util/HashMap$Node"), (16, u "(Ljava/util/HashMap;)V"), (12, u "hasNext"), (0, u "()Z"), (0, u "nextNode"), (0, u "()Ljava/util/HashMap$Node;")] 10

def k23c0 : Code := ⟨6, 3, jdk_99_method_1_code, #[], #[]⟩
def k23m0 : Method := ⟨"<init>", "(Ljava/util/HashMap;)V", ⟨[(.object "java/util/HashMap")], none⟩, 0, some k23c0⟩
def k23c1 : Code := ⟨1, 1, jdk_99_method_2_code, #[], #[]⟩
def k23m1 : Method := ⟨"hasNext", "()Z", ⟨[], some .boolean⟩, 17, some k23c1⟩
def k23c2 : Code := ⟨6, 3, jdk_99_method_3_code, #[], #[]⟩
def k23m2 : Method := ⟨"nextNode", "()Ljava/util/HashMap$Node;", ⟨[], some (.object "java/util/HashMap$Node")⟩, 16, some k23c2⟩
def k23 : Class := { plain "java/util/HashMap$HashIterator" (some 0) with
 accessFlags := 1056
 cf := some (fileOf pool23 2 #[.nestHost 14] #[⟨0, 11, 64, #[]⟩, ⟨17, 77, 78, #[]⟩, ⟨16, 79, 80, #[]⟩] 1056 8 #[] #[⟨0, 28, 29, #[]⟩, ⟨0, 32, 29, #[]⟩, ⟨0, 21, 18, #[]⟩, ⟨0, 35, 18, #[]⟩, ⟨4112, 5, 6, #[]⟩])
 fields := #[⟨"next", (.object "java/util/HashMap$Node"), 0, 0, 0⟩, ⟨"current", (.object "java/util/HashMap$Node"), 0, 1, 0⟩, ⟨"expectedModCount", .int, 0, 2, 0⟩, ⟨"index", .int, 0, 3, 0⟩, ⟨"this$0", (.object "java/util/HashMap"), 4112, 4, 0⟩]
 methods := #[k23m0, k23m1, k23m2]
 instanceTypes := #[(.object "java/util/HashMap$Node"), (.object "java/util/HashMap$Node"), .int, .int, (.object "java/util/HashMap")]
 resolved := Array.replicate 91 none
 }

def pool24 : Array CpInfo := pool [(16, .class_ 18), (1, u "java/util/Iterator"), (0, u "hasNext"), (0, u "()Z"), (2, u "next"), (0, u "()Ljava/lang/Object;"), (6, .class_ 32), (0, u "java/lang/Object")] 20

def k24m0 : Method := ⟨"hasNext", "()Z", ⟨[], some .boolean⟩, 1025, none⟩
def k24m1 : Method := ⟨"next", "()Ljava/lang/Object;", ⟨[], some (.object "java/lang/Object")⟩, 1025, none⟩
def k24 : Class := { plain "java/util/Iterator" (some 0) with
 accessFlags := 1537
 cf := some (fileOf pool24 16 #[] #[⟨1025, 19, 20, #[]⟩, ⟨1025, 23, 24, #[]⟩] 1537 31 #[] #[])
 methods := #[k24m0, k24m1]
 resolved := Array.replicate 53 none
 }

def pool25 : Array CpInfo := pool [(1, .methodref 2 3), (0, .class_ 4), (0, .nameAndType 5 6), (0, u "java/util/HashMap$HashIterator"), (0, u "<init>"), (0, u "(Ljava/util/HashMap;)V"), (0, .methodref 8 9), (0, .class_ 10), (0, .nameAndType 11 12), (0, u "java/util/HashMap$ValueIterator"), (0, u "nextNode"), (0, u "()Ljava/util/HashMap$Node;"), (0, .fieldref 14 15), (0, .class_ 16), (0, .nameAndType 17 18), (0, u "java/util/HashMap$Node"), (0, u "value"), (0, u "Ljava/lang/Object;"), (0, .class_ 20), (0, u "java/util/Iterator"), (10, u "next"), (0, u "()Ljava/lang/Object;"), (6, .class_ 40), (0, u "java/util/HashMap")] 4

def k25c0 : Code := ⟨2, 2, jdk_2569_method_1_code, #[], #[]⟩
def k25m0 : Method := ⟨"<init>", "(Ljava/util/HashMap;)V", ⟨[(.object "java/util/HashMap")], none⟩, 0, some k25c0⟩
def k25c1 : Code := ⟨1, 1, jdk_2569_method_2_code, #[], #[]⟩
def k25m1 : Method := ⟨"next", "()Ljava/lang/Object;", ⟨[], some (.object "java/lang/Object")⟩, 17, some k25c1⟩
def k25 : Class := { plain "java/util/HashMap$ValueIterator" (some 23) with
 accessFlags := 48
 interfaces := #[24]
 cf := some (fileOf pool25 8 #[.nestHost 39] #[⟨0, 5, 6, #[]⟩, ⟨17, 31, 32, #[]⟩] 48 2 #[19] #[])
 methods := #[k25m0, k25m1]
 instanceTypes := #[(.object "java/util/HashMap$Node"), (.object "java/util/HashMap$Node"), .int, .int, (.object "java/util/HashMap")]
 resolved := Array.replicate 45 none
 }

def pool26 : Array CpInfo := pool [(2, .class_ 4), (1, u "java/lang/Object"), (0, u "<init>"), (0, u "()V"), (0, .methodref 8 9), (0, .class_ 10), (0, .nameAndType 11 12), (0, u "java/util/DualPivotQuicksort"), (0, u "sort"), (0, u "([IIII)V"), (1, .class_ 16), (1, u "java/util/Arrays"), (57, .class_ 76), (1, u "java/util/Arrays$NaturalOrder"), (32, u "()Ljava/lang/Object;"), (3, .class_ 115), (1, u "java/util/Arrays$LegacyMergeSort"), (1, u "Z"), (10, .nameAndType 129 109), (0, u "clone"), (20, .methodref 151 152), (0, .class_ 153), (0, .nameAndType 154 155), (0, u "java/lang/System"), (0, u "arraycopy"), (0, u "(Ljava/lang/Object;ILjava/lang/Object;II)V"), (146, u "copyOf"), (1, .methodref 305 306), (0, .class_ 307), (0, .nameAndType 308 309), (0, u "java/lang/Math"), (0, u "min"), (0, u "(II)I"), (6, .methodref 317 128), (0, .class_ 318), (0, u "[I"), (56, .class_ 376), (0, u "java/util/Arrays$ArrayList"), (68, u "$assertionsDisabled"), (269, u "MIN_ARRAY_SORT_GRAN"), (0, u "I"), (2, u "INSERTIONSORT_THRESHOLD"), (6, u "([I)V"), (144, u "([II)[I"), (103, .class_ 976), (0, u "java/util/Arrays$ArrayItr")] 52

def k26m0 : Method := ⟨"<init>", "()V", ⟨[], none⟩, 2, none⟩
def k26c1 : Code := ⟨4, 1, jdk_65_method_2_code, #[], #[]⟩
def k26m1 : Method := ⟨"sort", "([I)V", ⟨[(.array .int)], none⟩, 9, some k26c1⟩
def k26c2 : Code := ⟨6, 3, jdk_65_method_123_code, #[], #[]⟩
def k26m2 : Method := ⟨"copyOf", "([II)[I", ⟨[(.array .int), .int], some (.array .int)⟩, 9, some k26c2⟩
def k26 : Class := { plain "java/util/Arrays" (some 0) with
 accessFlags := 49
 cf := some (fileOf pool26 14 #[.nestMembers #[975, 375, 113, 74]] #[⟨2, 5, 6, #[]⟩, ⟨9, 11, 726, #[]⟩, ⟨9, 302, 871, #[]⟩] 49 2 #[] #[⟨26, 715, 716, #[]⟩, ⟨26, 719, 716, #[]⟩, ⟨4120, 445, 117, #[]⟩])
 fields := #[⟨"MIN_ARRAY_SORT_GRAN", .int, 26, 0, 0⟩, ⟨"INSERTIONSORT_THRESHOLD", .int, 26, 1, 0⟩, ⟨"$assertionsDisabled", .boolean, 4120, 2, 0⟩]
 methods := #[k26m0, k26m1, k26m2]
 staticTypes := #[.int, .int, .boolean]
 resolved := Array.replicate 1029 none
 }

def pool27 : Array CpInfo := pool [(1, .class_ 2), (0, u "java/util/DualPivotQuicksort"), (5, .class_ 10), (1, u "java/lang/Object"), (0, u "<init>"), (0, u "()V"), (4, .class_ 18), (0, u "java/util/DualPivotQuicksort$Sorter"), (7, .methodref 1 27), (0, .nameAndType 28 29), (0, u "sort"), (0, u "(Ljava/util/DualPivotQuicksort$Sorter;[IIII)V"), (3, u "([IIII)V"), (0, .methodref 1 35), (0, .nameAndType 36 37), (0, u "insertionSort"), (0, u "([III)V"), (30, u "I"), (4, .class_ 74), (0, u "java/util/DualPivotQuicksort$RunMerger"), (10, .class_ 86), (0, u "java/util/DualPivotQuicksort$Merger"), (127, u "MAX_MIXED_INSERTION_SORT_SIZE"), (2, u "MAX_INSERTION_SORT_SIZE"), (1, u "MIN_PARALLEL_SORT_SIZE"), (1, u "MIN_TRY_MERGE_SIZE"), (0, u "MIN_FIRST_RUN_SIZE"), (1, u "MIN_FIRST_RUNS_FACTOR"), (1, u "MAX_RUN_CAPACITY"), (1, u "MIN_RUN_COUNT"), (1, u "MIN_PARALLEL_MERGE_PARTS_SIZE"), (0, u "MIN_BYTE_COUNTING_SORT_SIZE"), (1, u "MIN_SHORT_OR_CHAR_COUNTING_SORT_SIZE"), (1, u "DELTA"), (1, u "MAX_RECURSION_DEPTH"), (1, u "NUM_BYTE_VALUES"), (1, u "MAX_BYTE_INDEX"), (0, u "NUM_CHAR_VALUES"), (0, u "NUM_SHORT_VALUES"), (0, u "MAX_SHORT_INDEX")] 86

def k27m0 : Method := ⟨"<init>", "()V", ⟨[], none⟩, 2, none⟩
def k27c1 : Code := ⟨9, 7, jdk_2529_method_3_code, #[], #[]⟩
def k27m1 : Method := ⟨"sort", "([IIII)V", ⟨[(.array .int), .int, .int, .int], none⟩, 8, some k27c1⟩
def k27c2 : Code := ⟨6, 21, jdk_2529_method_4_code, #[], #[]⟩
def k27m2 : Method := ⟨"sort", "(Ljava/util/DualPivotQuicksort$Sorter;[IIII)V", ⟨[(.object "java/util/DualPivotQuicksort$Sorter"), (.array .int), .int, .int, .int], none⟩, 8, some k27c2⟩
def k27c3 : Code := ⟨4, 6, jdk_2529_method_6_code, #[], #[]⟩
def k27m3 : Method := ⟨"insertionSort", "([III)V", ⟨[(.array .int), .int, .int], none⟩, 10, some k27c3⟩
def k27 : Class := { plain "java/util/DualPivotQuicksort" (some 0) with
 accessFlags := 48
 cf := some (fileOf pool27 1 #[.nestMembers #[73, 85, 17]] #[⟨2, 11, 12, #[]⟩, ⟨8, 28, 33, #[]⟩, ⟨8, 28, 29, #[]⟩, ⟨10, 36, 37, #[]⟩] 48 8 #[] #[⟨26, 214, 68, #[]⟩, ⟨26, 217, 68, #[]⟩, ⟨26, 219, 68, #[]⟩, ⟨26, 221, 68, #[]⟩, ⟨26, 222, 68, #[]⟩, ⟨26, 224, 68, #[]⟩, ⟨26, 226, 68, #[]⟩, ⟨26, 228, 68, #[]⟩, ⟨26, 230, 68, #[]⟩, ⟨26, 231, 68, #[]⟩, ⟨26, 233, 68, #[]⟩, ⟨26, 235, 68, #[]⟩, ⟨26, 237, 68, #[]⟩, ⟨26, 239, 68, #[]⟩, ⟨26, 241, 68, #[]⟩, ⟨26, 242, 68, #[]⟩, ⟨26, 243, 68, #[]⟩, ⟨26, 244, 68, #[]⟩])
 fields := #[⟨"MAX_MIXED_INSERTION_SORT_SIZE", .int, 26, 0, 0⟩, ⟨"MAX_INSERTION_SORT_SIZE", .int, 26, 1, 0⟩, ⟨"MIN_PARALLEL_SORT_SIZE", .int, 26, 2, 0⟩, ⟨"MIN_TRY_MERGE_SIZE", .int, 26, 3, 0⟩, ⟨"MIN_FIRST_RUN_SIZE", .int, 26, 4, 0⟩, ⟨"MIN_FIRST_RUNS_FACTOR", .int, 26, 5, 0⟩, ⟨"MAX_RUN_CAPACITY", .int, 26, 6, 0⟩, ⟨"MIN_RUN_COUNT", .int, 26, 7, 0⟩, ⟨"MIN_PARALLEL_MERGE_PARTS_SIZE", .int, 26, 8, 0⟩, ⟨"MIN_BYTE_COUNTING_SORT_SIZE", .int, 26, 9, 0⟩, ⟨"MIN_SHORT_OR_CHAR_COUNTING_SORT_SIZE", .int, 26, 10, 0⟩, ⟨"DELTA", .int, 26, 11, 0⟩, ⟨"MAX_RECURSION_DEPTH", .int, 26, 12, 0⟩, ⟨"NUM_BYTE_VALUES", .int, 26, 13, 0⟩, ⟨"MAX_BYTE_INDEX", .int, 26, 14, 0⟩, ⟨"NUM_CHAR_VALUES", .int, 26, 15, 0⟩, ⟨"NUM_SHORT_VALUES", .int, 26, 16, 0⟩, ⟨"MAX_SHORT_INDEX", .int, 26, 17, 0⟩]
 methods := #[k27m0, k27m1, k27m2, k27m3]
 staticTypes := #[.int, .int, .int, .int, .int, .int, .int, .int, .int, .int, .int, .int, .int, .int, .int, .int, .int, .int]
 resolved := Array.replicate 331 none
 }

def pool28 : Array CpInfo := pool [(1, .methodref 2 3), (0, .class_ 4), (0, .nameAndType 5 6), (0, u "java/lang/Object"), (0, u "<init>"), (0, u "()V"), (0, .fieldref 8 9), (0, .class_ 10), (0, .nameAndType 11 12), (0, u "com/example/multinomial/multinomial/search/ScoredDocument"), (0, u "id"), (0, u "Ljava/lang/String;"), (0, .fieldref 8 14), (0, .nameAndType 15 16), (0, u "score"), (0, u "D"), (0, u "(Ljava/lang/String;D)V"), (2, u "()Ljava/lang/String;")] 3

def k28c0 : Code := ⟨3, 4, prog_44_method_1_code, #[], #[]⟩
def k28m0 : Method := ⟨"<init>", "(Ljava/lang/String;D)V", ⟨[(.object "java/lang/String"), .double], none⟩, 1, some k28c0⟩
def k28c1 : Code := ⟨1, 1, prog_44_method_2_code, #[], #[]⟩
def k28m1 : Method := ⟨"id", "()Ljava/lang/String;", ⟨[], some (.object "java/lang/String")⟩, 1, some k28c1⟩
def k28 : Class := { plain "com/example/multinomial/multinomial/search/ScoredDocument" (some 0) with
 cf := some (fileOf pool28 8 #[] #[⟨1, 5, 17, #[]⟩, ⟨1, 11, 20, #[]⟩] 33 2 #[] #[⟨18, 11, 12, #[]⟩, ⟨18, 15, 16, #[]⟩])
 fields := #[⟨"id", (.object "java/lang/String"), 18, 0, 0⟩, ⟨"score", .double, 18, 1, 0⟩]
 methods := #[k28m0, k28m1]
 instanceTypes := #[(.object "java/lang/String"), .double]
 resolved := Array.replicate 24 none
 }

def pool29 : Array CpInfo := pool [(1, .class_ 2), (0, u "java/lang/Math"), (1, .class_ 6), (1, u "java/lang/Object"), (0, u "<init>"), (0, u "()V"), (89, .class_ 100), (1, u "java/lang/Math$RandomNumberGeneratorHolder"), (71, u "negativeZeroFloatBits"), (0, u "J"), (2, u "negativeZeroDoubleBits"), (21, u "max"), (2, u "min"), (43, u "$assertionsDisabled"), (0, u "Z"), (88, u "(II)I"), (2, u "twoToTheDoubleScaleDown"), (0, u "D"), (4, u "twoToTheDoubleScaleUp"), (9, u "E"), (3, u "PI"), (2, u "TAU"), (2, u "DEGREES_TO_RADIANS"), (0, u "RADIANS_TO_DEGREES")] 94

def k29m0 : Method := ⟨"<init>", "()V", ⟨[], none⟩, 2, none⟩
def k29c1 : Code := ⟨2, 2, jdk_29_method_65_code, #[], #[]⟩
def k29m1 : Method := ⟨"max", "(II)I", ⟨[.int, .int], some .int⟩, 9, some k29c1⟩
def k29c2 : Code := ⟨2, 2, jdk_29_method_69_code, #[], #[]⟩
def k29m2 : Method := ⟨"min", "(II)I", ⟨[.int, .int], some .int⟩, 9, some k29c2⟩
def k29 : Class := { plain "java/lang/Math" (some 0) with
 accessFlags := 49
 cf := some (fileOf pool29 1 #[.nestMembers #[98]] #[⟨2, 7, 8, #[]⟩, ⟨9, 198, 335, #[]⟩, ⟨9, 201, 335, #[]⟩] 49 4 #[] #[⟨25, 354, 339, #[]⟩, ⟨25, 358, 339, #[]⟩, ⟨25, 361, 339, #[]⟩, ⟨26, 364, 339, #[]⟩, ⟨26, 365, 339, #[]⟩, ⟨26, 172, 173, #[]⟩, ⟨26, 176, 173, #[]⟩, ⟨8, 344, 339, #[]⟩, ⟨8, 338, 339, #[]⟩, ⟨4120, 245, 246, #[]⟩])
 fields := #[⟨"E", .double, 25, 0, 0⟩, ⟨"PI", .double, 25, 1, 0⟩, ⟨"TAU", .double, 25, 2, 0⟩, ⟨"DEGREES_TO_RADIANS", .double, 26, 3, 0⟩, ⟨"RADIANS_TO_DEGREES", .double, 26, 4, 0⟩, ⟨"negativeZeroFloatBits", .long, 26, 5, 0⟩, ⟨"negativeZeroDoubleBits", .long, 26, 6, 0⟩, ⟨"twoToTheDoubleScaleUp", .double, 8, 7, 0⟩, ⟨"twoToTheDoubleScaleDown", .double, 8, 8, 0⟩, ⟨"$assertionsDisabled", .boolean, 4120, 9, 0⟩]
 methods := #[k29m0, k29m1, k29m2]
 staticTypes := #[.double, .double, .double, .double, .double, .long, .long, .double, .double, .boolean]
 resolved := Array.replicate 460 none
 }

def pool30 : Array CpInfo := pool [(1, .methodref 2 3), (0, .class_ 4), (0, .nameAndType 5 6), (0, u "java/lang/Object"), (0, u "<init>"), (0, u "()V"), (1, .class_ 10), (1, u "java/lang/Number"), (2, .class_ 14), (0, u "java/io/Serializable"), (0, u "serialVersionUID"), (0, u "J")] 20

def k30c0 : Code := ⟨1, 1, jdk_18_method_1_code, #[], #[]⟩
def k30m0 : Method := ⟨"<init>", "()V", ⟨[], none⟩, 1, some k30c0⟩
def k30 : Class := { plain "java/lang/Number" (some 0) with
 accessFlags := 1057
 interfaces := #[2]
 cf := some (fileOf pool30 8 #[] #[⟨1, 5, 6, #[]⟩] 1057 2 #[13] #[⟨26, 15, 16, #[]⟩])
 fields := #[⟨"serialVersionUID", .long, 26, 0, 0⟩]
 methods := #[k30m0]
 staticTypes := #[.long]
 resolved := Array.replicate 37 none
 }

def pool31 : Array CpInfo := pool [(1, .class_ 2), (0, u "java/lang/Integer"), (16, u "digits"), (0, u "[C"), (46, u "<init>"), (17, u "DigitOnes"), (0, u "[B"), (2, u "DigitTens"), (10, .nameAndType 67 101), (0, u "()V"), (19, u "()I"), (65, u "valueOf"), (0, u "(I)Ljava/lang/Integer;"), (0, .class_ 190), (0, u "java/lang/Integer$IntegerCache"), (0, .fieldref 189 192), (0, .nameAndType 193 194), (0, u "high"), (0, u "I"), (0, .fieldref 189 196), (0, .nameAndType 197 198), (0, u "cache"), (0, u "[Ljava/lang/Integer;"), (0, .methodref 1 200), (0, .nameAndType 67 201), (0, u "(I)V"), (0, .methodref 203 100), (0, .class_ 204), (0, u "java/lang/Number"), (0, .fieldref 1 206), (0, .nameAndType 207 194), (0, u "value"), (5, u "intValue"), (88, u "TYPE"), (0, u "Ljava/lang/Class;"), (0, .class_ 305), (0, u "java/lang/Comparable"), (0, .class_ 307), (0, u "java/lang/constant/Constable"), (0, .class_ 309), (0, u "java/lang/constant/ConstantDesc"), (0, u "MIN_VALUE"), (1, u "MAX_VALUE"), (3, u "SIZE"), (1, u "BYTES"), (1, u "serialVersionUID"), (0, u "J")] 131

def k31c0 : Code := ⟨3, 1, jdk_33_method_22_code, #[], #[]⟩
def k31m0 : Method := ⟨"valueOf", "(I)Ljava/lang/Integer;", ⟨[.int], some (.object "java/lang/Integer")⟩, 9, some k31c0⟩
def k31c1 : Code := ⟨2, 2, jdk_33_method_23_code, #[], #[]⟩
def k31m1 : Method := ⟨"<init>", "(I)V", ⟨[.int], none⟩, 1, some k31c1⟩
def k31c2 : Code := ⟨1, 1, jdk_33_method_27_code, #[], #[]⟩
def k31m2 : Method := ⟨"intValue", "()I", ⟨[], some .int⟩, 1, some k31c2⟩
def k31 : Class := { plain "java/lang/Integer" (some 30) with
 accessFlags := 49
 interfaces := #[3, 5, 6]
 cf := some (fileOf pool31 1 #[.nestMembers #[189]] #[⟨9, 187, 188, #[]⟩, ⟨1, 67, 201, #[]⟩, ⟨1, 213, 121, #[]⟩] 49 203 #[304, 306, 308] #[⟨25, 310, 194, #[]⟩, ⟨25, 312, 194, #[]⟩, ⟨25, 302, 303, #[]⟩, ⟨24, 19, 20, #[]⟩, ⟨24, 89, 86, #[]⟩, ⟨24, 85, 86, #[]⟩, ⟨18, 207, 194, #[]⟩, ⟨25, 316, 194, #[]⟩, ⟨25, 318, 194, #[]⟩, ⟨26, 320, 321, #[]⟩])
 fields := #[⟨"MIN_VALUE", .int, 25, 0, 0⟩, ⟨"MAX_VALUE", .int, 25, 1, 0⟩, ⟨"TYPE", (.object "java/lang/Class"), 25, 2, 0⟩, ⟨"digits", (.array .char), 24, 3, 0⟩, ⟨"DigitTens", (.array .byte), 24, 4, 0⟩, ⟨"DigitOnes", (.array .byte), 24, 5, 0⟩, ⟨"value", .int, 18, 0, 0⟩, ⟨"SIZE", .int, 25, 6, 0⟩, ⟨"BYTES", .int, 25, 7, 0⟩, ⟨"serialVersionUID", .long, 26, 8, 0⟩]
 methods := #[k31m0, k31m1, k31m2]
 instanceTypes := #[.int]
 staticTypes := #[.int, .int, (.object "java/lang/Class"), (.array .char), (.array .byte), (.array .byte), .int, .int, .long]
 resolved := Array.replicate 453 none
 }

def pool32 : Array CpInfo := pool [(2, .class_ 4), (1, u "java/lang/Object"), (0, u "<init>"), (0, u "()V"), (0, .class_ 8), (0, u "java/lang/Integer"), (7, .class_ 18), (1, u "java/lang/Integer$IntegerCache"), (0, u "$assertionsDisabled"), (0, u "Z"), (26, u "high"), (0, u "I"), (8, u "archivedCache"), (0, u "[Ljava/lang/Integer;"), (12, u "cache"), (0, u "low")] 27

def k32m0 : Method := ⟨"<init>", "()V", ⟨[], none⟩, 2, none⟩
def k32 : Class := { plain "java/lang/Integer$IntegerCache" (some 0) with
 accessFlags := 48
 cf := some (fileOf pool32 16 #[.nestHost 7] #[⟨2, 5, 6, #[]⟩] 48 2 #[] #[⟨24, 72, 48, #[]⟩, ⟨24, 47, 48, #[]⟩, ⟨24, 71, 58, #[]⟩, ⟨8, 57, 58, #[]⟩, ⟨4120, 19, 20, #[]⟩])
 fields := #[⟨"low", .int, 24, 0, 0⟩, ⟨"high", .int, 24, 1, 0⟩, ⟨"cache", (.array (.object "java/lang/Integer")), 24, 2, 0⟩, ⟨"archivedCache", (.array (.object "java/lang/Integer")), 8, 3, 0⟩, ⟨"$assertionsDisabled", .boolean, 4120, 4, 0⟩]
 methods := #[k32m0]
 staticTypes := #[.int, .int, (.array (.object "java/lang/Integer")), (.array (.object "java/lang/Integer")), .boolean]
 resolved := Array.replicate 100 none
 statics := some 2 }

def pool33 : Array CpInfo := pool [(23, .class_ 25), (1, u "java/util/Map$Entry"), (6, .class_ 34), (1, u "java/util/Map"), (34, .class_ 70), (0, u "java/lang/Object")] 107

def k33 : Class := { plain "java/util/Map$Entry" (some 0) with
 accessFlags := 1537
 cf := some (fileOf pool33 23 #[.nestHost 32] #[] 1537 69 #[] #[])
 resolved := Array.replicate 178 none
 }

def pool34 : Array CpInfo := pool [(1, .methodref 2 3), (0, .class_ 4), (0, .nameAndType 5 6), (0, u "java/lang/Object"), (0, u "<init>"), (0, u "()V"), (0, .fieldref 8 9), (0, .class_ 10), (0, .nameAndType 11 12), (0, u "java/util/HashMap$Node"), (0, u "hash"), (0, u "I"), (0, .fieldref 8 14), (0, .nameAndType 15 16), (0, u "key"), (0, u "Ljava/lang/Object;"), (0, .fieldref 8 18), (0, .nameAndType 19 16), (0, u "value"), (0, .fieldref 8 21), (0, .nameAndType 22 23), (0, u "next"), (0, u "Ljava/util/HashMap$Node;"), (22, .class_ 47), (0, u "java/util/Map$Entry"), (15, u "(ILjava/lang/Object;Ljava/lang/Object;Ljava/util/HashMap$Node;)V"), (24, .class_ 89), (0, u "java/util/HashMap")] 5

def k34c0 : Code := ⟨2, 5, jdk_70_method_1_code, #[], #[]⟩
def k34m0 : Method := ⟨"<init>", "(ILjava/lang/Object;Ljava/lang/Object;Ljava/util/HashMap$Node;)V", ⟨[.int, (.object "java/lang/Object"), (.object "java/lang/Object"), (.object "java/util/HashMap$Node")], none⟩, 0, some k34c0⟩
def k34 : Class := { plain "java/util/HashMap$Node" (some 0) with
 accessFlags := 32
 interfaces := #[33]
 cf := some (fileOf pool34 8 #[.nestHost 88] #[⟨0, 5, 63, #[]⟩] 32 2 #[46] #[⟨16, 11, 12, #[]⟩, ⟨16, 15, 16, #[]⟩, ⟨0, 19, 16, #[]⟩, ⟨0, 22, 23, #[]⟩])
 fields := #[⟨"hash", .int, 16, 0, 0⟩, ⟨"key", (.object "java/lang/Object"), 16, 1, 0⟩, ⟨"value", (.object "java/lang/Object"), 0, 2, 0⟩, ⟨"next", (.object "java/util/HashMap$Node"), 0, 3, 0⟩]
 methods := #[k34m0]
 instanceTypes := #[.int, (.object "java/lang/Object"), (.object "java/lang/Object"), (.object "java/util/HashMap$Node")]
 resolved := Array.replicate 95 none
 }

def pool35 : Array CpInfo := pool [(2, .class_ 4), (1, u "java/lang/Object"), (0, u "<init>"), (0, u "()V"), (35, .class_ 44), (1, u "java/util/Objects"), (60, .methodref 106 107), (0, .class_ 108), (0, .nameAndType 109 110), (0, u "jdk/internal/util/Preconditions"), (0, u "checkIndex"), (0, u "(IILjava/util/function/BiFunction;)I"), (60, u "(II)I")] 12

def k35m0 : Method := ⟨"<init>", "()V", ⟨[], none⟩, 2, none⟩
def k35c1 : Code := ⟨3, 2, jdk_31_method_17_code, #[], #[]⟩
def k35m1 : Method := ⟨"checkIndex", "(II)I", ⟨[.int, .int], some .int⟩, 9, some k35c1⟩
def k35 : Class := { plain "java/util/Objects" (some 0) with
 accessFlags := 49
 cf := some (fileOf pool35 42 #[] #[⟨2, 5, 6, #[]⟩, ⟨9, 109, 171, #[]⟩] 49 2 #[] #[])
 methods := #[k35m0, k35m1]
 resolved := Array.replicate 184 none
 }

def pool36 : Array CpInfo := pool [(2, .class_ 4), (1, u "java/lang/Object"), (0, u "<init>"), (0, u "()V"), (17, .class_ 26), (1, u "jdk/internal/util/Preconditions"), (6, u "checkIndex"), (21, .class_ 56), (0, u "jdk/internal/util/Preconditions$4"), (57, .class_ 115), (0, u "jdk/internal/util/Preconditions$1"), (7, u "SIOOBE_FORMATTER"), (0, u "Ljava/util/function/BiFunction;"), (0, .class_ 126), (0, u "jdk/internal/util/Preconditions$2"), (3, u "AIOOBE_FORMATTER"), (0, .class_ 132), (0, u "jdk/internal/util/Preconditions$3"), (3, u "IOOBE_FORMATTER"), (41, u "(IILjava/util/function/BiFunction;)I")] 15

def k36m0 : Method := ⟨"<init>", "()V", ⟨[], none⟩, 1, none⟩
def k36c1 : Code := ⟨3, 3, jdk_41_method_11_code, #[], #[]⟩
def k36m1 : Method := ⟨"checkIndex", "(IILjava/util/function/BiFunction;)I", ⟨[.int, .int, (.object "java/util/function/BiFunction")], some .int⟩, 9, some k36c1⟩
def k36 : Class := { plain "jdk/internal/util/Preconditions" (some 0) with
 cf := some (fileOf pool36 24 #[.nestMembers #[55, 131, 125, 114]] #[⟨1, 5, 6, #[]⟩, ⟨9, 33, 178, #[]⟩] 33 2 #[] #[⟨25, 123, 124, #[]⟩, ⟨25, 130, 124, #[]⟩, ⟨25, 136, 124, #[]⟩])
 fields := #[⟨"SIOOBE_FORMATTER", (.object "java/util/function/BiFunction"), 25, 0, 0⟩, ⟨"AIOOBE_FORMATTER", (.object "java/util/function/BiFunction"), 25, 1, 0⟩, ⟨"IOOBE_FORMATTER", (.object "java/util/function/BiFunction"), 25, 2, 0⟩]
 methods := #[k36m0, k36m1]
 staticTypes := #[(.object "java/util/function/BiFunction"), (.object "java/util/function/BiFunction"), (.object "java/util/function/BiFunction")]
 resolved := Array.replicate 194 none
 statics := some 3 }

def pool37 : Array CpInfo := pool [(2, .class_ 4), (1, u "java/lang/Object"), (0, u "<init>"), (0, u "()V"), (1, .class_ 10), (1, u "java/lang/System"), (0, u "allowSecurityManager"), (0, u "I"), (16, u "cons"), (0, u "Ljava/io/Console;"), (77, .class_ 110), (1, u "java/lang/System$CallersHolder"), (43, u "initialErrStream"), (0, u "Ljava/io/PrintStream;"), (19, u "security"), (0, u "Ljava/lang/SecurityManager;"), (31, .class_ 209), (0, u "java/lang/System$1"), (7, u "props"), (0, u "Ljava/util/Properties;"), (2, u "lineSeparator"), (0, u "Ljava/lang/String;"), (96, .class_ 321), (1, u "java/lang/System$LoggerFinder"), (5, .class_ 328), (0, u "java/lang/System$Logger"), (67, u "err"), (2, u "out"), (91, u "notSupportedJnuEncoding"), (15, u "in"), (17, u "initialIn"), (0, u "Ljava/io/InputStream;"), (35, u "bootLayer"), (0, u "Ljava/lang/ModuleLayer;"), (99, .class_ 664), (0, u "java/lang/System$2"), (9, u "NEVER"), (2, u "MAYBE"), (49, u "arraycopy"), (0, u "(Ljava/lang/Object;ILjava/lang/Object;II)V"), (72, .class_ 802), (0, u "java/lang/System$Logger$Level")] 31

def k37m0 : Method := ⟨"<init>", "()V", ⟨[], none⟩, 2, none⟩
def k37m1 : Method := ⟨"arraycopy", "(Ljava/lang/Object;ILjava/lang/Object;II)V", ⟨[(.object "java/lang/Object"), .int, (.object "java/lang/Object"), .int, .int], none⟩, 265, none⟩
def k37 : Class := { plain "java/lang/System" (some 0) with
 accessFlags := 49
 cf := some (fileOf pool37 8 #[.nestMembers #[319, 327, 801, 108, 663, 208]] #[⟨2, 5, 6, #[]⟩, ⟨265, 727, 728, #[]⟩] 49 2 #[] #[⟨25, 507, 526, #[]⟩, ⟨25, 399, 155, #[]⟩, ⟨25, 396, 155, #[]⟩, ⟨10, 525, 526, #[]⟩, ⟨26, 674, 12, #[]⟩, ⟨26, 677, 12, #[]⟩, ⟨10, 11, 12, #[]⟩, ⟨74, 175, 176, #[]⟩, ⟨10, 491, 222, #[]⟩, ⟨74, 29, 30, #[]⟩, ⟨74, 154, 155, #[]⟩, ⟨10, 217, 218, #[]⟩, ⟨10, 221, 222, #[]⟩, ⟨8, 562, 563, #[]⟩])
 fields := #[⟨"in", (.object "java/io/InputStream"), 25, 0, 0⟩, ⟨"out", (.object "java/io/PrintStream"), 25, 1, 0⟩, ⟨"err", (.object "java/io/PrintStream"), 25, 2, 0⟩, ⟨"initialIn", (.object "java/io/InputStream"), 10, 3, 0⟩, ⟨"NEVER", .int, 26, 4, 0⟩, ⟨"MAYBE", .int, 26, 5, 0⟩, ⟨"allowSecurityManager", .int, 10, 6, 0⟩, ⟨"security", (.object "java/lang/SecurityManager"), 74, 7, 0⟩, ⟨"notSupportedJnuEncoding", (.object "java/lang/String"), 10, 8, 0⟩, ⟨"cons", (.object "java/io/Console"), 74, 9, 0⟩, ⟨"initialErrStream", (.object "java/io/PrintStream"), 74, 10, 0⟩, ⟨"props", (.object "java/util/Properties"), 10, 11, 0⟩, ⟨"lineSeparator", (.object "java/lang/String"), 10, 12, 0⟩, ⟨"bootLayer", (.object "java/lang/ModuleLayer"), 8, 13, 0⟩]
 methods := #[k37m0, k37m1]
 staticTypes := #[(.object "java/io/InputStream"), (.object "java/io/PrintStream"), (.object "java/io/PrintStream"), (.object "java/io/InputStream"), .int, .int, .int, (.object "java/lang/SecurityManager"), (.object "java/lang/String"), (.object "java/io/Console"), (.object "java/io/PrintStream"), (.object "java/util/Properties"), (.object "java/lang/String"), (.object "java/lang/ModuleLayer")]
 resolved := Array.replicate 834 none
 }

def pool38 : Array CpInfo := pool [(9, u "<init>"), (6, .class_ 18), (1, u "java/lang/Object"), (0, u "()V"), (1, .class_ 23), (1, u "jdk/internal/util/ArraysSupport"), (0, u "LOG2_ARRAY_LONG_INDEX_SCALE"), (0, u "I"), (2, u "U"), (0, u "Ljdk/internal/misc/Unsafe;"), (8, u "BIG_ENDIAN"), (0, u "Z"), (8, u "LOG2_BYTE_BIT_SIZE"), (4, u "LOG2_ARRAY_INT_INDEX_SCALE"), (54, u "JLA"), (0, u "Ljdk/internal/access/JavaLangAccess;"), (11, u "LOG2_ARRAY_BOOLEAN_INDEX_SCALE"), (9, u "LOG2_ARRAY_BYTE_INDEX_SCALE"), (5, u "LOG2_ARRAY_CHAR_INDEX_SCALE"), (5, u "LOG2_ARRAY_SHORT_INDEX_SCALE"), (18, u "LOG2_ARRAY_FLOAT_INDEX_SCALE"), (24, u "LOG2_ARRAY_DOUBLE_INDEX_SCALE"), (89, u "T_BOOLEAN"), (2, u "T_CHAR"), (1, u "T_FLOAT"), (1, u "T_DOUBLE"), (1, u "T_BYTE"), (1, u "T_SHORT"), (1, u "T_INT"), (1, u "T_LONG"), (1, u "SOFT_MAX_ARRAY_LENGTH")] 83

def k38m0 : Method := ⟨"<init>", "()V", ⟨[], none⟩, 2, none⟩
def k38 : Class := { plain "jdk/internal/util/ArraysSupport" (some 0) with
 cf := some (fileOf pool38 21 #[] #[⟨2, 9, 19, #[]⟩] 33 16 #[] #[⟨24, 28, 29, #[]⟩, ⟨26, 38, 39, #[]⟩, ⟨25, 121, 25, #[]⟩, ⟨25, 131, 25, #[]⟩, ⟨25, 137, 25, #[]⟩, ⟨25, 143, 25, #[]⟩, ⟨25, 53, 25, #[]⟩, ⟨25, 24, 25, #[]⟩, ⟨25, 162, 25, #[]⟩, ⟨25, 187, 25, #[]⟩, ⟨26, 48, 25, #[]⟩, ⟨25, 277, 25, #[]⟩, ⟨25, 280, 25, #[]⟩, ⟨25, 282, 25, #[]⟩, ⟨25, 284, 25, #[]⟩, ⟨25, 286, 25, #[]⟩, ⟨25, 288, 25, #[]⟩, ⟨25, 290, 25, #[]⟩, ⟨25, 292, 25, #[]⟩, ⟨26, 108, 109, #[]⟩, ⟨25, 294, 25, #[]⟩])
 fields := #[⟨"U", (.object "jdk/internal/misc/Unsafe"), 24, 0, 0⟩, ⟨"BIG_ENDIAN", .boolean, 26, 1, 0⟩, ⟨"LOG2_ARRAY_BOOLEAN_INDEX_SCALE", .int, 25, 2, 0⟩, ⟨"LOG2_ARRAY_BYTE_INDEX_SCALE", .int, 25, 3, 0⟩, ⟨"LOG2_ARRAY_CHAR_INDEX_SCALE", .int, 25, 4, 0⟩, ⟨"LOG2_ARRAY_SHORT_INDEX_SCALE", .int, 25, 5, 0⟩, ⟨"LOG2_ARRAY_INT_INDEX_SCALE", .int, 25, 6, 0⟩, ⟨"LOG2_ARRAY_LONG_INDEX_SCALE", .int, 25, 7, 0⟩, ⟨"LOG2_ARRAY_FLOAT_INDEX_SCALE", .int, 25, 8, 0⟩, ⟨"LOG2_ARRAY_DOUBLE_INDEX_SCALE", .int, 25, 9, 0⟩, ⟨"LOG2_BYTE_BIT_SIZE", .int, 26, 10, 0⟩, ⟨"T_BOOLEAN", .int, 25, 11, 0⟩, ⟨"T_CHAR", .int, 25, 12, 0⟩, ⟨"T_FLOAT", .int, 25, 13, 0⟩, ⟨"T_DOUBLE", .int, 25, 14, 0⟩, ⟨"T_BYTE", .int, 25, 15, 0⟩, ⟨"T_SHORT", .int, 25, 16, 0⟩, ⟨"T_INT", .int, 25, 17, 0⟩, ⟨"T_LONG", .int, 25, 18, 0⟩, ⟨"JLA", (.object "jdk/internal/access/JavaLangAccess"), 26, 19, 0⟩, ⟨"SOFT_MAX_ARRAY_LENGTH", .int, 25, 20, 0⟩]
 methods := #[k38m0]
 staticTypes := #[(.object "jdk/internal/misc/Unsafe"), .boolean, .int, .int, .int, .int, .int, .int, .int, .int, .int, .int, .int, .int, .int, .int, .int, .int, .int, (.object "jdk/internal/access/JavaLangAccess"), .int]
 resolved := Array.replicate 378 none
 }

def k39 : Class := { plain "byte" none with kind := .primitive 'B', accessFlags := 0x411 }
def k40 : Class := { plain "[B" (some 0) with kind := .array 39 .byte, interfaces := #[16, 2], accessFlags := 1041 }

def k41 : Class := { plain "int" none with kind := .primitive 'I', accessFlags := 0x411 }
def k42 : Class := { plain "[I" (some 0) with kind := .array 41 .int, interfaces := #[16, 2], accessFlags := 1041 }

def k43 : Class := { plain "[Ljava/lang/Integer;" (some 0) with kind := .array 31 (.object "java/lang/Integer"), interfaces := #[16, 2], accessFlags := 1041 }

def k44 : Class := { plain "[Ljava/lang/Object;" (some 0) with kind := .array 0 (.object "java/lang/Object"), interfaces := #[16, 2], accessFlags := 1041 }

def k45 : Class := { plain "[Ljava/util/HashMap$Node;" (some 0) with kind := .array 34 (.object "java/util/HashMap$Node"), interfaces := #[16, 2], accessFlags := 1041 }

def heap : Heap := (([{ cls := 7, slots := #[.long 0, .int 1, .null, .int 0, .null, .int 0, .int 0], vm := .statics 7 },
 { cls := 17, slots := #[.long 0, .int 0, .ref 4, .ref 5], vm := .statics 17 },
 { cls := 32, slots := #[.int 0, .int 127, .ref 6, .null, .int 0], vm := .statics 32 },
 { cls := 36, slots := #[.null, .null, .null], vm := .statics 36 },
 { cls := 44, slots := #[], vm := .none },
 { cls := 44, slots := #[], vm := .none },
 { cls := 43, slots := ((List.range 256).map fun i => Value.ref (7 + i)).toArray, vm := .none }] : List Cell) ++ (List.range 256).map fun (i : Nat) => ({ cls := 31, slots := #[.int (Int32.ofInt ((i : Int) - 128))], vm := .none } : Cell)).toArray
def classes : Array Class := #[k0, k1, k2, k3, k4, k5, k6, k7, k8, k9, k10, k11, k12, k13, k14, k15, k16, k17, k18, k19, k20, k21, k22, k23, k24, k25, k26, k27, k28, k29, k30, k31, k32, k33, k34, k35, k36, k37, k38, k39, k40, k41, k42, k43, k44, k45]
def interned : List (Array UInt16 × Addr) := []
def slotsUsed : Nat := 531
def theMethod : MethodId := ⟨1, 1⟩
def args0 : Array Value := #[.int 7, .int 1, .int 2, .int 3, .int 4]
def aboutOver (below : List Frame) : State where
 vm := { classes := classes, interned := interned.toArray }
 heap := heap
 slotsUsed := slotsUsed
 threads := #[{ frames := .invoking theMethod args0 :: below }]
def below0 : List Frame := [.native { method := ⟨0, 0⟩, args := #[] }]
def about1 : State := aboutOver below0
def p0 : Program := .bare "" "" ""
def e0 : Env := launch0.env 0 0 0
theorem w_frames : about1.frames = Frame.invoking theMethod args0 :: below0 := rfl
set_option maxRecDepth 65536 in
theorem w_args : argsFit about1.vm theMethod args0 = true := by decide +kernel
set_option maxRecDepth 65536 in
theorem w_heap : heapFits about1 = true := by decide +kernel
set_option maxRecDepth 65536 in
theorem w_runnable : about1.curStatus? = some .runnable := by decide +kernel
set_option maxRecDepth 65536 in
theorem w_alone : about1.alone = true := by decide +kernel
set_option maxRecDepth 65536 in
theorem w_named : about1.methodNamed? x = some theMethod := by decide +kernel
set_option maxRecDepth 65536 in
theorem w_hears : about1.hears theMethod below0 = true := by decide +kernel
set_option maxRecDepth 65536 in
theorem w_ripe : about1.ripe theMethod args0 below0 = true := by decide +kernel
theorem w_running : about1.status = .running := rfl
set_option maxRecDepth 65536 in
theorem w_room : about1.hasRoom e0.platform room_1 = true :=
 launch0.hasRoom_least _ room_1 (by decide +kernel) (by decide +kernel) (by decide +kernel) (by decide +kernel) (by decide +kernel) (by decide +kernel)
theorem allAtoms_all (ts : List Jvm.Cond) (a : Array Jvm.Value) (st : Jvm.State) : (allAtoms ts).before a st = ts.all (fun c => c.before a st) := by
 induction ts with
 | nil => rfl
 | cons c t ih =>
  show (Jvm.Cond.and c (allAtoms t)).before a st = _
  rw [Jvm.Cond.before_and, ih, List.all_cons]
def words1 : List Jvm.Cond := Jvm.Cond.code x code maxLocals ret :: tables_1
theorem code_word {y : MethodName} {bytes : ByteArray} {mx : Nat} {rt : Option FieldType} {a : Array Value} {s : State} {m : MethodId} {meth : Method} {c : Code} (h1 : s.methodNamed? y = some m) (h2 : s.vm.method? m = some meth) (h3 : meth.code = some c) (h4 : c.code = bytes)
  (h5 : (c.maxLocals == mx && c.exceptionTable.isEmpty && decide (c.maxStack ≤ mostOperands) && decide (meth.sig.returnType = rt) && !meth.locks && decide (parseMethodDescriptor y.desc = some meth.sig)) = true) : (Jvm.Cond.code y bytes mx rt).before a s = true := by
 simp only [Bool.and_eq_true, beq_iff_eq, Bool.not_eq_true', decide_eq_true_eq] at h5
 obtain ⟨⟨⟨⟨⟨g1, g2⟩, g3⟩, g4⟩, g5⟩, g6⟩ := h5
 simp [Cond.before, Cond.holds, Cond.value, h1, h2, h3, h4, g1, g2, g3, g4, g5, g6]
def isCode : Jvm.Cond → Bool
 | .code _ _ _ _ => true
 | _ => false
theorem all_split {L : List Jvm.Cond} {P : Jvm.Cond → Bool} (h1 : L.all (fun c => isCode c || P c) = true) (h2 : ∀ c ∈ L.filter isCode, P c = true) : L.all P = true := by
 refine List.all_eq_true.mpr fun c hc => ?_
 have h := List.all_eq_true.mp h1 c hc
 rcases Bool.eq_false_or_eq_true (isCode c) with hi | hi
 · exact h2 c (List.mem_filter.mpr ⟨hc, hi⟩)
 · simpa [hi] using h
set_option maxRecDepth 65536 in
theorem w_c0 : (Jvm.Cond.code x code maxLocals ret).before args0 about1 = true := code_word (m := ⟨1, 1⟩) (meth := k1m1) (c := k1c1) (by decide +kernel) rfl rfl rfl (by decide +kernel)
set_option maxRecDepth 65536 in
theorem w_c1 : (Jvm.Cond.code ({ cls := "java/lang/String", name := "valueOf", desc := "(C)Ljava/lang/String;" } : Jvm.MethodName) jdk_42_method_139_code (1 : Nat) (Option.some (Jvm.ClassFile.FieldType.object "java/lang/String"))).before args0 about1 = true := code_word (m := ⟨7, 2⟩) (meth := k7m2) (c := k7c2) (by decide +kernel) rfl rfl rfl (by decide +kernel)
set_option maxRecDepth 65536 in
theorem w_c2 : (Jvm.Cond.code ({ cls := "java/lang/StringLatin1", name := "canEncode", desc := "(C)Z" } : Jvm.MethodName) jdk_43_method_3_code (1 : Nat) (Option.some Jvm.ClassFile.FieldType.boolean)).before args0 about1 = true := code_word (m := ⟨8, 1⟩) (meth := k8m1) (c := k8c1) (by decide +kernel) rfl rfl rfl (by decide +kernel)
set_option maxRecDepth 65536 in
theorem w_c3 : (Jvm.Cond.code ({ cls := "java/lang/StringLatin1", name := "toBytes", desc := "(C)[B" } : Jvm.MethodName) jdk_43_method_46_code (1 : Nat) (Option.some (Jvm.ClassFile.FieldType.array Jvm.ClassFile.FieldType.byte))).before args0 about1 = true := code_word (m := ⟨8, 3⟩) (meth := k8m3) (c := k8c3) (by decide +kernel) rfl rfl rfl (by decide +kernel)
set_option maxRecDepth 65536 in
theorem w_c4 : (Jvm.Cond.code ({ cls := "java/lang/String", name := "<init>", desc := "([BB)V" } : Jvm.MethodName) jdk_42_method_151_code (3 : Nat) (Option.none : Option Jvm.ClassFile.FieldType)).before args0 about1 = true := code_word (m := ⟨7, 3⟩) (meth := k7m3) (c := k7c3) (by decide +kernel) rfl rfl rfl (by decide +kernel)
set_option maxRecDepth 65536 in
theorem w_c5 : (Jvm.Cond.code ({ cls := "java/lang/Object", name := "<init>", desc := "()V" } : Jvm.MethodName) object_method_1_code (1 : Nat) (Option.none : Option Jvm.ClassFile.FieldType)).before args0 about1 = true := code_word (m := ⟨0, 0⟩) (meth := k0m0) (c := k0c0) (by decide +kernel) rfl rfl rfl (by decide +kernel)
set_option maxRecDepth 65536 in
theorem w_c6 : (Jvm.Cond.code ({ cls := "java/util/ArrayList", name := "<init>", desc := "()V" } : Jvm.MethodName) jdk_38_method_2_code (1 : Nat) (Option.none : Option Jvm.ClassFile.FieldType)).before args0 about1 = true := code_word (m := ⟨17, 0⟩) (meth := k17m0) (c := k17c0) (by decide +kernel) rfl rfl rfl (by decide +kernel)
set_option maxRecDepth 65536 in
theorem w_c7 : (Jvm.Cond.code ({ cls := "java/util/AbstractList", name := "<init>", desc := "()V" } : Jvm.MethodName) jdk_39_method_1_code (1 : Nat) (Option.none : Option Jvm.ClassFile.FieldType)).before args0 about1 = true := code_word (m := ⟨14, 0⟩) (meth := k14m0) (c := k14c0) (by decide +kernel) rfl rfl rfl (by decide +kernel)
set_option maxRecDepth 65536 in
theorem w_c8 : (Jvm.Cond.code ({ cls := "java/util/AbstractCollection", name := "<init>", desc := "()V" } : Jvm.MethodName) jdk_22_method_1_code (1 : Nat) (Option.none : Option Jvm.ClassFile.FieldType)).before args0 about1 = true := code_word (m := ⟨11, 0⟩) (meth := k11m0) (c := k11c0) (by decide +kernel) rfl rfl rfl (by decide +kernel)
set_option maxRecDepth 65536 in
theorem w_c9 : (Jvm.Cond.code ({ cls := "java/util/HashMap", name := "<init>", desc := "()V" } : Jvm.MethodName) jdk_69_method_7_code (1 : Nat) (Option.none : Option Jvm.ClassFile.FieldType)).before args0 about1 = true := code_word (m := ⟨20, 1⟩) (meth := k20m1) (c := k20c1) (by decide +kernel) rfl rfl rfl (by decide +kernel)
set_option maxRecDepth 65536 in
theorem w_c10 : (Jvm.Cond.code ({ cls := "java/util/AbstractMap", name := "<init>", desc := "()V" } : Jvm.MethodName) jdk_71_method_1_code (1 : Nat) (Option.none : Option Jvm.ClassFile.FieldType)).before args0 about1 = true := code_word (m := ⟨19, 0⟩) (meth := k19m0) (c := k19c0) (by decide +kernel) rfl rfl rfl (by decide +kernel)
set_option maxRecDepth 65536 in
theorem w_c11 : (Jvm.Cond.code ({ cls := "com/example/multinomial/multinomial/eval/JudgedRanking", name := "<init>", desc := "(Ljava/util/List;Ljava/util/Map;)V" } : Jvm.MethodName) prog_10_method_1_code (7 : Nat) (Option.none : Option Jvm.ClassFile.FieldType)).before args0 about1 = true := code_word (m := ⟨21, 0⟩) (meth := k21m0) (c := k21c0) (by decide +kernel) rfl rfl rfl (by decide +kernel)
set_option maxRecDepth 65536 in
theorem w_c12 : (Jvm.Cond.code ({ cls := "java/util/ArrayList", name := "size", desc := "()I" } : Jvm.MethodName) jdk_38_method_8_code (1 : Nat) (Option.some Jvm.ClassFile.FieldType.int)).before args0 about1 = true := code_word (m := ⟨17, 3⟩) (meth := k17m3) (c := k17c3) (by decide +kernel) rfl rfl rfl (by decide +kernel)
set_option maxRecDepth 65536 in
theorem w_c13 : (Jvm.Cond.code ({ cls := "java/util/HashMap", name := "size", desc := "()I" } : Jvm.MethodName) jdk_69_method_10_code (1 : Nat) (Option.some Jvm.ClassFile.FieldType.int)).before args0 about1 = true := code_word (m := ⟨20, 2⟩) (meth := k20m2) (c := k20c2) (by decide +kernel) rfl rfl rfl (by decide +kernel)
set_option maxRecDepth 65536 in
theorem w_c14 : (Jvm.Cond.code ({ cls := "java/util/HashMap", name := "values", desc := "()Ljava/util/Collection;" } : Jvm.MethodName) jdk_69_method_28_code (2 : Nat) (Option.some (Jvm.ClassFile.FieldType.object "java/util/Collection"))).before args0 about1 = true := code_word (m := ⟨20, 7⟩) (meth := k20m7) (c := k20c7) (by decide +kernel) rfl rfl rfl (by decide +kernel)
set_option maxRecDepth 65536 in
theorem w_c15 : (Jvm.Cond.code ({ cls := "java/util/HashMap$Values", name := "<init>", desc := "(Ljava/util/HashMap;)V" } : Jvm.MethodName) jdk_2571_method_1_code (2 : Nat) (Option.none : Option Jvm.ClassFile.FieldType)).before args0 about1 = true := code_word (m := ⟨22, 0⟩) (meth := k22m0) (c := k22c0) (by decide +kernel) rfl rfl rfl (by decide +kernel)
set_option maxRecDepth 65536 in
theorem w_c16 : (Jvm.Cond.code ({ cls := "java/util/HashMap$Values", name := "iterator", desc := "()Ljava/util/Iterator;" } : Jvm.MethodName) jdk_2571_method_4_code (1 : Nat) (Option.some (Jvm.ClassFile.FieldType.object "java/util/Iterator"))).before args0 about1 = true := code_word (m := ⟨22, 1⟩) (meth := k22m1) (c := k22c1) (by decide +kernel) rfl rfl rfl (by decide +kernel)
set_option maxRecDepth 65536 in
theorem w_c17 : (Jvm.Cond.code ({ cls := "java/util/HashMap$ValueIterator", name := "<init>", desc := "(Ljava/util/HashMap;)V" } : Jvm.MethodName) jdk_2569_method_1_code (2 : Nat) (Option.none : Option Jvm.ClassFile.FieldType)).before args0 about1 = true := code_word (m := ⟨25, 0⟩) (meth := k25m0) (c := k25c0) (by decide +kernel) rfl rfl rfl (by decide +kernel)
set_option maxRecDepth 65536 in
theorem w_c18 : (Jvm.Cond.code ({ cls := "java/util/HashMap$HashIterator", name := "<init>", desc := "(Ljava/util/HashMap;)V" } : Jvm.MethodName) jdk_99_method_1_code (3 : Nat) (Option.none : Option Jvm.ClassFile.FieldType)).before args0 about1 = true := code_word (m := ⟨23, 0⟩) (meth := k23m0) (c := k23c0) (by decide +kernel) rfl rfl rfl (by decide +kernel)
set_option maxRecDepth 65536 in
theorem w_c19 : (Jvm.Cond.code ({ cls := "java/util/HashMap$HashIterator", name := "hasNext", desc := "()Z" } : Jvm.MethodName) jdk_99_method_2_code (1 : Nat) (Option.some Jvm.ClassFile.FieldType.boolean)).before args0 about1 = true := code_word (m := ⟨23, 1⟩) (meth := k23m1) (c := k23c1) (by decide +kernel) rfl rfl rfl (by decide +kernel)
set_option maxRecDepth 65536 in
theorem w_c20 : (Jvm.Cond.code ({ cls := "java/util/Arrays", name := "copyOf", desc := "([II)[I" } : Jvm.MethodName) jdk_65_method_123_code (3 : Nat) (Option.some (Jvm.ClassFile.FieldType.array Jvm.ClassFile.FieldType.int))).before args0 about1 = true := code_word (m := ⟨26, 2⟩) (meth := k26m2) (c := k26c2) (by decide +kernel) rfl rfl rfl (by decide +kernel)
set_option maxRecDepth 65536 in
theorem w_c21 : (Jvm.Cond.code ({ cls := "java/util/Arrays", name := "sort", desc := "([I)V" } : Jvm.MethodName) jdk_65_method_2_code (1 : Nat) (Option.none : Option Jvm.ClassFile.FieldType)).before args0 about1 = true := code_word (m := ⟨26, 1⟩) (meth := k26m1) (c := k26c1) (by decide +kernel) rfl rfl rfl (by decide +kernel)
set_option maxRecDepth 65536 in
theorem w_c22 : (Jvm.Cond.code ({ cls := "java/util/DualPivotQuicksort", name := "sort", desc := "([IIII)V" } : Jvm.MethodName) jdk_2529_method_3_code (7 : Nat) (Option.none : Option Jvm.ClassFile.FieldType)).before args0 about1 = true := code_word (m := ⟨27, 1⟩) (meth := k27m1) (c := k27c1) (by decide +kernel) rfl rfl rfl (by decide +kernel)
set_option maxRecDepth 65536 in
theorem w_c23 : (Jvm.Cond.code ({ cls := "java/util/DualPivotQuicksort", name := "sort", desc := "(Ljava/util/DualPivotQuicksort$Sorter;[IIII)V" } : Jvm.MethodName) jdk_2529_method_4_code (21 : Nat) (Option.none : Option Jvm.ClassFile.FieldType)).before args0 about1 = true := code_word (m := ⟨27, 2⟩) (meth := k27m2) (c := k27c2) (by decide +kernel) rfl rfl rfl (by decide +kernel)
set_option maxRecDepth 65536 in
theorem w_c24 : (Jvm.Cond.code ({ cls := "java/util/DualPivotQuicksort", name := "insertionSort", desc := "([III)V" } : Jvm.MethodName) jdk_2529_method_6_code (6 : Nat) (Option.none : Option Jvm.ClassFile.FieldType)).before args0 about1 = true := code_word (m := ⟨27, 3⟩) (meth := k27m3) (c := k27c3) (by decide +kernel) rfl rfl rfl (by decide +kernel)
set_option maxRecDepth 65536 in
theorem w_c25 : (Jvm.Cond.code ({ cls := "com/example/multinomial/multinomial/eval/JudgedRanking", name := "reciprocalRank", desc := "()D" } : Jvm.MethodName) prog_10_method_7_code (4 : Nat) (Option.some Jvm.ClassFile.FieldType.double)).before args0 about1 = true := code_word (m := ⟨21, 1⟩) (meth := k21m1) (c := k21c1) (by decide +kernel) rfl rfl rfl (by decide +kernel)
set_option maxRecDepth 65536 in
theorem w_c26 : (Jvm.Cond.code ({ cls := "com/example/multinomial/multinomial/search/ScoredDocument", name := "<init>", desc := "(Ljava/lang/String;D)V" } : Jvm.MethodName) prog_44_method_1_code (4 : Nat) (Option.none : Option Jvm.ClassFile.FieldType)).before args0 about1 = true := code_word (m := ⟨28, 0⟩) (meth := k28m0) (c := k28c0) (by decide +kernel) rfl rfl rfl (by decide +kernel)
set_option maxRecDepth 65536 in
theorem w_c27 : (Jvm.Cond.code ({ cls := "java/util/ArrayList", name := "add", desc := "(Ljava/lang/Object;)Z" } : Jvm.MethodName) jdk_38_method_25_code (2 : Nat) (Option.some Jvm.ClassFile.FieldType.boolean)).before args0 about1 = true := code_word (m := ⟨17, 7⟩) (meth := k17m7) (c := k17c7) (by decide +kernel) rfl rfl rfl (by decide +kernel)
set_option maxRecDepth 65536 in
theorem w_c28 : (Jvm.Cond.code ({ cls := "java/util/ArrayList", name := "add", desc := "(Ljava/lang/Object;[Ljava/lang/Object;I)V" } : Jvm.MethodName) jdk_38_method_24_code (4 : Nat) (Option.none : Option Jvm.ClassFile.FieldType)).before args0 about1 = true := code_word (m := ⟨17, 6⟩) (meth := k17m6) (c := k17c6) (by decide +kernel) rfl rfl rfl (by decide +kernel)
set_option maxRecDepth 65536 in
theorem w_c29 : (Jvm.Cond.code ({ cls := "java/util/ArrayList", name := "grow", desc := "()[Ljava/lang/Object;" } : Jvm.MethodName) jdk_38_method_7_code (1 : Nat) (Option.some (Jvm.ClassFile.FieldType.array (Jvm.ClassFile.FieldType.object "java/lang/Object")))).before args0 about1 = true := code_word (m := ⟨17, 2⟩) (meth := k17m2) (c := k17c2) (by decide +kernel) rfl rfl rfl (by decide +kernel)
set_option maxRecDepth 65536 in
theorem w_c30 : (Jvm.Cond.code ({ cls := "java/util/ArrayList", name := "grow", desc := "(I)[Ljava/lang/Object;" } : Jvm.MethodName) jdk_38_method_6_code (4 : Nat) (Option.some (Jvm.ClassFile.FieldType.array (Jvm.ClassFile.FieldType.object "java/lang/Object")))).before args0 about1 = true := code_word (m := ⟨17, 1⟩) (meth := k17m1) (c := k17c1) (by decide +kernel) rfl rfl rfl (by decide +kernel)
set_option maxRecDepth 65536 in
theorem w_c31 : (Jvm.Cond.code ({ cls := "java/lang/Math", name := "max", desc := "(II)I" } : Jvm.MethodName) jdk_29_method_65_code (2 : Nat) (Option.some Jvm.ClassFile.FieldType.int)).before args0 about1 = true := code_word (m := ⟨29, 1⟩) (meth := k29m1) (c := k29c1) (by decide +kernel) rfl rfl rfl (by decide +kernel)
set_option maxRecDepth 65536 in
theorem w_c32 : (Jvm.Cond.code ({ cls := "java/lang/Integer", name := "valueOf", desc := "(I)Ljava/lang/Integer;" } : Jvm.MethodName) jdk_33_method_22_code (1 : Nat) (Option.some (Jvm.ClassFile.FieldType.object "java/lang/Integer"))).before args0 about1 = true := code_word (m := ⟨31, 0⟩) (meth := k31m0) (c := k31c0) (by decide +kernel) rfl rfl rfl (by decide +kernel)
set_option maxRecDepth 65536 in
theorem w_c33 : (Jvm.Cond.code ({ cls := "java/util/HashMap", name := "put", desc := "(Ljava/lang/Object;Ljava/lang/Object;)Ljava/lang/Object;" } : Jvm.MethodName) jdk_69_method_15_code (3 : Nat) (Option.some (Jvm.ClassFile.FieldType.object "java/lang/Object"))).before args0 about1 = true := code_word (m := ⟨20, 4⟩) (meth := k20m4) (c := k20c4) (by decide +kernel) rfl rfl rfl (by decide +kernel)
set_option maxRecDepth 65536 in
theorem w_c34 : (Jvm.Cond.code ({ cls := "java/util/HashMap", name := "hash", desc := "(Ljava/lang/Object;)I" } : Jvm.MethodName) jdk_69_method_1_code (2 : Nat) (Option.some Jvm.ClassFile.FieldType.int)).before args0 about1 = true := code_word (m := ⟨20, 0⟩) (meth := k20m0) (c := k20c0) (by decide +kernel) rfl rfl rfl (by decide +kernel)
set_option maxRecDepth 65536 in
theorem w_c35 : (Jvm.Cond.code ({ cls := "java/lang/String", name := "hashCode", desc := "()I" } : Jvm.MethodName) jdk_42_method_78_code (2 : Nat) (Option.some Jvm.ClassFile.FieldType.int)).before args0 about1 = true := code_word (m := ⟨7, 1⟩) (meth := k7m1) (c := k7c1) (by decide +kernel) rfl rfl rfl (by decide +kernel)
set_option maxRecDepth 65536 in
theorem w_c36 : (Jvm.Cond.code ({ cls := "java/lang/String", name := "isLatin1", desc := "()Z" } : Jvm.MethodName) jdk_42_method_154_code (1 : Nat) (Option.some Jvm.ClassFile.FieldType.boolean)).before args0 about1 = true := code_word (m := ⟨7, 4⟩) (meth := k7m4) (c := k7c4) (by decide +kernel) rfl rfl rfl (by decide +kernel)
set_option maxRecDepth 65536 in
theorem w_c37 : (Jvm.Cond.code ({ cls := "java/lang/StringLatin1", name := "hashCode", desc := "([B)I" } : Jvm.MethodName) jdk_43_method_21_code (1 : Nat) (Option.some Jvm.ClassFile.FieldType.int)).before args0 about1 = true := code_word (m := ⟨8, 2⟩) (meth := k8m2) (c := k8c2) (by decide +kernel) rfl rfl rfl (by decide +kernel)
set_option maxRecDepth 65536 in
theorem w_c38 : (Jvm.Cond.code ({ cls := "java/util/HashMap", name := "putVal", desc := "(ILjava/lang/Object;Ljava/lang/Object;ZZ)Ljava/lang/Object;" } : Jvm.MethodName) jdk_69_method_16_code (13 : Nat) (Option.some (Jvm.ClassFile.FieldType.object "java/lang/Object"))).before args0 about1 = true := code_word (m := ⟨20, 5⟩) (meth := k20m5) (c := k20c5) (by decide +kernel) rfl rfl rfl (by decide +kernel)
set_option maxRecDepth 65536 in
theorem w_c39 : (Jvm.Cond.code ({ cls := "java/util/HashMap", name := "resize", desc := "()[Ljava/util/HashMap$Node;" } : Jvm.MethodName) jdk_69_method_17_code (14 : Nat) (Option.some (Jvm.ClassFile.FieldType.array (Jvm.ClassFile.FieldType.object "java/util/HashMap$Node")))).before args0 about1 = true := code_word (m := ⟨20, 6⟩) (meth := k20m6) (c := k20c6) (by decide +kernel) rfl rfl rfl (by decide +kernel)
set_option maxRecDepth 65536 in
theorem w_c40 : (Jvm.Cond.code ({ cls := "java/util/HashMap", name := "newNode", desc := "(ILjava/lang/Object;Ljava/lang/Object;Ljava/util/HashMap$Node;)Ljava/util/HashMap$Node;" } : Jvm.MethodName) jdk_69_method_46_code (5 : Nat) (Option.some (Jvm.ClassFile.FieldType.object "java/util/HashMap$Node"))).before args0 about1 = true := code_word (m := ⟨20, 9⟩) (meth := k20m9) (c := k20c9) (by decide +kernel) rfl rfl rfl (by decide +kernel)
set_option maxRecDepth 65536 in
theorem w_c41 : (Jvm.Cond.code ({ cls := "java/util/HashMap$Node", name := "<init>", desc := "(ILjava/lang/Object;Ljava/lang/Object;Ljava/util/HashMap$Node;)V" } : Jvm.MethodName) jdk_70_method_1_code (5 : Nat) (Option.none : Option Jvm.ClassFile.FieldType)).before args0 about1 = true := code_word (m := ⟨34, 0⟩) (meth := k34m0) (c := k34c0) (by decide +kernel) rfl rfl rfl (by decide +kernel)
set_option maxRecDepth 65536 in
theorem w_c42 : (Jvm.Cond.code ({ cls := "java/util/HashMap", name := "afterNodeInsertion", desc := "(Z)V" } : Jvm.MethodName) jdk_69_method_52_code (2 : Nat) (Option.none : Option Jvm.ClassFile.FieldType)).before args0 about1 = true := code_word (m := ⟨20, 10⟩) (meth := k20m10) (c := k20c10) (by decide +kernel) rfl rfl rfl (by decide +kernel)
set_option maxRecDepth 65536 in
theorem w_c43 : (Jvm.Cond.code ({ cls := "java/util/ArrayList", name := "get", desc := "(I)Ljava/lang/Object;" } : Jvm.MethodName) jdk_38_method_20_code (2 : Nat) (Option.some (Jvm.ClassFile.FieldType.object "java/lang/Object"))).before args0 about1 = true := code_word (m := ⟨17, 5⟩) (meth := k17m5) (c := k17c5) (by decide +kernel) rfl rfl rfl (by decide +kernel)
set_option maxRecDepth 65536 in
theorem w_c44 : (Jvm.Cond.code ({ cls := "java/util/Objects", name := "checkIndex", desc := "(II)I" } : Jvm.MethodName) jdk_31_method_17_code (2 : Nat) (Option.some Jvm.ClassFile.FieldType.int)).before args0 about1 = true := code_word (m := ⟨35, 1⟩) (meth := k35m1) (c := k35c1) (by decide +kernel) rfl rfl rfl (by decide +kernel)
set_option maxRecDepth 65536 in
theorem w_c45 : (Jvm.Cond.code ({ cls := "jdk/internal/util/Preconditions", name := "checkIndex", desc := "(IILjava/util/function/BiFunction;)I" } : Jvm.MethodName) jdk_41_method_11_code (3 : Nat) (Option.some Jvm.ClassFile.FieldType.int)).before args0 about1 = true := code_word (m := ⟨36, 1⟩) (meth := k36m1) (c := k36c1) (by decide +kernel) rfl rfl rfl (by decide +kernel)
set_option maxRecDepth 65536 in
theorem w_c46 : (Jvm.Cond.code ({ cls := "java/util/ArrayList", name := "elementData", desc := "(I)Ljava/lang/Object;" } : Jvm.MethodName) jdk_38_method_18_code (2 : Nat) (Option.some (Jvm.ClassFile.FieldType.object "java/lang/Object"))).before args0 about1 = true := code_word (m := ⟨17, 4⟩) (meth := k17m4) (c := k17c4) (by decide +kernel) rfl rfl rfl (by decide +kernel)
set_option maxRecDepth 65536 in
theorem w_c47 : (Jvm.Cond.code ({ cls := "com/example/multinomial/multinomial/search/ScoredDocument", name := "id", desc := "()Ljava/lang/String;" } : Jvm.MethodName) prog_44_method_2_code (1 : Nat) (Option.some (Jvm.ClassFile.FieldType.object "java/lang/String"))).before args0 about1 = true := code_word (m := ⟨28, 1⟩) (meth := k28m1) (c := k28c1) (by decide +kernel) rfl rfl rfl (by decide +kernel)
set_option maxRecDepth 65536 in
theorem w_c48 : (Jvm.Cond.code ({ cls := "java/util/HashMap", name := "getOrDefault", desc := "(Ljava/lang/Object;Ljava/lang/Object;)Ljava/lang/Object;" } : Jvm.MethodName) jdk_69_method_30_code (4 : Nat) (Option.some (Jvm.ClassFile.FieldType.object "java/lang/Object"))).before args0 about1 = true := code_word (m := ⟨20, 8⟩) (meth := k20m8) (c := k20c8) (by decide +kernel) rfl rfl rfl (by decide +kernel)
set_option maxRecDepth 65536 in
theorem w_c49 : (Jvm.Cond.code ({ cls := "java/util/HashMap", name := "getNode", desc := "(Ljava/lang/Object;)Ljava/util/HashMap$Node;" } : Jvm.MethodName) jdk_69_method_13_code (8 : Nat) (Option.some (Jvm.ClassFile.FieldType.object "java/util/HashMap$Node"))).before args0 about1 = true := code_word (m := ⟨20, 3⟩) (meth := k20m3) (c := k20c3) (by decide +kernel) rfl rfl rfl (by decide +kernel)
set_option maxRecDepth 65536 in
theorem w_c50 : (Jvm.Cond.code ({ cls := "java/lang/Integer", name := "intValue", desc := "()I" } : Jvm.MethodName) jdk_33_method_27_code (1 : Nat) (Option.some Jvm.ClassFile.FieldType.int)).before args0 about1 = true := code_word (m := ⟨31, 2⟩) (meth := k31m2) (c := k31c2) (by decide +kernel) rfl rfl rfl (by decide +kernel)
set_option maxRecDepth 65536 in
theorem w_c51 : (Jvm.Cond.code ({ cls := "com/example/multinomial/multinomial/eval/JudgedRanking", name := "gain", desc := "(I)I" } : Jvm.MethodName) prog_10_method_13_code (1 : Nat) (Option.some Jvm.ClassFile.FieldType.int)).before args0 about1 = true := code_word (m := ⟨21, 2⟩) (meth := k21m2) (c := k21c2) (by decide +kernel) rfl rfl rfl (by decide +kernel)
set_option maxRecDepth 65536 in
theorem w_c52 : (Jvm.Cond.code ({ cls := "java/util/HashMap$ValueIterator", name := "next", desc := "()Ljava/lang/Object;" } : Jvm.MethodName) jdk_2569_method_2_code (1 : Nat) (Option.some (Jvm.ClassFile.FieldType.object "java/lang/Object"))).before args0 about1 = true := code_word (m := ⟨25, 1⟩) (meth := k25m1) (c := k25c1) (by decide +kernel) rfl rfl rfl (by decide +kernel)
set_option maxRecDepth 65536 in
theorem w_c53 : (Jvm.Cond.code ({ cls := "java/util/HashMap$HashIterator", name := "nextNode", desc := "()Ljava/util/HashMap$Node;" } : Jvm.MethodName) jdk_99_method_3_code (3 : Nat) (Option.some (Jvm.ClassFile.FieldType.object "java/util/HashMap$Node"))).before args0 about1 = true := code_word (m := ⟨23, 2⟩) (meth := k23m2) (c := k23c2) (by decide +kernel) rfl rfl rfl (by decide +kernel)
set_option maxRecDepth 65536 in
theorem w_c54 : (Jvm.Cond.code ({ cls := "java/lang/Integer", name := "<init>", desc := "(I)V" } : Jvm.MethodName) jdk_33_method_23_code (2 : Nat) (Option.none : Option Jvm.ClassFile.FieldType)).before args0 about1 = true := code_word (m := ⟨31, 1⟩) (meth := k31m1) (c := k31c1) (by decide +kernel) rfl rfl rfl (by decide +kernel)
set_option maxRecDepth 65536 in
theorem w_c55 : (Jvm.Cond.code ({ cls := "java/lang/Number", name := "<init>", desc := "()V" } : Jvm.MethodName) jdk_18_method_1_code (1 : Nat) (Option.none : Option Jvm.ClassFile.FieldType)).before args0 about1 = true := code_word (m := ⟨30, 0⟩) (meth := k30m0) (c := k30c0) (by decide +kernel) rfl rfl rfl (by decide +kernel)
set_option maxRecDepth 65536 in
theorem w_c56 : (Jvm.Cond.code ({ cls := "java/lang/Math", name := "min", desc := "(II)I" } : Jvm.MethodName) jdk_29_method_69_code (2 : Nat) (Option.some Jvm.ClassFile.FieldType.int)).before args0 about1 = true := code_word (m := ⟨29, 2⟩) (meth := k29m2) (c := k29c2) (by decide +kernel) rfl rfl rfl (by decide +kernel)
def codes1 : List Jvm.Cond := [Jvm.Cond.code x code maxLocals ret, Jvm.Cond.code ({ cls := "java/lang/String", name := "valueOf", desc := "(C)Ljava/lang/String;" } : Jvm.MethodName) jdk_42_method_139_code (1 : Nat) (Option.some (Jvm.ClassFile.FieldType.object "java/lang/String")), Jvm.Cond.code ({ cls := "java/lang/StringLatin1", name := "canEncode", desc := "(C)Z" } : Jvm.MethodName) jdk_43_method_3_code (1 : Nat) (Option.some Jvm.ClassFile.FieldType.boolean), Jvm.Cond.code ({ cls := "java/lang/StringLatin1", name := "toBytes", desc := "(C)[B" } : Jvm.MethodName) jdk_43_method_46_code (1 : Nat) (Option.some (Jvm.ClassFile.FieldType.array Jvm.ClassFile.FieldType.byte)), Jvm.Cond.code ({ cls := "java/lang/String", name := "<init>", desc := "([BB)V" } : Jvm.MethodName) jdk_42_method_151_code (3 : Nat) (Option.none : Option Jvm.ClassFile.FieldType), Jvm.Cond.code ({ cls := "java/lang/Object", name := "<init>", desc := "()V" } : Jvm.MethodName) object_method_1_code (1 : Nat) (Option.none : Option Jvm.ClassFile.FieldType), Jvm.Cond.code ({ cls := "java/util/ArrayList", name := "<init>", desc := "()V" } : Jvm.MethodName) jdk_38_method_2_code (1 : Nat) (Option.none : Option Jvm.ClassFile.FieldType), Jvm.Cond.code ({ cls := "java/util/AbstractList", name := "<init>", desc := "()V" } : Jvm.MethodName) jdk_39_method_1_code (1 : Nat) (Option.none : Option Jvm.ClassFile.FieldType), Jvm.Cond.code ({ cls := "java/util/AbstractCollection", name := "<init>", desc := "()V" } : Jvm.MethodName) jdk_22_method_1_code (1 : Nat) (Option.none : Option Jvm.ClassFile.FieldType), Jvm.Cond.code ({ cls := "java/util/HashMap", name := "<init>", desc := "()V" } : Jvm.MethodName) jdk_69_method_7_code (1 : Nat) (Option.none : Option Jvm.ClassFile.FieldType), Jvm.Cond.code ({ cls := "java/util/AbstractMap", name := "<init>", desc := "()V" } : Jvm.MethodName) jdk_71_method_1_code (1 : Nat) (Option.none : Option Jvm.ClassFile.FieldType), Jvm.Cond.code ({ cls := "com/example/multinomial/multinomial/eval/JudgedRanking", name := "<init>", desc := "(Ljava/util/List;Ljava/util/Map;)V" } : Jvm.MethodName) prog_10_method_1_code (7 : Nat) (Option.none : Option Jvm.ClassFile.FieldType), Jvm.Cond.code ({ cls := "java/util/ArrayList", name := "size", desc := "()I" } : Jvm.MethodName) jdk_38_method_8_code (1 : Nat) (Option.some Jvm.ClassFile.FieldType.int), Jvm.Cond.code ({ cls := "java/util/HashMap", name := "size", desc := "()I" } : Jvm.MethodName) jdk_69_method_10_code (1 : Nat) (Option.some Jvm.ClassFile.FieldType.int), Jvm.Cond.code ({ cls := "java/util/HashMap", name := "values", desc := "()Ljava/util/Collection;" } : Jvm.MethodName) jdk_69_method_28_code (2 : Nat) (Option.some (Jvm.ClassFile.FieldType.object "java/util/Collection")), Jvm.Cond.code ({ cls := "java/util/HashMap$Values", name := "<init>", desc := "(Ljava/util/HashMap;)V" } : Jvm.MethodName) jdk_2571_method_1_code (2 : Nat) (Option.none : Option Jvm.ClassFile.FieldType), Jvm.Cond.code ({ cls := "java/util/HashMap$Values", name := "iterator", desc := "()Ljava/util/Iterator;" } : Jvm.MethodName) jdk_2571_method_4_code (1 : Nat) (Option.some (Jvm.ClassFile.FieldType.object "java/util/Iterator")), Jvm.Cond.code ({ cls := "java/util/HashMap$ValueIterator", name := "<init>", desc := "(Ljava/util/HashMap;)V" } : Jvm.MethodName) jdk_2569_method_1_code (2 : Nat) (Option.none : Option Jvm.ClassFile.FieldType), Jvm.Cond.code ({ cls := "java/util/HashMap$HashIterator", name := "<init>", desc := "(Ljava/util/HashMap;)V" } : Jvm.MethodName) jdk_99_method_1_code (3 : Nat) (Option.none : Option Jvm.ClassFile.FieldType), Jvm.Cond.code ({ cls := "java/util/HashMap$HashIterator", name := "hasNext", desc := "()Z" } : Jvm.MethodName) jdk_99_method_2_code (1 : Nat) (Option.some Jvm.ClassFile.FieldType.boolean), Jvm.Cond.code ({ cls := "java/util/Arrays", name := "copyOf", desc := "([II)[I" } : Jvm.MethodName) jdk_65_method_123_code (3 : Nat) (Option.some (Jvm.ClassFile.FieldType.array Jvm.ClassFile.FieldType.int)), Jvm.Cond.code ({ cls := "java/util/Arrays", name := "sort", desc := "([I)V" } : Jvm.MethodName) jdk_65_method_2_code (1 : Nat) (Option.none : Option Jvm.ClassFile.FieldType), Jvm.Cond.code ({ cls := "java/util/DualPivotQuicksort", name := "sort", desc := "([IIII)V" } : Jvm.MethodName) jdk_2529_method_3_code (7 : Nat) (Option.none : Option Jvm.ClassFile.FieldType), Jvm.Cond.code ({ cls := "java/util/DualPivotQuicksort", name := "sort", desc := "(Ljava/util/DualPivotQuicksort$Sorter;[IIII)V" } : Jvm.MethodName) jdk_2529_method_4_code (21 : Nat) (Option.none : Option Jvm.ClassFile.FieldType), Jvm.Cond.code ({ cls := "java/util/DualPivotQuicksort", name := "insertionSort", desc := "([III)V" } : Jvm.MethodName) jdk_2529_method_6_code (6 : Nat) (Option.none : Option Jvm.ClassFile.FieldType), Jvm.Cond.code ({ cls := "com/example/multinomial/multinomial/eval/JudgedRanking", name := "reciprocalRank", desc := "()D" } : Jvm.MethodName) prog_10_method_7_code (4 : Nat) (Option.some Jvm.ClassFile.FieldType.double), Jvm.Cond.code ({ cls := "com/example/multinomial/multinomial/search/ScoredDocument", name := "<init>", desc := "(Ljava/lang/String;D)V" } : Jvm.MethodName) prog_44_method_1_code (4 : Nat) (Option.none : Option Jvm.ClassFile.FieldType), Jvm.Cond.code ({ cls := "java/util/ArrayList", name := "add", desc := "(Ljava/lang/Object;)Z" } : Jvm.MethodName) jdk_38_method_25_code (2 : Nat) (Option.some Jvm.ClassFile.FieldType.boolean), Jvm.Cond.code ({ cls := "java/util/ArrayList", name := "add", desc := "(Ljava/lang/Object;[Ljava/lang/Object;I)V" } : Jvm.MethodName) jdk_38_method_24_code (4 : Nat) (Option.none : Option Jvm.ClassFile.FieldType), Jvm.Cond.code ({ cls := "java/util/ArrayList", name := "grow", desc := "()[Ljava/lang/Object;" } : Jvm.MethodName) jdk_38_method_7_code (1 : Nat) (Option.some (Jvm.ClassFile.FieldType.array (Jvm.ClassFile.FieldType.object "java/lang/Object"))), Jvm.Cond.code ({ cls := "java/util/ArrayList", name := "grow", desc := "(I)[Ljava/lang/Object;" } : Jvm.MethodName) jdk_38_method_6_code (4 : Nat) (Option.some (Jvm.ClassFile.FieldType.array (Jvm.ClassFile.FieldType.object "java/lang/Object"))), Jvm.Cond.code ({ cls := "java/lang/Math", name := "max", desc := "(II)I" } : Jvm.MethodName) jdk_29_method_65_code (2 : Nat) (Option.some Jvm.ClassFile.FieldType.int), Jvm.Cond.code ({ cls := "java/lang/Integer", name := "valueOf", desc := "(I)Ljava/lang/Integer;" } : Jvm.MethodName) jdk_33_method_22_code (1 : Nat) (Option.some (Jvm.ClassFile.FieldType.object "java/lang/Integer")), Jvm.Cond.code ({ cls := "java/util/HashMap", name := "put", desc := "(Ljava/lang/Object;Ljava/lang/Object;)Ljava/lang/Object;" } : Jvm.MethodName) jdk_69_method_15_code (3 : Nat) (Option.some (Jvm.ClassFile.FieldType.object "java/lang/Object")), Jvm.Cond.code ({ cls := "java/util/HashMap", name := "hash", desc := "(Ljava/lang/Object;)I" } : Jvm.MethodName) jdk_69_method_1_code (2 : Nat) (Option.some Jvm.ClassFile.FieldType.int), Jvm.Cond.code ({ cls := "java/lang/String", name := "hashCode", desc := "()I" } : Jvm.MethodName) jdk_42_method_78_code (2 : Nat) (Option.some Jvm.ClassFile.FieldType.int), Jvm.Cond.code ({ cls := "java/lang/String", name := "isLatin1", desc := "()Z" } : Jvm.MethodName) jdk_42_method_154_code (1 : Nat) (Option.some Jvm.ClassFile.FieldType.boolean), Jvm.Cond.code ({ cls := "java/lang/StringLatin1", name := "hashCode", desc := "([B)I" } : Jvm.MethodName) jdk_43_method_21_code (1 : Nat) (Option.some Jvm.ClassFile.FieldType.int), Jvm.Cond.code ({ cls := "java/util/HashMap", name := "putVal", desc := "(ILjava/lang/Object;Ljava/lang/Object;ZZ)Ljava/lang/Object;" } : Jvm.MethodName) jdk_69_method_16_code (13 : Nat) (Option.some (Jvm.ClassFile.FieldType.object "java/lang/Object")), Jvm.Cond.code ({ cls := "java/util/HashMap", name := "resize", desc := "()[Ljava/util/HashMap$Node;" } : Jvm.MethodName) jdk_69_method_17_code (14 : Nat) (Option.some (Jvm.ClassFile.FieldType.array (Jvm.ClassFile.FieldType.object "java/util/HashMap$Node"))), Jvm.Cond.code ({ cls := "java/util/HashMap", name := "newNode", desc := "(ILjava/lang/Object;Ljava/lang/Object;Ljava/util/HashMap$Node;)Ljava/util/HashMap$Node;" } : Jvm.MethodName) jdk_69_method_46_code (5 : Nat) (Option.some (Jvm.ClassFile.FieldType.object "java/util/HashMap$Node")), Jvm.Cond.code ({ cls := "java/util/HashMap$Node", name := "<init>", desc := "(ILjava/lang/Object;Ljava/lang/Object;Ljava/util/HashMap$Node;)V" } : Jvm.MethodName) jdk_70_method_1_code (5 : Nat) (Option.none : Option Jvm.ClassFile.FieldType), Jvm.Cond.code ({ cls := "java/util/HashMap", name := "afterNodeInsertion", desc := "(Z)V" } : Jvm.MethodName) jdk_69_method_52_code (2 : Nat) (Option.none : Option Jvm.ClassFile.FieldType), Jvm.Cond.code ({ cls := "java/util/ArrayList", name := "get", desc := "(I)Ljava/lang/Object;" } : Jvm.MethodName) jdk_38_method_20_code (2 : Nat) (Option.some (Jvm.ClassFile.FieldType.object "java/lang/Object")), Jvm.Cond.code ({ cls := "java/util/Objects", name := "checkIndex", desc := "(II)I" } : Jvm.MethodName) jdk_31_method_17_code (2 : Nat) (Option.some Jvm.ClassFile.FieldType.int), Jvm.Cond.code ({ cls := "jdk/internal/util/Preconditions", name := "checkIndex", desc := "(IILjava/util/function/BiFunction;)I" } : Jvm.MethodName) jdk_41_method_11_code (3 : Nat) (Option.some Jvm.ClassFile.FieldType.int), Jvm.Cond.code ({ cls := "java/util/ArrayList", name := "elementData", desc := "(I)Ljava/lang/Object;" } : Jvm.MethodName) jdk_38_method_18_code (2 : Nat) (Option.some (Jvm.ClassFile.FieldType.object "java/lang/Object")), Jvm.Cond.code ({ cls := "com/example/multinomial/multinomial/search/ScoredDocument", name := "id", desc := "()Ljava/lang/String;" } : Jvm.MethodName) prog_44_method_2_code (1 : Nat) (Option.some (Jvm.ClassFile.FieldType.object "java/lang/String")), Jvm.Cond.code ({ cls := "java/util/HashMap", name := "getOrDefault", desc := "(Ljava/lang/Object;Ljava/lang/Object;)Ljava/lang/Object;" } : Jvm.MethodName) jdk_69_method_30_code (4 : Nat) (Option.some (Jvm.ClassFile.FieldType.object "java/lang/Object")), Jvm.Cond.code ({ cls := "java/util/HashMap", name := "getNode", desc := "(Ljava/lang/Object;)Ljava/util/HashMap$Node;" } : Jvm.MethodName) jdk_69_method_13_code (8 : Nat) (Option.some (Jvm.ClassFile.FieldType.object "java/util/HashMap$Node")), Jvm.Cond.code ({ cls := "java/lang/Integer", name := "intValue", desc := "()I" } : Jvm.MethodName) jdk_33_method_27_code (1 : Nat) (Option.some Jvm.ClassFile.FieldType.int), Jvm.Cond.code ({ cls := "com/example/multinomial/multinomial/eval/JudgedRanking", name := "gain", desc := "(I)I" } : Jvm.MethodName) prog_10_method_13_code (1 : Nat) (Option.some Jvm.ClassFile.FieldType.int), Jvm.Cond.code ({ cls := "java/util/HashMap$ValueIterator", name := "next", desc := "()Ljava/lang/Object;" } : Jvm.MethodName) jdk_2569_method_2_code (1 : Nat) (Option.some (Jvm.ClassFile.FieldType.object "java/lang/Object")), Jvm.Cond.code ({ cls := "java/util/HashMap$HashIterator", name := "nextNode", desc := "()Ljava/util/HashMap$Node;" } : Jvm.MethodName) jdk_99_method_3_code (3 : Nat) (Option.some (Jvm.ClassFile.FieldType.object "java/util/HashMap$Node")), Jvm.Cond.code ({ cls := "java/lang/Integer", name := "<init>", desc := "(I)V" } : Jvm.MethodName) jdk_33_method_23_code (2 : Nat) (Option.none : Option Jvm.ClassFile.FieldType), Jvm.Cond.code ({ cls := "java/lang/Number", name := "<init>", desc := "()V" } : Jvm.MethodName) jdk_18_method_1_code (1 : Nat) (Option.none : Option Jvm.ClassFile.FieldType), Jvm.Cond.code ({ cls := "java/lang/Math", name := "min", desc := "(II)I" } : Jvm.MethodName) jdk_29_method_69_code (2 : Nat) (Option.some Jvm.ClassFile.FieldType.int)]
set_option maxRecDepth 65536 in
theorem codes_eq : words1.filter isCode = codes1 := rfl
theorem w_codes : ∀ c ∈ words1.filter isCode, c.before args0 about1 = true := by
 rw [codes_eq]
 intro c hc
 simp only [codes1, List.mem_cons, List.not_mem_nil, or_false] at hc
 rcases hc with rfl | rfl | rfl | rfl | rfl | rfl | rfl | rfl | rfl | rfl | rfl | rfl | rfl | rfl | rfl | rfl | rfl | rfl | rfl | rfl | rfl | rfl | rfl | rfl | rfl | rfl | rfl | rfl | rfl | rfl | rfl | rfl | rfl | rfl | rfl | rfl | rfl | rfl | rfl | rfl | rfl | rfl | rfl | rfl | rfl | rfl | rfl | rfl | rfl | rfl | rfl | rfl | rfl | rfl | rfl | rfl | rfl
 · exact w_c0
 · exact w_c1
 · exact w_c2
 · exact w_c3
 · exact w_c4
 · exact w_c5
 · exact w_c6
 · exact w_c7
 · exact w_c8
 · exact w_c9
 · exact w_c10
 · exact w_c11
 · exact w_c12
 · exact w_c13
 · exact w_c14
 · exact w_c15
 · exact w_c16
 · exact w_c17
 · exact w_c18
 · exact w_c19
 · exact w_c20
 · exact w_c21
 · exact w_c22
 · exact w_c23
 · exact w_c24
 · exact w_c25
 · exact w_c26
 · exact w_c27
 · exact w_c28
 · exact w_c29
 · exact w_c30
 · exact w_c31
 · exact w_c32
 · exact w_c33
 · exact w_c34
 · exact w_c35
 · exact w_c36
 · exact w_c37
 · exact w_c38
 · exact w_c39
 · exact w_c40
 · exact w_c41
 · exact w_c42
 · exact w_c43
 · exact w_c44
 · exact w_c45
 · exact w_c46
 · exact w_c47
 · exact w_c48
 · exact w_c49
 · exact w_c50
 · exact w_c51
 · exact w_c52
 · exact w_c53
 · exact w_c54
 · exact w_c55
 · exact w_c56
set_option maxRecDepth 65536 in
theorem w_t1 : (words1.take 24).all (fun c => isCode c || c.before args0 about1) = true := by decide +kernel
set_option maxRecDepth 65536 in
theorem w_t2 : ((words1.drop 24).take 24).all (fun c => isCode c || c.before args0 about1) = true := by decide +kernel
set_option maxRecDepth 65536 in
theorem w_t3 : (((words1.drop 24).drop 24).take 24).all (fun c => isCode c || c.before args0 about1) = true := by decide +kernel
set_option maxRecDepth 65536 in
theorem w_t4 : ((((words1.drop 24).drop 24).drop 24).take 24).all (fun c => isCode c || c.before args0 about1) = true := by decide +kernel
set_option maxRecDepth 65536 in
theorem w_t5 : (((((words1.drop 24).drop 24).drop 24).drop 24).take 24).all (fun c => isCode c || c.before args0 about1) = true := by decide +kernel
set_option maxRecDepth 65536 in
theorem w_t6 : ((((((words1.drop 24).drop 24).drop 24).drop 24).drop 24).take 24).all (fun c => isCode c || c.before args0 about1) = true := by decide +kernel
set_option maxRecDepth 65536 in
theorem w_t7 : (((((((words1.drop 24).drop 24).drop 24).drop 24).drop 24).drop 24).take 24).all (fun c => isCode c || c.before args0 about1) = true := by decide +kernel
set_option maxRecDepth 65536 in
theorem w_t8 : ((((((((words1.drop 24).drop 24).drop 24).drop 24).drop 24).drop 24).drop 24).take 24).all (fun c => isCode c || c.before args0 about1) = true := by decide +kernel
set_option maxRecDepth 65536 in
theorem w_t9 : (((((((((words1.drop 24).drop 24).drop 24).drop 24).drop 24).drop 24).drop 24).drop 24).take 24).all (fun c => isCode c || c.before args0 about1) = true := by decide +kernel
set_option maxRecDepth 65536 in
theorem w_t10 : ((((((((((words1.drop 24).drop 24).drop 24).drop 24).drop 24).drop 24).drop 24).drop 24).drop 24).take 24).all (fun c => isCode c || c.before args0 about1) = true := by decide +kernel
set_option maxRecDepth 65536 in
theorem w_t11 : (((((((((((words1.drop 24).drop 24).drop 24).drop 24).drop 24).drop 24).drop 24).drop 24).drop 24).drop 24).take 24).all (fun c => isCode c || c.before args0 about1) = true := by decide +kernel
set_option maxRecDepth 65536 in
theorem w_t12 : ((((((((((((words1.drop 24).drop 24).drop 24).drop 24).drop 24).drop 24).drop 24).drop 24).drop 24).drop 24).drop 24).take 24).all (fun c => isCode c || c.before args0 about1) = true := by decide +kernel
set_option maxRecDepth 65536 in
theorem w_t13 : (((((((((((((words1.drop 24).drop 24).drop 24).drop 24).drop 24).drop 24).drop 24).drop 24).drop 24).drop 24).drop 24).drop 24).take 24).all (fun c => isCode c || c.before args0 about1) = true := by decide +kernel
set_option maxRecDepth 65536 in
theorem w_t14 : ((((((((((((((words1.drop 24).drop 24).drop 24).drop 24).drop 24).drop 24).drop 24).drop 24).drop 24).drop 24).drop 24).drop 24).drop 24).take 24).all (fun c => isCode c || c.before args0 about1) = true := by decide +kernel
set_option maxRecDepth 65536 in
theorem w_t15 : (((((((((((((((words1.drop 24).drop 24).drop 24).drop 24).drop 24).drop 24).drop 24).drop 24).drop 24).drop 24).drop 24).drop 24).drop 24).drop 24).take 24).all (fun c => isCode c || c.before args0 about1) = true := by decide +kernel
set_option maxRecDepth 65536 in
theorem w_t16 : ((((((((((((((((words1.drop 24).drop 24).drop 24).drop 24).drop 24).drop 24).drop 24).drop 24).drop 24).drop 24).drop 24).drop 24).drop 24).drop 24).drop 24).take 24).all (fun c => isCode c || c.before args0 about1) = true := by decide +kernel
set_option maxRecDepth 65536 in
theorem w_t17 : (((((((((((((((((words1.drop 24).drop 24).drop 24).drop 24).drop 24).drop 24).drop 24).drop 24).drop 24).drop 24).drop 24).drop 24).drop 24).drop 24).drop 24).drop 24).take 24).all (fun c => isCode c || c.before args0 about1) = true := by decide +kernel
set_option maxRecDepth 65536 in
theorem w_t18 : (((((((((((((((((words1.drop 24).drop 24).drop 24).drop 24).drop 24).drop 24).drop 24).drop 24).drop 24).drop 24).drop 24).drop 24).drop 24).drop 24).drop 24).drop 24).drop 24).all (fun c => isCode c || c.before args0 about1) = true := by decide +kernel
theorem w_tables : (allAtoms (Jvm.Cond.code x code maxLocals ret :: tables_1)).before args0 about1 = true := by
 rw [allAtoms_all]
 show words1.all (fun c => c.before args0 about1) = true
 refine all_split ?_ w_codes
 rw [← List.take_append_drop 24 words1, List.all_append, w_t1, ← List.take_append_drop 24 (words1.drop 24), List.all_append, w_t2, ← List.take_append_drop 24 ((words1.drop 24).drop 24), List.all_append, w_t3, ← List.take_append_drop 24 (((words1.drop 24).drop 24).drop 24), List.all_append, w_t4, ← List.take_append_drop 24 ((((words1.drop 24).drop 24).drop 24).drop 24), List.all_append, w_t5, ← List.take_append_drop 24 (((((words1.drop 24).drop 24).drop 24).drop 24).drop 24), List.all_append, w_t6, ← List.take_append_drop 24 ((((((words1.drop 24).drop 24).drop 24).drop 24).drop 24).drop 24), List.all_append, w_t7, ← List.take_append_drop 24 (((((((words1.drop 24).drop 24).drop 24).drop 24).drop 24).drop 24).drop 24), List.all_append, w_t8, ← List.take_append_drop 24 ((((((((words1.drop 24).drop 24).drop 24).drop 24).drop 24).drop 24).drop 24).drop 24), List.all_append, w_t9, ← List.take_append_drop 24 (((((((((words1.drop 24).drop 24).drop 24).drop 24).drop 24).drop 24).drop 24).drop 24).drop 24), List.all_append, w_t10, ← List.take_append_drop 24 ((((((((((words1.drop 24).drop 24).drop 24).drop 24).drop 24).drop 24).drop 24).drop 24).drop 24).drop 24), List.all_append, w_t11, ← List.take_append_drop 24 (((((((((((words1.drop 24).drop 24).drop 24).drop 24).drop 24).drop 24).drop 24).drop 24).drop 24).drop 24).drop 24), List.all_append, w_t12, ← List.take_append_drop 24 ((((((((((((words1.drop 24).drop 24).drop 24).drop 24).drop 24).drop 24).drop 24).drop 24).drop 24).drop 24).drop 24).drop 24), List.all_append, w_t13, ← List.take_append_drop 24 (((((((((((((words1.drop 24).drop 24).drop 24).drop 24).drop 24).drop 24).drop 24).drop 24).drop 24).drop 24).drop 24).drop 24).drop 24), List.all_append, w_t14, ← List.take_append_drop 24 ((((((((((((((words1.drop 24).drop 24).drop 24).drop 24).drop 24).drop 24).drop 24).drop 24).drop 24).drop 24).drop 24).drop 24).drop 24).drop 24), List.all_append, w_t15, ← List.take_append_drop 24 (((((((((((((((words1.drop 24).drop 24).drop 24).drop 24).drop 24).drop 24).drop 24).drop 24).drop 24).drop 24).drop 24).drop 24).drop 24).drop 24).drop 24), List.all_append, w_t16, ← List.take_append_drop 24 ((((((((((((((((words1.drop 24).drop 24).drop 24).drop 24).drop 24).drop 24).drop 24).drop 24).drop 24).drop 24).drop 24).drop 24).drop 24).drop 24).drop 24).drop 24), List.all_append, w_t17, w_t18]
 rfl
set_option maxRecDepth 65536 in
theorem w_rest : rest_1_c.before args0 about1 = true := by decide +kernel
set_option maxRecDepth 65536 in
theorem w_case : (Jvm.Cond.and given_1 narrow_1).before args0 about1 = true := by decide +kernel
theorem w_applies : (headSpec (Jvm.Cond.code x code maxLocals ret :: tables_1) room_1).applies x e0.platform about1 = true :=
 (Spec.applies_iff w_frames).mpr ⟨w_running, w_runnable, w_alone, w_named, w_hears, w_ripe, w_room, w_tables⟩
theorem atStart : AtStart classFile x code maxLocals ret World_1 tables_1 room_1 Calls_1 rest_1 Pre_1 launch0 p0 e0 about1 theMethod args0 below0 :=
 ⟨lists_1, trivial, launch0.admits_env _ _ _, launch0.least_env, fairChoices_fair.cas, fairChoices_fair.clock, w_frames, w_args, w_heap, w_applies, trivial, w_rest, w_case⟩
end start1
theorem witness_1 : WitnessClaimed_1 := ⟨start1.p0, start1.e0, start1.about1, start1.theMethod, start1.args0, start1.below0, start1.atStart⟩
end Jvm.Pilot.@@N@@
