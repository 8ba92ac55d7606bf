import JvmDerived
import JvmDerived.Pilot.@@N@@Statement
import JvmDerived.Pilot.@@N@@Code
set_option linter.unusedVariables false
set_option linter.unusedSimpArgs false
namespace Jvm.Pilot.@@N@@
open Jvm Jvm.ClassFile Sem Op Lib Jvm.Free Jvm.Stand Jvm.LawKit Jvm.RoadKit Bundle Jvm.Pilot.@@N@@.Jvm.D
abbrev vI (x : Int32) : Value := .int x
abbrev vJ (x : Int64) : Value := .long x
abbrev vD (x : UInt64) : Value := .double x
abbrev vF (x : UInt32) : Value := .float x
abbrev vR (x : Addr) : Value := .ref x
abbrev si (x : Int32) : Slot := .val (.int x)
abbrev sj (x : Int64) : Slot := .val (.long x)
abbrev sd (x : UInt64) : Slot := .val (.double x)
abbrev sf (x : UInt32) : Slot := .val (.float x)
abbrev sr (x : Addr) : Slot := .val (.ref x)
abbrev rm (a b c d : Nat) : Room := { frames := a, cells := b, slots := c, locals := d }
abbrev Met (l : Launch) (y : MethodName) (bn : ByteArray) (ml : Nat) (rt : Option FieldType) (ws : List Jvm.Cond) (R : Room) (A : Array Value) (Z : State) (h0 : Heap) (Q : Option Value → Heap → List Loc → Prop) : Prop := MetFree l y (head1 (Jvm.Cond.code y bn ml rt :: ws) R) (fun a U => a = A ∧ Z.Warmed39 U.vm ∧ U.heap = h0) (fun _ _ _ _ _ => True) (fun _ U o U' => ∃ v L, o = .returned v ∧ Q v U'.heap L ∧ FrameEnd U o U' L R.cells R.slots)
abbrev un : Slot := .unset
abbrev se : Slot := .second
abbrev Sp (p : Program) (e : Env) (b : List Frame) (T : State) (g : JFrame) (t : State) : Prop := Steps p.tables e b (T.setTop g) t
abbrev Rt (p : Program) (e : Env) (b : List Frame) (T : State) (g : JFrame) (s : State) (m : MethodId) (A : Array Value) (n : Nat) : Prop := ∀ t, Steps p.tables e b (T.setTop g) t → Steps p.tables e b (s.setTop (entryFrame m A n)) t
theorem gFs {p : Program} {l : Launch} {e : Env} {R : Room} {s : State} {m : MethodId} {args : Array Value} {below : List Frame} {meth : Method} {c : Code} {T : State} {locs : List Loc} {cells slots : Nat} {Z : State} {a0 : Array Value} {h : Heap} (X : Stand p l e R s m args below meth c T locs cells slots) (hx : p.tables.exec = Jvm.exec) (hZ : Z.Warmed39 s.vm) {own O n d : String} {index : Nat} (hown : s.vm.findClass own = some m.cls) (w : (Cond.fieldLink own index O n d).before a0 Z = true) (eT : T.heap = h) {a : Addr} {v : Value} (F : Fld Z h a O n d v) {pc : Nat} {Ls : Array Slot} {rest : List Value} {s1 : State} {A : Array Value} {N : Nat} (k : Rt p e below T (mkF m pc Ls (.ref a :: rest)) s1 m A N) (hd : decode c.code pc = .ok (.getfield index, 3)) : ∃ T', Stand p l e R s m args below meth c T' locs cells slots ∧ T'.heap = h ∧ Rt p e below T' (mkF m (pc + 3) Ls (v :: rest)) s1 m A N := by
  obtain ⟨T', X', e', st⟩ := getF X hx hZ hown (host := "") (Or.inl w) Via.refl eT F (g := mkF m pc Ls (.ref a :: rest)) rfl rfl hd
  exact ⟨T', X', e', fun t q => k t (st t q)⟩
abbrev zI : Value := .int (0 : Int32)
theorem nL {a b c : Nat} (x : a < b) (y : b ≤ c) : a ≠ c := Nat.ne_of_lt (Nat.lt_of_lt_of_le x y)
theorem nG {a b c : Nat} (x : a < b) (y : b ≤ c) : c ≠ a := Nat.ne_of_gt (Nat.lt_of_lt_of_le x y)
theorem oL {l : List Addr} {a : Addr} {P : Prop} (i : Nat) (e : l[i]? = some a) : a ∈ l ∨ P := Or.inl (List.mem_of_getElem? e)
section
variable {p : Program} {l : Launch} {e : Env} {R : Room} {s : State} {m : MethodId} {args : Array Value} {below : List Frame} {meth : Method} {c : Code} {T : State} {locs : List Loc} {cells slots : Nat} {s1 : State} {A : Array Value} {N pc : Nat} {Ls : Array Slot} {st : List Value}
theorem lt_b {a b : Nat} (h : Nat.blt a b = true) : a < b := Nat.le_of_ble_eq_true h
theorem b5 {a b c d e f g h i j : Nat} (q : (Nat.ble a b && (Nat.ble c d && (Nat.ble e f && (Nat.ble g h && Nat.ble i j)))) = true) : a ≤ b ∧ c ≤ d ∧ e ≤ f ∧ g ≤ h ∧ i ≤ j := by
  simp only [Bool.and_eq_true, Nat.ble_eq] at q; exact q
theorem f_ilN {n : Fin 4} {v : Int32} (X : Stand p l e R s m args below meth c T locs cells slots) (hx : p.tables.exec = Jvm.exec) (k : Rt p e below T (mkF m pc Ls st) s1 m A N) (hd : decode c.code pc = .ok (.iload_n n, 1)) (hl : Ls[n.val]? = some (.val (.int v))) : Rt p e below T (mkF m (pc + 1) Ls (.int v :: st)) s1 m A N := fun t q => k t (XS.iloadN X.here hx rfl hd hl q)
theorem f_alN {n : Fin 4} {a : Addr} (X : Stand p l e R s m args below meth c T locs cells slots) (hx : p.tables.exec = Jvm.exec) (k : Rt p e below T (mkF m pc Ls st) s1 m A N) (hd : decode c.code pc = .ok (.aload_n n, 1)) (hl : Ls[n.val]? = some (.val (.ref a))) : Rt p e below T (mkF m (pc + 1) Ls (.ref a :: st)) s1 m A N := fun t q => k t (XS.aloadN X.here hx rfl hd hl rfl q)
theorem f_dlN {n : Fin 4} {v : UInt64} (X : Stand p l e R s m args below meth c T locs cells slots) (hx : p.tables.exec = Jvm.exec) (k : Rt p e below T (mkF m pc Ls st) s1 m A N) (hd : decode c.code pc = .ok (.dload_n n, 1)) (hl : Ls[n.val]? = some (.val (.double v))) : Rt p e below T (mkF m (pc + 1) Ls (.double v :: st)) s1 m A N := fun t q => k t (XS.dloadN X.here hx rfl hd hl q)
theorem f_isN {n : Fin 4} {v : Int32} {l' : Array Slot} (X : Stand p l e R s m args below meth c T locs cells slots) (hx : p.tables.exec = Jvm.exec) (k : Rt p e below T (mkF m pc Ls (.int v :: st)) s1 m A N) (hd : decode c.code pc = .ok (.istore_n n, 1)) (hl : storeLocals Ls n.val (.int v) = some l') : Rt p e below T (mkF m (pc + 1) l' st) s1 m A N := fun t q => k t (XS.istoreN X.here hx rfl hd rfl hl q)
theorem f_dsN {n : Fin 4} {v : UInt64} {l' : Array Slot} (X : Stand p l e R s m args below meth c T locs cells slots) (hx : p.tables.exec = Jvm.exec) (k : Rt p e below T (mkF m pc Ls (.double v :: st)) s1 m A N) (hd : decode c.code pc = .ok (.dstore_n n, 1)) (hl : storeLocals Ls n.val (.double v) = some l') : Rt p e below T (mkF m (pc + 1) l' st) s1 m A N := fun t q => k t (XS.dstoreN X.here hx rfl hd rfl hl q)
theorem f_asN {n : Fin 4} {a : Addr} {l' : Array Slot} (X : Stand p l e R s m args below meth c T locs cells slots) (hx : p.tables.exec = Jvm.exec) (k : Rt p e below T (mkF m pc Ls (.ref a :: st)) s1 m A N) (hd : decode c.code pc = .ok (.astore_n n, 1)) (hl : storeLocals Ls n.val (.ref a) = some l') : Rt p e below T (mkF m (pc + 1) l' st) s1 m A N := fun t q => k t (XS.astoreN X.here hx rfl hd rfl rfl hl q)
theorem f_il {n : Nat} {v : Int32} (X : Stand p l e R s m args below meth c T locs cells slots) (hx : p.tables.exec = Jvm.exec) (k : Rt p e below T (mkF m pc Ls st) s1 m A N) (hd : decode c.code pc = .ok (.iload n, 2)) (hl : Ls[n]? = some (.val (.int v))) : Rt p e below T (mkF m (pc + 2) Ls (.int v :: st)) s1 m A N := fun t q => k t (XS.iload X.here hx rfl hd hl q)
theorem f_al {n : Nat} {a : Addr} (X : Stand p l e R s m args below meth c T locs cells slots) (hx : p.tables.exec = Jvm.exec) (k : Rt p e below T (mkF m pc Ls st) s1 m A N) (hd : decode c.code pc = .ok (.aload n, 2)) (hl : Ls[n]? = some (.val (.ref a))) : Rt p e below T (mkF m (pc + 2) Ls (.ref a :: st)) s1 m A N := fun t q => k t (XS.aload X.here hx rfl hd hl rfl q)
theorem f_dl {n : Nat} {v : UInt64} (X : Stand p l e R s m args below meth c T locs cells slots) (hx : p.tables.exec = Jvm.exec) (k : Rt p e below T (mkF m pc Ls st) s1 m A N) (hd : decode c.code pc = .ok (.dload n, 2)) (hl : Ls[n]? = some (.val (.double v))) : Rt p e below T (mkF m (pc + 2) Ls (.double v :: st)) s1 m A N := fun t q => k t (XS.dload X.here hx rfl hd hl q)
theorem f_is {n : Nat} {v : Int32} {l' : Array Slot} (X : Stand p l e R s m args below meth c T locs cells slots) (hx : p.tables.exec = Jvm.exec) (k : Rt p e below T (mkF m pc Ls (.int v :: st)) s1 m A N) (hd : decode c.code pc = .ok (.istore n, 2)) (hl : storeLocals Ls n (.int v) = some l') : Rt p e below T (mkF m (pc + 2) l' st) s1 m A N := fun t q => k t (XS.istore X.here hx rfl hd rfl hl q)
theorem f_ds {n : Nat} {v : UInt64} {l' : Array Slot} (X : Stand p l e R s m args below meth c T locs cells slots) (hx : p.tables.exec = Jvm.exec) (k : Rt p e below T (mkF m pc Ls (.double v :: st)) s1 m A N) (hd : decode c.code pc = .ok (.dstore n, 2)) (hl : storeLocals Ls n (.double v) = some l') : Rt p e below T (mkF m (pc + 2) l' st) s1 m A N := fun t q => k t (XS.dstore X.here hx rfl hd rfl hl q)
theorem f_as {n : Nat} {a : Addr} {l' : Array Slot} (X : Stand p l e R s m args below meth c T locs cells slots) (hx : p.tables.exec = Jvm.exec) (k : Rt p e below T (mkF m pc Ls (.ref a :: st)) s1 m A N) (hd : decode c.code pc = .ok (.astore n, 2)) (hl : storeLocals Ls n (.ref a) = some l') : Rt p e below T (mkF m (pc + 2) l' st) s1 m A N := fun t q => k t (XS.astore X.here hx rfl hd rfl rfl hl q)
theorem f_ic {i : Int} {v : Int32} (X : Stand p l e R s m args below meth c T locs cells slots) (hx : p.tables.exec = Jvm.exec) (k : Rt p e below T (mkF m pc Ls st) s1 m A N) (hd : decode c.code pc = .ok (.iconst i, 1)) (hv : Int32.ofInt i = v) : Rt p e below T (mkF m (pc + 1) Ls (.int v :: st)) s1 m A N := by subst hv; exact fun t q => k t (XS.iconst X.here hx rfl hd q)
theorem f_bp {i : Int} {v : Int32} (X : Stand p l e R s m args below meth c T locs cells slots) (hx : p.tables.exec = Jvm.exec) (k : Rt p e below T (mkF m pc Ls st) s1 m A N) (hd : decode c.code pc = .ok (.bipush i, 2)) (hv : (Int8.ofInt i).toInt32 = v) : Rt p e below T (mkF m (pc + 2) Ls (.int v :: st)) s1 m A N := by subst hv; exact fun t q => k t (XS.bipush X.here hx rfl hd q)
theorem f_sp {i : Int} {v : Int32} (X : Stand p l e R s m args below meth c T locs cells slots) (hx : p.tables.exec = Jvm.exec) (k : Rt p e below T (mkF m pc Ls st) s1 m A N) (hd : decode c.code pc = .ok (.sipush i, 3)) (hv : (Int16.ofInt i).toInt32 = v) : Rt p e below T (mkF m (pc + 3) Ls (.int v :: st)) s1 m A N := by subst hv; exact fun t q => k t (XS.sipush X.here hx rfl hd q)
theorem f_d0 (X : Stand p l e R s m args below meth c T locs cells slots) (hx : p.tables.exec = Jvm.exec) (k : Rt p e below T (mkF m pc Ls st) s1 m A N) (hd : decode c.code pc = .ok (.dconst 0, 1)) : Rt p e below T (mkF m (pc + 1) Ls (.double (0 : UInt64) :: st)) s1 m A N := fun t q => k t (XS.dconst0 X.here hx rfl hd (v := (0 : UInt64)) rfl q)
theorem f_d1 (X : Stand p l e R s m args below meth c T locs cells slots) (hx : p.tables.exec = Jvm.exec) (k : Rt p e below T (mkF m pc Ls st) s1 m A N) (hd : decode c.code pc = .ok (.dconst 1, 1)) : Rt p e below T (mkF m (pc + 1) Ls (.double (4607182418800017408 : UInt64) :: st)) s1 m A N := fun t q => k t (XS.dconst1 X.here hx rfl hd (v := (4607182418800017408 : UInt64)) rfl q)
theorem f_iadd {u v r : Int32} (X : Stand p l e R s m args below meth c T locs cells slots) (hx : p.tables.exec = Jvm.exec) (k : Rt p e below T (mkF m pc Ls (.int v :: .int u :: st)) s1 m A N) (hd : decode c.code pc = .ok (.iadd, 1)) (hr : u + v = r) : Rt p e below T (mkF m (pc + 1) Ls (.int r :: st)) s1 m A N := by subst hr; exact fun t q => k t (XS.iadd X.here hx rfl hd rfl q)
theorem f_isub {u v r : Int32} (X : Stand p l e R s m args below meth c T locs cells slots) (hx : p.tables.exec = Jvm.exec) (k : Rt p e below T (mkF m pc Ls (.int v :: .int u :: st)) s1 m A N) (hd : decode c.code pc = .ok (.isub, 1)) (hr : u - v = r) : Rt p e below T (mkF m (pc + 1) Ls (.int r :: st)) s1 m A N := by subst hr; exact fun t q => k t (XS.isub X.here hx rfl hd rfl q)
theorem f_iand {u v r : Int32} (X : Stand p l e R s m args below meth c T locs cells slots) (hx : p.tables.exec = Jvm.exec) (k : Rt p e below T (mkF m pc Ls (.int v :: .int u :: st)) s1 m A N) (hd : decode c.code pc = .ok (.iand, 1)) (hr : u &&& v = r) : Rt p e below T (mkF m (pc + 1) Ls (.int r :: st)) s1 m A N := by subst hr; exact fun t q => k t (XS.iand X.here hx rfl hd rfl q)
theorem f_iushr {u v r : Int32} (X : Stand p l e R s m args below meth c T locs cells slots) (hx : p.tables.exec = Jvm.exec) (k : Rt p e below T (mkF m pc Ls (.int v :: .int u :: st)) s1 m A N) (hd : decode c.code pc = .ok (.iushr, 1)) (hr : ((u.toUInt32 >>> (v &&& 31).toUInt32).toInt32) = r) : Rt p e below T (mkF m (pc + 1) Ls (.int r :: st)) s1 m A N := by subst hr; exact fun t q => k t (XS.iushr X.here hx rfl hd rfl q)
theorem f_nlN {n : Fin 4} (X : Stand p l e R s m args below meth c T locs cells slots) (hx : p.tables.exec = Jvm.exec) (k : Rt p e below T (mkF m pc Ls st) s1 m A N) (hd : decode c.code pc = .ok (.aload_n n, 1)) (hl : Ls[n.val]? = some (.val .null)) : Rt p e below T (mkF m (pc + 1) Ls (.null :: st)) s1 m A N := fun t q => k t (XS.aloadN X.here hx rfl hd hl rfl q)
theorem f_nsN {n : Fin 4} {l' : Array Slot} (X : Stand p l e R s m args below meth c T locs cells slots) (hx : p.tables.exec = Jvm.exec) (k : Rt p e below T (mkF m pc Ls (.null :: st)) s1 m A N) (hd : decode c.code pc = .ok (.astore_n n, 1)) (hl : storeLocals Ls n.val .null = some l') : Rt p e below T (mkF m (pc + 1) l' st) s1 m A N := fun t q => k t (XS.astoreN X.here hx rfl hd rfl rfl hl q)
theorem f_nl {n : Nat} (X : Stand p l e R s m args below meth c T locs cells slots) (hx : p.tables.exec = Jvm.exec) (k : Rt p e below T (mkF m pc Ls st) s1 m A N) (hd : decode c.code pc = .ok (.aload n, 2)) (hl : Ls[n]? = some (.val .null)) : Rt p e below T (mkF m (pc + 2) Ls (.null :: st)) s1 m A N := fun t q => k t (XS.aload X.here hx rfl hd hl rfl q)
theorem f_ns {n : Nat} {l' : Array Slot} (X : Stand p l e R s m args below meth c T locs cells slots) (hx : p.tables.exec = Jvm.exec) (k : Rt p e below T (mkF m pc Ls (.null :: st)) s1 m A N) (hd : decode c.code pc = .ok (.astore n, 2)) (hl : storeLocals Ls n .null = some l') : Rt p e below T (mkF m (pc + 2) l' st) s1 m A N := fun t q => k t (XS.astore X.here hx rfl hd rfl rfl hl q)
theorem f_an (X : Stand p l e R s m args below meth c T locs cells slots) (hx : p.tables.exec = Jvm.exec) (k : Rt p e below T (mkF m pc Ls st) s1 m A N) (hd : decode c.code pc = .ok (.aconst_null, 1)) : Rt p e below T (mkF m (pc + 1) Ls (.null :: st)) s1 m A N := fun t q => k t (XS.aconstNull X.here hx rfl hd q)
theorem f_pop {u : Value} (X : Stand p l e R s m args below meth c T locs cells slots) (hx : p.tables.exec = Jvm.exec) (k : Rt p e below T (mkF m pc Ls (u :: st)) s1 m A N) (hd : decode c.code pc = .ok (.pop, 1)) (hc : u.category = 1) : Rt p e below T (mkF m (pc + 1) Ls st) s1 m A N := fun t q => k t (XS.pop X.here hx rfl hd rfl hc q)
theorem f_inc {n : Nat} {i : Int} {v : Int32} {l' : Array Slot} (X : Stand p l e R s m args below meth c T locs cells slots) (hx : p.tables.exec = Jvm.exec) (k : Rt p e below T (mkF m pc Ls st) s1 m A N) (hd : decode c.code pc = .ok (.iinc n i, 3)) (hl : Ls[n]? = some (.val (.int v))) (hl' : storeLocals Ls n (.int (v + Int32.ofInt i)) = some l') : Rt p e below T (mkF m (pc + 3) l' st) s1 m A N := fun t q => k t (XS.iinc X.here hx rfl hd hl hl' q)
theorem f_dup {u : Value} (X : Stand p l e R s m args below meth c T locs cells slots) (hx : p.tables.exec = Jvm.exec) (k : Rt p e below T (mkF m pc Ls (u :: st)) s1 m A N) (hd : decode c.code pc = .ok (.dup, 1)) (hc : u.category = 1) : Rt p e below T (mkF m (pc + 1) Ls (u :: u :: st)) s1 m A N := fun t q => k t (XS.dup X.here hx rfl hd rfl hc q)
theorem f_dupX1 {u v : Value} (X : Stand p l e R s m args below meth c T locs cells slots) (hx : p.tables.exec = Jvm.exec) (k : Rt p e below T (mkF m pc Ls (u :: v :: st)) s1 m A N) (hd : decode c.code pc = .ok (.dup_x1, 1)) (hc : u.category = 1) (hc' : v.category = 1) : Rt p e below T (mkF m (pc + 1) Ls (u :: v :: u :: st)) s1 m A N := fun t q => k t (XS.dupX1 X.here hx rfl hd rfl hc hc' q)
theorem f_go {i : Int} {pc' : Nat} (X : Stand p l e R s m args below meth c T locs cells slots) (hx : p.tables.exec = Jvm.exec) (k : Rt p e below T (mkF m pc Ls st) s1 m A N) (hd : decode c.code pc = .ok (.goto i, 3)) (hp : 0 ≤ (pc : Int) + i ∧ ((pc : Int) + i).toNat = pc') : Rt p e below T (mkF m pc' Ls st) s1 m A N := fun t q => k t (XS.goto X.here hx rfl (pc0 := pc) rfl hd hp.1 hp.2 q)
theorem f_ifY {i : Int} {pc' : Nat} {cd : ClassFile.Cond} {u : Int32} (X : Stand p l e R s m args below meth c T locs cells slots) (hx : p.tables.exec = Jvm.exec) (k : Rt p e below T (mkF m pc Ls (.int u :: st)) s1 m A N) (hd : decode c.code pc = .ok (.ifCond cd i, 3)) (hc : ifCond.holds cd u = true) (hp : 0 ≤ (pc : Int) + i ∧ ((pc : Int) + i).toNat = pc') : Rt p e below T (mkF m pc' Ls st) s1 m A N := fun t q => k t (XS.ifYes X.here hx rfl (pc0 := pc) rfl hd rfl hc hp.1 hp.2 q)
theorem f_ifN {i : Int} {cd : ClassFile.Cond} {u : Int32} (X : Stand p l e R s m args below meth c T locs cells slots) (hx : p.tables.exec = Jvm.exec) (k : Rt p e below T (mkF m pc Ls (.int u :: st)) s1 m A N) (hd : decode c.code pc = .ok (.ifCond cd i, 3)) (hc : ifCond.holds cd u = false) : Rt p e below T (mkF m (pc + 3) Ls st) s1 m A N := fun t q => k t (XS.ifNo X.here hx rfl hd rfl hc q)
theorem f_icY {i : Int} {pc' : Nat} {cd : ClassFile.Cond} {u v : Int32} (X : Stand p l e R s m args below meth c T locs cells slots) (hx : p.tables.exec = Jvm.exec) (k : Rt p e below T (mkF m pc Ls (.int v :: .int u :: st)) s1 m A N) (hd : decode c.code pc = .ok (.if_icmp cd i, 3)) (hc : if_icmp.holds cd u v = true) (hp : 0 ≤ (pc : Int) + i ∧ ((pc : Int) + i).toNat = pc') : Rt p e below T (mkF m pc' Ls st) s1 m A N := fun t q => k t (XS.icmpYes X.here hx rfl (pc0 := pc) rfl hd rfl hc hp.1 hp.2 q)
theorem f_icN {i : Int} {cd : ClassFile.Cond} {u v : Int32} (X : Stand p l e R s m args below meth c T locs cells slots) (hx : p.tables.exec = Jvm.exec) (k : Rt p e below T (mkF m pc Ls (.int v :: .int u :: st)) s1 m A N) (hd : decode c.code pc = .ok (.if_icmp cd i, 3)) (hc : if_icmp.holds cd u v = false) : Rt p e below T (mkF m (pc + 3) Ls st) s1 m A N := fun t q => k t (XS.icmpNo X.here hx rfl hd rfl hc q)
theorem f_inY {i : Int} {pc' : Nat} (X : Stand p l e R s m args below meth c T locs cells slots) (hx : p.tables.exec = Jvm.exec) (k : Rt p e below T (mkF m pc Ls (.null :: st)) s1 m A N) (hd : decode c.code pc = .ok (.ifnull i, 3)) (hp : 0 ≤ (pc : Int) + i ∧ ((pc : Int) + i).toNat = pc') : Rt p e below T (mkF m pc' Ls st) s1 m A N := fun t q => k t (XS.ifnullYes X.here hx rfl (pc0 := pc) rfl hd rfl hp.1 hp.2 q)
theorem f_inN {i : Int} {a : Addr} (X : Stand p l e R s m args below meth c T locs cells slots) (hx : p.tables.exec = Jvm.exec) (k : Rt p e below T (mkF m pc Ls (.ref a :: st)) s1 m A N) (hd : decode c.code pc = .ok (.ifnull i, 3)) : Rt p e below T (mkF m (pc + 3) Ls st) s1 m A N := fun t q => k t (XS.ifnullNo X.here hx rfl hd rfl q)
theorem f_nnY {i : Int} {pc' : Nat} {a : Addr} (X : Stand p l e R s m args below meth c T locs cells slots) (hx : p.tables.exec = Jvm.exec) (k : Rt p e below T (mkF m pc Ls (.ref a :: st)) s1 m A N) (hd : decode c.code pc = .ok (.ifnonnull i, 3)) (hp : 0 ≤ (pc : Int) + i ∧ ((pc : Int) + i).toNat = pc') : Rt p e below T (mkF m pc' Ls st) s1 m A N := fun t q => k t (XS.ifnonnullYes X.here hx rfl (pc0 := pc) rfl hd rfl hp.1 hp.2 q)
theorem f_nnN {i : Int} (X : Stand p l e R s m args below meth c T locs cells slots) (hx : p.tables.exec = Jvm.exec) (k : Rt p e below T (mkF m pc Ls (.null :: st)) s1 m A N) (hd : decode c.code pc = .ok (.ifnonnull i, 3)) : Rt p e below T (mkF m (pc + 3) Ls st) s1 m A N := fun t q => k t (XS.ifnonnullNo X.here hx rfl hd rfl q)
theorem f_lsw {u : Int32} {df x y : Int} {ps : Array (Int × Int)} {ln pc' : Nat} (X : Stand p l e R s m args below meth c T locs cells slots) (hx : p.tables.exec = Jvm.exec) (k : Rt p e below T (mkF m pc Ls (.int u :: st)) s1 m A N) (hd : decode c.code pc = .ok (.lookupswitch df ps, ln)) (hs : (ps.toList.zip (ps.toList.drop 1)).all (fun (a, next) => a.1 < next.1) = true) (hf : ps.find? (·.1 == u.toInt) = some (x, y)) (hp : 0 ≤ (pc : Int) + y ∧ ((pc : Int) + y).toNat = pc') : Rt p e below T (mkF m pc' Ls st) s1 m A N := by obtain ⟨hp1, rfl⟩ := hp; exact fun t q => k t (X.lookupswitchHit hx (g := mkF m pc Ls (.int u :: st)) rfl rfl hd hs hf hp1 t q)
theorem f_dc {i : CmpOp} {u v : UInt64} (X : Stand p l e R s m args below meth c T locs cells slots) (hx : p.tables.exec = Jvm.exec) (k : Rt p e below T (mkF m pc Ls (.double v :: .double u :: st)) s1 m A N) (hd : decode c.code pc = .ok (.dcmp i, 1)) : Rt p e below T (mkF m (pc + 1) Ls (.int (cmpValue (FP.dcmp u v) i) :: st)) s1 m A N := fun t q => k t (XS.dcmpS X.here hx rfl hd rfl rfl q)
theorem f_dadd {u v : UInt64} (X : Stand p l e R s m args below meth c T locs cells slots) (hx : p.tables.exec = Jvm.exec) (k : Rt p e below T (mkF m pc Ls (.double v :: .double u :: st)) s1 m A N) (hd : decode c.code pc = .ok (.dadd, 1)) (hn : Jvm.Free.Fl.NoNaN64 (FP.dadd u v)) : Rt p e below T (mkF m (pc + 1) Ls (.double (FP.dadd u v) :: st)) s1 m A N := fun t q => k t (XS.daddS X.here hx rfl hd rfl hn rfl q)
theorem f_ddiv {u v : UInt64} (X : Stand p l e R s m args below meth c T locs cells slots) (hx : p.tables.exec = Jvm.exec) (k : Rt p e below T (mkF m pc Ls (.double v :: .double u :: st)) s1 m A N) (hd : decode c.code pc = .ok (.ddiv, 1)) (hn : Jvm.Free.Fl.NoNaN64 (FP.ddiv u v)) : Rt p e below T (mkF m (pc + 1) Ls (.double (FP.ddiv u v) :: st)) s1 m A N := fun t q => k t (XS.ddivS X.here hx rfl hd rfl hn rfl q)
theorem f_i2d {u : Int32} (X : Stand p l e R s m args below meth c T locs cells slots) (hx : p.tables.exec = Jvm.exec) (k : Rt p e below T (mkF m pc Ls (.int u :: st)) s1 m A N) (hd : decode c.code pc = .ok (.i2d, 1)) : Rt p e below T (mkF m (pc + 1) Ls (.double (FP.i2d u) :: st)) s1 m A N := fun t q => k t (XS.i2dS X.here hx rfl hd rfl rfl q)
theorem f_len {Z : State} {h : Heap} {a : Addr} {kk : ClassId} {ty : FieldType} {n : Int32} {vs : List Value} {dv : Value} (X : Stand p l e R s m args below meth c T locs cells slots) (hx : p.tables.exec = Jvm.exec) (hZ : Z.Warmed39 s.vm) (eT : T.heap = h) (V : Arv Z h a kk ty n vs dv) (k : Rt p e below T (mkF m pc Ls (.ref a :: st)) s1 m A N) (hd : decode c.code pc = .ok (.arraylength, 1)) : Rt p e below T (mkF m (pc + 1) Ls (.int n :: st)) s1 m A N := by
  obtain ⟨cc, Ar, -, As, An, -, -⟩ := V
  exact fun t w => k t (X.arraylength hx (by rw [eT]; exact Ar.1) (State.isArrayOf_alike hZ.alike Ar.2.1) (g := mkF m pc Ls (.ref a :: st)) rfl rfl hd _ (by rw [len_of As An]; exact w))
theorem f_ial {Z : State} {h : Heap} {a : Addr} {kk : ClassId} {n j : Int32} {vs : List Value} {dv : Value} {v : Int32} (X : Stand p l e R s m args below meth c T locs cells slots) (hx : p.tables.exec = Jvm.exec) (hZ : Z.Warmed39 s.vm) (eT : T.heap = h) (V : Arv Z h a kk .int n vs dv) (k : Rt p e below T (mkF m pc Ls (.int j :: .ref a :: st)) s1 m A N) (hd : decode c.code pc = .ok (.iaload, 1)) (q : ¬ j < 0 ∧ j < n) (u : vs.getD j.toNatClampNeg dv = .int v) : Rt p e below T (mkF m (pc + 1) Ls (.int v :: st)) s1 m A N := by
  obtain ⟨cc, Ar, -, As, -, Ah, -⟩ := V
  exact fun t w => k t (X.iaload hx (by rw [eT]; exact Ar.1) (State.isArrayOf_alike hZ.alike Ar.2.1) Ar.2.2 (inb_of As q) (Has.at Ah (inb_of As q) u) (g := mkF m pc Ls (.int j :: .ref a :: st)) rfl rfl hd _ w)
theorem f_aal {Z : State} {h : Heap} {a : Addr} {kk : ClassId} {ty : FieldType} {n j : Int32} {vs : List Value} {dv v : Value} (X : Stand p l e R s m args below meth c T locs cells slots) (hx : p.tables.exec = Jvm.exec) (hZ : Z.Warmed39 s.vm) (eT : T.heap = h) (V : Arv Z h a kk ty n vs dv) (k : Rt p e below T (mkF m pc Ls (.int j :: .ref a :: st)) s1 m A N) (hd : decode c.code pc = .ok (.aaload, 1)) (ht : ty.isReference = true) (q : ¬ j < 0 ∧ j < n) (u : vs.getD j.toNatClampNeg dv = v) : Rt p e below T (mkF m (pc + 1) Ls (v :: st)) s1 m A N := by
  obtain ⟨cc, Ar, -, As, -, Ah, -⟩ := V
  exact fun t w => k t (X.aaload hx (by rw [eT]; exact Ar.1) (State.isArrayOf_alike hZ.alike Ar.2.1) ht Ar.2.2 (inb_of As q) (Has.at Ah (inb_of As q) u) (g := mkF m pc Ls (.int j :: .ref a :: st)) rfl rfl hd _ w)
theorem f_ast {Z : State} {h : Heap} {a : Addr} {kk : ClassId} {ty : FieldType} {n j : Int32} {vs : List Value} {dv v : Value} {n0 : Nat} (X : Stand p l e R s m args below meth c T locs cells slots) (hx : p.tables.exec = Jvm.exec) (hZ : Z.Warmed39 s.vm) (eT : T.heap = h) (V : Arv Z h a kk ty n vs dv) (NF : Fr n0 locs) (ga : n0 ≤ a) (zs : n0 ≤ h.size) (k : Rt p e below T (mkF m pc Ls (v :: .int j :: .ref a :: st)) s1 m A N) (hd : decode c.code pc = .ok (.aastore, 1)) (ht : ty.isReference = true) (hf : fits ty v = true) (F : ∀ cc, Arr Z h a cc ty → cc.cls = kk → Sto Z h a v) (q : ¬ j < 0 ∧ j < n) (i : Nat) (hj : j.toNatClampNeg = i) (hi : i < vs.length) : ∃ T' h' L', Stand p l e R s m args below meth c T' L' cells slots ∧ T'.heap = h' ∧ Wr h h' a j.toNatClampNeg v ∧ Arv Z h' a kk ty n (vs.set i v) dv ∧ Fr n0 L' ∧ n0 ≤ h'.size ∧ Rt p e below T' (mkF m (pc + 1) Ls st) s1 m A N := by
  obtain ⟨cc, Ar, Aq, As, An, Ah, Ag⟩ := id V
  obtain ⟨T', h', X', e', W, sx⟩ := stR X hx hZ eT Ar (j := j) (inb_of As q) ht (F cc Ar Aq) (g := mkF m pc Ls (v :: .int j :: .ref a :: st)) rfl rfl hd
  exact ⟨T', h', _, X', e', W, Arv.set Ar Aq As An Ah Ag hf W i hj hi, Fr.snoc X' NF ga, Nat.le_trans zs (Nat.le_of_eq W.size.symm), fun t w => k t (sx t w)⟩
theorem f_cln {Z : State} {a0 : Array Value} {h : Heap} {a : Addr} {kk : ClassId} {ty : FieldType} {n : Int32} {vs : List Value} {dv : Value} {own ad : String} {index : Nat} (X : Stand p l e R s m args below meth c T locs cells slots) (hx : p.tables.exec = Jvm.exec) (hZ : Z.Warmed39 s.vm) (hown : s.vm.findClass own = some m.cls)
  (w1 : (Cond.methodLink own index ⟨ad, "clone", "()Ljava/lang/Object;"⟩).before a0 Z = true) (w2 : (Cond.sameMethod ad "java/lang/Object" "clone" "()Ljava/lang/Object;").before a0 Z = true) (w3 : (Cond.native ⟨"java/lang/Object", "clone", "()Ljava/lang/Object;"⟩).before a0 Z = true)
  (w4 : (Cond.instanceMethod ⟨"java/lang/Object", "clone", "()Ljava/lang/Object;"⟩).before a0 Z = true) (w5 : (Cond.selects ad ⟨ad, "clone", "()Ljava/lang/Object;"⟩ ⟨"java/lang/Object", "clone", "()Ljava/lang/Object;"⟩).before a0 Z = true) (w6 : (Cond.castable ad "java/lang/Cloneable").before a0 Z = true)
  (eT : T.heap = h) (F : Arv Z h a kk ty n vs dv) (E : Exa Z h a ad) {g : JFrame} (hg : g.method = m) (hsize : g.locals.size = c.maxLocals) {rest : List Value} (hst : g.stack = .ref a :: rest) (hd : decode c.code g.pc = .ok (.invokevirtual index, 3))
  (hf : 1 ≤ R.frames) {W cap : Nat} (hW : 2 * g.monitorRoom + (rest.map fun v => v.category).sum ≤ W) (hl : W + 14 ≤ R.locals) (hcap : n.toNatClampNeg ≤ cap) (hc : cells + 1 ≤ R.cells) (hsl : slots + cap ≤ R.slots) :
  ∃ T' h', Stand p l e R s m args below meth c T' locs (cells + 1) (slots + cap) ∧ T'.heap = h' ∧ Ext h h' ∧ Arv Z h' h.size kk ty n vs dv ∧ Exa Z h' h.size ad ∧
  ∀ target, Steps p.tables e below (T'.setTop { g with pc := g.pc + 3, stack := .ref h.size :: rest }) target → Steps p.tables e below (T.setTop g) target := by
  obtain ⟨cl, A, q1, S, q3, H, G⟩ := F
  have FC : FitC Z cl := fitC_of A fun i hi v hv => by rw [H i hi] at hv; cases hv; exact G i hi
  obtain ⟨T', h', X', e', ex, A', E', sx⟩ := cloneA X hx hZ hown w1 w2 w3 w4 w5 w6 eT A E FC hg hsize hst hd hf hW hl (by rw [S]; exact hcap) hc hsl
  exact ⟨T', h', X', e', ex, ⟨cloneOf cl, A', q1, S, q3, H, G⟩, E', sx⟩
theorem f_ist {Z : State} {h : Heap} {a : Addr} {kk : ClassId} {n j : Int32} {vs : List Value} {dv : Value} {v : Int32} {n0 : Nat} (X : Stand p l e R s m args below meth c T locs cells slots) (hx : p.tables.exec = Jvm.exec) (hZ : Z.Warmed39 s.vm) (eT : T.heap = h) (V : Arv Z h a kk .int n vs dv) (NF : Fr n0 locs) (ga : n0 ≤ a) (zs : n0 ≤ h.size) (k : Rt p e below T (mkF m pc Ls (.int v :: .int j :: .ref a :: st)) s1 m A N) (hd : decode c.code pc = .ok (.iastore, 1)) (q : ¬ j < 0 ∧ j < n) (i : Nat) (hj : j.toNatClampNeg = i) (hi : i < vs.length) : ∃ T' h' L', Stand p l e R s m args below meth c T' L' cells slots ∧ T'.heap = h' ∧ Wr h h' a j.toNatClampNeg (.int v) ∧ Arv Z h' a kk .int n (vs.set i (.int v)) dv ∧ Fr n0 L' ∧ n0 ≤ h'.size ∧ Rt p e below T' (mkF m (pc + 1) Ls st) s1 m A N := by
  obtain ⟨cc, Ar, Aq, As, An, Ah, Ag⟩ := id V
  obtain ⟨T', h', X', e', W, sx⟩ := stI X hx hZ eT Ar (j := j) (inb_of As q) (g := mkF m pc Ls (.int v :: .int j :: .ref a :: st)) rfl rfl hd
  exact ⟨T', h', _, X', e', W, Arv.set Ar Aq As An Ah Ag rfl W i hj hi, Fr.snoc X' NF ga, Nat.le_trans zs (Nat.le_of_eq W.size.symm), fun t w => k t (sx t w)⟩
end
section
variable {p : Program} {l : Launch} {e : Env} {R : Room} {s : State} {m : MethodId} {args : Array Value} {below : List Frame} {meth : Method} {c : Code} {T : State} {locs : List Loc} {cells slots : Nat} {s1 : State} {A : Array Value} {N pc : Nat} {Ls : Array Slot} {st : List Value}
variable {Z : State} {a0 : Array Value} {h : Heap} {own : String} {index : Nat} {y : MethodName} {bn : ByteArray} {ml : Nat} {rt : Option FieldType} {R' : Room} {A' : Array Value} {Q : Option Value → Heap → List Loc → Prop} {argsL rest : List Value} {W : Nat}
theorem c_S  (X : Stand p l e R s m args below meth c T locs cells slots) (hx : p.tables.exec = Jvm.exec) (hZ : Z.Warmed39 s.vm) (hown : s.vm.findClass own = some m.cls) (w1 : (Cond.methodLink own index y).before a0 Z = true) (w2 : (Cond.static y).before a0 Z = true) (w3 : (Cond.initialized y.cls).before a0 Z = true) (w4 : (Cond.code y bn ml rt).before a0 Z = true) (hy : y.cls ≠ "java/lang/invoke/MethodHandle" ∧ y.cls ≠ "java/lang/invoke/VarHandle") (M : Met l y bn ml rt [] R' A' Z h Q) (eT : T.heap = h) (ha : (argsL).toArray = A') (hsz : Ls.size = c.maxLocals) (k : Rt p e below T (mkF m pc Ls st) s1 m A N) (hs : st = argsL.reverse ++ rest) (hd : decode c.code pc = .ok (.invokestatic index, 3)) (hlen : ∀ sig, parseMethodDescriptor y.desc = some sig → argsL.length = sig.parameters.length) (hr : (rest.map fun v => v.category).sum ≤ W ∧ R'.frames + 1 ≤ R.frames ∧ W + (ml + 11) + R'.locals ≤ R.locals ∧ cells + R'.cells ≤ R.cells ∧ slots + R'.slots ≤ R.slots) : ∃ v T' L', Stand p l e R s m args below meth c T' (locs ++ L') (cells + R'.cells) (slots + R'.slots) ∧ Q v T'.heap L' ∧ Rt p e below T' (mkF m (pc + 3) Ls (v.toList ++ rest)) s1 m A N := by
  subst hs
  obtain ⟨hW, hf, hl, hc, hsl⟩ := hr
  obtain ⟨v, _, ⟨T', L', k', n'⟩, -, X', ⟨Lc, hQ, e1, e2, e3⟩, sx⟩ := Jvm.LawKit.callS X hx (y := y) hown (mvT hZ w1) (mvT hZ w2) (mvT hZ w3) (mvT hZ w4) hy (backOf (W := W) M hZ w4 w3 hf hl) (g := mkF m pc Ls (argsL.reverse ++ rest)) rfl hsz (argsL := argsL) (rest := rest) hlen rfl (by show 2 * 0 + _ ≤ _; omega) hd (fun _ _ => ⟨ha, eT, hc, hsl⟩)
  dsimp only [Pt.U, Pt.locs, Pt.cells, Pt.slots] at X' e1 e2 e3 sx hQ
  subst e1 e2 e3
  exact ⟨v, T', Lc, X', hQ, fun t q => k t (sx t q)⟩
theorem c_N {b : Addr} (X : Stand p l e R s m args below meth c T locs cells slots) (hx : p.tables.exec = Jvm.exec) (hZ : Z.Warmed39 s.vm) (hown : s.vm.findClass own = some m.cls) (w1 : (Cond.methodLink own index y).before a0 Z = true) (w2 : (Cond.instanceMethod y).before a0 Z = true) (w3 : (Cond.code y bn ml none).before a0 Z = true) (w4 : (Cond.initialized y.cls).before a0 Z = true) (hn : y.name = "<init>") (hy : y.cls ≠ "java/lang/invoke/MethodHandle" ∧ y.cls ≠ "java/lang/invoke/VarHandle") (M : Met l y bn ml none [] R' A' Z h Q) (eT : T.heap = h) (ha : (.ref b :: argsL).toArray = A') (hsz : Ls.size = c.maxLocals) (k : Rt p e below T (mkF m pc Ls st) s1 m A N) (hs : st = argsL.reverse ++ .ref b :: rest) (hd : decode c.code pc = .ok (.invokespecial index, 3)) (hlen : ∀ sig, parseMethodDescriptor y.desc = some sig → argsL.length = sig.parameters.length) (hr : (rest.map fun v => v.category).sum ≤ W ∧ R'.frames + 1 ≤ R.frames ∧ W + (ml + 11) + R'.locals ≤ R.locals ∧ cells + R'.cells ≤ R.cells ∧ slots + R'.slots ≤ R.slots) : ∃ v T' L', Stand p l e R s m args below meth c T' (locs ++ L') (cells + R'.cells) (slots + R'.slots) ∧ Q v T'.heap L' ∧ Rt p e below T' (mkF m (pc + 3) Ls (v.toList ++ rest)) s1 m A N := by
  subst hs
  obtain ⟨hW, hf, hl, hc, hsl⟩ := hr
  obtain ⟨v, _, ⟨T', L', k', n'⟩, -, X', ⟨Lc, hQ, e1, e2, e3⟩, sx⟩ := X.specialBack hx (y := y) hn hown (mvT hZ w1) (mvT hZ w2) (mvT hZ w3) hy (backOf (W := W) M hZ w3 w4 hf hl) (g := mkF m pc Ls (argsL.reverse ++ .ref b :: rest)) rfl hsz (Steps.refl _) (a := b) (argsL := argsL) (rest := rest) hlen rfl (by show 2 * 0 + _ ≤ _; omega) hd (fun _ _ => ⟨ha, eT, hc, hsl⟩)
  dsimp only [Pt.U, Pt.locs, Pt.cells, Pt.slots] at X' e1 e2 e3 sx hQ
  subst e1 e2 e3
  exact ⟨v, T', Lc, X', hQ, fun t q => k t (sx.trans q)⟩
theorem c_V {b : Addr} {C : String} {x : MethodName} (X : Stand p l e R s m args below meth c T locs cells slots) (hx : p.tables.exec = Jvm.exec) (hZ : Z.Warmed39 s.vm) (hown : s.vm.findClass own = some m.cls) (w1 : (Cond.methodLink own index x).before a0 Z = true) (w2 : (Cond.declares x).before a0 Z = true) (nf : Free.NotFace s x) (w3 : (Cond.selects C x y).before a0 Z = true) (w4 : (Cond.instanceMethod y).before a0 Z = true) (w5 : (Cond.code y bn ml rt).before a0 Z = true) (w6 : (Cond.initialized y.cls).before a0 Z = true) (hy : x.cls ≠ "java/lang/invoke/MethodHandle" ∧ x.cls ≠ "java/lang/invoke/VarHandle") (E : Exa Z h b C) (M : Met l y bn ml rt [] R' A' Z h Q) (eT : T.heap = h) (ha : (.ref b :: argsL).toArray = A') (hsz : Ls.size = c.maxLocals) (k : Rt p e below T (mkF m pc Ls st) s1 m A N) (hs : st = argsL.reverse ++ .ref b :: rest) (hd : decode c.code pc = .ok (.invokevirtual index, 3)) (hlen : ∀ sig, parseMethodDescriptor x.desc = some sig → argsL.length = sig.parameters.length) (hr : (rest.map fun v => v.category).sum ≤ W ∧ R'.frames + 1 ≤ R.frames ∧ W + (ml + 11) + R'.locals ≤ R.locals ∧ cells + R'.cells ≤ R.cells ∧ slots + R'.slots ≤ R.slots) : ∃ v T' L', Stand p l e R s m args below meth c T' (locs ++ L') (cells + R'.cells) (slots + R'.slots) ∧ Q v T'.heap L' ∧ Rt p e below T' (mkF m (pc + 3) Ls (v.toList ++ rest)) s1 m A N := by
  subst hs
  obtain ⟨hW, hf, hl, hc, hsl⟩ := hr
  obtain ⟨cB, kB, q1, q2, q3⟩ := isOf hZ eT E
  obtain ⟨v, _, ⟨T', L', k', n'⟩, -, X', ⟨Lc, hQ, e1, e2, e3⟩, sx⟩ := X.virtualBack hx (y := x) (z := y) hown (mvT hZ w1) (mvT hZ w2) nf (mvT hZ w3) (mvT hZ w4) hy (backOf (W := W) M hZ w5 w6 hf hl) q1 q3 (g := mkF m pc Ls (argsL.reverse ++ .ref b :: rest)) rfl hsz (Steps.refl _) (argsL := argsL) (rest := rest) hlen rfl (by show 2 * 0 + _ ≤ _; omega) hd (fun _ _ => ⟨ha, eT, hc, hsl⟩)
  dsimp only [Pt.U, Pt.locs, Pt.cells, Pt.slots] at X' e1 e2 e3 sx hQ
  subst e1 e2 e3
  exact ⟨v, T', Lc, X', hQ, fun t q => k t (sx.trans q)⟩
theorem c_U {b : Addr} {C ow : String} {x : MethodName} (X : Stand p l e R s m args below meth c T locs cells slots) (hx : p.tables.exec = Jvm.exec) (hZ : Z.Warmed39 s.vm) (hown : s.vm.findClass own = some m.cls) (w1 : (Cond.methodLink own index x).before a0 Z = true) (w2 : (Cond.sameMethod x.cls ow x.name x.desc).before a0 Z = true) (w2' : (Cond.declares ⟨ow, x.name, x.desc⟩).before a0 Z = true) (ho : ow ≠ "java/lang/invoke/MethodHandle" ∧ ow ≠ "java/lang/invoke/VarHandle") (w3 : (Cond.selects C x y).before a0 Z = true) (w4 : (Cond.instanceMethod y).before a0 Z = true) (w5 : (Cond.code y bn ml rt).before a0 Z = true) (w6 : (Cond.initialized y.cls).before a0 Z = true) (E : Exa Z h b C) (M : Met l y bn ml rt [] R' A' Z h Q) (eT : T.heap = h) (ha : (.ref b :: argsL).toArray = A') (hsz : Ls.size = c.maxLocals) (k : Rt p e below T (mkF m pc Ls st) s1 m A N) (hs : st = argsL.reverse ++ .ref b :: rest) (hd : decode c.code pc = .ok (.invokevirtual index, 3)) (hlen : ∀ sig, parseMethodDescriptor x.desc = some sig → argsL.length = sig.parameters.length) (hr : (rest.map fun v => v.category).sum ≤ W ∧ R'.frames + 1 ≤ R.frames ∧ W + (ml + 11) + R'.locals ≤ R.locals ∧ cells + R'.cells ≤ R.cells ∧ slots + R'.slots ≤ R.slots) : ∃ v T' L', Stand p l e R s m args below meth c T' (locs ++ L') (cells + R'.cells) (slots + R'.slots) ∧ Q v T'.heap L' ∧ Rt p e below T' (mkF m (pc + 3) Ls (v.toList ++ rest)) s1 m A N := by
  subst hs
  obtain ⟨hW, hf, hl, hc, hsl⟩ := hr
  obtain ⟨cB, kB, q1, q2, q3⟩ := isOf hZ eT E
  obtain ⟨v, _, ⟨T', L', k', n'⟩, -, X', ⟨Lc, hQ, e1, e2, e3⟩, sx⟩ := X.virtualBackUp hx (x := x) (y := y) hown (mvT hZ w1) (mvT hZ w2) (mvT hZ w2') ho (mvT hZ w3) (mvT hZ w4) (backOf (W := W) M hZ w5 w6 hf hl) q1 q3 (g := mkF m pc Ls (argsL.reverse ++ .ref b :: rest)) rfl hsz (Steps.refl _) (argsL := argsL) (rest := rest) hlen rfl (by show 2 * 0 + _ ≤ _; omega) hd (fun _ _ => ⟨ha, eT, hc, hsl⟩)
  dsimp only [Pt.U, Pt.locs, Pt.cells, Pt.slots] at X' e1 e2 e3 sx hQ
  subst e1 e2 e3
  exact ⟨v, T', Lc, X', hQ, fun t q => k t (sx.trans q)⟩
theorem c_P {b : Addr} {C : String} (X : Stand p l e R s m args below meth c T locs cells slots) (hx : p.tables.exec = Jvm.exec) (hZ : Z.Warmed39 s.vm) (hown : s.vm.findClass own = some m.cls) (w1 : (Cond.methodLink own index y).before a0 Z = true) (w2 : (Cond.instanceMethod y).before a0 Z = true) (hsel : (Cond.selects y.cls y y).before args s = true) (hp : s.PrivateAt y) (w3 : (Cond.code y bn ml rt).before a0 Z = true) (w4 : (Cond.initialized y.cls).before a0 Z = true) (hy : y.cls ≠ "java/lang/invoke/MethodHandle" ∧ y.cls ≠ "java/lang/invoke/VarHandle") (E : Exa Z h b C) (M : Met l y bn ml rt [] R' A' Z h Q) (eT : T.heap = h) (ha : (.ref b :: argsL).toArray = A') (hsz : Ls.size = c.maxLocals) (k : Rt p e below T (mkF m pc Ls st) s1 m A N) (hs : st = argsL.reverse ++ .ref b :: rest) (hd : decode c.code pc = .ok (.invokevirtual index, 3)) (hlen : ∀ sig, parseMethodDescriptor y.desc = some sig → argsL.length = sig.parameters.length) (hr : (rest.map fun v => v.category).sum ≤ W ∧ R'.frames + 1 ≤ R.frames ∧ W + (ml + 11) + R'.locals ≤ R.locals ∧ cells + R'.cells ≤ R.cells ∧ slots + R'.slots ≤ R.slots) : ∃ v T' L', Stand p l e R s m args below meth c T' (locs ++ L') (cells + R'.cells) (slots + R'.slots) ∧ Q v T'.heap L' ∧ Rt p e below T' (mkF m (pc + 3) Ls (v.toList ++ rest)) s1 m A N := by
  subst hs
  obtain ⟨hW, hf, hl, hc, hsl⟩ := hr
  obtain ⟨cq, q1, q2⟩ := E.cell
  obtain ⟨v, _, ⟨T', L', k', n'⟩, -, X', ⟨Lc, hQ, e1, e2, e3⟩, sx⟩ := X.privateBack hx (y := y) hown (mvT hZ w1) (mvT hZ w2) hsel hp (mvT hZ w3) hy (backOf (W := W) M hZ w3 w4 hf hl) (g := mkF m pc Ls (argsL.reverse ++ .ref b :: rest)) rfl hsz (Steps.refl _) (a := b) (by rw [eT]; exact q1) q2 (argsL := argsL) (rest := rest) hlen rfl (by show 2 * 0 + _ ≤ _; omega) hd (fun _ _ => ⟨ha, eT, hc, hsl⟩)
  dsimp only [Pt.U, Pt.locs, Pt.cells, Pt.slots] at X' e1 e2 e3 sx hQ
  subst e1 e2 e3
  exact ⟨v, T', Lc, X', hQ, fun t q => k t (sx.trans q)⟩
theorem c_I {b : Addr} {C : String} {x : MethodName} {cnt : Nat} (X : Stand p l e R s m args below meth c T locs cells slots) (hx : p.tables.exec = Jvm.exec) (hZ : Z.Warmed39 s.vm) (hown : s.vm.findClass own = some m.cls) (w1 : (Cond.methodLink own index x).before a0 Z = true) (w2 : (Cond.declares x).before a0 Z = true) (w3 : (Cond.interfaceMethod x.cls x.cls x.name x.desc).before a0 Z = true) (w4 : (Cond.selects C x y).before a0 Z = true) (w5 : (Cond.instanceMethod y).before a0 Z = true) (w6 : (Cond.publicMethod y).before a0 Z = true) (w7 : (Cond.unhidden C x.name x.desc).before a0 Z = true) (w8 : (Cond.castable C x.cls).before a0 Z = true) (w9 : (Cond.code y bn ml rt).before a0 Z = true) (w10 : (Cond.initialized y.cls).before a0 Z = true) (hy : x.cls ≠ "java/lang/invoke/MethodHandle" ∧ x.cls ≠ "java/lang/invoke/VarHandle") (E : Exa Z h b C) (M : Met l y bn ml rt [] R' A' Z h Q) (eT : T.heap = h) (ha : (.ref b :: argsL).toArray = A') (hsz : Ls.size = c.maxLocals) (k : Rt p e below T (mkF m pc Ls st) s1 m A N) (hs : st = argsL.reverse ++ .ref b :: rest) (hd : decode c.code pc = .ok (.invokeinterface index cnt, 5)) (hlen : ∀ sig, parseMethodDescriptor x.desc = some sig → argsL.length = sig.parameters.length) (hr : (rest.map fun v => v.category).sum ≤ W ∧ R'.frames + 1 ≤ R.frames ∧ W + (ml + 11) + R'.locals ≤ R.locals ∧ cells + R'.cells ≤ R.cells ∧ slots + R'.slots ≤ R.slots) : ∃ v T' L', Stand p l e R s m args below meth c T' (locs ++ L') (cells + R'.cells) (slots + R'.slots) ∧ Q v T'.heap L' ∧ Rt p e below T' (mkF m (pc + 5) Ls (v.toList ++ rest)) s1 m A N := by
  subst hs
  obtain ⟨hW, hf, hl, hc, hsl⟩ := hr
  obtain ⟨cB, kB, q1, q2, q3⟩ := isOf hZ eT E
  obtain ⟨v, _, ⟨T', L', k', n'⟩, -, X', ⟨Lc, hQ, e1, e2, e3⟩, sx⟩ := X.interfaceBack hx (xi := x) (y := y) hown (mvT hZ w1) (mvT hZ w2) (mvT hZ w3 (by simp [Cond.onTables, Cond.keepsFace, Cond.keeps, Cond.faceAtom, hy.1, hy.2])) (mvT hZ w4) (mvT hZ w5) (mvT hZ w6) (mvT hZ w7) (mvT hZ w8) hy (backOf (W := W) M hZ w9 w10 hf hl) q1 q2 q3 (g := mkF m pc Ls (argsL.reverse ++ .ref b :: rest)) rfl hsz (Steps.refl _) (argsL := argsL) (rest := rest) hlen rfl (by show 2 * 0 + _ ≤ _; omega) hd (fun _ _ => ⟨ha, eT, hc, hsl⟩)
  dsimp only [Pt.U, Pt.locs, Pt.cells, Pt.slots] at X' e1 e2 e3 sx hQ
  subst e1 e2 e3
  exact ⟨v, T', Lc, X', hQ, fun t q => k t (sx.trans q)⟩
end
abbrev Gl (p : Program) (e : Env) (s : State) (m : MethodId) (A : Array Value) (below : List Frame) (s₁ : State) (ml : Nat) (R : Room) (Q : Option Value → Heap → List Loc → Prop) : Prop := ∃ s₂ o, Steps p.tables e below (s₁.setTop (entryFrame m A ml)) s₂ ∧ s₂.status = .running ∧ Ended s₂ below o ∧ ∃ v L, o = .returned v ∧ Q v s₂.heap L ∧ FrameEnd s o s₂ L R.cells R.slots
theorem Met.intro {l : Launch} {y : MethodName} {bn : ByteArray} {ml : Nat} {rt : Option FieldType} {ws : List Jvm.Cond} {R : Room} {A : Array Value} {Z : State} {h0 : Heap} {Q : Option Value → Heap → List Loc → Prop} (hp : plainFor y = true) (g : ∀ (p : Program) (e : Env) (s : State) (m : MethodId) (below : List Frame) (meth : Method) (c : Code) (s₁ : State), p.tables.exec = Jvm.exec → c.code = bn → c.maxLocals = ml → Z.Warmed39 s.vm → s.vm.findClass y.cls = some m.cls → meth.name = y.name → meth.sig.returnType = rt → meth.locks = false → Stand p l e R s m A below meth c s₁ [] 0 0 → s₁.heap = h0 → Gl p e s m A below s₁ ml R Q) : Met l y bn ml rt ws R A Z h0 Q := by
  refine MetFree.of_bodySF hp hisR ?_
  intro p e s m args below meth c s₁ Bd hml0 hP hK
  obtain ⟨hA, hZ, hh⟩ := hP
  subst hA
  exact g p e s m below meth c s₁ Bd.exec Bd.bytes hml0 hZ (findClass_of_methodNamed Bd.named) (name_of_methodNamed Bd.named Bd.method).1 Bd.returns (BodyLoose.notSynchronized Bd) (Stand.of_body Bd) (by rw [← hh, Bd.state]; rfl)
theorem fin_v {p : Program} {l : Launch} {e : Env} {R : Room} {s : State} {m : MethodId} {A : Array Value} {below : List Frame} {meth : Method} {c : Code} {T s₁ : State} {L : List Loc} {cells slots ml pc : Nat} {Ls : Array Slot} {Q : Option Value → Heap → List Loc → Prop} (X : Stand p l e R s m A below meth c T L cells slots) (hx : p.tables.exec = Jvm.exec) (hrt : meth.sig.returnType = none) (hlk : meth.locks = false) (k : Rt p e below T (mkF m pc Ls []) s₁ m A ml) (hd : decode c.code pc = .ok (.return_, 1)) (q : Q none T.heap L) (hc : cells ≤ R.cells) (hs : slots ≤ R.slots) : Gl p e s m A below s₁ ml R Q := by
  obtain ⟨fs, hr, hrun, hended, hW, hsame⟩ := X.leave (v := none) (fun _ => rfl) hlk
  exact ⟨_, _, k _ (X.returnOut hx hrt hd hr), hrun, hended, _, _, rfl, q, ⟨_, rfl⟩, hW, hsame.mono hc hs⟩
theorem fin_r {p : Program} {l : Launch} {e : Env} {R : Room} {s : State} {m : MethodId} {A : Array Value} {below : List Frame} {meth : Method} {c : Code} {T s₁ : State} {L : List Loc} {cells slots ml pc : Nat} {Ls : Array Slot} {Q : Option Value → Heap → List Loc → Prop} (X : Stand p l e R s m A below meth c T L cells slots) (hx : p.tables.exec = Jvm.exec) {w : Value} {t : FieldType} {i : Instr} {st : List Value} (hrt : meth.sig.returnType = some t) (hlk : meth.locks = false) (hn : narrow t w = w) (hi : (i = .ireturn ∧ (t = .int ∨ t = .boolean ∨ t = .byte ∨ t = .char ∨ t = .short) ∧ ∃ z, w = .int z) ∨ (i = .lreturn ∧ t = .long ∧ ∃ z, w = .long z) ∨ (i = .dreturn ∧ t = .double ∧ ∃ z, w = .double z) ∨ (i = .freturn ∧ t = .float ∧ ∃ z, w = .float z) ∨ (i = .areturn ∧ t.isReference = true ∧ w.isRef = true)) (k : Rt p e below T (mkF m pc Ls (w :: st)) s₁ m A ml) (hd : decode c.code pc = .ok (i, 1)) (q : Q (some w) T.heap L) (hc : cells ≤ R.cells) (hs : slots ≤ R.slots) : Gl p e s m A below s₁ ml R Q := by
  obtain ⟨fs, hr, hrun, hended, hW, hsame⟩ := X.leave (v := some w) (fun h => by rw [hrt] at h; cases h) hlk
  exact ⟨_, _, k _ (retOut X hx hrt hn hi hd hr), hrun, hended, _, _, rfl, q, ⟨_, rfl⟩, hW, hsame.mono hc hs⟩
open Jvm.FP.Core
theorem nn_of {x : UInt64} (h : dIsNaN x = false) : Jvm.Free.Fl.NoNaN64 x := Jvm.Free.Fl.noNaN64_no.mpr h
theorem no_of {x : UInt64} (h : Jvm.Free.Fl.NoNaN64 x) : dIsNaN x = false := Jvm.Free.Fl.noNaN64_no.mp h
theorem no_fin {x : UInt64} (h : DFin x) : dIsNaN x = false := (notNaN_iff x).mpr (by obtain ⟨s, c, q, e⟩ := h; rw [e]; exact nofun)
theorem i2d_nz {v : Int32} (h : v ≠ 0) : ¬ DZero (FP.i2d v) := fun q => i2d_ne_zero h ((zero_bits2 _).mp q)
theorem nn_div {a : UInt64} {v : Int32} (ha : dIsNaN a = false) (h : v ≠ 0) : Jvm.Free.Fl.NoNaN64 (FP.ddiv a (FP.i2d v)) := nn_of (ddiv_out ha (i2d_fin v) (i2d_nz h))
theorem fin_div (a : Int32) {v : Int32} (h : v ≠ 0) : DFin (FP.ddiv (FP.i2d a) (FP.i2d v)) := by
  have h1 := i2d_mag a
  have h2 := i2d_big (v := v) (fun q => h (Int32.toInt_inj.mp q))
  exact fin_of_lt (ddiv_mag h1 h2.1 h2.2 (by decide) (by decide)) (by decide)
theorem own_nn0 : Jvm.Free.Fl.NoNaN64 (0 : UInt64) := nn_of (by decide +kernel)
theorem own_nn {x y : Addr} {l : List Addr} (h : x ∉ l) {i : Nat} (e : l[i]? = some y) : x ≠ y := fun q => h (q ▸ List.mem_of_getElem? e)
theorem own_bxne {b x n0 : Nat} {h : Heap} (P : b < n0 ∨ h.size ≤ b) (g : n0 ≤ x) (l : x < h.size) : b ≠ x := by omega
theorem own_bxn2 {b x n0 : Nat} {h h1 : Heap} (P : b < n0 ∨ h.size ≤ b) (g : n0 ≤ x) (l : x < h1.size) (k : h1.size ≤ h.size) : b ≠ x := by omega
theorem own_boxin {p : Int32} {c : Cell} (a : ¬ p < (-128 : Int32)) (b : ¬ (127 : Int32) < p) (S : c.slots.size = (256 : Int32).toNatClampNeg) : ¬ ((p + (128 : Int32)) < 0 ∨ c.slots.size ≤ (p + (128 : Int32)).toNatClampNeg) := inb_of S (by
  have s := c_iadd p 128; have r := rng32 p; have r2 := rng32 (p + 128)
  rw [Int32.lt_iff_toInt_lt, show (-128 : Int32).toInt = -128 by decide] at a
  rw [Int32.lt_iff_toInt_lt, show (127 : Int32).toInt = 127 by decide] at b
  rw [show (128 : Int32).toInt = 128 by decide] at s
  rw [Int32.lt_iff_toInt_lt, Int32.lt_iff_toInt_lt, show (0 : Int32).toInt = 0 by decide, show (256 : Int32).toInt = 256 by decide]
  omega)
theorem own_boxv {Z : State} {h : Heap} {b : Addr} {C n d : String} {p : Int32} (F : Fld Z h b C n d ((fun j : Int32 => Value.int (j - (128 : Int32))) (p + (128 : Int32)))) : Fld Z h b C n d (.int p) := by
  have e : (p + (128 : Int32)) - (128 : Int32) = p := by
    have s := c_iadd p 128; have t := c_isub (p + 128) 128; have r := rng32 p; have r2 := rng32 (p + 128 - 128)
    apply Int32.toInt_inj.mp; omega
  rw [show ((fun j : Int32 => Value.int (j - (128 : Int32))) (p + (128 : Int32))) = .int p from congrArg Value.int e] at F; exact F
theorem own_in16 {l : List Value} {j : Int32} (h : l.length = 16) (q : ¬ j < (0 : Int32) ∧ j < (16 : Int32)) : j.toNatClampNeg < l.length := by
  rw [h]
  obtain ⟨q1, q2⟩ := q
  rw [Int32.lt_iff_toInt_lt] at q1 q2
  rw [show (0 : Int32).toInt = 0 by decide] at q1
  rw [show (16 : Int32).toInt = 16 by decide] at q2
  simp only [Int32.toNatClampNeg]; omega
theorem own_nul16 (j : Int32) : ([.null, .null, .null, .null, .null, .null, .null, .null, .null, .null, .null, .null, .null, .null, .null, .null] : List Value).getD j.toNatClampNeg .null = .null := by
  generalize j.toNatClampNeg = n
  match n with
  | 0 | 1 | 2 | 3 | 4 | 5 | 6 | 7 | 8 | 9 | 10 | 11 | 12 | 13 | 14 | 15 => rfl
  | n + 16 => rfl
theorem own_gpos {r j : Int32} (h : j = (if r < (0 : Int32) then (0 : Int32) else r)) : (0 : Int32) < j ↔ (0 : Int32) < r := by
  by_cases q : r < (0 : Int32)
  · rw [if_pos q] at h; subst h
    constructor
    · intro a; exact absurd a (by decide)
    · intro a; rw [Int32.lt_iff_toInt_lt] at q a; omega
  · rw [if_neg q] at h; subst h; exact Iff.rfl
theorem own_cn1 {r j c c' : Int32} (h : j = (if r < (0 : Int32) then (0 : Int32) else r)) (q : (0 : Int32) < j) (e : c + (1 : Int32) = c') : c' = c + (if (0 : Int32) < r then (1 : Int32) else (0 : Int32)) := by
  rw [if_pos ((own_gpos h).mp q)]; exact e.symm
theorem own_cn0 {r j c : Int32} (h : j = (if r < (0 : Int32) then (0 : Int32) else r)) (q : ¬ (0 : Int32) < j) : c = c + (if (0 : Int32) < r then (1 : Int32) else (0 : Int32)) := by
  rw [if_neg (fun a => q ((own_gpos h).mpr a)), Int32.add_zero]
theorem own_nulls {l : List Value} {i : Int32} (n m : Nat) (hi : i.toInt = (n : Int)) (h : l.drop n = List.replicate m .null) : ∀ j : Int32, i.toInt ≤ j.toInt → j.toInt < 16 → l.getD j.toNatClampNeg .null = .null := fun j a b => by
  have e : l.getD j.toNatClampNeg .null = (l.drop n).getD (j.toNatClampNeg - n) .null := by
    rw [List.getD_eq_getElem?_getD, List.getD_eq_getElem?_getD, List.getElem?_drop]
    have : n + (j.toNatClampNeg - n) = j.toNatClampNeg := by simp only [Int32.toNatClampNeg]; omega
    rw [this]
  rw [e, h, List.getD_eq_getElem?_getD, List.getElem?_replicate]
  split <;> rfl
def own_st (b : Bool) (x : UInt64 × Int32) (d : UInt64) : UInt64 × Int32 := if b then (FP.dadd x.1 (FP.ddiv (FP.i2d (x.2 + 1)) d), x.2 + 1) else x
def own_res (b0 b1 b2 : Bool) (cn : Int32) : UInt64 := if cn = (0 : Int32) then (0 : UInt64) else FP.ddiv (own_st b2 (own_st b1 (own_st b0 ((0 : UInt64), (0 : Int32)) (FP.i2d 1)) (FP.i2d 2)) (FP.i2d 3)).1 (FP.i2d cn)
theorem own_stp {g : Int32} {s : UInt64} {c : Int32} {d : UInt64} (q : (0 : Int32) < g) : (FP.dadd s (FP.ddiv (FP.i2d (c + (1 : Int32))) d), c + (1 : Int32)) = own_st (decide ((0 : Int32) < g)) (s, c) d := by unfold own_st; rw [if_pos (decide_eq_true q)]
theorem own_z0 : Jvm.Free.Fl.NoNaN64 (0 : UInt64) := nn_of (by decide +kernel)
theorem own_sp1 {g : Int32} (q : (0 : Int32) < g) : (FP.dadd (0 : UInt64) (FP.ddiv (FP.i2d (1 : Int32)) (FP.i2d (1 : Int32))), (1 : Int32)) = own_st (decide ((0 : Int32) < g)) ((0 : UInt64), (0 : Int32)) (FP.i2d (1 : Int32)) := by
  unfold own_st; rw [if_pos (decide_eq_true q)]
  have e : ((0 : UInt64), (0 : Int32)).2 + (1 : Int32) = (1 : Int32) := by decide
  rw [e]
theorem own_st0 {g : Int32} {s : UInt64} {c : Int32} {d : UInt64} (q : ¬ (0 : Int32) < g) : (s, c) = own_st (decide ((0 : Int32) < g)) (s, c) d := by unfold own_st; rw [decide_eq_false q]; rfl
theorem own_qn {c v : Int32} (h : v ≠ 0 := by decide) : Jvm.Free.Fl.NoNaN64 (FP.ddiv (FP.i2d c) (FP.i2d v)) := nn_div (no_fin (i2d_fin c)) h
theorem own_sn {s : UInt64} {c v : Int32} (n : Jvm.Free.Fl.NoNaN64 s) (h : v ≠ 0 := by decide) : Jvm.Free.Fl.NoNaN64 (FP.dadd s (FP.ddiv (FP.i2d c) (FP.i2d v))) := nn_of (dadd_out (no_of n) (fin_div c h))
theorem own_rn {s : UInt64} {c : Int32} (n : Jvm.Free.Fl.NoNaN64 s) (h : ¬ (c = (0 : Int32))) : Jvm.Free.Fl.NoNaN64 (FP.ddiv s (FP.i2d c)) := nn_div (no_of n) h
theorem own_d1 : (4607182418800017408 : UInt64) = FP.i2d 1 := by decide +kernel
theorem own_d2 : (4611686018427387904 : UInt64) = FP.i2d 2 := by decide +kernel
theorem own_d3 : (4613937818241073152 : UInt64) = FP.i2d 3 := by decide +kernel
theorem own_qk0 (c : Int32) : Jvm.Free.Fl.NoNaN64 (FP.ddiv (FP.i2d c) (4607182418800017408 : UInt64)) := by rw [own_d1]; exact own_qn
theorem own_qk1 (c : Int32) : Jvm.Free.Fl.NoNaN64 (FP.ddiv (FP.i2d c) (4611686018427387904 : UInt64)) := by rw [own_d2]; exact own_qn
theorem own_qk2 (c : Int32) : Jvm.Free.Fl.NoNaN64 (FP.ddiv (FP.i2d c) (4613937818241073152 : UInt64)) := by rw [own_d3]; exact own_qn
theorem own_sk0 {s : UInt64} (c : Int32) (n : Jvm.Free.Fl.NoNaN64 s) : Jvm.Free.Fl.NoNaN64 (FP.dadd s (FP.ddiv (FP.i2d c) (4607182418800017408 : UInt64))) := by rw [own_d1]; exact own_sn n
theorem own_sk1 {s : UInt64} (c : Int32) (n : Jvm.Free.Fl.NoNaN64 s) : Jvm.Free.Fl.NoNaN64 (FP.dadd s (FP.ddiv (FP.i2d c) (4611686018427387904 : UInt64))) := by rw [own_d2]; exact own_sn n
theorem own_sk2 {s : UInt64} (c : Int32) (n : Jvm.Free.Fl.NoNaN64 s) : Jvm.Free.Fl.NoNaN64 (FP.dadd s (FP.ddiv (FP.i2d c) (4613937818241073152 : UInt64))) := by rw [own_d3]; exact own_sn n
theorem own_sk {h : Int32} {s : UInt64} {c : Int32} {d : UInt64} (q : h = (0 : Int32)) : (s, c) = own_st (decide (¬ (h = (0 : Int32)))) (s, c) d := by unfold own_st; rw [decide_eq_false (fun n => n q)]; rfl
theorem own_sd {h : Int32} {s : UInt64} {c : Int32} {d : UInt64} (q : ¬ (h = (0 : Int32))) : (FP.dadd s (FP.ddiv (FP.i2d (c + (1 : Int32))) d), c + (1 : Int32)) = own_st (decide (¬ (h = (0 : Int32)))) (s, c) d := by unfold own_st; rw [if_pos (decide_eq_true q)]
theorem own_sd1 {h : Int32} {d : UInt64} (q : ¬ (h = (0 : Int32))) : (FP.dadd (0 : UInt64) (FP.ddiv (FP.i2d (1 : Int32)) d), (1 : Int32)) = own_st (decide (¬ (h = (0 : Int32)))) ((0 : UInt64), (0 : Int32)) d := by
  unfold own_st; rw [if_pos (decide_eq_true q)]
  have e : ((0 : UInt64), (0 : Int32)).2 + (1 : Int32) = (1 : Int32) := by decide
  rw [e]
theorem own_r0 {b0 b1 b2 : Bool} {cn : Int32} (q : cn = (0 : Int32)) : (0 : UInt64) = own_res b0 b1 b2 cn := by unfold own_res; rw [if_pos q]
theorem own_bf {i : Int32} {P : Prop} [Decidable P] (h : ¬ i < i) : decide (i < i ∧ P) = false := decide_eq_false fun q => h q.1
theorem own_ra {g0 g1 g2 cn : Int32} (q : ¬ (cn = (0 : Int32))) : FP.ddiv (0 : UInt64) (FP.i2d cn) = own_res (decide ((0 : Int32) < (0 : Int32) ∧ (0 : Int32) < g0)) (decide ((1 : Int32) < (0 : Int32) ∧ (0 : Int32) < g1)) (decide ((2 : Int32) < (0 : Int32) ∧ (0 : Int32) < g2)) cn := by
  unfold own_res; rw [if_neg q, decide_eq_false (fun h => absurd h.1 (by decide)), decide_eq_false (fun h => absurd h.1 (by decide)), decide_eq_false (fun h => absurd h.1 (by decide))]; rfl
theorem own_t {i n g : Int32} (h : i < n) : decide (i < n ∧ (0 : Int32) < g) = decide ((0 : Int32) < g) := by
  by_cases q : (0 : Int32) < g
  · rw [decide_eq_true q]; exact decide_eq_true ⟨h, q⟩
  · rw [decide_eq_false q]; exact decide_eq_false fun z => q z.2
theorem own_rb {g0 g1 g2 cn c1 : Int32} {s1 : UInt64} (q : ¬ (cn = (0 : Int32))) (h0 : (s1, c1) = own_st (decide ((0 : Int32) < g0)) ((0 : UInt64), (0 : Int32)) (FP.i2d (1 : Int32))) : FP.ddiv s1 (FP.i2d cn) = own_res (decide ((0 : Int32) < (1 : Int32) ∧ (0 : Int32) < g0)) (decide ((1 : Int32) < (1 : Int32) ∧ (0 : Int32) < g1)) (decide ((2 : Int32) < (1 : Int32) ∧ (0 : Int32) < g2)) cn := by
  unfold own_res; rw [if_neg q, own_t (show (0 : Int32) < 1 by decide), decide_eq_false (p := (1 : Int32) < 1 ∧ _) (fun h => absurd h.1 (by decide)), decide_eq_false (p := (2 : Int32) < 1 ∧ _) (fun h => absurd h.1 (by decide)), ← h0]; rfl
theorem own_rc {g0 g1 g2 cn c1 c2 : Int32} {s1 s2 : UInt64} (q : ¬ (cn = (0 : Int32))) (h0 : (s1, c1) = own_st (decide ((0 : Int32) < g0)) ((0 : UInt64), (0 : Int32)) (FP.i2d (1 : Int32))) (h1 : (s2, c2) = own_st (decide ((0 : Int32) < g1)) (s1, c1) (FP.i2d (2 : Int32))) : FP.ddiv s2 (FP.i2d cn) = own_res (decide ((0 : Int32) < (2 : Int32) ∧ (0 : Int32) < g0)) (decide ((1 : Int32) < (2 : Int32) ∧ (0 : Int32) < g1)) (decide ((2 : Int32) < (2 : Int32) ∧ (0 : Int32) < g2)) cn := by
  unfold own_res; rw [if_neg q, own_t (show (0 : Int32) < 2 by decide), own_t (show (1 : Int32) < 2 by decide), decide_eq_false (p := (2 : Int32) < 2 ∧ _) (fun h => absurd h.1 (by decide)), ← h0, ← h1]; rfl
theorem own_rd {g0 g1 g2 cn c1 c2 c3 : Int32} {s1 s2 s3 : UInt64} (q : ¬ (cn = (0 : Int32))) (h0 : (s1, c1) = own_st (decide ((0 : Int32) < g0)) ((0 : UInt64), (0 : Int32)) (FP.i2d (1 : Int32))) (h1 : (s2, c2) = own_st (decide ((0 : Int32) < g1)) (s1, c1) (FP.i2d (2 : Int32))) (h2 : (s3, c3) = own_st (decide ((0 : Int32) < g2)) (s2, c2) (FP.i2d (3 : Int32))) : FP.ddiv s3 (FP.i2d cn) = own_res (decide ((0 : Int32) < (3 : Int32) ∧ (0 : Int32) < g0)) (decide ((1 : Int32) < (3 : Int32) ∧ (0 : Int32) < g1)) (decide ((2 : Int32) < (3 : Int32) ∧ (0 : Int32) < g2)) cn := by
  unfold own_res; rw [if_neg q, own_t (show (0 : Int32) < 3 by decide), own_t (show (1 : Int32) < 3 by decide), own_t (show (2 : Int32) < 3 by decide), ← h0, ← h1, ← h2]
theorem own_lit (n : Int32) (k : Nat) (h : 0 ≤ n.toInt ∧ n.toInt ≤ k) : n = Int32.ofInt (n.toInt.toNat : Int) ∧ n.toInt.toNat ≤ k := ⟨by rw [show ((n.toInt.toNat : Nat) : Int) = n.toInt by omega, Int32.ofInt_toInt], by omega⟩
theorem own_n3 {x n : Int32} (h : n = (x &&& (3 : Int32))) : n = (0 : Int32) ∨ n = (1 : Int32) ∨ n = (2 : Int32) ∨ n = (3 : Int32) := by
  have m := c_and x 3 (by decide); rw [← h, show (3 : Int32).toInt = 3 by decide] at m
  obtain ⟨e, k⟩ := own_lit n 3 m
  generalize n.toInt.toNat = j at e k
  match j, k with
  | 0, _ => exact Or.inl e
  | 1, _ => exact Or.inr (Or.inl e)
  | 2, _ => exact Or.inr (Or.inr (Or.inl e))
  | 3, _ => exact Or.inr (Or.inr (Or.inr e))
theorem own_lt12 {n : Int32} (h : n < (1 : Int32)) : n < (2 : Int32) := Int32.lt_trans h (by decide)
theorem own_lt13 {n : Int32} (h : n < (1 : Int32)) : n < (3 : Int32) := Int32.lt_trans h (by decide)
theorem own_lt23 {n : Int32} (h : n < (2 : Int32)) : n < (3 : Int32) := Int32.lt_trans h (by decide)
theorem own_eq0 {n : Int32} (h : n = (0 : Int32) ∨ n = (1 : Int32) ∨ n = (2 : Int32) ∨ n = (3 : Int32)) (q : n < (1 : Int32)) : n = (0 : Int32) := by
  rcases h with rfl | rfl | rfl | rfl
  · rfl
  all_goals exact absurd q (by decide)
theorem own_eq1 {n : Int32} (h : n = (0 : Int32) ∨ n = (1 : Int32) ∨ n = (2 : Int32) ∨ n = (3 : Int32)) (p : ¬ n < (1 : Int32)) (q : n < (2 : Int32)) : n = (1 : Int32) := by
  rcases h with rfl | rfl | rfl | rfl
  · exact absurd (by decide) p
  · rfl
  all_goals exact absurd q (by decide)
theorem own_eq2 {n : Int32} (h : n = (0 : Int32) ∨ n = (1 : Int32) ∨ n = (2 : Int32) ∨ n = (3 : Int32)) (p : ¬ n < (2 : Int32)) (q : n < (3 : Int32)) : n = (2 : Int32) := by
  rcases h with rfl | rfl | rfl | rfl
  · exact absurd (by decide) p
  · exact absurd (by decide) p
  · rfl
  · exact absurd q (by decide)
theorem own_eq3 {n : Int32} (h : n = (0 : Int32) ∨ n = (1 : Int32) ∨ n = (2 : Int32) ∨ n = (3 : Int32)) (p : ¬ n < (3 : Int32)) : n = (3 : Int32) := by
  rcases h with rfl | rfl | rfl | rfl
  · exact absurd (by decide) p
  · exact absurd (by decide) p
  · exact absurd (by decide) p
  · rfl
theorem own_ua {u a b : Int32} (q : u = (0 : Int32)) : (u = (0 : Int32) → a = a) ∧ (¬ (u = (0 : Int32)) → a = b) := ⟨fun _ => rfl, fun n => absurd q n⟩
theorem own_ub {u a b : Int32} (q : ¬ (u = (0 : Int32))) : (u = (0 : Int32) → a = b) ∧ (¬ (u = (0 : Int32)) → a = a) := ⟨fun n => absurd n q, fun _ => rfl⟩
theorem own_gu {g ch u r a b : Int32} (h : g = (if ch = a then (if r < (0 : Int32) then (0 : Int32) else r) else (0 : Int32))) (hu : (u = (0 : Int32) → ch = a) ∧ (¬ (u = (0 : Int32)) → ch = b)) (n : ¬ (b = a) := by decide) : g = (if u = (0 : Int32) then (if r < (0 : Int32) then (0 : Int32) else r) else (0 : Int32)) := by
  by_cases q : u = (0 : Int32)
  · rw [if_pos q]; rw [if_pos (hu.1 q)] at h; exact h
  · rw [if_neg q]; rw [hu.2 q, if_neg n] at h; exact h
theorem own_bi {i i1 n g u r h : Int32} (e : ∀ m : Int32, (m = (0 : Int32) ∨ m = (1 : Int32) ∨ m = (2 : Int32) ∨ m = (3 : Int32)) → (m < i1 ↔ ¬ i < m)) (hn : n = (0 : Int32) ∨ n = (1 : Int32) ∨ n = (2 : Int32) ∨ n = (3 : Int32)) (hg : i < n → g = (if u = (0 : Int32) then (if r < (0 : Int32) then (0 : Int32) else r) else (0 : Int32))) (hh : h = (if n < i1 then (0 : Int32) else (if u = (0 : Int32) then (if (0 : Int32) < r then (1 : Int32) else (0 : Int32)) else (0 : Int32)))) : decide (i < n ∧ (0 : Int32) < g) = decide (¬ (h = (0 : Int32))) := by
  by_cases q : n < i1
  · rw [if_pos q] at hh
    rw [decide_eq_false (fun z => (e n hn).mp q z.1), decide_eq_false (fun z => z hh)]
  · have lt : i < n := Classical.byContradiction fun z => q ((e n hn).mpr z)
    rw [if_neg q] at hh
    have hg := hg lt
    by_cases v : u = (0 : Int32)
    · rw [if_pos v] at hg hh
      by_cases w : (0 : Int32) < r
      · rw [if_pos w] at hh; subst hh
        rw [decide_eq_true ⟨lt, (own_gpos hg).mpr w⟩]; rfl
      · rw [if_neg w] at hh
        rw [decide_eq_false (fun z => w ((own_gpos hg).mp z.2)), decide_eq_false (fun z => z hh)]
    · rw [if_neg v] at hg hh
      rw [decide_eq_false (fun z => absurd (hg ▸ z.2) (by decide)), decide_eq_false (fun z => z hh)]
theorem own_e0 : ∀ m : Int32, (m = (0 : Int32) ∨ m = (1 : Int32) ∨ m = (2 : Int32) ∨ m = (3 : Int32)) → (m < (1 : Int32) ↔ ¬ (0 : Int32) < m) := by rintro m (rfl | rfl | rfl | rfl) <;> decide
theorem own_e1 : ∀ m : Int32, (m = (0 : Int32) ∨ m = (1 : Int32) ∨ m = (2 : Int32) ∨ m = (3 : Int32)) → (m < (2 : Int32) ↔ ¬ (1 : Int32) < m) := by rintro m (rfl | rfl | rfl | rfl) <;> decide
theorem own_e2 : ∀ m : Int32, (m = (0 : Int32) ∨ m = (1 : Int32) ∨ m = (2 : Int32) ∨ m = (3 : Int32)) → (m < (3 : Int32) ↔ ¬ (2 : Int32) < m) := by rintro m (rfl | rfl | rfl | rfl) <;> decide
theorem own_fin3 {n g0 g1 g2 u0 u1 u2 r0 r1 r2 r3 cn h0 h1 h2 b0 b1 b2 b3 c1 c2 c3 : Int32} {v s1 s2 s3 : UInt64} (hn : n = (0 : Int32) ∨ n = (1 : Int32) ∨ n = (2 : Int32) ∨ n = (3 : Int32)) (hv : v = own_res (decide ((0 : Int32) < n ∧ (0 : Int32) < g0)) (decide ((1 : Int32) < n ∧ (0 : Int32) < g1)) (decide ((2 : Int32) < n ∧ (0 : Int32) < g2)) cn)
    (k0 : (0 : Int32) < n → g0 = (if u0 = (0 : Int32) then (if r0 < (0 : Int32) then (0 : Int32) else r0) else (0 : Int32))) (k1 : (1 : Int32) < n → g1 = (if u1 = (0 : Int32) then (if r1 < (0 : Int32) then (0 : Int32) else r1) else (0 : Int32))) (k2 : (2 : Int32) < n → g2 = (if u2 = (0 : Int32) then (if r2 < (0 : Int32) then (0 : Int32) else r2) else (0 : Int32)))
    (e0 : h0 = (if n < (1 : Int32) then (0 : Int32) else (if u0 = (0 : Int32) then (if (0 : Int32) < r0 then (1 : Int32) else (0 : Int32)) else (0 : Int32)))) (e1 : h1 = (if n < (2 : Int32) then (0 : Int32) else (if u1 = (0 : Int32) then (if (0 : Int32) < r1 then (1 : Int32) else (0 : Int32)) else (0 : Int32)))) (e2 : h2 = (if n < (3 : Int32) then (0 : Int32) else (if u2 = (0 : Int32) then (if (0 : Int32) < r2 then (1 : Int32) else (0 : Int32)) else (0 : Int32))))
    (hc : cn = ((((0 : Int32) + (if (0 : Int32) < r0 then (1 : Int32) else (0 : Int32))) + (if (0 : Int32) < r1 then (1 : Int32) else (0 : Int32))) + (if (0 : Int32) < r2 then (1 : Int32) else (0 : Int32))) + (if (0 : Int32) < r3 then (1 : Int32) else (0 : Int32)))
    (f0 : b0 = (if (0 : Int32) < r0 then (1 : Int32) else (0 : Int32))) (f1 : b1 = (if (0 : Int32) < r1 then (1 : Int32) else (0 : Int32))) (f2 : b2 = (if (0 : Int32) < r2 then (1 : Int32) else (0 : Int32))) (f3 : b3 = (if (0 : Int32) < r3 then (1 : Int32) else (0 : Int32)))
    (t0 : (s1, c1) = own_st (decide (¬ (h0 = (0 : Int32)))) ((0 : UInt64), (0 : Int32)) (4607182418800017408 : UInt64)) (t1 : (s2, c2) = own_st (decide (¬ (h1 = (0 : Int32)))) (s1, c1) (4611686018427387904 : UInt64)) (t2 : (s3, c3) = own_st (decide (¬ (h2 = (0 : Int32)))) (s2, c2) (4613937818241073152 : UInt64)) :
    v = (if (((b0 + b1) + b2) + b3) = (0 : Int32) then (0 : UInt64) else FP.ddiv s3 (FP.i2d (((b0 + b1) + b2) + b3))) := by
  rw [Int32.zero_add, ← f0, ← f1, ← f2, ← f3] at hc
  rw [hv, own_bi own_e0 hn k0 e0, own_bi own_e1 hn k1 e1, own_bi own_e2 hn k2 e2, hc]
  rw [own_d1] at t0; rw [own_d2] at t1; rw [own_d3] at t2
  unfold own_res
  rw [← t0, ← t1, ← t2]
theorem own_endz {v s : UInt64} {b : Int32} (h : v = (if b = (0 : Int32) then (0 : UInt64) else FP.ddiv s (FP.i2d b))) (q : b = (0 : Int32)) : cmpValue (FP.dcmp v (0 : UInt64)) .l = (0 : Int32) := by
  rw [if_pos q] at h; rw [h]; exact dcmpV_self own_nn0 .l
theorem own_endn {v s : UInt64} {b : Int32} (h : v = (if b = (0 : Int32) then (0 : UInt64) else FP.ddiv s (FP.i2d b))) (q : ¬ (b = (0 : Int32))) (n : Jvm.Free.Fl.NoNaN64 s) : cmpValue (FP.dcmp v (FP.ddiv s (FP.i2d b))) .l = (0 : Int32) := by
  rw [if_neg q] at h; rw [h]; exact dcmpV_self (own_rn n q) .l

theorem own_len {Z : State} {args : Array Value} {t : Term} {a : Addr} {c : Cell} {ty : FieldType} {z : Int32} (A : Arr Z Z.heap a c ty) (ev : t.eval args Z none [] Z = some (.ref a)) (L : (Term.length t).eval args Z none [] Z = some (.int z)) : c.slots.size.toInt32 = z ∧ c.slots.size < 2 ^ 31 := by
  have F := A.fin (Vm.Alike.refl _)
  by_cases q : c.slots.size < 2 ^ 31
  · rw [len_f ev F q] at L
    cases L; exact ⟨rfl, q⟩
  · simp [Term.eval, ev, F, q] at L
theorem own_arv0 {Z : State} {a : Addr} {c : Cell} {ty : FieldType} {dv : Value} (A : Arr Z Z.heap a c ty) (L : c.slots.size.toInt32 = (0 : Int32) ∧ c.slots.size < 2 ^ 31) : Arv Z Z.heap a c.cls ty (0 : Int32) [] dv := by
  have S : c.slots.size = (0 : Int32).toNatClampNeg := by rw [← L.1]; simp only [Int32.toNatClampNeg, len_toInt L.2]; rfl
  have S0 : c.slots.size = 0 := S
  exact ⟨c, A, rfl, S, by decide, fun i hi => absurd hi (by omega), fun i hi => absurd hi (by omega)⟩
theorem own_bxF {args : Array Value} {Z : State} {j : Int32} (nn : ¬ j < 0) : (Term.sub (Term.index 0) (Term.int 128)).eval args Z none [j.toNatClampNeg] Z = some (.int (j - (128 : Int32))) := by
  simp [Term.eval, (back32 nn).1]
def OBJ (Z : State) (h : Heap) (o : Addr) (K : String) (ly : List (String × String × String)) (vs : List Value) : Prop := Exa Z h o K ∧ ∀ i, i < ly.length → Fld Z h o (ly.getD i ("", "", "")).1 (ly.getD i ("", "", "")).2.1 (ly.getD i ("", "", "")).2.2 (vs.getD i .null)
def SN (Z : State) (ly : List (String × String × String)) : Prop := ∀ i j, i < ly.length → j < ly.length → i ≠ j → Jvm.RoadKit.slotOf Z (ly.getD i ("", "", "")).1 (ly.getD i ("", "", "")).2.1 (ly.getD i ("", "", "")).2.2 ≠ Jvm.RoadKit.slotOf Z (ly.getD j ("", "", "")).1 (ly.getD j ("", "", "")).2.1 (ly.getD j ("", "", "")).2.2
section
variable {Z : State} {h h' : Heap} {o a : Addr} {K : String} {ly : List (String × String × String)} {vs vs' : List Value}
theorem OBJ.g (N : OBJ Z h o K ly vs) (i : Nat) {C f d : String} {v : Value} (hi : i < ly.length) (e : ly.getD i ("", "", "") = (C, f, d)) (ev : vs.getD i .null = v) : Fld Z h o C f d v := by
  have q := N.2 i hi
  rw [e, ev] at q; exact q
theorem OBJ.lt (N : OBJ Z h o K ly vs) : o < h.size := N.1.lt
theorem OBJ.ext (N : OBJ Z h o K ly vs) (E : Ext h h') : OBJ Z h' o K ly vs := ⟨N.1.ext E, fun i hi => (N.2 i hi).ext E⟩
theorem OBJ.other {sl : Nat} {v : Value} (N : OBJ Z h o K ly vs) (W : Wr h h' a sl v) (e : o ≠ a) : OBJ Z h' o K ly vs := ⟨N.1.wr W, fun i hi => (N.2 i hi).other W (Or.inl e)⟩
theorem OBJ.keep {ws : List Addr} (N : OBJ Z h o K ly vs) (W : Keep h h' ws) (e : o ∉ ws) : OBJ Z h' o K ly vs := ⟨N.1.keep W, fun i hi => (N.2 i hi).keep W e⟩
theorem OBJ.set {C f d : String} {v : Value} (S : SN Z ly) (N : OBJ Z h o K ly vs) (i : Nat) (hi : i < ly.length) (W : Wr h h' o (Jvm.RoadKit.slotOf Z C f d) v) (e : ly.getD i ("", "", "") = (C, f, d)) (hl : vs.length = ly.length) (e' : vs' = vs.set i v) : OBJ Z h' o K ly vs' := by
  subst e'
  have e1 : C = (ly.getD i ("", "", "")).1 := by rw [e]
  have e2 : f = (ly.getD i ("", "", "")).2.1 := by rw [e]
  have e3 : d = (ly.getD i ("", "", "")).2.2 := by rw [e]
  rw [e1, e2, e3] at W
  refine ⟨N.1.wr W, fun j hj => ?_⟩
  by_cases y : j = i
  · subst y
    have z : (vs.set j v).getD j .null = v := by rw [List.getD_eq_getElem?_getD, List.getElem?_set_self (by omega)]; rfl
    rw [z]; exact (N.2 j hj).same W
  · have z : (vs.set i v).getD j .null = vs.getD j .null := by rw [List.getD_eq_getElem?_getD, List.getD_eq_getElem?_getD, List.getElem?_set_ne (fun q => y q.symm)]
    rw [z]; exact (N.2 j hj).other W (Or.inr (S j i hj hi y))
theorem SN.of {a0 : Array Value} {ts : List FieldType} (L : ∀ i, i < ly.length → Laid Z a0 K (ly.getD i ("", "", "")).1 (ly.getD i ("", "", "")).2.1 (ly.getD i ("", "", "")).2.2) (hn : ∀ i j : Fin ly.length, i ≠ j → (ly.getD i.val ("", "", "")).2.1 ≠ (ly.getD j.val ("", "", "")).2.1) (ht : ∀ i : Fin ly.length, parseFieldDescriptor (ly.getD i.val ("", "", "")).2.2 = some (ts.getD i.val .int)) : SN Z ly := fun i j hi hj n =>
  slot_ne (L i hi) (L j hj) (hn ⟨i, hi⟩ ⟨j, hj⟩ (fun e => n (Fin.mk.inj e))) (ht ⟨i, hi⟩) (ht ⟨j, hj⟩)
end
theorem f_pF {p : Program} {l : Launch} {e : Env} {R : Room} {s : State} {m : MethodId} {args : Array Value} {below : List Frame} {meth : Method} {c : Code} {T : State} {locs : List Loc} {cells slots : Nat} {s1 : State} {A : Array Value} {N pc : Nat} {Ls : Array Slot} {st : List Value} {Z : State} {a0 : Array Value} {h : Heap} {o : Addr} {K own R0 O n d : String} {index kk : Nat} {ty : FieldType} {v : Value} {ly : List (String × String × String)} {vs vs' : List Value} {n0 : Nat} (X : Stand p l e R s m args below meth c T locs cells slots) (hx : p.tables.exec = Jvm.exec) (hZ : Z.Warmed39 s.vm) (hown : s.vm.findClass own = some m.cls) (w : (Cond.fieldLink own index R0 n d).before a0 Z = true) (via : Via Z R0 O n d) (eT : T.heap = h) (B : OBJ Z h o K ly vs) (S : SN Z ly)
    (L : (Cond.lays K O n d).before a0 Z = true ∨ ((Cond.laysFinal K O n d).before a0 Z = true ∧ own = O ∧ meth.name = "<init>")) (wi : (Cond.instantiable K kk).before a0 Z = true) (i : Nat) (hi : i < ly.length) (hy : ly.getD i ("", "", "") = (O, n, d)) (hl : vs.length = ly.length) (hty : parseFieldDescriptor d = some ty) (hn : narrow ty v = v) (hf : fits ty v = true) (NF : Fr n0 locs) (ga : n0 ≤ o) (zs : n0 ≤ h.size)
    (k : Rt p e below T (mkF m pc Ls (v :: .ref o :: st)) s1 m A N) (hd : decode c.code pc = .ok (.putfield index, 3)) (hv : vs' = vs.set i v) : ∃ T' h' L', Stand p l e R s m args below meth c T' L' cells slots ∧ T'.heap = h' ∧ Wr h h' o (Jvm.RoadKit.slotOf Z O n d) v ∧ OBJ Z h' o K ly vs' ∧ Fr n0 L' ∧ n0 ≤ h'.size ∧ Rt p e below T' (mkF m (pc + 3) Ls st) s1 m A N := by
  obtain ⟨T', h', X', e', W, sx⟩ := putF X hx hZ hown (host := "") (Or.inl w) via eT (B.g i hi hy rfl) B.1 L wi hty hn hf (g := mkF m pc Ls (v :: .ref o :: st)) rfl rfl hd
  exact ⟨T', h', _, X', e', W, OBJ.set S B i hi W hy hl hv, Fr.snoc X' NF ga, Nat.le_trans zs (Nat.le_of_eq W.size.symm), fun t q => k t (sx t q)⟩
abbrev lyST : List (String × String × String) := [("java/lang/String", "value", "[B"), ("java/lang/String", "coder", "B"), ("java/lang/String", "hash", "I"), ("java/lang/String", "hashIsZero", "Z")]
theorem snST {Z : State} {a0 : Array Value} (hw : ∀ d ∈ tables_1, d.before a0 Z = true) : SN Z lyST := SN.of (K := "java/lang/String") (ts := [(.array .byte), .byte, .int, .boolean]) (fun i hi => by
  match i, hi with
  | 0, _ => exact Or.inr (hw _ (List.mem_of_getElem? (i := 63) rfl))
  | 1, _ => exact Or.inr (hw _ (List.mem_of_getElem? (i := 65) rfl))
  | 2, _ => exact Or.inl (hw _ (List.mem_of_getElem? (i := 88) rfl))
  | 3, _ => exact Or.inl (hw _ (List.mem_of_getElem? (i := 90) rfl))
  | n + 4, h => exact absurd h (by simp)) (by decide +kernel) (by decide +kernel)
theorem mkST {Z : State} {h : Heap} {o : Addr} {f0 f1 f2 f3 : Value} (A : Exa Z h o "java/lang/String") (g0 : Fld Z h o "java/lang/String" "value" "[B" f0) (g1 : Fld Z h o "java/lang/String" "coder" "B" f1) (g2 : Fld Z h o "java/lang/String" "hash" "I" f2) (g3 : Fld Z h o "java/lang/String" "hashIsZero" "Z" f3) : OBJ Z h o "java/lang/String" lyST [f0, f1, f2, f3] := ⟨A, fun i hi => by
  match i, hi with
  | 0, _ => exact g0
  | 1, _ => exact g1
  | 2, _ => exact g2
  | 3, _ => exact g3
  | n + 4, h => exact absurd h (by simp)⟩
abbrev lyIG : List (String × String × String) := [("java/lang/Integer", "value", "I")]
theorem snIG {Z : State} {a0 : Array Value} (hw : ∀ d ∈ tables_1, d.before a0 Z = true) : SN Z lyIG := fun i j hi hj n => absurd (show i = j by have a : i < 1 := hi; have b : j < 1 := hj; omega) n
theorem mkIG {Z : State} {h : Heap} {o : Addr} {f0 : Value} (A : Exa Z h o "java/lang/Integer") (g0 : Fld Z h o "java/lang/Integer" "value" "I" f0) : OBJ Z h o "java/lang/Integer" lyIG [f0] := ⟨A, fun i hi => by
  match i, hi with
  | 0, _ => exact g0
  | n + 1, h => exact absurd h (by simp)⟩
abbrev lySD : List (String × String × String) := [("com/example/multinomial/multinomial/search/ScoredDocument", "id", "Ljava/lang/String;"), ("com/example/multinomial/multinomial/search/ScoredDocument", "score", "D")]
theorem snSD {Z : State} {a0 : Array Value} (hw : ∀ d ∈ tables_1, d.before a0 Z = true) : SN Z lySD := SN.of (K := "com/example/multinomial/multinomial/search/ScoredDocument") (ts := [(.object "java/lang/String"), .double]) (fun i hi => by
  match i, hi with
  | 0, _ => exact Or.inr (hw _ (List.mem_of_getElem? (i := 318) rfl))
  | 1, _ => exact Or.inr (hw _ (List.mem_of_getElem? (i := 320) rfl))
  | n + 2, h => exact absurd h (by simp)) (by decide +kernel) (by decide +kernel)
theorem mkSD {Z : State} {h : Heap} {o : Addr} {f0 f1 : Value} (A : Exa Z h o "com/example/multinomial/multinomial/search/ScoredDocument") (g0 : Fld Z h o "com/example/multinomial/multinomial/search/ScoredDocument" "id" "Ljava/lang/String;" f0) (g1 : Fld Z h o "com/example/multinomial/multinomial/search/ScoredDocument" "score" "D" f1) : OBJ Z h o "com/example/multinomial/multinomial/search/ScoredDocument" lySD [f0, f1] := ⟨A, fun i hi => by
  match i, hi with
  | 0, _ => exact g0
  | 1, _ => exact g1
  | n + 2, h => exact absurd h (by simp)⟩
abbrev lyJR : List (String × String × String) := [("com/example/multinomial/multinomial/eval/JudgedRanking", "gains", "[I"), ("com/example/multinomial/multinomial/eval/JudgedRanking", "idealGains", "[I")]
theorem snJR {Z : State} {a0 : Array Value} (hw : ∀ d ∈ tables_1, d.before a0 Z = true) : SN Z lyJR := SN.of (K := "com/example/multinomial/multinomial/eval/JudgedRanking") (ts := [(.array .int), (.array .int)]) (fun i hi => by
  match i, hi with
  | 0, _ => exact Or.inr (hw _ (List.mem_of_getElem? (i := 164) rfl))
  | 1, _ => exact Or.inr (hw _ (List.mem_of_getElem? (i := 298) rfl))
  | n + 2, h => exact absurd h (by simp)) (by decide +kernel) (by decide +kernel)
theorem mkJR {Z : State} {h : Heap} {o : Addr} {f0 f1 : Value} (A : Exa Z h o "com/example/multinomial/multinomial/eval/JudgedRanking") (g0 : Fld Z h o "com/example/multinomial/multinomial/eval/JudgedRanking" "gains" "[I" f0) (g1 : Fld Z h o "com/example/multinomial/multinomial/eval/JudgedRanking" "idealGains" "[I" f1) : OBJ Z h o "com/example/multinomial/multinomial/eval/JudgedRanking" lyJR [f0, f1] := ⟨A, fun i hi => by
  match i, hi with
  | 0, _ => exact g0
  | 1, _ => exact g1
  | n + 2, h => exact absurd h (by simp)⟩
abbrev lyLS : List (String × String × String) := [("java/util/AbstractList", "modCount", "I"), ("java/util/ArrayList", "elementData", "[Ljava/lang/Object;"), ("java/util/ArrayList", "size", "I")]
theorem snLS {Z : State} {a0 : Array Value} (hw : ∀ d ∈ tables_1, d.before a0 Z = true) : SN Z lyLS := SN.of (K := "java/util/ArrayList") (ts := [.int, (.array (.object "java/lang/Object")), .int]) (fun i hi => by
  match i, hi with
  | 0, _ => exact Or.inl (hw _ (List.mem_of_getElem? (i := 22) rfl))
  | 1, _ => exact Or.inl (hw _ (List.mem_of_getElem? (i := 25) rfl))
  | 2, _ => exact Or.inl (hw _ (List.mem_of_getElem? (i := 161) rfl))
  | n + 3, h => exact absurd h (by simp)) (by decide +kernel) (by decide +kernel)
theorem mkLS {Z : State} {h : Heap} {o : Addr} {f0 f1 f2 : Value} (A : Exa Z h o "java/util/ArrayList") (g0 : Fld Z h o "java/util/AbstractList" "modCount" "I" f0) (g1 : Fld Z h o "java/util/ArrayList" "elementData" "[Ljava/lang/Object;" f1) (g2 : Fld Z h o "java/util/ArrayList" "size" "I" f2) : OBJ Z h o "java/util/ArrayList" lyLS [f0, f1, f2] := ⟨A, fun i hi => by
  match i, hi with
  | 0, _ => exact g0
  | 1, _ => exact g1
  | 2, _ => exact g2
  | n + 3, h => exact absurd h (by simp)⟩
abbrev lyND : List (String × String × String) := [("java/util/HashMap$Node", "hash", "I"), ("java/util/HashMap$Node", "key", "Ljava/lang/Object;"), ("java/util/HashMap$Node", "value", "Ljava/lang/Object;"), ("java/util/HashMap$Node", "next", "Ljava/util/HashMap$Node;")]
theorem snND {Z : State} {a0 : Array Value} (hw : ∀ d ∈ tables_1, d.before a0 Z = true) : SN Z lyND := SN.of (K := "java/util/HashMap$Node") (ts := [.int, (.object "java/lang/Object"), (.object "java/lang/Object"), (.object "java/util/HashMap$Node")]) (fun i hi => by
  match i, hi with
  | 0, _ => exact Or.inr (hw _ (List.mem_of_getElem? (i := 128) rfl))
  | 1, _ => exact Or.inr (hw _ (List.mem_of_getElem? (i := 130) rfl))
  | 2, _ => exact Or.inl (hw _ (List.mem_of_getElem? (i := 132) rfl))
  | 3, _ => exact Or.inl (hw _ (List.mem_of_getElem? (i := 134) rfl))
  | n + 4, h => exact absurd h (by simp)) (by decide +kernel) (by decide +kernel)
theorem mkND {Z : State} {h : Heap} {o : Addr} {f0 f1 f2 f3 : Value} (A : Exa Z h o "java/util/HashMap$Node") (g0 : Fld Z h o "java/util/HashMap$Node" "hash" "I" f0) (g1 : Fld Z h o "java/util/HashMap$Node" "key" "Ljava/lang/Object;" f1) (g2 : Fld Z h o "java/util/HashMap$Node" "value" "Ljava/lang/Object;" f2) (g3 : Fld Z h o "java/util/HashMap$Node" "next" "Ljava/util/HashMap$Node;" f3) : OBJ Z h o "java/util/HashMap$Node" lyND [f0, f1, f2, f3] := ⟨A, fun i hi => by
  match i, hi with
  | 0, _ => exact g0
  | 1, _ => exact g1
  | 2, _ => exact g2
  | 3, _ => exact g3
  | n + 4, h => exact absurd h (by simp)⟩
abbrev lyVS : List (String × String × String) := [("java/util/HashMap$Values", "this$0", "Ljava/util/HashMap;")]
theorem snVS {Z : State} {a0 : Array Value} (hw : ∀ d ∈ tables_1, d.before a0 Z = true) : SN Z lyVS := fun i j hi hj n => absurd (show i = j by have a : i < 1 := hi; have b : j < 1 := hj; omega) n
theorem mkVS {Z : State} {h : Heap} {o : Addr} {f0 : Value} (A : Exa Z h o "java/util/HashMap$Values") (g0 : Fld Z h o "java/util/HashMap$Values" "this$0" "Ljava/util/HashMap;" f0) : OBJ Z h o "java/util/HashMap$Values" lyVS [f0] := ⟨A, fun i hi => by
  match i, hi with
  | 0, _ => exact g0
  | n + 1, h => exact absurd h (by simp)⟩
abbrev lyIT : List (String × String × String) := [("java/util/HashMap$HashIterator", "this$0", "Ljava/util/HashMap;"), ("java/util/HashMap$HashIterator", "expectedModCount", "I"), ("java/util/HashMap$HashIterator", "next", "Ljava/util/HashMap$Node;"), ("java/util/HashMap$HashIterator", "current", "Ljava/util/HashMap$Node;"), ("java/util/HashMap$HashIterator", "index", "I")]
theorem snIT {Z : State} {a0 : Array Value} (hw : ∀ d ∈ tables_1, d.before a0 Z = true) : SN Z lyIT := SN.of (K := "java/util/HashMap$ValueIterator") (ts := [(.object "java/util/HashMap"), .int, (.object "java/util/HashMap$Node"), (.object "java/util/HashMap$Node"), .int]) (fun i hi => by
  match i, hi with
  | 0, _ => exact Or.inr (hw _ (List.mem_of_getElem? (i := 219) rfl))
  | 1, _ => exact Or.inl (hw _ (List.mem_of_getElem? (i := 223) rfl))
  | 2, _ => exact Or.inl (hw _ (List.mem_of_getElem? (i := 226) rfl))
  | 3, _ => exact Or.inl (hw _ (List.mem_of_getElem? (i := 228) rfl))
  | 4, _ => exact Or.inl (hw _ (List.mem_of_getElem? (i := 230) rfl))
  | n + 5, h => exact absurd h (by simp)) (by decide +kernel) (by decide +kernel)
theorem mkIT {Z : State} {h : Heap} {o : Addr} {f0 f1 f2 f3 f4 : Value} (A : Exa Z h o "java/util/HashMap$ValueIterator") (g0 : Fld Z h o "java/util/HashMap$HashIterator" "this$0" "Ljava/util/HashMap;" f0) (g1 : Fld Z h o "java/util/HashMap$HashIterator" "expectedModCount" "I" f1) (g2 : Fld Z h o "java/util/HashMap$HashIterator" "next" "Ljava/util/HashMap$Node;" f2) (g3 : Fld Z h o "java/util/HashMap$HashIterator" "current" "Ljava/util/HashMap$Node;" f3) (g4 : Fld Z h o "java/util/HashMap$HashIterator" "index" "I" f4) : OBJ Z h o "java/util/HashMap$ValueIterator" lyIT [f0, f1, f2, f3, f4] := ⟨A, fun i hi => by
  match i, hi with
  | 0, _ => exact g0
  | 1, _ => exact g1
  | 2, _ => exact g2
  | 3, _ => exact g3
  | 4, _ => exact g4
  | n + 5, h => exact absurd h (by simp)⟩
abbrev lyMP : List (String × String × String) := [("java/util/HashMap", "table", "[Ljava/util/HashMap$Node;"), ("java/util/HashMap", "size", "I"), ("java/util/HashMap", "modCount", "I"), ("java/util/HashMap", "threshold", "I"), ("java/util/AbstractMap", "values", "Ljava/util/Collection;"), ("java/util/HashMap", "loadFactor", "F")]
theorem snMP {Z : State} {a0 : Array Value} (hw : ∀ d ∈ tables_1, d.before a0 Z = true) : SN Z lyMP := SN.of (K := "java/util/HashMap") (ts := [(.array (.object "java/util/HashMap$Node")), .int, .int, .int, (.object "java/util/Collection"), .float]) (fun i hi => by
  match i, hi with
  | 0, _ => exact Or.inl (hw _ (List.mem_of_getElem? (i := 105) rfl))
  | 1, _ => exact Or.inl (hw _ (List.mem_of_getElem? (i := 138) rfl))
  | 2, _ => exact Or.inl (hw _ (List.mem_of_getElem? (i := 136) rfl))
  | 3, _ => exact Or.inl (hw _ (List.mem_of_getElem? (i := 112) rfl))
  | 4, _ => exact Or.inl (hw _ (List.mem_of_getElem? (i := 184) rfl))
  | 5, _ => exact Or.inr (hw _ (List.mem_of_getElem? (i := 41) rfl))
  | n + 6, h => exact absurd h (by simp)) (by decide +kernel) (by decide +kernel)
theorem mkMP {Z : State} {h : Heap} {o : Addr} {f0 f1 f2 f3 f4 f5 : Value} (A : Exa Z h o "java/util/HashMap") (g0 : Fld Z h o "java/util/HashMap" "table" "[Ljava/util/HashMap$Node;" f0) (g1 : Fld Z h o "java/util/HashMap" "size" "I" f1) (g2 : Fld Z h o "java/util/HashMap" "modCount" "I" f2) (g3 : Fld Z h o "java/util/HashMap" "threshold" "I" f3) (g4 : Fld Z h o "java/util/AbstractMap" "values" "Ljava/util/Collection;" f4) (g5 : Fld Z h o "java/util/HashMap" "loadFactor" "F" f5) : OBJ Z h o "java/util/HashMap" lyMP [f0, f1, f2, f3, f4, f5] := ⟨A, fun i hi => by
  match i, hi with
  | 0, _ => exact g0
  | 1, _ => exact g1
  | 2, _ => exact g2
  | 3, _ => exact g3
  | 4, _ => exact g4
  | 5, _ => exact g5
  | n + 6, h => exact absurd h (by simp)⟩
abbrev mn0 : MethodName := ⟨"java/util/AbstractCollection", "<init>", "()V"⟩
abbrev mn1 : MethodName := ⟨"java/util/AbstractMap", "<init>", "()V"⟩
abbrev mn2 : MethodName := ⟨"java/lang/Number", "<init>", "()V"⟩
abbrev mn3 : MethodName := ⟨"java/lang/StringLatin1", "canEncode", "(C)Z"⟩
abbrev mn4 : MethodName := ⟨"java/lang/StringLatin1", "toBytes", "(C)[B"⟩
abbrev mn5 : MethodName := ⟨"java/lang/String", "<init>", "([BB)V"⟩
abbrev mn6 : MethodName := ⟨"java/lang/String", "valueOf", "(C)Ljava/lang/String;"⟩
abbrev mn7 : MethodName := ⟨"java/lang/String", "isLatin1", "()Z"⟩
abbrev mn8 : MethodName := ⟨"java/lang/StringLatin1", "hashCode", "([B)I"⟩
abbrev mn9 : MethodName := ⟨"java/lang/String", "hashCode", "()I"⟩
abbrev mn10 : MethodName := ⟨"java/lang/Object", "hashCode", "()I"⟩
abbrev mn11 : MethodName := ⟨"java/util/HashMap", "hash", "(Ljava/lang/Object;)I"⟩
abbrev mn12 : MethodName := ⟨"java/lang/Integer", "<init>", "(I)V"⟩
abbrev mn13 : MethodName := ⟨"java/lang/Integer", "valueOf", "(I)Ljava/lang/Integer;"⟩
abbrev mn14 : MethodName := ⟨"java/lang/Integer", "intValue", "()I"⟩
abbrev mn15 : MethodName := ⟨"com/example/multinomial/multinomial/search/ScoredDocument", "<init>", "(Ljava/lang/String;D)V"⟩
abbrev mn16 : MethodName := ⟨"com/example/multinomial/multinomial/search/ScoredDocument", "id", "()Ljava/lang/String;"⟩
abbrev mn17 : MethodName := ⟨"java/lang/Math", "max", "(II)I"⟩
abbrev mn18 : MethodName := ⟨"com/example/multinomial/multinomial/eval/JudgedRanking", "gain", "(I)I"⟩
abbrev mn19 : MethodName := ⟨"java/util/AbstractList", "<init>", "()V"⟩
abbrev mn20 : MethodName := ⟨"java/util/ArrayList", "<init>", "()V"⟩
abbrev mn21 : MethodName := ⟨"java/util/ArrayList", "grow", "(I)[Ljava/lang/Object;"⟩
abbrev mn22 : MethodName := ⟨"java/util/ArrayList", "grow", "()[Ljava/lang/Object;"⟩
abbrev mn23 : MethodName := ⟨"java/util/ArrayList", "add", "(Ljava/lang/Object;[Ljava/lang/Object;I)V"⟩
abbrev mn24 : MethodName := ⟨"java/util/ArrayList", "add", "(Ljava/lang/Object;)Z"⟩
abbrev mn25 : MethodName := ⟨"java/util/ArrayList", "size", "()I"⟩
abbrev mn26 : MethodName := ⟨"jdk/internal/util/Preconditions", "checkIndex", "(IILjava/util/function/BiFunction;)I"⟩
abbrev mn27 : MethodName := ⟨"java/util/Objects", "checkIndex", "(II)I"⟩
abbrev mn28 : MethodName := ⟨"java/util/ArrayList", "elementData", "(I)Ljava/lang/Object;"⟩
abbrev mn29 : MethodName := ⟨"java/util/ArrayList", "get", "(I)Ljava/lang/Object;"⟩
abbrev mn30 : MethodName := ⟨"java/util/HashMap", "<init>", "()V"⟩
abbrev mn31 : MethodName := ⟨"java/util/HashMap$Node", "<init>", "(ILjava/lang/Object;Ljava/lang/Object;Ljava/util/HashMap$Node;)V"⟩
abbrev mn32 : MethodName := ⟨"java/util/HashMap", "newNode", "(ILjava/lang/Object;Ljava/lang/Object;Ljava/util/HashMap$Node;)Ljava/util/HashMap$Node;"⟩
abbrev mn33 : MethodName := ⟨"java/util/HashMap", "afterNodeInsertion", "(Z)V"⟩
abbrev mn34 : MethodName := ⟨"java/util/HashMap", "resize", "()[Ljava/util/HashMap$Node;"⟩
abbrev mn35 : MethodName := ⟨"java/util/HashMap", "putVal", "(ILjava/lang/Object;Ljava/lang/Object;ZZ)Ljava/lang/Object;"⟩
abbrev mn36 : MethodName := ⟨"java/util/HashMap", "put", "(Ljava/lang/Object;Ljava/lang/Object;)Ljava/lang/Object;"⟩
abbrev mn37 : MethodName := ⟨"java/lang/StringLatin1", "equals", "([B[B)Z"⟩
abbrev mn38 : MethodName := ⟨"java/lang/String", "equals", "(Ljava/lang/Object;)Z"⟩
abbrev mn39 : MethodName := ⟨"java/lang/Object", "equals", "(Ljava/lang/Object;)Z"⟩
abbrev mn40 : MethodName := ⟨"java/util/HashMap", "getNode", "(Ljava/lang/Object;)Ljava/util/HashMap$Node;"⟩
abbrev mn41 : MethodName := ⟨"java/util/HashMap", "getOrDefault", "(Ljava/lang/Object;Ljava/lang/Object;)Ljava/lang/Object;"⟩
abbrev mn42 : MethodName := ⟨"java/util/HashMap", "size", "()I"⟩
abbrev mn43 : MethodName := ⟨"java/util/HashMap$Values", "<init>", "(Ljava/util/HashMap;)V"⟩
abbrev mn44 : MethodName := ⟨"java/util/HashMap", "values", "()Ljava/util/Collection;"⟩
abbrev mn45 : MethodName := ⟨"java/util/HashMap$HashIterator", "hasNext", "()Z"⟩
abbrev mn46 : MethodName := ⟨"java/util/HashMap$HashIterator", "<init>", "(Ljava/util/HashMap;)V"⟩
abbrev mn47 : MethodName := ⟨"java/util/HashMap$ValueIterator", "<init>", "(Ljava/util/HashMap;)V"⟩
abbrev mn48 : MethodName := ⟨"java/util/HashMap$Values", "iterator", "()Ljava/util/Iterator;"⟩
abbrev mn49 : MethodName := ⟨"java/util/HashMap$HashIterator", "nextNode", "()Ljava/util/HashMap$Node;"⟩
abbrev mn50 : MethodName := ⟨"java/util/HashMap$ValueIterator", "nextNode", "()Ljava/util/HashMap$Node;"⟩
abbrev mn51 : MethodName := ⟨"java/util/HashMap$ValueIterator", "next", "()Ljava/lang/Object;"⟩
abbrev mn52 : MethodName := ⟨"java/lang/Math", "min", "(II)I"⟩
abbrev mn53 : MethodName := ⟨"java/util/Arrays", "copyOf", "([II)[I"⟩
abbrev mn54 : MethodName := ⟨"java/util/DualPivotQuicksort", "insertionSort", "([III)V"⟩
abbrev mn55 : MethodName := ⟨"java/util/DualPivotQuicksort", "sort", "(Ljava/util/DualPivotQuicksort$Sorter;[IIII)V"⟩
abbrev mn56 : MethodName := ⟨"java/util/DualPivotQuicksort", "sort", "([IIII)V"⟩
abbrev mn57 : MethodName := ⟨"java/util/Arrays", "sort", "([I)V"⟩
abbrev mn58 : MethodName := ⟨"java/util/List", "size", "()I"⟩
abbrev mn59 : MethodName := ⟨"java/util/List", "get", "(I)Ljava/lang/Object;"⟩
abbrev mn60 : MethodName := ⟨"java/util/Map", "getOrDefault", "(Ljava/lang/Object;Ljava/lang/Object;)Ljava/lang/Object;"⟩
abbrev mn61 : MethodName := ⟨"java/util/Map", "size", "()I"⟩
abbrev mn62 : MethodName := ⟨"java/util/Map", "values", "()Ljava/util/Collection;"⟩
abbrev mn63 : MethodName := ⟨"java/util/Collection", "iterator", "()Ljava/util/Iterator;"⟩
abbrev mn64 : MethodName := ⟨"java/util/Iterator", "hasNext", "()Z"⟩
abbrev mn65 : MethodName := ⟨"java/util/Iterator", "next", "()Ljava/lang/Object;"⟩
abbrev mn66 : MethodName := ⟨"com/example/multinomial/multinomial/eval/JudgedRanking", "<init>", "(Ljava/util/List;Ljava/util/Map;)V"⟩
abbrev mn67 : MethodName := ⟨"com/example/multinomial/multinomial/eval/JudgedRanking", "relevant", "()I"⟩
abbrev mn68 : MethodName := ⟨"com/example/multinomial/multinomial/eval/JudgedRanking", "averagePrecision", "()D"⟩
abbrev HW (Z : State) (a0 : Array Value) : Prop := ∀ d ∈ tables_1, d.before a0 Z = true
theorem kw {h0 h h' : Heap} {ws : List Addr} {a : Addr} {sl : Nat} {v : Value} (K : Keep h0 h ws) (W : Wr h h' a sl v) (i : Nat) (e : ws[i]? = some a) : Keep h0 h' ws := K.wr W (Or.inl (List.mem_of_getElem? e))
theorem k_e {p : Program} {e : Env} {below : List Frame} {s : State} {m : MethodId} {A : Array Value} {N : Nat} {g : JFrame} (h : entryFrame m A N = g) : Rt p e below s g s m A N := fun t k => castTop h k
set_option maxRecDepth 65536
set_option maxHeartbeats 40000000
theorem hvw {a0 : Array Value} {Z : State} (hw : ∀ d ∈ tables_1, d.before a0 Z = true) : ∀ (i : Nat) {c : Jvm.Cond}, tables_1[i]? = some c → c.before a0 Z = true := fun _ c h => hw c (List.mem_of_getElem? h)
theorem dch {c : Code} {code : ByteArray} {l : List (Nat × Instr × Nat)} (h : c.code = code) (D : ∀ x ∈ l, decode code x.1 = .ok x.2) (i : Nat) {pc n : Nat} {r : Instr} (e : l[i]? = some (pc, r, n)) : decode c.code pc = .ok (r, n) := by rw [h]; exact D (pc, r, n) (List.mem_of_getElem? e)
abbrev L1 : List (Nat × Instr × Nat) := [(0, .aload_n 0, 1), (1, .invokespecial 1, 3), (4, .aload_n 0, 1), (5, .getstatic 39, 3), (8, .putfield 9, 3), (11, .return_, 1)]
set_option maxRecDepth 65536 in
theorem D1 : ∀ x ∈ L1, decode jdk_38_method_2_code x.1 = .ok x.2 := by decide +kernel
abbrev L2 : List (Nat × Instr × Nat) := [(0, .aload_n 0, 1), (1, .invokespecial 1, 3), (4, .aload_n 0, 1), (5, .iconst 0, 1), (6, .putfield 7, 3), (9, .return_, 1)]
set_option maxRecDepth 65536 in
theorem D2 : ∀ x ∈ L2, decode jdk_39_method_1_code x.1 = .ok x.2 := by decide +kernel
abbrev L3 : List (Nat × Instr × Nat) := [(0, .aload_n 0, 1), (1, .invokespecial 1, 3), (4, .return_, 1)]
set_option maxRecDepth 65536 in
theorem D3 : ∀ x ∈ L3, decode jdk_22_method_1_code x.1 = .ok x.2 := by decide +kernel
abbrev L5 : List (Nat × Instr × Nat) := [(0, .aload_n 0, 1), (1, .invokespecial 43, 3), (4, .aload_n 0, 1), (5, .ldc 92, 2), (7, .putfield 81, 3), (10, .return_, 1)]
set_option maxRecDepth 65536 in
theorem D5 : ∀ x ∈ L5, decode jdk_69_method_7_code x.1 = .ok x.2 := by decide +kernel
abbrev L6 : List (Nat × Instr × Nat) := [(0, .aload_n 0, 1), (1, .invokespecial 1, 3), (4, .return_, 1)]
set_option maxRecDepth 65536 in
theorem D6 : ∀ x ∈ L6, decode jdk_71_method_1_code x.1 = .ok x.2 := by decide +kernel
abbrev L7 : List (Nat × Instr × Nat) := [(0, .getstatic 38, 3), (3, .ifCond .eq 23, 3), (6, .iload_n 0, 1), (7, .invokestatic 1015, 3), (10, .ifCond .eq 16, 3), (13, .new 10, 3), (16, .dup, 1), (17, .iload_n 0, 1), (18, .invokestatic 1018, 3), (21, .iconst 0, 1), (22, .invokespecial 209, 3), (25, .areturn, 1)]
set_option maxRecDepth 65536 in
theorem D7 : ∀ x ∈ L7, decode jdk_42_method_139_code x.1 = .ok x.2 := by decide +kernel
abbrev L8 : List (Nat × Instr × Nat) := [(0, .iload_n 0, 1), (1, .sipush 255, 3), (4, .if_icmp .gt 7, 3), (7, .iconst 1, 1), (8, .goto 4, 3), (12, .ireturn, 1)]
set_option maxRecDepth 65536 in
theorem D8 : ∀ x ∈ L8, decode jdk_43_method_3_code x.1 = .ok x.2 := by decide +kernel
abbrev L9 : List (Nat × Instr × Nat) := [(0, .iconst 1, 1), (1, .newarray .byte, 2), (3, .dup, 1), (4, .iconst 0, 1), (5, .iload_n 0, 1), (6, .i2b, 1), (7, .bastore, 1), (8, .areturn, 1)]
set_option maxRecDepth 65536 in
theorem D9 : ∀ x ∈ L9, decode jdk_43_method_46_code x.1 = .ok x.2 := by decide +kernel
abbrev L10 : List (Nat × Instr × Nat) := [(0, .aload_n 0, 1), (1, .invokespecial 1, 3), (4, .aload_n 0, 1), (5, .aload_n 1, 1), (6, .putfield 9, 3), (9, .aload_n 0, 1), (10, .iload_n 2, 1), (11, .putfield 15, 3), (14, .return_, 1)]
set_option maxRecDepth 65536 in
theorem D10 : ∀ x ∈ L10, decode jdk_42_method_151_code x.1 = .ok x.2 := by decide +kernel
abbrev L11 : List (Nat × Instr × Nat) := [(0, .iload_n 0, 1), (1, .bipush (-128), 2), (3, .if_icmp .lt 20, 3), (23, .new 1, 3), (26, .dup, 1), (27, .iload_n 0, 1), (28, .invokespecial 199, 3), (31, .areturn, 1), (6, .iload_n 0, 1), (7, .getstatic 191, 3), (10, .if_icmp .gt 13, 3), (13, .getstatic 195, 3), (16, .iload_n 0, 1), (17, .sipush 128, 3), (20, .iadd, 1), (21, .aaload, 1), (22, .areturn, 1)]
set_option maxRecDepth 65536 in
theorem D11 : ∀ x ∈ L11, decode jdk_33_method_22_code x.1 = .ok x.2 := by decide +kernel
abbrev L12 : List (Nat × Instr × Nat) := [(0, .aload_n 0, 1), (1, .aload_n 1, 1), (2, .invokestatic 149, 3), (5, .aload_n 1, 1), (6, .aload_n 2, 1), (7, .iconst 0, 1), (8, .iconst 1, 1), (9, .invokevirtual 152, 3), (12, .areturn, 1)]
set_option maxRecDepth 65536 in
theorem D12 : ∀ x ∈ L12, decode jdk_69_method_15_code x.1 = .ok x.2 := by decide +kernel
abbrev L13 : List (Nat × Instr × Nat) := [(0, .aload_n 0, 1), (1, .ifnonnull 7, 3), (8, .aload_n 0, 1), (9, .invokevirtual 1, 3), (12, .dup, 1), (13, .istore_n 1, 1), (14, .iload_n 1, 1), (15, .bipush 16, 2), (17, .iushr, 1), (18, .ixor, 1), (19, .ireturn, 1)]
set_option maxRecDepth 65536 in
theorem D13 : ∀ x ∈ L13, decode jdk_69_method_1_code x.1 = .ok x.2 := by decide +kernel
abbrev L14 : List (Nat × Instr × Nat) := [(0, .aload_n 0, 1), (1, .getfield 19, 3), (4, .istore_n 1, 1), (5, .iload_n 1, 1), (6, .ifCond .ne 52, 3), (9, .aload_n 0, 1), (10, .getfield 23, 3), (13, .ifCond .ne 45, 3), (16, .aload_n 0, 1), (17, .invokevirtual 492, 3), (20, .ifCond .eq 13, 3), (23, .aload_n 0, 1), (24, .getfield 9, 3), (27, .invokestatic 628, 3), (30, .goto 10, 3), (40, .istore_n 1, 1), (41, .iload_n 1, 1), (42, .ifCond .ne 11, 3), (53, .aload_n 0, 1), (54, .iload_n 1, 1), (55, .putfield 19, 3), (58, .iload_n 1, 1), (59, .ireturn, 1)]
set_option maxRecDepth 65536 in
theorem D14 : ∀ x ∈ L14, decode jdk_42_method_78_code x.1 = .ok x.2 := by decide +kernel
abbrev L15 : List (Nat × Instr × Nat) := [(0, .getstatic 38, 3), (3, .ifCond .eq 14, 3), (6, .aload_n 0, 1), (7, .getfield 15, 3), (10, .ifCond .ne 7, 3), (13, .iconst 1, 1), (14, .goto 4, 3), (18, .ireturn, 1)]
set_option maxRecDepth 65536 in
theorem D15 : ∀ x ∈ L15, decode jdk_42_method_154_code x.1 = .ok x.2 := by decide +kernel
abbrev L16 : List (Nat × Instr × Nat) := [(0, .aload_n 0, 1), (1, .arraylength, 1), (2, .lookupswitch 40 #[(0, 26), (1, 30)], 26), (32, .aload_n 0, 1), (33, .iconst 0, 1), (34, .baload, 1), (35, .sipush 255, 3), (38, .iand, 1), (39, .goto 12, 3), (51, .ireturn, 1)]
set_option maxRecDepth 65536 in
theorem D16 : ∀ x ∈ L16, decode jdk_43_method_21_code x.1 = .ok x.2 := by decide +kernel
abbrev L17 : List (Nat × Instr × Nat) := [(0, .aload_n 0, 1), (1, .getfield 105, 3), (4, .dup, 1), (5, .astore 6, 2), (7, .ifnull 12, 3), (19, .aload_n 0, 1), (20, .invokevirtual 117, 3), (23, .dup, 1), (24, .astore 6, 2), (26, .arraylength, 1), (27, .istore 8, 2), (29, .aload 6, 2), (31, .iload 8, 2), (33, .iconst 1, 1), (34, .isub, 1), (35, .iload_n 1, 1), (36, .iand, 1), (37, .dup, 1), (38, .istore 9, 2), (40, .aaload, 1), (41, .dup, 1), (42, .astore 7, 2), (44, .ifnonnull 19, 3), (47, .aload 6, 2), (49, .iload 9, 2), (51, .aload_n 0, 1), (52, .iload_n 1, 1), (53, .aload_n 2, 1), (54, .aload_n 3, 1), (55, .aconst_null, 1), (56, .invokevirtual 186, 3), (59, .aastore, 1), (60, .goto 199, 3), (259, .aload_n 0, 1), (260, .dup, 1), (261, .getfield 202, 3), (264, .iconst 1, 1), (265, .iadd, 1), (266, .putfield 202, 3), (269, .aload_n 0, 1), (270, .dup, 1), (271, .getfield 156, 3), (274, .iconst 1, 1), (275, .iadd, 1), (276, .dup_x1, 1), (277, .putfield 156, 3), (280, .aload_n 0, 1), (281, .getfield 88, 3), (284, .if_icmp .le 8, 3), (292, .aload_n 0, 1), (293, .iload 5, 2), (295, .invokevirtual 205, 3), (298, .aconst_null, 1), (299, .areturn, 1), (10, .aload 6, 2), (12, .arraylength, 1), (13, .dup, 1), (14, .istore 8, 2), (16, .ifCond .ne 13, 3)]
set_option maxRecDepth 65536 in
theorem D17 : ∀ x ∈ L17, decode jdk_69_method_16_code x.1 = .ok x.2 := by decide +kernel
abbrev L18 : List (Nat × Instr × Nat) := [(0, .aload_n 0, 1), (1, .getfield 105, 3), (4, .astore_n 1, 1), (5, .aload_n 1, 1), (6, .ifnonnull 7, 3), (9, .iconst 0, 1), (10, .goto 5, 3), (15, .istore_n 2, 1), (16, .aload_n 0, 1), (17, .getfield 88, 3), (20, .istore_n 3, 1), (21, .iconst 0, 1), (22, .istore 5, 2), (24, .iload_n 2, 1), (25, .ifCond .le 42, 3), (67, .iload_n 3, 1), (68, .ifCond .le 9, 3), (77, .bipush 16, 2), (79, .istore 4, 2), (81, .bipush 12, 2), (83, .istore 5, 2), (85, .iload 5, 2), (87, .ifCond .ne 38, 3), (125, .aload_n 0, 1), (126, .iload 5, 2), (128, .putfield 88, 3), (131, .iload 4, 2), (133, .anewarray 163, 3), (136, .astore 6, 2), (138, .aload_n 0, 1), (139, .aload 6, 2), (141, .putfield 105, 3), (144, .aload_n 1, 1), (145, .ifnull 208, 3), (353, .aload 6, 2), (355, .areturn, 1)]
set_option maxRecDepth 65536 in
theorem D18 : ∀ x ∈ L18, decode jdk_69_method_17_code x.1 = .ok x.2 := by decide +kernel
abbrev L19 : List (Nat × Instr × Nat) := [(0, .new 163, 3), (3, .dup, 1), (4, .iload_n 1, 1), (5, .aload_n 2, 1), (6, .aload_n 3, 1), (7, .aload 4, 2), (9, .invokespecial 375, 3), (12, .areturn, 1)]
set_option maxRecDepth 65536 in
theorem D19 : ∀ x ∈ L19, decode jdk_69_method_46_code x.1 = .ok x.2 := by decide +kernel
abbrev L20 : List (Nat × Instr × Nat) := [(0, .aload_n 0, 1), (1, .invokespecial 1, 3), (4, .aload_n 0, 1), (5, .iload_n 1, 1), (6, .putfield 7, 3), (9, .aload_n 0, 1), (10, .aload_n 2, 1), (11, .putfield 13, 3), (14, .aload_n 0, 1), (15, .aload_n 3, 1), (16, .putfield 17, 3), (19, .aload_n 0, 1), (20, .aload 4, 2), (22, .putfield 20, 3), (25, .return_, 1)]
set_option maxRecDepth 65536 in
theorem D20 : ∀ x ∈ L20, decode jdk_70_method_1_code x.1 = .ok x.2 := by decide +kernel
abbrev L21 : List (Nat × Instr × Nat) := [(0, .return_, 1)]
set_option maxRecDepth 65536 in
theorem D21 : ∀ x ∈ L21, decode jdk_69_method_52_code x.1 = .ok x.2 := by decide +kernel
abbrev L22 : List (Nat × Instr × Nat) := [(0, .aload_n 0, 1), (1, .invokespecial 1, 3), (4, .aload_n 0, 1), (5, .aload_n 1, 1), (6, .invokeinterface 7 1, 5), (11, .newarray .int, 2), (13, .putfield 13, 3), (16, .iconst 0, 1), (17, .istore_n 3, 1), (18, .iload_n 3, 1), (19, .aload_n 0, 1), (20, .getfield 13, 3), (23, .arraylength, 1), (24, .if_icmp .ge 47, 3), (27, .aload_n 0, 1), (28, .getfield 13, 3), (31, .iload_n 3, 1), (32, .aload_n 2, 1), (33, .aload_n 1, 1), (34, .iload_n 3, 1), (35, .invokeinterface 19 2, 5), (40, .checkcast 23, 3), (43, .invokevirtual 25, 3), (46, .iconst 0, 1), (47, .invokestatic 29, 3), (50, .invokeinterface 35 3, 5), (55, .checkcast 30, 3), (58, .invokevirtual 41, 3), (61, .invokestatic 44, 3), (64, .iastore, 1), (65, .iinc 3 1, 3), (68, .goto (-50), 3), (71, .aload_n 2, 1), (72, .invokeinterface 48 1, 5), (77, .newarray .int, 2), (79, .astore_n 3, 1), (80, .iconst 0, 1), (81, .istore 4, 2), (83, .aload_n 2, 1), (84, .invokeinterface 49 1, 5), (89, .invokeinterface 53 1, 5), (94, .astore 5, 2), (96, .aload 5, 2), (98, .invokeinterface 59 1, 5), (103, .ifCond .eq 38, 3), (106, .aload 5, 2), (108, .invokeinterface 65 1, 5), (113, .checkcast 30, 3), (116, .invokevirtual 41, 3), (119, .istore 6, 2), (121, .iload 6, 2), (123, .invokestatic 44, 3), (126, .ifCond .le 12, 3), (129, .aload_n 3, 1), (130, .iload 4, 2), (132, .iload 6, 2), (134, .iastore, 1), (135, .iinc 4 1, 3), (138, .goto (-42), 3), (141, .aload_n 3, 1), (142, .iload 4, 2), (144, .invokestatic 69, 3), (147, .astore 5, 2), (149, .aload 5, 2), (151, .invokestatic 75, 3), (154, .aload_n 0, 1), (155, .iload 4, 2), (157, .newarray .int, 2), (159, .putfield 79, 3), (162, .iconst 0, 1), (163, .istore 6, 2), (165, .iload 6, 2), (167, .iload 4, 2), (169, .if_icmp .ge 26, 3), (195, .return_, 1), (172, .aload_n 0, 1), (173, .getfield 79, 3), (176, .iload 6, 2), (178, .aload 5, 2), (180, .iload 4, 2), (182, .iconst 1, 1), (183, .isub, 1), (184, .iload 6, 2), (186, .isub, 1), (187, .iaload, 1), (188, .iastore, 1), (189, .iinc 6 1, 3), (192, .goto (-27), 3)]
set_option maxRecDepth 65536 in
theorem D22 : ∀ x ∈ L22, decode prog_10_method_1_code x.1 = .ok x.2 := by decide +kernel
abbrev L23 : List (Nat × Instr × Nat) := [(0, .aload_n 0, 1), (1, .getfield 48, 3), (4, .ireturn, 1)]
set_option maxRecDepth 65536 in
theorem D23 : ∀ x ∈ L23, decode jdk_38_method_8_code x.1 = .ok x.2 := by decide +kernel
abbrev L24 : List (Nat × Instr × Nat) := [(0, .aload_n 0, 1), (1, .getfield 156, 3), (4, .ireturn, 1)]
set_option maxRecDepth 65536 in
theorem D24 : ∀ x ∈ L24, decode jdk_69_method_10_code x.1 = .ok x.2 := by decide +kernel
abbrev L25 : List (Nat × Instr × Nat) := [(0, .aload_n 0, 1), (1, .getfield 259, 3), (4, .astore_n 1, 1), (5, .aload_n 1, 1), (6, .ifnonnull 17, 3), (9, .new 263, 3), (12, .dup, 1), (13, .aload_n 0, 1), (14, .invokespecial 265, 3), (17, .astore_n 1, 1), (18, .aload_n 0, 1), (19, .aload_n 1, 1), (20, .putfield 259, 3), (23, .aload_n 1, 1), (24, .areturn, 1)]
set_option maxRecDepth 65536 in
theorem D25 : ∀ x ∈ L25, decode jdk_69_method_28_code x.1 = .ok x.2 := by decide +kernel
abbrev L26 : List (Nat × Instr × Nat) := [(0, .aload_n 0, 1), (1, .aload_n 1, 1), (2, .putfield 1, 3), (5, .aload_n 0, 1), (6, .invokespecial 7, 3), (9, .return_, 1)]
set_option maxRecDepth 65536 in
theorem D26 : ∀ x ∈ L26, decode jdk_2571_method_1_code x.1 = .ok x.2 := by decide +kernel
abbrev L27 : List (Nat × Instr × Nat) := [(0, .new 22, 3), (3, .dup, 1), (4, .aload_n 0, 1), (5, .getfield 1, 3), (8, .invokespecial 24, 3), (11, .areturn, 1)]
set_option maxRecDepth 65536 in
theorem D27 : ∀ x ∈ L27, decode jdk_2571_method_4_code x.1 = .ok x.2 := by decide +kernel
abbrev L28 : List (Nat × Instr × Nat) := [(0, .aload_n 0, 1), (1, .aload_n 1, 1), (2, .invokespecial 1, 3), (5, .return_, 1)]
set_option maxRecDepth 65536 in
theorem D28 : ∀ x ∈ L28, decode jdk_2569_method_1_code x.1 = .ok x.2 := by decide +kernel
abbrev L29 : List (Nat × Instr × Nat) := [(0, .aload_n 0, 1), (1, .aload_n 1, 1), (2, .putfield 1, 3), (5, .aload_n 0, 1), (6, .invokespecial 7, 3), (9, .aload_n 0, 1), (10, .aload_n 1, 1), (11, .getfield 13, 3), (14, .putfield 19, 3), (17, .aload_n 1, 1), (18, .getfield 22, 3), (21, .astore_n 2, 1), (22, .aload_n 0, 1), (23, .aload_n 0, 1), (24, .aconst_null, 1), (25, .dup_x1, 1), (26, .putfield 26, 3), (29, .putfield 30, 3), (32, .aload_n 0, 1), (33, .iconst 0, 1), (34, .putfield 33, 3), (37, .aload_n 2, 1), (38, .ifnull 40, 3), (41, .aload_n 1, 1), (42, .getfield 36, 3), (45, .ifCond .le 33, 3), (48, .aload_n 0, 1), (49, .getfield 33, 3), (52, .aload_n 2, 1), (53, .arraylength, 1), (54, .if_icmp .ge 24, 3), (57, .aload_n 0, 1), (58, .aload_n 2, 1), (59, .aload_n 0, 1), (60, .dup, 1), (61, .getfield 33, 3), (64, .dup_x1, 1), (65, .iconst 1, 1), (66, .iadd, 1), (67, .putfield 33, 3), (70, .aaload, 1), (71, .dup_x1, 1), (72, .putfield 26, 3), (75, .ifnull (-27), 3), (78, .return_, 1)]
set_option maxRecDepth 65536 in
theorem D29 : ∀ x ∈ L29, decode jdk_99_method_1_code x.1 = .ok x.2 := by decide +kernel
abbrev L30 : List (Nat × Instr × Nat) := [(0, .aload_n 0, 1), (1, .getfield 26, 3), (4, .ifnull 7, 3), (7, .iconst 1, 1), (8, .goto 4, 3), (12, .ireturn, 1), (11, .iconst 0, 1)]
set_option maxRecDepth 65536 in
theorem D30 : ∀ x ∈ L30, decode jdk_99_method_2_code x.1 = .ok x.2 := by decide +kernel
abbrev L31 : List (Nat × Instr × Nat) := [(0, .aload_n 0, 1), (1, .invokevirtual 7, 3), (4, .getfield 13, 3), (7, .areturn, 1)]
set_option maxRecDepth 65536 in
theorem D31 : ∀ x ∈ L31, decode jdk_2569_method_2_code x.1 = .ok x.2 := by decide +kernel
abbrev L32 : List (Nat × Instr × Nat) := [(68, .aload_n 0, 1), (69, .getfield 33, 3), (72, .aload_n 1, 1), (73, .arraylength, 1), (74, .if_icmp .ge 24, 3), (77, .aload_n 0, 1), (78, .aload_n 1, 1), (79, .aload_n 0, 1), (80, .dup, 1), (81, .getfield 33, 3), (84, .dup_x1, 1), (85, .iconst 1, 1), (86, .iadd, 1), (87, .putfield 33, 3), (90, .aaload, 1), (91, .dup_x1, 1), (92, .putfield 26, 3), (95, .ifnull (-27), 3), (0, .aload_n 0, 1), (1, .getfield 26, 3), (4, .astore_n 2, 1), (5, .aload_n 0, 1), (6, .getfield 1, 3), (9, .getfield 13, 3), (12, .aload_n 0, 1), (13, .getfield 19, 3), (16, .if_icmp .eq 11, 3), (27, .aload_n 2, 1), (28, .ifnonnull 11, 3), (39, .aload_n 0, 1), (40, .aload_n 0, 1), (41, .aload_n 2, 1), (42, .dup_x1, 1), (43, .putfield 30, 3), (46, .getfield 45, 3), (49, .dup_x1, 1), (50, .putfield 26, 3), (53, .ifnonnull 45, 3), (56, .aload_n 0, 1), (57, .getfield 1, 3), (60, .getfield 22, 3), (63, .dup, 1), (64, .astore_n 1, 1), (65, .ifnull 33, 3), (98, .aload_n 2, 1), (99, .areturn, 1)]
set_option maxRecDepth 65536 in
theorem D32 : ∀ x ∈ L32, decode jdk_99_method_3_code x.1 = .ok x.2 := by decide +kernel
abbrev L33 : List (Nat × Instr × Nat) := [(0, .aload_n 0, 1), (1, .getfield 205, 3), (4, .ireturn, 1)]
set_option maxRecDepth 65536 in
theorem D33 : ∀ x ∈ L33, decode jdk_33_method_27_code x.1 = .ok x.2 := by decide +kernel
abbrev L34 : List (Nat × Instr × Nat) := [(0, .iload_n 0, 1), (1, .iconst 0, 1), (2, .invokestatic 110, 3), (5, .ireturn, 1)]
set_option maxRecDepth 65536 in
theorem D34 : ∀ x ∈ L34, decode prog_10_method_13_code x.1 = .ok x.2 := by decide +kernel
abbrev L35 : List (Nat × Instr × Nat) := [(0, .iload_n 0, 1), (1, .iload_n 1, 1), (2, .if_icmp .lt 7, 3), (9, .iload_n 1, 1), (5, .iload_n 0, 1), (6, .goto 4, 3), (10, .ireturn, 1)]
set_option maxRecDepth 65536 in
theorem D35 : ∀ x ∈ L35, decode jdk_29_method_65_code x.1 = .ok x.2 := by decide +kernel
abbrev L36 : List (Nat × Instr × Nat) := [(0, .iload_n 1, 1), (1, .aload_n 0, 1), (2, .arraylength, 1), (3, .if_icmp .ne 11, 3), (14, .iload_n 1, 1), (15, .newarray .int, 2), (17, .astore_n 2, 1), (18, .aload_n 0, 1), (19, .iconst 0, 1), (20, .aload_n 2, 1), (21, .iconst 0, 1), (22, .aload_n 0, 1), (23, .arraylength, 1), (24, .iload_n 1, 1), (25, .invokestatic 304, 3), (28, .invokestatic 150, 3), (31, .aload_n 2, 1), (32, .areturn, 1), (6, .aload_n 0, 1), (7, .invokevirtual 316, 3), (10, .checkcast 317, 3), (13, .areturn, 1)]
set_option maxRecDepth 65536 in
theorem D36 : ∀ x ∈ L36, decode jdk_65_method_123_code x.1 = .ok x.2 := by decide +kernel
abbrev L37 : List (Nat × Instr × Nat) := [(0, .iload_n 0, 1), (1, .iload_n 1, 1), (2, .if_icmp .gt 7, 3), (9, .iload_n 1, 1), (5, .iload_n 0, 1), (6, .goto 4, 3), (10, .ireturn, 1)]
set_option maxRecDepth 65536 in
theorem D37 : ∀ x ∈ L37, decode jdk_29_method_69_code x.1 = .ok x.2 := by decide +kernel
abbrev L38 : List (Nat × Instr × Nat) := [(0, .aload_n 0, 1), (1, .iconst 0, 1), (2, .iconst 0, 1), (3, .aload_n 0, 1), (4, .arraylength, 1), (5, .invokestatic 7, 3), (8, .return_, 1)]
set_option maxRecDepth 65536 in
theorem D38 : ∀ x ∈ L38, decode jdk_65_method_2_code x.1 = .ok x.2 := by decide +kernel
abbrev L39 : List (Nat × Instr × Nat) := [(0, .iload_n 3, 1), (1, .iload_n 2, 1), (2, .isub, 1), (3, .istore 4, 2), (5, .iload_n 1, 1), (6, .iconst 1, 1), (7, .if_icmp .le 61, 3), (68, .aconst_null, 1), (69, .aload_n 0, 1), (70, .iconst 0, 1), (71, .iload_n 2, 1), (72, .iload_n 3, 1), (73, .invokestatic 26, 3), (76, .return_, 1)]
set_option maxRecDepth 65536 in
theorem D39 : ∀ x ∈ L39, decode jdk_2529_method_3_code x.1 = .ok x.2 := by decide +kernel
abbrev L40 : List (Nat × Instr × Nat) := [(0, .iload 4, 2), (2, .iconst 1, 1), (3, .isub, 1), (4, .istore 5, 2), (6, .iload 4, 2), (8, .iload_n 3, 1), (9, .isub, 1), (10, .istore 6, 2), (12, .iload 6, 2), (14, .bipush 65, 2), (16, .iload_n 2, 1), (17, .iadd, 1), (18, .if_icmp .ge 28, 3), (21, .iload_n 2, 1), (22, .iconst 1, 1), (23, .iand, 1), (24, .ifCond .le 22, 3), (46, .iload 6, 2), (48, .bipush 44, 2), (50, .if_icmp .ge 11, 3), (53, .aload_n 1, 1), (54, .iload_n 3, 1), (55, .iload 4, 2), (57, .invokestatic 34, 3), (60, .return_, 1)]
set_option maxRecDepth 65536 in
theorem D40 : ∀ x ∈ L40, decode jdk_2529_method_4_code x.1 = .ok x.2 := by decide +kernel
abbrev L41 : List (Nat × Instr × Nat) := [(0, .iload_n 1, 1), (1, .istore 4, 2), (3, .iinc 4 1, 3), (6, .iload 4, 2), (8, .iload_n 2, 1), (9, .if_icmp .ge 58, 3), (67, .return_, 1), (12, .aload_n 0, 1), (13, .iload 4, 2), (15, .dup, 1), (16, .istore_n 3, 1), (17, .iaload, 1), (18, .istore 5, 2), (20, .iload 5, 2), (22, .aload_n 0, 1), (23, .iload_n 3, 1), (24, .iconst 1, 1), (25, .isub, 1), (26, .iaload, 1), (27, .if_icmp .ge 37, 3), (30, .iinc 3 (-1), 3), (33, .iload_n 3, 1), (34, .iload_n 1, 1), (35, .if_icmp .lt 22, 3), (38, .iload 5, 2), (40, .aload_n 0, 1), (41, .iload_n 3, 1), (42, .iaload, 1), (43, .if_icmp .ge 14, 3), (46, .aload_n 0, 1), (47, .iload_n 3, 1), (48, .iconst 1, 1), (49, .iadd, 1), (50, .aload_n 0, 1), (51, .iload_n 3, 1), (52, .iaload, 1), (53, .iastore, 1), (54, .goto (-24), 3), (57, .aload_n 0, 1), (58, .iload_n 3, 1), (59, .iconst 1, 1), (60, .iadd, 1), (61, .iload 5, 2), (63, .iastore, 1), (64, .goto (-61), 3)]
set_option maxRecDepth 65536 in
theorem D41 : ∀ x ∈ L41, decode jdk_2529_method_6_code x.1 = .ok x.2 := by decide +kernel
abbrev L42 : List (Nat × Instr × Nat) := [(0, .dconst 0, 1), (1, .dstore_n 1, 1), (2, .iconst 0, 1), (3, .istore_n 3, 1), (4, .iconst 0, 1), (5, .istore 4, 2), (7, .iload 4, 2), (9, .aload_n 0, 1), (10, .getfield 13, 3), (13, .arraylength, 1), (14, .if_icmp .ge 33, 3), (47, .aload_n 0, 1), (48, .invokevirtual 85, 3), (51, .ifCond .ne 7, 3), (54, .dconst 0, 1), (55, .goto 10, 3), (65, .dreturn, 1), (58, .dload_n 1, 1), (59, .aload_n 0, 1), (60, .invokevirtual 85, 3), (63, .i2d, 1), (64, .ddiv, 1), (17, .aload_n 0, 1), (18, .getfield 13, 3), (21, .iload 4, 2), (23, .iaload, 1), (24, .ifCond .le 17, 3), (27, .iinc 3 1, 3), (30, .dload_n 1, 1), (31, .iload_n 3, 1), (32, .i2d, 1), (33, .iload 4, 2), (35, .iconst 1, 1), (36, .iadd, 1), (37, .i2d, 1), (38, .ddiv, 1), (39, .dadd, 1), (40, .dstore_n 1, 1), (41, .iinc 4 1, 3), (44, .goto (-37), 3)]
set_option maxRecDepth 65536 in
theorem D42 : ∀ x ∈ L42, decode prog_10_method_5_code x.1 = .ok x.2 := by decide +kernel
abbrev L43 : List (Nat × Instr × Nat) := [(0, .aload_n 0, 1), (1, .getfield 79, 3), (4, .arraylength, 1), (5, .ireturn, 1)]
set_option maxRecDepth 65536 in
theorem D43 : ∀ x ∈ L43, decode prog_10_method_3_code x.1 = .ok x.2 := by decide +kernel
abbrev L44 : List (Nat × Instr × Nat) := [(0, .aload_n 0, 1), (1, .invokespecial 1, 3), (4, .aload_n 0, 1), (5, .aload_n 1, 1), (6, .putfield 7, 3), (9, .aload_n 0, 1), (10, .dload_n 2, 1), (11, .putfield 13, 3), (14, .return_, 1)]
set_option maxRecDepth 65536 in
theorem D44 : ∀ x ∈ L44, decode prog_44_method_1_code x.1 = .ok x.2 := by decide +kernel
abbrev L45 : List (Nat × Instr × Nat) := [(0, .aload_n 0, 1), (1, .dup, 1), (2, .getfield 63, 3), (5, .iconst 1, 1), (6, .iadd, 1), (7, .putfield 63, 3), (10, .aload_n 0, 1), (11, .aload_n 1, 1), (12, .aload_n 0, 1), (13, .getfield 9, 3), (16, .aload_n 0, 1), (17, .getfield 48, 3), (20, .invokevirtual 131, 3), (23, .iconst 1, 1), (24, .ireturn, 1)]
set_option maxRecDepth 65536 in
theorem D45 : ∀ x ∈ L45, decode jdk_38_method_25_code x.1 = .ok x.2 := by decide +kernel
abbrev L46 : List (Nat × Instr × Nat) := [(0, .iload_n 3, 1), (1, .aload_n 2, 1), (2, .arraylength, 1), (3, .if_icmp .ne 8, 3), (6, .aload_n 0, 1), (7, .invokevirtual 129, 3), (10, .astore_n 2, 1), (11, .aload_n 2, 1), (12, .iload_n 3, 1), (13, .aload_n 1, 1), (14, .aastore, 1), (15, .aload_n 0, 1), (16, .iload_n 3, 1), (17, .iconst 1, 1), (18, .iadd, 1), (19, .putfield 48, 3), (22, .return_, 1)]
set_option maxRecDepth 65536 in
theorem D46 : ∀ x ∈ L46, decode jdk_38_method_24_code x.1 = .ok x.2 := by decide +kernel
abbrev L47 : List (Nat × Instr × Nat) := [(0, .aload_n 0, 1), (1, .aload_n 0, 1), (2, .getfield 48, 3), (5, .iconst 1, 1), (6, .iadd, 1), (7, .invokevirtual 69, 3), (10, .areturn, 1)]
set_option maxRecDepth 65536 in
theorem D47 : ∀ x ∈ L47, decode jdk_38_method_7_code x.1 = .ok x.2 := by decide +kernel
abbrev L48 : List (Nat × Instr × Nat) := [(0, .aload_n 0, 1), (1, .getfield 9, 3), (4, .arraylength, 1), (5, .istore_n 2, 1), (6, .iload_n 2, 1), (7, .ifCond .gt 13, 3), (10, .aload_n 0, 1), (11, .getfield 9, 3), (14, .getstatic 39, 3), (17, .if_acmp .eq 28, 3), (45, .aload_n 0, 1), (46, .bipush 10, 2), (48, .iload_n 1, 1), (49, .invokestatic 79, 3), (52, .anewarray 7, 3), (55, .dup_x1, 1), (56, .putfield 9, 3), (59, .areturn, 1)]
set_option maxRecDepth 65536 in
theorem D48 : ∀ x ∈ L48, decode jdk_38_method_6_code x.1 = .ok x.2 := by decide +kernel
abbrev L49 : List (Nat × Instr × Nat) := [(0, .iload_n 1, 1), (1, .aload_n 0, 1), (2, .getfield 48, 3), (5, .invokestatic 118, 3), (8, .pop, 1), (9, .aload_n 0, 1), (10, .iload_n 1, 1), (11, .invokevirtual 123, 3), (14, .areturn, 1)]
set_option maxRecDepth 65536 in
theorem D49 : ∀ x ∈ L49, decode jdk_38_method_20_code x.1 = .ok x.2 := by decide +kernel
abbrev L50 : List (Nat × Instr × Nat) := [(0, .iload_n 0, 1), (1, .iload_n 1, 1), (2, .aconst_null, 1), (3, .invokestatic 105, 3), (6, .ireturn, 1)]
set_option maxRecDepth 65536 in
theorem D50 : ∀ x ∈ L50, decode jdk_31_method_17_code x.1 = .ok x.2 := by decide +kernel
abbrev L51 : List (Nat × Instr × Nat) := [(0, .iload_n 0, 1), (1, .ifCond .lt 8, 3), (4, .iload_n 0, 1), (5, .iload_n 1, 1), (6, .if_icmp .lt 10, 3), (16, .iload_n 0, 1), (17, .ireturn, 1)]
set_option maxRecDepth 65536 in
theorem D51 : ∀ x ∈ L51, decode jdk_41_method_11_code x.1 = .ok x.2 := by decide +kernel
abbrev L52 : List (Nat × Instr × Nat) := [(0, .aload_n 0, 1), (1, .getfield 9, 3), (4, .iload_n 1, 1), (5, .aaload, 1), (6, .areturn, 1)]
set_option maxRecDepth 65536 in
theorem D52 : ∀ x ∈ L52, decode jdk_38_method_18_code x.1 = .ok x.2 := by decide +kernel
abbrev L53 : List (Nat × Instr × Nat) := [(0, .aload_n 0, 1), (1, .getfield 7, 3), (4, .areturn, 1)]
set_option maxRecDepth 65536 in
theorem D53 : ∀ x ∈ L53, decode prog_44_method_2_code x.1 = .ok x.2 := by decide +kernel
abbrev L54 : List (Nat × Instr × Nat) := [(0, .aload_n 0, 1), (1, .aload_n 1, 1), (2, .invokevirtual 158, 3), (5, .dup, 1), (6, .astore_n 3, 1), (7, .ifnonnull 7, 3), (14, .aload_n 3, 1), (15, .getfield 162, 3), (18, .areturn, 1), (10, .aload_n 2, 1), (11, .goto 7, 3)]
set_option maxRecDepth 65536 in
theorem D54 : ∀ x ∈ L54, decode jdk_69_method_30_code x.1 = .ok x.2 := by decide +kernel
abbrev L55 : List (Nat × Instr × Nat) := [(0, .aload_n 0, 1), (1, .getfield 105, 3), (4, .dup, 1), (5, .astore_n 2, 1), (6, .ifnull 142, 3), (9, .aload_n 2, 1), (10, .arraylength, 1), (11, .dup, 1), (12, .istore 5, 2), (14, .ifCond .le 134, 3), (17, .aload_n 2, 1), (18, .iload 5, 2), (20, .iconst 1, 1), (21, .isub, 1), (22, .aload_n 1, 1), (23, .invokestatic 149, 3), (26, .dup, 1), (27, .istore 6, 2), (29, .iand, 1), (30, .aaload, 1), (31, .dup, 1), (32, .astore_n 3, 1), (33, .ifnull 115, 3), (36, .aload_n 3, 1), (37, .getfield 168, 3), (40, .iload 6, 2), (42, .if_icmp .ne 29, 3), (45, .aload_n 3, 1), (46, .getfield 170, 3), (49, .dup, 1), (50, .astore 7, 2), (52, .aload_n 1, 1), (53, .if_acmp .eq 16, 3), (56, .aload_n 1, 1), (57, .ifnull 14, 3), (60, .aload_n 1, 1), (61, .aload 7, 2), (63, .invokevirtual 173, 3), (66, .ifCond .eq 5, 3), (69, .aload_n 3, 1), (70, .areturn, 1), (148, .aconst_null, 1), (149, .areturn, 1)]
set_option maxRecDepth 65536 in
theorem D55 : ∀ x ∈ L55, decode jdk_69_method_13_code x.1 = .ok x.2 := by decide +kernel
abbrev L56 : List (Nat × Instr × Nat) := [(0, .aload_n 0, 1), (1, .aload_n 1, 1), (2, .if_acmp .ne 5, 3), (7, .aload_n 1, 1), (8, .instanceof 10, 3), (11, .ifCond .eq 43, 3), (14, .aload_n 1, 1), (15, .checkcast 10, 3), (18, .astore_n 2, 1), (19, .getstatic 38, 3), (22, .ifCond .eq 14, 3), (25, .aload_n 0, 1), (26, .getfield 15, 3), (29, .aload_n 2, 1), (30, .getfield 15, 3), (33, .if_icmp .ne 21, 3), (36, .aload_n 0, 1), (37, .getfield 9, 3), (40, .aload_n 2, 1), (41, .getfield 9, 3), (44, .invokestatic 541, 3), (47, .ifCond .eq 7, 3), (50, .iconst 1, 1), (51, .goto 4, 3), (55, .ireturn, 1)]
set_option maxRecDepth 65536 in
theorem D56 : ∀ x ∈ L56, decode jdk_42_method_66_code x.1 = .ok x.2 := by decide +kernel
abbrev L57 : List (Nat × Instr × Nat) := [(0, .aload_n 0, 1), (1, .arraylength, 1), (2, .aload_n 1, 1), (3, .arraylength, 1), (4, .if_icmp .ne 30, 3), (7, .iconst 0, 1), (8, .istore_n 2, 1), (9, .iload_n 2, 1), (10, .aload_n 0, 1), (11, .arraylength, 1), (12, .if_icmp .ge 20, 3), (15, .aload_n 0, 1), (16, .iload_n 2, 1), (17, .baload, 1), (18, .aload_n 1, 1), (19, .iload_n 2, 1), (20, .baload, 1), (21, .if_icmp .eq 5, 3), (26, .iinc 2 1, 3), (29, .goto (-20), 3), (32, .iconst 1, 1), (33, .ireturn, 1)]
set_option maxRecDepth 65536 in
theorem D57 : ∀ x ∈ L57, decode jdk_43_method_13_code x.1 = .ok x.2 := by decide +kernel
abbrev L58 : List (Nat × Instr × Nat) := [(0, .aload_n 0, 1), (1, .invokespecial 202, 3), (4, .aload_n 0, 1), (5, .iload_n 1, 1), (6, .putfield 205, 3), (9, .return_, 1)]
set_option maxRecDepth 65536 in
theorem D58 : ∀ x ∈ L58, decode jdk_33_method_23_code x.1 = .ok x.2 := by decide +kernel
abbrev L59 : List (Nat × Instr × Nat) := [(0, .aload_n 0, 1), (1, .invokespecial 1, 3), (4, .return_, 1)]
set_option maxRecDepth 65536 in
theorem D59 : ∀ x ∈ L59, decode jdk_18_method_1_code x.1 = .ok x.2 := by decide +kernel
theorem ef_3_R (m : MethodId) (x0 : Addr) : entryFrame m #[(.ref x0)] 1 = mkF m 0 #[.val (.ref x0)] [] := by first | (simp [entryFrame, mkF, argsToLocals, Value.category]; done) | rfl
def Q_i_AbstractCollection (Z : State) (a1 : Addr) (h0 : Heap) (n0 : Nat) (v : Option Value) (h : Heap) (L : List Loc) : Prop := v = none ∧ Fr n0 L ∧ h = h0
theorem pn_java_2futil_2fAbstractCollection : plainName "java/util/AbstractCollection" = true := by first | (simp [plainName, overriddenIn]; done) | decide +kernel
theorem i_AbstractCollection (l : Launch) (Z : State) (a0 : Array Value) (hw : HW Z a0) (ws : List Jvm.Cond) (a1 : Addr) (h0 : Heap) (n0 : Nat) (Z0 : n0 ≤ h0.size) :
    Met l mn0 jdk_22_method_1_code 1 none ws (rm 1 0 0 12) #[(.ref a1)] Z h0 (Q_i_AbstractCollection Z a1 h0 n0) := by
  refine Met.intro (plainFor_of_name pn_java_2futil_2fAbstractCollection) ?_
  intro p e s m below meth c s₁ hx hby hml hZ hown hnm hrt hlk X0 e0
  have N0 := Fr.nil n0
  have hww := @hvw _ _ hw
  have k0 := k_e (p := p) (e := e) (below := below) (s := s₁) (ef_3_R m a1)
  have H := @dch _ _ _ hby D3
  have k101 := f_alN X0 hx k0 (H 0 rfl) rfl
  obtain ⟨T102, X102, e102, st102⟩ := initO X0 hx hZ hown (hww 18 rfl) (hww 19 rfl) (hww 20 rfl) e0 (g := (mkF m 1 #[sr a1] [vR a1])) rfl (by rw [hml]; rfl) rfl (H 1 rfl) (by decide) (W := 0) (by show 2 * 0 + _ ≤ _; exact Nat.le_of_eq rfl) (by decide)
  have k103 : Rt p e below T102 (mkF m 4 #[sr a1] []) s₁ m #[(.ref a1)] 1 := fun t k => k101 t (st102 t k)
  exact fin_v X102 hx hrt hlk k103 (H 2 rfl) (by rw [e102]; exact ⟨rfl, N0, rfl⟩) (by decide) (by decide)
theorem ef_6_R (m : MethodId) (x0 : Addr) : entryFrame m #[(.ref x0)] 1 = mkF m 0 #[.val (.ref x0)] [] := by first | (simp [entryFrame, mkF, argsToLocals, Value.category]; done) | rfl
def Q_i_AbstractMap (Z : State) (a1 : Addr) (h0 : Heap) (n0 : Nat) (v : Option Value) (h : Heap) (L : List Loc) : Prop := v = none ∧ Fr n0 L ∧ h = h0
theorem pn_java_2futil_2fAbstractMap : plainName "java/util/AbstractMap" = true := by first | (simp [plainName, overriddenIn]; done) | decide +kernel
theorem i_AbstractMap (l : Launch) (Z : State) (a0 : Array Value) (hw : HW Z a0) (ws : List Jvm.Cond) (a1 : Addr) (h0 : Heap) (n0 : Nat) (Z0 : n0 ≤ h0.size) :
    Met l mn1 jdk_71_method_1_code 1 none ws (rm 1 0 0 12) #[(.ref a1)] Z h0 (Q_i_AbstractMap Z a1 h0 n0) := by
  refine Met.intro (plainFor_of_name pn_java_2futil_2fAbstractMap) ?_
  intro p e s m below meth c s₁ hx hby hml hZ hown hnm hrt hlk X0 e0
  have N0 := Fr.nil n0
  have hww := @hvw _ _ hw
  have k0 := k_e (p := p) (e := e) (below := below) (s := s₁) (ef_6_R m a1)
  have H := @dch _ _ _ hby D6
  have k101 := f_alN X0 hx k0 (H 0 rfl) rfl
  obtain ⟨T102, X102, e102, st102⟩ := initO X0 hx hZ hown (hww 38 rfl) (hww 19 rfl) (hww 20 rfl) e0 (g := (mkF m 1 #[sr a1] [vR a1])) rfl (by rw [hml]; rfl) rfl (H 1 rfl) (by decide) (W := 0) (by show 2 * 0 + _ ≤ _; exact Nat.le_of_eq rfl) (by decide)
  have k103 : Rt p e below T102 (mkF m 4 #[sr a1] []) s₁ m #[(.ref a1)] 1 := fun t k => k101 t (st102 t k)
  exact fin_v X102 hx hrt hlk k103 (H 2 rfl) (by rw [e102]; exact ⟨rfl, N0, rfl⟩) (by decide) (by decide)
theorem ef_59_R (m : MethodId) (x0 : Addr) : entryFrame m #[(.ref x0)] 1 = mkF m 0 #[.val (.ref x0)] [] := by first | (simp [entryFrame, mkF, argsToLocals, Value.category]; done) | rfl
def Q_i_Number (Z : State) (a1 : Addr) (h0 : Heap) (n0 : Nat) (v : Option Value) (h : Heap) (L : List Loc) : Prop := v = none ∧ Fr n0 L ∧ h = h0
theorem pn_java_2flang_2fNumber : plainName "java/lang/Number" = true := by first | (simp [plainName, overriddenIn]; done) | decide +kernel
theorem i_Number (l : Launch) (Z : State) (a0 : Array Value) (hw : HW Z a0) (ws : List Jvm.Cond) (a1 : Addr) (h0 : Heap) (n0 : Nat) (Z0 : n0 ≤ h0.size) :
    Met l mn2 jdk_18_method_1_code 1 none ws (rm 1 0 0 12) #[(.ref a1)] Z h0 (Q_i_Number Z a1 h0 n0) := by
  refine Met.intro (plainFor_of_name pn_java_2flang_2fNumber) ?_
  intro p e s m below meth c s₁ hx hby hml hZ hown hnm hrt hlk X0 e0
  have N0 := Fr.nil n0
  have hww := @hvw _ _ hw
  have k0 := k_e (p := p) (e := e) (below := below) (s := s₁) (ef_59_R m a1)
  have H := @dch _ _ _ hby D59
  have k101 := f_alN X0 hx k0 (H 0 rfl) rfl
  obtain ⟨T102, X102, e102, st102⟩ := initO X0 hx hZ hown (hww 422 rfl) (hww 19 rfl) (hww 20 rfl) e0 (g := (mkF m 1 #[sr a1] [vR a1])) rfl (by rw [hml]; rfl) rfl (H 1 rfl) (by decide) (W := 0) (by show 2 * 0 + _ ≤ _; exact Nat.le_of_eq rfl) (by decide)
  have k103 : Rt p e below T102 (mkF m 4 #[sr a1] []) s₁ m #[(.ref a1)] 1 := fun t k => k101 t (st102 t k)
  exact fin_v X102 hx hrt hlk k103 (H 2 rfl) (by rw [e102]; exact ⟨rfl, N0, rfl⟩) (by decide) (by decide)
theorem ef_8_I (m : MethodId) (x0 : Int32) : entryFrame m #[(.int x0)] 1 = mkF m 0 #[.val (.int x0)] [] := by first | (simp [entryFrame, mkF, argsToLocals, Value.category]; done) | rfl
def Q_cenc (Z : State) (p1 : Int32) (h0 : Heap) (n0 : Nat) (v : Option Value) (h : Heap) (L : List Loc) : Prop := v = some (.int (1 : Int32)) ∧ Fr n0 L ∧ h = h0
theorem pn_java_2flang_2fStringLatin1 : plainName "java/lang/StringLatin1" = true := by first | (simp [plainName, overriddenIn]; done) | decide +kernel
theorem cenc (l : Launch) (Z : State) (a0 : Array Value) (hw : HW Z a0) (ws : List Jvm.Cond) (p1 : Int32) (h0 : Heap) (n0 : Nat) (Z0 : n0 ≤ h0.size) (hc1 : ¬ ((255 : Int32) < p1)) :
    Met l mn3 jdk_43_method_3_code 1 (some .boolean) ws (rm 0 0 0 0) #[(.int p1)] Z h0 (Q_cenc Z p1 h0 n0) := by
  refine Met.intro (plainFor_of_name pn_java_2flang_2fStringLatin1) ?_
  intro p e s m below meth c s₁ hx hby hml hZ hown hnm hrt hlk X0 e0
  have N0 := Fr.nil n0
  have hww := @hvw _ _ hw
  have k0 := k_e (p := p) (e := e) (below := below) (s := s₁) (ef_8_I m p1)
  have H := @dch _ _ _ hby D8
  have k101 := f_ilN X0 hx k0 (H 0 rfl) rfl
  have k102 := f_sp X0 hx k101 (H 1 rfl) (v := 255) rfl
  have k103 := f_icN X0 hx k102 (H 2 rfl) (flt hc1).2.2.1
  have k104 := f_ic X0 hx k103 (H 3 rfl) (v := 1) rfl
  have k105 := f_go X0 hx k104 (H 4 rfl) (pc' := 12) (by decide)
  exact fin_r X0 hx (w := (.int (1 : Int32))) hrt hlk rfl (Or.inl ⟨rfl, Or.inr (Or.inl rfl), _, rfl⟩) k105 (H 5 rfl) (by rw [e0]; exact ⟨rfl, N0, rfl⟩) (by decide) (by decide)
theorem ef_9_I (m : MethodId) (x0 : Int32) : entryFrame m #[(.int x0)] 1 = mkF m 0 #[.val (.int x0)] [] := by first | (simp [entryFrame, mkF, argsToLocals, Value.category]; done) | rfl
def Q_tobs (Z : State) (p1 : Int32) (h0 : Heap) (n0 : Nat) (v : Option Value) (h : Heap) (L : List Loc) : Prop := ∃ (b : Addr) (kb : ClassId), v = some (.ref b) ∧ Fr n0 L ∧ Keep h0 h [] ∧ h0.size ≤ b ∧ Arv Z h b kb .byte (1 : Int32) [(.int p1)] zI
theorem tobs (l : Launch) (Z : State) (a0 : Array Value) (hw : HW Z a0) (ws : List Jvm.Cond) (p1 : Int32) (h0 : Heap) (n0 : Nat) (Z0 : n0 ≤ h0.size) (hc2 : nar .byte (p1.toInt8.toInt32) = p1) :
    Met l mn4 jdk_43_method_46_code 1 (some (.array .byte)) ws (rm 0 1 1 0) #[(.int p1)] Z h0 (Q_tobs Z p1 h0 n0) := by
  refine Met.intro (plainFor_of_name pn_java_2flang_2fStringLatin1) ?_
  intro p e s m below meth c s₁ hx hby hml hZ hown hnm hrt hlk X0 e0
  have N0 := Fr.nil n0
  have hww := @hvw _ _ hw
  have k0 := k_e (p := p) (e := e) (below := below) (s := s₁) (ef_9_I m p1)
  have K0 : Keep h0 h0 [] := Keep.refl h0 []
  have H := @dch _ _ _ hby D9
  have k101 := f_ic X0 hx k0 (H 0 rfl) (v := 1) rfl
  obtain ⟨T102, h102, k102, X102, e102, E102, A102, st102⟩ := newP X0 hx hZ (hww 56 rfl) e0 (g := (mkF m 1 #[si p1] [vI 1])) rfl (H 1 rfl) rfl (by decide) (cap := 1) (by decide) (by decide) (by decide) (by decide)
  obtain ⟨b102, g102⟩ : ∃ z, z = h0.size := ⟨_, rfl⟩
  rw [← g102] at A102 st102
  have g103 : n0 ≤ b102 := Nat.le_trans Z0 (Nat.le_of_eq g102.symm)
  have z104 : h0.size ≤ b102 := Nat.le_trans K0.1 (Nat.le_of_eq g102.symm)
  have Z105 : n0 ≤ h102.size := Nat.le_trans Z0 E102.1
  have K106 := K0.ext E102
  have V107 : Arv Z h102 b102 k102 .byte (1 : Int32) [zI] zI := (Arv.new A102 (by decide)).pad (pad_rep [] zI 1)
  have k108 : Rt p e below T102 (mkF m 3 #[si p1] [vR b102]) s₁ m #[(.int p1)] 1 := fun t k => k101 t (st102 t k)
  have k109 := f_dup X102 hx k108 (H 2 rfl) rfl
  have k110 := f_ic X102 hx k109 (H 3 rfl) (v := 0) rfl
  have k111 := f_ilN X102 hx k110 (H 4 rfl) rfl
  have k112 : Rt p e below T102 (mkF m 7 #[si p1] [vI (p1.toInt8.toInt32), vI 0, vR b102, vR b102]) s₁ m #[(.int p1)] 1 := fun t k => k111 t (by
    show Sp p e below T102 (mkF m 6 #[si p1] [vI p1, vI 0, vR b102, vR b102]) _
    refine XS.i2b X102.here hx rfl (H 5 rfl) rfl ?_
    exact k)
  obtain ⟨c113, Ar113, Aq113, As113, An113, Ah113, Ag113⟩ := id V107
  have hin113 : ¬ ((0 : Int32) < 0 ∨ c113.slots.size ≤ ((0 : Int32)).toNatClampNeg) := inb_of As113 ⟨by decide, by decide⟩
  obtain ⟨T113, h113, X113, e113, W113, st113⟩ := stB X102 hx hZ e102 Ar113 (j := (0 : Int32)) hin113 (g := (mkF m 7 #[si p1] [vI (p1.toInt8.toInt32), vI 0, vR b102, vR b102])) rfl rfl (H 6 rfl)
  have V114 : Arv Z h113 b102 k102 .byte (1 : Int32) [(.int p1)] zI := by have q := Arv.set Ar113 Aq113 As113 An113 Ah113 Ag113 (fits_nar_byte _) W113 0 rfl (Nat.le_of_ble_eq_true rfl); rw [show p1.toInt8.toInt32.toInt8.toInt32 = p1 from hc2] at q; exact q
  have Z115 : n0 ≤ h113.size := Nat.le_trans Z105 (Nat.le_of_eq W113.size.symm)
  have N116 := Fr.snoc X113 N0 g103
  have K117 := K106.wr W113 (Or.inr z104)
  have k118 : Rt p e below T113 (mkF m 8 #[si p1] [vR b102]) s₁ m #[(.int p1)] 1 := fun t k => k112 t (st113 t k)
  exact fin_r X113 hx (w := (.ref b102)) hrt hlk rfl (Or.inr (Or.inr (Or.inr (Or.inr ⟨rfl, rfl, rfl⟩)))) k118 (H 7 rfl) (by rw [e113]; exact ⟨b102, k102, rfl, N116, K117, z104, V114⟩) (by decide) (by decide)
theorem ef_10_RRI (m : MethodId) (x0 : Addr) (x1 : Addr) (x2 : Int32) : entryFrame m #[(.ref x0), (.ref x1), (.int x2)] 3 = mkF m 0 #[.val (.ref x0), .val (.ref x1), .val (.int x2)] [] := by first | (simp [entryFrame, mkF, argsToLocals, Value.category]; done) | rfl
def Q_sini (Z : State) (a1 a2 : Addr) (h0 : Heap) (n0 : Nat) (v : Option Value) (h : Heap) (L : List Loc) : Prop := v = none ∧ Fr n0 L ∧ Keep h0 h [a1] ∧ OBJ Z h a1 "java/lang/String" lyST [(.ref a2), zI, zI, zI]
theorem pn_java_2flang_2fString : plainName "java/lang/String" = true := by first | (simp [plainName, overriddenIn]; done) | decide +kernel
theorem sini (l : Launch) (Z : State) (a0 : Array Value) (hw : HW Z a0) (ws : List Jvm.Cond) (a1 a2 : Addr) (h0 : Heap) (n0 : Nat) (Z0 : n0 ≤ h0.size) (Fk0 : OBJ Z h0 a1 "java/lang/String" lyST [.null, zI, zI, zI]) (ge_a1 : n0 ≤ a1) :
    Met l mn5 jdk_42_method_151_code 3 none ws (rm 1 0 0 12) #[(.ref a1), (.ref a2), zI] Z h0 (Q_sini Z a1 a2 h0 n0) := by
  refine Met.intro (plainFor_of_name pn_java_2flang_2fString) ?_
  intro p e s m below meth c s₁ hx hby hml hZ hown hnm hrt hlk X0 e0
  have N0 := Fr.nil n0
  have hww := @hvw _ _ hw
  have k0 := k_e (p := p) (e := e) (below := below) (s := s₁) (ef_10_RRI m a1 a2 (0 : Int32))
  have K0 := Keep.refl h0 [a1]
  have H := @dch _ _ _ hby D10
  have k101 := f_alN X0 hx k0 (H 0 rfl) rfl
  obtain ⟨T102, X102, e102, st102⟩ := initO X0 hx hZ hown (hww 61 rfl) (hww 19 rfl) (hww 20 rfl) e0 (g := (mkF m 1 #[sr a1, sr a2, si 0] [vR a1])) rfl (by rw [hml]; rfl) rfl (H 1 rfl) (by decide) (W := 0) (by show 2 * 0 + _ ≤ _; exact Nat.le_of_eq rfl) (by decide)
  have k103 : Rt p e below T102 (mkF m 4 #[sr a1, sr a2, si 0] []) s₁ m #[(.ref a1), (.ref a2), zI] 3 := fun t k => k101 t (st102 t k)
  have k104 := f_alN X102 hx k103 (H 2 rfl) rfl
  have k105 := f_alN X102 hx k104 (H 3 rfl) rfl
  obtain ⟨T106, h106, L106, X106, e106, W106, B106, N106, Z106, k106⟩ := f_pF X102 hx hZ hown (hww 62 rfl) Via.refl e102 Fk0 (snST hw) (Or.inr ⟨(hww 63 rfl), rfl, hnm⟩) (hww 52 rfl) 0 (by decide) rfl rfl (ty := (.array .byte)) (by decide) rfl rfl N0 ge_a1 Z0 k105 (H 4 rfl) rfl
  have K107 := kw K0 W106 0 rfl
  have k108 := f_alN X106 hx k106 (H 5 rfl) rfl
  have k109 := f_ilN X106 hx k108 (H 6 rfl) rfl
  obtain ⟨T110, h110, L110, X110, e110, W110, B110, N110, Z110, k110⟩ := f_pF X106 hx hZ hown (hww 64 rfl) Via.refl e106 B106 (snST hw) (Or.inr ⟨(hww 65 rfl), rfl, hnm⟩) (hww 52 rfl) 1 (by decide) rfl rfl (ty := .byte) (by decide) rfl rfl N106 ge_a1 Z106 k109 (H 7 rfl) rfl
  have K111 := kw K107 W110 0 rfl
  exact fin_v X110 hx hrt hlk k110 (H 8 rfl) (by rw [e110]; exact ⟨rfl, N110, K111, B110⟩) (by decide) (by decide)
theorem ef_7_I (m : MethodId) (x0 : Int32) : entryFrame m #[(.int x0)] 1 = mkF m 0 #[.val (.int x0)] [] := by first | (simp [entryFrame, mkF, argsToLocals, Value.category]; done) | rfl
theorem pd__28C_29Z : parseMethodDescriptor "(C)Z" = some ⟨[.char], some .boolean⟩ := by decide +kernel
theorem pd__28C_29_5bB : parseMethodDescriptor "(C)[B" = some ⟨[.char], some (.array .byte)⟩ := by decide +kernel
theorem pd__28_5bBB_29V : parseMethodDescriptor "([BB)V" = some ⟨[(.array .byte), .byte], none⟩ := by decide +kernel
def Q_vof (Z : State) (p1 cs : Int32) (h0 : Heap) (n0 : Nat) (v : Option Value) (h : Heap) (L : List Loc) : Prop := ∃ (a : Addr) (b : Addr) (kb : ClassId), v = some (.ref a) ∧ Fr n0 L ∧ Keep h0 h [] ∧ h0.size ≤ a ∧ h0.size ≤ b ∧ a ≠ b ∧ OBJ Z h a "java/lang/String" lyST [(.ref b), zI, zI, zI] ∧ Arv Z h b kb .byte (1 : Int32) [(.int p1)] zI
theorem vof (l : Launch) (Z : State) (a0 : Array Value) (hw : HW Z a0) (ws : List Jvm.Cond) (p1 cs : Int32) (h0 : Heap) (n0 : Nat) (Z0 : n0 ≤ h0.size) (hc1 : ¬ ((255 : Int32) < p1)) (hc2 : nar .byte (p1.toInt8.toInt32) = p1) (Scs : Sta Z Z.heap "java/lang/String" "COMPACT_STRINGS" "Z" (.int cs)) (hcs : ¬ (cs = (0 : Int32))) (O0 : Old Z n0 h0) :
    Met l mn6 jdk_42_method_139_code 1 (some (.object "java/lang/String")) ws (rm 2 2 5 27) #[(.int p1)] Z h0 (Q_vof Z p1 cs h0 n0) := by
  refine Met.intro (plainFor_of_name pn_java_2flang_2fString) ?_
  intro p e s m below meth c s₁ hx hby hml hZ hown hnm hrt hlk X0 e0
  have N0 := Fr.nil n0
  have hww := @hvw _ _ hw
  have k0 := k_e (p := p) (e := e) (below := below) (s := s₁) (ef_7_I m p1)
  have K0 : Keep h0 h0 [] := Keep.refl h0 []
  have H := @dch _ _ _ hby D7
  obtain ⟨T101, X101, e101, st101⟩ := getS2 X0 hx hZ hown (host := "") (Or.inl (hww 46 rfl)) Via.refl e0 (Scs.ext O0.2) (g := (mkF m 0 #[si p1] [])) rfl (H 0 rfl)
  have k102 : Rt p e below T101 (mkF m 3 #[si p1] [vI cs]) s₁ m #[(.int p1)] 1 := fun t k => k0 t (st101 t k)
  have k103 := f_ifN X101 hx k102 (H 1 rfl) ((if0 _ _).trans (feq hcs).1)
  have k104 := f_ilN X101 hx k103 (H 2 rfl) rfl
  obtain ⟨_, T105, L105, X105, hQ105, k105⟩ := c_S (W := 0) X101 hx hZ hown (hww 47 rfl) (hww 48 rfl) (hww 49 rfl) (hww 50 rfl) (by decide) (cenc l Z a0 hw [] p1 h0 n0 Z0 hc1) e101 (argsL := [(.int p1)]) (rest := []) rfl (by rw [hml]; rfl) k104 rfl (H 3 rfl) (lenOf pd__28C_29Z rfl) (b5 rfl)
  obtain ⟨rfl, N105q, e105⟩ := hQ105
  have N106 := Fr.app N0 N105q
  have k107 := f_ifN X105 hx k105 (H 4 rfl) ((if0 _ _).trans (feq (by decide)).1)
  obtain ⟨T108, h108, X108, e108, E108, A108, D108, -, st108⟩ := newO X105 hx hZ hown (hww 51 rfl) (hww 52 rfl) (hww 44 rfl) e105 (g := (mkF m 13 #[si p1] [])) rfl (H 5 rfl) (by decide) (by decide)
  obtain ⟨b108, g108⟩ : ∃ z, z = h0.size := ⟨_, rfl⟩
  rw [← g108] at A108 D108 st108
  have g109 : n0 ≤ b108 := Nat.le_trans Z0 (Nat.le_of_eq g108.symm)
  have z110 : h0.size ≤ b108 := Nat.le_trans K0.1 (Nat.le_of_eq g108.symm)
  have F111 := O0.ext E108
  have Z112 : n0 ≤ h108.size := Nat.le_trans Z0 E108.1
  have K113 := K0.ext E108
  have F114 : Fld Z h108 b108 "java/lang/String" "value" "[B" .null := D108 (Or.inr (hww 63 rfl)) (ty := (.array .byte)) (by decide)
  have F115 : Fld Z h108 b108 "java/lang/String" "coder" "B" zI := D108 (Or.inr (hww 65 rfl)) (ty := .byte) (by decide)
  have F116 : Fld Z h108 b108 "java/lang/String" "hash" "I" zI := D108 (Or.inl (hww 88 rfl)) (ty := .int) (by decide)
  have F117 : Fld Z h108 b108 "java/lang/String" "hashIsZero" "Z" zI := D108 (Or.inl (hww 90 rfl)) (ty := .boolean) (by decide)
  have k118 : Rt p e below T108 (mkF m 16 #[si p1] [vR b108]) s₁ m #[(.int p1)] 1 := fun t k => k107 t (st108 t k)
  have B119 := mkST A108 F114 F115 F116 F117
  have k120 := f_dup X108 hx k118 (H 6 rfl) rfl
  have k121 := f_ilN X108 hx k120 (H 7 rfl) rfl
  obtain ⟨_, T122, L122, X122, hQ122, k122⟩ := c_S (W := 2) X108 hx hZ hown (hww 53 rfl) (hww 54 rfl) (hww 49 rfl) (hww 55 rfl) (by decide) (tobs l Z a0 hw [] p1 h108 n0 Z112 hc2) e108 (argsL := [(.int p1)]) (rest := [(.ref b108), (.ref b108)]) rfl (by rw [hml]; rfl) k121 rfl (H 8 rfl) (lenOf pd__28C_29_5bB rfl) (b5 rfl)
  obtain ⟨h122, e122⟩ : ∃ h', T122.heap = h' := ⟨_, rfl⟩
  rw [e122] at hQ122
  obtain ⟨b122, kb122, rfl, N122q, K122, Zx122_0, R122_0⟩ := hQ122
  have N123 := Fr.app N106 N122q
  have F124 := F111.keep K122 all0
  have F125 := B119.keep K122 nin0
  have Z126 : n0 ≤ h122.size := Nat.le_trans Z112 K122.1
  have K127 := Keep.trans K113 K122 all0
  have k128 := f_ic X122 hx k122 (H 9 rfl) (v := 0) rfl
  obtain ⟨_, T129, L129, X129, hQ129, k129⟩ := c_N (W := 1) X122 hx hZ hown (hww 57 rfl) (hww 58 rfl) (hww 60 rfl) (hww 44 rfl) rfl (by decide) (sini l Z a0 hw [] b108 b122 h122 n0 Z126 F125 g109) e122 (argsL := [(.ref b122), zI]) (rest := [(.ref b108)]) rfl (by rw [hml]; rfl) k128 rfl (H 10 rfl) (lenOf pd__28_5bBB_29V rfl) (b5 rfl)
  obtain ⟨h129, e129⟩ : ∃ h', T129.heap = h' := ⟨_, rfl⟩
  rw [e129] at hQ129
  obtain ⟨rfl, N129q, K129, R129_0⟩ := hQ129
  have N130 := Fr.app N123 N129q
  have F131 := F124.keep K129 (allS g109 all0)
  have F132 := R122_0.keep K129 (ninS (nG B119.lt Zx122_0) nin0)
  have Z133 : n0 ≤ h129.size := Nat.le_trans Z126 K129.1
  have K134 := Keep.trans K127 K129 (allS (Or.inr z110) all0)
  exact fin_r X129 hx (w := (.ref b108)) hrt hlk rfl (Or.inr (Or.inr (Or.inr (Or.inr ⟨rfl, rfl, rfl⟩)))) k129 (H 11 rfl) (by rw [e129]; exact ⟨b108, b122, kb122, rfl, N130, K134, z110, (Nat.le_trans K113.1 Zx122_0), (nL B119.lt Zx122_0), R129_0, F132⟩) (by decide) (by decide)
theorem ef_15_R (m : MethodId) (x0 : Addr) : entryFrame m #[(.ref x0)] 1 = mkF m 0 #[.val (.ref x0)] [] := by first | (simp [entryFrame, mkF, argsToLocals, Value.category]; done) | rfl
def Q_isl1 (Z : State) (a1 : Addr) (cs : Int32) (h0 : Heap) (n0 : Nat) (v : Option Value) (h : Heap) (L : List Loc) : Prop := v = some (.int (1 : Int32)) ∧ Fr n0 L ∧ h = h0
theorem isl1 (l : Launch) (Z : State) (a0 : Array Value) (hw : HW Z a0) (ws : List Jvm.Cond) (a1 : Addr) (cs : Int32) (h0 : Heap) (n0 : Nat) (Z0 : n0 ≤ h0.size) (Fk0 : Fld Z h0 a1 "java/lang/String" "coder" "B" zI) (Scs : Sta Z Z.heap "java/lang/String" "COMPACT_STRINGS" "Z" (.int cs)) (hcs : ¬ (cs = (0 : Int32))) (O0 : Old Z n0 h0) :
    Met l mn7 jdk_42_method_154_code 1 (some .boolean) ws (rm 0 0 0 0) #[(.ref a1)] Z h0 (Q_isl1 Z a1 cs h0 n0) := by
  refine Met.intro (plainFor_of_name pn_java_2flang_2fString) ?_
  intro p e s m below meth c s₁ hx hby hml hZ hown hnm hrt hlk X0 e0
  have N0 := Fr.nil n0
  have hww := @hvw _ _ hw
  have k0 := k_e (p := p) (e := e) (below := below) (s := s₁) (ef_15_R m a1)
  have H := @dch _ _ _ hby D15
  obtain ⟨T101, X101, e101, st101⟩ := getS2 X0 hx hZ hown (host := "") (Or.inl (hww 46 rfl)) Via.refl e0 (Scs.ext O0.2) (g := (mkF m 0 #[sr a1] [])) rfl (H 0 rfl)
  have k102 : Rt p e below T101 (mkF m 3 #[sr a1] [vI cs]) s₁ m #[(.ref a1)] 1 := fun t k => k0 t (st101 t k)
  have k103 := f_ifN X101 hx k102 (H 1 rfl) ((if0 _ _).trans (feq hcs).1)
  have k104 := f_alN X101 hx k103 (H 2 rfl) rfl
  obtain ⟨T105, X105, e105, k106⟩ := gFs X101 hx hZ hown (hww 64 rfl) e101 Fk0 k104 (H 3 rfl)
  have k107 := f_ifN X105 hx k106 (H 4 rfl) ((if0 _ _).trans (teq (by decide)).2)
  have k108 := f_ic X105 hx k107 (H 5 rfl) (v := 1) rfl
  have k109 := f_go X105 hx k108 (H 6 rfl) (pc' := 18) (by decide)
  exact fin_r X105 hx (w := (.int (1 : Int32))) hrt hlk rfl (Or.inl ⟨rfl, Or.inr (Or.inl rfl), _, rfl⟩) k109 (H 7 rfl) (by rw [e105]; exact ⟨rfl, N0, rfl⟩) (by decide) (by decide)
theorem ef_16_R (m : MethodId) (x0 : Addr) : entryFrame m #[(.ref x0)] 1 = mkF m 0 #[.val (.ref x0)] [] := by first | (simp [entryFrame, mkF, argsToLocals, Value.category]; done) | rfl
def Q_lhc (Z : State) (a1 : Addr) (kb : ClassId) (p1 : Int32) (h0 : Heap) (n0 : Nat) (v : Option Value) (h : Heap) (L : List Loc) : Prop := v = some (.int p1) ∧ Fr n0 L ∧ h = h0
theorem lhc (l : Launch) (Z : State) (a0 : Array Value) (hw : HW Z a0) (ws : List Jvm.Cond) (a1 : Addr) (kb : ClassId) (p1 : Int32) (h0 : Heap) (n0 : Nat) (Z0 : n0 ≤ h0.size) (Fk0 : Arv Z h0 a1 kb .byte (1 : Int32) [(.int p1)] zI) (hc3 : p1 &&& (255 : Int32) = p1) :
    Met l mn8 jdk_43_method_21_code 1 (some .int) ws (rm 0 0 0 0) #[(.ref a1)] Z h0 (Q_lhc Z a1 kb p1 h0 n0) := by
  refine Met.intro (plainFor_of_name pn_java_2flang_2fStringLatin1) ?_
  intro p e s m below meth c s₁ hx hby hml hZ hown hnm hrt hlk X0 e0
  have N0 := Fr.nil n0
  have hww := @hvw _ _ hw
  have k0 := k_e (p := p) (e := e) (below := below) (s := s₁) (ef_16_R m a1)
  have H := @dch _ _ _ hby D16
  have k101 := f_alN X0 hx k0 (H 0 rfl) rfl
  have k102 := f_len X0 hx hZ e0 Fk0 k101 (H 1 rfl)
  have k103 := f_lsw X0 hx k102 (H 2 rfl) (x := 1) (y := 30) (pc' := 32) (by decide) (by decide) (by decide)
  have k104 := f_alN X0 hx k103 (H 3 rfl) rfl
  have k105 := f_ic X0 hx k104 (H 4 rfl) (v := 0) rfl
  obtain ⟨c106, Ar106, -, As106, An106, Ah106, -⟩ := id Fk0
  have hin106 : ¬ ((0 : Int32) < 0 ∨ c106.slots.size ≤ ((0 : Int32)).toNatClampNeg) := inb_of As106 ⟨by decide, by decide⟩
  have hat106 : c106.slots[((0 : Int32)).toNatClampNeg]? = some (.int p1) := Has.at Ah106 hin106 rfl
  have k107 : Rt p e below s₁ (mkF m 35 #[sr a1] [vI p1]) s₁ m #[(.ref a1)] 1 := fun t k => k105 t (by
    show Sp p e below s₁ (mkF m 34 #[sr a1] [vI 0, vR a1]) _
    refine X0.baloadBytes hx (j := (0 : Int32)) (v := (.int p1)) (by rw [e0]; exact Ar106.1) (State.isArrayOf_alike hZ.alike Ar106.2.1) Ar106.2.2 hin106 hat106 (g := (mkF m 34 #[sr a1] [vI 0, vR a1])) rfl rfl (H 5 rfl) _ ?_
    exact k)
  have k108 := f_sp X0 hx k107 (H 6 rfl) (v := 255) rfl
  have k109 := f_iand X0 hx k108 (H 7 rfl) rfl
  have k110 := f_go X0 hx k109 (H 8 rfl) (pc' := 51) (by decide)
  have k111 : Rt p e below s₁ (mkF m 51 #[sr a1] [vI p1]) s₁ m #[(.ref a1)] 1 := fun t q => k110 t (castTop (by rw [show (p1 &&& (255 : Int32)) = p1 from hc3] <;> rfl) q)
  exact fin_r X0 hx (w := (.int p1)) hrt hlk rfl (Or.inl ⟨rfl, Or.inl rfl, _, rfl⟩) k111 (H 9 rfl) (by rw [e0]; exact ⟨rfl, N0, rfl⟩) (by decide) (by decide)
theorem ef_14_R (m : MethodId) (x0 : Addr) : entryFrame m #[(.ref x0)] 2 = mkF m 0 #[.val (.ref x0), .unset] [] := by first | (simp [entryFrame, mkF, argsToLocals, Value.category]; done) | rfl
theorem pd__28_29Z : parseMethodDescriptor "()Z" = some ⟨[], some .boolean⟩ := by decide +kernel
theorem pd__28_5bB_29I : parseMethodDescriptor "([B)I" = some ⟨[(.array .byte)], some .int⟩ := by decide +kernel
def Q_shc0 (Z : State) (a1 b1 : Addr) (kb : ClassId) (p1 cs : Int32) (h0 : Heap) (n0 : Nat) (v : Option Value) (h : Heap) (L : List Loc) : Prop := v = some (.int p1) ∧ Fr n0 L ∧ Keep h0 h [a1] ∧ OBJ Z h a1 "java/lang/String" lyST [(.ref b1), zI, (.int p1), zI] ∧ Arv Z h b1 kb .byte (1 : Int32) [(.int p1)] zI
theorem shc0 (l : Launch) (Z : State) (a0 : Array Value) (hw : HW Z a0) (ws : List Jvm.Cond) (a1 b1 : Addr) (kb : ClassId) (p1 cs : Int32) (h0 : Heap) (n0 : Nat) (Z0 : n0 ≤ h0.size) (Fk0 : OBJ Z h0 a1 "java/lang/String" lyST [(.ref b1), zI, zI, zI]) (Fk1 : Arv Z h0 b1 kb .byte (1 : Int32) [(.int p1)] zI) (ge_a1 : n0 ≤ a1) (ne_a1_b1 : a1 ≠ b1) (hc3 : p1 &&& (255 : Int32) = p1) (hc4 : ¬ (p1 = (0 : Int32))) (Scs : Sta Z Z.heap "java/lang/String" "COMPACT_STRINGS" "Z" (.int cs)) (hcs : ¬ (cs = (0 : Int32))) (O0 : Old Z n0 h0) :
    Met l mn9 jdk_42_method_78_code 2 (some .int) ws (rm 1 0 0 12) #[(.ref a1)] Z h0 (Q_shc0 Z a1 b1 kb p1 cs h0 n0) := by
  refine Met.intro (plainFor_of_name pn_java_2flang_2fString) ?_
  intro p e s m below meth c s₁ hx hby hml hZ hown hnm hrt hlk X0 e0
  have N0 := Fr.nil n0
  have hww := @hvw _ _ hw
  have k0 := k_e (p := p) (e := e) (below := below) (s := s₁) (ef_14_R m a1)
  have K0 := Keep.refl h0 [a1]
  have H := @dch _ _ _ hby D14
  have k101 := f_alN X0 hx k0 (H 0 rfl) rfl
  obtain ⟨T102, X102, e102, k103⟩ := gFs X0 hx hZ hown (hww 87 rfl) e0 (Fk0.g 2 (v := zI) (by decide) rfl rfl) k101 (H 1 rfl)
  have k104 := f_isN X102 hx k103 (H 2 rfl) (l' := #[sr a1, si 0]) rfl
  have k105 := f_ilN X102 hx k104 (H 3 rfl) rfl
  have k106 := f_ifN X102 hx k105 (H 4 rfl) ((if0 _ _).trans (teq (by decide)).2)
  have k107 := f_alN X102 hx k106 (H 5 rfl) rfl
  obtain ⟨T108, X108, e108, k109⟩ := gFs X102 hx hZ hown (hww 89 rfl) e102 (Fk0.g 3 (v := zI) (by decide) rfl rfl) k107 (H 6 rfl)
  have k110 := f_ifN X108 hx k109 (H 7 rfl) ((if0 _ _).trans (teq (by decide)).2)
  have k111 := f_alN X108 hx k110 (H 8 rfl) rfl
  obtain ⟨_, T112, L112, X112, hQ112, k112⟩ := c_V (W := 0) (x := mn7) X108 hx hZ hown (hww 91 rfl) (hww 92 rfl) (notFace_of_selects (args := #[]) (mvT hZ (hww 94 rfl))) (hww 94 rfl) (hww 93 rfl) (hww 95 rfl) (hww 44 rfl) (by decide) Fk0.1 (isl1 l Z a0 hw [] a1 cs h0 n0 Z0 (Fk0.g 1 (v := zI) (by decide) rfl rfl) Scs hcs O0) e108 (argsL := []) (rest := []) rfl (by rw [hml]; rfl) k111 rfl (H 9 rfl) (lenOf pd__28_29Z rfl) (b5 rfl)
  obtain ⟨rfl, N112q, e112⟩ := hQ112
  have N113 := Fr.app N0 N112q
  have k114 := f_ifN X112 hx k112 (H 10 rfl) ((if0 _ _).trans (feq (by decide)).1)
  have k115 := f_alN X112 hx k114 (H 11 rfl) rfl
  obtain ⟨T116, X116, e116, k117⟩ := gFs X112 hx hZ hown (hww 62 rfl) e112 (Fk0.g 0 (v := (.ref b1)) (by decide) rfl rfl) k115 (H 12 rfl)
  obtain ⟨_, T118, L118, X118, hQ118, k118⟩ := c_S (W := 0) X116 hx hZ hown (hww 96 rfl) (hww 97 rfl) (hww 49 rfl) (hww 98 rfl) (by decide) (lhc l Z a0 hw [] b1 kb p1 h0 n0 Z0 Fk1 hc3) e116 (argsL := [(.ref b1)]) (rest := []) rfl (by rw [hml]; rfl) k117 rfl (H 13 rfl) (lenOf pd__28_5bB_29I rfl) (b5 rfl)
  obtain ⟨rfl, N118q, e118⟩ := hQ118
  have N119 := Fr.app N113 N118q
  have k120 := f_go X118 hx k118 (H 14 rfl) (pc' := 40) (by decide)
  have k121 := f_isN X118 hx k120 (H 15 rfl) (l' := #[sr a1, si p1]) rfl
  have k122 := f_ilN X118 hx k121 (H 16 rfl) rfl
  have k123 := f_ifY X118 hx k122 (H 17 rfl) (pc' := 53) ((if0 _ _).trans (feq hc4).2) (by decide)
  have k124 := f_alN X118 hx k123 (H 18 rfl) rfl
  have k125 := f_ilN X118 hx k124 (H 19 rfl) rfl
  obtain ⟨T126, h126, L126, X126, e126, W126, B126, N126, Z126, k126⟩ := f_pF X118 hx hZ hown (hww 87 rfl) Via.refl e118 Fk0 (snST hw) (Or.inl (hww 88 rfl)) (hww 52 rfl) 2 (by decide) rfl rfl (ty := .int) (by decide) rfl rfl N119 ge_a1 Z0 k125 (H 20 rfl) rfl
  have F127 := O0.wr W126 ge_a1
  have K128 := kw K0 W126 0 rfl
  have k129 := f_ilN X126 hx k126 (H 21 rfl) rfl
  exact fin_r X126 hx (w := (.int p1)) hrt hlk rfl (Or.inl ⟨rfl, Or.inl rfl, _, rfl⟩) k129 (H 22 rfl) (by rw [e126]; exact ⟨rfl, N126, K128, B126, (Fk1.keep K128 (ninS (Ne.symm ne_a1_b1) nin0))⟩) (by decide) (by decide)
def Q_shc1 (Z : State) (a1 : Addr) (p1 : Int32) (h0 : Heap) (n0 : Nat) (v : Option Value) (h : Heap) (L : List Loc) : Prop := v = some (.int p1) ∧ Fr n0 L ∧ h = h0
theorem shc1 (l : Launch) (Z : State) (a0 : Array Value) (hw : HW Z a0) (ws : List Jvm.Cond) (a1 : Addr) (p1 : Int32) (h0 : Heap) (n0 : Nat) (Z0 : n0 ≤ h0.size) (Fk0 : Fld Z h0 a1 "java/lang/String" "hash" "I" (.int p1)) (hc4 : ¬ (p1 = (0 : Int32))) :
    Met l mn9 jdk_42_method_78_code 2 (some .int) ws (rm 0 0 0 0) #[(.ref a1)] Z h0 (Q_shc1 Z a1 p1 h0 n0) := by
  refine Met.intro (plainFor_of_name pn_java_2flang_2fString) ?_
  intro p e s m below meth c s₁ hx hby hml hZ hown hnm hrt hlk X0 e0
  have N0 := Fr.nil n0
  have hww := @hvw _ _ hw
  have k0 := k_e (p := p) (e := e) (below := below) (s := s₁) (ef_14_R m a1)
  have H := @dch _ _ _ hby D14
  have k101 := f_alN X0 hx k0 (H 0 rfl) rfl
  obtain ⟨T102, X102, e102, k103⟩ := gFs X0 hx hZ hown (hww 87 rfl) e0 Fk0 k101 (H 1 rfl)
  have k104 := f_isN X102 hx k103 (H 2 rfl) (l' := #[sr a1, si p1]) rfl
  have k105 := f_ilN X102 hx k104 (H 3 rfl) rfl
  have k106 := f_ifY X102 hx k105 (H 4 rfl) (pc' := 58) ((if0 _ _).trans (feq hc4).2) (by decide)
  have k107 := f_ilN X102 hx k106 (H 21 rfl) rfl
  exact fin_r X102 hx (w := (.int p1)) hrt hlk rfl (Or.inl ⟨rfl, Or.inl rfl, _, rfl⟩) k107 (H 22 rfl) (by rw [e102]; exact ⟨rfl, N0, rfl⟩) (by decide) (by decide)
theorem ef_13_R (m : MethodId) (x0 : Addr) : entryFrame m #[(.ref x0)] 2 = mkF m 0 #[.val (.ref x0), .unset] [] := by first | (simp [entryFrame, mkF, argsToLocals, Value.category]; done) | rfl
theorem own_nfp {s : State} {args : Array Value} {C : String} {x y z : MethodName} (hsel : (Cond.selects C x z).before args s = true) (hz : z.cls = y.cls) : Free.NotFace s y := fun r0 h0 => by
  obtain ⟨c, r, m, -, -, a3, -, k, hk, hki⟩ := Cond.selects_spec hsel
  have q := findClass_of_methodNamed a3
  have q' := findClass_of_methodNamed h0
  rw [hz] at q
  have e : m.cls = r0.cls := Option.some.inj (q.symm.trans q')
  exact ⟨k, e ▸ hk, hki⟩
theorem pd__28_29I : parseMethodDescriptor "()I" = some ⟨[], some .int⟩ := by decide +kernel
def Q_hsh0 (Z : State) (a1 b1 : Addr) (kb : ClassId) (p1 cs : Int32) (h0 : Heap) (n0 : Nat) (v : Option Value) (h : Heap) (L : List Loc) : Prop := v = some (.int p1) ∧ Fr n0 L ∧ Keep h0 h [a1] ∧ OBJ Z h a1 "java/lang/String" lyST [(.ref b1), zI, (.int p1), zI] ∧ Arv Z h b1 kb .byte (1 : Int32) [(.int p1)] zI
theorem pn_java_2futil_2fHashMap : plainName "java/util/HashMap" = true := by first | (simp [plainName, overriddenIn]; done) | decide +kernel
theorem hsh0 (l : Launch) (Z : State) (a0 : Array Value) (hw : HW Z a0) (ws : List Jvm.Cond) (a1 b1 : Addr) (kb : ClassId) (p1 cs : Int32) (h0 : Heap) (n0 : Nat) (Z0 : n0 ≤ h0.size) (Fk0 : OBJ Z h0 a1 "java/lang/String" lyST [(.ref b1), zI, zI, zI]) (Fk1 : Arv Z h0 b1 kb .byte (1 : Int32) [(.int p1)] zI) (ge_a1 : n0 ≤ a1) (ne_a1_b1 : a1 ≠ b1) (hc3 : p1 &&& (255 : Int32) = p1) (hc4 : ¬ (p1 = (0 : Int32))) (hc5 : p1 ^^^ ((p1.toUInt32 >>> ((16 : Int32) &&& 31).toUInt32).toInt32) = p1) (Scs : Sta Z Z.heap "java/lang/String" "COMPACT_STRINGS" "Z" (.int cs)) (hcs : ¬ (cs = (0 : Int32))) (O0 : Old Z n0 h0) :
    Met l mn11 jdk_69_method_1_code 2 (some .int) ws (rm 2 0 0 25) #[(.ref a1)] Z h0 (Q_hsh0 Z a1 b1 kb p1 cs h0 n0) := by
  refine Met.intro (plainFor_of_name pn_java_2futil_2fHashMap) ?_
  intro p e s m below meth c s₁ hx hby hml hZ hown hnm hrt hlk X0 e0
  have N0 := Fr.nil n0
  have hww := @hvw _ _ hw
  have k0 := k_e (p := p) (e := e) (below := below) (s := s₁) (ef_13_R m a1)
  have K0 := Keep.refl h0 [a1]
  have H := @dch _ _ _ hby D13
  have k101 := f_alN X0 hx k0 (H 0 rfl) rfl
  have k102 := f_nnY X0 hx k101 (H 1 rfl) (pc' := 8) (by decide)
  have k103 := f_alN X0 hx k102 (H 2 rfl) rfl
  obtain ⟨_, T104, L104, X104, hQ104, k104⟩ := c_V (W := 0) (x := mn10) X0 hx hZ hown (hww 81 rfl) (hww 82 rfl) (own_nfp (args := #[]) (mvT hZ (hww 406 rfl)) rfl) (hww 84 rfl) (hww 85 rfl) (hww 86 rfl) (hww 44 rfl) (by decide) Fk0.1 (shc0 l Z a0 hw [] a1 b1 kb p1 cs h0 n0 Z0 Fk0 Fk1 ge_a1 ne_a1_b1 hc3 hc4 Scs hcs O0) e0 (argsL := []) (rest := []) rfl (by rw [hml]; rfl) k103 rfl (H 3 rfl) (lenOf pd__28_29I rfl) (b5 rfl)
  obtain ⟨h104, e104⟩ : ∃ h', T104.heap = h' := ⟨_, rfl⟩
  rw [e104] at hQ104
  obtain ⟨rfl, N104q, K104, R104_0, R104_1⟩ := hQ104
  have N105 := Fr.app N0 N104q
  have F106 := O0.keep K104 (allS ge_a1 all0)
  have Z107 : n0 ≤ h104.size := Nat.le_trans Z0 K104.1
  have K108 := Keep.trans K0 K104 (allS (oL 0 rfl) all0)
  have k109 := f_dup X104 hx k104 (H 4 rfl) rfl
  have k110 := f_isN X104 hx k109 (H 5 rfl) (l' := #[sr a1, si p1]) rfl
  have k111 := f_ilN X104 hx k110 (H 6 rfl) rfl
  have k112 := f_bp X104 hx k111 (H 7 rfl) (v := 16) rfl
  have k113 := f_iushr X104 hx k112 (H 8 rfl) rfl
  have k114 : Rt p e below T104 (mkF m 19 #[sr a1, si p1] [vI (p1 ^^^ ((p1.toUInt32 >>> ((16 : Int32) &&& 31).toUInt32).toInt32))]) s₁ m #[(.ref a1)] 2 := fun t k => k113 t (by
    show Sp p e below T104 (mkF m 18 #[sr a1, si p1] [vI ((p1.toUInt32 >>> ((16 : Int32) &&& 31).toUInt32).toInt32), vI p1]) _
    refine XS.ixor X104.here hx rfl (H 9 rfl) rfl ?_
    exact k)
  have k115 : Rt p e below T104 (mkF m 19 #[sr a1, si p1] [vI p1]) s₁ m #[(.ref a1)] 2 := fun t q => k114 t (castTop (by rw [show (p1 ^^^ ((p1.toUInt32 >>> ((16 : Int32) &&& 31).toUInt32).toInt32)) = p1 from hc5] <;> rfl) q)
  exact fin_r X104 hx (w := (.int p1)) hrt hlk rfl (Or.inl ⟨rfl, Or.inl rfl, _, rfl⟩) k115 (H 10 rfl) (by rw [e104]; exact ⟨rfl, N105, K108, R104_0, R104_1⟩) (by decide) (by decide)
def Q_hsh1 (Z : State) (a1 : Addr) (p1 : Int32) (h0 : Heap) (n0 : Nat) (v : Option Value) (h : Heap) (L : List Loc) : Prop := v = some (.int p1) ∧ Fr n0 L ∧ h = h0
theorem hsh1 (l : Launch) (Z : State) (a0 : Array Value) (hw : HW Z a0) (ws : List Jvm.Cond) (a1 : Addr) (p1 : Int32) (h0 : Heap) (n0 : Nat) (Z0 : n0 ≤ h0.size) (Fk0 : Exa Z h0 a1 "java/lang/String") (Fk1 : Fld Z h0 a1 "java/lang/String" "hash" "I" (.int p1)) (hc4 : ¬ (p1 = (0 : Int32))) (hc5 : p1 ^^^ ((p1.toUInt32 >>> ((16 : Int32) &&& 31).toUInt32).toInt32) = p1) :
    Met l mn11 jdk_69_method_1_code 2 (some .int) ws (rm 1 0 0 13) #[(.ref a1)] Z h0 (Q_hsh1 Z a1 p1 h0 n0) := by
  refine Met.intro (plainFor_of_name pn_java_2futil_2fHashMap) ?_
  intro p e s m below meth c s₁ hx hby hml hZ hown hnm hrt hlk X0 e0
  have N0 := Fr.nil n0
  have hww := @hvw _ _ hw
  have k0 := k_e (p := p) (e := e) (below := below) (s := s₁) (ef_13_R m a1)
  have H := @dch _ _ _ hby D13
  have k101 := f_alN X0 hx k0 (H 0 rfl) rfl
  have k102 := f_nnY X0 hx k101 (H 1 rfl) (pc' := 8) (by decide)
  have k103 := f_alN X0 hx k102 (H 2 rfl) rfl
  obtain ⟨_, T104, L104, X104, hQ104, k104⟩ := c_V (W := 0) (x := mn10) X0 hx hZ hown (hww 81 rfl) (hww 82 rfl) (own_nfp (args := #[]) (mvT hZ (hww 406 rfl)) rfl) (hww 84 rfl) (hww 85 rfl) (hww 86 rfl) (hww 44 rfl) (by decide) Fk0 (shc1 l Z a0 hw [] a1 p1 h0 n0 Z0 Fk1 hc4) e0 (argsL := []) (rest := []) rfl (by rw [hml]; rfl) k103 rfl (H 3 rfl) (lenOf pd__28_29I rfl) (b5 rfl)
  obtain ⟨rfl, N104q, e104⟩ := hQ104
  have N105 := Fr.app N0 N104q
  have k106 := f_dup X104 hx k104 (H 4 rfl) rfl
  have k107 := f_isN X104 hx k106 (H 5 rfl) (l' := #[sr a1, si p1]) rfl
  have k108 := f_ilN X104 hx k107 (H 6 rfl) rfl
  have k109 := f_bp X104 hx k108 (H 7 rfl) (v := 16) rfl
  have k110 := f_iushr X104 hx k109 (H 8 rfl) rfl
  have k111 : Rt p e below T104 (mkF m 19 #[sr a1, si p1] [vI (p1 ^^^ ((p1.toUInt32 >>> ((16 : Int32) &&& 31).toUInt32).toInt32))]) s₁ m #[(.ref a1)] 2 := fun t k => k110 t (by
    show Sp p e below T104 (mkF m 18 #[sr a1, si p1] [vI ((p1.toUInt32 >>> ((16 : Int32) &&& 31).toUInt32).toInt32), vI p1]) _
    refine XS.ixor X104.here hx rfl (H 9 rfl) rfl ?_
    exact k)
  have k112 : Rt p e below T104 (mkF m 19 #[sr a1, si p1] [vI p1]) s₁ m #[(.ref a1)] 2 := fun t q => k111 t (castTop (by rw [show (p1 ^^^ ((p1.toUInt32 >>> ((16 : Int32) &&& 31).toUInt32).toInt32)) = p1 from hc5] <;> rfl) q)
  exact fin_r X104 hx (w := (.int p1)) hrt hlk rfl (Or.inl ⟨rfl, Or.inl rfl, _, rfl⟩) k112 (H 10 rfl) (by rw [e104]; exact ⟨rfl, N105, rfl⟩) (by decide) (by decide)
theorem ef_58_RI (m : MethodId) (x0 : Addr) (x1 : Int32) : entryFrame m #[(.ref x0), (.int x1)] 2 = mkF m 0 #[.val (.ref x0), .val (.int x1)] [] := by first | (simp [entryFrame, mkF, argsToLocals, Value.category]; done) | rfl
theorem pd__28_29V : parseMethodDescriptor "()V" = some ⟨[], none⟩ := by decide +kernel
def Q_igi (Z : State) (a1 : Addr) (p1 : Int32) (h0 : Heap) (n0 : Nat) (v : Option Value) (h : Heap) (L : List Loc) : Prop := v = none ∧ Fr n0 L ∧ Keep h0 h [a1] ∧ OBJ Z h a1 "java/lang/Integer" lyIG [(.int p1)]
theorem pn_java_2flang_2fInteger : plainName "java/lang/Integer" = true := by first | (simp [plainName, overriddenIn]; done) | decide +kernel
theorem igi (l : Launch) (Z : State) (a0 : Array Value) (hw : HW Z a0) (ws : List Jvm.Cond) (a1 : Addr) (p1 : Int32) (h0 : Heap) (n0 : Nat) (Z0 : n0 ≤ h0.size) (Fk0 : OBJ Z h0 a1 "java/lang/Integer" lyIG [zI]) (ge_a1 : n0 ≤ a1) :
    Met l mn12 jdk_33_method_23_code 2 none ws (rm 2 0 0 24) #[(.ref a1), (.int p1)] Z h0 (Q_igi Z a1 p1 h0 n0) := by
  refine Met.intro (plainFor_of_name pn_java_2flang_2fInteger) ?_
  intro p e s m below meth c s₁ hx hby hml hZ hown hnm hrt hlk X0 e0
  have N0 := Fr.nil n0
  have hww := @hvw _ _ hw
  have k0 := k_e (p := p) (e := e) (below := below) (s := s₁) (ef_58_RI m a1 p1)
  have K0 := Keep.refl h0 [a1]
  have H := @dch _ _ _ hby D58
  have k101 := f_alN X0 hx k0 (H 0 rfl) rfl
  obtain ⟨_, T102, L102, X102, hQ102, k102⟩ := c_N (W := 0) X0 hx hZ hown (hww 416 rfl) (hww 417 rfl) (hww 421 rfl) (hww 420 rfl) rfl (by decide) (i_Number l Z a0 hw [] a1 h0 n0 Z0 ) e0 (argsL := []) (rest := []) rfl (by rw [hml]; rfl) k101 rfl (H 1 rfl) (lenOf pd__28_29V rfl) (b5 rfl)
  obtain ⟨rfl, N102q, e102⟩ := hQ102
  have N103 := Fr.app N0 N102q
  have k104 := f_alN X102 hx k102 (H 2 rfl) rfl
  have k105 := f_ilN X102 hx k104 (H 3 rfl) rfl
  obtain ⟨T106, h106, L106, X106, e106, W106, B106, N106, Z106, k106⟩ := f_pF X102 hx hZ hown (hww 264 rfl) Via.refl e102 Fk0 (snIG hw) (Or.inr ⟨(hww 265 rfl), rfl, hnm⟩) (hww 412 rfl) 0 (by decide) rfl rfl (ty := .int) (by decide) rfl rfl N103 ge_a1 Z0 k105 (H 4 rfl) rfl
  have K107 := kw K0 W106 0 rfl
  exact fin_v X106 hx hrt hlk k106 (H 5 rfl) (by rw [e106]; exact ⟨rfl, N106, K107, B106⟩) (by decide) (by decide)
theorem ef_11_I (m : MethodId) (x0 : Int32) : entryFrame m #[(.int x0)] 1 = mkF m 0 #[.val (.int x0)] [] := by first | (simp [entryFrame, mkF, argsToLocals, Value.category]; done) | rfl
theorem pd__28I_29V : parseMethodDescriptor "(I)V" = some ⟨[.int], none⟩ := by decide +kernel
def Q_box (Z : State) (p1 : Int32) (ca : Addr) (ce : Cell) (h0 : Heap) (n0 : Nat) (v : Option Value) (h : Heap) (L : List Loc) : Prop := ∃ (b : Addr), v = some (.ref b) ∧ Fr n0 L ∧ Keep h0 h [] ∧ OBJ Z h b "java/lang/Integer" lyIG [(.int p1)] ∧ (b < n0 ∨ h0.size ≤ b)
theorem box (l : Launch) (Z : State) (a0 : Array Value) (hw : HW Z a0) (ws : List Jvm.Cond) (p1 : Int32) (ca : Addr) (ce : Cell) (h0 : Heap) (n0 : Nat) (Z0 : n0 ≤ h0.size) (Shi : Sta Z Z.heap "java/lang/Integer$IntegerCache" "high" "I" (.int (127 : Int32))) (Sca : Sta Z Z.heap "java/lang/Integer$IntegerCache" "cache" "[Ljava/lang/Integer;" (.ref ca)) (Bx : Bxs Z ca ce "java/lang/Integer" "I" (256 : Int32) (fun j => .int (j - (128 : Int32)))) (O0 : Old Z n0 h0) :
    Met l mn13 jdk_33_method_22_code 1 (some (.object "java/lang/Integer")) ws (rm 3 1 1 38) #[(.int p1)] Z h0 (Q_box Z p1 ca ce h0 n0) := by
  refine Met.intro (plainFor_of_name pn_java_2flang_2fInteger) ?_
  intro p e s m below meth c s₁ hx hby hml hZ hown hnm hrt hlk X0 e0
  have N0 := Fr.nil n0
  have hww := @hvw _ _ hw
  have k0 := k_e (p := p) (e := e) (below := below) (s := s₁) (ef_11_I m p1)
  have K0 : Keep h0 h0 [] := Keep.refl h0 []
  have H := @dch _ _ _ hby D11
  have k101 := f_ilN X0 hx k0 (H 0 rfl) rfl
  have k102 := f_bp X0 hx k101 (H 1 rfl) (v := (-128)) rfl
  by_cases ql : p1 < (-128 : Int32)
  · have k103 := f_icY X0 hx k102 (H 2 rfl) (pc' := 23) (tlt ql).1 (by decide)
    obtain ⟨T104, h104, X104, e104, E104, A104, D104, -, st104⟩ := newO X0 hx hZ hown (hww 411 rfl) (hww 412 rfl) (hww 68 rfl) e0 (g := (mkF m 23 #[si p1] [])) rfl (H 3 rfl) (by decide) (by decide)
    obtain ⟨b104, g104⟩ : ∃ z, z = h0.size := ⟨_, rfl⟩
    rw [← g104] at A104 D104 st104
    have g105 : n0 ≤ b104 := Nat.le_trans Z0 (Nat.le_of_eq g104.symm)
    have z106 : h0.size ≤ b104 := Nat.le_trans K0.1 (Nat.le_of_eq g104.symm)
    have F107 := O0.ext E104
    have Z108 : n0 ≤ h104.size := Nat.le_trans Z0 E104.1
    have K109 := K0.ext E104
    have F110 : Fld Z h104 b104 "java/lang/Integer" "value" "I" zI := D104 (Or.inr (hww 265 rfl)) (ty := .int) (by decide)
    have k111 : Rt p e below T104 (mkF m 26 #[si p1] [vR b104]) s₁ m #[(.int p1)] 1 := fun t k => k103 t (st104 t k)
    have B112 := mkIG A104 F110
    have k113 := f_dup X104 hx k111 (H 4 rfl) rfl
    have k114 := f_ilN X104 hx k113 (H 5 rfl) rfl
    obtain ⟨_, T115, L115, X115, hQ115, k115⟩ := c_N (W := 1) X104 hx hZ hown (hww 413 rfl) (hww 414 rfl) (hww 415 rfl) (hww 68 rfl) rfl (by decide) (igi l Z a0 hw [] b104 p1 h104 n0 Z108 B112 g105) e104 (argsL := [(.int p1)]) (rest := [(.ref b104)]) rfl (by rw [hml]; rfl) k114 rfl (H 6 rfl) (lenOf pd__28I_29V rfl) (b5 rfl)
    obtain ⟨h115, e115⟩ : ∃ h', T115.heap = h' := ⟨_, rfl⟩
    rw [e115] at hQ115
    obtain ⟨rfl, N115q, K115, R115_0⟩ := hQ115
    have N116 := Fr.app N0 N115q
    have F117 := F107.keep K115 (allS g105 all0)
    have Z118 : n0 ≤ h115.size := Nat.le_trans Z108 K115.1
    have K119 := Keep.trans K109 K115 (allS (Or.inr z106) all0)
    exact fin_r X115 hx (w := (.ref b104)) hrt hlk rfl (Or.inr (Or.inr (Or.inr (Or.inr ⟨rfl, rfl, rfl⟩)))) k115 (H 7 rfl) (by rw [e115]; exact ⟨b104, rfl, N116, K119, R115_0, Or.inr z106⟩) (by decide) (by decide)
  · have k120 := f_icN X0 hx k102 (H 2 rfl) (flt ql).1
    have k121 := f_ilN X0 hx k120 (H 8 rfl) rfl
    obtain ⟨T122, X122, e122, st122⟩ := getS2 X0 hx hZ hown (host := "") (Or.inl (hww 70 rfl)) Via.refl e0 (Shi.ext O0.2) (g := (mkF m 7 #[si p1] [vI p1])) rfl (H 9 rfl)
    have k123 : Rt p e below T122 (mkF m 10 #[si p1] [vI 127, vI p1]) s₁ m #[(.int p1)] 1 := fun t k => k121 t (st122 t k)
    by_cases qh : (127 : Int32) < p1
    · have k124 := f_icY X122 hx k123 (H 10 rfl) (pc' := 23) (tlt qh).2.2.1 (by decide)
      obtain ⟨T125, h125, X125, e125, E125, A125, D125, -, st125⟩ := newO X122 hx hZ hown (hww 411 rfl) (hww 412 rfl) (hww 68 rfl) e122 (g := (mkF m 23 #[si p1] [])) rfl (H 3 rfl) (by decide) (by decide)
      obtain ⟨b125, g125⟩ : ∃ z, z = h0.size := ⟨_, rfl⟩
      rw [← g125] at A125 D125 st125
      have g126 : n0 ≤ b125 := Nat.le_trans Z0 (Nat.le_of_eq g125.symm)
      have z127 : h0.size ≤ b125 := Nat.le_trans K0.1 (Nat.le_of_eq g125.symm)
      have F128 := O0.ext E125
      have Z129 : n0 ≤ h125.size := Nat.le_trans Z0 E125.1
      have K130 := K0.ext E125
      have F131 : Fld Z h125 b125 "java/lang/Integer" "value" "I" zI := D125 (Or.inr (hww 265 rfl)) (ty := .int) (by decide)
      have k132 : Rt p e below T125 (mkF m 26 #[si p1] [vR b125]) s₁ m #[(.int p1)] 1 := fun t k => k124 t (st125 t k)
      have B133 := mkIG A125 F131
      have k134 := f_dup X125 hx k132 (H 4 rfl) rfl
      have k135 := f_ilN X125 hx k134 (H 5 rfl) rfl
      obtain ⟨_, T136, L136, X136, hQ136, k136⟩ := c_N (W := 1) X125 hx hZ hown (hww 413 rfl) (hww 414 rfl) (hww 415 rfl) (hww 68 rfl) rfl (by decide) (igi l Z a0 hw [] b125 p1 h125 n0 Z129 B133 g126) e125 (argsL := [(.int p1)]) (rest := [(.ref b125)]) rfl (by rw [hml]; rfl) k135 rfl (H 6 rfl) (lenOf pd__28I_29V rfl) (b5 rfl)
      obtain ⟨h136, e136⟩ : ∃ h', T136.heap = h' := ⟨_, rfl⟩
      rw [e136] at hQ136
      obtain ⟨rfl, N136q, K136, R136_0⟩ := hQ136
      have N137 := Fr.app N0 N136q
      have F138 := F128.keep K136 (allS g126 all0)
      have Z139 : n0 ≤ h136.size := Nat.le_trans Z129 K136.1
      have K140 := Keep.trans K130 K136 (allS (Or.inr z127) all0)
      exact fin_r X136 hx (w := (.ref b125)) hrt hlk rfl (Or.inr (Or.inr (Or.inr (Or.inr ⟨rfl, rfl, rfl⟩)))) k136 (H 7 rfl) (by rw [e136]; exact ⟨b125, rfl, N137, K140, R136_0, Or.inr z127⟩) (by decide) (by decide)
    · have k141 := f_icN X122 hx k123 (H 10 rfl) (flt qh).2.2.1
      obtain ⟨T142, X142, e142, st142⟩ := getS2 X122 hx hZ hown (host := "") (Or.inl (hww 72 rfl)) Via.refl e122 (Sca.ext O0.2) (g := (mkF m 13 #[si p1] [])) rfl (H 11 rfl)
      have k143 : Rt p e below T142 (mkF m 16 #[si p1] [vR ca]) s₁ m #[(.int p1)] 1 := fun t k => k141 t (st142 t k)
      have k144 := f_ilN X142 hx k143 (H 12 rfl) rfl
      have k145 := f_sp X142 hx k144 (H 13 rfl) (v := 128) rfl
      have k146 := f_iadd X142 hx k145 (H 14 rfl) rfl
      have hj := own_boxin ql qh Bx.2.1
      obtain ⟨bq, hs, ebq, fbq⟩ := Bx.2.2.2 (p1 + (128 : Int32)) hj
      have fb : Fld Z h0 bq "java/lang/Integer" "value" "I" (.int p1) := own_boxv (fbq.ext O0.2)
      have eb := ebq.ext O0.2
      have k147 : Rt p e below T142 (mkF m 22 #[si p1] [vR bq]) s₁ m #[(.int p1)] 1 := fun t w => k146 t (X142.aaload hx (by rw [e142]; exact (Bx.1.ext O0.2).1) (State.isArrayOf_alike hZ.alike Bx.1.2.1) rfl Bx.1.2.2 hj hs rfl rfl (H 15 rfl) _ w)
      have B148 := mkIG eb fb
      exact fin_r X142 hx (w := (.ref bq)) hrt hlk rfl (Or.inr (Or.inr (Or.inr (Or.inr ⟨rfl, rfl, rfl⟩)))) k147 (H 16 rfl) (by rw [e142]; exact ⟨bq, rfl, N0, K0, B148, Or.inl (O0.1 ▸ ebq.lt)⟩) (by decide) (by decide)
theorem ef_33_R (m : MethodId) (x0 : Addr) : entryFrame m #[(.ref x0)] 1 = mkF m 0 #[.val (.ref x0)] [] := by first | (simp [entryFrame, mkF, argsToLocals, Value.category]; done) | rfl
def Q_iv (Z : State) (a1 : Addr) (p1 : Int32) (h0 : Heap) (n0 : Nat) (v : Option Value) (h : Heap) (L : List Loc) : Prop := v = some (.int p1) ∧ Fr n0 L ∧ h = h0
theorem iv (l : Launch) (Z : State) (a0 : Array Value) (hw : HW Z a0) (ws : List Jvm.Cond) (a1 : Addr) (p1 : Int32) (h0 : Heap) (n0 : Nat) (Z0 : n0 ≤ h0.size) (Fk0 : Fld Z h0 a1 "java/lang/Integer" "value" "I" (.int p1)) :
    Met l mn14 jdk_33_method_27_code 1 (some .int) ws (rm 0 0 0 0) #[(.ref a1)] Z h0 (Q_iv Z a1 p1 h0 n0) := by
  refine Met.intro (plainFor_of_name pn_java_2flang_2fInteger) ?_
  intro p e s m below meth c s₁ hx hby hml hZ hown hnm hrt hlk X0 e0
  have N0 := Fr.nil n0
  have hww := @hvw _ _ hw
  have k0 := k_e (p := p) (e := e) (below := below) (s := s₁) (ef_33_R m a1)
  have H := @dch _ _ _ hby D33
  have k101 := f_alN X0 hx k0 (H 0 rfl) rfl
  obtain ⟨T102, X102, e102, k103⟩ := gFs X0 hx hZ hown (hww 264 rfl) e0 Fk0 k101 (H 1 rfl)
  exact fin_r X102 hx (w := (.int p1)) hrt hlk rfl (Or.inl ⟨rfl, Or.inl rfl, _, rfl⟩) k103 (H 2 rfl) (by rw [e102]; exact ⟨rfl, N0, rfl⟩) (by decide) (by decide)
theorem ef_44_RRD (m : MethodId) (x0 : Addr) (x1 : Addr) (x2 : UInt64) : entryFrame m #[(.ref x0), (.ref x1), (.double x2)] 4 = mkF m 0 #[.val (.ref x0), .val (.ref x1), .val (.double x2), .second] [] := by first | (simp [entryFrame, mkF, argsToLocals, Value.category]; done) | rfl
def Q_sdi (Z : State) (a1 a2 : Addr) (u1 : UInt64) (h0 : Heap) (n0 : Nat) (v : Option Value) (h : Heap) (L : List Loc) : Prop := v = none ∧ Fr n0 L ∧ Keep h0 h [a1] ∧ OBJ Z h a1 "com/example/multinomial/multinomial/search/ScoredDocument" lySD [(.ref a2), (.double u1)]
theorem pn_com_2fexample_2fmultinomial_2fmultinomial_2fsearch_2fScoredDocument : plainName "com/example/multinomial/multinomial/search/ScoredDocument" = true := by first | (simp [plainName, overriddenIn]; done) | decide +kernel
theorem sdi (l : Launch) (Z : State) (a0 : Array Value) (hw : HW Z a0) (ws : List Jvm.Cond) (a1 a2 : Addr) (u1 : UInt64) (h0 : Heap) (n0 : Nat) (Z0 : n0 ≤ h0.size) (Fk0 : OBJ Z h0 a1 "com/example/multinomial/multinomial/search/ScoredDocument" lySD [.null, (.double (0 : UInt64))]) (ge_a1 : n0 ≤ a1) :
    Met l mn15 prog_44_method_1_code 4 none ws (rm 1 0 0 12) #[(.ref a1), (.ref a2), (.double u1)] Z h0 (Q_sdi Z a1 a2 u1 h0 n0) := by
  refine Met.intro (plainFor_of_name pn_com_2fexample_2fmultinomial_2fmultinomial_2fsearch_2fScoredDocument) ?_
  intro p e s m below meth c s₁ hx hby hml hZ hown hnm hrt hlk X0 e0
  have N0 := Fr.nil n0
  have hww := @hvw _ _ hw
  have k0 := k_e (p := p) (e := e) (below := below) (s := s₁) (ef_44_RRD m a1 a2 u1)
  have K0 := Keep.refl h0 [a1]
  have H := @dch _ _ _ hby D44
  have k101 := f_alN X0 hx k0 (H 0 rfl) rfl
  obtain ⟨T102, X102, e102, st102⟩ := initO X0 hx hZ hown (hww 316 rfl) (hww 19 rfl) (hww 20 rfl) e0 (g := (mkF m 1 #[sr a1, sr a2, sd u1, se] [vR a1])) rfl (by rw [hml]; rfl) rfl (H 1 rfl) (by decide) (W := 0) (by show 2 * 0 + _ ≤ _; exact Nat.le_of_eq rfl) (by decide)
  have k103 : Rt p e below T102 (mkF m 4 #[sr a1, sr a2, sd u1, se] []) s₁ m #[(.ref a1), (.ref a2), (.double u1)] 4 := fun t k => k101 t (st102 t k)
  have k104 := f_alN X102 hx k103 (H 2 rfl) rfl
  have k105 := f_alN X102 hx k104 (H 3 rfl) rfl
  obtain ⟨T106, h106, L106, X106, e106, W106, B106, N106, Z106, k106⟩ := f_pF X102 hx hZ hown (hww 317 rfl) Via.refl e102 Fk0 (snSD hw) (Or.inr ⟨(hww 318 rfl), rfl, hnm⟩) (hww 310 rfl) 0 (by decide) rfl rfl (ty := (.object "java/lang/String")) (by decide) rfl rfl N0 ge_a1 Z0 k105 (H 4 rfl) rfl
  have K107 := kw K0 W106 0 rfl
  have k108 := f_alN X106 hx k106 (H 5 rfl) rfl
  have k109 := f_dlN X106 hx k108 (H 6 rfl) rfl
  obtain ⟨T110, h110, L110, X110, e110, W110, B110, N110, Z110, k110⟩ := f_pF X106 hx hZ hown (hww 319 rfl) Via.refl e106 B106 (snSD hw) (Or.inr ⟨(hww 320 rfl), rfl, hnm⟩) (hww 310 rfl) 1 (by decide) rfl rfl (ty := .double) (by decide) rfl rfl N106 ge_a1 Z106 k109 (H 7 rfl) rfl
  have K111 := kw K107 W110 0 rfl
  exact fin_v X110 hx hrt hlk k110 (H 8 rfl) (by rw [e110]; exact ⟨rfl, N110, K111, B110⟩) (by decide) (by decide)
theorem ef_53_R (m : MethodId) (x0 : Addr) : entryFrame m #[(.ref x0)] 1 = mkF m 0 #[.val (.ref x0)] [] := by first | (simp [entryFrame, mkF, argsToLocals, Value.category]; done) | rfl
def Q_sid (Z : State) (a1 a2 : Addr) (h0 : Heap) (n0 : Nat) (v : Option Value) (h : Heap) (L : List Loc) : Prop := v = some (.ref a2) ∧ Fr n0 L ∧ h = h0
theorem sid (l : Launch) (Z : State) (a0 : Array Value) (hw : HW Z a0) (ws : List Jvm.Cond) (a1 a2 : Addr) (h0 : Heap) (n0 : Nat) (Z0 : n0 ≤ h0.size) (Fk0 : Fld Z h0 a1 "com/example/multinomial/multinomial/search/ScoredDocument" "id" "Ljava/lang/String;" (.ref a2)) :
    Met l mn16 prog_44_method_2_code 1 (some (.object "java/lang/String")) ws (rm 0 0 0 0) #[(.ref a1)] Z h0 (Q_sid Z a1 a2 h0 n0) := by
  refine Met.intro (plainFor_of_name pn_com_2fexample_2fmultinomial_2fmultinomial_2fsearch_2fScoredDocument) ?_
  intro p e s m below meth c s₁ hx hby hml hZ hown hnm hrt hlk X0 e0
  have N0 := Fr.nil n0
  have hww := @hvw _ _ hw
  have k0 := k_e (p := p) (e := e) (below := below) (s := s₁) (ef_53_R m a1)
  have H := @dch _ _ _ hby D53
  have k101 := f_alN X0 hx k0 (H 0 rfl) rfl
  obtain ⟨T102, X102, e102, k103⟩ := gFs X0 hx hZ hown (hww 317 rfl) e0 Fk0 k101 (H 1 rfl)
  exact fin_r X102 hx (w := (.ref a2)) hrt hlk rfl (Or.inr (Or.inr (Or.inr (Or.inr ⟨rfl, rfl, rfl⟩)))) k103 (H 2 rfl) (by rw [e102]; exact ⟨rfl, N0, rfl⟩) (by decide) (by decide)
theorem ef_35_II (m : MethodId) (x0 : Int32) (x1 : Int32) : entryFrame m #[(.int x0), (.int x1)] 2 = mkF m 0 #[.val (.int x0), .val (.int x1)] [] := by first | (simp [entryFrame, mkF, argsToLocals, Value.category]; done) | rfl
def Q_mmax (Z : State) (p1 p2 : Int32) (h0 : Heap) (n0 : Nat) (v : Option Value) (h : Heap) (L : List Loc) : Prop := ∃ (j : Int32), v = some (.int j) ∧ Fr n0 L ∧ h = h0 ∧ (j = (if p1 < p2 then p2 else p1))
theorem mmax (l : Launch) (Z : State) (a0 : Array Value) (hw : HW Z a0) (ws : List Jvm.Cond) (p1 p2 : Int32) (h0 : Heap) (n0 : Nat) (Z0 : n0 ≤ h0.size) :
    Met l mn17 jdk_29_method_65_code 2 (some .int) ws (rm 0 0 0 0) #[(.int p1), (.int p2)] Z h0 (Q_mmax Z p1 p2 h0 n0) := by
  refine Met.intro (Jvm.Free.JP.mathPlain rfl (by decide +kernel)) ?_
  intro p e s m below meth c s₁ hx hby hml hZ hown hnm hrt hlk X0 e0
  have N0 := Fr.nil n0
  have hww := @hvw _ _ hw
  have k0 := k_e (p := p) (e := e) (below := below) (s := s₁) (ef_35_II m p1 p2)
  have H := @dch _ _ _ hby D35
  have k101 := f_ilN X0 hx k0 (H 0 rfl) rfl
  have k102 := f_ilN X0 hx k101 (H 1 rfl) rfl
  obtain ⟨i104, hi104⟩ : ∃ z : Int32, z = (if p1 < p2 then p2 else p1) := ⟨_, rfl⟩
  have k105 : Rt p e below s₁ (mkF m 10 #[si p1, si p2] [vI i104]) s₁ m #[(.int p1), (.int p2)] 2 := fun t k => k102 t (by
    by_cases c103 : p1 < p2
    · rw [if_pos c103] at hi104
      show Sp p e below s₁ (mkF m 2 #[si p1, si p2] [vI p2, vI p1]) _
      refine XS.icmpYes X0.here hx rfl (pc0 := 2) (pc' := 9) rfl (H 2 rfl) rfl (tlt c103).1 (by decide) (by decide) ?_
      refine XS.iloadN X0.here hx rfl (H 3 rfl) rfl ?_
      show Sp p e below s₁ (mkF m 10 #[si p1, si p2] [vI p2]) _
      exact castTop (by rw [hi104]) k
    · rw [if_neg c103] at hi104
      show Sp p e below s₁ (mkF m 2 #[si p1, si p2] [vI p2, vI p1]) _
      refine XS.icmpNo X0.here hx rfl (H 2 rfl) rfl (flt c103).1 ?_
      refine XS.iloadN X0.here hx rfl (H 4 rfl) rfl ?_
      refine XS.goto X0.here hx rfl (pc0 := 6) (pc' := 10) rfl (H 5 rfl) (by decide) (by decide) ?_
      show Sp p e below s₁ (mkF m 10 #[si p1, si p2] [vI p1]) _
      exact castTop (by rw [hi104]) k)
  exact fin_r X0 hx (w := (.int i104)) hrt hlk rfl (Or.inl ⟨rfl, Or.inl rfl, _, rfl⟩) k105 (H 6 rfl) (by rw [e0]; exact ⟨i104, rfl, N0, rfl, hi104⟩) (by decide) (by decide)
theorem ef_34_I (m : MethodId) (x0 : Int32) : entryFrame m #[(.int x0)] 1 = mkF m 0 #[.val (.int x0)] [] := by first | (simp [entryFrame, mkF, argsToLocals, Value.category]; done) | rfl
theorem pd__28II_29I : parseMethodDescriptor "(II)I" = some ⟨[.int, .int], some .int⟩ := by decide +kernel
def Q_gain (Z : State) (p1 : Int32) (h0 : Heap) (n0 : Nat) (v : Option Value) (h : Heap) (L : List Loc) : Prop := ∃ (j : Int32), v = some (.int j) ∧ Fr n0 L ∧ h = h0 ∧ (j = (if p1 < (0 : Int32) then (0 : Int32) else p1))
theorem pn_com_2fexample_2fmultinomial_2fmultinomial_2feval_2fJudgedRanking : plainName "com/example/multinomial/multinomial/eval/JudgedRanking" = true := by first | (simp [plainName, overriddenIn]; done) | decide +kernel
theorem gain (l : Launch) (Z : State) (a0 : Array Value) (hw : HW Z a0) (ws : List Jvm.Cond) (p1 : Int32) (h0 : Heap) (n0 : Nat) (Z0 : n0 ≤ h0.size) :
    Met l mn18 prog_10_method_13_code 1 (some .int) ws (rm 1 0 0 13) #[(.int p1)] Z h0 (Q_gain Z p1 h0 n0) := by
  refine Met.intro (plainFor_of_name pn_com_2fexample_2fmultinomial_2fmultinomial_2feval_2fJudgedRanking) ?_
  intro p e s m below meth c s₁ hx hby hml hZ hown hnm hrt hlk X0 e0
  have N0 := Fr.nil n0
  have hww := @hvw _ _ hw
  have k0 := k_e (p := p) (e := e) (below := below) (s := s₁) (ef_34_I m p1)
  have H := @dch _ _ _ hby D34
  have k101 := f_ilN X0 hx k0 (H 0 rfl) rfl
  have k102 := f_ic X0 hx k101 (H 1 rfl) (v := 0) rfl
  obtain ⟨_, T103, L103, X103, hQ103, k103⟩ := c_S (W := 0) X0 hx hZ hown (hww 269 rfl) (hww 270 rfl) (hww 271 rfl) (hww 272 rfl) (by decide) (mmax l Z a0 hw [] p1 (0 : Int32) h0 n0 Z0 ) e0 (argsL := [(.int p1), zI]) (rest := []) rfl (by rw [hml]; rfl) k102 rfl (H 2 rfl) (lenOf pd__28II_29I rfl) (b5 rfl)
  obtain ⟨h103, e103⟩ : ∃ h', T103.heap = h' := ⟨_, rfl⟩
  rw [e103] at hQ103
  obtain ⟨j103, rfl, N103q, hh103, P103_0⟩ := hQ103
  have N104 := Fr.app N0 N103q
  have ee103 : T103.heap = h0 := e103.trans hh103
  exact fin_r X103 hx (w := (.int j103)) hrt hlk rfl (Or.inl ⟨rfl, Or.inl rfl, _, rfl⟩) k103 (H 3 rfl) (by rw [ee103]; exact ⟨j103, rfl, N104, rfl, P103_0⟩) (by decide) (by decide)
theorem ef_2_R (m : MethodId) (x0 : Addr) : entryFrame m #[(.ref x0)] 1 = mkF m 0 #[.val (.ref x0)] [] := by first | (simp [entryFrame, mkF, argsToLocals, Value.category]; done) | rfl
def Q_abl (Z : State) (a1 : Addr) (h0 : Heap) (n0 : Nat) (v : Option Value) (h : Heap) (L : List Loc) : Prop := v = none ∧ Fr n0 L ∧ Keep h0 h [a1] ∧ OBJ Z h a1 "java/util/ArrayList" lyLS [zI, .null, zI]
theorem pn_java_2futil_2fAbstractList : plainName "java/util/AbstractList" = true := by first | (simp [plainName, overriddenIn]; done) | decide +kernel
theorem abl (l : Launch) (Z : State) (a0 : Array Value) (hw : HW Z a0) (ws : List Jvm.Cond) (a1 : Addr) (h0 : Heap) (n0 : Nat) (Z0 : n0 ≤ h0.size) (Fk0 : OBJ Z h0 a1 "java/util/ArrayList" lyLS [zI, .null, zI]) (ge_a1 : n0 ≤ a1) :
    Met l mn19 jdk_39_method_1_code 1 none ws (rm 2 0 0 24) #[(.ref a1)] Z h0 (Q_abl Z a1 h0 n0) := by
  refine Met.intro (plainFor_of_name pn_java_2futil_2fAbstractList) ?_
  intro p e s m below meth c s₁ hx hby hml hZ hown hnm hrt hlk X0 e0
  have N0 := Fr.nil n0
  have hww := @hvw _ _ hw
  have k0 := k_e (p := p) (e := e) (below := below) (s := s₁) (ef_2_R m a1)
  have K0 := Keep.refl h0 [a1]
  have H := @dch _ _ _ hby D2
  have k101 := f_alN X0 hx k0 (H 0 rfl) rfl
  obtain ⟨_, T102, L102, X102, hQ102, k102⟩ := c_N (W := 0) X0 hx hZ hown (hww 12 rfl) (hww 13 rfl) (hww 17 rfl) (hww 16 rfl) rfl (by decide) (i_AbstractCollection l Z a0 hw [] a1 h0 n0 Z0 ) e0 (argsL := []) (rest := []) rfl (by rw [hml]; rfl) k101 rfl (H 1 rfl) (lenOf pd__28_29V rfl) (b5 rfl)
  obtain ⟨rfl, N102q, e102⟩ := hQ102
  have N103 := Fr.app N0 N102q
  have k104 := f_alN X102 hx k102 (H 2 rfl) rfl
  have k105 := f_ic X102 hx k104 (H 3 rfl) (v := 0) rfl
  obtain ⟨T106, h106, L106, X106, e106, W106, B106, N106, Z106, k106⟩ := f_pF X102 hx hZ hown (hww 21 rfl) Via.refl e102 Fk0 (snLS hw) (Or.inl (hww 22 rfl)) (hww 1 rfl) 0 (by decide) rfl rfl (ty := .int) (by decide) rfl rfl N103 ge_a1 Z0 k105 (H 4 rfl) rfl
  have K107 := kw K0 W106 0 rfl
  exact fin_v X106 hx hrt hlk k106 (H 5 rfl) (by rw [e106]; exact ⟨rfl, N106, K107, B106⟩) (by decide) (by decide)
theorem ef_1_R (m : MethodId) (x0 : Addr) : entryFrame m #[(.ref x0)] 1 = mkF m 0 #[.val (.ref x0)] [] := by first | (simp [entryFrame, mkF, argsToLocals, Value.category]; done) | rfl
def Q_ali (Z : State) (a1 de : Addr) (h0 : Heap) (n0 : Nat) (v : Option Value) (h : Heap) (L : List Loc) : Prop := v = none ∧ Fr n0 L ∧ Keep h0 h [a1] ∧ OBJ Z h a1 "java/util/ArrayList" lyLS [zI, (.ref de), zI]
theorem pn_java_2futil_2fArrayList : plainName "java/util/ArrayList" = true := by first | (simp [plainName, overriddenIn]; done) | decide +kernel
theorem ali (l : Launch) (Z : State) (a0 : Array Value) (hw : HW Z a0) (ws : List Jvm.Cond) (a1 de : Addr) (h0 : Heap) (n0 : Nat) (Z0 : n0 ≤ h0.size) (Fk0 : OBJ Z h0 a1 "java/util/ArrayList" lyLS [zI, .null, zI]) (ge_a1 : n0 ≤ a1) (Sde : Sta Z Z.heap "java/util/ArrayList" "DEFAULTCAPACITY_EMPTY_ELEMENTDATA" "[Ljava/lang/Object;" (.ref de)) (O0 : Old Z n0 h0) :
    Met l mn20 jdk_38_method_2_code 1 none ws (rm 3 0 0 36) #[(.ref a1)] Z h0 (Q_ali Z a1 de h0 n0) := by
  refine Met.intro (plainFor_of_name pn_java_2futil_2fArrayList) ?_
  intro p e s m below meth c s₁ hx hby hml hZ hown hnm hrt hlk X0 e0
  have N0 := Fr.nil n0
  have hww := @hvw _ _ hw
  have k0 := k_e (p := p) (e := e) (below := below) (s := s₁) (ef_1_R m a1)
  have K0 := Keep.refl h0 [a1]
  have H := @dch _ _ _ hby D1
  have k101 := f_alN X0 hx k0 (H 0 rfl) rfl
  obtain ⟨_, T102, L102, X102, hQ102, k102⟩ := c_N (W := 0) X0 hx hZ hown (hww 6 rfl) (hww 7 rfl) (hww 11 rfl) (hww 10 rfl) rfl (by decide) (abl l Z a0 hw [] a1 h0 n0 Z0 Fk0 ge_a1) e0 (argsL := []) (rest := []) rfl (by rw [hml]; rfl) k101 rfl (H 1 rfl) (lenOf pd__28_29V rfl) (b5 rfl)
  obtain ⟨h102, e102⟩ : ∃ h', T102.heap = h' := ⟨_, rfl⟩
  rw [e102] at hQ102
  obtain ⟨rfl, N102q, K102, R102_0⟩ := hQ102
  have N103 := Fr.app N0 N102q
  have F104 := O0.keep K102 (allS ge_a1 all0)
  have Z105 : n0 ≤ h102.size := Nat.le_trans Z0 K102.1
  have K106 := Keep.trans K0 K102 (allS (oL 0 rfl) all0)
  have k107 := f_alN X102 hx k102 (H 2 rfl) rfl
  obtain ⟨T108, X108, e108, st108⟩ := getS2 X102 hx hZ hown (host := "") (Or.inl (hww 23 rfl)) Via.refl e102 (Sde.ext F104.2) (g := (mkF m 5 #[sr a1] [vR a1])) rfl (H 3 rfl)
  have k109 : Rt p e below T108 (mkF m 8 #[sr a1] [vR de, vR a1]) s₁ m #[(.ref a1)] 1 := fun t k => k107 t (st108 t k)
  obtain ⟨T110, h110, L110, X110, e110, W110, B110, N110, Z110, k110⟩ := f_pF X108 hx hZ hown (hww 24 rfl) Via.refl e108 R102_0 (snLS hw) (Or.inl (hww 25 rfl)) (hww 1 rfl) 1 (by decide) rfl rfl (ty := (.array (.object "java/lang/Object"))) (by decide) rfl rfl N103 ge_a1 Z105 k109 (H 4 rfl) rfl
  have F111 := F104.wr W110 ge_a1
  have K112 := kw K106 W110 0 rfl
  exact fin_v X110 hx hrt hlk k110 (H 5 rfl) (by rw [e110]; exact ⟨rfl, N110, K112, B110⟩) (by decide) (by decide)
theorem ef_48_RI (m : MethodId) (x0 : Addr) (x1 : Int32) : entryFrame m #[(.ref x0), (.int x1)] 4 = mkF m 0 #[.val (.ref x0), .val (.int x1), .unset, .unset] [] := by first | (simp [entryFrame, mkF, argsToLocals, Value.category]; done) | rfl
def Q_grw1 (Z : State) (a1 de : Addr) (kd : ClassId) (mc : Int32) (h0 : Heap) (n0 : Nat) (v : Option Value) (h : Heap) (L : List Loc) : Prop := ∃ (ea : Addr) (ka : ClassId), v = some (.ref ea) ∧ Fr n0 L ∧ Keep h0 h [a1] ∧ h0.size ≤ ea ∧ OBJ Z h a1 "java/util/ArrayList" lyLS [(.int mc), (.ref ea), zI] ∧ Arv Z h ea ka (.object "java/lang/Object") (10 : Int32) [.null, .null, .null, .null, .null, .null, .null, .null, .null, .null] .null ∧ (Ovr Z ka "java/lang/Object")
theorem grw1 (l : Launch) (Z : State) (a0 : Array Value) (hw : HW Z a0) (ws : List Jvm.Cond) (a1 de : Addr) (kd : ClassId) (mc : Int32) (h0 : Heap) (n0 : Nat) (Z0 : n0 ≤ h0.size) (Fk0 : OBJ Z h0 a1 "java/util/ArrayList" lyLS [(.int mc), (.ref de), zI]) (ge_a1 : n0 ≤ a1) (Sde : Sta Z Z.heap "java/util/ArrayList" "DEFAULTCAPACITY_EMPTY_ELEMENTDATA" "[Ljava/lang/Object;" (.ref de)) (Vde : Arv Z Z.heap de kd (.object "java/lang/Object") (0 : Int32) [] .null) (O0 : Old Z n0 h0) :
    Met l mn21 jdk_38_method_6_code 4 (some (.array (.object "java/lang/Object"))) ws (rm 1 1 10 14) #[(.ref a1), (.int (1 : Int32))] Z h0 (Q_grw1 Z a1 de kd mc h0 n0) := by
  refine Met.intro (plainFor_of_name pn_java_2futil_2fArrayList) ?_
  intro p e s m below meth c s₁ hx hby hml hZ hown hnm hrt hlk X0 e0
  have N0 := Fr.nil n0
  have hww := @hvw _ _ hw
  have k0 := k_e (p := p) (e := e) (below := below) (s := s₁) (ef_48_RI m a1 (1 : Int32))
  have K0 := Keep.refl h0 [a1]
  have H := @dch _ _ _ hby D48
  have k101 := f_alN X0 hx k0 (H 0 rfl) rfl
  obtain ⟨T102, X102, e102, k103⟩ := gFs X0 hx hZ hown (hww 24 rfl) e0 (Fk0.g 1 (v := (.ref de)) (by decide) rfl rfl) k101 (H 1 rfl)
  have k104 := f_len X102 hx hZ e102 (Vde.ext O0.2) k103 (H 2 rfl)
  have k105 := f_isN X102 hx k104 (H 3 rfl) (l' := #[sr a1, si 1, si 0, un]) rfl
  have k106 := f_ilN X102 hx k105 (H 4 rfl) rfl
  have k107 := f_ifN X102 hx k106 (H 5 rfl) ((if0 _ _).trans (flt (by decide)).2.2.1)
  have k108 := f_alN X102 hx k107 (H 6 rfl) rfl
  obtain ⟨T109, X109, e109, k110⟩ := gFs X102 hx hZ hown (hww 24 rfl) e102 (Fk0.g 1 (v := (.ref de)) (by decide) rfl rfl) k108 (H 7 rfl)
  obtain ⟨T111, X111, e111, st111⟩ := getS2 X109 hx hZ hown (host := "") (Or.inl (hww 23 rfl)) Via.refl e109 (Sde.ext O0.2) (g := (mkF m 14 #[sr a1, si 1, si 0, un] [vR de])) rfl (H 8 rfl)
  have k112 : Rt p e below T111 (mkF m 17 #[sr a1, si 1, si 0, un] [vR de, vR de]) s₁ m #[(.ref a1), (.int (1 : Int32))] 4 := fun t k => k110 t (st111 t k)
  have k113 : Rt p e below T111 (mkF m 45 #[sr a1, si 1, si 0, un] []) s₁ m #[(.ref a1), (.int (1 : Int32))] 4 := fun t k => k112 t (by
    show Sp p e below T111 (mkF m 17 #[sr a1, si 1, si 0, un] [vR de, vR de]) _
    refine Jvm.RoadKit.acmp X111 hx rfl (x := (.ref de)) (y := (.ref de)) rfl rfl (same := true) (pc0 := 17) (pc' := 45) rfl (H 9 rfl) rfl (decide_eq_true rfl) (by decide) (by decide) ?_
    exact k)
  have k114 := f_alN X111 hx k113 (H 10 rfl) rfl
  have k115 := f_bp X111 hx k114 (H 11 rfl) (v := 10) rfl
  have k116 := f_ilN X111 hx k115 (H 12 rfl) rfl
  obtain ⟨_, T117, L117, X117, hQ117, k117⟩ := c_S (W := 1) X111 hx hZ hown (hww 343 rfl) (hww 270 rfl) (hww 271 rfl) (hww 272 rfl) (by decide) (mmax l Z a0 hw [] (10 : Int32) (1 : Int32) h0 n0 Z0 ) e111 (argsL := [(.int (10 : Int32)), (.int (1 : Int32))]) (rest := [(.ref a1)]) rfl (by rw [hml]; rfl) k116 rfl (H 13 rfl) (lenOf pd__28II_29I rfl) (b5 rfl)
  obtain ⟨h117, e117⟩ : ∃ h', T117.heap = h' := ⟨_, rfl⟩
  rw [e117] at hQ117
  obtain ⟨j117, rfl, N117q, hh117, P117_0⟩ := hQ117
  have N118 := Fr.app N0 N117q
  have ee117 : T117.heap = h0 := e117.trans hh117
  have k119 : Rt p e below T117 (mkF m 52 #[sr a1, si 1, si 0, un] [vI 10, vR a1]) s₁ m #[(.ref a1), (.int (1 : Int32))] 4 := fun t q => k117 t (castTop (by rw [show j117 = (10 : Int32) from (P117_0.trans (by decide))] <;> rfl) q)
  obtain ⟨T120, h120, k120, X120, e120, E120, A120, O120, st120⟩ := newR X117 hx hZ hown (hww 344 rfl) (hww 345 rfl) ee117 (g := (mkF m 52 #[sr a1, si 1, si 0, un] [vI 10, vR a1])) rfl (H 14 rfl) rfl (by decide) (cap := 10) (by decide) (by decide) (by decide) (by decide)
  obtain ⟨b120, g120⟩ : ∃ z, z = h0.size := ⟨_, rfl⟩
  rw [← g120] at A120 st120
  have g121 : n0 ≤ b120 := Nat.le_trans Z0 (Nat.le_of_eq g120.symm)
  have z122 : h0.size ≤ b120 := Nat.le_trans K0.1 (Nat.le_of_eq g120.symm)
  have F123 := Fk0.ext E120
  have F124 := O0.ext E120
  have Z125 : n0 ≤ h120.size := Nat.le_trans Z0 E120.1
  have K126 := K0.ext E120
  have V127 : Arv Z h120 b120 k120 (.object "java/lang/Object") (10 : Int32) [.null, .null, .null, .null, .null, .null, .null, .null, .null, .null] .null := (Arv.new A120 (by decide)).pad (pad_rep [] .null 10)
  have k128 : Rt p e below T120 (mkF m 55 #[sr a1, si 1, si 0, un] [vR b120, vR a1]) s₁ m #[(.ref a1), (.int (1 : Int32))] 4 := fun t k => k119 t (st120 t k)
  have k129 := f_dupX1 X120 hx k128 (H 15 rfl) rfl rfl
  obtain ⟨T130, h130, L130, X130, e130, W130, B130, N130, Z130, k130⟩ := f_pF X120 hx hZ hown (hww 24 rfl) Via.refl e120 F123 (snLS hw) (Or.inl (hww 25 rfl)) (hww 1 rfl) 1 (by decide) rfl rfl (ty := (.array (.object "java/lang/Object"))) (by decide) rfl rfl N118 ge_a1 Z125 k129 (H 16 rfl) rfl
  have F131 := F124.wr W130 ge_a1
  have F132 := V127.other W130 (nG Fk0.lt (Nat.le_of_eq g120.symm))
  have K133 := kw K126 W130 0 rfl
  exact fin_r X130 hx (w := (.ref b120)) hrt hlk rfl (Or.inr (Or.inr (Or.inr (Or.inr ⟨rfl, rfl, rfl⟩)))) k130 (H 17 rfl) (by rw [e130]; exact ⟨b120, k120, rfl, N130, K133, z122, B130, F132, O120⟩) (by decide) (by decide)
theorem ef_47_R (m : MethodId) (x0 : Addr) : entryFrame m #[(.ref x0)] 1 = mkF m 0 #[.val (.ref x0)] [] := by first | (simp [entryFrame, mkF, argsToLocals, Value.category]; done) | rfl
theorem pd__28I_29_5bLjava_2flang_2fObject_3b : parseMethodDescriptor "(I)[Ljava/lang/Object;" = some ⟨[.int], some (.array (.object "java/lang/Object"))⟩ := by decide +kernel
def Q_grw0 (Z : State) (a1 de : Addr) (kd : ClassId) (mc : Int32) (h0 : Heap) (n0 : Nat) (v : Option Value) (h : Heap) (L : List Loc) : Prop := ∃ (ea : Addr) (ka : ClassId), v = some (.ref ea) ∧ Fr n0 L ∧ Keep h0 h [a1] ∧ h0.size ≤ ea ∧ OBJ Z h a1 "java/util/ArrayList" lyLS [(.int mc), (.ref ea), zI] ∧ Arv Z h ea ka (.object "java/lang/Object") (10 : Int32) [.null, .null, .null, .null, .null, .null, .null, .null, .null, .null] .null ∧ (Ovr Z ka "java/lang/Object")
theorem grw0 (l : Launch) (Z : State) (a0 : Array Value) (hw : HW Z a0) (ws : List Jvm.Cond) (a1 de : Addr) (kd : ClassId) (mc : Int32) (h0 : Heap) (n0 : Nat) (Z0 : n0 ≤ h0.size) (Fk0 : OBJ Z h0 a1 "java/util/ArrayList" lyLS [(.int mc), (.ref de), zI]) (ge_a1 : n0 ≤ a1) (Sde : Sta Z Z.heap "java/util/ArrayList" "DEFAULTCAPACITY_EMPTY_ELEMENTDATA" "[Ljava/lang/Object;" (.ref de)) (Vde : Arv Z Z.heap de kd (.object "java/lang/Object") (0 : Int32) [] .null) (O0 : Old Z n0 h0) :
    Met l mn22 jdk_38_method_7_code 1 (some (.array (.object "java/lang/Object"))) ws (rm 2 1 10 29) #[(.ref a1)] Z h0 (Q_grw0 Z a1 de kd mc h0 n0) := by
  refine Met.intro (plainFor_of_name pn_java_2futil_2fArrayList) ?_
  intro p e s m below meth c s₁ hx hby hml hZ hown hnm hrt hlk X0 e0
  have N0 := Fr.nil n0
  have hww := @hvw _ _ hw
  have k0 := k_e (p := p) (e := e) (below := below) (s := s₁) (ef_47_R m a1)
  have K0 := Keep.refl h0 [a1]
  have H := @dch _ _ _ hby D47
  have k101 := f_alN X0 hx k0 (H 0 rfl) rfl
  have k102 := f_alN X0 hx k101 (H 1 rfl) rfl
  obtain ⟨T103, X103, e103, k104⟩ := gFs X0 hx hZ hown (hww 160 rfl) e0 (Fk0.g 2 (v := zI) (by decide) rfl rfl) k102 (H 2 rfl)
  have k105 := f_ic X103 hx k104 (H 3 rfl) (v := 1) rfl
  have k106 := f_iadd X103 hx k105 (H 4 rfl) (r := 1) (by decide)
  obtain ⟨_, T107, L107, X107, hQ107, k107⟩ := c_P (W := 0) X103 hx hZ hown (hww 338 rfl) (hww 339 rfl) (mvT hZ (hww 341 rfl)) (Cond.privateMethod_at (mvP hZ (hww 340 rfl) (args := #[]))) (hww 342 rfl) (hww 2 rfl) (by decide) Fk0.1 (grw1 l Z a0 hw [] a1 de kd mc h0 n0 Z0 Fk0 ge_a1 Sde Vde O0) e103 (argsL := [(.int (1 : Int32))]) (rest := []) rfl (by rw [hml]; rfl) k106 rfl (H 5 rfl) (lenOf pd__28I_29_5bLjava_2flang_2fObject_3b rfl) (b5 rfl)
  obtain ⟨h107, e107⟩ : ∃ h', T107.heap = h' := ⟨_, rfl⟩
  rw [e107] at hQ107
  obtain ⟨ea107, ka107, rfl, N107q, K107, Zx107_0, R107_0, R107_1, P107_0⟩ := hQ107
  have N108 := Fr.app N0 N107q
  have F109 := O0.keep K107 (allS ge_a1 all0)
  have Z110 : n0 ≤ h107.size := Nat.le_trans Z0 K107.1
  have K111 := Keep.trans K0 K107 (allS (oL 0 rfl) all0)
  exact fin_r X107 hx (w := (.ref ea107)) hrt hlk rfl (Or.inr (Or.inr (Or.inr (Or.inr ⟨rfl, rfl, rfl⟩)))) k107 (H 6 rfl) (by rw [e107]; exact ⟨ea107, ka107, rfl, N108, K111, (Nat.le_trans K0.1 Zx107_0), R107_0, R107_1, P107_0⟩) (by decide) (by decide)
theorem ef_46_RRRI (m : MethodId) (x0 : Addr) (x1 : Addr) (x2 : Addr) (x3 : Int32) : entryFrame m #[(.ref x0), (.ref x1), (.ref x2), (.int x3)] 4 = mkF m 0 #[.val (.ref x0), .val (.ref x1), .val (.ref x2), .val (.int x3)] [] := by first | (simp [entryFrame, mkF, argsToLocals, Value.category]; done) | rfl
theorem pd__28_29_5bLjava_2flang_2fObject_3b : parseMethodDescriptor "()[Ljava/lang/Object;" = some ⟨[], some (.array (.object "java/lang/Object"))⟩ := by decide +kernel
def Q_add0p (Z : State) (a1 d1 : Addr) (mc : Int32) (de : Addr) (kd : ClassId) (h0 : Heap) (n0 : Nat) (v : Option Value) (h : Heap) (L : List Loc) : Prop := ∃ (ea : Addr) (ka : ClassId), v = none ∧ Fr n0 L ∧ Keep h0 h [a1] ∧ h0.size ≤ ea ∧ OBJ Z h a1 "java/util/ArrayList" lyLS [(.int mc), (.ref ea), (.int (1 : Int32))] ∧ Arv Z h ea ka (.object "java/lang/Object") (10 : Int32) [(.ref d1), .null, .null, .null, .null, .null, .null, .null, .null, .null] .null ∧ (Ovr Z ka "java/lang/Object")
theorem add0p (l : Launch) (Z : State) (a0 : Array Value) (hw : HW Z a0) (ws : List Jvm.Cond) (a1 d1 : Addr) (mc : Int32) (de : Addr) (kd : ClassId) (h0 : Heap) (n0 : Nat) (Z0 : n0 ≤ h0.size) (Fk0 : OBJ Z h0 a1 "java/util/ArrayList" lyLS [(.int mc), (.ref de), zI]) (Fk1 : Exa Z h0 d1 "com/example/multinomial/multinomial/search/ScoredDocument") (ge_a1 : n0 ≤ a1) (ne_d1_a1 : d1 ≠ a1) (Sde : Sta Z Z.heap "java/util/ArrayList" "DEFAULTCAPACITY_EMPTY_ELEMENTDATA" "[Ljava/lang/Object;" (.ref de)) (Vde : Arv Z Z.heap de kd (.object "java/lang/Object") (0 : Int32) [] .null) (O0 : Old Z n0 h0) :
    Met l mn23 jdk_38_method_24_code 4 none ws (rm 3 1 10 41) #[(.ref a1), (.ref d1), (.ref de), zI] Z h0 (Q_add0p Z a1 d1 mc de kd h0 n0) := by
  refine Met.intro (plainFor_of_name pn_java_2futil_2fArrayList) ?_
  intro p e s m below meth c s₁ hx hby hml hZ hown hnm hrt hlk X0 e0
  have N0 := Fr.nil n0
  have hww := @hvw _ _ hw
  have k0 := k_e (p := p) (e := e) (below := below) (s := s₁) (ef_46_RRRI m a1 d1 de (0 : Int32))
  have K0 := Keep.refl h0 [a1]
  have H := @dch _ _ _ hby D46
  have k101 := f_ilN X0 hx k0 (H 0 rfl) rfl
  have k102 := f_alN X0 hx k101 (H 1 rfl) rfl
  have k103 := f_len X0 hx hZ e0 (Vde.ext O0.2) k102 (H 2 rfl)
  have k104 := f_icN X0 hx k103 (H 3 rfl) (teq (by decide)).2
  have k105 := f_alN X0 hx k104 (H 4 rfl) rfl
  obtain ⟨_, T106, L106, X106, hQ106, k106⟩ := c_P (W := 0) X0 hx hZ hown (hww 333 rfl) (hww 334 rfl) (mvT hZ (hww 336 rfl)) (Cond.privateMethod_at (mvP hZ (hww 335 rfl) (args := #[]))) (hww 337 rfl) (hww 2 rfl) (by decide) Fk0.1 (grw0 l Z a0 hw [] a1 de kd mc h0 n0 Z0 Fk0 ge_a1 Sde Vde O0) e0 (argsL := []) (rest := []) rfl (by rw [hml]; rfl) k105 rfl (H 5 rfl) (lenOf pd__28_29_5bLjava_2flang_2fObject_3b rfl) (b5 rfl)
  obtain ⟨h106, e106⟩ : ∃ h', T106.heap = h' := ⟨_, rfl⟩
  rw [e106] at hQ106
  obtain ⟨ea106, ka106, rfl, N106q, K106, Zx106_0, R106_0, R106_1, P106_0⟩ := hQ106
  have N107 := Fr.app N0 N106q
  have F108 := O0.keep K106 (allS ge_a1 all0)
  have Z109 : n0 ≤ h106.size := Nat.le_trans Z0 K106.1
  have K110 := Keep.trans K0 K106 (allS (oL 0 rfl) all0)
  have k111 := f_asN X106 hx k106 (H 6 rfl) (l' := #[sr a1, sr d1, sr ea106, si 0]) rfl
  have k112 := f_alN X106 hx k111 (H 7 rfl) rfl
  have k113 := f_ilN X106 hx k112 (H 8 rfl) rfl
  have k114 := f_alN X106 hx k113 (H 9 rfl) rfl
  obtain ⟨T115, h115, L115, X115, e115, W115, V115, N115, Z115, k115⟩ := f_ast X106 hx hZ e106 R106_1 N107 (Nat.le_trans Z0 Zx106_0) Z109 k114 (H 10 rfl) rfl rfl (fun cc A q => Sto.ofV A q P106_0 (Ins.of_exa (Fk1.keep K110) (hww 346 rfl))) (by decide) 0 rfl (lt_b rfl)
  have F116 := F108.wr W115 (Nat.le_trans Z0 Zx106_0)
  have K117 := K110.wr W115 (Or.inr (Nat.le_trans K0.1 Zx106_0))
  have B118 := R106_0.other W115 (nL Fk0.lt Zx106_0)
  have k119 := f_alN X115 hx k115 (H 11 rfl) rfl
  have k120 := f_ilN X115 hx k119 (H 12 rfl) rfl
  have k121 := f_ic X115 hx k120 (H 13 rfl) (v := 1) rfl
  have k122 := f_iadd X115 hx k121 (H 14 rfl) (r := 1) (by decide)
  obtain ⟨T123, h123, L123, X123, e123, W123, B123, N123, Z123, k123⟩ := f_pF X115 hx hZ hown (hww 160 rfl) Via.refl e115 B118 (snLS hw) (Or.inl (hww 161 rfl)) (hww 1 rfl) 2 (by decide) rfl rfl (ty := .int) (by decide) rfl rfl N115 ge_a1 Z115 k122 (H 15 rfl) rfl
  have F124 := F116.wr W123 ge_a1
  have F125 := V115.other W123 (nG Fk0.lt Zx106_0)
  have K126 := kw K117 W123 0 rfl
  exact fin_v X123 hx hrt hlk k123 (H 16 rfl) (by rw [e123]; exact ⟨ea106, ka106, rfl, N123, K126, (Nat.le_trans K0.1 Zx106_0), B123, F125, P106_0⟩) (by decide) (by decide)
theorem ef_45_RR (m : MethodId) (x0 : Addr) (x1 : Addr) : entryFrame m #[(.ref x0), (.ref x1)] 2 = mkF m 0 #[.val (.ref x0), .val (.ref x1)] [] := by first | (simp [entryFrame, mkF, argsToLocals, Value.category]; done) | rfl
theorem pd__28Ljava_2flang_2fObject_3b_5bLjava_2flang_2fObject_3bI_29V : parseMethodDescriptor "(Ljava/lang/Object;[Ljava/lang/Object;I)V" = some ⟨[(.object "java/lang/Object"), (.array (.object "java/lang/Object")), .int], none⟩ := by decide +kernel
def Q_add0f (Z : State) (a1 d1 : Addr) (mc : Int32) (de : Addr) (kd : ClassId) (h0 : Heap) (n0 : Nat) (v : Option Value) (h : Heap) (L : List Loc) : Prop := ∃ (ea : Addr) (ka : ClassId), v = some (.int (1 : Int32)) ∧ Fr n0 L ∧ Keep h0 h [a1] ∧ h0.size ≤ ea ∧ OBJ Z h a1 "java/util/ArrayList" lyLS [(.int (mc + (1 : Int32))), (.ref ea), (.int (1 : Int32))] ∧ Arv Z h ea ka (.object "java/lang/Object") (10 : Int32) [(.ref d1), .null, .null, .null, .null, .null, .null, .null, .null, .null] .null ∧ (Ovr Z ka "java/lang/Object")
theorem add0f (l : Launch) (Z : State) (a0 : Array Value) (hw : HW Z a0) (ws : List Jvm.Cond) (a1 d1 : Addr) (mc : Int32) (de : Addr) (kd : ClassId) (h0 : Heap) (n0 : Nat) (Z0 : n0 ≤ h0.size) (Fk0 : OBJ Z h0 a1 "java/util/ArrayList" lyLS [(.int mc), (.ref de), zI]) (Fk1 : Exa Z h0 d1 "com/example/multinomial/multinomial/search/ScoredDocument") (ge_a1 : n0 ≤ a1) (ne_d1_a1 : d1 ≠ a1) (Sde : Sta Z Z.heap "java/util/ArrayList" "DEFAULTCAPACITY_EMPTY_ELEMENTDATA" "[Ljava/lang/Object;" (.ref de)) (Vde : Arv Z Z.heap de kd (.object "java/lang/Object") (0 : Int32) [] .null) (O0 : Old Z n0 h0) :
    Met l mn24 jdk_38_method_25_code 2 (some .boolean) ws (rm 4 1 10 56) #[(.ref a1), (.ref d1)] Z h0 (Q_add0f Z a1 d1 mc de kd h0 n0) := by
  refine Met.intro (plainFor_of_name pn_java_2futil_2fArrayList) ?_
  intro p e s m below meth c s₁ hx hby hml hZ hown hnm hrt hlk X0 e0
  have N0 := Fr.nil n0
  have hww := @hvw _ _ hw
  have k0 := k_e (p := p) (e := e) (below := below) (s := s₁) (ef_45_RR m a1 d1)
  have K0 := Keep.refl h0 [a1]
  have H := @dch _ _ _ hby D45
  have k101 := f_alN X0 hx k0 (H 0 rfl) rfl
  have k102 := f_dup X0 hx k101 (H 1 rfl) rfl
  obtain ⟨T103, X103, e103, st103⟩ := getF X0 hx hZ hown (host := "") (Or.inl (hww 326 rfl)) (Via.of (hww 327 rfl)) e0 (Fk0.g 0 (v := (.int mc)) (by decide) rfl rfl) (g := (mkF m 2 #[sr a1, sr d1] [vR a1, vR a1])) rfl rfl (H 2 rfl)
  have k104 : Rt p e below T103 (mkF m 5 #[sr a1, sr d1] [vI mc, vR a1]) s₁ m #[(.ref a1), (.ref d1)] 2 := fun t k => k102 t (st103 t k)
  have k105 := f_ic X103 hx k104 (H 3 rfl) (v := 1) rfl
  have k106 := f_iadd X103 hx k105 (H 4 rfl) rfl
  obtain ⟨T107, h107, L107, X107, e107, W107, B107, N107, Z107, k107⟩ := f_pF X103 hx hZ hown (hww 326 rfl) (Via.of (hww 327 rfl)) e103 Fk0 (snLS hw) (Or.inl (hww 22 rfl)) (hww 1 rfl) 0 (by decide) rfl rfl (ty := .int) (by decide) rfl rfl N0 ge_a1 Z0 k106 (H 5 rfl) rfl
  have F108 := O0.wr W107 ge_a1
  have K109 := kw K0 W107 0 rfl
  have k110 := f_alN X107 hx k107 (H 6 rfl) rfl
  have k111 := f_alN X107 hx k110 (H 7 rfl) rfl
  have k112 := f_alN X107 hx k111 (H 8 rfl) rfl
  obtain ⟨T113, X113, e113, k114⟩ := gFs X107 hx hZ hown (hww 24 rfl) e107 (B107.g 1 (v := (.ref de)) (by decide) rfl rfl) k112 (H 9 rfl)
  have k115 := f_alN X113 hx k114 (H 10 rfl) rfl
  obtain ⟨T116, X116, e116, k117⟩ := gFs X113 hx hZ hown (hww 160 rfl) e113 (B107.g 2 (v := zI) (by decide) rfl rfl) k115 (H 11 rfl)
  obtain ⟨_, T118, L118, X118, hQ118, k118⟩ := c_P (W := 0) X116 hx hZ hown (hww 328 rfl) (hww 329 rfl) (mvT hZ (hww 331 rfl)) (Cond.privateMethod_at (mvP hZ (hww 330 rfl) (args := #[]))) (hww 332 rfl) (hww 2 rfl) (by decide) B107.1 (add0p l Z a0 hw [] a1 d1 (mc + (1 : Int32)) de kd h107 n0 Z107 B107 (Fk1.keep K109) ge_a1 ne_d1_a1 Sde Vde F108) e116 (argsL := [(.ref d1), (.ref de), zI]) (rest := []) rfl (by rw [hml]; rfl) k117 rfl (H 12 rfl) (lenOf pd__28Ljava_2flang_2fObject_3b_5bLjava_2flang_2fObject_3bI_29V rfl) (b5 rfl)
  obtain ⟨h118, e118⟩ : ∃ h', T118.heap = h' := ⟨_, rfl⟩
  rw [e118] at hQ118
  obtain ⟨ea118, ka118, rfl, N118q, K118, Zx118_0, R118_0, R118_1, P118_0⟩ := hQ118
  have N119 := Fr.app N107 N118q
  have F120 := F108.keep K118 (allS ge_a1 all0)
  have Z121 : n0 ≤ h118.size := Nat.le_trans Z107 K118.1
  have K122 := Keep.trans K109 K118 (allS (oL 0 rfl) all0)
  have k123 := f_ic X118 hx k118 (H 13 rfl) (v := 1) rfl
  exact fin_r X118 hx (w := (.int (1 : Int32))) hrt hlk rfl (Or.inl ⟨rfl, Or.inr (Or.inl rfl), _, rfl⟩) k123 (H 14 rfl) (by rw [e118]; exact ⟨ea118, ka118, rfl, N119, K122, (Nat.le_trans K109.1 Zx118_0), R118_0, R118_1, P118_0⟩) (by decide) (by decide)
def Q_add1p (Z : State) (a1 d1 : Addr) (mc : Int32) (ed0 ea : Addr) (ka : ClassId) (h0 : Heap) (n0 : Nat) (v : Option Value) (h : Heap) (L : List Loc) : Prop := v = none ∧ Fr n0 L ∧ Keep h0 h [a1, ea] ∧ OBJ Z h a1 "java/util/ArrayList" lyLS [(.int mc), (.ref ea), (.int (2 : Int32))] ∧ Arv Z h ea ka (.object "java/lang/Object") (10 : Int32) [(.ref ed0), (.ref d1), .null, .null, .null, .null, .null, .null, .null, .null] .null
theorem add1p (l : Launch) (Z : State) (a0 : Array Value) (hw : HW Z a0) (ws : List Jvm.Cond) (a1 d1 : Addr) (mc : Int32) (ed0 ea : Addr) (ka : ClassId) (h0 : Heap) (n0 : Nat) (Z0 : n0 ≤ h0.size) (Fk0 : OBJ Z h0 a1 "java/util/ArrayList" lyLS [(.int mc), (.ref ea), (.int (1 : Int32))]) (Fk1 : Exa Z h0 d1 "com/example/multinomial/multinomial/search/ScoredDocument") (Fk2 : Arv Z h0 ea ka (.object "java/lang/Object") (10 : Int32) [(.ref ed0), .null, .null, .null, .null, .null, .null, .null, .null, .null] .null) (ge_a1 : n0 ≤ a1) (ge_ea : n0 ≤ ea) (ne_d1_a1 : d1 ≠ a1) (ne_a1_ea : a1 ≠ ea) (ne_d1_ea : d1 ≠ ea) (Ov : Ovr Z ka "java/lang/Object") :
    Met l mn23 jdk_38_method_24_code 4 none ws (rm 0 0 0 0) #[(.ref a1), (.ref d1), (.ref ea), (.int (1 : Int32))] Z h0 (Q_add1p Z a1 d1 mc ed0 ea ka h0 n0) := by
  refine Met.intro (plainFor_of_name pn_java_2futil_2fArrayList) ?_
  intro p e s m below meth c s₁ hx hby hml hZ hown hnm hrt hlk X0 e0
  have N0 := Fr.nil n0
  have hww := @hvw _ _ hw
  have k0 := k_e (p := p) (e := e) (below := below) (s := s₁) (ef_46_RRRI m a1 d1 ea (1 : Int32))
  have K0 := Keep.refl h0 [a1, ea]
  have H := @dch _ _ _ hby D46
  have k101 := f_ilN X0 hx k0 (H 0 rfl) rfl
  have k102 := f_alN X0 hx k101 (H 1 rfl) rfl
  have k103 := f_len X0 hx hZ e0 Fk2 k102 (H 2 rfl)
  have k104 := f_icY X0 hx k103 (H 3 rfl) (pc' := 11) (feq (by decide)).2 (by decide)
  have k105 := f_alN X0 hx k104 (H 7 rfl) rfl
  have k106 := f_ilN X0 hx k105 (H 8 rfl) rfl
  have k107 := f_alN X0 hx k106 (H 9 rfl) rfl
  obtain ⟨T108, h108, L108, X108, e108, W108, V108, N108, Z108, k108⟩ := f_ast X0 hx hZ e0 Fk2 N0 ge_ea Z0 k107 (H 10 rfl) rfl rfl (fun cc A q => Sto.ofV A q Ov (Ins.of_exa Fk1 (hww 346 rfl))) (by decide) 1 rfl (lt_b rfl)
  have K109 := kw K0 W108 1 rfl
  have B110 := Fk0.other W108 ne_a1_ea
  have k111 := f_alN X108 hx k108 (H 11 rfl) rfl
  have k112 := f_ilN X108 hx k111 (H 12 rfl) rfl
  have k113 := f_ic X108 hx k112 (H 13 rfl) (v := 1) rfl
  have k114 := f_iadd X108 hx k113 (H 14 rfl) (r := 2) (by decide)
  obtain ⟨T115, h115, L115, X115, e115, W115, B115, N115, Z115, k115⟩ := f_pF X108 hx hZ hown (hww 160 rfl) Via.refl e108 B110 (snLS hw) (Or.inl (hww 161 rfl)) (hww 1 rfl) 2 (by decide) rfl rfl (ty := .int) (by decide) rfl rfl N108 ge_a1 Z108 k114 (H 15 rfl) rfl
  have F116 := V108.other W115 (Ne.symm ne_a1_ea)
  have K117 := kw K109 W115 0 rfl
  exact fin_v X115 hx hrt hlk k115 (H 16 rfl) (by rw [e115]; exact ⟨rfl, N115, K117, B115, F116⟩) (by decide) (by decide)
def Q_add1f (Z : State) (a1 d1 : Addr) (mc : Int32) (ed0 ea : Addr) (ka : ClassId) (h0 : Heap) (n0 : Nat) (v : Option Value) (h : Heap) (L : List Loc) : Prop := v = some (.int (1 : Int32)) ∧ Fr n0 L ∧ Keep h0 h [a1, ea] ∧ OBJ Z h a1 "java/util/ArrayList" lyLS [(.int (mc + (1 : Int32))), (.ref ea), (.int (2 : Int32))] ∧ Arv Z h ea ka (.object "java/lang/Object") (10 : Int32) [(.ref ed0), (.ref d1), .null, .null, .null, .null, .null, .null, .null, .null] .null
theorem add1f (l : Launch) (Z : State) (a0 : Array Value) (hw : HW Z a0) (ws : List Jvm.Cond) (a1 d1 : Addr) (mc : Int32) (ed0 ea : Addr) (ka : ClassId) (h0 : Heap) (n0 : Nat) (Z0 : n0 ≤ h0.size) (Fk0 : OBJ Z h0 a1 "java/util/ArrayList" lyLS [(.int mc), (.ref ea), (.int (1 : Int32))]) (Fk1 : Exa Z h0 d1 "com/example/multinomial/multinomial/search/ScoredDocument") (Fk2 : Arv Z h0 ea ka (.object "java/lang/Object") (10 : Int32) [(.ref ed0), .null, .null, .null, .null, .null, .null, .null, .null, .null] .null) (ge_a1 : n0 ≤ a1) (ge_ea : n0 ≤ ea) (ne_d1_a1 : d1 ≠ a1) (ne_a1_ea : a1 ≠ ea) (ne_d1_ea : d1 ≠ ea) (Ov : Ovr Z ka "java/lang/Object") :
    Met l mn24 jdk_38_method_25_code 2 (some .boolean) ws (rm 1 0 0 15) #[(.ref a1), (.ref d1)] Z h0 (Q_add1f Z a1 d1 mc ed0 ea ka h0 n0) := by
  refine Met.intro (plainFor_of_name pn_java_2futil_2fArrayList) ?_
  intro p e s m below meth c s₁ hx hby hml hZ hown hnm hrt hlk X0 e0
  have N0 := Fr.nil n0
  have hww := @hvw _ _ hw
  have k0 := k_e (p := p) (e := e) (below := below) (s := s₁) (ef_45_RR m a1 d1)
  have K0 := Keep.refl h0 [a1, ea]
  have H := @dch _ _ _ hby D45
  have k101 := f_alN X0 hx k0 (H 0 rfl) rfl
  have k102 := f_dup X0 hx k101 (H 1 rfl) rfl
  obtain ⟨T103, X103, e103, st103⟩ := getF X0 hx hZ hown (host := "") (Or.inl (hww 326 rfl)) (Via.of (hww 327 rfl)) e0 (Fk0.g 0 (v := (.int mc)) (by decide) rfl rfl) (g := (mkF m 2 #[sr a1, sr d1] [vR a1, vR a1])) rfl rfl (H 2 rfl)
  have k104 : Rt p e below T103 (mkF m 5 #[sr a1, sr d1] [vI mc, vR a1]) s₁ m #[(.ref a1), (.ref d1)] 2 := fun t k => k102 t (st103 t k)
  have k105 := f_ic X103 hx k104 (H 3 rfl) (v := 1) rfl
  have k106 := f_iadd X103 hx k105 (H 4 rfl) rfl
  obtain ⟨T107, h107, L107, X107, e107, W107, B107, N107, Z107, k107⟩ := f_pF X103 hx hZ hown (hww 326 rfl) (Via.of (hww 327 rfl)) e103 Fk0 (snLS hw) (Or.inl (hww 22 rfl)) (hww 1 rfl) 0 (by decide) rfl rfl (ty := .int) (by decide) rfl rfl N0 ge_a1 Z0 k106 (H 5 rfl) rfl
  have F108 := Fk2.other W107 (Ne.symm ne_a1_ea)
  have K109 := kw K0 W107 0 rfl
  have k110 := f_alN X107 hx k107 (H 6 rfl) rfl
  have k111 := f_alN X107 hx k110 (H 7 rfl) rfl
  have k112 := f_alN X107 hx k111 (H 8 rfl) rfl
  obtain ⟨T113, X113, e113, k114⟩ := gFs X107 hx hZ hown (hww 24 rfl) e107 (B107.g 1 (v := (.ref ea)) (by decide) rfl rfl) k112 (H 9 rfl)
  have k115 := f_alN X113 hx k114 (H 10 rfl) rfl
  obtain ⟨T116, X116, e116, k117⟩ := gFs X113 hx hZ hown (hww 160 rfl) e113 (B107.g 2 (v := (.int (1 : Int32))) (by decide) rfl rfl) k115 (H 11 rfl)
  obtain ⟨_, T118, L118, X118, hQ118, k118⟩ := c_P (W := 0) X116 hx hZ hown (hww 328 rfl) (hww 329 rfl) (mvT hZ (hww 331 rfl)) (Cond.privateMethod_at (mvP hZ (hww 330 rfl) (args := #[]))) (hww 332 rfl) (hww 2 rfl) (by decide) B107.1 (add1p l Z a0 hw [] a1 d1 (mc + (1 : Int32)) ed0 ea ka h107 n0 Z107 B107 (Fk1.keep K109) F108 ge_a1 ge_ea ne_d1_a1 ne_a1_ea ne_d1_ea Ov) e116 (argsL := [(.ref d1), (.ref ea), (.int (1 : Int32))]) (rest := []) rfl (by rw [hml]; rfl) k117 rfl (H 12 rfl) (lenOf pd__28Ljava_2flang_2fObject_3b_5bLjava_2flang_2fObject_3bI_29V rfl) (b5 rfl)
  obtain ⟨h118, e118⟩ : ∃ h', T118.heap = h' := ⟨_, rfl⟩
  rw [e118] at hQ118
  obtain ⟨rfl, N118q, K118, R118_0, R118_1⟩ := hQ118
  have N119 := Fr.app N107 N118q
  have Z120 : n0 ≤ h118.size := Nat.le_trans Z107 K118.1
  have K121 := Keep.trans K109 K118 (allS (oL 0 rfl) (allS (oL 1 rfl) all0))
  have k122 := f_ic X118 hx k118 (H 13 rfl) (v := 1) rfl
  exact fin_r X118 hx (w := (.int (1 : Int32))) hrt hlk rfl (Or.inl ⟨rfl, Or.inr (Or.inl rfl), _, rfl⟩) k122 (H 14 rfl) (by rw [e118]; exact ⟨rfl, N119, K121, R118_0, R118_1⟩) (by decide) (by decide)
def Q_add2p (Z : State) (a1 d1 : Addr) (mc : Int32) (ed0 ed1 ea : Addr) (ka : ClassId) (h0 : Heap) (n0 : Nat) (v : Option Value) (h : Heap) (L : List Loc) : Prop := v = none ∧ Fr n0 L ∧ Keep h0 h [a1, ea] ∧ OBJ Z h a1 "java/util/ArrayList" lyLS [(.int mc), (.ref ea), (.int (3 : Int32))] ∧ Arv Z h ea ka (.object "java/lang/Object") (10 : Int32) [(.ref ed0), (.ref ed1), (.ref d1), .null, .null, .null, .null, .null, .null, .null] .null
theorem add2p (l : Launch) (Z : State) (a0 : Array Value) (hw : HW Z a0) (ws : List Jvm.Cond) (a1 d1 : Addr) (mc : Int32) (ed0 ed1 ea : Addr) (ka : ClassId) (h0 : Heap) (n0 : Nat) (Z0 : n0 ≤ h0.size) (Fk0 : OBJ Z h0 a1 "java/util/ArrayList" lyLS [(.int mc), (.ref ea), (.int (2 : Int32))]) (Fk1 : Exa Z h0 d1 "com/example/multinomial/multinomial/search/ScoredDocument") (Fk2 : Arv Z h0 ea ka (.object "java/lang/Object") (10 : Int32) [(.ref ed0), (.ref ed1), .null, .null, .null, .null, .null, .null, .null, .null] .null) (ge_a1 : n0 ≤ a1) (ge_ea : n0 ≤ ea) (ne_d1_a1 : d1 ≠ a1) (ne_a1_ea : a1 ≠ ea) (ne_d1_ea : d1 ≠ ea) (Ov : Ovr Z ka "java/lang/Object") :
    Met l mn23 jdk_38_method_24_code 4 none ws (rm 0 0 0 0) #[(.ref a1), (.ref d1), (.ref ea), (.int (2 : Int32))] Z h0 (Q_add2p Z a1 d1 mc ed0 ed1 ea ka h0 n0) := by
  refine Met.intro (plainFor_of_name pn_java_2futil_2fArrayList) ?_
  intro p e s m below meth c s₁ hx hby hml hZ hown hnm hrt hlk X0 e0
  have N0 := Fr.nil n0
  have hww := @hvw _ _ hw
  have k0 := k_e (p := p) (e := e) (below := below) (s := s₁) (ef_46_RRRI m a1 d1 ea (2 : Int32))
  have K0 := Keep.refl h0 [a1, ea]
  have H := @dch _ _ _ hby D46
  have k101 := f_ilN X0 hx k0 (H 0 rfl) rfl
  have k102 := f_alN X0 hx k101 (H 1 rfl) rfl
  have k103 := f_len X0 hx hZ e0 Fk2 k102 (H 2 rfl)
  have k104 := f_icY X0 hx k103 (H 3 rfl) (pc' := 11) (feq (by decide)).2 (by decide)
  have k105 := f_alN X0 hx k104 (H 7 rfl) rfl
  have k106 := f_ilN X0 hx k105 (H 8 rfl) rfl
  have k107 := f_alN X0 hx k106 (H 9 rfl) rfl
  obtain ⟨T108, h108, L108, X108, e108, W108, V108, N108, Z108, k108⟩ := f_ast X0 hx hZ e0 Fk2 N0 ge_ea Z0 k107 (H 10 rfl) rfl rfl (fun cc A q => Sto.ofV A q Ov (Ins.of_exa Fk1 (hww 346 rfl))) (by decide) 2 rfl (lt_b rfl)
  have K109 := kw K0 W108 1 rfl
  have B110 := Fk0.other W108 ne_a1_ea
  have k111 := f_alN X108 hx k108 (H 11 rfl) rfl
  have k112 := f_ilN X108 hx k111 (H 12 rfl) rfl
  have k113 := f_ic X108 hx k112 (H 13 rfl) (v := 1) rfl
  have k114 := f_iadd X108 hx k113 (H 14 rfl) (r := 3) (by decide)
  obtain ⟨T115, h115, L115, X115, e115, W115, B115, N115, Z115, k115⟩ := f_pF X108 hx hZ hown (hww 160 rfl) Via.refl e108 B110 (snLS hw) (Or.inl (hww 161 rfl)) (hww 1 rfl) 2 (by decide) rfl rfl (ty := .int) (by decide) rfl rfl N108 ge_a1 Z108 k114 (H 15 rfl) rfl
  have F116 := V108.other W115 (Ne.symm ne_a1_ea)
  have K117 := kw K109 W115 0 rfl
  exact fin_v X115 hx hrt hlk k115 (H 16 rfl) (by rw [e115]; exact ⟨rfl, N115, K117, B115, F116⟩) (by decide) (by decide)
def Q_add2f (Z : State) (a1 d1 : Addr) (mc : Int32) (ed0 ed1 ea : Addr) (ka : ClassId) (h0 : Heap) (n0 : Nat) (v : Option Value) (h : Heap) (L : List Loc) : Prop := v = some (.int (1 : Int32)) ∧ Fr n0 L ∧ Keep h0 h [a1, ea] ∧ OBJ Z h a1 "java/util/ArrayList" lyLS [(.int (mc + (1 : Int32))), (.ref ea), (.int (3 : Int32))] ∧ Arv Z h ea ka (.object "java/lang/Object") (10 : Int32) [(.ref ed0), (.ref ed1), (.ref d1), .null, .null, .null, .null, .null, .null, .null] .null
theorem add2f (l : Launch) (Z : State) (a0 : Array Value) (hw : HW Z a0) (ws : List Jvm.Cond) (a1 d1 : Addr) (mc : Int32) (ed0 ed1 ea : Addr) (ka : ClassId) (h0 : Heap) (n0 : Nat) (Z0 : n0 ≤ h0.size) (Fk0 : OBJ Z h0 a1 "java/util/ArrayList" lyLS [(.int mc), (.ref ea), (.int (2 : Int32))]) (Fk1 : Exa Z h0 d1 "com/example/multinomial/multinomial/search/ScoredDocument") (Fk2 : Arv Z h0 ea ka (.object "java/lang/Object") (10 : Int32) [(.ref ed0), (.ref ed1), .null, .null, .null, .null, .null, .null, .null, .null] .null) (ge_a1 : n0 ≤ a1) (ge_ea : n0 ≤ ea) (ne_d1_a1 : d1 ≠ a1) (ne_a1_ea : a1 ≠ ea) (ne_d1_ea : d1 ≠ ea) (Ov : Ovr Z ka "java/lang/Object") :
    Met l mn24 jdk_38_method_25_code 2 (some .boolean) ws (rm 1 0 0 15) #[(.ref a1), (.ref d1)] Z h0 (Q_add2f Z a1 d1 mc ed0 ed1 ea ka h0 n0) := by
  refine Met.intro (plainFor_of_name pn_java_2futil_2fArrayList) ?_
  intro p e s m below meth c s₁ hx hby hml hZ hown hnm hrt hlk X0 e0
  have N0 := Fr.nil n0
  have hww := @hvw _ _ hw
  have k0 := k_e (p := p) (e := e) (below := below) (s := s₁) (ef_45_RR m a1 d1)
  have K0 := Keep.refl h0 [a1, ea]
  have H := @dch _ _ _ hby D45
  have k101 := f_alN X0 hx k0 (H 0 rfl) rfl
  have k102 := f_dup X0 hx k101 (H 1 rfl) rfl
  obtain ⟨T103, X103, e103, st103⟩ := getF X0 hx hZ hown (host := "") (Or.inl (hww 326 rfl)) (Via.of (hww 327 rfl)) e0 (Fk0.g 0 (v := (.int mc)) (by decide) rfl rfl) (g := (mkF m 2 #[sr a1, sr d1] [vR a1, vR a1])) rfl rfl (H 2 rfl)
  have k104 : Rt p e below T103 (mkF m 5 #[sr a1, sr d1] [vI mc, vR a1]) s₁ m #[(.ref a1), (.ref d1)] 2 := fun t k => k102 t (st103 t k)
  have k105 := f_ic X103 hx k104 (H 3 rfl) (v := 1) rfl
  have k106 := f_iadd X103 hx k105 (H 4 rfl) rfl
  obtain ⟨T107, h107, L107, X107, e107, W107, B107, N107, Z107, k107⟩ := f_pF X103 hx hZ hown (hww 326 rfl) (Via.of (hww 327 rfl)) e103 Fk0 (snLS hw) (Or.inl (hww 22 rfl)) (hww 1 rfl) 0 (by decide) rfl rfl (ty := .int) (by decide) rfl rfl N0 ge_a1 Z0 k106 (H 5 rfl) rfl
  have F108 := Fk2.other W107 (Ne.symm ne_a1_ea)
  have K109 := kw K0 W107 0 rfl
  have k110 := f_alN X107 hx k107 (H 6 rfl) rfl
  have k111 := f_alN X107 hx k110 (H 7 rfl) rfl
  have k112 := f_alN X107 hx k111 (H 8 rfl) rfl
  obtain ⟨T113, X113, e113, k114⟩ := gFs X107 hx hZ hown (hww 24 rfl) e107 (B107.g 1 (v := (.ref ea)) (by decide) rfl rfl) k112 (H 9 rfl)
  have k115 := f_alN X113 hx k114 (H 10 rfl) rfl
  obtain ⟨T116, X116, e116, k117⟩ := gFs X113 hx hZ hown (hww 160 rfl) e113 (B107.g 2 (v := (.int (2 : Int32))) (by decide) rfl rfl) k115 (H 11 rfl)
  obtain ⟨_, T118, L118, X118, hQ118, k118⟩ := c_P (W := 0) X116 hx hZ hown (hww 328 rfl) (hww 329 rfl) (mvT hZ (hww 331 rfl)) (Cond.privateMethod_at (mvP hZ (hww 330 rfl) (args := #[]))) (hww 332 rfl) (hww 2 rfl) (by decide) B107.1 (add2p l Z a0 hw [] a1 d1 (mc + (1 : Int32)) ed0 ed1 ea ka h107 n0 Z107 B107 (Fk1.keep K109) F108 ge_a1 ge_ea ne_d1_a1 ne_a1_ea ne_d1_ea Ov) e116 (argsL := [(.ref d1), (.ref ea), (.int (2 : Int32))]) (rest := []) rfl (by rw [hml]; rfl) k117 rfl (H 12 rfl) (lenOf pd__28Ljava_2flang_2fObject_3b_5bLjava_2flang_2fObject_3bI_29V rfl) (b5 rfl)
  obtain ⟨h118, e118⟩ : ∃ h', T118.heap = h' := ⟨_, rfl⟩
  rw [e118] at hQ118
  obtain ⟨rfl, N118q, K118, R118_0, R118_1⟩ := hQ118
  have N119 := Fr.app N107 N118q
  have Z120 : n0 ≤ h118.size := Nat.le_trans Z107 K118.1
  have K121 := Keep.trans K109 K118 (allS (oL 0 rfl) (allS (oL 1 rfl) all0))
  have k122 := f_ic X118 hx k118 (H 13 rfl) (v := 1) rfl
  exact fin_r X118 hx (w := (.int (1 : Int32))) hrt hlk rfl (Or.inl ⟨rfl, Or.inr (Or.inl rfl), _, rfl⟩) k122 (H 14 rfl) (by rw [e118]; exact ⟨rfl, N119, K121, R118_0, R118_1⟩) (by decide) (by decide)
theorem ef_23_R (m : MethodId) (x0 : Addr) : entryFrame m #[(.ref x0)] 1 = mkF m 0 #[.val (.ref x0)] [] := by first | (simp [entryFrame, mkF, argsToLocals, Value.category]; done) | rfl
def Q_asz (Z : State) (a1 : Addr) (p1 : Int32) (h0 : Heap) (n0 : Nat) (v : Option Value) (h : Heap) (L : List Loc) : Prop := v = some (.int p1) ∧ Fr n0 L ∧ h = h0
theorem asz (l : Launch) (Z : State) (a0 : Array Value) (hw : HW Z a0) (ws : List Jvm.Cond) (a1 : Addr) (p1 : Int32) (h0 : Heap) (n0 : Nat) (Z0 : n0 ≤ h0.size) (Fk0 : Fld Z h0 a1 "java/util/ArrayList" "size" "I" (.int p1)) :
    Met l mn25 jdk_38_method_8_code 1 (some .int) ws (rm 0 0 0 0) #[(.ref a1)] Z h0 (Q_asz Z a1 p1 h0 n0) := by
  refine Met.intro (plainFor_of_name pn_java_2futil_2fArrayList) ?_
  intro p e s m below meth c s₁ hx hby hml hZ hown hnm hrt hlk X0 e0
  have N0 := Fr.nil n0
  have hww := @hvw _ _ hw
  have k0 := k_e (p := p) (e := e) (below := below) (s := s₁) (ef_23_R m a1)
  have H := @dch _ _ _ hby D23
  have k101 := f_alN X0 hx k0 (H 0 rfl) rfl
  obtain ⟨T102, X102, e102, k103⟩ := gFs X0 hx hZ hown (hww 160 rfl) e0 Fk0 k101 (H 1 rfl)
  exact fin_r X102 hx (w := (.int p1)) hrt hlk rfl (Or.inl ⟨rfl, Or.inl rfl, _, rfl⟩) k103 (H 2 rfl) (by rw [e102]; exact ⟨rfl, N0, rfl⟩) (by decide) (by decide)
theorem ef_51_IIn (m : MethodId) (x0 : Int32) (x1 : Int32) : entryFrame m #[(.int x0), (.int x1), .null] 3 = mkF m 0 #[.val (.int x0), .val (.int x1), .val .null] [] := by first | (simp [entryFrame, mkF, argsToLocals, Value.category]; done) | rfl
def Q_pci (Z : State) (p1 p2 : Int32) (h0 : Heap) (n0 : Nat) (v : Option Value) (h : Heap) (L : List Loc) : Prop := v = some (.int p1) ∧ Fr n0 L ∧ h = h0
theorem pn_jdk_2finternal_2futil_2fPreconditions : plainName "jdk/internal/util/Preconditions" = true := by first | (simp [plainName, overriddenIn]; done) | decide +kernel
theorem pci (l : Launch) (Z : State) (a0 : Array Value) (hw : HW Z a0) (ws : List Jvm.Cond) (p1 p2 : Int32) (h0 : Heap) (n0 : Nat) (Z0 : n0 ≤ h0.size) (hi0 : ¬ (p1 < (0 : Int32))) (hi1 : p1 < p2) :
    Met l mn26 jdk_41_method_11_code 3 (some .int) ws (rm 0 0 0 0) #[(.int p1), (.int p2), .null] Z h0 (Q_pci Z p1 p2 h0 n0) := by
  refine Met.intro (plainFor_of_name pn_jdk_2finternal_2futil_2fPreconditions) ?_
  intro p e s m below meth c s₁ hx hby hml hZ hown hnm hrt hlk X0 e0
  have N0 := Fr.nil n0
  have hww := @hvw _ _ hw
  have k0 := k_e (p := p) (e := e) (below := below) (s := s₁) (ef_51_IIn m p1 p2)
  have H := @dch _ _ _ hby D51
  have k101 := f_ilN X0 hx k0 (H 0 rfl) rfl
  have k102 := f_ifN X0 hx k101 (H 1 rfl) ((if0 _ _).trans (flt hi0).1)
  have k103 := f_ilN X0 hx k102 (H 2 rfl) rfl
  have k104 := f_ilN X0 hx k103 (H 3 rfl) rfl
  have k105 := f_icY X0 hx k104 (H 4 rfl) (pc' := 16) (tlt hi1).1 (by decide)
  have k106 := f_ilN X0 hx k105 (H 5 rfl) rfl
  exact fin_r X0 hx (w := (.int p1)) hrt hlk rfl (Or.inl ⟨rfl, Or.inl rfl, _, rfl⟩) k106 (H 6 rfl) (by rw [e0]; exact ⟨rfl, N0, rfl⟩) (by decide) (by decide)
theorem ef_50_II (m : MethodId) (x0 : Int32) (x1 : Int32) : entryFrame m #[(.int x0), (.int x1)] 2 = mkF m 0 #[.val (.int x0), .val (.int x1)] [] := by first | (simp [entryFrame, mkF, argsToLocals, Value.category]; done) | rfl
theorem pd__28IILjava_2futil_2ffunction_2fBiFunction_3b_29I : parseMethodDescriptor "(IILjava/util/function/BiFunction;)I" = some ⟨[.int, .int, (.object "java/util/function/BiFunction")], some .int⟩ := by decide +kernel
def Q_oci (Z : State) (p1 p2 : Int32) (h0 : Heap) (n0 : Nat) (v : Option Value) (h : Heap) (L : List Loc) : Prop := v = some (.int p1) ∧ Fr n0 L ∧ h = h0
theorem pn_java_2futil_2fObjects : plainName "java/util/Objects" = true := by first | (simp [plainName, overriddenIn]; done) | decide +kernel
theorem oci (l : Launch) (Z : State) (a0 : Array Value) (hw : HW Z a0) (ws : List Jvm.Cond) (p1 p2 : Int32) (h0 : Heap) (n0 : Nat) (Z0 : n0 ≤ h0.size) (hi0 : ¬ (p1 < (0 : Int32))) (hi1 : p1 < p2) :
    Met l mn27 jdk_31_method_17_code 2 (some .int) ws (rm 1 0 0 14) #[(.int p1), (.int p2)] Z h0 (Q_oci Z p1 p2 h0 n0) := by
  refine Met.intro (plainFor_of_name pn_java_2futil_2fObjects) ?_
  intro p e s m below meth c s₁ hx hby hml hZ hown hnm hrt hlk X0 e0
  have N0 := Fr.nil n0
  have hww := @hvw _ _ hw
  have k0 := k_e (p := p) (e := e) (below := below) (s := s₁) (ef_50_II m p1 p2)
  have H := @dch _ _ _ hby D50
  have k101 := f_ilN X0 hx k0 (H 0 rfl) rfl
  have k102 := f_ilN X0 hx k101 (H 1 rfl) rfl
  have k103 := f_an X0 hx k102 (H 2 rfl)
  obtain ⟨_, T104, L104, X104, hQ104, k104⟩ := c_S (W := 0) X0 hx hZ hown (hww 360 rfl) (hww 361 rfl) (hww 362 rfl) (hww 363 rfl) (by decide) (pci l Z a0 hw [] p1 p2 h0 n0 Z0 hi0 hi1) e0 (argsL := [(.int p1), (.int p2), .null]) (rest := []) rfl (by rw [hml]; rfl) k103 rfl (H 3 rfl) (lenOf pd__28IILjava_2futil_2ffunction_2fBiFunction_3b_29I rfl) (b5 rfl)
  obtain ⟨rfl, N104q, e104⟩ := hQ104
  have N105 := Fr.app N0 N104q
  exact fin_r X104 hx (w := (.int p1)) hrt hlk rfl (Or.inl ⟨rfl, Or.inl rfl, _, rfl⟩) k104 (H 4 rfl) (by rw [e104]; exact ⟨rfl, N105, rfl⟩) (by decide) (by decide)
theorem ef_52_RI (m : MethodId) (x0 : Addr) (x1 : Int32) : entryFrame m #[(.ref x0), (.int x1)] 2 = mkF m 0 #[.val (.ref x0), .val (.int x1)] [] := by first | (simp [entryFrame, mkF, argsToLocals, Value.category]; done) | rfl
def Q_eld0 (Z : State) (a1 ea : Addr) (ka : ClassId) (ed0 : Addr) (v1 v2 : Value) (h0 : Heap) (n0 : Nat) (v : Option Value) (h : Heap) (L : List Loc) : Prop := v = some (.ref ed0) ∧ Fr n0 L ∧ h = h0
theorem eld0 (l : Launch) (Z : State) (a0 : Array Value) (hw : HW Z a0) (ws : List Jvm.Cond) (a1 ea : Addr) (ka : ClassId) (ed0 : Addr) (v1 v2 : Value) (h0 : Heap) (n0 : Nat) (Z0 : n0 ≤ h0.size) (Fk0 : Fld Z h0 a1 "java/util/ArrayList" "elementData" "[Ljava/lang/Object;" (.ref ea)) (Fk1 : Arv Z h0 ea ka (.object "java/lang/Object") (10 : Int32) [(.ref ed0), v1, v2, .null, .null, .null, .null, .null, .null, .null] .null) :
    Met l mn28 jdk_38_method_18_code 2 (some (.object "java/lang/Object")) ws (rm 0 0 0 0) #[(.ref a1), zI] Z h0 (Q_eld0 Z a1 ea ka ed0 v1 v2 h0 n0) := by
  refine Met.intro (plainFor_of_name pn_java_2futil_2fArrayList) ?_
  intro p e s m below meth c s₁ hx hby hml hZ hown hnm hrt hlk X0 e0
  have N0 := Fr.nil n0
  have hww := @hvw _ _ hw
  have k0 := k_e (p := p) (e := e) (below := below) (s := s₁) (ef_52_RI m a1 (0 : Int32))
  have H := @dch _ _ _ hby D52
  have k101 := f_alN X0 hx k0 (H 0 rfl) rfl
  obtain ⟨T102, X102, e102, k103⟩ := gFs X0 hx hZ hown (hww 24 rfl) e0 Fk0 k101 (H 1 rfl)
  have k104 := f_ilN X102 hx k103 (H 2 rfl) rfl
  have k105 := f_aal X102 hx hZ e102 Fk1 k104 (H 3 rfl) (v := (.ref ed0)) rfl (by decide) rfl
  exact fin_r X102 hx (w := (.ref ed0)) hrt hlk rfl (Or.inr (Or.inr (Or.inr (Or.inr ⟨rfl, rfl, rfl⟩)))) k105 (H 4 rfl) (by rw [e102]; exact ⟨rfl, N0, rfl⟩) (by decide) (by decide)
theorem ef_49_RI (m : MethodId) (x0 : Addr) (x1 : Int32) : entryFrame m #[(.ref x0), (.int x1)] 2 = mkF m 0 #[.val (.ref x0), .val (.int x1)] [] := by first | (simp [entryFrame, mkF, argsToLocals, Value.category]; done) | rfl
theorem pd__28I_29Ljava_2flang_2fObject_3b : parseMethodDescriptor "(I)Ljava/lang/Object;" = some ⟨[.int], some (.object "java/lang/Object")⟩ := by decide +kernel
def Q_aget0 (Z : State) (a1 ea : Addr) (ka : ClassId) (ed0 : Addr) (v1 v2 : Value) (p2 : Int32) (h0 : Heap) (n0 : Nat) (v : Option Value) (h : Heap) (L : List Loc) : Prop := v = some (.ref ed0) ∧ Fr n0 L ∧ h = h0
theorem aget0 (l : Launch) (Z : State) (a0 : Array Value) (hw : HW Z a0) (ws : List Jvm.Cond) (a1 ea : Addr) (ka : ClassId) (ed0 : Addr) (v1 v2 : Value) (p2 : Int32) (h0 : Heap) (n0 : Nat) (Z0 : n0 ≤ h0.size) (Fk0 : Exa Z h0 a1 "java/util/ArrayList") (Fk1 : Fld Z h0 a1 "java/util/ArrayList" "elementData" "[Ljava/lang/Object;" (.ref ea)) (Fk2 : Fld Z h0 a1 "java/util/ArrayList" "size" "I" (.int p2)) (Fk3 : Arv Z h0 ea ka (.object "java/lang/Object") (10 : Int32) [(.ref ed0), v1, v2, .null, .null, .null, .null, .null, .null, .null] .null) (hi1 : (0 : Int32) < p2) :
    Met l mn29 jdk_38_method_20_code 2 (some (.object "java/lang/Object")) ws (rm 2 0 0 27) #[(.ref a1), zI] Z h0 (Q_aget0 Z a1 ea ka ed0 v1 v2 p2 h0 n0) := by
  refine Met.intro (plainFor_of_name pn_java_2futil_2fArrayList) ?_
  intro p e s m below meth c s₁ hx hby hml hZ hown hnm hrt hlk X0 e0
  have N0 := Fr.nil n0
  have hww := @hvw _ _ hw
  have k0 := k_e (p := p) (e := e) (below := below) (s := s₁) (ef_49_RI m a1 (0 : Int32))
  have H := @dch _ _ _ hby D49
  have k101 := f_ilN X0 hx k0 (H 0 rfl) rfl
  have k102 := f_alN X0 hx k101 (H 1 rfl) rfl
  obtain ⟨T103, X103, e103, k104⟩ := gFs X0 hx hZ hown (hww 160 rfl) e0 Fk2 k102 (H 2 rfl)
  obtain ⟨_, T105, L105, X105, hQ105, k105⟩ := c_S (W := 0) X103 hx hZ hown (hww 356 rfl) (hww 357 rfl) (hww 358 rfl) (hww 359 rfl) (by decide) (oci l Z a0 hw [] (0 : Int32) p2 h0 n0 Z0 (by decide) hi1) e103 (argsL := [zI, (.int p2)]) (rest := []) rfl (by rw [hml]; rfl) k104 rfl (H 3 rfl) (lenOf pd__28II_29I rfl) (b5 rfl)
  obtain ⟨rfl, N105q, e105⟩ := hQ105
  have N106 := Fr.app N0 N105q
  have k107 := f_pop X105 hx k105 (H 4 rfl) rfl
  have k108 := f_alN X105 hx k107 (H 5 rfl) rfl
  have k109 := f_ilN X105 hx k108 (H 6 rfl) rfl
  obtain ⟨_, T110, L110, X110, hQ110, k110⟩ := c_V (W := 0) (x := mn28) X105 hx hZ hown (hww 364 rfl) (hww 365 rfl) (notFace_of_selects (args := #[]) (mvT hZ (hww 367 rfl))) (hww 367 rfl) (hww 366 rfl) (hww 368 rfl) (hww 2 rfl) (by decide) Fk0 (eld0 l Z a0 hw [] a1 ea ka ed0 v1 v2 h0 n0 Z0 Fk1 Fk3) e105 (argsL := [zI]) (rest := []) rfl (by rw [hml]; rfl) k109 rfl (H 7 rfl) (lenOf pd__28I_29Ljava_2flang_2fObject_3b rfl) (b5 rfl)
  obtain ⟨rfl, N110q, e110⟩ := hQ110
  have N111 := Fr.app N106 N110q
  exact fin_r X110 hx (w := (.ref ed0)) hrt hlk rfl (Or.inr (Or.inr (Or.inr (Or.inr ⟨rfl, rfl, rfl⟩)))) k110 (H 8 rfl) (by rw [e110]; exact ⟨rfl, N111, rfl⟩) (by decide) (by decide)
def Q_eld1 (Z : State) (a1 ea : Addr) (ka : ClassId) (ed0 ed1 : Addr) (v2 : Value) (h0 : Heap) (n0 : Nat) (v : Option Value) (h : Heap) (L : List Loc) : Prop := v = some (.ref ed1) ∧ Fr n0 L ∧ h = h0
theorem eld1 (l : Launch) (Z : State) (a0 : Array Value) (hw : HW Z a0) (ws : List Jvm.Cond) (a1 ea : Addr) (ka : ClassId) (ed0 ed1 : Addr) (v2 : Value) (h0 : Heap) (n0 : Nat) (Z0 : n0 ≤ h0.size) (Fk0 : Fld Z h0 a1 "java/util/ArrayList" "elementData" "[Ljava/lang/Object;" (.ref ea)) (Fk1 : Arv Z h0 ea ka (.object "java/lang/Object") (10 : Int32) [(.ref ed0), (.ref ed1), v2, .null, .null, .null, .null, .null, .null, .null] .null) :
    Met l mn28 jdk_38_method_18_code 2 (some (.object "java/lang/Object")) ws (rm 0 0 0 0) #[(.ref a1), (.int (1 : Int32))] Z h0 (Q_eld1 Z a1 ea ka ed0 ed1 v2 h0 n0) := by
  refine Met.intro (plainFor_of_name pn_java_2futil_2fArrayList) ?_
  intro p e s m below meth c s₁ hx hby hml hZ hown hnm hrt hlk X0 e0
  have N0 := Fr.nil n0
  have hww := @hvw _ _ hw
  have k0 := k_e (p := p) (e := e) (below := below) (s := s₁) (ef_52_RI m a1 (1 : Int32))
  have H := @dch _ _ _ hby D52
  have k101 := f_alN X0 hx k0 (H 0 rfl) rfl
  obtain ⟨T102, X102, e102, k103⟩ := gFs X0 hx hZ hown (hww 24 rfl) e0 Fk0 k101 (H 1 rfl)
  have k104 := f_ilN X102 hx k103 (H 2 rfl) rfl
  have k105 := f_aal X102 hx hZ e102 Fk1 k104 (H 3 rfl) (v := (.ref ed1)) rfl (by decide) rfl
  exact fin_r X102 hx (w := (.ref ed1)) hrt hlk rfl (Or.inr (Or.inr (Or.inr (Or.inr ⟨rfl, rfl, rfl⟩)))) k105 (H 4 rfl) (by rw [e102]; exact ⟨rfl, N0, rfl⟩) (by decide) (by decide)
def Q_aget1 (Z : State) (a1 ea : Addr) (ka : ClassId) (ed0 ed1 : Addr) (v2 : Value) (p2 : Int32) (h0 : Heap) (n0 : Nat) (v : Option Value) (h : Heap) (L : List Loc) : Prop := v = some (.ref ed1) ∧ Fr n0 L ∧ h = h0
theorem aget1 (l : Launch) (Z : State) (a0 : Array Value) (hw : HW Z a0) (ws : List Jvm.Cond) (a1 ea : Addr) (ka : ClassId) (ed0 ed1 : Addr) (v2 : Value) (p2 : Int32) (h0 : Heap) (n0 : Nat) (Z0 : n0 ≤ h0.size) (Fk0 : Exa Z h0 a1 "java/util/ArrayList") (Fk1 : Fld Z h0 a1 "java/util/ArrayList" "elementData" "[Ljava/lang/Object;" (.ref ea)) (Fk2 : Fld Z h0 a1 "java/util/ArrayList" "size" "I" (.int p2)) (Fk3 : Arv Z h0 ea ka (.object "java/lang/Object") (10 : Int32) [(.ref ed0), (.ref ed1), v2, .null, .null, .null, .null, .null, .null, .null] .null) (hi1 : (1 : Int32) < p2) :
    Met l mn29 jdk_38_method_20_code 2 (some (.object "java/lang/Object")) ws (rm 2 0 0 27) #[(.ref a1), (.int (1 : Int32))] Z h0 (Q_aget1 Z a1 ea ka ed0 ed1 v2 p2 h0 n0) := by
  refine Met.intro (plainFor_of_name pn_java_2futil_2fArrayList) ?_
  intro p e s m below meth c s₁ hx hby hml hZ hown hnm hrt hlk X0 e0
  have N0 := Fr.nil n0
  have hww := @hvw _ _ hw
  have k0 := k_e (p := p) (e := e) (below := below) (s := s₁) (ef_49_RI m a1 (1 : Int32))
  have H := @dch _ _ _ hby D49
  have k101 := f_ilN X0 hx k0 (H 0 rfl) rfl
  have k102 := f_alN X0 hx k101 (H 1 rfl) rfl
  obtain ⟨T103, X103, e103, k104⟩ := gFs X0 hx hZ hown (hww 160 rfl) e0 Fk2 k102 (H 2 rfl)
  obtain ⟨_, T105, L105, X105, hQ105, k105⟩ := c_S (W := 0) X103 hx hZ hown (hww 356 rfl) (hww 357 rfl) (hww 358 rfl) (hww 359 rfl) (by decide) (oci l Z a0 hw [] (1 : Int32) p2 h0 n0 Z0 (by decide) hi1) e103 (argsL := [(.int (1 : Int32)), (.int p2)]) (rest := []) rfl (by rw [hml]; rfl) k104 rfl (H 3 rfl) (lenOf pd__28II_29I rfl) (b5 rfl)
  obtain ⟨rfl, N105q, e105⟩ := hQ105
  have N106 := Fr.app N0 N105q
  have k107 := f_pop X105 hx k105 (H 4 rfl) rfl
  have k108 := f_alN X105 hx k107 (H 5 rfl) rfl
  have k109 := f_ilN X105 hx k108 (H 6 rfl) rfl
  obtain ⟨_, T110, L110, X110, hQ110, k110⟩ := c_V (W := 0) (x := mn28) X105 hx hZ hown (hww 364 rfl) (hww 365 rfl) (notFace_of_selects (args := #[]) (mvT hZ (hww 367 rfl))) (hww 367 rfl) (hww 366 rfl) (hww 368 rfl) (hww 2 rfl) (by decide) Fk0 (eld1 l Z a0 hw [] a1 ea ka ed0 ed1 v2 h0 n0 Z0 Fk1 Fk3) e105 (argsL := [(.int (1 : Int32))]) (rest := []) rfl (by rw [hml]; rfl) k109 rfl (H 7 rfl) (lenOf pd__28I_29Ljava_2flang_2fObject_3b rfl) (b5 rfl)
  obtain ⟨rfl, N110q, e110⟩ := hQ110
  have N111 := Fr.app N106 N110q
  exact fin_r X110 hx (w := (.ref ed1)) hrt hlk rfl (Or.inr (Or.inr (Or.inr (Or.inr ⟨rfl, rfl, rfl⟩)))) k110 (H 8 rfl) (by rw [e110]; exact ⟨rfl, N111, rfl⟩) (by decide) (by decide)
def Q_eld2 (Z : State) (a1 ea : Addr) (ka : ClassId) (ed0 ed1 ed2 : Addr) (h0 : Heap) (n0 : Nat) (v : Option Value) (h : Heap) (L : List Loc) : Prop := v = some (.ref ed2) ∧ Fr n0 L ∧ h = h0
theorem eld2 (l : Launch) (Z : State) (a0 : Array Value) (hw : HW Z a0) (ws : List Jvm.Cond) (a1 ea : Addr) (ka : ClassId) (ed0 ed1 ed2 : Addr) (h0 : Heap) (n0 : Nat) (Z0 : n0 ≤ h0.size) (Fk0 : Fld Z h0 a1 "java/util/ArrayList" "elementData" "[Ljava/lang/Object;" (.ref ea)) (Fk1 : Arv Z h0 ea ka (.object "java/lang/Object") (10 : Int32) [(.ref ed0), (.ref ed1), (.ref ed2), .null, .null, .null, .null, .null, .null, .null] .null) :
    Met l mn28 jdk_38_method_18_code 2 (some (.object "java/lang/Object")) ws (rm 0 0 0 0) #[(.ref a1), (.int (2 : Int32))] Z h0 (Q_eld2 Z a1 ea ka ed0 ed1 ed2 h0 n0) := by
  refine Met.intro (plainFor_of_name pn_java_2futil_2fArrayList) ?_
  intro p e s m below meth c s₁ hx hby hml hZ hown hnm hrt hlk X0 e0
  have N0 := Fr.nil n0
  have hww := @hvw _ _ hw
  have k0 := k_e (p := p) (e := e) (below := below) (s := s₁) (ef_52_RI m a1 (2 : Int32))
  have H := @dch _ _ _ hby D52
  have k101 := f_alN X0 hx k0 (H 0 rfl) rfl
  obtain ⟨T102, X102, e102, k103⟩ := gFs X0 hx hZ hown (hww 24 rfl) e0 Fk0 k101 (H 1 rfl)
  have k104 := f_ilN X102 hx k103 (H 2 rfl) rfl
  have k105 := f_aal X102 hx hZ e102 Fk1 k104 (H 3 rfl) (v := (.ref ed2)) rfl (by decide) rfl
  exact fin_r X102 hx (w := (.ref ed2)) hrt hlk rfl (Or.inr (Or.inr (Or.inr (Or.inr ⟨rfl, rfl, rfl⟩)))) k105 (H 4 rfl) (by rw [e102]; exact ⟨rfl, N0, rfl⟩) (by decide) (by decide)
def Q_aget2 (Z : State) (a1 ea : Addr) (ka : ClassId) (ed0 ed1 ed2 : Addr) (p2 : Int32) (h0 : Heap) (n0 : Nat) (v : Option Value) (h : Heap) (L : List Loc) : Prop := v = some (.ref ed2) ∧ Fr n0 L ∧ h = h0
theorem aget2 (l : Launch) (Z : State) (a0 : Array Value) (hw : HW Z a0) (ws : List Jvm.Cond) (a1 ea : Addr) (ka : ClassId) (ed0 ed1 ed2 : Addr) (p2 : Int32) (h0 : Heap) (n0 : Nat) (Z0 : n0 ≤ h0.size) (Fk0 : Exa Z h0 a1 "java/util/ArrayList") (Fk1 : Fld Z h0 a1 "java/util/ArrayList" "elementData" "[Ljava/lang/Object;" (.ref ea)) (Fk2 : Fld Z h0 a1 "java/util/ArrayList" "size" "I" (.int p2)) (Fk3 : Arv Z h0 ea ka (.object "java/lang/Object") (10 : Int32) [(.ref ed0), (.ref ed1), (.ref ed2), .null, .null, .null, .null, .null, .null, .null] .null) (hi1 : (2 : Int32) < p2) :
    Met l mn29 jdk_38_method_20_code 2 (some (.object "java/lang/Object")) ws (rm 2 0 0 27) #[(.ref a1), (.int (2 : Int32))] Z h0 (Q_aget2 Z a1 ea ka ed0 ed1 ed2 p2 h0 n0) := by
  refine Met.intro (plainFor_of_name pn_java_2futil_2fArrayList) ?_
  intro p e s m below meth c s₁ hx hby hml hZ hown hnm hrt hlk X0 e0
  have N0 := Fr.nil n0
  have hww := @hvw _ _ hw
  have k0 := k_e (p := p) (e := e) (below := below) (s := s₁) (ef_49_RI m a1 (2 : Int32))
  have H := @dch _ _ _ hby D49
  have k101 := f_ilN X0 hx k0 (H 0 rfl) rfl
  have k102 := f_alN X0 hx k101 (H 1 rfl) rfl
  obtain ⟨T103, X103, e103, k104⟩ := gFs X0 hx hZ hown (hww 160 rfl) e0 Fk2 k102 (H 2 rfl)
  obtain ⟨_, T105, L105, X105, hQ105, k105⟩ := c_S (W := 0) X103 hx hZ hown (hww 356 rfl) (hww 357 rfl) (hww 358 rfl) (hww 359 rfl) (by decide) (oci l Z a0 hw [] (2 : Int32) p2 h0 n0 Z0 (by decide) hi1) e103 (argsL := [(.int (2 : Int32)), (.int p2)]) (rest := []) rfl (by rw [hml]; rfl) k104 rfl (H 3 rfl) (lenOf pd__28II_29I rfl) (b5 rfl)
  obtain ⟨rfl, N105q, e105⟩ := hQ105
  have N106 := Fr.app N0 N105q
  have k107 := f_pop X105 hx k105 (H 4 rfl) rfl
  have k108 := f_alN X105 hx k107 (H 5 rfl) rfl
  have k109 := f_ilN X105 hx k108 (H 6 rfl) rfl
  obtain ⟨_, T110, L110, X110, hQ110, k110⟩ := c_V (W := 0) (x := mn28) X105 hx hZ hown (hww 364 rfl) (hww 365 rfl) (notFace_of_selects (args := #[]) (mvT hZ (hww 367 rfl))) (hww 367 rfl) (hww 366 rfl) (hww 368 rfl) (hww 2 rfl) (by decide) Fk0 (eld2 l Z a0 hw [] a1 ea ka ed0 ed1 ed2 h0 n0 Z0 Fk1 Fk3) e105 (argsL := [(.int (2 : Int32))]) (rest := []) rfl (by rw [hml]; rfl) k109 rfl (H 7 rfl) (lenOf pd__28I_29Ljava_2flang_2fObject_3b rfl) (b5 rfl)
  obtain ⟨rfl, N110q, e110⟩ := hQ110
  have N111 := Fr.app N106 N110q
  exact fin_r X110 hx (w := (.ref ed2)) hrt hlk rfl (Or.inr (Or.inr (Or.inr (Or.inr ⟨rfl, rfl, rfl⟩)))) k110 (H 8 rfl) (by rw [e110]; exact ⟨rfl, N111, rfl⟩) (by decide) (by decide)
theorem ef_5_R (m : MethodId) (x0 : Addr) : entryFrame m #[(.ref x0)] 1 = mkF m 0 #[.val (.ref x0)] [] := by first | (simp [entryFrame, mkF, argsToLocals, Value.category]; done) | rfl
def Q_hmi (Z : State) (a1 : Addr) (h0 : Heap) (n0 : Nat) (v : Option Value) (h : Heap) (L : List Loc) : Prop := v = none ∧ Fr n0 L ∧ Keep h0 h [a1] ∧ OBJ Z h a1 "java/util/HashMap" lyMP [.null, zI, zI, zI, .null, (.float (1061158912 : UInt32))]
theorem hmi (l : Launch) (Z : State) (a0 : Array Value) (hw : HW Z a0) (ws : List Jvm.Cond) (a1 : Addr) (h0 : Heap) (n0 : Nat) (Z0 : n0 ≤ h0.size) (Fk0 : OBJ Z h0 a1 "java/util/HashMap" lyMP [.null, zI, zI, zI, .null, (.float (0 : UInt32))]) (ge_a1 : n0 ≤ a1) :
    Met l mn30 jdk_69_method_7_code 1 none ws (rm 2 0 0 24) #[(.ref a1)] Z h0 (Q_hmi Z a1 h0 n0) := by
  refine Met.intro (plainFor_of_name pn_java_2futil_2fHashMap) ?_
  intro p e s m below meth c s₁ hx hby hml hZ hown hnm hrt hlk X0 e0
  have N0 := Fr.nil n0
  have hww := @hvw _ _ hw
  have k0 := k_e (p := p) (e := e) (below := below) (s := s₁) (ef_5_R m a1)
  have K0 := Keep.refl h0 [a1]
  have H := @dch _ _ _ hby D5
  have k101 := f_alN X0 hx k0 (H 0 rfl) rfl
  obtain ⟨_, T102, L102, X102, hQ102, k102⟩ := c_N (W := 0) X0 hx hZ hown (hww 32 rfl) (hww 33 rfl) (hww 37 rfl) (hww 36 rfl) rfl (by decide) (i_AbstractMap l Z a0 hw [] a1 h0 n0 Z0 ) e0 (argsL := []) (rest := []) rfl (by rw [hml]; rfl) k101 rfl (H 1 rfl) (lenOf pd__28_29V rfl) (b5 rfl)
  obtain ⟨rfl, N102q, e102⟩ := hQ102
  have N103 := Fr.app N0 N102q
  have k104 := f_alN X102 hx k102 (H 2 rfl) rfl
  have k105 : Rt p e below T102 (mkF m 7 #[sr a1] [vF 1061158912, vR a1]) s₁ m #[(.ref a1)] 1 := fun t k => k104 t (by
    show Sp p e below T102 (mkF m 5 #[sr a1] [vR a1]) _
    refine X102.ldcFloatC hx hown (mvT hZ (hww 39 rfl)) (g := (mkF m 5 #[sr a1] [vR a1])) rfl (H 3 rfl) _ ?_
    exact k)
  obtain ⟨T106, h106, L106, X106, e106, W106, B106, N106, Z106, k106⟩ := f_pF X102 hx hZ hown (hww 40 rfl) Via.refl e102 Fk0 (snMP hw) (Or.inr ⟨(hww 41 rfl), rfl, hnm⟩) (hww 27 rfl) 5 (by decide) rfl rfl (ty := .float) (by decide) rfl rfl N103 ge_a1 Z0 k105 (H 4 rfl) rfl
  have K107 := kw K0 W106 0 rfl
  exact fin_v X106 hx hrt hlk k106 (H 5 rfl) (by rw [e106]; exact ⟨rfl, N106, K107, B106⟩) (by decide) (by decide)
theorem ef_20_RIRRn (m : MethodId) (x0 : Addr) (x1 : Int32) (x2 : Addr) (x3 : Addr) : entryFrame m #[(.ref x0), (.int x1), (.ref x2), (.ref x3), .null] 5 = mkF m 0 #[.val (.ref x0), .val (.int x1), .val (.ref x2), .val (.ref x3), .val .null] [] := by first | (simp [entryFrame, mkF, argsToLocals, Value.category]; done) | rfl
def Q_ndi (Z : State) (a1 : Addr) (p1 : Int32) (a2 a3 : Addr) (h0 : Heap) (n0 : Nat) (v : Option Value) (h : Heap) (L : List Loc) : Prop := v = none ∧ Fr n0 L ∧ Keep h0 h [a1] ∧ OBJ Z h a1 "java/util/HashMap$Node" lyND [(.int p1), (.ref a2), (.ref a3), .null]
theorem pn_java_2futil_2fHashMap_24Node : plainName "java/util/HashMap$Node" = true := by first | (simp [plainName, overriddenIn]; done) | decide +kernel
theorem ndi (l : Launch) (Z : State) (a0 : Array Value) (hw : HW Z a0) (ws : List Jvm.Cond) (a1 : Addr) (p1 : Int32) (a2 a3 : Addr) (h0 : Heap) (n0 : Nat) (Z0 : n0 ≤ h0.size) (Fk0 : OBJ Z h0 a1 "java/util/HashMap$Node" lyND [zI, .null, .null, .null]) (ge_a1 : n0 ≤ a1) :
    Met l mn31 jdk_70_method_1_code 5 none ws (rm 1 0 0 12) #[(.ref a1), (.int p1), (.ref a2), (.ref a3), .null] Z h0 (Q_ndi Z a1 p1 a2 a3 h0 n0) := by
  refine Met.intro (plainFor_of_name pn_java_2futil_2fHashMap_24Node) ?_
  intro p e s m below meth c s₁ hx hby hml hZ hown hnm hrt hlk X0 e0
  have N0 := Fr.nil n0
  have hww := @hvw _ _ hw
  have k0 := k_e (p := p) (e := e) (below := below) (s := s₁) (ef_20_RIRRn m a1 p1 a2 a3)
  have K0 := Keep.refl h0 [a1]
  have H := @dch _ _ _ hby D20
  have k101 := f_alN X0 hx k0 (H 0 rfl) rfl
  obtain ⟨T102, X102, e102, st102⟩ := initO X0 hx hZ hown (hww 126 rfl) (hww 19 rfl) (hww 20 rfl) e0 (g := (mkF m 1 #[sr a1, si p1, sr a2, sr a3, .val .null] [vR a1])) rfl (by rw [hml]; rfl) rfl (H 1 rfl) (by decide) (W := 0) (by show 2 * 0 + _ ≤ _; exact Nat.le_of_eq rfl) (by decide)
  have k103 : Rt p e below T102 (mkF m 4 #[sr a1, si p1, sr a2, sr a3, .val .null] []) s₁ m #[(.ref a1), (.int p1), (.ref a2), (.ref a3), .null] 5 := fun t k => k101 t (st102 t k)
  have k104 := f_alN X102 hx k103 (H 2 rfl) rfl
  have k105 := f_ilN X102 hx k104 (H 3 rfl) rfl
  obtain ⟨T106, h106, L106, X106, e106, W106, B106, N106, Z106, k106⟩ := f_pF X102 hx hZ hown (hww 127 rfl) Via.refl e102 Fk0 (snND hw) (Or.inr ⟨(hww 128 rfl), rfl, hnm⟩) (hww 120 rfl) 0 (by decide) rfl rfl (ty := .int) (by decide) rfl rfl N0 ge_a1 Z0 k105 (H 4 rfl) rfl
  have K107 := kw K0 W106 0 rfl
  have k108 := f_alN X106 hx k106 (H 5 rfl) rfl
  have k109 := f_alN X106 hx k108 (H 6 rfl) rfl
  obtain ⟨T110, h110, L110, X110, e110, W110, B110, N110, Z110, k110⟩ := f_pF X106 hx hZ hown (hww 129 rfl) Via.refl e106 B106 (snND hw) (Or.inr ⟨(hww 130 rfl), rfl, hnm⟩) (hww 120 rfl) 1 (by decide) rfl rfl (ty := (.object "java/lang/Object")) (by decide) rfl rfl N106 ge_a1 Z106 k109 (H 7 rfl) rfl
  have K111 := kw K107 W110 0 rfl
  have k112 := f_alN X110 hx k110 (H 8 rfl) rfl
  have k113 := f_alN X110 hx k112 (H 9 rfl) rfl
  obtain ⟨T114, h114, L114, X114, e114, W114, B114, N114, Z114, k114⟩ := f_pF X110 hx hZ hown (hww 131 rfl) Via.refl e110 B110 (snND hw) (Or.inl (hww 132 rfl)) (hww 120 rfl) 2 (by decide) rfl rfl (ty := (.object "java/lang/Object")) (by decide) rfl rfl N110 ge_a1 Z110 k113 (H 10 rfl) rfl
  have K115 := kw K111 W114 0 rfl
  have k116 := f_alN X114 hx k114 (H 11 rfl) rfl
  have k117 := f_nl X114 hx k116 (H 12 rfl) rfl
  obtain ⟨T118, h118, L118, X118, e118, W118, B118, N118, Z118, k118⟩ := f_pF X114 hx hZ hown (hww 133 rfl) Via.refl e114 B114 (snND hw) (Or.inl (hww 134 rfl)) (hww 120 rfl) 3 (by decide) rfl rfl (ty := (.object "java/util/HashMap$Node")) (by decide) rfl rfl N114 ge_a1 Z114 k117 (H 13 rfl) rfl
  have K119 := kw K115 W118 0 rfl
  exact fin_v X118 hx hrt hlk k118 (H 14 rfl) (by rw [e118]; exact ⟨rfl, N118, K119, B118⟩) (by decide) (by decide)
theorem ef_19_RIRRn (m : MethodId) (x0 : Addr) (x1 : Int32) (x2 : Addr) (x3 : Addr) : entryFrame m #[(.ref x0), (.int x1), (.ref x2), (.ref x3), .null] 5 = mkF m 0 #[.val (.ref x0), .val (.int x1), .val (.ref x2), .val (.ref x3), .val .null] [] := by first | (simp [entryFrame, mkF, argsToLocals, Value.category]; done) | rfl
theorem pd__28ILjava_2flang_2fObject_3bLjava_2flang_2fObject_3bLjava_2futil_2fHashMap_24Node_3b_29V : parseMethodDescriptor "(ILjava/lang/Object;Ljava/lang/Object;Ljava/util/HashMap$Node;)V" = some ⟨[.int, (.object "java/lang/Object"), (.object "java/lang/Object"), (.object "java/util/HashMap$Node")], none⟩ := by decide +kernel
def Q_nwn (Z : State) (a1 : Addr) (p1 : Int32) (a2 a3 : Addr) (h0 : Heap) (n0 : Nat) (v : Option Value) (h : Heap) (L : List Loc) : Prop := ∃ (nd : Addr), v = some (.ref nd) ∧ Fr n0 L ∧ Keep h0 h [] ∧ h0.size ≤ nd ∧ OBJ Z h nd "java/util/HashMap$Node" lyND [(.int p1), (.ref a2), (.ref a3), .null]
theorem nwn (l : Launch) (Z : State) (a0 : Array Value) (hw : HW Z a0) (ws : List Jvm.Cond) (a1 : Addr) (p1 : Int32) (a2 a3 : Addr) (h0 : Heap) (n0 : Nat) (Z0 : n0 ≤ h0.size) :
    Met l mn32 jdk_69_method_46_code 5 (some (.object "java/util/HashMap$Node")) ws (rm 2 1 4 29) #[(.ref a1), (.int p1), (.ref a2), (.ref a3), .null] Z h0 (Q_nwn Z a1 p1 a2 a3 h0 n0) := by
  refine Met.intro (plainFor_of_name pn_java_2futil_2fHashMap) ?_
  intro p e s m below meth c s₁ hx hby hml hZ hown hnm hrt hlk X0 e0
  have N0 := Fr.nil n0
  have hww := @hvw _ _ hw
  have k0 := k_e (p := p) (e := e) (below := below) (s := s₁) (ef_19_RIRRn m a1 p1 a2 a3)
  have K0 : Keep h0 h0 [] := Keep.refl h0 []
  have H := @dch _ _ _ hby D19
  obtain ⟨T101, h101, X101, e101, E101, A101, D101, -, st101⟩ := newO X0 hx hZ hown (hww 113 rfl) (hww 120 rfl) (hww 121 rfl) e0 (g := (mkF m 0 #[sr a1, si p1, sr a2, sr a3, .val .null] [])) rfl (H 0 rfl) (by decide) (by decide)
  obtain ⟨b101, g101⟩ : ∃ z, z = h0.size := ⟨_, rfl⟩
  rw [← g101] at A101 D101 st101
  have g102 : n0 ≤ b101 := Nat.le_trans Z0 (Nat.le_of_eq g101.symm)
  have z103 : h0.size ≤ b101 := Nat.le_trans K0.1 (Nat.le_of_eq g101.symm)
  have Z104 : n0 ≤ h101.size := Nat.le_trans Z0 E101.1
  have K105 := K0.ext E101
  have F106 : Fld Z h101 b101 "java/util/HashMap$Node" "hash" "I" zI := D101 (Or.inr (hww 128 rfl)) (ty := .int) (by decide)
  have F107 : Fld Z h101 b101 "java/util/HashMap$Node" "key" "Ljava/lang/Object;" .null := D101 (Or.inr (hww 130 rfl)) (ty := (.object "java/lang/Object")) (by decide)
  have F108 : Fld Z h101 b101 "java/util/HashMap$Node" "value" "Ljava/lang/Object;" .null := D101 (Or.inl (hww 132 rfl)) (ty := (.object "java/lang/Object")) (by decide)
  have F109 : Fld Z h101 b101 "java/util/HashMap$Node" "next" "Ljava/util/HashMap$Node;" .null := D101 (Or.inl (hww 134 rfl)) (ty := (.object "java/util/HashMap$Node")) (by decide)
  have k110 : Rt p e below T101 (mkF m 3 #[sr a1, si p1, sr a2, sr a3, .val .null] [vR b101]) s₁ m #[(.ref a1), (.int p1), (.ref a2), (.ref a3), .null] 5 := fun t k => k0 t (st101 t k)
  have B111 := mkND A101 F106 F107 F108 F109
  have k112 := f_dup X101 hx k110 (H 1 rfl) rfl
  have k113 := f_ilN X101 hx k112 (H 2 rfl) rfl
  have k114 := f_alN X101 hx k113 (H 3 rfl) rfl
  have k115 := f_alN X101 hx k114 (H 4 rfl) rfl
  have k116 := f_nl X101 hx k115 (H 5 rfl) rfl
  obtain ⟨_, T117, L117, X117, hQ117, k117⟩ := c_N (W := 1) X101 hx hZ hown (hww 122 rfl) (hww 123 rfl) (hww 125 rfl) (hww 121 rfl) rfl (by decide) (ndi l Z a0 hw [] b101 p1 a2 a3 h101 n0 Z104 B111 g102) e101 (argsL := [(.int p1), (.ref a2), (.ref a3), .null]) (rest := [(.ref b101)]) rfl (by rw [hml]; rfl) k116 rfl (H 6 rfl) (lenOf pd__28ILjava_2flang_2fObject_3bLjava_2flang_2fObject_3bLjava_2futil_2fHashMap_24Node_3b_29V rfl) (b5 rfl)
  obtain ⟨h117, e117⟩ : ∃ h', T117.heap = h' := ⟨_, rfl⟩
  rw [e117] at hQ117
  obtain ⟨rfl, N117q, K117, R117_0⟩ := hQ117
  have N118 := Fr.app N0 N117q
  have Z119 : n0 ≤ h117.size := Nat.le_trans Z104 K117.1
  have K120 := Keep.trans K105 K117 (allS (Or.inr z103) all0)
  exact fin_r X117 hx (w := (.ref b101)) hrt hlk rfl (Or.inr (Or.inr (Or.inr (Or.inr ⟨rfl, rfl, rfl⟩)))) k117 (H 7 rfl) (by rw [e117]; exact ⟨b101, rfl, N118, K120, z103, R117_0⟩) (by decide) (by decide)
theorem ef_21_RI (m : MethodId) (x0 : Addr) (x1 : Int32) : entryFrame m #[(.ref x0), (.int x1)] 2 = mkF m 0 #[.val (.ref x0), .val (.int x1)] [] := by first | (simp [entryFrame, mkF, argsToLocals, Value.category]; done) | rfl
def Q_ani (Z : State) (a1 : Addr) (h0 : Heap) (n0 : Nat) (v : Option Value) (h : Heap) (L : List Loc) : Prop := v = none ∧ Fr n0 L ∧ h = h0
theorem ani (l : Launch) (Z : State) (a0 : Array Value) (hw : HW Z a0) (ws : List Jvm.Cond) (a1 : Addr) (h0 : Heap) (n0 : Nat) (Z0 : n0 ≤ h0.size) :
    Met l mn33 jdk_69_method_52_code 2 none ws (rm 0 0 0 0) #[(.ref a1), (.int (1 : Int32))] Z h0 (Q_ani Z a1 h0 n0) := by
  refine Met.intro (plainFor_of_name pn_java_2futil_2fHashMap) ?_
  intro p e s m below meth c s₁ hx hby hml hZ hown hnm hrt hlk X0 e0
  have N0 := Fr.nil n0
  have hww := @hvw _ _ hw
  have k0 := k_e (p := p) (e := e) (below := below) (s := s₁) (ef_21_RI m a1 (1 : Int32))
  have H := @dch _ _ _ hby D21
  exact fin_v X0 hx hrt hlk k0 (H 0 rfl) (by rw [e0]; exact ⟨rfl, N0, rfl⟩) (by decide) (by decide)
theorem ef_18_R (m : MethodId) (x0 : Addr) : entryFrame m #[(.ref x0)] 14 = mkF m 0 #[.val (.ref x0), .unset, .unset, .unset, .unset, .unset, .unset, .unset, .unset, .unset, .unset, .unset, .unset, .unset] [] := by first | (simp [entryFrame, mkF, argsToLocals, Value.category]; done) | rfl
def Q_rsz (Z : State) (a1 : Addr) (h0 : Heap) (n0 : Nat) (v : Option Value) (h : Heap) (L : List Loc) : Prop := ∃ (tb : Addr) (kt : ClassId), v = some (.ref tb) ∧ Fr n0 L ∧ Keep h0 h [a1] ∧ h0.size ≤ tb ∧ OBJ Z h a1 "java/util/HashMap" lyMP [(.ref tb), zI, zI, (.int (12 : Int32)), .null, (.float (1061158912 : UInt32))] ∧ Arv Z h tb kt (.object "java/util/HashMap$Node") (16 : Int32) [.null, .null, .null, .null, .null, .null, .null, .null, .null, .null, .null, .null, .null, .null, .null, .null] .null ∧ (Ovr Z kt "java/util/HashMap$Node")
theorem rsz (l : Launch) (Z : State) (a0 : Array Value) (hw : HW Z a0) (ws : List Jvm.Cond) (a1 : Addr) (h0 : Heap) (n0 : Nat) (Z0 : n0 ≤ h0.size) (Fk0 : OBJ Z h0 a1 "java/util/HashMap" lyMP [.null, zI, zI, zI, .null, (.float (1061158912 : UInt32))]) (ge_a1 : n0 ≤ a1) :
    Met l mn34 jdk_69_method_17_code 14 (some (.array (.object "java/util/HashMap$Node"))) ws (rm 0 1 16 0) #[(.ref a1)] Z h0 (Q_rsz Z a1 h0 n0) := by
  refine Met.intro (plainFor_of_name pn_java_2futil_2fHashMap) ?_
  intro p e s m below meth c s₁ hx hby hml hZ hown hnm hrt hlk X0 e0
  have N0 := Fr.nil n0
  have hww := @hvw _ _ hw
  have k0 := k_e (p := p) (e := e) (below := below) (s := s₁) (ef_18_R m a1)
  have K0 := Keep.refl h0 [a1]
  have H := @dch _ _ _ hby D18
  have k101 := f_alN X0 hx k0 (H 0 rfl) rfl
  obtain ⟨T102, X102, e102, k103⟩ := gFs X0 hx hZ hown (hww 104 rfl) e0 (Fk0.g 0 (v := .null) (by decide) rfl rfl) k101 (H 1 rfl)
  have k104 := f_nsN X102 hx k103 (H 2 rfl) (l' := #[sr a1, .val .null, un, un, un, un, un, un, un, un, un, un, un, un]) rfl
  have k105 := f_nlN X102 hx k104 (H 3 rfl) rfl
  have k106 := f_nnN X102 hx k105 (H 4 rfl)
  have k107 := f_ic X102 hx k106 (H 5 rfl) (v := 0) rfl
  have k108 := f_go X102 hx k107 (H 6 rfl) (pc' := 15) (by decide)
  have k109 := f_isN X102 hx k108 (H 7 rfl) (l' := #[sr a1, .val .null, si 0, un, un, un, un, un, un, un, un, un, un, un]) rfl
  have k110 := f_alN X102 hx k109 (H 8 rfl) rfl
  obtain ⟨T111, X111, e111, k112⟩ := gFs X102 hx hZ hown (hww 111 rfl) e102 (Fk0.g 3 (v := zI) (by decide) rfl rfl) k110 (H 9 rfl)
  have k113 := f_isN X111 hx k112 (H 10 rfl) (l' := #[sr a1, .val .null, si 0, si 0, un, un, un, un, un, un, un, un, un, un]) rfl
  have k114 := f_ic X111 hx k113 (H 11 rfl) (v := 0) rfl
  have k115 := f_is X111 hx k114 (H 12 rfl) (l' := #[sr a1, .val .null, si 0, si 0, un, si 0, un, un, un, un, un, un, un, un]) rfl
  have k116 := f_ilN X111 hx k115 (H 13 rfl) rfl
  have k117 := f_ifY X111 hx k116 (H 14 rfl) (pc' := 67) ((if0 _ _).trans (flt (by decide)).2.2.2) (by decide)
  have k118 := f_ilN X111 hx k117 (H 15 rfl) rfl
  have k119 := f_ifY X111 hx k118 (H 16 rfl) (pc' := 77) ((if0 _ _).trans (flt (by decide)).2.2.2) (by decide)
  have k120 := f_bp X111 hx k119 (H 17 rfl) (v := 16) rfl
  have k121 := f_is X111 hx k120 (H 18 rfl) (l' := #[sr a1, .val .null, si 0, si 0, si 16, si 0, un, un, un, un, un, un, un, un]) rfl
  have k122 := f_bp X111 hx k121 (H 19 rfl) (v := 12) rfl
  have k123 := f_is X111 hx k122 (H 20 rfl) (l' := #[sr a1, .val .null, si 0, si 0, si 16, si 12, un, un, un, un, un, un, un, un]) rfl
  have k124 := f_il X111 hx k123 (H 21 rfl) rfl
  have k125 := f_ifY X111 hx k124 (H 22 rfl) (pc' := 125) ((if0 _ _).trans (feq (by decide)).2) (by decide)
  have k126 := f_alN X111 hx k125 (H 23 rfl) rfl
  have k127 := f_il X111 hx k126 (H 24 rfl) rfl
  obtain ⟨T128, h128, L128, X128, e128, W128, B128, N128, Z128, k128⟩ := f_pF X111 hx hZ hown (hww 111 rfl) Via.refl e111 Fk0 (snMP hw) (Or.inl (hww 112 rfl)) (hww 27 rfl) 3 (by decide) rfl rfl (ty := .int) (by decide) rfl rfl N0 ge_a1 Z0 k127 (H 25 rfl) rfl
  have K129 := kw K0 W128 0 rfl
  have k130 := f_il X128 hx k128 (H 26 rfl) rfl
  obtain ⟨T131, h131, k131, X131, e131, E131, A131, O131, st131⟩ := newR X128 hx hZ hown (hww 113 rfl) (hww 114 rfl) e128 (g := (mkF m 133 #[sr a1, .val .null, si 0, si 0, si 16, si 12, un, un, un, un, un, un, un, un] [vI 16])) rfl (H 27 rfl) rfl (by decide) (cap := 16) (by decide) (by decide) (by decide) (by decide)
  obtain ⟨b131, g131⟩ : ∃ z, z = h128.size := ⟨_, rfl⟩
  rw [← g131] at A131 st131
  have g132 : n0 ≤ b131 := Nat.le_trans Z128 (Nat.le_of_eq g131.symm)
  have z133 : h0.size ≤ b131 := Nat.le_trans K129.1 (Nat.le_of_eq g131.symm)
  have F134 := B128.ext E131
  have Z135 : n0 ≤ h131.size := Nat.le_trans Z128 E131.1
  have K136 := K129.ext E131
  have V137 : Arv Z h131 b131 k131 (.object "java/util/HashMap$Node") (16 : Int32) [.null, .null, .null, .null, .null, .null, .null, .null, .null, .null, .null, .null, .null, .null, .null, .null] .null := (Arv.new A131 (by decide)).pad (pad_rep [] .null 16)
  have k138 : Rt p e below T131 (mkF m 136 #[sr a1, .val .null, si 0, si 0, si 16, si 12, un, un, un, un, un, un, un, un] [vR b131]) s₁ m #[(.ref a1)] 14 := fun t k => k130 t (st131 t k)
  have k139 := f_as X131 hx k138 (H 28 rfl) (l' := #[sr a1, .val .null, si 0, si 0, si 16, si 12, sr b131, un, un, un, un, un, un, un]) rfl
  have k140 := f_alN X131 hx k139 (H 29 rfl) rfl
  have k141 := f_al X131 hx k140 (H 30 rfl) rfl
  obtain ⟨T142, h142, L142, X142, e142, W142, B142, N142, Z142, k142⟩ := f_pF X131 hx hZ hown (hww 104 rfl) Via.refl e131 F134 (snMP hw) (Or.inl (hww 105 rfl)) (hww 27 rfl) 0 (by decide) rfl rfl (ty := (.array (.object "java/util/HashMap$Node"))) (by decide) rfl rfl N128 ge_a1 Z135 k141 (H 31 rfl) rfl
  have F143 := V137.other W142 (nG B128.lt (Nat.le_of_eq g131.symm))
  have K144 := kw K136 W142 0 rfl
  have k145 := f_nlN X142 hx k142 (H 32 rfl) rfl
  have k146 := f_inY X142 hx k145 (H 33 rfl) (pc' := 353) (by decide)
  have k147 := f_al X142 hx k146 (H 34 rfl) rfl
  exact fin_r X142 hx (w := (.ref b131)) hrt hlk rfl (Or.inr (Or.inr (Or.inr (Or.inr ⟨rfl, rfl, rfl⟩)))) k147 (H 35 rfl) (by rw [e142]; exact ⟨b131, k131, rfl, N142, K144, z133, B142, F143, O131⟩) (by decide) (by decide)
theorem ef_17_RIRRII (m : MethodId) (x0 : Addr) (x1 : Int32) (x2 : Addr) (x3 : Addr) (x4 : Int32) (x5 : Int32) : entryFrame m #[(.ref x0), (.int x1), (.ref x2), (.ref x3), (.int x4), (.int x5)] 13 = mkF m 0 #[.val (.ref x0), .val (.int x1), .val (.ref x2), .val (.ref x3), .val (.int x4), .val (.int x5), .unset, .unset, .unset, .unset, .unset, .unset, .unset] [] := by first | (simp [entryFrame, mkF, argsToLocals, Value.category]; done) | rfl
theorem pd__28_29_5bLjava_2futil_2fHashMap_24Node_3b : parseMethodDescriptor "()[Ljava/util/HashMap$Node;" = some ⟨[], some (.array (.object "java/util/HashMap$Node"))⟩ := by decide +kernel
theorem pd__28ILjava_2flang_2fObject_3bLjava_2flang_2fObject_3bLjava_2futil_2fHashMap_24Node_3b_29Ljava_2futil_2fHashMap_24Node_3b : parseMethodDescriptor "(ILjava/lang/Object;Ljava/lang/Object;Ljava/util/HashMap$Node;)Ljava/util/HashMap$Node;" = some ⟨[.int, (.object "java/lang/Object"), (.object "java/lang/Object"), (.object "java/util/HashMap$Node")], some (.object "java/util/HashMap$Node")⟩ := by decide +kernel
theorem pd__28Z_29V : parseMethodDescriptor "(Z)V" = some ⟨[.boolean], none⟩ := by decide +kernel
def Q_pvl0 (Z : State) (a1 : Addr) (p1 : Int32) (a2 a3 : Addr) (ix : Int32) (h0 : Heap) (n0 : Nat) (v : Option Value) (h : Heap) (L : List Loc) : Prop := ∃ (nd : Addr) (tb : Addr) (kt : ClassId), v = some .null ∧ Fr n0 L ∧ Keep h0 h [a1] ∧ h0.size ≤ nd ∧ h0.size ≤ tb ∧ tb ≠ nd ∧ OBJ Z h a1 "java/util/HashMap" lyMP [(.ref tb), (.int (1 : Int32)), (.int (1 : Int32)), (.int (12 : Int32)), .null, (.float (1061158912 : UInt32))] ∧ Arv Z h tb kt (.object "java/util/HashMap$Node") (16 : Int32) ([.null, .null, .null, .null, .null, .null, .null, .null, .null, .null, .null, .null, .null, .null, .null, .null].set ix.toNatClampNeg (.ref nd)) .null ∧ OBJ Z h nd "java/util/HashMap$Node" lyND [(.int p1), (.ref a2), (.ref a3), .null] ∧ (Ovr Z kt "java/util/HashMap$Node")
theorem pvl0 (l : Launch) (Z : State) (a0 : Array Value) (hw : HW Z a0) (ws : List Jvm.Cond) (a1 : Addr) (p1 : Int32) (a2 a3 : Addr) (ix : Int32) (h0 : Heap) (n0 : Nat) (Z0 : n0 ≤ h0.size) (Fk0 : OBJ Z h0 a1 "java/util/HashMap" lyMP [.null, zI, zI, zI, .null, (.float (1061158912 : UInt32))]) (ge_a1 : n0 ≤ a1) (hix : (15 : Int32) &&& p1 = ix) (hin : ¬ ix < (0 : Int32) ∧ ix < (16 : Int32)) :
    Met l mn35 jdk_69_method_16_code 13 (some (.object "java/lang/Object")) ws (rm 3 2 20 47) #[(.ref a1), (.int p1), (.ref a2), (.ref a3), zI, (.int (1 : Int32))] Z h0 (Q_pvl0 Z a1 p1 a2 a3 ix h0 n0) := by
  refine Met.intro (plainFor_of_name pn_java_2futil_2fHashMap) ?_
  intro p e s m below meth c s₁ hx hby hml hZ hown hnm hrt hlk X0 e0
  have N0 := Fr.nil n0
  have hww := @hvw _ _ hw
  have k0 := k_e (p := p) (e := e) (below := below) (s := s₁) (ef_17_RIRRII m a1 p1 a2 a3 (0 : Int32) (1 : Int32))
  have K0 := Keep.refl h0 [a1]
  have H := @dch _ _ _ hby D17
  have k101 := f_alN X0 hx k0 (H 0 rfl) rfl
  obtain ⟨T102, X102, e102, k103⟩ := gFs X0 hx hZ hown (hww 104 rfl) e0 (Fk0.g 0 (v := .null) (by decide) rfl rfl) k101 (H 1 rfl)
  have k104 := f_dup X102 hx k103 (H 2 rfl) rfl
  have k105 := f_ns X102 hx k104 (H 3 rfl) (l' := #[sr a1, si p1, sr a2, sr a3, si 0, si 1, .val .null, un, un, un, un, un, un]) rfl
  have k106 := f_inY X102 hx k105 (H 4 rfl) (pc' := 19) (by decide)
  have k107 := f_alN X102 hx k106 (H 5 rfl) rfl
  obtain ⟨_, T108, L108, X108, hQ108, k108⟩ := c_V (W := 0) (x := mn34) X102 hx hZ hown (hww 106 rfl) (hww 107 rfl) (notFace_of_selects (args := #[]) (mvT hZ (hww 109 rfl))) (hww 109 rfl) (hww 108 rfl) (hww 110 rfl) (hww 28 rfl) (by decide) Fk0.1 (rsz l Z a0 hw [] a1 h0 n0 Z0 Fk0 ge_a1) e102 (argsL := []) (rest := []) rfl (by rw [hml]; rfl) k107 rfl (H 6 rfl) (lenOf pd__28_29_5bLjava_2futil_2fHashMap_24Node_3b rfl) (b5 rfl)
  obtain ⟨h108, e108⟩ : ∃ h', T108.heap = h' := ⟨_, rfl⟩
  rw [e108] at hQ108
  obtain ⟨tb108, kt108, rfl, N108q, K108, Zx108_0, R108_0, R108_1, P108_0⟩ := hQ108
  have N109 := Fr.app N0 N108q
  have Z110 : n0 ≤ h108.size := Nat.le_trans Z0 K108.1
  have K111 := Keep.trans K0 K108 (allS (oL 0 rfl) all0)
  have k112 := f_dup X108 hx k108 (H 7 rfl) rfl
  have k113 := f_as X108 hx k112 (H 8 rfl) (l' := #[sr a1, si p1, sr a2, sr a3, si 0, si 1, sr tb108, un, un, un, un, un, un]) rfl
  have k114 := f_len X108 hx hZ e108 R108_1 k113 (H 9 rfl)
  have k115 := f_is X108 hx k114 (H 10 rfl) (l' := #[sr a1, si p1, sr a2, sr a3, si 0, si 1, sr tb108, un, si 16, un, un, un, un]) rfl
  have k116 := f_al X108 hx k115 (H 11 rfl) rfl
  have k117 := f_il X108 hx k116 (H 12 rfl) rfl
  have k118 := f_ic X108 hx k117 (H 13 rfl) (v := 1) rfl
  have k119 := f_isub X108 hx k118 (H 14 rfl) (r := 15) (by decide)
  have k120 := f_ilN X108 hx k119 (H 15 rfl) rfl
  have k121 := f_iand X108 hx k120 (H 16 rfl) rfl
  have k122 := f_dup X108 hx k121 (H 17 rfl) rfl
  have k123 := f_is X108 hx k122 (H 18 rfl) (l' := #[sr a1, si p1, sr a2, sr a3, si 0, si 1, sr tb108, un, si 16, si ((15 : Int32) &&& p1), un, un, un]) rfl
  have k124 : Rt p e below T108 (mkF m 40 #[sr a1, si p1, sr a2, sr a3, si 0, si 1, sr tb108, un, si 16, si ix, un, un, un] [vI ix, vR tb108]) s₁ m #[(.ref a1), (.int p1), (.ref a2), (.ref a3), zI, (.int (1 : Int32))] 13 := fun t q => k123 t (castTop (by rw [show ((15 : Int32) &&& p1) = ix from hix] <;> rfl) q)
  have k125 := f_aal X108 hx hZ e108 R108_1 k124 (H 19 rfl) (v := .null) rfl hin (own_nul16 ix)
  have k126 := f_dup X108 hx k125 (H 20 rfl) rfl
  have k127 := f_ns X108 hx k126 (H 21 rfl) (l' := #[sr a1, si p1, sr a2, sr a3, si 0, si 1, sr tb108, .val .null, si 16, si ix, un, un, un]) rfl
  have k128 := f_nnN X108 hx k127 (H 22 rfl)
  have k129 := f_al X108 hx k128 (H 23 rfl) rfl
  have k130 := f_il X108 hx k129 (H 24 rfl) rfl
  have k131 := f_alN X108 hx k130 (H 25 rfl) rfl
  have k132 := f_ilN X108 hx k131 (H 26 rfl) rfl
  have k133 := f_alN X108 hx k132 (H 27 rfl) rfl
  have k134 := f_alN X108 hx k133 (H 28 rfl) rfl
  have k135 := f_an X108 hx k134 (H 29 rfl)
  obtain ⟨_, T136, L136, X136, hQ136, k136⟩ := c_V (W := 2) (x := mn32) X108 hx hZ hown (hww 115 rfl) (hww 116 rfl) (notFace_of_selects (args := #[]) (mvT hZ (hww 118 rfl))) (hww 118 rfl) (hww 117 rfl) (hww 119 rfl) (hww 28 rfl) (by decide) R108_0.1 (nwn l Z a0 hw [] a1 p1 a2 a3 h108 n0 Z110 ) e108 (argsL := [(.int p1), (.ref a2), (.ref a3), .null]) (rest := [(.int ix), (.ref tb108)]) rfl (by rw [hml]; rfl) k135 rfl (H 30 rfl) (lenOf pd__28ILjava_2flang_2fObject_3bLjava_2flang_2fObject_3bLjava_2futil_2fHashMap_24Node_3b_29Ljava_2futil_2fHashMap_24Node_3b rfl) (b5 rfl)
  obtain ⟨h136, e136⟩ : ∃ h', T136.heap = h' := ⟨_, rfl⟩
  rw [e136] at hQ136
  obtain ⟨nd136, rfl, N136q, K136, Zx136_0, R136_0⟩ := hQ136
  have N137 := Fr.app N109 N136q
  have F138 := R108_0.keep K136 nin0
  have F139 := R108_1.keep K136 nin0
  have Z140 : n0 ≤ h136.size := Nat.le_trans Z110 K136.1
  have K141 := Keep.trans K111 K136 all0
  obtain ⟨T142, h142, L142, X142, e142, W142, V142, N142, Z142, k142⟩ := f_ast X136 hx hZ e136 F139 N137 (Nat.le_trans Z0 Zx108_0) Z140 k136 (H 31 rfl) rfl rfl (fun cc A q => Sto.ofV A q P108_0 (Ins.self R136_0.1)) hin ix.toNatClampNeg rfl (own_in16 (by decide) hin)
  have K143 := K141.wr W142 (Or.inr (Nat.le_trans K0.1 Zx108_0))
  have B144 := F138.other W142 (nL Fk0.lt Zx108_0)
  have B145 := R136_0.other W142 (nG R108_1.lt Zx136_0)
  have k146 := f_go X142 hx k142 (H 32 rfl) (pc' := 259) (by decide)
  have k147 := f_alN X142 hx k146 (H 33 rfl) rfl
  have k148 := f_dup X142 hx k147 (H 34 rfl) rfl
  obtain ⟨T149, X149, e149, k150⟩ := gFs X142 hx hZ hown (hww 135 rfl) e142 (B144.g 2 (v := zI) (by decide) rfl rfl) k148 (H 35 rfl)
  have k151 := f_ic X149 hx k150 (H 36 rfl) (v := 1) rfl
  have k152 := f_iadd X149 hx k151 (H 37 rfl) (r := 1) (by decide)
  obtain ⟨T153, h153, L153, X153, e153, W153, B153, N153, Z153, k153⟩ := f_pF X149 hx hZ hown (hww 135 rfl) Via.refl e149 B144 (snMP hw) (Or.inl (hww 136 rfl)) (hww 27 rfl) 2 (by decide) rfl rfl (ty := .int) (by decide) rfl rfl N142 ge_a1 Z142 k152 (H 38 rfl) rfl
  have F154 := V142.other W153 (nG Fk0.lt Zx108_0)
  have K155 := kw K143 W153 0 rfl
  have B156 := B145.other W153 (nG R108_0.lt Zx136_0)
  have k157 := f_alN X153 hx k153 (H 39 rfl) rfl
  have k158 := f_dup X153 hx k157 (H 40 rfl) rfl
  obtain ⟨T159, X159, e159, k160⟩ := gFs X153 hx hZ hown (hww 137 rfl) e153 (B153.g 1 (v := zI) (by decide) rfl rfl) k158 (H 41 rfl)
  have k161 := f_ic X159 hx k160 (H 42 rfl) (v := 1) rfl
  have k162 := f_iadd X159 hx k161 (H 43 rfl) (r := 1) (by decide)
  have k163 := f_dupX1 X159 hx k162 (H 44 rfl) rfl rfl
  obtain ⟨T164, h164, L164, X164, e164, W164, B164, N164, Z164, k164⟩ := f_pF X159 hx hZ hown (hww 137 rfl) Via.refl e159 B153 (snMP hw) (Or.inl (hww 138 rfl)) (hww 27 rfl) 1 (by decide) rfl rfl (ty := .int) (by decide) rfl rfl N153 ge_a1 Z153 k163 (H 45 rfl) rfl
  have F165 := F154.other W164 (nG Fk0.lt Zx108_0)
  have K166 := kw K155 W164 0 rfl
  have B167 := B156.other W164 (nG R108_0.lt Zx136_0)
  have k168 := f_alN X164 hx k164 (H 46 rfl) rfl
  obtain ⟨T169, X169, e169, k170⟩ := gFs X164 hx hZ hown (hww 111 rfl) e164 (B164.g 3 (v := (.int (12 : Int32))) (by decide) rfl rfl) k168 (H 47 rfl)
  have k171 := f_icY X169 hx k170 (H 48 rfl) (pc' := 292) (flt (by decide)).2.2.2 (by decide)
  have k172 := f_alN X169 hx k171 (H 49 rfl) rfl
  have k173 := f_il X169 hx k172 (H 50 rfl) rfl
  obtain ⟨_, T174, L174, X174, hQ174, k174⟩ := c_V (W := 0) (x := mn33) X169 hx hZ hown (hww 139 rfl) (hww 140 rfl) (notFace_of_selects (args := #[]) (mvT hZ (hww 142 rfl))) (hww 142 rfl) (hww 141 rfl) (hww 143 rfl) (hww 28 rfl) (by decide) B164.1 (ani l Z a0 hw [] a1 h164 n0 Z164 ) e169 (argsL := [(.int (1 : Int32))]) (rest := []) rfl (by rw [hml]; rfl) k173 rfl (H 51 rfl) (lenOf pd__28Z_29V rfl) (b5 rfl)
  obtain ⟨rfl, N174q, e174⟩ := hQ174
  have N175 := Fr.app N164 N174q
  have k176 := f_an X174 hx k174 (H 52 rfl)
  exact fin_r X174 hx (w := .null) hrt hlk rfl (Or.inr (Or.inr (Or.inr (Or.inr ⟨rfl, rfl, rfl⟩)))) k176 (H 53 rfl) (by rw [e174]; exact ⟨nd136, tb108, kt108, rfl, N175, K166, (Nat.le_trans K111.1 Zx136_0), (Nat.le_trans K0.1 Zx108_0), (nL R108_1.lt Zx136_0), B164, F165, B167, P108_0⟩) (by decide) (by decide)
theorem ef_12_RRR (m : MethodId) (x0 : Addr) (x1 : Addr) (x2 : Addr) : entryFrame m #[(.ref x0), (.ref x1), (.ref x2)] 3 = mkF m 0 #[.val (.ref x0), .val (.ref x1), .val (.ref x2)] [] := by first | (simp [entryFrame, mkF, argsToLocals, Value.category]; done) | rfl
theorem pd__28Ljava_2flang_2fObject_3b_29I : parseMethodDescriptor "(Ljava/lang/Object;)I" = some ⟨[(.object "java/lang/Object")], some .int⟩ := by decide +kernel
theorem pd__28ILjava_2flang_2fObject_3bLjava_2flang_2fObject_3bZZ_29Ljava_2flang_2fObject_3b : parseMethodDescriptor "(ILjava/lang/Object;Ljava/lang/Object;ZZ)Ljava/lang/Object;" = some ⟨[.int, (.object "java/lang/Object"), (.object "java/lang/Object"), .boolean, .boolean], some (.object "java/lang/Object")⟩ := by decide +kernel
def Q_put0 (Z : State) (a1 : Addr) (p1 : Int32) (a2 a3 : Addr) (ix : Int32) (b2 : Addr) (kb : ClassId) (cs : Int32) (h0 : Heap) (n0 : Nat) (v : Option Value) (h : Heap) (L : List Loc) : Prop := ∃ (nd : Addr) (tb : Addr) (kt : ClassId), v = some .null ∧ Fr n0 L ∧ Keep h0 h [a1, a2] ∧ h0.size ≤ nd ∧ h0.size ≤ tb ∧ tb ≠ nd ∧ OBJ Z h a1 "java/util/HashMap" lyMP [(.ref tb), (.int (1 : Int32)), (.int (1 : Int32)), (.int (12 : Int32)), .null, (.float (1061158912 : UInt32))] ∧ Arv Z h tb kt (.object "java/util/HashMap$Node") (16 : Int32) ([.null, .null, .null, .null, .null, .null, .null, .null, .null, .null, .null, .null, .null, .null, .null, .null].set ix.toNatClampNeg (.ref nd)) .null ∧ OBJ Z h nd "java/util/HashMap$Node" lyND [(.int p1), (.ref a2), (.ref a3), .null] ∧ OBJ Z h a2 "java/lang/String" lyST [(.ref b2), zI, (.int p1), zI] ∧ Arv Z h b2 kb .byte (1 : Int32) [(.int p1)] zI ∧ (Ovr Z kt "java/util/HashMap$Node")
theorem put0 (l : Launch) (Z : State) (a0 : Array Value) (hw : HW Z a0) (ws : List Jvm.Cond) (a1 : Addr) (p1 : Int32) (a2 a3 : Addr) (ix : Int32) (b2 : Addr) (kb : ClassId) (cs : Int32) (h0 : Heap) (n0 : Nat) (Z0 : n0 ≤ h0.size) (Fk0 : OBJ Z h0 a1 "java/util/HashMap" lyMP [.null, zI, zI, zI, .null, (.float (1061158912 : UInt32))]) (Fk1 : OBJ Z h0 a2 "java/lang/String" lyST [(.ref b2), zI, zI, zI]) (Fk2 : Arv Z h0 b2 kb .byte (1 : Int32) [(.int p1)] zI) (ge_a1 : n0 ≤ a1) (ge_a2 : n0 ≤ a2) (ne_a1_a2 : a1 ≠ a2) (ne_a2_b2 : a2 ≠ b2) (ne_a1_b2 : a1 ≠ b2) (hc3 : p1 &&& (255 : Int32) = p1) (hc4 : ¬ (p1 = (0 : Int32))) (hc5 : p1 ^^^ ((p1.toUInt32 >>> ((16 : Int32) &&& 31).toUInt32).toInt32) = p1) (Scs : Sta Z Z.heap "java/lang/String" "COMPACT_STRINGS" "Z" (.int cs)) (hcs : ¬ (cs = (0 : Int32))) (hix : (15 : Int32) &&& p1 = ix) (hin : ¬ ix < (0 : Int32) ∧ ix < (16 : Int32)) (O0 : Old Z n0 h0) :
    Met l mn36 jdk_69_method_15_code 3 (some (.object "java/lang/Object")) ws (rm 4 2 20 71) #[(.ref a1), (.ref a2), (.ref a3)] Z h0 (Q_put0 Z a1 p1 a2 a3 ix b2 kb cs h0 n0) := by
  refine Met.intro (plainFor_of_name pn_java_2futil_2fHashMap) ?_
  intro p e s m below meth c s₁ hx hby hml hZ hown hnm hrt hlk X0 e0
  have N0 := Fr.nil n0
  have hww := @hvw _ _ hw
  have k0 := k_e (p := p) (e := e) (below := below) (s := s₁) (ef_12_RRR m a1 a2 a3)
  have K0 := Keep.refl h0 [a1, a2]
  have H := @dch _ _ _ hby D12
  have k101 := f_alN X0 hx k0 (H 0 rfl) rfl
  have k102 := f_alN X0 hx k101 (H 1 rfl) rfl
  obtain ⟨_, T103, L103, X103, hQ103, k103⟩ := c_S (W := 1) X0 hx hZ hown (hww 78 rfl) (hww 79 rfl) (hww 28 rfl) (hww 80 rfl) (by decide) (hsh0 l Z a0 hw [] a2 b2 kb p1 cs h0 n0 Z0 Fk1 Fk2 ge_a2 ne_a2_b2 hc3 hc4 hc5 Scs hcs O0) e0 (argsL := [(.ref a2)]) (rest := [(.ref a1)]) rfl (by rw [hml]; rfl) k102 rfl (H 2 rfl) (lenOf pd__28Ljava_2flang_2fObject_3b_29I rfl) (b5 rfl)
  obtain ⟨h103, e103⟩ : ∃ h', T103.heap = h' := ⟨_, rfl⟩
  rw [e103] at hQ103
  obtain ⟨rfl, N103q, K103, R103_0, R103_1⟩ := hQ103
  have N104 := Fr.app N0 N103q
  have F105 := Fk0.keep K103 (ninS ne_a1_a2 nin0)
  have F106 := O0.keep K103 (allS ge_a2 all0)
  have Z107 : n0 ≤ h103.size := Nat.le_trans Z0 K103.1
  have K108 := Keep.trans K0 K103 (allS (oL 1 rfl) all0)
  have k109 := f_alN X103 hx k103 (H 3 rfl) rfl
  have k110 := f_alN X103 hx k109 (H 4 rfl) rfl
  have k111 := f_ic X103 hx k110 (H 5 rfl) (v := 0) rfl
  have k112 := f_ic X103 hx k111 (H 6 rfl) (v := 1) rfl
  obtain ⟨_, T113, L113, X113, hQ113, k113⟩ := c_V (W := 0) (x := mn35) X103 hx hZ hown (hww 99 rfl) (hww 100 rfl) (notFace_of_selects (args := #[]) (mvT hZ (hww 102 rfl))) (hww 102 rfl) (hww 101 rfl) (hww 103 rfl) (hww 28 rfl) (by decide) F105.1 (pvl0 l Z a0 hw [] a1 p1 a2 a3 ix h103 n0 Z107 F105 ge_a1 hix hin) e103 (argsL := [(.int p1), (.ref a2), (.ref a3), zI, (.int (1 : Int32))]) (rest := []) rfl (by rw [hml]; rfl) k112 rfl (H 7 rfl) (lenOf pd__28ILjava_2flang_2fObject_3bLjava_2flang_2fObject_3bZZ_29Ljava_2flang_2fObject_3b rfl) (b5 rfl)
  obtain ⟨h113, e113⟩ : ∃ h', T113.heap = h' := ⟨_, rfl⟩
  rw [e113] at hQ113
  obtain ⟨nd113, tb113, kt113, rfl, N113q, K113, Zx113_0, Zx113_1, Nx113_0, R113_0, R113_1, R113_2, P113_0⟩ := hQ113
  have N114 := Fr.app N104 N113q
  have F115 := F106.keep K113 (allS ge_a1 all0)
  have F116 := R103_0.keep K113 (ninS (Ne.symm ne_a1_a2) nin0)
  have F117 := R103_1.keep K113 (ninS (Ne.symm ne_a1_b2) nin0)
  have Z118 : n0 ≤ h113.size := Nat.le_trans Z107 K113.1
  have K119 := Keep.trans K108 K113 (allS (oL 0 rfl) all0)
  exact fin_r X113 hx (w := .null) hrt hlk rfl (Or.inr (Or.inr (Or.inr (Or.inr ⟨rfl, rfl, rfl⟩)))) k113 (H 8 rfl) (by rw [e113]; exact ⟨nd113, tb113, kt113, rfl, N114, K119, (Nat.le_trans K108.1 Zx113_0), (Nat.le_trans K108.1 Zx113_1), Nx113_0, R113_0, R113_1, R113_2, F116, F117, P113_0⟩) (by decide) (by decide)
def Q_pvl1 (Z : State) (a1 : Addr) (p1 : Int32) (a2 a3 : Addr) (ix : Int32) (tb : Addr) (kt : ClassId) (tl : List Value) (sz mc : Int32) (h0 : Heap) (n0 : Nat) (v : Option Value) (h : Heap) (L : List Loc) : Prop := ∃ (nd : Addr), v = some .null ∧ Fr n0 L ∧ Keep h0 h [a1, tb] ∧ h0.size ≤ nd ∧ OBJ Z h a1 "java/util/HashMap" lyMP [(.ref tb), (.int (sz + (1 : Int32))), (.int (mc + (1 : Int32))), (.int (12 : Int32)), .null, (.float (1061158912 : UInt32))] ∧ Arv Z h tb kt (.object "java/util/HashMap$Node") (16 : Int32) (tl.set ix.toNatClampNeg (.ref nd)) .null ∧ OBJ Z h nd "java/util/HashMap$Node" lyND [(.int p1), (.ref a2), (.ref a3), .null]
theorem pvl1 (l : Launch) (Z : State) (a0 : Array Value) (hw : HW Z a0) (ws : List Jvm.Cond) (a1 : Addr) (p1 : Int32) (a2 a3 : Addr) (ix : Int32) (tb : Addr) (kt : ClassId) (tl : List Value) (sz mc : Int32) (h0 : Heap) (n0 : Nat) (Z0 : n0 ≤ h0.size) (Fk0 : OBJ Z h0 a1 "java/util/HashMap" lyMP [(.ref tb), (.int sz), (.int mc), (.int (12 : Int32)), .null, (.float (1061158912 : UInt32))]) (Fk1 : Arv Z h0 tb kt (.object "java/util/HashMap$Node") (16 : Int32) tl .null) (ge_a1 : n0 ≤ a1) (ge_tb : n0 ≤ tb) (ne_a1_tb : a1 ≠ tb) (hix : (15 : Int32) &&& p1 = ix) (hin : ¬ ix < (0 : Int32) ∧ ix < (16 : Int32)) (hlen : tl.length = 16) (hnul : tl.getD ix.toNatClampNeg .null = .null) (Ov : Ovr Z kt "java/util/HashMap$Node") (hth : ¬ ((12 : Int32) < sz + (1 : Int32))) :
    Met l mn35 jdk_69_method_16_code 13 (some (.object "java/lang/Object")) ws (rm 3 1 4 47) #[(.ref a1), (.int p1), (.ref a2), (.ref a3), zI, (.int (1 : Int32))] Z h0 (Q_pvl1 Z a1 p1 a2 a3 ix tb kt tl sz mc h0 n0) := by
  refine Met.intro (plainFor_of_name pn_java_2futil_2fHashMap) ?_
  intro p e s m below meth c s₁ hx hby hml hZ hown hnm hrt hlk X0 e0
  have N0 := Fr.nil n0
  have hww := @hvw _ _ hw
  have k0 := k_e (p := p) (e := e) (below := below) (s := s₁) (ef_17_RIRRII m a1 p1 a2 a3 (0 : Int32) (1 : Int32))
  have K0 := Keep.refl h0 [a1, tb]
  have H := @dch _ _ _ hby D17
  have k101 := f_alN X0 hx k0 (H 0 rfl) rfl
  obtain ⟨T102, X102, e102, k103⟩ := gFs X0 hx hZ hown (hww 104 rfl) e0 (Fk0.g 0 (v := (.ref tb)) (by decide) rfl rfl) k101 (H 1 rfl)
  have k104 := f_dup X102 hx k103 (H 2 rfl) rfl
  have k105 := f_as X102 hx k104 (H 3 rfl) (l' := #[sr a1, si p1, sr a2, sr a3, si 0, si 1, sr tb, un, un, un, un, un, un]) rfl
  have k106 := f_inN X102 hx k105 (H 4 rfl)
  have k107 := f_al X102 hx k106 (H 54 rfl) rfl
  have k108 := f_len X102 hx hZ e102 Fk1 k107 (H 55 rfl)
  have k109 := f_dup X102 hx k108 (H 56 rfl) rfl
  have k110 := f_is X102 hx k109 (H 57 rfl) (l' := #[sr a1, si p1, sr a2, sr a3, si 0, si 1, sr tb, un, si 16, un, un, un, un]) rfl
  have k111 := f_ifY X102 hx k110 (H 58 rfl) (pc' := 29) ((if0 _ _).trans (feq (by decide)).2) (by decide)
  have k112 := f_al X102 hx k111 (H 11 rfl) rfl
  have k113 := f_il X102 hx k112 (H 12 rfl) rfl
  have k114 := f_ic X102 hx k113 (H 13 rfl) (v := 1) rfl
  have k115 := f_isub X102 hx k114 (H 14 rfl) (r := 15) (by decide)
  have k116 := f_ilN X102 hx k115 (H 15 rfl) rfl
  have k117 := f_iand X102 hx k116 (H 16 rfl) rfl
  have k118 := f_dup X102 hx k117 (H 17 rfl) rfl
  have k119 := f_is X102 hx k118 (H 18 rfl) (l' := #[sr a1, si p1, sr a2, sr a3, si 0, si 1, sr tb, un, si 16, si ((15 : Int32) &&& p1), un, un, un]) rfl
  have k120 : Rt p e below T102 (mkF m 40 #[sr a1, si p1, sr a2, sr a3, si 0, si 1, sr tb, un, si 16, si ix, un, un, un] [vI ix, vR tb]) s₁ m #[(.ref a1), (.int p1), (.ref a2), (.ref a3), zI, (.int (1 : Int32))] 13 := fun t q => k119 t (castTop (by rw [show ((15 : Int32) &&& p1) = ix from hix] <;> rfl) q)
  have k121 := f_aal X102 hx hZ e102 Fk1 k120 (H 19 rfl) (v := .null) rfl hin hnul
  have k122 := f_dup X102 hx k121 (H 20 rfl) rfl
  have k123 := f_ns X102 hx k122 (H 21 rfl) (l' := #[sr a1, si p1, sr a2, sr a3, si 0, si 1, sr tb, .val .null, si 16, si ix, un, un, un]) rfl
  have k124 := f_nnN X102 hx k123 (H 22 rfl)
  have k125 := f_al X102 hx k124 (H 23 rfl) rfl
  have k126 := f_il X102 hx k125 (H 24 rfl) rfl
  have k127 := f_alN X102 hx k126 (H 25 rfl) rfl
  have k128 := f_ilN X102 hx k127 (H 26 rfl) rfl
  have k129 := f_alN X102 hx k128 (H 27 rfl) rfl
  have k130 := f_alN X102 hx k129 (H 28 rfl) rfl
  have k131 := f_an X102 hx k130 (H 29 rfl)
  obtain ⟨_, T132, L132, X132, hQ132, k132⟩ := c_V (W := 2) (x := mn32) X102 hx hZ hown (hww 115 rfl) (hww 116 rfl) (notFace_of_selects (args := #[]) (mvT hZ (hww 118 rfl))) (hww 118 rfl) (hww 117 rfl) (hww 119 rfl) (hww 28 rfl) (by decide) Fk0.1 (nwn l Z a0 hw [] a1 p1 a2 a3 h0 n0 Z0 ) e102 (argsL := [(.int p1), (.ref a2), (.ref a3), .null]) (rest := [(.int ix), (.ref tb)]) rfl (by rw [hml]; rfl) k131 rfl (H 30 rfl) (lenOf pd__28ILjava_2flang_2fObject_3bLjava_2flang_2fObject_3bLjava_2futil_2fHashMap_24Node_3b_29Ljava_2futil_2fHashMap_24Node_3b rfl) (b5 rfl)
  obtain ⟨h132, e132⟩ : ∃ h', T132.heap = h' := ⟨_, rfl⟩
  rw [e132] at hQ132
  obtain ⟨nd132, rfl, N132q, K132, Zx132_0, R132_0⟩ := hQ132
  have N133 := Fr.app N0 N132q
  have F134 := Fk0.keep K132 nin0
  have F135 := Fk1.keep K132 nin0
  have Z136 : n0 ≤ h132.size := Nat.le_trans Z0 K132.1
  have K137 := Keep.trans K0 K132 all0
  obtain ⟨T138, h138, L138, X138, e138, W138, V138, N138, Z138, k138⟩ := f_ast X132 hx hZ e132 F135 N133 ge_tb Z136 k132 (H 31 rfl) rfl rfl (fun cc A q => Sto.ofV A q Ov (Ins.self R132_0.1)) hin ix.toNatClampNeg rfl (own_in16 hlen hin)
  have K139 := kw K137 W138 1 rfl
  have B140 := F134.other W138 ne_a1_tb
  have B141 := R132_0.other W138 (nG Fk1.lt Zx132_0)
  have k142 := f_go X138 hx k138 (H 32 rfl) (pc' := 259) (by decide)
  have k143 := f_alN X138 hx k142 (H 33 rfl) rfl
  have k144 := f_dup X138 hx k143 (H 34 rfl) rfl
  obtain ⟨T145, X145, e145, k146⟩ := gFs X138 hx hZ hown (hww 135 rfl) e138 (B140.g 2 (v := (.int mc)) (by decide) rfl rfl) k144 (H 35 rfl)
  have k147 := f_ic X145 hx k146 (H 36 rfl) (v := 1) rfl
  have k148 := f_iadd X145 hx k147 (H 37 rfl) rfl
  obtain ⟨T149, h149, L149, X149, e149, W149, B149, N149, Z149, k149⟩ := f_pF X145 hx hZ hown (hww 135 rfl) Via.refl e145 B140 (snMP hw) (Or.inl (hww 136 rfl)) (hww 27 rfl) 2 (by decide) rfl rfl (ty := .int) (by decide) rfl rfl N138 ge_a1 Z138 k148 (H 38 rfl) rfl
  have F150 := V138.other W149 (Ne.symm ne_a1_tb)
  have K151 := kw K139 W149 0 rfl
  have B152 := B141.other W149 (nG Fk0.lt Zx132_0)
  have k153 := f_alN X149 hx k149 (H 39 rfl) rfl
  have k154 := f_dup X149 hx k153 (H 40 rfl) rfl
  obtain ⟨T155, X155, e155, k156⟩ := gFs X149 hx hZ hown (hww 137 rfl) e149 (B149.g 1 (v := (.int sz)) (by decide) rfl rfl) k154 (H 41 rfl)
  have k157 := f_ic X155 hx k156 (H 42 rfl) (v := 1) rfl
  have k158 := f_iadd X155 hx k157 (H 43 rfl) rfl
  have k159 := f_dupX1 X155 hx k158 (H 44 rfl) rfl rfl
  obtain ⟨T160, h160, L160, X160, e160, W160, B160, N160, Z160, k160⟩ := f_pF X155 hx hZ hown (hww 137 rfl) Via.refl e155 B149 (snMP hw) (Or.inl (hww 138 rfl)) (hww 27 rfl) 1 (by decide) rfl rfl (ty := .int) (by decide) rfl rfl N149 ge_a1 Z149 k159 (H 45 rfl) rfl
  have F161 := F150.other W160 (Ne.symm ne_a1_tb)
  have K162 := kw K151 W160 0 rfl
  have B163 := B152.other W160 (nG Fk0.lt Zx132_0)
  have k164 := f_alN X160 hx k160 (H 46 rfl) rfl
  obtain ⟨T165, X165, e165, k166⟩ := gFs X160 hx hZ hown (hww 111 rfl) e160 (B160.g 3 (v := (.int (12 : Int32))) (by decide) rfl rfl) k164 (H 47 rfl)
  have k167 := f_icY X165 hx k166 (H 48 rfl) (pc' := 292) (flt hth).2.2.2 (by decide)
  have k168 := f_alN X165 hx k167 (H 49 rfl) rfl
  have k169 := f_il X165 hx k168 (H 50 rfl) rfl
  obtain ⟨_, T170, L170, X170, hQ170, k170⟩ := c_V (W := 0) (x := mn33) X165 hx hZ hown (hww 139 rfl) (hww 140 rfl) (notFace_of_selects (args := #[]) (mvT hZ (hww 142 rfl))) (hww 142 rfl) (hww 141 rfl) (hww 143 rfl) (hww 28 rfl) (by decide) B160.1 (ani l Z a0 hw [] a1 h160 n0 Z160 ) e165 (argsL := [(.int (1 : Int32))]) (rest := []) rfl (by rw [hml]; rfl) k169 rfl (H 51 rfl) (lenOf pd__28Z_29V rfl) (b5 rfl)
  obtain ⟨rfl, N170q, e170⟩ := hQ170
  have N171 := Fr.app N160 N170q
  have k172 := f_an X170 hx k170 (H 52 rfl)
  exact fin_r X170 hx (w := .null) hrt hlk rfl (Or.inr (Or.inr (Or.inr (Or.inr ⟨rfl, rfl, rfl⟩)))) k172 (H 53 rfl) (by rw [e170]; exact ⟨nd132, rfl, N171, K162, (Nat.le_trans K0.1 Zx132_0), B160, F161, B163⟩) (by decide) (by decide)
def Q_put1 (Z : State) (a1 : Addr) (p1 : Int32) (a2 a3 : Addr) (ix : Int32) (tb : Addr) (kt : ClassId) (tl : List Value) (sz mc : Int32) (b2 : Addr) (kb : ClassId) (cs : Int32) (h0 : Heap) (n0 : Nat) (v : Option Value) (h : Heap) (L : List Loc) : Prop := ∃ (nd : Addr), v = some .null ∧ Fr n0 L ∧ Keep h0 h [a1, a2, tb] ∧ h0.size ≤ nd ∧ OBJ Z h a1 "java/util/HashMap" lyMP [(.ref tb), (.int (sz + (1 : Int32))), (.int (mc + (1 : Int32))), (.int (12 : Int32)), .null, (.float (1061158912 : UInt32))] ∧ Arv Z h tb kt (.object "java/util/HashMap$Node") (16 : Int32) (tl.set ix.toNatClampNeg (.ref nd)) .null ∧ OBJ Z h nd "java/util/HashMap$Node" lyND [(.int p1), (.ref a2), (.ref a3), .null] ∧ OBJ Z h a2 "java/lang/String" lyST [(.ref b2), zI, (.int p1), zI] ∧ Arv Z h b2 kb .byte (1 : Int32) [(.int p1)] zI
theorem put1 (l : Launch) (Z : State) (a0 : Array Value) (hw : HW Z a0) (ws : List Jvm.Cond) (a1 : Addr) (p1 : Int32) (a2 a3 : Addr) (ix : Int32) (tb : Addr) (kt : ClassId) (tl : List Value) (sz mc : Int32) (b2 : Addr) (kb : ClassId) (cs : Int32) (h0 : Heap) (n0 : Nat) (Z0 : n0 ≤ h0.size) (Fk0 : OBJ Z h0 a1 "java/util/HashMap" lyMP [(.ref tb), (.int sz), (.int mc), (.int (12 : Int32)), .null, (.float (1061158912 : UInt32))]) (Fk1 : Arv Z h0 tb kt (.object "java/util/HashMap$Node") (16 : Int32) tl .null) (Fk2 : OBJ Z h0 a2 "java/lang/String" lyST [(.ref b2), zI, zI, zI]) (Fk3 : Arv Z h0 b2 kb .byte (1 : Int32) [(.int p1)] zI) (ge_a1 : n0 ≤ a1) (ge_a2 : n0 ≤ a2) (ge_tb : n0 ≤ tb) (ne_a1_a2 : a1 ≠ a2) (ne_a2_b2 : a2 ≠ b2) (ne_a1_b2 : a1 ≠ b2) (ne_a1_tb : a1 ≠ tb) (ne_tb_a2 : tb ≠ a2) (ne_tb_b2 : tb ≠ b2) (hc3 : p1 &&& (255 : Int32) = p1) (hc4 : ¬ (p1 = (0 : Int32))) (hc5 : p1 ^^^ ((p1.toUInt32 >>> ((16 : Int32) &&& 31).toUInt32).toInt32) = p1) (Scs : Sta Z Z.heap "java/lang/String" "COMPACT_STRINGS" "Z" (.int cs)) (hcs : ¬ (cs = (0 : Int32))) (hix : (15 : Int32) &&& p1 = ix) (hin : ¬ ix < (0 : Int32) ∧ ix < (16 : Int32)) (hlen : tl.length = 16) (hnul : tl.getD ix.toNatClampNeg .null = .null) (Ov : Ovr Z kt "java/util/HashMap$Node") (hth : ¬ ((12 : Int32) < sz + (1 : Int32))) (O0 : Old Z n0 h0) :
    Met l mn36 jdk_69_method_15_code 3 (some (.object "java/lang/Object")) ws (rm 4 1 4 71) #[(.ref a1), (.ref a2), (.ref a3)] Z h0 (Q_put1 Z a1 p1 a2 a3 ix tb kt tl sz mc b2 kb cs h0 n0) := by
  refine Met.intro (plainFor_of_name pn_java_2futil_2fHashMap) ?_
  intro p e s m below meth c s₁ hx hby hml hZ hown hnm hrt hlk X0 e0
  have N0 := Fr.nil n0
  have hww := @hvw _ _ hw
  have k0 := k_e (p := p) (e := e) (below := below) (s := s₁) (ef_12_RRR m a1 a2 a3)
  have K0 := Keep.refl h0 [a1, a2, tb]
  have H := @dch _ _ _ hby D12
  have k101 := f_alN X0 hx k0 (H 0 rfl) rfl
  have k102 := f_alN X0 hx k101 (H 1 rfl) rfl
  obtain ⟨_, T103, L103, X103, hQ103, k103⟩ := c_S (W := 1) X0 hx hZ hown (hww 78 rfl) (hww 79 rfl) (hww 28 rfl) (hww 80 rfl) (by decide) (hsh0 l Z a0 hw [] a2 b2 kb p1 cs h0 n0 Z0 Fk2 Fk3 ge_a2 ne_a2_b2 hc3 hc4 hc5 Scs hcs O0) e0 (argsL := [(.ref a2)]) (rest := [(.ref a1)]) rfl (by rw [hml]; rfl) k102 rfl (H 2 rfl) (lenOf pd__28Ljava_2flang_2fObject_3b_29I rfl) (b5 rfl)
  obtain ⟨h103, e103⟩ : ∃ h', T103.heap = h' := ⟨_, rfl⟩
  rw [e103] at hQ103
  obtain ⟨rfl, N103q, K103, R103_0, R103_1⟩ := hQ103
  have N104 := Fr.app N0 N103q
  have F105 := Fk0.keep K103 (ninS ne_a1_a2 nin0)
  have F106 := Fk1.keep K103 (ninS ne_tb_a2 nin0)
  have F107 := O0.keep K103 (allS ge_a2 all0)
  have Z108 : n0 ≤ h103.size := Nat.le_trans Z0 K103.1
  have K109 := Keep.trans K0 K103 (allS (oL 1 rfl) all0)
  have k110 := f_alN X103 hx k103 (H 3 rfl) rfl
  have k111 := f_alN X103 hx k110 (H 4 rfl) rfl
  have k112 := f_ic X103 hx k111 (H 5 rfl) (v := 0) rfl
  have k113 := f_ic X103 hx k112 (H 6 rfl) (v := 1) rfl
  obtain ⟨_, T114, L114, X114, hQ114, k114⟩ := c_V (W := 0) (x := mn35) X103 hx hZ hown (hww 99 rfl) (hww 100 rfl) (notFace_of_selects (args := #[]) (mvT hZ (hww 102 rfl))) (hww 102 rfl) (hww 101 rfl) (hww 103 rfl) (hww 28 rfl) (by decide) F105.1 (pvl1 l Z a0 hw [] a1 p1 a2 a3 ix tb kt tl sz mc h103 n0 Z108 F105 F106 ge_a1 ge_tb ne_a1_tb hix hin hlen hnul Ov hth) e103 (argsL := [(.int p1), (.ref a2), (.ref a3), zI, (.int (1 : Int32))]) (rest := []) rfl (by rw [hml]; rfl) k113 rfl (H 7 rfl) (lenOf pd__28ILjava_2flang_2fObject_3bLjava_2flang_2fObject_3bZZ_29Ljava_2flang_2fObject_3b rfl) (b5 rfl)
  obtain ⟨h114, e114⟩ : ∃ h', T114.heap = h' := ⟨_, rfl⟩
  rw [e114] at hQ114
  obtain ⟨nd114, rfl, N114q, K114, Zx114_0, R114_0, R114_1, R114_2⟩ := hQ114
  have N115 := Fr.app N104 N114q
  have F116 := F107.keep K114 (allS ge_a1 (allS ge_tb all0))
  have F117 := R103_0.keep K114 (ninS (Ne.symm ne_a1_a2) (ninS (Ne.symm ne_tb_a2) nin0))
  have F118 := R103_1.keep K114 (ninS (Ne.symm ne_a1_b2) (ninS (Ne.symm ne_tb_b2) nin0))
  have Z119 : n0 ≤ h114.size := Nat.le_trans Z108 K114.1
  have K120 := Keep.trans K109 K114 (allS (oL 0 rfl) (allS (oL 2 rfl) all0))
  exact fin_r X114 hx (w := .null) hrt hlk rfl (Or.inr (Or.inr (Or.inr (Or.inr ⟨rfl, rfl, rfl⟩)))) k114 (H 8 rfl) (by rw [e114]; exact ⟨nd114, rfl, N115, K120, (Nat.le_trans K109.1 Zx114_0), R114_0, R114_1, R114_2, F117, F118⟩) (by decide) (by decide)
theorem ef_57_RR (m : MethodId) (x0 : Addr) (x1 : Addr) : entryFrame m #[(.ref x0), (.ref x1)] 3 = mkF m 0 #[.val (.ref x0), .val (.ref x1), .unset] [] := by first | (simp [entryFrame, mkF, argsToLocals, Value.category]; done) | rfl
def Q_leq (Z : State) (a1 : Addr) (k1 : ClassId) (a2 : Addr) (k2 : ClassId) (p1 : Int32) (h0 : Heap) (n0 : Nat) (v : Option Value) (h : Heap) (L : List Loc) : Prop := v = some (.int (1 : Int32)) ∧ Fr n0 L ∧ h = h0
theorem leq (l : Launch) (Z : State) (a0 : Array Value) (hw : HW Z a0) (ws : List Jvm.Cond) (a1 : Addr) (k1 : ClassId) (a2 : Addr) (k2 : ClassId) (p1 : Int32) (h0 : Heap) (n0 : Nat) (Z0 : n0 ≤ h0.size) (Fk0 : Arv Z h0 a1 k1 .byte (1 : Int32) [(.int p1)] zI) (Fk1 : Arv Z h0 a2 k2 .byte (1 : Int32) [(.int p1)] zI) :
    Met l mn37 jdk_43_method_13_code 3 (some .boolean) ws (rm 0 0 0 0) #[(.ref a1), (.ref a2)] Z h0 (Q_leq Z a1 k1 a2 k2 p1 h0 n0) := by
  refine Met.intro (plainFor_of_name pn_java_2flang_2fStringLatin1) ?_
  intro p e s m below meth c s₁ hx hby hml hZ hown hnm hrt hlk X0 e0
  have N0 := Fr.nil n0
  have hww := @hvw _ _ hw
  have k0 := k_e (p := p) (e := e) (below := below) (s := s₁) (ef_57_RR m a1 a2)
  have H := @dch _ _ _ hby D57
  have k101 := f_alN X0 hx k0 (H 0 rfl) rfl
  have k102 := f_len X0 hx hZ e0 Fk0 k101 (H 1 rfl)
  have k103 := f_alN X0 hx k102 (H 2 rfl) rfl
  have k104 := f_len X0 hx hZ e0 Fk1 k103 (H 3 rfl)
  have k105 := f_icN X0 hx k104 (H 4 rfl) (teq (by decide)).2
  have k106 := f_ic X0 hx k105 (H 5 rfl) (v := 0) rfl
  have k107 := f_isN X0 hx k106 (H 6 rfl) (l' := #[sr a1, sr a2, si 0]) rfl
  have k108 := f_ilN X0 hx k107 (H 7 rfl) rfl
  have k109 := f_alN X0 hx k108 (H 8 rfl) rfl
  have k110 := f_len X0 hx hZ e0 Fk0 k109 (H 9 rfl)
  have k111 := f_icN X0 hx k110 (H 10 rfl) (tlt (by decide)).2.1
  have k112 := f_alN X0 hx k111 (H 11 rfl) rfl
  have k113 := f_ilN X0 hx k112 (H 12 rfl) rfl
  obtain ⟨c114, Ar114, -, As114, An114, Ah114, -⟩ := id Fk0
  have hin114 : ¬ ((0 : Int32) < 0 ∨ c114.slots.size ≤ ((0 : Int32)).toNatClampNeg) := inb_of As114 ⟨by decide, by decide⟩
  have hat114 : c114.slots[((0 : Int32)).toNatClampNeg]? = some (.int p1) := Has.at Ah114 hin114 rfl
  have k115 : Rt p e below s₁ (mkF m 18 #[sr a1, sr a2, si 0] [vI p1]) s₁ m #[(.ref a1), (.ref a2)] 3 := fun t k => k113 t (by
    show Sp p e below s₁ (mkF m 17 #[sr a1, sr a2, si 0] [vI 0, vR a1]) _
    refine X0.baloadBytes hx (j := (0 : Int32)) (v := (.int p1)) (by rw [e0]; exact Ar114.1) (State.isArrayOf_alike hZ.alike Ar114.2.1) Ar114.2.2 hin114 hat114 (g := (mkF m 17 #[sr a1, sr a2, si 0] [vI 0, vR a1])) rfl rfl (H 13 rfl) _ ?_
    exact k)
  have k116 := f_alN X0 hx k115 (H 14 rfl) rfl
  have k117 := f_ilN X0 hx k116 (H 15 rfl) rfl
  obtain ⟨c118, Ar118, -, As118, An118, Ah118, -⟩ := id Fk1
  have hin118 : ¬ ((0 : Int32) < 0 ∨ c118.slots.size ≤ ((0 : Int32)).toNatClampNeg) := inb_of As118 ⟨by decide, by decide⟩
  have hat118 : c118.slots[((0 : Int32)).toNatClampNeg]? = some (.int p1) := Has.at Ah118 hin118 rfl
  have k119 : Rt p e below s₁ (mkF m 21 #[sr a1, sr a2, si 0] [vI p1, vI p1]) s₁ m #[(.ref a1), (.ref a2)] 3 := fun t k => k117 t (by
    show Sp p e below s₁ (mkF m 20 #[sr a1, sr a2, si 0] [vI 0, vR a2, vI p1]) _
    refine X0.baloadBytes hx (j := (0 : Int32)) (v := (.int p1)) (by rw [e0]; exact Ar118.1) (State.isArrayOf_alike hZ.alike Ar118.2.1) Ar118.2.2 hin118 hat118 (g := (mkF m 20 #[sr a1, sr a2, si 0] [vI 0, vR a2, vI p1])) rfl rfl (H 16 rfl) _ ?_
    exact k)
  have k120 := f_icY X0 hx k119 (H 17 rfl) (pc' := 26) (teq rfl).1 (by decide)
  have k121 := f_inc X0 hx k120 (H 18 rfl) rfl (l' := #[sr a1, sr a2, si 1]) rfl
  have k122 := f_go X0 hx k121 (H 19 rfl) (pc' := 9) (by decide)
  have k123 := f_ilN X0 hx k122 (H 7 rfl) rfl
  have k124 := f_alN X0 hx k123 (H 8 rfl) rfl
  have k125 := f_len X0 hx hZ e0 Fk0 k124 (H 9 rfl)
  have k126 := f_icY X0 hx k125 (H 10 rfl) (pc' := 32) (flt (by decide)).2.1 (by decide)
  have k127 := f_ic X0 hx k126 (H 20 rfl) (v := 1) rfl
  exact fin_r X0 hx (w := (.int (1 : Int32))) hrt hlk rfl (Or.inl ⟨rfl, Or.inr (Or.inl rfl), _, rfl⟩) k127 (H 21 rfl) (by rw [e0]; exact ⟨rfl, N0, rfl⟩) (by decide) (by decide)
theorem ef_56_RR (m : MethodId) (x0 : Addr) (x1 : Addr) : entryFrame m #[(.ref x0), (.ref x1)] 3 = mkF m 0 #[.val (.ref x0), .val (.ref x1), .unset] [] := by first | (simp [entryFrame, mkF, argsToLocals, Value.category]; done) | rfl
theorem pd__28_5bB_5bB_29Z : parseMethodDescriptor "([B[B)Z" = some ⟨[(.array .byte), (.array .byte)], some .boolean⟩ := by decide +kernel
def Q_seq (Z : State) (a1 b1 : Addr) (k1 : ClassId) (a2 b2 : Addr) (k2 : ClassId) (p1 cs : Int32) (h0 : Heap) (n0 : Nat) (v : Option Value) (h : Heap) (L : List Loc) : Prop := v = some (.int (1 : Int32)) ∧ Fr n0 L ∧ h = h0
theorem seq (l : Launch) (Z : State) (a0 : Array Value) (hw : HW Z a0) (ws : List Jvm.Cond) (a1 b1 : Addr) (k1 : ClassId) (a2 b2 : Addr) (k2 : ClassId) (p1 cs : Int32) (h0 : Heap) (n0 : Nat) (Z0 : n0 ≤ h0.size) (Fk0 : OBJ Z h0 a1 "java/lang/String" lyST [(.ref b1), zI, (.int p1), zI]) (Fk1 : Arv Z h0 b1 k1 .byte (1 : Int32) [(.int p1)] zI) (Fk2 : OBJ Z h0 a2 "java/lang/String" lyST [(.ref b2), zI, (.int p1), zI]) (Fk3 : Arv Z h0 b2 k2 .byte (1 : Int32) [(.int p1)] zI) (ne_a1_a2 : a1 ≠ a2) (Scs : Sta Z Z.heap "java/lang/String" "COMPACT_STRINGS" "Z" (.int cs)) (hcs : ¬ (cs = (0 : Int32))) (O0 : Old Z n0 h0) :
    Met l mn38 jdk_42_method_66_code 3 (some .boolean) ws (rm 1 0 0 14) #[(.ref a1), (.ref a2)] Z h0 (Q_seq Z a1 b1 k1 a2 b2 k2 p1 cs h0 n0) := by
  refine Met.intro (plainFor_of_name pn_java_2flang_2fString) ?_
  intro p e s m below meth c s₁ hx hby hml hZ hown hnm hrt hlk X0 e0
  have N0 := Fr.nil n0
  have hww := @hvw _ _ hw
  have k0 := k_e (p := p) (e := e) (below := below) (s := s₁) (ef_56_RR m a1 a2)
  have H := @dch _ _ _ hby D56
  have k101 := f_alN X0 hx k0 (H 0 rfl) rfl
  have k102 := f_alN X0 hx k101 (H 1 rfl) rfl
  have k103 : Rt p e below s₁ (mkF m 7 #[sr a1, sr a2, un] []) s₁ m #[(.ref a1), (.ref a2)] 3 := fun t k => k102 t (by
    show Sp p e below s₁ (mkF m 2 #[sr a1, sr a2, un] [vR a2, vR a1]) _
    refine Jvm.RoadKit.acmp X0 hx rfl (x := (.ref a1)) (y := (.ref a2)) rfl rfl (same := false) (pc0 := 2) (pc' := 7) rfl (H 2 rfl) rfl (decide_eq_false (fun h => ne_a1_a2 (Value.ref.inj h))) (by decide) (by decide) ?_
    exact k)
  have k104 := f_alN X0 hx k103 (H 3 rfl) rfl
  obtain ⟨T105, X105, e105, st105⟩ := instY X0 hx hZ hown (hww 51 rfl) e0 (Ins.self Fk2.1) (g := (mkF m 8 #[sr a1, sr a2, un] [vR a2])) rfl rfl (H 4 rfl)
  have k106 : Rt p e below T105 (mkF m 11 #[sr a1, sr a2, un] [vI 1]) s₁ m #[(.ref a1), (.ref a2)] 3 := fun t k => k104 t (st105 t k)
  have k107 := f_ifN X105 hx k106 (H 5 rfl) ((if0 _ _).trans (feq (by decide)).1)
  have k108 := f_alN X105 hx k107 (H 6 rfl) rfl
  obtain ⟨T109, X109, e109, st109⟩ := castY X105 hx hZ hown (hww 51 rfl) e105 (Ins.self Fk2.1) (g := (mkF m 15 #[sr a1, sr a2, un] [vR a2])) rfl rfl (H 7 rfl)
  have k110 : Rt p e below T109 (mkF m 18 #[sr a1, sr a2, un] [vR a2]) s₁ m #[(.ref a1), (.ref a2)] 3 := fun t k => k108 t (st109 t k)
  have k111 := f_asN X109 hx k110 (H 8 rfl) (l' := #[sr a1, sr a2, sr a2]) rfl
  obtain ⟨T112, X112, e112, st112⟩ := getS2 X109 hx hZ hown (host := "") (Or.inl (hww 46 rfl)) Via.refl e109 (Scs.ext O0.2) (g := (mkF m 19 #[sr a1, sr a2, sr a2] [])) rfl (H 9 rfl)
  have k113 : Rt p e below T112 (mkF m 22 #[sr a1, sr a2, sr a2] [vI cs]) s₁ m #[(.ref a1), (.ref a2)] 3 := fun t k => k111 t (st112 t k)
  have k114 := f_ifN X112 hx k113 (H 10 rfl) ((if0 _ _).trans (feq hcs).1)
  have k115 := f_alN X112 hx k114 (H 11 rfl) rfl
  obtain ⟨T116, X116, e116, k117⟩ := gFs X112 hx hZ hown (hww 64 rfl) e112 (Fk0.g 1 (v := zI) (by decide) rfl rfl) k115 (H 12 rfl)
  have k118 := f_alN X116 hx k117 (H 13 rfl) rfl
  obtain ⟨T119, X119, e119, k120⟩ := gFs X116 hx hZ hown (hww 64 rfl) e116 (Fk2.g 1 (v := zI) (by decide) rfl rfl) k118 (H 14 rfl)
  have k121 := f_icN X119 hx k120 (H 15 rfl) (teq (by decide)).2
  have k122 := f_alN X119 hx k121 (H 16 rfl) rfl
  obtain ⟨T123, X123, e123, k124⟩ := gFs X119 hx hZ hown (hww 62 rfl) e119 (Fk0.g 0 (v := (.ref b1)) (by decide) rfl rfl) k122 (H 17 rfl)
  have k125 := f_alN X123 hx k124 (H 18 rfl) rfl
  obtain ⟨T126, X126, e126, k127⟩ := gFs X123 hx hZ hown (hww 62 rfl) e123 (Fk2.g 0 (v := (.ref b2)) (by decide) rfl rfl) k125 (H 19 rfl)
  obtain ⟨_, T128, L128, X128, hQ128, k128⟩ := c_S (W := 0) X126 hx hZ hown (hww 398 rfl) (hww 399 rfl) (hww 49 rfl) (hww 400 rfl) (by decide) (leq l Z a0 hw [] b1 k1 b2 k2 p1 h0 n0 Z0 Fk1 Fk3) e126 (argsL := [(.ref b1), (.ref b2)]) (rest := []) rfl (by rw [hml]; rfl) k127 rfl (H 20 rfl) (lenOf pd__28_5bB_5bB_29Z rfl) (b5 rfl)
  obtain ⟨rfl, N128q, e128⟩ := hQ128
  have N129 := Fr.app N0 N128q
  have k130 := f_ifN X128 hx k128 (H 21 rfl) ((if0 _ _).trans (feq (by decide)).1)
  have k131 := f_ic X128 hx k130 (H 22 rfl) (v := 1) rfl
  have k132 := f_go X128 hx k131 (H 23 rfl) (pc' := 55) (by decide)
  exact fin_r X128 hx (w := (.int (1 : Int32))) hrt hlk rfl (Or.inl ⟨rfl, Or.inr (Or.inl rfl), _, rfl⟩) k132 (H 24 rfl) (by rw [e128]; exact ⟨rfl, N129, rfl⟩) (by decide) (by decide)
theorem ef_55_RR (m : MethodId) (x0 : Addr) (x1 : Addr) : entryFrame m #[(.ref x0), (.ref x1)] 8 = mkF m 0 #[.val (.ref x0), .val (.ref x1), .unset, .unset, .unset, .unset, .unset, .unset] [] := by first | (simp [entryFrame, mkF, argsToLocals, Value.category]; done) | rfl
theorem pd__28Ljava_2flang_2fObject_3b_29Z : parseMethodDescriptor "(Ljava/lang/Object;)Z" = some ⟨[(.object "java/lang/Object")], some .boolean⟩ := by decide +kernel
def Q_gnd1 (Z : State) (a1 a2 b2 : Addr) (kb : ClassId) (p1 cs ix : Int32) (tb : Addr) (kt : ClassId) (tl : List Value) (nd vl ky b3 : Addr) (k3 : ClassId) (h0 : Heap) (n0 : Nat) (v : Option Value) (h : Heap) (L : List Loc) : Prop := v = some (.ref nd) ∧ Fr n0 L ∧ Keep h0 h [a2] ∧ OBJ Z h a2 "java/lang/String" lyST [(.ref b2), zI, (.int p1), zI] ∧ Arv Z h b2 kb .byte (1 : Int32) [(.int p1)] zI
theorem gnd1 (l : Launch) (Z : State) (a0 : Array Value) (hw : HW Z a0) (ws : List Jvm.Cond) (a1 a2 b2 : Addr) (kb : ClassId) (p1 cs ix : Int32) (tb : Addr) (kt : ClassId) (tl : List Value) (nd vl ky b3 : Addr) (k3 : ClassId) (h0 : Heap) (n0 : Nat) (Z0 : n0 ≤ h0.size) (Fk0 : Exa Z h0 a1 "java/util/HashMap") (Fk1 : Fld Z h0 a1 "java/util/HashMap" "table" "[Ljava/util/HashMap$Node;" (.ref tb)) (Fk2 : Arv Z h0 tb kt (.object "java/util/HashMap$Node") (16 : Int32) tl .null) (Fk3 : OBJ Z h0 a2 "java/lang/String" lyST [(.ref b2), zI, zI, zI]) (Fk4 : Arv Z h0 b2 kb .byte (1 : Int32) [(.int p1)] zI) (Fk5 : OBJ Z h0 nd "java/util/HashMap$Node" lyND [(.int p1), (.ref ky), (.ref vl), .null]) (Fk6 : OBJ Z h0 ky "java/lang/String" lyST [(.ref b3), zI, (.int p1), zI]) (Fk7 : Arv Z h0 b3 k3 .byte (1 : Int32) [(.int p1)] zI) (ge_a2 : n0 ≤ a2) (ne_a2_b2 : a2 ≠ b2) (ne_a1_a2 : a1 ≠ a2) (ne_tb_a2 : tb ≠ a2) (ne_nd_a2 : nd ≠ a2) (ne_ky_a2 : ky ≠ a2) (ne_b3_a2 : b3 ≠ a2) (hc3 : p1 &&& (255 : Int32) = p1) (hc4 : ¬ (p1 = (0 : Int32))) (hc5 : p1 ^^^ ((p1.toUInt32 >>> ((16 : Int32) &&& 31).toUInt32).toInt32) = p1) (Scs : Sta Z Z.heap "java/lang/String" "COMPACT_STRINGS" "Z" (.int cs)) (hcs : ¬ (cs = (0 : Int32))) (hix : (15 : Int32) &&& p1 = ix) (hin : ¬ ix < (0 : Int32) ∧ ix < (16 : Int32)) (hat : tl.getD ix.toNatClampNeg .null = .ref nd) (O0 : Old Z n0 h0) :
    Met l mn40 jdk_69_method_13_code 8 (some (.object "java/util/HashMap$Node")) ws (rm 3 0 0 40) #[(.ref a1), (.ref a2)] Z h0 (Q_gnd1 Z a1 a2 b2 kb p1 cs ix tb kt tl nd vl ky b3 k3 h0 n0) := by
  refine Met.intro (plainFor_of_name pn_java_2futil_2fHashMap) ?_
  intro p e s m below meth c s₁ hx hby hml hZ hown hnm hrt hlk X0 e0
  have N0 := Fr.nil n0
  have hww := @hvw _ _ hw
  have k0 := k_e (p := p) (e := e) (below := below) (s := s₁) (ef_55_RR m a1 a2)
  have K0 := Keep.refl h0 [a2]
  have H := @dch _ _ _ hby D55
  have k101 := f_alN X0 hx k0 (H 0 rfl) rfl
  obtain ⟨T102, X102, e102, k103⟩ := gFs X0 hx hZ hown (hww 104 rfl) e0 Fk1 k101 (H 1 rfl)
  have k104 := f_dup X102 hx k103 (H 2 rfl) rfl
  have k105 := f_asN X102 hx k104 (H 3 rfl) (l' := #[sr a1, sr a2, sr tb, un, un, un, un, un]) rfl
  have k106 := f_inN X102 hx k105 (H 4 rfl)
  have k107 := f_alN X102 hx k106 (H 5 rfl) rfl
  have k108 := f_len X102 hx hZ e102 Fk2 k107 (H 6 rfl)
  have k109 := f_dup X102 hx k108 (H 7 rfl) rfl
  have k110 := f_is X102 hx k109 (H 8 rfl) (l' := #[sr a1, sr a2, sr tb, un, un, si 16, un, un]) rfl
  have k111 := f_ifN X102 hx k110 (H 9 rfl) ((if0 _ _).trans (tlt (by decide)).2.2.2)
  have k112 := f_alN X102 hx k111 (H 10 rfl) rfl
  have k113 := f_il X102 hx k112 (H 11 rfl) rfl
  have k114 := f_ic X102 hx k113 (H 12 rfl) (v := 1) rfl
  have k115 := f_isub X102 hx k114 (H 13 rfl) (r := 15) (by decide)
  have k116 := f_alN X102 hx k115 (H 14 rfl) rfl
  obtain ⟨_, T117, L117, X117, hQ117, k117⟩ := c_S (W := 2) X102 hx hZ hown (hww 78 rfl) (hww 79 rfl) (hww 28 rfl) (hww 80 rfl) (by decide) (hsh0 l Z a0 hw [] a2 b2 kb p1 cs h0 n0 Z0 Fk3 Fk4 ge_a2 ne_a2_b2 hc3 hc4 hc5 Scs hcs O0) e102 (argsL := [(.ref a2)]) (rest := [(.int (15 : Int32)), (.ref tb)]) rfl (by rw [hml]; rfl) k116 rfl (H 15 rfl) (lenOf pd__28Ljava_2flang_2fObject_3b_29I rfl) (b5 rfl)
  obtain ⟨h117, e117⟩ : ∃ h', T117.heap = h' := ⟨_, rfl⟩
  rw [e117] at hQ117
  obtain ⟨rfl, N117q, K117, R117_0, R117_1⟩ := hQ117
  have N118 := Fr.app N0 N117q
  have F119 := O0.keep K117 (allS ge_a2 all0)
  have Z120 : n0 ≤ h117.size := Nat.le_trans Z0 K117.1
  have K121 := Keep.trans K0 K117 (allS (oL 0 rfl) all0)
  have k122 := f_dup X117 hx k117 (H 16 rfl) rfl
  have k123 := f_is X117 hx k122 (H 17 rfl) (l' := #[sr a1, sr a2, sr tb, un, un, si 16, si p1, un]) rfl
  have k124 := f_iand X117 hx k123 (H 18 rfl) rfl
  have k125 : Rt p e below T117 (mkF m 30 #[sr a1, sr a2, sr tb, un, un, si 16, si p1, un] [vI ix, vR tb]) s₁ m #[(.ref a1), (.ref a2)] 8 := fun t q => k124 t (castTop (by rw [show ((15 : Int32) &&& p1) = ix from hix] <;> rfl) q)
  have k126 := f_aal X117 hx hZ e117 (Fk2.keep K121 (ninS ne_tb_a2 nin0)) k125 (H 19 rfl) (v := (.ref nd)) rfl hin hat
  have k127 := f_dup X117 hx k126 (H 20 rfl) rfl
  have k128 := f_asN X117 hx k127 (H 21 rfl) (l' := #[sr a1, sr a2, sr tb, sr nd, un, si 16, si p1, un]) rfl
  have k129 := f_inN X117 hx k128 (H 22 rfl)
  have k130 := f_alN X117 hx k129 (H 23 rfl) rfl
  obtain ⟨T131, X131, e131, k132⟩ := gFs X117 hx hZ hown (hww 390 rfl) e117 ((Fk5.keep K121 (ninS ne_nd_a2 nin0)).g 0 (v := (.int p1)) (by decide) rfl rfl) k130 (H 24 rfl)
  have k133 := f_il X131 hx k132 (H 25 rfl) rfl
  have k134 := f_icN X131 hx k133 (H 26 rfl) (teq rfl).2
  have k135 := f_alN X131 hx k134 (H 27 rfl) rfl
  obtain ⟨T136, X136, e136, k137⟩ := gFs X131 hx hZ hown (hww 391 rfl) e131 ((Fk5.keep K121 (ninS ne_nd_a2 nin0)).g 1 (v := (.ref ky)) (by decide) rfl rfl) k135 (H 28 rfl)
  have k138 := f_dup X136 hx k137 (H 29 rfl) rfl
  have k139 := f_as X136 hx k138 (H 30 rfl) (l' := #[sr a1, sr a2, sr tb, sr nd, un, si 16, si p1, sr ky]) rfl
  have k140 := f_alN X136 hx k139 (H 31 rfl) rfl
  have k141 : Rt p e below T136 (mkF m 56 #[sr a1, sr a2, sr tb, sr nd, un, si 16, si p1, sr ky] []) s₁ m #[(.ref a1), (.ref a2)] 8 := fun t k => k140 t (by
    show Sp p e below T136 (mkF m 53 #[sr a1, sr a2, sr tb, sr nd, un, si 16, si p1, sr ky] [vR a2, vR ky]) _
    refine Jvm.RoadKit.acmp X136 hx rfl (x := (.ref ky)) (y := (.ref a2)) rfl rfl (same := false) (pc0 := 53) (pc' := 56) rfl (H 32 rfl) rfl (decide_eq_false (fun h => ne_ky_a2 (Value.ref.inj h))) (by decide) (by decide) ?_
    exact k)
  have k142 := f_alN X136 hx k141 (H 33 rfl) rfl
  have k143 := f_inN X136 hx k142 (H 34 rfl)
  have k144 := f_alN X136 hx k143 (H 35 rfl) rfl
  have k145 := f_al X136 hx k144 (H 36 rfl) rfl
  obtain ⟨_, T146, L146, X146, hQ146, k146⟩ := c_V (W := 0) (x := mn39) X136 hx hZ hown (hww 392 rfl) (hww 393 rfl) (own_nfp (args := #[]) (mvT hZ (hww 406 rfl)) rfl) (hww 395 rfl) (hww 396 rfl) (hww 397 rfl) (hww 44 rfl) (by decide) R117_0.1 (seq l Z a0 hw [] a2 b2 kb ky b3 k3 p1 cs h117 n0 Z120 R117_0 R117_1 (Fk6.keep K121 (ninS ne_ky_a2 nin0)) (Fk7.keep K121 (ninS ne_b3_a2 nin0)) (Ne.symm ne_ky_a2) Scs hcs F119) e136 (argsL := [(.ref ky)]) (rest := []) rfl (by rw [hml]; rfl) k145 rfl (H 37 rfl) (lenOf pd__28Ljava_2flang_2fObject_3b_29Z rfl) (b5 rfl)
  obtain ⟨rfl, N146q, e146⟩ := hQ146
  have N147 := Fr.app N118 N146q
  have k148 := f_ifN X146 hx k146 (H 38 rfl) ((if0 _ _).trans (feq (by decide)).1)
  have k149 := f_alN X146 hx k148 (H 39 rfl) rfl
  exact fin_r X146 hx (w := (.ref nd)) hrt hlk rfl (Or.inr (Or.inr (Or.inr (Or.inr ⟨rfl, rfl, rfl⟩)))) k149 (H 40 rfl) (by rw [e146]; exact ⟨rfl, N147, K121, R117_0, R117_1⟩) (by decide) (by decide)
theorem ef_54_RRR (m : MethodId) (x0 : Addr) (x1 : Addr) (x2 : Addr) : entryFrame m #[(.ref x0), (.ref x1), (.ref x2)] 4 = mkF m 0 #[.val (.ref x0), .val (.ref x1), .val (.ref x2), .unset] [] := by first | (simp [entryFrame, mkF, argsToLocals, Value.category]; done) | rfl
theorem pd__28Ljava_2flang_2fObject_3b_29Ljava_2futil_2fHashMap_24Node_3b : parseMethodDescriptor "(Ljava/lang/Object;)Ljava/util/HashMap$Node;" = some ⟨[(.object "java/lang/Object")], some (.object "java/util/HashMap$Node")⟩ := by decide +kernel
def Q_god1 (Z : State) (a1 a2 b2 : Addr) (kb : ClassId) (p1 cs ix : Int32) (tb : Addr) (kt : ClassId) (tl : List Value) (nd vl ky b3 : Addr) (k3 : ClassId) (df : Addr) (h0 : Heap) (n0 : Nat) (v : Option Value) (h : Heap) (L : List Loc) : Prop := v = some (.ref vl) ∧ Fr n0 L ∧ Keep h0 h [a2] ∧ OBJ Z h a2 "java/lang/String" lyST [(.ref b2), zI, (.int p1), zI] ∧ Arv Z h b2 kb .byte (1 : Int32) [(.int p1)] zI
theorem god1 (l : Launch) (Z : State) (a0 : Array Value) (hw : HW Z a0) (ws : List Jvm.Cond) (a1 a2 b2 : Addr) (kb : ClassId) (p1 cs ix : Int32) (tb : Addr) (kt : ClassId) (tl : List Value) (nd vl ky b3 : Addr) (k3 : ClassId) (df : Addr) (h0 : Heap) (n0 : Nat) (Z0 : n0 ≤ h0.size) (Fk0 : Exa Z h0 a1 "java/util/HashMap") (Fk1 : Fld Z h0 a1 "java/util/HashMap" "table" "[Ljava/util/HashMap$Node;" (.ref tb)) (Fk2 : Arv Z h0 tb kt (.object "java/util/HashMap$Node") (16 : Int32) tl .null) (Fk3 : OBJ Z h0 a2 "java/lang/String" lyST [(.ref b2), zI, zI, zI]) (Fk4 : Arv Z h0 b2 kb .byte (1 : Int32) [(.int p1)] zI) (Fk5 : OBJ Z h0 nd "java/util/HashMap$Node" lyND [(.int p1), (.ref ky), (.ref vl), .null]) (Fk6 : OBJ Z h0 ky "java/lang/String" lyST [(.ref b3), zI, (.int p1), zI]) (Fk7 : Arv Z h0 b3 k3 .byte (1 : Int32) [(.int p1)] zI) (ge_a2 : n0 ≤ a2) (ne_a2_b2 : a2 ≠ b2) (ne_a1_a2 : a1 ≠ a2) (ne_tb_a2 : tb ≠ a2) (ne_nd_a2 : nd ≠ a2) (ne_ky_a2 : ky ≠ a2) (ne_b3_a2 : b3 ≠ a2) (hc3 : p1 &&& (255 : Int32) = p1) (hc4 : ¬ (p1 = (0 : Int32))) (hc5 : p1 ^^^ ((p1.toUInt32 >>> ((16 : Int32) &&& 31).toUInt32).toInt32) = p1) (Scs : Sta Z Z.heap "java/lang/String" "COMPACT_STRINGS" "Z" (.int cs)) (hcs : ¬ (cs = (0 : Int32))) (hix : (15 : Int32) &&& p1 = ix) (hin : ¬ ix < (0 : Int32) ∧ ix < (16 : Int32)) (hat : tl.getD ix.toNatClampNeg .null = .ref nd) (O0 : Old Z n0 h0) :
    Met l mn41 jdk_69_method_30_code 4 (some (.object "java/lang/Object")) ws (rm 4 0 0 59) #[(.ref a1), (.ref a2), (.ref df)] Z h0 (Q_god1 Z a1 a2 b2 kb p1 cs ix tb kt tl nd vl ky b3 k3 df h0 n0) := by
  refine Met.intro (plainFor_of_name pn_java_2futil_2fHashMap) ?_
  intro p e s m below meth c s₁ hx hby hml hZ hown hnm hrt hlk X0 e0
  have N0 := Fr.nil n0
  have hww := @hvw _ _ hw
  have k0 := k_e (p := p) (e := e) (below := below) (s := s₁) (ef_54_RRR m a1 a2 df)
  have K0 := Keep.refl h0 [a2]
  have H := @dch _ _ _ hby D54
  have k101 := f_alN X0 hx k0 (H 0 rfl) rfl
  have k102 := f_alN X0 hx k101 (H 1 rfl) rfl
  obtain ⟨_, T103, L103, X103, hQ103, k103⟩ := c_V (W := 0) (x := mn40) X0 hx hZ hown (hww 385 rfl) (hww 386 rfl) (notFace_of_selects (args := #[]) (mvT hZ (hww 388 rfl))) (hww 388 rfl) (hww 387 rfl) (hww 389 rfl) (hww 28 rfl) (by decide) Fk0 (gnd1 l Z a0 hw [] a1 a2 b2 kb p1 cs ix tb kt tl nd vl ky b3 k3 h0 n0 Z0 Fk0 Fk1 Fk2 Fk3 Fk4 Fk5 Fk6 Fk7 ge_a2 ne_a2_b2 ne_a1_a2 ne_tb_a2 ne_nd_a2 ne_ky_a2 ne_b3_a2 hc3 hc4 hc5 Scs hcs hix hin hat O0) e0 (argsL := [(.ref a2)]) (rest := []) rfl (by rw [hml]; rfl) k102 rfl (H 2 rfl) (lenOf pd__28Ljava_2flang_2fObject_3b_29Ljava_2futil_2fHashMap_24Node_3b rfl) (b5 rfl)
  obtain ⟨h103, e103⟩ : ∃ h', T103.heap = h' := ⟨_, rfl⟩
  rw [e103] at hQ103
  obtain ⟨rfl, N103q, K103, R103_0, R103_1⟩ := hQ103
  have N104 := Fr.app N0 N103q
  have F105 := O0.keep K103 (allS ge_a2 all0)
  have Z106 : n0 ≤ h103.size := Nat.le_trans Z0 K103.1
  have K107 := Keep.trans K0 K103 (allS (oL 0 rfl) all0)
  have k108 := f_dup X103 hx k103 (H 3 rfl) rfl
  have k109 := f_asN X103 hx k108 (H 4 rfl) (l' := #[sr a1, sr a2, sr df, sr nd]) rfl
  have k110 := f_nnY X103 hx k109 (H 5 rfl) (pc' := 14) (by decide)
  have k111 := f_alN X103 hx k110 (H 6 rfl) rfl
  obtain ⟨T112, X112, e112, k113⟩ := gFs X103 hx hZ hown (hww 401 rfl) e103 ((Fk5.keep K107 (ninS ne_nd_a2 nin0)).g 2 (v := (.ref vl)) (by decide) rfl rfl) k111 (H 7 rfl)
  exact fin_r X112 hx (w := (.ref vl)) hrt hlk rfl (Or.inr (Or.inr (Or.inr (Or.inr ⟨rfl, rfl, rfl⟩)))) k113 (H 8 rfl) (by rw [e112]; exact ⟨rfl, N104, K107, R103_0, R103_1⟩) (by decide) (by decide)
def Q_gnd0 (Z : State) (a1 a2 b2 : Addr) (kb : ClassId) (p1 cs ix : Int32) (tb : Addr) (kt : ClassId) (tl : List Value) (h0 : Heap) (n0 : Nat) (v : Option Value) (h : Heap) (L : List Loc) : Prop := v = some .null ∧ Fr n0 L ∧ Keep h0 h [a2] ∧ OBJ Z h a2 "java/lang/String" lyST [(.ref b2), zI, (.int p1), zI] ∧ Arv Z h b2 kb .byte (1 : Int32) [(.int p1)] zI
theorem gnd0 (l : Launch) (Z : State) (a0 : Array Value) (hw : HW Z a0) (ws : List Jvm.Cond) (a1 a2 b2 : Addr) (kb : ClassId) (p1 cs ix : Int32) (tb : Addr) (kt : ClassId) (tl : List Value) (h0 : Heap) (n0 : Nat) (Z0 : n0 ≤ h0.size) (Fk0 : Exa Z h0 a1 "java/util/HashMap") (Fk1 : Fld Z h0 a1 "java/util/HashMap" "table" "[Ljava/util/HashMap$Node;" (.ref tb)) (Fk2 : Arv Z h0 tb kt (.object "java/util/HashMap$Node") (16 : Int32) tl .null) (Fk3 : OBJ Z h0 a2 "java/lang/String" lyST [(.ref b2), zI, zI, zI]) (Fk4 : Arv Z h0 b2 kb .byte (1 : Int32) [(.int p1)] zI) (ge_a2 : n0 ≤ a2) (ne_a2_b2 : a2 ≠ b2) (ne_a1_a2 : a1 ≠ a2) (ne_tb_a2 : tb ≠ a2) (hc3 : p1 &&& (255 : Int32) = p1) (hc4 : ¬ (p1 = (0 : Int32))) (hc5 : p1 ^^^ ((p1.toUInt32 >>> ((16 : Int32) &&& 31).toUInt32).toInt32) = p1) (Scs : Sta Z Z.heap "java/lang/String" "COMPACT_STRINGS" "Z" (.int cs)) (hcs : ¬ (cs = (0 : Int32))) (hix : (15 : Int32) &&& p1 = ix) (hin : ¬ ix < (0 : Int32) ∧ ix < (16 : Int32)) (hat : tl.getD ix.toNatClampNeg .null = .null) (O0 : Old Z n0 h0) :
    Met l mn40 jdk_69_method_13_code 8 (some (.object "java/util/HashMap$Node")) ws (rm 3 0 0 40) #[(.ref a1), (.ref a2)] Z h0 (Q_gnd0 Z a1 a2 b2 kb p1 cs ix tb kt tl h0 n0) := by
  refine Met.intro (plainFor_of_name pn_java_2futil_2fHashMap) ?_
  intro p e s m below meth c s₁ hx hby hml hZ hown hnm hrt hlk X0 e0
  have N0 := Fr.nil n0
  have hww := @hvw _ _ hw
  have k0 := k_e (p := p) (e := e) (below := below) (s := s₁) (ef_55_RR m a1 a2)
  have K0 := Keep.refl h0 [a2]
  have H := @dch _ _ _ hby D55
  have k101 := f_alN X0 hx k0 (H 0 rfl) rfl
  obtain ⟨T102, X102, e102, k103⟩ := gFs X0 hx hZ hown (hww 104 rfl) e0 Fk1 k101 (H 1 rfl)
  have k104 := f_dup X102 hx k103 (H 2 rfl) rfl
  have k105 := f_asN X102 hx k104 (H 3 rfl) (l' := #[sr a1, sr a2, sr tb, un, un, un, un, un]) rfl
  have k106 := f_inN X102 hx k105 (H 4 rfl)
  have k107 := f_alN X102 hx k106 (H 5 rfl) rfl
  have k108 := f_len X102 hx hZ e102 Fk2 k107 (H 6 rfl)
  have k109 := f_dup X102 hx k108 (H 7 rfl) rfl
  have k110 := f_is X102 hx k109 (H 8 rfl) (l' := #[sr a1, sr a2, sr tb, un, un, si 16, un, un]) rfl
  have k111 := f_ifN X102 hx k110 (H 9 rfl) ((if0 _ _).trans (tlt (by decide)).2.2.2)
  have k112 := f_alN X102 hx k111 (H 10 rfl) rfl
  have k113 := f_il X102 hx k112 (H 11 rfl) rfl
  have k114 := f_ic X102 hx k113 (H 12 rfl) (v := 1) rfl
  have k115 := f_isub X102 hx k114 (H 13 rfl) (r := 15) (by decide)
  have k116 := f_alN X102 hx k115 (H 14 rfl) rfl
  obtain ⟨_, T117, L117, X117, hQ117, k117⟩ := c_S (W := 2) X102 hx hZ hown (hww 78 rfl) (hww 79 rfl) (hww 28 rfl) (hww 80 rfl) (by decide) (hsh0 l Z a0 hw [] a2 b2 kb p1 cs h0 n0 Z0 Fk3 Fk4 ge_a2 ne_a2_b2 hc3 hc4 hc5 Scs hcs O0) e102 (argsL := [(.ref a2)]) (rest := [(.int (15 : Int32)), (.ref tb)]) rfl (by rw [hml]; rfl) k116 rfl (H 15 rfl) (lenOf pd__28Ljava_2flang_2fObject_3b_29I rfl) (b5 rfl)
  obtain ⟨h117, e117⟩ : ∃ h', T117.heap = h' := ⟨_, rfl⟩
  rw [e117] at hQ117
  obtain ⟨rfl, N117q, K117, R117_0, R117_1⟩ := hQ117
  have N118 := Fr.app N0 N117q
  have F119 := O0.keep K117 (allS ge_a2 all0)
  have Z120 : n0 ≤ h117.size := Nat.le_trans Z0 K117.1
  have K121 := Keep.trans K0 K117 (allS (oL 0 rfl) all0)
  have k122 := f_dup X117 hx k117 (H 16 rfl) rfl
  have k123 := f_is X117 hx k122 (H 17 rfl) (l' := #[sr a1, sr a2, sr tb, un, un, si 16, si p1, un]) rfl
  have k124 := f_iand X117 hx k123 (H 18 rfl) rfl
  have k125 : Rt p e below T117 (mkF m 30 #[sr a1, sr a2, sr tb, un, un, si 16, si p1, un] [vI ix, vR tb]) s₁ m #[(.ref a1), (.ref a2)] 8 := fun t q => k124 t (castTop (by rw [show ((15 : Int32) &&& p1) = ix from hix] <;> rfl) q)
  have k126 := f_aal X117 hx hZ e117 (Fk2.keep K121 (ninS ne_tb_a2 nin0)) k125 (H 19 rfl) (v := .null) rfl hin hat
  have k127 := f_dup X117 hx k126 (H 20 rfl) rfl
  have k128 := f_nsN X117 hx k127 (H 21 rfl) (l' := #[sr a1, sr a2, sr tb, .val .null, un, si 16, si p1, un]) rfl
  have k129 := f_inY X117 hx k128 (H 22 rfl) (pc' := 148) (by decide)
  have k130 := f_an X117 hx k129 (H 41 rfl)
  exact fin_r X117 hx (w := .null) hrt hlk rfl (Or.inr (Or.inr (Or.inr (Or.inr ⟨rfl, rfl, rfl⟩)))) k130 (H 42 rfl) (by rw [e117]; exact ⟨rfl, N118, K121, R117_0, R117_1⟩) (by decide) (by decide)
def Q_god0 (Z : State) (a1 a2 b2 : Addr) (kb : ClassId) (p1 cs ix : Int32) (tb : Addr) (kt : ClassId) (tl : List Value) (df : Addr) (h0 : Heap) (n0 : Nat) (v : Option Value) (h : Heap) (L : List Loc) : Prop := v = some (.ref df) ∧ Fr n0 L ∧ Keep h0 h [a2] ∧ OBJ Z h a2 "java/lang/String" lyST [(.ref b2), zI, (.int p1), zI] ∧ Arv Z h b2 kb .byte (1 : Int32) [(.int p1)] zI
theorem god0 (l : Launch) (Z : State) (a0 : Array Value) (hw : HW Z a0) (ws : List Jvm.Cond) (a1 a2 b2 : Addr) (kb : ClassId) (p1 cs ix : Int32) (tb : Addr) (kt : ClassId) (tl : List Value) (df : Addr) (h0 : Heap) (n0 : Nat) (Z0 : n0 ≤ h0.size) (Fk0 : Exa Z h0 a1 "java/util/HashMap") (Fk1 : Fld Z h0 a1 "java/util/HashMap" "table" "[Ljava/util/HashMap$Node;" (.ref tb)) (Fk2 : Arv Z h0 tb kt (.object "java/util/HashMap$Node") (16 : Int32) tl .null) (Fk3 : OBJ Z h0 a2 "java/lang/String" lyST [(.ref b2), zI, zI, zI]) (Fk4 : Arv Z h0 b2 kb .byte (1 : Int32) [(.int p1)] zI) (ge_a2 : n0 ≤ a2) (ne_a2_b2 : a2 ≠ b2) (ne_a1_a2 : a1 ≠ a2) (ne_tb_a2 : tb ≠ a2) (hc3 : p1 &&& (255 : Int32) = p1) (hc4 : ¬ (p1 = (0 : Int32))) (hc5 : p1 ^^^ ((p1.toUInt32 >>> ((16 : Int32) &&& 31).toUInt32).toInt32) = p1) (Scs : Sta Z Z.heap "java/lang/String" "COMPACT_STRINGS" "Z" (.int cs)) (hcs : ¬ (cs = (0 : Int32))) (hix : (15 : Int32) &&& p1 = ix) (hin : ¬ ix < (0 : Int32) ∧ ix < (16 : Int32)) (hat : tl.getD ix.toNatClampNeg .null = .null) (O0 : Old Z n0 h0) :
    Met l mn41 jdk_69_method_30_code 4 (some (.object "java/lang/Object")) ws (rm 4 0 0 59) #[(.ref a1), (.ref a2), (.ref df)] Z h0 (Q_god0 Z a1 a2 b2 kb p1 cs ix tb kt tl df h0 n0) := by
  refine Met.intro (plainFor_of_name pn_java_2futil_2fHashMap) ?_
  intro p e s m below meth c s₁ hx hby hml hZ hown hnm hrt hlk X0 e0
  have N0 := Fr.nil n0
  have hww := @hvw _ _ hw
  have k0 := k_e (p := p) (e := e) (below := below) (s := s₁) (ef_54_RRR m a1 a2 df)
  have K0 := Keep.refl h0 [a2]
  have H := @dch _ _ _ hby D54
  have k101 := f_alN X0 hx k0 (H 0 rfl) rfl
  have k102 := f_alN X0 hx k101 (H 1 rfl) rfl
  obtain ⟨_, T103, L103, X103, hQ103, k103⟩ := c_V (W := 0) (x := mn40) X0 hx hZ hown (hww 385 rfl) (hww 386 rfl) (notFace_of_selects (args := #[]) (mvT hZ (hww 388 rfl))) (hww 388 rfl) (hww 387 rfl) (hww 389 rfl) (hww 28 rfl) (by decide) Fk0 (gnd0 l Z a0 hw [] a1 a2 b2 kb p1 cs ix tb kt tl h0 n0 Z0 Fk0 Fk1 Fk2 Fk3 Fk4 ge_a2 ne_a2_b2 ne_a1_a2 ne_tb_a2 hc3 hc4 hc5 Scs hcs hix hin hat O0) e0 (argsL := [(.ref a2)]) (rest := []) rfl (by rw [hml]; rfl) k102 rfl (H 2 rfl) (lenOf pd__28Ljava_2flang_2fObject_3b_29Ljava_2futil_2fHashMap_24Node_3b rfl) (b5 rfl)
  obtain ⟨h103, e103⟩ : ∃ h', T103.heap = h' := ⟨_, rfl⟩
  rw [e103] at hQ103
  obtain ⟨rfl, N103q, K103, R103_0, R103_1⟩ := hQ103
  have N104 := Fr.app N0 N103q
  have F105 := O0.keep K103 (allS ge_a2 all0)
  have Z106 : n0 ≤ h103.size := Nat.le_trans Z0 K103.1
  have K107 := Keep.trans K0 K103 (allS (oL 0 rfl) all0)
  have k108 := f_dup X103 hx k103 (H 3 rfl) rfl
  have k109 := f_nsN X103 hx k108 (H 4 rfl) (l' := #[sr a1, sr a2, sr df, .val .null]) rfl
  have k110 := f_nnN X103 hx k109 (H 5 rfl)
  have k111 := f_alN X103 hx k110 (H 9 rfl) rfl
  have k112 := f_go X103 hx k111 (H 10 rfl) (pc' := 18) (by decide)
  exact fin_r X103 hx (w := (.ref df)) hrt hlk rfl (Or.inr (Or.inr (Or.inr (Or.inr ⟨rfl, rfl, rfl⟩)))) k112 (H 8 rfl) (by rw [e103]; exact ⟨rfl, N104, K107, R103_0, R103_1⟩) (by decide) (by decide)
theorem ef_24_R (m : MethodId) (x0 : Addr) : entryFrame m #[(.ref x0)] 1 = mkF m 0 #[.val (.ref x0)] [] := by first | (simp [entryFrame, mkF, argsToLocals, Value.category]; done) | rfl
def Q_hsz (Z : State) (a1 : Addr) (p1 : Int32) (h0 : Heap) (n0 : Nat) (v : Option Value) (h : Heap) (L : List Loc) : Prop := v = some (.int p1) ∧ Fr n0 L ∧ h = h0
theorem hsz (l : Launch) (Z : State) (a0 : Array Value) (hw : HW Z a0) (ws : List Jvm.Cond) (a1 : Addr) (p1 : Int32) (h0 : Heap) (n0 : Nat) (Z0 : n0 ≤ h0.size) (Fk0 : Fld Z h0 a1 "java/util/HashMap" "size" "I" (.int p1)) :
    Met l mn42 jdk_69_method_10_code 1 (some .int) ws (rm 0 0 0 0) #[(.ref a1)] Z h0 (Q_hsz Z a1 p1 h0 n0) := by
  refine Met.intro (plainFor_of_name pn_java_2futil_2fHashMap) ?_
  intro p e s m below meth c s₁ hx hby hml hZ hown hnm hrt hlk X0 e0
  have N0 := Fr.nil n0
  have hww := @hvw _ _ hw
  have k0 := k_e (p := p) (e := e) (below := below) (s := s₁) (ef_24_R m a1)
  have H := @dch _ _ _ hby D24
  have k101 := f_alN X0 hx k0 (H 0 rfl) rfl
  obtain ⟨T102, X102, e102, k103⟩ := gFs X0 hx hZ hown (hww 137 rfl) e0 Fk0 k101 (H 1 rfl)
  exact fin_r X102 hx (w := (.int p1)) hrt hlk rfl (Or.inl ⟨rfl, Or.inl rfl, _, rfl⟩) k103 (H 2 rfl) (by rw [e102]; exact ⟨rfl, N0, rfl⟩) (by decide) (by decide)
theorem ef_26_RR (m : MethodId) (x0 : Addr) (x1 : Addr) : entryFrame m #[(.ref x0), (.ref x1)] 2 = mkF m 0 #[.val (.ref x0), .val (.ref x1)] [] := by first | (simp [entryFrame, mkF, argsToLocals, Value.category]; done) | rfl
def Q_vsi (Z : State) (a1 a2 : Addr) (h0 : Heap) (n0 : Nat) (v : Option Value) (h : Heap) (L : List Loc) : Prop := v = none ∧ Fr n0 L ∧ Keep h0 h [a1] ∧ OBJ Z h a1 "java/util/HashMap$Values" lyVS [(.ref a2)]
theorem pn_java_2futil_2fHashMap_24Values : plainName "java/util/HashMap$Values" = true := by first | (simp [plainName, overriddenIn]; done) | decide +kernel
theorem vsi (l : Launch) (Z : State) (a0 : Array Value) (hw : HW Z a0) (ws : List Jvm.Cond) (a1 a2 : Addr) (h0 : Heap) (n0 : Nat) (Z0 : n0 ≤ h0.size) (Fk0 : OBJ Z h0 a1 "java/util/HashMap$Values" lyVS [.null]) (ge_a1 : n0 ≤ a1) :
    Met l mn43 jdk_2571_method_1_code 2 none ws (rm 2 0 0 24) #[(.ref a1), (.ref a2)] Z h0 (Q_vsi Z a1 a2 h0 n0) := by
  refine Met.intro (plainFor_of_name pn_java_2futil_2fHashMap_24Values) ?_
  intro p e s m below meth c s₁ hx hby hml hZ hown hnm hrt hlk X0 e0
  have N0 := Fr.nil n0
  have hww := @hvw _ _ hw
  have k0 := k_e (p := p) (e := e) (below := below) (s := s₁) (ef_26_RR m a1 a2)
  have K0 := Keep.refl h0 [a1]
  have H := @dch _ _ _ hby D26
  have k101 := f_alN X0 hx k0 (H 0 rfl) rfl
  have k102 := f_alN X0 hx k101 (H 1 rfl) rfl
  obtain ⟨T103, h103, L103, X103, e103, W103, B103, N103, Z103, k103⟩ := f_pF X0 hx hZ hown (hww 192 rfl) Via.refl e0 Fk0 (snVS hw) (Or.inr ⟨(hww 193 rfl), rfl, hnm⟩) (hww 186 rfl) 0 (by decide) rfl rfl (ty := (.object "java/util/HashMap")) (by decide) rfl rfl N0 ge_a1 Z0 k102 (H 2 rfl) rfl
  have K104 := kw K0 W103 0 rfl
  have k105 := f_alN X103 hx k103 (H 3 rfl) rfl
  obtain ⟨_, T106, L106, X106, hQ106, k106⟩ := c_N (W := 0) X103 hx hZ hown (hww 194 rfl) (hww 13 rfl) (hww 17 rfl) (hww 16 rfl) rfl (by decide) (i_AbstractCollection l Z a0 hw [] a1 h103 n0 Z103 ) e103 (argsL := []) (rest := []) rfl (by rw [hml]; rfl) k105 rfl (H 4 rfl) (lenOf pd__28_29V rfl) (b5 rfl)
  obtain ⟨rfl, N106q, e106⟩ := hQ106
  have N107 := Fr.app N103 N106q
  exact fin_v X106 hx hrt hlk k106 (H 5 rfl) (by rw [e106]; exact ⟨rfl, N107, K104, B103⟩) (by decide) (by decide)
theorem ef_25_R (m : MethodId) (x0 : Addr) : entryFrame m #[(.ref x0)] 2 = mkF m 0 #[.val (.ref x0), .unset] [] := by first | (simp [entryFrame, mkF, argsToLocals, Value.category]; done) | rfl
theorem pd__28Ljava_2futil_2fHashMap_3b_29V : parseMethodDescriptor "(Ljava/util/HashMap;)V" = some ⟨[(.object "java/util/HashMap")], none⟩ := by decide +kernel
def Q_vls (Z : State) (a1 : Addr) (tv : Value) (sz mc th : Int32) (h0 : Heap) (n0 : Nat) (v : Option Value) (h : Heap) (L : List Loc) : Prop := ∃ (vw : Addr), v = some (.ref vw) ∧ Fr n0 L ∧ Keep h0 h [a1] ∧ h0.size ≤ vw ∧ OBJ Z h a1 "java/util/HashMap" lyMP [tv, (.int sz), (.int mc), (.int th), (.ref vw), (.float (1061158912 : UInt32))] ∧ OBJ Z h vw "java/util/HashMap$Values" lyVS [(.ref a1)]
theorem vls (l : Launch) (Z : State) (a0 : Array Value) (hw : HW Z a0) (ws : List Jvm.Cond) (a1 : Addr) (tv : Value) (sz mc th : Int32) (h0 : Heap) (n0 : Nat) (Z0 : n0 ≤ h0.size) (Fk0 : OBJ Z h0 a1 "java/util/HashMap" lyMP [tv, (.int sz), (.int mc), (.int th), .null, (.float (1061158912 : UInt32))]) (ge_a1 : n0 ≤ a1) :
    Met l mn44 jdk_69_method_28_code 2 (some (.object "java/util/Collection")) ws (rm 3 1 1 38) #[(.ref a1)] Z h0 (Q_vls Z a1 tv sz mc th h0 n0) := by
  refine Met.intro (plainFor_of_name pn_java_2futil_2fHashMap) ?_
  intro p e s m below meth c s₁ hx hby hml hZ hown hnm hrt hlk X0 e0
  have N0 := Fr.nil n0
  have hww := @hvw _ _ hw
  have k0 := k_e (p := p) (e := e) (below := below) (s := s₁) (ef_25_R m a1)
  have K0 := Keep.refl h0 [a1]
  have H := @dch _ _ _ hby D25
  have k101 := f_alN X0 hx k0 (H 0 rfl) rfl
  obtain ⟨T102, X102, e102, st102⟩ := getF X0 hx hZ hown (host := "") (Or.inl (hww 182 rfl)) (Via.of (hww 183 rfl)) e0 (Fk0.g 4 (v := .null) (by decide) rfl rfl) (g := (mkF m 1 #[sr a1, un] [vR a1])) rfl rfl (H 1 rfl)
  have k103 : Rt p e below T102 (mkF m 4 #[sr a1, un] [.null]) s₁ m #[(.ref a1)] 2 := fun t k => k101 t (st102 t k)
  have k104 := f_nsN X102 hx k103 (H 2 rfl) (l' := #[sr a1, .val .null]) rfl
  have k105 := f_nlN X102 hx k104 (H 3 rfl) rfl
  have k106 := f_nnN X102 hx k105 (H 4 rfl)
  obtain ⟨T107, h107, X107, e107, E107, A107, D107, -, st107⟩ := newO X102 hx hZ hown (hww 185 rfl) (hww 186 rfl) (hww 187 rfl) e102 (g := (mkF m 9 #[sr a1, .val .null] [])) rfl (H 5 rfl) (by decide) (by decide)
  obtain ⟨b107, g107⟩ : ∃ z, z = h0.size := ⟨_, rfl⟩
  rw [← g107] at A107 D107 st107
  have g108 : n0 ≤ b107 := Nat.le_trans Z0 (Nat.le_of_eq g107.symm)
  have z109 : h0.size ≤ b107 := Nat.le_trans K0.1 (Nat.le_of_eq g107.symm)
  have F110 := Fk0.ext E107
  have Z111 : n0 ≤ h107.size := Nat.le_trans Z0 E107.1
  have K112 := K0.ext E107
  have F113 : Fld Z h107 b107 "java/util/HashMap$Values" "this$0" "Ljava/util/HashMap;" .null := D107 (Or.inr (hww 193 rfl)) (ty := (.object "java/util/HashMap")) (by decide)
  have k114 : Rt p e below T107 (mkF m 12 #[sr a1, .val .null] [vR b107]) s₁ m #[(.ref a1)] 2 := fun t k => k106 t (st107 t k)
  have B115 := mkVS A107 F113
  have k116 := f_dup X107 hx k114 (H 6 rfl) rfl
  have k117 := f_alN X107 hx k116 (H 7 rfl) rfl
  obtain ⟨_, T118, L118, X118, hQ118, k118⟩ := c_N (W := 1) X107 hx hZ hown (hww 188 rfl) (hww 189 rfl) (hww 191 rfl) (hww 187 rfl) rfl (by decide) (vsi l Z a0 hw [] b107 a1 h107 n0 Z111 B115 g108) e107 (argsL := [(.ref a1)]) (rest := [(.ref b107)]) rfl (by rw [hml]; rfl) k117 rfl (H 8 rfl) (lenOf pd__28Ljava_2futil_2fHashMap_3b_29V rfl) (b5 rfl)
  obtain ⟨h118, e118⟩ : ∃ h', T118.heap = h' := ⟨_, rfl⟩
  rw [e118] at hQ118
  obtain ⟨rfl, N118q, K118, R118_0⟩ := hQ118
  have N119 := Fr.app N0 N118q
  have F120 := F110.keep K118 (ninS (nL Fk0.lt (Nat.le_of_eq g107.symm)) nin0)
  have Z121 : n0 ≤ h118.size := Nat.le_trans Z111 K118.1
  have K122 := Keep.trans K112 K118 (allS (Or.inr z109) all0)
  have k123 := f_asN X118 hx k118 (H 9 rfl) (l' := #[sr a1, sr b107]) rfl
  have k124 := f_alN X118 hx k123 (H 10 rfl) rfl
  have k125 := f_alN X118 hx k124 (H 11 rfl) rfl
  obtain ⟨T126, h126, L126, X126, e126, W126, B126, N126, Z126, k126⟩ := f_pF X118 hx hZ hown (hww 182 rfl) (Via.of (hww 183 rfl)) e118 F120 (snMP hw) (Or.inl (hww 184 rfl)) (hww 27 rfl) 4 (by decide) rfl rfl (ty := (.object "java/util/Collection")) (by decide) rfl rfl N119 ge_a1 Z121 k125 (H 12 rfl) rfl
  have K127 := kw K122 W126 0 rfl
  have B128 := R118_0.other W126 (nG Fk0.lt (Nat.le_of_eq g107.symm))
  have k129 := f_alN X126 hx k126 (H 13 rfl) rfl
  exact fin_r X126 hx (w := (.ref b107)) hrt hlk rfl (Or.inr (Or.inr (Or.inr (Or.inr ⟨rfl, rfl, rfl⟩)))) k129 (H 14 rfl) (by rw [e126]; exact ⟨b107, rfl, N126, K127, z109, B126, B128⟩) (by decide) (by decide)
theorem ef_30_R (m : MethodId) (x0 : Addr) : entryFrame m #[(.ref x0)] 1 = mkF m 0 #[.val (.ref x0)] [] := by first | (simp [entryFrame, mkF, argsToLocals, Value.category]; done) | rfl
def Q_hn1 (Z : State) (a1 nx : Addr) (h0 : Heap) (n0 : Nat) (v : Option Value) (h : Heap) (L : List Loc) : Prop := v = some (.int (1 : Int32)) ∧ Fr n0 L ∧ h = h0
theorem pn_java_2futil_2fHashMap_24HashIterator : plainName "java/util/HashMap$HashIterator" = true := by first | (simp [plainName, overriddenIn]; done) | decide +kernel
theorem hn1 (l : Launch) (Z : State) (a0 : Array Value) (hw : HW Z a0) (ws : List Jvm.Cond) (a1 nx : Addr) (h0 : Heap) (n0 : Nat) (Z0 : n0 ≤ h0.size) (Fk0 : Fld Z h0 a1 "java/util/HashMap$HashIterator" "next" "Ljava/util/HashMap$Node;" (.ref nx)) :
    Met l mn45 jdk_99_method_2_code 1 (some .boolean) ws (rm 0 0 0 0) #[(.ref a1)] Z h0 (Q_hn1 Z a1 nx h0 n0) := by
  refine Met.intro (plainFor_of_name pn_java_2futil_2fHashMap_24HashIterator) ?_
  intro p e s m below meth c s₁ hx hby hml hZ hown hnm hrt hlk X0 e0
  have N0 := Fr.nil n0
  have hww := @hvw _ _ hw
  have k0 := k_e (p := p) (e := e) (below := below) (s := s₁) (ef_30_R m a1)
  have H := @dch _ _ _ hby D30
  have k101 := f_alN X0 hx k0 (H 0 rfl) rfl
  obtain ⟨T102, X102, e102, k103⟩ := gFs X0 hx hZ hown (hww 225 rfl) e0 Fk0 k101 (H 1 rfl)
  have k104 := f_inN X102 hx k103 (H 2 rfl)
  have k105 := f_ic X102 hx k104 (H 3 rfl) (v := 1) rfl
  have k106 := f_go X102 hx k105 (H 4 rfl) (pc' := 12) (by decide)
  exact fin_r X102 hx (w := (.int (1 : Int32))) hrt hlk rfl (Or.inl ⟨rfl, Or.inr (Or.inl rfl), _, rfl⟩) k106 (H 5 rfl) (by rw [e102]; exact ⟨rfl, N0, rfl⟩) (by decide) (by decide)
def Q_hn0 (Z : State) (a1 : Addr) (h0 : Heap) (n0 : Nat) (v : Option Value) (h : Heap) (L : List Loc) : Prop := v = some zI ∧ Fr n0 L ∧ h = h0
theorem hn0 (l : Launch) (Z : State) (a0 : Array Value) (hw : HW Z a0) (ws : List Jvm.Cond) (a1 : Addr) (h0 : Heap) (n0 : Nat) (Z0 : n0 ≤ h0.size) (Fk0 : Fld Z h0 a1 "java/util/HashMap$HashIterator" "next" "Ljava/util/HashMap$Node;" .null) :
    Met l mn45 jdk_99_method_2_code 1 (some .boolean) ws (rm 0 0 0 0) #[(.ref a1)] Z h0 (Q_hn0 Z a1 h0 n0) := by
  refine Met.intro (plainFor_of_name pn_java_2futil_2fHashMap_24HashIterator) ?_
  intro p e s m below meth c s₁ hx hby hml hZ hown hnm hrt hlk X0 e0
  have N0 := Fr.nil n0
  have hww := @hvw _ _ hw
  have k0 := k_e (p := p) (e := e) (below := below) (s := s₁) (ef_30_R m a1)
  have H := @dch _ _ _ hby D30
  have k101 := f_alN X0 hx k0 (H 0 rfl) rfl
  obtain ⟨T102, X102, e102, k103⟩ := gFs X0 hx hZ hown (hww 225 rfl) e0 Fk0 k101 (H 1 rfl)
  have k104 := f_inY X102 hx k103 (H 2 rfl) (pc' := 11) (by decide)
  have k105 := f_ic X102 hx k104 (H 6 rfl) (v := 0) rfl
  exact fin_r X102 hx (w := zI) hrt hlk rfl (Or.inl ⟨rfl, Or.inr (Or.inl rfl), _, rfl⟩) k105 (H 5 rfl) (by rw [e102]; exact ⟨rfl, N0, rfl⟩) (by decide) (by decide)
theorem ef_29_RR (m : MethodId) (x0 : Addr) (x1 : Addr) : entryFrame m #[(.ref x0), (.ref x1)] 3 = mkF m 0 #[.val (.ref x0), .val (.ref x1), .unset] [] := by first | (simp [entryFrame, mkF, argsToLocals, Value.category]; done) | rfl
def Q_hii1 (Z : State) (a1 a2 : Addr) (mc sz : Int32) (tb : Addr) (kt : ClassId) (nd : Addr) (v2 v3 v4 : Value) (h0 : Heap) (n0 : Nat) (v : Option Value) (h : Heap) (L : List Loc) : Prop := v = none ∧ Fr n0 L ∧ Keep h0 h [a1] ∧ OBJ Z h a1 "java/util/HashMap$ValueIterator" lyIT [(.ref a2), (.int mc), (.ref nd), .null, (.int (2 : Int32))]
theorem hii1 (l : Launch) (Z : State) (a0 : Array Value) (hw : HW Z a0) (ws : List Jvm.Cond) (a1 a2 : Addr) (mc sz : Int32) (tb : Addr) (kt : ClassId) (nd : Addr) (v2 v3 v4 : Value) (h0 : Heap) (n0 : Nat) (Z0 : n0 ≤ h0.size) (Fk0 : OBJ Z h0 a1 "java/util/HashMap$ValueIterator" lyIT [.null, zI, .null, .null, zI]) (Fk1 : Fld Z h0 a2 "java/util/HashMap" "modCount" "I" (.int mc)) (Fk2 : Fld Z h0 a2 "java/util/HashMap" "table" "[Ljava/util/HashMap$Node;" (.ref tb)) (Fk3 : Fld Z h0 a2 "java/util/HashMap" "size" "I" (.int sz)) (Fk4 : Arv Z h0 tb kt (.object "java/util/HashMap$Node") (16 : Int32) [.null, (.ref nd), v2, v3, v4, .null, .null, .null, .null, .null, .null, .null, .null, .null, .null, .null] .null) (ge_a1 : n0 ≤ a1) (ne_a1_a2 : a1 ≠ a2) (ne_a1_tb : a1 ≠ tb) (hsz : (0 : Int32) < sz) :
    Met l mn46 jdk_99_method_1_code 3 none ws (rm 1 0 0 12) #[(.ref a1), (.ref a2)] Z h0 (Q_hii1 Z a1 a2 mc sz tb kt nd v2 v3 v4 h0 n0) := by
  refine Met.intro (plainFor_of_name pn_java_2futil_2fHashMap_24HashIterator) ?_
  intro p e s m below meth c s₁ hx hby hml hZ hown hnm hrt hlk X0 e0
  have N0 := Fr.nil n0
  have hww := @hvw _ _ hw
  have k0 := k_e (p := p) (e := e) (below := below) (s := s₁) (ef_29_RR m a1 a2)
  have K0 := Keep.refl h0 [a1]
  have H := @dch _ _ _ hby D29
  have k101 := f_alN X0 hx k0 (H 0 rfl) rfl
  have k102 := f_alN X0 hx k101 (H 1 rfl) rfl
  obtain ⟨T103, h103, L103, X103, e103, W103, B103, N103, Z103, k103⟩ := f_pF X0 hx hZ hown (hww 218 rfl) Via.refl e0 Fk0 (snIT hw) (Or.inr ⟨(hww 219 rfl), rfl, hnm⟩) (hww 206 rfl) 0 (by decide) rfl rfl (ty := (.object "java/util/HashMap")) (by decide) rfl rfl N0 ge_a1 Z0 k102 (H 2 rfl) rfl
  have K104 := kw K0 W103 0 rfl
  have k105 := f_alN X103 hx k103 (H 3 rfl) rfl
  obtain ⟨T106, X106, e106, st106⟩ := initO X103 hx hZ hown (hww 220 rfl) (hww 19 rfl) (hww 20 rfl) e103 (g := (mkF m 6 #[sr a1, sr a2, un] [vR a1])) rfl (by rw [hml]; rfl) rfl (H 4 rfl) (by decide) (W := 0) (by show 2 * 0 + _ ≤ _; exact Nat.le_of_eq rfl) (by decide)
  have k107 : Rt p e below T106 (mkF m 9 #[sr a1, sr a2, un] []) s₁ m #[(.ref a1), (.ref a2)] 3 := fun t k => k105 t (st106 t k)
  have k108 := f_alN X106 hx k107 (H 5 rfl) rfl
  have k109 := f_alN X106 hx k108 (H 6 rfl) rfl
  obtain ⟨T110, X110, e110, k111⟩ := gFs X106 hx hZ hown (hww 221 rfl) e106 (Fk1.keep K104 (ninS (Ne.symm ne_a1_a2) nin0)) k109 (H 7 rfl)
  obtain ⟨T112, h112, L112, X112, e112, W112, B112, N112, Z112, k112⟩ := f_pF X110 hx hZ hown (hww 222 rfl) Via.refl e110 B103 (snIT hw) (Or.inl (hww 223 rfl)) (hww 206 rfl) 1 (by decide) rfl rfl (ty := .int) (by decide) rfl rfl N103 ge_a1 Z103 k111 (H 8 rfl) rfl
  have K113 := kw K104 W112 0 rfl
  have k114 := f_alN X112 hx k112 (H 9 rfl) rfl
  obtain ⟨T115, X115, e115, k116⟩ := gFs X112 hx hZ hown (hww 224 rfl) e112 (Fk2.keep K113 (ninS (Ne.symm ne_a1_a2) nin0)) k114 (H 10 rfl)
  have k117 := f_asN X115 hx k116 (H 11 rfl) (l' := #[sr a1, sr a2, sr tb]) rfl
  have k118 := f_alN X115 hx k117 (H 12 rfl) rfl
  have k119 := f_alN X115 hx k118 (H 13 rfl) rfl
  have k120 := f_an X115 hx k119 (H 14 rfl)
  have k121 := f_dupX1 X115 hx k120 (H 15 rfl) rfl rfl
  obtain ⟨T122, h122, L122, X122, e122, W122, B122, N122, Z122, k122⟩ := f_pF X115 hx hZ hown (hww 225 rfl) Via.refl e115 B112 (snIT hw) (Or.inl (hww 226 rfl)) (hww 206 rfl) 2 (by decide) rfl rfl (ty := (.object "java/util/HashMap$Node")) (by decide) rfl rfl N112 ge_a1 Z112 k121 (H 16 rfl) rfl
  have K123 := kw K113 W122 0 rfl
  obtain ⟨T124, h124, L124, X124, e124, W124, B124, N124, Z124, k124⟩ := f_pF X122 hx hZ hown (hww 227 rfl) Via.refl e122 B122 (snIT hw) (Or.inl (hww 228 rfl)) (hww 206 rfl) 3 (by decide) rfl rfl (ty := (.object "java/util/HashMap$Node")) (by decide) rfl rfl N122 ge_a1 Z122 k122 (H 17 rfl) rfl
  have K125 := kw K123 W124 0 rfl
  have k126 := f_alN X124 hx k124 (H 18 rfl) rfl
  have k127 := f_ic X124 hx k126 (H 19 rfl) (v := 0) rfl
  obtain ⟨T128, h128, L128, X128, e128, W128, B128, N128, Z128, k128⟩ := f_pF X124 hx hZ hown (hww 229 rfl) Via.refl e124 B124 (snIT hw) (Or.inl (hww 230 rfl)) (hww 206 rfl) 4 (by decide) rfl rfl (ty := .int) (by decide) rfl rfl N124 ge_a1 Z124 k127 (H 20 rfl) rfl
  have K129 := kw K125 W128 0 rfl
  have k130 := f_alN X128 hx k128 (H 21 rfl) rfl
  have k131 := f_inN X128 hx k130 (H 22 rfl)
  have k132 := f_alN X128 hx k131 (H 23 rfl) rfl
  obtain ⟨T133, X133, e133, k134⟩ := gFs X128 hx hZ hown (hww 231 rfl) e128 (Fk3.keep K129 (ninS (Ne.symm ne_a1_a2) nin0)) k132 (H 24 rfl)
  have k135 := f_ifN X133 hx k134 (H 25 rfl) ((if0 _ _).trans (tlt hsz).2.2.2)
  have k136 := f_alN X133 hx k135 (H 26 rfl) rfl
  obtain ⟨T137, X137, e137, k138⟩ := gFs X133 hx hZ hown (hww 229 rfl) e133 (B128.g 4 (v := zI) (by decide) rfl rfl) k136 (H 27 rfl)
  have k139 := f_alN X137 hx k138 (H 28 rfl) rfl
  have k140 := f_len X137 hx hZ e137 (Fk4.keep K129 (ninS (Ne.symm ne_a1_tb) nin0)) k139 (H 29 rfl)
  have k141 := f_icN X137 hx k140 (H 30 rfl) (tlt (by decide)).2.1
  have k142 := f_alN X137 hx k141 (H 31 rfl) rfl
  have k143 := f_alN X137 hx k142 (H 32 rfl) rfl
  have k144 := f_alN X137 hx k143 (H 33 rfl) rfl
  have k145 := f_dup X137 hx k144 (H 34 rfl) rfl
  obtain ⟨T146, X146, e146, k147⟩ := gFs X137 hx hZ hown (hww 229 rfl) e137 (B128.g 4 (v := zI) (by decide) rfl rfl) k145 (H 35 rfl)
  have k148 := f_dupX1 X146 hx k147 (H 36 rfl) rfl rfl
  have k149 := f_ic X146 hx k148 (H 37 rfl) (v := 1) rfl
  have k150 := f_iadd X146 hx k149 (H 38 rfl) (r := 1) (by decide)
  obtain ⟨T151, h151, L151, X151, e151, W151, B151, N151, Z151, k151⟩ := f_pF X146 hx hZ hown (hww 229 rfl) Via.refl e146 B128 (snIT hw) (Or.inl (hww 230 rfl)) (hww 206 rfl) 4 (by decide) rfl rfl (ty := .int) (by decide) rfl rfl N128 ge_a1 Z128 k150 (H 39 rfl) rfl
  have K152 := kw K129 W151 0 rfl
  have k153 := f_aal X151 hx hZ e151 (Fk4.keep K152 (ninS (Ne.symm ne_a1_tb) nin0)) k151 (H 40 rfl) (v := .null) rfl (by decide) rfl
  have k154 := f_dupX1 X151 hx k153 (H 41 rfl) rfl rfl
  obtain ⟨T155, h155, L155, X155, e155, W155, B155, N155, Z155, k155⟩ := f_pF X151 hx hZ hown (hww 225 rfl) Via.refl e151 B151 (snIT hw) (Or.inl (hww 226 rfl)) (hww 206 rfl) 2 (by decide) rfl rfl (ty := (.object "java/util/HashMap$Node")) (by decide) rfl rfl N151 ge_a1 Z151 k154 (H 42 rfl) rfl
  have K156 := kw K152 W155 0 rfl
  have k157 := f_inY X155 hx k155 (H 43 rfl) (pc' := 48) (by decide)
  have k158 := f_alN X155 hx k157 (H 26 rfl) rfl
  obtain ⟨T159, X159, e159, k160⟩ := gFs X155 hx hZ hown (hww 229 rfl) e155 (B155.g 4 (v := (.int (1 : Int32))) (by decide) rfl rfl) k158 (H 27 rfl)
  have k161 := f_alN X159 hx k160 (H 28 rfl) rfl
  have k162 := f_len X159 hx hZ e159 (Fk4.keep K156 (ninS (Ne.symm ne_a1_tb) nin0)) k161 (H 29 rfl)
  have k163 := f_icN X159 hx k162 (H 30 rfl) (tlt (by decide)).2.1
  have k164 := f_alN X159 hx k163 (H 31 rfl) rfl
  have k165 := f_alN X159 hx k164 (H 32 rfl) rfl
  have k166 := f_alN X159 hx k165 (H 33 rfl) rfl
  have k167 := f_dup X159 hx k166 (H 34 rfl) rfl
  obtain ⟨T168, X168, e168, k169⟩ := gFs X159 hx hZ hown (hww 229 rfl) e159 (B155.g 4 (v := (.int (1 : Int32))) (by decide) rfl rfl) k167 (H 35 rfl)
  have k170 := f_dupX1 X168 hx k169 (H 36 rfl) rfl rfl
  have k171 := f_ic X168 hx k170 (H 37 rfl) (v := 1) rfl
  have k172 := f_iadd X168 hx k171 (H 38 rfl) (r := 2) (by decide)
  obtain ⟨T173, h173, L173, X173, e173, W173, B173, N173, Z173, k173⟩ := f_pF X168 hx hZ hown (hww 229 rfl) Via.refl e168 B155 (snIT hw) (Or.inl (hww 230 rfl)) (hww 206 rfl) 4 (by decide) rfl rfl (ty := .int) (by decide) rfl rfl N155 ge_a1 Z155 k172 (H 39 rfl) rfl
  have K174 := kw K156 W173 0 rfl
  have k175 := f_aal X173 hx hZ e173 (Fk4.keep K174 (ninS (Ne.symm ne_a1_tb) nin0)) k173 (H 40 rfl) (v := (.ref nd)) rfl (by decide) rfl
  have k176 := f_dupX1 X173 hx k175 (H 41 rfl) rfl rfl
  obtain ⟨T177, h177, L177, X177, e177, W177, B177, N177, Z177, k177⟩ := f_pF X173 hx hZ hown (hww 225 rfl) Via.refl e173 B173 (snIT hw) (Or.inl (hww 226 rfl)) (hww 206 rfl) 2 (by decide) rfl rfl (ty := (.object "java/util/HashMap$Node")) (by decide) rfl rfl N173 ge_a1 Z173 k176 (H 42 rfl) rfl
  have K178 := kw K174 W177 0 rfl
  have k179 := f_inN X177 hx k177 (H 43 rfl)
  exact fin_v X177 hx hrt hlk k179 (H 44 rfl) (by rw [e177]; exact ⟨rfl, N177, K178, B177⟩) (by decide) (by decide)
theorem ef_28_RR (m : MethodId) (x0 : Addr) (x1 : Addr) : entryFrame m #[(.ref x0), (.ref x1)] 2 = mkF m 0 #[.val (.ref x0), .val (.ref x1)] [] := by first | (simp [entryFrame, mkF, argsToLocals, Value.category]; done) | rfl
def Q_vii1 (Z : State) (a1 a2 : Addr) (mc sz : Int32) (tb : Addr) (kt : ClassId) (nd : Addr) (v2 v3 v4 : Value) (h0 : Heap) (n0 : Nat) (v : Option Value) (h : Heap) (L : List Loc) : Prop := v = none ∧ Fr n0 L ∧ Keep h0 h [a1] ∧ OBJ Z h a1 "java/util/HashMap$ValueIterator" lyIT [(.ref a2), (.int mc), (.ref nd), .null, (.int (2 : Int32))]
theorem pn_java_2futil_2fHashMap_24ValueIterator : plainName "java/util/HashMap$ValueIterator" = true := by first | (simp [plainName, overriddenIn]; done) | decide +kernel
theorem vii1 (l : Launch) (Z : State) (a0 : Array Value) (hw : HW Z a0) (ws : List Jvm.Cond) (a1 a2 : Addr) (mc sz : Int32) (tb : Addr) (kt : ClassId) (nd : Addr) (v2 v3 v4 : Value) (h0 : Heap) (n0 : Nat) (Z0 : n0 ≤ h0.size) (Fk0 : OBJ Z h0 a1 "java/util/HashMap$ValueIterator" lyIT [.null, zI, .null, .null, zI]) (Fk1 : Fld Z h0 a2 "java/util/HashMap" "modCount" "I" (.int mc)) (Fk2 : Fld Z h0 a2 "java/util/HashMap" "table" "[Ljava/util/HashMap$Node;" (.ref tb)) (Fk3 : Fld Z h0 a2 "java/util/HashMap" "size" "I" (.int sz)) (Fk4 : Arv Z h0 tb kt (.object "java/util/HashMap$Node") (16 : Int32) [.null, (.ref nd), v2, v3, v4, .null, .null, .null, .null, .null, .null, .null, .null, .null, .null, .null] .null) (ge_a1 : n0 ≤ a1) (ne_a1_a2 : a1 ≠ a2) (ne_a1_tb : a1 ≠ tb) (hsz : (0 : Int32) < sz) :
    Met l mn47 jdk_2569_method_1_code 2 none ws (rm 2 0 0 26) #[(.ref a1), (.ref a2)] Z h0 (Q_vii1 Z a1 a2 mc sz tb kt nd v2 v3 v4 h0 n0) := by
  refine Met.intro (plainFor_of_name pn_java_2futil_2fHashMap_24ValueIterator) ?_
  intro p e s m below meth c s₁ hx hby hml hZ hown hnm hrt hlk X0 e0
  have N0 := Fr.nil n0
  have hww := @hvw _ _ hw
  have k0 := k_e (p := p) (e := e) (below := below) (s := s₁) (ef_28_RR m a1 a2)
  have K0 := Keep.refl h0 [a1]
  have H := @dch _ _ _ hby D28
  have k101 := f_alN X0 hx k0 (H 0 rfl) rfl
  have k102 := f_alN X0 hx k101 (H 1 rfl) rfl
  obtain ⟨_, T103, L103, X103, hQ103, k103⟩ := c_N (W := 0) X0 hx hZ hown (hww 212 rfl) (hww 213 rfl) (hww 217 rfl) (hww 216 rfl) rfl (by decide) (hii1 l Z a0 hw [] a1 a2 mc sz tb kt nd v2 v3 v4 h0 n0 Z0 Fk0 Fk1 Fk2 Fk3 Fk4 ge_a1 ne_a1_a2 ne_a1_tb hsz) e0 (argsL := [(.ref a2)]) (rest := []) rfl (by rw [hml]; rfl) k102 rfl (H 2 rfl) (lenOf pd__28Ljava_2futil_2fHashMap_3b_29V rfl) (b5 rfl)
  obtain ⟨h103, e103⟩ : ∃ h', T103.heap = h' := ⟨_, rfl⟩
  rw [e103] at hQ103
  obtain ⟨rfl, N103q, K103, R103_0⟩ := hQ103
  have N104 := Fr.app N0 N103q
  have Z105 : n0 ≤ h103.size := Nat.le_trans Z0 K103.1
  have K106 := Keep.trans K0 K103 (allS (oL 0 rfl) all0)
  exact fin_v X103 hx hrt hlk k103 (H 3 rfl) (by rw [e103]; exact ⟨rfl, N104, K106, R103_0⟩) (by decide) (by decide)
theorem ef_27_R (m : MethodId) (x0 : Addr) : entryFrame m #[(.ref x0)] 1 = mkF m 0 #[.val (.ref x0)] [] := by first | (simp [entryFrame, mkF, argsToLocals, Value.category]; done) | rfl
def Q_vit1 (Z : State) (a0_ a2 : Addr) (mc sz : Int32) (tb : Addr) (kt : ClassId) (nd : Addr) (v2 v3 v4 : Value) (h0 : Heap) (n0 : Nat) (v : Option Value) (h : Heap) (L : List Loc) : Prop := ∃ (it : Addr), v = some (.ref it) ∧ Fr n0 L ∧ Keep h0 h [] ∧ h0.size ≤ it ∧ OBJ Z h it "java/util/HashMap$ValueIterator" lyIT [(.ref a2), (.int mc), (.ref nd), .null, (.int (2 : Int32))]
theorem vit1 (l : Launch) (Z : State) (a0 : Array Value) (hw : HW Z a0) (ws : List Jvm.Cond) (a0_ a2 : Addr) (mc sz : Int32) (tb : Addr) (kt : ClassId) (nd : Addr) (v2 v3 v4 : Value) (h0 : Heap) (n0 : Nat) (Z0 : n0 ≤ h0.size) (Fk0 : Fld Z h0 a2 "java/util/HashMap" "modCount" "I" (.int mc)) (Fk1 : Fld Z h0 a2 "java/util/HashMap" "table" "[Ljava/util/HashMap$Node;" (.ref tb)) (Fk2 : Fld Z h0 a2 "java/util/HashMap" "size" "I" (.int sz)) (Fk3 : Arv Z h0 tb kt (.object "java/util/HashMap$Node") (16 : Int32) [.null, (.ref nd), v2, v3, v4, .null, .null, .null, .null, .null, .null, .null, .null, .null, .null, .null] .null) (Fk4 : OBJ Z h0 a0_ "java/util/HashMap$Values" lyVS [(.ref a2)]) (hsz : (0 : Int32) < sz) :
    Met l mn48 jdk_2571_method_4_code 1 (some (.object "java/util/Iterator")) ws (rm 3 1 5 40) #[(.ref a0_)] Z h0 (Q_vit1 Z a0_ a2 mc sz tb kt nd v2 v3 v4 h0 n0) := by
  refine Met.intro (plainFor_of_name pn_java_2futil_2fHashMap_24Values) ?_
  intro p e s m below meth c s₁ hx hby hml hZ hown hnm hrt hlk X0 e0
  have N0 := Fr.nil n0
  have hww := @hvw _ _ hw
  have k0 := k_e (p := p) (e := e) (below := below) (s := s₁) (ef_27_R m a0_)
  have K0 : Keep h0 h0 [] := Keep.refl h0 []
  have H := @dch _ _ _ hby D27
  obtain ⟨T101, h101, X101, e101, E101, A101, D101, -, st101⟩ := newO X0 hx hZ hown (hww 205 rfl) (hww 206 rfl) (hww 207 rfl) e0 (g := (mkF m 0 #[sr a0_] [])) rfl (H 0 rfl) (by decide) (by decide)
  obtain ⟨b101, g101⟩ : ∃ z, z = h0.size := ⟨_, rfl⟩
  rw [← g101] at A101 D101 st101
  have g102 : n0 ≤ b101 := Nat.le_trans Z0 (Nat.le_of_eq g101.symm)
  have z103 : h0.size ≤ b101 := Nat.le_trans K0.1 (Nat.le_of_eq g101.symm)
  have Z104 : n0 ≤ h101.size := Nat.le_trans Z0 E101.1
  have K105 := K0.ext E101
  have F106 : Fld Z h101 b101 "java/util/HashMap$HashIterator" "this$0" "Ljava/util/HashMap;" .null := D101 (Or.inr (hww 219 rfl)) (ty := (.object "java/util/HashMap")) (by decide)
  have F107 : Fld Z h101 b101 "java/util/HashMap$HashIterator" "expectedModCount" "I" zI := D101 (Or.inl (hww 223 rfl)) (ty := .int) (by decide)
  have F108 : Fld Z h101 b101 "java/util/HashMap$HashIterator" "next" "Ljava/util/HashMap$Node;" .null := D101 (Or.inl (hww 226 rfl)) (ty := (.object "java/util/HashMap$Node")) (by decide)
  have F109 : Fld Z h101 b101 "java/util/HashMap$HashIterator" "current" "Ljava/util/HashMap$Node;" .null := D101 (Or.inl (hww 228 rfl)) (ty := (.object "java/util/HashMap$Node")) (by decide)
  have F110 : Fld Z h101 b101 "java/util/HashMap$HashIterator" "index" "I" zI := D101 (Or.inl (hww 230 rfl)) (ty := .int) (by decide)
  have k111 : Rt p e below T101 (mkF m 3 #[sr a0_] [vR b101]) s₁ m #[(.ref a0_)] 1 := fun t k => k0 t (st101 t k)
  have B112 := mkIT A101 F106 F107 F108 F109 F110
  have k113 := f_dup X101 hx k111 (H 1 rfl) rfl
  have k114 := f_alN X101 hx k113 (H 2 rfl) rfl
  obtain ⟨T115, X115, e115, k116⟩ := gFs X101 hx hZ hown (hww 192 rfl) e101 ((Fk4.keep K105 nin0).g 0 (v := (.ref a2)) (by decide) rfl rfl) k114 (H 3 rfl)
  obtain ⟨_, T117, L117, X117, hQ117, k117⟩ := c_N (W := 1) X115 hx hZ hown (hww 208 rfl) (hww 209 rfl) (hww 211 rfl) (hww 207 rfl) rfl (by decide) (vii1 l Z a0 hw [] b101 a2 mc sz tb kt nd v2 v3 v4 h101 n0 Z104 B112 (Fk0.keep K105 nin0) (Fk1.keep K105 nin0) (Fk2.keep K105 nin0) (Fk3.keep K105 nin0) g102 (nG Fk2.lt z103) (nG Fk3.lt z103) hsz) e115 (argsL := [(.ref a2)]) (rest := [(.ref b101)]) rfl (by rw [hml]; rfl) k116 rfl (H 4 rfl) (lenOf pd__28Ljava_2futil_2fHashMap_3b_29V rfl) (b5 rfl)
  obtain ⟨h117, e117⟩ : ∃ h', T117.heap = h' := ⟨_, rfl⟩
  rw [e117] at hQ117
  obtain ⟨rfl, N117q, K117, R117_0⟩ := hQ117
  have N118 := Fr.app N0 N117q
  have Z119 : n0 ≤ h117.size := Nat.le_trans Z104 K117.1
  have K120 := Keep.trans K105 K117 (allS (Or.inr z103) all0)
  exact fin_r X117 hx (w := (.ref b101)) hrt hlk rfl (Or.inr (Or.inr (Or.inr (Or.inr ⟨rfl, rfl, rfl⟩)))) k117 (H 5 rfl) (by rw [e117]; exact ⟨b101, rfl, N118, K120, z103, R117_0⟩) (by decide) (by decide)
theorem scn (l : Launch) (Z : State) (a0 : Array Value) (hw : HW Z a0) {p : Program} {e : Env} {R : Room} {s : State} {m : MethodId} {args : Array Value} {below : List Frame} {meth : Method} {c : Code} {cells slots : Nat} {s1 : State} {A : Array Value} {N n0 : Nat} {h0 : Heap} {it tb nd mp : Addr} {kt : ClassId} {mc : Int32} {cu : Value} {tl : List Value} {own : String} (hx : p.tables.exec = Jvm.exec) (hby : c.code = jdk_99_method_3_code) (hZ : Z.Warmed39 s.vm) (hown0 : s.vm.findClass own = some m.cls) (ho : own = "java/util/HashMap$HashIterator") : ∀ (d : Nat) (i : Int32), i.toInt = 16 - (d : Int) ∧ d ≤ 16 → (∀ j : Int32, i.toInt ≤ j.toInt → j.toInt < 16 → tl.getD j.toNatClampNeg .null = .null) → ∀ {T : State} {locs : List Loc} {h : Heap}, Stand p l e R s m args below meth c T locs cells slots → T.heap = h → OBJ Z h it "java/util/HashMap$ValueIterator" lyIT [(.ref mp), (.int mc), .null, cu, (.int i)] → Arv Z h tb kt (.object "java/util/HashMap$Node") (16 : Int32) tl .null → it ≠ tb → Fr n0 locs → n0 ≤ it → n0 ≤ h.size → Keep h0 h [it] → Rt p e below T (mkF m 68 #[sr it, sr tb, sr nd] []) s1 m A N → ∃ T' h' L', Stand p l e R s m args below meth c T' L' cells slots ∧ T'.heap = h' ∧ OBJ Z h' it "java/util/HashMap$ValueIterator" lyIT [(.ref mp), (.int mc), .null, cu, (.int (16 : Int32))] ∧ Fr n0 L' ∧ n0 ≤ h'.size ∧ Keep h0 h' [it] ∧ Rt p e below T' (mkF m 98 #[sr it, sr tb, sr nd] []) s1 m A N := by
  subst ho
  have hown : s.vm.findClass "java/util/HashMap$HashIterator" = some m.cls := hown0
  have hww := @hvw _ _ hw
  have H := @dch _ _ _ hby D32
  intro d
  induction d with
  | zero =>
    intro i hi hnul T locs h X eT B0 V0 hne NF ge zs Kq k
    have e16 : i = (16 : Int32) := Int32.toInt_inj.mp (by rw [hi.1]; rfl)
    subst e16
    have k501 := f_alN X hx k (H 0 rfl) rfl
    obtain ⟨T502, X502, e502, k503⟩ := gFs X hx hZ hown (hww 229 rfl) eT (B0.g 4 (v := (.int (16 : Int32))) (by decide) rfl rfl) k501 (H 1 rfl)
    have k504 := f_alN X502 hx k503 (H 2 rfl) rfl
    have k505 := f_len X502 hx hZ e502 V0 k504 (H 3 rfl)
    have k506 := f_icY X502 hx k505 (H 4 rfl) (pc' := 98) (flt (by decide)).2.1 (by decide)
    exact ⟨T502, h, _, X502, e502, B0, NF, zs, Kq, k506⟩
  | succ d ih =>
    intro i hi hnul T locs h X eT B0 V0 hne NF ge zs Kq k
    have hlt' : i.toInt < 16 := by have := hi.1; omega
    have hge : ¬ i < (0 : Int32) := by have a := hi.1; have b := hi.2; rw [Int32.lt_iff_toInt_lt, show (0 : Int32).toInt = 0 by decide]; omega
    have hlt : i < (16 : Int32) := by rw [Int32.lt_iff_toInt_lt, show (16 : Int32).toInt = 16 by decide]; exact hlt'
    have hs : (i + (1 : Int32)).toInt = i.toInt + 1 := by have a := c_iadd i 1; have r := rng32 (i + 1); have b := hi.1; have b' := hi.2; rw [show (1 : Int32).toInt = 1 by decide] at a; omega
    have k101 := f_alN X hx k (H 0 rfl) rfl
    obtain ⟨T102, X102, e102, k103⟩ := gFs X hx hZ hown (hww 229 rfl) eT (B0.g 4 (v := (.int i)) (by decide) rfl rfl) k101 (H 1 rfl)
    have k104 := f_alN X102 hx k103 (H 2 rfl) rfl
    have k105 := f_len X102 hx hZ e102 V0 k104 (H 3 rfl)
    have k106 := f_icN X102 hx k105 (H 4 rfl) (tlt hlt).2.1
    have k107 := f_alN X102 hx k106 (H 5 rfl) rfl
    have k108 := f_alN X102 hx k107 (H 6 rfl) rfl
    have k109 := f_alN X102 hx k108 (H 7 rfl) rfl
    have k110 := f_dup X102 hx k109 (H 8 rfl) rfl
    obtain ⟨T111, X111, e111, k112⟩ := gFs X102 hx hZ hown (hww 229 rfl) e102 (B0.g 4 (v := (.int i)) (by decide) rfl rfl) k110 (H 9 rfl)
    have k113 := f_dupX1 X111 hx k112 (H 10 rfl) rfl rfl
    have k114 := f_ic X111 hx k113 (H 11 rfl) (v := 1) rfl
    have k115 := f_iadd X111 hx k114 (H 12 rfl) rfl
    obtain ⟨T116, h116, L116, X116, e116, W116, B116, N116, Z116, k116⟩ := f_pF X111 hx hZ hown (hww 229 rfl) Via.refl e111 B0 (snIT hw) (Or.inl (hww 230 rfl)) (hww 206 rfl) 4 (by decide) rfl rfl (ty := .int) (by decide) rfl rfl NF ge zs k115 (H 13 rfl) rfl
    have F117 := V0.other W116 (Ne.symm hne)
    have K118 := kw Kq W116 0 rfl
    have k119 := f_aal X116 hx hZ e116 F117 k116 (H 14 rfl) (v := .null) rfl ⟨hge, hlt⟩ (hnul i (Int.le_refl _) hlt')
    have k120 := f_dupX1 X116 hx k119 (H 15 rfl) rfl rfl
    obtain ⟨T121, h121, L121, X121, e121, W121, B121, N121, Z121, k121⟩ := f_pF X116 hx hZ hown (hww 225 rfl) Via.refl e116 B116 (snIT hw) (Or.inl (hww 226 rfl)) (hww 206 rfl) 2 (by decide) rfl rfl (ty := (.object "java/util/HashMap$Node")) (by decide) rfl rfl N116 ge Z116 k120 (H 16 rfl) rfl
    have F122 := F117.other W121 (Ne.symm hne)
    have K123 := kw K118 W121 0 rfl
    have k124 := f_inY X121 hx k121 (H 17 rfl) (pc' := 68) (by decide)
    exact ih (i + (1 : Int32)) (by have a := hi.1; have b := hi.2; omega) (fun j h1 h2 => hnul j (by omega) h2) X121 e121 B121 F122 hne N121 ge Z121 K123 k124
theorem ef_32_R (m : MethodId) (x0 : Addr) : entryFrame m #[(.ref x0)] 3 = mkF m 0 #[.val (.ref x0), .unset, .unset] [] := by first | (simp [entryFrame, mkF, argsToLocals, Value.category]; done) | rfl
def Q_nxn12 (Z : State) (a1 a2 : Addr) (mc : Int32) (tb : Addr) (kt : ClassId) (nd : Addr) (cu : Value) (nx : Addr) (v1 v3 v4 : Value) (h0 : Heap) (n0 : Nat) (v : Option Value) (h : Heap) (L : List Loc) : Prop := v = some (.ref nd) ∧ Fr n0 L ∧ Keep h0 h [a1] ∧ OBJ Z h a1 "java/util/HashMap$ValueIterator" lyIT [(.ref a2), (.int mc), (.ref nx), (.ref nd), (.int (3 : Int32))]
theorem nxn12 (l : Launch) (Z : State) (a0 : Array Value) (hw : HW Z a0) (ws : List Jvm.Cond) (a1 a2 : Addr) (mc : Int32) (tb : Addr) (kt : ClassId) (nd : Addr) (cu : Value) (nx : Addr) (v1 v3 v4 : Value) (h0 : Heap) (n0 : Nat) (Z0 : n0 ≤ h0.size) (Fk0 : OBJ Z h0 a1 "java/util/HashMap$ValueIterator" lyIT [(.ref a2), (.int mc), (.ref nd), cu, (.int (2 : Int32))]) (Fk1 : Fld Z h0 a2 "java/util/HashMap" "modCount" "I" (.int mc)) (Fk2 : Fld Z h0 a2 "java/util/HashMap" "table" "[Ljava/util/HashMap$Node;" (.ref tb)) (Fk3 : Arv Z h0 tb kt (.object "java/util/HashMap$Node") (16 : Int32) [.null, v1, (.ref nx), v3, v4, .null, .null, .null, .null, .null, .null, .null, .null, .null, .null, .null] .null) (Fk4 : Fld Z h0 nd "java/util/HashMap$Node" "next" "Ljava/util/HashMap$Node;" .null) (ge_a1 : n0 ≤ a1) (ne_a1_a2 : a1 ≠ a2) (ne_a1_tb : a1 ≠ tb) (ne_a1_nd : a1 ≠ nd) :
    Met l mn49 jdk_99_method_3_code 3 (some (.object "java/util/HashMap$Node")) ws (rm 0 0 0 0) #[(.ref a1)] Z h0 (Q_nxn12 Z a1 a2 mc tb kt nd cu nx v1 v3 v4 h0 n0) := by
  refine Met.intro (plainFor_of_name pn_java_2futil_2fHashMap_24HashIterator) ?_
  intro p e s m below meth c s₁ hx hby hml hZ hown hnm hrt hlk X0 e0
  have N0 := Fr.nil n0
  have hww := @hvw _ _ hw
  have k0 := k_e (p := p) (e := e) (below := below) (s := s₁) (ef_32_R m a1)
  have K0 := Keep.refl h0 [a1]
  have H := @dch _ _ _ hby D32
  have k101 := f_alN X0 hx k0 (H 18 rfl) rfl
  obtain ⟨T102, X102, e102, k103⟩ := gFs X0 hx hZ hown (hww 225 rfl) e0 (Fk0.g 2 (v := (.ref nd)) (by decide) rfl rfl) k101 (H 19 rfl)
  have k104 := f_asN X102 hx k103 (H 20 rfl) (l' := #[sr a1, un, sr nd]) rfl
  have k105 := f_alN X102 hx k104 (H 21 rfl) rfl
  obtain ⟨T106, X106, e106, k107⟩ := gFs X102 hx hZ hown (hww 218 rfl) e102 (Fk0.g 0 (v := (.ref a2)) (by decide) rfl rfl) k105 (H 22 rfl)
  obtain ⟨T108, X108, e108, k109⟩ := gFs X106 hx hZ hown (hww 221 rfl) e106 Fk1 k107 (H 23 rfl)
  have k110 := f_alN X108 hx k109 (H 24 rfl) rfl
  obtain ⟨T111, X111, e111, k112⟩ := gFs X108 hx hZ hown (hww 222 rfl) e108 (Fk0.g 1 (v := (.int mc)) (by decide) rfl rfl) k110 (H 25 rfl)
  have k113 := f_icY X111 hx k112 (H 26 rfl) (pc' := 27) (teq rfl).1 (by decide)
  have k114 := f_alN X111 hx k113 (H 27 rfl) rfl
  have k115 := f_nnY X111 hx k114 (H 28 rfl) (pc' := 39) (by decide)
  have k116 := f_alN X111 hx k115 (H 29 rfl) rfl
  have k117 := f_alN X111 hx k116 (H 30 rfl) rfl
  have k118 := f_alN X111 hx k117 (H 31 rfl) rfl
  have k119 := f_dupX1 X111 hx k118 (H 32 rfl) rfl rfl
  obtain ⟨T120, h120, L120, X120, e120, W120, B120, N120, Z120, k120⟩ := f_pF X111 hx hZ hown (hww 227 rfl) Via.refl e111 Fk0 (snIT hw) (Or.inl (hww 228 rfl)) (hww 206 rfl) 3 (by decide) rfl rfl (ty := (.object "java/util/HashMap$Node")) (by decide) rfl rfl N0 ge_a1 Z0 k119 (H 33 rfl) rfl
  have K121 := kw K0 W120 0 rfl
  obtain ⟨T122, X122, e122, k123⟩ := gFs X120 hx hZ hown (hww 255 rfl) e120 (Fk4.keep K121 (ninS (Ne.symm ne_a1_nd) nin0)) k120 (H 34 rfl)
  have k124 := f_dupX1 X122 hx k123 (H 35 rfl) rfl rfl
  obtain ⟨T125, h125, L125, X125, e125, W125, B125, N125, Z125, k125⟩ := f_pF X122 hx hZ hown (hww 225 rfl) Via.refl e122 B120 (snIT hw) (Or.inl (hww 226 rfl)) (hww 206 rfl) 2 (by decide) rfl rfl (ty := (.object "java/util/HashMap$Node")) (by decide) rfl rfl N120 ge_a1 Z120 k124 (H 36 rfl) rfl
  have K126 := kw K121 W125 0 rfl
  have k127 := f_nnN X125 hx k125 (H 37 rfl)
  have k128 := f_alN X125 hx k127 (H 38 rfl) rfl
  obtain ⟨T129, X129, e129, k130⟩ := gFs X125 hx hZ hown (hww 218 rfl) e125 (B125.g 0 (v := (.ref a2)) (by decide) rfl rfl) k128 (H 39 rfl)
  obtain ⟨T131, X131, e131, k132⟩ := gFs X129 hx hZ hown (hww 224 rfl) e129 (Fk2.keep K126 (ninS (Ne.symm ne_a1_a2) nin0)) k130 (H 40 rfl)
  have k133 := f_dup X131 hx k132 (H 41 rfl) rfl
  have k134 := f_asN X131 hx k133 (H 42 rfl) (l' := #[sr a1, sr tb, sr nd]) rfl
  have k135 := f_inN X131 hx k134 (H 43 rfl)
  have k136 := f_alN X131 hx k135 (H 0 rfl) rfl
  obtain ⟨T137, X137, e137, k138⟩ := gFs X131 hx hZ hown (hww 229 rfl) e131 (B125.g 4 (v := (.int (2 : Int32))) (by decide) rfl rfl) k136 (H 1 rfl)
  have k139 := f_alN X137 hx k138 (H 2 rfl) rfl
  have k140 := f_len X137 hx hZ e137 (Fk3.keep K126 (ninS (Ne.symm ne_a1_tb) nin0)) k139 (H 3 rfl)
  have k141 := f_icN X137 hx k140 (H 4 rfl) (tlt (by decide)).2.1
  have k142 := f_alN X137 hx k141 (H 5 rfl) rfl
  have k143 := f_alN X137 hx k142 (H 6 rfl) rfl
  have k144 := f_alN X137 hx k143 (H 7 rfl) rfl
  have k145 := f_dup X137 hx k144 (H 8 rfl) rfl
  obtain ⟨T146, X146, e146, k147⟩ := gFs X137 hx hZ hown (hww 229 rfl) e137 (B125.g 4 (v := (.int (2 : Int32))) (by decide) rfl rfl) k145 (H 9 rfl)
  have k148 := f_dupX1 X146 hx k147 (H 10 rfl) rfl rfl
  have k149 := f_ic X146 hx k148 (H 11 rfl) (v := 1) rfl
  have k150 := f_iadd X146 hx k149 (H 12 rfl) (r := 3) (by decide)
  obtain ⟨T151, h151, L151, X151, e151, W151, B151, N151, Z151, k151⟩ := f_pF X146 hx hZ hown (hww 229 rfl) Via.refl e146 B125 (snIT hw) (Or.inl (hww 230 rfl)) (hww 206 rfl) 4 (by decide) rfl rfl (ty := .int) (by decide) rfl rfl N125 ge_a1 Z125 k150 (H 13 rfl) rfl
  have K152 := kw K126 W151 0 rfl
  have k153 := f_aal X151 hx hZ e151 (Fk3.keep K152 (ninS (Ne.symm ne_a1_tb) nin0)) k151 (H 14 rfl) (v := (.ref nx)) rfl (by decide) rfl
  have k154 := f_dupX1 X151 hx k153 (H 15 rfl) rfl rfl
  obtain ⟨T155, h155, L155, X155, e155, W155, B155, N155, Z155, k155⟩ := f_pF X151 hx hZ hown (hww 225 rfl) Via.refl e151 B151 (snIT hw) (Or.inl (hww 226 rfl)) (hww 206 rfl) 2 (by decide) rfl rfl (ty := (.object "java/util/HashMap$Node")) (by decide) rfl rfl N151 ge_a1 Z151 k154 (H 16 rfl) rfl
  have K156 := kw K152 W155 0 rfl
  have k157 := f_inN X155 hx k155 (H 17 rfl)
  have k158 := f_alN X155 hx k157 (H 44 rfl) rfl
  exact fin_r X155 hx (w := (.ref nd)) hrt hlk rfl (Or.inr (Or.inr (Or.inr (Or.inr ⟨rfl, rfl, rfl⟩)))) k158 (H 45 rfl) (by rw [e155]; exact ⟨rfl, N155, K156, B155⟩) (by decide) (by decide)
theorem ef_31_R (m : MethodId) (x0 : Addr) : entryFrame m #[(.ref x0)] 1 = mkF m 0 #[.val (.ref x0)] [] := by first | (simp [entryFrame, mkF, argsToLocals, Value.category]; done) | rfl
theorem pd__28_29Ljava_2futil_2fHashMap_24Node_3b : parseMethodDescriptor "()Ljava/util/HashMap$Node;" = some ⟨[], some (.object "java/util/HashMap$Node")⟩ := by decide +kernel
def Q_nxt12 (Z : State) (a1 a2 : Addr) (mc : Int32) (tb : Addr) (kt : ClassId) (nd : Addr) (cu : Value) (nx : Addr) (v1 v3 v4 : Value) (vl : Addr) (h0 : Heap) (n0 : Nat) (v : Option Value) (h : Heap) (L : List Loc) : Prop := v = some (.ref vl) ∧ Fr n0 L ∧ Keep h0 h [a1] ∧ OBJ Z h a1 "java/util/HashMap$ValueIterator" lyIT [(.ref a2), (.int mc), (.ref nx), (.ref nd), (.int (3 : Int32))]
theorem nxt12 (l : Launch) (Z : State) (a0 : Array Value) (hw : HW Z a0) (ws : List Jvm.Cond) (a1 a2 : Addr) (mc : Int32) (tb : Addr) (kt : ClassId) (nd : Addr) (cu : Value) (nx : Addr) (v1 v3 v4 : Value) (vl : Addr) (h0 : Heap) (n0 : Nat) (Z0 : n0 ≤ h0.size) (Fk0 : OBJ Z h0 a1 "java/util/HashMap$ValueIterator" lyIT [(.ref a2), (.int mc), (.ref nd), cu, (.int (2 : Int32))]) (Fk1 : Fld Z h0 a2 "java/util/HashMap" "modCount" "I" (.int mc)) (Fk2 : Fld Z h0 a2 "java/util/HashMap" "table" "[Ljava/util/HashMap$Node;" (.ref tb)) (Fk3 : Arv Z h0 tb kt (.object "java/util/HashMap$Node") (16 : Int32) [.null, v1, (.ref nx), v3, v4, .null, .null, .null, .null, .null, .null, .null, .null, .null, .null, .null] .null) (Fk4 : Fld Z h0 nd "java/util/HashMap$Node" "next" "Ljava/util/HashMap$Node;" .null) (Fk5 : Fld Z h0 nd "java/util/HashMap$Node" "value" "Ljava/lang/Object;" (.ref vl)) (ge_a1 : n0 ≤ a1) (ne_a1_a2 : a1 ≠ a2) (ne_a1_tb : a1 ≠ tb) (ne_a1_nd : a1 ≠ nd) :
    Met l mn51 jdk_2569_method_2_code 1 (some (.object "java/lang/Object")) ws (rm 1 0 0 14) #[(.ref a1)] Z h0 (Q_nxt12 Z a1 a2 mc tb kt nd cu nx v1 v3 v4 vl h0 n0) := by
  refine Met.intro (plainFor_of_name pn_java_2futil_2fHashMap_24ValueIterator) ?_
  intro p e s m below meth c s₁ hx hby hml hZ hown hnm hrt hlk X0 e0
  have N0 := Fr.nil n0
  have hww := @hvw _ _ hw
  have k0 := k_e (p := p) (e := e) (below := below) (s := s₁) (ef_31_R m a1)
  have K0 := Keep.refl h0 [a1]
  have H := @dch _ _ _ hby D31
  have k101 := f_alN X0 hx k0 (H 0 rfl) rfl
  obtain ⟨_, T102, L102, X102, hQ102, k102⟩ := c_U (W := 0) (x := mn50) X0 hx hZ hown (hww 249 rfl) (hww 250 rfl) (hww 251 rfl) (by decide) (hww 253 rfl) (hww 252 rfl) (hww 254 rfl) (hww 216 rfl) Fk0.1 (nxn12 l Z a0 hw [] a1 a2 mc tb kt nd cu nx v1 v3 v4 h0 n0 Z0 Fk0 Fk1 Fk2 Fk3 Fk4 ge_a1 ne_a1_a2 ne_a1_tb ne_a1_nd) e0 (argsL := []) (rest := []) rfl (by rw [hml]; rfl) k101 rfl (H 1 rfl) (lenOf pd__28_29Ljava_2futil_2fHashMap_24Node_3b rfl) (b5 rfl)
  obtain ⟨h102, e102⟩ : ∃ h', T102.heap = h' := ⟨_, rfl⟩
  rw [e102] at hQ102
  obtain ⟨rfl, N102q, K102, R102_0⟩ := hQ102
  have N103 := Fr.app N0 N102q
  have Z104 : n0 ≤ h102.size := Nat.le_trans Z0 K102.1
  have K105 := Keep.trans K0 K102 (allS (oL 0 rfl) all0)
  obtain ⟨T106, X106, e106, k107⟩ := gFs X102 hx hZ hown (hww 256 rfl) e102 (Fk5.keep K105 (ninS (Ne.symm ne_a1_nd) nin0)) k102 (H 2 rfl)
  exact fin_r X106 hx (w := (.ref vl)) hrt hlk rfl (Or.inr (Or.inr (Or.inr (Or.inr ⟨rfl, rfl, rfl⟩)))) k107 (H 3 rfl) (by rw [e106]; exact ⟨rfl, N103, K105, R102_0⟩) (by decide) (by decide)
def Q_nxn23 (Z : State) (a1 a2 : Addr) (mc : Int32) (tb : Addr) (kt : ClassId) (nd : Addr) (cu : Value) (nx : Addr) (v1 v2 v4 : Value) (h0 : Heap) (n0 : Nat) (v : Option Value) (h : Heap) (L : List Loc) : Prop := v = some (.ref nd) ∧ Fr n0 L ∧ Keep h0 h [a1] ∧ OBJ Z h a1 "java/util/HashMap$ValueIterator" lyIT [(.ref a2), (.int mc), (.ref nx), (.ref nd), (.int (4 : Int32))]
theorem nxn23 (l : Launch) (Z : State) (a0 : Array Value) (hw : HW Z a0) (ws : List Jvm.Cond) (a1 a2 : Addr) (mc : Int32) (tb : Addr) (kt : ClassId) (nd : Addr) (cu : Value) (nx : Addr) (v1 v2 v4 : Value) (h0 : Heap) (n0 : Nat) (Z0 : n0 ≤ h0.size) (Fk0 : OBJ Z h0 a1 "java/util/HashMap$ValueIterator" lyIT [(.ref a2), (.int mc), (.ref nd), cu, (.int (3 : Int32))]) (Fk1 : Fld Z h0 a2 "java/util/HashMap" "modCount" "I" (.int mc)) (Fk2 : Fld Z h0 a2 "java/util/HashMap" "table" "[Ljava/util/HashMap$Node;" (.ref tb)) (Fk3 : Arv Z h0 tb kt (.object "java/util/HashMap$Node") (16 : Int32) [.null, v1, v2, (.ref nx), v4, .null, .null, .null, .null, .null, .null, .null, .null, .null, .null, .null] .null) (Fk4 : Fld Z h0 nd "java/util/HashMap$Node" "next" "Ljava/util/HashMap$Node;" .null) (ge_a1 : n0 ≤ a1) (ne_a1_a2 : a1 ≠ a2) (ne_a1_tb : a1 ≠ tb) (ne_a1_nd : a1 ≠ nd) :
    Met l mn49 jdk_99_method_3_code 3 (some (.object "java/util/HashMap$Node")) ws (rm 0 0 0 0) #[(.ref a1)] Z h0 (Q_nxn23 Z a1 a2 mc tb kt nd cu nx v1 v2 v4 h0 n0) := by
  refine Met.intro (plainFor_of_name pn_java_2futil_2fHashMap_24HashIterator) ?_
  intro p e s m below meth c s₁ hx hby hml hZ hown hnm hrt hlk X0 e0
  have N0 := Fr.nil n0
  have hww := @hvw _ _ hw
  have k0 := k_e (p := p) (e := e) (below := below) (s := s₁) (ef_32_R m a1)
  have K0 := Keep.refl h0 [a1]
  have H := @dch _ _ _ hby D32
  have k101 := f_alN X0 hx k0 (H 18 rfl) rfl
  obtain ⟨T102, X102, e102, k103⟩ := gFs X0 hx hZ hown (hww 225 rfl) e0 (Fk0.g 2 (v := (.ref nd)) (by decide) rfl rfl) k101 (H 19 rfl)
  have k104 := f_asN X102 hx k103 (H 20 rfl) (l' := #[sr a1, un, sr nd]) rfl
  have k105 := f_alN X102 hx k104 (H 21 rfl) rfl
  obtain ⟨T106, X106, e106, k107⟩ := gFs X102 hx hZ hown (hww 218 rfl) e102 (Fk0.g 0 (v := (.ref a2)) (by decide) rfl rfl) k105 (H 22 rfl)
  obtain ⟨T108, X108, e108, k109⟩ := gFs X106 hx hZ hown (hww 221 rfl) e106 Fk1 k107 (H 23 rfl)
  have k110 := f_alN X108 hx k109 (H 24 rfl) rfl
  obtain ⟨T111, X111, e111, k112⟩ := gFs X108 hx hZ hown (hww 222 rfl) e108 (Fk0.g 1 (v := (.int mc)) (by decide) rfl rfl) k110 (H 25 rfl)
  have k113 := f_icY X111 hx k112 (H 26 rfl) (pc' := 27) (teq rfl).1 (by decide)
  have k114 := f_alN X111 hx k113 (H 27 rfl) rfl
  have k115 := f_nnY X111 hx k114 (H 28 rfl) (pc' := 39) (by decide)
  have k116 := f_alN X111 hx k115 (H 29 rfl) rfl
  have k117 := f_alN X111 hx k116 (H 30 rfl) rfl
  have k118 := f_alN X111 hx k117 (H 31 rfl) rfl
  have k119 := f_dupX1 X111 hx k118 (H 32 rfl) rfl rfl
  obtain ⟨T120, h120, L120, X120, e120, W120, B120, N120, Z120, k120⟩ := f_pF X111 hx hZ hown (hww 227 rfl) Via.refl e111 Fk0 (snIT hw) (Or.inl (hww 228 rfl)) (hww 206 rfl) 3 (by decide) rfl rfl (ty := (.object "java/util/HashMap$Node")) (by decide) rfl rfl N0 ge_a1 Z0 k119 (H 33 rfl) rfl
  have K121 := kw K0 W120 0 rfl
  obtain ⟨T122, X122, e122, k123⟩ := gFs X120 hx hZ hown (hww 255 rfl) e120 (Fk4.keep K121 (ninS (Ne.symm ne_a1_nd) nin0)) k120 (H 34 rfl)
  have k124 := f_dupX1 X122 hx k123 (H 35 rfl) rfl rfl
  obtain ⟨T125, h125, L125, X125, e125, W125, B125, N125, Z125, k125⟩ := f_pF X122 hx hZ hown (hww 225 rfl) Via.refl e122 B120 (snIT hw) (Or.inl (hww 226 rfl)) (hww 206 rfl) 2 (by decide) rfl rfl (ty := (.object "java/util/HashMap$Node")) (by decide) rfl rfl N120 ge_a1 Z120 k124 (H 36 rfl) rfl
  have K126 := kw K121 W125 0 rfl
  have k127 := f_nnN X125 hx k125 (H 37 rfl)
  have k128 := f_alN X125 hx k127 (H 38 rfl) rfl
  obtain ⟨T129, X129, e129, k130⟩ := gFs X125 hx hZ hown (hww 218 rfl) e125 (B125.g 0 (v := (.ref a2)) (by decide) rfl rfl) k128 (H 39 rfl)
  obtain ⟨T131, X131, e131, k132⟩ := gFs X129 hx hZ hown (hww 224 rfl) e129 (Fk2.keep K126 (ninS (Ne.symm ne_a1_a2) nin0)) k130 (H 40 rfl)
  have k133 := f_dup X131 hx k132 (H 41 rfl) rfl
  have k134 := f_asN X131 hx k133 (H 42 rfl) (l' := #[sr a1, sr tb, sr nd]) rfl
  have k135 := f_inN X131 hx k134 (H 43 rfl)
  have k136 := f_alN X131 hx k135 (H 0 rfl) rfl
  obtain ⟨T137, X137, e137, k138⟩ := gFs X131 hx hZ hown (hww 229 rfl) e131 (B125.g 4 (v := (.int (3 : Int32))) (by decide) rfl rfl) k136 (H 1 rfl)
  have k139 := f_alN X137 hx k138 (H 2 rfl) rfl
  have k140 := f_len X137 hx hZ e137 (Fk3.keep K126 (ninS (Ne.symm ne_a1_tb) nin0)) k139 (H 3 rfl)
  have k141 := f_icN X137 hx k140 (H 4 rfl) (tlt (by decide)).2.1
  have k142 := f_alN X137 hx k141 (H 5 rfl) rfl
  have k143 := f_alN X137 hx k142 (H 6 rfl) rfl
  have k144 := f_alN X137 hx k143 (H 7 rfl) rfl
  have k145 := f_dup X137 hx k144 (H 8 rfl) rfl
  obtain ⟨T146, X146, e146, k147⟩ := gFs X137 hx hZ hown (hww 229 rfl) e137 (B125.g 4 (v := (.int (3 : Int32))) (by decide) rfl rfl) k145 (H 9 rfl)
  have k148 := f_dupX1 X146 hx k147 (H 10 rfl) rfl rfl
  have k149 := f_ic X146 hx k148 (H 11 rfl) (v := 1) rfl
  have k150 := f_iadd X146 hx k149 (H 12 rfl) (r := 4) (by decide)
  obtain ⟨T151, h151, L151, X151, e151, W151, B151, N151, Z151, k151⟩ := f_pF X146 hx hZ hown (hww 229 rfl) Via.refl e146 B125 (snIT hw) (Or.inl (hww 230 rfl)) (hww 206 rfl) 4 (by decide) rfl rfl (ty := .int) (by decide) rfl rfl N125 ge_a1 Z125 k150 (H 13 rfl) rfl
  have K152 := kw K126 W151 0 rfl
  have k153 := f_aal X151 hx hZ e151 (Fk3.keep K152 (ninS (Ne.symm ne_a1_tb) nin0)) k151 (H 14 rfl) (v := (.ref nx)) rfl (by decide) rfl
  have k154 := f_dupX1 X151 hx k153 (H 15 rfl) rfl rfl
  obtain ⟨T155, h155, L155, X155, e155, W155, B155, N155, Z155, k155⟩ := f_pF X151 hx hZ hown (hww 225 rfl) Via.refl e151 B151 (snIT hw) (Or.inl (hww 226 rfl)) (hww 206 rfl) 2 (by decide) rfl rfl (ty := (.object "java/util/HashMap$Node")) (by decide) rfl rfl N151 ge_a1 Z151 k154 (H 16 rfl) rfl
  have K156 := kw K152 W155 0 rfl
  have k157 := f_inN X155 hx k155 (H 17 rfl)
  have k158 := f_alN X155 hx k157 (H 44 rfl) rfl
  exact fin_r X155 hx (w := (.ref nd)) hrt hlk rfl (Or.inr (Or.inr (Or.inr (Or.inr ⟨rfl, rfl, rfl⟩)))) k158 (H 45 rfl) (by rw [e155]; exact ⟨rfl, N155, K156, B155⟩) (by decide) (by decide)
def Q_nxt23 (Z : State) (a1 a2 : Addr) (mc : Int32) (tb : Addr) (kt : ClassId) (nd : Addr) (cu : Value) (nx : Addr) (v1 v2 v4 : Value) (vl : Addr) (h0 : Heap) (n0 : Nat) (v : Option Value) (h : Heap) (L : List Loc) : Prop := v = some (.ref vl) ∧ Fr n0 L ∧ Keep h0 h [a1] ∧ OBJ Z h a1 "java/util/HashMap$ValueIterator" lyIT [(.ref a2), (.int mc), (.ref nx), (.ref nd), (.int (4 : Int32))]
theorem nxt23 (l : Launch) (Z : State) (a0 : Array Value) (hw : HW Z a0) (ws : List Jvm.Cond) (a1 a2 : Addr) (mc : Int32) (tb : Addr) (kt : ClassId) (nd : Addr) (cu : Value) (nx : Addr) (v1 v2 v4 : Value) (vl : Addr) (h0 : Heap) (n0 : Nat) (Z0 : n0 ≤ h0.size) (Fk0 : OBJ Z h0 a1 "java/util/HashMap$ValueIterator" lyIT [(.ref a2), (.int mc), (.ref nd), cu, (.int (3 : Int32))]) (Fk1 : Fld Z h0 a2 "java/util/HashMap" "modCount" "I" (.int mc)) (Fk2 : Fld Z h0 a2 "java/util/HashMap" "table" "[Ljava/util/HashMap$Node;" (.ref tb)) (Fk3 : Arv Z h0 tb kt (.object "java/util/HashMap$Node") (16 : Int32) [.null, v1, v2, (.ref nx), v4, .null, .null, .null, .null, .null, .null, .null, .null, .null, .null, .null] .null) (Fk4 : Fld Z h0 nd "java/util/HashMap$Node" "next" "Ljava/util/HashMap$Node;" .null) (Fk5 : Fld Z h0 nd "java/util/HashMap$Node" "value" "Ljava/lang/Object;" (.ref vl)) (ge_a1 : n0 ≤ a1) (ne_a1_a2 : a1 ≠ a2) (ne_a1_tb : a1 ≠ tb) (ne_a1_nd : a1 ≠ nd) :
    Met l mn51 jdk_2569_method_2_code 1 (some (.object "java/lang/Object")) ws (rm 1 0 0 14) #[(.ref a1)] Z h0 (Q_nxt23 Z a1 a2 mc tb kt nd cu nx v1 v2 v4 vl h0 n0) := by
  refine Met.intro (plainFor_of_name pn_java_2futil_2fHashMap_24ValueIterator) ?_
  intro p e s m below meth c s₁ hx hby hml hZ hown hnm hrt hlk X0 e0
  have N0 := Fr.nil n0
  have hww := @hvw _ _ hw
  have k0 := k_e (p := p) (e := e) (below := below) (s := s₁) (ef_31_R m a1)
  have K0 := Keep.refl h0 [a1]
  have H := @dch _ _ _ hby D31
  have k101 := f_alN X0 hx k0 (H 0 rfl) rfl
  obtain ⟨_, T102, L102, X102, hQ102, k102⟩ := c_U (W := 0) (x := mn50) X0 hx hZ hown (hww 249 rfl) (hww 250 rfl) (hww 251 rfl) (by decide) (hww 253 rfl) (hww 252 rfl) (hww 254 rfl) (hww 216 rfl) Fk0.1 (nxn23 l Z a0 hw [] a1 a2 mc tb kt nd cu nx v1 v2 v4 h0 n0 Z0 Fk0 Fk1 Fk2 Fk3 Fk4 ge_a1 ne_a1_a2 ne_a1_tb ne_a1_nd) e0 (argsL := []) (rest := []) rfl (by rw [hml]; rfl) k101 rfl (H 1 rfl) (lenOf pd__28_29Ljava_2futil_2fHashMap_24Node_3b rfl) (b5 rfl)
  obtain ⟨h102, e102⟩ : ∃ h', T102.heap = h' := ⟨_, rfl⟩
  rw [e102] at hQ102
  obtain ⟨rfl, N102q, K102, R102_0⟩ := hQ102
  have N103 := Fr.app N0 N102q
  have Z104 : n0 ≤ h102.size := Nat.le_trans Z0 K102.1
  have K105 := Keep.trans K0 K102 (allS (oL 0 rfl) all0)
  obtain ⟨T106, X106, e106, k107⟩ := gFs X102 hx hZ hown (hww 256 rfl) e102 (Fk5.keep K105 (ninS (Ne.symm ne_a1_nd) nin0)) k102 (H 2 rfl)
  exact fin_r X106 hx (w := (.ref vl)) hrt hlk rfl (Or.inr (Or.inr (Or.inr (Or.inr ⟨rfl, rfl, rfl⟩)))) k107 (H 3 rfl) (by rw [e106]; exact ⟨rfl, N103, K105, R102_0⟩) (by decide) (by decide)
def Q_nxn34 (Z : State) (a1 a2 : Addr) (mc : Int32) (tb : Addr) (kt : ClassId) (nd : Addr) (cu : Value) (nx : Addr) (v1 v2 v3 : Value) (h0 : Heap) (n0 : Nat) (v : Option Value) (h : Heap) (L : List Loc) : Prop := v = some (.ref nd) ∧ Fr n0 L ∧ Keep h0 h [a1] ∧ OBJ Z h a1 "java/util/HashMap$ValueIterator" lyIT [(.ref a2), (.int mc), (.ref nx), (.ref nd), (.int (5 : Int32))]
theorem nxn34 (l : Launch) (Z : State) (a0 : Array Value) (hw : HW Z a0) (ws : List Jvm.Cond) (a1 a2 : Addr) (mc : Int32) (tb : Addr) (kt : ClassId) (nd : Addr) (cu : Value) (nx : Addr) (v1 v2 v3 : Value) (h0 : Heap) (n0 : Nat) (Z0 : n0 ≤ h0.size) (Fk0 : OBJ Z h0 a1 "java/util/HashMap$ValueIterator" lyIT [(.ref a2), (.int mc), (.ref nd), cu, (.int (4 : Int32))]) (Fk1 : Fld Z h0 a2 "java/util/HashMap" "modCount" "I" (.int mc)) (Fk2 : Fld Z h0 a2 "java/util/HashMap" "table" "[Ljava/util/HashMap$Node;" (.ref tb)) (Fk3 : Arv Z h0 tb kt (.object "java/util/HashMap$Node") (16 : Int32) [.null, v1, v2, v3, (.ref nx), .null, .null, .null, .null, .null, .null, .null, .null, .null, .null, .null] .null) (Fk4 : Fld Z h0 nd "java/util/HashMap$Node" "next" "Ljava/util/HashMap$Node;" .null) (ge_a1 : n0 ≤ a1) (ne_a1_a2 : a1 ≠ a2) (ne_a1_tb : a1 ≠ tb) (ne_a1_nd : a1 ≠ nd) :
    Met l mn49 jdk_99_method_3_code 3 (some (.object "java/util/HashMap$Node")) ws (rm 0 0 0 0) #[(.ref a1)] Z h0 (Q_nxn34 Z a1 a2 mc tb kt nd cu nx v1 v2 v3 h0 n0) := by
  refine Met.intro (plainFor_of_name pn_java_2futil_2fHashMap_24HashIterator) ?_
  intro p e s m below meth c s₁ hx hby hml hZ hown hnm hrt hlk X0 e0
  have N0 := Fr.nil n0
  have hww := @hvw _ _ hw
  have k0 := k_e (p := p) (e := e) (below := below) (s := s₁) (ef_32_R m a1)
  have K0 := Keep.refl h0 [a1]
  have H := @dch _ _ _ hby D32
  have k101 := f_alN X0 hx k0 (H 18 rfl) rfl
  obtain ⟨T102, X102, e102, k103⟩ := gFs X0 hx hZ hown (hww 225 rfl) e0 (Fk0.g 2 (v := (.ref nd)) (by decide) rfl rfl) k101 (H 19 rfl)
  have k104 := f_asN X102 hx k103 (H 20 rfl) (l' := #[sr a1, un, sr nd]) rfl
  have k105 := f_alN X102 hx k104 (H 21 rfl) rfl
  obtain ⟨T106, X106, e106, k107⟩ := gFs X102 hx hZ hown (hww 218 rfl) e102 (Fk0.g 0 (v := (.ref a2)) (by decide) rfl rfl) k105 (H 22 rfl)
  obtain ⟨T108, X108, e108, k109⟩ := gFs X106 hx hZ hown (hww 221 rfl) e106 Fk1 k107 (H 23 rfl)
  have k110 := f_alN X108 hx k109 (H 24 rfl) rfl
  obtain ⟨T111, X111, e111, k112⟩ := gFs X108 hx hZ hown (hww 222 rfl) e108 (Fk0.g 1 (v := (.int mc)) (by decide) rfl rfl) k110 (H 25 rfl)
  have k113 := f_icY X111 hx k112 (H 26 rfl) (pc' := 27) (teq rfl).1 (by decide)
  have k114 := f_alN X111 hx k113 (H 27 rfl) rfl
  have k115 := f_nnY X111 hx k114 (H 28 rfl) (pc' := 39) (by decide)
  have k116 := f_alN X111 hx k115 (H 29 rfl) rfl
  have k117 := f_alN X111 hx k116 (H 30 rfl) rfl
  have k118 := f_alN X111 hx k117 (H 31 rfl) rfl
  have k119 := f_dupX1 X111 hx k118 (H 32 rfl) rfl rfl
  obtain ⟨T120, h120, L120, X120, e120, W120, B120, N120, Z120, k120⟩ := f_pF X111 hx hZ hown (hww 227 rfl) Via.refl e111 Fk0 (snIT hw) (Or.inl (hww 228 rfl)) (hww 206 rfl) 3 (by decide) rfl rfl (ty := (.object "java/util/HashMap$Node")) (by decide) rfl rfl N0 ge_a1 Z0 k119 (H 33 rfl) rfl
  have K121 := kw K0 W120 0 rfl
  obtain ⟨T122, X122, e122, k123⟩ := gFs X120 hx hZ hown (hww 255 rfl) e120 (Fk4.keep K121 (ninS (Ne.symm ne_a1_nd) nin0)) k120 (H 34 rfl)
  have k124 := f_dupX1 X122 hx k123 (H 35 rfl) rfl rfl
  obtain ⟨T125, h125, L125, X125, e125, W125, B125, N125, Z125, k125⟩ := f_pF X122 hx hZ hown (hww 225 rfl) Via.refl e122 B120 (snIT hw) (Or.inl (hww 226 rfl)) (hww 206 rfl) 2 (by decide) rfl rfl (ty := (.object "java/util/HashMap$Node")) (by decide) rfl rfl N120 ge_a1 Z120 k124 (H 36 rfl) rfl
  have K126 := kw K121 W125 0 rfl
  have k127 := f_nnN X125 hx k125 (H 37 rfl)
  have k128 := f_alN X125 hx k127 (H 38 rfl) rfl
  obtain ⟨T129, X129, e129, k130⟩ := gFs X125 hx hZ hown (hww 218 rfl) e125 (B125.g 0 (v := (.ref a2)) (by decide) rfl rfl) k128 (H 39 rfl)
  obtain ⟨T131, X131, e131, k132⟩ := gFs X129 hx hZ hown (hww 224 rfl) e129 (Fk2.keep K126 (ninS (Ne.symm ne_a1_a2) nin0)) k130 (H 40 rfl)
  have k133 := f_dup X131 hx k132 (H 41 rfl) rfl
  have k134 := f_asN X131 hx k133 (H 42 rfl) (l' := #[sr a1, sr tb, sr nd]) rfl
  have k135 := f_inN X131 hx k134 (H 43 rfl)
  have k136 := f_alN X131 hx k135 (H 0 rfl) rfl
  obtain ⟨T137, X137, e137, k138⟩ := gFs X131 hx hZ hown (hww 229 rfl) e131 (B125.g 4 (v := (.int (4 : Int32))) (by decide) rfl rfl) k136 (H 1 rfl)
  have k139 := f_alN X137 hx k138 (H 2 rfl) rfl
  have k140 := f_len X137 hx hZ e137 (Fk3.keep K126 (ninS (Ne.symm ne_a1_tb) nin0)) k139 (H 3 rfl)
  have k141 := f_icN X137 hx k140 (H 4 rfl) (tlt (by decide)).2.1
  have k142 := f_alN X137 hx k141 (H 5 rfl) rfl
  have k143 := f_alN X137 hx k142 (H 6 rfl) rfl
  have k144 := f_alN X137 hx k143 (H 7 rfl) rfl
  have k145 := f_dup X137 hx k144 (H 8 rfl) rfl
  obtain ⟨T146, X146, e146, k147⟩ := gFs X137 hx hZ hown (hww 229 rfl) e137 (B125.g 4 (v := (.int (4 : Int32))) (by decide) rfl rfl) k145 (H 9 rfl)
  have k148 := f_dupX1 X146 hx k147 (H 10 rfl) rfl rfl
  have k149 := f_ic X146 hx k148 (H 11 rfl) (v := 1) rfl
  have k150 := f_iadd X146 hx k149 (H 12 rfl) (r := 5) (by decide)
  obtain ⟨T151, h151, L151, X151, e151, W151, B151, N151, Z151, k151⟩ := f_pF X146 hx hZ hown (hww 229 rfl) Via.refl e146 B125 (snIT hw) (Or.inl (hww 230 rfl)) (hww 206 rfl) 4 (by decide) rfl rfl (ty := .int) (by decide) rfl rfl N125 ge_a1 Z125 k150 (H 13 rfl) rfl
  have K152 := kw K126 W151 0 rfl
  have k153 := f_aal X151 hx hZ e151 (Fk3.keep K152 (ninS (Ne.symm ne_a1_tb) nin0)) k151 (H 14 rfl) (v := (.ref nx)) rfl (by decide) rfl
  have k154 := f_dupX1 X151 hx k153 (H 15 rfl) rfl rfl
  obtain ⟨T155, h155, L155, X155, e155, W155, B155, N155, Z155, k155⟩ := f_pF X151 hx hZ hown (hww 225 rfl) Via.refl e151 B151 (snIT hw) (Or.inl (hww 226 rfl)) (hww 206 rfl) 2 (by decide) rfl rfl (ty := (.object "java/util/HashMap$Node")) (by decide) rfl rfl N151 ge_a1 Z151 k154 (H 16 rfl) rfl
  have K156 := kw K152 W155 0 rfl
  have k157 := f_inN X155 hx k155 (H 17 rfl)
  have k158 := f_alN X155 hx k157 (H 44 rfl) rfl
  exact fin_r X155 hx (w := (.ref nd)) hrt hlk rfl (Or.inr (Or.inr (Or.inr (Or.inr ⟨rfl, rfl, rfl⟩)))) k158 (H 45 rfl) (by rw [e155]; exact ⟨rfl, N155, K156, B155⟩) (by decide) (by decide)
def Q_nxt34 (Z : State) (a1 a2 : Addr) (mc : Int32) (tb : Addr) (kt : ClassId) (nd : Addr) (cu : Value) (nx : Addr) (v1 v2 v3 : Value) (vl : Addr) (h0 : Heap) (n0 : Nat) (v : Option Value) (h : Heap) (L : List Loc) : Prop := v = some (.ref vl) ∧ Fr n0 L ∧ Keep h0 h [a1] ∧ OBJ Z h a1 "java/util/HashMap$ValueIterator" lyIT [(.ref a2), (.int mc), (.ref nx), (.ref nd), (.int (5 : Int32))]
theorem nxt34 (l : Launch) (Z : State) (a0 : Array Value) (hw : HW Z a0) (ws : List Jvm.Cond) (a1 a2 : Addr) (mc : Int32) (tb : Addr) (kt : ClassId) (nd : Addr) (cu : Value) (nx : Addr) (v1 v2 v3 : Value) (vl : Addr) (h0 : Heap) (n0 : Nat) (Z0 : n0 ≤ h0.size) (Fk0 : OBJ Z h0 a1 "java/util/HashMap$ValueIterator" lyIT [(.ref a2), (.int mc), (.ref nd), cu, (.int (4 : Int32))]) (Fk1 : Fld Z h0 a2 "java/util/HashMap" "modCount" "I" (.int mc)) (Fk2 : Fld Z h0 a2 "java/util/HashMap" "table" "[Ljava/util/HashMap$Node;" (.ref tb)) (Fk3 : Arv Z h0 tb kt (.object "java/util/HashMap$Node") (16 : Int32) [.null, v1, v2, v3, (.ref nx), .null, .null, .null, .null, .null, .null, .null, .null, .null, .null, .null] .null) (Fk4 : Fld Z h0 nd "java/util/HashMap$Node" "next" "Ljava/util/HashMap$Node;" .null) (Fk5 : Fld Z h0 nd "java/util/HashMap$Node" "value" "Ljava/lang/Object;" (.ref vl)) (ge_a1 : n0 ≤ a1) (ne_a1_a2 : a1 ≠ a2) (ne_a1_tb : a1 ≠ tb) (ne_a1_nd : a1 ≠ nd) :
    Met l mn51 jdk_2569_method_2_code 1 (some (.object "java/lang/Object")) ws (rm 1 0 0 14) #[(.ref a1)] Z h0 (Q_nxt34 Z a1 a2 mc tb kt nd cu nx v1 v2 v3 vl h0 n0) := by
  refine Met.intro (plainFor_of_name pn_java_2futil_2fHashMap_24ValueIterator) ?_
  intro p e s m below meth c s₁ hx hby hml hZ hown hnm hrt hlk X0 e0
  have N0 := Fr.nil n0
  have hww := @hvw _ _ hw
  have k0 := k_e (p := p) (e := e) (below := below) (s := s₁) (ef_31_R m a1)
  have K0 := Keep.refl h0 [a1]
  have H := @dch _ _ _ hby D31
  have k101 := f_alN X0 hx k0 (H 0 rfl) rfl
  obtain ⟨_, T102, L102, X102, hQ102, k102⟩ := c_U (W := 0) (x := mn50) X0 hx hZ hown (hww 249 rfl) (hww 250 rfl) (hww 251 rfl) (by decide) (hww 253 rfl) (hww 252 rfl) (hww 254 rfl) (hww 216 rfl) Fk0.1 (nxn34 l Z a0 hw [] a1 a2 mc tb kt nd cu nx v1 v2 v3 h0 n0 Z0 Fk0 Fk1 Fk2 Fk3 Fk4 ge_a1 ne_a1_a2 ne_a1_tb ne_a1_nd) e0 (argsL := []) (rest := []) rfl (by rw [hml]; rfl) k101 rfl (H 1 rfl) (lenOf pd__28_29Ljava_2futil_2fHashMap_24Node_3b rfl) (b5 rfl)
  obtain ⟨h102, e102⟩ : ∃ h', T102.heap = h' := ⟨_, rfl⟩
  rw [e102] at hQ102
  obtain ⟨rfl, N102q, K102, R102_0⟩ := hQ102
  have N103 := Fr.app N0 N102q
  have Z104 : n0 ≤ h102.size := Nat.le_trans Z0 K102.1
  have K105 := Keep.trans K0 K102 (allS (oL 0 rfl) all0)
  obtain ⟨T106, X106, e106, k107⟩ := gFs X102 hx hZ hown (hww 256 rfl) e102 (Fk5.keep K105 (ninS (Ne.symm ne_a1_nd) nin0)) k102 (H 2 rfl)
  exact fin_r X106 hx (w := (.ref vl)) hrt hlk rfl (Or.inr (Or.inr (Or.inr (Or.inr ⟨rfl, rfl, rfl⟩)))) k107 (H 3 rfl) (by rw [e106]; exact ⟨rfl, N103, K105, R102_0⟩) (by decide) (by decide)
def Q_nxn4None (Z : State) (a1 a2 : Addr) (mc : Int32) (tb : Addr) (kt : ClassId) (nd : Addr) (cu v1 v2 v3 v4 : Value) (h0 : Heap) (n0 : Nat) (v : Option Value) (h : Heap) (L : List Loc) : Prop := v = some (.ref nd) ∧ Fr n0 L ∧ Keep h0 h [a1] ∧ OBJ Z h a1 "java/util/HashMap$ValueIterator" lyIT [(.ref a2), (.int mc), .null, (.ref nd), (.int (16 : Int32))]
theorem nxn4None (l : Launch) (Z : State) (a0 : Array Value) (hw : HW Z a0) (ws : List Jvm.Cond) (a1 a2 : Addr) (mc : Int32) (tb : Addr) (kt : ClassId) (nd : Addr) (cu v1 v2 v3 v4 : Value) (h0 : Heap) (n0 : Nat) (Z0 : n0 ≤ h0.size) (Fk0 : OBJ Z h0 a1 "java/util/HashMap$ValueIterator" lyIT [(.ref a2), (.int mc), (.ref nd), cu, (.int (5 : Int32))]) (Fk1 : Fld Z h0 a2 "java/util/HashMap" "modCount" "I" (.int mc)) (Fk2 : Fld Z h0 a2 "java/util/HashMap" "table" "[Ljava/util/HashMap$Node;" (.ref tb)) (Fk3 : Arv Z h0 tb kt (.object "java/util/HashMap$Node") (16 : Int32) [.null, v1, v2, v3, v4, .null, .null, .null, .null, .null, .null, .null, .null, .null, .null, .null] .null) (Fk4 : Fld Z h0 nd "java/util/HashMap$Node" "next" "Ljava/util/HashMap$Node;" .null) (ge_a1 : n0 ≤ a1) (ne_a1_a2 : a1 ≠ a2) (ne_a1_tb : a1 ≠ tb) (ne_a1_nd : a1 ≠ nd) :
    Met l mn49 jdk_99_method_3_code 3 (some (.object "java/util/HashMap$Node")) ws (rm 0 0 0 0) #[(.ref a1)] Z h0 (Q_nxn4None Z a1 a2 mc tb kt nd cu v1 v2 v3 v4 h0 n0) := by
  refine Met.intro (plainFor_of_name pn_java_2futil_2fHashMap_24HashIterator) ?_
  intro p e s m below meth c s₁ hx hby hml hZ hown hnm hrt hlk X0 e0
  have N0 := Fr.nil n0
  have hww := @hvw _ _ hw
  have k0 := k_e (p := p) (e := e) (below := below) (s := s₁) (ef_32_R m a1)
  have K0 := Keep.refl h0 [a1]
  have H := @dch _ _ _ hby D32
  have k101 := f_alN X0 hx k0 (H 18 rfl) rfl
  obtain ⟨T102, X102, e102, k103⟩ := gFs X0 hx hZ hown (hww 225 rfl) e0 (Fk0.g 2 (v := (.ref nd)) (by decide) rfl rfl) k101 (H 19 rfl)
  have k104 := f_asN X102 hx k103 (H 20 rfl) (l' := #[sr a1, un, sr nd]) rfl
  have k105 := f_alN X102 hx k104 (H 21 rfl) rfl
  obtain ⟨T106, X106, e106, k107⟩ := gFs X102 hx hZ hown (hww 218 rfl) e102 (Fk0.g 0 (v := (.ref a2)) (by decide) rfl rfl) k105 (H 22 rfl)
  obtain ⟨T108, X108, e108, k109⟩ := gFs X106 hx hZ hown (hww 221 rfl) e106 Fk1 k107 (H 23 rfl)
  have k110 := f_alN X108 hx k109 (H 24 rfl) rfl
  obtain ⟨T111, X111, e111, k112⟩ := gFs X108 hx hZ hown (hww 222 rfl) e108 (Fk0.g 1 (v := (.int mc)) (by decide) rfl rfl) k110 (H 25 rfl)
  have k113 := f_icY X111 hx k112 (H 26 rfl) (pc' := 27) (teq rfl).1 (by decide)
  have k114 := f_alN X111 hx k113 (H 27 rfl) rfl
  have k115 := f_nnY X111 hx k114 (H 28 rfl) (pc' := 39) (by decide)
  have k116 := f_alN X111 hx k115 (H 29 rfl) rfl
  have k117 := f_alN X111 hx k116 (H 30 rfl) rfl
  have k118 := f_alN X111 hx k117 (H 31 rfl) rfl
  have k119 := f_dupX1 X111 hx k118 (H 32 rfl) rfl rfl
  obtain ⟨T120, h120, L120, X120, e120, W120, B120, N120, Z120, k120⟩ := f_pF X111 hx hZ hown (hww 227 rfl) Via.refl e111 Fk0 (snIT hw) (Or.inl (hww 228 rfl)) (hww 206 rfl) 3 (by decide) rfl rfl (ty := (.object "java/util/HashMap$Node")) (by decide) rfl rfl N0 ge_a1 Z0 k119 (H 33 rfl) rfl
  have K121 := kw K0 W120 0 rfl
  obtain ⟨T122, X122, e122, k123⟩ := gFs X120 hx hZ hown (hww 255 rfl) e120 (Fk4.keep K121 (ninS (Ne.symm ne_a1_nd) nin0)) k120 (H 34 rfl)
  have k124 := f_dupX1 X122 hx k123 (H 35 rfl) rfl rfl
  obtain ⟨T125, h125, L125, X125, e125, W125, B125, N125, Z125, k125⟩ := f_pF X122 hx hZ hown (hww 225 rfl) Via.refl e122 B120 (snIT hw) (Or.inl (hww 226 rfl)) (hww 206 rfl) 2 (by decide) rfl rfl (ty := (.object "java/util/HashMap$Node")) (by decide) rfl rfl N120 ge_a1 Z120 k124 (H 36 rfl) rfl
  have K126 := kw K121 W125 0 rfl
  have k127 := f_nnN X125 hx k125 (H 37 rfl)
  have k128 := f_alN X125 hx k127 (H 38 rfl) rfl
  obtain ⟨T129, X129, e129, k130⟩ := gFs X125 hx hZ hown (hww 218 rfl) e125 (B125.g 0 (v := (.ref a2)) (by decide) rfl rfl) k128 (H 39 rfl)
  obtain ⟨T131, X131, e131, k132⟩ := gFs X129 hx hZ hown (hww 224 rfl) e129 (Fk2.keep K126 (ninS (Ne.symm ne_a1_a2) nin0)) k130 (H 40 rfl)
  have k133 := f_dup X131 hx k132 (H 41 rfl) rfl
  have k134 := f_asN X131 hx k133 (H 42 rfl) (l' := #[sr a1, sr tb, sr nd]) rfl
  have k135 := f_inN X131 hx k134 (H 43 rfl)
  obtain ⟨T136, h136, L136, X136, e136, B136, N136, Z136, K136, k136⟩ := scn l Z a0 hw hx hby hZ hown rfl 11 (5 : Int32) (by decide) (own_nulls 5 11 (by decide) rfl) X131 e131 B125 (Fk3.keep K126 (ninS (Ne.symm ne_a1_tb) nin0)) (Ne.symm (Ne.symm ne_a1_tb)) N125 ge_a1 Z125 K126 k135
  have k137 := f_alN X136 hx k136 (H 44 rfl) rfl
  exact fin_r X136 hx (w := (.ref nd)) hrt hlk rfl (Or.inr (Or.inr (Or.inr (Or.inr ⟨rfl, rfl, rfl⟩)))) k137 (H 45 rfl) (by rw [e136]; exact ⟨rfl, N136, K136, B136⟩) (by decide) (by decide)
def Q_nxt4None (Z : State) (a1 a2 : Addr) (mc : Int32) (tb : Addr) (kt : ClassId) (nd : Addr) (cu v1 v2 v3 v4 : Value) (vl : Addr) (h0 : Heap) (n0 : Nat) (v : Option Value) (h : Heap) (L : List Loc) : Prop := v = some (.ref vl) ∧ Fr n0 L ∧ Keep h0 h [a1] ∧ OBJ Z h a1 "java/util/HashMap$ValueIterator" lyIT [(.ref a2), (.int mc), .null, (.ref nd), (.int (16 : Int32))]
theorem nxt4None (l : Launch) (Z : State) (a0 : Array Value) (hw : HW Z a0) (ws : List Jvm.Cond) (a1 a2 : Addr) (mc : Int32) (tb : Addr) (kt : ClassId) (nd : Addr) (cu v1 v2 v3 v4 : Value) (vl : Addr) (h0 : Heap) (n0 : Nat) (Z0 : n0 ≤ h0.size) (Fk0 : OBJ Z h0 a1 "java/util/HashMap$ValueIterator" lyIT [(.ref a2), (.int mc), (.ref nd), cu, (.int (5 : Int32))]) (Fk1 : Fld Z h0 a2 "java/util/HashMap" "modCount" "I" (.int mc)) (Fk2 : Fld Z h0 a2 "java/util/HashMap" "table" "[Ljava/util/HashMap$Node;" (.ref tb)) (Fk3 : Arv Z h0 tb kt (.object "java/util/HashMap$Node") (16 : Int32) [.null, v1, v2, v3, v4, .null, .null, .null, .null, .null, .null, .null, .null, .null, .null, .null] .null) (Fk4 : Fld Z h0 nd "java/util/HashMap$Node" "next" "Ljava/util/HashMap$Node;" .null) (Fk5 : Fld Z h0 nd "java/util/HashMap$Node" "value" "Ljava/lang/Object;" (.ref vl)) (ge_a1 : n0 ≤ a1) (ne_a1_a2 : a1 ≠ a2) (ne_a1_tb : a1 ≠ tb) (ne_a1_nd : a1 ≠ nd) :
    Met l mn51 jdk_2569_method_2_code 1 (some (.object "java/lang/Object")) ws (rm 1 0 0 14) #[(.ref a1)] Z h0 (Q_nxt4None Z a1 a2 mc tb kt nd cu v1 v2 v3 v4 vl h0 n0) := by
  refine Met.intro (plainFor_of_name pn_java_2futil_2fHashMap_24ValueIterator) ?_
  intro p e s m below meth c s₁ hx hby hml hZ hown hnm hrt hlk X0 e0
  have N0 := Fr.nil n0
  have hww := @hvw _ _ hw
  have k0 := k_e (p := p) (e := e) (below := below) (s := s₁) (ef_31_R m a1)
  have K0 := Keep.refl h0 [a1]
  have H := @dch _ _ _ hby D31
  have k101 := f_alN X0 hx k0 (H 0 rfl) rfl
  obtain ⟨_, T102, L102, X102, hQ102, k102⟩ := c_U (W := 0) (x := mn50) X0 hx hZ hown (hww 249 rfl) (hww 250 rfl) (hww 251 rfl) (by decide) (hww 253 rfl) (hww 252 rfl) (hww 254 rfl) (hww 216 rfl) Fk0.1 (nxn4None l Z a0 hw [] a1 a2 mc tb kt nd cu v1 v2 v3 v4 h0 n0 Z0 Fk0 Fk1 Fk2 Fk3 Fk4 ge_a1 ne_a1_a2 ne_a1_tb ne_a1_nd) e0 (argsL := []) (rest := []) rfl (by rw [hml]; rfl) k101 rfl (H 1 rfl) (lenOf pd__28_29Ljava_2futil_2fHashMap_24Node_3b rfl) (b5 rfl)
  obtain ⟨h102, e102⟩ : ∃ h', T102.heap = h' := ⟨_, rfl⟩
  rw [e102] at hQ102
  obtain ⟨rfl, N102q, K102, R102_0⟩ := hQ102
  have N103 := Fr.app N0 N102q
  have Z104 : n0 ≤ h102.size := Nat.le_trans Z0 K102.1
  have K105 := Keep.trans K0 K102 (allS (oL 0 rfl) all0)
  obtain ⟨T106, X106, e106, k107⟩ := gFs X102 hx hZ hown (hww 256 rfl) e102 (Fk5.keep K105 (ninS (Ne.symm ne_a1_nd) nin0)) k102 (H 2 rfl)
  exact fin_r X106 hx (w := (.ref vl)) hrt hlk rfl (Or.inr (Or.inr (Or.inr (Or.inr ⟨rfl, rfl, rfl⟩)))) k107 (H 3 rfl) (by rw [e106]; exact ⟨rfl, N103, K105, R102_0⟩) (by decide) (by decide)
theorem ef_37_II (m : MethodId) (x0 : Int32) (x1 : Int32) : entryFrame m #[(.int x0), (.int x1)] 2 = mkF m 0 #[.val (.int x0), .val (.int x1)] [] := by first | (simp [entryFrame, mkF, argsToLocals, Value.category]; done) | rfl
def Q_mmin (Z : State) (p1 p2 : Int32) (h0 : Heap) (n0 : Nat) (v : Option Value) (h : Heap) (L : List Loc) : Prop := ∃ (j : Int32), v = some (.int j) ∧ Fr n0 L ∧ h = h0 ∧ (j = (if p2 < p1 then p2 else p1))
theorem mmin (l : Launch) (Z : State) (a0 : Array Value) (hw : HW Z a0) (ws : List Jvm.Cond) (p1 p2 : Int32) (h0 : Heap) (n0 : Nat) (Z0 : n0 ≤ h0.size) (hle : ¬ (p1 < p2)) :
    Met l mn52 jdk_29_method_69_code 2 (some .int) ws (rm 0 0 0 0) #[(.int p1), (.int p2)] Z h0 (Q_mmin Z p1 p2 h0 n0) := by
  refine Met.intro (Jvm.Free.JP.mathPlain rfl (by decide +kernel)) ?_
  intro p e s m below meth c s₁ hx hby hml hZ hown hnm hrt hlk X0 e0
  have N0 := Fr.nil n0
  have hww := @hvw _ _ hw
  have k0 := k_e (p := p) (e := e) (below := below) (s := s₁) (ef_37_II m p1 p2)
  have H := @dch _ _ _ hby D37
  have k101 := f_ilN X0 hx k0 (H 0 rfl) rfl
  have k102 := f_ilN X0 hx k101 (H 1 rfl) rfl
  obtain ⟨i104, hi104⟩ : ∃ z : Int32, z = (if p2 < p1 then p2 else p1) := ⟨_, rfl⟩
  have k105 : Rt p e below s₁ (mkF m 10 #[si p1, si p2] [vI i104]) s₁ m #[(.int p1), (.int p2)] 2 := fun t k => k102 t (by
    by_cases c103 : p2 < p1
    · rw [if_pos c103] at hi104
      show Sp p e below s₁ (mkF m 2 #[si p1, si p2] [vI p2, vI p1]) _
      refine XS.icmpYes X0.here hx rfl (pc0 := 2) (pc' := 9) rfl (H 2 rfl) rfl (tlt c103).2.2.1 (by decide) (by decide) ?_
      refine XS.iloadN X0.here hx rfl (H 3 rfl) rfl ?_
      show Sp p e below s₁ (mkF m 10 #[si p1, si p2] [vI p2]) _
      exact castTop (by rw [hi104]) k
    · rw [if_neg c103] at hi104
      show Sp p e below s₁ (mkF m 2 #[si p1, si p2] [vI p2, vI p1]) _
      refine XS.icmpNo X0.here hx rfl (H 2 rfl) rfl (flt c103).2.2.1 ?_
      refine XS.iloadN X0.here hx rfl (H 4 rfl) rfl ?_
      refine XS.goto X0.here hx rfl (pc0 := 6) (pc' := 10) rfl (H 5 rfl) (by decide) (by decide) ?_
      show Sp p e below s₁ (mkF m 10 #[si p1, si p2] [vI p1]) _
      exact castTop (by rw [hi104]) k)
  exact fin_r X0 hx (w := (.int i104)) hrt hlk rfl (Or.inl ⟨rfl, Or.inl rfl, _, rfl⟩) k105 (H 6 rfl) (by rw [e0]; exact ⟨i104, rfl, N0, rfl, hi104⟩) (by decide) (by decide)
theorem ef_36_RI (m : MethodId) (x0 : Addr) (x1 : Int32) : entryFrame m #[(.ref x0), (.int x1)] 3 = mkF m 0 #[.val (.ref x0), .val (.int x1), .unset] [] := by first | (simp [entryFrame, mkF, argsToLocals, Value.category]; done) | rfl
def Q_cpo40 (Z : State) (a1 : Addr) (k1 : ClassId) (q0 q1 q2 q3 : Int32) (h0 : Heap) (n0 : Nat) (v : Option Value) (h : Heap) (L : List Loc) : Prop := ∃ (b : Addr) (kb : ClassId), v = some (.ref b) ∧ Fr n0 L ∧ Keep h0 h [] ∧ h0.size ≤ b ∧ Arv Z h b kb .int (0 : Int32) [] zI
theorem pn_java_2futil_2fArrays : plainName "java/util/Arrays" = true := by first | (simp [plainName, overriddenIn]; done) | decide +kernel
theorem cpo40 (l : Launch) (Z : State) (a0 : Array Value) (hw : HW Z a0) (ws : List Jvm.Cond) (a1 : Addr) (k1 : ClassId) (q0 q1 q2 q3 : Int32) (h0 : Heap) (n0 : Nat) (Z0 : n0 ≤ h0.size) (Fk0 : Arv Z h0 a1 k1 .int (4 : Int32) [(.int q0), (.int q1), (.int q2), (.int q3)] zI) (Fk1 : Exa Z h0 a1 "[I") :
    Met l mn53 jdk_65_method_123_code 3 (some (.array .int)) ws (rm 1 1 0 18) #[(.ref a1), zI] Z h0 (Q_cpo40 Z a1 k1 q0 q1 q2 q3 h0 n0) := by
  refine Met.intro (plainFor_of_name pn_java_2futil_2fArrays) ?_
  intro p e s m below meth c s₁ hx hby hml hZ hown hnm hrt hlk X0 e0
  have N0 := Fr.nil n0
  have hww := @hvw _ _ hw
  have k0 := k_e (p := p) (e := e) (below := below) (s := s₁) (ef_36_RI m a1 (0 : Int32))
  have K0 : Keep h0 h0 [] := Keep.refl h0 []
  have H := @dch _ _ _ hby D36
  have k101 := f_ilN X0 hx k0 (H 0 rfl) rfl
  have k102 := f_alN X0 hx k101 (H 1 rfl) rfl
  have k103 := f_len X0 hx hZ e0 Fk0 k102 (H 2 rfl)
  have k104 := f_icY X0 hx k103 (H 3 rfl) (pc' := 14) (feq (by decide)).2 (by decide)
  have k105 := f_ilN X0 hx k104 (H 4 rfl) rfl
  obtain ⟨T106, h106, k106, X106, e106, E106, A106, Y106, st106⟩ := newPE X0 hx hZ (hww 162 rfl) e0 (g := (mkF m 15 #[sr a1, si 0, un] [vI 0])) rfl (H 5 rfl) rfl (by decide) (cap := 0) (by decide) (by decide) (by decide) (by decide) (ad := "[I") (by decide)
  obtain ⟨b106, g106⟩ : ∃ z, z = h0.size := ⟨_, rfl⟩
  rw [← g106] at A106 Y106 st106
  have g107 : n0 ≤ b106 := Nat.le_trans Z0 (Nat.le_of_eq g106.symm)
  have z108 : h0.size ≤ b106 := Nat.le_trans K0.1 (Nat.le_of_eq g106.symm)
  have Z109 : n0 ≤ h106.size := Nat.le_trans Z0 E106.1
  have K110 := K0.ext E106
  have V111 : Arv Z h106 b106 k106 .int (0 : Int32) [] zI := (Arv.new A106 (by decide)).pad (pad_rep [] zI 0)
  have k112 : Rt p e below T106 (mkF m 17 #[sr a1, si 0, un] [vR b106]) s₁ m #[(.ref a1), zI] 3 := fun t k => k105 t (st106 t k)
  have k113 := f_asN X106 hx k112 (H 6 rfl) (l' := #[sr a1, si 0, sr b106]) rfl
  have k114 := f_alN X106 hx k113 (H 7 rfl) rfl
  have k115 := f_ic X106 hx k114 (H 8 rfl) (v := 0) rfl
  have k116 := f_alN X106 hx k115 (H 9 rfl) rfl
  have k117 := f_ic X106 hx k116 (H 10 rfl) (v := 0) rfl
  have k118 := f_alN X106 hx k117 (H 11 rfl) rfl
  have k119 := f_len X106 hx hZ e106 (Fk0.keep K110 nin0) k118 (H 12 rfl)
  have k120 := f_ilN X106 hx k119 (H 13 rfl) rfl
  obtain ⟨_, T121, L121, X121, hQ121, k121⟩ := c_S (W := 4) X106 hx hZ hown (hww 277 rfl) (hww 278 rfl) (hww 271 rfl) (hww 279 rfl) (by decide) (mmin l Z a0 hw [] (4 : Int32) (0 : Int32) h106 n0 Z109 (by decide)) e106 (argsL := [(.int (4 : Int32)), zI]) (rest := [zI, (.ref b106), zI, (.ref a1)]) rfl (by rw [hml]; rfl) k120 rfl (H 14 rfl) (lenOf pd__28II_29I rfl) (b5 rfl)
  obtain ⟨h121, e121⟩ : ∃ h', T121.heap = h' := ⟨_, rfl⟩
  rw [e121] at hQ121
  obtain ⟨j121, rfl, N121q, hh121, P121_0⟩ := hQ121
  have N122 := Fr.app N0 N121q
  have ee121 : T121.heap = h106 := e121.trans hh121
  have k123 : Rt p e below T121 (mkF m 28 #[sr a1, si 0, sr b106] [vI 0, vI 0, vR b106, vI 0, vR a1]) s₁ m #[(.ref a1), zI] 3 := fun t q => k121 t (castTop (by rw [show j121 = (0 : Int32) from (P121_0.trans (by decide))] <;> rfl) q)
  obtain ⟨T124, h124, Lc124, X124, e124, N124, K124, Vc124, st124⟩ := cpA X121 hx hZ hown (hww 280 rfl) (hww 283 rfl) (hww 281 rfl) (hww 282 rfl) ee121 (Fk0.keep K110 nin0) V111 (Or.inl ⟨rfl, rfl⟩) (sp := (0 : Int32)) (dp := (0 : Int32)) (nn := (0 : Int32)) (us := []) (by decide) (by decide) (by decide) (by decide) (by decide) rfl (Nat.le_of_ble_eq_true rfl) N122 g107 (g := (mkF m 28 #[sr a1, si 0, sr b106] [vI 0, vI 0, vR b106, vI 0, vR a1])) rfl (by rw [hml]; rfl) rfl (H 15 rfl) (by decide) (W := 0) (by show 2 * 0 + _ ≤ _; exact Nat.le_of_eq rfl) (by decide)
  have V125 : Arv Z h124 b106 k106 .int (0 : Int32) [] zI := Vc124
  have F126 := Y106.keep K124
  have Z127 : n0 ≤ h124.size := Nat.le_trans Z109 K124.1
  have K128 := Keep.trans K110 K124 (allS (Or.inr z108) all0)
  have k129 : Rt p e below T124 (mkF m 31 #[sr a1, si 0, sr b106] []) s₁ m #[(.ref a1), zI] 3 := fun t k => k123 t (st124 t k)
  have k130 := f_alN X124 hx k129 (H 16 rfl) rfl
  exact fin_r X124 hx (w := (.ref b106)) hrt hlk rfl (Or.inr (Or.inr (Or.inr (Or.inr ⟨rfl, rfl, rfl⟩)))) k130 (H 17 rfl) (by rw [e124]; exact ⟨b106, k106, rfl, N124, K128, z108, V125⟩) (by decide) (by decide)
def Q_cpo41 (Z : State) (a1 : Addr) (k1 : ClassId) (q0 q1 q2 q3 : Int32) (h0 : Heap) (n0 : Nat) (v : Option Value) (h : Heap) (L : List Loc) : Prop := ∃ (b : Addr) (kb : ClassId), v = some (.ref b) ∧ Fr n0 L ∧ Keep h0 h [] ∧ h0.size ≤ b ∧ Arv Z h b kb .int (1 : Int32) [(.int q0)] zI
theorem cpo41 (l : Launch) (Z : State) (a0 : Array Value) (hw : HW Z a0) (ws : List Jvm.Cond) (a1 : Addr) (k1 : ClassId) (q0 q1 q2 q3 : Int32) (h0 : Heap) (n0 : Nat) (Z0 : n0 ≤ h0.size) (Fk0 : Arv Z h0 a1 k1 .int (4 : Int32) [(.int q0), (.int q1), (.int q2), (.int q3)] zI) (Fk1 : Exa Z h0 a1 "[I") :
    Met l mn53 jdk_65_method_123_code 3 (some (.array .int)) ws (rm 1 1 1 18) #[(.ref a1), (.int (1 : Int32))] Z h0 (Q_cpo41 Z a1 k1 q0 q1 q2 q3 h0 n0) := by
  refine Met.intro (plainFor_of_name pn_java_2futil_2fArrays) ?_
  intro p e s m below meth c s₁ hx hby hml hZ hown hnm hrt hlk X0 e0
  have N0 := Fr.nil n0
  have hww := @hvw _ _ hw
  have k0 := k_e (p := p) (e := e) (below := below) (s := s₁) (ef_36_RI m a1 (1 : Int32))
  have K0 : Keep h0 h0 [] := Keep.refl h0 []
  have H := @dch _ _ _ hby D36
  have k101 := f_ilN X0 hx k0 (H 0 rfl) rfl
  have k102 := f_alN X0 hx k101 (H 1 rfl) rfl
  have k103 := f_len X0 hx hZ e0 Fk0 k102 (H 2 rfl)
  have k104 := f_icY X0 hx k103 (H 3 rfl) (pc' := 14) (feq (by decide)).2 (by decide)
  have k105 := f_ilN X0 hx k104 (H 4 rfl) rfl
  obtain ⟨T106, h106, k106, X106, e106, E106, A106, Y106, st106⟩ := newPE X0 hx hZ (hww 162 rfl) e0 (g := (mkF m 15 #[sr a1, si 1, un] [vI 1])) rfl (H 5 rfl) rfl (by decide) (cap := 1) (by decide) (by decide) (by decide) (by decide) (ad := "[I") (by decide)
  obtain ⟨b106, g106⟩ : ∃ z, z = h0.size := ⟨_, rfl⟩
  rw [← g106] at A106 Y106 st106
  have g107 : n0 ≤ b106 := Nat.le_trans Z0 (Nat.le_of_eq g106.symm)
  have z108 : h0.size ≤ b106 := Nat.le_trans K0.1 (Nat.le_of_eq g106.symm)
  have Z109 : n0 ≤ h106.size := Nat.le_trans Z0 E106.1
  have K110 := K0.ext E106
  have V111 : Arv Z h106 b106 k106 .int (1 : Int32) [zI] zI := (Arv.new A106 (by decide)).pad (pad_rep [] zI 1)
  have k112 : Rt p e below T106 (mkF m 17 #[sr a1, si 1, un] [vR b106]) s₁ m #[(.ref a1), (.int (1 : Int32))] 3 := fun t k => k105 t (st106 t k)
  have k113 := f_asN X106 hx k112 (H 6 rfl) (l' := #[sr a1, si 1, sr b106]) rfl
  have k114 := f_alN X106 hx k113 (H 7 rfl) rfl
  have k115 := f_ic X106 hx k114 (H 8 rfl) (v := 0) rfl
  have k116 := f_alN X106 hx k115 (H 9 rfl) rfl
  have k117 := f_ic X106 hx k116 (H 10 rfl) (v := 0) rfl
  have k118 := f_alN X106 hx k117 (H 11 rfl) rfl
  have k119 := f_len X106 hx hZ e106 (Fk0.keep K110 nin0) k118 (H 12 rfl)
  have k120 := f_ilN X106 hx k119 (H 13 rfl) rfl
  obtain ⟨_, T121, L121, X121, hQ121, k121⟩ := c_S (W := 4) X106 hx hZ hown (hww 277 rfl) (hww 278 rfl) (hww 271 rfl) (hww 279 rfl) (by decide) (mmin l Z a0 hw [] (4 : Int32) (1 : Int32) h106 n0 Z109 (by decide)) e106 (argsL := [(.int (4 : Int32)), (.int (1 : Int32))]) (rest := [zI, (.ref b106), zI, (.ref a1)]) rfl (by rw [hml]; rfl) k120 rfl (H 14 rfl) (lenOf pd__28II_29I rfl) (b5 rfl)
  obtain ⟨h121, e121⟩ : ∃ h', T121.heap = h' := ⟨_, rfl⟩
  rw [e121] at hQ121
  obtain ⟨j121, rfl, N121q, hh121, P121_0⟩ := hQ121
  have N122 := Fr.app N0 N121q
  have ee121 : T121.heap = h106 := e121.trans hh121
  have k123 : Rt p e below T121 (mkF m 28 #[sr a1, si 1, sr b106] [vI 1, vI 0, vR b106, vI 0, vR a1]) s₁ m #[(.ref a1), (.int (1 : Int32))] 3 := fun t q => k121 t (castTop (by rw [show j121 = (1 : Int32) from (P121_0.trans (by decide))] <;> rfl) q)
  obtain ⟨T124, h124, Lc124, X124, e124, N124, K124, Vc124, st124⟩ := cpA X121 hx hZ hown (hww 280 rfl) (hww 283 rfl) (hww 281 rfl) (hww 282 rfl) ee121 (Fk0.keep K110 nin0) V111 (Or.inl ⟨rfl, rfl⟩) (sp := (0 : Int32)) (dp := (0 : Int32)) (nn := (1 : Int32)) (us := [(.int q0)]) (by decide) (by decide) (by decide) (by decide) (by decide) rfl (Nat.le_of_ble_eq_true rfl) N122 g107 (g := (mkF m 28 #[sr a1, si 1, sr b106] [vI 1, vI 0, vR b106, vI 0, vR a1])) rfl (by rw [hml]; rfl) rfl (H 15 rfl) (by decide) (W := 0) (by show 2 * 0 + _ ≤ _; exact Nat.le_of_eq rfl) (by decide)
  have V125 : Arv Z h124 b106 k106 .int (1 : Int32) [(.int q0)] zI := Vc124
  have F126 := Y106.keep K124
  have Z127 : n0 ≤ h124.size := Nat.le_trans Z109 K124.1
  have K128 := Keep.trans K110 K124 (allS (Or.inr z108) all0)
  have k129 : Rt p e below T124 (mkF m 31 #[sr a1, si 1, sr b106] []) s₁ m #[(.ref a1), (.int (1 : Int32))] 3 := fun t k => k123 t (st124 t k)
  have k130 := f_alN X124 hx k129 (H 16 rfl) rfl
  exact fin_r X124 hx (w := (.ref b106)) hrt hlk rfl (Or.inr (Or.inr (Or.inr (Or.inr ⟨rfl, rfl, rfl⟩)))) k130 (H 17 rfl) (by rw [e124]; exact ⟨b106, k106, rfl, N124, K128, z108, V125⟩) (by decide) (by decide)
def Q_cpo42 (Z : State) (a1 : Addr) (k1 : ClassId) (q0 q1 q2 q3 : Int32) (h0 : Heap) (n0 : Nat) (v : Option Value) (h : Heap) (L : List Loc) : Prop := ∃ (b : Addr) (kb : ClassId), v = some (.ref b) ∧ Fr n0 L ∧ Keep h0 h [] ∧ h0.size ≤ b ∧ Arv Z h b kb .int (2 : Int32) [(.int q0), (.int q1)] zI
theorem cpo42 (l : Launch) (Z : State) (a0 : Array Value) (hw : HW Z a0) (ws : List Jvm.Cond) (a1 : Addr) (k1 : ClassId) (q0 q1 q2 q3 : Int32) (h0 : Heap) (n0 : Nat) (Z0 : n0 ≤ h0.size) (Fk0 : Arv Z h0 a1 k1 .int (4 : Int32) [(.int q0), (.int q1), (.int q2), (.int q3)] zI) (Fk1 : Exa Z h0 a1 "[I") :
    Met l mn53 jdk_65_method_123_code 3 (some (.array .int)) ws (rm 1 1 2 18) #[(.ref a1), (.int (2 : Int32))] Z h0 (Q_cpo42 Z a1 k1 q0 q1 q2 q3 h0 n0) := by
  refine Met.intro (plainFor_of_name pn_java_2futil_2fArrays) ?_
  intro p e s m below meth c s₁ hx hby hml hZ hown hnm hrt hlk X0 e0
  have N0 := Fr.nil n0
  have hww := @hvw _ _ hw
  have k0 := k_e (p := p) (e := e) (below := below) (s := s₁) (ef_36_RI m a1 (2 : Int32))
  have K0 : Keep h0 h0 [] := Keep.refl h0 []
  have H := @dch _ _ _ hby D36
  have k101 := f_ilN X0 hx k0 (H 0 rfl) rfl
  have k102 := f_alN X0 hx k101 (H 1 rfl) rfl
  have k103 := f_len X0 hx hZ e0 Fk0 k102 (H 2 rfl)
  have k104 := f_icY X0 hx k103 (H 3 rfl) (pc' := 14) (feq (by decide)).2 (by decide)
  have k105 := f_ilN X0 hx k104 (H 4 rfl) rfl
  obtain ⟨T106, h106, k106, X106, e106, E106, A106, Y106, st106⟩ := newPE X0 hx hZ (hww 162 rfl) e0 (g := (mkF m 15 #[sr a1, si 2, un] [vI 2])) rfl (H 5 rfl) rfl (by decide) (cap := 2) (by decide) (by decide) (by decide) (by decide) (ad := "[I") (by decide)
  obtain ⟨b106, g106⟩ : ∃ z, z = h0.size := ⟨_, rfl⟩
  rw [← g106] at A106 Y106 st106
  have g107 : n0 ≤ b106 := Nat.le_trans Z0 (Nat.le_of_eq g106.symm)
  have z108 : h0.size ≤ b106 := Nat.le_trans K0.1 (Nat.le_of_eq g106.symm)
  have Z109 : n0 ≤ h106.size := Nat.le_trans Z0 E106.1
  have K110 := K0.ext E106
  have V111 : Arv Z h106 b106 k106 .int (2 : Int32) [zI, zI] zI := (Arv.new A106 (by decide)).pad (pad_rep [] zI 2)
  have k112 : Rt p e below T106 (mkF m 17 #[sr a1, si 2, un] [vR b106]) s₁ m #[(.ref a1), (.int (2 : Int32))] 3 := fun t k => k105 t (st106 t k)
  have k113 := f_asN X106 hx k112 (H 6 rfl) (l' := #[sr a1, si 2, sr b106]) rfl
  have k114 := f_alN X106 hx k113 (H 7 rfl) rfl
  have k115 := f_ic X106 hx k114 (H 8 rfl) (v := 0) rfl
  have k116 := f_alN X106 hx k115 (H 9 rfl) rfl
  have k117 := f_ic X106 hx k116 (H 10 rfl) (v := 0) rfl
  have k118 := f_alN X106 hx k117 (H 11 rfl) rfl
  have k119 := f_len X106 hx hZ e106 (Fk0.keep K110 nin0) k118 (H 12 rfl)
  have k120 := f_ilN X106 hx k119 (H 13 rfl) rfl
  obtain ⟨_, T121, L121, X121, hQ121, k121⟩ := c_S (W := 4) X106 hx hZ hown (hww 277 rfl) (hww 278 rfl) (hww 271 rfl) (hww 279 rfl) (by decide) (mmin l Z a0 hw [] (4 : Int32) (2 : Int32) h106 n0 Z109 (by decide)) e106 (argsL := [(.int (4 : Int32)), (.int (2 : Int32))]) (rest := [zI, (.ref b106), zI, (.ref a1)]) rfl (by rw [hml]; rfl) k120 rfl (H 14 rfl) (lenOf pd__28II_29I rfl) (b5 rfl)
  obtain ⟨h121, e121⟩ : ∃ h', T121.heap = h' := ⟨_, rfl⟩
  rw [e121] at hQ121
  obtain ⟨j121, rfl, N121q, hh121, P121_0⟩ := hQ121
  have N122 := Fr.app N0 N121q
  have ee121 : T121.heap = h106 := e121.trans hh121
  have k123 : Rt p e below T121 (mkF m 28 #[sr a1, si 2, sr b106] [vI 2, vI 0, vR b106, vI 0, vR a1]) s₁ m #[(.ref a1), (.int (2 : Int32))] 3 := fun t q => k121 t (castTop (by rw [show j121 = (2 : Int32) from (P121_0.trans (by decide))] <;> rfl) q)
  obtain ⟨T124, h124, Lc124, X124, e124, N124, K124, Vc124, st124⟩ := cpA X121 hx hZ hown (hww 280 rfl) (hww 283 rfl) (hww 281 rfl) (hww 282 rfl) ee121 (Fk0.keep K110 nin0) V111 (Or.inl ⟨rfl, rfl⟩) (sp := (0 : Int32)) (dp := (0 : Int32)) (nn := (2 : Int32)) (us := [(.int q0), (.int q1)]) (by decide) (by decide) (by decide) (by decide) (by decide) rfl (Nat.le_of_ble_eq_true rfl) N122 g107 (g := (mkF m 28 #[sr a1, si 2, sr b106] [vI 2, vI 0, vR b106, vI 0, vR a1])) rfl (by rw [hml]; rfl) rfl (H 15 rfl) (by decide) (W := 0) (by show 2 * 0 + _ ≤ _; exact Nat.le_of_eq rfl) (by decide)
  have V125 : Arv Z h124 b106 k106 .int (2 : Int32) [(.int q0), (.int q1)] zI := Vc124
  have F126 := Y106.keep K124
  have Z127 : n0 ≤ h124.size := Nat.le_trans Z109 K124.1
  have K128 := Keep.trans K110 K124 (allS (Or.inr z108) all0)
  have k129 : Rt p e below T124 (mkF m 31 #[sr a1, si 2, sr b106] []) s₁ m #[(.ref a1), (.int (2 : Int32))] 3 := fun t k => k123 t (st124 t k)
  have k130 := f_alN X124 hx k129 (H 16 rfl) rfl
  exact fin_r X124 hx (w := (.ref b106)) hrt hlk rfl (Or.inr (Or.inr (Or.inr (Or.inr ⟨rfl, rfl, rfl⟩)))) k130 (H 17 rfl) (by rw [e124]; exact ⟨b106, k106, rfl, N124, K128, z108, V125⟩) (by decide) (by decide)
def Q_cpo43 (Z : State) (a1 : Addr) (k1 : ClassId) (q0 q1 q2 q3 : Int32) (h0 : Heap) (n0 : Nat) (v : Option Value) (h : Heap) (L : List Loc) : Prop := ∃ (b : Addr) (kb : ClassId), v = some (.ref b) ∧ Fr n0 L ∧ Keep h0 h [] ∧ h0.size ≤ b ∧ Arv Z h b kb .int (3 : Int32) [(.int q0), (.int q1), (.int q2)] zI
theorem cpo43 (l : Launch) (Z : State) (a0 : Array Value) (hw : HW Z a0) (ws : List Jvm.Cond) (a1 : Addr) (k1 : ClassId) (q0 q1 q2 q3 : Int32) (h0 : Heap) (n0 : Nat) (Z0 : n0 ≤ h0.size) (Fk0 : Arv Z h0 a1 k1 .int (4 : Int32) [(.int q0), (.int q1), (.int q2), (.int q3)] zI) (Fk1 : Exa Z h0 a1 "[I") :
    Met l mn53 jdk_65_method_123_code 3 (some (.array .int)) ws (rm 1 1 3 18) #[(.ref a1), (.int (3 : Int32))] Z h0 (Q_cpo43 Z a1 k1 q0 q1 q2 q3 h0 n0) := by
  refine Met.intro (plainFor_of_name pn_java_2futil_2fArrays) ?_
  intro p e s m below meth c s₁ hx hby hml hZ hown hnm hrt hlk X0 e0
  have N0 := Fr.nil n0
  have hww := @hvw _ _ hw
  have k0 := k_e (p := p) (e := e) (below := below) (s := s₁) (ef_36_RI m a1 (3 : Int32))
  have K0 : Keep h0 h0 [] := Keep.refl h0 []
  have H := @dch _ _ _ hby D36
  have k101 := f_ilN X0 hx k0 (H 0 rfl) rfl
  have k102 := f_alN X0 hx k101 (H 1 rfl) rfl
  have k103 := f_len X0 hx hZ e0 Fk0 k102 (H 2 rfl)
  have k104 := f_icY X0 hx k103 (H 3 rfl) (pc' := 14) (feq (by decide)).2 (by decide)
  have k105 := f_ilN X0 hx k104 (H 4 rfl) rfl
  obtain ⟨T106, h106, k106, X106, e106, E106, A106, Y106, st106⟩ := newPE X0 hx hZ (hww 162 rfl) e0 (g := (mkF m 15 #[sr a1, si 3, un] [vI 3])) rfl (H 5 rfl) rfl (by decide) (cap := 3) (by decide) (by decide) (by decide) (by decide) (ad := "[I") (by decide)
  obtain ⟨b106, g106⟩ : ∃ z, z = h0.size := ⟨_, rfl⟩
  rw [← g106] at A106 Y106 st106
  have g107 : n0 ≤ b106 := Nat.le_trans Z0 (Nat.le_of_eq g106.symm)
  have z108 : h0.size ≤ b106 := Nat.le_trans K0.1 (Nat.le_of_eq g106.symm)
  have Z109 : n0 ≤ h106.size := Nat.le_trans Z0 E106.1
  have K110 := K0.ext E106
  have V111 : Arv Z h106 b106 k106 .int (3 : Int32) [zI, zI, zI] zI := (Arv.new A106 (by decide)).pad (pad_rep [] zI 3)
  have k112 : Rt p e below T106 (mkF m 17 #[sr a1, si 3, un] [vR b106]) s₁ m #[(.ref a1), (.int (3 : Int32))] 3 := fun t k => k105 t (st106 t k)
  have k113 := f_asN X106 hx k112 (H 6 rfl) (l' := #[sr a1, si 3, sr b106]) rfl
  have k114 := f_alN X106 hx k113 (H 7 rfl) rfl
  have k115 := f_ic X106 hx k114 (H 8 rfl) (v := 0) rfl
  have k116 := f_alN X106 hx k115 (H 9 rfl) rfl
  have k117 := f_ic X106 hx k116 (H 10 rfl) (v := 0) rfl
  have k118 := f_alN X106 hx k117 (H 11 rfl) rfl
  have k119 := f_len X106 hx hZ e106 (Fk0.keep K110 nin0) k118 (H 12 rfl)
  have k120 := f_ilN X106 hx k119 (H 13 rfl) rfl
  obtain ⟨_, T121, L121, X121, hQ121, k121⟩ := c_S (W := 4) X106 hx hZ hown (hww 277 rfl) (hww 278 rfl) (hww 271 rfl) (hww 279 rfl) (by decide) (mmin l Z a0 hw [] (4 : Int32) (3 : Int32) h106 n0 Z109 (by decide)) e106 (argsL := [(.int (4 : Int32)), (.int (3 : Int32))]) (rest := [zI, (.ref b106), zI, (.ref a1)]) rfl (by rw [hml]; rfl) k120 rfl (H 14 rfl) (lenOf pd__28II_29I rfl) (b5 rfl)
  obtain ⟨h121, e121⟩ : ∃ h', T121.heap = h' := ⟨_, rfl⟩
  rw [e121] at hQ121
  obtain ⟨j121, rfl, N121q, hh121, P121_0⟩ := hQ121
  have N122 := Fr.app N0 N121q
  have ee121 : T121.heap = h106 := e121.trans hh121
  have k123 : Rt p e below T121 (mkF m 28 #[sr a1, si 3, sr b106] [vI 3, vI 0, vR b106, vI 0, vR a1]) s₁ m #[(.ref a1), (.int (3 : Int32))] 3 := fun t q => k121 t (castTop (by rw [show j121 = (3 : Int32) from (P121_0.trans (by decide))] <;> rfl) q)
  obtain ⟨T124, h124, Lc124, X124, e124, N124, K124, Vc124, st124⟩ := cpA X121 hx hZ hown (hww 280 rfl) (hww 283 rfl) (hww 281 rfl) (hww 282 rfl) ee121 (Fk0.keep K110 nin0) V111 (Or.inl ⟨rfl, rfl⟩) (sp := (0 : Int32)) (dp := (0 : Int32)) (nn := (3 : Int32)) (us := [(.int q0), (.int q1), (.int q2)]) (by decide) (by decide) (by decide) (by decide) (by decide) rfl (Nat.le_of_ble_eq_true rfl) N122 g107 (g := (mkF m 28 #[sr a1, si 3, sr b106] [vI 3, vI 0, vR b106, vI 0, vR a1])) rfl (by rw [hml]; rfl) rfl (H 15 rfl) (by decide) (W := 0) (by show 2 * 0 + _ ≤ _; exact Nat.le_of_eq rfl) (by decide)
  have V125 : Arv Z h124 b106 k106 .int (3 : Int32) [(.int q0), (.int q1), (.int q2)] zI := Vc124
  have F126 := Y106.keep K124
  have Z127 : n0 ≤ h124.size := Nat.le_trans Z109 K124.1
  have K128 := Keep.trans K110 K124 (allS (Or.inr z108) all0)
  have k129 : Rt p e below T124 (mkF m 31 #[sr a1, si 3, sr b106] []) s₁ m #[(.ref a1), (.int (3 : Int32))] 3 := fun t k => k123 t (st124 t k)
  have k130 := f_alN X124 hx k129 (H 16 rfl) rfl
  exact fin_r X124 hx (w := (.ref b106)) hrt hlk rfl (Or.inr (Or.inr (Or.inr (Or.inr ⟨rfl, rfl, rfl⟩)))) k130 (H 17 rfl) (by rw [e124]; exact ⟨b106, k106, rfl, N124, K128, z108, V125⟩) (by decide) (by decide)
def Q_cpo44 (Z : State) (a1 : Addr) (k1 : ClassId) (q0 q1 q2 q3 : Int32) (h0 : Heap) (n0 : Nat) (v : Option Value) (h : Heap) (L : List Loc) : Prop := ∃ (b : Addr) (kb : ClassId), v = some (.ref b) ∧ Fr n0 L ∧ Keep h0 h [] ∧ h0.size ≤ b ∧ Arv Z h b kb .int (4 : Int32) [(.int q0), (.int q1), (.int q2), (.int q3)] zI
theorem cpo44 (l : Launch) (Z : State) (a0 : Array Value) (hw : HW Z a0) (ws : List Jvm.Cond) (a1 : Addr) (k1 : ClassId) (q0 q1 q2 q3 : Int32) (h0 : Heap) (n0 : Nat) (Z0 : n0 ≤ h0.size) (Fk0 : Arv Z h0 a1 k1 .int (4 : Int32) [(.int q0), (.int q1), (.int q2), (.int q3)] zI) (Fk1 : Exa Z h0 a1 "[I") :
    Met l mn53 jdk_65_method_123_code 3 (some (.array .int)) ws (rm 1 1 4 14) #[(.ref a1), (.int (4 : Int32))] Z h0 (Q_cpo44 Z a1 k1 q0 q1 q2 q3 h0 n0) := by
  refine Met.intro (plainFor_of_name pn_java_2futil_2fArrays) ?_
  intro p e s m below meth c s₁ hx hby hml hZ hown hnm hrt hlk X0 e0
  have N0 := Fr.nil n0
  have hww := @hvw _ _ hw
  have k0 := k_e (p := p) (e := e) (below := below) (s := s₁) (ef_36_RI m a1 (4 : Int32))
  have K0 : Keep h0 h0 [] := Keep.refl h0 []
  have H := @dch _ _ _ hby D36
  have k101 := f_ilN X0 hx k0 (H 0 rfl) rfl
  have k102 := f_alN X0 hx k101 (H 1 rfl) rfl
  have k103 := f_len X0 hx hZ e0 Fk0 k102 (H 2 rfl)
  have k104 := f_icN X0 hx k103 (H 3 rfl) (teq (by decide)).2
  have k105 := f_alN X0 hx k104 (H 18 rfl) rfl
  obtain ⟨T106, h106, X106, e106, E106, A106, Y106, st106⟩ := f_cln X0 hx hZ hown (hww 402 rfl) (hww 403 rfl) (hww 407 rfl) (hww 405 rfl) (hww 406 rfl) (hww 408 rfl) e0 Fk0 Fk1 (g := (mkF m 7 #[sr a1, si 4, un] [vR a1])) rfl (by rw [hml]; rfl) (rest := []) rfl (H 19 rfl) (by decide) (W := 0) (by show 2 * 0 + _ ≤ _; exact Nat.le_of_eq rfl) (by decide) (cap := 4) (by decide) (by decide) (by decide)
  obtain ⟨b106, g106⟩ : ∃ z, z = h0.size := ⟨_, rfl⟩
  rw [← g106] at A106 Y106 st106
  have g107 : n0 ≤ b106 := Nat.le_trans Z0 (Nat.le_of_eq g106.symm)
  have z108 : h0.size ≤ b106 := Nat.le_trans K0.1 (Nat.le_of_eq g106.symm)
  have Z109 : n0 ≤ h106.size := Nat.le_trans Z0 E106.1
  have K110 := K0.ext E106
  have k111 : Rt p e below T106 (mkF m 10 #[sr a1, si 4, un] [vR b106]) s₁ m #[(.ref a1), (.int (4 : Int32))] 3 := fun t k => k105 t (st106 t k)
  obtain ⟨T112, X112, e112, st112⟩ := castY X106 hx hZ hown (hww 409 rfl) e106 (Ins.self Y106) (g := (mkF m 10 #[sr a1, si 4, un] [vR b106])) rfl rfl (H 20 rfl)
  have k113 : Rt p e below T112 (mkF m 13 #[sr a1, si 4, un] [vR b106]) s₁ m #[(.ref a1), (.int (4 : Int32))] 3 := fun t k => k111 t (st112 t k)
  exact fin_r X112 hx (w := (.ref b106)) hrt hlk rfl (Or.inr (Or.inr (Or.inr (Or.inr ⟨rfl, rfl, rfl⟩)))) k113 (H 21 rfl) (by rw [e112]; exact ⟨b106, k1, rfl, N0, K110, z108, A106⟩) (by decide) (by decide)
theorem ef_41_RII (m : MethodId) (x0 : Addr) (x1 : Int32) (x2 : Int32) : entryFrame m #[(.ref x0), (.int x1), (.int x2)] 6 = mkF m 0 #[.val (.ref x0), .val (.int x1), .val (.int x2), .unset, .unset, .unset] [] := by first | (simp [entryFrame, mkF, argsToLocals, Value.category]; done) | rfl
def Q_ins0 (Z : State) (a1 : Addr) (k1 : ClassId) (h0 : Heap) (n0 : Nat) (v : Option Value) (h : Heap) (L : List Loc) : Prop := v = none ∧ Fr n0 L ∧ Keep h0 h [a1] ∧ Arv Z h a1 k1 .int (0 : Int32) [] zI
theorem pn_java_2futil_2fDualPivotQuicksort : plainName "java/util/DualPivotQuicksort" = true := by first | (simp [plainName, overriddenIn]; done) | decide +kernel
theorem ins0 (l : Launch) (Z : State) (a0 : Array Value) (hw : HW Z a0) (ws : List Jvm.Cond) (a1 : Addr) (k1 : ClassId) (h0 : Heap) (n0 : Nat) (Z0 : n0 ≤ h0.size) (Fk0 : Arv Z h0 a1 k1 .int (0 : Int32) [] zI) (ge_a1 : n0 ≤ a1) :
    Met l mn54 jdk_2529_method_6_code 6 none ws (rm 0 0 0 0) #[(.ref a1), zI, zI] Z h0 (Q_ins0 Z a1 k1 h0 n0) := by
  refine Met.intro (plainFor_of_name pn_java_2futil_2fDualPivotQuicksort) ?_
  intro p e s m below meth c s₁ hx hby hml hZ hown hnm hrt hlk X0 e0
  have N0 := Fr.nil n0
  have hww := @hvw _ _ hw
  have k0 := k_e (p := p) (e := e) (below := below) (s := s₁) (ef_41_RII m a1 (0 : Int32) (0 : Int32))
  have K0 := Keep.refl h0 [a1]
  have H := @dch _ _ _ hby D41
  have k101 := f_ilN X0 hx k0 (H 0 rfl) rfl
  have k102 := f_is X0 hx k101 (H 1 rfl) (l' := #[sr a1, si 0, si 0, un, si 0, un]) rfl
  have k103 := f_inc X0 hx k102 (H 2 rfl) rfl (l' := #[sr a1, si 0, si 0, un, si 1, un]) rfl
  have k104 := f_il X0 hx k103 (H 3 rfl) rfl
  have k105 := f_ilN X0 hx k104 (H 4 rfl) rfl
  have k106 := f_icY X0 hx k105 (H 5 rfl) (pc' := 67) (flt (by decide)).2.1 (by decide)
  exact fin_v X0 hx hrt hlk k106 (H 6 rfl) (by rw [e0]; exact ⟨rfl, N0, K0, Fk0⟩) (by decide) (by decide)
theorem ef_40_nRIII (m : MethodId) (x1 : Addr) (x2 : Int32) (x3 : Int32) (x4 : Int32) : entryFrame m #[.null, (.ref x1), (.int x2), (.int x3), (.int x4)] 21 = mkF m 0 #[.val .null, .val (.ref x1), .val (.int x2), .val (.int x3), .val (.int x4), .unset, .unset, .unset, .unset, .unset, .unset, .unset, .unset, .unset, .unset, .unset, .unset, .unset, .unset, .unset, .unset] [] := by first | (simp [entryFrame, mkF, argsToLocals, Value.category]; done) | rfl
theorem pd__28_5bIII_29V : parseMethodDescriptor "([III)V" = some ⟨[(.array .int), .int, .int], none⟩ := by decide +kernel
def Q_dps0 (Z : State) (a1 : Addr) (k1 : ClassId) (h0 : Heap) (n0 : Nat) (v : Option Value) (h : Heap) (L : List Loc) : Prop := v = none ∧ Fr n0 L ∧ Keep h0 h [a1] ∧ Arv Z h a1 k1 .int (0 : Int32) [] zI
theorem dps0 (l : Launch) (Z : State) (a0 : Array Value) (hw : HW Z a0) (ws : List Jvm.Cond) (a1 : Addr) (k1 : ClassId) (h0 : Heap) (n0 : Nat) (Z0 : n0 ≤ h0.size) (Fk0 : Arv Z h0 a1 k1 .int (0 : Int32) [] zI) (ge_a1 : n0 ≤ a1) :
    Met l mn55 jdk_2529_method_4_code 21 none ws (rm 1 0 0 17) #[.null, (.ref a1), zI, zI, zI] Z h0 (Q_dps0 Z a1 k1 h0 n0) := by
  refine Met.intro (plainFor_of_name pn_java_2futil_2fDualPivotQuicksort) ?_
  intro p e s m below meth c s₁ hx hby hml hZ hown hnm hrt hlk X0 e0
  have N0 := Fr.nil n0
  have hww := @hvw _ _ hw
  have k0 := k_e (p := p) (e := e) (below := below) (s := s₁) (ef_40_nRIII m a1 (0 : Int32) (0 : Int32) (0 : Int32))
  have K0 := Keep.refl h0 [a1]
  have H := @dch _ _ _ hby D40
  have k101 := f_il X0 hx k0 (H 0 rfl) rfl
  have k102 := f_ic X0 hx k101 (H 1 rfl) (v := 1) rfl
  have k103 := f_isub X0 hx k102 (H 2 rfl) (r := (-1)) (by decide)
  have k104 := f_is X0 hx k103 (H 3 rfl) (l' := #[.val .null, sr a1, si 0, si 0, si 0, si (-1), un, un, un, un, un, un, un, un, un, un, un, un, un, un, un]) rfl
  have k105 := f_il X0 hx k104 (H 4 rfl) rfl
  have k106 := f_ilN X0 hx k105 (H 5 rfl) rfl
  have k107 := f_isub X0 hx k106 (H 6 rfl) (r := 0) (by decide)
  have k108 := f_is X0 hx k107 (H 7 rfl) (l' := #[.val .null, sr a1, si 0, si 0, si 0, si (-1), si 0, un, un, un, un, un, un, un, un, un, un, un, un, un, un]) rfl
  have k109 := f_il X0 hx k108 (H 8 rfl) rfl
  have k110 := f_bp X0 hx k109 (H 9 rfl) (v := 65) rfl
  have k111 := f_ilN X0 hx k110 (H 10 rfl) rfl
  have k112 := f_iadd X0 hx k111 (H 11 rfl) (r := 65) (by decide)
  have k113 := f_icN X0 hx k112 (H 12 rfl) (tlt (by decide)).2.1
  have k114 := f_ilN X0 hx k113 (H 13 rfl) rfl
  have k115 := f_ic X0 hx k114 (H 14 rfl) (v := 1) rfl
  have k116 := f_iand X0 hx k115 (H 15 rfl) (r := 0) (by decide)
  have k117 := f_ifY X0 hx k116 (H 16 rfl) (pc' := 46) ((if0 _ _).trans (flt (by decide)).2.2.2) (by decide)
  have k118 := f_il X0 hx k117 (H 17 rfl) rfl
  have k119 := f_bp X0 hx k118 (H 18 rfl) (v := 44) rfl
  have k120 := f_icN X0 hx k119 (H 19 rfl) (tlt (by decide)).2.1
  have k121 := f_alN X0 hx k120 (H 20 rfl) rfl
  have k122 := f_ilN X0 hx k121 (H 21 rfl) rfl
  have k123 := f_il X0 hx k122 (H 22 rfl) rfl
  obtain ⟨_, T124, L124, X124, hQ124, k124⟩ := c_S (W := 0) X0 hx hZ hown (hww 294 rfl) (hww 295 rfl) (hww 289 rfl) (hww 296 rfl) (by decide) (ins0 l Z a0 hw [] a1 k1 h0 n0 Z0 Fk0 ge_a1) e0 (argsL := [(.ref a1), zI, zI]) (rest := []) rfl (by rw [hml]; rfl) k123 rfl (H 23 rfl) (lenOf pd__28_5bIII_29V rfl) (b5 rfl)
  obtain ⟨h124, e124⟩ : ∃ h', T124.heap = h' := ⟨_, rfl⟩
  rw [e124] at hQ124
  obtain ⟨rfl, N124q, K124, R124_0⟩ := hQ124
  have N125 := Fr.app N0 N124q
  have Z126 : n0 ≤ h124.size := Nat.le_trans Z0 K124.1
  have K127 := Keep.trans K0 K124 (allS (oL 0 rfl) all0)
  exact fin_v X124 hx hrt hlk k124 (H 24 rfl) (by rw [e124]; exact ⟨rfl, N125, K127, R124_0⟩) (by decide) (by decide)
theorem ef_39_RIII (m : MethodId) (x0 : Addr) (x1 : Int32) (x2 : Int32) (x3 : Int32) : entryFrame m #[(.ref x0), (.int x1), (.int x2), (.int x3)] 7 = mkF m 0 #[.val (.ref x0), .val (.int x1), .val (.int x2), .val (.int x3), .unset, .unset, .unset] [] := by first | (simp [entryFrame, mkF, argsToLocals, Value.category]; done) | rfl
theorem pd__28Ljava_2futil_2fDualPivotQuicksort_24Sorter_3b_5bIIII_29V : parseMethodDescriptor "(Ljava/util/DualPivotQuicksort$Sorter;[IIII)V" = some ⟨[(.object "java/util/DualPivotQuicksort$Sorter"), (.array .int), .int, .int, .int], none⟩ := by decide +kernel
def Q_dpq0 (Z : State) (a1 : Addr) (k1 : ClassId) (h0 : Heap) (n0 : Nat) (v : Option Value) (h : Heap) (L : List Loc) : Prop := v = none ∧ Fr n0 L ∧ Keep h0 h [a1] ∧ Arv Z h a1 k1 .int (0 : Int32) [] zI
theorem dpq0 (l : Launch) (Z : State) (a0 : Array Value) (hw : HW Z a0) (ws : List Jvm.Cond) (a1 : Addr) (k1 : ClassId) (h0 : Heap) (n0 : Nat) (Z0 : n0 ≤ h0.size) (Fk0 : Arv Z h0 a1 k1 .int (0 : Int32) [] zI) (ge_a1 : n0 ≤ a1) :
    Met l mn56 jdk_2529_method_3_code 7 none ws (rm 2 0 0 49) #[(.ref a1), zI, zI, zI] Z h0 (Q_dpq0 Z a1 k1 h0 n0) := by
  refine Met.intro (plainFor_of_name pn_java_2futil_2fDualPivotQuicksort) ?_
  intro p e s m below meth c s₁ hx hby hml hZ hown hnm hrt hlk X0 e0
  have N0 := Fr.nil n0
  have hww := @hvw _ _ hw
  have k0 := k_e (p := p) (e := e) (below := below) (s := s₁) (ef_39_RIII m a1 (0 : Int32) (0 : Int32) (0 : Int32))
  have K0 := Keep.refl h0 [a1]
  have H := @dch _ _ _ hby D39
  have k101 := f_ilN X0 hx k0 (H 0 rfl) rfl
  have k102 := f_ilN X0 hx k101 (H 1 rfl) rfl
  have k103 := f_isub X0 hx k102 (H 2 rfl) (r := 0) (by decide)
  have k104 := f_is X0 hx k103 (H 3 rfl) (l' := #[sr a1, si 0, si 0, si 0, si 0, un, un]) rfl
  have k105 := f_ilN X0 hx k104 (H 4 rfl) rfl
  have k106 := f_ic X0 hx k105 (H 5 rfl) (v := 1) rfl
  have k107 := f_icY X0 hx k106 (H 6 rfl) (pc' := 68) (flt (by decide)).2.2.2 (by decide)
  have k108 := f_an X0 hx k107 (H 7 rfl)
  have k109 := f_alN X0 hx k108 (H 8 rfl) rfl
  have k110 := f_ic X0 hx k109 (H 9 rfl) (v := 0) rfl
  have k111 := f_ilN X0 hx k110 (H 10 rfl) rfl
  have k112 := f_ilN X0 hx k111 (H 11 rfl) rfl
  obtain ⟨_, T113, L113, X113, hQ113, k113⟩ := c_S (W := 0) X0 hx hZ hown (hww 291 rfl) (hww 292 rfl) (hww 289 rfl) (hww 293 rfl) (by decide) (dps0 l Z a0 hw [] a1 k1 h0 n0 Z0 Fk0 ge_a1) e0 (argsL := [.null, (.ref a1), zI, zI, zI]) (rest := []) rfl (by rw [hml]; rfl) k112 rfl (H 12 rfl) (lenOf pd__28Ljava_2futil_2fDualPivotQuicksort_24Sorter_3b_5bIIII_29V rfl) (b5 rfl)
  obtain ⟨h113, e113⟩ : ∃ h', T113.heap = h' := ⟨_, rfl⟩
  rw [e113] at hQ113
  obtain ⟨rfl, N113q, K113, R113_0⟩ := hQ113
  have N114 := Fr.app N0 N113q
  have Z115 : n0 ≤ h113.size := Nat.le_trans Z0 K113.1
  have K116 := Keep.trans K0 K113 (allS (oL 0 rfl) all0)
  exact fin_v X113 hx hrt hlk k113 (H 13 rfl) (by rw [e113]; exact ⟨rfl, N114, K116, R113_0⟩) (by decide) (by decide)
theorem ef_38_R (m : MethodId) (x0 : Addr) : entryFrame m #[(.ref x0)] 1 = mkF m 0 #[.val (.ref x0)] [] := by first | (simp [entryFrame, mkF, argsToLocals, Value.category]; done) | rfl
theorem pd__28_5bIIII_29V : parseMethodDescriptor "([IIII)V" = some ⟨[(.array .int), .int, .int, .int], none⟩ := by decide +kernel
def Q_srt0 (Z : State) (a1 : Addr) (k1 : ClassId) (h0 : Heap) (n0 : Nat) (v : Option Value) (h : Heap) (L : List Loc) : Prop := v = none ∧ Fr n0 L ∧ Keep h0 h [a1] ∧ Arv Z h a1 k1 .int (0 : Int32) [] zI
theorem srt0 (l : Launch) (Z : State) (a0 : Array Value) (hw : HW Z a0) (ws : List Jvm.Cond) (a1 : Addr) (k1 : ClassId) (h0 : Heap) (n0 : Nat) (Z0 : n0 ≤ h0.size) (Fk0 : Arv Z h0 a1 k1 .int (0 : Int32) [] zI) (ge_a1 : n0 ≤ a1) :
    Met l mn57 jdk_65_method_2_code 1 none ws (rm 3 0 0 67) #[(.ref a1)] Z h0 (Q_srt0 Z a1 k1 h0 n0) := by
  refine Met.intro (plainFor_of_name pn_java_2futil_2fArrays) ?_
  intro p e s m below meth c s₁ hx hby hml hZ hown hnm hrt hlk X0 e0
  have N0 := Fr.nil n0
  have hww := @hvw _ _ hw
  have k0 := k_e (p := p) (e := e) (below := below) (s := s₁) (ef_38_R m a1)
  have K0 := Keep.refl h0 [a1]
  have H := @dch _ _ _ hby D38
  have k101 := f_alN X0 hx k0 (H 0 rfl) rfl
  have k102 := f_ic X0 hx k101 (H 1 rfl) (v := 0) rfl
  have k103 := f_ic X0 hx k102 (H 2 rfl) (v := 0) rfl
  have k104 := f_alN X0 hx k103 (H 3 rfl) rfl
  have k105 := f_len X0 hx hZ e0 Fk0 k104 (H 4 rfl)
  obtain ⟨_, T106, L106, X106, hQ106, k106⟩ := c_S (W := 0) X0 hx hZ hown (hww 287 rfl) (hww 288 rfl) (hww 289 rfl) (hww 290 rfl) (by decide) (dpq0 l Z a0 hw [] a1 k1 h0 n0 Z0 Fk0 ge_a1) e0 (argsL := [(.ref a1), zI, zI, zI]) (rest := []) rfl (by rw [hml]; rfl) k105 rfl (H 5 rfl) (lenOf pd__28_5bIIII_29V rfl) (b5 rfl)
  obtain ⟨h106, e106⟩ : ∃ h', T106.heap = h' := ⟨_, rfl⟩
  rw [e106] at hQ106
  obtain ⟨rfl, N106q, K106, R106_0⟩ := hQ106
  have N107 := Fr.app N0 N106q
  have Z108 : n0 ≤ h106.size := Nat.le_trans Z0 K106.1
  have K109 := Keep.trans K0 K106 (allS (oL 0 rfl) all0)
  exact fin_v X106 hx hrt hlk k106 (H 6 rfl) (by rw [e106]; exact ⟨rfl, N107, K109, R106_0⟩) (by decide) (by decide)
def Q_ins1 (Z : State) (a1 : Addr) (k1 : ClassId) (q0 : Int32) (h0 : Heap) (n0 : Nat) (v : Option Value) (h : Heap) (L : List Loc) : Prop := ∃ (r0 : Int32), v = none ∧ Fr n0 L ∧ Keep h0 h [a1] ∧ Arv Z h a1 k1 .int (1 : Int32) [(.int r0)] zI
theorem ins1 (l : Launch) (Z : State) (a0 : Array Value) (hw : HW Z a0) (ws : List Jvm.Cond) (a1 : Addr) (k1 : ClassId) (q0 : Int32) (h0 : Heap) (n0 : Nat) (Z0 : n0 ≤ h0.size) (Fk0 : Arv Z h0 a1 k1 .int (1 : Int32) [(.int q0)] zI) (ge_a1 : n0 ≤ a1) :
    Met l mn54 jdk_2529_method_6_code 6 none ws (rm 0 0 0 0) #[(.ref a1), zI, (.int (1 : Int32))] Z h0 (Q_ins1 Z a1 k1 q0 h0 n0) := by
  refine Met.intro (plainFor_of_name pn_java_2futil_2fDualPivotQuicksort) ?_
  intro p e s m below meth c s₁ hx hby hml hZ hown hnm hrt hlk X0 e0
  have N0 := Fr.nil n0
  have hww := @hvw _ _ hw
  have k0 := k_e (p := p) (e := e) (below := below) (s := s₁) (ef_41_RII m a1 (0 : Int32) (1 : Int32))
  have K0 := Keep.refl h0 [a1]
  have H := @dch _ _ _ hby D41
  have k101 := f_ilN X0 hx k0 (H 0 rfl) rfl
  have k102 := f_is X0 hx k101 (H 1 rfl) (l' := #[sr a1, si 0, si 1, un, si 0, un]) rfl
  have k103 := f_inc X0 hx k102 (H 2 rfl) rfl (l' := #[sr a1, si 0, si 1, un, si 1, un]) rfl
  have k104 := f_il X0 hx k103 (H 3 rfl) rfl
  have k105 := f_ilN X0 hx k104 (H 4 rfl) rfl
  have k106 := f_icY X0 hx k105 (H 5 rfl) (pc' := 67) (flt (by decide)).2.1 (by decide)
  exact fin_v X0 hx hrt hlk k106 (H 6 rfl) (by rw [e0]; exact ⟨q0, rfl, N0, K0, Fk0⟩) (by decide) (by decide)
def Q_dps1 (Z : State) (a1 : Addr) (k1 : ClassId) (q0 : Int32) (h0 : Heap) (n0 : Nat) (v : Option Value) (h : Heap) (L : List Loc) : Prop := ∃ (r0 : Int32), v = none ∧ Fr n0 L ∧ Keep h0 h [a1] ∧ Arv Z h a1 k1 .int (1 : Int32) [(.int r0)] zI
theorem dps1 (l : Launch) (Z : State) (a0 : Array Value) (hw : HW Z a0) (ws : List Jvm.Cond) (a1 : Addr) (k1 : ClassId) (q0 : Int32) (h0 : Heap) (n0 : Nat) (Z0 : n0 ≤ h0.size) (Fk0 : Arv Z h0 a1 k1 .int (1 : Int32) [(.int q0)] zI) (ge_a1 : n0 ≤ a1) :
    Met l mn55 jdk_2529_method_4_code 21 none ws (rm 1 0 0 17) #[.null, (.ref a1), zI, zI, (.int (1 : Int32))] Z h0 (Q_dps1 Z a1 k1 q0 h0 n0) := by
  refine Met.intro (plainFor_of_name pn_java_2futil_2fDualPivotQuicksort) ?_
  intro p e s m below meth c s₁ hx hby hml hZ hown hnm hrt hlk X0 e0
  have N0 := Fr.nil n0
  have hww := @hvw _ _ hw
  have k0 := k_e (p := p) (e := e) (below := below) (s := s₁) (ef_40_nRIII m a1 (0 : Int32) (0 : Int32) (1 : Int32))
  have K0 := Keep.refl h0 [a1]
  have H := @dch _ _ _ hby D40
  have k101 := f_il X0 hx k0 (H 0 rfl) rfl
  have k102 := f_ic X0 hx k101 (H 1 rfl) (v := 1) rfl
  have k103 := f_isub X0 hx k102 (H 2 rfl) (r := 0) (by decide)
  have k104 := f_is X0 hx k103 (H 3 rfl) (l' := #[.val .null, sr a1, si 0, si 0, si 1, si 0, un, un, un, un, un, un, un, un, un, un, un, un, un, un, un]) rfl
  have k105 := f_il X0 hx k104 (H 4 rfl) rfl
  have k106 := f_ilN X0 hx k105 (H 5 rfl) rfl
  have k107 := f_isub X0 hx k106 (H 6 rfl) (r := 1) (by decide)
  have k108 := f_is X0 hx k107 (H 7 rfl) (l' := #[.val .null, sr a1, si 0, si 0, si 1, si 0, si 1, un, un, un, un, un, un, un, un, un, un, un, un, un, un]) rfl
  have k109 := f_il X0 hx k108 (H 8 rfl) rfl
  have k110 := f_bp X0 hx k109 (H 9 rfl) (v := 65) rfl
  have k111 := f_ilN X0 hx k110 (H 10 rfl) rfl
  have k112 := f_iadd X0 hx k111 (H 11 rfl) (r := 65) (by decide)
  have k113 := f_icN X0 hx k112 (H 12 rfl) (tlt (by decide)).2.1
  have k114 := f_ilN X0 hx k113 (H 13 rfl) rfl
  have k115 := f_ic X0 hx k114 (H 14 rfl) (v := 1) rfl
  have k116 := f_iand X0 hx k115 (H 15 rfl) (r := 0) (by decide)
  have k117 := f_ifY X0 hx k116 (H 16 rfl) (pc' := 46) ((if0 _ _).trans (flt (by decide)).2.2.2) (by decide)
  have k118 := f_il X0 hx k117 (H 17 rfl) rfl
  have k119 := f_bp X0 hx k118 (H 18 rfl) (v := 44) rfl
  have k120 := f_icN X0 hx k119 (H 19 rfl) (tlt (by decide)).2.1
  have k121 := f_alN X0 hx k120 (H 20 rfl) rfl
  have k122 := f_ilN X0 hx k121 (H 21 rfl) rfl
  have k123 := f_il X0 hx k122 (H 22 rfl) rfl
  obtain ⟨_, T124, L124, X124, hQ124, k124⟩ := c_S (W := 0) X0 hx hZ hown (hww 294 rfl) (hww 295 rfl) (hww 289 rfl) (hww 296 rfl) (by decide) (ins1 l Z a0 hw [] a1 k1 q0 h0 n0 Z0 Fk0 ge_a1) e0 (argsL := [(.ref a1), zI, (.int (1 : Int32))]) (rest := []) rfl (by rw [hml]; rfl) k123 rfl (H 23 rfl) (lenOf pd__28_5bIII_29V rfl) (b5 rfl)
  obtain ⟨h124, e124⟩ : ∃ h', T124.heap = h' := ⟨_, rfl⟩
  rw [e124] at hQ124
  obtain ⟨r0124, rfl, N124q, K124, R124_0⟩ := hQ124
  have N125 := Fr.app N0 N124q
  have Z126 : n0 ≤ h124.size := Nat.le_trans Z0 K124.1
  have K127 := Keep.trans K0 K124 (allS (oL 0 rfl) all0)
  exact fin_v X124 hx hrt hlk k124 (H 24 rfl) (by rw [e124]; exact ⟨r0124, rfl, N125, K127, R124_0⟩) (by decide) (by decide)
def Q_dpq1 (Z : State) (a1 : Addr) (k1 : ClassId) (q0 : Int32) (h0 : Heap) (n0 : Nat) (v : Option Value) (h : Heap) (L : List Loc) : Prop := ∃ (r0 : Int32), v = none ∧ Fr n0 L ∧ Keep h0 h [a1] ∧ Arv Z h a1 k1 .int (1 : Int32) [(.int r0)] zI
theorem dpq1 (l : Launch) (Z : State) (a0 : Array Value) (hw : HW Z a0) (ws : List Jvm.Cond) (a1 : Addr) (k1 : ClassId) (q0 : Int32) (h0 : Heap) (n0 : Nat) (Z0 : n0 ≤ h0.size) (Fk0 : Arv Z h0 a1 k1 .int (1 : Int32) [(.int q0)] zI) (ge_a1 : n0 ≤ a1) :
    Met l mn56 jdk_2529_method_3_code 7 none ws (rm 2 0 0 49) #[(.ref a1), zI, zI, (.int (1 : Int32))] Z h0 (Q_dpq1 Z a1 k1 q0 h0 n0) := by
  refine Met.intro (plainFor_of_name pn_java_2futil_2fDualPivotQuicksort) ?_
  intro p e s m below meth c s₁ hx hby hml hZ hown hnm hrt hlk X0 e0
  have N0 := Fr.nil n0
  have hww := @hvw _ _ hw
  have k0 := k_e (p := p) (e := e) (below := below) (s := s₁) (ef_39_RIII m a1 (0 : Int32) (0 : Int32) (1 : Int32))
  have K0 := Keep.refl h0 [a1]
  have H := @dch _ _ _ hby D39
  have k101 := f_ilN X0 hx k0 (H 0 rfl) rfl
  have k102 := f_ilN X0 hx k101 (H 1 rfl) rfl
  have k103 := f_isub X0 hx k102 (H 2 rfl) (r := 1) (by decide)
  have k104 := f_is X0 hx k103 (H 3 rfl) (l' := #[sr a1, si 0, si 0, si 1, si 1, un, un]) rfl
  have k105 := f_ilN X0 hx k104 (H 4 rfl) rfl
  have k106 := f_ic X0 hx k105 (H 5 rfl) (v := 1) rfl
  have k107 := f_icY X0 hx k106 (H 6 rfl) (pc' := 68) (flt (by decide)).2.2.2 (by decide)
  have k108 := f_an X0 hx k107 (H 7 rfl)
  have k109 := f_alN X0 hx k108 (H 8 rfl) rfl
  have k110 := f_ic X0 hx k109 (H 9 rfl) (v := 0) rfl
  have k111 := f_ilN X0 hx k110 (H 10 rfl) rfl
  have k112 := f_ilN X0 hx k111 (H 11 rfl) rfl
  obtain ⟨_, T113, L113, X113, hQ113, k113⟩ := c_S (W := 0) X0 hx hZ hown (hww 291 rfl) (hww 292 rfl) (hww 289 rfl) (hww 293 rfl) (by decide) (dps1 l Z a0 hw [] a1 k1 q0 h0 n0 Z0 Fk0 ge_a1) e0 (argsL := [.null, (.ref a1), zI, zI, (.int (1 : Int32))]) (rest := []) rfl (by rw [hml]; rfl) k112 rfl (H 12 rfl) (lenOf pd__28Ljava_2futil_2fDualPivotQuicksort_24Sorter_3b_5bIIII_29V rfl) (b5 rfl)
  obtain ⟨h113, e113⟩ : ∃ h', T113.heap = h' := ⟨_, rfl⟩
  rw [e113] at hQ113
  obtain ⟨r0113, rfl, N113q, K113, R113_0⟩ := hQ113
  have N114 := Fr.app N0 N113q
  have Z115 : n0 ≤ h113.size := Nat.le_trans Z0 K113.1
  have K116 := Keep.trans K0 K113 (allS (oL 0 rfl) all0)
  exact fin_v X113 hx hrt hlk k113 (H 13 rfl) (by rw [e113]; exact ⟨r0113, rfl, N114, K116, R113_0⟩) (by decide) (by decide)
def Q_srt1 (Z : State) (a1 : Addr) (k1 : ClassId) (q0 : Int32) (h0 : Heap) (n0 : Nat) (v : Option Value) (h : Heap) (L : List Loc) : Prop := ∃ (r0 : Int32), v = none ∧ Fr n0 L ∧ Keep h0 h [a1] ∧ Arv Z h a1 k1 .int (1 : Int32) [(.int r0)] zI
theorem srt1 (l : Launch) (Z : State) (a0 : Array Value) (hw : HW Z a0) (ws : List Jvm.Cond) (a1 : Addr) (k1 : ClassId) (q0 : Int32) (h0 : Heap) (n0 : Nat) (Z0 : n0 ≤ h0.size) (Fk0 : Arv Z h0 a1 k1 .int (1 : Int32) [(.int q0)] zI) (ge_a1 : n0 ≤ a1) :
    Met l mn57 jdk_65_method_2_code 1 none ws (rm 3 0 0 67) #[(.ref a1)] Z h0 (Q_srt1 Z a1 k1 q0 h0 n0) := by
  refine Met.intro (plainFor_of_name pn_java_2futil_2fArrays) ?_
  intro p e s m below meth c s₁ hx hby hml hZ hown hnm hrt hlk X0 e0
  have N0 := Fr.nil n0
  have hww := @hvw _ _ hw
  have k0 := k_e (p := p) (e := e) (below := below) (s := s₁) (ef_38_R m a1)
  have K0 := Keep.refl h0 [a1]
  have H := @dch _ _ _ hby D38
  have k101 := f_alN X0 hx k0 (H 0 rfl) rfl
  have k102 := f_ic X0 hx k101 (H 1 rfl) (v := 0) rfl
  have k103 := f_ic X0 hx k102 (H 2 rfl) (v := 0) rfl
  have k104 := f_alN X0 hx k103 (H 3 rfl) rfl
  have k105 := f_len X0 hx hZ e0 Fk0 k104 (H 4 rfl)
  obtain ⟨_, T106, L106, X106, hQ106, k106⟩ := c_S (W := 0) X0 hx hZ hown (hww 287 rfl) (hww 288 rfl) (hww 289 rfl) (hww 290 rfl) (by decide) (dpq1 l Z a0 hw [] a1 k1 q0 h0 n0 Z0 Fk0 ge_a1) e0 (argsL := [(.ref a1), zI, zI, (.int (1 : Int32))]) (rest := []) rfl (by rw [hml]; rfl) k105 rfl (H 5 rfl) (lenOf pd__28_5bIIII_29V rfl) (b5 rfl)
  obtain ⟨h106, e106⟩ : ∃ h', T106.heap = h' := ⟨_, rfl⟩
  rw [e106] at hQ106
  obtain ⟨r0106, rfl, N106q, K106, R106_0⟩ := hQ106
  have N107 := Fr.app N0 N106q
  have Z108 : n0 ≤ h106.size := Nat.le_trans Z0 K106.1
  have K109 := Keep.trans K0 K106 (allS (oL 0 rfl) all0)
  exact fin_v X106 hx hrt hlk k106 (H 6 rfl) (by rw [e106]; exact ⟨r0106, rfl, N107, K109, R106_0⟩) (by decide) (by decide)
def Q_ins2 (Z : State) (a1 : Addr) (k1 : ClassId) (q0 q1 : Int32) (h0 : Heap) (n0 : Nat) (v : Option Value) (h : Heap) (L : List Loc) : Prop := ∃ (r0 : Int32) (r1 : Int32), v = none ∧ Fr n0 L ∧ Keep h0 h [a1] ∧ Arv Z h a1 k1 .int (2 : Int32) [(.int r0), (.int r1)] zI
theorem ins2 (l : Launch) (Z : State) (a0 : Array Value) (hw : HW Z a0) (ws : List Jvm.Cond) (a1 : Addr) (k1 : ClassId) (q0 q1 : Int32) (h0 : Heap) (n0 : Nat) (Z0 : n0 ≤ h0.size) (Fk0 : Arv Z h0 a1 k1 .int (2 : Int32) [(.int q0), (.int q1)] zI) (ge_a1 : n0 ≤ a1) :
    Met l mn54 jdk_2529_method_6_code 6 none ws (rm 0 0 0 0) #[(.ref a1), zI, (.int (2 : Int32))] Z h0 (Q_ins2 Z a1 k1 q0 q1 h0 n0) := by
  refine Met.intro (plainFor_of_name pn_java_2futil_2fDualPivotQuicksort) ?_
  intro p e s m below meth c s₁ hx hby hml hZ hown hnm hrt hlk X0 e0
  have N0 := Fr.nil n0
  have hww := @hvw _ _ hw
  have k0 := k_e (p := p) (e := e) (below := below) (s := s₁) (ef_41_RII m a1 (0 : Int32) (2 : Int32))
  have K0 := Keep.refl h0 [a1]
  have H := @dch _ _ _ hby D41
  have k101 := f_ilN X0 hx k0 (H 0 rfl) rfl
  have k102 := f_is X0 hx k101 (H 1 rfl) (l' := #[sr a1, si 0, si 2, un, si 0, un]) rfl
  have k103 := f_inc X0 hx k102 (H 2 rfl) rfl (l' := #[sr a1, si 0, si 2, un, si 1, un]) rfl
  have k104 := f_il X0 hx k103 (H 3 rfl) rfl
  have k105 := f_ilN X0 hx k104 (H 4 rfl) rfl
  have k106 := f_icN X0 hx k105 (H 5 rfl) (tlt (by decide)).2.1
  have k107 := f_alN X0 hx k106 (H 7 rfl) rfl
  have k108 := f_il X0 hx k107 (H 8 rfl) rfl
  have k109 := f_dup X0 hx k108 (H 9 rfl) rfl
  have k110 := f_isN X0 hx k109 (H 10 rfl) (l' := #[sr a1, si 0, si 2, si 1, si 1, un]) rfl
  have k111 := f_ial X0 hx hZ e0 Fk0 k110 (H 11 rfl) (v := q1) (by decide) rfl
  have k112 := f_is X0 hx k111 (H 12 rfl) (l' := #[sr a1, si 0, si 2, si 1, si 1, si q1]) rfl
  have k113 := f_il X0 hx k112 (H 13 rfl) rfl
  have k114 := f_alN X0 hx k113 (H 14 rfl) rfl
  have k115 := f_ilN X0 hx k114 (H 15 rfl) rfl
  have k116 := f_ic X0 hx k115 (H 16 rfl) (v := 1) rfl
  have k117 := f_isub X0 hx k116 (H 17 rfl) (r := 0) (by decide)
  have k118 := f_ial X0 hx hZ e0 Fk0 k117 (H 18 rfl) (v := q0) (by decide) rfl
  obtain ⟨T119, h119, Ls119, t10, t11, ix1, X119, e119, N119, Zq119, F154, F155, kq119⟩ : ∃ (T119 : State) (h119 : Heap) (Ls119 : List Loc) (t10 : Int32) (t11 : Int32) (ix1 : Int32), Stand p l e (rm 0 0 0 0) s m #[(.ref a1), zI, (.int (2 : Int32))] below meth c T119 Ls119 0 0 ∧ T119.heap = h119 ∧ Fr n0 Ls119 ∧ n0 ≤ h119.size ∧ Arv Z h119 a1 k1 .int (2 : Int32) [(.int t10), (.int t11)] zI ∧ Keep h0 h119 [a1] ∧ (Rt p e below T119 (mkF m 3 #[sr a1, si 0, si 2, si ix1, si 1, si q1] []) s₁ m #[(.ref a1), zI, (.int (2 : Int32))] 6) := by
    by_cases qz : q1 < q0
    · have k120 := f_icN X0 hx k118 (H 19 rfl) (tlt qz).2.1
      have k121 := f_inc X0 hx k120 (H 20 rfl) rfl (l' := #[sr a1, si 0, si 2, si 0, si 1, si q1]) rfl
      have k122 := f_ilN X0 hx k121 (H 21 rfl) rfl
      have k123 := f_ilN X0 hx k122 (H 22 rfl) rfl
      have k124 := f_icN X0 hx k123 (H 23 rfl) (flt (by decide)).1
      have k125 := f_il X0 hx k124 (H 24 rfl) rfl
      have k126 := f_alN X0 hx k125 (H 25 rfl) rfl
      have k127 := f_ilN X0 hx k126 (H 26 rfl) rfl
      have k128 := f_ial X0 hx hZ e0 Fk0 k127 (H 27 rfl) (v := q0) (by decide) rfl
      have k129 := f_icN X0 hx k128 (H 28 rfl) (tlt qz).2.1
      have k130 := f_alN X0 hx k129 (H 29 rfl) rfl
      have k131 := f_ilN X0 hx k130 (H 30 rfl) rfl
      have k132 := f_ic X0 hx k131 (H 31 rfl) (v := 1) rfl
      have k133 := f_iadd X0 hx k132 (H 32 rfl) (r := 1) (by decide)
      have k134 := f_alN X0 hx k133 (H 33 rfl) rfl
      have k135 := f_ilN X0 hx k134 (H 34 rfl) rfl
      have k136 := f_ial X0 hx hZ e0 Fk0 k135 (H 35 rfl) (v := q0) (by decide) rfl
      obtain ⟨T137, h137, L137, X137, e137, W137, V137, N137, Z137, k137⟩ := f_ist X0 hx hZ e0 Fk0 N0 ge_a1 Z0 k136 (H 36 rfl) (by decide) 1 rfl (lt_b rfl)
      have K138 := kw K0 W137 0 rfl
      have k139 := f_go X137 hx k137 (H 37 rfl) (pc' := 30) (by decide)
      have k140 := f_inc X137 hx k139 (H 20 rfl) rfl (l' := #[sr a1, si 0, si 2, si (-1), si 1, si q1]) rfl
      have k141 := f_ilN X137 hx k140 (H 21 rfl) rfl
      have k142 := f_ilN X137 hx k141 (H 22 rfl) rfl
      have k143 := f_icY X137 hx k142 (H 23 rfl) (pc' := 57) (tlt (by decide)).1 (by decide)
      have k144 := f_alN X137 hx k143 (H 38 rfl) rfl
      have k145 := f_ilN X137 hx k144 (H 39 rfl) rfl
      have k146 := f_ic X137 hx k145 (H 40 rfl) (v := 1) rfl
      have k147 := f_iadd X137 hx k146 (H 41 rfl) (r := 0) (by decide)
      have k148 := f_il X137 hx k147 (H 42 rfl) rfl
      obtain ⟨T149, h149, L149, X149, e149, W149, V149, N149, Z149, k149⟩ := f_ist X137 hx hZ e137 V137 N137 ge_a1 Z137 k148 (H 43 rfl) (by decide) 0 rfl (lt_b rfl)
      have K150 := kw K138 W149 0 rfl
      have k151 := f_go X149 hx k149 (H 44 rfl) (pc' := 3) (by decide)
      exact ⟨T149, h149, _, q1, q0, (-1 : Int32), X149, e149, N149, Z149, V149, K150, k151⟩
    · have k152 := f_icY X0 hx k118 (H 19 rfl) (pc' := 64) (flt qz).2.1 (by decide)
      have k153 := f_go X0 hx k152 (H 44 rfl) (pc' := 3) (by decide)
      exact ⟨s₁, h0, _, q0, q1, (1 : Int32), X0, e0, N0, Z0, Fk0, K0, k153⟩
  have k156 := f_inc X119 hx kq119 (H 2 rfl) rfl (l' := #[sr a1, si 0, si 2, si ix1, si 2, si q1]) rfl
  have k157 := f_il X119 hx k156 (H 3 rfl) rfl
  have k158 := f_ilN X119 hx k157 (H 4 rfl) rfl
  have k159 := f_icY X119 hx k158 (H 5 rfl) (pc' := 67) (flt (by decide)).2.1 (by decide)
  exact fin_v X119 hx hrt hlk k159 (H 6 rfl) (by rw [e119]; exact ⟨t10, t11, rfl, N119, F155, F154⟩) (by decide) (by decide)
def Q_dps2 (Z : State) (a1 : Addr) (k1 : ClassId) (q0 q1 : Int32) (h0 : Heap) (n0 : Nat) (v : Option Value) (h : Heap) (L : List Loc) : Prop := ∃ (r0 : Int32) (r1 : Int32), v = none ∧ Fr n0 L ∧ Keep h0 h [a1] ∧ Arv Z h a1 k1 .int (2 : Int32) [(.int r0), (.int r1)] zI
theorem dps2 (l : Launch) (Z : State) (a0 : Array Value) (hw : HW Z a0) (ws : List Jvm.Cond) (a1 : Addr) (k1 : ClassId) (q0 q1 : Int32) (h0 : Heap) (n0 : Nat) (Z0 : n0 ≤ h0.size) (Fk0 : Arv Z h0 a1 k1 .int (2 : Int32) [(.int q0), (.int q1)] zI) (ge_a1 : n0 ≤ a1) :
    Met l mn55 jdk_2529_method_4_code 21 none ws (rm 1 0 0 17) #[.null, (.ref a1), zI, zI, (.int (2 : Int32))] Z h0 (Q_dps2 Z a1 k1 q0 q1 h0 n0) := by
  refine Met.intro (plainFor_of_name pn_java_2futil_2fDualPivotQuicksort) ?_
  intro p e s m below meth c s₁ hx hby hml hZ hown hnm hrt hlk X0 e0
  have N0 := Fr.nil n0
  have hww := @hvw _ _ hw
  have k0 := k_e (p := p) (e := e) (below := below) (s := s₁) (ef_40_nRIII m a1 (0 : Int32) (0 : Int32) (2 : Int32))
  have K0 := Keep.refl h0 [a1]
  have H := @dch _ _ _ hby D40
  have k101 := f_il X0 hx k0 (H 0 rfl) rfl
  have k102 := f_ic X0 hx k101 (H 1 rfl) (v := 1) rfl
  have k103 := f_isub X0 hx k102 (H 2 rfl) (r := 1) (by decide)
  have k104 := f_is X0 hx k103 (H 3 rfl) (l' := #[.val .null, sr a1, si 0, si 0, si 2, si 1, un, un, un, un, un, un, un, un, un, un, un, un, un, un, un]) rfl
  have k105 := f_il X0 hx k104 (H 4 rfl) rfl
  have k106 := f_ilN X0 hx k105 (H 5 rfl) rfl
  have k107 := f_isub X0 hx k106 (H 6 rfl) (r := 2) (by decide)
  have k108 := f_is X0 hx k107 (H 7 rfl) (l' := #[.val .null, sr a1, si 0, si 0, si 2, si 1, si 2, un, un, un, un, un, un, un, un, un, un, un, un, un, un]) rfl
  have k109 := f_il X0 hx k108 (H 8 rfl) rfl
  have k110 := f_bp X0 hx k109 (H 9 rfl) (v := 65) rfl
  have k111 := f_ilN X0 hx k110 (H 10 rfl) rfl
  have k112 := f_iadd X0 hx k111 (H 11 rfl) (r := 65) (by decide)
  have k113 := f_icN X0 hx k112 (H 12 rfl) (tlt (by decide)).2.1
  have k114 := f_ilN X0 hx k113 (H 13 rfl) rfl
  have k115 := f_ic X0 hx k114 (H 14 rfl) (v := 1) rfl
  have k116 := f_iand X0 hx k115 (H 15 rfl) (r := 0) (by decide)
  have k117 := f_ifY X0 hx k116 (H 16 rfl) (pc' := 46) ((if0 _ _).trans (flt (by decide)).2.2.2) (by decide)
  have k118 := f_il X0 hx k117 (H 17 rfl) rfl
  have k119 := f_bp X0 hx k118 (H 18 rfl) (v := 44) rfl
  have k120 := f_icN X0 hx k119 (H 19 rfl) (tlt (by decide)).2.1
  have k121 := f_alN X0 hx k120 (H 20 rfl) rfl
  have k122 := f_ilN X0 hx k121 (H 21 rfl) rfl
  have k123 := f_il X0 hx k122 (H 22 rfl) rfl
  obtain ⟨_, T124, L124, X124, hQ124, k124⟩ := c_S (W := 0) X0 hx hZ hown (hww 294 rfl) (hww 295 rfl) (hww 289 rfl) (hww 296 rfl) (by decide) (ins2 l Z a0 hw [] a1 k1 q0 q1 h0 n0 Z0 Fk0 ge_a1) e0 (argsL := [(.ref a1), zI, (.int (2 : Int32))]) (rest := []) rfl (by rw [hml]; rfl) k123 rfl (H 23 rfl) (lenOf pd__28_5bIII_29V rfl) (b5 rfl)
  obtain ⟨h124, e124⟩ : ∃ h', T124.heap = h' := ⟨_, rfl⟩
  rw [e124] at hQ124
  obtain ⟨r0124, r1124, rfl, N124q, K124, R124_0⟩ := hQ124
  have N125 := Fr.app N0 N124q
  have Z126 : n0 ≤ h124.size := Nat.le_trans Z0 K124.1
  have K127 := Keep.trans K0 K124 (allS (oL 0 rfl) all0)
  exact fin_v X124 hx hrt hlk k124 (H 24 rfl) (by rw [e124]; exact ⟨r0124, r1124, rfl, N125, K127, R124_0⟩) (by decide) (by decide)
def Q_dpq2 (Z : State) (a1 : Addr) (k1 : ClassId) (q0 q1 : Int32) (h0 : Heap) (n0 : Nat) (v : Option Value) (h : Heap) (L : List Loc) : Prop := ∃ (r0 : Int32) (r1 : Int32), v = none ∧ Fr n0 L ∧ Keep h0 h [a1] ∧ Arv Z h a1 k1 .int (2 : Int32) [(.int r0), (.int r1)] zI
theorem dpq2 (l : Launch) (Z : State) (a0 : Array Value) (hw : HW Z a0) (ws : List Jvm.Cond) (a1 : Addr) (k1 : ClassId) (q0 q1 : Int32) (h0 : Heap) (n0 : Nat) (Z0 : n0 ≤ h0.size) (Fk0 : Arv Z h0 a1 k1 .int (2 : Int32) [(.int q0), (.int q1)] zI) (ge_a1 : n0 ≤ a1) :
    Met l mn56 jdk_2529_method_3_code 7 none ws (rm 2 0 0 49) #[(.ref a1), zI, zI, (.int (2 : Int32))] Z h0 (Q_dpq2 Z a1 k1 q0 q1 h0 n0) := by
  refine Met.intro (plainFor_of_name pn_java_2futil_2fDualPivotQuicksort) ?_
  intro p e s m below meth c s₁ hx hby hml hZ hown hnm hrt hlk X0 e0
  have N0 := Fr.nil n0
  have hww := @hvw _ _ hw
  have k0 := k_e (p := p) (e := e) (below := below) (s := s₁) (ef_39_RIII m a1 (0 : Int32) (0 : Int32) (2 : Int32))
  have K0 := Keep.refl h0 [a1]
  have H := @dch _ _ _ hby D39
  have k101 := f_ilN X0 hx k0 (H 0 rfl) rfl
  have k102 := f_ilN X0 hx k101 (H 1 rfl) rfl
  have k103 := f_isub X0 hx k102 (H 2 rfl) (r := 2) (by decide)
  have k104 := f_is X0 hx k103 (H 3 rfl) (l' := #[sr a1, si 0, si 0, si 2, si 2, un, un]) rfl
  have k105 := f_ilN X0 hx k104 (H 4 rfl) rfl
  have k106 := f_ic X0 hx k105 (H 5 rfl) (v := 1) rfl
  have k107 := f_icY X0 hx k106 (H 6 rfl) (pc' := 68) (flt (by decide)).2.2.2 (by decide)
  have k108 := f_an X0 hx k107 (H 7 rfl)
  have k109 := f_alN X0 hx k108 (H 8 rfl) rfl
  have k110 := f_ic X0 hx k109 (H 9 rfl) (v := 0) rfl
  have k111 := f_ilN X0 hx k110 (H 10 rfl) rfl
  have k112 := f_ilN X0 hx k111 (H 11 rfl) rfl
  obtain ⟨_, T113, L113, X113, hQ113, k113⟩ := c_S (W := 0) X0 hx hZ hown (hww 291 rfl) (hww 292 rfl) (hww 289 rfl) (hww 293 rfl) (by decide) (dps2 l Z a0 hw [] a1 k1 q0 q1 h0 n0 Z0 Fk0 ge_a1) e0 (argsL := [.null, (.ref a1), zI, zI, (.int (2 : Int32))]) (rest := []) rfl (by rw [hml]; rfl) k112 rfl (H 12 rfl) (lenOf pd__28Ljava_2futil_2fDualPivotQuicksort_24Sorter_3b_5bIIII_29V rfl) (b5 rfl)
  obtain ⟨h113, e113⟩ : ∃ h', T113.heap = h' := ⟨_, rfl⟩
  rw [e113] at hQ113
  obtain ⟨r0113, r1113, rfl, N113q, K113, R113_0⟩ := hQ113
  have N114 := Fr.app N0 N113q
  have Z115 : n0 ≤ h113.size := Nat.le_trans Z0 K113.1
  have K116 := Keep.trans K0 K113 (allS (oL 0 rfl) all0)
  exact fin_v X113 hx hrt hlk k113 (H 13 rfl) (by rw [e113]; exact ⟨r0113, r1113, rfl, N114, K116, R113_0⟩) (by decide) (by decide)
def Q_srt2 (Z : State) (a1 : Addr) (k1 : ClassId) (q0 q1 : Int32) (h0 : Heap) (n0 : Nat) (v : Option Value) (h : Heap) (L : List Loc) : Prop := ∃ (r0 : Int32) (r1 : Int32), v = none ∧ Fr n0 L ∧ Keep h0 h [a1] ∧ Arv Z h a1 k1 .int (2 : Int32) [(.int r0), (.int r1)] zI
theorem srt2 (l : Launch) (Z : State) (a0 : Array Value) (hw : HW Z a0) (ws : List Jvm.Cond) (a1 : Addr) (k1 : ClassId) (q0 q1 : Int32) (h0 : Heap) (n0 : Nat) (Z0 : n0 ≤ h0.size) (Fk0 : Arv Z h0 a1 k1 .int (2 : Int32) [(.int q0), (.int q1)] zI) (ge_a1 : n0 ≤ a1) :
    Met l mn57 jdk_65_method_2_code 1 none ws (rm 3 0 0 67) #[(.ref a1)] Z h0 (Q_srt2 Z a1 k1 q0 q1 h0 n0) := by
  refine Met.intro (plainFor_of_name pn_java_2futil_2fArrays) ?_
  intro p e s m below meth c s₁ hx hby hml hZ hown hnm hrt hlk X0 e0
  have N0 := Fr.nil n0
  have hww := @hvw _ _ hw
  have k0 := k_e (p := p) (e := e) (below := below) (s := s₁) (ef_38_R m a1)
  have K0 := Keep.refl h0 [a1]
  have H := @dch _ _ _ hby D38
  have k101 := f_alN X0 hx k0 (H 0 rfl) rfl
  have k102 := f_ic X0 hx k101 (H 1 rfl) (v := 0) rfl
  have k103 := f_ic X0 hx k102 (H 2 rfl) (v := 0) rfl
  have k104 := f_alN X0 hx k103 (H 3 rfl) rfl
  have k105 := f_len X0 hx hZ e0 Fk0 k104 (H 4 rfl)
  obtain ⟨_, T106, L106, X106, hQ106, k106⟩ := c_S (W := 0) X0 hx hZ hown (hww 287 rfl) (hww 288 rfl) (hww 289 rfl) (hww 290 rfl) (by decide) (dpq2 l Z a0 hw [] a1 k1 q0 q1 h0 n0 Z0 Fk0 ge_a1) e0 (argsL := [(.ref a1), zI, zI, (.int (2 : Int32))]) (rest := []) rfl (by rw [hml]; rfl) k105 rfl (H 5 rfl) (lenOf pd__28_5bIIII_29V rfl) (b5 rfl)
  obtain ⟨h106, e106⟩ : ∃ h', T106.heap = h' := ⟨_, rfl⟩
  rw [e106] at hQ106
  obtain ⟨r0106, r1106, rfl, N106q, K106, R106_0⟩ := hQ106
  have N107 := Fr.app N0 N106q
  have Z108 : n0 ≤ h106.size := Nat.le_trans Z0 K106.1
  have K109 := Keep.trans K0 K106 (allS (oL 0 rfl) all0)
  exact fin_v X106 hx hrt hlk k106 (H 6 rfl) (by rw [e106]; exact ⟨r0106, r1106, rfl, N107, K109, R106_0⟩) (by decide) (by decide)
def Q_ins3 (Z : State) (a1 : Addr) (k1 : ClassId) (q0 q1 q2 : Int32) (h0 : Heap) (n0 : Nat) (v : Option Value) (h : Heap) (L : List Loc) : Prop := ∃ (r0 : Int32) (r1 : Int32) (r2 : Int32), v = none ∧ Fr n0 L ∧ Keep h0 h [a1] ∧ Arv Z h a1 k1 .int (3 : Int32) [(.int r0), (.int r1), (.int r2)] zI
theorem ins3 (l : Launch) (Z : State) (a0 : Array Value) (hw : HW Z a0) (ws : List Jvm.Cond) (a1 : Addr) (k1 : ClassId) (q0 q1 q2 : Int32) (h0 : Heap) (n0 : Nat) (Z0 : n0 ≤ h0.size) (Fk0 : Arv Z h0 a1 k1 .int (3 : Int32) [(.int q0), (.int q1), (.int q2)] zI) (ge_a1 : n0 ≤ a1) :
    Met l mn54 jdk_2529_method_6_code 6 none ws (rm 0 0 0 0) #[(.ref a1), zI, (.int (3 : Int32))] Z h0 (Q_ins3 Z a1 k1 q0 q1 q2 h0 n0) := by
  refine Met.intro (plainFor_of_name pn_java_2futil_2fDualPivotQuicksort) ?_
  intro p e s m below meth c s₁ hx hby hml hZ hown hnm hrt hlk X0 e0
  have N0 := Fr.nil n0
  have hww := @hvw _ _ hw
  have k0 := k_e (p := p) (e := e) (below := below) (s := s₁) (ef_41_RII m a1 (0 : Int32) (3 : Int32))
  have K0 := Keep.refl h0 [a1]
  have H := @dch _ _ _ hby D41
  have k101 := f_ilN X0 hx k0 (H 0 rfl) rfl
  have k102 := f_is X0 hx k101 (H 1 rfl) (l' := #[sr a1, si 0, si 3, un, si 0, un]) rfl
  have k103 := f_inc X0 hx k102 (H 2 rfl) rfl (l' := #[sr a1, si 0, si 3, un, si 1, un]) rfl
  have k104 := f_il X0 hx k103 (H 3 rfl) rfl
  have k105 := f_ilN X0 hx k104 (H 4 rfl) rfl
  have k106 := f_icN X0 hx k105 (H 5 rfl) (tlt (by decide)).2.1
  have k107 := f_alN X0 hx k106 (H 7 rfl) rfl
  have k108 := f_il X0 hx k107 (H 8 rfl) rfl
  have k109 := f_dup X0 hx k108 (H 9 rfl) rfl
  have k110 := f_isN X0 hx k109 (H 10 rfl) (l' := #[sr a1, si 0, si 3, si 1, si 1, un]) rfl
  have k111 := f_ial X0 hx hZ e0 Fk0 k110 (H 11 rfl) (v := q1) (by decide) rfl
  have k112 := f_is X0 hx k111 (H 12 rfl) (l' := #[sr a1, si 0, si 3, si 1, si 1, si q1]) rfl
  have k113 := f_il X0 hx k112 (H 13 rfl) rfl
  have k114 := f_alN X0 hx k113 (H 14 rfl) rfl
  have k115 := f_ilN X0 hx k114 (H 15 rfl) rfl
  have k116 := f_ic X0 hx k115 (H 16 rfl) (v := 1) rfl
  have k117 := f_isub X0 hx k116 (H 17 rfl) (r := 0) (by decide)
  have k118 := f_ial X0 hx hZ e0 Fk0 k117 (H 18 rfl) (v := q0) (by decide) rfl
  obtain ⟨T119, h119, Ls119, t10, t11, ix1, X119, e119, N119, Zq119, F154, F155, kq119⟩ : ∃ (T119 : State) (h119 : Heap) (Ls119 : List Loc) (t10 : Int32) (t11 : Int32) (ix1 : Int32), Stand p l e (rm 0 0 0 0) s m #[(.ref a1), zI, (.int (3 : Int32))] below meth c T119 Ls119 0 0 ∧ T119.heap = h119 ∧ Fr n0 Ls119 ∧ n0 ≤ h119.size ∧ Arv Z h119 a1 k1 .int (3 : Int32) [(.int t10), (.int t11), (.int q2)] zI ∧ Keep h0 h119 [a1] ∧ (Rt p e below T119 (mkF m 3 #[sr a1, si 0, si 3, si ix1, si 1, si q1] []) s₁ m #[(.ref a1), zI, (.int (3 : Int32))] 6) := by
    by_cases qz : q1 < q0
    · have k120 := f_icN X0 hx k118 (H 19 rfl) (tlt qz).2.1
      have k121 := f_inc X0 hx k120 (H 20 rfl) rfl (l' := #[sr a1, si 0, si 3, si 0, si 1, si q1]) rfl
      have k122 := f_ilN X0 hx k121 (H 21 rfl) rfl
      have k123 := f_ilN X0 hx k122 (H 22 rfl) rfl
      have k124 := f_icN X0 hx k123 (H 23 rfl) (flt (by decide)).1
      have k125 := f_il X0 hx k124 (H 24 rfl) rfl
      have k126 := f_alN X0 hx k125 (H 25 rfl) rfl
      have k127 := f_ilN X0 hx k126 (H 26 rfl) rfl
      have k128 := f_ial X0 hx hZ e0 Fk0 k127 (H 27 rfl) (v := q0) (by decide) rfl
      have k129 := f_icN X0 hx k128 (H 28 rfl) (tlt qz).2.1
      have k130 := f_alN X0 hx k129 (H 29 rfl) rfl
      have k131 := f_ilN X0 hx k130 (H 30 rfl) rfl
      have k132 := f_ic X0 hx k131 (H 31 rfl) (v := 1) rfl
      have k133 := f_iadd X0 hx k132 (H 32 rfl) (r := 1) (by decide)
      have k134 := f_alN X0 hx k133 (H 33 rfl) rfl
      have k135 := f_ilN X0 hx k134 (H 34 rfl) rfl
      have k136 := f_ial X0 hx hZ e0 Fk0 k135 (H 35 rfl) (v := q0) (by decide) rfl
      obtain ⟨T137, h137, L137, X137, e137, W137, V137, N137, Z137, k137⟩ := f_ist X0 hx hZ e0 Fk0 N0 ge_a1 Z0 k136 (H 36 rfl) (by decide) 1 rfl (lt_b rfl)
      have K138 := kw K0 W137 0 rfl
      have k139 := f_go X137 hx k137 (H 37 rfl) (pc' := 30) (by decide)
      have k140 := f_inc X137 hx k139 (H 20 rfl) rfl (l' := #[sr a1, si 0, si 3, si (-1), si 1, si q1]) rfl
      have k141 := f_ilN X137 hx k140 (H 21 rfl) rfl
      have k142 := f_ilN X137 hx k141 (H 22 rfl) rfl
      have k143 := f_icY X137 hx k142 (H 23 rfl) (pc' := 57) (tlt (by decide)).1 (by decide)
      have k144 := f_alN X137 hx k143 (H 38 rfl) rfl
      have k145 := f_ilN X137 hx k144 (H 39 rfl) rfl
      have k146 := f_ic X137 hx k145 (H 40 rfl) (v := 1) rfl
      have k147 := f_iadd X137 hx k146 (H 41 rfl) (r := 0) (by decide)
      have k148 := f_il X137 hx k147 (H 42 rfl) rfl
      obtain ⟨T149, h149, L149, X149, e149, W149, V149, N149, Z149, k149⟩ := f_ist X137 hx hZ e137 V137 N137 ge_a1 Z137 k148 (H 43 rfl) (by decide) 0 rfl (lt_b rfl)
      have K150 := kw K138 W149 0 rfl
      have k151 := f_go X149 hx k149 (H 44 rfl) (pc' := 3) (by decide)
      exact ⟨T149, h149, _, q1, q0, (-1 : Int32), X149, e149, N149, Z149, V149, K150, k151⟩
    · have k152 := f_icY X0 hx k118 (H 19 rfl) (pc' := 64) (flt qz).2.1 (by decide)
      have k153 := f_go X0 hx k152 (H 44 rfl) (pc' := 3) (by decide)
      exact ⟨s₁, h0, _, q0, q1, (1 : Int32), X0, e0, N0, Z0, Fk0, K0, k153⟩
  have k156 := f_inc X119 hx kq119 (H 2 rfl) rfl (l' := #[sr a1, si 0, si 3, si ix1, si 2, si q1]) rfl
  have k157 := f_il X119 hx k156 (H 3 rfl) rfl
  have k158 := f_ilN X119 hx k157 (H 4 rfl) rfl
  have k159 := f_icN X119 hx k158 (H 5 rfl) (tlt (by decide)).2.1
  have k160 := f_alN X119 hx k159 (H 7 rfl) rfl
  have k161 := f_il X119 hx k160 (H 8 rfl) rfl
  have k162 := f_dup X119 hx k161 (H 9 rfl) rfl
  have k163 := f_isN X119 hx k162 (H 10 rfl) (l' := #[sr a1, si 0, si 3, si 2, si 2, si q1]) rfl
  have k164 := f_ial X119 hx hZ e119 F154 k163 (H 11 rfl) (v := q2) (by decide) rfl
  have k165 := f_is X119 hx k164 (H 12 rfl) (l' := #[sr a1, si 0, si 3, si 2, si 2, si q2]) rfl
  have k166 := f_il X119 hx k165 (H 13 rfl) rfl
  have k167 := f_alN X119 hx k166 (H 14 rfl) rfl
  have k168 := f_ilN X119 hx k167 (H 15 rfl) rfl
  have k169 := f_ic X119 hx k168 (H 16 rfl) (v := 1) rfl
  have k170 := f_isub X119 hx k169 (H 17 rfl) (r := 1) (by decide)
  have k171 := f_ial X119 hx hZ e119 F154 k170 (H 18 rfl) (v := t11) (by decide) rfl
  obtain ⟨T172, h172, Ls172, t20, t21, t22, ix2, X172, e172, N172, Zq172, F235, F236, kq172⟩ : ∃ (T172 : State) (h172 : Heap) (Ls172 : List Loc) (t20 : Int32) (t21 : Int32) (t22 : Int32) (ix2 : Int32), Stand p l e (rm 0 0 0 0) s m #[(.ref a1), zI, (.int (3 : Int32))] below meth c T172 Ls172 0 0 ∧ T172.heap = h172 ∧ Fr n0 Ls172 ∧ n0 ≤ h172.size ∧ Arv Z h172 a1 k1 .int (3 : Int32) [(.int t20), (.int t21), (.int t22)] zI ∧ Keep h0 h172 [a1] ∧ (Rt p e below T172 (mkF m 3 #[sr a1, si 0, si 3, si ix2, si 2, si q2] []) s₁ m #[(.ref a1), zI, (.int (3 : Int32))] 6) := by
    by_cases qz : q2 < t11
    · have k173 := f_icN X119 hx k171 (H 19 rfl) (tlt qz).2.1
      have k174 := f_inc X119 hx k173 (H 20 rfl) rfl (l' := #[sr a1, si 0, si 3, si 1, si 2, si q2]) rfl
      have k175 := f_ilN X119 hx k174 (H 21 rfl) rfl
      have k176 := f_ilN X119 hx k175 (H 22 rfl) rfl
      have k177 := f_icN X119 hx k176 (H 23 rfl) (flt (by decide)).1
      have k178 := f_il X119 hx k177 (H 24 rfl) rfl
      have k179 := f_alN X119 hx k178 (H 25 rfl) rfl
      have k180 := f_ilN X119 hx k179 (H 26 rfl) rfl
      have k181 := f_ial X119 hx hZ e119 F154 k180 (H 27 rfl) (v := t11) (by decide) rfl
      have k182 := f_icN X119 hx k181 (H 28 rfl) (tlt qz).2.1
      have k183 := f_alN X119 hx k182 (H 29 rfl) rfl
      have k184 := f_ilN X119 hx k183 (H 30 rfl) rfl
      have k185 := f_ic X119 hx k184 (H 31 rfl) (v := 1) rfl
      have k186 := f_iadd X119 hx k185 (H 32 rfl) (r := 2) (by decide)
      have k187 := f_alN X119 hx k186 (H 33 rfl) rfl
      have k188 := f_ilN X119 hx k187 (H 34 rfl) rfl
      have k189 := f_ial X119 hx hZ e119 F154 k188 (H 35 rfl) (v := t11) (by decide) rfl
      obtain ⟨T190, h190, L190, X190, e190, W190, V190, N190, Z190, k190⟩ := f_ist X119 hx hZ e119 F154 N119 ge_a1 Zq119 k189 (H 36 rfl) (by decide) 2 rfl (lt_b rfl)
      have K191 := kw F155 W190 0 rfl
      have k192 := f_go X190 hx k190 (H 37 rfl) (pc' := 30) (by decide)
      have k193 := f_inc X190 hx k192 (H 20 rfl) rfl (l' := #[sr a1, si 0, si 3, si 0, si 2, si q2]) rfl
      have k194 := f_ilN X190 hx k193 (H 21 rfl) rfl
      have k195 := f_ilN X190 hx k194 (H 22 rfl) rfl
      have k196 := f_icN X190 hx k195 (H 23 rfl) (flt (by decide)).1
      have k197 := f_il X190 hx k196 (H 24 rfl) rfl
      have k198 := f_alN X190 hx k197 (H 25 rfl) rfl
      have k199 := f_ilN X190 hx k198 (H 26 rfl) rfl
      have k200 := f_ial X190 hx hZ e190 V190 k199 (H 27 rfl) (v := t10) (by decide) rfl
      by_cases qi1 : q2 < t10
      · have k201 := f_icN X190 hx k200 (H 28 rfl) (tlt qi1).2.1
        have k202 := f_alN X190 hx k201 (H 29 rfl) rfl
        have k203 := f_ilN X190 hx k202 (H 30 rfl) rfl
        have k204 := f_ic X190 hx k203 (H 31 rfl) (v := 1) rfl
        have k205 := f_iadd X190 hx k204 (H 32 rfl) (r := 1) (by decide)
        have k206 := f_alN X190 hx k205 (H 33 rfl) rfl
        have k207 := f_ilN X190 hx k206 (H 34 rfl) rfl
        have k208 := f_ial X190 hx hZ e190 V190 k207 (H 35 rfl) (v := t10) (by decide) rfl
        obtain ⟨T209, h209, L209, X209, e209, W209, V209, N209, Z209, k209⟩ := f_ist X190 hx hZ e190 V190 N190 ge_a1 Z190 k208 (H 36 rfl) (by decide) 1 rfl (lt_b rfl)
        have K210 := kw K191 W209 0 rfl
        have k211 := f_go X209 hx k209 (H 37 rfl) (pc' := 30) (by decide)
        have k212 := f_inc X209 hx k211 (H 20 rfl) rfl (l' := #[sr a1, si 0, si 3, si (-1), si 2, si q2]) rfl
        have k213 := f_ilN X209 hx k212 (H 21 rfl) rfl
        have k214 := f_ilN X209 hx k213 (H 22 rfl) rfl
        have k215 := f_icY X209 hx k214 (H 23 rfl) (pc' := 57) (tlt (by decide)).1 (by decide)
        have k216 := f_alN X209 hx k215 (H 38 rfl) rfl
        have k217 := f_ilN X209 hx k216 (H 39 rfl) rfl
        have k218 := f_ic X209 hx k217 (H 40 rfl) (v := 1) rfl
        have k219 := f_iadd X209 hx k218 (H 41 rfl) (r := 0) (by decide)
        have k220 := f_il X209 hx k219 (H 42 rfl) rfl
        obtain ⟨T221, h221, L221, X221, e221, W221, V221, N221, Z221, k221⟩ := f_ist X209 hx hZ e209 V209 N209 ge_a1 Z209 k220 (H 43 rfl) (by decide) 0 rfl (lt_b rfl)
        have K222 := kw K210 W221 0 rfl
        have k223 := f_go X221 hx k221 (H 44 rfl) (pc' := 3) (by decide)
        exact ⟨T221, h221, _, q2, t10, t11, (-1 : Int32), X221, e221, N221, Z221, V221, K222, k223⟩
      · have k224 := f_icY X190 hx k200 (H 28 rfl) (pc' := 57) (flt qi1).2.1 (by decide)
        have k225 := f_alN X190 hx k224 (H 38 rfl) rfl
        have k226 := f_ilN X190 hx k225 (H 39 rfl) rfl
        have k227 := f_ic X190 hx k226 (H 40 rfl) (v := 1) rfl
        have k228 := f_iadd X190 hx k227 (H 41 rfl) (r := 1) (by decide)
        have k229 := f_il X190 hx k228 (H 42 rfl) rfl
        obtain ⟨T230, h230, L230, X230, e230, W230, V230, N230, Z230, k230⟩ := f_ist X190 hx hZ e190 V190 N190 ge_a1 Z190 k229 (H 43 rfl) (by decide) 1 rfl (lt_b rfl)
        have K231 := kw K191 W230 0 rfl
        have k232 := f_go X230 hx k230 (H 44 rfl) (pc' := 3) (by decide)
        exact ⟨T230, h230, _, t10, q2, t11, (0 : Int32), X230, e230, N230, Z230, V230, K231, k232⟩
    · have k233 := f_icY X119 hx k171 (H 19 rfl) (pc' := 64) (flt qz).2.1 (by decide)
      have k234 := f_go X119 hx k233 (H 44 rfl) (pc' := 3) (by decide)
      exact ⟨T119, h119, _, t10, t11, q2, (2 : Int32), X119, e119, N119, Zq119, F154, F155, k234⟩
  have k237 := f_inc X172 hx kq172 (H 2 rfl) rfl (l' := #[sr a1, si 0, si 3, si ix2, si 3, si q2]) rfl
  have k238 := f_il X172 hx k237 (H 3 rfl) rfl
  have k239 := f_ilN X172 hx k238 (H 4 rfl) rfl
  have k240 := f_icY X172 hx k239 (H 5 rfl) (pc' := 67) (flt (by decide)).2.1 (by decide)
  exact fin_v X172 hx hrt hlk k240 (H 6 rfl) (by rw [e172]; exact ⟨t20, t21, t22, rfl, N172, F236, F235⟩) (by decide) (by decide)
def Q_dps3 (Z : State) (a1 : Addr) (k1 : ClassId) (q0 q1 q2 : Int32) (h0 : Heap) (n0 : Nat) (v : Option Value) (h : Heap) (L : List Loc) : Prop := ∃ (r0 : Int32) (r1 : Int32) (r2 : Int32), v = none ∧ Fr n0 L ∧ Keep h0 h [a1] ∧ Arv Z h a1 k1 .int (3 : Int32) [(.int r0), (.int r1), (.int r2)] zI
theorem dps3 (l : Launch) (Z : State) (a0 : Array Value) (hw : HW Z a0) (ws : List Jvm.Cond) (a1 : Addr) (k1 : ClassId) (q0 q1 q2 : Int32) (h0 : Heap) (n0 : Nat) (Z0 : n0 ≤ h0.size) (Fk0 : Arv Z h0 a1 k1 .int (3 : Int32) [(.int q0), (.int q1), (.int q2)] zI) (ge_a1 : n0 ≤ a1) :
    Met l mn55 jdk_2529_method_4_code 21 none ws (rm 1 0 0 17) #[.null, (.ref a1), zI, zI, (.int (3 : Int32))] Z h0 (Q_dps3 Z a1 k1 q0 q1 q2 h0 n0) := by
  refine Met.intro (plainFor_of_name pn_java_2futil_2fDualPivotQuicksort) ?_
  intro p e s m below meth c s₁ hx hby hml hZ hown hnm hrt hlk X0 e0
  have N0 := Fr.nil n0
  have hww := @hvw _ _ hw
  have k0 := k_e (p := p) (e := e) (below := below) (s := s₁) (ef_40_nRIII m a1 (0 : Int32) (0 : Int32) (3 : Int32))
  have K0 := Keep.refl h0 [a1]
  have H := @dch _ _ _ hby D40
  have k101 := f_il X0 hx k0 (H 0 rfl) rfl
  have k102 := f_ic X0 hx k101 (H 1 rfl) (v := 1) rfl
  have k103 := f_isub X0 hx k102 (H 2 rfl) (r := 2) (by decide)
  have k104 := f_is X0 hx k103 (H 3 rfl) (l' := #[.val .null, sr a1, si 0, si 0, si 3, si 2, un, un, un, un, un, un, un, un, un, un, un, un, un, un, un]) rfl
  have k105 := f_il X0 hx k104 (H 4 rfl) rfl
  have k106 := f_ilN X0 hx k105 (H 5 rfl) rfl
  have k107 := f_isub X0 hx k106 (H 6 rfl) (r := 3) (by decide)
  have k108 := f_is X0 hx k107 (H 7 rfl) (l' := #[.val .null, sr a1, si 0, si 0, si 3, si 2, si 3, un, un, un, un, un, un, un, un, un, un, un, un, un, un]) rfl
  have k109 := f_il X0 hx k108 (H 8 rfl) rfl
  have k110 := f_bp X0 hx k109 (H 9 rfl) (v := 65) rfl
  have k111 := f_ilN X0 hx k110 (H 10 rfl) rfl
  have k112 := f_iadd X0 hx k111 (H 11 rfl) (r := 65) (by decide)
  have k113 := f_icN X0 hx k112 (H 12 rfl) (tlt (by decide)).2.1
  have k114 := f_ilN X0 hx k113 (H 13 rfl) rfl
  have k115 := f_ic X0 hx k114 (H 14 rfl) (v := 1) rfl
  have k116 := f_iand X0 hx k115 (H 15 rfl) (r := 0) (by decide)
  have k117 := f_ifY X0 hx k116 (H 16 rfl) (pc' := 46) ((if0 _ _).trans (flt (by decide)).2.2.2) (by decide)
  have k118 := f_il X0 hx k117 (H 17 rfl) rfl
  have k119 := f_bp X0 hx k118 (H 18 rfl) (v := 44) rfl
  have k120 := f_icN X0 hx k119 (H 19 rfl) (tlt (by decide)).2.1
  have k121 := f_alN X0 hx k120 (H 20 rfl) rfl
  have k122 := f_ilN X0 hx k121 (H 21 rfl) rfl
  have k123 := f_il X0 hx k122 (H 22 rfl) rfl
  obtain ⟨_, T124, L124, X124, hQ124, k124⟩ := c_S (W := 0) X0 hx hZ hown (hww 294 rfl) (hww 295 rfl) (hww 289 rfl) (hww 296 rfl) (by decide) (ins3 l Z a0 hw [] a1 k1 q0 q1 q2 h0 n0 Z0 Fk0 ge_a1) e0 (argsL := [(.ref a1), zI, (.int (3 : Int32))]) (rest := []) rfl (by rw [hml]; rfl) k123 rfl (H 23 rfl) (lenOf pd__28_5bIII_29V rfl) (b5 rfl)
  obtain ⟨h124, e124⟩ : ∃ h', T124.heap = h' := ⟨_, rfl⟩
  rw [e124] at hQ124
  obtain ⟨r0124, r1124, r2124, rfl, N124q, K124, R124_0⟩ := hQ124
  have N125 := Fr.app N0 N124q
  have Z126 : n0 ≤ h124.size := Nat.le_trans Z0 K124.1
  have K127 := Keep.trans K0 K124 (allS (oL 0 rfl) all0)
  exact fin_v X124 hx hrt hlk k124 (H 24 rfl) (by rw [e124]; exact ⟨r0124, r1124, r2124, rfl, N125, K127, R124_0⟩) (by decide) (by decide)
def Q_dpq3 (Z : State) (a1 : Addr) (k1 : ClassId) (q0 q1 q2 : Int32) (h0 : Heap) (n0 : Nat) (v : Option Value) (h : Heap) (L : List Loc) : Prop := ∃ (r0 : Int32) (r1 : Int32) (r2 : Int32), v = none ∧ Fr n0 L ∧ Keep h0 h [a1] ∧ Arv Z h a1 k1 .int (3 : Int32) [(.int r0), (.int r1), (.int r2)] zI
theorem dpq3 (l : Launch) (Z : State) (a0 : Array Value) (hw : HW Z a0) (ws : List Jvm.Cond) (a1 : Addr) (k1 : ClassId) (q0 q1 q2 : Int32) (h0 : Heap) (n0 : Nat) (Z0 : n0 ≤ h0.size) (Fk0 : Arv Z h0 a1 k1 .int (3 : Int32) [(.int q0), (.int q1), (.int q2)] zI) (ge_a1 : n0 ≤ a1) :
    Met l mn56 jdk_2529_method_3_code 7 none ws (rm 2 0 0 49) #[(.ref a1), zI, zI, (.int (3 : Int32))] Z h0 (Q_dpq3 Z a1 k1 q0 q1 q2 h0 n0) := by
  refine Met.intro (plainFor_of_name pn_java_2futil_2fDualPivotQuicksort) ?_
  intro p e s m below meth c s₁ hx hby hml hZ hown hnm hrt hlk X0 e0
  have N0 := Fr.nil n0
  have hww := @hvw _ _ hw
  have k0 := k_e (p := p) (e := e) (below := below) (s := s₁) (ef_39_RIII m a1 (0 : Int32) (0 : Int32) (3 : Int32))
  have K0 := Keep.refl h0 [a1]
  have H := @dch _ _ _ hby D39
  have k101 := f_ilN X0 hx k0 (H 0 rfl) rfl
  have k102 := f_ilN X0 hx k101 (H 1 rfl) rfl
  have k103 := f_isub X0 hx k102 (H 2 rfl) (r := 3) (by decide)
  have k104 := f_is X0 hx k103 (H 3 rfl) (l' := #[sr a1, si 0, si 0, si 3, si 3, un, un]) rfl
  have k105 := f_ilN X0 hx k104 (H 4 rfl) rfl
  have k106 := f_ic X0 hx k105 (H 5 rfl) (v := 1) rfl
  have k107 := f_icY X0 hx k106 (H 6 rfl) (pc' := 68) (flt (by decide)).2.2.2 (by decide)
  have k108 := f_an X0 hx k107 (H 7 rfl)
  have k109 := f_alN X0 hx k108 (H 8 rfl) rfl
  have k110 := f_ic X0 hx k109 (H 9 rfl) (v := 0) rfl
  have k111 := f_ilN X0 hx k110 (H 10 rfl) rfl
  have k112 := f_ilN X0 hx k111 (H 11 rfl) rfl
  obtain ⟨_, T113, L113, X113, hQ113, k113⟩ := c_S (W := 0) X0 hx hZ hown (hww 291 rfl) (hww 292 rfl) (hww 289 rfl) (hww 293 rfl) (by decide) (dps3 l Z a0 hw [] a1 k1 q0 q1 q2 h0 n0 Z0 Fk0 ge_a1) e0 (argsL := [.null, (.ref a1), zI, zI, (.int (3 : Int32))]) (rest := []) rfl (by rw [hml]; rfl) k112 rfl (H 12 rfl) (lenOf pd__28Ljava_2futil_2fDualPivotQuicksort_24Sorter_3b_5bIIII_29V rfl) (b5 rfl)
  obtain ⟨h113, e113⟩ : ∃ h', T113.heap = h' := ⟨_, rfl⟩
  rw [e113] at hQ113
  obtain ⟨r0113, r1113, r2113, rfl, N113q, K113, R113_0⟩ := hQ113
  have N114 := Fr.app N0 N113q
  have Z115 : n0 ≤ h113.size := Nat.le_trans Z0 K113.1
  have K116 := Keep.trans K0 K113 (allS (oL 0 rfl) all0)
  exact fin_v X113 hx hrt hlk k113 (H 13 rfl) (by rw [e113]; exact ⟨r0113, r1113, r2113, rfl, N114, K116, R113_0⟩) (by decide) (by decide)
def Q_srt3 (Z : State) (a1 : Addr) (k1 : ClassId) (q0 q1 q2 : Int32) (h0 : Heap) (n0 : Nat) (v : Option Value) (h : Heap) (L : List Loc) : Prop := ∃ (r0 : Int32) (r1 : Int32) (r2 : Int32), v = none ∧ Fr n0 L ∧ Keep h0 h [a1] ∧ Arv Z h a1 k1 .int (3 : Int32) [(.int r0), (.int r1), (.int r2)] zI
theorem srt3 (l : Launch) (Z : State) (a0 : Array Value) (hw : HW Z a0) (ws : List Jvm.Cond) (a1 : Addr) (k1 : ClassId) (q0 q1 q2 : Int32) (h0 : Heap) (n0 : Nat) (Z0 : n0 ≤ h0.size) (Fk0 : Arv Z h0 a1 k1 .int (3 : Int32) [(.int q0), (.int q1), (.int q2)] zI) (ge_a1 : n0 ≤ a1) :
    Met l mn57 jdk_65_method_2_code 1 none ws (rm 3 0 0 67) #[(.ref a1)] Z h0 (Q_srt3 Z a1 k1 q0 q1 q2 h0 n0) := by
  refine Met.intro (plainFor_of_name pn_java_2futil_2fArrays) ?_
  intro p e s m below meth c s₁ hx hby hml hZ hown hnm hrt hlk X0 e0
  have N0 := Fr.nil n0
  have hww := @hvw _ _ hw
  have k0 := k_e (p := p) (e := e) (below := below) (s := s₁) (ef_38_R m a1)
  have K0 := Keep.refl h0 [a1]
  have H := @dch _ _ _ hby D38
  have k101 := f_alN X0 hx k0 (H 0 rfl) rfl
  have k102 := f_ic X0 hx k101 (H 1 rfl) (v := 0) rfl
  have k103 := f_ic X0 hx k102 (H 2 rfl) (v := 0) rfl
  have k104 := f_alN X0 hx k103 (H 3 rfl) rfl
  have k105 := f_len X0 hx hZ e0 Fk0 k104 (H 4 rfl)
  obtain ⟨_, T106, L106, X106, hQ106, k106⟩ := c_S (W := 0) X0 hx hZ hown (hww 287 rfl) (hww 288 rfl) (hww 289 rfl) (hww 290 rfl) (by decide) (dpq3 l Z a0 hw [] a1 k1 q0 q1 q2 h0 n0 Z0 Fk0 ge_a1) e0 (argsL := [(.ref a1), zI, zI, (.int (3 : Int32))]) (rest := []) rfl (by rw [hml]; rfl) k105 rfl (H 5 rfl) (lenOf pd__28_5bIIII_29V rfl) (b5 rfl)
  obtain ⟨h106, e106⟩ : ∃ h', T106.heap = h' := ⟨_, rfl⟩
  rw [e106] at hQ106
  obtain ⟨r0106, r1106, r2106, rfl, N106q, K106, R106_0⟩ := hQ106
  have N107 := Fr.app N0 N106q
  have Z108 : n0 ≤ h106.size := Nat.le_trans Z0 K106.1
  have K109 := Keep.trans K0 K106 (allS (oL 0 rfl) all0)
  exact fin_v X106 hx hrt hlk k106 (H 6 rfl) (by rw [e106]; exact ⟨r0106, r1106, r2106, rfl, N107, K109, R106_0⟩) (by decide) (by decide)
def Q_ins4 (Z : State) (a1 : Addr) (k1 : ClassId) (q0 q1 q2 q3 : Int32) (h0 : Heap) (n0 : Nat) (v : Option Value) (h : Heap) (L : List Loc) : Prop := ∃ (r0 : Int32) (r1 : Int32) (r2 : Int32) (r3 : Int32), v = none ∧ Fr n0 L ∧ Keep h0 h [a1] ∧ Arv Z h a1 k1 .int (4 : Int32) [(.int r0), (.int r1), (.int r2), (.int r3)] zI
theorem ins4 (l : Launch) (Z : State) (a0 : Array Value) (hw : HW Z a0) (ws : List Jvm.Cond) (a1 : Addr) (k1 : ClassId) (q0 q1 q2 q3 : Int32) (h0 : Heap) (n0 : Nat) (Z0 : n0 ≤ h0.size) (Fk0 : Arv Z h0 a1 k1 .int (4 : Int32) [(.int q0), (.int q1), (.int q2), (.int q3)] zI) (ge_a1 : n0 ≤ a1) :
    Met l mn54 jdk_2529_method_6_code 6 none ws (rm 0 0 0 0) #[(.ref a1), zI, (.int (4 : Int32))] Z h0 (Q_ins4 Z a1 k1 q0 q1 q2 q3 h0 n0) := by
  refine Met.intro (plainFor_of_name pn_java_2futil_2fDualPivotQuicksort) ?_
  intro p e s m below meth c s₁ hx hby hml hZ hown hnm hrt hlk X0 e0
  have N0 := Fr.nil n0
  have hww := @hvw _ _ hw
  have k0 := k_e (p := p) (e := e) (below := below) (s := s₁) (ef_41_RII m a1 (0 : Int32) (4 : Int32))
  have K0 := Keep.refl h0 [a1]
  have H := @dch _ _ _ hby D41
  have k101 := f_ilN X0 hx k0 (H 0 rfl) rfl
  have k102 := f_is X0 hx k101 (H 1 rfl) (l' := #[sr a1, si 0, si 4, un, si 0, un]) rfl
  have k103 := f_inc X0 hx k102 (H 2 rfl) rfl (l' := #[sr a1, si 0, si 4, un, si 1, un]) rfl
  have k104 := f_il X0 hx k103 (H 3 rfl) rfl
  have k105 := f_ilN X0 hx k104 (H 4 rfl) rfl
  have k106 := f_icN X0 hx k105 (H 5 rfl) (tlt (by decide)).2.1
  have k107 := f_alN X0 hx k106 (H 7 rfl) rfl
  have k108 := f_il X0 hx k107 (H 8 rfl) rfl
  have k109 := f_dup X0 hx k108 (H 9 rfl) rfl
  have k110 := f_isN X0 hx k109 (H 10 rfl) (l' := #[sr a1, si 0, si 4, si 1, si 1, un]) rfl
  have k111 := f_ial X0 hx hZ e0 Fk0 k110 (H 11 rfl) (v := q1) (by decide) rfl
  have k112 := f_is X0 hx k111 (H 12 rfl) (l' := #[sr a1, si 0, si 4, si 1, si 1, si q1]) rfl
  have k113 := f_il X0 hx k112 (H 13 rfl) rfl
  have k114 := f_alN X0 hx k113 (H 14 rfl) rfl
  have k115 := f_ilN X0 hx k114 (H 15 rfl) rfl
  have k116 := f_ic X0 hx k115 (H 16 rfl) (v := 1) rfl
  have k117 := f_isub X0 hx k116 (H 17 rfl) (r := 0) (by decide)
  have k118 := f_ial X0 hx hZ e0 Fk0 k117 (H 18 rfl) (v := q0) (by decide) rfl
  obtain ⟨T119, h119, Ls119, t10, t11, ix1, X119, e119, N119, Zq119, F154, F155, kq119⟩ : ∃ (T119 : State) (h119 : Heap) (Ls119 : List Loc) (t10 : Int32) (t11 : Int32) (ix1 : Int32), Stand p l e (rm 0 0 0 0) s m #[(.ref a1), zI, (.int (4 : Int32))] below meth c T119 Ls119 0 0 ∧ T119.heap = h119 ∧ Fr n0 Ls119 ∧ n0 ≤ h119.size ∧ Arv Z h119 a1 k1 .int (4 : Int32) [(.int t10), (.int t11), (.int q2), (.int q3)] zI ∧ Keep h0 h119 [a1] ∧ (Rt p e below T119 (mkF m 3 #[sr a1, si 0, si 4, si ix1, si 1, si q1] []) s₁ m #[(.ref a1), zI, (.int (4 : Int32))] 6) := by
    by_cases qz : q1 < q0
    · have k120 := f_icN X0 hx k118 (H 19 rfl) (tlt qz).2.1
      have k121 := f_inc X0 hx k120 (H 20 rfl) rfl (l' := #[sr a1, si 0, si 4, si 0, si 1, si q1]) rfl
      have k122 := f_ilN X0 hx k121 (H 21 rfl) rfl
      have k123 := f_ilN X0 hx k122 (H 22 rfl) rfl
      have k124 := f_icN X0 hx k123 (H 23 rfl) (flt (by decide)).1
      have k125 := f_il X0 hx k124 (H 24 rfl) rfl
      have k126 := f_alN X0 hx k125 (H 25 rfl) rfl
      have k127 := f_ilN X0 hx k126 (H 26 rfl) rfl
      have k128 := f_ial X0 hx hZ e0 Fk0 k127 (H 27 rfl) (v := q0) (by decide) rfl
      have k129 := f_icN X0 hx k128 (H 28 rfl) (tlt qz).2.1
      have k130 := f_alN X0 hx k129 (H 29 rfl) rfl
      have k131 := f_ilN X0 hx k130 (H 30 rfl) rfl
      have k132 := f_ic X0 hx k131 (H 31 rfl) (v := 1) rfl
      have k133 := f_iadd X0 hx k132 (H 32 rfl) (r := 1) (by decide)
      have k134 := f_alN X0 hx k133 (H 33 rfl) rfl
      have k135 := f_ilN X0 hx k134 (H 34 rfl) rfl
      have k136 := f_ial X0 hx hZ e0 Fk0 k135 (H 35 rfl) (v := q0) (by decide) rfl
      obtain ⟨T137, h137, L137, X137, e137, W137, V137, N137, Z137, k137⟩ := f_ist X0 hx hZ e0 Fk0 N0 ge_a1 Z0 k136 (H 36 rfl) (by decide) 1 rfl (lt_b rfl)
      have K138 := kw K0 W137 0 rfl
      have k139 := f_go X137 hx k137 (H 37 rfl) (pc' := 30) (by decide)
      have k140 := f_inc X137 hx k139 (H 20 rfl) rfl (l' := #[sr a1, si 0, si 4, si (-1), si 1, si q1]) rfl
      have k141 := f_ilN X137 hx k140 (H 21 rfl) rfl
      have k142 := f_ilN X137 hx k141 (H 22 rfl) rfl
      have k143 := f_icY X137 hx k142 (H 23 rfl) (pc' := 57) (tlt (by decide)).1 (by decide)
      have k144 := f_alN X137 hx k143 (H 38 rfl) rfl
      have k145 := f_ilN X137 hx k144 (H 39 rfl) rfl
      have k146 := f_ic X137 hx k145 (H 40 rfl) (v := 1) rfl
      have k147 := f_iadd X137 hx k146 (H 41 rfl) (r := 0) (by decide)
      have k148 := f_il X137 hx k147 (H 42 rfl) rfl
      obtain ⟨T149, h149, L149, X149, e149, W149, V149, N149, Z149, k149⟩ := f_ist X137 hx hZ e137 V137 N137 ge_a1 Z137 k148 (H 43 rfl) (by decide) 0 rfl (lt_b rfl)
      have K150 := kw K138 W149 0 rfl
      have k151 := f_go X149 hx k149 (H 44 rfl) (pc' := 3) (by decide)
      exact ⟨T149, h149, _, q1, q0, (-1 : Int32), X149, e149, N149, Z149, V149, K150, k151⟩
    · have k152 := f_icY X0 hx k118 (H 19 rfl) (pc' := 64) (flt qz).2.1 (by decide)
      have k153 := f_go X0 hx k152 (H 44 rfl) (pc' := 3) (by decide)
      exact ⟨s₁, h0, _, q0, q1, (1 : Int32), X0, e0, N0, Z0, Fk0, K0, k153⟩
  have k156 := f_inc X119 hx kq119 (H 2 rfl) rfl (l' := #[sr a1, si 0, si 4, si ix1, si 2, si q1]) rfl
  have k157 := f_il X119 hx k156 (H 3 rfl) rfl
  have k158 := f_ilN X119 hx k157 (H 4 rfl) rfl
  have k159 := f_icN X119 hx k158 (H 5 rfl) (tlt (by decide)).2.1
  have k160 := f_alN X119 hx k159 (H 7 rfl) rfl
  have k161 := f_il X119 hx k160 (H 8 rfl) rfl
  have k162 := f_dup X119 hx k161 (H 9 rfl) rfl
  have k163 := f_isN X119 hx k162 (H 10 rfl) (l' := #[sr a1, si 0, si 4, si 2, si 2, si q1]) rfl
  have k164 := f_ial X119 hx hZ e119 F154 k163 (H 11 rfl) (v := q2) (by decide) rfl
  have k165 := f_is X119 hx k164 (H 12 rfl) (l' := #[sr a1, si 0, si 4, si 2, si 2, si q2]) rfl
  have k166 := f_il X119 hx k165 (H 13 rfl) rfl
  have k167 := f_alN X119 hx k166 (H 14 rfl) rfl
  have k168 := f_ilN X119 hx k167 (H 15 rfl) rfl
  have k169 := f_ic X119 hx k168 (H 16 rfl) (v := 1) rfl
  have k170 := f_isub X119 hx k169 (H 17 rfl) (r := 1) (by decide)
  have k171 := f_ial X119 hx hZ e119 F154 k170 (H 18 rfl) (v := t11) (by decide) rfl
  obtain ⟨T172, h172, Ls172, t20, t21, t22, ix2, X172, e172, N172, Zq172, F235, F236, kq172⟩ : ∃ (T172 : State) (h172 : Heap) (Ls172 : List Loc) (t20 : Int32) (t21 : Int32) (t22 : Int32) (ix2 : Int32), Stand p l e (rm 0 0 0 0) s m #[(.ref a1), zI, (.int (4 : Int32))] below meth c T172 Ls172 0 0 ∧ T172.heap = h172 ∧ Fr n0 Ls172 ∧ n0 ≤ h172.size ∧ Arv Z h172 a1 k1 .int (4 : Int32) [(.int t20), (.int t21), (.int t22), (.int q3)] zI ∧ Keep h0 h172 [a1] ∧ (Rt p e below T172 (mkF m 3 #[sr a1, si 0, si 4, si ix2, si 2, si q2] []) s₁ m #[(.ref a1), zI, (.int (4 : Int32))] 6) := by
    by_cases qz : q2 < t11
    · have k173 := f_icN X119 hx k171 (H 19 rfl) (tlt qz).2.1
      have k174 := f_inc X119 hx k173 (H 20 rfl) rfl (l' := #[sr a1, si 0, si 4, si 1, si 2, si q2]) rfl
      have k175 := f_ilN X119 hx k174 (H 21 rfl) rfl
      have k176 := f_ilN X119 hx k175 (H 22 rfl) rfl
      have k177 := f_icN X119 hx k176 (H 23 rfl) (flt (by decide)).1
      have k178 := f_il X119 hx k177 (H 24 rfl) rfl
      have k179 := f_alN X119 hx k178 (H 25 rfl) rfl
      have k180 := f_ilN X119 hx k179 (H 26 rfl) rfl
      have k181 := f_ial X119 hx hZ e119 F154 k180 (H 27 rfl) (v := t11) (by decide) rfl
      have k182 := f_icN X119 hx k181 (H 28 rfl) (tlt qz).2.1
      have k183 := f_alN X119 hx k182 (H 29 rfl) rfl
      have k184 := f_ilN X119 hx k183 (H 30 rfl) rfl
      have k185 := f_ic X119 hx k184 (H 31 rfl) (v := 1) rfl
      have k186 := f_iadd X119 hx k185 (H 32 rfl) (r := 2) (by decide)
      have k187 := f_alN X119 hx k186 (H 33 rfl) rfl
      have k188 := f_ilN X119 hx k187 (H 34 rfl) rfl
      have k189 := f_ial X119 hx hZ e119 F154 k188 (H 35 rfl) (v := t11) (by decide) rfl
      obtain ⟨T190, h190, L190, X190, e190, W190, V190, N190, Z190, k190⟩ := f_ist X119 hx hZ e119 F154 N119 ge_a1 Zq119 k189 (H 36 rfl) (by decide) 2 rfl (lt_b rfl)
      have K191 := kw F155 W190 0 rfl
      have k192 := f_go X190 hx k190 (H 37 rfl) (pc' := 30) (by decide)
      have k193 := f_inc X190 hx k192 (H 20 rfl) rfl (l' := #[sr a1, si 0, si 4, si 0, si 2, si q2]) rfl
      have k194 := f_ilN X190 hx k193 (H 21 rfl) rfl
      have k195 := f_ilN X190 hx k194 (H 22 rfl) rfl
      have k196 := f_icN X190 hx k195 (H 23 rfl) (flt (by decide)).1
      have k197 := f_il X190 hx k196 (H 24 rfl) rfl
      have k198 := f_alN X190 hx k197 (H 25 rfl) rfl
      have k199 := f_ilN X190 hx k198 (H 26 rfl) rfl
      have k200 := f_ial X190 hx hZ e190 V190 k199 (H 27 rfl) (v := t10) (by decide) rfl
      by_cases qi1 : q2 < t10
      · have k201 := f_icN X190 hx k200 (H 28 rfl) (tlt qi1).2.1
        have k202 := f_alN X190 hx k201 (H 29 rfl) rfl
        have k203 := f_ilN X190 hx k202 (H 30 rfl) rfl
        have k204 := f_ic X190 hx k203 (H 31 rfl) (v := 1) rfl
        have k205 := f_iadd X190 hx k204 (H 32 rfl) (r := 1) (by decide)
        have k206 := f_alN X190 hx k205 (H 33 rfl) rfl
        have k207 := f_ilN X190 hx k206 (H 34 rfl) rfl
        have k208 := f_ial X190 hx hZ e190 V190 k207 (H 35 rfl) (v := t10) (by decide) rfl
        obtain ⟨T209, h209, L209, X209, e209, W209, V209, N209, Z209, k209⟩ := f_ist X190 hx hZ e190 V190 N190 ge_a1 Z190 k208 (H 36 rfl) (by decide) 1 rfl (lt_b rfl)
        have K210 := kw K191 W209 0 rfl
        have k211 := f_go X209 hx k209 (H 37 rfl) (pc' := 30) (by decide)
        have k212 := f_inc X209 hx k211 (H 20 rfl) rfl (l' := #[sr a1, si 0, si 4, si (-1), si 2, si q2]) rfl
        have k213 := f_ilN X209 hx k212 (H 21 rfl) rfl
        have k214 := f_ilN X209 hx k213 (H 22 rfl) rfl
        have k215 := f_icY X209 hx k214 (H 23 rfl) (pc' := 57) (tlt (by decide)).1 (by decide)
        have k216 := f_alN X209 hx k215 (H 38 rfl) rfl
        have k217 := f_ilN X209 hx k216 (H 39 rfl) rfl
        have k218 := f_ic X209 hx k217 (H 40 rfl) (v := 1) rfl
        have k219 := f_iadd X209 hx k218 (H 41 rfl) (r := 0) (by decide)
        have k220 := f_il X209 hx k219 (H 42 rfl) rfl
        obtain ⟨T221, h221, L221, X221, e221, W221, V221, N221, Z221, k221⟩ := f_ist X209 hx hZ e209 V209 N209 ge_a1 Z209 k220 (H 43 rfl) (by decide) 0 rfl (lt_b rfl)
        have K222 := kw K210 W221 0 rfl
        have k223 := f_go X221 hx k221 (H 44 rfl) (pc' := 3) (by decide)
        exact ⟨T221, h221, _, q2, t10, t11, (-1 : Int32), X221, e221, N221, Z221, V221, K222, k223⟩
      · have k224 := f_icY X190 hx k200 (H 28 rfl) (pc' := 57) (flt qi1).2.1 (by decide)
        have k225 := f_alN X190 hx k224 (H 38 rfl) rfl
        have k226 := f_ilN X190 hx k225 (H 39 rfl) rfl
        have k227 := f_ic X190 hx k226 (H 40 rfl) (v := 1) rfl
        have k228 := f_iadd X190 hx k227 (H 41 rfl) (r := 1) (by decide)
        have k229 := f_il X190 hx k228 (H 42 rfl) rfl
        obtain ⟨T230, h230, L230, X230, e230, W230, V230, N230, Z230, k230⟩ := f_ist X190 hx hZ e190 V190 N190 ge_a1 Z190 k229 (H 43 rfl) (by decide) 1 rfl (lt_b rfl)
        have K231 := kw K191 W230 0 rfl
        have k232 := f_go X230 hx k230 (H 44 rfl) (pc' := 3) (by decide)
        exact ⟨T230, h230, _, t10, q2, t11, (0 : Int32), X230, e230, N230, Z230, V230, K231, k232⟩
    · have k233 := f_icY X119 hx k171 (H 19 rfl) (pc' := 64) (flt qz).2.1 (by decide)
      have k234 := f_go X119 hx k233 (H 44 rfl) (pc' := 3) (by decide)
      exact ⟨T119, h119, _, t10, t11, q2, (2 : Int32), X119, e119, N119, Zq119, F154, F155, k234⟩
  have k237 := f_inc X172 hx kq172 (H 2 rfl) rfl (l' := #[sr a1, si 0, si 4, si ix2, si 3, si q2]) rfl
  have k238 := f_il X172 hx k237 (H 3 rfl) rfl
  have k239 := f_ilN X172 hx k238 (H 4 rfl) rfl
  have k240 := f_icN X172 hx k239 (H 5 rfl) (tlt (by decide)).2.1
  have k241 := f_alN X172 hx k240 (H 7 rfl) rfl
  have k242 := f_il X172 hx k241 (H 8 rfl) rfl
  have k243 := f_dup X172 hx k242 (H 9 rfl) rfl
  have k244 := f_isN X172 hx k243 (H 10 rfl) (l' := #[sr a1, si 0, si 4, si 3, si 3, si q2]) rfl
  have k245 := f_ial X172 hx hZ e172 F235 k244 (H 11 rfl) (v := q3) (by decide) rfl
  have k246 := f_is X172 hx k245 (H 12 rfl) (l' := #[sr a1, si 0, si 4, si 3, si 3, si q3]) rfl
  have k247 := f_il X172 hx k246 (H 13 rfl) rfl
  have k248 := f_alN X172 hx k247 (H 14 rfl) rfl
  have k249 := f_ilN X172 hx k248 (H 15 rfl) rfl
  have k250 := f_ic X172 hx k249 (H 16 rfl) (v := 1) rfl
  have k251 := f_isub X172 hx k250 (H 17 rfl) (r := 2) (by decide)
  have k252 := f_ial X172 hx hZ e172 F235 k251 (H 18 rfl) (v := t22) (by decide) rfl
  obtain ⟨T253, h253, Ls253, t30, t31, t32, t33, ix3, X253, e253, N253, Zq253, F344, F345, kq253⟩ : ∃ (T253 : State) (h253 : Heap) (Ls253 : List Loc) (t30 : Int32) (t31 : Int32) (t32 : Int32) (t33 : Int32) (ix3 : Int32), Stand p l e (rm 0 0 0 0) s m #[(.ref a1), zI, (.int (4 : Int32))] below meth c T253 Ls253 0 0 ∧ T253.heap = h253 ∧ Fr n0 Ls253 ∧ n0 ≤ h253.size ∧ Arv Z h253 a1 k1 .int (4 : Int32) [(.int t30), (.int t31), (.int t32), (.int t33)] zI ∧ Keep h0 h253 [a1] ∧ (Rt p e below T253 (mkF m 3 #[sr a1, si 0, si 4, si ix3, si 3, si q3] []) s₁ m #[(.ref a1), zI, (.int (4 : Int32))] 6) := by
    by_cases qz : q3 < t22
    · have k254 := f_icN X172 hx k252 (H 19 rfl) (tlt qz).2.1
      have k255 := f_inc X172 hx k254 (H 20 rfl) rfl (l' := #[sr a1, si 0, si 4, si 2, si 3, si q3]) rfl
      have k256 := f_ilN X172 hx k255 (H 21 rfl) rfl
      have k257 := f_ilN X172 hx k256 (H 22 rfl) rfl
      have k258 := f_icN X172 hx k257 (H 23 rfl) (flt (by decide)).1
      have k259 := f_il X172 hx k258 (H 24 rfl) rfl
      have k260 := f_alN X172 hx k259 (H 25 rfl) rfl
      have k261 := f_ilN X172 hx k260 (H 26 rfl) rfl
      have k262 := f_ial X172 hx hZ e172 F235 k261 (H 27 rfl) (v := t22) (by decide) rfl
      have k263 := f_icN X172 hx k262 (H 28 rfl) (tlt qz).2.1
      have k264 := f_alN X172 hx k263 (H 29 rfl) rfl
      have k265 := f_ilN X172 hx k264 (H 30 rfl) rfl
      have k266 := f_ic X172 hx k265 (H 31 rfl) (v := 1) rfl
      have k267 := f_iadd X172 hx k266 (H 32 rfl) (r := 3) (by decide)
      have k268 := f_alN X172 hx k267 (H 33 rfl) rfl
      have k269 := f_ilN X172 hx k268 (H 34 rfl) rfl
      have k270 := f_ial X172 hx hZ e172 F235 k269 (H 35 rfl) (v := t22) (by decide) rfl
      obtain ⟨T271, h271, L271, X271, e271, W271, V271, N271, Z271, k271⟩ := f_ist X172 hx hZ e172 F235 N172 ge_a1 Zq172 k270 (H 36 rfl) (by decide) 3 rfl (lt_b rfl)
      have K272 := kw F236 W271 0 rfl
      have k273 := f_go X271 hx k271 (H 37 rfl) (pc' := 30) (by decide)
      have k274 := f_inc X271 hx k273 (H 20 rfl) rfl (l' := #[sr a1, si 0, si 4, si 1, si 3, si q3]) rfl
      have k275 := f_ilN X271 hx k274 (H 21 rfl) rfl
      have k276 := f_ilN X271 hx k275 (H 22 rfl) rfl
      have k277 := f_icN X271 hx k276 (H 23 rfl) (flt (by decide)).1
      have k278 := f_il X271 hx k277 (H 24 rfl) rfl
      have k279 := f_alN X271 hx k278 (H 25 rfl) rfl
      have k280 := f_ilN X271 hx k279 (H 26 rfl) rfl
      have k281 := f_ial X271 hx hZ e271 V271 k280 (H 27 rfl) (v := t21) (by decide) rfl
      by_cases qi1 : q3 < t21
      · have k282 := f_icN X271 hx k281 (H 28 rfl) (tlt qi1).2.1
        have k283 := f_alN X271 hx k282 (H 29 rfl) rfl
        have k284 := f_ilN X271 hx k283 (H 30 rfl) rfl
        have k285 := f_ic X271 hx k284 (H 31 rfl) (v := 1) rfl
        have k286 := f_iadd X271 hx k285 (H 32 rfl) (r := 2) (by decide)
        have k287 := f_alN X271 hx k286 (H 33 rfl) rfl
        have k288 := f_ilN X271 hx k287 (H 34 rfl) rfl
        have k289 := f_ial X271 hx hZ e271 V271 k288 (H 35 rfl) (v := t21) (by decide) rfl
        obtain ⟨T290, h290, L290, X290, e290, W290, V290, N290, Z290, k290⟩ := f_ist X271 hx hZ e271 V271 N271 ge_a1 Z271 k289 (H 36 rfl) (by decide) 2 rfl (lt_b rfl)
        have K291 := kw K272 W290 0 rfl
        have k292 := f_go X290 hx k290 (H 37 rfl) (pc' := 30) (by decide)
        have k293 := f_inc X290 hx k292 (H 20 rfl) rfl (l' := #[sr a1, si 0, si 4, si 0, si 3, si q3]) rfl
        have k294 := f_ilN X290 hx k293 (H 21 rfl) rfl
        have k295 := f_ilN X290 hx k294 (H 22 rfl) rfl
        have k296 := f_icN X290 hx k295 (H 23 rfl) (flt (by decide)).1
        have k297 := f_il X290 hx k296 (H 24 rfl) rfl
        have k298 := f_alN X290 hx k297 (H 25 rfl) rfl
        have k299 := f_ilN X290 hx k298 (H 26 rfl) rfl
        have k300 := f_ial X290 hx hZ e290 V290 k299 (H 27 rfl) (v := t20) (by decide) rfl
        by_cases qi2 : q3 < t20
        · have k301 := f_icN X290 hx k300 (H 28 rfl) (tlt qi2).2.1
          have k302 := f_alN X290 hx k301 (H 29 rfl) rfl
          have k303 := f_ilN X290 hx k302 (H 30 rfl) rfl
          have k304 := f_ic X290 hx k303 (H 31 rfl) (v := 1) rfl
          have k305 := f_iadd X290 hx k304 (H 32 rfl) (r := 1) (by decide)
          have k306 := f_alN X290 hx k305 (H 33 rfl) rfl
          have k307 := f_ilN X290 hx k306 (H 34 rfl) rfl
          have k308 := f_ial X290 hx hZ e290 V290 k307 (H 35 rfl) (v := t20) (by decide) rfl
          obtain ⟨T309, h309, L309, X309, e309, W309, V309, N309, Z309, k309⟩ := f_ist X290 hx hZ e290 V290 N290 ge_a1 Z290 k308 (H 36 rfl) (by decide) 1 rfl (lt_b rfl)
          have K310 := kw K291 W309 0 rfl
          have k311 := f_go X309 hx k309 (H 37 rfl) (pc' := 30) (by decide)
          have k312 := f_inc X309 hx k311 (H 20 rfl) rfl (l' := #[sr a1, si 0, si 4, si (-1), si 3, si q3]) rfl
          have k313 := f_ilN X309 hx k312 (H 21 rfl) rfl
          have k314 := f_ilN X309 hx k313 (H 22 rfl) rfl
          have k315 := f_icY X309 hx k314 (H 23 rfl) (pc' := 57) (tlt (by decide)).1 (by decide)
          have k316 := f_alN X309 hx k315 (H 38 rfl) rfl
          have k317 := f_ilN X309 hx k316 (H 39 rfl) rfl
          have k318 := f_ic X309 hx k317 (H 40 rfl) (v := 1) rfl
          have k319 := f_iadd X309 hx k318 (H 41 rfl) (r := 0) (by decide)
          have k320 := f_il X309 hx k319 (H 42 rfl) rfl
          obtain ⟨T321, h321, L321, X321, e321, W321, V321, N321, Z321, k321⟩ := f_ist X309 hx hZ e309 V309 N309 ge_a1 Z309 k320 (H 43 rfl) (by decide) 0 rfl (lt_b rfl)
          have K322 := kw K310 W321 0 rfl
          have k323 := f_go X321 hx k321 (H 44 rfl) (pc' := 3) (by decide)
          exact ⟨T321, h321, _, q3, t20, t21, t22, (-1 : Int32), X321, e321, N321, Z321, V321, K322, k323⟩
        · have k324 := f_icY X290 hx k300 (H 28 rfl) (pc' := 57) (flt qi2).2.1 (by decide)
          have k325 := f_alN X290 hx k324 (H 38 rfl) rfl
          have k326 := f_ilN X290 hx k325 (H 39 rfl) rfl
          have k327 := f_ic X290 hx k326 (H 40 rfl) (v := 1) rfl
          have k328 := f_iadd X290 hx k327 (H 41 rfl) (r := 1) (by decide)
          have k329 := f_il X290 hx k328 (H 42 rfl) rfl
          obtain ⟨T330, h330, L330, X330, e330, W330, V330, N330, Z330, k330⟩ := f_ist X290 hx hZ e290 V290 N290 ge_a1 Z290 k329 (H 43 rfl) (by decide) 1 rfl (lt_b rfl)
          have K331 := kw K291 W330 0 rfl
          have k332 := f_go X330 hx k330 (H 44 rfl) (pc' := 3) (by decide)
          exact ⟨T330, h330, _, t20, q3, t21, t22, (0 : Int32), X330, e330, N330, Z330, V330, K331, k332⟩
      · have k333 := f_icY X271 hx k281 (H 28 rfl) (pc' := 57) (flt qi1).2.1 (by decide)
        have k334 := f_alN X271 hx k333 (H 38 rfl) rfl
        have k335 := f_ilN X271 hx k334 (H 39 rfl) rfl
        have k336 := f_ic X271 hx k335 (H 40 rfl) (v := 1) rfl
        have k337 := f_iadd X271 hx k336 (H 41 rfl) (r := 2) (by decide)
        have k338 := f_il X271 hx k337 (H 42 rfl) rfl
        obtain ⟨T339, h339, L339, X339, e339, W339, V339, N339, Z339, k339⟩ := f_ist X271 hx hZ e271 V271 N271 ge_a1 Z271 k338 (H 43 rfl) (by decide) 2 rfl (lt_b rfl)
        have K340 := kw K272 W339 0 rfl
        have k341 := f_go X339 hx k339 (H 44 rfl) (pc' := 3) (by decide)
        exact ⟨T339, h339, _, t20, t21, q3, t22, (1 : Int32), X339, e339, N339, Z339, V339, K340, k341⟩
    · have k342 := f_icY X172 hx k252 (H 19 rfl) (pc' := 64) (flt qz).2.1 (by decide)
      have k343 := f_go X172 hx k342 (H 44 rfl) (pc' := 3) (by decide)
      exact ⟨T172, h172, _, t20, t21, t22, q3, (3 : Int32), X172, e172, N172, Zq172, F235, F236, k343⟩
  have k346 := f_inc X253 hx kq253 (H 2 rfl) rfl (l' := #[sr a1, si 0, si 4, si ix3, si 4, si q3]) rfl
  have k347 := f_il X253 hx k346 (H 3 rfl) rfl
  have k348 := f_ilN X253 hx k347 (H 4 rfl) rfl
  have k349 := f_icY X253 hx k348 (H 5 rfl) (pc' := 67) (flt (by decide)).2.1 (by decide)
  exact fin_v X253 hx hrt hlk k349 (H 6 rfl) (by rw [e253]; exact ⟨t30, t31, t32, t33, rfl, N253, F345, F344⟩) (by decide) (by decide)
def Q_dps4 (Z : State) (a1 : Addr) (k1 : ClassId) (q0 q1 q2 q3 : Int32) (h0 : Heap) (n0 : Nat) (v : Option Value) (h : Heap) (L : List Loc) : Prop := ∃ (r0 : Int32) (r1 : Int32) (r2 : Int32) (r3 : Int32), v = none ∧ Fr n0 L ∧ Keep h0 h [a1] ∧ Arv Z h a1 k1 .int (4 : Int32) [(.int r0), (.int r1), (.int r2), (.int r3)] zI
theorem dps4 (l : Launch) (Z : State) (a0 : Array Value) (hw : HW Z a0) (ws : List Jvm.Cond) (a1 : Addr) (k1 : ClassId) (q0 q1 q2 q3 : Int32) (h0 : Heap) (n0 : Nat) (Z0 : n0 ≤ h0.size) (Fk0 : Arv Z h0 a1 k1 .int (4 : Int32) [(.int q0), (.int q1), (.int q2), (.int q3)] zI) (ge_a1 : n0 ≤ a1) :
    Met l mn55 jdk_2529_method_4_code 21 none ws (rm 1 0 0 17) #[.null, (.ref a1), zI, zI, (.int (4 : Int32))] Z h0 (Q_dps4 Z a1 k1 q0 q1 q2 q3 h0 n0) := by
  refine Met.intro (plainFor_of_name pn_java_2futil_2fDualPivotQuicksort) ?_
  intro p e s m below meth c s₁ hx hby hml hZ hown hnm hrt hlk X0 e0
  have N0 := Fr.nil n0
  have hww := @hvw _ _ hw
  have k0 := k_e (p := p) (e := e) (below := below) (s := s₁) (ef_40_nRIII m a1 (0 : Int32) (0 : Int32) (4 : Int32))
  have K0 := Keep.refl h0 [a1]
  have H := @dch _ _ _ hby D40
  have k101 := f_il X0 hx k0 (H 0 rfl) rfl
  have k102 := f_ic X0 hx k101 (H 1 rfl) (v := 1) rfl
  have k103 := f_isub X0 hx k102 (H 2 rfl) (r := 3) (by decide)
  have k104 := f_is X0 hx k103 (H 3 rfl) (l' := #[.val .null, sr a1, si 0, si 0, si 4, si 3, un, un, un, un, un, un, un, un, un, un, un, un, un, un, un]) rfl
  have k105 := f_il X0 hx k104 (H 4 rfl) rfl
  have k106 := f_ilN X0 hx k105 (H 5 rfl) rfl
  have k107 := f_isub X0 hx k106 (H 6 rfl) (r := 4) (by decide)
  have k108 := f_is X0 hx k107 (H 7 rfl) (l' := #[.val .null, sr a1, si 0, si 0, si 4, si 3, si 4, un, un, un, un, un, un, un, un, un, un, un, un, un, un]) rfl
  have k109 := f_il X0 hx k108 (H 8 rfl) rfl
  have k110 := f_bp X0 hx k109 (H 9 rfl) (v := 65) rfl
  have k111 := f_ilN X0 hx k110 (H 10 rfl) rfl
  have k112 := f_iadd X0 hx k111 (H 11 rfl) (r := 65) (by decide)
  have k113 := f_icN X0 hx k112 (H 12 rfl) (tlt (by decide)).2.1
  have k114 := f_ilN X0 hx k113 (H 13 rfl) rfl
  have k115 := f_ic X0 hx k114 (H 14 rfl) (v := 1) rfl
  have k116 := f_iand X0 hx k115 (H 15 rfl) (r := 0) (by decide)
  have k117 := f_ifY X0 hx k116 (H 16 rfl) (pc' := 46) ((if0 _ _).trans (flt (by decide)).2.2.2) (by decide)
  have k118 := f_il X0 hx k117 (H 17 rfl) rfl
  have k119 := f_bp X0 hx k118 (H 18 rfl) (v := 44) rfl
  have k120 := f_icN X0 hx k119 (H 19 rfl) (tlt (by decide)).2.1
  have k121 := f_alN X0 hx k120 (H 20 rfl) rfl
  have k122 := f_ilN X0 hx k121 (H 21 rfl) rfl
  have k123 := f_il X0 hx k122 (H 22 rfl) rfl
  obtain ⟨_, T124, L124, X124, hQ124, k124⟩ := c_S (W := 0) X0 hx hZ hown (hww 294 rfl) (hww 295 rfl) (hww 289 rfl) (hww 296 rfl) (by decide) (ins4 l Z a0 hw [] a1 k1 q0 q1 q2 q3 h0 n0 Z0 Fk0 ge_a1) e0 (argsL := [(.ref a1), zI, (.int (4 : Int32))]) (rest := []) rfl (by rw [hml]; rfl) k123 rfl (H 23 rfl) (lenOf pd__28_5bIII_29V rfl) (b5 rfl)
  obtain ⟨h124, e124⟩ : ∃ h', T124.heap = h' := ⟨_, rfl⟩
  rw [e124] at hQ124
  obtain ⟨r0124, r1124, r2124, r3124, rfl, N124q, K124, R124_0⟩ := hQ124
  have N125 := Fr.app N0 N124q
  have Z126 : n0 ≤ h124.size := Nat.le_trans Z0 K124.1
  have K127 := Keep.trans K0 K124 (allS (oL 0 rfl) all0)
  exact fin_v X124 hx hrt hlk k124 (H 24 rfl) (by rw [e124]; exact ⟨r0124, r1124, r2124, r3124, rfl, N125, K127, R124_0⟩) (by decide) (by decide)
def Q_dpq4 (Z : State) (a1 : Addr) (k1 : ClassId) (q0 q1 q2 q3 : Int32) (h0 : Heap) (n0 : Nat) (v : Option Value) (h : Heap) (L : List Loc) : Prop := ∃ (r0 : Int32) (r1 : Int32) (r2 : Int32) (r3 : Int32), v = none ∧ Fr n0 L ∧ Keep h0 h [a1] ∧ Arv Z h a1 k1 .int (4 : Int32) [(.int r0), (.int r1), (.int r2), (.int r3)] zI
theorem dpq4 (l : Launch) (Z : State) (a0 : Array Value) (hw : HW Z a0) (ws : List Jvm.Cond) (a1 : Addr) (k1 : ClassId) (q0 q1 q2 q3 : Int32) (h0 : Heap) (n0 : Nat) (Z0 : n0 ≤ h0.size) (Fk0 : Arv Z h0 a1 k1 .int (4 : Int32) [(.int q0), (.int q1), (.int q2), (.int q3)] zI) (ge_a1 : n0 ≤ a1) :
    Met l mn56 jdk_2529_method_3_code 7 none ws (rm 2 0 0 49) #[(.ref a1), zI, zI, (.int (4 : Int32))] Z h0 (Q_dpq4 Z a1 k1 q0 q1 q2 q3 h0 n0) := by
  refine Met.intro (plainFor_of_name pn_java_2futil_2fDualPivotQuicksort) ?_
  intro p e s m below meth c s₁ hx hby hml hZ hown hnm hrt hlk X0 e0
  have N0 := Fr.nil n0
  have hww := @hvw _ _ hw
  have k0 := k_e (p := p) (e := e) (below := below) (s := s₁) (ef_39_RIII m a1 (0 : Int32) (0 : Int32) (4 : Int32))
  have K0 := Keep.refl h0 [a1]
  have H := @dch _ _ _ hby D39
  have k101 := f_ilN X0 hx k0 (H 0 rfl) rfl
  have k102 := f_ilN X0 hx k101 (H 1 rfl) rfl
  have k103 := f_isub X0 hx k102 (H 2 rfl) (r := 4) (by decide)
  have k104 := f_is X0 hx k103 (H 3 rfl) (l' := #[sr a1, si 0, si 0, si 4, si 4, un, un]) rfl
  have k105 := f_ilN X0 hx k104 (H 4 rfl) rfl
  have k106 := f_ic X0 hx k105 (H 5 rfl) (v := 1) rfl
  have k107 := f_icY X0 hx k106 (H 6 rfl) (pc' := 68) (flt (by decide)).2.2.2 (by decide)
  have k108 := f_an X0 hx k107 (H 7 rfl)
  have k109 := f_alN X0 hx k108 (H 8 rfl) rfl
  have k110 := f_ic X0 hx k109 (H 9 rfl) (v := 0) rfl
  have k111 := f_ilN X0 hx k110 (H 10 rfl) rfl
  have k112 := f_ilN X0 hx k111 (H 11 rfl) rfl
  obtain ⟨_, T113, L113, X113, hQ113, k113⟩ := c_S (W := 0) X0 hx hZ hown (hww 291 rfl) (hww 292 rfl) (hww 289 rfl) (hww 293 rfl) (by decide) (dps4 l Z a0 hw [] a1 k1 q0 q1 q2 q3 h0 n0 Z0 Fk0 ge_a1) e0 (argsL := [.null, (.ref a1), zI, zI, (.int (4 : Int32))]) (rest := []) rfl (by rw [hml]; rfl) k112 rfl (H 12 rfl) (lenOf pd__28Ljava_2futil_2fDualPivotQuicksort_24Sorter_3b_5bIIII_29V rfl) (b5 rfl)
  obtain ⟨h113, e113⟩ : ∃ h', T113.heap = h' := ⟨_, rfl⟩
  rw [e113] at hQ113
  obtain ⟨r0113, r1113, r2113, r3113, rfl, N113q, K113, R113_0⟩ := hQ113
  have N114 := Fr.app N0 N113q
  have Z115 : n0 ≤ h113.size := Nat.le_trans Z0 K113.1
  have K116 := Keep.trans K0 K113 (allS (oL 0 rfl) all0)
  exact fin_v X113 hx hrt hlk k113 (H 13 rfl) (by rw [e113]; exact ⟨r0113, r1113, r2113, r3113, rfl, N114, K116, R113_0⟩) (by decide) (by decide)
def Q_srt4 (Z : State) (a1 : Addr) (k1 : ClassId) (q0 q1 q2 q3 : Int32) (h0 : Heap) (n0 : Nat) (v : Option Value) (h : Heap) (L : List Loc) : Prop := ∃ (r0 : Int32) (r1 : Int32) (r2 : Int32) (r3 : Int32), v = none ∧ Fr n0 L ∧ Keep h0 h [a1] ∧ Arv Z h a1 k1 .int (4 : Int32) [(.int r0), (.int r1), (.int r2), (.int r3)] zI
theorem srt4 (l : Launch) (Z : State) (a0 : Array Value) (hw : HW Z a0) (ws : List Jvm.Cond) (a1 : Addr) (k1 : ClassId) (q0 q1 q2 q3 : Int32) (h0 : Heap) (n0 : Nat) (Z0 : n0 ≤ h0.size) (Fk0 : Arv Z h0 a1 k1 .int (4 : Int32) [(.int q0), (.int q1), (.int q2), (.int q3)] zI) (ge_a1 : n0 ≤ a1) :
    Met l mn57 jdk_65_method_2_code 1 none ws (rm 3 0 0 67) #[(.ref a1)] Z h0 (Q_srt4 Z a1 k1 q0 q1 q2 q3 h0 n0) := by
  refine Met.intro (plainFor_of_name pn_java_2futil_2fArrays) ?_
  intro p e s m below meth c s₁ hx hby hml hZ hown hnm hrt hlk X0 e0
  have N0 := Fr.nil n0
  have hww := @hvw _ _ hw
  have k0 := k_e (p := p) (e := e) (below := below) (s := s₁) (ef_38_R m a1)
  have K0 := Keep.refl h0 [a1]
  have H := @dch _ _ _ hby D38
  have k101 := f_alN X0 hx k0 (H 0 rfl) rfl
  have k102 := f_ic X0 hx k101 (H 1 rfl) (v := 0) rfl
  have k103 := f_ic X0 hx k102 (H 2 rfl) (v := 0) rfl
  have k104 := f_alN X0 hx k103 (H 3 rfl) rfl
  have k105 := f_len X0 hx hZ e0 Fk0 k104 (H 4 rfl)
  obtain ⟨_, T106, L106, X106, hQ106, k106⟩ := c_S (W := 0) X0 hx hZ hown (hww 287 rfl) (hww 288 rfl) (hww 289 rfl) (hww 290 rfl) (by decide) (dpq4 l Z a0 hw [] a1 k1 q0 q1 q2 q3 h0 n0 Z0 Fk0 ge_a1) e0 (argsL := [(.ref a1), zI, zI, (.int (4 : Int32))]) (rest := []) rfl (by rw [hml]; rfl) k105 rfl (H 5 rfl) (lenOf pd__28_5bIIII_29V rfl) (b5 rfl)
  obtain ⟨h106, e106⟩ : ∃ h', T106.heap = h' := ⟨_, rfl⟩
  rw [e106] at hQ106
  obtain ⟨r0106, r1106, r2106, r3106, rfl, N106q, K106, R106_0⟩ := hQ106
  have N107 := Fr.app N0 N106q
  have Z108 : n0 ≤ h106.size := Nat.le_trans Z0 K106.1
  have K109 := Keep.trans K0 K106 (allS (oL 0 rfl) all0)
  exact fin_v X106 hx hrt hlk k106 (H 6 rfl) (by rw [e106]; exact ⟨r0106, r1106, r2106, r3106, rfl, N107, K109, R106_0⟩) (by decide) (by decide)
theorem ef_22_RRR (m : MethodId) (x0 : Addr) (x1 : Addr) (x2 : Addr) : entryFrame m #[(.ref x0), (.ref x1), (.ref x2)] 7 = mkF m 0 #[.val (.ref x0), .val (.ref x1), .val (.ref x2), .unset, .unset, .unset, .unset] [] := by first | (simp [entryFrame, mkF, argsToLocals, Value.category]; done) | rfl
theorem pd__28_29Ljava_2flang_2fString_3b : parseMethodDescriptor "()Ljava/lang/String;" = some ⟨[], some (.object "java/lang/String")⟩ := by decide +kernel
theorem pd__28I_29Ljava_2flang_2fInteger_3b : parseMethodDescriptor "(I)Ljava/lang/Integer;" = some ⟨[.int], some (.object "java/lang/Integer")⟩ := by decide +kernel
theorem pd__28Ljava_2flang_2fObject_3bLjava_2flang_2fObject_3b_29Ljava_2flang_2fObject_3b : parseMethodDescriptor "(Ljava/lang/Object;Ljava/lang/Object;)Ljava/lang/Object;" = some ⟨[(.object "java/lang/Object"), (.object "java/lang/Object")], some (.object "java/lang/Object")⟩ := by decide +kernel
theorem pd__28I_29I : parseMethodDescriptor "(I)I" = some ⟨[.int], some .int⟩ := by decide +kernel
theorem pd__28_29Ljava_2futil_2fCollection_3b : parseMethodDescriptor "()Ljava/util/Collection;" = some ⟨[], some (.object "java/util/Collection")⟩ := by decide +kernel
theorem pd__28_29Ljava_2futil_2fIterator_3b : parseMethodDescriptor "()Ljava/util/Iterator;" = some ⟨[], some (.object "java/util/Iterator")⟩ := by decide +kernel
theorem pd__28_29Ljava_2flang_2fObject_3b : parseMethodDescriptor "()Ljava/lang/Object;" = some ⟨[], some (.object "java/lang/Object")⟩ := by decide +kernel
theorem pd__28_5bII_29_5bI : parseMethodDescriptor "([II)[I" = some ⟨[(.array .int), .int], some (.array .int)⟩ := by decide +kernel
theorem pd__28_5bI_29V : parseMethodDescriptor "([I)V" = some ⟨[(.array .int)], none⟩ := by decide +kernel
def Q_jri (Z : State) (a1 ls : Addr) (nn lm : Int32) (ev : Value) (ea : Addr) (ka : ClassId) (do0 id0 ib0 : Addr) (ik0 : ClassId) (ch0 : Int32) (do1 id1 ib1 : Addr) (ik1 : ClassId) (ch1 : Int32) (do2 id2 ib2 : Addr) (ik2 : ClassId) (ch2 : Int32) (mp tb : Addr) (kt : ClassId) (mc : Int32) (nd0 ky0 yb0 : Addr) (yk0 : ClassId) (bx0 : Addr) (r0 : Int32) (nd1 ky1 yb1 : Addr) (yk1 : ClassId) (bx1 : Addr) (r1 : Int32) (nd2 ky2 yb2 : Addr) (yk2 : ClassId) (bx2 : Addr) (r2 : Int32) (nd3 ky3 yb3 : Addr) (yk3 : ClassId) (bx3 : Addr) (r3 cs : Int32) (ca : Addr) (ce : Cell) (h0 : Heap) (n0 : Nat) (v : Option Value) (h : Heap) (L : List Loc) : Prop := ∃ (bg : Addr) (kg : ClassId) (gl : List Value) (g0 : Int32) (g1 : Int32) (g2 : Int32) (bi : Addr) (ki : ClassId) (il : List Value) (cn : Int32), v = none ∧ Fr n0 L ∧ Keep h0 h [a1, mp, id0, id1, id2] ∧ OBJ Z h a1 "com/example/multinomial/multinomial/eval/JudgedRanking" lyJR [(.ref bg), (.ref bi)] ∧ Arv Z h bg kg .int nn gl zI ∧ Arv Z h bi ki .int cn il zI ∧ ((nn = (0 : Int32) ∧ gl = []) ∨ (nn = (1 : Int32) ∧ gl = [(.int g0)]) ∨ (nn = (2 : Int32) ∧ gl = [(.int g0), (.int g1)]) ∨ (nn = (3 : Int32) ∧ gl = [(.int g0), (.int g1), (.int g2)])) ∧ ((0 : Int32) < nn → g0 = (if ch0 = (97 : Int32) then (if r0 < (0 : Int32) then (0 : Int32) else r0) else (0 : Int32))) ∧ ((1 : Int32) < nn → g1 = (if ch1 = (98 : Int32) then (if r1 < (0 : Int32) then (0 : Int32) else r1) else (0 : Int32))) ∧ ((2 : Int32) < nn → g2 = (if ch2 = (99 : Int32) then (if r2 < (0 : Int32) then (0 : Int32) else r2) else (0 : Int32))) ∧ (cn = ((((0 : Int32) + (if (0 : Int32) < r0 then (1 : Int32) else (0 : Int32))) + (if (0 : Int32) < r1 then (1 : Int32) else (0 : Int32))) + (if (0 : Int32) < r2 then (1 : Int32) else (0 : Int32))) + (if (0 : Int32) < r3 then (1 : Int32) else (0 : Int32)))
theorem jri (l : Launch) (Z : State) (a0 : Array Value) (hw : HW Z a0) (ws : List Jvm.Cond) (a1 ls : Addr) (nn lm : Int32) (ev : Value) (ea : Addr) (ka : ClassId) (do0 id0 ib0 : Addr) (ik0 : ClassId) (ch0 : Int32) (do1 id1 ib1 : Addr) (ik1 : ClassId) (ch1 : Int32) (do2 id2 ib2 : Addr) (ik2 : ClassId) (ch2 : Int32) (mp tb : Addr) (kt : ClassId) (mc : Int32) (nd0 ky0 yb0 : Addr) (yk0 : ClassId) (bx0 : Addr) (r0 : Int32) (nd1 ky1 yb1 : Addr) (yk1 : ClassId) (bx1 : Addr) (r1 : Int32) (nd2 ky2 yb2 : Addr) (yk2 : ClassId) (bx2 : Addr) (r2 : Int32) (nd3 ky3 yb3 : Addr) (yk3 : ClassId) (bx3 : Addr) (r3 cs : Int32) (ca : Addr) (ce : Cell) (h0 : Heap) (n0 : Nat) (Z0 : n0 ≤ h0.size) (Fk0 : OBJ Z h0 a1 "com/example/multinomial/multinomial/eval/JudgedRanking" lyJR [.null, .null]) (Fk1 : OBJ Z h0 mp "java/util/HashMap" lyMP [(.ref tb), (.int (4 : Int32)), (.int mc), (.int (12 : Int32)), .null, (.float (1061158912 : UInt32))]) (ge_a1 : n0 ≤ a1) (ge_mp : n0 ≤ mp) (ge_id0 : n0 ≤ id0) (ge_id1 : n0 ≤ id1) (ge_id2 : n0 ≤ id2) (ne_a1_mp : a1 ≠ mp) (Lz0 : Arv Z h0 tb kt (.object "java/util/HashMap$Node") (16 : Int32) [.null, (.ref nd0), (.ref nd1), (.ref nd2), (.ref nd3), .null, .null, .null, .null, .null, .null, .null, .null, .null, .null, .null] .null) (Lz1 : OBJ Z h0 nd0 "java/util/HashMap$Node" lyND [(.int (97 : Int32)), (.ref ky0), (.ref bx0), .null]) (Lz2 : OBJ Z h0 ky0 "java/lang/String" lyST [(.ref yb0), zI, (.int (97 : Int32)), zI]) (Lz3 : Arv Z h0 yb0 yk0 .byte (1 : Int32) [(.int (97 : Int32))] zI) (Lz4 : OBJ Z h0 bx0 "java/lang/Integer" lyIG [(.int r0)]) (Lz5 : OBJ Z h0 nd1 "java/util/HashMap$Node" lyND [(.int (98 : Int32)), (.ref ky1), (.ref bx1), .null]) (Lz6 : OBJ Z h0 ky1 "java/lang/String" lyST [(.ref yb1), zI, (.int (98 : Int32)), zI]) (Lz7 : Arv Z h0 yb1 yk1 .byte (1 : Int32) [(.int (98 : Int32))] zI) (Lz8 : OBJ Z h0 bx1 "java/lang/Integer" lyIG [(.int r1)]) (Lz9 : OBJ Z h0 nd2 "java/util/HashMap$Node" lyND [(.int (99 : Int32)), (.ref ky2), (.ref bx2), .null]) (Lz10 : OBJ Z h0 ky2 "java/lang/String" lyST [(.ref yb2), zI, (.int (99 : Int32)), zI]) (Lz11 : Arv Z h0 yb2 yk2 .byte (1 : Int32) [(.int (99 : Int32))] zI) (Lz12 : OBJ Z h0 bx2 "java/lang/Integer" lyIG [(.int r2)]) (Lz13 : OBJ Z h0 nd3 "java/util/HashMap$Node" lyND [(.int (100 : Int32)), (.ref ky3), (.ref bx3), .null]) (Lz14 : OBJ Z h0 ky3 "java/lang/String" lyST [(.ref yb3), zI, (.int (100 : Int32)), zI]) (Lz15 : Arv Z h0 yb3 yk3 .byte (1 : Int32) [(.int (100 : Int32))] zI) (Lz16 : OBJ Z h0 bx3 "java/lang/Integer" lyIG [(.int r3)]) (nw_tb : tb ∉ [a1, mp, id0, id1, id2]) (nw_nd0 : nd0 ∉ [a1, mp, id0, id1, id2]) (nw_ky0 : ky0 ∉ [a1, mp, id0, id1, id2]) (nw_yb0 : yb0 ∉ [a1, mp, id0, id1, id2]) (nw_bx0 : bx0 ∉ [a1, mp, id0, id1, id2]) (nw_nd1 : nd1 ∉ [a1, mp, id0, id1, id2]) (nw_ky1 : ky1 ∉ [a1, mp, id0, id1, id2]) (nw_yb1 : yb1 ∉ [a1, mp, id0, id1, id2]) (nw_bx1 : bx1 ∉ [a1, mp, id0, id1, id2]) (nw_nd2 : nd2 ∉ [a1, mp, id0, id1, id2]) (nw_ky2 : ky2 ∉ [a1, mp, id0, id1, id2]) (nw_yb2 : yb2 ∉ [a1, mp, id0, id1, id2]) (nw_bx2 : bx2 ∉ [a1, mp, id0, id1, id2]) (nw_nd3 : nd3 ∉ [a1, mp, id0, id1, id2]) (nw_ky3 : ky3 ∉ [a1, mp, id0, id1, id2]) (nw_yb3 : yb3 ∉ [a1, mp, id0, id1, id2]) (nw_bx3 : bx3 ∉ [a1, mp, id0, id1, id2]) (Scs : Sta Z Z.heap "java/lang/String" "COMPACT_STRINGS" "Z" (.int cs)) (hcs : ¬ (cs = (0 : Int32))) (Shi : Sta Z Z.heap "java/lang/Integer$IntegerCache" "high" "I" (.int (127 : Int32))) (Sca : Sta Z Z.heap "java/lang/Integer$IntegerCache" "cache" "[Ljava/lang/Integer;" (.ref ca)) (Bx : Bxs Z ca ce "java/lang/Integer" "I" (256 : Int32) (fun j => .int (j - (128 : Int32)))) (LB : (nn = (0 : Int32) ∧ OBJ Z h0 ls "java/util/ArrayList" lyLS [(.int lm), ev, zI] ∧ ls ∉ [a1, mp, id0, id1, id2]) ∨ (nn = (1 : Int32) ∧ OBJ Z h0 ls "java/util/ArrayList" lyLS [(.int lm), (.ref ea), (.int (1 : Int32))] ∧ Arv Z h0 ea ka (.object "java/lang/Object") (10 : Int32) [(.ref do0), .null, .null, .null, .null, .null, .null, .null, .null, .null] .null ∧ OBJ Z h0 do0 "com/example/multinomial/multinomial/search/ScoredDocument" lySD [(.ref id0), (.double (4613937818241073152 : UInt64))] ∧ Arv Z h0 ib0 ik0 .byte (1 : Int32) [(.int ch0)] zI ∧ OBJ Z h0 id0 "java/lang/String" lyST [(.ref ib0), zI, zI, zI] ∧ ls ∉ [a1, mp, id0, id1, id2] ∧ ea ∉ [a1, mp, id0, id1, id2] ∧ do0 ∉ [a1, mp, id0, id1, id2] ∧ ib0 ∉ [a1, mp, id0, id1, id2] ∧ a1 ≠ id0 ∧ mp ≠ id0 ∧ (ch0 = (97 : Int32) ∨ ch0 = (120 : Int32))) ∨ (nn = (2 : Int32) ∧ OBJ Z h0 ls "java/util/ArrayList" lyLS [(.int lm), (.ref ea), (.int (2 : Int32))] ∧ Arv Z h0 ea ka (.object "java/lang/Object") (10 : Int32) [(.ref do0), (.ref do1), .null, .null, .null, .null, .null, .null, .null, .null] .null ∧ OBJ Z h0 do0 "com/example/multinomial/multinomial/search/ScoredDocument" lySD [(.ref id0), (.double (4613937818241073152 : UInt64))] ∧ OBJ Z h0 do1 "com/example/multinomial/multinomial/search/ScoredDocument" lySD [(.ref id1), (.double (4611686018427387904 : UInt64))] ∧ Arv Z h0 ib0 ik0 .byte (1 : Int32) [(.int ch0)] zI ∧ Arv Z h0 ib1 ik1 .byte (1 : Int32) [(.int ch1)] zI ∧ OBJ Z h0 id0 "java/lang/String" lyST [(.ref ib0), zI, zI, zI] ∧ OBJ Z h0 id1 "java/lang/String" lyST [(.ref ib1), zI, zI, zI] ∧ ls ∉ [a1, mp, id0, id1, id2] ∧ ea ∉ [a1, mp, id0, id1, id2] ∧ do0 ∉ [a1, mp, id0, id1, id2] ∧ do1 ∉ [a1, mp, id0, id1, id2] ∧ ib0 ∉ [a1, mp, id0, id1, id2] ∧ ib1 ∉ [a1, mp, id0, id1, id2] ∧ a1 ≠ id0 ∧ mp ≠ id0 ∧ a1 ≠ id1 ∧ mp ≠ id1 ∧ id0 ≠ id1 ∧ (ch0 = (97 : Int32) ∨ ch0 = (120 : Int32)) ∧ (ch1 = (98 : Int32) ∨ ch1 = (121 : Int32))) ∨ (nn = (3 : Int32) ∧ OBJ Z h0 ls "java/util/ArrayList" lyLS [(.int lm), (.ref ea), (.int (3 : Int32))] ∧ Arv Z h0 ea ka (.object "java/lang/Object") (10 : Int32) [(.ref do0), (.ref do1), (.ref do2), .null, .null, .null, .null, .null, .null, .null] .null ∧ OBJ Z h0 do0 "com/example/multinomial/multinomial/search/ScoredDocument" lySD [(.ref id0), (.double (4613937818241073152 : UInt64))] ∧ OBJ Z h0 do1 "com/example/multinomial/multinomial/search/ScoredDocument" lySD [(.ref id1), (.double (4611686018427387904 : UInt64))] ∧ OBJ Z h0 do2 "com/example/multinomial/multinomial/search/ScoredDocument" lySD [(.ref id2), (.double (4607182418800017408 : UInt64))] ∧ Arv Z h0 ib0 ik0 .byte (1 : Int32) [(.int ch0)] zI ∧ Arv Z h0 ib1 ik1 .byte (1 : Int32) [(.int ch1)] zI ∧ Arv Z h0 ib2 ik2 .byte (1 : Int32) [(.int ch2)] zI ∧ OBJ Z h0 id0 "java/lang/String" lyST [(.ref ib0), zI, zI, zI] ∧ OBJ Z h0 id1 "java/lang/String" lyST [(.ref ib1), zI, zI, zI] ∧ OBJ Z h0 id2 "java/lang/String" lyST [(.ref ib2), zI, zI, zI] ∧ ls ∉ [a1, mp, id0, id1, id2] ∧ ea ∉ [a1, mp, id0, id1, id2] ∧ do0 ∉ [a1, mp, id0, id1, id2] ∧ do1 ∉ [a1, mp, id0, id1, id2] ∧ do2 ∉ [a1, mp, id0, id1, id2] ∧ ib0 ∉ [a1, mp, id0, id1, id2] ∧ ib1 ∉ [a1, mp, id0, id1, id2] ∧ ib2 ∉ [a1, mp, id0, id1, id2] ∧ a1 ≠ id0 ∧ mp ≠ id0 ∧ a1 ≠ id1 ∧ mp ≠ id1 ∧ a1 ≠ id2 ∧ mp ≠ id2 ∧ id0 ≠ id1 ∧ id0 ≠ id2 ∧ id1 ≠ id2 ∧ (ch0 = (97 : Int32) ∨ ch0 = (120 : Int32)) ∧ (ch1 = (98 : Int32) ∨ ch1 = (121 : Int32)) ∧ (ch2 = (99 : Int32) ∨ ch2 = (122 : Int32)))) (O0 : Old Z n0 h0) :
    Met l mn66 prog_10_method_1_code 7 none ws (rm 5 9 24 79) #[(.ref a1), (.ref ls), (.ref mp)] Z h0 (Q_jri Z a1 ls nn lm ev ea ka do0 id0 ib0 ik0 ch0 do1 id1 ib1 ik1 ch1 do2 id2 ib2 ik2 ch2 mp tb kt mc nd0 ky0 yb0 yk0 bx0 r0 nd1 ky1 yb1 yk1 bx1 r1 nd2 ky2 yb2 yk2 bx2 r2 nd3 ky3 yb3 yk3 bx3 r3 cs ca ce h0 n0) := by
  refine Met.intro (plainFor_of_name pn_com_2fexample_2fmultinomial_2fmultinomial_2feval_2fJudgedRanking) ?_
  intro p e s m below meth c s₁ hx hby hml hZ hown hnm hrt hlk X0 e0
  have N0 := Fr.nil n0
  have hww := @hvw _ _ hw
  have k0 := k_e (p := p) (e := e) (below := below) (s := s₁) (ef_22_RRR m a1 ls mp)
  have K0 := Keep.refl h0 [a1, mp, id0, id1, id2]
  have H := @dch _ _ _ hby D22
  obtain ⟨T101, h101, Ls101, bg, kg, gl, g0, g1, g2, iz, X101, e101, N101, Zq101, F746, F747, F748, F749, F750, g751, hgl, hgv0, hgv1, hgv2, zbg, kq101⟩ : ∃ (T101 : State) (h101 : Heap) (Ls101 : List Loc) (bg : Addr) (kg : ClassId) (gl : List Value) (g0 : Int32) (g1 : Int32) (g2 : Int32) (iz : Int32), Stand p l e (rm 5 9 24 79) s m #[(.ref a1), (.ref ls), (.ref mp)] below meth c T101 Ls101 4 6 ∧ T101.heap = h101 ∧ Fr n0 Ls101 ∧ n0 ≤ h101.size ∧ OBJ Z h101 a1 "com/example/multinomial/multinomial/eval/JudgedRanking" lyJR [(.ref bg), .null] ∧ OBJ Z h101 mp "java/util/HashMap" lyMP [(.ref tb), (.int (4 : Int32)), (.int mc), (.int (12 : Int32)), .null, (.float (1061158912 : UInt32))] ∧ Arv Z h101 bg kg .int nn gl zI ∧ Keep h0 h101 [a1, mp, id0, id1, id2] ∧ Old Z n0 h101 ∧ n0 ≤ bg ∧ ((nn = (0 : Int32) ∧ gl = []) ∨ (nn = (1 : Int32) ∧ gl = [(.int g0)]) ∨ (nn = (2 : Int32) ∧ gl = [(.int g0), (.int g1)]) ∨ (nn = (3 : Int32) ∧ gl = [(.int g0), (.int g1), (.int g2)])) ∧ (((0 : Int32) < nn → g0 = (if ch0 = (97 : Int32) then (if r0 < (0 : Int32) then (0 : Int32) else r0) else (0 : Int32)))) ∧ (((1 : Int32) < nn → g1 = (if ch1 = (98 : Int32) then (if r1 < (0 : Int32) then (0 : Int32) else r1) else (0 : Int32)))) ∧ (((2 : Int32) < nn → g2 = (if ch2 = (99 : Int32) then (if r2 < (0 : Int32) then (0 : Int32) else r2) else (0 : Int32)))) ∧ (h0.size ≤ bg) ∧ (Rt p e below T101 (mkF m 71 #[sr a1, sr ls, sr mp, si iz, un, un, un] []) s₁ m #[(.ref a1), (.ref ls), (.ref mp)] 7) := by
    rcases LB with ⟨rfl, Ld0, nw_ls⟩ | ⟨rfl, Ld0, Ld1, Ld2, Ld3, Le0, nw_ls, nw_ea, nw_do0, nw_ib0, ne_a1_id0, ne_mp_id0, hch0⟩ | ⟨rfl, Ld0, Ld1, Ld2, Ld3, Ld4, Ld5, Le0, Le1, nw_ls, nw_ea, nw_do0, nw_do1, nw_ib0, nw_ib1, ne_a1_id0, ne_mp_id0, ne_a1_id1, ne_mp_id1, ne_id0_id1, hch0, hch1⟩ | ⟨rfl, Ld0, Ld1, Ld2, Ld3, Ld4, Ld5, Ld6, Ld7, Le0, Le1, Le2, nw_ls, nw_ea, nw_do0, nw_do1, nw_do2, nw_ib0, nw_ib1, nw_ib2, ne_a1_id0, ne_mp_id0, ne_a1_id1, ne_mp_id1, ne_a1_id2, ne_mp_id2, ne_id0_id1, ne_id0_id2, ne_id1_id2, hch0, hch1, hch2⟩
    · have k102 := f_alN X0 hx k0 (H 0 rfl) rfl
      obtain ⟨T103, X103, e103, st103⟩ := initO X0 hx hZ hown (hww 150 rfl) (hww 19 rfl) (hww 20 rfl) e0 (g := (mkF m 1 #[sr a1, sr ls, sr mp, un, un, un, un] [vR a1])) rfl (by rw [hml]; rfl) rfl (H 1 rfl) (by decide) (W := 0) (by show 2 * 0 + _ ≤ _; exact Nat.le_of_eq rfl) (by decide)
      have k104 : Rt p e below T103 (mkF m 4 #[sr a1, sr ls, sr mp, un, un, un, un] []) s₁ m #[(.ref a1), (.ref ls), (.ref mp)] 7 := fun t k => k102 t (st103 t k)
      have k105 := f_alN X103 hx k104 (H 2 rfl) rfl
      have k106 := f_alN X103 hx k105 (H 3 rfl) rfl
      obtain ⟨_, T107, L107, X107, hQ107, k107⟩ := c_I (W := 1) (x := mn58) X103 hx hZ hown (hww 151 rfl) (hww 152 rfl) (hww 153 rfl) (hww 154 rfl) (hww 155 rfl) (hww 156 rfl) (hww 157 rfl) (hww 158 rfl) (hww 159 rfl) (hww 2 rfl) (by decide) Ld0.1 (asz l Z a0 hw [] ls (0 : Int32) h0 n0 Z0 (Ld0.g 2 (v := zI) (by decide) rfl rfl)) e103 (argsL := []) (rest := [(.ref a1)]) rfl (by rw [hml]; rfl) k106 rfl (H 4 rfl) (lenOf pd__28_29I rfl) (b5 rfl)
      obtain ⟨rfl, N107q, e107⟩ := hQ107
      have N108 := Fr.app N0 N107q
      obtain ⟨T109, h109, k109, X109, e109, E109, A109, Y109, st109⟩ := newPE X107 hx hZ (hww 162 rfl) e107 (g := (mkF m 11 #[sr a1, sr ls, sr mp, un, un, un, un] [vI 0, vR a1])) rfl (H 5 rfl) rfl (by decide) (cap := 0) (by decide) (by decide) (by decide) (by decide) (ad := "[I") (by decide)
      obtain ⟨b109, g109⟩ : ∃ z, z = h0.size := ⟨_, rfl⟩
      rw [← g109] at A109 Y109 st109
      have g110 : n0 ≤ b109 := Nat.le_trans Z0 (Nat.le_of_eq g109.symm)
      have z111 : h0.size ≤ b109 := Nat.le_trans K0.1 (Nat.le_of_eq g109.symm)
      have F112 := Fk0.ext E109
      have F113 := Fk1.ext E109
      have F114 := O0.ext E109
      have Z115 : n0 ≤ h109.size := Nat.le_trans Z0 E109.1
      have K116 := K0.ext E109
      have V117 : Arv Z h109 b109 k109 .int (0 : Int32) [] zI := (Arv.new A109 (by decide)).pad (pad_rep [] zI 0)
      have k118 : Rt p e below T109 (mkF m 13 #[sr a1, sr ls, sr mp, un, un, un, un] [vR b109, vR a1]) s₁ m #[(.ref a1), (.ref ls), (.ref mp)] 7 := fun t k => k107 t (st109 t k)
      obtain ⟨T119, h119, L119, X119, e119, W119, B119, N119, Z119, k119⟩ := f_pF X109 hx hZ hown (hww 163 rfl) Via.refl e109 F112 (snJR hw) (Or.inr ⟨(hww 164 rfl), rfl, hnm⟩) (hww 145 rfl) 0 (by decide) rfl rfl (ty := (.array .int)) (by decide) rfl rfl N108 ge_a1 Z115 k118 (H 6 rfl) rfl
      have F120 := F114.wr W119 ge_a1
      have F121 := V117.other W119 (nG Fk0.lt (Nat.le_of_eq g109.symm))
      have F122 := Y109.wr W119
      have K123 := kw K116 W119 0 rfl
      have B124 := F113.other W119 (Ne.symm ne_a1_mp)
      have k125 := f_ic X119 hx k119 (H 7 rfl) (v := 0) rfl
      have k126 := f_isN X119 hx k125 (H 8 rfl) (l' := #[sr a1, sr ls, sr mp, si 0, un, un, un]) rfl
      have k127 := f_ilN X119 hx k126 (H 9 rfl) rfl
      have k128 := f_alN X119 hx k127 (H 10 rfl) rfl
      obtain ⟨T129, X129, e129, k130⟩ := gFs X119 hx hZ hown (hww 163 rfl) e119 (B119.g 0 (v := (.ref b109)) (by decide) rfl rfl) k128 (H 11 rfl)
      have k131 := f_len X129 hx hZ e129 F121 k130 (H 12 rfl)
      have k132 := f_icY X129 hx k131 (H 13 rfl) (pc' := 71) (flt (by decide)).2.1 (by decide)
      exact ⟨T129, h119, _, b109, k109, [], (0 : Int32), (0 : Int32), (0 : Int32), (0 : Int32), (X129.more (by decide) (by decide)), e129, N119, Z119, B119, B124, F121, K123, F120, g110, (Or.inl ⟨rfl, rfl⟩), (fun q => absurd q (by decide)), (fun q => absurd q (by decide)), (fun q => absurd q (by decide)), z111, k132⟩
    · have k133 := f_alN X0 hx k0 (H 0 rfl) rfl
      obtain ⟨T134, X134, e134, st134⟩ := initO X0 hx hZ hown (hww 150 rfl) (hww 19 rfl) (hww 20 rfl) e0 (g := (mkF m 1 #[sr a1, sr ls, sr mp, un, un, un, un] [vR a1])) rfl (by rw [hml]; rfl) rfl (H 1 rfl) (by decide) (W := 0) (by show 2 * 0 + _ ≤ _; exact Nat.le_of_eq rfl) (by decide)
      have k135 : Rt p e below T134 (mkF m 4 #[sr a1, sr ls, sr mp, un, un, un, un] []) s₁ m #[(.ref a1), (.ref ls), (.ref mp)] 7 := fun t k => k133 t (st134 t k)
      have k136 := f_alN X134 hx k135 (H 2 rfl) rfl
      have k137 := f_alN X134 hx k136 (H 3 rfl) rfl
      obtain ⟨_, T138, L138, X138, hQ138, k138⟩ := c_I (W := 1) (x := mn58) X134 hx hZ hown (hww 151 rfl) (hww 152 rfl) (hww 153 rfl) (hww 154 rfl) (hww 155 rfl) (hww 156 rfl) (hww 157 rfl) (hww 158 rfl) (hww 159 rfl) (hww 2 rfl) (by decide) Ld0.1 (asz l Z a0 hw [] ls (1 : Int32) h0 n0 Z0 (Ld0.g 2 (v := (.int (1 : Int32))) (by decide) rfl rfl)) e134 (argsL := []) (rest := [(.ref a1)]) rfl (by rw [hml]; rfl) k137 rfl (H 4 rfl) (lenOf pd__28_29I rfl) (b5 rfl)
      obtain ⟨rfl, N138q, e138⟩ := hQ138
      have N139 := Fr.app N0 N138q
      obtain ⟨T140, h140, k140, X140, e140, E140, A140, Y140, st140⟩ := newPE X138 hx hZ (hww 162 rfl) e138 (g := (mkF m 11 #[sr a1, sr ls, sr mp, un, un, un, un] [vI 1, vR a1])) rfl (H 5 rfl) rfl (by decide) (cap := 1) (by decide) (by decide) (by decide) (by decide) (ad := "[I") (by decide)
      obtain ⟨b140, g140⟩ : ∃ z, z = h0.size := ⟨_, rfl⟩
      rw [← g140] at A140 Y140 st140
      have g141 : n0 ≤ b140 := Nat.le_trans Z0 (Nat.le_of_eq g140.symm)
      have z142 : h0.size ≤ b140 := Nat.le_trans K0.1 (Nat.le_of_eq g140.symm)
      have F143 := Fk0.ext E140
      have F144 := Fk1.ext E140
      have F145 := O0.ext E140
      have F146 := Le0.ext E140
      have Z147 : n0 ≤ h140.size := Nat.le_trans Z0 E140.1
      have K148 := K0.ext E140
      have V149 : Arv Z h140 b140 k140 .int (1 : Int32) [zI] zI := (Arv.new A140 (by decide)).pad (pad_rep [] zI 1)
      have k150 : Rt p e below T140 (mkF m 13 #[sr a1, sr ls, sr mp, un, un, un, un] [vR b140, vR a1]) s₁ m #[(.ref a1), (.ref ls), (.ref mp)] 7 := fun t k => k138 t (st140 t k)
      obtain ⟨T151, h151, L151, X151, e151, W151, B151, N151, Z151, k151⟩ := f_pF X140 hx hZ hown (hww 163 rfl) Via.refl e140 F143 (snJR hw) (Or.inr ⟨(hww 164 rfl), rfl, hnm⟩) (hww 145 rfl) 0 (by decide) rfl rfl (ty := (.array .int)) (by decide) rfl rfl N139 ge_a1 Z147 k150 (H 6 rfl) rfl
      have F152 := F145.wr W151 ge_a1
      have F153 := V149.other W151 (nG Fk0.lt (Nat.le_of_eq g140.symm))
      have F154 := Y140.wr W151
      have K155 := kw K148 W151 0 rfl
      have B156 := F144.other W151 (Ne.symm ne_a1_mp)
      have B157 := F146.other W151 (Ne.symm ne_a1_id0)
      have k158 := f_ic X151 hx k151 (H 7 rfl) (v := 0) rfl
      have k159 := f_isN X151 hx k158 (H 8 rfl) (l' := #[sr a1, sr ls, sr mp, si 0, un, un, un]) rfl
      have k160 := f_ilN X151 hx k159 (H 9 rfl) rfl
      have k161 := f_alN X151 hx k160 (H 10 rfl) rfl
      obtain ⟨T162, X162, e162, k163⟩ := gFs X151 hx hZ hown (hww 163 rfl) e151 (B151.g 0 (v := (.ref b140)) (by decide) rfl rfl) k161 (H 11 rfl)
      have k164 := f_len X162 hx hZ e162 F153 k163 (H 12 rfl)
      have k165 := f_icN X162 hx k164 (H 13 rfl) (tlt (by decide)).2.1
      have k166 := f_alN X162 hx k165 (H 14 rfl) rfl
      obtain ⟨T167, X167, e167, k168⟩ := gFs X162 hx hZ hown (hww 163 rfl) e162 (B151.g 0 (v := (.ref b140)) (by decide) rfl rfl) k166 (H 15 rfl)
      have k169 := f_ilN X167 hx k168 (H 16 rfl) rfl
      have k170 := f_alN X167 hx k169 (H 17 rfl) rfl
      have k171 := f_alN X167 hx k170 (H 18 rfl) rfl
      have k172 := f_ilN X167 hx k171 (H 19 rfl) rfl
      obtain ⟨_, T173, L173, X173, hQ173, k173⟩ := c_I (W := 3) (x := mn59) X167 hx hZ hown (hww 348 rfl) (hww 349 rfl) (hww 350 rfl) (hww 351 rfl) (hww 352 rfl) (hww 353 rfl) (hww 354 rfl) (hww 158 rfl) (hww 355 rfl) (hww 2 rfl) (by decide) (Ld0.keep K155 nw_ls).1 (aget0 l Z a0 hw [] ls ea ka do0 .null .null (1 : Int32) h151 n0 Z151 (Ld0.keep K155 nw_ls).1 ((Ld0.keep K155 nw_ls).g 1 (v := (.ref ea)) (by decide) rfl rfl) ((Ld0.keep K155 nw_ls).g 2 (v := (.int (1 : Int32))) (by decide) rfl rfl) (Ld1.keep K155 nw_ea) (by decide)) e167 (argsL := [zI]) (rest := [(.ref mp), zI, (.ref b140)]) rfl (by rw [hml]; rfl) k172 rfl (H 20 rfl) (lenOf pd__28I_29Ljava_2flang_2fObject_3b rfl) (b5 rfl)
      obtain ⟨rfl, N173q, e173⟩ := hQ173
      have N174 := Fr.app N151 N173q
      obtain ⟨T175, X175, e175, st175⟩ := castY X173 hx hZ hown (hww 369 rfl) e173 (Ins.self (Ld2.keep K155 nw_do0).1) (g := (mkF m 40 #[sr a1, sr ls, sr mp, si 0, un, un, un] [vR do0, vR mp, vI 0, vR b140])) rfl rfl (H 21 rfl)
      have k176 : Rt p e below T175 (mkF m 43 #[sr a1, sr ls, sr mp, si 0, un, un, un] [vR do0, vR mp, vI 0, vR b140]) s₁ m #[(.ref a1), (.ref ls), (.ref mp)] 7 := fun t k => k173 t (st175 t k)
      obtain ⟨_, T177, L177, X177, hQ177, k177⟩ := c_V (W := 3) (x := mn16) X175 hx hZ hown (hww 371 rfl) (hww 372 rfl) (notFace_of_selects (args := #[]) (mvT hZ (hww 374 rfl))) (hww 374 rfl) (hww 373 rfl) (hww 375 rfl) (hww 311 rfl) (by decide) (Ld2.keep K155 nw_do0).1 (sid l Z a0 hw [] do0 id0 h151 n0 Z151 ((Ld2.keep K155 nw_do0).g 0 (v := (.ref id0)) (by decide) rfl rfl)) e175 (argsL := []) (rest := [(.ref mp), zI, (.ref b140)]) rfl (by rw [hml]; rfl) k176 rfl (H 22 rfl) (lenOf pd__28_29Ljava_2flang_2fString_3b rfl) (b5 rfl)
      obtain ⟨rfl, N177q, e177⟩ := hQ177
      have N178 := Fr.app N174 N177q
      have k179 := f_ic X177 hx k177 (H 23 rfl) (v := 0) rfl
      obtain ⟨_, T180, L180, X180, hQ180, k180⟩ := c_S (W := 4) X177 hx hZ hown (hww 376 rfl) (hww 67 rfl) (hww 68 rfl) (hww 69 rfl) (by decide) (box l Z a0 hw [] (0 : Int32) ca ce h151 n0 Z151 Shi Sca Bx F152) e177 (argsL := [zI]) (rest := [(.ref id0), (.ref mp), zI, (.ref b140)]) rfl (by rw [hml]; rfl) k179 rfl (H 24 rfl) (lenOf pd__28I_29Ljava_2flang_2fInteger_3b rfl) (b5 rfl)
      obtain ⟨h180, e180⟩ : ∃ h', T180.heap = h' := ⟨_, rfl⟩
      rw [e180] at hQ180
      obtain ⟨b180, rfl, N180q, K180, R180_0, P180_0⟩ := hQ180
      have N181 := Fr.app N178 N180q
      have F182 := F152.keep K180 all0
      have F183 := F153.keep K180 nin0
      have F184 := F154.keep K180
      have F185 := B156.keep K180 nin0
      have F186 := B157.keep K180 nin0
      have F187 := B151.keep K180 nin0
      have Z188 : n0 ≤ h180.size := Nat.le_trans Z151 K180.1
      have K189 := Keep.trans K155 K180 all0
      obtain ⟨T190, h190, Ls190, g0, X190, e190, N190, Zq190, F222, F223, F224, F225, F226, F227, F228, hg0, kq190⟩ : ∃ (T190 : State) (h190 : Heap) (Ls190 : List Loc) (g0 : Int32), Stand p l e (rm 5 9 24 79) s m #[(.ref a1), (.ref ls), (.ref mp)] below meth c T190 Ls190 2 2 ∧ T190.heap = h190 ∧ Fr n0 Ls190 ∧ n0 ≤ h190.size ∧ Arv Z h190 b140 k140 .int (1 : Int32) [zI] zI ∧ Exa Z h190 b140 "[I" ∧ OBJ Z h190 mp "java/util/HashMap" lyMP [(.ref tb), (.int (4 : Int32)), (.int mc), (.int (12 : Int32)), .null, (.float (1061158912 : UInt32))] ∧ OBJ Z h190 id0 "java/lang/String" lyST [(.ref ib0), zI, (.int ch0), zI] ∧ OBJ Z h190 a1 "com/example/multinomial/multinomial/eval/JudgedRanking" lyJR [(.ref b140), .null] ∧ Keep h0 h190 [a1, mp, id0, id1, id2] ∧ Old Z n0 h190 ∧ (g0 = (if ch0 = (97 : Int32) then (if r0 < (0 : Int32) then (0 : Int32) else r0) else (0 : Int32))) ∧ (Rt p e below T190 (mkF m 64 #[sr a1, sr ls, sr mp, si 0, un, un, un] [vI g0, vI 0, vR b140]) s₁ m #[(.ref a1), (.ref ls), (.ref mp)] 7) := by
        rcases hch0 with rfl | rfl
        · obtain ⟨_, T191, L191, X191, hQ191, k191⟩ := c_I (W := 2) (x := mn60) X180 hx hZ hown (hww 377 rfl) (hww 378 rfl) (hww 379 rfl) (hww 380 rfl) (hww 381 rfl) (hww 382 rfl) (hww 383 rfl) (hww 172 rfl) (hww 384 rfl) (hww 28 rfl) (by decide) F185.1 (god1 l Z a0 hw [] mp id0 ib0 ik0 (97 : Int32) cs (1 : Int32) tb kt [.null, (.ref nd0), (.ref nd1), (.ref nd2), (.ref nd3), .null, .null, .null, .null, .null, .null, .null, .null, .null, .null, .null] nd0 bx0 ky0 yb0 yk0 b180 h180 n0 Z188 F185.1 (F185.g 0 (v := (.ref tb)) (by decide) rfl rfl) (Lz0.keep K189 nw_tb) F186 (Ld3.keep K189 nw_ib0) (Lz1.keep K189 nw_nd0) (Lz2.keep K189 nw_ky0) (Lz3.keep K189 nw_yb0) ge_id0 (Ne.symm (own_nn nw_ib0 (i := 2) rfl)) ne_mp_id0 (own_nn nw_tb (i := 2) rfl) (own_nn nw_nd0 (i := 2) rfl) (own_nn nw_ky0 (i := 2) rfl) (own_nn nw_yb0 (i := 2) rfl) (by decide) (by decide) (by decide) Scs hcs (by decide) (by decide) rfl F182) e180 (argsL := [(.ref id0), (.ref b180)]) (rest := [zI, (.ref b140)]) rfl (by rw [hml]; rfl) k180 rfl (H 25 rfl) (lenOf pd__28Ljava_2flang_2fObject_3bLjava_2flang_2fObject_3b_29Ljava_2flang_2fObject_3b rfl) (b5 rfl)
          obtain ⟨h191, e191⟩ : ∃ h', T191.heap = h' := ⟨_, rfl⟩
          rw [e191] at hQ191
          obtain ⟨rfl, N191q, K191, R191_0, R191_1⟩ := hQ191
          have N192 := Fr.app N181 N191q
          have F193 := F182.keep K191 (allS ge_id0 all0)
          have F194 := F183.keep K191 (ninS (nG Le0.lt (Nat.le_of_eq g140.symm)) nin0)
          have F195 := F184.keep K191
          have F196 := F185.keep K191 (ninS ne_mp_id0 nin0)
          have F197 := F187.keep K191 (ninS ne_a1_id0 nin0)
          have Z198 : n0 ≤ h191.size := Nat.le_trans Z188 K191.1
          have K199 := Keep.trans K189 K191 (allS (oL 2 rfl) all0)
          obtain ⟨T200, X200, e200, st200⟩ := castY X191 hx hZ hown (hww 257 rfl) e191 (Ins.self (Lz4.keep K199 nw_bx0).1) (g := (mkF m 55 #[sr a1, sr ls, sr mp, si 0, un, un, un] [vR bx0, vI 0, vR b140])) rfl rfl (H 26 rfl)
          have k201 : Rt p e below T200 (mkF m 58 #[sr a1, sr ls, sr mp, si 0, un, un, un] [vR bx0, vI 0, vR b140]) s₁ m #[(.ref a1), (.ref ls), (.ref mp)] 7 := fun t k => k191 t (st200 t k)
          obtain ⟨_, T202, L202, X202, hQ202, k202⟩ := c_V (W := 2) (x := mn14) X200 hx hZ hown (hww 259 rfl) (hww 260 rfl) (notFace_of_selects (args := #[]) (mvT hZ (hww 262 rfl))) (hww 262 rfl) (hww 261 rfl) (hww 263 rfl) (hww 68 rfl) (by decide) (Lz4.keep K199 nw_bx0).1 (iv l Z a0 hw [] bx0 r0 h191 n0 Z198 ((Lz4.keep K199 nw_bx0).g 0 (v := (.int r0)) (by decide) rfl rfl)) e200 (argsL := []) (rest := [zI, (.ref b140)]) rfl (by rw [hml]; rfl) k201 rfl (H 27 rfl) (lenOf pd__28_29I rfl) (b5 rfl)
          obtain ⟨rfl, N202q, e202⟩ := hQ202
          have N203 := Fr.app N192 N202q
          obtain ⟨_, T204, L204, X204, hQ204, k204⟩ := c_S (W := 2) X202 hx hZ hown (hww 266 rfl) (hww 267 rfl) (hww 146 rfl) (hww 268 rfl) (by decide) (gain l Z a0 hw [] r0 h191 n0 Z198 ) e202 (argsL := [(.int r0)]) (rest := [zI, (.ref b140)]) rfl (by rw [hml]; rfl) k202 rfl (H 28 rfl) (lenOf pd__28I_29I rfl) (b5 rfl)
          obtain ⟨h204, e204⟩ : ∃ h', T204.heap = h' := ⟨_, rfl⟩
          rw [e204] at hQ204
          obtain ⟨j204, rfl, N204q, hh204, P204_0⟩ := hQ204
          have N205 := Fr.app N203 N204q
          have ee204 : T204.heap = h191 := e204.trans hh204
          exact ⟨T204, h191, _, j204, X204, ee204, N205, Z198, F194, F195, F196, R191_0, F197, K199, F193, (P204_0.trans (if_pos rfl).symm), k204⟩
        · obtain ⟨_, T206, L206, X206, hQ206, k206⟩ := c_I (W := 2) (x := mn60) X180 hx hZ hown (hww 377 rfl) (hww 378 rfl) (hww 379 rfl) (hww 380 rfl) (hww 381 rfl) (hww 382 rfl) (hww 383 rfl) (hww 172 rfl) (hww 384 rfl) (hww 28 rfl) (by decide) F185.1 (god0 l Z a0 hw [] mp id0 ib0 ik0 (120 : Int32) cs (8 : Int32) tb kt [.null, (.ref nd0), (.ref nd1), (.ref nd2), (.ref nd3), .null, .null, .null, .null, .null, .null, .null, .null, .null, .null, .null] b180 h180 n0 Z188 F185.1 (F185.g 0 (v := (.ref tb)) (by decide) rfl rfl) (Lz0.keep K189 nw_tb) F186 (Ld3.keep K189 nw_ib0) ge_id0 (Ne.symm (own_nn nw_ib0 (i := 2) rfl)) ne_mp_id0 (own_nn nw_tb (i := 2) rfl) (by decide) (by decide) (by decide) Scs hcs (by decide) (by decide) rfl F182) e180 (argsL := [(.ref id0), (.ref b180)]) (rest := [zI, (.ref b140)]) rfl (by rw [hml]; rfl) k180 rfl (H 25 rfl) (lenOf pd__28Ljava_2flang_2fObject_3bLjava_2flang_2fObject_3b_29Ljava_2flang_2fObject_3b rfl) (b5 rfl)
          obtain ⟨h206, e206⟩ : ∃ h', T206.heap = h' := ⟨_, rfl⟩
          rw [e206] at hQ206
          obtain ⟨rfl, N206q, K206, R206_0, R206_1⟩ := hQ206
          have N207 := Fr.app N181 N206q
          have F208 := F182.keep K206 (allS ge_id0 all0)
          have F209 := F183.keep K206 (ninS (nG Le0.lt (Nat.le_of_eq g140.symm)) nin0)
          have F210 := F184.keep K206
          have F211 := F185.keep K206 (ninS ne_mp_id0 nin0)
          have F212 := F187.keep K206 (ninS ne_a1_id0 nin0)
          have F213 := R180_0.keep K206 (ninS (own_bxne P180_0 ge_id0 B157.lt) nin0)
          have Z214 : n0 ≤ h206.size := Nat.le_trans Z188 K206.1
          have K215 := Keep.trans K189 K206 (allS (oL 2 rfl) all0)
          obtain ⟨T216, X216, e216, st216⟩ := castY X206 hx hZ hown (hww 257 rfl) e206 (Ins.self F213.1) (g := (mkF m 55 #[sr a1, sr ls, sr mp, si 0, un, un, un] [vR b180, vI 0, vR b140])) rfl rfl (H 26 rfl)
          have k217 : Rt p e below T216 (mkF m 58 #[sr a1, sr ls, sr mp, si 0, un, un, un] [vR b180, vI 0, vR b140]) s₁ m #[(.ref a1), (.ref ls), (.ref mp)] 7 := fun t k => k206 t (st216 t k)
          obtain ⟨_, T218, L218, X218, hQ218, k218⟩ := c_V (W := 2) (x := mn14) X216 hx hZ hown (hww 259 rfl) (hww 260 rfl) (notFace_of_selects (args := #[]) (mvT hZ (hww 262 rfl))) (hww 262 rfl) (hww 261 rfl) (hww 263 rfl) (hww 68 rfl) (by decide) F213.1 (iv l Z a0 hw [] b180 (0 : Int32) h206 n0 Z214 (F213.g 0 (v := zI) (by decide) rfl rfl)) e216 (argsL := []) (rest := [zI, (.ref b140)]) rfl (by rw [hml]; rfl) k217 rfl (H 27 rfl) (lenOf pd__28_29I rfl) (b5 rfl)
          obtain ⟨rfl, N218q, e218⟩ := hQ218
          have N219 := Fr.app N207 N218q
          obtain ⟨_, T220, L220, X220, hQ220, k220⟩ := c_S (W := 2) X218 hx hZ hown (hww 266 rfl) (hww 267 rfl) (hww 146 rfl) (hww 268 rfl) (by decide) (gain l Z a0 hw [] (0 : Int32) h206 n0 Z214 ) e218 (argsL := [zI]) (rest := [zI, (.ref b140)]) rfl (by rw [hml]; rfl) k218 rfl (H 28 rfl) (lenOf pd__28I_29I rfl) (b5 rfl)
          obtain ⟨h220, e220⟩ : ∃ h', T220.heap = h' := ⟨_, rfl⟩
          rw [e220] at hQ220
          obtain ⟨j220, rfl, N220q, hh220, P220_0⟩ := hQ220
          have N221 := Fr.app N219 N220q
          have ee220 : T220.heap = h206 := e220.trans hh220
          exact ⟨T220, h206, _, j220, X220, ee220, N221, Z214, F209, F210, F211, R206_0, F212, K215, F208, (P220_0.trans ((if_neg (by decide)).trans (if_neg (by decide)).symm)), k220⟩
      obtain ⟨T229, h229, L229, X229, e229, W229, V229, N229, Z229, k229⟩ := f_ist X190 hx hZ e190 F222 N190 g141 Zq190 kq190 (H 29 rfl) (by decide) 0 rfl (lt_b rfl)
      have F230 := F223.wr W229
      have F231 := F228.wr W229 g141
      have K232 := F227.wr W229 (Or.inr z142)
      have B233 := F224.other W229 (nL Fk1.lt (Nat.le_of_eq g140.symm))
      have B234 := F225.other W229 (nL Le0.lt (Nat.le_of_eq g140.symm))
      have B235 := F226.other W229 (nL Fk0.lt (Nat.le_of_eq g140.symm))
      have k236 := f_inc X229 hx k229 (H 30 rfl) rfl (l' := #[sr a1, sr ls, sr mp, si 1, un, un, un]) rfl
      have k237 := f_go X229 hx k236 (H 31 rfl) (pc' := 18) (by decide)
      have k238 := f_ilN X229 hx k237 (H 9 rfl) rfl
      have k239 := f_alN X229 hx k238 (H 10 rfl) rfl
      obtain ⟨T240, X240, e240, k241⟩ := gFs X229 hx hZ hown (hww 163 rfl) e229 (B235.g 0 (v := (.ref b140)) (by decide) rfl rfl) k239 (H 11 rfl)
      have k242 := f_len X240 hx hZ e240 V229 k241 (H 12 rfl)
      have k243 := f_icY X240 hx k242 (H 13 rfl) (pc' := 71) (flt (by decide)).2.1 (by decide)
      exact ⟨T240, h229, _, b140, k140, [(.int g0)], g0, (0 : Int32), (0 : Int32), (1 : Int32), (X240.more (by decide) (by decide)), e240, N229, Z229, B235, B233, V229, K232, F231, g141, (Or.inr (Or.inl ⟨rfl, rfl⟩)), (fun _ => hg0), (fun q => absurd q (by decide)), (fun q => absurd q (by decide)), z142, k243⟩
    · have k244 := f_alN X0 hx k0 (H 0 rfl) rfl
      obtain ⟨T245, X245, e245, st245⟩ := initO X0 hx hZ hown (hww 150 rfl) (hww 19 rfl) (hww 20 rfl) e0 (g := (mkF m 1 #[sr a1, sr ls, sr mp, un, un, un, un] [vR a1])) rfl (by rw [hml]; rfl) rfl (H 1 rfl) (by decide) (W := 0) (by show 2 * 0 + _ ≤ _; exact Nat.le_of_eq rfl) (by decide)
      have k246 : Rt p e below T245 (mkF m 4 #[sr a1, sr ls, sr mp, un, un, un, un] []) s₁ m #[(.ref a1), (.ref ls), (.ref mp)] 7 := fun t k => k244 t (st245 t k)
      have k247 := f_alN X245 hx k246 (H 2 rfl) rfl
      have k248 := f_alN X245 hx k247 (H 3 rfl) rfl
      obtain ⟨_, T249, L249, X249, hQ249, k249⟩ := c_I (W := 1) (x := mn58) X245 hx hZ hown (hww 151 rfl) (hww 152 rfl) (hww 153 rfl) (hww 154 rfl) (hww 155 rfl) (hww 156 rfl) (hww 157 rfl) (hww 158 rfl) (hww 159 rfl) (hww 2 rfl) (by decide) Ld0.1 (asz l Z a0 hw [] ls (2 : Int32) h0 n0 Z0 (Ld0.g 2 (v := (.int (2 : Int32))) (by decide) rfl rfl)) e245 (argsL := []) (rest := [(.ref a1)]) rfl (by rw [hml]; rfl) k248 rfl (H 4 rfl) (lenOf pd__28_29I rfl) (b5 rfl)
      obtain ⟨rfl, N249q, e249⟩ := hQ249
      have N250 := Fr.app N0 N249q
      obtain ⟨T251, h251, k251, X251, e251, E251, A251, Y251, st251⟩ := newPE X249 hx hZ (hww 162 rfl) e249 (g := (mkF m 11 #[sr a1, sr ls, sr mp, un, un, un, un] [vI 2, vR a1])) rfl (H 5 rfl) rfl (by decide) (cap := 2) (by decide) (by decide) (by decide) (by decide) (ad := "[I") (by decide)
      obtain ⟨b251, g251⟩ : ∃ z, z = h0.size := ⟨_, rfl⟩
      rw [← g251] at A251 Y251 st251
      have g252 : n0 ≤ b251 := Nat.le_trans Z0 (Nat.le_of_eq g251.symm)
      have z253 : h0.size ≤ b251 := Nat.le_trans K0.1 (Nat.le_of_eq g251.symm)
      have F254 := Fk0.ext E251
      have F255 := Fk1.ext E251
      have F256 := O0.ext E251
      have F257 := Le0.ext E251
      have F258 := Le1.ext E251
      have Z259 : n0 ≤ h251.size := Nat.le_trans Z0 E251.1
      have K260 := K0.ext E251
      have V261 : Arv Z h251 b251 k251 .int (2 : Int32) [zI, zI] zI := (Arv.new A251 (by decide)).pad (pad_rep [] zI 2)
      have k262 : Rt p e below T251 (mkF m 13 #[sr a1, sr ls, sr mp, un, un, un, un] [vR b251, vR a1]) s₁ m #[(.ref a1), (.ref ls), (.ref mp)] 7 := fun t k => k249 t (st251 t k)
      obtain ⟨T263, h263, L263, X263, e263, W263, B263, N263, Z263, k263⟩ := f_pF X251 hx hZ hown (hww 163 rfl) Via.refl e251 F254 (snJR hw) (Or.inr ⟨(hww 164 rfl), rfl, hnm⟩) (hww 145 rfl) 0 (by decide) rfl rfl (ty := (.array .int)) (by decide) rfl rfl N250 ge_a1 Z259 k262 (H 6 rfl) rfl
      have F264 := F256.wr W263 ge_a1
      have F265 := V261.other W263 (nG Fk0.lt (Nat.le_of_eq g251.symm))
      have F266 := Y251.wr W263
      have K267 := kw K260 W263 0 rfl
      have B268 := F255.other W263 (Ne.symm ne_a1_mp)
      have B269 := F257.other W263 (Ne.symm ne_a1_id0)
      have B270 := F258.other W263 (Ne.symm ne_a1_id1)
      have k271 := f_ic X263 hx k263 (H 7 rfl) (v := 0) rfl
      have k272 := f_isN X263 hx k271 (H 8 rfl) (l' := #[sr a1, sr ls, sr mp, si 0, un, un, un]) rfl
      have k273 := f_ilN X263 hx k272 (H 9 rfl) rfl
      have k274 := f_alN X263 hx k273 (H 10 rfl) rfl
      obtain ⟨T275, X275, e275, k276⟩ := gFs X263 hx hZ hown (hww 163 rfl) e263 (B263.g 0 (v := (.ref b251)) (by decide) rfl rfl) k274 (H 11 rfl)
      have k277 := f_len X275 hx hZ e275 F265 k276 (H 12 rfl)
      have k278 := f_icN X275 hx k277 (H 13 rfl) (tlt (by decide)).2.1
      have k279 := f_alN X275 hx k278 (H 14 rfl) rfl
      obtain ⟨T280, X280, e280, k281⟩ := gFs X275 hx hZ hown (hww 163 rfl) e275 (B263.g 0 (v := (.ref b251)) (by decide) rfl rfl) k279 (H 15 rfl)
      have k282 := f_ilN X280 hx k281 (H 16 rfl) rfl
      have k283 := f_alN X280 hx k282 (H 17 rfl) rfl
      have k284 := f_alN X280 hx k283 (H 18 rfl) rfl
      have k285 := f_ilN X280 hx k284 (H 19 rfl) rfl
      obtain ⟨_, T286, L286, X286, hQ286, k286⟩ := c_I (W := 3) (x := mn59) X280 hx hZ hown (hww 348 rfl) (hww 349 rfl) (hww 350 rfl) (hww 351 rfl) (hww 352 rfl) (hww 353 rfl) (hww 354 rfl) (hww 158 rfl) (hww 355 rfl) (hww 2 rfl) (by decide) (Ld0.keep K267 nw_ls).1 (aget0 l Z a0 hw [] ls ea ka do0 (.ref do1) .null (2 : Int32) h263 n0 Z263 (Ld0.keep K267 nw_ls).1 ((Ld0.keep K267 nw_ls).g 1 (v := (.ref ea)) (by decide) rfl rfl) ((Ld0.keep K267 nw_ls).g 2 (v := (.int (2 : Int32))) (by decide) rfl rfl) (Ld1.keep K267 nw_ea) (by decide)) e280 (argsL := [zI]) (rest := [(.ref mp), zI, (.ref b251)]) rfl (by rw [hml]; rfl) k285 rfl (H 20 rfl) (lenOf pd__28I_29Ljava_2flang_2fObject_3b rfl) (b5 rfl)
      obtain ⟨rfl, N286q, e286⟩ := hQ286
      have N287 := Fr.app N263 N286q
      obtain ⟨T288, X288, e288, st288⟩ := castY X286 hx hZ hown (hww 369 rfl) e286 (Ins.self (Ld2.keep K267 nw_do0).1) (g := (mkF m 40 #[sr a1, sr ls, sr mp, si 0, un, un, un] [vR do0, vR mp, vI 0, vR b251])) rfl rfl (H 21 rfl)
      have k289 : Rt p e below T288 (mkF m 43 #[sr a1, sr ls, sr mp, si 0, un, un, un] [vR do0, vR mp, vI 0, vR b251]) s₁ m #[(.ref a1), (.ref ls), (.ref mp)] 7 := fun t k => k286 t (st288 t k)
      obtain ⟨_, T290, L290, X290, hQ290, k290⟩ := c_V (W := 3) (x := mn16) X288 hx hZ hown (hww 371 rfl) (hww 372 rfl) (notFace_of_selects (args := #[]) (mvT hZ (hww 374 rfl))) (hww 374 rfl) (hww 373 rfl) (hww 375 rfl) (hww 311 rfl) (by decide) (Ld2.keep K267 nw_do0).1 (sid l Z a0 hw [] do0 id0 h263 n0 Z263 ((Ld2.keep K267 nw_do0).g 0 (v := (.ref id0)) (by decide) rfl rfl)) e288 (argsL := []) (rest := [(.ref mp), zI, (.ref b251)]) rfl (by rw [hml]; rfl) k289 rfl (H 22 rfl) (lenOf pd__28_29Ljava_2flang_2fString_3b rfl) (b5 rfl)
      obtain ⟨rfl, N290q, e290⟩ := hQ290
      have N291 := Fr.app N287 N290q
      have k292 := f_ic X290 hx k290 (H 23 rfl) (v := 0) rfl
      obtain ⟨_, T293, L293, X293, hQ293, k293⟩ := c_S (W := 4) X290 hx hZ hown (hww 376 rfl) (hww 67 rfl) (hww 68 rfl) (hww 69 rfl) (by decide) (box l Z a0 hw [] (0 : Int32) ca ce h263 n0 Z263 Shi Sca Bx F264) e290 (argsL := [zI]) (rest := [(.ref id0), (.ref mp), zI, (.ref b251)]) rfl (by rw [hml]; rfl) k292 rfl (H 24 rfl) (lenOf pd__28I_29Ljava_2flang_2fInteger_3b rfl) (b5 rfl)
      obtain ⟨h293, e293⟩ : ∃ h', T293.heap = h' := ⟨_, rfl⟩
      rw [e293] at hQ293
      obtain ⟨b293, rfl, N293q, K293, R293_0, P293_0⟩ := hQ293
      have N294 := Fr.app N291 N293q
      have F295 := F264.keep K293 all0
      have F296 := F265.keep K293 nin0
      have F297 := F266.keep K293
      have F298 := B268.keep K293 nin0
      have F299 := B269.keep K293 nin0
      have F300 := B270.keep K293 nin0
      have F301 := B263.keep K293 nin0
      have Z302 : n0 ≤ h293.size := Nat.le_trans Z263 K293.1
      have K303 := Keep.trans K267 K293 all0
      obtain ⟨T304, h304, Ls304, g0, X304, e304, N304, Zq304, F338, F339, F340, F341, F342, F343, F344, F345, hg0, kq304⟩ : ∃ (T304 : State) (h304 : Heap) (Ls304 : List Loc) (g0 : Int32), Stand p l e (rm 5 9 24 79) s m #[(.ref a1), (.ref ls), (.ref mp)] below meth c T304 Ls304 2 3 ∧ T304.heap = h304 ∧ Fr n0 Ls304 ∧ n0 ≤ h304.size ∧ Arv Z h304 b251 k251 .int (2 : Int32) [zI, zI] zI ∧ Exa Z h304 b251 "[I" ∧ OBJ Z h304 mp "java/util/HashMap" lyMP [(.ref tb), (.int (4 : Int32)), (.int mc), (.int (12 : Int32)), .null, (.float (1061158912 : UInt32))] ∧ OBJ Z h304 id0 "java/lang/String" lyST [(.ref ib0), zI, (.int ch0), zI] ∧ OBJ Z h304 id1 "java/lang/String" lyST [(.ref ib1), zI, zI, zI] ∧ OBJ Z h304 a1 "com/example/multinomial/multinomial/eval/JudgedRanking" lyJR [(.ref b251), .null] ∧ Keep h0 h304 [a1, mp, id0, id1, id2] ∧ Old Z n0 h304 ∧ (g0 = (if ch0 = (97 : Int32) then (if r0 < (0 : Int32) then (0 : Int32) else r0) else (0 : Int32))) ∧ (Rt p e below T304 (mkF m 64 #[sr a1, sr ls, sr mp, si 0, un, un, un] [vI g0, vI 0, vR b251]) s₁ m #[(.ref a1), (.ref ls), (.ref mp)] 7) := by
        rcases hch0 with rfl | rfl
        · obtain ⟨_, T305, L305, X305, hQ305, k305⟩ := c_I (W := 2) (x := mn60) X293 hx hZ hown (hww 377 rfl) (hww 378 rfl) (hww 379 rfl) (hww 380 rfl) (hww 381 rfl) (hww 382 rfl) (hww 383 rfl) (hww 172 rfl) (hww 384 rfl) (hww 28 rfl) (by decide) F298.1 (god1 l Z a0 hw [] mp id0 ib0 ik0 (97 : Int32) cs (1 : Int32) tb kt [.null, (.ref nd0), (.ref nd1), (.ref nd2), (.ref nd3), .null, .null, .null, .null, .null, .null, .null, .null, .null, .null, .null] nd0 bx0 ky0 yb0 yk0 b293 h293 n0 Z302 F298.1 (F298.g 0 (v := (.ref tb)) (by decide) rfl rfl) (Lz0.keep K303 nw_tb) F299 (Ld4.keep K303 nw_ib0) (Lz1.keep K303 nw_nd0) (Lz2.keep K303 nw_ky0) (Lz3.keep K303 nw_yb0) ge_id0 (Ne.symm (own_nn nw_ib0 (i := 2) rfl)) ne_mp_id0 (own_nn nw_tb (i := 2) rfl) (own_nn nw_nd0 (i := 2) rfl) (own_nn nw_ky0 (i := 2) rfl) (own_nn nw_yb0 (i := 2) rfl) (by decide) (by decide) (by decide) Scs hcs (by decide) (by decide) rfl F295) e293 (argsL := [(.ref id0), (.ref b293)]) (rest := [zI, (.ref b251)]) rfl (by rw [hml]; rfl) k293 rfl (H 25 rfl) (lenOf pd__28Ljava_2flang_2fObject_3bLjava_2flang_2fObject_3b_29Ljava_2flang_2fObject_3b rfl) (b5 rfl)
          obtain ⟨h305, e305⟩ : ∃ h', T305.heap = h' := ⟨_, rfl⟩
          rw [e305] at hQ305
          obtain ⟨rfl, N305q, K305, R305_0, R305_1⟩ := hQ305
          have N306 := Fr.app N294 N305q
          have F307 := F295.keep K305 (allS ge_id0 all0)
          have F308 := F296.keep K305 (ninS (nG Le0.lt (Nat.le_of_eq g251.symm)) nin0)
          have F309 := F297.keep K305
          have F310 := F298.keep K305 (ninS ne_mp_id0 nin0)
          have F311 := F300.keep K305 (ninS (Ne.symm ne_id0_id1) nin0)
          have F312 := F301.keep K305 (ninS ne_a1_id0 nin0)
          have Z313 : n0 ≤ h305.size := Nat.le_trans Z302 K305.1
          have K314 := Keep.trans K303 K305 (allS (oL 2 rfl) all0)
          obtain ⟨T315, X315, e315, st315⟩ := castY X305 hx hZ hown (hww 257 rfl) e305 (Ins.self (Lz4.keep K314 nw_bx0).1) (g := (mkF m 55 #[sr a1, sr ls, sr mp, si 0, un, un, un] [vR bx0, vI 0, vR b251])) rfl rfl (H 26 rfl)
          have k316 : Rt p e below T315 (mkF m 58 #[sr a1, sr ls, sr mp, si 0, un, un, un] [vR bx0, vI 0, vR b251]) s₁ m #[(.ref a1), (.ref ls), (.ref mp)] 7 := fun t k => k305 t (st315 t k)
          obtain ⟨_, T317, L317, X317, hQ317, k317⟩ := c_V (W := 2) (x := mn14) X315 hx hZ hown (hww 259 rfl) (hww 260 rfl) (notFace_of_selects (args := #[]) (mvT hZ (hww 262 rfl))) (hww 262 rfl) (hww 261 rfl) (hww 263 rfl) (hww 68 rfl) (by decide) (Lz4.keep K314 nw_bx0).1 (iv l Z a0 hw [] bx0 r0 h305 n0 Z313 ((Lz4.keep K314 nw_bx0).g 0 (v := (.int r0)) (by decide) rfl rfl)) e315 (argsL := []) (rest := [zI, (.ref b251)]) rfl (by rw [hml]; rfl) k316 rfl (H 27 rfl) (lenOf pd__28_29I rfl) (b5 rfl)
          obtain ⟨rfl, N317q, e317⟩ := hQ317
          have N318 := Fr.app N306 N317q
          obtain ⟨_, T319, L319, X319, hQ319, k319⟩ := c_S (W := 2) X317 hx hZ hown (hww 266 rfl) (hww 267 rfl) (hww 146 rfl) (hww 268 rfl) (by decide) (gain l Z a0 hw [] r0 h305 n0 Z313 ) e317 (argsL := [(.int r0)]) (rest := [zI, (.ref b251)]) rfl (by rw [hml]; rfl) k317 rfl (H 28 rfl) (lenOf pd__28I_29I rfl) (b5 rfl)
          obtain ⟨h319, e319⟩ : ∃ h', T319.heap = h' := ⟨_, rfl⟩
          rw [e319] at hQ319
          obtain ⟨j319, rfl, N319q, hh319, P319_0⟩ := hQ319
          have N320 := Fr.app N318 N319q
          have ee319 : T319.heap = h305 := e319.trans hh319
          exact ⟨T319, h305, _, j319, X319, ee319, N320, Z313, F308, F309, F310, R305_0, F311, F312, K314, F307, (P319_0.trans (if_pos rfl).symm), k319⟩
        · obtain ⟨_, T321, L321, X321, hQ321, k321⟩ := c_I (W := 2) (x := mn60) X293 hx hZ hown (hww 377 rfl) (hww 378 rfl) (hww 379 rfl) (hww 380 rfl) (hww 381 rfl) (hww 382 rfl) (hww 383 rfl) (hww 172 rfl) (hww 384 rfl) (hww 28 rfl) (by decide) F298.1 (god0 l Z a0 hw [] mp id0 ib0 ik0 (120 : Int32) cs (8 : Int32) tb kt [.null, (.ref nd0), (.ref nd1), (.ref nd2), (.ref nd3), .null, .null, .null, .null, .null, .null, .null, .null, .null, .null, .null] b293 h293 n0 Z302 F298.1 (F298.g 0 (v := (.ref tb)) (by decide) rfl rfl) (Lz0.keep K303 nw_tb) F299 (Ld4.keep K303 nw_ib0) ge_id0 (Ne.symm (own_nn nw_ib0 (i := 2) rfl)) ne_mp_id0 (own_nn nw_tb (i := 2) rfl) (by decide) (by decide) (by decide) Scs hcs (by decide) (by decide) rfl F295) e293 (argsL := [(.ref id0), (.ref b293)]) (rest := [zI, (.ref b251)]) rfl (by rw [hml]; rfl) k293 rfl (H 25 rfl) (lenOf pd__28Ljava_2flang_2fObject_3bLjava_2flang_2fObject_3b_29Ljava_2flang_2fObject_3b rfl) (b5 rfl)
          obtain ⟨h321, e321⟩ : ∃ h', T321.heap = h' := ⟨_, rfl⟩
          rw [e321] at hQ321
          obtain ⟨rfl, N321q, K321, R321_0, R321_1⟩ := hQ321
          have N322 := Fr.app N294 N321q
          have F323 := F295.keep K321 (allS ge_id0 all0)
          have F324 := F296.keep K321 (ninS (nG Le0.lt (Nat.le_of_eq g251.symm)) nin0)
          have F325 := F297.keep K321
          have F326 := F298.keep K321 (ninS ne_mp_id0 nin0)
          have F327 := F300.keep K321 (ninS (Ne.symm ne_id0_id1) nin0)
          have F328 := F301.keep K321 (ninS ne_a1_id0 nin0)
          have F329 := R293_0.keep K321 (ninS (own_bxne P293_0 ge_id0 B269.lt) nin0)
          have Z330 : n0 ≤ h321.size := Nat.le_trans Z302 K321.1
          have K331 := Keep.trans K303 K321 (allS (oL 2 rfl) all0)
          obtain ⟨T332, X332, e332, st332⟩ := castY X321 hx hZ hown (hww 257 rfl) e321 (Ins.self F329.1) (g := (mkF m 55 #[sr a1, sr ls, sr mp, si 0, un, un, un] [vR b293, vI 0, vR b251])) rfl rfl (H 26 rfl)
          have k333 : Rt p e below T332 (mkF m 58 #[sr a1, sr ls, sr mp, si 0, un, un, un] [vR b293, vI 0, vR b251]) s₁ m #[(.ref a1), (.ref ls), (.ref mp)] 7 := fun t k => k321 t (st332 t k)
          obtain ⟨_, T334, L334, X334, hQ334, k334⟩ := c_V (W := 2) (x := mn14) X332 hx hZ hown (hww 259 rfl) (hww 260 rfl) (notFace_of_selects (args := #[]) (mvT hZ (hww 262 rfl))) (hww 262 rfl) (hww 261 rfl) (hww 263 rfl) (hww 68 rfl) (by decide) F329.1 (iv l Z a0 hw [] b293 (0 : Int32) h321 n0 Z330 (F329.g 0 (v := zI) (by decide) rfl rfl)) e332 (argsL := []) (rest := [zI, (.ref b251)]) rfl (by rw [hml]; rfl) k333 rfl (H 27 rfl) (lenOf pd__28_29I rfl) (b5 rfl)
          obtain ⟨rfl, N334q, e334⟩ := hQ334
          have N335 := Fr.app N322 N334q
          obtain ⟨_, T336, L336, X336, hQ336, k336⟩ := c_S (W := 2) X334 hx hZ hown (hww 266 rfl) (hww 267 rfl) (hww 146 rfl) (hww 268 rfl) (by decide) (gain l Z a0 hw [] (0 : Int32) h321 n0 Z330 ) e334 (argsL := [zI]) (rest := [zI, (.ref b251)]) rfl (by rw [hml]; rfl) k334 rfl (H 28 rfl) (lenOf pd__28I_29I rfl) (b5 rfl)
          obtain ⟨h336, e336⟩ : ∃ h', T336.heap = h' := ⟨_, rfl⟩
          rw [e336] at hQ336
          obtain ⟨j336, rfl, N336q, hh336, P336_0⟩ := hQ336
          have N337 := Fr.app N335 N336q
          have ee336 : T336.heap = h321 := e336.trans hh336
          exact ⟨T336, h321, _, j336, X336, ee336, N337, Z330, F324, F325, F326, R321_0, F327, F328, K331, F323, (P336_0.trans ((if_neg (by decide)).trans (if_neg (by decide)).symm)), k336⟩
      obtain ⟨T346, h346, L346, X346, e346, W346, V346, N346, Z346, k346⟩ := f_ist X304 hx hZ e304 F338 N304 g252 Zq304 kq304 (H 29 rfl) (by decide) 0 rfl (lt_b rfl)
      have F347 := F339.wr W346
      have F348 := F345.wr W346 g252
      have K349 := F344.wr W346 (Or.inr z253)
      have B350 := F340.other W346 (nL Fk1.lt (Nat.le_of_eq g251.symm))
      have B351 := F341.other W346 (nL Le0.lt (Nat.le_of_eq g251.symm))
      have B352 := F342.other W346 (nL Le1.lt (Nat.le_of_eq g251.symm))
      have B353 := F343.other W346 (nL Fk0.lt (Nat.le_of_eq g251.symm))
      have k354 := f_inc X346 hx k346 (H 30 rfl) rfl (l' := #[sr a1, sr ls, sr mp, si 1, un, un, un]) rfl
      have k355 := f_go X346 hx k354 (H 31 rfl) (pc' := 18) (by decide)
      have k356 := f_ilN X346 hx k355 (H 9 rfl) rfl
      have k357 := f_alN X346 hx k356 (H 10 rfl) rfl
      obtain ⟨T358, X358, e358, k359⟩ := gFs X346 hx hZ hown (hww 163 rfl) e346 (B353.g 0 (v := (.ref b251)) (by decide) rfl rfl) k357 (H 11 rfl)
      have k360 := f_len X358 hx hZ e358 V346 k359 (H 12 rfl)
      have k361 := f_icN X358 hx k360 (H 13 rfl) (tlt (by decide)).2.1
      have k362 := f_alN X358 hx k361 (H 14 rfl) rfl
      obtain ⟨T363, X363, e363, k364⟩ := gFs X358 hx hZ hown (hww 163 rfl) e358 (B353.g 0 (v := (.ref b251)) (by decide) rfl rfl) k362 (H 15 rfl)
      have k365 := f_ilN X363 hx k364 (H 16 rfl) rfl
      have k366 := f_alN X363 hx k365 (H 17 rfl) rfl
      have k367 := f_alN X363 hx k366 (H 18 rfl) rfl
      have k368 := f_ilN X363 hx k367 (H 19 rfl) rfl
      obtain ⟨_, T369, L369, X369, hQ369, k369⟩ := c_I (W := 3) (x := mn59) X363 hx hZ hown (hww 348 rfl) (hww 349 rfl) (hww 350 rfl) (hww 351 rfl) (hww 352 rfl) (hww 353 rfl) (hww 354 rfl) (hww 158 rfl) (hww 355 rfl) (hww 2 rfl) (by decide) (Ld0.keep K349 nw_ls).1 (aget1 l Z a0 hw [] ls ea ka do0 do1 .null (2 : Int32) h346 n0 Z346 (Ld0.keep K349 nw_ls).1 ((Ld0.keep K349 nw_ls).g 1 (v := (.ref ea)) (by decide) rfl rfl) ((Ld0.keep K349 nw_ls).g 2 (v := (.int (2 : Int32))) (by decide) rfl rfl) (Ld1.keep K349 nw_ea) (by decide)) e363 (argsL := [(.int (1 : Int32))]) (rest := [(.ref mp), (.int (1 : Int32)), (.ref b251)]) rfl (by rw [hml]; rfl) k368 rfl (H 20 rfl) (lenOf pd__28I_29Ljava_2flang_2fObject_3b rfl) (b5 rfl)
      obtain ⟨rfl, N369q, e369⟩ := hQ369
      have N370 := Fr.app N346 N369q
      obtain ⟨T371, X371, e371, st371⟩ := castY X369 hx hZ hown (hww 369 rfl) e369 (Ins.self (Ld3.keep K349 nw_do1).1) (g := (mkF m 40 #[sr a1, sr ls, sr mp, si 1, un, un, un] [vR do1, vR mp, vI 1, vR b251])) rfl rfl (H 21 rfl)
      have k372 : Rt p e below T371 (mkF m 43 #[sr a1, sr ls, sr mp, si 1, un, un, un] [vR do1, vR mp, vI 1, vR b251]) s₁ m #[(.ref a1), (.ref ls), (.ref mp)] 7 := fun t k => k369 t (st371 t k)
      obtain ⟨_, T373, L373, X373, hQ373, k373⟩ := c_V (W := 3) (x := mn16) X371 hx hZ hown (hww 371 rfl) (hww 372 rfl) (notFace_of_selects (args := #[]) (mvT hZ (hww 374 rfl))) (hww 374 rfl) (hww 373 rfl) (hww 375 rfl) (hww 311 rfl) (by decide) (Ld3.keep K349 nw_do1).1 (sid l Z a0 hw [] do1 id1 h346 n0 Z346 ((Ld3.keep K349 nw_do1).g 0 (v := (.ref id1)) (by decide) rfl rfl)) e371 (argsL := []) (rest := [(.ref mp), (.int (1 : Int32)), (.ref b251)]) rfl (by rw [hml]; rfl) k372 rfl (H 22 rfl) (lenOf pd__28_29Ljava_2flang_2fString_3b rfl) (b5 rfl)
      obtain ⟨rfl, N373q, e373⟩ := hQ373
      have N374 := Fr.app N370 N373q
      have k375 := f_ic X373 hx k373 (H 23 rfl) (v := 0) rfl
      obtain ⟨_, T376, L376, X376, hQ376, k376⟩ := c_S (W := 4) X373 hx hZ hown (hww 376 rfl) (hww 67 rfl) (hww 68 rfl) (hww 69 rfl) (by decide) (box l Z a0 hw [] (0 : Int32) ca ce h346 n0 Z346 Shi Sca Bx F348) e373 (argsL := [zI]) (rest := [(.ref id1), (.ref mp), (.int (1 : Int32)), (.ref b251)]) rfl (by rw [hml]; rfl) k375 rfl (H 24 rfl) (lenOf pd__28I_29Ljava_2flang_2fInteger_3b rfl) (b5 rfl)
      obtain ⟨h376, e376⟩ : ∃ h', T376.heap = h' := ⟨_, rfl⟩
      rw [e376] at hQ376
      obtain ⟨b376, rfl, N376q, K376, R376_0, P376_0⟩ := hQ376
      have N377 := Fr.app N374 N376q
      have F378 := V346.keep K376 nin0
      have F379 := F347.keep K376
      have F380 := F348.keep K376 all0
      have F381 := B350.keep K376 nin0
      have F382 := B351.keep K376 nin0
      have F383 := B352.keep K376 nin0
      have F384 := B353.keep K376 nin0
      have Z385 : n0 ≤ h376.size := Nat.le_trans Z346 K376.1
      have K386 := Keep.trans K349 K376 all0
      obtain ⟨T387, h387, Ls387, g1, X387, e387, N387, Zq387, F421, F422, F423, F424, F425, F426, F427, F428, hg1, kq387⟩ : ∃ (T387 : State) (h387 : Heap) (Ls387 : List Loc) (g1 : Int32), Stand p l e (rm 5 9 24 79) s m #[(.ref a1), (.ref ls), (.ref mp)] below meth c T387 Ls387 3 4 ∧ T387.heap = h387 ∧ Fr n0 Ls387 ∧ n0 ≤ h387.size ∧ Arv Z h387 b251 k251 .int (2 : Int32) [(.int g0), zI] zI ∧ Exa Z h387 b251 "[I" ∧ OBJ Z h387 mp "java/util/HashMap" lyMP [(.ref tb), (.int (4 : Int32)), (.int mc), (.int (12 : Int32)), .null, (.float (1061158912 : UInt32))] ∧ OBJ Z h387 id0 "java/lang/String" lyST [(.ref ib0), zI, (.int ch0), zI] ∧ OBJ Z h387 id1 "java/lang/String" lyST [(.ref ib1), zI, (.int ch1), zI] ∧ OBJ Z h387 a1 "com/example/multinomial/multinomial/eval/JudgedRanking" lyJR [(.ref b251), .null] ∧ Keep h0 h387 [a1, mp, id0, id1, id2] ∧ Old Z n0 h387 ∧ (g1 = (if ch1 = (98 : Int32) then (if r1 < (0 : Int32) then (0 : Int32) else r1) else (0 : Int32))) ∧ (Rt p e below T387 (mkF m 64 #[sr a1, sr ls, sr mp, si 1, un, un, un] [vI g1, vI 1, vR b251]) s₁ m #[(.ref a1), (.ref ls), (.ref mp)] 7) := by
        rcases hch1 with rfl | rfl
        · obtain ⟨_, T388, L388, X388, hQ388, k388⟩ := c_I (W := 2) (x := mn60) X376 hx hZ hown (hww 377 rfl) (hww 378 rfl) (hww 379 rfl) (hww 380 rfl) (hww 381 rfl) (hww 382 rfl) (hww 383 rfl) (hww 172 rfl) (hww 384 rfl) (hww 28 rfl) (by decide) F381.1 (god1 l Z a0 hw [] mp id1 ib1 ik1 (98 : Int32) cs (2 : Int32) tb kt [.null, (.ref nd0), (.ref nd1), (.ref nd2), (.ref nd3), .null, .null, .null, .null, .null, .null, .null, .null, .null, .null, .null] nd1 bx1 ky1 yb1 yk1 b376 h376 n0 Z385 F381.1 (F381.g 0 (v := (.ref tb)) (by decide) rfl rfl) (Lz0.keep K386 nw_tb) F383 (Ld5.keep K386 nw_ib1) (Lz5.keep K386 nw_nd1) (Lz6.keep K386 nw_ky1) (Lz7.keep K386 nw_yb1) ge_id1 (Ne.symm (own_nn nw_ib1 (i := 3) rfl)) ne_mp_id1 (own_nn nw_tb (i := 3) rfl) (own_nn nw_nd1 (i := 3) rfl) (own_nn nw_ky1 (i := 3) rfl) (own_nn nw_yb1 (i := 3) rfl) (by decide) (by decide) (by decide) Scs hcs (by decide) (by decide) rfl F380) e376 (argsL := [(.ref id1), (.ref b376)]) (rest := [(.int (1 : Int32)), (.ref b251)]) rfl (by rw [hml]; rfl) k376 rfl (H 25 rfl) (lenOf pd__28Ljava_2flang_2fObject_3bLjava_2flang_2fObject_3b_29Ljava_2flang_2fObject_3b rfl) (b5 rfl)
          obtain ⟨h388, e388⟩ : ∃ h', T388.heap = h' := ⟨_, rfl⟩
          rw [e388] at hQ388
          obtain ⟨rfl, N388q, K388, R388_0, R388_1⟩ := hQ388
          have N389 := Fr.app N377 N388q
          have F390 := F378.keep K388 (ninS (nG Le1.lt (Nat.le_of_eq g251.symm)) nin0)
          have F391 := F379.keep K388
          have F392 := F380.keep K388 (allS ge_id1 all0)
          have F393 := F381.keep K388 (ninS ne_mp_id1 nin0)
          have F394 := F382.keep K388 (ninS ne_id0_id1 nin0)
          have F395 := F384.keep K388 (ninS ne_a1_id1 nin0)
          have Z396 : n0 ≤ h388.size := Nat.le_trans Z385 K388.1
          have K397 := Keep.trans K386 K388 (allS (oL 3 rfl) all0)
          obtain ⟨T398, X398, e398, st398⟩ := castY X388 hx hZ hown (hww 257 rfl) e388 (Ins.self (Lz8.keep K397 nw_bx1).1) (g := (mkF m 55 #[sr a1, sr ls, sr mp, si 1, un, un, un] [vR bx1, vI 1, vR b251])) rfl rfl (H 26 rfl)
          have k399 : Rt p e below T398 (mkF m 58 #[sr a1, sr ls, sr mp, si 1, un, un, un] [vR bx1, vI 1, vR b251]) s₁ m #[(.ref a1), (.ref ls), (.ref mp)] 7 := fun t k => k388 t (st398 t k)
          obtain ⟨_, T400, L400, X400, hQ400, k400⟩ := c_V (W := 2) (x := mn14) X398 hx hZ hown (hww 259 rfl) (hww 260 rfl) (notFace_of_selects (args := #[]) (mvT hZ (hww 262 rfl))) (hww 262 rfl) (hww 261 rfl) (hww 263 rfl) (hww 68 rfl) (by decide) (Lz8.keep K397 nw_bx1).1 (iv l Z a0 hw [] bx1 r1 h388 n0 Z396 ((Lz8.keep K397 nw_bx1).g 0 (v := (.int r1)) (by decide) rfl rfl)) e398 (argsL := []) (rest := [(.int (1 : Int32)), (.ref b251)]) rfl (by rw [hml]; rfl) k399 rfl (H 27 rfl) (lenOf pd__28_29I rfl) (b5 rfl)
          obtain ⟨rfl, N400q, e400⟩ := hQ400
          have N401 := Fr.app N389 N400q
          obtain ⟨_, T402, L402, X402, hQ402, k402⟩ := c_S (W := 2) X400 hx hZ hown (hww 266 rfl) (hww 267 rfl) (hww 146 rfl) (hww 268 rfl) (by decide) (gain l Z a0 hw [] r1 h388 n0 Z396 ) e400 (argsL := [(.int r1)]) (rest := [(.int (1 : Int32)), (.ref b251)]) rfl (by rw [hml]; rfl) k400 rfl (H 28 rfl) (lenOf pd__28I_29I rfl) (b5 rfl)
          obtain ⟨h402, e402⟩ : ∃ h', T402.heap = h' := ⟨_, rfl⟩
          rw [e402] at hQ402
          obtain ⟨j402, rfl, N402q, hh402, P402_0⟩ := hQ402
          have N403 := Fr.app N401 N402q
          have ee402 : T402.heap = h388 := e402.trans hh402
          exact ⟨T402, h388, _, j402, X402, ee402, N403, Z396, F390, F391, F393, F394, R388_0, F395, K397, F392, (P402_0.trans (if_pos rfl).symm), k402⟩
        · obtain ⟨_, T404, L404, X404, hQ404, k404⟩ := c_I (W := 2) (x := mn60) X376 hx hZ hown (hww 377 rfl) (hww 378 rfl) (hww 379 rfl) (hww 380 rfl) (hww 381 rfl) (hww 382 rfl) (hww 383 rfl) (hww 172 rfl) (hww 384 rfl) (hww 28 rfl) (by decide) F381.1 (god0 l Z a0 hw [] mp id1 ib1 ik1 (121 : Int32) cs (9 : Int32) tb kt [.null, (.ref nd0), (.ref nd1), (.ref nd2), (.ref nd3), .null, .null, .null, .null, .null, .null, .null, .null, .null, .null, .null] b376 h376 n0 Z385 F381.1 (F381.g 0 (v := (.ref tb)) (by decide) rfl rfl) (Lz0.keep K386 nw_tb) F383 (Ld5.keep K386 nw_ib1) ge_id1 (Ne.symm (own_nn nw_ib1 (i := 3) rfl)) ne_mp_id1 (own_nn nw_tb (i := 3) rfl) (by decide) (by decide) (by decide) Scs hcs (by decide) (by decide) rfl F380) e376 (argsL := [(.ref id1), (.ref b376)]) (rest := [(.int (1 : Int32)), (.ref b251)]) rfl (by rw [hml]; rfl) k376 rfl (H 25 rfl) (lenOf pd__28Ljava_2flang_2fObject_3bLjava_2flang_2fObject_3b_29Ljava_2flang_2fObject_3b rfl) (b5 rfl)
          obtain ⟨h404, e404⟩ : ∃ h', T404.heap = h' := ⟨_, rfl⟩
          rw [e404] at hQ404
          obtain ⟨rfl, N404q, K404, R404_0, R404_1⟩ := hQ404
          have N405 := Fr.app N377 N404q
          have F406 := F378.keep K404 (ninS (nG Le1.lt (Nat.le_of_eq g251.symm)) nin0)
          have F407 := F379.keep K404
          have F408 := F380.keep K404 (allS ge_id1 all0)
          have F409 := F381.keep K404 (ninS ne_mp_id1 nin0)
          have F410 := F382.keep K404 (ninS ne_id0_id1 nin0)
          have F411 := F384.keep K404 (ninS ne_a1_id1 nin0)
          have F412 := R376_0.keep K404 (ninS (own_bxne P376_0 ge_id1 B352.lt) nin0)
          have Z413 : n0 ≤ h404.size := Nat.le_trans Z385 K404.1
          have K414 := Keep.trans K386 K404 (allS (oL 3 rfl) all0)
          obtain ⟨T415, X415, e415, st415⟩ := castY X404 hx hZ hown (hww 257 rfl) e404 (Ins.self F412.1) (g := (mkF m 55 #[sr a1, sr ls, sr mp, si 1, un, un, un] [vR b376, vI 1, vR b251])) rfl rfl (H 26 rfl)
          have k416 : Rt p e below T415 (mkF m 58 #[sr a1, sr ls, sr mp, si 1, un, un, un] [vR b376, vI 1, vR b251]) s₁ m #[(.ref a1), (.ref ls), (.ref mp)] 7 := fun t k => k404 t (st415 t k)
          obtain ⟨_, T417, L417, X417, hQ417, k417⟩ := c_V (W := 2) (x := mn14) X415 hx hZ hown (hww 259 rfl) (hww 260 rfl) (notFace_of_selects (args := #[]) (mvT hZ (hww 262 rfl))) (hww 262 rfl) (hww 261 rfl) (hww 263 rfl) (hww 68 rfl) (by decide) F412.1 (iv l Z a0 hw [] b376 (0 : Int32) h404 n0 Z413 (F412.g 0 (v := zI) (by decide) rfl rfl)) e415 (argsL := []) (rest := [(.int (1 : Int32)), (.ref b251)]) rfl (by rw [hml]; rfl) k416 rfl (H 27 rfl) (lenOf pd__28_29I rfl) (b5 rfl)
          obtain ⟨rfl, N417q, e417⟩ := hQ417
          have N418 := Fr.app N405 N417q
          obtain ⟨_, T419, L419, X419, hQ419, k419⟩ := c_S (W := 2) X417 hx hZ hown (hww 266 rfl) (hww 267 rfl) (hww 146 rfl) (hww 268 rfl) (by decide) (gain l Z a0 hw [] (0 : Int32) h404 n0 Z413 ) e417 (argsL := [zI]) (rest := [(.int (1 : Int32)), (.ref b251)]) rfl (by rw [hml]; rfl) k417 rfl (H 28 rfl) (lenOf pd__28I_29I rfl) (b5 rfl)
          obtain ⟨h419, e419⟩ : ∃ h', T419.heap = h' := ⟨_, rfl⟩
          rw [e419] at hQ419
          obtain ⟨j419, rfl, N419q, hh419, P419_0⟩ := hQ419
          have N420 := Fr.app N418 N419q
          have ee419 : T419.heap = h404 := e419.trans hh419
          exact ⟨T419, h404, _, j419, X419, ee419, N420, Z413, F406, F407, F409, F410, R404_0, F411, K414, F408, (P419_0.trans ((if_neg (by decide)).trans (if_neg (by decide)).symm)), k419⟩
      obtain ⟨T429, h429, L429, X429, e429, W429, V429, N429, Z429, k429⟩ := f_ist X387 hx hZ e387 F421 N387 g252 Zq387 kq387 (H 29 rfl) (by decide) 1 rfl (lt_b rfl)
      have F430 := F422.wr W429
      have F431 := F428.wr W429 g252
      have K432 := F427.wr W429 (Or.inr z253)
      have B433 := F423.other W429 (nL Fk1.lt (Nat.le_of_eq g251.symm))
      have B434 := F424.other W429 (nL Le0.lt (Nat.le_of_eq g251.symm))
      have B435 := F425.other W429 (nL Le1.lt (Nat.le_of_eq g251.symm))
      have B436 := F426.other W429 (nL Fk0.lt (Nat.le_of_eq g251.symm))
      have k437 := f_inc X429 hx k429 (H 30 rfl) rfl (l' := #[sr a1, sr ls, sr mp, si 2, un, un, un]) rfl
      have k438 := f_go X429 hx k437 (H 31 rfl) (pc' := 18) (by decide)
      have k439 := f_ilN X429 hx k438 (H 9 rfl) rfl
      have k440 := f_alN X429 hx k439 (H 10 rfl) rfl
      obtain ⟨T441, X441, e441, k442⟩ := gFs X429 hx hZ hown (hww 163 rfl) e429 (B436.g 0 (v := (.ref b251)) (by decide) rfl rfl) k440 (H 11 rfl)
      have k443 := f_len X441 hx hZ e441 V429 k442 (H 12 rfl)
      have k444 := f_icY X441 hx k443 (H 13 rfl) (pc' := 71) (flt (by decide)).2.1 (by decide)
      exact ⟨T441, h429, _, b251, k251, [(.int g0), (.int g1)], g0, g1, (0 : Int32), (2 : Int32), (X441.more (by decide) (by decide)), e441, N429, Z429, B436, B433, V429, K432, F431, g252, (Or.inr (Or.inr (Or.inl ⟨rfl, rfl⟩))), (fun _ => hg0), (fun _ => hg1), (fun q => absurd q (by decide)), z253, k444⟩
    · have k445 := f_alN X0 hx k0 (H 0 rfl) rfl
      obtain ⟨T446, X446, e446, st446⟩ := initO X0 hx hZ hown (hww 150 rfl) (hww 19 rfl) (hww 20 rfl) e0 (g := (mkF m 1 #[sr a1, sr ls, sr mp, un, un, un, un] [vR a1])) rfl (by rw [hml]; rfl) rfl (H 1 rfl) (by decide) (W := 0) (by show 2 * 0 + _ ≤ _; exact Nat.le_of_eq rfl) (by decide)
      have k447 : Rt p e below T446 (mkF m 4 #[sr a1, sr ls, sr mp, un, un, un, un] []) s₁ m #[(.ref a1), (.ref ls), (.ref mp)] 7 := fun t k => k445 t (st446 t k)
      have k448 := f_alN X446 hx k447 (H 2 rfl) rfl
      have k449 := f_alN X446 hx k448 (H 3 rfl) rfl
      obtain ⟨_, T450, L450, X450, hQ450, k450⟩ := c_I (W := 1) (x := mn58) X446 hx hZ hown (hww 151 rfl) (hww 152 rfl) (hww 153 rfl) (hww 154 rfl) (hww 155 rfl) (hww 156 rfl) (hww 157 rfl) (hww 158 rfl) (hww 159 rfl) (hww 2 rfl) (by decide) Ld0.1 (asz l Z a0 hw [] ls (3 : Int32) h0 n0 Z0 (Ld0.g 2 (v := (.int (3 : Int32))) (by decide) rfl rfl)) e446 (argsL := []) (rest := [(.ref a1)]) rfl (by rw [hml]; rfl) k449 rfl (H 4 rfl) (lenOf pd__28_29I rfl) (b5 rfl)
      obtain ⟨rfl, N450q, e450⟩ := hQ450
      have N451 := Fr.app N0 N450q
      obtain ⟨T452, h452, k452, X452, e452, E452, A452, Y452, st452⟩ := newPE X450 hx hZ (hww 162 rfl) e450 (g := (mkF m 11 #[sr a1, sr ls, sr mp, un, un, un, un] [vI 3, vR a1])) rfl (H 5 rfl) rfl (by decide) (cap := 3) (by decide) (by decide) (by decide) (by decide) (ad := "[I") (by decide)
      obtain ⟨b452, g452⟩ : ∃ z, z = h0.size := ⟨_, rfl⟩
      rw [← g452] at A452 Y452 st452
      have g453 : n0 ≤ b452 := Nat.le_trans Z0 (Nat.le_of_eq g452.symm)
      have z454 : h0.size ≤ b452 := Nat.le_trans K0.1 (Nat.le_of_eq g452.symm)
      have F455 := Fk0.ext E452
      have F456 := Fk1.ext E452
      have F457 := O0.ext E452
      have F458 := Le0.ext E452
      have F459 := Le1.ext E452
      have F460 := Le2.ext E452
      have Z461 : n0 ≤ h452.size := Nat.le_trans Z0 E452.1
      have K462 := K0.ext E452
      have V463 : Arv Z h452 b452 k452 .int (3 : Int32) [zI, zI, zI] zI := (Arv.new A452 (by decide)).pad (pad_rep [] zI 3)
      have k464 : Rt p e below T452 (mkF m 13 #[sr a1, sr ls, sr mp, un, un, un, un] [vR b452, vR a1]) s₁ m #[(.ref a1), (.ref ls), (.ref mp)] 7 := fun t k => k450 t (st452 t k)
      obtain ⟨T465, h465, L465, X465, e465, W465, B465, N465, Z465, k465⟩ := f_pF X452 hx hZ hown (hww 163 rfl) Via.refl e452 F455 (snJR hw) (Or.inr ⟨(hww 164 rfl), rfl, hnm⟩) (hww 145 rfl) 0 (by decide) rfl rfl (ty := (.array .int)) (by decide) rfl rfl N451 ge_a1 Z461 k464 (H 6 rfl) rfl
      have F466 := F457.wr W465 ge_a1
      have F467 := V463.other W465 (nG Fk0.lt (Nat.le_of_eq g452.symm))
      have F468 := Y452.wr W465
      have K469 := kw K462 W465 0 rfl
      have B470 := F456.other W465 (Ne.symm ne_a1_mp)
      have B471 := F458.other W465 (Ne.symm ne_a1_id0)
      have B472 := F459.other W465 (Ne.symm ne_a1_id1)
      have B473 := F460.other W465 (Ne.symm ne_a1_id2)
      have k474 := f_ic X465 hx k465 (H 7 rfl) (v := 0) rfl
      have k475 := f_isN X465 hx k474 (H 8 rfl) (l' := #[sr a1, sr ls, sr mp, si 0, un, un, un]) rfl
      have k476 := f_ilN X465 hx k475 (H 9 rfl) rfl
      have k477 := f_alN X465 hx k476 (H 10 rfl) rfl
      obtain ⟨T478, X478, e478, k479⟩ := gFs X465 hx hZ hown (hww 163 rfl) e465 (B465.g 0 (v := (.ref b452)) (by decide) rfl rfl) k477 (H 11 rfl)
      have k480 := f_len X478 hx hZ e478 F467 k479 (H 12 rfl)
      have k481 := f_icN X478 hx k480 (H 13 rfl) (tlt (by decide)).2.1
      have k482 := f_alN X478 hx k481 (H 14 rfl) rfl
      obtain ⟨T483, X483, e483, k484⟩ := gFs X478 hx hZ hown (hww 163 rfl) e478 (B465.g 0 (v := (.ref b452)) (by decide) rfl rfl) k482 (H 15 rfl)
      have k485 := f_ilN X483 hx k484 (H 16 rfl) rfl
      have k486 := f_alN X483 hx k485 (H 17 rfl) rfl
      have k487 := f_alN X483 hx k486 (H 18 rfl) rfl
      have k488 := f_ilN X483 hx k487 (H 19 rfl) rfl
      obtain ⟨_, T489, L489, X489, hQ489, k489⟩ := c_I (W := 3) (x := mn59) X483 hx hZ hown (hww 348 rfl) (hww 349 rfl) (hww 350 rfl) (hww 351 rfl) (hww 352 rfl) (hww 353 rfl) (hww 354 rfl) (hww 158 rfl) (hww 355 rfl) (hww 2 rfl) (by decide) (Ld0.keep K469 nw_ls).1 (aget0 l Z a0 hw [] ls ea ka do0 (.ref do1) (.ref do2) (3 : Int32) h465 n0 Z465 (Ld0.keep K469 nw_ls).1 ((Ld0.keep K469 nw_ls).g 1 (v := (.ref ea)) (by decide) rfl rfl) ((Ld0.keep K469 nw_ls).g 2 (v := (.int (3 : Int32))) (by decide) rfl rfl) (Ld1.keep K469 nw_ea) (by decide)) e483 (argsL := [zI]) (rest := [(.ref mp), zI, (.ref b452)]) rfl (by rw [hml]; rfl) k488 rfl (H 20 rfl) (lenOf pd__28I_29Ljava_2flang_2fObject_3b rfl) (b5 rfl)
      obtain ⟨rfl, N489q, e489⟩ := hQ489
      have N490 := Fr.app N465 N489q
      obtain ⟨T491, X491, e491, st491⟩ := castY X489 hx hZ hown (hww 369 rfl) e489 (Ins.self (Ld2.keep K469 nw_do0).1) (g := (mkF m 40 #[sr a1, sr ls, sr mp, si 0, un, un, un] [vR do0, vR mp, vI 0, vR b452])) rfl rfl (H 21 rfl)
      have k492 : Rt p e below T491 (mkF m 43 #[sr a1, sr ls, sr mp, si 0, un, un, un] [vR do0, vR mp, vI 0, vR b452]) s₁ m #[(.ref a1), (.ref ls), (.ref mp)] 7 := fun t k => k489 t (st491 t k)
      obtain ⟨_, T493, L493, X493, hQ493, k493⟩ := c_V (W := 3) (x := mn16) X491 hx hZ hown (hww 371 rfl) (hww 372 rfl) (notFace_of_selects (args := #[]) (mvT hZ (hww 374 rfl))) (hww 374 rfl) (hww 373 rfl) (hww 375 rfl) (hww 311 rfl) (by decide) (Ld2.keep K469 nw_do0).1 (sid l Z a0 hw [] do0 id0 h465 n0 Z465 ((Ld2.keep K469 nw_do0).g 0 (v := (.ref id0)) (by decide) rfl rfl)) e491 (argsL := []) (rest := [(.ref mp), zI, (.ref b452)]) rfl (by rw [hml]; rfl) k492 rfl (H 22 rfl) (lenOf pd__28_29Ljava_2flang_2fString_3b rfl) (b5 rfl)
      obtain ⟨rfl, N493q, e493⟩ := hQ493
      have N494 := Fr.app N490 N493q
      have k495 := f_ic X493 hx k493 (H 23 rfl) (v := 0) rfl
      obtain ⟨_, T496, L496, X496, hQ496, k496⟩ := c_S (W := 4) X493 hx hZ hown (hww 376 rfl) (hww 67 rfl) (hww 68 rfl) (hww 69 rfl) (by decide) (box l Z a0 hw [] (0 : Int32) ca ce h465 n0 Z465 Shi Sca Bx F466) e493 (argsL := [zI]) (rest := [(.ref id0), (.ref mp), zI, (.ref b452)]) rfl (by rw [hml]; rfl) k495 rfl (H 24 rfl) (lenOf pd__28I_29Ljava_2flang_2fInteger_3b rfl) (b5 rfl)
      obtain ⟨h496, e496⟩ : ∃ h', T496.heap = h' := ⟨_, rfl⟩
      rw [e496] at hQ496
      obtain ⟨b496, rfl, N496q, K496, R496_0, P496_0⟩ := hQ496
      have N497 := Fr.app N494 N496q
      have F498 := F466.keep K496 all0
      have F499 := F467.keep K496 nin0
      have F500 := F468.keep K496
      have F501 := B470.keep K496 nin0
      have F502 := B471.keep K496 nin0
      have F503 := B472.keep K496 nin0
      have F504 := B473.keep K496 nin0
      have F505 := B465.keep K496 nin0
      have Z506 : n0 ≤ h496.size := Nat.le_trans Z465 K496.1
      have K507 := Keep.trans K469 K496 all0
      obtain ⟨T508, h508, Ls508, g0, X508, e508, N508, Zq508, F544, F545, F546, F547, F548, F549, F550, F551, F552, hg0, kq508⟩ : ∃ (T508 : State) (h508 : Heap) (Ls508 : List Loc) (g0 : Int32), Stand p l e (rm 5 9 24 79) s m #[(.ref a1), (.ref ls), (.ref mp)] below meth c T508 Ls508 2 4 ∧ T508.heap = h508 ∧ Fr n0 Ls508 ∧ n0 ≤ h508.size ∧ Arv Z h508 b452 k452 .int (3 : Int32) [zI, zI, zI] zI ∧ Exa Z h508 b452 "[I" ∧ OBJ Z h508 mp "java/util/HashMap" lyMP [(.ref tb), (.int (4 : Int32)), (.int mc), (.int (12 : Int32)), .null, (.float (1061158912 : UInt32))] ∧ OBJ Z h508 id0 "java/lang/String" lyST [(.ref ib0), zI, (.int ch0), zI] ∧ OBJ Z h508 id1 "java/lang/String" lyST [(.ref ib1), zI, zI, zI] ∧ OBJ Z h508 id2 "java/lang/String" lyST [(.ref ib2), zI, zI, zI] ∧ OBJ Z h508 a1 "com/example/multinomial/multinomial/eval/JudgedRanking" lyJR [(.ref b452), .null] ∧ Keep h0 h508 [a1, mp, id0, id1, id2] ∧ Old Z n0 h508 ∧ (g0 = (if ch0 = (97 : Int32) then (if r0 < (0 : Int32) then (0 : Int32) else r0) else (0 : Int32))) ∧ (Rt p e below T508 (mkF m 64 #[sr a1, sr ls, sr mp, si 0, un, un, un] [vI g0, vI 0, vR b452]) s₁ m #[(.ref a1), (.ref ls), (.ref mp)] 7) := by
        rcases hch0 with rfl | rfl
        · obtain ⟨_, T509, L509, X509, hQ509, k509⟩ := c_I (W := 2) (x := mn60) X496 hx hZ hown (hww 377 rfl) (hww 378 rfl) (hww 379 rfl) (hww 380 rfl) (hww 381 rfl) (hww 382 rfl) (hww 383 rfl) (hww 172 rfl) (hww 384 rfl) (hww 28 rfl) (by decide) F501.1 (god1 l Z a0 hw [] mp id0 ib0 ik0 (97 : Int32) cs (1 : Int32) tb kt [.null, (.ref nd0), (.ref nd1), (.ref nd2), (.ref nd3), .null, .null, .null, .null, .null, .null, .null, .null, .null, .null, .null] nd0 bx0 ky0 yb0 yk0 b496 h496 n0 Z506 F501.1 (F501.g 0 (v := (.ref tb)) (by decide) rfl rfl) (Lz0.keep K507 nw_tb) F502 (Ld5.keep K507 nw_ib0) (Lz1.keep K507 nw_nd0) (Lz2.keep K507 nw_ky0) (Lz3.keep K507 nw_yb0) ge_id0 (Ne.symm (own_nn nw_ib0 (i := 2) rfl)) ne_mp_id0 (own_nn nw_tb (i := 2) rfl) (own_nn nw_nd0 (i := 2) rfl) (own_nn nw_ky0 (i := 2) rfl) (own_nn nw_yb0 (i := 2) rfl) (by decide) (by decide) (by decide) Scs hcs (by decide) (by decide) rfl F498) e496 (argsL := [(.ref id0), (.ref b496)]) (rest := [zI, (.ref b452)]) rfl (by rw [hml]; rfl) k496 rfl (H 25 rfl) (lenOf pd__28Ljava_2flang_2fObject_3bLjava_2flang_2fObject_3b_29Ljava_2flang_2fObject_3b rfl) (b5 rfl)
          obtain ⟨h509, e509⟩ : ∃ h', T509.heap = h' := ⟨_, rfl⟩
          rw [e509] at hQ509
          obtain ⟨rfl, N509q, K509, R509_0, R509_1⟩ := hQ509
          have N510 := Fr.app N497 N509q
          have F511 := F498.keep K509 (allS ge_id0 all0)
          have F512 := F499.keep K509 (ninS (nG Le0.lt (Nat.le_of_eq g452.symm)) nin0)
          have F513 := F500.keep K509
          have F514 := F501.keep K509 (ninS ne_mp_id0 nin0)
          have F515 := F503.keep K509 (ninS (Ne.symm ne_id0_id1) nin0)
          have F516 := F504.keep K509 (ninS (Ne.symm ne_id0_id2) nin0)
          have F517 := F505.keep K509 (ninS ne_a1_id0 nin0)
          have Z518 : n0 ≤ h509.size := Nat.le_trans Z506 K509.1
          have K519 := Keep.trans K507 K509 (allS (oL 2 rfl) all0)
          obtain ⟨T520, X520, e520, st520⟩ := castY X509 hx hZ hown (hww 257 rfl) e509 (Ins.self (Lz4.keep K519 nw_bx0).1) (g := (mkF m 55 #[sr a1, sr ls, sr mp, si 0, un, un, un] [vR bx0, vI 0, vR b452])) rfl rfl (H 26 rfl)
          have k521 : Rt p e below T520 (mkF m 58 #[sr a1, sr ls, sr mp, si 0, un, un, un] [vR bx0, vI 0, vR b452]) s₁ m #[(.ref a1), (.ref ls), (.ref mp)] 7 := fun t k => k509 t (st520 t k)
          obtain ⟨_, T522, L522, X522, hQ522, k522⟩ := c_V (W := 2) (x := mn14) X520 hx hZ hown (hww 259 rfl) (hww 260 rfl) (notFace_of_selects (args := #[]) (mvT hZ (hww 262 rfl))) (hww 262 rfl) (hww 261 rfl) (hww 263 rfl) (hww 68 rfl) (by decide) (Lz4.keep K519 nw_bx0).1 (iv l Z a0 hw [] bx0 r0 h509 n0 Z518 ((Lz4.keep K519 nw_bx0).g 0 (v := (.int r0)) (by decide) rfl rfl)) e520 (argsL := []) (rest := [zI, (.ref b452)]) rfl (by rw [hml]; rfl) k521 rfl (H 27 rfl) (lenOf pd__28_29I rfl) (b5 rfl)
          obtain ⟨rfl, N522q, e522⟩ := hQ522
          have N523 := Fr.app N510 N522q
          obtain ⟨_, T524, L524, X524, hQ524, k524⟩ := c_S (W := 2) X522 hx hZ hown (hww 266 rfl) (hww 267 rfl) (hww 146 rfl) (hww 268 rfl) (by decide) (gain l Z a0 hw [] r0 h509 n0 Z518 ) e522 (argsL := [(.int r0)]) (rest := [zI, (.ref b452)]) rfl (by rw [hml]; rfl) k522 rfl (H 28 rfl) (lenOf pd__28I_29I rfl) (b5 rfl)
          obtain ⟨h524, e524⟩ : ∃ h', T524.heap = h' := ⟨_, rfl⟩
          rw [e524] at hQ524
          obtain ⟨j524, rfl, N524q, hh524, P524_0⟩ := hQ524
          have N525 := Fr.app N523 N524q
          have ee524 : T524.heap = h509 := e524.trans hh524
          exact ⟨T524, h509, _, j524, X524, ee524, N525, Z518, F512, F513, F514, R509_0, F515, F516, F517, K519, F511, (P524_0.trans (if_pos rfl).symm), k524⟩
        · obtain ⟨_, T526, L526, X526, hQ526, k526⟩ := c_I (W := 2) (x := mn60) X496 hx hZ hown (hww 377 rfl) (hww 378 rfl) (hww 379 rfl) (hww 380 rfl) (hww 381 rfl) (hww 382 rfl) (hww 383 rfl) (hww 172 rfl) (hww 384 rfl) (hww 28 rfl) (by decide) F501.1 (god0 l Z a0 hw [] mp id0 ib0 ik0 (120 : Int32) cs (8 : Int32) tb kt [.null, (.ref nd0), (.ref nd1), (.ref nd2), (.ref nd3), .null, .null, .null, .null, .null, .null, .null, .null, .null, .null, .null] b496 h496 n0 Z506 F501.1 (F501.g 0 (v := (.ref tb)) (by decide) rfl rfl) (Lz0.keep K507 nw_tb) F502 (Ld5.keep K507 nw_ib0) ge_id0 (Ne.symm (own_nn nw_ib0 (i := 2) rfl)) ne_mp_id0 (own_nn nw_tb (i := 2) rfl) (by decide) (by decide) (by decide) Scs hcs (by decide) (by decide) rfl F498) e496 (argsL := [(.ref id0), (.ref b496)]) (rest := [zI, (.ref b452)]) rfl (by rw [hml]; rfl) k496 rfl (H 25 rfl) (lenOf pd__28Ljava_2flang_2fObject_3bLjava_2flang_2fObject_3b_29Ljava_2flang_2fObject_3b rfl) (b5 rfl)
          obtain ⟨h526, e526⟩ : ∃ h', T526.heap = h' := ⟨_, rfl⟩
          rw [e526] at hQ526
          obtain ⟨rfl, N526q, K526, R526_0, R526_1⟩ := hQ526
          have N527 := Fr.app N497 N526q
          have F528 := F498.keep K526 (allS ge_id0 all0)
          have F529 := F499.keep K526 (ninS (nG Le0.lt (Nat.le_of_eq g452.symm)) nin0)
          have F530 := F500.keep K526
          have F531 := F501.keep K526 (ninS ne_mp_id0 nin0)
          have F532 := F503.keep K526 (ninS (Ne.symm ne_id0_id1) nin0)
          have F533 := F504.keep K526 (ninS (Ne.symm ne_id0_id2) nin0)
          have F534 := F505.keep K526 (ninS ne_a1_id0 nin0)
          have F535 := R496_0.keep K526 (ninS (own_bxne P496_0 ge_id0 B471.lt) nin0)
          have Z536 : n0 ≤ h526.size := Nat.le_trans Z506 K526.1
          have K537 := Keep.trans K507 K526 (allS (oL 2 rfl) all0)
          obtain ⟨T538, X538, e538, st538⟩ := castY X526 hx hZ hown (hww 257 rfl) e526 (Ins.self F535.1) (g := (mkF m 55 #[sr a1, sr ls, sr mp, si 0, un, un, un] [vR b496, vI 0, vR b452])) rfl rfl (H 26 rfl)
          have k539 : Rt p e below T538 (mkF m 58 #[sr a1, sr ls, sr mp, si 0, un, un, un] [vR b496, vI 0, vR b452]) s₁ m #[(.ref a1), (.ref ls), (.ref mp)] 7 := fun t k => k526 t (st538 t k)
          obtain ⟨_, T540, L540, X540, hQ540, k540⟩ := c_V (W := 2) (x := mn14) X538 hx hZ hown (hww 259 rfl) (hww 260 rfl) (notFace_of_selects (args := #[]) (mvT hZ (hww 262 rfl))) (hww 262 rfl) (hww 261 rfl) (hww 263 rfl) (hww 68 rfl) (by decide) F535.1 (iv l Z a0 hw [] b496 (0 : Int32) h526 n0 Z536 (F535.g 0 (v := zI) (by decide) rfl rfl)) e538 (argsL := []) (rest := [zI, (.ref b452)]) rfl (by rw [hml]; rfl) k539 rfl (H 27 rfl) (lenOf pd__28_29I rfl) (b5 rfl)
          obtain ⟨rfl, N540q, e540⟩ := hQ540
          have N541 := Fr.app N527 N540q
          obtain ⟨_, T542, L542, X542, hQ542, k542⟩ := c_S (W := 2) X540 hx hZ hown (hww 266 rfl) (hww 267 rfl) (hww 146 rfl) (hww 268 rfl) (by decide) (gain l Z a0 hw [] (0 : Int32) h526 n0 Z536 ) e540 (argsL := [zI]) (rest := [zI, (.ref b452)]) rfl (by rw [hml]; rfl) k540 rfl (H 28 rfl) (lenOf pd__28I_29I rfl) (b5 rfl)
          obtain ⟨h542, e542⟩ : ∃ h', T542.heap = h' := ⟨_, rfl⟩
          rw [e542] at hQ542
          obtain ⟨j542, rfl, N542q, hh542, P542_0⟩ := hQ542
          have N543 := Fr.app N541 N542q
          have ee542 : T542.heap = h526 := e542.trans hh542
          exact ⟨T542, h526, _, j542, X542, ee542, N543, Z536, F529, F530, F531, R526_0, F532, F533, F534, K537, F528, (P542_0.trans ((if_neg (by decide)).trans (if_neg (by decide)).symm)), k542⟩
      obtain ⟨T553, h553, L553, X553, e553, W553, V553, N553, Z553, k553⟩ := f_ist X508 hx hZ e508 F544 N508 g453 Zq508 kq508 (H 29 rfl) (by decide) 0 rfl (lt_b rfl)
      have F554 := F545.wr W553
      have F555 := F552.wr W553 g453
      have K556 := F551.wr W553 (Or.inr z454)
      have B557 := F546.other W553 (nL Fk1.lt (Nat.le_of_eq g452.symm))
      have B558 := F547.other W553 (nL Le0.lt (Nat.le_of_eq g452.symm))
      have B559 := F548.other W553 (nL Le1.lt (Nat.le_of_eq g452.symm))
      have B560 := F549.other W553 (nL Le2.lt (Nat.le_of_eq g452.symm))
      have B561 := F550.other W553 (nL Fk0.lt (Nat.le_of_eq g452.symm))
      have k562 := f_inc X553 hx k553 (H 30 rfl) rfl (l' := #[sr a1, sr ls, sr mp, si 1, un, un, un]) rfl
      have k563 := f_go X553 hx k562 (H 31 rfl) (pc' := 18) (by decide)
      have k564 := f_ilN X553 hx k563 (H 9 rfl) rfl
      have k565 := f_alN X553 hx k564 (H 10 rfl) rfl
      obtain ⟨T566, X566, e566, k567⟩ := gFs X553 hx hZ hown (hww 163 rfl) e553 (B561.g 0 (v := (.ref b452)) (by decide) rfl rfl) k565 (H 11 rfl)
      have k568 := f_len X566 hx hZ e566 V553 k567 (H 12 rfl)
      have k569 := f_icN X566 hx k568 (H 13 rfl) (tlt (by decide)).2.1
      have k570 := f_alN X566 hx k569 (H 14 rfl) rfl
      obtain ⟨T571, X571, e571, k572⟩ := gFs X566 hx hZ hown (hww 163 rfl) e566 (B561.g 0 (v := (.ref b452)) (by decide) rfl rfl) k570 (H 15 rfl)
      have k573 := f_ilN X571 hx k572 (H 16 rfl) rfl
      have k574 := f_alN X571 hx k573 (H 17 rfl) rfl
      have k575 := f_alN X571 hx k574 (H 18 rfl) rfl
      have k576 := f_ilN X571 hx k575 (H 19 rfl) rfl
      obtain ⟨_, T577, L577, X577, hQ577, k577⟩ := c_I (W := 3) (x := mn59) X571 hx hZ hown (hww 348 rfl) (hww 349 rfl) (hww 350 rfl) (hww 351 rfl) (hww 352 rfl) (hww 353 rfl) (hww 354 rfl) (hww 158 rfl) (hww 355 rfl) (hww 2 rfl) (by decide) (Ld0.keep K556 nw_ls).1 (aget1 l Z a0 hw [] ls ea ka do0 do1 (.ref do2) (3 : Int32) h553 n0 Z553 (Ld0.keep K556 nw_ls).1 ((Ld0.keep K556 nw_ls).g 1 (v := (.ref ea)) (by decide) rfl rfl) ((Ld0.keep K556 nw_ls).g 2 (v := (.int (3 : Int32))) (by decide) rfl rfl) (Ld1.keep K556 nw_ea) (by decide)) e571 (argsL := [(.int (1 : Int32))]) (rest := [(.ref mp), (.int (1 : Int32)), (.ref b452)]) rfl (by rw [hml]; rfl) k576 rfl (H 20 rfl) (lenOf pd__28I_29Ljava_2flang_2fObject_3b rfl) (b5 rfl)
      obtain ⟨rfl, N577q, e577⟩ := hQ577
      have N578 := Fr.app N553 N577q
      obtain ⟨T579, X579, e579, st579⟩ := castY X577 hx hZ hown (hww 369 rfl) e577 (Ins.self (Ld3.keep K556 nw_do1).1) (g := (mkF m 40 #[sr a1, sr ls, sr mp, si 1, un, un, un] [vR do1, vR mp, vI 1, vR b452])) rfl rfl (H 21 rfl)
      have k580 : Rt p e below T579 (mkF m 43 #[sr a1, sr ls, sr mp, si 1, un, un, un] [vR do1, vR mp, vI 1, vR b452]) s₁ m #[(.ref a1), (.ref ls), (.ref mp)] 7 := fun t k => k577 t (st579 t k)
      obtain ⟨_, T581, L581, X581, hQ581, k581⟩ := c_V (W := 3) (x := mn16) X579 hx hZ hown (hww 371 rfl) (hww 372 rfl) (notFace_of_selects (args := #[]) (mvT hZ (hww 374 rfl))) (hww 374 rfl) (hww 373 rfl) (hww 375 rfl) (hww 311 rfl) (by decide) (Ld3.keep K556 nw_do1).1 (sid l Z a0 hw [] do1 id1 h553 n0 Z553 ((Ld3.keep K556 nw_do1).g 0 (v := (.ref id1)) (by decide) rfl rfl)) e579 (argsL := []) (rest := [(.ref mp), (.int (1 : Int32)), (.ref b452)]) rfl (by rw [hml]; rfl) k580 rfl (H 22 rfl) (lenOf pd__28_29Ljava_2flang_2fString_3b rfl) (b5 rfl)
      obtain ⟨rfl, N581q, e581⟩ := hQ581
      have N582 := Fr.app N578 N581q
      have k583 := f_ic X581 hx k581 (H 23 rfl) (v := 0) rfl
      obtain ⟨_, T584, L584, X584, hQ584, k584⟩ := c_S (W := 4) X581 hx hZ hown (hww 376 rfl) (hww 67 rfl) (hww 68 rfl) (hww 69 rfl) (by decide) (box l Z a0 hw [] (0 : Int32) ca ce h553 n0 Z553 Shi Sca Bx F555) e581 (argsL := [zI]) (rest := [(.ref id1), (.ref mp), (.int (1 : Int32)), (.ref b452)]) rfl (by rw [hml]; rfl) k583 rfl (H 24 rfl) (lenOf pd__28I_29Ljava_2flang_2fInteger_3b rfl) (b5 rfl)
      obtain ⟨h584, e584⟩ : ∃ h', T584.heap = h' := ⟨_, rfl⟩
      rw [e584] at hQ584
      obtain ⟨b584, rfl, N584q, K584, R584_0, P584_0⟩ := hQ584
      have N585 := Fr.app N582 N584q
      have F586 := V553.keep K584 nin0
      have F587 := F554.keep K584
      have F588 := F555.keep K584 all0
      have F589 := B557.keep K584 nin0
      have F590 := B558.keep K584 nin0
      have F591 := B559.keep K584 nin0
      have F592 := B560.keep K584 nin0
      have F593 := B561.keep K584 nin0
      have Z594 : n0 ≤ h584.size := Nat.le_trans Z553 K584.1
      have K595 := Keep.trans K556 K584 all0
      obtain ⟨T596, h596, Ls596, g1, X596, e596, N596, Zq596, F632, F633, F634, F635, F636, F637, F638, F639, F640, hg1, kq596⟩ : ∃ (T596 : State) (h596 : Heap) (Ls596 : List Loc) (g1 : Int32), Stand p l e (rm 5 9 24 79) s m #[(.ref a1), (.ref ls), (.ref mp)] below meth c T596 Ls596 3 5 ∧ T596.heap = h596 ∧ Fr n0 Ls596 ∧ n0 ≤ h596.size ∧ Arv Z h596 b452 k452 .int (3 : Int32) [(.int g0), zI, zI] zI ∧ Exa Z h596 b452 "[I" ∧ OBJ Z h596 mp "java/util/HashMap" lyMP [(.ref tb), (.int (4 : Int32)), (.int mc), (.int (12 : Int32)), .null, (.float (1061158912 : UInt32))] ∧ OBJ Z h596 id0 "java/lang/String" lyST [(.ref ib0), zI, (.int ch0), zI] ∧ OBJ Z h596 id1 "java/lang/String" lyST [(.ref ib1), zI, (.int ch1), zI] ∧ OBJ Z h596 id2 "java/lang/String" lyST [(.ref ib2), zI, zI, zI] ∧ OBJ Z h596 a1 "com/example/multinomial/multinomial/eval/JudgedRanking" lyJR [(.ref b452), .null] ∧ Keep h0 h596 [a1, mp, id0, id1, id2] ∧ Old Z n0 h596 ∧ (g1 = (if ch1 = (98 : Int32) then (if r1 < (0 : Int32) then (0 : Int32) else r1) else (0 : Int32))) ∧ (Rt p e below T596 (mkF m 64 #[sr a1, sr ls, sr mp, si 1, un, un, un] [vI g1, vI 1, vR b452]) s₁ m #[(.ref a1), (.ref ls), (.ref mp)] 7) := by
        rcases hch1 with rfl | rfl
        · obtain ⟨_, T597, L597, X597, hQ597, k597⟩ := c_I (W := 2) (x := mn60) X584 hx hZ hown (hww 377 rfl) (hww 378 rfl) (hww 379 rfl) (hww 380 rfl) (hww 381 rfl) (hww 382 rfl) (hww 383 rfl) (hww 172 rfl) (hww 384 rfl) (hww 28 rfl) (by decide) F589.1 (god1 l Z a0 hw [] mp id1 ib1 ik1 (98 : Int32) cs (2 : Int32) tb kt [.null, (.ref nd0), (.ref nd1), (.ref nd2), (.ref nd3), .null, .null, .null, .null, .null, .null, .null, .null, .null, .null, .null] nd1 bx1 ky1 yb1 yk1 b584 h584 n0 Z594 F589.1 (F589.g 0 (v := (.ref tb)) (by decide) rfl rfl) (Lz0.keep K595 nw_tb) F591 (Ld6.keep K595 nw_ib1) (Lz5.keep K595 nw_nd1) (Lz6.keep K595 nw_ky1) (Lz7.keep K595 nw_yb1) ge_id1 (Ne.symm (own_nn nw_ib1 (i := 3) rfl)) ne_mp_id1 (own_nn nw_tb (i := 3) rfl) (own_nn nw_nd1 (i := 3) rfl) (own_nn nw_ky1 (i := 3) rfl) (own_nn nw_yb1 (i := 3) rfl) (by decide) (by decide) (by decide) Scs hcs (by decide) (by decide) rfl F588) e584 (argsL := [(.ref id1), (.ref b584)]) (rest := [(.int (1 : Int32)), (.ref b452)]) rfl (by rw [hml]; rfl) k584 rfl (H 25 rfl) (lenOf pd__28Ljava_2flang_2fObject_3bLjava_2flang_2fObject_3b_29Ljava_2flang_2fObject_3b rfl) (b5 rfl)
          obtain ⟨h597, e597⟩ : ∃ h', T597.heap = h' := ⟨_, rfl⟩
          rw [e597] at hQ597
          obtain ⟨rfl, N597q, K597, R597_0, R597_1⟩ := hQ597
          have N598 := Fr.app N585 N597q
          have F599 := F586.keep K597 (ninS (nG Le1.lt (Nat.le_of_eq g452.symm)) nin0)
          have F600 := F587.keep K597
          have F601 := F588.keep K597 (allS ge_id1 all0)
          have F602 := F589.keep K597 (ninS ne_mp_id1 nin0)
          have F603 := F590.keep K597 (ninS ne_id0_id1 nin0)
          have F604 := F592.keep K597 (ninS (Ne.symm ne_id1_id2) nin0)
          have F605 := F593.keep K597 (ninS ne_a1_id1 nin0)
          have Z606 : n0 ≤ h597.size := Nat.le_trans Z594 K597.1
          have K607 := Keep.trans K595 K597 (allS (oL 3 rfl) all0)
          obtain ⟨T608, X608, e608, st608⟩ := castY X597 hx hZ hown (hww 257 rfl) e597 (Ins.self (Lz8.keep K607 nw_bx1).1) (g := (mkF m 55 #[sr a1, sr ls, sr mp, si 1, un, un, un] [vR bx1, vI 1, vR b452])) rfl rfl (H 26 rfl)
          have k609 : Rt p e below T608 (mkF m 58 #[sr a1, sr ls, sr mp, si 1, un, un, un] [vR bx1, vI 1, vR b452]) s₁ m #[(.ref a1), (.ref ls), (.ref mp)] 7 := fun t k => k597 t (st608 t k)
          obtain ⟨_, T610, L610, X610, hQ610, k610⟩ := c_V (W := 2) (x := mn14) X608 hx hZ hown (hww 259 rfl) (hww 260 rfl) (notFace_of_selects (args := #[]) (mvT hZ (hww 262 rfl))) (hww 262 rfl) (hww 261 rfl) (hww 263 rfl) (hww 68 rfl) (by decide) (Lz8.keep K607 nw_bx1).1 (iv l Z a0 hw [] bx1 r1 h597 n0 Z606 ((Lz8.keep K607 nw_bx1).g 0 (v := (.int r1)) (by decide) rfl rfl)) e608 (argsL := []) (rest := [(.int (1 : Int32)), (.ref b452)]) rfl (by rw [hml]; rfl) k609 rfl (H 27 rfl) (lenOf pd__28_29I rfl) (b5 rfl)
          obtain ⟨rfl, N610q, e610⟩ := hQ610
          have N611 := Fr.app N598 N610q
          obtain ⟨_, T612, L612, X612, hQ612, k612⟩ := c_S (W := 2) X610 hx hZ hown (hww 266 rfl) (hww 267 rfl) (hww 146 rfl) (hww 268 rfl) (by decide) (gain l Z a0 hw [] r1 h597 n0 Z606 ) e610 (argsL := [(.int r1)]) (rest := [(.int (1 : Int32)), (.ref b452)]) rfl (by rw [hml]; rfl) k610 rfl (H 28 rfl) (lenOf pd__28I_29I rfl) (b5 rfl)
          obtain ⟨h612, e612⟩ : ∃ h', T612.heap = h' := ⟨_, rfl⟩
          rw [e612] at hQ612
          obtain ⟨j612, rfl, N612q, hh612, P612_0⟩ := hQ612
          have N613 := Fr.app N611 N612q
          have ee612 : T612.heap = h597 := e612.trans hh612
          exact ⟨T612, h597, _, j612, X612, ee612, N613, Z606, F599, F600, F602, F603, R597_0, F604, F605, K607, F601, (P612_0.trans (if_pos rfl).symm), k612⟩
        · obtain ⟨_, T614, L614, X614, hQ614, k614⟩ := c_I (W := 2) (x := mn60) X584 hx hZ hown (hww 377 rfl) (hww 378 rfl) (hww 379 rfl) (hww 380 rfl) (hww 381 rfl) (hww 382 rfl) (hww 383 rfl) (hww 172 rfl) (hww 384 rfl) (hww 28 rfl) (by decide) F589.1 (god0 l Z a0 hw [] mp id1 ib1 ik1 (121 : Int32) cs (9 : Int32) tb kt [.null, (.ref nd0), (.ref nd1), (.ref nd2), (.ref nd3), .null, .null, .null, .null, .null, .null, .null, .null, .null, .null, .null] b584 h584 n0 Z594 F589.1 (F589.g 0 (v := (.ref tb)) (by decide) rfl rfl) (Lz0.keep K595 nw_tb) F591 (Ld6.keep K595 nw_ib1) ge_id1 (Ne.symm (own_nn nw_ib1 (i := 3) rfl)) ne_mp_id1 (own_nn nw_tb (i := 3) rfl) (by decide) (by decide) (by decide) Scs hcs (by decide) (by decide) rfl F588) e584 (argsL := [(.ref id1), (.ref b584)]) (rest := [(.int (1 : Int32)), (.ref b452)]) rfl (by rw [hml]; rfl) k584 rfl (H 25 rfl) (lenOf pd__28Ljava_2flang_2fObject_3bLjava_2flang_2fObject_3b_29Ljava_2flang_2fObject_3b rfl) (b5 rfl)
          obtain ⟨h614, e614⟩ : ∃ h', T614.heap = h' := ⟨_, rfl⟩
          rw [e614] at hQ614
          obtain ⟨rfl, N614q, K614, R614_0, R614_1⟩ := hQ614
          have N615 := Fr.app N585 N614q
          have F616 := F586.keep K614 (ninS (nG Le1.lt (Nat.le_of_eq g452.symm)) nin0)
          have F617 := F587.keep K614
          have F618 := F588.keep K614 (allS ge_id1 all0)
          have F619 := F589.keep K614 (ninS ne_mp_id1 nin0)
          have F620 := F590.keep K614 (ninS ne_id0_id1 nin0)
          have F621 := F592.keep K614 (ninS (Ne.symm ne_id1_id2) nin0)
          have F622 := F593.keep K614 (ninS ne_a1_id1 nin0)
          have F623 := R584_0.keep K614 (ninS (own_bxne P584_0 ge_id1 B559.lt) nin0)
          have Z624 : n0 ≤ h614.size := Nat.le_trans Z594 K614.1
          have K625 := Keep.trans K595 K614 (allS (oL 3 rfl) all0)
          obtain ⟨T626, X626, e626, st626⟩ := castY X614 hx hZ hown (hww 257 rfl) e614 (Ins.self F623.1) (g := (mkF m 55 #[sr a1, sr ls, sr mp, si 1, un, un, un] [vR b584, vI 1, vR b452])) rfl rfl (H 26 rfl)
          have k627 : Rt p e below T626 (mkF m 58 #[sr a1, sr ls, sr mp, si 1, un, un, un] [vR b584, vI 1, vR b452]) s₁ m #[(.ref a1), (.ref ls), (.ref mp)] 7 := fun t k => k614 t (st626 t k)
          obtain ⟨_, T628, L628, X628, hQ628, k628⟩ := c_V (W := 2) (x := mn14) X626 hx hZ hown (hww 259 rfl) (hww 260 rfl) (notFace_of_selects (args := #[]) (mvT hZ (hww 262 rfl))) (hww 262 rfl) (hww 261 rfl) (hww 263 rfl) (hww 68 rfl) (by decide) F623.1 (iv l Z a0 hw [] b584 (0 : Int32) h614 n0 Z624 (F623.g 0 (v := zI) (by decide) rfl rfl)) e626 (argsL := []) (rest := [(.int (1 : Int32)), (.ref b452)]) rfl (by rw [hml]; rfl) k627 rfl (H 27 rfl) (lenOf pd__28_29I rfl) (b5 rfl)
          obtain ⟨rfl, N628q, e628⟩ := hQ628
          have N629 := Fr.app N615 N628q
          obtain ⟨_, T630, L630, X630, hQ630, k630⟩ := c_S (W := 2) X628 hx hZ hown (hww 266 rfl) (hww 267 rfl) (hww 146 rfl) (hww 268 rfl) (by decide) (gain l Z a0 hw [] (0 : Int32) h614 n0 Z624 ) e628 (argsL := [zI]) (rest := [(.int (1 : Int32)), (.ref b452)]) rfl (by rw [hml]; rfl) k628 rfl (H 28 rfl) (lenOf pd__28I_29I rfl) (b5 rfl)
          obtain ⟨h630, e630⟩ : ∃ h', T630.heap = h' := ⟨_, rfl⟩
          rw [e630] at hQ630
          obtain ⟨j630, rfl, N630q, hh630, P630_0⟩ := hQ630
          have N631 := Fr.app N629 N630q
          have ee630 : T630.heap = h614 := e630.trans hh630
          exact ⟨T630, h614, _, j630, X630, ee630, N631, Z624, F616, F617, F619, F620, R614_0, F621, F622, K625, F618, (P630_0.trans ((if_neg (by decide)).trans (if_neg (by decide)).symm)), k630⟩
      obtain ⟨T641, h641, L641, X641, e641, W641, V641, N641, Z641, k641⟩ := f_ist X596 hx hZ e596 F632 N596 g453 Zq596 kq596 (H 29 rfl) (by decide) 1 rfl (lt_b rfl)
      have F642 := F633.wr W641
      have F643 := F640.wr W641 g453
      have K644 := F639.wr W641 (Or.inr z454)
      have B645 := F634.other W641 (nL Fk1.lt (Nat.le_of_eq g452.symm))
      have B646 := F635.other W641 (nL Le0.lt (Nat.le_of_eq g452.symm))
      have B647 := F636.other W641 (nL Le1.lt (Nat.le_of_eq g452.symm))
      have B648 := F637.other W641 (nL Le2.lt (Nat.le_of_eq g452.symm))
      have B649 := F638.other W641 (nL Fk0.lt (Nat.le_of_eq g452.symm))
      have k650 := f_inc X641 hx k641 (H 30 rfl) rfl (l' := #[sr a1, sr ls, sr mp, si 2, un, un, un]) rfl
      have k651 := f_go X641 hx k650 (H 31 rfl) (pc' := 18) (by decide)
      have k652 := f_ilN X641 hx k651 (H 9 rfl) rfl
      have k653 := f_alN X641 hx k652 (H 10 rfl) rfl
      obtain ⟨T654, X654, e654, k655⟩ := gFs X641 hx hZ hown (hww 163 rfl) e641 (B649.g 0 (v := (.ref b452)) (by decide) rfl rfl) k653 (H 11 rfl)
      have k656 := f_len X654 hx hZ e654 V641 k655 (H 12 rfl)
      have k657 := f_icN X654 hx k656 (H 13 rfl) (tlt (by decide)).2.1
      have k658 := f_alN X654 hx k657 (H 14 rfl) rfl
      obtain ⟨T659, X659, e659, k660⟩ := gFs X654 hx hZ hown (hww 163 rfl) e654 (B649.g 0 (v := (.ref b452)) (by decide) rfl rfl) k658 (H 15 rfl)
      have k661 := f_ilN X659 hx k660 (H 16 rfl) rfl
      have k662 := f_alN X659 hx k661 (H 17 rfl) rfl
      have k663 := f_alN X659 hx k662 (H 18 rfl) rfl
      have k664 := f_ilN X659 hx k663 (H 19 rfl) rfl
      obtain ⟨_, T665, L665, X665, hQ665, k665⟩ := c_I (W := 3) (x := mn59) X659 hx hZ hown (hww 348 rfl) (hww 349 rfl) (hww 350 rfl) (hww 351 rfl) (hww 352 rfl) (hww 353 rfl) (hww 354 rfl) (hww 158 rfl) (hww 355 rfl) (hww 2 rfl) (by decide) (Ld0.keep K644 nw_ls).1 (aget2 l Z a0 hw [] ls ea ka do0 do1 do2 (3 : Int32) h641 n0 Z641 (Ld0.keep K644 nw_ls).1 ((Ld0.keep K644 nw_ls).g 1 (v := (.ref ea)) (by decide) rfl rfl) ((Ld0.keep K644 nw_ls).g 2 (v := (.int (3 : Int32))) (by decide) rfl rfl) (Ld1.keep K644 nw_ea) (by decide)) e659 (argsL := [(.int (2 : Int32))]) (rest := [(.ref mp), (.int (2 : Int32)), (.ref b452)]) rfl (by rw [hml]; rfl) k664 rfl (H 20 rfl) (lenOf pd__28I_29Ljava_2flang_2fObject_3b rfl) (b5 rfl)
      obtain ⟨rfl, N665q, e665⟩ := hQ665
      have N666 := Fr.app N641 N665q
      obtain ⟨T667, X667, e667, st667⟩ := castY X665 hx hZ hown (hww 369 rfl) e665 (Ins.self (Ld4.keep K644 nw_do2).1) (g := (mkF m 40 #[sr a1, sr ls, sr mp, si 2, un, un, un] [vR do2, vR mp, vI 2, vR b452])) rfl rfl (H 21 rfl)
      have k668 : Rt p e below T667 (mkF m 43 #[sr a1, sr ls, sr mp, si 2, un, un, un] [vR do2, vR mp, vI 2, vR b452]) s₁ m #[(.ref a1), (.ref ls), (.ref mp)] 7 := fun t k => k665 t (st667 t k)
      obtain ⟨_, T669, L669, X669, hQ669, k669⟩ := c_V (W := 3) (x := mn16) X667 hx hZ hown (hww 371 rfl) (hww 372 rfl) (notFace_of_selects (args := #[]) (mvT hZ (hww 374 rfl))) (hww 374 rfl) (hww 373 rfl) (hww 375 rfl) (hww 311 rfl) (by decide) (Ld4.keep K644 nw_do2).1 (sid l Z a0 hw [] do2 id2 h641 n0 Z641 ((Ld4.keep K644 nw_do2).g 0 (v := (.ref id2)) (by decide) rfl rfl)) e667 (argsL := []) (rest := [(.ref mp), (.int (2 : Int32)), (.ref b452)]) rfl (by rw [hml]; rfl) k668 rfl (H 22 rfl) (lenOf pd__28_29Ljava_2flang_2fString_3b rfl) (b5 rfl)
      obtain ⟨rfl, N669q, e669⟩ := hQ669
      have N670 := Fr.app N666 N669q
      have k671 := f_ic X669 hx k669 (H 23 rfl) (v := 0) rfl
      obtain ⟨_, T672, L672, X672, hQ672, k672⟩ := c_S (W := 4) X669 hx hZ hown (hww 376 rfl) (hww 67 rfl) (hww 68 rfl) (hww 69 rfl) (by decide) (box l Z a0 hw [] (0 : Int32) ca ce h641 n0 Z641 Shi Sca Bx F643) e669 (argsL := [zI]) (rest := [(.ref id2), (.ref mp), (.int (2 : Int32)), (.ref b452)]) rfl (by rw [hml]; rfl) k671 rfl (H 24 rfl) (lenOf pd__28I_29Ljava_2flang_2fInteger_3b rfl) (b5 rfl)
      obtain ⟨h672, e672⟩ : ∃ h', T672.heap = h' := ⟨_, rfl⟩
      rw [e672] at hQ672
      obtain ⟨b672, rfl, N672q, K672, R672_0, P672_0⟩ := hQ672
      have N673 := Fr.app N670 N672q
      have F674 := V641.keep K672 nin0
      have F675 := F642.keep K672
      have F676 := F643.keep K672 all0
      have F677 := B645.keep K672 nin0
      have F678 := B646.keep K672 nin0
      have F679 := B647.keep K672 nin0
      have F680 := B648.keep K672 nin0
      have F681 := B649.keep K672 nin0
      have Z682 : n0 ≤ h672.size := Nat.le_trans Z641 K672.1
      have K683 := Keep.trans K644 K672 all0
      obtain ⟨T684, h684, Ls684, g2, X684, e684, N684, Zq684, F720, F721, F722, F723, F724, F725, F726, F727, F728, hg2, kq684⟩ : ∃ (T684 : State) (h684 : Heap) (Ls684 : List Loc) (g2 : Int32), Stand p l e (rm 5 9 24 79) s m #[(.ref a1), (.ref ls), (.ref mp)] below meth c T684 Ls684 4 6 ∧ T684.heap = h684 ∧ Fr n0 Ls684 ∧ n0 ≤ h684.size ∧ Arv Z h684 b452 k452 .int (3 : Int32) [(.int g0), (.int g1), zI] zI ∧ Exa Z h684 b452 "[I" ∧ OBJ Z h684 mp "java/util/HashMap" lyMP [(.ref tb), (.int (4 : Int32)), (.int mc), (.int (12 : Int32)), .null, (.float (1061158912 : UInt32))] ∧ OBJ Z h684 id0 "java/lang/String" lyST [(.ref ib0), zI, (.int ch0), zI] ∧ OBJ Z h684 id1 "java/lang/String" lyST [(.ref ib1), zI, (.int ch1), zI] ∧ OBJ Z h684 id2 "java/lang/String" lyST [(.ref ib2), zI, (.int ch2), zI] ∧ OBJ Z h684 a1 "com/example/multinomial/multinomial/eval/JudgedRanking" lyJR [(.ref b452), .null] ∧ Keep h0 h684 [a1, mp, id0, id1, id2] ∧ Old Z n0 h684 ∧ (g2 = (if ch2 = (99 : Int32) then (if r2 < (0 : Int32) then (0 : Int32) else r2) else (0 : Int32))) ∧ (Rt p e below T684 (mkF m 64 #[sr a1, sr ls, sr mp, si 2, un, un, un] [vI g2, vI 2, vR b452]) s₁ m #[(.ref a1), (.ref ls), (.ref mp)] 7) := by
        rcases hch2 with rfl | rfl
        · obtain ⟨_, T685, L685, X685, hQ685, k685⟩ := c_I (W := 2) (x := mn60) X672 hx hZ hown (hww 377 rfl) (hww 378 rfl) (hww 379 rfl) (hww 380 rfl) (hww 381 rfl) (hww 382 rfl) (hww 383 rfl) (hww 172 rfl) (hww 384 rfl) (hww 28 rfl) (by decide) F677.1 (god1 l Z a0 hw [] mp id2 ib2 ik2 (99 : Int32) cs (3 : Int32) tb kt [.null, (.ref nd0), (.ref nd1), (.ref nd2), (.ref nd3), .null, .null, .null, .null, .null, .null, .null, .null, .null, .null, .null] nd2 bx2 ky2 yb2 yk2 b672 h672 n0 Z682 F677.1 (F677.g 0 (v := (.ref tb)) (by decide) rfl rfl) (Lz0.keep K683 nw_tb) F680 (Ld7.keep K683 nw_ib2) (Lz9.keep K683 nw_nd2) (Lz10.keep K683 nw_ky2) (Lz11.keep K683 nw_yb2) ge_id2 (Ne.symm (own_nn nw_ib2 (i := 4) rfl)) ne_mp_id2 (own_nn nw_tb (i := 4) rfl) (own_nn nw_nd2 (i := 4) rfl) (own_nn nw_ky2 (i := 4) rfl) (own_nn nw_yb2 (i := 4) rfl) (by decide) (by decide) (by decide) Scs hcs (by decide) (by decide) rfl F676) e672 (argsL := [(.ref id2), (.ref b672)]) (rest := [(.int (2 : Int32)), (.ref b452)]) rfl (by rw [hml]; rfl) k672 rfl (H 25 rfl) (lenOf pd__28Ljava_2flang_2fObject_3bLjava_2flang_2fObject_3b_29Ljava_2flang_2fObject_3b rfl) (b5 rfl)
          obtain ⟨h685, e685⟩ : ∃ h', T685.heap = h' := ⟨_, rfl⟩
          rw [e685] at hQ685
          obtain ⟨rfl, N685q, K685, R685_0, R685_1⟩ := hQ685
          have N686 := Fr.app N673 N685q
          have F687 := F674.keep K685 (ninS (nG Le2.lt (Nat.le_of_eq g452.symm)) nin0)
          have F688 := F675.keep K685
          have F689 := F676.keep K685 (allS ge_id2 all0)
          have F690 := F677.keep K685 (ninS ne_mp_id2 nin0)
          have F691 := F678.keep K685 (ninS ne_id0_id2 nin0)
          have F692 := F679.keep K685 (ninS ne_id1_id2 nin0)
          have F693 := F681.keep K685 (ninS ne_a1_id2 nin0)
          have Z694 : n0 ≤ h685.size := Nat.le_trans Z682 K685.1
          have K695 := Keep.trans K683 K685 (allS (oL 4 rfl) all0)
          obtain ⟨T696, X696, e696, st696⟩ := castY X685 hx hZ hown (hww 257 rfl) e685 (Ins.self (Lz12.keep K695 nw_bx2).1) (g := (mkF m 55 #[sr a1, sr ls, sr mp, si 2, un, un, un] [vR bx2, vI 2, vR b452])) rfl rfl (H 26 rfl)
          have k697 : Rt p e below T696 (mkF m 58 #[sr a1, sr ls, sr mp, si 2, un, un, un] [vR bx2, vI 2, vR b452]) s₁ m #[(.ref a1), (.ref ls), (.ref mp)] 7 := fun t k => k685 t (st696 t k)
          obtain ⟨_, T698, L698, X698, hQ698, k698⟩ := c_V (W := 2) (x := mn14) X696 hx hZ hown (hww 259 rfl) (hww 260 rfl) (notFace_of_selects (args := #[]) (mvT hZ (hww 262 rfl))) (hww 262 rfl) (hww 261 rfl) (hww 263 rfl) (hww 68 rfl) (by decide) (Lz12.keep K695 nw_bx2).1 (iv l Z a0 hw [] bx2 r2 h685 n0 Z694 ((Lz12.keep K695 nw_bx2).g 0 (v := (.int r2)) (by decide) rfl rfl)) e696 (argsL := []) (rest := [(.int (2 : Int32)), (.ref b452)]) rfl (by rw [hml]; rfl) k697 rfl (H 27 rfl) (lenOf pd__28_29I rfl) (b5 rfl)
          obtain ⟨rfl, N698q, e698⟩ := hQ698
          have N699 := Fr.app N686 N698q
          obtain ⟨_, T700, L700, X700, hQ700, k700⟩ := c_S (W := 2) X698 hx hZ hown (hww 266 rfl) (hww 267 rfl) (hww 146 rfl) (hww 268 rfl) (by decide) (gain l Z a0 hw [] r2 h685 n0 Z694 ) e698 (argsL := [(.int r2)]) (rest := [(.int (2 : Int32)), (.ref b452)]) rfl (by rw [hml]; rfl) k698 rfl (H 28 rfl) (lenOf pd__28I_29I rfl) (b5 rfl)
          obtain ⟨h700, e700⟩ : ∃ h', T700.heap = h' := ⟨_, rfl⟩
          rw [e700] at hQ700
          obtain ⟨j700, rfl, N700q, hh700, P700_0⟩ := hQ700
          have N701 := Fr.app N699 N700q
          have ee700 : T700.heap = h685 := e700.trans hh700
          exact ⟨T700, h685, _, j700, X700, ee700, N701, Z694, F687, F688, F690, F691, F692, R685_0, F693, K695, F689, (P700_0.trans (if_pos rfl).symm), k700⟩
        · obtain ⟨_, T702, L702, X702, hQ702, k702⟩ := c_I (W := 2) (x := mn60) X672 hx hZ hown (hww 377 rfl) (hww 378 rfl) (hww 379 rfl) (hww 380 rfl) (hww 381 rfl) (hww 382 rfl) (hww 383 rfl) (hww 172 rfl) (hww 384 rfl) (hww 28 rfl) (by decide) F677.1 (god0 l Z a0 hw [] mp id2 ib2 ik2 (122 : Int32) cs (10 : Int32) tb kt [.null, (.ref nd0), (.ref nd1), (.ref nd2), (.ref nd3), .null, .null, .null, .null, .null, .null, .null, .null, .null, .null, .null] b672 h672 n0 Z682 F677.1 (F677.g 0 (v := (.ref tb)) (by decide) rfl rfl) (Lz0.keep K683 nw_tb) F680 (Ld7.keep K683 nw_ib2) ge_id2 (Ne.symm (own_nn nw_ib2 (i := 4) rfl)) ne_mp_id2 (own_nn nw_tb (i := 4) rfl) (by decide) (by decide) (by decide) Scs hcs (by decide) (by decide) rfl F676) e672 (argsL := [(.ref id2), (.ref b672)]) (rest := [(.int (2 : Int32)), (.ref b452)]) rfl (by rw [hml]; rfl) k672 rfl (H 25 rfl) (lenOf pd__28Ljava_2flang_2fObject_3bLjava_2flang_2fObject_3b_29Ljava_2flang_2fObject_3b rfl) (b5 rfl)
          obtain ⟨h702, e702⟩ : ∃ h', T702.heap = h' := ⟨_, rfl⟩
          rw [e702] at hQ702
          obtain ⟨rfl, N702q, K702, R702_0, R702_1⟩ := hQ702
          have N703 := Fr.app N673 N702q
          have F704 := F674.keep K702 (ninS (nG Le2.lt (Nat.le_of_eq g452.symm)) nin0)
          have F705 := F675.keep K702
          have F706 := F676.keep K702 (allS ge_id2 all0)
          have F707 := F677.keep K702 (ninS ne_mp_id2 nin0)
          have F708 := F678.keep K702 (ninS ne_id0_id2 nin0)
          have F709 := F679.keep K702 (ninS ne_id1_id2 nin0)
          have F710 := F681.keep K702 (ninS ne_a1_id2 nin0)
          have F711 := R672_0.keep K702 (ninS (own_bxne P672_0 ge_id2 B648.lt) nin0)
          have Z712 : n0 ≤ h702.size := Nat.le_trans Z682 K702.1
          have K713 := Keep.trans K683 K702 (allS (oL 4 rfl) all0)
          obtain ⟨T714, X714, e714, st714⟩ := castY X702 hx hZ hown (hww 257 rfl) e702 (Ins.self F711.1) (g := (mkF m 55 #[sr a1, sr ls, sr mp, si 2, un, un, un] [vR b672, vI 2, vR b452])) rfl rfl (H 26 rfl)
          have k715 : Rt p e below T714 (mkF m 58 #[sr a1, sr ls, sr mp, si 2, un, un, un] [vR b672, vI 2, vR b452]) s₁ m #[(.ref a1), (.ref ls), (.ref mp)] 7 := fun t k => k702 t (st714 t k)
          obtain ⟨_, T716, L716, X716, hQ716, k716⟩ := c_V (W := 2) (x := mn14) X714 hx hZ hown (hww 259 rfl) (hww 260 rfl) (notFace_of_selects (args := #[]) (mvT hZ (hww 262 rfl))) (hww 262 rfl) (hww 261 rfl) (hww 263 rfl) (hww 68 rfl) (by decide) F711.1 (iv l Z a0 hw [] b672 (0 : Int32) h702 n0 Z712 (F711.g 0 (v := zI) (by decide) rfl rfl)) e714 (argsL := []) (rest := [(.int (2 : Int32)), (.ref b452)]) rfl (by rw [hml]; rfl) k715 rfl (H 27 rfl) (lenOf pd__28_29I rfl) (b5 rfl)
          obtain ⟨rfl, N716q, e716⟩ := hQ716
          have N717 := Fr.app N703 N716q
          obtain ⟨_, T718, L718, X718, hQ718, k718⟩ := c_S (W := 2) X716 hx hZ hown (hww 266 rfl) (hww 267 rfl) (hww 146 rfl) (hww 268 rfl) (by decide) (gain l Z a0 hw [] (0 : Int32) h702 n0 Z712 ) e716 (argsL := [zI]) (rest := [(.int (2 : Int32)), (.ref b452)]) rfl (by rw [hml]; rfl) k716 rfl (H 28 rfl) (lenOf pd__28I_29I rfl) (b5 rfl)
          obtain ⟨h718, e718⟩ : ∃ h', T718.heap = h' := ⟨_, rfl⟩
          rw [e718] at hQ718
          obtain ⟨j718, rfl, N718q, hh718, P718_0⟩ := hQ718
          have N719 := Fr.app N717 N718q
          have ee718 : T718.heap = h702 := e718.trans hh718
          exact ⟨T718, h702, _, j718, X718, ee718, N719, Z712, F704, F705, F707, F708, F709, R702_0, F710, K713, F706, (P718_0.trans ((if_neg (by decide)).trans (if_neg (by decide)).symm)), k718⟩
      obtain ⟨T729, h729, L729, X729, e729, W729, V729, N729, Z729, k729⟩ := f_ist X684 hx hZ e684 F720 N684 g453 Zq684 kq684 (H 29 rfl) (by decide) 2 rfl (lt_b rfl)
      have F730 := F721.wr W729
      have F731 := F728.wr W729 g453
      have K732 := F727.wr W729 (Or.inr z454)
      have B733 := F722.other W729 (nL Fk1.lt (Nat.le_of_eq g452.symm))
      have B734 := F723.other W729 (nL Le0.lt (Nat.le_of_eq g452.symm))
      have B735 := F724.other W729 (nL Le1.lt (Nat.le_of_eq g452.symm))
      have B736 := F725.other W729 (nL Le2.lt (Nat.le_of_eq g452.symm))
      have B737 := F726.other W729 (nL Fk0.lt (Nat.le_of_eq g452.symm))
      have k738 := f_inc X729 hx k729 (H 30 rfl) rfl (l' := #[sr a1, sr ls, sr mp, si 3, un, un, un]) rfl
      have k739 := f_go X729 hx k738 (H 31 rfl) (pc' := 18) (by decide)
      have k740 := f_ilN X729 hx k739 (H 9 rfl) rfl
      have k741 := f_alN X729 hx k740 (H 10 rfl) rfl
      obtain ⟨T742, X742, e742, k743⟩ := gFs X729 hx hZ hown (hww 163 rfl) e729 (B737.g 0 (v := (.ref b452)) (by decide) rfl rfl) k741 (H 11 rfl)
      have k744 := f_len X742 hx hZ e742 V729 k743 (H 12 rfl)
      have k745 := f_icY X742 hx k744 (H 13 rfl) (pc' := 71) (flt (by decide)).2.1 (by decide)
      exact ⟨T742, h729, _, b452, k452, [(.int g0), (.int g1), (.int g2)], g0, g1, g2, (3 : Int32), X742, e742, N729, Z729, B737, B733, V729, K732, F731, g453, (Or.inr (Or.inr (Or.inr (⟨rfl, rfl⟩)))), (fun _ => hg0), (fun _ => hg1), (fun _ => hg2), z454, k745⟩
  have k752 := f_alN X101 hx kq101 (H 32 rfl) rfl
  obtain ⟨_, T753, L753, X753, hQ753, k753⟩ := c_I (W := 0) (x := mn61) X101 hx hZ hown (hww 165 rfl) (hww 166 rfl) (hww 167 rfl) (hww 168 rfl) (hww 169 rfl) (hww 170 rfl) (hww 171 rfl) (hww 172 rfl) (hww 173 rfl) (hww 28 rfl) (by decide) F747.1 (hsz l Z a0 hw [] mp (4 : Int32) h101 n0 Zq101 (F747.g 1 (v := (.int (4 : Int32))) (by decide) rfl rfl)) e101 (argsL := []) (rest := []) rfl (by rw [hml]; rfl) k752 rfl (H 33 rfl) (lenOf pd__28_29I rfl) (b5 rfl)
  obtain ⟨rfl, N753q, e753⟩ := hQ753
  have N754 := Fr.app N101 N753q
  obtain ⟨T755, h755, k755, X755, e755, E755, A755, Y755, st755⟩ := newPE X753 hx hZ (hww 162 rfl) e753 (g := (mkF m 77 #[sr a1, sr ls, sr mp, si iz, un, un, un] [vI 4])) rfl (H 34 rfl) rfl (by decide) (cap := 4) (by decide) (by decide) (by decide) (by decide) (ad := "[I") (by decide)
  obtain ⟨b755, g755⟩ : ∃ z, z = h101.size := ⟨_, rfl⟩
  rw [← g755] at A755 Y755 st755
  have g756 : n0 ≤ b755 := Nat.le_trans Zq101 (Nat.le_of_eq g755.symm)
  have z757 : h0.size ≤ b755 := Nat.le_trans F749.1 (Nat.le_of_eq g755.symm)
  have F758 := F746.ext E755
  have F759 := F747.ext E755
  have F760 := F748.ext E755
  have F761 := F750.ext E755
  have Z762 : n0 ≤ h755.size := Nat.le_trans Zq101 E755.1
  have K763 := F749.ext E755
  have V764 : Arv Z h755 b755 k755 .int (4 : Int32) [zI, zI, zI, zI] zI := (Arv.new A755 (by decide)).pad (pad_rep [] zI 4)
  have k765 : Rt p e below T755 (mkF m 79 #[sr a1, sr ls, sr mp, si iz, un, un, un] [vR b755]) s₁ m #[(.ref a1), (.ref ls), (.ref mp)] 7 := fun t k => k753 t (st755 t k)
  have k766 := f_asN X755 hx k765 (H 35 rfl) (l' := #[sr a1, sr ls, sr mp, sr b755, un, un, un]) rfl
  have k767 := f_ic X755 hx k766 (H 36 rfl) (v := 0) rfl
  have k768 := f_is X755 hx k767 (H 37 rfl) (l' := #[sr a1, sr ls, sr mp, sr b755, si 0, un, un]) rfl
  have k769 := f_alN X755 hx k768 (H 38 rfl) rfl
  obtain ⟨_, T770, L770, X770, hQ770, k770⟩ := c_I (W := 0) (x := mn62) X755 hx hZ hown (hww 174 rfl) (hww 175 rfl) (hww 176 rfl) (hww 177 rfl) (hww 178 rfl) (hww 179 rfl) (hww 180 rfl) (hww 172 rfl) (hww 181 rfl) (hww 28 rfl) (by decide) F759.1 (vls l Z a0 hw [] mp (.ref tb) (4 : Int32) mc (12 : Int32) h755 n0 Z762 F759 ge_mp) e755 (argsL := []) (rest := []) rfl (by rw [hml]; rfl) k769 rfl (H 39 rfl) (lenOf pd__28_29Ljava_2futil_2fCollection_3b rfl) (b5 rfl)
  obtain ⟨h770, e770⟩ : ∃ h', T770.heap = h' := ⟨_, rfl⟩
  rw [e770] at hQ770
  obtain ⟨vw770, rfl, N770q, K770, Zx770_0, R770_0, R770_1⟩ := hQ770
  have N771 := Fr.app N754 N770q
  have F772 := F758.keep K770 (ninS ne_a1_mp nin0)
  have F773 := F760.keep K770 (ninS (nG Fk1.lt zbg) nin0)
  have F774 := F761.keep K770 (allS ge_mp all0)
  have F775 := V764.keep K770 (ninS (nG F747.lt (Nat.le_of_eq g755.symm)) nin0)
  have F776 := Y755.keep K770
  have Z777 : n0 ≤ h770.size := Nat.le_trans Z762 K770.1
  have K778 := Keep.trans K763 K770 (allS (oL 1 rfl) all0)
  obtain ⟨_, T779, L779, X779, hQ779, k779⟩ := c_I (W := 0) (x := mn63) X770 hx hZ hown (hww 196 rfl) (hww 197 rfl) (hww 198 rfl) (hww 199 rfl) (hww 200 rfl) (hww 201 rfl) (hww 202 rfl) (hww 203 rfl) (hww 204 rfl) (hww 187 rfl) (by decide) R770_1.1 (vit1 l Z a0 hw [] vw770 mp mc (4 : Int32) tb kt nd0 (.ref nd1) (.ref nd2) (.ref nd3) h770 n0 Z777 (R770_0.g 2 (v := (.int mc)) (by decide) rfl rfl) (R770_0.g 0 (v := (.ref tb)) (by decide) rfl rfl) (R770_0.g 1 (v := (.int (4 : Int32))) (by decide) rfl rfl) (Lz0.keep K778 nw_tb) R770_1 (by decide)) e770 (argsL := []) (rest := []) rfl (by rw [hml]; rfl) k770 rfl (H 40 rfl) (lenOf pd__28_29Ljava_2futil_2fIterator_3b rfl) (b5 rfl)
  obtain ⟨h779, e779⟩ : ∃ h', T779.heap = h' := ⟨_, rfl⟩
  rw [e779] at hQ779
  obtain ⟨it779, rfl, N779q, K779, Zx779_0, R779_0⟩ := hQ779
  have N780 := Fr.app N771 N779q
  have F781 := F772.keep K779 nin0
  have F782 := F773.keep K779 nin0
  have F783 := F774.keep K779 all0
  have F784 := F775.keep K779 nin0
  have F785 := F776.keep K779
  have F786 := R770_0.keep K779 nin0
  have F787 := R770_1.keep K779 nin0
  have Z788 : n0 ≤ h779.size := Nat.le_trans Z777 K779.1
  have K789 := Keep.trans K778 K779 all0
  have k790 := f_as X779 hx k779 (H 41 rfl) (l' := #[sr a1, sr ls, sr mp, sr b755, si 0, sr it779, un]) rfl
  have k791 := f_al X779 hx k790 (H 42 rfl) rfl
  obtain ⟨_, T792, L792, X792, hQ792, k792⟩ := c_I (W := 0) (x := mn64) X779 hx hZ hown (hww 232 rfl) (hww 233 rfl) (hww 234 rfl) (hww 235 rfl) (hww 236 rfl) (hww 237 rfl) (hww 238 rfl) (hww 239 rfl) (hww 240 rfl) (hww 216 rfl) (by decide) R779_0.1 (hn1 l Z a0 hw [] it779 nd0 h779 n0 Z788 (R779_0.g 2 (v := (.ref nd0)) (by decide) rfl rfl)) e779 (argsL := []) (rest := []) rfl (by rw [hml]; rfl) k791 rfl (H 43 rfl) (lenOf pd__28_29Z rfl) (b5 rfl)
  obtain ⟨rfl, N792q, e792⟩ := hQ792
  have N793 := Fr.app N780 N792q
  have k794 := f_ifN X792 hx k792 (H 44 rfl) ((if0 _ _).trans (feq (by decide)).1)
  have k795 := f_al X792 hx k794 (H 45 rfl) rfl
  obtain ⟨_, T796, L796, X796, hQ796, k796⟩ := c_I (W := 0) (x := mn65) X792 hx hZ hown (hww 241 rfl) (hww 242 rfl) (hww 243 rfl) (hww 244 rfl) (hww 245 rfl) (hww 246 rfl) (hww 247 rfl) (hww 239 rfl) (hww 248 rfl) (hww 207 rfl) (by decide) R779_0.1 (nxt12 l Z a0 hw [] it779 mp mc tb kt nd0 .null nd1 (.ref nd0) (.ref nd2) (.ref nd3) bx0 h779 n0 Z788 R779_0 (F786.g 2 (v := (.int mc)) (by decide) rfl rfl) (F786.g 0 (v := (.ref tb)) (by decide) rfl rfl) (Lz0.keep K789 nw_tb) ((Lz1.keep K789 nw_nd0).g 3 (v := .null) (by decide) rfl rfl) ((Lz1.keep K789 nw_nd0).g 2 (v := (.ref bx0)) (by decide) rfl rfl) (Nat.le_trans Z777 Zx779_0) (nG R770_0.lt Zx779_0) (nG Lz0.lt (Nat.le_trans K778.1 Zx779_0)) (nG Lz1.lt (Nat.le_trans K778.1 Zx779_0))) e792 (argsL := []) (rest := []) rfl (by rw [hml]; rfl) k795 rfl (H 46 rfl) (lenOf pd__28_29Ljava_2flang_2fObject_3b rfl) (b5 rfl)
  obtain ⟨h796, e796⟩ : ∃ h', T796.heap = h' := ⟨_, rfl⟩
  rw [e796] at hQ796
  obtain ⟨rfl, N796q, K796, R796_0⟩ := hQ796
  have N797 := Fr.app N793 N796q
  have F798 := F781.keep K796 (ninS (nL F772.lt Zx779_0) nin0)
  have F799 := F782.keep K796 (ninS (nL F773.lt Zx779_0) nin0)
  have F800 := F783.keep K796 (allS (Nat.le_trans Z777 Zx779_0) all0)
  have F801 := F784.keep K796 (ninS (nL F775.lt Zx779_0) nin0)
  have F802 := F785.keep K796
  have F803 := F786.keep K796 (ninS (nL R770_0.lt Zx779_0) nin0)
  have Z804 : n0 ≤ h796.size := Nat.le_trans Z788 K796.1
  have K805 := Keep.trans K789 K796 (allS (Or.inr (Nat.le_trans K778.1 Zx779_0)) all0)
  obtain ⟨T806, X806, e806, st806⟩ := castY X796 hx hZ hown (hww 257 rfl) e796 (Ins.self (Lz4.keep K805 nw_bx0).1) (g := (mkF m 113 #[sr a1, sr ls, sr mp, sr b755, si 0, sr it779, un] [vR bx0])) rfl rfl (H 47 rfl)
  have k807 : Rt p e below T806 (mkF m 116 #[sr a1, sr ls, sr mp, sr b755, si 0, sr it779, un] [vR bx0]) s₁ m #[(.ref a1), (.ref ls), (.ref mp)] 7 := fun t k => k796 t (st806 t k)
  obtain ⟨_, T808, L808, X808, hQ808, k808⟩ := c_V (W := 0) (x := mn14) X806 hx hZ hown (hww 259 rfl) (hww 260 rfl) (notFace_of_selects (args := #[]) (mvT hZ (hww 262 rfl))) (hww 262 rfl) (hww 261 rfl) (hww 263 rfl) (hww 68 rfl) (by decide) (Lz4.keep K805 nw_bx0).1 (iv l Z a0 hw [] bx0 r0 h796 n0 Z804 ((Lz4.keep K805 nw_bx0).g 0 (v := (.int r0)) (by decide) rfl rfl)) e806 (argsL := []) (rest := []) rfl (by rw [hml]; rfl) k807 rfl (H 48 rfl) (lenOf pd__28_29I rfl) (b5 rfl)
  obtain ⟨rfl, N808q, e808⟩ := hQ808
  have N809 := Fr.app N797 N808q
  have k810 := f_is X808 hx k808 (H 49 rfl) (l' := #[sr a1, sr ls, sr mp, sr b755, si 0, sr it779, si r0]) rfl
  have k811 := f_il X808 hx k810 (H 50 rfl) rfl
  obtain ⟨_, T812, L812, X812, hQ812, k812⟩ := c_S (W := 0) X808 hx hZ hown (hww 266 rfl) (hww 267 rfl) (hww 146 rfl) (hww 268 rfl) (by decide) (gain l Z a0 hw [] r0 h796 n0 Z804 ) e808 (argsL := [(.int r0)]) (rest := []) rfl (by rw [hml]; rfl) k811 rfl (H 51 rfl) (lenOf pd__28I_29I rfl) (b5 rfl)
  obtain ⟨h812, e812⟩ : ∃ h', T812.heap = h' := ⟨_, rfl⟩
  rw [e812] at hQ812
  obtain ⟨j812, rfl, N812q, hh812, P812_0⟩ := hQ812
  have N813 := Fr.app N809 N812q
  have ee812 : T812.heap = h796 := e812.trans hh812
  obtain ⟨T814, h814, Ls814, t00, cn1, X814, e814, N814, Zq814, F829, F830, F831, F832, F833, F834, F835, F836, hcv0, hcr0, kq814⟩ : ∃ (T814 : State) (h814 : Heap) (Ls814 : List Loc) (t00 : Int32) (cn1 : Int32), Stand p l e (rm 5 9 24 79) s m #[(.ref a1), (.ref ls), (.ref mp)] below meth c T814 Ls814 7 16 ∧ T814.heap = h814 ∧ Fr n0 Ls814 ∧ n0 ≤ h814.size ∧ OBJ Z h814 a1 "com/example/multinomial/multinomial/eval/JudgedRanking" lyJR [(.ref bg), .null] ∧ Arv Z h814 bg kg .int nn gl zI ∧ Arv Z h814 b755 k755 .int (4 : Int32) [(.int t00), zI, zI, zI] zI ∧ Exa Z h814 b755 "[I" ∧ OBJ Z h814 mp "java/util/HashMap" lyMP [(.ref tb), (.int (4 : Int32)), (.int mc), (.int (12 : Int32)), (.ref vw770), (.float (1061158912 : UInt32))] ∧ OBJ Z h814 it779 "java/util/HashMap$ValueIterator" lyIT [(.ref mp), (.int mc), (.ref nd1), (.ref nd0), (.int (3 : Int32))] ∧ Keep h0 h814 [a1, mp, id0, id1, id2] ∧ Old Z n0 h814 ∧ (cn1 = (0 : Int32) + (if (0 : Int32) < r0 then (1 : Int32) else (0 : Int32))) ∧ (cn1 = (0 : Int32) ∨ cn1 = (1 : Int32)) ∧ (Rt p e below T814 (mkF m 138 #[sr a1, sr ls, sr mp, sr b755, si cn1, sr it779, si r0] []) s₁ m #[(.ref a1), (.ref ls), (.ref mp)] 7) := by
    by_cases qp : (0 : Int32) < j812
    · have k815 := f_ifN X812 hx k812 (H 52 rfl) ((if0 _ _).trans (tlt qp).2.2.2)
      have k816 := f_alN X812 hx k815 (H 53 rfl) rfl
      have k817 := f_il X812 hx k816 (H 54 rfl) rfl
      have k818 := f_il X812 hx k817 (H 55 rfl) rfl
      obtain ⟨T819, h819, L819, X819, e819, W819, V819, N819, Z819, k819⟩ := f_ist X812 hx hZ ee812 F801 N813 g756 Z804 k818 (H 56 rfl) (by decide) 0 rfl (lt_b rfl)
      have F820 := F799.other W819 (nL F748.lt (Nat.le_of_eq g755.symm))
      have F821 := F800.wr W819 g756
      have F822 := F802.wr W819
      have K823 := K805.wr W819 (Or.inr z757)
      have B824 := F798.other W819 (nL F746.lt (Nat.le_of_eq g755.symm))
      have B825 := F803.other W819 (nL F747.lt (Nat.le_of_eq g755.symm))
      have B826 := R796_0.other W819 (nG F775.lt Zx779_0)
      have k827 := f_inc X819 hx k819 (H 57 rfl) rfl (l' := #[sr a1, sr ls, sr mp, sr b755, si 1, sr it779, si r0]) rfl
      exact ⟨T819, h819, _, r0, (1 : Int32), X819, e819, N819, Z819, B824, F820, V819, F822, B825, B826, K823, F821, (own_cn1 P812_0 qp (by decide)), (Or.inr (rfl)), k827⟩
    · have k828 := f_ifY X812 hx k812 (H 52 rfl) (pc' := 138) ((if0 _ _).trans (flt qp).2.2.2) (by decide)
      exact ⟨T812, h796, _, (0 : Int32), (0 : Int32), X812, ee812, N813, Z804, F798, F799, F801, F802, F803, R796_0, K805, F800, (own_cn0 P812_0 qp), (Or.inl rfl), k828⟩
  have k837 := f_go X814 hx kq814 (H 58 rfl) (pc' := 96) (by decide)
  have k838 := f_al X814 hx k837 (H 42 rfl) rfl
  obtain ⟨_, T839, L839, X839, hQ839, k839⟩ := c_I (W := 0) (x := mn64) X814 hx hZ hown (hww 232 rfl) (hww 233 rfl) (hww 234 rfl) (hww 235 rfl) (hww 236 rfl) (hww 237 rfl) (hww 238 rfl) (hww 239 rfl) (hww 240 rfl) (hww 216 rfl) (by decide) F834.1 (hn1 l Z a0 hw [] it779 nd1 h814 n0 Zq814 (F834.g 2 (v := (.ref nd1)) (by decide) rfl rfl)) e814 (argsL := []) (rest := []) rfl (by rw [hml]; rfl) k838 rfl (H 43 rfl) (lenOf pd__28_29Z rfl) (b5 rfl)
  obtain ⟨rfl, N839q, e839⟩ := hQ839
  have N840 := Fr.app N814 N839q
  have k841 := f_ifN X839 hx k839 (H 44 rfl) ((if0 _ _).trans (feq (by decide)).1)
  have k842 := f_al X839 hx k841 (H 45 rfl) rfl
  obtain ⟨_, T843, L843, X843, hQ843, k843⟩ := c_I (W := 0) (x := mn65) X839 hx hZ hown (hww 241 rfl) (hww 242 rfl) (hww 243 rfl) (hww 244 rfl) (hww 245 rfl) (hww 246 rfl) (hww 247 rfl) (hww 239 rfl) (hww 248 rfl) (hww 207 rfl) (by decide) F834.1 (nxt23 l Z a0 hw [] it779 mp mc tb kt nd1 (.ref nd0) nd2 (.ref nd0) (.ref nd1) (.ref nd3) bx1 h814 n0 Zq814 F834 (F833.g 2 (v := (.int mc)) (by decide) rfl rfl) (F833.g 0 (v := (.ref tb)) (by decide) rfl rfl) (Lz0.keep F835 nw_tb) ((Lz5.keep F835 nw_nd1).g 3 (v := .null) (by decide) rfl rfl) ((Lz5.keep F835 nw_nd1).g 2 (v := (.ref bx1)) (by decide) rfl rfl) (Nat.le_trans Z777 Zx779_0) (nG R770_0.lt Zx779_0) (nG Lz0.lt (Nat.le_trans K778.1 Zx779_0)) (nG Lz5.lt (Nat.le_trans K778.1 Zx779_0))) e839 (argsL := []) (rest := []) rfl (by rw [hml]; rfl) k842 rfl (H 46 rfl) (lenOf pd__28_29Ljava_2flang_2fObject_3b rfl) (b5 rfl)
  obtain ⟨h843, e843⟩ : ∃ h', T843.heap = h' := ⟨_, rfl⟩
  rw [e843] at hQ843
  obtain ⟨rfl, N843q, K843, R843_0⟩ := hQ843
  have N844 := Fr.app N840 N843q
  have F845 := F829.keep K843 (ninS (nL F772.lt Zx779_0) nin0)
  have F846 := F830.keep K843 (ninS (nL F773.lt Zx779_0) nin0)
  have F847 := F831.keep K843 (ninS (nL F775.lt Zx779_0) nin0)
  have F848 := F832.keep K843
  have F849 := F833.keep K843 (ninS (nL R770_0.lt Zx779_0) nin0)
  have F850 := F836.keep K843 (allS (Nat.le_trans Z777 Zx779_0) all0)
  have Z851 : n0 ≤ h843.size := Nat.le_trans Zq814 K843.1
  have K852 := Keep.trans F835 K843 (allS (Or.inr (Nat.le_trans K778.1 Zx779_0)) all0)
  obtain ⟨T853, X853, e853, st853⟩ := castY X843 hx hZ hown (hww 257 rfl) e843 (Ins.self (Lz8.keep K852 nw_bx1).1) (g := (mkF m 113 #[sr a1, sr ls, sr mp, sr b755, si cn1, sr it779, si r0] [vR bx1])) rfl rfl (H 47 rfl)
  have k854 : Rt p e below T853 (mkF m 116 #[sr a1, sr ls, sr mp, sr b755, si cn1, sr it779, si r0] [vR bx1]) s₁ m #[(.ref a1), (.ref ls), (.ref mp)] 7 := fun t k => k843 t (st853 t k)
  obtain ⟨_, T855, L855, X855, hQ855, k855⟩ := c_V (W := 0) (x := mn14) X853 hx hZ hown (hww 259 rfl) (hww 260 rfl) (notFace_of_selects (args := #[]) (mvT hZ (hww 262 rfl))) (hww 262 rfl) (hww 261 rfl) (hww 263 rfl) (hww 68 rfl) (by decide) (Lz8.keep K852 nw_bx1).1 (iv l Z a0 hw [] bx1 r1 h843 n0 Z851 ((Lz8.keep K852 nw_bx1).g 0 (v := (.int r1)) (by decide) rfl rfl)) e853 (argsL := []) (rest := []) rfl (by rw [hml]; rfl) k854 rfl (H 48 rfl) (lenOf pd__28_29I rfl) (b5 rfl)
  obtain ⟨rfl, N855q, e855⟩ := hQ855
  have N856 := Fr.app N844 N855q
  have k857 := f_is X855 hx k855 (H 49 rfl) (l' := #[sr a1, sr ls, sr mp, sr b755, si cn1, sr it779, si r1]) rfl
  have k858 := f_il X855 hx k857 (H 50 rfl) rfl
  obtain ⟨_, T859, L859, X859, hQ859, k859⟩ := c_S (W := 0) X855 hx hZ hown (hww 266 rfl) (hww 267 rfl) (hww 146 rfl) (hww 268 rfl) (by decide) (gain l Z a0 hw [] r1 h843 n0 Z851 ) e855 (argsL := [(.int r1)]) (rest := []) rfl (by rw [hml]; rfl) k858 rfl (H 51 rfl) (lenOf pd__28I_29I rfl) (b5 rfl)
  obtain ⟨h859, e859⟩ : ∃ h', T859.heap = h' := ⟨_, rfl⟩
  rw [e859] at hQ859
  obtain ⟨j859, rfl, N859q, hh859, P859_0⟩ := hQ859
  have N860 := Fr.app N856 N859q
  have ee859 : T859.heap = h843 := e859.trans hh859
  obtain ⟨T861, h861, Ls861, t10, t11, cn2, X861, e861, N861, Zq861, F888, F889, F890, F891, F892, F893, F894, F895, hcv1, hcr1, kq861⟩ : ∃ (T861 : State) (h861 : Heap) (Ls861 : List Loc) (t10 : Int32) (t11 : Int32) (cn2 : Int32), Stand p l e (rm 5 9 24 79) s m #[(.ref a1), (.ref ls), (.ref mp)] below meth c T861 Ls861 7 16 ∧ T861.heap = h861 ∧ Fr n0 Ls861 ∧ n0 ≤ h861.size ∧ OBJ Z h861 a1 "com/example/multinomial/multinomial/eval/JudgedRanking" lyJR [(.ref bg), .null] ∧ Arv Z h861 bg kg .int nn gl zI ∧ Arv Z h861 b755 k755 .int (4 : Int32) [(.int t10), (.int t11), zI, zI] zI ∧ Exa Z h861 b755 "[I" ∧ OBJ Z h861 mp "java/util/HashMap" lyMP [(.ref tb), (.int (4 : Int32)), (.int mc), (.int (12 : Int32)), (.ref vw770), (.float (1061158912 : UInt32))] ∧ OBJ Z h861 it779 "java/util/HashMap$ValueIterator" lyIT [(.ref mp), (.int mc), (.ref nd2), (.ref nd1), (.int (4 : Int32))] ∧ Keep h0 h861 [a1, mp, id0, id1, id2] ∧ Old Z n0 h861 ∧ (cn2 = cn1 + (if (0 : Int32) < r1 then (1 : Int32) else (0 : Int32))) ∧ (cn2 = (0 : Int32) ∨ cn2 = (1 : Int32) ∨ cn2 = (2 : Int32)) ∧ (Rt p e below T861 (mkF m 138 #[sr a1, sr ls, sr mp, sr b755, si cn2, sr it779, si r1] []) s₁ m #[(.ref a1), (.ref ls), (.ref mp)] 7) := by
    by_cases qp : (0 : Int32) < j859
    · have k862 := f_ifN X859 hx k859 (H 52 rfl) ((if0 _ _).trans (tlt qp).2.2.2)
      rcases hcr0 with rfl | rfl
      · have k863 := f_alN X859 hx k862 (H 53 rfl) rfl
        have k864 := f_il X859 hx k863 (H 54 rfl) rfl
        have k865 := f_il X859 hx k864 (H 55 rfl) rfl
        obtain ⟨T866, h866, L866, X866, e866, W866, V866, N866, Z866, k866⟩ := f_ist X859 hx hZ ee859 F847 N860 g756 Z851 k865 (H 56 rfl) (by decide) 0 rfl (lt_b rfl)
        have F867 := F846.other W866 (nL F748.lt (Nat.le_of_eq g755.symm))
        have F868 := F848.wr W866
        have F869 := F850.wr W866 g756
        have K870 := K852.wr W866 (Or.inr z757)
        have B871 := F845.other W866 (nL F746.lt (Nat.le_of_eq g755.symm))
        have B872 := F849.other W866 (nL F747.lt (Nat.le_of_eq g755.symm))
        have B873 := R843_0.other W866 (nG F775.lt Zx779_0)
        have k874 := f_inc X866 hx k866 (H 57 rfl) rfl (l' := #[sr a1, sr ls, sr mp, sr b755, si 1, sr it779, si r1]) rfl
        exact ⟨T866, h866, _, r1, (0 : Int32), (1 : Int32), X866, e866, N866, Z866, B871, F867, V866, F868, B872, B873, K870, F869, (own_cn1 P859_0 qp (by decide)), (Or.inr (Or.inl rfl)), k874⟩
      · have k875 := f_alN X859 hx k862 (H 53 rfl) rfl
        have k876 := f_il X859 hx k875 (H 54 rfl) rfl
        have k877 := f_il X859 hx k876 (H 55 rfl) rfl
        obtain ⟨T878, h878, L878, X878, e878, W878, V878, N878, Z878, k878⟩ := f_ist X859 hx hZ ee859 F847 N860 g756 Z851 k877 (H 56 rfl) (by decide) 1 rfl (lt_b rfl)
        have F879 := F846.other W878 (nL F748.lt (Nat.le_of_eq g755.symm))
        have F880 := F848.wr W878
        have F881 := F850.wr W878 g756
        have K882 := K852.wr W878 (Or.inr z757)
        have B883 := F845.other W878 (nL F746.lt (Nat.le_of_eq g755.symm))
        have B884 := F849.other W878 (nL F747.lt (Nat.le_of_eq g755.symm))
        have B885 := R843_0.other W878 (nG F775.lt Zx779_0)
        have k886 := f_inc X878 hx k878 (H 57 rfl) rfl (l' := #[sr a1, sr ls, sr mp, sr b755, si 2, sr it779, si r1]) rfl
        exact ⟨T878, h878, _, t00, r1, (2 : Int32), X878, e878, N878, Z878, B883, F879, V878, F880, B884, B885, K882, F881, (own_cn1 P859_0 qp (by decide)), (Or.inr (Or.inr (rfl))), k886⟩
    · have k887 := f_ifY X859 hx k859 (H 52 rfl) (pc' := 138) ((if0 _ _).trans (flt qp).2.2.2) (by decide)
      exact ⟨T859, h843, _, t00, (0 : Int32), cn1, X859, ee859, N860, Z851, F845, F846, F847, F848, F849, R843_0, K852, F850, (own_cn0 P859_0 qp), (hcr0.elim Or.inl (fun h => Or.inr (Or.inl h))), k887⟩
  have k896 := f_go X861 hx kq861 (H 58 rfl) (pc' := 96) (by decide)
  have k897 := f_al X861 hx k896 (H 42 rfl) rfl
  obtain ⟨_, T898, L898, X898, hQ898, k898⟩ := c_I (W := 0) (x := mn64) X861 hx hZ hown (hww 232 rfl) (hww 233 rfl) (hww 234 rfl) (hww 235 rfl) (hww 236 rfl) (hww 237 rfl) (hww 238 rfl) (hww 239 rfl) (hww 240 rfl) (hww 216 rfl) (by decide) F893.1 (hn1 l Z a0 hw [] it779 nd2 h861 n0 Zq861 (F893.g 2 (v := (.ref nd2)) (by decide) rfl rfl)) e861 (argsL := []) (rest := []) rfl (by rw [hml]; rfl) k897 rfl (H 43 rfl) (lenOf pd__28_29Z rfl) (b5 rfl)
  obtain ⟨rfl, N898q, e898⟩ := hQ898
  have N899 := Fr.app N861 N898q
  have k900 := f_ifN X898 hx k898 (H 44 rfl) ((if0 _ _).trans (feq (by decide)).1)
  have k901 := f_al X898 hx k900 (H 45 rfl) rfl
  obtain ⟨_, T902, L902, X902, hQ902, k902⟩ := c_I (W := 0) (x := mn65) X898 hx hZ hown (hww 241 rfl) (hww 242 rfl) (hww 243 rfl) (hww 244 rfl) (hww 245 rfl) (hww 246 rfl) (hww 247 rfl) (hww 239 rfl) (hww 248 rfl) (hww 207 rfl) (by decide) F893.1 (nxt34 l Z a0 hw [] it779 mp mc tb kt nd2 (.ref nd1) nd3 (.ref nd0) (.ref nd1) (.ref nd2) bx2 h861 n0 Zq861 F893 (F892.g 2 (v := (.int mc)) (by decide) rfl rfl) (F892.g 0 (v := (.ref tb)) (by decide) rfl rfl) (Lz0.keep F894 nw_tb) ((Lz9.keep F894 nw_nd2).g 3 (v := .null) (by decide) rfl rfl) ((Lz9.keep F894 nw_nd2).g 2 (v := (.ref bx2)) (by decide) rfl rfl) (Nat.le_trans Z777 Zx779_0) (nG R770_0.lt Zx779_0) (nG Lz0.lt (Nat.le_trans K778.1 Zx779_0)) (nG Lz9.lt (Nat.le_trans K778.1 Zx779_0))) e898 (argsL := []) (rest := []) rfl (by rw [hml]; rfl) k901 rfl (H 46 rfl) (lenOf pd__28_29Ljava_2flang_2fObject_3b rfl) (b5 rfl)
  obtain ⟨h902, e902⟩ : ∃ h', T902.heap = h' := ⟨_, rfl⟩
  rw [e902] at hQ902
  obtain ⟨rfl, N902q, K902, R902_0⟩ := hQ902
  have N903 := Fr.app N899 N902q
  have F904 := F888.keep K902 (ninS (nL F772.lt Zx779_0) nin0)
  have F905 := F889.keep K902 (ninS (nL F773.lt Zx779_0) nin0)
  have F906 := F890.keep K902 (ninS (nL F775.lt Zx779_0) nin0)
  have F907 := F891.keep K902
  have F908 := F892.keep K902 (ninS (nL R770_0.lt Zx779_0) nin0)
  have F909 := F895.keep K902 (allS (Nat.le_trans Z777 Zx779_0) all0)
  have Z910 : n0 ≤ h902.size := Nat.le_trans Zq861 K902.1
  have K911 := Keep.trans F894 K902 (allS (Or.inr (Nat.le_trans K778.1 Zx779_0)) all0)
  obtain ⟨T912, X912, e912, st912⟩ := castY X902 hx hZ hown (hww 257 rfl) e902 (Ins.self (Lz12.keep K911 nw_bx2).1) (g := (mkF m 113 #[sr a1, sr ls, sr mp, sr b755, si cn2, sr it779, si r1] [vR bx2])) rfl rfl (H 47 rfl)
  have k913 : Rt p e below T912 (mkF m 116 #[sr a1, sr ls, sr mp, sr b755, si cn2, sr it779, si r1] [vR bx2]) s₁ m #[(.ref a1), (.ref ls), (.ref mp)] 7 := fun t k => k902 t (st912 t k)
  obtain ⟨_, T914, L914, X914, hQ914, k914⟩ := c_V (W := 0) (x := mn14) X912 hx hZ hown (hww 259 rfl) (hww 260 rfl) (notFace_of_selects (args := #[]) (mvT hZ (hww 262 rfl))) (hww 262 rfl) (hww 261 rfl) (hww 263 rfl) (hww 68 rfl) (by decide) (Lz12.keep K911 nw_bx2).1 (iv l Z a0 hw [] bx2 r2 h902 n0 Z910 ((Lz12.keep K911 nw_bx2).g 0 (v := (.int r2)) (by decide) rfl rfl)) e912 (argsL := []) (rest := []) rfl (by rw [hml]; rfl) k913 rfl (H 48 rfl) (lenOf pd__28_29I rfl) (b5 rfl)
  obtain ⟨rfl, N914q, e914⟩ := hQ914
  have N915 := Fr.app N903 N914q
  have k916 := f_is X914 hx k914 (H 49 rfl) (l' := #[sr a1, sr ls, sr mp, sr b755, si cn2, sr it779, si r2]) rfl
  have k917 := f_il X914 hx k916 (H 50 rfl) rfl
  obtain ⟨_, T918, L918, X918, hQ918, k918⟩ := c_S (W := 0) X914 hx hZ hown (hww 266 rfl) (hww 267 rfl) (hww 146 rfl) (hww 268 rfl) (by decide) (gain l Z a0 hw [] r2 h902 n0 Z910 ) e914 (argsL := [(.int r2)]) (rest := []) rfl (by rw [hml]; rfl) k917 rfl (H 51 rfl) (lenOf pd__28I_29I rfl) (b5 rfl)
  obtain ⟨h918, e918⟩ : ∃ h', T918.heap = h' := ⟨_, rfl⟩
  rw [e918] at hQ918
  obtain ⟨j918, rfl, N918q, hh918, P918_0⟩ := hQ918
  have N919 := Fr.app N915 N918q
  have ee918 : T918.heap = h902 := e918.trans hh918
  obtain ⟨T920, h920, Ls920, t20, t21, t22, cn3, X920, e920, N920, Zq920, F959, F960, F961, F962, F963, F964, F965, F966, hcv2, hcr2, kq920⟩ : ∃ (T920 : State) (h920 : Heap) (Ls920 : List Loc) (t20 : Int32) (t21 : Int32) (t22 : Int32) (cn3 : Int32), Stand p l e (rm 5 9 24 79) s m #[(.ref a1), (.ref ls), (.ref mp)] below meth c T920 Ls920 7 16 ∧ T920.heap = h920 ∧ Fr n0 Ls920 ∧ n0 ≤ h920.size ∧ OBJ Z h920 a1 "com/example/multinomial/multinomial/eval/JudgedRanking" lyJR [(.ref bg), .null] ∧ Arv Z h920 bg kg .int nn gl zI ∧ Arv Z h920 b755 k755 .int (4 : Int32) [(.int t20), (.int t21), (.int t22), zI] zI ∧ Exa Z h920 b755 "[I" ∧ OBJ Z h920 mp "java/util/HashMap" lyMP [(.ref tb), (.int (4 : Int32)), (.int mc), (.int (12 : Int32)), (.ref vw770), (.float (1061158912 : UInt32))] ∧ OBJ Z h920 it779 "java/util/HashMap$ValueIterator" lyIT [(.ref mp), (.int mc), (.ref nd3), (.ref nd2), (.int (5 : Int32))] ∧ Keep h0 h920 [a1, mp, id0, id1, id2] ∧ Old Z n0 h920 ∧ (cn3 = cn2 + (if (0 : Int32) < r2 then (1 : Int32) else (0 : Int32))) ∧ (cn3 = (0 : Int32) ∨ cn3 = (1 : Int32) ∨ cn3 = (2 : Int32) ∨ cn3 = (3 : Int32)) ∧ (Rt p e below T920 (mkF m 138 #[sr a1, sr ls, sr mp, sr b755, si cn3, sr it779, si r2] []) s₁ m #[(.ref a1), (.ref ls), (.ref mp)] 7) := by
    by_cases qp : (0 : Int32) < j918
    · have k921 := f_ifN X918 hx k918 (H 52 rfl) ((if0 _ _).trans (tlt qp).2.2.2)
      rcases hcr1 with rfl | rfl | rfl
      · have k922 := f_alN X918 hx k921 (H 53 rfl) rfl
        have k923 := f_il X918 hx k922 (H 54 rfl) rfl
        have k924 := f_il X918 hx k923 (H 55 rfl) rfl
        obtain ⟨T925, h925, L925, X925, e925, W925, V925, N925, Z925, k925⟩ := f_ist X918 hx hZ ee918 F906 N919 g756 Z910 k924 (H 56 rfl) (by decide) 0 rfl (lt_b rfl)
        have F926 := F905.other W925 (nL F748.lt (Nat.le_of_eq g755.symm))
        have F927 := F907.wr W925
        have F928 := F909.wr W925 g756
        have K929 := K911.wr W925 (Or.inr z757)
        have B930 := F904.other W925 (nL F746.lt (Nat.le_of_eq g755.symm))
        have B931 := F908.other W925 (nL F747.lt (Nat.le_of_eq g755.symm))
        have B932 := R902_0.other W925 (nG F775.lt Zx779_0)
        have k933 := f_inc X925 hx k925 (H 57 rfl) rfl (l' := #[sr a1, sr ls, sr mp, sr b755, si 1, sr it779, si r2]) rfl
        exact ⟨T925, h925, _, r2, t11, (0 : Int32), (1 : Int32), X925, e925, N925, Z925, B930, F926, V925, F927, B931, B932, K929, F928, (own_cn1 P918_0 qp (by decide)), (Or.inr (Or.inl rfl)), k933⟩
      · have k934 := f_alN X918 hx k921 (H 53 rfl) rfl
        have k935 := f_il X918 hx k934 (H 54 rfl) rfl
        have k936 := f_il X918 hx k935 (H 55 rfl) rfl
        obtain ⟨T937, h937, L937, X937, e937, W937, V937, N937, Z937, k937⟩ := f_ist X918 hx hZ ee918 F906 N919 g756 Z910 k936 (H 56 rfl) (by decide) 1 rfl (lt_b rfl)
        have F938 := F905.other W937 (nL F748.lt (Nat.le_of_eq g755.symm))
        have F939 := F907.wr W937
        have F940 := F909.wr W937 g756
        have K941 := K911.wr W937 (Or.inr z757)
        have B942 := F904.other W937 (nL F746.lt (Nat.le_of_eq g755.symm))
        have B943 := F908.other W937 (nL F747.lt (Nat.le_of_eq g755.symm))
        have B944 := R902_0.other W937 (nG F775.lt Zx779_0)
        have k945 := f_inc X937 hx k937 (H 57 rfl) rfl (l' := #[sr a1, sr ls, sr mp, sr b755, si 2, sr it779, si r2]) rfl
        exact ⟨T937, h937, _, t10, r2, (0 : Int32), (2 : Int32), X937, e937, N937, Z937, B942, F938, V937, F939, B943, B944, K941, F940, (own_cn1 P918_0 qp (by decide)), (Or.inr (Or.inr (Or.inl rfl))), k945⟩
      · have k946 := f_alN X918 hx k921 (H 53 rfl) rfl
        have k947 := f_il X918 hx k946 (H 54 rfl) rfl
        have k948 := f_il X918 hx k947 (H 55 rfl) rfl
        obtain ⟨T949, h949, L949, X949, e949, W949, V949, N949, Z949, k949⟩ := f_ist X918 hx hZ ee918 F906 N919 g756 Z910 k948 (H 56 rfl) (by decide) 2 rfl (lt_b rfl)
        have F950 := F905.other W949 (nL F748.lt (Nat.le_of_eq g755.symm))
        have F951 := F907.wr W949
        have F952 := F909.wr W949 g756
        have K953 := K911.wr W949 (Or.inr z757)
        have B954 := F904.other W949 (nL F746.lt (Nat.le_of_eq g755.symm))
        have B955 := F908.other W949 (nL F747.lt (Nat.le_of_eq g755.symm))
        have B956 := R902_0.other W949 (nG F775.lt Zx779_0)
        have k957 := f_inc X949 hx k949 (H 57 rfl) rfl (l' := #[sr a1, sr ls, sr mp, sr b755, si 3, sr it779, si r2]) rfl
        exact ⟨T949, h949, _, t10, t11, r2, (3 : Int32), X949, e949, N949, Z949, B954, F950, V949, F951, B955, B956, K953, F952, (own_cn1 P918_0 qp (by decide)), (Or.inr (Or.inr (Or.inr (rfl)))), k957⟩
    · have k958 := f_ifY X918 hx k918 (H 52 rfl) (pc' := 138) ((if0 _ _).trans (flt qp).2.2.2) (by decide)
      exact ⟨T918, h902, _, t10, t11, (0 : Int32), cn2, X918, ee918, N919, Z910, F904, F905, F906, F907, F908, R902_0, K911, F909, (own_cn0 P918_0 qp), (hcr1.elim Or.inl (fun h => Or.inr (h.elim Or.inl (fun h => Or.inr (Or.inl h))))), k958⟩
  have k967 := f_go X920 hx kq920 (H 58 rfl) (pc' := 96) (by decide)
  have k968 := f_al X920 hx k967 (H 42 rfl) rfl
  obtain ⟨_, T969, L969, X969, hQ969, k969⟩ := c_I (W := 0) (x := mn64) X920 hx hZ hown (hww 232 rfl) (hww 233 rfl) (hww 234 rfl) (hww 235 rfl) (hww 236 rfl) (hww 237 rfl) (hww 238 rfl) (hww 239 rfl) (hww 240 rfl) (hww 216 rfl) (by decide) F964.1 (hn1 l Z a0 hw [] it779 nd3 h920 n0 Zq920 (F964.g 2 (v := (.ref nd3)) (by decide) rfl rfl)) e920 (argsL := []) (rest := []) rfl (by rw [hml]; rfl) k968 rfl (H 43 rfl) (lenOf pd__28_29Z rfl) (b5 rfl)
  obtain ⟨rfl, N969q, e969⟩ := hQ969
  have N970 := Fr.app N920 N969q
  have k971 := f_ifN X969 hx k969 (H 44 rfl) ((if0 _ _).trans (feq (by decide)).1)
  have k972 := f_al X969 hx k971 (H 45 rfl) rfl
  obtain ⟨_, T973, L973, X973, hQ973, k973⟩ := c_I (W := 0) (x := mn65) X969 hx hZ hown (hww 241 rfl) (hww 242 rfl) (hww 243 rfl) (hww 244 rfl) (hww 245 rfl) (hww 246 rfl) (hww 247 rfl) (hww 239 rfl) (hww 248 rfl) (hww 207 rfl) (by decide) F964.1 (nxt4None l Z a0 hw [] it779 mp mc tb kt nd3 (.ref nd2) (.ref nd0) (.ref nd1) (.ref nd2) (.ref nd3) bx3 h920 n0 Zq920 F964 (F963.g 2 (v := (.int mc)) (by decide) rfl rfl) (F963.g 0 (v := (.ref tb)) (by decide) rfl rfl) (Lz0.keep F965 nw_tb) ((Lz13.keep F965 nw_nd3).g 3 (v := .null) (by decide) rfl rfl) ((Lz13.keep F965 nw_nd3).g 2 (v := (.ref bx3)) (by decide) rfl rfl) (Nat.le_trans Z777 Zx779_0) (nG R770_0.lt Zx779_0) (nG Lz0.lt (Nat.le_trans K778.1 Zx779_0)) (nG Lz13.lt (Nat.le_trans K778.1 Zx779_0))) e969 (argsL := []) (rest := []) rfl (by rw [hml]; rfl) k972 rfl (H 46 rfl) (lenOf pd__28_29Ljava_2flang_2fObject_3b rfl) (b5 rfl)
  obtain ⟨h973, e973⟩ : ∃ h', T973.heap = h' := ⟨_, rfl⟩
  rw [e973] at hQ973
  obtain ⟨rfl, N973q, K973, R973_0⟩ := hQ973
  have N974 := Fr.app N970 N973q
  have F975 := F959.keep K973 (ninS (nL F772.lt Zx779_0) nin0)
  have F976 := F960.keep K973 (ninS (nL F773.lt Zx779_0) nin0)
  have F977 := F961.keep K973 (ninS (nL F775.lt Zx779_0) nin0)
  have F978 := F962.keep K973
  have F979 := F963.keep K973 (ninS (nL R770_0.lt Zx779_0) nin0)
  have F980 := F966.keep K973 (allS (Nat.le_trans Z777 Zx779_0) all0)
  have Z981 : n0 ≤ h973.size := Nat.le_trans Zq920 K973.1
  have K982 := Keep.trans F965 K973 (allS (Or.inr (Nat.le_trans K778.1 Zx779_0)) all0)
  obtain ⟨T983, X983, e983, st983⟩ := castY X973 hx hZ hown (hww 257 rfl) e973 (Ins.self (Lz16.keep K982 nw_bx3).1) (g := (mkF m 113 #[sr a1, sr ls, sr mp, sr b755, si cn3, sr it779, si r2] [vR bx3])) rfl rfl (H 47 rfl)
  have k984 : Rt p e below T983 (mkF m 116 #[sr a1, sr ls, sr mp, sr b755, si cn3, sr it779, si r2] [vR bx3]) s₁ m #[(.ref a1), (.ref ls), (.ref mp)] 7 := fun t k => k973 t (st983 t k)
  obtain ⟨_, T985, L985, X985, hQ985, k985⟩ := c_V (W := 0) (x := mn14) X983 hx hZ hown (hww 259 rfl) (hww 260 rfl) (notFace_of_selects (args := #[]) (mvT hZ (hww 262 rfl))) (hww 262 rfl) (hww 261 rfl) (hww 263 rfl) (hww 68 rfl) (by decide) (Lz16.keep K982 nw_bx3).1 (iv l Z a0 hw [] bx3 r3 h973 n0 Z981 ((Lz16.keep K982 nw_bx3).g 0 (v := (.int r3)) (by decide) rfl rfl)) e983 (argsL := []) (rest := []) rfl (by rw [hml]; rfl) k984 rfl (H 48 rfl) (lenOf pd__28_29I rfl) (b5 rfl)
  obtain ⟨rfl, N985q, e985⟩ := hQ985
  have N986 := Fr.app N974 N985q
  have k987 := f_is X985 hx k985 (H 49 rfl) (l' := #[sr a1, sr ls, sr mp, sr b755, si cn3, sr it779, si r3]) rfl
  have k988 := f_il X985 hx k987 (H 50 rfl) rfl
  obtain ⟨_, T989, L989, X989, hQ989, k989⟩ := c_S (W := 0) X985 hx hZ hown (hww 266 rfl) (hww 267 rfl) (hww 146 rfl) (hww 268 rfl) (by decide) (gain l Z a0 hw [] r3 h973 n0 Z981 ) e985 (argsL := [(.int r3)]) (rest := []) rfl (by rw [hml]; rfl) k988 rfl (H 51 rfl) (lenOf pd__28I_29I rfl) (b5 rfl)
  obtain ⟨h989, e989⟩ : ∃ h', T989.heap = h' := ⟨_, rfl⟩
  rw [e989] at hQ989
  obtain ⟨j989, rfl, N989q, hh989, P989_0⟩ := hQ989
  have N990 := Fr.app N986 N989q
  have ee989 : T989.heap = h973 := e989.trans hh989
  obtain ⟨T991, h991, Ls991, t30, t31, t32, t33, cn4, X991, e991, N991, Zq991, F1042, F1043, F1044, F1045, F1046, F1047, F1048, F1049, hcv3, hcr3, kq991⟩ : ∃ (T991 : State) (h991 : Heap) (Ls991 : List Loc) (t30 : Int32) (t31 : Int32) (t32 : Int32) (t33 : Int32) (cn4 : Int32), Stand p l e (rm 5 9 24 79) s m #[(.ref a1), (.ref ls), (.ref mp)] below meth c T991 Ls991 7 16 ∧ T991.heap = h991 ∧ Fr n0 Ls991 ∧ n0 ≤ h991.size ∧ OBJ Z h991 a1 "com/example/multinomial/multinomial/eval/JudgedRanking" lyJR [(.ref bg), .null] ∧ Arv Z h991 bg kg .int nn gl zI ∧ Arv Z h991 b755 k755 .int (4 : Int32) [(.int t30), (.int t31), (.int t32), (.int t33)] zI ∧ Exa Z h991 b755 "[I" ∧ OBJ Z h991 mp "java/util/HashMap" lyMP [(.ref tb), (.int (4 : Int32)), (.int mc), (.int (12 : Int32)), (.ref vw770), (.float (1061158912 : UInt32))] ∧ OBJ Z h991 it779 "java/util/HashMap$ValueIterator" lyIT [(.ref mp), (.int mc), .null, (.ref nd3), (.int (16 : Int32))] ∧ Keep h0 h991 [a1, mp, id0, id1, id2] ∧ Old Z n0 h991 ∧ (cn4 = cn3 + (if (0 : Int32) < r3 then (1 : Int32) else (0 : Int32))) ∧ (cn4 = (0 : Int32) ∨ cn4 = (1 : Int32) ∨ cn4 = (2 : Int32) ∨ cn4 = (3 : Int32) ∨ cn4 = (4 : Int32)) ∧ (Rt p e below T991 (mkF m 138 #[sr a1, sr ls, sr mp, sr b755, si cn4, sr it779, si r3] []) s₁ m #[(.ref a1), (.ref ls), (.ref mp)] 7) := by
    by_cases qp : (0 : Int32) < j989
    · have k992 := f_ifN X989 hx k989 (H 52 rfl) ((if0 _ _).trans (tlt qp).2.2.2)
      rcases hcr2 with rfl | rfl | rfl | rfl
      · have k993 := f_alN X989 hx k992 (H 53 rfl) rfl
        have k994 := f_il X989 hx k993 (H 54 rfl) rfl
        have k995 := f_il X989 hx k994 (H 55 rfl) rfl
        obtain ⟨T996, h996, L996, X996, e996, W996, V996, N996, Z996, k996⟩ := f_ist X989 hx hZ ee989 F977 N990 g756 Z981 k995 (H 56 rfl) (by decide) 0 rfl (lt_b rfl)
        have F997 := F976.other W996 (nL F748.lt (Nat.le_of_eq g755.symm))
        have F998 := F978.wr W996
        have F999 := F980.wr W996 g756
        have K1000 := K982.wr W996 (Or.inr z757)
        have B1001 := F975.other W996 (nL F746.lt (Nat.le_of_eq g755.symm))
        have B1002 := F979.other W996 (nL F747.lt (Nat.le_of_eq g755.symm))
        have B1003 := R973_0.other W996 (nG F775.lt Zx779_0)
        have k1004 := f_inc X996 hx k996 (H 57 rfl) rfl (l' := #[sr a1, sr ls, sr mp, sr b755, si 1, sr it779, si r3]) rfl
        exact ⟨T996, h996, _, r3, t21, t22, (0 : Int32), (1 : Int32), X996, e996, N996, Z996, B1001, F997, V996, F998, B1002, B1003, K1000, F999, (own_cn1 P989_0 qp (by decide)), (Or.inr (Or.inl rfl)), k1004⟩
      · have k1005 := f_alN X989 hx k992 (H 53 rfl) rfl
        have k1006 := f_il X989 hx k1005 (H 54 rfl) rfl
        have k1007 := f_il X989 hx k1006 (H 55 rfl) rfl
        obtain ⟨T1008, h1008, L1008, X1008, e1008, W1008, V1008, N1008, Z1008, k1008⟩ := f_ist X989 hx hZ ee989 F977 N990 g756 Z981 k1007 (H 56 rfl) (by decide) 1 rfl (lt_b rfl)
        have F1009 := F976.other W1008 (nL F748.lt (Nat.le_of_eq g755.symm))
        have F1010 := F978.wr W1008
        have F1011 := F980.wr W1008 g756
        have K1012 := K982.wr W1008 (Or.inr z757)
        have B1013 := F975.other W1008 (nL F746.lt (Nat.le_of_eq g755.symm))
        have B1014 := F979.other W1008 (nL F747.lt (Nat.le_of_eq g755.symm))
        have B1015 := R973_0.other W1008 (nG F775.lt Zx779_0)
        have k1016 := f_inc X1008 hx k1008 (H 57 rfl) rfl (l' := #[sr a1, sr ls, sr mp, sr b755, si 2, sr it779, si r3]) rfl
        exact ⟨T1008, h1008, _, t20, r3, t22, (0 : Int32), (2 : Int32), X1008, e1008, N1008, Z1008, B1013, F1009, V1008, F1010, B1014, B1015, K1012, F1011, (own_cn1 P989_0 qp (by decide)), (Or.inr (Or.inr (Or.inl rfl))), k1016⟩
      · have k1017 := f_alN X989 hx k992 (H 53 rfl) rfl
        have k1018 := f_il X989 hx k1017 (H 54 rfl) rfl
        have k1019 := f_il X989 hx k1018 (H 55 rfl) rfl
        obtain ⟨T1020, h1020, L1020, X1020, e1020, W1020, V1020, N1020, Z1020, k1020⟩ := f_ist X989 hx hZ ee989 F977 N990 g756 Z981 k1019 (H 56 rfl) (by decide) 2 rfl (lt_b rfl)
        have F1021 := F976.other W1020 (nL F748.lt (Nat.le_of_eq g755.symm))
        have F1022 := F978.wr W1020
        have F1023 := F980.wr W1020 g756
        have K1024 := K982.wr W1020 (Or.inr z757)
        have B1025 := F975.other W1020 (nL F746.lt (Nat.le_of_eq g755.symm))
        have B1026 := F979.other W1020 (nL F747.lt (Nat.le_of_eq g755.symm))
        have B1027 := R973_0.other W1020 (nG F775.lt Zx779_0)
        have k1028 := f_inc X1020 hx k1020 (H 57 rfl) rfl (l' := #[sr a1, sr ls, sr mp, sr b755, si 3, sr it779, si r3]) rfl
        exact ⟨T1020, h1020, _, t20, t21, r3, (0 : Int32), (3 : Int32), X1020, e1020, N1020, Z1020, B1025, F1021, V1020, F1022, B1026, B1027, K1024, F1023, (own_cn1 P989_0 qp (by decide)), (Or.inr (Or.inr (Or.inr (Or.inl rfl)))), k1028⟩
      · have k1029 := f_alN X989 hx k992 (H 53 rfl) rfl
        have k1030 := f_il X989 hx k1029 (H 54 rfl) rfl
        have k1031 := f_il X989 hx k1030 (H 55 rfl) rfl
        obtain ⟨T1032, h1032, L1032, X1032, e1032, W1032, V1032, N1032, Z1032, k1032⟩ := f_ist X989 hx hZ ee989 F977 N990 g756 Z981 k1031 (H 56 rfl) (by decide) 3 rfl (lt_b rfl)
        have F1033 := F976.other W1032 (nL F748.lt (Nat.le_of_eq g755.symm))
        have F1034 := F978.wr W1032
        have F1035 := F980.wr W1032 g756
        have K1036 := K982.wr W1032 (Or.inr z757)
        have B1037 := F975.other W1032 (nL F746.lt (Nat.le_of_eq g755.symm))
        have B1038 := F979.other W1032 (nL F747.lt (Nat.le_of_eq g755.symm))
        have B1039 := R973_0.other W1032 (nG F775.lt Zx779_0)
        have k1040 := f_inc X1032 hx k1032 (H 57 rfl) rfl (l' := #[sr a1, sr ls, sr mp, sr b755, si 4, sr it779, si r3]) rfl
        exact ⟨T1032, h1032, _, t20, t21, t22, r3, (4 : Int32), X1032, e1032, N1032, Z1032, B1037, F1033, V1032, F1034, B1038, B1039, K1036, F1035, (own_cn1 P989_0 qp (by decide)), (Or.inr (Or.inr (Or.inr (Or.inr (rfl))))), k1040⟩
    · have k1041 := f_ifY X989 hx k989 (H 52 rfl) (pc' := 138) ((if0 _ _).trans (flt qp).2.2.2) (by decide)
      exact ⟨T989, h973, _, t20, t21, t22, (0 : Int32), cn3, X989, ee989, N990, Z981, F975, F976, F977, F978, F979, R973_0, K982, F980, (own_cn0 P989_0 qp), (hcr2.elim Or.inl (fun h => Or.inr (h.elim Or.inl (fun h => Or.inr (h.elim Or.inl (fun h => Or.inr (Or.inl h))))))), k1041⟩
  have k1050 := f_go X991 hx kq991 (H 58 rfl) (pc' := 96) (by decide)
  have k1051 := f_al X991 hx k1050 (H 42 rfl) rfl
  obtain ⟨_, T1052, L1052, X1052, hQ1052, k1052⟩ := c_I (W := 0) (x := mn64) X991 hx hZ hown (hww 232 rfl) (hww 233 rfl) (hww 234 rfl) (hww 235 rfl) (hww 236 rfl) (hww 237 rfl) (hww 238 rfl) (hww 239 rfl) (hww 240 rfl) (hww 216 rfl) (by decide) F1047.1 (hn0 l Z a0 hw [] it779 h991 n0 Zq991 (F1047.g 2 (v := .null) (by decide) rfl rfl)) e991 (argsL := []) (rest := []) rfl (by rw [hml]; rfl) k1051 rfl (H 43 rfl) (lenOf pd__28_29Z rfl) (b5 rfl)
  obtain ⟨rfl, N1052q, e1052⟩ := hQ1052
  have N1053 := Fr.app N991 N1052q
  have k1054 := f_ifY X1052 hx k1052 (H 44 rfl) (pc' := 141) ((if0 _ _).trans (teq (by decide)).1) (by decide)
  have k1055 := f_alN X1052 hx k1054 (H 59 rfl) rfl
  have k1056 := f_il X1052 hx k1055 (H 60 rfl) rfl
  rcases hcr3 with rfl | rfl | rfl | rfl | rfl
  · obtain ⟨_, T1057, L1057, X1057, hQ1057, k1057⟩ := c_S (W := 0) X1052 hx hZ hown (hww 273 rfl) (hww 274 rfl) (hww 275 rfl) (hww 276 rfl) (by decide) (cpo40 l Z a0 hw [] b755 k755 t30 t31 t32 t33 h991 n0 Zq991 F1044 F1045) e1052 (argsL := [(.ref b755), zI]) (rest := []) rfl (by rw [hml]; rfl) k1056 rfl (H 61 rfl) (lenOf pd__28_5bII_29_5bI rfl) (b5 rfl)
    obtain ⟨h1057, e1057⟩ : ∃ h', T1057.heap = h' := ⟨_, rfl⟩
    rw [e1057] at hQ1057
    obtain ⟨b1057, kb1057, rfl, N1057q, K1057, Zx1057_0, R1057_0⟩ := hQ1057
    have N1058 := Fr.app N1053 N1057q
    have F1059 := F1042.keep K1057 nin0
    have F1060 := F1043.keep K1057 nin0
    have F1061 := F1044.keep K1057 nin0
    have F1062 := F1045.keep K1057
    have F1063 := F1049.keep K1057 all0
    have Z1064 : n0 ≤ h1057.size := Nat.le_trans Zq991 K1057.1
    have K1065 := Keep.trans F1048 K1057 all0
    have k1066 := f_as X1057 hx k1057 (H 62 rfl) (l' := #[sr a1, sr ls, sr mp, sr b755, si 0, sr b1057, si r3]) rfl
    have k1067 := f_al X1057 hx k1066 (H 63 rfl) rfl
    obtain ⟨_, T1068, L1068, X1068, hQ1068, k1068⟩ := c_S (W := 0) X1057 hx hZ hown (hww 284 rfl) (hww 285 rfl) (hww 275 rfl) (hww 286 rfl) (by decide) (srt0 l Z a0 hw [] b1057 kb1057 h1057 n0 Z1064 R1057_0 (Nat.le_trans Zq991 Zx1057_0)) e1057 (argsL := [(.ref b1057)]) (rest := []) rfl (by rw [hml]; rfl) k1067 rfl (H 64 rfl) (lenOf pd__28_5bI_29V rfl) (b5 rfl)
    obtain ⟨h1068, e1068⟩ : ∃ h', T1068.heap = h' := ⟨_, rfl⟩
    rw [e1068] at hQ1068
    obtain ⟨rfl, N1068q, K1068, R1068_0⟩ := hQ1068
    have N1069 := Fr.app N1058 N1068q
    have F1070 := F1059.keep K1068 (ninS (nL F1042.lt Zx1057_0) nin0)
    have F1071 := F1060.keep K1068 (ninS (nL F1043.lt Zx1057_0) nin0)
    have F1072 := F1063.keep K1068 (allS (Nat.le_trans Zq991 Zx1057_0) all0)
    have Z1073 : n0 ≤ h1068.size := Nat.le_trans Z1064 K1068.1
    have K1074 := Keep.trans K1065 K1068 (allS (Or.inr (Nat.le_trans F1048.1 Zx1057_0)) all0)
    have k1075 := f_alN X1068 hx k1068 (H 65 rfl) rfl
    have k1076 := f_il X1068 hx k1075 (H 66 rfl) rfl
    obtain ⟨T1077, h1077, k1077, X1077, e1077, E1077, A1077, Y1077, st1077⟩ := newPE X1068 hx hZ (hww 162 rfl) e1068 (g := (mkF m 157 #[sr a1, sr ls, sr mp, sr b755, si 0, sr b1057, si r3] [vI 0, vR a1])) rfl (H 67 rfl) rfl (by decide) (cap := 0) (by decide) (by decide) (by decide) (by decide) (ad := "[I") (by decide)
    obtain ⟨b1077, g1077⟩ : ∃ z, z = h1068.size := ⟨_, rfl⟩
    rw [← g1077] at A1077 Y1077 st1077
    have g1078 : n0 ≤ b1077 := Nat.le_trans Z1073 (Nat.le_of_eq g1077.symm)
    have z1079 : h0.size ≤ b1077 := Nat.le_trans K1074.1 (Nat.le_of_eq g1077.symm)
    have F1080 := F1070.ext E1077
    have F1081 := F1071.ext E1077
    have F1082 := F1072.ext E1077
    have F1083 := R1068_0.ext E1077
    have Z1084 : n0 ≤ h1077.size := Nat.le_trans Z1073 E1077.1
    have K1085 := K1074.ext E1077
    have V1086 : Arv Z h1077 b1077 k1077 .int (0 : Int32) [] zI := (Arv.new A1077 (by decide)).pad (pad_rep [] zI 0)
    have k1087 : Rt p e below T1077 (mkF m 159 #[sr a1, sr ls, sr mp, sr b755, si 0, sr b1057, si r3] [vR b1077, vR a1]) s₁ m #[(.ref a1), (.ref ls), (.ref mp)] 7 := fun t k => k1076 t (st1077 t k)
    obtain ⟨T1088, h1088, L1088, X1088, e1088, W1088, B1088, N1088, Z1088, k1088⟩ := f_pF X1077 hx hZ hown (hww 297 rfl) Via.refl e1077 F1080 (snJR hw) (Or.inr ⟨(hww 298 rfl), rfl, hnm⟩) (hww 145 rfl) 1 (by decide) rfl rfl (ty := (.array .int)) (by decide) rfl rfl N1069 ge_a1 Z1084 k1087 (H 68 rfl) rfl
    have F1089 := F1081.other W1088 (nG Fk0.lt zbg)
    have F1090 := F1082.wr W1088 ge_a1
    have F1091 := F1083.other W1088 (nG F1042.lt Zx1057_0)
    have F1092 := V1086.other W1088 (nG F1070.lt (Nat.le_of_eq g1077.symm))
    have F1093 := Y1077.wr W1088
    have K1094 := kw K1085 W1088 0 rfl
    have k1095 := f_ic X1088 hx k1088 (H 69 rfl) (v := 0) rfl
    have k1096 := f_is X1088 hx k1095 (H 70 rfl) (l' := #[sr a1, sr ls, sr mp, sr b755, si 0, sr b1057, si 0]) rfl
    have k1097 := f_il X1088 hx k1096 (H 71 rfl) rfl
    have k1098 := f_il X1088 hx k1097 (H 72 rfl) rfl
    have k1099 := f_icY X1088 hx k1098 (H 73 rfl) (pc' := 195) (flt (by decide)).2.1 (by decide)
    exact fin_v X1088 hx hrt hlk k1099 (H 74 rfl) (by rw [e1088]; exact ⟨bg, kg, gl, g0, g1, g2, b1077, k1077, [], (0 : Int32), rfl, N1088, K1094, B1088, F1089, F1092, hgl, hgv0, hgv1, hgv2, hcv3.trans (by rw [hcv2, hcv1, hcv0])⟩) (by decide) (by decide)
  · obtain ⟨_, T1100, L1100, X1100, hQ1100, k1100⟩ := c_S (W := 0) X1052 hx hZ hown (hww 273 rfl) (hww 274 rfl) (hww 275 rfl) (hww 276 rfl) (by decide) (cpo41 l Z a0 hw [] b755 k755 t30 t31 t32 t33 h991 n0 Zq991 F1044 F1045) e1052 (argsL := [(.ref b755), (.int (1 : Int32))]) (rest := []) rfl (by rw [hml]; rfl) k1056 rfl (H 61 rfl) (lenOf pd__28_5bII_29_5bI rfl) (b5 rfl)
    obtain ⟨h1100, e1100⟩ : ∃ h', T1100.heap = h' := ⟨_, rfl⟩
    rw [e1100] at hQ1100
    obtain ⟨b1100, kb1100, rfl, N1100q, K1100, Zx1100_0, R1100_0⟩ := hQ1100
    have N1101 := Fr.app N1053 N1100q
    have F1102 := F1042.keep K1100 nin0
    have F1103 := F1043.keep K1100 nin0
    have F1104 := F1044.keep K1100 nin0
    have F1105 := F1045.keep K1100
    have F1106 := F1049.keep K1100 all0
    have Z1107 : n0 ≤ h1100.size := Nat.le_trans Zq991 K1100.1
    have K1108 := Keep.trans F1048 K1100 all0
    have k1109 := f_as X1100 hx k1100 (H 62 rfl) (l' := #[sr a1, sr ls, sr mp, sr b755, si 1, sr b1100, si r3]) rfl
    have k1110 := f_al X1100 hx k1109 (H 63 rfl) rfl
    obtain ⟨_, T1111, L1111, X1111, hQ1111, k1111⟩ := c_S (W := 0) X1100 hx hZ hown (hww 284 rfl) (hww 285 rfl) (hww 275 rfl) (hww 286 rfl) (by decide) (srt1 l Z a0 hw [] b1100 kb1100 t30 h1100 n0 Z1107 R1100_0 (Nat.le_trans Zq991 Zx1100_0)) e1100 (argsL := [(.ref b1100)]) (rest := []) rfl (by rw [hml]; rfl) k1110 rfl (H 64 rfl) (lenOf pd__28_5bI_29V rfl) (b5 rfl)
    obtain ⟨h1111, e1111⟩ : ∃ h', T1111.heap = h' := ⟨_, rfl⟩
    rw [e1111] at hQ1111
    obtain ⟨r01111, rfl, N1111q, K1111, R1111_0⟩ := hQ1111
    have N1112 := Fr.app N1101 N1111q
    have F1113 := F1102.keep K1111 (ninS (nL F1042.lt Zx1100_0) nin0)
    have F1114 := F1103.keep K1111 (ninS (nL F1043.lt Zx1100_0) nin0)
    have F1115 := F1106.keep K1111 (allS (Nat.le_trans Zq991 Zx1100_0) all0)
    have Z1116 : n0 ≤ h1111.size := Nat.le_trans Z1107 K1111.1
    have K1117 := Keep.trans K1108 K1111 (allS (Or.inr (Nat.le_trans F1048.1 Zx1100_0)) all0)
    have k1118 := f_alN X1111 hx k1111 (H 65 rfl) rfl
    have k1119 := f_il X1111 hx k1118 (H 66 rfl) rfl
    obtain ⟨T1120, h1120, k1120, X1120, e1120, E1120, A1120, Y1120, st1120⟩ := newPE X1111 hx hZ (hww 162 rfl) e1111 (g := (mkF m 157 #[sr a1, sr ls, sr mp, sr b755, si 1, sr b1100, si r3] [vI 1, vR a1])) rfl (H 67 rfl) rfl (by decide) (cap := 1) (by decide) (by decide) (by decide) (by decide) (ad := "[I") (by decide)
    obtain ⟨b1120, g1120⟩ : ∃ z, z = h1111.size := ⟨_, rfl⟩
    rw [← g1120] at A1120 Y1120 st1120
    have g1121 : n0 ≤ b1120 := Nat.le_trans Z1116 (Nat.le_of_eq g1120.symm)
    have z1122 : h0.size ≤ b1120 := Nat.le_trans K1117.1 (Nat.le_of_eq g1120.symm)
    have F1123 := F1113.ext E1120
    have F1124 := F1114.ext E1120
    have F1125 := F1115.ext E1120
    have F1126 := R1111_0.ext E1120
    have Z1127 : n0 ≤ h1120.size := Nat.le_trans Z1116 E1120.1
    have K1128 := K1117.ext E1120
    have V1129 : Arv Z h1120 b1120 k1120 .int (1 : Int32) [zI] zI := (Arv.new A1120 (by decide)).pad (pad_rep [] zI 1)
    have k1130 : Rt p e below T1120 (mkF m 159 #[sr a1, sr ls, sr mp, sr b755, si 1, sr b1100, si r3] [vR b1120, vR a1]) s₁ m #[(.ref a1), (.ref ls), (.ref mp)] 7 := fun t k => k1119 t (st1120 t k)
    obtain ⟨T1131, h1131, L1131, X1131, e1131, W1131, B1131, N1131, Z1131, k1131⟩ := f_pF X1120 hx hZ hown (hww 297 rfl) Via.refl e1120 F1123 (snJR hw) (Or.inr ⟨(hww 298 rfl), rfl, hnm⟩) (hww 145 rfl) 1 (by decide) rfl rfl (ty := (.array .int)) (by decide) rfl rfl N1112 ge_a1 Z1127 k1130 (H 68 rfl) rfl
    have F1132 := F1124.other W1131 (nG Fk0.lt zbg)
    have F1133 := F1125.wr W1131 ge_a1
    have F1134 := F1126.other W1131 (nG F1042.lt Zx1100_0)
    have F1135 := V1129.other W1131 (nG F1113.lt (Nat.le_of_eq g1120.symm))
    have F1136 := Y1120.wr W1131
    have K1137 := kw K1128 W1131 0 rfl
    have k1138 := f_ic X1131 hx k1131 (H 69 rfl) (v := 0) rfl
    have k1139 := f_is X1131 hx k1138 (H 70 rfl) (l' := #[sr a1, sr ls, sr mp, sr b755, si 1, sr b1100, si 0]) rfl
    have k1140 := f_il X1131 hx k1139 (H 71 rfl) rfl
    have k1141 := f_il X1131 hx k1140 (H 72 rfl) rfl
    have k1142 := f_icN X1131 hx k1141 (H 73 rfl) (tlt (by decide)).2.1
    have k1143 := f_alN X1131 hx k1142 (H 75 rfl) rfl
    obtain ⟨T1144, X1144, e1144, k1145⟩ := gFs X1131 hx hZ hown (hww 297 rfl) e1131 (B1131.g 1 (v := (.ref b1120)) (by decide) rfl rfl) k1143 (H 76 rfl)
    have k1146 := f_il X1144 hx k1145 (H 77 rfl) rfl
    have k1147 := f_al X1144 hx k1146 (H 78 rfl) rfl
    have k1148 := f_il X1144 hx k1147 (H 79 rfl) rfl
    have k1149 := f_ic X1144 hx k1148 (H 80 rfl) (v := 1) rfl
    have k1150 := f_isub X1144 hx k1149 (H 81 rfl) (r := 0) (by decide)
    have k1151 := f_il X1144 hx k1150 (H 82 rfl) rfl
    have k1152 := f_isub X1144 hx k1151 (H 83 rfl) (r := 0) (by decide)
    have k1153 := f_ial X1144 hx hZ e1144 F1134 k1152 (H 84 rfl) (v := r01111) (by decide) rfl
    obtain ⟨T1154, h1154, L1154, X1154, e1154, W1154, V1154, N1154, Z1154, k1154⟩ := f_ist X1144 hx hZ e1144 F1135 N1131 g1121 Z1131 k1153 (H 85 rfl) (by decide) 0 rfl (lt_b rfl)
    have F1155 := F1132.other W1154 (nL F1114.lt (Nat.le_of_eq g1120.symm))
    have F1156 := F1133.wr W1154 g1121
    have F1157 := F1134.other W1154 (nL R1111_0.lt (Nat.le_of_eq g1120.symm))
    have F1158 := F1136.wr W1154
    have K1159 := K1137.wr W1154 (Or.inr z1122)
    have B1160 := B1131.other W1154 (nL F1113.lt (Nat.le_of_eq g1120.symm))
    have k1161 := f_inc X1154 hx k1154 (H 86 rfl) rfl (l' := #[sr a1, sr ls, sr mp, sr b755, si 1, sr b1100, si 1]) rfl
    have k1162 := f_go X1154 hx k1161 (H 87 rfl) (pc' := 165) (by decide)
    have k1163 := f_il X1154 hx k1162 (H 71 rfl) rfl
    have k1164 := f_il X1154 hx k1163 (H 72 rfl) rfl
    have k1165 := f_icY X1154 hx k1164 (H 73 rfl) (pc' := 195) (flt (by decide)).2.1 (by decide)
    exact fin_v X1154 hx hrt hlk k1165 (H 74 rfl) (by rw [e1154]; exact ⟨bg, kg, gl, g0, g1, g2, b1120, k1120, [(.int r01111)], (1 : Int32), rfl, N1154, K1159, B1160, F1155, V1154, hgl, hgv0, hgv1, hgv2, hcv3.trans (by rw [hcv2, hcv1, hcv0])⟩) (by decide) (by decide)
  · obtain ⟨_, T1166, L1166, X1166, hQ1166, k1166⟩ := c_S (W := 0) X1052 hx hZ hown (hww 273 rfl) (hww 274 rfl) (hww 275 rfl) (hww 276 rfl) (by decide) (cpo42 l Z a0 hw [] b755 k755 t30 t31 t32 t33 h991 n0 Zq991 F1044 F1045) e1052 (argsL := [(.ref b755), (.int (2 : Int32))]) (rest := []) rfl (by rw [hml]; rfl) k1056 rfl (H 61 rfl) (lenOf pd__28_5bII_29_5bI rfl) (b5 rfl)
    obtain ⟨h1166, e1166⟩ : ∃ h', T1166.heap = h' := ⟨_, rfl⟩
    rw [e1166] at hQ1166
    obtain ⟨b1166, kb1166, rfl, N1166q, K1166, Zx1166_0, R1166_0⟩ := hQ1166
    have N1167 := Fr.app N1053 N1166q
    have F1168 := F1042.keep K1166 nin0
    have F1169 := F1043.keep K1166 nin0
    have F1170 := F1044.keep K1166 nin0
    have F1171 := F1045.keep K1166
    have F1172 := F1049.keep K1166 all0
    have Z1173 : n0 ≤ h1166.size := Nat.le_trans Zq991 K1166.1
    have K1174 := Keep.trans F1048 K1166 all0
    have k1175 := f_as X1166 hx k1166 (H 62 rfl) (l' := #[sr a1, sr ls, sr mp, sr b755, si 2, sr b1166, si r3]) rfl
    have k1176 := f_al X1166 hx k1175 (H 63 rfl) rfl
    obtain ⟨_, T1177, L1177, X1177, hQ1177, k1177⟩ := c_S (W := 0) X1166 hx hZ hown (hww 284 rfl) (hww 285 rfl) (hww 275 rfl) (hww 286 rfl) (by decide) (srt2 l Z a0 hw [] b1166 kb1166 t30 t31 h1166 n0 Z1173 R1166_0 (Nat.le_trans Zq991 Zx1166_0)) e1166 (argsL := [(.ref b1166)]) (rest := []) rfl (by rw [hml]; rfl) k1176 rfl (H 64 rfl) (lenOf pd__28_5bI_29V rfl) (b5 rfl)
    obtain ⟨h1177, e1177⟩ : ∃ h', T1177.heap = h' := ⟨_, rfl⟩
    rw [e1177] at hQ1177
    obtain ⟨r01177, r11177, rfl, N1177q, K1177, R1177_0⟩ := hQ1177
    have N1178 := Fr.app N1167 N1177q
    have F1179 := F1168.keep K1177 (ninS (nL F1042.lt Zx1166_0) nin0)
    have F1180 := F1169.keep K1177 (ninS (nL F1043.lt Zx1166_0) nin0)
    have F1181 := F1172.keep K1177 (allS (Nat.le_trans Zq991 Zx1166_0) all0)
    have Z1182 : n0 ≤ h1177.size := Nat.le_trans Z1173 K1177.1
    have K1183 := Keep.trans K1174 K1177 (allS (Or.inr (Nat.le_trans F1048.1 Zx1166_0)) all0)
    have k1184 := f_alN X1177 hx k1177 (H 65 rfl) rfl
    have k1185 := f_il X1177 hx k1184 (H 66 rfl) rfl
    obtain ⟨T1186, h1186, k1186, X1186, e1186, E1186, A1186, Y1186, st1186⟩ := newPE X1177 hx hZ (hww 162 rfl) e1177 (g := (mkF m 157 #[sr a1, sr ls, sr mp, sr b755, si 2, sr b1166, si r3] [vI 2, vR a1])) rfl (H 67 rfl) rfl (by decide) (cap := 2) (by decide) (by decide) (by decide) (by decide) (ad := "[I") (by decide)
    obtain ⟨b1186, g1186⟩ : ∃ z, z = h1177.size := ⟨_, rfl⟩
    rw [← g1186] at A1186 Y1186 st1186
    have g1187 : n0 ≤ b1186 := Nat.le_trans Z1182 (Nat.le_of_eq g1186.symm)
    have z1188 : h0.size ≤ b1186 := Nat.le_trans K1183.1 (Nat.le_of_eq g1186.symm)
    have F1189 := F1179.ext E1186
    have F1190 := F1180.ext E1186
    have F1191 := F1181.ext E1186
    have F1192 := R1177_0.ext E1186
    have Z1193 : n0 ≤ h1186.size := Nat.le_trans Z1182 E1186.1
    have K1194 := K1183.ext E1186
    have V1195 : Arv Z h1186 b1186 k1186 .int (2 : Int32) [zI, zI] zI := (Arv.new A1186 (by decide)).pad (pad_rep [] zI 2)
    have k1196 : Rt p e below T1186 (mkF m 159 #[sr a1, sr ls, sr mp, sr b755, si 2, sr b1166, si r3] [vR b1186, vR a1]) s₁ m #[(.ref a1), (.ref ls), (.ref mp)] 7 := fun t k => k1185 t (st1186 t k)
    obtain ⟨T1197, h1197, L1197, X1197, e1197, W1197, B1197, N1197, Z1197, k1197⟩ := f_pF X1186 hx hZ hown (hww 297 rfl) Via.refl e1186 F1189 (snJR hw) (Or.inr ⟨(hww 298 rfl), rfl, hnm⟩) (hww 145 rfl) 1 (by decide) rfl rfl (ty := (.array .int)) (by decide) rfl rfl N1178 ge_a1 Z1193 k1196 (H 68 rfl) rfl
    have F1198 := F1190.other W1197 (nG Fk0.lt zbg)
    have F1199 := F1191.wr W1197 ge_a1
    have F1200 := F1192.other W1197 (nG F1042.lt Zx1166_0)
    have F1201 := V1195.other W1197 (nG F1179.lt (Nat.le_of_eq g1186.symm))
    have F1202 := Y1186.wr W1197
    have K1203 := kw K1194 W1197 0 rfl
    have k1204 := f_ic X1197 hx k1197 (H 69 rfl) (v := 0) rfl
    have k1205 := f_is X1197 hx k1204 (H 70 rfl) (l' := #[sr a1, sr ls, sr mp, sr b755, si 2, sr b1166, si 0]) rfl
    have k1206 := f_il X1197 hx k1205 (H 71 rfl) rfl
    have k1207 := f_il X1197 hx k1206 (H 72 rfl) rfl
    have k1208 := f_icN X1197 hx k1207 (H 73 rfl) (tlt (by decide)).2.1
    have k1209 := f_alN X1197 hx k1208 (H 75 rfl) rfl
    obtain ⟨T1210, X1210, e1210, k1211⟩ := gFs X1197 hx hZ hown (hww 297 rfl) e1197 (B1197.g 1 (v := (.ref b1186)) (by decide) rfl rfl) k1209 (H 76 rfl)
    have k1212 := f_il X1210 hx k1211 (H 77 rfl) rfl
    have k1213 := f_al X1210 hx k1212 (H 78 rfl) rfl
    have k1214 := f_il X1210 hx k1213 (H 79 rfl) rfl
    have k1215 := f_ic X1210 hx k1214 (H 80 rfl) (v := 1) rfl
    have k1216 := f_isub X1210 hx k1215 (H 81 rfl) (r := 1) (by decide)
    have k1217 := f_il X1210 hx k1216 (H 82 rfl) rfl
    have k1218 := f_isub X1210 hx k1217 (H 83 rfl) (r := 1) (by decide)
    have k1219 := f_ial X1210 hx hZ e1210 F1200 k1218 (H 84 rfl) (v := r11177) (by decide) rfl
    obtain ⟨T1220, h1220, L1220, X1220, e1220, W1220, V1220, N1220, Z1220, k1220⟩ := f_ist X1210 hx hZ e1210 F1201 N1197 g1187 Z1197 k1219 (H 85 rfl) (by decide) 0 rfl (lt_b rfl)
    have F1221 := F1198.other W1220 (nL F1180.lt (Nat.le_of_eq g1186.symm))
    have F1222 := F1199.wr W1220 g1187
    have F1223 := F1200.other W1220 (nL R1177_0.lt (Nat.le_of_eq g1186.symm))
    have F1224 := F1202.wr W1220
    have K1225 := K1203.wr W1220 (Or.inr z1188)
    have B1226 := B1197.other W1220 (nL F1179.lt (Nat.le_of_eq g1186.symm))
    have k1227 := f_inc X1220 hx k1220 (H 86 rfl) rfl (l' := #[sr a1, sr ls, sr mp, sr b755, si 2, sr b1166, si 1]) rfl
    have k1228 := f_go X1220 hx k1227 (H 87 rfl) (pc' := 165) (by decide)
    have k1229 := f_il X1220 hx k1228 (H 71 rfl) rfl
    have k1230 := f_il X1220 hx k1229 (H 72 rfl) rfl
    have k1231 := f_icN X1220 hx k1230 (H 73 rfl) (tlt (by decide)).2.1
    have k1232 := f_alN X1220 hx k1231 (H 75 rfl) rfl
    obtain ⟨T1233, X1233, e1233, k1234⟩ := gFs X1220 hx hZ hown (hww 297 rfl) e1220 (B1226.g 1 (v := (.ref b1186)) (by decide) rfl rfl) k1232 (H 76 rfl)
    have k1235 := f_il X1233 hx k1234 (H 77 rfl) rfl
    have k1236 := f_al X1233 hx k1235 (H 78 rfl) rfl
    have k1237 := f_il X1233 hx k1236 (H 79 rfl) rfl
    have k1238 := f_ic X1233 hx k1237 (H 80 rfl) (v := 1) rfl
    have k1239 := f_isub X1233 hx k1238 (H 81 rfl) (r := 1) (by decide)
    have k1240 := f_il X1233 hx k1239 (H 82 rfl) rfl
    have k1241 := f_isub X1233 hx k1240 (H 83 rfl) (r := 0) (by decide)
    have k1242 := f_ial X1233 hx hZ e1233 F1223 k1241 (H 84 rfl) (v := r01177) (by decide) rfl
    obtain ⟨T1243, h1243, L1243, X1243, e1243, W1243, V1243, N1243, Z1243, k1243⟩ := f_ist X1233 hx hZ e1233 V1220 N1220 g1187 Z1220 k1242 (H 85 rfl) (by decide) 1 rfl (lt_b rfl)
    have F1244 := F1221.other W1243 (nL F1180.lt (Nat.le_of_eq g1186.symm))
    have F1245 := F1222.wr W1243 g1187
    have F1246 := F1223.other W1243 (nL R1177_0.lt (Nat.le_of_eq g1186.symm))
    have F1247 := F1224.wr W1243
    have K1248 := K1225.wr W1243 (Or.inr z1188)
    have B1249 := B1226.other W1243 (nL F1179.lt (Nat.le_of_eq g1186.symm))
    have k1250 := f_inc X1243 hx k1243 (H 86 rfl) rfl (l' := #[sr a1, sr ls, sr mp, sr b755, si 2, sr b1166, si 2]) rfl
    have k1251 := f_go X1243 hx k1250 (H 87 rfl) (pc' := 165) (by decide)
    have k1252 := f_il X1243 hx k1251 (H 71 rfl) rfl
    have k1253 := f_il X1243 hx k1252 (H 72 rfl) rfl
    have k1254 := f_icY X1243 hx k1253 (H 73 rfl) (pc' := 195) (flt (by decide)).2.1 (by decide)
    exact fin_v X1243 hx hrt hlk k1254 (H 74 rfl) (by rw [e1243]; exact ⟨bg, kg, gl, g0, g1, g2, b1186, k1186, [(.int r11177), (.int r01177)], (2 : Int32), rfl, N1243, K1248, B1249, F1244, V1243, hgl, hgv0, hgv1, hgv2, hcv3.trans (by rw [hcv2, hcv1, hcv0])⟩) (by decide) (by decide)
  · obtain ⟨_, T1255, L1255, X1255, hQ1255, k1255⟩ := c_S (W := 0) X1052 hx hZ hown (hww 273 rfl) (hww 274 rfl) (hww 275 rfl) (hww 276 rfl) (by decide) (cpo43 l Z a0 hw [] b755 k755 t30 t31 t32 t33 h991 n0 Zq991 F1044 F1045) e1052 (argsL := [(.ref b755), (.int (3 : Int32))]) (rest := []) rfl (by rw [hml]; rfl) k1056 rfl (H 61 rfl) (lenOf pd__28_5bII_29_5bI rfl) (b5 rfl)
    obtain ⟨h1255, e1255⟩ : ∃ h', T1255.heap = h' := ⟨_, rfl⟩
    rw [e1255] at hQ1255
    obtain ⟨b1255, kb1255, rfl, N1255q, K1255, Zx1255_0, R1255_0⟩ := hQ1255
    have N1256 := Fr.app N1053 N1255q
    have F1257 := F1042.keep K1255 nin0
    have F1258 := F1043.keep K1255 nin0
    have F1259 := F1044.keep K1255 nin0
    have F1260 := F1045.keep K1255
    have F1261 := F1049.keep K1255 all0
    have Z1262 : n0 ≤ h1255.size := Nat.le_trans Zq991 K1255.1
    have K1263 := Keep.trans F1048 K1255 all0
    have k1264 := f_as X1255 hx k1255 (H 62 rfl) (l' := #[sr a1, sr ls, sr mp, sr b755, si 3, sr b1255, si r3]) rfl
    have k1265 := f_al X1255 hx k1264 (H 63 rfl) rfl
    obtain ⟨_, T1266, L1266, X1266, hQ1266, k1266⟩ := c_S (W := 0) X1255 hx hZ hown (hww 284 rfl) (hww 285 rfl) (hww 275 rfl) (hww 286 rfl) (by decide) (srt3 l Z a0 hw [] b1255 kb1255 t30 t31 t32 h1255 n0 Z1262 R1255_0 (Nat.le_trans Zq991 Zx1255_0)) e1255 (argsL := [(.ref b1255)]) (rest := []) rfl (by rw [hml]; rfl) k1265 rfl (H 64 rfl) (lenOf pd__28_5bI_29V rfl) (b5 rfl)
    obtain ⟨h1266, e1266⟩ : ∃ h', T1266.heap = h' := ⟨_, rfl⟩
    rw [e1266] at hQ1266
    obtain ⟨r01266, r11266, r21266, rfl, N1266q, K1266, R1266_0⟩ := hQ1266
    have N1267 := Fr.app N1256 N1266q
    have F1268 := F1257.keep K1266 (ninS (nL F1042.lt Zx1255_0) nin0)
    have F1269 := F1258.keep K1266 (ninS (nL F1043.lt Zx1255_0) nin0)
    have F1270 := F1261.keep K1266 (allS (Nat.le_trans Zq991 Zx1255_0) all0)
    have Z1271 : n0 ≤ h1266.size := Nat.le_trans Z1262 K1266.1
    have K1272 := Keep.trans K1263 K1266 (allS (Or.inr (Nat.le_trans F1048.1 Zx1255_0)) all0)
    have k1273 := f_alN X1266 hx k1266 (H 65 rfl) rfl
    have k1274 := f_il X1266 hx k1273 (H 66 rfl) rfl
    obtain ⟨T1275, h1275, k1275, X1275, e1275, E1275, A1275, Y1275, st1275⟩ := newPE X1266 hx hZ (hww 162 rfl) e1266 (g := (mkF m 157 #[sr a1, sr ls, sr mp, sr b755, si 3, sr b1255, si r3] [vI 3, vR a1])) rfl (H 67 rfl) rfl (by decide) (cap := 3) (by decide) (by decide) (by decide) (by decide) (ad := "[I") (by decide)
    obtain ⟨b1275, g1275⟩ : ∃ z, z = h1266.size := ⟨_, rfl⟩
    rw [← g1275] at A1275 Y1275 st1275
    have g1276 : n0 ≤ b1275 := Nat.le_trans Z1271 (Nat.le_of_eq g1275.symm)
    have z1277 : h0.size ≤ b1275 := Nat.le_trans K1272.1 (Nat.le_of_eq g1275.symm)
    have F1278 := F1268.ext E1275
    have F1279 := F1269.ext E1275
    have F1280 := F1270.ext E1275
    have F1281 := R1266_0.ext E1275
    have Z1282 : n0 ≤ h1275.size := Nat.le_trans Z1271 E1275.1
    have K1283 := K1272.ext E1275
    have V1284 : Arv Z h1275 b1275 k1275 .int (3 : Int32) [zI, zI, zI] zI := (Arv.new A1275 (by decide)).pad (pad_rep [] zI 3)
    have k1285 : Rt p e below T1275 (mkF m 159 #[sr a1, sr ls, sr mp, sr b755, si 3, sr b1255, si r3] [vR b1275, vR a1]) s₁ m #[(.ref a1), (.ref ls), (.ref mp)] 7 := fun t k => k1274 t (st1275 t k)
    obtain ⟨T1286, h1286, L1286, X1286, e1286, W1286, B1286, N1286, Z1286, k1286⟩ := f_pF X1275 hx hZ hown (hww 297 rfl) Via.refl e1275 F1278 (snJR hw) (Or.inr ⟨(hww 298 rfl), rfl, hnm⟩) (hww 145 rfl) 1 (by decide) rfl rfl (ty := (.array .int)) (by decide) rfl rfl N1267 ge_a1 Z1282 k1285 (H 68 rfl) rfl
    have F1287 := F1279.other W1286 (nG Fk0.lt zbg)
    have F1288 := F1280.wr W1286 ge_a1
    have F1289 := F1281.other W1286 (nG F1042.lt Zx1255_0)
    have F1290 := V1284.other W1286 (nG F1268.lt (Nat.le_of_eq g1275.symm))
    have F1291 := Y1275.wr W1286
    have K1292 := kw K1283 W1286 0 rfl
    have k1293 := f_ic X1286 hx k1286 (H 69 rfl) (v := 0) rfl
    have k1294 := f_is X1286 hx k1293 (H 70 rfl) (l' := #[sr a1, sr ls, sr mp, sr b755, si 3, sr b1255, si 0]) rfl
    have k1295 := f_il X1286 hx k1294 (H 71 rfl) rfl
    have k1296 := f_il X1286 hx k1295 (H 72 rfl) rfl
    have k1297 := f_icN X1286 hx k1296 (H 73 rfl) (tlt (by decide)).2.1
    have k1298 := f_alN X1286 hx k1297 (H 75 rfl) rfl
    obtain ⟨T1299, X1299, e1299, k1300⟩ := gFs X1286 hx hZ hown (hww 297 rfl) e1286 (B1286.g 1 (v := (.ref b1275)) (by decide) rfl rfl) k1298 (H 76 rfl)
    have k1301 := f_il X1299 hx k1300 (H 77 rfl) rfl
    have k1302 := f_al X1299 hx k1301 (H 78 rfl) rfl
    have k1303 := f_il X1299 hx k1302 (H 79 rfl) rfl
    have k1304 := f_ic X1299 hx k1303 (H 80 rfl) (v := 1) rfl
    have k1305 := f_isub X1299 hx k1304 (H 81 rfl) (r := 2) (by decide)
    have k1306 := f_il X1299 hx k1305 (H 82 rfl) rfl
    have k1307 := f_isub X1299 hx k1306 (H 83 rfl) (r := 2) (by decide)
    have k1308 := f_ial X1299 hx hZ e1299 F1289 k1307 (H 84 rfl) (v := r21266) (by decide) rfl
    obtain ⟨T1309, h1309, L1309, X1309, e1309, W1309, V1309, N1309, Z1309, k1309⟩ := f_ist X1299 hx hZ e1299 F1290 N1286 g1276 Z1286 k1308 (H 85 rfl) (by decide) 0 rfl (lt_b rfl)
    have F1310 := F1287.other W1309 (nL F1269.lt (Nat.le_of_eq g1275.symm))
    have F1311 := F1288.wr W1309 g1276
    have F1312 := F1289.other W1309 (nL R1266_0.lt (Nat.le_of_eq g1275.symm))
    have F1313 := F1291.wr W1309
    have K1314 := K1292.wr W1309 (Or.inr z1277)
    have B1315 := B1286.other W1309 (nL F1268.lt (Nat.le_of_eq g1275.symm))
    have k1316 := f_inc X1309 hx k1309 (H 86 rfl) rfl (l' := #[sr a1, sr ls, sr mp, sr b755, si 3, sr b1255, si 1]) rfl
    have k1317 := f_go X1309 hx k1316 (H 87 rfl) (pc' := 165) (by decide)
    have k1318 := f_il X1309 hx k1317 (H 71 rfl) rfl
    have k1319 := f_il X1309 hx k1318 (H 72 rfl) rfl
    have k1320 := f_icN X1309 hx k1319 (H 73 rfl) (tlt (by decide)).2.1
    have k1321 := f_alN X1309 hx k1320 (H 75 rfl) rfl
    obtain ⟨T1322, X1322, e1322, k1323⟩ := gFs X1309 hx hZ hown (hww 297 rfl) e1309 (B1315.g 1 (v := (.ref b1275)) (by decide) rfl rfl) k1321 (H 76 rfl)
    have k1324 := f_il X1322 hx k1323 (H 77 rfl) rfl
    have k1325 := f_al X1322 hx k1324 (H 78 rfl) rfl
    have k1326 := f_il X1322 hx k1325 (H 79 rfl) rfl
    have k1327 := f_ic X1322 hx k1326 (H 80 rfl) (v := 1) rfl
    have k1328 := f_isub X1322 hx k1327 (H 81 rfl) (r := 2) (by decide)
    have k1329 := f_il X1322 hx k1328 (H 82 rfl) rfl
    have k1330 := f_isub X1322 hx k1329 (H 83 rfl) (r := 1) (by decide)
    have k1331 := f_ial X1322 hx hZ e1322 F1312 k1330 (H 84 rfl) (v := r11266) (by decide) rfl
    obtain ⟨T1332, h1332, L1332, X1332, e1332, W1332, V1332, N1332, Z1332, k1332⟩ := f_ist X1322 hx hZ e1322 V1309 N1309 g1276 Z1309 k1331 (H 85 rfl) (by decide) 1 rfl (lt_b rfl)
    have F1333 := F1310.other W1332 (nL F1269.lt (Nat.le_of_eq g1275.symm))
    have F1334 := F1311.wr W1332 g1276
    have F1335 := F1312.other W1332 (nL R1266_0.lt (Nat.le_of_eq g1275.symm))
    have F1336 := F1313.wr W1332
    have K1337 := K1314.wr W1332 (Or.inr z1277)
    have B1338 := B1315.other W1332 (nL F1268.lt (Nat.le_of_eq g1275.symm))
    have k1339 := f_inc X1332 hx k1332 (H 86 rfl) rfl (l' := #[sr a1, sr ls, sr mp, sr b755, si 3, sr b1255, si 2]) rfl
    have k1340 := f_go X1332 hx k1339 (H 87 rfl) (pc' := 165) (by decide)
    have k1341 := f_il X1332 hx k1340 (H 71 rfl) rfl
    have k1342 := f_il X1332 hx k1341 (H 72 rfl) rfl
    have k1343 := f_icN X1332 hx k1342 (H 73 rfl) (tlt (by decide)).2.1
    have k1344 := f_alN X1332 hx k1343 (H 75 rfl) rfl
    obtain ⟨T1345, X1345, e1345, k1346⟩ := gFs X1332 hx hZ hown (hww 297 rfl) e1332 (B1338.g 1 (v := (.ref b1275)) (by decide) rfl rfl) k1344 (H 76 rfl)
    have k1347 := f_il X1345 hx k1346 (H 77 rfl) rfl
    have k1348 := f_al X1345 hx k1347 (H 78 rfl) rfl
    have k1349 := f_il X1345 hx k1348 (H 79 rfl) rfl
    have k1350 := f_ic X1345 hx k1349 (H 80 rfl) (v := 1) rfl
    have k1351 := f_isub X1345 hx k1350 (H 81 rfl) (r := 2) (by decide)
    have k1352 := f_il X1345 hx k1351 (H 82 rfl) rfl
    have k1353 := f_isub X1345 hx k1352 (H 83 rfl) (r := 0) (by decide)
    have k1354 := f_ial X1345 hx hZ e1345 F1335 k1353 (H 84 rfl) (v := r01266) (by decide) rfl
    obtain ⟨T1355, h1355, L1355, X1355, e1355, W1355, V1355, N1355, Z1355, k1355⟩ := f_ist X1345 hx hZ e1345 V1332 N1332 g1276 Z1332 k1354 (H 85 rfl) (by decide) 2 rfl (lt_b rfl)
    have F1356 := F1333.other W1355 (nL F1269.lt (Nat.le_of_eq g1275.symm))
    have F1357 := F1334.wr W1355 g1276
    have F1358 := F1335.other W1355 (nL R1266_0.lt (Nat.le_of_eq g1275.symm))
    have F1359 := F1336.wr W1355
    have K1360 := K1337.wr W1355 (Or.inr z1277)
    have B1361 := B1338.other W1355 (nL F1268.lt (Nat.le_of_eq g1275.symm))
    have k1362 := f_inc X1355 hx k1355 (H 86 rfl) rfl (l' := #[sr a1, sr ls, sr mp, sr b755, si 3, sr b1255, si 3]) rfl
    have k1363 := f_go X1355 hx k1362 (H 87 rfl) (pc' := 165) (by decide)
    have k1364 := f_il X1355 hx k1363 (H 71 rfl) rfl
    have k1365 := f_il X1355 hx k1364 (H 72 rfl) rfl
    have k1366 := f_icY X1355 hx k1365 (H 73 rfl) (pc' := 195) (flt (by decide)).2.1 (by decide)
    exact fin_v X1355 hx hrt hlk k1366 (H 74 rfl) (by rw [e1355]; exact ⟨bg, kg, gl, g0, g1, g2, b1275, k1275, [(.int r21266), (.int r11266), (.int r01266)], (3 : Int32), rfl, N1355, K1360, B1361, F1356, V1355, hgl, hgv0, hgv1, hgv2, hcv3.trans (by rw [hcv2, hcv1, hcv0])⟩) (by decide) (by decide)
  · obtain ⟨_, T1367, L1367, X1367, hQ1367, k1367⟩ := c_S (W := 0) X1052 hx hZ hown (hww 273 rfl) (hww 274 rfl) (hww 275 rfl) (hww 276 rfl) (by decide) (cpo44 l Z a0 hw [] b755 k755 t30 t31 t32 t33 h991 n0 Zq991 F1044 F1045) e1052 (argsL := [(.ref b755), (.int (4 : Int32))]) (rest := []) rfl (by rw [hml]; rfl) k1056 rfl (H 61 rfl) (lenOf pd__28_5bII_29_5bI rfl) (b5 rfl)
    obtain ⟨h1367, e1367⟩ : ∃ h', T1367.heap = h' := ⟨_, rfl⟩
    rw [e1367] at hQ1367
    obtain ⟨b1367, kb1367, rfl, N1367q, K1367, Zx1367_0, R1367_0⟩ := hQ1367
    have N1368 := Fr.app N1053 N1367q
    have F1369 := F1042.keep K1367 nin0
    have F1370 := F1043.keep K1367 nin0
    have F1371 := F1044.keep K1367 nin0
    have F1372 := F1045.keep K1367
    have F1373 := F1049.keep K1367 all0
    have Z1374 : n0 ≤ h1367.size := Nat.le_trans Zq991 K1367.1
    have K1375 := Keep.trans F1048 K1367 all0
    have k1376 := f_as X1367 hx k1367 (H 62 rfl) (l' := #[sr a1, sr ls, sr mp, sr b755, si 4, sr b1367, si r3]) rfl
    have k1377 := f_al X1367 hx k1376 (H 63 rfl) rfl
    obtain ⟨_, T1378, L1378, X1378, hQ1378, k1378⟩ := c_S (W := 0) X1367 hx hZ hown (hww 284 rfl) (hww 285 rfl) (hww 275 rfl) (hww 286 rfl) (by decide) (srt4 l Z a0 hw [] b1367 kb1367 t30 t31 t32 t33 h1367 n0 Z1374 R1367_0 (Nat.le_trans Zq991 Zx1367_0)) e1367 (argsL := [(.ref b1367)]) (rest := []) rfl (by rw [hml]; rfl) k1377 rfl (H 64 rfl) (lenOf pd__28_5bI_29V rfl) (b5 rfl)
    obtain ⟨h1378, e1378⟩ : ∃ h', T1378.heap = h' := ⟨_, rfl⟩
    rw [e1378] at hQ1378
    obtain ⟨r01378, r11378, r21378, r31378, rfl, N1378q, K1378, R1378_0⟩ := hQ1378
    have N1379 := Fr.app N1368 N1378q
    have F1380 := F1369.keep K1378 (ninS (nL F1042.lt Zx1367_0) nin0)
    have F1381 := F1370.keep K1378 (ninS (nL F1043.lt Zx1367_0) nin0)
    have F1382 := F1373.keep K1378 (allS (Nat.le_trans Zq991 Zx1367_0) all0)
    have Z1383 : n0 ≤ h1378.size := Nat.le_trans Z1374 K1378.1
    have K1384 := Keep.trans K1375 K1378 (allS (Or.inr (Nat.le_trans F1048.1 Zx1367_0)) all0)
    have k1385 := f_alN X1378 hx k1378 (H 65 rfl) rfl
    have k1386 := f_il X1378 hx k1385 (H 66 rfl) rfl
    obtain ⟨T1387, h1387, k1387, X1387, e1387, E1387, A1387, Y1387, st1387⟩ := newPE X1378 hx hZ (hww 162 rfl) e1378 (g := (mkF m 157 #[sr a1, sr ls, sr mp, sr b755, si 4, sr b1367, si r3] [vI 4, vR a1])) rfl (H 67 rfl) rfl (by decide) (cap := 4) (by decide) (by decide) (by decide) (by decide) (ad := "[I") (by decide)
    obtain ⟨b1387, g1387⟩ : ∃ z, z = h1378.size := ⟨_, rfl⟩
    rw [← g1387] at A1387 Y1387 st1387
    have g1388 : n0 ≤ b1387 := Nat.le_trans Z1383 (Nat.le_of_eq g1387.symm)
    have z1389 : h0.size ≤ b1387 := Nat.le_trans K1384.1 (Nat.le_of_eq g1387.symm)
    have F1390 := F1380.ext E1387
    have F1391 := F1381.ext E1387
    have F1392 := F1382.ext E1387
    have F1393 := R1378_0.ext E1387
    have Z1394 : n0 ≤ h1387.size := Nat.le_trans Z1383 E1387.1
    have K1395 := K1384.ext E1387
    have V1396 : Arv Z h1387 b1387 k1387 .int (4 : Int32) [zI, zI, zI, zI] zI := (Arv.new A1387 (by decide)).pad (pad_rep [] zI 4)
    have k1397 : Rt p e below T1387 (mkF m 159 #[sr a1, sr ls, sr mp, sr b755, si 4, sr b1367, si r3] [vR b1387, vR a1]) s₁ m #[(.ref a1), (.ref ls), (.ref mp)] 7 := fun t k => k1386 t (st1387 t k)
    obtain ⟨T1398, h1398, L1398, X1398, e1398, W1398, B1398, N1398, Z1398, k1398⟩ := f_pF X1387 hx hZ hown (hww 297 rfl) Via.refl e1387 F1390 (snJR hw) (Or.inr ⟨(hww 298 rfl), rfl, hnm⟩) (hww 145 rfl) 1 (by decide) rfl rfl (ty := (.array .int)) (by decide) rfl rfl N1379 ge_a1 Z1394 k1397 (H 68 rfl) rfl
    have F1399 := F1391.other W1398 (nG Fk0.lt zbg)
    have F1400 := F1392.wr W1398 ge_a1
    have F1401 := F1393.other W1398 (nG F1042.lt Zx1367_0)
    have F1402 := V1396.other W1398 (nG F1380.lt (Nat.le_of_eq g1387.symm))
    have F1403 := Y1387.wr W1398
    have K1404 := kw K1395 W1398 0 rfl
    have k1405 := f_ic X1398 hx k1398 (H 69 rfl) (v := 0) rfl
    have k1406 := f_is X1398 hx k1405 (H 70 rfl) (l' := #[sr a1, sr ls, sr mp, sr b755, si 4, sr b1367, si 0]) rfl
    have k1407 := f_il X1398 hx k1406 (H 71 rfl) rfl
    have k1408 := f_il X1398 hx k1407 (H 72 rfl) rfl
    have k1409 := f_icN X1398 hx k1408 (H 73 rfl) (tlt (by decide)).2.1
    have k1410 := f_alN X1398 hx k1409 (H 75 rfl) rfl
    obtain ⟨T1411, X1411, e1411, k1412⟩ := gFs X1398 hx hZ hown (hww 297 rfl) e1398 (B1398.g 1 (v := (.ref b1387)) (by decide) rfl rfl) k1410 (H 76 rfl)
    have k1413 := f_il X1411 hx k1412 (H 77 rfl) rfl
    have k1414 := f_al X1411 hx k1413 (H 78 rfl) rfl
    have k1415 := f_il X1411 hx k1414 (H 79 rfl) rfl
    have k1416 := f_ic X1411 hx k1415 (H 80 rfl) (v := 1) rfl
    have k1417 := f_isub X1411 hx k1416 (H 81 rfl) (r := 3) (by decide)
    have k1418 := f_il X1411 hx k1417 (H 82 rfl) rfl
    have k1419 := f_isub X1411 hx k1418 (H 83 rfl) (r := 3) (by decide)
    have k1420 := f_ial X1411 hx hZ e1411 F1401 k1419 (H 84 rfl) (v := r31378) (by decide) rfl
    obtain ⟨T1421, h1421, L1421, X1421, e1421, W1421, V1421, N1421, Z1421, k1421⟩ := f_ist X1411 hx hZ e1411 F1402 N1398 g1388 Z1398 k1420 (H 85 rfl) (by decide) 0 rfl (lt_b rfl)
    have F1422 := F1399.other W1421 (nL F1381.lt (Nat.le_of_eq g1387.symm))
    have F1423 := F1400.wr W1421 g1388
    have F1424 := F1401.other W1421 (nL R1378_0.lt (Nat.le_of_eq g1387.symm))
    have F1425 := F1403.wr W1421
    have K1426 := K1404.wr W1421 (Or.inr z1389)
    have B1427 := B1398.other W1421 (nL F1380.lt (Nat.le_of_eq g1387.symm))
    have k1428 := f_inc X1421 hx k1421 (H 86 rfl) rfl (l' := #[sr a1, sr ls, sr mp, sr b755, si 4, sr b1367, si 1]) rfl
    have k1429 := f_go X1421 hx k1428 (H 87 rfl) (pc' := 165) (by decide)
    have k1430 := f_il X1421 hx k1429 (H 71 rfl) rfl
    have k1431 := f_il X1421 hx k1430 (H 72 rfl) rfl
    have k1432 := f_icN X1421 hx k1431 (H 73 rfl) (tlt (by decide)).2.1
    have k1433 := f_alN X1421 hx k1432 (H 75 rfl) rfl
    obtain ⟨T1434, X1434, e1434, k1435⟩ := gFs X1421 hx hZ hown (hww 297 rfl) e1421 (B1427.g 1 (v := (.ref b1387)) (by decide) rfl rfl) k1433 (H 76 rfl)
    have k1436 := f_il X1434 hx k1435 (H 77 rfl) rfl
    have k1437 := f_al X1434 hx k1436 (H 78 rfl) rfl
    have k1438 := f_il X1434 hx k1437 (H 79 rfl) rfl
    have k1439 := f_ic X1434 hx k1438 (H 80 rfl) (v := 1) rfl
    have k1440 := f_isub X1434 hx k1439 (H 81 rfl) (r := 3) (by decide)
    have k1441 := f_il X1434 hx k1440 (H 82 rfl) rfl
    have k1442 := f_isub X1434 hx k1441 (H 83 rfl) (r := 2) (by decide)
    have k1443 := f_ial X1434 hx hZ e1434 F1424 k1442 (H 84 rfl) (v := r21378) (by decide) rfl
    obtain ⟨T1444, h1444, L1444, X1444, e1444, W1444, V1444, N1444, Z1444, k1444⟩ := f_ist X1434 hx hZ e1434 V1421 N1421 g1388 Z1421 k1443 (H 85 rfl) (by decide) 1 rfl (lt_b rfl)
    have F1445 := F1422.other W1444 (nL F1381.lt (Nat.le_of_eq g1387.symm))
    have F1446 := F1423.wr W1444 g1388
    have F1447 := F1424.other W1444 (nL R1378_0.lt (Nat.le_of_eq g1387.symm))
    have F1448 := F1425.wr W1444
    have K1449 := K1426.wr W1444 (Or.inr z1389)
    have B1450 := B1427.other W1444 (nL F1380.lt (Nat.le_of_eq g1387.symm))
    have k1451 := f_inc X1444 hx k1444 (H 86 rfl) rfl (l' := #[sr a1, sr ls, sr mp, sr b755, si 4, sr b1367, si 2]) rfl
    have k1452 := f_go X1444 hx k1451 (H 87 rfl) (pc' := 165) (by decide)
    have k1453 := f_il X1444 hx k1452 (H 71 rfl) rfl
    have k1454 := f_il X1444 hx k1453 (H 72 rfl) rfl
    have k1455 := f_icN X1444 hx k1454 (H 73 rfl) (tlt (by decide)).2.1
    have k1456 := f_alN X1444 hx k1455 (H 75 rfl) rfl
    obtain ⟨T1457, X1457, e1457, k1458⟩ := gFs X1444 hx hZ hown (hww 297 rfl) e1444 (B1450.g 1 (v := (.ref b1387)) (by decide) rfl rfl) k1456 (H 76 rfl)
    have k1459 := f_il X1457 hx k1458 (H 77 rfl) rfl
    have k1460 := f_al X1457 hx k1459 (H 78 rfl) rfl
    have k1461 := f_il X1457 hx k1460 (H 79 rfl) rfl
    have k1462 := f_ic X1457 hx k1461 (H 80 rfl) (v := 1) rfl
    have k1463 := f_isub X1457 hx k1462 (H 81 rfl) (r := 3) (by decide)
    have k1464 := f_il X1457 hx k1463 (H 82 rfl) rfl
    have k1465 := f_isub X1457 hx k1464 (H 83 rfl) (r := 1) (by decide)
    have k1466 := f_ial X1457 hx hZ e1457 F1447 k1465 (H 84 rfl) (v := r11378) (by decide) rfl
    obtain ⟨T1467, h1467, L1467, X1467, e1467, W1467, V1467, N1467, Z1467, k1467⟩ := f_ist X1457 hx hZ e1457 V1444 N1444 g1388 Z1444 k1466 (H 85 rfl) (by decide) 2 rfl (lt_b rfl)
    have F1468 := F1445.other W1467 (nL F1381.lt (Nat.le_of_eq g1387.symm))
    have F1469 := F1446.wr W1467 g1388
    have F1470 := F1447.other W1467 (nL R1378_0.lt (Nat.le_of_eq g1387.symm))
    have F1471 := F1448.wr W1467
    have K1472 := K1449.wr W1467 (Or.inr z1389)
    have B1473 := B1450.other W1467 (nL F1380.lt (Nat.le_of_eq g1387.symm))
    have k1474 := f_inc X1467 hx k1467 (H 86 rfl) rfl (l' := #[sr a1, sr ls, sr mp, sr b755, si 4, sr b1367, si 3]) rfl
    have k1475 := f_go X1467 hx k1474 (H 87 rfl) (pc' := 165) (by decide)
    have k1476 := f_il X1467 hx k1475 (H 71 rfl) rfl
    have k1477 := f_il X1467 hx k1476 (H 72 rfl) rfl
    have k1478 := f_icN X1467 hx k1477 (H 73 rfl) (tlt (by decide)).2.1
    have k1479 := f_alN X1467 hx k1478 (H 75 rfl) rfl
    obtain ⟨T1480, X1480, e1480, k1481⟩ := gFs X1467 hx hZ hown (hww 297 rfl) e1467 (B1473.g 1 (v := (.ref b1387)) (by decide) rfl rfl) k1479 (H 76 rfl)
    have k1482 := f_il X1480 hx k1481 (H 77 rfl) rfl
    have k1483 := f_al X1480 hx k1482 (H 78 rfl) rfl
    have k1484 := f_il X1480 hx k1483 (H 79 rfl) rfl
    have k1485 := f_ic X1480 hx k1484 (H 80 rfl) (v := 1) rfl
    have k1486 := f_isub X1480 hx k1485 (H 81 rfl) (r := 3) (by decide)
    have k1487 := f_il X1480 hx k1486 (H 82 rfl) rfl
    have k1488 := f_isub X1480 hx k1487 (H 83 rfl) (r := 0) (by decide)
    have k1489 := f_ial X1480 hx hZ e1480 F1470 k1488 (H 84 rfl) (v := r01378) (by decide) rfl
    obtain ⟨T1490, h1490, L1490, X1490, e1490, W1490, V1490, N1490, Z1490, k1490⟩ := f_ist X1480 hx hZ e1480 V1467 N1467 g1388 Z1467 k1489 (H 85 rfl) (by decide) 3 rfl (lt_b rfl)
    have F1491 := F1468.other W1490 (nL F1381.lt (Nat.le_of_eq g1387.symm))
    have F1492 := F1469.wr W1490 g1388
    have F1493 := F1470.other W1490 (nL R1378_0.lt (Nat.le_of_eq g1387.symm))
    have F1494 := F1471.wr W1490
    have K1495 := K1472.wr W1490 (Or.inr z1389)
    have B1496 := B1473.other W1490 (nL F1380.lt (Nat.le_of_eq g1387.symm))
    have k1497 := f_inc X1490 hx k1490 (H 86 rfl) rfl (l' := #[sr a1, sr ls, sr mp, sr b755, si 4, sr b1367, si 4]) rfl
    have k1498 := f_go X1490 hx k1497 (H 87 rfl) (pc' := 165) (by decide)
    have k1499 := f_il X1490 hx k1498 (H 71 rfl) rfl
    have k1500 := f_il X1490 hx k1499 (H 72 rfl) rfl
    have k1501 := f_icY X1490 hx k1500 (H 73 rfl) (pc' := 195) (flt (by decide)).2.1 (by decide)
    exact fin_v X1490 hx hrt hlk k1501 (H 74 rfl) (by rw [e1490]; exact ⟨bg, kg, gl, g0, g1, g2, b1387, k1387, [(.int r31378), (.int r21378), (.int r11378), (.int r01378)], (4 : Int32), rfl, N1490, K1495, B1496, F1491, V1490, hgl, hgv0, hgv1, hgv2, hcv3.trans (by rw [hcv2, hcv1, hcv0])⟩) (by decide) (by decide)
theorem ef_43_R (m : MethodId) (x0 : Addr) : entryFrame m #[(.ref x0)] 1 = mkF m 0 #[.val (.ref x0)] [] := by first | (simp [entryFrame, mkF, argsToLocals, Value.category]; done) | rfl
def Q_rel (Z : State) (a1 bi : Addr) (ki : ClassId) (cn : Int32) (il : List Value) (h0 : Heap) (n0 : Nat) (v : Option Value) (h : Heap) (L : List Loc) : Prop := v = some (.int cn) ∧ Fr n0 L ∧ h = h0
theorem rel (l : Launch) (Z : State) (a0 : Array Value) (hw : HW Z a0) (ws : List Jvm.Cond) (a1 bi : Addr) (ki : ClassId) (cn : Int32) (il : List Value) (h0 : Heap) (n0 : Nat) (Z0 : n0 ≤ h0.size) (Fk0 : Fld Z h0 a1 "com/example/multinomial/multinomial/eval/JudgedRanking" "idealGains" "[I" (.ref bi)) (Fk1 : Arv Z h0 bi ki .int cn il zI) :
    Met l mn67 prog_10_method_3_code 1 (some .int) ws (rm 0 0 0 0) #[(.ref a1)] Z h0 (Q_rel Z a1 bi ki cn il h0 n0) := by
  refine Met.intro (plainFor_of_name pn_com_2fexample_2fmultinomial_2fmultinomial_2feval_2fJudgedRanking) ?_
  intro p e s m below meth c s₁ hx hby hml hZ hown hnm hrt hlk X0 e0
  have N0 := Fr.nil n0
  have hww := @hvw _ _ hw
  have k0 := k_e (p := p) (e := e) (below := below) (s := s₁) (ef_43_R m a1)
  have H := @dch _ _ _ hby D43
  have k101 := f_alN X0 hx k0 (H 0 rfl) rfl
  obtain ⟨T102, X102, e102, k103⟩ := gFs X0 hx hZ hown (hww 297 rfl) e0 Fk0 k101 (H 1 rfl)
  have k104 := f_len X102 hx hZ e102 Fk1 k103 (H 2 rfl)
  exact fin_r X102 hx (w := (.int cn)) hrt hlk rfl (Or.inl ⟨rfl, Or.inl rfl, _, rfl⟩) k104 (H 3 rfl) (by rw [e102]; exact ⟨rfl, N0, rfl⟩) (by decide) (by decide)
theorem ef_42_R (m : MethodId) (x0 : Addr) : entryFrame m #[(.ref x0)] 5 = mkF m 0 #[.val (.ref x0), .unset, .unset, .unset, .unset] [] := by first | (simp [entryFrame, mkF, argsToLocals, Value.category]; done) | rfl
def Q_avp (Z : State) (a1 : Addr) (nn : Int32) (bg : Addr) (kg : ClassId) (gl : List Value) (g0 g1 g2 : Int32) (bi : Addr) (ki : ClassId) (cn : Int32) (il : List Value) (h0 : Heap) (n0 : Nat) (v : Option Value) (h : Heap) (L : List Loc) : Prop := ∃ u : UInt64, v = some (.double u) ∧ Fr n0 L ∧ h = h0 ∧ u = own_res (decide ((0 : Int32) < nn ∧ (0 : Int32) < g0)) (decide ((1 : Int32) < nn ∧ (0 : Int32) < g1)) (decide ((2 : Int32) < nn ∧ (0 : Int32) < g2)) cn
theorem avp (l : Launch) (Z : State) (a0 : Array Value) (hw : HW Z a0) (ws : List Jvm.Cond) (a1 : Addr) (nn : Int32) (bg : Addr) (kg : ClassId) (gl : List Value) (g0 g1 g2 : Int32) (bi : Addr) (ki : ClassId) (cn : Int32) (il : List Value) (h0 : Heap) (n0 : Nat) (Z0 : n0 ≤ h0.size) (Fk0 : OBJ Z h0 a1 "com/example/multinomial/multinomial/eval/JudgedRanking" lyJR [(.ref bg), (.ref bi)]) (Fk1 : Arv Z h0 bi ki .int cn il zI) (Fk2 : Arv Z h0 bg kg .int nn gl zI) (hgl : (nn = (0 : Int32) ∧ gl = []) ∨ (nn = (1 : Int32) ∧ gl = [(.int g0)]) ∨ (nn = (2 : Int32) ∧ gl = [(.int g0), (.int g1)]) ∨ (nn = (3 : Int32) ∧ gl = [(.int g0), (.int g1), (.int g2)])) :
    Met l mn68 prog_10_method_5_code 5 (some .double) ws (rm 1 0 0 14) #[(.ref a1)] Z h0 (Q_avp Z a1 nn bg kg gl g0 g1 g2 bi ki cn il h0 n0) := by
  refine Met.intro (plainFor_of_name pn_com_2fexample_2fmultinomial_2fmultinomial_2feval_2fJudgedRanking) ?_
  intro p e s m below meth c s₁ hx hby hml hZ hown hnm hrt hlk X0 e0
  have N0 := Fr.nil n0
  have hww := @hvw _ _ hw
  have k0 := k_e (p := p) (e := e) (below := below) (s := s₁) (ef_42_R m a1)
  have H := @dch _ _ _ hby D42
  rcases hgl with ⟨rfl, rfl⟩ | ⟨rfl, rfl⟩ | ⟨rfl, rfl⟩ | ⟨rfl, rfl⟩
  · have k101 := f_d0 X0 hx k0 (H 0 rfl)
    have k102 := f_dsN X0 hx k101 (H 1 rfl) (l' := #[sr a1, sd 0, se, un, un]) rfl
    have k103 := f_ic X0 hx k102 (H 2 rfl) (v := 0) rfl
    have k104 := f_isN X0 hx k103 (H 3 rfl) (l' := #[sr a1, sd 0, se, si 0, un]) rfl
    have k105 := f_ic X0 hx k104 (H 4 rfl) (v := 0) rfl
    have k106 := f_is X0 hx k105 (H 5 rfl) (l' := #[sr a1, sd 0, se, si 0, si 0]) rfl
    have k107 := f_il X0 hx k106 (H 6 rfl) rfl
    have k108 := f_alN X0 hx k107 (H 7 rfl) rfl
    obtain ⟨T109, X109, e109, k110⟩ := gFs X0 hx hZ hown (hww 163 rfl) e0 (Fk0.g 0 (v := (.ref bg)) (by decide) rfl rfl) k108 (H 8 rfl)
    have k111 := f_len X109 hx hZ e109 Fk2 k110 (H 9 rfl)
    have k112 := f_icY X109 hx k111 (H 10 rfl) (pc' := 47) (flt (by decide)).2.1 (by decide)
    have k113 := f_alN X109 hx k112 (H 11 rfl) rfl
    obtain ⟨_, T114, L114, X114, hQ114, k114⟩ := c_V (W := 0) (x := mn67) X109 hx hZ hown (hww 304 rfl) (hww 305 rfl) (notFace_of_selects (args := #[]) (mvT hZ (hww 307 rfl))) (hww 307 rfl) (hww 306 rfl) (hww 308 rfl) (hww 146 rfl) (by decide) Fk0.1 (rel l Z a0 hw [] a1 bi ki cn il h0 n0 Z0 (Fk0.g 1 (v := (.ref bi)) (by decide) rfl rfl) Fk1) e109 (argsL := []) (rest := []) rfl (by rw [hml]; rfl) k113 rfl (H 12 rfl) (lenOf pd__28_29I rfl) (b5 rfl)
    obtain ⟨rfl, N114q, e114⟩ := hQ114
    have N115 := Fr.app N0 N114q
    by_cases qc : cn = (0 : Int32)
    · have k116 := f_ifN X114 hx k114 (H 13 rfl) ((if0 _ _).trans (teq qc).2)
      have k117 := f_d0 X114 hx k116 (H 14 rfl)
      have k118 := f_go X114 hx k117 (H 15 rfl) (pc' := 65) (by decide)
      exact fin_r X114 hx (w := (.double (0 : UInt64))) hrt hlk rfl (Or.inr (Or.inr (Or.inl ⟨rfl, rfl, _, rfl⟩))) k118 (H 16 rfl) (by rw [e114]; exact ⟨(0 : UInt64), rfl, N115, rfl, own_r0 qc⟩) (by decide) (by decide)
    · have k119 := f_ifY X114 hx k114 (H 13 rfl) (pc' := 58) ((if0 _ _).trans (feq qc).2) (by decide)
      have k120 := f_dlN X114 hx k119 (H 17 rfl) rfl
      have k121 := f_alN X114 hx k120 (H 18 rfl) rfl
      obtain ⟨_, T122, L122, X122, hQ122, k122⟩ := c_V (W := 2) (x := mn67) X114 hx hZ hown (hww 304 rfl) (hww 305 rfl) (notFace_of_selects (args := #[]) (mvT hZ (hww 307 rfl))) (hww 307 rfl) (hww 306 rfl) (hww 308 rfl) (hww 146 rfl) (by decide) Fk0.1 (rel l Z a0 hw [] a1 bi ki cn il h0 n0 Z0 (Fk0.g 1 (v := (.ref bi)) (by decide) rfl rfl) Fk1) e114 (argsL := []) (rest := [(.double (0 : UInt64))]) rfl (by rw [hml]; rfl) k121 rfl (H 19 rfl) (lenOf pd__28_29I rfl) (b5 rfl)
      obtain ⟨rfl, N122q, e122⟩ := hQ122
      have N123 := Fr.app N115 N122q
      have k124 := f_i2d X122 hx k122 (H 20 rfl)
      have k125 := f_ddiv X122 hx k124 (H 21 rfl) (own_rn own_z0 qc)
      exact fin_r X122 hx (w := (.double (FP.ddiv (0 : UInt64) (FP.i2d cn)))) hrt hlk rfl (Or.inr (Or.inr (Or.inl ⟨rfl, rfl, _, rfl⟩))) k125 (H 16 rfl) (by rw [e122]; exact ⟨(FP.ddiv (0 : UInt64) (FP.i2d cn)), rfl, N123, rfl, own_ra qc⟩) (by decide) (by decide)
  · have k126 := f_d0 X0 hx k0 (H 0 rfl)
    have k127 := f_dsN X0 hx k126 (H 1 rfl) (l' := #[sr a1, sd 0, se, un, un]) rfl
    have k128 := f_ic X0 hx k127 (H 2 rfl) (v := 0) rfl
    have k129 := f_isN X0 hx k128 (H 3 rfl) (l' := #[sr a1, sd 0, se, si 0, un]) rfl
    have k130 := f_ic X0 hx k129 (H 4 rfl) (v := 0) rfl
    have k131 := f_is X0 hx k130 (H 5 rfl) (l' := #[sr a1, sd 0, se, si 0, si 0]) rfl
    have k132 := f_il X0 hx k131 (H 6 rfl) rfl
    have k133 := f_alN X0 hx k132 (H 7 rfl) rfl
    obtain ⟨T134, X134, e134, k135⟩ := gFs X0 hx hZ hown (hww 163 rfl) e0 (Fk0.g 0 (v := (.ref bg)) (by decide) rfl rfl) k133 (H 8 rfl)
    have k136 := f_len X134 hx hZ e134 Fk2 k135 (H 9 rfl)
    have k137 := f_icN X134 hx k136 (H 10 rfl) (tlt (by decide)).2.1
    have k138 := f_alN X134 hx k137 (H 22 rfl) rfl
    obtain ⟨T139, X139, e139, k140⟩ := gFs X134 hx hZ hown (hww 163 rfl) e134 (Fk0.g 0 (v := (.ref bg)) (by decide) rfl rfl) k138 (H 23 rfl)
    have k141 := f_il X139 hx k140 (H 24 rfl) rfl
    have k142 := f_ial X139 hx hZ e139 Fk2 k141 (H 25 rfl) (v := g0) (by decide) rfl
    obtain ⟨T143, h143, Ls143, sm0, cc0, X143, e143, N143, Zq143, F157, F158, F159, F160, hs0, hn0, kq143⟩ : ∃ (T143 : State) (h143 : Heap) (Ls143 : List Loc) (sm0 : UInt64) (cc0 : Int32), Stand p l e (rm 1 0 0 14) s m #[(.ref a1)] below meth c T143 Ls143 0 0 ∧ T143.heap = h143 ∧ Fr n0 Ls143 ∧ n0 ≤ h143.size ∧ OBJ Z h143 a1 "com/example/multinomial/multinomial/eval/JudgedRanking" lyJR [(.ref bg), (.ref bi)] ∧ Arv Z h143 bi ki .int cn il zI ∧ Arv Z h143 bg kg .int (1 : Int32) [(.int g0)] zI ∧ h143 = h0 ∧ ((sm0, cc0) = own_st (decide ((0 : Int32) < g0)) ((0 : UInt64), (0 : Int32)) (FP.i2d (1 : Int32))) ∧ (Jvm.Free.Fl.NoNaN64 sm0) ∧ (Rt p e below T143 (mkF m 41 #[sr a1, sd sm0, se, si cc0, si 0] []) s₁ m #[(.ref a1)] 5) := by
      by_cases qg : (0 : Int32) < g0
      · have k144 := f_ifN X139 hx k142 (H 26 rfl) ((if0 _ _).trans (tlt qg).2.2.2)
        have k145 := f_inc X139 hx k144 (H 27 rfl) rfl (l' := #[sr a1, sd 0, se, si 1, si 0]) rfl
        have k146 := f_dlN X139 hx k145 (H 28 rfl) rfl
        have k147 := f_ilN X139 hx k146 (H 29 rfl) rfl
        have k148 := f_i2d X139 hx k147 (H 30 rfl)
        have k149 := f_il X139 hx k148 (H 31 rfl) rfl
        have k150 := f_ic X139 hx k149 (H 32 rfl) (v := 1) rfl
        have k151 := f_iadd X139 hx k150 (H 33 rfl) (r := 1) (by decide)
        have k152 := f_i2d X139 hx k151 (H 34 rfl)
        have k153 := f_ddiv X139 hx k152 (H 35 rfl) own_qn
        have k154 := f_dadd X139 hx k153 (H 36 rfl) (own_sn own_z0)
        have k155 := f_dsN X139 hx k154 (H 37 rfl) (l' := #[sr a1, sd (FP.dadd (0 : UInt64) (FP.ddiv (FP.i2d (1 : Int32)) (FP.i2d (1 : Int32)))), se, si 1, si 0]) rfl
        exact ⟨T139, h0, _, (FP.dadd (0 : UInt64) (FP.ddiv (FP.i2d (1 : Int32)) (FP.i2d (1 : Int32)))), (1 : Int32), X139, e139, N0, Z0, Fk0, Fk1, Fk2, rfl, (own_sp1 qg), (own_sn own_z0), k155⟩
      · have k156 := f_ifY X139 hx k142 (H 26 rfl) (pc' := 41) ((if0 _ _).trans (flt qg).2.2.2) (by decide)
        exact ⟨T139, h0, _, (0 : UInt64), (0 : Int32), X139, e139, N0, Z0, Fk0, Fk1, Fk2, rfl, (own_st0 (s := (0 : UInt64)) (c := (0 : Int32)) qg), own_z0, k156⟩
    have k161 := f_inc X143 hx kq143 (H 38 rfl) rfl (l' := #[sr a1, sd sm0, se, si cc0, si 1]) rfl
    have k162 := f_go X143 hx k161 (H 39 rfl) (pc' := 7) (by decide)
    have k163 := f_il X143 hx k162 (H 6 rfl) rfl
    have k164 := f_alN X143 hx k163 (H 7 rfl) rfl
    obtain ⟨T165, X165, e165, k166⟩ := gFs X143 hx hZ hown (hww 163 rfl) e143 (F157.g 0 (v := (.ref bg)) (by decide) rfl rfl) k164 (H 8 rfl)
    have k167 := f_len X165 hx hZ e165 F159 k166 (H 9 rfl)
    have k168 := f_icY X165 hx k167 (H 10 rfl) (pc' := 47) (flt (by decide)).2.1 (by decide)
    have k169 := f_alN X165 hx k168 (H 11 rfl) rfl
    obtain ⟨_, T170, L170, X170, hQ170, k170⟩ := c_V (W := 0) (x := mn67) X165 hx hZ hown (hww 304 rfl) (hww 305 rfl) (notFace_of_selects (args := #[]) (mvT hZ (hww 307 rfl))) (hww 307 rfl) (hww 306 rfl) (hww 308 rfl) (hww 146 rfl) (by decide) F157.1 (rel l Z a0 hw [] a1 bi ki cn il h143 n0 Zq143 (F157.g 1 (v := (.ref bi)) (by decide) rfl rfl) F158) e165 (argsL := []) (rest := []) rfl (by rw [hml]; rfl) k169 rfl (H 12 rfl) (lenOf pd__28_29I rfl) (b5 rfl)
    obtain ⟨rfl, N170q, e170⟩ := hQ170
    have N171 := Fr.app N143 N170q
    by_cases qc : cn = (0 : Int32)
    · have k172 := f_ifN X170 hx k170 (H 13 rfl) ((if0 _ _).trans (teq qc).2)
      have k173 := f_d0 X170 hx k172 (H 14 rfl)
      have k174 := f_go X170 hx k173 (H 15 rfl) (pc' := 65) (by decide)
      exact fin_r X170 hx (w := (.double (0 : UInt64))) hrt hlk rfl (Or.inr (Or.inr (Or.inl ⟨rfl, rfl, _, rfl⟩))) k174 (H 16 rfl) (by rw [e170]; exact ⟨(0 : UInt64), rfl, N171, F160, own_r0 qc⟩) (by decide) (by decide)
    · have k175 := f_ifY X170 hx k170 (H 13 rfl) (pc' := 58) ((if0 _ _).trans (feq qc).2) (by decide)
      have k176 := f_dlN X170 hx k175 (H 17 rfl) rfl
      have k177 := f_alN X170 hx k176 (H 18 rfl) rfl
      obtain ⟨_, T178, L178, X178, hQ178, k178⟩ := c_V (W := 2) (x := mn67) X170 hx hZ hown (hww 304 rfl) (hww 305 rfl) (notFace_of_selects (args := #[]) (mvT hZ (hww 307 rfl))) (hww 307 rfl) (hww 306 rfl) (hww 308 rfl) (hww 146 rfl) (by decide) F157.1 (rel l Z a0 hw [] a1 bi ki cn il h143 n0 Zq143 (F157.g 1 (v := (.ref bi)) (by decide) rfl rfl) F158) e170 (argsL := []) (rest := [(.double sm0)]) rfl (by rw [hml]; rfl) k177 rfl (H 19 rfl) (lenOf pd__28_29I rfl) (b5 rfl)
      obtain ⟨rfl, N178q, e178⟩ := hQ178
      have N179 := Fr.app N171 N178q
      have k180 := f_i2d X178 hx k178 (H 20 rfl)
      have k181 := f_ddiv X178 hx k180 (H 21 rfl) (own_rn hn0 qc)
      exact fin_r X178 hx (w := (.double (FP.ddiv sm0 (FP.i2d cn)))) hrt hlk rfl (Or.inr (Or.inr (Or.inl ⟨rfl, rfl, _, rfl⟩))) k181 (H 16 rfl) (by rw [e178]; exact ⟨(FP.ddiv sm0 (FP.i2d cn)), rfl, N179, F160, own_rb qc hs0⟩) (by decide) (by decide)
  · have k182 := f_d0 X0 hx k0 (H 0 rfl)
    have k183 := f_dsN X0 hx k182 (H 1 rfl) (l' := #[sr a1, sd 0, se, un, un]) rfl
    have k184 := f_ic X0 hx k183 (H 2 rfl) (v := 0) rfl
    have k185 := f_isN X0 hx k184 (H 3 rfl) (l' := #[sr a1, sd 0, se, si 0, un]) rfl
    have k186 := f_ic X0 hx k185 (H 4 rfl) (v := 0) rfl
    have k187 := f_is X0 hx k186 (H 5 rfl) (l' := #[sr a1, sd 0, se, si 0, si 0]) rfl
    have k188 := f_il X0 hx k187 (H 6 rfl) rfl
    have k189 := f_alN X0 hx k188 (H 7 rfl) rfl
    obtain ⟨T190, X190, e190, k191⟩ := gFs X0 hx hZ hown (hww 163 rfl) e0 (Fk0.g 0 (v := (.ref bg)) (by decide) rfl rfl) k189 (H 8 rfl)
    have k192 := f_len X190 hx hZ e190 Fk2 k191 (H 9 rfl)
    have k193 := f_icN X190 hx k192 (H 10 rfl) (tlt (by decide)).2.1
    have k194 := f_alN X190 hx k193 (H 22 rfl) rfl
    obtain ⟨T195, X195, e195, k196⟩ := gFs X190 hx hZ hown (hww 163 rfl) e190 (Fk0.g 0 (v := (.ref bg)) (by decide) rfl rfl) k194 (H 23 rfl)
    have k197 := f_il X195 hx k196 (H 24 rfl) rfl
    have k198 := f_ial X195 hx hZ e195 Fk2 k197 (H 25 rfl) (v := g0) (by decide) rfl
    obtain ⟨T199, h199, Ls199, sm0, cc0, X199, e199, N199, Zq199, F213, F214, F215, F216, hs0, hn0, kq199⟩ : ∃ (T199 : State) (h199 : Heap) (Ls199 : List Loc) (sm0 : UInt64) (cc0 : Int32), Stand p l e (rm 1 0 0 14) s m #[(.ref a1)] below meth c T199 Ls199 0 0 ∧ T199.heap = h199 ∧ Fr n0 Ls199 ∧ n0 ≤ h199.size ∧ OBJ Z h199 a1 "com/example/multinomial/multinomial/eval/JudgedRanking" lyJR [(.ref bg), (.ref bi)] ∧ Arv Z h199 bi ki .int cn il zI ∧ Arv Z h199 bg kg .int (2 : Int32) [(.int g0), (.int g1)] zI ∧ h199 = h0 ∧ ((sm0, cc0) = own_st (decide ((0 : Int32) < g0)) ((0 : UInt64), (0 : Int32)) (FP.i2d (1 : Int32))) ∧ (Jvm.Free.Fl.NoNaN64 sm0) ∧ (Rt p e below T199 (mkF m 41 #[sr a1, sd sm0, se, si cc0, si 0] []) s₁ m #[(.ref a1)] 5) := by
      by_cases qg : (0 : Int32) < g0
      · have k200 := f_ifN X195 hx k198 (H 26 rfl) ((if0 _ _).trans (tlt qg).2.2.2)
        have k201 := f_inc X195 hx k200 (H 27 rfl) rfl (l' := #[sr a1, sd 0, se, si 1, si 0]) rfl
        have k202 := f_dlN X195 hx k201 (H 28 rfl) rfl
        have k203 := f_ilN X195 hx k202 (H 29 rfl) rfl
        have k204 := f_i2d X195 hx k203 (H 30 rfl)
        have k205 := f_il X195 hx k204 (H 31 rfl) rfl
        have k206 := f_ic X195 hx k205 (H 32 rfl) (v := 1) rfl
        have k207 := f_iadd X195 hx k206 (H 33 rfl) (r := 1) (by decide)
        have k208 := f_i2d X195 hx k207 (H 34 rfl)
        have k209 := f_ddiv X195 hx k208 (H 35 rfl) own_qn
        have k210 := f_dadd X195 hx k209 (H 36 rfl) (own_sn own_z0)
        have k211 := f_dsN X195 hx k210 (H 37 rfl) (l' := #[sr a1, sd (FP.dadd (0 : UInt64) (FP.ddiv (FP.i2d (1 : Int32)) (FP.i2d (1 : Int32)))), se, si 1, si 0]) rfl
        exact ⟨T195, h0, _, (FP.dadd (0 : UInt64) (FP.ddiv (FP.i2d (1 : Int32)) (FP.i2d (1 : Int32)))), (1 : Int32), X195, e195, N0, Z0, Fk0, Fk1, Fk2, rfl, (own_sp1 qg), (own_sn own_z0), k211⟩
      · have k212 := f_ifY X195 hx k198 (H 26 rfl) (pc' := 41) ((if0 _ _).trans (flt qg).2.2.2) (by decide)
        exact ⟨T195, h0, _, (0 : UInt64), (0 : Int32), X195, e195, N0, Z0, Fk0, Fk1, Fk2, rfl, (own_st0 (s := (0 : UInt64)) (c := (0 : Int32)) qg), own_z0, k212⟩
    have k217 := f_inc X199 hx kq199 (H 38 rfl) rfl (l' := #[sr a1, sd sm0, se, si cc0, si 1]) rfl
    have k218 := f_go X199 hx k217 (H 39 rfl) (pc' := 7) (by decide)
    have k219 := f_il X199 hx k218 (H 6 rfl) rfl
    have k220 := f_alN X199 hx k219 (H 7 rfl) rfl
    obtain ⟨T221, X221, e221, k222⟩ := gFs X199 hx hZ hown (hww 163 rfl) e199 (F213.g 0 (v := (.ref bg)) (by decide) rfl rfl) k220 (H 8 rfl)
    have k223 := f_len X221 hx hZ e221 F215 k222 (H 9 rfl)
    have k224 := f_icN X221 hx k223 (H 10 rfl) (tlt (by decide)).2.1
    have k225 := f_alN X221 hx k224 (H 22 rfl) rfl
    obtain ⟨T226, X226, e226, k227⟩ := gFs X221 hx hZ hown (hww 163 rfl) e221 (F213.g 0 (v := (.ref bg)) (by decide) rfl rfl) k225 (H 23 rfl)
    have k228 := f_il X226 hx k227 (H 24 rfl) rfl
    have k229 := f_ial X226 hx hZ e226 F215 k228 (H 25 rfl) (v := g1) (by decide) rfl
    obtain ⟨T230, h230, Ls230, sm1, cc1, X230, e230, N230, Zq230, F244, F245, F246, F247, hs1, hn1, kq230⟩ : ∃ (T230 : State) (h230 : Heap) (Ls230 : List Loc) (sm1 : UInt64) (cc1 : Int32), Stand p l e (rm 1 0 0 14) s m #[(.ref a1)] below meth c T230 Ls230 0 0 ∧ T230.heap = h230 ∧ Fr n0 Ls230 ∧ n0 ≤ h230.size ∧ OBJ Z h230 a1 "com/example/multinomial/multinomial/eval/JudgedRanking" lyJR [(.ref bg), (.ref bi)] ∧ Arv Z h230 bi ki .int cn il zI ∧ Arv Z h230 bg kg .int (2 : Int32) [(.int g0), (.int g1)] zI ∧ h230 = h0 ∧ ((sm1, cc1) = own_st (decide ((0 : Int32) < g1)) (sm0, cc0) (FP.i2d (2 : Int32))) ∧ (Jvm.Free.Fl.NoNaN64 sm1) ∧ (Rt p e below T230 (mkF m 41 #[sr a1, sd sm1, se, si cc1, si 1] []) s₁ m #[(.ref a1)] 5) := by
      by_cases qg : (0 : Int32) < g1
      · have k231 := f_ifN X226 hx k229 (H 26 rfl) ((if0 _ _).trans (tlt qg).2.2.2)
        have k232 := f_inc X226 hx k231 (H 27 rfl) rfl (l' := #[sr a1, sd sm0, se, si (cc0 + (1 : Int32)), si 1]) rfl
        have k233 := f_dlN X226 hx k232 (H 28 rfl) rfl
        have k234 := f_ilN X226 hx k233 (H 29 rfl) rfl
        have k235 := f_i2d X226 hx k234 (H 30 rfl)
        have k236 := f_il X226 hx k235 (H 31 rfl) rfl
        have k237 := f_ic X226 hx k236 (H 32 rfl) (v := 1) rfl
        have k238 := f_iadd X226 hx k237 (H 33 rfl) (r := 2) (by decide)
        have k239 := f_i2d X226 hx k238 (H 34 rfl)
        have k240 := f_ddiv X226 hx k239 (H 35 rfl) own_qn
        have k241 := f_dadd X226 hx k240 (H 36 rfl) (own_sn hn0)
        have k242 := f_dsN X226 hx k241 (H 37 rfl) (l' := #[sr a1, sd (FP.dadd sm0 (FP.ddiv (FP.i2d (cc0 + (1 : Int32))) (FP.i2d (2 : Int32)))), se, si (cc0 + (1 : Int32)), si 1]) rfl
        exact ⟨T226, h199, _, (FP.dadd sm0 (FP.ddiv (FP.i2d (cc0 + (1 : Int32))) (FP.i2d (2 : Int32)))), (cc0 + (1 : Int32)), X226, e226, N199, Zq199, F213, F214, F215, F216, (own_stp (s := sm0) (c := cc0) qg), (own_sn hn0), k242⟩
      · have k243 := f_ifY X226 hx k229 (H 26 rfl) (pc' := 41) ((if0 _ _).trans (flt qg).2.2.2) (by decide)
        exact ⟨T226, h199, _, sm0, cc0, X226, e226, N199, Zq199, F213, F214, F215, F216, (own_st0 (s := sm0) (c := cc0) qg), hn0, k243⟩
    have k248 := f_inc X230 hx kq230 (H 38 rfl) rfl (l' := #[sr a1, sd sm1, se, si cc1, si 2]) rfl
    have k249 := f_go X230 hx k248 (H 39 rfl) (pc' := 7) (by decide)
    have k250 := f_il X230 hx k249 (H 6 rfl) rfl
    have k251 := f_alN X230 hx k250 (H 7 rfl) rfl
    obtain ⟨T252, X252, e252, k253⟩ := gFs X230 hx hZ hown (hww 163 rfl) e230 (F244.g 0 (v := (.ref bg)) (by decide) rfl rfl) k251 (H 8 rfl)
    have k254 := f_len X252 hx hZ e252 F246 k253 (H 9 rfl)
    have k255 := f_icY X252 hx k254 (H 10 rfl) (pc' := 47) (flt (by decide)).2.1 (by decide)
    have k256 := f_alN X252 hx k255 (H 11 rfl) rfl
    obtain ⟨_, T257, L257, X257, hQ257, k257⟩ := c_V (W := 0) (x := mn67) X252 hx hZ hown (hww 304 rfl) (hww 305 rfl) (notFace_of_selects (args := #[]) (mvT hZ (hww 307 rfl))) (hww 307 rfl) (hww 306 rfl) (hww 308 rfl) (hww 146 rfl) (by decide) F244.1 (rel l Z a0 hw [] a1 bi ki cn il h230 n0 Zq230 (F244.g 1 (v := (.ref bi)) (by decide) rfl rfl) F245) e252 (argsL := []) (rest := []) rfl (by rw [hml]; rfl) k256 rfl (H 12 rfl) (lenOf pd__28_29I rfl) (b5 rfl)
    obtain ⟨rfl, N257q, e257⟩ := hQ257
    have N258 := Fr.app N230 N257q
    by_cases qc : cn = (0 : Int32)
    · have k259 := f_ifN X257 hx k257 (H 13 rfl) ((if0 _ _).trans (teq qc).2)
      have k260 := f_d0 X257 hx k259 (H 14 rfl)
      have k261 := f_go X257 hx k260 (H 15 rfl) (pc' := 65) (by decide)
      exact fin_r X257 hx (w := (.double (0 : UInt64))) hrt hlk rfl (Or.inr (Or.inr (Or.inl ⟨rfl, rfl, _, rfl⟩))) k261 (H 16 rfl) (by rw [e257]; exact ⟨(0 : UInt64), rfl, N258, F247, own_r0 qc⟩) (by decide) (by decide)
    · have k262 := f_ifY X257 hx k257 (H 13 rfl) (pc' := 58) ((if0 _ _).trans (feq qc).2) (by decide)
      have k263 := f_dlN X257 hx k262 (H 17 rfl) rfl
      have k264 := f_alN X257 hx k263 (H 18 rfl) rfl
      obtain ⟨_, T265, L265, X265, hQ265, k265⟩ := c_V (W := 2) (x := mn67) X257 hx hZ hown (hww 304 rfl) (hww 305 rfl) (notFace_of_selects (args := #[]) (mvT hZ (hww 307 rfl))) (hww 307 rfl) (hww 306 rfl) (hww 308 rfl) (hww 146 rfl) (by decide) F244.1 (rel l Z a0 hw [] a1 bi ki cn il h230 n0 Zq230 (F244.g 1 (v := (.ref bi)) (by decide) rfl rfl) F245) e257 (argsL := []) (rest := [(.double sm1)]) rfl (by rw [hml]; rfl) k264 rfl (H 19 rfl) (lenOf pd__28_29I rfl) (b5 rfl)
      obtain ⟨rfl, N265q, e265⟩ := hQ265
      have N266 := Fr.app N258 N265q
      have k267 := f_i2d X265 hx k265 (H 20 rfl)
      have k268 := f_ddiv X265 hx k267 (H 21 rfl) (own_rn hn1 qc)
      exact fin_r X265 hx (w := (.double (FP.ddiv sm1 (FP.i2d cn)))) hrt hlk rfl (Or.inr (Or.inr (Or.inl ⟨rfl, rfl, _, rfl⟩))) k268 (H 16 rfl) (by rw [e265]; exact ⟨(FP.ddiv sm1 (FP.i2d cn)), rfl, N266, F247, own_rc qc hs0 hs1⟩) (by decide) (by decide)
  · have k269 := f_d0 X0 hx k0 (H 0 rfl)
    have k270 := f_dsN X0 hx k269 (H 1 rfl) (l' := #[sr a1, sd 0, se, un, un]) rfl
    have k271 := f_ic X0 hx k270 (H 2 rfl) (v := 0) rfl
    have k272 := f_isN X0 hx k271 (H 3 rfl) (l' := #[sr a1, sd 0, se, si 0, un]) rfl
    have k273 := f_ic X0 hx k272 (H 4 rfl) (v := 0) rfl
    have k274 := f_is X0 hx k273 (H 5 rfl) (l' := #[sr a1, sd 0, se, si 0, si 0]) rfl
    have k275 := f_il X0 hx k274 (H 6 rfl) rfl
    have k276 := f_alN X0 hx k275 (H 7 rfl) rfl
    obtain ⟨T277, X277, e277, k278⟩ := gFs X0 hx hZ hown (hww 163 rfl) e0 (Fk0.g 0 (v := (.ref bg)) (by decide) rfl rfl) k276 (H 8 rfl)
    have k279 := f_len X277 hx hZ e277 Fk2 k278 (H 9 rfl)
    have k280 := f_icN X277 hx k279 (H 10 rfl) (tlt (by decide)).2.1
    have k281 := f_alN X277 hx k280 (H 22 rfl) rfl
    obtain ⟨T282, X282, e282, k283⟩ := gFs X277 hx hZ hown (hww 163 rfl) e277 (Fk0.g 0 (v := (.ref bg)) (by decide) rfl rfl) k281 (H 23 rfl)
    have k284 := f_il X282 hx k283 (H 24 rfl) rfl
    have k285 := f_ial X282 hx hZ e282 Fk2 k284 (H 25 rfl) (v := g0) (by decide) rfl
    obtain ⟨T286, h286, Ls286, sm0, cc0, X286, e286, N286, Zq286, F300, F301, F302, F303, hs0, hn0, kq286⟩ : ∃ (T286 : State) (h286 : Heap) (Ls286 : List Loc) (sm0 : UInt64) (cc0 : Int32), Stand p l e (rm 1 0 0 14) s m #[(.ref a1)] below meth c T286 Ls286 0 0 ∧ T286.heap = h286 ∧ Fr n0 Ls286 ∧ n0 ≤ h286.size ∧ OBJ Z h286 a1 "com/example/multinomial/multinomial/eval/JudgedRanking" lyJR [(.ref bg), (.ref bi)] ∧ Arv Z h286 bi ki .int cn il zI ∧ Arv Z h286 bg kg .int (3 : Int32) [(.int g0), (.int g1), (.int g2)] zI ∧ h286 = h0 ∧ ((sm0, cc0) = own_st (decide ((0 : Int32) < g0)) ((0 : UInt64), (0 : Int32)) (FP.i2d (1 : Int32))) ∧ (Jvm.Free.Fl.NoNaN64 sm0) ∧ (Rt p e below T286 (mkF m 41 #[sr a1, sd sm0, se, si cc0, si 0] []) s₁ m #[(.ref a1)] 5) := by
      by_cases qg : (0 : Int32) < g0
      · have k287 := f_ifN X282 hx k285 (H 26 rfl) ((if0 _ _).trans (tlt qg).2.2.2)
        have k288 := f_inc X282 hx k287 (H 27 rfl) rfl (l' := #[sr a1, sd 0, se, si 1, si 0]) rfl
        have k289 := f_dlN X282 hx k288 (H 28 rfl) rfl
        have k290 := f_ilN X282 hx k289 (H 29 rfl) rfl
        have k291 := f_i2d X282 hx k290 (H 30 rfl)
        have k292 := f_il X282 hx k291 (H 31 rfl) rfl
        have k293 := f_ic X282 hx k292 (H 32 rfl) (v := 1) rfl
        have k294 := f_iadd X282 hx k293 (H 33 rfl) (r := 1) (by decide)
        have k295 := f_i2d X282 hx k294 (H 34 rfl)
        have k296 := f_ddiv X282 hx k295 (H 35 rfl) own_qn
        have k297 := f_dadd X282 hx k296 (H 36 rfl) (own_sn own_z0)
        have k298 := f_dsN X282 hx k297 (H 37 rfl) (l' := #[sr a1, sd (FP.dadd (0 : UInt64) (FP.ddiv (FP.i2d (1 : Int32)) (FP.i2d (1 : Int32)))), se, si 1, si 0]) rfl
        exact ⟨T282, h0, _, (FP.dadd (0 : UInt64) (FP.ddiv (FP.i2d (1 : Int32)) (FP.i2d (1 : Int32)))), (1 : Int32), X282, e282, N0, Z0, Fk0, Fk1, Fk2, rfl, (own_sp1 qg), (own_sn own_z0), k298⟩
      · have k299 := f_ifY X282 hx k285 (H 26 rfl) (pc' := 41) ((if0 _ _).trans (flt qg).2.2.2) (by decide)
        exact ⟨T282, h0, _, (0 : UInt64), (0 : Int32), X282, e282, N0, Z0, Fk0, Fk1, Fk2, rfl, (own_st0 (s := (0 : UInt64)) (c := (0 : Int32)) qg), own_z0, k299⟩
    have k304 := f_inc X286 hx kq286 (H 38 rfl) rfl (l' := #[sr a1, sd sm0, se, si cc0, si 1]) rfl
    have k305 := f_go X286 hx k304 (H 39 rfl) (pc' := 7) (by decide)
    have k306 := f_il X286 hx k305 (H 6 rfl) rfl
    have k307 := f_alN X286 hx k306 (H 7 rfl) rfl
    obtain ⟨T308, X308, e308, k309⟩ := gFs X286 hx hZ hown (hww 163 rfl) e286 (F300.g 0 (v := (.ref bg)) (by decide) rfl rfl) k307 (H 8 rfl)
    have k310 := f_len X308 hx hZ e308 F302 k309 (H 9 rfl)
    have k311 := f_icN X308 hx k310 (H 10 rfl) (tlt (by decide)).2.1
    have k312 := f_alN X308 hx k311 (H 22 rfl) rfl
    obtain ⟨T313, X313, e313, k314⟩ := gFs X308 hx hZ hown (hww 163 rfl) e308 (F300.g 0 (v := (.ref bg)) (by decide) rfl rfl) k312 (H 23 rfl)
    have k315 := f_il X313 hx k314 (H 24 rfl) rfl
    have k316 := f_ial X313 hx hZ e313 F302 k315 (H 25 rfl) (v := g1) (by decide) rfl
    obtain ⟨T317, h317, Ls317, sm1, cc1, X317, e317, N317, Zq317, F331, F332, F333, F334, hs1, hn1, kq317⟩ : ∃ (T317 : State) (h317 : Heap) (Ls317 : List Loc) (sm1 : UInt64) (cc1 : Int32), Stand p l e (rm 1 0 0 14) s m #[(.ref a1)] below meth c T317 Ls317 0 0 ∧ T317.heap = h317 ∧ Fr n0 Ls317 ∧ n0 ≤ h317.size ∧ OBJ Z h317 a1 "com/example/multinomial/multinomial/eval/JudgedRanking" lyJR [(.ref bg), (.ref bi)] ∧ Arv Z h317 bi ki .int cn il zI ∧ Arv Z h317 bg kg .int (3 : Int32) [(.int g0), (.int g1), (.int g2)] zI ∧ h317 = h0 ∧ ((sm1, cc1) = own_st (decide ((0 : Int32) < g1)) (sm0, cc0) (FP.i2d (2 : Int32))) ∧ (Jvm.Free.Fl.NoNaN64 sm1) ∧ (Rt p e below T317 (mkF m 41 #[sr a1, sd sm1, se, si cc1, si 1] []) s₁ m #[(.ref a1)] 5) := by
      by_cases qg : (0 : Int32) < g1
      · have k318 := f_ifN X313 hx k316 (H 26 rfl) ((if0 _ _).trans (tlt qg).2.2.2)
        have k319 := f_inc X313 hx k318 (H 27 rfl) rfl (l' := #[sr a1, sd sm0, se, si (cc0 + (1 : Int32)), si 1]) rfl
        have k320 := f_dlN X313 hx k319 (H 28 rfl) rfl
        have k321 := f_ilN X313 hx k320 (H 29 rfl) rfl
        have k322 := f_i2d X313 hx k321 (H 30 rfl)
        have k323 := f_il X313 hx k322 (H 31 rfl) rfl
        have k324 := f_ic X313 hx k323 (H 32 rfl) (v := 1) rfl
        have k325 := f_iadd X313 hx k324 (H 33 rfl) (r := 2) (by decide)
        have k326 := f_i2d X313 hx k325 (H 34 rfl)
        have k327 := f_ddiv X313 hx k326 (H 35 rfl) own_qn
        have k328 := f_dadd X313 hx k327 (H 36 rfl) (own_sn hn0)
        have k329 := f_dsN X313 hx k328 (H 37 rfl) (l' := #[sr a1, sd (FP.dadd sm0 (FP.ddiv (FP.i2d (cc0 + (1 : Int32))) (FP.i2d (2 : Int32)))), se, si (cc0 + (1 : Int32)), si 1]) rfl
        exact ⟨T313, h286, _, (FP.dadd sm0 (FP.ddiv (FP.i2d (cc0 + (1 : Int32))) (FP.i2d (2 : Int32)))), (cc0 + (1 : Int32)), X313, e313, N286, Zq286, F300, F301, F302, F303, (own_stp (s := sm0) (c := cc0) qg), (own_sn hn0), k329⟩
      · have k330 := f_ifY X313 hx k316 (H 26 rfl) (pc' := 41) ((if0 _ _).trans (flt qg).2.2.2) (by decide)
        exact ⟨T313, h286, _, sm0, cc0, X313, e313, N286, Zq286, F300, F301, F302, F303, (own_st0 (s := sm0) (c := cc0) qg), hn0, k330⟩
    have k335 := f_inc X317 hx kq317 (H 38 rfl) rfl (l' := #[sr a1, sd sm1, se, si cc1, si 2]) rfl
    have k336 := f_go X317 hx k335 (H 39 rfl) (pc' := 7) (by decide)
    have k337 := f_il X317 hx k336 (H 6 rfl) rfl
    have k338 := f_alN X317 hx k337 (H 7 rfl) rfl
    obtain ⟨T339, X339, e339, k340⟩ := gFs X317 hx hZ hown (hww 163 rfl) e317 (F331.g 0 (v := (.ref bg)) (by decide) rfl rfl) k338 (H 8 rfl)
    have k341 := f_len X339 hx hZ e339 F333 k340 (H 9 rfl)
    have k342 := f_icN X339 hx k341 (H 10 rfl) (tlt (by decide)).2.1
    have k343 := f_alN X339 hx k342 (H 22 rfl) rfl
    obtain ⟨T344, X344, e344, k345⟩ := gFs X339 hx hZ hown (hww 163 rfl) e339 (F331.g 0 (v := (.ref bg)) (by decide) rfl rfl) k343 (H 23 rfl)
    have k346 := f_il X344 hx k345 (H 24 rfl) rfl
    have k347 := f_ial X344 hx hZ e344 F333 k346 (H 25 rfl) (v := g2) (by decide) rfl
    obtain ⟨T348, h348, Ls348, sm2, cc2, X348, e348, N348, Zq348, F362, F363, F364, F365, hs2, hn2, kq348⟩ : ∃ (T348 : State) (h348 : Heap) (Ls348 : List Loc) (sm2 : UInt64) (cc2 : Int32), Stand p l e (rm 1 0 0 14) s m #[(.ref a1)] below meth c T348 Ls348 0 0 ∧ T348.heap = h348 ∧ Fr n0 Ls348 ∧ n0 ≤ h348.size ∧ OBJ Z h348 a1 "com/example/multinomial/multinomial/eval/JudgedRanking" lyJR [(.ref bg), (.ref bi)] ∧ Arv Z h348 bi ki .int cn il zI ∧ Arv Z h348 bg kg .int (3 : Int32) [(.int g0), (.int g1), (.int g2)] zI ∧ h348 = h0 ∧ ((sm2, cc2) = own_st (decide ((0 : Int32) < g2)) (sm1, cc1) (FP.i2d (3 : Int32))) ∧ (Jvm.Free.Fl.NoNaN64 sm2) ∧ (Rt p e below T348 (mkF m 41 #[sr a1, sd sm2, se, si cc2, si 2] []) s₁ m #[(.ref a1)] 5) := by
      by_cases qg : (0 : Int32) < g2
      · have k349 := f_ifN X344 hx k347 (H 26 rfl) ((if0 _ _).trans (tlt qg).2.2.2)
        have k350 := f_inc X344 hx k349 (H 27 rfl) rfl (l' := #[sr a1, sd sm1, se, si (cc1 + (1 : Int32)), si 2]) rfl
        have k351 := f_dlN X344 hx k350 (H 28 rfl) rfl
        have k352 := f_ilN X344 hx k351 (H 29 rfl) rfl
        have k353 := f_i2d X344 hx k352 (H 30 rfl)
        have k354 := f_il X344 hx k353 (H 31 rfl) rfl
        have k355 := f_ic X344 hx k354 (H 32 rfl) (v := 1) rfl
        have k356 := f_iadd X344 hx k355 (H 33 rfl) (r := 3) (by decide)
        have k357 := f_i2d X344 hx k356 (H 34 rfl)
        have k358 := f_ddiv X344 hx k357 (H 35 rfl) own_qn
        have k359 := f_dadd X344 hx k358 (H 36 rfl) (own_sn hn1)
        have k360 := f_dsN X344 hx k359 (H 37 rfl) (l' := #[sr a1, sd (FP.dadd sm1 (FP.ddiv (FP.i2d (cc1 + (1 : Int32))) (FP.i2d (3 : Int32)))), se, si (cc1 + (1 : Int32)), si 2]) rfl
        exact ⟨T344, h317, _, (FP.dadd sm1 (FP.ddiv (FP.i2d (cc1 + (1 : Int32))) (FP.i2d (3 : Int32)))), (cc1 + (1 : Int32)), X344, e344, N317, Zq317, F331, F332, F333, F334, (own_stp (s := sm1) (c := cc1) qg), (own_sn hn1), k360⟩
      · have k361 := f_ifY X344 hx k347 (H 26 rfl) (pc' := 41) ((if0 _ _).trans (flt qg).2.2.2) (by decide)
        exact ⟨T344, h317, _, sm1, cc1, X344, e344, N317, Zq317, F331, F332, F333, F334, (own_st0 (s := sm1) (c := cc1) qg), hn1, k361⟩
    have k366 := f_inc X348 hx kq348 (H 38 rfl) rfl (l' := #[sr a1, sd sm2, se, si cc2, si 3]) rfl
    have k367 := f_go X348 hx k366 (H 39 rfl) (pc' := 7) (by decide)
    have k368 := f_il X348 hx k367 (H 6 rfl) rfl
    have k369 := f_alN X348 hx k368 (H 7 rfl) rfl
    obtain ⟨T370, X370, e370, k371⟩ := gFs X348 hx hZ hown (hww 163 rfl) e348 (F362.g 0 (v := (.ref bg)) (by decide) rfl rfl) k369 (H 8 rfl)
    have k372 := f_len X370 hx hZ e370 F364 k371 (H 9 rfl)
    have k373 := f_icY X370 hx k372 (H 10 rfl) (pc' := 47) (flt (by decide)).2.1 (by decide)
    have k374 := f_alN X370 hx k373 (H 11 rfl) rfl
    obtain ⟨_, T375, L375, X375, hQ375, k375⟩ := c_V (W := 0) (x := mn67) X370 hx hZ hown (hww 304 rfl) (hww 305 rfl) (notFace_of_selects (args := #[]) (mvT hZ (hww 307 rfl))) (hww 307 rfl) (hww 306 rfl) (hww 308 rfl) (hww 146 rfl) (by decide) F362.1 (rel l Z a0 hw [] a1 bi ki cn il h348 n0 Zq348 (F362.g 1 (v := (.ref bi)) (by decide) rfl rfl) F363) e370 (argsL := []) (rest := []) rfl (by rw [hml]; rfl) k374 rfl (H 12 rfl) (lenOf pd__28_29I rfl) (b5 rfl)
    obtain ⟨rfl, N375q, e375⟩ := hQ375
    have N376 := Fr.app N348 N375q
    by_cases qc : cn = (0 : Int32)
    · have k377 := f_ifN X375 hx k375 (H 13 rfl) ((if0 _ _).trans (teq qc).2)
      have k378 := f_d0 X375 hx k377 (H 14 rfl)
      have k379 := f_go X375 hx k378 (H 15 rfl) (pc' := 65) (by decide)
      exact fin_r X375 hx (w := (.double (0 : UInt64))) hrt hlk rfl (Or.inr (Or.inr (Or.inl ⟨rfl, rfl, _, rfl⟩))) k379 (H 16 rfl) (by rw [e375]; exact ⟨(0 : UInt64), rfl, N376, F365, own_r0 qc⟩) (by decide) (by decide)
    · have k380 := f_ifY X375 hx k375 (H 13 rfl) (pc' := 58) ((if0 _ _).trans (feq qc).2) (by decide)
      have k381 := f_dlN X375 hx k380 (H 17 rfl) rfl
      have k382 := f_alN X375 hx k381 (H 18 rfl) rfl
      obtain ⟨_, T383, L383, X383, hQ383, k383⟩ := c_V (W := 2) (x := mn67) X375 hx hZ hown (hww 304 rfl) (hww 305 rfl) (notFace_of_selects (args := #[]) (mvT hZ (hww 307 rfl))) (hww 307 rfl) (hww 306 rfl) (hww 308 rfl) (hww 146 rfl) (by decide) F362.1 (rel l Z a0 hw [] a1 bi ki cn il h348 n0 Zq348 (F362.g 1 (v := (.ref bi)) (by decide) rfl rfl) F363) e375 (argsL := []) (rest := [(.double sm2)]) rfl (by rw [hml]; rfl) k382 rfl (H 19 rfl) (lenOf pd__28_29I rfl) (b5 rfl)
      obtain ⟨rfl, N383q, e383⟩ := hQ383
      have N384 := Fr.app N376 N383q
      have k385 := f_i2d X383 hx k383 (H 20 rfl)
      have k386 := f_ddiv X383 hx k385 (H 21 rfl) (own_rn hn2 qc)
      exact fin_r X383 hx (w := (.double (FP.ddiv sm2 (FP.i2d cn)))) hrt hlk rfl (Or.inr (Or.inr (Or.inl ⟨rfl, rfl, _, rfl⟩))) k386 (H 16 rfl) (by rw [e383]; exact ⟨(FP.ddiv sm2 (FP.i2d cn)), rfl, N384, F365, own_rd qc hs0 hs1 hs2⟩) (by decide) (by decide)
theorem ef_0_IIIII (m : MethodId) (x0 : Int32) (x1 : Int32) (x2 : Int32) (x3 : Int32) (x4 : Int32) : entryFrame m #[(.int x0), (.int x1), (.int x2), (.int x3), (.int x4)] maxLocals = mkF m 0 #[.val (.int x0), .val (.int x1), .val (.int x2), .val (.int x3), .val (.int x4), .unset, .unset, .unset, .unset, .unset, .unset, .unset, .unset, .unset, .unset, .unset, .unset, .unset, .unset, .unset, .unset, .unset] [] := by first | (simp [entryFrame, mkF, argsToLocals, Value.category, maxLocals]; done) | rfl
theorem pd__28C_29Ljava_2flang_2fString_3b : parseMethodDescriptor "(C)Ljava/lang/String;" = some ⟨[.char], some (.object "java/lang/String")⟩ := by decide +kernel
theorem pd__28Ljava_2flang_2fString_3bD_29V : parseMethodDescriptor "(Ljava/lang/String;D)V" = some ⟨[(.object "java/lang/String"), .double], none⟩ := by decide +kernel
theorem pd__28Ljava_2futil_2fList_3bLjava_2futil_2fMap_3b_29V : parseMethodDescriptor "(Ljava/util/List;Ljava/util/Map;)V" = some ⟨[(.object "java/util/List"), (.object "java/util/Map")], none⟩ := by decide +kernel
theorem pd__28_29D : parseMethodDescriptor "()D" = some ⟨[], some .double⟩ := by decide +kernel
def Q_rm0 (Z : State) (p0 : Int32) (p1 : Int32) (p2 : Int32) (p3 : Int32) (p4 : Int32) (cs : Int32) (ca : Addr) (ce : Cell) (de : Addr) (kd : ClassId) (h0 : Heap) (n0 : Nat) (v : Option Value) (h : Heap) (L : List Loc) : Prop := v = some (.int 1) ∧ Fr n0 L
theorem pn_com_2fexample_2fmultinomial_2fmultinomial_2feval_2fJudgedRankingAveragePrecisionPinLaw : plainName "com/example/multinomial/multinomial/eval/JudgedRankingAveragePrecisionPinLaw" = true := by first | (simp [plainName, overriddenIn]; done) | decide +kernel
set_option maxRecDepth 65536 in
set_option maxHeartbeats 40000000 in
theorem rm0 (l : Launch) (Z : State) (a0 : Array Value) (hw : ∀ d ∈ tables_1, d.before a0 Z = true) (ws : List Jvm.Cond) (p0 : Int32) (p1 : Int32) (p2 : Int32) (p3 : Int32) (p4 : Int32) (cs : Int32) (ca : Addr) (ce : Cell) (de : Addr) (kd : ClassId) (h0 : Heap) (n0 : Nat) (Z0 : n0 ≤ h0.size) (Scs : Sta Z Z.heap "java/lang/String" "COMPACT_STRINGS" "Z" (.int cs)) (hcs : ¬ (cs = (0 : Int32))) (Shi : Sta Z Z.heap "java/lang/Integer$IntegerCache" "high" "I" (.int (127 : Int32))) (Sca : Sta Z Z.heap "java/lang/Integer$IntegerCache" "cache" "[Ljava/lang/Integer;" (.ref ca)) (Bx : Bxs Z ca ce "java/lang/Integer" "I" (256 : Int32) (fun j => .int (j - (128 : Int32)))) (Sde : Sta Z Z.heap "java/util/ArrayList" "DEFAULTCAPACITY_EMPTY_ELEMENTDATA" "[Ljava/lang/Object;" (.ref de)) (Vde : Arv Z Z.heap de kd (.object "java/lang/Object") (0 : Int32) [] .null) (O0 : Old Z n0 h0) :
    MetFree l x (head1 (Jvm.Cond.code x code maxLocals ret :: ws) room_1) (fun a U => a = #[(.int p0), (.int p1), (.int p2), (.int p3), (.int p4)] ∧ Z.Warmed39 U.vm ∧ U.heap = h0) (fun _ _ _ _ _ => True) (fun _ U o U' => ∃ v L, o = .returned v ∧ Q_rm0 Z p0 p1 p2 p3 p4 cs ca ce de kd h0 n0 v U'.heap L ∧ FrameEnd U o U' L room_1.cells room_1.slots) := by
  refine MetFree.of_bodySF (plainFor_of_name pn_com_2fexample_2fmultinomial_2fmultinomial_2feval_2fJudgedRankingAveragePrecisionPinLaw) hisR ?_
  intro p e s m args below meth c s₁ Bd hml0 hP hK
  obtain ⟨rfl, hZ, hh⟩ := hP
  have hx := Bd.exec
  have hby := Bd.bytes
  have hml : c.maxLocals = 22 := hml0
  have hown : s.vm.findClass "com/example/multinomial/multinomial/eval/JudgedRankingAveragePrecisionPinLaw" = some m.cls := findClass_of_methodNamed Bd.named
  have hnm := (name_of_methodNamed Bd.named Bd.method).1
  have X0 : Stand p l e room_1 s m #[(.int p0), (.int p1), (.int p2), (.int p3), (.int p4)] below meth c s₁ [] 0 0 := Stand.of_body Bd
  have e0 : s₁.heap = h0 := by rw [← hh, Bd.state]; rfl
  have N0 := Fr.nil n0
  have hww := @hvw _ _ hw
  have k0 : Rt p e below s₁ (mkF m 0 #[si p0, si p1, si p2, si p3, si p4, un, un, un, un, un, un, un, un, un, un, un, un, un, un, un, un, un] []) s₁ m #[(.int p0), (.int p1), (.int p2), (.int p3), (.int p4)] maxLocals := fun t k => castTop (ef_0_IIIII m p0 p1 p2 p3 p4) k
  have H : ∀ {pc r}, decode code pc = r → decode c.code pc = r := fun d => hb hby d
  have k101 := f_ilN X0 hx k0 (H at_0) rfl
  have k102 := f_ic X0 hx k101 (H at_1) (v := 3) rfl
  have k103 := f_iand X0 hx k102 (H at_2) rfl
  obtain ⟨nn, hnn⟩ : ∃ z : Int32, z = (p0 &&& (3 : Int32)) := ⟨_, rfl⟩
  have k104 : Rt p e below s₁ (mkF m 3 #[si p0, si p1, si p2, si p3, si p4, un, un, un, un, un, un, un, un, un, un, un, un, un, un, un, un, un] [vI nn]) s₁ m #[(.int p0), (.int p1), (.int p2), (.int p3), (.int p4)] maxLocals := fun t q => k103 t (castTop (by rw [show (p0 &&& (3 : Int32)) = nn from hnn.symm] <;> rfl) q)
  have hn3 := own_n3 hnn
  have k105 := f_is X0 hx k104 (H at_3) (l' := #[si p0, si p1, si p2, si p3, si p4, si nn, un, un, un, un, un, un, un, un, un, un, un, un, un, un, un, un]) rfl
  have k106 := f_ilN X0 hx k105 (H at_5) rfl
  have k107 := f_ic X0 hx k106 (H at_6) (v := 2) rfl
  have k108 : Rt p e below s₁ (mkF m 8 #[si p0, si p1, si p2, si p3, si p4, si nn, un, un, un, un, un, un, un, un, un, un, un, un, un, un, un, un] [vI (p0 >>> ((2 : Int32) &&& 31))]) s₁ m #[(.int p0), (.int p1), (.int p2), (.int p3), (.int p4)] maxLocals := fun t k => k107 t (by
    show Sp p e below s₁ (mkF m 7 #[si p0, si p1, si p2, si p3, si p4, si nn, un, un, un, un, un, un, un, un, un, un, un, un, un, un, un, un] [vI 2, vI p0]) _
    refine XS.ishr X0.here hx rfl (H at_7) rfl ?_
    exact k)
  have k109 := f_ic X0 hx k108 (H at_8) (v := 1) rfl
  have k110 := f_iand X0 hx k109 (H at_9) rfl
  obtain ⟨i112, hi112⟩ : ∃ z : Int32, z = (if ((p0 >>> ((2 : Int32) &&& 31)) &&& (1 : Int32)) = (0 : Int32) then (0 : Int32) else (1 : Int32)) := ⟨_, rfl⟩
  have k113 : Rt p e below s₁ (mkF m 18 #[si p0, si p1, si p2, si p3, si p4, si nn, un, un, un, un, un, un, un, un, un, un, un, un, un, un, un, un] [vI i112]) s₁ m #[(.int p0), (.int p1), (.int p2), (.int p3), (.int p4)] maxLocals := fun t k => k110 t (by
    by_cases c111 : ((p0 >>> ((2 : Int32) &&& 31)) &&& (1 : Int32)) = (0 : Int32)
    · rw [if_pos c111] at hi112
      show Sp p e below s₁ (mkF m 10 #[si p0, si p1, si p2, si p3, si p4, si nn, un, un, un, un, un, un, un, un, un, un, un, un, un, un, un, un] [vI ((p0 >>> ((2 : Int32) &&& 31)) &&& (1 : Int32))]) _
      refine XS.ifYes X0.here hx rfl (pc0 := 10) (pc' := 17) rfl (hb hby at_10) rfl ((if0 _ _).trans (teq c111).1) (by decide) (by decide) ?_
      refine XS.iconst X0.here hx rfl (hb hby at_17) ?_
      show Sp p e below s₁ (mkF m 18 #[si p0, si p1, si p2, si p3, si p4, si nn, un, un, un, un, un, un, un, un, un, un, un, un, un, un, un, un] [vI 0]) _
      exact castTop (by rw [hi112]) k
    · rw [if_neg c111] at hi112
      show Sp p e below s₁ (mkF m 10 #[si p0, si p1, si p2, si p3, si p4, si nn, un, un, un, un, un, un, un, un, un, un, un, un, un, un, un, un] [vI ((p0 >>> ((2 : Int32) &&& 31)) &&& (1 : Int32))]) _
      refine XS.ifNo X0.here hx rfl (hb hby at_10) rfl ((if0 _ _).trans (feq c111).1) ?_
      refine XS.iconst X0.here hx rfl (hb hby at_13) ?_
      refine XS.goto X0.here hx rfl (pc0 := 14) (pc' := 18) rfl (hb hby at_14) (by decide) (by decide) ?_
      show Sp p e below s₁ (mkF m 18 #[si p0, si p1, si p2, si p3, si p4, si nn, un, un, un, un, un, un, un, un, un, un, un, un, un, un, un, un] [vI 1]) _
      exact castTop (by rw [hi112]) k)
  have k114 := f_is X0 hx k113 (H at_18) (l' := #[si p0, si p1, si p2, si p3, si p4, si nn, si i112, un, un, un, un, un, un, un, un, un, un, un, un, un, un, un]) rfl
  have k115 := f_ilN X0 hx k114 (H at_20) rfl
  have k116 := f_ic X0 hx k115 (H at_21) (v := 3) rfl
  have k117 : Rt p e below s₁ (mkF m 23 #[si p0, si p1, si p2, si p3, si p4, si nn, si i112, un, un, un, un, un, un, un, un, un, un, un, un, un, un, un] [vI (p0 >>> ((3 : Int32) &&& 31))]) s₁ m #[(.int p0), (.int p1), (.int p2), (.int p3), (.int p4)] maxLocals := fun t k => k116 t (by
    show Sp p e below s₁ (mkF m 22 #[si p0, si p1, si p2, si p3, si p4, si nn, si i112, un, un, un, un, un, un, un, un, un, un, un, un, un, un, un] [vI 3, vI p0]) _
    refine XS.ishr X0.here hx rfl (H at_22) rfl ?_
    exact k)
  have k118 := f_ic X0 hx k117 (H at_23) (v := 1) rfl
  have k119 := f_iand X0 hx k118 (H at_24) rfl
  obtain ⟨i121, hi121⟩ : ∃ z : Int32, z = (if ((p0 >>> ((3 : Int32) &&& 31)) &&& (1 : Int32)) = (0 : Int32) then (0 : Int32) else (1 : Int32)) := ⟨_, rfl⟩
  have k122 : Rt p e below s₁ (mkF m 33 #[si p0, si p1, si p2, si p3, si p4, si nn, si i112, un, un, un, un, un, un, un, un, un, un, un, un, un, un, un] [vI i121]) s₁ m #[(.int p0), (.int p1), (.int p2), (.int p3), (.int p4)] maxLocals := fun t k => k119 t (by
    by_cases c120 : ((p0 >>> ((3 : Int32) &&& 31)) &&& (1 : Int32)) = (0 : Int32)
    · rw [if_pos c120] at hi121
      show Sp p e below s₁ (mkF m 25 #[si p0, si p1, si p2, si p3, si p4, si nn, si i112, un, un, un, un, un, un, un, un, un, un, un, un, un, un, un] [vI ((p0 >>> ((3 : Int32) &&& 31)) &&& (1 : Int32))]) _
      refine XS.ifYes X0.here hx rfl (pc0 := 25) (pc' := 32) rfl (hb hby at_25) rfl ((if0 _ _).trans (teq c120).1) (by decide) (by decide) ?_
      refine XS.iconst X0.here hx rfl (hb hby at_32) ?_
      show Sp p e below s₁ (mkF m 33 #[si p0, si p1, si p2, si p3, si p4, si nn, si i112, un, un, un, un, un, un, un, un, un, un, un, un, un, un, un] [vI 0]) _
      exact castTop (by rw [hi121]) k
    · rw [if_neg c120] at hi121
      show Sp p e below s₁ (mkF m 25 #[si p0, si p1, si p2, si p3, si p4, si nn, si i112, un, un, un, un, un, un, un, un, un, un, un, un, un, un, un] [vI ((p0 >>> ((3 : Int32) &&& 31)) &&& (1 : Int32))]) _
      refine XS.ifNo X0.here hx rfl (hb hby at_25) rfl ((if0 _ _).trans (feq c120).1) ?_
      refine XS.iconst X0.here hx rfl (hb hby at_28) ?_
      refine XS.goto X0.here hx rfl (pc0 := 29) (pc' := 33) rfl (hb hby at_29) (by decide) (by decide) ?_
      show Sp p e below s₁ (mkF m 33 #[si p0, si p1, si p2, si p3, si p4, si nn, si i112, un, un, un, un, un, un, un, un, un, un, un, un, un, un, un] [vI 1]) _
      exact castTop (by rw [hi121]) k)
  have k123 := f_is X0 hx k122 (H at_33) (l' := #[si p0, si p1, si p2, si p3, si p4, si nn, si i112, si i121, un, un, un, un, un, un, un, un, un, un, un, un, un, un]) rfl
  have k124 := f_ilN X0 hx k123 (H at_35) rfl
  have k125 := f_ic X0 hx k124 (H at_36) (v := 4) rfl
  have k126 : Rt p e below s₁ (mkF m 38 #[si p0, si p1, si p2, si p3, si p4, si nn, si i112, si i121, un, un, un, un, un, un, un, un, un, un, un, un, un, un] [vI (p0 >>> ((4 : Int32) &&& 31))]) s₁ m #[(.int p0), (.int p1), (.int p2), (.int p3), (.int p4)] maxLocals := fun t k => k125 t (by
    show Sp p e below s₁ (mkF m 37 #[si p0, si p1, si p2, si p3, si p4, si nn, si i112, si i121, un, un, un, un, un, un, un, un, un, un, un, un, un, un] [vI 4, vI p0]) _
    refine XS.ishr X0.here hx rfl (H at_37) rfl ?_
    exact k)
  have k127 := f_ic X0 hx k126 (H at_38) (v := 1) rfl
  have k128 := f_iand X0 hx k127 (H at_39) rfl
  obtain ⟨i130, hi130⟩ : ∃ z : Int32, z = (if ((p0 >>> ((4 : Int32) &&& 31)) &&& (1 : Int32)) = (0 : Int32) then (0 : Int32) else (1 : Int32)) := ⟨_, rfl⟩
  have k131 : Rt p e below s₁ (mkF m 48 #[si p0, si p1, si p2, si p3, si p4, si nn, si i112, si i121, un, un, un, un, un, un, un, un, un, un, un, un, un, un] [vI i130]) s₁ m #[(.int p0), (.int p1), (.int p2), (.int p3), (.int p4)] maxLocals := fun t k => k128 t (by
    by_cases c129 : ((p0 >>> ((4 : Int32) &&& 31)) &&& (1 : Int32)) = (0 : Int32)
    · rw [if_pos c129] at hi130
      show Sp p e below s₁ (mkF m 40 #[si p0, si p1, si p2, si p3, si p4, si nn, si i112, si i121, un, un, un, un, un, un, un, un, un, un, un, un, un, un] [vI ((p0 >>> ((4 : Int32) &&& 31)) &&& (1 : Int32))]) _
      refine XS.ifYes X0.here hx rfl (pc0 := 40) (pc' := 47) rfl (hb hby at_40) rfl ((if0 _ _).trans (teq c129).1) (by decide) (by decide) ?_
      refine XS.iconst X0.here hx rfl (hb hby at_47) ?_
      show Sp p e below s₁ (mkF m 48 #[si p0, si p1, si p2, si p3, si p4, si nn, si i112, si i121, un, un, un, un, un, un, un, un, un, un, un, un, un, un] [vI 0]) _
      exact castTop (by rw [hi130]) k
    · rw [if_neg c129] at hi130
      show Sp p e below s₁ (mkF m 40 #[si p0, si p1, si p2, si p3, si p4, si nn, si i112, si i121, un, un, un, un, un, un, un, un, un, un, un, un, un, un] [vI ((p0 >>> ((4 : Int32) &&& 31)) &&& (1 : Int32))]) _
      refine XS.ifNo X0.here hx rfl (hb hby at_40) rfl ((if0 _ _).trans (feq c129).1) ?_
      refine XS.iconst X0.here hx rfl (hb hby at_43) ?_
      refine XS.goto X0.here hx rfl (pc0 := 44) (pc' := 48) rfl (hb hby at_44) (by decide) (by decide) ?_
      show Sp p e below s₁ (mkF m 48 #[si p0, si p1, si p2, si p3, si p4, si nn, si i112, si i121, un, un, un, un, un, un, un, un, un, un, un, un, un, un] [vI 1]) _
      exact castTop (by rw [hi130]) k)
  have k132 := f_is X0 hx k131 (H at_48) (l' := #[si p0, si p1, si p2, si p3, si p4, si nn, si i112, si i121, si i130, un, un, un, un, un, un, un, un, un, un, un, un, un]) rfl
  obtain ⟨T133, h133, X133, e133, E133, A133, D133, -, st133⟩ := newO X0 hx hZ hown (hww 0 rfl) (hww 1 rfl) (hww 2 rfl) e0 (g := (mkF m 50 #[si p0, si p1, si p2, si p3, si p4, si nn, si i112, si i121, si i130, un, un, un, un, un, un, un, un, un, un, un, un, un] [])) rfl (H at_50) (by decide) (by decide)
  obtain ⟨b133, g133⟩ : ∃ z, z = h0.size := ⟨_, rfl⟩
  rw [← g133] at A133 D133 st133
  have g134 : n0 ≤ b133 := Nat.le_trans Z0 (Nat.le_of_eq g133.symm)
  have F135 := O0.ext E133
  have Z136 : n0 ≤ h133.size := Nat.le_trans Z0 E133.1
  have F137 : Fld Z h133 b133 "java/util/AbstractList" "modCount" "I" zI := D133 (Or.inl (hww 22 rfl)) (ty := .int) (by decide)
  have F138 : Fld Z h133 b133 "java/util/ArrayList" "elementData" "[Ljava/lang/Object;" .null := D133 (Or.inl (hww 25 rfl)) (ty := (.array (.object "java/lang/Object"))) (by decide)
  have F139 : Fld Z h133 b133 "java/util/ArrayList" "size" "I" zI := D133 (Or.inl (hww 161 rfl)) (ty := .int) (by decide)
  have k140 : Rt p e below T133 (mkF m 53 #[si p0, si p1, si p2, si p3, si p4, si nn, si i112, si i121, si i130, un, un, un, un, un, un, un, un, un, un, un, un, un] [vR b133]) s₁ m #[(.int p0), (.int p1), (.int p2), (.int p3), (.int p4)] maxLocals := fun t k => k132 t (st133 t k)
  have B141 := mkLS A133 F137 F138 F139
  have k142 := f_dup X133 hx k140 (H at_53) rfl
  obtain ⟨_, T143, L143, X143, hQ143, k143⟩ := c_N (W := 1) X133 hx hZ hown (hww 3 rfl) (hww 4 rfl) (hww 5 rfl) (hww 2 rfl) rfl (by decide) (ali l Z a0 hw [] b133 de h133 n0 Z136 B141 g134 Sde F135) e133 (argsL := []) (rest := [(.ref b133)]) rfl (by rw [hml]; rfl) k142 rfl (H at_54) (lenOf pd__28_29V rfl) (b5 rfl)
  obtain ⟨h143, e143⟩ : ∃ h', T143.heap = h' := ⟨_, rfl⟩
  rw [e143] at hQ143
  obtain ⟨rfl, N143q, K143, R143_0⟩ := hQ143
  have N144 := Fr.app N0 N143q
  have F145 := F135.keep K143 (allS g134 all0)
  have Z146 : n0 ≤ h143.size := Nat.le_trans Z136 K143.1
  have k147 := f_as X143 hx k143 (H at_57) (l' := #[si p0, si p1, si p2, si p3, si p4, si nn, si i112, si i121, si i130, sr b133, un, un, un, un, un, un, un, un, un, un, un, un]) rfl
  have k148 := f_il X143 hx k147 (H at_59) rfl
  have k149 := f_ic X143 hx k148 (H at_61) (v := 1) rfl
  obtain ⟨T150, h150, Ls150, lm, ev, ea, ka, do0, id0, ib0, ik0, ch0, do1, id1, ib1, ik1, ch1, do2, id2, ib2, ik2, ch2, X150, e150, N150, Zq150, F387, LB, kq150⟩ : ∃ (T150 : State) (h150 : Heap) (Ls150 : List Loc) (lm : Int32) (ev : Value) (ea : Addr) (ka : ClassId) (do0 : Addr) (id0 : Addr) (ib0 : Addr) (ik0 : ClassId) (ch0 : Int32) (do1 : Addr) (id1 : Addr) (ib1 : Addr) (ik1 : ClassId) (ch1 : Int32) (do2 : Addr) (id2 : Addr) (ib2 : Addr) (ik2 : ClassId) (ch2 : Int32), Stand p l e room_1 s m #[(.int p0), (.int p1), (.int p2), (.int p3), (.int p4)] below meth c T150 Ls150 12 40 ∧ T150.heap = h150 ∧ Fr n0 Ls150 ∧ n0 ≤ h150.size ∧ Old Z n0 h150 ∧ ((nn = (0 : Int32) ∧ OBJ Z h150 b133 "java/util/ArrayList" lyLS [(.int lm), ev, zI]) ∨ (nn = (1 : Int32) ∧ OBJ Z h150 b133 "java/util/ArrayList" lyLS [(.int lm), (.ref ea), (.int (1 : Int32))] ∧ Arv Z h150 ea ka (.object "java/lang/Object") (10 : Int32) [(.ref do0), .null, .null, .null, .null, .null, .null, .null, .null, .null] .null ∧ OBJ Z h150 do0 "com/example/multinomial/multinomial/search/ScoredDocument" lySD [(.ref id0), (.double (4613937818241073152 : UInt64))] ∧ Arv Z h150 ib0 ik0 .byte (1 : Int32) [(.int ch0)] zI ∧ OBJ Z h150 id0 "java/lang/String" lyST [(.ref ib0), zI, zI, zI] ∧ n0 ≤ id0 ∧ b133 ≠ id0 ∧ ea ≠ id0 ∧ do0 ≠ id0 ∧ ib0 ≠ id0 ∧ ((i112 = (0 : Int32) → ch0 = (97 : Int32)) ∧ (¬ (i112 = (0 : Int32)) → ch0 = (120 : Int32))) ∧ (ch0 = (97 : Int32) ∨ ch0 = (120 : Int32))) ∨ (nn = (2 : Int32) ∧ OBJ Z h150 b133 "java/util/ArrayList" lyLS [(.int lm), (.ref ea), (.int (2 : Int32))] ∧ Arv Z h150 ea ka (.object "java/lang/Object") (10 : Int32) [(.ref do0), (.ref do1), .null, .null, .null, .null, .null, .null, .null, .null] .null ∧ OBJ Z h150 do0 "com/example/multinomial/multinomial/search/ScoredDocument" lySD [(.ref id0), (.double (4613937818241073152 : UInt64))] ∧ OBJ Z h150 do1 "com/example/multinomial/multinomial/search/ScoredDocument" lySD [(.ref id1), (.double (4611686018427387904 : UInt64))] ∧ Arv Z h150 ib0 ik0 .byte (1 : Int32) [(.int ch0)] zI ∧ Arv Z h150 ib1 ik1 .byte (1 : Int32) [(.int ch1)] zI ∧ OBJ Z h150 id0 "java/lang/String" lyST [(.ref ib0), zI, zI, zI] ∧ OBJ Z h150 id1 "java/lang/String" lyST [(.ref ib1), zI, zI, zI] ∧ n0 ≤ id0 ∧ n0 ≤ id1 ∧ b133 ≠ id0 ∧ ea ≠ id0 ∧ do0 ≠ id0 ∧ do1 ≠ id0 ∧ ib0 ≠ id0 ∧ ib1 ≠ id0 ∧ id0 ≠ id1 ∧ b133 ≠ id1 ∧ ea ≠ id1 ∧ do0 ≠ id1 ∧ do1 ≠ id1 ∧ ib0 ≠ id1 ∧ ib1 ≠ id1 ∧ ((i112 = (0 : Int32) → ch0 = (97 : Int32)) ∧ (¬ (i112 = (0 : Int32)) → ch0 = (120 : Int32))) ∧ ((i121 = (0 : Int32) → ch1 = (98 : Int32)) ∧ (¬ (i121 = (0 : Int32)) → ch1 = (121 : Int32))) ∧ (ch0 = (97 : Int32) ∨ ch0 = (120 : Int32)) ∧ (ch1 = (98 : Int32) ∨ ch1 = (121 : Int32))) ∨ (nn = (3 : Int32) ∧ OBJ Z h150 b133 "java/util/ArrayList" lyLS [(.int lm), (.ref ea), (.int (3 : Int32))] ∧ Arv Z h150 ea ka (.object "java/lang/Object") (10 : Int32) [(.ref do0), (.ref do1), (.ref do2), .null, .null, .null, .null, .null, .null, .null] .null ∧ OBJ Z h150 do0 "com/example/multinomial/multinomial/search/ScoredDocument" lySD [(.ref id0), (.double (4613937818241073152 : UInt64))] ∧ OBJ Z h150 do1 "com/example/multinomial/multinomial/search/ScoredDocument" lySD [(.ref id1), (.double (4611686018427387904 : UInt64))] ∧ OBJ Z h150 do2 "com/example/multinomial/multinomial/search/ScoredDocument" lySD [(.ref id2), (.double (4607182418800017408 : UInt64))] ∧ Arv Z h150 ib0 ik0 .byte (1 : Int32) [(.int ch0)] zI ∧ Arv Z h150 ib1 ik1 .byte (1 : Int32) [(.int ch1)] zI ∧ Arv Z h150 ib2 ik2 .byte (1 : Int32) [(.int ch2)] zI ∧ OBJ Z h150 id0 "java/lang/String" lyST [(.ref ib0), zI, zI, zI] ∧ OBJ Z h150 id1 "java/lang/String" lyST [(.ref ib1), zI, zI, zI] ∧ OBJ Z h150 id2 "java/lang/String" lyST [(.ref ib2), zI, zI, zI] ∧ n0 ≤ id0 ∧ n0 ≤ id1 ∧ n0 ≤ id2 ∧ b133 ≠ id0 ∧ ea ≠ id0 ∧ do0 ≠ id0 ∧ do1 ≠ id0 ∧ do2 ≠ id0 ∧ ib0 ≠ id0 ∧ ib1 ≠ id0 ∧ ib2 ≠ id0 ∧ id0 ≠ id1 ∧ id0 ≠ id2 ∧ b133 ≠ id1 ∧ ea ≠ id1 ∧ do0 ≠ id1 ∧ do1 ≠ id1 ∧ do2 ≠ id1 ∧ ib0 ≠ id1 ∧ ib1 ≠ id1 ∧ ib2 ≠ id1 ∧ id1 ≠ id2 ∧ b133 ≠ id2 ∧ ea ≠ id2 ∧ do0 ≠ id2 ∧ do1 ≠ id2 ∧ do2 ≠ id2 ∧ ib0 ≠ id2 ∧ ib1 ≠ id2 ∧ ib2 ≠ id2 ∧ ((i112 = (0 : Int32) → ch0 = (97 : Int32)) ∧ (¬ (i112 = (0 : Int32)) → ch0 = (120 : Int32))) ∧ ((i121 = (0 : Int32) → ch1 = (98 : Int32)) ∧ (¬ (i121 = (0 : Int32)) → ch1 = (121 : Int32))) ∧ ((i130 = (0 : Int32) → ch2 = (99 : Int32)) ∧ (¬ (i130 = (0 : Int32)) → ch2 = (122 : Int32))) ∧ (ch0 = (97 : Int32) ∨ ch0 = (120 : Int32)) ∧ (ch1 = (98 : Int32) ∨ ch1 = (121 : Int32)) ∧ (ch2 = (99 : Int32) ∨ ch2 = (122 : Int32)))) ∧ (Rt p e below T150 (mkF m 177 #[si p0, si p1, si p2, si p3, si p4, si nn, si i112, si i121, si i130, sr b133, un, un, un, un, un, un, un, un, un, un, un, un] []) s₁ m #[(.int p0), (.int p1), (.int p2), (.int p3), (.int p4)] maxLocals) := by
    by_cases qn0 : nn < (1 : Int32)
    · have k151 := f_icY X143 hx k149 (H at_62) (pc' := 99) (tlt qn0).1 (by decide)
      have k152 := f_il X143 hx k151 (H at_99) rfl
      have k153 := f_ic X143 hx k152 (H at_101) (v := 2) rfl
      have k154 := f_icY X143 hx k153 (H at_102) (pc' := 139) (tlt (own_lt12 qn0)).1 (by decide)
      have k155 := f_il X143 hx k154 (H at_139) rfl
      have k156 := f_ic X143 hx k155 (H at_141) (v := 3) rfl
      have k157 := f_icY X143 hx k156 (H at_142) (pc' := 177) (tlt (own_lt13 qn0)).1 (by decide)
      exact ⟨T143, h143, _, (0 : Int32), (.ref de), 0, 0, 0, 0, 0, 0, (0 : Int32), 0, 0, 0, 0, (0 : Int32), 0, 0, 0, 0, (0 : Int32), (X143.more (by decide) (by decide)), e143, N144, Z146, F145, (Or.inl ⟨own_eq0 hn3 qn0, R143_0⟩), k157⟩
    · have k158 := f_icN X143 hx k149 (H at_62) (flt qn0).1
      have k159 := f_al X143 hx k158 (H at_65) rfl
      obtain ⟨T160, h160, X160, e160, E160, A160, D160, -, st160⟩ := newO X143 hx hZ hown (hww 309 rfl) (hww 310 rfl) (hww 311 rfl) e143 (g := (mkF m 67 #[si p0, si p1, si p2, si p3, si p4, si nn, si i112, si i121, si i130, sr b133, un, un, un, un, un, un, un, un, un, un, un, un] [vR b133])) rfl (H at_67) (by decide) (by decide)
      obtain ⟨b160, g160⟩ : ∃ z, z = h143.size := ⟨_, rfl⟩
      rw [← g160] at A160 D160 st160
      have g161 : n0 ≤ b160 := Nat.le_trans Z146 (Nat.le_of_eq g160.symm)
      have F162 := F145.ext E160
      have F163 := R143_0.ext E160
      have Z164 : n0 ≤ h160.size := Nat.le_trans Z146 E160.1
      have F165 : Fld Z h160 b160 "com/example/multinomial/multinomial/search/ScoredDocument" "id" "Ljava/lang/String;" .null := D160 (Or.inr (hww 318 rfl)) (ty := (.object "java/lang/String")) (by decide)
      have F166 : Fld Z h160 b160 "com/example/multinomial/multinomial/search/ScoredDocument" "score" "D" (.double (0 : UInt64)) := D160 (Or.inr (hww 320 rfl)) (ty := .double) (by decide)
      have k167 : Rt p e below T160 (mkF m 70 #[si p0, si p1, si p2, si p3, si p4, si nn, si i112, si i121, si i130, sr b133, un, un, un, un, un, un, un, un, un, un, un, un] [vR b160, vR b133]) s₁ m #[(.int p0), (.int p1), (.int p2), (.int p3), (.int p4)] maxLocals := fun t k => k159 t (st160 t k)
      have B168 := mkSD A160 F165 F166
      have k169 := f_dup X160 hx k167 (H at_70) rfl
      have k170 := f_il X160 hx k169 (H at_71) rfl
      obtain ⟨T171, h171, Ls171, sa0, sb0, sk0, ch0, X171, e171, N171, Zq171, F189, F190, F191, F192, F193, hu0, hz0, ya0, yb0, yn0, kq171⟩ : ∃ (T171 : State) (h171 : Heap) (Ls171 : List Loc) (sa0 : Addr) (sb0 : Addr) (sk0 : ClassId) (ch0 : Int32), Stand p l e room_1 s m #[(.int p0), (.int p1), (.int p2), (.int p3), (.int p4)] below meth c T171 Ls171 4 10 ∧ T171.heap = h171 ∧ Fr n0 Ls171 ∧ n0 ≤ h171.size ∧ OBJ Z h171 b133 "java/util/ArrayList" lyLS [zI, (.ref de), zI] ∧ OBJ Z h171 b160 "com/example/multinomial/multinomial/search/ScoredDocument" lySD [.null, (.double (0 : UInt64))] ∧ OBJ Z h171 sa0 "java/lang/String" lyST [(.ref sb0), zI, zI, zI] ∧ Arv Z h171 sb0 sk0 .byte (1 : Int32) [(.int ch0)] zI ∧ Old Z n0 h171 ∧ ((i112 = (0 : Int32) → ch0 = (97 : Int32)) ∧ (¬ (i112 = (0 : Int32)) → ch0 = (120 : Int32))) ∧ (ch0 = (97 : Int32) ∨ ch0 = (120 : Int32)) ∧ (h160.size ≤ sa0) ∧ (h160.size ≤ sb0) ∧ (sa0 ≠ sb0) ∧ (Rt p e below T171 (mkF m 89 #[si p0, si p1, si p2, si p3, si p4, si nn, si i112, si i121, si i130, sr b133, un, un, un, un, un, un, un, un, un, un, un, un] [vR sa0, vR b160, vR b160, vR b133]) s₁ m #[(.int p0), (.int p1), (.int p2), (.int p3), (.int p4)] maxLocals) := by
        by_cases qu : i112 = (0 : Int32)
        · have k172 := f_ifY X160 hx k170 (H at_73) (pc' := 84) ((if0 _ _).trans (teq qu).1) (by decide)
          have k173 := f_bp X160 hx k172 (H at_84) (v := 97) rfl
          obtain ⟨_, T174, L174, X174, hQ174, k174⟩ := c_S (W := 3) X160 hx hZ hown (hww 42 rfl) (hww 43 rfl) (hww 44 rfl) (hww 45 rfl) (by decide) (vof l Z a0 hw [] (97 : Int32) cs h160 n0 Z164 (by decide) (by decide) Scs hcs F162) e160 (argsL := [(.int (97 : Int32))]) (rest := [(.ref b160), (.ref b160), (.ref b133)]) rfl (by rw [hml]; rfl) k173 rfl (H at_86) (lenOf pd__28C_29Ljava_2flang_2fString_3b rfl) (b5 rfl)
          obtain ⟨h174, e174⟩ : ∃ h', T174.heap = h' := ⟨_, rfl⟩
          rw [e174] at hQ174
          obtain ⟨a174, b174, kb174, rfl, N174q, K174, Zx174_0, Zx174_1, Nx174_0, R174_0, R174_1⟩ := hQ174
          have N175 := Fr.app N144 N174q
          have F176 := F162.keep K174 all0
          have F177 := F163.keep K174 nin0
          have F178 := B168.keep K174 nin0
          have Z179 : n0 ≤ h174.size := Nat.le_trans Z164 K174.1
          exact ⟨T174, h174, _, a174, b174, kb174, (97 : Int32), X174, e174, N175, Z179, F177, F178, R174_0, R174_1, F176, (own_ua qu), Or.inl rfl, Zx174_0, Zx174_1, Nx174_0, k174⟩
        · have k180 := f_ifN X160 hx k170 (H at_73) ((if0 _ _).trans (feq qu).1)
          have k181 := f_bp X160 hx k180 (H at_76) (v := 120) rfl
          obtain ⟨_, T182, L182, X182, hQ182, k182⟩ := c_S (W := 3) X160 hx hZ hown (hww 42 rfl) (hww 43 rfl) (hww 44 rfl) (hww 45 rfl) (by decide) (vof l Z a0 hw [] (120 : Int32) cs h160 n0 Z164 (by decide) (by decide) Scs hcs F162) e160 (argsL := [(.int (120 : Int32))]) (rest := [(.ref b160), (.ref b160), (.ref b133)]) rfl (by rw [hml]; rfl) k181 rfl (H at_78) (lenOf pd__28C_29Ljava_2flang_2fString_3b rfl) (b5 rfl)
          obtain ⟨h182, e182⟩ : ∃ h', T182.heap = h' := ⟨_, rfl⟩
          rw [e182] at hQ182
          obtain ⟨a182, b182, kb182, rfl, N182q, K182, Zx182_0, Zx182_1, Nx182_0, R182_0, R182_1⟩ := hQ182
          have N183 := Fr.app N144 N182q
          have F184 := F162.keep K182 all0
          have F185 := F163.keep K182 nin0
          have F186 := B168.keep K182 nin0
          have Z187 : n0 ≤ h182.size := Nat.le_trans Z164 K182.1
          have k188 := f_go X182 hx k182 (H at_81) (pc' := 89) (by decide)
          exact ⟨T182, h182, _, a182, b182, kb182, (120 : Int32), X182, e182, N183, Z187, F185, F186, R182_0, R182_1, F184, (own_ub qu), Or.inr rfl, Zx182_0, Zx182_1, Nx182_0, k188⟩
      have k194 : Rt p e below T171 (mkF m 92 #[si p0, si p1, si p2, si p3, si p4, si nn, si i112, si i121, si i130, sr b133, un, un, un, un, un, un, un, un, un, un, un, un] [vD 4613937818241073152, vR sa0, vR b160, vR b160, vR b133]) s₁ m #[(.int p0), (.int p1), (.int p2), (.int p3), (.int p4)] maxLocals := fun t k => kq171 t (by
        show Sp p e below T171 (mkF m 89 #[si p0, si p1, si p2, si p3, si p4, si nn, si i112, si i121, si i130, sr b133, un, un, un, un, un, un, un, un, un, un, un, un] [vR sa0, vR b160, vR b160, vR b133]) _
        refine X171.ldc2DoubleC hx hown (mvT hZ (hww 312 rfl)) (g := (mkF m 89 #[si p0, si p1, si p2, si p3, si p4, si nn, si i112, si i121, si i130, sr b133, un, un, un, un, un, un, un, un, un, un, un, un] [vR sa0, vR b160, vR b160, vR b133])) rfl (H at_89) _ ?_
        exact k)
      obtain ⟨_, T195, L195, X195, hQ195, k195⟩ := c_N (W := 2) X171 hx hZ hown (hww 313 rfl) (hww 314 rfl) (hww 315 rfl) (hww 311 rfl) rfl (by decide) (sdi l Z a0 hw [] b160 sa0 (4613937818241073152 : UInt64) h171 n0 Zq171 F190 g161) e171 (argsL := [(.ref sa0), (.double (4613937818241073152 : UInt64))]) (rest := [(.ref b160), (.ref b133)]) rfl (by rw [hml]; rfl) k194 rfl (H at_92) (lenOf pd__28Ljava_2flang_2fString_3bD_29V rfl) (b5 rfl)
      obtain ⟨h195, e195⟩ : ∃ h', T195.heap = h' := ⟨_, rfl⟩
      rw [e195] at hQ195
      obtain ⟨rfl, N195q, K195, R195_0⟩ := hQ195
      have N196 := Fr.app N171 N195q
      have F197 := F189.keep K195 (ninS (nL R143_0.lt (Nat.le_of_eq g160.symm)) nin0)
      have F198 := F191.keep K195 (ninS (nG B168.lt ya0) nin0)
      have F199 := F192.keep K195 (ninS (nG B168.lt yb0) nin0)
      have F200 := F193.keep K195 (allS g161 all0)
      have Z201 : n0 ≤ h195.size := Nat.le_trans Zq171 K195.1
      obtain ⟨_, T202, L202, X202, hQ202, k202⟩ := c_V (W := 0) (x := mn24) X195 hx hZ hown (hww 321 rfl) (hww 322 rfl) (notFace_of_selects (args := #[]) (mvT hZ (hww 324 rfl))) (hww 324 rfl) (hww 323 rfl) (hww 325 rfl) (hww 2 rfl) (by decide) F197.1 (add0f l Z a0 hw [] b133 b160 (0 : Int32) de kd h195 n0 Z201 F197 R195_0.1 g134 (nG R143_0.lt (Nat.le_of_eq g160.symm)) Sde Vde F200) e195 (argsL := [(.ref b160)]) (rest := []) rfl (by rw [hml]; rfl) k195 rfl (H at_95) (lenOf pd__28Ljava_2flang_2fObject_3b_29Z rfl) (b5 rfl)
      obtain ⟨h202, e202⟩ : ∃ h', T202.heap = h' := ⟨_, rfl⟩
      rw [e202] at hQ202
      obtain ⟨ea202, ka202, rfl, N202q, K202, Zx202_0, R202_0, R202_1, P202_0⟩ := hQ202
      have N203 := Fr.app N196 N202q
      have F204 := F198.keep K202 (ninS (nG F163.lt ya0) nin0)
      have F205 := F199.keep K202 (ninS (nG F163.lt yb0) nin0)
      have F206 := F200.keep K202 (allS g134 all0)
      have F207 := R195_0.keep K202 (ninS (nG R143_0.lt (Nat.le_of_eq g160.symm)) nin0)
      have Z208 : n0 ≤ h202.size := Nat.le_trans Z201 K202.1
      have k209 := f_pop X202 hx k202 (H at_98) rfl
      have k210 := f_il X202 hx k209 (H at_99) rfl
      have k211 := f_ic X202 hx k210 (H at_101) (v := 2) rfl
      by_cases qn1 : nn < (2 : Int32)
      · have k212 := f_icY X202 hx k211 (H at_102) (pc' := 139) (tlt qn1).1 (by decide)
        have k213 := f_il X202 hx k212 (H at_139) rfl
        have k214 := f_ic X202 hx k213 (H at_141) (v := 3) rfl
        have k215 := f_icY X202 hx k214 (H at_142) (pc' := 177) (tlt (own_lt23 qn1)).1 (by decide)
        exact ⟨T202, h202, _, ((0 : Int32) + (1 : Int32)), (.ref de), ea202, ka202, b160, sa0, sb0, sk0, ch0, 0, 0, 0, 0, (0 : Int32), 0, 0, 0, 0, (0 : Int32), (X202.more (by decide) (by decide)), e202, N203, Z208, F206, (Or.inr (Or.inl ⟨own_eq1 hn3 qn0 qn1, R202_0, R202_1, F207, F205, F204, (Nat.le_trans Z164 ya0), (nL F163.lt ya0), (nG F198.lt Zx202_0), (nL B168.lt ya0), (Ne.symm yn0), hu0, hz0⟩)), k215⟩
      · have k216 := f_icN X202 hx k211 (H at_102) (flt qn1).1
        have k217 := f_al X202 hx k216 (H at_105) rfl
        obtain ⟨T218, h218, X218, e218, E218, A218, D218, -, st218⟩ := newO X202 hx hZ hown (hww 309 rfl) (hww 310 rfl) (hww 311 rfl) e202 (g := (mkF m 107 #[si p0, si p1, si p2, si p3, si p4, si nn, si i112, si i121, si i130, sr b133, un, un, un, un, un, un, un, un, un, un, un, un] [vR b133])) rfl (H at_107) (by decide) (by decide)
        obtain ⟨b218, g218⟩ : ∃ z, z = h202.size := ⟨_, rfl⟩
        rw [← g218] at A218 D218 st218
        have g219 : n0 ≤ b218 := Nat.le_trans Z208 (Nat.le_of_eq g218.symm)
        have F220 := F204.ext E218
        have F221 := F205.ext E218
        have F222 := F206.ext E218
        have F223 := F207.ext E218
        have F224 := R202_0.ext E218
        have F225 := R202_1.ext E218
        have Z226 : n0 ≤ h218.size := Nat.le_trans Z208 E218.1
        have F227 : Fld Z h218 b218 "com/example/multinomial/multinomial/search/ScoredDocument" "id" "Ljava/lang/String;" .null := D218 (Or.inr (hww 318 rfl)) (ty := (.object "java/lang/String")) (by decide)
        have F228 : Fld Z h218 b218 "com/example/multinomial/multinomial/search/ScoredDocument" "score" "D" (.double (0 : UInt64)) := D218 (Or.inr (hww 320 rfl)) (ty := .double) (by decide)
        have k229 : Rt p e below T218 (mkF m 110 #[si p0, si p1, si p2, si p3, si p4, si nn, si i112, si i121, si i130, sr b133, un, un, un, un, un, un, un, un, un, un, un, un] [vR b218, vR b133]) s₁ m #[(.int p0), (.int p1), (.int p2), (.int p3), (.int p4)] maxLocals := fun t k => k217 t (st218 t k)
        have B230 := mkSD A218 F227 F228
        have k231 := f_dup X218 hx k229 (H at_110) rfl
        have k232 := f_il X218 hx k231 (H at_111) rfl
        obtain ⟨T233, h233, Ls233, sa1, sb1, sk1, ch1, X233, e233, N233, Zq233, F259, F260, F261, F262, F263, F264, F265, F266, F267, hu1, hz1, ya1, yb1, yn1, kq233⟩ : ∃ (T233 : State) (h233 : Heap) (Ls233 : List Loc) (sa1 : Addr) (sb1 : Addr) (sk1 : ClassId) (ch1 : Int32), Stand p l e room_1 s m #[(.int p0), (.int p1), (.int p2), (.int p3), (.int p4)] below meth c T233 Ls233 8 27 ∧ T233.heap = h233 ∧ Fr n0 Ls233 ∧ n0 ≤ h233.size ∧ OBJ Z h233 sa0 "java/lang/String" lyST [(.ref sb0), zI, zI, zI] ∧ Arv Z h233 sb0 sk0 .byte (1 : Int32) [(.int ch0)] zI ∧ OBJ Z h233 b160 "com/example/multinomial/multinomial/search/ScoredDocument" lySD [(.ref sa0), (.double (4613937818241073152 : UInt64))] ∧ OBJ Z h233 b133 "java/util/ArrayList" lyLS [(.int ((0 : Int32) + (1 : Int32))), (.ref ea202), (.int (1 : Int32))] ∧ Arv Z h233 ea202 ka202 (.object "java/lang/Object") (10 : Int32) [(.ref b160), .null, .null, .null, .null, .null, .null, .null, .null, .null] .null ∧ OBJ Z h233 b218 "com/example/multinomial/multinomial/search/ScoredDocument" lySD [.null, (.double (0 : UInt64))] ∧ OBJ Z h233 sa1 "java/lang/String" lyST [(.ref sb1), zI, zI, zI] ∧ Arv Z h233 sb1 sk1 .byte (1 : Int32) [(.int ch1)] zI ∧ Old Z n0 h233 ∧ ((i121 = (0 : Int32) → ch1 = (98 : Int32)) ∧ (¬ (i121 = (0 : Int32)) → ch1 = (121 : Int32))) ∧ (ch1 = (98 : Int32) ∨ ch1 = (121 : Int32)) ∧ (h218.size ≤ sa1) ∧ (h218.size ≤ sb1) ∧ (sa1 ≠ sb1) ∧ (Rt p e below T233 (mkF m 129 #[si p0, si p1, si p2, si p3, si p4, si nn, si i112, si i121, si i130, sr b133, un, un, un, un, un, un, un, un, un, un, un, un] [vR sa1, vR b218, vR b218, vR b133]) s₁ m #[(.int p0), (.int p1), (.int p2), (.int p3), (.int p4)] maxLocals) := by
          by_cases qu : i121 = (0 : Int32)
          · have k234 := f_ifY X218 hx k232 (H at_113) (pc' := 124) ((if0 _ _).trans (teq qu).1) (by decide)
            have k235 := f_bp X218 hx k234 (H at_124) (v := 98) rfl
            obtain ⟨_, T236, L236, X236, hQ236, k236⟩ := c_S (W := 3) X218 hx hZ hown (hww 42 rfl) (hww 43 rfl) (hww 44 rfl) (hww 45 rfl) (by decide) (vof l Z a0 hw [] (98 : Int32) cs h218 n0 Z226 (by decide) (by decide) Scs hcs F222) e218 (argsL := [(.int (98 : Int32))]) (rest := [(.ref b218), (.ref b218), (.ref b133)]) rfl (by rw [hml]; rfl) k235 rfl (H at_126) (lenOf pd__28C_29Ljava_2flang_2fString_3b rfl) (b5 rfl)
            obtain ⟨h236, e236⟩ : ∃ h', T236.heap = h' := ⟨_, rfl⟩
            rw [e236] at hQ236
            obtain ⟨a236, b236, kb236, rfl, N236q, K236, Zx236_0, Zx236_1, Nx236_0, R236_0, R236_1⟩ := hQ236
            have N237 := Fr.app N203 N236q
            have F238 := F220.keep K236 nin0
            have F239 := F221.keep K236 nin0
            have F240 := F222.keep K236 all0
            have F241 := F223.keep K236 nin0
            have F242 := F224.keep K236 nin0
            have F243 := F225.keep K236 nin0
            have F244 := B230.keep K236 nin0
            have Z245 : n0 ≤ h236.size := Nat.le_trans Z226 K236.1
            exact ⟨T236, h236, _, a236, b236, kb236, (98 : Int32), X236, e236, N237, Z245, F238, F239, F241, F242, F243, F244, R236_0, R236_1, F240, (own_ua qu), Or.inl rfl, Zx236_0, Zx236_1, Nx236_0, k236⟩
          · have k246 := f_ifN X218 hx k232 (H at_113) ((if0 _ _).trans (feq qu).1)
            have k247 := f_bp X218 hx k246 (H at_116) (v := 121) rfl
            obtain ⟨_, T248, L248, X248, hQ248, k248⟩ := c_S (W := 3) X218 hx hZ hown (hww 42 rfl) (hww 43 rfl) (hww 44 rfl) (hww 45 rfl) (by decide) (vof l Z a0 hw [] (121 : Int32) cs h218 n0 Z226 (by decide) (by decide) Scs hcs F222) e218 (argsL := [(.int (121 : Int32))]) (rest := [(.ref b218), (.ref b218), (.ref b133)]) rfl (by rw [hml]; rfl) k247 rfl (H at_118) (lenOf pd__28C_29Ljava_2flang_2fString_3b rfl) (b5 rfl)
            obtain ⟨h248, e248⟩ : ∃ h', T248.heap = h' := ⟨_, rfl⟩
            rw [e248] at hQ248
            obtain ⟨a248, b248, kb248, rfl, N248q, K248, Zx248_0, Zx248_1, Nx248_0, R248_0, R248_1⟩ := hQ248
            have N249 := Fr.app N203 N248q
            have F250 := F220.keep K248 nin0
            have F251 := F221.keep K248 nin0
            have F252 := F222.keep K248 all0
            have F253 := F223.keep K248 nin0
            have F254 := F224.keep K248 nin0
            have F255 := F225.keep K248 nin0
            have F256 := B230.keep K248 nin0
            have Z257 : n0 ≤ h248.size := Nat.le_trans Z226 K248.1
            have k258 := f_go X248 hx k248 (H at_121) (pc' := 129) (by decide)
            exact ⟨T248, h248, _, a248, b248, kb248, (121 : Int32), X248, e248, N249, Z257, F250, F251, F253, F254, F255, F256, R248_0, R248_1, F252, (own_ub qu), Or.inr rfl, Zx248_0, Zx248_1, Nx248_0, k258⟩
        have k268 : Rt p e below T233 (mkF m 132 #[si p0, si p1, si p2, si p3, si p4, si nn, si i112, si i121, si i130, sr b133, un, un, un, un, un, un, un, un, un, un, un, un] [vD 4611686018427387904, vR sa1, vR b218, vR b218, vR b133]) s₁ m #[(.int p0), (.int p1), (.int p2), (.int p3), (.int p4)] maxLocals := fun t k => kq233 t (by
          show Sp p e below T233 (mkF m 129 #[si p0, si p1, si p2, si p3, si p4, si nn, si i112, si i121, si i130, sr b133, un, un, un, un, un, un, un, un, un, un, un, un] [vR sa1, vR b218, vR b218, vR b133]) _
          refine X233.ldc2DoubleC hx hown (mvT hZ (hww 347 rfl)) (g := (mkF m 129 #[si p0, si p1, si p2, si p3, si p4, si nn, si i112, si i121, si i130, sr b133, un, un, un, un, un, un, un, un, un, un, un, un] [vR sa1, vR b218, vR b218, vR b133])) rfl (H at_129) _ ?_
          exact k)
        obtain ⟨_, T269, L269, X269, hQ269, k269⟩ := c_N (W := 2) X233 hx hZ hown (hww 313 rfl) (hww 314 rfl) (hww 315 rfl) (hww 311 rfl) rfl (by decide) (sdi l Z a0 hw [] b218 sa1 (4611686018427387904 : UInt64) h233 n0 Zq233 F264 g219) e233 (argsL := [(.ref sa1), (.double (4611686018427387904 : UInt64))]) (rest := [(.ref b218), (.ref b133)]) rfl (by rw [hml]; rfl) k268 rfl (H at_132) (lenOf pd__28Ljava_2flang_2fString_3bD_29V rfl) (b5 rfl)
        obtain ⟨h269, e269⟩ : ∃ h', T269.heap = h' := ⟨_, rfl⟩
        rw [e269] at hQ269
        obtain ⟨rfl, N269q, K269, R269_0⟩ := hQ269
        have N270 := Fr.app N233 N269q
        have F271 := F259.keep K269 (ninS (nL F204.lt (Nat.le_of_eq g218.symm)) nin0)
        have F272 := F260.keep K269 (ninS (nL F205.lt (Nat.le_of_eq g218.symm)) nin0)
        have F273 := F261.keep K269 (ninS (nL F207.lt (Nat.le_of_eq g218.symm)) nin0)
        have F274 := F262.keep K269 (ninS (nL R202_0.lt (Nat.le_of_eq g218.symm)) nin0)
        have F275 := F263.keep K269 (ninS (nL R202_1.lt (Nat.le_of_eq g218.symm)) nin0)
        have F276 := F265.keep K269 (ninS (nG B230.lt ya1) nin0)
        have F277 := F266.keep K269 (ninS (nG B230.lt yb1) nin0)
        have F278 := F267.keep K269 (allS g219 all0)
        have Z279 : n0 ≤ h269.size := Nat.le_trans Zq233 K269.1
        obtain ⟨_, T280, L280, X280, hQ280, k280⟩ := c_V (W := 0) (x := mn24) X269 hx hZ hown (hww 321 rfl) (hww 322 rfl) (notFace_of_selects (args := #[]) (mvT hZ (hww 324 rfl))) (hww 324 rfl) (hww 323 rfl) (hww 325 rfl) (hww 2 rfl) (by decide) F274.1 (add1f l Z a0 hw [] b133 b218 ((0 : Int32) + (1 : Int32)) b160 ea202 ka202 h269 n0 Z279 F274 R269_0.1 F275 g134 (Nat.le_trans Z201 Zx202_0) (nG R202_0.lt (Nat.le_of_eq g218.symm)) (nL F197.lt Zx202_0) (nG R202_1.lt (Nat.le_of_eq g218.symm)) P202_0) e269 (argsL := [(.ref b218)]) (rest := []) rfl (by rw [hml]; rfl) k269 rfl (H at_135) (lenOf pd__28Ljava_2flang_2fObject_3b_29Z rfl) (b5 rfl)
        obtain ⟨h280, e280⟩ : ∃ h', T280.heap = h' := ⟨_, rfl⟩
        rw [e280] at hQ280
        obtain ⟨rfl, N280q, K280, R280_0, R280_1⟩ := hQ280
        have N281 := Fr.app N270 N280q
        have F282 := F271.keep K280 (ninS (nG F163.lt ya0) (ninS (nL F198.lt Zx202_0) nin0))
        have F283 := F272.keep K280 (ninS (nG F163.lt yb0) (ninS (nL F199.lt Zx202_0) nin0))
        have F284 := F273.keep K280 (ninS (nG R143_0.lt (Nat.le_of_eq g160.symm)) (ninS (nL R195_0.lt Zx202_0) nin0))
        have F285 := F276.keep K280 (ninS (nG F224.lt ya1) (ninS (nG F225.lt ya1) nin0))
        have F286 := F277.keep K280 (ninS (nG F224.lt yb1) (ninS (nG F225.lt yb1) nin0))
        have F287 := F278.keep K280 (allS g134 (allS (Nat.le_trans Z201 Zx202_0) all0))
        have F288 := R269_0.keep K280 (ninS (nG R202_0.lt (Nat.le_of_eq g218.symm)) (ninS (nG R202_1.lt (Nat.le_of_eq g218.symm)) nin0))
        have Z289 : n0 ≤ h280.size := Nat.le_trans Z279 K280.1
        have k290 := f_pop X280 hx k280 (H at_138) rfl
        have k291 := f_il X280 hx k290 (H at_139) rfl
        have k292 := f_ic X280 hx k291 (H at_141) (v := 3) rfl
        by_cases qn2 : nn < (3 : Int32)
        · have k293 := f_icY X280 hx k292 (H at_142) (pc' := 177) (tlt qn2).1 (by decide)
          exact ⟨T280, h280, _, (((0 : Int32) + (1 : Int32)) + (1 : Int32)), (.ref de), ea202, ka202, b160, sa0, sb0, sk0, ch0, b218, sa1, sb1, sk1, ch1, 0, 0, 0, 0, (0 : Int32), (X280.more (by decide) (by decide)), e280, N281, Z289, F287, (Or.inr (Or.inr (Or.inl ⟨own_eq2 hn3 qn1 qn2, R280_0, R280_1, F284, F288, F283, F286, F282, F285, (Nat.le_trans Z164 ya0), (Nat.le_trans Z226 ya1), (nL F163.lt ya0), (nG F198.lt Zx202_0), (nL B168.lt ya0), (nG F204.lt (Nat.le_of_eq g218.symm)), (Ne.symm yn0), (nG F220.lt yb1), (nL F220.lt ya1), (nL F224.lt ya1), (nL F225.lt ya1), (nL F223.lt ya1), (nL B230.lt ya1), (nL F221.lt ya1), (Ne.symm yn1), hu0, hu1, hz0, hz1⟩))), k293⟩
        · have k294 := f_icN X280 hx k292 (H at_142) (flt qn2).1
          have k295 := f_al X280 hx k294 (H at_145) rfl
          obtain ⟨T296, h296, X296, e296, E296, A296, D296, -, st296⟩ := newO X280 hx hZ hown (hww 309 rfl) (hww 310 rfl) (hww 311 rfl) e280 (g := (mkF m 147 #[si p0, si p1, si p2, si p3, si p4, si nn, si i112, si i121, si i130, sr b133, un, un, un, un, un, un, un, un, un, un, un, un] [vR b133])) rfl (H at_147) (by decide) (by decide)
          obtain ⟨b296, g296⟩ : ∃ z, z = h280.size := ⟨_, rfl⟩
          rw [← g296] at A296 D296 st296
          have g297 : n0 ≤ b296 := Nat.le_trans Z289 (Nat.le_of_eq g296.symm)
          have F298 := F282.ext E296
          have F299 := F283.ext E296
          have F300 := F284.ext E296
          have F301 := F285.ext E296
          have F302 := F286.ext E296
          have F303 := F287.ext E296
          have F304 := F288.ext E296
          have F305 := R280_0.ext E296
          have F306 := R280_1.ext E296
          have Z307 : n0 ≤ h296.size := Nat.le_trans Z289 E296.1
          have F308 : Fld Z h296 b296 "com/example/multinomial/multinomial/search/ScoredDocument" "id" "Ljava/lang/String;" .null := D296 (Or.inr (hww 318 rfl)) (ty := (.object "java/lang/String")) (by decide)
          have F309 : Fld Z h296 b296 "com/example/multinomial/multinomial/search/ScoredDocument" "score" "D" (.double (0 : UInt64)) := D296 (Or.inr (hww 320 rfl)) (ty := .double) (by decide)
          have k310 : Rt p e below T296 (mkF m 150 #[si p0, si p1, si p2, si p3, si p4, si nn, si i112, si i121, si i130, sr b133, un, un, un, un, un, un, un, un, un, un, un, un] [vR b296, vR b133]) s₁ m #[(.int p0), (.int p1), (.int p2), (.int p3), (.int p4)] maxLocals := fun t k => k295 t (st296 t k)
          have B311 := mkSD A296 F308 F309
          have k312 := f_dup X296 hx k310 (H at_150) rfl
          have k313 := f_il X296 hx k312 (H at_151) rfl
          obtain ⟨T314, h314, Ls314, sa2, sb2, sk2, ch2, X314, e314, N314, Zq314, F346, F347, F348, F349, F350, F351, F352, F353, F354, F355, F356, F357, hu2, hz2, ya2, yb2, yn2, kq314⟩ : ∃ (T314 : State) (h314 : Heap) (Ls314 : List Loc) (sa2 : Addr) (sb2 : Addr) (sk2 : ClassId) (ch2 : Int32), Stand p l e room_1 s m #[(.int p0), (.int p1), (.int p2), (.int p3), (.int p4)] below meth c T314 Ls314 11 34 ∧ T314.heap = h314 ∧ Fr n0 Ls314 ∧ n0 ≤ h314.size ∧ OBJ Z h314 sa0 "java/lang/String" lyST [(.ref sb0), zI, zI, zI] ∧ Arv Z h314 sb0 sk0 .byte (1 : Int32) [(.int ch0)] zI ∧ OBJ Z h314 b160 "com/example/multinomial/multinomial/search/ScoredDocument" lySD [(.ref sa0), (.double (4613937818241073152 : UInt64))] ∧ OBJ Z h314 sa1 "java/lang/String" lyST [(.ref sb1), zI, zI, zI] ∧ Arv Z h314 sb1 sk1 .byte (1 : Int32) [(.int ch1)] zI ∧ OBJ Z h314 b218 "com/example/multinomial/multinomial/search/ScoredDocument" lySD [(.ref sa1), (.double (4611686018427387904 : UInt64))] ∧ OBJ Z h314 b133 "java/util/ArrayList" lyLS [(.int (((0 : Int32) + (1 : Int32)) + (1 : Int32))), (.ref ea202), (.int (2 : Int32))] ∧ Arv Z h314 ea202 ka202 (.object "java/lang/Object") (10 : Int32) [(.ref b160), (.ref b218), .null, .null, .null, .null, .null, .null, .null, .null] .null ∧ OBJ Z h314 b296 "com/example/multinomial/multinomial/search/ScoredDocument" lySD [.null, (.double (0 : UInt64))] ∧ OBJ Z h314 sa2 "java/lang/String" lyST [(.ref sb2), zI, zI, zI] ∧ Arv Z h314 sb2 sk2 .byte (1 : Int32) [(.int ch2)] zI ∧ Old Z n0 h314 ∧ ((i130 = (0 : Int32) → ch2 = (99 : Int32)) ∧ (¬ (i130 = (0 : Int32)) → ch2 = (122 : Int32))) ∧ (ch2 = (99 : Int32) ∨ ch2 = (122 : Int32)) ∧ (h296.size ≤ sa2) ∧ (h296.size ≤ sb2) ∧ (sa2 ≠ sb2) ∧ (Rt p e below T314 (mkF m 169 #[si p0, si p1, si p2, si p3, si p4, si nn, si i112, si i121, si i130, sr b133, un, un, un, un, un, un, un, un, un, un, un, un] [vR sa2, vR b296, vR b296, vR b133]) s₁ m #[(.int p0), (.int p1), (.int p2), (.int p3), (.int p4)] maxLocals) := by
            by_cases qu : i130 = (0 : Int32)
            · have k315 := f_ifY X296 hx k313 (H at_153) (pc' := 164) ((if0 _ _).trans (teq qu).1) (by decide)
              have k316 := f_bp X296 hx k315 (H at_164) (v := 99) rfl
              obtain ⟨_, T317, L317, X317, hQ317, k317⟩ := c_S (W := 3) X296 hx hZ hown (hww 42 rfl) (hww 43 rfl) (hww 44 rfl) (hww 45 rfl) (by decide) (vof l Z a0 hw [] (99 : Int32) cs h296 n0 Z307 (by decide) (by decide) Scs hcs F303) e296 (argsL := [(.int (99 : Int32))]) (rest := [(.ref b296), (.ref b296), (.ref b133)]) rfl (by rw [hml]; rfl) k316 rfl (H at_166) (lenOf pd__28C_29Ljava_2flang_2fString_3b rfl) (b5 rfl)
              obtain ⟨h317, e317⟩ : ∃ h', T317.heap = h' := ⟨_, rfl⟩
              rw [e317] at hQ317
              obtain ⟨a317, b317, kb317, rfl, N317q, K317, Zx317_0, Zx317_1, Nx317_0, R317_0, R317_1⟩ := hQ317
              have N318 := Fr.app N281 N317q
              have F319 := F298.keep K317 nin0
              have F320 := F299.keep K317 nin0
              have F321 := F300.keep K317 nin0
              have F322 := F301.keep K317 nin0
              have F323 := F302.keep K317 nin0
              have F324 := F303.keep K317 all0
              have F325 := F304.keep K317 nin0
              have F326 := F305.keep K317 nin0
              have F327 := F306.keep K317 nin0
              have F328 := B311.keep K317 nin0
              have Z329 : n0 ≤ h317.size := Nat.le_trans Z307 K317.1
              exact ⟨T317, h317, _, a317, b317, kb317, (99 : Int32), X317, e317, N318, Z329, F319, F320, F321, F322, F323, F325, F326, F327, F328, R317_0, R317_1, F324, (own_ua qu), Or.inl rfl, Zx317_0, Zx317_1, Nx317_0, k317⟩
            · have k330 := f_ifN X296 hx k313 (H at_153) ((if0 _ _).trans (feq qu).1)
              have k331 := f_bp X296 hx k330 (H at_156) (v := 122) rfl
              obtain ⟨_, T332, L332, X332, hQ332, k332⟩ := c_S (W := 3) X296 hx hZ hown (hww 42 rfl) (hww 43 rfl) (hww 44 rfl) (hww 45 rfl) (by decide) (vof l Z a0 hw [] (122 : Int32) cs h296 n0 Z307 (by decide) (by decide) Scs hcs F303) e296 (argsL := [(.int (122 : Int32))]) (rest := [(.ref b296), (.ref b296), (.ref b133)]) rfl (by rw [hml]; rfl) k331 rfl (H at_158) (lenOf pd__28C_29Ljava_2flang_2fString_3b rfl) (b5 rfl)
              obtain ⟨h332, e332⟩ : ∃ h', T332.heap = h' := ⟨_, rfl⟩
              rw [e332] at hQ332
              obtain ⟨a332, b332, kb332, rfl, N332q, K332, Zx332_0, Zx332_1, Nx332_0, R332_0, R332_1⟩ := hQ332
              have N333 := Fr.app N281 N332q
              have F334 := F298.keep K332 nin0
              have F335 := F299.keep K332 nin0
              have F336 := F300.keep K332 nin0
              have F337 := F301.keep K332 nin0
              have F338 := F302.keep K332 nin0
              have F339 := F303.keep K332 all0
              have F340 := F304.keep K332 nin0
              have F341 := F305.keep K332 nin0
              have F342 := F306.keep K332 nin0
              have F343 := B311.keep K332 nin0
              have Z344 : n0 ≤ h332.size := Nat.le_trans Z307 K332.1
              have k345 := f_go X332 hx k332 (H at_161) (pc' := 169) (by decide)
              exact ⟨T332, h332, _, a332, b332, kb332, (122 : Int32), X332, e332, N333, Z344, F334, F335, F336, F337, F338, F340, F341, F342, F343, R332_0, R332_1, F339, (own_ub qu), Or.inr rfl, Zx332_0, Zx332_1, Nx332_0, k345⟩
          have k358 := f_d1 X314 hx kq314 (H at_169)
          obtain ⟨_, T359, L359, X359, hQ359, k359⟩ := c_N (W := 2) X314 hx hZ hown (hww 313 rfl) (hww 314 rfl) (hww 315 rfl) (hww 311 rfl) rfl (by decide) (sdi l Z a0 hw [] b296 sa2 (4607182418800017408 : UInt64) h314 n0 Zq314 F354 g297) e314 (argsL := [(.ref sa2), (.double (4607182418800017408 : UInt64))]) (rest := [(.ref b296), (.ref b133)]) rfl (by rw [hml]; rfl) k358 rfl (H at_170) (lenOf pd__28Ljava_2flang_2fString_3bD_29V rfl) (b5 rfl)
          obtain ⟨h359, e359⟩ : ∃ h', T359.heap = h' := ⟨_, rfl⟩
          rw [e359] at hQ359
          obtain ⟨rfl, N359q, K359, R359_0⟩ := hQ359
          have N360 := Fr.app N314 N359q
          have F361 := F346.keep K359 (ninS (nL F282.lt (Nat.le_of_eq g296.symm)) nin0)
          have F362 := F347.keep K359 (ninS (nL F283.lt (Nat.le_of_eq g296.symm)) nin0)
          have F363 := F348.keep K359 (ninS (nL F284.lt (Nat.le_of_eq g296.symm)) nin0)
          have F364 := F349.keep K359 (ninS (nL F285.lt (Nat.le_of_eq g296.symm)) nin0)
          have F365 := F350.keep K359 (ninS (nL F286.lt (Nat.le_of_eq g296.symm)) nin0)
          have F366 := F351.keep K359 (ninS (nL F288.lt (Nat.le_of_eq g296.symm)) nin0)
          have F367 := F352.keep K359 (ninS (nL R280_0.lt (Nat.le_of_eq g296.symm)) nin0)
          have F368 := F353.keep K359 (ninS (nL R280_1.lt (Nat.le_of_eq g296.symm)) nin0)
          have F369 := F355.keep K359 (ninS (nG B311.lt ya2) nin0)
          have F370 := F356.keep K359 (ninS (nG B311.lt yb2) nin0)
          have F371 := F357.keep K359 (allS g297 all0)
          have Z372 : n0 ≤ h359.size := Nat.le_trans Zq314 K359.1
          obtain ⟨_, T373, L373, X373, hQ373, k373⟩ := c_V (W := 0) (x := mn24) X359 hx hZ hown (hww 321 rfl) (hww 322 rfl) (notFace_of_selects (args := #[]) (mvT hZ (hww 324 rfl))) (hww 324 rfl) (hww 323 rfl) (hww 325 rfl) (hww 2 rfl) (by decide) F367.1 (add2f l Z a0 hw [] b133 b296 (((0 : Int32) + (1 : Int32)) + (1 : Int32)) b160 b218 ea202 ka202 h359 n0 Z372 F367 R359_0.1 F368 g134 (Nat.le_trans Z201 Zx202_0) (nG R280_0.lt (Nat.le_of_eq g296.symm)) (nL F197.lt Zx202_0) (nG R280_1.lt (Nat.le_of_eq g296.symm)) P202_0) e359 (argsL := [(.ref b296)]) (rest := []) rfl (by rw [hml]; rfl) k359 rfl (H at_173) (lenOf pd__28Ljava_2flang_2fObject_3b_29Z rfl) (b5 rfl)
          obtain ⟨h373, e373⟩ : ∃ h', T373.heap = h' := ⟨_, rfl⟩
          rw [e373] at hQ373
          obtain ⟨rfl, N373q, K373, R373_0, R373_1⟩ := hQ373
          have N374 := Fr.app N360 N373q
          have F375 := F361.keep K373 (ninS (nG F163.lt ya0) (ninS (nL F198.lt Zx202_0) nin0))
          have F376 := F362.keep K373 (ninS (nG F163.lt yb0) (ninS (nL F199.lt Zx202_0) nin0))
          have F377 := F363.keep K373 (ninS (nG R143_0.lt (Nat.le_of_eq g160.symm)) (ninS (nL R195_0.lt Zx202_0) nin0))
          have F378 := F364.keep K373 (ninS (nG F224.lt ya1) (ninS (nG F225.lt ya1) nin0))
          have F379 := F365.keep K373 (ninS (nG F224.lt yb1) (ninS (nG F225.lt yb1) nin0))
          have F380 := F366.keep K373 (ninS (nG R202_0.lt (Nat.le_of_eq g218.symm)) (ninS (nG R202_1.lt (Nat.le_of_eq g218.symm)) nin0))
          have F381 := F369.keep K373 (ninS (nG F305.lt ya2) (ninS (nG F306.lt ya2) nin0))
          have F382 := F370.keep K373 (ninS (nG F305.lt yb2) (ninS (nG F306.lt yb2) nin0))
          have F383 := F371.keep K373 (allS g134 (allS (Nat.le_trans Z201 Zx202_0) all0))
          have F384 := R359_0.keep K373 (ninS (nG R280_0.lt (Nat.le_of_eq g296.symm)) (ninS (nG R280_1.lt (Nat.le_of_eq g296.symm)) nin0))
          have Z385 : n0 ≤ h373.size := Nat.le_trans Z372 K373.1
          have k386 := f_pop X373 hx k373 (H at_176) rfl
          exact ⟨T373, h373, _, ((((0 : Int32) + (1 : Int32)) + (1 : Int32)) + (1 : Int32)), (.ref de), ea202, ka202, b160, sa0, sb0, sk0, ch0, b218, sa1, sb1, sk1, ch1, b296, sa2, sb2, sk2, ch2, (X373.more (by decide) (by decide)), e373, N374, Z385, F383, (Or.inr (Or.inr (Or.inr (⟨own_eq3 hn3 qn2, R373_0, R373_1, F377, F380, F384, F376, F379, F382, F375, F378, F381, (Nat.le_trans Z164 ya0), (Nat.le_trans Z226 ya1), (Nat.le_trans Z307 ya2), (nL F163.lt ya0), (nG F198.lt Zx202_0), (nL B168.lt ya0), (nG F204.lt (Nat.le_of_eq g218.symm)), (nG F282.lt (Nat.le_of_eq g296.symm)), (Ne.symm yn0), (nG F220.lt yb1), (nG F298.lt yb2), (nL F220.lt ya1), (nL F298.lt ya2), (nL F224.lt ya1), (nL F225.lt ya1), (nL F223.lt ya1), (nL B230.lt ya1), (nG F285.lt (Nat.le_of_eq g296.symm)), (nL F221.lt ya1), (Ne.symm yn1), (nG F301.lt yb2), (nL F301.lt ya2), (nL F305.lt ya2), (nL F306.lt ya2), (nL F300.lt ya2), (nL F304.lt ya2), (nL B311.lt ya2), (nL F299.lt ya2), (nL F302.lt ya2), (Ne.symm yn2), hu0, hu1, hu2, hz0, hz1, hz2⟩)))), k386⟩
  have K1 : Keep h150 h150 [] := Keep.refl _ []
  obtain ⟨T388, h388, X388, e388, E388, A388, D388, -, st388⟩ := newO X150 hx hZ hown (hww 26 rfl) (hww 27 rfl) (hww 28 rfl) e150 (g := (mkF m 177 #[si p0, si p1, si p2, si p3, si p4, si nn, si i112, si i121, si i130, sr b133, un, un, un, un, un, un, un, un, un, un, un, un] [])) rfl (H at_177) (by decide) (by decide)
  obtain ⟨b388, g388⟩ : ∃ z, z = h150.size := ⟨_, rfl⟩
  rw [← g388] at A388 D388 st388
  have g389 : n0 ≤ b388 := Nat.le_trans Zq150 (Nat.le_of_eq g388.symm)
  have z390 : h150.size ≤ b388 := Nat.le_trans K1.1 (Nat.le_of_eq g388.symm)
  have F391 := F387.ext E388
  have Z392 : n0 ≤ h388.size := Nat.le_trans Zq150 E388.1
  have K393 := K1.ext E388
  have F394 : Fld Z h388 b388 "java/util/HashMap" "loadFactor" "F" (.float (0 : UInt32)) := D388 (Or.inr (hww 41 rfl)) (ty := .float) (by decide)
  have F395 : Fld Z h388 b388 "java/util/HashMap" "table" "[Ljava/util/HashMap$Node;" .null := D388 (Or.inl (hww 105 rfl)) (ty := (.array (.object "java/util/HashMap$Node"))) (by decide)
  have F396 : Fld Z h388 b388 "java/util/HashMap" "threshold" "I" zI := D388 (Or.inl (hww 112 rfl)) (ty := .int) (by decide)
  have F397 : Fld Z h388 b388 "java/util/HashMap" "modCount" "I" zI := D388 (Or.inl (hww 136 rfl)) (ty := .int) (by decide)
  have F398 : Fld Z h388 b388 "java/util/HashMap" "size" "I" zI := D388 (Or.inl (hww 138 rfl)) (ty := .int) (by decide)
  have F399 : Fld Z h388 b388 "java/util/AbstractMap" "values" "Ljava/util/Collection;" .null := D388 (Or.inl (hww 184 rfl)) (ty := (.object "java/util/Collection")) (by decide)
  have k400 : Rt p e below T388 (mkF m 180 #[si p0, si p1, si p2, si p3, si p4, si nn, si i112, si i121, si i130, sr b133, un, un, un, un, un, un, un, un, un, un, un, un] [vR b388]) s₁ m #[(.int p0), (.int p1), (.int p2), (.int p3), (.int p4)] maxLocals := fun t k => kq150 t (st388 t k)
  have B401 := mkMP A388 F395 F398 F397 F396 F399 F394
  have k402 := f_dup X388 hx k400 (H at_180) rfl
  obtain ⟨_, T403, L403, X403, hQ403, k403⟩ := c_N (W := 1) X388 hx hZ hown (hww 29 rfl) (hww 30 rfl) (hww 31 rfl) (hww 28 rfl) rfl (by decide) (hmi l Z a0 hw [] b388 h388 n0 Z392 B401 g389) e388 (argsL := []) (rest := [(.ref b388)]) rfl (by rw [hml]; rfl) k402 rfl (H at_181) (lenOf pd__28_29V rfl) (b5 rfl)
  obtain ⟨h403, e403⟩ : ∃ h', T403.heap = h' := ⟨_, rfl⟩
  rw [e403] at hQ403
  obtain ⟨rfl, N403q, K403, R403_0⟩ := hQ403
  have N404 := Fr.app N150 N403q
  have F405 := F391.keep K403 (allS g389 all0)
  have Z406 : n0 ≤ h403.size := Nat.le_trans Z392 K403.1
  have K407 := Keep.trans K393 K403 (allS (Or.inr z390) all0)
  have k408 := f_as X403 hx k403 (H at_184) (l' := #[si p0, si p1, si p2, si p3, si p4, si nn, si i112, si i121, si i130, sr b133, sr b388, un, un, un, un, un, un, un, un, un, un, un]) rfl
  have k409 := f_al X403 hx k408 (H at_186) rfl
  have k410 := f_bp X403 hx k409 (H at_188) (v := 97) rfl
  obtain ⟨_, T411, L411, X411, hQ411, k411⟩ := c_S (W := 1) X403 hx hZ hown (hww 42 rfl) (hww 43 rfl) (hww 44 rfl) (hww 45 rfl) (by decide) (vof l Z a0 hw [] (97 : Int32) cs h403 n0 Z406 (by decide) (by decide) Scs hcs F405) e403 (argsL := [(.int (97 : Int32))]) (rest := [(.ref b388)]) rfl (by rw [hml]; rfl) k410 rfl (H at_190) (lenOf pd__28C_29Ljava_2flang_2fString_3b rfl) (b5 rfl)
  obtain ⟨h411, e411⟩ : ∃ h', T411.heap = h' := ⟨_, rfl⟩
  rw [e411] at hQ411
  obtain ⟨a411, b411, kb411, rfl, N411q, K411, Zx411_0, Zx411_1, Nx411_0, R411_0, R411_1⟩ := hQ411
  have N412 := Fr.app N404 N411q
  have F413 := F405.keep K411 all0
  have F414 := R403_0.keep K411 nin0
  have Z415 : n0 ≤ h411.size := Nat.le_trans Z406 K411.1
  have K416 := Keep.trans K407 K411 all0
  have k417 := f_ilN X411 hx k411 (H at_193) rfl
  obtain ⟨_, T418, L418, X418, hQ418, k418⟩ := c_S (W := 2) X411 hx hZ hown (hww 66 rfl) (hww 67 rfl) (hww 68 rfl) (hww 69 rfl) (by decide) (box l Z a0 hw [] p1 ca ce h411 n0 Z415 Shi Sca Bx F413) e411 (argsL := [(.int p1)]) (rest := [(.ref a411), (.ref b388)]) rfl (by rw [hml]; rfl) k417 rfl (H at_194) (lenOf pd__28I_29Ljava_2flang_2fInteger_3b rfl) (b5 rfl)
  obtain ⟨h418, e418⟩ : ∃ h', T418.heap = h' := ⟨_, rfl⟩
  rw [e418] at hQ418
  obtain ⟨b418, rfl, N418q, K418, R418_0, P418_0⟩ := hQ418
  have N419 := Fr.app N412 N418q
  have F420 := F413.keep K418 all0
  have F421 := F414.keep K418 nin0
  have F422 := R411_0.keep K418 nin0
  have F423 := R411_1.keep K418 nin0
  have Z424 : n0 ≤ h418.size := Nat.le_trans Z415 K418.1
  have K425 := Keep.trans K416 K418 all0
  obtain ⟨_, T426, L426, X426, hQ426, k426⟩ := c_V (W := 0) (x := mn36) X418 hx hZ hown (hww 73 rfl) (hww 74 rfl) (notFace_of_selects (args := #[]) (mvT hZ (hww 76 rfl))) (hww 76 rfl) (hww 75 rfl) (hww 77 rfl) (hww 28 rfl) (by decide) F421.1 (put0 l Z a0 hw [] b388 (97 : Int32) a411 b418 (1 : Int32) b411 kb411 cs h418 n0 Z424 F421 F422 F423 g389 (Nat.le_trans Z406 Zx411_0) (nL R403_0.lt Zx411_0) Nx411_0 (nL R403_0.lt Zx411_1) (by decide) (by decide) (by decide) Scs hcs (by decide) (by decide) F420) e418 (argsL := [(.ref a411), (.ref b418)]) (rest := []) rfl (by rw [hml]; rfl) k418 rfl (H at_197) (lenOf pd__28Ljava_2flang_2fObject_3bLjava_2flang_2fObject_3b_29Ljava_2flang_2fObject_3b rfl) (b5 rfl)
  obtain ⟨h426, e426⟩ : ∃ h', T426.heap = h' := ⟨_, rfl⟩
  rw [e426] at hQ426
  obtain ⟨nd426, tb426, kt426, rfl, N426q, K426, Zx426_0, Zx426_1, Nx426_0, R426_0, R426_1, R426_2, R426_3, R426_4, P426_0⟩ := hQ426
  have N427 := Fr.app N419 N426q
  have F428 := F420.keep K426 (allS g389 (allS (Nat.le_trans Z406 Zx411_0) all0))
  have F429 := F423.keep K426 (ninS (nG R403_0.lt Zx411_1) (ninS (Ne.symm Nx411_0) nin0))
  have F430 := R418_0.keep K426 (ninS (own_bxne P418_0 g389 F414.lt) (ninS (own_bxne P418_0 (Nat.le_trans Z406 Zx411_0) R411_0.lt) nin0))
  have Z431 : n0 ≤ h426.size := Nat.le_trans Z424 K426.1
  have K432 := Keep.trans K425 K426 (allS (Or.inr z390) (allS (Or.inr (Nat.le_trans K407.1 Zx411_0)) all0))
  have V433 : Arv Z h426 tb426 kt426 (.object "java/util/HashMap$Node") (16 : Int32) [.null, (.ref nd426), .null, .null, .null, .null, .null, .null, .null, .null, .null, .null, .null, .null, .null, .null] .null := R426_1
  have k434 := f_pop X426 hx k426 (H at_200) rfl
  have k435 := f_al X426 hx k434 (H at_201) rfl
  have k436 := f_bp X426 hx k435 (H at_203) (v := 98) rfl
  obtain ⟨_, T437, L437, X437, hQ437, k437⟩ := c_S (W := 1) X426 hx hZ hown (hww 42 rfl) (hww 43 rfl) (hww 44 rfl) (hww 45 rfl) (by decide) (vof l Z a0 hw [] (98 : Int32) cs h426 n0 Z431 (by decide) (by decide) Scs hcs F428) e426 (argsL := [(.int (98 : Int32))]) (rest := [(.ref b388)]) rfl (by rw [hml]; rfl) k436 rfl (H at_205) (lenOf pd__28C_29Ljava_2flang_2fString_3b rfl) (b5 rfl)
  obtain ⟨h437, e437⟩ : ∃ h', T437.heap = h' := ⟨_, rfl⟩
  rw [e437] at hQ437
  obtain ⟨a437, b437, kb437, rfl, N437q, K437, Zx437_0, Zx437_1, Nx437_0, R437_0, R437_1⟩ := hQ437
  have N438 := Fr.app N427 N437q
  have F439 := F428.keep K437 all0
  have F440 := R426_4.keep K437 nin0
  have F441 := F430.keep K437 nin0
  have F442 := R426_0.keep K437 nin0
  have F443 := V433.keep K437 nin0
  have F444 := R426_2.keep K437 nin0
  have F445 := R426_3.keep K437 nin0
  have Z446 : n0 ≤ h437.size := Nat.le_trans Z431 K437.1
  have K447 := Keep.trans K432 K437 all0
  have k448 := f_ilN X437 hx k437 (H at_208) rfl
  obtain ⟨_, T449, L449, X449, hQ449, k449⟩ := c_S (W := 2) X437 hx hZ hown (hww 66 rfl) (hww 67 rfl) (hww 68 rfl) (hww 69 rfl) (by decide) (box l Z a0 hw [] p2 ca ce h437 n0 Z446 Shi Sca Bx F439) e437 (argsL := [(.int p2)]) (rest := [(.ref a437), (.ref b388)]) rfl (by rw [hml]; rfl) k448 rfl (H at_209) (lenOf pd__28I_29Ljava_2flang_2fInteger_3b rfl) (b5 rfl)
  obtain ⟨h449, e449⟩ : ∃ h', T449.heap = h' := ⟨_, rfl⟩
  rw [e449] at hQ449
  obtain ⟨b449, rfl, N449q, K449, R449_0, P449_0⟩ := hQ449
  have N450 := Fr.app N438 N449q
  have F451 := F439.keep K449 all0
  have F452 := F440.keep K449 nin0
  have F453 := F441.keep K449 nin0
  have F454 := F442.keep K449 nin0
  have F455 := F443.keep K449 nin0
  have F456 := F444.keep K449 nin0
  have F457 := F445.keep K449 nin0
  have F458 := R437_0.keep K449 nin0
  have F459 := R437_1.keep K449 nin0
  have Z460 : n0 ≤ h449.size := Nat.le_trans Z446 K449.1
  have K461 := Keep.trans K447 K449 all0
  obtain ⟨_, T462, L462, X462, hQ462, k462⟩ := c_V (W := 0) (x := mn36) X449 hx hZ hown (hww 73 rfl) (hww 74 rfl) (notFace_of_selects (args := #[]) (mvT hZ (hww 76 rfl))) (hww 76 rfl) (hww 75 rfl) (hww 77 rfl) (hww 28 rfl) (by decide) F454.1 (put1 l Z a0 hw [] b388 (98 : Int32) a437 b449 (2 : Int32) tb426 kt426 [.null, (.ref nd426), .null, .null, .null, .null, .null, .null, .null, .null, .null, .null, .null, .null, .null, .null] (1 : Int32) (1 : Int32) b437 kb437 cs h449 n0 Z460 F454 F455 F458 F459 g389 (Nat.le_trans Z431 Zx437_0) (Nat.le_trans Z424 Zx426_1) (nL R426_0.lt Zx437_0) Nx437_0 (nL R426_0.lt Zx437_1) (nL F421.lt Zx426_1) (nL V433.lt Zx437_0) (nL V433.lt Zx437_1) (by decide) (by decide) (by decide) Scs hcs (by decide) (by decide) rfl rfl P426_0 (by decide) F451) e449 (argsL := [(.ref a437), (.ref b449)]) (rest := []) rfl (by rw [hml]; rfl) k449 rfl (H at_212) (lenOf pd__28Ljava_2flang_2fObject_3bLjava_2flang_2fObject_3b_29Ljava_2flang_2fObject_3b rfl) (b5 rfl)
  obtain ⟨h462, e462⟩ : ∃ h', T462.heap = h' := ⟨_, rfl⟩
  rw [e462] at hQ462
  obtain ⟨nd462, rfl, N462q, K462, Zx462_0, R462_0, R462_1, R462_2, R462_3, R462_4⟩ := hQ462
  have N463 := Fr.app N450 N462q
  have F464 := F451.keep K462 (allS g389 (allS (Nat.le_trans Z431 Zx437_0) (allS (Nat.le_trans Z424 Zx426_1) all0)))
  have F465 := F452.keep K462 (ninS (nG R403_0.lt Zx411_1) (ninS (nL R426_4.lt Zx437_0) (ninS (nL F423.lt Zx426_1) nin0)))
  have F466 := F453.keep K462 (ninS (own_bxne P418_0 g389 F414.lt) (ninS (nL F430.lt Zx437_0) (ninS (nL R418_0.lt Zx426_1) nin0)))
  have F467 := F456.keep K462 (ninS (nG F421.lt Zx426_0) (ninS (nL R426_2.lt Zx437_0) (ninS (Ne.symm Nx426_0) nin0)))
  have F468 := F457.keep K462 (ninS (nG R403_0.lt Zx411_0) (ninS (nL R426_3.lt Zx437_0) (ninS (nL F422.lt Zx426_1) nin0)))
  have F469 := F459.keep K462 (ninS (nG R426_0.lt Zx437_1) (ninS (Ne.symm Nx437_0) (ninS (nG V433.lt Zx437_1) nin0)))
  have F470 := R449_0.keep K462 (ninS (own_bxne P449_0 g389 F442.lt) (ninS (own_bxne P449_0 (Nat.le_trans Z431 Zx437_0) R437_0.lt) (ninS (own_bxne P449_0 (Nat.le_trans Z424 Zx426_1) F443.lt) nin0)))
  have Z471 : n0 ≤ h462.size := Nat.le_trans Z460 K462.1
  have K472 := Keep.trans K461 K462 (allS (Or.inr z390) (allS (Or.inr (Nat.le_trans K432.1 Zx437_0)) (allS (Or.inr (Nat.le_trans K425.1 Zx426_1)) all0)))
  have V473 : Arv Z h462 tb426 kt426 (.object "java/util/HashMap$Node") (16 : Int32) [.null, (.ref nd426), (.ref nd462), .null, .null, .null, .null, .null, .null, .null, .null, .null, .null, .null, .null, .null] .null := R462_1
  rw [show ((1 : Int32) + (1 : Int32)) = (2 : Int32) by decide] at R462_0
  have k474 := f_pop X462 hx k462 (H at_215) rfl
  have k475 := f_al X462 hx k474 (H at_216) rfl
  have k476 := f_bp X462 hx k475 (H at_218) (v := 99) rfl
  obtain ⟨_, T477, L477, X477, hQ477, k477⟩ := c_S (W := 1) X462 hx hZ hown (hww 42 rfl) (hww 43 rfl) (hww 44 rfl) (hww 45 rfl) (by decide) (vof l Z a0 hw [] (99 : Int32) cs h462 n0 Z471 (by decide) (by decide) Scs hcs F464) e462 (argsL := [(.int (99 : Int32))]) (rest := [(.ref b388)]) rfl (by rw [hml]; rfl) k476 rfl (H at_220) (lenOf pd__28C_29Ljava_2flang_2fString_3b rfl) (b5 rfl)
  obtain ⟨h477, e477⟩ : ∃ h', T477.heap = h' := ⟨_, rfl⟩
  rw [e477] at hQ477
  obtain ⟨a477, b477, kb477, rfl, N477q, K477, Zx477_0, Zx477_1, Nx477_0, R477_0, R477_1⟩ := hQ477
  have N478 := Fr.app N463 N477q
  have F479 := F464.keep K477 all0
  have F480 := F465.keep K477 nin0
  have F481 := F466.keep K477 nin0
  have F482 := F467.keep K477 nin0
  have F483 := F468.keep K477 nin0
  have F484 := R462_4.keep K477 nin0
  have F485 := F470.keep K477 nin0
  have F486 := R462_0.keep K477 nin0
  have F487 := V473.keep K477 nin0
  have F488 := R462_2.keep K477 nin0
  have F489 := R462_3.keep K477 nin0
  have Z490 : n0 ≤ h477.size := Nat.le_trans Z471 K477.1
  have K491 := Keep.trans K472 K477 all0
  have k492 := f_ilN X477 hx k477 (H at_223) rfl
  obtain ⟨_, T493, L493, X493, hQ493, k493⟩ := c_S (W := 2) X477 hx hZ hown (hww 66 rfl) (hww 67 rfl) (hww 68 rfl) (hww 69 rfl) (by decide) (box l Z a0 hw [] p3 ca ce h477 n0 Z490 Shi Sca Bx F479) e477 (argsL := [(.int p3)]) (rest := [(.ref a477), (.ref b388)]) rfl (by rw [hml]; rfl) k492 rfl (H at_224) (lenOf pd__28I_29Ljava_2flang_2fInteger_3b rfl) (b5 rfl)
  obtain ⟨h493, e493⟩ : ∃ h', T493.heap = h' := ⟨_, rfl⟩
  rw [e493] at hQ493
  obtain ⟨b493, rfl, N493q, K493, R493_0, P493_0⟩ := hQ493
  have N494 := Fr.app N478 N493q
  have F495 := F479.keep K493 all0
  have F496 := F480.keep K493 nin0
  have F497 := F481.keep K493 nin0
  have F498 := F482.keep K493 nin0
  have F499 := F483.keep K493 nin0
  have F500 := F484.keep K493 nin0
  have F501 := F485.keep K493 nin0
  have F502 := F486.keep K493 nin0
  have F503 := F487.keep K493 nin0
  have F504 := F488.keep K493 nin0
  have F505 := F489.keep K493 nin0
  have F506 := R477_0.keep K493 nin0
  have F507 := R477_1.keep K493 nin0
  have Z508 : n0 ≤ h493.size := Nat.le_trans Z490 K493.1
  have K509 := Keep.trans K491 K493 all0
  obtain ⟨_, T510, L510, X510, hQ510, k510⟩ := c_V (W := 0) (x := mn36) X493 hx hZ hown (hww 73 rfl) (hww 74 rfl) (notFace_of_selects (args := #[]) (mvT hZ (hww 76 rfl))) (hww 76 rfl) (hww 75 rfl) (hww 77 rfl) (hww 28 rfl) (by decide) F502.1 (put1 l Z a0 hw [] b388 (99 : Int32) a477 b493 (3 : Int32) tb426 kt426 [.null, (.ref nd426), (.ref nd462), .null, .null, .null, .null, .null, .null, .null, .null, .null, .null, .null, .null, .null] (2 : Int32) (2 : Int32) b477 kb477 cs h493 n0 Z508 F502 F503 F506 F507 g389 (Nat.le_trans Z471 Zx477_0) (Nat.le_trans Z424 Zx426_1) (nL R462_0.lt Zx477_0) Nx477_0 (nL R462_0.lt Zx477_1) (nL F421.lt Zx426_1) (nL V473.lt Zx477_0) (nL V473.lt Zx477_1) (by decide) (by decide) (by decide) Scs hcs (by decide) (by decide) rfl rfl P426_0 (by decide) F495) e493 (argsL := [(.ref a477), (.ref b493)]) (rest := []) rfl (by rw [hml]; rfl) k493 rfl (H at_227) (lenOf pd__28Ljava_2flang_2fObject_3bLjava_2flang_2fObject_3b_29Ljava_2flang_2fObject_3b rfl) (b5 rfl)
  obtain ⟨h510, e510⟩ : ∃ h', T510.heap = h' := ⟨_, rfl⟩
  rw [e510] at hQ510
  obtain ⟨nd510, rfl, N510q, K510, Zx510_0, R510_0, R510_1, R510_2, R510_3, R510_4⟩ := hQ510
  have N511 := Fr.app N494 N510q
  have F512 := F495.keep K510 (allS g389 (allS (Nat.le_trans Z471 Zx477_0) (allS (Nat.le_trans Z424 Zx426_1) all0)))
  have F513 := F496.keep K510 (ninS (nG R403_0.lt Zx411_1) (ninS (nL F465.lt Zx477_0) (ninS (nL F423.lt Zx426_1) nin0)))
  have F514 := F497.keep K510 (ninS (own_bxne P418_0 g389 F414.lt) (ninS (nL F466.lt Zx477_0) (ninS (nL R418_0.lt Zx426_1) nin0)))
  have F515 := F498.keep K510 (ninS (nG F421.lt Zx426_0) (ninS (nL F467.lt Zx477_0) (ninS (Ne.symm Nx426_0) nin0)))
  have F516 := F499.keep K510 (ninS (nG R403_0.lt Zx411_0) (ninS (nL F468.lt Zx477_0) (ninS (nL F422.lt Zx426_1) nin0)))
  have F517 := F500.keep K510 (ninS (nG R426_0.lt Zx437_1) (ninS (nL R462_4.lt Zx477_0) (ninS (nG V433.lt Zx437_1) nin0)))
  have F518 := F501.keep K510 (ninS (own_bxne P449_0 g389 F442.lt) (ninS (nL F470.lt Zx477_0) (ninS (own_bxne P449_0 (Nat.le_trans Z424 Zx426_1) F443.lt) nin0)))
  have F519 := F504.keep K510 (ninS (nG F454.lt Zx462_0) (ninS (nL R462_2.lt Zx477_0) (ninS (nG F455.lt Zx462_0) nin0)))
  have F520 := F505.keep K510 (ninS (nG R426_0.lt Zx437_0) (ninS (nL R462_3.lt Zx477_0) (ninS (nG V433.lt Zx437_0) nin0)))
  have F521 := F507.keep K510 (ninS (nG R462_0.lt Zx477_1) (ninS (Ne.symm Nx477_0) (ninS (nG V473.lt Zx477_1) nin0)))
  have F522 := R493_0.keep K510 (ninS (own_bxne P493_0 g389 F486.lt) (ninS (own_bxne P493_0 (Nat.le_trans Z471 Zx477_0) R477_0.lt) (ninS (own_bxne P493_0 (Nat.le_trans Z424 Zx426_1) F487.lt) nin0)))
  have Z523 : n0 ≤ h510.size := Nat.le_trans Z508 K510.1
  have K524 := Keep.trans K509 K510 (allS (Or.inr z390) (allS (Or.inr (Nat.le_trans K472.1 Zx477_0)) (allS (Or.inr (Nat.le_trans K425.1 Zx426_1)) all0)))
  have V525 : Arv Z h510 tb426 kt426 (.object "java/util/HashMap$Node") (16 : Int32) [.null, (.ref nd426), (.ref nd462), (.ref nd510), .null, .null, .null, .null, .null, .null, .null, .null, .null, .null, .null, .null] .null := R510_1
  rw [show ((2 : Int32) + (1 : Int32)) = (3 : Int32) by decide] at R510_0
  have k526 := f_pop X510 hx k510 (H at_230) rfl
  have k527 := f_al X510 hx k526 (H at_231) rfl
  have k528 := f_bp X510 hx k527 (H at_233) (v := 100) rfl
  obtain ⟨_, T529, L529, X529, hQ529, k529⟩ := c_S (W := 1) X510 hx hZ hown (hww 42 rfl) (hww 43 rfl) (hww 44 rfl) (hww 45 rfl) (by decide) (vof l Z a0 hw [] (100 : Int32) cs h510 n0 Z523 (by decide) (by decide) Scs hcs F512) e510 (argsL := [(.int (100 : Int32))]) (rest := [(.ref b388)]) rfl (by rw [hml]; rfl) k528 rfl (H at_235) (lenOf pd__28C_29Ljava_2flang_2fString_3b rfl) (b5 rfl)
  obtain ⟨h529, e529⟩ : ∃ h', T529.heap = h' := ⟨_, rfl⟩
  rw [e529] at hQ529
  obtain ⟨a529, b529, kb529, rfl, N529q, K529, Zx529_0, Zx529_1, Nx529_0, R529_0, R529_1⟩ := hQ529
  have N530 := Fr.app N511 N529q
  have F531 := F512.keep K529 all0
  have F532 := F513.keep K529 nin0
  have F533 := F514.keep K529 nin0
  have F534 := F515.keep K529 nin0
  have F535 := F516.keep K529 nin0
  have F536 := F517.keep K529 nin0
  have F537 := F518.keep K529 nin0
  have F538 := F519.keep K529 nin0
  have F539 := F520.keep K529 nin0
  have F540 := R510_4.keep K529 nin0
  have F541 := F522.keep K529 nin0
  have F542 := R510_0.keep K529 nin0
  have F543 := V525.keep K529 nin0
  have F544 := R510_2.keep K529 nin0
  have F545 := R510_3.keep K529 nin0
  have Z546 : n0 ≤ h529.size := Nat.le_trans Z523 K529.1
  have K547 := Keep.trans K524 K529 all0
  have k548 := f_il X529 hx k529 (H at_238) rfl
  obtain ⟨_, T549, L549, X549, hQ549, k549⟩ := c_S (W := 2) X529 hx hZ hown (hww 66 rfl) (hww 67 rfl) (hww 68 rfl) (hww 69 rfl) (by decide) (box l Z a0 hw [] p4 ca ce h529 n0 Z546 Shi Sca Bx F531) e529 (argsL := [(.int p4)]) (rest := [(.ref a529), (.ref b388)]) rfl (by rw [hml]; rfl) k548 rfl (H at_240) (lenOf pd__28I_29Ljava_2flang_2fInteger_3b rfl) (b5 rfl)
  obtain ⟨h549, e549⟩ : ∃ h', T549.heap = h' := ⟨_, rfl⟩
  rw [e549] at hQ549
  obtain ⟨b549, rfl, N549q, K549, R549_0, P549_0⟩ := hQ549
  have N550 := Fr.app N530 N549q
  have F551 := F531.keep K549 all0
  have F552 := F532.keep K549 nin0
  have F553 := F533.keep K549 nin0
  have F554 := F534.keep K549 nin0
  have F555 := F535.keep K549 nin0
  have F556 := F536.keep K549 nin0
  have F557 := F537.keep K549 nin0
  have F558 := F538.keep K549 nin0
  have F559 := F539.keep K549 nin0
  have F560 := F540.keep K549 nin0
  have F561 := F541.keep K549 nin0
  have F562 := F542.keep K549 nin0
  have F563 := F543.keep K549 nin0
  have F564 := F544.keep K549 nin0
  have F565 := F545.keep K549 nin0
  have F566 := R529_0.keep K549 nin0
  have F567 := R529_1.keep K549 nin0
  have Z568 : n0 ≤ h549.size := Nat.le_trans Z546 K549.1
  have K569 := Keep.trans K547 K549 all0
  obtain ⟨_, T570, L570, X570, hQ570, k570⟩ := c_V (W := 0) (x := mn36) X549 hx hZ hown (hww 73 rfl) (hww 74 rfl) (notFace_of_selects (args := #[]) (mvT hZ (hww 76 rfl))) (hww 76 rfl) (hww 75 rfl) (hww 77 rfl) (hww 28 rfl) (by decide) F562.1 (put1 l Z a0 hw [] b388 (100 : Int32) a529 b549 (4 : Int32) tb426 kt426 [.null, (.ref nd426), (.ref nd462), (.ref nd510), .null, .null, .null, .null, .null, .null, .null, .null, .null, .null, .null, .null] (3 : Int32) (3 : Int32) b529 kb529 cs h549 n0 Z568 F562 F563 F566 F567 g389 (Nat.le_trans Z523 Zx529_0) (Nat.le_trans Z424 Zx426_1) (nL R510_0.lt Zx529_0) Nx529_0 (nL R510_0.lt Zx529_1) (nL F421.lt Zx426_1) (nL V525.lt Zx529_0) (nL V525.lt Zx529_1) (by decide) (by decide) (by decide) Scs hcs (by decide) (by decide) rfl rfl P426_0 (by decide) F551) e549 (argsL := [(.ref a529), (.ref b549)]) (rest := []) rfl (by rw [hml]; rfl) k549 rfl (H at_243) (lenOf pd__28Ljava_2flang_2fObject_3bLjava_2flang_2fObject_3b_29Ljava_2flang_2fObject_3b rfl) (b5 rfl)
  obtain ⟨h570, e570⟩ : ∃ h', T570.heap = h' := ⟨_, rfl⟩
  rw [e570] at hQ570
  obtain ⟨nd570, rfl, N570q, K570, Zx570_0, R570_0, R570_1, R570_2, R570_3, R570_4⟩ := hQ570
  have N571 := Fr.app N550 N570q
  have F572 := F551.keep K570 (allS g389 (allS (Nat.le_trans Z523 Zx529_0) (allS (Nat.le_trans Z424 Zx426_1) all0)))
  have F573 := F552.keep K570 (ninS (nG R403_0.lt Zx411_1) (ninS (nL F513.lt Zx529_0) (ninS (nL F423.lt Zx426_1) nin0)))
  have F574 := F553.keep K570 (ninS (own_bxne P418_0 g389 F414.lt) (ninS (nL F514.lt Zx529_0) (ninS (nL R418_0.lt Zx426_1) nin0)))
  have F575 := F554.keep K570 (ninS (nG F421.lt Zx426_0) (ninS (nL F515.lt Zx529_0) (ninS (Ne.symm Nx426_0) nin0)))
  have F576 := F555.keep K570 (ninS (nG R403_0.lt Zx411_0) (ninS (nL F516.lt Zx529_0) (ninS (nL F422.lt Zx426_1) nin0)))
  have F577 := F556.keep K570 (ninS (nG R426_0.lt Zx437_1) (ninS (nL F517.lt Zx529_0) (ninS (nG V433.lt Zx437_1) nin0)))
  have F578 := F557.keep K570 (ninS (own_bxne P449_0 g389 F442.lt) (ninS (nL F518.lt Zx529_0) (ninS (own_bxne P449_0 (Nat.le_trans Z424 Zx426_1) F443.lt) nin0)))
  have F579 := F558.keep K570 (ninS (nG F454.lt Zx462_0) (ninS (nL F519.lt Zx529_0) (ninS (nG F455.lt Zx462_0) nin0)))
  have F580 := F559.keep K570 (ninS (nG R426_0.lt Zx437_0) (ninS (nL F520.lt Zx529_0) (ninS (nG V433.lt Zx437_0) nin0)))
  have F581 := F560.keep K570 (ninS (nG R462_0.lt Zx477_1) (ninS (nL R510_4.lt Zx529_0) (ninS (nG V473.lt Zx477_1) nin0)))
  have F582 := F561.keep K570 (ninS (own_bxne P493_0 g389 F486.lt) (ninS (nL F522.lt Zx529_0) (ninS (own_bxne P493_0 (Nat.le_trans Z424 Zx426_1) F487.lt) nin0)))
  have F583 := F564.keep K570 (ninS (nG F502.lt Zx510_0) (ninS (nL R510_2.lt Zx529_0) (ninS (nG F503.lt Zx510_0) nin0)))
  have F584 := F565.keep K570 (ninS (nG R462_0.lt Zx477_0) (ninS (nL R510_3.lt Zx529_0) (ninS (nG V473.lt Zx477_0) nin0)))
  have F585 := F567.keep K570 (ninS (nG R510_0.lt Zx529_1) (ninS (Ne.symm Nx529_0) (ninS (nG V525.lt Zx529_1) nin0)))
  have F586 := R549_0.keep K570 (ninS (own_bxne P549_0 g389 F542.lt) (ninS (own_bxne P549_0 (Nat.le_trans Z523 Zx529_0) R529_0.lt) (ninS (own_bxne P549_0 (Nat.le_trans Z424 Zx426_1) F543.lt) nin0)))
  have Z587 : n0 ≤ h570.size := Nat.le_trans Z568 K570.1
  have K588 := Keep.trans K569 K570 (allS (Or.inr z390) (allS (Or.inr (Nat.le_trans K524.1 Zx529_0)) (allS (Or.inr (Nat.le_trans K425.1 Zx426_1)) all0)))
  have V589 : Arv Z h570 tb426 kt426 (.object "java/util/HashMap$Node") (16 : Int32) [.null, (.ref nd426), (.ref nd462), (.ref nd510), (.ref nd570), .null, .null, .null, .null, .null, .null, .null, .null, .null, .null, .null] .null := R570_1
  rw [show ((3 : Int32) + (1 : Int32)) = (4 : Int32) by decide] at R570_0
  have k590 := f_pop X570 hx k570 (H at_246) rfl
  obtain ⟨T591, h591, X591, e591, E591, A591, D591, -, st591⟩ := newO X570 hx hZ hown (hww 144 rfl) (hww 145 rfl) (hww 146 rfl) e570 (g := (mkF m 247 #[si p0, si p1, si p2, si p3, si p4, si nn, si i112, si i121, si i130, sr b133, sr b388, un, un, un, un, un, un, un, un, un, un, un] [])) rfl (H at_247) (by decide) (by decide)
  obtain ⟨b591, g591⟩ : ∃ z, z = h570.size := ⟨_, rfl⟩
  rw [← g591] at A591 D591 st591
  have g592 : n0 ≤ b591 := Nat.le_trans Z587 (Nat.le_of_eq g591.symm)
  have z593 : h150.size ≤ b591 := Nat.le_trans K588.1 (Nat.le_of_eq g591.symm)
  have F594 := F572.ext E591
  have F595 := F573.ext E591
  have F596 := F574.ext E591
  have F597 := F575.ext E591
  have F598 := F576.ext E591
  have F599 := F577.ext E591
  have F600 := F578.ext E591
  have F601 := F579.ext E591
  have F602 := F580.ext E591
  have F603 := F581.ext E591
  have F604 := F582.ext E591
  have F605 := F583.ext E591
  have F606 := F584.ext E591
  have F607 := R570_4.ext E591
  have F608 := F586.ext E591
  have F609 := R570_0.ext E591
  have F610 := V589.ext E591
  have F611 := R570_2.ext E591
  have F612 := R570_3.ext E591
  have Z613 : n0 ≤ h591.size := Nat.le_trans Z587 E591.1
  have K614 := K588.ext E591
  have F615 : Fld Z h591 b591 "com/example/multinomial/multinomial/eval/JudgedRanking" "gains" "[I" .null := D591 (Or.inr (hww 164 rfl)) (ty := (.array .int)) (by decide)
  have F616 : Fld Z h591 b591 "com/example/multinomial/multinomial/eval/JudgedRanking" "idealGains" "[I" .null := D591 (Or.inr (hww 298 rfl)) (ty := (.array .int)) (by decide)
  have k617 : Rt p e below T591 (mkF m 250 #[si p0, si p1, si p2, si p3, si p4, si nn, si i112, si i121, si i130, sr b133, sr b388, un, un, un, un, un, un, un, un, un, un, un] [vR b591]) s₁ m #[(.int p0), (.int p1), (.int p2), (.int p3), (.int p4)] maxLocals := fun t k => k590 t (st591 t k)
  have B618 := mkJR A591 F615 F616
  have k619 := f_dup X591 hx k617 (H at_250) rfl
  have k620 := f_al X591 hx k619 (H at_251) rfl
  have k621 := f_al X591 hx k620 (H at_253) rfl
  obtain ⟨T622, h622, Ls622, bg, kg, gl, g0, g1, g2, bi, ki, il, cn, X622, e622, N622, Zq622, F635, F636, F637, hgl, hgu0, hgu1, hgu2, hcn, kq622⟩ : ∃ (T622 : State) (h622 : Heap) (Ls622 : List Loc) (bg : Addr) (kg : ClassId) (gl : List Value) (g0 : Int32) (g1 : Int32) (g2 : Int32) (bi : Addr) (ki : ClassId) (il : List Value) (cn : Int32), Stand p l e room_1 s m #[(.int p0), (.int p1), (.int p2), (.int p3), (.int p4)] below meth c T622 Ls622 40 130 ∧ T622.heap = h622 ∧ Fr n0 Ls622 ∧ n0 ≤ h622.size ∧ OBJ Z h622 b591 "com/example/multinomial/multinomial/eval/JudgedRanking" lyJR [(.ref bg), (.ref bi)] ∧ Arv Z h622 bg kg .int nn gl zI ∧ Arv Z h622 bi ki .int cn il zI ∧ ((nn = (0 : Int32) ∧ gl = []) ∨ (nn = (1 : Int32) ∧ gl = [(.int g0)]) ∨ (nn = (2 : Int32) ∧ gl = [(.int g0), (.int g1)]) ∨ (nn = (3 : Int32) ∧ gl = [(.int g0), (.int g1), (.int g2)])) ∧ (((0 : Int32) < nn → g0 = (if i112 = (0 : Int32) then (if p1 < (0 : Int32) then (0 : Int32) else p1) else (0 : Int32)))) ∧ (((1 : Int32) < nn → g1 = (if i121 = (0 : Int32) then (if p2 < (0 : Int32) then (0 : Int32) else p2) else (0 : Int32)))) ∧ (((2 : Int32) < nn → g2 = (if i130 = (0 : Int32) then (if p3 < (0 : Int32) then (0 : Int32) else p3) else (0 : Int32)))) ∧ (cn = ((((0 : Int32) + (if (0 : Int32) < p1 then (1 : Int32) else (0 : Int32))) + (if (0 : Int32) < p2 then (1 : Int32) else (0 : Int32))) + (if (0 : Int32) < p3 then (1 : Int32) else (0 : Int32))) + (if (0 : Int32) < p4 then (1 : Int32) else (0 : Int32))) ∧ (Rt p e below T622 (mkF m 258 #[si p0, si p1, si p2, si p3, si p4, si nn, si i112, si i121, si i130, sr b133, sr b388, un, un, un, un, un, un, un, un, un, un, un] [vR b591]) s₁ m #[(.int p0), (.int p1), (.int p2), (.int p3), (.int p4)] maxLocals) := by
    rcases LB with ⟨en, Ld0⟩ | ⟨en, Ld0, Ld1, Ld2, Ld3, Le0, gI0, lN0, lN1, lN2, lN3, hu0, hz0⟩ | ⟨en, Ld0, Ld1, Ld2, Ld3, Ld4, Ld5, Le0, Le1, gI0, gI1, lN0, lN1, lN2, lN3, lN4, lN5, lN6, lN7, lN8, lN9, lN10, lN11, lN12, hu0, hu1, hz0, hz1⟩ | ⟨en, Ld0, Ld1, Ld2, Ld3, Ld4, Ld5, Ld6, Ld7, Le0, Le1, Le2, gI0, gI1, gI2, lN0, lN1, lN2, lN3, lN4, lN5, lN6, lN7, lN8, lN9, lN10, lN11, lN12, lN13, lN14, lN15, lN16, lN17, lN18, lN19, lN20, lN21, lN22, lN23, lN24, lN25, lN26, hu0, hu1, hu2, hz0, hz1, hz2⟩
    · obtain ⟨_, T623, L623, X623, hQ623, k623⟩ := c_N (W := 1) X591 hx hZ hown (hww 147 rfl) (hww 148 rfl) (hww 149 rfl) (hww 146 rfl) rfl (by decide) (jri l Z a0 hw [] b591 b133 nn lm ev ea ka do0 b388 ib0 ik0 ch0 do1 b388 ib1 ik1 ch1 do2 b388 ib2 ik2 ch2 b388 tb426 kt426 (4 : Int32) nd426 a411 b411 kb411 b418 p1 nd462 a437 b437 kb437 b449 p2 nd510 a477 b477 kb477 b493 p3 nd570 a529 b529 kb529 b549 p4 cs ca ce h591 n0 Z613 B618 F609 g592 g389 g389 g389 g389 (nG R570_0.lt (Nat.le_of_eq g591.symm)) F610 F597 F598 F595 F596 F601 F602 F599 F600 F605 F606 F603 F604 F611 F612 F607 F608 (ninS (nL V589.lt (Nat.le_of_eq g591.symm)) (ninS (nG F421.lt Zx426_1) (ninS (nG F421.lt Zx426_1) (ninS (nG F421.lt Zx426_1) (ninS (nG F421.lt Zx426_1) nin0))))) (ninS (nL F575.lt (Nat.le_of_eq g591.symm)) (ninS (nG F421.lt Zx426_0) (ninS (nG F421.lt Zx426_0) (ninS (nG F421.lt Zx426_0) (ninS (nG F421.lt Zx426_0) nin0))))) (ninS (nL F576.lt (Nat.le_of_eq g591.symm)) (ninS (nG R403_0.lt Zx411_0) (ninS (nG R403_0.lt Zx411_0) (ninS (nG R403_0.lt Zx411_0) (ninS (nG R403_0.lt Zx411_0) nin0))))) (ninS (nL F573.lt (Nat.le_of_eq g591.symm)) (ninS (nG R403_0.lt Zx411_1) (ninS (nG R403_0.lt Zx411_1) (ninS (nG R403_0.lt Zx411_1) (ninS (nG R403_0.lt Zx411_1) nin0))))) (ninS (nL F574.lt (Nat.le_of_eq g591.symm)) (ninS (own_bxne P418_0 g389 F414.lt) (ninS (own_bxne P418_0 g389 F414.lt) (ninS (own_bxne P418_0 g389 F414.lt) (ninS (own_bxne P418_0 g389 F414.lt) nin0))))) (ninS (nL F579.lt (Nat.le_of_eq g591.symm)) (ninS (nG F454.lt Zx462_0) (ninS (nG F454.lt Zx462_0) (ninS (nG F454.lt Zx462_0) (ninS (nG F454.lt Zx462_0) nin0))))) (ninS (nL F580.lt (Nat.le_of_eq g591.symm)) (ninS (nG R426_0.lt Zx437_0) (ninS (nG R426_0.lt Zx437_0) (ninS (nG R426_0.lt Zx437_0) (ninS (nG R426_0.lt Zx437_0) nin0))))) (ninS (nL F577.lt (Nat.le_of_eq g591.symm)) (ninS (nG R426_0.lt Zx437_1) (ninS (nG R426_0.lt Zx437_1) (ninS (nG R426_0.lt Zx437_1) (ninS (nG R426_0.lt Zx437_1) nin0))))) (ninS (nL F578.lt (Nat.le_of_eq g591.symm)) (ninS (own_bxne P449_0 g389 F442.lt) (ninS (own_bxne P449_0 g389 F442.lt) (ninS (own_bxne P449_0 g389 F442.lt) (ninS (own_bxne P449_0 g389 F442.lt) nin0))))) (ninS (nL F583.lt (Nat.le_of_eq g591.symm)) (ninS (nG F502.lt Zx510_0) (ninS (nG F502.lt Zx510_0) (ninS (nG F502.lt Zx510_0) (ninS (nG F502.lt Zx510_0) nin0))))) (ninS (nL F584.lt (Nat.le_of_eq g591.symm)) (ninS (nG R462_0.lt Zx477_0) (ninS (nG R462_0.lt Zx477_0) (ninS (nG R462_0.lt Zx477_0) (ninS (nG R462_0.lt Zx477_0) nin0))))) (ninS (nL F581.lt (Nat.le_of_eq g591.symm)) (ninS (nG R462_0.lt Zx477_1) (ninS (nG R462_0.lt Zx477_1) (ninS (nG R462_0.lt Zx477_1) (ninS (nG R462_0.lt Zx477_1) nin0))))) (ninS (nL F582.lt (Nat.le_of_eq g591.symm)) (ninS (own_bxne P493_0 g389 F486.lt) (ninS (own_bxne P493_0 g389 F486.lt) (ninS (own_bxne P493_0 g389 F486.lt) (ninS (own_bxne P493_0 g389 F486.lt) nin0))))) (ninS (nL R570_2.lt (Nat.le_of_eq g591.symm)) (ninS (nG F562.lt Zx570_0) (ninS (nG F562.lt Zx570_0) (ninS (nG F562.lt Zx570_0) (ninS (nG F562.lt Zx570_0) nin0))))) (ninS (nL R570_3.lt (Nat.le_of_eq g591.symm)) (ninS (nG R510_0.lt Zx529_0) (ninS (nG R510_0.lt Zx529_0) (ninS (nG R510_0.lt Zx529_0) (ninS (nG R510_0.lt Zx529_0) nin0))))) (ninS (nL R570_4.lt (Nat.le_of_eq g591.symm)) (ninS (nG R510_0.lt Zx529_1) (ninS (nG R510_0.lt Zx529_1) (ninS (nG R510_0.lt Zx529_1) (ninS (nG R510_0.lt Zx529_1) nin0))))) (ninS (nL F586.lt (Nat.le_of_eq g591.symm)) (ninS (own_bxne P549_0 g389 F542.lt) (ninS (own_bxne P549_0 g389 F542.lt) (ninS (own_bxne P549_0 g389 F542.lt) (ninS (own_bxne P549_0 g389 F542.lt) nin0))))) Scs hcs Shi Sca Bx (Or.inl ⟨en, (Ld0.keep K614 nin0), (ninS (nL Ld0.lt z593) (ninS (nL Ld0.lt z390) (ninS (nL Ld0.lt z390) (ninS (nL Ld0.lt z390) (ninS (nL Ld0.lt z390) nin0)))))⟩) F594) e591 (argsL := [(.ref b133), (.ref b388)]) (rest := [(.ref b591)]) rfl (by rw [hml]; rfl) k621 rfl (H at_255) (lenOf pd__28Ljava_2futil_2fList_3bLjava_2futil_2fMap_3b_29V rfl) (b5 rfl)
      obtain ⟨h623, e623⟩ : ∃ h', T623.heap = h' := ⟨_, rfl⟩
      rw [e623] at hQ623
      obtain ⟨bg623, kg623, gl623, g0623, g1623, g2623, bi623, ki623, il623, cn623, rfl, N623q, K623, R623_0, R623_1, R623_2, P623_0, P623_1, P623_2, P623_3, P623_4⟩ := hQ623
      have N624 := Fr.app N571 N623q
      have Z625 : n0 ≤ h623.size := Nat.le_trans Z613 K623.1
      exact ⟨T623, h623, _, bg623, kg623, gl623, g0623, g1623, g2623, bi623, ki623, il623, cn623, X623, e623, N624, Z625, R623_0, R623_1, R623_2, P623_0, (fun q => absurd (en ▸ q) (by decide)), (fun q => absurd (en ▸ q) (by decide)), (fun q => absurd (en ▸ q) (by decide)), P623_4, k623⟩
    · obtain ⟨_, T626, L626, X626, hQ626, k626⟩ := c_N (W := 1) X591 hx hZ hown (hww 147 rfl) (hww 148 rfl) (hww 149 rfl) (hww 146 rfl) rfl (by decide) (jri l Z a0 hw [] b591 b133 nn lm ev ea ka do0 id0 ib0 ik0 ch0 do1 b388 ib1 ik1 ch1 do2 b388 ib2 ik2 ch2 b388 tb426 kt426 (4 : Int32) nd426 a411 b411 kb411 b418 p1 nd462 a437 b437 kb437 b449 p2 nd510 a477 b477 kb477 b493 p3 nd570 a529 b529 kb529 b549 p4 cs ca ce h591 n0 Z613 B618 F609 g592 g389 gI0 g389 g389 (nG R570_0.lt (Nat.le_of_eq g591.symm)) F610 F597 F598 F595 F596 F601 F602 F599 F600 F605 F606 F603 F604 F611 F612 F607 F608 (ninS (nL V589.lt (Nat.le_of_eq g591.symm)) (ninS (nG F421.lt Zx426_1) (ninS (nG Le0.lt (Nat.le_trans K425.1 Zx426_1)) (ninS (nG F421.lt Zx426_1) (ninS (nG F421.lt Zx426_1) nin0))))) (ninS (nL F575.lt (Nat.le_of_eq g591.symm)) (ninS (nG F421.lt Zx426_0) (ninS (nG Le0.lt (Nat.le_trans K425.1 Zx426_0)) (ninS (nG F421.lt Zx426_0) (ninS (nG F421.lt Zx426_0) nin0))))) (ninS (nL F576.lt (Nat.le_of_eq g591.symm)) (ninS (nG R403_0.lt Zx411_0) (ninS (nG Le0.lt (Nat.le_trans K407.1 Zx411_0)) (ninS (nG R403_0.lt Zx411_0) (ninS (nG R403_0.lt Zx411_0) nin0))))) (ninS (nL F573.lt (Nat.le_of_eq g591.symm)) (ninS (nG R403_0.lt Zx411_1) (ninS (nG Le0.lt (Nat.le_trans K407.1 Zx411_1)) (ninS (nG R403_0.lt Zx411_1) (ninS (nG R403_0.lt Zx411_1) nin0))))) (ninS (nL F574.lt (Nat.le_of_eq g591.symm)) (ninS (own_bxne P418_0 g389 F414.lt) (ninS (own_bxn2 P418_0 gI0 Le0.lt K416.1) (ninS (own_bxne P418_0 g389 F414.lt) (ninS (own_bxne P418_0 g389 F414.lt) nin0))))) (ninS (nL F579.lt (Nat.le_of_eq g591.symm)) (ninS (nG F454.lt Zx462_0) (ninS (nG Le0.lt (Nat.le_trans K461.1 Zx462_0)) (ninS (nG F454.lt Zx462_0) (ninS (nG F454.lt Zx462_0) nin0))))) (ninS (nL F580.lt (Nat.le_of_eq g591.symm)) (ninS (nG R426_0.lt Zx437_0) (ninS (nG Le0.lt (Nat.le_trans K432.1 Zx437_0)) (ninS (nG R426_0.lt Zx437_0) (ninS (nG R426_0.lt Zx437_0) nin0))))) (ninS (nL F577.lt (Nat.le_of_eq g591.symm)) (ninS (nG R426_0.lt Zx437_1) (ninS (nG Le0.lt (Nat.le_trans K432.1 Zx437_1)) (ninS (nG R426_0.lt Zx437_1) (ninS (nG R426_0.lt Zx437_1) nin0))))) (ninS (nL F578.lt (Nat.le_of_eq g591.symm)) (ninS (own_bxne P449_0 g389 F442.lt) (ninS (own_bxn2 P449_0 gI0 Le0.lt K447.1) (ninS (own_bxne P449_0 g389 F442.lt) (ninS (own_bxne P449_0 g389 F442.lt) nin0))))) (ninS (nL F583.lt (Nat.le_of_eq g591.symm)) (ninS (nG F502.lt Zx510_0) (ninS (nG Le0.lt (Nat.le_trans K509.1 Zx510_0)) (ninS (nG F502.lt Zx510_0) (ninS (nG F502.lt Zx510_0) nin0))))) (ninS (nL F584.lt (Nat.le_of_eq g591.symm)) (ninS (nG R462_0.lt Zx477_0) (ninS (nG Le0.lt (Nat.le_trans K472.1 Zx477_0)) (ninS (nG R462_0.lt Zx477_0) (ninS (nG R462_0.lt Zx477_0) nin0))))) (ninS (nL F581.lt (Nat.le_of_eq g591.symm)) (ninS (nG R462_0.lt Zx477_1) (ninS (nG Le0.lt (Nat.le_trans K472.1 Zx477_1)) (ninS (nG R462_0.lt Zx477_1) (ninS (nG R462_0.lt Zx477_1) nin0))))) (ninS (nL F582.lt (Nat.le_of_eq g591.symm)) (ninS (own_bxne P493_0 g389 F486.lt) (ninS (own_bxn2 P493_0 gI0 Le0.lt K491.1) (ninS (own_bxne P493_0 g389 F486.lt) (ninS (own_bxne P493_0 g389 F486.lt) nin0))))) (ninS (nL R570_2.lt (Nat.le_of_eq g591.symm)) (ninS (nG F562.lt Zx570_0) (ninS (nG Le0.lt (Nat.le_trans K569.1 Zx570_0)) (ninS (nG F562.lt Zx570_0) (ninS (nG F562.lt Zx570_0) nin0))))) (ninS (nL R570_3.lt (Nat.le_of_eq g591.symm)) (ninS (nG R510_0.lt Zx529_0) (ninS (nG Le0.lt (Nat.le_trans K524.1 Zx529_0)) (ninS (nG R510_0.lt Zx529_0) (ninS (nG R510_0.lt Zx529_0) nin0))))) (ninS (nL R570_4.lt (Nat.le_of_eq g591.symm)) (ninS (nG R510_0.lt Zx529_1) (ninS (nG Le0.lt (Nat.le_trans K524.1 Zx529_1)) (ninS (nG R510_0.lt Zx529_1) (ninS (nG R510_0.lt Zx529_1) nin0))))) (ninS (nL F586.lt (Nat.le_of_eq g591.symm)) (ninS (own_bxne P549_0 g389 F542.lt) (ninS (own_bxn2 P549_0 gI0 Le0.lt K547.1) (ninS (own_bxne P549_0 g389 F542.lt) (ninS (own_bxne P549_0 g389 F542.lt) nin0))))) Scs hcs Shi Sca Bx (Or.inr (Or.inl ⟨en, (Ld0.keep K614 nin0), (Ld1.keep K614 nin0), (Ld2.keep K614 nin0), (Ld3.keep K614 nin0), (Le0.keep K614 nin0), (ninS (nL Ld0.lt z593) (ninS (nL Ld0.lt z390) (ninS lN0 (ninS (nL Ld0.lt z390) (ninS (nL Ld0.lt z390) nin0))))), (ninS (nL Ld1.lt z593) (ninS (nL Ld1.lt z390) (ninS lN1 (ninS (nL Ld1.lt z390) (ninS (nL Ld1.lt z390) nin0))))), (ninS (nL Ld2.lt z593) (ninS (nL Ld2.lt z390) (ninS lN2 (ninS (nL Ld2.lt z390) (ninS (nL Ld2.lt z390) nin0))))), (ninS (nL Ld3.lt z593) (ninS (nL Ld3.lt z390) (ninS lN3 (ninS (nL Ld3.lt z390) (ninS (nL Ld3.lt z390) nin0))))), (nG Le0.lt z593), (nG Le0.lt z390), hz0⟩)) F594) e591 (argsL := [(.ref b133), (.ref b388)]) (rest := [(.ref b591)]) rfl (by rw [hml]; rfl) k621 rfl (H at_255) (lenOf pd__28Ljava_2futil_2fList_3bLjava_2futil_2fMap_3b_29V rfl) (b5 rfl)
      obtain ⟨h626, e626⟩ : ∃ h', T626.heap = h' := ⟨_, rfl⟩
      rw [e626] at hQ626
      obtain ⟨bg626, kg626, gl626, g0626, g1626, g2626, bi626, ki626, il626, cn626, rfl, N626q, K626, R626_0, R626_1, R626_2, P626_0, P626_1, P626_2, P626_3, P626_4⟩ := hQ626
      have N627 := Fr.app N571 N626q
      have Z628 : n0 ≤ h626.size := Nat.le_trans Z613 K626.1
      exact ⟨T626, h626, _, bg626, kg626, gl626, g0626, g1626, g2626, bi626, ki626, il626, cn626, X626, e626, N627, Z628, R626_0, R626_1, R626_2, P626_0, (fun q => own_gu (P626_1 q) hu0), (fun q => absurd (en ▸ q) (by decide)), (fun q => absurd (en ▸ q) (by decide)), P626_4, k626⟩
    · obtain ⟨_, T629, L629, X629, hQ629, k629⟩ := c_N (W := 1) X591 hx hZ hown (hww 147 rfl) (hww 148 rfl) (hww 149 rfl) (hww 146 rfl) rfl (by decide) (jri l Z a0 hw [] b591 b133 nn lm ev ea ka do0 id0 ib0 ik0 ch0 do1 id1 ib1 ik1 ch1 do2 b388 ib2 ik2 ch2 b388 tb426 kt426 (4 : Int32) nd426 a411 b411 kb411 b418 p1 nd462 a437 b437 kb437 b449 p2 nd510 a477 b477 kb477 b493 p3 nd570 a529 b529 kb529 b549 p4 cs ca ce h591 n0 Z613 B618 F609 g592 g389 gI0 gI1 g389 (nG R570_0.lt (Nat.le_of_eq g591.symm)) F610 F597 F598 F595 F596 F601 F602 F599 F600 F605 F606 F603 F604 F611 F612 F607 F608 (ninS (nL V589.lt (Nat.le_of_eq g591.symm)) (ninS (nG F421.lt Zx426_1) (ninS (nG Le0.lt (Nat.le_trans K425.1 Zx426_1)) (ninS (nG Le1.lt (Nat.le_trans K425.1 Zx426_1)) (ninS (nG F421.lt Zx426_1) nin0))))) (ninS (nL F575.lt (Nat.le_of_eq g591.symm)) (ninS (nG F421.lt Zx426_0) (ninS (nG Le0.lt (Nat.le_trans K425.1 Zx426_0)) (ninS (nG Le1.lt (Nat.le_trans K425.1 Zx426_0)) (ninS (nG F421.lt Zx426_0) nin0))))) (ninS (nL F576.lt (Nat.le_of_eq g591.symm)) (ninS (nG R403_0.lt Zx411_0) (ninS (nG Le0.lt (Nat.le_trans K407.1 Zx411_0)) (ninS (nG Le1.lt (Nat.le_trans K407.1 Zx411_0)) (ninS (nG R403_0.lt Zx411_0) nin0))))) (ninS (nL F573.lt (Nat.le_of_eq g591.symm)) (ninS (nG R403_0.lt Zx411_1) (ninS (nG Le0.lt (Nat.le_trans K407.1 Zx411_1)) (ninS (nG Le1.lt (Nat.le_trans K407.1 Zx411_1)) (ninS (nG R403_0.lt Zx411_1) nin0))))) (ninS (nL F574.lt (Nat.le_of_eq g591.symm)) (ninS (own_bxne P418_0 g389 F414.lt) (ninS (own_bxn2 P418_0 gI0 Le0.lt K416.1) (ninS (own_bxn2 P418_0 gI1 Le1.lt K416.1) (ninS (own_bxne P418_0 g389 F414.lt) nin0))))) (ninS (nL F579.lt (Nat.le_of_eq g591.symm)) (ninS (nG F454.lt Zx462_0) (ninS (nG Le0.lt (Nat.le_trans K461.1 Zx462_0)) (ninS (nG Le1.lt (Nat.le_trans K461.1 Zx462_0)) (ninS (nG F454.lt Zx462_0) nin0))))) (ninS (nL F580.lt (Nat.le_of_eq g591.symm)) (ninS (nG R426_0.lt Zx437_0) (ninS (nG Le0.lt (Nat.le_trans K432.1 Zx437_0)) (ninS (nG Le1.lt (Nat.le_trans K432.1 Zx437_0)) (ninS (nG R426_0.lt Zx437_0) nin0))))) (ninS (nL F577.lt (Nat.le_of_eq g591.symm)) (ninS (nG R426_0.lt Zx437_1) (ninS (nG Le0.lt (Nat.le_trans K432.1 Zx437_1)) (ninS (nG Le1.lt (Nat.le_trans K432.1 Zx437_1)) (ninS (nG R426_0.lt Zx437_1) nin0))))) (ninS (nL F578.lt (Nat.le_of_eq g591.symm)) (ninS (own_bxne P449_0 g389 F442.lt) (ninS (own_bxn2 P449_0 gI0 Le0.lt K447.1) (ninS (own_bxn2 P449_0 gI1 Le1.lt K447.1) (ninS (own_bxne P449_0 g389 F442.lt) nin0))))) (ninS (nL F583.lt (Nat.le_of_eq g591.symm)) (ninS (nG F502.lt Zx510_0) (ninS (nG Le0.lt (Nat.le_trans K509.1 Zx510_0)) (ninS (nG Le1.lt (Nat.le_trans K509.1 Zx510_0)) (ninS (nG F502.lt Zx510_0) nin0))))) (ninS (nL F584.lt (Nat.le_of_eq g591.symm)) (ninS (nG R462_0.lt Zx477_0) (ninS (nG Le0.lt (Nat.le_trans K472.1 Zx477_0)) (ninS (nG Le1.lt (Nat.le_trans K472.1 Zx477_0)) (ninS (nG R462_0.lt Zx477_0) nin0))))) (ninS (nL F581.lt (Nat.le_of_eq g591.symm)) (ninS (nG R462_0.lt Zx477_1) (ninS (nG Le0.lt (Nat.le_trans K472.1 Zx477_1)) (ninS (nG Le1.lt (Nat.le_trans K472.1 Zx477_1)) (ninS (nG R462_0.lt Zx477_1) nin0))))) (ninS (nL F582.lt (Nat.le_of_eq g591.symm)) (ninS (own_bxne P493_0 g389 F486.lt) (ninS (own_bxn2 P493_0 gI0 Le0.lt K491.1) (ninS (own_bxn2 P493_0 gI1 Le1.lt K491.1) (ninS (own_bxne P493_0 g389 F486.lt) nin0))))) (ninS (nL R570_2.lt (Nat.le_of_eq g591.symm)) (ninS (nG F562.lt Zx570_0) (ninS (nG Le0.lt (Nat.le_trans K569.1 Zx570_0)) (ninS (nG Le1.lt (Nat.le_trans K569.1 Zx570_0)) (ninS (nG F562.lt Zx570_0) nin0))))) (ninS (nL R570_3.lt (Nat.le_of_eq g591.symm)) (ninS (nG R510_0.lt Zx529_0) (ninS (nG Le0.lt (Nat.le_trans K524.1 Zx529_0)) (ninS (nG Le1.lt (Nat.le_trans K524.1 Zx529_0)) (ninS (nG R510_0.lt Zx529_0) nin0))))) (ninS (nL R570_4.lt (Nat.le_of_eq g591.symm)) (ninS (nG R510_0.lt Zx529_1) (ninS (nG Le0.lt (Nat.le_trans K524.1 Zx529_1)) (ninS (nG Le1.lt (Nat.le_trans K524.1 Zx529_1)) (ninS (nG R510_0.lt Zx529_1) nin0))))) (ninS (nL F586.lt (Nat.le_of_eq g591.symm)) (ninS (own_bxne P549_0 g389 F542.lt) (ninS (own_bxn2 P549_0 gI0 Le0.lt K547.1) (ninS (own_bxn2 P549_0 gI1 Le1.lt K547.1) (ninS (own_bxne P549_0 g389 F542.lt) nin0))))) Scs hcs Shi Sca Bx (Or.inr (Or.inr (Or.inl ⟨en, (Ld0.keep K614 nin0), (Ld1.keep K614 nin0), (Ld2.keep K614 nin0), (Ld3.keep K614 nin0), (Ld4.keep K614 nin0), (Ld5.keep K614 nin0), (Le0.keep K614 nin0), (Le1.keep K614 nin0), (ninS (nL Ld0.lt z593) (ninS (nL Ld0.lt z390) (ninS lN0 (ninS lN7 (ninS (nL Ld0.lt z390) nin0))))), (ninS (nL Ld1.lt z593) (ninS (nL Ld1.lt z390) (ninS lN1 (ninS lN8 (ninS (nL Ld1.lt z390) nin0))))), (ninS (nL Ld2.lt z593) (ninS (nL Ld2.lt z390) (ninS lN2 (ninS lN9 (ninS (nL Ld2.lt z390) nin0))))), (ninS (nL Ld3.lt z593) (ninS (nL Ld3.lt z390) (ninS lN3 (ninS lN10 (ninS (nL Ld3.lt z390) nin0))))), (ninS (nL Ld4.lt z593) (ninS (nL Ld4.lt z390) (ninS lN4 (ninS lN11 (ninS (nL Ld4.lt z390) nin0))))), (ninS (nL Ld5.lt z593) (ninS (nL Ld5.lt z390) (ninS lN5 (ninS lN12 (ninS (nL Ld5.lt z390) nin0))))), (nG Le0.lt z593), (nG Le0.lt z390), (nG Le1.lt z593), (nG Le1.lt z390), lN6, hz0, hz1⟩))) F594) e591 (argsL := [(.ref b133), (.ref b388)]) (rest := [(.ref b591)]) rfl (by rw [hml]; rfl) k621 rfl (H at_255) (lenOf pd__28Ljava_2futil_2fList_3bLjava_2futil_2fMap_3b_29V rfl) (b5 rfl)
      obtain ⟨h629, e629⟩ : ∃ h', T629.heap = h' := ⟨_, rfl⟩
      rw [e629] at hQ629
      obtain ⟨bg629, kg629, gl629, g0629, g1629, g2629, bi629, ki629, il629, cn629, rfl, N629q, K629, R629_0, R629_1, R629_2, P629_0, P629_1, P629_2, P629_3, P629_4⟩ := hQ629
      have N630 := Fr.app N571 N629q
      have Z631 : n0 ≤ h629.size := Nat.le_trans Z613 K629.1
      exact ⟨T629, h629, _, bg629, kg629, gl629, g0629, g1629, g2629, bi629, ki629, il629, cn629, X629, e629, N630, Z631, R629_0, R629_1, R629_2, P629_0, (fun q => own_gu (P629_1 q) hu0), (fun q => own_gu (P629_2 q) hu1), (fun q => absurd (en ▸ q) (by decide)), P629_4, k629⟩
    · obtain ⟨_, T632, L632, X632, hQ632, k632⟩ := c_N (W := 1) X591 hx hZ hown (hww 147 rfl) (hww 148 rfl) (hww 149 rfl) (hww 146 rfl) rfl (by decide) (jri l Z a0 hw [] b591 b133 nn lm ev ea ka do0 id0 ib0 ik0 ch0 do1 id1 ib1 ik1 ch1 do2 id2 ib2 ik2 ch2 b388 tb426 kt426 (4 : Int32) nd426 a411 b411 kb411 b418 p1 nd462 a437 b437 kb437 b449 p2 nd510 a477 b477 kb477 b493 p3 nd570 a529 b529 kb529 b549 p4 cs ca ce h591 n0 Z613 B618 F609 g592 g389 gI0 gI1 gI2 (nG R570_0.lt (Nat.le_of_eq g591.symm)) F610 F597 F598 F595 F596 F601 F602 F599 F600 F605 F606 F603 F604 F611 F612 F607 F608 (ninS (nL V589.lt (Nat.le_of_eq g591.symm)) (ninS (nG F421.lt Zx426_1) (ninS (nG Le0.lt (Nat.le_trans K425.1 Zx426_1)) (ninS (nG Le1.lt (Nat.le_trans K425.1 Zx426_1)) (ninS (nG Le2.lt (Nat.le_trans K425.1 Zx426_1)) nin0))))) (ninS (nL F575.lt (Nat.le_of_eq g591.symm)) (ninS (nG F421.lt Zx426_0) (ninS (nG Le0.lt (Nat.le_trans K425.1 Zx426_0)) (ninS (nG Le1.lt (Nat.le_trans K425.1 Zx426_0)) (ninS (nG Le2.lt (Nat.le_trans K425.1 Zx426_0)) nin0))))) (ninS (nL F576.lt (Nat.le_of_eq g591.symm)) (ninS (nG R403_0.lt Zx411_0) (ninS (nG Le0.lt (Nat.le_trans K407.1 Zx411_0)) (ninS (nG Le1.lt (Nat.le_trans K407.1 Zx411_0)) (ninS (nG Le2.lt (Nat.le_trans K407.1 Zx411_0)) nin0))))) (ninS (nL F573.lt (Nat.le_of_eq g591.symm)) (ninS (nG R403_0.lt Zx411_1) (ninS (nG Le0.lt (Nat.le_trans K407.1 Zx411_1)) (ninS (nG Le1.lt (Nat.le_trans K407.1 Zx411_1)) (ninS (nG Le2.lt (Nat.le_trans K407.1 Zx411_1)) nin0))))) (ninS (nL F574.lt (Nat.le_of_eq g591.symm)) (ninS (own_bxne P418_0 g389 F414.lt) (ninS (own_bxn2 P418_0 gI0 Le0.lt K416.1) (ninS (own_bxn2 P418_0 gI1 Le1.lt K416.1) (ninS (own_bxn2 P418_0 gI2 Le2.lt K416.1) nin0))))) (ninS (nL F579.lt (Nat.le_of_eq g591.symm)) (ninS (nG F454.lt Zx462_0) (ninS (nG Le0.lt (Nat.le_trans K461.1 Zx462_0)) (ninS (nG Le1.lt (Nat.le_trans K461.1 Zx462_0)) (ninS (nG Le2.lt (Nat.le_trans K461.1 Zx462_0)) nin0))))) (ninS (nL F580.lt (Nat.le_of_eq g591.symm)) (ninS (nG R426_0.lt Zx437_0) (ninS (nG Le0.lt (Nat.le_trans K432.1 Zx437_0)) (ninS (nG Le1.lt (Nat.le_trans K432.1 Zx437_0)) (ninS (nG Le2.lt (Nat.le_trans K432.1 Zx437_0)) nin0))))) (ninS (nL F577.lt (Nat.le_of_eq g591.symm)) (ninS (nG R426_0.lt Zx437_1) (ninS (nG Le0.lt (Nat.le_trans K432.1 Zx437_1)) (ninS (nG Le1.lt (Nat.le_trans K432.1 Zx437_1)) (ninS (nG Le2.lt (Nat.le_trans K432.1 Zx437_1)) nin0))))) (ninS (nL F578.lt (Nat.le_of_eq g591.symm)) (ninS (own_bxne P449_0 g389 F442.lt) (ninS (own_bxn2 P449_0 gI0 Le0.lt K447.1) (ninS (own_bxn2 P449_0 gI1 Le1.lt K447.1) (ninS (own_bxn2 P449_0 gI2 Le2.lt K447.1) nin0))))) (ninS (nL F583.lt (Nat.le_of_eq g591.symm)) (ninS (nG F502.lt Zx510_0) (ninS (nG Le0.lt (Nat.le_trans K509.1 Zx510_0)) (ninS (nG Le1.lt (Nat.le_trans K509.1 Zx510_0)) (ninS (nG Le2.lt (Nat.le_trans K509.1 Zx510_0)) nin0))))) (ninS (nL F584.lt (Nat.le_of_eq g591.symm)) (ninS (nG R462_0.lt Zx477_0) (ninS (nG Le0.lt (Nat.le_trans K472.1 Zx477_0)) (ninS (nG Le1.lt (Nat.le_trans K472.1 Zx477_0)) (ninS (nG Le2.lt (Nat.le_trans K472.1 Zx477_0)) nin0))))) (ninS (nL F581.lt (Nat.le_of_eq g591.symm)) (ninS (nG R462_0.lt Zx477_1) (ninS (nG Le0.lt (Nat.le_trans K472.1 Zx477_1)) (ninS (nG Le1.lt (Nat.le_trans K472.1 Zx477_1)) (ninS (nG Le2.lt (Nat.le_trans K472.1 Zx477_1)) nin0))))) (ninS (nL F582.lt (Nat.le_of_eq g591.symm)) (ninS (own_bxne P493_0 g389 F486.lt) (ninS (own_bxn2 P493_0 gI0 Le0.lt K491.1) (ninS (own_bxn2 P493_0 gI1 Le1.lt K491.1) (ninS (own_bxn2 P493_0 gI2 Le2.lt K491.1) nin0))))) (ninS (nL R570_2.lt (Nat.le_of_eq g591.symm)) (ninS (nG F562.lt Zx570_0) (ninS (nG Le0.lt (Nat.le_trans K569.1 Zx570_0)) (ninS (nG Le1.lt (Nat.le_trans K569.1 Zx570_0)) (ninS (nG Le2.lt (Nat.le_trans K569.1 Zx570_0)) nin0))))) (ninS (nL R570_3.lt (Nat.le_of_eq g591.symm)) (ninS (nG R510_0.lt Zx529_0) (ninS (nG Le0.lt (Nat.le_trans K524.1 Zx529_0)) (ninS (nG Le1.lt (Nat.le_trans K524.1 Zx529_0)) (ninS (nG Le2.lt (Nat.le_trans K524.1 Zx529_0)) nin0))))) (ninS (nL R570_4.lt (Nat.le_of_eq g591.symm)) (ninS (nG R510_0.lt Zx529_1) (ninS (nG Le0.lt (Nat.le_trans K524.1 Zx529_1)) (ninS (nG Le1.lt (Nat.le_trans K524.1 Zx529_1)) (ninS (nG Le2.lt (Nat.le_trans K524.1 Zx529_1)) nin0))))) (ninS (nL F586.lt (Nat.le_of_eq g591.symm)) (ninS (own_bxne P549_0 g389 F542.lt) (ninS (own_bxn2 P549_0 gI0 Le0.lt K547.1) (ninS (own_bxn2 P549_0 gI1 Le1.lt K547.1) (ninS (own_bxn2 P549_0 gI2 Le2.lt K547.1) nin0))))) Scs hcs Shi Sca Bx (Or.inr (Or.inr (Or.inr (⟨en, (Ld0.keep K614 nin0), (Ld1.keep K614 nin0), (Ld2.keep K614 nin0), (Ld3.keep K614 nin0), (Ld4.keep K614 nin0), (Ld5.keep K614 nin0), (Ld6.keep K614 nin0), (Ld7.keep K614 nin0), (Le0.keep K614 nin0), (Le1.keep K614 nin0), (Le2.keep K614 nin0), (ninS (nL Ld0.lt z593) (ninS (nL Ld0.lt z390) (ninS lN0 (ninS lN10 (ninS lN19 nin0))))), (ninS (nL Ld1.lt z593) (ninS (nL Ld1.lt z390) (ninS lN1 (ninS lN11 (ninS lN20 nin0))))), (ninS (nL Ld2.lt z593) (ninS (nL Ld2.lt z390) (ninS lN2 (ninS lN12 (ninS lN21 nin0))))), (ninS (nL Ld3.lt z593) (ninS (nL Ld3.lt z390) (ninS lN3 (ninS lN13 (ninS lN22 nin0))))), (ninS (nL Ld4.lt z593) (ninS (nL Ld4.lt z390) (ninS lN4 (ninS lN14 (ninS lN23 nin0))))), (ninS (nL Ld5.lt z593) (ninS (nL Ld5.lt z390) (ninS lN5 (ninS lN15 (ninS lN24 nin0))))), (ninS (nL Ld6.lt z593) (ninS (nL Ld6.lt z390) (ninS lN6 (ninS lN16 (ninS lN25 nin0))))), (ninS (nL Ld7.lt z593) (ninS (nL Ld7.lt z390) (ninS lN7 (ninS lN17 (ninS lN26 nin0))))), (nG Le0.lt z593), (nG Le0.lt z390), (nG Le1.lt z593), (nG Le1.lt z390), (nG Le2.lt z593), (nG Le2.lt z390), lN8, lN9, lN18, hz0, hz1, hz2⟩)))) F594) e591 (argsL := [(.ref b133), (.ref b388)]) (rest := [(.ref b591)]) rfl (by rw [hml]; rfl) k621 rfl (H at_255) (lenOf pd__28Ljava_2futil_2fList_3bLjava_2futil_2fMap_3b_29V rfl) (b5 rfl)
      obtain ⟨h632, e632⟩ : ∃ h', T632.heap = h' := ⟨_, rfl⟩
      rw [e632] at hQ632
      obtain ⟨bg632, kg632, gl632, g0632, g1632, g2632, bi632, ki632, il632, cn632, rfl, N632q, K632, R632_0, R632_1, R632_2, P632_0, P632_1, P632_2, P632_3, P632_4⟩ := hQ632
      have N633 := Fr.app N571 N632q
      have Z634 : n0 ≤ h632.size := Nat.le_trans Z613 K632.1
      exact ⟨T632, h632, _, bg632, kg632, gl632, g0632, g1632, g2632, bi632, ki632, il632, cn632, X632, e632, N633, Z634, R632_0, R632_1, R632_2, P632_0, (fun q => own_gu (P632_1 q) hu0), (fun q => own_gu (P632_2 q) hu1), (fun q => own_gu (P632_3 q) hu2), P632_4, k632⟩
  obtain ⟨_, T638, L638, X638, hQ638, k638⟩ := c_V (W := 0) (x := mn68) X622 hx hZ hown (hww 299 rfl) (hww 300 rfl) (notFace_of_selects (args := #[]) (mvT hZ (hww 302 rfl))) (hww 302 rfl) (hww 301 rfl) (hww 303 rfl) (hww 146 rfl) (by decide) F635.1 (avp l Z a0 hw [] b591 nn bg kg gl g0 g1 g2 bi ki cn il h622 n0 Zq622 F635 F637 F636 hgl) e622 (argsL := []) (rest := []) rfl (by rw [hml]; rfl) kq622 rfl (H at_258) (lenOf pd__28_29D rfl) (b5 rfl)
  obtain ⟨h638, e638⟩ : ∃ h', T638.heap = h' := ⟨_, rfl⟩
  rw [e638] at hQ638
  obtain ⟨u638, rfl, N638q, hh638, hu638⟩ := hQ638
  have N639 := Fr.app N622 N638q
  have ee638 : T638.heap = h622 := e638.trans hh638
  have k640 := f_ds X638 hx k638 (H at_261) (l' := #[si p0, si p1, si p2, si p3, si p4, si nn, si i112, si i121, si i130, sr b133, sr b388, sd u638, se, un, un, un, un, un, un, un, un, un]) rfl
  have k641 := f_il X638 hx k640 (H at_263) rfl
  have k642 := f_ic X638 hx k641 (H at_265) (v := 1) rfl
  obtain ⟨i646, hi646⟩ : ∃ z : Int32, z = (if nn < (1 : Int32) then (0 : Int32) else (if i112 = (0 : Int32) then (if (0 : Int32) < p1 then (1 : Int32) else (0 : Int32)) else (0 : Int32))) := ⟨_, rfl⟩
  have k647 : Rt p e below T638 (mkF m 283 #[si p0, si p1, si p2, si p3, si p4, si nn, si i112, si i121, si i130, sr b133, sr b388, sd u638, se, un, un, un, un, un, un, un, un, un] [vI i646]) s₁ m #[(.int p0), (.int p1), (.int p2), (.int p3), (.int p4)] maxLocals := fun t k => k642 t (by
    by_cases c643 : nn < (1 : Int32)
    · rw [if_pos c643] at hi646
      show Sp p e below T638 (mkF m 266 #[si p0, si p1, si p2, si p3, si p4, si nn, si i112, si i121, si i130, sr b133, sr b388, sd u638, se, un, un, un, un, un, un, un, un, un] [vI 1, vI nn]) _
      refine XS.icmpYes X638.here hx rfl (pc0 := 266) (pc' := 282) rfl (hb hby at_266) rfl (tlt c643).1 (by decide) (by decide) ?_
      refine XS.iconst X638.here hx rfl (hb hby at_282) ?_
      show Sp p e below T638 (mkF m 283 #[si p0, si p1, si p2, si p3, si p4, si nn, si i112, si i121, si i130, sr b133, sr b388, sd u638, se, un, un, un, un, un, un, un, un, un] [vI 0]) _
      exact castTop (by rw [hi646]) k
    · rw [if_neg c643] at hi646
      show Sp p e below T638 (mkF m 266 #[si p0, si p1, si p2, si p3, si p4, si nn, si i112, si i121, si i130, sr b133, sr b388, sd u638, se, un, un, un, un, un, un, un, un, un] [vI 1, vI nn]) _
      refine XS.icmpNo X638.here hx rfl (hb hby at_266) rfl (flt c643).1 ?_
      refine XS.iload X638.here hx rfl (hb hby at_269) rfl ?_
      by_cases c644 : i112 = (0 : Int32)
      · rw [if_pos c644] at hi646
        show Sp p e below T638 (mkF m 271 #[si p0, si p1, si p2, si p3, si p4, si nn, si i112, si i121, si i130, sr b133, sr b388, sd u638, se, un, un, un, un, un, un, un, un, un] [vI i112]) _
        refine XS.ifNo X638.here hx rfl (hb hby at_271) rfl ((if0 _ _).trans (teq c644).2) ?_
        refine XS.iloadN X638.here hx rfl (hb hby at_274) rfl ?_
        by_cases c645 : (0 : Int32) < p1
        · rw [if_pos c645] at hi646
          show Sp p e below T638 (mkF m 275 #[si p0, si p1, si p2, si p3, si p4, si nn, si i112, si i121, si i130, sr b133, sr b388, sd u638, se, un, un, un, un, un, un, un, un, un] [vI p1]) _
          refine XS.ifNo X638.here hx rfl (hb hby at_275) rfl ((if0 _ _).trans (tlt c645).2.2.2) ?_
          refine XS.iconst X638.here hx rfl (hb hby at_278) ?_
          refine XS.goto X638.here hx rfl (pc0 := 279) (pc' := 283) rfl (hb hby at_279) (by decide) (by decide) ?_
          show Sp p e below T638 (mkF m 283 #[si p0, si p1, si p2, si p3, si p4, si nn, si i112, si i121, si i130, sr b133, sr b388, sd u638, se, un, un, un, un, un, un, un, un, un] [vI 1]) _
          exact castTop (by rw [hi646]) k
        · rw [if_neg c645] at hi646
          show Sp p e below T638 (mkF m 275 #[si p0, si p1, si p2, si p3, si p4, si nn, si i112, si i121, si i130, sr b133, sr b388, sd u638, se, un, un, un, un, un, un, un, un, un] [vI p1]) _
          refine XS.ifYes X638.here hx rfl (pc0 := 275) (pc' := 282) rfl (hb hby at_275) rfl ((if0 _ _).trans (flt c645).2.2.2) (by decide) (by decide) ?_
          refine XS.iconst X638.here hx rfl (hb hby at_282) ?_
          show Sp p e below T638 (mkF m 283 #[si p0, si p1, si p2, si p3, si p4, si nn, si i112, si i121, si i130, sr b133, sr b388, sd u638, se, un, un, un, un, un, un, un, un, un] [vI 0]) _
          exact castTop (by rw [hi646]) k
      · rw [if_neg c644] at hi646
        show Sp p e below T638 (mkF m 271 #[si p0, si p1, si p2, si p3, si p4, si nn, si i112, si i121, si i130, sr b133, sr b388, sd u638, se, un, un, un, un, un, un, un, un, un] [vI i112]) _
        refine XS.ifYes X638.here hx rfl (pc0 := 271) (pc' := 282) rfl (hb hby at_271) rfl ((if0 _ _).trans (feq c644).2) (by decide) (by decide) ?_
        refine XS.iconst X638.here hx rfl (hb hby at_282) ?_
        show Sp p e below T638 (mkF m 283 #[si p0, si p1, si p2, si p3, si p4, si nn, si i112, si i121, si i130, sr b133, sr b388, sd u638, se, un, un, un, un, un, un, un, un, un] [vI 0]) _
        exact castTop (by rw [hi646]) k)
  have k648 := f_is X638 hx k647 (H at_283) (l' := #[si p0, si p1, si p2, si p3, si p4, si nn, si i112, si i121, si i130, sr b133, sr b388, sd u638, se, si i646, un, un, un, un, un, un, un, un]) rfl
  have k649 := f_il X638 hx k648 (H at_285) rfl
  have k650 := f_ic X638 hx k649 (H at_287) (v := 2) rfl
  obtain ⟨i654, hi654⟩ : ∃ z : Int32, z = (if nn < (2 : Int32) then (0 : Int32) else (if i121 = (0 : Int32) then (if (0 : Int32) < p2 then (1 : Int32) else (0 : Int32)) else (0 : Int32))) := ⟨_, rfl⟩
  have k655 : Rt p e below T638 (mkF m 305 #[si p0, si p1, si p2, si p3, si p4, si nn, si i112, si i121, si i130, sr b133, sr b388, sd u638, se, si i646, un, un, un, un, un, un, un, un] [vI i654]) s₁ m #[(.int p0), (.int p1), (.int p2), (.int p3), (.int p4)] maxLocals := fun t k => k650 t (by
    by_cases c651 : nn < (2 : Int32)
    · rw [if_pos c651] at hi654
      show Sp p e below T638 (mkF m 288 #[si p0, si p1, si p2, si p3, si p4, si nn, si i112, si i121, si i130, sr b133, sr b388, sd u638, se, si i646, un, un, un, un, un, un, un, un] [vI 2, vI nn]) _
      refine XS.icmpYes X638.here hx rfl (pc0 := 288) (pc' := 304) rfl (hb hby at_288) rfl (tlt c651).1 (by decide) (by decide) ?_
      refine XS.iconst X638.here hx rfl (hb hby at_304) ?_
      show Sp p e below T638 (mkF m 305 #[si p0, si p1, si p2, si p3, si p4, si nn, si i112, si i121, si i130, sr b133, sr b388, sd u638, se, si i646, un, un, un, un, un, un, un, un] [vI 0]) _
      exact castTop (by rw [hi654]) k
    · rw [if_neg c651] at hi654
      show Sp p e below T638 (mkF m 288 #[si p0, si p1, si p2, si p3, si p4, si nn, si i112, si i121, si i130, sr b133, sr b388, sd u638, se, si i646, un, un, un, un, un, un, un, un] [vI 2, vI nn]) _
      refine XS.icmpNo X638.here hx rfl (hb hby at_288) rfl (flt c651).1 ?_
      refine XS.iload X638.here hx rfl (hb hby at_291) rfl ?_
      by_cases c652 : i121 = (0 : Int32)
      · rw [if_pos c652] at hi654
        show Sp p e below T638 (mkF m 293 #[si p0, si p1, si p2, si p3, si p4, si nn, si i112, si i121, si i130, sr b133, sr b388, sd u638, se, si i646, un, un, un, un, un, un, un, un] [vI i121]) _
        refine XS.ifNo X638.here hx rfl (hb hby at_293) rfl ((if0 _ _).trans (teq c652).2) ?_
        refine XS.iloadN X638.here hx rfl (hb hby at_296) rfl ?_
        by_cases c653 : (0 : Int32) < p2
        · rw [if_pos c653] at hi654
          show Sp p e below T638 (mkF m 297 #[si p0, si p1, si p2, si p3, si p4, si nn, si i112, si i121, si i130, sr b133, sr b388, sd u638, se, si i646, un, un, un, un, un, un, un, un] [vI p2]) _
          refine XS.ifNo X638.here hx rfl (hb hby at_297) rfl ((if0 _ _).trans (tlt c653).2.2.2) ?_
          refine XS.iconst X638.here hx rfl (hb hby at_300) ?_
          refine XS.goto X638.here hx rfl (pc0 := 301) (pc' := 305) rfl (hb hby at_301) (by decide) (by decide) ?_
          show Sp p e below T638 (mkF m 305 #[si p0, si p1, si p2, si p3, si p4, si nn, si i112, si i121, si i130, sr b133, sr b388, sd u638, se, si i646, un, un, un, un, un, un, un, un] [vI 1]) _
          exact castTop (by rw [hi654]) k
        · rw [if_neg c653] at hi654
          show Sp p e below T638 (mkF m 297 #[si p0, si p1, si p2, si p3, si p4, si nn, si i112, si i121, si i130, sr b133, sr b388, sd u638, se, si i646, un, un, un, un, un, un, un, un] [vI p2]) _
          refine XS.ifYes X638.here hx rfl (pc0 := 297) (pc' := 304) rfl (hb hby at_297) rfl ((if0 _ _).trans (flt c653).2.2.2) (by decide) (by decide) ?_
          refine XS.iconst X638.here hx rfl (hb hby at_304) ?_
          show Sp p e below T638 (mkF m 305 #[si p0, si p1, si p2, si p3, si p4, si nn, si i112, si i121, si i130, sr b133, sr b388, sd u638, se, si i646, un, un, un, un, un, un, un, un] [vI 0]) _
          exact castTop (by rw [hi654]) k
      · rw [if_neg c652] at hi654
        show Sp p e below T638 (mkF m 293 #[si p0, si p1, si p2, si p3, si p4, si nn, si i112, si i121, si i130, sr b133, sr b388, sd u638, se, si i646, un, un, un, un, un, un, un, un] [vI i121]) _
        refine XS.ifYes X638.here hx rfl (pc0 := 293) (pc' := 304) rfl (hb hby at_293) rfl ((if0 _ _).trans (feq c652).2) (by decide) (by decide) ?_
        refine XS.iconst X638.here hx rfl (hb hby at_304) ?_
        show Sp p e below T638 (mkF m 305 #[si p0, si p1, si p2, si p3, si p4, si nn, si i112, si i121, si i130, sr b133, sr b388, sd u638, se, si i646, un, un, un, un, un, un, un, un] [vI 0]) _
        exact castTop (by rw [hi654]) k)
  have k656 := f_is X638 hx k655 (H at_305) (l' := #[si p0, si p1, si p2, si p3, si p4, si nn, si i112, si i121, si i130, sr b133, sr b388, sd u638, se, si i646, si i654, un, un, un, un, un, un, un]) rfl
  have k657 := f_il X638 hx k656 (H at_307) rfl
  have k658 := f_ic X638 hx k657 (H at_309) (v := 3) rfl
  obtain ⟨i662, hi662⟩ : ∃ z : Int32, z = (if nn < (3 : Int32) then (0 : Int32) else (if i130 = (0 : Int32) then (if (0 : Int32) < p3 then (1 : Int32) else (0 : Int32)) else (0 : Int32))) := ⟨_, rfl⟩
  have k663 : Rt p e below T638 (mkF m 327 #[si p0, si p1, si p2, si p3, si p4, si nn, si i112, si i121, si i130, sr b133, sr b388, sd u638, se, si i646, si i654, un, un, un, un, un, un, un] [vI i662]) s₁ m #[(.int p0), (.int p1), (.int p2), (.int p3), (.int p4)] maxLocals := fun t k => k658 t (by
    by_cases c659 : nn < (3 : Int32)
    · rw [if_pos c659] at hi662
      show Sp p e below T638 (mkF m 310 #[si p0, si p1, si p2, si p3, si p4, si nn, si i112, si i121, si i130, sr b133, sr b388, sd u638, se, si i646, si i654, un, un, un, un, un, un, un] [vI 3, vI nn]) _
      refine XS.icmpYes X638.here hx rfl (pc0 := 310) (pc' := 326) rfl (hb hby at_310) rfl (tlt c659).1 (by decide) (by decide) ?_
      refine XS.iconst X638.here hx rfl (hb hby at_326) ?_
      show Sp p e below T638 (mkF m 327 #[si p0, si p1, si p2, si p3, si p4, si nn, si i112, si i121, si i130, sr b133, sr b388, sd u638, se, si i646, si i654, un, un, un, un, un, un, un] [vI 0]) _
      exact castTop (by rw [hi662]) k
    · rw [if_neg c659] at hi662
      show Sp p e below T638 (mkF m 310 #[si p0, si p1, si p2, si p3, si p4, si nn, si i112, si i121, si i130, sr b133, sr b388, sd u638, se, si i646, si i654, un, un, un, un, un, un, un] [vI 3, vI nn]) _
      refine XS.icmpNo X638.here hx rfl (hb hby at_310) rfl (flt c659).1 ?_
      refine XS.iload X638.here hx rfl (hb hby at_313) rfl ?_
      by_cases c660 : i130 = (0 : Int32)
      · rw [if_pos c660] at hi662
        show Sp p e below T638 (mkF m 315 #[si p0, si p1, si p2, si p3, si p4, si nn, si i112, si i121, si i130, sr b133, sr b388, sd u638, se, si i646, si i654, un, un, un, un, un, un, un] [vI i130]) _
        refine XS.ifNo X638.here hx rfl (hb hby at_315) rfl ((if0 _ _).trans (teq c660).2) ?_
        refine XS.iloadN X638.here hx rfl (hb hby at_318) rfl ?_
        by_cases c661 : (0 : Int32) < p3
        · rw [if_pos c661] at hi662
          show Sp p e below T638 (mkF m 319 #[si p0, si p1, si p2, si p3, si p4, si nn, si i112, si i121, si i130, sr b133, sr b388, sd u638, se, si i646, si i654, un, un, un, un, un, un, un] [vI p3]) _
          refine XS.ifNo X638.here hx rfl (hb hby at_319) rfl ((if0 _ _).trans (tlt c661).2.2.2) ?_
          refine XS.iconst X638.here hx rfl (hb hby at_322) ?_
          refine XS.goto X638.here hx rfl (pc0 := 323) (pc' := 327) rfl (hb hby at_323) (by decide) (by decide) ?_
          show Sp p e below T638 (mkF m 327 #[si p0, si p1, si p2, si p3, si p4, si nn, si i112, si i121, si i130, sr b133, sr b388, sd u638, se, si i646, si i654, un, un, un, un, un, un, un] [vI 1]) _
          exact castTop (by rw [hi662]) k
        · rw [if_neg c661] at hi662
          show Sp p e below T638 (mkF m 319 #[si p0, si p1, si p2, si p3, si p4, si nn, si i112, si i121, si i130, sr b133, sr b388, sd u638, se, si i646, si i654, un, un, un, un, un, un, un] [vI p3]) _
          refine XS.ifYes X638.here hx rfl (pc0 := 319) (pc' := 326) rfl (hb hby at_319) rfl ((if0 _ _).trans (flt c661).2.2.2) (by decide) (by decide) ?_
          refine XS.iconst X638.here hx rfl (hb hby at_326) ?_
          show Sp p e below T638 (mkF m 327 #[si p0, si p1, si p2, si p3, si p4, si nn, si i112, si i121, si i130, sr b133, sr b388, sd u638, se, si i646, si i654, un, un, un, un, un, un, un] [vI 0]) _
          exact castTop (by rw [hi662]) k
      · rw [if_neg c660] at hi662
        show Sp p e below T638 (mkF m 315 #[si p0, si p1, si p2, si p3, si p4, si nn, si i112, si i121, si i130, sr b133, sr b388, sd u638, se, si i646, si i654, un, un, un, un, un, un, un] [vI i130]) _
        refine XS.ifYes X638.here hx rfl (pc0 := 315) (pc' := 326) rfl (hb hby at_315) rfl ((if0 _ _).trans (feq c660).2) (by decide) (by decide) ?_
        refine XS.iconst X638.here hx rfl (hb hby at_326) ?_
        show Sp p e below T638 (mkF m 327 #[si p0, si p1, si p2, si p3, si p4, si nn, si i112, si i121, si i130, sr b133, sr b388, sd u638, se, si i646, si i654, un, un, un, un, un, un, un] [vI 0]) _
        exact castTop (by rw [hi662]) k)
  have k664 := f_is X638 hx k663 (H at_327) (l' := #[si p0, si p1, si p2, si p3, si p4, si nn, si i112, si i121, si i130, sr b133, sr b388, sd u638, se, si i646, si i654, si i662, un, un, un, un, un, un]) rfl
  have k665 := f_ilN X638 hx k664 (H at_329) rfl
  obtain ⟨i667, hi667⟩ : ∃ z : Int32, z = (if (0 : Int32) < p1 then (1 : Int32) else (0 : Int32)) := ⟨_, rfl⟩
  have k668 : Rt p e below T638 (mkF m 338 #[si p0, si p1, si p2, si p3, si p4, si nn, si i112, si i121, si i130, sr b133, sr b388, sd u638, se, si i646, si i654, si i662, un, un, un, un, un, un] [vI i667]) s₁ m #[(.int p0), (.int p1), (.int p2), (.int p3), (.int p4)] maxLocals := fun t k => k665 t (by
    by_cases c666 : (0 : Int32) < p1
    · rw [if_pos c666] at hi667
      show Sp p e below T638 (mkF m 330 #[si p0, si p1, si p2, si p3, si p4, si nn, si i112, si i121, si i130, sr b133, sr b388, sd u638, se, si i646, si i654, si i662, un, un, un, un, un, un] [vI p1]) _
      refine XS.ifNo X638.here hx rfl (hb hby at_330) rfl ((if0 _ _).trans (tlt c666).2.2.2) ?_
      refine XS.iconst X638.here hx rfl (hb hby at_333) ?_
      refine XS.goto X638.here hx rfl (pc0 := 334) (pc' := 338) rfl (hb hby at_334) (by decide) (by decide) ?_
      show Sp p e below T638 (mkF m 338 #[si p0, si p1, si p2, si p3, si p4, si nn, si i112, si i121, si i130, sr b133, sr b388, sd u638, se, si i646, si i654, si i662, un, un, un, un, un, un] [vI 1]) _
      exact castTop (by rw [hi667]) k
    · rw [if_neg c666] at hi667
      show Sp p e below T638 (mkF m 330 #[si p0, si p1, si p2, si p3, si p4, si nn, si i112, si i121, si i130, sr b133, sr b388, sd u638, se, si i646, si i654, si i662, un, un, un, un, un, un] [vI p1]) _
      refine XS.ifYes X638.here hx rfl (pc0 := 330) (pc' := 337) rfl (hb hby at_330) rfl ((if0 _ _).trans (flt c666).2.2.2) (by decide) (by decide) ?_
      refine XS.iconst X638.here hx rfl (hb hby at_337) ?_
      show Sp p e below T638 (mkF m 338 #[si p0, si p1, si p2, si p3, si p4, si nn, si i112, si i121, si i130, sr b133, sr b388, sd u638, se, si i646, si i654, si i662, un, un, un, un, un, un] [vI 0]) _
      exact castTop (by rw [hi667]) k)
  have k669 := f_ilN X638 hx k668 (H at_338) rfl
  obtain ⟨i671, hi671⟩ : ∃ z : Int32, z = (if (0 : Int32) < p2 then (1 : Int32) else (0 : Int32)) := ⟨_, rfl⟩
  have k672 : Rt p e below T638 (mkF m 347 #[si p0, si p1, si p2, si p3, si p4, si nn, si i112, si i121, si i130, sr b133, sr b388, sd u638, se, si i646, si i654, si i662, un, un, un, un, un, un] [vI i671, vI i667]) s₁ m #[(.int p0), (.int p1), (.int p2), (.int p3), (.int p4)] maxLocals := fun t k => k669 t (by
    by_cases c670 : (0 : Int32) < p2
    · rw [if_pos c670] at hi671
      show Sp p e below T638 (mkF m 339 #[si p0, si p1, si p2, si p3, si p4, si nn, si i112, si i121, si i130, sr b133, sr b388, sd u638, se, si i646, si i654, si i662, un, un, un, un, un, un] [vI p2, vI i667]) _
      refine XS.ifNo X638.here hx rfl (hb hby at_339) rfl ((if0 _ _).trans (tlt c670).2.2.2) ?_
      refine XS.iconst X638.here hx rfl (hb hby at_342) ?_
      refine XS.goto X638.here hx rfl (pc0 := 343) (pc' := 347) rfl (hb hby at_343) (by decide) (by decide) ?_
      show Sp p e below T638 (mkF m 347 #[si p0, si p1, si p2, si p3, si p4, si nn, si i112, si i121, si i130, sr b133, sr b388, sd u638, se, si i646, si i654, si i662, un, un, un, un, un, un] [vI 1, vI i667]) _
      exact castTop (by rw [hi671]) k
    · rw [if_neg c670] at hi671
      show Sp p e below T638 (mkF m 339 #[si p0, si p1, si p2, si p3, si p4, si nn, si i112, si i121, si i130, sr b133, sr b388, sd u638, se, si i646, si i654, si i662, un, un, un, un, un, un] [vI p2, vI i667]) _
      refine XS.ifYes X638.here hx rfl (pc0 := 339) (pc' := 346) rfl (hb hby at_339) rfl ((if0 _ _).trans (flt c670).2.2.2) (by decide) (by decide) ?_
      refine XS.iconst X638.here hx rfl (hb hby at_346) ?_
      show Sp p e below T638 (mkF m 347 #[si p0, si p1, si p2, si p3, si p4, si nn, si i112, si i121, si i130, sr b133, sr b388, sd u638, se, si i646, si i654, si i662, un, un, un, un, un, un] [vI 0, vI i667]) _
      exact castTop (by rw [hi671]) k)
  have k673 := f_iadd X638 hx k672 (H at_347) rfl
  have k674 := f_ilN X638 hx k673 (H at_348) rfl
  obtain ⟨i676, hi676⟩ : ∃ z : Int32, z = (if (0 : Int32) < p3 then (1 : Int32) else (0 : Int32)) := ⟨_, rfl⟩
  have k677 : Rt p e below T638 (mkF m 357 #[si p0, si p1, si p2, si p3, si p4, si nn, si i112, si i121, si i130, sr b133, sr b388, sd u638, se, si i646, si i654, si i662, un, un, un, un, un, un] [vI i676, vI (i667 + i671)]) s₁ m #[(.int p0), (.int p1), (.int p2), (.int p3), (.int p4)] maxLocals := fun t k => k674 t (by
    by_cases c675 : (0 : Int32) < p3
    · rw [if_pos c675] at hi676
      show Sp p e below T638 (mkF m 349 #[si p0, si p1, si p2, si p3, si p4, si nn, si i112, si i121, si i130, sr b133, sr b388, sd u638, se, si i646, si i654, si i662, un, un, un, un, un, un] [vI p3, vI (i667 + i671)]) _
      refine XS.ifNo X638.here hx rfl (hb hby at_349) rfl ((if0 _ _).trans (tlt c675).2.2.2) ?_
      refine XS.iconst X638.here hx rfl (hb hby at_352) ?_
      refine XS.goto X638.here hx rfl (pc0 := 353) (pc' := 357) rfl (hb hby at_353) (by decide) (by decide) ?_
      show Sp p e below T638 (mkF m 357 #[si p0, si p1, si p2, si p3, si p4, si nn, si i112, si i121, si i130, sr b133, sr b388, sd u638, se, si i646, si i654, si i662, un, un, un, un, un, un] [vI 1, vI (i667 + i671)]) _
      exact castTop (by rw [hi676]) k
    · rw [if_neg c675] at hi676
      show Sp p e below T638 (mkF m 349 #[si p0, si p1, si p2, si p3, si p4, si nn, si i112, si i121, si i130, sr b133, sr b388, sd u638, se, si i646, si i654, si i662, un, un, un, un, un, un] [vI p3, vI (i667 + i671)]) _
      refine XS.ifYes X638.here hx rfl (pc0 := 349) (pc' := 356) rfl (hb hby at_349) rfl ((if0 _ _).trans (flt c675).2.2.2) (by decide) (by decide) ?_
      refine XS.iconst X638.here hx rfl (hb hby at_356) ?_
      show Sp p e below T638 (mkF m 357 #[si p0, si p1, si p2, si p3, si p4, si nn, si i112, si i121, si i130, sr b133, sr b388, sd u638, se, si i646, si i654, si i662, un, un, un, un, un, un] [vI 0, vI (i667 + i671)]) _
      exact castTop (by rw [hi676]) k)
  have k678 := f_iadd X638 hx k677 (H at_357) rfl
  have k679 := f_il X638 hx k678 (H at_358) rfl
  obtain ⟨i681, hi681⟩ : ∃ z : Int32, z = (if (0 : Int32) < p4 then (1 : Int32) else (0 : Int32)) := ⟨_, rfl⟩
  have k682 : Rt p e below T638 (mkF m 368 #[si p0, si p1, si p2, si p3, si p4, si nn, si i112, si i121, si i130, sr b133, sr b388, sd u638, se, si i646, si i654, si i662, un, un, un, un, un, un] [vI i681, vI ((i667 + i671) + i676)]) s₁ m #[(.int p0), (.int p1), (.int p2), (.int p3), (.int p4)] maxLocals := fun t k => k679 t (by
    by_cases c680 : (0 : Int32) < p4
    · rw [if_pos c680] at hi681
      show Sp p e below T638 (mkF m 360 #[si p0, si p1, si p2, si p3, si p4, si nn, si i112, si i121, si i130, sr b133, sr b388, sd u638, se, si i646, si i654, si i662, un, un, un, un, un, un] [vI p4, vI ((i667 + i671) + i676)]) _
      refine XS.ifNo X638.here hx rfl (hb hby at_360) rfl ((if0 _ _).trans (tlt c680).2.2.2) ?_
      refine XS.iconst X638.here hx rfl (hb hby at_363) ?_
      refine XS.goto X638.here hx rfl (pc0 := 364) (pc' := 368) rfl (hb hby at_364) (by decide) (by decide) ?_
      show Sp p e below T638 (mkF m 368 #[si p0, si p1, si p2, si p3, si p4, si nn, si i112, si i121, si i130, sr b133, sr b388, sd u638, se, si i646, si i654, si i662, un, un, un, un, un, un] [vI 1, vI ((i667 + i671) + i676)]) _
      exact castTop (by rw [hi681]) k
    · rw [if_neg c680] at hi681
      show Sp p e below T638 (mkF m 360 #[si p0, si p1, si p2, si p3, si p4, si nn, si i112, si i121, si i130, sr b133, sr b388, sd u638, se, si i646, si i654, si i662, un, un, un, un, un, un] [vI p4, vI ((i667 + i671) + i676)]) _
      refine XS.ifYes X638.here hx rfl (pc0 := 360) (pc' := 367) rfl (hb hby at_360) rfl ((if0 _ _).trans (flt c680).2.2.2) (by decide) (by decide) ?_
      refine XS.iconst X638.here hx rfl (hb hby at_367) ?_
      show Sp p e below T638 (mkF m 368 #[si p0, si p1, si p2, si p3, si p4, si nn, si i112, si i121, si i130, sr b133, sr b388, sd u638, se, si i646, si i654, si i662, un, un, un, un, un, un] [vI 0, vI ((i667 + i671) + i676)]) _
      exact castTop (by rw [hi681]) k)
  have k683 := f_iadd X638 hx k682 (H at_368) rfl
  have k684 := f_is X638 hx k683 (H at_369) (l' := #[si p0, si p1, si p2, si p3, si p4, si nn, si i112, si i121, si i130, sr b133, sr b388, sd u638, se, si i646, si i654, si i662, si (((i667 + i671) + i676) + i681), un, un, un, un, un]) rfl
  have k685 := f_d0 X638 hx k684 (H at_371)
  have k686 := f_ds X638 hx k685 (H at_372) (l' := #[si p0, si p1, si p2, si p3, si p4, si nn, si i112, si i121, si i130, sr b133, sr b388, sd u638, se, si i646, si i654, si i662, si (((i667 + i671) + i676) + i681), sd 0, se, un, un, un]) rfl
  have k687 := f_ic X638 hx k686 (H at_374) (v := 0) rfl
  have k688 := f_is X638 hx k687 (H at_375) (l' := #[si p0, si p1, si p2, si p3, si p4, si nn, si i112, si i121, si i130, sr b133, sr b388, sd u638, se, si i646, si i654, si i662, si (((i667 + i671) + i676) + i681), sd 0, se, si 0, un, un]) rfl
  have k689 := f_il X638 hx k688 (H at_377) rfl
  obtain ⟨T690, h690, Ls690, sn0, cm0, X690, e690, N690, Zq690, ht0, hm0, kq690⟩ : ∃ (T690 : State) (h690 : Heap) (Ls690 : List Loc) (sn0 : UInt64) (cm0 : Int32), Stand p l e room_1 s m #[(.int p0), (.int p1), (.int p2), (.int p3), (.int p4)] below meth c T690 Ls690 40 130 ∧ T690.heap = h690 ∧ Fr n0 Ls690 ∧ n0 ≤ h690.size ∧ ((sn0, cm0) = own_st (decide (¬ (i646 = (0 : Int32)))) ((0 : UInt64), (0 : Int32)) (4607182418800017408 : UInt64)) ∧ (Jvm.Free.Fl.NoNaN64 sn0) ∧ (Rt p e below T690 (mkF m 398 #[si p0, si p1, si p2, si p3, si p4, si nn, si i112, si i121, si i130, sr b133, sr b388, sd u638, se, si i646, si i654, si i662, si (((i667 + i671) + i676) + i681), sd sn0, se, si cm0, un, un] []) s₁ m #[(.int p0), (.int p1), (.int p2), (.int p3), (.int p4)] maxLocals) := by
    by_cases qh : i646 = (0 : Int32)
    · have k691 := f_ifY X638 hx k689 (H at_379) (pc' := 398) ((if0 _ _).trans (teq qh).1) (by decide)
      exact ⟨T638, h622, _, (0 : UInt64), (0 : Int32), X638, ee638, N639, Zq622, (own_sk (s := (0 : UInt64)) (c := (0 : Int32)) qh), own_nn0, k691⟩
    · have k692 := f_ifN X638 hx k689 (H at_379) ((if0 _ _).trans (feq qh).1)
      have k693 := f_il X638 hx k692 (H at_382) rfl
      have k694 := f_ic X638 hx k693 (H at_384) (v := 1) rfl
      have k695 := f_iadd X638 hx k694 (H at_385) (r := 1) (by decide)
      have k696 := f_is X638 hx k695 (H at_386) (l' := #[si p0, si p1, si p2, si p3, si p4, si nn, si i112, si i121, si i130, sr b133, sr b388, sd u638, se, si i646, si i654, si i662, si (((i667 + i671) + i676) + i681), sd 0, se, si 1, un, un]) rfl
      have k697 := f_dl X638 hx k696 (H at_388) rfl
      have k698 := f_il X638 hx k697 (H at_390) rfl
      have k699 := f_i2d X638 hx k698 (H at_392)
      have k700 := f_d1 X638 hx k699 (H at_393)
      have k701 := f_ddiv X638 hx k700 (H at_394) (own_qk0 _)
      have k702 := f_dadd X638 hx k701 (H at_395) (own_sk0 _ own_nn0)
      have k703 := f_ds X638 hx k702 (H at_396) (l' := #[si p0, si p1, si p2, si p3, si p4, si nn, si i112, si i121, si i130, sr b133, sr b388, sd u638, se, si i646, si i654, si i662, si (((i667 + i671) + i676) + i681), sd (FP.dadd (0 : UInt64) (FP.ddiv (FP.i2d (1 : Int32)) (4607182418800017408 : UInt64))), se, si 1, un, un]) rfl
      exact ⟨T638, h622, _, (FP.dadd (0 : UInt64) (FP.ddiv (FP.i2d (1 : Int32)) (4607182418800017408 : UInt64))), (1 : Int32), X638, ee638, N639, Zq622, (own_sd1 qh), (own_sk0 _ own_nn0), k703⟩
  have k704 := f_il X690 hx kq690 (H at_398) rfl
  obtain ⟨T705, h705, Ls705, sn1, cm1, X705, e705, N705, Zq705, ht1, hm1, kq705⟩ : ∃ (T705 : State) (h705 : Heap) (Ls705 : List Loc) (sn1 : UInt64) (cm1 : Int32), Stand p l e room_1 s m #[(.int p0), (.int p1), (.int p2), (.int p3), (.int p4)] below meth c T705 Ls705 40 130 ∧ T705.heap = h705 ∧ Fr n0 Ls705 ∧ n0 ≤ h705.size ∧ ((sn1, cm1) = own_st (decide (¬ (i654 = (0 : Int32)))) (sn0, cm0) (4611686018427387904 : UInt64)) ∧ (Jvm.Free.Fl.NoNaN64 sn1) ∧ (Rt p e below T705 (mkF m 421 #[si p0, si p1, si p2, si p3, si p4, si nn, si i112, si i121, si i130, sr b133, sr b388, sd u638, se, si i646, si i654, si i662, si (((i667 + i671) + i676) + i681), sd sn1, se, si cm1, un, un] []) s₁ m #[(.int p0), (.int p1), (.int p2), (.int p3), (.int p4)] maxLocals) := by
    by_cases qh : i654 = (0 : Int32)
    · have k706 := f_ifY X690 hx k704 (H at_400) (pc' := 421) ((if0 _ _).trans (teq qh).1) (by decide)
      exact ⟨T690, h690, _, sn0, cm0, X690, e690, N690, Zq690, (own_sk (s := sn0) (c := cm0) qh), hm0, k706⟩
    · have k707 := f_ifN X690 hx k704 (H at_400) ((if0 _ _).trans (feq qh).1)
      have k708 := f_il X690 hx k707 (H at_403) rfl
      have k709 := f_ic X690 hx k708 (H at_405) (v := 1) rfl
      have k710 := f_iadd X690 hx k709 (H at_406) rfl
      have k711 := f_is X690 hx k710 (H at_407) (l' := #[si p0, si p1, si p2, si p3, si p4, si nn, si i112, si i121, si i130, sr b133, sr b388, sd u638, se, si i646, si i654, si i662, si (((i667 + i671) + i676) + i681), sd sn0, se, si (cm0 + (1 : Int32)), un, un]) rfl
      have k712 := f_dl X690 hx k711 (H at_409) rfl
      have k713 := f_il X690 hx k712 (H at_411) rfl
      have k714 := f_i2d X690 hx k713 (H at_413)
      have k715 : Rt p e below T690 (mkF m 417 #[si p0, si p1, si p2, si p3, si p4, si nn, si i112, si i121, si i130, sr b133, sr b388, sd u638, se, si i646, si i654, si i662, si (((i667 + i671) + i676) + i681), sd sn0, se, si (cm0 + (1 : Int32)), un, un] [vD 4611686018427387904, vD (FP.i2d (cm0 + (1 : Int32))), vD sn0]) s₁ m #[(.int p0), (.int p1), (.int p2), (.int p3), (.int p4)] maxLocals := fun t k => k714 t (by
        show Sp p e below T690 (mkF m 414 #[si p0, si p1, si p2, si p3, si p4, si nn, si i112, si i121, si i130, sr b133, sr b388, sd u638, se, si i646, si i654, si i662, si (((i667 + i671) + i676) + i681), sd sn0, se, si (cm0 + (1 : Int32)), un, un] [vD (FP.i2d (cm0 + (1 : Int32))), vD sn0]) _
        refine X690.ldc2DoubleC hx hown (mvT hZ (hww 347 rfl)) (g := (mkF m 414 #[si p0, si p1, si p2, si p3, si p4, si nn, si i112, si i121, si i130, sr b133, sr b388, sd u638, se, si i646, si i654, si i662, si (((i667 + i671) + i676) + i681), sd sn0, se, si (cm0 + (1 : Int32)), un, un] [vD (FP.i2d (cm0 + (1 : Int32))), vD sn0])) rfl (H at_414) _ ?_
        exact k)
      have k716 := f_ddiv X690 hx k715 (H at_417) (own_qk1 _)
      have k717 := f_dadd X690 hx k716 (H at_418) (own_sk1 _ hm0)
      have k718 := f_ds X690 hx k717 (H at_419) (l' := #[si p0, si p1, si p2, si p3, si p4, si nn, si i112, si i121, si i130, sr b133, sr b388, sd u638, se, si i646, si i654, si i662, si (((i667 + i671) + i676) + i681), sd (FP.dadd sn0 (FP.ddiv (FP.i2d (cm0 + (1 : Int32))) (4611686018427387904 : UInt64))), se, si (cm0 + (1 : Int32)), un, un]) rfl
      exact ⟨T690, h690, _, (FP.dadd sn0 (FP.ddiv (FP.i2d (cm0 + (1 : Int32))) (4611686018427387904 : UInt64))), (cm0 + (1 : Int32)), X690, e690, N690, Zq690, (own_sd (s := sn0) (c := cm0) qh), (own_sk1 _ hm0), k718⟩
  have k719 := f_il X705 hx kq705 (H at_421) rfl
  obtain ⟨T720, h720, Ls720, sn2, cm2, X720, e720, N720, Zq720, ht2, hm2, kq720⟩ : ∃ (T720 : State) (h720 : Heap) (Ls720 : List Loc) (sn2 : UInt64) (cm2 : Int32), Stand p l e room_1 s m #[(.int p0), (.int p1), (.int p2), (.int p3), (.int p4)] below meth c T720 Ls720 40 130 ∧ T720.heap = h720 ∧ Fr n0 Ls720 ∧ n0 ≤ h720.size ∧ ((sn2, cm2) = own_st (decide (¬ (i662 = (0 : Int32)))) (sn1, cm1) (4613937818241073152 : UInt64)) ∧ (Jvm.Free.Fl.NoNaN64 sn2) ∧ (Rt p e below T720 (mkF m 444 #[si p0, si p1, si p2, si p3, si p4, si nn, si i112, si i121, si i130, sr b133, sr b388, sd u638, se, si i646, si i654, si i662, si (((i667 + i671) + i676) + i681), sd sn2, se, si cm2, un, un] []) s₁ m #[(.int p0), (.int p1), (.int p2), (.int p3), (.int p4)] maxLocals) := by
    by_cases qh : i662 = (0 : Int32)
    · have k721 := f_ifY X705 hx k719 (H at_423) (pc' := 444) ((if0 _ _).trans (teq qh).1) (by decide)
      exact ⟨T705, h705, _, sn1, cm1, X705, e705, N705, Zq705, (own_sk (s := sn1) (c := cm1) qh), hm1, k721⟩
    · have k722 := f_ifN X705 hx k719 (H at_423) ((if0 _ _).trans (feq qh).1)
      have k723 := f_il X705 hx k722 (H at_426) rfl
      have k724 := f_ic X705 hx k723 (H at_428) (v := 1) rfl
      have k725 := f_iadd X705 hx k724 (H at_429) rfl
      have k726 := f_is X705 hx k725 (H at_430) (l' := #[si p0, si p1, si p2, si p3, si p4, si nn, si i112, si i121, si i130, sr b133, sr b388, sd u638, se, si i646, si i654, si i662, si (((i667 + i671) + i676) + i681), sd sn1, se, si (cm1 + (1 : Int32)), un, un]) rfl
      have k727 := f_dl X705 hx k726 (H at_432) rfl
      have k728 := f_il X705 hx k727 (H at_434) rfl
      have k729 := f_i2d X705 hx k728 (H at_436)
      have k730 : Rt p e below T705 (mkF m 440 #[si p0, si p1, si p2, si p3, si p4, si nn, si i112, si i121, si i130, sr b133, sr b388, sd u638, se, si i646, si i654, si i662, si (((i667 + i671) + i676) + i681), sd sn1, se, si (cm1 + (1 : Int32)), un, un] [vD 4613937818241073152, vD (FP.i2d (cm1 + (1 : Int32))), vD sn1]) s₁ m #[(.int p0), (.int p1), (.int p2), (.int p3), (.int p4)] maxLocals := fun t k => k729 t (by
        show Sp p e below T705 (mkF m 437 #[si p0, si p1, si p2, si p3, si p4, si nn, si i112, si i121, si i130, sr b133, sr b388, sd u638, se, si i646, si i654, si i662, si (((i667 + i671) + i676) + i681), sd sn1, se, si (cm1 + (1 : Int32)), un, un] [vD (FP.i2d (cm1 + (1 : Int32))), vD sn1]) _
        refine X705.ldc2DoubleC hx hown (mvT hZ (hww 312 rfl)) (g := (mkF m 437 #[si p0, si p1, si p2, si p3, si p4, si nn, si i112, si i121, si i130, sr b133, sr b388, sd u638, se, si i646, si i654, si i662, si (((i667 + i671) + i676) + i681), sd sn1, se, si (cm1 + (1 : Int32)), un, un] [vD (FP.i2d (cm1 + (1 : Int32))), vD sn1])) rfl (H at_437) _ ?_
        exact k)
      have k731 := f_ddiv X705 hx k730 (H at_440) (own_qk2 _)
      have k732 := f_dadd X705 hx k731 (H at_441) (own_sk2 _ hm1)
      have k733 := f_ds X705 hx k732 (H at_442) (l' := #[si p0, si p1, si p2, si p3, si p4, si nn, si i112, si i121, si i130, sr b133, sr b388, sd u638, se, si i646, si i654, si i662, si (((i667 + i671) + i676) + i681), sd (FP.dadd sn1 (FP.ddiv (FP.i2d (cm1 + (1 : Int32))) (4613937818241073152 : UInt64))), se, si (cm1 + (1 : Int32)), un, un]) rfl
      exact ⟨T705, h705, _, (FP.dadd sn1 (FP.ddiv (FP.i2d (cm1 + (1 : Int32))) (4613937818241073152 : UInt64))), (cm1 + (1 : Int32)), X705, e705, N705, Zq705, (own_sd (s := sn1) (c := cm1) qh), (own_sk2 _ hm1), k733⟩
  have k734 := f_il X720 hx kq720 (H at_444) rfl
  have hres := own_fin3 hn3 hu638 hgu0 hgu1 hgu2  hi646 hi654 hi662 hcn hi667 hi671 hi676 hi681 ht0 ht1 ht2
  by_cases qb : (((i667 + i671) + i676) + i681) = (0 : Int32)
  · have k735 := f_ifN X720 hx k734 (H at_446) ((if0 _ _).trans (teq qb).2)
    have k736 := f_d0 X720 hx k735 (H at_449)
    have k737 := f_go X720 hx k736 (H at_450) (pc' := 459) (by decide)
    have k738 := f_ds X720 hx k737 (H at_459) (l' := #[si p0, si p1, si p2, si p3, si p4, si nn, si i112, si i121, si i130, sr b133, sr b388, sd u638, se, si i646, si i654, si i662, si (((i667 + i671) + i676) + i681), sd sn2, se, si cm2, sd 0, se]) rfl
    have k739 := f_dl X720 hx k738 (H at_461) rfl
    have k740 := f_dl X720 hx k739 (H at_463) rfl
    have k741 := f_dc X720 hx k740 (H at_465)
    have k742 := f_ifN X720 hx k741 (H at_466) ((if0 _ _).trans (teq (own_endz hres qb)).2)
    have k743 := f_ic X720 hx k742 (H at_469) (v := 1) rfl
    have k744 := f_go X720 hx k743 (H at_470) (pc' := 474) (by decide)
    obtain ⟨fs, hr, hrun, hended, hW, hsame⟩ := X720.leave (v := some (.int (1 : Int32))) (fun h => by rw [Bd.returns] at h; cases h)
    refine ⟨_, _, k744 _ (retOut X720 hx (t := .boolean) Bd.returns rfl (Or.inl ⟨rfl, Or.inr (Or.inl rfl), _, rfl⟩) (H at_474) hr), hrun, hended, _, _, rfl, ?_, ⟨_, rfl⟩, hW, hsame.mono (by decide) (by decide)⟩
    show Q_rm0 Z p0 p1 p2 p3 p4 cs ca ce de kd h0 n0 _ T720.heap _
    rw [e720]
    exact ⟨rfl, N720⟩
  · have k745 := f_ifY X720 hx k734 (H at_446) (pc' := 453) ((if0 _ _).trans (feq qb).2) (by decide)
    have k746 := f_dl X720 hx k745 (H at_453) rfl
    have k747 := f_il X720 hx k746 (H at_455) rfl
    have k748 := f_i2d X720 hx k747 (H at_457)
    have k749 := f_ddiv X720 hx k748 (H at_458) (own_rn hm2 qb)
    have k750 := f_ds X720 hx k749 (H at_459) (l' := #[si p0, si p1, si p2, si p3, si p4, si nn, si i112, si i121, si i130, sr b133, sr b388, sd u638, se, si i646, si i654, si i662, si (((i667 + i671) + i676) + i681), sd sn2, se, si cm2, sd (FP.ddiv sn2 (FP.i2d (((i667 + i671) + i676) + i681))), se]) rfl
    have k751 := f_dl X720 hx k750 (H at_461) rfl
    have k752 := f_dl X720 hx k751 (H at_463) rfl
    have k753 := f_dc X720 hx k752 (H at_465)
    have k754 := f_ifN X720 hx k753 (H at_466) ((if0 _ _).trans (teq (own_endn hres qb hm2)).2)
    have k755 := f_ic X720 hx k754 (H at_469) (v := 1) rfl
    have k756 := f_go X720 hx k755 (H at_470) (pc' := 474) (by decide)
    obtain ⟨fs, hr, hrun, hended, hW, hsame⟩ := X720.leave (v := some (.int (1 : Int32))) (fun h => by rw [Bd.returns] at h; cases h)
    refine ⟨_, _, k756 _ (retOut X720 hx (t := .boolean) Bd.returns rfl (Or.inl ⟨rfl, Or.inr (Or.inl rfl), _, rfl⟩) (H at_474) hr), hrun, hended, _, _, rfl, ?_, ⟨_, rfl⟩, hW, hsame.mono (by decide) (by decide)⟩
    show Q_rm0 Z p0 p1 p2 p3 p4 cs ca ce de kd h0 n0 _ T720.heap _
    rw [e720]
    exact ⟨rfl, N720⟩
set_option maxRecDepth 65536 in
set_option maxHeartbeats 40000000 in
theorem comes_1 {Post : Tables → Env → Array Value → State → Outcome → State → Prop} (hpost : ∀ tb e args s v u, (limb_1_1.after args s (.returned v) u = true ∧ limb_1_2.after args s (.returned v) u = true ∧ True) → FrameEnd s (.returned v) u (Jvm.fieldLocs frame_1_writes args s ++ Jvm.arrayLocs frame_1_arrays args s ++ Jvm.staticLocs frame_1_statics s) 80 320 → Post tb e args s (.returned v) u) :
    ArmFor flags0 classFile x code maxLocals ret World_1 tables_1 room_1 Calls_1 rest_1 Pre_1 Post := by
  intro l hfl _ _ p e ha hc hk s m args below hf hA hF happ hP
  obtain ⟨hcalls, hrest, hpre⟩ := hP
  obtain ⟨-, -, -, hnamed, -, -, -, hat⟩ := (Spec.applies_iff hf).mp happ
  obtain ⟨hg, hn⟩ := and_e (Cond.before_iff.mp (show (Jvm.Cond.and given_1 narrow_1).before args s = true from hpre))
  obtain ⟨g1, g2⟩ := and_e hg
  obtain ⟨g3, g4⟩ := and_e g2
  obtain ⟨g5, g6⟩ := and_e g4
  obtain ⟨g7, g8⟩ := and_e g6
  obtain ⟨g9, g10⟩ := and_e g8
  obtain ⟨w0, w1, w2, w3, w4, rfl⟩ : ∃ w0 w1 w2 w3 w4 : Value, args = #[w0, w1, w2, w3, w4] := by
    have hs : args.size = 5 := by simpa [Cond.value, given_1] using g1
    obtain ⟨L⟩ := args
    match L, hs with
    | [w0, w1, w2, w3, w4], _ => exact ⟨w0, w1, w2, w3, w4, rfl⟩
  have hw := fun d (hd : d ∈ tables_1) => atoms_spec (ws := Jvm.Cond.code x code maxLocals ret :: tables_1) hat d (List.mem_cons_of_mem _ hd)
  obtain ⟨i0, ei0⟩ := is_v g3
  obtain rfl : w0 = (.int i0) := Option.some.inj ei0
  obtain ⟨i1, ei1⟩ := is_v g5
  obtain rfl : w1 = (.int i1) := Option.some.inj ei1
  obtain ⟨i2, ei2⟩ := is_v g7
  obtain rfl : w2 = (.int i2) := Option.some.inj ei2
  obtain ⟨i3, ei3⟩ := is_v g9
  obtain rfl : w3 = (.int i3) := Option.some.inj ei3
  obtain ⟨i4, ei4⟩ := is_v g10
  obtain rfl : w4 = (.int i4) := Option.some.inj ei4
  obtain ⟨hsets, hown0⟩ := atoms_of _ (rest_1_c_eq ▸ (show rest_1_c.before _ s = true from hrest))
  have nz := not_v (Cond.before_iff.mp (hsets _ (List.mem_of_getElem? (i := 11) rfl)))
  obtain ⟨cs, ecs⟩ := is_v (Cond.before_iff.mp (hsets _ (List.mem_of_getElem? (i := 10) rfl)))
  have Scs : Sta s s.heap "java/lang/String" "COMPACT_STRINGS" "Z" (.int cs) := Sta.start ecs (Or.inl (hsets _ (List.mem_of_getElem? (i := 9) rfl)))
  have hcs : ¬ (cs = (0 : Int32)) := gotF (Cond.eq_ints ecs (Term.int_eval (0))) nz
  obtain ⟨de, ede⟩ := arr_v (Cond.before_iff.mp (hsets _ (List.mem_of_getElem? (i := 6) rfl)))
  have Sde : Sta s s.heap "java/util/ArrayList" "DEFAULTCAPACITY_EMPTY_ELEMENTDATA" "[Ljava/lang/Object;" (.ref de) := Sta.start ede (Or.inr ⟨(hw _ (List.mem_of_getElem? (i := 2) rfl)), (hsets _ (List.mem_of_getElem? (i := 2) rfl))⟩)
  obtain ⟨cd, Ad⟩ := Arr.start ede (Cond.before_iff.mp (hsets _ (List.mem_of_getElem? (i := 6) rfl)))
  have Vde := own_arv0 (dv := .null) Ad (own_len Ad ede (eqv_i (Term.int_eval 0) (Cond.before_iff.mp (hsets _ (List.mem_of_getElem? (i := 8) rfl)))))
  have ehi := eqv_i (Term.int_eval 127) (Cond.before_iff.mp (hsets _ (List.mem_of_getElem? (i := 21) rfl)))
  have Shi : Sta s s.heap "java/lang/Integer$IntegerCache" "high" "I" (.int (127 : Int32)) := Sta.start ehi (Or.inl (hsets _ (List.mem_of_getElem? (i := 19) rfl)))
  obtain ⟨ca, eca⟩ := arr_v (Cond.before_iff.mp (hsets _ (List.mem_of_getElem? (i := 22) rfl)))
  have Sca : Sta s s.heap "java/lang/Integer$IntegerCache" "cache" "[Ljava/lang/Integer;" (.ref ca) := Sta.start eca (Or.inr ⟨(hw _ (List.mem_of_getElem? (i := 71) rfl)), (hsets _ (List.mem_of_getElem? (i := 20) rfl))⟩)
  obtain ⟨ce, Ac⟩ := Arr.start eca (Cond.before_iff.mp (hsets _ (List.mem_of_getElem? (i := 22) rfl)))
  have Lc := own_len Ac eca (eqv_i (Term.int_eval 256) (Cond.before_iff.mp (hsets _ (List.mem_of_getElem? (i := 24) rfl))))
  have Bx : Bxs s ca ce "java/lang/Integer" "I" (256 : Int32) (fun j => .int (j - (128 : Int32))) := Bxs.start (fun _ => eca) Ac Lc.2 Lc.1 (by decide) (Cond.before_iff.mp (hsets _ (List.mem_of_getElem? (i := 25) rfl))) (fun X j nn y => eqv_i (own_bxF nn) y)
  obtain ⟨n, o, h1, h2, h3, _, L, rfl, ⟨rfl, N⟩, hq⟩ := rm0 l s _ hw tables_1 i0 i1 i2 i3 i4 cs ca ce de cd.cls s.heap s.heap.size (Nat.le_refl _) Scs hcs Shi Sca Bx Sde Vde (Old.start s) p e ha hc hk s m _ below hf ((Spec.applies_iff_loose hf).mp happ).1 ⟨rfl, State.Warmed39.refl s, rfl⟩ trivial
  refine ⟨n, _, h1, h2, h3, hpost _ _ _ _ _ _ ⟨Cond.after_iff.mpr rfl, Cond.after_iff.mpr (eq_i res_at (Term.int_eval (1)) rfl), trivial⟩ ⟨hq.1, hq.2.1, (hq.2.2.sift fun y hy => Or.inr (N y hy)).mono (by decide) (by decide)⟩⟩
theorem main_1_1 : Claimed_1_1 := comes_1 fun _ _ _ _ _ _ h hF => ⟨h.1, hF⟩
theorem main_1_2 : Claimed_1_2 := comes_1 fun _ _ _ _ _ _ h hF => ⟨h.2.1, hF⟩
end Jvm.Pilot.@@N@@
namespace Jvm.Pilot.@@N@@
open Jvm Jvm.ClassFile Sem Op Lib Jvm.Free Jvm.Stand Jvm.Pilot.@@N@@.Jvm.D
/-! MADE BY PROGRAM (witnessworld.py) out of the Statement's table words and the real class files: 46 classes; the members and pool entries that the words name. The judged class is class 1, her method 1. -/
namespace start1
open Jvm.ClassFile
def u (s : String) : CpInfo := .utf8 (stringToUtf16 s)
def gap : Nat → List CpInfo → List CpInfo
  | 0, r => r
  | n + 1, r => .unusable :: gap n r
def poolList (es : List (Nat × CpInfo)) (last : Nat) : List CpInfo := es.foldr (fun e r => gap e.1 (e.2 :: r)) (gap last [])
def pool (es : List (Nat × CpInfo)) (last : Nat) : Array CpInfo := ⟨poolList es last⟩
def fileOf (pool : Array CpInfo) (this : Nat) (attrs : Array Attribute := #[]) (ms : Array MethodInfo := #[]) (fl : Nat := 33) (sup : Nat := 0) (ifs : Array Nat := #[]) (fds : Array FieldInfo := #[]) : ClassFile where
  minorVersion := 0
  majorVersion := 65
  constantPool := pool
  accessFlags := fl
  thisClass := this
  superClass := sup
  interfaces := ifs
  fields := fds
  methods := ms
  attributes := attrs
def plain (name : String) (sup : Option ClassId) : Class where
  name := name
  kind := .ordinary
  loader := none
  accessFlags := 33
  super := sup
  interfaces := #[]
  cf := none
  fields := #[]
  methods := #[]
  instanceTypes := #[]
  staticTypes := #[]
  resolved := #[]
  callSites := []
  init := .initialized
  statics := none
  mirror := none

def pool0 : Array CpInfo := pool [(5, u "<init>"), (0, u "()V"), (1, .class_ 10), (1, u "java/lang/Object"), (16, u "hashCode"), (0, u "()I"), (63, u "equals"), (0, u "(Ljava/lang/Object;)Z"), (2, u "clone"), (0, u "()Ljava/lang/Object;")] 26

def k0c0 : Code := ⟨0, 1, object_method_1_code, #[], #[]⟩
def k0m0 : Method := ⟨"<init>", "()V", ⟨[], none⟩, 1, some k0c0⟩
def k0m1 : Method := ⟨"hashCode", "()I", ⟨[], some .int⟩, 257, none⟩
def k0c2 : Code := ⟨2, 2, ⟨#[0x2a, 0x2b, 0xa6, 0x00, 0x07, 0x04, 0xa7, 0x00, 0x04, 0x03, 0xac]⟩, #[], #[]⟩
def k0m2 : Method := ⟨"equals", "(Ljava/lang/Object;)Z", ⟨[(.object "java/lang/Object")], some .boolean⟩, 1, some k0c2⟩
def k0m3 : Method := ⟨"clone", "()Ljava/lang/Object;", ⟨[], some (.object "java/lang/Object")⟩, 260, none⟩
def k0 : Class := { plain "java/lang/Object" none with
  cf := some (fileOf pool0 8 #[] #[⟨1, 5, 6, #[]⟩, ⟨257, 27, 28, #[]⟩, ⟨1, 92, 93, #[]⟩, ⟨260, 96, 97, #[]⟩] 33 0 #[] #[])
  methods := #[k0m0, k0m1, k0m2, k0m3]
  resolved := Array.replicate 124 none
  }

def pool1 : Array CpInfo := pool [(2, .class_ 4), (0, .nameAndType 5 6), (0, u "java/lang/Object"), (0, u "<init>"), (0, u "()V"), (0, .class_ 8), (0, u "java/util/ArrayList"), (0, .methodref 7 3), (0, .class_ 11), (0, u "com/example/multinomial/multinomial/search/ScoredDocument"), (0, .methodref 13 14), (0, .class_ 15), (0, .nameAndType 16 17), (0, u "java/lang/String"), (0, u "valueOf"), (0, u "(C)Ljava/lang/String;"), (0, .double 4613937818241073152), (1, .methodref 10 21), (0, .nameAndType 5 22), (0, u "(Ljava/lang/String;D)V"), (0, .methodref 7 24), (0, .nameAndType 25 26), (0, u "add"), (0, u "(Ljava/lang/Object;)Z"), (0, .double 4611686018427387904), (1, .class_ 30), (0, u "java/util/HashMap"), (0, .methodref 29 3), (0, .methodref 33 34), (0, .class_ 35), (0, .nameAndType 16 36), (0, u "java/lang/Integer"), (0, u "(I)Ljava/lang/Integer;"), (0, .methodref 29 38), (0, .nameAndType 39 40), (0, u "put"), (0, u "(Ljava/lang/Object;Ljava/lang/Object;)Ljava/lang/Object;"), (0, .class_ 42), (0, u "com/example/multinomial/multinomial/eval/JudgedRanking"), (0, .methodref 41 44), (0, .nameAndType 5 45), (0, u "(Ljava/util/List;Ljava/util/Map;)V"), (0, .methodref 41 47), (0, .nameAndType 48 49), (0, u "averagePrecision"), (0, u "()D"), (0, .class_ 51), (0, u "com/example/multinomial/multinomial/eval/JudgedRankingAveragePrecisionPinLaw"), (2, u "law"), (0, u "(IIIII)Z")] 3

def k1m0 : Method := ⟨"<init>", "()V", ⟨[], none⟩, 1, none⟩
def k1c1 : Code := ⟨6, 22, code, #[], #[]⟩
def k1m1 : Method := ⟨"law", "(IIIII)Z", ⟨[.int, .int, .int, .int, .int], some .boolean⟩, 9, some k1c1⟩
def k1 : Class := { plain "com/example/multinomial/multinomial/eval/JudgedRankingAveragePrecisionPinLaw" (some 0) with
  accessFlags := 49
  cf := some (fileOf pool1 50 #[] #[⟨1, 5, 6, #[]⟩, ⟨9, 54, 55, #[]⟩] 49 2 #[] #[])
  methods := #[k1m0, k1m1]
  resolved := Array.replicate 59 none
  }

def pool2 : Array CpInfo := pool [(8, .class_ 10), (1, u "java/lang/Iterable"), (24, .class_ 36), (0, u "java/lang/Object")] 25

def k2 : Class := { plain "java/lang/Iterable" (some 0) with
  accessFlags := 1537
  cf := some (fileOf pool2 8 #[] #[] 1537 35 #[] #[])
  resolved := Array.replicate 62 none
  }

def pool3 : Array CpInfo := pool [(10, .class_ 12), (1, u "java/util/Collection"), (10, u "iterator"), (0, u "()Ljava/util/Iterator;"), (35, .class_ 61), (0, u "java/lang/Object"), (0, .class_ 63), (0, u "java/lang/Iterable")] 51

def k3m0 : Method := ⟨"iterator", "()Ljava/util/Iterator;", ⟨[], some (.object "java/util/Iterator")⟩, 1025, none⟩
def k3 : Class := { plain "java/util/Collection" (some 0) with
  accessFlags := 1537
  interfaces := #[2]
  cf := some (fileOf pool3 10 #[] #[⟨1025, 23, 24, #[]⟩] 1537 60 #[62] #[])
  methods := #[k3m0]
  resolved := Array.replicate 115 none
  }

def pool4 : Array CpInfo := pool [(1, .methodref 2 3), (0, .class_ 4), (0, .nameAndType 5 6), (0, u "java/lang/Object"), (0, u "<init>"), (0, u "()V"), (1, .class_ 10), (1, u "java/util/AbstractCollection"), (66, .class_ 78), (0, u "java/util/Collection")] 81

def k4c0 : Code := ⟨1, 1, jdk_22_method_1_code, #[], #[]⟩
def k4m0 : Method := ⟨"<init>", "()V", ⟨[], none⟩, 4, some k4c0⟩
def k4 : Class := { plain "java/util/AbstractCollection" (some 0) with
  accessFlags := 1057
  interfaces := #[3]
  cf := some (fileOf pool4 8 #[] #[⟨4, 5, 6, #[]⟩] 1057 2 #[77] #[])
  methods := #[k4m0]
  resolved := Array.replicate 160 none
  }

def pool5 : Array CpInfo := pool [(8, .class_ 10), (1, u "java/util/SequencedCollection"), (15, .class_ 27), (0, u "java/lang/Object"), (0, .class_ 29), (0, u "java/util/Collection")] 27

def k5 : Class := { plain "java/util/SequencedCollection" (some 0) with
  accessFlags := 1537
  interfaces := #[3]
  cf := some (fileOf pool5 8 #[] #[] 1537 26 #[28] #[])
  resolved := Array.replicate 57 none
  }

def pool6 : Array CpInfo := pool [(8, .class_ 10), (1, u "java/util/List"), (64, u "get"), (0, u "(I)Ljava/lang/Object;"), (2, u "size"), (0, u "()I"), (22, .class_ 104), (0, u "java/lang/Object"), (15, .class_ 121), (0, u "java/util/SequencedCollection")] 129

def k6m0 : Method := ⟨"size", "()I", ⟨[], some .int⟩, 1025, none⟩
def k6m1 : Method := ⟨"get", "(I)Ljava/lang/Object;", ⟨[.int], some (.object "java/lang/Object")⟩, 1025, none⟩
def k6 : Class := { plain "java/util/List" (some 0) with
  accessFlags := 1537
  interfaces := #[5]
  cf := some (fileOf pool6 8 #[] #[⟨1025, 79, 80, #[]⟩, ⟨1025, 75, 76, #[]⟩] 1537 103 #[120] #[])
  methods := #[k6m0, k6m1]
  resolved := Array.replicate 251 none
  }

def pool7 : Array CpInfo := pool [(1, .methodref 2 3), (0, .class_ 4), (0, .nameAndType 5 6), (0, u "java/util/AbstractCollection"), (0, u "<init>"), (0, u "()V"), (0, .fieldref 8 9), (0, .class_ 10), (0, .nameAndType 11 12), (0, u "java/util/AbstractList"), (0, u "modCount"), (0, u "I"), (64, .class_ 78), (0, u "java/util/AbstractList$Itr"), (3, .class_ 83), (0, u "java/util/AbstractList$ListItr"), (9, .class_ 94), (0, u "java/util/AbstractList$RandomAccessSubList"), (3, .class_ 99), (0, u "java/util/AbstractList$SubList"), (33, .class_ 134), (0, u "java/util/List"), (73, .class_ 209), (0, u "java/util/AbstractList$SubList$1"), (0, .class_ 211), (0, u "java/util/AbstractList$RandomAccessSpliterator")] 6

def k7c0 : Code := ⟨2, 1, jdk_39_method_1_code, #[], #[]⟩
def k7m0 : Method := ⟨"<init>", "()V", ⟨[], none⟩, 4, some k7c0⟩
def k7 : Class := { plain "java/util/AbstractList" (some 4) with
  accessFlags := 1057
  interfaces := #[6]
  cf := some (fileOf pool7 8 #[.nestMembers #[93, 98, 208, 210, 82, 77]] #[⟨4, 5, 6, #[]⟩] 1057 2 #[133] #[⟨132, 11, 12, #[]⟩])
  fields := #[⟨"modCount", .int, 132, 0, 0⟩]
  methods := #[k7m0]
  instanceTypes := #[.int]
  resolved := Array.replicate 218 none
  }

def pool8 : Array CpInfo := pool [(1, .class_ 2), (0, u "java/util/RandomAccess"), (0, .class_ 4), (0, u "java/lang/Object")] 2

def k8 : Class := { plain "java/util/RandomAccess" (some 0) with
  accessFlags := 1537
  cf := some (fileOf pool8 1 #[] #[] 1537 3 #[] #[])
  resolved := Array.replicate 7 none
  }

def pool9 : Array CpInfo := pool [(1, .class_ 2), (0, u "java/lang/Cloneable"), (0, .class_ 4), (0, u "java/lang/Object")] 2

def k9 : Class := { plain "java/lang/Cloneable" (some 0) with
  accessFlags := 1537
  cf := some (fileOf pool9 1 #[] #[] 1537 3 #[] #[])
  resolved := Array.replicate 7 none
  }

def pool10 : Array CpInfo := pool [(1, .class_ 2), (0, u "java/io/Serializable"), (0, .class_ 4), (0, u "java/lang/Object")] 2

def k10 : Class := { plain "java/io/Serializable" (some 0) with
  accessFlags := 1537
  cf := some (fileOf pool10 1 #[] #[] 1537 3 #[] #[])
  resolved := Array.replicate 7 none
  }

def pool11 : Array CpInfo := pool [(1, .methodref 2 3), (0, .class_ 4), (0, .nameAndType 5 6), (0, u "java/util/AbstractList"), (0, u "<init>"), (0, u "()V"), (0, .class_ 8), (0, u "java/lang/Object"), (0, .fieldref 10 11), (0, .class_ 12), (0, .nameAndType 13 14), (0, u "java/util/ArrayList"), (0, u "elementData"), (0, u "[Ljava/lang/Object;"), (2, u "EMPTY_ELEMENTDATA"), (21, .fieldref 10 40), (0, .nameAndType 41 14), (0, u "DEFAULTCAPACITY_EMPTY_ELEMENTDATA"), (5, u "()[Ljava/lang/Object;"), (0, .fieldref 10 49), (0, .nameAndType 50 51), (0, u "size"), (0, u "I"), (11, .fieldref 10 64), (0, .nameAndType 65 51), (0, u "modCount"), (3, .methodref 10 70), (0, .nameAndType 71 72), (0, u "grow"), (0, u "(I)[Ljava/lang/Object;"), (6, .methodref 80 81), (0, .class_ 82), (0, .nameAndType 83 84), (0, u "java/lang/Math"), (0, u "max"), (0, u "(II)I"), (11, u "(Ljava/lang/Object;)Z"), (21, .methodref 119 120), (0, .class_ 121), (0, .nameAndType 122 84), (0, u "java/util/Objects"), (0, u "checkIndex"), (0, .methodref 10 124), (0, .nameAndType 13 125), (0, u "(I)Ljava/lang/Object;"), (3, .methodref 10 130), (0, .nameAndType 71 47), (0, .methodref 10 132), (0, .nameAndType 133 134), (0, u "add"), (0, u "(Ljava/lang/Object;[Ljava/lang/Object;I)V"), (13, .class_ 149), (0, u "java/util/List"), (36, u "()I"), (75, .class_ 263), (0, u "java/util/ArrayList$ListItr"), (3, .class_ 268), (0, u "java/util/ArrayList$Itr"), (7, .class_ 277), (0, u "java/util/ArrayList$SubList"), (12, .class_ 291), (0, u "java/util/ArrayList$ArrayListSpliterator"), (37, .class_ 330), (0, u "java/util/RandomAccess"), (0, .class_ 332), (0, u "java/lang/Cloneable"), (0, .class_ 334), (0, u "java/io/Serializable"), (0, u "serialVersionUID"), (0, u "J"), (3, u "DEFAULT_CAPACITY"), (40, u "get"), (118, .class_ 501), (0, u "java/util/ArrayList$SubList$2"), (0, .class_ 503), (0, u "java/util/ArrayList$SubList$1")] 5

def k11c0 : Code := ⟨2, 1, jdk_38_method_2_code, #[], #[]⟩
def k11m0 : Method := ⟨"<init>", "()V", ⟨[], none⟩, 1, some k11c0⟩
def k11c1 : Code := ⟨4, 4, jdk_38_method_6_code, #[], #[]⟩
def k11m1 : Method := ⟨"grow", "(I)[Ljava/lang/Object;", ⟨[.int], some (.array (.object "java/lang/Object"))⟩, 2, some k11c1⟩
def k11c2 : Code := ⟨3, 1, jdk_38_method_7_code, #[], #[]⟩
def k11m2 : Method := ⟨"grow", "()[Ljava/lang/Object;", ⟨[], some (.array (.object "java/lang/Object"))⟩, 2, some k11c2⟩
def k11c3 : Code := ⟨1, 1, jdk_38_method_8_code, #[], #[]⟩
def k11m3 : Method := ⟨"size", "()I", ⟨[], some .int⟩, 1, some k11c3⟩
def k11c4 : Code := ⟨2, 2, jdk_38_method_18_code, #[], #[]⟩
def k11m4 : Method := ⟨"elementData", "(I)Ljava/lang/Object;", ⟨[.int], some (.object "java/lang/Object")⟩, 0, some k11c4⟩
def k11c5 : Code := ⟨2, 2, jdk_38_method_20_code, #[], #[]⟩
def k11m5 : Method := ⟨"get", "(I)Ljava/lang/Object;", ⟨[.int], some (.object "java/lang/Object")⟩, 1, some k11c5⟩
def k11c6 : Code := ⟨3, 4, jdk_38_method_24_code, #[], #[]⟩
def k11m6 : Method := ⟨"add", "(Ljava/lang/Object;[Ljava/lang/Object;I)V", ⟨[(.object "java/lang/Object"), (.array (.object "java/lang/Object")), .int], none⟩, 2, some k11c6⟩
def k11c7 : Code := ⟨4, 2, jdk_38_method_25_code, #[], #[]⟩
def k11m7 : Method := ⟨"add", "(Ljava/lang/Object;)Z", ⟨[(.object "java/lang/Object")], some .boolean⟩, 1, some k11c7⟩
def k11 : Class := { plain "java/util/ArrayList" (some 7) with
  interfaces := #[6, 8, 9, 10]
  cf := some (fileOf pool11 10 #[.nestMembers #[290, 276, 500, 502, 262, 267]] #[⟨1, 5, 6, #[]⟩, ⟨2, 71, 72, #[]⟩, ⟨2, 71, 47, #[]⟩, ⟨1, 50, 186, #[]⟩, ⟨0, 13, 125, #[]⟩, ⟨1, 381, 125, #[]⟩, ⟨2, 133, 134, #[]⟩, ⟨1, 133, 96, #[]⟩] 33 2 #[148, 329, 331, 333] #[⟨26, 335, 336, #[]⟩, ⟨26, 340, 51, #[]⟩, ⟨26, 17, 14, #[]⟩, ⟨26, 41, 14, #[]⟩, ⟨128, 13, 14, #[]⟩, ⟨2, 50, 51, #[]⟩])
  fields := #[⟨"serialVersionUID", .long, 26, 0, 0⟩, ⟨"DEFAULT_CAPACITY", .int, 26, 1, 0⟩, ⟨"EMPTY_ELEMENTDATA", (.array (.object "java/lang/Object")), 26, 2, 0⟩, ⟨"DEFAULTCAPACITY_EMPTY_ELEMENTDATA", (.array (.object "java/lang/Object")), 26, 3, 0⟩, ⟨"elementData", (.array (.object "java/lang/Object")), 128, 1, 0⟩, ⟨"size", .int, 2, 2, 0⟩]
  methods := #[k11m0, k11m1, k11m2, k11m3, k11m4, k11m5, k11m6, k11m7]
  instanceTypes := #[.int, (.array (.object "java/lang/Object")), .int]
  staticTypes := #[.long, .int, (.array (.object "java/lang/Object")), (.array (.object "java/lang/Object"))]
  resolved := Array.replicate 509 none
  statics := some 0 }

def pool12 : Array CpInfo := pool [(2, .class_ 4), (1, u "java/util/Map"), (31, .class_ 37), (0, u "java/util/Map$Entry"), (25, u "(Ljava/lang/Object;Ljava/lang/Object;)Ljava/lang/Object;"), (29, .class_ 94), (0, u "java/lang/Object"), (25, u "size"), (0, u "()I"), (11, u "values"), (0, u "()Ljava/util/Collection;"), (3, u "getOrDefault")] 124

def k12m0 : Method := ⟨"size", "()I", ⟨[], some .int⟩, 1025, none⟩
def k12m1 : Method := ⟨"values", "()Ljava/util/Collection;", ⟨[], some (.object "java/util/Collection")⟩, 1025, none⟩
def k12c2 : Code := ⟨2, 4, ⟨#[0x2a, 0x2b, 0xb9, 0x00, 0x01, 0x02, 0x00, 0x59, 0x4e, 0xc7, 0x00, 0x0d, 0x2a, 0x2b, 0xb9, 0x00, 0x07, 0x02, 0x00, 0x99, 0x00, 0x07, 0x2d, 0xa7, 0x00, 0x04, 0x2c, 0xb0]⟩, #[], #[]⟩
def k12m2 : Method := ⟨"getOrDefault", "(Ljava/lang/Object;Ljava/lang/Object;)Ljava/lang/Object;", ⟨[(.object "java/lang/Object"), (.object "java/lang/Object")], some (.object "java/lang/Object")⟩, 1, some k12c2⟩
def k12 : Class := { plain "java/util/Map" (some 0) with
  accessFlags := 1537
  cf := some (fileOf pool12 2 #[.nestMembers #[36]] #[⟨1025, 120, 121, #[]⟩, ⟨1025, 133, 134, #[]⟩, ⟨1, 138, 63, #[]⟩] 1537 93 #[] #[])
  methods := #[k12m0, k12m1, k12m2]
  resolved := Array.replicate 263 none
  }

def pool13 : Array CpInfo := pool [(1, .methodref 2 3), (0, .class_ 4), (0, .nameAndType 5 6), (0, u "java/lang/Object"), (0, u "<init>"), (0, u "()V"), (1, .class_ 10), (1, u "java/util/AbstractMap"), (42, .class_ 54), (0, u "java/util/Map"), (9, u "keySet"), (0, u "Ljava/util/Set;"), (0, .class_ 67), (0, u "java/util/AbstractMap$1"), (5, u "values"), (0, u "Ljava/util/Collection;"), (0, .class_ 76), (0, u "java/util/AbstractMap$2"), (104, .class_ 182), (0, u "java/util/AbstractMap$ViewCollection"), (0, .class_ 184), (0, u "java/util/AbstractMap$SimpleImmutableEntry"), (0, .class_ 186), (0, u "java/util/AbstractMap$SimpleEntry"), (0, .class_ 188), (0, u "java/util/AbstractMap$2$1"), (0, .class_ 190), (0, u "java/util/AbstractMap$1$1")] 5

def k13c0 : Code := ⟨1, 1, jdk_71_method_1_code, #[], #[]⟩
def k13m0 : Method := ⟨"<init>", "()V", ⟨[], none⟩, 4, some k13c0⟩
def k13 : Class := { plain "java/util/AbstractMap" (some 0) with
  accessFlags := 1057
  interfaces := #[12]
  cf := some (fileOf pool13 8 #[.nestMembers #[181, 183, 185, 75, 187, 66, 189]] #[⟨4, 5, 6, #[]⟩] 1057 2 #[53] #[⟨128, 64, 65, #[]⟩, ⟨128, 73, 74, #[]⟩])
  fields := #[⟨"keySet", (.object "java/util/Set"), 128, 0, 0⟩, ⟨"values", (.object "java/util/Collection"), 128, 1, 0⟩]
  methods := #[k13m0]
  instanceTypes := #[(.object "java/util/Set"), (.object "java/util/Collection")]
  resolved := Array.replicate 196 none
  }

def pool14 : Array CpInfo := pool [(1, .methodref 2 3), (0, .class_ 4), (0, .nameAndType 5 6), (0, u "java/lang/Object"), (0, u "hashCode"), (0, u "()I"), (26, u "(Ljava/lang/Object;)I"), (6, .class_ 41), (0, u "java/util/HashMap"), (1, .methodref 44 45), (0, .class_ 46), (0, .nameAndType 47 48), (0, u "java/util/AbstractMap"), (0, u "<init>"), (0, u "()V"), (32, .fieldref 40 82), (0, .nameAndType 83 84), (0, u "loadFactor"), (0, u "F"), (3, .fieldref 40 89), (0, .nameAndType 90 91), (0, u "threshold"), (0, u "I"), (0, .float 1061158912), (8, .class_ 103), (1, u "java/util/Map"), (0, u "size"), (0, .fieldref 40 106), (0, .nameAndType 107 108), (0, u "table"), (0, u "[Ljava/util/HashMap$Node;"), (8, .methodref 40 118), (0, .nameAndType 119 120), (0, u "resize"), (0, u "()[Ljava/util/HashMap$Node;"), (2, u "entrySet"), (25, .methodref 40 150), (0, .nameAndType 151 33), (0, u "hash"), (0, .methodref 40 153), (0, .nameAndType 154 155), (0, u "putVal"), (0, u "(ILjava/lang/Object;Ljava/lang/Object;ZZ)Ljava/lang/Object;"), (0, .fieldref 40 157), (0, .nameAndType 104 91), (0, .methodref 40 159), (0, .nameAndType 160 161), (0, u "getNode"), (0, u "(Ljava/lang/Object;)Ljava/util/HashMap$Node;"), (0, .fieldref 163 164), (0, .class_ 165), (0, .nameAndType 166 167), (0, u "java/util/HashMap$Node"), (0, u "value"), (0, u "Ljava/lang/Object;"), (0, .fieldref 163 169), (0, .nameAndType 151 91), (0, .fieldref 163 171), (0, .nameAndType 172 167), (0, u "key"), (0, .methodref 2 174), (0, .nameAndType 175 176), (0, u "equals"), (0, u "(Ljava/lang/Object;)Z"), (3, .class_ 181), (0, u "java/util/HashMap$TreeNode"), (4, .methodref 40 187), (0, .nameAndType 188 189), (0, u "newNode"), (0, u "(ILjava/lang/Object;Ljava/lang/Object;Ljava/util/HashMap$Node;)Ljava/util/HashMap$Node;"), (12, .fieldref 40 203), (0, .nameAndType 204 91), (0, u "modCount"), (0, .methodref 40 206), (0, .nameAndType 207 208), (0, u "afterNodeInsertion"), (0, u "(Z)V"), (33, u "Ljava/util/Set;"), (0, .class_ 244), (0, u "java/util/HashMap$KeySet"), (1, .nameAndType 47 247), (0, u "(Ljava/util/HashMap;)V"), (11, .fieldref 40 260), (0, .nameAndType 261 262), (0, u "values"), (0, u "Ljava/util/Collection;"), (0, .class_ 264), (0, u "java/util/HashMap$Values"), (0, .methodref 263 246), (2, .class_ 269), (0, u "java/util/HashMap$EntrySet"), (17, u "(Ljava/lang/Object;Ljava/lang/Object;)Ljava/lang/Object;"), (58, .class_ 348), (1, u "java/util/HashMap$UnsafeHolder"), (26, .methodref 163 376), (0, .nameAndType 47 377), (0, u "(ILjava/lang/Object;Ljava/lang/Object;Ljava/util/HashMap$Node;)V"), (14, .class_ 393), (0, u "java/lang/Cloneable"), (0, .class_ 395), (0, u "java/io/Serializable"), (0, u "serialVersionUID"), (0, u "J"), (3, u "DEFAULT_INITIAL_CAPACITY"), (1, u "MAXIMUM_CAPACITY"), (0, u "DEFAULT_LOAD_FACTOR"), (0, u "TREEIFY_THRESHOLD"), (1, u "UNTREEIFY_THRESHOLD"), (1, u "MIN_TREEIFY_CAPACITY"), (60, u "put"), (45, u "()Ljava/util/Collection;"), (7, u "getOrDefault"), (71, .class_ 597), (0, u "java/util/HashMap$EntrySpliterator"), (0, .class_ 599), (0, u "java/util/HashMap$ValueSpliterator"), (0, .class_ 601), (0, u "java/util/HashMap$KeySpliterator"), (0, .class_ 603), (0, u "java/util/HashMap$HashMapSpliterator"), (0, .class_ 605), (0, u "java/util/HashMap$EntryIterator"), (0, .class_ 607), (0, u "java/util/HashMap$ValueIterator"), (0, .class_ 609), (0, u "java/util/HashMap$KeyIterator"), (0, .class_ 611), (0, u "java/util/HashMap$HashIterator")] 17

def k14c0 : Code := ⟨3, 2, jdk_69_method_1_code, #[], #[]⟩
def k14m0 : Method := ⟨"hash", "(Ljava/lang/Object;)I", ⟨[(.object "java/lang/Object")], some .int⟩, 24, some k14c0⟩
def k14c1 : Code := ⟨2, 1, jdk_69_method_7_code, #[], #[]⟩
def k14m1 : Method := ⟨"<init>", "()V", ⟨[], none⟩, 1, some k14c1⟩
def k14c2 : Code := ⟨1, 1, jdk_69_method_10_code, #[], #[]⟩
def k14m2 : Method := ⟨"size", "()I", ⟨[], some .int⟩, 1, some k14c2⟩
def k14c3 : Code := ⟨4, 8, jdk_69_method_13_code, #[], #[]⟩
def k14m3 : Method := ⟨"getNode", "(Ljava/lang/Object;)Ljava/util/HashMap$Node;", ⟨[(.object "java/lang/Object")], some (.object "java/util/HashMap$Node")⟩, 16, some k14c3⟩
def k14c4 : Code := ⟨6, 3, jdk_69_method_15_code, #[], #[]⟩
def k14m4 : Method := ⟨"put", "(Ljava/lang/Object;Ljava/lang/Object;)Ljava/lang/Object;", ⟨[(.object "java/lang/Object"), (.object "java/lang/Object")], some (.object "java/lang/Object")⟩, 1, some k14c4⟩
def k14c5 : Code := ⟨7, 13, jdk_69_method_16_code, #[], #[]⟩
def k14m5 : Method := ⟨"putVal", "(ILjava/lang/Object;Ljava/lang/Object;ZZ)Ljava/lang/Object;", ⟨[.int, (.object "java/lang/Object"), (.object "java/lang/Object"), .boolean, .boolean], some (.object "java/lang/Object")⟩, 16, some k14c5⟩
def k14c6 : Code := ⟨5, 14, jdk_69_method_17_code, #[], #[]⟩
def k14m6 : Method := ⟨"resize", "()[Ljava/util/HashMap$Node;", ⟨[], some (.array (.object "java/util/HashMap$Node"))⟩, 16, some k14c6⟩
def k14c7 : Code := ⟨3, 2, jdk_69_method_28_code, #[], #[]⟩
def k14m7 : Method := ⟨"values", "()Ljava/util/Collection;", ⟨[], some (.object "java/util/Collection")⟩, 1, some k14c7⟩
def k14c8 : Code := ⟨2, 4, jdk_69_method_30_code, #[], #[]⟩
def k14m8 : Method := ⟨"getOrDefault", "(Ljava/lang/Object;Ljava/lang/Object;)Ljava/lang/Object;", ⟨[(.object "java/lang/Object"), (.object "java/lang/Object")], some (.object "java/lang/Object")⟩, 1, some k14c8⟩
def k14c9 : Code := ⟨6, 5, jdk_69_method_46_code, #[], #[]⟩
def k14m9 : Method := ⟨"newNode", "(ILjava/lang/Object;Ljava/lang/Object;Ljava/util/HashMap$Node;)Ljava/util/HashMap$Node;", ⟨[.int, (.object "java/lang/Object"), (.object "java/lang/Object"), (.object "java/util/HashMap$Node")], some (.object "java/util/HashMap$Node")⟩, 0, some k14c9⟩
def k14c10 : Code := ⟨0, 2, jdk_69_method_52_code, #[], #[]⟩
def k14m10 : Method := ⟨"afterNodeInsertion", "(Z)V", ⟨[.boolean], none⟩, 0, some k14c10⟩
def k14 : Class := { plain "java/util/HashMap" (some 13) with
  interfaces := #[12, 9, 10]
  cf := some (fileOf pool14 40 #[.nestMembers #[180, 596, 598, 600, 602, 604, 606, 608, 610, 346, 268, 263, 243, 163]] #[⟨24, 151, 33, #[]⟩, ⟨1, 47, 48, #[]⟩, ⟨1, 104, 6, #[]⟩, ⟨16, 160, 161, #[]⟩, ⟨1, 470, 287, #[]⟩, ⟨16, 154, 155, #[]⟩, ⟨16, 119, 120, #[]⟩, ⟨1, 261, 516, #[]⟩, ⟨1, 524, 287, #[]⟩, ⟨0, 188, 189, #[]⟩, ⟨0, 207, 208, #[]⟩] 33 44 #[101, 392, 394] #[⟨26, 396, 397, #[]⟩, ⟨24, 401, 91, #[]⟩, ⟨24, 403, 91, #[]⟩, ⟨24, 404, 84, #[]⟩, ⟨24, 405, 91, #[]⟩, ⟨24, 407, 91, #[]⟩, ⟨24, 409, 91, #[]⟩, ⟨128, 107, 108, #[]⟩, ⟨128, 123, 242, #[]⟩, ⟨128, 104, 91, #[]⟩, ⟨128, 204, 91, #[]⟩, ⟨0, 90, 91, #[]⟩, ⟨16, 83, 84, #[]⟩])
  fields := #[⟨"serialVersionUID", .long, 26, 0, 0⟩, ⟨"DEFAULT_INITIAL_CAPACITY", .int, 24, 1, 0⟩, ⟨"MAXIMUM_CAPACITY", .int, 24, 2, 0⟩, ⟨"DEFAULT_LOAD_FACTOR", .float, 24, 3, 0⟩, ⟨"TREEIFY_THRESHOLD", .int, 24, 4, 0⟩, ⟨"UNTREEIFY_THRESHOLD", .int, 24, 5, 0⟩, ⟨"MIN_TREEIFY_CAPACITY", .int, 24, 6, 0⟩, ⟨"table", (.array (.object "java/util/HashMap$Node")), 128, 2, 0⟩, ⟨"entrySet", (.object "java/util/Set"), 128, 3, 0⟩, ⟨"size", .int, 128, 4, 0⟩, ⟨"modCount", .int, 128, 5, 0⟩, ⟨"threshold", .int, 0, 6, 0⟩, ⟨"loadFactor", .float, 16, 7, 0⟩]
  methods := #[k14m0, k14m1, k14m2, k14m3, k14m4, k14m5, k14m6, k14m7, k14m8, k14m9, k14m10]
  instanceTypes := #[(.object "java/util/Set"), (.object "java/util/Collection"), (.array (.object "java/util/HashMap$Node")), (.object "java/util/Set"), .int, .int, .int, .float]
  staticTypes := #[.long, .int, .int, .float, .int, .int, .int]
  resolved := Array.replicate 629 none
  }

def pool15 : Array CpInfo := pool [(1, .class_ 2), (0, u "java/lang/Comparable"), (0, .class_ 4), (0, u "java/lang/Object")] 7

def k15 : Class := { plain "java/lang/Comparable" (some 0) with
  accessFlags := 1537
  cf := some (fileOf pool15 1 #[] #[] 1537 3 #[] #[])
  resolved := Array.replicate 12 none
  }

def pool16 : Array CpInfo := pool [(2, .class_ 4), (1, u "java/lang/CharSequence"), (42, .class_ 48), (0, u "java/lang/CharSequence$1CodePointIterator"), (10, .class_ 60), (0, u "java/lang/CharSequence$1CharIterator"), (5, .class_ 67), (0, u "java/lang/Object")] 63

def k16 : Class := { plain "java/lang/CharSequence" (some 0) with
  accessFlags := 1537
  cf := some (fileOf pool16 2 #[.nestMembers #[47, 59]] #[] 1537 66 #[] #[])
  resolved := Array.replicate 131 none
  }

def pool17 : Array CpInfo := pool [(1, .class_ 2), (0, u "java/lang/constant/Constable"), (0, .class_ 4), (0, u "java/lang/Object")] 6

def k17 : Class := { plain "java/lang/constant/Constable" (some 0) with
  accessFlags := 1537
  cf := some (fileOf pool17 1 #[] #[] 1537 3 #[] #[])
  resolved := Array.replicate 11 none
  }

def pool18 : Array CpInfo := pool [(1, .class_ 2), (0, u "java/lang/constant/ConstantDesc"), (0, .class_ 4), (0, u "java/lang/Object")] 32

def k18 : Class := { plain "java/lang/constant/ConstantDesc" (some 0) with
  accessFlags := 1537
  cf := some (fileOf pool18 1 #[] #[] 1537 3 #[] #[])
  resolved := Array.replicate 37 none
  }

def pool19 : Array CpInfo := pool [(1, .methodref 2 3), (0, .class_ 4), (0, .nameAndType 5 6), (0, u "java/lang/Object"), (0, u "<init>"), (0, u "()V"), (2, .fieldref 10 11), (0, .class_ 12), (0, .nameAndType 13 14), (0, u "java/lang/String"), (0, u "value"), (0, u "[B"), (0, .fieldref 10 16), (0, .nameAndType 17 18), (0, u "coder"), (0, u "B"), (0, .fieldref 10 20), (0, .nameAndType 21 22), (0, u "hash"), (0, u "I"), (0, .fieldref 10 24), (0, .nameAndType 25 26), (0, u "hashIsZero"), (0, u "Z"), (11, .fieldref 10 39), (0, .nameAndType 40 26), (0, u "COMPACT_STRINGS"), (12, u "toBytes"), (53, .class_ 109), (1, u "java/lang/StringLatin1"), (32, u "()Z"), (66, .methodref 10 210), (0, .nameAndType 5 211), (0, u "([BB)V"), (122, u "()I"), (34, u "(C)Z"), (122, .methodref 10 493), (0, .nameAndType 494 142), (0, u "isLatin1"), (46, .methodref 107 542), (0, .nameAndType 543 544), (0, u "equals"), (0, u "([B[B)Z"), (28, u "(Ljava/lang/Object;)Z"), (1, .class_ 576), (0, u "java/lang/CharSequence"), (22, u "CASE_INSENSITIVE_ORDER"), (0, u "Ljava/util/Comparator;"), (27, .methodref 107 629), (0, .nameAndType 630 631), (0, u "hashCode"), (0, u "([B)I"), (150, u "valueOf"), (0, u "(C)Ljava/lang/String;"), (231, .methodref 107 1016), (0, .nameAndType 1017 369), (0, u "canEncode"), (0, .methodref 107 1019), (0, .nameAndType 53 1020), (0, u "(C)[B"), (80, u "serialPersistentFields"), (0, u "[Ljava/io/ObjectStreamField;"), (0, .class_ 1104), (0, u "java/lang/String$CaseInsensitiveComparator"), (1, .class_ 1107), (0, u "java/io/Serializable"), (0, .class_ 1109), (0, u "java/lang/Comparable"), (0, .class_ 1111), (0, u "java/lang/constant/Constable"), (0, .class_ 1113), (0, u "java/lang/constant/ConstantDesc"), (2, u "serialVersionUID"), (0, u "J"), (3, u "REPL"), (0, u "C"), (2, u "LATIN1"), (1, u "UTF16")] 323

def k19m0 : Method := ⟨"<init>", "()V", ⟨[], none⟩, 1, none⟩
def k19c1 : Code := ⟨2, 3, jdk_42_method_66_code, #[], #[]⟩
def k19m1 : Method := ⟨"equals", "(Ljava/lang/Object;)Z", ⟨[(.object "java/lang/Object")], some .boolean⟩, 1, some k19c1⟩
def k19c2 : Code := ⟨2, 2, jdk_42_method_78_code, #[], #[]⟩
def k19m2 : Method := ⟨"hashCode", "()I", ⟨[], some .int⟩, 1, some k19c2⟩
def k19c3 : Code := ⟨4, 1, jdk_42_method_139_code, #[], #[]⟩
def k19m3 : Method := ⟨"valueOf", "(C)Ljava/lang/String;", ⟨[.char], some (.object "java/lang/String")⟩, 9, some k19c3⟩
def k19c4 : Code := ⟨2, 3, jdk_42_method_151_code, #[], #[]⟩
def k19m4 : Method := ⟨"<init>", "([BB)V", ⟨[(.array .byte), .byte], none⟩, 0, some k19c4⟩
def k19c5 : Code := ⟨1, 1, jdk_42_method_154_code, #[], #[]⟩
def k19m5 : Method := ⟨"isLatin1", "()Z", ⟨[], some .boolean⟩, 0, some k19c5⟩
def k19 : Class := { plain "java/lang/String" (some 0) with
  accessFlags := 49
  interfaces := #[10, 15, 16, 17, 18]
  cf := some (fileOf pool19 10 #[.nestMembers #[1103]] #[⟨1, 5, 6, #[]⟩, ⟨1, 543, 573, #[]⟩, ⟨1, 630, 334, #[]⟩, ⟨9, 782, 783, #[]⟩, ⟨0, 5, 211, #[]⟩, ⟨0, 494, 142, #[]⟩] 49 2 #[1106, 1108, 575, 1110, 1112] #[⟨18, 13, 14, #[]⟩, ⟨18, 17, 18, #[]⟩, ⟨2, 21, 22, #[]⟩, ⟨2, 25, 26, #[]⟩, ⟨26, 1116, 1117, #[]⟩, ⟨24, 40, 26, #[]⟩, ⟨26, 1101, 1102, #[]⟩, ⟨26, 1121, 1122, #[]⟩, ⟨25, 599, 600, #[]⟩, ⟨24, 1125, 18, #[]⟩, ⟨24, 1127, 18, #[]⟩])
  fields := #[⟨"value", (.array .byte), 18, 0, 0⟩, ⟨"coder", .byte, 18, 1, 0⟩, ⟨"hash", .int, 2, 2, 0⟩, ⟨"hashIsZero", .boolean, 2, 3, 0⟩, ⟨"serialVersionUID", .long, 26, 0, 0⟩, ⟨"COMPACT_STRINGS", .boolean, 24, 1, 0⟩, ⟨"serialPersistentFields", (.array (.object "java/io/ObjectStreamField")), 26, 2, 0⟩, ⟨"REPL", .char, 26, 3, 0⟩, ⟨"CASE_INSENSITIVE_ORDER", (.object "java/util/Comparator"), 25, 4, 0⟩, ⟨"LATIN1", .byte, 24, 5, 0⟩, ⟨"UTF16", .byte, 24, 6, 0⟩]
  methods := #[k19m0, k19m1, k19m2, k19m3, k19m4, k19m5]
  instanceTypes := #[(.array .byte), .byte, .int, .boolean]
  staticTypes := #[.long, .boolean, (.array (.object "java/io/ObjectStreamField")), .char, (.object "java/util/Comparator"), .byte, .byte]
  resolved := Array.replicate 1451 none
  statics := some 1 }

def pool20 : Array CpInfo := pool [(4, .class_ 6), (1, u "java/lang/Object"), (0, u "<init>"), (0, u "()V"), (5, .class_ 16), (1, u "java/lang/StringLatin1"), (40, u "([B)I"), (32, u "canEncode"), (14, u "(C)Z"), (15, u "$assertionsDisabled"), (0, u "Z"), (98, .class_ 223), (1, u "java/lang/StringLatin1$LinesSpliterator"), (57, u "equals"), (0, u "([B[B)Z"), (15, u "hashCode"), (81, u "toBytes"), (1, u "(C)[B"), (7, .class_ 391), (0, u "java/lang/StringLatin1$CharsSpliterator")] 3

def k20m0 : Method := ⟨"<init>", "()V", ⟨[], none⟩, 0, none⟩
def k20c1 : Code := ⟨2, 1, jdk_43_method_3_code, #[], #[]⟩
def k20m1 : Method := ⟨"canEncode", "(C)Z", ⟨[.char], some .boolean⟩, 9, some k20c1⟩
def k20c2 : Code := ⟨3, 3, jdk_43_method_13_code, #[], #[]⟩
def k20m2 : Method := ⟨"equals", "([B[B)Z", ⟨[(.array .byte), (.array .byte)], some .boolean⟩, 9, some k20c2⟩
def k20c3 : Code := ⟨5, 1, jdk_43_method_21_code, #[], #[]⟩
def k20m3 : Method := ⟨"hashCode", "([B)I", ⟨[(.array .byte)], some .int⟩, 9, some k20c3⟩
def k20c4 : Code := ⟨4, 1, jdk_43_method_46_code, #[], #[]⟩
def k20m4 : Method := ⟨"toBytes", "(C)[B", ⟨[.char], some (.array .byte)⟩, 9, some k20c4⟩
def k20 : Class := { plain "java/lang/StringLatin1" (some 0) with
  accessFlags := 48
  cf := some (fileOf pool20 14 #[.nestMembers #[390, 221]] #[⟨0, 7, 8, #[]⟩, ⟨9, 90, 105, #[]⟩, ⟨9, 281, 282, #[]⟩, ⟨9, 298, 57, #[]⟩, ⟨9, 380, 382, #[]⟩] 48 4 #[] #[⟨4120, 121, 122, #[]⟩])
  fields := #[⟨"$assertionsDisabled", .boolean, 4120, 0, 0⟩]
  methods := #[k20m0, k20m1, k20m2, k20m3, k20m4]
  staticTypes := #[.boolean]
  resolved := Array.replicate 395 none
  }

def pool21 : Array CpInfo := pool [(1, .methodref 2 3), (0, .class_ 4), (0, .nameAndType 5 6), (0, u "java/lang/Object"), (0, u "<init>"), (0, u "()V"), (1, .class_ 10), (1, u "java/lang/Number"), (2, .class_ 14), (0, u "java/io/Serializable"), (0, u "serialVersionUID"), (0, u "J")] 20

def k21c0 : Code := ⟨1, 1, jdk_18_method_1_code, #[], #[]⟩
def k21m0 : Method := ⟨"<init>", "()V", ⟨[], none⟩, 1, some k21c0⟩
def k21 : Class := { plain "java/lang/Number" (some 0) with
  accessFlags := 1057
  interfaces := #[10]
  cf := some (fileOf pool21 8 #[] #[⟨1, 5, 6, #[]⟩] 1057 2 #[13] #[⟨26, 15, 16, #[]⟩])
  fields := #[⟨"serialVersionUID", .long, 26, 0, 0⟩]
  methods := #[k21m0]
  staticTypes := #[.long]
  resolved := Array.replicate 37 none
  }

def pool22 : Array CpInfo := pool [(1, .class_ 2), (0, u "java/lang/Integer"), (16, u "digits"), (0, u "[C"), (46, u "<init>"), (17, u "DigitOnes"), (0, u "[B"), (2, u "DigitTens"), (10, .nameAndType 67 101), (0, u "()V"), (19, u "()I"), (65, u "valueOf"), (0, u "(I)Ljava/lang/Integer;"), (0, .class_ 190), (0, u "java/lang/Integer$IntegerCache"), (0, .fieldref 189 192), (0, .nameAndType 193 194), (0, u "high"), (0, u "I"), (0, .fieldref 189 196), (0, .nameAndType 197 198), (0, u "cache"), (0, u "[Ljava/lang/Integer;"), (0, .methodref 1 200), (0, .nameAndType 67 201), (0, u "(I)V"), (0, .methodref 203 100), (0, .class_ 204), (0, u "java/lang/Number"), (0, .fieldref 1 206), (0, .nameAndType 207 194), (0, u "value"), (5, u "intValue"), (88, u "TYPE"), (0, u "Ljava/lang/Class;"), (0, .class_ 305), (0, u "java/lang/Comparable"), (0, .class_ 307), (0, u "java/lang/constant/Constable"), (0, .class_ 309), (0, u "java/lang/constant/ConstantDesc"), (0, u "MIN_VALUE"), (1, u "MAX_VALUE"), (3, u "SIZE"), (1, u "BYTES"), (1, u "serialVersionUID"), (0, u "J")] 131

def k22c0 : Code := ⟨3, 1, jdk_33_method_22_code, #[], #[]⟩
def k22m0 : Method := ⟨"valueOf", "(I)Ljava/lang/Integer;", ⟨[.int], some (.object "java/lang/Integer")⟩, 9, some k22c0⟩
def k22c1 : Code := ⟨2, 2, jdk_33_method_23_code, #[], #[]⟩
def k22m1 : Method := ⟨"<init>", "(I)V", ⟨[.int], none⟩, 1, some k22c1⟩
def k22c2 : Code := ⟨1, 1, jdk_33_method_27_code, #[], #[]⟩
def k22m2 : Method := ⟨"intValue", "()I", ⟨[], some .int⟩, 1, some k22c2⟩
def k22 : Class := { plain "java/lang/Integer" (some 21) with
  accessFlags := 49
  interfaces := #[15, 17, 18]
  cf := some (fileOf pool22 1 #[.nestMembers #[189]] #[⟨9, 187, 188, #[]⟩, ⟨1, 67, 201, #[]⟩, ⟨1, 213, 121, #[]⟩] 49 203 #[304, 306, 308] #[⟨25, 310, 194, #[]⟩, ⟨25, 312, 194, #[]⟩, ⟨25, 302, 303, #[]⟩, ⟨24, 19, 20, #[]⟩, ⟨24, 89, 86, #[]⟩, ⟨24, 85, 86, #[]⟩, ⟨18, 207, 194, #[]⟩, ⟨25, 316, 194, #[]⟩, ⟨25, 318, 194, #[]⟩, ⟨26, 320, 321, #[]⟩])
  fields := #[⟨"MIN_VALUE", .int, 25, 0, 0⟩, ⟨"MAX_VALUE", .int, 25, 1, 0⟩, ⟨"TYPE", (.object "java/lang/Class"), 25, 2, 0⟩, ⟨"digits", (.array .char), 24, 3, 0⟩, ⟨"DigitTens", (.array .byte), 24, 4, 0⟩, ⟨"DigitOnes", (.array .byte), 24, 5, 0⟩, ⟨"value", .int, 18, 0, 0⟩, ⟨"SIZE", .int, 25, 6, 0⟩, ⟨"BYTES", .int, 25, 7, 0⟩, ⟨"serialVersionUID", .long, 26, 8, 0⟩]
  methods := #[k22m0, k22m1, k22m2]
  instanceTypes := #[.int]
  staticTypes := #[.int, .int, (.object "java/lang/Class"), (.array .char), (.array .byte), (.array .byte), .int, .int, .long]
  resolved := Array.replicate 453 none
  }

def pool23 : Array CpInfo := pool [(2, .class_ 4), (1, u "java/lang/Object"), (0, u "<init>"), (0, u "()V"), (0, .class_ 8), (0, u "java/lang/Integer"), (7, .class_ 18), (1, u "java/lang/Integer$IntegerCache"), (0, u "$assertionsDisabled"), (0, u "Z"), (26, u "high"), (0, u "I"), (8, u "archivedCache"), (0, u "[Ljava/lang/Integer;"), (12, u "cache"), (0, u "low")] 27

def k23m0 : Method := ⟨"<init>", "()V", ⟨[], none⟩, 2, none⟩
def k23 : Class := { plain "java/lang/Integer$IntegerCache" (some 0) with
  accessFlags := 48
  cf := some (fileOf pool23 16 #[.nestHost 7] #[⟨2, 5, 6, #[]⟩] 48 2 #[] #[⟨24, 72, 48, #[]⟩, ⟨24, 47, 48, #[]⟩, ⟨24, 71, 58, #[]⟩, ⟨8, 57, 58, #[]⟩, ⟨4120, 19, 20, #[]⟩])
  fields := #[⟨"low", .int, 24, 0, 0⟩, ⟨"high", .int, 24, 1, 0⟩, ⟨"cache", (.array (.object "java/lang/Integer")), 24, 2, 0⟩, ⟨"archivedCache", (.array (.object "java/lang/Integer")), 8, 3, 0⟩, ⟨"$assertionsDisabled", .boolean, 4120, 4, 0⟩]
  methods := #[k23m0]
  staticTypes := #[.int, .int, (.array (.object "java/lang/Integer")), (.array (.object "java/lang/Integer")), .boolean]
  resolved := Array.replicate 100 none
  statics := some 2 }

def pool24 : Array CpInfo := pool [(23, .class_ 25), (1, u "java/util/Map$Entry"), (6, .class_ 34), (1, u "java/util/Map"), (34, .class_ 70), (0, u "java/lang/Object")] 107

def k24 : Class := { plain "java/util/Map$Entry" (some 0) with
  accessFlags := 1537
  cf := some (fileOf pool24 23 #[.nestHost 32] #[] 1537 69 #[] #[])
  resolved := Array.replicate 178 none
  }

def pool25 : Array CpInfo := pool [(1, .methodref 2 3), (0, .class_ 4), (0, .nameAndType 5 6), (0, u "java/lang/Object"), (0, u "<init>"), (0, u "()V"), (0, .fieldref 8 9), (0, .class_ 10), (0, .nameAndType 11 12), (0, u "java/util/HashMap$Node"), (0, u "hash"), (0, u "I"), (0, .fieldref 8 14), (0, .nameAndType 15 16), (0, u "key"), (0, u "Ljava/lang/Object;"), (0, .fieldref 8 18), (0, .nameAndType 19 16), (0, u "value"), (0, .fieldref 8 21), (0, .nameAndType 22 23), (0, u "next"), (0, u "Ljava/util/HashMap$Node;"), (22, .class_ 47), (0, u "java/util/Map$Entry"), (15, u "(ILjava/lang/Object;Ljava/lang/Object;Ljava/util/HashMap$Node;)V"), (24, .class_ 89), (0, u "java/util/HashMap")] 5

def k25c0 : Code := ⟨2, 5, jdk_70_method_1_code, #[], #[]⟩
def k25m0 : Method := ⟨"<init>", "(ILjava/lang/Object;Ljava/lang/Object;Ljava/util/HashMap$Node;)V", ⟨[.int, (.object "java/lang/Object"), (.object "java/lang/Object"), (.object "java/util/HashMap$Node")], none⟩, 0, some k25c0⟩
def k25 : Class := { plain "java/util/HashMap$Node" (some 0) with
  accessFlags := 32
  interfaces := #[24]
  cf := some (fileOf pool25 8 #[.nestHost 88] #[⟨0, 5, 63, #[]⟩] 32 2 #[46] #[⟨16, 11, 12, #[]⟩, ⟨16, 15, 16, #[]⟩, ⟨0, 19, 16, #[]⟩, ⟨0, 22, 23, #[]⟩])
  fields := #[⟨"hash", .int, 16, 0, 0⟩, ⟨"key", (.object "java/lang/Object"), 16, 1, 0⟩, ⟨"value", (.object "java/lang/Object"), 0, 2, 0⟩, ⟨"next", (.object "java/util/HashMap$Node"), 0, 3, 0⟩]
  methods := #[k25m0]
  instanceTypes := #[.int, (.object "java/lang/Object"), (.object "java/lang/Object"), (.object "java/util/HashMap$Node")]
  resolved := Array.replicate 95 none
  }

def pool26 : Array CpInfo := pool [(1, .methodref 2 3), (0, .class_ 4), (0, .nameAndType 5 6), (0, u "java/lang/Object"), (0, u "<init>"), (0, u "()V"), (0, .interfaceMethodref 8 9), (0, .class_ 10), (0, .nameAndType 11 12), (0, u "java/util/List"), (0, u "size"), (0, u "()I"), (0, .fieldref 14 15), (0, .class_ 16), (0, .nameAndType 17 18), (0, u "com/example/multinomial/multinomial/eval/JudgedRanking"), (0, u "gains"), (0, u "[I"), (0, .interfaceMethodref 8 20), (0, .nameAndType 21 22), (0, u "get"), (0, u "(I)Ljava/lang/Object;"), (0, .class_ 24), (0, u "com/example/multinomial/multinomial/search/ScoredDocument"), (0, .methodref 23 26), (0, .nameAndType 27 28), (0, u "id"), (0, u "()Ljava/lang/String;"), (0, .methodref 30 31), (0, .class_ 32), (0, .nameAndType 33 34), (0, u "java/lang/Integer"), (0, u "valueOf"), (0, u "(I)Ljava/lang/Integer;"), (0, .interfaceMethodref 36 37), (0, .class_ 38), (0, .nameAndType 39 40), (0, u "java/util/Map"), (0, u "getOrDefault"), (0, u "(Ljava/lang/Object;Ljava/lang/Object;)Ljava/lang/Object;"), (0, .methodref 30 42), (0, .nameAndType 43 12), (0, u "intValue"), (0, .methodref 14 45), (0, .nameAndType 46 47), (0, u "gain"), (0, u "(I)I"), (0, .interfaceMethodref 36 9), (0, .interfaceMethodref 36 50), (0, .nameAndType 51 52), (0, u "values"), (0, u "()Ljava/util/Collection;"), (0, .interfaceMethodref 54 55), (0, .class_ 56), (0, .nameAndType 57 58), (0, u "java/util/Collection"), (0, u "iterator"), (0, u "()Ljava/util/Iterator;"), (0, .interfaceMethodref 60 61), (0, .class_ 62), (0, .nameAndType 63 64), (0, u "java/util/Iterator"), (0, u "hasNext"), (0, u "()Z"), (0, .interfaceMethodref 60 66), (0, .nameAndType 67 68), (0, u "next"), (0, u "()Ljava/lang/Object;"), (0, .methodref 70 71), (0, .class_ 72), (0, .nameAndType 73 74), (0, u "java/util/Arrays"), (0, u "copyOf"), (0, u "([II)[I"), (0, .methodref 70 76), (0, .nameAndType 77 78), (0, u "sort"), (0, u "([I)V"), (0, .fieldref 14 80), (0, .nameAndType 81 18), (0, u "idealGains"), (3, .methodref 14 86), (0, .nameAndType 87 12), (0, u "relevant"), (9, .class_ 99), (1, u "java/lang/Math"), (1, u "(II)I"), (6, u "LN_2"), (0, u "D"), (0, .methodref 97 111), (0, .nameAndType 112 101), (0, u "max"), (2, u "(Ljava/util/List;Ljava/util/Map;)V"), (8, u "averagePrecision"), (0, u "()D")] 7

def k26c0 : Code := ⟨5, 7, prog_10_method_1_code, #[], #[]⟩
def k26m0 : Method := ⟨"<init>", "(Ljava/util/List;Ljava/util/Map;)V", ⟨[(.object "java/util/List"), (.object "java/util/Map")], none⟩, 0, some k26c0⟩
def k26c1 : Code := ⟨1, 1, prog_10_method_3_code, #[], #[]⟩
def k26m1 : Method := ⟨"relevant", "()I", ⟨[], some .int⟩, 0, some k26c1⟩
def k26c2 : Code := ⟨6, 5, prog_10_method_5_code, #[], #[]⟩
def k26m2 : Method := ⟨"averagePrecision", "()D", ⟨[], some .double⟩, 0, some k26c2⟩
def k26c3 : Code := ⟨2, 1, prog_10_method_13_code, #[], #[]⟩
def k26m3 : Method := ⟨"gain", "(I)I", ⟨[.int], some .int⟩, 10, some k26c3⟩
def k26 : Class := { plain "com/example/multinomial/multinomial/eval/JudgedRanking" (some 0) with
  accessFlags := 32
  cf := some (fileOf pool26 14 #[] #[⟨0, 5, 115, #[]⟩, ⟨0, 87, 12, #[]⟩, ⟨0, 124, 125, #[]⟩, ⟨10, 46, 47, #[]⟩] 32 2 #[] #[⟨26, 108, 109, #[]⟩, ⟨18, 17, 18, #[]⟩, ⟨18, 81, 18, #[]⟩])
  fields := #[⟨"LN_2", .double, 26, 0, 0⟩, ⟨"gains", (.array .int), 18, 0, 0⟩, ⟨"idealGains", (.array .int), 18, 1, 0⟩]
  methods := #[k26m0, k26m1, k26m2, k26m3]
  instanceTypes := #[(.array .int), (.array .int)]
  staticTypes := #[.double]
  resolved := Array.replicate 133 none
  }

def pool27 : Array CpInfo := pool [(1, .fieldref 2 3), (0, .class_ 4), (0, .nameAndType 5 6), (0, u "java/util/HashMap$Values"), (0, u "this$0"), (0, u "Ljava/util/HashMap;"), (0, .methodref 8 9), (0, .class_ 10), (0, .nameAndType 11 12), (0, u "java/util/AbstractCollection"), (0, u "<init>"), (0, u "()V"), (1, .class_ 16), (1, u "java/util/HashMap"), (5, .class_ 23), (0, u "java/util/HashMap$ValueIterator"), (0, .methodref 22 25), (0, .nameAndType 11 26), (0, u "(Ljava/util/HashMap;)V"), (56, u "iterator"), (0, u "()Ljava/util/Iterator;")] 35

def k27c0 : Code := ⟨2, 2, jdk_2571_method_1_code, #[], #[]⟩
def k27m0 : Method := ⟨"<init>", "(Ljava/util/HashMap;)V", ⟨[(.object "java/util/HashMap")], none⟩, 0, some k27c0⟩
def k27c1 : Code := ⟨3, 1, jdk_2571_method_4_code, #[], #[]⟩
def k27m1 : Method := ⟨"iterator", "()Ljava/util/Iterator;", ⟨[], some (.object "java/util/Iterator")⟩, 17, some k27c1⟩
def k27 : Class := { plain "java/util/HashMap$Values" (some 4) with
  accessFlags := 48
  cf := some (fileOf pool27 2 #[.nestHost 14] #[⟨0, 11, 26, #[]⟩, ⟨17, 83, 84, #[]⟩] 48 8 #[] #[⟨4112, 5, 6, #[]⟩])
  fields := #[⟨"this$0", (.object "java/util/HashMap"), 4112, 0, 0⟩]
  methods := #[k27m0, k27m1]
  instanceTypes := #[(.object "java/util/HashMap")]
  resolved := Array.replicate 120 none
  }

def pool28 : Array CpInfo := pool [(1, .fieldref 2 3), (0, .class_ 4), (0, .nameAndType 5 6), (0, u "java/util/HashMap$HashIterator"), (0, u "this$0"), (0, u "Ljava/util/HashMap;"), (0, .methodref 8 9), (0, .class_ 10), (0, .nameAndType 11 12), (0, u "java/lang/Object"), (0, u "<init>"), (0, u "()V"), (0, .fieldref 14 15), (0, .class_ 16), (0, .nameAndType 17 18), (0, u "java/util/HashMap"), (0, u "modCount"), (0, u "I"), (0, .fieldref 2 20), (0, .nameAndType 21 18), (0, u "expectedModCount"), (0, .fieldref 14 23), (0, .nameAndType 24 25), (0, u "table"), (0, u "[Ljava/util/HashMap$Node;"), (0, .fieldref 2 27), (0, .nameAndType 28 29), (0, u "next"), (0, u "Ljava/util/HashMap$Node;"), (0, .fieldref 2 31), (0, .nameAndType 32 29), (0, u "current"), (0, .fieldref 2 34), (0, .nameAndType 35 18), (0, u "index"), (0, .fieldref 14 37), (0, .nameAndType 38 18), (0, u "size"), (6, .fieldref 46 27), (0, .class_ 47), (0, u "java/util/HashMap$Node"), (16, u "(Ljava/util/HashMap;)V"), (12, u "hasNext"), (0, u "()Z"), (0, u "nextNode"), (0, u "()Ljava/util/HashMap$Node;")] 10

def k28c0 : Code := ⟨6, 3, jdk_99_method_1_code, #[], #[]⟩
def k28m0 : Method := ⟨"<init>", "(Ljava/util/HashMap;)V", ⟨[(.object "java/util/HashMap")], none⟩, 0, some k28c0⟩
def k28c1 : Code := ⟨1, 1, jdk_99_method_2_code, #[], #[]⟩
def k28m1 : Method := ⟨"hasNext", "()Z", ⟨[], some .boolean⟩, 17, some k28c1⟩
def k28c2 : Code := ⟨6, 3, jdk_99_method_3_code, #[], #[]⟩
def k28m2 : Method := ⟨"nextNode", "()Ljava/util/HashMap$Node;", ⟨[], some (.object "java/util/HashMap$Node")⟩, 16, some k28c2⟩
def k28 : Class := { plain "java/util/HashMap$HashIterator" (some 0) with
  accessFlags := 1056
  cf := some (fileOf pool28 2 #[.nestHost 14] #[⟨0, 11, 64, #[]⟩, ⟨17, 77, 78, #[]⟩, ⟨16, 79, 80, #[]⟩] 1056 8 #[] #[⟨0, 28, 29, #[]⟩, ⟨0, 32, 29, #[]⟩, ⟨0, 21, 18, #[]⟩, ⟨0, 35, 18, #[]⟩, ⟨4112, 5, 6, #[]⟩])
  fields := #[⟨"next", (.object "java/util/HashMap$Node"), 0, 0, 0⟩, ⟨"current", (.object "java/util/HashMap$Node"), 0, 1, 0⟩, ⟨"expectedModCount", .int, 0, 2, 0⟩, ⟨"index", .int, 0, 3, 0⟩, ⟨"this$0", (.object "java/util/HashMap"), 4112, 4, 0⟩]
  methods := #[k28m0, k28m1, k28m2]
  instanceTypes := #[(.object "java/util/HashMap$Node"), (.object "java/util/HashMap$Node"), .int, .int, (.object "java/util/HashMap")]
  resolved := Array.replicate 91 none
  }

def pool29 : Array CpInfo := pool [(16, .class_ 18), (1, u "java/util/Iterator"), (0, u "hasNext"), (0, u "()Z"), (2, u "next"), (0, u "()Ljava/lang/Object;"), (6, .class_ 32), (0, u "java/lang/Object")] 20

def k29m0 : Method := ⟨"hasNext", "()Z", ⟨[], some .boolean⟩, 1025, none⟩
def k29m1 : Method := ⟨"next", "()Ljava/lang/Object;", ⟨[], some (.object "java/lang/Object")⟩, 1025, none⟩
def k29 : Class := { plain "java/util/Iterator" (some 0) with
  accessFlags := 1537
  cf := some (fileOf pool29 16 #[] #[⟨1025, 19, 20, #[]⟩, ⟨1025, 23, 24, #[]⟩] 1537 31 #[] #[])
  methods := #[k29m0, k29m1]
  resolved := Array.replicate 53 none
  }

def pool30 : Array CpInfo := pool [(1, .methodref 2 3), (0, .class_ 4), (0, .nameAndType 5 6), (0, u "java/util/HashMap$HashIterator"), (0, u "<init>"), (0, u "(Ljava/util/HashMap;)V"), (0, .methodref 8 9), (0, .class_ 10), (0, .nameAndType 11 12), (0, u "java/util/HashMap$ValueIterator"), (0, u "nextNode"), (0, u "()Ljava/util/HashMap$Node;"), (0, .fieldref 14 15), (0, .class_ 16), (0, .nameAndType 17 18), (0, u "java/util/HashMap$Node"), (0, u "value"), (0, u "Ljava/lang/Object;"), (0, .class_ 20), (0, u "java/util/Iterator"), (10, u "next"), (0, u "()Ljava/lang/Object;"), (6, .class_ 40), (0, u "java/util/HashMap")] 4

def k30c0 : Code := ⟨2, 2, jdk_2569_method_1_code, #[], #[]⟩
def k30m0 : Method := ⟨"<init>", "(Ljava/util/HashMap;)V", ⟨[(.object "java/util/HashMap")], none⟩, 0, some k30c0⟩
def k30c1 : Code := ⟨1, 1, jdk_2569_method_2_code, #[], #[]⟩
def k30m1 : Method := ⟨"next", "()Ljava/lang/Object;", ⟨[], some (.object "java/lang/Object")⟩, 17, some k30c1⟩
def k30 : Class := { plain "java/util/HashMap$ValueIterator" (some 28) with
  accessFlags := 48
  interfaces := #[29]
  cf := some (fileOf pool30 8 #[.nestHost 39] #[⟨0, 5, 6, #[]⟩, ⟨17, 31, 32, #[]⟩] 48 2 #[19] #[])
  methods := #[k30m0, k30m1]
  instanceTypes := #[(.object "java/util/HashMap$Node"), (.object "java/util/HashMap$Node"), .int, .int, (.object "java/util/HashMap")]
  resolved := Array.replicate 45 none
  }

def pool31 : Array CpInfo := pool [(1, .class_ 2), (0, u "java/lang/Math"), (1, .class_ 6), (1, u "java/lang/Object"), (0, u "<init>"), (0, u "()V"), (89, .class_ 100), (1, u "java/lang/Math$RandomNumberGeneratorHolder"), (71, u "negativeZeroFloatBits"), (0, u "J"), (2, u "negativeZeroDoubleBits"), (21, u "max"), (2, u "min"), (43, u "$assertionsDisabled"), (0, u "Z"), (88, u "(II)I"), (2, u "twoToTheDoubleScaleDown"), (0, u "D"), (4, u "twoToTheDoubleScaleUp"), (9, u "E"), (3, u "PI"), (2, u "TAU"), (2, u "DEGREES_TO_RADIANS"), (0, u "RADIANS_TO_DEGREES")] 94

def k31m0 : Method := ⟨"<init>", "()V", ⟨[], none⟩, 2, none⟩
def k31c1 : Code := ⟨2, 2, jdk_29_method_65_code, #[], #[]⟩
def k31m1 : Method := ⟨"max", "(II)I", ⟨[.int, .int], some .int⟩, 9, some k31c1⟩
def k31c2 : Code := ⟨2, 2, jdk_29_method_69_code, #[], #[]⟩
def k31m2 : Method := ⟨"min", "(II)I", ⟨[.int, .int], some .int⟩, 9, some k31c2⟩
def k31 : Class := { plain "java/lang/Math" (some 0) with
  accessFlags := 49
  cf := some (fileOf pool31 1 #[.nestMembers #[98]] #[⟨2, 7, 8, #[]⟩, ⟨9, 198, 335, #[]⟩, ⟨9, 201, 335, #[]⟩] 49 4 #[] #[⟨25, 354, 339, #[]⟩, ⟨25, 358, 339, #[]⟩, ⟨25, 361, 339, #[]⟩, ⟨26, 364, 339, #[]⟩, ⟨26, 365, 339, #[]⟩, ⟨26, 172, 173, #[]⟩, ⟨26, 176, 173, #[]⟩, ⟨8, 344, 339, #[]⟩, ⟨8, 338, 339, #[]⟩, ⟨4120, 245, 246, #[]⟩])
  fields := #[⟨"E", .double, 25, 0, 0⟩, ⟨"PI", .double, 25, 1, 0⟩, ⟨"TAU", .double, 25, 2, 0⟩, ⟨"DEGREES_TO_RADIANS", .double, 26, 3, 0⟩, ⟨"RADIANS_TO_DEGREES", .double, 26, 4, 0⟩, ⟨"negativeZeroFloatBits", .long, 26, 5, 0⟩, ⟨"negativeZeroDoubleBits", .long, 26, 6, 0⟩, ⟨"twoToTheDoubleScaleUp", .double, 8, 7, 0⟩, ⟨"twoToTheDoubleScaleDown", .double, 8, 8, 0⟩, ⟨"$assertionsDisabled", .boolean, 4120, 9, 0⟩]
  methods := #[k31m0, k31m1, k31m2]
  staticTypes := #[.double, .double, .double, .double, .double, .long, .long, .double, .double, .boolean]
  resolved := Array.replicate 460 none
  }

def pool32 : Array CpInfo := pool [(2, .class_ 4), (1, u "java/lang/Object"), (0, u "<init>"), (0, u "()V"), (0, .methodref 8 9), (0, .class_ 10), (0, .nameAndType 11 12), (0, u "java/util/DualPivotQuicksort"), (0, u "sort"), (0, u "([IIII)V"), (1, .class_ 16), (1, u "java/util/Arrays"), (57, .class_ 76), (1, u "java/util/Arrays$NaturalOrder"), (32, u "()Ljava/lang/Object;"), (3, .class_ 115), (1, u "java/util/Arrays$LegacyMergeSort"), (1, u "Z"), (10, .nameAndType 129 109), (0, u "clone"), (20, .methodref 151 152), (0, .class_ 153), (0, .nameAndType 154 155), (0, u "java/lang/System"), (0, u "arraycopy"), (0, u "(Ljava/lang/Object;ILjava/lang/Object;II)V"), (146, u "copyOf"), (1, .methodref 305 306), (0, .class_ 307), (0, .nameAndType 308 309), (0, u "java/lang/Math"), (0, u "min"), (0, u "(II)I"), (6, .methodref 317 128), (0, .class_ 318), (0, u "[I"), (56, .class_ 376), (0, u "java/util/Arrays$ArrayList"), (68, u "$assertionsDisabled"), (269, u "MIN_ARRAY_SORT_GRAN"), (0, u "I"), (2, u "INSERTIONSORT_THRESHOLD"), (6, u "([I)V"), (144, u "([II)[I"), (103, .class_ 976), (0, u "java/util/Arrays$ArrayItr")] 52

def k32m0 : Method := ⟨"<init>", "()V", ⟨[], none⟩, 2, none⟩
def k32c1 : Code := ⟨4, 1, jdk_65_method_2_code, #[], #[]⟩
def k32m1 : Method := ⟨"sort", "([I)V", ⟨[(.array .int)], none⟩, 9, some k32c1⟩
def k32c2 : Code := ⟨6, 3, jdk_65_method_123_code, #[], #[]⟩
def k32m2 : Method := ⟨"copyOf", "([II)[I", ⟨[(.array .int), .int], some (.array .int)⟩, 9, some k32c2⟩
def k32 : Class := { plain "java/util/Arrays" (some 0) with
  accessFlags := 49
  cf := some (fileOf pool32 14 #[.nestMembers #[975, 375, 113, 74]] #[⟨2, 5, 6, #[]⟩, ⟨9, 11, 726, #[]⟩, ⟨9, 302, 871, #[]⟩] 49 2 #[] #[⟨26, 715, 716, #[]⟩, ⟨26, 719, 716, #[]⟩, ⟨4120, 445, 117, #[]⟩])
  fields := #[⟨"MIN_ARRAY_SORT_GRAN", .int, 26, 0, 0⟩, ⟨"INSERTIONSORT_THRESHOLD", .int, 26, 1, 0⟩, ⟨"$assertionsDisabled", .boolean, 4120, 2, 0⟩]
  methods := #[k32m0, k32m1, k32m2]
  staticTypes := #[.int, .int, .boolean]
  resolved := Array.replicate 1029 none
  }

def pool33 : Array CpInfo := pool [(2, .class_ 4), (1, u "java/lang/Object"), (0, u "<init>"), (0, u "()V"), (1, .class_ 10), (1, u "java/lang/System"), (0, u "allowSecurityManager"), (0, u "I"), (16, u "cons"), (0, u "Ljava/io/Console;"), (77, .class_ 110), (1, u "java/lang/System$CallersHolder"), (43, u "initialErrStream"), (0, u "Ljava/io/PrintStream;"), (19, u "security"), (0, u "Ljava/lang/SecurityManager;"), (31, .class_ 209), (0, u "java/lang/System$1"), (7, u "props"), (0, u "Ljava/util/Properties;"), (2, u "lineSeparator"), (0, u "Ljava/lang/String;"), (96, .class_ 321), (1, u "java/lang/System$LoggerFinder"), (5, .class_ 328), (0, u "java/lang/System$Logger"), (67, u "err"), (2, u "out"), (91, u "notSupportedJnuEncoding"), (15, u "in"), (17, u "initialIn"), (0, u "Ljava/io/InputStream;"), (35, u "bootLayer"), (0, u "Ljava/lang/ModuleLayer;"), (99, .class_ 664), (0, u "java/lang/System$2"), (9, u "NEVER"), (2, u "MAYBE"), (49, u "arraycopy"), (0, u "(Ljava/lang/Object;ILjava/lang/Object;II)V"), (72, .class_ 802), (0, u "java/lang/System$Logger$Level")] 31

def k33m0 : Method := ⟨"<init>", "()V", ⟨[], none⟩, 2, none⟩
def k33m1 : Method := ⟨"arraycopy", "(Ljava/lang/Object;ILjava/lang/Object;II)V", ⟨[(.object "java/lang/Object"), .int, (.object "java/lang/Object"), .int, .int], none⟩, 265, none⟩
def k33 : Class := { plain "java/lang/System" (some 0) with
  accessFlags := 49
  cf := some (fileOf pool33 8 #[.nestMembers #[319, 327, 801, 108, 663, 208]] #[⟨2, 5, 6, #[]⟩, ⟨265, 727, 728, #[]⟩] 49 2 #[] #[⟨25, 507, 526, #[]⟩, ⟨25, 399, 155, #[]⟩, ⟨25, 396, 155, #[]⟩, ⟨10, 525, 526, #[]⟩, ⟨26, 674, 12, #[]⟩, ⟨26, 677, 12, #[]⟩, ⟨10, 11, 12, #[]⟩, ⟨74, 175, 176, #[]⟩, ⟨10, 491, 222, #[]⟩, ⟨74, 29, 30, #[]⟩, ⟨74, 154, 155, #[]⟩, ⟨10, 217, 218, #[]⟩, ⟨10, 221, 222, #[]⟩, ⟨8, 562, 563, #[]⟩])
  fields := #[⟨"in", (.object "java/io/InputStream"), 25, 0, 0⟩, ⟨"out", (.object "java/io/PrintStream"), 25, 1, 0⟩, ⟨"err", (.object "java/io/PrintStream"), 25, 2, 0⟩, ⟨"initialIn", (.object "java/io/InputStream"), 10, 3, 0⟩, ⟨"NEVER", .int, 26, 4, 0⟩, ⟨"MAYBE", .int, 26, 5, 0⟩, ⟨"allowSecurityManager", .int, 10, 6, 0⟩, ⟨"security", (.object "java/lang/SecurityManager"), 74, 7, 0⟩, ⟨"notSupportedJnuEncoding", (.object "java/lang/String"), 10, 8, 0⟩, ⟨"cons", (.object "java/io/Console"), 74, 9, 0⟩, ⟨"initialErrStream", (.object "java/io/PrintStream"), 74, 10, 0⟩, ⟨"props", (.object "java/util/Properties"), 10, 11, 0⟩, ⟨"lineSeparator", (.object "java/lang/String"), 10, 12, 0⟩, ⟨"bootLayer", (.object "java/lang/ModuleLayer"), 8, 13, 0⟩]
  methods := #[k33m0, k33m1]
  staticTypes := #[(.object "java/io/InputStream"), (.object "java/io/PrintStream"), (.object "java/io/PrintStream"), (.object "java/io/InputStream"), .int, .int, .int, (.object "java/lang/SecurityManager"), (.object "java/lang/String"), (.object "java/io/Console"), (.object "java/io/PrintStream"), (.object "java/util/Properties"), (.object "java/lang/String"), (.object "java/lang/ModuleLayer")]
  resolved := Array.replicate 834 none
  }

def pool34 : Array CpInfo := pool [(1, .class_ 2), (0, u "java/util/DualPivotQuicksort"), (5, .class_ 10), (1, u "java/lang/Object"), (0, u "<init>"), (0, u "()V"), (4, .class_ 18), (0, u "java/util/DualPivotQuicksort$Sorter"), (7, .methodref 1 27), (0, .nameAndType 28 29), (0, u "sort"), (0, u "(Ljava/util/DualPivotQuicksort$Sorter;[IIII)V"), (3, u "([IIII)V"), (0, .methodref 1 35), (0, .nameAndType 36 37), (0, u "insertionSort"), (0, u "([III)V"), (30, u "I"), (4, .class_ 74), (0, u "java/util/DualPivotQuicksort$RunMerger"), (10, .class_ 86), (0, u "java/util/DualPivotQuicksort$Merger"), (127, u "MAX_MIXED_INSERTION_SORT_SIZE"), (2, u "MAX_INSERTION_SORT_SIZE"), (1, u "MIN_PARALLEL_SORT_SIZE"), (1, u "MIN_TRY_MERGE_SIZE"), (0, u "MIN_FIRST_RUN_SIZE"), (1, u "MIN_FIRST_RUNS_FACTOR"), (1, u "MAX_RUN_CAPACITY"), (1, u "MIN_RUN_COUNT"), (1, u "MIN_PARALLEL_MERGE_PARTS_SIZE"), (0, u "MIN_BYTE_COUNTING_SORT_SIZE"), (1, u "MIN_SHORT_OR_CHAR_COUNTING_SORT_SIZE"), (1, u "DELTA"), (1, u "MAX_RECURSION_DEPTH"), (1, u "NUM_BYTE_VALUES"), (1, u "MAX_BYTE_INDEX"), (0, u "NUM_CHAR_VALUES"), (0, u "NUM_SHORT_VALUES"), (0, u "MAX_SHORT_INDEX")] 86

def k34m0 : Method := ⟨"<init>", "()V", ⟨[], none⟩, 2, none⟩
def k34c1 : Code := ⟨9, 7, jdk_2529_method_3_code, #[], #[]⟩
def k34m1 : Method := ⟨"sort", "([IIII)V", ⟨[(.array .int), .int, .int, .int], none⟩, 8, some k34c1⟩
def k34c2 : Code := ⟨6, 21, jdk_2529_method_4_code, #[], #[]⟩
def k34m2 : Method := ⟨"sort", "(Ljava/util/DualPivotQuicksort$Sorter;[IIII)V", ⟨[(.object "java/util/DualPivotQuicksort$Sorter"), (.array .int), .int, .int, .int], none⟩, 8, some k34c2⟩
def k34c3 : Code := ⟨4, 6, jdk_2529_method_6_code, #[], #[]⟩
def k34m3 : Method := ⟨"insertionSort", "([III)V", ⟨[(.array .int), .int, .int], none⟩, 10, some k34c3⟩
def k34 : Class := { plain "java/util/DualPivotQuicksort" (some 0) with
  accessFlags := 48
  cf := some (fileOf pool34 1 #[.nestMembers #[73, 85, 17]] #[⟨2, 11, 12, #[]⟩, ⟨8, 28, 33, #[]⟩, ⟨8, 28, 29, #[]⟩, ⟨10, 36, 37, #[]⟩] 48 8 #[] #[⟨26, 214, 68, #[]⟩, ⟨26, 217, 68, #[]⟩, ⟨26, 219, 68, #[]⟩, ⟨26, 221, 68, #[]⟩, ⟨26, 222, 68, #[]⟩, ⟨26, 224, 68, #[]⟩, ⟨26, 226, 68, #[]⟩, ⟨26, 228, 68, #[]⟩, ⟨26, 230, 68, #[]⟩, ⟨26, 231, 68, #[]⟩, ⟨26, 233, 68, #[]⟩, ⟨26, 235, 68, #[]⟩, ⟨26, 237, 68, #[]⟩, ⟨26, 239, 68, #[]⟩, ⟨26, 241, 68, #[]⟩, ⟨26, 242, 68, #[]⟩, ⟨26, 243, 68, #[]⟩, ⟨26, 244, 68, #[]⟩])
  fields := #[⟨"MAX_MIXED_INSERTION_SORT_SIZE", .int, 26, 0, 0⟩, ⟨"MAX_INSERTION_SORT_SIZE", .int, 26, 1, 0⟩, ⟨"MIN_PARALLEL_SORT_SIZE", .int, 26, 2, 0⟩, ⟨"MIN_TRY_MERGE_SIZE", .int, 26, 3, 0⟩, ⟨"MIN_FIRST_RUN_SIZE", .int, 26, 4, 0⟩, ⟨"MIN_FIRST_RUNS_FACTOR", .int, 26, 5, 0⟩, ⟨"MAX_RUN_CAPACITY", .int, 26, 6, 0⟩, ⟨"MIN_RUN_COUNT", .int, 26, 7, 0⟩, ⟨"MIN_PARALLEL_MERGE_PARTS_SIZE", .int, 26, 8, 0⟩, ⟨"MIN_BYTE_COUNTING_SORT_SIZE", .int, 26, 9, 0⟩, ⟨"MIN_SHORT_OR_CHAR_COUNTING_SORT_SIZE", .int, 26, 10, 0⟩, ⟨"DELTA", .int, 26, 11, 0⟩, ⟨"MAX_RECURSION_DEPTH", .int, 26, 12, 0⟩, ⟨"NUM_BYTE_VALUES", .int, 26, 13, 0⟩, ⟨"MAX_BYTE_INDEX", .int, 26, 14, 0⟩, ⟨"NUM_CHAR_VALUES", .int, 26, 15, 0⟩, ⟨"NUM_SHORT_VALUES", .int, 26, 16, 0⟩, ⟨"MAX_SHORT_INDEX", .int, 26, 17, 0⟩]
  methods := #[k34m0, k34m1, k34m2, k34m3]
  staticTypes := #[.int, .int, .int, .int, .int, .int, .int, .int, .int, .int, .int, .int, .int, .int, .int, .int, .int, .int]
  resolved := Array.replicate 331 none
  }

def pool35 : Array CpInfo := pool [(1, .methodref 2 3), (0, .class_ 4), (0, .nameAndType 5 6), (0, u "java/lang/Object"), (0, u "<init>"), (0, u "()V"), (0, .fieldref 8 9), (0, .class_ 10), (0, .nameAndType 11 12), (0, u "com/example/multinomial/multinomial/search/ScoredDocument"), (0, u "id"), (0, u "Ljava/lang/String;"), (0, .fieldref 8 14), (0, .nameAndType 15 16), (0, u "score"), (0, u "D"), (0, u "(Ljava/lang/String;D)V"), (2, u "()Ljava/lang/String;")] 3

def k35c0 : Code := ⟨3, 4, prog_44_method_1_code, #[], #[]⟩
def k35m0 : Method := ⟨"<init>", "(Ljava/lang/String;D)V", ⟨[(.object "java/lang/String"), .double], none⟩, 1, some k35c0⟩
def k35c1 : Code := ⟨1, 1, prog_44_method_2_code, #[], #[]⟩
def k35m1 : Method := ⟨"id", "()Ljava/lang/String;", ⟨[], some (.object "java/lang/String")⟩, 1, some k35c1⟩
def k35 : Class := { plain "com/example/multinomial/multinomial/search/ScoredDocument" (some 0) with
  cf := some (fileOf pool35 8 #[] #[⟨1, 5, 17, #[]⟩, ⟨1, 11, 20, #[]⟩] 33 2 #[] #[⟨18, 11, 12, #[]⟩, ⟨18, 15, 16, #[]⟩])
  fields := #[⟨"id", (.object "java/lang/String"), 18, 0, 0⟩, ⟨"score", .double, 18, 1, 0⟩]
  methods := #[k35m0, k35m1]
  instanceTypes := #[(.object "java/lang/String"), .double]
  resolved := Array.replicate 24 none
  }

def pool36 : Array CpInfo := pool [(2, .class_ 4), (1, u "java/lang/Object"), (0, u "<init>"), (0, u "()V"), (35, .class_ 44), (1, u "java/util/Objects"), (60, .methodref 106 107), (0, .class_ 108), (0, .nameAndType 109 110), (0, u "jdk/internal/util/Preconditions"), (0, u "checkIndex"), (0, u "(IILjava/util/function/BiFunction;)I"), (60, u "(II)I")] 12

def k36m0 : Method := ⟨"<init>", "()V", ⟨[], none⟩, 2, none⟩
def k36c1 : Code := ⟨3, 2, jdk_31_method_17_code, #[], #[]⟩
def k36m1 : Method := ⟨"checkIndex", "(II)I", ⟨[.int, .int], some .int⟩, 9, some k36c1⟩
def k36 : Class := { plain "java/util/Objects" (some 0) with
  accessFlags := 49
  cf := some (fileOf pool36 42 #[] #[⟨2, 5, 6, #[]⟩, ⟨9, 109, 171, #[]⟩] 49 2 #[] #[])
  methods := #[k36m0, k36m1]
  resolved := Array.replicate 184 none
  }

def pool37 : Array CpInfo := pool [(2, .class_ 4), (1, u "java/lang/Object"), (0, u "<init>"), (0, u "()V"), (17, .class_ 26), (1, u "jdk/internal/util/Preconditions"), (6, u "checkIndex"), (21, .class_ 56), (0, u "jdk/internal/util/Preconditions$4"), (57, .class_ 115), (0, u "jdk/internal/util/Preconditions$1"), (7, u "SIOOBE_FORMATTER"), (0, u "Ljava/util/function/BiFunction;"), (0, .class_ 126), (0, u "jdk/internal/util/Preconditions$2"), (3, u "AIOOBE_FORMATTER"), (0, .class_ 132), (0, u "jdk/internal/util/Preconditions$3"), (3, u "IOOBE_FORMATTER"), (41, u "(IILjava/util/function/BiFunction;)I")] 15

def k37m0 : Method := ⟨"<init>", "()V", ⟨[], none⟩, 1, none⟩
def k37c1 : Code := ⟨3, 3, jdk_41_method_11_code, #[], #[]⟩
def k37m1 : Method := ⟨"checkIndex", "(IILjava/util/function/BiFunction;)I", ⟨[.int, .int, (.object "java/util/function/BiFunction")], some .int⟩, 9, some k37c1⟩
def k37 : Class := { plain "jdk/internal/util/Preconditions" (some 0) with
  cf := some (fileOf pool37 24 #[.nestMembers #[55, 131, 125, 114]] #[⟨1, 5, 6, #[]⟩, ⟨9, 33, 178, #[]⟩] 33 2 #[] #[⟨25, 123, 124, #[]⟩, ⟨25, 130, 124, #[]⟩, ⟨25, 136, 124, #[]⟩])
  fields := #[⟨"SIOOBE_FORMATTER", (.object "java/util/function/BiFunction"), 25, 0, 0⟩, ⟨"AIOOBE_FORMATTER", (.object "java/util/function/BiFunction"), 25, 1, 0⟩, ⟨"IOOBE_FORMATTER", (.object "java/util/function/BiFunction"), 25, 2, 0⟩]
  methods := #[k37m0, k37m1]
  staticTypes := #[(.object "java/util/function/BiFunction"), (.object "java/util/function/BiFunction"), (.object "java/util/function/BiFunction")]
  resolved := Array.replicate 194 none
  statics := some 3 }

def pool38 : Array CpInfo := pool [(9, u "<init>"), (6, .class_ 18), (1, u "java/lang/Object"), (0, u "()V"), (1, .class_ 23), (1, u "jdk/internal/util/ArraysSupport"), (0, u "LOG2_ARRAY_LONG_INDEX_SCALE"), (0, u "I"), (2, u "U"), (0, u "Ljdk/internal/misc/Unsafe;"), (8, u "BIG_ENDIAN"), (0, u "Z"), (8, u "LOG2_BYTE_BIT_SIZE"), (4, u "LOG2_ARRAY_INT_INDEX_SCALE"), (54, u "JLA"), (0, u "Ljdk/internal/access/JavaLangAccess;"), (11, u "LOG2_ARRAY_BOOLEAN_INDEX_SCALE"), (9, u "LOG2_ARRAY_BYTE_INDEX_SCALE"), (5, u "LOG2_ARRAY_CHAR_INDEX_SCALE"), (5, u "LOG2_ARRAY_SHORT_INDEX_SCALE"), (18, u "LOG2_ARRAY_FLOAT_INDEX_SCALE"), (24, u "LOG2_ARRAY_DOUBLE_INDEX_SCALE"), (89, u "T_BOOLEAN"), (2, u "T_CHAR"), (1, u "T_FLOAT"), (1, u "T_DOUBLE"), (1, u "T_BYTE"), (1, u "T_SHORT"), (1, u "T_INT"), (1, u "T_LONG"), (1, u "SOFT_MAX_ARRAY_LENGTH")] 83

def k38m0 : Method := ⟨"<init>", "()V", ⟨[], none⟩, 2, none⟩
def k38 : Class := { plain "jdk/internal/util/ArraysSupport" (some 0) with
  cf := some (fileOf pool38 21 #[] #[⟨2, 9, 19, #[]⟩] 33 16 #[] #[⟨24, 28, 29, #[]⟩, ⟨26, 38, 39, #[]⟩, ⟨25, 121, 25, #[]⟩, ⟨25, 131, 25, #[]⟩, ⟨25, 137, 25, #[]⟩, ⟨25, 143, 25, #[]⟩, ⟨25, 53, 25, #[]⟩, ⟨25, 24, 25, #[]⟩, ⟨25, 162, 25, #[]⟩, ⟨25, 187, 25, #[]⟩, ⟨26, 48, 25, #[]⟩, ⟨25, 277, 25, #[]⟩, ⟨25, 280, 25, #[]⟩, ⟨25, 282, 25, #[]⟩, ⟨25, 284, 25, #[]⟩, ⟨25, 286, 25, #[]⟩, ⟨25, 288, 25, #[]⟩, ⟨25, 290, 25, #[]⟩, ⟨25, 292, 25, #[]⟩, ⟨26, 108, 109, #[]⟩, ⟨25, 294, 25, #[]⟩])
  fields := #[⟨"U", (.object "jdk/internal/misc/Unsafe"), 24, 0, 0⟩, ⟨"BIG_ENDIAN", .boolean, 26, 1, 0⟩, ⟨"LOG2_ARRAY_BOOLEAN_INDEX_SCALE", .int, 25, 2, 0⟩, ⟨"LOG2_ARRAY_BYTE_INDEX_SCALE", .int, 25, 3, 0⟩, ⟨"LOG2_ARRAY_CHAR_INDEX_SCALE", .int, 25, 4, 0⟩, ⟨"LOG2_ARRAY_SHORT_INDEX_SCALE", .int, 25, 5, 0⟩, ⟨"LOG2_ARRAY_INT_INDEX_SCALE", .int, 25, 6, 0⟩, ⟨"LOG2_ARRAY_LONG_INDEX_SCALE", .int, 25, 7, 0⟩, ⟨"LOG2_ARRAY_FLOAT_INDEX_SCALE", .int, 25, 8, 0⟩, ⟨"LOG2_ARRAY_DOUBLE_INDEX_SCALE", .int, 25, 9, 0⟩, ⟨"LOG2_BYTE_BIT_SIZE", .int, 26, 10, 0⟩, ⟨"T_BOOLEAN", .int, 25, 11, 0⟩, ⟨"T_CHAR", .int, 25, 12, 0⟩, ⟨"T_FLOAT", .int, 25, 13, 0⟩, ⟨"T_DOUBLE", .int, 25, 14, 0⟩, ⟨"T_BYTE", .int, 25, 15, 0⟩, ⟨"T_SHORT", .int, 25, 16, 0⟩, ⟨"T_INT", .int, 25, 17, 0⟩, ⟨"T_LONG", .int, 25, 18, 0⟩, ⟨"JLA", (.object "jdk/internal/access/JavaLangAccess"), 26, 19, 0⟩, ⟨"SOFT_MAX_ARRAY_LENGTH", .int, 25, 20, 0⟩]
  methods := #[k38m0]
  staticTypes := #[(.object "jdk/internal/misc/Unsafe"), .boolean, .int, .int, .int, .int, .int, .int, .int, .int, .int, .int, .int, .int, .int, .int, .int, .int, .int, (.object "jdk/internal/access/JavaLangAccess"), .int]
  resolved := Array.replicate 378 none
  }

def k39 : Class := { plain "byte" none with kind := .primitive 'B', accessFlags := 0x411 }
def k40 : Class := { plain "[B" (some 0) with kind := .array 39 .byte, interfaces := #[9, 10], accessFlags := 1041 }

def k41 : Class := { plain "int" none with kind := .primitive 'I', accessFlags := 0x411 }
def k42 : Class := { plain "[I" (some 0) with kind := .array 41 .int, interfaces := #[9, 10], accessFlags := 1041 }

def k43 : Class := { plain "[Ljava/lang/Integer;" (some 0) with kind := .array 22 (.object "java/lang/Integer"), interfaces := #[9, 10], accessFlags := 1041 }

def k44 : Class := { plain "[Ljava/lang/Object;" (some 0) with kind := .array 0 (.object "java/lang/Object"), interfaces := #[9, 10], accessFlags := 1041 }

def k45 : Class := { plain "[Ljava/util/HashMap$Node;" (some 0) with kind := .array 25 (.object "java/util/HashMap$Node"), interfaces := #[9, 10], accessFlags := 1041 }

def heap : Heap := (([{ cls := 11, slots := #[.long 0, .int 0, .ref 4, .ref 5], vm := .statics 11 },
  { cls := 19, slots := #[.long 0, .int 1, .null, .int 0, .null, .int 0, .int 0], vm := .statics 19 },
  { cls := 23, slots := #[.int 0, .int 127, .ref 6, .null, .int 0], vm := .statics 23 },
  { cls := 37, slots := #[.null, .null, .null], vm := .statics 37 },
  { cls := 44, slots := #[], vm := .none },
  { cls := 44, slots := #[], vm := .none },
  { cls := 43, slots := ((List.range 256).map fun i => Value.ref (7 + i)).toArray, vm := .none }] : List Cell) ++ (List.range 256).map fun (i : Nat) => ({ cls := 22, slots := #[.int (Int32.ofInt ((i : Int) - 128))], vm := .none } : Cell)).toArray
def classes : Array Class := #[k0, k1, k2, k3, k4, k5, k6, k7, k8, k9, k10, k11, k12, k13, k14, k15, k16, k17, k18, k19, k20, k21, k22, k23, k24, k25, k26, k27, k28, k29, k30, k31, k32, k33, k34, k35, k36, k37, k38, k39, k40, k41, k42, k43, k44, k45]
def interned : List (Array UInt16 × Addr) := []
def slotsUsed : Nat := 531
def theMethod : MethodId := ⟨1, 1⟩
def args0 : Array Value := #[.int 7, .int 1, .int 2, .int 3, .int 4]
def aboutOver (below : List Frame) : State where
  vm := { classes := classes, interned := interned.toArray }
  heap := heap
  slotsUsed := slotsUsed
  threads := #[{ frames := .invoking theMethod args0 :: below }]
def below0 : List Frame := [.native { method := ⟨0, 0⟩, args := #[] }]
def about1 : State := aboutOver below0
def p0 : Program := .bare "" "" ""
def e0 : Env := launch0.env 0 0 0
theorem w_frames : about1.frames = Frame.invoking theMethod args0 :: below0 := rfl
set_option maxRecDepth 65536 in
theorem w_args : argsFit about1.vm theMethod args0 = true := by decide +kernel
set_option maxRecDepth 65536 in
theorem w_heap : heapFits about1 = true := by decide +kernel
set_option maxRecDepth 65536 in
theorem w_runnable : about1.curStatus? = some .runnable := by decide +kernel
set_option maxRecDepth 65536 in
theorem w_alone : about1.alone = true := by decide +kernel
set_option maxRecDepth 65536 in
theorem w_named : about1.methodNamed? x = some theMethod := by decide +kernel
set_option maxRecDepth 65536 in
theorem w_hears : about1.hears theMethod below0 = true := by decide +kernel
set_option maxRecDepth 65536 in
theorem w_ripe : about1.ripe theMethod args0 below0 = true := by decide +kernel
theorem w_running : about1.status = .running := rfl
set_option maxRecDepth 65536 in
theorem w_room : about1.hasRoom e0.platform room_1 = true :=
  launch0.hasRoom_least _ room_1 (by decide +kernel) (by decide +kernel) (by decide +kernel) (by decide +kernel) (by decide +kernel) (by decide +kernel)
theorem allAtoms_all (ts : List Jvm.Cond) (a : Array Jvm.Value) (st : Jvm.State) : (allAtoms ts).before a st = ts.all (fun c => c.before a st) := by
  induction ts with
  | nil => rfl
  | cons c t ih =>
    show (Jvm.Cond.and c (allAtoms t)).before a st = _
    rw [Jvm.Cond.before_and, ih, List.all_cons]
def words1 : List Jvm.Cond := Jvm.Cond.code x code maxLocals ret :: tables_1
theorem code_word {y : MethodName} {bytes : ByteArray} {mx : Nat} {rt : Option FieldType} {a : Array Value} {s : State} {m : MethodId} {meth : Method} {c : Code} (h1 : s.methodNamed? y = some m) (h2 : s.vm.method? m = some meth) (h3 : meth.code = some c) (h4 : c.code = bytes)
    (h5 : (c.maxLocals == mx && c.exceptionTable.isEmpty && decide (c.maxStack ≤ mostOperands) && decide (meth.sig.returnType = rt) && !meth.locks && decide (parseMethodDescriptor y.desc = some meth.sig)) = true) : (Jvm.Cond.code y bytes mx rt).before a s = true := by
  simp only [Bool.and_eq_true, beq_iff_eq, Bool.not_eq_true', decide_eq_true_eq] at h5
  obtain ⟨⟨⟨⟨⟨g1, g2⟩, g3⟩, g4⟩, g5⟩, g6⟩ := h5
  simp [Cond.before, Cond.holds, Cond.value, h1, h2, h3, h4, g1, g2, g3, g4, g5, g6]
def isCode : Jvm.Cond → Bool
  | .code _ _ _ _ => true
  | _ => false
theorem all_split {L : List Jvm.Cond} {P : Jvm.Cond → Bool} (h1 : L.all (fun c => isCode c || P c) = true) (h2 : ∀ c ∈ L.filter isCode, P c = true) : L.all P = true := by
  refine List.all_eq_true.mpr fun c hc => ?_
  have h := List.all_eq_true.mp h1 c hc
  rcases Bool.eq_false_or_eq_true (isCode c) with hi | hi
  · exact h2 c (List.mem_filter.mpr ⟨hc, hi⟩)
  · simpa [hi] using h
set_option maxRecDepth 65536 in
theorem w_c0 : (Jvm.Cond.code x code maxLocals ret).before args0 about1 = true := code_word (m := ⟨1, 1⟩) (meth := k1m1) (c := k1c1) (by decide +kernel) rfl rfl rfl (by decide +kernel)
set_option maxRecDepth 65536 in
theorem w_c1 : (Jvm.Cond.code ({ cls := "java/util/ArrayList", name := "<init>", desc := "()V" } : Jvm.MethodName) jdk_38_method_2_code (1 : Nat) (Option.none : Option Jvm.ClassFile.FieldType)).before args0 about1 = true := code_word (m := ⟨11, 0⟩) (meth := k11m0) (c := k11c0) (by decide +kernel) rfl rfl rfl (by decide +kernel)
set_option maxRecDepth 65536 in
theorem w_c2 : (Jvm.Cond.code ({ cls := "java/util/AbstractList", name := "<init>", desc := "()V" } : Jvm.MethodName) jdk_39_method_1_code (1 : Nat) (Option.none : Option Jvm.ClassFile.FieldType)).before args0 about1 = true := code_word (m := ⟨7, 0⟩) (meth := k7m0) (c := k7c0) (by decide +kernel) rfl rfl rfl (by decide +kernel)
set_option maxRecDepth 65536 in
theorem w_c3 : (Jvm.Cond.code ({ cls := "java/util/AbstractCollection", name := "<init>", desc := "()V" } : Jvm.MethodName) jdk_22_method_1_code (1 : Nat) (Option.none : Option Jvm.ClassFile.FieldType)).before args0 about1 = true := code_word (m := ⟨4, 0⟩) (meth := k4m0) (c := k4c0) (by decide +kernel) rfl rfl rfl (by decide +kernel)
set_option maxRecDepth 65536 in
theorem w_c4 : (Jvm.Cond.code ({ cls := "java/lang/Object", name := "<init>", desc := "()V" } : Jvm.MethodName) object_method_1_code (1 : Nat) (Option.none : Option Jvm.ClassFile.FieldType)).before args0 about1 = true := code_word (m := ⟨0, 0⟩) (meth := k0m0) (c := k0c0) (by decide +kernel) rfl rfl rfl (by decide +kernel)
set_option maxRecDepth 65536 in
theorem w_c5 : (Jvm.Cond.code ({ cls := "java/util/HashMap", name := "<init>", desc := "()V" } : Jvm.MethodName) jdk_69_method_7_code (1 : Nat) (Option.none : Option Jvm.ClassFile.FieldType)).before args0 about1 = true := code_word (m := ⟨14, 1⟩) (meth := k14m1) (c := k14c1) (by decide +kernel) rfl rfl rfl (by decide +kernel)
set_option maxRecDepth 65536 in
theorem w_c6 : (Jvm.Cond.code ({ cls := "java/util/AbstractMap", name := "<init>", desc := "()V" } : Jvm.MethodName) jdk_71_method_1_code (1 : Nat) (Option.none : Option Jvm.ClassFile.FieldType)).before args0 about1 = true := code_word (m := ⟨13, 0⟩) (meth := k13m0) (c := k13c0) (by decide +kernel) rfl rfl rfl (by decide +kernel)
set_option maxRecDepth 65536 in
theorem w_c7 : (Jvm.Cond.code ({ cls := "java/lang/String", name := "valueOf", desc := "(C)Ljava/lang/String;" } : Jvm.MethodName) jdk_42_method_139_code (1 : Nat) (Option.some (Jvm.ClassFile.FieldType.object "java/lang/String"))).before args0 about1 = true := code_word (m := ⟨19, 3⟩) (meth := k19m3) (c := k19c3) (by decide +kernel) rfl rfl rfl (by decide +kernel)
set_option maxRecDepth 65536 in
theorem w_c8 : (Jvm.Cond.code ({ cls := "java/lang/StringLatin1", name := "canEncode", desc := "(C)Z" } : Jvm.MethodName) jdk_43_method_3_code (1 : Nat) (Option.some Jvm.ClassFile.FieldType.boolean)).before args0 about1 = true := code_word (m := ⟨20, 1⟩) (meth := k20m1) (c := k20c1) (by decide +kernel) rfl rfl rfl (by decide +kernel)
set_option maxRecDepth 65536 in
theorem w_c9 : (Jvm.Cond.code ({ cls := "java/lang/StringLatin1", name := "toBytes", desc := "(C)[B" } : Jvm.MethodName) jdk_43_method_46_code (1 : Nat) (Option.some (Jvm.ClassFile.FieldType.array Jvm.ClassFile.FieldType.byte))).before args0 about1 = true := code_word (m := ⟨20, 4⟩) (meth := k20m4) (c := k20c4) (by decide +kernel) rfl rfl rfl (by decide +kernel)
set_option maxRecDepth 65536 in
theorem w_c10 : (Jvm.Cond.code ({ cls := "java/lang/String", name := "<init>", desc := "([BB)V" } : Jvm.MethodName) jdk_42_method_151_code (3 : Nat) (Option.none : Option Jvm.ClassFile.FieldType)).before args0 about1 = true := code_word (m := ⟨19, 4⟩) (meth := k19m4) (c := k19c4) (by decide +kernel) rfl rfl rfl (by decide +kernel)
set_option maxRecDepth 65536 in
theorem w_c11 : (Jvm.Cond.code ({ cls := "java/lang/Integer", name := "valueOf", desc := "(I)Ljava/lang/Integer;" } : Jvm.MethodName) jdk_33_method_22_code (1 : Nat) (Option.some (Jvm.ClassFile.FieldType.object "java/lang/Integer"))).before args0 about1 = true := code_word (m := ⟨22, 0⟩) (meth := k22m0) (c := k22c0) (by decide +kernel) rfl rfl rfl (by decide +kernel)
set_option maxRecDepth 65536 in
theorem w_c12 : (Jvm.Cond.code ({ cls := "java/util/HashMap", name := "put", desc := "(Ljava/lang/Object;Ljava/lang/Object;)Ljava/lang/Object;" } : Jvm.MethodName) jdk_69_method_15_code (3 : Nat) (Option.some (Jvm.ClassFile.FieldType.object "java/lang/Object"))).before args0 about1 = true := code_word (m := ⟨14, 4⟩) (meth := k14m4) (c := k14c4) (by decide +kernel) rfl rfl rfl (by decide +kernel)
set_option maxRecDepth 65536 in
theorem w_c13 : (Jvm.Cond.code ({ cls := "java/util/HashMap", name := "hash", desc := "(Ljava/lang/Object;)I" } : Jvm.MethodName) jdk_69_method_1_code (2 : Nat) (Option.some Jvm.ClassFile.FieldType.int)).before args0 about1 = true := code_word (m := ⟨14, 0⟩) (meth := k14m0) (c := k14c0) (by decide +kernel) rfl rfl rfl (by decide +kernel)
set_option maxRecDepth 65536 in
theorem w_c14 : (Jvm.Cond.code ({ cls := "java/lang/String", name := "hashCode", desc := "()I" } : Jvm.MethodName) jdk_42_method_78_code (2 : Nat) (Option.some Jvm.ClassFile.FieldType.int)).before args0 about1 = true := code_word (m := ⟨19, 2⟩) (meth := k19m2) (c := k19c2) (by decide +kernel) rfl rfl rfl (by decide +kernel)
set_option maxRecDepth 65536 in
theorem w_c15 : (Jvm.Cond.code ({ cls := "java/lang/String", name := "isLatin1", desc := "()Z" } : Jvm.MethodName) jdk_42_method_154_code (1 : Nat) (Option.some Jvm.ClassFile.FieldType.boolean)).before args0 about1 = true := code_word (m := ⟨19, 5⟩) (meth := k19m5) (c := k19c5) (by decide +kernel) rfl rfl rfl (by decide +kernel)
set_option maxRecDepth 65536 in
theorem w_c16 : (Jvm.Cond.code ({ cls := "java/lang/StringLatin1", name := "hashCode", desc := "([B)I" } : Jvm.MethodName) jdk_43_method_21_code (1 : Nat) (Option.some Jvm.ClassFile.FieldType.int)).before args0 about1 = true := code_word (m := ⟨20, 3⟩) (meth := k20m3) (c := k20c3) (by decide +kernel) rfl rfl rfl (by decide +kernel)
set_option maxRecDepth 65536 in
theorem w_c17 : (Jvm.Cond.code ({ cls := "java/util/HashMap", name := "putVal", desc := "(ILjava/lang/Object;Ljava/lang/Object;ZZ)Ljava/lang/Object;" } : Jvm.MethodName) jdk_69_method_16_code (13 : Nat) (Option.some (Jvm.ClassFile.FieldType.object "java/lang/Object"))).before args0 about1 = true := code_word (m := ⟨14, 5⟩) (meth := k14m5) (c := k14c5) (by decide +kernel) rfl rfl rfl (by decide +kernel)
set_option maxRecDepth 65536 in
theorem w_c18 : (Jvm.Cond.code ({ cls := "java/util/HashMap", name := "resize", desc := "()[Ljava/util/HashMap$Node;" } : Jvm.MethodName) jdk_69_method_17_code (14 : Nat) (Option.some (Jvm.ClassFile.FieldType.array (Jvm.ClassFile.FieldType.object "java/util/HashMap$Node")))).before args0 about1 = true := code_word (m := ⟨14, 6⟩) (meth := k14m6) (c := k14c6) (by decide +kernel) rfl rfl rfl (by decide +kernel)
set_option maxRecDepth 65536 in
theorem w_c19 : (Jvm.Cond.code ({ cls := "java/util/HashMap", name := "newNode", desc := "(ILjava/lang/Object;Ljava/lang/Object;Ljava/util/HashMap$Node;)Ljava/util/HashMap$Node;" } : Jvm.MethodName) jdk_69_method_46_code (5 : Nat) (Option.some (Jvm.ClassFile.FieldType.object "java/util/HashMap$Node"))).before args0 about1 = true := code_word (m := ⟨14, 9⟩) (meth := k14m9) (c := k14c9) (by decide +kernel) rfl rfl rfl (by decide +kernel)
set_option maxRecDepth 65536 in
theorem w_c20 : (Jvm.Cond.code ({ cls := "java/util/HashMap$Node", name := "<init>", desc := "(ILjava/lang/Object;Ljava/lang/Object;Ljava/util/HashMap$Node;)V" } : Jvm.MethodName) jdk_70_method_1_code (5 : Nat) (Option.none : Option Jvm.ClassFile.FieldType)).before args0 about1 = true := code_word (m := ⟨25, 0⟩) (meth := k25m0) (c := k25c0) (by decide +kernel) rfl rfl rfl (by decide +kernel)
set_option maxRecDepth 65536 in
theorem w_c21 : (Jvm.Cond.code ({ cls := "java/util/HashMap", name := "afterNodeInsertion", desc := "(Z)V" } : Jvm.MethodName) jdk_69_method_52_code (2 : Nat) (Option.none : Option Jvm.ClassFile.FieldType)).before args0 about1 = true := code_word (m := ⟨14, 10⟩) (meth := k14m10) (c := k14c10) (by decide +kernel) rfl rfl rfl (by decide +kernel)
set_option maxRecDepth 65536 in
theorem w_c22 : (Jvm.Cond.code ({ cls := "com/example/multinomial/multinomial/eval/JudgedRanking", name := "<init>", desc := "(Ljava/util/List;Ljava/util/Map;)V" } : Jvm.MethodName) prog_10_method_1_code (7 : Nat) (Option.none : Option Jvm.ClassFile.FieldType)).before args0 about1 = true := code_word (m := ⟨26, 0⟩) (meth := k26m0) (c := k26c0) (by decide +kernel) rfl rfl rfl (by decide +kernel)
set_option maxRecDepth 65536 in
theorem w_c23 : (Jvm.Cond.code ({ cls := "java/util/ArrayList", name := "size", desc := "()I" } : Jvm.MethodName) jdk_38_method_8_code (1 : Nat) (Option.some Jvm.ClassFile.FieldType.int)).before args0 about1 = true := code_word (m := ⟨11, 3⟩) (meth := k11m3) (c := k11c3) (by decide +kernel) rfl rfl rfl (by decide +kernel)
set_option maxRecDepth 65536 in
theorem w_c24 : (Jvm.Cond.code ({ cls := "java/util/HashMap", name := "size", desc := "()I" } : Jvm.MethodName) jdk_69_method_10_code (1 : Nat) (Option.some Jvm.ClassFile.FieldType.int)).before args0 about1 = true := code_word (m := ⟨14, 2⟩) (meth := k14m2) (c := k14c2) (by decide +kernel) rfl rfl rfl (by decide +kernel)
set_option maxRecDepth 65536 in
theorem w_c25 : (Jvm.Cond.code ({ cls := "java/util/HashMap", name := "values", desc := "()Ljava/util/Collection;" } : Jvm.MethodName) jdk_69_method_28_code (2 : Nat) (Option.some (Jvm.ClassFile.FieldType.object "java/util/Collection"))).before args0 about1 = true := code_word (m := ⟨14, 7⟩) (meth := k14m7) (c := k14c7) (by decide +kernel) rfl rfl rfl (by decide +kernel)
set_option maxRecDepth 65536 in
theorem w_c26 : (Jvm.Cond.code ({ cls := "java/util/HashMap$Values", name := "<init>", desc := "(Ljava/util/HashMap;)V" } : Jvm.MethodName) jdk_2571_method_1_code (2 : Nat) (Option.none : Option Jvm.ClassFile.FieldType)).before args0 about1 = true := code_word (m := ⟨27, 0⟩) (meth := k27m0) (c := k27c0) (by decide +kernel) rfl rfl rfl (by decide +kernel)
set_option maxRecDepth 65536 in
theorem w_c27 : (Jvm.Cond.code ({ cls := "java/util/HashMap$Values", name := "iterator", desc := "()Ljava/util/Iterator;" } : Jvm.MethodName) jdk_2571_method_4_code (1 : Nat) (Option.some (Jvm.ClassFile.FieldType.object "java/util/Iterator"))).before args0 about1 = true := code_word (m := ⟨27, 1⟩) (meth := k27m1) (c := k27c1) (by decide +kernel) rfl rfl rfl (by decide +kernel)
set_option maxRecDepth 65536 in
theorem w_c28 : (Jvm.Cond.code ({ cls := "java/util/HashMap$ValueIterator", name := "<init>", desc := "(Ljava/util/HashMap;)V" } : Jvm.MethodName) jdk_2569_method_1_code (2 : Nat) (Option.none : Option Jvm.ClassFile.FieldType)).before args0 about1 = true := code_word (m := ⟨30, 0⟩) (meth := k30m0) (c := k30c0) (by decide +kernel) rfl rfl rfl (by decide +kernel)
set_option maxRecDepth 65536 in
theorem w_c29 : (Jvm.Cond.code ({ cls := "java/util/HashMap$HashIterator", name := "<init>", desc := "(Ljava/util/HashMap;)V" } : Jvm.MethodName) jdk_99_method_1_code (3 : Nat) (Option.none : Option Jvm.ClassFile.FieldType)).before args0 about1 = true := code_word (m := ⟨28, 0⟩) (meth := k28m0) (c := k28c0) (by decide +kernel) rfl rfl rfl (by decide +kernel)
set_option maxRecDepth 65536 in
theorem w_c30 : (Jvm.Cond.code ({ cls := "java/util/HashMap$HashIterator", name := "hasNext", desc := "()Z" } : Jvm.MethodName) jdk_99_method_2_code (1 : Nat) (Option.some Jvm.ClassFile.FieldType.boolean)).before args0 about1 = true := code_word (m := ⟨28, 1⟩) (meth := k28m1) (c := k28c1) (by decide +kernel) rfl rfl rfl (by decide +kernel)
set_option maxRecDepth 65536 in
theorem w_c31 : (Jvm.Cond.code ({ cls := "java/util/HashMap$ValueIterator", name := "next", desc := "()Ljava/lang/Object;" } : Jvm.MethodName) jdk_2569_method_2_code (1 : Nat) (Option.some (Jvm.ClassFile.FieldType.object "java/lang/Object"))).before args0 about1 = true := code_word (m := ⟨30, 1⟩) (meth := k30m1) (c := k30c1) (by decide +kernel) rfl rfl rfl (by decide +kernel)
set_option maxRecDepth 65536 in
theorem w_c32 : (Jvm.Cond.code ({ cls := "java/util/HashMap$HashIterator", name := "nextNode", desc := "()Ljava/util/HashMap$Node;" } : Jvm.MethodName) jdk_99_method_3_code (3 : Nat) (Option.some (Jvm.ClassFile.FieldType.object "java/util/HashMap$Node"))).before args0 about1 = true := code_word (m := ⟨28, 2⟩) (meth := k28m2) (c := k28c2) (by decide +kernel) rfl rfl rfl (by decide +kernel)
set_option maxRecDepth 65536 in
theorem w_c33 : (Jvm.Cond.code ({ cls := "java/lang/Integer", name := "intValue", desc := "()I" } : Jvm.MethodName) jdk_33_method_27_code (1 : Nat) (Option.some Jvm.ClassFile.FieldType.int)).before args0 about1 = true := code_word (m := ⟨22, 2⟩) (meth := k22m2) (c := k22c2) (by decide +kernel) rfl rfl rfl (by decide +kernel)
set_option maxRecDepth 65536 in
theorem w_c34 : (Jvm.Cond.code ({ cls := "com/example/multinomial/multinomial/eval/JudgedRanking", name := "gain", desc := "(I)I" } : Jvm.MethodName) prog_10_method_13_code (1 : Nat) (Option.some Jvm.ClassFile.FieldType.int)).before args0 about1 = true := code_word (m := ⟨26, 3⟩) (meth := k26m3) (c := k26c3) (by decide +kernel) rfl rfl rfl (by decide +kernel)
set_option maxRecDepth 65536 in
theorem w_c35 : (Jvm.Cond.code ({ cls := "java/lang/Math", name := "max", desc := "(II)I" } : Jvm.MethodName) jdk_29_method_65_code (2 : Nat) (Option.some Jvm.ClassFile.FieldType.int)).before args0 about1 = true := code_word (m := ⟨31, 1⟩) (meth := k31m1) (c := k31c1) (by decide +kernel) rfl rfl rfl (by decide +kernel)
set_option maxRecDepth 65536 in
theorem w_c36 : (Jvm.Cond.code ({ cls := "java/util/Arrays", name := "copyOf", desc := "([II)[I" } : Jvm.MethodName) jdk_65_method_123_code (3 : Nat) (Option.some (Jvm.ClassFile.FieldType.array Jvm.ClassFile.FieldType.int))).before args0 about1 = true := code_word (m := ⟨32, 2⟩) (meth := k32m2) (c := k32c2) (by decide +kernel) rfl rfl rfl (by decide +kernel)
set_option maxRecDepth 65536 in
theorem w_c37 : (Jvm.Cond.code ({ cls := "java/lang/Math", name := "min", desc := "(II)I" } : Jvm.MethodName) jdk_29_method_69_code (2 : Nat) (Option.some Jvm.ClassFile.FieldType.int)).before args0 about1 = true := code_word (m := ⟨31, 2⟩) (meth := k31m2) (c := k31c2) (by decide +kernel) rfl rfl rfl (by decide +kernel)
set_option maxRecDepth 65536 in
theorem w_c38 : (Jvm.Cond.code ({ cls := "java/util/Arrays", name := "sort", desc := "([I)V" } : Jvm.MethodName) jdk_65_method_2_code (1 : Nat) (Option.none : Option Jvm.ClassFile.FieldType)).before args0 about1 = true := code_word (m := ⟨32, 1⟩) (meth := k32m1) (c := k32c1) (by decide +kernel) rfl rfl rfl (by decide +kernel)
set_option maxRecDepth 65536 in
theorem w_c39 : (Jvm.Cond.code ({ cls := "java/util/DualPivotQuicksort", name := "sort", desc := "([IIII)V" } : Jvm.MethodName) jdk_2529_method_3_code (7 : Nat) (Option.none : Option Jvm.ClassFile.FieldType)).before args0 about1 = true := code_word (m := ⟨34, 1⟩) (meth := k34m1) (c := k34c1) (by decide +kernel) rfl rfl rfl (by decide +kernel)
set_option maxRecDepth 65536 in
theorem w_c40 : (Jvm.Cond.code ({ cls := "java/util/DualPivotQuicksort", name := "sort", desc := "(Ljava/util/DualPivotQuicksort$Sorter;[IIII)V" } : Jvm.MethodName) jdk_2529_method_4_code (21 : Nat) (Option.none : Option Jvm.ClassFile.FieldType)).before args0 about1 = true := code_word (m := ⟨34, 2⟩) (meth := k34m2) (c := k34c2) (by decide +kernel) rfl rfl rfl (by decide +kernel)
set_option maxRecDepth 65536 in
theorem w_c41 : (Jvm.Cond.code ({ cls := "java/util/DualPivotQuicksort", name := "insertionSort", desc := "([III)V" } : Jvm.MethodName) jdk_2529_method_6_code (6 : Nat) (Option.none : Option Jvm.ClassFile.FieldType)).before args0 about1 = true := code_word (m := ⟨34, 3⟩) (meth := k34m3) (c := k34c3) (by decide +kernel) rfl rfl rfl (by decide +kernel)
set_option maxRecDepth 65536 in
theorem w_c42 : (Jvm.Cond.code ({ cls := "com/example/multinomial/multinomial/eval/JudgedRanking", name := "averagePrecision", desc := "()D" } : Jvm.MethodName) prog_10_method_5_code (5 : Nat) (Option.some Jvm.ClassFile.FieldType.double)).before args0 about1 = true := code_word (m := ⟨26, 2⟩) (meth := k26m2) (c := k26c2) (by decide +kernel) rfl rfl rfl (by decide +kernel)
set_option maxRecDepth 65536 in
theorem w_c43 : (Jvm.Cond.code ({ cls := "com/example/multinomial/multinomial/eval/JudgedRanking", name := "relevant", desc := "()I" } : Jvm.MethodName) prog_10_method_3_code (1 : Nat) (Option.some Jvm.ClassFile.FieldType.int)).before args0 about1 = true := code_word (m := ⟨26, 1⟩) (meth := k26m1) (c := k26c1) (by decide +kernel) rfl rfl rfl (by decide +kernel)
set_option maxRecDepth 65536 in
theorem w_c44 : (Jvm.Cond.code ({ cls := "com/example/multinomial/multinomial/search/ScoredDocument", name := "<init>", desc := "(Ljava/lang/String;D)V" } : Jvm.MethodName) prog_44_method_1_code (4 : Nat) (Option.none : Option Jvm.ClassFile.FieldType)).before args0 about1 = true := code_word (m := ⟨35, 0⟩) (meth := k35m0) (c := k35c0) (by decide +kernel) rfl rfl rfl (by decide +kernel)
set_option maxRecDepth 65536 in
theorem w_c45 : (Jvm.Cond.code ({ cls := "java/util/ArrayList", name := "add", desc := "(Ljava/lang/Object;)Z" } : Jvm.MethodName) jdk_38_method_25_code (2 : Nat) (Option.some Jvm.ClassFile.FieldType.boolean)).before args0 about1 = true := code_word (m := ⟨11, 7⟩) (meth := k11m7) (c := k11c7) (by decide +kernel) rfl rfl rfl (by decide +kernel)
set_option maxRecDepth 65536 in
theorem w_c46 : (Jvm.Cond.code ({ cls := "java/util/ArrayList", name := "add", desc := "(Ljava/lang/Object;[Ljava/lang/Object;I)V" } : Jvm.MethodName) jdk_38_method_24_code (4 : Nat) (Option.none : Option Jvm.ClassFile.FieldType)).before args0 about1 = true := code_word (m := ⟨11, 6⟩) (meth := k11m6) (c := k11c6) (by decide +kernel) rfl rfl rfl (by decide +kernel)
set_option maxRecDepth 65536 in
theorem w_c47 : (Jvm.Cond.code ({ cls := "java/util/ArrayList", name := "grow", desc := "()[Ljava/lang/Object;" } : Jvm.MethodName) jdk_38_method_7_code (1 : Nat) (Option.some (Jvm.ClassFile.FieldType.array (Jvm.ClassFile.FieldType.object "java/lang/Object")))).before args0 about1 = true := code_word (m := ⟨11, 2⟩) (meth := k11m2) (c := k11c2) (by decide +kernel) rfl rfl rfl (by decide +kernel)
set_option maxRecDepth 65536 in
theorem w_c48 : (Jvm.Cond.code ({ cls := "java/util/ArrayList", name := "grow", desc := "(I)[Ljava/lang/Object;" } : Jvm.MethodName) jdk_38_method_6_code (4 : Nat) (Option.some (Jvm.ClassFile.FieldType.array (Jvm.ClassFile.FieldType.object "java/lang/Object")))).before args0 about1 = true := code_word (m := ⟨11, 1⟩) (meth := k11m1) (c := k11c1) (by decide +kernel) rfl rfl rfl (by decide +kernel)
set_option maxRecDepth 65536 in
theorem w_c49 : (Jvm.Cond.code ({ cls := "java/util/ArrayList", name := "get", desc := "(I)Ljava/lang/Object;" } : Jvm.MethodName) jdk_38_method_20_code (2 : Nat) (Option.some (Jvm.ClassFile.FieldType.object "java/lang/Object"))).before args0 about1 = true := code_word (m := ⟨11, 5⟩) (meth := k11m5) (c := k11c5) (by decide +kernel) rfl rfl rfl (by decide +kernel)
set_option maxRecDepth 65536 in
theorem w_c50 : (Jvm.Cond.code ({ cls := "java/util/Objects", name := "checkIndex", desc := "(II)I" } : Jvm.MethodName) jdk_31_method_17_code (2 : Nat) (Option.some Jvm.ClassFile.FieldType.int)).before args0 about1 = true := code_word (m := ⟨36, 1⟩) (meth := k36m1) (c := k36c1) (by decide +kernel) rfl rfl rfl (by decide +kernel)
set_option maxRecDepth 65536 in
theorem w_c51 : (Jvm.Cond.code ({ cls := "jdk/internal/util/Preconditions", name := "checkIndex", desc := "(IILjava/util/function/BiFunction;)I" } : Jvm.MethodName) jdk_41_method_11_code (3 : Nat) (Option.some Jvm.ClassFile.FieldType.int)).before args0 about1 = true := code_word (m := ⟨37, 1⟩) (meth := k37m1) (c := k37c1) (by decide +kernel) rfl rfl rfl (by decide +kernel)
set_option maxRecDepth 65536 in
theorem w_c52 : (Jvm.Cond.code ({ cls := "java/util/ArrayList", name := "elementData", desc := "(I)Ljava/lang/Object;" } : Jvm.MethodName) jdk_38_method_18_code (2 : Nat) (Option.some (Jvm.ClassFile.FieldType.object "java/lang/Object"))).before args0 about1 = true := code_word (m := ⟨11, 4⟩) (meth := k11m4) (c := k11c4) (by decide +kernel) rfl rfl rfl (by decide +kernel)
set_option maxRecDepth 65536 in
theorem w_c53 : (Jvm.Cond.code ({ cls := "com/example/multinomial/multinomial/search/ScoredDocument", name := "id", desc := "()Ljava/lang/String;" } : Jvm.MethodName) prog_44_method_2_code (1 : Nat) (Option.some (Jvm.ClassFile.FieldType.object "java/lang/String"))).before args0 about1 = true := code_word (m := ⟨35, 1⟩) (meth := k35m1) (c := k35c1) (by decide +kernel) rfl rfl rfl (by decide +kernel)
set_option maxRecDepth 65536 in
theorem w_c54 : (Jvm.Cond.code ({ cls := "java/util/HashMap", name := "getOrDefault", desc := "(Ljava/lang/Object;Ljava/lang/Object;)Ljava/lang/Object;" } : Jvm.MethodName) jdk_69_method_30_code (4 : Nat) (Option.some (Jvm.ClassFile.FieldType.object "java/lang/Object"))).before args0 about1 = true := code_word (m := ⟨14, 8⟩) (meth := k14m8) (c := k14c8) (by decide +kernel) rfl rfl rfl (by decide +kernel)
set_option maxRecDepth 65536 in
theorem w_c55 : (Jvm.Cond.code ({ cls := "java/util/HashMap", name := "getNode", desc := "(Ljava/lang/Object;)Ljava/util/HashMap$Node;" } : Jvm.MethodName) jdk_69_method_13_code (8 : Nat) (Option.some (Jvm.ClassFile.FieldType.object "java/util/HashMap$Node"))).before args0 about1 = true := code_word (m := ⟨14, 3⟩) (meth := k14m3) (c := k14c3) (by decide +kernel) rfl rfl rfl (by decide +kernel)
set_option maxRecDepth 65536 in
theorem w_c56 : (Jvm.Cond.code ({ cls := "java/lang/String", name := "equals", desc := "(Ljava/lang/Object;)Z" } : Jvm.MethodName) jdk_42_method_66_code (3 : Nat) (Option.some Jvm.ClassFile.FieldType.boolean)).before args0 about1 = true := code_word (m := ⟨19, 1⟩) (meth := k19m1) (c := k19c1) (by decide +kernel) rfl rfl rfl (by decide +kernel)
set_option maxRecDepth 65536 in
theorem w_c57 : (Jvm.Cond.code ({ cls := "java/lang/StringLatin1", name := "equals", desc := "([B[B)Z" } : Jvm.MethodName) jdk_43_method_13_code (3 : Nat) (Option.some Jvm.ClassFile.FieldType.boolean)).before args0 about1 = true := code_word (m := ⟨20, 2⟩) (meth := k20m2) (c := k20c2) (by decide +kernel) rfl rfl rfl (by decide +kernel)
set_option maxRecDepth 65536 in
theorem w_c58 : (Jvm.Cond.code ({ cls := "java/lang/Integer", name := "<init>", desc := "(I)V" } : Jvm.MethodName) jdk_33_method_23_code (2 : Nat) (Option.none : Option Jvm.ClassFile.FieldType)).before args0 about1 = true := code_word (m := ⟨22, 1⟩) (meth := k22m1) (c := k22c1) (by decide +kernel) rfl rfl rfl (by decide +kernel)
set_option maxRecDepth 65536 in
theorem w_c59 : (Jvm.Cond.code ({ cls := "java/lang/Number", name := "<init>", desc := "()V" } : Jvm.MethodName) jdk_18_method_1_code (1 : Nat) (Option.none : Option Jvm.ClassFile.FieldType)).before args0 about1 = true := code_word (m := ⟨21, 0⟩) (meth := k21m0) (c := k21c0) (by decide +kernel) rfl rfl rfl (by decide +kernel)
def codes1 : List Jvm.Cond := [Jvm.Cond.code x code maxLocals ret, Jvm.Cond.code ({ cls := "java/util/ArrayList", name := "<init>", desc := "()V" } : Jvm.MethodName) jdk_38_method_2_code (1 : Nat) (Option.none : Option Jvm.ClassFile.FieldType), Jvm.Cond.code ({ cls := "java/util/AbstractList", name := "<init>", desc := "()V" } : Jvm.MethodName) jdk_39_method_1_code (1 : Nat) (Option.none : Option Jvm.ClassFile.FieldType), Jvm.Cond.code ({ cls := "java/util/AbstractCollection", name := "<init>", desc := "()V" } : Jvm.MethodName) jdk_22_method_1_code (1 : Nat) (Option.none : Option Jvm.ClassFile.FieldType), Jvm.Cond.code ({ cls := "java/lang/Object", name := "<init>", desc := "()V" } : Jvm.MethodName) object_method_1_code (1 : Nat) (Option.none : Option Jvm.ClassFile.FieldType), Jvm.Cond.code ({ cls := "java/util/HashMap", name := "<init>", desc := "()V" } : Jvm.MethodName) jdk_69_method_7_code (1 : Nat) (Option.none : Option Jvm.ClassFile.FieldType), Jvm.Cond.code ({ cls := "java/util/AbstractMap", name := "<init>", desc := "()V" } : Jvm.MethodName) jdk_71_method_1_code (1 : Nat) (Option.none : Option Jvm.ClassFile.FieldType), Jvm.Cond.code ({ cls := "java/lang/String", name := "valueOf", desc := "(C)Ljava/lang/String;" } : Jvm.MethodName) jdk_42_method_139_code (1 : Nat) (Option.some (Jvm.ClassFile.FieldType.object "java/lang/String")), Jvm.Cond.code ({ cls := "java/lang/StringLatin1", name := "canEncode", desc := "(C)Z" } : Jvm.MethodName) jdk_43_method_3_code (1 : Nat) (Option.some Jvm.ClassFile.FieldType.boolean), Jvm.Cond.code ({ cls := "java/lang/StringLatin1", name := "toBytes", desc := "(C)[B" } : Jvm.MethodName) jdk_43_method_46_code (1 : Nat) (Option.some (Jvm.ClassFile.FieldType.array Jvm.ClassFile.FieldType.byte)), Jvm.Cond.code ({ cls := "java/lang/String", name := "<init>", desc := "([BB)V" } : Jvm.MethodName) jdk_42_method_151_code (3 : Nat) (Option.none : Option Jvm.ClassFile.FieldType), Jvm.Cond.code ({ cls := "java/lang/Integer", name := "valueOf", desc := "(I)Ljava/lang/Integer;" } : Jvm.MethodName) jdk_33_method_22_code (1 : Nat) (Option.some (Jvm.ClassFile.FieldType.object "java/lang/Integer")), Jvm.Cond.code ({ cls := "java/util/HashMap", name := "put", desc := "(Ljava/lang/Object;Ljava/lang/Object;)Ljava/lang/Object;" } : Jvm.MethodName) jdk_69_method_15_code (3 : Nat) (Option.some (Jvm.ClassFile.FieldType.object "java/lang/Object")), Jvm.Cond.code ({ cls := "java/util/HashMap", name := "hash", desc := "(Ljava/lang/Object;)I" } : Jvm.MethodName) jdk_69_method_1_code (2 : Nat) (Option.some Jvm.ClassFile.FieldType.int), Jvm.Cond.code ({ cls := "java/lang/String", name := "hashCode", desc := "()I" } : Jvm.MethodName) jdk_42_method_78_code (2 : Nat) (Option.some Jvm.ClassFile.FieldType.int), Jvm.Cond.code ({ cls := "java/lang/String", name := "isLatin1", desc := "()Z" } : Jvm.MethodName) jdk_42_method_154_code (1 : Nat) (Option.some Jvm.ClassFile.FieldType.boolean), Jvm.Cond.code ({ cls := "java/lang/StringLatin1", name := "hashCode", desc := "([B)I" } : Jvm.MethodName) jdk_43_method_21_code (1 : Nat) (Option.some Jvm.ClassFile.FieldType.int), Jvm.Cond.code ({ cls := "java/util/HashMap", name := "putVal", desc := "(ILjava/lang/Object;Ljava/lang/Object;ZZ)Ljava/lang/Object;" } : Jvm.MethodName) jdk_69_method_16_code (13 : Nat) (Option.some (Jvm.ClassFile.FieldType.object "java/lang/Object")), Jvm.Cond.code ({ cls := "java/util/HashMap", name := "resize", desc := "()[Ljava/util/HashMap$Node;" } : Jvm.MethodName) jdk_69_method_17_code (14 : Nat) (Option.some (Jvm.ClassFile.FieldType.array (Jvm.ClassFile.FieldType.object "java/util/HashMap$Node"))), Jvm.Cond.code ({ cls := "java/util/HashMap", name := "newNode", desc := "(ILjava/lang/Object;Ljava/lang/Object;Ljava/util/HashMap$Node;)Ljava/util/HashMap$Node;" } : Jvm.MethodName) jdk_69_method_46_code (5 : Nat) (Option.some (Jvm.ClassFile.FieldType.object "java/util/HashMap$Node")), Jvm.Cond.code ({ cls := "java/util/HashMap$Node", name := "<init>", desc := "(ILjava/lang/Object;Ljava/lang/Object;Ljava/util/HashMap$Node;)V" } : Jvm.MethodName) jdk_70_method_1_code (5 : Nat) (Option.none : Option Jvm.ClassFile.FieldType), Jvm.Cond.code ({ cls := "java/util/HashMap", name := "afterNodeInsertion", desc := "(Z)V" } : Jvm.MethodName) jdk_69_method_52_code (2 : Nat) (Option.none : Option Jvm.ClassFile.FieldType), Jvm.Cond.code ({ cls := "com/example/multinomial/multinomial/eval/JudgedRanking", name := "<init>", desc := "(Ljava/util/List;Ljava/util/Map;)V" } : Jvm.MethodName) prog_10_method_1_code (7 : Nat) (Option.none : Option Jvm.ClassFile.FieldType), Jvm.Cond.code ({ cls := "java/util/ArrayList", name := "size", desc := "()I" } : Jvm.MethodName) jdk_38_method_8_code (1 : Nat) (Option.some Jvm.ClassFile.FieldType.int), Jvm.Cond.code ({ cls := "java/util/HashMap", name := "size", desc := "()I" } : Jvm.MethodName) jdk_69_method_10_code (1 : Nat) (Option.some Jvm.ClassFile.FieldType.int), Jvm.Cond.code ({ cls := "java/util/HashMap", name := "values", desc := "()Ljava/util/Collection;" } : Jvm.MethodName) jdk_69_method_28_code (2 : Nat) (Option.some (Jvm.ClassFile.FieldType.object "java/util/Collection")), Jvm.Cond.code ({ cls := "java/util/HashMap$Values", name := "<init>", desc := "(Ljava/util/HashMap;)V" } : Jvm.MethodName) jdk_2571_method_1_code (2 : Nat) (Option.none : Option Jvm.ClassFile.FieldType), Jvm.Cond.code ({ cls := "java/util/HashMap$Values", name := "iterator", desc := "()Ljava/util/Iterator;" } : Jvm.MethodName) jdk_2571_method_4_code (1 : Nat) (Option.some (Jvm.ClassFile.FieldType.object "java/util/Iterator")), Jvm.Cond.code ({ cls := "java/util/HashMap$ValueIterator", name := "<init>", desc := "(Ljava/util/HashMap;)V" } : Jvm.MethodName) jdk_2569_method_1_code (2 : Nat) (Option.none : Option Jvm.ClassFile.FieldType), Jvm.Cond.code ({ cls := "java/util/HashMap$HashIterator", name := "<init>", desc := "(Ljava/util/HashMap;)V" } : Jvm.MethodName) jdk_99_method_1_code (3 : Nat) (Option.none : Option Jvm.ClassFile.FieldType), Jvm.Cond.code ({ cls := "java/util/HashMap$HashIterator", name := "hasNext", desc := "()Z" } : Jvm.MethodName) jdk_99_method_2_code (1 : Nat) (Option.some Jvm.ClassFile.FieldType.boolean), Jvm.Cond.code ({ cls := "java/util/HashMap$ValueIterator", name := "next", desc := "()Ljava/lang/Object;" } : Jvm.MethodName) jdk_2569_method_2_code (1 : Nat) (Option.some (Jvm.ClassFile.FieldType.object "java/lang/Object")), Jvm.Cond.code ({ cls := "java/util/HashMap$HashIterator", name := "nextNode", desc := "()Ljava/util/HashMap$Node;" } : Jvm.MethodName) jdk_99_method_3_code (3 : Nat) (Option.some (Jvm.ClassFile.FieldType.object "java/util/HashMap$Node")), Jvm.Cond.code ({ cls := "java/lang/Integer", name := "intValue", desc := "()I" } : Jvm.MethodName) jdk_33_method_27_code (1 : Nat) (Option.some Jvm.ClassFile.FieldType.int), Jvm.Cond.code ({ cls := "com/example/multinomial/multinomial/eval/JudgedRanking", name := "gain", desc := "(I)I" } : Jvm.MethodName) prog_10_method_13_code (1 : Nat) (Option.some Jvm.ClassFile.FieldType.int), Jvm.Cond.code ({ cls := "java/lang/Math", name := "max", desc := "(II)I" } : Jvm.MethodName) jdk_29_method_65_code (2 : Nat) (Option.some Jvm.ClassFile.FieldType.int), Jvm.Cond.code ({ cls := "java/util/Arrays", name := "copyOf", desc := "([II)[I" } : Jvm.MethodName) jdk_65_method_123_code (3 : Nat) (Option.some (Jvm.ClassFile.FieldType.array Jvm.ClassFile.FieldType.int)), Jvm.Cond.code ({ cls := "java/lang/Math", name := "min", desc := "(II)I" } : Jvm.MethodName) jdk_29_method_69_code (2 : Nat) (Option.some Jvm.ClassFile.FieldType.int), Jvm.Cond.code ({ cls := "java/util/Arrays", name := "sort", desc := "([I)V" } : Jvm.MethodName) jdk_65_method_2_code (1 : Nat) (Option.none : Option Jvm.ClassFile.FieldType), Jvm.Cond.code ({ cls := "java/util/DualPivotQuicksort", name := "sort", desc := "([IIII)V" } : Jvm.MethodName) jdk_2529_method_3_code (7 : Nat) (Option.none : Option Jvm.ClassFile.FieldType), Jvm.Cond.code ({ cls := "java/util/DualPivotQuicksort", name := "sort", desc := "(Ljava/util/DualPivotQuicksort$Sorter;[IIII)V" } : Jvm.MethodName) jdk_2529_method_4_code (21 : Nat) (Option.none : Option Jvm.ClassFile.FieldType), Jvm.Cond.code ({ cls := "java/util/DualPivotQuicksort", name := "insertionSort", desc := "([III)V" } : Jvm.MethodName) jdk_2529_method_6_code (6 : Nat) (Option.none : Option Jvm.ClassFile.FieldType), Jvm.Cond.code ({ cls := "com/example/multinomial/multinomial/eval/JudgedRanking", name := "averagePrecision", desc := "()D" } : Jvm.MethodName) prog_10_method_5_code (5 : Nat) (Option.some Jvm.ClassFile.FieldType.double), Jvm.Cond.code ({ cls := "com/example/multinomial/multinomial/eval/JudgedRanking", name := "relevant", desc := "()I" } : Jvm.MethodName) prog_10_method_3_code (1 : Nat) (Option.some Jvm.ClassFile.FieldType.int), Jvm.Cond.code ({ cls := "com/example/multinomial/multinomial/search/ScoredDocument", name := "<init>", desc := "(Ljava/lang/String;D)V" } : Jvm.MethodName) prog_44_method_1_code (4 : Nat) (Option.none : Option Jvm.ClassFile.FieldType), Jvm.Cond.code ({ cls := "java/util/ArrayList", name := "add", desc := "(Ljava/lang/Object;)Z" } : Jvm.MethodName) jdk_38_method_25_code (2 : Nat) (Option.some Jvm.ClassFile.FieldType.boolean), Jvm.Cond.code ({ cls := "java/util/ArrayList", name := "add", desc := "(Ljava/lang/Object;[Ljava/lang/Object;I)V" } : Jvm.MethodName) jdk_38_method_24_code (4 : Nat) (Option.none : Option Jvm.ClassFile.FieldType), Jvm.Cond.code ({ cls := "java/util/ArrayList", name := "grow", desc := "()[Ljava/lang/Object;" } : Jvm.MethodName) jdk_38_method_7_code (1 : Nat) (Option.some (Jvm.ClassFile.FieldType.array (Jvm.ClassFile.FieldType.object "java/lang/Object"))), Jvm.Cond.code ({ cls := "java/util/ArrayList", name := "grow", desc := "(I)[Ljava/lang/Object;" } : Jvm.MethodName) jdk_38_method_6_code (4 : Nat) (Option.some (Jvm.ClassFile.FieldType.array (Jvm.ClassFile.FieldType.object "java/lang/Object"))), Jvm.Cond.code ({ cls := "java/util/ArrayList", name := "get", desc := "(I)Ljava/lang/Object;" } : Jvm.MethodName) jdk_38_method_20_code (2 : Nat) (Option.some (Jvm.ClassFile.FieldType.object "java/lang/Object")), Jvm.Cond.code ({ cls := "java/util/Objects", name := "checkIndex", desc := "(II)I" } : Jvm.MethodName) jdk_31_method_17_code (2 : Nat) (Option.some Jvm.ClassFile.FieldType.int), Jvm.Cond.code ({ cls := "jdk/internal/util/Preconditions", name := "checkIndex", desc := "(IILjava/util/function/BiFunction;)I" } : Jvm.MethodName) jdk_41_method_11_code (3 : Nat) (Option.some Jvm.ClassFile.FieldType.int), Jvm.Cond.code ({ cls := "java/util/ArrayList", name := "elementData", desc := "(I)Ljava/lang/Object;" } : Jvm.MethodName) jdk_38_method_18_code (2 : Nat) (Option.some (Jvm.ClassFile.FieldType.object "java/lang/Object")), Jvm.Cond.code ({ cls := "com/example/multinomial/multinomial/search/ScoredDocument", name := "id", desc := "()Ljava/lang/String;" } : Jvm.MethodName) prog_44_method_2_code (1 : Nat) (Option.some (Jvm.ClassFile.FieldType.object "java/lang/String")), Jvm.Cond.code ({ cls := "java/util/HashMap", name := "getOrDefault", desc := "(Ljava/lang/Object;Ljava/lang/Object;)Ljava/lang/Object;" } : Jvm.MethodName) jdk_69_method_30_code (4 : Nat) (Option.some (Jvm.ClassFile.FieldType.object "java/lang/Object")), Jvm.Cond.code ({ cls := "java/util/HashMap", name := "getNode", desc := "(Ljava/lang/Object;)Ljava/util/HashMap$Node;" } : Jvm.MethodName) jdk_69_method_13_code (8 : Nat) (Option.some (Jvm.ClassFile.FieldType.object "java/util/HashMap$Node")), Jvm.Cond.code ({ cls := "java/lang/String", name := "equals", desc := "(Ljava/lang/Object;)Z" } : Jvm.MethodName) jdk_42_method_66_code (3 : Nat) (Option.some Jvm.ClassFile.FieldType.boolean), Jvm.Cond.code ({ cls := "java/lang/StringLatin1", name := "equals", desc := "([B[B)Z" } : Jvm.MethodName) jdk_43_method_13_code (3 : Nat) (Option.some Jvm.ClassFile.FieldType.boolean), Jvm.Cond.code ({ cls := "java/lang/Integer", name := "<init>", desc := "(I)V" } : Jvm.MethodName) jdk_33_method_23_code (2 : Nat) (Option.none : Option Jvm.ClassFile.FieldType), Jvm.Cond.code ({ cls := "java/lang/Number", name := "<init>", desc := "()V" } : Jvm.MethodName) jdk_18_method_1_code (1 : Nat) (Option.none : Option Jvm.ClassFile.FieldType)]
set_option maxRecDepth 65536 in
theorem codes_eq : words1.filter isCode = codes1 := rfl
theorem w_codes : ∀ c ∈ words1.filter isCode, c.before args0 about1 = true := by
  rw [codes_eq]
  intro c hc
  simp only [codes1, List.mem_cons, List.not_mem_nil, or_false] at hc
  rcases hc with rfl | rfl | rfl | rfl | rfl | rfl | rfl | rfl | rfl | rfl | rfl | rfl | rfl | rfl | rfl | rfl | rfl | rfl | rfl | rfl | rfl | rfl | rfl | rfl | rfl | rfl | rfl | rfl | rfl | rfl | rfl | rfl | rfl | rfl | rfl | rfl | rfl | rfl | rfl | rfl | rfl | rfl | rfl | rfl | rfl | rfl | rfl | rfl | rfl | rfl | rfl | rfl | rfl | rfl | rfl | rfl | rfl | rfl | rfl | rfl
  · exact w_c0
  · exact w_c1
  · exact w_c2
  · exact w_c3
  · exact w_c4
  · exact w_c5
  · exact w_c6
  · exact w_c7
  · exact w_c8
  · exact w_c9
  · exact w_c10
  · exact w_c11
  · exact w_c12
  · exact w_c13
  · exact w_c14
  · exact w_c15
  · exact w_c16
  · exact w_c17
  · exact w_c18
  · exact w_c19
  · exact w_c20
  · exact w_c21
  · exact w_c22
  · exact w_c23
  · exact w_c24
  · exact w_c25
  · exact w_c26
  · exact w_c27
  · exact w_c28
  · exact w_c29
  · exact w_c30
  · exact w_c31
  · exact w_c32
  · exact w_c33
  · exact w_c34
  · exact w_c35
  · exact w_c36
  · exact w_c37
  · exact w_c38
  · exact w_c39
  · exact w_c40
  · exact w_c41
  · exact w_c42
  · exact w_c43
  · exact w_c44
  · exact w_c45
  · exact w_c46
  · exact w_c47
  · exact w_c48
  · exact w_c49
  · exact w_c50
  · exact w_c51
  · exact w_c52
  · exact w_c53
  · exact w_c54
  · exact w_c55
  · exact w_c56
  · exact w_c57
  · exact w_c58
  · exact w_c59
set_option maxRecDepth 65536 in
theorem w_t1 : (words1.take 24).all (fun c => isCode c || c.before args0 about1) = true := by decide +kernel
set_option maxRecDepth 65536 in
theorem w_t2 : ((words1.drop 24).take 24).all (fun c => isCode c || c.before args0 about1) = true := by decide +kernel
set_option maxRecDepth 65536 in
theorem w_t3 : (((words1.drop 24).drop 24).take 24).all (fun c => isCode c || c.before args0 about1) = true := by decide +kernel
set_option maxRecDepth 65536 in
theorem w_t4 : ((((words1.drop 24).drop 24).drop 24).take 24).all (fun c => isCode c || c.before args0 about1) = true := by decide +kernel
set_option maxRecDepth 65536 in
theorem w_t5 : (((((words1.drop 24).drop 24).drop 24).drop 24).take 24).all (fun c => isCode c || c.before args0 about1) = true := by decide +kernel
set_option maxRecDepth 65536 in
theorem w_t6 : ((((((words1.drop 24).drop 24).drop 24).drop 24).drop 24).take 24).all (fun c => isCode c || c.before args0 about1) = true := by decide +kernel
set_option maxRecDepth 65536 in
theorem w_t7 : (((((((words1.drop 24).drop 24).drop 24).drop 24).drop 24).drop 24).take 24).all (fun c => isCode c || c.before args0 about1) = true := by decide +kernel
set_option maxRecDepth 65536 in
theorem w_t8 : ((((((((words1.drop 24).drop 24).drop 24).drop 24).drop 24).drop 24).drop 24).take 24).all (fun c => isCode c || c.before args0 about1) = true := by decide +kernel
set_option maxRecDepth 65536 in
theorem w_t9 : (((((((((words1.drop 24).drop 24).drop 24).drop 24).drop 24).drop 24).drop 24).drop 24).take 24).all (fun c => isCode c || c.before args0 about1) = true := by decide +kernel
set_option maxRecDepth 65536 in
theorem w_t10 : ((((((((((words1.drop 24).drop 24).drop 24).drop 24).drop 24).drop 24).drop 24).drop 24).drop 24).take 24).all (fun c => isCode c || c.before args0 about1) = true := by decide +kernel
set_option maxRecDepth 65536 in
theorem w_t11 : (((((((((((words1.drop 24).drop 24).drop 24).drop 24).drop 24).drop 24).drop 24).drop 24).drop 24).drop 24).take 24).all (fun c => isCode c || c.before args0 about1) = true := by decide +kernel
set_option maxRecDepth 65536 in
theorem w_t12 : ((((((((((((words1.drop 24).drop 24).drop 24).drop 24).drop 24).drop 24).drop 24).drop 24).drop 24).drop 24).drop 24).take 24).all (fun c => isCode c || c.before args0 about1) = true := by decide +kernel
set_option maxRecDepth 65536 in
theorem w_t13 : (((((((((((((words1.drop 24).drop 24).drop 24).drop 24).drop 24).drop 24).drop 24).drop 24).drop 24).drop 24).drop 24).drop 24).take 24).all (fun c => isCode c || c.before args0 about1) = true := by decide +kernel
set_option maxRecDepth 65536 in
theorem w_t14 : ((((((((((((((words1.drop 24).drop 24).drop 24).drop 24).drop 24).drop 24).drop 24).drop 24).drop 24).drop 24).drop 24).drop 24).drop 24).take 24).all (fun c => isCode c || c.before args0 about1) = true := by decide +kernel
set_option maxRecDepth 65536 in
theorem w_t15 : (((((((((((((((words1.drop 24).drop 24).drop 24).drop 24).drop 24).drop 24).drop 24).drop 24).drop 24).drop 24).drop 24).drop 24).drop 24).drop 24).take 24).all (fun c => isCode c || c.before args0 about1) = true := by decide +kernel
set_option maxRecDepth 65536 in
theorem w_t16 : ((((((((((((((((words1.drop 24).drop 24).drop 24).drop 24).drop 24).drop 24).drop 24).drop 24).drop 24).drop 24).drop 24).drop 24).drop 24).drop 24).drop 24).take 24).all (fun c => isCode c || c.before args0 about1) = true := by decide +kernel
set_option maxRecDepth 65536 in
theorem w_t17 : (((((((((((((((((words1.drop 24).drop 24).drop 24).drop 24).drop 24).drop 24).drop 24).drop 24).drop 24).drop 24).drop 24).drop 24).drop 24).drop 24).drop 24).drop 24).take 24).all (fun c => isCode c || c.before args0 about1) = true := by decide +kernel
set_option maxRecDepth 65536 in
theorem w_t18 : (((((((((((((((((words1.drop 24).drop 24).drop 24).drop 24).drop 24).drop 24).drop 24).drop 24).drop 24).drop 24).drop 24).drop 24).drop 24).drop 24).drop 24).drop 24).drop 24).all (fun c => isCode c || c.before args0 about1) = true := by decide +kernel
theorem w_tables : (allAtoms (Jvm.Cond.code x code maxLocals ret :: tables_1)).before args0 about1 = true := by
  rw [allAtoms_all]
  show words1.all (fun c => c.before args0 about1) = true
  refine all_split ?_ w_codes
  rw [← List.take_append_drop 24 words1, List.all_append, w_t1, ← List.take_append_drop 24 (words1.drop 24), List.all_append, w_t2, ← List.take_append_drop 24 ((words1.drop 24).drop 24), List.all_append, w_t3, ← List.take_append_drop 24 (((words1.drop 24).drop 24).drop 24), List.all_append, w_t4, ← List.take_append_drop 24 ((((words1.drop 24).drop 24).drop 24).drop 24), List.all_append, w_t5, ← List.take_append_drop 24 (((((words1.drop 24).drop 24).drop 24).drop 24).drop 24), List.all_append, w_t6, ← List.take_append_drop 24 ((((((words1.drop 24).drop 24).drop 24).drop 24).drop 24).drop 24), List.all_append, w_t7, ← List.take_append_drop 24 (((((((words1.drop 24).drop 24).drop 24).drop 24).drop 24).drop 24).drop 24), List.all_append, w_t8, ← List.take_append_drop 24 ((((((((words1.drop 24).drop 24).drop 24).drop 24).drop 24).drop 24).drop 24).drop 24), List.all_append, w_t9, ← List.take_append_drop 24 (((((((((words1.drop 24).drop 24).drop 24).drop 24).drop 24).drop 24).drop 24).drop 24).drop 24), List.all_append, w_t10, ← List.take_append_drop 24 ((((((((((words1.drop 24).drop 24).drop 24).drop 24).drop 24).drop 24).drop 24).drop 24).drop 24).drop 24), List.all_append, w_t11, ← List.take_append_drop 24 (((((((((((words1.drop 24).drop 24).drop 24).drop 24).drop 24).drop 24).drop 24).drop 24).drop 24).drop 24).drop 24), List.all_append, w_t12, ← List.take_append_drop 24 ((((((((((((words1.drop 24).drop 24).drop 24).drop 24).drop 24).drop 24).drop 24).drop 24).drop 24).drop 24).drop 24).drop 24), List.all_append, w_t13, ← List.take_append_drop 24 (((((((((((((words1.drop 24).drop 24).drop 24).drop 24).drop 24).drop 24).drop 24).drop 24).drop 24).drop 24).drop 24).drop 24).drop 24), List.all_append, w_t14, ← List.take_append_drop 24 ((((((((((((((words1.drop 24).drop 24).drop 24).drop 24).drop 24).drop 24).drop 24).drop 24).drop 24).drop 24).drop 24).drop 24).drop 24).drop 24), List.all_append, w_t15, ← List.take_append_drop 24 (((((((((((((((words1.drop 24).drop 24).drop 24).drop 24).drop 24).drop 24).drop 24).drop 24).drop 24).drop 24).drop 24).drop 24).drop 24).drop 24).drop 24), List.all_append, w_t16, ← List.take_append_drop 24 ((((((((((((((((words1.drop 24).drop 24).drop 24).drop 24).drop 24).drop 24).drop 24).drop 24).drop 24).drop 24).drop 24).drop 24).drop 24).drop 24).drop 24).drop 24), List.all_append, w_t17, w_t18]
  rfl
set_option maxRecDepth 65536 in
theorem w_rest : rest_1_c.before args0 about1 = true := by decide +kernel
set_option maxRecDepth 65536 in
theorem w_case : (Jvm.Cond.and given_1 narrow_1).before args0 about1 = true := by decide +kernel
theorem w_applies : (headSpec (Jvm.Cond.code x code maxLocals ret :: tables_1) room_1).applies x e0.platform about1 = true :=
  (Spec.applies_iff w_frames).mpr ⟨w_running, w_runnable, w_alone, w_named, w_hears, w_ripe, w_room, w_tables⟩
theorem atStart : AtStart classFile x code maxLocals ret World_1 tables_1 room_1 Calls_1 rest_1 Pre_1 launch0 p0 e0 about1 theMethod args0 below0 :=
  ⟨lists_1, trivial, launch0.admits_env _ _ _, launch0.least_env, fairChoices_fair.cas, fairChoices_fair.clock, w_frames, w_args, w_heap, w_applies, trivial, w_rest, w_case⟩
end start1
theorem witness_1 : WitnessClaimed_1 := ⟨start1.p0, start1.e0, start1.about1, start1.theMethod, start1.args0, start1.below0, start1.atStart⟩
end Jvm.Pilot.@@N@@
