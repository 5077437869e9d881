import JvmDerived
import JvmDerived.Pilot.@@N@@Statement
import JvmDerived.Pilot.@@N@@Code
set_option linter.unusedVariables false
set_option linter.unusedSimpArgs false
namespace Jvm.Pilot.@@N@@
open Jvm Jvm.ClassFile Sem Op Lib Jvm.Free Jvm.Stand Jvm.LawKit Jvm.RoadKit Bundle Jvm.Pilot.@@N@@.Jvm.D
section OwnGo
variable {p : Program} {l : Launch} {e : Env} {R : Room} {s : State} {m : MethodId} {args : Array Value} {below : List Frame} {meth : Method} {c : Code} {T : State} {locs : List Loc} {cells slots : Nat} {Z : State} {a0 : Array Value} {h : Heap} {K : Outcome → State → Prop} {pc pc' : Nat} {Ls : Array Slot} {st : List Value}
/-- from frame g in state T the run ends as K says -/
def Goes (p : Program) (e : Env) (below : List Frame) (K : Outcome → State → Prop) (T : State) (g : JFrame) : Prop := ∃ u o, Steps p.tables e below (T.setTop g) u ∧ u.status = .running ∧ Ended u below o ∧ K o u
theorem Goes.by' {T' : State} {g g' : JFrame} (f : ∀ t, Steps p.tables e below (T'.setTop g') t → Steps p.tables e below (T.setTop g) t) (k : Goes p e below K T' g') : Goes p e below K T g := by obtain ⟨u, o, h1, h2⟩ := k; exact ⟨u, o, f _ h1, h2⟩
theorem Goes.cast {g g' : JFrame} (q : g = g') (k : Goes p e below K T g') : Goes p e below K T g := q ▸ k
/-- a callee's contract: called with as' at the heap h0 it returns v, leaves a heap and a list of written places of which Q speaks -/
abbrev Ctr (l : Launch) (Z : State) (y : MethodName) (bytes : ByteArray) (maxL : Nat) (ret : Option FieldType) (ws : List Jvm.Cond) (rm : Room) (C S : Nat) (as' : Array Value) (h0 : Heap) (Q : Option Value → Heap → List Loc → Prop) : Prop := MetFree l y (head1 (Jvm.Cond.code y bytes maxL ret :: ws) rm) (fun a U => a = as' ∧ Z.Warmed39 U.vm ∧ U.heap = h0) (fun _ _ _ _ _ => True) (fun _ U o U' => ∃ v L, o = .returned v ∧ Q v U'.heap L ∧ FrameEnd U o U' L C S)
abbrev KQ (s : State) (C S : Nat) (Q : Option Value → Heap → List Loc → Prop) : Outcome → State → Prop := fun o u => ∃ v L, o = .returned v ∧ Q v u.heap L ∧ FrameEnd s o u L C S
theorem Ctr.of {y : MethodName} {bytes : ByteArray} {maxL : Nat} {ret : Option FieldType} {ws : List Jvm.Cond} {rm : Room} {C S : Nat} {as' : Array Value} {h0 : Heap} {Q : Option Value → Heap → List Loc → Prop} (hpn : plainFor y = true)
    (body : ∀ (p : Program) (e : Env) (s : State) (m : MethodId) (below : List Frame) (meth : Method) (c : Code) (s₁ : State), p.tables.exec = Jvm.exec → c.code = bytes → c.maxLocals = maxL → s.vm.findClass y.cls = some m.cls → meth.name = y.name → meth.sig.returnType = ret → meth.locks = false → Z.Warmed39 s.vm → Stand p l e rm s m as' below meth c s₁ [] 0 0 → s₁.heap = h0 → Goes p e below (KQ s C S Q) s₁ (entryFrame m as' maxL)) :
    Ctr l Z y bytes maxL ret ws rm C S as' h0 Q := by
  refine MetFree.of_bodySF hpn hisR ?_
  intro p e s m args below meth c s₁ Bd hml0 hP hK
  obtain ⟨rfl, hZ, hh⟩ := hP
  have hlk : meth.locks = false := BodyLoose.notSynchronized Bd
  exact body p e s m below meth c s₁ Bd.exec Bd.bytes hml0 (findClass_of_methodNamed Bd.named) (name_of_methodNamed Bd.named Bd.method).1 Bd.returns hlk hZ (Stand.of_body Bd) (by rw [← hh, Bd.state]; rfl)
theorem wd {a0 : Array Value} {Z : State} {tb : List Jvm.Cond} (hw : ∀ d ∈ tb, d.before a0 Z = true) (i : Nat) {d : Jvm.Cond} (q : tb[i]? = some d) : d.before a0 Z = true := hw _ (List.mem_of_getElem? q)
theorem g_iadd (X : Stand p l e R s m args below meth c T locs cells slots) (hx : p.tables.exec = Jvm.exec) {x y : Int32} (hd : decode c.code pc = .ok (.iadd, 1))  (hp : pc + 1 = pc') (k : Goes p e below K T (mkF m pc' Ls (.int (x + y) :: st))) : Goes p e below K T (mkF m pc Ls (.int y :: .int x :: st)) := by subst hp; exact Goes.by' (fun _ q => XS.iadd X.here hx rfl hd rfl q) k
theorem g_isub (X : Stand p l e R s m args below meth c T locs cells slots) (hx : p.tables.exec = Jvm.exec) {x y : Int32} (hd : decode c.code pc = .ok (.isub, 1))  (hp : pc + 1 = pc') (k : Goes p e below K T (mkF m pc' Ls (.int (x - y) :: st))) : Goes p e below K T (mkF m pc Ls (.int y :: .int x :: st)) := by subst hp; exact Goes.by' (fun _ q => XS.isub X.here hx rfl hd rfl q) k
theorem g_iand (X : Stand p l e R s m args below meth c T locs cells slots) (hx : p.tables.exec = Jvm.exec) {x y : Int32} (hd : decode c.code pc = .ok (.iand, 1))  (hp : pc + 1 = pc') (k : Goes p e below K T (mkF m pc' Ls (.int (x &&& y) :: st))) : Goes p e below K T (mkF m pc Ls (.int y :: .int x :: st)) := by subst hp; exact Goes.by' (fun _ q => XS.iand X.here hx rfl hd rfl q) k
theorem g_imul (X : Stand p l e R s m args below meth c T locs cells slots) (hx : p.tables.exec = Jvm.exec) {x y : Int32} (hd : decode c.code pc = .ok (.imul, 1))  (hp : pc + 1 = pc') (k : Goes p e below K T (mkF m pc' Ls (.int (x * y) :: st))) : Goes p e below K T (mkF m pc Ls (.int y :: .int x :: st)) := by subst hp; exact Goes.by' (fun _ q => XS.imul X.here hx rfl hd rfl q) k
theorem g_ixor (X : Stand p l e R s m args below meth c T locs cells slots) (hx : p.tables.exec = Jvm.exec) {x y : Int32} (hd : decode c.code pc = .ok (.ixor, 1))  (hp : pc + 1 = pc') (k : Goes p e below K T (mkF m pc' Ls (.int (x ^^^ y) :: st))) : Goes p e below K T (mkF m pc Ls (.int y :: .int x :: st)) := by subst hp; exact Goes.by' (fun _ q => XT.ixor X.here hx rfl hd rfl q) k
theorem g_ior (X : Stand p l e R s m args below meth c T locs cells slots) (hx : p.tables.exec = Jvm.exec) {x y : Int32} (hd : decode c.code pc = .ok (.ior, 1))  (hp : pc + 1 = pc') (k : Goes p e below K T (mkF m pc' Ls (.int (x ||| y) :: st))) : Goes p e below K T (mkF m pc Ls (.int y :: .int x :: st)) := by subst hp; exact Goes.by' (fun _ q => XT.ior X.here hx rfl hd rfl q) k
theorem g_idiv (X : Stand p l e R s m args below meth c T locs cells slots) (hx : p.tables.exec = Jvm.exec) {x y : Int32} (hd : decode c.code pc = .ok (.idiv, 1)) (hy : y ≠ 0) (hp : pc + 1 = pc') (k : Goes p e below K T (mkF m pc' Ls (.int (x / y) :: st))) : Goes p e below K T (mkF m pc Ls (.int y :: .int x :: st)) := by subst hp; exact Goes.by' (fun _ q => XS.idiv X.here hx rfl hd rfl hy q) k
theorem g_irem (X : Stand p l e R s m args below meth c T locs cells slots) (hx : p.tables.exec = Jvm.exec) {x y : Int32} (hd : decode c.code pc = .ok (.irem, 1)) (hy : y ≠ 0) (hp : pc + 1 = pc') (k : Goes p e below K T (mkF m pc' Ls (.int (x % y) :: st))) : Goes p e below K T (mkF m pc Ls (.int y :: .int x :: st)) := by subst hp; exact Goes.by' (fun _ q => iremM X hx rfl hd rfl hy q) k
theorem g_ineg (X : Stand p l e R s m args below meth c T locs cells slots) (hx : p.tables.exec = Jvm.exec) {x : Int32} (hd : decode c.code pc = .ok (.ineg, 1))  (hp : pc + 1 = pc') (k : Goes p e below K T (mkF m pc' Ls (.int (-x) :: st))) : Goes p e below K T (mkF m pc Ls (.int x :: st)) := by subst hp; exact Goes.by' (fun _ q => XS.ineg X.here hx rfl hd rfl q) k
theorem g_ishl (X : Stand p l e R s m args below meth c T locs cells slots) (hx : p.tables.exec = Jvm.exec) {x y : Int32} (hd : decode c.code pc = .ok (.ishl, 1))  (hp : pc + 1 = pc') (k : Goes p e below K T (mkF m pc' Ls (.int (x <<< (y &&& 31)) :: st))) : Goes p e below K T (mkF m pc Ls (.int y :: .int x :: st)) := by subst hp; exact Goes.by' (fun _ q => XT.ishl X.here hx rfl hd rfl q) k
theorem g_ishr (X : Stand p l e R s m args below meth c T locs cells slots) (hx : p.tables.exec = Jvm.exec) {x y : Int32} (hd : decode c.code pc = .ok (.ishr, 1))  (hp : pc + 1 = pc') (k : Goes p e below K T (mkF m pc' Ls (.int (x >>> (y &&& 31)) :: st))) : Goes p e below K T (mkF m pc Ls (.int y :: .int x :: st)) := by subst hp; exact Goes.by' (fun _ q => XT.ishr X.here hx rfl hd rfl q) k
theorem g_iushr (X : Stand p l e R s m args below meth c T locs cells slots) (hx : p.tables.exec = Jvm.exec) {x y : Int32} (hd : decode c.code pc = .ok (.iushr, 1))  (hp : pc + 1 = pc') (k : Goes p e below K T (mkF m pc' Ls (.int (XT.ushr x y) :: st))) : Goes p e below K T (mkF m pc Ls (.int y :: .int x :: st)) := by subst hp; exact Goes.by' (fun _ q => XT.iushr X.here hx rfl hd rfl q) k
theorem g_ladd (X : Stand p l e R s m args below meth c T locs cells slots) (hx : p.tables.exec = Jvm.exec) {x y : Int64} (hd : decode c.code pc = .ok (.ladd, 1))  (hp : pc + 1 = pc') (k : Goes p e below K T (mkF m pc' Ls (.long (x + y) :: st))) : Goes p e below K T (mkF m pc Ls (.long y :: .long x :: st)) := by subst hp; exact Goes.by' (fun _ q => XT.ladd X.here hx rfl hd rfl q) k
theorem g_lsub (X : Stand p l e R s m args below meth c T locs cells slots) (hx : p.tables.exec = Jvm.exec) {x y : Int64} (hd : decode c.code pc = .ok (.lsub, 1))  (hp : pc + 1 = pc') (k : Goes p e below K T (mkF m pc' Ls (.long (x - y) :: st))) : Goes p e below K T (mkF m pc Ls (.long y :: .long x :: st)) := by subst hp; exact Goes.by' (fun _ q => XT.lsub X.here hx rfl hd rfl q) k
theorem g_lmul (X : Stand p l e R s m args below meth c T locs cells slots) (hx : p.tables.exec = Jvm.exec) {x y : Int64} (hd : decode c.code pc = .ok (.lmul, 1))  (hp : pc + 1 = pc') (k : Goes p e below K T (mkF m pc' Ls (.long (x * y) :: st))) : Goes p e below K T (mkF m pc Ls (.long y :: .long x :: st)) := by subst hp; exact Goes.by' (fun _ q => XT.lmul X.here hx rfl hd rfl q) k
theorem g_land (X : Stand p l e R s m args below meth c T locs cells slots) (hx : p.tables.exec = Jvm.exec) {x y : Int64} (hd : decode c.code pc = .ok (.land, 1))  (hp : pc + 1 = pc') (k : Goes p e below K T (mkF m pc' Ls (.long (x &&& y) :: st))) : Goes p e below K T (mkF m pc Ls (.long y :: .long x :: st)) := by subst hp; exact Goes.by' (fun _ q => XT.land X.here hx rfl hd rfl q) k
theorem g_lor (X : Stand p l e R s m args below meth c T locs cells slots) (hx : p.tables.exec = Jvm.exec) {x y : Int64} (hd : decode c.code pc = .ok (.lor, 1))  (hp : pc + 1 = pc') (k : Goes p e below K T (mkF m pc' Ls (.long (x ||| y) :: st))) : Goes p e below K T (mkF m pc Ls (.long y :: .long x :: st)) := by subst hp; exact Goes.by' (fun _ q => XT.lor X.here hx rfl hd rfl q) k
theorem g_lxor (X : Stand p l e R s m args below meth c T locs cells slots) (hx : p.tables.exec = Jvm.exec) {x y : Int64} (hd : decode c.code pc = .ok (.lxor, 1))  (hp : pc + 1 = pc') (k : Goes p e below K T (mkF m pc' Ls (.long (x ^^^ y) :: st))) : Goes p e below K T (mkF m pc Ls (.long y :: .long x :: st)) := by subst hp; exact Goes.by' (fun _ q => XT.lxor X.here hx rfl hd rfl q) k
theorem g_ldiv (X : Stand p l e R s m args below meth c T locs cells slots) (hx : p.tables.exec = Jvm.exec) {x y : Int64} (hd : decode c.code pc = .ok (.ldiv, 1)) (hy : y ≠ 0) (hp : pc + 1 = pc') (k : Goes p e below K T (mkF m pc' Ls (.long (x / y) :: st))) : Goes p e below K T (mkF m pc Ls (.long y :: .long x :: st)) := by subst hp; exact Goes.by' (fun _ q => XT.ldiv X.here hx rfl hd rfl hy q) k
theorem g_lrem (X : Stand p l e R s m args below meth c T locs cells slots) (hx : p.tables.exec = Jvm.exec) {x y : Int64} (hd : decode c.code pc = .ok (.lrem, 1)) (hy : y ≠ 0) (hp : pc + 1 = pc') (k : Goes p e below K T (mkF m pc' Ls (.long (x % y) :: st))) : Goes p e below K T (mkF m pc Ls (.long y :: .long x :: st)) := by subst hp; exact Goes.by' (fun _ q => XT.lrem X.here hx rfl hd rfl hy (by rw [lrem_mod]; exact q)) k
theorem g_lneg (X : Stand p l e R s m args below meth c T locs cells slots) (hx : p.tables.exec = Jvm.exec) {x : Int64} (hd : decode c.code pc = .ok (.lneg, 1))  (hp : pc + 1 = pc') (k : Goes p e below K T (mkF m pc' Ls (.long (-x) :: st))) : Goes p e below K T (mkF m pc Ls (.long x :: st)) := by subst hp; exact Goes.by' (fun _ q => XT.lneg X.here hx rfl hd rfl q) k
theorem g_lshl (X : Stand p l e R s m args below meth c T locs cells slots) (hx : p.tables.exec = Jvm.exec) {x : Int64} {y : Int32} (hd : decode c.code pc = .ok (.lshl, 1))  (hp : pc + 1 = pc') (k : Goes p e below K T (mkF m pc' Ls (.long (x <<< (y.toInt64 &&& 63)) :: st))) : Goes p e below K T (mkF m pc Ls (.int y :: .long x :: st)) := by subst hp; exact Goes.by' (fun _ q => XT.lshl X.here hx rfl hd rfl q) k
theorem g_lshr (X : Stand p l e R s m args below meth c T locs cells slots) (hx : p.tables.exec = Jvm.exec) {x : Int64} {y : Int32} (hd : decode c.code pc = .ok (.lshr, 1))  (hp : pc + 1 = pc') (k : Goes p e below K T (mkF m pc' Ls (.long (x >>> (y.toInt64 &&& 63)) :: st))) : Goes p e below K T (mkF m pc Ls (.int y :: .long x :: st)) := by subst hp; exact Goes.by' (fun _ q => XT.lshr X.here hx rfl hd rfl q) k
theorem g_lushr (X : Stand p l e R s m args below meth c T locs cells slots) (hx : p.tables.exec = Jvm.exec) {x : Int64} {y : Int32} (hd : decode c.code pc = .ok (.lushr, 1))  (hp : pc + 1 = pc') (k : Goes p e below K T (mkF m pc' Ls (.long (XT.ushrL x y) :: st))) : Goes p e below K T (mkF m pc Ls (.int y :: .long x :: st)) := by subst hp; exact Goes.by' (fun _ q => XT.lushr X.here hx rfl hd rfl q) k
theorem g_lcmp (X : Stand p l e R s m args below meth c T locs cells slots) (hx : p.tables.exec = Jvm.exec) {x y : Int64} (hd : decode c.code pc = .ok (.lcmp, 1))  (hp : pc + 1 = pc') (k : Goes p e below K T (mkF m pc' Ls (.int (XT.cmpL x y) :: st))) : Goes p e below K T (mkF m pc Ls (.long y :: .long x :: st)) := by subst hp; exact Goes.by' (fun _ q => XT.lcmp X.here hx rfl hd rfl q) k
theorem g_i2l (X : Stand p l e R s m args below meth c T locs cells slots) (hx : p.tables.exec = Jvm.exec) {x : Int32} (hd : decode c.code pc = .ok (.i2l, 1))  (hp : pc + 1 = pc') (k : Goes p e below K T (mkF m pc' Ls (.long x.toInt64 :: st))) : Goes p e below K T (mkF m pc Ls (.int x :: st)) := by subst hp; exact Goes.by' (fun _ q => XT.i2l X.here hx rfl hd rfl q) k
theorem g_l2i (X : Stand p l e R s m args below meth c T locs cells slots) (hx : p.tables.exec = Jvm.exec) {x : Int64} (hd : decode c.code pc = .ok (.l2i, 1))  (hp : pc + 1 = pc') (k : Goes p e below K T (mkF m pc' Ls (.int x.toInt32 :: st))) : Goes p e below K T (mkF m pc Ls (.long x :: st)) := by subst hp; exact Goes.by' (fun _ q => XT.l2i X.here hx rfl hd rfl q) k
theorem g_i2b (X : Stand p l e R s m args below meth c T locs cells slots) (hx : p.tables.exec = Jvm.exec) {x : Int32} (hd : decode c.code pc = .ok (.i2b, 1))  (hp : pc + 1 = pc') (k : Goes p e below K T (mkF m pc' Ls (.int x.toInt8.toInt32 :: st))) : Goes p e below K T (mkF m pc Ls (.int x :: st)) := by subst hp; exact Goes.by' (fun _ q => XT.i2b X.here hx rfl hd rfl q) k
theorem g_i2c (X : Stand p l e R s m args below meth c T locs cells slots) (hx : p.tables.exec = Jvm.exec) {x : Int32} (hd : decode c.code pc = .ok (.i2c, 1))  (hp : pc + 1 = pc') (k : Goes p e below K T (mkF m pc' Ls (.int x.toUInt32.toUInt16.toUInt32.toInt32 :: st))) : Goes p e below K T (mkF m pc Ls (.int x :: st)) := by subst hp; exact Goes.by' (fun _ q => XT.i2c X.here hx rfl hd rfl q) k
theorem g_i2s (X : Stand p l e R s m args below meth c T locs cells slots) (hx : p.tables.exec = Jvm.exec) {x : Int32} (hd : decode c.code pc = .ok (.i2s, 1))  (hp : pc + 1 = pc') (k : Goes p e below K T (mkF m pc' Ls (.int x.toInt16.toInt32 :: st))) : Goes p e below K T (mkF m pc Ls (.int x :: st)) := by subst hp; exact Goes.by' (fun _ q => XT.i2s X.here hx rfl hd rfl q) k
theorem g_aload_n (X : Stand p l e R s m args below meth c T locs cells slots) (hx : p.tables.exec = Jvm.exec) {i : Fin 4} {v : Value} (hd : decode c.code pc = .ok (.aload_n i, 1)) (hl : Ls[i.val]? = some (.val v)) (hv : v.isRef = true) (hp : pc + 1 = pc') (k : Goes p e below K T (mkF m pc' Ls (v :: st))) : Goes p e below K T (mkF m pc Ls (st)) := by subst hp; exact Goes.by' (fun _ q => XS.aloadN X.here hx rfl hd hl hv q) k
theorem g_aload (X : Stand p l e R s m args below meth c T locs cells slots) (hx : p.tables.exec = Jvm.exec) {i : Nat} {v : Value} (hd : decode c.code pc = .ok (.aload i, 2)) (hl : Ls[i]? = some (.val v)) (hv : v.isRef = true) (hp : pc + 2 = pc') (k : Goes p e below K T (mkF m pc' Ls (v :: st))) : Goes p e below K T (mkF m pc Ls (st)) := by subst hp; exact Goes.by' (fun _ q => XS.aload X.here hx rfl hd hl hv q) k
theorem g_iload_n (X : Stand p l e R s m args below meth c T locs cells slots) (hx : p.tables.exec = Jvm.exec) {i : Fin 4} {v : Int32} (hd : decode c.code pc = .ok (.iload_n i, 1)) (hl : Ls[i.val]? = some (.val (.int v))) (hp : pc + 1 = pc') (k : Goes p e below K T (mkF m pc' Ls (.int v :: st))) : Goes p e below K T (mkF m pc Ls (st)) := by subst hp; exact Goes.by' (fun _ q => XS.iloadN X.here hx rfl hd hl q) k
theorem g_iload (X : Stand p l e R s m args below meth c T locs cells slots) (hx : p.tables.exec = Jvm.exec) {i : Nat} {v : Int32} (hd : decode c.code pc = .ok (.iload i, 2)) (hl : Ls[i]? = some (.val (.int v))) (hp : pc + 2 = pc') (k : Goes p e below K T (mkF m pc' Ls (.int v :: st))) : Goes p e below K T (mkF m pc Ls (st)) := by subst hp; exact Goes.by' (fun _ q => XS.iload X.here hx rfl hd hl q) k
theorem g_lload_n (X : Stand p l e R s m args below meth c T locs cells slots) (hx : p.tables.exec = Jvm.exec) {i : Fin 4} {v : Int64} (hd : decode c.code pc = .ok (.lload_n i, 1)) (hl : Ls[i.val]? = some (.val (.long v))) (hp : pc + 1 = pc') (k : Goes p e below K T (mkF m pc' Ls (.long v :: st))) : Goes p e below K T (mkF m pc Ls (st)) := by subst hp; exact Goes.by' (fun _ q => XT.lloadN X.here hx rfl hd hl q) k
theorem g_lload (X : Stand p l e R s m args below meth c T locs cells slots) (hx : p.tables.exec = Jvm.exec) {i : Nat} {v : Int64} (hd : decode c.code pc = .ok (.lload i, 2)) (hl : Ls[i]? = some (.val (.long v))) (hp : pc + 2 = pc') (k : Goes p e below K T (mkF m pc' Ls (.long v :: st))) : Goes p e below K T (mkF m pc Ls (st)) := by subst hp; exact Goes.by' (fun _ q => XT.lload X.here hx rfl hd hl q) k
theorem g_iconst (X : Stand p l e R s m args below meth c T locs cells slots) (hx : p.tables.exec = Jvm.exec) {i : Int} {v : Int32} (hd : decode c.code pc = .ok (.iconst i, 1)) (hv : v = Int32.ofInt i) (hp : pc + 1 = pc') (k : Goes p e below K T (mkF m pc' Ls (.int v :: st))) : Goes p e below K T (mkF m pc Ls (st)) := by subst hp; exact Goes.by' (fun _ q => XS.iconst X.here hx rfl hd (hv ▸ q)) k
theorem g_bipush (X : Stand p l e R s m args below meth c T locs cells slots) (hx : p.tables.exec = Jvm.exec) {i : Int} {v : Int32} (hd : decode c.code pc = .ok (.bipush i, 2)) (hv : v = (Int8.ofInt i).toInt32) (hp : pc + 2 = pc') (k : Goes p e below K T (mkF m pc' Ls (.int v :: st))) : Goes p e below K T (mkF m pc Ls (st)) := by subst hp; exact Goes.by' (fun _ q => XS.bipush X.here hx rfl hd (hv ▸ q)) k
theorem g_sipush (X : Stand p l e R s m args below meth c T locs cells slots) (hx : p.tables.exec = Jvm.exec) {i : Int} {v : Int32} (hd : decode c.code pc = .ok (.sipush i, 3)) (hv : v = (Int16.ofInt i).toInt32) (hp : pc + 3 = pc') (k : Goes p e below K T (mkF m pc' Ls (.int v :: st))) : Goes p e below K T (mkF m pc Ls (st)) := by subst hp; exact Goes.by' (fun _ q => XS.sipush X.here hx rfl hd (hv ▸ q)) k
theorem g_lconst (X : Stand p l e R s m args below meth c T locs cells slots) (hx : p.tables.exec = Jvm.exec) {i : Fin 2} {v : Int64} (hd : decode c.code pc = .ok (.lconst i, 1)) (hv : v = Int64.ofNat i) (hp : pc + 1 = pc') (k : Goes p e below K T (mkF m pc' Ls (.long v :: st))) : Goes p e below K T (mkF m pc Ls (st)) := by subst hp; exact Goes.by' (fun _ q => XT.lconst X.here hx rfl hd (hv ▸ q)) k
theorem g_aconst_null (X : Stand p l e R s m args below meth c T locs cells slots) (hx : p.tables.exec = Jvm.exec)  (hd : decode c.code pc = .ok (.aconst_null, 1))  (hp : pc + 1 = pc') (k : Goes p e below K T (mkF m pc' Ls (.null :: st))) : Goes p e below K T (mkF m pc Ls (st)) := by subst hp; exact Goes.by' (fun _ q => XS.aconstNull X.here hx rfl hd q) k
theorem g_dup (X : Stand p l e R s m args below meth c T locs cells slots) (hx : p.tables.exec = Jvm.exec) {x : Value} (hd : decode c.code pc = .ok (.dup, 1)) (hc : x.category = 1) (hp : pc + 1 = pc') (k : Goes p e below K T (mkF m pc' Ls (x :: x :: st))) : Goes p e below K T (mkF m pc Ls (x :: st)) := by subst hp; exact Goes.by' (fun _ q => XS.dup X.here hx rfl hd rfl hc q) k
theorem g_pop (X : Stand p l e R s m args below meth c T locs cells slots) (hx : p.tables.exec = Jvm.exec) {x : Value} (hd : decode c.code pc = .ok (.pop, 1)) (hc : x.category = 1) (hp : pc + 1 = pc') (k : Goes p e below K T (mkF m pc' Ls (st))) : Goes p e below K T (mkF m pc Ls (x :: st)) := by subst hp; exact Goes.by' (fun _ q => XT.pop X.here hx rfl hd rfl hc q) k
theorem g_dup_x1 (X : Stand p l e R s m args below meth c T locs cells slots) (hx : p.tables.exec = Jvm.exec) {x y : Value} (hd : decode c.code pc = .ok (.dup_x1, 1)) (hc : x.category = 1) (hc' : y.category = 1) (hp : pc + 1 = pc') (k : Goes p e below K T (mkF m pc' Ls (x :: y :: x :: st))) : Goes p e below K T (mkF m pc Ls (x :: y :: st)) := by subst hp; exact Goes.by' (fun _ q => XT.dupX1 X.here hx rfl hd rfl hc hc' q) k
theorem g_dup2 (X : Stand p l e R s m args below meth c T locs cells slots) (hx : p.tables.exec = Jvm.exec) {x y : Value} (hd : decode c.code pc = .ok (.dup2, 1)) (hc : x.category = 1) (hc' : y.category = 1) (hp : pc + 1 = pc') (k : Goes p e below K T (mkF m pc' Ls (x :: y :: x :: y :: st))) : Goes p e below K T (mkF m pc Ls (x :: y :: st)) := by subst hp; exact Goes.by' (fun _ q => XT.dup2 X.here hx rfl hd rfl hc hc' q) k
theorem g_dup2L (X : Stand p l e R s m args below meth c T locs cells slots) (hx : p.tables.exec = Jvm.exec) {x : Int64} (hd : decode c.code pc = .ok (.dup2, 1))  (hp : pc + 1 = pc') (k : Goes p e below K T (mkF m pc' Ls (.long x :: .long x :: st))) : Goes p e below K T (mkF m pc Ls (.long x :: st)) := by subst hp; exact Goes.by' (fun _ q => XT.dup2L X.here hx rfl hd rfl q) k
theorem g_istore_n (X : Stand p l e R s m args below meth c T locs cells slots) (hx : p.tables.exec = Jvm.exec) {i : Fin 4} {x : Int32} (l' : Array Slot) (hd : decode c.code pc = .ok (.istore_n i, 1)) (hl : storeLocals Ls i.val (.int x) = some l') (hp : pc + 1 = pc') (k : Goes p e below K T (mkF m pc' l' (st))) : Goes p e below K T (mkF m pc Ls (.int x :: st)) := by subst hp; exact Goes.by' (fun _ q => XS.istoreN X.here hx rfl hd rfl hl q) k
theorem g_istore (X : Stand p l e R s m args below meth c T locs cells slots) (hx : p.tables.exec = Jvm.exec) {i : Nat} {x : Int32} (l' : Array Slot) (hd : decode c.code pc = .ok (.istore i, 2)) (hl : storeLocals Ls i (.int x) = some l') (hp : pc + 2 = pc') (k : Goes p e below K T (mkF m pc' l' (st))) : Goes p e below K T (mkF m pc Ls (.int x :: st)) := by subst hp; exact Goes.by' (fun _ q => XS.istore X.here hx rfl hd rfl hl q) k
theorem g_lstore_n (X : Stand p l e R s m args below meth c T locs cells slots) (hx : p.tables.exec = Jvm.exec) {i : Fin 4} {x : Int64} (l' : Array Slot) (hd : decode c.code pc = .ok (.lstore_n i, 1)) (hl : storeLocals Ls i.val (.long x) = some l') (hp : pc + 1 = pc') (k : Goes p e below K T (mkF m pc' l' (st))) : Goes p e below K T (mkF m pc Ls (.long x :: st)) := by subst hp; exact Goes.by' (fun _ q => XT.lstoreN X.here hx rfl hd rfl hl q) k
theorem g_lstore (X : Stand p l e R s m args below meth c T locs cells slots) (hx : p.tables.exec = Jvm.exec) {i : Nat} {x : Int64} (l' : Array Slot) (hd : decode c.code pc = .ok (.lstore i, 2)) (hl : storeLocals Ls i (.long x) = some l') (hp : pc + 2 = pc') (k : Goes p e below K T (mkF m pc' l' (st))) : Goes p e below K T (mkF m pc Ls (.long x :: st)) := by subst hp; exact Goes.by' (fun _ q => XT.lstore X.here hx rfl hd rfl hl q) k
theorem g_astore_n (X : Stand p l e R s m args below meth c T locs cells slots) (hx : p.tables.exec = Jvm.exec) {i : Fin 4} {x : Value} (l' : Array Slot) (hd : decode c.code pc = .ok (.astore_n i, 1)) (hv : x.isRef = true) (hl : storeLocals Ls i.val x = some l') (hp : pc + 1 = pc') (k : Goes p e below K T (mkF m pc' l' (st))) : Goes p e below K T (mkF m pc Ls (x :: st)) := by subst hp; exact Goes.by' (fun _ q => XS.astoreN X.here hx rfl hd rfl hv hl q) k
theorem g_astore (X : Stand p l e R s m args below meth c T locs cells slots) (hx : p.tables.exec = Jvm.exec) {i : Nat} {x : Value} (l' : Array Slot) (hd : decode c.code pc = .ok (.astore i, 2)) (hv : x.isRef = true) (hl : storeLocals Ls i x = some l') (hp : pc + 2 = pc') (k : Goes p e below K T (mkF m pc' l' (st))) : Goes p e below K T (mkF m pc Ls (x :: st)) := by subst hp; exact Goes.by' (fun _ q => XS.astore X.here hx rfl hd rfl hv hl q) k
theorem g_iinc (X : Stand p l e R s m args below meth c T locs cells slots) (hx : p.tables.exec = Jvm.exec) {i : Nat} {cst : Int} {x y : Int32} (l' : Array Slot) (hd : decode c.code pc = .ok (.iinc i cst, 3)) (hl : Ls[i]? = some (.val (.int x))) (hy : y = x + Int32.ofInt cst) (hl' : storeLocals Ls i (.int y) = some l') (hp : pc + 3 = pc') (k : Goes p e below K T (mkF m pc' l' (st))) : Goes p e below K T (mkF m pc Ls (st)) := by subst hp; exact Goes.by' (fun _ q => XS.iinc X.here hx rfl hd hl (hy ▸ hl') q) k
theorem g_ldcI (X : Stand p l e R s m args below meth c T locs cells slots) (hx : p.tables.exec = Jvm.exec) (hZ : Z.Warmed39 s.vm) {own : String} {ix : Nat} {v : Int32} (hown : s.vm.findClass own = some m.cls) (w : (Cond.constant own ix v).before a0 Z = true) (hd : decode c.code pc = .ok (.ldc ix, 2)) (hp : pc + 2 = pc') (k : Goes p e below K T (mkF m pc' Ls (.int v :: st))) : Goes p e below K T (mkF m pc Ls st) := by subst hp; exact Goes.by' (fun _ q => X.ldcI hx hown (mvT hZ w) rfl hd q) k
theorem g_ldcWI (X : Stand p l e R s m args below meth c T locs cells slots) (hx : p.tables.exec = Jvm.exec) (hZ : Z.Warmed39 s.vm) {own : String} {ix : Nat} {v : Int32} (hown : s.vm.findClass own = some m.cls) (w : (Cond.constant own ix v).before a0 Z = true) (hd : decode c.code pc = .ok (.ldc_w ix, 3)) (hp : pc + 3 = pc') (k : Goes p e below K T (mkF m pc' Ls (.int v :: st))) : Goes p e below K T (mkF m pc Ls st) := by subst hp; exact Goes.by' (fun _ q => X.ldcWI hx hown (mvT hZ w) rfl hd q) k
theorem g_ldc2J (X : Stand p l e R s m args below meth c T locs cells slots) (hx : p.tables.exec = Jvm.exec) (hZ : Z.Warmed39 s.vm) {own : String} {ix : Nat} {v : Int64} (hown : s.vm.findClass own = some m.cls) (w : (Cond.constantLong own ix v).before a0 Z = true) (hd : decode c.code pc = .ok (.ldc2_w ix, 3)) (hp : pc + 3 = pc') (k : Goes p e below K T (mkF m pc' Ls (.long v :: st))) : Goes p e below K T (mkF m pc Ls st) := by subst hp; exact Goes.by' (fun _ q => X.ldc2J hx hown (mvT hZ w) rfl hd q) k
theorem g_goto (X : Stand p l e R s m args below meth c T locs cells slots) (hx : p.tables.exec = Jvm.exec) {o : Int} (hd : decode c.code pc = .ok (.goto o, 3)) (ho : 0 ≤ (pc : Int) + o) (hp : ((pc : Int) + o).toNat = pc') (k : Goes p e below K T (mkF m pc' Ls st)) : Goes p e below K T (mkF m pc Ls st) := Goes.by' (fun _ q => XS.goto X.here hx rfl (pc0 := pc) (pc' := pc') rfl hd ho hp q) k
theorem icmp_iff (cd : ClassFile.Cond) (x y : Int32) : if_icmp.holds cd x y = true ↔ (match cd with | .eq => x = y | .ne => ¬ x = y | .lt => x < y | .ge => ¬ x < y | .gt => y < x | .le => ¬ y < x) := by cases cd <;> simp [if_icmp.holds, Int32.not_lt, Int32.not_le]
theorem g_icmp_eq (X : Stand p l e R s m args below meth c T locs cells slots) (hx : p.tables.exec = Jvm.exec) {x y : Int32} {o : Int} {pt : Nat} (hd : decode c.code pc = .ok (.if_icmp .eq o, 3)) (ho : 0 ≤ (pc : Int) + o) (hp : ((pc : Int) + o).toNat = pt) (hp' : pc + 3 = pc') (kt : x = y → Goes p e below K T (mkF m pt Ls st)) (kf : ¬ x = y → Goes p e below K T (mkF m pc' Ls st)) : Goes p e below K T (mkF m pc Ls (.int y :: .int x :: st)) := by
  subst hp'
  by_cases q : if_icmp.holds .eq x y = true
  · exact Goes.by' (fun _ r => XS.icmpYes X.here hx rfl (pc0 := pc) (pc' := pt) rfl hd rfl q ho hp r) (kt ((icmp_iff .eq x y).mp q))
  · exact Goes.by' (fun _ r => XS.icmpNo X.here hx rfl hd rfl (by simpa using q) r) (kf (id (mt (icmp_iff .eq x y).mpr q)))
theorem g_if_eq (X : Stand p l e R s m args below meth c T locs cells slots) (hx : p.tables.exec = Jvm.exec) {x : Int32} {o : Int} {pt : Nat} (hd : decode c.code pc = .ok (.ifCond .eq o, 3)) (ho : 0 ≤ (pc : Int) + o) (hp : ((pc : Int) + o).toNat = pt) (hp' : pc + 3 = pc') (kt : x = 0 → Goes p e below K T (mkF m pt Ls st)) (kf : ¬ x = 0 → Goes p e below K T (mkF m pc' Ls st)) : Goes p e below K T (mkF m pc Ls (.int x :: st)) := by
  subst hp'
  by_cases q : if_icmp.holds .eq x 0 = true
  · exact Goes.by' (fun _ r => XS.ifYes X.here hx rfl (pc0 := pc) (pc' := pt) rfl hd rfl (by rw [if0]; exact q) ho hp r) (kt ((icmp_iff .eq x 0).mp q))
  · exact Goes.by' (fun _ r => XS.ifNo X.here hx rfl hd rfl (by rw [if0]; simpa using q) r) (kf (id (mt (icmp_iff .eq x 0).mpr q)))
theorem g_icmp_ne (X : Stand p l e R s m args below meth c T locs cells slots) (hx : p.tables.exec = Jvm.exec) {x y : Int32} {o : Int} {pt : Nat} (hd : decode c.code pc = .ok (.if_icmp .ne o, 3)) (ho : 0 ≤ (pc : Int) + o) (hp : ((pc : Int) + o).toNat = pt) (hp' : pc + 3 = pc') (kt : ¬ x = y → Goes p e below K T (mkF m pt Ls st)) (kf : x = y → Goes p e below K T (mkF m pc' Ls st)) : Goes p e below K T (mkF m pc Ls (.int y :: .int x :: st)) := by
  subst hp'
  by_cases q : if_icmp.holds .ne x y = true
  · exact Goes.by' (fun _ r => XS.icmpYes X.here hx rfl (pc0 := pc) (pc' := pt) rfl hd rfl q ho hp r) (kt ((icmp_iff .ne x y).mp q))
  · exact Goes.by' (fun _ r => XS.icmpNo X.here hx rfl hd rfl (by simpa using q) r) (kf (Classical.not_not.mp (mt (icmp_iff .ne x y).mpr q)))
theorem g_if_ne (X : Stand p l e R s m args below meth c T locs cells slots) (hx : p.tables.exec = Jvm.exec) {x : Int32} {o : Int} {pt : Nat} (hd : decode c.code pc = .ok (.ifCond .ne o, 3)) (ho : 0 ≤ (pc : Int) + o) (hp : ((pc : Int) + o).toNat = pt) (hp' : pc + 3 = pc') (kt : ¬ x = 0 → Goes p e below K T (mkF m pt Ls st)) (kf : x = 0 → Goes p e below K T (mkF m pc' Ls st)) : Goes p e below K T (mkF m pc Ls (.int x :: st)) := by
  subst hp'
  by_cases q : if_icmp.holds .ne x 0 = true
  · exact Goes.by' (fun _ r => XS.ifYes X.here hx rfl (pc0 := pc) (pc' := pt) rfl hd rfl (by rw [if0]; exact q) ho hp r) (kt ((icmp_iff .ne x 0).mp q))
  · exact Goes.by' (fun _ r => XS.ifNo X.here hx rfl hd rfl (by rw [if0]; simpa using q) r) (kf (Classical.not_not.mp (mt (icmp_iff .ne x 0).mpr q)))
theorem g_icmp_lt (X : Stand p l e R s m args below meth c T locs cells slots) (hx : p.tables.exec = Jvm.exec) {x y : Int32} {o : Int} {pt : Nat} (hd : decode c.code pc = .ok (.if_icmp .lt o, 3)) (ho : 0 ≤ (pc : Int) + o) (hp : ((pc : Int) + o).toNat = pt) (hp' : pc + 3 = pc') (kt : x < y → Goes p e below K T (mkF m pt Ls st)) (kf : ¬ x < y → Goes p e below K T (mkF m pc' Ls st)) : Goes p e below K T (mkF m pc Ls (.int y :: .int x :: st)) := by
  subst hp'
  by_cases q : if_icmp.holds .lt x y = true
  · exact Goes.by' (fun _ r => XS.icmpYes X.here hx rfl (pc0 := pc) (pc' := pt) rfl hd rfl q ho hp r) (kt ((icmp_iff .lt x y).mp q))
  · exact Goes.by' (fun _ r => XS.icmpNo X.here hx rfl hd rfl (by simpa using q) r) (kf (id (mt (icmp_iff .lt x y).mpr q)))
theorem g_if_lt (X : Stand p l e R s m args below meth c T locs cells slots) (hx : p.tables.exec = Jvm.exec) {x : Int32} {o : Int} {pt : Nat} (hd : decode c.code pc = .ok (.ifCond .lt o, 3)) (ho : 0 ≤ (pc : Int) + o) (hp : ((pc : Int) + o).toNat = pt) (hp' : pc + 3 = pc') (kt : x < 0 → Goes p e below K T (mkF m pt Ls st)) (kf : ¬ x < 0 → Goes p e below K T (mkF m pc' Ls st)) : Goes p e below K T (mkF m pc Ls (.int x :: st)) := by
  subst hp'
  by_cases q : if_icmp.holds .lt x 0 = true
  · exact Goes.by' (fun _ r => XS.ifYes X.here hx rfl (pc0 := pc) (pc' := pt) rfl hd rfl (by rw [if0]; exact q) ho hp r) (kt ((icmp_iff .lt x 0).mp q))
  · exact Goes.by' (fun _ r => XS.ifNo X.here hx rfl hd rfl (by rw [if0]; simpa using q) r) (kf (id (mt (icmp_iff .lt x 0).mpr q)))
theorem g_icmp_ge (X : Stand p l e R s m args below meth c T locs cells slots) (hx : p.tables.exec = Jvm.exec) {x y : Int32} {o : Int} {pt : Nat} (hd : decode c.code pc = .ok (.if_icmp .ge o, 3)) (ho : 0 ≤ (pc : Int) + o) (hp : ((pc : Int) + o).toNat = pt) (hp' : pc + 3 = pc') (kt : ¬ x < y → Goes p e below K T (mkF m pt Ls st)) (kf : x < y → Goes p e below K T (mkF m pc' Ls st)) : Goes p e below K T (mkF m pc Ls (.int y :: .int x :: st)) := by
  subst hp'
  by_cases q : if_icmp.holds .ge x y = true
  · exact Goes.by' (fun _ r => XS.icmpYes X.here hx rfl (pc0 := pc) (pc' := pt) rfl hd rfl q ho hp r) (kt ((icmp_iff .ge x y).mp q))
  · exact Goes.by' (fun _ r => XS.icmpNo X.here hx rfl hd rfl (by simpa using q) r) (kf (Classical.not_not.mp (mt (icmp_iff .ge x y).mpr q)))
theorem g_if_ge (X : Stand p l e R s m args below meth c T locs cells slots) (hx : p.tables.exec = Jvm.exec) {x : Int32} {o : Int} {pt : Nat} (hd : decode c.code pc = .ok (.ifCond .ge o, 3)) (ho : 0 ≤ (pc : Int) + o) (hp : ((pc : Int) + o).toNat = pt) (hp' : pc + 3 = pc') (kt : ¬ x < 0 → Goes p e below K T (mkF m pt Ls st)) (kf : x < 0 → Goes p e below K T (mkF m pc' Ls st)) : Goes p e below K T (mkF m pc Ls (.int x :: st)) := by
  subst hp'
  by_cases q : if_icmp.holds .ge x 0 = true
  · exact Goes.by' (fun _ r => XS.ifYes X.here hx rfl (pc0 := pc) (pc' := pt) rfl hd rfl (by rw [if0]; exact q) ho hp r) (kt ((icmp_iff .ge x 0).mp q))
  · exact Goes.by' (fun _ r => XS.ifNo X.here hx rfl hd rfl (by rw [if0]; simpa using q) r) (kf (Classical.not_not.mp (mt (icmp_iff .ge x 0).mpr q)))
theorem g_icmp_gt (X : Stand p l e R s m args below meth c T locs cells slots) (hx : p.tables.exec = Jvm.exec) {x y : Int32} {o : Int} {pt : Nat} (hd : decode c.code pc = .ok (.if_icmp .gt o, 3)) (ho : 0 ≤ (pc : Int) + o) (hp : ((pc : Int) + o).toNat = pt) (hp' : pc + 3 = pc') (kt : y < x → Goes p e below K T (mkF m pt Ls st)) (kf : ¬ y < x → Goes p e below K T (mkF m pc' Ls st)) : Goes p e below K T (mkF m pc Ls (.int y :: .int x :: st)) := by
  subst hp'
  by_cases q : if_icmp.holds .gt x y = true
  · exact Goes.by' (fun _ r => XS.icmpYes X.here hx rfl (pc0 := pc) (pc' := pt) rfl hd rfl q ho hp r) (kt ((icmp_iff .gt x y).mp q))
  · exact Goes.by' (fun _ r => XS.icmpNo X.here hx rfl hd rfl (by simpa using q) r) (kf (id (mt (icmp_iff .gt x y).mpr q)))
theorem g_if_gt (X : Stand p l e R s m args below meth c T locs cells slots) (hx : p.tables.exec = Jvm.exec) {x : Int32} {o : Int} {pt : Nat} (hd : decode c.code pc = .ok (.ifCond .gt o, 3)) (ho : 0 ≤ (pc : Int) + o) (hp : ((pc : Int) + o).toNat = pt) (hp' : pc + 3 = pc') (kt : 0 < x → Goes p e below K T (mkF m pt Ls st)) (kf : ¬ 0 < x → Goes p e below K T (mkF m pc' Ls st)) : Goes p e below K T (mkF m pc Ls (.int x :: st)) := by
  subst hp'
  by_cases q : if_icmp.holds .gt x 0 = true
  · exact Goes.by' (fun _ r => XS.ifYes X.here hx rfl (pc0 := pc) (pc' := pt) rfl hd rfl (by rw [if0]; exact q) ho hp r) (kt ((icmp_iff .gt x 0).mp q))
  · exact Goes.by' (fun _ r => XS.ifNo X.here hx rfl hd rfl (by rw [if0]; simpa using q) r) (kf (id (mt (icmp_iff .gt x 0).mpr q)))
theorem g_icmp_le (X : Stand p l e R s m args below meth c T locs cells slots) (hx : p.tables.exec = Jvm.exec) {x y : Int32} {o : Int} {pt : Nat} (hd : decode c.code pc = .ok (.if_icmp .le o, 3)) (ho : 0 ≤ (pc : Int) + o) (hp : ((pc : Int) + o).toNat = pt) (hp' : pc + 3 = pc') (kt : ¬ y < x → Goes p e below K T (mkF m pt Ls st)) (kf : y < x → Goes p e below K T (mkF m pc' Ls st)) : Goes p e below K T (mkF m pc Ls (.int y :: .int x :: st)) := by
  subst hp'
  by_cases q : if_icmp.holds .le x y = true
  · exact Goes.by' (fun _ r => XS.icmpYes X.here hx rfl (pc0 := pc) (pc' := pt) rfl hd rfl q ho hp r) (kt ((icmp_iff .le x y).mp q))
  · exact Goes.by' (fun _ r => XS.icmpNo X.here hx rfl hd rfl (by simpa using q) r) (kf (Classical.not_not.mp (mt (icmp_iff .le x y).mpr q)))
theorem g_if_le (X : Stand p l e R s m args below meth c T locs cells slots) (hx : p.tables.exec = Jvm.exec) {x : Int32} {o : Int} {pt : Nat} (hd : decode c.code pc = .ok (.ifCond .le o, 3)) (ho : 0 ≤ (pc : Int) + o) (hp : ((pc : Int) + o).toNat = pt) (hp' : pc + 3 = pc') (kt : ¬ 0 < x → Goes p e below K T (mkF m pt Ls st)) (kf : 0 < x → Goes p e below K T (mkF m pc' Ls st)) : Goes p e below K T (mkF m pc Ls (.int x :: st)) := by
  subst hp'
  by_cases q : if_icmp.holds .le x 0 = true
  · exact Goes.by' (fun _ r => XS.ifYes X.here hx rfl (pc0 := pc) (pc' := pt) rfl hd rfl (by rw [if0]; exact q) ho hp r) (kt ((icmp_iff .le x 0).mp q))
  · exact Goes.by' (fun _ r => XS.ifNo X.here hx rfl hd rfl (by rw [if0]; simpa using q) r) (kf (Classical.not_not.mp (mt (icmp_iff .le x 0).mpr q)))
theorem g_ifnull_t (X : Stand p l e R s m args below meth c T locs cells slots) (hx : p.tables.exec = Jvm.exec) {o : Int} {pt : Nat} (hd : decode c.code pc = .ok (.ifnull o, 3)) (ho : 0 ≤ (pc : Int) + o) (hp : ((pc : Int) + o).toNat = pt) (k : Goes p e below K T (mkF m pt Ls st)) : Goes p e below K T (mkF m pc Ls (.null :: st)) := Goes.by' (fun _ r => XS.ifnullYes X.here hx rfl (pc0 := pc) (pc' := pt) rfl hd rfl ho hp r) k
theorem g_ifnull_f (X : Stand p l e R s m args below meth c T locs cells slots) (hx : p.tables.exec = Jvm.exec) {o : Int} {a : Addr} (hd : decode c.code pc = .ok (.ifnull o, 3)) (hp : pc + 3 = pc') (k : Goes p e below K T (mkF m pc' Ls st)) : Goes p e below K T (mkF m pc Ls (.ref a :: st)) := by subst hp; exact Goes.by' (fun _ r => XS.ifnullNo X.here hx rfl hd rfl r) k
theorem g_ifnonnull_t (X : Stand p l e R s m args below meth c T locs cells slots) (hx : p.tables.exec = Jvm.exec) {o : Int} {a : Addr} {pt : Nat} (hd : decode c.code pc = .ok (.ifnonnull o, 3)) (ho : 0 ≤ (pc : Int) + o) (hp : ((pc : Int) + o).toNat = pt) (k : Goes p e below K T (mkF m pt Ls st)) : Goes p e below K T (mkF m pc Ls (.ref a :: st)) := Goes.by' (fun _ r => XT.ifnonnullYes X.here hx rfl (pc0 := pc) (pc' := pt) rfl hd rfl ho hp r) k
theorem g_ifnonnull_f (X : Stand p l e R s m args below meth c T locs cells slots) (hx : p.tables.exec = Jvm.exec) {o : Int} (hd : decode c.code pc = .ok (.ifnonnull o, 3)) (hp : pc + 3 = pc') (k : Goes p e below K T (mkF m pc' Ls st)) : Goes p e below K T (mkF m pc Ls (.null :: st)) := by subst hp; exact Goes.by' (fun _ r => XT.ifnonnullNo X.here hx rfl hd rfl r) k
theorem g_acmp_eq (X : Stand p l e R s m args below meth c T locs cells slots) (hx : p.tables.exec = Jvm.exec) {x y : Value} {o : Int} {pt : Nat} (hd : decode c.code pc = .ok (.if_acmp .eq o, 3)) (hx' : x.isRef = true) (hy' : y.isRef = true) (ho : 0 ≤ (pc : Int) + o) (hp : ((pc : Int) + o).toNat = pt) (hp' : pc + 3 = pc') (kt : x = y → Goes p e below K T (mkF m pt Ls st)) (kf : ¬ x = y → Goes p e below K T (mkF m pc' Ls st)) : Goes p e below K T (mkF m pc Ls (y :: x :: st)) := by
  subst hp'
  by_cases q : x = y
  · exact Goes.by' (fun _ r => XT.acmpYes X.here hx rfl (pc0 := pc) (pc' := pt) rfl hd rfl hx' hy' (by simp [XT.acmp, q]) ho hp r) (kt q)
  · exact Goes.by' (fun _ r => XT.acmpNo X.here hx rfl hd rfl hx' hy' (by simp [XT.acmp, q]) r) (kf q)
theorem g_acmp_ne (X : Stand p l e R s m args below meth c T locs cells slots) (hx : p.tables.exec = Jvm.exec) {x y : Value} {o : Int} {pt : Nat} (hd : decode c.code pc = .ok (.if_acmp .ne o, 3)) (hx' : x.isRef = true) (hy' : y.isRef = true) (ho : 0 ≤ (pc : Int) + o) (hp : ((pc : Int) + o).toNat = pt) (hp' : pc + 3 = pc') (kt : ¬ x = y → Goes p e below K T (mkF m pt Ls st)) (kf : x = y → Goes p e below K T (mkF m pc' Ls st)) : Goes p e below K T (mkF m pc Ls (y :: x :: st)) := by
  subst hp'
  by_cases q : x = y
  · exact Goes.by' (fun _ r => XT.acmpNo X.here hx rfl hd rfl hx' hy' (by simp [XT.acmp, q]) r) (kf q)
  · exact Goes.by' (fun _ r => XT.acmpYes X.here hx rfl (pc0 := pc) (pc' := pt) rfl hd rfl hx' hy' (by simp [XT.acmp, q]) ho hp r) (kt q)
theorem g_lsw (X : Stand p l e R s m args below meth c T locs cells slots) (hx : p.tables.exec = Jvm.exec) {i : Int32} {dflt o : Int} {prs : Array (Int × Int)} {len pt : Nat} (hd : decode c.code pc = .ok (.lookupswitch dflt prs, len)) (hso : ∀ (a b a_1 b_1 : Int), ((a, b), a_1, b_1) ∈ prs.toList.zip prs.toList.tail → a < a_1) (hoff : lookupswitch.offset prs.toList dflt i.toInt = o) (ho : 0 ≤ (pc : Int) + o) (hp : ((pc : Int) + o).toNat = pt) (k : Goes p e below K T (mkF m pt Ls st)) : Goes p e below K T (mkF m pc Ls (.int i :: st)) := by
  subst hp
  refine Goes.by' (fun t q => ?_) k
  show Steps p.tables e below (T.setTop { method := m, pc := pc, locals := Ls, stack := .int i :: st, locked := none }) t
  jvm_step X.here [X.here.top, hx, hd, lookupswitch.wp_chain, hoff, ho]
  exact ⟨hso, q⟩
theorem g_tsw (X : Stand p l e R s m args below meth c T locs cells slots) (hx : p.tables.exec = Jvm.exec) {i : Int32} {dflt lo hi o : Int} {offs : Array Int} {len pt : Nat} (hd : decode c.code pc = .ok (.tableswitch dflt lo hi offs, len)) (hin : ¬ (i.toInt < lo ∨ i.toInt > hi)) (hoff : offs[(i.toInt - lo).toNat]? = some o) (ho : 0 ≤ (pc : Int) + o) (hp : ((pc : Int) + o).toNat = pt) (k : Goes p e below K T (mkF m pt Ls st)) : Goes p e below K T (mkF m pc Ls (.int i :: st)) := Goes.by' (fun _ q => XS.tswIn X.here hx rfl (pc0 := pc) (pc' := pt) rfl hd rfl hin hoff ho hp q) k
theorem g_tswD (X : Stand p l e R s m args below meth c T locs cells slots) (hx : p.tables.exec = Jvm.exec) {i : Int32} {dflt lo hi : Int} {offs : Array Int} {len pt : Nat} (hd : decode c.code pc = .ok (.tableswitch dflt lo hi offs, len)) (hout : i.toInt < lo ∨ i.toInt > hi) (ho : 0 ≤ (pc : Int) + dflt) (hp : ((pc : Int) + dflt).toNat = pt) (k : Goes p e below K T (mkF m pt Ls st)) : Goes p e below K T (mkF m pc Ls (.int i :: st)) := Goes.by' (fun _ q => XS.tswOut X.here hx rfl (pc0 := pc) (pc' := pt) rfl hd rfl hout ho hp q) k
theorem g_getF (X : Stand p l e R s m args below meth c T locs cells slots) (hx : p.tables.exec = Jvm.exec) (hZ : Z.Warmed39 s.vm) {own O n d : String} {ix : Nat} {a : Addr} {v : Value} (hown : s.vm.findClass own = some m.cls) (w : (Cond.fieldLink own ix O n d).before a0 Z = true) (eT : T.heap = h) (F : Fld Z h a O n d v) (hd : decode c.code pc = .ok (.getfield ix, 3)) (hp : pc + 3 = pc') (k : ∀ T', Stand p l e R s m args below meth c T' locs cells slots → T'.heap = h → Goes p e below K T' (mkF m pc' Ls (v :: st))) : Goes p e below K T (mkF m pc Ls (.ref a :: st)) := by
  subst hp
  obtain ⟨T1, X1, e1, f1⟩ := getF X hx hZ hown (host := "") (Or.inl w) Via.refl eT F (g := mkF m pc Ls (.ref a :: st)) rfl rfl hd
  exact Goes.by' f1 (k T1 X1 e1)
theorem g_getS (X : Stand p l e R s m args below meth c T locs cells slots) (hx : p.tables.exec = Jvm.exec) (hZ : Z.Warmed39 s.vm) {own O n d : String} {ix : Nat} {v : Value} (hown : s.vm.findClass own = some m.cls) (w : (Cond.fieldLink own ix O n d).before a0 Z = true) (eT : T.heap = h) (F : Sta Z h O n d v) (hd : decode c.code pc = .ok (.getstatic ix, 3)) (hp : pc + 3 = pc') (k : ∀ T', Stand p l e R s m args below meth c T' locs cells slots → T'.heap = h → Goes p e below K T' (mkF m pc' Ls (v :: st))) : Goes p e below K T (mkF m pc Ls st) := by
  subst hp
  obtain ⟨T1, X1, e1, f1⟩ := getS X hx hZ hown (host := "") w Via.refl eT F (g := mkF m pc Ls st) rfl hd
  exact Goes.by' f1 (k T1 X1 e1)
theorem g_putF (X : Stand p l e R s m args below meth c T locs cells slots) (hx : p.tables.exec = Jvm.exec) (hZ : Z.Warmed39 s.vm) {own O n d C : String} {ix kk : Nat} {ty : FieldType} {a : Addr} {v old : Value} (hown : s.vm.findClass own = some m.cls) (w : (Cond.fieldLink own ix O n d).before a0 Z = true) (eT : T.heap = h) (F : Fld Z h a O n d old) (E : Exa Z h a C) (L : (Cond.lays C O n d).before a0 Z = true ∨ ((Cond.laysFinal C O n d).before a0 Z = true ∧ own = O ∧ meth.name = "<init>")) (wi : (Cond.instantiable C kk).before a0 Z = true) (hty : parseFieldDescriptor d = some ty) (hn : narrow ty v = v) (hf : fits ty v = true) (hd : decode c.code pc = .ok (.putfield ix, 3)) (hp : pc + 3 = pc') (k : ∀ T' h', Stand p l e R s m args below meth c T' (locs ++ [⟨a, Jvm.RoadKit.slotOf Z O n d⟩]) cells slots → T'.heap = h' → Wr h h' a (Jvm.RoadKit.slotOf Z O n d) v → Goes p e below K T' (mkF m pc' Ls st)) : Goes p e below K T (mkF m pc Ls (v :: .ref a :: st)) := by
  subst hp
  obtain ⟨T1, h1, X1, e1, W1, f1⟩ := putF X hx hZ hown (host := "") (Or.inl w) Via.refl eT F E L wi hty hn hf (g := mkF m pc Ls (v :: .ref a :: st)) rfl rfl hd
  exact Goes.by' f1 (k T1 h1 X1 e1 W1)
theorem g_new (X : Stand p l e R s m args below meth c T locs cells slots) (hx : p.tables.exec = Jvm.exec) (hZ : Z.Warmed39 s.vm) {own C : String} {ix n : Nat} (hown : s.vm.findClass own = some m.cls) (w : (Cond.classLink own ix C).before a0 Z = true) (wi : (Cond.instantiable C n).before a0 Z = true) (wz : (Cond.initialized C).before a0 Z = true) (eT : T.heap = h) (hd : decode c.code pc = .ok (.new ix, 3)) (hp : pc + 3 = pc') (hc : cells + 1 ≤ R.cells) (hl : slots + n ≤ R.slots) (k : ∀ T' h' a, Stand p l e R s m args below meth c T' locs (cells + 1) (slots + n) → T'.heap = h' → a = h.size → Ext h h' → Exa Z h' a C → (∀ {O nm d : String} {ty : FieldType}, Laid Z a0 C O nm d → parseFieldDescriptor d = some ty → Fld Z h' a O nm d (defaultValue ty)) → Goes p e below K T' (mkF m pc' Ls (.ref a :: st))) : Goes p e below K T (mkF m pc Ls st) := by
  subst hp
  obtain ⟨T1, h1, X1, e1, E1, A1, D1, -, f1⟩ := newO X hx hZ hown w wi wz eT (g := mkF m pc Ls st) rfl hd hc hl
  exact Goes.by' f1 (k T1 h1 _ X1 e1 rfl E1 A1 D1)
theorem g_newarr (X : Stand p l e R s m args below meth c T locs cells slots) (hx : p.tables.exec = Jvm.exec) (hZ : Z.Warmed39 s.vm) {aty : ArrayType} {ty : FieldType} (hty : newarray.typeOf aty = ty) (w : (Cond.arrayClass ty).before a0 Z = true) (eT : T.heap = h) {n : Int32} (hd : decode c.code pc = .ok (.newarray aty, 2)) (hp : pc + 2 = pc') (hn : ¬ n < 0) (cap : Nat) (hcap : n.toNatClampNeg ≤ cap) (hb : cap * 8 ≤ 536870912) (hc : cells + 1 ≤ R.cells) (hl : slots + cap ≤ R.slots) (k : ∀ T' h' cA a, Stand p l e R s m args below meth c T' locs (cells + 1) (slots + cap) → T'.heap = h' → a = h.size → Ext h h' → Arr Z h' a (newA cA ty n) ty → Goes p e below K T' (mkF m pc' Ls (.ref a :: st))) : Goes p e below K T (mkF m pc Ls (.int n :: st)) := by
  subst hp hty
  obtain ⟨T1, h1, cA, X1, e1, E1, A1, f1⟩ := newP X hx hZ w eT (g := mkF m pc Ls (.int n :: st)) rfl hd rfl hn hcap hb hc hl
  exact Goes.by' f1 (k T1 h1 cA _ X1 e1 rfl E1 A1)
theorem g_newR (X : Stand p l e R s m args below meth c T locs cells slots) (hx : p.tables.exec = Jvm.exec) (hZ : Z.Warmed39 s.vm) {own C : String} {ix : Nat} (hown : s.vm.findClass own = some m.cls) (w1 : (Cond.classLink own ix C).before a0 Z = true) (w2 : (Cond.arrayOver (.object C)).before a0 Z = true) (eT : T.heap = h) {n : Int32} (hd : decode c.code pc = .ok (.anewarray ix, 3)) (hp : pc + 3 = pc') (hn : ¬ n < 0) (cap : Nat) (hcap : n.toNatClampNeg ≤ cap) (hb : cap * 8 ≤ 536870912) (hc : cells + 1 ≤ R.cells) (hl : slots + cap ≤ R.slots) (k : ∀ T' h' cA a, Stand p l e R s m args below meth c T' locs (cells + 1) (slots + cap) → T'.heap = h' → a = h.size → Ext h h' → Arr Z h' a (newA cA (.object C) n) (.object C) → Ovr Z cA C → Goes p e below K T' (mkF m pc' Ls (.ref a :: st))) : Goes p e below K T (mkF m pc Ls (.int n :: st)) := by
  subst hp
  obtain ⟨T1, h1, cA, X1, e1, E1, A1, O1, f1⟩ := newR X hx hZ hown w1 w2 eT (g := mkF m pc Ls (.int n :: st)) rfl hd rfl hn hcap hb hc hl
  exact Goes.by' f1 (k T1 h1 cA _ X1 e1 rfl E1 A1 O1)
theorem g_initO (X : Stand p l e R s m args below meth c T locs cells slots) (hx : p.tables.exec = Jvm.exec) (hZ : Z.Warmed39 s.vm) {own : String} {ix : Nat} {a : Addr} (hown : s.vm.findClass own = some m.cls) (w1 : (Cond.methodLink own ix Lib.objectInit).before a0 Z = true) (w2 : (Cond.instanceMethod Lib.objectInit).before a0 Z = true) (w3 : (Cond.code Lib.objectInit ⟨#[0xb1]⟩ 1 none).before a0 Z = true) (eT : T.heap = h) (hsz : Ls.size = c.maxLocals) (hd : decode c.code pc = .ok (.invokespecial ix, 3)) (hp : pc + 3 = pc') (hf : 1 ≤ R.frames) (hl : (st.map fun v => v.category).sum + 12 ≤ R.locals) (k : ∀ T', Stand p l e R s m args below meth c T' locs cells slots → T'.heap = h → Goes p e below K T' (mkF m pc' Ls st)) : Goes p e below K T (mkF m pc Ls (.ref a :: st)) := by
  subst hp
  obtain ⟨T1, X1, e1, f1⟩ := initO X hx hZ hown w1 w2 w3 eT (g := mkF m pc Ls (.ref a :: st)) rfl hsz rfl hd hf (W := (st.map fun v => v.category).sum) (by show 2 * 0 + _ ≤ _; omega) hl
  exact Goes.by' f1 (k T1 X1 e1)
theorem g_iaload (X : Stand p l e R s m args below meth c T locs cells slots) (hx : p.tables.exec = Jvm.exec) (hZ : Z.Warmed39 s.vm) (eT : T.heap = h) {a : Addr} {cl : Cell} {j : Int32} {v : Value} (A : Arr Z h a cl .int) (hin : ¬ (j < 0 ∨ cl.slots.size ≤ j.toNatClampNeg)) (hat : cl.slots[j.toNatClampNeg]? = some v) (hd : decode c.code pc = .ok (.iaload, 1)) (hp : pc + 1 = pc') (k : Goes p e below K T (mkF m pc' Ls (v :: st))) : Goes p e below K T (mkF m pc Ls (.int j :: .ref a :: st)) := by
  subst hp
  exact Goes.by' (fun _ q => X.iaload hx (j := j) (v := v) (by rw [eT]; exact A.1) (State.isArrayOf_alike hZ.alike A.2.1) A.2.2 hin hat (g := mkF m pc Ls (.int j :: .ref a :: st)) rfl rfl hd _ q) k
theorem g_laload (X : Stand p l e R s m args below meth c T locs cells slots) (hx : p.tables.exec = Jvm.exec) (hZ : Z.Warmed39 s.vm) (eT : T.heap = h) {a : Addr} {cl : Cell} {j : Int32} {v : Value} (A : Arr Z h a cl .long) (hin : ¬ (j < 0 ∨ cl.slots.size ≤ j.toNatClampNeg)) (hat : cl.slots[j.toNatClampNeg]? = some v) (hd : decode c.code pc = .ok (.laload, 1)) (hp : pc + 1 = pc') (k : Goes p e below K T (mkF m pc' Ls (v :: st))) : Goes p e below K T (mkF m pc Ls (.int j :: .ref a :: st)) := by
  subst hp
  exact Goes.by' (fun _ q => X.laload hx (j := j) (v := v) (by rw [eT]; exact A.1) (State.isArrayOf_alike hZ.alike A.2.1) A.2.2 hin hat (g := mkF m pc Ls (.int j :: .ref a :: st)) rfl rfl hd _ q) k
theorem g_caload (X : Stand p l e R s m args below meth c T locs cells slots) (hx : p.tables.exec = Jvm.exec) (hZ : Z.Warmed39 s.vm) (eT : T.heap = h) {a : Addr} {cl : Cell} {j : Int32} {v : Value} (A : Arr Z h a cl .char) (hin : ¬ (j < 0 ∨ cl.slots.size ≤ j.toNatClampNeg)) (hat : cl.slots[j.toNatClampNeg]? = some v) (hd : decode c.code pc = .ok (.caload, 1)) (hp : pc + 1 = pc') (k : Goes p e below K T (mkF m pc' Ls (v :: st))) : Goes p e below K T (mkF m pc Ls (.int j :: .ref a :: st)) := by
  subst hp
  exact Goes.by' (fun _ q => X.caload hx (j := j) (v := v) (by rw [eT]; exact A.1) (State.isArrayOf_alike hZ.alike A.2.1) A.2.2 hin hat (g := mkF m pc Ls (.int j :: .ref a :: st)) rfl rfl hd _ q) k
theorem g_baload (X : Stand p l e R s m args below meth c T locs cells slots) (hx : p.tables.exec = Jvm.exec) (hZ : Z.Warmed39 s.vm) (eT : T.heap = h) {a : Addr} {cl : Cell} {j : Int32} {v : Value} (A : Arr Z h a cl .byte) (hin : ¬ (j < 0 ∨ cl.slots.size ≤ j.toNatClampNeg)) (hat : cl.slots[j.toNatClampNeg]? = some v) (hd : decode c.code pc = .ok (.baload, 1)) (hp : pc + 1 = pc') (k : Goes p e below K T (mkF m pc' Ls (v :: st))) : Goes p e below K T (mkF m pc Ls (.int j :: .ref a :: st)) := by
  subst hp
  exact Goes.by' (fun _ q => X.baloadBytes hx (j := j) (v := v) (by rw [eT]; exact A.1) (State.isArrayOf_alike hZ.alike A.2.1) A.2.2 hin hat (g := mkF m pc Ls (.int j :: .ref a :: st)) rfl rfl hd _ q) k
theorem g_aaload (X : Stand p l e R s m args below meth c T locs cells slots) (hx : p.tables.exec = Jvm.exec) (hZ : Z.Warmed39 s.vm) (eT : T.heap = h) {a : Addr} {cl : Cell} {ty : FieldType} {j : Int32} {v : Value} (A : Arr Z h a cl ty) (hty : ty.isReference = true) (hin : ¬ (j < 0 ∨ cl.slots.size ≤ j.toNatClampNeg)) (hat : cl.slots[j.toNatClampNeg]? = some v) (hd : decode c.code pc = .ok (.aaload, 1)) (hp : pc + 1 = pc') (k : Goes p e below K T (mkF m pc' Ls (v :: st))) : Goes p e below K T (mkF m pc Ls (.int j :: .ref a :: st)) := by
  subst hp
  exact Goes.by' (fun _ q => X.aaload hx (j := j) (v := v) (by rw [eT]; exact A.1) (State.isArrayOf_alike hZ.alike A.2.1) hty A.2.2 hin hat (g := mkF m pc Ls (.int j :: .ref a :: st)) rfl rfl hd _ q) k
theorem g_arraylength (X : Stand p l e R s m args below meth c T locs cells slots) (hx : p.tables.exec = Jvm.exec) (hZ : Z.Warmed39 s.vm) (eT : T.heap = h) {a : Addr} {cl : Cell} {ty : FieldType} {n : Int32} (A : Arr Z h a cl ty) (hn : cl.slots.size.toInt32 = n) (hd : decode c.code pc = .ok (.arraylength, 1)) (hp : pc + 1 = pc') (k : Goes p e below K T (mkF m pc' Ls (.int n :: st))) : Goes p e below K T (mkF m pc Ls (.ref a :: st)) := by
  subst hp hn
  exact Goes.by' (fun _ q => X.arraylength hx (by rw [eT]; exact A.1) (State.isArrayOf_alike hZ.alike A.2.1) (g := mkF m pc Ls (.ref a :: st)) rfl rfl hd _ q) k
theorem g_iastore (X : Stand p l e R s m args below meth c T locs cells slots) (hx : p.tables.exec = Jvm.exec) (hZ : Z.Warmed39 s.vm) (eT : T.heap = h) {a : Addr} {cl : Cell} {j : Int32} {x : Int32} (A : Arr Z h a cl .int) (hin : ¬ (j < 0 ∨ cl.slots.size ≤ j.toNatClampNeg)) (hd : decode c.code pc = .ok (.iastore, 1)) (hp : pc + 1 = pc') (k : ∀ T' h', Stand p l e R s m args below meth c T' (locs ++ [⟨a, j.toNatClampNeg⟩]) cells slots → T'.heap = h' → Wr h h' a j.toNatClampNeg (.int x) → Goes p e below K T' (mkF m pc' Ls st)) : Goes p e below K T (mkF m pc Ls (.int x :: .int j :: .ref a :: st)) := by
  subst hp
  obtain ⟨T1, h1, X1, e1, W1, f1⟩ := stI X hx hZ eT A hin (g := mkF m pc Ls (.int x :: .int j :: .ref a :: st)) rfl rfl hd
  exact Goes.by' f1 (k T1 h1 X1 e1 W1)
theorem g_lastore (X : Stand p l e R s m args below meth c T locs cells slots) (hx : p.tables.exec = Jvm.exec) (hZ : Z.Warmed39 s.vm) (eT : T.heap = h) {a : Addr} {cl : Cell} {j : Int32} {x : Int64} (A : Arr Z h a cl .long) (hin : ¬ (j < 0 ∨ cl.slots.size ≤ j.toNatClampNeg)) (hd : decode c.code pc = .ok (.lastore, 1)) (hp : pc + 1 = pc') (k : ∀ T' h', Stand p l e R s m args below meth c T' (locs ++ [⟨a, j.toNatClampNeg⟩]) cells slots → T'.heap = h' → Wr h h' a j.toNatClampNeg (.long x) → Goes p e below K T' (mkF m pc' Ls st)) : Goes p e below K T (mkF m pc Ls (.long x :: .int j :: .ref a :: st)) := by
  subst hp
  obtain ⟨T1, h1, X1, e1, W1, f1⟩ := stJ X hx hZ eT A hin (g := mkF m pc Ls (.long x :: .int j :: .ref a :: st)) rfl rfl hd
  exact Goes.by' f1 (k T1 h1 X1 e1 W1)
theorem g_castore (X : Stand p l e R s m args below meth c T locs cells slots) (hx : p.tables.exec = Jvm.exec) (hZ : Z.Warmed39 s.vm) (eT : T.heap = h) {a : Addr} {cl : Cell} {j : Int32} {x : Int32} (A : Arr Z h a cl .char) (hin : ¬ (j < 0 ∨ cl.slots.size ≤ j.toNatClampNeg)) (hd : decode c.code pc = .ok (.castore, 1)) (hp : pc + 1 = pc') (k : ∀ T' h', Stand p l e R s m args below meth c T' (locs ++ [⟨a, j.toNatClampNeg⟩]) cells slots → T'.heap = h' → Wr h h' a j.toNatClampNeg (.int (nar .char x)) → Goes p e below K T' (mkF m pc' Ls st)) : Goes p e below K T (mkF m pc Ls (.int x :: .int j :: .ref a :: st)) := by
  subst hp
  obtain ⟨T1, h1, X1, e1, W1, f1⟩ := stC X hx hZ eT A hin (g := mkF m pc Ls (.int x :: .int j :: .ref a :: st)) rfl rfl hd
  exact Goes.by' f1 (k T1 h1 X1 e1 W1)
theorem g_bastore (X : Stand p l e R s m args below meth c T locs cells slots) (hx : p.tables.exec = Jvm.exec) (hZ : Z.Warmed39 s.vm) (eT : T.heap = h) {a : Addr} {cl : Cell} {j : Int32} {x : Int32} (A : Arr Z h a cl .byte) (hin : ¬ (j < 0 ∨ cl.slots.size ≤ j.toNatClampNeg)) (hd : decode c.code pc = .ok (.bastore, 1)) (hp : pc + 1 = pc') (k : ∀ T' h', Stand p l e R s m args below meth c T' (locs ++ [⟨a, j.toNatClampNeg⟩]) cells slots → T'.heap = h' → Wr h h' a j.toNatClampNeg (.int (nar .byte x)) → Goes p e below K T' (mkF m pc' Ls st)) : Goes p e below K T (mkF m pc Ls (.int x :: .int j :: .ref a :: st)) := by
  subst hp
  obtain ⟨T1, h1, X1, e1, W1, f1⟩ := stB X hx hZ eT A hin (g := mkF m pc Ls (.int x :: .int j :: .ref a :: st)) rfl rfl hd
  exact Goes.by' f1 (k T1 h1 X1 e1 W1)
theorem g_aastore (X : Stand p l e R s m args below meth c T locs cells slots) (hx : p.tables.exec = Jvm.exec) (hZ : Z.Warmed39 s.vm) (eT : T.heap = h) {a : Addr} {cl : Cell} {ty : FieldType} {j : Int32} {v : Value} (A : Arr Z h a cl ty) (hty : ty.isReference = true) (F : Sto Z h a v) (hin : ¬ (j < 0 ∨ cl.slots.size ≤ j.toNatClampNeg)) (hd : decode c.code pc = .ok (.aastore, 1)) (hp : pc + 1 = pc') (k : ∀ T' h', Stand p l e R s m args below meth c T' (locs ++ [⟨a, j.toNatClampNeg⟩]) cells slots → T'.heap = h' → Wr h h' a j.toNatClampNeg v → Goes p e below K T' (mkF m pc' Ls st)) : Goes p e below K T (mkF m pc Ls (v :: .int j :: .ref a :: st)) := by
  subst hp
  obtain ⟨T1, h1, X1, e1, W1, f1⟩ := stR X hx hZ eT A hin hty F (g := mkF m pc Ls (v :: .int j :: .ref a :: st)) rfl rfl hd
  exact Goes.by' f1 (k T1 h1 X1 e1 W1)
theorem g_callS (X : Stand p l e R s m args below meth c T locs cells slots) (hx : p.tables.exec = Jvm.exec) (hZ : Z.Warmed39 s.vm) {own : String} {ix : Nat} {y : MethodName} {bytes : ByteArray} {maxL : Nat} {ret : Option FieldType} {rm : Room} {as' : Array Value} {Q : Option Value → Heap → List Loc → Prop} (hown : s.vm.findClass own = some m.cls) (w1 : (Cond.methodLink own ix y).before a0 Z = true) (w2 : (Cond.static y).before a0 Z = true) (w3 : (Cond.initialized y.cls).before a0 Z = true) (w4 : (Cond.code y bytes maxL ret).before a0 Z = true) (hy : y.cls ≠ "java/lang/invoke/MethodHandle" ∧ y.cls ≠ "java/lang/invoke/VarHandle") (eT : T.heap = h) (C : Ctr l Z y bytes maxL ret [] rm rm.cells rm.slots as' h Q) (hsz : Ls.size = c.maxLocals) (argsL rest : List Value) (has : argsL.toArray = as') (hlen : ∀ sig, parseMethodDescriptor y.desc = some sig → argsL.length = sig.parameters.length) (hst : st = argsL.reverse ++ rest) (hl : (rest.map fun v => v.category).sum + (maxL + 11) + rm.locals ≤ R.locals) (hf : rm.frames + 1 ≤ R.frames) (hc : cells + rm.cells ≤ R.cells) (hsl : slots + rm.slots ≤ R.slots) (hd : decode c.code pc = .ok (.invokestatic ix, 3)) (hp : pc + 3 = pc') (k : ∀ T' v L, Stand p l e R s m args below meth c T' (locs ++ L) (cells + rm.cells) (slots + rm.slots) → Q v T'.heap L → Goes p e below K T' (mkF m pc' Ls (v.toList ++ rest))) : Goes p e below K T (mkF m pc Ls st) := by
  subst hp
  obtain ⟨v, _, ⟨T1, L1, k1, n1⟩, -, X1, ⟨L, hQ, l1, y1, z1⟩, f1⟩ := Jvm.LawKit.callS X hx (y := y) hown (mvT hZ w1) (mvT hZ w2) (mvT hZ w3) (mvT hZ w4) hy (backOf (W := (rest.map fun v => v.category).sum) C hZ w4 w3 hf hl) (g := mkF m pc Ls st) rfl hsz (argsL := argsL) (rest := rest) hlen hst (by show 2 * 0 + _ ≤ _; omega) hd (fun _ _ => ⟨has, eT, hc, hsl⟩)
  dsimp only [Pt.U, Pt.locs, Pt.cells, Pt.slots] at X1 l1 y1 z1 f1 hQ
  subst l1 y1 z1
  exact Goes.by' f1 (k T1 v L X1 hQ)
theorem g_callI (X : Stand p l e R s m args below meth c T locs cells slots) (hx : p.tables.exec = Jvm.exec) (hZ : Z.Warmed39 s.vm) {own : String} {ix : Nat} {y : MethodName} {bytes : ByteArray} {maxL : Nat} {rm : Room} {as' : Array Value} {Q : Option Value → Heap → List Loc → Prop} (hy1 : y.name = "<init>") (hown : s.vm.findClass own = some m.cls) (w1 : (Cond.methodLink own ix y).before a0 Z = true) (w2 : (Cond.instanceMethod y).before a0 Z = true) (w3 : (Cond.initialized y.cls).before a0 Z = true) (w4 : (Cond.code y bytes maxL none).before a0 Z = true) (hy : y.cls ≠ "java/lang/invoke/MethodHandle" ∧ y.cls ≠ "java/lang/invoke/VarHandle") (eT : T.heap = h) (C : Ctr l Z y bytes maxL none [] rm rm.cells rm.slots as' h Q) (hsz : Ls.size = c.maxLocals) (a : Addr) (argsL rest : List Value) (has : (.ref a :: argsL).toArray = as') (hlen : ∀ sig, parseMethodDescriptor y.desc = some sig → argsL.length = sig.parameters.length) (hst : st = argsL.reverse ++ .ref a :: rest) (hl : (rest.map fun v => v.category).sum + (maxL + 11) + rm.locals ≤ R.locals) (hf : rm.frames + 1 ≤ R.frames) (hc : cells + rm.cells ≤ R.cells) (hsl : slots + rm.slots ≤ R.slots) (hd : decode c.code pc = .ok (.invokespecial ix, 3)) (hp : pc + 3 = pc') (k : ∀ T' v L, Stand p l e R s m args below meth c T' (locs ++ L) (cells + rm.cells) (slots + rm.slots) → Q v T'.heap L → Goes p e below K T' (mkF m pc' Ls (v.toList ++ rest))) : Goes p e below K T (mkF m pc Ls st) := by
  subst hp
  obtain ⟨v, _, ⟨T1, L1, k1, n1⟩, -, X1, ⟨L, hQ, l1, y1, z1⟩, f1⟩ := X.specialBack hx (y := y) hy1 hown (mvT hZ w1) (mvT hZ w2) (mvT hZ w4) hy (backOf (W := (rest.map fun v => v.category).sum) C hZ w4 w3 hf hl) (g := mkF m pc Ls st) rfl hsz (Steps.refl _) (a := a) (argsL := argsL) (rest := rest) hlen hst (by show 2 * 0 + _ ≤ _; omega) hd (fun _ _ => ⟨has, eT, hc, hsl⟩)
  dsimp only [Pt.U, Pt.locs, Pt.cells, Pt.slots] at X1 l1 y1 z1 f1 hQ
  subst l1 y1 z1
  exact Goes.by' (fun _ q => f1.trans q) (k T1 v L X1 hQ)
theorem g_callV (X : Stand p l e R s m args below meth c T locs cells slots) (hx : p.tables.exec = Jvm.exec) (hZ : Z.Warmed39 s.vm) {own : String} {ix : Nat} {y : MethodName} {bytes : ByteArray} {maxL : Nat} {ret : Option FieldType} {rm : Room} {as' : Array Value} {Q : Option Value → Heap → List Loc → Prop} {C0 : String} (hown : s.vm.findClass own = some m.cls) (w1 : (Cond.methodLink own ix y).before a0 Z = true) (w2 : (Cond.declares y).before a0 Z = true) (w5 : (Cond.selects C0 y y).before a0 Z = true) (w6 : (Cond.instanceMethod y).before a0 Z = true) (w3 : (Cond.initialized y.cls).before a0 Z = true) (w4 : (Cond.code y bytes maxL ret).before a0 Z = true) (hy : y.cls ≠ "java/lang/invoke/MethodHandle" ∧ y.cls ≠ "java/lang/invoke/VarHandle") (eT : T.heap = h) (a : Addr) (E : Exa Z h a C0) (C : Ctr l Z y bytes maxL ret [] rm rm.cells rm.slots as' h Q) (hsz : Ls.size = c.maxLocals) (argsL rest : List Value) (has : (.ref a :: argsL).toArray = as') (hlen : ∀ sig, parseMethodDescriptor y.desc = some sig → argsL.length = sig.parameters.length) (hst : st = argsL.reverse ++ .ref a :: rest) (hl : (rest.map fun v => v.category).sum + (maxL + 11) + rm.locals ≤ R.locals) (hf : rm.frames + 1 ≤ R.frames) (hc : cells + rm.cells ≤ R.cells) (hsl : slots + rm.slots ≤ R.slots) (hd : decode c.code pc = .ok (.invokevirtual ix, 3)) (hp : pc + 3 = pc') (k : ∀ T' v L, Stand p l e R s m args below meth c T' (locs ++ L) (cells + rm.cells) (slots + rm.slots) → Q v T'.heap L → Goes p e below K T' (mkF m pc' Ls (v.toList ++ rest))) : Goes p e below K T (mkF m pc Ls st) := by
  subst hp
  obtain ⟨cq, kq, qa, qb, qc⟩ := isOf hZ eT E
  obtain ⟨v, _, ⟨T1, L1, k1, n1⟩, -, X1, ⟨L, hQ, l1, y1, z1⟩, f1⟩ := X.virtualBack hx (y := y) (z := y) hown (mvT hZ w1) (mvT hZ w2) (notFace_of_selects (args := #[]) (mvT hZ w5)) (mvT hZ w5) (mvT hZ w6) hy (backOf (W := (rest.map fun v => v.category).sum) C hZ w4 w3 hf hl) qa qc (g := mkF m pc Ls st) rfl hsz (Steps.refl _) (argsL := argsL) (rest := rest) hlen hst (by show 2 * 0 + _ ≤ _; omega) hd (fun _ _ => ⟨has, eT, hc, hsl⟩)
  dsimp only [Pt.U, Pt.locs, Pt.cells, Pt.slots] at X1 l1 y1 z1 f1 hQ
  subst l1 y1 z1
  exact Goes.by' (fun _ q => f1.trans q) (k T1 v L X1 hQ)
theorem g_callP (X : Stand p l e R s m args below meth c T locs cells slots) (hx : p.tables.exec = Jvm.exec) (hZ : Z.Warmed39 s.vm) {own : String} {ix : Nat} {y : MethodName} {bytes : ByteArray} {maxL : Nat} {ret : Option FieldType} {rm : Room} {as' : Array Value} {Q : Option Value → Heap → List Loc → Prop} {kk : Nat} {C0 : String} (hown : s.vm.findClass own = some m.cls) (w1 : (Cond.methodLink own ix y).before a0 Z = true) (wi : (Cond.instantiable y.cls kk).before a0 Z = true) (wp : (Cond.privateMethod y).before a0 Z = true) (w6 : (Cond.instanceMethod y).before a0 Z = true) (w3 : (Cond.initialized y.cls).before a0 Z = true) (w4 : (Cond.code y bytes maxL ret).before a0 Z = true) (hy : y.cls ≠ "java/lang/invoke/MethodHandle" ∧ y.cls ≠ "java/lang/invoke/VarHandle") (eT : T.heap = h) (a : Addr) (E : Exa Z h a C0) (C : Ctr l Z y bytes maxL ret [] rm rm.cells rm.slots as' h Q) (hsz : Ls.size = c.maxLocals) (argsL rest : List Value) (has : (.ref a :: argsL).toArray = as') (hlen : ∀ sig, parseMethodDescriptor y.desc = some sig → argsL.length = sig.parameters.length) (hst : st = argsL.reverse ++ .ref a :: rest) (hl : (rest.map fun v => v.category).sum + (maxL + 11) + rm.locals ≤ R.locals) (hf : rm.frames + 1 ≤ R.frames) (hc : cells + rm.cells ≤ R.cells) (hsl : slots + rm.slots ≤ R.slots) (hd : decode c.code pc = .ok (.invokevirtual ix, 3)) (hp : pc + 3 = pc') (k : ∀ T' v L, Stand p l e R s m args below meth c T' (locs ++ L) (cells + rm.cells) (slots + rm.slots) → Q v T'.heap L → Goes p e below K T' (mkF m pc' Ls (v.toList ++ rest))) : Goes p e below K T (mkF m pc Ls st) := by
  subst hp
  obtain ⟨cell, hcell, hobj⟩ := E.cell
  have wi' : (Cond.instantiable y.cls kk).before args s = true := mvT hZ wi
  obtain ⟨c1, k1, i1, i2, i3, i4, -⟩ := Cond.instantiable_spec wi'
  have hni : k1.isInterface = false := by revert i4; cases k1.isInterface <;> simp
  have hpv : s.PrivateAt y := Cond.privateMethod_at (mvP hZ wp (args := #[]))
  have hsel : (Cond.selects y.cls y y).before args s = true := Jvm.Stand.selects_self_of_private i1 i2 hni hpv (mvT hZ w6) hy
  obtain ⟨v, _, ⟨T1, L1, k1, n1⟩, -, X1, ⟨L, hQ, l1, y1, z1⟩, f1⟩ := X.privateBack hx (y := y) hown (mvT hZ w1) (mvT hZ w6) hsel hpv (mvT hZ w4) hy (backOf (W := (rest.map fun v => v.category).sum) C hZ w4 w3 hf hl) (g := mkF m pc Ls st) rfl hsz (Steps.refl _) (a := a) (by rw [eT]; exact hcell) hobj (argsL := argsL) (rest := rest) hlen hst (by show 2 * 0 + _ ≤ _; omega) hd (fun _ _ => ⟨has, eT, hc, hsl⟩)
  dsimp only [Pt.U, Pt.locs, Pt.cells, Pt.slots] at X1 l1 y1 z1 f1 hQ
  subst l1 y1 z1
  exact Goes.by' (fun _ q => f1.trans q) (k T1 v L X1 hQ)
theorem g_retI (X : Stand p l e R s m args below meth c T locs cells slots) (hx : p.tables.exec = Jvm.exec) {C S : Nat} {Q : Option Value → Heap → List Loc → Prop} {z : Int32} (hlk : meth.locks = false) (hret : meth.sig.returnType = some .int) (eT : T.heap = h) (hc : cells ≤ C) (hs : slots ≤ S) (hd : decode c.code pc = .ok (.ireturn, 1)) (hQ : Q (some (.int z)) h locs) : Goes p e below (KQ s C S Q) T (mkF m pc Ls (.int z :: st)) := by
  obtain ⟨fs, hr, hrun, hended, hW, hsame⟩ := X.leave (v := some (.int z)) (fun q => by rw [hret] at q; cases q) hlk
  exact ⟨_, _, retOut X hx hret rfl (Or.inl ⟨rfl, Or.inl rfl, _, rfl⟩) hd hr, hrun, hended, _, _, rfl, by subst eT; exact hQ, ⟨_, rfl⟩, hW, hsame.mono hc hs⟩
theorem g_retJ (X : Stand p l e R s m args below meth c T locs cells slots) (hx : p.tables.exec = Jvm.exec) {C S : Nat} {Q : Option Value → Heap → List Loc → Prop} {z : Int64} (hlk : meth.locks = false) (hret : meth.sig.returnType = some .long) (eT : T.heap = h) (hc : cells ≤ C) (hs : slots ≤ S) (hd : decode c.code pc = .ok (.lreturn, 1)) (hQ : Q (some (.long z)) h locs) : Goes p e below (KQ s C S Q) T (mkF m pc Ls (.long z :: st)) := by
  obtain ⟨fs, hr, hrun, hended, hW, hsame⟩ := X.leave (v := some (.long z)) (fun q => by rw [hret] at q; cases q) hlk
  exact ⟨_, _, retOut X hx hret rfl (Or.inr (Or.inl ⟨rfl, rfl, _, rfl⟩)) hd hr, hrun, hended, _, _, rfl, by subst eT; exact hQ, ⟨_, rfl⟩, hW, hsame.mono hc hs⟩
theorem g_retN (X : Stand p l e R s m args below meth c T locs cells slots) (hx : p.tables.exec = Jvm.exec) {C S : Nat} {Q : Option Value → Heap → List Loc → Prop} {z : Int32} {t : FieldType} (ht : t = .boolean ∨ t = .byte ∨ t = .char ∨ t = .short) (hlk : meth.locks = false) (hret : meth.sig.returnType = some t) (eT : T.heap = h) (hc : cells ≤ C) (hs : slots ≤ S) (hd : decode c.code pc = .ok (.ireturn, 1)) (hQ : Q (some (.int (nar t z))) h locs) : Goes p e below (KQ s C S Q) T (mkF m pc Ls (.int z :: st)) := by
  obtain ⟨fs, hr, hrun, hended, hW, hsame⟩ := X.leave (v := some (.int (nar t z))) (fun q => by rw [hret] at q; cases q) hlk
  exact ⟨_, _, retN X hx hret ht hd hr, hrun, hended, _, _, rfl, by subst eT; exact hQ, ⟨_, rfl⟩, hW, hsame.mono hc hs⟩
theorem g_retA (X : Stand p l e R s m args below meth c T locs cells slots) (hx : p.tables.exec = Jvm.exec) {C S : Nat} {Q : Option Value → Heap → List Loc → Prop} {v : Value} {t : FieldType} (hv : v.isRef = true) (ht : t.isReference = true) (hlk : meth.locks = false) (hret : meth.sig.returnType = some t) (eT : T.heap = h) (hc : cells ≤ C) (hs : slots ≤ S) (hd : decode c.code pc = .ok (.areturn, 1)) (hQ : Q (some v) h locs) : Goes p e below (KQ s C S Q) T (mkF m pc Ls (v :: st)) := by
  obtain ⟨fs, hr, hrun, hended, hW, hsame⟩ := X.leave (v := some v) (fun q => by rw [hret] at q; cases q) hlk
  have hn : narrow t v = v := by cases v <;> simp [Value.isRef] at hv <;> cases t <;> simp [FieldType.isReference] at ht <;> rfl
  exact ⟨_, _, retOut X hx hret hn (Or.inr (Or.inr (Or.inr (Or.inr ⟨rfl, ht, hv⟩)))) hd hr, hrun, hended, _, _, rfl, by subst eT; exact hQ, ⟨_, rfl⟩, hW, hsame.mono hc hs⟩
theorem g_ret (X : Stand p l e R s m args below meth c T locs cells slots) (hx : p.tables.exec = Jvm.exec) {C S : Nat} {Q : Option Value → Heap → List Loc → Prop} (hlk : meth.locks = false) (hret : meth.sig.returnType = none) (eT : T.heap = h) (hc : cells ≤ C) (hs : slots ≤ S) (hd : decode c.code pc = .ok (.return_, 1)) (hQ : Q none h locs) : Goes p e below (KQ s C S Q) T (mkF m pc Ls []) := by
  obtain ⟨fs, hr, hrun, hended, hW, hsame⟩ := X.leave (v := none) (fun _ => rfl) hlk
  exact ⟨_, _, X.returnOut hx hret hd hr, hrun, hended, _, _, rfl, by subst eT; exact hQ, ⟨_, rfl⟩, hW, hsame.mono hc hs⟩
end OwnGo
def ArI (Z : State) (h : Heap) (b : Addr) (ty : FieldType) (n : Nat) (f : Nat → Int32) : Prop := ∃ cl, Arr Z h b cl ty ∧ cl.slots.size = n ∧ ∀ j, j < n → cl.slots[j]? = some (.int (f j))
section ArSI
variable {Z : State} {h h' : Heap} {a b : Addr} {ty : FieldType} {n sl : Nat} {f : Nat → Int32} {v : Value} {ws : List Addr}
theorem ArI.new {cA : ClassId} {z : Int32} (A : Arr Z h a (newA cA ty z) ty) (x : Int32) (hd : defaultValue ty = .int x) : ArI Z h a ty z.toNatClampNeg (fun _ => x) := ⟨_, A, sz_new _ _ _, fun j hj => by simp only [newA, ← hd]; rw [Array.getElem?_replicate, if_pos hj]⟩
theorem ArI.lt (F : ArI Z h b ty n f) : b < h.size := by obtain ⟨c, A, -⟩ := F; exact A.lt
theorem ArI.ext (F : ArI Z h b ty n f) (E : Ext h h') : ArI Z h' b ty n f := by obtain ⟨c, A, r⟩ := F; exact ⟨c, A.ext E, r⟩
theorem ArI.other (F : ArI Z h b ty n f) (W : Wr h h' a sl v) (q : b ≠ a) : ArI Z h' b ty n f := by obtain ⟨c, A, r⟩ := F; exact ⟨c, A.other W q, r⟩
theorem ArI.keep (F : ArI Z h b ty n f) (K : Keep h h' ws) (q : b ∉ ws) : ArI Z h' b ty n f := by obtain ⟨c, A, r⟩ := F; exact ⟨c, ⟨K.2.1 b c A.1 q, A.2⟩, r⟩
theorem ArI.set {x : Int32} (F : ArI Z h b ty n f) (W : Wr h h' b sl (.int (x))) : ArI Z h' b ty n (fun k => if k = sl then x else f k) := by
  obtain ⟨c, A, hs, H⟩ := F
  refine ⟨_, A.same W, by rw [sz_set]; exact hs, fun j hj => ?_⟩
  by_cases e : j = sl
  · subst e; simp only [Cell.setSlot, if_true]; rw [Array.getElem?_setIfInBounds_self_of_lt (by rw [hs]; exact hj)]
  · simp only [Cell.setSlot]; rw [Array.getElem?_setIfInBounds_ne (Ne.symm e), if_neg e]; exact H j hj
theorem ArI.inb {j : Int32} {c : Cell} (hs : c.slots.size = n) (h0 : ¬ j < 0) (h1 : j.toNatClampNeg < n) : ¬ (j < 0 ∨ c.slots.size ≤ j.toNatClampNeg) := by rw [hs]; rintro (q | q); exact h0 q; omega
end ArSI
section ArGI
variable {p : Program} {l : Launch} {e : Env} {R : Room} {s : State} {m : MethodId} {args : Array Value} {below : List Frame} {meth : Method} {c : Code} {T : State} {locs : List Loc} {cells slots : Nat} {Z : State} {a0 : Array Value} {h : Heap} {K : Outcome → State → Prop} {pc pc' : Nat} {Ls : Array Slot} {st : List Value}
theorem g_iaload' (X : Stand p l e R s m args below meth c T locs cells slots) (hx : p.tables.exec = Jvm.exec) (hZ : Z.Warmed39 s.vm) (eT : T.heap = h) {b : Addr} {n : Nat} {f : Nat → Int32} {j : Int32} {x : Int32} (A : ArI Z h b .int n f) (h0 : ¬ j < 0) (h1 : j.toNatClampNeg < n) (hv : f j.toNatClampNeg = x) (hd : decode c.code pc = .ok (.iaload, 1)) (hp : pc + 1 = pc') (k : Goes p e below K T (mkF m pc' Ls (.int (x) :: st))) : Goes p e below K T (mkF m pc Ls (.int j :: .ref b :: st)) := by
  obtain ⟨cl, A, hs, H⟩ := A
  exact g_iaload X hx hZ eT A (ArI.inb hs h0 h1) (by rw [H _ h1, hv]) hd hp k
theorem g_caload' (X : Stand p l e R s m args below meth c T locs cells slots) (hx : p.tables.exec = Jvm.exec) (hZ : Z.Warmed39 s.vm) (eT : T.heap = h) {b : Addr} {n : Nat} {f : Nat → Int32} {j : Int32} {x : Int32} (A : ArI Z h b .char n f) (h0 : ¬ j < 0) (h1 : j.toNatClampNeg < n) (hv : f j.toNatClampNeg = x) (hd : decode c.code pc = .ok (.caload, 1)) (hp : pc + 1 = pc') (k : Goes p e below K T (mkF m pc' Ls (.int (x) :: st))) : Goes p e below K T (mkF m pc Ls (.int j :: .ref b :: st)) := by
  obtain ⟨cl, A, hs, H⟩ := A
  exact g_caload X hx hZ eT A (ArI.inb hs h0 h1) (by rw [H _ h1, hv]) hd hp k
theorem g_baload' (X : Stand p l e R s m args below meth c T locs cells slots) (hx : p.tables.exec = Jvm.exec) (hZ : Z.Warmed39 s.vm) (eT : T.heap = h) {b : Addr} {n : Nat} {f : Nat → Int32} {j : Int32} {x : Int32} (A : ArI Z h b .byte n f) (h0 : ¬ j < 0) (h1 : j.toNatClampNeg < n) (hv : f j.toNatClampNeg = x) (hd : decode c.code pc = .ok (.baload, 1)) (hp : pc + 1 = pc') (k : Goes p e below K T (mkF m pc' Ls (.int (x) :: st))) : Goes p e below K T (mkF m pc Ls (.int j :: .ref b :: st)) := by
  obtain ⟨cl, A, hs, H⟩ := A
  exact g_baload X hx hZ eT A (ArI.inb hs h0 h1) (by rw [H _ h1, hv]) hd hp k
theorem g_arraylengthI (X : Stand p l e R s m args below meth c T locs cells slots) (hx : p.tables.exec = Jvm.exec) (hZ : Z.Warmed39 s.vm) (eT : T.heap = h) {b : Addr} {n : Nat} {f : Nat → Int32} {ty : FieldType} {z : Int32} (A : ArI Z h b ty n f) (hz : n.toInt32 = z) (hd : decode c.code pc = .ok (.arraylength, 1)) (hp : pc + 1 = pc') (k : Goes p e below K T (mkF m pc' Ls (.int z :: st))) : Goes p e below K T (mkF m pc Ls (.ref b :: st)) := by
  obtain ⟨cl, A, hs, H⟩ := A
  exact g_arraylength X hx hZ eT A (by rw [hs, hz]) hd hp k
theorem g_iastore' (X : Stand p l e R s m args below meth c T locs cells slots) (hx : p.tables.exec = Jvm.exec) (hZ : Z.Warmed39 s.vm) (eT : T.heap = h) {b : Addr} {n : Nat} {f : Nat → Int32} {j : Int32} {x : Int32} (A : ArI Z h b .int n f) (h0 : ¬ j < 0) (h1 : j.toNatClampNeg < n) (hd : decode c.code pc = .ok (.iastore, 1)) (hp : pc + 1 = pc') (k : ∀ T' h', Stand p l e R s m args below meth c T' (locs ++ [⟨b, j.toNatClampNeg⟩]) cells slots → T'.heap = h' → Wr h h' b j.toNatClampNeg (.int (x)) → ArI Z h' b .int n (fun k => if k = j.toNatClampNeg then x else f k) → Goes p e below K T' (mkF m pc' Ls st)) : Goes p e below K T (mkF m pc Ls (.int (x) :: .int j :: .ref b :: st)) := by
  have A' := A
  obtain ⟨cl, A, hs, H⟩ := A
  exact g_iastore X hx hZ eT A (ArI.inb hs h0 h1) hd hp (fun T' h' X' e' W' => k T' h' X' e' W' (A'.set W'))
theorem g_castore' (X : Stand p l e R s m args below meth c T locs cells slots) (hx : p.tables.exec = Jvm.exec) (hZ : Z.Warmed39 s.vm) (eT : T.heap = h) {b : Addr} {n : Nat} {f : Nat → Int32} {j : Int32} {x : Int32} (A : ArI Z h b .char n f) (h0 : ¬ j < 0) (h1 : j.toNatClampNeg < n) (hd : decode c.code pc = .ok (.castore, 1)) (hp : pc + 1 = pc') (k : ∀ T' h', Stand p l e R s m args below meth c T' (locs ++ [⟨b, j.toNatClampNeg⟩]) cells slots → T'.heap = h' → Wr h h' b j.toNatClampNeg (.int (nar .char x)) → ArI Z h' b .char n (fun k => if k = j.toNatClampNeg then nar .char x else f k) → Goes p e below K T' (mkF m pc' Ls st)) : Goes p e below K T (mkF m pc Ls (.int (x) :: .int j :: .ref b :: st)) := by
  have A' := A
  obtain ⟨cl, A, hs, H⟩ := A
  exact g_castore X hx hZ eT A (ArI.inb hs h0 h1) hd hp (fun T' h' X' e' W' => k T' h' X' e' W' (A'.set W'))
theorem g_bastore' (X : Stand p l e R s m args below meth c T locs cells slots) (hx : p.tables.exec = Jvm.exec) (hZ : Z.Warmed39 s.vm) (eT : T.heap = h) {b : Addr} {n : Nat} {f : Nat → Int32} {j : Int32} {x : Int32} (A : ArI Z h b .byte n f) (h0 : ¬ j < 0) (h1 : j.toNatClampNeg < n) (hd : decode c.code pc = .ok (.bastore, 1)) (hp : pc + 1 = pc') (k : ∀ T' h', Stand p l e R s m args below meth c T' (locs ++ [⟨b, j.toNatClampNeg⟩]) cells slots → T'.heap = h' → Wr h h' b j.toNatClampNeg (.int (nar .byte x)) → ArI Z h' b .byte n (fun k => if k = j.toNatClampNeg then nar .byte x else f k) → Goes p e below K T' (mkF m pc' Ls st)) : Goes p e below K T (mkF m pc Ls (.int (x) :: .int j :: .ref b :: st)) := by
  have A' := A
  obtain ⟨cl, A, hs, H⟩ := A
  exact g_bastore X hx hZ eT A (ArI.inb hs h0 h1) hd hp (fun T' h' X' e' W' => k T' h' X' e' W' (A'.set W'))
end ArGI
def ArJ (Z : State) (h : Heap) (b : Addr) (ty : FieldType) (n : Nat) (f : Nat → Int64) : Prop := ∃ cl, Arr Z h b cl ty ∧ cl.slots.size = n ∧ ∀ j, j < n → cl.slots[j]? = some (.long (f j))
section ArSJ
variable {Z : State} {h h' : Heap} {a b : Addr} {ty : FieldType} {n sl : Nat} {f : Nat → Int64} {v : Value} {ws : List Addr}
theorem ArJ.new {cA : ClassId} {z : Int32} (A : Arr Z h a (newA cA ty z) ty) (x : Int64) (hd : defaultValue ty = .long x) : ArJ Z h a ty z.toNatClampNeg (fun _ => x) := ⟨_, A, sz_new _ _ _, fun j hj => by simp only [newA, ← hd]; rw [Array.getElem?_replicate, if_pos hj]⟩
theorem ArJ.lt (F : ArJ Z h b ty n f) : b < h.size := by obtain ⟨c, A, -⟩ := F; exact A.lt
theorem ArJ.ext (F : ArJ Z h b ty n f) (E : Ext h h') : ArJ Z h' b ty n f := by obtain ⟨c, A, r⟩ := F; exact ⟨c, A.ext E, r⟩
theorem ArJ.other (F : ArJ Z h b ty n f) (W : Wr h h' a sl v) (q : b ≠ a) : ArJ Z h' b ty n f := by obtain ⟨c, A, r⟩ := F; exact ⟨c, A.other W q, r⟩
theorem ArJ.keep (F : ArJ Z h b ty n f) (K : Keep h h' ws) (q : b ∉ ws) : ArJ Z h' b ty n f := by obtain ⟨c, A, r⟩ := F; exact ⟨c, ⟨K.2.1 b c A.1 q, A.2⟩, r⟩
theorem ArJ.set {x : Int64} (F : ArJ Z h b ty n f) (W : Wr h h' b sl (.long (x))) : ArJ Z h' b ty n (fun k => if k = sl then x else f k) := by
  obtain ⟨c, A, hs, H⟩ := F
  refine ⟨_, A.same W, by rw [sz_set]; exact hs, fun j hj => ?_⟩
  by_cases e : j = sl
  · subst e; simp only [Cell.setSlot, if_true]; rw [Array.getElem?_setIfInBounds_self_of_lt (by rw [hs]; exact hj)]
  · simp only [Cell.setSlot]; rw [Array.getElem?_setIfInBounds_ne (Ne.symm e), if_neg e]; exact H j hj
theorem ArJ.inb {j : Int32} {c : Cell} (hs : c.slots.size = n) (h0 : ¬ j < 0) (h1 : j.toNatClampNeg < n) : ¬ (j < 0 ∨ c.slots.size ≤ j.toNatClampNeg) := by rw [hs]; rintro (q | q); exact h0 q; omega
end ArSJ
section ArGJ
variable {p : Program} {l : Launch} {e : Env} {R : Room} {s : State} {m : MethodId} {args : Array Value} {below : List Frame} {meth : Method} {c : Code} {T : State} {locs : List Loc} {cells slots : Nat} {Z : State} {a0 : Array Value} {h : Heap} {K : Outcome → State → Prop} {pc pc' : Nat} {Ls : Array Slot} {st : List Value}
theorem g_laload' (X : Stand p l e R s m args below meth c T locs cells slots) (hx : p.tables.exec = Jvm.exec) (hZ : Z.Warmed39 s.vm) (eT : T.heap = h) {b : Addr} {n : Nat} {f : Nat → Int64} {j : Int32} {x : Int64} (A : ArJ Z h b .long n f) (h0 : ¬ j < 0) (h1 : j.toNatClampNeg < n) (hv : f j.toNatClampNeg = x) (hd : decode c.code pc = .ok (.laload, 1)) (hp : pc + 1 = pc') (k : Goes p e below K T (mkF m pc' Ls (.long (x) :: st))) : Goes p e below K T (mkF m pc Ls (.int j :: .ref b :: st)) := by
  obtain ⟨cl, A, hs, H⟩ := A
  exact g_laload X hx hZ eT A (ArJ.inb hs h0 h1) (by rw [H _ h1, hv]) hd hp k
theorem g_arraylengthJ (X : Stand p l e R s m args below meth c T locs cells slots) (hx : p.tables.exec = Jvm.exec) (hZ : Z.Warmed39 s.vm) (eT : T.heap = h) {b : Addr} {n : Nat} {f : Nat → Int64} {ty : FieldType} {z : Int32} (A : ArJ Z h b ty n f) (hz : n.toInt32 = z) (hd : decode c.code pc = .ok (.arraylength, 1)) (hp : pc + 1 = pc') (k : Goes p e below K T (mkF m pc' Ls (.int z :: st))) : Goes p e below K T (mkF m pc Ls (.ref b :: st)) := by
  obtain ⟨cl, A, hs, H⟩ := A
  exact g_arraylength X hx hZ eT A (by rw [hs, hz]) hd hp k
theorem g_lastore' (X : Stand p l e R s m args below meth c T locs cells slots) (hx : p.tables.exec = Jvm.exec) (hZ : Z.Warmed39 s.vm) (eT : T.heap = h) {b : Addr} {n : Nat} {f : Nat → Int64} {j : Int32} {x : Int64} (A : ArJ Z h b .long n f) (h0 : ¬ j < 0) (h1 : j.toNatClampNeg < n) (hd : decode c.code pc = .ok (.lastore, 1)) (hp : pc + 1 = pc') (k : ∀ T' h', Stand p l e R s m args below meth c T' (locs ++ [⟨b, j.toNatClampNeg⟩]) cells slots → T'.heap = h' → Wr h h' b j.toNatClampNeg (.long (x)) → ArJ Z h' b .long n (fun k => if k = j.toNatClampNeg then x else f k) → Goes p e below K T' (mkF m pc' Ls st)) : Goes p e below K T (mkF m pc Ls (.long (x) :: .int j :: .ref b :: st)) := by
  have A' := A
  obtain ⟨cl, A, hs, H⟩ := A
  exact g_lastore X hx hZ eT A (ArJ.inb hs h0 h1) hd hp (fun T' h' X' e' W' => k T' h' X' e' W' (A'.set W'))
end ArGJ
def ArV (Z : State) (h : Heap) (b : Addr) (ty : FieldType) (n : Nat) (f : Nat → Value) : Prop := ∃ cl, Arr Z h b cl ty ∧ cl.slots.size = n ∧ ∀ j, j < n → cl.slots[j]? = some (f j)
section ArSV
variable {Z : State} {h h' : Heap} {a b : Addr} {ty : FieldType} {n sl : Nat} {f : Nat → Value} {v : Value} {ws : List Addr}
theorem ArV.new {cA : ClassId} {z : Int32} (A : Arr Z h a (newA cA ty z) ty) (x : Value) (hd : defaultValue ty = x) : ArV Z h a ty z.toNatClampNeg (fun _ => x) := ⟨_, A, sz_new _ _ _, fun j hj => by simp only [newA, ← hd]; rw [Array.getElem?_replicate, if_pos hj]⟩
theorem ArV.lt (F : ArV Z h b ty n f) : b < h.size := by obtain ⟨c, A, -⟩ := F; exact A.lt
theorem ArV.ext (F : ArV Z h b ty n f) (E : Ext h h') : ArV Z h' b ty n f := by obtain ⟨c, A, r⟩ := F; exact ⟨c, A.ext E, r⟩
theorem ArV.other (F : ArV Z h b ty n f) (W : Wr h h' a sl v) (q : b ≠ a) : ArV Z h' b ty n f := by obtain ⟨c, A, r⟩ := F; exact ⟨c, A.other W q, r⟩
theorem ArV.keep (F : ArV Z h b ty n f) (K : Keep h h' ws) (q : b ∉ ws) : ArV Z h' b ty n f := by obtain ⟨c, A, r⟩ := F; exact ⟨c, ⟨K.2.1 b c A.1 q, A.2⟩, r⟩
theorem ArV.set {x : Value} (F : ArV Z h b ty n f) (W : Wr h h' b sl (x)) : ArV Z h' b ty n (fun k => if k = sl then x else f k) := by
  obtain ⟨c, A, hs, H⟩ := F
  refine ⟨_, A.same W, by rw [sz_set]; exact hs, fun j hj => ?_⟩
  by_cases e : j = sl
  · subst e; simp only [Cell.setSlot, if_true]; rw [Array.getElem?_setIfInBounds_self_of_lt (by rw [hs]; exact hj)]
  · simp only [Cell.setSlot]; rw [Array.getElem?_setIfInBounds_ne (Ne.symm e), if_neg e]; exact H j hj
theorem ArV.inb {j : Int32} {c : Cell} (hs : c.slots.size = n) (h0 : ¬ j < 0) (h1 : j.toNatClampNeg < n) : ¬ (j < 0 ∨ c.slots.size ≤ j.toNatClampNeg) := by rw [hs]; rintro (q | q); exact h0 q; omega
end ArSV
section ArGV
variable {p : Program} {l : Launch} {e : Env} {R : Room} {s : State} {m : MethodId} {args : Array Value} {below : List Frame} {meth : Method} {c : Code} {T : State} {locs : List Loc} {cells slots : Nat} {Z : State} {a0 : Array Value} {h : Heap} {K : Outcome → State → Prop} {pc pc' : Nat} {Ls : Array Slot} {st : List Value}
theorem g_aaload' (X : Stand p l e R s m args below meth c T locs cells slots) (hx : p.tables.exec = Jvm.exec) (hZ : Z.Warmed39 s.vm) (eT : T.heap = h) {b : Addr} {n : Nat} {f : Nat → Value} {j : Int32} {x : Value} {ty : FieldType} (A : ArV Z h b ty n f) (h0 : ¬ j < 0) (h1 : j.toNatClampNeg < n) (hv : f j.toNatClampNeg = x) (hty : ty.isReference = true) (hd : decode c.code pc = .ok (.aaload, 1)) (hp : pc + 1 = pc') (k : Goes p e below K T (mkF m pc' Ls (x :: st))) : Goes p e below K T (mkF m pc Ls (.int j :: .ref b :: st)) := by
  obtain ⟨cl, A, hs, H⟩ := A
  exact g_aaload X hx hZ eT A hty (ArV.inb hs h0 h1) (by rw [H _ h1, hv]) hd hp k
theorem g_arraylengthV (X : Stand p l e R s m args below meth c T locs cells slots) (hx : p.tables.exec = Jvm.exec) (hZ : Z.Warmed39 s.vm) (eT : T.heap = h) {b : Addr} {n : Nat} {f : Nat → Value} {ty : FieldType} {z : Int32} (A : ArV Z h b ty n f) (hz : n.toInt32 = z) (hd : decode c.code pc = .ok (.arraylength, 1)) (hp : pc + 1 = pc') (k : Goes p e below K T (mkF m pc' Ls (.int z :: st))) : Goes p e below K T (mkF m pc Ls (.ref b :: st)) := by
  obtain ⟨cl, A, hs, H⟩ := A
  exact g_arraylength X hx hZ eT A (by rw [hs, hz]) hd hp k
theorem g_aastore' (X : Stand p l e R s m args below meth c T locs cells slots) (hx : p.tables.exec = Jvm.exec) (hZ : Z.Warmed39 s.vm) (eT : T.heap = h) {b : Addr} {n : Nat} {f : Nat → Value} {j : Int32} {x : Value} {ty : FieldType} (A : ArV Z h b ty n f) (h0 : ¬ j < 0) (h1 : j.toNatClampNeg < n) (hty : ty.isReference = true) (F : Sto Z h b x) (hd : decode c.code pc = .ok (.aastore, 1)) (hp : pc + 1 = pc') (k : ∀ T' h', Stand p l e R s m args below meth c T' (locs ++ [⟨b, j.toNatClampNeg⟩]) cells slots → T'.heap = h' → Wr h h' b j.toNatClampNeg (x) → ArV Z h' b ty n (fun k => if k = j.toNatClampNeg then x else f k) → Goes p e below K T' (mkF m pc' Ls st)) : Goes p e below K T (mkF m pc Ls (x :: .int j :: .ref b :: st)) := by
  have A' := A
  obtain ⟨cl, A, hs, H⟩ := A
  exact g_aastore X hx hZ eT A hty F (ArV.inb hs h0 h1) hd hp (fun T' h' X' e' W' => k T' h' X' e' W' (A'.set W'))
end ArGV
section OwnW
variable {p : Program} {l : Launch} {e : Env} {R : Room} {s : State} {m : MethodId} {args : Array Value} {below : List Frame} {meth : Method} {c : Code} {T : State} {locs : List Loc} {cells slots : Nat} {Z : State} {a0 : Array Value} {h : Heap} {K : Outcome → State → Prop} {pc pc' : Nat} {Ls : Array Slot} {st : List Value}
abbrev KW (s : State) (C S : Nat) (Q : Option Value → Heap → List Loc → Prop) : Outcome → State → Prop := fun o u => ∃ v L, o = .returned v ∧ Q v u.heap L ∧ ReturnedEndW s o u L C S
abbrev CtrW (l : Launch) (Z : State) (y : MethodName) (bytes : ByteArray) (maxL : Nat) (ret : Option FieldType) (ws : List Jvm.Cond) (rm : Room) (C S : Nat) (as' : Array Value) (h0 : Heap) (Q : Option Value → Heap → List Loc → Prop) : Prop := MetFree l y (head1 (Jvm.Cond.code y bytes maxL ret :: ws) rm) (fun a U => a = as' ∧ Z.Warmed39 U.vm ∧ U.heap = h0 ∧ U.vm.interned = Z.vm.interned) (fun _ _ _ _ _ => True) (fun _ U o U' => ∃ v L, o = .returned v ∧ Q v U'.heap L ∧ ReturnedEndW U o U' L C S)
theorem CtrW.of {y : MethodName} {bytes : ByteArray} {maxL : Nat} {ret : Option FieldType} {ws : List Jvm.Cond} {rm : Room} {C S : Nat} {as' : Array Value} {h0 : Heap} {Q : Option Value → Heap → List Loc → Prop} (hpn : plainFor y = true)
    (body : ∀ (p : Program) (e : Env) (s : State) (m : MethodId) (below : List Frame) (meth : Method) (c : Code) (s₁ : State), p.tables.exec = Jvm.exec → c.code = bytes → c.maxLocals = maxL → s.vm.findClass y.cls = some m.cls → meth.name = y.name → meth.sig.returnType = ret → meth.locks = false → Z.Warmed39 s.vm → Stand p l e rm (s.setVm s.vm) m as' below meth c s₁ [] 0 0 → s₁.heap = h0 → s.Since s.vm s.heap.size → s.heap = h0 → s.vm.interned = Z.vm.interned → Goes p e below (KW s C S Q) s₁ (entryFrame m as' maxL)) :
    CtrW l Z y bytes maxL ret ws rm C S as' h0 Q := by
  refine MetFree.of_bodySF hpn hisR ?_
  intro p e s m args below meth c s₁ Bd hml0 hP hK
  obtain ⟨rfl, hZ, hh, hint⟩ := hP
  have hlk : meth.locks = false := BodyLoose.notSynchronized Bd
  exact body p e s m below meth c s₁ Bd.exec Bd.bytes hml0 (findClass_of_methodNamed Bd.named) (name_of_methodNamed Bd.named Bd.method).1 Bd.returns hlk hZ (Stand.of_body Bd) (by rw [← hh, Bd.state]; rfl) (State.WarmedH.since (State.WarmedH.refl s) _) hh hint
theorem g_ldcS {vm0 : Vm} (X : Stand p l e R (s.setVm vm0) m args below meth c T locs cells slots) (hx : p.tables.exec = Jvm.exec) (hZ : Z.Warmed39 vm0) {own text : String} {ix : Nat} (hown : vm0.findClass own = some m.cls) (w : (Cond.stringLink own ix text).before a0 Z = true) (wS : ∀ a ∈ Bundle.stringAtoms, a.before a0 Z = true) (eT : T.heap = h) {k0 : Nat} (hS : s.Since vm0 k0) (hk : k0 ≤ h.size) (hd : decode c.code pc = .ok (.ldc ix, 2)) (hp : pc + 2 = pc') (n : Nat) (hn : 4 * text.toList.length ≤ n) (hbig : n ≤ 536870912) (hc : cells + 2 ≤ R.cells) (hl : slots + (n + 4) ≤ R.slots) (k : ∀ (a : Addr) (T' : State) (h' : Heap) (k1 : Nat), Stand p l e R (s.setVm T'.vm) m args below meth c T' locs (cells + 2) (slots + (n + 4)) → T'.heap = h' → Ext h h' → s.Since T'.vm k1 → k1 ≤ h'.size → Z.Warmed39 T'.vm → T'.vm.findClass own = some m.cls → Goes p e below K T' (mkF m pc' Ls (.ref a :: st))) : Goes p e below K T (mkF m pc Ls st) := by
  subst hp
  obtain ⟨a, T1, h1, k1, X1, e1, E1, S1, g1, Z1, o1, f1⟩ := ldcS X hx hZ hown w wS eT hS hk (g := mkF m pc Ls st) rfl hd hn hbig hc hl
  exact Goes.by' f1 (k a T1 h1 k1 X1 e1 E1 S1 g1 Z1 o1)
theorem g_ldcSV {vm0 : Vm} (X : Stand p l e R (s.setVm vm0) m args below meth c T locs cells slots) (hx : p.tables.exec = Jvm.exec) (hZ : Z.Warmed39 vm0) {own text : String} {ix : Nat} {Ts : List String} (hown : vm0.findClass own = some m.cls) (w : (Cond.stringLink own ix text).before a0 Z = true) (wS : ∀ a ∈ Bundle.stringAtoms, a.before a0 Z = true) (eT : T.heap = h) {k0 : Nat} (hS : s.Since vm0 k0) (hk : k0 ≤ h.size) (N : Fr s.heap.size locs) (hkeep : ∀ (b : Addr) (cl : Cell), Z.heap[b]? = some cl → s.heap[b]? = some cl) (I : IB Z vm0 Ts) (hnot : text ∉ Ts) (hh : Jvm.Lit.constHeld Z own ix) (hcw : Jvm.Lit.compactW.before a0 Z = true) (vs : List Value) (z : Int32) (ht : (∀ c ∈ text.toList, c.toNat < 256) ∧ text.toList.map (fun c => Value.int (Jvm.Lit.byteI c.toNat.toUInt16)) = vs) (hz : ¬ z < 0) (hl : z.toNatClampNeg = vs.length) (hd : decode c.code pc = .ok (.ldc ix, 2)) (hp : pc + 2 = pc') (n : Nat) (hn : 4 * text.toList.length ≤ n) (hbig : n ≤ 536870912) (hc : cells + 2 ≤ R.cells) (hl' : slots + (n + 4) ≤ R.slots) (k : ∀ (a : Addr) (T' : State) (h' : Heap) (k1 : Nat) (b : Addr) (cA : ClassId), Stand p l e R (s.setVm T'.vm) m args below meth c T' locs (cells + 2) (slots + (n + 4)) → T'.heap = h' → Ext h h' → s.Since T'.vm k1 → k1 ≤ h'.size → Z.Warmed39 T'.vm → T'.vm.findClass own = some m.cls → Exa Z h' a "java/lang/String" → Fld Z h' a "java/lang/String" "coder" "B" (.int 0) → Fld Z h' a "java/lang/String" "value" "[B" (.ref b) → Arv Z h' b cA .byte z vs (.int 0) → IB Z T'.vm (text :: Ts) → Goes p e below K T' (mkF m pc' Ls (.ref a :: st))) : Goes p e below K T (mkF m pc Ls st) := by
  subst hp
  obtain ⟨a, T1, h1, k1, b, cA, X1, e1, E1, S1, g1, Z1, o1, q1, q2, q3, q4, -, -, q5, f1⟩ := ldcSV X hx hZ hown w wS eT hS hk N hkeep I hnot hh hcw ht hz hl (g := mkF m pc Ls st) rfl hd hn hbig hc hl'
  exact Goes.by' f1 (k a T1 h1 k1 b cA X1 e1 E1 S1 g1 Z1 o1 q1 q2 q3 q4 q5)
theorem g_retNW {vm0 : Vm} (X : Stand p l e R (s.setVm vm0) m args below meth c T locs cells slots) (hx : p.tables.exec = Jvm.exec) {C S : Nat} {Q : Option Value → Heap → List Loc → Prop} {z : Int32} {t : FieldType} (ht : t = .boolean ∨ t = .byte ∨ t = .char ∨ t = .short) (hlk : meth.locks = false) (hret : meth.sig.returnType = some t) (eT : T.heap = h) {k0 : Nat} (hS : s.Since vm0 k0) (hk : k0 ≤ h.size) (hc : cells ≤ C) (hs : slots ≤ S) (hd : decode c.code pc = .ok (.ireturn, 1)) (hQ : Q (some (.int (nar t z))) h locs) : Goes p e below (KW s C S Q) T (mkF m pc Ls (.int z :: st)) := by
  subst eT
  obtain ⟨fs, hr, hrun, hended, q1, q2, q3, q4⟩ := X.leaveW hS hk (v := some (.int (nar t z))) (fun q => by rw [hret] at q; cases q) hlk
  exact ⟨_, _, retN X hx hret ht hd hr, hrun, hended, _, _, rfl, hQ, q1, q2, q3, q4.mono hc hs⟩
theorem own_ib {vm : Vm} (q : vm.interned = Z.vm.interned) : IB Z vm [] := ⟨#[], by simp [q], fun x hx => by simp at hx⟩
end OwnW
theorem own_fin {P : Int32 → Prop} (N : Nat) (hN : N ≤ 2 ^ 31) (hP : ∀ n : Fin N, P (Int32.ofNat n.val)) (d : Int32) (h0 : 0 ≤ d.toInt) (h1 : d.toInt < (N : Int)) : P d := by
  have e : d = Int32.ofNat d.toInt.toNat := by
    apply Int32.toInt_inj.mp
    rw [Int32.toInt_ofNat_of_lt (by omega)]
    omega
  rw [e]
  exact hP ⟨d.toInt.toNat, by omega⟩
theorem own_ltI {x y : Int32} : x < y ↔ x.toInt < y.toInt := Int32.lt_iff_toInt_lt
theorem own_nneg {i : Int32} (h : 0 ≤ i.toInt) : ¬ i < 0 := by rw [own_ltI, show (0 : Int32).toInt = 0 from rfl]; omega
theorem own_tnc (i : Int32) : i.toNatClampNeg = i.toInt.toNat := rfl
theorem own_inc {i : Int32} (h : i.toInt < 2147483647) : (i + 1).toInt = i.toInt + 1 := by
  have e := c_iadd i 1
  have r := rng32 (i + 1)
  have r2 := rng32 i
  rw [show (1 : Int32).toInt = 1 from rfl] at e
  omega
theorem own_rem (a m : Int32) (hm : 0 < m.toInt) : 0 ≤ ((a &&& 2147483647) % m).toInt ∧ ((a &&& 2147483647) % m).toInt < m.toInt := by
  have e1 := c_mask a 2147483647 31 (by decide) (by decide)
  have e2 := (c_iremV (a &&& 2147483647) m).1 (by rw [e1]; omega) hm
  exact ⟨e2.1, e2.2.1⟩
theorem cm_lt (x y : Int64) : XT.cmpL x y < 0 ↔ x < y := by unfold XT.cmpL; split <;> (try split) <;> simp_all [Int64.lt_iff_toInt_lt, ← Int64.toInt_inj] <;> omega
theorem cm_gt (x y : Int64) : 0 < XT.cmpL x y ↔ y < x := by unfold XT.cmpL; split <;> (try split) <;> simp_all [Int64.lt_iff_toInt_lt, ← Int64.toInt_inj] <;> omega
theorem cm_eq (x y : Int64) : XT.cmpL x y = 0 ↔ x = y := by unfold XT.cmpL; split <;> (try split) <;> simp_all [Int64.lt_iff_toInt_lt, ← Int64.toInt_inj] <;> omega
theorem own_b1 {P : Prop} [Decidable P] (q : P) : some (Value.int (nar .boolean 1)) = some (.int (if P then 1 else 0)) := by rw [if_pos q]; rfl
theorem own_b0 {P : Prop} [Decidable P] (q : ¬ P) : some (Value.int (nar .boolean 0)) = some (.int (if P then 1 else 0)) := by rw [if_neg q]; rfl
theorem d1_0 : decode prog_18_method_1_code 0 = .ok (.aload_n 0, 1) := by decide +kernel
theorem d1_1 : decode prog_18_method_1_code 1 = .ok (.invokespecial 1, 3) := by decide +kernel
theorem d1_4 : decode prog_18_method_1_code 4 = .ok (.aload_n 0, 1) := by decide +kernel
theorem d1_5 : decode prog_18_method_1_code 5 = .ok (.iload_n 1, 1) := by decide +kernel
theorem d1_6 : decode prog_18_method_1_code 6 = .ok (.newarray .byte, 2) := by decide +kernel
theorem d1_8 : decode prog_18_method_1_code 8 = .ok (.putfield 7, 3) := by decide +kernel
theorem d1_11 : decode prog_18_method_1_code 11 = .ok (.return_, 1) := by decide +kernel
theorem d3_0 : decode prog_18_method_5_code 0 = .ok (.aload_n 0, 1) := by decide +kernel
theorem d3_1 : decode prog_18_method_5_code 1 = .ok (.getfield 7, 3) := by decide +kernel
theorem d3_4 : decode prog_18_method_5_code 4 = .ok (.iload_n 1, 1) := by decide +kernel
theorem d3_5 : decode prog_18_method_5_code 5 = .ok (.bipush 8, 2) := by decide +kernel
theorem d3_7 : decode prog_18_method_5_code 7 = .ok (.idiv, 1) := by decide +kernel
theorem d3_8 : decode prog_18_method_5_code 8 = .ok (.dup2, 1) := by decide +kernel
theorem d3_9 : decode prog_18_method_5_code 9 = .ok (.baload, 1) := by decide +kernel
theorem d3_10 : decode prog_18_method_5_code 10 = .ok (.iconst 1, 1) := by decide +kernel
theorem d3_11 : decode prog_18_method_5_code 11 = .ok (.iload_n 1, 1) := by decide +kernel
theorem d3_12 : decode prog_18_method_5_code 12 = .ok (.bipush 8, 2) := by decide +kernel
theorem d3_14 : decode prog_18_method_5_code 14 = .ok (.irem, 1) := by decide +kernel
theorem d3_15 : decode prog_18_method_5_code 15 = .ok (.ishl, 1) := by decide +kernel
theorem d3_16 : decode prog_18_method_5_code 16 = .ok (.i2b, 1) := by decide +kernel
theorem d3_17 : decode prog_18_method_5_code 17 = .ok (.ior, 1) := by decide +kernel
theorem d3_18 : decode prog_18_method_5_code 18 = .ok (.i2b, 1) := by decide +kernel
theorem d3_19 : decode prog_18_method_5_code 19 = .ok (.bastore, 1) := by decide +kernel
theorem d3_20 : decode prog_18_method_5_code 20 = .ok (.return_, 1) := by decide +kernel
theorem d4_0 : decode prog_18_method_6_code 0 = .ok (.iconst 0, 1) := by decide +kernel
theorem d4_1 : decode prog_18_method_6_code 1 = .ok (.istore_n 3, 1) := by decide +kernel
theorem d4_2 : decode prog_18_method_6_code 2 = .ok (.iconst 0, 1) := by decide +kernel
theorem d4_3 : decode prog_18_method_6_code 3 = .ok (.istore 4, 2) := by decide +kernel
theorem d4_5 : decode prog_18_method_6_code 5 = .ok (.iload 4, 2) := by decide +kernel
theorem d4_7 : decode prog_18_method_6_code 7 = .ok (.iload_n 2, 1) := by decide +kernel
theorem d4_8 : decode prog_18_method_6_code 8 = .ok (.if_icmp .ge 27, 3) := by decide +kernel
theorem d4_11 : decode prog_18_method_6_code 11 = .ok (.aload_n 0, 1) := by decide +kernel
theorem d4_12 : decode prog_18_method_6_code 12 = .ok (.iload_n 1, 1) := by decide +kernel
theorem d4_13 : decode prog_18_method_6_code 13 = .ok (.iload 4, 2) := by decide +kernel
theorem d4_15 : decode prog_18_method_6_code 15 = .ok (.iadd, 1) := by decide +kernel
theorem d4_16 : decode prog_18_method_6_code 16 = .ok (.invokevirtual 66, 3) := by decide +kernel
theorem d4_19 : decode prog_18_method_6_code 19 = .ok (.ifCond .eq 10, 3) := by decide +kernel
theorem d4_22 : decode prog_18_method_6_code 22 = .ok (.iload_n 3, 1) := by decide +kernel
theorem d4_23 : decode prog_18_method_6_code 23 = .ok (.iconst 1, 1) := by decide +kernel
theorem d4_24 : decode prog_18_method_6_code 24 = .ok (.iload 4, 2) := by decide +kernel
theorem d4_26 : decode prog_18_method_6_code 26 = .ok (.ishl, 1) := by decide +kernel
theorem d4_27 : decode prog_18_method_6_code 27 = .ok (.ior, 1) := by decide +kernel
theorem d4_28 : decode prog_18_method_6_code 28 = .ok (.istore_n 3, 1) := by decide +kernel
theorem d4_29 : decode prog_18_method_6_code 29 = .ok (.iinc 4 1, 3) := by decide +kernel
theorem d4_32 : decode prog_18_method_6_code 32 = .ok (.goto (-27), 3) := by decide +kernel
theorem d4_35 : decode prog_18_method_6_code 35 = .ok (.iload_n 3, 1) := by decide +kernel
theorem d4_36 : decode prog_18_method_6_code 36 = .ok (.ireturn, 1) := by decide +kernel
theorem d5_0 : decode prog_18_method_4_code 0 = .ok (.aload_n 0, 1) := by decide +kernel
theorem d5_1 : decode prog_18_method_4_code 1 = .ok (.getfield 7, 3) := by decide +kernel
theorem d5_4 : decode prog_18_method_4_code 4 = .ok (.iload_n 1, 1) := by decide +kernel
theorem d5_5 : decode prog_18_method_4_code 5 = .ok (.bipush 8, 2) := by decide +kernel
theorem d5_7 : decode prog_18_method_4_code 7 = .ok (.idiv, 1) := by decide +kernel
theorem d5_8 : decode prog_18_method_4_code 8 = .ok (.baload, 1) := by decide +kernel
theorem d5_9 : decode prog_18_method_4_code 9 = .ok (.iconst 1, 1) := by decide +kernel
theorem d5_10 : decode prog_18_method_4_code 10 = .ok (.iload_n 1, 1) := by decide +kernel
theorem d5_11 : decode prog_18_method_4_code 11 = .ok (.bipush 8, 2) := by decide +kernel
theorem d5_13 : decode prog_18_method_4_code 13 = .ok (.irem, 1) := by decide +kernel
theorem d5_14 : decode prog_18_method_4_code 14 = .ok (.ishl, 1) := by decide +kernel
theorem d5_15 : decode prog_18_method_4_code 15 = .ok (.iand, 1) := by decide +kernel
theorem d5_16 : decode prog_18_method_4_code 16 = .ok (.ifCond .eq 7, 3) := by decide +kernel
theorem d5_19 : decode prog_18_method_4_code 19 = .ok (.iconst 1, 1) := by decide +kernel
theorem d5_20 : decode prog_18_method_4_code 20 = .ok (.goto 4, 3) := by decide +kernel
theorem d5_23 : decode prog_18_method_4_code 23 = .ok (.iconst 0, 1) := by decide +kernel
theorem d5_24 : decode prog_18_method_4_code 24 = .ok (.ireturn, 1) := by decide +kernel
theorem own_and (x : Int32) (r : Int32) (h0 : 0 ≤ r.toInt) (h1 : r.toInt < 32) : (x &&& ((1 : Int32) <<< (r &&& 31)) = 0) ↔ x.toBitVec.getLsbD r.toInt.toNat = false := by
  have hc : ∀ n : Fin 32, ((1 : Int32) <<< (Int32.ofNat n.val &&& 31)).toBitVec = BitVec.twoPow 32 n.val ∧ (Int32.ofNat n.val).toInt.toNat = n.val := by decide +kernel
  refine own_fin (P := fun r => (x &&& ((1 : Int32) <<< (r &&& 31)) = 0) ↔ x.toBitVec.getLsbD r.toInt.toNat = false) 32 (by decide) (fun n => ?_) r h0 h1
  rw [← Int32.toBitVec_inj, Int32.toBitVec_and, (hc n).1, (hc n).2, BitVec.and_twoPow]
  have hz : (0 : Int32).toBitVec = 0#32 := rfl
  rw [hz]
  by_cases q : x.toBitVec.getLsbD n.val = true
  · rw [if_pos q]
    have hne : ∀ n : Fin 32, ¬ BitVec.twoPow 32 n.val = 0#32 := by decide +kernel
    exact ⟨fun r => absurd r (hne n), fun r => by rw [q] at r; cases r⟩
  · rw [if_neg q]; exact ⟨fun _ => Bool.eq_false_iff.mpr q, fun _ => rfl⟩
theorem own_nb (x : Int32) (s : Nat) (hs : s < 8) : x.toInt8.toInt32.toBitVec.getLsbD s = x.toBitVec.getLsbD s := by
  have e : x.toInt8.toInt32.toBitVec = (x.toBitVec.signExtend 8).signExtend 32 := by rw [Int8.toBitVec_toInt32, Int32.toBitVec_toInt8]
  rw [e, BitVec.getLsbD_signExtend, BitVec.getLsbD_signExtend, if_pos hs, if_pos (by omega : s < 32)]
  simp [hs, show s < 32 by omega]
theorem own_shl (r : Int32) (h0 : 0 ≤ r.toInt) (h1 : r.toInt < 32) (s : Nat) (hs : s < 32) : ((1 : Int32) <<< (r &&& 31)).toBitVec.getLsbD s = decide (s = r.toInt.toNat) := by
  have hc : ∀ n s : Fin 32, ((1 : Int32) <<< (Int32.ofNat n.val &&& 31)).toBitVec.getLsbD s.val = decide (s.val = (Int32.ofNat n.val).toInt.toNat) := by decide +kernel
  exact own_fin (P := fun r => ((1 : Int32) <<< (r &&& 31)).toBitVec.getLsbD s = decide (s = r.toInt.toNat)) 32 (by decide) (fun n => hc n ⟨s, hs⟩) r h0 h1
def own_bits (Z : State) (h : Heap) (a b : Addr) (n : Nat) (B : Nat → Bool) : Prop := Exa Z h a "com/example/tavoliere/tavoliere/IdBits" ∧ Fld Z h a "com/example/tavoliere/tavoliere/IdBits" "bytes" "[B" (.ref b) ∧ ¬ b = a ∧ ∃ cl, Arr Z h b cl .byte ∧ cl.slots.size = n ∧ ∀ j, j < n → ∃ x : Int32, cl.slots[j]? = some (.int x) ∧ ∀ r, r < 8 → x.toBitVec.getLsbD r = B (8 * j + r)
theorem own_idx {i : Int32} {n : Nat} (h0 : 0 ≤ i.toInt) (h1 : i.toInt < 8 * (n : Int)) : (i / 8).toNatClampNeg = i.toInt.toNat / 8 ∧ (i / 8).toNatClampNeg < n ∧ ¬ (i / 8 < 0) ∧ 0 ≤ (i % 8).toInt ∧ (i % 8).toInt < 8 ∧ (i % 8).toInt.toNat = i.toInt.toNat % 8 := by
  have e1 := (c_idiv i 8 8 (by decide) (by decide)).1 h0
  have e2 := (c_irem i 8 8 (by decide)).1 h0
  have e3 : (i / 8).toNatClampNeg = (i / 8).toInt.toNat := rfl
  have e4 : ¬ (i / 8 < 0) := by
    rw [Int32.lt_iff_toInt_lt, e1, show (0 : Int32).toInt = 0 from rfl]; omega
  rw [e3, e1, e2]
  refine ⟨by omega, by omega, e4, by omega, by omega, by omega⟩

theorem own_bit1 (x : Int32) (r : Int32) (h0 : 0 ≤ r.toInt) (h1 : r.toInt < 32) : (XT.ushr x r &&& 1 = 0) ↔ x.toBitVec.getLsbD r.toInt.toNat = false := by
  have hc : ∀ n : Fin 32, (Int32.ofNat n.val &&& 31).toUInt32.toBitVec.toNat % 32 = n.val ∧ (Int32.ofNat n.val).toInt.toNat = n.val := by decide +kernel
  refine own_fin (P := fun r => (XT.ushr x r &&& 1 = 0) ↔ x.toBitVec.getLsbD r.toInt.toNat = false) 32 (by decide) (fun n => ?_) r h0 h1
  have e1 : (XT.ushr x (Int32.ofNat n.val)).toBitVec.getLsbD 0 = x.toBitVec.getLsbD n.val := by
    have e : (XT.ushr x (Int32.ofNat n.val)).toBitVec = x.toBitVec >>> ((Int32.ofNat n.val &&& 31).toUInt32.toBitVec.toNat % 32) := by
      simp only [XT.ushr]
      exact (UInt32.toBitVec_shiftRight x.toUInt32 _).trans (by rw [BitVec.ushiftRight_eq']; congr 1)
    rw [e, (hc n).1, BitVec.getLsbD_ushiftRight, Nat.add_zero]
  rw [(hc n).2, ← e1, ← Int32.toBitVec_inj, Int32.toBitVec_and]
  have h1' : (1 : Int32).toBitVec = BitVec.twoPow 32 0 := by decide
  have hz : (0 : Int32).toBitVec = 0#32 := rfl
  rw [h1', hz, BitVec.and_twoPow]
  by_cases q : (XT.ushr x (Int32.ofNat n.val)).toBitVec.getLsbD 0 = true
  · rw [if_pos q, q]; simp; decide
  · rw [if_neg q]; simpa using q
def own_has (x : Int32) (B : Nat → Bool) : Prop := ∀ k, k < 32 → x.toBitVec.getLsbD k = B k
theorem own_has_or {x : Int32} {B : Nat → Bool} (h : own_has x B) (j : Int32) (h0 : 0 ≤ j.toInt) (h1 : j.toInt < 24) : own_has (x ||| ((1 : Int32) <<< (j &&& 31))) (fun k => B k || decide (k = j.toInt.toNat)) := fun k hk => by
  rw [Int32.toBitVec_or, BitVec.getLsbD_or, h k hk, own_shl j h0 (by omega) k hk]
theorem own_has_eq {x y : Int32} {B : Nat → Bool} (h : own_has x B) (h' : own_has y B) : x = y := by
  apply Int32.toBitVec_inj.mp
  apply BitVec.eq_of_getLsbD_eq
  intro i hi
  rw [h i hi, h' i hi]
theorem own_cut {x : Int32} {B : Nat → Bool} {n : Nat} (h : own_has x (fun u => decide (u < n) && B u)) (hn : n = 24) (hB : ∀ k, 24 ≤ k → B k = false) : own_has x B := fun u hu => by
  rw [h u hu]
  by_cases q : u < 24
  · simp only [hn, q, decide_true, Bool.true_and]
  · simp only [hB u (by omega), Bool.and_false]
theorem own_or24 {B : Nat → Bool} {k n : Nat} (hB : B k = false) (h : ¬ k = n) : (B k || decide (k = n)) = false := by rw [hB, decide_eq_false h]; rfl
theorem own_has_zero {B : Nat → Bool} (h : ∀ k, B k = false) : own_has 0 B := fun k hk => by rw [h k]; simp
theorem ef_rm_init (m : MethodId) (x0 : Addr) (x1 : Int32)  : entryFrame m #[(.ref x0), (.int x1)] 2 = mkF m 0 #[.val (.ref x0), .val (.int x1)] [] := by first | (simp [entryFrame, mkF, argsToLocals, Value.category]; done) | rfl
theorem pn_1 : plainFor (⟨"com/example/tavoliere/tavoliere/IdBits", "<init>", "(I)V"⟩ : MethodName) = true := by first | exact plainFor_of_name (by first | (simp [plainName, overriddenIn]; done) | decide +kernel) | decide +kernel
set_option maxRecDepth 65536 in
set_option maxHeartbeats 40000000 in
theorem rm_init (l : Launch) (Z : State) (a0 : Array Value) (hw : ∀ d ∈ tables_1, d.before a0 Z = true) (a : Addr) (n : Int32) (h0 : Heap) (n0 : Nat) (Z0 : n0 ≤ h0.size) (hn0 : ¬ n < 0) (hn1 : n.toNatClampNeg ≤ 3) (E : Exa Z h0 a "com/example/tavoliere/tavoliere/IdBits") (F : Fld Z h0 a "com/example/tavoliere/tavoliere/IdBits" "bytes" "[B" .null) (ga : n0 ≤ a) :
    Ctr l Z (⟨"com/example/tavoliere/tavoliere/IdBits", "<init>", "(I)V"⟩ : MethodName) prog_18_method_1_code 2 (Option.none : Option FieldType) [] ({ frames := 1, cells := 1, slots := 3, locals := 12 } : Room) ({ frames := 1, cells := 1, slots := 3, locals := 12 } : Room).cells ({ frames := 1, cells := 1, slots := 3, locals := 12 } : Room).slots #[(.ref a), (.int n)] h0 (fun v h L => v = none ∧ Fr n0 L ∧ n0 ≤ h.size ∧ ∃ b, n0 ≤ b ∧ own_bits Z h a b n.toNatClampNeg (fun _ => false)) := by
  refine Ctr.of pn_1 ?_
  intro p e s m below meth c s₁ hx hby hml hown hnm hret hlk hZ X0 e0
  refine Goes.cast (ef_rm_init m a n) ?_
  refine g_aload_n (i := 0) X0 hx (hb hby d1_0) (by rfl) rfl rfl ?_
  refine g_initO X0 hx hZ hown (wd hw 7 rfl) (wd hw 8 rfl) (wd hw 9 rfl) e0 (by rw [hml]; rfl) (hb hby d1_1) rfl (by decide) (by decide) ?_
  intro T2 X2 e2
  refine g_aload_n (i := 0) X2 hx (hb hby d1_4) (by rfl) rfl rfl ?_
  refine g_iload_n (i := 1) X2 hx (hb hby d1_5) (by rfl) rfl ?_
  refine g_newarr X2 hx hZ (ty := .byte) rfl (wd hw 10 rfl) e2 (hb hby d1_6) rfl hn0 3 hn1 (by decide) (by decide) (by decide) ?_
  intro T3 h3 cA3 a3 X3 e3 g3 Ex3 A3
  have hba : ¬ a3 = a := fun q => absurd E.lt (by rw [← q, g3]; exact Nat.lt_irrefl _)
  have hgb : n0 ≤ a3 := by rw [g3]; exact Z0
  refine g_putF X3 hx hZ hown (wd hw 11 rfl) e3 (F.ext Ex3) (E.ext Ex3) (Or.inr ⟨wd hw 12 rfl, rfl, hnm⟩) (wd hw 2 rfl) (ty := (.array .byte)) (by decide) rfl rfl (hb hby d1_8) rfl ?_
  intro T4 h4 X4 e4 W4
  have N4 := Fr.snoc X4 (Fr.nil n0) ga
  exact g_ret X4 hx hlk hret e4 (by decide) (by decide) (hb hby d1_11) ⟨rfl, N4, by rw [W4.size]; exact Nat.le_trans Z0 Ex3.1, a3, hgb, (E.ext Ex3).wr W4, (F.ext Ex3).same W4, hba, _, A3.other W4 hba, sz_new _ _ _, fun j hj => ⟨0, by simp only [newA]; rw [Array.getElem?_replicate, if_pos hj]; rfl, fun r hr => by simp⟩⟩
theorem ef_rm_get (m : MethodId) (x0 : Addr) (x1 : Int32)  : entryFrame m #[(.ref x0), (.int x1)] 2 = mkF m 0 #[.val (.ref x0), .val (.int x1)] [] := by first | (simp [entryFrame, mkF, argsToLocals, Value.category]; done) | rfl
theorem pn_5 : plainFor (⟨"com/example/tavoliere/tavoliere/IdBits", "get", "(I)Z"⟩ : MethodName) = true := by first | exact plainFor_of_name (by first | (simp [plainName, overriddenIn]; done) | decide +kernel) | decide +kernel
set_option maxRecDepth 65536 in
set_option maxHeartbeats 40000000 in
theorem rm_get (l : Launch) (Z : State) (a0 : Array Value) (hw : ∀ d ∈ tables_1, d.before a0 Z = true) (a b : Addr) (i : Int32) (n : Nat) (B : Nat → Bool) (h0 : Heap) (hi0 : 0 ≤ i.toInt) (hi1 : i.toInt < 8 * (n : Int)) (H : own_bits Z h0 a b n B) :
    Ctr l Z (⟨"com/example/tavoliere/tavoliere/IdBits", "get", "(I)Z"⟩ : MethodName) prog_18_method_4_code 2 (Option.some FieldType.boolean) [] ({ frames := 0, cells := 0, slots := 0, locals := 0 } : Room) ({ frames := 0, cells := 0, slots := 0, locals := 0 } : Room).cells ({ frames := 0, cells := 0, slots := 0, locals := 0 } : Room).slots #[(.ref a), (.int i)] h0 (fun v h L => v = some (.int (if B i.toInt.toNat = true then 1 else 0)) ∧ L = [] ∧ h = h0) := by
  refine Ctr.of pn_5 ?_
  intro p e s m below meth c s₁ hx hby hml hown hnm hret hlk hZ X0 e0
  refine Goes.cast (ef_rm_get m a i) ?_
  obtain ⟨E, F, hba, cl, Ar, hs, hat⟩ := H
  obtain ⟨k1, k2, k3, k4, k5, k6⟩ := own_idx hi0 hi1
  obtain ⟨x, hx0, hxb⟩ := hat _ k2
  have hb' : x.toBitVec.getLsbD (i % 8).toInt.toNat = B i.toInt.toNat := by rw [k6, hxb _ (by omega), k1]; congr 1; omega
  refine g_aload_n (i := 0) X0 hx (hb hby d5_0) (by rfl) rfl rfl ?_
  refine g_getF X0 hx hZ hown (wd hw 11 rfl) e0 F (hb hby d5_1) rfl ?_
  intro T6 X6 e6
  refine g_iload_n (i := 1) X6 hx (hb hby d5_4) (by rfl) rfl ?_
  refine g_bipush (v := (8 : Int32)) X6 hx (hb hby d5_5) (by decide) rfl ?_
  refine g_idiv X6 hx (hb hby d5_7) (by decide) rfl ?_
  refine g_baload X6 hx hZ e6 Ar (by rw [hs]; rintro (q | q); exact k3 q; omega) hx0 (hb hby d5_8) rfl ?_
  refine g_iconst (v := (1 : Int32)) X6 hx (hb hby d5_9) (by decide) rfl ?_
  refine g_iload_n (i := 1) X6 hx (hb hby d5_10) (by rfl) rfl ?_
  refine g_bipush (v := (8 : Int32)) X6 hx (hb hby d5_11) (by decide) rfl ?_
  refine g_irem X6 hx (hb hby d5_13) (by decide) rfl ?_
  refine g_ishl X6 hx (hb hby d5_14) rfl ?_
  refine g_iand X6 hx (hb hby d5_15) rfl ?_
  refine g_if_eq X6 hx (hb hby d5_16) (by decide) (pt := 23) (by decide) rfl (fun q => ?_) (fun q => ?_)
  · refine g_iconst (v := (0 : Int32)) X6 hx (hb hby d5_23) (by decide) rfl ?_
    exact g_retN X6 hx (t := .boolean) (by simp) hlk hret e6 (by decide) (by decide) (hb hby d5_24) ⟨own_b0 (by rw [← hb', (own_and x _ k4 (by omega)).mp q]; decide), rfl, rfl⟩
  · refine g_iconst (v := (1 : Int32)) X6 hx (hb hby d5_19) (by decide) rfl ?_
    refine g_goto X6 hx (hb hby d5_20) (by decide) (by decide) (pc' := 24) ?_
    exact g_retN X6 hx (t := .boolean) (by simp) hlk hret e6 (by decide) (by decide) (hb hby d5_24) ⟨own_b1 (by rw [← hb']; exact (by simpa using mt (own_and x _ k4 (by omega)).mpr q)), rfl, rfl⟩
theorem ef_rm_set (m : MethodId) (x0 : Addr) (x1 : Int32)  : entryFrame m #[(.ref x0), (.int x1)] 2 = mkF m 0 #[.val (.ref x0), .val (.int x1)] [] := by first | (simp [entryFrame, mkF, argsToLocals, Value.category]; done) | rfl
theorem pn_7 : plainFor (⟨"com/example/tavoliere/tavoliere/IdBits", "set", "(I)V"⟩ : MethodName) = true := by first | exact plainFor_of_name (by first | (simp [plainName, overriddenIn]; done) | decide +kernel) | decide +kernel
set_option maxRecDepth 65536 in
set_option maxHeartbeats 40000000 in
theorem rm_set (l : Launch) (Z : State) (a0 : Array Value) (hw : ∀ d ∈ tables_1, d.before a0 Z = true) (a b : Addr) (i : Int32) (n : Nat) (B : Nat → Bool) (h0 : Heap) (n0 : Nat) (Z0 : n0 ≤ h0.size) (hi0 : 0 ≤ i.toInt) (hi1 : i.toInt < 8 * (n : Int)) (gb : n0 ≤ b) (H : own_bits Z h0 a b n B) :
    Ctr l Z (⟨"com/example/tavoliere/tavoliere/IdBits", "set", "(I)V"⟩ : MethodName) prog_18_method_5_code 2 (Option.none : Option FieldType) [] ({ frames := 0, cells := 0, slots := 0, locals := 0 } : Room) ({ frames := 0, cells := 0, slots := 0, locals := 0 } : Room).cells ({ frames := 0, cells := 0, slots := 0, locals := 0 } : Room).slots #[(.ref a), (.int i)] h0 (fun v h L => v = none ∧ Fr n0 L ∧ n0 ≤ h.size ∧ own_bits Z h a b n (fun k => B k || decide (k = i.toInt.toNat))) := by
  refine Ctr.of pn_7 ?_
  intro p e s m below meth c s₁ hx hby hml hown hnm hret hlk hZ X0 e0
  refine Goes.cast (ef_rm_set m a i) ?_
  obtain ⟨E, F, hba, cl, Ar, hs, hat⟩ := H
  obtain ⟨k1, k2, k3, k4, k5, k6⟩ := own_idx hi0 hi1
  obtain ⟨x, hx0, hxb⟩ := hat _ k2
  have hin : ¬ (i / 8 < 0 ∨ cl.slots.size ≤ (i / 8).toNatClampNeg) := by rw [hs]; rintro (q | q); exact k3 q; omega
  refine g_aload_n (i := 0) X0 hx (hb hby d3_0) (by rfl) rfl rfl ?_
  refine g_getF X0 hx hZ hown (wd hw 11 rfl) e0 F (hb hby d3_1) rfl ?_
  intro T8 X8 e8
  refine g_iload_n (i := 1) X8 hx (hb hby d3_4) (by rfl) rfl ?_
  refine g_bipush (v := (8 : Int32)) X8 hx (hb hby d3_5) (by decide) rfl ?_
  refine g_idiv X8 hx (hb hby d3_7) (by decide) rfl ?_
  refine g_dup2 X8 hx (hb hby d3_8) rfl rfl rfl ?_
  refine g_baload X8 hx hZ e8 Ar hin hx0 (hb hby d3_9) rfl ?_
  refine g_iconst (v := (1 : Int32)) X8 hx (hb hby d3_10) (by decide) rfl ?_
  refine g_iload_n (i := 1) X8 hx (hb hby d3_11) (by rfl) rfl ?_
  refine g_bipush (v := (8 : Int32)) X8 hx (hb hby d3_12) (by decide) rfl ?_
  refine g_irem X8 hx (hb hby d3_14) (by decide) rfl ?_
  refine g_ishl X8 hx (hb hby d3_15) rfl ?_
  refine g_i2b X8 hx (hb hby d3_16) rfl ?_
  refine g_ior X8 hx (hb hby d3_17) rfl ?_
  refine g_i2b X8 hx (hb hby d3_18) rfl ?_
  refine g_bastore X8 hx hZ e8 Ar hin (hb hby d3_19) rfl ?_
  intro T9 h9 X9 e9 W9
  have N9 := Fr.snoc X9 (Fr.nil n0) gb
  refine g_ret X9 hx hlk hret e9 (by decide) (by decide) (hb hby d3_20) ⟨rfl, N9, by rw [W9.size]; exact Z0, E.wr W9, F.other W9 (Or.inl (Ne.symm hba)), hba, _, Ar.same W9, by rw [sz_set]; exact hs, fun j hj => ?_⟩
  by_cases e : j = (i / 8).toNatClampNeg
  · subst e
    refine ⟨_, by simp only [Cell.setSlot]; rw [Array.getElem?_setIfInBounds_self_of_lt (by rw [hs]; exact k2)], fun r hr => ?_⟩
    simp only [nar]
    rw [own_nb _ r hr, own_nb _ r hr, Int32.toBitVec_or, BitVec.getLsbD_or, own_nb _ r hr, own_shl _ k4 (by omega) r (by omega), hxb r hr, k6, k1]
    congr 1
    simp only [decide_eq_decide]
    omega
  · obtain ⟨z, hz, hzb⟩ := hat j hj
    refine ⟨z, by simp only [Cell.setSlot]; rw [Array.getElem?_setIfInBounds_ne (Ne.symm e)]; exact hz, fun r hr => ?_⟩
    rw [hzb r hr]
    have hq : ¬ (8 * j + r = i.toInt.toNat) := by omega
    show B (8 * j + r) = (B (8 * j + r) || decide (8 * j + r = i.toInt.toNat))
    rw [decide_eq_false hq, Bool.or_false]
theorem ef_rm_num (m : MethodId) (x0 : Addr) (x1 : Int32) (x2 : Int32)  : entryFrame m #[(.ref x0), (.int x1), (.int x2)] 5 = mkF m 0 #[.val (.ref x0), .val (.int x1), .val (.int x2), .unset, .unset] [] := by first | (simp [entryFrame, mkF, argsToLocals, Value.category]; done) | rfl
theorem pn_10 : plainFor (⟨"com/example/tavoliere/tavoliere/IdBits", "number", "(II)I"⟩ : MethodName) = true := by first | exact plainFor_of_name (by first | (simp [plainName, overriddenIn]; done) | decide +kernel) | decide +kernel
theorem pd_11 : parseMethodDescriptor "(I)Z" = some ⟨[.int], some .boolean⟩ := by decide +kernel
set_option maxRecDepth 65536 in
set_option maxHeartbeats 40000000 in
theorem rm_num (l : Launch) (Z : State) (a0 : Array Value) (hw : ∀ d ∈ tables_1, d.before a0 Z = true) (a b : Addr) (B : Nat → Bool) (h0 : Heap) (H : own_bits Z h0 a b 3 B) (hB : ∀ k, 24 ≤ k → B k = false) :
    Ctr l Z (⟨"com/example/tavoliere/tavoliere/IdBits", "number", "(II)I"⟩ : MethodName) prog_18_method_6_code 5 (Option.some FieldType.int) [] ({ frames := 1, cells := 0, slots := 0, locals := 13 } : Room) ({ frames := 1, cells := 0, slots := 0, locals := 13 } : Room).cells ({ frames := 1, cells := 0, slots := 0, locals := 13 } : Room).slots #[(.ref a), (.int (0 : Int32)), (.int (24 : Int32))] h0 (fun v h L => ∃ r : Int32, v = some (.int r) ∧ own_has r B ∧ (∀ y ∈ L, False) ∧ h = h0) := by
  refine Ctr.of pn_10 ?_
  intro p e s m below meth c s₁ hx hby hml hown hnm hret hlk hZ X0 e0
  refine Goes.cast (ef_rm_num m a (0 : Int32) (24 : Int32)) ?_
  refine g_iconst (v := (0 : Int32)) X0 hx (hb hby d4_0) (by decide) rfl ?_
  refine g_istore_n (i := 3) X0 hx #[.val (.ref a), .val (.int (0 : Int32)), .val (.int (24 : Int32)), .val (.int (0 : Int32)), .unset] (hb hby d4_1) rfl rfl ?_
  refine g_iconst (v := (0 : Int32)) X0 hx (hb hby d4_2) (by decide) rfl ?_
  refine g_istore (i := 4) X0 hx #[.val (.ref a), .val (.int (0 : Int32)), .val (.int (24 : Int32)), .val (.int (0 : Int32)), .val (.int (0 : Int32))] (hb hby d4_3) rfl rfl ?_
  have loop : ∀ (k : Nat) (i acc : Int32), 0 ≤ i.toInt → i.toInt + (k : Int) = 24 → own_has acc (fun u => decide (u < i.toInt.toNat) && B u) → ∀ T locs cells slots, Stand p l e ({ frames := 1, cells := 0, slots := 0, locals := 13 } : Room) s m #[(.ref a), (.int (0 : Int32)), (.int (24 : Int32))] below meth c T locs cells slots → T.heap = h0 → (∀ y ∈ locs, False) → cells = 0 → slots = 0 → Goes p e below (KQ s ({ frames := 1, cells := 0, slots := 0, locals := 13 } : Room).cells ({ frames := 1, cells := 0, slots := 0, locals := 13 } : Room).slots (fun v h L => ∃ r : Int32, v = some (.int r) ∧ own_has r B ∧ (∀ y ∈ L, False) ∧ h = h0)) T (mkF m 5 #[.val (.ref a), .val (.int (0 : Int32)), .val (.int (24 : Int32)), .val (.int acc), .val (.int i)] []) := by
    intro k
    induction k with
    | zero =>
      intro i acc g1 g2 g3 T locs cells slots X e0 hN hc0 hs0
      subst hc0 hs0
      refine g_iload (i := 4) X hx (hb hby d4_5) (by rfl) rfl ?_
      refine g_iload_n (i := 2) X hx (hb hby d4_7) (by rfl) rfl ?_
      refine g_icmp_ge X hx (hb hby d4_8) (by decide) (pt := 35) (by decide) rfl (fun _ => ?_) (fun q_ => absurd q_ (by rw [own_ltI, show (24 : Int32).toInt = 24 from rfl]; omega))
      refine g_iload_n (i := 3) X hx (hb hby d4_35) (by rfl) rfl ?_
      exact g_retI X hx hlk hret e0 (by decide) (by decide) (hb hby d4_36) ⟨_, rfl, own_cut g3 (by omega) hB, hN, rfl⟩
    | succ k ih =>
      intro i acc g1 g2 g3 T locs cells slots X e0 hN hc0 hs0
      subst hc0 hs0
      refine g_iload (i := 4) X hx (hb hby d4_5) (by rfl) rfl ?_
      refine g_iload_n (i := 2) X hx (hb hby d4_7) (by rfl) rfl ?_
      refine g_icmp_ge X hx (hb hby d4_8) (by decide) (pt := 35) (by decide) rfl (fun q_ => absurd (by rw [own_ltI, show (24 : Int32).toInt = 24 from rfl]; omega) q_) (fun _ => ?_)
      refine g_aload_n (i := 0) X hx (hb hby d4_11) (by rfl) rfl rfl ?_
      refine g_iload_n (i := 1) X hx (hb hby d4_12) (by rfl) rfl ?_
      refine g_iload (i := 4) X hx (hb hby d4_13) (by rfl) rfl ?_
      refine g_iadd X hx (hb hby d4_15) rfl ?_
      have hz : (0 : Int32) + i = i := Int32.zero_add i
      rw [hz]
      refine g_callV X hx hZ hown (wd hw 23 rfl) (wd hw 24 rfl) (wd hw 26 rfl) (wd hw 25 rfl) (wd hw 3 rfl) (wd hw 27 rfl) (by decide) e0 a H.1 (rm_get l Z a0 hw a b i 3 B h0 g1 (by omega) H) (by rw [hml]; rfl) [(.int i)] [] rfl (lenOf pd_11 rfl) rfl (by show 0 + (2 + 11) + 0 ≤ _; decide) (by decide) (by decide) (by decide) (hb hby d4_16) rfl ?_
      intro T11 v11 L11 X11 hQ11
      obtain ⟨rfl, rfl, e11⟩ := hQ11
      show Goes p e below _ T11 (mkF m 19 #[.val (.ref a), .val (.int (0 : Int32)), .val (.int (24 : Int32)), .val (.int acc), .val (.int i)] [(.int (if B i.toInt.toNat = true then 1 else 0))])
      have e1 := own_inc (i := i) (by omega)
      have hN11 : ∀ y ∈ locs ++ ([] : List Loc), False := by simpa using hN
      refine g_if_eq X11 hx (hb hby d4_19) (by decide) (pt := 29) (by decide) rfl (fun q => ?_) (fun q => ?_)
      · have hbit : B i.toInt.toNat = false := by revert q; cases B i.toInt.toNat <;> simp
        refine g_iinc (i := 4) (x := i) (y := (i + (1 : Int32))) X11 hx #[.val (.ref a), .val (.int (0 : Int32)), .val (.int (24 : Int32)), .val (.int acc), .val (.int (i + (1 : Int32)))] (hb hby d4_29) (by rfl) (by rfl) rfl rfl ?_
        refine g_goto X11 hx (hb hby d4_32) (by decide) (by decide) (pc' := 5) ?_
        refine ih _ _ (by omega) (by omega) ?_ _ _ _ _ X11 e11 hN11 rfl rfl
        intro u hu
        rw [g3 u hu, e1]
        dsimp only
        by_cases q2 : u = i.toInt.toNat
        · subst q2; simp only [hbit, Bool.and_false]
        · have q3 : decide (u < i.toInt.toNat) = decide (u < (i.toInt + 1).toNat) := by simp only [decide_eq_decide]; omega
          rw [q3]
      · have hbit : B i.toInt.toNat = true := by revert q; cases B i.toInt.toNat <;> simp
        refine g_iload_n (i := 3) X11 hx (hb hby d4_22) (by rfl) rfl ?_
        refine g_iconst (v := (1 : Int32)) X11 hx (hb hby d4_23) (by decide) rfl ?_
        refine g_iload (i := 4) X11 hx (hb hby d4_24) (by rfl) rfl ?_
        refine g_ishl X11 hx (hb hby d4_26) rfl ?_
        refine g_ior X11 hx (hb hby d4_27) rfl ?_
        refine g_istore_n (i := 3) X11 hx #[.val (.ref a), .val (.int (0 : Int32)), .val (.int (24 : Int32)), .val (.int (acc ||| ((1 : Int32) <<< (i &&& 31)))), .val (.int i)] (hb hby d4_28) rfl rfl ?_
        refine g_iinc (i := 4) (x := i) (y := (i + (1 : Int32))) X11 hx #[.val (.ref a), .val (.int (0 : Int32)), .val (.int (24 : Int32)), .val (.int (acc ||| ((1 : Int32) <<< (i &&& 31)))), .val (.int (i + (1 : Int32)))] (hb hby d4_29) (by rfl) (by rfl) rfl rfl ?_
        refine g_goto X11 hx (hb hby d4_32) (by decide) (by decide) (pc' := 5) ?_
        refine ih _ _ (by omega) (by omega) ?_ _ _ _ _ X11 e11 hN11 rfl rfl
        intro u hu
        rw [Int32.toBitVec_or, BitVec.getLsbD_or, g3 u hu, own_shl i g1 (by omega) u hu, e1]
        dsimp only
        by_cases q2 : u = i.toInt.toNat
        · subst q2
          rw [hbit, decide_eq_true (show i.toInt.toNat < (i.toInt + 1).toNat by omega), decide_eq_true (rfl : i.toInt.toNat = i.toInt.toNat), Bool.or_true, Bool.and_true]
        · have q3 : decide (u < i.toInt.toNat) = decide (u < (i.toInt + 1).toNat) := by simp only [decide_eq_decide]; omega
          rw [decide_eq_false q2, Bool.or_false, q3]
  exact loop 24 0 0 (by decide) (by decide) (fun u hu => by simp) s₁ [] 0 0 X0 e0 (fun y hy => nomatch hy) rfl rfl
theorem ef_rm0 (m : MethodId) (x0 : Int32) (x1 : Int32) (x2 : Int32) (x3 : Int32) (x4 : Int32)  : entryFrame m #[(.int x0), (.int x1), (.int x2), (.int x3), (.int x4)] maxLocals = mkF m 0 #[.val (.int x0), .val (.int x1), .val (.int x2), .val (.int x3), .val (.int x4), .unset, .unset, .unset, .unset, .unset, .unset, .unset, .unset, .unset, .unset, .unset] [] := by first | (simp [entryFrame, mkF, argsToLocals, Value.category, maxLocals]; done) | rfl
theorem pn_12 : plainFor x = true := by first | exact plainFor_of_name (by first | (simp [plainName, overriddenIn]; done) | decide +kernel) | decide +kernel
theorem pd_14 : parseMethodDescriptor "(I)V" = some ⟨[.int], none⟩ := by decide +kernel
theorem pd_16 : parseMethodDescriptor "(II)I" = some ⟨[.int, .int], some .int⟩ := by decide +kernel
set_option maxRecDepth 65536 in
set_option maxHeartbeats 40000000 in
theorem rm0 (l : Launch) (Z : State) (a0 : Array Value) (hw : ∀ d ∈ tables_1, d.before a0 Z = true) (p0 p1 p2 p3 p4 : Int32) (h0 : Heap) (n0 : Nat) (Z0 : n0 ≤ h0.size) :
    Ctr l Z x code maxLocals ret tables_1 room_1 16 128 #[(.int p0), (.int p1), (.int p2), (.int p3), (.int p4)] h0 (fun v h L => v = some (.int 1) ∧ Fr n0 L) := by
  refine Ctr.of pn_12 ?_
  intro p e s m below meth c s₁ hx hby hml hown hnm hret hlk hZ X0 e0
  refine Goes.cast (ef_rm0 m p0 p1 p2 p3 p4) ?_
  refine g_iload_n (i := 0) X0 hx (hb hby at_0) (by rfl) rfl ?_
  refine g_ldcI X0 hx hZ hown (wd hw 0 rfl) (hb hby at_1) rfl ?_
  refine g_iand X0 hx (hb hby at_3) rfl ?_
  refine g_bipush (v := (24 : Int32)) X0 hx (hb hby at_4) (by decide) rfl ?_
  refine g_irem X0 hx (hb hby at_6) (by decide) rfl ?_
  refine g_istore (i := 5) X0 hx #[.val (.int p0), .val (.int p1), .val (.int p2), .val (.int p3), .val (.int p4), .val (.int ((p0 &&& (2147483647 : Int32)) % (24 : Int32))), .unset, .unset, .unset, .unset, .unset, .unset, .unset, .unset, .unset, .unset] (hb hby at_7) rfl rfl ?_
  obtain ⟨ii0, ii1⟩ := own_rem p0 24 (by decide)
  revert ii0 ii1
  generalize ((p0 &&& (2147483647 : Int32)) % (24 : Int32)) = ii
  intro ii0 ii1
  refine g_iload_n (i := 1) X0 hx (hb hby at_9) (by rfl) rfl ?_
  refine g_ldcI X0 hx hZ hown (wd hw 0 rfl) (hb hby at_10) rfl ?_
  refine g_iand X0 hx (hb hby at_12) rfl ?_
  refine g_bipush (v := (24 : Int32)) X0 hx (hb hby at_13) (by decide) rfl ?_
  refine g_irem X0 hx (hb hby at_15) (by decide) rfl ?_
  refine g_istore (i := 6) X0 hx #[.val (.int p0), .val (.int p1), .val (.int p2), .val (.int p3), .val (.int p4), .val (.int ii), .val (.int ((p1 &&& (2147483647 : Int32)) % (24 : Int32))), .unset, .unset, .unset, .unset, .unset, .unset, .unset, .unset, .unset] (hb hby at_16) rfl rfl ?_
  obtain ⟨jj0, jj1⟩ := own_rem p1 24 (by decide)
  revert jj0 jj1
  generalize ((p1 &&& (2147483647 : Int32)) % (24 : Int32)) = jj
  intro jj0 jj1
  refine g_iload_n (i := 2) X0 hx (hb hby at_18) (by rfl) rfl ?_
  refine g_ldcI X0 hx hZ hown (wd hw 0 rfl) (hb hby at_19) rfl ?_
  refine g_iand X0 hx (hb hby at_21) rfl ?_
  refine g_bipush (v := (24 : Int32)) X0 hx (hb hby at_22) (by decide) rfl ?_
  refine g_irem X0 hx (hb hby at_24) (by decide) rfl ?_
  refine g_istore (i := 7) X0 hx #[.val (.int p0), .val (.int p1), .val (.int p2), .val (.int p3), .val (.int p4), .val (.int ii), .val (.int jj), .val (.int ((p2 &&& (2147483647 : Int32)) % (24 : Int32))), .unset, .unset, .unset, .unset, .unset, .unset, .unset, .unset] (hb hby at_25) rfl rfl ?_
  obtain ⟨mm0, mm1⟩ := own_rem p2 24 (by decide)
  revert mm0 mm1
  generalize ((p2 &&& (2147483647 : Int32)) % (24 : Int32)) = mm
  intro mm0 mm1
  refine g_iload_n (i := 3) X0 hx (hb hby at_27) (by rfl) rfl ?_
  refine g_ldcI X0 hx hZ hown (wd hw 0 rfl) (hb hby at_28) rfl ?_
  refine g_iand X0 hx (hb hby at_30) rfl ?_
  refine g_bipush (v := (24 : Int32)) X0 hx (hb hby at_31) (by decide) rfl ?_
  refine g_irem X0 hx (hb hby at_33) (by decide) rfl ?_
  refine g_istore (i := 8) X0 hx #[.val (.int p0), .val (.int p1), .val (.int p2), .val (.int p3), .val (.int p4), .val (.int ii), .val (.int jj), .val (.int mm), .val (.int ((p3 &&& (2147483647 : Int32)) % (24 : Int32))), .unset, .unset, .unset, .unset, .unset, .unset, .unset] (hb hby at_34) rfl rfl ?_
  obtain ⟨kk0, kk1⟩ := own_rem p3 24 (by decide)
  revert kk0 kk1
  generalize ((p3 &&& (2147483647 : Int32)) % (24 : Int32)) = kk
  intro kk0 kk1
  rw [show (24 : Int32).toInt = 24 from rfl] at ii1 jj1 mm1 kk1
  have J64 : ∀ (pr1 pr2 : Int32), Goes p e below (KQ s 16 128 (fun v h L => v = some (.int 1) ∧ Fr n0 L)) s₁ (mkF m 64 #[.val (.int p0), .val (.int p1), .val (.int p2), .val (.int p3), .val (.int p4), .val (.int ii), .val (.int jj), .val (.int mm), .val (.int kk), .val (.int pr1), .val (.int pr2), .unset, .unset, .unset, .unset, .unset] []) := by
    intro pr1 pr2
    refine g_new X0 hx hZ hown (wd hw 1 rfl) (wd hw 2 rfl) (wd hw 3 rfl) e0 (hb hby at_64) rfl (by decide) (by decide) ?_
    intro T13 h13 a13 X13 e13 g13 Ex13 E13 D13
    have F13_bytes : Fld Z h13 a13 "com/example/tavoliere/tavoliere/IdBits" "bytes" "[B" .null := D13 (Or.inr (wd hw 12 rfl)) (ty := (.array .byte)) (by decide)
    have ga : n0 ≤ a13 := by rw [g13]; exact Z0
    have Z1 : n0 ≤ h13.size := Nat.le_trans Z0 Ex13.1
    refine g_dup X13 hx (hb hby at_67) rfl rfl ?_
    refine g_iconst (v := (3 : Int32)) X13 hx (hb hby at_68) (by decide) rfl ?_
    refine g_callI X13 hx hZ rfl hown (wd hw 4 rfl) (wd hw 5 rfl) (wd hw 3 rfl) (wd hw 6 rfl) (by decide) e13 (rm_init l Z a0 hw a13 (3 : Int32) h13 n0 Z1 (by decide) (by decide) E13 F13_bytes ga) (by rw [hml]; rfl) a13 [(.int (3 : Int32))] [(.ref a13)] rfl (lenOf pd_14 rfl) rfl (by show 1 + (2 + 11) + 12 ≤ _; decide) (by decide) (by decide) (by decide) (hb hby at_69) rfl ?_
    intro T14 v14 L14 X14 hQ14
    obtain ⟨rfl, N14, Z14, b, gb, H⟩ := hQ14
    have N14 := Fr.app (Fr.nil n0) N14
    show Goes p e below _ T14 (mkF m 72 #[.val (.int p0), .val (.int p1), .val (.int p2), .val (.int p3), .val (.int p4), .val (.int ii), .val (.int jj), .val (.int mm), .val (.int kk), .val (.int pr1), .val (.int pr2), .unset, .unset, .unset, .unset, .unset] [(.ref a13)])
    refine g_astore (i := 11) X14 hx #[.val (.int p0), .val (.int p1), .val (.int p2), .val (.int p3), .val (.int p4), .val (.int ii), .val (.int jj), .val (.int mm), .val (.int kk), .val (.int pr1), .val (.int pr2), .val (.ref a13), .unset, .unset, .unset, .unset] (hb hby at_72) rfl rfl rfl ?_
    refine g_iconst (v := (0 : Int32)) X14 hx (hb hby at_74) (by decide) rfl ?_
    refine g_istore (i := 12) X14 hx #[.val (.int p0), .val (.int p1), .val (.int p2), .val (.int p3), .val (.int p4), .val (.int ii), .val (.int jj), .val (.int mm), .val (.int kk), .val (.int pr1), .val (.int pr2), .val (.ref a13), .val (.int (0 : Int32)), .unset, .unset, .unset] (hb hby at_75) rfl rfl ?_
    have J119 : ∀ (ex : Int32) (B : Nat → Bool), own_has ex B → (∀ k, 24 ≤ k → B k = false) → ∀ T locs cells slots, Stand p l e room_1 s m #[(.int p0), (.int p1), (.int p2), (.int p3), (.int p4)] below meth c T locs cells slots → own_bits Z T.heap a13 b 3 B → n0 ≤ T.heap.size → Fr n0 locs → cells ≤ 2 → slots ≤ 4 → Goes p e below (KQ s 16 128 (fun v h L => v = some (.int 1) ∧ Fr n0 L)) T (mkF m 119 #[.val (.int p0), .val (.int p1), .val (.int p2), .val (.int p3), .val (.int p4), .val (.int ii), .val (.int jj), .val (.int mm), .val (.int kk), .val (.int pr1), .val (.int pr2), .val (.ref a13), .val (.int ex), .unset, .unset, .unset] []) := by
      intro ex B hex hB T locs cells slots X Hb Zt hN hc hs
      refine g_aload (i := 11) X hx (hb hby at_119) (by rfl) rfl rfl ?_
      refine g_iload (i := 5) X hx (hb hby at_121) (by rfl) rfl ?_
      refine g_callV X hx hZ hown (wd hw 13 rfl) (wd hw 14 rfl) (wd hw 16 rfl) (wd hw 15 rfl) (wd hw 3 rfl) (wd hw 17 rfl) (by decide) rfl a13 Hb.1 (rm_set l Z a0 hw a13 b ii 3 B T.heap n0 Zt ii0 (by omega) gb Hb) (by rw [hml]; rfl) [(.int ii)] [] rfl (lenOf pd_14 rfl) rfl (by show 0 + (2 + 11) + 0 ≤ _; decide) (by decide) (Nat.le_trans hc (by decide)) (Nat.le_trans hs (by decide)) (hb hby at_123) rfl ?_
      intro T15 v15 L15 X15 hQ15
      obtain ⟨rfl, N15, Z15, H15⟩ := hQ15
      have N15 := Fr.app hN N15
      show Goes p e below _ T15 (mkF m 126 #[.val (.int p0), .val (.int p1), .val (.int p2), .val (.int p3), .val (.int p4), .val (.int ii), .val (.int jj), .val (.int mm), .val (.int kk), .val (.int pr1), .val (.int pr2), .val (.ref a13), .val (.int ex), .unset, .unset, .unset] [])
      refine g_iload (i := 12) X15 hx (hb hby at_126) (by rfl) rfl ?_
      refine g_iconst (v := (1 : Int32)) X15 hx (hb hby at_128) (by decide) rfl ?_
      refine g_iload (i := 5) X15 hx (hb hby at_129) (by rfl) rfl ?_
      refine g_ishl X15 hx (hb hby at_131) rfl ?_
      refine g_ior X15 hx (hb hby at_132) rfl ?_
      refine g_istore (i := 12) X15 hx #[.val (.int p0), .val (.int p1), .val (.int p2), .val (.int p3), .val (.int p4), .val (.int ii), .val (.int jj), .val (.int mm), .val (.int kk), .val (.int pr1), .val (.int pr2), .val (.ref a13), .val (.int (ex ||| ((1 : Int32) <<< (ii &&& 31)))), .unset, .unset, .unset] (hb hby at_133) rfl rfl ?_
      have hex2 := own_has_or hex ii ii0 ii1
      have hB2 : ∀ k, 24 ≤ k → (B k || decide (k = ii.toInt.toNat)) = false := fun k hk => own_or24 (hB k hk) (by omega)
      revert hex2
      generalize (ex ||| ((1 : Int32) <<< (ii &&& 31))) = ex2
      intro hex2
      refine g_aload (i := 11) X15 hx (hb hby at_135) (by rfl) rfl rfl ?_
      refine g_iconst (v := (0 : Int32)) X15 hx (hb hby at_137) (by decide) rfl ?_
      refine g_bipush (v := (24 : Int32)) X15 hx (hb hby at_138) (by decide) rfl ?_
      refine g_callV X15 hx hZ hown (wd hw 18 rfl) (wd hw 19 rfl) (wd hw 21 rfl) (wd hw 20 rfl) (wd hw 3 rfl) (wd hw 22 rfl) (by decide) rfl a13 H15.1 (rm_num l Z a0 hw a13 b _ T15.heap H15 hB2) (by rw [hml]; rfl) [(.int (0 : Int32)), (.int (24 : Int32))] [] rfl (lenOf pd_16 rfl) rfl (by show 0 + (5 + 11) + 13 ≤ _; decide) (by decide) (Nat.le_trans hc (by decide)) (Nat.le_trans hs (by decide)) (hb hby at_140) rfl ?_
      intro T16 v16 L16 X16 hQ16
      obtain ⟨r, rfl, hr, hL16, e16⟩ := hQ16
      have N16 := Fr.app N15 (fun y hy => (hL16 y hy).elim)
      show Goes p e below _ T16 (mkF m 143 #[.val (.int p0), .val (.int p1), .val (.int p2), .val (.int p3), .val (.int p4), .val (.int ii), .val (.int jj), .val (.int mm), .val (.int kk), .val (.int pr1), .val (.int pr2), .val (.ref a13), .val (.int ex2), .unset, .unset, .unset] [(.int r)])
      refine g_iload (i := 12) X16 hx (hb hby at_143) (by rfl) rfl ?_
      refine g_icmp_ne X16 hx (hb hby at_145) (by decide) (pt := 152) (by decide) rfl (fun q_ => absurd (own_has_eq hr hex2) q_) (fun _ => ?_)
      refine g_iconst (v := (1 : Int32)) X16 hx (hb hby at_148) (by decide) rfl ?_
      refine g_goto X16 hx (hb hby at_149) (by decide) (by decide) (pc' := 153) ?_
      refine g_istore (i := 13) X16 hx #[.val (.int p0), .val (.int p1), .val (.int p2), .val (.int p3), .val (.int p4), .val (.int ii), .val (.int jj), .val (.int mm), .val (.int kk), .val (.int pr1), .val (.int pr2), .val (.ref a13), .val (.int ex2), .val (.int (1 : Int32)), .unset, .unset] (hb hby at_153) rfl rfl ?_
      refine g_aload (i := 11) X16 hx (hb hby at_155) (by rfl) rfl rfl ?_
      refine g_iload (i := 8) X16 hx (hb hby at_157) (by rfl) rfl ?_
      refine g_callV X16 hx hZ hown (wd hw 28 rfl) (wd hw 24 rfl) (wd hw 26 rfl) (wd hw 25 rfl) (wd hw 3 rfl) (wd hw 27 rfl) (by decide) e16 a13 H15.1 (rm_get l Z a0 hw a13 b kk 3 _ T15.heap kk0 (by omega) H15) (by rw [hml]; rfl) [(.int kk)] [] rfl (lenOf pd_11 rfl) rfl (by show 0 + (2 + 11) + 0 ≤ _; decide) (by decide) (Nat.le_trans hc (by decide)) (Nat.le_trans hs (by decide)) (hb hby at_159) rfl ?_
      intro T17 v17 L17 X17 hQ17
      obtain ⟨rfl, rfl, e17⟩ := hQ17
      have N17 := Fr.app N16 (Fr.nil n0)
      show Goes p e below _ T17 (mkF m 162 #[.val (.int p0), .val (.int p1), .val (.int p2), .val (.int p3), .val (.int p4), .val (.int ii), .val (.int jj), .val (.int mm), .val (.int kk), .val (.int pr1), .val (.int pr2), .val (.ref a13), .val (.int ex2), .val (.int (1 : Int32)), .unset, .unset] [(.int (if (B kk.toInt.toNat || decide (kk.toInt.toNat = ii.toInt.toNat)) = true then 1 else 0))])
      refine g_iload (i := 12) X17 hx (hb hby at_162) (by rfl) rfl ?_
      refine g_iload (i := 8) X17 hx (hb hby at_164) (by rfl) rfl ?_
      refine g_iushr X17 hx (hb hby at_166) rfl ?_
      refine g_iconst (v := (1 : Int32)) X17 hx (hb hby at_167) (by decide) rfl ?_
      refine g_iand X17 hx (hb hby at_168) rfl ?_
      have J187 :  Goes p e below (KQ s 16 128 (fun v h L => v = some (.int 1) ∧ Fr n0 L)) T17 (mkF m 187 #[.val (.int p0), .val (.int p1), .val (.int p2), .val (.int p3), .val (.int p4), .val (.int ii), .val (.int jj), .val (.int mm), .val (.int kk), .val (.int pr1), .val (.int pr2), .val (.ref a13), .val (.int ex2), .val (.int (1 : Int32)), .val (.int (1 : Int32)), .unset] []) := by
        refine g_aload (i := 11) X17 hx (hb hby at_187) (by rfl) rfl rfl ?_
        refine g_iload (i := 5) X17 hx (hb hby at_189) (by rfl) rfl ?_
        refine g_callV X17 hx hZ hown (wd hw 28 rfl) (wd hw 24 rfl) (wd hw 26 rfl) (wd hw 25 rfl) (wd hw 3 rfl) (wd hw 27 rfl) (by decide) e17 a13 H15.1 (rm_get l Z a0 hw a13 b ii 3 _ T15.heap ii0 (by omega) H15) (by rw [hml]; rfl) [(.int ii)] [] rfl (lenOf pd_11 rfl) rfl (by show 0 + (2 + 11) + 0 ≤ _; decide) (by decide) (Nat.le_trans hc (by decide)) (Nat.le_trans hs (by decide)) (hb hby at_191) rfl ?_
        intro T18 v18 L18 X18 hQ18
        obtain ⟨rfl, rfl, e18⟩ := hQ18
        have N18 := Fr.app N17 (Fr.nil n0)
        show Goes p e below _ T18 (mkF m 194 #[.val (.int p0), .val (.int p1), .val (.int p2), .val (.int p3), .val (.int p4), .val (.int ii), .val (.int jj), .val (.int mm), .val (.int kk), .val (.int pr1), .val (.int pr2), .val (.ref a13), .val (.int ex2), .val (.int (1 : Int32)), .val (.int (1 : Int32)), .unset] [(.int (if (B ii.toInt.toNat || decide (ii.toInt.toNat = ii.toInt.toNat)) = true then 1 else 0))])
        refine g_istore (i := 15) X18 hx #[.val (.int p0), .val (.int p1), .val (.int p2), .val (.int p3), .val (.int p4), .val (.int ii), .val (.int jj), .val (.int mm), .val (.int kk), .val (.int pr1), .val (.int pr2), .val (.ref a13), .val (.int ex2), .val (.int (1 : Int32)), .val (.int (1 : Int32)), .val (.int (if (B ii.toInt.toNat || decide (ii.toInt.toNat = ii.toInt.toNat)) = true then 1 else 0))] (hb hby at_194) rfl rfl ?_
        refine g_iload (i := 13) X18 hx (hb hby at_196) (by rfl) rfl ?_
        refine g_if_eq X18 hx (hb hby at_198) (by decide) (pt := 215) (by decide) rfl (fun q_ => absurd q_ (by decide)) (fun _ => ?_)
        refine g_iload (i := 14) X18 hx (hb hby at_201) (by rfl) rfl ?_
        refine g_if_eq X18 hx (hb hby at_203) (by decide) (pt := 215) (by decide) rfl (fun q_ => absurd q_ (by decide)) (fun _ => ?_)
        refine g_iload (i := 15) X18 hx (hb hby at_206) (by rfl) rfl ?_
        refine g_if_eq X18 hx (hb hby at_208) (by decide) (pt := 215) (by decide) rfl (fun q_ => absurd q_ (by simp)) (fun _ => ?_)
        refine g_iconst (v := (1 : Int32)) X18 hx (hb hby at_211) (by decide) rfl ?_
        refine g_goto X18 hx (hb hby at_212) (by decide) (by decide) (pc' := 216) ?_
        exact g_retN X18 hx (t := .boolean) (by simp) hlk hret e18 (Nat.le_trans hc (by decide)) (Nat.le_trans hs (by decide)) (hb hby at_216) ⟨rfl, N18⟩
      have hk2 : ex2.toBitVec.getLsbD kk.toInt.toNat = (B kk.toInt.toNat || decide (kk.toInt.toNat = ii.toInt.toNat)) := hex2 _ (by omega)
      refine g_if_eq X17 hx (hb hby at_169) (by decide) (pt := 176) (by decide) rfl (fun q => ?_) (fun q => ?_)
      · refine g_iconst (v := (0 : Int32)) X17 hx (hb hby at_176) (by decide) rfl ?_
        refine g_icmp_ne X17 hx (hb hby at_177) (by decide) (pt := 184) (by decide) rfl (fun q_ => absurd (by rw [← hk2, (own_bit1 ex2 kk kk0 (by omega)).mp q]; rfl) q_) (fun _ => ?_)
        refine g_iconst (v := (1 : Int32)) X17 hx (hb hby at_180) (by decide) rfl ?_
        refine g_goto X17 hx (hb hby at_181) (by decide) (by decide) (pc' := 185) ?_
        refine g_istore (i := 14) X17 hx #[.val (.int p0), .val (.int p1), .val (.int p2), .val (.int p3), .val (.int p4), .val (.int ii), .val (.int jj), .val (.int mm), .val (.int kk), .val (.int pr1), .val (.int pr2), .val (.ref a13), .val (.int ex2), .val (.int (1 : Int32)), .val (.int (1 : Int32)), .unset] (hb hby at_185) rfl rfl ?_
        exact J187
      · refine g_iconst (v := (1 : Int32)) X17 hx (hb hby at_172) (by decide) rfl ?_
        refine g_goto X17 hx (hb hby at_173) (by decide) (by decide) (pc' := 177) ?_
        refine g_icmp_ne X17 hx (hb hby at_177) (by decide) (pt := 184) (by decide) rfl (fun q_ => absurd (by rw [← hk2, (show ex2.toBitVec.getLsbD kk.toInt.toNat = true by simpa using mt (own_bit1 ex2 kk kk0 (by omega)).mpr q)]; rfl) q_) (fun _ => ?_)
        refine g_iconst (v := (1 : Int32)) X17 hx (hb hby at_180) (by decide) rfl ?_
        refine g_goto X17 hx (hb hby at_181) (by decide) (by decide) (pc' := 185) ?_
        refine g_istore (i := 14) X17 hx #[.val (.int p0), .val (.int p1), .val (.int p2), .val (.int p3), .val (.int p4), .val (.int ii), .val (.int jj), .val (.int mm), .val (.int kk), .val (.int pr1), .val (.int pr2), .val (.ref a13), .val (.int ex2), .val (.int (1 : Int32)), .val (.int (1 : Int32)), .unset] (hb hby at_185) rfl rfl ?_
        exact J187
    have J98 : ∀ (ex : Int32) (B : Nat → Bool), own_has ex B → (∀ k, 24 ≤ k → B k = false) → ∀ T locs cells slots, Stand p l e room_1 s m #[(.int p0), (.int p1), (.int p2), (.int p3), (.int p4)] below meth c T locs cells slots → own_bits Z T.heap a13 b 3 B → n0 ≤ T.heap.size → Fr n0 locs → cells ≤ 2 → slots ≤ 4 → Goes p e below (KQ s 16 128 (fun v h L => v = some (.int 1) ∧ Fr n0 L)) T (mkF m 98 #[.val (.int p0), .val (.int p1), .val (.int p2), .val (.int p3), .val (.int p4), .val (.int ii), .val (.int jj), .val (.int mm), .val (.int kk), .val (.int pr1), .val (.int pr2), .val (.ref a13), .val (.int ex), .unset, .unset, .unset] []) := by
      intro ex B hex hB T locs cells slots X Hb Zt hN hc hs
      refine g_iload (i := 10) X hx (hb hby at_98) (by rfl) rfl ?_
      refine g_if_eq X hx (hb hby at_100) (by decide) (pt := 119) (by decide) rfl (fun q => ?_) (fun q => ?_)
      · exact J119 ex B hex hB T locs cells slots X Hb Zt hN hc hs
      · refine g_aload (i := 11) X hx (hb hby at_103) (by rfl) rfl rfl ?_
        refine g_iload (i := 7) X hx (hb hby at_105) (by rfl) rfl ?_
        refine g_callV X hx hZ hown (wd hw 13 rfl) (wd hw 14 rfl) (wd hw 16 rfl) (wd hw 15 rfl) (wd hw 3 rfl) (wd hw 17 rfl) (by decide) rfl a13 Hb.1 (rm_set l Z a0 hw a13 b mm 3 B T.heap n0 Zt mm0 (by omega) gb Hb) (by rw [hml]; rfl) [(.int mm)] [] rfl (lenOf pd_14 rfl) rfl (by show 0 + (2 + 11) + 0 ≤ _; decide) (by decide) (Nat.le_trans hc (by decide)) (Nat.le_trans hs (by decide)) (hb hby at_107) rfl ?_
        intro T19 v19 L19 X19 hQ19
        obtain ⟨rfl, N19, Z19, H19⟩ := hQ19
        have N19 := Fr.app hN N19
        show Goes p e below _ T19 (mkF m 110 #[.val (.int p0), .val (.int p1), .val (.int p2), .val (.int p3), .val (.int p4), .val (.int ii), .val (.int jj), .val (.int mm), .val (.int kk), .val (.int pr1), .val (.int pr2), .val (.ref a13), .val (.int ex), .unset, .unset, .unset] [])
        refine g_iload (i := 12) X19 hx (hb hby at_110) (by rfl) rfl ?_
        refine g_iconst (v := (1 : Int32)) X19 hx (hb hby at_112) (by decide) rfl ?_
        refine g_iload (i := 7) X19 hx (hb hby at_113) (by rfl) rfl ?_
        refine g_ishl X19 hx (hb hby at_115) rfl ?_
        refine g_ior X19 hx (hb hby at_116) rfl ?_
        refine g_istore (i := 12) X19 hx #[.val (.int p0), .val (.int p1), .val (.int p2), .val (.int p3), .val (.int p4), .val (.int ii), .val (.int jj), .val (.int mm), .val (.int kk), .val (.int pr1), .val (.int pr2), .val (.ref a13), .val (.int (ex ||| ((1 : Int32) <<< (mm &&& 31)))), .unset, .unset, .unset] (hb hby at_117) rfl rfl ?_
        exact J119 _ _ (own_has_or hex mm mm0 mm1) (fun k hk => own_or24 (hB k hk) (by omega)) _ _ _ _ X19 H19 Z19 N19 (by simpa using hc) (by simpa using hs)
    have J77 : ∀ (ex : Int32) (B : Nat → Bool), own_has ex B → (∀ k, 24 ≤ k → B k = false) → ∀ T locs cells slots, Stand p l e room_1 s m #[(.int p0), (.int p1), (.int p2), (.int p3), (.int p4)] below meth c T locs cells slots → own_bits Z T.heap a13 b 3 B → n0 ≤ T.heap.size → Fr n0 locs → cells ≤ 2 → slots ≤ 4 → Goes p e below (KQ s 16 128 (fun v h L => v = some (.int 1) ∧ Fr n0 L)) T (mkF m 77 #[.val (.int p0), .val (.int p1), .val (.int p2), .val (.int p3), .val (.int p4), .val (.int ii), .val (.int jj), .val (.int mm), .val (.int kk), .val (.int pr1), .val (.int pr2), .val (.ref a13), .val (.int ex), .unset, .unset, .unset] []) := by
      intro ex B hex hB T locs cells slots X Hb Zt hN hc hs
      refine g_iload (i := 9) X hx (hb hby at_77) (by rfl) rfl ?_
      refine g_if_eq X hx (hb hby at_79) (by decide) (pt := 98) (by decide) rfl (fun q => ?_) (fun q => ?_)
      · exact J98 ex B hex hB T locs cells slots X Hb Zt hN hc hs
      · refine g_aload (i := 11) X hx (hb hby at_82) (by rfl) rfl rfl ?_
        refine g_iload (i := 6) X hx (hb hby at_84) (by rfl) rfl ?_
        refine g_callV X hx hZ hown (wd hw 13 rfl) (wd hw 14 rfl) (wd hw 16 rfl) (wd hw 15 rfl) (wd hw 3 rfl) (wd hw 17 rfl) (by decide) rfl a13 Hb.1 (rm_set l Z a0 hw a13 b jj 3 B T.heap n0 Zt jj0 (by omega) gb Hb) (by rw [hml]; rfl) [(.int jj)] [] rfl (lenOf pd_14 rfl) rfl (by show 0 + (2 + 11) + 0 ≤ _; decide) (by decide) (Nat.le_trans hc (by decide)) (Nat.le_trans hs (by decide)) (hb hby at_86) rfl ?_
        intro T20 v20 L20 X20 hQ20
        obtain ⟨rfl, N20, Z20, H20⟩ := hQ20
        have N20 := Fr.app hN N20
        show Goes p e below _ T20 (mkF m 89 #[.val (.int p0), .val (.int p1), .val (.int p2), .val (.int p3), .val (.int p4), .val (.int ii), .val (.int jj), .val (.int mm), .val (.int kk), .val (.int pr1), .val (.int pr2), .val (.ref a13), .val (.int ex), .unset, .unset, .unset] [])
        refine g_iload (i := 12) X20 hx (hb hby at_89) (by rfl) rfl ?_
        refine g_iconst (v := (1 : Int32)) X20 hx (hb hby at_91) (by decide) rfl ?_
        refine g_iload (i := 6) X20 hx (hb hby at_92) (by rfl) rfl ?_
        refine g_ishl X20 hx (hb hby at_94) rfl ?_
        refine g_ior X20 hx (hb hby at_95) rfl ?_
        refine g_istore (i := 12) X20 hx #[.val (.int p0), .val (.int p1), .val (.int p2), .val (.int p3), .val (.int p4), .val (.int ii), .val (.int jj), .val (.int mm), .val (.int kk), .val (.int pr1), .val (.int pr2), .val (.ref a13), .val (.int (ex ||| ((1 : Int32) <<< (jj &&& 31)))), .unset, .unset, .unset] (hb hby at_96) rfl rfl ?_
        exact J98 _ _ (own_has_or hex jj jj0 jj1) (fun k hk => own_or24 (hB k hk) (by omega)) _ _ _ _ X20 H20 Z20 N20 (by simpa using hc) (by simpa using hs)
    exact J77 _ _ (own_has_zero (fun _ => rfl)) (fun _ _ => rfl) _ _ _ _ X14 H Z14 N14 (by decide) (by decide)
  have J50 : ∀ (pr1 : Int32), Goes p e below (KQ s 16 128 (fun v h L => v = some (.int 1) ∧ Fr n0 L)) s₁ (mkF m 50 #[.val (.int p0), .val (.int p1), .val (.int p2), .val (.int p3), .val (.int p4), .val (.int ii), .val (.int jj), .val (.int mm), .val (.int kk), .val (.int pr1), .unset, .unset, .unset, .unset, .unset, .unset] []) := by
    intro pr1
    refine g_iload (i := 4) X0 hx (hb hby at_50) (by rfl) rfl ?_
    refine g_iconst (v := (2 : Int32)) X0 hx (hb hby at_52) (by decide) rfl ?_
    refine g_iand X0 hx (hb hby at_53) rfl ?_
    refine g_if_eq X0 hx (hb hby at_54) (by decide) (pt := 61) (by decide) rfl (fun q21 => ?_) (fun q21 => ?_)
    · refine g_iconst (v := (0 : Int32)) X0 hx (hb hby at_61) (by decide) rfl ?_
      refine g_istore (i := 10) X0 hx #[.val (.int p0), .val (.int p1), .val (.int p2), .val (.int p3), .val (.int p4), .val (.int ii), .val (.int jj), .val (.int mm), .val (.int kk), .val (.int pr1), .val (.int (0 : Int32)), .unset, .unset, .unset, .unset, .unset] (hb hby at_62) rfl rfl ?_
      exact J64 _ _
    · refine g_iconst (v := (1 : Int32)) X0 hx (hb hby at_57) (by decide) rfl ?_
      refine g_goto X0 hx (hb hby at_58) (by decide) (by decide) (pc' := 62) ?_
      refine g_istore (i := 10) X0 hx #[.val (.int p0), .val (.int p1), .val (.int p2), .val (.int p3), .val (.int p4), .val (.int ii), .val (.int jj), .val (.int mm), .val (.int kk), .val (.int pr1), .val (.int (1 : Int32)), .unset, .unset, .unset, .unset, .unset] (hb hby at_62) rfl rfl ?_
      exact J64 _ _
  refine g_iload (i := 4) X0 hx (hb hby at_36) (by rfl) rfl ?_
  refine g_iconst (v := (1 : Int32)) X0 hx (hb hby at_38) (by decide) rfl ?_
  refine g_iand X0 hx (hb hby at_39) rfl ?_
  refine g_if_eq X0 hx (hb hby at_40) (by decide) (pt := 47) (by decide) rfl (fun q22 => ?_) (fun q22 => ?_)
  · refine g_iconst (v := (0 : Int32)) X0 hx (hb hby at_47) (by decide) rfl ?_
    refine g_istore (i := 9) X0 hx #[.val (.int p0), .val (.int p1), .val (.int p2), .val (.int p3), .val (.int p4), .val (.int ii), .val (.int jj), .val (.int mm), .val (.int kk), .val (.int (0 : Int32)), .unset, .unset, .unset, .unset, .unset, .unset] (hb hby at_48) rfl rfl ?_
    exact J50 _
  · refine g_iconst (v := (1 : Int32)) X0 hx (hb hby at_43) (by decide) rfl ?_
    refine g_goto X0 hx (hb hby at_44) (by decide) (by decide) (pc' := 48) ?_
    refine g_istore (i := 9) X0 hx #[.val (.int p0), .val (.int p1), .val (.int p2), .val (.int p3), .val (.int p4), .val (.int ii), .val (.int jj), .val (.int mm), .val (.int kk), .val (.int (1 : Int32)), .unset, .unset, .unset, .unset, .unset, .unset] (hb hby at_48) rfl rfl ?_
    exact J50 _
set_option maxRecDepth 65536 in
set_option maxHeartbeats 40000000 in
theorem comes_1 {Post : Tables → Env → Array Value → State → Outcome → State → Prop} (hpost : ∀ tb e args s v u, (limb_1_1.after args s (.returned v) u = true ∧ limb_1_2.after args s (.returned v) u = true ∧ True) → FrameEnd s (.returned v) u (Jvm.fieldLocs frame_1_writes args s ++ Jvm.arrayLocs frame_1_arrays args s ++ Jvm.staticLocs frame_1_statics s) 16 128 → Post tb e args s (.returned v) u) :
    ArmFor flags0 classFile x code maxLocals ret World_1 tables_1 room_1 Calls_1 rest_1 Pre_1 Post := by
  intro l hfl _ _ p e ha hc hk s m args below hf hA hF happ hP
  obtain ⟨hcalls, hrest, hpre⟩ := hP
  obtain ⟨-, -, -, hnamed, -, -, -, hat⟩ := (Spec.applies_iff hf).mp happ
  obtain ⟨hg, hn⟩ := and_e (Cond.before_iff.mp (show (Jvm.Cond.and given_1 narrow_1).before args s = true from hpre))
  obtain ⟨hcnt, hg0⟩ := and_e hg
  obtain ⟨w0, w1, w2, w3, w4, rfl⟩ : ∃ w0 w1 w2 w3 w4 : Value, args = #[w0, w1, w2, w3, w4] := by
    have hs : args.size = 5 := by simpa [Cond.value, given_1] using hcnt
    obtain ⟨L⟩ := args
    match L, hs with
    | [w0, w1, w2, w3, w4], _ => exact ⟨w0, w1, w2, w3, w4, rfl⟩
  have hw := fun d (hd : d ∈ tables_1) => atoms_spec (ws := Jvm.Cond.code x code maxLocals ret :: tables_1) hat d (List.mem_cons_of_mem _ hd)
  have hfit : Fit s := fun {y c} hc i hi => by
    obtain ⟨ha, rfl⟩ := Array.getElem?_eq_some_iff.mp hc
    have q := List.all_eq_true.mp ((Array.all_eq_true_iff_forall_mem.mp hF) _ (Array.getElem_mem ha)) i (List.mem_range.mpr hi)
    simpa [Array.getElem?_eq_getElem hi] using q
  obtain ⟨ha0, hg1⟩ := and_e hg0
  obtain ⟨i0, q0⟩ := is_v ha0
  obtain rfl : w0 = (.int i0) := Option.some.inj q0
  obtain ⟨ha1, hg2⟩ := and_e hg1
  obtain ⟨i1, q1⟩ := is_v ha1
  obtain rfl : w1 = (.int i1) := Option.some.inj q1
  obtain ⟨ha2, hg3⟩ := and_e hg2
  obtain ⟨i2, q2⟩ := is_v ha2
  obtain rfl : w2 = (.int i2) := Option.some.inj q2
  obtain ⟨ha3, hg4⟩ := and_e hg3
  obtain ⟨i3, q3⟩ := is_v ha3
  obtain rfl : w3 = (.int i3) := Option.some.inj q3
  obtain ⟨i4, q4⟩ := is_v hg4
  obtain rfl : w4 = (.int i4) := Option.some.inj q4
  obtain ⟨n, o, h1, h2, h3, _, L, rfl, ⟨rfl, N⟩, hq⟩ := rm0 l s _ hw i0 i1 i2 i3 i4 s.heap s.heap.size (Nat.le_refl _) p e ha hc hk s m _ below hf ((Spec.applies_iff_loose hf).mp happ).1 ⟨rfl, State.Warmed39.refl s, rfl⟩ trivial
  refine ⟨n, _, h1, h2, h3, hpost _ _ _ _ _ _ ⟨Cond.after_iff.mpr rfl, Cond.after_iff.mpr (eq_i res_at (Term.int_eval (1)) rfl), trivial⟩ ⟨hq.1, hq.2.1, (hq.2.2.sift fun y hy => Or.inr (N y hy)).mono (by decide) (by decide)⟩⟩
theorem main_1_1 : Claimed_1_1 := comes_1 fun _ _ _ _ _ _ h hF => ⟨h.1, hF⟩
theorem main_1_2 : Claimed_1_2 := comes_1 fun _ _ _ _ _ _ h hF => ⟨h.2.1, hF⟩
end Jvm.Pilot.@@N@@
namespace Jvm.Pilot.@@N@@
open Jvm Jvm.ClassFile Sem Op Lib Jvm.Free Jvm.Stand Jvm.Pilot.@@N@@.Jvm.D
/-! MADE BY PROGRAM (witnessworld.py) out of the Statement's table words and the real class files: 9 classes; the members and pool entries that the words name. The judged class is class 1, her method 1. -/
namespace start1
open Jvm.ClassFile
def u (s : String) : CpInfo := .utf8 (stringToUtf16 s)
/-- a pool by its gaps: so many unusable entries, then the entry; so many at the end -/
def gap : Nat → List CpInfo → List CpInfo
  | 0, r => r
  | n + 1, r => .unusable :: gap n r
def poolList (es : List (Nat × CpInfo)) (last : Nat) : List CpInfo := es.foldr (fun e r => gap e.1 (e.2 :: r)) (gap last [])
def pool (es : List (Nat × CpInfo)) (last : Nat) : Array CpInfo := ⟨poolList es last⟩
def fileOf (pool : Array CpInfo) (this : Nat) (attrs : Array Attribute := #[]) (ms : Array MethodInfo := #[]) (fl : Nat := 33) (sup : Nat := 0) (ifs : Array Nat := #[]) (fds : Array FieldInfo := #[]) : ClassFile where
  minorVersion := 0
  majorVersion := 65
  constantPool := pool
  accessFlags := fl
  thisClass := this
  superClass := sup
  interfaces := ifs
  fields := fds
  methods := ms
  attributes := attrs
def plain (name : String) (sup : Option ClassId) : Class where
  name := name
  kind := .ordinary
  loader := none
  accessFlags := 33
  super := sup
  interfaces := #[]
  cf := none
  fields := #[]
  methods := #[]
  instanceTypes := #[]
  staticTypes := #[]
  resolved := #[]
  callSites := []
  init := .initialized
  statics := none
  mirror := none

def pool0 : Array CpInfo := pool [(5, u "<init>"), (0, u "()V"), (1, .class_ 10), (1, u "java/lang/Object")] 113

def k0c0 : Code := { maxStack := 0, maxLocals := 1, code := object_method_1_code, exceptionTable := #[], attributes := #[] }
def k0m0 : Method := { name := "<init>", desc := "()V", sig := { parameters := [], returnType := none }, accessFlags := 1, code := some k0c0 }
/-- java/lang/Object -/
def k0 : Class := { plain "java/lang/Object" none with
  accessFlags := 33
  interfaces := #[]
  cf := some (fileOf pool0 8 #[] #[{ accessFlags := 1, nameIndex := 5, descriptorIndex := 6, attributes := #[] }] 33 0 #[] #[])
  fields := #[]
  methods := #[k0m0]
  instanceTypes := #[]
  staticTypes := #[]
  resolved := Array.replicate 124 none
  statics := none }

def pool1 : Array CpInfo := pool [(2, .class_ 4), (1, u "java/lang/Object"), (0, u "<init>"), (0, u "()V"), (0, .integer 2147483647), (0, .class_ 9), (0, u "com/example/tavoliere/tavoliere/IdBits"), (0, .methodref 8 11), (0, .nameAndType 5 12), (0, u "(I)V"), (0, .methodref 8 14), (0, .nameAndType 15 12), (0, u "set"), (0, .methodref 8 17), (0, .nameAndType 18 19), (0, u "number"), (0, u "(II)I"), (0, .methodref 8 21), (0, .nameAndType 22 23), (0, u "get"), (0, u "(I)Z"), (0, .class_ 25), (0, u "com/example/tavoliere/tavoliere/IdBitsSetPinLaw"), (2, u "law"), (0, u "(IIIII)Z")] 3

def k1m0 : Method := { name := "<init>", desc := "()V", sig := { parameters := [], returnType := none }, accessFlags := 1, code := none }
def k1c1 : Code := { maxStack := 3, maxLocals := 16, code := code, exceptionTable := #[], attributes := #[] }
def k1m1 : Method := { name := "law", desc := "(IIIII)Z", sig := { parameters := [.int, .int, .int, .int, .int], returnType := some .boolean }, accessFlags := 9, code := some k1c1 }
/-- com/example/tavoliere/tavoliere/IdBitsSetPinLaw -/
def k1 : Class := { plain "com/example/tavoliere/tavoliere/IdBitsSetPinLaw" (some 0) with
  accessFlags := 49
  interfaces := #[]
  cf := some (fileOf pool1 24 #[] #[{ accessFlags := 1, nameIndex := 5, descriptorIndex := 6, attributes := #[] }, { accessFlags := 9, nameIndex := 28, descriptorIndex := 29, attributes := #[] }] 49 2 #[] #[])
  fields := #[]
  methods := #[k1m0, k1m1]
  instanceTypes := #[]
  staticTypes := #[]
  resolved := Array.replicate 33 none
  statics := none }

def pool2 : Array CpInfo := pool [(1, .methodref 2 3), (0, .class_ 4), (0, .nameAndType 5 6), (0, u "java/lang/Object"), (0, u "<init>"), (0, u "()V"), (0, .fieldref 8 9), (0, .class_ 10), (0, .nameAndType 11 12), (0, u "com/example/tavoliere/tavoliere/IdBits"), (0, u "bytes"), (0, u "[B"), (53, .methodref 8 67), (0, .nameAndType 68 69), (0, u "get"), (0, u "(I)Z"), (2, u "set"), (0, u "(I)V"), (13, u "ALPHABET"), (0, u "Ljava/lang/String;"), (6, u "number"), (0, u "(II)I")] 25

def k2c0 : Code := { maxStack := 2, maxLocals := 2, code := prog_18_method_1_code, exceptionTable := #[], attributes := #[] }
def k2m0 : Method := { name := "<init>", desc := "(I)V", sig := { parameters := [.int], returnType := none }, accessFlags := 0, code := some k2c0 }
def k2c1 : Code := { maxStack := 4, maxLocals := 2, code := prog_18_method_4_code, exceptionTable := #[], attributes := #[] }
def k2m1 : Method := { name := "get", desc := "(I)Z", sig := { parameters := [.int], returnType := some .boolean }, accessFlags := 0, code := some k2c1 }
def k2c2 : Code := { maxStack := 6, maxLocals := 2, code := prog_18_method_5_code, exceptionTable := #[], attributes := #[] }
def k2m2 : Method := { name := "set", desc := "(I)V", sig := { parameters := [.int], returnType := none }, accessFlags := 0, code := some k2c2 }
def k2c3 : Code := { maxStack := 3, maxLocals := 5, code := prog_18_method_6_code, exceptionTable := #[], attributes := #[] }
def k2m3 : Method := { name := "number", desc := "(II)I", sig := { parameters := [.int, .int], returnType := some .int }, accessFlags := 0, code := some k2c3 }
/-- com/example/tavoliere/tavoliere/IdBits -/
def k2 : Class := { plain "com/example/tavoliere/tavoliere/IdBits" (some 0) with
  accessFlags := 48
  interfaces := #[]
  cf := some (fileOf pool2 8 #[] #[{ accessFlags := 0, nameIndex := 5, descriptorIndex := 73, attributes := #[] }, { accessFlags := 0, nameIndex := 68, descriptorIndex := 69, attributes := #[] }, { accessFlags := 0, nameIndex := 72, descriptorIndex := 73, attributes := #[] }, { accessFlags := 0, nameIndex := 95, descriptorIndex := 96, attributes := #[] }] 48 2 #[] #[{ accessFlags := 26, nameIndex := 87, descriptorIndex := 88, attributes := #[] }, { accessFlags := 18, nameIndex := 11, descriptorIndex := 12, attributes := #[] }])
  fields := #[{ name := "ALPHABET", type := (.object "java/lang/String"), accessFlags := 26, slot := 0, constantValue := 0 }, { name := "bytes", type := (.array .byte), accessFlags := 18, slot := 0, constantValue := 0 }]
  methods := #[k2m0, k2m1, k2m2, k2m3]
  instanceTypes := #[(.array .byte)]
  staticTypes := #[(.object "java/lang/String")]
  resolved := Array.replicate 122 none
  statics := none }

def pool3 : Array CpInfo := pool [(1, u "java/lang/Cloneable"), (0, .class_ 1), (0, u "java/lang/Object"), (0, .class_ 3)] 3

/-- java/lang/Cloneable -/
def k3 : Class := { plain "java/lang/Cloneable" (some 0) with
  accessFlags := 1537
  interfaces := #[]
  cf := some (fileOf pool3 2 #[] #[] 1537 4 #[] #[])
  fields := #[]
  methods := #[]
  instanceTypes := #[]
  staticTypes := #[]
  resolved := Array.replicate 8 none
  statics := none }

def pool4 : Array CpInfo := pool [(1, u "java/io/Serializable"), (0, .class_ 1), (0, u "java/lang/Object"), (0, .class_ 3)] 3

/-- java/io/Serializable -/
def k4 : Class := { plain "java/io/Serializable" (some 0) with
  accessFlags := 1537
  interfaces := #[]
  cf := some (fileOf pool4 2 #[] #[] 1537 4 #[] #[])
  fields := #[]
  methods := #[]
  instanceTypes := #[]
  staticTypes := #[]
  resolved := Array.replicate 8 none
  statics := none }

/-- the primitive byte -/
def k5 : Class := { plain "byte" none with kind := .primitive 'B', accessFlags := 0x411 }
/-- [B -/
def k6 : Class := { plain "[B" (some 0) with kind := .array 5 .byte, interfaces := #[3, 4], accessFlags := 1041 }

/-- the primitive int -/
def k7 : Class := { plain "int" none with kind := .primitive 'I', accessFlags := 0x411 }
/-- [I -/
def k8 : Class := { plain "[I" (some 0) with kind := .array 7 .int, interfaces := #[3, 4], accessFlags := 1041 }

def heap : Heap := #[]
def classes : Array Class := #[k0, k1, k2, k3, k4, k5, k6, k7, k8]
def interned : List (Array UInt16 × Addr) := []
def slotsUsed : Nat := 0
def theMethod : MethodId := ⟨1, 1⟩
def args0 : Array Value := #[.int 5, .int 3, .int 4, .int 5, .int 6]
def aboutOver (below : List Frame) : State where
  vm := { classes := classes, interned := interned.toArray }
  heap := heap
  slotsUsed := slotsUsed
  threads := #[{ frames := .invoking theMethod args0 :: below }]
def below0 : List Frame := [.native { method := ⟨0, 0⟩, args := #[] }]
def about1 : State := aboutOver below0
def p0 : Program := .bare "" "" ""
def e0 : Env := launch0.env 0 0 0
theorem w_frames : about1.frames = Frame.invoking theMethod args0 :: below0 := rfl
set_option maxRecDepth 65536 in
theorem w_args : argsFit about1.vm theMethod args0 = true := by decide +kernel
set_option maxRecDepth 65536 in
theorem w_heap : heapFits about1 = true := by decide +kernel
set_option maxRecDepth 65536 in
theorem w_runnable : about1.curStatus? = some .runnable := by decide +kernel
set_option maxRecDepth 65536 in
theorem w_alone : about1.alone = true := by decide +kernel
set_option maxRecDepth 65536 in
theorem w_named : about1.methodNamed? x = some theMethod := by decide +kernel
set_option maxRecDepth 65536 in
theorem w_hears : about1.hears theMethod below0 = true := by decide +kernel
set_option maxRecDepth 65536 in
theorem w_ripe : about1.ripe theMethod args0 below0 = true := by decide +kernel
theorem w_running : about1.status = .running := rfl
set_option maxRecDepth 65536 in
theorem w_room : about1.hasRoom e0.platform room_1 = true :=
  launch0.hasRoom_least _ room_1 (by decide +kernel) (by decide +kernel) (by decide +kernel) (by decide +kernel) (by decide +kernel) (by decide +kernel)
theorem allAtoms_all (ts : List Jvm.Cond) (a : Array Jvm.Value) (st : Jvm.State) : (allAtoms ts).before a st = ts.all (fun c => c.before a st) := by
  induction ts with
  | nil => rfl
  | cons c t ih =>
    show (Jvm.Cond.and c (allAtoms t)).before a st = _
    rw [Jvm.Cond.before_and, ih, List.all_cons]
def words1 : List Jvm.Cond := Jvm.Cond.code x code maxLocals ret :: tables_1
/-- a 'code' word, met by the world's own term for the bytes: nothing is compared byte by byte -/
theorem code_word {y : MethodName} {bytes : ByteArray} {mx : Nat} {rt : Option FieldType} {a : Array Value} {s : State} {m : MethodId} {meth : Method} {c : Code} (h1 : s.methodNamed? y = some m) (h2 : s.vm.method? m = some meth) (h3 : meth.code = some c) (h4 : c.code = bytes)
    (h5 : (c.maxLocals == mx && c.exceptionTable.isEmpty && decide (c.maxStack ≤ mostOperands) && decide (meth.sig.returnType = rt) && !meth.locks && decide (parseMethodDescriptor y.desc = some meth.sig)) = true) : (Jvm.Cond.code y bytes mx rt).before a s = true := by
  simp only [Bool.and_eq_true, beq_iff_eq, Bool.not_eq_true', decide_eq_true_eq] at h5
  obtain ⟨⟨⟨⟨⟨g1, g2⟩, g3⟩, g4⟩, g5⟩, g6⟩ := h5
  simp [Cond.before, Cond.holds, Cond.value, h1, h2, h3, h4, g1, g2, g3, g4, g5, g6]
def isCode : Jvm.Cond → Bool
  | .code _ _ _ _ => true
  | _ => false
theorem all_split {L : List Jvm.Cond} {P : Jvm.Cond → Bool} (h1 : L.all (fun c => isCode c || P c) = true) (h2 : ∀ c ∈ L.filter isCode, P c = true) : L.all P = true := by
  refine List.all_eq_true.mpr fun c hc => ?_
  have h := List.all_eq_true.mp h1 c hc
  rcases Bool.eq_false_or_eq_true (isCode c) with hi | hi
  · exact h2 c (List.mem_filter.mpr ⟨hc, hi⟩)
  · simpa [hi] using h
set_option maxRecDepth 65536 in
theorem w_c0 : (Jvm.Cond.code x code maxLocals ret).before args0 about1 = true := code_word (m := ⟨1, 1⟩) (meth := k1m1) (c := k1c1) (by decide +kernel) rfl rfl rfl (by decide +kernel)
set_option maxRecDepth 65536 in
theorem w_c1 : (Jvm.Cond.code ({ cls := "com/example/tavoliere/tavoliere/IdBits", name := "<init>", desc := "(I)V" } : Jvm.MethodName) prog_18_method_1_code (2 : Nat) (Option.none : Option Jvm.ClassFile.FieldType)).before args0 about1 = true := code_word (m := ⟨2, 0⟩) (meth := k2m0) (c := k2c0) (by decide +kernel) rfl rfl rfl (by decide +kernel)
set_option maxRecDepth 65536 in
theorem w_c2 : (Jvm.Cond.code ({ cls := "java/lang/Object", name := "<init>", desc := "()V" } : Jvm.MethodName) object_method_1_code (1 : Nat) (Option.none : Option Jvm.ClassFile.FieldType)).before args0 about1 = true := code_word (m := ⟨0, 0⟩) (meth := k0m0) (c := k0c0) (by decide +kernel) rfl rfl rfl (by decide +kernel)
set_option maxRecDepth 65536 in
theorem w_c3 : (Jvm.Cond.code ({ cls := "com/example/tavoliere/tavoliere/IdBits", name := "set", desc := "(I)V" } : Jvm.MethodName) prog_18_method_5_code (2 : Nat) (Option.none : Option Jvm.ClassFile.FieldType)).before args0 about1 = true := code_word (m := ⟨2, 2⟩) (meth := k2m2) (c := k2c2) (by decide +kernel) rfl rfl rfl (by decide +kernel)
set_option maxRecDepth 65536 in
theorem w_c4 : (Jvm.Cond.code ({ cls := "com/example/tavoliere/tavoliere/IdBits", name := "number", desc := "(II)I" } : Jvm.MethodName) prog_18_method_6_code (5 : Nat) (Option.some Jvm.ClassFile.FieldType.int)).before args0 about1 = true := code_word (m := ⟨2, 3⟩) (meth := k2m3) (c := k2c3) (by decide +kernel) rfl rfl rfl (by decide +kernel)
set_option maxRecDepth 65536 in
theorem w_c5 : (Jvm.Cond.code ({ cls := "com/example/tavoliere/tavoliere/IdBits", name := "get", desc := "(I)Z" } : Jvm.MethodName) prog_18_method_4_code (2 : Nat) (Option.some Jvm.ClassFile.FieldType.boolean)).before args0 about1 = true := code_word (m := ⟨2, 1⟩) (meth := k2m1) (c := k2c1) (by decide +kernel) rfl rfl rfl (by decide +kernel)
def codes1 : List Jvm.Cond := [Jvm.Cond.code x code maxLocals ret, Jvm.Cond.code ({ cls := "com/example/tavoliere/tavoliere/IdBits", name := "<init>", desc := "(I)V" } : Jvm.MethodName) prog_18_method_1_code (2 : Nat) (Option.none : Option Jvm.ClassFile.FieldType), Jvm.Cond.code ({ cls := "java/lang/Object", name := "<init>", desc := "()V" } : Jvm.MethodName) object_method_1_code (1 : Nat) (Option.none : Option Jvm.ClassFile.FieldType), Jvm.Cond.code ({ cls := "com/example/tavoliere/tavoliere/IdBits", name := "set", desc := "(I)V" } : Jvm.MethodName) prog_18_method_5_code (2 : Nat) (Option.none : Option Jvm.ClassFile.FieldType), Jvm.Cond.code ({ cls := "com/example/tavoliere/tavoliere/IdBits", name := "number", desc := "(II)I" } : Jvm.MethodName) prog_18_method_6_code (5 : Nat) (Option.some Jvm.ClassFile.FieldType.int), Jvm.Cond.code ({ cls := "com/example/tavoliere/tavoliere/IdBits", name := "get", desc := "(I)Z" } : Jvm.MethodName) prog_18_method_4_code (2 : Nat) (Option.some Jvm.ClassFile.FieldType.boolean)]
set_option maxRecDepth 65536 in
theorem codes_eq : words1.filter isCode = codes1 := rfl
theorem w_codes : ∀ c ∈ words1.filter isCode, c.before args0 about1 = true := by
  rw [codes_eq]
  intro c hc
  simp only [codes1, List.mem_cons, List.not_mem_nil, or_false] at hc
  rcases hc with rfl | rfl | rfl | rfl | rfl | rfl
  · exact w_c0
  · exact w_c1
  · exact w_c2
  · exact w_c3
  · exact w_c4
  · exact w_c5
set_option maxRecDepth 65536 in
theorem w_t1 : (words1.take 24).all (fun c => isCode c || c.before args0 about1) = true := by decide +kernel
set_option maxRecDepth 65536 in
theorem w_t2 : (words1.drop 24).all (fun c => isCode c || c.before args0 about1) = true := by decide +kernel
theorem w_tables : (allAtoms (Jvm.Cond.code x code maxLocals ret :: tables_1)).before args0 about1 = true := by
  rw [allAtoms_all]
  show words1.all (fun c => c.before args0 about1) = true
  refine all_split ?_ w_codes
  rw [← List.take_append_drop 24 words1, List.all_append, w_t1, w_t2]
  rfl
set_option maxRecDepth 65536 in
theorem w_case : (Jvm.Cond.and given_1 narrow_1).before args0 about1 = true := by decide +kernel
theorem w_applies : (headSpec (Jvm.Cond.code x code maxLocals ret :: tables_1) room_1).applies x e0.platform about1 = true :=
  (Spec.applies_iff w_frames).mpr ⟨w_running, w_runnable, w_alone, w_named, w_hears, w_ripe, w_room, w_tables⟩
theorem atStart : AtStart classFile x code maxLocals ret World_1 tables_1 room_1 Calls_1 rest_1 Pre_1 launch0 p0 e0 about1 theMethod args0 below0 :=
  ⟨lists_1, trivial, launch0.admits_env _ _ _, launch0.least_env, fairChoices_fair.cas, fairChoices_fair.clock, w_frames, w_args, w_heap, w_applies, trivial, trivial, w_case⟩
end start1
theorem witness_1 : WitnessClaimed_1 := ⟨start1.p0, start1.e0, start1.about1, start1.theMethod, start1.args0, start1.below0, start1.atStart⟩
end Jvm.Pilot.@@N@@
