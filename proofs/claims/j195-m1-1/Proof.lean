import JvmDerived
import JvmDerived.Pilot.@@N@@Statement
import JvmDerived.Pilot.@@N@@Code
set_option linter.unusedVariables false
set_option linter.unusedSimpArgs false
namespace Jvm.Pilot.@@N@@
open Jvm Jvm.ClassFile Sem Op Lib Jvm.Free Jvm.Stand Jvm.LawKit Jvm.RoadKit Bundle Jvm.Pilot.@@N@@.Jvm.D
section OwnGo
variable {p : Program} {l : Launch} {e : Env} {R : Room} {s : State} {m : MethodId} {args : Array Value} {below : List Frame} {meth : Method} {c : Code} {T : State} {locs : List Loc} {cells slots : Nat} {Z : State} {a0 : Array Value} {h : Heap} {K : Outcome → State → Prop} {pc pc' : Nat} {Ls : Array Slot} {st : List Value}
/-- from frame g in state T the run ends as K says -/
def Goes (p : Program) (e : Env) (below : List Frame) (K : Outcome → State → Prop) (T : State) (g : JFrame) : Prop := ∃ u o, Steps p.tables e below (T.setTop g) u ∧ u.status = .running ∧ Ended u below o ∧ K o u
theorem Goes.by' {T' : State} {g g' : JFrame} (f : ∀ t, Steps p.tables e below (T'.setTop g') t → Steps p.tables e below (T.setTop g) t) (k : Goes p e below K T' g') : Goes p e below K T g := by obtain ⟨u, o, h1, h2⟩ := k; exact ⟨u, o, f _ h1, h2⟩
theorem Goes.cast {g g' : JFrame} (q : g = g') (k : Goes p e below K T g') : Goes p e below K T g := q ▸ k
/-- a callee's contract: called with as' at the heap h0 it returns v, leaves a heap and a list of written places of which Q speaks -/
abbrev Ctr (l : Launch) (Z : State) (y : MethodName) (bytes : ByteArray) (maxL : Nat) (ret : Option FieldType) (ws : List Jvm.Cond) (rm : Room) (C S : Nat) (as' : Array Value) (h0 : Heap) (Q : Option Value → Heap → List Loc → Prop) : Prop := MetFree l y (head1 (Jvm.Cond.code y bytes maxL ret :: ws) rm) (fun a U => a = as' ∧ Z.Warmed39 U.vm ∧ U.heap = h0) (fun _ _ _ _ _ => True) (fun _ U o U' => ∃ v L, o = .returned v ∧ Q v U'.heap L ∧ FrameEnd U o U' L C S)
abbrev KQ (s : State) (C S : Nat) (Q : Option Value → Heap → List Loc → Prop) : Outcome → State → Prop := fun o u => ∃ v L, o = .returned v ∧ Q v u.heap L ∧ FrameEnd s o u L C S
theorem Ctr.of {y : MethodName} {bytes : ByteArray} {maxL : Nat} {ret : Option FieldType} {ws : List Jvm.Cond} {rm : Room} {C S : Nat} {as' : Array Value} {h0 : Heap} {Q : Option Value → Heap → List Loc → Prop} (hpn : plainFor y = true)
    (body : ∀ (p : Program) (e : Env) (s : State) (m : MethodId) (below : List Frame) (meth : Method) (c : Code) (s₁ : State), p.tables.exec = Jvm.exec → c.code = bytes → c.maxLocals = maxL → s.vm.findClass y.cls = some m.cls → meth.name = y.name → meth.sig.returnType = ret → meth.locks = false → Z.Warmed39 s.vm → Stand p l e rm s m as' below meth c s₁ [] 0 0 → s₁.heap = h0 → Goes p e below (KQ s C S Q) s₁ (entryFrame m as' maxL)) :
    Ctr l Z y bytes maxL ret ws rm C S as' h0 Q := by
  refine MetFree.of_bodySF hpn hisR ?_
  intro p e s m args below meth c s₁ Bd hml0 hP hK
  obtain ⟨rfl, hZ, hh⟩ := hP
  have hlk : meth.locks = false := BodyLoose.notSynchronized Bd
  exact body p e s m below meth c s₁ Bd.exec Bd.bytes hml0 (findClass_of_methodNamed Bd.named) (name_of_methodNamed Bd.named Bd.method).1 Bd.returns hlk hZ (Stand.of_body Bd) (by rw [← hh, Bd.state]; rfl)
theorem wd {a0 : Array Value} {Z : State} {tb : List Jvm.Cond} (hw : ∀ d ∈ tb, d.before a0 Z = true) (i : Nat) {d : Jvm.Cond} (q : tb[i]? = some d) : d.before a0 Z = true := hw _ (List.mem_of_getElem? q)
theorem g_iadd (X : Stand p l e R s m args below meth c T locs cells slots) (hx : p.tables.exec = Jvm.exec) {x y : Int32} (hd : decode c.code pc = .ok (.iadd, 1))  (hp : pc + 1 = pc') (k : Goes p e below K T (mkF m pc' Ls (.int (x + y) :: st))) : Goes p e below K T (mkF m pc Ls (.int y :: .int x :: st)) := by subst hp; exact Goes.by' (fun _ q => XS.iadd X.here hx rfl hd rfl q) k
theorem g_isub (X : Stand p l e R s m args below meth c T locs cells slots) (hx : p.tables.exec = Jvm.exec) {x y : Int32} (hd : decode c.code pc = .ok (.isub, 1))  (hp : pc + 1 = pc') (k : Goes p e below K T (mkF m pc' Ls (.int (x - y) :: st))) : Goes p e below K T (mkF m pc Ls (.int y :: .int x :: st)) := by subst hp; exact Goes.by' (fun _ q => XS.isub X.here hx rfl hd rfl q) k
theorem g_iand (X : Stand p l e R s m args below meth c T locs cells slots) (hx : p.tables.exec = Jvm.exec) {x y : Int32} (hd : decode c.code pc = .ok (.iand, 1))  (hp : pc + 1 = pc') (k : Goes p e below K T (mkF m pc' Ls (.int (x &&& y) :: st))) : Goes p e below K T (mkF m pc Ls (.int y :: .int x :: st)) := by subst hp; exact Goes.by' (fun _ q => XS.iand X.here hx rfl hd rfl q) k
theorem g_imul (X : Stand p l e R s m args below meth c T locs cells slots) (hx : p.tables.exec = Jvm.exec) {x y : Int32} (hd : decode c.code pc = .ok (.imul, 1))  (hp : pc + 1 = pc') (k : Goes p e below K T (mkF m pc' Ls (.int (x * y) :: st))) : Goes p e below K T (mkF m pc Ls (.int y :: .int x :: st)) := by subst hp; exact Goes.by' (fun _ q => XS.imul X.here hx rfl hd rfl q) k
theorem g_ixor (X : Stand p l e R s m args below meth c T locs cells slots) (hx : p.tables.exec = Jvm.exec) {x y : Int32} (hd : decode c.code pc = .ok (.ixor, 1))  (hp : pc + 1 = pc') (k : Goes p e below K T (mkF m pc' Ls (.int (x ^^^ y) :: st))) : Goes p e below K T (mkF m pc Ls (.int y :: .int x :: st)) := by subst hp; exact Goes.by' (fun _ q => XT.ixor X.here hx rfl hd rfl q) k
theorem g_ior (X : Stand p l e R s m args below meth c T locs cells slots) (hx : p.tables.exec = Jvm.exec) {x y : Int32} (hd : decode c.code pc = .ok (.ior, 1))  (hp : pc + 1 = pc') (k : Goes p e below K T (mkF m pc' Ls (.int (x ||| y) :: st))) : Goes p e below K T (mkF m pc Ls (.int y :: .int x :: st)) := by subst hp; exact Goes.by' (fun _ q => XT.ior X.here hx rfl hd rfl q) k
theorem g_idiv (X : Stand p l e R s m args below meth c T locs cells slots) (hx : p.tables.exec = Jvm.exec) {x y : Int32} (hd : decode c.code pc = .ok (.idiv, 1)) (hy : y ≠ 0) (hp : pc + 1 = pc') (k : Goes p e below K T (mkF m pc' Ls (.int (x / y) :: st))) : Goes p e below K T (mkF m pc Ls (.int y :: .int x :: st)) := by subst hp; exact Goes.by' (fun _ q => XS.idiv X.here hx rfl hd rfl hy q) k
theorem g_irem (X : Stand p l e R s m args below meth c T locs cells slots) (hx : p.tables.exec = Jvm.exec) {x y : Int32} (hd : decode c.code pc = .ok (.irem, 1)) (hy : y ≠ 0) (hp : pc + 1 = pc') (k : Goes p e below K T (mkF m pc' Ls (.int (x % y) :: st))) : Goes p e below K T (mkF m pc Ls (.int y :: .int x :: st)) := by subst hp; exact Goes.by' (fun _ q => iremM X hx rfl hd rfl hy q) k
theorem g_ineg (X : Stand p l e R s m args below meth c T locs cells slots) (hx : p.tables.exec = Jvm.exec) {x : Int32} (hd : decode c.code pc = .ok (.ineg, 1))  (hp : pc + 1 = pc') (k : Goes p e below K T (mkF m pc' Ls (.int (-x) :: st))) : Goes p e below K T (mkF m pc Ls (.int x :: st)) := by subst hp; exact Goes.by' (fun _ q => XS.ineg X.here hx rfl hd rfl q) k
theorem g_ishl (X : Stand p l e R s m args below meth c T locs cells slots) (hx : p.tables.exec = Jvm.exec) {x y : Int32} (hd : decode c.code pc = .ok (.ishl, 1))  (hp : pc + 1 = pc') (k : Goes p e below K T (mkF m pc' Ls (.int (x <<< (y &&& 31)) :: st))) : Goes p e below K T (mkF m pc Ls (.int y :: .int x :: st)) := by subst hp; exact Goes.by' (fun _ q => XT.ishl X.here hx rfl hd rfl q) k
theorem g_ishr (X : Stand p l e R s m args below meth c T locs cells slots) (hx : p.tables.exec = Jvm.exec) {x y : Int32} (hd : decode c.code pc = .ok (.ishr, 1))  (hp : pc + 1 = pc') (k : Goes p e below K T (mkF m pc' Ls (.int (x >>> (y &&& 31)) :: st))) : Goes p e below K T (mkF m pc Ls (.int y :: .int x :: st)) := by subst hp; exact Goes.by' (fun _ q => XT.ishr X.here hx rfl hd rfl q) k
theorem g_iushr (X : Stand p l e R s m args below meth c T locs cells slots) (hx : p.tables.exec = Jvm.exec) {x y : Int32} (hd : decode c.code pc = .ok (.iushr, 1))  (hp : pc + 1 = pc') (k : Goes p e below K T (mkF m pc' Ls (.int (XT.ushr x y) :: st))) : Goes p e below K T (mkF m pc Ls (.int y :: .int x :: st)) := by subst hp; exact Goes.by' (fun _ q => XT.iushr X.here hx rfl hd rfl q) k
theorem g_ladd (X : Stand p l e R s m args below meth c T locs cells slots) (hx : p.tables.exec = Jvm.exec) {x y : Int64} (hd : decode c.code pc = .ok (.ladd, 1))  (hp : pc + 1 = pc') (k : Goes p e below K T (mkF m pc' Ls (.long (x + y) :: st))) : Goes p e below K T (mkF m pc Ls (.long y :: .long x :: st)) := by subst hp; exact Goes.by' (fun _ q => XT.ladd X.here hx rfl hd rfl q) k
theorem g_lsub (X : Stand p l e R s m args below meth c T locs cells slots) (hx : p.tables.exec = Jvm.exec) {x y : Int64} (hd : decode c.code pc = .ok (.lsub, 1))  (hp : pc + 1 = pc') (k : Goes p e below K T (mkF m pc' Ls (.long (x - y) :: st))) : Goes p e below K T (mkF m pc Ls (.long y :: .long x :: st)) := by subst hp; exact Goes.by' (fun _ q => XT.lsub X.here hx rfl hd rfl q) k
theorem g_lmul (X : Stand p l e R s m args below meth c T locs cells slots) (hx : p.tables.exec = Jvm.exec) {x y : Int64} (hd : decode c.code pc = .ok (.lmul, 1))  (hp : pc + 1 = pc') (k : Goes p e below K T (mkF m pc' Ls (.long (x * y) :: st))) : Goes p e below K T (mkF m pc Ls (.long y :: .long x :: st)) := by subst hp; exact Goes.by' (fun _ q => XT.lmul X.here hx rfl hd rfl q) k
theorem g_land (X : Stand p l e R s m args below meth c T locs cells slots) (hx : p.tables.exec = Jvm.exec) {x y : Int64} (hd : decode c.code pc = .ok (.land, 1))  (hp : pc + 1 = pc') (k : Goes p e below K T (mkF m pc' Ls (.long (x &&& y) :: st))) : Goes p e below K T (mkF m pc Ls (.long y :: .long x :: st)) := by subst hp; exact Goes.by' (fun _ q => XT.land X.here hx rfl hd rfl q) k
theorem g_lor (X : Stand p l e R s m args below meth c T locs cells slots) (hx : p.tables.exec = Jvm.exec) {x y : Int64} (hd : decode c.code pc = .ok (.lor, 1))  (hp : pc + 1 = pc') (k : Goes p e below K T (mkF m pc' Ls (.long (x ||| y) :: st))) : Goes p e below K T (mkF m pc Ls (.long y :: .long x :: st)) := by subst hp; exact Goes.by' (fun _ q => XT.lor X.here hx rfl hd rfl q) k
theorem g_lxor (X : Stand p l e R s m args below meth c T locs cells slots) (hx : p.tables.exec = Jvm.exec) {x y : Int64} (hd : decode c.code pc = .ok (.lxor, 1))  (hp : pc + 1 = pc') (k : Goes p e below K T (mkF m pc' Ls (.long (x ^^^ y) :: st))) : Goes p e below K T (mkF m pc Ls (.long y :: .long x :: st)) := by subst hp; exact Goes.by' (fun _ q => XT.lxor X.here hx rfl hd rfl q) k
theorem g_ldiv (X : Stand p l e R s m args below meth c T locs cells slots) (hx : p.tables.exec = Jvm.exec) {x y : Int64} (hd : decode c.code pc = .ok (.ldiv, 1)) (hy : y ≠ 0) (hp : pc + 1 = pc') (k : Goes p e below K T (mkF m pc' Ls (.long (x / y) :: st))) : Goes p e below K T (mkF m pc Ls (.long y :: .long x :: st)) := by subst hp; exact Goes.by' (fun _ q => XT.ldiv X.here hx rfl hd rfl hy q) k
theorem g_lrem (X : Stand p l e R s m args below meth c T locs cells slots) (hx : p.tables.exec = Jvm.exec) {x y : Int64} (hd : decode c.code pc = .ok (.lrem, 1)) (hy : y ≠ 0) (hp : pc + 1 = pc') (k : Goes p e below K T (mkF m pc' Ls (.long (x % y) :: st))) : Goes p e below K T (mkF m pc Ls (.long y :: .long x :: st)) := by subst hp; exact Goes.by' (fun _ q => XT.lrem X.here hx rfl hd rfl hy (by rw [lrem_mod]; exact q)) k
theorem g_lneg (X : Stand p l e R s m args below meth c T locs cells slots) (hx : p.tables.exec = Jvm.exec) {x : Int64} (hd : decode c.code pc = .ok (.lneg, 1))  (hp : pc + 1 = pc') (k : Goes p e below K T (mkF m pc' Ls (.long (-x) :: st))) : Goes p e below K T (mkF m pc Ls (.long x :: st)) := by subst hp; exact Goes.by' (fun _ q => XT.lneg X.here hx rfl hd rfl q) k
theorem g_lshl (X : Stand p l e R s m args below meth c T locs cells slots) (hx : p.tables.exec = Jvm.exec) {x : Int64} {y : Int32} (hd : decode c.code pc = .ok (.lshl, 1))  (hp : pc + 1 = pc') (k : Goes p e below K T (mkF m pc' Ls (.long (x <<< (y.toInt64 &&& 63)) :: st))) : Goes p e below K T (mkF m pc Ls (.int y :: .long x :: st)) := by subst hp; exact Goes.by' (fun _ q => XT.lshl X.here hx rfl hd rfl q) k
theorem g_lshr (X : Stand p l e R s m args below meth c T locs cells slots) (hx : p.tables.exec = Jvm.exec) {x : Int64} {y : Int32} (hd : decode c.code pc = .ok (.lshr, 1))  (hp : pc + 1 = pc') (k : Goes p e below K T (mkF m pc' Ls (.long (x >>> (y.toInt64 &&& 63)) :: st))) : Goes p e below K T (mkF m pc Ls (.int y :: .long x :: st)) := by subst hp; exact Goes.by' (fun _ q => XT.lshr X.here hx rfl hd rfl q) k
theorem g_lushr (X : Stand p l e R s m args below meth c T locs cells slots) (hx : p.tables.exec = Jvm.exec) {x : Int64} {y : Int32} (hd : decode c.code pc = .ok (.lushr, 1))  (hp : pc + 1 = pc') (k : Goes p e below K T (mkF m pc' Ls (.long (XT.ushrL x y) :: st))) : Goes p e below K T (mkF m pc Ls (.int y :: .long x :: st)) := by subst hp; exact Goes.by' (fun _ q => XT.lushr X.here hx rfl hd rfl q) k
theorem g_lcmp (X : Stand p l e R s m args below meth c T locs cells slots) (hx : p.tables.exec = Jvm.exec) {x y : Int64} (hd : decode c.code pc = .ok (.lcmp, 1))  (hp : pc + 1 = pc') (k : Goes p e below K T (mkF m pc' Ls (.int (XT.cmpL x y) :: st))) : Goes p e below K T (mkF m pc Ls (.long y :: .long x :: st)) := by subst hp; exact Goes.by' (fun _ q => XT.lcmp X.here hx rfl hd rfl q) k
theorem g_i2l (X : Stand p l e R s m args below meth c T locs cells slots) (hx : p.tables.exec = Jvm.exec) {x : Int32} (hd : decode c.code pc = .ok (.i2l, 1))  (hp : pc + 1 = pc') (k : Goes p e below K T (mkF m pc' Ls (.long x.toInt64 :: st))) : Goes p e below K T (mkF m pc Ls (.int x :: st)) := by subst hp; exact Goes.by' (fun _ q => XT.i2l X.here hx rfl hd rfl q) k
theorem g_l2i (X : Stand p l e R s m args below meth c T locs cells slots) (hx : p.tables.exec = Jvm.exec) {x : Int64} (hd : decode c.code pc = .ok (.l2i, 1))  (hp : pc + 1 = pc') (k : Goes p e below K T (mkF m pc' Ls (.int x.toInt32 :: st))) : Goes p e below K T (mkF m pc Ls (.long x :: st)) := by subst hp; exact Goes.by' (fun _ q => XT.l2i X.here hx rfl hd rfl q) k
theorem g_i2b (X : Stand p l e R s m args below meth c T locs cells slots) (hx : p.tables.exec = Jvm.exec) {x : Int32} (hd : decode c.code pc = .ok (.i2b, 1))  (hp : pc + 1 = pc') (k : Goes p e below K T (mkF m pc' Ls (.int x.toInt8.toInt32 :: st))) : Goes p e below K T (mkF m pc Ls (.int x :: st)) := by subst hp; exact Goes.by' (fun _ q => XT.i2b X.here hx rfl hd rfl q) k
theorem g_i2c (X : Stand p l e R s m args below meth c T locs cells slots) (hx : p.tables.exec = Jvm.exec) {x : Int32} (hd : decode c.code pc = .ok (.i2c, 1))  (hp : pc + 1 = pc') (k : Goes p e below K T (mkF m pc' Ls (.int x.toUInt32.toUInt16.toUInt32.toInt32 :: st))) : Goes p e below K T (mkF m pc Ls (.int x :: st)) := by subst hp; exact Goes.by' (fun _ q => XT.i2c X.here hx rfl hd rfl q) k
theorem g_i2s (X : Stand p l e R s m args below meth c T locs cells slots) (hx : p.tables.exec = Jvm.exec) {x : Int32} (hd : decode c.code pc = .ok (.i2s, 1))  (hp : pc + 1 = pc') (k : Goes p e below K T (mkF m pc' Ls (.int x.toInt16.toInt32 :: st))) : Goes p e below K T (mkF m pc Ls (.int x :: st)) := by subst hp; exact Goes.by' (fun _ q => XT.i2s X.here hx rfl hd rfl q) k
theorem g_aload_n (X : Stand p l e R s m args below meth c T locs cells slots) (hx : p.tables.exec = Jvm.exec) {i : Fin 4} {v : Value} (hd : decode c.code pc = .ok (.aload_n i, 1)) (hl : Ls[i.val]? = some (.val v)) (hv : v.isRef = true) (hp : pc + 1 = pc') (k : Goes p e below K T (mkF m pc' Ls (v :: st))) : Goes p e below K T (mkF m pc Ls (st)) := by subst hp; exact Goes.by' (fun _ q => XS.aloadN X.here hx rfl hd hl hv q) k
theorem g_aload (X : Stand p l e R s m args below meth c T locs cells slots) (hx : p.tables.exec = Jvm.exec) {i : Nat} {v : Value} (hd : decode c.code pc = .ok (.aload i, 2)) (hl : Ls[i]? = some (.val v)) (hv : v.isRef = true) (hp : pc + 2 = pc') (k : Goes p e below K T (mkF m pc' Ls (v :: st))) : Goes p e below K T (mkF m pc Ls (st)) := by subst hp; exact Goes.by' (fun _ q => XS.aload X.here hx rfl hd hl hv q) k
theorem g_iload_n (X : Stand p l e R s m args below meth c T locs cells slots) (hx : p.tables.exec = Jvm.exec) {i : Fin 4} {v : Int32} (hd : decode c.code pc = .ok (.iload_n i, 1)) (hl : Ls[i.val]? = some (.val (.int v))) (hp : pc + 1 = pc') (k : Goes p e below K T (mkF m pc' Ls (.int v :: st))) : Goes p e below K T (mkF m pc Ls (st)) := by subst hp; exact Goes.by' (fun _ q => XS.iloadN X.here hx rfl hd hl q) k
theorem g_iload (X : Stand p l e R s m args below meth c T locs cells slots) (hx : p.tables.exec = Jvm.exec) {i : Nat} {v : Int32} (hd : decode c.code pc = .ok (.iload i, 2)) (hl : Ls[i]? = some (.val (.int v))) (hp : pc + 2 = pc') (k : Goes p e below K T (mkF m pc' Ls (.int v :: st))) : Goes p e below K T (mkF m pc Ls (st)) := by subst hp; exact Goes.by' (fun _ q => XS.iload X.here hx rfl hd hl q) k
theorem g_lload_n (X : Stand p l e R s m args below meth c T locs cells slots) (hx : p.tables.exec = Jvm.exec) {i : Fin 4} {v : Int64} (hd : decode c.code pc = .ok (.lload_n i, 1)) (hl : Ls[i.val]? = some (.val (.long v))) (hp : pc + 1 = pc') (k : Goes p e below K T (mkF m pc' Ls (.long v :: st))) : Goes p e below K T (mkF m pc Ls (st)) := by subst hp; exact Goes.by' (fun _ q => XT.lloadN X.here hx rfl hd hl q) k
theorem g_lload (X : Stand p l e R s m args below meth c T locs cells slots) (hx : p.tables.exec = Jvm.exec) {i : Nat} {v : Int64} (hd : decode c.code pc = .ok (.lload i, 2)) (hl : Ls[i]? = some (.val (.long v))) (hp : pc + 2 = pc') (k : Goes p e below K T (mkF m pc' Ls (.long v :: st))) : Goes p e below K T (mkF m pc Ls (st)) := by subst hp; exact Goes.by' (fun _ q => XT.lload X.here hx rfl hd hl q) k
theorem g_iconst (X : Stand p l e R s m args below meth c T locs cells slots) (hx : p.tables.exec = Jvm.exec) {i : Int} {v : Int32} (hd : decode c.code pc = .ok (.iconst i, 1)) (hv : v = Int32.ofInt i) (hp : pc + 1 = pc') (k : Goes p e below K T (mkF m pc' Ls (.int v :: st))) : Goes p e below K T (mkF m pc Ls (st)) := by subst hp; exact Goes.by' (fun _ q => XS.iconst X.here hx rfl hd (hv ▸ q)) k
theorem g_bipush (X : Stand p l e R s m args below meth c T locs cells slots) (hx : p.tables.exec = Jvm.exec) {i : Int} {v : Int32} (hd : decode c.code pc = .ok (.bipush i, 2)) (hv : v = (Int8.ofInt i).toInt32) (hp : pc + 2 = pc') (k : Goes p e below K T (mkF m pc' Ls (.int v :: st))) : Goes p e below K T (mkF m pc Ls (st)) := by subst hp; exact Goes.by' (fun _ q => XS.bipush X.here hx rfl hd (hv ▸ q)) k
theorem g_sipush (X : Stand p l e R s m args below meth c T locs cells slots) (hx : p.tables.exec = Jvm.exec) {i : Int} {v : Int32} (hd : decode c.code pc = .ok (.sipush i, 3)) (hv : v = (Int16.ofInt i).toInt32) (hp : pc + 3 = pc') (k : Goes p e below K T (mkF m pc' Ls (.int v :: st))) : Goes p e below K T (mkF m pc Ls (st)) := by subst hp; exact Goes.by' (fun _ q => XS.sipush X.here hx rfl hd (hv ▸ q)) k
theorem g_lconst (X : Stand p l e R s m args below meth c T locs cells slots) (hx : p.tables.exec = Jvm.exec) {i : Fin 2} {v : Int64} (hd : decode c.code pc = .ok (.lconst i, 1)) (hv : v = Int64.ofNat i) (hp : pc + 1 = pc') (k : Goes p e below K T (mkF m pc' Ls (.long v :: st))) : Goes p e below K T (mkF m pc Ls (st)) := by subst hp; exact Goes.by' (fun _ q => XT.lconst X.here hx rfl hd (hv ▸ q)) k
theorem g_aconst_null (X : Stand p l e R s m args below meth c T locs cells slots) (hx : p.tables.exec = Jvm.exec)  (hd : decode c.code pc = .ok (.aconst_null, 1))  (hp : pc + 1 = pc') (k : Goes p e below K T (mkF m pc' Ls (.null :: st))) : Goes p e below K T (mkF m pc Ls (st)) := by subst hp; exact Goes.by' (fun _ q => XS.aconstNull X.here hx rfl hd q) k
theorem g_dup (X : Stand p l e R s m args below meth c T locs cells slots) (hx : p.tables.exec = Jvm.exec) {x : Value} (hd : decode c.code pc = .ok (.dup, 1)) (hc : x.category = 1) (hp : pc + 1 = pc') (k : Goes p e below K T (mkF m pc' Ls (x :: x :: st))) : Goes p e below K T (mkF m pc Ls (x :: st)) := by subst hp; exact Goes.by' (fun _ q => XS.dup X.here hx rfl hd rfl hc q) k
theorem g_pop (X : Stand p l e R s m args below meth c T locs cells slots) (hx : p.tables.exec = Jvm.exec) {x : Value} (hd : decode c.code pc = .ok (.pop, 1)) (hc : x.category = 1) (hp : pc + 1 = pc') (k : Goes p e below K T (mkF m pc' Ls (st))) : Goes p e below K T (mkF m pc Ls (x :: st)) := by subst hp; exact Goes.by' (fun _ q => XT.pop X.here hx rfl hd rfl hc q) k
theorem g_dup_x1 (X : Stand p l e R s m args below meth c T locs cells slots) (hx : p.tables.exec = Jvm.exec) {x y : Value} (hd : decode c.code pc = .ok (.dup_x1, 1)) (hc : x.category = 1) (hc' : y.category = 1) (hp : pc + 1 = pc') (k : Goes p e below K T (mkF m pc' Ls (x :: y :: x :: st))) : Goes p e below K T (mkF m pc Ls (x :: y :: st)) := by subst hp; exact Goes.by' (fun _ q => XT.dupX1 X.here hx rfl hd rfl hc hc' q) k
theorem g_dup2 (X : Stand p l e R s m args below meth c T locs cells slots) (hx : p.tables.exec = Jvm.exec) {x y : Value} (hd : decode c.code pc = .ok (.dup2, 1)) (hc : x.category = 1) (hc' : y.category = 1) (hp : pc + 1 = pc') (k : Goes p e below K T (mkF m pc' Ls (x :: y :: x :: y :: st))) : Goes p e below K T (mkF m pc Ls (x :: y :: st)) := by subst hp; exact Goes.by' (fun _ q => XT.dup2 X.here hx rfl hd rfl hc hc' q) k
theorem g_dup2L (X : Stand p l e R s m args below meth c T locs cells slots) (hx : p.tables.exec = Jvm.exec) {x : Int64} (hd : decode c.code pc = .ok (.dup2, 1))  (hp : pc + 1 = pc') (k : Goes p e below K T (mkF m pc' Ls (.long x :: .long x :: st))) : Goes p e below K T (mkF m pc Ls (.long x :: st)) := by subst hp; exact Goes.by' (fun _ q => XT.dup2L X.here hx rfl hd rfl q) k
theorem g_istore_n (X : Stand p l e R s m args below meth c T locs cells slots) (hx : p.tables.exec = Jvm.exec) {i : Fin 4} {x : Int32} (l' : Array Slot) (hd : decode c.code pc = .ok (.istore_n i, 1)) (hl : storeLocals Ls i.val (.int x) = some l') (hp : pc + 1 = pc') (k : Goes p e below K T (mkF m pc' l' (st))) : Goes p e below K T (mkF m pc Ls (.int x :: st)) := by subst hp; exact Goes.by' (fun _ q => XS.istoreN X.here hx rfl hd rfl hl q) k
theorem g_istore (X : Stand p l e R s m args below meth c T locs cells slots) (hx : p.tables.exec = Jvm.exec) {i : Nat} {x : Int32} (l' : Array Slot) (hd : decode c.code pc = .ok (.istore i, 2)) (hl : storeLocals Ls i (.int x) = some l') (hp : pc + 2 = pc') (k : Goes p e below K T (mkF m pc' l' (st))) : Goes p e below K T (mkF m pc Ls (.int x :: st)) := by subst hp; exact Goes.by' (fun _ q => XS.istore X.here hx rfl hd rfl hl q) k
theorem g_lstore_n (X : Stand p l e R s m args below meth c T locs cells slots) (hx : p.tables.exec = Jvm.exec) {i : Fin 4} {x : Int64} (l' : Array Slot) (hd : decode c.code pc = .ok (.lstore_n i, 1)) (hl : storeLocals Ls i.val (.long x) = some l') (hp : pc + 1 = pc') (k : Goes p e below K T (mkF m pc' l' (st))) : Goes p e below K T (mkF m pc Ls (.long x :: st)) := by subst hp; exact Goes.by' (fun _ q => XT.lstoreN X.here hx rfl hd rfl hl q) k
theorem g_lstore (X : Stand p l e R s m args below meth c T locs cells slots) (hx : p.tables.exec = Jvm.exec) {i : Nat} {x : Int64} (l' : Array Slot) (hd : decode c.code pc = .ok (.lstore i, 2)) (hl : storeLocals Ls i (.long x) = some l') (hp : pc + 2 = pc') (k : Goes p e below K T (mkF m pc' l' (st))) : Goes p e below K T (mkF m pc Ls (.long x :: st)) := by subst hp; exact Goes.by' (fun _ q => XT.lstore X.here hx rfl hd rfl hl q) k
theorem g_astore_n (X : Stand p l e R s m args below meth c T locs cells slots) (hx : p.tables.exec = Jvm.exec) {i : Fin 4} {x : Value} (l' : Array Slot) (hd : decode c.code pc = .ok (.astore_n i, 1)) (hv : x.isRef = true) (hl : storeLocals Ls i.val x = some l') (hp : pc + 1 = pc') (k : Goes p e below K T (mkF m pc' l' (st))) : Goes p e below K T (mkF m pc Ls (x :: st)) := by subst hp; exact Goes.by' (fun _ q => XS.astoreN X.here hx rfl hd rfl hv hl q) k
theorem g_astore (X : Stand p l e R s m args below meth c T locs cells slots) (hx : p.tables.exec = Jvm.exec) {i : Nat} {x : Value} (l' : Array Slot) (hd : decode c.code pc = .ok (.astore i, 2)) (hv : x.isRef = true) (hl : storeLocals Ls i x = some l') (hp : pc + 2 = pc') (k : Goes p e below K T (mkF m pc' l' (st))) : Goes p e below K T (mkF m pc Ls (x :: st)) := by subst hp; exact Goes.by' (fun _ q => XS.astore X.here hx rfl hd rfl hv hl q) k
theorem g_iinc (X : Stand p l e R s m args below meth c T locs cells slots) (hx : p.tables.exec = Jvm.exec) {i : Nat} {cst : Int} {x y : Int32} (l' : Array Slot) (hd : decode c.code pc = .ok (.iinc i cst, 3)) (hl : Ls[i]? = some (.val (.int x))) (hy : y = x + Int32.ofInt cst) (hl' : storeLocals Ls i (.int y) = some l') (hp : pc + 3 = pc') (k : Goes p e below K T (mkF m pc' l' (st))) : Goes p e below K T (mkF m pc Ls (st)) := by subst hp; exact Goes.by' (fun _ q => XS.iinc X.here hx rfl hd hl (hy ▸ hl') q) k
theorem g_ldcI (X : Stand p l e R s m args below meth c T locs cells slots) (hx : p.tables.exec = Jvm.exec) (hZ : Z.Warmed39 s.vm) {own : String} {ix : Nat} {v : Int32} (hown : s.vm.findClass own = some m.cls) (w : (Cond.constant own ix v).before a0 Z = true) (hd : decode c.code pc = .ok (.ldc ix, 2)) (hp : pc + 2 = pc') (k : Goes p e below K T (mkF m pc' Ls (.int v :: st))) : Goes p e below K T (mkF m pc Ls st) := by subst hp; exact Goes.by' (fun _ q => X.ldcI hx hown (mvT hZ w) rfl hd q) k
theorem g_ldcWI (X : Stand p l e R s m args below meth c T locs cells slots) (hx : p.tables.exec = Jvm.exec) (hZ : Z.Warmed39 s.vm) {own : String} {ix : Nat} {v : Int32} (hown : s.vm.findClass own = some m.cls) (w : (Cond.constant own ix v).before a0 Z = true) (hd : decode c.code pc = .ok (.ldc_w ix, 3)) (hp : pc + 3 = pc') (k : Goes p e below K T (mkF m pc' Ls (.int v :: st))) : Goes p e below K T (mkF m pc Ls st) := by subst hp; exact Goes.by' (fun _ q => X.ldcWI hx hown (mvT hZ w) rfl hd q) k
theorem g_ldc2J (X : Stand p l e R s m args below meth c T locs cells slots) (hx : p.tables.exec = Jvm.exec) (hZ : Z.Warmed39 s.vm) {own : String} {ix : Nat} {v : Int64} (hown : s.vm.findClass own = some m.cls) (w : (Cond.constantLong own ix v).before a0 Z = true) (hd : decode c.code pc = .ok (.ldc2_w ix, 3)) (hp : pc + 3 = pc') (k : Goes p e below K T (mkF m pc' Ls (.long v :: st))) : Goes p e below K T (mkF m pc Ls st) := by subst hp; exact Goes.by' (fun _ q => X.ldc2J hx hown (mvT hZ w) rfl hd q) k
theorem g_goto (X : Stand p l e R s m args below meth c T locs cells slots) (hx : p.tables.exec = Jvm.exec) {o : Int} (hd : decode c.code pc = .ok (.goto o, 3)) (ho : 0 ≤ (pc : Int) + o) (hp : ((pc : Int) + o).toNat = pc') (k : Goes p e below K T (mkF m pc' Ls st)) : Goes p e below K T (mkF m pc Ls st) := Goes.by' (fun _ q => XS.goto X.here hx rfl (pc0 := pc) (pc' := pc') rfl hd ho hp q) k
theorem icmp_iff (cd : ClassFile.Cond) (x y : Int32) : if_icmp.holds cd x y = true ↔ (match cd with | .eq => x = y | .ne => ¬ x = y | .lt => x < y | .ge => ¬ x < y | .gt => y < x | .le => ¬ y < x) := by cases cd <;> simp [if_icmp.holds, Int32.not_lt, Int32.not_le]
theorem g_icmp_eq (X : Stand p l e R s m args below meth c T locs cells slots) (hx : p.tables.exec = Jvm.exec) {x y : Int32} {o : Int} {pt : Nat} (hd : decode c.code pc = .ok (.if_icmp .eq o, 3)) (ho : 0 ≤ (pc : Int) + o) (hp : ((pc : Int) + o).toNat = pt) (hp' : pc + 3 = pc') (kt : x = y → Goes p e below K T (mkF m pt Ls st)) (kf : ¬ x = y → Goes p e below K T (mkF m pc' Ls st)) : Goes p e below K T (mkF m pc Ls (.int y :: .int x :: st)) := by
  subst hp'
  by_cases q : if_icmp.holds .eq x y = true
  · exact Goes.by' (fun _ r => XS.icmpYes X.here hx rfl (pc0 := pc) (pc' := pt) rfl hd rfl q ho hp r) (kt ((icmp_iff .eq x y).mp q))
  · exact Goes.by' (fun _ r => XS.icmpNo X.here hx rfl hd rfl (by simpa using q) r) (kf (id (mt (icmp_iff .eq x y).mpr q)))
theorem g_if_eq (X : Stand p l e R s m args below meth c T locs cells slots) (hx : p.tables.exec = Jvm.exec) {x : Int32} {o : Int} {pt : Nat} (hd : decode c.code pc = .ok (.ifCond .eq o, 3)) (ho : 0 ≤ (pc : Int) + o) (hp : ((pc : Int) + o).toNat = pt) (hp' : pc + 3 = pc') (kt : x = 0 → Goes p e below K T (mkF m pt Ls st)) (kf : ¬ x = 0 → Goes p e below K T (mkF m pc' Ls st)) : Goes p e below K T (mkF m pc Ls (.int x :: st)) := by
  subst hp'
  by_cases q : if_icmp.holds .eq x 0 = true
  · exact Goes.by' (fun _ r => XS.ifYes X.here hx rfl (pc0 := pc) (pc' := pt) rfl hd rfl (by rw [if0]; exact q) ho hp r) (kt ((icmp_iff .eq x 0).mp q))
  · exact Goes.by' (fun _ r => XS.ifNo X.here hx rfl hd rfl (by rw [if0]; simpa using q) r) (kf (id (mt (icmp_iff .eq x 0).mpr q)))
theorem g_icmp_ne (X : Stand p l e R s m args below meth c T locs cells slots) (hx : p.tables.exec = Jvm.exec) {x y : Int32} {o : Int} {pt : Nat} (hd : decode c.code pc = .ok (.if_icmp .ne o, 3)) (ho : 0 ≤ (pc : Int) + o) (hp : ((pc : Int) + o).toNat = pt) (hp' : pc + 3 = pc') (kt : ¬ x = y → Goes p e below K T (mkF m pt Ls st)) (kf : x = y → Goes p e below K T (mkF m pc' Ls st)) : Goes p e below K T (mkF m pc Ls (.int y :: .int x :: st)) := by
  subst hp'
  by_cases q : if_icmp.holds .ne x y = true
  · exact Goes.by' (fun _ r => XS.icmpYes X.here hx rfl (pc0 := pc) (pc' := pt) rfl hd rfl q ho hp r) (kt ((icmp_iff .ne x y).mp q))
  · exact Goes.by' (fun _ r => XS.icmpNo X.here hx rfl hd rfl (by simpa using q) r) (kf (Classical.not_not.mp (mt (icmp_iff .ne x y).mpr q)))
theorem g_if_ne (X : Stand p l e R s m args below meth c T locs cells slots) (hx : p.tables.exec = Jvm.exec) {x : Int32} {o : Int} {pt : Nat} (hd : decode c.code pc = .ok (.ifCond .ne o, 3)) (ho : 0 ≤ (pc : Int) + o) (hp : ((pc : Int) + o).toNat = pt) (hp' : pc + 3 = pc') (kt : ¬ x = 0 → Goes p e below K T (mkF m pt Ls st)) (kf : x = 0 → Goes p e below K T (mkF m pc' Ls st)) : Goes p e below K T (mkF m pc Ls (.int x :: st)) := by
  subst hp'
  by_cases q : if_icmp.holds .ne x 0 = true
  · exact Goes.by' (fun _ r => XS.ifYes X.here hx rfl (pc0 := pc) (pc' := pt) rfl hd rfl (by rw [if0]; exact q) ho hp r) (kt ((icmp_iff .ne x 0).mp q))
  · exact Goes.by' (fun _ r => XS.ifNo X.here hx rfl hd rfl (by rw [if0]; simpa using q) r) (kf (Classical.not_not.mp (mt (icmp_iff .ne x 0).mpr q)))
theorem g_icmp_lt (X : Stand p l e R s m args below meth c T locs cells slots) (hx : p.tables.exec = Jvm.exec) {x y : Int32} {o : Int} {pt : Nat} (hd : decode c.code pc = .ok (.if_icmp .lt o, 3)) (ho : 0 ≤ (pc : Int) + o) (hp : ((pc : Int) + o).toNat = pt) (hp' : pc + 3 = pc') (kt : x < y → Goes p e below K T (mkF m pt Ls st)) (kf : ¬ x < y → Goes p e below K T (mkF m pc' Ls st)) : Goes p e below K T (mkF m pc Ls (.int y :: .int x :: st)) := by
  subst hp'
  by_cases q : if_icmp.holds .lt x y = true
  · exact Goes.by' (fun _ r => XS.icmpYes X.here hx rfl (pc0 := pc) (pc' := pt) rfl hd rfl q ho hp r) (kt ((icmp_iff .lt x y).mp q))
  · exact Goes.by' (fun _ r => XS.icmpNo X.here hx rfl hd rfl (by simpa using q) r) (kf (id (mt (icmp_iff .lt x y).mpr q)))
theorem g_if_lt (X : Stand p l e R s m args below meth c T locs cells slots) (hx : p.tables.exec = Jvm.exec) {x : Int32} {o : Int} {pt : Nat} (hd : decode c.code pc = .ok (.ifCond .lt o, 3)) (ho : 0 ≤ (pc : Int) + o) (hp : ((pc : Int) + o).toNat = pt) (hp' : pc + 3 = pc') (kt : x < 0 → Goes p e below K T (mkF m pt Ls st)) (kf : ¬ x < 0 → Goes p e below K T (mkF m pc' Ls st)) : Goes p e below K T (mkF m pc Ls (.int x :: st)) := by
  subst hp'
  by_cases q : if_icmp.holds .lt x 0 = true
  · exact Goes.by' (fun _ r => XS.ifYes X.here hx rfl (pc0 := pc) (pc' := pt) rfl hd rfl (by rw [if0]; exact q) ho hp r) (kt ((icmp_iff .lt x 0).mp q))
  · exact Goes.by' (fun _ r => XS.ifNo X.here hx rfl hd rfl (by rw [if0]; simpa using q) r) (kf (id (mt (icmp_iff .lt x 0).mpr q)))
theorem g_icmp_ge (X : Stand p l e R s m args below meth c T locs cells slots) (hx : p.tables.exec = Jvm.exec) {x y : Int32} {o : Int} {pt : Nat} (hd : decode c.code pc = .ok (.if_icmp .ge o, 3)) (ho : 0 ≤ (pc : Int) + o) (hp : ((pc : Int) + o).toNat = pt) (hp' : pc + 3 = pc') (kt : ¬ x < y → Goes p e below K T (mkF m pt Ls st)) (kf : x < y → Goes p e below K T (mkF m pc' Ls st)) : Goes p e below K T (mkF m pc Ls (.int y :: .int x :: st)) := by
  subst hp'
  by_cases q : if_icmp.holds .ge x y = true
  · exact Goes.by' (fun _ r => XS.icmpYes X.here hx rfl (pc0 := pc) (pc' := pt) rfl hd rfl q ho hp r) (kt ((icmp_iff .ge x y).mp q))
  · exact Goes.by' (fun _ r => XS.icmpNo X.here hx rfl hd rfl (by simpa using q) r) (kf (Classical.not_not.mp (mt (icmp_iff .ge x y).mpr q)))
theorem g_if_ge (X : Stand p l e R s m args below meth c T locs cells slots) (hx : p.tables.exec = Jvm.exec) {x : Int32} {o : Int} {pt : Nat} (hd : decode c.code pc = .ok (.ifCond .ge o, 3)) (ho : 0 ≤ (pc : Int) + o) (hp : ((pc : Int) + o).toNat = pt) (hp' : pc + 3 = pc') (kt : ¬ x < 0 → Goes p e below K T (mkF m pt Ls st)) (kf : x < 0 → Goes p e below K T (mkF m pc' Ls st)) : Goes p e below K T (mkF m pc Ls (.int x :: st)) := by
  subst hp'
  by_cases q : if_icmp.holds .ge x 0 = true
  · exact Goes.by' (fun _ r => XS.ifYes X.here hx rfl (pc0 := pc) (pc' := pt) rfl hd rfl (by rw [if0]; exact q) ho hp r) (kt ((icmp_iff .ge x 0).mp q))
  · exact Goes.by' (fun _ r => XS.ifNo X.here hx rfl hd rfl (by rw [if0]; simpa using q) r) (kf (Classical.not_not.mp (mt (icmp_iff .ge x 0).mpr q)))
theorem g_icmp_gt (X : Stand p l e R s m args below meth c T locs cells slots) (hx : p.tables.exec = Jvm.exec) {x y : Int32} {o : Int} {pt : Nat} (hd : decode c.code pc = .ok (.if_icmp .gt o, 3)) (ho : 0 ≤ (pc : Int) + o) (hp : ((pc : Int) + o).toNat = pt) (hp' : pc + 3 = pc') (kt : y < x → Goes p e below K T (mkF m pt Ls st)) (kf : ¬ y < x → Goes p e below K T (mkF m pc' Ls st)) : Goes p e below K T (mkF m pc Ls (.int y :: .int x :: st)) := by
  subst hp'
  by_cases q : if_icmp.holds .gt x y = true
  · exact Goes.by' (fun _ r => XS.icmpYes X.here hx rfl (pc0 := pc) (pc' := pt) rfl hd rfl q ho hp r) (kt ((icmp_iff .gt x y).mp q))
  · exact Goes.by' (fun _ r => XS.icmpNo X.here hx rfl hd rfl (by simpa using q) r) (kf (id (mt (icmp_iff .gt x y).mpr q)))
theorem g_if_gt (X : Stand p l e R s m args below meth c T locs cells slots) (hx : p.tables.exec = Jvm.exec) {x : Int32} {o : Int} {pt : Nat} (hd : decode c.code pc = .ok (.ifCond .gt o, 3)) (ho : 0 ≤ (pc : Int) + o) (hp : ((pc : Int) + o).toNat = pt) (hp' : pc + 3 = pc') (kt : 0 < x → Goes p e below K T (mkF m pt Ls st)) (kf : ¬ 0 < x → Goes p e below K T (mkF m pc' Ls st)) : Goes p e below K T (mkF m pc Ls (.int x :: st)) := by
  subst hp'
  by_cases q : if_icmp.holds .gt x 0 = true
  · exact Goes.by' (fun _ r => XS.ifYes X.here hx rfl (pc0 := pc) (pc' := pt) rfl hd rfl (by rw [if0]; exact q) ho hp r) (kt ((icmp_iff .gt x 0).mp q))
  · exact Goes.by' (fun _ r => XS.ifNo X.here hx rfl hd rfl (by rw [if0]; simpa using q) r) (kf (id (mt (icmp_iff .gt x 0).mpr q)))
theorem g_icmp_le (X : Stand p l e R s m args below meth c T locs cells slots) (hx : p.tables.exec = Jvm.exec) {x y : Int32} {o : Int} {pt : Nat} (hd : decode c.code pc = .ok (.if_icmp .le o, 3)) (ho : 0 ≤ (pc : Int) + o) (hp : ((pc : Int) + o).toNat = pt) (hp' : pc + 3 = pc') (kt : ¬ y < x → Goes p e below K T (mkF m pt Ls st)) (kf : y < x → Goes p e below K T (mkF m pc' Ls st)) : Goes p e below K T (mkF m pc Ls (.int y :: .int x :: st)) := by
  subst hp'
  by_cases q : if_icmp.holds .le x y = true
  · exact Goes.by' (fun _ r => XS.icmpYes X.here hx rfl (pc0 := pc) (pc' := pt) rfl hd rfl q ho hp r) (kt ((icmp_iff .le x y).mp q))
  · exact Goes.by' (fun _ r => XS.icmpNo X.here hx rfl hd rfl (by simpa using q) r) (kf (Classical.not_not.mp (mt (icmp_iff .le x y).mpr q)))
theorem g_if_le (X : Stand p l e R s m args below meth c T locs cells slots) (hx : p.tables.exec = Jvm.exec) {x : Int32} {o : Int} {pt : Nat} (hd : decode c.code pc = .ok (.ifCond .le o, 3)) (ho : 0 ≤ (pc : Int) + o) (hp : ((pc : Int) + o).toNat = pt) (hp' : pc + 3 = pc') (kt : ¬ 0 < x → Goes p e below K T (mkF m pt Ls st)) (kf : 0 < x → Goes p e below K T (mkF m pc' Ls st)) : Goes p e below K T (mkF m pc Ls (.int x :: st)) := by
  subst hp'
  by_cases q : if_icmp.holds .le x 0 = true
  · exact Goes.by' (fun _ r => XS.ifYes X.here hx rfl (pc0 := pc) (pc' := pt) rfl hd rfl (by rw [if0]; exact q) ho hp r) (kt ((icmp_iff .le x 0).mp q))
  · exact Goes.by' (fun _ r => XS.ifNo X.here hx rfl hd rfl (by rw [if0]; simpa using q) r) (kf (Classical.not_not.mp (mt (icmp_iff .le x 0).mpr q)))
theorem g_ifnull_t (X : Stand p l e R s m args below meth c T locs cells slots) (hx : p.tables.exec = Jvm.exec) {o : Int} {pt : Nat} (hd : decode c.code pc = .ok (.ifnull o, 3)) (ho : 0 ≤ (pc : Int) + o) (hp : ((pc : Int) + o).toNat = pt) (k : Goes p e below K T (mkF m pt Ls st)) : Goes p e below K T (mkF m pc Ls (.null :: st)) := Goes.by' (fun _ r => XS.ifnullYes X.here hx rfl (pc0 := pc) (pc' := pt) rfl hd rfl ho hp r) k
theorem g_ifnull_f (X : Stand p l e R s m args below meth c T locs cells slots) (hx : p.tables.exec = Jvm.exec) {o : Int} {a : Addr} (hd : decode c.code pc = .ok (.ifnull o, 3)) (hp : pc + 3 = pc') (k : Goes p e below K T (mkF m pc' Ls st)) : Goes p e below K T (mkF m pc Ls (.ref a :: st)) := by subst hp; exact Goes.by' (fun _ r => XS.ifnullNo X.here hx rfl hd rfl r) k
theorem g_ifnonnull_t (X : Stand p l e R s m args below meth c T locs cells slots) (hx : p.tables.exec = Jvm.exec) {o : Int} {a : Addr} {pt : Nat} (hd : decode c.code pc = .ok (.ifnonnull o, 3)) (ho : 0 ≤ (pc : Int) + o) (hp : ((pc : Int) + o).toNat = pt) (k : Goes p e below K T (mkF m pt Ls st)) : Goes p e below K T (mkF m pc Ls (.ref a :: st)) := Goes.by' (fun _ r => XT.ifnonnullYes X.here hx rfl (pc0 := pc) (pc' := pt) rfl hd rfl ho hp r) k
theorem g_ifnonnull_f (X : Stand p l e R s m args below meth c T locs cells slots) (hx : p.tables.exec = Jvm.exec) {o : Int} (hd : decode c.code pc = .ok (.ifnonnull o, 3)) (hp : pc + 3 = pc') (k : Goes p e below K T (mkF m pc' Ls st)) : Goes p e below K T (mkF m pc Ls (.null :: st)) := by subst hp; exact Goes.by' (fun _ r => XT.ifnonnullNo X.here hx rfl hd rfl r) k
theorem g_acmp_eq (X : Stand p l e R s m args below meth c T locs cells slots) (hx : p.tables.exec = Jvm.exec) {x y : Value} {o : Int} {pt : Nat} (hd : decode c.code pc = .ok (.if_acmp .eq o, 3)) (hx' : x.isRef = true) (hy' : y.isRef = true) (ho : 0 ≤ (pc : Int) + o) (hp : ((pc : Int) + o).toNat = pt) (hp' : pc + 3 = pc') (kt : x = y → Goes p e below K T (mkF m pt Ls st)) (kf : ¬ x = y → Goes p e below K T (mkF m pc' Ls st)) : Goes p e below K T (mkF m pc Ls (y :: x :: st)) := by
  subst hp'
  by_cases q : x = y
  · exact Goes.by' (fun _ r => XT.acmpYes X.here hx rfl (pc0 := pc) (pc' := pt) rfl hd rfl hx' hy' (by simp [XT.acmp, q]) ho hp r) (kt q)
  · exact Goes.by' (fun _ r => XT.acmpNo X.here hx rfl hd rfl hx' hy' (by simp [XT.acmp, q]) r) (kf q)
theorem g_acmp_ne (X : Stand p l e R s m args below meth c T locs cells slots) (hx : p.tables.exec = Jvm.exec) {x y : Value} {o : Int} {pt : Nat} (hd : decode c.code pc = .ok (.if_acmp .ne o, 3)) (hx' : x.isRef = true) (hy' : y.isRef = true) (ho : 0 ≤ (pc : Int) + o) (hp : ((pc : Int) + o).toNat = pt) (hp' : pc + 3 = pc') (kt : ¬ x = y → Goes p e below K T (mkF m pt Ls st)) (kf : x = y → Goes p e below K T (mkF m pc' Ls st)) : Goes p e below K T (mkF m pc Ls (y :: x :: st)) := by
  subst hp'
  by_cases q : x = y
  · exact Goes.by' (fun _ r => XT.acmpNo X.here hx rfl hd rfl hx' hy' (by simp [XT.acmp, q]) r) (kf q)
  · exact Goes.by' (fun _ r => XT.acmpYes X.here hx rfl (pc0 := pc) (pc' := pt) rfl hd rfl hx' hy' (by simp [XT.acmp, q]) ho hp r) (kt q)
theorem g_lsw (X : Stand p l e R s m args below meth c T locs cells slots) (hx : p.tables.exec = Jvm.exec) {i : Int32} {dflt o : Int} {prs : Array (Int × Int)} {len pt : Nat} (hd : decode c.code pc = .ok (.lookupswitch dflt prs, len)) (hso : ∀ (a b a_1 b_1 : Int), ((a, b), a_1, b_1) ∈ prs.toList.zip prs.toList.tail → a < a_1) (hoff : lookupswitch.offset prs.toList dflt i.toInt = o) (ho : 0 ≤ (pc : Int) + o) (hp : ((pc : Int) + o).toNat = pt) (k : Goes p e below K T (mkF m pt Ls st)) : Goes p e below K T (mkF m pc Ls (.int i :: st)) := by
  subst hp
  refine Goes.by' (fun t q => ?_) k
  show Steps p.tables e below (T.setTop { method := m, pc := pc, locals := Ls, stack := .int i :: st, locked := none }) t
  jvm_step X.here [X.here.top, hx, hd, lookupswitch.wp_chain, hoff, ho]
  exact ⟨hso, q⟩
theorem g_tsw (X : Stand p l e R s m args below meth c T locs cells slots) (hx : p.tables.exec = Jvm.exec) {i : Int32} {dflt lo hi o : Int} {offs : Array Int} {len pt : Nat} (hd : decode c.code pc = .ok (.tableswitch dflt lo hi offs, len)) (hin : ¬ (i.toInt < lo ∨ i.toInt > hi)) (hoff : offs[(i.toInt - lo).toNat]? = some o) (ho : 0 ≤ (pc : Int) + o) (hp : ((pc : Int) + o).toNat = pt) (k : Goes p e below K T (mkF m pt Ls st)) : Goes p e below K T (mkF m pc Ls (.int i :: st)) := Goes.by' (fun _ q => XS.tswIn X.here hx rfl (pc0 := pc) (pc' := pt) rfl hd rfl hin hoff ho hp q) k
theorem g_tswD (X : Stand p l e R s m args below meth c T locs cells slots) (hx : p.tables.exec = Jvm.exec) {i : Int32} {dflt lo hi : Int} {offs : Array Int} {len pt : Nat} (hd : decode c.code pc = .ok (.tableswitch dflt lo hi offs, len)) (hout : i.toInt < lo ∨ i.toInt > hi) (ho : 0 ≤ (pc : Int) + dflt) (hp : ((pc : Int) + dflt).toNat = pt) (k : Goes p e below K T (mkF m pt Ls st)) : Goes p e below K T (mkF m pc Ls (.int i :: st)) := Goes.by' (fun _ q => XS.tswOut X.here hx rfl (pc0 := pc) (pc' := pt) rfl hd rfl hout ho hp q) k
theorem g_getF (X : Stand p l e R s m args below meth c T locs cells slots) (hx : p.tables.exec = Jvm.exec) (hZ : Z.Warmed39 s.vm) {own O n d : String} {ix : Nat} {a : Addr} {v : Value} (hown : s.vm.findClass own = some m.cls) (w : (Cond.fieldLink own ix O n d).before a0 Z = true) (eT : T.heap = h) (F : Fld Z h a O n d v) (hd : decode c.code pc = .ok (.getfield ix, 3)) (hp : pc + 3 = pc') (k : ∀ T', Stand p l e R s m args below meth c T' locs cells slots → T'.heap = h → Goes p e below K T' (mkF m pc' Ls (v :: st))) : Goes p e below K T (mkF m pc Ls (.ref a :: st)) := by
  subst hp
  obtain ⟨T1, X1, e1, f1⟩ := getF X hx hZ hown (host := "") (Or.inl w) Via.refl eT F (g := mkF m pc Ls (.ref a :: st)) rfl rfl hd
  exact Goes.by' f1 (k T1 X1 e1)
theorem g_getS (X : Stand p l e R s m args below meth c T locs cells slots) (hx : p.tables.exec = Jvm.exec) (hZ : Z.Warmed39 s.vm) {own O n d : String} {ix : Nat} {v : Value} (hown : s.vm.findClass own = some m.cls) (w : (Cond.fieldLink own ix O n d).before a0 Z = true) (eT : T.heap = h) (F : Sta Z h O n d v) (hd : decode c.code pc = .ok (.getstatic ix, 3)) (hp : pc + 3 = pc') (k : ∀ T', Stand p l e R s m args below meth c T' locs cells slots → T'.heap = h → Goes p e below K T' (mkF m pc' Ls (v :: st))) : Goes p e below K T (mkF m pc Ls st) := by
  subst hp
  obtain ⟨T1, X1, e1, f1⟩ := getS X hx hZ hown (host := "") w Via.refl eT F (g := mkF m pc Ls st) rfl hd
  exact Goes.by' f1 (k T1 X1 e1)
theorem g_putF (X : Stand p l e R s m args below meth c T locs cells slots) (hx : p.tables.exec = Jvm.exec) (hZ : Z.Warmed39 s.vm) {own O n d C : String} {ix kk : Nat} {ty : FieldType} {a : Addr} {v old : Value} (hown : s.vm.findClass own = some m.cls) (w : (Cond.fieldLink own ix O n d).before a0 Z = true) (eT : T.heap = h) (F : Fld Z h a O n d old) (E : Exa Z h a C) (L : (Cond.lays C O n d).before a0 Z = true ∨ ((Cond.laysFinal C O n d).before a0 Z = true ∧ own = O ∧ meth.name = "<init>")) (wi : (Cond.instantiable C kk).before a0 Z = true) (hty : parseFieldDescriptor d = some ty) (hn : narrow ty v = v) (hf : fits ty v = true) (hd : decode c.code pc = .ok (.putfield ix, 3)) (hp : pc + 3 = pc') (k : ∀ T' h', Stand p l e R s m args below meth c T' (locs ++ [⟨a, Jvm.RoadKit.slotOf Z O n d⟩]) cells slots → T'.heap = h' → Wr h h' a (Jvm.RoadKit.slotOf Z O n d) v → Goes p e below K T' (mkF m pc' Ls st)) : Goes p e below K T (mkF m pc Ls (v :: .ref a :: st)) := by
  subst hp
  obtain ⟨T1, h1, X1, e1, W1, f1⟩ := putF X hx hZ hown (host := "") (Or.inl w) Via.refl eT F E L wi hty hn hf (g := mkF m pc Ls (v :: .ref a :: st)) rfl rfl hd
  exact Goes.by' f1 (k T1 h1 X1 e1 W1)
theorem g_new (X : Stand p l e R s m args below meth c T locs cells slots) (hx : p.tables.exec = Jvm.exec) (hZ : Z.Warmed39 s.vm) {own C : String} {ix n : Nat} (hown : s.vm.findClass own = some m.cls) (w : (Cond.classLink own ix C).before a0 Z = true) (wi : (Cond.instantiable C n).before a0 Z = true) (wz : (Cond.initialized C).before a0 Z = true) (eT : T.heap = h) (hd : decode c.code pc = .ok (.new ix, 3)) (hp : pc + 3 = pc') (hc : cells + 1 ≤ R.cells) (hl : slots + n ≤ R.slots) (k : ∀ T' h' a, Stand p l e R s m args below meth c T' locs (cells + 1) (slots + n) → T'.heap = h' → a = h.size → Ext h h' → Exa Z h' a C → (∀ {O nm d : String} {ty : FieldType}, Laid Z a0 C O nm d → parseFieldDescriptor d = some ty → Fld Z h' a O nm d (defaultValue ty)) → Goes p e below K T' (mkF m pc' Ls (.ref a :: st))) : Goes p e below K T (mkF m pc Ls st) := by
  subst hp
  obtain ⟨T1, h1, X1, e1, E1, A1, D1, -, f1⟩ := newO X hx hZ hown w wi wz eT (g := mkF m pc Ls st) rfl hd hc hl
  exact Goes.by' f1 (k T1 h1 _ X1 e1 rfl E1 A1 D1)
theorem g_newarr (X : Stand p l e R s m args below meth c T locs cells slots) (hx : p.tables.exec = Jvm.exec) (hZ : Z.Warmed39 s.vm) {aty : ArrayType} {ty : FieldType} (hty : newarray.typeOf aty = ty) (w : (Cond.arrayClass ty).before a0 Z = true) (eT : T.heap = h) {n : Int32} (hd : decode c.code pc = .ok (.newarray aty, 2)) (hp : pc + 2 = pc') (hn : ¬ n < 0) (cap : Nat) (hcap : n.toNatClampNeg ≤ cap) (hb : cap * 8 ≤ 536870912) (hc : cells + 1 ≤ R.cells) (hl : slots + cap ≤ R.slots) (k : ∀ T' h' cA a, Stand p l e R s m args below meth c T' locs (cells + 1) (slots + cap) → T'.heap = h' → a = h.size → Ext h h' → Arr Z h' a (newA cA ty n) ty → Goes p e below K T' (mkF m pc' Ls (.ref a :: st))) : Goes p e below K T (mkF m pc Ls (.int n :: st)) := by
  subst hp hty
  obtain ⟨T1, h1, cA, X1, e1, E1, A1, f1⟩ := newP X hx hZ w eT (g := mkF m pc Ls (.int n :: st)) rfl hd rfl hn hcap hb hc hl
  exact Goes.by' f1 (k T1 h1 cA _ X1 e1 rfl E1 A1)
theorem g_newR (X : Stand p l e R s m args below meth c T locs cells slots) (hx : p.tables.exec = Jvm.exec) (hZ : Z.Warmed39 s.vm) {own C : String} {ix : Nat} (hown : s.vm.findClass own = some m.cls) (w1 : (Cond.classLink own ix C).before a0 Z = true) (w2 : (Cond.arrayOver (.object C)).before a0 Z = true) (eT : T.heap = h) {n : Int32} (hd : decode c.code pc = .ok (.anewarray ix, 3)) (hp : pc + 3 = pc') (hn : ¬ n < 0) (cap : Nat) (hcap : n.toNatClampNeg ≤ cap) (hb : cap * 8 ≤ 536870912) (hc : cells + 1 ≤ R.cells) (hl : slots + cap ≤ R.slots) (k : ∀ T' h' cA a, Stand p l e R s m args below meth c T' locs (cells + 1) (slots + cap) → T'.heap = h' → a = h.size → Ext h h' → Arr Z h' a (newA cA (.object C) n) (.object C) → Ovr Z cA C → Goes p e below K T' (mkF m pc' Ls (.ref a :: st))) : Goes p e below K T (mkF m pc Ls (.int n :: st)) := by
  subst hp
  obtain ⟨T1, h1, cA, X1, e1, E1, A1, O1, f1⟩ := newR X hx hZ hown w1 w2 eT (g := mkF m pc Ls (.int n :: st)) rfl hd rfl hn hcap hb hc hl
  exact Goes.by' f1 (k T1 h1 cA _ X1 e1 rfl E1 A1 O1)
theorem g_initO (X : Stand p l e R s m args below meth c T locs cells slots) (hx : p.tables.exec = Jvm.exec) (hZ : Z.Warmed39 s.vm) {own : String} {ix : Nat} {a : Addr} (hown : s.vm.findClass own = some m.cls) (w1 : (Cond.methodLink own ix Lib.objectInit).before a0 Z = true) (w2 : (Cond.instanceMethod Lib.objectInit).before a0 Z = true) (w3 : (Cond.code Lib.objectInit ⟨#[0xb1]⟩ 1 none).before a0 Z = true) (eT : T.heap = h) (hsz : Ls.size = c.maxLocals) (hd : decode c.code pc = .ok (.invokespecial ix, 3)) (hp : pc + 3 = pc') (hf : 1 ≤ R.frames) (hl : (st.map fun v => v.category).sum + 12 ≤ R.locals) (k : ∀ T', Stand p l e R s m args below meth c T' locs cells slots → T'.heap = h → Goes p e below K T' (mkF m pc' Ls st)) : Goes p e below K T (mkF m pc Ls (.ref a :: st)) := by
  subst hp
  obtain ⟨T1, X1, e1, f1⟩ := initO X hx hZ hown w1 w2 w3 eT (g := mkF m pc Ls (.ref a :: st)) rfl hsz rfl hd hf (W := (st.map fun v => v.category).sum) (by show 2 * 0 + _ ≤ _; omega) hl
  exact Goes.by' f1 (k T1 X1 e1)
theorem g_iaload (X : Stand p l e R s m args below meth c T locs cells slots) (hx : p.tables.exec = Jvm.exec) (hZ : Z.Warmed39 s.vm) (eT : T.heap = h) {a : Addr} {cl : Cell} {j : Int32} {v : Value} (A : Arr Z h a cl .int) (hin : ¬ (j < 0 ∨ cl.slots.size ≤ j.toNatClampNeg)) (hat : cl.slots[j.toNatClampNeg]? = some v) (hd : decode c.code pc = .ok (.iaload, 1)) (hp : pc + 1 = pc') (k : Goes p e below K T (mkF m pc' Ls (v :: st))) : Goes p e below K T (mkF m pc Ls (.int j :: .ref a :: st)) := by
  subst hp
  exact Goes.by' (fun _ q => X.iaload hx (j := j) (v := v) (by rw [eT]; exact A.1) (State.isArrayOf_alike hZ.alike A.2.1) A.2.2 hin hat (g := mkF m pc Ls (.int j :: .ref a :: st)) rfl rfl hd _ q) k
theorem g_laload (X : Stand p l e R s m args below meth c T locs cells slots) (hx : p.tables.exec = Jvm.exec) (hZ : Z.Warmed39 s.vm) (eT : T.heap = h) {a : Addr} {cl : Cell} {j : Int32} {v : Value} (A : Arr Z h a cl .long) (hin : ¬ (j < 0 ∨ cl.slots.size ≤ j.toNatClampNeg)) (hat : cl.slots[j.toNatClampNeg]? = some v) (hd : decode c.code pc = .ok (.laload, 1)) (hp : pc + 1 = pc') (k : Goes p e below K T (mkF m pc' Ls (v :: st))) : Goes p e below K T (mkF m pc Ls (.int j :: .ref a :: st)) := by
  subst hp
  exact Goes.by' (fun _ q => X.laload hx (j := j) (v := v) (by rw [eT]; exact A.1) (State.isArrayOf_alike hZ.alike A.2.1) A.2.2 hin hat (g := mkF m pc Ls (.int j :: .ref a :: st)) rfl rfl hd _ q) k
theorem g_caload (X : Stand p l e R s m args below meth c T locs cells slots) (hx : p.tables.exec = Jvm.exec) (hZ : Z.Warmed39 s.vm) (eT : T.heap = h) {a : Addr} {cl : Cell} {j : Int32} {v : Value} (A : Arr Z h a cl .char) (hin : ¬ (j < 0 ∨ cl.slots.size ≤ j.toNatClampNeg)) (hat : cl.slots[j.toNatClampNeg]? = some v) (hd : decode c.code pc = .ok (.caload, 1)) (hp : pc + 1 = pc') (k : Goes p e below K T (mkF m pc' Ls (v :: st))) : Goes p e below K T (mkF m pc Ls (.int j :: .ref a :: st)) := by
  subst hp
  exact Goes.by' (fun _ q => X.caload hx (j := j) (v := v) (by rw [eT]; exact A.1) (State.isArrayOf_alike hZ.alike A.2.1) A.2.2 hin hat (g := mkF m pc Ls (.int j :: .ref a :: st)) rfl rfl hd _ q) k
theorem g_baload (X : Stand p l e R s m args below meth c T locs cells slots) (hx : p.tables.exec = Jvm.exec) (hZ : Z.Warmed39 s.vm) (eT : T.heap = h) {a : Addr} {cl : Cell} {j : Int32} {v : Value} (A : Arr Z h a cl .byte) (hin : ¬ (j < 0 ∨ cl.slots.size ≤ j.toNatClampNeg)) (hat : cl.slots[j.toNatClampNeg]? = some v) (hd : decode c.code pc = .ok (.baload, 1)) (hp : pc + 1 = pc') (k : Goes p e below K T (mkF m pc' Ls (v :: st))) : Goes p e below K T (mkF m pc Ls (.int j :: .ref a :: st)) := by
  subst hp
  exact Goes.by' (fun _ q => X.baloadBytes hx (j := j) (v := v) (by rw [eT]; exact A.1) (State.isArrayOf_alike hZ.alike A.2.1) A.2.2 hin hat (g := mkF m pc Ls (.int j :: .ref a :: st)) rfl rfl hd _ q) k
theorem g_aaload (X : Stand p l e R s m args below meth c T locs cells slots) (hx : p.tables.exec = Jvm.exec) (hZ : Z.Warmed39 s.vm) (eT : T.heap = h) {a : Addr} {cl : Cell} {ty : FieldType} {j : Int32} {v : Value} (A : Arr Z h a cl ty) (hty : ty.isReference = true) (hin : ¬ (j < 0 ∨ cl.slots.size ≤ j.toNatClampNeg)) (hat : cl.slots[j.toNatClampNeg]? = some v) (hd : decode c.code pc = .ok (.aaload, 1)) (hp : pc + 1 = pc') (k : Goes p e below K T (mkF m pc' Ls (v :: st))) : Goes p e below K T (mkF m pc Ls (.int j :: .ref a :: st)) := by
  subst hp
  exact Goes.by' (fun _ q => X.aaload hx (j := j) (v := v) (by rw [eT]; exact A.1) (State.isArrayOf_alike hZ.alike A.2.1) hty A.2.2 hin hat (g := mkF m pc Ls (.int j :: .ref a :: st)) rfl rfl hd _ q) k
theorem g_arraylength (X : Stand p l e R s m args below meth c T locs cells slots) (hx : p.tables.exec = Jvm.exec) (hZ : Z.Warmed39 s.vm) (eT : T.heap = h) {a : Addr} {cl : Cell} {ty : FieldType} {n : Int32} (A : Arr Z h a cl ty) (hn : cl.slots.size.toInt32 = n) (hd : decode c.code pc = .ok (.arraylength, 1)) (hp : pc + 1 = pc') (k : Goes p e below K T (mkF m pc' Ls (.int n :: st))) : Goes p e below K T (mkF m pc Ls (.ref a :: st)) := by
  subst hp hn
  exact Goes.by' (fun _ q => X.arraylength hx (by rw [eT]; exact A.1) (State.isArrayOf_alike hZ.alike A.2.1) (g := mkF m pc Ls (.ref a :: st)) rfl rfl hd _ q) k
theorem g_iastore (X : Stand p l e R s m args below meth c T locs cells slots) (hx : p.tables.exec = Jvm.exec) (hZ : Z.Warmed39 s.vm) (eT : T.heap = h) {a : Addr} {cl : Cell} {j : Int32} {x : Int32} (A : Arr Z h a cl .int) (hin : ¬ (j < 0 ∨ cl.slots.size ≤ j.toNatClampNeg)) (hd : decode c.code pc = .ok (.iastore, 1)) (hp : pc + 1 = pc') (k : ∀ T' h', Stand p l e R s m args below meth c T' (locs ++ [⟨a, j.toNatClampNeg⟩]) cells slots → T'.heap = h' → Wr h h' a j.toNatClampNeg (.int x) → Goes p e below K T' (mkF m pc' Ls st)) : Goes p e below K T (mkF m pc Ls (.int x :: .int j :: .ref a :: st)) := by
  subst hp
  obtain ⟨T1, h1, X1, e1, W1, f1⟩ := stI X hx hZ eT A hin (g := mkF m pc Ls (.int x :: .int j :: .ref a :: st)) rfl rfl hd
  exact Goes.by' f1 (k T1 h1 X1 e1 W1)
theorem g_lastore (X : Stand p l e R s m args below meth c T locs cells slots) (hx : p.tables.exec = Jvm.exec) (hZ : Z.Warmed39 s.vm) (eT : T.heap = h) {a : Addr} {cl : Cell} {j : Int32} {x : Int64} (A : Arr Z h a cl .long) (hin : ¬ (j < 0 ∨ cl.slots.size ≤ j.toNatClampNeg)) (hd : decode c.code pc = .ok (.lastore, 1)) (hp : pc + 1 = pc') (k : ∀ T' h', Stand p l e R s m args below meth c T' (locs ++ [⟨a, j.toNatClampNeg⟩]) cells slots → T'.heap = h' → Wr h h' a j.toNatClampNeg (.long x) → Goes p e below K T' (mkF m pc' Ls st)) : Goes p e below K T (mkF m pc Ls (.long x :: .int j :: .ref a :: st)) := by
  subst hp
  obtain ⟨T1, h1, X1, e1, W1, f1⟩ := stJ X hx hZ eT A hin (g := mkF m pc Ls (.long x :: .int j :: .ref a :: st)) rfl rfl hd
  exact Goes.by' f1 (k T1 h1 X1 e1 W1)
theorem g_castore (X : Stand p l e R s m args below meth c T locs cells slots) (hx : p.tables.exec = Jvm.exec) (hZ : Z.Warmed39 s.vm) (eT : T.heap = h) {a : Addr} {cl : Cell} {j : Int32} {x : Int32} (A : Arr Z h a cl .char) (hin : ¬ (j < 0 ∨ cl.slots.size ≤ j.toNatClampNeg)) (hd : decode c.code pc = .ok (.castore, 1)) (hp : pc + 1 = pc') (k : ∀ T' h', Stand p l e R s m args below meth c T' (locs ++ [⟨a, j.toNatClampNeg⟩]) cells slots → T'.heap = h' → Wr h h' a j.toNatClampNeg (.int (nar .char x)) → Goes p e below K T' (mkF m pc' Ls st)) : Goes p e below K T (mkF m pc Ls (.int x :: .int j :: .ref a :: st)) := by
  subst hp
  obtain ⟨T1, h1, X1, e1, W1, f1⟩ := stC X hx hZ eT A hin (g := mkF m pc Ls (.int x :: .int j :: .ref a :: st)) rfl rfl hd
  exact Goes.by' f1 (k T1 h1 X1 e1 W1)
theorem g_bastore (X : Stand p l e R s m args below meth c T locs cells slots) (hx : p.tables.exec = Jvm.exec) (hZ : Z.Warmed39 s.vm) (eT : T.heap = h) {a : Addr} {cl : Cell} {j : Int32} {x : Int32} (A : Arr Z h a cl .byte) (hin : ¬ (j < 0 ∨ cl.slots.size ≤ j.toNatClampNeg)) (hd : decode c.code pc = .ok (.bastore, 1)) (hp : pc + 1 = pc') (k : ∀ T' h', Stand p l e R s m args below meth c T' (locs ++ [⟨a, j.toNatClampNeg⟩]) cells slots → T'.heap = h' → Wr h h' a j.toNatClampNeg (.int (nar .byte x)) → Goes p e below K T' (mkF m pc' Ls st)) : Goes p e below K T (mkF m pc Ls (.int x :: .int j :: .ref a :: st)) := by
  subst hp
  obtain ⟨T1, h1, X1, e1, W1, f1⟩ := stB X hx hZ eT A hin (g := mkF m pc Ls (.int x :: .int j :: .ref a :: st)) rfl rfl hd
  exact Goes.by' f1 (k T1 h1 X1 e1 W1)
theorem g_aastore (X : Stand p l e R s m args below meth c T locs cells slots) (hx : p.tables.exec = Jvm.exec) (hZ : Z.Warmed39 s.vm) (eT : T.heap = h) {a : Addr} {cl : Cell} {ty : FieldType} {j : Int32} {v : Value} (A : Arr Z h a cl ty) (hty : ty.isReference = true) (F : Sto Z h a v) (hin : ¬ (j < 0 ∨ cl.slots.size ≤ j.toNatClampNeg)) (hd : decode c.code pc = .ok (.aastore, 1)) (hp : pc + 1 = pc') (k : ∀ T' h', Stand p l e R s m args below meth c T' (locs ++ [⟨a, j.toNatClampNeg⟩]) cells slots → T'.heap = h' → Wr h h' a j.toNatClampNeg v → Goes p e below K T' (mkF m pc' Ls st)) : Goes p e below K T (mkF m pc Ls (v :: .int j :: .ref a :: st)) := by
  subst hp
  obtain ⟨T1, h1, X1, e1, W1, f1⟩ := stR X hx hZ eT A hin hty F (g := mkF m pc Ls (v :: .int j :: .ref a :: st)) rfl rfl hd
  exact Goes.by' f1 (k T1 h1 X1 e1 W1)
theorem g_callS (X : Stand p l e R s m args below meth c T locs cells slots) (hx : p.tables.exec = Jvm.exec) (hZ : Z.Warmed39 s.vm) {own : String} {ix : Nat} {y : MethodName} {bytes : ByteArray} {maxL : Nat} {ret : Option FieldType} {rm : Room} {as' : Array Value} {Q : Option Value → Heap → List Loc → Prop} (hown : s.vm.findClass own = some m.cls) (w1 : (Cond.methodLink own ix y).before a0 Z = true) (w2 : (Cond.static y).before a0 Z = true) (w3 : (Cond.initialized y.cls).before a0 Z = true) (w4 : (Cond.code y bytes maxL ret).before a0 Z = true) (hy : y.cls ≠ "java/lang/invoke/MethodHandle" ∧ y.cls ≠ "java/lang/invoke/VarHandle") (eT : T.heap = h) (C : Ctr l Z y bytes maxL ret [] rm rm.cells rm.slots as' h Q) (hsz : Ls.size = c.maxLocals) (argsL rest : List Value) (has : argsL.toArray = as') (hlen : ∀ sig, parseMethodDescriptor y.desc = some sig → argsL.length = sig.parameters.length) (hst : st = argsL.reverse ++ rest) (hl : (rest.map fun v => v.category).sum + (maxL + 11) + rm.locals ≤ R.locals) (hf : rm.frames + 1 ≤ R.frames) (hc : cells + rm.cells ≤ R.cells) (hsl : slots + rm.slots ≤ R.slots) (hd : decode c.code pc = .ok (.invokestatic ix, 3)) (hp : pc + 3 = pc') (k : ∀ T' v L, Stand p l e R s m args below meth c T' (locs ++ L) (cells + rm.cells) (slots + rm.slots) → Q v T'.heap L → Goes p e below K T' (mkF m pc' Ls (v.toList ++ rest))) : Goes p e below K T (mkF m pc Ls st) := by
  subst hp
  obtain ⟨v, _, ⟨T1, L1, k1, n1⟩, -, X1, ⟨L, hQ, l1, y1, z1⟩, f1⟩ := Jvm.LawKit.callS X hx (y := y) hown (mvT hZ w1) (mvT hZ w2) (mvT hZ w3) (mvT hZ w4) hy (backOf (W := (rest.map fun v => v.category).sum) C hZ w4 w3 hf hl) (g := mkF m pc Ls st) rfl hsz (argsL := argsL) (rest := rest) hlen hst (by show 2 * 0 + _ ≤ _; omega) hd (fun _ _ => ⟨has, eT, hc, hsl⟩)
  dsimp only [Pt.U, Pt.locs, Pt.cells, Pt.slots] at X1 l1 y1 z1 f1 hQ
  subst l1 y1 z1
  exact Goes.by' f1 (k T1 v L X1 hQ)
theorem g_callI (X : Stand p l e R s m args below meth c T locs cells slots) (hx : p.tables.exec = Jvm.exec) (hZ : Z.Warmed39 s.vm) {own : String} {ix : Nat} {y : MethodName} {bytes : ByteArray} {maxL : Nat} {rm : Room} {as' : Array Value} {Q : Option Value → Heap → List Loc → Prop} (hy1 : y.name = "<init>") (hown : s.vm.findClass own = some m.cls) (w1 : (Cond.methodLink own ix y).before a0 Z = true) (w2 : (Cond.instanceMethod y).before a0 Z = true) (w3 : (Cond.initialized y.cls).before a0 Z = true) (w4 : (Cond.code y bytes maxL none).before a0 Z = true) (hy : y.cls ≠ "java/lang/invoke/MethodHandle" ∧ y.cls ≠ "java/lang/invoke/VarHandle") (eT : T.heap = h) (C : Ctr l Z y bytes maxL none [] rm rm.cells rm.slots as' h Q) (hsz : Ls.size = c.maxLocals) (a : Addr) (argsL rest : List Value) (has : (.ref a :: argsL).toArray = as') (hlen : ∀ sig, parseMethodDescriptor y.desc = some sig → argsL.length = sig.parameters.length) (hst : st = argsL.reverse ++ .ref a :: rest) (hl : (rest.map fun v => v.category).sum + (maxL + 11) + rm.locals ≤ R.locals) (hf : rm.frames + 1 ≤ R.frames) (hc : cells + rm.cells ≤ R.cells) (hsl : slots + rm.slots ≤ R.slots) (hd : decode c.code pc = .ok (.invokespecial ix, 3)) (hp : pc + 3 = pc') (k : ∀ T' v L, Stand p l e R s m args below meth c T' (locs ++ L) (cells + rm.cells) (slots + rm.slots) → Q v T'.heap L → Goes p e below K T' (mkF m pc' Ls (v.toList ++ rest))) : Goes p e below K T (mkF m pc Ls st) := by
  subst hp
  obtain ⟨v, _, ⟨T1, L1, k1, n1⟩, -, X1, ⟨L, hQ, l1, y1, z1⟩, f1⟩ := X.specialBack hx (y := y) hy1 hown (mvT hZ w1) (mvT hZ w2) (mvT hZ w4) hy (backOf (W := (rest.map fun v => v.category).sum) C hZ w4 w3 hf hl) (g := mkF m pc Ls st) rfl hsz (Steps.refl _) (a := a) (argsL := argsL) (rest := rest) hlen hst (by show 2 * 0 + _ ≤ _; omega) hd (fun _ _ => ⟨has, eT, hc, hsl⟩)
  dsimp only [Pt.U, Pt.locs, Pt.cells, Pt.slots] at X1 l1 y1 z1 f1 hQ
  subst l1 y1 z1
  exact Goes.by' (fun _ q => f1.trans q) (k T1 v L X1 hQ)
theorem g_callV (X : Stand p l e R s m args below meth c T locs cells slots) (hx : p.tables.exec = Jvm.exec) (hZ : Z.Warmed39 s.vm) {own : String} {ix : Nat} {y : MethodName} {bytes : ByteArray} {maxL : Nat} {ret : Option FieldType} {rm : Room} {as' : Array Value} {Q : Option Value → Heap → List Loc → Prop} {C0 : String} (hown : s.vm.findClass own = some m.cls) (w1 : (Cond.methodLink own ix y).before a0 Z = true) (w2 : (Cond.declares y).before a0 Z = true) (w5 : (Cond.selects C0 y y).before a0 Z = true) (w6 : (Cond.instanceMethod y).before a0 Z = true) (w3 : (Cond.initialized y.cls).before a0 Z = true) (w4 : (Cond.code y bytes maxL ret).before a0 Z = true) (hy : y.cls ≠ "java/lang/invoke/MethodHandle" ∧ y.cls ≠ "java/lang/invoke/VarHandle") (eT : T.heap = h) (a : Addr) (E : Exa Z h a C0) (C : Ctr l Z y bytes maxL ret [] rm rm.cells rm.slots as' h Q) (hsz : Ls.size = c.maxLocals) (argsL rest : List Value) (has : (.ref a :: argsL).toArray = as') (hlen : ∀ sig, parseMethodDescriptor y.desc = some sig → argsL.length = sig.parameters.length) (hst : st = argsL.reverse ++ .ref a :: rest) (hl : (rest.map fun v => v.category).sum + (maxL + 11) + rm.locals ≤ R.locals) (hf : rm.frames + 1 ≤ R.frames) (hc : cells + rm.cells ≤ R.cells) (hsl : slots + rm.slots ≤ R.slots) (hd : decode c.code pc = .ok (.invokevirtual ix, 3)) (hp : pc + 3 = pc') (k : ∀ T' v L, Stand p l e R s m args below meth c T' (locs ++ L) (cells + rm.cells) (slots + rm.slots) → Q v T'.heap L → Goes p e below K T' (mkF m pc' Ls (v.toList ++ rest))) : Goes p e below K T (mkF m pc Ls st) := by
  subst hp
  obtain ⟨cq, kq, qa, qb, qc⟩ := isOf hZ eT E
  obtain ⟨v, _, ⟨T1, L1, k1, n1⟩, -, X1, ⟨L, hQ, l1, y1, z1⟩, f1⟩ := X.virtualBack hx (y := y) (z := y) hown (mvT hZ w1) (mvT hZ w2) (notFace_of_selects (args := #[]) (mvT hZ w5)) (mvT hZ w5) (mvT hZ w6) hy (backOf (W := (rest.map fun v => v.category).sum) C hZ w4 w3 hf hl) qa qc (g := mkF m pc Ls st) rfl hsz (Steps.refl _) (argsL := argsL) (rest := rest) hlen hst (by show 2 * 0 + _ ≤ _; omega) hd (fun _ _ => ⟨has, eT, hc, hsl⟩)
  dsimp only [Pt.U, Pt.locs, Pt.cells, Pt.slots] at X1 l1 y1 z1 f1 hQ
  subst l1 y1 z1
  exact Goes.by' (fun _ q => f1.trans q) (k T1 v L X1 hQ)
theorem g_callP (X : Stand p l e R s m args below meth c T locs cells slots) (hx : p.tables.exec = Jvm.exec) (hZ : Z.Warmed39 s.vm) {own : String} {ix : Nat} {y : MethodName} {bytes : ByteArray} {maxL : Nat} {ret : Option FieldType} {rm : Room} {as' : Array Value} {Q : Option Value → Heap → List Loc → Prop} {kk : Nat} {C0 : String} (hown : s.vm.findClass own = some m.cls) (w1 : (Cond.methodLink own ix y).before a0 Z = true) (wi : (Cond.instantiable y.cls kk).before a0 Z = true) (wp : (Cond.privateMethod y).before a0 Z = true) (w6 : (Cond.instanceMethod y).before a0 Z = true) (w3 : (Cond.initialized y.cls).before a0 Z = true) (w4 : (Cond.code y bytes maxL ret).before a0 Z = true) (hy : y.cls ≠ "java/lang/invoke/MethodHandle" ∧ y.cls ≠ "java/lang/invoke/VarHandle") (eT : T.heap = h) (a : Addr) (E : Exa Z h a C0) (C : Ctr l Z y bytes maxL ret [] rm rm.cells rm.slots as' h Q) (hsz : Ls.size = c.maxLocals) (argsL rest : List Value) (has : (.ref a :: argsL).toArray = as') (hlen : ∀ sig, parseMethodDescriptor y.desc = some sig → argsL.length = sig.parameters.length) (hst : st = argsL.reverse ++ .ref a :: rest) (hl : (rest.map fun v => v.category).sum + (maxL + 11) + rm.locals ≤ R.locals) (hf : rm.frames + 1 ≤ R.frames) (hc : cells + rm.cells ≤ R.cells) (hsl : slots + rm.slots ≤ R.slots) (hd : decode c.code pc = .ok (.invokevirtual ix, 3)) (hp : pc + 3 = pc') (k : ∀ T' v L, Stand p l e R s m args below meth c T' (locs ++ L) (cells + rm.cells) (slots + rm.slots) → Q v T'.heap L → Goes p e below K T' (mkF m pc' Ls (v.toList ++ rest))) : Goes p e below K T (mkF m pc Ls st) := by
  subst hp
  obtain ⟨cell, hcell, hobj⟩ := E.cell
  have wi' : (Cond.instantiable y.cls kk).before args s = true := mvT hZ wi
  obtain ⟨c1, k1, i1, i2, i3, i4, -⟩ := Cond.instantiable_spec wi'
  have hni : k1.isInterface = false := by revert i4; cases k1.isInterface <;> simp
  have hpv : s.PrivateAt y := Cond.privateMethod_at (mvP hZ wp (args := #[]))
  have hsel : (Cond.selects y.cls y y).before args s = true := Jvm.Stand.selects_self_of_private i1 i2 hni hpv (mvT hZ w6) hy
  obtain ⟨v, _, ⟨T1, L1, k1, n1⟩, -, X1, ⟨L, hQ, l1, y1, z1⟩, f1⟩ := X.privateBack hx (y := y) hown (mvT hZ w1) (mvT hZ w6) hsel hpv (mvT hZ w4) hy (backOf (W := (rest.map fun v => v.category).sum) C hZ w4 w3 hf hl) (g := mkF m pc Ls st) rfl hsz (Steps.refl _) (a := a) (by rw [eT]; exact hcell) hobj (argsL := argsL) (rest := rest) hlen hst (by show 2 * 0 + _ ≤ _; omega) hd (fun _ _ => ⟨has, eT, hc, hsl⟩)
  dsimp only [Pt.U, Pt.locs, Pt.cells, Pt.slots] at X1 l1 y1 z1 f1 hQ
  subst l1 y1 z1
  exact Goes.by' (fun _ q => f1.trans q) (k T1 v L X1 hQ)
theorem g_retI (X : Stand p l e R s m args below meth c T locs cells slots) (hx : p.tables.exec = Jvm.exec) {C S : Nat} {Q : Option Value → Heap → List Loc → Prop} {z : Int32} (hlk : meth.locks = false) (hret : meth.sig.returnType = some .int) (eT : T.heap = h) (hc : cells ≤ C) (hs : slots ≤ S) (hd : decode c.code pc = .ok (.ireturn, 1)) (hQ : Q (some (.int z)) h locs) : Goes p e below (KQ s C S Q) T (mkF m pc Ls (.int z :: st)) := by
  obtain ⟨fs, hr, hrun, hended, hW, hsame⟩ := X.leave (v := some (.int z)) (fun q => by rw [hret] at q; cases q) hlk
  exact ⟨_, _, retOut X hx hret rfl (Or.inl ⟨rfl, Or.inl rfl, _, rfl⟩) hd hr, hrun, hended, _, _, rfl, by subst eT; exact hQ, ⟨_, rfl⟩, hW, hsame.mono hc hs⟩
theorem g_retJ (X : Stand p l e R s m args below meth c T locs cells slots) (hx : p.tables.exec = Jvm.exec) {C S : Nat} {Q : Option Value → Heap → List Loc → Prop} {z : Int64} (hlk : meth.locks = false) (hret : meth.sig.returnType = some .long) (eT : T.heap = h) (hc : cells ≤ C) (hs : slots ≤ S) (hd : decode c.code pc = .ok (.lreturn, 1)) (hQ : Q (some (.long z)) h locs) : Goes p e below (KQ s C S Q) T (mkF m pc Ls (.long z :: st)) := by
  obtain ⟨fs, hr, hrun, hended, hW, hsame⟩ := X.leave (v := some (.long z)) (fun q => by rw [hret] at q; cases q) hlk
  exact ⟨_, _, retOut X hx hret rfl (Or.inr (Or.inl ⟨rfl, rfl, _, rfl⟩)) hd hr, hrun, hended, _, _, rfl, by subst eT; exact hQ, ⟨_, rfl⟩, hW, hsame.mono hc hs⟩
theorem g_retN (X : Stand p l e R s m args below meth c T locs cells slots) (hx : p.tables.exec = Jvm.exec) {C S : Nat} {Q : Option Value → Heap → List Loc → Prop} {z : Int32} {t : FieldType} (ht : t = .boolean ∨ t = .byte ∨ t = .char ∨ t = .short) (hlk : meth.locks = false) (hret : meth.sig.returnType = some t) (eT : T.heap = h) (hc : cells ≤ C) (hs : slots ≤ S) (hd : decode c.code pc = .ok (.ireturn, 1)) (hQ : Q (some (.int (nar t z))) h locs) : Goes p e below (KQ s C S Q) T (mkF m pc Ls (.int z :: st)) := by
  obtain ⟨fs, hr, hrun, hended, hW, hsame⟩ := X.leave (v := some (.int (nar t z))) (fun q => by rw [hret] at q; cases q) hlk
  exact ⟨_, _, retN X hx hret ht hd hr, hrun, hended, _, _, rfl, by subst eT; exact hQ, ⟨_, rfl⟩, hW, hsame.mono hc hs⟩
theorem g_retA (X : Stand p l e R s m args below meth c T locs cells slots) (hx : p.tables.exec = Jvm.exec) {C S : Nat} {Q : Option Value → Heap → List Loc → Prop} {v : Value} {t : FieldType} (hv : v.isRef = true) (ht : t.isReference = true) (hlk : meth.locks = false) (hret : meth.sig.returnType = some t) (eT : T.heap = h) (hc : cells ≤ C) (hs : slots ≤ S) (hd : decode c.code pc = .ok (.areturn, 1)) (hQ : Q (some v) h locs) : Goes p e below (KQ s C S Q) T (mkF m pc Ls (v :: st)) := by
  obtain ⟨fs, hr, hrun, hended, hW, hsame⟩ := X.leave (v := some v) (fun q => by rw [hret] at q; cases q) hlk
  have hn : narrow t v = v := by cases v <;> simp [Value.isRef] at hv <;> cases t <;> simp [FieldType.isReference] at ht <;> rfl
  exact ⟨_, _, retOut X hx hret hn (Or.inr (Or.inr (Or.inr (Or.inr ⟨rfl, ht, hv⟩)))) hd hr, hrun, hended, _, _, rfl, by subst eT; exact hQ, ⟨_, rfl⟩, hW, hsame.mono hc hs⟩
theorem g_ret (X : Stand p l e R s m args below meth c T locs cells slots) (hx : p.tables.exec = Jvm.exec) {C S : Nat} {Q : Option Value → Heap → List Loc → Prop} (hlk : meth.locks = false) (hret : meth.sig.returnType = none) (eT : T.heap = h) (hc : cells ≤ C) (hs : slots ≤ S) (hd : decode c.code pc = .ok (.return_, 1)) (hQ : Q none h locs) : Goes p e below (KQ s C S Q) T (mkF m pc Ls []) := by
  obtain ⟨fs, hr, hrun, hended, hW, hsame⟩ := X.leave (v := none) (fun _ => rfl) hlk
  exact ⟨_, _, X.returnOut hx hret hd hr, hrun, hended, _, _, rfl, by subst eT; exact hQ, ⟨_, rfl⟩, hW, hsame.mono hc hs⟩
end OwnGo
def ArI (Z : State) (h : Heap) (b : Addr) (ty : FieldType) (n : Nat) (f : Nat → Int32) : Prop := ∃ cl, Arr Z h b cl ty ∧ cl.slots.size = n ∧ ∀ j, j < n → cl.slots[j]? = some (.int (f j))
section ArSI
variable {Z : State} {h h' : Heap} {a b : Addr} {ty : FieldType} {n sl : Nat} {f : Nat → Int32} {v : Value} {ws : List Addr}
theorem ArI.new {cA : ClassId} {z : Int32} (A : Arr Z h a (newA cA ty z) ty) (x : Int32) (hd : defaultValue ty = .int x) : ArI Z h a ty z.toNatClampNeg (fun _ => x) := ⟨_, A, sz_new _ _ _, fun j hj => by simp only [newA, ← hd]; rw [Array.getElem?_replicate, if_pos hj]⟩
theorem ArI.lt (F : ArI Z h b ty n f) : b < h.size := by obtain ⟨c, A, -⟩ := F; exact A.lt
theorem ArI.ext (F : ArI Z h b ty n f) (E : Ext h h') : ArI Z h' b ty n f := by obtain ⟨c, A, r⟩ := F; exact ⟨c, A.ext E, r⟩
theorem ArI.other (F : ArI Z h b ty n f) (W : Wr h h' a sl v) (q : b ≠ a) : ArI Z h' b ty n f := by obtain ⟨c, A, r⟩ := F; exact ⟨c, A.other W q, r⟩
theorem ArI.keep (F : ArI Z h b ty n f) (K : Keep h h' ws) (q : b ∉ ws) : ArI Z h' b ty n f := by obtain ⟨c, A, r⟩ := F; exact ⟨c, ⟨K.2.1 b c A.1 q, A.2⟩, r⟩
theorem ArI.set {x : Int32} (F : ArI Z h b ty n f) (W : Wr h h' b sl (.int (x))) : ArI Z h' b ty n (fun k => if k = sl then x else f k) := by
  obtain ⟨c, A, hs, H⟩ := F
  refine ⟨_, A.same W, by rw [sz_set]; exact hs, fun j hj => ?_⟩
  by_cases e : j = sl
  · subst e; simp only [Cell.setSlot, if_true]; rw [Array.getElem?_setIfInBounds_self_of_lt (by rw [hs]; exact hj)]
  · simp only [Cell.setSlot]; rw [Array.getElem?_setIfInBounds_ne (Ne.symm e), if_neg e]; exact H j hj
theorem ArI.inb {j : Int32} {c : Cell} (hs : c.slots.size = n) (h0 : ¬ j < 0) (h1 : j.toNatClampNeg < n) : ¬ (j < 0 ∨ c.slots.size ≤ j.toNatClampNeg) := by rw [hs]; rintro (q | q); exact h0 q; omega
end ArSI
section ArGI
variable {p : Program} {l : Launch} {e : Env} {R : Room} {s : State} {m : MethodId} {args : Array Value} {below : List Frame} {meth : Method} {c : Code} {T : State} {locs : List Loc} {cells slots : Nat} {Z : State} {a0 : Array Value} {h : Heap} {K : Outcome → State → Prop} {pc pc' : Nat} {Ls : Array Slot} {st : List Value}
theorem g_iaload' (X : Stand p l e R s m args below meth c T locs cells slots) (hx : p.tables.exec = Jvm.exec) (hZ : Z.Warmed39 s.vm) (eT : T.heap = h) {b : Addr} {n : Nat} {f : Nat → Int32} {j : Int32} {x : Int32} (A : ArI Z h b .int n f) (h0 : ¬ j < 0) (h1 : j.toNatClampNeg < n) (hv : f j.toNatClampNeg = x) (hd : decode c.code pc = .ok (.iaload, 1)) (hp : pc + 1 = pc') (k : Goes p e below K T (mkF m pc' Ls (.int (x) :: st))) : Goes p e below K T (mkF m pc Ls (.int j :: .ref b :: st)) := by
  obtain ⟨cl, A, hs, H⟩ := A
  exact g_iaload X hx hZ eT A (ArI.inb hs h0 h1) (by rw [H _ h1, hv]) hd hp k
theorem g_caload' (X : Stand p l e R s m args below meth c T locs cells slots) (hx : p.tables.exec = Jvm.exec) (hZ : Z.Warmed39 s.vm) (eT : T.heap = h) {b : Addr} {n : Nat} {f : Nat → Int32} {j : Int32} {x : Int32} (A : ArI Z h b .char n f) (h0 : ¬ j < 0) (h1 : j.toNatClampNeg < n) (hv : f j.toNatClampNeg = x) (hd : decode c.code pc = .ok (.caload, 1)) (hp : pc + 1 = pc') (k : Goes p e below K T (mkF m pc' Ls (.int (x) :: st))) : Goes p e below K T (mkF m pc Ls (.int j :: .ref b :: st)) := by
  obtain ⟨cl, A, hs, H⟩ := A
  exact g_caload X hx hZ eT A (ArI.inb hs h0 h1) (by rw [H _ h1, hv]) hd hp k
theorem g_baload' (X : Stand p l e R s m args below meth c T locs cells slots) (hx : p.tables.exec = Jvm.exec) (hZ : Z.Warmed39 s.vm) (eT : T.heap = h) {b : Addr} {n : Nat} {f : Nat → Int32} {j : Int32} {x : Int32} (A : ArI Z h b .byte n f) (h0 : ¬ j < 0) (h1 : j.toNatClampNeg < n) (hv : f j.toNatClampNeg = x) (hd : decode c.code pc = .ok (.baload, 1)) (hp : pc + 1 = pc') (k : Goes p e below K T (mkF m pc' Ls (.int (x) :: st))) : Goes p e below K T (mkF m pc Ls (.int j :: .ref b :: st)) := by
  obtain ⟨cl, A, hs, H⟩ := A
  exact g_baload X hx hZ eT A (ArI.inb hs h0 h1) (by rw [H _ h1, hv]) hd hp k
theorem g_arraylengthI (X : Stand p l e R s m args below meth c T locs cells slots) (hx : p.tables.exec = Jvm.exec) (hZ : Z.Warmed39 s.vm) (eT : T.heap = h) {b : Addr} {n : Nat} {f : Nat → Int32} {ty : FieldType} {z : Int32} (A : ArI Z h b ty n f) (hz : n.toInt32 = z) (hd : decode c.code pc = .ok (.arraylength, 1)) (hp : pc + 1 = pc') (k : Goes p e below K T (mkF m pc' Ls (.int z :: st))) : Goes p e below K T (mkF m pc Ls (.ref b :: st)) := by
  obtain ⟨cl, A, hs, H⟩ := A
  exact g_arraylength X hx hZ eT A (by rw [hs, hz]) hd hp k
theorem g_iastore' (X : Stand p l e R s m args below meth c T locs cells slots) (hx : p.tables.exec = Jvm.exec) (hZ : Z.Warmed39 s.vm) (eT : T.heap = h) {b : Addr} {n : Nat} {f : Nat → Int32} {j : Int32} {x : Int32} (A : ArI Z h b .int n f) (h0 : ¬ j < 0) (h1 : j.toNatClampNeg < n) (hd : decode c.code pc = .ok (.iastore, 1)) (hp : pc + 1 = pc') (k : ∀ T' h', Stand p l e R s m args below meth c T' (locs ++ [⟨b, j.toNatClampNeg⟩]) cells slots → T'.heap = h' → Wr h h' b j.toNatClampNeg (.int (x)) → ArI Z h' b .int n (fun k => if k = j.toNatClampNeg then x else f k) → Goes p e below K T' (mkF m pc' Ls st)) : Goes p e below K T (mkF m pc Ls (.int (x) :: .int j :: .ref b :: st)) := by
  have A' := A
  obtain ⟨cl, A, hs, H⟩ := A
  exact g_iastore X hx hZ eT A (ArI.inb hs h0 h1) hd hp (fun T' h' X' e' W' => k T' h' X' e' W' (A'.set W'))
theorem g_castore' (X : Stand p l e R s m args below meth c T locs cells slots) (hx : p.tables.exec = Jvm.exec) (hZ : Z.Warmed39 s.vm) (eT : T.heap = h) {b : Addr} {n : Nat} {f : Nat → Int32} {j : Int32} {x : Int32} (A : ArI Z h b .char n f) (h0 : ¬ j < 0) (h1 : j.toNatClampNeg < n) (hd : decode c.code pc = .ok (.castore, 1)) (hp : pc + 1 = pc') (k : ∀ T' h', Stand p l e R s m args below meth c T' (locs ++ [⟨b, j.toNatClampNeg⟩]) cells slots → T'.heap = h' → Wr h h' b j.toNatClampNeg (.int (nar .char x)) → ArI Z h' b .char n (fun k => if k = j.toNatClampNeg then nar .char x else f k) → Goes p e below K T' (mkF m pc' Ls st)) : Goes p e below K T (mkF m pc Ls (.int (x) :: .int j :: .ref b :: st)) := by
  have A' := A
  obtain ⟨cl, A, hs, H⟩ := A
  exact g_castore X hx hZ eT A (ArI.inb hs h0 h1) hd hp (fun T' h' X' e' W' => k T' h' X' e' W' (A'.set W'))
theorem g_bastore' (X : Stand p l e R s m args below meth c T locs cells slots) (hx : p.tables.exec = Jvm.exec) (hZ : Z.Warmed39 s.vm) (eT : T.heap = h) {b : Addr} {n : Nat} {f : Nat → Int32} {j : Int32} {x : Int32} (A : ArI Z h b .byte n f) (h0 : ¬ j < 0) (h1 : j.toNatClampNeg < n) (hd : decode c.code pc = .ok (.bastore, 1)) (hp : pc + 1 = pc') (k : ∀ T' h', Stand p l e R s m args below meth c T' (locs ++ [⟨b, j.toNatClampNeg⟩]) cells slots → T'.heap = h' → Wr h h' b j.toNatClampNeg (.int (nar .byte x)) → ArI Z h' b .byte n (fun k => if k = j.toNatClampNeg then nar .byte x else f k) → Goes p e below K T' (mkF m pc' Ls st)) : Goes p e below K T (mkF m pc Ls (.int (x) :: .int j :: .ref b :: st)) := by
  have A' := A
  obtain ⟨cl, A, hs, H⟩ := A
  exact g_bastore X hx hZ eT A (ArI.inb hs h0 h1) hd hp (fun T' h' X' e' W' => k T' h' X' e' W' (A'.set W'))
theorem g_iastoreN (X : Stand p l e R s m args below meth c T locs cells slots) (hx : p.tables.exec = Jvm.exec) (hZ : Z.Warmed39 s.vm) (eT : T.heap = h) {b : Addr} {n : Nat} {f : Nat → Int32} {j : Int32} {x : Int32} (A : ArI Z h b .int n f) (jn : Nat) (hj : j.toNatClampNeg = jn) (h0 : ¬ j < 0) (h1 : jn < n) (hd : decode c.code pc = .ok (.iastore, 1)) (hp : pc + 1 = pc') (k : ∀ T' h', Stand p l e R s m args below meth c T' (locs ++ [⟨b, jn⟩]) cells slots → T'.heap = h' → Wr h h' b jn (.int (x)) → ArI Z h' b .int n (fun k => if k = jn then x else f k) → Goes p e below K T' (mkF m pc' Ls st)) : Goes p e below K T (mkF m pc Ls (.int (x) :: .int j :: .ref b :: st)) := by
  subst hj
  exact g_iastore' X hx hZ eT A h0 h1 hd hp k
theorem g_castoreN (X : Stand p l e R s m args below meth c T locs cells slots) (hx : p.tables.exec = Jvm.exec) (hZ : Z.Warmed39 s.vm) (eT : T.heap = h) {b : Addr} {n : Nat} {f : Nat → Int32} {j : Int32} {x : Int32} (A : ArI Z h b .char n f) (jn : Nat) (hj : j.toNatClampNeg = jn) (h0 : ¬ j < 0) (h1 : jn < n) (hd : decode c.code pc = .ok (.castore, 1)) (hp : pc + 1 = pc') (k : ∀ T' h', Stand p l e R s m args below meth c T' (locs ++ [⟨b, jn⟩]) cells slots → T'.heap = h' → Wr h h' b jn (.int (nar .char x)) → ArI Z h' b .char n (fun k => if k = jn then nar .char x else f k) → Goes p e below K T' (mkF m pc' Ls st)) : Goes p e below K T (mkF m pc Ls (.int (x) :: .int j :: .ref b :: st)) := by
  subst hj
  exact g_castore' X hx hZ eT A h0 h1 hd hp k
theorem g_bastoreN (X : Stand p l e R s m args below meth c T locs cells slots) (hx : p.tables.exec = Jvm.exec) (hZ : Z.Warmed39 s.vm) (eT : T.heap = h) {b : Addr} {n : Nat} {f : Nat → Int32} {j : Int32} {x : Int32} (A : ArI Z h b .byte n f) (jn : Nat) (hj : j.toNatClampNeg = jn) (h0 : ¬ j < 0) (h1 : jn < n) (hd : decode c.code pc = .ok (.bastore, 1)) (hp : pc + 1 = pc') (k : ∀ T' h', Stand p l e R s m args below meth c T' (locs ++ [⟨b, jn⟩]) cells slots → T'.heap = h' → Wr h h' b jn (.int (nar .byte x)) → ArI Z h' b .byte n (fun k => if k = jn then nar .byte x else f k) → Goes p e below K T' (mkF m pc' Ls st)) : Goes p e below K T (mkF m pc Ls (.int (x) :: .int j :: .ref b :: st)) := by
  subst hj
  exact g_bastore' X hx hZ eT A h0 h1 hd hp k
end ArGI
def ArJ (Z : State) (h : Heap) (b : Addr) (ty : FieldType) (n : Nat) (f : Nat → Int64) : Prop := ∃ cl, Arr Z h b cl ty ∧ cl.slots.size = n ∧ ∀ j, j < n → cl.slots[j]? = some (.long (f j))
section ArSJ
variable {Z : State} {h h' : Heap} {a b : Addr} {ty : FieldType} {n sl : Nat} {f : Nat → Int64} {v : Value} {ws : List Addr}
theorem ArJ.new {cA : ClassId} {z : Int32} (A : Arr Z h a (newA cA ty z) ty) (x : Int64) (hd : defaultValue ty = .long x) : ArJ Z h a ty z.toNatClampNeg (fun _ => x) := ⟨_, A, sz_new _ _ _, fun j hj => by simp only [newA, ← hd]; rw [Array.getElem?_replicate, if_pos hj]⟩
theorem ArJ.lt (F : ArJ Z h b ty n f) : b < h.size := by obtain ⟨c, A, -⟩ := F; exact A.lt
theorem ArJ.ext (F : ArJ Z h b ty n f) (E : Ext h h') : ArJ Z h' b ty n f := by obtain ⟨c, A, r⟩ := F; exact ⟨c, A.ext E, r⟩
theorem ArJ.other (F : ArJ Z h b ty n f) (W : Wr h h' a sl v) (q : b ≠ a) : ArJ Z h' b ty n f := by obtain ⟨c, A, r⟩ := F; exact ⟨c, A.other W q, r⟩
theorem ArJ.keep (F : ArJ Z h b ty n f) (K : Keep h h' ws) (q : b ∉ ws) : ArJ Z h' b ty n f := by obtain ⟨c, A, r⟩ := F; exact ⟨c, ⟨K.2.1 b c A.1 q, A.2⟩, r⟩
theorem ArJ.set {x : Int64} (F : ArJ Z h b ty n f) (W : Wr h h' b sl (.long (x))) : ArJ Z h' b ty n (fun k => if k = sl then x else f k) := by
  obtain ⟨c, A, hs, H⟩ := F
  refine ⟨_, A.same W, by rw [sz_set]; exact hs, fun j hj => ?_⟩
  by_cases e : j = sl
  · subst e; simp only [Cell.setSlot, if_true]; rw [Array.getElem?_setIfInBounds_self_of_lt (by rw [hs]; exact hj)]
  · simp only [Cell.setSlot]; rw [Array.getElem?_setIfInBounds_ne (Ne.symm e), if_neg e]; exact H j hj
theorem ArJ.inb {j : Int32} {c : Cell} (hs : c.slots.size = n) (h0 : ¬ j < 0) (h1 : j.toNatClampNeg < n) : ¬ (j < 0 ∨ c.slots.size ≤ j.toNatClampNeg) := by rw [hs]; rintro (q | q); exact h0 q; omega
end ArSJ
section ArGJ
variable {p : Program} {l : Launch} {e : Env} {R : Room} {s : State} {m : MethodId} {args : Array Value} {below : List Frame} {meth : Method} {c : Code} {T : State} {locs : List Loc} {cells slots : Nat} {Z : State} {a0 : Array Value} {h : Heap} {K : Outcome → State → Prop} {pc pc' : Nat} {Ls : Array Slot} {st : List Value}
theorem g_laload' (X : Stand p l e R s m args below meth c T locs cells slots) (hx : p.tables.exec = Jvm.exec) (hZ : Z.Warmed39 s.vm) (eT : T.heap = h) {b : Addr} {n : Nat} {f : Nat → Int64} {j : Int32} {x : Int64} (A : ArJ Z h b .long n f) (h0 : ¬ j < 0) (h1 : j.toNatClampNeg < n) (hv : f j.toNatClampNeg = x) (hd : decode c.code pc = .ok (.laload, 1)) (hp : pc + 1 = pc') (k : Goes p e below K T (mkF m pc' Ls (.long (x) :: st))) : Goes p e below K T (mkF m pc Ls (.int j :: .ref b :: st)) := by
  obtain ⟨cl, A, hs, H⟩ := A
  exact g_laload X hx hZ eT A (ArJ.inb hs h0 h1) (by rw [H _ h1, hv]) hd hp k
theorem g_arraylengthJ (X : Stand p l e R s m args below meth c T locs cells slots) (hx : p.tables.exec = Jvm.exec) (hZ : Z.Warmed39 s.vm) (eT : T.heap = h) {b : Addr} {n : Nat} {f : Nat → Int64} {ty : FieldType} {z : Int32} (A : ArJ Z h b ty n f) (hz : n.toInt32 = z) (hd : decode c.code pc = .ok (.arraylength, 1)) (hp : pc + 1 = pc') (k : Goes p e below K T (mkF m pc' Ls (.int z :: st))) : Goes p e below K T (mkF m pc Ls (.ref b :: st)) := by
  obtain ⟨cl, A, hs, H⟩ := A
  exact g_arraylength X hx hZ eT A (by rw [hs, hz]) hd hp k
theorem g_lastore' (X : Stand p l e R s m args below meth c T locs cells slots) (hx : p.tables.exec = Jvm.exec) (hZ : Z.Warmed39 s.vm) (eT : T.heap = h) {b : Addr} {n : Nat} {f : Nat → Int64} {j : Int32} {x : Int64} (A : ArJ Z h b .long n f) (h0 : ¬ j < 0) (h1 : j.toNatClampNeg < n) (hd : decode c.code pc = .ok (.lastore, 1)) (hp : pc + 1 = pc') (k : ∀ T' h', Stand p l e R s m args below meth c T' (locs ++ [⟨b, j.toNatClampNeg⟩]) cells slots → T'.heap = h' → Wr h h' b j.toNatClampNeg (.long (x)) → ArJ Z h' b .long n (fun k => if k = j.toNatClampNeg then x else f k) → Goes p e below K T' (mkF m pc' Ls st)) : Goes p e below K T (mkF m pc Ls (.long (x) :: .int j :: .ref b :: st)) := by
  have A' := A
  obtain ⟨cl, A, hs, H⟩ := A
  exact g_lastore X hx hZ eT A (ArJ.inb hs h0 h1) hd hp (fun T' h' X' e' W' => k T' h' X' e' W' (A'.set W'))
theorem g_lastoreN (X : Stand p l e R s m args below meth c T locs cells slots) (hx : p.tables.exec = Jvm.exec) (hZ : Z.Warmed39 s.vm) (eT : T.heap = h) {b : Addr} {n : Nat} {f : Nat → Int64} {j : Int32} {x : Int64} (A : ArJ Z h b .long n f) (jn : Nat) (hj : j.toNatClampNeg = jn) (h0 : ¬ j < 0) (h1 : jn < n) (hd : decode c.code pc = .ok (.lastore, 1)) (hp : pc + 1 = pc') (k : ∀ T' h', Stand p l e R s m args below meth c T' (locs ++ [⟨b, jn⟩]) cells slots → T'.heap = h' → Wr h h' b jn (.long (x)) → ArJ Z h' b .long n (fun k => if k = jn then x else f k) → Goes p e below K T' (mkF m pc' Ls st)) : Goes p e below K T (mkF m pc Ls (.long (x) :: .int j :: .ref b :: st)) := by
  subst hj
  exact g_lastore' X hx hZ eT A h0 h1 hd hp k
end ArGJ
def ArV (Z : State) (h : Heap) (b : Addr) (ty : FieldType) (n : Nat) (f : Nat → Value) : Prop := ∃ cl, Arr Z h b cl ty ∧ cl.slots.size = n ∧ ∀ j, j < n → cl.slots[j]? = some (f j)
section ArSV
variable {Z : State} {h h' : Heap} {a b : Addr} {ty : FieldType} {n sl : Nat} {f : Nat → Value} {v : Value} {ws : List Addr}
theorem ArV.new {cA : ClassId} {z : Int32} (A : Arr Z h a (newA cA ty z) ty) (x : Value) (hd : defaultValue ty = x) : ArV Z h a ty z.toNatClampNeg (fun _ => x) := ⟨_, A, sz_new _ _ _, fun j hj => by simp only [newA, ← hd]; rw [Array.getElem?_replicate, if_pos hj]⟩
theorem ArV.lt (F : ArV Z h b ty n f) : b < h.size := by obtain ⟨c, A, -⟩ := F; exact A.lt
theorem ArV.ext (F : ArV Z h b ty n f) (E : Ext h h') : ArV Z h' b ty n f := by obtain ⟨c, A, r⟩ := F; exact ⟨c, A.ext E, r⟩
theorem ArV.other (F : ArV Z h b ty n f) (W : Wr h h' a sl v) (q : b ≠ a) : ArV Z h' b ty n f := by obtain ⟨c, A, r⟩ := F; exact ⟨c, A.other W q, r⟩
theorem ArV.keep (F : ArV Z h b ty n f) (K : Keep h h' ws) (q : b ∉ ws) : ArV Z h' b ty n f := by obtain ⟨c, A, r⟩ := F; exact ⟨c, ⟨K.2.1 b c A.1 q, A.2⟩, r⟩
theorem ArV.set {x : Value} (F : ArV Z h b ty n f) (W : Wr h h' b sl (x)) : ArV Z h' b ty n (fun k => if k = sl then x else f k) := by
  obtain ⟨c, A, hs, H⟩ := F
  refine ⟨_, A.same W, by rw [sz_set]; exact hs, fun j hj => ?_⟩
  by_cases e : j = sl
  · subst e; simp only [Cell.setSlot, if_true]; rw [Array.getElem?_setIfInBounds_self_of_lt (by rw [hs]; exact hj)]
  · simp only [Cell.setSlot]; rw [Array.getElem?_setIfInBounds_ne (Ne.symm e), if_neg e]; exact H j hj
theorem ArV.inb {j : Int32} {c : Cell} (hs : c.slots.size = n) (h0 : ¬ j < 0) (h1 : j.toNatClampNeg < n) : ¬ (j < 0 ∨ c.slots.size ≤ j.toNatClampNeg) := by rw [hs]; rintro (q | q); exact h0 q; omega
end ArSV
section ArGV
variable {p : Program} {l : Launch} {e : Env} {R : Room} {s : State} {m : MethodId} {args : Array Value} {below : List Frame} {meth : Method} {c : Code} {T : State} {locs : List Loc} {cells slots : Nat} {Z : State} {a0 : Array Value} {h : Heap} {K : Outcome → State → Prop} {pc pc' : Nat} {Ls : Array Slot} {st : List Value}
theorem g_aaload' (X : Stand p l e R s m args below meth c T locs cells slots) (hx : p.tables.exec = Jvm.exec) (hZ : Z.Warmed39 s.vm) (eT : T.heap = h) {b : Addr} {n : Nat} {f : Nat → Value} {j : Int32} {x : Value} {ty : FieldType} (A : ArV Z h b ty n f) (h0 : ¬ j < 0) (h1 : j.toNatClampNeg < n) (hv : f j.toNatClampNeg = x) (hty : ty.isReference = true) (hd : decode c.code pc = .ok (.aaload, 1)) (hp : pc + 1 = pc') (k : Goes p e below K T (mkF m pc' Ls (x :: st))) : Goes p e below K T (mkF m pc Ls (.int j :: .ref b :: st)) := by
  obtain ⟨cl, A, hs, H⟩ := A
  exact g_aaload X hx hZ eT A hty (ArV.inb hs h0 h1) (by rw [H _ h1, hv]) hd hp k
theorem g_arraylengthV (X : Stand p l e R s m args below meth c T locs cells slots) (hx : p.tables.exec = Jvm.exec) (hZ : Z.Warmed39 s.vm) (eT : T.heap = h) {b : Addr} {n : Nat} {f : Nat → Value} {ty : FieldType} {z : Int32} (A : ArV Z h b ty n f) (hz : n.toInt32 = z) (hd : decode c.code pc = .ok (.arraylength, 1)) (hp : pc + 1 = pc') (k : Goes p e below K T (mkF m pc' Ls (.int z :: st))) : Goes p e below K T (mkF m pc Ls (.ref b :: st)) := by
  obtain ⟨cl, A, hs, H⟩ := A
  exact g_arraylength X hx hZ eT A (by rw [hs, hz]) hd hp k
theorem g_aastore' (X : Stand p l e R s m args below meth c T locs cells slots) (hx : p.tables.exec = Jvm.exec) (hZ : Z.Warmed39 s.vm) (eT : T.heap = h) {b : Addr} {n : Nat} {f : Nat → Value} {j : Int32} {x : Value} {ty : FieldType} (A : ArV Z h b ty n f) (h0 : ¬ j < 0) (h1 : j.toNatClampNeg < n) (hty : ty.isReference = true) (F : Sto Z h b x) (hd : decode c.code pc = .ok (.aastore, 1)) (hp : pc + 1 = pc') (k : ∀ T' h', Stand p l e R s m args below meth c T' (locs ++ [⟨b, j.toNatClampNeg⟩]) cells slots → T'.heap = h' → Wr h h' b j.toNatClampNeg (x) → ArV Z h' b ty n (fun k => if k = j.toNatClampNeg then x else f k) → Goes p e below K T' (mkF m pc' Ls st)) : Goes p e below K T (mkF m pc Ls (x :: .int j :: .ref b :: st)) := by
  have A' := A
  obtain ⟨cl, A, hs, H⟩ := A
  exact g_aastore X hx hZ eT A hty F (ArV.inb hs h0 h1) hd hp (fun T' h' X' e' W' => k T' h' X' e' W' (A'.set W'))
end ArGV
section OwnD
variable {p : Program} {l : Launch} {e : Env} {R : Room} {s : State} {m : MethodId} {args : Array Value} {below : List Frame} {meth : Method} {c : Code} {T : State} {locs : List Loc} {cells slots : Nat} {Z : State} {a0 : Array Value} {h : Heap} {K : Outcome → State → Prop} {pc pc' : Nat} {Ls : Array Slot} {st : List Value}
theorem g_dload_n (X : Stand p l e R s m args below meth c T locs cells slots) (hx : p.tables.exec = Jvm.exec) {i : Fin 4} {v : UInt64} (hd : decode c.code pc = .ok (.dload_n i, 1)) (hl : Ls[i.val]? = some (.val (.double v))) (hp : pc + 1 = pc') (k : Goes p e below K T (mkF m pc' Ls (.double v :: st))) : Goes p e below K T (mkF m pc Ls (st)) := by subst hp; exact Goes.by' (fun _ q => XS.dloadN X.here hx rfl hd hl q) k
theorem g_dload (X : Stand p l e R s m args below meth c T locs cells slots) (hx : p.tables.exec = Jvm.exec) {i : Nat} {v : UInt64} (hd : decode c.code pc = .ok (.dload i, 2)) (hl : Ls[i]? = some (.val (.double v))) (hp : pc + 2 = pc') (k : Goes p e below K T (mkF m pc' Ls (.double v :: st))) : Goes p e below K T (mkF m pc Ls (st)) := by subst hp; exact Goes.by' (fun _ q => XS.dload X.here hx rfl hd hl q) k
theorem g_dstore_n (X : Stand p l e R s m args below meth c T locs cells slots) (hx : p.tables.exec = Jvm.exec) {i : Fin 4} {x : UInt64} (l' : Array Slot) (hd : decode c.code pc = .ok (.dstore_n i, 1)) (hl : storeLocals Ls i.val (.double x) = some l') (hp : pc + 1 = pc') (k : Goes p e below K T (mkF m pc' l' (st))) : Goes p e below K T (mkF m pc Ls (.double x :: st)) := by subst hp; exact Goes.by' (fun _ q => XS.dstoreN X.here hx rfl hd rfl hl q) k
theorem g_dstore (X : Stand p l e R s m args below meth c T locs cells slots) (hx : p.tables.exec = Jvm.exec) {i : Nat} {x : UInt64} (l' : Array Slot) (hd : decode c.code pc = .ok (.dstore i, 2)) (hl : storeLocals Ls i (.double x) = some l') (hp : pc + 2 = pc') (k : Goes p e below K T (mkF m pc' l' (st))) : Goes p e below K T (mkF m pc Ls (.double x :: st)) := by subst hp; exact Goes.by' (fun _ q => XS.dstore X.here hx rfl hd rfl hl q) k
theorem g_l2d (X : Stand p l e R s m args below meth c T locs cells slots) (hx : p.tables.exec = Jvm.exec) {x : Int64} {v : UInt64} (hd : decode c.code pc = .ok (.l2d, 1)) (hv : FP.l2d x = v) (hp : pc + 1 = pc') (k : Goes p e below K T (mkF m pc' Ls (.double v :: st))) : Goes p e below K T (mkF m pc Ls (.long x :: st)) := by subst hp; exact Goes.by' (fun _ q => XS.l2dS X.here hx rfl hd rfl hv q) k
theorem g_dneg (X : Stand p l e R s m args below meth c T locs cells slots) (hx : p.tables.exec = Jvm.exec) {x v : UInt64} (hd : decode c.code pc = .ok (.dneg, 1)) (hv : FP.dneg x = v) (hp : pc + 1 = pc') (k : Goes p e below K T (mkF m pc' Ls (.double v :: st))) : Goes p e below K T (mkF m pc Ls (.double x :: st)) := by subst hp; exact Goes.by' (fun _ q => XS.dnegS X.here hx rfl hd rfl hv q) k
theorem g_dsub (X : Stand p l e R s m args below meth c T locs cells slots) (hx : p.tables.exec = Jvm.exec) {x y v : UInt64} (hd : decode c.code pc = .ok (.dsub, 1)) (hn : Jvm.Free.Fl.NoNaN64 (FP.dsub x y)) (hv : FP.dsub x y = v) (hp : pc + 1 = pc') (k : Goes p e below K T (mkF m pc' Ls (.double v :: st))) : Goes p e below K T (mkF m pc Ls (.double y :: .double x :: st)) := by subst hp; exact Goes.by' (fun _ q => XS.dsubS X.here hx rfl hd rfl hn hv q) k
theorem g_dconst0 (X : Stand p l e R s m args below meth c T locs cells slots) (hx : p.tables.exec = Jvm.exec) {v : UInt64} (hd : decode c.code pc = .ok (.dconst 0, 1)) (hv : FP.dconst0 = v) (hp : pc + 1 = pc') (k : Goes p e below K T (mkF m pc' Ls (.double v :: st))) : Goes p e below K T (mkF m pc Ls (st)) := by subst hp; exact Goes.by' (fun _ q => XS.dconst0 X.here hx rfl hd hv q) k
theorem g_dconst1 (X : Stand p l e R s m args below meth c T locs cells slots) (hx : p.tables.exec = Jvm.exec) {v : UInt64} (hd : decode c.code pc = .ok (.dconst 1, 1)) (hv : FP.dconst1 = v) (hp : pc + 1 = pc') (k : Goes p e below K T (mkF m pc' Ls (.double v :: st))) : Goes p e below K T (mkF m pc Ls (st)) := by subst hp; exact Goes.by' (fun _ q => XS.dconst1 X.here hx rfl hd hv q) k
theorem g_i2d (X : Stand p l e R s m args below meth c T locs cells slots) (hx : p.tables.exec = Jvm.exec) {x : Int32} {v : UInt64} (hd : decode c.code pc = .ok (.i2d, 1)) (hv : FP.i2d x = v) (hp : pc + 1 = pc') (k : Goes p e below K T (mkF m pc' Ls (.double v :: st))) : Goes p e below K T (mkF m pc Ls (.int x :: st)) := by subst hp; exact Goes.by' (fun _ q => XS.i2dS X.here hx rfl hd rfl hv q) k
theorem g_dcmp (X : Stand p l e R s m args below meth c T locs cells slots) (hx : p.tables.exec = Jvm.exec) {o : CmpOp} {x y : UInt64} {v : Int32} (hd : decode c.code pc = .ok (.dcmp o, 1)) (hv : cmpValue (FP.dcmp x y) o = v) (hp : pc + 1 = pc') (k : Goes p e below K T (mkF m pc' Ls (.int v :: st))) : Goes p e below K T (mkF m pc Ls (.double y :: .double x :: st)) := by subst hp; exact Goes.by' (fun _ q => XS.dcmpS X.here hx rfl hd rfl hv q) k
theorem g_dadd (X : Stand p l e R s m args below meth c T locs cells slots) (hx : p.tables.exec = Jvm.exec) {x y v : UInt64} (hd : decode c.code pc = .ok (.dadd, 1)) (hn : Jvm.Free.Fl.NoNaN64 (FP.dadd x y)) (hv : FP.dadd x y = v) (hp : pc + 1 = pc') (k : Goes p e below K T (mkF m pc' Ls (.double v :: st))) : Goes p e below K T (mkF m pc Ls (.double y :: .double x :: st)) := by subst hp; exact Goes.by' (fun _ q => XS.daddS X.here hx rfl hd rfl hn hv q) k
theorem g_ddiv (X : Stand p l e R s m args below meth c T locs cells slots) (hx : p.tables.exec = Jvm.exec) {x y v : UInt64} (hd : decode c.code pc = .ok (.ddiv, 1)) (hn : Jvm.Free.Fl.NoNaN64 (FP.ddiv x y)) (hv : FP.ddiv x y = v) (hp : pc + 1 = pc') (k : Goes p e below K T (mkF m pc' Ls (.double v :: st))) : Goes p e below K T (mkF m pc Ls (.double y :: .double x :: st)) := by subst hp; exact Goes.by' (fun _ q => XS.ddivS X.here hx rfl hd rfl hn hv q) k
theorem g_d2f (X : Stand p l e R s m args below meth c T locs cells slots) (hx : p.tables.exec = Jvm.exec) {x : UInt64} {v : UInt32} (hd : decode c.code pc = .ok (.d2f, 1)) (hn : FP.d2f x &&& 0x7fffffff ≤ 0x7f800000) (hv : FP.d2f x = v) (hp : pc + 1 = pc') (k : Goes p e below K T (mkF m pc' Ls (.float v :: st))) : Goes p e below K T (mkF m pc Ls (.double x :: st)) := by
  subst hp hv
  refine Goes.by' (fun t q => ?_) k
  show Steps p.tables e below (T.setTop { method := m, pc := pc, locals := Ls, stack := .double x :: st, locked := none }) t
  jvm_step X.here [X.here.top, hx, hd, Op.d2f.at_number X.here.top hn]
  exact q
theorem g_f2d (X : Stand p l e R s m args below meth c T locs cells slots) (hx : p.tables.exec = Jvm.exec) {x : UInt32} {v : UInt64} (hd : decode c.code pc = .ok (.f2d, 1)) (hn : FP.f2d x &&& 0x7fffffffffffffff ≤ 0x7ff0000000000000) (hv : FP.f2d x = v) (hp : pc + 1 = pc') (k : Goes p e below K T (mkF m pc' Ls (.double v :: st))) : Goes p e below K T (mkF m pc Ls (.float x :: st)) := by
  subst hp hv
  refine Goes.by' (fun t q => ?_) k
  show Steps p.tables e below (T.setTop { method := m, pc := pc, locals := Ls, stack := .float x :: st, locked := none }) t
  jvm_step X.here [X.here.top, hx, hd, Op.f2d.at_number X.here.top hn]
  exact q
theorem g_ldc2D (X : Stand p l e R s m args below meth c T locs cells slots) (hx : p.tables.exec = Jvm.exec) (hZ : Z.Warmed39 s.vm) {own : String} {ix : Nat} {v : UInt64} (hown : s.vm.findClass own = some m.cls) (w : (Cond.constantDouble own ix v).before a0 Z = true) (hd : decode c.code pc = .ok (.ldc2_w ix, 3)) (hp : pc + 3 = pc') (k : Goes p e below K T (mkF m pc' Ls (.double v :: st))) : Goes p e below K T (mkF m pc Ls st) := by
  subst hp
  obtain ⟨k', cf, hk, hcf, hcp⟩ := Cond.constantDouble_spec (args := a0) hown (mvT hZ w)
  exact Goes.by' (fun _ q => X.ldc2Double hx hk hcf hcp (g := mkF m pc Ls st) rfl hd _ q) k
theorem g_retD (X : Stand p l e R s m args below meth c T locs cells slots) (hx : p.tables.exec = Jvm.exec) {C S : Nat} {Q : Option Value → Heap → List Loc → Prop} {z : UInt64} (hlk : meth.locks = false) (hret : meth.sig.returnType = some .double) (eT : T.heap = h) (hc : cells ≤ C) (hs : slots ≤ S) (hd : decode c.code pc = .ok (.dreturn, 1)) (hQ : Q (some (.double z)) h locs) : Goes p e below (KQ s C S Q) T (mkF m pc Ls (.double z :: st)) := by
  obtain ⟨fs, hr, hrun, hended, hW, hsame⟩ := X.leave (v := some (.double z)) (fun q => by rw [hret] at q; cases q) hlk
  exact ⟨_, _, retOut X hx hret rfl (Or.inr (Or.inr (Or.inl ⟨rfl, rfl, _, rfl⟩))) hd hr, hrun, hended, _, _, rfl, by subst eT; exact hQ, ⟨_, rfl⟩, hW, hsame.mono hc hs⟩
end OwnD
section OwnIns
variable {p : Program} {l : Launch} {e : Env} {R : Room} {s : State} {m : MethodId} {args : Array Value} {below : List Frame} {meth : Method} {c : Code} {T : State} {locs : List Loc} {cells slots : Nat} {Z : State} {a0 : Array Value} {h : Heap} {K : Outcome → State → Prop} {pc pc' : Nat} {Ls : Array Slot} {st : List Value}
theorem g_instY (X : Stand p l e R s m args below meth c T locs cells slots) (hx : p.tables.exec = Jvm.exec) (hZ : Z.Warmed39 s.vm) {own K0 : String} {ix : Nat} {a : Addr} (hown : s.vm.findClass own = some m.cls) (w : (Cond.classLink own ix K0).before a0 Z = true) (eT : T.heap = h) (F : Ins Z h a K0 true) (hd : decode c.code pc = .ok (.instanceof ix, 3)) (hp : pc + 3 = pc') (k : ∀ T', Stand p l e R s m args below meth c T' locs cells slots → T'.heap = h → Goes p e below K T' (mkF m pc' Ls (.int 1 :: st))) : Goes p e below K T (mkF m pc Ls (.ref a :: st)) := by
  subst hp
  obtain ⟨T1, X1, e1, f1⟩ := instY X hx hZ hown w eT F (g := mkF m pc Ls (.ref a :: st)) rfl rfl hd
  exact Goes.by' f1 (k T1 X1 e1)
theorem g_instNo (X : Stand p l e R s m args below meth c T locs cells slots) (hx : p.tables.exec = Jvm.exec) (hZ : Z.Warmed39 s.vm) {own K0 C0 : String} {ix : Nat} {a : Addr} (hown : s.vm.findClass own = some m.cls) (w : (Cond.classLink own ix K0).before a0 Z = true) (eT : T.heap = h) (E : Exa Z h a C0) (F : ∃ c t, Z.vm.findClass C0 = some c ∧ Z.vm.findClass K0 = some t ∧ Z.vm.assignable c t = false) (hd : decode c.code pc = .ok (.instanceof ix, 3)) (hp : pc + 3 = pc') (k : ∀ T', Stand p l e R s m args below meth c T' locs cells slots → T'.heap = h → Goes p e below K T' (mkF m pc' Ls (.int 0 :: st))) : Goes p e below K T (mkF m pc Ls (.ref a :: st)) := by
  subst hp
  obtain ⟨T1, X1, e1, f1⟩ := instNo X hx hZ hown w eT E F (g := mkF m pc Ls (.ref a :: st)) rfl rfl hd
  exact Goes.by' f1 (k T1 X1 e1)
theorem g_castY (X : Stand p l e R s m args below meth c T locs cells slots) (hx : p.tables.exec = Jvm.exec) (hZ : Z.Warmed39 s.vm) {own K0 : String} {ix : Nat} {a : Addr} (hown : s.vm.findClass own = some m.cls) (w : (Cond.classLink own ix K0).before a0 Z = true) (eT : T.heap = h) (F : Ins Z h a K0 true) (hd : decode c.code pc = .ok (.checkcast ix, 3)) (hp : pc + 3 = pc') (k : ∀ T', Stand p l e R s m args below meth c T' locs cells slots → T'.heap = h → Goes p e below K T' (mkF m pc' Ls (.ref a :: st))) : Goes p e below K T (mkF m pc Ls (.ref a :: st)) := by
  subst hp
  obtain ⟨T1, X1, e1, f1⟩ := castY X hx hZ hown w eT F (g := mkF m pc Ls (.ref a :: st)) rfl rfl hd
  exact Goes.by' f1 (k T1 X1 e1)
theorem g_instNull (X : Stand p l e R s m args below meth c T locs cells slots) (hx : p.tables.exec = Jvm.exec) {ix : Nat} (hd : decode c.code pc = .ok (.instanceof ix, 3)) (hp : pc + 3 = pc') (k : Goes p e below K T (mkF m pc' Ls (.int 0 :: st))) : Goes p e below K T (mkF m pc Ls (.null :: st)) := by
  subst hp
  exact Goes.by' (fun _ q => X.instanceofNull hx (g := mkF m pc Ls (.null :: st)) rfl rfl hd _ q) k
end OwnIns
section OwnW
variable {p : Program} {l : Launch} {e : Env} {R : Room} {s : State} {m : MethodId} {args : Array Value} {below : List Frame} {meth : Method} {c : Code} {T : State} {locs : List Loc} {cells slots : Nat} {Z : State} {a0 : Array Value} {h : Heap} {K : Outcome → State → Prop} {pc pc' : Nat} {Ls : Array Slot} {st : List Value}
abbrev KW (s : State) (C S : Nat) (Q : Option Value → Heap → List Loc → Prop) : Outcome → State → Prop := fun o u => ∃ v L, o = .returned v ∧ Q v u.heap L ∧ ReturnedEndW s o u L C S
abbrev CtrW (l : Launch) (Z : State) (y : MethodName) (bytes : ByteArray) (maxL : Nat) (ret : Option FieldType) (ws : List Jvm.Cond) (rm : Room) (C S : Nat) (as' : Array Value) (h0 : Heap) (Q : Option Value → Heap → List Loc → Prop) : Prop := MetFree l y (head1 (Jvm.Cond.code y bytes maxL ret :: ws) rm) (fun a U => a = as' ∧ Z.Warmed39 U.vm ∧ U.heap = h0) (fun _ _ _ _ _ => True) (fun _ U o U' => ∃ v L, o = .returned v ∧ Q v U'.heap L ∧ ReturnedEndW U o U' L C S)
theorem CtrW.of {y : MethodName} {bytes : ByteArray} {maxL : Nat} {ret : Option FieldType} {ws : List Jvm.Cond} {rm : Room} {C S : Nat} {as' : Array Value} {h0 : Heap} {Q : Option Value → Heap → List Loc → Prop} (hpn : plainFor y = true)
    (body : ∀ (p : Program) (e : Env) (s : State) (m : MethodId) (below : List Frame) (meth : Method) (c : Code) (s₁ : State), p.tables.exec = Jvm.exec → c.code = bytes → c.maxLocals = maxL → s.vm.findClass y.cls = some m.cls → meth.name = y.name → meth.sig.returnType = ret → meth.locks = false → Z.Warmed39 s.vm → Stand p l e rm (s.setVm s.vm) m as' below meth c s₁ [] 0 0 → s₁.heap = h0 → s.Since s.vm s.heap.size → s.heap = h0 → Goes p e below (KW s C S Q) s₁ (entryFrame m as' maxL)) :
    CtrW l Z y bytes maxL ret ws rm C S as' h0 Q := by
  refine MetFree.of_bodySF hpn hisR ?_
  intro p e s m args below meth c s₁ Bd hml0 hP hK
  obtain ⟨rfl, hZ, hh⟩ := hP
  have hlk : meth.locks = false := BodyLoose.notSynchronized Bd
  exact body p e s m below meth c s₁ Bd.exec Bd.bytes hml0 (findClass_of_methodNamed Bd.named) (name_of_methodNamed Bd.named Bd.method).1 Bd.returns hlk hZ (Stand.of_body Bd) (by rw [← hh, Bd.state]; rfl) (State.WarmedH.since (State.WarmedH.refl s) _) hh
abbrev CtrI (l : Launch) (Z : State) (y : MethodName) (bytes : ByteArray) (maxL : Nat) (ret : Option FieldType) (ws : List Jvm.Cond) (rm : Room) (C S : Nat) (as' : Array Value) (h0 : Heap) (Q : Option Value → Heap → List Loc → Prop) : Prop := MetFree l y (head1 (Jvm.Cond.code y bytes maxL ret :: ws) rm) (fun a U => a = as' ∧ Z.Warmed39 U.vm ∧ U.heap = h0 ∧ U.vm.interned = Z.vm.interned) (fun _ _ _ _ _ => True) (fun _ U o U' => ∃ v L, o = .returned v ∧ Q v U'.heap L ∧ ReturnedEndW U o U' L C S)
theorem CtrI.of {y : MethodName} {bytes : ByteArray} {maxL : Nat} {ret : Option FieldType} {ws : List Jvm.Cond} {rm : Room} {C S : Nat} {as' : Array Value} {h0 : Heap} {Q : Option Value → Heap → List Loc → Prop} (hpn : plainFor y = true)
    (body : ∀ (p : Program) (e : Env) (s : State) (m : MethodId) (below : List Frame) (meth : Method) (c : Code) (s₁ : State), p.tables.exec = Jvm.exec → c.code = bytes → c.maxLocals = maxL → s.vm.findClass y.cls = some m.cls → meth.name = y.name → meth.sig.returnType = ret → meth.locks = false → Z.Warmed39 s.vm → Stand p l e rm (s.setVm s.vm) m as' below meth c s₁ [] 0 0 → s₁.heap = h0 → s.Since s.vm s.heap.size → s.heap = h0 → s.vm.interned = Z.vm.interned → Goes p e below (KW s C S Q) s₁ (entryFrame m as' maxL)) :
    CtrI l Z y bytes maxL ret ws rm C S as' h0 Q := by
  refine MetFree.of_bodySF hpn hisR ?_
  intro p e s m args below meth c s₁ Bd hml0 hP hK
  obtain ⟨rfl, hZ, hh, hint⟩ := hP
  have hlk : meth.locks = false := BodyLoose.notSynchronized Bd
  exact body p e s m below meth c s₁ Bd.exec Bd.bytes hml0 (findClass_of_methodNamed Bd.named) (name_of_methodNamed Bd.named Bd.method).1 Bd.returns hlk hZ (Stand.of_body Bd) (by rw [← hh, Bd.state]; rfl) (State.WarmedH.since (State.WarmedH.refl s) _) hh hint
theorem g_ldcS {vm0 : Vm} (X : Stand p l e R (s.setVm vm0) m args below meth c T locs cells slots) (hx : p.tables.exec = Jvm.exec) (hZ : Z.Warmed39 vm0) {own text : String} {ix : Nat} (hown : vm0.findClass own = some m.cls) (w : (Cond.stringLink own ix text).before a0 Z = true) (wS : ∀ a ∈ Bundle.stringAtoms, a.before a0 Z = true) (eT : T.heap = h) {k0 : Nat} (hS : s.Since vm0 k0) (hk : k0 ≤ h.size) (hd : decode c.code pc = .ok (.ldc ix, 2)) (hp : pc + 2 = pc') (n : Nat) (hn : 4 * text.toList.length ≤ n) (hbig : n ≤ 536870912) (hc : cells + 2 ≤ R.cells) (hl : slots + (n + 4) ≤ R.slots) (k : ∀ (a : Addr) (T' : State) (h' : Heap) (k1 : Nat), Stand p l e R (s.setVm T'.vm) m args below meth c T' locs (cells + 2) (slots + (n + 4)) → T'.heap = h' → Ext h h' → s.Since T'.vm k1 → k1 ≤ h'.size → Z.Warmed39 T'.vm → T'.vm.findClass own = some m.cls → Goes p e below K T' (mkF m pc' Ls (.ref a :: st))) : Goes p e below K T (mkF m pc Ls st) := by
  subst hp
  obtain ⟨a, T1, h1, k1, X1, e1, E1, S1, g1, Z1, o1, f1⟩ := ldcS X hx hZ hown w wS eT hS hk (g := mkF m pc Ls st) rfl hd hn hbig hc hl
  exact Goes.by' f1 (k a T1 h1 k1 X1 e1 E1 S1 g1 Z1 o1)
theorem g_ldcSV {vm0 : Vm} (X : Stand p l e R (s.setVm vm0) m args below meth c T locs cells slots) (hx : p.tables.exec = Jvm.exec) (hZ : Z.Warmed39 vm0) {own text : String} {ix : Nat} {Ts : List String} (hown : vm0.findClass own = some m.cls) (w : (Cond.stringLink own ix text).before a0 Z = true) (wS : ∀ a ∈ Bundle.stringAtoms, a.before a0 Z = true) (eT : T.heap = h) {k0 : Nat} (hS : s.Since vm0 k0) (hk : k0 ≤ h.size) (N : Fr s.heap.size locs) (hkeep : ∀ (b : Addr) (cl : Cell), Z.heap[b]? = some cl → s.heap[b]? = some cl) (I : IB Z vm0 Ts) (hnot : text ∉ Ts) (hh : Jvm.Lit.constHeld Z own ix) (hcw : Jvm.Lit.compactW.before a0 Z = true) (vs : List Value) (z : Int32) (ht : (∀ c ∈ text.toList, c.toNat < 256) ∧ text.toList.map (fun c => Value.int (Jvm.Lit.byteI c.toNat.toUInt16)) = vs) (hz : ¬ z < 0) (hl : z.toNatClampNeg = vs.length) (hd : decode c.code pc = .ok (.ldc ix, 2)) (hp : pc + 2 = pc') (n : Nat) (hn : 4 * text.toList.length ≤ n) (hbig : n ≤ 536870912) (hc : cells + 2 ≤ R.cells) (hl' : slots + (n + 4) ≤ R.slots) (k : ∀ (a : Addr) (T' : State) (h' : Heap) (k1 : Nat) (b : Addr) (cA : ClassId), Stand p l e R (s.setVm T'.vm) m args below meth c T' locs (cells + 2) (slots + (n + 4)) → T'.heap = h' → Ext h h' → s.Since T'.vm k1 → k1 ≤ h'.size → Z.Warmed39 T'.vm → T'.vm.findClass own = some m.cls → Exa Z h' a "java/lang/String" → Fld Z h' a "java/lang/String" "coder" "B" (.int 0) → Fld Z h' a "java/lang/String" "value" "[B" (.ref b) → Arv Z h' b cA .byte z vs (.int 0) → IB Z T'.vm (text :: Ts) → Goes p e below K T' (mkF m pc' Ls (.ref a :: st))) : Goes p e below K T (mkF m pc Ls st) := by
  subst hp
  obtain ⟨a, T1, h1, k1, b, cA, X1, e1, E1, S1, g1, Z1, o1, q1, q2, q3, q4, -, -, q5, f1⟩ := ldcSV X hx hZ hown w wS eT hS hk N hkeep I hnot hh hcw ht hz hl (g := mkF m pc Ls st) rfl hd hn hbig hc hl'
  exact Goes.by' f1 (k a T1 h1 k1 b cA X1 e1 E1 S1 g1 Z1 o1 q1 q2 q3 q4 q5)
theorem g_retNW {vm0 : Vm} (X : Stand p l e R (s.setVm vm0) m args below meth c T locs cells slots) (hx : p.tables.exec = Jvm.exec) {C S : Nat} {Q : Option Value → Heap → List Loc → Prop} {z : Int32} {t : FieldType} (ht : t = .boolean ∨ t = .byte ∨ t = .char ∨ t = .short) (hlk : meth.locks = false) (hret : meth.sig.returnType = some t) (eT : T.heap = h) {k0 : Nat} (hS : s.Since vm0 k0) (hk : k0 ≤ h.size) (hc : cells ≤ C) (hs : slots ≤ S) (hd : decode c.code pc = .ok (.ireturn, 1)) (hQ : Q (some (.int (nar t z))) h locs) : Goes p e below (KW s C S Q) T (mkF m pc Ls (.int z :: st)) := by
  subst eT
  obtain ⟨fs, hr, hrun, hended, q1, q2, q3, q4⟩ := X.leaveW hS hk (v := some (.int (nar t z))) (fun q => by rw [hret] at q; cases q) hlk
  exact ⟨_, _, retN X hx hret ht hd hr, hrun, hended, _, _, rfl, hQ, q1, q2, q3, q4.mono hc hs⟩
theorem g_callSW {vm0 : Vm} {k0 : Nat} (X : Stand p l e R (s.setVm vm0) m args below meth c T locs cells slots) (hx : p.tables.exec = Jvm.exec) (hZ : Z.Warmed39 vm0) {own : String} {ix : Nat} {y : MethodName} {bytes : ByteArray} {maxL : Nat} {ret : Option FieldType} {rm : Room} {as' : Array Value} {Q : Option Value → Heap → List Loc → Prop} (hown : vm0.findClass own = some m.cls) (w1 : (Cond.methodLink own ix y).before a0 Z = true) (w2 : (Cond.static y).before a0 Z = true) (w3 : (Cond.initialized y.cls).before a0 Z = true) (w4 : (Cond.code y bytes maxL ret).before a0 Z = true) (hy : y.cls ≠ "java/lang/invoke/MethodHandle" ∧ y.cls ≠ "java/lang/invoke/VarHandle") (eT : T.heap = h) (hS : s.Since vm0 k0) (hk : k0 ≤ h.size) (C : CtrW l Z y bytes maxL ret [] rm rm.cells rm.slots as' h Q) (hsz : Ls.size = c.maxLocals) (argsL rest : List Value) (has : argsL.toArray = as') (hlen : ∀ sig, parseMethodDescriptor y.desc = some sig → argsL.length = sig.parameters.length) (hst : st = argsL.reverse ++ rest) (hl : (rest.map fun v => v.category).sum + (maxL + 11) + rm.locals ≤ R.locals) (hf : rm.frames + 1 ≤ R.frames) (hc : cells + rm.cells ≤ R.cells) (hsl : slots + rm.slots ≤ R.slots) (hd : decode c.code pc = .ok (.invokestatic ix, 3)) (hp : pc + 3 = pc') (k : ∀ (T' : State) (v : Option Value) (L : List Loc) (k1 : Nat), Stand p l e R (s.setVm T'.vm) m args below meth c T' (locs ++ L) (cells + rm.cells) (slots + rm.slots) → Q v T'.heap L → s.Since T'.vm k1 → k1 ≤ T'.heap.size → Z.Warmed39 T'.vm → T'.vm.findClass own = some m.cls → Goes p e below K T' (mkF m pc' Ls (v.toList ++ rest))) : Goes p e below K T (mkF m pc Ls st) := by
  subst hp
  have hZ' : Z.Warmed39 (s.setVm vm0).vm := hZ
  obtain ⟨v, _, ⟨T1, L1, k1, n1⟩, -, X1, h2, g2, ⟨L, hQ, l1, y1, z1⟩, f1⟩ := callSS X hx (y := y) hown (mvT hZ' w1) (mvT hZ' w2) (mvT hZ' w3) (mvT hZ' w4) hy (backOfS (W := (rest.map fun v => v.category).sum) C hZ' w4 w3 hf hl) (g := mkF m pc Ls st) rfl hsz (argsL := argsL) (rest := rest) hlen hst (by show 2 * 0 + _ ≤ _; omega) hd (fun _ _ => ⟨has, eT, hc, hsl⟩)
  dsimp only [Pt.U, Pt.locs, Pt.cells, Pt.slots] at X1 l1 y1 z1 f1 hQ h2 g2
  subst l1 y1 z1
  obtain ⟨X2, S2, Z2, o2⟩ := rebS hS (by rw [eT]; exact hk) X1 h2 g2 hZ hown
  exact Goes.by' (fun _ q => f1.trans q) (k T1 v L _ X2 hQ S2 (Nat.le_refl _) Z2 o2)
theorem g_callIW {vm0 : Vm} {k0 : Nat} (X : Stand p l e R (s.setVm vm0) m args below meth c T locs cells slots) (hx : p.tables.exec = Jvm.exec) (hZ : Z.Warmed39 vm0) {own : String} {ix : Nat} {y : MethodName} {bytes : ByteArray} {maxL : Nat} {rm : Room} {as' : Array Value} {Q : Option Value → Heap → List Loc → Prop} (hy1 : y.name = "<init>") (hown : vm0.findClass own = some m.cls) (w1 : (Cond.methodLink own ix y).before a0 Z = true) (w2 : (Cond.instanceMethod y).before a0 Z = true) (w3 : (Cond.initialized y.cls).before a0 Z = true) (w4 : (Cond.code y bytes maxL none).before a0 Z = true) (hy : y.cls ≠ "java/lang/invoke/MethodHandle" ∧ y.cls ≠ "java/lang/invoke/VarHandle") (eT : T.heap = h) (hS : s.Since vm0 k0) (hk : k0 ≤ h.size) (C : CtrW l Z y bytes maxL none [] rm rm.cells rm.slots as' h Q) (hsz : Ls.size = c.maxLocals) (a : Addr) (argsL rest : List Value) (has : (.ref a :: argsL).toArray = as') (hlen : ∀ sig, parseMethodDescriptor y.desc = some sig → argsL.length = sig.parameters.length) (hst : st = argsL.reverse ++ .ref a :: rest) (hl : (rest.map fun v => v.category).sum + (maxL + 11) + rm.locals ≤ R.locals) (hf : rm.frames + 1 ≤ R.frames) (hc : cells + rm.cells ≤ R.cells) (hsl : slots + rm.slots ≤ R.slots) (hd : decode c.code pc = .ok (.invokespecial ix, 3)) (hp : pc + 3 = pc') (k : ∀ (T' : State) (v : Option Value) (L : List Loc) (k1 : Nat), Stand p l e R (s.setVm T'.vm) m args below meth c T' (locs ++ L) (cells + rm.cells) (slots + rm.slots) → Q v T'.heap L → s.Since T'.vm k1 → k1 ≤ T'.heap.size → Z.Warmed39 T'.vm → T'.vm.findClass own = some m.cls → Goes p e below K T' (mkF m pc' Ls (v.toList ++ rest))) : Goes p e below K T (mkF m pc Ls st) := by
  subst hp
  have hZ' : Z.Warmed39 (s.setVm vm0).vm := hZ
  obtain ⟨v, _, ⟨T1, L1, k1, n1⟩, -, X1, h2, g2, ⟨L, hQ, l1, y1, z1⟩, f1⟩ := X.specialBackS hx (y := y) hy1 hown (mvT hZ' w1) (mvT hZ' w2) (mvT hZ' w4) hy (backOfS (W := (rest.map fun v => v.category).sum) C hZ' w4 w3 hf hl) (g := mkF m pc Ls st) rfl hsz (Steps.refl _) (a := a) (argsL := argsL) (rest := rest) hlen hst (by show 2 * 0 + _ ≤ _; omega) hd (fun _ _ => ⟨has, eT, hc, hsl⟩)
  dsimp only [Pt.U, Pt.locs, Pt.cells, Pt.slots] at X1 l1 y1 z1 f1 hQ h2 g2
  subst l1 y1 z1
  obtain ⟨X2, S2, Z2, o2⟩ := rebS hS (by rw [eT]; exact hk) X1 h2 g2 hZ hown
  exact Goes.by' (fun _ q => f1.trans q) (k T1 v L _ X2 hQ S2 (Nat.le_refl _) Z2 o2)
theorem g_callVW {vm0 : Vm} {k0 : Nat} (X : Stand p l e R (s.setVm vm0) m args below meth c T locs cells slots) (hx : p.tables.exec = Jvm.exec) (hZ : Z.Warmed39 vm0) {own : String} {ix : Nat} {y : MethodName} {bytes : ByteArray} {maxL : Nat} {ret : Option FieldType} {rm : Room} {as' : Array Value} {Q : Option Value → Heap → List Loc → Prop} {C0 : String} (hown : vm0.findClass own = some m.cls) (w1 : (Cond.methodLink own ix y).before a0 Z = true) (w2 : (Cond.declares y).before a0 Z = true) (w5 : (Cond.selects C0 y y).before a0 Z = true) (w6 : (Cond.instanceMethod y).before a0 Z = true) (w3 : (Cond.initialized y.cls).before a0 Z = true) (w4 : (Cond.code y bytes maxL ret).before a0 Z = true) (hy : y.cls ≠ "java/lang/invoke/MethodHandle" ∧ y.cls ≠ "java/lang/invoke/VarHandle") (eT : T.heap = h) (hS : s.Since vm0 k0) (hk : k0 ≤ h.size) (a : Addr) (E : Exa Z h a C0) (C : CtrW l Z y bytes maxL ret [] rm rm.cells rm.slots as' h Q) (hsz : Ls.size = c.maxLocals) (argsL rest : List Value) (has : (.ref a :: argsL).toArray = as') (hlen : ∀ sig, parseMethodDescriptor y.desc = some sig → argsL.length = sig.parameters.length) (hst : st = argsL.reverse ++ .ref a :: rest) (hl : (rest.map fun v => v.category).sum + (maxL + 11) + rm.locals ≤ R.locals) (hf : rm.frames + 1 ≤ R.frames) (hc : cells + rm.cells ≤ R.cells) (hsl : slots + rm.slots ≤ R.slots) (hd : decode c.code pc = .ok (.invokevirtual ix, 3)) (hp : pc + 3 = pc') (k : ∀ (T' : State) (v : Option Value) (L : List Loc) (k1 : Nat), Stand p l e R (s.setVm T'.vm) m args below meth c T' (locs ++ L) (cells + rm.cells) (slots + rm.slots) → Q v T'.heap L → s.Since T'.vm k1 → k1 ≤ T'.heap.size → Z.Warmed39 T'.vm → T'.vm.findClass own = some m.cls → Goes p e below K T' (mkF m pc' Ls (v.toList ++ rest))) : Goes p e below K T (mkF m pc Ls st) := by
  subst hp
  have hZ' : Z.Warmed39 (s.setVm vm0).vm := hZ
  obtain ⟨cq, kq, qa, qb, qc⟩ := isOf hZ' eT E
  obtain ⟨v, _, ⟨T1, L1, k1, n1⟩, -, X1, h2, g2, ⟨L, hQ, l1, y1, z1⟩, f1⟩ := X.virtualBackS hx (y := y) (z := y) hown (mvT hZ' w1) (mvT hZ' w2) (notFace_of_selects (args := #[]) (mvT hZ' w5)) (mvT hZ' w5) (mvT hZ' w6) hy (backOfS (W := (rest.map fun v => v.category).sum) C hZ' w4 w3 hf hl) qa qc (g := mkF m pc Ls st) rfl hsz (Steps.refl _) (argsL := argsL) (rest := rest) hlen hst (by show 2 * 0 + _ ≤ _; omega) hd (fun _ _ => ⟨has, eT, hc, hsl⟩)
  dsimp only [Pt.U, Pt.locs, Pt.cells, Pt.slots] at X1 l1 y1 z1 f1 hQ h2 g2
  subst l1 y1 z1
  obtain ⟨X2, S2, Z2, o2⟩ := rebS hS (by rw [eT]; exact hk) X1 h2 g2 hZ hown
  exact Goes.by' (fun _ q => f1.trans q) (k T1 v L _ X2 hQ S2 (Nat.le_refl _) Z2 o2)
theorem g_retAW {vm0 : Vm} (X : Stand p l e R (s.setVm vm0) m args below meth c T locs cells slots) (hx : p.tables.exec = Jvm.exec) {C S : Nat} {Q : Option Value → Heap → List Loc → Prop} {v : Value} {t : FieldType} (hv : v.isRef = true) (ht : t.isReference = true) (hlk : meth.locks = false) (hret : meth.sig.returnType = some t) (eT : T.heap = h) {k0 : Nat} (hS : s.Since vm0 k0) (hk : k0 ≤ h.size) (hc : cells ≤ C) (hs : slots ≤ S) (hd : decode c.code pc = .ok (.areturn, 1)) (hQ : Q (some v) h locs) : Goes p e below (KW s C S Q) T (mkF m pc Ls (v :: st)) := by
  subst eT
  obtain ⟨fs, hr, hrun, hended, q1, q2, q3, q4⟩ := X.leaveW hS hk (v := some v) (fun q => by rw [hret] at q; cases q) hlk
  have hn : narrow t v = v := by cases v <;> simp [Value.isRef] at hv <;> cases t <;> simp [FieldType.isReference] at ht <;> rfl
  exact ⟨_, _, retOut X hx hret hn (Or.inr (Or.inr (Or.inr (Or.inr ⟨rfl, ht, hv⟩)))) hd hr, hrun, hended, _, _, rfl, hQ, q1, q2, q3, q4.mono hc hs⟩
theorem g_retW {vm0 : Vm} (X : Stand p l e R (s.setVm vm0) m args below meth c T locs cells slots) (hx : p.tables.exec = Jvm.exec) {C S : Nat} {Q : Option Value → Heap → List Loc → Prop} (hlk : meth.locks = false) (hret : meth.sig.returnType = none) (eT : T.heap = h) {k0 : Nat} (hS : s.Since vm0 k0) (hk : k0 ≤ h.size) (hc : cells ≤ C) (hs : slots ≤ S) (hd : decode c.code pc = .ok (.return_, 1)) (hQ : Q none h locs) : Goes p e below (KW s C S Q) T (mkF m pc Ls []) := by
  subst eT
  obtain ⟨fs, hr, hrun, hended, q1, q2, q3, q4⟩ := X.leaveW hS hk (v := none) (fun _ => rfl) hlk
  exact ⟨_, _, X.returnOut hx hret hd hr, hrun, hended, _, _, rfl, hQ, q1, q2, q3, q4.mono hc hs⟩
theorem own_ib {vm : Vm} (q : vm.interned = Z.vm.interned) : IB Z vm [] := ⟨#[], by simp [q], fun x hx => by simp at hx⟩
end OwnW
theorem own_fin {P : Int32 → Prop} (N : Nat) (hN : N ≤ 2 ^ 31) (hP : ∀ n : Fin N, P (Int32.ofNat n.val)) (d : Int32) (h0 : 0 ≤ d.toInt) (h1 : d.toInt < (N : Int)) : P d := by
  have e : d = Int32.ofNat d.toInt.toNat := by
    apply Int32.toInt_inj.mp
    rw [Int32.toInt_ofNat_of_lt (by omega)]
    omega
  rw [e]
  exact hP ⟨d.toInt.toNat, by omega⟩
theorem own_ltI {x y : Int32} : x < y ↔ x.toInt < y.toInt := Int32.lt_iff_toInt_lt
theorem own_nneg {i : Int32} (h : 0 ≤ i.toInt) : ¬ i < 0 := by rw [own_ltI, show (0 : Int32).toInt = 0 from rfl]; omega
theorem own_tnc (i : Int32) : i.toNatClampNeg = i.toInt.toNat := rfl
theorem own_inc {i : Int32} (h : i.toInt < 2147483647) : (i + 1).toInt = i.toInt + 1 := by
  have e := c_iadd i 1
  have r := rng32 (i + 1)
  have r2 := rng32 i
  rw [show (1 : Int32).toInt = 1 from rfl] at e
  omega
theorem own_rem (a m : Int32) (hm : 0 < m.toInt) : 0 ≤ ((a &&& 2147483647) % m).toInt ∧ ((a &&& 2147483647) % m).toInt < m.toInt := by
  have e1 := c_mask a 2147483647 31 (by decide) (by decide)
  have e2 := (c_iremV (a &&& 2147483647) m).1 (by rw [e1]; omega) hm
  exact ⟨e2.1, e2.2.1⟩
theorem cm_lt (x y : Int64) : XT.cmpL x y < 0 ↔ x < y := by unfold XT.cmpL; split <;> (try split) <;> simp_all [Int64.lt_iff_toInt_lt, ← Int64.toInt_inj] <;> omega
theorem cm_gt (x y : Int64) : 0 < XT.cmpL x y ↔ y < x := by unfold XT.cmpL; split <;> (try split) <;> simp_all [Int64.lt_iff_toInt_lt, ← Int64.toInt_inj] <;> omega
theorem cm_eq (x y : Int64) : XT.cmpL x y = 0 ↔ x = y := by unfold XT.cmpL; split <;> (try split) <;> simp_all [Int64.lt_iff_toInt_lt, ← Int64.toInt_inj] <;> omega
theorem own_b1 {P : Prop} [Decidable P] (q : P) : some (Value.int (nar .boolean 1)) = some (.int (if P then 1 else 0)) := by rw [if_pos q]; rfl
theorem own_b0 {P : Prop} [Decidable P] (q : ¬ P) : some (Value.int (nar .boolean 0)) = some (.int (if P then 1 else 0)) := by rw [if_neg q]; rfl
theorem d1_0 : decode prog_57_method_1_code 0 = .ok (.aload_n 0, 1) := by decide +kernel
theorem d1_1 : decode prog_57_method_1_code 1 = .ok (.invokespecial 1, 3) := by decide +kernel
theorem d1_4 : decode prog_57_method_1_code 4 = .ok (.return_, 1) := by decide +kernel
theorem d3_0 : decode prog_57_method_2_code 0 = .ok (.aload_n 0, 1) := by decide +kernel
theorem d3_1 : decode prog_57_method_2_code 1 = .ok (.getfield 7, 3) := by decide +kernel
theorem d3_4 : decode prog_57_method_2_code 4 = .ok (.dload_n 1, 1) := by decide +kernel
theorem d3_5 : decode prog_57_method_2_code 5 = .ok (.dadd, 1) := by decide +kernel
theorem d3_6 : decode prog_57_method_2_code 6 = .ok (.dstore_n 3, 1) := by decide +kernel
theorem d3_7 : decode prog_57_method_2_code 7 = .ok (.dload_n 3, 1) := by decide +kernel
theorem d3_8 : decode prog_57_method_2_code 8 = .ok (.aload_n 0, 1) := by decide +kernel
theorem d3_9 : decode prog_57_method_2_code 9 = .ok (.getfield 7, 3) := by decide +kernel
theorem d3_12 : decode prog_57_method_2_code 12 = .ok (.dsub, 1) := by decide +kernel
theorem d3_13 : decode prog_57_method_2_code 13 = .ok (.dstore 5, 2) := by decide +kernel
theorem d3_15 : decode prog_57_method_2_code 15 = .ok (.aload_n 0, 1) := by decide +kernel
theorem d3_16 : decode prog_57_method_2_code 16 = .ok (.dup, 1) := by decide +kernel
theorem d3_17 : decode prog_57_method_2_code 17 = .ok (.getfield 13, 3) := by decide +kernel
theorem d3_20 : decode prog_57_method_2_code 20 = .ok (.aload_n 0, 1) := by decide +kernel
theorem d3_21 : decode prog_57_method_2_code 21 = .ok (.getfield 7, 3) := by decide +kernel
theorem d3_24 : decode prog_57_method_2_code 24 = .ok (.dload_n 3, 1) := by decide +kernel
theorem d3_25 : decode prog_57_method_2_code 25 = .ok (.dload 5, 2) := by decide +kernel
theorem d3_27 : decode prog_57_method_2_code 27 = .ok (.dsub, 1) := by decide +kernel
theorem d3_28 : decode prog_57_method_2_code 28 = .ok (.dsub, 1) := by decide +kernel
theorem d3_29 : decode prog_57_method_2_code 29 = .ok (.dload_n 1, 1) := by decide +kernel
theorem d3_30 : decode prog_57_method_2_code 30 = .ok (.dload 5, 2) := by decide +kernel
theorem d3_32 : decode prog_57_method_2_code 32 = .ok (.dsub, 1) := by decide +kernel
theorem d3_33 : decode prog_57_method_2_code 33 = .ok (.dadd, 1) := by decide +kernel
theorem d3_34 : decode prog_57_method_2_code 34 = .ok (.dadd, 1) := by decide +kernel
theorem d3_35 : decode prog_57_method_2_code 35 = .ok (.putfield 13, 3) := by decide +kernel
theorem d3_38 : decode prog_57_method_2_code 38 = .ok (.aload_n 0, 1) := by decide +kernel
theorem d3_39 : decode prog_57_method_2_code 39 = .ok (.dload_n 3, 1) := by decide +kernel
theorem d3_40 : decode prog_57_method_2_code 40 = .ok (.putfield 7, 3) := by decide +kernel
theorem d3_43 : decode prog_57_method_2_code 43 = .ok (.return_, 1) := by decide +kernel
theorem d4_0 : decode prog_57_method_3_code 0 = .ok (.aload_n 0, 1) := by decide +kernel
theorem d4_1 : decode prog_57_method_3_code 1 = .ok (.getfield 7, 3) := by decide +kernel
theorem d4_4 : decode prog_57_method_3_code 4 = .ok (.aload_n 0, 1) := by decide +kernel
theorem d4_5 : decode prog_57_method_3_code 5 = .ok (.getfield 13, 3) := by decide +kernel
theorem d4_8 : decode prog_57_method_3_code 8 = .ok (.dadd, 1) := by decide +kernel
theorem d4_9 : decode prog_57_method_3_code 9 = .ok (.dreturn, 1) := by decide +kernel
theorem own_rr (sg : Bool) (A : Nat) (h : ¬ A = 0) : FP.Core.roundRatio FP.Core.b64 sg A 1 0 = FP.Core.settle FP.Core.b64 sg (FP.Core.nearest (FP.Core.unitsNum A 0 (FP.Core.quantum FP.Core.b64 A 1 0)) (FP.Core.unitsDen 1 0 (FP.Core.quantum FP.Core.b64 A 1 0))) (FP.Core.quantum FP.Core.b64 A 1 0) := by
  show (if A = 0 then FP.Core.Datum.fin sg 0 FP.Core.b64.qmin else FP.Core.roundAt FP.Core.b64 sg A 1 0 (FP.Core.quantum FP.Core.b64 A 1 0)) = _
  rw [if_neg h]; rfl
theorem own_set1 (sg : Bool) (n : Nat) (q : Int) (h : n < 2 ^ 53) (hq : q ≤ 971) : FP.Core.settle FP.Core.b64 sg n q = .fin sg n q := by
  show (if n < 2 ^ 53 then FP.Core.bound FP.Core.b64 sg n q else FP.Core.bound FP.Core.b64 sg FP.Core.b64.tails (q + 1)) = _
  rw [if_pos h]
  show (if q ≤ 971 then FP.Core.Datum.fin sg n q else .inf sg) = _
  rw [if_pos hq]
theorem own_set2 (sg : Bool) (n : Nat) (q : Int) (h : ¬ n < 2 ^ 53) (hq : q + 1 ≤ 971) : FP.Core.settle FP.Core.b64 sg n q = .fin sg (2 ^ 52) (q + 1) := by
  show (if n < 2 ^ 53 then FP.Core.bound FP.Core.b64 sg n q else FP.Core.bound FP.Core.b64 sg FP.Core.b64.tails (q + 1)) = _
  rw [if_neg h]
  show (if q + 1 ≤ 971 then FP.Core.Datum.fin sg FP.Core.b64.tails (q + 1) else .inf sg) = _
  rw [if_pos hq]; rfl
theorem own_qu (A : Nat) (h : 52 ≤ FP.Core.leading A 1) : FP.Core.quantum FP.Core.b64 A 1 0 = FP.Core.leading A 1 - 52 := by
  show max (-1074 : Int) (FP.Core.leading A 1 + 0 - (53 - 1)) = _
  omega
theorem own_bel (A n : Nat) : FP.Core.Below A 1 (n : Int) ↔ A < 2 ^ n := by
  have h := FP.Core.below_iff A 1 n 0
  simpa using h
theorem own_rnd (sg : Bool) (A : Nat) (hA : A < 2 ^ 65) : ∃ t c : Nat, ∃ q : Int, FP.Core.roundRatio FP.Core.b64 sg A 1 0 = .fin sg c q ∧ c * 2 ^ q.toNat = t * 2 ^ (-q).toNat ∧ t ≤ A + 4096 ∧ A ≤ t + 4096 := by
  by_cases h53 : A ≤ 2 ^ 53
  · obtain ⟨c, q, hfit, hv⟩ := FP.Core.natFit FP.Core.good_b64 FP.Core.wide_b64 sg (n := A) h53
    refine ⟨A, c, q, FP.Core.roundRatio_exact FP.Core.good_b64 (by decide) hfit hv, ?_, by omega, by omega⟩
    rw [show (0 - q).toNat = (-q).toNat by omega, show (q - 0).toNat = q.toNat by omega, Nat.mul_one] at hv
    exact hv.symm
  · have hA0 : 0 < A := by omega
    obtain ⟨l1, l2⟩ := FP.Core.leading_spec hA0 (show 0 < 1 by decide)
    have k1 := FP.Core.lt_of_below (a := ((53 : Nat) : Int)) (fun z => h53 (Nat.le_of_lt ((own_bel A 53).mp z))) l2
    have k2 := FP.Core.lt_of_below l1 (b := ((65 : Nat) : Int)) ((own_bel A 65).mpr hA)
    have hq := own_qu A (by omega)
    have hle : FP.Core.nearest (FP.Core.unitsNum A 0 (FP.Core.quantum FP.Core.b64 A 1 0)) (FP.Core.unitsDen 1 0 (FP.Core.quantum FP.Core.b64 A 1 0)) ≤ 2 ^ 53 := FP.Core.nearest_units_le (f := FP.Core.b64) hA0 (by decide) 0
    rw [own_rr sg A (by omega)]
    rw [hq] at hle ⊢
    obtain ⟨n, hn⟩ : ∃ n : Nat, FP.Core.leading A 1 - 52 = (n : Int) := ⟨(FP.Core.leading A 1 - 52).toNat, by omega⟩
    rw [hn] at hle ⊢
    have hn1 : n ≤ 12 := by omega
    have e1 : FP.Core.unitsNum A 0 (n : Int) = A := by
      show A * 2 ^ ((0 : Int) - (n : Int)).toNat = A
      rw [show ((0 : Int) - (n : Int)).toNat = 0 by omega, Nat.pow_zero, Nat.mul_one]
    have e2 : FP.Core.unitsDen 1 0 (n : Int) = 2 ^ n := by
      show 1 * 2 ^ ((n : Int) - 0).toNat = 2 ^ n
      rw [show ((n : Int) - 0).toNat = n by omega, Nat.one_mul]
    rw [e1, e2] at hle ⊢
    have hP : 0 < 2 ^ n := Nat.two_pow_pos n
    have hP2 : 2 ^ n ≤ 4096 := Nat.pow_le_pow_right (by decide) hn1
    obtain ⟨s1, s2, -⟩ := FP.Core.nearest_spec A (2 ^ n) hP
    generalize FP.Core.nearest A (2 ^ n) = k at hle s1 s2 ⊢
    have f1 : (2 * k + 1) * 2 ^ n = 2 * (k * 2 ^ n) + 2 ^ n := by rw [Nat.add_mul, Nat.one_mul, Nat.mul_assoc]
    have f2 : 2 * k * 2 ^ n = 2 * (k * 2 ^ n) := Nat.mul_assoc ..
    rw [f1] at s1
    rw [f2] at s2
    by_cases hk : k < 2 ^ 53
    · refine ⟨k * 2 ^ n, k, n, own_set1 sg k n hk (by omega), ?_, by generalize k * 2 ^ n = y at *; omega, by generalize k * 2 ^ n = y at *; omega⟩
      rw [show ((n : Int)).toNat = n by omega, show (-(n : Int)).toNat = 0 by omega, Nat.pow_zero, Nat.mul_one]
    · refine ⟨k * 2 ^ n, 2 ^ 52, (n : Int) + 1, own_set2 sg k n hk (by omega), ?_, by generalize k * 2 ^ n = y at *; omega, by generalize k * 2 ^ n = y at *; omega⟩
      rw [show ((n : Int) + 1).toNat = n + 1 by omega, show (-((n : Int) + 1)).toNat = 0 by omega, Nat.pow_zero, Nat.mul_one, show k = 2 ^ 53 by omega, show (2 : Nat) ^ (n + 1) = 2 ^ n * 2 from Nat.pow_add 2 n 1]
      generalize 2 ^ n = y
      omega
theorem own_rw {i : Int} {d : FP.Core.Datum} (h : FP.Core.Whole i d) (hi : i.natAbs < 2 ^ 65) : ∃ t : Int, FP.Core.Whole t (FP.Core.round FP.Core.b64 d) ∧ (t - i).natAbs ≤ 4096 := by
  cases d with
  | nan => exact h.elim
  | inf => exact h.elim
  | fin sg c q =>
    obtain ⟨t, c', q', e1, e2, b1, b2⟩ := own_rnd sg i.natAbs hi
    refine ⟨FP.Core.signed sg t, ?_, ?_⟩
    · rw [FP.Core.round_whole h, e1]
      show FP.Core.signed sg (c' * 2 ^ q'.toNat) = FP.Core.signed sg t * ((2 ^ (-q').toNat : Nat) : Int)
      rw [e2, FP.Core.signed_mul]
    · have e3 := FP.Core.natAbs_signed sg t
      by_cases hi0 : i = 0
      · omega
      · have e4 := FP.Core.whole_sign h hi0
        by_cases hneg : i < 0
        · have e5 : FP.Core.signed sg t = -(t : Int) := by rw [e4, decide_eq_true hneg]; rfl
          omega
        · have e5 : FP.Core.signed sg t = (t : Int) := by rw [e4, decide_eq_false hneg]; rfl
          omega
theorem own_fx {i : Int} {d : FP.Core.Datum} {g : UInt64} (h : FP.Core.Whole i d) (hg : FP.Core.DInt i g) : FP.Core.Whole i (FP.Core.round FP.Core.b64 d) := by
  by_cases hi0 : i = 0
  · subst hi0; exact FP.Core.whole_round FP.Core.good_b64 FP.Core.wide_b64 (by decide) h
  · cases d with
    | nan => exact h.elim
    | inf => exact h.elim
    | fin sg c q =>
      have hf := FP.Core.val64_fits g
      have hg' : FP.Core.Whole i (FP.Core.val64 g) := hg
      revert hf hg'
      generalize FP.Core.val64 g = y
      intro hf hg'
      cases y with
      | nan => exact hg'.elim
      | inf => exact hg'.elim
      | fin sg2 c2 q2 =>
        have r2 := FP.Core.round_of_fits FP.Core.good_b64 hf
        rw [FP.Core.round_whole hg', FP.Core.whole_sign hg' hi0] at r2
        rw [FP.Core.round_whole h, FP.Core.whole_sign h hi0, r2]
        rw [FP.Core.whole_sign hg' hi0] at hg'
        exact hg'
theorem own_nn {i : Int} {g : UInt64} (h : FP.Core.DInt i g) : Jvm.Free.Fl.NoNaN64 g := Jvm.Free.Fl.val64_no.mpr (FP.Core.Whole.ne_nan h)
theorem own_dadd {i j : Int} {a b : UInt64} (ha : FP.Core.DInt i a) (hb : FP.Core.DInt j b) (h : (i + j).natAbs < 2 ^ 65) : ∃ t : Int, FP.Core.DInt t (FP.dadd a b) ∧ (t - (i + j)).natAbs ≤ 4096 := by
  obtain ⟨t, h1, h2⟩ := own_rw (FP.Core.whole_sum ha hb) h
  refine ⟨t, ?_, h2⟩
  show FP.Core.Whole t (FP.Core.val64 (FP.Core.dadd a b))
  rw [FP.Core.val64_dadd]; exact h1
theorem own_dsub {i j : Int} {a b : UInt64} (ha : FP.Core.DInt i a) (hb : FP.Core.DInt j b) (h : (i - j).natAbs < 2 ^ 65) : ∃ t : Int, FP.Core.DInt t (FP.dsub a b) ∧ (t - (i - j)).natAbs ≤ 4096 := by
  obtain ⟨t, h1, h2⟩ := own_rw (FP.Core.whole_sum ha (FP.Core.whole_negate hb)) h
  refine ⟨t, ?_, h2⟩
  show FP.Core.Whole t (FP.Core.val64 (FP.Core.dsub a b))
  rw [FP.Core.val64_dsub]; exact h1
theorem own_daddx {i j k : Int} {a b g : UInt64} (ha : FP.Core.DInt i a) (hb : FP.Core.DInt j b) (hk : i + j = k) (hg : FP.Core.DInt k g) : FP.Core.DInt k (FP.dadd a b) := by
  subst hk
  show FP.Core.Whole _ (FP.Core.val64 (FP.Core.dadd a b))
  rw [FP.Core.val64_dadd]; exact own_fx (FP.Core.whole_sum ha hb) hg
theorem own_dsubx {i j k : Int} {a b g : UInt64} (ha : FP.Core.DInt i a) (hb : FP.Core.DInt j b) (hk : i - j = k) (hg : FP.Core.DInt k g) : FP.Core.DInt k (FP.dsub a b) := by
  subst hk
  show FP.Core.Whole _ (FP.Core.val64 (FP.Core.dsub a b))
  rw [FP.Core.val64_dsub]; exact own_fx (FP.Core.whole_sum ha (FP.Core.whole_negate hb)) hg
theorem own_dadd5 {i j k : Int} {a b : UInt64} (ha : FP.Core.DInt i a) (hb : FP.Core.DInt j b) (hk : i + j = k) (h : k.natAbs ≤ 9007199254740992) : FP.Core.DInt k (FP.dadd a b) := by
  subst hk; exact FP.Core.dadd_int ha hb h
theorem own_dsub5 {i j k : Int} {a b : UInt64} (ha : FP.Core.DInt i a) (hb : FP.Core.DInt j b) (hk : i - j = k) (h : k.natAbs ≤ 9007199254740992) : FP.Core.DInt k (FP.dsub a b) := by
  subst hk; exact FP.Core.dsub_int ha hb h
def own_ad (sv tv : UInt64) : UInt64 := FP.dsub (FP.dadd sv tv) sv
def own_er (sv tv ev : UInt64) : UInt64 := FP.dadd ev (FP.dadd (FP.dsub sv (FP.dsub (FP.dadd sv tv) (own_ad sv tv))) (FP.dsub tv (own_ad sv tv)))
def own_ok (sv tv ev : UInt64) : Prop := Jvm.Free.Fl.NoNaN64 (FP.dadd sv tv) ∧ Jvm.Free.Fl.NoNaN64 (own_ad sv tv) ∧ Jvm.Free.Fl.NoNaN64 (FP.dsub (FP.dadd sv tv) (own_ad sv tv)) ∧ Jvm.Free.Fl.NoNaN64 (FP.dsub sv (FP.dsub (FP.dadd sv tv) (own_ad sv tv))) ∧ Jvm.Free.Fl.NoNaN64 (FP.dsub tv (own_ad sv tv)) ∧ Jvm.Free.Fl.NoNaN64 (FP.dadd (FP.dsub sv (FP.dsub (FP.dadd sv tv) (own_ad sv tv))) (FP.dsub tv (own_ad sv tv))) ∧ Jvm.Free.Fl.NoNaN64 (own_er sv tv ev)
theorem own_all {S x E : Int} {sv tv ev : UInt64} {t w v1 v2 v3 v4 v5 : Int} (h1 : FP.Core.DInt t (FP.dadd sv tv)) (h2 : FP.Core.DInt w (own_ad sv tv)) (h3 : FP.Core.DInt v1 (FP.dsub (FP.dadd sv tv) (own_ad sv tv))) (h4 : FP.Core.DInt v2 (FP.dsub sv (FP.dsub (FP.dadd sv tv) (own_ad sv tv)))) (h5 : FP.Core.DInt v3 (FP.dsub tv (own_ad sv tv))) (h6 : FP.Core.DInt v4 (FP.dadd (FP.dsub sv (FP.dsub (FP.dadd sv tv) (own_ad sv tv))) (FP.dsub tv (own_ad sv tv)))) (h7 : FP.Core.DInt v5 (own_er sv tv ev)) (q1 : t + v5 = S + E + x) (q2 : (v5 - E).natAbs ≤ 4096) : ∃ t' e' : Int, FP.Core.DInt t' (FP.dadd sv tv) ∧ FP.Core.DInt e' (own_er sv tv ev) ∧ t' + e' = S + E + x ∧ (e' - E).natAbs ≤ 4096 ∧ own_ok sv tv ev :=
  ⟨t, v5, h1, h7, q1, q2, own_nn h1, own_nn h2, own_nn h3, own_nn h4, own_nn h5, own_nn h6, own_nn h7⟩
theorem own_add {S x E : Int} {sv tv ev : UInt64} (hs : FP.Core.DInt S sv) (ht : FP.Core.DInt x tv) (he : FP.Core.DInt E ev) (hE : E.natAbs ≤ 1048576) (b1 : S.natAbs ≤ 18446744073709551616) (b2 : x.natAbs ≤ 13835058055282163712) (hor : S.natAbs ≤ 8589934592 ∨ x.natAbs ≤ 8589934592 ∨ (S + x).natAbs ≤ 9007199254740992) : ∃ t' e' : Int, FP.Core.DInt t' (FP.dadd sv tv) ∧ FP.Core.DInt e' (own_er sv tv ev) ∧ t' + e' = S + E + x ∧ (e' - E).natAbs ≤ 4096 ∧ own_ok sv tv ev := by
  by_cases hx : (S + x).natAbs ≤ 9007199254740992
  · have h1 : FP.Core.DInt (S + x) (FP.dadd sv tv) := own_dadd5 hs ht rfl hx
    have h2 : FP.Core.DInt x (own_ad sv tv) := own_dsubx h1 hs (by omega) ht
    have h3 : FP.Core.DInt S (FP.dsub (FP.dadd sv tv) (own_ad sv tv)) := own_dsubx h1 h2 (by omega) hs
    have h4 : FP.Core.DInt 0 (FP.dsub sv (FP.dsub (FP.dadd sv tv) (own_ad sv tv))) := own_dsub5 hs h3 (by omega) (by omega)
    have h5 : FP.Core.DInt 0 (FP.dsub tv (own_ad sv tv)) := own_dsub5 ht h2 (by omega) (by omega)
    have h6 := own_dadd5 (k := 0) h4 h5 (by omega) (by omega)
    have h7 : FP.Core.DInt E (own_er sv tv ev) := own_daddx he h6 (by omega) he
    exact own_all h1 h2 h3 h4 h5 h6 h7 (by omega) (by omega)
  · obtain ⟨t, h1, r1⟩ := own_dadd hs ht (show (S + x).natAbs < 36893488147419103232 by omega)
    by_cases hx2 : x.natAbs ≤ 8589934592
    · have h2 : FP.Core.DInt (t - S) (own_ad sv tv) := own_dsub5 h1 hs rfl (by omega)
      have h3 : FP.Core.DInt S (FP.dsub (FP.dadd sv tv) (own_ad sv tv)) := own_dsubx h1 h2 (by omega) hs
      have h4 : FP.Core.DInt 0 (FP.dsub sv (FP.dsub (FP.dadd sv tv) (own_ad sv tv))) := own_dsub5 hs h3 (by omega) (by omega)
      have h5 : FP.Core.DInt (x - (t - S)) (FP.dsub tv (own_ad sv tv)) := own_dsub5 ht h2 rfl (by omega)
      have h6 := own_dadd5 (k := x - (t - S)) h4 h5 (by omega) (by omega)
      have h7 : FP.Core.DInt (E + (x - (t - S))) (own_er sv tv ev) := own_dadd5 he h6 rfl (by omega)
      exact own_all h1 h2 h3 h4 h5 h6 h7 (by omega) (by omega)
    · have hS : S.natAbs ≤ 8589934592 := by omega
      obtain ⟨w, h2, r2⟩ := own_dsub h1 hs (show (t - S).natAbs < 36893488147419103232 by omega)
      have h2 : FP.Core.DInt w (own_ad sv tv) := h2
      have h3 : FP.Core.DInt (t - w) (FP.dsub (FP.dadd sv tv) (own_ad sv tv)) := own_dsub5 h1 h2 rfl (by omega)
      have h4 : FP.Core.DInt (S - (t - w)) (FP.dsub sv (FP.dsub (FP.dadd sv tv) (own_ad sv tv))) := own_dsub5 hs h3 rfl (by omega)
      have h5 : FP.Core.DInt (x - w) (FP.dsub tv (own_ad sv tv)) := own_dsub5 ht h2 rfl (by omega)
      have h6 := own_dadd5 (k := S - t + x) h4 h5 (by omega) (by omega)
      have h7 : FP.Core.DInt (E + (S - t + x)) (own_er sv tv ev) := own_dadd5 he h6 rfl (by omega)
      exact own_all h1 h2 h3 h4 h5 h6 h7 (by omega) (by omega)
theorem own_z0 : FP.Core.DInt 0 (0 : UInt64) := by
  show FP.Core.Whole 0 (FP.Core.val64 (0 : UInt64))
  rw [show FP.Core.val64 (0 : UInt64) = .fin false 0 FP.Core.b64.qmin from FP.Core.val64_dconst0]
  show FP.Core.signed false (0 * 2 ^ FP.Core.b64.qmin.toNat) = 0 * ((2 ^ (-FP.Core.b64.qmin).toNat : Nat) : Int)
  rw [Nat.zero_mul, Int.zero_mul, FP.Core.signed_zero]
theorem own_l2d (v : Int64) : ∃ t : Int, FP.Core.DInt t (FP.l2d v) ∧ (t - v.toInt).natAbs ≤ 4096 := by
  have r := rng64 v
  obtain ⟨t, h1, h2⟩ := own_rw (FP.Core.whole_ofInt v.toInt) (show v.toInt.natAbs < 36893488147419103232 by omega)
  refine ⟨t, ?_, h2⟩
  show FP.Core.Whole t (FP.Core.val64 (FP.Core.l2d v))
  rw [FP.Core.val64_l2d]; exact h1
theorem own_neg {i : Int} {a : UInt64} (h : FP.Core.DInt i a) : FP.Core.DInt (-i) (FP.dneg a) := by
  show FP.Core.Whole (-i) (FP.Core.val64 (FP.dneg a))
  rw [FP.val64_dneg]; exact FP.Core.whole_negate h
theorem own_exp (u v : Int32) : FP.Core.DInt (u.toInt + v.toInt) (FP.l2d (u.toInt64 + v.toInt64)) := by
  have r1 := rng32 u
  have r2 := rng32 v
  have e := c_ladd u.toInt64 v.toInt64
  rw [c_i2l, c_i2l] at e
  have r3 := rng64 (u.toInt64 + v.toInt64)
  have e2 : (u.toInt64 + v.toInt64).toInt = u.toInt + v.toInt := by omega
  rw [← e2]
  exact FP.Core.l2d_int (show _ ≤ 9007199254740992 by omega)
theorem own_cmp {i : Int} {a b : UInt64} (ha : FP.Core.DInt i a) (hb : FP.Core.DInt i b) : cmpValue (FP.dcmp a b) .l = 0 := by
  rw [show FP.dcmp a b = some (compare i i) from FP.Core.dcmp_int ha hb, FP.Core.compare_self_int]; rfl

theorem ef_rm_i (m : MethodId) (x0 : Addr)  : entryFrame m #[(.ref x0)] 1 = mkF m 0 #[.val (.ref x0)] [] := by first | (simp [entryFrame, mkF, argsToLocals, Value.category]; done) | rfl
theorem pn_1 : plainFor (⟨"com/example/link_importance/linkimportance/rank/RunningSum", "<init>", "()V"⟩ : MethodName) = true := by first | exact plainFor_of_name (by first | (simp [plainName, overriddenIn]; done) | decide +kernel) | decide +kernel
set_option maxRecDepth 65536 in
set_option maxHeartbeats 40000000 in
theorem rm_i (l : Launch) (Z : State) (a0 : Array Value) (hw : ∀ d ∈ tables_1, d.before a0 Z = true) (a : Addr) (h0 : Heap) :
    Ctr l Z (⟨"com/example/link_importance/linkimportance/rank/RunningSum", "<init>", "()V"⟩ : MethodName) prog_57_method_1_code 1 (Option.none : Option FieldType) [] ({ frames := 1, cells := 0, slots := 0, locals := 12 } : Room) ({ frames := 1, cells := 0, slots := 0, locals := 12 } : Room).cells ({ frames := 1, cells := 0, slots := 0, locals := 12 } : Room).slots #[(.ref a)] h0 (fun v h L => v = none ∧ L = [] ∧ h = h0) := by
  refine Ctr.of pn_1 ?_
  intro p e s m below meth c s₁ hx hby hml hown hnm hret hlk hZ X0 e0
  refine Goes.cast (ef_rm_i m a) ?_
  refine g_aload_n (i := 0) X0 hx (hb hby d1_0) (by rfl) rfl rfl ?_
  refine g_initO X0 hx hZ hown (wd hw 6 rfl) (wd hw 7 rfl) (wd hw 8 rfl) e0 (by rw [hml]; rfl) (hb hby d1_1) rfl (by decide) (by decide) ?_
  intro T2 X2 e2
  exact g_ret X2 hx hlk hret e2 (by decide) (by decide) (hb hby d1_4) ⟨rfl, rfl, rfl⟩
theorem ef_rm_add (m : MethodId) (x0 : Addr) (x1 : UInt64)  : entryFrame m #[(.ref x0), (.double x1)] 7 = mkF m 0 #[.val (.ref x0), .val (.double x1), .second, .unset, .unset, .unset, .unset] [] := by first | (simp [entryFrame, mkF, argsToLocals, Value.category]; done) | rfl
theorem pn_3 : plainFor (⟨"com/example/link_importance/linkimportance/rank/RunningSum", "add", "(D)V"⟩ : MethodName) = true := by first | exact plainFor_of_name (by first | (simp [plainName, overriddenIn]; done) | decide +kernel) | decide +kernel
set_option maxRecDepth 65536 in
set_option maxHeartbeats 40000000 in
theorem rm_add (l : Launch) (Z : State) (a0 : Array Value) (hw : ∀ d ∈ tables_1, d.before a0 Z = true) (a : Addr) (sv tv ev : UInt64) (h0 : Heap) (n0 : Nat) (ga : n0 ≤ a) (ok : own_ok sv tv ev) (E : Exa Z h0 a "com/example/link_importance/linkimportance/rank/RunningSum") (F1 : Fld Z h0 a "com/example/link_importance/linkimportance/rank/RunningSum" "sum" "D" (.double sv)) (F2 : Fld Z h0 a "com/example/link_importance/linkimportance/rank/RunningSum" "error" "D" (.double ev)) :
    Ctr l Z (⟨"com/example/link_importance/linkimportance/rank/RunningSum", "add", "(D)V"⟩ : MethodName) prog_57_method_2_code 7 (Option.none : Option FieldType) [] ({ frames := 0, cells := 0, slots := 0, locals := 0 } : Room) ({ frames := 0, cells := 0, slots := 0, locals := 0 } : Room).cells ({ frames := 0, cells := 0, slots := 0, locals := 0 } : Room).slots #[(.ref a), (.double tv)] h0 (fun u h L => u = none ∧ Fr n0 L ∧ Exa Z h a "com/example/link_importance/linkimportance/rank/RunningSum" ∧ Fld Z h a "com/example/link_importance/linkimportance/rank/RunningSum" "sum" "D" (.double (FP.dadd sv tv)) ∧ Fld Z h a "com/example/link_importance/linkimportance/rank/RunningSum" "error" "D" (.double (own_er sv tv ev))) := by
  refine Ctr.of pn_3 ?_
  intro p e s m below meth c s₁ hx hby hml hown hnm hret hlk hZ X0 e0
  refine Goes.cast (ef_rm_add m a tv) ?_
  obtain ⟨k1, k2, k3, k4, k5, k6, k7⟩ := ok
  refine g_aload_n (i := 0) X0 hx (hb hby d3_0) (by rfl) rfl rfl ?_
  refine g_getF X0 hx hZ hown (wd hw 14 rfl) e0 F1 (hb hby d3_1) rfl ?_
  intro T4 X4 e4
  refine g_dload_n (i := 1) X4 hx (hb hby d3_4) (by rfl) rfl ?_
  refine g_dadd X4 hx (hb hby d3_5) k1 rfl rfl ?_
  refine g_dstore_n (i := 3) X4 hx #[.val (.ref a), .val (.double tv), .second, .val (.double (FP.dadd sv tv)), .second, .unset, .unset] (hb hby d3_6) rfl rfl ?_
  refine g_dload_n (i := 3) X4 hx (hb hby d3_7) (by rfl) rfl ?_
  refine g_aload_n (i := 0) X4 hx (hb hby d3_8) (by rfl) rfl rfl ?_
  refine g_getF X4 hx hZ hown (wd hw 14 rfl) e4 F1 (hb hby d3_9) rfl ?_
  intro T5 X5 e5
  refine g_dsub X5 hx (hb hby d3_12) k2 (show _ = (own_ad sv tv) from rfl) rfl ?_
  refine g_dstore (i := 5) X5 hx #[.val (.ref a), .val (.double tv), .second, .val (.double (FP.dadd sv tv)), .second, .val (.double (own_ad sv tv)), .second] (hb hby d3_13) rfl rfl ?_
  refine g_aload_n (i := 0) X5 hx (hb hby d3_15) (by rfl) rfl rfl ?_
  refine g_dup X5 hx (hb hby d3_16) rfl rfl ?_
  refine g_getF X5 hx hZ hown (wd hw 16 rfl) e5 F2 (hb hby d3_17) rfl ?_
  intro T6 X6 e6
  refine g_aload_n (i := 0) X6 hx (hb hby d3_20) (by rfl) rfl rfl ?_
  refine g_getF X6 hx hZ hown (wd hw 14 rfl) e6 F1 (hb hby d3_21) rfl ?_
  intro T7 X7 e7
  refine g_dload_n (i := 3) X7 hx (hb hby d3_24) (by rfl) rfl ?_
  refine g_dload (i := 5) X7 hx (hb hby d3_25) (by rfl) rfl ?_
  refine g_dsub X7 hx (hb hby d3_27) k3 rfl rfl ?_
  refine g_dsub X7 hx (hb hby d3_28) k4 rfl rfl ?_
  refine g_dload_n (i := 1) X7 hx (hb hby d3_29) (by rfl) rfl ?_
  refine g_dload (i := 5) X7 hx (hb hby d3_30) (by rfl) rfl ?_
  refine g_dsub X7 hx (hb hby d3_32) k5 rfl rfl ?_
  refine g_dadd X7 hx (hb hby d3_33) k6 rfl rfl ?_
  refine g_dadd X7 hx (hb hby d3_34) k7 (show _ = own_er sv tv ev from rfl) rfl ?_
  refine g_putF X7 hx hZ hown (wd hw 16 rfl) e7 F2 E (Or.inl (wd hw 17 rfl)) (wd hw 1 rfl) (ty := .double) (by decide) rfl rfl (hb hby d3_35) rfl ?_
  intro T8 h8 X8 e8 W8
  have N8 := Fr.snoc X8 (Fr.nil n0) ga
  have E8_ := E.wr W8
  have F8_sum := F1.other W8 (Or.inr (slot_ne (C := "com/example/link_importance/linkimportance/rank/RunningSum") (Or.inl (wd hw 15 rfl)) (Or.inl (wd hw 17 rfl)) (by decide) (t := .double) (t' := .double) (by decide) (by decide)))
  have F8_error := F2.same W8
  refine g_aload_n (i := 0) X8 hx (hb hby d3_38) (by rfl) rfl rfl ?_
  refine g_dload_n (i := 3) X8 hx (hb hby d3_39) (by rfl) rfl ?_
  refine g_putF X8 hx hZ hown (wd hw 14 rfl) e8 F8_sum E8_ (Or.inl (wd hw 15 rfl)) (wd hw 1 rfl) (ty := .double) (by decide) rfl rfl (hb hby d3_40) rfl ?_
  intro T9 h9 X9 e9 W9
  have N9 := Fr.snoc X9 N8 ga
  have E9_ := E8_.wr W9
  have F9_sum := F8_sum.same W9
  have F9_error := F8_error.other W9 (Or.inr (slot_ne (C := "com/example/link_importance/linkimportance/rank/RunningSum") (Or.inl (wd hw 17 rfl)) (Or.inl (wd hw 15 rfl)) (by decide) (t := .double) (t' := .double) (by decide) (by decide)))
  exact g_ret X9 hx hlk hret e9 (by decide) (by decide) (hb hby d3_43) ⟨rfl, N9, E9_, F9_sum, F9_error⟩
theorem ef_rm_v (m : MethodId) (x0 : Addr)  : entryFrame m #[(.ref x0)] 1 = mkF m 0 #[.val (.ref x0)] [] := by first | (simp [entryFrame, mkF, argsToLocals, Value.category]; done) | rfl
theorem pn_10 : plainFor (⟨"com/example/link_importance/linkimportance/rank/RunningSum", "value", "()D"⟩ : MethodName) = true := by first | exact plainFor_of_name (by first | (simp [plainName, overriddenIn]; done) | decide +kernel) | decide +kernel
set_option maxRecDepth 65536 in
set_option maxHeartbeats 40000000 in
theorem rm_v (l : Launch) (Z : State) (a0 : Array Value) (hw : ∀ d ∈ tables_1, d.before a0 Z = true) (a : Addr) (sv ev : UInt64) (h0 : Heap) (ok : Jvm.Free.Fl.NoNaN64 (FP.dadd sv ev)) (F1 : Fld Z h0 a "com/example/link_importance/linkimportance/rank/RunningSum" "sum" "D" (.double sv)) (F2 : Fld Z h0 a "com/example/link_importance/linkimportance/rank/RunningSum" "error" "D" (.double ev)) :
    Ctr l Z (⟨"com/example/link_importance/linkimportance/rank/RunningSum", "value", "()D"⟩ : MethodName) prog_57_method_3_code 1 (Option.some FieldType.double) [] ({ frames := 0, cells := 0, slots := 0, locals := 0 } : Room) ({ frames := 0, cells := 0, slots := 0, locals := 0 } : Room).cells ({ frames := 0, cells := 0, slots := 0, locals := 0 } : Room).slots #[(.ref a)] h0 (fun u h L => u = some (.double (FP.dadd sv ev)) ∧ L = [] ∧ h = h0) := by
  refine Ctr.of pn_10 ?_
  intro p e s m below meth c s₁ hx hby hml hown hnm hret hlk hZ X0 e0
  refine Goes.cast (ef_rm_v m a) ?_
  refine g_aload_n (i := 0) X0 hx (hb hby d4_0) (by rfl) rfl rfl ?_
  refine g_getF X0 hx hZ hown (wd hw 14 rfl) e0 F1 (hb hby d4_1) rfl ?_
  intro T11 X11 e11
  refine g_aload_n (i := 0) X11 hx (hb hby d4_4) (by rfl) rfl rfl ?_
  refine g_getF X11 hx hZ hown (wd hw 16 rfl) e11 F2 (hb hby d4_5) rfl ?_
  intro T12 X12 e12
  refine g_dadd X12 hx (hb hby d4_8) ok rfl rfl ?_
  exact g_retD X12 hx hlk hret e12 (by decide) (by decide) (hb hby d4_9) ⟨rfl, rfl, rfl⟩
theorem ef_rm0 (m : MethodId) (x0 : Int32) (x1 : Int32) (x2 : Int64) (x3 : Int32)  : entryFrame m #[(.int x0), (.int x1), (.long x2), (.int x3)] maxLocals = mkF m 0 #[.val (.int x0), .val (.int x1), .val (.long x2), .second, .val (.int x3), .unset, .unset, .unset, .unset, .unset, .unset, .unset, .unset, .unset, .unset, .unset, .unset] [] := by first | (simp [entryFrame, mkF, argsToLocals, Value.category, maxLocals]; done) | rfl
theorem pn_13 : plainFor x = true := by first | exact plainFor_of_name (by first | (simp [plainName, overriddenIn]; done) | decide +kernel) | decide +kernel
theorem pd_15 : parseMethodDescriptor "()V" = some ⟨[], none⟩ := by decide +kernel
theorem pd_16 : parseMethodDescriptor "(D)V" = some ⟨[.double], none⟩ := by decide +kernel
theorem pd_20 : parseMethodDescriptor "()D" = some ⟨[], some .double⟩ := by decide +kernel
set_option maxRecDepth 65536 in
set_option maxHeartbeats 40000000 in
theorem rm0 (l : Launch) (Z : State) (a0 : Array Value) (hw : ∀ d ∈ tables_1, d.before a0 Z = true) (p0 p1 : Int32) (p2 : Int64) (p3 : Int32) (h0 : Heap) (n0 : Nat) (Z0 : n0 ≤ h0.size) :
    Ctr l Z x code maxLocals ret tables_1 room_1 16 128 #[(.int p0), (.int p1), (.long p2), (.int p3)] h0 (fun v h L => v = some (.int 1) ∧ Fr n0 L) := by
  refine Ctr.of pn_13 ?_
  intro p e s m below meth c s₁ hx hby hml hown hnm hret hlk hZ X0 e0
  refine Goes.cast (ef_rm0 m p0 p1 p2 p3) ?_
  obtain ⟨pv, dp, bp⟩ := own_l2d p2
  have dm := own_neg dp
  have d0 : FP.Core.DInt p0.toInt (FP.i2d p0) := FP.Core.i2d_int p0
  have d1 : FP.Core.DInt p1.toInt (FP.i2d p1) := FP.Core.i2d_int p1
  have r0 := rng32 p0
  have r1 := rng32 p1
  have r2 := rng64 p2
  have hexp := own_exp p0 p1
  refine g_new X0 hx hZ hown (wd hw 0 rfl) (wd hw 1 rfl) (wd hw 2 rfl) e0 (hb hby at_0) rfl (by decide) (by decide) ?_
  intro T14 h14 a14 X14 e14 g14 Ex14 E14 D14
  have F14_sum : Fld Z h14 a14 "com/example/link_importance/linkimportance/rank/RunningSum" "sum" "D" (.double 0) := D14 (Or.inl (wd hw 15 rfl)) (ty := .double) (by decide)
  have F14_error : Fld Z h14 a14 "com/example/link_importance/linkimportance/rank/RunningSum" "error" "D" (.double 0) := D14 (Or.inl (wd hw 17 rfl)) (ty := .double) (by decide)
  have ga : n0 ≤ a14 := by rw [g14]; exact Z0
  refine g_dup X14 hx (hb hby at_3) rfl rfl ?_
  refine g_callI X14 hx hZ rfl hown (wd hw 3 rfl) (wd hw 4 rfl) (wd hw 2 rfl) (wd hw 5 rfl) (by decide) e14 (rm_i l Z a0 hw a14 h14) (by rw [hml]; rfl) a14 [] [(.ref a14)] rfl (lenOf pd_15 rfl) rfl (by show 1 + (1 + 11) + 12 ≤ _; decide) (by decide) (by decide) (by decide) (hb hby at_4) rfl ?_
  intro T15 v15 L15 X15 hQ15
  obtain ⟨rfl, rfl, e15⟩ := hQ15
  have N15 := Fr.app (Fr.nil n0) (Fr.nil n0)
  show Goes p e below _ T15 (mkF m 7 #[.val (.int p0), .val (.int p1), .val (.long p2), .second, .val (.int p3), .unset, .unset, .unset, .unset, .unset, .unset, .unset, .unset, .unset, .unset, .unset, .unset] [(.ref a14)])
  refine g_astore (i := 5) X15 hx #[.val (.int p0), .val (.int p1), .val (.long p2), .second, .val (.int p3), .val (.ref a14), .unset, .unset, .unset, .unset, .unset, .unset, .unset, .unset, .unset, .unset, .unset] (hb hby at_7) rfl rfl rfl ?_
  refine g_iload_n (i := 0) X15 hx (hb hby at_9) (by rfl) rfl ?_
  refine g_i2d X15 hx (hb hby at_10) rfl rfl ?_
  refine g_dstore (i := 6) X15 hx #[.val (.int p0), .val (.int p1), .val (.long p2), .second, .val (.int p3), .val (.ref a14), .val (.double (FP.i2d p0)), .second, .unset, .unset, .unset, .unset, .unset, .unset, .unset, .unset, .unset] (hb hby at_11) rfl rfl ?_
  refine g_iload_n (i := 1) X15 hx (hb hby at_13) (by rfl) rfl ?_
  refine g_i2d X15 hx (hb hby at_14) rfl rfl ?_
  refine g_dstore (i := 8) X15 hx #[.val (.int p0), .val (.int p1), .val (.long p2), .second, .val (.int p3), .val (.ref a14), .val (.double (FP.i2d p0)), .second, .val (.double (FP.i2d p1)), .second, .unset, .unset, .unset, .unset, .unset, .unset, .unset] (hb hby at_15) rfl rfl ?_
  refine g_lload_n (i := 2) X15 hx (hb hby at_17) (by rfl) rfl ?_
  refine g_l2d X15 hx (hb hby at_18) rfl rfl ?_
  refine g_dstore (i := 10) X15 hx #[.val (.int p0), .val (.int p1), .val (.long p2), .second, .val (.int p3), .val (.ref a14), .val (.double (FP.i2d p0)), .second, .val (.double (FP.i2d p1)), .second, .val (.double (FP.l2d p2)), .second, .unset, .unset, .unset, .unset, .unset] (hb hby at_19) rfl rfl ?_
  refine g_dload (i := 10) X15 hx (hb hby at_21) (by rfl) rfl ?_
  refine g_dneg X15 hx (hb hby at_23) rfl rfl ?_
  refine g_dstore (i := 12) X15 hx #[.val (.int p0), .val (.int p1), .val (.long p2), .second, .val (.int p3), .val (.ref a14), .val (.double (FP.i2d p0)), .second, .val (.double (FP.i2d p1)), .second, .val (.double (FP.l2d p2)), .second, .val (.double (FP.dneg (FP.l2d p2))), .second, .unset, .unset, .unset] (hb hby at_24) rfl rfl ?_
  refine g_iload (i := 4) X15 hx (hb hby at_26) (by rfl) rfl ?_
  refine g_iconst (v := (3 : Int32)) X15 hx (hb hby at_28) (by decide) rfl ?_
  refine g_iand X15 hx (hb hby at_29) rfl ?_
  refine g_istore (i := 14) X15 hx #[.val (.int p0), .val (.int p1), .val (.long p2), .second, .val (.int p3), .val (.ref a14), .val (.double (FP.i2d p0)), .second, .val (.double (FP.i2d p1)), .second, .val (.double (FP.l2d p2)), .second, .val (.double (FP.dneg (FP.l2d p2))), .second, .val (.int (p3 &&& (3 : Int32))), .unset, .unset] (hb hby at_30) rfl rfl ?_
  refine g_iload (i := 14) X15 hx (hb hby at_32) (by rfl) rfl ?_
  refine g_if_ne X15 hx (hb hby at_34) (by decide) (pt := 68) (by decide) rfl (fun q => ?_) (fun q => ?_)
  · refine g_iload (i := 14) X15 hx (hb hby at_68) (by rfl) rfl ?_
    refine g_iconst (v := (1 : Int32)) X15 hx (hb hby at_70) (by decide) rfl ?_
    refine g_icmp_ne X15 hx (hb hby at_71) (by decide) (pt := 105) (by decide) rfl (fun q1 => ?_) (fun q1 => ?_)
    · refine g_iload (i := 14) X15 hx (hb hby at_105) (by rfl) rfl ?_
      refine g_iconst (v := (2 : Int32)) X15 hx (hb hby at_107) (by decide) rfl ?_
      refine g_icmp_ne X15 hx (hb hby at_108) (by decide) (pt := 142) (by decide) rfl (fun q2 => ?_) (fun q2 => ?_)
      · refine g_aload (i := 5) X15 hx (hb hby at_142) (by rfl) rfl rfl ?_
        refine g_dload (i := 10) X15 hx (hb hby at_144) (by rfl) rfl ?_
        obtain ⟨S1, E1_, ds1, de1, q1, b1, ok1⟩ := own_add own_z0 dp own_z0 (by omega) (by omega) (by omega) (by omega)
        refine g_callV X15 hx hZ hown (wd hw 9 rfl) (wd hw 10 rfl) (wd hw 12 rfl) (wd hw 11 rfl) (wd hw 2 rfl) (wd hw 13 rfl) (by decide) e15 a14 E14 (rm_add l Z a0 hw a14 (0 : UInt64) (FP.l2d p2) (0 : UInt64) h14 n0 ga ok1 E14 F14_sum F14_error) (by rw [hml]; rfl) [(.double (FP.l2d p2))] [] rfl (lenOf pd_16 rfl) rfl (by show 0 + (7 + 11) + 0 ≤ _; decide) (by decide) (by decide) (by decide) (hb hby at_146) rfl ?_
        intro T16 v16 L16 X16 hQ16
        obtain ⟨rfl, N16, Ea1, Fs1, Fe1⟩ := hQ16
        have N16 := Fr.app N15 N16
        show Goes p e below _ T16 (mkF m 149 #[.val (.int p0), .val (.int p1), .val (.long p2), .second, .val (.int p3), .val (.ref a14), .val (.double (FP.i2d p0)), .second, .val (.double (FP.i2d p1)), .second, .val (.double (FP.l2d p2)), .second, .val (.double (FP.dneg (FP.l2d p2))), .second, .val (.int (p3 &&& (3 : Int32))), .unset, .unset] [])
        revert ds1 de1 Fs1 Fe1
        generalize FP.dadd (0 : UInt64) (FP.l2d p2) = sv1
        generalize own_er (0 : UInt64) (FP.l2d p2) (0 : UInt64) = ev1
        intro ds1 de1 Fs1 Fe1
        refine g_aload (i := 5) X16 hx (hb hby at_149) (by rfl) rfl rfl ?_
        refine g_dload (i := 6) X16 hx (hb hby at_151) (by rfl) rfl ?_
        obtain ⟨S2, E2_, ds2, de2, q2, b2, ok2⟩ := own_add ds1 d0 de1 (by omega) (by omega) (by omega) (by omega)
        refine g_callV X16 hx hZ hown (wd hw 9 rfl) (wd hw 10 rfl) (wd hw 12 rfl) (wd hw 11 rfl) (wd hw 2 rfl) (wd hw 13 rfl) (by decide) rfl a14 Ea1 (rm_add l Z a0 hw a14 sv1 (FP.i2d p0) ev1 T16.heap n0 ga ok2 Ea1 Fs1 Fe1) (by rw [hml]; rfl) [(.double (FP.i2d p0))] [] rfl (lenOf pd_16 rfl) rfl (by show 0 + (7 + 11) + 0 ≤ _; decide) (by decide) (by decide) (by decide) (hb hby at_153) rfl ?_
        intro T17 v17 L17 X17 hQ17
        obtain ⟨rfl, N17, Ea2, Fs2, Fe2⟩ := hQ17
        have N17 := Fr.app N16 N17
        show Goes p e below _ T17 (mkF m 156 #[.val (.int p0), .val (.int p1), .val (.long p2), .second, .val (.int p3), .val (.ref a14), .val (.double (FP.i2d p0)), .second, .val (.double (FP.i2d p1)), .second, .val (.double (FP.l2d p2)), .second, .val (.double (FP.dneg (FP.l2d p2))), .second, .val (.int (p3 &&& (3 : Int32))), .unset, .unset] [])
        revert ds2 de2 Fs2 Fe2
        generalize FP.dadd sv1 (FP.i2d p0) = sv2
        generalize own_er sv1 (FP.i2d p0) ev1 = ev2
        intro ds2 de2 Fs2 Fe2
        refine g_aload (i := 5) X17 hx (hb hby at_156) (by rfl) rfl rfl ?_
        refine g_dload (i := 12) X17 hx (hb hby at_158) (by rfl) rfl ?_
        obtain ⟨S3, E3_, ds3, de3, q3, b3, ok3⟩ := own_add ds2 dm de2 (by omega) (by omega) (by omega) (by omega)
        refine g_callV X17 hx hZ hown (wd hw 9 rfl) (wd hw 10 rfl) (wd hw 12 rfl) (wd hw 11 rfl) (wd hw 2 rfl) (wd hw 13 rfl) (by decide) rfl a14 Ea2 (rm_add l Z a0 hw a14 sv2 (FP.dneg (FP.l2d p2)) ev2 T17.heap n0 ga ok3 Ea2 Fs2 Fe2) (by rw [hml]; rfl) [(.double (FP.dneg (FP.l2d p2)))] [] rfl (lenOf pd_16 rfl) rfl (by show 0 + (7 + 11) + 0 ≤ _; decide) (by decide) (by decide) (by decide) (hb hby at_160) rfl ?_
        intro T18 v18 L18 X18 hQ18
        obtain ⟨rfl, N18, Ea3, Fs3, Fe3⟩ := hQ18
        have N18 := Fr.app N17 N18
        show Goes p e below _ T18 (mkF m 163 #[.val (.int p0), .val (.int p1), .val (.long p2), .second, .val (.int p3), .val (.ref a14), .val (.double (FP.i2d p0)), .second, .val (.double (FP.i2d p1)), .second, .val (.double (FP.l2d p2)), .second, .val (.double (FP.dneg (FP.l2d p2))), .second, .val (.int (p3 &&& (3 : Int32))), .unset, .unset] [])
        revert ds3 de3 Fs3 Fe3
        generalize FP.dadd sv2 (FP.dneg (FP.l2d p2)) = sv3
        generalize own_er sv2 (FP.dneg (FP.l2d p2)) ev2 = ev3
        intro ds3 de3 Fs3 Fe3
        refine g_aload (i := 5) X18 hx (hb hby at_163) (by rfl) rfl rfl ?_
        refine g_dload (i := 8) X18 hx (hb hby at_165) (by rfl) rfl ?_
        obtain ⟨S4, E4_, ds4, de4, q4, b4, ok4⟩ := own_add ds3 d1 de3 (by omega) (by omega) (by omega) (by omega)
        refine g_callV X18 hx hZ hown (wd hw 9 rfl) (wd hw 10 rfl) (wd hw 12 rfl) (wd hw 11 rfl) (wd hw 2 rfl) (wd hw 13 rfl) (by decide) rfl a14 Ea3 (rm_add l Z a0 hw a14 sv3 (FP.i2d p1) ev3 T18.heap n0 ga ok4 Ea3 Fs3 Fe3) (by rw [hml]; rfl) [(.double (FP.i2d p1))] [] rfl (lenOf pd_16 rfl) rfl (by show 0 + (7 + 11) + 0 ≤ _; decide) (by decide) (by decide) (by decide) (hb hby at_167) rfl ?_
        intro T19 v19 L19 X19 hQ19
        obtain ⟨rfl, N19, Ea4, Fs4, Fe4⟩ := hQ19
        have N19 := Fr.app N18 N19
        show Goes p e below _ T19 (mkF m 170 #[.val (.int p0), .val (.int p1), .val (.long p2), .second, .val (.int p3), .val (.ref a14), .val (.double (FP.i2d p0)), .second, .val (.double (FP.i2d p1)), .second, .val (.double (FP.l2d p2)), .second, .val (.double (FP.dneg (FP.l2d p2))), .second, .val (.int (p3 &&& (3 : Int32))), .unset, .unset] [])
        revert ds4 de4 Fs4 Fe4
        generalize FP.dadd sv3 (FP.i2d p1) = sv4
        generalize own_er sv3 (FP.i2d p1) ev3 = ev4
        intro ds4 de4 Fs4 Fe4
        refine g_iload_n (i := 0) X19 hx (hb hby at_170) (by rfl) rfl ?_
        refine g_i2l X19 hx (hb hby at_171) rfl ?_
        refine g_iload_n (i := 1) X19 hx (hb hby at_172) (by rfl) rfl ?_
        refine g_i2l X19 hx (hb hby at_173) rfl ?_
        refine g_ladd X19 hx (hb hby at_174) rfl ?_
        refine g_l2d X19 hx (hb hby at_175) rfl rfl ?_
        refine g_dstore (i := 15) X19 hx #[.val (.int p0), .val (.int p1), .val (.long p2), .second, .val (.int p3), .val (.ref a14), .val (.double (FP.i2d p0)), .second, .val (.double (FP.i2d p1)), .second, .val (.double (FP.l2d p2)), .second, .val (.double (FP.dneg (FP.l2d p2))), .second, .val (.int (p3 &&& (3 : Int32))), .val (.double (FP.l2d (p0.toInt64 + p1.toInt64))), .second] (hb hby at_176) rfl rfl ?_
        refine g_aload (i := 5) X19 hx (hb hby at_178) (by rfl) rfl rfl ?_
        have dv : FP.Core.DInt (p0.toInt + p1.toInt) (FP.dadd sv4 ev4) := own_dadd5 ds4 de4 (by omega) (by omega)
        refine g_callV X19 hx hZ hown (wd hw 18 rfl) (wd hw 19 rfl) (wd hw 21 rfl) (wd hw 20 rfl) (wd hw 2 rfl) (wd hw 22 rfl) (by decide) rfl a14 Ea4 (rm_v l Z a0 hw a14 sv4 ev4 T19.heap (own_nn dv) Fs4 Fe4) (by rw [hml]; rfl) [] [] rfl (lenOf pd_20 rfl) rfl (by show 0 + (1 + 11) + 0 ≤ _; decide) (by decide) (by decide) (by decide) (hb hby at_180) rfl ?_
        intro T20 v20 L20 X20 hQ20
        obtain ⟨rfl, rfl, e20⟩ := hQ20
        have N20 := Fr.app N19 (Fr.nil n0)
        show Goes p e below _ T20 (mkF m 183 #[.val (.int p0), .val (.int p1), .val (.long p2), .second, .val (.int p3), .val (.ref a14), .val (.double (FP.i2d p0)), .second, .val (.double (FP.i2d p1)), .second, .val (.double (FP.l2d p2)), .second, .val (.double (FP.dneg (FP.l2d p2))), .second, .val (.int (p3 &&& (3 : Int32))), .val (.double (FP.l2d (p0.toInt64 + p1.toInt64))), .second] [(.double (FP.dadd sv4 ev4))])
        refine g_dload (i := 15) X20 hx (hb hby at_183) (by rfl) rfl ?_
        refine g_dcmp X20 hx (hb hby at_185) (own_cmp dv hexp) rfl ?_
        refine g_if_ne X20 hx (hb hby at_186) (by decide) (pt := 193) (by decide) rfl (fun q_ => absurd (by decide) q_) (fun _ => ?_)
        refine g_iconst (v := (1 : Int32)) X20 hx (hb hby at_189) (by decide) rfl ?_
        refine g_goto X20 hx (hb hby at_190) (by decide) (by decide) (pc' := 194) ?_
        exact g_retN X20 hx (t := .boolean) (by simp) hlk hret e20 (by decide) (by decide) (hb hby at_194) ⟨rfl, N20⟩
      · refine g_aload (i := 5) X15 hx (hb hby at_111) (by rfl) rfl rfl ?_
        refine g_dload (i := 6) X15 hx (hb hby at_113) (by rfl) rfl ?_
        obtain ⟨S1, E1_, ds1, de1, q1, b1, ok1⟩ := own_add own_z0 d0 own_z0 (by omega) (by omega) (by omega) (by omega)
        refine g_callV X15 hx hZ hown (wd hw 9 rfl) (wd hw 10 rfl) (wd hw 12 rfl) (wd hw 11 rfl) (wd hw 2 rfl) (wd hw 13 rfl) (by decide) e15 a14 E14 (rm_add l Z a0 hw a14 (0 : UInt64) (FP.i2d p0) (0 : UInt64) h14 n0 ga ok1 E14 F14_sum F14_error) (by rw [hml]; rfl) [(.double (FP.i2d p0))] [] rfl (lenOf pd_16 rfl) rfl (by show 0 + (7 + 11) + 0 ≤ _; decide) (by decide) (by decide) (by decide) (hb hby at_115) rfl ?_
        intro T21 v21 L21 X21 hQ21
        obtain ⟨rfl, N21, Ea1, Fs1, Fe1⟩ := hQ21
        have N21 := Fr.app N15 N21
        show Goes p e below _ T21 (mkF m 118 #[.val (.int p0), .val (.int p1), .val (.long p2), .second, .val (.int p3), .val (.ref a14), .val (.double (FP.i2d p0)), .second, .val (.double (FP.i2d p1)), .second, .val (.double (FP.l2d p2)), .second, .val (.double (FP.dneg (FP.l2d p2))), .second, .val (.int (p3 &&& (3 : Int32))), .unset, .unset] [])
        revert ds1 de1 Fs1 Fe1
        generalize FP.dadd (0 : UInt64) (FP.i2d p0) = sv1
        generalize own_er (0 : UInt64) (FP.i2d p0) (0 : UInt64) = ev1
        intro ds1 de1 Fs1 Fe1
        refine g_aload (i := 5) X21 hx (hb hby at_118) (by rfl) rfl rfl ?_
        refine g_dload (i := 8) X21 hx (hb hby at_120) (by rfl) rfl ?_
        obtain ⟨S2, E2_, ds2, de2, q2, b2, ok2⟩ := own_add ds1 d1 de1 (by omega) (by omega) (by omega) (by omega)
        refine g_callV X21 hx hZ hown (wd hw 9 rfl) (wd hw 10 rfl) (wd hw 12 rfl) (wd hw 11 rfl) (wd hw 2 rfl) (wd hw 13 rfl) (by decide) rfl a14 Ea1 (rm_add l Z a0 hw a14 sv1 (FP.i2d p1) ev1 T21.heap n0 ga ok2 Ea1 Fs1 Fe1) (by rw [hml]; rfl) [(.double (FP.i2d p1))] [] rfl (lenOf pd_16 rfl) rfl (by show 0 + (7 + 11) + 0 ≤ _; decide) (by decide) (by decide) (by decide) (hb hby at_122) rfl ?_
        intro T22 v22 L22 X22 hQ22
        obtain ⟨rfl, N22, Ea2, Fs2, Fe2⟩ := hQ22
        have N22 := Fr.app N21 N22
        show Goes p e below _ T22 (mkF m 125 #[.val (.int p0), .val (.int p1), .val (.long p2), .second, .val (.int p3), .val (.ref a14), .val (.double (FP.i2d p0)), .second, .val (.double (FP.i2d p1)), .second, .val (.double (FP.l2d p2)), .second, .val (.double (FP.dneg (FP.l2d p2))), .second, .val (.int (p3 &&& (3 : Int32))), .unset, .unset] [])
        revert ds2 de2 Fs2 Fe2
        generalize FP.dadd sv1 (FP.i2d p1) = sv2
        generalize own_er sv1 (FP.i2d p1) ev1 = ev2
        intro ds2 de2 Fs2 Fe2
        refine g_aload (i := 5) X22 hx (hb hby at_125) (by rfl) rfl rfl ?_
        refine g_dload (i := 10) X22 hx (hb hby at_127) (by rfl) rfl ?_
        obtain ⟨S3, E3_, ds3, de3, q3, b3, ok3⟩ := own_add ds2 dp de2 (by omega) (by omega) (by omega) (by omega)
        refine g_callV X22 hx hZ hown (wd hw 9 rfl) (wd hw 10 rfl) (wd hw 12 rfl) (wd hw 11 rfl) (wd hw 2 rfl) (wd hw 13 rfl) (by decide) rfl a14 Ea2 (rm_add l Z a0 hw a14 sv2 (FP.l2d p2) ev2 T22.heap n0 ga ok3 Ea2 Fs2 Fe2) (by rw [hml]; rfl) [(.double (FP.l2d p2))] [] rfl (lenOf pd_16 rfl) rfl (by show 0 + (7 + 11) + 0 ≤ _; decide) (by decide) (by decide) (by decide) (hb hby at_129) rfl ?_
        intro T23 v23 L23 X23 hQ23
        obtain ⟨rfl, N23, Ea3, Fs3, Fe3⟩ := hQ23
        have N23 := Fr.app N22 N23
        show Goes p e below _ T23 (mkF m 132 #[.val (.int p0), .val (.int p1), .val (.long p2), .second, .val (.int p3), .val (.ref a14), .val (.double (FP.i2d p0)), .second, .val (.double (FP.i2d p1)), .second, .val (.double (FP.l2d p2)), .second, .val (.double (FP.dneg (FP.l2d p2))), .second, .val (.int (p3 &&& (3 : Int32))), .unset, .unset] [])
        revert ds3 de3 Fs3 Fe3
        generalize FP.dadd sv2 (FP.l2d p2) = sv3
        generalize own_er sv2 (FP.l2d p2) ev2 = ev3
        intro ds3 de3 Fs3 Fe3
        refine g_aload (i := 5) X23 hx (hb hby at_132) (by rfl) rfl rfl ?_
        refine g_dload (i := 12) X23 hx (hb hby at_134) (by rfl) rfl ?_
        obtain ⟨S4, E4_, ds4, de4, q4, b4, ok4⟩ := own_add ds3 dm de3 (by omega) (by omega) (by omega) (by omega)
        refine g_callV X23 hx hZ hown (wd hw 9 rfl) (wd hw 10 rfl) (wd hw 12 rfl) (wd hw 11 rfl) (wd hw 2 rfl) (wd hw 13 rfl) (by decide) rfl a14 Ea3 (rm_add l Z a0 hw a14 sv3 (FP.dneg (FP.l2d p2)) ev3 T23.heap n0 ga ok4 Ea3 Fs3 Fe3) (by rw [hml]; rfl) [(.double (FP.dneg (FP.l2d p2)))] [] rfl (lenOf pd_16 rfl) rfl (by show 0 + (7 + 11) + 0 ≤ _; decide) (by decide) (by decide) (by decide) (hb hby at_136) rfl ?_
        intro T24 v24 L24 X24 hQ24
        obtain ⟨rfl, N24, Ea4, Fs4, Fe4⟩ := hQ24
        have N24 := Fr.app N23 N24
        show Goes p e below _ T24 (mkF m 139 #[.val (.int p0), .val (.int p1), .val (.long p2), .second, .val (.int p3), .val (.ref a14), .val (.double (FP.i2d p0)), .second, .val (.double (FP.i2d p1)), .second, .val (.double (FP.l2d p2)), .second, .val (.double (FP.dneg (FP.l2d p2))), .second, .val (.int (p3 &&& (3 : Int32))), .unset, .unset] [])
        revert ds4 de4 Fs4 Fe4
        generalize FP.dadd sv3 (FP.dneg (FP.l2d p2)) = sv4
        generalize own_er sv3 (FP.dneg (FP.l2d p2)) ev3 = ev4
        intro ds4 de4 Fs4 Fe4
        refine g_goto X24 hx (hb hby at_139) (by decide) (by decide) (pc' := 170) ?_
        refine g_iload_n (i := 0) X24 hx (hb hby at_170) (by rfl) rfl ?_
        refine g_i2l X24 hx (hb hby at_171) rfl ?_
        refine g_iload_n (i := 1) X24 hx (hb hby at_172) (by rfl) rfl ?_
        refine g_i2l X24 hx (hb hby at_173) rfl ?_
        refine g_ladd X24 hx (hb hby at_174) rfl ?_
        refine g_l2d X24 hx (hb hby at_175) rfl rfl ?_
        refine g_dstore (i := 15) X24 hx #[.val (.int p0), .val (.int p1), .val (.long p2), .second, .val (.int p3), .val (.ref a14), .val (.double (FP.i2d p0)), .second, .val (.double (FP.i2d p1)), .second, .val (.double (FP.l2d p2)), .second, .val (.double (FP.dneg (FP.l2d p2))), .second, .val (.int (p3 &&& (3 : Int32))), .val (.double (FP.l2d (p0.toInt64 + p1.toInt64))), .second] (hb hby at_176) rfl rfl ?_
        refine g_aload (i := 5) X24 hx (hb hby at_178) (by rfl) rfl rfl ?_
        have dv : FP.Core.DInt (p0.toInt + p1.toInt) (FP.dadd sv4 ev4) := own_dadd5 ds4 de4 (by omega) (by omega)
        refine g_callV X24 hx hZ hown (wd hw 18 rfl) (wd hw 19 rfl) (wd hw 21 rfl) (wd hw 20 rfl) (wd hw 2 rfl) (wd hw 22 rfl) (by decide) rfl a14 Ea4 (rm_v l Z a0 hw a14 sv4 ev4 T24.heap (own_nn dv) Fs4 Fe4) (by rw [hml]; rfl) [] [] rfl (lenOf pd_20 rfl) rfl (by show 0 + (1 + 11) + 0 ≤ _; decide) (by decide) (by decide) (by decide) (hb hby at_180) rfl ?_
        intro T25 v25 L25 X25 hQ25
        obtain ⟨rfl, rfl, e25⟩ := hQ25
        have N25 := Fr.app N24 (Fr.nil n0)
        show Goes p e below _ T25 (mkF m 183 #[.val (.int p0), .val (.int p1), .val (.long p2), .second, .val (.int p3), .val (.ref a14), .val (.double (FP.i2d p0)), .second, .val (.double (FP.i2d p1)), .second, .val (.double (FP.l2d p2)), .second, .val (.double (FP.dneg (FP.l2d p2))), .second, .val (.int (p3 &&& (3 : Int32))), .val (.double (FP.l2d (p0.toInt64 + p1.toInt64))), .second] [(.double (FP.dadd sv4 ev4))])
        refine g_dload (i := 15) X25 hx (hb hby at_183) (by rfl) rfl ?_
        refine g_dcmp X25 hx (hb hby at_185) (own_cmp dv hexp) rfl ?_
        refine g_if_ne X25 hx (hb hby at_186) (by decide) (pt := 193) (by decide) rfl (fun q_ => absurd (by decide) q_) (fun _ => ?_)
        refine g_iconst (v := (1 : Int32)) X25 hx (hb hby at_189) (by decide) rfl ?_
        refine g_goto X25 hx (hb hby at_190) (by decide) (by decide) (pc' := 194) ?_
        exact g_retN X25 hx (t := .boolean) (by simp) hlk hret e25 (by decide) (by decide) (hb hby at_194) ⟨rfl, N25⟩
    · refine g_aload (i := 5) X15 hx (hb hby at_74) (by rfl) rfl rfl ?_
      refine g_dload (i := 10) X15 hx (hb hby at_76) (by rfl) rfl ?_
      obtain ⟨S1, E1_, ds1, de1, q1, b1, ok1⟩ := own_add own_z0 dp own_z0 (by omega) (by omega) (by omega) (by omega)
      refine g_callV X15 hx hZ hown (wd hw 9 rfl) (wd hw 10 rfl) (wd hw 12 rfl) (wd hw 11 rfl) (wd hw 2 rfl) (wd hw 13 rfl) (by decide) e15 a14 E14 (rm_add l Z a0 hw a14 (0 : UInt64) (FP.l2d p2) (0 : UInt64) h14 n0 ga ok1 E14 F14_sum F14_error) (by rw [hml]; rfl) [(.double (FP.l2d p2))] [] rfl (lenOf pd_16 rfl) rfl (by show 0 + (7 + 11) + 0 ≤ _; decide) (by decide) (by decide) (by decide) (hb hby at_78) rfl ?_
      intro T26 v26 L26 X26 hQ26
      obtain ⟨rfl, N26, Ea1, Fs1, Fe1⟩ := hQ26
      have N26 := Fr.app N15 N26
      show Goes p e below _ T26 (mkF m 81 #[.val (.int p0), .val (.int p1), .val (.long p2), .second, .val (.int p3), .val (.ref a14), .val (.double (FP.i2d p0)), .second, .val (.double (FP.i2d p1)), .second, .val (.double (FP.l2d p2)), .second, .val (.double (FP.dneg (FP.l2d p2))), .second, .val (.int (p3 &&& (3 : Int32))), .unset, .unset] [])
      revert ds1 de1 Fs1 Fe1
      generalize FP.dadd (0 : UInt64) (FP.l2d p2) = sv1
      generalize own_er (0 : UInt64) (FP.l2d p2) (0 : UInt64) = ev1
      intro ds1 de1 Fs1 Fe1
      refine g_aload (i := 5) X26 hx (hb hby at_81) (by rfl) rfl rfl ?_
      refine g_dload (i := 6) X26 hx (hb hby at_83) (by rfl) rfl ?_
      obtain ⟨S2, E2_, ds2, de2, q2, b2, ok2⟩ := own_add ds1 d0 de1 (by omega) (by omega) (by omega) (by omega)
      refine g_callV X26 hx hZ hown (wd hw 9 rfl) (wd hw 10 rfl) (wd hw 12 rfl) (wd hw 11 rfl) (wd hw 2 rfl) (wd hw 13 rfl) (by decide) rfl a14 Ea1 (rm_add l Z a0 hw a14 sv1 (FP.i2d p0) ev1 T26.heap n0 ga ok2 Ea1 Fs1 Fe1) (by rw [hml]; rfl) [(.double (FP.i2d p0))] [] rfl (lenOf pd_16 rfl) rfl (by show 0 + (7 + 11) + 0 ≤ _; decide) (by decide) (by decide) (by decide) (hb hby at_85) rfl ?_
      intro T27 v27 L27 X27 hQ27
      obtain ⟨rfl, N27, Ea2, Fs2, Fe2⟩ := hQ27
      have N27 := Fr.app N26 N27
      show Goes p e below _ T27 (mkF m 88 #[.val (.int p0), .val (.int p1), .val (.long p2), .second, .val (.int p3), .val (.ref a14), .val (.double (FP.i2d p0)), .second, .val (.double (FP.i2d p1)), .second, .val (.double (FP.l2d p2)), .second, .val (.double (FP.dneg (FP.l2d p2))), .second, .val (.int (p3 &&& (3 : Int32))), .unset, .unset] [])
      revert ds2 de2 Fs2 Fe2
      generalize FP.dadd sv1 (FP.i2d p0) = sv2
      generalize own_er sv1 (FP.i2d p0) ev1 = ev2
      intro ds2 de2 Fs2 Fe2
      refine g_aload (i := 5) X27 hx (hb hby at_88) (by rfl) rfl rfl ?_
      refine g_dload (i := 8) X27 hx (hb hby at_90) (by rfl) rfl ?_
      obtain ⟨S3, E3_, ds3, de3, q3, b3, ok3⟩ := own_add ds2 d1 de2 (by omega) (by omega) (by omega) (by omega)
      refine g_callV X27 hx hZ hown (wd hw 9 rfl) (wd hw 10 rfl) (wd hw 12 rfl) (wd hw 11 rfl) (wd hw 2 rfl) (wd hw 13 rfl) (by decide) rfl a14 Ea2 (rm_add l Z a0 hw a14 sv2 (FP.i2d p1) ev2 T27.heap n0 ga ok3 Ea2 Fs2 Fe2) (by rw [hml]; rfl) [(.double (FP.i2d p1))] [] rfl (lenOf pd_16 rfl) rfl (by show 0 + (7 + 11) + 0 ≤ _; decide) (by decide) (by decide) (by decide) (hb hby at_92) rfl ?_
      intro T28 v28 L28 X28 hQ28
      obtain ⟨rfl, N28, Ea3, Fs3, Fe3⟩ := hQ28
      have N28 := Fr.app N27 N28
      show Goes p e below _ T28 (mkF m 95 #[.val (.int p0), .val (.int p1), .val (.long p2), .second, .val (.int p3), .val (.ref a14), .val (.double (FP.i2d p0)), .second, .val (.double (FP.i2d p1)), .second, .val (.double (FP.l2d p2)), .second, .val (.double (FP.dneg (FP.l2d p2))), .second, .val (.int (p3 &&& (3 : Int32))), .unset, .unset] [])
      revert ds3 de3 Fs3 Fe3
      generalize FP.dadd sv2 (FP.i2d p1) = sv3
      generalize own_er sv2 (FP.i2d p1) ev2 = ev3
      intro ds3 de3 Fs3 Fe3
      refine g_aload (i := 5) X28 hx (hb hby at_95) (by rfl) rfl rfl ?_
      refine g_dload (i := 12) X28 hx (hb hby at_97) (by rfl) rfl ?_
      obtain ⟨S4, E4_, ds4, de4, q4, b4, ok4⟩ := own_add ds3 dm de3 (by omega) (by omega) (by omega) (by omega)
      refine g_callV X28 hx hZ hown (wd hw 9 rfl) (wd hw 10 rfl) (wd hw 12 rfl) (wd hw 11 rfl) (wd hw 2 rfl) (wd hw 13 rfl) (by decide) rfl a14 Ea3 (rm_add l Z a0 hw a14 sv3 (FP.dneg (FP.l2d p2)) ev3 T28.heap n0 ga ok4 Ea3 Fs3 Fe3) (by rw [hml]; rfl) [(.double (FP.dneg (FP.l2d p2)))] [] rfl (lenOf pd_16 rfl) rfl (by show 0 + (7 + 11) + 0 ≤ _; decide) (by decide) (by decide) (by decide) (hb hby at_99) rfl ?_
      intro T29 v29 L29 X29 hQ29
      obtain ⟨rfl, N29, Ea4, Fs4, Fe4⟩ := hQ29
      have N29 := Fr.app N28 N29
      show Goes p e below _ T29 (mkF m 102 #[.val (.int p0), .val (.int p1), .val (.long p2), .second, .val (.int p3), .val (.ref a14), .val (.double (FP.i2d p0)), .second, .val (.double (FP.i2d p1)), .second, .val (.double (FP.l2d p2)), .second, .val (.double (FP.dneg (FP.l2d p2))), .second, .val (.int (p3 &&& (3 : Int32))), .unset, .unset] [])
      revert ds4 de4 Fs4 Fe4
      generalize FP.dadd sv3 (FP.dneg (FP.l2d p2)) = sv4
      generalize own_er sv3 (FP.dneg (FP.l2d p2)) ev3 = ev4
      intro ds4 de4 Fs4 Fe4
      refine g_goto X29 hx (hb hby at_102) (by decide) (by decide) (pc' := 170) ?_
      refine g_iload_n (i := 0) X29 hx (hb hby at_170) (by rfl) rfl ?_
      refine g_i2l X29 hx (hb hby at_171) rfl ?_
      refine g_iload_n (i := 1) X29 hx (hb hby at_172) (by rfl) rfl ?_
      refine g_i2l X29 hx (hb hby at_173) rfl ?_
      refine g_ladd X29 hx (hb hby at_174) rfl ?_
      refine g_l2d X29 hx (hb hby at_175) rfl rfl ?_
      refine g_dstore (i := 15) X29 hx #[.val (.int p0), .val (.int p1), .val (.long p2), .second, .val (.int p3), .val (.ref a14), .val (.double (FP.i2d p0)), .second, .val (.double (FP.i2d p1)), .second, .val (.double (FP.l2d p2)), .second, .val (.double (FP.dneg (FP.l2d p2))), .second, .val (.int (p3 &&& (3 : Int32))), .val (.double (FP.l2d (p0.toInt64 + p1.toInt64))), .second] (hb hby at_176) rfl rfl ?_
      refine g_aload (i := 5) X29 hx (hb hby at_178) (by rfl) rfl rfl ?_
      have dv : FP.Core.DInt (p0.toInt + p1.toInt) (FP.dadd sv4 ev4) := own_dadd5 ds4 de4 (by omega) (by omega)
      refine g_callV X29 hx hZ hown (wd hw 18 rfl) (wd hw 19 rfl) (wd hw 21 rfl) (wd hw 20 rfl) (wd hw 2 rfl) (wd hw 22 rfl) (by decide) rfl a14 Ea4 (rm_v l Z a0 hw a14 sv4 ev4 T29.heap (own_nn dv) Fs4 Fe4) (by rw [hml]; rfl) [] [] rfl (lenOf pd_20 rfl) rfl (by show 0 + (1 + 11) + 0 ≤ _; decide) (by decide) (by decide) (by decide) (hb hby at_180) rfl ?_
      intro T30 v30 L30 X30 hQ30
      obtain ⟨rfl, rfl, e30⟩ := hQ30
      have N30 := Fr.app N29 (Fr.nil n0)
      show Goes p e below _ T30 (mkF m 183 #[.val (.int p0), .val (.int p1), .val (.long p2), .second, .val (.int p3), .val (.ref a14), .val (.double (FP.i2d p0)), .second, .val (.double (FP.i2d p1)), .second, .val (.double (FP.l2d p2)), .second, .val (.double (FP.dneg (FP.l2d p2))), .second, .val (.int (p3 &&& (3 : Int32))), .val (.double (FP.l2d (p0.toInt64 + p1.toInt64))), .second] [(.double (FP.dadd sv4 ev4))])
      refine g_dload (i := 15) X30 hx (hb hby at_183) (by rfl) rfl ?_
      refine g_dcmp X30 hx (hb hby at_185) (own_cmp dv hexp) rfl ?_
      refine g_if_ne X30 hx (hb hby at_186) (by decide) (pt := 193) (by decide) rfl (fun q_ => absurd (by decide) q_) (fun _ => ?_)
      refine g_iconst (v := (1 : Int32)) X30 hx (hb hby at_189) (by decide) rfl ?_
      refine g_goto X30 hx (hb hby at_190) (by decide) (by decide) (pc' := 194) ?_
      exact g_retN X30 hx (t := .boolean) (by simp) hlk hret e30 (by decide) (by decide) (hb hby at_194) ⟨rfl, N30⟩
  · refine g_aload (i := 5) X15 hx (hb hby at_37) (by rfl) rfl rfl ?_
    refine g_dload (i := 6) X15 hx (hb hby at_39) (by rfl) rfl ?_
    obtain ⟨S1, E1_, ds1, de1, q1, b1, ok1⟩ := own_add own_z0 d0 own_z0 (by omega) (by omega) (by omega) (by omega)
    refine g_callV X15 hx hZ hown (wd hw 9 rfl) (wd hw 10 rfl) (wd hw 12 rfl) (wd hw 11 rfl) (wd hw 2 rfl) (wd hw 13 rfl) (by decide) e15 a14 E14 (rm_add l Z a0 hw a14 (0 : UInt64) (FP.i2d p0) (0 : UInt64) h14 n0 ga ok1 E14 F14_sum F14_error) (by rw [hml]; rfl) [(.double (FP.i2d p0))] [] rfl (lenOf pd_16 rfl) rfl (by show 0 + (7 + 11) + 0 ≤ _; decide) (by decide) (by decide) (by decide) (hb hby at_41) rfl ?_
    intro T31 v31 L31 X31 hQ31
    obtain ⟨rfl, N31, Ea1, Fs1, Fe1⟩ := hQ31
    have N31 := Fr.app N15 N31
    show Goes p e below _ T31 (mkF m 44 #[.val (.int p0), .val (.int p1), .val (.long p2), .second, .val (.int p3), .val (.ref a14), .val (.double (FP.i2d p0)), .second, .val (.double (FP.i2d p1)), .second, .val (.double (FP.l2d p2)), .second, .val (.double (FP.dneg (FP.l2d p2))), .second, .val (.int (p3 &&& (3 : Int32))), .unset, .unset] [])
    revert ds1 de1 Fs1 Fe1
    generalize FP.dadd (0 : UInt64) (FP.i2d p0) = sv1
    generalize own_er (0 : UInt64) (FP.i2d p0) (0 : UInt64) = ev1
    intro ds1 de1 Fs1 Fe1
    refine g_aload (i := 5) X31 hx (hb hby at_44) (by rfl) rfl rfl ?_
    refine g_dload (i := 10) X31 hx (hb hby at_46) (by rfl) rfl ?_
    obtain ⟨S2, E2_, ds2, de2, q2, b2, ok2⟩ := own_add ds1 dp de1 (by omega) (by omega) (by omega) (by omega)
    refine g_callV X31 hx hZ hown (wd hw 9 rfl) (wd hw 10 rfl) (wd hw 12 rfl) (wd hw 11 rfl) (wd hw 2 rfl) (wd hw 13 rfl) (by decide) rfl a14 Ea1 (rm_add l Z a0 hw a14 sv1 (FP.l2d p2) ev1 T31.heap n0 ga ok2 Ea1 Fs1 Fe1) (by rw [hml]; rfl) [(.double (FP.l2d p2))] [] rfl (lenOf pd_16 rfl) rfl (by show 0 + (7 + 11) + 0 ≤ _; decide) (by decide) (by decide) (by decide) (hb hby at_48) rfl ?_
    intro T32 v32 L32 X32 hQ32
    obtain ⟨rfl, N32, Ea2, Fs2, Fe2⟩ := hQ32
    have N32 := Fr.app N31 N32
    show Goes p e below _ T32 (mkF m 51 #[.val (.int p0), .val (.int p1), .val (.long p2), .second, .val (.int p3), .val (.ref a14), .val (.double (FP.i2d p0)), .second, .val (.double (FP.i2d p1)), .second, .val (.double (FP.l2d p2)), .second, .val (.double (FP.dneg (FP.l2d p2))), .second, .val (.int (p3 &&& (3 : Int32))), .unset, .unset] [])
    revert ds2 de2 Fs2 Fe2
    generalize FP.dadd sv1 (FP.l2d p2) = sv2
    generalize own_er sv1 (FP.l2d p2) ev1 = ev2
    intro ds2 de2 Fs2 Fe2
    refine g_aload (i := 5) X32 hx (hb hby at_51) (by rfl) rfl rfl ?_
    refine g_dload (i := 8) X32 hx (hb hby at_53) (by rfl) rfl ?_
    obtain ⟨S3, E3_, ds3, de3, q3, b3, ok3⟩ := own_add ds2 d1 de2 (by omega) (by omega) (by omega) (by omega)
    refine g_callV X32 hx hZ hown (wd hw 9 rfl) (wd hw 10 rfl) (wd hw 12 rfl) (wd hw 11 rfl) (wd hw 2 rfl) (wd hw 13 rfl) (by decide) rfl a14 Ea2 (rm_add l Z a0 hw a14 sv2 (FP.i2d p1) ev2 T32.heap n0 ga ok3 Ea2 Fs2 Fe2) (by rw [hml]; rfl) [(.double (FP.i2d p1))] [] rfl (lenOf pd_16 rfl) rfl (by show 0 + (7 + 11) + 0 ≤ _; decide) (by decide) (by decide) (by decide) (hb hby at_55) rfl ?_
    intro T33 v33 L33 X33 hQ33
    obtain ⟨rfl, N33, Ea3, Fs3, Fe3⟩ := hQ33
    have N33 := Fr.app N32 N33
    show Goes p e below _ T33 (mkF m 58 #[.val (.int p0), .val (.int p1), .val (.long p2), .second, .val (.int p3), .val (.ref a14), .val (.double (FP.i2d p0)), .second, .val (.double (FP.i2d p1)), .second, .val (.double (FP.l2d p2)), .second, .val (.double (FP.dneg (FP.l2d p2))), .second, .val (.int (p3 &&& (3 : Int32))), .unset, .unset] [])
    revert ds3 de3 Fs3 Fe3
    generalize FP.dadd sv2 (FP.i2d p1) = sv3
    generalize own_er sv2 (FP.i2d p1) ev2 = ev3
    intro ds3 de3 Fs3 Fe3
    refine g_aload (i := 5) X33 hx (hb hby at_58) (by rfl) rfl rfl ?_
    refine g_dload (i := 12) X33 hx (hb hby at_60) (by rfl) rfl ?_
    obtain ⟨S4, E4_, ds4, de4, q4, b4, ok4⟩ := own_add ds3 dm de3 (by omega) (by omega) (by omega) (by omega)
    refine g_callV X33 hx hZ hown (wd hw 9 rfl) (wd hw 10 rfl) (wd hw 12 rfl) (wd hw 11 rfl) (wd hw 2 rfl) (wd hw 13 rfl) (by decide) rfl a14 Ea3 (rm_add l Z a0 hw a14 sv3 (FP.dneg (FP.l2d p2)) ev3 T33.heap n0 ga ok4 Ea3 Fs3 Fe3) (by rw [hml]; rfl) [(.double (FP.dneg (FP.l2d p2)))] [] rfl (lenOf pd_16 rfl) rfl (by show 0 + (7 + 11) + 0 ≤ _; decide) (by decide) (by decide) (by decide) (hb hby at_62) rfl ?_
    intro T34 v34 L34 X34 hQ34
    obtain ⟨rfl, N34, Ea4, Fs4, Fe4⟩ := hQ34
    have N34 := Fr.app N33 N34
    show Goes p e below _ T34 (mkF m 65 #[.val (.int p0), .val (.int p1), .val (.long p2), .second, .val (.int p3), .val (.ref a14), .val (.double (FP.i2d p0)), .second, .val (.double (FP.i2d p1)), .second, .val (.double (FP.l2d p2)), .second, .val (.double (FP.dneg (FP.l2d p2))), .second, .val (.int (p3 &&& (3 : Int32))), .unset, .unset] [])
    revert ds4 de4 Fs4 Fe4
    generalize FP.dadd sv3 (FP.dneg (FP.l2d p2)) = sv4
    generalize own_er sv3 (FP.dneg (FP.l2d p2)) ev3 = ev4
    intro ds4 de4 Fs4 Fe4
    refine g_goto X34 hx (hb hby at_65) (by decide) (by decide) (pc' := 170) ?_
    refine g_iload_n (i := 0) X34 hx (hb hby at_170) (by rfl) rfl ?_
    refine g_i2l X34 hx (hb hby at_171) rfl ?_
    refine g_iload_n (i := 1) X34 hx (hb hby at_172) (by rfl) rfl ?_
    refine g_i2l X34 hx (hb hby at_173) rfl ?_
    refine g_ladd X34 hx (hb hby at_174) rfl ?_
    refine g_l2d X34 hx (hb hby at_175) rfl rfl ?_
    refine g_dstore (i := 15) X34 hx #[.val (.int p0), .val (.int p1), .val (.long p2), .second, .val (.int p3), .val (.ref a14), .val (.double (FP.i2d p0)), .second, .val (.double (FP.i2d p1)), .second, .val (.double (FP.l2d p2)), .second, .val (.double (FP.dneg (FP.l2d p2))), .second, .val (.int (p3 &&& (3 : Int32))), .val (.double (FP.l2d (p0.toInt64 + p1.toInt64))), .second] (hb hby at_176) rfl rfl ?_
    refine g_aload (i := 5) X34 hx (hb hby at_178) (by rfl) rfl rfl ?_
    have dv : FP.Core.DInt (p0.toInt + p1.toInt) (FP.dadd sv4 ev4) := own_dadd5 ds4 de4 (by omega) (by omega)
    refine g_callV X34 hx hZ hown (wd hw 18 rfl) (wd hw 19 rfl) (wd hw 21 rfl) (wd hw 20 rfl) (wd hw 2 rfl) (wd hw 22 rfl) (by decide) rfl a14 Ea4 (rm_v l Z a0 hw a14 sv4 ev4 T34.heap (own_nn dv) Fs4 Fe4) (by rw [hml]; rfl) [] [] rfl (lenOf pd_20 rfl) rfl (by show 0 + (1 + 11) + 0 ≤ _; decide) (by decide) (by decide) (by decide) (hb hby at_180) rfl ?_
    intro T35 v35 L35 X35 hQ35
    obtain ⟨rfl, rfl, e35⟩ := hQ35
    have N35 := Fr.app N34 (Fr.nil n0)
    show Goes p e below _ T35 (mkF m 183 #[.val (.int p0), .val (.int p1), .val (.long p2), .second, .val (.int p3), .val (.ref a14), .val (.double (FP.i2d p0)), .second, .val (.double (FP.i2d p1)), .second, .val (.double (FP.l2d p2)), .second, .val (.double (FP.dneg (FP.l2d p2))), .second, .val (.int (p3 &&& (3 : Int32))), .val (.double (FP.l2d (p0.toInt64 + p1.toInt64))), .second] [(.double (FP.dadd sv4 ev4))])
    refine g_dload (i := 15) X35 hx (hb hby at_183) (by rfl) rfl ?_
    refine g_dcmp X35 hx (hb hby at_185) (own_cmp dv hexp) rfl ?_
    refine g_if_ne X35 hx (hb hby at_186) (by decide) (pt := 193) (by decide) rfl (fun q_ => absurd (by decide) q_) (fun _ => ?_)
    refine g_iconst (v := (1 : Int32)) X35 hx (hb hby at_189) (by decide) rfl ?_
    refine g_goto X35 hx (hb hby at_190) (by decide) (by decide) (pc' := 194) ?_
    exact g_retN X35 hx (t := .boolean) (by simp) hlk hret e35 (by decide) (by decide) (hb hby at_194) ⟨rfl, N35⟩
set_option maxRecDepth 65536 in
set_option maxHeartbeats 40000000 in
theorem comes_1 {Post : Tables → Env → Array Value → State → Outcome → State → Prop} (hpost : ∀ tb e args s v u, (limb_1_1.after args s (.returned v) u = true ∧ limb_1_2.after args s (.returned v) u = true ∧ True) → FrameEnd s (.returned v) u (Jvm.fieldLocs frame_1_writes args s ++ Jvm.arrayLocs frame_1_arrays args s ++ Jvm.staticLocs frame_1_statics s) 16 128 → Post tb e args s (.returned v) u) :
    ArmFor flags0 classFile x code maxLocals ret World_1 tables_1 room_1 Calls_1 rest_1 Pre_1 Post := by
  intro l hfl _ _ p e ha hc hk s m args below hf hA hF happ hP
  obtain ⟨hcalls, hrest, hpre⟩ := hP
  obtain ⟨-, -, -, hnamed, -, -, -, hat⟩ := (Spec.applies_iff hf).mp happ
  obtain ⟨hg, hn⟩ := and_e (Cond.before_iff.mp (show (Jvm.Cond.and given_1 narrow_1).before args s = true from hpre))
  obtain ⟨hcnt, hg0⟩ := and_e hg
  obtain ⟨w0, w1, w2, w3, rfl⟩ : ∃ w0 w1 w2 w3 : Value, args = #[w0, w1, w2, w3] := by
    have hs : args.size = 4 := by simpa [Cond.value, given_1] using hcnt
    obtain ⟨L⟩ := args
    match L, hs with
    | [w0, w1, w2, w3], _ => exact ⟨w0, w1, w2, w3, rfl⟩
  have hw := fun d (hd : d ∈ tables_1) => atoms_spec (ws := Jvm.Cond.code x code maxLocals ret :: tables_1) hat d (List.mem_cons_of_mem _ hd)
  have hfit : Fit s := fun {y c} hc i hi => by
    obtain ⟨ha, rfl⟩ := Array.getElem?_eq_some_iff.mp hc
    have q := List.all_eq_true.mp ((Array.all_eq_true_iff_forall_mem.mp hF) _ (Array.getElem_mem ha)) i (List.mem_range.mpr hi)
    simpa [Array.getElem?_eq_getElem hi] using q
  obtain ⟨ha0, hg1⟩ := and_e hg0
  obtain ⟨i0, q0⟩ := is_v ha0
  obtain rfl : w0 = (.int i0) := Option.some.inj q0
  obtain ⟨ha1, hg2⟩ := and_e hg1
  obtain ⟨i1, q1⟩ := is_v ha1
  obtain rfl : w1 = (.int i1) := Option.some.inj q1
  obtain ⟨ha2, hg3⟩ := and_e hg2
  obtain ⟨i2, q2⟩ := isL_v ha2
  obtain rfl : w2 = (.long i2) := Option.some.inj q2
  obtain ⟨i3, q3⟩ := is_v hg3
  obtain rfl : w3 = (.int i3) := Option.some.inj q3
  obtain ⟨n, o, h1, h2, h3, _, L, rfl, ⟨rfl, N⟩, hq⟩ := rm0 l s _ hw i0 i1 i2 i3 s.heap s.heap.size (Nat.le_refl _) p e ha hc hk s m _ below hf ((Spec.applies_iff_loose hf).mp happ).1 ⟨rfl, State.Warmed39.refl s, rfl⟩ trivial
  refine ⟨n, _, h1, h2, h3, hpost _ _ _ _ _ _ ⟨Cond.after_iff.mpr rfl, Cond.after_iff.mpr (eq_i res_at (Term.int_eval (1)) rfl), trivial⟩ ⟨hq.1, hq.2.1, (hq.2.2.sift fun y hy => Or.inr (N y hy)).mono (by decide) (by decide)⟩⟩
theorem main_1_1 : Claimed_1_1 := comes_1 fun _ _ _ _ _ _ h hF => ⟨h.1, hF⟩
theorem main_1_2 : Claimed_1_2 := comes_1 fun _ _ _ _ _ _ h hF => ⟨h.2.1, hF⟩
end Jvm.Pilot.@@N@@
namespace Jvm.Pilot.@@N@@
open Jvm Jvm.ClassFile Sem Op Lib Jvm.Free Jvm.Stand Jvm.Pilot.@@N@@.Jvm.D
/-! MADE BY PROGRAM (witnessworld.py) out of the Statement's table words and the real class files: 9 classes; the members and pool entries that the words name. The judged class is class 1, her method 1. -/
namespace start1
open Jvm.ClassFile
def u (s : String) : CpInfo := .utf8 (stringToUtf16 s)
/-- a pool by its gaps: so many unusable entries, then the entry; so many at the end -/
def gap : Nat → List CpInfo → List CpInfo
  | 0, r => r
  | n + 1, r => .unusable :: gap n r
def poolList (es : List (Nat × CpInfo)) (last : Nat) : List CpInfo := es.foldr (fun e r => gap e.1 (e.2 :: r)) (gap last [])
def pool (es : List (Nat × CpInfo)) (last : Nat) : Array CpInfo := ⟨poolList es last⟩
def fileOf (pool : Array CpInfo) (this : Nat) (attrs : Array Attribute := #[]) (ms : Array MethodInfo := #[]) (fl : Nat := 33) (sup : Nat := 0) (ifs : Array Nat := #[]) (fds : Array FieldInfo := #[]) : ClassFile where
  minorVersion := 0
  majorVersion := 65
  constantPool := pool
  accessFlags := fl
  thisClass := this
  superClass := sup
  interfaces := ifs
  fields := fds
  methods := ms
  attributes := attrs
def plain (name : String) (sup : Option ClassId) : Class where
  name := name
  kind := .ordinary
  loader := none
  accessFlags := 33
  super := sup
  interfaces := #[]
  cf := none
  fields := #[]
  methods := #[]
  instanceTypes := #[]
  staticTypes := #[]
  resolved := #[]
  callSites := []
  init := .initialized
  statics := none
  mirror := none

def pool0 : Array CpInfo := pool [(5, u "<init>"), (0, u "()V"), (1, .class_ 10), (1, u "java/lang/Object")] 113

def k0c0 : Code := { maxStack := 0, maxLocals := 1, code := object_method_1_code, exceptionTable := #[], attributes := #[] }
def k0m0 : Method := { name := "<init>", desc := "()V", sig := { parameters := [], returnType := none }, accessFlags := 1, code := some k0c0 }
/-- java/lang/Object -/
def k0 : Class := { plain "java/lang/Object" none with
  accessFlags := 33
  interfaces := #[]
  cf := some (fileOf pool0 8 #[] #[{ accessFlags := 1, nameIndex := 5, descriptorIndex := 6, attributes := #[] }] 33 0 #[] #[])
  fields := #[]
  methods := #[k0m0]
  instanceTypes := #[]
  staticTypes := #[]
  resolved := Array.replicate 124 none
  statics := none }

def pool1 : Array CpInfo := pool [(2, .class_ 4), (0, .nameAndType 5 6), (0, u "java/lang/Object"), (0, u "<init>"), (0, u "()V"), (0, .class_ 8), (0, u "com/example/link_importance/linkimportance/rank/RunningSum"), (0, .methodref 7 3), (0, .methodref 7 11), (0, .nameAndType 12 13), (0, u "add"), (0, u "(D)V"), (0, .methodref 7 15), (0, .nameAndType 16 17), (0, u "value"), (0, u "()D"), (0, .class_ 19), (0, u "com/example/link_importance/linkimportance/rank/RunningSumAddPinLaw"), (2, u "law"), (0, u "(IIJI)Z")] 3

def k1m0 : Method := { name := "<init>", desc := "()V", sig := { parameters := [], returnType := none }, accessFlags := 1, code := none }
def k1c1 : Code := { maxStack := 4, maxLocals := 17, code := code, exceptionTable := #[], attributes := #[] }
def k1m1 : Method := { name := "law", desc := "(IIJI)Z", sig := { parameters := [.int, .int, .long, .int], returnType := some .boolean }, accessFlags := 9, code := some k1c1 }
/-- com/example/link_importance/linkimportance/rank/RunningSumAddPinLaw -/
def k1 : Class := { plain "com/example/link_importance/linkimportance/rank/RunningSumAddPinLaw" (some 0) with
  accessFlags := 49
  interfaces := #[]
  cf := some (fileOf pool1 18 #[] #[{ accessFlags := 1, nameIndex := 5, descriptorIndex := 6, attributes := #[] }, { accessFlags := 9, nameIndex := 22, descriptorIndex := 23, attributes := #[] }] 49 2 #[] #[])
  fields := #[]
  methods := #[k1m0, k1m1]
  instanceTypes := #[]
  staticTypes := #[]
  resolved := Array.replicate 27 none
  statics := none }

def pool2 : Array CpInfo := pool [(1, .methodref 2 3), (0, .class_ 4), (0, .nameAndType 5 6), (0, u "java/lang/Object"), (0, u "<init>"), (0, u "()V"), (0, .fieldref 8 9), (0, .class_ 10), (0, .nameAndType 11 12), (0, u "com/example/link_importance/linkimportance/rank/RunningSum"), (0, u "sum"), (0, u "D"), (0, .fieldref 8 14), (0, .nameAndType 15 12), (0, u "error"), (2, u "add"), (0, u "(D)V"), (0, u "value"), (0, u "()D")] 2

def k2c0 : Code := { maxStack := 1, maxLocals := 1, code := prog_57_method_1_code, exceptionTable := #[], attributes := #[] }
def k2m0 : Method := { name := "<init>", desc := "()V", sig := { parameters := [], returnType := none }, accessFlags := 0, code := some k2c0 }
def k2c1 : Code := { maxStack := 9, maxLocals := 7, code := prog_57_method_2_code, exceptionTable := #[], attributes := #[] }
def k2m1 : Method := { name := "add", desc := "(D)V", sig := { parameters := [.double], returnType := none }, accessFlags := 0, code := some k2c1 }
def k2c2 : Code := { maxStack := 4, maxLocals := 1, code := prog_57_method_3_code, exceptionTable := #[], attributes := #[] }
def k2m2 : Method := { name := "value", desc := "()D", sig := { parameters := [], returnType := some .double }, accessFlags := 0, code := some k2c2 }
/-- com/example/link_importance/linkimportance/rank/RunningSum -/
def k2 : Class := { plain "com/example/link_importance/linkimportance/rank/RunningSum" (some 0) with
  accessFlags := 32
  interfaces := #[]
  cf := some (fileOf pool2 8 #[] #[{ accessFlags := 0, nameIndex := 5, descriptorIndex := 6, attributes := #[] }, { accessFlags := 0, nameIndex := 18, descriptorIndex := 19, attributes := #[] }, { accessFlags := 0, nameIndex := 20, descriptorIndex := 21, attributes := #[] }] 32 2 #[] #[{ accessFlags := 2, nameIndex := 11, descriptorIndex := 12, attributes := #[] }, { accessFlags := 2, nameIndex := 15, descriptorIndex := 12, attributes := #[] }])
  fields := #[{ name := "sum", type := .double, accessFlags := 2, slot := 0, constantValue := 0 }, { name := "error", type := .double, accessFlags := 2, slot := 1, constantValue := 0 }]
  methods := #[k2m0, k2m1, k2m2]
  instanceTypes := #[.double, .double]
  staticTypes := #[]
  resolved := Array.replicate 24 none
  statics := none }

def pool3 : Array CpInfo := pool [(1, u "java/lang/Cloneable"), (0, .class_ 1), (0, u "java/lang/Object"), (0, .class_ 3)] 3

/-- java/lang/Cloneable -/
def k3 : Class := { plain "java/lang/Cloneable" (some 0) with
  accessFlags := 1537
  interfaces := #[]
  cf := some (fileOf pool3 2 #[] #[] 1537 4 #[] #[])
  fields := #[]
  methods := #[]
  instanceTypes := #[]
  staticTypes := #[]
  resolved := Array.replicate 8 none
  statics := none }

def pool4 : Array CpInfo := pool [(1, u "java/io/Serializable"), (0, .class_ 1), (0, u "java/lang/Object"), (0, .class_ 3)] 3

/-- java/io/Serializable -/
def k4 : Class := { plain "java/io/Serializable" (some 0) with
  accessFlags := 1537
  interfaces := #[]
  cf := some (fileOf pool4 2 #[] #[] 1537 4 #[] #[])
  fields := #[]
  methods := #[]
  instanceTypes := #[]
  staticTypes := #[]
  resolved := Array.replicate 8 none
  statics := none }

/-- the primitive byte -/
def k5 : Class := { plain "byte" none with kind := .primitive 'B', accessFlags := 0x411 }
/-- [B -/
def k6 : Class := { plain "[B" (some 0) with kind := .array 5 .byte, interfaces := #[3, 4], accessFlags := 1041 }

/-- the primitive int -/
def k7 : Class := { plain "int" none with kind := .primitive 'I', accessFlags := 0x411 }
/-- [I -/
def k8 : Class := { plain "[I" (some 0) with kind := .array 7 .int, interfaces := #[3, 4], accessFlags := 1041 }

def heap : Heap := #[]
def classes : Array Class := #[k0, k1, k2, k3, k4, k5, k6, k7, k8]
def interned : List (Array UInt16 × Addr) := []
def slotsUsed : Nat := 0
def theMethod : MethodId := ⟨1, 1⟩
def args0 : Array Value := #[.int 5, .int 3, .long 4, .int 1]
def aboutOver (below : List Frame) : State where
  vm := { classes := classes, interned := interned.toArray }
  heap := heap
  slotsUsed := slotsUsed
  threads := #[{ frames := .invoking theMethod args0 :: below }]
def below0 : List Frame := [.native { method := ⟨0, 0⟩, args := #[] }]
def about1 : State := aboutOver below0
def p0 : Program := .bare "" "" ""
def e0 : Env := launch0.env 0 0 0
theorem w_frames : about1.frames = Frame.invoking theMethod args0 :: below0 := rfl
set_option maxRecDepth 65536 in
theorem w_args : argsFit about1.vm theMethod args0 = true := by decide +kernel
set_option maxRecDepth 65536 in
theorem w_heap : heapFits about1 = true := by decide +kernel
set_option maxRecDepth 65536 in
theorem w_runnable : about1.curStatus? = some .runnable := by decide +kernel
set_option maxRecDepth 65536 in
theorem w_alone : about1.alone = true := by decide +kernel
set_option maxRecDepth 65536 in
theorem w_named : about1.methodNamed? x = some theMethod := by decide +kernel
set_option maxRecDepth 65536 in
theorem w_hears : about1.hears theMethod below0 = true := by decide +kernel
set_option maxRecDepth 65536 in
theorem w_ripe : about1.ripe theMethod args0 below0 = true := by decide +kernel
theorem w_running : about1.status = .running := rfl
set_option maxRecDepth 65536 in
theorem w_room : about1.hasRoom e0.platform room_1 = true :=
  launch0.hasRoom_least _ room_1 (by decide +kernel) (by decide +kernel) (by decide +kernel) (by decide +kernel) (by decide +kernel) (by decide +kernel)
theorem allAtoms_all (ts : List Jvm.Cond) (a : Array Jvm.Value) (st : Jvm.State) : (allAtoms ts).before a st = ts.all (fun c => c.before a st) := by
  induction ts with
  | nil => rfl
  | cons c t ih =>
    show (Jvm.Cond.and c (allAtoms t)).before a st = _
    rw [Jvm.Cond.before_and, ih, List.all_cons]
def words1 : List Jvm.Cond := Jvm.Cond.code x code maxLocals ret :: tables_1
/-- a 'code' word, met by the world's own term for the bytes: nothing is compared byte by byte -/
theorem code_word {y : MethodName} {bytes : ByteArray} {mx : Nat} {rt : Option FieldType} {a : Array Value} {s : State} {m : MethodId} {meth : Method} {c : Code} (h1 : s.methodNamed? y = some m) (h2 : s.vm.method? m = some meth) (h3 : meth.code = some c) (h4 : c.code = bytes)
    (h5 : (c.maxLocals == mx && c.exceptionTable.isEmpty && decide (c.maxStack ≤ mostOperands) && decide (meth.sig.returnType = rt) && !meth.locks && decide (parseMethodDescriptor y.desc = some meth.sig)) = true) : (Jvm.Cond.code y bytes mx rt).before a s = true := by
  simp only [Bool.and_eq_true, beq_iff_eq, Bool.not_eq_true', decide_eq_true_eq] at h5
  obtain ⟨⟨⟨⟨⟨g1, g2⟩, g3⟩, g4⟩, g5⟩, g6⟩ := h5
  simp [Cond.before, Cond.holds, Cond.value, h1, h2, h3, h4, g1, g2, g3, g4, g5, g6]
def isCode : Jvm.Cond → Bool
  | .code _ _ _ _ => true
  | _ => false
theorem all_split {L : List Jvm.Cond} {P : Jvm.Cond → Bool} (h1 : L.all (fun c => isCode c || P c) = true) (h2 : ∀ c ∈ L.filter isCode, P c = true) : L.all P = true := by
  refine List.all_eq_true.mpr fun c hc => ?_
  have h := List.all_eq_true.mp h1 c hc
  rcases Bool.eq_false_or_eq_true (isCode c) with hi | hi
  · exact h2 c (List.mem_filter.mpr ⟨hc, hi⟩)
  · simpa [hi] using h
set_option maxRecDepth 65536 in
theorem w_c0 : (Jvm.Cond.code x code maxLocals ret).before args0 about1 = true := code_word (m := ⟨1, 1⟩) (meth := k1m1) (c := k1c1) (by decide +kernel) rfl rfl rfl (by decide +kernel)
set_option maxRecDepth 65536 in
theorem w_c1 : (Jvm.Cond.code ({ cls := "com/example/link_importance/linkimportance/rank/RunningSum", name := "<init>", desc := "()V" } : Jvm.MethodName) prog_57_method_1_code (1 : Nat) (Option.none : Option Jvm.ClassFile.FieldType)).before args0 about1 = true := code_word (m := ⟨2, 0⟩) (meth := k2m0) (c := k2c0) (by decide +kernel) rfl rfl rfl (by decide +kernel)
set_option maxRecDepth 65536 in
theorem w_c2 : (Jvm.Cond.code ({ cls := "java/lang/Object", name := "<init>", desc := "()V" } : Jvm.MethodName) object_method_1_code (1 : Nat) (Option.none : Option Jvm.ClassFile.FieldType)).before args0 about1 = true := code_word (m := ⟨0, 0⟩) (meth := k0m0) (c := k0c0) (by decide +kernel) rfl rfl rfl (by decide +kernel)
set_option maxRecDepth 65536 in
theorem w_c3 : (Jvm.Cond.code ({ cls := "com/example/link_importance/linkimportance/rank/RunningSum", name := "add", desc := "(D)V" } : Jvm.MethodName) prog_57_method_2_code (7 : Nat) (Option.none : Option Jvm.ClassFile.FieldType)).before args0 about1 = true := code_word (m := ⟨2, 1⟩) (meth := k2m1) (c := k2c1) (by decide +kernel) rfl rfl rfl (by decide +kernel)
set_option maxRecDepth 65536 in
theorem w_c4 : (Jvm.Cond.code ({ cls := "com/example/link_importance/linkimportance/rank/RunningSum", name := "value", desc := "()D" } : Jvm.MethodName) prog_57_method_3_code (1 : Nat) (Option.some Jvm.ClassFile.FieldType.double)).before args0 about1 = true := code_word (m := ⟨2, 2⟩) (meth := k2m2) (c := k2c2) (by decide +kernel) rfl rfl rfl (by decide +kernel)
def codes1 : List Jvm.Cond := [Jvm.Cond.code x code maxLocals ret, Jvm.Cond.code ({ cls := "com/example/link_importance/linkimportance/rank/RunningSum", name := "<init>", desc := "()V" } : Jvm.MethodName) prog_57_method_1_code (1 : Nat) (Option.none : Option Jvm.ClassFile.FieldType), Jvm.Cond.code ({ cls := "java/lang/Object", name := "<init>", desc := "()V" } : Jvm.MethodName) object_method_1_code (1 : Nat) (Option.none : Option Jvm.ClassFile.FieldType), Jvm.Cond.code ({ cls := "com/example/link_importance/linkimportance/rank/RunningSum", name := "add", desc := "(D)V" } : Jvm.MethodName) prog_57_method_2_code (7 : Nat) (Option.none : Option Jvm.ClassFile.FieldType), Jvm.Cond.code ({ cls := "com/example/link_importance/linkimportance/rank/RunningSum", name := "value", desc := "()D" } : Jvm.MethodName) prog_57_method_3_code (1 : Nat) (Option.some Jvm.ClassFile.FieldType.double)]
set_option maxRecDepth 65536 in
theorem codes_eq : words1.filter isCode = codes1 := rfl
theorem w_codes : ∀ c ∈ words1.filter isCode, c.before args0 about1 = true := by
  rw [codes_eq]
  intro c hc
  simp only [codes1, List.mem_cons, List.not_mem_nil, or_false] at hc
  rcases hc with rfl | rfl | rfl | rfl | rfl
  · exact w_c0
  · exact w_c1
  · exact w_c2
  · exact w_c3
  · exact w_c4
set_option maxRecDepth 65536 in
theorem w_t1 : words1.all (fun c => isCode c || c.before args0 about1) = true := by decide +kernel
theorem w_tables : (allAtoms (Jvm.Cond.code x code maxLocals ret :: tables_1)).before args0 about1 = true := by
  rw [allAtoms_all]
  show words1.all (fun c => c.before args0 about1) = true
  refine all_split ?_ w_codes
  rw [w_t1]
set_option maxRecDepth 65536 in
theorem w_case : (Jvm.Cond.and given_1 narrow_1).before args0 about1 = true := by decide +kernel
theorem w_applies : (headSpec (Jvm.Cond.code x code maxLocals ret :: tables_1) room_1).applies x e0.platform about1 = true :=
  (Spec.applies_iff w_frames).mpr ⟨w_running, w_runnable, w_alone, w_named, w_hears, w_ripe, w_room, w_tables⟩
theorem atStart : AtStart classFile x code maxLocals ret World_1 tables_1 room_1 Calls_1 rest_1 Pre_1 launch0 p0 e0 about1 theMethod args0 below0 :=
  ⟨lists_1, trivial, launch0.admits_env _ _ _, launch0.least_env, fairChoices_fair.cas, fairChoices_fair.clock, w_frames, w_args, w_heap, w_applies, trivial, trivial, w_case⟩
end start1
theorem witness_1 : WitnessClaimed_1 := ⟨start1.p0, start1.e0, start1.about1, start1.theMethod, start1.args0, start1.below0, start1.atStart⟩
end Jvm.Pilot.@@N@@
