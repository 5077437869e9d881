import JvmDerived
import JvmDerived.Pilot.@@N@@Statement
import JvmDerived.Pilot.@@N@@Code
set_option linter.unusedVariables false
set_option linter.unusedSimpArgs false
namespace Jvm.Pilot.@@N@@
open Jvm Jvm.ClassFile Sem Op Lib Jvm.Free Jvm.Stand Jvm.LawKit Jvm.RoadKit Bundle Jvm.Pilot.@@N@@.Jvm.D
section OwnGo
variable {p : Program} {l : Launch} {e : Env} {R : Room} {s : State} {m : MethodId} {args : Array Value} {below : List Frame} {meth : Method} {c : Code} {T : State} {locs : List Loc} {cells slots : Nat} {Z : State} {a0 : Array Value} {h : Heap} {K : Outcome → State → Prop} {pc pc' : Nat} {Ls : Array Slot} {st : List Value}
/-- from frame g in state T the run ends as K says -/
def Goes (p : Program) (e : Env) (below : List Frame) (K : Outcome → State → Prop) (T : State) (g : JFrame) : Prop := ∃ u o, Steps p.tables e below (T.setTop g) u ∧ u.status = .running ∧ Ended u below o ∧ K o u
theorem Goes.by' {T' : State} {g g' : JFrame} (f : ∀ t, Steps p.tables e below (T'.setTop g') t → Steps p.tables e below (T.setTop g) t) (k : Goes p e below K T' g') : Goes p e below K T g := by obtain ⟨u, o, h1, h2⟩ := k; exact ⟨u, o, f _ h1, h2⟩
theorem Goes.cast {g g' : JFrame} (q : g = g') (k : Goes p e below K T g') : Goes p e below K T g := q ▸ k
/-- a callee's contract: called with as' at the heap h0 it returns v, leaves a heap and a list of written places of which Q speaks -/
abbrev Ctr (l : Launch) (Z : State) (y : MethodName) (bytes : ByteArray) (maxL : Nat) (ret : Option FieldType) (ws : List Jvm.Cond) (rm : Room) (C S : Nat) (as' : Array Value) (h0 : Heap) (Q : Option Value → Heap → List Loc → Prop) : Prop := MetFree l y (head1 (Jvm.Cond.code y bytes maxL ret :: ws) rm) (fun a U => a = as' ∧ Z.Warmed39 U.vm ∧ U.heap = h0) (fun _ _ _ _ _ => True) (fun _ U o U' => ∃ v L, o = .returned v ∧ Q v U'.heap L ∧ FrameEnd U o U' L C S)
abbrev KQ (s : State) (C S : Nat) (Q : Option Value → Heap → List Loc → Prop) : Outcome → State → Prop := fun o u => ∃ v L, o = .returned v ∧ Q v u.heap L ∧ FrameEnd s o u L C S
theorem Ctr.of {y : MethodName} {bytes : ByteArray} {maxL : Nat} {ret : Option FieldType} {ws : List Jvm.Cond} {rm : Room} {C S : Nat} {as' : Array Value} {h0 : Heap} {Q : Option Value → Heap → List Loc → Prop} (hpn : plainFor y = true)
    (body : ∀ (p : Program) (e : Env) (s : State) (m : MethodId) (below : List Frame) (meth : Method) (c : Code) (s₁ : State), p.tables.exec = Jvm.exec → c.code = bytes → c.maxLocals = maxL → s.vm.findClass y.cls = some m.cls → meth.name = y.name → meth.sig.returnType = ret → meth.locks = false → Z.Warmed39 s.vm → Stand p l e rm s m as' below meth c s₁ [] 0 0 → s₁.heap = h0 → Goes p e below (KQ s C S Q) s₁ (entryFrame m as' maxL)) :
    Ctr l Z y bytes maxL ret ws rm C S as' h0 Q := by
  refine MetFree.of_bodySF hpn hisR ?_
  intro p e s m args below meth c s₁ Bd hml0 hP hK
  obtain ⟨rfl, hZ, hh⟩ := hP
  have hlk : meth.locks = false := BodyLoose.notSynchronized Bd
  exact body p e s m below meth c s₁ Bd.exec Bd.bytes hml0 (findClass_of_methodNamed Bd.named) (name_of_methodNamed Bd.named Bd.method).1 Bd.returns hlk hZ (Stand.of_body Bd) (by rw [← hh, Bd.state]; rfl)
theorem wd {a0 : Array Value} {Z : State} {tb : List Jvm.Cond} (hw : ∀ d ∈ tb, d.before a0 Z = true) (i : Nat) {d : Jvm.Cond} (q : tb[i]? = some d) : d.before a0 Z = true := hw _ (List.mem_of_getElem? q)
theorem g_iadd (X : Stand p l e R s m args below meth c T locs cells slots) (hx : p.tables.exec = Jvm.exec) {x y : Int32} (hd : decode c.code pc = .ok (.iadd, 1))  (hp : pc + 1 = pc') (k : Goes p e below K T (mkF m pc' Ls (.int (x + y) :: st))) : Goes p e below K T (mkF m pc Ls (.int y :: .int x :: st)) := by subst hp; exact Goes.by' (fun _ q => XS.iadd X.here hx rfl hd rfl q) k
theorem g_isub (X : Stand p l e R s m args below meth c T locs cells slots) (hx : p.tables.exec = Jvm.exec) {x y : Int32} (hd : decode c.code pc = .ok (.isub, 1))  (hp : pc + 1 = pc') (k : Goes p e below K T (mkF m pc' Ls (.int (x - y) :: st))) : Goes p e below K T (mkF m pc Ls (.int y :: .int x :: st)) := by subst hp; exact Goes.by' (fun _ q => XS.isub X.here hx rfl hd rfl q) k
theorem g_iand (X : Stand p l e R s m args below meth c T locs cells slots) (hx : p.tables.exec = Jvm.exec) {x y : Int32} (hd : decode c.code pc = .ok (.iand, 1))  (hp : pc + 1 = pc') (k : Goes p e below K T (mkF m pc' Ls (.int (x &&& y) :: st))) : Goes p e below K T (mkF m pc Ls (.int y :: .int x :: st)) := by subst hp; exact Goes.by' (fun _ q => XS.iand X.here hx rfl hd rfl q) k
theorem g_imul (X : Stand p l e R s m args below meth c T locs cells slots) (hx : p.tables.exec = Jvm.exec) {x y : Int32} (hd : decode c.code pc = .ok (.imul, 1))  (hp : pc + 1 = pc') (k : Goes p e below K T (mkF m pc' Ls (.int (x * y) :: st))) : Goes p e below K T (mkF m pc Ls (.int y :: .int x :: st)) := by subst hp; exact Goes.by' (fun _ q => XS.imul X.here hx rfl hd rfl q) k
theorem g_ixor (X : Stand p l e R s m args below meth c T locs cells slots) (hx : p.tables.exec = Jvm.exec) {x y : Int32} (hd : decode c.code pc = .ok (.ixor, 1))  (hp : pc + 1 = pc') (k : Goes p e below K T (mkF m pc' Ls (.int (x ^^^ y) :: st))) : Goes p e below K T (mkF m pc Ls (.int y :: .int x :: st)) := by subst hp; exact Goes.by' (fun _ q => XT.ixor X.here hx rfl hd rfl q) k
theorem g_ior (X : Stand p l e R s m args below meth c T locs cells slots) (hx : p.tables.exec = Jvm.exec) {x y : Int32} (hd : decode c.code pc = .ok (.ior, 1))  (hp : pc + 1 = pc') (k : Goes p e below K T (mkF m pc' Ls (.int (x ||| y) :: st))) : Goes p e below K T (mkF m pc Ls (.int y :: .int x :: st)) := by subst hp; exact Goes.by' (fun _ q => XT.ior X.here hx rfl hd rfl q) k
theorem g_idiv (X : Stand p l e R s m args below meth c T locs cells slots) (hx : p.tables.exec = Jvm.exec) {x y : Int32} (hd : decode c.code pc = .ok (.idiv, 1)) (hy : y ≠ 0) (hp : pc + 1 = pc') (k : Goes p e below K T (mkF m pc' Ls (.int (x / y) :: st))) : Goes p e below K T (mkF m pc Ls (.int y :: .int x :: st)) := by subst hp; exact Goes.by' (fun _ q => XS.idiv X.here hx rfl hd rfl hy q) k
theorem g_irem (X : Stand p l e R s m args below meth c T locs cells slots) (hx : p.tables.exec = Jvm.exec) {x y : Int32} (hd : decode c.code pc = .ok (.irem, 1)) (hy : y ≠ 0) (hp : pc + 1 = pc') (k : Goes p e below K T (mkF m pc' Ls (.int (x % y) :: st))) : Goes p e below K T (mkF m pc Ls (.int y :: .int x :: st)) := by subst hp; exact Goes.by' (fun _ q => iremM X hx rfl hd rfl hy q) k
theorem g_ineg (X : Stand p l e R s m args below meth c T locs cells slots) (hx : p.tables.exec = Jvm.exec) {x : Int32} (hd : decode c.code pc = .ok (.ineg, 1))  (hp : pc + 1 = pc') (k : Goes p e below K T (mkF m pc' Ls (.int (-x) :: st))) : Goes p e below K T (mkF m pc Ls (.int x :: st)) := by subst hp; exact Goes.by' (fun _ q => XS.ineg X.here hx rfl hd rfl q) k
theorem g_ishl (X : Stand p l e R s m args below meth c T locs cells slots) (hx : p.tables.exec = Jvm.exec) {x y : Int32} (hd : decode c.code pc = .ok (.ishl, 1))  (hp : pc + 1 = pc') (k : Goes p e below K T (mkF m pc' Ls (.int (x <<< (y &&& 31)) :: st))) : Goes p e below K T (mkF m pc Ls (.int y :: .int x :: st)) := by subst hp; exact Goes.by' (fun _ q => XT.ishl X.here hx rfl hd rfl q) k
theorem g_ishr (X : Stand p l e R s m args below meth c T locs cells slots) (hx : p.tables.exec = Jvm.exec) {x y : Int32} (hd : decode c.code pc = .ok (.ishr, 1))  (hp : pc + 1 = pc') (k : Goes p e below K T (mkF m pc' Ls (.int (x >>> (y &&& 31)) :: st))) : Goes p e below K T (mkF m pc Ls (.int y :: .int x :: st)) := by subst hp; exact Goes.by' (fun _ q => XT.ishr X.here hx rfl hd rfl q) k
theorem g_iushr (X : Stand p l e R s m args below meth c T locs cells slots) (hx : p.tables.exec = Jvm.exec) {x y : Int32} (hd : decode c.code pc = .ok (.iushr, 1))  (hp : pc + 1 = pc') (k : Goes p e below K T (mkF m pc' Ls (.int (XT.ushr x y) :: st))) : Goes p e below K T (mkF m pc Ls (.int y :: .int x :: st)) := by subst hp; exact Goes.by' (fun _ q => XT.iushr X.here hx rfl hd rfl q) k
theorem g_ladd (X : Stand p l e R s m args below meth c T locs cells slots) (hx : p.tables.exec = Jvm.exec) {x y : Int64} (hd : decode c.code pc = .ok (.ladd, 1))  (hp : pc + 1 = pc') (k : Goes p e below K T (mkF m pc' Ls (.long (x + y) :: st))) : Goes p e below K T (mkF m pc Ls (.long y :: .long x :: st)) := by subst hp; exact Goes.by' (fun _ q => XT.ladd X.here hx rfl hd rfl q) k
theorem g_lsub (X : Stand p l e R s m args below meth c T locs cells slots) (hx : p.tables.exec = Jvm.exec) {x y : Int64} (hd : decode c.code pc = .ok (.lsub, 1))  (hp : pc + 1 = pc') (k : Goes p e below K T (mkF m pc' Ls (.long (x - y) :: st))) : Goes p e below K T (mkF m pc Ls (.long y :: .long x :: st)) := by subst hp; exact Goes.by' (fun _ q => XT.lsub X.here hx rfl hd rfl q) k
theorem g_lmul (X : Stand p l e R s m args below meth c T locs cells slots) (hx : p.tables.exec = Jvm.exec) {x y : Int64} (hd : decode c.code pc = .ok (.lmul, 1))  (hp : pc + 1 = pc') (k : Goes p e below K T (mkF m pc' Ls (.long (x * y) :: st))) : Goes p e below K T (mkF m pc Ls (.long y :: .long x :: st)) := by subst hp; exact Goes.by' (fun _ q => XT.lmul X.here hx rfl hd rfl q) k
theorem g_land (X : Stand p l e R s m args below meth c T locs cells slots) (hx : p.tables.exec = Jvm.exec) {x y : Int64} (hd : decode c.code pc = .ok (.land, 1))  (hp : pc + 1 = pc') (k : Goes p e below K T (mkF m pc' Ls (.long (x &&& y) :: st))) : Goes p e below K T (mkF m pc Ls (.long y :: .long x :: st)) := by subst hp; exact Goes.by' (fun _ q => XT.land X.here hx rfl hd rfl q) k
theorem g_lor (X : Stand p l e R s m args below meth c T locs cells slots) (hx : p.tables.exec = Jvm.exec) {x y : Int64} (hd : decode c.code pc = .ok (.lor, 1))  (hp : pc + 1 = pc') (k : Goes p e below K T (mkF m pc' Ls (.long (x ||| y) :: st))) : Goes p e below K T (mkF m pc Ls (.long y :: .long x :: st)) := by subst hp; exact Goes.by' (fun _ q => XT.lor X.here hx rfl hd rfl q) k
theorem g_lxor (X : Stand p l e R s m args below meth c T locs cells slots) (hx : p.tables.exec = Jvm.exec) {x y : Int64} (hd : decode c.code pc = .ok (.lxor, 1))  (hp : pc + 1 = pc') (k : Goes p e below K T (mkF m pc' Ls (.long (x ^^^ y) :: st))) : Goes p e below K T (mkF m pc Ls (.long y :: .long x :: st)) := by subst hp; exact Goes.by' (fun _ q => XT.lxor X.here hx rfl hd rfl q) k
theorem g_ldiv (X : Stand p l e R s m args below meth c T locs cells slots) (hx : p.tables.exec = Jvm.exec) {x y : Int64} (hd : decode c.code pc = .ok (.ldiv, 1)) (hy : y ≠ 0) (hp : pc + 1 = pc') (k : Goes p e below K T (mkF m pc' Ls (.long (x / y) :: st))) : Goes p e below K T (mkF m pc Ls (.long y :: .long x :: st)) := by subst hp; exact Goes.by' (fun _ q => XT.ldiv X.here hx rfl hd rfl hy q) k
theorem g_lrem (X : Stand p l e R s m args below meth c T locs cells slots) (hx : p.tables.exec = Jvm.exec) {x y : Int64} (hd : decode c.code pc = .ok (.lrem, 1)) (hy : y ≠ 0) (hp : pc + 1 = pc') (k : Goes p e below K T (mkF m pc' Ls (.long (x % y) :: st))) : Goes p e below K T (mkF m pc Ls (.long y :: .long x :: st)) := by subst hp; exact Goes.by' (fun _ q => XT.lrem X.here hx rfl hd rfl hy (by rw [lrem_mod]; exact q)) k
theorem g_lneg (X : Stand p l e R s m args below meth c T locs cells slots) (hx : p.tables.exec = Jvm.exec) {x : Int64} (hd : decode c.code pc = .ok (.lneg, 1))  (hp : pc + 1 = pc') (k : Goes p e below K T (mkF m pc' Ls (.long (-x) :: st))) : Goes p e below K T (mkF m pc Ls (.long x :: st)) := by subst hp; exact Goes.by' (fun _ q => XT.lneg X.here hx rfl hd rfl q) k
theorem g_lshl (X : Stand p l e R s m args below meth c T locs cells slots) (hx : p.tables.exec = Jvm.exec) {x : Int64} {y : Int32} (hd : decode c.code pc = .ok (.lshl, 1))  (hp : pc + 1 = pc') (k : Goes p e below K T (mkF m pc' Ls (.long (x <<< (y.toInt64 &&& 63)) :: st))) : Goes p e below K T (mkF m pc Ls (.int y :: .long x :: st)) := by subst hp; exact Goes.by' (fun _ q => XT.lshl X.here hx rfl hd rfl q) k
theorem g_lshr (X : Stand p l e R s m args below meth c T locs cells slots) (hx : p.tables.exec = Jvm.exec) {x : Int64} {y : Int32} (hd : decode c.code pc = .ok (.lshr, 1))  (hp : pc + 1 = pc') (k : Goes p e below K T (mkF m pc' Ls (.long (x >>> (y.toInt64 &&& 63)) :: st))) : Goes p e below K T (mkF m pc Ls (.int y :: .long x :: st)) := by subst hp; exact Goes.by' (fun _ q => XT.lshr X.here hx rfl hd rfl q) k
theorem g_lushr (X : Stand p l e R s m args below meth c T locs cells slots) (hx : p.tables.exec = Jvm.exec) {x : Int64} {y : Int32} (hd : decode c.code pc = .ok (.lushr, 1))  (hp : pc + 1 = pc') (k : Goes p e below K T (mkF m pc' Ls (.long (XT.ushrL x y) :: st))) : Goes p e below K T (mkF m pc Ls (.int y :: .long x :: st)) := by subst hp; exact Goes.by' (fun _ q => XT.lushr X.here hx rfl hd rfl q) k
theorem g_lcmp (X : Stand p l e R s m args below meth c T locs cells slots) (hx : p.tables.exec = Jvm.exec) {x y : Int64} (hd : decode c.code pc = .ok (.lcmp, 1))  (hp : pc + 1 = pc') (k : Goes p e below K T (mkF m pc' Ls (.int (XT.cmpL x y) :: st))) : Goes p e below K T (mkF m pc Ls (.long y :: .long x :: st)) := by subst hp; exact Goes.by' (fun _ q => XT.lcmp X.here hx rfl hd rfl q) k
theorem g_i2l (X : Stand p l e R s m args below meth c T locs cells slots) (hx : p.tables.exec = Jvm.exec) {x : Int32} (hd : decode c.code pc = .ok (.i2l, 1))  (hp : pc + 1 = pc') (k : Goes p e below K T (mkF m pc' Ls (.long x.toInt64 :: st))) : Goes p e below K T (mkF m pc Ls (.int x :: st)) := by subst hp; exact Goes.by' (fun _ q => XT.i2l X.here hx rfl hd rfl q) k
theorem g_l2i (X : Stand p l e R s m args below meth c T locs cells slots) (hx : p.tables.exec = Jvm.exec) {x : Int64} (hd : decode c.code pc = .ok (.l2i, 1))  (hp : pc + 1 = pc') (k : Goes p e below K T (mkF m pc' Ls (.int x.toInt32 :: st))) : Goes p e below K T (mkF m pc Ls (.long x :: st)) := by subst hp; exact Goes.by' (fun _ q => XT.l2i X.here hx rfl hd rfl q) k
theorem g_i2b (X : Stand p l e R s m args below meth c T locs cells slots) (hx : p.tables.exec = Jvm.exec) {x : Int32} (hd : decode c.code pc = .ok (.i2b, 1))  (hp : pc + 1 = pc') (k : Goes p e below K T (mkF m pc' Ls (.int x.toInt8.toInt32 :: st))) : Goes p e below K T (mkF m pc Ls (.int x :: st)) := by subst hp; exact Goes.by' (fun _ q => XT.i2b X.here hx rfl hd rfl q) k
theorem g_i2c (X : Stand p l e R s m args below meth c T locs cells slots) (hx : p.tables.exec = Jvm.exec) {x : Int32} (hd : decode c.code pc = .ok (.i2c, 1))  (hp : pc + 1 = pc') (k : Goes p e below K T (mkF m pc' Ls (.int x.toUInt32.toUInt16.toUInt32.toInt32 :: st))) : Goes p e below K T (mkF m pc Ls (.int x :: st)) := by subst hp; exact Goes.by' (fun _ q => XT.i2c X.here hx rfl hd rfl q) k
theorem g_i2s (X : Stand p l e R s m args below meth c T locs cells slots) (hx : p.tables.exec = Jvm.exec) {x : Int32} (hd : decode c.code pc = .ok (.i2s, 1))  (hp : pc + 1 = pc') (k : Goes p e below K T (mkF m pc' Ls (.int x.toInt16.toInt32 :: st))) : Goes p e below K T (mkF m pc Ls (.int x :: st)) := by subst hp; exact Goes.by' (fun _ q => XT.i2s X.here hx rfl hd rfl q) k
theorem g_aload_n (X : Stand p l e R s m args below meth c T locs cells slots) (hx : p.tables.exec = Jvm.exec) {i : Fin 4} {v : Value} (hd : decode c.code pc = .ok (.aload_n i, 1)) (hl : Ls[i.val]? = some (.val v)) (hv : v.isRef = true) (hp : pc + 1 = pc') (k : Goes p e below K T (mkF m pc' Ls (v :: st))) : Goes p e below K T (mkF m pc Ls (st)) := by subst hp; exact Goes.by' (fun _ q => XS.aloadN X.here hx rfl hd hl hv q) k
theorem g_aload (X : Stand p l e R s m args below meth c T locs cells slots) (hx : p.tables.exec = Jvm.exec) {i : Nat} {v : Value} (hd : decode c.code pc = .ok (.aload i, 2)) (hl : Ls[i]? = some (.val v)) (hv : v.isRef = true) (hp : pc + 2 = pc') (k : Goes p e below K T (mkF m pc' Ls (v :: st))) : Goes p e below K T (mkF m pc Ls (st)) := by subst hp; exact Goes.by' (fun _ q => XS.aload X.here hx rfl hd hl hv q) k
theorem g_iload_n (X : Stand p l e R s m args below meth c T locs cells slots) (hx : p.tables.exec = Jvm.exec) {i : Fin 4} {v : Int32} (hd : decode c.code pc = .ok (.iload_n i, 1)) (hl : Ls[i.val]? = some (.val (.int v))) (hp : pc + 1 = pc') (k : Goes p e below K T (mkF m pc' Ls (.int v :: st))) : Goes p e below K T (mkF m pc Ls (st)) := by subst hp; exact Goes.by' (fun _ q => XS.iloadN X.here hx rfl hd hl q) k
theorem g_iload (X : Stand p l e R s m args below meth c T locs cells slots) (hx : p.tables.exec = Jvm.exec) {i : Nat} {v : Int32} (hd : decode c.code pc = .ok (.iload i, 2)) (hl : Ls[i]? = some (.val (.int v))) (hp : pc + 2 = pc') (k : Goes p e below K T (mkF m pc' Ls (.int v :: st))) : Goes p e below K T (mkF m pc Ls (st)) := by subst hp; exact Goes.by' (fun _ q => XS.iload X.here hx rfl hd hl q) k
theorem g_lload_n (X : Stand p l e R s m args below meth c T locs cells slots) (hx : p.tables.exec = Jvm.exec) {i : Fin 4} {v : Int64} (hd : decode c.code pc = .ok (.lload_n i, 1)) (hl : Ls[i.val]? = some (.val (.long v))) (hp : pc + 1 = pc') (k : Goes p e below K T (mkF m pc' Ls (.long v :: st))) : Goes p e below K T (mkF m pc Ls (st)) := by subst hp; exact Goes.by' (fun _ q => XT.lloadN X.here hx rfl hd hl q) k
theorem g_lload (X : Stand p l e R s m args below meth c T locs cells slots) (hx : p.tables.exec = Jvm.exec) {i : Nat} {v : Int64} (hd : decode c.code pc = .ok (.lload i, 2)) (hl : Ls[i]? = some (.val (.long v))) (hp : pc + 2 = pc') (k : Goes p e below K T (mkF m pc' Ls (.long v :: st))) : Goes p e below K T (mkF m pc Ls (st)) := by subst hp; exact Goes.by' (fun _ q => XT.lload X.here hx rfl hd hl q) k
theorem g_iconst (X : Stand p l e R s m args below meth c T locs cells slots) (hx : p.tables.exec = Jvm.exec) {i : Int} {v : Int32} (hd : decode c.code pc = .ok (.iconst i, 1)) (hv : v = Int32.ofInt i) (hp : pc + 1 = pc') (k : Goes p e below K T (mkF m pc' Ls (.int v :: st))) : Goes p e below K T (mkF m pc Ls (st)) := by subst hp; exact Goes.by' (fun _ q => XS.iconst X.here hx rfl hd (hv ▸ q)) k
theorem g_bipush (X : Stand p l e R s m args below meth c T locs cells slots) (hx : p.tables.exec = Jvm.exec) {i : Int} {v : Int32} (hd : decode c.code pc = .ok (.bipush i, 2)) (hv : v = (Int8.ofInt i).toInt32) (hp : pc + 2 = pc') (k : Goes p e below K T (mkF m pc' Ls (.int v :: st))) : Goes p e below K T (mkF m pc Ls (st)) := by subst hp; exact Goes.by' (fun _ q => XS.bipush X.here hx rfl hd (hv ▸ q)) k
theorem g_sipush (X : Stand p l e R s m args below meth c T locs cells slots) (hx : p.tables.exec = Jvm.exec) {i : Int} {v : Int32} (hd : decode c.code pc = .ok (.sipush i, 3)) (hv : v = (Int16.ofInt i).toInt32) (hp : pc + 3 = pc') (k : Goes p e below K T (mkF m pc' Ls (.int v :: st))) : Goes p e below K T (mkF m pc Ls (st)) := by subst hp; exact Goes.by' (fun _ q => XS.sipush X.here hx rfl hd (hv ▸ q)) k
theorem g_lconst (X : Stand p l e R s m args below meth c T locs cells slots) (hx : p.tables.exec = Jvm.exec) {i : Fin 2} {v : Int64} (hd : decode c.code pc = .ok (.lconst i, 1)) (hv : v = Int64.ofNat i) (hp : pc + 1 = pc') (k : Goes p e below K T (mkF m pc' Ls (.long v :: st))) : Goes p e below K T (mkF m pc Ls (st)) := by subst hp; exact Goes.by' (fun _ q => XT.lconst X.here hx rfl hd (hv ▸ q)) k
theorem g_aconst_null (X : Stand p l e R s m args below meth c T locs cells slots) (hx : p.tables.exec = Jvm.exec)  (hd : decode c.code pc = .ok (.aconst_null, 1))  (hp : pc + 1 = pc') (k : Goes p e below K T (mkF m pc' Ls (.null :: st))) : Goes p e below K T (mkF m pc Ls (st)) := by subst hp; exact Goes.by' (fun _ q => XS.aconstNull X.here hx rfl hd q) k
theorem g_dup (X : Stand p l e R s m args below meth c T locs cells slots) (hx : p.tables.exec = Jvm.exec) {x : Value} (hd : decode c.code pc = .ok (.dup, 1)) (hc : x.category = 1) (hp : pc + 1 = pc') (k : Goes p e below K T (mkF m pc' Ls (x :: x :: st))) : Goes p e below K T (mkF m pc Ls (x :: st)) := by subst hp; exact Goes.by' (fun _ q => XS.dup X.here hx rfl hd rfl hc q) k
theorem g_pop (X : Stand p l e R s m args below meth c T locs cells slots) (hx : p.tables.exec = Jvm.exec) {x : Value} (hd : decode c.code pc = .ok (.pop, 1)) (hc : x.category = 1) (hp : pc + 1 = pc') (k : Goes p e below K T (mkF m pc' Ls (st))) : Goes p e below K T (mkF m pc Ls (x :: st)) := by subst hp; exact Goes.by' (fun _ q => XT.pop X.here hx rfl hd rfl hc q) k
theorem g_dup_x1 (X : Stand p l e R s m args below meth c T locs cells slots) (hx : p.tables.exec = Jvm.exec) {x y : Value} (hd : decode c.code pc = .ok (.dup_x1, 1)) (hc : x.category = 1) (hc' : y.category = 1) (hp : pc + 1 = pc') (k : Goes p e below K T (mkF m pc' Ls (x :: y :: x :: st))) : Goes p e below K T (mkF m pc Ls (x :: y :: st)) := by subst hp; exact Goes.by' (fun _ q => XT.dupX1 X.here hx rfl hd rfl hc hc' q) k
theorem g_dup2 (X : Stand p l e R s m args below meth c T locs cells slots) (hx : p.tables.exec = Jvm.exec) {x y : Value} (hd : decode c.code pc = .ok (.dup2, 1)) (hc : x.category = 1) (hc' : y.category = 1) (hp : pc + 1 = pc') (k : Goes p e below K T (mkF m pc' Ls (x :: y :: x :: y :: st))) : Goes p e below K T (mkF m pc Ls (x :: y :: st)) := by subst hp; exact Goes.by' (fun _ q => XT.dup2 X.here hx rfl hd rfl hc hc' q) k
theorem g_dup2L (X : Stand p l e R s m args below meth c T locs cells slots) (hx : p.tables.exec = Jvm.exec) {x : Int64} (hd : decode c.code pc = .ok (.dup2, 1))  (hp : pc + 1 = pc') (k : Goes p e below K T (mkF m pc' Ls (.long x :: .long x :: st))) : Goes p e below K T (mkF m pc Ls (.long x :: st)) := by subst hp; exact Goes.by' (fun _ q => XT.dup2L X.here hx rfl hd rfl q) k
theorem g_istore_n (X : Stand p l e R s m args below meth c T locs cells slots) (hx : p.tables.exec = Jvm.exec) {i : Fin 4} {x : Int32} (l' : Array Slot) (hd : decode c.code pc = .ok (.istore_n i, 1)) (hl : storeLocals Ls i.val (.int x) = some l') (hp : pc + 1 = pc') (k : Goes p e below K T (mkF m pc' l' (st))) : Goes p e below K T (mkF m pc Ls (.int x :: st)) := by subst hp; exact Goes.by' (fun _ q => XS.istoreN X.here hx rfl hd rfl hl q) k
theorem g_istore (X : Stand p l e R s m args below meth c T locs cells slots) (hx : p.tables.exec = Jvm.exec) {i : Nat} {x : Int32} (l' : Array Slot) (hd : decode c.code pc = .ok (.istore i, 2)) (hl : storeLocals Ls i (.int x) = some l') (hp : pc + 2 = pc') (k : Goes p e below K T (mkF m pc' l' (st))) : Goes p e below K T (mkF m pc Ls (.int x :: st)) := by subst hp; exact Goes.by' (fun _ q => XS.istore X.here hx rfl hd rfl hl q) k
theorem g_lstore_n (X : Stand p l e R s m args below meth c T locs cells slots) (hx : p.tables.exec = Jvm.exec) {i : Fin 4} {x : Int64} (l' : Array Slot) (hd : decode c.code pc = .ok (.lstore_n i, 1)) (hl : storeLocals Ls i.val (.long x) = some l') (hp : pc + 1 = pc') (k : Goes p e below K T (mkF m pc' l' (st))) : Goes p e below K T (mkF m pc Ls (.long x :: st)) := by subst hp; exact Goes.by' (fun _ q => XT.lstoreN X.here hx rfl hd rfl hl q) k
theorem g_lstore (X : Stand p l e R s m args below meth c T locs cells slots) (hx : p.tables.exec = Jvm.exec) {i : Nat} {x : Int64} (l' : Array Slot) (hd : decode c.code pc = .ok (.lstore i, 2)) (hl : storeLocals Ls i (.long x) = some l') (hp : pc + 2 = pc') (k : Goes p e below K T (mkF m pc' l' (st))) : Goes p e below K T (mkF m pc Ls (.long x :: st)) := by subst hp; exact Goes.by' (fun _ q => XT.lstore X.here hx rfl hd rfl hl q) k
theorem g_astore_n (X : Stand p l e R s m args below meth c T locs cells slots) (hx : p.tables.exec = Jvm.exec) {i : Fin 4} {x : Value} (l' : Array Slot) (hd : decode c.code pc = .ok (.astore_n i, 1)) (hv : x.isRef = true) (hl : storeLocals Ls i.val x = some l') (hp : pc + 1 = pc') (k : Goes p e below K T (mkF m pc' l' (st))) : Goes p e below K T (mkF m pc Ls (x :: st)) := by subst hp; exact Goes.by' (fun _ q => XS.astoreN X.here hx rfl hd rfl hv hl q) k
theorem g_astore (X : Stand p l e R s m args below meth c T locs cells slots) (hx : p.tables.exec = Jvm.exec) {i : Nat} {x : Value} (l' : Array Slot) (hd : decode c.code pc = .ok (.astore i, 2)) (hv : x.isRef = true) (hl : storeLocals Ls i x = some l') (hp : pc + 2 = pc') (k : Goes p e below K T (mkF m pc' l' (st))) : Goes p e below K T (mkF m pc Ls (x :: st)) := by subst hp; exact Goes.by' (fun _ q => XS.astore X.here hx rfl hd rfl hv hl q) k
theorem g_iinc (X : Stand p l e R s m args below meth c T locs cells slots) (hx : p.tables.exec = Jvm.exec) {i : Nat} {cst : Int} {x y : Int32} (l' : Array Slot) (hd : decode c.code pc = .ok (.iinc i cst, 3)) (hl : Ls[i]? = some (.val (.int x))) (hy : y = x + Int32.ofInt cst) (hl' : storeLocals Ls i (.int y) = some l') (hp : pc + 3 = pc') (k : Goes p e below K T (mkF m pc' l' (st))) : Goes p e below K T (mkF m pc Ls (st)) := by subst hp; exact Goes.by' (fun _ q => XS.iinc X.here hx rfl hd hl (hy ▸ hl') q) k
theorem g_ldcI (X : Stand p l e R s m args below meth c T locs cells slots) (hx : p.tables.exec = Jvm.exec) (hZ : Z.Warmed39 s.vm) {own : String} {ix : Nat} {v : Int32} (hown : s.vm.findClass own = some m.cls) (w : (Cond.constant own ix v).before a0 Z = true) (hd : decode c.code pc = .ok (.ldc ix, 2)) (hp : pc + 2 = pc') (k : Goes p e below K T (mkF m pc' Ls (.int v :: st))) : Goes p e below K T (mkF m pc Ls st) := by subst hp; exact Goes.by' (fun _ q => X.ldcI hx hown (mvT hZ w) rfl hd q) k
theorem g_ldcWI (X : Stand p l e R s m args below meth c T locs cells slots) (hx : p.tables.exec = Jvm.exec) (hZ : Z.Warmed39 s.vm) {own : String} {ix : Nat} {v : Int32} (hown : s.vm.findClass own = some m.cls) (w : (Cond.constant own ix v).before a0 Z = true) (hd : decode c.code pc = .ok (.ldc_w ix, 3)) (hp : pc + 3 = pc') (k : Goes p e below K T (mkF m pc' Ls (.int v :: st))) : Goes p e below K T (mkF m pc Ls st) := by subst hp; exact Goes.by' (fun _ q => X.ldcWI hx hown (mvT hZ w) rfl hd q) k
theorem g_ldc2J (X : Stand p l e R s m args below meth c T locs cells slots) (hx : p.tables.exec = Jvm.exec) (hZ : Z.Warmed39 s.vm) {own : String} {ix : Nat} {v : Int64} (hown : s.vm.findClass own = some m.cls) (w : (Cond.constantLong own ix v).before a0 Z = true) (hd : decode c.code pc = .ok (.ldc2_w ix, 3)) (hp : pc + 3 = pc') (k : Goes p e below K T (mkF m pc' Ls (.long v :: st))) : Goes p e below K T (mkF m pc Ls st) := by subst hp; exact Goes.by' (fun _ q => X.ldc2J hx hown (mvT hZ w) rfl hd q) k
theorem g_goto (X : Stand p l e R s m args below meth c T locs cells slots) (hx : p.tables.exec = Jvm.exec) {o : Int} (hd : decode c.code pc = .ok (.goto o, 3)) (ho : 0 ≤ (pc : Int) + o) (hp : ((pc : Int) + o).toNat = pc') (k : Goes p e below K T (mkF m pc' Ls st)) : Goes p e below K T (mkF m pc Ls st) := Goes.by' (fun _ q => XS.goto X.here hx rfl (pc0 := pc) (pc' := pc') rfl hd ho hp q) k
theorem icmp_iff (cd : ClassFile.Cond) (x y : Int32) : if_icmp.holds cd x y = true ↔ (match cd with | .eq => x = y | .ne => ¬ x = y | .lt => x < y | .ge => ¬ x < y | .gt => y < x | .le => ¬ y < x) := by cases cd <;> simp [if_icmp.holds, Int32.not_lt, Int32.not_le]
theorem g_icmp_eq (X : Stand p l e R s m args below meth c T locs cells slots) (hx : p.tables.exec = Jvm.exec) {x y : Int32} {o : Int} {pt : Nat} (hd : decode c.code pc = .ok (.if_icmp .eq o, 3)) (ho : 0 ≤ (pc : Int) + o) (hp : ((pc : Int) + o).toNat = pt) (hp' : pc + 3 = pc') (kt : x = y → Goes p e below K T (mkF m pt Ls st)) (kf : ¬ x = y → Goes p e below K T (mkF m pc' Ls st)) : Goes p e below K T (mkF m pc Ls (.int y :: .int x :: st)) := by
  subst hp'
  by_cases q : if_icmp.holds .eq x y = true
  · exact Goes.by' (fun _ r => XS.icmpYes X.here hx rfl (pc0 := pc) (pc' := pt) rfl hd rfl q ho hp r) (kt ((icmp_iff .eq x y).mp q))
  · exact Goes.by' (fun _ r => XS.icmpNo X.here hx rfl hd rfl (by simpa using q) r) (kf (id (mt (icmp_iff .eq x y).mpr q)))
theorem g_if_eq (X : Stand p l e R s m args below meth c T locs cells slots) (hx : p.tables.exec = Jvm.exec) {x : Int32} {o : Int} {pt : Nat} (hd : decode c.code pc = .ok (.ifCond .eq o, 3)) (ho : 0 ≤ (pc : Int) + o) (hp : ((pc : Int) + o).toNat = pt) (hp' : pc + 3 = pc') (kt : x = 0 → Goes p e below K T (mkF m pt Ls st)) (kf : ¬ x = 0 → Goes p e below K T (mkF m pc' Ls st)) : Goes p e below K T (mkF m pc Ls (.int x :: st)) := by
  subst hp'
  by_cases q : if_icmp.holds .eq x 0 = true
  · exact Goes.by' (fun _ r => XS.ifYes X.here hx rfl (pc0 := pc) (pc' := pt) rfl hd rfl (by rw [if0]; exact q) ho hp r) (kt ((icmp_iff .eq x 0).mp q))
  · exact Goes.by' (fun _ r => XS.ifNo X.here hx rfl hd rfl (by rw [if0]; simpa using q) r) (kf (id (mt (icmp_iff .eq x 0).mpr q)))
theorem g_icmp_ne (X : Stand p l e R s m args below meth c T locs cells slots) (hx : p.tables.exec = Jvm.exec) {x y : Int32} {o : Int} {pt : Nat} (hd : decode c.code pc = .ok (.if_icmp .ne o, 3)) (ho : 0 ≤ (pc : Int) + o) (hp : ((pc : Int) + o).toNat = pt) (hp' : pc + 3 = pc') (kt : ¬ x = y → Goes p e below K T (mkF m pt Ls st)) (kf : x = y → Goes p e below K T (mkF m pc' Ls st)) : Goes p e below K T (mkF m pc Ls (.int y :: .int x :: st)) := by
  subst hp'
  by_cases q : if_icmp.holds .ne x y = true
  · exact Goes.by' (fun _ r => XS.icmpYes X.here hx rfl (pc0 := pc) (pc' := pt) rfl hd rfl q ho hp r) (kt ((icmp_iff .ne x y).mp q))
  · exact Goes.by' (fun _ r => XS.icmpNo X.here hx rfl hd rfl (by simpa using q) r) (kf (Classical.not_not.mp (mt (icmp_iff .ne x y).mpr q)))
theorem g_if_ne (X : Stand p l e R s m args below meth c T locs cells slots) (hx : p.tables.exec = Jvm.exec) {x : Int32} {o : Int} {pt : Nat} (hd : decode c.code pc = .ok (.ifCond .ne o, 3)) (ho : 0 ≤ (pc : Int) + o) (hp : ((pc : Int) + o).toNat = pt) (hp' : pc + 3 = pc') (kt : ¬ x = 0 → Goes p e below K T (mkF m pt Ls st)) (kf : x = 0 → Goes p e below K T (mkF m pc' Ls st)) : Goes p e below K T (mkF m pc Ls (.int x :: st)) := by
  subst hp'
  by_cases q : if_icmp.holds .ne x 0 = true
  · exact Goes.by' (fun _ r => XS.ifYes X.here hx rfl (pc0 := pc) (pc' := pt) rfl hd rfl (by rw [if0]; exact q) ho hp r) (kt ((icmp_iff .ne x 0).mp q))
  · exact Goes.by' (fun _ r => XS.ifNo X.here hx rfl hd rfl (by rw [if0]; simpa using q) r) (kf (Classical.not_not.mp (mt (icmp_iff .ne x 0).mpr q)))
theorem g_icmp_lt (X : Stand p l e R s m args below meth c T locs cells slots) (hx : p.tables.exec = Jvm.exec) {x y : Int32} {o : Int} {pt : Nat} (hd : decode c.code pc = .ok (.if_icmp .lt o, 3)) (ho : 0 ≤ (pc : Int) + o) (hp : ((pc : Int) + o).toNat = pt) (hp' : pc + 3 = pc') (kt : x < y → Goes p e below K T (mkF m pt Ls st)) (kf : ¬ x < y → Goes p e below K T (mkF m pc' Ls st)) : Goes p e below K T (mkF m pc Ls (.int y :: .int x :: st)) := by
  subst hp'
  by_cases q : if_icmp.holds .lt x y = true
  · exact Goes.by' (fun _ r => XS.icmpYes X.here hx rfl (pc0 := pc) (pc' := pt) rfl hd rfl q ho hp r) (kt ((icmp_iff .lt x y).mp q))
  · exact Goes.by' (fun _ r => XS.icmpNo X.here hx rfl hd rfl (by simpa using q) r) (kf (id (mt (icmp_iff .lt x y).mpr q)))
theorem g_if_lt (X : Stand p l e R s m args below meth c T locs cells slots) (hx : p.tables.exec = Jvm.exec) {x : Int32} {o : Int} {pt : Nat} (hd : decode c.code pc = .ok (.ifCond .lt o, 3)) (ho : 0 ≤ (pc : Int) + o) (hp : ((pc : Int) + o).toNat = pt) (hp' : pc + 3 = pc') (kt : x < 0 → Goes p e below K T (mkF m pt Ls st)) (kf : ¬ x < 0 → Goes p e below K T (mkF m pc' Ls st)) : Goes p e below K T (mkF m pc Ls (.int x :: st)) := by
  subst hp'
  by_cases q : if_icmp.holds .lt x 0 = true
  · exact Goes.by' (fun _ r => XS.ifYes X.here hx rfl (pc0 := pc) (pc' := pt) rfl hd rfl (by rw [if0]; exact q) ho hp r) (kt ((icmp_iff .lt x 0).mp q))
  · exact Goes.by' (fun _ r => XS.ifNo X.here hx rfl hd rfl (by rw [if0]; simpa using q) r) (kf (id (mt (icmp_iff .lt x 0).mpr q)))
theorem g_icmp_ge (X : Stand p l e R s m args below meth c T locs cells slots) (hx : p.tables.exec = Jvm.exec) {x y : Int32} {o : Int} {pt : Nat} (hd : decode c.code pc = .ok (.if_icmp .ge o, 3)) (ho : 0 ≤ (pc : Int) + o) (hp : ((pc : Int) + o).toNat = pt) (hp' : pc + 3 = pc') (kt : ¬ x < y → Goes p e below K T (mkF m pt Ls st)) (kf : x < y → Goes p e below K T (mkF m pc' Ls st)) : Goes p e below K T (mkF m pc Ls (.int y :: .int x :: st)) := by
  subst hp'
  by_cases q : if_icmp.holds .ge x y = true
  · exact Goes.by' (fun _ r => XS.icmpYes X.here hx rfl (pc0 := pc) (pc' := pt) rfl hd rfl q ho hp r) (kt ((icmp_iff .ge x y).mp q))
  · exact Goes.by' (fun _ r => XS.icmpNo X.here hx rfl hd rfl (by simpa using q) r) (kf (Classical.not_not.mp (mt (icmp_iff .ge x y).mpr q)))
theorem g_if_ge (X : Stand p l e R s m args below meth c T locs cells slots) (hx : p.tables.exec = Jvm.exec) {x : Int32} {o : Int} {pt : Nat} (hd : decode c.code pc = .ok (.ifCond .ge o, 3)) (ho : 0 ≤ (pc : Int) + o) (hp : ((pc : Int) + o).toNat = pt) (hp' : pc + 3 = pc') (kt : ¬ x < 0 → Goes p e below K T (mkF m pt Ls st)) (kf : x < 0 → Goes p e below K T (mkF m pc' Ls st)) : Goes p e below K T (mkF m pc Ls (.int x :: st)) := by
  subst hp'
  by_cases q : if_icmp.holds .ge x 0 = true
  · exact Goes.by' (fun _ r => XS.ifYes X.here hx rfl (pc0 := pc) (pc' := pt) rfl hd rfl (by rw [if0]; exact q) ho hp r) (kt ((icmp_iff .ge x 0).mp q))
  · exact Goes.by' (fun _ r => XS.ifNo X.here hx rfl hd rfl (by rw [if0]; simpa using q) r) (kf (Classical.not_not.mp (mt (icmp_iff .ge x 0).mpr q)))
theorem g_icmp_gt (X : Stand p l e R s m args below meth c T locs cells slots) (hx : p.tables.exec = Jvm.exec) {x y : Int32} {o : Int} {pt : Nat} (hd : decode c.code pc = .ok (.if_icmp .gt o, 3)) (ho : 0 ≤ (pc : Int) + o) (hp : ((pc : Int) + o).toNat = pt) (hp' : pc + 3 = pc') (kt : y < x → Goes p e below K T (mkF m pt Ls st)) (kf : ¬ y < x → Goes p e below K T (mkF m pc' Ls st)) : Goes p e below K T (mkF m pc Ls (.int y :: .int x :: st)) := by
  subst hp'
  by_cases q : if_icmp.holds .gt x y = true
  · exact Goes.by' (fun _ r => XS.icmpYes X.here hx rfl (pc0 := pc) (pc' := pt) rfl hd rfl q ho hp r) (kt ((icmp_iff .gt x y).mp q))
  · exact Goes.by' (fun _ r => XS.icmpNo X.here hx rfl hd rfl (by simpa using q) r) (kf (id (mt (icmp_iff .gt x y).mpr q)))
theorem g_if_gt (X : Stand p l e R s m args below meth c T locs cells slots) (hx : p.tables.exec = Jvm.exec) {x : Int32} {o : Int} {pt : Nat} (hd : decode c.code pc = .ok (.ifCond .gt o, 3)) (ho : 0 ≤ (pc : Int) + o) (hp : ((pc : Int) + o).toNat = pt) (hp' : pc + 3 = pc') (kt : 0 < x → Goes p e below K T (mkF m pt Ls st)) (kf : ¬ 0 < x → Goes p e below K T (mkF m pc' Ls st)) : Goes p e below K T (mkF m pc Ls (.int x :: st)) := by
  subst hp'
  by_cases q : if_icmp.holds .gt x 0 = true
  · exact Goes.by' (fun _ r => XS.ifYes X.here hx rfl (pc0 := pc) (pc' := pt) rfl hd rfl (by rw [if0]; exact q) ho hp r) (kt ((icmp_iff .gt x 0).mp q))
  · exact Goes.by' (fun _ r => XS.ifNo X.here hx rfl hd rfl (by rw [if0]; simpa using q) r) (kf (id (mt (icmp_iff .gt x 0).mpr q)))
theorem g_icmp_le (X : Stand p l e R s m args below meth c T locs cells slots) (hx : p.tables.exec = Jvm.exec) {x y : Int32} {o : Int} {pt : Nat} (hd : decode c.code pc = .ok (.if_icmp .le o, 3)) (ho : 0 ≤ (pc : Int) + o) (hp : ((pc : Int) + o).toNat = pt) (hp' : pc + 3 = pc') (kt : ¬ y < x → Goes p e below K T (mkF m pt Ls st)) (kf : y < x → Goes p e below K T (mkF m pc' Ls st)) : Goes p e below K T (mkF m pc Ls (.int y :: .int x :: st)) := by
  subst hp'
  by_cases q : if_icmp.holds .le x y = true
  · exact Goes.by' (fun _ r => XS.icmpYes X.here hx rfl (pc0 := pc) (pc' := pt) rfl hd rfl q ho hp r) (kt ((icmp_iff .le x y).mp q))
  · exact Goes.by' (fun _ r => XS.icmpNo X.here hx rfl hd rfl (by simpa using q) r) (kf (Classical.not_not.mp (mt (icmp_iff .le x y).mpr q)))
theorem g_if_le (X : Stand p l e R s m args below meth c T locs cells slots) (hx : p.tables.exec = Jvm.exec) {x : Int32} {o : Int} {pt : Nat} (hd : decode c.code pc = .ok (.ifCond .le o, 3)) (ho : 0 ≤ (pc : Int) + o) (hp : ((pc : Int) + o).toNat = pt) (hp' : pc + 3 = pc') (kt : ¬ 0 < x → Goes p e below K T (mkF m pt Ls st)) (kf : 0 < x → Goes p e below K T (mkF m pc' Ls st)) : Goes p e below K T (mkF m pc Ls (.int x :: st)) := by
  subst hp'
  by_cases q : if_icmp.holds .le x 0 = true
  · exact Goes.by' (fun _ r => XS.ifYes X.here hx rfl (pc0 := pc) (pc' := pt) rfl hd rfl (by rw [if0]; exact q) ho hp r) (kt ((icmp_iff .le x 0).mp q))
  · exact Goes.by' (fun _ r => XS.ifNo X.here hx rfl hd rfl (by rw [if0]; simpa using q) r) (kf (Classical.not_not.mp (mt (icmp_iff .le x 0).mpr q)))
theorem g_ifnull_t (X : Stand p l e R s m args below meth c T locs cells slots) (hx : p.tables.exec = Jvm.exec) {o : Int} {pt : Nat} (hd : decode c.code pc = .ok (.ifnull o, 3)) (ho : 0 ≤ (pc : Int) + o) (hp : ((pc : Int) + o).toNat = pt) (k : Goes p e below K T (mkF m pt Ls st)) : Goes p e below K T (mkF m pc Ls (.null :: st)) := Goes.by' (fun _ r => XS.ifnullYes X.here hx rfl (pc0 := pc) (pc' := pt) rfl hd rfl ho hp r) k
theorem g_ifnull_f (X : Stand p l e R s m args below meth c T locs cells slots) (hx : p.tables.exec = Jvm.exec) {o : Int} {a : Addr} (hd : decode c.code pc = .ok (.ifnull o, 3)) (hp : pc + 3 = pc') (k : Goes p e below K T (mkF m pc' Ls st)) : Goes p e below K T (mkF m pc Ls (.ref a :: st)) := by subst hp; exact Goes.by' (fun _ r => XS.ifnullNo X.here hx rfl hd rfl r) k
theorem g_ifnonnull_t (X : Stand p l e R s m args below meth c T locs cells slots) (hx : p.tables.exec = Jvm.exec) {o : Int} {a : Addr} {pt : Nat} (hd : decode c.code pc = .ok (.ifnonnull o, 3)) (ho : 0 ≤ (pc : Int) + o) (hp : ((pc : Int) + o).toNat = pt) (k : Goes p e below K T (mkF m pt Ls st)) : Goes p e below K T (mkF m pc Ls (.ref a :: st)) := Goes.by' (fun _ r => XT.ifnonnullYes X.here hx rfl (pc0 := pc) (pc' := pt) rfl hd rfl ho hp r) k
theorem g_ifnonnull_f (X : Stand p l e R s m args below meth c T locs cells slots) (hx : p.tables.exec = Jvm.exec) {o : Int} (hd : decode c.code pc = .ok (.ifnonnull o, 3)) (hp : pc + 3 = pc') (k : Goes p e below K T (mkF m pc' Ls st)) : Goes p e below K T (mkF m pc Ls (.null :: st)) := by subst hp; exact Goes.by' (fun _ r => XT.ifnonnullNo X.here hx rfl hd rfl r) k
theorem g_acmp_eq (X : Stand p l e R s m args below meth c T locs cells slots) (hx : p.tables.exec = Jvm.exec) {x y : Value} {o : Int} {pt : Nat} (hd : decode c.code pc = .ok (.if_acmp .eq o, 3)) (hx' : x.isRef = true) (hy' : y.isRef = true) (ho : 0 ≤ (pc : Int) + o) (hp : ((pc : Int) + o).toNat = pt) (hp' : pc + 3 = pc') (kt : x = y → Goes p e below K T (mkF m pt Ls st)) (kf : ¬ x = y → Goes p e below K T (mkF m pc' Ls st)) : Goes p e below K T (mkF m pc Ls (y :: x :: st)) := by
  subst hp'
  by_cases q : x = y
  · exact Goes.by' (fun _ r => XT.acmpYes X.here hx rfl (pc0 := pc) (pc' := pt) rfl hd rfl hx' hy' (by simp [XT.acmp, q]) ho hp r) (kt q)
  · exact Goes.by' (fun _ r => XT.acmpNo X.here hx rfl hd rfl hx' hy' (by simp [XT.acmp, q]) r) (kf q)
theorem g_acmp_ne (X : Stand p l e R s m args below meth c T locs cells slots) (hx : p.tables.exec = Jvm.exec) {x y : Value} {o : Int} {pt : Nat} (hd : decode c.code pc = .ok (.if_acmp .ne o, 3)) (hx' : x.isRef = true) (hy' : y.isRef = true) (ho : 0 ≤ (pc : Int) + o) (hp : ((pc : Int) + o).toNat = pt) (hp' : pc + 3 = pc') (kt : ¬ x = y → Goes p e below K T (mkF m pt Ls st)) (kf : x = y → Goes p e below K T (mkF m pc' Ls st)) : Goes p e below K T (mkF m pc Ls (y :: x :: st)) := by
  subst hp'
  by_cases q : x = y
  · exact Goes.by' (fun _ r => XT.acmpNo X.here hx rfl hd rfl hx' hy' (by simp [XT.acmp, q]) r) (kf q)
  · exact Goes.by' (fun _ r => XT.acmpYes X.here hx rfl (pc0 := pc) (pc' := pt) rfl hd rfl hx' hy' (by simp [XT.acmp, q]) ho hp r) (kt q)
theorem g_lsw (X : Stand p l e R s m args below meth c T locs cells slots) (hx : p.tables.exec = Jvm.exec) {i : Int32} {dflt o : Int} {prs : Array (Int × Int)} {len pt : Nat} (hd : decode c.code pc = .ok (.lookupswitch dflt prs, len)) (hso : ∀ (a b a_1 b_1 : Int), ((a, b), a_1, b_1) ∈ prs.toList.zip prs.toList.tail → a < a_1) (hoff : lookupswitch.offset prs.toList dflt i.toInt = o) (ho : 0 ≤ (pc : Int) + o) (hp : ((pc : Int) + o).toNat = pt) (k : Goes p e below K T (mkF m pt Ls st)) : Goes p e below K T (mkF m pc Ls (.int i :: st)) := by
  subst hp
  refine Goes.by' (fun t q => ?_) k
  show Steps p.tables e below (T.setTop { method := m, pc := pc, locals := Ls, stack := .int i :: st, locked := none }) t
  jvm_step X.here [X.here.top, hx, hd, lookupswitch.wp_chain, hoff, ho]
  exact ⟨hso, q⟩
theorem g_tsw (X : Stand p l e R s m args below meth c T locs cells slots) (hx : p.tables.exec = Jvm.exec) {i : Int32} {dflt lo hi o : Int} {offs : Array Int} {len pt : Nat} (hd : decode c.code pc = .ok (.tableswitch dflt lo hi offs, len)) (hin : ¬ (i.toInt < lo ∨ i.toInt > hi)) (hoff : offs[(i.toInt - lo).toNat]? = some o) (ho : 0 ≤ (pc : Int) + o) (hp : ((pc : Int) + o).toNat = pt) (k : Goes p e below K T (mkF m pt Ls st)) : Goes p e below K T (mkF m pc Ls (.int i :: st)) := Goes.by' (fun _ q => XS.tswIn X.here hx rfl (pc0 := pc) (pc' := pt) rfl hd rfl hin hoff ho hp q) k
theorem g_tswD (X : Stand p l e R s m args below meth c T locs cells slots) (hx : p.tables.exec = Jvm.exec) {i : Int32} {dflt lo hi : Int} {offs : Array Int} {len pt : Nat} (hd : decode c.code pc = .ok (.tableswitch dflt lo hi offs, len)) (hout : i.toInt < lo ∨ i.toInt > hi) (ho : 0 ≤ (pc : Int) + dflt) (hp : ((pc : Int) + dflt).toNat = pt) (k : Goes p e below K T (mkF m pt Ls st)) : Goes p e below K T (mkF m pc Ls (.int i :: st)) := Goes.by' (fun _ q => XS.tswOut X.here hx rfl (pc0 := pc) (pc' := pt) rfl hd rfl hout ho hp q) k
theorem g_getF (X : Stand p l e R s m args below meth c T locs cells slots) (hx : p.tables.exec = Jvm.exec) (hZ : Z.Warmed39 s.vm) {own O n d : String} {ix : Nat} {a : Addr} {v : Value} (hown : s.vm.findClass own = some m.cls) (w : (Cond.fieldLink own ix O n d).before a0 Z = true) (eT : T.heap = h) (F : Fld Z h a O n d v) (hd : decode c.code pc = .ok (.getfield ix, 3)) (hp : pc + 3 = pc') (k : ∀ T', Stand p l e R s m args below meth c T' locs cells slots → T'.heap = h → Goes p e below K T' (mkF m pc' Ls (v :: st))) : Goes p e below K T (mkF m pc Ls (.ref a :: st)) := by
  subst hp
  obtain ⟨T1, X1, e1, f1⟩ := getF X hx hZ hown (host := "") (Or.inl w) Via.refl eT F (g := mkF m pc Ls (.ref a :: st)) rfl rfl hd
  exact Goes.by' f1 (k T1 X1 e1)
theorem g_getS (X : Stand p l e R s m args below meth c T locs cells slots) (hx : p.tables.exec = Jvm.exec) (hZ : Z.Warmed39 s.vm) {own O n d : String} {ix : Nat} {v : Value} (hown : s.vm.findClass own = some m.cls) (w : (Cond.fieldLink own ix O n d).before a0 Z = true) (eT : T.heap = h) (F : Sta Z h O n d v) (hd : decode c.code pc = .ok (.getstatic ix, 3)) (hp : pc + 3 = pc') (k : ∀ T', Stand p l e R s m args below meth c T' locs cells slots → T'.heap = h → Goes p e below K T' (mkF m pc' Ls (v :: st))) : Goes p e below K T (mkF m pc Ls st) := by
  subst hp
  obtain ⟨T1, X1, e1, f1⟩ := getS X hx hZ hown (host := "") w Via.refl eT F (g := mkF m pc Ls st) rfl hd
  exact Goes.by' f1 (k T1 X1 e1)
theorem g_putF (X : Stand p l e R s m args below meth c T locs cells slots) (hx : p.tables.exec = Jvm.exec) (hZ : Z.Warmed39 s.vm) {own O n d C : String} {ix kk : Nat} {ty : FieldType} {a : Addr} {v old : Value} (hown : s.vm.findClass own = some m.cls) (w : (Cond.fieldLink own ix O n d).before a0 Z = true) (eT : T.heap = h) (F : Fld Z h a O n d old) (E : Exa Z h a C) (L : (Cond.lays C O n d).before a0 Z = true ∨ ((Cond.laysFinal C O n d).before a0 Z = true ∧ own = O ∧ meth.name = "<init>")) (wi : (Cond.instantiable C kk).before a0 Z = true) (hty : parseFieldDescriptor d = some ty) (hn : narrow ty v = v) (hf : fits ty v = true) (hd : decode c.code pc = .ok (.putfield ix, 3)) (hp : pc + 3 = pc') (k : ∀ T' h', Stand p l e R s m args below meth c T' (locs ++ [⟨a, Jvm.RoadKit.slotOf Z O n d⟩]) cells slots → T'.heap = h' → Wr h h' a (Jvm.RoadKit.slotOf Z O n d) v → Goes p e below K T' (mkF m pc' Ls st)) : Goes p e below K T (mkF m pc Ls (v :: .ref a :: st)) := by
  subst hp
  obtain ⟨T1, h1, X1, e1, W1, f1⟩ := putF X hx hZ hown (host := "") (Or.inl w) Via.refl eT F E L wi hty hn hf (g := mkF m pc Ls (v :: .ref a :: st)) rfl rfl hd
  exact Goes.by' f1 (k T1 h1 X1 e1 W1)
theorem g_new (X : Stand p l e R s m args below meth c T locs cells slots) (hx : p.tables.exec = Jvm.exec) (hZ : Z.Warmed39 s.vm) {own C : String} {ix n : Nat} (hown : s.vm.findClass own = some m.cls) (w : (Cond.classLink own ix C).before a0 Z = true) (wi : (Cond.instantiable C n).before a0 Z = true) (wz : (Cond.initialized C).before a0 Z = true) (eT : T.heap = h) (hd : decode c.code pc = .ok (.new ix, 3)) (hp : pc + 3 = pc') (hc : cells + 1 ≤ R.cells) (hl : slots + n ≤ R.slots) (k : ∀ T' h' a, Stand p l e R s m args below meth c T' locs (cells + 1) (slots + n) → T'.heap = h' → a = h.size → Ext h h' → Exa Z h' a C → (∀ {O nm d : String} {ty : FieldType}, Laid Z a0 C O nm d → parseFieldDescriptor d = some ty → Fld Z h' a O nm d (defaultValue ty)) → Goes p e below K T' (mkF m pc' Ls (.ref a :: st))) : Goes p e below K T (mkF m pc Ls st) := by
  subst hp
  obtain ⟨T1, h1, X1, e1, E1, A1, D1, -, f1⟩ := newO X hx hZ hown w wi wz eT (g := mkF m pc Ls st) rfl hd hc hl
  exact Goes.by' f1 (k T1 h1 _ X1 e1 rfl E1 A1 D1)
theorem g_newarr (X : Stand p l e R s m args below meth c T locs cells slots) (hx : p.tables.exec = Jvm.exec) (hZ : Z.Warmed39 s.vm) {aty : ArrayType} {ty : FieldType} (hty : newarray.typeOf aty = ty) (w : (Cond.arrayClass ty).before a0 Z = true) (eT : T.heap = h) {n : Int32} (hd : decode c.code pc = .ok (.newarray aty, 2)) (hp : pc + 2 = pc') (hn : ¬ n < 0) (cap : Nat) (hcap : n.toNatClampNeg ≤ cap) (hb : cap * 8 ≤ 536870912) (hc : cells + 1 ≤ R.cells) (hl : slots + cap ≤ R.slots) (k : ∀ T' h' cA a, Stand p l e R s m args below meth c T' locs (cells + 1) (slots + cap) → T'.heap = h' → a = h.size → Ext h h' → Arr Z h' a (newA cA ty n) ty → Goes p e below K T' (mkF m pc' Ls (.ref a :: st))) : Goes p e below K T (mkF m pc Ls (.int n :: st)) := by
  subst hp hty
  obtain ⟨T1, h1, cA, X1, e1, E1, A1, f1⟩ := newP X hx hZ w eT (g := mkF m pc Ls (.int n :: st)) rfl hd rfl hn hcap hb hc hl
  exact Goes.by' f1 (k T1 h1 cA _ X1 e1 rfl E1 A1)
theorem g_newR (X : Stand p l e R s m args below meth c T locs cells slots) (hx : p.tables.exec = Jvm.exec) (hZ : Z.Warmed39 s.vm) {own C : String} {ix : Nat} (hown : s.vm.findClass own = some m.cls) (w1 : (Cond.classLink own ix C).before a0 Z = true) (w2 : (Cond.arrayOver (.object C)).before a0 Z = true) (eT : T.heap = h) {n : Int32} (hd : decode c.code pc = .ok (.anewarray ix, 3)) (hp : pc + 3 = pc') (hn : ¬ n < 0) (cap : Nat) (hcap : n.toNatClampNeg ≤ cap) (hb : cap * 8 ≤ 536870912) (hc : cells + 1 ≤ R.cells) (hl : slots + cap ≤ R.slots) (k : ∀ T' h' cA a, Stand p l e R s m args below meth c T' locs (cells + 1) (slots + cap) → T'.heap = h' → a = h.size → Ext h h' → Arr Z h' a (newA cA (.object C) n) (.object C) → Ovr Z cA C → Goes p e below K T' (mkF m pc' Ls (.ref a :: st))) : Goes p e below K T (mkF m pc Ls (.int n :: st)) := by
  subst hp
  obtain ⟨T1, h1, cA, X1, e1, E1, A1, O1, f1⟩ := newR X hx hZ hown w1 w2 eT (g := mkF m pc Ls (.int n :: st)) rfl hd rfl hn hcap hb hc hl
  exact Goes.by' f1 (k T1 h1 cA _ X1 e1 rfl E1 A1 O1)
theorem g_initO (X : Stand p l e R s m args below meth c T locs cells slots) (hx : p.tables.exec = Jvm.exec) (hZ : Z.Warmed39 s.vm) {own : String} {ix : Nat} {a : Addr} (hown : s.vm.findClass own = some m.cls) (w1 : (Cond.methodLink own ix Lib.objectInit).before a0 Z = true) (w2 : (Cond.instanceMethod Lib.objectInit).before a0 Z = true) (w3 : (Cond.code Lib.objectInit ⟨#[0xb1]⟩ 1 none).before a0 Z = true) (eT : T.heap = h) (hsz : Ls.size = c.maxLocals) (hd : decode c.code pc = .ok (.invokespecial ix, 3)) (hp : pc + 3 = pc') (hf : 1 ≤ R.frames) (hl : (st.map fun v => v.category).sum + 12 ≤ R.locals) (k : ∀ T', Stand p l e R s m args below meth c T' locs cells slots → T'.heap = h → Goes p e below K T' (mkF m pc' Ls st)) : Goes p e below K T (mkF m pc Ls (.ref a :: st)) := by
  subst hp
  obtain ⟨T1, X1, e1, f1⟩ := initO X hx hZ hown w1 w2 w3 eT (g := mkF m pc Ls (.ref a :: st)) rfl hsz rfl hd hf (W := (st.map fun v => v.category).sum) (by show 2 * 0 + _ ≤ _; omega) hl
  exact Goes.by' f1 (k T1 X1 e1)
theorem g_iaload (X : Stand p l e R s m args below meth c T locs cells slots) (hx : p.tables.exec = Jvm.exec) (hZ : Z.Warmed39 s.vm) (eT : T.heap = h) {a : Addr} {cl : Cell} {j : Int32} {v : Value} (A : Arr Z h a cl .int) (hin : ¬ (j < 0 ∨ cl.slots.size ≤ j.toNatClampNeg)) (hat : cl.slots[j.toNatClampNeg]? = some v) (hd : decode c.code pc = .ok (.iaload, 1)) (hp : pc + 1 = pc') (k : Goes p e below K T (mkF m pc' Ls (v :: st))) : Goes p e below K T (mkF m pc Ls (.int j :: .ref a :: st)) := by
  subst hp
  exact Goes.by' (fun _ q => X.iaload hx (j := j) (v := v) (by rw [eT]; exact A.1) (State.isArrayOf_alike hZ.alike A.2.1) A.2.2 hin hat (g := mkF m pc Ls (.int j :: .ref a :: st)) rfl rfl hd _ q) k
theorem g_laload (X : Stand p l e R s m args below meth c T locs cells slots) (hx : p.tables.exec = Jvm.exec) (hZ : Z.Warmed39 s.vm) (eT : T.heap = h) {a : Addr} {cl : Cell} {j : Int32} {v : Value} (A : Arr Z h a cl .long) (hin : ¬ (j < 0 ∨ cl.slots.size ≤ j.toNatClampNeg)) (hat : cl.slots[j.toNatClampNeg]? = some v) (hd : decode c.code pc = .ok (.laload, 1)) (hp : pc + 1 = pc') (k : Goes p e below K T (mkF m pc' Ls (v :: st))) : Goes p e below K T (mkF m pc Ls (.int j :: .ref a :: st)) := by
  subst hp
  exact Goes.by' (fun _ q => X.laload hx (j := j) (v := v) (by rw [eT]; exact A.1) (State.isArrayOf_alike hZ.alike A.2.1) A.2.2 hin hat (g := mkF m pc Ls (.int j :: .ref a :: st)) rfl rfl hd _ q) k
theorem g_caload (X : Stand p l e R s m args below meth c T locs cells slots) (hx : p.tables.exec = Jvm.exec) (hZ : Z.Warmed39 s.vm) (eT : T.heap = h) {a : Addr} {cl : Cell} {j : Int32} {v : Value} (A : Arr Z h a cl .char) (hin : ¬ (j < 0 ∨ cl.slots.size ≤ j.toNatClampNeg)) (hat : cl.slots[j.toNatClampNeg]? = some v) (hd : decode c.code pc = .ok (.caload, 1)) (hp : pc + 1 = pc') (k : Goes p e below K T (mkF m pc' Ls (v :: st))) : Goes p e below K T (mkF m pc Ls (.int j :: .ref a :: st)) := by
  subst hp
  exact Goes.by' (fun _ q => X.caload hx (j := j) (v := v) (by rw [eT]; exact A.1) (State.isArrayOf_alike hZ.alike A.2.1) A.2.2 hin hat (g := mkF m pc Ls (.int j :: .ref a :: st)) rfl rfl hd _ q) k
theorem g_baload (X : Stand p l e R s m args below meth c T locs cells slots) (hx : p.tables.exec = Jvm.exec) (hZ : Z.Warmed39 s.vm) (eT : T.heap = h) {a : Addr} {cl : Cell} {j : Int32} {v : Value} (A : Arr Z h a cl .byte) (hin : ¬ (j < 0 ∨ cl.slots.size ≤ j.toNatClampNeg)) (hat : cl.slots[j.toNatClampNeg]? = some v) (hd : decode c.code pc = .ok (.baload, 1)) (hp : pc + 1 = pc') (k : Goes p e below K T (mkF m pc' Ls (v :: st))) : Goes p e below K T (mkF m pc Ls (.int j :: .ref a :: st)) := by
  subst hp
  exact Goes.by' (fun _ q => X.baloadBytes hx (j := j) (v := v) (by rw [eT]; exact A.1) (State.isArrayOf_alike hZ.alike A.2.1) A.2.2 hin hat (g := mkF m pc Ls (.int j :: .ref a :: st)) rfl rfl hd _ q) k
theorem g_aaload (X : Stand p l e R s m args below meth c T locs cells slots) (hx : p.tables.exec = Jvm.exec) (hZ : Z.Warmed39 s.vm) (eT : T.heap = h) {a : Addr} {cl : Cell} {ty : FieldType} {j : Int32} {v : Value} (A : Arr Z h a cl ty) (hty : ty.isReference = true) (hin : ¬ (j < 0 ∨ cl.slots.size ≤ j.toNatClampNeg)) (hat : cl.slots[j.toNatClampNeg]? = some v) (hd : decode c.code pc = .ok (.aaload, 1)) (hp : pc + 1 = pc') (k : Goes p e below K T (mkF m pc' Ls (v :: st))) : Goes p e below K T (mkF m pc Ls (.int j :: .ref a :: st)) := by
  subst hp
  exact Goes.by' (fun _ q => X.aaload hx (j := j) (v := v) (by rw [eT]; exact A.1) (State.isArrayOf_alike hZ.alike A.2.1) hty A.2.2 hin hat (g := mkF m pc Ls (.int j :: .ref a :: st)) rfl rfl hd _ q) k
theorem g_arraylength (X : Stand p l e R s m args below meth c T locs cells slots) (hx : p.tables.exec = Jvm.exec) (hZ : Z.Warmed39 s.vm) (eT : T.heap = h) {a : Addr} {cl : Cell} {ty : FieldType} {n : Int32} (A : Arr Z h a cl ty) (hn : cl.slots.size.toInt32 = n) (hd : decode c.code pc = .ok (.arraylength, 1)) (hp : pc + 1 = pc') (k : Goes p e below K T (mkF m pc' Ls (.int n :: st))) : Goes p e below K T (mkF m pc Ls (.ref a :: st)) := by
  subst hp hn
  exact Goes.by' (fun _ q => X.arraylength hx (by rw [eT]; exact A.1) (State.isArrayOf_alike hZ.alike A.2.1) (g := mkF m pc Ls (.ref a :: st)) rfl rfl hd _ q) k
theorem g_iastore (X : Stand p l e R s m args below meth c T locs cells slots) (hx : p.tables.exec = Jvm.exec) (hZ : Z.Warmed39 s.vm) (eT : T.heap = h) {a : Addr} {cl : Cell} {j : Int32} {x : Int32} (A : Arr Z h a cl .int) (hin : ¬ (j < 0 ∨ cl.slots.size ≤ j.toNatClampNeg)) (hd : decode c.code pc = .ok (.iastore, 1)) (hp : pc + 1 = pc') (k : ∀ T' h', Stand p l e R s m args below meth c T' (locs ++ [⟨a, j.toNatClampNeg⟩]) cells slots → T'.heap = h' → Wr h h' a j.toNatClampNeg (.int x) → Goes p e below K T' (mkF m pc' Ls st)) : Goes p e below K T (mkF m pc Ls (.int x :: .int j :: .ref a :: st)) := by
  subst hp
  obtain ⟨T1, h1, X1, e1, W1, f1⟩ := stI X hx hZ eT A hin (g := mkF m pc Ls (.int x :: .int j :: .ref a :: st)) rfl rfl hd
  exact Goes.by' f1 (k T1 h1 X1 e1 W1)
theorem g_lastore (X : Stand p l e R s m args below meth c T locs cells slots) (hx : p.tables.exec = Jvm.exec) (hZ : Z.Warmed39 s.vm) (eT : T.heap = h) {a : Addr} {cl : Cell} {j : Int32} {x : Int64} (A : Arr Z h a cl .long) (hin : ¬ (j < 0 ∨ cl.slots.size ≤ j.toNatClampNeg)) (hd : decode c.code pc = .ok (.lastore, 1)) (hp : pc + 1 = pc') (k : ∀ T' h', Stand p l e R s m args below meth c T' (locs ++ [⟨a, j.toNatClampNeg⟩]) cells slots → T'.heap = h' → Wr h h' a j.toNatClampNeg (.long x) → Goes p e below K T' (mkF m pc' Ls st)) : Goes p e below K T (mkF m pc Ls (.long x :: .int j :: .ref a :: st)) := by
  subst hp
  obtain ⟨T1, h1, X1, e1, W1, f1⟩ := stJ X hx hZ eT A hin (g := mkF m pc Ls (.long x :: .int j :: .ref a :: st)) rfl rfl hd
  exact Goes.by' f1 (k T1 h1 X1 e1 W1)
theorem g_castore (X : Stand p l e R s m args below meth c T locs cells slots) (hx : p.tables.exec = Jvm.exec) (hZ : Z.Warmed39 s.vm) (eT : T.heap = h) {a : Addr} {cl : Cell} {j : Int32} {x : Int32} (A : Arr Z h a cl .char) (hin : ¬ (j < 0 ∨ cl.slots.size ≤ j.toNatClampNeg)) (hd : decode c.code pc = .ok (.castore, 1)) (hp : pc + 1 = pc') (k : ∀ T' h', Stand p l e R s m args below meth c T' (locs ++ [⟨a, j.toNatClampNeg⟩]) cells slots → T'.heap = h' → Wr h h' a j.toNatClampNeg (.int (nar .char x)) → Goes p e below K T' (mkF m pc' Ls st)) : Goes p e below K T (mkF m pc Ls (.int x :: .int j :: .ref a :: st)) := by
  subst hp
  obtain ⟨T1, h1, X1, e1, W1, f1⟩ := stC X hx hZ eT A hin (g := mkF m pc Ls (.int x :: .int j :: .ref a :: st)) rfl rfl hd
  exact Goes.by' f1 (k T1 h1 X1 e1 W1)
theorem g_bastore (X : Stand p l e R s m args below meth c T locs cells slots) (hx : p.tables.exec = Jvm.exec) (hZ : Z.Warmed39 s.vm) (eT : T.heap = h) {a : Addr} {cl : Cell} {j : Int32} {x : Int32} (A : Arr Z h a cl .byte) (hin : ¬ (j < 0 ∨ cl.slots.size ≤ j.toNatClampNeg)) (hd : decode c.code pc = .ok (.bastore, 1)) (hp : pc + 1 = pc') (k : ∀ T' h', Stand p l e R s m args below meth c T' (locs ++ [⟨a, j.toNatClampNeg⟩]) cells slots → T'.heap = h' → Wr h h' a j.toNatClampNeg (.int (nar .byte x)) → Goes p e below K T' (mkF m pc' Ls st)) : Goes p e below K T (mkF m pc Ls (.int x :: .int j :: .ref a :: st)) := by
  subst hp
  obtain ⟨T1, h1, X1, e1, W1, f1⟩ := stB X hx hZ eT A hin (g := mkF m pc Ls (.int x :: .int j :: .ref a :: st)) rfl rfl hd
  exact Goes.by' f1 (k T1 h1 X1 e1 W1)
theorem g_aastore (X : Stand p l e R s m args below meth c T locs cells slots) (hx : p.tables.exec = Jvm.exec) (hZ : Z.Warmed39 s.vm) (eT : T.heap = h) {a : Addr} {cl : Cell} {ty : FieldType} {j : Int32} {v : Value} (A : Arr Z h a cl ty) (hty : ty.isReference = true) (F : Sto Z h a v) (hin : ¬ (j < 0 ∨ cl.slots.size ≤ j.toNatClampNeg)) (hd : decode c.code pc = .ok (.aastore, 1)) (hp : pc + 1 = pc') (k : ∀ T' h', Stand p l e R s m args below meth c T' (locs ++ [⟨a, j.toNatClampNeg⟩]) cells slots → T'.heap = h' → Wr h h' a j.toNatClampNeg v → Goes p e below K T' (mkF m pc' Ls st)) : Goes p e below K T (mkF m pc Ls (v :: .int j :: .ref a :: st)) := by
  subst hp
  obtain ⟨T1, h1, X1, e1, W1, f1⟩ := stR X hx hZ eT A hin hty F (g := mkF m pc Ls (v :: .int j :: .ref a :: st)) rfl rfl hd
  exact Goes.by' f1 (k T1 h1 X1 e1 W1)
theorem g_callS (X : Stand p l e R s m args below meth c T locs cells slots) (hx : p.tables.exec = Jvm.exec) (hZ : Z.Warmed39 s.vm) {own : String} {ix : Nat} {y : MethodName} {bytes : ByteArray} {maxL : Nat} {ret : Option FieldType} {rm : Room} {as' : Array Value} {Q : Option Value → Heap → List Loc → Prop} (hown : s.vm.findClass own = some m.cls) (w1 : (Cond.methodLink own ix y).before a0 Z = true) (w2 : (Cond.static y).before a0 Z = true) (w3 : (Cond.initialized y.cls).before a0 Z = true) (w4 : (Cond.code y bytes maxL ret).before a0 Z = true) (hy : y.cls ≠ "java/lang/invoke/MethodHandle" ∧ y.cls ≠ "java/lang/invoke/VarHandle") (eT : T.heap = h) (C : Ctr l Z y bytes maxL ret [] rm rm.cells rm.slots as' h Q) (hsz : Ls.size = c.maxLocals) (argsL rest : List Value) (has : argsL.toArray = as') (hlen : ∀ sig, parseMethodDescriptor y.desc = some sig → argsL.length = sig.parameters.length) (hst : st = argsL.reverse ++ rest) (hl : (rest.map fun v => v.category).sum + (maxL + 11) + rm.locals ≤ R.locals) (hf : rm.frames + 1 ≤ R.frames) (hc : cells + rm.cells ≤ R.cells) (hsl : slots + rm.slots ≤ R.slots) (hd : decode c.code pc = .ok (.invokestatic ix, 3)) (hp : pc + 3 = pc') (k : ∀ T' v L, Stand p l e R s m args below meth c T' (locs ++ L) (cells + rm.cells) (slots + rm.slots) → Q v T'.heap L → Goes p e below K T' (mkF m pc' Ls (v.toList ++ rest))) : Goes p e below K T (mkF m pc Ls st) := by
  subst hp
  obtain ⟨v, _, ⟨T1, L1, k1, n1⟩, -, X1, ⟨L, hQ, l1, y1, z1⟩, f1⟩ := Jvm.LawKit.callS X hx (y := y) hown (mvT hZ w1) (mvT hZ w2) (mvT hZ w3) (mvT hZ w4) hy (backOf (W := (rest.map fun v => v.category).sum) C hZ w4 w3 hf hl) (g := mkF m pc Ls st) rfl hsz (argsL := argsL) (rest := rest) hlen hst (by show 2 * 0 + _ ≤ _; omega) hd (fun _ _ => ⟨has, eT, hc, hsl⟩)
  dsimp only [Pt.U, Pt.locs, Pt.cells, Pt.slots] at X1 l1 y1 z1 f1 hQ
  subst l1 y1 z1
  exact Goes.by' f1 (k T1 v L X1 hQ)
theorem g_callI (X : Stand p l e R s m args below meth c T locs cells slots) (hx : p.tables.exec = Jvm.exec) (hZ : Z.Warmed39 s.vm) {own : String} {ix : Nat} {y : MethodName} {bytes : ByteArray} {maxL : Nat} {rm : Room} {as' : Array Value} {Q : Option Value → Heap → List Loc → Prop} (hy1 : y.name = "<init>") (hown : s.vm.findClass own = some m.cls) (w1 : (Cond.methodLink own ix y).before a0 Z = true) (w2 : (Cond.instanceMethod y).before a0 Z = true) (w3 : (Cond.initialized y.cls).before a0 Z = true) (w4 : (Cond.code y bytes maxL none).before a0 Z = true) (hy : y.cls ≠ "java/lang/invoke/MethodHandle" ∧ y.cls ≠ "java/lang/invoke/VarHandle") (eT : T.heap = h) (C : Ctr l Z y bytes maxL none [] rm rm.cells rm.slots as' h Q) (hsz : Ls.size = c.maxLocals) (a : Addr) (argsL rest : List Value) (has : (.ref a :: argsL).toArray = as') (hlen : ∀ sig, parseMethodDescriptor y.desc = some sig → argsL.length = sig.parameters.length) (hst : st = argsL.reverse ++ .ref a :: rest) (hl : (rest.map fun v => v.category).sum + (maxL + 11) + rm.locals ≤ R.locals) (hf : rm.frames + 1 ≤ R.frames) (hc : cells + rm.cells ≤ R.cells) (hsl : slots + rm.slots ≤ R.slots) (hd : decode c.code pc = .ok (.invokespecial ix, 3)) (hp : pc + 3 = pc') (k : ∀ T' v L, Stand p l e R s m args below meth c T' (locs ++ L) (cells + rm.cells) (slots + rm.slots) → Q v T'.heap L → Goes p e below K T' (mkF m pc' Ls (v.toList ++ rest))) : Goes p e below K T (mkF m pc Ls st) := by
  subst hp
  obtain ⟨v, _, ⟨T1, L1, k1, n1⟩, -, X1, ⟨L, hQ, l1, y1, z1⟩, f1⟩ := X.specialBack hx (y := y) hy1 hown (mvT hZ w1) (mvT hZ w2) (mvT hZ w4) hy (backOf (W := (rest.map fun v => v.category).sum) C hZ w4 w3 hf hl) (g := mkF m pc Ls st) rfl hsz (Steps.refl _) (a := a) (argsL := argsL) (rest := rest) hlen hst (by show 2 * 0 + _ ≤ _; omega) hd (fun _ _ => ⟨has, eT, hc, hsl⟩)
  dsimp only [Pt.U, Pt.locs, Pt.cells, Pt.slots] at X1 l1 y1 z1 f1 hQ
  subst l1 y1 z1
  exact Goes.by' (fun _ q => f1.trans q) (k T1 v L X1 hQ)
theorem g_callV (X : Stand p l e R s m args below meth c T locs cells slots) (hx : p.tables.exec = Jvm.exec) (hZ : Z.Warmed39 s.vm) {own : String} {ix : Nat} {y : MethodName} {bytes : ByteArray} {maxL : Nat} {ret : Option FieldType} {rm : Room} {as' : Array Value} {Q : Option Value → Heap → List Loc → Prop} {C0 : String} (hown : s.vm.findClass own = some m.cls) (w1 : (Cond.methodLink own ix y).before a0 Z = true) (w2 : (Cond.declares y).before a0 Z = true) (w5 : (Cond.selects C0 y y).before a0 Z = true) (w6 : (Cond.instanceMethod y).before a0 Z = true) (w3 : (Cond.initialized y.cls).before a0 Z = true) (w4 : (Cond.code y bytes maxL ret).before a0 Z = true) (hy : y.cls ≠ "java/lang/invoke/MethodHandle" ∧ y.cls ≠ "java/lang/invoke/VarHandle") (eT : T.heap = h) (a : Addr) (E : Exa Z h a C0) (C : Ctr l Z y bytes maxL ret [] rm rm.cells rm.slots as' h Q) (hsz : Ls.size = c.maxLocals) (argsL rest : List Value) (has : (.ref a :: argsL).toArray = as') (hlen : ∀ sig, parseMethodDescriptor y.desc = some sig → argsL.length = sig.parameters.length) (hst : st = argsL.reverse ++ .ref a :: rest) (hl : (rest.map fun v => v.category).sum + (maxL + 11) + rm.locals ≤ R.locals) (hf : rm.frames + 1 ≤ R.frames) (hc : cells + rm.cells ≤ R.cells) (hsl : slots + rm.slots ≤ R.slots) (hd : decode c.code pc = .ok (.invokevirtual ix, 3)) (hp : pc + 3 = pc') (k : ∀ T' v L, Stand p l e R s m args below meth c T' (locs ++ L) (cells + rm.cells) (slots + rm.slots) → Q v T'.heap L → Goes p e below K T' (mkF m pc' Ls (v.toList ++ rest))) : Goes p e below K T (mkF m pc Ls st) := by
  subst hp
  obtain ⟨cq, kq, qa, qb, qc⟩ := isOf hZ eT E
  obtain ⟨v, _, ⟨T1, L1, k1, n1⟩, -, X1, ⟨L, hQ, l1, y1, z1⟩, f1⟩ := X.virtualBack hx (y := y) (z := y) hown (mvT hZ w1) (mvT hZ w2) (notFace_of_selects (args := #[]) (mvT hZ w5)) (mvT hZ w5) (mvT hZ w6) hy (backOf (W := (rest.map fun v => v.category).sum) C hZ w4 w3 hf hl) qa qc (g := mkF m pc Ls st) rfl hsz (Steps.refl _) (argsL := argsL) (rest := rest) hlen hst (by show 2 * 0 + _ ≤ _; omega) hd (fun _ _ => ⟨has, eT, hc, hsl⟩)
  dsimp only [Pt.U, Pt.locs, Pt.cells, Pt.slots] at X1 l1 y1 z1 f1 hQ
  subst l1 y1 z1
  exact Goes.by' (fun _ q => f1.trans q) (k T1 v L X1 hQ)
theorem g_callP (X : Stand p l e R s m args below meth c T locs cells slots) (hx : p.tables.exec = Jvm.exec) (hZ : Z.Warmed39 s.vm) {own : String} {ix : Nat} {y : MethodName} {bytes : ByteArray} {maxL : Nat} {ret : Option FieldType} {rm : Room} {as' : Array Value} {Q : Option Value → Heap → List Loc → Prop} {kk : Nat} {C0 : String} (hown : s.vm.findClass own = some m.cls) (w1 : (Cond.methodLink own ix y).before a0 Z = true) (wi : (Cond.instantiable y.cls kk).before a0 Z = true) (wp : (Cond.privateMethod y).before a0 Z = true) (w6 : (Cond.instanceMethod y).before a0 Z = true) (w3 : (Cond.initialized y.cls).before a0 Z = true) (w4 : (Cond.code y bytes maxL ret).before a0 Z = true) (hy : y.cls ≠ "java/lang/invoke/MethodHandle" ∧ y.cls ≠ "java/lang/invoke/VarHandle") (eT : T.heap = h) (a : Addr) (E : Exa Z h a C0) (C : Ctr l Z y bytes maxL ret [] rm rm.cells rm.slots as' h Q) (hsz : Ls.size = c.maxLocals) (argsL rest : List Value) (has : (.ref a :: argsL).toArray = as') (hlen : ∀ sig, parseMethodDescriptor y.desc = some sig → argsL.length = sig.parameters.length) (hst : st = argsL.reverse ++ .ref a :: rest) (hl : (rest.map fun v => v.category).sum + (maxL + 11) + rm.locals ≤ R.locals) (hf : rm.frames + 1 ≤ R.frames) (hc : cells + rm.cells ≤ R.cells) (hsl : slots + rm.slots ≤ R.slots) (hd : decode c.code pc = .ok (.invokevirtual ix, 3)) (hp : pc + 3 = pc') (k : ∀ T' v L, Stand p l e R s m args below meth c T' (locs ++ L) (cells + rm.cells) (slots + rm.slots) → Q v T'.heap L → Goes p e below K T' (mkF m pc' Ls (v.toList ++ rest))) : Goes p e below K T (mkF m pc Ls st) := by
  subst hp
  obtain ⟨cell, hcell, hobj⟩ := E.cell
  have wi' : (Cond.instantiable y.cls kk).before args s = true := mvT hZ wi
  obtain ⟨c1, k1, i1, i2, i3, i4, -⟩ := Cond.instantiable_spec wi'
  have hni : k1.isInterface = false := by revert i4; cases k1.isInterface <;> simp
  have hpv : s.PrivateAt y := Cond.privateMethod_at (mvP hZ wp (args := #[]))
  have hsel : (Cond.selects y.cls y y).before args s = true := Jvm.Stand.selects_self_of_private i1 i2 hni hpv (mvT hZ w6) hy
  obtain ⟨v, _, ⟨T1, L1, k1, n1⟩, -, X1, ⟨L, hQ, l1, y1, z1⟩, f1⟩ := X.privateBack hx (y := y) hown (mvT hZ w1) (mvT hZ w6) hsel hpv (mvT hZ w4) hy (backOf (W := (rest.map fun v => v.category).sum) C hZ w4 w3 hf hl) (g := mkF m pc Ls st) rfl hsz (Steps.refl _) (a := a) (by rw [eT]; exact hcell) hobj (argsL := argsL) (rest := rest) hlen hst (by show 2 * 0 + _ ≤ _; omega) hd (fun _ _ => ⟨has, eT, hc, hsl⟩)
  dsimp only [Pt.U, Pt.locs, Pt.cells, Pt.slots] at X1 l1 y1 z1 f1 hQ
  subst l1 y1 z1
  exact Goes.by' (fun _ q => f1.trans q) (k T1 v L X1 hQ)
theorem g_retI (X : Stand p l e R s m args below meth c T locs cells slots) (hx : p.tables.exec = Jvm.exec) {C S : Nat} {Q : Option Value → Heap → List Loc → Prop} {z : Int32} (hlk : meth.locks = false) (hret : meth.sig.returnType = some .int) (eT : T.heap = h) (hc : cells ≤ C) (hs : slots ≤ S) (hd : decode c.code pc = .ok (.ireturn, 1)) (hQ : Q (some (.int z)) h locs) : Goes p e below (KQ s C S Q) T (mkF m pc Ls (.int z :: st)) := by
  obtain ⟨fs, hr, hrun, hended, hW, hsame⟩ := X.leave (v := some (.int z)) (fun q => by rw [hret] at q; cases q) hlk
  exact ⟨_, _, retOut X hx hret rfl (Or.inl ⟨rfl, Or.inl rfl, _, rfl⟩) hd hr, hrun, hended, _, _, rfl, by subst eT; exact hQ, ⟨_, rfl⟩, hW, hsame.mono hc hs⟩
theorem g_retJ (X : Stand p l e R s m args below meth c T locs cells slots) (hx : p.tables.exec = Jvm.exec) {C S : Nat} {Q : Option Value → Heap → List Loc → Prop} {z : Int64} (hlk : meth.locks = false) (hret : meth.sig.returnType = some .long) (eT : T.heap = h) (hc : cells ≤ C) (hs : slots ≤ S) (hd : decode c.code pc = .ok (.lreturn, 1)) (hQ : Q (some (.long z)) h locs) : Goes p e below (KQ s C S Q) T (mkF m pc Ls (.long z :: st)) := by
  obtain ⟨fs, hr, hrun, hended, hW, hsame⟩ := X.leave (v := some (.long z)) (fun q => by rw [hret] at q; cases q) hlk
  exact ⟨_, _, retOut X hx hret rfl (Or.inr (Or.inl ⟨rfl, rfl, _, rfl⟩)) hd hr, hrun, hended, _, _, rfl, by subst eT; exact hQ, ⟨_, rfl⟩, hW, hsame.mono hc hs⟩
theorem g_retN (X : Stand p l e R s m args below meth c T locs cells slots) (hx : p.tables.exec = Jvm.exec) {C S : Nat} {Q : Option Value → Heap → List Loc → Prop} {z : Int32} {t : FieldType} (ht : t = .boolean ∨ t = .byte ∨ t = .char ∨ t = .short) (hlk : meth.locks = false) (hret : meth.sig.returnType = some t) (eT : T.heap = h) (hc : cells ≤ C) (hs : slots ≤ S) (hd : decode c.code pc = .ok (.ireturn, 1)) (hQ : Q (some (.int (nar t z))) h locs) : Goes p e below (KQ s C S Q) T (mkF m pc Ls (.int z :: st)) := by
  obtain ⟨fs, hr, hrun, hended, hW, hsame⟩ := X.leave (v := some (.int (nar t z))) (fun q => by rw [hret] at q; cases q) hlk
  exact ⟨_, _, retN X hx hret ht hd hr, hrun, hended, _, _, rfl, by subst eT; exact hQ, ⟨_, rfl⟩, hW, hsame.mono hc hs⟩
theorem g_retA (X : Stand p l e R s m args below meth c T locs cells slots) (hx : p.tables.exec = Jvm.exec) {C S : Nat} {Q : Option Value → Heap → List Loc → Prop} {v : Value} {t : FieldType} (hv : v.isRef = true) (ht : t.isReference = true) (hlk : meth.locks = false) (hret : meth.sig.returnType = some t) (eT : T.heap = h) (hc : cells ≤ C) (hs : slots ≤ S) (hd : decode c.code pc = .ok (.areturn, 1)) (hQ : Q (some v) h locs) : Goes p e below (KQ s C S Q) T (mkF m pc Ls (v :: st)) := by
  obtain ⟨fs, hr, hrun, hended, hW, hsame⟩ := X.leave (v := some v) (fun q => by rw [hret] at q; cases q) hlk
  have hn : narrow t v = v := by cases v <;> simp [Value.isRef] at hv <;> cases t <;> simp [FieldType.isReference] at ht <;> rfl
  exact ⟨_, _, retOut X hx hret hn (Or.inr (Or.inr (Or.inr (Or.inr ⟨rfl, ht, hv⟩)))) hd hr, hrun, hended, _, _, rfl, by subst eT; exact hQ, ⟨_, rfl⟩, hW, hsame.mono hc hs⟩
theorem g_ret (X : Stand p l e R s m args below meth c T locs cells slots) (hx : p.tables.exec = Jvm.exec) {C S : Nat} {Q : Option Value → Heap → List Loc → Prop} (hlk : meth.locks = false) (hret : meth.sig.returnType = none) (eT : T.heap = h) (hc : cells ≤ C) (hs : slots ≤ S) (hd : decode c.code pc = .ok (.return_, 1)) (hQ : Q none h locs) : Goes p e below (KQ s C S Q) T (mkF m pc Ls []) := by
  obtain ⟨fs, hr, hrun, hended, hW, hsame⟩ := X.leave (v := none) (fun _ => rfl) hlk
  exact ⟨_, _, X.returnOut hx hret hd hr, hrun, hended, _, _, rfl, by subst eT; exact hQ, ⟨_, rfl⟩, hW, hsame.mono hc hs⟩
end OwnGo
def ArI (Z : State) (h : Heap) (b : Addr) (ty : FieldType) (n : Nat) (f : Nat → Int32) : Prop := ∃ cl, Arr Z h b cl ty ∧ cl.slots.size = n ∧ ∀ j, j < n → cl.slots[j]? = some (.int (f j))
section ArSI
variable {Z : State} {h h' : Heap} {a b : Addr} {ty : FieldType} {n sl : Nat} {f : Nat → Int32} {v : Value} {ws : List Addr}
theorem ArI.new {cA : ClassId} {z : Int32} (A : Arr Z h a (newA cA ty z) ty) (x : Int32) (hd : defaultValue ty = .int x) : ArI Z h a ty z.toNatClampNeg (fun _ => x) := ⟨_, A, sz_new _ _ _, fun j hj => by simp only [newA, ← hd]; rw [Array.getElem?_replicate, if_pos hj]⟩
theorem ArI.lt (F : ArI Z h b ty n f) : b < h.size := by obtain ⟨c, A, -⟩ := F; exact A.lt
theorem ArI.ext (F : ArI Z h b ty n f) (E : Ext h h') : ArI Z h' b ty n f := by obtain ⟨c, A, r⟩ := F; exact ⟨c, A.ext E, r⟩
theorem ArI.other (F : ArI Z h b ty n f) (W : Wr h h' a sl v) (q : b ≠ a) : ArI Z h' b ty n f := by obtain ⟨c, A, r⟩ := F; exact ⟨c, A.other W q, r⟩
theorem ArI.keep (F : ArI Z h b ty n f) (K : Keep h h' ws) (q : b ∉ ws) : ArI Z h' b ty n f := by obtain ⟨c, A, r⟩ := F; exact ⟨c, ⟨K.2.1 b c A.1 q, A.2⟩, r⟩
theorem ArI.set {x : Int32} (F : ArI Z h b ty n f) (W : Wr h h' b sl (.int (x))) : ArI Z h' b ty n (fun k => if k = sl then x else f k) := by
  obtain ⟨c, A, hs, H⟩ := F
  refine ⟨_, A.same W, by rw [sz_set]; exact hs, fun j hj => ?_⟩
  by_cases e : j = sl
  · subst e; simp only [Cell.setSlot, if_true]; rw [Array.getElem?_setIfInBounds_self_of_lt (by rw [hs]; exact hj)]
  · simp only [Cell.setSlot]; rw [Array.getElem?_setIfInBounds_ne (Ne.symm e), if_neg e]; exact H j hj
theorem ArI.inb {j : Int32} {c : Cell} (hs : c.slots.size = n) (h0 : ¬ j < 0) (h1 : j.toNatClampNeg < n) : ¬ (j < 0 ∨ c.slots.size ≤ j.toNatClampNeg) := by rw [hs]; rintro (q | q); exact h0 q; omega
end ArSI
section ArGI
variable {p : Program} {l : Launch} {e : Env} {R : Room} {s : State} {m : MethodId} {args : Array Value} {below : List Frame} {meth : Method} {c : Code} {T : State} {locs : List Loc} {cells slots : Nat} {Z : State} {a0 : Array Value} {h : Heap} {K : Outcome → State → Prop} {pc pc' : Nat} {Ls : Array Slot} {st : List Value}
theorem g_iaload' (X : Stand p l e R s m args below meth c T locs cells slots) (hx : p.tables.exec = Jvm.exec) (hZ : Z.Warmed39 s.vm) (eT : T.heap = h) {b : Addr} {n : Nat} {f : Nat → Int32} {j : Int32} {x : Int32} (A : ArI Z h b .int n f) (h0 : ¬ j < 0) (h1 : j.toNatClampNeg < n) (hv : f j.toNatClampNeg = x) (hd : decode c.code pc = .ok (.iaload, 1)) (hp : pc + 1 = pc') (k : Goes p e below K T (mkF m pc' Ls (.int (x) :: st))) : Goes p e below K T (mkF m pc Ls (.int j :: .ref b :: st)) := by
  obtain ⟨cl, A, hs, H⟩ := A
  exact g_iaload X hx hZ eT A (ArI.inb hs h0 h1) (by rw [H _ h1, hv]) hd hp k
theorem g_caload' (X : Stand p l e R s m args below meth c T locs cells slots) (hx : p.tables.exec = Jvm.exec) (hZ : Z.Warmed39 s.vm) (eT : T.heap = h) {b : Addr} {n : Nat} {f : Nat → Int32} {j : Int32} {x : Int32} (A : ArI Z h b .char n f) (h0 : ¬ j < 0) (h1 : j.toNatClampNeg < n) (hv : f j.toNatClampNeg = x) (hd : decode c.code pc = .ok (.caload, 1)) (hp : pc + 1 = pc') (k : Goes p e below K T (mkF m pc' Ls (.int (x) :: st))) : Goes p e below K T (mkF m pc Ls (.int j :: .ref b :: st)) := by
  obtain ⟨cl, A, hs, H⟩ := A
  exact g_caload X hx hZ eT A (ArI.inb hs h0 h1) (by rw [H _ h1, hv]) hd hp k
theorem g_baload' (X : Stand p l e R s m args below meth c T locs cells slots) (hx : p.tables.exec = Jvm.exec) (hZ : Z.Warmed39 s.vm) (eT : T.heap = h) {b : Addr} {n : Nat} {f : Nat → Int32} {j : Int32} {x : Int32} (A : ArI Z h b .byte n f) (h0 : ¬ j < 0) (h1 : j.toNatClampNeg < n) (hv : f j.toNatClampNeg = x) (hd : decode c.code pc = .ok (.baload, 1)) (hp : pc + 1 = pc') (k : Goes p e below K T (mkF m pc' Ls (.int (x) :: st))) : Goes p e below K T (mkF m pc Ls (.int j :: .ref b :: st)) := by
  obtain ⟨cl, A, hs, H⟩ := A
  exact g_baload X hx hZ eT A (ArI.inb hs h0 h1) (by rw [H _ h1, hv]) hd hp k
theorem g_arraylengthI (X : Stand p l e R s m args below meth c T locs cells slots) (hx : p.tables.exec = Jvm.exec) (hZ : Z.Warmed39 s.vm) (eT : T.heap = h) {b : Addr} {n : Nat} {f : Nat → Int32} {ty : FieldType} {z : Int32} (A : ArI Z h b ty n f) (hz : n.toInt32 = z) (hd : decode c.code pc = .ok (.arraylength, 1)) (hp : pc + 1 = pc') (k : Goes p e below K T (mkF m pc' Ls (.int z :: st))) : Goes p e below K T (mkF m pc Ls (.ref b :: st)) := by
  obtain ⟨cl, A, hs, H⟩ := A
  exact g_arraylength X hx hZ eT A (by rw [hs, hz]) hd hp k
theorem g_iastore' (X : Stand p l e R s m args below meth c T locs cells slots) (hx : p.tables.exec = Jvm.exec) (hZ : Z.Warmed39 s.vm) (eT : T.heap = h) {b : Addr} {n : Nat} {f : Nat → Int32} {j : Int32} {x : Int32} (A : ArI Z h b .int n f) (h0 : ¬ j < 0) (h1 : j.toNatClampNeg < n) (hd : decode c.code pc = .ok (.iastore, 1)) (hp : pc + 1 = pc') (k : ∀ T' h', Stand p l e R s m args below meth c T' (locs ++ [⟨b, j.toNatClampNeg⟩]) cells slots → T'.heap = h' → Wr h h' b j.toNatClampNeg (.int (x)) → ArI Z h' b .int n (fun k => if k = j.toNatClampNeg then x else f k) → Goes p e below K T' (mkF m pc' Ls st)) : Goes p e below K T (mkF m pc Ls (.int (x) :: .int j :: .ref b :: st)) := by
  have A' := A
  obtain ⟨cl, A, hs, H⟩ := A
  exact g_iastore X hx hZ eT A (ArI.inb hs h0 h1) hd hp (fun T' h' X' e' W' => k T' h' X' e' W' (A'.set W'))
theorem g_castore' (X : Stand p l e R s m args below meth c T locs cells slots) (hx : p.tables.exec = Jvm.exec) (hZ : Z.Warmed39 s.vm) (eT : T.heap = h) {b : Addr} {n : Nat} {f : Nat → Int32} {j : Int32} {x : Int32} (A : ArI Z h b .char n f) (h0 : ¬ j < 0) (h1 : j.toNatClampNeg < n) (hd : decode c.code pc = .ok (.castore, 1)) (hp : pc + 1 = pc') (k : ∀ T' h', Stand p l e R s m args below meth c T' (locs ++ [⟨b, j.toNatClampNeg⟩]) cells slots → T'.heap = h' → Wr h h' b j.toNatClampNeg (.int (nar .char x)) → ArI Z h' b .char n (fun k => if k = j.toNatClampNeg then nar .char x else f k) → Goes p e below K T' (mkF m pc' Ls st)) : Goes p e below K T (mkF m pc Ls (.int (x) :: .int j :: .ref b :: st)) := by
  have A' := A
  obtain ⟨cl, A, hs, H⟩ := A
  exact g_castore X hx hZ eT A (ArI.inb hs h0 h1) hd hp (fun T' h' X' e' W' => k T' h' X' e' W' (A'.set W'))
theorem g_bastore' (X : Stand p l e R s m args below meth c T locs cells slots) (hx : p.tables.exec = Jvm.exec) (hZ : Z.Warmed39 s.vm) (eT : T.heap = h) {b : Addr} {n : Nat} {f : Nat → Int32} {j : Int32} {x : Int32} (A : ArI Z h b .byte n f) (h0 : ¬ j < 0) (h1 : j.toNatClampNeg < n) (hd : decode c.code pc = .ok (.bastore, 1)) (hp : pc + 1 = pc') (k : ∀ T' h', Stand p l e R s m args below meth c T' (locs ++ [⟨b, j.toNatClampNeg⟩]) cells slots → T'.heap = h' → Wr h h' b j.toNatClampNeg (.int (nar .byte x)) → ArI Z h' b .byte n (fun k => if k = j.toNatClampNeg then nar .byte x else f k) → Goes p e below K T' (mkF m pc' Ls st)) : Goes p e below K T (mkF m pc Ls (.int (x) :: .int j :: .ref b :: st)) := by
  have A' := A
  obtain ⟨cl, A, hs, H⟩ := A
  exact g_bastore X hx hZ eT A (ArI.inb hs h0 h1) hd hp (fun T' h' X' e' W' => k T' h' X' e' W' (A'.set W'))
end ArGI
def ArJ (Z : State) (h : Heap) (b : Addr) (ty : FieldType) (n : Nat) (f : Nat → Int64) : Prop := ∃ cl, Arr Z h b cl ty ∧ cl.slots.size = n ∧ ∀ j, j < n → cl.slots[j]? = some (.long (f j))
section ArSJ
variable {Z : State} {h h' : Heap} {a b : Addr} {ty : FieldType} {n sl : Nat} {f : Nat → Int64} {v : Value} {ws : List Addr}
theorem ArJ.new {cA : ClassId} {z : Int32} (A : Arr Z h a (newA cA ty z) ty) (x : Int64) (hd : defaultValue ty = .long x) : ArJ Z h a ty z.toNatClampNeg (fun _ => x) := ⟨_, A, sz_new _ _ _, fun j hj => by simp only [newA, ← hd]; rw [Array.getElem?_replicate, if_pos hj]⟩
theorem ArJ.lt (F : ArJ Z h b ty n f) : b < h.size := by obtain ⟨c, A, -⟩ := F; exact A.lt
theorem ArJ.ext (F : ArJ Z h b ty n f) (E : Ext h h') : ArJ Z h' b ty n f := by obtain ⟨c, A, r⟩ := F; exact ⟨c, A.ext E, r⟩
theorem ArJ.other (F : ArJ Z h b ty n f) (W : Wr h h' a sl v) (q : b ≠ a) : ArJ Z h' b ty n f := by obtain ⟨c, A, r⟩ := F; exact ⟨c, A.other W q, r⟩
theorem ArJ.keep (F : ArJ Z h b ty n f) (K : Keep h h' ws) (q : b ∉ ws) : ArJ Z h' b ty n f := by obtain ⟨c, A, r⟩ := F; exact ⟨c, ⟨K.2.1 b c A.1 q, A.2⟩, r⟩
theorem ArJ.set {x : Int64} (F : ArJ Z h b ty n f) (W : Wr h h' b sl (.long (x))) : ArJ Z h' b ty n (fun k => if k = sl then x else f k) := by
  obtain ⟨c, A, hs, H⟩ := F
  refine ⟨_, A.same W, by rw [sz_set]; exact hs, fun j hj => ?_⟩
  by_cases e : j = sl
  · subst e; simp only [Cell.setSlot, if_true]; rw [Array.getElem?_setIfInBounds_self_of_lt (by rw [hs]; exact hj)]
  · simp only [Cell.setSlot]; rw [Array.getElem?_setIfInBounds_ne (Ne.symm e), if_neg e]; exact H j hj
theorem ArJ.inb {j : Int32} {c : Cell} (hs : c.slots.size = n) (h0 : ¬ j < 0) (h1 : j.toNatClampNeg < n) : ¬ (j < 0 ∨ c.slots.size ≤ j.toNatClampNeg) := by rw [hs]; rintro (q | q); exact h0 q; omega
end ArSJ
section ArGJ
variable {p : Program} {l : Launch} {e : Env} {R : Room} {s : State} {m : MethodId} {args : Array Value} {below : List Frame} {meth : Method} {c : Code} {T : State} {locs : List Loc} {cells slots : Nat} {Z : State} {a0 : Array Value} {h : Heap} {K : Outcome → State → Prop} {pc pc' : Nat} {Ls : Array Slot} {st : List Value}
theorem g_laload' (X : Stand p l e R s m args below meth c T locs cells slots) (hx : p.tables.exec = Jvm.exec) (hZ : Z.Warmed39 s.vm) (eT : T.heap = h) {b : Addr} {n : Nat} {f : Nat → Int64} {j : Int32} {x : Int64} (A : ArJ Z h b .long n f) (h0 : ¬ j < 0) (h1 : j.toNatClampNeg < n) (hv : f j.toNatClampNeg = x) (hd : decode c.code pc = .ok (.laload, 1)) (hp : pc + 1 = pc') (k : Goes p e below K T (mkF m pc' Ls (.long (x) :: st))) : Goes p e below K T (mkF m pc Ls (.int j :: .ref b :: st)) := by
  obtain ⟨cl, A, hs, H⟩ := A
  exact g_laload X hx hZ eT A (ArJ.inb hs h0 h1) (by rw [H _ h1, hv]) hd hp k
theorem g_arraylengthJ (X : Stand p l e R s m args below meth c T locs cells slots) (hx : p.tables.exec = Jvm.exec) (hZ : Z.Warmed39 s.vm) (eT : T.heap = h) {b : Addr} {n : Nat} {f : Nat → Int64} {ty : FieldType} {z : Int32} (A : ArJ Z h b ty n f) (hz : n.toInt32 = z) (hd : decode c.code pc = .ok (.arraylength, 1)) (hp : pc + 1 = pc') (k : Goes p e below K T (mkF m pc' Ls (.int z :: st))) : Goes p e below K T (mkF m pc Ls (.ref b :: st)) := by
  obtain ⟨cl, A, hs, H⟩ := A
  exact g_arraylength X hx hZ eT A (by rw [hs, hz]) hd hp k
theorem g_lastore' (X : Stand p l e R s m args below meth c T locs cells slots) (hx : p.tables.exec = Jvm.exec) (hZ : Z.Warmed39 s.vm) (eT : T.heap = h) {b : Addr} {n : Nat} {f : Nat → Int64} {j : Int32} {x : Int64} (A : ArJ Z h b .long n f) (h0 : ¬ j < 0) (h1 : j.toNatClampNeg < n) (hd : decode c.code pc = .ok (.lastore, 1)) (hp : pc + 1 = pc') (k : ∀ T' h', Stand p l e R s m args below meth c T' (locs ++ [⟨b, j.toNatClampNeg⟩]) cells slots → T'.heap = h' → Wr h h' b j.toNatClampNeg (.long (x)) → ArJ Z h' b .long n (fun k => if k = j.toNatClampNeg then x else f k) → Goes p e below K T' (mkF m pc' Ls st)) : Goes p e below K T (mkF m pc Ls (.long (x) :: .int j :: .ref b :: st)) := by
  have A' := A
  obtain ⟨cl, A, hs, H⟩ := A
  exact g_lastore X hx hZ eT A (ArJ.inb hs h0 h1) hd hp (fun T' h' X' e' W' => k T' h' X' e' W' (A'.set W'))
end ArGJ
def ArV (Z : State) (h : Heap) (b : Addr) (ty : FieldType) (n : Nat) (f : Nat → Value) : Prop := ∃ cl, Arr Z h b cl ty ∧ cl.slots.size = n ∧ ∀ j, j < n → cl.slots[j]? = some (f j)
section ArSV
variable {Z : State} {h h' : Heap} {a b : Addr} {ty : FieldType} {n sl : Nat} {f : Nat → Value} {v : Value} {ws : List Addr}
theorem ArV.new {cA : ClassId} {z : Int32} (A : Arr Z h a (newA cA ty z) ty) (x : Value) (hd : defaultValue ty = x) : ArV Z h a ty z.toNatClampNeg (fun _ => x) := ⟨_, A, sz_new _ _ _, fun j hj => by simp only [newA, ← hd]; rw [Array.getElem?_replicate, if_pos hj]⟩
theorem ArV.lt (F : ArV Z h b ty n f) : b < h.size := by obtain ⟨c, A, -⟩ := F; exact A.lt
theorem ArV.ext (F : ArV Z h b ty n f) (E : Ext h h') : ArV Z h' b ty n f := by obtain ⟨c, A, r⟩ := F; exact ⟨c, A.ext E, r⟩
theorem ArV.other (F : ArV Z h b ty n f) (W : Wr h h' a sl v) (q : b ≠ a) : ArV Z h' b ty n f := by obtain ⟨c, A, r⟩ := F; exact ⟨c, A.other W q, r⟩
theorem ArV.keep (F : ArV Z h b ty n f) (K : Keep h h' ws) (q : b ∉ ws) : ArV Z h' b ty n f := by obtain ⟨c, A, r⟩ := F; exact ⟨c, ⟨K.2.1 b c A.1 q, A.2⟩, r⟩
theorem ArV.set {x : Value} (F : ArV Z h b ty n f) (W : Wr h h' b sl (x)) : ArV Z h' b ty n (fun k => if k = sl then x else f k) := by
  obtain ⟨c, A, hs, H⟩ := F
  refine ⟨_, A.same W, by rw [sz_set]; exact hs, fun j hj => ?_⟩
  by_cases e : j = sl
  · subst e; simp only [Cell.setSlot, if_true]; rw [Array.getElem?_setIfInBounds_self_of_lt (by rw [hs]; exact hj)]
  · simp only [Cell.setSlot]; rw [Array.getElem?_setIfInBounds_ne (Ne.symm e), if_neg e]; exact H j hj
theorem ArV.inb {j : Int32} {c : Cell} (hs : c.slots.size = n) (h0 : ¬ j < 0) (h1 : j.toNatClampNeg < n) : ¬ (j < 0 ∨ c.slots.size ≤ j.toNatClampNeg) := by rw [hs]; rintro (q | q); exact h0 q; omega
end ArSV
section ArGV
variable {p : Program} {l : Launch} {e : Env} {R : Room} {s : State} {m : MethodId} {args : Array Value} {below : List Frame} {meth : Method} {c : Code} {T : State} {locs : List Loc} {cells slots : Nat} {Z : State} {a0 : Array Value} {h : Heap} {K : Outcome → State → Prop} {pc pc' : Nat} {Ls : Array Slot} {st : List Value}
theorem g_aaload' (X : Stand p l e R s m args below meth c T locs cells slots) (hx : p.tables.exec = Jvm.exec) (hZ : Z.Warmed39 s.vm) (eT : T.heap = h) {b : Addr} {n : Nat} {f : Nat → Value} {j : Int32} {x : Value} {ty : FieldType} (A : ArV Z h b ty n f) (h0 : ¬ j < 0) (h1 : j.toNatClampNeg < n) (hv : f j.toNatClampNeg = x) (hty : ty.isReference = true) (hd : decode c.code pc = .ok (.aaload, 1)) (hp : pc + 1 = pc') (k : Goes p e below K T (mkF m pc' Ls (x :: st))) : Goes p e below K T (mkF m pc Ls (.int j :: .ref b :: st)) := by
  obtain ⟨cl, A, hs, H⟩ := A
  exact g_aaload X hx hZ eT A hty (ArV.inb hs h0 h1) (by rw [H _ h1, hv]) hd hp k
theorem g_arraylengthV (X : Stand p l e R s m args below meth c T locs cells slots) (hx : p.tables.exec = Jvm.exec) (hZ : Z.Warmed39 s.vm) (eT : T.heap = h) {b : Addr} {n : Nat} {f : Nat → Value} {ty : FieldType} {z : Int32} (A : ArV Z h b ty n f) (hz : n.toInt32 = z) (hd : decode c.code pc = .ok (.arraylength, 1)) (hp : pc + 1 = pc') (k : Goes p e below K T (mkF m pc' Ls (.int z :: st))) : Goes p e below K T (mkF m pc Ls (.ref b :: st)) := by
  obtain ⟨cl, A, hs, H⟩ := A
  exact g_arraylength X hx hZ eT A (by rw [hs, hz]) hd hp k
theorem g_aastore' (X : Stand p l e R s m args below meth c T locs cells slots) (hx : p.tables.exec = Jvm.exec) (hZ : Z.Warmed39 s.vm) (eT : T.heap = h) {b : Addr} {n : Nat} {f : Nat → Value} {j : Int32} {x : Value} {ty : FieldType} (A : ArV Z h b ty n f) (h0 : ¬ j < 0) (h1 : j.toNatClampNeg < n) (hty : ty.isReference = true) (F : Sto Z h b x) (hd : decode c.code pc = .ok (.aastore, 1)) (hp : pc + 1 = pc') (k : ∀ T' h', Stand p l e R s m args below meth c T' (locs ++ [⟨b, j.toNatClampNeg⟩]) cells slots → T'.heap = h' → Wr h h' b j.toNatClampNeg (x) → ArV Z h' b ty n (fun k => if k = j.toNatClampNeg then x else f k) → Goes p e below K T' (mkF m pc' Ls st)) : Goes p e below K T (mkF m pc Ls (x :: .int j :: .ref b :: st)) := by
  have A' := A
  obtain ⟨cl, A, hs, H⟩ := A
  exact g_aastore X hx hZ eT A hty F (ArV.inb hs h0 h1) hd hp (fun T' h' X' e' W' => k T' h' X' e' W' (A'.set W'))
end ArGV
section OwnW
variable {p : Program} {l : Launch} {e : Env} {R : Room} {s : State} {m : MethodId} {args : Array Value} {below : List Frame} {meth : Method} {c : Code} {T : State} {locs : List Loc} {cells slots : Nat} {Z : State} {a0 : Array Value} {h : Heap} {K : Outcome → State → Prop} {pc pc' : Nat} {Ls : Array Slot} {st : List Value}
abbrev KW (s : State) (C S : Nat) (Q : Option Value → Heap → List Loc → Prop) : Outcome → State → Prop := fun o u => ∃ v L, o = .returned v ∧ Q v u.heap L ∧ ReturnedEndW s o u L C S
abbrev CtrW (l : Launch) (Z : State) (y : MethodName) (bytes : ByteArray) (maxL : Nat) (ret : Option FieldType) (ws : List Jvm.Cond) (rm : Room) (C S : Nat) (as' : Array Value) (h0 : Heap) (Q : Option Value → Heap → List Loc → Prop) : Prop := MetFree l y (head1 (Jvm.Cond.code y bytes maxL ret :: ws) rm) (fun a U => a = as' ∧ Z.Warmed39 U.vm ∧ U.heap = h0 ∧ U.vm.interned = Z.vm.interned) (fun _ _ _ _ _ => True) (fun _ U o U' => ∃ v L, o = .returned v ∧ Q v U'.heap L ∧ ReturnedEndW U o U' L C S)
theorem CtrW.of {y : MethodName} {bytes : ByteArray} {maxL : Nat} {ret : Option FieldType} {ws : List Jvm.Cond} {rm : Room} {C S : Nat} {as' : Array Value} {h0 : Heap} {Q : Option Value → Heap → List Loc → Prop} (hpn : plainFor y = true)
    (body : ∀ (p : Program) (e : Env) (s : State) (m : MethodId) (below : List Frame) (meth : Method) (c : Code) (s₁ : State), p.tables.exec = Jvm.exec → c.code = bytes → c.maxLocals = maxL → s.vm.findClass y.cls = some m.cls → meth.name = y.name → meth.sig.returnType = ret → meth.locks = false → Z.Warmed39 s.vm → Stand p l e rm (s.setVm s.vm) m as' below meth c s₁ [] 0 0 → s₁.heap = h0 → s.Since s.vm s.heap.size → s.heap = h0 → s.vm.interned = Z.vm.interned → Goes p e below (KW s C S Q) s₁ (entryFrame m as' maxL)) :
    CtrW l Z y bytes maxL ret ws rm C S as' h0 Q := by
  refine MetFree.of_bodySF hpn hisR ?_
  intro p e s m args below meth c s₁ Bd hml0 hP hK
  obtain ⟨rfl, hZ, hh, hint⟩ := hP
  have hlk : meth.locks = false := BodyLoose.notSynchronized Bd
  exact body p e s m below meth c s₁ Bd.exec Bd.bytes hml0 (findClass_of_methodNamed Bd.named) (name_of_methodNamed Bd.named Bd.method).1 Bd.returns hlk hZ (Stand.of_body Bd) (by rw [← hh, Bd.state]; rfl) (State.WarmedH.since (State.WarmedH.refl s) _) hh hint
theorem g_ldcS {vm0 : Vm} (X : Stand p l e R (s.setVm vm0) m args below meth c T locs cells slots) (hx : p.tables.exec = Jvm.exec) (hZ : Z.Warmed39 vm0) {own text : String} {ix : Nat} (hown : vm0.findClass own = some m.cls) (w : (Cond.stringLink own ix text).before a0 Z = true) (wS : ∀ a ∈ Bundle.stringAtoms, a.before a0 Z = true) (eT : T.heap = h) {k0 : Nat} (hS : s.Since vm0 k0) (hk : k0 ≤ h.size) (hd : decode c.code pc = .ok (.ldc ix, 2)) (hp : pc + 2 = pc') (n : Nat) (hn : 4 * text.toList.length ≤ n) (hbig : n ≤ 536870912) (hc : cells + 2 ≤ R.cells) (hl : slots + (n + 4) ≤ R.slots) (k : ∀ (a : Addr) (T' : State) (h' : Heap) (k1 : Nat), Stand p l e R (s.setVm T'.vm) m args below meth c T' locs (cells + 2) (slots + (n + 4)) → T'.heap = h' → Ext h h' → s.Since T'.vm k1 → k1 ≤ h'.size → Z.Warmed39 T'.vm → T'.vm.findClass own = some m.cls → Goes p e below K T' (mkF m pc' Ls (.ref a :: st))) : Goes p e below K T (mkF m pc Ls st) := by
  subst hp
  obtain ⟨a, T1, h1, k1, X1, e1, E1, S1, g1, Z1, o1, f1⟩ := ldcS X hx hZ hown w wS eT hS hk (g := mkF m pc Ls st) rfl hd hn hbig hc hl
  exact Goes.by' f1 (k a T1 h1 k1 X1 e1 E1 S1 g1 Z1 o1)
theorem g_ldcSV {vm0 : Vm} (X : Stand p l e R (s.setVm vm0) m args below meth c T locs cells slots) (hx : p.tables.exec = Jvm.exec) (hZ : Z.Warmed39 vm0) {own text : String} {ix : Nat} {Ts : List String} (hown : vm0.findClass own = some m.cls) (w : (Cond.stringLink own ix text).before a0 Z = true) (wS : ∀ a ∈ Bundle.stringAtoms, a.before a0 Z = true) (eT : T.heap = h) {k0 : Nat} (hS : s.Since vm0 k0) (hk : k0 ≤ h.size) (N : Fr s.heap.size locs) (hkeep : ∀ (b : Addr) (cl : Cell), Z.heap[b]? = some cl → s.heap[b]? = some cl) (I : IB Z vm0 Ts) (hnot : text ∉ Ts) (hh : Jvm.Lit.constHeld Z own ix) (hcw : Jvm.Lit.compactW.before a0 Z = true) (vs : List Value) (z : Int32) (ht : (∀ c ∈ text.toList, c.toNat < 256) ∧ text.toList.map (fun c => Value.int (Jvm.Lit.byteI c.toNat.toUInt16)) = vs) (hz : ¬ z < 0) (hl : z.toNatClampNeg = vs.length) (hd : decode c.code pc = .ok (.ldc ix, 2)) (hp : pc + 2 = pc') (n : Nat) (hn : 4 * text.toList.length ≤ n) (hbig : n ≤ 536870912) (hc : cells + 2 ≤ R.cells) (hl' : slots + (n + 4) ≤ R.slots) (k : ∀ (a : Addr) (T' : State) (h' : Heap) (k1 : Nat) (b : Addr) (cA : ClassId), Stand p l e R (s.setVm T'.vm) m args below meth c T' locs (cells + 2) (slots + (n + 4)) → T'.heap = h' → Ext h h' → s.Since T'.vm k1 → k1 ≤ h'.size → Z.Warmed39 T'.vm → T'.vm.findClass own = some m.cls → Exa Z h' a "java/lang/String" → Fld Z h' a "java/lang/String" "coder" "B" (.int 0) → Fld Z h' a "java/lang/String" "value" "[B" (.ref b) → Arv Z h' b cA .byte z vs (.int 0) → IB Z T'.vm (text :: Ts) → Goes p e below K T' (mkF m pc' Ls (.ref a :: st))) : Goes p e below K T (mkF m pc Ls st) := by
  subst hp
  obtain ⟨a, T1, h1, k1, b, cA, X1, e1, E1, S1, g1, Z1, o1, q1, q2, q3, q4, -, -, q5, f1⟩ := ldcSV X hx hZ hown w wS eT hS hk N hkeep I hnot hh hcw ht hz hl (g := mkF m pc Ls st) rfl hd hn hbig hc hl'
  exact Goes.by' f1 (k a T1 h1 k1 b cA X1 e1 E1 S1 g1 Z1 o1 q1 q2 q3 q4 q5)
theorem g_retNW {vm0 : Vm} (X : Stand p l e R (s.setVm vm0) m args below meth c T locs cells slots) (hx : p.tables.exec = Jvm.exec) {C S : Nat} {Q : Option Value → Heap → List Loc → Prop} {z : Int32} {t : FieldType} (ht : t = .boolean ∨ t = .byte ∨ t = .char ∨ t = .short) (hlk : meth.locks = false) (hret : meth.sig.returnType = some t) (eT : T.heap = h) {k0 : Nat} (hS : s.Since vm0 k0) (hk : k0 ≤ h.size) (hc : cells ≤ C) (hs : slots ≤ S) (hd : decode c.code pc = .ok (.ireturn, 1)) (hQ : Q (some (.int (nar t z))) h locs) : Goes p e below (KW s C S Q) T (mkF m pc Ls (.int z :: st)) := by
  subst eT
  obtain ⟨fs, hr, hrun, hended, q1, q2, q3, q4⟩ := X.leaveW hS hk (v := some (.int (nar t z))) (fun q => by rw [hret] at q; cases q) hlk
  exact ⟨_, _, retN X hx hret ht hd hr, hrun, hended, _, _, rfl, hQ, q1, q2, q3, q4.mono hc hs⟩
theorem own_ib {vm : Vm} (q : vm.interned = Z.vm.interned) : IB Z vm [] := ⟨#[], by simp [q], fun x hx => by simp at hx⟩
end OwnW
theorem own_fin {P : Int32 → Prop} (N : Nat) (hN : N ≤ 2 ^ 31) (hP : ∀ n : Fin N, P (Int32.ofNat n.val)) (d : Int32) (h0 : 0 ≤ d.toInt) (h1 : d.toInt < (N : Int)) : P d := by
  have e : d = Int32.ofNat d.toInt.toNat := by
    apply Int32.toInt_inj.mp
    rw [Int32.toInt_ofNat_of_lt (by omega)]
    omega
  rw [e]
  exact hP ⟨d.toInt.toNat, by omega⟩
theorem own_ltI {x y : Int32} : x < y ↔ x.toInt < y.toInt := Int32.lt_iff_toInt_lt
theorem own_nneg {i : Int32} (h : 0 ≤ i.toInt) : ¬ i < 0 := by rw [own_ltI, show (0 : Int32).toInt = 0 from rfl]; omega
theorem own_tnc (i : Int32) : i.toNatClampNeg = i.toInt.toNat := rfl
theorem own_inc {i : Int32} (h : i.toInt < 2147483647) : (i + 1).toInt = i.toInt + 1 := by
  have e := c_iadd i 1
  have r := rng32 (i + 1)
  have r2 := rng32 i
  rw [show (1 : Int32).toInt = 1 from rfl] at e
  omega
theorem own_rem (a m : Int32) (hm : 0 < m.toInt) : 0 ≤ ((a &&& 2147483647) % m).toInt ∧ ((a &&& 2147483647) % m).toInt < m.toInt := by
  have e1 := c_mask a 2147483647 31 (by decide) (by decide)
  have e2 := (c_iremV (a &&& 2147483647) m).1 (by rw [e1]; omega) hm
  exact ⟨e2.1, e2.2.1⟩
theorem cm_lt (x y : Int64) : XT.cmpL x y < 0 ↔ x < y := by unfold XT.cmpL; split <;> (try split) <;> simp_all [Int64.lt_iff_toInt_lt, ← Int64.toInt_inj] <;> omega
theorem cm_gt (x y : Int64) : 0 < XT.cmpL x y ↔ y < x := by unfold XT.cmpL; split <;> (try split) <;> simp_all [Int64.lt_iff_toInt_lt, ← Int64.toInt_inj] <;> omega
theorem cm_eq (x y : Int64) : XT.cmpL x y = 0 ↔ x = y := by unfold XT.cmpL; split <;> (try split) <;> simp_all [Int64.lt_iff_toInt_lt, ← Int64.toInt_inj] <;> omega
theorem own_b1 {P : Prop} [Decidable P] (q : P) : some (Value.int (nar .boolean 1)) = some (.int (if P then 1 else 0)) := by rw [if_pos q]; rfl
theorem own_b0 {P : Prop} [Decidable P] (q : ¬ P) : some (Value.int (nar .boolean 0)) = some (.int (if P then 1 else 0)) := by rw [if_neg q]; rfl
theorem d1_0 : decode prog_14_method_1_code 0 = .ok (.aload_n 0, 1) := by decide +kernel
theorem d1_1 : decode prog_14_method_1_code 1 = .ok (.invokespecial 1, 3) := by decide +kernel
theorem d1_4 : decode prog_14_method_1_code 4 = .ok (.aload_n 0, 1) := by decide +kernel
theorem d1_5 : decode prog_14_method_1_code 5 = .ok (.aload_n 1, 1) := by decide +kernel
theorem d1_6 : decode prog_14_method_1_code 6 = .ok (.putfield 7, 3) := by decide +kernel
theorem d1_9 : decode prog_14_method_1_code 9 = .ok (.aload_n 0, 1) := by decide +kernel
theorem d1_10 : decode prog_14_method_1_code 10 = .ok (.aload_n 2, 1) := by decide +kernel
theorem d1_11 : decode prog_14_method_1_code 11 = .ok (.putfield 13, 3) := by decide +kernel
theorem d1_14 : decode prog_14_method_1_code 14 = .ok (.aload_n 0, 1) := by decide +kernel
theorem d1_15 : decode prog_14_method_1_code 15 = .ok (.aload_n 3, 1) := by decide +kernel
theorem d1_16 : decode prog_14_method_1_code 16 = .ok (.putfield 17, 3) := by decide +kernel
theorem d1_19 : decode prog_14_method_1_code 19 = .ok (.aload_n 0, 1) := by decide +kernel
theorem d1_20 : decode prog_14_method_1_code 20 = .ok (.aload 4, 2) := by decide +kernel
theorem d1_22 : decode prog_14_method_1_code 22 = .ok (.putfield 21, 3) := by decide +kernel
theorem d1_25 : decode prog_14_method_1_code 25 = .ok (.aload_n 0, 1) := by decide +kernel
theorem d1_26 : decode prog_14_method_1_code 26 = .ok (.aload 5, 2) := by decide +kernel
theorem d1_28 : decode prog_14_method_1_code 28 = .ok (.putfield 24, 3) := by decide +kernel
theorem d1_31 : decode prog_14_method_1_code 31 = .ok (.return_, 1) := by decide +kernel
theorem d3_0 : decode method_2_code 0 = .ok (.iload_n 0, 1) := by decide +kernel
theorem d3_1 : decode method_2_code 1 = .ok (.ifCond .eq 11, 3) := by decide +kernel
theorem d3_4 : decode method_2_code 4 = .ok (.iload_n 1, 1) := by decide +kernel
theorem d3_5 : decode method_2_code 5 = .ok (.ifCond .ne 7, 3) := by decide +kernel
theorem d3_8 : decode method_2_code 8 = .ok (.iconst 1, 1) := by decide +kernel
theorem d3_9 : decode method_2_code 9 = .ok (.goto 4, 3) := by decide +kernel
theorem d3_12 : decode method_2_code 12 = .ok (.iconst 0, 1) := by decide +kernel
theorem d3_13 : decode method_2_code 13 = .ok (.ireturn, 1) := by decide +kernel
theorem d4_0 : decode prog_14_method_6_code 0 = .ok (.iconst 0, 1) := by decide +kernel
theorem d4_1 : decode prog_14_method_6_code 1 = .ok (.istore_n 1, 1) := by decide +kernel
theorem d4_2 : decode prog_14_method_6_code 2 = .ok (.aload_n 0, 1) := by decide +kernel
theorem d4_3 : decode prog_14_method_6_code 3 = .ok (.getfield 24, 3) := by decide +kernel
theorem d4_6 : decode prog_14_method_6_code 6 = .ok (.astore_n 2, 1) := by decide +kernel
theorem d4_7 : decode prog_14_method_6_code 7 = .ok (.aload_n 2, 1) := by decide +kernel
theorem d4_8 : decode prog_14_method_6_code 8 = .ok (.arraylength, 1) := by decide +kernel
theorem d4_9 : decode prog_14_method_6_code 9 = .ok (.istore_n 3, 1) := by decide +kernel
theorem d4_10 : decode prog_14_method_6_code 10 = .ok (.iconst 0, 1) := by decide +kernel
theorem d4_11 : decode prog_14_method_6_code 11 = .ok (.istore 4, 2) := by decide +kernel
theorem d4_13 : decode prog_14_method_6_code 13 = .ok (.iload 4, 2) := by decide +kernel
theorem d4_15 : decode prog_14_method_6_code 15 = .ok (.iload_n 3, 1) := by decide +kernel
theorem d4_16 : decode prog_14_method_6_code 16 = .ok (.if_icmp .ge 23, 3) := by decide +kernel
theorem d4_19 : decode prog_14_method_6_code 19 = .ok (.aload_n 2, 1) := by decide +kernel
theorem d4_20 : decode prog_14_method_6_code 20 = .ok (.iload 4, 2) := by decide +kernel
theorem d4_22 : decode prog_14_method_6_code 22 = .ok (.iaload, 1) := by decide +kernel
theorem d4_23 : decode prog_14_method_6_code 23 = .ok (.istore 5, 2) := by decide +kernel
theorem d4_25 : decode prog_14_method_6_code 25 = .ok (.iload 5, 2) := by decide +kernel
theorem d4_27 : decode prog_14_method_6_code 27 = .ok (.ifCond .ne 6, 3) := by decide +kernel
theorem d4_30 : decode prog_14_method_6_code 30 = .ok (.iinc 1 1, 3) := by decide +kernel
theorem d4_33 : decode prog_14_method_6_code 33 = .ok (.iinc 4 1, 3) := by decide +kernel
theorem d4_36 : decode prog_14_method_6_code 36 = .ok (.goto (-23), 3) := by decide +kernel
theorem d4_39 : decode prog_14_method_6_code 39 = .ok (.iload_n 1, 1) := by decide +kernel
theorem d4_40 : decode prog_14_method_6_code 40 = .ok (.ireturn, 1) := by decide +kernel
def own_cnt (f : Nat → Int32) : Nat → Int32
  | 0 => 0
  | k + 1 => own_cnt f k + (if f k = 0 then 1 else 0)
theorem own_five (n : Int32) (h0 : 0 ≤ n.toInt) (h1 : n.toInt < 5) : n = 0 ∨ n = 1 ∨ n = 2 ∨ n = 3 ∨ n = 4 :=
  own_fin (P := fun n => n = 0 ∨ n = 1 ∨ n = 2 ∨ n = 3 ∨ n = 4) 5 (by decide) (by decide +kernel) n h0 (by omega)
theorem ef_rm_lg (m : MethodId) (x0 : Addr) (x3 : Addr) (x4 : Addr) (x5 : Addr)  : entryFrame m #[(.ref x0), .null, .null, (.ref x3), (.ref x4), (.ref x5)] 6 = mkF m 0 #[.val (.ref x0), .val .null, .val .null, .val (.ref x3), .val (.ref x4), .val (.ref x5)] [] := by first | (simp [entryFrame, mkF, argsToLocals, Value.category]; done) | rfl
theorem pn_1 : plainFor (⟨"com/example/link_importance/linkimportance/graph/LinkGraph", "<init>", "(Lcom/example/link_importance/linkimportance/graph/PageNames;Lcom/example/link_importance/linkimportance/graph/PageLabels;[I[I[I)V"⟩ : MethodName) = true := by first | exact plainFor_of_name (by first | (simp [plainName, overriddenIn]; done) | decide +kernel) | decide +kernel
set_option maxRecDepth 65536 in
set_option maxHeartbeats 40000000 in
theorem rm_lg (l : Launch) (Z : State) (a0 : Array Value) (hw : ∀ d ∈ tables_1, d.before a0 Z = true) (a b1 b2 b3 : Addr) (h0 : Heap) (n0 : Nat) (ga : n0 ≤ a) (E : Exa Z h0 a "com/example/link_importance/linkimportance/graph/LinkGraph") (F_names : Fld Z h0 a "com/example/link_importance/linkimportance/graph/LinkGraph" "names" "Lcom/example/link_importance/linkimportance/graph/PageNames;" .null) (F_labels : Fld Z h0 a "com/example/link_importance/linkimportance/graph/LinkGraph" "labels" "Lcom/example/link_importance/linkimportance/graph/PageLabels;" .null) (F_inStart : Fld Z h0 a "com/example/link_importance/linkimportance/graph/LinkGraph" "inStart" "[I" .null) (F_inSources : Fld Z h0 a "com/example/link_importance/linkimportance/graph/LinkGraph" "inSources" "[I" .null) (F_outDegree : Fld Z h0 a "com/example/link_importance/linkimportance/graph/LinkGraph" "outDegree" "[I" .null) :
    Ctr l Z (⟨"com/example/link_importance/linkimportance/graph/LinkGraph", "<init>", "(Lcom/example/link_importance/linkimportance/graph/PageNames;Lcom/example/link_importance/linkimportance/graph/PageLabels;[I[I[I)V"⟩ : MethodName) prog_14_method_1_code 6 (Option.none : Option FieldType) [] ({ frames := 1, cells := 0, slots := 0, locals := 12 } : Room) ({ frames := 1, cells := 0, slots := 0, locals := 12 } : Room).cells ({ frames := 1, cells := 0, slots := 0, locals := 12 } : Room).slots #[(.ref a), .null, .null, (.ref b1), (.ref b2), (.ref b3)] h0 (fun v h L => v = none ∧ Fr n0 L ∧ Keep h0 h [a] ∧ Exa Z h a "com/example/link_importance/linkimportance/graph/LinkGraph" ∧ Fld Z h a "com/example/link_importance/linkimportance/graph/LinkGraph" "outDegree" "[I" (.ref b3)) := by
  refine Ctr.of pn_1 ?_
  intro p e s m below meth c s₁ hx hby hml hown hnm hret hlk hZ X0 e0
  refine Goes.cast (ef_rm_lg m a b1 b2 b3) ?_
  refine g_aload_n (i := 0) X0 hx (hb hby d1_0) (by rfl) rfl rfl ?_
  refine g_initO X0 hx hZ hown (wd hw 8 rfl) (wd hw 9 rfl) (wd hw 10 rfl) e0 (by rw [hml]; rfl) (hb hby d1_1) rfl (by decide) (by decide) ?_
  intro T2 X2 e2
  have K0 := Keep.refl h0 [a]
  refine g_aload_n (i := 0) X2 hx (hb hby d1_4) (by rfl) rfl rfl ?_
  refine g_aload_n (i := 1) X2 hx (hb hby d1_5) (by rfl) rfl rfl ?_
  refine g_putF X2 hx hZ hown (wd hw 11 rfl) e2 F_names E (Or.inr ⟨wd hw 12 rfl, rfl, hnm⟩) (wd hw 3 rfl) (ty := (.object "com/example/link_importance/linkimportance/graph/PageNames")) (by decide) rfl rfl (hb hby d1_6) rfl ?_
  intro T3 h3 X3 e3 W3
  have N3 := Fr.snoc X3 (Fr.nil n0) ga
  have E3_ := E.wr W3
  have F3_names := F_names.same W3
  have F3_labels := F_labels.other W3 (Or.inr (slot_ne (C := "com/example/link_importance/linkimportance/graph/LinkGraph") (Or.inr (wd hw 14 rfl)) (Or.inr (wd hw 12 rfl)) (by decide) (t := (.object "com/example/link_importance/linkimportance/graph/PageLabels")) (t' := (.object "com/example/link_importance/linkimportance/graph/PageNames")) (by decide) (by decide)))
  have F3_inStart := F_inStart.other W3 (Or.inr (slot_ne (C := "com/example/link_importance/linkimportance/graph/LinkGraph") (Or.inr (wd hw 16 rfl)) (Or.inr (wd hw 12 rfl)) (by decide) (t := (.array .int)) (t' := (.object "com/example/link_importance/linkimportance/graph/PageNames")) (by decide) (by decide)))
  have F3_inSources := F_inSources.other W3 (Or.inr (slot_ne (C := "com/example/link_importance/linkimportance/graph/LinkGraph") (Or.inr (wd hw 18 rfl)) (Or.inr (wd hw 12 rfl)) (by decide) (t := (.array .int)) (t' := (.object "com/example/link_importance/linkimportance/graph/PageNames")) (by decide) (by decide)))
  have F3_outDegree := F_outDegree.other W3 (Or.inr (slot_ne (C := "com/example/link_importance/linkimportance/graph/LinkGraph") (Or.inr (wd hw 20 rfl)) (Or.inr (wd hw 12 rfl)) (by decide) (t := (.array .int)) (t' := (.object "com/example/link_importance/linkimportance/graph/PageNames")) (by decide) (by decide)))
  have K3 := K0.wr W3 (Or.inl (List.mem_singleton.mpr rfl))
  refine g_aload_n (i := 0) X3 hx (hb hby d1_9) (by rfl) rfl rfl ?_
  refine g_aload_n (i := 2) X3 hx (hb hby d1_10) (by rfl) rfl rfl ?_
  refine g_putF X3 hx hZ hown (wd hw 13 rfl) e3 F3_labels E3_ (Or.inr ⟨wd hw 14 rfl, rfl, hnm⟩) (wd hw 3 rfl) (ty := (.object "com/example/link_importance/linkimportance/graph/PageLabels")) (by decide) rfl rfl (hb hby d1_11) rfl ?_
  intro T4 h4 X4 e4 W4
  have N4 := Fr.snoc X4 N3 ga
  have E4_ := E3_.wr W4
  have F4_names := F3_names.other W4 (Or.inr (slot_ne (C := "com/example/link_importance/linkimportance/graph/LinkGraph") (Or.inr (wd hw 12 rfl)) (Or.inr (wd hw 14 rfl)) (by decide) (t := (.object "com/example/link_importance/linkimportance/graph/PageNames")) (t' := (.object "com/example/link_importance/linkimportance/graph/PageLabels")) (by decide) (by decide)))
  have F4_labels := F3_labels.same W4
  have F4_inStart := F3_inStart.other W4 (Or.inr (slot_ne (C := "com/example/link_importance/linkimportance/graph/LinkGraph") (Or.inr (wd hw 16 rfl)) (Or.inr (wd hw 14 rfl)) (by decide) (t := (.array .int)) (t' := (.object "com/example/link_importance/linkimportance/graph/PageLabels")) (by decide) (by decide)))
  have F4_inSources := F3_inSources.other W4 (Or.inr (slot_ne (C := "com/example/link_importance/linkimportance/graph/LinkGraph") (Or.inr (wd hw 18 rfl)) (Or.inr (wd hw 14 rfl)) (by decide) (t := (.array .int)) (t' := (.object "com/example/link_importance/linkimportance/graph/PageLabels")) (by decide) (by decide)))
  have F4_outDegree := F3_outDegree.other W4 (Or.inr (slot_ne (C := "com/example/link_importance/linkimportance/graph/LinkGraph") (Or.inr (wd hw 20 rfl)) (Or.inr (wd hw 14 rfl)) (by decide) (t := (.array .int)) (t' := (.object "com/example/link_importance/linkimportance/graph/PageLabels")) (by decide) (by decide)))
  have K4 := K3.wr W4 (Or.inl (List.mem_singleton.mpr rfl))
  refine g_aload_n (i := 0) X4 hx (hb hby d1_14) (by rfl) rfl rfl ?_
  refine g_aload_n (i := 3) X4 hx (hb hby d1_15) (by rfl) rfl rfl ?_
  refine g_putF X4 hx hZ hown (wd hw 15 rfl) e4 F4_inStart E4_ (Or.inr ⟨wd hw 16 rfl, rfl, hnm⟩) (wd hw 3 rfl) (ty := (.array .int)) (by decide) rfl rfl (hb hby d1_16) rfl ?_
  intro T5 h5 X5 e5 W5
  have N5 := Fr.snoc X5 N4 ga
  have E5_ := E4_.wr W5
  have F5_names := F4_names.other W5 (Or.inr (slot_ne (C := "com/example/link_importance/linkimportance/graph/LinkGraph") (Or.inr (wd hw 12 rfl)) (Or.inr (wd hw 16 rfl)) (by decide) (t := (.object "com/example/link_importance/linkimportance/graph/PageNames")) (t' := (.array .int)) (by decide) (by decide)))
  have F5_labels := F4_labels.other W5 (Or.inr (slot_ne (C := "com/example/link_importance/linkimportance/graph/LinkGraph") (Or.inr (wd hw 14 rfl)) (Or.inr (wd hw 16 rfl)) (by decide) (t := (.object "com/example/link_importance/linkimportance/graph/PageLabels")) (t' := (.array .int)) (by decide) (by decide)))
  have F5_inStart := F4_inStart.same W5
  have F5_inSources := F4_inSources.other W5 (Or.inr (slot_ne (C := "com/example/link_importance/linkimportance/graph/LinkGraph") (Or.inr (wd hw 18 rfl)) (Or.inr (wd hw 16 rfl)) (by decide) (t := (.array .int)) (t' := (.array .int)) (by decide) (by decide)))
  have F5_outDegree := F4_outDegree.other W5 (Or.inr (slot_ne (C := "com/example/link_importance/linkimportance/graph/LinkGraph") (Or.inr (wd hw 20 rfl)) (Or.inr (wd hw 16 rfl)) (by decide) (t := (.array .int)) (t' := (.array .int)) (by decide) (by decide)))
  have K5 := K4.wr W5 (Or.inl (List.mem_singleton.mpr rfl))
  refine g_aload_n (i := 0) X5 hx (hb hby d1_19) (by rfl) rfl rfl ?_
  refine g_aload (i := 4) X5 hx (hb hby d1_20) (by rfl) rfl rfl ?_
  refine g_putF X5 hx hZ hown (wd hw 17 rfl) e5 F5_inSources E5_ (Or.inr ⟨wd hw 18 rfl, rfl, hnm⟩) (wd hw 3 rfl) (ty := (.array .int)) (by decide) rfl rfl (hb hby d1_22) rfl ?_
  intro T6 h6 X6 e6 W6
  have N6 := Fr.snoc X6 N5 ga
  have E6_ := E5_.wr W6
  have F6_names := F5_names.other W6 (Or.inr (slot_ne (C := "com/example/link_importance/linkimportance/graph/LinkGraph") (Or.inr (wd hw 12 rfl)) (Or.inr (wd hw 18 rfl)) (by decide) (t := (.object "com/example/link_importance/linkimportance/graph/PageNames")) (t' := (.array .int)) (by decide) (by decide)))
  have F6_labels := F5_labels.other W6 (Or.inr (slot_ne (C := "com/example/link_importance/linkimportance/graph/LinkGraph") (Or.inr (wd hw 14 rfl)) (Or.inr (wd hw 18 rfl)) (by decide) (t := (.object "com/example/link_importance/linkimportance/graph/PageLabels")) (t' := (.array .int)) (by decide) (by decide)))
  have F6_inStart := F5_inStart.other W6 (Or.inr (slot_ne (C := "com/example/link_importance/linkimportance/graph/LinkGraph") (Or.inr (wd hw 16 rfl)) (Or.inr (wd hw 18 rfl)) (by decide) (t := (.array .int)) (t' := (.array .int)) (by decide) (by decide)))
  have F6_inSources := F5_inSources.same W6
  have F6_outDegree := F5_outDegree.other W6 (Or.inr (slot_ne (C := "com/example/link_importance/linkimportance/graph/LinkGraph") (Or.inr (wd hw 20 rfl)) (Or.inr (wd hw 18 rfl)) (by decide) (t := (.array .int)) (t' := (.array .int)) (by decide) (by decide)))
  have K6 := K5.wr W6 (Or.inl (List.mem_singleton.mpr rfl))
  refine g_aload_n (i := 0) X6 hx (hb hby d1_25) (by rfl) rfl rfl ?_
  refine g_aload (i := 5) X6 hx (hb hby d1_26) (by rfl) rfl rfl ?_
  refine g_putF X6 hx hZ hown (wd hw 19 rfl) e6 F6_outDegree E6_ (Or.inr ⟨wd hw 20 rfl, rfl, hnm⟩) (wd hw 3 rfl) (ty := (.array .int)) (by decide) rfl rfl (hb hby d1_28) rfl ?_
  intro T7 h7 X7 e7 W7
  have N7 := Fr.snoc X7 N6 ga
  have E7_ := E6_.wr W7
  have F7_names := F6_names.other W7 (Or.inr (slot_ne (C := "com/example/link_importance/linkimportance/graph/LinkGraph") (Or.inr (wd hw 12 rfl)) (Or.inr (wd hw 20 rfl)) (by decide) (t := (.object "com/example/link_importance/linkimportance/graph/PageNames")) (t' := (.array .int)) (by decide) (by decide)))
  have F7_labels := F6_labels.other W7 (Or.inr (slot_ne (C := "com/example/link_importance/linkimportance/graph/LinkGraph") (Or.inr (wd hw 14 rfl)) (Or.inr (wd hw 20 rfl)) (by decide) (t := (.object "com/example/link_importance/linkimportance/graph/PageLabels")) (t' := (.array .int)) (by decide) (by decide)))
  have F7_inStart := F6_inStart.other W7 (Or.inr (slot_ne (C := "com/example/link_importance/linkimportance/graph/LinkGraph") (Or.inr (wd hw 16 rfl)) (Or.inr (wd hw 20 rfl)) (by decide) (t := (.array .int)) (t' := (.array .int)) (by decide) (by decide)))
  have F7_inSources := F6_inSources.other W7 (Or.inr (slot_ne (C := "com/example/link_importance/linkimportance/graph/LinkGraph") (Or.inr (wd hw 18 rfl)) (Or.inr (wd hw 20 rfl)) (by decide) (t := (.array .int)) (t' := (.array .int)) (by decide) (by decide)))
  have F7_outDegree := F6_outDegree.same W7
  have K7 := K6.wr W7 (Or.inl (List.mem_singleton.mpr rfl))
  exact g_ret X7 hx hlk hret e7 (by decide) (by decide) (hb hby d1_31) ⟨rfl, N7, K7, E7_, F7_outDegree⟩
theorem ef_rm_z (m : MethodId) (x0 : Int32) (x1 : Int32)  : entryFrame m #[(.int x0), (.int x1)] 2 = mkF m 0 #[.val (.int x0), .val (.int x1)] [] := by first | (simp [entryFrame, mkF, argsToLocals, Value.category]; done) | rfl
theorem pn_8 : plainFor (⟨"com/example/link_importance/linkimportance/graph/LinkGraphDanglingCountPinLaw", "z", "(ZI)I"⟩ : MethodName) = true := by first | exact plainFor_of_name (by first | (simp [plainName, overriddenIn]; done) | decide +kernel) | decide +kernel
set_option maxRecDepth 65536 in
set_option maxHeartbeats 40000000 in
theorem rm_z (l : Launch) (Z : State) (a0 : Array Value) (hw : ∀ d ∈ tables_1, d.before a0 Z = true) (pr v : Int32) (h0 : Heap) :
    Ctr l Z (⟨"com/example/link_importance/linkimportance/graph/LinkGraphDanglingCountPinLaw", "z", "(ZI)I"⟩ : MethodName) method_2_code 2 (Option.some FieldType.int) [] ({ frames := 0, cells := 0, slots := 0, locals := 0 } : Room) ({ frames := 0, cells := 0, slots := 0, locals := 0 } : Room).cells ({ frames := 0, cells := 0, slots := 0, locals := 0 } : Room).slots #[(.int pr), (.int v)] h0 (fun r h L => r = some (.int (if ¬ pr = 0 ∧ v = 0 then 1 else 0)) ∧ L = [] ∧ h = h0) := by
  refine Ctr.of pn_8 ?_
  intro p e s m below meth c s₁ hx hby hml hown hnm hret hlk hZ X0 e0
  refine Goes.cast (ef_rm_z m pr v) ?_
  refine g_iload_n (i := 0) X0 hx (hb hby d3_0) (by rfl) rfl ?_
  refine g_if_eq X0 hx (hb hby d3_1) (by decide) (pt := 12) (by decide) rfl (fun q9 => ?_) (fun q9 => ?_)
  · refine g_iconst (v := (0 : Int32)) X0 hx (hb hby d3_12) (by decide) rfl ?_
    exact g_retI X0 hx hlk hret e0 (by decide) (by decide) (hb hby d3_13) ⟨by simp [q9], rfl, rfl⟩
  · refine g_iload_n (i := 1) X0 hx (hb hby d3_4) (by rfl) rfl ?_
    refine g_if_ne X0 hx (hb hby d3_5) (by decide) (pt := 12) (by decide) rfl (fun q10 => ?_) (fun q10 => ?_)
    · refine g_iconst (v := (0 : Int32)) X0 hx (hb hby d3_12) (by decide) rfl ?_
      exact g_retI X0 hx hlk hret e0 (by decide) (by decide) (hb hby d3_13) ⟨by simp [q9, q10], rfl, rfl⟩
    · refine g_iconst (v := (1 : Int32)) X0 hx (hb hby d3_8) (by decide) rfl ?_
      refine g_goto X0 hx (hb hby d3_9) (by decide) (by decide) (pc' := 13) ?_
      exact g_retI X0 hx hlk hret e0 (by decide) (by decide) (hb hby d3_13) ⟨by simp [q9, q10], rfl, rfl⟩
theorem ef_rm_dc (m : MethodId) (x0 : Addr)  : entryFrame m #[(.ref x0)] 6 = mkF m 0 #[.val (.ref x0), .unset, .unset, .unset, .unset, .unset] [] := by first | (simp [entryFrame, mkF, argsToLocals, Value.category]; done) | rfl
theorem pn_11 : plainFor (⟨"com/example/link_importance/linkimportance/graph/LinkGraph", "danglingCount", "()I"⟩ : MethodName) = true := by first | exact plainFor_of_name (by first | (simp [plainName, overriddenIn]; done) | decide +kernel) | decide +kernel
set_option maxRecDepth 65536 in
set_option maxHeartbeats 40000000 in
theorem rm_dc (l : Launch) (Z : State) (a0 : Array Value) (hw : ∀ d ∈ tables_1, d.before a0 Z = true) (a b : Addr) (n : Nat) (f : Nat → Int32) (h0 : Heap) (hn : n < 2147483647) (F : Fld Z h0 a "com/example/link_importance/linkimportance/graph/LinkGraph" "outDegree" "[I" (.ref b)) (A : ArI Z h0 b .int n f) :
    Ctr l Z (⟨"com/example/link_importance/linkimportance/graph/LinkGraph", "danglingCount", "()I"⟩ : MethodName) prog_14_method_6_code 6 (Option.some FieldType.int) [] ({ frames := 0, cells := 0, slots := 0, locals := 0 } : Room) ({ frames := 0, cells := 0, slots := 0, locals := 0 } : Room).cells ({ frames := 0, cells := 0, slots := 0, locals := 0 } : Room).slots #[(.ref a)] h0 (fun r h L => r = some (.int (own_cnt f n)) ∧ L = [] ∧ h = h0) := by
  refine Ctr.of pn_11 ?_
  intro p e s m below meth c s₁ hx hby hml hown hnm hret hlk hZ X0 e0
  refine Goes.cast (ef_rm_dc m a) ?_
  have hlen : (n.toInt32).toInt = (n : Int) := len_toInt (by omega)
  refine g_iconst (v := (0 : Int32)) X0 hx (hb hby d4_0) (by decide) rfl ?_
  refine g_istore_n (i := 1) X0 hx #[.val (.ref a), .val (.int (0 : Int32)), .unset, .unset, .unset, .unset] (hb hby d4_1) rfl rfl ?_
  refine g_aload_n (i := 0) X0 hx (hb hby d4_2) (by rfl) rfl rfl ?_
  refine g_getF X0 hx hZ hown (wd hw 19 rfl) e0 F (hb hby d4_3) rfl ?_
  intro T12 X12 e12
  refine g_astore_n (i := 2) X12 hx #[.val (.ref a), .val (.int (0 : Int32)), .val (.ref b), .unset, .unset, .unset] (hb hby d4_6) rfl rfl rfl ?_
  refine g_aload_n (i := 2) X12 hx (hb hby d4_7) (by rfl) rfl rfl ?_
  refine g_arraylengthI X12 hx hZ e12 A (z := n.toInt32) rfl (hb hby d4_8) rfl ?_
  refine g_istore_n (i := 3) X12 hx #[.val (.ref a), .val (.int (0 : Int32)), .val (.ref b), .val (.int n.toInt32), .unset, .unset] (hb hby d4_9) rfl rfl ?_
  refine g_iconst (v := (0 : Int32)) X12 hx (hb hby d4_10) (by decide) rfl ?_
  refine g_istore (i := 4) X12 hx #[.val (.ref a), .val (.int (0 : Int32)), .val (.ref b), .val (.int n.toInt32), .val (.int (0 : Int32)), .unset] (hb hby d4_11) rfl rfl ?_
  have loop : ∀ (k i : Nat) (s5 : Slot), One s5 → i + k = n → Goes p e below (KQ s ({ frames := 0, cells := 0, slots := 0, locals := 0 } : Room).cells ({ frames := 0, cells := 0, slots := 0, locals := 0 } : Room).slots (fun r h L => r = some (.int (own_cnt f n)) ∧ L = [] ∧ h = h0)) T12 (mkF m 13 #[.val (.ref a), .val (.int (own_cnt f i)), .val (.ref b), .val (.int n.toInt32), .val (.int i.toInt32), s5] []) := by
    intro k
    induction k with
    | zero =>
      intro i s5 hs g1
      have hi : (i.toInt32).toInt = (i : Int) := len_toInt (by omega)
      refine g_iload (i := 4) X12 hx (hb hby d4_13) (by rfl) rfl ?_
      refine g_iload_n (i := 3) X12 hx (hb hby d4_15) (by rfl) rfl ?_
      refine g_icmp_ge X12 hx (hb hby d4_16) (by decide) (pt := 39) (by decide) rfl (fun _ => ?_) (fun q_ => absurd q_ (by rw [own_ltI]; omega))
      refine g_iload_n (i := 1) X12 hx (hb hby d4_39) (by rfl) rfl ?_
      exact g_retI X12 hx hlk hret e12 (by decide) (by decide) (hb hby d4_40) ⟨by rw [show i = n by omega], rfl, rfl⟩
    | succ k ih =>
      intro i s5 hs g1
      have hi : (i.toInt32).toInt = (i : Int) := len_toInt (by omega)
      have hi1 : i.toInt32 + 1 = (i + 1).toInt32 := Int32.toInt_inj.mp (by rw [own_inc (by omega), hi, len_toInt (by omega)]; rfl)
      have hic : i.toInt32.toNatClampNeg = i := by rw [own_tnc, hi]; rfl
      refine g_iload (i := 4) X12 hx (hb hby d4_13) (by rfl) rfl ?_
      refine g_iload_n (i := 3) X12 hx (hb hby d4_15) (by rfl) rfl ?_
      refine g_icmp_ge X12 hx (hb hby d4_16) (by decide) (pt := 39) (by decide) rfl (fun q_ => absurd (by rw [own_ltI]; omega) q_) (fun _ => ?_)
      refine g_aload_n (i := 2) X12 hx (hb hby d4_19) (by rfl) rfl rfl ?_
      refine g_iload (i := 4) X12 hx (hb hby d4_20) (by rfl) rfl ?_
      refine g_iaload' X12 hx hZ e12 A (own_nneg (by omega)) (by rw [hic]; omega) (x := (f i)) (congrArg f hic) (hb hby d4_22) rfl ?_
      refine g_istore (i := 5) X12 hx #[.val (.ref a), .val (.int (own_cnt f i)), .val (.ref b), .val (.int n.toInt32), .val (.int i.toInt32), .val (.int (f i))] (hb hby d4_23) (XS.store1 (o := s5) rfl hs rfl) rfl ?_
      refine g_iload (i := 5) X12 hx (hb hby d4_25) (by rfl) rfl ?_
      refine g_if_ne X12 hx (hb hby d4_27) (by decide) (pt := 33) (by decide) rfl (fun q => ?_) (fun q => ?_)
      · refine g_iinc (i := 4) (x := i.toInt32) (y := (i.toInt32 + (1 : Int32))) X12 hx #[.val (.ref a), .val (.int (own_cnt f i)), .val (.ref b), .val (.int n.toInt32), .val (.int (i.toInt32 + (1 : Int32))), .val (.int (f i))] (hb hby d4_33) (by rfl) (by rfl) rfl rfl ?_
        refine g_goto X12 hx (hb hby d4_36) (by decide) (by decide) (pc' := 13) ?_
        have hc : own_cnt f (i + 1) = (own_cnt f i) := by simp only [own_cnt]; rw [if_neg q]; exact Int32.add_zero _
        rw [hi1, ← hc]
        exact ih (i + 1) _ (One.val rfl) (by omega)
      · refine g_iinc (i := 1) (x := (own_cnt f i)) (y := ((own_cnt f i) + (1 : Int32))) X12 hx #[.val (.ref a), .val (.int ((own_cnt f i) + (1 : Int32))), .val (.ref b), .val (.int n.toInt32), .val (.int i.toInt32), .val (.int (f i))] (hb hby d4_30) (by rfl) (by rfl) rfl rfl ?_
        refine g_iinc (i := 4) (x := i.toInt32) (y := (i.toInt32 + (1 : Int32))) X12 hx #[.val (.ref a), .val (.int ((own_cnt f i) + (1 : Int32))), .val (.ref b), .val (.int n.toInt32), .val (.int (i.toInt32 + (1 : Int32))), .val (.int (f i))] (hb hby d4_33) (by rfl) (by rfl) rfl rfl ?_
        refine g_goto X12 hx (hb hby d4_36) (by decide) (by decide) (pc' := 13) ?_
        have hc : own_cnt f (i + 1) = (own_cnt f i + (1 : Int32)) := by simp only [own_cnt]; rw [if_pos q]
        rw [hi1, ← hc]
        exact ih (i + 1) _ (One.val rfl) (by omega)
  exact loop n 0 _ One.u (by omega)
theorem ef_rm0 (m : MethodId) (x0 : Int32) (x1 : Int32) (x2 : Int32) (x3 : Int32) (x4 : Int32)  : entryFrame m #[(.int x0), (.int x1), (.int x2), (.int x3), (.int x4)] maxLocals = mkF m 0 #[.val (.int x0), .val (.int x1), .val (.int x2), .val (.int x3), .val (.int x4), .unset, .unset, .unset, .unset, .unset, .unset, .unset, .unset] [] := by first | (simp [entryFrame, mkF, argsToLocals, Value.category, maxLocals]; done) | rfl
theorem pn_13 : plainFor x = true := by first | exact plainFor_of_name (by first | (simp [plainName, overriddenIn]; done) | decide +kernel) | decide +kernel
theorem pd_18 : parseMethodDescriptor "(Lcom/example/link_importance/linkimportance/graph/PageNames;Lcom/example/link_importance/linkimportance/graph/PageLabels;[I[I[I)V" = some ⟨[(.object "com/example/link_importance/linkimportance/graph/PageNames"), (.object "com/example/link_importance/linkimportance/graph/PageLabels"), (.array .int), (.array .int), (.array .int)], none⟩ := by decide +kernel
theorem pd_19 : parseMethodDescriptor "(ZI)I" = some ⟨[.boolean, .int], some .int⟩ := by decide +kernel
theorem pd_23 : parseMethodDescriptor "()I" = some ⟨[], some .int⟩ := by decide +kernel
set_option maxRecDepth 65536 in
set_option maxHeartbeats 40000000 in
theorem rm0 (l : Launch) (Z : State) (a0 : Array Value) (hw : ∀ d ∈ tables_1, d.before a0 Z = true) (p0 p1 p2 p3 p4 : Int32) (h0 : Heap) (n0 : Nat) (Z0 : n0 ≤ h0.size) :
    Ctr l Z x code maxLocals ret tables_1 room_1 16 128 #[(.int p0), (.int p1), (.int p2), (.int p3), (.int p4)] h0 (fun v h L => v = some (.int 1) ∧ Fr n0 L) := by
  refine Ctr.of pn_13 ?_
  intro p e s m below meth c s₁ hx hby hml hown hnm hret hlk hZ X0 e0
  refine Goes.cast (ef_rm0 m p0 p1 p2 p3 p4) ?_
  refine g_iload_n (i := 0) X0 hx (hb hby at_0) (by rfl) rfl ?_
  refine g_ldcI X0 hx hZ hown (wd hw 0 rfl) (hb hby at_1) rfl ?_
  refine g_iand X0 hx (hb hby at_3) rfl ?_
  refine g_iconst (v := (5 : Int32)) X0 hx (hb hby at_4) (by decide) rfl ?_
  refine g_irem X0 hx (hb hby at_5) (by decide) rfl ?_
  refine g_istore (i := 5) X0 hx #[.val (.int p0), .val (.int p1), .val (.int p2), .val (.int p3), .val (.int p4), .val (.int ((p0 &&& (2147483647 : Int32)) % (5 : Int32))), .unset, .unset, .unset, .unset, .unset, .unset, .unset] (hb hby at_6) rfl rfl ?_
  obtain ⟨x0, x1⟩ := own_rem p0 5 (by decide)
  revert x0 x1
  generalize ((p0 &&& (2147483647 : Int32)) % (5 : Int32)) = n
  intro x0 x1
  rw [show (5 : Int32).toInt = 5 from rfl] at x1
  have J82 : ∀ (d0 d1 d2 d3 : Int32), Goes p e below (KQ s 16 128 (fun v h L => v = some (.int 1) ∧ Fr n0 L)) s₁ (mkF m 82 #[.val (.int p0), .val (.int p1), .val (.int p2), .val (.int p3), .val (.int p4), .val (.int n), .val (.int d0), .val (.int d1), .val (.int d2), .val (.int d3), .unset, .unset, .unset] []) := by
    intro d0 d1 d2 d3
    rcases own_five n x0 x1 with rfl | rfl | rfl | rfl | rfl
    · refine g_iload (i := 5) X0 hx (hb hby at_82) (by rfl) rfl ?_
      refine g_newarr X0 hx hZ (ty := .int) rfl (wd hw 1 rfl) e0 (hb hby at_84) rfl (by decide) 4 (by decide) (by decide) (by decide) (by decide) ?_
      intro T14 h14 cA14 a14 X14 e14 g14 Ex14 A14
      have Ar0 : ArI Z h14 a14 .int 0 (fun _ => 0) := ArI.new A14 0 rfl
      have gb : n0 ≤ a14 := by rw [g14]; exact Z0
      have Zs : n0 ≤ h14.size := Nat.le_trans Z0 Ex14.1
      refine g_astore (i := 10) X14 hx #[.val (.int p0), .val (.int p1), .val (.int p2), .val (.int p3), .val (.int p4), .val (.int (0 : Int32)), .val (.int d0), .val (.int d1), .val (.int d2), .val (.int d3), .val (.ref a14), .unset, .unset] (hb hby at_86) rfl rfl rfl ?_
      refine g_iload (i := 5) X14 hx (hb hby at_88) (by rfl) rfl ?_
      refine g_if_le X14 hx (hb hby at_90) (by decide) (pt := 99) (by decide) rfl (fun _ => ?_) (fun q_ => absurd q_ (by decide))
      refine g_iload (i := 5) X14 hx (hb hby at_99) (by rfl) rfl ?_
      refine g_iconst (v := (1 : Int32)) X14 hx (hb hby at_101) (by decide) rfl ?_
      refine g_icmp_le X14 hx (hb hby at_102) (by decide) (pt := 111) (by decide) rfl (fun _ => ?_) (fun q_ => absurd q_ (by decide))
      refine g_iload (i := 5) X14 hx (hb hby at_111) (by rfl) rfl ?_
      refine g_iconst (v := (2 : Int32)) X14 hx (hb hby at_113) (by decide) rfl ?_
      refine g_icmp_le X14 hx (hb hby at_114) (by decide) (pt := 123) (by decide) rfl (fun _ => ?_) (fun q_ => absurd q_ (by decide))
      refine g_iload (i := 5) X14 hx (hb hby at_123) (by rfl) rfl ?_
      refine g_iconst (v := (3 : Int32)) X14 hx (hb hby at_125) (by decide) rfl ?_
      refine g_icmp_le X14 hx (hb hby at_126) (by decide) (pt := 135) (by decide) rfl (fun _ => ?_) (fun q_ => absurd q_ (by decide))
      obtain ⟨f, A, hf⟩ : ∃ f, ArI Z h14 a14 .int 0 f ∧ own_cnt f 0 = ((((if ¬ (0 : Int32) = 0 ∧ d0 = 0 then 1 else 0) + (if ¬ (0 : Int32) = 0 ∧ d1 = 0 then 1 else 0)) + (if ¬ (0 : Int32) = 0 ∧ d2 = 0 then 1 else 0)) + (if ¬ (0 : Int32) = 0 ∧ d3 = 0 then 1 else 0)) := ⟨_, Ar0, by simp [own_cnt]⟩
      refine g_new X14 hx hZ hown (wd hw 2 rfl) (wd hw 3 rfl) (wd hw 4 rfl) e14 (hb hby at_135) rfl (by decide) (by decide) ?_
      intro T15 h15 a15 X15 e15 g15 Ex15 E15 D15
      have F15_names : Fld Z h15 a15 "com/example/link_importance/linkimportance/graph/LinkGraph" "names" "Lcom/example/link_importance/linkimportance/graph/PageNames;" .null := D15 (Or.inr (wd hw 12 rfl)) (ty := (.object "com/example/link_importance/linkimportance/graph/PageNames")) (by decide)
      have F15_labels : Fld Z h15 a15 "com/example/link_importance/linkimportance/graph/LinkGraph" "labels" "Lcom/example/link_importance/linkimportance/graph/PageLabels;" .null := D15 (Or.inr (wd hw 14 rfl)) (ty := (.object "com/example/link_importance/linkimportance/graph/PageLabels")) (by decide)
      have F15_inStart : Fld Z h15 a15 "com/example/link_importance/linkimportance/graph/LinkGraph" "inStart" "[I" .null := D15 (Or.inr (wd hw 16 rfl)) (ty := (.array .int)) (by decide)
      have F15_inSources : Fld Z h15 a15 "com/example/link_importance/linkimportance/graph/LinkGraph" "inSources" "[I" .null := D15 (Or.inr (wd hw 18 rfl)) (ty := (.array .int)) (by decide)
      have F15_outDegree : Fld Z h15 a15 "com/example/link_importance/linkimportance/graph/LinkGraph" "outDegree" "[I" .null := D15 (Or.inr (wd hw 20 rfl)) (ty := (.array .int)) (by decide)
      have ga : n0 ≤ a15 := by rw [g15]; exact Zs
      have Zo : n0 ≤ h15.size := Nat.le_trans Zs Ex15.1
      refine g_dup X15 hx (hb hby at_138) rfl rfl ?_
      refine g_aconst_null X15 hx (hb hby at_139) rfl ?_
      refine g_aconst_null X15 hx (hb hby at_140) rfl ?_
      refine g_iload (i := 5) X15 hx (hb hby at_141) (by rfl) rfl ?_
      refine g_iconst (v := (1 : Int32)) X15 hx (hb hby at_143) (by decide) rfl ?_
      refine g_iadd X15 hx (hb hby at_144) rfl ?_
      refine g_newarr X15 hx hZ (ty := .int) rfl (wd hw 1 rfl) e15 (hb hby at_145) rfl (by decide) 5 (by decide) (by decide) (by decide) (by decide) ?_
      intro T16 h16 cA16 a16 X16 e16 g16 Ex16 A16
      refine g_iconst (v := (0 : Int32)) X16 hx (hb hby at_147) (by decide) rfl ?_
      refine g_newarr X16 hx hZ (ty := .int) rfl (wd hw 1 rfl) e16 (hb hby at_148) rfl (by decide) 0 (by decide) (by decide) (by decide) (by decide) ?_
      intro T17 h17 cA17 a17 X17 e17 g17 Ex17 A17
      refine g_aload (i := 10) X17 hx (hb hby at_150) (by rfl) rfl rfl ?_
      refine g_callI X17 hx hZ rfl hown (wd hw 5 rfl) (wd hw 6 rfl) (wd hw 4 rfl) (wd hw 7 rfl) (by decide) e17 (rm_lg l Z a0 hw a15 a16 a17 a14 h17 n0 ga ((E15.ext Ex16).ext Ex17) ((F15_names.ext Ex16).ext Ex17) ((F15_labels.ext Ex16).ext Ex17) ((F15_inStart.ext Ex16).ext Ex17) ((F15_inSources.ext Ex16).ext Ex17) ((F15_outDegree.ext Ex16).ext Ex17)) (by rw [hml]; rfl) a15 [.null, .null, (.ref a16), (.ref a17), (.ref a14)] [(.ref a15)] rfl (lenOf pd_18 rfl) rfl (by show 1 + (6 + 11) + 12 ≤ _; decide) (by decide) (by decide) (by decide) (hb hby at_152) rfl ?_
      intro T18 v18 L18 X18 hQ18
      obtain ⟨rfl, N18, K18, E18, Fd18⟩ := hQ18
      have N18 := Fr.app (Fr.nil n0) N18
      show Goes p e below _ T18 (mkF m 155 #[.val (.int p0), .val (.int p1), .val (.int p2), .val (.int p3), .val (.int p4), .val (.int (0 : Int32)), .val (.int d0), .val (.int d1), .val (.int d2), .val (.int d3), .val (.ref a14), .unset, .unset] [(.ref a15)])
      have hne : a14 ∉ [a15] := fun q => absurd A.lt (by rw [List.mem_singleton.mp q, g15]; exact Nat.lt_irrefl _)
      have A2 := (((A.ext Ex15).ext Ex16).ext Ex17).keep K18 hne
      refine g_astore (i := 11) X18 hx #[.val (.int p0), .val (.int p1), .val (.int p2), .val (.int p3), .val (.int p4), .val (.int (0 : Int32)), .val (.int d0), .val (.int d1), .val (.int d2), .val (.int d3), .val (.ref a14), .val (.ref a15), .unset] (hb hby at_155) rfl rfl rfl ?_
      refine g_iload (i := 5) X18 hx (hb hby at_157) (by rfl) rfl ?_
      refine g_if_le X18 hx (hb hby at_159) (by decide) (pt := 166) (by decide) rfl (fun _ => ?_) (fun q_ => absurd q_ (by decide))
      refine g_iconst (v := (0 : Int32)) X18 hx (hb hby at_166) (by decide) rfl ?_
      refine g_iload (i := 6) X18 hx (hb hby at_167) (by rfl) rfl ?_
      refine g_callS X18 hx hZ hown (wd hw 21 rfl) (wd hw 22 rfl) (wd hw 23 rfl) (wd hw 24 rfl) (by decide) rfl (rm_z l Z a0 hw (0 : Int32) d0 T18.heap) (by rw [hml]; rfl) [(.int (0 : Int32)), (.int d0)] [] rfl (lenOf pd_19 rfl) rfl (by show 0 + (2 + 11) + 0 ≤ _; decide) (by decide) (by decide) (by decide) (hb hby at_169) rfl ?_
      intro T19 v19 L19 X19 hQ19
      obtain ⟨rfl, rfl, e19⟩ := hQ19
      have N19 := Fr.app N18 (Fr.nil n0)
      show Goes p e below _ T19 (mkF m 172 #[.val (.int p0), .val (.int p1), .val (.int p2), .val (.int p3), .val (.int p4), .val (.int (0 : Int32)), .val (.int d0), .val (.int d1), .val (.int d2), .val (.int d3), .val (.ref a14), .val (.ref a15), .unset] [(.int (if ¬ (0 : Int32) = 0 ∧ d0 = 0 then 1 else 0))])
      refine g_iload (i := 5) X19 hx (hb hby at_172) (by rfl) rfl ?_
      refine g_iconst (v := (1 : Int32)) X19 hx (hb hby at_174) (by decide) rfl ?_
      refine g_icmp_le X19 hx (hb hby at_175) (by decide) (pt := 182) (by decide) rfl (fun _ => ?_) (fun q_ => absurd q_ (by decide))
      refine g_iconst (v := (0 : Int32)) X19 hx (hb hby at_182) (by decide) rfl ?_
      refine g_iload (i := 7) X19 hx (hb hby at_183) (by rfl) rfl ?_
      refine g_callS X19 hx hZ hown (wd hw 21 rfl) (wd hw 22 rfl) (wd hw 23 rfl) (wd hw 24 rfl) (by decide) e19 (rm_z l Z a0 hw (0 : Int32) d1 T18.heap) (by rw [hml]; rfl) [(.int (0 : Int32)), (.int d1)] [(.int (if ¬ (0 : Int32) = 0 ∧ d0 = 0 then 1 else 0))] rfl (lenOf pd_19 rfl) rfl (by show 1 + (2 + 11) + 0 ≤ _; decide) (by decide) (by decide) (by decide) (hb hby at_185) rfl ?_
      intro T20 v20 L20 X20 hQ20
      obtain ⟨rfl, rfl, e20⟩ := hQ20
      have N20 := Fr.app N19 (Fr.nil n0)
      show Goes p e below _ T20 (mkF m 188 #[.val (.int p0), .val (.int p1), .val (.int p2), .val (.int p3), .val (.int p4), .val (.int (0 : Int32)), .val (.int d0), .val (.int d1), .val (.int d2), .val (.int d3), .val (.ref a14), .val (.ref a15), .unset] [(.int (if ¬ (0 : Int32) = 0 ∧ d1 = 0 then 1 else 0)), (.int (if ¬ (0 : Int32) = 0 ∧ d0 = 0 then 1 else 0))])
      refine g_iadd X20 hx (hb hby at_188) rfl ?_
      refine g_iload (i := 5) X20 hx (hb hby at_189) (by rfl) rfl ?_
      refine g_iconst (v := (2 : Int32)) X20 hx (hb hby at_191) (by decide) rfl ?_
      refine g_icmp_le X20 hx (hb hby at_192) (by decide) (pt := 199) (by decide) rfl (fun _ => ?_) (fun q_ => absurd q_ (by decide))
      refine g_iconst (v := (0 : Int32)) X20 hx (hb hby at_199) (by decide) rfl ?_
      refine g_iload (i := 8) X20 hx (hb hby at_200) (by rfl) rfl ?_
      refine g_callS X20 hx hZ hown (wd hw 21 rfl) (wd hw 22 rfl) (wd hw 23 rfl) (wd hw 24 rfl) (by decide) e20 (rm_z l Z a0 hw (0 : Int32) d2 T18.heap) (by rw [hml]; rfl) [(.int (0 : Int32)), (.int d2)] [(.int ((if ¬ (0 : Int32) = 0 ∧ d0 = 0 then 1 else 0) + (if ¬ (0 : Int32) = 0 ∧ d1 = 0 then 1 else 0)))] rfl (lenOf pd_19 rfl) rfl (by show 1 + (2 + 11) + 0 ≤ _; decide) (by decide) (by decide) (by decide) (hb hby at_202) rfl ?_
      intro T21 v21 L21 X21 hQ21
      obtain ⟨rfl, rfl, e21⟩ := hQ21
      have N21 := Fr.app N20 (Fr.nil n0)
      show Goes p e below _ T21 (mkF m 205 #[.val (.int p0), .val (.int p1), .val (.int p2), .val (.int p3), .val (.int p4), .val (.int (0 : Int32)), .val (.int d0), .val (.int d1), .val (.int d2), .val (.int d3), .val (.ref a14), .val (.ref a15), .unset] [(.int (if ¬ (0 : Int32) = 0 ∧ d2 = 0 then 1 else 0)), (.int ((if ¬ (0 : Int32) = 0 ∧ d0 = 0 then 1 else 0) + (if ¬ (0 : Int32) = 0 ∧ d1 = 0 then 1 else 0)))])
      refine g_iadd X21 hx (hb hby at_205) rfl ?_
      refine g_iload (i := 5) X21 hx (hb hby at_206) (by rfl) rfl ?_
      refine g_iconst (v := (3 : Int32)) X21 hx (hb hby at_208) (by decide) rfl ?_
      refine g_icmp_le X21 hx (hb hby at_209) (by decide) (pt := 216) (by decide) rfl (fun _ => ?_) (fun q_ => absurd q_ (by decide))
      refine g_iconst (v := (0 : Int32)) X21 hx (hb hby at_216) (by decide) rfl ?_
      refine g_iload (i := 9) X21 hx (hb hby at_217) (by rfl) rfl ?_
      refine g_callS X21 hx hZ hown (wd hw 21 rfl) (wd hw 22 rfl) (wd hw 23 rfl) (wd hw 24 rfl) (by decide) e21 (rm_z l Z a0 hw (0 : Int32) d3 T18.heap) (by rw [hml]; rfl) [(.int (0 : Int32)), (.int d3)] [(.int (((if ¬ (0 : Int32) = 0 ∧ d0 = 0 then 1 else 0) + (if ¬ (0 : Int32) = 0 ∧ d1 = 0 then 1 else 0)) + (if ¬ (0 : Int32) = 0 ∧ d2 = 0 then 1 else 0)))] rfl (lenOf pd_19 rfl) rfl (by show 1 + (2 + 11) + 0 ≤ _; decide) (by decide) (by decide) (by decide) (hb hby at_219) rfl ?_
      intro T22 v22 L22 X22 hQ22
      obtain ⟨rfl, rfl, e22⟩ := hQ22
      have N22 := Fr.app N21 (Fr.nil n0)
      show Goes p e below _ T22 (mkF m 222 #[.val (.int p0), .val (.int p1), .val (.int p2), .val (.int p3), .val (.int p4), .val (.int (0 : Int32)), .val (.int d0), .val (.int d1), .val (.int d2), .val (.int d3), .val (.ref a14), .val (.ref a15), .unset] [(.int (if ¬ (0 : Int32) = 0 ∧ d3 = 0 then 1 else 0)), (.int (((if ¬ (0 : Int32) = 0 ∧ d0 = 0 then 1 else 0) + (if ¬ (0 : Int32) = 0 ∧ d1 = 0 then 1 else 0)) + (if ¬ (0 : Int32) = 0 ∧ d2 = 0 then 1 else 0)))])
      refine g_iadd X22 hx (hb hby at_222) rfl ?_
      refine g_istore (i := 12) X22 hx #[.val (.int p0), .val (.int p1), .val (.int p2), .val (.int p3), .val (.int p4), .val (.int (0 : Int32)), .val (.int d0), .val (.int d1), .val (.int d2), .val (.int d3), .val (.ref a14), .val (.ref a15), .val (.int ((((if ¬ (0 : Int32) = 0 ∧ d0 = 0 then 1 else 0) + (if ¬ (0 : Int32) = 0 ∧ d1 = 0 then 1 else 0)) + (if ¬ (0 : Int32) = 0 ∧ d2 = 0 then 1 else 0)) + (if ¬ (0 : Int32) = 0 ∧ d3 = 0 then 1 else 0)))] (hb hby at_223) rfl rfl ?_
      refine g_aload (i := 11) X22 hx (hb hby at_225) (by rfl) rfl rfl ?_
      refine g_callV X22 hx hZ hown (wd hw 25 rfl) (wd hw 26 rfl) (wd hw 28 rfl) (wd hw 27 rfl) (wd hw 4 rfl) (wd hw 29 rfl) (by decide) e22 a15 E18 (rm_dc l Z a0 hw a15 a14 0 f T18.heap (by decide) Fd18 A2) (by rw [hml]; rfl) [] [] rfl (lenOf pd_23 rfl) rfl (by show 0 + (6 + 11) + 0 ≤ _; decide) (by decide) (by decide) (by decide) (hb hby at_227) rfl ?_
      intro T23 v23 L23 X23 hQ23
      obtain ⟨rfl, rfl, e23⟩ := hQ23
      have N23 := Fr.app N22 (Fr.nil n0)
      show Goes p e below _ T23 (mkF m 230 #[.val (.int p0), .val (.int p1), .val (.int p2), .val (.int p3), .val (.int p4), .val (.int (0 : Int32)), .val (.int d0), .val (.int d1), .val (.int d2), .val (.int d3), .val (.ref a14), .val (.ref a15), .val (.int ((((if ¬ (0 : Int32) = 0 ∧ d0 = 0 then 1 else 0) + (if ¬ (0 : Int32) = 0 ∧ d1 = 0 then 1 else 0)) + (if ¬ (0 : Int32) = 0 ∧ d2 = 0 then 1 else 0)) + (if ¬ (0 : Int32) = 0 ∧ d3 = 0 then 1 else 0)))] [(.int (own_cnt f 0))])
      refine g_iload (i := 12) X23 hx (hb hby at_230) (by rfl) rfl ?_
      refine g_icmp_ne X23 hx (hb hby at_232) (by decide) (pt := 239) (by decide) rfl (fun q_ => absurd (hf) q_) (fun _ => ?_)
      refine g_iconst (v := (1 : Int32)) X23 hx (hb hby at_235) (by decide) rfl ?_
      refine g_goto X23 hx (hb hby at_236) (by decide) (by decide) (pc' := 240) ?_
      exact g_retN X23 hx (t := .boolean) (by simp) hlk hret e23 (by decide) (by decide) (hb hby at_240) ⟨rfl, N23⟩
    · refine g_iload (i := 5) X0 hx (hb hby at_82) (by rfl) rfl ?_
      refine g_newarr X0 hx hZ (ty := .int) rfl (wd hw 1 rfl) e0 (hb hby at_84) rfl (by decide) 4 (by decide) (by decide) (by decide) (by decide) ?_
      intro T24 h24 cA24 a24 X24 e24 g24 Ex24 A24
      have Ar0 : ArI Z h24 a24 .int 1 (fun _ => 0) := ArI.new A24 0 rfl
      have gb : n0 ≤ a24 := by rw [g24]; exact Z0
      have Zs : n0 ≤ h24.size := Nat.le_trans Z0 Ex24.1
      refine g_astore (i := 10) X24 hx #[.val (.int p0), .val (.int p1), .val (.int p2), .val (.int p3), .val (.int p4), .val (.int (1 : Int32)), .val (.int d0), .val (.int d1), .val (.int d2), .val (.int d3), .val (.ref a24), .unset, .unset] (hb hby at_86) rfl rfl rfl ?_
      refine g_iload (i := 5) X24 hx (hb hby at_88) (by rfl) rfl ?_
      refine g_if_le X24 hx (hb hby at_90) (by decide) (pt := 99) (by decide) rfl (fun q_ => absurd (by decide) q_) (fun _ => ?_)
      refine g_aload (i := 10) X24 hx (hb hby at_93) (by rfl) rfl rfl ?_
      refine g_iconst (v := (0 : Int32)) X24 hx (hb hby at_95) (by decide) rfl ?_
      refine g_iload (i := 6) X24 hx (hb hby at_96) (by rfl) rfl ?_
      refine g_iastore' X24 hx hZ e24 Ar0 (by decide) (by decide) (hb hby at_98) rfl ?_
      intro T25 h25 X25 e25 W25 Ar25
      have N25 := Fr.snoc X25 (Fr.nil n0) gb
      have Zs25 : n0 ≤ h25.size := by rw [W25.size]; exact Zs
      refine g_iload (i := 5) X25 hx (hb hby at_99) (by rfl) rfl ?_
      refine g_iconst (v := (1 : Int32)) X25 hx (hb hby at_101) (by decide) rfl ?_
      refine g_icmp_le X25 hx (hb hby at_102) (by decide) (pt := 111) (by decide) rfl (fun _ => ?_) (fun q_ => absurd q_ (by decide))
      refine g_iload (i := 5) X25 hx (hb hby at_111) (by rfl) rfl ?_
      refine g_iconst (v := (2 : Int32)) X25 hx (hb hby at_113) (by decide) rfl ?_
      refine g_icmp_le X25 hx (hb hby at_114) (by decide) (pt := 123) (by decide) rfl (fun _ => ?_) (fun q_ => absurd q_ (by decide))
      refine g_iload (i := 5) X25 hx (hb hby at_123) (by rfl) rfl ?_
      refine g_iconst (v := (3 : Int32)) X25 hx (hb hby at_125) (by decide) rfl ?_
      refine g_icmp_le X25 hx (hb hby at_126) (by decide) (pt := 135) (by decide) rfl (fun _ => ?_) (fun q_ => absurd q_ (by decide))
      obtain ⟨f, A, hf⟩ : ∃ f, ArI Z h25 a24 .int 1 f ∧ own_cnt f 1 = ((((if ¬ (1 : Int32) = 0 ∧ d0 = 0 then 1 else 0) + (if ¬ (0 : Int32) = 0 ∧ d1 = 0 then 1 else 0)) + (if ¬ (0 : Int32) = 0 ∧ d2 = 0 then 1 else 0)) + (if ¬ (0 : Int32) = 0 ∧ d3 = 0 then 1 else 0)) := ⟨_, Ar25, by simp [own_cnt]⟩
      refine g_new X25 hx hZ hown (wd hw 2 rfl) (wd hw 3 rfl) (wd hw 4 rfl) e25 (hb hby at_135) rfl (by decide) (by decide) ?_
      intro T26 h26 a26 X26 e26 g26 Ex26 E26 D26
      have F26_names : Fld Z h26 a26 "com/example/link_importance/linkimportance/graph/LinkGraph" "names" "Lcom/example/link_importance/linkimportance/graph/PageNames;" .null := D26 (Or.inr (wd hw 12 rfl)) (ty := (.object "com/example/link_importance/linkimportance/graph/PageNames")) (by decide)
      have F26_labels : Fld Z h26 a26 "com/example/link_importance/linkimportance/graph/LinkGraph" "labels" "Lcom/example/link_importance/linkimportance/graph/PageLabels;" .null := D26 (Or.inr (wd hw 14 rfl)) (ty := (.object "com/example/link_importance/linkimportance/graph/PageLabels")) (by decide)
      have F26_inStart : Fld Z h26 a26 "com/example/link_importance/linkimportance/graph/LinkGraph" "inStart" "[I" .null := D26 (Or.inr (wd hw 16 rfl)) (ty := (.array .int)) (by decide)
      have F26_inSources : Fld Z h26 a26 "com/example/link_importance/linkimportance/graph/LinkGraph" "inSources" "[I" .null := D26 (Or.inr (wd hw 18 rfl)) (ty := (.array .int)) (by decide)
      have F26_outDegree : Fld Z h26 a26 "com/example/link_importance/linkimportance/graph/LinkGraph" "outDegree" "[I" .null := D26 (Or.inr (wd hw 20 rfl)) (ty := (.array .int)) (by decide)
      have ga : n0 ≤ a26 := by rw [g26]; exact Zs25
      have Zo : n0 ≤ h26.size := Nat.le_trans Zs25 Ex26.1
      refine g_dup X26 hx (hb hby at_138) rfl rfl ?_
      refine g_aconst_null X26 hx (hb hby at_139) rfl ?_
      refine g_aconst_null X26 hx (hb hby at_140) rfl ?_
      refine g_iload (i := 5) X26 hx (hb hby at_141) (by rfl) rfl ?_
      refine g_iconst (v := (1 : Int32)) X26 hx (hb hby at_143) (by decide) rfl ?_
      refine g_iadd X26 hx (hb hby at_144) rfl ?_
      refine g_newarr X26 hx hZ (ty := .int) rfl (wd hw 1 rfl) e26 (hb hby at_145) rfl (by decide) 5 (by decide) (by decide) (by decide) (by decide) ?_
      intro T27 h27 cA27 a27 X27 e27 g27 Ex27 A27
      refine g_iconst (v := (0 : Int32)) X27 hx (hb hby at_147) (by decide) rfl ?_
      refine g_newarr X27 hx hZ (ty := .int) rfl (wd hw 1 rfl) e27 (hb hby at_148) rfl (by decide) 0 (by decide) (by decide) (by decide) (by decide) ?_
      intro T28 h28 cA28 a28 X28 e28 g28 Ex28 A28
      refine g_aload (i := 10) X28 hx (hb hby at_150) (by rfl) rfl rfl ?_
      refine g_callI X28 hx hZ rfl hown (wd hw 5 rfl) (wd hw 6 rfl) (wd hw 4 rfl) (wd hw 7 rfl) (by decide) e28 (rm_lg l Z a0 hw a26 a27 a28 a24 h28 n0 ga ((E26.ext Ex27).ext Ex28) ((F26_names.ext Ex27).ext Ex28) ((F26_labels.ext Ex27).ext Ex28) ((F26_inStart.ext Ex27).ext Ex28) ((F26_inSources.ext Ex27).ext Ex28) ((F26_outDegree.ext Ex27).ext Ex28)) (by rw [hml]; rfl) a26 [.null, .null, (.ref a27), (.ref a28), (.ref a24)] [(.ref a26)] rfl (lenOf pd_18 rfl) rfl (by show 1 + (6 + 11) + 12 ≤ _; decide) (by decide) (by decide) (by decide) (hb hby at_152) rfl ?_
      intro T29 v29 L29 X29 hQ29
      obtain ⟨rfl, N29, K29, E29, Fd29⟩ := hQ29
      have N29 := Fr.app N25 N29
      show Goes p e below _ T29 (mkF m 155 #[.val (.int p0), .val (.int p1), .val (.int p2), .val (.int p3), .val (.int p4), .val (.int (1 : Int32)), .val (.int d0), .val (.int d1), .val (.int d2), .val (.int d3), .val (.ref a24), .unset, .unset] [(.ref a26)])
      have hne : a24 ∉ [a26] := fun q => absurd A.lt (by rw [List.mem_singleton.mp q, g26]; exact Nat.lt_irrefl _)
      have A2 := (((A.ext Ex26).ext Ex27).ext Ex28).keep K29 hne
      refine g_astore (i := 11) X29 hx #[.val (.int p0), .val (.int p1), .val (.int p2), .val (.int p3), .val (.int p4), .val (.int (1 : Int32)), .val (.int d0), .val (.int d1), .val (.int d2), .val (.int d3), .val (.ref a24), .val (.ref a26), .unset] (hb hby at_155) rfl rfl rfl ?_
      refine g_iload (i := 5) X29 hx (hb hby at_157) (by rfl) rfl ?_
      refine g_if_le X29 hx (hb hby at_159) (by decide) (pt := 166) (by decide) rfl (fun q_ => absurd (by decide) q_) (fun _ => ?_)
      refine g_iconst (v := (1 : Int32)) X29 hx (hb hby at_162) (by decide) rfl ?_
      refine g_goto X29 hx (hb hby at_163) (by decide) (by decide) (pc' := 167) ?_
      refine g_iload (i := 6) X29 hx (hb hby at_167) (by rfl) rfl ?_
      refine g_callS X29 hx hZ hown (wd hw 21 rfl) (wd hw 22 rfl) (wd hw 23 rfl) (wd hw 24 rfl) (by decide) rfl (rm_z l Z a0 hw (1 : Int32) d0 T29.heap) (by rw [hml]; rfl) [(.int (1 : Int32)), (.int d0)] [] rfl (lenOf pd_19 rfl) rfl (by show 0 + (2 + 11) + 0 ≤ _; decide) (by decide) (by decide) (by decide) (hb hby at_169) rfl ?_
      intro T30 v30 L30 X30 hQ30
      obtain ⟨rfl, rfl, e30⟩ := hQ30
      have N30 := Fr.app N29 (Fr.nil n0)
      show Goes p e below _ T30 (mkF m 172 #[.val (.int p0), .val (.int p1), .val (.int p2), .val (.int p3), .val (.int p4), .val (.int (1 : Int32)), .val (.int d0), .val (.int d1), .val (.int d2), .val (.int d3), .val (.ref a24), .val (.ref a26), .unset] [(.int (if ¬ (1 : Int32) = 0 ∧ d0 = 0 then 1 else 0))])
      refine g_iload (i := 5) X30 hx (hb hby at_172) (by rfl) rfl ?_
      refine g_iconst (v := (1 : Int32)) X30 hx (hb hby at_174) (by decide) rfl ?_
      refine g_icmp_le X30 hx (hb hby at_175) (by decide) (pt := 182) (by decide) rfl (fun _ => ?_) (fun q_ => absurd q_ (by decide))
      refine g_iconst (v := (0 : Int32)) X30 hx (hb hby at_182) (by decide) rfl ?_
      refine g_iload (i := 7) X30 hx (hb hby at_183) (by rfl) rfl ?_
      refine g_callS X30 hx hZ hown (wd hw 21 rfl) (wd hw 22 rfl) (wd hw 23 rfl) (wd hw 24 rfl) (by decide) e30 (rm_z l Z a0 hw (0 : Int32) d1 T29.heap) (by rw [hml]; rfl) [(.int (0 : Int32)), (.int d1)] [(.int (if ¬ (1 : Int32) = 0 ∧ d0 = 0 then 1 else 0))] rfl (lenOf pd_19 rfl) rfl (by show 1 + (2 + 11) + 0 ≤ _; decide) (by decide) (by decide) (by decide) (hb hby at_185) rfl ?_
      intro T31 v31 L31 X31 hQ31
      obtain ⟨rfl, rfl, e31⟩ := hQ31
      have N31 := Fr.app N30 (Fr.nil n0)
      show Goes p e below _ T31 (mkF m 188 #[.val (.int p0), .val (.int p1), .val (.int p2), .val (.int p3), .val (.int p4), .val (.int (1 : Int32)), .val (.int d0), .val (.int d1), .val (.int d2), .val (.int d3), .val (.ref a24), .val (.ref a26), .unset] [(.int (if ¬ (0 : Int32) = 0 ∧ d1 = 0 then 1 else 0)), (.int (if ¬ (1 : Int32) = 0 ∧ d0 = 0 then 1 else 0))])
      refine g_iadd X31 hx (hb hby at_188) rfl ?_
      refine g_iload (i := 5) X31 hx (hb hby at_189) (by rfl) rfl ?_
      refine g_iconst (v := (2 : Int32)) X31 hx (hb hby at_191) (by decide) rfl ?_
      refine g_icmp_le X31 hx (hb hby at_192) (by decide) (pt := 199) (by decide) rfl (fun _ => ?_) (fun q_ => absurd q_ (by decide))
      refine g_iconst (v := (0 : Int32)) X31 hx (hb hby at_199) (by decide) rfl ?_
      refine g_iload (i := 8) X31 hx (hb hby at_200) (by rfl) rfl ?_
      refine g_callS X31 hx hZ hown (wd hw 21 rfl) (wd hw 22 rfl) (wd hw 23 rfl) (wd hw 24 rfl) (by decide) e31 (rm_z l Z a0 hw (0 : Int32) d2 T29.heap) (by rw [hml]; rfl) [(.int (0 : Int32)), (.int d2)] [(.int ((if ¬ (1 : Int32) = 0 ∧ d0 = 0 then 1 else 0) + (if ¬ (0 : Int32) = 0 ∧ d1 = 0 then 1 else 0)))] rfl (lenOf pd_19 rfl) rfl (by show 1 + (2 + 11) + 0 ≤ _; decide) (by decide) (by decide) (by decide) (hb hby at_202) rfl ?_
      intro T32 v32 L32 X32 hQ32
      obtain ⟨rfl, rfl, e32⟩ := hQ32
      have N32 := Fr.app N31 (Fr.nil n0)
      show Goes p e below _ T32 (mkF m 205 #[.val (.int p0), .val (.int p1), .val (.int p2), .val (.int p3), .val (.int p4), .val (.int (1 : Int32)), .val (.int d0), .val (.int d1), .val (.int d2), .val (.int d3), .val (.ref a24), .val (.ref a26), .unset] [(.int (if ¬ (0 : Int32) = 0 ∧ d2 = 0 then 1 else 0)), (.int ((if ¬ (1 : Int32) = 0 ∧ d0 = 0 then 1 else 0) + (if ¬ (0 : Int32) = 0 ∧ d1 = 0 then 1 else 0)))])
      refine g_iadd X32 hx (hb hby at_205) rfl ?_
      refine g_iload (i := 5) X32 hx (hb hby at_206) (by rfl) rfl ?_
      refine g_iconst (v := (3 : Int32)) X32 hx (hb hby at_208) (by decide) rfl ?_
      refine g_icmp_le X32 hx (hb hby at_209) (by decide) (pt := 216) (by decide) rfl (fun _ => ?_) (fun q_ => absurd q_ (by decide))
      refine g_iconst (v := (0 : Int32)) X32 hx (hb hby at_216) (by decide) rfl ?_
      refine g_iload (i := 9) X32 hx (hb hby at_217) (by rfl) rfl ?_
      refine g_callS X32 hx hZ hown (wd hw 21 rfl) (wd hw 22 rfl) (wd hw 23 rfl) (wd hw 24 rfl) (by decide) e32 (rm_z l Z a0 hw (0 : Int32) d3 T29.heap) (by rw [hml]; rfl) [(.int (0 : Int32)), (.int d3)] [(.int (((if ¬ (1 : Int32) = 0 ∧ d0 = 0 then 1 else 0) + (if ¬ (0 : Int32) = 0 ∧ d1 = 0 then 1 else 0)) + (if ¬ (0 : Int32) = 0 ∧ d2 = 0 then 1 else 0)))] rfl (lenOf pd_19 rfl) rfl (by show 1 + (2 + 11) + 0 ≤ _; decide) (by decide) (by decide) (by decide) (hb hby at_219) rfl ?_
      intro T33 v33 L33 X33 hQ33
      obtain ⟨rfl, rfl, e33⟩ := hQ33
      have N33 := Fr.app N32 (Fr.nil n0)
      show Goes p e below _ T33 (mkF m 222 #[.val (.int p0), .val (.int p1), .val (.int p2), .val (.int p3), .val (.int p4), .val (.int (1 : Int32)), .val (.int d0), .val (.int d1), .val (.int d2), .val (.int d3), .val (.ref a24), .val (.ref a26), .unset] [(.int (if ¬ (0 : Int32) = 0 ∧ d3 = 0 then 1 else 0)), (.int (((if ¬ (1 : Int32) = 0 ∧ d0 = 0 then 1 else 0) + (if ¬ (0 : Int32) = 0 ∧ d1 = 0 then 1 else 0)) + (if ¬ (0 : Int32) = 0 ∧ d2 = 0 then 1 else 0)))])
      refine g_iadd X33 hx (hb hby at_222) rfl ?_
      refine g_istore (i := 12) X33 hx #[.val (.int p0), .val (.int p1), .val (.int p2), .val (.int p3), .val (.int p4), .val (.int (1 : Int32)), .val (.int d0), .val (.int d1), .val (.int d2), .val (.int d3), .val (.ref a24), .val (.ref a26), .val (.int ((((if ¬ (1 : Int32) = 0 ∧ d0 = 0 then 1 else 0) + (if ¬ (0 : Int32) = 0 ∧ d1 = 0 then 1 else 0)) + (if ¬ (0 : Int32) = 0 ∧ d2 = 0 then 1 else 0)) + (if ¬ (0 : Int32) = 0 ∧ d3 = 0 then 1 else 0)))] (hb hby at_223) rfl rfl ?_
      refine g_aload (i := 11) X33 hx (hb hby at_225) (by rfl) rfl rfl ?_
      refine g_callV X33 hx hZ hown (wd hw 25 rfl) (wd hw 26 rfl) (wd hw 28 rfl) (wd hw 27 rfl) (wd hw 4 rfl) (wd hw 29 rfl) (by decide) e33 a26 E29 (rm_dc l Z a0 hw a26 a24 1 f T29.heap (by decide) Fd29 A2) (by rw [hml]; rfl) [] [] rfl (lenOf pd_23 rfl) rfl (by show 0 + (6 + 11) + 0 ≤ _; decide) (by decide) (by decide) (by decide) (hb hby at_227) rfl ?_
      intro T34 v34 L34 X34 hQ34
      obtain ⟨rfl, rfl, e34⟩ := hQ34
      have N34 := Fr.app N33 (Fr.nil n0)
      show Goes p e below _ T34 (mkF m 230 #[.val (.int p0), .val (.int p1), .val (.int p2), .val (.int p3), .val (.int p4), .val (.int (1 : Int32)), .val (.int d0), .val (.int d1), .val (.int d2), .val (.int d3), .val (.ref a24), .val (.ref a26), .val (.int ((((if ¬ (1 : Int32) = 0 ∧ d0 = 0 then 1 else 0) + (if ¬ (0 : Int32) = 0 ∧ d1 = 0 then 1 else 0)) + (if ¬ (0 : Int32) = 0 ∧ d2 = 0 then 1 else 0)) + (if ¬ (0 : Int32) = 0 ∧ d3 = 0 then 1 else 0)))] [(.int (own_cnt f 1))])
      refine g_iload (i := 12) X34 hx (hb hby at_230) (by rfl) rfl ?_
      refine g_icmp_ne X34 hx (hb hby at_232) (by decide) (pt := 239) (by decide) rfl (fun q_ => absurd (hf) q_) (fun _ => ?_)
      refine g_iconst (v := (1 : Int32)) X34 hx (hb hby at_235) (by decide) rfl ?_
      refine g_goto X34 hx (hb hby at_236) (by decide) (by decide) (pc' := 240) ?_
      exact g_retN X34 hx (t := .boolean) (by simp) hlk hret e34 (by decide) (by decide) (hb hby at_240) ⟨rfl, N34⟩
    · refine g_iload (i := 5) X0 hx (hb hby at_82) (by rfl) rfl ?_
      refine g_newarr X0 hx hZ (ty := .int) rfl (wd hw 1 rfl) e0 (hb hby at_84) rfl (by decide) 4 (by decide) (by decide) (by decide) (by decide) ?_
      intro T35 h35 cA35 a35 X35 e35 g35 Ex35 A35
      have Ar0 : ArI Z h35 a35 .int 2 (fun _ => 0) := ArI.new A35 0 rfl
      have gb : n0 ≤ a35 := by rw [g35]; exact Z0
      have Zs : n0 ≤ h35.size := Nat.le_trans Z0 Ex35.1
      refine g_astore (i := 10) X35 hx #[.val (.int p0), .val (.int p1), .val (.int p2), .val (.int p3), .val (.int p4), .val (.int (2 : Int32)), .val (.int d0), .val (.int d1), .val (.int d2), .val (.int d3), .val (.ref a35), .unset, .unset] (hb hby at_86) rfl rfl rfl ?_
      refine g_iload (i := 5) X35 hx (hb hby at_88) (by rfl) rfl ?_
      refine g_if_le X35 hx (hb hby at_90) (by decide) (pt := 99) (by decide) rfl (fun q_ => absurd (by decide) q_) (fun _ => ?_)
      refine g_aload (i := 10) X35 hx (hb hby at_93) (by rfl) rfl rfl ?_
      refine g_iconst (v := (0 : Int32)) X35 hx (hb hby at_95) (by decide) rfl ?_
      refine g_iload (i := 6) X35 hx (hb hby at_96) (by rfl) rfl ?_
      refine g_iastore' X35 hx hZ e35 Ar0 (by decide) (by decide) (hb hby at_98) rfl ?_
      intro T36 h36 X36 e36 W36 Ar36
      have N36 := Fr.snoc X36 (Fr.nil n0) gb
      have Zs36 : n0 ≤ h36.size := by rw [W36.size]; exact Zs
      refine g_iload (i := 5) X36 hx (hb hby at_99) (by rfl) rfl ?_
      refine g_iconst (v := (1 : Int32)) X36 hx (hb hby at_101) (by decide) rfl ?_
      refine g_icmp_le X36 hx (hb hby at_102) (by decide) (pt := 111) (by decide) rfl (fun q_ => absurd (by decide) q_) (fun _ => ?_)
      refine g_aload (i := 10) X36 hx (hb hby at_105) (by rfl) rfl rfl ?_
      refine g_iconst (v := (1 : Int32)) X36 hx (hb hby at_107) (by decide) rfl ?_
      refine g_iload (i := 7) X36 hx (hb hby at_108) (by rfl) rfl ?_
      refine g_iastore' X36 hx hZ e36 Ar36 (by decide) (by decide) (hb hby at_110) rfl ?_
      intro T37 h37 X37 e37 W37 Ar37
      have N37 := Fr.snoc X37 N36 gb
      have Zs37 : n0 ≤ h37.size := by rw [W37.size]; exact Zs36
      refine g_iload (i := 5) X37 hx (hb hby at_111) (by rfl) rfl ?_
      refine g_iconst (v := (2 : Int32)) X37 hx (hb hby at_113) (by decide) rfl ?_
      refine g_icmp_le X37 hx (hb hby at_114) (by decide) (pt := 123) (by decide) rfl (fun _ => ?_) (fun q_ => absurd q_ (by decide))
      refine g_iload (i := 5) X37 hx (hb hby at_123) (by rfl) rfl ?_
      refine g_iconst (v := (3 : Int32)) X37 hx (hb hby at_125) (by decide) rfl ?_
      refine g_icmp_le X37 hx (hb hby at_126) (by decide) (pt := 135) (by decide) rfl (fun _ => ?_) (fun q_ => absurd q_ (by decide))
      obtain ⟨f, A, hf⟩ : ∃ f, ArI Z h37 a35 .int 2 f ∧ own_cnt f 2 = ((((if ¬ (1 : Int32) = 0 ∧ d0 = 0 then 1 else 0) + (if ¬ (1 : Int32) = 0 ∧ d1 = 0 then 1 else 0)) + (if ¬ (0 : Int32) = 0 ∧ d2 = 0 then 1 else 0)) + (if ¬ (0 : Int32) = 0 ∧ d3 = 0 then 1 else 0)) := ⟨_, Ar37, by simp [own_cnt]⟩
      refine g_new X37 hx hZ hown (wd hw 2 rfl) (wd hw 3 rfl) (wd hw 4 rfl) e37 (hb hby at_135) rfl (by decide) (by decide) ?_
      intro T38 h38 a38 X38 e38 g38 Ex38 E38 D38
      have F38_names : Fld Z h38 a38 "com/example/link_importance/linkimportance/graph/LinkGraph" "names" "Lcom/example/link_importance/linkimportance/graph/PageNames;" .null := D38 (Or.inr (wd hw 12 rfl)) (ty := (.object "com/example/link_importance/linkimportance/graph/PageNames")) (by decide)
      have F38_labels : Fld Z h38 a38 "com/example/link_importance/linkimportance/graph/LinkGraph" "labels" "Lcom/example/link_importance/linkimportance/graph/PageLabels;" .null := D38 (Or.inr (wd hw 14 rfl)) (ty := (.object "com/example/link_importance/linkimportance/graph/PageLabels")) (by decide)
      have F38_inStart : Fld Z h38 a38 "com/example/link_importance/linkimportance/graph/LinkGraph" "inStart" "[I" .null := D38 (Or.inr (wd hw 16 rfl)) (ty := (.array .int)) (by decide)
      have F38_inSources : Fld Z h38 a38 "com/example/link_importance/linkimportance/graph/LinkGraph" "inSources" "[I" .null := D38 (Or.inr (wd hw 18 rfl)) (ty := (.array .int)) (by decide)
      have F38_outDegree : Fld Z h38 a38 "com/example/link_importance/linkimportance/graph/LinkGraph" "outDegree" "[I" .null := D38 (Or.inr (wd hw 20 rfl)) (ty := (.array .int)) (by decide)
      have ga : n0 ≤ a38 := by rw [g38]; exact Zs37
      have Zo : n0 ≤ h38.size := Nat.le_trans Zs37 Ex38.1
      refine g_dup X38 hx (hb hby at_138) rfl rfl ?_
      refine g_aconst_null X38 hx (hb hby at_139) rfl ?_
      refine g_aconst_null X38 hx (hb hby at_140) rfl ?_
      refine g_iload (i := 5) X38 hx (hb hby at_141) (by rfl) rfl ?_
      refine g_iconst (v := (1 : Int32)) X38 hx (hb hby at_143) (by decide) rfl ?_
      refine g_iadd X38 hx (hb hby at_144) rfl ?_
      refine g_newarr X38 hx hZ (ty := .int) rfl (wd hw 1 rfl) e38 (hb hby at_145) rfl (by decide) 5 (by decide) (by decide) (by decide) (by decide) ?_
      intro T39 h39 cA39 a39 X39 e39 g39 Ex39 A39
      refine g_iconst (v := (0 : Int32)) X39 hx (hb hby at_147) (by decide) rfl ?_
      refine g_newarr X39 hx hZ (ty := .int) rfl (wd hw 1 rfl) e39 (hb hby at_148) rfl (by decide) 0 (by decide) (by decide) (by decide) (by decide) ?_
      intro T40 h40 cA40 a40 X40 e40 g40 Ex40 A40
      refine g_aload (i := 10) X40 hx (hb hby at_150) (by rfl) rfl rfl ?_
      refine g_callI X40 hx hZ rfl hown (wd hw 5 rfl) (wd hw 6 rfl) (wd hw 4 rfl) (wd hw 7 rfl) (by decide) e40 (rm_lg l Z a0 hw a38 a39 a40 a35 h40 n0 ga ((E38.ext Ex39).ext Ex40) ((F38_names.ext Ex39).ext Ex40) ((F38_labels.ext Ex39).ext Ex40) ((F38_inStart.ext Ex39).ext Ex40) ((F38_inSources.ext Ex39).ext Ex40) ((F38_outDegree.ext Ex39).ext Ex40)) (by rw [hml]; rfl) a38 [.null, .null, (.ref a39), (.ref a40), (.ref a35)] [(.ref a38)] rfl (lenOf pd_18 rfl) rfl (by show 1 + (6 + 11) + 12 ≤ _; decide) (by decide) (by decide) (by decide) (hb hby at_152) rfl ?_
      intro T41 v41 L41 X41 hQ41
      obtain ⟨rfl, N41, K41, E41, Fd41⟩ := hQ41
      have N41 := Fr.app N37 N41
      show Goes p e below _ T41 (mkF m 155 #[.val (.int p0), .val (.int p1), .val (.int p2), .val (.int p3), .val (.int p4), .val (.int (2 : Int32)), .val (.int d0), .val (.int d1), .val (.int d2), .val (.int d3), .val (.ref a35), .unset, .unset] [(.ref a38)])
      have hne : a35 ∉ [a38] := fun q => absurd A.lt (by rw [List.mem_singleton.mp q, g38]; exact Nat.lt_irrefl _)
      have A2 := (((A.ext Ex38).ext Ex39).ext Ex40).keep K41 hne
      refine g_astore (i := 11) X41 hx #[.val (.int p0), .val (.int p1), .val (.int p2), .val (.int p3), .val (.int p4), .val (.int (2 : Int32)), .val (.int d0), .val (.int d1), .val (.int d2), .val (.int d3), .val (.ref a35), .val (.ref a38), .unset] (hb hby at_155) rfl rfl rfl ?_
      refine g_iload (i := 5) X41 hx (hb hby at_157) (by rfl) rfl ?_
      refine g_if_le X41 hx (hb hby at_159) (by decide) (pt := 166) (by decide) rfl (fun q_ => absurd (by decide) q_) (fun _ => ?_)
      refine g_iconst (v := (1 : Int32)) X41 hx (hb hby at_162) (by decide) rfl ?_
      refine g_goto X41 hx (hb hby at_163) (by decide) (by decide) (pc' := 167) ?_
      refine g_iload (i := 6) X41 hx (hb hby at_167) (by rfl) rfl ?_
      refine g_callS X41 hx hZ hown (wd hw 21 rfl) (wd hw 22 rfl) (wd hw 23 rfl) (wd hw 24 rfl) (by decide) rfl (rm_z l Z a0 hw (1 : Int32) d0 T41.heap) (by rw [hml]; rfl) [(.int (1 : Int32)), (.int d0)] [] rfl (lenOf pd_19 rfl) rfl (by show 0 + (2 + 11) + 0 ≤ _; decide) (by decide) (by decide) (by decide) (hb hby at_169) rfl ?_
      intro T42 v42 L42 X42 hQ42
      obtain ⟨rfl, rfl, e42⟩ := hQ42
      have N42 := Fr.app N41 (Fr.nil n0)
      show Goes p e below _ T42 (mkF m 172 #[.val (.int p0), .val (.int p1), .val (.int p2), .val (.int p3), .val (.int p4), .val (.int (2 : Int32)), .val (.int d0), .val (.int d1), .val (.int d2), .val (.int d3), .val (.ref a35), .val (.ref a38), .unset] [(.int (if ¬ (1 : Int32) = 0 ∧ d0 = 0 then 1 else 0))])
      refine g_iload (i := 5) X42 hx (hb hby at_172) (by rfl) rfl ?_
      refine g_iconst (v := (1 : Int32)) X42 hx (hb hby at_174) (by decide) rfl ?_
      refine g_icmp_le X42 hx (hb hby at_175) (by decide) (pt := 182) (by decide) rfl (fun q_ => absurd (by decide) q_) (fun _ => ?_)
      refine g_iconst (v := (1 : Int32)) X42 hx (hb hby at_178) (by decide) rfl ?_
      refine g_goto X42 hx (hb hby at_179) (by decide) (by decide) (pc' := 183) ?_
      refine g_iload (i := 7) X42 hx (hb hby at_183) (by rfl) rfl ?_
      refine g_callS X42 hx hZ hown (wd hw 21 rfl) (wd hw 22 rfl) (wd hw 23 rfl) (wd hw 24 rfl) (by decide) e42 (rm_z l Z a0 hw (1 : Int32) d1 T41.heap) (by rw [hml]; rfl) [(.int (1 : Int32)), (.int d1)] [(.int (if ¬ (1 : Int32) = 0 ∧ d0 = 0 then 1 else 0))] rfl (lenOf pd_19 rfl) rfl (by show 1 + (2 + 11) + 0 ≤ _; decide) (by decide) (by decide) (by decide) (hb hby at_185) rfl ?_
      intro T43 v43 L43 X43 hQ43
      obtain ⟨rfl, rfl, e43⟩ := hQ43
      have N43 := Fr.app N42 (Fr.nil n0)
      show Goes p e below _ T43 (mkF m 188 #[.val (.int p0), .val (.int p1), .val (.int p2), .val (.int p3), .val (.int p4), .val (.int (2 : Int32)), .val (.int d0), .val (.int d1), .val (.int d2), .val (.int d3), .val (.ref a35), .val (.ref a38), .unset] [(.int (if ¬ (1 : Int32) = 0 ∧ d1 = 0 then 1 else 0)), (.int (if ¬ (1 : Int32) = 0 ∧ d0 = 0 then 1 else 0))])
      refine g_iadd X43 hx (hb hby at_188) rfl ?_
      refine g_iload (i := 5) X43 hx (hb hby at_189) (by rfl) rfl ?_
      refine g_iconst (v := (2 : Int32)) X43 hx (hb hby at_191) (by decide) rfl ?_
      refine g_icmp_le X43 hx (hb hby at_192) (by decide) (pt := 199) (by decide) rfl (fun _ => ?_) (fun q_ => absurd q_ (by decide))
      refine g_iconst (v := (0 : Int32)) X43 hx (hb hby at_199) (by decide) rfl ?_
      refine g_iload (i := 8) X43 hx (hb hby at_200) (by rfl) rfl ?_
      refine g_callS X43 hx hZ hown (wd hw 21 rfl) (wd hw 22 rfl) (wd hw 23 rfl) (wd hw 24 rfl) (by decide) e43 (rm_z l Z a0 hw (0 : Int32) d2 T41.heap) (by rw [hml]; rfl) [(.int (0 : Int32)), (.int d2)] [(.int ((if ¬ (1 : Int32) = 0 ∧ d0 = 0 then 1 else 0) + (if ¬ (1 : Int32) = 0 ∧ d1 = 0 then 1 else 0)))] rfl (lenOf pd_19 rfl) rfl (by show 1 + (2 + 11) + 0 ≤ _; decide) (by decide) (by decide) (by decide) (hb hby at_202) rfl ?_
      intro T44 v44 L44 X44 hQ44
      obtain ⟨rfl, rfl, e44⟩ := hQ44
      have N44 := Fr.app N43 (Fr.nil n0)
      show Goes p e below _ T44 (mkF m 205 #[.val (.int p0), .val (.int p1), .val (.int p2), .val (.int p3), .val (.int p4), .val (.int (2 : Int32)), .val (.int d0), .val (.int d1), .val (.int d2), .val (.int d3), .val (.ref a35), .val (.ref a38), .unset] [(.int (if ¬ (0 : Int32) = 0 ∧ d2 = 0 then 1 else 0)), (.int ((if ¬ (1 : Int32) = 0 ∧ d0 = 0 then 1 else 0) + (if ¬ (1 : Int32) = 0 ∧ d1 = 0 then 1 else 0)))])
      refine g_iadd X44 hx (hb hby at_205) rfl ?_
      refine g_iload (i := 5) X44 hx (hb hby at_206) (by rfl) rfl ?_
      refine g_iconst (v := (3 : Int32)) X44 hx (hb hby at_208) (by decide) rfl ?_
      refine g_icmp_le X44 hx (hb hby at_209) (by decide) (pt := 216) (by decide) rfl (fun _ => ?_) (fun q_ => absurd q_ (by decide))
      refine g_iconst (v := (0 : Int32)) X44 hx (hb hby at_216) (by decide) rfl ?_
      refine g_iload (i := 9) X44 hx (hb hby at_217) (by rfl) rfl ?_
      refine g_callS X44 hx hZ hown (wd hw 21 rfl) (wd hw 22 rfl) (wd hw 23 rfl) (wd hw 24 rfl) (by decide) e44 (rm_z l Z a0 hw (0 : Int32) d3 T41.heap) (by rw [hml]; rfl) [(.int (0 : Int32)), (.int d3)] [(.int (((if ¬ (1 : Int32) = 0 ∧ d0 = 0 then 1 else 0) + (if ¬ (1 : Int32) = 0 ∧ d1 = 0 then 1 else 0)) + (if ¬ (0 : Int32) = 0 ∧ d2 = 0 then 1 else 0)))] rfl (lenOf pd_19 rfl) rfl (by show 1 + (2 + 11) + 0 ≤ _; decide) (by decide) (by decide) (by decide) (hb hby at_219) rfl ?_
      intro T45 v45 L45 X45 hQ45
      obtain ⟨rfl, rfl, e45⟩ := hQ45
      have N45 := Fr.app N44 (Fr.nil n0)
      show Goes p e below _ T45 (mkF m 222 #[.val (.int p0), .val (.int p1), .val (.int p2), .val (.int p3), .val (.int p4), .val (.int (2 : Int32)), .val (.int d0), .val (.int d1), .val (.int d2), .val (.int d3), .val (.ref a35), .val (.ref a38), .unset] [(.int (if ¬ (0 : Int32) = 0 ∧ d3 = 0 then 1 else 0)), (.int (((if ¬ (1 : Int32) = 0 ∧ d0 = 0 then 1 else 0) + (if ¬ (1 : Int32) = 0 ∧ d1 = 0 then 1 else 0)) + (if ¬ (0 : Int32) = 0 ∧ d2 = 0 then 1 else 0)))])
      refine g_iadd X45 hx (hb hby at_222) rfl ?_
      refine g_istore (i := 12) X45 hx #[.val (.int p0), .val (.int p1), .val (.int p2), .val (.int p3), .val (.int p4), .val (.int (2 : Int32)), .val (.int d0), .val (.int d1), .val (.int d2), .val (.int d3), .val (.ref a35), .val (.ref a38), .val (.int ((((if ¬ (1 : Int32) = 0 ∧ d0 = 0 then 1 else 0) + (if ¬ (1 : Int32) = 0 ∧ d1 = 0 then 1 else 0)) + (if ¬ (0 : Int32) = 0 ∧ d2 = 0 then 1 else 0)) + (if ¬ (0 : Int32) = 0 ∧ d3 = 0 then 1 else 0)))] (hb hby at_223) rfl rfl ?_
      refine g_aload (i := 11) X45 hx (hb hby at_225) (by rfl) rfl rfl ?_
      refine g_callV X45 hx hZ hown (wd hw 25 rfl) (wd hw 26 rfl) (wd hw 28 rfl) (wd hw 27 rfl) (wd hw 4 rfl) (wd hw 29 rfl) (by decide) e45 a38 E41 (rm_dc l Z a0 hw a38 a35 2 f T41.heap (by decide) Fd41 A2) (by rw [hml]; rfl) [] [] rfl (lenOf pd_23 rfl) rfl (by show 0 + (6 + 11) + 0 ≤ _; decide) (by decide) (by decide) (by decide) (hb hby at_227) rfl ?_
      intro T46 v46 L46 X46 hQ46
      obtain ⟨rfl, rfl, e46⟩ := hQ46
      have N46 := Fr.app N45 (Fr.nil n0)
      show Goes p e below _ T46 (mkF m 230 #[.val (.int p0), .val (.int p1), .val (.int p2), .val (.int p3), .val (.int p4), .val (.int (2 : Int32)), .val (.int d0), .val (.int d1), .val (.int d2), .val (.int d3), .val (.ref a35), .val (.ref a38), .val (.int ((((if ¬ (1 : Int32) = 0 ∧ d0 = 0 then 1 else 0) + (if ¬ (1 : Int32) = 0 ∧ d1 = 0 then 1 else 0)) + (if ¬ (0 : Int32) = 0 ∧ d2 = 0 then 1 else 0)) + (if ¬ (0 : Int32) = 0 ∧ d3 = 0 then 1 else 0)))] [(.int (own_cnt f 2))])
      refine g_iload (i := 12) X46 hx (hb hby at_230) (by rfl) rfl ?_
      refine g_icmp_ne X46 hx (hb hby at_232) (by decide) (pt := 239) (by decide) rfl (fun q_ => absurd (hf) q_) (fun _ => ?_)
      refine g_iconst (v := (1 : Int32)) X46 hx (hb hby at_235) (by decide) rfl ?_
      refine g_goto X46 hx (hb hby at_236) (by decide) (by decide) (pc' := 240) ?_
      exact g_retN X46 hx (t := .boolean) (by simp) hlk hret e46 (by decide) (by decide) (hb hby at_240) ⟨rfl, N46⟩
    · refine g_iload (i := 5) X0 hx (hb hby at_82) (by rfl) rfl ?_
      refine g_newarr X0 hx hZ (ty := .int) rfl (wd hw 1 rfl) e0 (hb hby at_84) rfl (by decide) 4 (by decide) (by decide) (by decide) (by decide) ?_
      intro T47 h47 cA47 a47 X47 e47 g47 Ex47 A47
      have Ar0 : ArI Z h47 a47 .int 3 (fun _ => 0) := ArI.new A47 0 rfl
      have gb : n0 ≤ a47 := by rw [g47]; exact Z0
      have Zs : n0 ≤ h47.size := Nat.le_trans Z0 Ex47.1
      refine g_astore (i := 10) X47 hx #[.val (.int p0), .val (.int p1), .val (.int p2), .val (.int p3), .val (.int p4), .val (.int (3 : Int32)), .val (.int d0), .val (.int d1), .val (.int d2), .val (.int d3), .val (.ref a47), .unset, .unset] (hb hby at_86) rfl rfl rfl ?_
      refine g_iload (i := 5) X47 hx (hb hby at_88) (by rfl) rfl ?_
      refine g_if_le X47 hx (hb hby at_90) (by decide) (pt := 99) (by decide) rfl (fun q_ => absurd (by decide) q_) (fun _ => ?_)
      refine g_aload (i := 10) X47 hx (hb hby at_93) (by rfl) rfl rfl ?_
      refine g_iconst (v := (0 : Int32)) X47 hx (hb hby at_95) (by decide) rfl ?_
      refine g_iload (i := 6) X47 hx (hb hby at_96) (by rfl) rfl ?_
      refine g_iastore' X47 hx hZ e47 Ar0 (by decide) (by decide) (hb hby at_98) rfl ?_
      intro T48 h48 X48 e48 W48 Ar48
      have N48 := Fr.snoc X48 (Fr.nil n0) gb
      have Zs48 : n0 ≤ h48.size := by rw [W48.size]; exact Zs
      refine g_iload (i := 5) X48 hx (hb hby at_99) (by rfl) rfl ?_
      refine g_iconst (v := (1 : Int32)) X48 hx (hb hby at_101) (by decide) rfl ?_
      refine g_icmp_le X48 hx (hb hby at_102) (by decide) (pt := 111) (by decide) rfl (fun q_ => absurd (by decide) q_) (fun _ => ?_)
      refine g_aload (i := 10) X48 hx (hb hby at_105) (by rfl) rfl rfl ?_
      refine g_iconst (v := (1 : Int32)) X48 hx (hb hby at_107) (by decide) rfl ?_
      refine g_iload (i := 7) X48 hx (hb hby at_108) (by rfl) rfl ?_
      refine g_iastore' X48 hx hZ e48 Ar48 (by decide) (by decide) (hb hby at_110) rfl ?_
      intro T49 h49 X49 e49 W49 Ar49
      have N49 := Fr.snoc X49 N48 gb
      have Zs49 : n0 ≤ h49.size := by rw [W49.size]; exact Zs48
      refine g_iload (i := 5) X49 hx (hb hby at_111) (by rfl) rfl ?_
      refine g_iconst (v := (2 : Int32)) X49 hx (hb hby at_113) (by decide) rfl ?_
      refine g_icmp_le X49 hx (hb hby at_114) (by decide) (pt := 123) (by decide) rfl (fun q_ => absurd (by decide) q_) (fun _ => ?_)
      refine g_aload (i := 10) X49 hx (hb hby at_117) (by rfl) rfl rfl ?_
      refine g_iconst (v := (2 : Int32)) X49 hx (hb hby at_119) (by decide) rfl ?_
      refine g_iload (i := 8) X49 hx (hb hby at_120) (by rfl) rfl ?_
      refine g_iastore' X49 hx hZ e49 Ar49 (by decide) (by decide) (hb hby at_122) rfl ?_
      intro T50 h50 X50 e50 W50 Ar50
      have N50 := Fr.snoc X50 N49 gb
      have Zs50 : n0 ≤ h50.size := by rw [W50.size]; exact Zs49
      refine g_iload (i := 5) X50 hx (hb hby at_123) (by rfl) rfl ?_
      refine g_iconst (v := (3 : Int32)) X50 hx (hb hby at_125) (by decide) rfl ?_
      refine g_icmp_le X50 hx (hb hby at_126) (by decide) (pt := 135) (by decide) rfl (fun _ => ?_) (fun q_ => absurd q_ (by decide))
      obtain ⟨f, A, hf⟩ : ∃ f, ArI Z h50 a47 .int 3 f ∧ own_cnt f 3 = ((((if ¬ (1 : Int32) = 0 ∧ d0 = 0 then 1 else 0) + (if ¬ (1 : Int32) = 0 ∧ d1 = 0 then 1 else 0)) + (if ¬ (1 : Int32) = 0 ∧ d2 = 0 then 1 else 0)) + (if ¬ (0 : Int32) = 0 ∧ d3 = 0 then 1 else 0)) := ⟨_, Ar50, by simp [own_cnt]⟩
      refine g_new X50 hx hZ hown (wd hw 2 rfl) (wd hw 3 rfl) (wd hw 4 rfl) e50 (hb hby at_135) rfl (by decide) (by decide) ?_
      intro T51 h51 a51 X51 e51 g51 Ex51 E51 D51
      have F51_names : Fld Z h51 a51 "com/example/link_importance/linkimportance/graph/LinkGraph" "names" "Lcom/example/link_importance/linkimportance/graph/PageNames;" .null := D51 (Or.inr (wd hw 12 rfl)) (ty := (.object "com/example/link_importance/linkimportance/graph/PageNames")) (by decide)
      have F51_labels : Fld Z h51 a51 "com/example/link_importance/linkimportance/graph/LinkGraph" "labels" "Lcom/example/link_importance/linkimportance/graph/PageLabels;" .null := D51 (Or.inr (wd hw 14 rfl)) (ty := (.object "com/example/link_importance/linkimportance/graph/PageLabels")) (by decide)
      have F51_inStart : Fld Z h51 a51 "com/example/link_importance/linkimportance/graph/LinkGraph" "inStart" "[I" .null := D51 (Or.inr (wd hw 16 rfl)) (ty := (.array .int)) (by decide)
      have F51_inSources : Fld Z h51 a51 "com/example/link_importance/linkimportance/graph/LinkGraph" "inSources" "[I" .null := D51 (Or.inr (wd hw 18 rfl)) (ty := (.array .int)) (by decide)
      have F51_outDegree : Fld Z h51 a51 "com/example/link_importance/linkimportance/graph/LinkGraph" "outDegree" "[I" .null := D51 (Or.inr (wd hw 20 rfl)) (ty := (.array .int)) (by decide)
      have ga : n0 ≤ a51 := by rw [g51]; exact Zs50
      have Zo : n0 ≤ h51.size := Nat.le_trans Zs50 Ex51.1
      refine g_dup X51 hx (hb hby at_138) rfl rfl ?_
      refine g_aconst_null X51 hx (hb hby at_139) rfl ?_
      refine g_aconst_null X51 hx (hb hby at_140) rfl ?_
      refine g_iload (i := 5) X51 hx (hb hby at_141) (by rfl) rfl ?_
      refine g_iconst (v := (1 : Int32)) X51 hx (hb hby at_143) (by decide) rfl ?_
      refine g_iadd X51 hx (hb hby at_144) rfl ?_
      refine g_newarr X51 hx hZ (ty := .int) rfl (wd hw 1 rfl) e51 (hb hby at_145) rfl (by decide) 5 (by decide) (by decide) (by decide) (by decide) ?_
      intro T52 h52 cA52 a52 X52 e52 g52 Ex52 A52
      refine g_iconst (v := (0 : Int32)) X52 hx (hb hby at_147) (by decide) rfl ?_
      refine g_newarr X52 hx hZ (ty := .int) rfl (wd hw 1 rfl) e52 (hb hby at_148) rfl (by decide) 0 (by decide) (by decide) (by decide) (by decide) ?_
      intro T53 h53 cA53 a53 X53 e53 g53 Ex53 A53
      refine g_aload (i := 10) X53 hx (hb hby at_150) (by rfl) rfl rfl ?_
      refine g_callI X53 hx hZ rfl hown (wd hw 5 rfl) (wd hw 6 rfl) (wd hw 4 rfl) (wd hw 7 rfl) (by decide) e53 (rm_lg l Z a0 hw a51 a52 a53 a47 h53 n0 ga ((E51.ext Ex52).ext Ex53) ((F51_names.ext Ex52).ext Ex53) ((F51_labels.ext Ex52).ext Ex53) ((F51_inStart.ext Ex52).ext Ex53) ((F51_inSources.ext Ex52).ext Ex53) ((F51_outDegree.ext Ex52).ext Ex53)) (by rw [hml]; rfl) a51 [.null, .null, (.ref a52), (.ref a53), (.ref a47)] [(.ref a51)] rfl (lenOf pd_18 rfl) rfl (by show 1 + (6 + 11) + 12 ≤ _; decide) (by decide) (by decide) (by decide) (hb hby at_152) rfl ?_
      intro T54 v54 L54 X54 hQ54
      obtain ⟨rfl, N54, K54, E54, Fd54⟩ := hQ54
      have N54 := Fr.app N50 N54
      show Goes p e below _ T54 (mkF m 155 #[.val (.int p0), .val (.int p1), .val (.int p2), .val (.int p3), .val (.int p4), .val (.int (3 : Int32)), .val (.int d0), .val (.int d1), .val (.int d2), .val (.int d3), .val (.ref a47), .unset, .unset] [(.ref a51)])
      have hne : a47 ∉ [a51] := fun q => absurd A.lt (by rw [List.mem_singleton.mp q, g51]; exact Nat.lt_irrefl _)
      have A2 := (((A.ext Ex51).ext Ex52).ext Ex53).keep K54 hne
      refine g_astore (i := 11) X54 hx #[.val (.int p0), .val (.int p1), .val (.int p2), .val (.int p3), .val (.int p4), .val (.int (3 : Int32)), .val (.int d0), .val (.int d1), .val (.int d2), .val (.int d3), .val (.ref a47), .val (.ref a51), .unset] (hb hby at_155) rfl rfl rfl ?_
      refine g_iload (i := 5) X54 hx (hb hby at_157) (by rfl) rfl ?_
      refine g_if_le X54 hx (hb hby at_159) (by decide) (pt := 166) (by decide) rfl (fun q_ => absurd (by decide) q_) (fun _ => ?_)
      refine g_iconst (v := (1 : Int32)) X54 hx (hb hby at_162) (by decide) rfl ?_
      refine g_goto X54 hx (hb hby at_163) (by decide) (by decide) (pc' := 167) ?_
      refine g_iload (i := 6) X54 hx (hb hby at_167) (by rfl) rfl ?_
      refine g_callS X54 hx hZ hown (wd hw 21 rfl) (wd hw 22 rfl) (wd hw 23 rfl) (wd hw 24 rfl) (by decide) rfl (rm_z l Z a0 hw (1 : Int32) d0 T54.heap) (by rw [hml]; rfl) [(.int (1 : Int32)), (.int d0)] [] rfl (lenOf pd_19 rfl) rfl (by show 0 + (2 + 11) + 0 ≤ _; decide) (by decide) (by decide) (by decide) (hb hby at_169) rfl ?_
      intro T55 v55 L55 X55 hQ55
      obtain ⟨rfl, rfl, e55⟩ := hQ55
      have N55 := Fr.app N54 (Fr.nil n0)
      show Goes p e below _ T55 (mkF m 172 #[.val (.int p0), .val (.int p1), .val (.int p2), .val (.int p3), .val (.int p4), .val (.int (3 : Int32)), .val (.int d0), .val (.int d1), .val (.int d2), .val (.int d3), .val (.ref a47), .val (.ref a51), .unset] [(.int (if ¬ (1 : Int32) = 0 ∧ d0 = 0 then 1 else 0))])
      refine g_iload (i := 5) X55 hx (hb hby at_172) (by rfl) rfl ?_
      refine g_iconst (v := (1 : Int32)) X55 hx (hb hby at_174) (by decide) rfl ?_
      refine g_icmp_le X55 hx (hb hby at_175) (by decide) (pt := 182) (by decide) rfl (fun q_ => absurd (by decide) q_) (fun _ => ?_)
      refine g_iconst (v := (1 : Int32)) X55 hx (hb hby at_178) (by decide) rfl ?_
      refine g_goto X55 hx (hb hby at_179) (by decide) (by decide) (pc' := 183) ?_
      refine g_iload (i := 7) X55 hx (hb hby at_183) (by rfl) rfl ?_
      refine g_callS X55 hx hZ hown (wd hw 21 rfl) (wd hw 22 rfl) (wd hw 23 rfl) (wd hw 24 rfl) (by decide) e55 (rm_z l Z a0 hw (1 : Int32) d1 T54.heap) (by rw [hml]; rfl) [(.int (1 : Int32)), (.int d1)] [(.int (if ¬ (1 : Int32) = 0 ∧ d0 = 0 then 1 else 0))] rfl (lenOf pd_19 rfl) rfl (by show 1 + (2 + 11) + 0 ≤ _; decide) (by decide) (by decide) (by decide) (hb hby at_185) rfl ?_
      intro T56 v56 L56 X56 hQ56
      obtain ⟨rfl, rfl, e56⟩ := hQ56
      have N56 := Fr.app N55 (Fr.nil n0)
      show Goes p e below _ T56 (mkF m 188 #[.val (.int p0), .val (.int p1), .val (.int p2), .val (.int p3), .val (.int p4), .val (.int (3 : Int32)), .val (.int d0), .val (.int d1), .val (.int d2), .val (.int d3), .val (.ref a47), .val (.ref a51), .unset] [(.int (if ¬ (1 : Int32) = 0 ∧ d1 = 0 then 1 else 0)), (.int (if ¬ (1 : Int32) = 0 ∧ d0 = 0 then 1 else 0))])
      refine g_iadd X56 hx (hb hby at_188) rfl ?_
      refine g_iload (i := 5) X56 hx (hb hby at_189) (by rfl) rfl ?_
      refine g_iconst (v := (2 : Int32)) X56 hx (hb hby at_191) (by decide) rfl ?_
      refine g_icmp_le X56 hx (hb hby at_192) (by decide) (pt := 199) (by decide) rfl (fun q_ => absurd (by decide) q_) (fun _ => ?_)
      refine g_iconst (v := (1 : Int32)) X56 hx (hb hby at_195) (by decide) rfl ?_
      refine g_goto X56 hx (hb hby at_196) (by decide) (by decide) (pc' := 200) ?_
      refine g_iload (i := 8) X56 hx (hb hby at_200) (by rfl) rfl ?_
      refine g_callS X56 hx hZ hown (wd hw 21 rfl) (wd hw 22 rfl) (wd hw 23 rfl) (wd hw 24 rfl) (by decide) e56 (rm_z l Z a0 hw (1 : Int32) d2 T54.heap) (by rw [hml]; rfl) [(.int (1 : Int32)), (.int d2)] [(.int ((if ¬ (1 : Int32) = 0 ∧ d0 = 0 then 1 else 0) + (if ¬ (1 : Int32) = 0 ∧ d1 = 0 then 1 else 0)))] rfl (lenOf pd_19 rfl) rfl (by show 1 + (2 + 11) + 0 ≤ _; decide) (by decide) (by decide) (by decide) (hb hby at_202) rfl ?_
      intro T57 v57 L57 X57 hQ57
      obtain ⟨rfl, rfl, e57⟩ := hQ57
      have N57 := Fr.app N56 (Fr.nil n0)
      show Goes p e below _ T57 (mkF m 205 #[.val (.int p0), .val (.int p1), .val (.int p2), .val (.int p3), .val (.int p4), .val (.int (3 : Int32)), .val (.int d0), .val (.int d1), .val (.int d2), .val (.int d3), .val (.ref a47), .val (.ref a51), .unset] [(.int (if ¬ (1 : Int32) = 0 ∧ d2 = 0 then 1 else 0)), (.int ((if ¬ (1 : Int32) = 0 ∧ d0 = 0 then 1 else 0) + (if ¬ (1 : Int32) = 0 ∧ d1 = 0 then 1 else 0)))])
      refine g_iadd X57 hx (hb hby at_205) rfl ?_
      refine g_iload (i := 5) X57 hx (hb hby at_206) (by rfl) rfl ?_
      refine g_iconst (v := (3 : Int32)) X57 hx (hb hby at_208) (by decide) rfl ?_
      refine g_icmp_le X57 hx (hb hby at_209) (by decide) (pt := 216) (by decide) rfl (fun _ => ?_) (fun q_ => absurd q_ (by decide))
      refine g_iconst (v := (0 : Int32)) X57 hx (hb hby at_216) (by decide) rfl ?_
      refine g_iload (i := 9) X57 hx (hb hby at_217) (by rfl) rfl ?_
      refine g_callS X57 hx hZ hown (wd hw 21 rfl) (wd hw 22 rfl) (wd hw 23 rfl) (wd hw 24 rfl) (by decide) e57 (rm_z l Z a0 hw (0 : Int32) d3 T54.heap) (by rw [hml]; rfl) [(.int (0 : Int32)), (.int d3)] [(.int (((if ¬ (1 : Int32) = 0 ∧ d0 = 0 then 1 else 0) + (if ¬ (1 : Int32) = 0 ∧ d1 = 0 then 1 else 0)) + (if ¬ (1 : Int32) = 0 ∧ d2 = 0 then 1 else 0)))] rfl (lenOf pd_19 rfl) rfl (by show 1 + (2 + 11) + 0 ≤ _; decide) (by decide) (by decide) (by decide) (hb hby at_219) rfl ?_
      intro T58 v58 L58 X58 hQ58
      obtain ⟨rfl, rfl, e58⟩ := hQ58
      have N58 := Fr.app N57 (Fr.nil n0)
      show Goes p e below _ T58 (mkF m 222 #[.val (.int p0), .val (.int p1), .val (.int p2), .val (.int p3), .val (.int p4), .val (.int (3 : Int32)), .val (.int d0), .val (.int d1), .val (.int d2), .val (.int d3), .val (.ref a47), .val (.ref a51), .unset] [(.int (if ¬ (0 : Int32) = 0 ∧ d3 = 0 then 1 else 0)), (.int (((if ¬ (1 : Int32) = 0 ∧ d0 = 0 then 1 else 0) + (if ¬ (1 : Int32) = 0 ∧ d1 = 0 then 1 else 0)) + (if ¬ (1 : Int32) = 0 ∧ d2 = 0 then 1 else 0)))])
      refine g_iadd X58 hx (hb hby at_222) rfl ?_
      refine g_istore (i := 12) X58 hx #[.val (.int p0), .val (.int p1), .val (.int p2), .val (.int p3), .val (.int p4), .val (.int (3 : Int32)), .val (.int d0), .val (.int d1), .val (.int d2), .val (.int d3), .val (.ref a47), .val (.ref a51), .val (.int ((((if ¬ (1 : Int32) = 0 ∧ d0 = 0 then 1 else 0) + (if ¬ (1 : Int32) = 0 ∧ d1 = 0 then 1 else 0)) + (if ¬ (1 : Int32) = 0 ∧ d2 = 0 then 1 else 0)) + (if ¬ (0 : Int32) = 0 ∧ d3 = 0 then 1 else 0)))] (hb hby at_223) rfl rfl ?_
      refine g_aload (i := 11) X58 hx (hb hby at_225) (by rfl) rfl rfl ?_
      refine g_callV X58 hx hZ hown (wd hw 25 rfl) (wd hw 26 rfl) (wd hw 28 rfl) (wd hw 27 rfl) (wd hw 4 rfl) (wd hw 29 rfl) (by decide) e58 a51 E54 (rm_dc l Z a0 hw a51 a47 3 f T54.heap (by decide) Fd54 A2) (by rw [hml]; rfl) [] [] rfl (lenOf pd_23 rfl) rfl (by show 0 + (6 + 11) + 0 ≤ _; decide) (by decide) (by decide) (by decide) (hb hby at_227) rfl ?_
      intro T59 v59 L59 X59 hQ59
      obtain ⟨rfl, rfl, e59⟩ := hQ59
      have N59 := Fr.app N58 (Fr.nil n0)
      show Goes p e below _ T59 (mkF m 230 #[.val (.int p0), .val (.int p1), .val (.int p2), .val (.int p3), .val (.int p4), .val (.int (3 : Int32)), .val (.int d0), .val (.int d1), .val (.int d2), .val (.int d3), .val (.ref a47), .val (.ref a51), .val (.int ((((if ¬ (1 : Int32) = 0 ∧ d0 = 0 then 1 else 0) + (if ¬ (1 : Int32) = 0 ∧ d1 = 0 then 1 else 0)) + (if ¬ (1 : Int32) = 0 ∧ d2 = 0 then 1 else 0)) + (if ¬ (0 : Int32) = 0 ∧ d3 = 0 then 1 else 0)))] [(.int (own_cnt f 3))])
      refine g_iload (i := 12) X59 hx (hb hby at_230) (by rfl) rfl ?_
      refine g_icmp_ne X59 hx (hb hby at_232) (by decide) (pt := 239) (by decide) rfl (fun q_ => absurd (hf) q_) (fun _ => ?_)
      refine g_iconst (v := (1 : Int32)) X59 hx (hb hby at_235) (by decide) rfl ?_
      refine g_goto X59 hx (hb hby at_236) (by decide) (by decide) (pc' := 240) ?_
      exact g_retN X59 hx (t := .boolean) (by simp) hlk hret e59 (by decide) (by decide) (hb hby at_240) ⟨rfl, N59⟩
    · refine g_iload (i := 5) X0 hx (hb hby at_82) (by rfl) rfl ?_
      refine g_newarr X0 hx hZ (ty := .int) rfl (wd hw 1 rfl) e0 (hb hby at_84) rfl (by decide) 4 (by decide) (by decide) (by decide) (by decide) ?_
      intro T60 h60 cA60 a60 X60 e60 g60 Ex60 A60
      have Ar0 : ArI Z h60 a60 .int 4 (fun _ => 0) := ArI.new A60 0 rfl
      have gb : n0 ≤ a60 := by rw [g60]; exact Z0
      have Zs : n0 ≤ h60.size := Nat.le_trans Z0 Ex60.1
      refine g_astore (i := 10) X60 hx #[.val (.int p0), .val (.int p1), .val (.int p2), .val (.int p3), .val (.int p4), .val (.int (4 : Int32)), .val (.int d0), .val (.int d1), .val (.int d2), .val (.int d3), .val (.ref a60), .unset, .unset] (hb hby at_86) rfl rfl rfl ?_
      refine g_iload (i := 5) X60 hx (hb hby at_88) (by rfl) rfl ?_
      refine g_if_le X60 hx (hb hby at_90) (by decide) (pt := 99) (by decide) rfl (fun q_ => absurd (by decide) q_) (fun _ => ?_)
      refine g_aload (i := 10) X60 hx (hb hby at_93) (by rfl) rfl rfl ?_
      refine g_iconst (v := (0 : Int32)) X60 hx (hb hby at_95) (by decide) rfl ?_
      refine g_iload (i := 6) X60 hx (hb hby at_96) (by rfl) rfl ?_
      refine g_iastore' X60 hx hZ e60 Ar0 (by decide) (by decide) (hb hby at_98) rfl ?_
      intro T61 h61 X61 e61 W61 Ar61
      have N61 := Fr.snoc X61 (Fr.nil n0) gb
      have Zs61 : n0 ≤ h61.size := by rw [W61.size]; exact Zs
      refine g_iload (i := 5) X61 hx (hb hby at_99) (by rfl) rfl ?_
      refine g_iconst (v := (1 : Int32)) X61 hx (hb hby at_101) (by decide) rfl ?_
      refine g_icmp_le X61 hx (hb hby at_102) (by decide) (pt := 111) (by decide) rfl (fun q_ => absurd (by decide) q_) (fun _ => ?_)
      refine g_aload (i := 10) X61 hx (hb hby at_105) (by rfl) rfl rfl ?_
      refine g_iconst (v := (1 : Int32)) X61 hx (hb hby at_107) (by decide) rfl ?_
      refine g_iload (i := 7) X61 hx (hb hby at_108) (by rfl) rfl ?_
      refine g_iastore' X61 hx hZ e61 Ar61 (by decide) (by decide) (hb hby at_110) rfl ?_
      intro T62 h62 X62 e62 W62 Ar62
      have N62 := Fr.snoc X62 N61 gb
      have Zs62 : n0 ≤ h62.size := by rw [W62.size]; exact Zs61
      refine g_iload (i := 5) X62 hx (hb hby at_111) (by rfl) rfl ?_
      refine g_iconst (v := (2 : Int32)) X62 hx (hb hby at_113) (by decide) rfl ?_
      refine g_icmp_le X62 hx (hb hby at_114) (by decide) (pt := 123) (by decide) rfl (fun q_ => absurd (by decide) q_) (fun _ => ?_)
      refine g_aload (i := 10) X62 hx (hb hby at_117) (by rfl) rfl rfl ?_
      refine g_iconst (v := (2 : Int32)) X62 hx (hb hby at_119) (by decide) rfl ?_
      refine g_iload (i := 8) X62 hx (hb hby at_120) (by rfl) rfl ?_
      refine g_iastore' X62 hx hZ e62 Ar62 (by decide) (by decide) (hb hby at_122) rfl ?_
      intro T63 h63 X63 e63 W63 Ar63
      have N63 := Fr.snoc X63 N62 gb
      have Zs63 : n0 ≤ h63.size := by rw [W63.size]; exact Zs62
      refine g_iload (i := 5) X63 hx (hb hby at_123) (by rfl) rfl ?_
      refine g_iconst (v := (3 : Int32)) X63 hx (hb hby at_125) (by decide) rfl ?_
      refine g_icmp_le X63 hx (hb hby at_126) (by decide) (pt := 135) (by decide) rfl (fun q_ => absurd (by decide) q_) (fun _ => ?_)
      refine g_aload (i := 10) X63 hx (hb hby at_129) (by rfl) rfl rfl ?_
      refine g_iconst (v := (3 : Int32)) X63 hx (hb hby at_131) (by decide) rfl ?_
      refine g_iload (i := 9) X63 hx (hb hby at_132) (by rfl) rfl ?_
      refine g_iastore' X63 hx hZ e63 Ar63 (by decide) (by decide) (hb hby at_134) rfl ?_
      intro T64 h64 X64 e64 W64 Ar64
      have N64 := Fr.snoc X64 N63 gb
      have Zs64 : n0 ≤ h64.size := by rw [W64.size]; exact Zs63
      obtain ⟨f, A, hf⟩ : ∃ f, ArI Z h64 a60 .int 4 f ∧ own_cnt f 4 = ((((if ¬ (1 : Int32) = 0 ∧ d0 = 0 then 1 else 0) + (if ¬ (1 : Int32) = 0 ∧ d1 = 0 then 1 else 0)) + (if ¬ (1 : Int32) = 0 ∧ d2 = 0 then 1 else 0)) + (if ¬ (1 : Int32) = 0 ∧ d3 = 0 then 1 else 0)) := ⟨_, Ar64, by simp [own_cnt]⟩
      refine g_new X64 hx hZ hown (wd hw 2 rfl) (wd hw 3 rfl) (wd hw 4 rfl) e64 (hb hby at_135) rfl (by decide) (by decide) ?_
      intro T65 h65 a65 X65 e65 g65 Ex65 E65 D65
      have F65_names : Fld Z h65 a65 "com/example/link_importance/linkimportance/graph/LinkGraph" "names" "Lcom/example/link_importance/linkimportance/graph/PageNames;" .null := D65 (Or.inr (wd hw 12 rfl)) (ty := (.object "com/example/link_importance/linkimportance/graph/PageNames")) (by decide)
      have F65_labels : Fld Z h65 a65 "com/example/link_importance/linkimportance/graph/LinkGraph" "labels" "Lcom/example/link_importance/linkimportance/graph/PageLabels;" .null := D65 (Or.inr (wd hw 14 rfl)) (ty := (.object "com/example/link_importance/linkimportance/graph/PageLabels")) (by decide)
      have F65_inStart : Fld Z h65 a65 "com/example/link_importance/linkimportance/graph/LinkGraph" "inStart" "[I" .null := D65 (Or.inr (wd hw 16 rfl)) (ty := (.array .int)) (by decide)
      have F65_inSources : Fld Z h65 a65 "com/example/link_importance/linkimportance/graph/LinkGraph" "inSources" "[I" .null := D65 (Or.inr (wd hw 18 rfl)) (ty := (.array .int)) (by decide)
      have F65_outDegree : Fld Z h65 a65 "com/example/link_importance/linkimportance/graph/LinkGraph" "outDegree" "[I" .null := D65 (Or.inr (wd hw 20 rfl)) (ty := (.array .int)) (by decide)
      have ga : n0 ≤ a65 := by rw [g65]; exact Zs64
      have Zo : n0 ≤ h65.size := Nat.le_trans Zs64 Ex65.1
      refine g_dup X65 hx (hb hby at_138) rfl rfl ?_
      refine g_aconst_null X65 hx (hb hby at_139) rfl ?_
      refine g_aconst_null X65 hx (hb hby at_140) rfl ?_
      refine g_iload (i := 5) X65 hx (hb hby at_141) (by rfl) rfl ?_
      refine g_iconst (v := (1 : Int32)) X65 hx (hb hby at_143) (by decide) rfl ?_
      refine g_iadd X65 hx (hb hby at_144) rfl ?_
      refine g_newarr X65 hx hZ (ty := .int) rfl (wd hw 1 rfl) e65 (hb hby at_145) rfl (by decide) 5 (by decide) (by decide) (by decide) (by decide) ?_
      intro T66 h66 cA66 a66 X66 e66 g66 Ex66 A66
      refine g_iconst (v := (0 : Int32)) X66 hx (hb hby at_147) (by decide) rfl ?_
      refine g_newarr X66 hx hZ (ty := .int) rfl (wd hw 1 rfl) e66 (hb hby at_148) rfl (by decide) 0 (by decide) (by decide) (by decide) (by decide) ?_
      intro T67 h67 cA67 a67 X67 e67 g67 Ex67 A67
      refine g_aload (i := 10) X67 hx (hb hby at_150) (by rfl) rfl rfl ?_
      refine g_callI X67 hx hZ rfl hown (wd hw 5 rfl) (wd hw 6 rfl) (wd hw 4 rfl) (wd hw 7 rfl) (by decide) e67 (rm_lg l Z a0 hw a65 a66 a67 a60 h67 n0 ga ((E65.ext Ex66).ext Ex67) ((F65_names.ext Ex66).ext Ex67) ((F65_labels.ext Ex66).ext Ex67) ((F65_inStart.ext Ex66).ext Ex67) ((F65_inSources.ext Ex66).ext Ex67) ((F65_outDegree.ext Ex66).ext Ex67)) (by rw [hml]; rfl) a65 [.null, .null, (.ref a66), (.ref a67), (.ref a60)] [(.ref a65)] rfl (lenOf pd_18 rfl) rfl (by show 1 + (6 + 11) + 12 ≤ _; decide) (by decide) (by decide) (by decide) (hb hby at_152) rfl ?_
      intro T68 v68 L68 X68 hQ68
      obtain ⟨rfl, N68, K68, E68, Fd68⟩ := hQ68
      have N68 := Fr.app N64 N68
      show Goes p e below _ T68 (mkF m 155 #[.val (.int p0), .val (.int p1), .val (.int p2), .val (.int p3), .val (.int p4), .val (.int (4 : Int32)), .val (.int d0), .val (.int d1), .val (.int d2), .val (.int d3), .val (.ref a60), .unset, .unset] [(.ref a65)])
      have hne : a60 ∉ [a65] := fun q => absurd A.lt (by rw [List.mem_singleton.mp q, g65]; exact Nat.lt_irrefl _)
      have A2 := (((A.ext Ex65).ext Ex66).ext Ex67).keep K68 hne
      refine g_astore (i := 11) X68 hx #[.val (.int p0), .val (.int p1), .val (.int p2), .val (.int p3), .val (.int p4), .val (.int (4 : Int32)), .val (.int d0), .val (.int d1), .val (.int d2), .val (.int d3), .val (.ref a60), .val (.ref a65), .unset] (hb hby at_155) rfl rfl rfl ?_
      refine g_iload (i := 5) X68 hx (hb hby at_157) (by rfl) rfl ?_
      refine g_if_le X68 hx (hb hby at_159) (by decide) (pt := 166) (by decide) rfl (fun q_ => absurd (by decide) q_) (fun _ => ?_)
      refine g_iconst (v := (1 : Int32)) X68 hx (hb hby at_162) (by decide) rfl ?_
      refine g_goto X68 hx (hb hby at_163) (by decide) (by decide) (pc' := 167) ?_
      refine g_iload (i := 6) X68 hx (hb hby at_167) (by rfl) rfl ?_
      refine g_callS X68 hx hZ hown (wd hw 21 rfl) (wd hw 22 rfl) (wd hw 23 rfl) (wd hw 24 rfl) (by decide) rfl (rm_z l Z a0 hw (1 : Int32) d0 T68.heap) (by rw [hml]; rfl) [(.int (1 : Int32)), (.int d0)] [] rfl (lenOf pd_19 rfl) rfl (by show 0 + (2 + 11) + 0 ≤ _; decide) (by decide) (by decide) (by decide) (hb hby at_169) rfl ?_
      intro T69 v69 L69 X69 hQ69
      obtain ⟨rfl, rfl, e69⟩ := hQ69
      have N69 := Fr.app N68 (Fr.nil n0)
      show Goes p e below _ T69 (mkF m 172 #[.val (.int p0), .val (.int p1), .val (.int p2), .val (.int p3), .val (.int p4), .val (.int (4 : Int32)), .val (.int d0), .val (.int d1), .val (.int d2), .val (.int d3), .val (.ref a60), .val (.ref a65), .unset] [(.int (if ¬ (1 : Int32) = 0 ∧ d0 = 0 then 1 else 0))])
      refine g_iload (i := 5) X69 hx (hb hby at_172) (by rfl) rfl ?_
      refine g_iconst (v := (1 : Int32)) X69 hx (hb hby at_174) (by decide) rfl ?_
      refine g_icmp_le X69 hx (hb hby at_175) (by decide) (pt := 182) (by decide) rfl (fun q_ => absurd (by decide) q_) (fun _ => ?_)
      refine g_iconst (v := (1 : Int32)) X69 hx (hb hby at_178) (by decide) rfl ?_
      refine g_goto X69 hx (hb hby at_179) (by decide) (by decide) (pc' := 183) ?_
      refine g_iload (i := 7) X69 hx (hb hby at_183) (by rfl) rfl ?_
      refine g_callS X69 hx hZ hown (wd hw 21 rfl) (wd hw 22 rfl) (wd hw 23 rfl) (wd hw 24 rfl) (by decide) e69 (rm_z l Z a0 hw (1 : Int32) d1 T68.heap) (by rw [hml]; rfl) [(.int (1 : Int32)), (.int d1)] [(.int (if ¬ (1 : Int32) = 0 ∧ d0 = 0 then 1 else 0))] rfl (lenOf pd_19 rfl) rfl (by show 1 + (2 + 11) + 0 ≤ _; decide) (by decide) (by decide) (by decide) (hb hby at_185) rfl ?_
      intro T70 v70 L70 X70 hQ70
      obtain ⟨rfl, rfl, e70⟩ := hQ70
      have N70 := Fr.app N69 (Fr.nil n0)
      show Goes p e below _ T70 (mkF m 188 #[.val (.int p0), .val (.int p1), .val (.int p2), .val (.int p3), .val (.int p4), .val (.int (4 : Int32)), .val (.int d0), .val (.int d1), .val (.int d2), .val (.int d3), .val (.ref a60), .val (.ref a65), .unset] [(.int (if ¬ (1 : Int32) = 0 ∧ d1 = 0 then 1 else 0)), (.int (if ¬ (1 : Int32) = 0 ∧ d0 = 0 then 1 else 0))])
      refine g_iadd X70 hx (hb hby at_188) rfl ?_
      refine g_iload (i := 5) X70 hx (hb hby at_189) (by rfl) rfl ?_
      refine g_iconst (v := (2 : Int32)) X70 hx (hb hby at_191) (by decide) rfl ?_
      refine g_icmp_le X70 hx (hb hby at_192) (by decide) (pt := 199) (by decide) rfl (fun q_ => absurd (by decide) q_) (fun _ => ?_)
      refine g_iconst (v := (1 : Int32)) X70 hx (hb hby at_195) (by decide) rfl ?_
      refine g_goto X70 hx (hb hby at_196) (by decide) (by decide) (pc' := 200) ?_
      refine g_iload (i := 8) X70 hx (hb hby at_200) (by rfl) rfl ?_
      refine g_callS X70 hx hZ hown (wd hw 21 rfl) (wd hw 22 rfl) (wd hw 23 rfl) (wd hw 24 rfl) (by decide) e70 (rm_z l Z a0 hw (1 : Int32) d2 T68.heap) (by rw [hml]; rfl) [(.int (1 : Int32)), (.int d2)] [(.int ((if ¬ (1 : Int32) = 0 ∧ d0 = 0 then 1 else 0) + (if ¬ (1 : Int32) = 0 ∧ d1 = 0 then 1 else 0)))] rfl (lenOf pd_19 rfl) rfl (by show 1 + (2 + 11) + 0 ≤ _; decide) (by decide) (by decide) (by decide) (hb hby at_202) rfl ?_
      intro T71 v71 L71 X71 hQ71
      obtain ⟨rfl, rfl, e71⟩ := hQ71
      have N71 := Fr.app N70 (Fr.nil n0)
      show Goes p e below _ T71 (mkF m 205 #[.val (.int p0), .val (.int p1), .val (.int p2), .val (.int p3), .val (.int p4), .val (.int (4 : Int32)), .val (.int d0), .val (.int d1), .val (.int d2), .val (.int d3), .val (.ref a60), .val (.ref a65), .unset] [(.int (if ¬ (1 : Int32) = 0 ∧ d2 = 0 then 1 else 0)), (.int ((if ¬ (1 : Int32) = 0 ∧ d0 = 0 then 1 else 0) + (if ¬ (1 : Int32) = 0 ∧ d1 = 0 then 1 else 0)))])
      refine g_iadd X71 hx (hb hby at_205) rfl ?_
      refine g_iload (i := 5) X71 hx (hb hby at_206) (by rfl) rfl ?_
      refine g_iconst (v := (3 : Int32)) X71 hx (hb hby at_208) (by decide) rfl ?_
      refine g_icmp_le X71 hx (hb hby at_209) (by decide) (pt := 216) (by decide) rfl (fun q_ => absurd (by decide) q_) (fun _ => ?_)
      refine g_iconst (v := (1 : Int32)) X71 hx (hb hby at_212) (by decide) rfl ?_
      refine g_goto X71 hx (hb hby at_213) (by decide) (by decide) (pc' := 217) ?_
      refine g_iload (i := 9) X71 hx (hb hby at_217) (by rfl) rfl ?_
      refine g_callS X71 hx hZ hown (wd hw 21 rfl) (wd hw 22 rfl) (wd hw 23 rfl) (wd hw 24 rfl) (by decide) e71 (rm_z l Z a0 hw (1 : Int32) d3 T68.heap) (by rw [hml]; rfl) [(.int (1 : Int32)), (.int d3)] [(.int (((if ¬ (1 : Int32) = 0 ∧ d0 = 0 then 1 else 0) + (if ¬ (1 : Int32) = 0 ∧ d1 = 0 then 1 else 0)) + (if ¬ (1 : Int32) = 0 ∧ d2 = 0 then 1 else 0)))] rfl (lenOf pd_19 rfl) rfl (by show 1 + (2 + 11) + 0 ≤ _; decide) (by decide) (by decide) (by decide) (hb hby at_219) rfl ?_
      intro T72 v72 L72 X72 hQ72
      obtain ⟨rfl, rfl, e72⟩ := hQ72
      have N72 := Fr.app N71 (Fr.nil n0)
      show Goes p e below _ T72 (mkF m 222 #[.val (.int p0), .val (.int p1), .val (.int p2), .val (.int p3), .val (.int p4), .val (.int (4 : Int32)), .val (.int d0), .val (.int d1), .val (.int d2), .val (.int d3), .val (.ref a60), .val (.ref a65), .unset] [(.int (if ¬ (1 : Int32) = 0 ∧ d3 = 0 then 1 else 0)), (.int (((if ¬ (1 : Int32) = 0 ∧ d0 = 0 then 1 else 0) + (if ¬ (1 : Int32) = 0 ∧ d1 = 0 then 1 else 0)) + (if ¬ (1 : Int32) = 0 ∧ d2 = 0 then 1 else 0)))])
      refine g_iadd X72 hx (hb hby at_222) rfl ?_
      refine g_istore (i := 12) X72 hx #[.val (.int p0), .val (.int p1), .val (.int p2), .val (.int p3), .val (.int p4), .val (.int (4 : Int32)), .val (.int d0), .val (.int d1), .val (.int d2), .val (.int d3), .val (.ref a60), .val (.ref a65), .val (.int ((((if ¬ (1 : Int32) = 0 ∧ d0 = 0 then 1 else 0) + (if ¬ (1 : Int32) = 0 ∧ d1 = 0 then 1 else 0)) + (if ¬ (1 : Int32) = 0 ∧ d2 = 0 then 1 else 0)) + (if ¬ (1 : Int32) = 0 ∧ d3 = 0 then 1 else 0)))] (hb hby at_223) rfl rfl ?_
      refine g_aload (i := 11) X72 hx (hb hby at_225) (by rfl) rfl rfl ?_
      refine g_callV X72 hx hZ hown (wd hw 25 rfl) (wd hw 26 rfl) (wd hw 28 rfl) (wd hw 27 rfl) (wd hw 4 rfl) (wd hw 29 rfl) (by decide) e72 a65 E68 (rm_dc l Z a0 hw a65 a60 4 f T68.heap (by decide) Fd68 A2) (by rw [hml]; rfl) [] [] rfl (lenOf pd_23 rfl) rfl (by show 0 + (6 + 11) + 0 ≤ _; decide) (by decide) (by decide) (by decide) (hb hby at_227) rfl ?_
      intro T73 v73 L73 X73 hQ73
      obtain ⟨rfl, rfl, e73⟩ := hQ73
      have N73 := Fr.app N72 (Fr.nil n0)
      show Goes p e below _ T73 (mkF m 230 #[.val (.int p0), .val (.int p1), .val (.int p2), .val (.int p3), .val (.int p4), .val (.int (4 : Int32)), .val (.int d0), .val (.int d1), .val (.int d2), .val (.int d3), .val (.ref a60), .val (.ref a65), .val (.int ((((if ¬ (1 : Int32) = 0 ∧ d0 = 0 then 1 else 0) + (if ¬ (1 : Int32) = 0 ∧ d1 = 0 then 1 else 0)) + (if ¬ (1 : Int32) = 0 ∧ d2 = 0 then 1 else 0)) + (if ¬ (1 : Int32) = 0 ∧ d3 = 0 then 1 else 0)))] [(.int (own_cnt f 4))])
      refine g_iload (i := 12) X73 hx (hb hby at_230) (by rfl) rfl ?_
      refine g_icmp_ne X73 hx (hb hby at_232) (by decide) (pt := 239) (by decide) rfl (fun q_ => absurd (hf) q_) (fun _ => ?_)
      refine g_iconst (v := (1 : Int32)) X73 hx (hb hby at_235) (by decide) rfl ?_
      refine g_goto X73 hx (hb hby at_236) (by decide) (by decide) (pc' := 240) ?_
      exact g_retN X73 hx (t := .boolean) (by simp) hlk hret e73 (by decide) (by decide) (hb hby at_240) ⟨rfl, N73⟩
  have Jd3 : ∀ (d0 d1 d2 d3 : Int32), Goes p e below (KQ s 16 128 (fun v h L => v = some (.int 1) ∧ Fr n0 L)) s₁ (mkF m 80 #[.val (.int p0), .val (.int p1), .val (.int p2), .val (.int p3), .val (.int p4), .val (.int n), .val (.int d0), .val (.int d1), .val (.int d2), .unset, .unset, .unset, .unset] [(.int d3)]) := by
    intro d0 d1 d2 d3
    refine g_istore (i := 9) X0 hx #[.val (.int p0), .val (.int p1), .val (.int p2), .val (.int p3), .val (.int p4), .val (.int n), .val (.int d0), .val (.int d1), .val (.int d2), .val (.int d3), .unset, .unset, .unset] (hb hby at_80) rfl rfl ?_
    exact J82 d0 d1 d2 d3
  have Jd2 : ∀ (d0 d1 d2 : Int32), Goes p e below (KQ s 16 128 (fun v h L => v = some (.int 1) ∧ Fr n0 L)) s₁ (mkF m 60 #[.val (.int p0), .val (.int p1), .val (.int p2), .val (.int p3), .val (.int p4), .val (.int n), .val (.int d0), .val (.int d1), .unset, .unset, .unset, .unset, .unset] [(.int d2)]) := by
    intro d0 d1 d2
    refine g_istore (i := 8) X0 hx #[.val (.int p0), .val (.int p1), .val (.int p2), .val (.int p3), .val (.int p4), .val (.int n), .val (.int d0), .val (.int d1), .val (.int d2), .unset, .unset, .unset, .unset] (hb hby at_60) rfl rfl ?_
    refine g_iload_n (i := 0) X0 hx (hb hby at_62) (by rfl) rfl ?_
    refine g_bipush (v := (6 : Int32)) X0 hx (hb hby at_63) (by decide) rfl ?_
    refine g_iushr X0 hx (hb hby at_65) rfl ?_
    refine g_iconst (v := (1 : Int32)) X0 hx (hb hby at_66) (by decide) rfl ?_
    refine g_iand X0 hx (hb hby at_67) rfl ?_
    refine g_if_eq X0 hx (hb hby at_68) (by decide) (pt := 75) (by decide) rfl (fun q74 => ?_) (fun q74 => ?_)
    · refine g_iload (i := 4) X0 hx (hb hby at_75) (by rfl) rfl ?_
      refine g_ldcI X0 hx hZ hown (wd hw 0 rfl) (hb hby at_77) rfl ?_
      refine g_iand X0 hx (hb hby at_79) rfl ?_
      exact Jd3 d0 d1 d2 _
    · refine g_iconst (v := (0 : Int32)) X0 hx (hb hby at_71) (by decide) rfl ?_
      refine g_goto X0 hx (hb hby at_72) (by decide) (by decide) (pc' := 80) ?_
      exact Jd3 d0 d1 d2 _
  have Jd1 : ∀ (d0 d1 : Int32), Goes p e below (KQ s 16 128 (fun v h L => v = some (.int 1) ∧ Fr n0 L)) s₁ (mkF m 42 #[.val (.int p0), .val (.int p1), .val (.int p2), .val (.int p3), .val (.int p4), .val (.int n), .val (.int d0), .unset, .unset, .unset, .unset, .unset, .unset] [(.int d1)]) := by
    intro d0 d1
    refine g_istore (i := 7) X0 hx #[.val (.int p0), .val (.int p1), .val (.int p2), .val (.int p3), .val (.int p4), .val (.int n), .val (.int d0), .val (.int d1), .unset, .unset, .unset, .unset, .unset] (hb hby at_42) rfl rfl ?_
    refine g_iload_n (i := 0) X0 hx (hb hby at_44) (by rfl) rfl ?_
    refine g_iconst (v := (5 : Int32)) X0 hx (hb hby at_45) (by decide) rfl ?_
    refine g_iushr X0 hx (hb hby at_46) rfl ?_
    refine g_iconst (v := (1 : Int32)) X0 hx (hb hby at_47) (by decide) rfl ?_
    refine g_iand X0 hx (hb hby at_48) rfl ?_
    refine g_if_eq X0 hx (hb hby at_49) (by decide) (pt := 56) (by decide) rfl (fun q75 => ?_) (fun q75 => ?_)
    · refine g_iload_n (i := 3) X0 hx (hb hby at_56) (by rfl) rfl ?_
      refine g_ldcI X0 hx hZ hown (wd hw 0 rfl) (hb hby at_57) rfl ?_
      refine g_iand X0 hx (hb hby at_59) rfl ?_
      exact Jd2 d0 d1 _
    · refine g_iconst (v := (0 : Int32)) X0 hx (hb hby at_52) (by decide) rfl ?_
      refine g_goto X0 hx (hb hby at_53) (by decide) (by decide) (pc' := 60) ?_
      exact Jd2 d0 d1 _
  have Jd0 : ∀ (d0 : Int32), Goes p e below (KQ s 16 128 (fun v h L => v = some (.int 1) ∧ Fr n0 L)) s₁ (mkF m 24 #[.val (.int p0), .val (.int p1), .val (.int p2), .val (.int p3), .val (.int p4), .val (.int n), .unset, .unset, .unset, .unset, .unset, .unset, .unset] [(.int d0)]) := by
    intro d0
    refine g_istore (i := 6) X0 hx #[.val (.int p0), .val (.int p1), .val (.int p2), .val (.int p3), .val (.int p4), .val (.int n), .val (.int d0), .unset, .unset, .unset, .unset, .unset, .unset] (hb hby at_24) rfl rfl ?_
    refine g_iload_n (i := 0) X0 hx (hb hby at_26) (by rfl) rfl ?_
    refine g_iconst (v := (4 : Int32)) X0 hx (hb hby at_27) (by decide) rfl ?_
    refine g_iushr X0 hx (hb hby at_28) rfl ?_
    refine g_iconst (v := (1 : Int32)) X0 hx (hb hby at_29) (by decide) rfl ?_
    refine g_iand X0 hx (hb hby at_30) rfl ?_
    refine g_if_eq X0 hx (hb hby at_31) (by decide) (pt := 38) (by decide) rfl (fun q76 => ?_) (fun q76 => ?_)
    · refine g_iload_n (i := 2) X0 hx (hb hby at_38) (by rfl) rfl ?_
      refine g_ldcI X0 hx hZ hown (wd hw 0 rfl) (hb hby at_39) rfl ?_
      refine g_iand X0 hx (hb hby at_41) rfl ?_
      exact Jd1 d0 _
    · refine g_iconst (v := (0 : Int32)) X0 hx (hb hby at_34) (by decide) rfl ?_
      refine g_goto X0 hx (hb hby at_35) (by decide) (by decide) (pc' := 42) ?_
      exact Jd1 d0 _
  refine g_iload_n (i := 0) X0 hx (hb hby at_8) (by rfl) rfl ?_
  refine g_iconst (v := (3 : Int32)) X0 hx (hb hby at_9) (by decide) rfl ?_
  refine g_iushr X0 hx (hb hby at_10) rfl ?_
  refine g_iconst (v := (1 : Int32)) X0 hx (hb hby at_11) (by decide) rfl ?_
  refine g_iand X0 hx (hb hby at_12) rfl ?_
  refine g_if_eq X0 hx (hb hby at_13) (by decide) (pt := 20) (by decide) rfl (fun q77 => ?_) (fun q77 => ?_)
  · refine g_iload_n (i := 1) X0 hx (hb hby at_20) (by rfl) rfl ?_
    refine g_ldcI X0 hx hZ hown (wd hw 0 rfl) (hb hby at_21) rfl ?_
    refine g_iand X0 hx (hb hby at_23) rfl ?_
    exact Jd0 _
  · refine g_iconst (v := (0 : Int32)) X0 hx (hb hby at_16) (by decide) rfl ?_
    refine g_goto X0 hx (hb hby at_17) (by decide) (by decide) (pc' := 24) ?_
    exact Jd0 _
set_option maxRecDepth 65536 in
set_option maxHeartbeats 40000000 in
theorem comes_1 {Post : Tables → Env → Array Value → State → Outcome → State → Prop} (hpost : ∀ tb e args s v u, (limb_1_1.after args s (.returned v) u = true ∧ limb_1_2.after args s (.returned v) u = true ∧ True) → FrameEnd s (.returned v) u (Jvm.fieldLocs frame_1_writes args s ++ Jvm.arrayLocs frame_1_arrays args s ++ Jvm.staticLocs frame_1_statics s) 16 128 → Post tb e args s (.returned v) u) :
    ArmFor flags0 classFile x code maxLocals ret World_1 tables_1 room_1 Calls_1 rest_1 Pre_1 Post := by
  intro l hfl _ _ p e ha hc hk s m args below hf hA hF happ hP
  obtain ⟨hcalls, hrest, hpre⟩ := hP
  obtain ⟨-, -, -, hnamed, -, -, -, hat⟩ := (Spec.applies_iff hf).mp happ
  obtain ⟨hg, hn⟩ := and_e (Cond.before_iff.mp (show (Jvm.Cond.and given_1 narrow_1).before args s = true from hpre))
  obtain ⟨hcnt, hg0⟩ := and_e hg
  obtain ⟨w0, w1, w2, w3, w4, rfl⟩ : ∃ w0 w1 w2 w3 w4 : Value, args = #[w0, w1, w2, w3, w4] := by
    have hs : args.size = 5 := by simpa [Cond.value, given_1] using hcnt
    obtain ⟨L⟩ := args
    match L, hs with
    | [w0, w1, w2, w3, w4], _ => exact ⟨w0, w1, w2, w3, w4, rfl⟩
  have hw := fun d (hd : d ∈ tables_1) => atoms_spec (ws := Jvm.Cond.code x code maxLocals ret :: tables_1) hat d (List.mem_cons_of_mem _ hd)
  have hfit : Fit s := fun {y c} hc i hi => by
    obtain ⟨ha, rfl⟩ := Array.getElem?_eq_some_iff.mp hc
    have q := List.all_eq_true.mp ((Array.all_eq_true_iff_forall_mem.mp hF) _ (Array.getElem_mem ha)) i (List.mem_range.mpr hi)
    simpa [Array.getElem?_eq_getElem hi] using q
  obtain ⟨ha0, hg1⟩ := and_e hg0
  obtain ⟨i0, q0⟩ := is_v ha0
  obtain rfl : w0 = (.int i0) := Option.some.inj q0
  obtain ⟨ha1, hg2⟩ := and_e hg1
  obtain ⟨i1, q1⟩ := is_v ha1
  obtain rfl : w1 = (.int i1) := Option.some.inj q1
  obtain ⟨ha2, hg3⟩ := and_e hg2
  obtain ⟨i2, q2⟩ := is_v ha2
  obtain rfl : w2 = (.int i2) := Option.some.inj q2
  obtain ⟨ha3, hg4⟩ := and_e hg3
  obtain ⟨i3, q3⟩ := is_v ha3
  obtain rfl : w3 = (.int i3) := Option.some.inj q3
  obtain ⟨i4, q4⟩ := is_v hg4
  obtain rfl : w4 = (.int i4) := Option.some.inj q4
  obtain ⟨n, o, h1, h2, h3, _, L, rfl, ⟨rfl, N⟩, hq⟩ := rm0 l s _ hw i0 i1 i2 i3 i4 s.heap s.heap.size (Nat.le_refl _) p e ha hc hk s m _ below hf ((Spec.applies_iff_loose hf).mp happ).1 ⟨rfl, State.Warmed39.refl s, rfl⟩ trivial
  refine ⟨n, _, h1, h2, h3, hpost _ _ _ _ _ _ ⟨Cond.after_iff.mpr rfl, Cond.after_iff.mpr (eq_i res_at (Term.int_eval (1)) rfl), trivial⟩ ⟨hq.1, hq.2.1, (hq.2.2.sift fun y hy => Or.inr (N y hy)).mono (by decide) (by decide)⟩⟩
theorem main_1_1 : Claimed_1_1 := comes_1 fun _ _ _ _ _ _ h hF => ⟨h.1, hF⟩
theorem main_1_2 : Claimed_1_2 := comes_1 fun _ _ _ _ _ _ h hF => ⟨h.2.1, hF⟩
end Jvm.Pilot.@@N@@
namespace Jvm.Pilot.@@N@@
open Jvm Jvm.ClassFile Sem Op Lib Jvm.Free Jvm.Stand Jvm.Pilot.@@N@@.Jvm.D
/-! MADE BY PROGRAM (witnessworld.py) out of the Statement's table words and the real class files: 9 classes; the members and pool entries that the words name. The judged class is class 1, her method 2. -/
namespace start1
open Jvm.ClassFile
def u (s : String) : CpInfo := .utf8 (stringToUtf16 s)
/-- a pool by its gaps: so many unusable entries, then the entry; so many at the end -/
def gap : Nat → List CpInfo → List CpInfo
  | 0, r => r
  | n + 1, r => .unusable :: gap n r
def poolList (es : List (Nat × CpInfo)) (last : Nat) : List CpInfo := es.foldr (fun e r => gap e.1 (e.2 :: r)) (gap last [])
def pool (es : List (Nat × CpInfo)) (last : Nat) : Array CpInfo := ⟨poolList es last⟩
def fileOf (pool : Array CpInfo) (this : Nat) (attrs : Array Attribute := #[]) (ms : Array MethodInfo := #[]) (fl : Nat := 33) (sup : Nat := 0) (ifs : Array Nat := #[]) (fds : Array FieldInfo := #[]) : ClassFile where
  minorVersion := 0
  majorVersion := 65
  constantPool := pool
  accessFlags := fl
  thisClass := this
  superClass := sup
  interfaces := ifs
  fields := fds
  methods := ms
  attributes := attrs
def plain (name : String) (sup : Option ClassId) : Class where
  name := name
  kind := .ordinary
  loader := none
  accessFlags := 33
  super := sup
  interfaces := #[]
  cf := none
  fields := #[]
  methods := #[]
  instanceTypes := #[]
  staticTypes := #[]
  resolved := #[]
  callSites := []
  init := .initialized
  statics := none
  mirror := none

def pool0 : Array CpInfo := pool [(5, u "<init>"), (0, u "()V"), (1, .class_ 10), (1, u "java/lang/Object")] 113

def k0c0 : Code := { maxStack := 0, maxLocals := 1, code := object_method_1_code, exceptionTable := #[], attributes := #[] }
def k0m0 : Method := { name := "<init>", desc := "()V", sig := { parameters := [], returnType := none }, accessFlags := 1, code := some k0c0 }
/-- java/lang/Object -/
def k0 : Class := { plain "java/lang/Object" none with
  accessFlags := 33
  interfaces := #[]
  cf := some (fileOf pool0 8 #[] #[{ accessFlags := 1, nameIndex := 5, descriptorIndex := 6, attributes := #[] }] 33 0 #[] #[])
  fields := #[]
  methods := #[k0m0]
  instanceTypes := #[]
  staticTypes := #[]
  resolved := Array.replicate 124 none
  statics := none }

def pool1 : Array CpInfo := pool [(2, .class_ 4), (1, u "java/lang/Object"), (0, u "<init>"), (0, u "()V"), (0, .integer 2147483647), (0, .class_ 9), (0, u "com/example/link_importance/linkimportance/graph/LinkGraph"), (0, .methodref 8 11), (0, .nameAndType 5 12), (0, u "(Lcom/example/link_importance/linkimportance/graph/PageNames;Lcom/example/link_importance/linkimportance/graph/PageLabels;[I[I[I)V"), (0, .methodref 14 15), (0, .class_ 16), (0, .nameAndType 17 18), (0, u "com/example/link_importance/linkimportance/graph/LinkGraphDanglingCountPinLaw"), (0, u "z"), (0, u "(ZI)I"), (0, .methodref 8 20), (0, .nameAndType 21 22), (0, u "danglingCount"), (0, u "()I"), (3, u "law"), (0, u "(IIIII)Z")] 4

def k1m0 : Method := { name := "<init>", desc := "()V", sig := { parameters := [], returnType := none }, accessFlags := 1, code := none }
def k1c1 : Code := { maxStack := 1, maxLocals := 2, code := method_2_code, exceptionTable := #[], attributes := #[] }
def k1m1 : Method := { name := "z", desc := "(ZI)I", sig := { parameters := [.boolean, .int], returnType := some .int }, accessFlags := 10, code := some k1c1 }
def k1c2 : Code := { maxStack := 7, maxLocals := 13, code := code, exceptionTable := #[], attributes := #[] }
def k1m2 : Method := { name := "law", desc := "(IIIII)Z", sig := { parameters := [.int, .int, .int, .int, .int], returnType := some .boolean }, accessFlags := 9, code := some k1c2 }
/-- com/example/link_importance/linkimportance/graph/LinkGraphDanglingCountPinLaw -/
def k1 : Class := { plain "com/example/link_importance/linkimportance/graph/LinkGraphDanglingCountPinLaw" (some 0) with
  accessFlags := 49
  interfaces := #[]
  cf := some (fileOf pool1 14 #[] #[{ accessFlags := 1, nameIndex := 5, descriptorIndex := 6, attributes := #[] }, { accessFlags := 10, nameIndex := 17, descriptorIndex := 18, attributes := #[] }, { accessFlags := 9, nameIndex := 26, descriptorIndex := 27, attributes := #[] }] 49 2 #[] #[])
  fields := #[]
  methods := #[k1m0, k1m1, k1m2]
  instanceTypes := #[]
  staticTypes := #[]
  resolved := Array.replicate 32 none
  statics := none }

def pool2 : Array CpInfo := pool [(1, .methodref 2 3), (0, .class_ 4), (0, .nameAndType 5 6), (0, u "java/lang/Object"), (0, u "<init>"), (0, u "()V"), (0, .fieldref 8 9), (0, .class_ 10), (0, .nameAndType 11 12), (0, u "com/example/link_importance/linkimportance/graph/LinkGraph"), (0, u "names"), (0, u "Lcom/example/link_importance/linkimportance/graph/PageNames;"), (0, .fieldref 8 14), (0, .nameAndType 15 16), (0, u "labels"), (0, u "Lcom/example/link_importance/linkimportance/graph/PageLabels;"), (0, .fieldref 8 18), (0, .nameAndType 19 20), (0, u "inStart"), (0, u "[I"), (0, .fieldref 8 22), (0, .nameAndType 23 20), (0, u "inSources"), (0, .fieldref 8 25), (0, .nameAndType 26 20), (0, u "outDegree"), (0, u "(Lcom/example/link_importance/linkimportance/graph/PageNames;Lcom/example/link_importance/linkimportance/graph/PageLabels;[I[I[I)V"), (5, u "()I"), (1, u "danglingCount")] 5

def k2c0 : Code := { maxStack := 2, maxLocals := 6, code := prog_14_method_1_code, exceptionTable := #[], attributes := #[] }
def k2m0 : Method := { name := "<init>", desc := "(Lcom/example/link_importance/linkimportance/graph/PageNames;Lcom/example/link_importance/linkimportance/graph/PageLabels;[I[I[I)V", sig := { parameters := [(.object "com/example/link_importance/linkimportance/graph/PageNames"), (.object "com/example/link_importance/linkimportance/graph/PageLabels"), (.array .int), (.array .int), (.array .int)], returnType := none }, accessFlags := 0, code := some k2c0 }
def k2c1 : Code := { maxStack := 2, maxLocals := 6, code := prog_14_method_6_code, exceptionTable := #[], attributes := #[] }
def k2m1 : Method := { name := "danglingCount", desc := "()I", sig := { parameters := [], returnType := some .int }, accessFlags := 1, code := some k2c1 }
/-- com/example/link_importance/linkimportance/graph/LinkGraph -/
def k2 : Class := { plain "com/example/link_importance/linkimportance/graph/LinkGraph" (some 0) with
  accessFlags := 33
  interfaces := #[]
  cf := some (fileOf pool2 8 #[] #[{ accessFlags := 0, nameIndex := 5, descriptorIndex := 27, attributes := #[] }, { accessFlags := 1, nameIndex := 35, descriptorIndex := 33, attributes := #[] }] 33 2 #[] #[{ accessFlags := 18, nameIndex := 11, descriptorIndex := 12, attributes := #[] }, { accessFlags := 18, nameIndex := 15, descriptorIndex := 16, attributes := #[] }, { accessFlags := 18, nameIndex := 19, descriptorIndex := 20, attributes := #[] }, { accessFlags := 18, nameIndex := 23, descriptorIndex := 20, attributes := #[] }, { accessFlags := 18, nameIndex := 26, descriptorIndex := 20, attributes := #[] }])
  fields := #[{ name := "names", type := (.object "com/example/link_importance/linkimportance/graph/PageNames"), accessFlags := 18, slot := 0, constantValue := 0 }, { name := "labels", type := (.object "com/example/link_importance/linkimportance/graph/PageLabels"), accessFlags := 18, slot := 1, constantValue := 0 }, { name := "inStart", type := (.array .int), accessFlags := 18, slot := 2, constantValue := 0 }, { name := "inSources", type := (.array .int), accessFlags := 18, slot := 3, constantValue := 0 }, { name := "outDegree", type := (.array .int), accessFlags := 18, slot := 4, constantValue := 0 }]
  methods := #[k2m0, k2m1]
  instanceTypes := #[(.object "com/example/link_importance/linkimportance/graph/PageNames"), (.object "com/example/link_importance/linkimportance/graph/PageLabels"), (.array .int), (.array .int), (.array .int)]
  staticTypes := #[]
  resolved := Array.replicate 41 none
  statics := none }

def pool3 : Array CpInfo := pool [(1, u "java/lang/Cloneable"), (0, .class_ 1), (0, u "java/lang/Object"), (0, .class_ 3)] 3

/-- java/lang/Cloneable -/
def k3 : Class := { plain "java/lang/Cloneable" (some 0) with
  accessFlags := 1537
  interfaces := #[]
  cf := some (fileOf pool3 2 #[] #[] 1537 4 #[] #[])
  fields := #[]
  methods := #[]
  instanceTypes := #[]
  staticTypes := #[]
  resolved := Array.replicate 8 none
  statics := none }

def pool4 : Array CpInfo := pool [(1, u "java/io/Serializable"), (0, .class_ 1), (0, u "java/lang/Object"), (0, .class_ 3)] 3

/-- java/io/Serializable -/
def k4 : Class := { plain "java/io/Serializable" (some 0) with
  accessFlags := 1537
  interfaces := #[]
  cf := some (fileOf pool4 2 #[] #[] 1537 4 #[] #[])
  fields := #[]
  methods := #[]
  instanceTypes := #[]
  staticTypes := #[]
  resolved := Array.replicate 8 none
  statics := none }

/-- the primitive byte -/
def k5 : Class := { plain "byte" none with kind := .primitive 'B', accessFlags := 0x411 }
/-- [B -/
def k6 : Class := { plain "[B" (some 0) with kind := .array 5 .byte, interfaces := #[3, 4], accessFlags := 1041 }

/-- the primitive int -/
def k7 : Class := { plain "int" none with kind := .primitive 'I', accessFlags := 0x411 }
/-- [I -/
def k8 : Class := { plain "[I" (some 0) with kind := .array 7 .int, interfaces := #[3, 4], accessFlags := 1041 }

def heap : Heap := #[]
def classes : Array Class := #[k0, k1, k2, k3, k4, k5, k6, k7, k8]
def interned : List (Array UInt16 × Addr) := []
def slotsUsed : Nat := 0
def theMethod : MethodId := ⟨1, 2⟩
def args0 : Array Value := #[.int 5, .int 3, .int 4, .int 5, .int 6]
def aboutOver (below : List Frame) : State where
  vm := { classes := classes, interned := interned.toArray }
  heap := heap
  slotsUsed := slotsUsed
  threads := #[{ frames := .invoking theMethod args0 :: below }]
def below0 : List Frame := [.native { method := ⟨0, 0⟩, args := #[] }]
def about1 : State := aboutOver below0
def p0 : Program := .bare "" "" ""
def e0 : Env := launch0.env 0 0 0
theorem w_frames : about1.frames = Frame.invoking theMethod args0 :: below0 := rfl
set_option maxRecDepth 65536 in
theorem w_args : argsFit about1.vm theMethod args0 = true := by decide +kernel
set_option maxRecDepth 65536 in
theorem w_heap : heapFits about1 = true := by decide +kernel
set_option maxRecDepth 65536 in
theorem w_runnable : about1.curStatus? = some .runnable := by decide +kernel
set_option maxRecDepth 65536 in
theorem w_alone : about1.alone = true := by decide +kernel
set_option maxRecDepth 65536 in
theorem w_named : about1.methodNamed? x = some theMethod := by decide +kernel
set_option maxRecDepth 65536 in
theorem w_hears : about1.hears theMethod below0 = true := by decide +kernel
set_option maxRecDepth 65536 in
theorem w_ripe : about1.ripe theMethod args0 below0 = true := by decide +kernel
theorem w_running : about1.status = .running := rfl
set_option maxRecDepth 65536 in
theorem w_room : about1.hasRoom e0.platform room_1 = true :=
  launch0.hasRoom_least _ room_1 (by decide +kernel) (by decide +kernel) (by decide +kernel) (by decide +kernel) (by decide +kernel) (by decide +kernel)
theorem allAtoms_all (ts : List Jvm.Cond) (a : Array Jvm.Value) (st : Jvm.State) : (allAtoms ts).before a st = ts.all (fun c => c.before a st) := by
  induction ts with
  | nil => rfl
  | cons c t ih =>
    show (Jvm.Cond.and c (allAtoms t)).before a st = _
    rw [Jvm.Cond.before_and, ih, List.all_cons]
def words1 : List Jvm.Cond := Jvm.Cond.code x code maxLocals ret :: tables_1
/-- a 'code' word, met by the world's own term for the bytes: nothing is compared byte by byte -/
theorem code_word {y : MethodName} {bytes : ByteArray} {mx : Nat} {rt : Option FieldType} {a : Array Value} {s : State} {m : MethodId} {meth : Method} {c : Code} (h1 : s.methodNamed? y = some m) (h2 : s.vm.method? m = some meth) (h3 : meth.code = some c) (h4 : c.code = bytes)
    (h5 : (c.maxLocals == mx && c.exceptionTable.isEmpty && decide (c.maxStack ≤ mostOperands) && decide (meth.sig.returnType = rt) && !meth.locks && decide (parseMethodDescriptor y.desc = some meth.sig)) = true) : (Jvm.Cond.code y bytes mx rt).before a s = true := by
  simp only [Bool.and_eq_true, beq_iff_eq, Bool.not_eq_true', decide_eq_true_eq] at h5
  obtain ⟨⟨⟨⟨⟨g1, g2⟩, g3⟩, g4⟩, g5⟩, g6⟩ := h5
  simp [Cond.before, Cond.holds, Cond.value, h1, h2, h3, h4, g1, g2, g3, g4, g5, g6]
def isCode : Jvm.Cond → Bool
  | .code _ _ _ _ => true
  | _ => false
theorem all_split {L : List Jvm.Cond} {P : Jvm.Cond → Bool} (h1 : L.all (fun c => isCode c || P c) = true) (h2 : ∀ c ∈ L.filter isCode, P c = true) : L.all P = true := by
  refine List.all_eq_true.mpr fun c hc => ?_
  have h := List.all_eq_true.mp h1 c hc
  rcases Bool.eq_false_or_eq_true (isCode c) with hi | hi
  · exact h2 c (List.mem_filter.mpr ⟨hc, hi⟩)
  · simpa [hi] using h
set_option maxRecDepth 65536 in
theorem w_c0 : (Jvm.Cond.code x code maxLocals ret).before args0 about1 = true := code_word (m := ⟨1, 2⟩) (meth := k1m2) (c := k1c2) (by decide +kernel) rfl rfl rfl (by decide +kernel)
set_option maxRecDepth 65536 in
theorem w_c1 : (Jvm.Cond.code ({ cls := "com/example/link_importance/linkimportance/graph/LinkGraph", name := "<init>", desc := "(Lcom/example/link_importance/linkimportance/graph/PageNames;Lcom/example/link_importance/linkimportance/graph/PageLabels;[I[I[I)V" } : Jvm.MethodName) prog_14_method_1_code (6 : Nat) (Option.none : Option Jvm.ClassFile.FieldType)).before args0 about1 = true := code_word (m := ⟨2, 0⟩) (meth := k2m0) (c := k2c0) (by decide +kernel) rfl rfl rfl (by decide +kernel)
set_option maxRecDepth 65536 in
theorem w_c2 : (Jvm.Cond.code ({ cls := "java/lang/Object", name := "<init>", desc := "()V" } : Jvm.MethodName) object_method_1_code (1 : Nat) (Option.none : Option Jvm.ClassFile.FieldType)).before args0 about1 = true := code_word (m := ⟨0, 0⟩) (meth := k0m0) (c := k0c0) (by decide +kernel) rfl rfl rfl (by decide +kernel)
set_option maxRecDepth 65536 in
theorem w_c3 : (Jvm.Cond.code ({ cls := "com/example/link_importance/linkimportance/graph/LinkGraphDanglingCountPinLaw", name := "z", desc := "(ZI)I" } : Jvm.MethodName) method_2_code (2 : Nat) (Option.some Jvm.ClassFile.FieldType.int)).before args0 about1 = true := code_word (m := ⟨1, 1⟩) (meth := k1m1) (c := k1c1) (by decide +kernel) rfl rfl rfl (by decide +kernel)
set_option maxRecDepth 65536 in
theorem w_c4 : (Jvm.Cond.code ({ cls := "com/example/link_importance/linkimportance/graph/LinkGraph", name := "danglingCount", desc := "()I" } : Jvm.MethodName) prog_14_method_6_code (6 : Nat) (Option.some Jvm.ClassFile.FieldType.int)).before args0 about1 = true := code_word (m := ⟨2, 1⟩) (meth := k2m1) (c := k2c1) (by decide +kernel) rfl rfl rfl (by decide +kernel)
def codes1 : List Jvm.Cond := [Jvm.Cond.code x code maxLocals ret, Jvm.Cond.code ({ cls := "com/example/link_importance/linkimportance/graph/LinkGraph", name := "<init>", desc := "(Lcom/example/link_importance/linkimportance/graph/PageNames;Lcom/example/link_importance/linkimportance/graph/PageLabels;[I[I[I)V" } : Jvm.MethodName) prog_14_method_1_code (6 : Nat) (Option.none : Option Jvm.ClassFile.FieldType), Jvm.Cond.code ({ cls := "java/lang/Object", name := "<init>", desc := "()V" } : Jvm.MethodName) object_method_1_code (1 : Nat) (Option.none : Option Jvm.ClassFile.FieldType), Jvm.Cond.code ({ cls := "com/example/link_importance/linkimportance/graph/LinkGraphDanglingCountPinLaw", name := "z", desc := "(ZI)I" } : Jvm.MethodName) method_2_code (2 : Nat) (Option.some Jvm.ClassFile.FieldType.int), Jvm.Cond.code ({ cls := "com/example/link_importance/linkimportance/graph/LinkGraph", name := "danglingCount", desc := "()I" } : Jvm.MethodName) prog_14_method_6_code (6 : Nat) (Option.some Jvm.ClassFile.FieldType.int)]
set_option maxRecDepth 65536 in
theorem codes_eq : words1.filter isCode = codes1 := rfl
theorem w_codes : ∀ c ∈ words1.filter isCode, c.before args0 about1 = true := by
  rw [codes_eq]
  intro c hc
  simp only [codes1, List.mem_cons, List.not_mem_nil, or_false] at hc
  rcases hc with rfl | rfl | rfl | rfl | rfl
  · exact w_c0
  · exact w_c1
  · exact w_c2
  · exact w_c3
  · exact w_c4
set_option maxRecDepth 65536 in
theorem w_t1 : (words1.take 24).all (fun c => isCode c || c.before args0 about1) = true := by decide +kernel
set_option maxRecDepth 65536 in
theorem w_t2 : (words1.drop 24).all (fun c => isCode c || c.before args0 about1) = true := by decide +kernel
theorem w_tables : (allAtoms (Jvm.Cond.code x code maxLocals ret :: tables_1)).before args0 about1 = true := by
  rw [allAtoms_all]
  show words1.all (fun c => c.before args0 about1) = true
  refine all_split ?_ w_codes
  rw [← List.take_append_drop 24 words1, List.all_append, w_t1, w_t2]
  rfl
set_option maxRecDepth 65536 in
theorem w_case : (Jvm.Cond.and given_1 narrow_1).before args0 about1 = true := by decide +kernel
theorem w_applies : (headSpec (Jvm.Cond.code x code maxLocals ret :: tables_1) room_1).applies x e0.platform about1 = true :=
  (Spec.applies_iff w_frames).mpr ⟨w_running, w_runnable, w_alone, w_named, w_hears, w_ripe, w_room, w_tables⟩
theorem atStart : AtStart classFile x code maxLocals ret World_1 tables_1 room_1 Calls_1 rest_1 Pre_1 launch0 p0 e0 about1 theMethod args0 below0 :=
  ⟨lists_1, trivial, launch0.admits_env _ _ _, launch0.least_env, fairChoices_fair.cas, fairChoices_fair.clock, w_frames, w_args, w_heap, w_applies, trivial, trivial, w_case⟩
end start1
theorem witness_1 : WitnessClaimed_1 := ⟨start1.p0, start1.e0, start1.about1, start1.theMethod, start1.args0, start1.below0, start1.atStart⟩
end Jvm.Pilot.@@N@@
