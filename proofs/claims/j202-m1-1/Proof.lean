import JvmDerived
import JvmDerived.Pilot.@@N@@Statement
import JvmDerived.Pilot.@@N@@Code
set_option linter.unusedVariables false
set_option linter.unusedSimpArgs false
namespace Jvm.Pilot.@@N@@
open Jvm Jvm.ClassFile Sem Op Lib Jvm.Free Jvm.Stand Jvm.LawKit Jvm.RoadKit Bundle Jvm.Pilot.@@N@@.Jvm.D
section OwnGo
variable {p : Program} {l : Launch} {e : Env} {R : Room} {s : State} {m : MethodId} {args : Array Value} {below : List Frame} {meth : Method} {c : Code} {T : State} {locs : List Loc} {cells slots : Nat} {Z : State} {a0 : Array Value} {h : Heap} {K : Outcome → State → Prop} {pc pc' : Nat} {Ls : Array Slot} {st : List Value}
/-- from frame g in state T the run ends as K says -/
def Goes (p : Program) (e : Env) (below : List Frame) (K : Outcome → State → Prop) (T : State) (g : JFrame) : Prop := ∃ u o, Steps p.tables e below (T.setTop g) u ∧ u.status = .running ∧ Ended u below o ∧ K o u
theorem Goes.by' {T' : State} {g g' : JFrame} (f : ∀ t, Steps p.tables e below (T'.setTop g') t → Steps p.tables e below (T.setTop g) t) (k : Goes p e below K T' g') : Goes p e below K T g := by obtain ⟨u, o, h1, h2⟩ := k; exact ⟨u, o, f _ h1, h2⟩
theorem Goes.cast {g g' : JFrame} (q : g = g') (k : Goes p e below K T g') : Goes p e below K T g := q ▸ k
/-- a callee's contract: called with as' at the heap h0 it returns v, leaves a heap and a list of written places of which Q speaks -/
abbrev Ctr (l : Launch) (Z : State) (y : MethodName) (bytes : ByteArray) (maxL : Nat) (ret : Option FieldType) (ws : List Jvm.Cond) (rm : Room) (C S : Nat) (as' : Array Value) (h0 : Heap) (Q : Option Value → Heap → List Loc → Prop) : Prop := MetFree l y (head1 (Jvm.Cond.code y bytes maxL ret :: ws) rm) (fun a U => a = as' ∧ Z.Warmed39 U.vm ∧ U.heap = h0) (fun _ _ _ _ _ => True) (fun _ U o U' => ∃ v L, o = .returned v ∧ Q v U'.heap L ∧ FrameEnd U o U' L C S)
abbrev KQ (s : State) (C S : Nat) (Q : Option Value → Heap → List Loc → Prop) : Outcome → State → Prop := fun o u => ∃ v L, o = .returned v ∧ Q v u.heap L ∧ FrameEnd s o u L C S
theorem Ctr.of {y : MethodName} {bytes : ByteArray} {maxL : Nat} {ret : Option FieldType} {ws : List Jvm.Cond} {rm : Room} {C S : Nat} {as' : Array Value} {h0 : Heap} {Q : Option Value → Heap → List Loc → Prop} (hpn : plainFor y = true)
    (body : ∀ (p : Program) (e : Env) (s : State) (m : MethodId) (below : List Frame) (meth : Method) (c : Code) (s₁ : State), p.tables.exec = Jvm.exec → c.code = bytes → c.maxLocals = maxL → s.vm.findClass y.cls = some m.cls → meth.name = y.name → meth.sig.returnType = ret → meth.locks = false → Z.Warmed39 s.vm → Stand p l e rm s m as' below meth c s₁ [] 0 0 → s₁.heap = h0 → Goes p e below (KQ s C S Q) s₁ (entryFrame m as' maxL)) :
    Ctr l Z y bytes maxL ret ws rm C S as' h0 Q := by
  refine MetFree.of_bodySF hpn hisR ?_
  intro p e s m args below meth c s₁ Bd hml0 hP hK
  obtain ⟨rfl, hZ, hh⟩ := hP
  have hlk : meth.locks = false := BodyLoose.notSynchronized Bd
  exact body p e s m below meth c s₁ Bd.exec Bd.bytes hml0 (findClass_of_methodNamed Bd.named) (name_of_methodNamed Bd.named Bd.method).1 Bd.returns hlk hZ (Stand.of_body Bd) (by rw [← hh, Bd.state]; rfl)
theorem wd {a0 : Array Value} {Z : State} {tb : List Jvm.Cond} (hw : ∀ d ∈ tb, d.before a0 Z = true) (i : Nat) {d : Jvm.Cond} (q : tb[i]? = some d) : d.before a0 Z = true := hw _ (List.mem_of_getElem? q)
theorem g_iadd (X : Stand p l e R s m args below meth c T locs cells slots) (hx : p.tables.exec = Jvm.exec) {x y : Int32} (hd : decode c.code pc = .ok (.iadd, 1))  (hp : pc + 1 = pc') (k : Goes p e below K T (mkF m pc' Ls (.int (x + y) :: st))) : Goes p e below K T (mkF m pc Ls (.int y :: .int x :: st)) := by subst hp; exact Goes.by' (fun _ q => XS.iadd X.here hx rfl hd rfl q) k
theorem g_isub (X : Stand p l e R s m args below meth c T locs cells slots) (hx : p.tables.exec = Jvm.exec) {x y : Int32} (hd : decode c.code pc = .ok (.isub, 1))  (hp : pc + 1 = pc') (k : Goes p e below K T (mkF m pc' Ls (.int (x - y) :: st))) : Goes p e below K T (mkF m pc Ls (.int y :: .int x :: st)) := by subst hp; exact Goes.by' (fun _ q => XS.isub X.here hx rfl hd rfl q) k
theorem g_iand (X : Stand p l e R s m args below meth c T locs cells slots) (hx : p.tables.exec = Jvm.exec) {x y : Int32} (hd : decode c.code pc = .ok (.iand, 1))  (hp : pc + 1 = pc') (k : Goes p e below K T (mkF m pc' Ls (.int (x &&& y) :: st))) : Goes p e below K T (mkF m pc Ls (.int y :: .int x :: st)) := by subst hp; exact Goes.by' (fun _ q => XS.iand X.here hx rfl hd rfl q) k
theorem g_imul (X : Stand p l e R s m args below meth c T locs cells slots) (hx : p.tables.exec = Jvm.exec) {x y : Int32} (hd : decode c.code pc = .ok (.imul, 1))  (hp : pc + 1 = pc') (k : Goes p e below K T (mkF m pc' Ls (.int (x * y) :: st))) : Goes p e below K T (mkF m pc Ls (.int y :: .int x :: st)) := by subst hp; exact Goes.by' (fun _ q => XS.imul X.here hx rfl hd rfl q) k
theorem g_ixor (X : Stand p l e R s m args below meth c T locs cells slots) (hx : p.tables.exec = Jvm.exec) {x y : Int32} (hd : decode c.code pc = .ok (.ixor, 1))  (hp : pc + 1 = pc') (k : Goes p e below K T (mkF m pc' Ls (.int (x ^^^ y) :: st))) : Goes p e below K T (mkF m pc Ls (.int y :: .int x :: st)) := by subst hp; exact Goes.by' (fun _ q => XT.ixor X.here hx rfl hd rfl q) k
theorem g_ior (X : Stand p l e R s m args below meth c T locs cells slots) (hx : p.tables.exec = Jvm.exec) {x y : Int32} (hd : decode c.code pc = .ok (.ior, 1))  (hp : pc + 1 = pc') (k : Goes p e below K T (mkF m pc' Ls (.int (x ||| y) :: st))) : Goes p e below K T (mkF m pc Ls (.int y :: .int x :: st)) := by subst hp; exact Goes.by' (fun _ q => XT.ior X.here hx rfl hd rfl q) k
theorem g_idiv (X : Stand p l e R s m args below meth c T locs cells slots) (hx : p.tables.exec = Jvm.exec) {x y : Int32} (hd : decode c.code pc = .ok (.idiv, 1)) (hy : y ≠ 0) (hp : pc + 1 = pc') (k : Goes p e below K T (mkF m pc' Ls (.int (x / y) :: st))) : Goes p e below K T (mkF m pc Ls (.int y :: .int x :: st)) := by subst hp; exact Goes.by' (fun _ q => XS.idiv X.here hx rfl hd rfl hy q) k
theorem g_irem (X : Stand p l e R s m args below meth c T locs cells slots) (hx : p.tables.exec = Jvm.exec) {x y : Int32} (hd : decode c.code pc = .ok (.irem, 1)) (hy : y ≠ 0) (hp : pc + 1 = pc') (k : Goes p e below K T (mkF m pc' Ls (.int (x % y) :: st))) : Goes p e below K T (mkF m pc Ls (.int y :: .int x :: st)) := by subst hp; exact Goes.by' (fun _ q => iremM X hx rfl hd rfl hy q) k
theorem g_ineg (X : Stand p l e R s m args below meth c T locs cells slots) (hx : p.tables.exec = Jvm.exec) {x : Int32} (hd : decode c.code pc = .ok (.ineg, 1))  (hp : pc + 1 = pc') (k : Goes p e below K T (mkF m pc' Ls (.int (-x) :: st))) : Goes p e below K T (mkF m pc Ls (.int x :: st)) := by subst hp; exact Goes.by' (fun _ q => XS.ineg X.here hx rfl hd rfl q) k
theorem g_ishl (X : Stand p l e R s m args below meth c T locs cells slots) (hx : p.tables.exec = Jvm.exec) {x y : Int32} (hd : decode c.code pc = .ok (.ishl, 1))  (hp : pc + 1 = pc') (k : Goes p e below K T (mkF m pc' Ls (.int (x <<< (y &&& 31)) :: st))) : Goes p e below K T (mkF m pc Ls (.int y :: .int x :: st)) := by subst hp; exact Goes.by' (fun _ q => XT.ishl X.here hx rfl hd rfl q) k
theorem g_ishr (X : Stand p l e R s m args below meth c T locs cells slots) (hx : p.tables.exec = Jvm.exec) {x y : Int32} (hd : decode c.code pc = .ok (.ishr, 1))  (hp : pc + 1 = pc') (k : Goes p e below K T (mkF m pc' Ls (.int (x >>> (y &&& 31)) :: st))) : Goes p e below K T (mkF m pc Ls (.int y :: .int x :: st)) := by subst hp; exact Goes.by' (fun _ q => XT.ishr X.here hx rfl hd rfl q) k
theorem g_iushr (X : Stand p l e R s m args below meth c T locs cells slots) (hx : p.tables.exec = Jvm.exec) {x y : Int32} (hd : decode c.code pc = .ok (.iushr, 1))  (hp : pc + 1 = pc') (k : Goes p e below K T (mkF m pc' Ls (.int (XT.ushr x y) :: st))) : Goes p e below K T (mkF m pc Ls (.int y :: .int x :: st)) := by subst hp; exact Goes.by' (fun _ q => XT.iushr X.here hx rfl hd rfl q) k
theorem g_ladd (X : Stand p l e R s m args below meth c T locs cells slots) (hx : p.tables.exec = Jvm.exec) {x y : Int64} (hd : decode c.code pc = .ok (.ladd, 1))  (hp : pc + 1 = pc') (k : Goes p e below K T (mkF m pc' Ls (.long (x + y) :: st))) : Goes p e below K T (mkF m pc Ls (.long y :: .long x :: st)) := by subst hp; exact Goes.by' (fun _ q => XT.ladd X.here hx rfl hd rfl q) k
theorem g_lsub (X : Stand p l e R s m args below meth c T locs cells slots) (hx : p.tables.exec = Jvm.exec) {x y : Int64} (hd : decode c.code pc = .ok (.lsub, 1))  (hp : pc + 1 = pc') (k : Goes p e below K T (mkF m pc' Ls (.long (x - y) :: st))) : Goes p e below K T (mkF m pc Ls (.long y :: .long x :: st)) := by subst hp; exact Goes.by' (fun _ q => XT.lsub X.here hx rfl hd rfl q) k
theorem g_lmul (X : Stand p l e R s m args below meth c T locs cells slots) (hx : p.tables.exec = Jvm.exec) {x y : Int64} (hd : decode c.code pc = .ok (.lmul, 1))  (hp : pc + 1 = pc') (k : Goes p e below K T (mkF m pc' Ls (.long (x * y) :: st))) : Goes p e below K T (mkF m pc Ls (.long y :: .long x :: st)) := by subst hp; exact Goes.by' (fun _ q => XT.lmul X.here hx rfl hd rfl q) k
theorem g_land (X : Stand p l e R s m args below meth c T locs cells slots) (hx : p.tables.exec = Jvm.exec) {x y : Int64} (hd : decode c.code pc = .ok (.land, 1))  (hp : pc + 1 = pc') (k : Goes p e below K T (mkF m pc' Ls (.long (x &&& y) :: st))) : Goes p e below K T (mkF m pc Ls (.long y :: .long x :: st)) := by subst hp; exact Goes.by' (fun _ q => XT.land X.here hx rfl hd rfl q) k
theorem g_lor (X : Stand p l e R s m args below meth c T locs cells slots) (hx : p.tables.exec = Jvm.exec) {x y : Int64} (hd : decode c.code pc = .ok (.lor, 1))  (hp : pc + 1 = pc') (k : Goes p e below K T (mkF m pc' Ls (.long (x ||| y) :: st))) : Goes p e below K T (mkF m pc Ls (.long y :: .long x :: st)) := by subst hp; exact Goes.by' (fun _ q => XT.lor X.here hx rfl hd rfl q) k
theorem g_lxor (X : Stand p l e R s m args below meth c T locs cells slots) (hx : p.tables.exec = Jvm.exec) {x y : Int64} (hd : decode c.code pc = .ok (.lxor, 1))  (hp : pc + 1 = pc') (k : Goes p e below K T (mkF m pc' Ls (.long (x ^^^ y) :: st))) : Goes p e below K T (mkF m pc Ls (.long y :: .long x :: st)) := by subst hp; exact Goes.by' (fun _ q => XT.lxor X.here hx rfl hd rfl q) k
theorem g_ldiv (X : Stand p l e R s m args below meth c T locs cells slots) (hx : p.tables.exec = Jvm.exec) {x y : Int64} (hd : decode c.code pc = .ok (.ldiv, 1)) (hy : y ≠ 0) (hp : pc + 1 = pc') (k : Goes p e below K T (mkF m pc' Ls (.long (x / y) :: st))) : Goes p e below K T (mkF m pc Ls (.long y :: .long x :: st)) := by subst hp; exact Goes.by' (fun _ q => XT.ldiv X.here hx rfl hd rfl hy q) k
theorem g_lrem (X : Stand p l e R s m args below meth c T locs cells slots) (hx : p.tables.exec = Jvm.exec) {x y : Int64} (hd : decode c.code pc = .ok (.lrem, 1)) (hy : y ≠ 0) (hp : pc + 1 = pc') (k : Goes p e below K T (mkF m pc' Ls (.long (x % y) :: st))) : Goes p e below K T (mkF m pc Ls (.long y :: .long x :: st)) := by subst hp; exact Goes.by' (fun _ q => XT.lrem X.here hx rfl hd rfl hy (by rw [lrem_mod]; exact q)) k
theorem g_lneg (X : Stand p l e R s m args below meth c T locs cells slots) (hx : p.tables.exec = Jvm.exec) {x : Int64} (hd : decode c.code pc = .ok (.lneg, 1))  (hp : pc + 1 = pc') (k : Goes p e below K T (mkF m pc' Ls (.long (-x) :: st))) : Goes p e below K T (mkF m pc Ls (.long x :: st)) := by subst hp; exact Goes.by' (fun _ q => XT.lneg X.here hx rfl hd rfl q) k
theorem g_lshl (X : Stand p l e R s m args below meth c T locs cells slots) (hx : p.tables.exec = Jvm.exec) {x : Int64} {y : Int32} (hd : decode c.code pc = .ok (.lshl, 1))  (hp : pc + 1 = pc') (k : Goes p e below K T (mkF m pc' Ls (.long (x <<< (y.toInt64 &&& 63)) :: st))) : Goes p e below K T (mkF m pc Ls (.int y :: .long x :: st)) := by subst hp; exact Goes.by' (fun _ q => XT.lshl X.here hx rfl hd rfl q) k
theorem g_lshr (X : Stand p l e R s m args below meth c T locs cells slots) (hx : p.tables.exec = Jvm.exec) {x : Int64} {y : Int32} (hd : decode c.code pc = .ok (.lshr, 1))  (hp : pc + 1 = pc') (k : Goes p e below K T (mkF m pc' Ls (.long (x >>> (y.toInt64 &&& 63)) :: st))) : Goes p e below K T (mkF m pc Ls (.int y :: .long x :: st)) := by subst hp; exact Goes.by' (fun _ q => XT.lshr X.here hx rfl hd rfl q) k
theorem g_lushr (X : Stand p l e R s m args below meth c T locs cells slots) (hx : p.tables.exec = Jvm.exec) {x : Int64} {y : Int32} (hd : decode c.code pc = .ok (.lushr, 1))  (hp : pc + 1 = pc') (k : Goes p e below K T (mkF m pc' Ls (.long (XT.ushrL x y) :: st))) : Goes p e below K T (mkF m pc Ls (.int y :: .long x :: st)) := by subst hp; exact Goes.by' (fun _ q => XT.lushr X.here hx rfl hd rfl q) k
theorem g_lcmp (X : Stand p l e R s m args below meth c T locs cells slots) (hx : p.tables.exec = Jvm.exec) {x y : Int64} (hd : decode c.code pc = .ok (.lcmp, 1))  (hp : pc + 1 = pc') (k : Goes p e below K T (mkF m pc' Ls (.int (XT.cmpL x y) :: st))) : Goes p e below K T (mkF m pc Ls (.long y :: .long x :: st)) := by subst hp; exact Goes.by' (fun _ q => XT.lcmp X.here hx rfl hd rfl q) k
theorem g_i2l (X : Stand p l e R s m args below meth c T locs cells slots) (hx : p.tables.exec = Jvm.exec) {x : Int32} (hd : decode c.code pc = .ok (.i2l, 1))  (hp : pc + 1 = pc') (k : Goes p e below K T (mkF m pc' Ls (.long x.toInt64 :: st))) : Goes p e below K T (mkF m pc Ls (.int x :: st)) := by subst hp; exact Goes.by' (fun _ q => XT.i2l X.here hx rfl hd rfl q) k
theorem g_l2i (X : Stand p l e R s m args below meth c T locs cells slots) (hx : p.tables.exec = Jvm.exec) {x : Int64} (hd : decode c.code pc = .ok (.l2i, 1))  (hp : pc + 1 = pc') (k : Goes p e below K T (mkF m pc' Ls (.int x.toInt32 :: st))) : Goes p e below K T (mkF m pc Ls (.long x :: st)) := by subst hp; exact Goes.by' (fun _ q => XT.l2i X.here hx rfl hd rfl q) k
theorem g_i2b (X : Stand p l e R s m args below meth c T locs cells slots) (hx : p.tables.exec = Jvm.exec) {x : Int32} (hd : decode c.code pc = .ok (.i2b, 1))  (hp : pc + 1 = pc') (k : Goes p e below K T (mkF m pc' Ls (.int x.toInt8.toInt32 :: st))) : Goes p e below K T (mkF m pc Ls (.int x :: st)) := by subst hp; exact Goes.by' (fun _ q => XT.i2b X.here hx rfl hd rfl q) k
theorem g_i2c (X : Stand p l e R s m args below meth c T locs cells slots) (hx : p.tables.exec = Jvm.exec) {x : Int32} (hd : decode c.code pc = .ok (.i2c, 1))  (hp : pc + 1 = pc') (k : Goes p e below K T (mkF m pc' Ls (.int x.toUInt32.toUInt16.toUInt32.toInt32 :: st))) : Goes p e below K T (mkF m pc Ls (.int x :: st)) := by subst hp; exact Goes.by' (fun _ q => XT.i2c X.here hx rfl hd rfl q) k
theorem g_i2s (X : Stand p l e R s m args below meth c T locs cells slots) (hx : p.tables.exec = Jvm.exec) {x : Int32} (hd : decode c.code pc = .ok (.i2s, 1))  (hp : pc + 1 = pc') (k : Goes p e below K T (mkF m pc' Ls (.int x.toInt16.toInt32 :: st))) : Goes p e below K T (mkF m pc Ls (.int x :: st)) := by subst hp; exact Goes.by' (fun _ q => XT.i2s X.here hx rfl hd rfl q) k
theorem g_aload_n (X : Stand p l e R s m args below meth c T locs cells slots) (hx : p.tables.exec = Jvm.exec) {i : Fin 4} {v : Value} (hd : decode c.code pc = .ok (.aload_n i, 1)) (hl : Ls[i.val]? = some (.val v)) (hv : v.isRef = true) (hp : pc + 1 = pc') (k : Goes p e below K T (mkF m pc' Ls (v :: st))) : Goes p e below K T (mkF m pc Ls (st)) := by subst hp; exact Goes.by' (fun _ q => XS.aloadN X.here hx rfl hd hl hv q) k
theorem g_aload (X : Stand p l e R s m args below meth c T locs cells slots) (hx : p.tables.exec = Jvm.exec) {i : Nat} {v : Value} (hd : decode c.code pc = .ok (.aload i, 2)) (hl : Ls[i]? = some (.val v)) (hv : v.isRef = true) (hp : pc + 2 = pc') (k : Goes p e below K T (mkF m pc' Ls (v :: st))) : Goes p e below K T (mkF m pc Ls (st)) := by subst hp; exact Goes.by' (fun _ q => XS.aload X.here hx rfl hd hl hv q) k
theorem g_iload_n (X : Stand p l e R s m args below meth c T locs cells slots) (hx : p.tables.exec = Jvm.exec) {i : Fin 4} {v : Int32} (hd : decode c.code pc = .ok (.iload_n i, 1)) (hl : Ls[i.val]? = some (.val (.int v))) (hp : pc + 1 = pc') (k : Goes p e below K T (mkF m pc' Ls (.int v :: st))) : Goes p e below K T (mkF m pc Ls (st)) := by subst hp; exact Goes.by' (fun _ q => XS.iloadN X.here hx rfl hd hl q) k
theorem g_iload (X : Stand p l e R s m args below meth c T locs cells slots) (hx : p.tables.exec = Jvm.exec) {i : Nat} {v : Int32} (hd : decode c.code pc = .ok (.iload i, 2)) (hl : Ls[i]? = some (.val (.int v))) (hp : pc + 2 = pc') (k : Goes p e below K T (mkF m pc' Ls (.int v :: st))) : Goes p e below K T (mkF m pc Ls (st)) := by subst hp; exact Goes.by' (fun _ q => XS.iload X.here hx rfl hd hl q) k
theorem g_lload_n (X : Stand p l e R s m args below meth c T locs cells slots) (hx : p.tables.exec = Jvm.exec) {i : Fin 4} {v : Int64} (hd : decode c.code pc = .ok (.lload_n i, 1)) (hl : Ls[i.val]? = some (.val (.long v))) (hp : pc + 1 = pc') (k : Goes p e below K T (mkF m pc' Ls (.long v :: st))) : Goes p e below K T (mkF m pc Ls (st)) := by subst hp; exact Goes.by' (fun _ q => XT.lloadN X.here hx rfl hd hl q) k
theorem g_lload (X : Stand p l e R s m args below meth c T locs cells slots) (hx : p.tables.exec = Jvm.exec) {i : Nat} {v : Int64} (hd : decode c.code pc = .ok (.lload i, 2)) (hl : Ls[i]? = some (.val (.long v))) (hp : pc + 2 = pc') (k : Goes p e below K T (mkF m pc' Ls (.long v :: st))) : Goes p e below K T (mkF m pc Ls (st)) := by subst hp; exact Goes.by' (fun _ q => XT.lload X.here hx rfl hd hl q) k
theorem g_iconst (X : Stand p l e R s m args below meth c T locs cells slots) (hx : p.tables.exec = Jvm.exec) {i : Int} {v : Int32} (hd : decode c.code pc = .ok (.iconst i, 1)) (hv : v = Int32.ofInt i) (hp : pc + 1 = pc') (k : Goes p e below K T (mkF m pc' Ls (.int v :: st))) : Goes p e below K T (mkF m pc Ls (st)) := by subst hp; exact Goes.by' (fun _ q => XS.iconst X.here hx rfl hd (hv ▸ q)) k
theorem g_bipush (X : Stand p l e R s m args below meth c T locs cells slots) (hx : p.tables.exec = Jvm.exec) {i : Int} {v : Int32} (hd : decode c.code pc = .ok (.bipush i, 2)) (hv : v = (Int8.ofInt i).toInt32) (hp : pc + 2 = pc') (k : Goes p e below K T (mkF m pc' Ls (.int v :: st))) : Goes p e below K T (mkF m pc Ls (st)) := by subst hp; exact Goes.by' (fun _ q => XS.bipush X.here hx rfl hd (hv ▸ q)) k
theorem g_sipush (X : Stand p l e R s m args below meth c T locs cells slots) (hx : p.tables.exec = Jvm.exec) {i : Int} {v : Int32} (hd : decode c.code pc = .ok (.sipush i, 3)) (hv : v = (Int16.ofInt i).toInt32) (hp : pc + 3 = pc') (k : Goes p e below K T (mkF m pc' Ls (.int v :: st))) : Goes p e below K T (mkF m pc Ls (st)) := by subst hp; exact Goes.by' (fun _ q => XS.sipush X.here hx rfl hd (hv ▸ q)) k
theorem g_lconst (X : Stand p l e R s m args below meth c T locs cells slots) (hx : p.tables.exec = Jvm.exec) {i : Fin 2} {v : Int64} (hd : decode c.code pc = .ok (.lconst i, 1)) (hv : v = Int64.ofNat i) (hp : pc + 1 = pc') (k : Goes p e below K T (mkF m pc' Ls (.long v :: st))) : Goes p e below K T (mkF m pc Ls (st)) := by subst hp; exact Goes.by' (fun _ q => XT.lconst X.here hx rfl hd (hv ▸ q)) k
theorem g_aconst_null (X : Stand p l e R s m args below meth c T locs cells slots) (hx : p.tables.exec = Jvm.exec)  (hd : decode c.code pc = .ok (.aconst_null, 1))  (hp : pc + 1 = pc') (k : Goes p e below K T (mkF m pc' Ls (.null :: st))) : Goes p e below K T (mkF m pc Ls (st)) := by subst hp; exact Goes.by' (fun _ q => XS.aconstNull X.here hx rfl hd q) k
theorem g_dup (X : Stand p l e R s m args below meth c T locs cells slots) (hx : p.tables.exec = Jvm.exec) {x : Value} (hd : decode c.code pc = .ok (.dup, 1)) (hc : x.category = 1) (hp : pc + 1 = pc') (k : Goes p e below K T (mkF m pc' Ls (x :: x :: st))) : Goes p e below K T (mkF m pc Ls (x :: st)) := by subst hp; exact Goes.by' (fun _ q => XS.dup X.here hx rfl hd rfl hc q) k
theorem g_pop (X : Stand p l e R s m args below meth c T locs cells slots) (hx : p.tables.exec = Jvm.exec) {x : Value} (hd : decode c.code pc = .ok (.pop, 1)) (hc : x.category = 1) (hp : pc + 1 = pc') (k : Goes p e below K T (mkF m pc' Ls (st))) : Goes p e below K T (mkF m pc Ls (x :: st)) := by subst hp; exact Goes.by' (fun _ q => XT.pop X.here hx rfl hd rfl hc q) k
theorem g_dup_x1 (X : Stand p l e R s m args below meth c T locs cells slots) (hx : p.tables.exec = Jvm.exec) {x y : Value} (hd : decode c.code pc = .ok (.dup_x1, 1)) (hc : x.category = 1) (hc' : y.category = 1) (hp : pc + 1 = pc') (k : Goes p e below K T (mkF m pc' Ls (x :: y :: x :: st))) : Goes p e below K T (mkF m pc Ls (x :: y :: st)) := by subst hp; exact Goes.by' (fun _ q => XT.dupX1 X.here hx rfl hd rfl hc hc' q) k
theorem g_dup2 (X : Stand p l e R s m args below meth c T locs cells slots) (hx : p.tables.exec = Jvm.exec) {x y : Value} (hd : decode c.code pc = .ok (.dup2, 1)) (hc : x.category = 1) (hc' : y.category = 1) (hp : pc + 1 = pc') (k : Goes p e below K T (mkF m pc' Ls (x :: y :: x :: y :: st))) : Goes p e below K T (mkF m pc Ls (x :: y :: st)) := by subst hp; exact Goes.by' (fun _ q => XT.dup2 X.here hx rfl hd rfl hc hc' q) k
theorem g_dup2L (X : Stand p l e R s m args below meth c T locs cells slots) (hx : p.tables.exec = Jvm.exec) {x : Int64} (hd : decode c.code pc = .ok (.dup2, 1))  (hp : pc + 1 = pc') (k : Goes p e below K T (mkF m pc' Ls (.long x :: .long x :: st))) : Goes p e below K T (mkF m pc Ls (.long x :: st)) := by subst hp; exact Goes.by' (fun _ q => XT.dup2L X.here hx rfl hd rfl q) k
theorem g_istore_n (X : Stand p l e R s m args below meth c T locs cells slots) (hx : p.tables.exec = Jvm.exec) {i : Fin 4} {x : Int32} (l' : Array Slot) (hd : decode c.code pc = .ok (.istore_n i, 1)) (hl : storeLocals Ls i.val (.int x) = some l') (hp : pc + 1 = pc') (k : Goes p e below K T (mkF m pc' l' (st))) : Goes p e below K T (mkF m pc Ls (.int x :: st)) := by subst hp; exact Goes.by' (fun _ q => XS.istoreN X.here hx rfl hd rfl hl q) k
theorem g_istore (X : Stand p l e R s m args below meth c T locs cells slots) (hx : p.tables.exec = Jvm.exec) {i : Nat} {x : Int32} (l' : Array Slot) (hd : decode c.code pc = .ok (.istore i, 2)) (hl : storeLocals Ls i (.int x) = some l') (hp : pc + 2 = pc') (k : Goes p e below K T (mkF m pc' l' (st))) : Goes p e below K T (mkF m pc Ls (.int x :: st)) := by subst hp; exact Goes.by' (fun _ q => XS.istore X.here hx rfl hd rfl hl q) k
theorem g_lstore_n (X : Stand p l e R s m args below meth c T locs cells slots) (hx : p.tables.exec = Jvm.exec) {i : Fin 4} {x : Int64} (l' : Array Slot) (hd : decode c.code pc = .ok (.lstore_n i, 1)) (hl : storeLocals Ls i.val (.long x) = some l') (hp : pc + 1 = pc') (k : Goes p e below K T (mkF m pc' l' (st))) : Goes p e below K T (mkF m pc Ls (.long x :: st)) := by subst hp; exact Goes.by' (fun _ q => XT.lstoreN X.here hx rfl hd rfl hl q) k
theorem g_lstore (X : Stand p l e R s m args below meth c T locs cells slots) (hx : p.tables.exec = Jvm.exec) {i : Nat} {x : Int64} (l' : Array Slot) (hd : decode c.code pc = .ok (.lstore i, 2)) (hl : storeLocals Ls i (.long x) = some l') (hp : pc + 2 = pc') (k : Goes p e below K T (mkF m pc' l' (st))) : Goes p e below K T (mkF m pc Ls (.long x :: st)) := by subst hp; exact Goes.by' (fun _ q => XT.lstore X.here hx rfl hd rfl hl q) k
theorem g_astore_n (X : Stand p l e R s m args below meth c T locs cells slots) (hx : p.tables.exec = Jvm.exec) {i : Fin 4} {x : Value} (l' : Array Slot) (hd : decode c.code pc = .ok (.astore_n i, 1)) (hv : x.isRef = true) (hl : storeLocals Ls i.val x = some l') (hp : pc + 1 = pc') (k : Goes p e below K T (mkF m pc' l' (st))) : Goes p e below K T (mkF m pc Ls (x :: st)) := by subst hp; exact Goes.by' (fun _ q => XS.astoreN X.here hx rfl hd rfl hv hl q) k
theorem g_astore (X : Stand p l e R s m args below meth c T locs cells slots) (hx : p.tables.exec = Jvm.exec) {i : Nat} {x : Value} (l' : Array Slot) (hd : decode c.code pc = .ok (.astore i, 2)) (hv : x.isRef = true) (hl : storeLocals Ls i x = some l') (hp : pc + 2 = pc') (k : Goes p e below K T (mkF m pc' l' (st))) : Goes p e below K T (mkF m pc Ls (x :: st)) := by subst hp; exact Goes.by' (fun _ q => XS.astore X.here hx rfl hd rfl hv hl q) k
theorem g_iinc (X : Stand p l e R s m args below meth c T locs cells slots) (hx : p.tables.exec = Jvm.exec) {i : Nat} {cst : Int} {x y : Int32} (l' : Array Slot) (hd : decode c.code pc = .ok (.iinc i cst, 3)) (hl : Ls[i]? = some (.val (.int x))) (hy : y = x + Int32.ofInt cst) (hl' : storeLocals Ls i (.int y) = some l') (hp : pc + 3 = pc') (k : Goes p e below K T (mkF m pc' l' (st))) : Goes p e below K T (mkF m pc Ls (st)) := by subst hp; exact Goes.by' (fun _ q => XS.iinc X.here hx rfl hd hl (hy ▸ hl') q) k
theorem g_ldcI (X : Stand p l e R s m args below meth c T locs cells slots) (hx : p.tables.exec = Jvm.exec) (hZ : Z.Warmed39 s.vm) {own : String} {ix : Nat} {v : Int32} (hown : s.vm.findClass own = some m.cls) (w : (Cond.constant own ix v).before a0 Z = true) (hd : decode c.code pc = .ok (.ldc ix, 2)) (hp : pc + 2 = pc') (k : Goes p e below K T (mkF m pc' Ls (.int v :: st))) : Goes p e below K T (mkF m pc Ls st) := by subst hp; exact Goes.by' (fun _ q => X.ldcI hx hown (mvT hZ w) rfl hd q) k
theorem g_ldcWI (X : Stand p l e R s m args below meth c T locs cells slots) (hx : p.tables.exec = Jvm.exec) (hZ : Z.Warmed39 s.vm) {own : String} {ix : Nat} {v : Int32} (hown : s.vm.findClass own = some m.cls) (w : (Cond.constant own ix v).before a0 Z = true) (hd : decode c.code pc = .ok (.ldc_w ix, 3)) (hp : pc + 3 = pc') (k : Goes p e below K T (mkF m pc' Ls (.int v :: st))) : Goes p e below K T (mkF m pc Ls st) := by subst hp; exact Goes.by' (fun _ q => X.ldcWI hx hown (mvT hZ w) rfl hd q) k
theorem g_ldc2J (X : Stand p l e R s m args below meth c T locs cells slots) (hx : p.tables.exec = Jvm.exec) (hZ : Z.Warmed39 s.vm) {own : String} {ix : Nat} {v : Int64} (hown : s.vm.findClass own = some m.cls) (w : (Cond.constantLong own ix v).before a0 Z = true) (hd : decode c.code pc = .ok (.ldc2_w ix, 3)) (hp : pc + 3 = pc') (k : Goes p e below K T (mkF m pc' Ls (.long v :: st))) : Goes p e below K T (mkF m pc Ls st) := by subst hp; exact Goes.by' (fun _ q => X.ldc2J hx hown (mvT hZ w) rfl hd q) k
theorem g_goto (X : Stand p l e R s m args below meth c T locs cells slots) (hx : p.tables.exec = Jvm.exec) {o : Int} (hd : decode c.code pc = .ok (.goto o, 3)) (ho : 0 ≤ (pc : Int) + o) (hp : ((pc : Int) + o).toNat = pc') (k : Goes p e below K T (mkF m pc' Ls st)) : Goes p e below K T (mkF m pc Ls st) := Goes.by' (fun _ q => XS.goto X.here hx rfl (pc0 := pc) (pc' := pc') rfl hd ho hp q) k
theorem icmp_iff (cd : ClassFile.Cond) (x y : Int32) : if_icmp.holds cd x y = true ↔ (match cd with | .eq => x = y | .ne => ¬ x = y | .lt => x < y | .ge => ¬ x < y | .gt => y < x | .le => ¬ y < x) := by cases cd <;> simp [if_icmp.holds, Int32.not_lt, Int32.not_le]
theorem g_icmp_eq (X : Stand p l e R s m args below meth c T locs cells slots) (hx : p.tables.exec = Jvm.exec) {x y : Int32} {o : Int} {pt : Nat} (hd : decode c.code pc = .ok (.if_icmp .eq o, 3)) (ho : 0 ≤ (pc : Int) + o) (hp : ((pc : Int) + o).toNat = pt) (hp' : pc + 3 = pc') (kt : x = y → Goes p e below K T (mkF m pt Ls st)) (kf : ¬ x = y → Goes p e below K T (mkF m pc' Ls st)) : Goes p e below K T (mkF m pc Ls (.int y :: .int x :: st)) := by
  subst hp'
  by_cases q : if_icmp.holds .eq x y = true
  · exact Goes.by' (fun _ r => XS.icmpYes X.here hx rfl (pc0 := pc) (pc' := pt) rfl hd rfl q ho hp r) (kt ((icmp_iff .eq x y).mp q))
  · exact Goes.by' (fun _ r => XS.icmpNo X.here hx rfl hd rfl (by simpa using q) r) (kf (id (mt (icmp_iff .eq x y).mpr q)))
theorem g_if_eq (X : Stand p l e R s m args below meth c T locs cells slots) (hx : p.tables.exec = Jvm.exec) {x : Int32} {o : Int} {pt : Nat} (hd : decode c.code pc = .ok (.ifCond .eq o, 3)) (ho : 0 ≤ (pc : Int) + o) (hp : ((pc : Int) + o).toNat = pt) (hp' : pc + 3 = pc') (kt : x = 0 → Goes p e below K T (mkF m pt Ls st)) (kf : ¬ x = 0 → Goes p e below K T (mkF m pc' Ls st)) : Goes p e below K T (mkF m pc Ls (.int x :: st)) := by
  subst hp'
  by_cases q : if_icmp.holds .eq x 0 = true
  · exact Goes.by' (fun _ r => XS.ifYes X.here hx rfl (pc0 := pc) (pc' := pt) rfl hd rfl (by rw [if0]; exact q) ho hp r) (kt ((icmp_iff .eq x 0).mp q))
  · exact Goes.by' (fun _ r => XS.ifNo X.here hx rfl hd rfl (by rw [if0]; simpa using q) r) (kf (id (mt (icmp_iff .eq x 0).mpr q)))
theorem g_icmp_ne (X : Stand p l e R s m args below meth c T locs cells slots) (hx : p.tables.exec = Jvm.exec) {x y : Int32} {o : Int} {pt : Nat} (hd : decode c.code pc = .ok (.if_icmp .ne o, 3)) (ho : 0 ≤ (pc : Int) + o) (hp : ((pc : Int) + o).toNat = pt) (hp' : pc + 3 = pc') (kt : ¬ x = y → Goes p e below K T (mkF m pt Ls st)) (kf : x = y → Goes p e below K T (mkF m pc' Ls st)) : Goes p e below K T (mkF m pc Ls (.int y :: .int x :: st)) := by
  subst hp'
  by_cases q : if_icmp.holds .ne x y = true
  · exact Goes.by' (fun _ r => XS.icmpYes X.here hx rfl (pc0 := pc) (pc' := pt) rfl hd rfl q ho hp r) (kt ((icmp_iff .ne x y).mp q))
  · exact Goes.by' (fun _ r => XS.icmpNo X.here hx rfl hd rfl (by simpa using q) r) (kf (Classical.not_not.mp (mt (icmp_iff .ne x y).mpr q)))
theorem g_if_ne (X : Stand p l e R s m args below meth c T locs cells slots) (hx : p.tables.exec = Jvm.exec) {x : Int32} {o : Int} {pt : Nat} (hd : decode c.code pc = .ok (.ifCond .ne o, 3)) (ho : 0 ≤ (pc : Int) + o) (hp : ((pc : Int) + o).toNat = pt) (hp' : pc + 3 = pc') (kt : ¬ x = 0 → Goes p e below K T (mkF m pt Ls st)) (kf : x = 0 → Goes p e below K T (mkF m pc' Ls st)) : Goes p e below K T (mkF m pc Ls (.int x :: st)) := by
  subst hp'
  by_cases q : if_icmp.holds .ne x 0 = true
  · exact Goes.by' (fun _ r => XS.ifYes X.here hx rfl (pc0 := pc) (pc' := pt) rfl hd rfl (by rw [if0]; exact q) ho hp r) (kt ((icmp_iff .ne x 0).mp q))
  · exact Goes.by' (fun _ r => XS.ifNo X.here hx rfl hd rfl (by rw [if0]; simpa using q) r) (kf (Classical.not_not.mp (mt (icmp_iff .ne x 0).mpr q)))
theorem g_icmp_lt (X : Stand p l e R s m args below meth c T locs cells slots) (hx : p.tables.exec = Jvm.exec) {x y : Int32} {o : Int} {pt : Nat} (hd : decode c.code pc = .ok (.if_icmp .lt o, 3)) (ho : 0 ≤ (pc : Int) + o) (hp : ((pc : Int) + o).toNat = pt) (hp' : pc + 3 = pc') (kt : x < y → Goes p e below K T (mkF m pt Ls st)) (kf : ¬ x < y → Goes p e below K T (mkF m pc' Ls st)) : Goes p e below K T (mkF m pc Ls (.int y :: .int x :: st)) := by
  subst hp'
  by_cases q : if_icmp.holds .lt x y = true
  · exact Goes.by' (fun _ r => XS.icmpYes X.here hx rfl (pc0 := pc) (pc' := pt) rfl hd rfl q ho hp r) (kt ((icmp_iff .lt x y).mp q))
  · exact Goes.by' (fun _ r => XS.icmpNo X.here hx rfl hd rfl (by simpa using q) r) (kf (id (mt (icmp_iff .lt x y).mpr q)))
theorem g_if_lt (X : Stand p l e R s m args below meth c T locs cells slots) (hx : p.tables.exec = Jvm.exec) {x : Int32} {o : Int} {pt : Nat} (hd : decode c.code pc = .ok (.ifCond .lt o, 3)) (ho : 0 ≤ (pc : Int) + o) (hp : ((pc : Int) + o).toNat = pt) (hp' : pc + 3 = pc') (kt : x < 0 → Goes p e below K T (mkF m pt Ls st)) (kf : ¬ x < 0 → Goes p e below K T (mkF m pc' Ls st)) : Goes p e below K T (mkF m pc Ls (.int x :: st)) := by
  subst hp'
  by_cases q : if_icmp.holds .lt x 0 = true
  · exact Goes.by' (fun _ r => XS.ifYes X.here hx rfl (pc0 := pc) (pc' := pt) rfl hd rfl (by rw [if0]; exact q) ho hp r) (kt ((icmp_iff .lt x 0).mp q))
  · exact Goes.by' (fun _ r => XS.ifNo X.here hx rfl hd rfl (by rw [if0]; simpa using q) r) (kf (id (mt (icmp_iff .lt x 0).mpr q)))
theorem g_icmp_ge (X : Stand p l e R s m args below meth c T locs cells slots) (hx : p.tables.exec = Jvm.exec) {x y : Int32} {o : Int} {pt : Nat} (hd : decode c.code pc = .ok (.if_icmp .ge o, 3)) (ho : 0 ≤ (pc : Int) + o) (hp : ((pc : Int) + o).toNat = pt) (hp' : pc + 3 = pc') (kt : ¬ x < y → Goes p e below K T (mkF m pt Ls st)) (kf : x < y → Goes p e below K T (mkF m pc' Ls st)) : Goes p e below K T (mkF m pc Ls (.int y :: .int x :: st)) := by
  subst hp'
  by_cases q : if_icmp.holds .ge x y = true
  · exact Goes.by' (fun _ r => XS.icmpYes X.here hx rfl (pc0 := pc) (pc' := pt) rfl hd rfl q ho hp r) (kt ((icmp_iff .ge x y).mp q))
  · exact Goes.by' (fun _ r => XS.icmpNo X.here hx rfl hd rfl (by simpa using q) r) (kf (Classical.not_not.mp (mt (icmp_iff .ge x y).mpr q)))
theorem g_if_ge (X : Stand p l e R s m args below meth c T locs cells slots) (hx : p.tables.exec = Jvm.exec) {x : Int32} {o : Int} {pt : Nat} (hd : decode c.code pc = .ok (.ifCond .ge o, 3)) (ho : 0 ≤ (pc : Int) + o) (hp : ((pc : Int) + o).toNat = pt) (hp' : pc + 3 = pc') (kt : ¬ x < 0 → Goes p e below K T (mkF m pt Ls st)) (kf : x < 0 → Goes p e below K T (mkF m pc' Ls st)) : Goes p e below K T (mkF m pc Ls (.int x :: st)) := by
  subst hp'
  by_cases q : if_icmp.holds .ge x 0 = true
  · exact Goes.by' (fun _ r => XS.ifYes X.here hx rfl (pc0 := pc) (pc' := pt) rfl hd rfl (by rw [if0]; exact q) ho hp r) (kt ((icmp_iff .ge x 0).mp q))
  · exact Goes.by' (fun _ r => XS.ifNo X.here hx rfl hd rfl (by rw [if0]; simpa using q) r) (kf (Classical.not_not.mp (mt (icmp_iff .ge x 0).mpr q)))
theorem g_icmp_gt (X : Stand p l e R s m args below meth c T locs cells slots) (hx : p.tables.exec = Jvm.exec) {x y : Int32} {o : Int} {pt : Nat} (hd : decode c.code pc = .ok (.if_icmp .gt o, 3)) (ho : 0 ≤ (pc : Int) + o) (hp : ((pc : Int) + o).toNat = pt) (hp' : pc + 3 = pc') (kt : y < x → Goes p e below K T (mkF m pt Ls st)) (kf : ¬ y < x → Goes p e below K T (mkF m pc' Ls st)) : Goes p e below K T (mkF m pc Ls (.int y :: .int x :: st)) := by
  subst hp'
  by_cases q : if_icmp.holds .gt x y = true
  · exact Goes.by' (fun _ r => XS.icmpYes X.here hx rfl (pc0 := pc) (pc' := pt) rfl hd rfl q ho hp r) (kt ((icmp_iff .gt x y).mp q))
  · exact Goes.by' (fun _ r => XS.icmpNo X.here hx rfl hd rfl (by simpa using q) r) (kf (id (mt (icmp_iff .gt x y).mpr q)))
theorem g_if_gt (X : Stand p l e R s m args below meth c T locs cells slots) (hx : p.tables.exec = Jvm.exec) {x : Int32} {o : Int} {pt : Nat} (hd : decode c.code pc = .ok (.ifCond .gt o, 3)) (ho : 0 ≤ (pc : Int) + o) (hp : ((pc : Int) + o).toNat = pt) (hp' : pc + 3 = pc') (kt : 0 < x → Goes p e below K T (mkF m pt Ls st)) (kf : ¬ 0 < x → Goes p e below K T (mkF m pc' Ls st)) : Goes p e below K T (mkF m pc Ls (.int x :: st)) := by
  subst hp'
  by_cases q : if_icmp.holds .gt x 0 = true
  · exact Goes.by' (fun _ r => XS.ifYes X.here hx rfl (pc0 := pc) (pc' := pt) rfl hd rfl (by rw [if0]; exact q) ho hp r) (kt ((icmp_iff .gt x 0).mp q))
  · exact Goes.by' (fun _ r => XS.ifNo X.here hx rfl hd rfl (by rw [if0]; simpa using q) r) (kf (id (mt (icmp_iff .gt x 0).mpr q)))
theorem g_icmp_le (X : Stand p l e R s m args below meth c T locs cells slots) (hx : p.tables.exec = Jvm.exec) {x y : Int32} {o : Int} {pt : Nat} (hd : decode c.code pc = .ok (.if_icmp .le o, 3)) (ho : 0 ≤ (pc : Int) + o) (hp : ((pc : Int) + o).toNat = pt) (hp' : pc + 3 = pc') (kt : ¬ y < x → Goes p e below K T (mkF m pt Ls st)) (kf : y < x → Goes p e below K T (mkF m pc' Ls st)) : Goes p e below K T (mkF m pc Ls (.int y :: .int x :: st)) := by
  subst hp'
  by_cases q : if_icmp.holds .le x y = true
  · exact Goes.by' (fun _ r => XS.icmpYes X.here hx rfl (pc0 := pc) (pc' := pt) rfl hd rfl q ho hp r) (kt ((icmp_iff .le x y).mp q))
  · exact Goes.by' (fun _ r => XS.icmpNo X.here hx rfl hd rfl (by simpa using q) r) (kf (Classical.not_not.mp (mt (icmp_iff .le x y).mpr q)))
theorem g_if_le (X : Stand p l e R s m args below meth c T locs cells slots) (hx : p.tables.exec = Jvm.exec) {x : Int32} {o : Int} {pt : Nat} (hd : decode c.code pc = .ok (.ifCond .le o, 3)) (ho : 0 ≤ (pc : Int) + o) (hp : ((pc : Int) + o).toNat = pt) (hp' : pc + 3 = pc') (kt : ¬ 0 < x → Goes p e below K T (mkF m pt Ls st)) (kf : 0 < x → Goes p e below K T (mkF m pc' Ls st)) : Goes p e below K T (mkF m pc Ls (.int x :: st)) := by
  subst hp'
  by_cases q : if_icmp.holds .le x 0 = true
  · exact Goes.by' (fun _ r => XS.ifYes X.here hx rfl (pc0 := pc) (pc' := pt) rfl hd rfl (by rw [if0]; exact q) ho hp r) (kt ((icmp_iff .le x 0).mp q))
  · exact Goes.by' (fun _ r => XS.ifNo X.here hx rfl hd rfl (by rw [if0]; simpa using q) r) (kf (Classical.not_not.mp (mt (icmp_iff .le x 0).mpr q)))
theorem g_ifnull_t (X : Stand p l e R s m args below meth c T locs cells slots) (hx : p.tables.exec = Jvm.exec) {o : Int} {pt : Nat} (hd : decode c.code pc = .ok (.ifnull o, 3)) (ho : 0 ≤ (pc : Int) + o) (hp : ((pc : Int) + o).toNat = pt) (k : Goes p e below K T (mkF m pt Ls st)) : Goes p e below K T (mkF m pc Ls (.null :: st)) := Goes.by' (fun _ r => XS.ifnullYes X.here hx rfl (pc0 := pc) (pc' := pt) rfl hd rfl ho hp r) k
theorem g_ifnull_f (X : Stand p l e R s m args below meth c T locs cells slots) (hx : p.tables.exec = Jvm.exec) {o : Int} {a : Addr} (hd : decode c.code pc = .ok (.ifnull o, 3)) (hp : pc + 3 = pc') (k : Goes p e below K T (mkF m pc' Ls st)) : Goes p e below K T (mkF m pc Ls (.ref a :: st)) := by subst hp; exact Goes.by' (fun _ r => XS.ifnullNo X.here hx rfl hd rfl r) k
theorem g_ifnonnull_t (X : Stand p l e R s m args below meth c T locs cells slots) (hx : p.tables.exec = Jvm.exec) {o : Int} {a : Addr} {pt : Nat} (hd : decode c.code pc = .ok (.ifnonnull o, 3)) (ho : 0 ≤ (pc : Int) + o) (hp : ((pc : Int) + o).toNat = pt) (k : Goes p e below K T (mkF m pt Ls st)) : Goes p e below K T (mkF m pc Ls (.ref a :: st)) := Goes.by' (fun _ r => XT.ifnonnullYes X.here hx rfl (pc0 := pc) (pc' := pt) rfl hd rfl ho hp r) k
theorem g_ifnonnull_f (X : Stand p l e R s m args below meth c T locs cells slots) (hx : p.tables.exec = Jvm.exec) {o : Int} (hd : decode c.code pc = .ok (.ifnonnull o, 3)) (hp : pc + 3 = pc') (k : Goes p e below K T (mkF m pc' Ls st)) : Goes p e below K T (mkF m pc Ls (.null :: st)) := by subst hp; exact Goes.by' (fun _ r => XT.ifnonnullNo X.here hx rfl hd rfl r) k
theorem g_acmp_eq (X : Stand p l e R s m args below meth c T locs cells slots) (hx : p.tables.exec = Jvm.exec) {x y : Value} {o : Int} {pt : Nat} (hd : decode c.code pc = .ok (.if_acmp .eq o, 3)) (hx' : x.isRef = true) (hy' : y.isRef = true) (ho : 0 ≤ (pc : Int) + o) (hp : ((pc : Int) + o).toNat = pt) (hp' : pc + 3 = pc') (kt : x = y → Goes p e below K T (mkF m pt Ls st)) (kf : ¬ x = y → Goes p e below K T (mkF m pc' Ls st)) : Goes p e below K T (mkF m pc Ls (y :: x :: st)) := by
  subst hp'
  by_cases q : x = y
  · exact Goes.by' (fun _ r => XT.acmpYes X.here hx rfl (pc0 := pc) (pc' := pt) rfl hd rfl hx' hy' (by simp [XT.acmp, q]) ho hp r) (kt q)
  · exact Goes.by' (fun _ r => XT.acmpNo X.here hx rfl hd rfl hx' hy' (by simp [XT.acmp, q]) r) (kf q)
theorem g_acmp_ne (X : Stand p l e R s m args below meth c T locs cells slots) (hx : p.tables.exec = Jvm.exec) {x y : Value} {o : Int} {pt : Nat} (hd : decode c.code pc = .ok (.if_acmp .ne o, 3)) (hx' : x.isRef = true) (hy' : y.isRef = true) (ho : 0 ≤ (pc : Int) + o) (hp : ((pc : Int) + o).toNat = pt) (hp' : pc + 3 = pc') (kt : ¬ x = y → Goes p e below K T (mkF m pt Ls st)) (kf : x = y → Goes p e below K T (mkF m pc' Ls st)) : Goes p e below K T (mkF m pc Ls (y :: x :: st)) := by
  subst hp'
  by_cases q : x = y
  · exact Goes.by' (fun _ r => XT.acmpNo X.here hx rfl hd rfl hx' hy' (by simp [XT.acmp, q]) r) (kf q)
  · exact Goes.by' (fun _ r => XT.acmpYes X.here hx rfl (pc0 := pc) (pc' := pt) rfl hd rfl hx' hy' (by simp [XT.acmp, q]) ho hp r) (kt q)
theorem g_lsw (X : Stand p l e R s m args below meth c T locs cells slots) (hx : p.tables.exec = Jvm.exec) {i : Int32} {dflt o : Int} {prs : Array (Int × Int)} {len pt : Nat} (hd : decode c.code pc = .ok (.lookupswitch dflt prs, len)) (hso : ∀ (a b a_1 b_1 : Int), ((a, b), a_1, b_1) ∈ prs.toList.zip prs.toList.tail → a < a_1) (hoff : lookupswitch.offset prs.toList dflt i.toInt = o) (ho : 0 ≤ (pc : Int) + o) (hp : ((pc : Int) + o).toNat = pt) (k : Goes p e below K T (mkF m pt Ls st)) : Goes p e below K T (mkF m pc Ls (.int i :: st)) := by
  subst hp
  refine Goes.by' (fun t q => ?_) k
  show Steps p.tables e below (T.setTop { method := m, pc := pc, locals := Ls, stack := .int i :: st, locked := none }) t
  jvm_step X.here [X.here.top, hx, hd, lookupswitch.wp_chain, hoff, ho]
  exact ⟨hso, q⟩
theorem g_tsw (X : Stand p l e R s m args below meth c T locs cells slots) (hx : p.tables.exec = Jvm.exec) {i : Int32} {dflt lo hi o : Int} {offs : Array Int} {len pt : Nat} (hd : decode c.code pc = .ok (.tableswitch dflt lo hi offs, len)) (hin : ¬ (i.toInt < lo ∨ i.toInt > hi)) (hoff : offs[(i.toInt - lo).toNat]? = some o) (ho : 0 ≤ (pc : Int) + o) (hp : ((pc : Int) + o).toNat = pt) (k : Goes p e below K T (mkF m pt Ls st)) : Goes p e below K T (mkF m pc Ls (.int i :: st)) := Goes.by' (fun _ q => XS.tswIn X.here hx rfl (pc0 := pc) (pc' := pt) rfl hd rfl hin hoff ho hp q) k
theorem g_tswD (X : Stand p l e R s m args below meth c T locs cells slots) (hx : p.tables.exec = Jvm.exec) {i : Int32} {dflt lo hi : Int} {offs : Array Int} {len pt : Nat} (hd : decode c.code pc = .ok (.tableswitch dflt lo hi offs, len)) (hout : i.toInt < lo ∨ i.toInt > hi) (ho : 0 ≤ (pc : Int) + dflt) (hp : ((pc : Int) + dflt).toNat = pt) (k : Goes p e below K T (mkF m pt Ls st)) : Goes p e below K T (mkF m pc Ls (.int i :: st)) := Goes.by' (fun _ q => XS.tswOut X.here hx rfl (pc0 := pc) (pc' := pt) rfl hd rfl hout ho hp q) k
theorem g_getF (X : Stand p l e R s m args below meth c T locs cells slots) (hx : p.tables.exec = Jvm.exec) (hZ : Z.Warmed39 s.vm) {own O n d : String} {ix : Nat} {a : Addr} {v : Value} (hown : s.vm.findClass own = some m.cls) (w : (Cond.fieldLink own ix O n d).before a0 Z = true) (eT : T.heap = h) (F : Fld Z h a O n d v) (hd : decode c.code pc = .ok (.getfield ix, 3)) (hp : pc + 3 = pc') (k : ∀ T', Stand p l e R s m args below meth c T' locs cells slots → T'.heap = h → Goes p e below K T' (mkF m pc' Ls (v :: st))) : Goes p e below K T (mkF m pc Ls (.ref a :: st)) := by
  subst hp
  obtain ⟨T1, X1, e1, f1⟩ := getF X hx hZ hown (host := "") (Or.inl w) Via.refl eT F (g := mkF m pc Ls (.ref a :: st)) rfl rfl hd
  exact Goes.by' f1 (k T1 X1 e1)
theorem g_getS (X : Stand p l e R s m args below meth c T locs cells slots) (hx : p.tables.exec = Jvm.exec) (hZ : Z.Warmed39 s.vm) {own O n d : String} {ix : Nat} {v : Value} (hown : s.vm.findClass own = some m.cls) (w : (Cond.fieldLink own ix O n d).before a0 Z = true) (eT : T.heap = h) (F : Sta Z h O n d v) (hd : decode c.code pc = .ok (.getstatic ix, 3)) (hp : pc + 3 = pc') (k : ∀ T', Stand p l e R s m args below meth c T' locs cells slots → T'.heap = h → Goes p e below K T' (mkF m pc' Ls (v :: st))) : Goes p e below K T (mkF m pc Ls st) := by
  subst hp
  obtain ⟨T1, X1, e1, f1⟩ := getS X hx hZ hown (host := "") w Via.refl eT F (g := mkF m pc Ls st) rfl hd
  exact Goes.by' f1 (k T1 X1 e1)
theorem g_putF (X : Stand p l e R s m args below meth c T locs cells slots) (hx : p.tables.exec = Jvm.exec) (hZ : Z.Warmed39 s.vm) {own O n d C : String} {ix kk : Nat} {ty : FieldType} {a : Addr} {v old : Value} (hown : s.vm.findClass own = some m.cls) (w : (Cond.fieldLink own ix O n d).before a0 Z = true) (eT : T.heap = h) (F : Fld Z h a O n d old) (E : Exa Z h a C) (L : (Cond.lays C O n d).before a0 Z = true ∨ ((Cond.laysFinal C O n d).before a0 Z = true ∧ own = O ∧ meth.name = "<init>")) (wi : (Cond.instantiable C kk).before a0 Z = true) (hty : parseFieldDescriptor d = some ty) (hn : narrow ty v = v) (hf : fits ty v = true) (hd : decode c.code pc = .ok (.putfield ix, 3)) (hp : pc + 3 = pc') (k : ∀ T' h', Stand p l e R s m args below meth c T' (locs ++ [⟨a, Jvm.RoadKit.slotOf Z O n d⟩]) cells slots → T'.heap = h' → Wr h h' a (Jvm.RoadKit.slotOf Z O n d) v → Goes p e below K T' (mkF m pc' Ls st)) : Goes p e below K T (mkF m pc Ls (v :: .ref a :: st)) := by
  subst hp
  obtain ⟨T1, h1, X1, e1, W1, f1⟩ := putF X hx hZ hown (host := "") (Or.inl w) Via.refl eT F E L wi hty hn hf (g := mkF m pc Ls (v :: .ref a :: st)) rfl rfl hd
  exact Goes.by' f1 (k T1 h1 X1 e1 W1)
theorem g_new (X : Stand p l e R s m args below meth c T locs cells slots) (hx : p.tables.exec = Jvm.exec) (hZ : Z.Warmed39 s.vm) {own C : String} {ix n : Nat} (hown : s.vm.findClass own = some m.cls) (w : (Cond.classLink own ix C).before a0 Z = true) (wi : (Cond.instantiable C n).before a0 Z = true) (wz : (Cond.initialized C).before a0 Z = true) (eT : T.heap = h) (hd : decode c.code pc = .ok (.new ix, 3)) (hp : pc + 3 = pc') (hc : cells + 1 ≤ R.cells) (hl : slots + n ≤ R.slots) (k : ∀ T' h' a, Stand p l e R s m args below meth c T' locs (cells + 1) (slots + n) → T'.heap = h' → a = h.size → Ext h h' → Exa Z h' a C → (∀ {O nm d : String} {ty : FieldType}, Laid Z a0 C O nm d → parseFieldDescriptor d = some ty → Fld Z h' a O nm d (defaultValue ty)) → Goes p e below K T' (mkF m pc' Ls (.ref a :: st))) : Goes p e below K T (mkF m pc Ls st) := by
  subst hp
  obtain ⟨T1, h1, X1, e1, E1, A1, D1, -, f1⟩ := newO X hx hZ hown w wi wz eT (g := mkF m pc Ls st) rfl hd hc hl
  exact Goes.by' f1 (k T1 h1 _ X1 e1 rfl E1 A1 D1)
theorem g_newarr (X : Stand p l e R s m args below meth c T locs cells slots) (hx : p.tables.exec = Jvm.exec) (hZ : Z.Warmed39 s.vm) {aty : ArrayType} {ty : FieldType} (hty : newarray.typeOf aty = ty) (w : (Cond.arrayClass ty).before a0 Z = true) (eT : T.heap = h) {n : Int32} (hd : decode c.code pc = .ok (.newarray aty, 2)) (hp : pc + 2 = pc') (hn : ¬ n < 0) (cap : Nat) (hcap : n.toNatClampNeg ≤ cap) (hb : cap * 8 ≤ 536870912) (hc : cells + 1 ≤ R.cells) (hl : slots + cap ≤ R.slots) (k : ∀ T' h' cA a, Stand p l e R s m args below meth c T' locs (cells + 1) (slots + cap) → T'.heap = h' → a = h.size → Ext h h' → Arr Z h' a (newA cA ty n) ty → Goes p e below K T' (mkF m pc' Ls (.ref a :: st))) : Goes p e below K T (mkF m pc Ls (.int n :: st)) := by
  subst hp hty
  obtain ⟨T1, h1, cA, X1, e1, E1, A1, f1⟩ := newP X hx hZ w eT (g := mkF m pc Ls (.int n :: st)) rfl hd rfl hn hcap hb hc hl
  exact Goes.by' f1 (k T1 h1 cA _ X1 e1 rfl E1 A1)
theorem g_newR (X : Stand p l e R s m args below meth c T locs cells slots) (hx : p.tables.exec = Jvm.exec) (hZ : Z.Warmed39 s.vm) {own C : String} {ix : Nat} (hown : s.vm.findClass own = some m.cls) (w1 : (Cond.classLink own ix C).before a0 Z = true) (w2 : (Cond.arrayOver (.object C)).before a0 Z = true) (eT : T.heap = h) {n : Int32} (hd : decode c.code pc = .ok (.anewarray ix, 3)) (hp : pc + 3 = pc') (hn : ¬ n < 0) (cap : Nat) (hcap : n.toNatClampNeg ≤ cap) (hb : cap * 8 ≤ 536870912) (hc : cells + 1 ≤ R.cells) (hl : slots + cap ≤ R.slots) (k : ∀ T' h' cA a, Stand p l e R s m args below meth c T' locs (cells + 1) (slots + cap) → T'.heap = h' → a = h.size → Ext h h' → Arr Z h' a (newA cA (.object C) n) (.object C) → Ovr Z cA C → Goes p e below K T' (mkF m pc' Ls (.ref a :: st))) : Goes p e below K T (mkF m pc Ls (.int n :: st)) := by
  subst hp
  obtain ⟨T1, h1, cA, X1, e1, E1, A1, O1, f1⟩ := newR X hx hZ hown w1 w2 eT (g := mkF m pc Ls (.int n :: st)) rfl hd rfl hn hcap hb hc hl
  exact Goes.by' f1 (k T1 h1 cA _ X1 e1 rfl E1 A1 O1)
theorem g_initO (X : Stand p l e R s m args below meth c T locs cells slots) (hx : p.tables.exec = Jvm.exec) (hZ : Z.Warmed39 s.vm) {own : String} {ix : Nat} {a : Addr} (hown : s.vm.findClass own = some m.cls) (w1 : (Cond.methodLink own ix Lib.objectInit).before a0 Z = true) (w2 : (Cond.instanceMethod Lib.objectInit).before a0 Z = true) (w3 : (Cond.code Lib.objectInit ⟨#[0xb1]⟩ 1 none).before a0 Z = true) (eT : T.heap = h) (hsz : Ls.size = c.maxLocals) (hd : decode c.code pc = .ok (.invokespecial ix, 3)) (hp : pc + 3 = pc') (hf : 1 ≤ R.frames) (hl : (st.map fun v => v.category).sum + 12 ≤ R.locals) (k : ∀ T', Stand p l e R s m args below meth c T' locs cells slots → T'.heap = h → Goes p e below K T' (mkF m pc' Ls st)) : Goes p e below K T (mkF m pc Ls (.ref a :: st)) := by
  subst hp
  obtain ⟨T1, X1, e1, f1⟩ := initO X hx hZ hown w1 w2 w3 eT (g := mkF m pc Ls (.ref a :: st)) rfl hsz rfl hd hf (W := (st.map fun v => v.category).sum) (by show 2 * 0 + _ ≤ _; omega) hl
  exact Goes.by' f1 (k T1 X1 e1)
theorem g_iaload (X : Stand p l e R s m args below meth c T locs cells slots) (hx : p.tables.exec = Jvm.exec) (hZ : Z.Warmed39 s.vm) (eT : T.heap = h) {a : Addr} {cl : Cell} {j : Int32} {v : Value} (A : Arr Z h a cl .int) (hin : ¬ (j < 0 ∨ cl.slots.size ≤ j.toNatClampNeg)) (hat : cl.slots[j.toNatClampNeg]? = some v) (hd : decode c.code pc = .ok (.iaload, 1)) (hp : pc + 1 = pc') (k : Goes p e below K T (mkF m pc' Ls (v :: st))) : Goes p e below K T (mkF m pc Ls (.int j :: .ref a :: st)) := by
  subst hp
  exact Goes.by' (fun _ q => X.iaload hx (j := j) (v := v) (by rw [eT]; exact A.1) (State.isArrayOf_alike hZ.alike A.2.1) A.2.2 hin hat (g := mkF m pc Ls (.int j :: .ref a :: st)) rfl rfl hd _ q) k
theorem g_laload (X : Stand p l e R s m args below meth c T locs cells slots) (hx : p.tables.exec = Jvm.exec) (hZ : Z.Warmed39 s.vm) (eT : T.heap = h) {a : Addr} {cl : Cell} {j : Int32} {v : Value} (A : Arr Z h a cl .long) (hin : ¬ (j < 0 ∨ cl.slots.size ≤ j.toNatClampNeg)) (hat : cl.slots[j.toNatClampNeg]? = some v) (hd : decode c.code pc = .ok (.laload, 1)) (hp : pc + 1 = pc') (k : Goes p e below K T (mkF m pc' Ls (v :: st))) : Goes p e below K T (mkF m pc Ls (.int j :: .ref a :: st)) := by
  subst hp
  exact Goes.by' (fun _ q => X.laload hx (j := j) (v := v) (by rw [eT]; exact A.1) (State.isArrayOf_alike hZ.alike A.2.1) A.2.2 hin hat (g := mkF m pc Ls (.int j :: .ref a :: st)) rfl rfl hd _ q) k
theorem g_caload (X : Stand p l e R s m args below meth c T locs cells slots) (hx : p.tables.exec = Jvm.exec) (hZ : Z.Warmed39 s.vm) (eT : T.heap = h) {a : Addr} {cl : Cell} {j : Int32} {v : Value} (A : Arr Z h a cl .char) (hin : ¬ (j < 0 ∨ cl.slots.size ≤ j.toNatClampNeg)) (hat : cl.slots[j.toNatClampNeg]? = some v) (hd : decode c.code pc = .ok (.caload, 1)) (hp : pc + 1 = pc') (k : Goes p e below K T (mkF m pc' Ls (v :: st))) : Goes p e below K T (mkF m pc Ls (.int j :: .ref a :: st)) := by
  subst hp
  exact Goes.by' (fun _ q => X.caload hx (j := j) (v := v) (by rw [eT]; exact A.1) (State.isArrayOf_alike hZ.alike A.2.1) A.2.2 hin hat (g := mkF m pc Ls (.int j :: .ref a :: st)) rfl rfl hd _ q) k
theorem g_baload (X : Stand p l e R s m args below meth c T locs cells slots) (hx : p.tables.exec = Jvm.exec) (hZ : Z.Warmed39 s.vm) (eT : T.heap = h) {a : Addr} {cl : Cell} {j : Int32} {v : Value} (A : Arr Z h a cl .byte) (hin : ¬ (j < 0 ∨ cl.slots.size ≤ j.toNatClampNeg)) (hat : cl.slots[j.toNatClampNeg]? = some v) (hd : decode c.code pc = .ok (.baload, 1)) (hp : pc + 1 = pc') (k : Goes p e below K T (mkF m pc' Ls (v :: st))) : Goes p e below K T (mkF m pc Ls (.int j :: .ref a :: st)) := by
  subst hp
  exact Goes.by' (fun _ q => X.baloadBytes hx (j := j) (v := v) (by rw [eT]; exact A.1) (State.isArrayOf_alike hZ.alike A.2.1) A.2.2 hin hat (g := mkF m pc Ls (.int j :: .ref a :: st)) rfl rfl hd _ q) k
theorem g_aaload (X : Stand p l e R s m args below meth c T locs cells slots) (hx : p.tables.exec = Jvm.exec) (hZ : Z.Warmed39 s.vm) (eT : T.heap = h) {a : Addr} {cl : Cell} {ty : FieldType} {j : Int32} {v : Value} (A : Arr Z h a cl ty) (hty : ty.isReference = true) (hin : ¬ (j < 0 ∨ cl.slots.size ≤ j.toNatClampNeg)) (hat : cl.slots[j.toNatClampNeg]? = some v) (hd : decode c.code pc = .ok (.aaload, 1)) (hp : pc + 1 = pc') (k : Goes p e below K T (mkF m pc' Ls (v :: st))) : Goes p e below K T (mkF m pc Ls (.int j :: .ref a :: st)) := by
  subst hp
  exact Goes.by' (fun _ q => X.aaload hx (j := j) (v := v) (by rw [eT]; exact A.1) (State.isArrayOf_alike hZ.alike A.2.1) hty A.2.2 hin hat (g := mkF m pc Ls (.int j :: .ref a :: st)) rfl rfl hd _ q) k
theorem g_arraylength (X : Stand p l e R s m args below meth c T locs cells slots) (hx : p.tables.exec = Jvm.exec) (hZ : Z.Warmed39 s.vm) (eT : T.heap = h) {a : Addr} {cl : Cell} {ty : FieldType} {n : Int32} (A : Arr Z h a cl ty) (hn : cl.slots.size.toInt32 = n) (hd : decode c.code pc = .ok (.arraylength, 1)) (hp : pc + 1 = pc') (k : Goes p e below K T (mkF m pc' Ls (.int n :: st))) : Goes p e below K T (mkF m pc Ls (.ref a :: st)) := by
  subst hp hn
  exact Goes.by' (fun _ q => X.arraylength hx (by rw [eT]; exact A.1) (State.isArrayOf_alike hZ.alike A.2.1) (g := mkF m pc Ls (.ref a :: st)) rfl rfl hd _ q) k
theorem g_iastore (X : Stand p l e R s m args below meth c T locs cells slots) (hx : p.tables.exec = Jvm.exec) (hZ : Z.Warmed39 s.vm) (eT : T.heap = h) {a : Addr} {cl : Cell} {j : Int32} {x : Int32} (A : Arr Z h a cl .int) (hin : ¬ (j < 0 ∨ cl.slots.size ≤ j.toNatClampNeg)) (hd : decode c.code pc = .ok (.iastore, 1)) (hp : pc + 1 = pc') (k : ∀ T' h', Stand p l e R s m args below meth c T' (locs ++ [⟨a, j.toNatClampNeg⟩]) cells slots → T'.heap = h' → Wr h h' a j.toNatClampNeg (.int x) → Goes p e below K T' (mkF m pc' Ls st)) : Goes p e below K T (mkF m pc Ls (.int x :: .int j :: .ref a :: st)) := by
  subst hp
  obtain ⟨T1, h1, X1, e1, W1, f1⟩ := stI X hx hZ eT A hin (g := mkF m pc Ls (.int x :: .int j :: .ref a :: st)) rfl rfl hd
  exact Goes.by' f1 (k T1 h1 X1 e1 W1)
theorem g_lastore (X : Stand p l e R s m args below meth c T locs cells slots) (hx : p.tables.exec = Jvm.exec) (hZ : Z.Warmed39 s.vm) (eT : T.heap = h) {a : Addr} {cl : Cell} {j : Int32} {x : Int64} (A : Arr Z h a cl .long) (hin : ¬ (j < 0 ∨ cl.slots.size ≤ j.toNatClampNeg)) (hd : decode c.code pc = .ok (.lastore, 1)) (hp : pc + 1 = pc') (k : ∀ T' h', Stand p l e R s m args below meth c T' (locs ++ [⟨a, j.toNatClampNeg⟩]) cells slots → T'.heap = h' → Wr h h' a j.toNatClampNeg (.long x) → Goes p e below K T' (mkF m pc' Ls st)) : Goes p e below K T (mkF m pc Ls (.long x :: .int j :: .ref a :: st)) := by
  subst hp
  obtain ⟨T1, h1, X1, e1, W1, f1⟩ := stJ X hx hZ eT A hin (g := mkF m pc Ls (.long x :: .int j :: .ref a :: st)) rfl rfl hd
  exact Goes.by' f1 (k T1 h1 X1 e1 W1)
theorem g_castore (X : Stand p l e R s m args below meth c T locs cells slots) (hx : p.tables.exec = Jvm.exec) (hZ : Z.Warmed39 s.vm) (eT : T.heap = h) {a : Addr} {cl : Cell} {j : Int32} {x : Int32} (A : Arr Z h a cl .char) (hin : ¬ (j < 0 ∨ cl.slots.size ≤ j.toNatClampNeg)) (hd : decode c.code pc = .ok (.castore, 1)) (hp : pc + 1 = pc') (k : ∀ T' h', Stand p l e R s m args below meth c T' (locs ++ [⟨a, j.toNatClampNeg⟩]) cells slots → T'.heap = h' → Wr h h' a j.toNatClampNeg (.int (nar .char x)) → Goes p e below K T' (mkF m pc' Ls st)) : Goes p e below K T (mkF m pc Ls (.int x :: .int j :: .ref a :: st)) := by
  subst hp
  obtain ⟨T1, h1, X1, e1, W1, f1⟩ := stC X hx hZ eT A hin (g := mkF m pc Ls (.int x :: .int j :: .ref a :: st)) rfl rfl hd
  exact Goes.by' f1 (k T1 h1 X1 e1 W1)
theorem g_bastore (X : Stand p l e R s m args below meth c T locs cells slots) (hx : p.tables.exec = Jvm.exec) (hZ : Z.Warmed39 s.vm) (eT : T.heap = h) {a : Addr} {cl : Cell} {j : Int32} {x : Int32} (A : Arr Z h a cl .byte) (hin : ¬ (j < 0 ∨ cl.slots.size ≤ j.toNatClampNeg)) (hd : decode c.code pc = .ok (.bastore, 1)) (hp : pc + 1 = pc') (k : ∀ T' h', Stand p l e R s m args below meth c T' (locs ++ [⟨a, j.toNatClampNeg⟩]) cells slots → T'.heap = h' → Wr h h' a j.toNatClampNeg (.int (nar .byte x)) → Goes p e below K T' (mkF m pc' Ls st)) : Goes p e below K T (mkF m pc Ls (.int x :: .int j :: .ref a :: st)) := by
  subst hp
  obtain ⟨T1, h1, X1, e1, W1, f1⟩ := stB X hx hZ eT A hin (g := mkF m pc Ls (.int x :: .int j :: .ref a :: st)) rfl rfl hd
  exact Goes.by' f1 (k T1 h1 X1 e1 W1)
theorem g_aastore (X : Stand p l e R s m args below meth c T locs cells slots) (hx : p.tables.exec = Jvm.exec) (hZ : Z.Warmed39 s.vm) (eT : T.heap = h) {a : Addr} {cl : Cell} {ty : FieldType} {j : Int32} {v : Value} (A : Arr Z h a cl ty) (hty : ty.isReference = true) (F : Sto Z h a v) (hin : ¬ (j < 0 ∨ cl.slots.size ≤ j.toNatClampNeg)) (hd : decode c.code pc = .ok (.aastore, 1)) (hp : pc + 1 = pc') (k : ∀ T' h', Stand p l e R s m args below meth c T' (locs ++ [⟨a, j.toNatClampNeg⟩]) cells slots → T'.heap = h' → Wr h h' a j.toNatClampNeg v → Goes p e below K T' (mkF m pc' Ls st)) : Goes p e below K T (mkF m pc Ls (v :: .int j :: .ref a :: st)) := by
  subst hp
  obtain ⟨T1, h1, X1, e1, W1, f1⟩ := stR X hx hZ eT A hin hty F (g := mkF m pc Ls (v :: .int j :: .ref a :: st)) rfl rfl hd
  exact Goes.by' f1 (k T1 h1 X1 e1 W1)
theorem g_callS (X : Stand p l e R s m args below meth c T locs cells slots) (hx : p.tables.exec = Jvm.exec) (hZ : Z.Warmed39 s.vm) {own : String} {ix : Nat} {y : MethodName} {bytes : ByteArray} {maxL : Nat} {ret : Option FieldType} {rm : Room} {as' : Array Value} {Q : Option Value → Heap → List Loc → Prop} (hown : s.vm.findClass own = some m.cls) (w1 : (Cond.methodLink own ix y).before a0 Z = true) (w2 : (Cond.static y).before a0 Z = true) (w3 : (Cond.initialized y.cls).before a0 Z = true) (w4 : (Cond.code y bytes maxL ret).before a0 Z = true) (hy : y.cls ≠ "java/lang/invoke/MethodHandle" ∧ y.cls ≠ "java/lang/invoke/VarHandle") (eT : T.heap = h) (C : Ctr l Z y bytes maxL ret [] rm rm.cells rm.slots as' h Q) (hsz : Ls.size = c.maxLocals) (argsL rest : List Value) (has : argsL.toArray = as') (hlen : ∀ sig, parseMethodDescriptor y.desc = some sig → argsL.length = sig.parameters.length) (hst : st = argsL.reverse ++ rest) (hl : (rest.map fun v => v.category).sum + (maxL + 11) + rm.locals ≤ R.locals) (hf : rm.frames + 1 ≤ R.frames) (hc : cells + rm.cells ≤ R.cells) (hsl : slots + rm.slots ≤ R.slots) (hd : decode c.code pc = .ok (.invokestatic ix, 3)) (hp : pc + 3 = pc') (k : ∀ T' v L, Stand p l e R s m args below meth c T' (locs ++ L) (cells + rm.cells) (slots + rm.slots) → Q v T'.heap L → Goes p e below K T' (mkF m pc' Ls (v.toList ++ rest))) : Goes p e below K T (mkF m pc Ls st) := by
  subst hp
  obtain ⟨v, _, ⟨T1, L1, k1, n1⟩, -, X1, ⟨L, hQ, l1, y1, z1⟩, f1⟩ := Jvm.LawKit.callS X hx (y := y) hown (mvT hZ w1) (mvT hZ w2) (mvT hZ w3) (mvT hZ w4) hy (backOf (W := (rest.map fun v => v.category).sum) C hZ w4 w3 hf hl) (g := mkF m pc Ls st) rfl hsz (argsL := argsL) (rest := rest) hlen hst (by show 2 * 0 + _ ≤ _; omega) hd (fun _ _ => ⟨has, eT, hc, hsl⟩)
  dsimp only [Pt.U, Pt.locs, Pt.cells, Pt.slots] at X1 l1 y1 z1 f1 hQ
  subst l1 y1 z1
  exact Goes.by' f1 (k T1 v L X1 hQ)
theorem g_callI (X : Stand p l e R s m args below meth c T locs cells slots) (hx : p.tables.exec = Jvm.exec) (hZ : Z.Warmed39 s.vm) {own : String} {ix : Nat} {y : MethodName} {bytes : ByteArray} {maxL : Nat} {rm : Room} {as' : Array Value} {Q : Option Value → Heap → List Loc → Prop} (hy1 : y.name = "<init>") (hown : s.vm.findClass own = some m.cls) (w1 : (Cond.methodLink own ix y).before a0 Z = true) (w2 : (Cond.instanceMethod y).before a0 Z = true) (w3 : (Cond.initialized y.cls).before a0 Z = true) (w4 : (Cond.code y bytes maxL none).before a0 Z = true) (hy : y.cls ≠ "java/lang/invoke/MethodHandle" ∧ y.cls ≠ "java/lang/invoke/VarHandle") (eT : T.heap = h) (C : Ctr l Z y bytes maxL none [] rm rm.cells rm.slots as' h Q) (hsz : Ls.size = c.maxLocals) (a : Addr) (argsL rest : List Value) (has : (.ref a :: argsL).toArray = as') (hlen : ∀ sig, parseMethodDescriptor y.desc = some sig → argsL.length = sig.parameters.length) (hst : st = argsL.reverse ++ .ref a :: rest) (hl : (rest.map fun v => v.category).sum + (maxL + 11) + rm.locals ≤ R.locals) (hf : rm.frames + 1 ≤ R.frames) (hc : cells + rm.cells ≤ R.cells) (hsl : slots + rm.slots ≤ R.slots) (hd : decode c.code pc = .ok (.invokespecial ix, 3)) (hp : pc + 3 = pc') (k : ∀ T' v L, Stand p l e R s m args below meth c T' (locs ++ L) (cells + rm.cells) (slots + rm.slots) → Q v T'.heap L → Goes p e below K T' (mkF m pc' Ls (v.toList ++ rest))) : Goes p e below K T (mkF m pc Ls st) := by
  subst hp
  obtain ⟨v, _, ⟨T1, L1, k1, n1⟩, -, X1, ⟨L, hQ, l1, y1, z1⟩, f1⟩ := X.specialBack hx (y := y) hy1 hown (mvT hZ w1) (mvT hZ w2) (mvT hZ w4) hy (backOf (W := (rest.map fun v => v.category).sum) C hZ w4 w3 hf hl) (g := mkF m pc Ls st) rfl hsz (Steps.refl _) (a := a) (argsL := argsL) (rest := rest) hlen hst (by show 2 * 0 + _ ≤ _; omega) hd (fun _ _ => ⟨has, eT, hc, hsl⟩)
  dsimp only [Pt.U, Pt.locs, Pt.cells, Pt.slots] at X1 l1 y1 z1 f1 hQ
  subst l1 y1 z1
  exact Goes.by' (fun _ q => f1.trans q) (k T1 v L X1 hQ)
theorem g_callV (X : Stand p l e R s m args below meth c T locs cells slots) (hx : p.tables.exec = Jvm.exec) (hZ : Z.Warmed39 s.vm) {own : String} {ix : Nat} {y : MethodName} {bytes : ByteArray} {maxL : Nat} {ret : Option FieldType} {rm : Room} {as' : Array Value} {Q : Option Value → Heap → List Loc → Prop} {C0 : String} (hown : s.vm.findClass own = some m.cls) (w1 : (Cond.methodLink own ix y).before a0 Z = true) (w2 : (Cond.declares y).before a0 Z = true) (w5 : (Cond.selects C0 y y).before a0 Z = true) (w6 : (Cond.instanceMethod y).before a0 Z = true) (w3 : (Cond.initialized y.cls).before a0 Z = true) (w4 : (Cond.code y bytes maxL ret).before a0 Z = true) (hy : y.cls ≠ "java/lang/invoke/MethodHandle" ∧ y.cls ≠ "java/lang/invoke/VarHandle") (eT : T.heap = h) (a : Addr) (E : Exa Z h a C0) (C : Ctr l Z y bytes maxL ret [] rm rm.cells rm.slots as' h Q) (hsz : Ls.size = c.maxLocals) (argsL rest : List Value) (has : (.ref a :: argsL).toArray = as') (hlen : ∀ sig, parseMethodDescriptor y.desc = some sig → argsL.length = sig.parameters.length) (hst : st = argsL.reverse ++ .ref a :: rest) (hl : (rest.map fun v => v.category).sum + (maxL + 11) + rm.locals ≤ R.locals) (hf : rm.frames + 1 ≤ R.frames) (hc : cells + rm.cells ≤ R.cells) (hsl : slots + rm.slots ≤ R.slots) (hd : decode c.code pc = .ok (.invokevirtual ix, 3)) (hp : pc + 3 = pc') (k : ∀ T' v L, Stand p l e R s m args below meth c T' (locs ++ L) (cells + rm.cells) (slots + rm.slots) → Q v T'.heap L → Goes p e below K T' (mkF m pc' Ls (v.toList ++ rest))) : Goes p e below K T (mkF m pc Ls st) := by
  subst hp
  obtain ⟨cq, kq, qa, qb, qc⟩ := isOf hZ eT E
  obtain ⟨v, _, ⟨T1, L1, k1, n1⟩, -, X1, ⟨L, hQ, l1, y1, z1⟩, f1⟩ := X.virtualBack hx (y := y) (z := y) hown (mvT hZ w1) (mvT hZ w2) (notFace_of_selects (args := #[]) (mvT hZ w5)) (mvT hZ w5) (mvT hZ w6) hy (backOf (W := (rest.map fun v => v.category).sum) C hZ w4 w3 hf hl) qa qc (g := mkF m pc Ls st) rfl hsz (Steps.refl _) (argsL := argsL) (rest := rest) hlen hst (by show 2 * 0 + _ ≤ _; omega) hd (fun _ _ => ⟨has, eT, hc, hsl⟩)
  dsimp only [Pt.U, Pt.locs, Pt.cells, Pt.slots] at X1 l1 y1 z1 f1 hQ
  subst l1 y1 z1
  exact Goes.by' (fun _ q => f1.trans q) (k T1 v L X1 hQ)
theorem g_callP (X : Stand p l e R s m args below meth c T locs cells slots) (hx : p.tables.exec = Jvm.exec) (hZ : Z.Warmed39 s.vm) {own : String} {ix : Nat} {y : MethodName} {bytes : ByteArray} {maxL : Nat} {ret : Option FieldType} {rm : Room} {as' : Array Value} {Q : Option Value → Heap → List Loc → Prop} {kk : Nat} {C0 : String} (hown : s.vm.findClass own = some m.cls) (w1 : (Cond.methodLink own ix y).before a0 Z = true) (wi : (Cond.instantiable y.cls kk).before a0 Z = true) (wp : (Cond.privateMethod y).before a0 Z = true) (w6 : (Cond.instanceMethod y).before a0 Z = true) (w3 : (Cond.initialized y.cls).before a0 Z = true) (w4 : (Cond.code y bytes maxL ret).before a0 Z = true) (hy : y.cls ≠ "java/lang/invoke/MethodHandle" ∧ y.cls ≠ "java/lang/invoke/VarHandle") (eT : T.heap = h) (a : Addr) (E : Exa Z h a C0) (C : Ctr l Z y bytes maxL ret [] rm rm.cells rm.slots as' h Q) (hsz : Ls.size = c.maxLocals) (argsL rest : List Value) (has : (.ref a :: argsL).toArray = as') (hlen : ∀ sig, parseMethodDescriptor y.desc = some sig → argsL.length = sig.parameters.length) (hst : st = argsL.reverse ++ .ref a :: rest) (hl : (rest.map fun v => v.category).sum + (maxL + 11) + rm.locals ≤ R.locals) (hf : rm.frames + 1 ≤ R.frames) (hc : cells + rm.cells ≤ R.cells) (hsl : slots + rm.slots ≤ R.slots) (hd : decode c.code pc = .ok (.invokevirtual ix, 3)) (hp : pc + 3 = pc') (k : ∀ T' v L, Stand p l e R s m args below meth c T' (locs ++ L) (cells + rm.cells) (slots + rm.slots) → Q v T'.heap L → Goes p e below K T' (mkF m pc' Ls (v.toList ++ rest))) : Goes p e below K T (mkF m pc Ls st) := by
  subst hp
  obtain ⟨cell, hcell, hobj⟩ := E.cell
  have wi' : (Cond.instantiable y.cls kk).before args s = true := mvT hZ wi
  obtain ⟨c1, k1, i1, i2, i3, i4, -⟩ := Cond.instantiable_spec wi'
  have hni : k1.isInterface = false := by revert i4; cases k1.isInterface <;> simp
  have hpv : s.PrivateAt y := Cond.privateMethod_at (mvP hZ wp (args := #[]))
  have hsel : (Cond.selects y.cls y y).before args s = true := Jvm.Stand.selects_self_of_private i1 i2 hni hpv (mvT hZ w6) hy
  obtain ⟨v, _, ⟨T1, L1, k1, n1⟩, -, X1, ⟨L, hQ, l1, y1, z1⟩, f1⟩ := X.privateBack hx (y := y) hown (mvT hZ w1) (mvT hZ w6) hsel hpv (mvT hZ w4) hy (backOf (W := (rest.map fun v => v.category).sum) C hZ w4 w3 hf hl) (g := mkF m pc Ls st) rfl hsz (Steps.refl _) (a := a) (by rw [eT]; exact hcell) hobj (argsL := argsL) (rest := rest) hlen hst (by show 2 * 0 + _ ≤ _; omega) hd (fun _ _ => ⟨has, eT, hc, hsl⟩)
  dsimp only [Pt.U, Pt.locs, Pt.cells, Pt.slots] at X1 l1 y1 z1 f1 hQ
  subst l1 y1 z1
  exact Goes.by' (fun _ q => f1.trans q) (k T1 v L X1 hQ)
theorem g_retI (X : Stand p l e R s m args below meth c T locs cells slots) (hx : p.tables.exec = Jvm.exec) {C S : Nat} {Q : Option Value → Heap → List Loc → Prop} {z : Int32} (hlk : meth.locks = false) (hret : meth.sig.returnType = some .int) (eT : T.heap = h) (hc : cells ≤ C) (hs : slots ≤ S) (hd : decode c.code pc = .ok (.ireturn, 1)) (hQ : Q (some (.int z)) h locs) : Goes p e below (KQ s C S Q) T (mkF m pc Ls (.int z :: st)) := by
  obtain ⟨fs, hr, hrun, hended, hW, hsame⟩ := X.leave (v := some (.int z)) (fun q => by rw [hret] at q; cases q) hlk
  exact ⟨_, _, retOut X hx hret rfl (Or.inl ⟨rfl, Or.inl rfl, _, rfl⟩) hd hr, hrun, hended, _, _, rfl, by subst eT; exact hQ, ⟨_, rfl⟩, hW, hsame.mono hc hs⟩
theorem g_retJ (X : Stand p l e R s m args below meth c T locs cells slots) (hx : p.tables.exec = Jvm.exec) {C S : Nat} {Q : Option Value → Heap → List Loc → Prop} {z : Int64} (hlk : meth.locks = false) (hret : meth.sig.returnType = some .long) (eT : T.heap = h) (hc : cells ≤ C) (hs : slots ≤ S) (hd : decode c.code pc = .ok (.lreturn, 1)) (hQ : Q (some (.long z)) h locs) : Goes p e below (KQ s C S Q) T (mkF m pc Ls (.long z :: st)) := by
  obtain ⟨fs, hr, hrun, hended, hW, hsame⟩ := X.leave (v := some (.long z)) (fun q => by rw [hret] at q; cases q) hlk
  exact ⟨_, _, retOut X hx hret rfl (Or.inr (Or.inl ⟨rfl, rfl, _, rfl⟩)) hd hr, hrun, hended, _, _, rfl, by subst eT; exact hQ, ⟨_, rfl⟩, hW, hsame.mono hc hs⟩
theorem g_retN (X : Stand p l e R s m args below meth c T locs cells slots) (hx : p.tables.exec = Jvm.exec) {C S : Nat} {Q : Option Value → Heap → List Loc → Prop} {z : Int32} {t : FieldType} (ht : t = .boolean ∨ t = .byte ∨ t = .char ∨ t = .short) (hlk : meth.locks = false) (hret : meth.sig.returnType = some t) (eT : T.heap = h) (hc : cells ≤ C) (hs : slots ≤ S) (hd : decode c.code pc = .ok (.ireturn, 1)) (hQ : Q (some (.int (nar t z))) h locs) : Goes p e below (KQ s C S Q) T (mkF m pc Ls (.int z :: st)) := by
  obtain ⟨fs, hr, hrun, hended, hW, hsame⟩ := X.leave (v := some (.int (nar t z))) (fun q => by rw [hret] at q; cases q) hlk
  exact ⟨_, _, retN X hx hret ht hd hr, hrun, hended, _, _, rfl, by subst eT; exact hQ, ⟨_, rfl⟩, hW, hsame.mono hc hs⟩
theorem g_retA (X : Stand p l e R s m args below meth c T locs cells slots) (hx : p.tables.exec = Jvm.exec) {C S : Nat} {Q : Option Value → Heap → List Loc → Prop} {v : Value} {t : FieldType} (hv : v.isRef = true) (ht : t.isReference = true) (hlk : meth.locks = false) (hret : meth.sig.returnType = some t) (eT : T.heap = h) (hc : cells ≤ C) (hs : slots ≤ S) (hd : decode c.code pc = .ok (.areturn, 1)) (hQ : Q (some v) h locs) : Goes p e below (KQ s C S Q) T (mkF m pc Ls (v :: st)) := by
  obtain ⟨fs, hr, hrun, hended, hW, hsame⟩ := X.leave (v := some v) (fun q => by rw [hret] at q; cases q) hlk
  have hn : narrow t v = v := by cases v <;> simp [Value.isRef] at hv <;> cases t <;> simp [FieldType.isReference] at ht <;> rfl
  exact ⟨_, _, retOut X hx hret hn (Or.inr (Or.inr (Or.inr (Or.inr ⟨rfl, ht, hv⟩)))) hd hr, hrun, hended, _, _, rfl, by subst eT; exact hQ, ⟨_, rfl⟩, hW, hsame.mono hc hs⟩
theorem g_ret (X : Stand p l e R s m args below meth c T locs cells slots) (hx : p.tables.exec = Jvm.exec) {C S : Nat} {Q : Option Value → Heap → List Loc → Prop} (hlk : meth.locks = false) (hret : meth.sig.returnType = none) (eT : T.heap = h) (hc : cells ≤ C) (hs : slots ≤ S) (hd : decode c.code pc = .ok (.return_, 1)) (hQ : Q none h locs) : Goes p e below (KQ s C S Q) T (mkF m pc Ls []) := by
  obtain ⟨fs, hr, hrun, hended, hW, hsame⟩ := X.leave (v := none) (fun _ => rfl) hlk
  exact ⟨_, _, X.returnOut hx hret hd hr, hrun, hended, _, _, rfl, by subst eT; exact hQ, ⟨_, rfl⟩, hW, hsame.mono hc hs⟩
end OwnGo
def ArI (Z : State) (h : Heap) (b : Addr) (ty : FieldType) (n : Nat) (f : Nat → Int32) : Prop := ∃ cl, Arr Z h b cl ty ∧ cl.slots.size = n ∧ ∀ j, j < n → cl.slots[j]? = some (.int (f j))
section ArSI
variable {Z : State} {h h' : Heap} {a b : Addr} {ty : FieldType} {n sl : Nat} {f : Nat → Int32} {v : Value} {ws : List Addr}
theorem ArI.new {cA : ClassId} {z : Int32} (A : Arr Z h a (newA cA ty z) ty) (x : Int32) (hd : defaultValue ty = .int x) : ArI Z h a ty z.toNatClampNeg (fun _ => x) := ⟨_, A, sz_new _ _ _, fun j hj => by simp only [newA, ← hd]; rw [Array.getElem?_replicate, if_pos hj]⟩
theorem ArI.lt (F : ArI Z h b ty n f) : b < h.size := by obtain ⟨c, A, -⟩ := F; exact A.lt
theorem ArI.ext (F : ArI Z h b ty n f) (E : Ext h h') : ArI Z h' b ty n f := by obtain ⟨c, A, r⟩ := F; exact ⟨c, A.ext E, r⟩
theorem ArI.other (F : ArI Z h b ty n f) (W : Wr h h' a sl v) (q : b ≠ a) : ArI Z h' b ty n f := by obtain ⟨c, A, r⟩ := F; exact ⟨c, A.other W q, r⟩
theorem ArI.keep (F : ArI Z h b ty n f) (K : Keep h h' ws) (q : b ∉ ws) : ArI Z h' b ty n f := by obtain ⟨c, A, r⟩ := F; exact ⟨c, ⟨K.2.1 b c A.1 q, A.2⟩, r⟩
theorem ArI.set {x : Int32} (F : ArI Z h b ty n f) (W : Wr h h' b sl (.int (x))) : ArI Z h' b ty n (fun k => if k = sl then x else f k) := by
  obtain ⟨c, A, hs, H⟩ := F
  refine ⟨_, A.same W, by rw [sz_set]; exact hs, fun j hj => ?_⟩
  by_cases e : j = sl
  · subst e; simp only [Cell.setSlot, if_true]; rw [Array.getElem?_setIfInBounds_self_of_lt (by rw [hs]; exact hj)]
  · simp only [Cell.setSlot]; rw [Array.getElem?_setIfInBounds_ne (Ne.symm e), if_neg e]; exact H j hj
theorem ArI.inb {j : Int32} {c : Cell} (hs : c.slots.size = n) (h0 : ¬ j < 0) (h1 : j.toNatClampNeg < n) : ¬ (j < 0 ∨ c.slots.size ≤ j.toNatClampNeg) := by rw [hs]; rintro (q | q); exact h0 q; omega
end ArSI
section ArGI
variable {p : Program} {l : Launch} {e : Env} {R : Room} {s : State} {m : MethodId} {args : Array Value} {below : List Frame} {meth : Method} {c : Code} {T : State} {locs : List Loc} {cells slots : Nat} {Z : State} {a0 : Array Value} {h : Heap} {K : Outcome → State → Prop} {pc pc' : Nat} {Ls : Array Slot} {st : List Value}
theorem g_iaload' (X : Stand p l e R s m args below meth c T locs cells slots) (hx : p.tables.exec = Jvm.exec) (hZ : Z.Warmed39 s.vm) (eT : T.heap = h) {b : Addr} {n : Nat} {f : Nat → Int32} {j : Int32} {x : Int32} (A : ArI Z h b .int n f) (h0 : ¬ j < 0) (h1 : j.toNatClampNeg < n) (hv : f j.toNatClampNeg = x) (hd : decode c.code pc = .ok (.iaload, 1)) (hp : pc + 1 = pc') (k : Goes p e below K T (mkF m pc' Ls (.int (x) :: st))) : Goes p e below K T (mkF m pc Ls (.int j :: .ref b :: st)) := by
  obtain ⟨cl, A, hs, H⟩ := A
  exact g_iaload X hx hZ eT A (ArI.inb hs h0 h1) (by rw [H _ h1, hv]) hd hp k
theorem g_caload' (X : Stand p l e R s m args below meth c T locs cells slots) (hx : p.tables.exec = Jvm.exec) (hZ : Z.Warmed39 s.vm) (eT : T.heap = h) {b : Addr} {n : Nat} {f : Nat → Int32} {j : Int32} {x : Int32} (A : ArI Z h b .char n f) (h0 : ¬ j < 0) (h1 : j.toNatClampNeg < n) (hv : f j.toNatClampNeg = x) (hd : decode c.code pc = .ok (.caload, 1)) (hp : pc + 1 = pc') (k : Goes p e below K T (mkF m pc' Ls (.int (x) :: st))) : Goes p e below K T (mkF m pc Ls (.int j :: .ref b :: st)) := by
  obtain ⟨cl, A, hs, H⟩ := A
  exact g_caload X hx hZ eT A (ArI.inb hs h0 h1) (by rw [H _ h1, hv]) hd hp k
theorem g_baload' (X : Stand p l e R s m args below meth c T locs cells slots) (hx : p.tables.exec = Jvm.exec) (hZ : Z.Warmed39 s.vm) (eT : T.heap = h) {b : Addr} {n : Nat} {f : Nat → Int32} {j : Int32} {x : Int32} (A : ArI Z h b .byte n f) (h0 : ¬ j < 0) (h1 : j.toNatClampNeg < n) (hv : f j.toNatClampNeg = x) (hd : decode c.code pc = .ok (.baload, 1)) (hp : pc + 1 = pc') (k : Goes p e below K T (mkF m pc' Ls (.int (x) :: st))) : Goes p e below K T (mkF m pc Ls (.int j :: .ref b :: st)) := by
  obtain ⟨cl, A, hs, H⟩ := A
  exact g_baload X hx hZ eT A (ArI.inb hs h0 h1) (by rw [H _ h1, hv]) hd hp k
theorem g_arraylengthI (X : Stand p l e R s m args below meth c T locs cells slots) (hx : p.tables.exec = Jvm.exec) (hZ : Z.Warmed39 s.vm) (eT : T.heap = h) {b : Addr} {n : Nat} {f : Nat → Int32} {ty : FieldType} {z : Int32} (A : ArI Z h b ty n f) (hz : n.toInt32 = z) (hd : decode c.code pc = .ok (.arraylength, 1)) (hp : pc + 1 = pc') (k : Goes p e below K T (mkF m pc' Ls (.int z :: st))) : Goes p e below K T (mkF m pc Ls (.ref b :: st)) := by
  obtain ⟨cl, A, hs, H⟩ := A
  exact g_arraylength X hx hZ eT A (by rw [hs, hz]) hd hp k
theorem g_iastore' (X : Stand p l e R s m args below meth c T locs cells slots) (hx : p.tables.exec = Jvm.exec) (hZ : Z.Warmed39 s.vm) (eT : T.heap = h) {b : Addr} {n : Nat} {f : Nat → Int32} {j : Int32} {x : Int32} (A : ArI Z h b .int n f) (h0 : ¬ j < 0) (h1 : j.toNatClampNeg < n) (hd : decode c.code pc = .ok (.iastore, 1)) (hp : pc + 1 = pc') (k : ∀ T' h', Stand p l e R s m args below meth c T' (locs ++ [⟨b, j.toNatClampNeg⟩]) cells slots → T'.heap = h' → Wr h h' b j.toNatClampNeg (.int (x)) → ArI Z h' b .int n (fun k => if k = j.toNatClampNeg then x else f k) → Goes p e below K T' (mkF m pc' Ls st)) : Goes p e below K T (mkF m pc Ls (.int (x) :: .int j :: .ref b :: st)) := by
  have A' := A
  obtain ⟨cl, A, hs, H⟩ := A
  exact g_iastore X hx hZ eT A (ArI.inb hs h0 h1) hd hp (fun T' h' X' e' W' => k T' h' X' e' W' (A'.set W'))
theorem g_castore' (X : Stand p l e R s m args below meth c T locs cells slots) (hx : p.tables.exec = Jvm.exec) (hZ : Z.Warmed39 s.vm) (eT : T.heap = h) {b : Addr} {n : Nat} {f : Nat → Int32} {j : Int32} {x : Int32} (A : ArI Z h b .char n f) (h0 : ¬ j < 0) (h1 : j.toNatClampNeg < n) (hd : decode c.code pc = .ok (.castore, 1)) (hp : pc + 1 = pc') (k : ∀ T' h', Stand p l e R s m args below meth c T' (locs ++ [⟨b, j.toNatClampNeg⟩]) cells slots → T'.heap = h' → Wr h h' b j.toNatClampNeg (.int (nar .char x)) → ArI Z h' b .char n (fun k => if k = j.toNatClampNeg then nar .char x else f k) → Goes p e below K T' (mkF m pc' Ls st)) : Goes p e below K T (mkF m pc Ls (.int (x) :: .int j :: .ref b :: st)) := by
  have A' := A
  obtain ⟨cl, A, hs, H⟩ := A
  exact g_castore X hx hZ eT A (ArI.inb hs h0 h1) hd hp (fun T' h' X' e' W' => k T' h' X' e' W' (A'.set W'))
theorem g_bastore' (X : Stand p l e R s m args below meth c T locs cells slots) (hx : p.tables.exec = Jvm.exec) (hZ : Z.Warmed39 s.vm) (eT : T.heap = h) {b : Addr} {n : Nat} {f : Nat → Int32} {j : Int32} {x : Int32} (A : ArI Z h b .byte n f) (h0 : ¬ j < 0) (h1 : j.toNatClampNeg < n) (hd : decode c.code pc = .ok (.bastore, 1)) (hp : pc + 1 = pc') (k : ∀ T' h', Stand p l e R s m args below meth c T' (locs ++ [⟨b, j.toNatClampNeg⟩]) cells slots → T'.heap = h' → Wr h h' b j.toNatClampNeg (.int (nar .byte x)) → ArI Z h' b .byte n (fun k => if k = j.toNatClampNeg then nar .byte x else f k) → Goes p e below K T' (mkF m pc' Ls st)) : Goes p e below K T (mkF m pc Ls (.int (x) :: .int j :: .ref b :: st)) := by
  have A' := A
  obtain ⟨cl, A, hs, H⟩ := A
  exact g_bastore X hx hZ eT A (ArI.inb hs h0 h1) hd hp (fun T' h' X' e' W' => k T' h' X' e' W' (A'.set W'))
end ArGI
def ArJ (Z : State) (h : Heap) (b : Addr) (ty : FieldType) (n : Nat) (f : Nat → Int64) : Prop := ∃ cl, Arr Z h b cl ty ∧ cl.slots.size = n ∧ ∀ j, j < n → cl.slots[j]? = some (.long (f j))
section ArSJ
variable {Z : State} {h h' : Heap} {a b : Addr} {ty : FieldType} {n sl : Nat} {f : Nat → Int64} {v : Value} {ws : List Addr}
theorem ArJ.new {cA : ClassId} {z : Int32} (A : Arr Z h a (newA cA ty z) ty) (x : Int64) (hd : defaultValue ty = .long x) : ArJ Z h a ty z.toNatClampNeg (fun _ => x) := ⟨_, A, sz_new _ _ _, fun j hj => by simp only [newA, ← hd]; rw [Array.getElem?_replicate, if_pos hj]⟩
theorem ArJ.lt (F : ArJ Z h b ty n f) : b < h.size := by obtain ⟨c, A, -⟩ := F; exact A.lt
theorem ArJ.ext (F : ArJ Z h b ty n f) (E : Ext h h') : ArJ Z h' b ty n f := by obtain ⟨c, A, r⟩ := F; exact ⟨c, A.ext E, r⟩
theorem ArJ.other (F : ArJ Z h b ty n f) (W : Wr h h' a sl v) (q : b ≠ a) : ArJ Z h' b ty n f := by obtain ⟨c, A, r⟩ := F; exact ⟨c, A.other W q, r⟩
theorem ArJ.keep (F : ArJ Z h b ty n f) (K : Keep h h' ws) (q : b ∉ ws) : ArJ Z h' b ty n f := by obtain ⟨c, A, r⟩ := F; exact ⟨c, ⟨K.2.1 b c A.1 q, A.2⟩, r⟩
theorem ArJ.set {x : Int64} (F : ArJ Z h b ty n f) (W : Wr h h' b sl (.long (x))) : ArJ Z h' b ty n (fun k => if k = sl then x else f k) := by
  obtain ⟨c, A, hs, H⟩ := F
  refine ⟨_, A.same W, by rw [sz_set]; exact hs, fun j hj => ?_⟩
  by_cases e : j = sl
  · subst e; simp only [Cell.setSlot, if_true]; rw [Array.getElem?_setIfInBounds_self_of_lt (by rw [hs]; exact hj)]
  · simp only [Cell.setSlot]; rw [Array.getElem?_setIfInBounds_ne (Ne.symm e), if_neg e]; exact H j hj
theorem ArJ.inb {j : Int32} {c : Cell} (hs : c.slots.size = n) (h0 : ¬ j < 0) (h1 : j.toNatClampNeg < n) : ¬ (j < 0 ∨ c.slots.size ≤ j.toNatClampNeg) := by rw [hs]; rintro (q | q); exact h0 q; omega
end ArSJ
section ArGJ
variable {p : Program} {l : Launch} {e : Env} {R : Room} {s : State} {m : MethodId} {args : Array Value} {below : List Frame} {meth : Method} {c : Code} {T : State} {locs : List Loc} {cells slots : Nat} {Z : State} {a0 : Array Value} {h : Heap} {K : Outcome → State → Prop} {pc pc' : Nat} {Ls : Array Slot} {st : List Value}
theorem g_laload' (X : Stand p l e R s m args below meth c T locs cells slots) (hx : p.tables.exec = Jvm.exec) (hZ : Z.Warmed39 s.vm) (eT : T.heap = h) {b : Addr} {n : Nat} {f : Nat → Int64} {j : Int32} {x : Int64} (A : ArJ Z h b .long n f) (h0 : ¬ j < 0) (h1 : j.toNatClampNeg < n) (hv : f j.toNatClampNeg = x) (hd : decode c.code pc = .ok (.laload, 1)) (hp : pc + 1 = pc') (k : Goes p e below K T (mkF m pc' Ls (.long (x) :: st))) : Goes p e below K T (mkF m pc Ls (.int j :: .ref b :: st)) := by
  obtain ⟨cl, A, hs, H⟩ := A
  exact g_laload X hx hZ eT A (ArJ.inb hs h0 h1) (by rw [H _ h1, hv]) hd hp k
theorem g_arraylengthJ (X : Stand p l e R s m args below meth c T locs cells slots) (hx : p.tables.exec = Jvm.exec) (hZ : Z.Warmed39 s.vm) (eT : T.heap = h) {b : Addr} {n : Nat} {f : Nat → Int64} {ty : FieldType} {z : Int32} (A : ArJ Z h b ty n f) (hz : n.toInt32 = z) (hd : decode c.code pc = .ok (.arraylength, 1)) (hp : pc + 1 = pc') (k : Goes p e below K T (mkF m pc' Ls (.int z :: st))) : Goes p e below K T (mkF m pc Ls (.ref b :: st)) := by
  obtain ⟨cl, A, hs, H⟩ := A
  exact g_arraylength X hx hZ eT A (by rw [hs, hz]) hd hp k
theorem g_lastore' (X : Stand p l e R s m args below meth c T locs cells slots) (hx : p.tables.exec = Jvm.exec) (hZ : Z.Warmed39 s.vm) (eT : T.heap = h) {b : Addr} {n : Nat} {f : Nat → Int64} {j : Int32} {x : Int64} (A : ArJ Z h b .long n f) (h0 : ¬ j < 0) (h1 : j.toNatClampNeg < n) (hd : decode c.code pc = .ok (.lastore, 1)) (hp : pc + 1 = pc') (k : ∀ T' h', Stand p l e R s m args below meth c T' (locs ++ [⟨b, j.toNatClampNeg⟩]) cells slots → T'.heap = h' → Wr h h' b j.toNatClampNeg (.long (x)) → ArJ Z h' b .long n (fun k => if k = j.toNatClampNeg then x else f k) → Goes p e below K T' (mkF m pc' Ls st)) : Goes p e below K T (mkF m pc Ls (.long (x) :: .int j :: .ref b :: st)) := by
  have A' := A
  obtain ⟨cl, A, hs, H⟩ := A
  exact g_lastore X hx hZ eT A (ArJ.inb hs h0 h1) hd hp (fun T' h' X' e' W' => k T' h' X' e' W' (A'.set W'))
end ArGJ
def ArV (Z : State) (h : Heap) (b : Addr) (ty : FieldType) (n : Nat) (f : Nat → Value) : Prop := ∃ cl, Arr Z h b cl ty ∧ cl.slots.size = n ∧ ∀ j, j < n → cl.slots[j]? = some (f j)
section ArSV
variable {Z : State} {h h' : Heap} {a b : Addr} {ty : FieldType} {n sl : Nat} {f : Nat → Value} {v : Value} {ws : List Addr}
theorem ArV.new {cA : ClassId} {z : Int32} (A : Arr Z h a (newA cA ty z) ty) (x : Value) (hd : defaultValue ty = x) : ArV Z h a ty z.toNatClampNeg (fun _ => x) := ⟨_, A, sz_new _ _ _, fun j hj => by simp only [newA, ← hd]; rw [Array.getElem?_replicate, if_pos hj]⟩
theorem ArV.lt (F : ArV Z h b ty n f) : b < h.size := by obtain ⟨c, A, -⟩ := F; exact A.lt
theorem ArV.ext (F : ArV Z h b ty n f) (E : Ext h h') : ArV Z h' b ty n f := by obtain ⟨c, A, r⟩ := F; exact ⟨c, A.ext E, r⟩
theorem ArV.other (F : ArV Z h b ty n f) (W : Wr h h' a sl v) (q : b ≠ a) : ArV Z h' b ty n f := by obtain ⟨c, A, r⟩ := F; exact ⟨c, A.other W q, r⟩
theorem ArV.keep (F : ArV Z h b ty n f) (K : Keep h h' ws) (q : b ∉ ws) : ArV Z h' b ty n f := by obtain ⟨c, A, r⟩ := F; exact ⟨c, ⟨K.2.1 b c A.1 q, A.2⟩, r⟩
theorem ArV.set {x : Value} (F : ArV Z h b ty n f) (W : Wr h h' b sl (x)) : ArV Z h' b ty n (fun k => if k = sl then x else f k) := by
  obtain ⟨c, A, hs, H⟩ := F
  refine ⟨_, A.same W, by rw [sz_set]; exact hs, fun j hj => ?_⟩
  by_cases e : j = sl
  · subst e; simp only [Cell.setSlot, if_true]; rw [Array.getElem?_setIfInBounds_self_of_lt (by rw [hs]; exact hj)]
  · simp only [Cell.setSlot]; rw [Array.getElem?_setIfInBounds_ne (Ne.symm e), if_neg e]; exact H j hj
theorem ArV.inb {j : Int32} {c : Cell} (hs : c.slots.size = n) (h0 : ¬ j < 0) (h1 : j.toNatClampNeg < n) : ¬ (j < 0 ∨ c.slots.size ≤ j.toNatClampNeg) := by rw [hs]; rintro (q | q); exact h0 q; omega
end ArSV
section ArGV
variable {p : Program} {l : Launch} {e : Env} {R : Room} {s : State} {m : MethodId} {args : Array Value} {below : List Frame} {meth : Method} {c : Code} {T : State} {locs : List Loc} {cells slots : Nat} {Z : State} {a0 : Array Value} {h : Heap} {K : Outcome → State → Prop} {pc pc' : Nat} {Ls : Array Slot} {st : List Value}
theorem g_aaload' (X : Stand p l e R s m args below meth c T locs cells slots) (hx : p.tables.exec = Jvm.exec) (hZ : Z.Warmed39 s.vm) (eT : T.heap = h) {b : Addr} {n : Nat} {f : Nat → Value} {j : Int32} {x : Value} {ty : FieldType} (A : ArV Z h b ty n f) (h0 : ¬ j < 0) (h1 : j.toNatClampNeg < n) (hv : f j.toNatClampNeg = x) (hty : ty.isReference = true) (hd : decode c.code pc = .ok (.aaload, 1)) (hp : pc + 1 = pc') (k : Goes p e below K T (mkF m pc' Ls (x :: st))) : Goes p e below K T (mkF m pc Ls (.int j :: .ref b :: st)) := by
  obtain ⟨cl, A, hs, H⟩ := A
  exact g_aaload X hx hZ eT A hty (ArV.inb hs h0 h1) (by rw [H _ h1, hv]) hd hp k
theorem g_arraylengthV (X : Stand p l e R s m args below meth c T locs cells slots) (hx : p.tables.exec = Jvm.exec) (hZ : Z.Warmed39 s.vm) (eT : T.heap = h) {b : Addr} {n : Nat} {f : Nat → Value} {ty : FieldType} {z : Int32} (A : ArV Z h b ty n f) (hz : n.toInt32 = z) (hd : decode c.code pc = .ok (.arraylength, 1)) (hp : pc + 1 = pc') (k : Goes p e below K T (mkF m pc' Ls (.int z :: st))) : Goes p e below K T (mkF m pc Ls (.ref b :: st)) := by
  obtain ⟨cl, A, hs, H⟩ := A
  exact g_arraylength X hx hZ eT A (by rw [hs, hz]) hd hp k
theorem g_aastore' (X : Stand p l e R s m args below meth c T locs cells slots) (hx : p.tables.exec = Jvm.exec) (hZ : Z.Warmed39 s.vm) (eT : T.heap = h) {b : Addr} {n : Nat} {f : Nat → Value} {j : Int32} {x : Value} {ty : FieldType} (A : ArV Z h b ty n f) (h0 : ¬ j < 0) (h1 : j.toNatClampNeg < n) (hty : ty.isReference = true) (F : Sto Z h b x) (hd : decode c.code pc = .ok (.aastore, 1)) (hp : pc + 1 = pc') (k : ∀ T' h', Stand p l e R s m args below meth c T' (locs ++ [⟨b, j.toNatClampNeg⟩]) cells slots → T'.heap = h' → Wr h h' b j.toNatClampNeg (x) → ArV Z h' b ty n (fun k => if k = j.toNatClampNeg then x else f k) → Goes p e below K T' (mkF m pc' Ls st)) : Goes p e below K T (mkF m pc Ls (x :: .int j :: .ref b :: st)) := by
  have A' := A
  obtain ⟨cl, A, hs, H⟩ := A
  exact g_aastore X hx hZ eT A hty F (ArV.inb hs h0 h1) hd hp (fun T' h' X' e' W' => k T' h' X' e' W' (A'.set W'))
end ArGV
section OwnW
variable {p : Program} {l : Launch} {e : Env} {R : Room} {s : State} {m : MethodId} {args : Array Value} {below : List Frame} {meth : Method} {c : Code} {T : State} {locs : List Loc} {cells slots : Nat} {Z : State} {a0 : Array Value} {h : Heap} {K : Outcome → State → Prop} {pc pc' : Nat} {Ls : Array Slot} {st : List Value}
abbrev KW (s : State) (C S : Nat) (Q : Option Value → Heap → List Loc → Prop) : Outcome → State → Prop := fun o u => ∃ v L, o = .returned v ∧ Q v u.heap L ∧ ReturnedEndW s o u L C S
abbrev CtrW (l : Launch) (Z : State) (y : MethodName) (bytes : ByteArray) (maxL : Nat) (ret : Option FieldType) (ws : List Jvm.Cond) (rm : Room) (C S : Nat) (as' : Array Value) (h0 : Heap) (Q : Option Value → Heap → List Loc → Prop) : Prop := MetFree l y (head1 (Jvm.Cond.code y bytes maxL ret :: ws) rm) (fun a U => a = as' ∧ Z.Warmed39 U.vm ∧ U.heap = h0 ∧ U.vm.interned = Z.vm.interned) (fun _ _ _ _ _ => True) (fun _ U o U' => ∃ v L, o = .returned v ∧ Q v U'.heap L ∧ ReturnedEndW U o U' L C S)
theorem CtrW.of {y : MethodName} {bytes : ByteArray} {maxL : Nat} {ret : Option FieldType} {ws : List Jvm.Cond} {rm : Room} {C S : Nat} {as' : Array Value} {h0 : Heap} {Q : Option Value → Heap → List Loc → Prop} (hpn : plainFor y = true)
    (body : ∀ (p : Program) (e : Env) (s : State) (m : MethodId) (below : List Frame) (meth : Method) (c : Code) (s₁ : State), p.tables.exec = Jvm.exec → c.code = bytes → c.maxLocals = maxL → s.vm.findClass y.cls = some m.cls → meth.name = y.name → meth.sig.returnType = ret → meth.locks = false → Z.Warmed39 s.vm → Stand p l e rm (s.setVm s.vm) m as' below meth c s₁ [] 0 0 → s₁.heap = h0 → s.Since s.vm s.heap.size → s.heap = h0 → s.vm.interned = Z.vm.interned → Goes p e below (KW s C S Q) s₁ (entryFrame m as' maxL)) :
    CtrW l Z y bytes maxL ret ws rm C S as' h0 Q := by
  refine MetFree.of_bodySF hpn hisR ?_
  intro p e s m args below meth c s₁ Bd hml0 hP hK
  obtain ⟨rfl, hZ, hh, hint⟩ := hP
  have hlk : meth.locks = false := BodyLoose.notSynchronized Bd
  exact body p e s m below meth c s₁ Bd.exec Bd.bytes hml0 (findClass_of_methodNamed Bd.named) (name_of_methodNamed Bd.named Bd.method).1 Bd.returns hlk hZ (Stand.of_body Bd) (by rw [← hh, Bd.state]; rfl) (State.WarmedH.since (State.WarmedH.refl s) _) hh hint
theorem g_ldcS {vm0 : Vm} (X : Stand p l e R (s.setVm vm0) m args below meth c T locs cells slots) (hx : p.tables.exec = Jvm.exec) (hZ : Z.Warmed39 vm0) {own text : String} {ix : Nat} (hown : vm0.findClass own = some m.cls) (w : (Cond.stringLink own ix text).before a0 Z = true) (wS : ∀ a ∈ Bundle.stringAtoms, a.before a0 Z = true) (eT : T.heap = h) {k0 : Nat} (hS : s.Since vm0 k0) (hk : k0 ≤ h.size) (hd : decode c.code pc = .ok (.ldc ix, 2)) (hp : pc + 2 = pc') (n : Nat) (hn : 4 * text.toList.length ≤ n) (hbig : n ≤ 536870912) (hc : cells + 2 ≤ R.cells) (hl : slots + (n + 4) ≤ R.slots) (k : ∀ (a : Addr) (T' : State) (h' : Heap) (k1 : Nat), Stand p l e R (s.setVm T'.vm) m args below meth c T' locs (cells + 2) (slots + (n + 4)) → T'.heap = h' → Ext h h' → s.Since T'.vm k1 → k1 ≤ h'.size → Z.Warmed39 T'.vm → T'.vm.findClass own = some m.cls → Goes p e below K T' (mkF m pc' Ls (.ref a :: st))) : Goes p e below K T (mkF m pc Ls st) := by
  subst hp
  obtain ⟨a, T1, h1, k1, X1, e1, E1, S1, g1, Z1, o1, f1⟩ := ldcS X hx hZ hown w wS eT hS hk (g := mkF m pc Ls st) rfl hd hn hbig hc hl
  exact Goes.by' f1 (k a T1 h1 k1 X1 e1 E1 S1 g1 Z1 o1)
theorem g_ldcSV {vm0 : Vm} (X : Stand p l e R (s.setVm vm0) m args below meth c T locs cells slots) (hx : p.tables.exec = Jvm.exec) (hZ : Z.Warmed39 vm0) {own text : String} {ix : Nat} {Ts : List String} (hown : vm0.findClass own = some m.cls) (w : (Cond.stringLink own ix text).before a0 Z = true) (wS : ∀ a ∈ Bundle.stringAtoms, a.before a0 Z = true) (eT : T.heap = h) {k0 : Nat} (hS : s.Since vm0 k0) (hk : k0 ≤ h.size) (N : Fr s.heap.size locs) (hkeep : ∀ (b : Addr) (cl : Cell), Z.heap[b]? = some cl → s.heap[b]? = some cl) (I : IB Z vm0 Ts) (hnot : text ∉ Ts) (hh : Jvm.Lit.constHeld Z own ix) (hcw : Jvm.Lit.compactW.before a0 Z = true) (vs : List Value) (z : Int32) (ht : (∀ c ∈ text.toList, c.toNat < 256) ∧ text.toList.map (fun c => Value.int (Jvm.Lit.byteI c.toNat.toUInt16)) = vs) (hz : ¬ z < 0) (hl : z.toNatClampNeg = vs.length) (hd : decode c.code pc = .ok (.ldc ix, 2)) (hp : pc + 2 = pc') (n : Nat) (hn : 4 * text.toList.length ≤ n) (hbig : n ≤ 536870912) (hc : cells + 2 ≤ R.cells) (hl' : slots + (n + 4) ≤ R.slots) (k : ∀ (a : Addr) (T' : State) (h' : Heap) (k1 : Nat) (b : Addr) (cA : ClassId), Stand p l e R (s.setVm T'.vm) m args below meth c T' locs (cells + 2) (slots + (n + 4)) → T'.heap = h' → Ext h h' → s.Since T'.vm k1 → k1 ≤ h'.size → Z.Warmed39 T'.vm → T'.vm.findClass own = some m.cls → Exa Z h' a "java/lang/String" → Fld Z h' a "java/lang/String" "coder" "B" (.int 0) → Fld Z h' a "java/lang/String" "value" "[B" (.ref b) → Arv Z h' b cA .byte z vs (.int 0) → IB Z T'.vm (text :: Ts) → Goes p e below K T' (mkF m pc' Ls (.ref a :: st))) : Goes p e below K T (mkF m pc Ls st) := by
  subst hp
  obtain ⟨a, T1, h1, k1, b, cA, X1, e1, E1, S1, g1, Z1, o1, q1, q2, q3, q4, -, -, q5, f1⟩ := ldcSV X hx hZ hown w wS eT hS hk N hkeep I hnot hh hcw ht hz hl (g := mkF m pc Ls st) rfl hd hn hbig hc hl'
  exact Goes.by' f1 (k a T1 h1 k1 b cA X1 e1 E1 S1 g1 Z1 o1 q1 q2 q3 q4 q5)
theorem g_retNW {vm0 : Vm} (X : Stand p l e R (s.setVm vm0) m args below meth c T locs cells slots) (hx : p.tables.exec = Jvm.exec) {C S : Nat} {Q : Option Value → Heap → List Loc → Prop} {z : Int32} {t : FieldType} (ht : t = .boolean ∨ t = .byte ∨ t = .char ∨ t = .short) (hlk : meth.locks = false) (hret : meth.sig.returnType = some t) (eT : T.heap = h) {k0 : Nat} (hS : s.Since vm0 k0) (hk : k0 ≤ h.size) (hc : cells ≤ C) (hs : slots ≤ S) (hd : decode c.code pc = .ok (.ireturn, 1)) (hQ : Q (some (.int (nar t z))) h locs) : Goes p e below (KW s C S Q) T (mkF m pc Ls (.int z :: st)) := by
  subst eT
  obtain ⟨fs, hr, hrun, hended, q1, q2, q3, q4⟩ := X.leaveW hS hk (v := some (.int (nar t z))) (fun q => by rw [hret] at q; cases q) hlk
  exact ⟨_, _, retN X hx hret ht hd hr, hrun, hended, _, _, rfl, hQ, q1, q2, q3, q4.mono hc hs⟩
theorem own_ib {vm : Vm} (q : vm.interned = Z.vm.interned) : IB Z vm [] := ⟨#[], by simp [q], fun x hx => by simp at hx⟩
end OwnW
theorem own_fin {P : Int32 → Prop} (N : Nat) (hN : N ≤ 2 ^ 31) (hP : ∀ n : Fin N, P (Int32.ofNat n.val)) (d : Int32) (h0 : 0 ≤ d.toInt) (h1 : d.toInt < (N : Int)) : P d := by
  have e : d = Int32.ofNat d.toInt.toNat := by
    apply Int32.toInt_inj.mp
    rw [Int32.toInt_ofNat_of_lt (by omega)]
    omega
  rw [e]
  exact hP ⟨d.toInt.toNat, by omega⟩
theorem own_ltI {x y : Int32} : x < y ↔ x.toInt < y.toInt := Int32.lt_iff_toInt_lt
theorem own_nneg {i : Int32} (h : 0 ≤ i.toInt) : ¬ i < 0 := by rw [own_ltI, show (0 : Int32).toInt = 0 from rfl]; omega
theorem own_tnc (i : Int32) : i.toNatClampNeg = i.toInt.toNat := rfl
theorem own_inc {i : Int32} (h : i.toInt < 2147483647) : (i + 1).toInt = i.toInt + 1 := by
  have e := c_iadd i 1
  have r := rng32 (i + 1)
  have r2 := rng32 i
  rw [show (1 : Int32).toInt = 1 from rfl] at e
  omega
theorem own_rem (a m : Int32) (hm : 0 < m.toInt) : 0 ≤ ((a &&& 2147483647) % m).toInt ∧ ((a &&& 2147483647) % m).toInt < m.toInt := by
  have e1 := c_mask a 2147483647 31 (by decide) (by decide)
  have e2 := (c_iremV (a &&& 2147483647) m).1 (by rw [e1]; omega) hm
  exact ⟨e2.1, e2.2.1⟩
theorem cm_lt (x y : Int64) : XT.cmpL x y < 0 ↔ x < y := by unfold XT.cmpL; split <;> (try split) <;> simp_all [Int64.lt_iff_toInt_lt, ← Int64.toInt_inj] <;> omega
theorem cm_gt (x y : Int64) : 0 < XT.cmpL x y ↔ y < x := by unfold XT.cmpL; split <;> (try split) <;> simp_all [Int64.lt_iff_toInt_lt, ← Int64.toInt_inj] <;> omega
theorem cm_eq (x y : Int64) : XT.cmpL x y = 0 ↔ x = y := by unfold XT.cmpL; split <;> (try split) <;> simp_all [Int64.lt_iff_toInt_lt, ← Int64.toInt_inj] <;> omega
theorem own_b1 {P : Prop} [Decidable P] (q : P) : some (Value.int (nar .boolean 1)) = some (.int (if P then 1 else 0)) := by rw [if_pos q]; rfl
theorem own_b0 {P : Prop} [Decidable P] (q : ¬ P) : some (Value.int (nar .boolean 0)) = some (.int (if P then 1 else 0)) := by rw [if_neg q]; rfl
theorem d1_0 : decode prog_54_method_1_code 0 = .ok (.aload_n 0, 1) := by decide +kernel
theorem d1_1 : decode prog_54_method_1_code 1 = .ok (.invokespecial 1, 3) := by decide +kernel
theorem d1_4 : decode prog_54_method_1_code 4 = .ok (.aload_n 0, 1) := by decide +kernel
theorem d1_5 : decode prog_54_method_1_code 5 = .ok (.aload_n 1, 1) := by decide +kernel
theorem d1_6 : decode prog_54_method_1_code 6 = .ok (.putfield 7, 3) := by decide +kernel
theorem d1_9 : decode prog_54_method_1_code 9 = .ok (.aload_n 0, 1) := by decide +kernel
theorem d1_10 : decode prog_54_method_1_code 10 = .ok (.aload_n 2, 1) := by decide +kernel
theorem d1_11 : decode prog_54_method_1_code 11 = .ok (.putfield 13, 3) := by decide +kernel
theorem d1_14 : decode prog_54_method_1_code 14 = .ok (.aload_n 0, 1) := by decide +kernel
theorem d1_15 : decode prog_54_method_1_code 15 = .ok (.aload_n 3, 1) := by decide +kernel
theorem d1_16 : decode prog_54_method_1_code 16 = .ok (.putfield 16, 3) := by decide +kernel
theorem d1_19 : decode prog_54_method_1_code 19 = .ok (.return_, 1) := by decide +kernel
theorem d2_0 : decode jdk_30_method_1_code 0 = .ok (.aload_n 0, 1) := by decide +kernel
theorem d2_1 : decode jdk_30_method_1_code 1 = .ok (.invokespecial 1, 3) := by decide +kernel
theorem d2_4 : decode jdk_30_method_1_code 4 = .ok (.return_, 1) := by decide +kernel
theorem d4_0 : decode prog_53_method_1_code 0 = .ok (.aload_n 0, 1) := by decide +kernel
theorem d4_1 : decode prog_53_method_1_code 1 = .ok (.invokespecial 1, 3) := by decide +kernel
theorem d4_4 : decode prog_53_method_1_code 4 = .ok (.aload_n 0, 1) := by decide +kernel
theorem d4_5 : decode prog_53_method_1_code 5 = .ok (.bipush 16, 2) := by decide +kernel
theorem d4_7 : decode prog_53_method_1_code 7 = .ok (.anewarray 9, 3) := by decide +kernel
theorem d4_10 : decode prog_53_method_1_code 10 = .ok (.putfield 11, 3) := by decide +kernel
theorem d4_13 : decode prog_53_method_1_code 13 = .ok (.aload_n 0, 1) := by decide +kernel
theorem d4_14 : decode prog_53_method_1_code 14 = .ok (.iconst 1, 1) := by decide +kernel
theorem d4_15 : decode prog_53_method_1_code 15 = .ok (.putfield 15, 3) := by decide +kernel
theorem d4_18 : decode prog_53_method_1_code 18 = .ok (.return_, 1) := by decide +kernel
theorem d5_0 : decode prog_53_method_3_code 0 = .ok (.iload_n 1, 1) := by decide +kernel
theorem d5_1 : decode prog_53_method_3_code 1 = .ok (.aload_n 0, 1) := by decide +kernel
theorem d5_2 : decode prog_53_method_3_code 2 = .ok (.getfield 15, 3) := by decide +kernel
theorem d5_5 : decode prog_53_method_3_code 5 = .ok (.if_icmp .lt 41, 3) := by decide +kernel
theorem d5_8 : decode prog_53_method_3_code 8 = .ok (.iload_n 1, 1) := by decide +kernel
theorem d5_9 : decode prog_53_method_3_code 9 = .ok (.aload_n 0, 1) := by decide +kernel
theorem d5_10 : decode prog_53_method_3_code 10 = .ok (.getfield 15, 3) := by decide +kernel
theorem d5_13 : decode prog_53_method_3_code 13 = .ok (.aload_n 0, 1) := by decide +kernel
theorem d5_14 : decode prog_53_method_3_code 14 = .ok (.getfield 19, 3) := by decide +kernel
theorem d5_17 : decode prog_53_method_3_code 17 = .ok (.iadd, 1) := by decide +kernel
theorem d5_18 : decode prog_53_method_3_code 18 = .ok (.if_icmp .ge 28, 3) := by decide +kernel
theorem d5_21 : decode prog_53_method_3_code 21 = .ok (.aload_n 0, 1) := by decide +kernel
theorem d5_22 : decode prog_53_method_3_code 22 = .ok (.getfield 11, 3) := by decide +kernel
theorem d5_25 : decode prog_53_method_3_code 25 = .ok (.aload_n 0, 1) := by decide +kernel
theorem d5_26 : decode prog_53_method_3_code 26 = .ok (.getfield 36, 3) := by decide +kernel
theorem d5_29 : decode prog_53_method_3_code 29 = .ok (.iload_n 1, 1) := by decide +kernel
theorem d5_30 : decode prog_53_method_3_code 30 = .ok (.iadd, 1) := by decide +kernel
theorem d5_31 : decode prog_53_method_3_code 31 = .ok (.aload_n 0, 1) := by decide +kernel
theorem d5_32 : decode prog_53_method_3_code 32 = .ok (.getfield 15, 3) := by decide +kernel
theorem d5_35 : decode prog_53_method_3_code 35 = .ok (.isub, 1) := by decide +kernel
theorem d5_36 : decode prog_53_method_3_code 36 = .ok (.aload_n 0, 1) := by decide +kernel
theorem d5_37 : decode prog_53_method_3_code 37 = .ok (.getfield 11, 3) := by decide +kernel
theorem d5_40 : decode prog_53_method_3_code 40 = .ok (.arraylength, 1) := by decide +kernel
theorem d5_41 : decode prog_53_method_3_code 41 = .ok (.irem, 1) := by decide +kernel
theorem d5_42 : decode prog_53_method_3_code 42 = .ok (.aaload, 1) := by decide +kernel
theorem d5_43 : decode prog_53_method_3_code 43 = .ok (.goto 4, 3) := by decide +kernel
theorem d5_46 : decode prog_53_method_3_code 46 = .ok (.aconst_null, 1) := by decide +kernel
theorem d5_47 : decode prog_53_method_3_code 47 = .ok (.areturn, 1) := by decide +kernel
theorem d6_0 : decode method_3_code 0 = .ok (.iload_n 1, 1) := by decide +kernel
theorem d6_1 : decode method_3_code 1 = .ok (.iconst 1, 1) := by decide +kernel
theorem d6_2 : decode method_3_code 2 = .ok (.if_icmp .ne 10, 3) := by decide +kernel
theorem d6_5 : decode method_3_code 5 = .ok (.iload_n 0, 1) := by decide +kernel
theorem d6_6 : decode method_3_code 6 = .ok (.iconst 1, 1) := by decide +kernel
theorem d6_7 : decode method_3_code 7 = .ok (.if_icmp .lt 5, 3) := by decide +kernel
theorem d6_10 : decode method_3_code 10 = .ok (.aload_n 2, 1) := by decide +kernel
theorem d6_11 : decode method_3_code 11 = .ok (.areturn, 1) := by decide +kernel
theorem d6_12 : decode method_3_code 12 = .ok (.iload_n 1, 1) := by decide +kernel
theorem d6_13 : decode method_3_code 13 = .ok (.iconst 2, 1) := by decide +kernel
theorem d6_14 : decode method_3_code 14 = .ok (.if_icmp .ne 10, 3) := by decide +kernel
theorem d6_17 : decode method_3_code 17 = .ok (.iload_n 0, 1) := by decide +kernel
theorem d6_18 : decode method_3_code 18 = .ok (.iconst 2, 1) := by decide +kernel
theorem d6_19 : decode method_3_code 19 = .ok (.if_icmp .lt 5, 3) := by decide +kernel
theorem d6_22 : decode method_3_code 22 = .ok (.aload_n 3, 1) := by decide +kernel
theorem d6_23 : decode method_3_code 23 = .ok (.areturn, 1) := by decide +kernel
theorem d6_24 : decode method_3_code 24 = .ok (.iload_n 1, 1) := by decide +kernel
theorem d6_25 : decode method_3_code 25 = .ok (.iconst 3, 1) := by decide +kernel
theorem d6_26 : decode method_3_code 26 = .ok (.if_icmp .ne 11, 3) := by decide +kernel
theorem d6_29 : decode method_3_code 29 = .ok (.iload_n 0, 1) := by decide +kernel
theorem d6_30 : decode method_3_code 30 = .ok (.iconst 3, 1) := by decide +kernel
theorem d6_31 : decode method_3_code 31 = .ok (.if_icmp .lt 6, 3) := by decide +kernel
theorem d6_34 : decode method_3_code 34 = .ok (.aload 4, 2) := by decide +kernel
theorem d6_36 : decode method_3_code 36 = .ok (.areturn, 1) := by decide +kernel
theorem d6_37 : decode method_3_code 37 = .ok (.aconst_null, 1) := by decide +kernel
theorem d6_38 : decode method_3_code 38 = .ok (.areturn, 1) := by decide +kernel
theorem d7_0 : decode prog_53_method_2_code 0 = .ok (.aload_n 0, 1) := by decide +kernel
theorem d7_1 : decode prog_53_method_2_code 1 = .ok (.getfield 19, 3) := by decide +kernel
theorem d7_4 : decode prog_53_method_2_code 4 = .ok (.aload_n 0, 1) := by decide +kernel
theorem d7_5 : decode prog_53_method_2_code 5 = .ok (.getfield 11, 3) := by decide +kernel
theorem d7_8 : decode prog_53_method_2_code 8 = .ok (.arraylength, 1) := by decide +kernel
theorem d7_9 : decode prog_53_method_2_code 9 = .ok (.if_icmp .ne 38, 3) := by decide +kernel
theorem d7_47 : decode prog_53_method_2_code 47 = .ok (.aload_n 0, 1) := by decide +kernel
theorem d7_48 : decode prog_53_method_2_code 48 = .ok (.getfield 19, 3) := by decide +kernel
theorem d7_51 : decode prog_53_method_2_code 51 = .ok (.ldc 22, 2) := by decide +kernel
theorem d7_53 : decode prog_53_method_2_code 53 = .ok (.if_icmp .ne 42, 3) := by decide +kernel
theorem d7_95 : decode prog_53_method_2_code 95 = .ok (.aload_n 0, 1) := by decide +kernel
theorem d7_96 : decode prog_53_method_2_code 96 = .ok (.getfield 11, 3) := by decide +kernel
theorem d7_99 : decode prog_53_method_2_code 99 = .ok (.aload_n 0, 1) := by decide +kernel
theorem d7_100 : decode prog_53_method_2_code 100 = .ok (.getfield 36, 3) := by decide +kernel
theorem d7_103 : decode prog_53_method_2_code 103 = .ok (.aload_n 0, 1) := by decide +kernel
theorem d7_104 : decode prog_53_method_2_code 104 = .ok (.getfield 19, 3) := by decide +kernel
theorem d7_107 : decode prog_53_method_2_code 107 = .ok (.iadd, 1) := by decide +kernel
theorem d7_108 : decode prog_53_method_2_code 108 = .ok (.aload_n 0, 1) := by decide +kernel
theorem d7_109 : decode prog_53_method_2_code 109 = .ok (.getfield 11, 3) := by decide +kernel
theorem d7_112 : decode prog_53_method_2_code 112 = .ok (.arraylength, 1) := by decide +kernel
theorem d7_113 : decode prog_53_method_2_code 113 = .ok (.irem, 1) := by decide +kernel
theorem d7_114 : decode prog_53_method_2_code 114 = .ok (.aload_n 1, 1) := by decide +kernel
theorem d7_115 : decode prog_53_method_2_code 115 = .ok (.aastore, 1) := by decide +kernel
theorem d7_116 : decode prog_53_method_2_code 116 = .ok (.aload_n 0, 1) := by decide +kernel
theorem d7_117 : decode prog_53_method_2_code 117 = .ok (.dup, 1) := by decide +kernel
theorem d7_118 : decode prog_53_method_2_code 118 = .ok (.getfield 19, 3) := by decide +kernel
theorem d7_121 : decode prog_53_method_2_code 121 = .ok (.iconst 1, 1) := by decide +kernel
theorem d7_122 : decode prog_53_method_2_code 122 = .ok (.iadd, 1) := by decide +kernel
theorem d7_123 : decode prog_53_method_2_code 123 = .ok (.putfield 19, 3) := by decide +kernel
theorem d7_126 : decode prog_53_method_2_code 126 = .ok (.return_, 1) := by decide +kernel
theorem own_wS {a0 : Array Value} {Z : State} (hw : ∀ d ∈ tables_1, d.before a0 Z = true) : ∀ a ∈ Bundle.stringAtoms, a.before a0 Z = true := by
  intro a ha
  simp only [Bundle.stringAtoms, List.mem_cons, List.not_mem_nil, or_false] at ha
  rcases ha with rfl | rfl | rfl | rfl | rfl | rfl | rfl
  · exact wd hw 4 rfl
  · exact wd hw 5 rfl
  · exact wd hw 6 rfl
  · exact wd hw 7 rfl
  · exact wd hw 8 rfl
  · exact wd hw 9 rfl
  · exact wd hw 10 rfl
def own_sent (Z : State) (h : Heap) (v : Value) : Prop := v = .null ∨ ∃ y, v = .ref y ∧ Exa Z h y "com/example/matchwerk/matchwerk/fix/SentMessages$Sent"
theorem own_sent.ref {Z : State} {h : Heap} {v : Value} (q : own_sent Z h v) : v.isRef = true ∧ v.category = 1 := by rcases q with rfl | ⟨y, rfl, -⟩ <;> exact ⟨rfl, rfl⟩
theorem own_sent.ext {Z : State} {h h' : Heap} {v : Value} (q : own_sent Z h v) (E : Ext h h') : own_sent Z h' v := q.imp id fun ⟨y, e, F⟩ => ⟨y, e, F.ext E⟩
theorem own_sent.keep {Z : State} {h h' : Heap} {v : Value} {ws : List Addr} (q : own_sent Z h v) (K : Keep h h' ws) : own_sent Z h' v := q.imp id fun ⟨y, e, F⟩ => ⟨y, e, F.keep K⟩
def own_sm (Z : State) (h : Heap) (a r : Addr) (n : Int32) (f : Nat → Value) : Prop := Exa Z h a "com/example/matchwerk/matchwerk/fix/SentMessages" ∧ Fld Z h a "com/example/matchwerk/matchwerk/fix/SentMessages" "ring" "[Lcom/example/matchwerk/matchwerk/fix/SentMessages$Sent;" (.ref r) ∧ Fld Z h a "com/example/matchwerk/matchwerk/fix/SentMessages" "first" "I" (.int 1) ∧ Fld Z h a "com/example/matchwerk/matchwerk/fix/SentMessages" "head" "I" (.int 0) ∧ Fld Z h a "com/example/matchwerk/matchwerk/fix/SentMessages" "count" "I" (.int n) ∧ ¬ r = a ∧ ∃ cl, Arr Z h r cl (.object "com/example/matchwerk/matchwerk/fix/SentMessages$Sent") ∧ Ovr Z cl.cls "com/example/matchwerk/matchwerk/fix/SentMessages$Sent" ∧ cl.slots.size = 16 ∧ ∀ j, j < 16 → cl.slots[j]? = some (f j)
theorem own_idx0 (n : Int32) (h0 : 0 ≤ n.toInt) (h1 : n.toInt < 16) : (0 + n) % 16 = n := own_fin (P := fun n => (0 + n) % 16 = n) 16 (by decide) (by decide +kernel) n h0 h1
theorem own_idx1 (n : Int32) (h0 : 1 ≤ n.toInt) (h1 : n.toInt < 17) : ((0 + n - 1) % 16).toInt = n.toInt - 1 := own_fin (P := fun n => 1 ≤ n.toInt → ((0 + n - 1) % 16).toInt = n.toInt - 1) 17 (by decide) (by decide +kernel) n (by omega) h1 h0
def own_get (f : Nat → Value) (n seq : Int32) : Value := if seq < 1 ∨ ¬ seq < 1 + n then .null else f (seq.toInt - 1).toNat
theorem own_addI (n : Int32) (h0 : 0 ≤ n.toInt) (h1 : n.toInt ≤ 3) : (1 + n).toInt = 1 + n.toInt := by
  have e := c_iadd 1 n
  have r := rng32 (1 + n)
  rw [show (1 : Int32).toInt = 1 from rfl] at e
  omega
theorem ef_rm_rec (m : MethodId) (x0 : Addr)  : entryFrame m #[(.ref x0)] 1 = mkF m 0 #[.val (.ref x0)] [] := by first | (simp [entryFrame, mkF, argsToLocals, Value.category]; done) | rfl
theorem pn_1 : plainFor (⟨"java/lang/Record", "<init>", "()V"⟩ : MethodName) = true := by first | exact plainFor_of_name (by first | (simp [plainName, overriddenIn]; done) | decide +kernel) | decide +kernel
set_option maxRecDepth 65536 in
set_option maxHeartbeats 40000000 in
theorem rm_rec (l : Launch) (Z : State) (a0 : Array Value) (hw : ∀ d ∈ tables_1, d.before a0 Z = true) (a : Addr) (h0 : Heap) :
    Ctr l Z (⟨"java/lang/Record", "<init>", "()V"⟩ : MethodName) jdk_30_method_1_code 1 (Option.none : Option FieldType) [] ({ frames := 1, cells := 0, slots := 0, locals := 12 } : Room) ({ frames := 1, cells := 0, slots := 0, locals := 12 } : Room).cells ({ frames := 1, cells := 0, slots := 0, locals := 12 } : Room).slots #[(.ref a)] h0 (fun v h L => v = none ∧ L = [] ∧ h = h0) := by
  refine Ctr.of pn_1 ?_
  intro p e s m below meth c s₁ hx hby hml hown hnm hret hlk hZ X0 e0
  refine Goes.cast (ef_rm_rec m a) ?_
  refine g_aload_n (i := 0) X0 hx (hb hby d2_0) (by rfl) rfl rfl ?_
  refine g_initO X0 hx hZ hown (wd hw 21 rfl) (wd hw 22 rfl) (wd hw 23 rfl) e0 (by rw [hml]; rfl) (hb hby d2_1) rfl (by decide) (by decide) ?_
  intro T2 X2 e2
  exact g_ret X2 hx hlk hret e2 (by decide) (by decide) (hb hby d2_4) ⟨rfl, rfl, rfl⟩
theorem ef_rm_sent (m : MethodId) (x0 : Addr) (x1 : Addr) (x2 : Addr) (x3 : Addr)  : entryFrame m #[(.ref x0), (.ref x1), (.ref x2), (.ref x3)] 4 = mkF m 0 #[.val (.ref x0), .val (.ref x1), .val (.ref x2), .val (.ref x3)] [] := by first | (simp [entryFrame, mkF, argsToLocals, Value.category]; done) | rfl
theorem pn_3 : plainFor (⟨"com/example/matchwerk/matchwerk/fix/SentMessages$Sent", "<init>", "(Ljava/lang/String;Ljava/lang/String;Ljava/lang/String;)V"⟩ : MethodName) = true := by first | exact plainFor_of_name (by first | (simp [plainName, overriddenIn]; done) | decide +kernel) | decide +kernel
theorem pd_4 : parseMethodDescriptor "()V" = some ⟨[], none⟩ := by decide +kernel
set_option maxRecDepth 65536 in
set_option maxHeartbeats 40000000 in
theorem rm_sent (l : Launch) (Z : State) (a0 : Array Value) (hw : ∀ d ∈ tables_1, d.before a0 Z = true) (a x y z : Addr) (h0 : Heap) (n0 : Nat) (ga : n0 ≤ a) (E : Exa Z h0 a "com/example/matchwerk/matchwerk/fix/SentMessages$Sent") (F_type : Fld Z h0 a "com/example/matchwerk/matchwerk/fix/SentMessages$Sent" "type" "Ljava/lang/String;" .null) (F_fieldText : Fld Z h0 a "com/example/matchwerk/matchwerk/fix/SentMessages$Sent" "fieldText" "Ljava/lang/String;" .null) (F_sendingTime : Fld Z h0 a "com/example/matchwerk/matchwerk/fix/SentMessages$Sent" "sendingTime" "Ljava/lang/String;" .null) :
    Ctr l Z (⟨"com/example/matchwerk/matchwerk/fix/SentMessages$Sent", "<init>", "(Ljava/lang/String;Ljava/lang/String;Ljava/lang/String;)V"⟩ : MethodName) prog_54_method_1_code 4 (Option.none : Option FieldType) [] ({ frames := 2, cells := 0, slots := 0, locals := 24 } : Room) ({ frames := 2, cells := 0, slots := 0, locals := 24 } : Room).cells ({ frames := 2, cells := 0, slots := 0, locals := 24 } : Room).slots #[(.ref a), (.ref x), (.ref y), (.ref z)] h0 (fun v h L => v = none ∧ Fr n0 L ∧ Keep h0 h [a] ∧ Exa Z h a "com/example/matchwerk/matchwerk/fix/SentMessages$Sent") := by
  refine Ctr.of pn_3 ?_
  intro p e s m below meth c s₁ hx hby hml hown hnm hret hlk hZ X0 e0
  refine Goes.cast (ef_rm_sent m a x y z) ?_
  refine g_aload_n (i := 0) X0 hx (hb hby d1_0) (by rfl) rfl rfl ?_
  refine g_callI X0 hx hZ rfl hown (wd hw 16 rfl) (wd hw 17 rfl) (wd hw 19 rfl) (wd hw 20 rfl) (by decide) e0 (rm_rec l Z a0 hw a h0) (by rw [hml]; rfl) a [] [] rfl (lenOf pd_4 rfl) rfl (by show 0 + (1 + 11) + 12 ≤ _; decide) (by decide) (by decide) (by decide) (hb hby d1_1) rfl ?_
  intro T4 v4 L4 X4 hQ4
  obtain ⟨rfl, rfl, e4⟩ := hQ4
  have N4 := Fr.app (Fr.nil n0) (Fr.nil n0)
  show Goes p e below _ T4 (mkF m 4 #[.val (.ref a), .val (.ref x), .val (.ref y), .val (.ref z)] [])
  have K0 := Keep.refl h0 [a]
  refine g_aload_n (i := 0) X4 hx (hb hby d1_4) (by rfl) rfl rfl ?_
  refine g_aload_n (i := 1) X4 hx (hb hby d1_5) (by rfl) rfl rfl ?_
  refine g_putF X4 hx hZ hown (wd hw 24 rfl) e4 F_type E (Or.inr ⟨wd hw 25 rfl, rfl, hnm⟩) (wd hw 1 rfl) (ty := (.object "java/lang/String")) (by decide) rfl rfl (hb hby d1_6) rfl ?_
  intro T5 h5 X5 e5 W5
  have N5 := Fr.snoc X5 N4 ga
  have E5_ := E.wr W5
  have F5_type := F_type.same W5
  have F5_fieldText := F_fieldText.other W5 (Or.inr (slot_ne (C := "com/example/matchwerk/matchwerk/fix/SentMessages$Sent") (Or.inr (wd hw 27 rfl)) (Or.inr (wd hw 25 rfl)) (by decide) (t := (.object "java/lang/String")) (t' := (.object "java/lang/String")) (by decide) (by decide)))
  have F5_sendingTime := F_sendingTime.other W5 (Or.inr (slot_ne (C := "com/example/matchwerk/matchwerk/fix/SentMessages$Sent") (Or.inr (wd hw 29 rfl)) (Or.inr (wd hw 25 rfl)) (by decide) (t := (.object "java/lang/String")) (t' := (.object "java/lang/String")) (by decide) (by decide)))
  have K5 := K0.wr W5 (Or.inl (List.mem_singleton.mpr rfl))
  refine g_aload_n (i := 0) X5 hx (hb hby d1_9) (by rfl) rfl rfl ?_
  refine g_aload_n (i := 2) X5 hx (hb hby d1_10) (by rfl) rfl rfl ?_
  refine g_putF X5 hx hZ hown (wd hw 26 rfl) e5 F5_fieldText E5_ (Or.inr ⟨wd hw 27 rfl, rfl, hnm⟩) (wd hw 1 rfl) (ty := (.object "java/lang/String")) (by decide) rfl rfl (hb hby d1_11) rfl ?_
  intro T6 h6 X6 e6 W6
  have N6 := Fr.snoc X6 N5 ga
  have E6_ := E5_.wr W6
  have F6_type := F5_type.other W6 (Or.inr (slot_ne (C := "com/example/matchwerk/matchwerk/fix/SentMessages$Sent") (Or.inr (wd hw 25 rfl)) (Or.inr (wd hw 27 rfl)) (by decide) (t := (.object "java/lang/String")) (t' := (.object "java/lang/String")) (by decide) (by decide)))
  have F6_fieldText := F5_fieldText.same W6
  have F6_sendingTime := F5_sendingTime.other W6 (Or.inr (slot_ne (C := "com/example/matchwerk/matchwerk/fix/SentMessages$Sent") (Or.inr (wd hw 29 rfl)) (Or.inr (wd hw 27 rfl)) (by decide) (t := (.object "java/lang/String")) (t' := (.object "java/lang/String")) (by decide) (by decide)))
  have K6 := K5.wr W6 (Or.inl (List.mem_singleton.mpr rfl))
  refine g_aload_n (i := 0) X6 hx (hb hby d1_14) (by rfl) rfl rfl ?_
  refine g_aload_n (i := 3) X6 hx (hb hby d1_15) (by rfl) rfl rfl ?_
  refine g_putF X6 hx hZ hown (wd hw 28 rfl) e6 F6_sendingTime E6_ (Or.inr ⟨wd hw 29 rfl, rfl, hnm⟩) (wd hw 1 rfl) (ty := (.object "java/lang/String")) (by decide) rfl rfl (hb hby d1_16) rfl ?_
  intro T7 h7 X7 e7 W7
  have N7 := Fr.snoc X7 N6 ga
  have E7_ := E6_.wr W7
  have F7_type := F6_type.other W7 (Or.inr (slot_ne (C := "com/example/matchwerk/matchwerk/fix/SentMessages$Sent") (Or.inr (wd hw 25 rfl)) (Or.inr (wd hw 29 rfl)) (by decide) (t := (.object "java/lang/String")) (t' := (.object "java/lang/String")) (by decide) (by decide)))
  have F7_fieldText := F6_fieldText.other W7 (Or.inr (slot_ne (C := "com/example/matchwerk/matchwerk/fix/SentMessages$Sent") (Or.inr (wd hw 27 rfl)) (Or.inr (wd hw 29 rfl)) (by decide) (t := (.object "java/lang/String")) (t' := (.object "java/lang/String")) (by decide) (by decide)))
  have F7_sendingTime := F6_sendingTime.same W7
  have K7 := K6.wr W7 (Or.inl (List.mem_singleton.mpr rfl))
  exact g_ret X7 hx hlk hret e7 (by decide) (by decide) (hb hby d1_19) ⟨rfl, N7, K7, E7_⟩
theorem ef_rm_init (m : MethodId) (x0 : Addr)  : entryFrame m #[(.ref x0)] 1 = mkF m 0 #[.val (.ref x0)] [] := by first | (simp [entryFrame, mkF, argsToLocals, Value.category]; done) | rfl
theorem pn_8 : plainFor (⟨"com/example/matchwerk/matchwerk/fix/SentMessages", "<init>", "()V"⟩ : MethodName) = true := by first | exact plainFor_of_name (by first | (simp [plainName, overriddenIn]; done) | decide +kernel) | decide +kernel
set_option maxRecDepth 65536 in
set_option maxHeartbeats 40000000 in
theorem rm_init (l : Launch) (Z : State) (a0 : Array Value) (hw : ∀ d ∈ tables_1, d.before a0 Z = true) (a : Addr) (h0 : Heap) (n0 : Nat) (Z0 : n0 ≤ h0.size) (ga : n0 ≤ a) (E : Exa Z h0 a "com/example/matchwerk/matchwerk/fix/SentMessages") (F_ring : Fld Z h0 a "com/example/matchwerk/matchwerk/fix/SentMessages" "ring" "[Lcom/example/matchwerk/matchwerk/fix/SentMessages$Sent;" .null) (F_first : Fld Z h0 a "com/example/matchwerk/matchwerk/fix/SentMessages" "first" "I" (.int 0)) (F_head : Fld Z h0 a "com/example/matchwerk/matchwerk/fix/SentMessages" "head" "I" (.int 0)) (F_count : Fld Z h0 a "com/example/matchwerk/matchwerk/fix/SentMessages" "count" "I" (.int 0)) :
    Ctr l Z (⟨"com/example/matchwerk/matchwerk/fix/SentMessages", "<init>", "()V"⟩ : MethodName) prog_53_method_1_code 1 (Option.none : Option FieldType) [] ({ frames := 1, cells := 1, slots := 16, locals := 12 } : Room) ({ frames := 1, cells := 1, slots := 16, locals := 12 } : Room).cells ({ frames := 1, cells := 1, slots := 16, locals := 12 } : Room).slots #[(.ref a)] h0 (fun v h L => v = none ∧ Fr n0 L ∧ Keep h0 h [a] ∧ ∃ r, n0 ≤ r ∧ own_sm Z h a r 0 (fun _ => .null)) := by
  refine Ctr.of pn_8 ?_
  intro p e s m below meth c s₁ hx hby hml hown hnm hret hlk hZ X0 e0
  refine Goes.cast (ef_rm_init m a) ?_
  refine g_aload_n (i := 0) X0 hx (hb hby d4_0) (by rfl) rfl rfl ?_
  refine g_initO X0 hx hZ hown (wd hw 36 rfl) (wd hw 22 rfl) (wd hw 23 rfl) e0 (by rw [hml]; rfl) (hb hby d4_1) rfl (by decide) (by decide) ?_
  intro T9 X9 e9
  refine g_aload_n (i := 0) X9 hx (hb hby d4_4) (by rfl) rfl rfl ?_
  refine g_bipush (v := (16 : Int32)) X9 hx (hb hby d4_5) (by decide) rfl ?_
  refine g_newR X9 hx hZ hown (wd hw 37 rfl) (wd hw 38 rfl) e9 (hb hby d4_7) rfl (by decide) 16 (by decide) (by decide) (by decide) (by decide) ?_
  intro T10 h10 cA10 a10 X10 e10 g10 Ex10 A10 O10
  have hra : ¬ a10 = a := fun q => absurd E.lt (by rw [← q, g10]; exact Nat.lt_irrefl _)
  have hgr : n0 ≤ a10 := by rw [g10]; exact Z0
  have K0 := (Keep.refl h0 [a]).ext Ex10
  have G_ring := F_ring.ext Ex10
  have G_first := F_first.ext Ex10
  have G_head := F_head.ext Ex10
  have G_count := F_count.ext Ex10
  have EE := E.ext Ex10
  refine g_putF X10 hx hZ hown (wd hw 39 rfl) e10 G_ring EE (Or.inl (wd hw 40 rfl)) (wd hw 31 rfl) (ty := (.array (.object "com/example/matchwerk/matchwerk/fix/SentMessages$Sent"))) (by decide) rfl rfl (hb hby d4_10) rfl ?_
  intro T11 h11 X11 e11 W11
  have N11 := Fr.snoc X11 (Fr.nil n0) ga
  have E11_ := EE.wr W11
  have F11_ring := G_ring.same W11
  have F11_first := G_first.other W11 (Or.inr (slot_ne (C := "com/example/matchwerk/matchwerk/fix/SentMessages") (Or.inl (wd hw 42 rfl)) (Or.inl (wd hw 40 rfl)) (by decide) (t := .int) (t' := (.array (.object "com/example/matchwerk/matchwerk/fix/SentMessages$Sent"))) (by decide) (by decide)))
  have F11_head := G_head.other W11 (Or.inr (slot_ne (C := "com/example/matchwerk/matchwerk/fix/SentMessages") (Or.inl (wd hw 61 rfl)) (Or.inl (wd hw 40 rfl)) (by decide) (t := .int) (t' := (.array (.object "com/example/matchwerk/matchwerk/fix/SentMessages$Sent"))) (by decide) (by decide)))
  have F11_count := G_count.other W11 (Or.inr (slot_ne (C := "com/example/matchwerk/matchwerk/fix/SentMessages") (Or.inl (wd hw 58 rfl)) (Or.inl (wd hw 40 rfl)) (by decide) (t := .int) (t' := (.array (.object "com/example/matchwerk/matchwerk/fix/SentMessages$Sent"))) (by decide) (by decide)))
  have K11 := K0.wr W11 (Or.inl (List.mem_singleton.mpr rfl))
  refine g_aload_n (i := 0) X11 hx (hb hby d4_13) (by rfl) rfl rfl ?_
  refine g_iconst (v := (1 : Int32)) X11 hx (hb hby d4_14) (by decide) rfl ?_
  refine g_putF X11 hx hZ hown (wd hw 41 rfl) e11 F11_first E11_ (Or.inl (wd hw 42 rfl)) (wd hw 31 rfl) (ty := .int) (by decide) rfl rfl (hb hby d4_15) rfl ?_
  intro T12 h12 X12 e12 W12
  have N12 := Fr.snoc X12 N11 ga
  have E12_ := E11_.wr W12
  have F12_ring := F11_ring.other W12 (Or.inr (slot_ne (C := "com/example/matchwerk/matchwerk/fix/SentMessages") (Or.inl (wd hw 40 rfl)) (Or.inl (wd hw 42 rfl)) (by decide) (t := (.array (.object "com/example/matchwerk/matchwerk/fix/SentMessages$Sent"))) (t' := .int) (by decide) (by decide)))
  have F12_first := F11_first.same W12
  have F12_head := F11_head.other W12 (Or.inr (slot_ne (C := "com/example/matchwerk/matchwerk/fix/SentMessages") (Or.inl (wd hw 61 rfl)) (Or.inl (wd hw 42 rfl)) (by decide) (t := .int) (t' := .int) (by decide) (by decide)))
  have F12_count := F11_count.other W12 (Or.inr (slot_ne (C := "com/example/matchwerk/matchwerk/fix/SentMessages") (Or.inl (wd hw 58 rfl)) (Or.inl (wd hw 42 rfl)) (by decide) (t := .int) (t' := .int) (by decide) (by decide)))
  have K12 := K11.wr W12 (Or.inl (List.mem_singleton.mpr rfl))
  exact g_ret X12 hx hlk hret e12 (by decide) (by decide) (hb hby d4_18) ⟨rfl, N12, K12, a10, hgr, E12_, F12_ring, F12_first, F12_head, F12_count, hra, _, (A10.other W11 hra).other W12 hra, O10, sz_new _ _ _, fun j hj => by simp only [newA]; rw [Array.getElem?_replicate, if_pos (show j < Int32.toNatClampNeg 16 from hj)]; rfl⟩
theorem ef_rm_add (m : MethodId) (x0 : Addr) (x1 : Value) (hx1 : x1.isRef = true) : entryFrame m #[(.ref x0), x1] 2 = mkF m 0 #[.val (.ref x0), .val x1] [] := by rcases ref_cases hx1 with rfl | ⟨_, rfl⟩ <;> rfl
theorem pn_13 : plainFor (⟨"com/example/matchwerk/matchwerk/fix/SentMessages", "add", "(Lcom/example/matchwerk/matchwerk/fix/SentMessages$Sent;)V"⟩ : MethodName) = true := by first | exact plainFor_of_name (by first | (simp [plainName, overriddenIn]; done) | decide +kernel) | decide +kernel
set_option maxRecDepth 65536 in
set_option maxHeartbeats 40000000 in
theorem rm_add (l : Launch) (Z : State) (a0 : Array Value) (hw : ∀ d ∈ tables_1, d.before a0 Z = true) (a r : Addr) (v : Value) (n : Int32) (f : Nat → Value) (h0 : Heap) (n0 : Nat) (ga : n0 ≤ a) (gr : n0 ≤ r) (H : own_sm Z h0 a r n f) (hv : own_sent Z h0 v) (q0 : 0 ≤ n.toInt) (q1 : n.toInt < 3) (hc_v : v.category = 1) (hr_v : v.isRef = true) :
    Ctr l Z (⟨"com/example/matchwerk/matchwerk/fix/SentMessages", "add", "(Lcom/example/matchwerk/matchwerk/fix/SentMessages$Sent;)V"⟩ : MethodName) prog_53_method_2_code 2 (Option.none : Option FieldType) [] ({ frames := 0, cells := 0, slots := 0, locals := 0 } : Room) ({ frames := 0, cells := 0, slots := 0, locals := 0 } : Room).cells ({ frames := 0, cells := 0, slots := 0, locals := 0 } : Room).slots #[(.ref a), v] h0 (fun u h L => u = none ∧ Fr n0 L ∧ Keep h0 h [a, r] ∧ own_sm Z h a r (n + 1) (fun j => if j = n.toInt.toNat then v else f j)) := by
  refine Ctr.of pn_13 ?_
  intro p e s m below meth c s₁ hx hby hml hown hnm hret hlk hZ X0 e0
  refine Goes.cast (ef_rm_add m a v hr_v) ?_
  obtain ⟨E, Fr', Ff, Fh, Fc, hra, cl, Ar, Ov, hsz, hat⟩ := H
  have n16 : ¬ n = 16 := fun q => by rw [q] at q1; revert q1; decide
  have n2 : ¬ n = 200000 := fun q => by rw [q] at q1; revert q1; decide
  have hin : ¬ (n < 0 ∨ cl.slots.size ≤ n.toNatClampNeg) := by rw [hsz, own_tnc]; rintro (q | q); exact own_nneg q0 q; omega
  refine g_aload_n (i := 0) X0 hx (hb hby d7_0) (by rfl) rfl rfl ?_
  refine g_getF X0 hx hZ hown (wd hw 57 rfl) e0 Fc (hb hby d7_1) rfl ?_
  intro T14 X14 e14
  refine g_aload_n (i := 0) X14 hx (hb hby d7_4) (by rfl) rfl rfl ?_
  refine g_getF X14 hx hZ hown (wd hw 39 rfl) e14 Fr' (hb hby d7_5) rfl ?_
  intro T15 X15 e15
  refine g_arraylength (n := (16 : Int32)) X15 hx hZ e15 Ar (by rw [hsz] <;> rfl) (hb hby d7_8) rfl ?_
  refine g_icmp_ne X15 hx (hb hby d7_9) (by decide) (pt := 47) (by decide) rfl (fun _ => ?_) (fun q_ => absurd q_ (n16))
  refine g_aload_n (i := 0) X15 hx (hb hby d7_47) (by rfl) rfl rfl ?_
  refine g_getF X15 hx hZ hown (wd hw 57 rfl) e15 Fc (hb hby d7_48) rfl ?_
  intro T16 X16 e16
  refine g_ldcI X16 hx hZ hown (wd hw 59 rfl) (hb hby d7_51) rfl ?_
  refine g_icmp_ne X16 hx (hb hby d7_53) (by decide) (pt := 95) (by decide) rfl (fun _ => ?_) (fun q_ => absurd q_ (n2))
  refine g_aload_n (i := 0) X16 hx (hb hby d7_95) (by rfl) rfl rfl ?_
  refine g_getF X16 hx hZ hown (wd hw 39 rfl) e16 Fr' (hb hby d7_96) rfl ?_
  intro T17 X17 e17
  refine g_aload_n (i := 0) X17 hx (hb hby d7_99) (by rfl) rfl rfl ?_
  refine g_getF X17 hx hZ hown (wd hw 60 rfl) e17 Fh (hb hby d7_100) rfl ?_
  intro T18 X18 e18
  refine g_aload_n (i := 0) X18 hx (hb hby d7_103) (by rfl) rfl rfl ?_
  refine g_getF X18 hx hZ hown (wd hw 57 rfl) e18 Fc (hb hby d7_104) rfl ?_
  intro T19 X19 e19
  refine g_iadd X19 hx (hb hby d7_107) rfl ?_
  refine g_aload_n (i := 0) X19 hx (hb hby d7_108) (by rfl) rfl rfl ?_
  refine g_getF X19 hx hZ hown (wd hw 39 rfl) e19 Fr' (hb hby d7_109) rfl ?_
  intro T20 X20 e20
  refine g_arraylength (n := (16 : Int32)) X20 hx hZ e20 Ar (by rw [hsz] <;> rfl) (hb hby d7_112) rfl ?_
  refine g_irem X20 hx (hb hby d7_113) (by decide) rfl ?_
  rw [own_idx0 n q0 (by omega)]
  refine g_aload_n (i := 1) X20 hx (hb hby d7_114) (by rfl) hr_v rfl ?_
  have hst : Sto Z h0 r v := by
    rcases hv with rfl | ⟨y, rfl, Ey⟩
    · exact Or.inl rfl
    · exact Sto.of Ar Ov (Ins.self Ey)
  refine g_aastore X20 hx hZ e20 Ar rfl hst hin (hb hby d7_115) rfl ?_
  intro T21 h21 X21 e21 W21
  have N21 := Fr.snoc X21 (Fr.nil n0) gr
  have B := Ar.same W21
  have K1 : Keep h0 h21 [a, r] := (Keep.refl h0 [a, r]).wr W21 (Or.inl (by simp))
  have G_ring := Fr'.other W21 (Or.inl (Ne.symm hra))
  have G_first := Ff.other W21 (Or.inl (Ne.symm hra))
  have G_head := Fh.other W21 (Or.inl (Ne.symm hra))
  have G_count := Fc.other W21 (Or.inl (Ne.symm hra))
  have EE := E.wr W21
  refine g_aload_n (i := 0) X21 hx (hb hby d7_116) (by rfl) rfl rfl ?_
  refine g_dup X21 hx (hb hby d7_117) rfl rfl ?_
  refine g_getF X21 hx hZ hown (wd hw 57 rfl) e21 G_count (hb hby d7_118) rfl ?_
  intro T22 X22 e22
  refine g_iconst (v := (1 : Int32)) X22 hx (hb hby d7_121) (by decide) rfl ?_
  refine g_iadd X22 hx (hb hby d7_122) rfl ?_
  refine g_putF X22 hx hZ hown (wd hw 57 rfl) e22 G_count EE (Or.inl (wd hw 58 rfl)) (wd hw 31 rfl) (ty := .int) (by decide) rfl rfl (hb hby d7_123) rfl ?_
  intro T23 h23 X23 e23 W23
  have N23 := Fr.snoc X23 N21 ga
  have E23_ := EE.wr W23
  have F23_ring := G_ring.other W23 (Or.inr (slot_ne (C := "com/example/matchwerk/matchwerk/fix/SentMessages") (Or.inl (wd hw 40 rfl)) (Or.inl (wd hw 58 rfl)) (by decide) (t := (.array (.object "com/example/matchwerk/matchwerk/fix/SentMessages$Sent"))) (t' := .int) (by decide) (by decide)))
  have F23_first := G_first.other W23 (Or.inr (slot_ne (C := "com/example/matchwerk/matchwerk/fix/SentMessages") (Or.inl (wd hw 42 rfl)) (Or.inl (wd hw 58 rfl)) (by decide) (t := .int) (t' := .int) (by decide) (by decide)))
  have F23_head := G_head.other W23 (Or.inr (slot_ne (C := "com/example/matchwerk/matchwerk/fix/SentMessages") (Or.inl (wd hw 61 rfl)) (Or.inl (wd hw 58 rfl)) (by decide) (t := .int) (t' := .int) (by decide) (by decide)))
  have F23_count := G_count.same W23
  have K2 : Keep h0 h23 [a, r] := K1.wr W23 (Or.inl (by simp))
  refine g_ret X23 hx hlk hret e23 (by decide) (by decide) (hb hby d7_126) ⟨rfl, N23, K2, E23_, F23_ring, F23_first, F23_head, F23_count, hra, _, B.other W23 hra, Ov, by rw [sz_set]; exact hsz, fun j hj => ?_⟩
  by_cases q : j = n.toInt.toNat
  · subst q
    show _ = some (if n.toInt.toNat = n.toInt.toNat then v else f n.toInt.toNat)
    rw [if_pos rfl]
    simp only [Cell.setSlot]
    exact Array.getElem?_setIfInBounds_self_of_lt (by rw [hsz]; exact hj)
  · show _ = some (if j = n.toInt.toNat then v else f j)
    rw [if_neg q]
    simp only [Cell.setSlot]
    rw [Array.getElem?_setIfInBounds_ne (show n.toNatClampNeg ≠ j from fun e => q e.symm)]
    exact hat j hj
theorem ef_rm_get (m : MethodId) (x0 : Addr) (x1 : Int32)  : entryFrame m #[(.ref x0), (.int x1)] 2 = mkF m 0 #[.val (.ref x0), .val (.int x1)] [] := by first | (simp [entryFrame, mkF, argsToLocals, Value.category]; done) | rfl
theorem pn_24 : plainFor (⟨"com/example/matchwerk/matchwerk/fix/SentMessages", "get", "(I)Lcom/example/matchwerk/matchwerk/fix/SentMessages$Sent;"⟩ : MethodName) = true := by first | exact plainFor_of_name (by first | (simp [plainName, overriddenIn]; done) | decide +kernel) | decide +kernel
set_option maxRecDepth 65536 in
set_option maxHeartbeats 40000000 in
theorem rm_get (l : Launch) (Z : State) (a0 : Array Value) (hw : ∀ d ∈ tables_1, d.before a0 Z = true) (a r : Addr) (seq n : Int32) (f : Nat → Value) (h0 : Heap) (H : own_sm Z h0 a r n f) (hf : ∀ j, (f j).isRef = true) (q0 : 0 ≤ n.toInt) (q1 : n.toInt ≤ 3) :
    Ctr l Z (⟨"com/example/matchwerk/matchwerk/fix/SentMessages", "get", "(I)Lcom/example/matchwerk/matchwerk/fix/SentMessages$Sent;"⟩ : MethodName) prog_53_method_3_code 2 (Option.some (FieldType.object "com/example/matchwerk/matchwerk/fix/SentMessages$Sent")) [] ({ frames := 0, cells := 0, slots := 0, locals := 0 } : Room) ({ frames := 0, cells := 0, slots := 0, locals := 0 } : Room).cells ({ frames := 0, cells := 0, slots := 0, locals := 0 } : Room).slots #[(.ref a), (.int seq)] h0 (fun u h L => u = some (own_get f n seq) ∧ L = [] ∧ h = h0) := by
  refine Ctr.of pn_24 ?_
  intro p e s m below meth c s₁ hx hby hml hown hnm hret hlk hZ X0 e0
  refine Goes.cast (ef_rm_get m a seq) ?_
  obtain ⟨E, Fr', Ff, Fh, Fc, hra, cl, Ar, Ov, hsz, hat⟩ := H
  have en := own_addI n q0 q1
  refine g_iload_n (i := 1) X0 hx (hb hby d5_0) (by rfl) rfl ?_
  refine g_aload_n (i := 0) X0 hx (hb hby d5_1) (by rfl) rfl rfl ?_
  refine g_getF X0 hx hZ hown (wd hw 41 rfl) e0 Ff (hb hby d5_2) rfl ?_
  intro T25 X25 e25
  refine g_icmp_lt X25 hx (hb hby d5_5) (by decide) (pt := 46) (by decide) rfl (fun q2 => ?_) (fun q2 => ?_)
  · refine g_aconst_null X25 hx (hb hby d5_46) rfl ?_
    exact g_retA X25 hx rfl rfl hlk hret e25 (by decide) (by decide) (hb hby d5_47) ⟨by simp [own_get, q2], rfl, rfl⟩
  · refine g_iload_n (i := 1) X25 hx (hb hby d5_8) (by rfl) rfl ?_
    refine g_aload_n (i := 0) X25 hx (hb hby d5_9) (by rfl) rfl rfl ?_
    refine g_getF X25 hx hZ hown (wd hw 41 rfl) e25 Ff (hb hby d5_10) rfl ?_
    intro T26 X26 e26
    refine g_aload_n (i := 0) X26 hx (hb hby d5_13) (by rfl) rfl rfl ?_
    refine g_getF X26 hx hZ hown (wd hw 57 rfl) e26 Fc (hb hby d5_14) rfl ?_
    intro T27 X27 e27
    refine g_iadd X27 hx (hb hby d5_17) rfl ?_
    refine g_icmp_ge X27 hx (hb hby d5_18) (by decide) (pt := 46) (by decide) rfl (fun q3 => ?_) (fun q3 => ?_)
    · refine g_aconst_null X27 hx (hb hby d5_46) rfl ?_
      exact g_retA X27 hx rfl rfl hlk hret e27 (by decide) (by decide) (hb hby d5_47) ⟨by simp [own_get, q3], rfl, rfl⟩
    · have z2 := q2
      have z3 := q3
      rw [own_ltI] at z2 z3
      rw [show (1 : Int32).toInt = 1 from rfl] at z2
      rw [en] at z3
      have ei := own_idx1 seq (by omega) (by omega)
      refine g_aload_n (i := 0) X27 hx (hb hby d5_21) (by rfl) rfl rfl ?_
      refine g_getF X27 hx hZ hown (wd hw 39 rfl) e27 Fr' (hb hby d5_22) rfl ?_
      intro T28 X28 e28
      refine g_aload_n (i := 0) X28 hx (hb hby d5_25) (by rfl) rfl rfl ?_
      refine g_getF X28 hx hZ hown (wd hw 60 rfl) e28 Fh (hb hby d5_26) rfl ?_
      intro T29 X29 e29
      refine g_iload_n (i := 1) X29 hx (hb hby d5_29) (by rfl) rfl ?_
      refine g_iadd X29 hx (hb hby d5_30) rfl ?_
      refine g_aload_n (i := 0) X29 hx (hb hby d5_31) (by rfl) rfl rfl ?_
      refine g_getF X29 hx hZ hown (wd hw 41 rfl) e29 Ff (hb hby d5_32) rfl ?_
      intro T30 X30 e30
      refine g_isub X30 hx (hb hby d5_35) rfl ?_
      refine g_aload_n (i := 0) X30 hx (hb hby d5_36) (by rfl) rfl rfl ?_
      refine g_getF X30 hx hZ hown (wd hw 39 rfl) e30 Fr' (hb hby d5_37) rfl ?_
      intro T31 X31 e31
      refine g_arraylength (n := (16 : Int32)) X31 hx hZ e31 Ar (by rw [hsz] <;> rfl) (hb hby d5_40) rfl ?_
      refine g_irem X31 hx (hb hby d5_41) (by decide) rfl ?_
      have ec : (((0 : Int32) + seq - 1) % 16).toNatClampNeg = (seq.toInt - 1).toNat := by rw [own_tnc, ei]
      have hr_v := hf (seq.toInt - 1).toNat
      refine g_aaload X31 hx hZ e31 Ar rfl (by rw [hsz, ec]; rintro (q | q); exact own_nneg (by omega) q; omega) (by rw [ec]; exact hat _ (by omega)) (hb hby d5_42) rfl ?_
      refine g_goto X31 hx (hb hby d5_43) (by decide) (by decide) (pc' := 47) ?_
      exact g_retA X31 hx hr_v rfl hlk hret e31 (by decide) (by decide) (hb hby d5_47) ⟨by simp only [own_get]; rw [if_neg (by rintro (q | q); exact q2 q; exact q q3)], rfl, rfl⟩
theorem ef_rm_exp (m : MethodId) (x0 : Int32) (x1 : Int32) (x2 : Value) (x3 : Value) (x4 : Value) (hx2 : x2.isRef = true) (hx3 : x3.isRef = true) (hx4 : x4.isRef = true) : entryFrame m #[(.int x0), (.int x1), x2, x3, x4] 5 = mkF m 0 #[.val (.int x0), .val (.int x1), .val x2, .val x3, .val x4] [] := by rcases ref_cases hx2 with rfl | ⟨_, rfl⟩ <;> rcases ref_cases hx3 with rfl | ⟨_, rfl⟩ <;> rcases ref_cases hx4 with rfl | ⟨_, rfl⟩ <;> rfl
theorem pn_32 : plainFor (⟨"com/example/matchwerk/matchwerk/fix/SentMessagesGetPinLaw", "expected", "(IILcom/example/matchwerk/matchwerk/fix/SentMessages$Sent;Lcom/example/matchwerk/matchwerk/fix/SentMessages$Sent;Lcom/example/matchwerk/matchwerk/fix/SentMessages$Sent;)Lcom/example/matchwerk/matchwerk/fix/SentMessages$Sent;"⟩ : MethodName) = true := by first | exact plainFor_of_name (by first | (simp [plainName, overriddenIn]; done) | decide +kernel) | decide +kernel
set_option maxRecDepth 65536 in
set_option maxHeartbeats 40000000 in
theorem rm_exp (l : Launch) (Z : State) (a0 : Array Value) (hw : ∀ d ∈ tables_1, d.before a0 Z = true) (n seq : Int32) (u v w : Value) (h0 : Heap) (hr_u : u.isRef = true) (hr_v : v.isRef = true) (hr_w : w.isRef = true) (hc_u : u.category = 1) (hc_v : v.category = 1) (hc_w : w.category = 1) :
    Ctr l Z (⟨"com/example/matchwerk/matchwerk/fix/SentMessagesGetPinLaw", "expected", "(IILcom/example/matchwerk/matchwerk/fix/SentMessages$Sent;Lcom/example/matchwerk/matchwerk/fix/SentMessages$Sent;Lcom/example/matchwerk/matchwerk/fix/SentMessages$Sent;)Lcom/example/matchwerk/matchwerk/fix/SentMessages$Sent;"⟩ : MethodName) method_3_code 5 (Option.some (FieldType.object "com/example/matchwerk/matchwerk/fix/SentMessages$Sent")) [] ({ frames := 0, cells := 0, slots := 0, locals := 0 } : Room) ({ frames := 0, cells := 0, slots := 0, locals := 0 } : Room).cells ({ frames := 0, cells := 0, slots := 0, locals := 0 } : Room).slots #[(.int n), (.int seq), u, v, w] h0 (fun x h L => x = some (if seq = 1 ∧ ¬ n < 1 then u else if seq = 2 ∧ ¬ n < 2 then v else if seq = 3 ∧ ¬ n < 3 then w else .null) ∧ L = [] ∧ h = h0) := by
  refine Ctr.of pn_32 ?_
  intro p e s m below meth c s₁ hx hby hml hown hnm hret hlk hZ X0 e0
  refine Goes.cast (ef_rm_exp m n seq u v w hr_u hr_v hr_w) ?_
  refine g_iload_n (i := 1) X0 hx (hb hby d6_0) (by rfl) rfl ?_
  refine g_iconst (v := (1 : Int32)) X0 hx (hb hby d6_1) (by decide) rfl ?_
  refine g_icmp_ne X0 hx (hb hby d6_2) (by decide) (pt := 12) (by decide) rfl (fun q33 => ?_) (fun q33 => ?_)
  · refine g_iload_n (i := 1) X0 hx (hb hby d6_12) (by rfl) rfl ?_
    refine g_iconst (v := (2 : Int32)) X0 hx (hb hby d6_13) (by decide) rfl ?_
    refine g_icmp_ne X0 hx (hb hby d6_14) (by decide) (pt := 24) (by decide) rfl (fun q34 => ?_) (fun q34 => ?_)
    · refine g_iload_n (i := 1) X0 hx (hb hby d6_24) (by rfl) rfl ?_
      refine g_iconst (v := (3 : Int32)) X0 hx (hb hby d6_25) (by decide) rfl ?_
      refine g_icmp_ne X0 hx (hb hby d6_26) (by decide) (pt := 37) (by decide) rfl (fun q35 => ?_) (fun q35 => ?_)
      · refine g_aconst_null X0 hx (hb hby d6_37) rfl ?_
        exact g_retA X0 hx rfl rfl hlk hret e0 (by decide) (by decide) (hb hby d6_38) ⟨by first | (simp [q33, q34, q35]; done) | (exfalso; revert q33 q34 q35; simp +contextual; done), rfl, rfl⟩
      · refine g_iload_n (i := 0) X0 hx (hb hby d6_29) (by rfl) rfl ?_
        refine g_iconst (v := (3 : Int32)) X0 hx (hb hby d6_30) (by decide) rfl ?_
        refine g_icmp_lt X0 hx (hb hby d6_31) (by decide) (pt := 37) (by decide) rfl (fun q36 => ?_) (fun q36 => ?_)
        · refine g_aconst_null X0 hx (hb hby d6_37) rfl ?_
          exact g_retA X0 hx rfl rfl hlk hret e0 (by decide) (by decide) (hb hby d6_38) ⟨by first | (simp [q33, q34, q35, q36]; done) | (exfalso; revert q33 q34 q35 q36; simp +contextual; done), rfl, rfl⟩
        · refine g_aload (i := 4) X0 hx (hb hby d6_34) (by rfl) hr_w rfl ?_
          exact g_retA X0 hx hr_w rfl hlk hret e0 (by decide) (by decide) (hb hby d6_36) ⟨by first | (simp [q33, q34, q35, q36]; done) | (exfalso; revert q33 q34 q35 q36; simp +contextual; done), rfl, rfl⟩
    · refine g_iload_n (i := 0) X0 hx (hb hby d6_17) (by rfl) rfl ?_
      refine g_iconst (v := (2 : Int32)) X0 hx (hb hby d6_18) (by decide) rfl ?_
      refine g_icmp_lt X0 hx (hb hby d6_19) (by decide) (pt := 24) (by decide) rfl (fun q37 => ?_) (fun q37 => ?_)
      · refine g_iload_n (i := 1) X0 hx (hb hby d6_24) (by rfl) rfl ?_
        refine g_iconst (v := (3 : Int32)) X0 hx (hb hby d6_25) (by decide) rfl ?_
        refine g_icmp_ne X0 hx (hb hby d6_26) (by decide) (pt := 37) (by decide) rfl (fun q38 => ?_) (fun q38 => ?_)
        · refine g_aconst_null X0 hx (hb hby d6_37) rfl ?_
          exact g_retA X0 hx rfl rfl hlk hret e0 (by decide) (by decide) (hb hby d6_38) ⟨by first | (simp [q33, q34, q37, q38]; done) | (exfalso; revert q33 q34 q37 q38; simp +contextual; done), rfl, rfl⟩
        · refine g_iload_n (i := 0) X0 hx (hb hby d6_29) (by rfl) rfl ?_
          refine g_iconst (v := (3 : Int32)) X0 hx (hb hby d6_30) (by decide) rfl ?_
          refine g_icmp_lt X0 hx (hb hby d6_31) (by decide) (pt := 37) (by decide) rfl (fun q39 => ?_) (fun q39 => ?_)
          · refine g_aconst_null X0 hx (hb hby d6_37) rfl ?_
            exact g_retA X0 hx rfl rfl hlk hret e0 (by decide) (by decide) (hb hby d6_38) ⟨by first | (simp [q33, q34, q37, q38, q39]; done) | (exfalso; revert q33 q34 q37 q38 q39; simp +contextual; done), rfl, rfl⟩
          · refine g_aload (i := 4) X0 hx (hb hby d6_34) (by rfl) hr_w rfl ?_
            exact g_retA X0 hx hr_w rfl hlk hret e0 (by decide) (by decide) (hb hby d6_36) ⟨by first | (simp [q33, q34, q37, q38, q39]; done) | (exfalso; revert q33 q34 q37 q38 q39; simp +contextual; done), rfl, rfl⟩
      · refine g_aload_n (i := 3) X0 hx (hb hby d6_22) (by rfl) hr_v rfl ?_
        exact g_retA X0 hx hr_v rfl hlk hret e0 (by decide) (by decide) (hb hby d6_23) ⟨by first | (simp [q33, q34, q37]; done) | (exfalso; revert q33 q34 q37; simp +contextual; done), rfl, rfl⟩
  · refine g_iload_n (i := 0) X0 hx (hb hby d6_5) (by rfl) rfl ?_
    refine g_iconst (v := (1 : Int32)) X0 hx (hb hby d6_6) (by decide) rfl ?_
    refine g_icmp_lt X0 hx (hb hby d6_7) (by decide) (pt := 12) (by decide) rfl (fun q40 => ?_) (fun q40 => ?_)
    · refine g_iload_n (i := 1) X0 hx (hb hby d6_12) (by rfl) rfl ?_
      refine g_iconst (v := (2 : Int32)) X0 hx (hb hby d6_13) (by decide) rfl ?_
      refine g_icmp_ne X0 hx (hb hby d6_14) (by decide) (pt := 24) (by decide) rfl (fun q41 => ?_) (fun q41 => ?_)
      · refine g_iload_n (i := 1) X0 hx (hb hby d6_24) (by rfl) rfl ?_
        refine g_iconst (v := (3 : Int32)) X0 hx (hb hby d6_25) (by decide) rfl ?_
        refine g_icmp_ne X0 hx (hb hby d6_26) (by decide) (pt := 37) (by decide) rfl (fun q42 => ?_) (fun q42 => ?_)
        · refine g_aconst_null X0 hx (hb hby d6_37) rfl ?_
          exact g_retA X0 hx rfl rfl hlk hret e0 (by decide) (by decide) (hb hby d6_38) ⟨by first | (simp [q33, q40, q41, q42]; done) | (exfalso; revert q33 q40 q41 q42; simp +contextual; done), rfl, rfl⟩
        · refine g_iload_n (i := 0) X0 hx (hb hby d6_29) (by rfl) rfl ?_
          refine g_iconst (v := (3 : Int32)) X0 hx (hb hby d6_30) (by decide) rfl ?_
          refine g_icmp_lt X0 hx (hb hby d6_31) (by decide) (pt := 37) (by decide) rfl (fun q43 => ?_) (fun q43 => ?_)
          · refine g_aconst_null X0 hx (hb hby d6_37) rfl ?_
            exact g_retA X0 hx rfl rfl hlk hret e0 (by decide) (by decide) (hb hby d6_38) ⟨by first | (simp [q33, q40, q41, q42, q43]; done) | (exfalso; revert q33 q40 q41 q42 q43; simp +contextual; done), rfl, rfl⟩
          · refine g_aload (i := 4) X0 hx (hb hby d6_34) (by rfl) hr_w rfl ?_
            exact g_retA X0 hx hr_w rfl hlk hret e0 (by decide) (by decide) (hb hby d6_36) ⟨by first | (simp [q33, q40, q41, q42, q43]; done) | (exfalso; revert q33 q40 q41 q42 q43; simp +contextual; done), rfl, rfl⟩
      · refine g_iload_n (i := 0) X0 hx (hb hby d6_17) (by rfl) rfl ?_
        refine g_iconst (v := (2 : Int32)) X0 hx (hb hby d6_18) (by decide) rfl ?_
        refine g_icmp_lt X0 hx (hb hby d6_19) (by decide) (pt := 24) (by decide) rfl (fun q44 => ?_) (fun q44 => ?_)
        · refine g_iload_n (i := 1) X0 hx (hb hby d6_24) (by rfl) rfl ?_
          refine g_iconst (v := (3 : Int32)) X0 hx (hb hby d6_25) (by decide) rfl ?_
          refine g_icmp_ne X0 hx (hb hby d6_26) (by decide) (pt := 37) (by decide) rfl (fun q45 => ?_) (fun q45 => ?_)
          · refine g_aconst_null X0 hx (hb hby d6_37) rfl ?_
            exact g_retA X0 hx rfl rfl hlk hret e0 (by decide) (by decide) (hb hby d6_38) ⟨by first | (simp [q33, q40, q41, q44, q45]; done) | (exfalso; revert q33 q40 q41 q44 q45; simp +contextual; done), rfl, rfl⟩
          · refine g_iload_n (i := 0) X0 hx (hb hby d6_29) (by rfl) rfl ?_
            refine g_iconst (v := (3 : Int32)) X0 hx (hb hby d6_30) (by decide) rfl ?_
            refine g_icmp_lt X0 hx (hb hby d6_31) (by decide) (pt := 37) (by decide) rfl (fun q46 => ?_) (fun q46 => ?_)
            · refine g_aconst_null X0 hx (hb hby d6_37) rfl ?_
              exact g_retA X0 hx rfl rfl hlk hret e0 (by decide) (by decide) (hb hby d6_38) ⟨by first | (simp [q33, q40, q41, q44, q45, q46]; done) | (exfalso; revert q33 q40 q41 q44 q45 q46; simp +contextual; done), rfl, rfl⟩
            · refine g_aload (i := 4) X0 hx (hb hby d6_34) (by rfl) hr_w rfl ?_
              exact g_retA X0 hx hr_w rfl hlk hret e0 (by decide) (by decide) (hb hby d6_36) ⟨by first | (simp [q33, q40, q41, q44, q45, q46]; done) | (exfalso; revert q33 q40 q41 q44 q45 q46; simp +contextual; done), rfl, rfl⟩
        · refine g_aload_n (i := 3) X0 hx (hb hby d6_22) (by rfl) hr_v rfl ?_
          exact g_retA X0 hx hr_v rfl hlk hret e0 (by decide) (by decide) (hb hby d6_23) ⟨by first | (simp [q33, q40, q41, q44]; done) | (exfalso; revert q33 q40 q41 q44; simp +contextual; done), rfl, rfl⟩
    · refine g_aload_n (i := 2) X0 hx (hb hby d6_10) (by rfl) hr_u rfl ?_
      exact g_retA X0 hx hr_u rfl hlk hret e0 (by decide) (by decide) (hb hby d6_11) ⟨by first | (simp [q33, q40]; done) | (exfalso; revert q33 q40; simp +contextual; done), rfl, rfl⟩
theorem ef_rm0 (m : MethodId) (x0 : Int32) (x1 : Int32) (x2 : Int32) (x3 : Int32)  : entryFrame m #[(.int x0), (.int x1), (.int x2), (.int x3)] maxLocals = mkF m 0 #[.val (.int x0), .val (.int x1), .val (.int x2), .val (.int x3), .unset, .unset, .unset, .unset, .unset, .unset, .unset, .unset] [] := by first | (simp [entryFrame, mkF, argsToLocals, Value.category, maxLocals]; done) | rfl
theorem pn_47 : plainFor x = true := by first | exact plainFor_of_name (by first | (simp [plainName, overriddenIn]; done) | decide +kernel) | decide +kernel
theorem own_three (k : Int32) : k &&& 3 = 0 ∨ k &&& 3 = 1 ∨ k &&& 3 = 2 ∨ k &&& 3 = 3 := by
  have e := c_mask k 3 2 (by decide) (by decide)
  exact own_fin (P := fun n => n = 0 ∨ n = 1 ∨ n = 2 ∨ n = 3) 4 (by decide) (by decide +kernel) (k &&& 3) (by rw [e]; omega) (by rw [e]; omega)
theorem pd_50 : parseMethodDescriptor "(I)Lcom/example/matchwerk/matchwerk/fix/SentMessages$Sent;" = some ⟨[.int], some (.object "com/example/matchwerk/matchwerk/fix/SentMessages$Sent")⟩ := by decide +kernel
theorem pd_51 : parseMethodDescriptor "(IILcom/example/matchwerk/matchwerk/fix/SentMessages$Sent;Lcom/example/matchwerk/matchwerk/fix/SentMessages$Sent;Lcom/example/matchwerk/matchwerk/fix/SentMessages$Sent;)Lcom/example/matchwerk/matchwerk/fix/SentMessages$Sent;" = some ⟨[.int, .int, (.object "com/example/matchwerk/matchwerk/fix/SentMessages$Sent"), (.object "com/example/matchwerk/matchwerk/fix/SentMessages$Sent"), (.object "com/example/matchwerk/matchwerk/fix/SentMessages$Sent")], some (.object "com/example/matchwerk/matchwerk/fix/SentMessages$Sent")⟩ := by decide +kernel
theorem pd_57 : parseMethodDescriptor "(Ljava/lang/String;Ljava/lang/String;Ljava/lang/String;)V" = some ⟨[(.object "java/lang/String"), (.object "java/lang/String"), (.object "java/lang/String")], none⟩ := by decide +kernel
theorem pd_70 : parseMethodDescriptor "(Lcom/example/matchwerk/matchwerk/fix/SentMessages$Sent;)V" = some ⟨[(.object "com/example/matchwerk/matchwerk/fix/SentMessages$Sent")], none⟩ := by decide +kernel
theorem own_final0 (u v w : Value) (seq : Int32) : own_get (fun (_ : Nat) => Value.null) (0 : Int32) seq = if seq = 1 ∧ ¬ (0 : Int32) < 1 then u else if seq = 2 ∧ ¬ (0 : Int32) < 2 then v else if seq = 3 ∧ ¬ (0 : Int32) < 3 then w else .null := by
  by_cases hs : 0 ≤ seq.toInt ∧ seq.toInt < 4
  · rcases own_fin (P := fun s => s = 0 ∨ s = 1 ∨ s = 2 ∨ s = 3) 4 (by decide) (by decide +kernel) seq hs.1 hs.2 with rfl | rfl | rfl | rfl <;> rfl
  · have n1 : ¬ seq = 1 := fun q => by subst q; exact hs (by decide)
    have n2 : ¬ seq = 2 := fun q => by subst q; exact hs (by decide)
    have n3 : ¬ seq = 3 := fun q => by subst q; exact hs (by decide)
    rw [if_neg (fun q => n1 q.1), if_neg (fun q => n2 q.1), if_neg (fun q => n3 q.1)]
    simp only [own_get]
    rw [if_pos]
    rw [own_ltI, own_ltI, show (1 : Int32).toInt = 1 from rfl, show ((1 : Int32) + (0 : Int32)).toInt = 1 from rfl]
    omega
theorem own_final1 (u v w : Value) (seq : Int32) : own_get (fun j => if j = ((0 : Int32)).toInt.toNat then u else (fun (_ : Nat) => Value.null) j) (1 : Int32) seq = if seq = 1 ∧ ¬ (1 : Int32) < 1 then u else if seq = 2 ∧ ¬ (1 : Int32) < 2 then v else if seq = 3 ∧ ¬ (1 : Int32) < 3 then w else .null := by
  by_cases hs : 0 ≤ seq.toInt ∧ seq.toInt < 4
  · rcases own_fin (P := fun s => s = 0 ∨ s = 1 ∨ s = 2 ∨ s = 3) 4 (by decide) (by decide +kernel) seq hs.1 hs.2 with rfl | rfl | rfl | rfl <;> rfl
  · have n1 : ¬ seq = 1 := fun q => by subst q; exact hs (by decide)
    have n2 : ¬ seq = 2 := fun q => by subst q; exact hs (by decide)
    have n3 : ¬ seq = 3 := fun q => by subst q; exact hs (by decide)
    rw [if_neg (fun q => n1 q.1), if_neg (fun q => n2 q.1), if_neg (fun q => n3 q.1)]
    simp only [own_get]
    rw [if_pos]
    rw [own_ltI, own_ltI, show (1 : Int32).toInt = 1 from rfl, show ((1 : Int32) + (1 : Int32)).toInt = 2 from rfl]
    omega
theorem own_final2 (u v w : Value) (seq : Int32) : own_get (fun j => if j = ((1 : Int32)).toInt.toNat then v else (fun j => if j = ((0 : Int32)).toInt.toNat then u else (fun (_ : Nat) => Value.null) j) j) (2 : Int32) seq = if seq = 1 ∧ ¬ (2 : Int32) < 1 then u else if seq = 2 ∧ ¬ (2 : Int32) < 2 then v else if seq = 3 ∧ ¬ (2 : Int32) < 3 then w else .null := by
  by_cases hs : 0 ≤ seq.toInt ∧ seq.toInt < 4
  · rcases own_fin (P := fun s => s = 0 ∨ s = 1 ∨ s = 2 ∨ s = 3) 4 (by decide) (by decide +kernel) seq hs.1 hs.2 with rfl | rfl | rfl | rfl <;> rfl
  · have n1 : ¬ seq = 1 := fun q => by subst q; exact hs (by decide)
    have n2 : ¬ seq = 2 := fun q => by subst q; exact hs (by decide)
    have n3 : ¬ seq = 3 := fun q => by subst q; exact hs (by decide)
    rw [if_neg (fun q => n1 q.1), if_neg (fun q => n2 q.1), if_neg (fun q => n3 q.1)]
    simp only [own_get]
    rw [if_pos]
    rw [own_ltI, own_ltI, show (1 : Int32).toInt = 1 from rfl, show ((1 : Int32) + (2 : Int32)).toInt = 3 from rfl]
    omega
theorem own_final3 (u v w : Value) (seq : Int32) : own_get (fun j => if j = ((2 : Int32)).toInt.toNat then w else (fun j => if j = ((1 : Int32)).toInt.toNat then v else (fun j => if j = ((0 : Int32)).toInt.toNat then u else (fun (_ : Nat) => Value.null) j) j) j) (3 : Int32) seq = if seq = 1 ∧ ¬ (3 : Int32) < 1 then u else if seq = 2 ∧ ¬ (3 : Int32) < 2 then v else if seq = 3 ∧ ¬ (3 : Int32) < 3 then w else .null := by
  by_cases hs : 0 ≤ seq.toInt ∧ seq.toInt < 4
  · rcases own_fin (P := fun s => s = 0 ∨ s = 1 ∨ s = 2 ∨ s = 3) 4 (by decide) (by decide +kernel) seq hs.1 hs.2 with rfl | rfl | rfl | rfl <;> rfl
  · have n1 : ¬ seq = 1 := fun q => by subst q; exact hs (by decide)
    have n2 : ¬ seq = 2 := fun q => by subst q; exact hs (by decide)
    have n3 : ¬ seq = 3 := fun q => by subst q; exact hs (by decide)
    rw [if_neg (fun q => n1 q.1), if_neg (fun q => n2 q.1), if_neg (fun q => n3 q.1)]
    simp only [own_get]
    rw [if_pos]
    rw [own_ltI, own_ltI, show (1 : Int32).toInt = 1 from rfl, show ((1 : Int32) + (3 : Int32)).toInt = 4 from rfl]
    omega
set_option maxRecDepth 65536 in
set_option maxHeartbeats 40000000 in
theorem rm0 (l : Launch) (Z : State) (a0 : Array Value) (hw : ∀ d ∈ tables_1, d.before a0 Z = true) (p0 p1 p2 p3 : Int32) (h0 : Heap) (n0 : Nat) (Z0 : n0 ≤ h0.size) :
    CtrW l Z x code maxLocals ret tables_1 room_1 40 9408 #[(.int p0), (.int p1), (.int p2), (.int p3)] h0 (fun v h L => v = some (.int 1) ∧ Fr n0 L) := by
  refine CtrW.of pn_47 ?_
  intro p e s m below meth c s₁ hx hby hml hown hnm hret hlk hZ X0 e0 hS hs0 hvm
  have hk : s.heap.size ≤ h0.size := by rw [hs0]; exact Nat.le_refl _
  refine Goes.cast (ef_rm0 m p0 p1 p2 p3) ?_
  refine g_iload_n (i := 0) X0 hx (hb hby at_0) (by rfl) rfl ?_
  refine g_iconst (v := (3 : Int32)) X0 hx (hb hby at_1) (by decide) rfl ?_
  refine g_iand X0 hx (hb hby at_2) rfl ?_
  refine g_istore (i := 4) X0 hx #[.val (.int p0), .val (.int p1), .val (.int p2), .val (.int p3), .val (.int (p0 &&& (3 : Int32))), .unset, .unset, .unset, .unset, .unset, .unset, .unset] (hb hby at_3) rfl rfl ?_
  rcases own_three p0 with hn | hn | hn | hn
  · rw [hn]
    have J78 : ∀ (v5 v6 v7 : Value) (vm0 : Vm) (T : State) (locs : List Loc) (cells slots : Nat) (h : Heap) (k0 : Nat), Stand p l e room_1 (s.setVm vm0) m #[(.int p0), (.int p1), (.int p2), (.int p3)] below meth c T locs cells slots → T.heap = h → s.Since vm0 k0 → k0 ≤ h.size → Z.Warmed39 vm0 → vm0.findClass "com/example/matchwerk/matchwerk/fix/SentMessagesGetPinLaw" = some m.cls → n0 ≤ h.size → Fr n0 locs → cells ≤ 21 → slots ≤ 93 → own_sent Z h v5 → own_sent Z h v6 → own_sent Z h v7 → Goes p e below (KW s 40 9408 (fun v h L => v = some (.int 1) ∧ Fr n0 L)) T (mkF m 78 #[.val (.int p0), .val (.int p1), .val (.int p2), .val (.int p3), .val (.int (0 : Int32)), .val v5, .val v6, .unset, .unset, .unset, .unset, .unset] [v7]) := by
      intro v5 v6 v7 vm0 T locs cells slots h k0 X eT hS hk hZ hown Zh hN hc hs s5 s6 s7
      obtain ⟨hr_v5, hc_v5⟩ := s5.ref
      obtain ⟨hr_v6, hc_v6⟩ := s6.ref
      obtain ⟨hr_v7, hc_v7⟩ := s7.ref
      refine g_astore (i := 7) X hx #[.val (.int p0), .val (.int p1), .val (.int p2), .val (.int p3), .val (.int (0 : Int32)), .val v5, .val v6, .val v7, .unset, .unset, .unset, .unset] (hb hby at_78) hr_v7 (XS.store1 (o := .unset) rfl (Or.inl rfl) hc_v7) rfl ?_
      refine g_new X hx hZ hown (wd hw 30 rfl) (wd hw 31 rfl) (wd hw 32 rfl) eT (hb hby at_80) rfl (by show cells + 1 ≤ 40; omega) (by show slots + 4 ≤ 9408; omega) ?_
      intro T48 h48 a48 X48 e48 g48 Ex48 E48 D48
      have F48_ring : Fld Z h48 a48 "com/example/matchwerk/matchwerk/fix/SentMessages" "ring" "[Lcom/example/matchwerk/matchwerk/fix/SentMessages$Sent;" .null := D48 (Or.inl (wd hw 40 rfl)) (ty := (.array (.object "com/example/matchwerk/matchwerk/fix/SentMessages$Sent"))) (by decide)
      have F48_first : Fld Z h48 a48 "com/example/matchwerk/matchwerk/fix/SentMessages" "first" "I" (.int 0) := D48 (Or.inl (wd hw 42 rfl)) (ty := .int) (by decide)
      have F48_count : Fld Z h48 a48 "com/example/matchwerk/matchwerk/fix/SentMessages" "count" "I" (.int 0) := D48 (Or.inl (wd hw 58 rfl)) (ty := .int) (by decide)
      have F48_head : Fld Z h48 a48 "com/example/matchwerk/matchwerk/fix/SentMessages" "head" "I" (.int 0) := D48 (Or.inl (wd hw 61 rfl)) (ty := .int) (by decide)
      have ga : n0 ≤ a48 := by rw [g48]; exact Zh
      have Zk : n0 ≤ h48.size := Nat.le_trans Zh Ex48.1
      refine g_dup X48 hx (hb hby at_83) rfl rfl ?_
      refine g_callI X48 hx hZ rfl hown (wd hw 33 rfl) (wd hw 34 rfl) (wd hw 32 rfl) (wd hw 35 rfl) (by decide) e48 (rm_init l Z a0 hw a48 h48 n0 Zk ga E48 F48_ring F48_first F48_head F48_count) (by rw [hml]; rfl) a48 [] [(.ref a48)] rfl (lenOf pd_4 rfl) rfl (by show 1 + (1 + 11) + 12 ≤ _; decide) (by decide) (by show cells + 1 + 1 ≤ 40; omega) (by show slots + 4 + 16 ≤ 9408; omega) (hb hby at_84) rfl ?_
      intro T49 v49 L49 X49 hQ49
      obtain ⟨rfl, N49, K49, r, gr, H⟩ := hQ49
      have N49 := Fr.app hN N49
      show Goes p e below _ T49 (mkF m 87 #[.val (.int p0), .val (.int p1), .val (.int p2), .val (.int p3), .val (.int (0 : Int32)), .val v5, .val v6, .val v7, .unset, .unset, .unset, .unset] [(.ref a48)])
      have t5 := (s5.ext Ex48).keep K49
      have t6 := (s6.ext Ex48).keep K49
      have t7 := (s7.ext Ex48).keep K49
      refine g_astore (i := 8) X49 hx #[.val (.int p0), .val (.int p1), .val (.int p2), .val (.int p3), .val (.int (0 : Int32)), .val v5, .val v6, .val v7, .val (.ref a48), .unset, .unset, .unset] (hb hby at_87) rfl rfl rfl ?_
      refine g_iload (i := 4) X49 hx (hb hby at_89) (by rfl) rfl ?_
      refine g_iconst (v := (1 : Int32)) X49 hx (hb hby at_91) (by decide) rfl ?_
      refine g_icmp_lt X49 hx (hb hby at_92) (by decide) (pt := 102) (by decide) rfl (fun _ => ?_) (fun q_ => absurd (by decide) q_)
      refine g_iload (i := 4) X49 hx (hb hby at_102) (by rfl) rfl ?_
      refine g_iconst (v := (2 : Int32)) X49 hx (hb hby at_104) (by decide) rfl ?_
      refine g_icmp_lt X49 hx (hb hby at_105) (by decide) (pt := 115) (by decide) rfl (fun _ => ?_) (fun q_ => absurd (by decide) q_)
      refine g_iload (i := 4) X49 hx (hb hby at_115) (by rfl) rfl ?_
      refine g_iconst (v := (3 : Int32)) X49 hx (hb hby at_117) (by decide) rfl ?_
      refine g_icmp_lt X49 hx (hb hby at_118) (by decide) (pt := 128) (by decide) rfl (fun _ => ?_) (fun q_ => absurd (by decide) q_)
      refine g_iload_n (i := 2) X49 hx (hb hby at_128) (by rfl) rfl ?_
      refine g_iconst (v := (1 : Int32)) X49 hx (hb hby at_129) (by decide) rfl ?_
      refine g_iand X49 hx (hb hby at_130) rfl ?_
      have hf : ∀ j, ((fun (_ : Nat) => Value.null) j).isRef = true := by intro j; dsimp only; (repeat' split) <;> first | rfl | assumption
      have J144 : ∀ (seq : Int32), Goes p e below (KW s 40 9408 (fun v h L => v = some (.int 1) ∧ Fr n0 L)) T49 (mkF m 144 #[.val (.int p0), .val (.int p1), .val (.int p2), .val (.int p3), .val (.int (0 : Int32)), .val v5, .val v6, .val v7, .val (.ref a48), .unset, .unset, .unset] [(.int seq)]) := by
        intro seq
        refine g_istore (i := 9) X49 hx #[.val (.int p0), .val (.int p1), .val (.int p2), .val (.int p3), .val (.int (0 : Int32)), .val v5, .val v6, .val v7, .val (.ref a48), .val (.int seq), .unset, .unset] (hb hby at_144) rfl rfl ?_
        refine g_aload (i := 8) X49 hx (hb hby at_146) (by rfl) rfl rfl ?_
        refine g_iload (i := 9) X49 hx (hb hby at_148) (by rfl) rfl ?_
        have Hn : own_sm Z T49.heap a48 r (0 : Int32) (fun (_ : Nat) => Value.null) := H
        refine g_callV X49 hx hZ hown (wd hw 43 rfl) (wd hw 44 rfl) (wd hw 46 rfl) (wd hw 45 rfl) (wd hw 32 rfl) (wd hw 47 rfl) (by decide) rfl a48 Hn.1 (rm_get l Z a0 hw a48 r seq (0 : Int32) (fun (_ : Nat) => Value.null) T49.heap Hn hf (by decide) (by decide)) (by rw [hml]; rfl) [(.int seq)] [] rfl (lenOf pd_50 rfl) rfl (by show 0 + (2 + 11) + 0 ≤ _; decide) (by decide) (by show cells + 1 + 1 + 0 ≤ 40; omega) (by show slots + 4 + 16 + 0 ≤ 9408; omega) (hb hby at_150) rfl ?_
        intro T50 v50 L50 X50 hQ50
        obtain ⟨rfl, rfl, e50⟩ := hQ50
        have N50 := Fr.app N49 (Fr.nil n0)
        show Goes p e below _ T50 (mkF m 153 #[.val (.int p0), .val (.int p1), .val (.int p2), .val (.int p3), .val (.int (0 : Int32)), .val v5, .val v6, .val v7, .val (.ref a48), .val (.int seq), .unset, .unset] [(own_get (fun (_ : Nat) => Value.null) (0 : Int32) seq)])
        have hfin : (own_get (fun (_ : Nat) => Value.null) (0 : Int32) seq) = (if seq = 1 ∧ ¬ (0 : Int32) < 1 then v5 else if seq = 2 ∧ ¬ (0 : Int32) < 2 then v6 else if seq = 3 ∧ ¬ (0 : Int32) < 3 then v7 else .null) := own_final0 v5 v6 v7 seq
        have hr_GV : ((own_get (fun (_ : Nat) => Value.null) (0 : Int32) seq)).isRef = true := by rw [hfin]; (repeat' split) <;> first | rfl | assumption
        have hc_GV : ((own_get (fun (_ : Nat) => Value.null) (0 : Int32) seq)).category = 1 := by rw [hfin]; (repeat' split) <;> first | rfl | assumption
        revert hfin hr_GV hc_GV
        generalize (own_get (fun (_ : Nat) => Value.null) (0 : Int32) seq) = GV
        intro hfin hr_GV hc_GV
        refine g_astore (i := 10) X50 hx #[.val (.int p0), .val (.int p1), .val (.int p2), .val (.int p3), .val (.int (0 : Int32)), .val v5, .val v6, .val v7, .val (.ref a48), .val (.int seq), .val GV, .unset] (hb hby at_153) hr_GV (XS.store1 (o := .unset) rfl (Or.inl rfl) hc_GV) rfl ?_
        refine g_iload (i := 4) X50 hx (hb hby at_155) (by rfl) rfl ?_
        refine g_iload (i := 9) X50 hx (hb hby at_157) (by rfl) rfl ?_
        refine g_aload (i := 5) X50 hx (hb hby at_159) (by rfl) hr_v5 rfl ?_
        refine g_aload (i := 6) X50 hx (hb hby at_161) (by rfl) hr_v6 rfl ?_
        refine g_aload (i := 7) X50 hx (hb hby at_163) (by rfl) hr_v7 rfl ?_
        refine g_callS X50 hx hZ hown (wd hw 48 rfl) (wd hw 49 rfl) (wd hw 50 rfl) (wd hw 51 rfl) (by decide) e50 (rm_exp l Z a0 hw (0 : Int32) seq v5 v6 v7 T49.heap hr_v5 hr_v6 hr_v7 hc_v5 hc_v6 hc_v7) (by rw [hml]; rfl) [(.int (0 : Int32)), (.int seq), v5, v6, v7] [] rfl (lenOf pd_51 rfl) rfl (by show 0 + (5 + 11) + 0 ≤ _; decide) (by decide) (by show cells + 1 + 1 + 0 + 0 ≤ 40; omega) (by show slots + 4 + 16 + 0 + 0 ≤ 9408; omega) (hb hby at_165) rfl ?_
        intro T51 v51 L51 X51 hQ51
        obtain ⟨rfl, rfl, e51⟩ := hQ51
        have N51 := Fr.app N50 (Fr.nil n0)
        show Goes p e below _ T51 (mkF m 168 #[.val (.int p0), .val (.int p1), .val (.int p2), .val (.int p3), .val (.int (0 : Int32)), .val v5, .val v6, .val v7, .val (.ref a48), .val (.int seq), .val GV, .unset] [(if seq = 1 ∧ ¬ (0 : Int32) < 1 then v5 else if seq = 2 ∧ ¬ (0 : Int32) < 2 then v6 else if seq = 3 ∧ ¬ (0 : Int32) < 3 then v7 else .null)])
        rw [← hfin]
        refine g_astore (i := 11) X51 hx #[.val (.int p0), .val (.int p1), .val (.int p2), .val (.int p3), .val (.int (0 : Int32)), .val v5, .val v6, .val v7, .val (.ref a48), .val (.int seq), .val GV, .val GV] (hb hby at_168) hr_GV (XS.store1 (o := .unset) rfl (Or.inl rfl) hc_GV) rfl ?_
        refine g_aload (i := 10) X51 hx (hb hby at_170) (by rfl) hr_GV rfl ?_
        refine g_aload (i := 11) X51 hx (hb hby at_172) (by rfl) hr_GV rfl ?_
        refine g_acmp_ne X51 hx (hb hby at_174) hr_GV hr_GV (by decide) (pt := 181) (by decide) rfl (fun q_ => absurd (rfl) q_) (fun _ => ?_)
        refine g_iconst (v := (1 : Int32)) X51 hx (hb hby at_177) (by decide) rfl ?_
        refine g_goto X51 hx (hb hby at_178) (by decide) (by decide) (pc' := 182) ?_
        exact g_retNW X51 hx (t := .boolean) (by simp) hlk hret e51 hS (Nat.le_trans (Nat.le_trans hk Ex48.1) K49.1) (by show cells + 1 + 1 + 0 + 0 ≤ 40; omega) (by show slots + 4 + 16 + 0 + 0 ≤ 9408; omega) (hb hby at_182) ⟨rfl, N51⟩
      refine g_if_eq X49 hx (hb hby at_131) (by decide) (pt := 138) (by decide) rfl (fun q52 => ?_) (fun q52 => ?_)
      · refine g_iload_n (i := 3) X49 hx (hb hby at_138) (by rfl) rfl ?_
        refine g_bipush (v := (7 : Int32)) X49 hx (hb hby at_139) (by decide) rfl ?_
        refine g_iand X49 hx (hb hby at_141) rfl ?_
        refine g_iconst (v := (2 : Int32)) X49 hx (hb hby at_142) (by decide) rfl ?_
        refine g_isub X49 hx (hb hby at_143) rfl ?_
        exact J144 _
      · refine g_iload_n (i := 3) X49 hx (hb hby at_134) (by rfl) rfl ?_
        refine g_goto X49 hx (hb hby at_135) (by decide) (by decide) (pc' := 144) ?_
        exact J144 _
    have J53 : ∀ (v5 v6 : Value) (vm0 : Vm) (T : State) (locs : List Loc) (cells slots : Nat) (h : Heap) (k0 : Nat), Stand p l e room_1 (s.setVm vm0) m #[(.int p0), (.int p1), (.int p2), (.int p3)] below meth c T locs cells slots → T.heap = h → s.Since vm0 k0 → k0 ≤ h.size → Z.Warmed39 vm0 → vm0.findClass "com/example/matchwerk/matchwerk/fix/SentMessagesGetPinLaw" = some m.cls → n0 ≤ h.size → Fr n0 locs → cells ≤ 14 → slots ≤ 62 → own_sent Z h v5 → own_sent Z h v6 → Goes p e below (KW s 40 9408 (fun v h L => v = some (.int 1) ∧ Fr n0 L)) T (mkF m 53 #[.val (.int p0), .val (.int p1), .val (.int p2), .val (.int p3), .val (.int (0 : Int32)), .val v5, .unset, .unset, .unset, .unset, .unset, .unset] [v6]) := by
      intro v5 v6 vm0 T locs cells slots h k0 X eT hS hk hZ hown Zh hN hc hs s5 s6
      obtain ⟨hr_v5, hc_v5⟩ := s5.ref
      obtain ⟨hr_v6, hc_v6⟩ := s6.ref
      refine g_astore (i := 6) X hx #[.val (.int p0), .val (.int p1), .val (.int p2), .val (.int p3), .val (.int (0 : Int32)), .val v5, .val v6, .unset, .unset, .unset, .unset, .unset] (hb hby at_53) hr_v6 (XS.store1 (o := .unset) rfl (Or.inl rfl) hc_v6) rfl ?_
      refine g_iload_n (i := 1) X hx (hb hby at_55) (by rfl) rfl ?_
      refine g_iconst (v := (4 : Int32)) X hx (hb hby at_56) (by decide) rfl ?_
      refine g_iand X hx (hb hby at_57) rfl ?_
      refine g_if_eq X hx (hb hby at_58) (by decide) (pt := 65) (by decide) rfl (fun qb => ?_) (fun qb => ?_)
      · refine g_new X hx hZ hown (wd hw 0 rfl) (wd hw 1 rfl) (wd hw 2 rfl) eT (hb hby at_65) rfl (by show cells + 1 ≤ 40; omega) (by show slots + 3 ≤ 9408; omega) ?_
        intro T53 h53 a53 X53 e53 g53 Ex53 E53 D53
        have F53_type : Fld Z h53 a53 "com/example/matchwerk/matchwerk/fix/SentMessages$Sent" "type" "Ljava/lang/String;" .null := D53 (Or.inr (wd hw 25 rfl)) (ty := (.object "java/lang/String")) (by decide)
        have F53_fieldText : Fld Z h53 a53 "com/example/matchwerk/matchwerk/fix/SentMessages$Sent" "fieldText" "Ljava/lang/String;" .null := D53 (Or.inr (wd hw 27 rfl)) (ty := (.object "java/lang/String")) (by decide)
        have F53_sendingTime : Fld Z h53 a53 "com/example/matchwerk/matchwerk/fix/SentMessages$Sent" "sendingTime" "Ljava/lang/String;" .null := D53 (Or.inr (wd hw 29 rfl)) (ty := (.object "java/lang/String")) (by decide)
        have ga : n0 ≤ a53 := by rw [g53]; exact Zh
        refine g_dup X53 hx (hb hby at_68) rfl rfl ?_
        refine g_ldcS X53 hx hZ hown (wd hw 3 rfl) (own_wS hw) e53 hS (Nat.le_trans hk Ex53.1) (hb hby at_69) rfl 4 (by decide +kernel) (by decide) (by show cells + 1 + 2 ≤ 40; omega) (by show slots + 3 + 8 ≤ 9408; omega) ?_
        intro a54 T54 h54 k54 X54 e54 Ex54 hS hk hZ hown
        refine g_ldcS X54 hx hZ hown (wd hw 11 rfl) (own_wS hw) e54 hS hk (hb hby at_71) rfl 4 (by decide +kernel) (by decide) (by show cells + 1 + 2 + 2 ≤ 40; omega) (by show slots + 3 + 8 + 8 ≤ 9408; omega) ?_
        intro a55 T55 h55 k55 X55 e55 Ex55 hS hk hZ hown
        refine g_ldcS X55 hx hZ hown (wd hw 12 rfl) (own_wS hw) e55 hS hk (hb hby at_73) rfl 8 (by decide +kernel) (by decide) (by show cells + 1 + 2 + 2 + 2 ≤ 40; omega) (by show slots + 3 + 8 + 8 + 12 ≤ 9408; omega) ?_
        intro a56 T56 h56 k56 X56 e56 Ex56 hS hk hZ hown
        refine g_callI X56 hx hZ rfl hown (wd hw 13 rfl) (wd hw 14 rfl) (wd hw 2 rfl) (wd hw 15 rfl) (by decide) e56 (rm_sent l Z a0 hw a53 a54 a55 a56 h56 n0 ga (((E53.ext Ex54).ext Ex55).ext Ex56) (((F53_type.ext Ex54).ext Ex55).ext Ex56) (((F53_fieldText.ext Ex54).ext Ex55).ext Ex56) (((F53_sendingTime.ext Ex54).ext Ex55).ext Ex56)) (by rw [hml]; rfl) a53 [(.ref a54), (.ref a55), (.ref a56)] [(.ref a53)] rfl (lenOf pd_57 rfl) rfl (by show 1 + (4 + 11) + 24 ≤ _; decide) (by decide) (by show cells + 1 + 2 + 2 + 2 + 0 ≤ 40; omega) (by show slots + 3 + 8 + 8 + 12 + 0 ≤ 9408; omega) (hb hby at_75) rfl ?_
        intro T57 v57 L57 X57 hQ57
        obtain ⟨rfl, N57, K57, E57⟩ := hQ57
        have N57 := Fr.app hN N57
        show Goes p e below _ T57 (mkF m 78 #[.val (.int p0), .val (.int p1), .val (.int p2), .val (.int p3), .val (.int (0 : Int32)), .val v5, .val v6, .unset, .unset, .unset, .unset, .unset] [(.ref a53)])
        exact J78 v5 v6 _ _ _ _ _ _ _ _ X57 rfl hS (Nat.le_trans hk K57.1) hZ hown (Nat.le_trans Zh (Nat.le_trans Ex53.1 (Nat.le_trans Ex54.1 (Nat.le_trans Ex55.1 (Nat.le_trans Ex56.1 K57.1))))) N57 (by show cells + 1 + 2 + 2 + 2 + 0 ≤ _; omega) (by show slots + 3 + 8 + 8 + 12 + 0 ≤ _; omega) (((((s5.ext Ex53).ext Ex54).ext Ex55).ext Ex56).keep K57) (((((s6.ext Ex53).ext Ex54).ext Ex55).ext Ex56).keep K57) (Or.inr ⟨_, rfl, E57⟩)
      · refine g_aconst_null X hx (hb hby at_61) rfl ?_
        refine g_goto X hx (hb hby at_62) (by decide) (by decide) (pc' := 78) ?_
        exact J78 v5 v6 _ _ _ _ _ _ _ _ X eT hS hk hZ hown Zh hN (by show cells ≤ _; omega) (by show slots ≤ _; omega) s5 s6 (Or.inl rfl)
    have J28 : ∀ (v5 : Value) (vm0 : Vm) (T : State) (locs : List Loc) (cells slots : Nat) (h : Heap) (k0 : Nat), Stand p l e room_1 (s.setVm vm0) m #[(.int p0), (.int p1), (.int p2), (.int p3)] below meth c T locs cells slots → T.heap = h → s.Since vm0 k0 → k0 ≤ h.size → Z.Warmed39 vm0 → vm0.findClass "com/example/matchwerk/matchwerk/fix/SentMessagesGetPinLaw" = some m.cls → n0 ≤ h.size → Fr n0 locs → cells ≤ 7 → slots ≤ 31 → own_sent Z h v5 → Goes p e below (KW s 40 9408 (fun v h L => v = some (.int 1) ∧ Fr n0 L)) T (mkF m 28 #[.val (.int p0), .val (.int p1), .val (.int p2), .val (.int p3), .val (.int (0 : Int32)), .unset, .unset, .unset, .unset, .unset, .unset, .unset] [v5]) := by
      intro v5 vm0 T locs cells slots h k0 X eT hS hk hZ hown Zh hN hc hs s5
      obtain ⟨hr_v5, hc_v5⟩ := s5.ref
      refine g_astore (i := 5) X hx #[.val (.int p0), .val (.int p1), .val (.int p2), .val (.int p3), .val (.int (0 : Int32)), .val v5, .unset, .unset, .unset, .unset, .unset, .unset] (hb hby at_28) hr_v5 (XS.store1 (o := .unset) rfl (Or.inl rfl) hc_v5) rfl ?_
      refine g_iload_n (i := 1) X hx (hb hby at_30) (by rfl) rfl ?_
      refine g_iconst (v := (2 : Int32)) X hx (hb hby at_31) (by decide) rfl ?_
      refine g_iand X hx (hb hby at_32) rfl ?_
      refine g_if_eq X hx (hb hby at_33) (by decide) (pt := 40) (by decide) rfl (fun qb => ?_) (fun qb => ?_)
      · refine g_new X hx hZ hown (wd hw 0 rfl) (wd hw 1 rfl) (wd hw 2 rfl) eT (hb hby at_40) rfl (by show cells + 1 ≤ 40; omega) (by show slots + 3 ≤ 9408; omega) ?_
        intro T58 h58 a58 X58 e58 g58 Ex58 E58 D58
        have F58_type : Fld Z h58 a58 "com/example/matchwerk/matchwerk/fix/SentMessages$Sent" "type" "Ljava/lang/String;" .null := D58 (Or.inr (wd hw 25 rfl)) (ty := (.object "java/lang/String")) (by decide)
        have F58_fieldText : Fld Z h58 a58 "com/example/matchwerk/matchwerk/fix/SentMessages$Sent" "fieldText" "Ljava/lang/String;" .null := D58 (Or.inr (wd hw 27 rfl)) (ty := (.object "java/lang/String")) (by decide)
        have F58_sendingTime : Fld Z h58 a58 "com/example/matchwerk/matchwerk/fix/SentMessages$Sent" "sendingTime" "Ljava/lang/String;" .null := D58 (Or.inr (wd hw 29 rfl)) (ty := (.object "java/lang/String")) (by decide)
        have ga : n0 ≤ a58 := by rw [g58]; exact Zh
        refine g_dup X58 hx (hb hby at_43) rfl rfl ?_
        refine g_ldcS X58 hx hZ hown (wd hw 66 rfl) (own_wS hw) e58 hS (Nat.le_trans hk Ex58.1) (hb hby at_44) rfl 4 (by decide +kernel) (by decide) (by show cells + 1 + 2 ≤ 40; omega) (by show slots + 3 + 8 ≤ 9408; omega) ?_
        intro a59 T59 h59 k59 X59 e59 Ex59 hS hk hZ hown
        refine g_ldcS X59 hx hZ hown (wd hw 67 rfl) (own_wS hw) e59 hS hk (hb hby at_46) rfl 4 (by decide +kernel) (by decide) (by show cells + 1 + 2 + 2 ≤ 40; omega) (by show slots + 3 + 8 + 8 ≤ 9408; omega) ?_
        intro a60 T60 h60 k60 X60 e60 Ex60 hS hk hZ hown
        refine g_ldcS X60 hx hZ hown (wd hw 68 rfl) (own_wS hw) e60 hS hk (hb hby at_48) rfl 8 (by decide +kernel) (by decide) (by show cells + 1 + 2 + 2 + 2 ≤ 40; omega) (by show slots + 3 + 8 + 8 + 12 ≤ 9408; omega) ?_
        intro a61 T61 h61 k61 X61 e61 Ex61 hS hk hZ hown
        refine g_callI X61 hx hZ rfl hown (wd hw 13 rfl) (wd hw 14 rfl) (wd hw 2 rfl) (wd hw 15 rfl) (by decide) e61 (rm_sent l Z a0 hw a58 a59 a60 a61 h61 n0 ga (((E58.ext Ex59).ext Ex60).ext Ex61) (((F58_type.ext Ex59).ext Ex60).ext Ex61) (((F58_fieldText.ext Ex59).ext Ex60).ext Ex61) (((F58_sendingTime.ext Ex59).ext Ex60).ext Ex61)) (by rw [hml]; rfl) a58 [(.ref a59), (.ref a60), (.ref a61)] [(.ref a58)] rfl (lenOf pd_57 rfl) rfl (by show 1 + (4 + 11) + 24 ≤ _; decide) (by decide) (by show cells + 1 + 2 + 2 + 2 + 0 ≤ 40; omega) (by show slots + 3 + 8 + 8 + 12 + 0 ≤ 9408; omega) (hb hby at_50) rfl ?_
        intro T62 v62 L62 X62 hQ62
        obtain ⟨rfl, N62, K62, E62⟩ := hQ62
        have N62 := Fr.app hN N62
        show Goes p e below _ T62 (mkF m 53 #[.val (.int p0), .val (.int p1), .val (.int p2), .val (.int p3), .val (.int (0 : Int32)), .val v5, .unset, .unset, .unset, .unset, .unset, .unset] [(.ref a58)])
        exact J53 v5 _ _ _ _ _ _ _ _ X62 rfl hS (Nat.le_trans hk K62.1) hZ hown (Nat.le_trans Zh (Nat.le_trans Ex58.1 (Nat.le_trans Ex59.1 (Nat.le_trans Ex60.1 (Nat.le_trans Ex61.1 K62.1))))) N62 (by show cells + 1 + 2 + 2 + 2 + 0 ≤ _; omega) (by show slots + 3 + 8 + 8 + 12 + 0 ≤ _; omega) (((((s5.ext Ex58).ext Ex59).ext Ex60).ext Ex61).keep K62) (Or.inr ⟨_, rfl, E62⟩)
      · refine g_aconst_null X hx (hb hby at_36) rfl ?_
        refine g_goto X hx (hb hby at_37) (by decide) (by decide) (pc' := 53) ?_
        exact J53 v5 _ _ _ _ _ _ _ _ X eT hS hk hZ hown Zh hN (by show cells ≤ _; omega) (by show slots ≤ _; omega) s5 (Or.inl rfl)
    refine g_iload_n (i := 1) X0 hx (hb hby at_5) (by rfl) rfl ?_
    refine g_iconst (v := (1 : Int32)) X0 hx (hb hby at_6) (by decide) rfl ?_
    refine g_iand X0 hx (hb hby at_7) rfl ?_
    refine g_if_eq X0 hx (hb hby at_8) (by decide) (pt := 15) (by decide) rfl (fun qb => ?_) (fun qb => ?_)
    · refine g_new X0 hx hZ hown (wd hw 0 rfl) (wd hw 1 rfl) (wd hw 2 rfl) e0 (hb hby at_15) rfl (by decide) (by decide) ?_
      intro T63 h63 a63 X63 e63 g63 Ex63 E63 D63
      have F63_type : Fld Z h63 a63 "com/example/matchwerk/matchwerk/fix/SentMessages$Sent" "type" "Ljava/lang/String;" .null := D63 (Or.inr (wd hw 25 rfl)) (ty := (.object "java/lang/String")) (by decide)
      have F63_fieldText : Fld Z h63 a63 "com/example/matchwerk/matchwerk/fix/SentMessages$Sent" "fieldText" "Ljava/lang/String;" .null := D63 (Or.inr (wd hw 27 rfl)) (ty := (.object "java/lang/String")) (by decide)
      have F63_sendingTime : Fld Z h63 a63 "com/example/matchwerk/matchwerk/fix/SentMessages$Sent" "sendingTime" "Ljava/lang/String;" .null := D63 (Or.inr (wd hw 29 rfl)) (ty := (.object "java/lang/String")) (by decide)
      have ga : n0 ≤ a63 := by rw [g63]; exact Z0
      refine g_dup X63 hx (hb hby at_18) rfl rfl ?_
      refine g_ldcS X63 hx hZ hown (wd hw 62 rfl) (own_wS hw) e63 hS (Nat.le_trans hk Ex63.1) (hb hby at_19) rfl 4 (by decide +kernel) (by decide) (by decide) (by decide) ?_
      intro a64 T64 h64 k64 X64 e64 Ex64 hS hk hZ hown
      refine g_ldcS X64 hx hZ hown (wd hw 63 rfl) (own_wS hw) e64 hS hk (hb hby at_21) rfl 4 (by decide +kernel) (by decide) (by decide) (by decide) ?_
      intro a65 T65 h65 k65 X65 e65 Ex65 hS hk hZ hown
      refine g_ldcS X65 hx hZ hown (wd hw 64 rfl) (own_wS hw) e65 hS hk (hb hby at_23) rfl 8 (by decide +kernel) (by decide) (by decide) (by decide) ?_
      intro a66 T66 h66 k66 X66 e66 Ex66 hS hk hZ hown
      refine g_callI X66 hx hZ rfl hown (wd hw 13 rfl) (wd hw 14 rfl) (wd hw 2 rfl) (wd hw 15 rfl) (by decide) e66 (rm_sent l Z a0 hw a63 a64 a65 a66 h66 n0 ga (((E63.ext Ex64).ext Ex65).ext Ex66) (((F63_type.ext Ex64).ext Ex65).ext Ex66) (((F63_fieldText.ext Ex64).ext Ex65).ext Ex66) (((F63_sendingTime.ext Ex64).ext Ex65).ext Ex66)) (by rw [hml]; rfl) a63 [(.ref a64), (.ref a65), (.ref a66)] [(.ref a63)] rfl (lenOf pd_57 rfl) rfl (by show 1 + (4 + 11) + 24 ≤ _; decide) (by decide) (by decide) (by decide) (hb hby at_25) rfl ?_
      intro T67 v67 L67 X67 hQ67
      obtain ⟨rfl, N67, K67, E67⟩ := hQ67
      have N67 := Fr.app (Fr.nil n0) N67
      show Goes p e below _ T67 (mkF m 28 #[.val (.int p0), .val (.int p1), .val (.int p2), .val (.int p3), .val (.int (0 : Int32)), .unset, .unset, .unset, .unset, .unset, .unset, .unset] [(.ref a63)])
      exact J28 _ _ _ _ _ _ _ _ X67 rfl hS (Nat.le_trans hk K67.1) hZ hown (Nat.le_trans Z0 (Nat.le_trans Ex63.1 (Nat.le_trans Ex64.1 (Nat.le_trans Ex65.1 (Nat.le_trans Ex66.1 K67.1))))) N67 (by show 0 + 1 + 2 + 2 + 2 + 0 ≤ _; omega) (by show 0 + 3 + 8 + 8 + 12 + 0 ≤ _; omega) (Or.inr ⟨_, rfl, E67⟩)
    · refine g_aconst_null X0 hx (hb hby at_11) rfl ?_
      refine g_goto X0 hx (hb hby at_12) (by decide) (by decide) (pc' := 28) ?_
      exact J28 _ _ _ _ _ _ _ _ X0 e0 hS hk hZ hown Z0 (Fr.nil n0) (by show 0 ≤ _; omega) (by show 0 ≤ _; omega) (Or.inl rfl)
  · rw [hn]
    have J78 : ∀ (v5 v6 v7 : Value) (vm0 : Vm) (T : State) (locs : List Loc) (cells slots : Nat) (h : Heap) (k0 : Nat), Stand p l e room_1 (s.setVm vm0) m #[(.int p0), (.int p1), (.int p2), (.int p3)] below meth c T locs cells slots → T.heap = h → s.Since vm0 k0 → k0 ≤ h.size → Z.Warmed39 vm0 → vm0.findClass "com/example/matchwerk/matchwerk/fix/SentMessagesGetPinLaw" = some m.cls → n0 ≤ h.size → Fr n0 locs → cells ≤ 21 → slots ≤ 93 → own_sent Z h v5 → own_sent Z h v6 → own_sent Z h v7 → Goes p e below (KW s 40 9408 (fun v h L => v = some (.int 1) ∧ Fr n0 L)) T (mkF m 78 #[.val (.int p0), .val (.int p1), .val (.int p2), .val (.int p3), .val (.int (1 : Int32)), .val v5, .val v6, .unset, .unset, .unset, .unset, .unset] [v7]) := by
      intro v5 v6 v7 vm0 T locs cells slots h k0 X eT hS hk hZ hown Zh hN hc hs s5 s6 s7
      obtain ⟨hr_v5, hc_v5⟩ := s5.ref
      obtain ⟨hr_v6, hc_v6⟩ := s6.ref
      obtain ⟨hr_v7, hc_v7⟩ := s7.ref
      refine g_astore (i := 7) X hx #[.val (.int p0), .val (.int p1), .val (.int p2), .val (.int p3), .val (.int (1 : Int32)), .val v5, .val v6, .val v7, .unset, .unset, .unset, .unset] (hb hby at_78) hr_v7 (XS.store1 (o := .unset) rfl (Or.inl rfl) hc_v7) rfl ?_
      refine g_new X hx hZ hown (wd hw 30 rfl) (wd hw 31 rfl) (wd hw 32 rfl) eT (hb hby at_80) rfl (by show cells + 1 ≤ 40; omega) (by show slots + 4 ≤ 9408; omega) ?_
      intro T68 h68 a68 X68 e68 g68 Ex68 E68 D68
      have F68_ring : Fld Z h68 a68 "com/example/matchwerk/matchwerk/fix/SentMessages" "ring" "[Lcom/example/matchwerk/matchwerk/fix/SentMessages$Sent;" .null := D68 (Or.inl (wd hw 40 rfl)) (ty := (.array (.object "com/example/matchwerk/matchwerk/fix/SentMessages$Sent"))) (by decide)
      have F68_first : Fld Z h68 a68 "com/example/matchwerk/matchwerk/fix/SentMessages" "first" "I" (.int 0) := D68 (Or.inl (wd hw 42 rfl)) (ty := .int) (by decide)
      have F68_count : Fld Z h68 a68 "com/example/matchwerk/matchwerk/fix/SentMessages" "count" "I" (.int 0) := D68 (Or.inl (wd hw 58 rfl)) (ty := .int) (by decide)
      have F68_head : Fld Z h68 a68 "com/example/matchwerk/matchwerk/fix/SentMessages" "head" "I" (.int 0) := D68 (Or.inl (wd hw 61 rfl)) (ty := .int) (by decide)
      have ga : n0 ≤ a68 := by rw [g68]; exact Zh
      have Zk : n0 ≤ h68.size := Nat.le_trans Zh Ex68.1
      refine g_dup X68 hx (hb hby at_83) rfl rfl ?_
      refine g_callI X68 hx hZ rfl hown (wd hw 33 rfl) (wd hw 34 rfl) (wd hw 32 rfl) (wd hw 35 rfl) (by decide) e68 (rm_init l Z a0 hw a68 h68 n0 Zk ga E68 F68_ring F68_first F68_head F68_count) (by rw [hml]; rfl) a68 [] [(.ref a68)] rfl (lenOf pd_4 rfl) rfl (by show 1 + (1 + 11) + 12 ≤ _; decide) (by decide) (by show cells + 1 + 1 ≤ 40; omega) (by show slots + 4 + 16 ≤ 9408; omega) (hb hby at_84) rfl ?_
      intro T69 v69 L69 X69 hQ69
      obtain ⟨rfl, N69, K69, r, gr, H⟩ := hQ69
      have N69 := Fr.app hN N69
      show Goes p e below _ T69 (mkF m 87 #[.val (.int p0), .val (.int p1), .val (.int p2), .val (.int p3), .val (.int (1 : Int32)), .val v5, .val v6, .val v7, .unset, .unset, .unset, .unset] [(.ref a68)])
      have t5 := (s5.ext Ex68).keep K69
      have t6 := (s6.ext Ex68).keep K69
      have t7 := (s7.ext Ex68).keep K69
      refine g_astore (i := 8) X69 hx #[.val (.int p0), .val (.int p1), .val (.int p2), .val (.int p3), .val (.int (1 : Int32)), .val v5, .val v6, .val v7, .val (.ref a68), .unset, .unset, .unset] (hb hby at_87) rfl rfl rfl ?_
      refine g_iload (i := 4) X69 hx (hb hby at_89) (by rfl) rfl ?_
      refine g_iconst (v := (1 : Int32)) X69 hx (hb hby at_91) (by decide) rfl ?_
      refine g_icmp_lt X69 hx (hb hby at_92) (by decide) (pt := 102) (by decide) rfl (fun q_ => absurd q_ (by decide)) (fun _ => ?_)
      refine g_aload (i := 8) X69 hx (hb hby at_95) (by rfl) rfl rfl ?_
      refine g_aload (i := 5) X69 hx (hb hby at_97) (by rfl) hr_v5 rfl ?_
      refine g_callV X69 hx hZ hown (wd hw 52 rfl) (wd hw 53 rfl) (wd hw 55 rfl) (wd hw 54 rfl) (wd hw 32 rfl) (wd hw 56 rfl) (by decide) rfl a68 H.1 (rm_add l Z a0 hw a68 r v5 (0 : Int32) (fun (_ : Nat) => Value.null) T69.heap n0 ga gr H t5 (by decide) (by decide) hc_v5 hr_v5) (by rw [hml]; rfl) [v5] [] rfl (lenOf pd_70 rfl) rfl (by show 0 + (2 + 11) + 0 ≤ _; decide) (by decide) (by show cells + 1 + 1 + 0 ≤ 40; omega) (by show slots + 4 + 16 + 0 ≤ 9408; omega) (hb hby at_99) rfl ?_
      intro T70 v70 L70 X70 hQ70
      obtain ⟨rfl, N70, K70, H70⟩ := hQ70
      have N70 := Fr.app N69 N70
      show Goes p e below _ T70 (mkF m 102 #[.val (.int p0), .val (.int p1), .val (.int p2), .val (.int p3), .val (.int (1 : Int32)), .val v5, .val v6, .val v7, .val (.ref a68), .unset, .unset, .unset] [])
      have t5 := t5.keep K70
      have t6 := t6.keep K70
      have t7 := t7.keep K70
      refine g_iload (i := 4) X70 hx (hb hby at_102) (by rfl) rfl ?_
      refine g_iconst (v := (2 : Int32)) X70 hx (hb hby at_104) (by decide) rfl ?_
      refine g_icmp_lt X70 hx (hb hby at_105) (by decide) (pt := 115) (by decide) rfl (fun _ => ?_) (fun q_ => absurd (by decide) q_)
      refine g_iload (i := 4) X70 hx (hb hby at_115) (by rfl) rfl ?_
      refine g_iconst (v := (3 : Int32)) X70 hx (hb hby at_117) (by decide) rfl ?_
      refine g_icmp_lt X70 hx (hb hby at_118) (by decide) (pt := 128) (by decide) rfl (fun _ => ?_) (fun q_ => absurd (by decide) q_)
      refine g_iload_n (i := 2) X70 hx (hb hby at_128) (by rfl) rfl ?_
      refine g_iconst (v := (1 : Int32)) X70 hx (hb hby at_129) (by decide) rfl ?_
      refine g_iand X70 hx (hb hby at_130) rfl ?_
      have hf : ∀ j, ((fun j => if j = ((0 : Int32)).toInt.toNat then v5 else (fun (_ : Nat) => Value.null) j) j).isRef = true := by intro j; dsimp only; (repeat' split) <;> first | rfl | assumption
      have J144 : ∀ (seq : Int32), Goes p e below (KW s 40 9408 (fun v h L => v = some (.int 1) ∧ Fr n0 L)) T70 (mkF m 144 #[.val (.int p0), .val (.int p1), .val (.int p2), .val (.int p3), .val (.int (1 : Int32)), .val v5, .val v6, .val v7, .val (.ref a68), .unset, .unset, .unset] [(.int seq)]) := by
        intro seq
        refine g_istore (i := 9) X70 hx #[.val (.int p0), .val (.int p1), .val (.int p2), .val (.int p3), .val (.int (1 : Int32)), .val v5, .val v6, .val v7, .val (.ref a68), .val (.int seq), .unset, .unset] (hb hby at_144) rfl rfl ?_
        refine g_aload (i := 8) X70 hx (hb hby at_146) (by rfl) rfl rfl ?_
        refine g_iload (i := 9) X70 hx (hb hby at_148) (by rfl) rfl ?_
        have Hn : own_sm Z T70.heap a68 r (1 : Int32) (fun j => if j = ((0 : Int32)).toInt.toNat then v5 else (fun (_ : Nat) => Value.null) j) := H70
        refine g_callV X70 hx hZ hown (wd hw 43 rfl) (wd hw 44 rfl) (wd hw 46 rfl) (wd hw 45 rfl) (wd hw 32 rfl) (wd hw 47 rfl) (by decide) rfl a68 Hn.1 (rm_get l Z a0 hw a68 r seq (1 : Int32) (fun j => if j = ((0 : Int32)).toInt.toNat then v5 else (fun (_ : Nat) => Value.null) j) T70.heap Hn hf (by decide) (by decide)) (by rw [hml]; rfl) [(.int seq)] [] rfl (lenOf pd_50 rfl) rfl (by show 0 + (2 + 11) + 0 ≤ _; decide) (by decide) (by show cells + 1 + 1 + 0 + 0 ≤ 40; omega) (by show slots + 4 + 16 + 0 + 0 ≤ 9408; omega) (hb hby at_150) rfl ?_
        intro T71 v71 L71 X71 hQ71
        obtain ⟨rfl, rfl, e71⟩ := hQ71
        have N71 := Fr.app N70 (Fr.nil n0)
        show Goes p e below _ T71 (mkF m 153 #[.val (.int p0), .val (.int p1), .val (.int p2), .val (.int p3), .val (.int (1 : Int32)), .val v5, .val v6, .val v7, .val (.ref a68), .val (.int seq), .unset, .unset] [(own_get (fun j => if j = ((0 : Int32)).toInt.toNat then v5 else (fun (_ : Nat) => Value.null) j) (1 : Int32) seq)])
        have hfin : (own_get (fun j => if j = ((0 : Int32)).toInt.toNat then v5 else (fun (_ : Nat) => Value.null) j) (1 : Int32) seq) = (if seq = 1 ∧ ¬ (1 : Int32) < 1 then v5 else if seq = 2 ∧ ¬ (1 : Int32) < 2 then v6 else if seq = 3 ∧ ¬ (1 : Int32) < 3 then v7 else .null) := own_final1 v5 v6 v7 seq
        have hr_GV : ((own_get (fun j => if j = ((0 : Int32)).toInt.toNat then v5 else (fun (_ : Nat) => Value.null) j) (1 : Int32) seq)).isRef = true := by rw [hfin]; (repeat' split) <;> first | rfl | assumption
        have hc_GV : ((own_get (fun j => if j = ((0 : Int32)).toInt.toNat then v5 else (fun (_ : Nat) => Value.null) j) (1 : Int32) seq)).category = 1 := by rw [hfin]; (repeat' split) <;> first | rfl | assumption
        revert hfin hr_GV hc_GV
        generalize (own_get (fun j => if j = ((0 : Int32)).toInt.toNat then v5 else (fun (_ : Nat) => Value.null) j) (1 : Int32) seq) = GV
        intro hfin hr_GV hc_GV
        refine g_astore (i := 10) X71 hx #[.val (.int p0), .val (.int p1), .val (.int p2), .val (.int p3), .val (.int (1 : Int32)), .val v5, .val v6, .val v7, .val (.ref a68), .val (.int seq), .val GV, .unset] (hb hby at_153) hr_GV (XS.store1 (o := .unset) rfl (Or.inl rfl) hc_GV) rfl ?_
        refine g_iload (i := 4) X71 hx (hb hby at_155) (by rfl) rfl ?_
        refine g_iload (i := 9) X71 hx (hb hby at_157) (by rfl) rfl ?_
        refine g_aload (i := 5) X71 hx (hb hby at_159) (by rfl) hr_v5 rfl ?_
        refine g_aload (i := 6) X71 hx (hb hby at_161) (by rfl) hr_v6 rfl ?_
        refine g_aload (i := 7) X71 hx (hb hby at_163) (by rfl) hr_v7 rfl ?_
        refine g_callS X71 hx hZ hown (wd hw 48 rfl) (wd hw 49 rfl) (wd hw 50 rfl) (wd hw 51 rfl) (by decide) e71 (rm_exp l Z a0 hw (1 : Int32) seq v5 v6 v7 T70.heap hr_v5 hr_v6 hr_v7 hc_v5 hc_v6 hc_v7) (by rw [hml]; rfl) [(.int (1 : Int32)), (.int seq), v5, v6, v7] [] rfl (lenOf pd_51 rfl) rfl (by show 0 + (5 + 11) + 0 ≤ _; decide) (by decide) (by show cells + 1 + 1 + 0 + 0 + 0 ≤ 40; omega) (by show slots + 4 + 16 + 0 + 0 + 0 ≤ 9408; omega) (hb hby at_165) rfl ?_
        intro T72 v72 L72 X72 hQ72
        obtain ⟨rfl, rfl, e72⟩ := hQ72
        have N72 := Fr.app N71 (Fr.nil n0)
        show Goes p e below _ T72 (mkF m 168 #[.val (.int p0), .val (.int p1), .val (.int p2), .val (.int p3), .val (.int (1 : Int32)), .val v5, .val v6, .val v7, .val (.ref a68), .val (.int seq), .val GV, .unset] [(if seq = 1 ∧ ¬ (1 : Int32) < 1 then v5 else if seq = 2 ∧ ¬ (1 : Int32) < 2 then v6 else if seq = 3 ∧ ¬ (1 : Int32) < 3 then v7 else .null)])
        rw [← hfin]
        refine g_astore (i := 11) X72 hx #[.val (.int p0), .val (.int p1), .val (.int p2), .val (.int p3), .val (.int (1 : Int32)), .val v5, .val v6, .val v7, .val (.ref a68), .val (.int seq), .val GV, .val GV] (hb hby at_168) hr_GV (XS.store1 (o := .unset) rfl (Or.inl rfl) hc_GV) rfl ?_
        refine g_aload (i := 10) X72 hx (hb hby at_170) (by rfl) hr_GV rfl ?_
        refine g_aload (i := 11) X72 hx (hb hby at_172) (by rfl) hr_GV rfl ?_
        refine g_acmp_ne X72 hx (hb hby at_174) hr_GV hr_GV (by decide) (pt := 181) (by decide) rfl (fun q_ => absurd (rfl) q_) (fun _ => ?_)
        refine g_iconst (v := (1 : Int32)) X72 hx (hb hby at_177) (by decide) rfl ?_
        refine g_goto X72 hx (hb hby at_178) (by decide) (by decide) (pc' := 182) ?_
        exact g_retNW X72 hx (t := .boolean) (by simp) hlk hret e72 hS (Nat.le_trans (Nat.le_trans (Nat.le_trans hk Ex68.1) K69.1) K70.1) (by show cells + 1 + 1 + 0 + 0 + 0 ≤ 40; omega) (by show slots + 4 + 16 + 0 + 0 + 0 ≤ 9408; omega) (hb hby at_182) ⟨rfl, N72⟩
      refine g_if_eq X70 hx (hb hby at_131) (by decide) (pt := 138) (by decide) rfl (fun q73 => ?_) (fun q73 => ?_)
      · refine g_iload_n (i := 3) X70 hx (hb hby at_138) (by rfl) rfl ?_
        refine g_bipush (v := (7 : Int32)) X70 hx (hb hby at_139) (by decide) rfl ?_
        refine g_iand X70 hx (hb hby at_141) rfl ?_
        refine g_iconst (v := (2 : Int32)) X70 hx (hb hby at_142) (by decide) rfl ?_
        refine g_isub X70 hx (hb hby at_143) rfl ?_
        exact J144 _
      · refine g_iload_n (i := 3) X70 hx (hb hby at_134) (by rfl) rfl ?_
        refine g_goto X70 hx (hb hby at_135) (by decide) (by decide) (pc' := 144) ?_
        exact J144 _
    have J53 : ∀ (v5 v6 : Value) (vm0 : Vm) (T : State) (locs : List Loc) (cells slots : Nat) (h : Heap) (k0 : Nat), Stand p l e room_1 (s.setVm vm0) m #[(.int p0), (.int p1), (.int p2), (.int p3)] below meth c T locs cells slots → T.heap = h → s.Since vm0 k0 → k0 ≤ h.size → Z.Warmed39 vm0 → vm0.findClass "com/example/matchwerk/matchwerk/fix/SentMessagesGetPinLaw" = some m.cls → n0 ≤ h.size → Fr n0 locs → cells ≤ 14 → slots ≤ 62 → own_sent Z h v5 → own_sent Z h v6 → Goes p e below (KW s 40 9408 (fun v h L => v = some (.int 1) ∧ Fr n0 L)) T (mkF m 53 #[.val (.int p0), .val (.int p1), .val (.int p2), .val (.int p3), .val (.int (1 : Int32)), .val v5, .unset, .unset, .unset, .unset, .unset, .unset] [v6]) := by
      intro v5 v6 vm0 T locs cells slots h k0 X eT hS hk hZ hown Zh hN hc hs s5 s6
      obtain ⟨hr_v5, hc_v5⟩ := s5.ref
      obtain ⟨hr_v6, hc_v6⟩ := s6.ref
      refine g_astore (i := 6) X hx #[.val (.int p0), .val (.int p1), .val (.int p2), .val (.int p3), .val (.int (1 : Int32)), .val v5, .val v6, .unset, .unset, .unset, .unset, .unset] (hb hby at_53) hr_v6 (XS.store1 (o := .unset) rfl (Or.inl rfl) hc_v6) rfl ?_
      refine g_iload_n (i := 1) X hx (hb hby at_55) (by rfl) rfl ?_
      refine g_iconst (v := (4 : Int32)) X hx (hb hby at_56) (by decide) rfl ?_
      refine g_iand X hx (hb hby at_57) rfl ?_
      refine g_if_eq X hx (hb hby at_58) (by decide) (pt := 65) (by decide) rfl (fun qb => ?_) (fun qb => ?_)
      · refine g_new X hx hZ hown (wd hw 0 rfl) (wd hw 1 rfl) (wd hw 2 rfl) eT (hb hby at_65) rfl (by show cells + 1 ≤ 40; omega) (by show slots + 3 ≤ 9408; omega) ?_
        intro T74 h74 a74 X74 e74 g74 Ex74 E74 D74
        have F74_type : Fld Z h74 a74 "com/example/matchwerk/matchwerk/fix/SentMessages$Sent" "type" "Ljava/lang/String;" .null := D74 (Or.inr (wd hw 25 rfl)) (ty := (.object "java/lang/String")) (by decide)
        have F74_fieldText : Fld Z h74 a74 "com/example/matchwerk/matchwerk/fix/SentMessages$Sent" "fieldText" "Ljava/lang/String;" .null := D74 (Or.inr (wd hw 27 rfl)) (ty := (.object "java/lang/String")) (by decide)
        have F74_sendingTime : Fld Z h74 a74 "com/example/matchwerk/matchwerk/fix/SentMessages$Sent" "sendingTime" "Ljava/lang/String;" .null := D74 (Or.inr (wd hw 29 rfl)) (ty := (.object "java/lang/String")) (by decide)
        have ga : n0 ≤ a74 := by rw [g74]; exact Zh
        refine g_dup X74 hx (hb hby at_68) rfl rfl ?_
        refine g_ldcS X74 hx hZ hown (wd hw 3 rfl) (own_wS hw) e74 hS (Nat.le_trans hk Ex74.1) (hb hby at_69) rfl 4 (by decide +kernel) (by decide) (by show cells + 1 + 2 ≤ 40; omega) (by show slots + 3 + 8 ≤ 9408; omega) ?_
        intro a75 T75 h75 k75 X75 e75 Ex75 hS hk hZ hown
        refine g_ldcS X75 hx hZ hown (wd hw 11 rfl) (own_wS hw) e75 hS hk (hb hby at_71) rfl 4 (by decide +kernel) (by decide) (by show cells + 1 + 2 + 2 ≤ 40; omega) (by show slots + 3 + 8 + 8 ≤ 9408; omega) ?_
        intro a76 T76 h76 k76 X76 e76 Ex76 hS hk hZ hown
        refine g_ldcS X76 hx hZ hown (wd hw 12 rfl) (own_wS hw) e76 hS hk (hb hby at_73) rfl 8 (by decide +kernel) (by decide) (by show cells + 1 + 2 + 2 + 2 ≤ 40; omega) (by show slots + 3 + 8 + 8 + 12 ≤ 9408; omega) ?_
        intro a77 T77 h77 k77 X77 e77 Ex77 hS hk hZ hown
        refine g_callI X77 hx hZ rfl hown (wd hw 13 rfl) (wd hw 14 rfl) (wd hw 2 rfl) (wd hw 15 rfl) (by decide) e77 (rm_sent l Z a0 hw a74 a75 a76 a77 h77 n0 ga (((E74.ext Ex75).ext Ex76).ext Ex77) (((F74_type.ext Ex75).ext Ex76).ext Ex77) (((F74_fieldText.ext Ex75).ext Ex76).ext Ex77) (((F74_sendingTime.ext Ex75).ext Ex76).ext Ex77)) (by rw [hml]; rfl) a74 [(.ref a75), (.ref a76), (.ref a77)] [(.ref a74)] rfl (lenOf pd_57 rfl) rfl (by show 1 + (4 + 11) + 24 ≤ _; decide) (by decide) (by show cells + 1 + 2 + 2 + 2 + 0 ≤ 40; omega) (by show slots + 3 + 8 + 8 + 12 + 0 ≤ 9408; omega) (hb hby at_75) rfl ?_
        intro T78 v78 L78 X78 hQ78
        obtain ⟨rfl, N78, K78, E78⟩ := hQ78
        have N78 := Fr.app hN N78
        show Goes p e below _ T78 (mkF m 78 #[.val (.int p0), .val (.int p1), .val (.int p2), .val (.int p3), .val (.int (1 : Int32)), .val v5, .val v6, .unset, .unset, .unset, .unset, .unset] [(.ref a74)])
        exact J78 v5 v6 _ _ _ _ _ _ _ _ X78 rfl hS (Nat.le_trans hk K78.1) hZ hown (Nat.le_trans Zh (Nat.le_trans Ex74.1 (Nat.le_trans Ex75.1 (Nat.le_trans Ex76.1 (Nat.le_trans Ex77.1 K78.1))))) N78 (by show cells + 1 + 2 + 2 + 2 + 0 ≤ _; omega) (by show slots + 3 + 8 + 8 + 12 + 0 ≤ _; omega) (((((s5.ext Ex74).ext Ex75).ext Ex76).ext Ex77).keep K78) (((((s6.ext Ex74).ext Ex75).ext Ex76).ext Ex77).keep K78) (Or.inr ⟨_, rfl, E78⟩)
      · refine g_aconst_null X hx (hb hby at_61) rfl ?_
        refine g_goto X hx (hb hby at_62) (by decide) (by decide) (pc' := 78) ?_
        exact J78 v5 v6 _ _ _ _ _ _ _ _ X eT hS hk hZ hown Zh hN (by show cells ≤ _; omega) (by show slots ≤ _; omega) s5 s6 (Or.inl rfl)
    have J28 : ∀ (v5 : Value) (vm0 : Vm) (T : State) (locs : List Loc) (cells slots : Nat) (h : Heap) (k0 : Nat), Stand p l e room_1 (s.setVm vm0) m #[(.int p0), (.int p1), (.int p2), (.int p3)] below meth c T locs cells slots → T.heap = h → s.Since vm0 k0 → k0 ≤ h.size → Z.Warmed39 vm0 → vm0.findClass "com/example/matchwerk/matchwerk/fix/SentMessagesGetPinLaw" = some m.cls → n0 ≤ h.size → Fr n0 locs → cells ≤ 7 → slots ≤ 31 → own_sent Z h v5 → Goes p e below (KW s 40 9408 (fun v h L => v = some (.int 1) ∧ Fr n0 L)) T (mkF m 28 #[.val (.int p0), .val (.int p1), .val (.int p2), .val (.int p3), .val (.int (1 : Int32)), .unset, .unset, .unset, .unset, .unset, .unset, .unset] [v5]) := by
      intro v5 vm0 T locs cells slots h k0 X eT hS hk hZ hown Zh hN hc hs s5
      obtain ⟨hr_v5, hc_v5⟩ := s5.ref
      refine g_astore (i := 5) X hx #[.val (.int p0), .val (.int p1), .val (.int p2), .val (.int p3), .val (.int (1 : Int32)), .val v5, .unset, .unset, .unset, .unset, .unset, .unset] (hb hby at_28) hr_v5 (XS.store1 (o := .unset) rfl (Or.inl rfl) hc_v5) rfl ?_
      refine g_iload_n (i := 1) X hx (hb hby at_30) (by rfl) rfl ?_
      refine g_iconst (v := (2 : Int32)) X hx (hb hby at_31) (by decide) rfl ?_
      refine g_iand X hx (hb hby at_32) rfl ?_
      refine g_if_eq X hx (hb hby at_33) (by decide) (pt := 40) (by decide) rfl (fun qb => ?_) (fun qb => ?_)
      · refine g_new X hx hZ hown (wd hw 0 rfl) (wd hw 1 rfl) (wd hw 2 rfl) eT (hb hby at_40) rfl (by show cells + 1 ≤ 40; omega) (by show slots + 3 ≤ 9408; omega) ?_
        intro T79 h79 a79 X79 e79 g79 Ex79 E79 D79
        have F79_type : Fld Z h79 a79 "com/example/matchwerk/matchwerk/fix/SentMessages$Sent" "type" "Ljava/lang/String;" .null := D79 (Or.inr (wd hw 25 rfl)) (ty := (.object "java/lang/String")) (by decide)
        have F79_fieldText : Fld Z h79 a79 "com/example/matchwerk/matchwerk/fix/SentMessages$Sent" "fieldText" "Ljava/lang/String;" .null := D79 (Or.inr (wd hw 27 rfl)) (ty := (.object "java/lang/String")) (by decide)
        have F79_sendingTime : Fld Z h79 a79 "com/example/matchwerk/matchwerk/fix/SentMessages$Sent" "sendingTime" "Ljava/lang/String;" .null := D79 (Or.inr (wd hw 29 rfl)) (ty := (.object "java/lang/String")) (by decide)
        have ga : n0 ≤ a79 := by rw [g79]; exact Zh
        refine g_dup X79 hx (hb hby at_43) rfl rfl ?_
        refine g_ldcS X79 hx hZ hown (wd hw 66 rfl) (own_wS hw) e79 hS (Nat.le_trans hk Ex79.1) (hb hby at_44) rfl 4 (by decide +kernel) (by decide) (by show cells + 1 + 2 ≤ 40; omega) (by show slots + 3 + 8 ≤ 9408; omega) ?_
        intro a80 T80 h80 k80 X80 e80 Ex80 hS hk hZ hown
        refine g_ldcS X80 hx hZ hown (wd hw 67 rfl) (own_wS hw) e80 hS hk (hb hby at_46) rfl 4 (by decide +kernel) (by decide) (by show cells + 1 + 2 + 2 ≤ 40; omega) (by show slots + 3 + 8 + 8 ≤ 9408; omega) ?_
        intro a81 T81 h81 k81 X81 e81 Ex81 hS hk hZ hown
        refine g_ldcS X81 hx hZ hown (wd hw 68 rfl) (own_wS hw) e81 hS hk (hb hby at_48) rfl 8 (by decide +kernel) (by decide) (by show cells + 1 + 2 + 2 + 2 ≤ 40; omega) (by show slots + 3 + 8 + 8 + 12 ≤ 9408; omega) ?_
        intro a82 T82 h82 k82 X82 e82 Ex82 hS hk hZ hown
        refine g_callI X82 hx hZ rfl hown (wd hw 13 rfl) (wd hw 14 rfl) (wd hw 2 rfl) (wd hw 15 rfl) (by decide) e82 (rm_sent l Z a0 hw a79 a80 a81 a82 h82 n0 ga (((E79.ext Ex80).ext Ex81).ext Ex82) (((F79_type.ext Ex80).ext Ex81).ext Ex82) (((F79_fieldText.ext Ex80).ext Ex81).ext Ex82) (((F79_sendingTime.ext Ex80).ext Ex81).ext Ex82)) (by rw [hml]; rfl) a79 [(.ref a80), (.ref a81), (.ref a82)] [(.ref a79)] rfl (lenOf pd_57 rfl) rfl (by show 1 + (4 + 11) + 24 ≤ _; decide) (by decide) (by show cells + 1 + 2 + 2 + 2 + 0 ≤ 40; omega) (by show slots + 3 + 8 + 8 + 12 + 0 ≤ 9408; omega) (hb hby at_50) rfl ?_
        intro T83 v83 L83 X83 hQ83
        obtain ⟨rfl, N83, K83, E83⟩ := hQ83
        have N83 := Fr.app hN N83
        show Goes p e below _ T83 (mkF m 53 #[.val (.int p0), .val (.int p1), .val (.int p2), .val (.int p3), .val (.int (1 : Int32)), .val v5, .unset, .unset, .unset, .unset, .unset, .unset] [(.ref a79)])
        exact J53 v5 _ _ _ _ _ _ _ _ X83 rfl hS (Nat.le_trans hk K83.1) hZ hown (Nat.le_trans Zh (Nat.le_trans Ex79.1 (Nat.le_trans Ex80.1 (Nat.le_trans Ex81.1 (Nat.le_trans Ex82.1 K83.1))))) N83 (by show cells + 1 + 2 + 2 + 2 + 0 ≤ _; omega) (by show slots + 3 + 8 + 8 + 12 + 0 ≤ _; omega) (((((s5.ext Ex79).ext Ex80).ext Ex81).ext Ex82).keep K83) (Or.inr ⟨_, rfl, E83⟩)
      · refine g_aconst_null X hx (hb hby at_36) rfl ?_
        refine g_goto X hx (hb hby at_37) (by decide) (by decide) (pc' := 53) ?_
        exact J53 v5 _ _ _ _ _ _ _ _ X eT hS hk hZ hown Zh hN (by show cells ≤ _; omega) (by show slots ≤ _; omega) s5 (Or.inl rfl)
    refine g_iload_n (i := 1) X0 hx (hb hby at_5) (by rfl) rfl ?_
    refine g_iconst (v := (1 : Int32)) X0 hx (hb hby at_6) (by decide) rfl ?_
    refine g_iand X0 hx (hb hby at_7) rfl ?_
    refine g_if_eq X0 hx (hb hby at_8) (by decide) (pt := 15) (by decide) rfl (fun qb => ?_) (fun qb => ?_)
    · refine g_new X0 hx hZ hown (wd hw 0 rfl) (wd hw 1 rfl) (wd hw 2 rfl) e0 (hb hby at_15) rfl (by decide) (by decide) ?_
      intro T84 h84 a84 X84 e84 g84 Ex84 E84 D84
      have F84_type : Fld Z h84 a84 "com/example/matchwerk/matchwerk/fix/SentMessages$Sent" "type" "Ljava/lang/String;" .null := D84 (Or.inr (wd hw 25 rfl)) (ty := (.object "java/lang/String")) (by decide)
      have F84_fieldText : Fld Z h84 a84 "com/example/matchwerk/matchwerk/fix/SentMessages$Sent" "fieldText" "Ljava/lang/String;" .null := D84 (Or.inr (wd hw 27 rfl)) (ty := (.object "java/lang/String")) (by decide)
      have F84_sendingTime : Fld Z h84 a84 "com/example/matchwerk/matchwerk/fix/SentMessages$Sent" "sendingTime" "Ljava/lang/String;" .null := D84 (Or.inr (wd hw 29 rfl)) (ty := (.object "java/lang/String")) (by decide)
      have ga : n0 ≤ a84 := by rw [g84]; exact Z0
      refine g_dup X84 hx (hb hby at_18) rfl rfl ?_
      refine g_ldcS X84 hx hZ hown (wd hw 62 rfl) (own_wS hw) e84 hS (Nat.le_trans hk Ex84.1) (hb hby at_19) rfl 4 (by decide +kernel) (by decide) (by decide) (by decide) ?_
      intro a85 T85 h85 k85 X85 e85 Ex85 hS hk hZ hown
      refine g_ldcS X85 hx hZ hown (wd hw 63 rfl) (own_wS hw) e85 hS hk (hb hby at_21) rfl 4 (by decide +kernel) (by decide) (by decide) (by decide) ?_
      intro a86 T86 h86 k86 X86 e86 Ex86 hS hk hZ hown
      refine g_ldcS X86 hx hZ hown (wd hw 64 rfl) (own_wS hw) e86 hS hk (hb hby at_23) rfl 8 (by decide +kernel) (by decide) (by decide) (by decide) ?_
      intro a87 T87 h87 k87 X87 e87 Ex87 hS hk hZ hown
      refine g_callI X87 hx hZ rfl hown (wd hw 13 rfl) (wd hw 14 rfl) (wd hw 2 rfl) (wd hw 15 rfl) (by decide) e87 (rm_sent l Z a0 hw a84 a85 a86 a87 h87 n0 ga (((E84.ext Ex85).ext Ex86).ext Ex87) (((F84_type.ext Ex85).ext Ex86).ext Ex87) (((F84_fieldText.ext Ex85).ext Ex86).ext Ex87) (((F84_sendingTime.ext Ex85).ext Ex86).ext Ex87)) (by rw [hml]; rfl) a84 [(.ref a85), (.ref a86), (.ref a87)] [(.ref a84)] rfl (lenOf pd_57 rfl) rfl (by show 1 + (4 + 11) + 24 ≤ _; decide) (by decide) (by decide) (by decide) (hb hby at_25) rfl ?_
      intro T88 v88 L88 X88 hQ88
      obtain ⟨rfl, N88, K88, E88⟩ := hQ88
      have N88 := Fr.app (Fr.nil n0) N88
      show Goes p e below _ T88 (mkF m 28 #[.val (.int p0), .val (.int p1), .val (.int p2), .val (.int p3), .val (.int (1 : Int32)), .unset, .unset, .unset, .unset, .unset, .unset, .unset] [(.ref a84)])
      exact J28 _ _ _ _ _ _ _ _ X88 rfl hS (Nat.le_trans hk K88.1) hZ hown (Nat.le_trans Z0 (Nat.le_trans Ex84.1 (Nat.le_trans Ex85.1 (Nat.le_trans Ex86.1 (Nat.le_trans Ex87.1 K88.1))))) N88 (by show 0 + 1 + 2 + 2 + 2 + 0 ≤ _; omega) (by show 0 + 3 + 8 + 8 + 12 + 0 ≤ _; omega) (Or.inr ⟨_, rfl, E88⟩)
    · refine g_aconst_null X0 hx (hb hby at_11) rfl ?_
      refine g_goto X0 hx (hb hby at_12) (by decide) (by decide) (pc' := 28) ?_
      exact J28 _ _ _ _ _ _ _ _ X0 e0 hS hk hZ hown Z0 (Fr.nil n0) (by show 0 ≤ _; omega) (by show 0 ≤ _; omega) (Or.inl rfl)
  · rw [hn]
    have J78 : ∀ (v5 v6 v7 : Value) (vm0 : Vm) (T : State) (locs : List Loc) (cells slots : Nat) (h : Heap) (k0 : Nat), Stand p l e room_1 (s.setVm vm0) m #[(.int p0), (.int p1), (.int p2), (.int p3)] below meth c T locs cells slots → T.heap = h → s.Since vm0 k0 → k0 ≤ h.size → Z.Warmed39 vm0 → vm0.findClass "com/example/matchwerk/matchwerk/fix/SentMessagesGetPinLaw" = some m.cls → n0 ≤ h.size → Fr n0 locs → cells ≤ 21 → slots ≤ 93 → own_sent Z h v5 → own_sent Z h v6 → own_sent Z h v7 → Goes p e below (KW s 40 9408 (fun v h L => v = some (.int 1) ∧ Fr n0 L)) T (mkF m 78 #[.val (.int p0), .val (.int p1), .val (.int p2), .val (.int p3), .val (.int (2 : Int32)), .val v5, .val v6, .unset, .unset, .unset, .unset, .unset] [v7]) := by
      intro v5 v6 v7 vm0 T locs cells slots h k0 X eT hS hk hZ hown Zh hN hc hs s5 s6 s7
      obtain ⟨hr_v5, hc_v5⟩ := s5.ref
      obtain ⟨hr_v6, hc_v6⟩ := s6.ref
      obtain ⟨hr_v7, hc_v7⟩ := s7.ref
      refine g_astore (i := 7) X hx #[.val (.int p0), .val (.int p1), .val (.int p2), .val (.int p3), .val (.int (2 : Int32)), .val v5, .val v6, .val v7, .unset, .unset, .unset, .unset] (hb hby at_78) hr_v7 (XS.store1 (o := .unset) rfl (Or.inl rfl) hc_v7) rfl ?_
      refine g_new X hx hZ hown (wd hw 30 rfl) (wd hw 31 rfl) (wd hw 32 rfl) eT (hb hby at_80) rfl (by show cells + 1 ≤ 40; omega) (by show slots + 4 ≤ 9408; omega) ?_
      intro T89 h89 a89 X89 e89 g89 Ex89 E89 D89
      have F89_ring : Fld Z h89 a89 "com/example/matchwerk/matchwerk/fix/SentMessages" "ring" "[Lcom/example/matchwerk/matchwerk/fix/SentMessages$Sent;" .null := D89 (Or.inl (wd hw 40 rfl)) (ty := (.array (.object "com/example/matchwerk/matchwerk/fix/SentMessages$Sent"))) (by decide)
      have F89_first : Fld Z h89 a89 "com/example/matchwerk/matchwerk/fix/SentMessages" "first" "I" (.int 0) := D89 (Or.inl (wd hw 42 rfl)) (ty := .int) (by decide)
      have F89_count : Fld Z h89 a89 "com/example/matchwerk/matchwerk/fix/SentMessages" "count" "I" (.int 0) := D89 (Or.inl (wd hw 58 rfl)) (ty := .int) (by decide)
      have F89_head : Fld Z h89 a89 "com/example/matchwerk/matchwerk/fix/SentMessages" "head" "I" (.int 0) := D89 (Or.inl (wd hw 61 rfl)) (ty := .int) (by decide)
      have ga : n0 ≤ a89 := by rw [g89]; exact Zh
      have Zk : n0 ≤ h89.size := Nat.le_trans Zh Ex89.1
      refine g_dup X89 hx (hb hby at_83) rfl rfl ?_
      refine g_callI X89 hx hZ rfl hown (wd hw 33 rfl) (wd hw 34 rfl) (wd hw 32 rfl) (wd hw 35 rfl) (by decide) e89 (rm_init l Z a0 hw a89 h89 n0 Zk ga E89 F89_ring F89_first F89_head F89_count) (by rw [hml]; rfl) a89 [] [(.ref a89)] rfl (lenOf pd_4 rfl) rfl (by show 1 + (1 + 11) + 12 ≤ _; decide) (by decide) (by show cells + 1 + 1 ≤ 40; omega) (by show slots + 4 + 16 ≤ 9408; omega) (hb hby at_84) rfl ?_
      intro T90 v90 L90 X90 hQ90
      obtain ⟨rfl, N90, K90, r, gr, H⟩ := hQ90
      have N90 := Fr.app hN N90
      show Goes p e below _ T90 (mkF m 87 #[.val (.int p0), .val (.int p1), .val (.int p2), .val (.int p3), .val (.int (2 : Int32)), .val v5, .val v6, .val v7, .unset, .unset, .unset, .unset] [(.ref a89)])
      have t5 := (s5.ext Ex89).keep K90
      have t6 := (s6.ext Ex89).keep K90
      have t7 := (s7.ext Ex89).keep K90
      refine g_astore (i := 8) X90 hx #[.val (.int p0), .val (.int p1), .val (.int p2), .val (.int p3), .val (.int (2 : Int32)), .val v5, .val v6, .val v7, .val (.ref a89), .unset, .unset, .unset] (hb hby at_87) rfl rfl rfl ?_
      refine g_iload (i := 4) X90 hx (hb hby at_89) (by rfl) rfl ?_
      refine g_iconst (v := (1 : Int32)) X90 hx (hb hby at_91) (by decide) rfl ?_
      refine g_icmp_lt X90 hx (hb hby at_92) (by decide) (pt := 102) (by decide) rfl (fun q_ => absurd q_ (by decide)) (fun _ => ?_)
      refine g_aload (i := 8) X90 hx (hb hby at_95) (by rfl) rfl rfl ?_
      refine g_aload (i := 5) X90 hx (hb hby at_97) (by rfl) hr_v5 rfl ?_
      refine g_callV X90 hx hZ hown (wd hw 52 rfl) (wd hw 53 rfl) (wd hw 55 rfl) (wd hw 54 rfl) (wd hw 32 rfl) (wd hw 56 rfl) (by decide) rfl a89 H.1 (rm_add l Z a0 hw a89 r v5 (0 : Int32) (fun (_ : Nat) => Value.null) T90.heap n0 ga gr H t5 (by decide) (by decide) hc_v5 hr_v5) (by rw [hml]; rfl) [v5] [] rfl (lenOf pd_70 rfl) rfl (by show 0 + (2 + 11) + 0 ≤ _; decide) (by decide) (by show cells + 1 + 1 + 0 ≤ 40; omega) (by show slots + 4 + 16 + 0 ≤ 9408; omega) (hb hby at_99) rfl ?_
      intro T91 v91 L91 X91 hQ91
      obtain ⟨rfl, N91, K91, H91⟩ := hQ91
      have N91 := Fr.app N90 N91
      show Goes p e below _ T91 (mkF m 102 #[.val (.int p0), .val (.int p1), .val (.int p2), .val (.int p3), .val (.int (2 : Int32)), .val v5, .val v6, .val v7, .val (.ref a89), .unset, .unset, .unset] [])
      have t5 := t5.keep K91
      have t6 := t6.keep K91
      have t7 := t7.keep K91
      refine g_iload (i := 4) X91 hx (hb hby at_102) (by rfl) rfl ?_
      refine g_iconst (v := (2 : Int32)) X91 hx (hb hby at_104) (by decide) rfl ?_
      refine g_icmp_lt X91 hx (hb hby at_105) (by decide) (pt := 115) (by decide) rfl (fun q_ => absurd q_ (by decide)) (fun _ => ?_)
      refine g_aload (i := 8) X91 hx (hb hby at_108) (by rfl) rfl rfl ?_
      refine g_aload (i := 6) X91 hx (hb hby at_110) (by rfl) hr_v6 rfl ?_
      refine g_callV X91 hx hZ hown (wd hw 52 rfl) (wd hw 53 rfl) (wd hw 55 rfl) (wd hw 54 rfl) (wd hw 32 rfl) (wd hw 56 rfl) (by decide) rfl a89 H91.1 (rm_add l Z a0 hw a89 r v6 (1 : Int32) (fun j => if j = ((0 : Int32)).toInt.toNat then v5 else (fun (_ : Nat) => Value.null) j) T91.heap n0 ga gr H91 t6 (by decide) (by decide) hc_v6 hr_v6) (by rw [hml]; rfl) [v6] [] rfl (lenOf pd_70 rfl) rfl (by show 0 + (2 + 11) + 0 ≤ _; decide) (by decide) (by show cells + 1 + 1 + 0 + 0 ≤ 40; omega) (by show slots + 4 + 16 + 0 + 0 ≤ 9408; omega) (hb hby at_112) rfl ?_
      intro T92 v92 L92 X92 hQ92
      obtain ⟨rfl, N92, K92, H92⟩ := hQ92
      have N92 := Fr.app N91 N92
      show Goes p e below _ T92 (mkF m 115 #[.val (.int p0), .val (.int p1), .val (.int p2), .val (.int p3), .val (.int (2 : Int32)), .val v5, .val v6, .val v7, .val (.ref a89), .unset, .unset, .unset] [])
      have t5 := t5.keep K92
      have t6 := t6.keep K92
      have t7 := t7.keep K92
      refine g_iload (i := 4) X92 hx (hb hby at_115) (by rfl) rfl ?_
      refine g_iconst (v := (3 : Int32)) X92 hx (hb hby at_117) (by decide) rfl ?_
      refine g_icmp_lt X92 hx (hb hby at_118) (by decide) (pt := 128) (by decide) rfl (fun _ => ?_) (fun q_ => absurd (by decide) q_)
      refine g_iload_n (i := 2) X92 hx (hb hby at_128) (by rfl) rfl ?_
      refine g_iconst (v := (1 : Int32)) X92 hx (hb hby at_129) (by decide) rfl ?_
      refine g_iand X92 hx (hb hby at_130) rfl ?_
      have hf : ∀ j, ((fun j => if j = ((1 : Int32)).toInt.toNat then v6 else (fun j => if j = ((0 : Int32)).toInt.toNat then v5 else (fun (_ : Nat) => Value.null) j) j) j).isRef = true := by intro j; dsimp only; (repeat' split) <;> first | rfl | assumption
      have J144 : ∀ (seq : Int32), Goes p e below (KW s 40 9408 (fun v h L => v = some (.int 1) ∧ Fr n0 L)) T92 (mkF m 144 #[.val (.int p0), .val (.int p1), .val (.int p2), .val (.int p3), .val (.int (2 : Int32)), .val v5, .val v6, .val v7, .val (.ref a89), .unset, .unset, .unset] [(.int seq)]) := by
        intro seq
        refine g_istore (i := 9) X92 hx #[.val (.int p0), .val (.int p1), .val (.int p2), .val (.int p3), .val (.int (2 : Int32)), .val v5, .val v6, .val v7, .val (.ref a89), .val (.int seq), .unset, .unset] (hb hby at_144) rfl rfl ?_
        refine g_aload (i := 8) X92 hx (hb hby at_146) (by rfl) rfl rfl ?_
        refine g_iload (i := 9) X92 hx (hb hby at_148) (by rfl) rfl ?_
        have Hn : own_sm Z T92.heap a89 r (2 : Int32) (fun j => if j = ((1 : Int32)).toInt.toNat then v6 else (fun j => if j = ((0 : Int32)).toInt.toNat then v5 else (fun (_ : Nat) => Value.null) j) j) := H92
        refine g_callV X92 hx hZ hown (wd hw 43 rfl) (wd hw 44 rfl) (wd hw 46 rfl) (wd hw 45 rfl) (wd hw 32 rfl) (wd hw 47 rfl) (by decide) rfl a89 Hn.1 (rm_get l Z a0 hw a89 r seq (2 : Int32) (fun j => if j = ((1 : Int32)).toInt.toNat then v6 else (fun j => if j = ((0 : Int32)).toInt.toNat then v5 else (fun (_ : Nat) => Value.null) j) j) T92.heap Hn hf (by decide) (by decide)) (by rw [hml]; rfl) [(.int seq)] [] rfl (lenOf pd_50 rfl) rfl (by show 0 + (2 + 11) + 0 ≤ _; decide) (by decide) (by show cells + 1 + 1 + 0 + 0 + 0 ≤ 40; omega) (by show slots + 4 + 16 + 0 + 0 + 0 ≤ 9408; omega) (hb hby at_150) rfl ?_
        intro T93 v93 L93 X93 hQ93
        obtain ⟨rfl, rfl, e93⟩ := hQ93
        have N93 := Fr.app N92 (Fr.nil n0)
        show Goes p e below _ T93 (mkF m 153 #[.val (.int p0), .val (.int p1), .val (.int p2), .val (.int p3), .val (.int (2 : Int32)), .val v5, .val v6, .val v7, .val (.ref a89), .val (.int seq), .unset, .unset] [(own_get (fun j => if j = ((1 : Int32)).toInt.toNat then v6 else (fun j => if j = ((0 : Int32)).toInt.toNat then v5 else (fun (_ : Nat) => Value.null) j) j) (2 : Int32) seq)])
        have hfin : (own_get (fun j => if j = ((1 : Int32)).toInt.toNat then v6 else (fun j => if j = ((0 : Int32)).toInt.toNat then v5 else (fun (_ : Nat) => Value.null) j) j) (2 : Int32) seq) = (if seq = 1 ∧ ¬ (2 : Int32) < 1 then v5 else if seq = 2 ∧ ¬ (2 : Int32) < 2 then v6 else if seq = 3 ∧ ¬ (2 : Int32) < 3 then v7 else .null) := own_final2 v5 v6 v7 seq
        have hr_GV : ((own_get (fun j => if j = ((1 : Int32)).toInt.toNat then v6 else (fun j => if j = ((0 : Int32)).toInt.toNat then v5 else (fun (_ : Nat) => Value.null) j) j) (2 : Int32) seq)).isRef = true := by rw [hfin]; (repeat' split) <;> first | rfl | assumption
        have hc_GV : ((own_get (fun j => if j = ((1 : Int32)).toInt.toNat then v6 else (fun j => if j = ((0 : Int32)).toInt.toNat then v5 else (fun (_ : Nat) => Value.null) j) j) (2 : Int32) seq)).category = 1 := by rw [hfin]; (repeat' split) <;> first | rfl | assumption
        revert hfin hr_GV hc_GV
        generalize (own_get (fun j => if j = ((1 : Int32)).toInt.toNat then v6 else (fun j => if j = ((0 : Int32)).toInt.toNat then v5 else (fun (_ : Nat) => Value.null) j) j) (2 : Int32) seq) = GV
        intro hfin hr_GV hc_GV
        refine g_astore (i := 10) X93 hx #[.val (.int p0), .val (.int p1), .val (.int p2), .val (.int p3), .val (.int (2 : Int32)), .val v5, .val v6, .val v7, .val (.ref a89), .val (.int seq), .val GV, .unset] (hb hby at_153) hr_GV (XS.store1 (o := .unset) rfl (Or.inl rfl) hc_GV) rfl ?_
        refine g_iload (i := 4) X93 hx (hb hby at_155) (by rfl) rfl ?_
        refine g_iload (i := 9) X93 hx (hb hby at_157) (by rfl) rfl ?_
        refine g_aload (i := 5) X93 hx (hb hby at_159) (by rfl) hr_v5 rfl ?_
        refine g_aload (i := 6) X93 hx (hb hby at_161) (by rfl) hr_v6 rfl ?_
        refine g_aload (i := 7) X93 hx (hb hby at_163) (by rfl) hr_v7 rfl ?_
        refine g_callS X93 hx hZ hown (wd hw 48 rfl) (wd hw 49 rfl) (wd hw 50 rfl) (wd hw 51 rfl) (by decide) e93 (rm_exp l Z a0 hw (2 : Int32) seq v5 v6 v7 T92.heap hr_v5 hr_v6 hr_v7 hc_v5 hc_v6 hc_v7) (by rw [hml]; rfl) [(.int (2 : Int32)), (.int seq), v5, v6, v7] [] rfl (lenOf pd_51 rfl) rfl (by show 0 + (5 + 11) + 0 ≤ _; decide) (by decide) (by show cells + 1 + 1 + 0 + 0 + 0 + 0 ≤ 40; omega) (by show slots + 4 + 16 + 0 + 0 + 0 + 0 ≤ 9408; omega) (hb hby at_165) rfl ?_
        intro T94 v94 L94 X94 hQ94
        obtain ⟨rfl, rfl, e94⟩ := hQ94
        have N94 := Fr.app N93 (Fr.nil n0)
        show Goes p e below _ T94 (mkF m 168 #[.val (.int p0), .val (.int p1), .val (.int p2), .val (.int p3), .val (.int (2 : Int32)), .val v5, .val v6, .val v7, .val (.ref a89), .val (.int seq), .val GV, .unset] [(if seq = 1 ∧ ¬ (2 : Int32) < 1 then v5 else if seq = 2 ∧ ¬ (2 : Int32) < 2 then v6 else if seq = 3 ∧ ¬ (2 : Int32) < 3 then v7 else .null)])
        rw [← hfin]
        refine g_astore (i := 11) X94 hx #[.val (.int p0), .val (.int p1), .val (.int p2), .val (.int p3), .val (.int (2 : Int32)), .val v5, .val v6, .val v7, .val (.ref a89), .val (.int seq), .val GV, .val GV] (hb hby at_168) hr_GV (XS.store1 (o := .unset) rfl (Or.inl rfl) hc_GV) rfl ?_
        refine g_aload (i := 10) X94 hx (hb hby at_170) (by rfl) hr_GV rfl ?_
        refine g_aload (i := 11) X94 hx (hb hby at_172) (by rfl) hr_GV rfl ?_
        refine g_acmp_ne X94 hx (hb hby at_174) hr_GV hr_GV (by decide) (pt := 181) (by decide) rfl (fun q_ => absurd (rfl) q_) (fun _ => ?_)
        refine g_iconst (v := (1 : Int32)) X94 hx (hb hby at_177) (by decide) rfl ?_
        refine g_goto X94 hx (hb hby at_178) (by decide) (by decide) (pc' := 182) ?_
        exact g_retNW X94 hx (t := .boolean) (by simp) hlk hret e94 hS (Nat.le_trans (Nat.le_trans (Nat.le_trans (Nat.le_trans hk Ex89.1) K90.1) K91.1) K92.1) (by show cells + 1 + 1 + 0 + 0 + 0 + 0 ≤ 40; omega) (by show slots + 4 + 16 + 0 + 0 + 0 + 0 ≤ 9408; omega) (hb hby at_182) ⟨rfl, N94⟩
      refine g_if_eq X92 hx (hb hby at_131) (by decide) (pt := 138) (by decide) rfl (fun q95 => ?_) (fun q95 => ?_)
      · refine g_iload_n (i := 3) X92 hx (hb hby at_138) (by rfl) rfl ?_
        refine g_bipush (v := (7 : Int32)) X92 hx (hb hby at_139) (by decide) rfl ?_
        refine g_iand X92 hx (hb hby at_141) rfl ?_
        refine g_iconst (v := (2 : Int32)) X92 hx (hb hby at_142) (by decide) rfl ?_
        refine g_isub X92 hx (hb hby at_143) rfl ?_
        exact J144 _
      · refine g_iload_n (i := 3) X92 hx (hb hby at_134) (by rfl) rfl ?_
        refine g_goto X92 hx (hb hby at_135) (by decide) (by decide) (pc' := 144) ?_
        exact J144 _
    have J53 : ∀ (v5 v6 : Value) (vm0 : Vm) (T : State) (locs : List Loc) (cells slots : Nat) (h : Heap) (k0 : Nat), Stand p l e room_1 (s.setVm vm0) m #[(.int p0), (.int p1), (.int p2), (.int p3)] below meth c T locs cells slots → T.heap = h → s.Since vm0 k0 → k0 ≤ h.size → Z.Warmed39 vm0 → vm0.findClass "com/example/matchwerk/matchwerk/fix/SentMessagesGetPinLaw" = some m.cls → n0 ≤ h.size → Fr n0 locs → cells ≤ 14 → slots ≤ 62 → own_sent Z h v5 → own_sent Z h v6 → Goes p e below (KW s 40 9408 (fun v h L => v = some (.int 1) ∧ Fr n0 L)) T (mkF m 53 #[.val (.int p0), .val (.int p1), .val (.int p2), .val (.int p3), .val (.int (2 : Int32)), .val v5, .unset, .unset, .unset, .unset, .unset, .unset] [v6]) := by
      intro v5 v6 vm0 T locs cells slots h k0 X eT hS hk hZ hown Zh hN hc hs s5 s6
      obtain ⟨hr_v5, hc_v5⟩ := s5.ref
      obtain ⟨hr_v6, hc_v6⟩ := s6.ref
      refine g_astore (i := 6) X hx #[.val (.int p0), .val (.int p1), .val (.int p2), .val (.int p3), .val (.int (2 : Int32)), .val v5, .val v6, .unset, .unset, .unset, .unset, .unset] (hb hby at_53) hr_v6 (XS.store1 (o := .unset) rfl (Or.inl rfl) hc_v6) rfl ?_
      refine g_iload_n (i := 1) X hx (hb hby at_55) (by rfl) rfl ?_
      refine g_iconst (v := (4 : Int32)) X hx (hb hby at_56) (by decide) rfl ?_
      refine g_iand X hx (hb hby at_57) rfl ?_
      refine g_if_eq X hx (hb hby at_58) (by decide) (pt := 65) (by decide) rfl (fun qb => ?_) (fun qb => ?_)
      · refine g_new X hx hZ hown (wd hw 0 rfl) (wd hw 1 rfl) (wd hw 2 rfl) eT (hb hby at_65) rfl (by show cells + 1 ≤ 40; omega) (by show slots + 3 ≤ 9408; omega) ?_
        intro T96 h96 a96 X96 e96 g96 Ex96 E96 D96
        have F96_type : Fld Z h96 a96 "com/example/matchwerk/matchwerk/fix/SentMessages$Sent" "type" "Ljava/lang/String;" .null := D96 (Or.inr (wd hw 25 rfl)) (ty := (.object "java/lang/String")) (by decide)
        have F96_fieldText : Fld Z h96 a96 "com/example/matchwerk/matchwerk/fix/SentMessages$Sent" "fieldText" "Ljava/lang/String;" .null := D96 (Or.inr (wd hw 27 rfl)) (ty := (.object "java/lang/String")) (by decide)
        have F96_sendingTime : Fld Z h96 a96 "com/example/matchwerk/matchwerk/fix/SentMessages$Sent" "sendingTime" "Ljava/lang/String;" .null := D96 (Or.inr (wd hw 29 rfl)) (ty := (.object "java/lang/String")) (by decide)
        have ga : n0 ≤ a96 := by rw [g96]; exact Zh
        refine g_dup X96 hx (hb hby at_68) rfl rfl ?_
        refine g_ldcS X96 hx hZ hown (wd hw 3 rfl) (own_wS hw) e96 hS (Nat.le_trans hk Ex96.1) (hb hby at_69) rfl 4 (by decide +kernel) (by decide) (by show cells + 1 + 2 ≤ 40; omega) (by show slots + 3 + 8 ≤ 9408; omega) ?_
        intro a97 T97 h97 k97 X97 e97 Ex97 hS hk hZ hown
        refine g_ldcS X97 hx hZ hown (wd hw 11 rfl) (own_wS hw) e97 hS hk (hb hby at_71) rfl 4 (by decide +kernel) (by decide) (by show cells + 1 + 2 + 2 ≤ 40; omega) (by show slots + 3 + 8 + 8 ≤ 9408; omega) ?_
        intro a98 T98 h98 k98 X98 e98 Ex98 hS hk hZ hown
        refine g_ldcS X98 hx hZ hown (wd hw 12 rfl) (own_wS hw) e98 hS hk (hb hby at_73) rfl 8 (by decide +kernel) (by decide) (by show cells + 1 + 2 + 2 + 2 ≤ 40; omega) (by show slots + 3 + 8 + 8 + 12 ≤ 9408; omega) ?_
        intro a99 T99 h99 k99 X99 e99 Ex99 hS hk hZ hown
        refine g_callI X99 hx hZ rfl hown (wd hw 13 rfl) (wd hw 14 rfl) (wd hw 2 rfl) (wd hw 15 rfl) (by decide) e99 (rm_sent l Z a0 hw a96 a97 a98 a99 h99 n0 ga (((E96.ext Ex97).ext Ex98).ext Ex99) (((F96_type.ext Ex97).ext Ex98).ext Ex99) (((F96_fieldText.ext Ex97).ext Ex98).ext Ex99) (((F96_sendingTime.ext Ex97).ext Ex98).ext Ex99)) (by rw [hml]; rfl) a96 [(.ref a97), (.ref a98), (.ref a99)] [(.ref a96)] rfl (lenOf pd_57 rfl) rfl (by show 1 + (4 + 11) + 24 ≤ _; decide) (by decide) (by show cells + 1 + 2 + 2 + 2 + 0 ≤ 40; omega) (by show slots + 3 + 8 + 8 + 12 + 0 ≤ 9408; omega) (hb hby at_75) rfl ?_
        intro T100 v100 L100 X100 hQ100
        obtain ⟨rfl, N100, K100, E100⟩ := hQ100
        have N100 := Fr.app hN N100
        show Goes p e below _ T100 (mkF m 78 #[.val (.int p0), .val (.int p1), .val (.int p2), .val (.int p3), .val (.int (2 : Int32)), .val v5, .val v6, .unset, .unset, .unset, .unset, .unset] [(.ref a96)])
        exact J78 v5 v6 _ _ _ _ _ _ _ _ X100 rfl hS (Nat.le_trans hk K100.1) hZ hown (Nat.le_trans Zh (Nat.le_trans Ex96.1 (Nat.le_trans Ex97.1 (Nat.le_trans Ex98.1 (Nat.le_trans Ex99.1 K100.1))))) N100 (by show cells + 1 + 2 + 2 + 2 + 0 ≤ _; omega) (by show slots + 3 + 8 + 8 + 12 + 0 ≤ _; omega) (((((s5.ext Ex96).ext Ex97).ext Ex98).ext Ex99).keep K100) (((((s6.ext Ex96).ext Ex97).ext Ex98).ext Ex99).keep K100) (Or.inr ⟨_, rfl, E100⟩)
      · refine g_aconst_null X hx (hb hby at_61) rfl ?_
        refine g_goto X hx (hb hby at_62) (by decide) (by decide) (pc' := 78) ?_
        exact J78 v5 v6 _ _ _ _ _ _ _ _ X eT hS hk hZ hown Zh hN (by show cells ≤ _; omega) (by show slots ≤ _; omega) s5 s6 (Or.inl rfl)
    have J28 : ∀ (v5 : Value) (vm0 : Vm) (T : State) (locs : List Loc) (cells slots : Nat) (h : Heap) (k0 : Nat), Stand p l e room_1 (s.setVm vm0) m #[(.int p0), (.int p1), (.int p2), (.int p3)] below meth c T locs cells slots → T.heap = h → s.Since vm0 k0 → k0 ≤ h.size → Z.Warmed39 vm0 → vm0.findClass "com/example/matchwerk/matchwerk/fix/SentMessagesGetPinLaw" = some m.cls → n0 ≤ h.size → Fr n0 locs → cells ≤ 7 → slots ≤ 31 → own_sent Z h v5 → Goes p e below (KW s 40 9408 (fun v h L => v = some (.int 1) ∧ Fr n0 L)) T (mkF m 28 #[.val (.int p0), .val (.int p1), .val (.int p2), .val (.int p3), .val (.int (2 : Int32)), .unset, .unset, .unset, .unset, .unset, .unset, .unset] [v5]) := by
      intro v5 vm0 T locs cells slots h k0 X eT hS hk hZ hown Zh hN hc hs s5
      obtain ⟨hr_v5, hc_v5⟩ := s5.ref
      refine g_astore (i := 5) X hx #[.val (.int p0), .val (.int p1), .val (.int p2), .val (.int p3), .val (.int (2 : Int32)), .val v5, .unset, .unset, .unset, .unset, .unset, .unset] (hb hby at_28) hr_v5 (XS.store1 (o := .unset) rfl (Or.inl rfl) hc_v5) rfl ?_
      refine g_iload_n (i := 1) X hx (hb hby at_30) (by rfl) rfl ?_
      refine g_iconst (v := (2 : Int32)) X hx (hb hby at_31) (by decide) rfl ?_
      refine g_iand X hx (hb hby at_32) rfl ?_
      refine g_if_eq X hx (hb hby at_33) (by decide) (pt := 40) (by decide) rfl (fun qb => ?_) (fun qb => ?_)
      · refine g_new X hx hZ hown (wd hw 0 rfl) (wd hw 1 rfl) (wd hw 2 rfl) eT (hb hby at_40) rfl (by show cells + 1 ≤ 40; omega) (by show slots + 3 ≤ 9408; omega) ?_
        intro T101 h101 a101 X101 e101 g101 Ex101 E101 D101
        have F101_type : Fld Z h101 a101 "com/example/matchwerk/matchwerk/fix/SentMessages$Sent" "type" "Ljava/lang/String;" .null := D101 (Or.inr (wd hw 25 rfl)) (ty := (.object "java/lang/String")) (by decide)
        have F101_fieldText : Fld Z h101 a101 "com/example/matchwerk/matchwerk/fix/SentMessages$Sent" "fieldText" "Ljava/lang/String;" .null := D101 (Or.inr (wd hw 27 rfl)) (ty := (.object "java/lang/String")) (by decide)
        have F101_sendingTime : Fld Z h101 a101 "com/example/matchwerk/matchwerk/fix/SentMessages$Sent" "sendingTime" "Ljava/lang/String;" .null := D101 (Or.inr (wd hw 29 rfl)) (ty := (.object "java/lang/String")) (by decide)
        have ga : n0 ≤ a101 := by rw [g101]; exact Zh
        refine g_dup X101 hx (hb hby at_43) rfl rfl ?_
        refine g_ldcS X101 hx hZ hown (wd hw 66 rfl) (own_wS hw) e101 hS (Nat.le_trans hk Ex101.1) (hb hby at_44) rfl 4 (by decide +kernel) (by decide) (by show cells + 1 + 2 ≤ 40; omega) (by show slots + 3 + 8 ≤ 9408; omega) ?_
        intro a102 T102 h102 k102 X102 e102 Ex102 hS hk hZ hown
        refine g_ldcS X102 hx hZ hown (wd hw 67 rfl) (own_wS hw) e102 hS hk (hb hby at_46) rfl 4 (by decide +kernel) (by decide) (by show cells + 1 + 2 + 2 ≤ 40; omega) (by show slots + 3 + 8 + 8 ≤ 9408; omega) ?_
        intro a103 T103 h103 k103 X103 e103 Ex103 hS hk hZ hown
        refine g_ldcS X103 hx hZ hown (wd hw 68 rfl) (own_wS hw) e103 hS hk (hb hby at_48) rfl 8 (by decide +kernel) (by decide) (by show cells + 1 + 2 + 2 + 2 ≤ 40; omega) (by show slots + 3 + 8 + 8 + 12 ≤ 9408; omega) ?_
        intro a104 T104 h104 k104 X104 e104 Ex104 hS hk hZ hown
        refine g_callI X104 hx hZ rfl hown (wd hw 13 rfl) (wd hw 14 rfl) (wd hw 2 rfl) (wd hw 15 rfl) (by decide) e104 (rm_sent l Z a0 hw a101 a102 a103 a104 h104 n0 ga (((E101.ext Ex102).ext Ex103).ext Ex104) (((F101_type.ext Ex102).ext Ex103).ext Ex104) (((F101_fieldText.ext Ex102).ext Ex103).ext Ex104) (((F101_sendingTime.ext Ex102).ext Ex103).ext Ex104)) (by rw [hml]; rfl) a101 [(.ref a102), (.ref a103), (.ref a104)] [(.ref a101)] rfl (lenOf pd_57 rfl) rfl (by show 1 + (4 + 11) + 24 ≤ _; decide) (by decide) (by show cells + 1 + 2 + 2 + 2 + 0 ≤ 40; omega) (by show slots + 3 + 8 + 8 + 12 + 0 ≤ 9408; omega) (hb hby at_50) rfl ?_
        intro T105 v105 L105 X105 hQ105
        obtain ⟨rfl, N105, K105, E105⟩ := hQ105
        have N105 := Fr.app hN N105
        show Goes p e below _ T105 (mkF m 53 #[.val (.int p0), .val (.int p1), .val (.int p2), .val (.int p3), .val (.int (2 : Int32)), .val v5, .unset, .unset, .unset, .unset, .unset, .unset] [(.ref a101)])
        exact J53 v5 _ _ _ _ _ _ _ _ X105 rfl hS (Nat.le_trans hk K105.1) hZ hown (Nat.le_trans Zh (Nat.le_trans Ex101.1 (Nat.le_trans Ex102.1 (Nat.le_trans Ex103.1 (Nat.le_trans Ex104.1 K105.1))))) N105 (by show cells + 1 + 2 + 2 + 2 + 0 ≤ _; omega) (by show slots + 3 + 8 + 8 + 12 + 0 ≤ _; omega) (((((s5.ext Ex101).ext Ex102).ext Ex103).ext Ex104).keep K105) (Or.inr ⟨_, rfl, E105⟩)
      · refine g_aconst_null X hx (hb hby at_36) rfl ?_
        refine g_goto X hx (hb hby at_37) (by decide) (by decide) (pc' := 53) ?_
        exact J53 v5 _ _ _ _ _ _ _ _ X eT hS hk hZ hown Zh hN (by show cells ≤ _; omega) (by show slots ≤ _; omega) s5 (Or.inl rfl)
    refine g_iload_n (i := 1) X0 hx (hb hby at_5) (by rfl) rfl ?_
    refine g_iconst (v := (1 : Int32)) X0 hx (hb hby at_6) (by decide) rfl ?_
    refine g_iand X0 hx (hb hby at_7) rfl ?_
    refine g_if_eq X0 hx (hb hby at_8) (by decide) (pt := 15) (by decide) rfl (fun qb => ?_) (fun qb => ?_)
    · refine g_new X0 hx hZ hown (wd hw 0 rfl) (wd hw 1 rfl) (wd hw 2 rfl) e0 (hb hby at_15) rfl (by decide) (by decide) ?_
      intro T106 h106 a106 X106 e106 g106 Ex106 E106 D106
      have F106_type : Fld Z h106 a106 "com/example/matchwerk/matchwerk/fix/SentMessages$Sent" "type" "Ljava/lang/String;" .null := D106 (Or.inr (wd hw 25 rfl)) (ty := (.object "java/lang/String")) (by decide)
      have F106_fieldText : Fld Z h106 a106 "com/example/matchwerk/matchwerk/fix/SentMessages$Sent" "fieldText" "Ljava/lang/String;" .null := D106 (Or.inr (wd hw 27 rfl)) (ty := (.object "java/lang/String")) (by decide)
      have F106_sendingTime : Fld Z h106 a106 "com/example/matchwerk/matchwerk/fix/SentMessages$Sent" "sendingTime" "Ljava/lang/String;" .null := D106 (Or.inr (wd hw 29 rfl)) (ty := (.object "java/lang/String")) (by decide)
      have ga : n0 ≤ a106 := by rw [g106]; exact Z0
      refine g_dup X106 hx (hb hby at_18) rfl rfl ?_
      refine g_ldcS X106 hx hZ hown (wd hw 62 rfl) (own_wS hw) e106 hS (Nat.le_trans hk Ex106.1) (hb hby at_19) rfl 4 (by decide +kernel) (by decide) (by decide) (by decide) ?_
      intro a107 T107 h107 k107 X107 e107 Ex107 hS hk hZ hown
      refine g_ldcS X107 hx hZ hown (wd hw 63 rfl) (own_wS hw) e107 hS hk (hb hby at_21) rfl 4 (by decide +kernel) (by decide) (by decide) (by decide) ?_
      intro a108 T108 h108 k108 X108 e108 Ex108 hS hk hZ hown
      refine g_ldcS X108 hx hZ hown (wd hw 64 rfl) (own_wS hw) e108 hS hk (hb hby at_23) rfl 8 (by decide +kernel) (by decide) (by decide) (by decide) ?_
      intro a109 T109 h109 k109 X109 e109 Ex109 hS hk hZ hown
      refine g_callI X109 hx hZ rfl hown (wd hw 13 rfl) (wd hw 14 rfl) (wd hw 2 rfl) (wd hw 15 rfl) (by decide) e109 (rm_sent l Z a0 hw a106 a107 a108 a109 h109 n0 ga (((E106.ext Ex107).ext Ex108).ext Ex109) (((F106_type.ext Ex107).ext Ex108).ext Ex109) (((F106_fieldText.ext Ex107).ext Ex108).ext Ex109) (((F106_sendingTime.ext Ex107).ext Ex108).ext Ex109)) (by rw [hml]; rfl) a106 [(.ref a107), (.ref a108), (.ref a109)] [(.ref a106)] rfl (lenOf pd_57 rfl) rfl (by show 1 + (4 + 11) + 24 ≤ _; decide) (by decide) (by decide) (by decide) (hb hby at_25) rfl ?_
      intro T110 v110 L110 X110 hQ110
      obtain ⟨rfl, N110, K110, E110⟩ := hQ110
      have N110 := Fr.app (Fr.nil n0) N110
      show Goes p e below _ T110 (mkF m 28 #[.val (.int p0), .val (.int p1), .val (.int p2), .val (.int p3), .val (.int (2 : Int32)), .unset, .unset, .unset, .unset, .unset, .unset, .unset] [(.ref a106)])
      exact J28 _ _ _ _ _ _ _ _ X110 rfl hS (Nat.le_trans hk K110.1) hZ hown (Nat.le_trans Z0 (Nat.le_trans Ex106.1 (Nat.le_trans Ex107.1 (Nat.le_trans Ex108.1 (Nat.le_trans Ex109.1 K110.1))))) N110 (by show 0 + 1 + 2 + 2 + 2 + 0 ≤ _; omega) (by show 0 + 3 + 8 + 8 + 12 + 0 ≤ _; omega) (Or.inr ⟨_, rfl, E110⟩)
    · refine g_aconst_null X0 hx (hb hby at_11) rfl ?_
      refine g_goto X0 hx (hb hby at_12) (by decide) (by decide) (pc' := 28) ?_
      exact J28 _ _ _ _ _ _ _ _ X0 e0 hS hk hZ hown Z0 (Fr.nil n0) (by show 0 ≤ _; omega) (by show 0 ≤ _; omega) (Or.inl rfl)
  · rw [hn]
    have J78 : ∀ (v5 v6 v7 : Value) (vm0 : Vm) (T : State) (locs : List Loc) (cells slots : Nat) (h : Heap) (k0 : Nat), Stand p l e room_1 (s.setVm vm0) m #[(.int p0), (.int p1), (.int p2), (.int p3)] below meth c T locs cells slots → T.heap = h → s.Since vm0 k0 → k0 ≤ h.size → Z.Warmed39 vm0 → vm0.findClass "com/example/matchwerk/matchwerk/fix/SentMessagesGetPinLaw" = some m.cls → n0 ≤ h.size → Fr n0 locs → cells ≤ 21 → slots ≤ 93 → own_sent Z h v5 → own_sent Z h v6 → own_sent Z h v7 → Goes p e below (KW s 40 9408 (fun v h L => v = some (.int 1) ∧ Fr n0 L)) T (mkF m 78 #[.val (.int p0), .val (.int p1), .val (.int p2), .val (.int p3), .val (.int (3 : Int32)), .val v5, .val v6, .unset, .unset, .unset, .unset, .unset] [v7]) := by
      intro v5 v6 v7 vm0 T locs cells slots h k0 X eT hS hk hZ hown Zh hN hc hs s5 s6 s7
      obtain ⟨hr_v5, hc_v5⟩ := s5.ref
      obtain ⟨hr_v6, hc_v6⟩ := s6.ref
      obtain ⟨hr_v7, hc_v7⟩ := s7.ref
      refine g_astore (i := 7) X hx #[.val (.int p0), .val (.int p1), .val (.int p2), .val (.int p3), .val (.int (3 : Int32)), .val v5, .val v6, .val v7, .unset, .unset, .unset, .unset] (hb hby at_78) hr_v7 (XS.store1 (o := .unset) rfl (Or.inl rfl) hc_v7) rfl ?_
      refine g_new X hx hZ hown (wd hw 30 rfl) (wd hw 31 rfl) (wd hw 32 rfl) eT (hb hby at_80) rfl (by show cells + 1 ≤ 40; omega) (by show slots + 4 ≤ 9408; omega) ?_
      intro T111 h111 a111 X111 e111 g111 Ex111 E111 D111
      have F111_ring : Fld Z h111 a111 "com/example/matchwerk/matchwerk/fix/SentMessages" "ring" "[Lcom/example/matchwerk/matchwerk/fix/SentMessages$Sent;" .null := D111 (Or.inl (wd hw 40 rfl)) (ty := (.array (.object "com/example/matchwerk/matchwerk/fix/SentMessages$Sent"))) (by decide)
      have F111_first : Fld Z h111 a111 "com/example/matchwerk/matchwerk/fix/SentMessages" "first" "I" (.int 0) := D111 (Or.inl (wd hw 42 rfl)) (ty := .int) (by decide)
      have F111_count : Fld Z h111 a111 "com/example/matchwerk/matchwerk/fix/SentMessages" "count" "I" (.int 0) := D111 (Or.inl (wd hw 58 rfl)) (ty := .int) (by decide)
      have F111_head : Fld Z h111 a111 "com/example/matchwerk/matchwerk/fix/SentMessages" "head" "I" (.int 0) := D111 (Or.inl (wd hw 61 rfl)) (ty := .int) (by decide)
      have ga : n0 ≤ a111 := by rw [g111]; exact Zh
      have Zk : n0 ≤ h111.size := Nat.le_trans Zh Ex111.1
      refine g_dup X111 hx (hb hby at_83) rfl rfl ?_
      refine g_callI X111 hx hZ rfl hown (wd hw 33 rfl) (wd hw 34 rfl) (wd hw 32 rfl) (wd hw 35 rfl) (by decide) e111 (rm_init l Z a0 hw a111 h111 n0 Zk ga E111 F111_ring F111_first F111_head F111_count) (by rw [hml]; rfl) a111 [] [(.ref a111)] rfl (lenOf pd_4 rfl) rfl (by show 1 + (1 + 11) + 12 ≤ _; decide) (by decide) (by show cells + 1 + 1 ≤ 40; omega) (by show slots + 4 + 16 ≤ 9408; omega) (hb hby at_84) rfl ?_
      intro T112 v112 L112 X112 hQ112
      obtain ⟨rfl, N112, K112, r, gr, H⟩ := hQ112
      have N112 := Fr.app hN N112
      show Goes p e below _ T112 (mkF m 87 #[.val (.int p0), .val (.int p1), .val (.int p2), .val (.int p3), .val (.int (3 : Int32)), .val v5, .val v6, .val v7, .unset, .unset, .unset, .unset] [(.ref a111)])
      have t5 := (s5.ext Ex111).keep K112
      have t6 := (s6.ext Ex111).keep K112
      have t7 := (s7.ext Ex111).keep K112
      refine g_astore (i := 8) X112 hx #[.val (.int p0), .val (.int p1), .val (.int p2), .val (.int p3), .val (.int (3 : Int32)), .val v5, .val v6, .val v7, .val (.ref a111), .unset, .unset, .unset] (hb hby at_87) rfl rfl rfl ?_
      refine g_iload (i := 4) X112 hx (hb hby at_89) (by rfl) rfl ?_
      refine g_iconst (v := (1 : Int32)) X112 hx (hb hby at_91) (by decide) rfl ?_
      refine g_icmp_lt X112 hx (hb hby at_92) (by decide) (pt := 102) (by decide) rfl (fun q_ => absurd q_ (by decide)) (fun _ => ?_)
      refine g_aload (i := 8) X112 hx (hb hby at_95) (by rfl) rfl rfl ?_
      refine g_aload (i := 5) X112 hx (hb hby at_97) (by rfl) hr_v5 rfl ?_
      refine g_callV X112 hx hZ hown (wd hw 52 rfl) (wd hw 53 rfl) (wd hw 55 rfl) (wd hw 54 rfl) (wd hw 32 rfl) (wd hw 56 rfl) (by decide) rfl a111 H.1 (rm_add l Z a0 hw a111 r v5 (0 : Int32) (fun (_ : Nat) => Value.null) T112.heap n0 ga gr H t5 (by decide) (by decide) hc_v5 hr_v5) (by rw [hml]; rfl) [v5] [] rfl (lenOf pd_70 rfl) rfl (by show 0 + (2 + 11) + 0 ≤ _; decide) (by decide) (by show cells + 1 + 1 + 0 ≤ 40; omega) (by show slots + 4 + 16 + 0 ≤ 9408; omega) (hb hby at_99) rfl ?_
      intro T113 v113 L113 X113 hQ113
      obtain ⟨rfl, N113, K113, H113⟩ := hQ113
      have N113 := Fr.app N112 N113
      show Goes p e below _ T113 (mkF m 102 #[.val (.int p0), .val (.int p1), .val (.int p2), .val (.int p3), .val (.int (3 : Int32)), .val v5, .val v6, .val v7, .val (.ref a111), .unset, .unset, .unset] [])
      have t5 := t5.keep K113
      have t6 := t6.keep K113
      have t7 := t7.keep K113
      refine g_iload (i := 4) X113 hx (hb hby at_102) (by rfl) rfl ?_
      refine g_iconst (v := (2 : Int32)) X113 hx (hb hby at_104) (by decide) rfl ?_
      refine g_icmp_lt X113 hx (hb hby at_105) (by decide) (pt := 115) (by decide) rfl (fun q_ => absurd q_ (by decide)) (fun _ => ?_)
      refine g_aload (i := 8) X113 hx (hb hby at_108) (by rfl) rfl rfl ?_
      refine g_aload (i := 6) X113 hx (hb hby at_110) (by rfl) hr_v6 rfl ?_
      refine g_callV X113 hx hZ hown (wd hw 52 rfl) (wd hw 53 rfl) (wd hw 55 rfl) (wd hw 54 rfl) (wd hw 32 rfl) (wd hw 56 rfl) (by decide) rfl a111 H113.1 (rm_add l Z a0 hw a111 r v6 (1 : Int32) (fun j => if j = ((0 : Int32)).toInt.toNat then v5 else (fun (_ : Nat) => Value.null) j) T113.heap n0 ga gr H113 t6 (by decide) (by decide) hc_v6 hr_v6) (by rw [hml]; rfl) [v6] [] rfl (lenOf pd_70 rfl) rfl (by show 0 + (2 + 11) + 0 ≤ _; decide) (by decide) (by show cells + 1 + 1 + 0 + 0 ≤ 40; omega) (by show slots + 4 + 16 + 0 + 0 ≤ 9408; omega) (hb hby at_112) rfl ?_
      intro T114 v114 L114 X114 hQ114
      obtain ⟨rfl, N114, K114, H114⟩ := hQ114
      have N114 := Fr.app N113 N114
      show Goes p e below _ T114 (mkF m 115 #[.val (.int p0), .val (.int p1), .val (.int p2), .val (.int p3), .val (.int (3 : Int32)), .val v5, .val v6, .val v7, .val (.ref a111), .unset, .unset, .unset] [])
      have t5 := t5.keep K114
      have t6 := t6.keep K114
      have t7 := t7.keep K114
      refine g_iload (i := 4) X114 hx (hb hby at_115) (by rfl) rfl ?_
      refine g_iconst (v := (3 : Int32)) X114 hx (hb hby at_117) (by decide) rfl ?_
      refine g_icmp_lt X114 hx (hb hby at_118) (by decide) (pt := 128) (by decide) rfl (fun q_ => absurd q_ (by decide)) (fun _ => ?_)
      refine g_aload (i := 8) X114 hx (hb hby at_121) (by rfl) rfl rfl ?_
      refine g_aload (i := 7) X114 hx (hb hby at_123) (by rfl) hr_v7 rfl ?_
      refine g_callV X114 hx hZ hown (wd hw 52 rfl) (wd hw 53 rfl) (wd hw 55 rfl) (wd hw 54 rfl) (wd hw 32 rfl) (wd hw 56 rfl) (by decide) rfl a111 H114.1 (rm_add l Z a0 hw a111 r v7 (2 : Int32) (fun j => if j = ((1 : Int32)).toInt.toNat then v6 else (fun j => if j = ((0 : Int32)).toInt.toNat then v5 else (fun (_ : Nat) => Value.null) j) j) T114.heap n0 ga gr H114 t7 (by decide) (by decide) hc_v7 hr_v7) (by rw [hml]; rfl) [v7] [] rfl (lenOf pd_70 rfl) rfl (by show 0 + (2 + 11) + 0 ≤ _; decide) (by decide) (by show cells + 1 + 1 + 0 + 0 + 0 ≤ 40; omega) (by show slots + 4 + 16 + 0 + 0 + 0 ≤ 9408; omega) (hb hby at_125) rfl ?_
      intro T115 v115 L115 X115 hQ115
      obtain ⟨rfl, N115, K115, H115⟩ := hQ115
      have N115 := Fr.app N114 N115
      show Goes p e below _ T115 (mkF m 128 #[.val (.int p0), .val (.int p1), .val (.int p2), .val (.int p3), .val (.int (3 : Int32)), .val v5, .val v6, .val v7, .val (.ref a111), .unset, .unset, .unset] [])
      have t5 := t5.keep K115
      have t6 := t6.keep K115
      have t7 := t7.keep K115
      refine g_iload_n (i := 2) X115 hx (hb hby at_128) (by rfl) rfl ?_
      refine g_iconst (v := (1 : Int32)) X115 hx (hb hby at_129) (by decide) rfl ?_
      refine g_iand X115 hx (hb hby at_130) rfl ?_
      have hf : ∀ j, ((fun j => if j = ((2 : Int32)).toInt.toNat then v7 else (fun j => if j = ((1 : Int32)).toInt.toNat then v6 else (fun j => if j = ((0 : Int32)).toInt.toNat then v5 else (fun (_ : Nat) => Value.null) j) j) j) j).isRef = true := by intro j; dsimp only; (repeat' split) <;> first | rfl | assumption
      have J144 : ∀ (seq : Int32), Goes p e below (KW s 40 9408 (fun v h L => v = some (.int 1) ∧ Fr n0 L)) T115 (mkF m 144 #[.val (.int p0), .val (.int p1), .val (.int p2), .val (.int p3), .val (.int (3 : Int32)), .val v5, .val v6, .val v7, .val (.ref a111), .unset, .unset, .unset] [(.int seq)]) := by
        intro seq
        refine g_istore (i := 9) X115 hx #[.val (.int p0), .val (.int p1), .val (.int p2), .val (.int p3), .val (.int (3 : Int32)), .val v5, .val v6, .val v7, .val (.ref a111), .val (.int seq), .unset, .unset] (hb hby at_144) rfl rfl ?_
        refine g_aload (i := 8) X115 hx (hb hby at_146) (by rfl) rfl rfl ?_
        refine g_iload (i := 9) X115 hx (hb hby at_148) (by rfl) rfl ?_
        have Hn : own_sm Z T115.heap a111 r (3 : Int32) (fun j => if j = ((2 : Int32)).toInt.toNat then v7 else (fun j => if j = ((1 : Int32)).toInt.toNat then v6 else (fun j => if j = ((0 : Int32)).toInt.toNat then v5 else (fun (_ : Nat) => Value.null) j) j) j) := H115
        refine g_callV X115 hx hZ hown (wd hw 43 rfl) (wd hw 44 rfl) (wd hw 46 rfl) (wd hw 45 rfl) (wd hw 32 rfl) (wd hw 47 rfl) (by decide) rfl a111 Hn.1 (rm_get l Z a0 hw a111 r seq (3 : Int32) (fun j => if j = ((2 : Int32)).toInt.toNat then v7 else (fun j => if j = ((1 : Int32)).toInt.toNat then v6 else (fun j => if j = ((0 : Int32)).toInt.toNat then v5 else (fun (_ : Nat) => Value.null) j) j) j) T115.heap Hn hf (by decide) (by decide)) (by rw [hml]; rfl) [(.int seq)] [] rfl (lenOf pd_50 rfl) rfl (by show 0 + (2 + 11) + 0 ≤ _; decide) (by decide) (by show cells + 1 + 1 + 0 + 0 + 0 + 0 ≤ 40; omega) (by show slots + 4 + 16 + 0 + 0 + 0 + 0 ≤ 9408; omega) (hb hby at_150) rfl ?_
        intro T116 v116 L116 X116 hQ116
        obtain ⟨rfl, rfl, e116⟩ := hQ116
        have N116 := Fr.app N115 (Fr.nil n0)
        show Goes p e below _ T116 (mkF m 153 #[.val (.int p0), .val (.int p1), .val (.int p2), .val (.int p3), .val (.int (3 : Int32)), .val v5, .val v6, .val v7, .val (.ref a111), .val (.int seq), .unset, .unset] [(own_get (fun j => if j = ((2 : Int32)).toInt.toNat then v7 else (fun j => if j = ((1 : Int32)).toInt.toNat then v6 else (fun j => if j = ((0 : Int32)).toInt.toNat then v5 else (fun (_ : Nat) => Value.null) j) j) j) (3 : Int32) seq)])
        have hfin : (own_get (fun j => if j = ((2 : Int32)).toInt.toNat then v7 else (fun j => if j = ((1 : Int32)).toInt.toNat then v6 else (fun j => if j = ((0 : Int32)).toInt.toNat then v5 else (fun (_ : Nat) => Value.null) j) j) j) (3 : Int32) seq) = (if seq = 1 ∧ ¬ (3 : Int32) < 1 then v5 else if seq = 2 ∧ ¬ (3 : Int32) < 2 then v6 else if seq = 3 ∧ ¬ (3 : Int32) < 3 then v7 else .null) := own_final3 v5 v6 v7 seq
        have hr_GV : ((own_get (fun j => if j = ((2 : Int32)).toInt.toNat then v7 else (fun j => if j = ((1 : Int32)).toInt.toNat then v6 else (fun j => if j = ((0 : Int32)).toInt.toNat then v5 else (fun (_ : Nat) => Value.null) j) j) j) (3 : Int32) seq)).isRef = true := by rw [hfin]; (repeat' split) <;> first | rfl | assumption
        have hc_GV : ((own_get (fun j => if j = ((2 : Int32)).toInt.toNat then v7 else (fun j => if j = ((1 : Int32)).toInt.toNat then v6 else (fun j => if j = ((0 : Int32)).toInt.toNat then v5 else (fun (_ : Nat) => Value.null) j) j) j) (3 : Int32) seq)).category = 1 := by rw [hfin]; (repeat' split) <;> first | rfl | assumption
        revert hfin hr_GV hc_GV
        generalize (own_get (fun j => if j = ((2 : Int32)).toInt.toNat then v7 else (fun j => if j = ((1 : Int32)).toInt.toNat then v6 else (fun j => if j = ((0 : Int32)).toInt.toNat then v5 else (fun (_ : Nat) => Value.null) j) j) j) (3 : Int32) seq) = GV
        intro hfin hr_GV hc_GV
        refine g_astore (i := 10) X116 hx #[.val (.int p0), .val (.int p1), .val (.int p2), .val (.int p3), .val (.int (3 : Int32)), .val v5, .val v6, .val v7, .val (.ref a111), .val (.int seq), .val GV, .unset] (hb hby at_153) hr_GV (XS.store1 (o := .unset) rfl (Or.inl rfl) hc_GV) rfl ?_
        refine g_iload (i := 4) X116 hx (hb hby at_155) (by rfl) rfl ?_
        refine g_iload (i := 9) X116 hx (hb hby at_157) (by rfl) rfl ?_
        refine g_aload (i := 5) X116 hx (hb hby at_159) (by rfl) hr_v5 rfl ?_
        refine g_aload (i := 6) X116 hx (hb hby at_161) (by rfl) hr_v6 rfl ?_
        refine g_aload (i := 7) X116 hx (hb hby at_163) (by rfl) hr_v7 rfl ?_
        refine g_callS X116 hx hZ hown (wd hw 48 rfl) (wd hw 49 rfl) (wd hw 50 rfl) (wd hw 51 rfl) (by decide) e116 (rm_exp l Z a0 hw (3 : Int32) seq v5 v6 v7 T115.heap hr_v5 hr_v6 hr_v7 hc_v5 hc_v6 hc_v7) (by rw [hml]; rfl) [(.int (3 : Int32)), (.int seq), v5, v6, v7] [] rfl (lenOf pd_51 rfl) rfl (by show 0 + (5 + 11) + 0 ≤ _; decide) (by decide) (by show cells + 1 + 1 + 0 + 0 + 0 + 0 + 0 ≤ 40; omega) (by show slots + 4 + 16 + 0 + 0 + 0 + 0 + 0 ≤ 9408; omega) (hb hby at_165) rfl ?_
        intro T117 v117 L117 X117 hQ117
        obtain ⟨rfl, rfl, e117⟩ := hQ117
        have N117 := Fr.app N116 (Fr.nil n0)
        show Goes p e below _ T117 (mkF m 168 #[.val (.int p0), .val (.int p1), .val (.int p2), .val (.int p3), .val (.int (3 : Int32)), .val v5, .val v6, .val v7, .val (.ref a111), .val (.int seq), .val GV, .unset] [(if seq = 1 ∧ ¬ (3 : Int32) < 1 then v5 else if seq = 2 ∧ ¬ (3 : Int32) < 2 then v6 else if seq = 3 ∧ ¬ (3 : Int32) < 3 then v7 else .null)])
        rw [← hfin]
        refine g_astore (i := 11) X117 hx #[.val (.int p0), .val (.int p1), .val (.int p2), .val (.int p3), .val (.int (3 : Int32)), .val v5, .val v6, .val v7, .val (.ref a111), .val (.int seq), .val GV, .val GV] (hb hby at_168) hr_GV (XS.store1 (o := .unset) rfl (Or.inl rfl) hc_GV) rfl ?_
        refine g_aload (i := 10) X117 hx (hb hby at_170) (by rfl) hr_GV rfl ?_
        refine g_aload (i := 11) X117 hx (hb hby at_172) (by rfl) hr_GV rfl ?_
        refine g_acmp_ne X117 hx (hb hby at_174) hr_GV hr_GV (by decide) (pt := 181) (by decide) rfl (fun q_ => absurd (rfl) q_) (fun _ => ?_)
        refine g_iconst (v := (1 : Int32)) X117 hx (hb hby at_177) (by decide) rfl ?_
        refine g_goto X117 hx (hb hby at_178) (by decide) (by decide) (pc' := 182) ?_
        exact g_retNW X117 hx (t := .boolean) (by simp) hlk hret e117 hS (Nat.le_trans (Nat.le_trans (Nat.le_trans (Nat.le_trans (Nat.le_trans hk Ex111.1) K112.1) K113.1) K114.1) K115.1) (by show cells + 1 + 1 + 0 + 0 + 0 + 0 + 0 ≤ 40; omega) (by show slots + 4 + 16 + 0 + 0 + 0 + 0 + 0 ≤ 9408; omega) (hb hby at_182) ⟨rfl, N117⟩
      refine g_if_eq X115 hx (hb hby at_131) (by decide) (pt := 138) (by decide) rfl (fun q118 => ?_) (fun q118 => ?_)
      · refine g_iload_n (i := 3) X115 hx (hb hby at_138) (by rfl) rfl ?_
        refine g_bipush (v := (7 : Int32)) X115 hx (hb hby at_139) (by decide) rfl ?_
        refine g_iand X115 hx (hb hby at_141) rfl ?_
        refine g_iconst (v := (2 : Int32)) X115 hx (hb hby at_142) (by decide) rfl ?_
        refine g_isub X115 hx (hb hby at_143) rfl ?_
        exact J144 _
      · refine g_iload_n (i := 3) X115 hx (hb hby at_134) (by rfl) rfl ?_
        refine g_goto X115 hx (hb hby at_135) (by decide) (by decide) (pc' := 144) ?_
        exact J144 _
    have J53 : ∀ (v5 v6 : Value) (vm0 : Vm) (T : State) (locs : List Loc) (cells slots : Nat) (h : Heap) (k0 : Nat), Stand p l e room_1 (s.setVm vm0) m #[(.int p0), (.int p1), (.int p2), (.int p3)] below meth c T locs cells slots → T.heap = h → s.Since vm0 k0 → k0 ≤ h.size → Z.Warmed39 vm0 → vm0.findClass "com/example/matchwerk/matchwerk/fix/SentMessagesGetPinLaw" = some m.cls → n0 ≤ h.size → Fr n0 locs → cells ≤ 14 → slots ≤ 62 → own_sent Z h v5 → own_sent Z h v6 → Goes p e below (KW s 40 9408 (fun v h L => v = some (.int 1) ∧ Fr n0 L)) T (mkF m 53 #[.val (.int p0), .val (.int p1), .val (.int p2), .val (.int p3), .val (.int (3 : Int32)), .val v5, .unset, .unset, .unset, .unset, .unset, .unset] [v6]) := by
      intro v5 v6 vm0 T locs cells slots h k0 X eT hS hk hZ hown Zh hN hc hs s5 s6
      obtain ⟨hr_v5, hc_v5⟩ := s5.ref
      obtain ⟨hr_v6, hc_v6⟩ := s6.ref
      refine g_astore (i := 6) X hx #[.val (.int p0), .val (.int p1), .val (.int p2), .val (.int p3), .val (.int (3 : Int32)), .val v5, .val v6, .unset, .unset, .unset, .unset, .unset] (hb hby at_53) hr_v6 (XS.store1 (o := .unset) rfl (Or.inl rfl) hc_v6) rfl ?_
      refine g_iload_n (i := 1) X hx (hb hby at_55) (by rfl) rfl ?_
      refine g_iconst (v := (4 : Int32)) X hx (hb hby at_56) (by decide) rfl ?_
      refine g_iand X hx (hb hby at_57) rfl ?_
      refine g_if_eq X hx (hb hby at_58) (by decide) (pt := 65) (by decide) rfl (fun qb => ?_) (fun qb => ?_)
      · refine g_new X hx hZ hown (wd hw 0 rfl) (wd hw 1 rfl) (wd hw 2 rfl) eT (hb hby at_65) rfl (by show cells + 1 ≤ 40; omega) (by show slots + 3 ≤ 9408; omega) ?_
        intro T119 h119 a119 X119 e119 g119 Ex119 E119 D119
        have F119_type : Fld Z h119 a119 "com/example/matchwerk/matchwerk/fix/SentMessages$Sent" "type" "Ljava/lang/String;" .null := D119 (Or.inr (wd hw 25 rfl)) (ty := (.object "java/lang/String")) (by decide)
        have F119_fieldText : Fld Z h119 a119 "com/example/matchwerk/matchwerk/fix/SentMessages$Sent" "fieldText" "Ljava/lang/String;" .null := D119 (Or.inr (wd hw 27 rfl)) (ty := (.object "java/lang/String")) (by decide)
        have F119_sendingTime : Fld Z h119 a119 "com/example/matchwerk/matchwerk/fix/SentMessages$Sent" "sendingTime" "Ljava/lang/String;" .null := D119 (Or.inr (wd hw 29 rfl)) (ty := (.object "java/lang/String")) (by decide)
        have ga : n0 ≤ a119 := by rw [g119]; exact Zh
        refine g_dup X119 hx (hb hby at_68) rfl rfl ?_
        refine g_ldcS X119 hx hZ hown (wd hw 3 rfl) (own_wS hw) e119 hS (Nat.le_trans hk Ex119.1) (hb hby at_69) rfl 4 (by decide +kernel) (by decide) (by show cells + 1 + 2 ≤ 40; omega) (by show slots + 3 + 8 ≤ 9408; omega) ?_
        intro a120 T120 h120 k120 X120 e120 Ex120 hS hk hZ hown
        refine g_ldcS X120 hx hZ hown (wd hw 11 rfl) (own_wS hw) e120 hS hk (hb hby at_71) rfl 4 (by decide +kernel) (by decide) (by show cells + 1 + 2 + 2 ≤ 40; omega) (by show slots + 3 + 8 + 8 ≤ 9408; omega) ?_
        intro a121 T121 h121 k121 X121 e121 Ex121 hS hk hZ hown
        refine g_ldcS X121 hx hZ hown (wd hw 12 rfl) (own_wS hw) e121 hS hk (hb hby at_73) rfl 8 (by decide +kernel) (by decide) (by show cells + 1 + 2 + 2 + 2 ≤ 40; omega) (by show slots + 3 + 8 + 8 + 12 ≤ 9408; omega) ?_
        intro a122 T122 h122 k122 X122 e122 Ex122 hS hk hZ hown
        refine g_callI X122 hx hZ rfl hown (wd hw 13 rfl) (wd hw 14 rfl) (wd hw 2 rfl) (wd hw 15 rfl) (by decide) e122 (rm_sent l Z a0 hw a119 a120 a121 a122 h122 n0 ga (((E119.ext Ex120).ext Ex121).ext Ex122) (((F119_type.ext Ex120).ext Ex121).ext Ex122) (((F119_fieldText.ext Ex120).ext Ex121).ext Ex122) (((F119_sendingTime.ext Ex120).ext Ex121).ext Ex122)) (by rw [hml]; rfl) a119 [(.ref a120), (.ref a121), (.ref a122)] [(.ref a119)] rfl (lenOf pd_57 rfl) rfl (by show 1 + (4 + 11) + 24 ≤ _; decide) (by decide) (by show cells + 1 + 2 + 2 + 2 + 0 ≤ 40; omega) (by show slots + 3 + 8 + 8 + 12 + 0 ≤ 9408; omega) (hb hby at_75) rfl ?_
        intro T123 v123 L123 X123 hQ123
        obtain ⟨rfl, N123, K123, E123⟩ := hQ123
        have N123 := Fr.app hN N123
        show Goes p e below _ T123 (mkF m 78 #[.val (.int p0), .val (.int p1), .val (.int p2), .val (.int p3), .val (.int (3 : Int32)), .val v5, .val v6, .unset, .unset, .unset, .unset, .unset] [(.ref a119)])
        exact J78 v5 v6 _ _ _ _ _ _ _ _ X123 rfl hS (Nat.le_trans hk K123.1) hZ hown (Nat.le_trans Zh (Nat.le_trans Ex119.1 (Nat.le_trans Ex120.1 (Nat.le_trans Ex121.1 (Nat.le_trans Ex122.1 K123.1))))) N123 (by show cells + 1 + 2 + 2 + 2 + 0 ≤ _; omega) (by show slots + 3 + 8 + 8 + 12 + 0 ≤ _; omega) (((((s5.ext Ex119).ext Ex120).ext Ex121).ext Ex122).keep K123) (((((s6.ext Ex119).ext Ex120).ext Ex121).ext Ex122).keep K123) (Or.inr ⟨_, rfl, E123⟩)
      · refine g_aconst_null X hx (hb hby at_61) rfl ?_
        refine g_goto X hx (hb hby at_62) (by decide) (by decide) (pc' := 78) ?_
        exact J78 v5 v6 _ _ _ _ _ _ _ _ X eT hS hk hZ hown Zh hN (by show cells ≤ _; omega) (by show slots ≤ _; omega) s5 s6 (Or.inl rfl)
    have J28 : ∀ (v5 : Value) (vm0 : Vm) (T : State) (locs : List Loc) (cells slots : Nat) (h : Heap) (k0 : Nat), Stand p l e room_1 (s.setVm vm0) m #[(.int p0), (.int p1), (.int p2), (.int p3)] below meth c T locs cells slots → T.heap = h → s.Since vm0 k0 → k0 ≤ h.size → Z.Warmed39 vm0 → vm0.findClass "com/example/matchwerk/matchwerk/fix/SentMessagesGetPinLaw" = some m.cls → n0 ≤ h.size → Fr n0 locs → cells ≤ 7 → slots ≤ 31 → own_sent Z h v5 → Goes p e below (KW s 40 9408 (fun v h L => v = some (.int 1) ∧ Fr n0 L)) T (mkF m 28 #[.val (.int p0), .val (.int p1), .val (.int p2), .val (.int p3), .val (.int (3 : Int32)), .unset, .unset, .unset, .unset, .unset, .unset, .unset] [v5]) := by
      intro v5 vm0 T locs cells slots h k0 X eT hS hk hZ hown Zh hN hc hs s5
      obtain ⟨hr_v5, hc_v5⟩ := s5.ref
      refine g_astore (i := 5) X hx #[.val (.int p0), .val (.int p1), .val (.int p2), .val (.int p3), .val (.int (3 : Int32)), .val v5, .unset, .unset, .unset, .unset, .unset, .unset] (hb hby at_28) hr_v5 (XS.store1 (o := .unset) rfl (Or.inl rfl) hc_v5) rfl ?_
      refine g_iload_n (i := 1) X hx (hb hby at_30) (by rfl) rfl ?_
      refine g_iconst (v := (2 : Int32)) X hx (hb hby at_31) (by decide) rfl ?_
      refine g_iand X hx (hb hby at_32) rfl ?_
      refine g_if_eq X hx (hb hby at_33) (by decide) (pt := 40) (by decide) rfl (fun qb => ?_) (fun qb => ?_)
      · refine g_new X hx hZ hown (wd hw 0 rfl) (wd hw 1 rfl) (wd hw 2 rfl) eT (hb hby at_40) rfl (by show cells + 1 ≤ 40; omega) (by show slots + 3 ≤ 9408; omega) ?_
        intro T124 h124 a124 X124 e124 g124 Ex124 E124 D124
        have F124_type : Fld Z h124 a124 "com/example/matchwerk/matchwerk/fix/SentMessages$Sent" "type" "Ljava/lang/String;" .null := D124 (Or.inr (wd hw 25 rfl)) (ty := (.object "java/lang/String")) (by decide)
        have F124_fieldText : Fld Z h124 a124 "com/example/matchwerk/matchwerk/fix/SentMessages$Sent" "fieldText" "Ljava/lang/String;" .null := D124 (Or.inr (wd hw 27 rfl)) (ty := (.object "java/lang/String")) (by decide)
        have F124_sendingTime : Fld Z h124 a124 "com/example/matchwerk/matchwerk/fix/SentMessages$Sent" "sendingTime" "Ljava/lang/String;" .null := D124 (Or.inr (wd hw 29 rfl)) (ty := (.object "java/lang/String")) (by decide)
        have ga : n0 ≤ a124 := by rw [g124]; exact Zh
        refine g_dup X124 hx (hb hby at_43) rfl rfl ?_
        refine g_ldcS X124 hx hZ hown (wd hw 66 rfl) (own_wS hw) e124 hS (Nat.le_trans hk Ex124.1) (hb hby at_44) rfl 4 (by decide +kernel) (by decide) (by show cells + 1 + 2 ≤ 40; omega) (by show slots + 3 + 8 ≤ 9408; omega) ?_
        intro a125 T125 h125 k125 X125 e125 Ex125 hS hk hZ hown
        refine g_ldcS X125 hx hZ hown (wd hw 67 rfl) (own_wS hw) e125 hS hk (hb hby at_46) rfl 4 (by decide +kernel) (by decide) (by show cells + 1 + 2 + 2 ≤ 40; omega) (by show slots + 3 + 8 + 8 ≤ 9408; omega) ?_
        intro a126 T126 h126 k126 X126 e126 Ex126 hS hk hZ hown
        refine g_ldcS X126 hx hZ hown (wd hw 68 rfl) (own_wS hw) e126 hS hk (hb hby at_48) rfl 8 (by decide +kernel) (by decide) (by show cells + 1 + 2 + 2 + 2 ≤ 40; omega) (by show slots + 3 + 8 + 8 + 12 ≤ 9408; omega) ?_
        intro a127 T127 h127 k127 X127 e127 Ex127 hS hk hZ hown
        refine g_callI X127 hx hZ rfl hown (wd hw 13 rfl) (wd hw 14 rfl) (wd hw 2 rfl) (wd hw 15 rfl) (by decide) e127 (rm_sent l Z a0 hw a124 a125 a126 a127 h127 n0 ga (((E124.ext Ex125).ext Ex126).ext Ex127) (((F124_type.ext Ex125).ext Ex126).ext Ex127) (((F124_fieldText.ext Ex125).ext Ex126).ext Ex127) (((F124_sendingTime.ext Ex125).ext Ex126).ext Ex127)) (by rw [hml]; rfl) a124 [(.ref a125), (.ref a126), (.ref a127)] [(.ref a124)] rfl (lenOf pd_57 rfl) rfl (by show 1 + (4 + 11) + 24 ≤ _; decide) (by decide) (by show cells + 1 + 2 + 2 + 2 + 0 ≤ 40; omega) (by show slots + 3 + 8 + 8 + 12 + 0 ≤ 9408; omega) (hb hby at_50) rfl ?_
        intro T128 v128 L128 X128 hQ128
        obtain ⟨rfl, N128, K128, E128⟩ := hQ128
        have N128 := Fr.app hN N128
        show Goes p e below _ T128 (mkF m 53 #[.val (.int p0), .val (.int p1), .val (.int p2), .val (.int p3), .val (.int (3 : Int32)), .val v5, .unset, .unset, .unset, .unset, .unset, .unset] [(.ref a124)])
        exact J53 v5 _ _ _ _ _ _ _ _ X128 rfl hS (Nat.le_trans hk K128.1) hZ hown (Nat.le_trans Zh (Nat.le_trans Ex124.1 (Nat.le_trans Ex125.1 (Nat.le_trans Ex126.1 (Nat.le_trans Ex127.1 K128.1))))) N128 (by show cells + 1 + 2 + 2 + 2 + 0 ≤ _; omega) (by show slots + 3 + 8 + 8 + 12 + 0 ≤ _; omega) (((((s5.ext Ex124).ext Ex125).ext Ex126).ext Ex127).keep K128) (Or.inr ⟨_, rfl, E128⟩)
      · refine g_aconst_null X hx (hb hby at_36) rfl ?_
        refine g_goto X hx (hb hby at_37) (by decide) (by decide) (pc' := 53) ?_
        exact J53 v5 _ _ _ _ _ _ _ _ X eT hS hk hZ hown Zh hN (by show cells ≤ _; omega) (by show slots ≤ _; omega) s5 (Or.inl rfl)
    refine g_iload_n (i := 1) X0 hx (hb hby at_5) (by rfl) rfl ?_
    refine g_iconst (v := (1 : Int32)) X0 hx (hb hby at_6) (by decide) rfl ?_
    refine g_iand X0 hx (hb hby at_7) rfl ?_
    refine g_if_eq X0 hx (hb hby at_8) (by decide) (pt := 15) (by decide) rfl (fun qb => ?_) (fun qb => ?_)
    · refine g_new X0 hx hZ hown (wd hw 0 rfl) (wd hw 1 rfl) (wd hw 2 rfl) e0 (hb hby at_15) rfl (by decide) (by decide) ?_
      intro T129 h129 a129 X129 e129 g129 Ex129 E129 D129
      have F129_type : Fld Z h129 a129 "com/example/matchwerk/matchwerk/fix/SentMessages$Sent" "type" "Ljava/lang/String;" .null := D129 (Or.inr (wd hw 25 rfl)) (ty := (.object "java/lang/String")) (by decide)
      have F129_fieldText : Fld Z h129 a129 "com/example/matchwerk/matchwerk/fix/SentMessages$Sent" "fieldText" "Ljava/lang/String;" .null := D129 (Or.inr (wd hw 27 rfl)) (ty := (.object "java/lang/String")) (by decide)
      have F129_sendingTime : Fld Z h129 a129 "com/example/matchwerk/matchwerk/fix/SentMessages$Sent" "sendingTime" "Ljava/lang/String;" .null := D129 (Or.inr (wd hw 29 rfl)) (ty := (.object "java/lang/String")) (by decide)
      have ga : n0 ≤ a129 := by rw [g129]; exact Z0
      refine g_dup X129 hx (hb hby at_18) rfl rfl ?_
      refine g_ldcS X129 hx hZ hown (wd hw 62 rfl) (own_wS hw) e129 hS (Nat.le_trans hk Ex129.1) (hb hby at_19) rfl 4 (by decide +kernel) (by decide) (by decide) (by decide) ?_
      intro a130 T130 h130 k130 X130 e130 Ex130 hS hk hZ hown
      refine g_ldcS X130 hx hZ hown (wd hw 63 rfl) (own_wS hw) e130 hS hk (hb hby at_21) rfl 4 (by decide +kernel) (by decide) (by decide) (by decide) ?_
      intro a131 T131 h131 k131 X131 e131 Ex131 hS hk hZ hown
      refine g_ldcS X131 hx hZ hown (wd hw 64 rfl) (own_wS hw) e131 hS hk (hb hby at_23) rfl 8 (by decide +kernel) (by decide) (by decide) (by decide) ?_
      intro a132 T132 h132 k132 X132 e132 Ex132 hS hk hZ hown
      refine g_callI X132 hx hZ rfl hown (wd hw 13 rfl) (wd hw 14 rfl) (wd hw 2 rfl) (wd hw 15 rfl) (by decide) e132 (rm_sent l Z a0 hw a129 a130 a131 a132 h132 n0 ga (((E129.ext Ex130).ext Ex131).ext Ex132) (((F129_type.ext Ex130).ext Ex131).ext Ex132) (((F129_fieldText.ext Ex130).ext Ex131).ext Ex132) (((F129_sendingTime.ext Ex130).ext Ex131).ext Ex132)) (by rw [hml]; rfl) a129 [(.ref a130), (.ref a131), (.ref a132)] [(.ref a129)] rfl (lenOf pd_57 rfl) rfl (by show 1 + (4 + 11) + 24 ≤ _; decide) (by decide) (by decide) (by decide) (hb hby at_25) rfl ?_
      intro T133 v133 L133 X133 hQ133
      obtain ⟨rfl, N133, K133, E133⟩ := hQ133
      have N133 := Fr.app (Fr.nil n0) N133
      show Goes p e below _ T133 (mkF m 28 #[.val (.int p0), .val (.int p1), .val (.int p2), .val (.int p3), .val (.int (3 : Int32)), .unset, .unset, .unset, .unset, .unset, .unset, .unset] [(.ref a129)])
      exact J28 _ _ _ _ _ _ _ _ X133 rfl hS (Nat.le_trans hk K133.1) hZ hown (Nat.le_trans Z0 (Nat.le_trans Ex129.1 (Nat.le_trans Ex130.1 (Nat.le_trans Ex131.1 (Nat.le_trans Ex132.1 K133.1))))) N133 (by show 0 + 1 + 2 + 2 + 2 + 0 ≤ _; omega) (by show 0 + 3 + 8 + 8 + 12 + 0 ≤ _; omega) (Or.inr ⟨_, rfl, E133⟩)
    · refine g_aconst_null X0 hx (hb hby at_11) rfl ?_
      refine g_goto X0 hx (hb hby at_12) (by decide) (by decide) (pc' := 28) ?_
      exact J28 _ _ _ _ _ _ _ _ X0 e0 hS hk hZ hown Z0 (Fr.nil n0) (by show 0 ≤ _; omega) (by show 0 ≤ _; omega) (Or.inl rfl)
set_option maxRecDepth 65536 in
set_option maxHeartbeats 40000000 in
theorem comes_1 {Post : Tables → Env → Array Value → State → Outcome → State → Prop} (hpost : ∀ tb e args s v u, (limb_1_1.after args s (.returned v) u = true ∧ limb_1_2.after args s (.returned v) u = true ∧ True) → ReturnedEndW s (.returned v) u (Jvm.fieldLocs frame_1_writes args s ++ Jvm.arrayLocs frame_1_arrays args s ++ Jvm.staticLocs frame_1_statics s) 40 9408 → Post tb e args s (.returned v) u) :
    ArmFor flags0 classFile x code maxLocals ret World_1 tables_1 room_1 Calls_1 rest_1 Pre_1 Post := by
  intro l hfl _ _ p e ha hc hk s m args below hf hA hF happ hP
  obtain ⟨hcalls, hrest, hpre⟩ := hP
  obtain ⟨-, -, -, hnamed, -, -, -, hat⟩ := (Spec.applies_iff hf).mp happ
  obtain ⟨hg, hn⟩ := and_e (Cond.before_iff.mp (show (Jvm.Cond.and given_1 narrow_1).before args s = true from hpre))
  obtain ⟨hcnt, hg0⟩ := and_e hg
  obtain ⟨w0, w1, w2, w3, rfl⟩ : ∃ w0 w1 w2 w3 : Value, args = #[w0, w1, w2, w3] := by
    have hs : args.size = 4 := by simpa [Cond.value, given_1] using hcnt
    obtain ⟨L⟩ := args
    match L, hs with
    | [w0, w1, w2, w3], _ => exact ⟨w0, w1, w2, w3, rfl⟩
  have hw := fun d (hd : d ∈ tables_1) => atoms_spec (ws := Jvm.Cond.code x code maxLocals ret :: tables_1) hat d (List.mem_cons_of_mem _ hd)
  have hfit : Fit s := fun {y c} hc i hi => by
    obtain ⟨ha, rfl⟩ := Array.getElem?_eq_some_iff.mp hc
    have q := List.all_eq_true.mp ((Array.all_eq_true_iff_forall_mem.mp hF) _ (Array.getElem_mem ha)) i (List.mem_range.mpr hi)
    simpa [Array.getElem?_eq_getElem hi] using q
  obtain ⟨ha0, hg1⟩ := and_e hg0
  obtain ⟨i0, q0⟩ := is_v ha0
  obtain rfl : w0 = (.int i0) := Option.some.inj q0
  obtain ⟨ha1, hg2⟩ := and_e hg1
  obtain ⟨i1, q1⟩ := is_v ha1
  obtain rfl : w1 = (.int i1) := Option.some.inj q1
  obtain ⟨ha2, hg3⟩ := and_e hg2
  obtain ⟨i2, q2⟩ := is_v ha2
  obtain rfl : w2 = (.int i2) := Option.some.inj q2
  obtain ⟨i3, q3⟩ := is_v hg3
  obtain rfl : w3 = (.int i3) := Option.some.inj q3
  obtain ⟨n, o, h1, h2, h3, _, L, rfl, ⟨rfl, N⟩, hq⟩ := rm0 l s _ hw i0 i1 i2 i3 s.heap s.heap.size (Nat.le_refl _) p e ha hc hk s m _ below hf ((Spec.applies_iff_loose hf).mp happ).1 ⟨rfl, State.Warmed39.refl s, rfl, rfl⟩ trivial
  refine ⟨n, _, h1, h2, h3, hpost _ _ _ _ _ _ ⟨Cond.after_iff.mpr rfl, Cond.after_iff.mpr (eq_i res_at (Term.int_eval (1)) rfl), trivial⟩ ⟨hq.1, hq.2.1, hq.2.2.1, (hq.2.2.2.sift fun y hy => Or.inr (N y hy)).mono (by decide) (by decide)⟩⟩
theorem main_1_1 : Claimed_1_1 := comes_1 fun _ _ _ _ _ _ h hF => ⟨h.1, hF⟩
theorem main_1_2 : Claimed_1_2 := comes_1 fun _ _ _ _ _ _ h hF => ⟨h.2.1, hF⟩
end Jvm.Pilot.@@N@@
namespace Jvm.Pilot.@@N@@
open Jvm Jvm.ClassFile Sem Op Lib Jvm.Free Jvm.Stand Jvm.Pilot.@@N@@.Jvm.D
/-! MADE BY PROGRAM (witnessworld.py) out of the Statement's table words and the real class files: 17 classes; the members and pool entries that the words name. The judged class is class 1, her method 1. -/
namespace start1
open Jvm.ClassFile
def u (s : String) : CpInfo := .utf8 (stringToUtf16 s)
/-- a pool by its gaps: so many unusable entries, then the entry; so many at the end -/
def gap : Nat → List CpInfo → List CpInfo
  | 0, r => r
  | n + 1, r => .unusable :: gap n r
def poolList (es : List (Nat × CpInfo)) (last : Nat) : List CpInfo := es.foldr (fun e r => gap e.1 (e.2 :: r)) (gap last [])
def pool (es : List (Nat × CpInfo)) (last : Nat) : Array CpInfo := ⟨poolList es last⟩
def fileOf (pool : Array CpInfo) (this : Nat) (attrs : Array Attribute := #[]) (ms : Array MethodInfo := #[]) (fl : Nat := 33) (sup : Nat := 0) (ifs : Array Nat := #[]) (fds : Array FieldInfo := #[]) : ClassFile where
  minorVersion := 0
  majorVersion := 65
  constantPool := pool
  accessFlags := fl
  thisClass := this
  superClass := sup
  interfaces := ifs
  fields := fds
  methods := ms
  attributes := attrs
def plain (name : String) (sup : Option ClassId) : Class where
  name := name
  kind := .ordinary
  loader := none
  accessFlags := 33
  super := sup
  interfaces := #[]
  cf := none
  fields := #[]
  methods := #[]
  instanceTypes := #[]
  staticTypes := #[]
  resolved := #[]
  callSites := []
  init := .initialized
  statics := none
  mirror := none

def pool0 : Array CpInfo := pool [(5, u "<init>"), (0, u "()V"), (1, .class_ 10), (1, u "java/lang/Object")] 113

def k0c0 : Code := { maxStack := 0, maxLocals := 1, code := object_method_1_code, exceptionTable := #[], attributes := #[] }
def k0m0 : Method := { name := "<init>", desc := "()V", sig := { parameters := [], returnType := none }, accessFlags := 1, code := some k0c0 }
/-- java/lang/Object -/
def k0 : Class := { plain "java/lang/Object" none with
  accessFlags := 33
  interfaces := #[]
  cf := some (fileOf pool0 8 #[] #[{ accessFlags := 1, nameIndex := 5, descriptorIndex := 6, attributes := #[] }] 33 0 #[] #[])
  fields := #[]
  methods := #[k0m0]
  instanceTypes := #[]
  staticTypes := #[]
  resolved := Array.replicate 124 none
  statics := none }

def pool1 : Array CpInfo := pool [(2, .class_ 4), (0, .nameAndType 5 6), (0, u "java/lang/Object"), (0, u "<init>"), (0, u "()V"), (0, .class_ 8), (0, u "com/example/matchwerk/matchwerk/fix/SentMessages$Sent"), (0, .string 10), (0, u "A"), (0, .string 12), (0, u "x"), (0, .string 14), (0, u "t1"), (0, .methodref 7 16), (0, .nameAndType 5 17), (0, u "(Ljava/lang/String;Ljava/lang/String;Ljava/lang/String;)V"), (0, .string 19), (0, u "B"), (0, .string 21), (0, u "y"), (0, .string 23), (0, u "t2"), (0, .string 25), (0, u "C"), (0, .string 27), (0, u "z"), (0, .string 29), (0, u "t3"), (0, .class_ 31), (0, u "com/example/matchwerk/matchwerk/fix/SentMessages"), (0, .methodref 30 3), (0, .methodref 30 34), (0, .nameAndType 35 36), (0, u "add"), (0, u "(Lcom/example/matchwerk/matchwerk/fix/SentMessages$Sent;)V"), (0, .methodref 30 38), (0, .nameAndType 39 40), (0, u "get"), (0, u "(I)Lcom/example/matchwerk/matchwerk/fix/SentMessages$Sent;"), (0, .methodref 42 43), (0, .class_ 44), (0, .nameAndType 45 46), (0, u "com/example/matchwerk/matchwerk/fix/SentMessagesGetPinLaw"), (0, u "expected"), (0, u "(IILcom/example/matchwerk/matchwerk/fix/SentMessages$Sent;Lcom/example/matchwerk/matchwerk/fix/SentMessages$Sent;Lcom/example/matchwerk/matchwerk/fix/SentMessages$Sent;)Lcom/example/matchwerk/matchwerk/fix/SentMessages$Sent;"), (2, u "law"), (0, u "(IIII)Z")] 5

def k1m0 : Method := { name := "<init>", desc := "()V", sig := { parameters := [], returnType := none }, accessFlags := 1, code := none }
def k1c1 : Code := { maxStack := 5, maxLocals := 12, code := code, exceptionTable := #[], attributes := #[] }
def k1m1 : Method := { name := "law", desc := "(IIII)Z", sig := { parameters := [.int, .int, .int, .int], returnType := some .boolean }, accessFlags := 9, code := some k1c1 }
def k1c2 : Code := { maxStack := 2, maxLocals := 5, code := method_3_code, exceptionTable := #[], attributes := #[] }
def k1m2 : Method := { name := "expected", desc := "(IILcom/example/matchwerk/matchwerk/fix/SentMessages$Sent;Lcom/example/matchwerk/matchwerk/fix/SentMessages$Sent;Lcom/example/matchwerk/matchwerk/fix/SentMessages$Sent;)Lcom/example/matchwerk/matchwerk/fix/SentMessages$Sent;", sig := { parameters := [.int, .int, (.object "com/example/matchwerk/matchwerk/fix/SentMessages$Sent"), (.object "com/example/matchwerk/matchwerk/fix/SentMessages$Sent"), (.object "com/example/matchwerk/matchwerk/fix/SentMessages$Sent")], returnType := some (.object "com/example/matchwerk/matchwerk/fix/SentMessages$Sent") }, accessFlags := 10, code := some k1c2 }
/-- com/example/matchwerk/matchwerk/fix/SentMessagesGetPinLaw -/
def k1 : Class := { plain "com/example/matchwerk/matchwerk/fix/SentMessagesGetPinLaw" (some 0) with
  accessFlags := 49
  interfaces := #[]
  cf := some (fileOf pool1 42 #[] #[{ accessFlags := 1, nameIndex := 5, descriptorIndex := 6, attributes := #[] }, { accessFlags := 9, nameIndex := 49, descriptorIndex := 50, attributes := #[] }, { accessFlags := 10, nameIndex := 45, descriptorIndex := 46, attributes := #[] }] 49 2 #[] #[])
  fields := #[]
  methods := #[k1m0, k1m1, k1m2]
  instanceTypes := #[]
  staticTypes := #[]
  resolved := Array.replicate 56 none
  statics := none }

def pool2 : Array CpInfo := pool [(1, .methodref 2 3), (0, .class_ 4), (0, .nameAndType 5 6), (0, u "java/lang/Object"), (0, u "<init>"), (0, u "()V"), (0, .class_ 8), (0, u "java/lang/Record")] 13

def k2c0 : Code := { maxStack := 1, maxLocals := 1, code := jdk_30_method_1_code, exceptionTable := #[], attributes := #[] }
def k2m0 : Method := { name := "<init>", desc := "()V", sig := { parameters := [], returnType := none }, accessFlags := 4, code := some k2c0 }
/-- java/lang/Record -/
def k2 : Class := { plain "java/lang/Record" (some 0) with
  accessFlags := 1057
  interfaces := #[]
  cf := some (fileOf pool2 7 #[] #[{ accessFlags := 4, nameIndex := 5, descriptorIndex := 6, attributes := #[] }] 1057 2 #[] #[])
  fields := #[]
  methods := #[k2m0]
  instanceTypes := #[]
  staticTypes := #[]
  resolved := Array.replicate 22 none
  statics := none }

def pool3 : Array CpInfo := pool [(1, .methodref 2 3), (0, .class_ 4), (0, .nameAndType 5 6), (0, u "java/lang/Record"), (0, u "<init>"), (0, u "()V"), (0, .fieldref 8 9), (0, .class_ 10), (0, .nameAndType 11 12), (0, u "com/example/matchwerk/matchwerk/fix/SentMessages$Sent"), (0, u "type"), (0, u "Ljava/lang/String;"), (0, .fieldref 8 14), (0, .nameAndType 15 12), (0, u "fieldText"), (0, .fieldref 8 17), (0, .nameAndType 18 12), (0, u "sendingTime"), (12, u "(Ljava/lang/String;Ljava/lang/String;Ljava/lang/String;)V"), (9, .class_ 42), (0, u "com/example/matchwerk/matchwerk/fix/SentMessages")] 21

def k3c0 : Code := { maxStack := 2, maxLocals := 4, code := prog_54_method_1_code, exceptionTable := #[], attributes := #[] }
def k3m0 : Method := { name := "<init>", desc := "(Ljava/lang/String;Ljava/lang/String;Ljava/lang/String;)V", sig := { parameters := [(.object "java/lang/String"), (.object "java/lang/String"), (.object "java/lang/String")], returnType := none }, accessFlags := 0, code := some k3c0 }
/-- com/example/matchwerk/matchwerk/fix/SentMessages$Sent -/
def k3 : Class := { plain "com/example/matchwerk/matchwerk/fix/SentMessages$Sent" (some 2) with
  accessFlags := 48
  interfaces := #[]
  cf := some (fileOf pool3 8 #[.nestHost 41] #[{ accessFlags := 0, nameIndex := 5, descriptorIndex := 31, attributes := #[] }] 48 2 #[] #[{ accessFlags := 18, nameIndex := 11, descriptorIndex := 12, attributes := #[] }, { accessFlags := 18, nameIndex := 15, descriptorIndex := 12, attributes := #[] }, { accessFlags := 18, nameIndex := 18, descriptorIndex := 12, attributes := #[] }])
  fields := #[{ name := "type", type := (.object "java/lang/String"), accessFlags := 18, slot := 0, constantValue := 0 }, { name := "fieldText", type := (.object "java/lang/String"), accessFlags := 18, slot := 1, constantValue := 0 }, { name := "sendingTime", type := (.object "java/lang/String"), accessFlags := 18, slot := 2, constantValue := 0 }]
  methods := #[k3m0]
  instanceTypes := #[(.object "java/lang/String"), (.object "java/lang/String"), (.object "java/lang/String")]
  staticTypes := #[]
  resolved := Array.replicate 64 none
  statics := none }

def pool4 : Array CpInfo := pool [(1, .class_ 2), (0, u "java/io/Serializable"), (0, .class_ 4), (0, u "java/lang/Object")] 2

/-- java/io/Serializable -/
def k4 : Class := { plain "java/io/Serializable" (some 0) with
  accessFlags := 1537
  interfaces := #[]
  cf := some (fileOf pool4 1 #[] #[] 1537 3 #[] #[])
  fields := #[]
  methods := #[]
  instanceTypes := #[]
  staticTypes := #[]
  resolved := Array.replicate 7 none
  statics := none }

def pool5 : Array CpInfo := pool [(1, .class_ 2), (0, u "java/lang/Comparable"), (0, .class_ 4), (0, u "java/lang/Object")] 7

/-- java/lang/Comparable -/
def k5 : Class := { plain "java/lang/Comparable" (some 0) with
  accessFlags := 1537
  interfaces := #[]
  cf := some (fileOf pool5 1 #[] #[] 1537 3 #[] #[])
  fields := #[]
  methods := #[]
  instanceTypes := #[]
  staticTypes := #[]
  resolved := Array.replicate 12 none
  statics := none }

def pool6 : Array CpInfo := pool [(2, .class_ 4), (1, u "java/lang/CharSequence"), (42, .class_ 48), (0, u "java/lang/CharSequence$1CodePointIterator"), (10, .class_ 60), (0, u "java/lang/CharSequence$1CharIterator"), (5, .class_ 67), (0, u "java/lang/Object")] 63

/-- java/lang/CharSequence -/
def k6 : Class := { plain "java/lang/CharSequence" (some 0) with
  accessFlags := 1537
  interfaces := #[]
  cf := some (fileOf pool6 2 #[.nestMembers #[47, 59]] #[] 1537 66 #[] #[])
  fields := #[]
  methods := #[]
  instanceTypes := #[]
  staticTypes := #[]
  resolved := Array.replicate 131 none
  statics := none }

def pool7 : Array CpInfo := pool [(1, .class_ 2), (0, u "java/lang/constant/Constable"), (0, .class_ 4), (0, u "java/lang/Object")] 6

/-- java/lang/constant/Constable -/
def k7 : Class := { plain "java/lang/constant/Constable" (some 0) with
  accessFlags := 1537
  interfaces := #[]
  cf := some (fileOf pool7 1 #[] #[] 1537 3 #[] #[])
  fields := #[]
  methods := #[]
  instanceTypes := #[]
  staticTypes := #[]
  resolved := Array.replicate 11 none
  statics := none }

def pool8 : Array CpInfo := pool [(1, .class_ 2), (0, u "java/lang/constant/ConstantDesc"), (0, .class_ 4), (0, u "java/lang/Object")] 32

/-- java/lang/constant/ConstantDesc -/
def k8 : Class := { plain "java/lang/constant/ConstantDesc" (some 0) with
  accessFlags := 1537
  interfaces := #[]
  cf := some (fileOf pool8 1 #[] #[] 1537 3 #[] #[])
  fields := #[]
  methods := #[]
  instanceTypes := #[]
  staticTypes := #[]
  resolved := Array.replicate 37 none
  statics := none }

def pool9 : Array CpInfo := pool [(2, .class_ 4), (1, u "java/lang/Object"), (0, u "<init>"), (0, u "()V"), (3, .class_ 12), (1, u "java/lang/String"), (0, u "value"), (0, u "[B"), (2, u "coder"), (0, u "B"), (2, u "hash"), (0, u "I"), (2, u "hashIsZero"), (0, u "Z"), (13, u "COMPACT_STRINGS"), (534, .class_ 576), (0, u "java/lang/CharSequence"), (22, u "CASE_INSENSITIVE_ORDER"), (0, u "Ljava/util/Comparator;"), (500, u "serialPersistentFields"), (0, u "[Ljava/io/ObjectStreamField;"), (0, .class_ 1104), (0, u "java/lang/String$CaseInsensitiveComparator"), (1, .class_ 1107), (0, u "java/io/Serializable"), (0, .class_ 1109), (0, u "java/lang/Comparable"), (0, .class_ 1111), (0, u "java/lang/constant/Constable"), (0, .class_ 1113), (0, u "java/lang/constant/ConstantDesc"), (2, u "serialVersionUID"), (0, u "J"), (3, u "REPL"), (0, u "C"), (2, u "LATIN1"), (1, u "UTF16")] 323

def k9m0 : Method := { name := "<init>", desc := "()V", sig := { parameters := [], returnType := none }, accessFlags := 1, code := none }
/-- java/lang/String -/
def k9 : Class := { plain "java/lang/String" (some 0) with
  accessFlags := 49
  interfaces := #[4, 5, 6, 7, 8]
  cf := some (fileOf pool9 10 #[.nestMembers #[1103]] #[{ accessFlags := 1, nameIndex := 5, descriptorIndex := 6, attributes := #[] }] 49 2 #[1106, 1108, 575, 1110, 1112] #[{ accessFlags := 18, nameIndex := 13, descriptorIndex := 14, attributes := #[] }, { accessFlags := 18, nameIndex := 17, descriptorIndex := 18, attributes := #[] }, { accessFlags := 2, nameIndex := 21, descriptorIndex := 22, attributes := #[] }, { accessFlags := 2, nameIndex := 25, descriptorIndex := 26, attributes := #[] }, { accessFlags := 26, nameIndex := 1116, descriptorIndex := 1117, attributes := #[] }, { accessFlags := 24, nameIndex := 40, descriptorIndex := 26, attributes := #[] }, { accessFlags := 26, nameIndex := 1101, descriptorIndex := 1102, attributes := #[] }, { accessFlags := 26, nameIndex := 1121, descriptorIndex := 1122, attributes := #[] }, { accessFlags := 25, nameIndex := 599, descriptorIndex := 600, attributes := #[] }, { accessFlags := 24, nameIndex := 1125, descriptorIndex := 18, attributes := #[] }, { accessFlags := 24, nameIndex := 1127, descriptorIndex := 18, attributes := #[] }])
  fields := #[{ name := "value", type := (.array .byte), accessFlags := 18, slot := 0, constantValue := 0 }, { name := "coder", type := .byte, accessFlags := 18, slot := 1, constantValue := 0 }, { name := "hash", type := .int, accessFlags := 2, slot := 2, constantValue := 0 }, { name := "hashIsZero", type := .boolean, accessFlags := 2, slot := 3, constantValue := 0 }, { name := "serialVersionUID", type := .long, accessFlags := 26, slot := 0, constantValue := 0 }, { name := "COMPACT_STRINGS", type := .boolean, accessFlags := 24, slot := 1, constantValue := 0 }, { name := "serialPersistentFields", type := (.array (.object "java/io/ObjectStreamField")), accessFlags := 26, slot := 2, constantValue := 0 }, { name := "REPL", type := .char, accessFlags := 26, slot := 3, constantValue := 0 }, { name := "CASE_INSENSITIVE_ORDER", type := (.object "java/util/Comparator"), accessFlags := 25, slot := 4, constantValue := 0 }, { name := "LATIN1", type := .byte, accessFlags := 24, slot := 5, constantValue := 0 }, { name := "UTF16", type := .byte, accessFlags := 24, slot := 6, constantValue := 0 }]
  methods := #[k9m0]
  instanceTypes := #[(.array .byte), .byte, .int, .boolean]
  staticTypes := #[.long, .boolean, (.array (.object "java/io/ObjectStreamField")), .char, (.object "java/util/Comparator"), .byte, .byte]
  resolved := Array.replicate 1451 none
  statics := none }

def pool10 : Array CpInfo := pool [(1, .methodref 2 3), (0, .class_ 4), (0, .nameAndType 5 6), (0, u "java/lang/Object"), (0, u "<init>"), (0, u "()V"), (0, .class_ 8), (0, u "com/example/matchwerk/matchwerk/fix/SentMessages"), (0, .class_ 10), (0, u "com/example/matchwerk/matchwerk/fix/SentMessages$Sent"), (0, .fieldref 7 12), (0, .nameAndType 13 14), (0, u "ring"), (0, u "[Lcom/example/matchwerk/matchwerk/fix/SentMessages$Sent;"), (0, .fieldref 7 16), (0, .nameAndType 17 18), (0, u "first"), (0, u "I"), (0, .fieldref 7 20), (0, .nameAndType 21 18), (0, u "count"), (0, .integer 200000), (13, .fieldref 7 37), (0, .nameAndType 38 18), (0, u "head"), (5, u "get"), (0, u "(I)Lcom/example/matchwerk/matchwerk/fix/SentMessages$Sent;"), (0, u "MAX_KEPT"), (1, u "FIRST_CAPACITY"), (3, u "add"), (0, u "(Lcom/example/matchwerk/matchwerk/fix/SentMessages$Sent;)V")] 7

def k10c0 : Code := { maxStack := 2, maxLocals := 1, code := prog_53_method_1_code, exceptionTable := #[], attributes := #[] }
def k10m0 : Method := { name := "<init>", desc := "()V", sig := { parameters := [], returnType := none }, accessFlags := 0, code := some k10c0 }
def k10c1 : Code := { maxStack := 4, maxLocals := 2, code := prog_53_method_2_code, exceptionTable := #[], attributes := #[] }
def k10m1 : Method := { name := "add", desc := "(Lcom/example/matchwerk/matchwerk/fix/SentMessages$Sent;)V", sig := { parameters := [(.object "com/example/matchwerk/matchwerk/fix/SentMessages$Sent")], returnType := none }, accessFlags := 0, code := some k10c1 }
def k10c2 : Code := { maxStack := 3, maxLocals := 2, code := prog_53_method_3_code, exceptionTable := #[], attributes := #[] }
def k10m2 : Method := { name := "get", desc := "(I)Lcom/example/matchwerk/matchwerk/fix/SentMessages$Sent;", sig := { parameters := [.int], returnType := some (.object "com/example/matchwerk/matchwerk/fix/SentMessages$Sent") }, accessFlags := 0, code := some k10c2 }
/-- com/example/matchwerk/matchwerk/fix/SentMessages -/
def k10 : Class := { plain "com/example/matchwerk/matchwerk/fix/SentMessages" (some 0) with
  accessFlags := 48
  interfaces := #[]
  cf := some (fileOf pool10 7 #[.nestMembers #[9]] #[{ accessFlags := 0, nameIndex := 5, descriptorIndex := 6, attributes := #[] }, { accessFlags := 0, nameIndex := 52, descriptorIndex := 53, attributes := #[] }, { accessFlags := 0, nameIndex := 44, descriptorIndex := 45, attributes := #[] }] 48 2 #[] #[{ accessFlags := 24, nameIndex := 46, descriptorIndex := 18, attributes := #[] }, { accessFlags := 26, nameIndex := 48, descriptorIndex := 18, attributes := #[] }, { accessFlags := 2, nameIndex := 13, descriptorIndex := 14, attributes := #[] }, { accessFlags := 2, nameIndex := 38, descriptorIndex := 18, attributes := #[] }, { accessFlags := 2, nameIndex := 17, descriptorIndex := 18, attributes := #[] }, { accessFlags := 2, nameIndex := 21, descriptorIndex := 18, attributes := #[] }])
  fields := #[{ name := "MAX_KEPT", type := .int, accessFlags := 24, slot := 0, constantValue := 0 }, { name := "FIRST_CAPACITY", type := .int, accessFlags := 26, slot := 1, constantValue := 0 }, { name := "ring", type := (.array (.object "com/example/matchwerk/matchwerk/fix/SentMessages$Sent")), accessFlags := 2, slot := 0, constantValue := 0 }, { name := "head", type := .int, accessFlags := 2, slot := 1, constantValue := 0 }, { name := "first", type := .int, accessFlags := 2, slot := 2, constantValue := 0 }, { name := "count", type := .int, accessFlags := 2, slot := 3, constantValue := 0 }]
  methods := #[k10m0, k10m1, k10m2]
  instanceTypes := #[(.array (.object "com/example/matchwerk/matchwerk/fix/SentMessages$Sent")), .int, .int, .int]
  staticTypes := #[.int, .int]
  resolved := Array.replicate 61 none
  statics := none }

def pool11 : Array CpInfo := pool [(1, u "java/lang/Cloneable"), (0, .class_ 1), (0, u "java/lang/Object"), (0, .class_ 3)] 3

/-- java/lang/Cloneable -/
def k11 : Class := { plain "java/lang/Cloneable" (some 0) with
  accessFlags := 1537
  interfaces := #[]
  cf := some (fileOf pool11 2 #[] #[] 1537 4 #[] #[])
  fields := #[]
  methods := #[]
  instanceTypes := #[]
  staticTypes := #[]
  resolved := Array.replicate 8 none
  statics := none }

/-- the primitive byte -/
def k12 : Class := { plain "byte" none with kind := .primitive 'B', accessFlags := 0x411 }
/-- [B -/
def k13 : Class := { plain "[B" (some 0) with kind := .array 12 .byte, interfaces := #[11, 4], accessFlags := 1041 }

/-- the primitive int -/
def k14 : Class := { plain "int" none with kind := .primitive 'I', accessFlags := 0x411 }
/-- [I -/
def k15 : Class := { plain "[I" (some 0) with kind := .array 14 .int, interfaces := #[11, 4], accessFlags := 1041 }

/-- [Lcom/example/matchwerk/matchwerk/fix/SentMessages$Sent; -/
def k16 : Class := { plain "[Lcom/example/matchwerk/matchwerk/fix/SentMessages$Sent;" (some 0) with kind := .array 3 (.object "com/example/matchwerk/matchwerk/fix/SentMessages$Sent"), interfaces := #[11, 4], accessFlags := 1041 }

def heap : Heap := #[]
def classes : Array Class := #[k0, k1, k2, k3, k4, k5, k6, k7, k8, k9, k10, k11, k12, k13, k14, k15, k16]
def interned : List (Array UInt16 × Addr) := []
def slotsUsed : Nat := 0
def theMethod : MethodId := ⟨1, 1⟩
def args0 : Array Value := #[.int 5, .int 3, .int 4, .int 5]
def aboutOver (below : List Frame) : State where
  vm := { classes := classes, interned := interned.toArray }
  heap := heap
  slotsUsed := slotsUsed
  threads := #[{ frames := .invoking theMethod args0 :: below }]
def below0 : List Frame := [.native { method := ⟨0, 0⟩, args := #[] }]
def about1 : State := aboutOver below0
def p0 : Program := .bare "" "" ""
def e0 : Env := launch0.env 0 0 0
theorem w_frames : about1.frames = Frame.invoking theMethod args0 :: below0 := rfl
set_option maxRecDepth 65536 in
theorem w_args : argsFit about1.vm theMethod args0 = true := by decide +kernel
set_option maxRecDepth 65536 in
theorem w_heap : heapFits about1 = true := by decide +kernel
set_option maxRecDepth 65536 in
theorem w_runnable : about1.curStatus? = some .runnable := by decide +kernel
set_option maxRecDepth 65536 in
theorem w_alone : about1.alone = true := by decide +kernel
set_option maxRecDepth 65536 in
theorem w_named : about1.methodNamed? x = some theMethod := by decide +kernel
set_option maxRecDepth 65536 in
theorem w_hears : about1.hears theMethod below0 = true := by decide +kernel
set_option maxRecDepth 65536 in
theorem w_ripe : about1.ripe theMethod args0 below0 = true := by decide +kernel
theorem w_running : about1.status = .running := rfl
set_option maxRecDepth 65536 in
theorem w_room : about1.hasRoom e0.platform room_1 = true :=
  launch0.hasRoom_least _ room_1 (by decide +kernel) (by decide +kernel) (by decide +kernel) (by decide +kernel) (by decide +kernel) (by decide +kernel)
theorem allAtoms_all (ts : List Jvm.Cond) (a : Array Jvm.Value) (st : Jvm.State) : (allAtoms ts).before a st = ts.all (fun c => c.before a st) := by
  induction ts with
  | nil => rfl
  | cons c t ih =>
    show (Jvm.Cond.and c (allAtoms t)).before a st = _
    rw [Jvm.Cond.before_and, ih, List.all_cons]
def words1 : List Jvm.Cond := Jvm.Cond.code x code maxLocals ret :: tables_1
/-- a 'code' word, met by the world's own term for the bytes: nothing is compared byte by byte -/
theorem code_word {y : MethodName} {bytes : ByteArray} {mx : Nat} {rt : Option FieldType} {a : Array Value} {s : State} {m : MethodId} {meth : Method} {c : Code} (h1 : s.methodNamed? y = some m) (h2 : s.vm.method? m = some meth) (h3 : meth.code = some c) (h4 : c.code = bytes)
    (h5 : (c.maxLocals == mx && c.exceptionTable.isEmpty && decide (c.maxStack ≤ mostOperands) && decide (meth.sig.returnType = rt) && !meth.locks && decide (parseMethodDescriptor y.desc = some meth.sig)) = true) : (Jvm.Cond.code y bytes mx rt).before a s = true := by
  simp only [Bool.and_eq_true, beq_iff_eq, Bool.not_eq_true', decide_eq_true_eq] at h5
  obtain ⟨⟨⟨⟨⟨g1, g2⟩, g3⟩, g4⟩, g5⟩, g6⟩ := h5
  simp [Cond.before, Cond.holds, Cond.value, h1, h2, h3, h4, g1, g2, g3, g4, g5, g6]
def isCode : Jvm.Cond → Bool
  | .code _ _ _ _ => true
  | _ => false
theorem all_split {L : List Jvm.Cond} {P : Jvm.Cond → Bool} (h1 : L.all (fun c => isCode c || P c) = true) (h2 : ∀ c ∈ L.filter isCode, P c = true) : L.all P = true := by
  refine List.all_eq_true.mpr fun c hc => ?_
  have h := List.all_eq_true.mp h1 c hc
  rcases Bool.eq_false_or_eq_true (isCode c) with hi | hi
  · exact h2 c (List.mem_filter.mpr ⟨hc, hi⟩)
  · simpa [hi] using h
set_option maxRecDepth 65536 in
theorem w_c0 : (Jvm.Cond.code x code maxLocals ret).before args0 about1 = true := code_word (m := ⟨1, 1⟩) (meth := k1m1) (c := k1c1) (by decide +kernel) rfl rfl rfl (by decide +kernel)
set_option maxRecDepth 65536 in
theorem w_c1 : (Jvm.Cond.code ({ cls := "com/example/matchwerk/matchwerk/fix/SentMessages$Sent", name := "<init>", desc := "(Ljava/lang/String;Ljava/lang/String;Ljava/lang/String;)V" } : Jvm.MethodName) prog_54_method_1_code (4 : Nat) (Option.none : Option Jvm.ClassFile.FieldType)).before args0 about1 = true := code_word (m := ⟨3, 0⟩) (meth := k3m0) (c := k3c0) (by decide +kernel) rfl rfl rfl (by decide +kernel)
set_option maxRecDepth 65536 in
theorem w_c2 : (Jvm.Cond.code ({ cls := "java/lang/Record", name := "<init>", desc := "()V" } : Jvm.MethodName) jdk_30_method_1_code (1 : Nat) (Option.none : Option Jvm.ClassFile.FieldType)).before args0 about1 = true := code_word (m := ⟨2, 0⟩) (meth := k2m0) (c := k2c0) (by decide +kernel) rfl rfl rfl (by decide +kernel)
set_option maxRecDepth 65536 in
theorem w_c3 : (Jvm.Cond.code ({ cls := "java/lang/Object", name := "<init>", desc := "()V" } : Jvm.MethodName) object_method_1_code (1 : Nat) (Option.none : Option Jvm.ClassFile.FieldType)).before args0 about1 = true := code_word (m := ⟨0, 0⟩) (meth := k0m0) (c := k0c0) (by decide +kernel) rfl rfl rfl (by decide +kernel)
set_option maxRecDepth 65536 in
theorem w_c4 : (Jvm.Cond.code ({ cls := "com/example/matchwerk/matchwerk/fix/SentMessages", name := "<init>", desc := "()V" } : Jvm.MethodName) prog_53_method_1_code (1 : Nat) (Option.none : Option Jvm.ClassFile.FieldType)).before args0 about1 = true := code_word (m := ⟨10, 0⟩) (meth := k10m0) (c := k10c0) (by decide +kernel) rfl rfl rfl (by decide +kernel)
set_option maxRecDepth 65536 in
theorem w_c5 : (Jvm.Cond.code ({ cls := "com/example/matchwerk/matchwerk/fix/SentMessages", name := "get", desc := "(I)Lcom/example/matchwerk/matchwerk/fix/SentMessages$Sent;" } : Jvm.MethodName) prog_53_method_3_code (2 : Nat) (Option.some (Jvm.ClassFile.FieldType.object "com/example/matchwerk/matchwerk/fix/SentMessages$Sent"))).before args0 about1 = true := code_word (m := ⟨10, 2⟩) (meth := k10m2) (c := k10c2) (by decide +kernel) rfl rfl rfl (by decide +kernel)
set_option maxRecDepth 65536 in
theorem w_c6 : (Jvm.Cond.code ({ cls := "com/example/matchwerk/matchwerk/fix/SentMessagesGetPinLaw", name := "expected", desc := "(IILcom/example/matchwerk/matchwerk/fix/SentMessages$Sent;Lcom/example/matchwerk/matchwerk/fix/SentMessages$Sent;Lcom/example/matchwerk/matchwerk/fix/SentMessages$Sent;)Lcom/example/matchwerk/matchwerk/fix/SentMessages$Sent;" } : Jvm.MethodName) method_3_code (5 : Nat) (Option.some (Jvm.ClassFile.FieldType.object "com/example/matchwerk/matchwerk/fix/SentMessages$Sent"))).before args0 about1 = true := code_word (m := ⟨1, 2⟩) (meth := k1m2) (c := k1c2) (by decide +kernel) rfl rfl rfl (by decide +kernel)
set_option maxRecDepth 65536 in
theorem w_c7 : (Jvm.Cond.code ({ cls := "com/example/matchwerk/matchwerk/fix/SentMessages", name := "add", desc := "(Lcom/example/matchwerk/matchwerk/fix/SentMessages$Sent;)V" } : Jvm.MethodName) prog_53_method_2_code (2 : Nat) (Option.none : Option Jvm.ClassFile.FieldType)).before args0 about1 = true := code_word (m := ⟨10, 1⟩) (meth := k10m1) (c := k10c1) (by decide +kernel) rfl rfl rfl (by decide +kernel)
def codes1 : List Jvm.Cond := [Jvm.Cond.code x code maxLocals ret, Jvm.Cond.code ({ cls := "com/example/matchwerk/matchwerk/fix/SentMessages$Sent", name := "<init>", desc := "(Ljava/lang/String;Ljava/lang/String;Ljava/lang/String;)V" } : Jvm.MethodName) prog_54_method_1_code (4 : Nat) (Option.none : Option Jvm.ClassFile.FieldType), Jvm.Cond.code ({ cls := "java/lang/Record", name := "<init>", desc := "()V" } : Jvm.MethodName) jdk_30_method_1_code (1 : Nat) (Option.none : Option Jvm.ClassFile.FieldType), Jvm.Cond.code ({ cls := "java/lang/Object", name := "<init>", desc := "()V" } : Jvm.MethodName) object_method_1_code (1 : Nat) (Option.none : Option Jvm.ClassFile.FieldType), Jvm.Cond.code ({ cls := "com/example/matchwerk/matchwerk/fix/SentMessages", name := "<init>", desc := "()V" } : Jvm.MethodName) prog_53_method_1_code (1 : Nat) (Option.none : Option Jvm.ClassFile.FieldType), Jvm.Cond.code ({ cls := "com/example/matchwerk/matchwerk/fix/SentMessages", name := "get", desc := "(I)Lcom/example/matchwerk/matchwerk/fix/SentMessages$Sent;" } : Jvm.MethodName) prog_53_method_3_code (2 : Nat) (Option.some (Jvm.ClassFile.FieldType.object "com/example/matchwerk/matchwerk/fix/SentMessages$Sent")), Jvm.Cond.code ({ cls := "com/example/matchwerk/matchwerk/fix/SentMessagesGetPinLaw", name := "expected", desc := "(IILcom/example/matchwerk/matchwerk/fix/SentMessages$Sent;Lcom/example/matchwerk/matchwerk/fix/SentMessages$Sent;Lcom/example/matchwerk/matchwerk/fix/SentMessages$Sent;)Lcom/example/matchwerk/matchwerk/fix/SentMessages$Sent;" } : Jvm.MethodName) method_3_code (5 : Nat) (Option.some (Jvm.ClassFile.FieldType.object "com/example/matchwerk/matchwerk/fix/SentMessages$Sent")), Jvm.Cond.code ({ cls := "com/example/matchwerk/matchwerk/fix/SentMessages", name := "add", desc := "(Lcom/example/matchwerk/matchwerk/fix/SentMessages$Sent;)V" } : Jvm.MethodName) prog_53_method_2_code (2 : Nat) (Option.none : Option Jvm.ClassFile.FieldType)]
set_option maxRecDepth 65536 in
theorem codes_eq : words1.filter isCode = codes1 := rfl
theorem w_codes : ∀ c ∈ words1.filter isCode, c.before args0 about1 = true := by
  rw [codes_eq]
  intro c hc
  simp only [codes1, List.mem_cons, List.not_mem_nil, or_false] at hc
  rcases hc with rfl | rfl | rfl | rfl | rfl | rfl | rfl | rfl
  · exact w_c0
  · exact w_c1
  · exact w_c2
  · exact w_c3
  · exact w_c4
  · exact w_c5
  · exact w_c6
  · exact w_c7
set_option maxRecDepth 65536 in
theorem w_t1 : (words1.take 24).all (fun c => isCode c || c.before args0 about1) = true := by decide +kernel
set_option maxRecDepth 65536 in
theorem w_t2 : ((words1.drop 24).take 24).all (fun c => isCode c || c.before args0 about1) = true := by decide +kernel
set_option maxRecDepth 65536 in
theorem w_t3 : ((words1.drop 24).drop 24).all (fun c => isCode c || c.before args0 about1) = true := by decide +kernel
theorem w_tables : (allAtoms (Jvm.Cond.code x code maxLocals ret :: tables_1)).before args0 about1 = true := by
  rw [allAtoms_all]
  show words1.all (fun c => c.before args0 about1) = true
  refine all_split ?_ w_codes
  rw [← List.take_append_drop 24 words1, List.all_append, w_t1, ← List.take_append_drop 24 (words1.drop 24), List.all_append, w_t2, w_t3]
  rfl
set_option maxRecDepth 65536 in
theorem w_case : (Jvm.Cond.and given_1 narrow_1).before args0 about1 = true := by decide +kernel
theorem w_applies : (headSpec (Jvm.Cond.code x code maxLocals ret :: tables_1) room_1).applies x e0.platform about1 = true :=
  (Spec.applies_iff w_frames).mpr ⟨w_running, w_runnable, w_alone, w_named, w_hears, w_ripe, w_room, w_tables⟩
theorem atStart : AtStart classFile x code maxLocals ret World_1 tables_1 room_1 Calls_1 rest_1 Pre_1 launch0 p0 e0 about1 theMethod args0 below0 :=
  ⟨lists_1, trivial, launch0.admits_env _ _ _, launch0.least_env, fairChoices_fair.cas, fairChoices_fair.clock, w_frames, w_args, w_heap, w_applies, trivial, trivial, w_case⟩
end start1
theorem witness_1 : WitnessClaimed_1 := ⟨start1.p0, start1.e0, start1.about1, start1.theMethod, start1.args0, start1.below0, start1.atStart⟩
end Jvm.Pilot.@@N@@
