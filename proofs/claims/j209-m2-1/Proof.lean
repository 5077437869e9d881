import JvmDerived
import JvmDerived.Pilot.@@N@@Statement
import JvmDerived.Pilot.@@N@@Code
set_option linter.unusedVariables false
set_option linter.unusedSimpArgs false
namespace Jvm.Pilot.@@N@@
open Jvm Jvm.ClassFile Sem Op Lib Jvm.Free Jvm.Stand Jvm.LawKit Jvm.RoadKit Bundle Jvm.Pilot.@@N@@.Jvm.D
section OwnGo
variable {p : Program} {l : Launch} {e : Env} {R : Room} {s : State} {m : MethodId} {args : Array Value} {below : List Frame} {meth : Method} {c : Code} {T : State} {locs : List Loc} {cells slots : Nat} {Z : State} {a0 : Array Value} {h : Heap} {K : Outcome → State → Prop} {pc pc' : Nat} {Ls : Array Slot} {st : List Value}
/-- from frame g in state T the run ends as K says -/
def Goes (p : Program) (e : Env) (below : List Frame) (K : Outcome → State → Prop) (T : State) (g : JFrame) : Prop := ∃ u o, Steps p.tables e below (T.setTop g) u ∧ u.status = .running ∧ Ended u below o ∧ K o u
theorem Goes.by' {T' : State} {g g' : JFrame} (f : ∀ t, Steps p.tables e below (T'.setTop g') t → Steps p.tables e below (T.setTop g) t) (k : Goes p e below K T' g') : Goes p e below K T g := by obtain ⟨u, o, h1, h2⟩ := k; exact ⟨u, o, f _ h1, h2⟩
theorem Goes.cast {g g' : JFrame} (q : g = g') (k : Goes p e below K T g') : Goes p e below K T g := q ▸ k
/-- a callee's contract: called with as' at the heap h0 it returns v, leaves a heap and a list of written places of which Q speaks -/
abbrev Ctr (l : Launch) (Z : State) (y : MethodName) (bytes : ByteArray) (maxL : Nat) (ret : Option FieldType) (ws : List Jvm.Cond) (rm : Room) (C S : Nat) (as' : Array Value) (h0 : Heap) (Q : Option Value → Heap → List Loc → Prop) : Prop := MetFree l y (head1 (Jvm.Cond.code y bytes maxL ret :: ws) rm) (fun a U => a = as' ∧ Z.Warmed39 U.vm ∧ U.heap = h0) (fun _ _ _ _ _ => True) (fun _ U o U' => ∃ v L, o = .returned v ∧ Q v U'.heap L ∧ FrameEnd U o U' L C S)
abbrev KQ (s : State) (C S : Nat) (Q : Option Value → Heap → List Loc → Prop) : Outcome → State → Prop := fun o u => ∃ v L, o = .returned v ∧ Q v u.heap L ∧ FrameEnd s o u L C S
theorem Ctr.of {y : MethodName} {bytes : ByteArray} {maxL : Nat} {ret : Option FieldType} {ws : List Jvm.Cond} {rm : Room} {C S : Nat} {as' : Array Value} {h0 : Heap} {Q : Option Value → Heap → List Loc → Prop} (hpn : plainFor y = true)
    (body : ∀ (p : Program) (e : Env) (s : State) (m : MethodId) (below : List Frame) (meth : Method) (c : Code) (s₁ : State), p.tables.exec = Jvm.exec → c.code = bytes → c.maxLocals = maxL → s.vm.findClass y.cls = some m.cls → meth.name = y.name → meth.sig.returnType = ret → meth.locks = false → Z.Warmed39 s.vm → Stand p l e rm s m as' below meth c s₁ [] 0 0 → s₁.heap = h0 → Goes p e below (KQ s C S Q) s₁ (entryFrame m as' maxL)) :
    Ctr l Z y bytes maxL ret ws rm C S as' h0 Q := by
  refine MetFree.of_bodySF hpn hisR ?_
  intro p e s m args below meth c s₁ Bd hml0 hP hK
  obtain ⟨rfl, hZ, hh⟩ := hP
  have hlk : meth.locks = false := BodyLoose.notSynchronized Bd
  exact body p e s m below meth c s₁ Bd.exec Bd.bytes hml0 (findClass_of_methodNamed Bd.named) (name_of_methodNamed Bd.named Bd.method).1 Bd.returns hlk hZ (Stand.of_body Bd) (by rw [← hh, Bd.state]; rfl)
theorem wd {a0 : Array Value} {Z : State} {tb : List Jvm.Cond} (hw : ∀ d ∈ tb, d.before a0 Z = true) (i : Nat) {d : Jvm.Cond} (q : tb[i]? = some d) : d.before a0 Z = true := hw _ (List.mem_of_getElem? q)
theorem g_iadd (X : Stand p l e R s m args below meth c T locs cells slots) (hx : p.tables.exec = Jvm.exec) {x y : Int32} (hd : decode c.code pc = .ok (.iadd, 1))  (hp : pc + 1 = pc') (k : Goes p e below K T (mkF m pc' Ls (.int (x + y) :: st))) : Goes p e below K T (mkF m pc Ls (.int y :: .int x :: st)) := by subst hp; exact Goes.by' (fun _ q => XS.iadd X.here hx rfl hd rfl q) k
theorem g_isub (X : Stand p l e R s m args below meth c T locs cells slots) (hx : p.tables.exec = Jvm.exec) {x y : Int32} (hd : decode c.code pc = .ok (.isub, 1))  (hp : pc + 1 = pc') (k : Goes p e below K T (mkF m pc' Ls (.int (x - y) :: st))) : Goes p e below K T (mkF m pc Ls (.int y :: .int x :: st)) := by subst hp; exact Goes.by' (fun _ q => XS.isub X.here hx rfl hd rfl q) k
theorem g_iand (X : Stand p l e R s m args below meth c T locs cells slots) (hx : p.tables.exec = Jvm.exec) {x y : Int32} (hd : decode c.code pc = .ok (.iand, 1))  (hp : pc + 1 = pc') (k : Goes p e below K T (mkF m pc' Ls (.int (x &&& y) :: st))) : Goes p e below K T (mkF m pc Ls (.int y :: .int x :: st)) := by subst hp; exact Goes.by' (fun _ q => XS.iand X.here hx rfl hd rfl q) k
theorem g_imul (X : Stand p l e R s m args below meth c T locs cells slots) (hx : p.tables.exec = Jvm.exec) {x y : Int32} (hd : decode c.code pc = .ok (.imul, 1))  (hp : pc + 1 = pc') (k : Goes p e below K T (mkF m pc' Ls (.int (x * y) :: st))) : Goes p e below K T (mkF m pc Ls (.int y :: .int x :: st)) := by subst hp; exact Goes.by' (fun _ q => XS.imul X.here hx rfl hd rfl q) k
theorem g_ixor (X : Stand p l e R s m args below meth c T locs cells slots) (hx : p.tables.exec = Jvm.exec) {x y : Int32} (hd : decode c.code pc = .ok (.ixor, 1))  (hp : pc + 1 = pc') (k : Goes p e below K T (mkF m pc' Ls (.int (x ^^^ y) :: st))) : Goes p e below K T (mkF m pc Ls (.int y :: .int x :: st)) := by subst hp; exact Goes.by' (fun _ q => XT.ixor X.here hx rfl hd rfl q) k
theorem g_ior (X : Stand p l e R s m args below meth c T locs cells slots) (hx : p.tables.exec = Jvm.exec) {x y : Int32} (hd : decode c.code pc = .ok (.ior, 1))  (hp : pc + 1 = pc') (k : Goes p e below K T (mkF m pc' Ls (.int (x ||| y) :: st))) : Goes p e below K T (mkF m pc Ls (.int y :: .int x :: st)) := by subst hp; exact Goes.by' (fun _ q => XT.ior X.here hx rfl hd rfl q) k
theorem g_idiv (X : Stand p l e R s m args below meth c T locs cells slots) (hx : p.tables.exec = Jvm.exec) {x y : Int32} (hd : decode c.code pc = .ok (.idiv, 1)) (hy : y ≠ 0) (hp : pc + 1 = pc') (k : Goes p e below K T (mkF m pc' Ls (.int (x / y) :: st))) : Goes p e below K T (mkF m pc Ls (.int y :: .int x :: st)) := by subst hp; exact Goes.by' (fun _ q => XS.idiv X.here hx rfl hd rfl hy q) k
theorem g_irem (X : Stand p l e R s m args below meth c T locs cells slots) (hx : p.tables.exec = Jvm.exec) {x y : Int32} (hd : decode c.code pc = .ok (.irem, 1)) (hy : y ≠ 0) (hp : pc + 1 = pc') (k : Goes p e below K T (mkF m pc' Ls (.int (x % y) :: st))) : Goes p e below K T (mkF m pc Ls (.int y :: .int x :: st)) := by subst hp; exact Goes.by' (fun _ q => iremM X hx rfl hd rfl hy q) k
theorem g_ineg (X : Stand p l e R s m args below meth c T locs cells slots) (hx : p.tables.exec = Jvm.exec) {x : Int32} (hd : decode c.code pc = .ok (.ineg, 1))  (hp : pc + 1 = pc') (k : Goes p e below K T (mkF m pc' Ls (.int (-x) :: st))) : Goes p e below K T (mkF m pc Ls (.int x :: st)) := by subst hp; exact Goes.by' (fun _ q => XS.ineg X.here hx rfl hd rfl q) k
theorem g_ishl (X : Stand p l e R s m args below meth c T locs cells slots) (hx : p.tables.exec = Jvm.exec) {x y : Int32} (hd : decode c.code pc = .ok (.ishl, 1))  (hp : pc + 1 = pc') (k : Goes p e below K T (mkF m pc' Ls (.int (x <<< (y &&& 31)) :: st))) : Goes p e below K T (mkF m pc Ls (.int y :: .int x :: st)) := by subst hp; exact Goes.by' (fun _ q => XT.ishl X.here hx rfl hd rfl q) k
theorem g_ishr (X : Stand p l e R s m args below meth c T locs cells slots) (hx : p.tables.exec = Jvm.exec) {x y : Int32} (hd : decode c.code pc = .ok (.ishr, 1))  (hp : pc + 1 = pc') (k : Goes p e below K T (mkF m pc' Ls (.int (x >>> (y &&& 31)) :: st))) : Goes p e below K T (mkF m pc Ls (.int y :: .int x :: st)) := by subst hp; exact Goes.by' (fun _ q => XT.ishr X.here hx rfl hd rfl q) k
theorem g_iushr (X : Stand p l e R s m args below meth c T locs cells slots) (hx : p.tables.exec = Jvm.exec) {x y : Int32} (hd : decode c.code pc = .ok (.iushr, 1))  (hp : pc + 1 = pc') (k : Goes p e below K T (mkF m pc' Ls (.int (XT.ushr x y) :: st))) : Goes p e below K T (mkF m pc Ls (.int y :: .int x :: st)) := by subst hp; exact Goes.by' (fun _ q => XT.iushr X.here hx rfl hd rfl q) k
theorem g_ladd (X : Stand p l e R s m args below meth c T locs cells slots) (hx : p.tables.exec = Jvm.exec) {x y : Int64} (hd : decode c.code pc = .ok (.ladd, 1))  (hp : pc + 1 = pc') (k : Goes p e below K T (mkF m pc' Ls (.long (x + y) :: st))) : Goes p e below K T (mkF m pc Ls (.long y :: .long x :: st)) := by subst hp; exact Goes.by' (fun _ q => XT.ladd X.here hx rfl hd rfl q) k
theorem g_lsub (X : Stand p l e R s m args below meth c T locs cells slots) (hx : p.tables.exec = Jvm.exec) {x y : Int64} (hd : decode c.code pc = .ok (.lsub, 1))  (hp : pc + 1 = pc') (k : Goes p e below K T (mkF m pc' Ls (.long (x - y) :: st))) : Goes p e below K T (mkF m pc Ls (.long y :: .long x :: st)) := by subst hp; exact Goes.by' (fun _ q => XT.lsub X.here hx rfl hd rfl q) k
theorem g_lmul (X : Stand p l e R s m args below meth c T locs cells slots) (hx : p.tables.exec = Jvm.exec) {x y : Int64} (hd : decode c.code pc = .ok (.lmul, 1))  (hp : pc + 1 = pc') (k : Goes p e below K T (mkF m pc' Ls (.long (x * y) :: st))) : Goes p e below K T (mkF m pc Ls (.long y :: .long x :: st)) := by subst hp; exact Goes.by' (fun _ q => XT.lmul X.here hx rfl hd rfl q) k
theorem g_land (X : Stand p l e R s m args below meth c T locs cells slots) (hx : p.tables.exec = Jvm.exec) {x y : Int64} (hd : decode c.code pc = .ok (.land, 1))  (hp : pc + 1 = pc') (k : Goes p e below K T (mkF m pc' Ls (.long (x &&& y) :: st))) : Goes p e below K T (mkF m pc Ls (.long y :: .long x :: st)) := by subst hp; exact Goes.by' (fun _ q => XT.land X.here hx rfl hd rfl q) k
theorem g_lor (X : Stand p l e R s m args below meth c T locs cells slots) (hx : p.tables.exec = Jvm.exec) {x y : Int64} (hd : decode c.code pc = .ok (.lor, 1))  (hp : pc + 1 = pc') (k : Goes p e below K T (mkF m pc' Ls (.long (x ||| y) :: st))) : Goes p e below K T (mkF m pc Ls (.long y :: .long x :: st)) := by subst hp; exact Goes.by' (fun _ q => XT.lor X.here hx rfl hd rfl q) k
theorem g_lxor (X : Stand p l e R s m args below meth c T locs cells slots) (hx : p.tables.exec = Jvm.exec) {x y : Int64} (hd : decode c.code pc = .ok (.lxor, 1))  (hp : pc + 1 = pc') (k : Goes p e below K T (mkF m pc' Ls (.long (x ^^^ y) :: st))) : Goes p e below K T (mkF m pc Ls (.long y :: .long x :: st)) := by subst hp; exact Goes.by' (fun _ q => XT.lxor X.here hx rfl hd rfl q) k
theorem g_ldiv (X : Stand p l e R s m args below meth c T locs cells slots) (hx : p.tables.exec = Jvm.exec) {x y : Int64} (hd : decode c.code pc = .ok (.ldiv, 1)) (hy : y ≠ 0) (hp : pc + 1 = pc') (k : Goes p e below K T (mkF m pc' Ls (.long (x / y) :: st))) : Goes p e below K T (mkF m pc Ls (.long y :: .long x :: st)) := by subst hp; exact Goes.by' (fun _ q => XT.ldiv X.here hx rfl hd rfl hy q) k
theorem g_lrem (X : Stand p l e R s m args below meth c T locs cells slots) (hx : p.tables.exec = Jvm.exec) {x y : Int64} (hd : decode c.code pc = .ok (.lrem, 1)) (hy : y ≠ 0) (hp : pc + 1 = pc') (k : Goes p e below K T (mkF m pc' Ls (.long (x % y) :: st))) : Goes p e below K T (mkF m pc Ls (.long y :: .long x :: st)) := by subst hp; exact Goes.by' (fun _ q => XT.lrem X.here hx rfl hd rfl hy (by rw [lrem_mod]; exact q)) k
theorem g_lneg (X : Stand p l e R s m args below meth c T locs cells slots) (hx : p.tables.exec = Jvm.exec) {x : Int64} (hd : decode c.code pc = .ok (.lneg, 1))  (hp : pc + 1 = pc') (k : Goes p e below K T (mkF m pc' Ls (.long (-x) :: st))) : Goes p e below K T (mkF m pc Ls (.long x :: st)) := by subst hp; exact Goes.by' (fun _ q => XT.lneg X.here hx rfl hd rfl q) k
theorem g_lshl (X : Stand p l e R s m args below meth c T locs cells slots) (hx : p.tables.exec = Jvm.exec) {x : Int64} {y : Int32} (hd : decode c.code pc = .ok (.lshl, 1))  (hp : pc + 1 = pc') (k : Goes p e below K T (mkF m pc' Ls (.long (x <<< (y.toInt64 &&& 63)) :: st))) : Goes p e below K T (mkF m pc Ls (.int y :: .long x :: st)) := by subst hp; exact Goes.by' (fun _ q => XT.lshl X.here hx rfl hd rfl q) k
theorem g_lshr (X : Stand p l e R s m args below meth c T locs cells slots) (hx : p.tables.exec = Jvm.exec) {x : Int64} {y : Int32} (hd : decode c.code pc = .ok (.lshr, 1))  (hp : pc + 1 = pc') (k : Goes p e below K T (mkF m pc' Ls (.long (x >>> (y.toInt64 &&& 63)) :: st))) : Goes p e below K T (mkF m pc Ls (.int y :: .long x :: st)) := by subst hp; exact Goes.by' (fun _ q => XT.lshr X.here hx rfl hd rfl q) k
theorem g_lushr (X : Stand p l e R s m args below meth c T locs cells slots) (hx : p.tables.exec = Jvm.exec) {x : Int64} {y : Int32} (hd : decode c.code pc = .ok (.lushr, 1))  (hp : pc + 1 = pc') (k : Goes p e below K T (mkF m pc' Ls (.long (XT.ushrL x y) :: st))) : Goes p e below K T (mkF m pc Ls (.int y :: .long x :: st)) := by subst hp; exact Goes.by' (fun _ q => XT.lushr X.here hx rfl hd rfl q) k
theorem g_lcmp (X : Stand p l e R s m args below meth c T locs cells slots) (hx : p.tables.exec = Jvm.exec) {x y : Int64} (hd : decode c.code pc = .ok (.lcmp, 1))  (hp : pc + 1 = pc') (k : Goes p e below K T (mkF m pc' Ls (.int (XT.cmpL x y) :: st))) : Goes p e below K T (mkF m pc Ls (.long y :: .long x :: st)) := by subst hp; exact Goes.by' (fun _ q => XT.lcmp X.here hx rfl hd rfl q) k
theorem g_i2l (X : Stand p l e R s m args below meth c T locs cells slots) (hx : p.tables.exec = Jvm.exec) {x : Int32} (hd : decode c.code pc = .ok (.i2l, 1))  (hp : pc + 1 = pc') (k : Goes p e below K T (mkF m pc' Ls (.long x.toInt64 :: st))) : Goes p e below K T (mkF m pc Ls (.int x :: st)) := by subst hp; exact Goes.by' (fun _ q => XT.i2l X.here hx rfl hd rfl q) k
theorem g_l2i (X : Stand p l e R s m args below meth c T locs cells slots) (hx : p.tables.exec = Jvm.exec) {x : Int64} (hd : decode c.code pc = .ok (.l2i, 1))  (hp : pc + 1 = pc') (k : Goes p e below K T (mkF m pc' Ls (.int x.toInt32 :: st))) : Goes p e below K T (mkF m pc Ls (.long x :: st)) := by subst hp; exact Goes.by' (fun _ q => XT.l2i X.here hx rfl hd rfl q) k
theorem g_i2b (X : Stand p l e R s m args below meth c T locs cells slots) (hx : p.tables.exec = Jvm.exec) {x : Int32} (hd : decode c.code pc = .ok (.i2b, 1))  (hp : pc + 1 = pc') (k : Goes p e below K T (mkF m pc' Ls (.int x.toInt8.toInt32 :: st))) : Goes p e below K T (mkF m pc Ls (.int x :: st)) := by subst hp; exact Goes.by' (fun _ q => XT.i2b X.here hx rfl hd rfl q) k
theorem g_i2c (X : Stand p l e R s m args below meth c T locs cells slots) (hx : p.tables.exec = Jvm.exec) {x : Int32} (hd : decode c.code pc = .ok (.i2c, 1))  (hp : pc + 1 = pc') (k : Goes p e below K T (mkF m pc' Ls (.int x.toUInt32.toUInt16.toUInt32.toInt32 :: st))) : Goes p e below K T (mkF m pc Ls (.int x :: st)) := by subst hp; exact Goes.by' (fun _ q => XT.i2c X.here hx rfl hd rfl q) k
theorem g_i2s (X : Stand p l e R s m args below meth c T locs cells slots) (hx : p.tables.exec = Jvm.exec) {x : Int32} (hd : decode c.code pc = .ok (.i2s, 1))  (hp : pc + 1 = pc') (k : Goes p e below K T (mkF m pc' Ls (.int x.toInt16.toInt32 :: st))) : Goes p e below K T (mkF m pc Ls (.int x :: st)) := by subst hp; exact Goes.by' (fun _ q => XT.i2s X.here hx rfl hd rfl q) k
theorem g_aload_n (X : Stand p l e R s m args below meth c T locs cells slots) (hx : p.tables.exec = Jvm.exec) {i : Fin 4} {v : Value} (hd : decode c.code pc = .ok (.aload_n i, 1)) (hl : Ls[i.val]? = some (.val v)) (hv : v.isRef = true) (hp : pc + 1 = pc') (k : Goes p e below K T (mkF m pc' Ls (v :: st))) : Goes p e below K T (mkF m pc Ls (st)) := by subst hp; exact Goes.by' (fun _ q => XS.aloadN X.here hx rfl hd hl hv q) k
theorem g_aload (X : Stand p l e R s m args below meth c T locs cells slots) (hx : p.tables.exec = Jvm.exec) {i : Nat} {v : Value} (hd : decode c.code pc = .ok (.aload i, 2)) (hl : Ls[i]? = some (.val v)) (hv : v.isRef = true) (hp : pc + 2 = pc') (k : Goes p e below K T (mkF m pc' Ls (v :: st))) : Goes p e below K T (mkF m pc Ls (st)) := by subst hp; exact Goes.by' (fun _ q => XS.aload X.here hx rfl hd hl hv q) k
theorem g_iload_n (X : Stand p l e R s m args below meth c T locs cells slots) (hx : p.tables.exec = Jvm.exec) {i : Fin 4} {v : Int32} (hd : decode c.code pc = .ok (.iload_n i, 1)) (hl : Ls[i.val]? = some (.val (.int v))) (hp : pc + 1 = pc') (k : Goes p e below K T (mkF m pc' Ls (.int v :: st))) : Goes p e below K T (mkF m pc Ls (st)) := by subst hp; exact Goes.by' (fun _ q => XS.iloadN X.here hx rfl hd hl q) k
theorem g_iload (X : Stand p l e R s m args below meth c T locs cells slots) (hx : p.tables.exec = Jvm.exec) {i : Nat} {v : Int32} (hd : decode c.code pc = .ok (.iload i, 2)) (hl : Ls[i]? = some (.val (.int v))) (hp : pc + 2 = pc') (k : Goes p e below K T (mkF m pc' Ls (.int v :: st))) : Goes p e below K T (mkF m pc Ls (st)) := by subst hp; exact Goes.by' (fun _ q => XS.iload X.here hx rfl hd hl q) k
theorem g_lload_n (X : Stand p l e R s m args below meth c T locs cells slots) (hx : p.tables.exec = Jvm.exec) {i : Fin 4} {v : Int64} (hd : decode c.code pc = .ok (.lload_n i, 1)) (hl : Ls[i.val]? = some (.val (.long v))) (hp : pc + 1 = pc') (k : Goes p e below K T (mkF m pc' Ls (.long v :: st))) : Goes p e below K T (mkF m pc Ls (st)) := by subst hp; exact Goes.by' (fun _ q => XT.lloadN X.here hx rfl hd hl q) k
theorem g_lload (X : Stand p l e R s m args below meth c T locs cells slots) (hx : p.tables.exec = Jvm.exec) {i : Nat} {v : Int64} (hd : decode c.code pc = .ok (.lload i, 2)) (hl : Ls[i]? = some (.val (.long v))) (hp : pc + 2 = pc') (k : Goes p e below K T (mkF m pc' Ls (.long v :: st))) : Goes p e below K T (mkF m pc Ls (st)) := by subst hp; exact Goes.by' (fun _ q => XT.lload X.here hx rfl hd hl q) k
theorem g_iconst (X : Stand p l e R s m args below meth c T locs cells slots) (hx : p.tables.exec = Jvm.exec) {i : Int} {v : Int32} (hd : decode c.code pc = .ok (.iconst i, 1)) (hv : v = Int32.ofInt i) (hp : pc + 1 = pc') (k : Goes p e below K T (mkF m pc' Ls (.int v :: st))) : Goes p e below K T (mkF m pc Ls (st)) := by subst hp; exact Goes.by' (fun _ q => XS.iconst X.here hx rfl hd (hv ▸ q)) k
theorem g_bipush (X : Stand p l e R s m args below meth c T locs cells slots) (hx : p.tables.exec = Jvm.exec) {i : Int} {v : Int32} (hd : decode c.code pc = .ok (.bipush i, 2)) (hv : v = (Int8.ofInt i).toInt32) (hp : pc + 2 = pc') (k : Goes p e below K T (mkF m pc' Ls (.int v :: st))) : Goes p e below K T (mkF m pc Ls (st)) := by subst hp; exact Goes.by' (fun _ q => XS.bipush X.here hx rfl hd (hv ▸ q)) k
theorem g_sipush (X : Stand p l e R s m args below meth c T locs cells slots) (hx : p.tables.exec = Jvm.exec) {i : Int} {v : Int32} (hd : decode c.code pc = .ok (.sipush i, 3)) (hv : v = (Int16.ofInt i).toInt32) (hp : pc + 3 = pc') (k : Goes p e below K T (mkF m pc' Ls (.int v :: st))) : Goes p e below K T (mkF m pc Ls (st)) := by subst hp; exact Goes.by' (fun _ q => XS.sipush X.here hx rfl hd (hv ▸ q)) k
theorem g_lconst (X : Stand p l e R s m args below meth c T locs cells slots) (hx : p.tables.exec = Jvm.exec) {i : Fin 2} {v : Int64} (hd : decode c.code pc = .ok (.lconst i, 1)) (hv : v = Int64.ofNat i) (hp : pc + 1 = pc') (k : Goes p e below K T (mkF m pc' Ls (.long v :: st))) : Goes p e below K T (mkF m pc Ls (st)) := by subst hp; exact Goes.by' (fun _ q => XT.lconst X.here hx rfl hd (hv ▸ q)) k
theorem g_aconst_null (X : Stand p l e R s m args below meth c T locs cells slots) (hx : p.tables.exec = Jvm.exec)  (hd : decode c.code pc = .ok (.aconst_null, 1))  (hp : pc + 1 = pc') (k : Goes p e below K T (mkF m pc' Ls (.null :: st))) : Goes p e below K T (mkF m pc Ls (st)) := by subst hp; exact Goes.by' (fun _ q => XS.aconstNull X.here hx rfl hd q) k
theorem g_dup (X : Stand p l e R s m args below meth c T locs cells slots) (hx : p.tables.exec = Jvm.exec) {x : Value} (hd : decode c.code pc = .ok (.dup, 1)) (hc : x.category = 1) (hp : pc + 1 = pc') (k : Goes p e below K T (mkF m pc' Ls (x :: x :: st))) : Goes p e below K T (mkF m pc Ls (x :: st)) := by subst hp; exact Goes.by' (fun _ q => XS.dup X.here hx rfl hd rfl hc q) k
theorem g_pop (X : Stand p l e R s m args below meth c T locs cells slots) (hx : p.tables.exec = Jvm.exec) {x : Value} (hd : decode c.code pc = .ok (.pop, 1)) (hc : x.category = 1) (hp : pc + 1 = pc') (k : Goes p e below K T (mkF m pc' Ls (st))) : Goes p e below K T (mkF m pc Ls (x :: st)) := by subst hp; exact Goes.by' (fun _ q => XT.pop X.here hx rfl hd rfl hc q) k
theorem g_dup_x1 (X : Stand p l e R s m args below meth c T locs cells slots) (hx : p.tables.exec = Jvm.exec) {x y : Value} (hd : decode c.code pc = .ok (.dup_x1, 1)) (hc : x.category = 1) (hc' : y.category = 1) (hp : pc + 1 = pc') (k : Goes p e below K T (mkF m pc' Ls (x :: y :: x :: st))) : Goes p e below K T (mkF m pc Ls (x :: y :: st)) := by subst hp; exact Goes.by' (fun _ q => XT.dupX1 X.here hx rfl hd rfl hc hc' q) k
theorem g_dup2 (X : Stand p l e R s m args below meth c T locs cells slots) (hx : p.tables.exec = Jvm.exec) {x y : Value} (hd : decode c.code pc = .ok (.dup2, 1)) (hc : x.category = 1) (hc' : y.category = 1) (hp : pc + 1 = pc') (k : Goes p e below K T (mkF m pc' Ls (x :: y :: x :: y :: st))) : Goes p e below K T (mkF m pc Ls (x :: y :: st)) := by subst hp; exact Goes.by' (fun _ q => XT.dup2 X.here hx rfl hd rfl hc hc' q) k
theorem g_dup2L (X : Stand p l e R s m args below meth c T locs cells slots) (hx : p.tables.exec = Jvm.exec) {x : Int64} (hd : decode c.code pc = .ok (.dup2, 1))  (hp : pc + 1 = pc') (k : Goes p e below K T (mkF m pc' Ls (.long x :: .long x :: st))) : Goes p e below K T (mkF m pc Ls (.long x :: st)) := by subst hp; exact Goes.by' (fun _ q => XT.dup2L X.here hx rfl hd rfl q) k
theorem g_istore_n (X : Stand p l e R s m args below meth c T locs cells slots) (hx : p.tables.exec = Jvm.exec) {i : Fin 4} {x : Int32} (l' : Array Slot) (hd : decode c.code pc = .ok (.istore_n i, 1)) (hl : storeLocals Ls i.val (.int x) = some l') (hp : pc + 1 = pc') (k : Goes p e below K T (mkF m pc' l' (st))) : Goes p e below K T (mkF m pc Ls (.int x :: st)) := by subst hp; exact Goes.by' (fun _ q => XS.istoreN X.here hx rfl hd rfl hl q) k
theorem g_istore (X : Stand p l e R s m args below meth c T locs cells slots) (hx : p.tables.exec = Jvm.exec) {i : Nat} {x : Int32} (l' : Array Slot) (hd : decode c.code pc = .ok (.istore i, 2)) (hl : storeLocals Ls i (.int x) = some l') (hp : pc + 2 = pc') (k : Goes p e below K T (mkF m pc' l' (st))) : Goes p e below K T (mkF m pc Ls (.int x :: st)) := by subst hp; exact Goes.by' (fun _ q => XS.istore X.here hx rfl hd rfl hl q) k
theorem g_lstore_n (X : Stand p l e R s m args below meth c T locs cells slots) (hx : p.tables.exec = Jvm.exec) {i : Fin 4} {x : Int64} (l' : Array Slot) (hd : decode c.code pc = .ok (.lstore_n i, 1)) (hl : storeLocals Ls i.val (.long x) = some l') (hp : pc + 1 = pc') (k : Goes p e below K T (mkF m pc' l' (st))) : Goes p e below K T (mkF m pc Ls (.long x :: st)) := by subst hp; exact Goes.by' (fun _ q => XT.lstoreN X.here hx rfl hd rfl hl q) k
theorem g_lstore (X : Stand p l e R s m args below meth c T locs cells slots) (hx : p.tables.exec = Jvm.exec) {i : Nat} {x : Int64} (l' : Array Slot) (hd : decode c.code pc = .ok (.lstore i, 2)) (hl : storeLocals Ls i (.long x) = some l') (hp : pc + 2 = pc') (k : Goes p e below K T (mkF m pc' l' (st))) : Goes p e below K T (mkF m pc Ls (.long x :: st)) := by subst hp; exact Goes.by' (fun _ q => XT.lstore X.here hx rfl hd rfl hl q) k
theorem g_astore_n (X : Stand p l e R s m args below meth c T locs cells slots) (hx : p.tables.exec = Jvm.exec) {i : Fin 4} {x : Value} (l' : Array Slot) (hd : decode c.code pc = .ok (.astore_n i, 1)) (hv : x.isRef = true) (hl : storeLocals Ls i.val x = some l') (hp : pc + 1 = pc') (k : Goes p e below K T (mkF m pc' l' (st))) : Goes p e below K T (mkF m pc Ls (x :: st)) := by subst hp; exact Goes.by' (fun _ q => XS.astoreN X.here hx rfl hd rfl hv hl q) k
theorem g_astore (X : Stand p l e R s m args below meth c T locs cells slots) (hx : p.tables.exec = Jvm.exec) {i : Nat} {x : Value} (l' : Array Slot) (hd : decode c.code pc = .ok (.astore i, 2)) (hv : x.isRef = true) (hl : storeLocals Ls i x = some l') (hp : pc + 2 = pc') (k : Goes p e below K T (mkF m pc' l' (st))) : Goes p e below K T (mkF m pc Ls (x :: st)) := by subst hp; exact Goes.by' (fun _ q => XS.astore X.here hx rfl hd rfl hv hl q) k
theorem g_iinc (X : Stand p l e R s m args below meth c T locs cells slots) (hx : p.tables.exec = Jvm.exec) {i : Nat} {cst : Int} {x y : Int32} (l' : Array Slot) (hd : decode c.code pc = .ok (.iinc i cst, 3)) (hl : Ls[i]? = some (.val (.int x))) (hy : y = x + Int32.ofInt cst) (hl' : storeLocals Ls i (.int y) = some l') (hp : pc + 3 = pc') (k : Goes p e below K T (mkF m pc' l' (st))) : Goes p e below K T (mkF m pc Ls (st)) := by subst hp; exact Goes.by' (fun _ q => XS.iinc X.here hx rfl hd hl (hy ▸ hl') q) k
theorem g_ldcI (X : Stand p l e R s m args below meth c T locs cells slots) (hx : p.tables.exec = Jvm.exec) (hZ : Z.Warmed39 s.vm) {own : String} {ix : Nat} {v : Int32} (hown : s.vm.findClass own = some m.cls) (w : (Cond.constant own ix v).before a0 Z = true) (hd : decode c.code pc = .ok (.ldc ix, 2)) (hp : pc + 2 = pc') (k : Goes p e below K T (mkF m pc' Ls (.int v :: st))) : Goes p e below K T (mkF m pc Ls st) := by subst hp; exact Goes.by' (fun _ q => X.ldcI hx hown (mvT hZ w) rfl hd q) k
theorem g_ldcWI (X : Stand p l e R s m args below meth c T locs cells slots) (hx : p.tables.exec = Jvm.exec) (hZ : Z.Warmed39 s.vm) {own : String} {ix : Nat} {v : Int32} (hown : s.vm.findClass own = some m.cls) (w : (Cond.constant own ix v).before a0 Z = true) (hd : decode c.code pc = .ok (.ldc_w ix, 3)) (hp : pc + 3 = pc') (k : Goes p e below K T (mkF m pc' Ls (.int v :: st))) : Goes p e below K T (mkF m pc Ls st) := by subst hp; exact Goes.by' (fun _ q => X.ldcWI hx hown (mvT hZ w) rfl hd q) k
theorem g_ldc2J (X : Stand p l e R s m args below meth c T locs cells slots) (hx : p.tables.exec = Jvm.exec) (hZ : Z.Warmed39 s.vm) {own : String} {ix : Nat} {v : Int64} (hown : s.vm.findClass own = some m.cls) (w : (Cond.constantLong own ix v).before a0 Z = true) (hd : decode c.code pc = .ok (.ldc2_w ix, 3)) (hp : pc + 3 = pc') (k : Goes p e below K T (mkF m pc' Ls (.long v :: st))) : Goes p e below K T (mkF m pc Ls st) := by subst hp; exact Goes.by' (fun _ q => X.ldc2J hx hown (mvT hZ w) rfl hd q) k
theorem g_goto (X : Stand p l e R s m args below meth c T locs cells slots) (hx : p.tables.exec = Jvm.exec) {o : Int} (hd : decode c.code pc = .ok (.goto o, 3)) (ho : 0 ≤ (pc : Int) + o) (hp : ((pc : Int) + o).toNat = pc') (k : Goes p e below K T (mkF m pc' Ls st)) : Goes p e below K T (mkF m pc Ls st) := Goes.by' (fun _ q => XS.goto X.here hx rfl (pc0 := pc) (pc' := pc') rfl hd ho hp q) k
theorem icmp_iff (cd : ClassFile.Cond) (x y : Int32) : if_icmp.holds cd x y = true ↔ (match cd with | .eq => x = y | .ne => ¬ x = y | .lt => x < y | .ge => ¬ x < y | .gt => y < x | .le => ¬ y < x) := by cases cd <;> simp [if_icmp.holds, Int32.not_lt, Int32.not_le]
theorem g_icmp_eq (X : Stand p l e R s m args below meth c T locs cells slots) (hx : p.tables.exec = Jvm.exec) {x y : Int32} {o : Int} {pt : Nat} (hd : decode c.code pc = .ok (.if_icmp .eq o, 3)) (ho : 0 ≤ (pc : Int) + o) (hp : ((pc : Int) + o).toNat = pt) (hp' : pc + 3 = pc') (kt : x = y → Goes p e below K T (mkF m pt Ls st)) (kf : ¬ x = y → Goes p e below K T (mkF m pc' Ls st)) : Goes p e below K T (mkF m pc Ls (.int y :: .int x :: st)) := by
  subst hp'
  by_cases q : if_icmp.holds .eq x y = true
  · exact Goes.by' (fun _ r => XS.icmpYes X.here hx rfl (pc0 := pc) (pc' := pt) rfl hd rfl q ho hp r) (kt ((icmp_iff .eq x y).mp q))
  · exact Goes.by' (fun _ r => XS.icmpNo X.here hx rfl hd rfl (by simpa using q) r) (kf (id (mt (icmp_iff .eq x y).mpr q)))
theorem g_if_eq (X : Stand p l e R s m args below meth c T locs cells slots) (hx : p.tables.exec = Jvm.exec) {x : Int32} {o : Int} {pt : Nat} (hd : decode c.code pc = .ok (.ifCond .eq o, 3)) (ho : 0 ≤ (pc : Int) + o) (hp : ((pc : Int) + o).toNat = pt) (hp' : pc + 3 = pc') (kt : x = 0 → Goes p e below K T (mkF m pt Ls st)) (kf : ¬ x = 0 → Goes p e below K T (mkF m pc' Ls st)) : Goes p e below K T (mkF m pc Ls (.int x :: st)) := by
  subst hp'
  by_cases q : if_icmp.holds .eq x 0 = true
  · exact Goes.by' (fun _ r => XS.ifYes X.here hx rfl (pc0 := pc) (pc' := pt) rfl hd rfl (by rw [if0]; exact q) ho hp r) (kt ((icmp_iff .eq x 0).mp q))
  · exact Goes.by' (fun _ r => XS.ifNo X.here hx rfl hd rfl (by rw [if0]; simpa using q) r) (kf (id (mt (icmp_iff .eq x 0).mpr q)))
theorem g_icmp_ne (X : Stand p l e R s m args below meth c T locs cells slots) (hx : p.tables.exec = Jvm.exec) {x y : Int32} {o : Int} {pt : Nat} (hd : decode c.code pc = .ok (.if_icmp .ne o, 3)) (ho : 0 ≤ (pc : Int) + o) (hp : ((pc : Int) + o).toNat = pt) (hp' : pc + 3 = pc') (kt : ¬ x = y → Goes p e below K T (mkF m pt Ls st)) (kf : x = y → Goes p e below K T (mkF m pc' Ls st)) : Goes p e below K T (mkF m pc Ls (.int y :: .int x :: st)) := by
  subst hp'
  by_cases q : if_icmp.holds .ne x y = true
  · exact Goes.by' (fun _ r => XS.icmpYes X.here hx rfl (pc0 := pc) (pc' := pt) rfl hd rfl q ho hp r) (kt ((icmp_iff .ne x y).mp q))
  · exact Goes.by' (fun _ r => XS.icmpNo X.here hx rfl hd rfl (by simpa using q) r) (kf (Classical.not_not.mp (mt (icmp_iff .ne x y).mpr q)))
theorem g_if_ne (X : Stand p l e R s m args below meth c T locs cells slots) (hx : p.tables.exec = Jvm.exec) {x : Int32} {o : Int} {pt : Nat} (hd : decode c.code pc = .ok (.ifCond .ne o, 3)) (ho : 0 ≤ (pc : Int) + o) (hp : ((pc : Int) + o).toNat = pt) (hp' : pc + 3 = pc') (kt : ¬ x = 0 → Goes p e below K T (mkF m pt Ls st)) (kf : x = 0 → Goes p e below K T (mkF m pc' Ls st)) : Goes p e below K T (mkF m pc Ls (.int x :: st)) := by
  subst hp'
  by_cases q : if_icmp.holds .ne x 0 = true
  · exact Goes.by' (fun _ r => XS.ifYes X.here hx rfl (pc0 := pc) (pc' := pt) rfl hd rfl (by rw [if0]; exact q) ho hp r) (kt ((icmp_iff .ne x 0).mp q))
  · exact Goes.by' (fun _ r => XS.ifNo X.here hx rfl hd rfl (by rw [if0]; simpa using q) r) (kf (Classical.not_not.mp (mt (icmp_iff .ne x 0).mpr q)))
theorem g_icmp_lt (X : Stand p l e R s m args below meth c T locs cells slots) (hx : p.tables.exec = Jvm.exec) {x y : Int32} {o : Int} {pt : Nat} (hd : decode c.code pc = .ok (.if_icmp .lt o, 3)) (ho : 0 ≤ (pc : Int) + o) (hp : ((pc : Int) + o).toNat = pt) (hp' : pc + 3 = pc') (kt : x < y → Goes p e below K T (mkF m pt Ls st)) (kf : ¬ x < y → Goes p e below K T (mkF m pc' Ls st)) : Goes p e below K T (mkF m pc Ls (.int y :: .int x :: st)) := by
  subst hp'
  by_cases q : if_icmp.holds .lt x y = true
  · exact Goes.by' (fun _ r => XS.icmpYes X.here hx rfl (pc0 := pc) (pc' := pt) rfl hd rfl q ho hp r) (kt ((icmp_iff .lt x y).mp q))
  · exact Goes.by' (fun _ r => XS.icmpNo X.here hx rfl hd rfl (by simpa using q) r) (kf (id (mt (icmp_iff .lt x y).mpr q)))
theorem g_if_lt (X : Stand p l e R s m args below meth c T locs cells slots) (hx : p.tables.exec = Jvm.exec) {x : Int32} {o : Int} {pt : Nat} (hd : decode c.code pc = .ok (.ifCond .lt o, 3)) (ho : 0 ≤ (pc : Int) + o) (hp : ((pc : Int) + o).toNat = pt) (hp' : pc + 3 = pc') (kt : x < 0 → Goes p e below K T (mkF m pt Ls st)) (kf : ¬ x < 0 → Goes p e below K T (mkF m pc' Ls st)) : Goes p e below K T (mkF m pc Ls (.int x :: st)) := by
  subst hp'
  by_cases q : if_icmp.holds .lt x 0 = true
  · exact Goes.by' (fun _ r => XS.ifYes X.here hx rfl (pc0 := pc) (pc' := pt) rfl hd rfl (by rw [if0]; exact q) ho hp r) (kt ((icmp_iff .lt x 0).mp q))
  · exact Goes.by' (fun _ r => XS.ifNo X.here hx rfl hd rfl (by rw [if0]; simpa using q) r) (kf (id (mt (icmp_iff .lt x 0).mpr q)))
theorem g_icmp_ge (X : Stand p l e R s m args below meth c T locs cells slots) (hx : p.tables.exec = Jvm.exec) {x y : Int32} {o : Int} {pt : Nat} (hd : decode c.code pc = .ok (.if_icmp .ge o, 3)) (ho : 0 ≤ (pc : Int) + o) (hp : ((pc : Int) + o).toNat = pt) (hp' : pc + 3 = pc') (kt : ¬ x < y → Goes p e below K T (mkF m pt Ls st)) (kf : x < y → Goes p e below K T (mkF m pc' Ls st)) : Goes p e below K T (mkF m pc Ls (.int y :: .int x :: st)) := by
  subst hp'
  by_cases q : if_icmp.holds .ge x y = true
  · exact Goes.by' (fun _ r => XS.icmpYes X.here hx rfl (pc0 := pc) (pc' := pt) rfl hd rfl q ho hp r) (kt ((icmp_iff .ge x y).mp q))
  · exact Goes.by' (fun _ r => XS.icmpNo X.here hx rfl hd rfl (by simpa using q) r) (kf (Classical.not_not.mp (mt (icmp_iff .ge x y).mpr q)))
theorem g_if_ge (X : Stand p l e R s m args below meth c T locs cells slots) (hx : p.tables.exec = Jvm.exec) {x : Int32} {o : Int} {pt : Nat} (hd : decode c.code pc = .ok (.ifCond .ge o, 3)) (ho : 0 ≤ (pc : Int) + o) (hp : ((pc : Int) + o).toNat = pt) (hp' : pc + 3 = pc') (kt : ¬ x < 0 → Goes p e below K T (mkF m pt Ls st)) (kf : x < 0 → Goes p e below K T (mkF m pc' Ls st)) : Goes p e below K T (mkF m pc Ls (.int x :: st)) := by
  subst hp'
  by_cases q : if_icmp.holds .ge x 0 = true
  · exact Goes.by' (fun _ r => XS.ifYes X.here hx rfl (pc0 := pc) (pc' := pt) rfl hd rfl (by rw [if0]; exact q) ho hp r) (kt ((icmp_iff .ge x 0).mp q))
  · exact Goes.by' (fun _ r => XS.ifNo X.here hx rfl hd rfl (by rw [if0]; simpa using q) r) (kf (Classical.not_not.mp (mt (icmp_iff .ge x 0).mpr q)))
theorem g_icmp_gt (X : Stand p l e R s m args below meth c T locs cells slots) (hx : p.tables.exec = Jvm.exec) {x y : Int32} {o : Int} {pt : Nat} (hd : decode c.code pc = .ok (.if_icmp .gt o, 3)) (ho : 0 ≤ (pc : Int) + o) (hp : ((pc : Int) + o).toNat = pt) (hp' : pc + 3 = pc') (kt : y < x → Goes p e below K T (mkF m pt Ls st)) (kf : ¬ y < x → Goes p e below K T (mkF m pc' Ls st)) : Goes p e below K T (mkF m pc Ls (.int y :: .int x :: st)) := by
  subst hp'
  by_cases q : if_icmp.holds .gt x y = true
  · exact Goes.by' (fun _ r => XS.icmpYes X.here hx rfl (pc0 := pc) (pc' := pt) rfl hd rfl q ho hp r) (kt ((icmp_iff .gt x y).mp q))
  · exact Goes.by' (fun _ r => XS.icmpNo X.here hx rfl hd rfl (by simpa using q) r) (kf (id (mt (icmp_iff .gt x y).mpr q)))
theorem g_if_gt (X : Stand p l e R s m args below meth c T locs cells slots) (hx : p.tables.exec = Jvm.exec) {x : Int32} {o : Int} {pt : Nat} (hd : decode c.code pc = .ok (.ifCond .gt o, 3)) (ho : 0 ≤ (pc : Int) + o) (hp : ((pc : Int) + o).toNat = pt) (hp' : pc + 3 = pc') (kt : 0 < x → Goes p e below K T (mkF m pt Ls st)) (kf : ¬ 0 < x → Goes p e below K T (mkF m pc' Ls st)) : Goes p e below K T (mkF m pc Ls (.int x :: st)) := by
  subst hp'
  by_cases q : if_icmp.holds .gt x 0 = true
  · exact Goes.by' (fun _ r => XS.ifYes X.here hx rfl (pc0 := pc) (pc' := pt) rfl hd rfl (by rw [if0]; exact q) ho hp r) (kt ((icmp_iff .gt x 0).mp q))
  · exact Goes.by' (fun _ r => XS.ifNo X.here hx rfl hd rfl (by rw [if0]; simpa using q) r) (kf (id (mt (icmp_iff .gt x 0).mpr q)))
theorem g_icmp_le (X : Stand p l e R s m args below meth c T locs cells slots) (hx : p.tables.exec = Jvm.exec) {x y : Int32} {o : Int} {pt : Nat} (hd : decode c.code pc = .ok (.if_icmp .le o, 3)) (ho : 0 ≤ (pc : Int) + o) (hp : ((pc : Int) + o).toNat = pt) (hp' : pc + 3 = pc') (kt : ¬ y < x → Goes p e below K T (mkF m pt Ls st)) (kf : y < x → Goes p e below K T (mkF m pc' Ls st)) : Goes p e below K T (mkF m pc Ls (.int y :: .int x :: st)) := by
  subst hp'
  by_cases q : if_icmp.holds .le x y = true
  · exact Goes.by' (fun _ r => XS.icmpYes X.here hx rfl (pc0 := pc) (pc' := pt) rfl hd rfl q ho hp r) (kt ((icmp_iff .le x y).mp q))
  · exact Goes.by' (fun _ r => XS.icmpNo X.here hx rfl hd rfl (by simpa using q) r) (kf (Classical.not_not.mp (mt (icmp_iff .le x y).mpr q)))
theorem g_if_le (X : Stand p l e R s m args below meth c T locs cells slots) (hx : p.tables.exec = Jvm.exec) {x : Int32} {o : Int} {pt : Nat} (hd : decode c.code pc = .ok (.ifCond .le o, 3)) (ho : 0 ≤ (pc : Int) + o) (hp : ((pc : Int) + o).toNat = pt) (hp' : pc + 3 = pc') (kt : ¬ 0 < x → Goes p e below K T (mkF m pt Ls st)) (kf : 0 < x → Goes p e below K T (mkF m pc' Ls st)) : Goes p e below K T (mkF m pc Ls (.int x :: st)) := by
  subst hp'
  by_cases q : if_icmp.holds .le x 0 = true
  · exact Goes.by' (fun _ r => XS.ifYes X.here hx rfl (pc0 := pc) (pc' := pt) rfl hd rfl (by rw [if0]; exact q) ho hp r) (kt ((icmp_iff .le x 0).mp q))
  · exact Goes.by' (fun _ r => XS.ifNo X.here hx rfl hd rfl (by rw [if0]; simpa using q) r) (kf (Classical.not_not.mp (mt (icmp_iff .le x 0).mpr q)))
theorem g_ifnull_t (X : Stand p l e R s m args below meth c T locs cells slots) (hx : p.tables.exec = Jvm.exec) {o : Int} {pt : Nat} (hd : decode c.code pc = .ok (.ifnull o, 3)) (ho : 0 ≤ (pc : Int) + o) (hp : ((pc : Int) + o).toNat = pt) (k : Goes p e below K T (mkF m pt Ls st)) : Goes p e below K T (mkF m pc Ls (.null :: st)) := Goes.by' (fun _ r => XS.ifnullYes X.here hx rfl (pc0 := pc) (pc' := pt) rfl hd rfl ho hp r) k
theorem g_ifnull_f (X : Stand p l e R s m args below meth c T locs cells slots) (hx : p.tables.exec = Jvm.exec) {o : Int} {a : Addr} (hd : decode c.code pc = .ok (.ifnull o, 3)) (hp : pc + 3 = pc') (k : Goes p e below K T (mkF m pc' Ls st)) : Goes p e below K T (mkF m pc Ls (.ref a :: st)) := by subst hp; exact Goes.by' (fun _ r => XS.ifnullNo X.here hx rfl hd rfl r) k
theorem g_ifnonnull_t (X : Stand p l e R s m args below meth c T locs cells slots) (hx : p.tables.exec = Jvm.exec) {o : Int} {a : Addr} {pt : Nat} (hd : decode c.code pc = .ok (.ifnonnull o, 3)) (ho : 0 ≤ (pc : Int) + o) (hp : ((pc : Int) + o).toNat = pt) (k : Goes p e below K T (mkF m pt Ls st)) : Goes p e below K T (mkF m pc Ls (.ref a :: st)) := Goes.by' (fun _ r => XT.ifnonnullYes X.here hx rfl (pc0 := pc) (pc' := pt) rfl hd rfl ho hp r) k
theorem g_ifnonnull_f (X : Stand p l e R s m args below meth c T locs cells slots) (hx : p.tables.exec = Jvm.exec) {o : Int} (hd : decode c.code pc = .ok (.ifnonnull o, 3)) (hp : pc + 3 = pc') (k : Goes p e below K T (mkF m pc' Ls st)) : Goes p e below K T (mkF m pc Ls (.null :: st)) := by subst hp; exact Goes.by' (fun _ r => XT.ifnonnullNo X.here hx rfl hd rfl r) k
theorem g_acmp_eq (X : Stand p l e R s m args below meth c T locs cells slots) (hx : p.tables.exec = Jvm.exec) {x y : Value} {o : Int} {pt : Nat} (hd : decode c.code pc = .ok (.if_acmp .eq o, 3)) (hx' : x.isRef = true) (hy' : y.isRef = true) (ho : 0 ≤ (pc : Int) + o) (hp : ((pc : Int) + o).toNat = pt) (hp' : pc + 3 = pc') (kt : x = y → Goes p e below K T (mkF m pt Ls st)) (kf : ¬ x = y → Goes p e below K T (mkF m pc' Ls st)) : Goes p e below K T (mkF m pc Ls (y :: x :: st)) := by
  subst hp'
  by_cases q : x = y
  · exact Goes.by' (fun _ r => XT.acmpYes X.here hx rfl (pc0 := pc) (pc' := pt) rfl hd rfl hx' hy' (by simp [XT.acmp, q]) ho hp r) (kt q)
  · exact Goes.by' (fun _ r => XT.acmpNo X.here hx rfl hd rfl hx' hy' (by simp [XT.acmp, q]) r) (kf q)
theorem g_acmp_ne (X : Stand p l e R s m args below meth c T locs cells slots) (hx : p.tables.exec = Jvm.exec) {x y : Value} {o : Int} {pt : Nat} (hd : decode c.code pc = .ok (.if_acmp .ne o, 3)) (hx' : x.isRef = true) (hy' : y.isRef = true) (ho : 0 ≤ (pc : Int) + o) (hp : ((pc : Int) + o).toNat = pt) (hp' : pc + 3 = pc') (kt : ¬ x = y → Goes p e below K T (mkF m pt Ls st)) (kf : x = y → Goes p e below K T (mkF m pc' Ls st)) : Goes p e below K T (mkF m pc Ls (y :: x :: st)) := by
  subst hp'
  by_cases q : x = y
  · exact Goes.by' (fun _ r => XT.acmpNo X.here hx rfl hd rfl hx' hy' (by simp [XT.acmp, q]) r) (kf q)
  · exact Goes.by' (fun _ r => XT.acmpYes X.here hx rfl (pc0 := pc) (pc' := pt) rfl hd rfl hx' hy' (by simp [XT.acmp, q]) ho hp r) (kt q)
theorem g_lsw (X : Stand p l e R s m args below meth c T locs cells slots) (hx : p.tables.exec = Jvm.exec) {i : Int32} {dflt o : Int} {prs : Array (Int × Int)} {len pt : Nat} (hd : decode c.code pc = .ok (.lookupswitch dflt prs, len)) (hso : ∀ (a b a_1 b_1 : Int), ((a, b), a_1, b_1) ∈ prs.toList.zip prs.toList.tail → a < a_1) (hoff : lookupswitch.offset prs.toList dflt i.toInt = o) (ho : 0 ≤ (pc : Int) + o) (hp : ((pc : Int) + o).toNat = pt) (k : Goes p e below K T (mkF m pt Ls st)) : Goes p e below K T (mkF m pc Ls (.int i :: st)) := by
  subst hp
  refine Goes.by' (fun t q => ?_) k
  show Steps p.tables e below (T.setTop { method := m, pc := pc, locals := Ls, stack := .int i :: st, locked := none }) t
  jvm_step X.here [X.here.top, hx, hd, lookupswitch.wp_chain, hoff, ho]
  exact ⟨hso, q⟩
theorem g_tsw (X : Stand p l e R s m args below meth c T locs cells slots) (hx : p.tables.exec = Jvm.exec) {i : Int32} {dflt lo hi o : Int} {offs : Array Int} {len pt : Nat} (hd : decode c.code pc = .ok (.tableswitch dflt lo hi offs, len)) (hin : ¬ (i.toInt < lo ∨ i.toInt > hi)) (hoff : offs[(i.toInt - lo).toNat]? = some o) (ho : 0 ≤ (pc : Int) + o) (hp : ((pc : Int) + o).toNat = pt) (k : Goes p e below K T (mkF m pt Ls st)) : Goes p e below K T (mkF m pc Ls (.int i :: st)) := Goes.by' (fun _ q => XS.tswIn X.here hx rfl (pc0 := pc) (pc' := pt) rfl hd rfl hin hoff ho hp q) k
theorem g_tswD (X : Stand p l e R s m args below meth c T locs cells slots) (hx : p.tables.exec = Jvm.exec) {i : Int32} {dflt lo hi : Int} {offs : Array Int} {len pt : Nat} (hd : decode c.code pc = .ok (.tableswitch dflt lo hi offs, len)) (hout : i.toInt < lo ∨ i.toInt > hi) (ho : 0 ≤ (pc : Int) + dflt) (hp : ((pc : Int) + dflt).toNat = pt) (k : Goes p e below K T (mkF m pt Ls st)) : Goes p e below K T (mkF m pc Ls (.int i :: st)) := Goes.by' (fun _ q => XS.tswOut X.here hx rfl (pc0 := pc) (pc' := pt) rfl hd rfl hout ho hp q) k
theorem g_getF (X : Stand p l e R s m args below meth c T locs cells slots) (hx : p.tables.exec = Jvm.exec) (hZ : Z.Warmed39 s.vm) {own O n d : String} {ix : Nat} {a : Addr} {v : Value} (hown : s.vm.findClass own = some m.cls) (w : (Cond.fieldLink own ix O n d).before a0 Z = true) (eT : T.heap = h) (F : Fld Z h a O n d v) (hd : decode c.code pc = .ok (.getfield ix, 3)) (hp : pc + 3 = pc') (k : ∀ T', Stand p l e R s m args below meth c T' locs cells slots → T'.heap = h → Goes p e below K T' (mkF m pc' Ls (v :: st))) : Goes p e below K T (mkF m pc Ls (.ref a :: st)) := by
  subst hp
  obtain ⟨T1, X1, e1, f1⟩ := getF X hx hZ hown (host := "") (Or.inl w) Via.refl eT F (g := mkF m pc Ls (.ref a :: st)) rfl rfl hd
  exact Goes.by' f1 (k T1 X1 e1)
theorem g_getS (X : Stand p l e R s m args below meth c T locs cells slots) (hx : p.tables.exec = Jvm.exec) (hZ : Z.Warmed39 s.vm) {own O n d : String} {ix : Nat} {v : Value} (hown : s.vm.findClass own = some m.cls) (w : (Cond.fieldLink own ix O n d).before a0 Z = true) (eT : T.heap = h) (F : Sta Z h O n d v) (hd : decode c.code pc = .ok (.getstatic ix, 3)) (hp : pc + 3 = pc') (k : ∀ T', Stand p l e R s m args below meth c T' locs cells slots → T'.heap = h → Goes p e below K T' (mkF m pc' Ls (v :: st))) : Goes p e below K T (mkF m pc Ls st) := by
  subst hp
  obtain ⟨T1, X1, e1, f1⟩ := getS X hx hZ hown (host := "") w Via.refl eT F (g := mkF m pc Ls st) rfl hd
  exact Goes.by' f1 (k T1 X1 e1)
theorem g_putF (X : Stand p l e R s m args below meth c T locs cells slots) (hx : p.tables.exec = Jvm.exec) (hZ : Z.Warmed39 s.vm) {own O n d C : String} {ix kk : Nat} {ty : FieldType} {a : Addr} {v old : Value} (hown : s.vm.findClass own = some m.cls) (w : (Cond.fieldLink own ix O n d).before a0 Z = true) (eT : T.heap = h) (F : Fld Z h a O n d old) (E : Exa Z h a C) (L : (Cond.lays C O n d).before a0 Z = true ∨ ((Cond.laysFinal C O n d).before a0 Z = true ∧ own = O ∧ meth.name = "<init>")) (wi : (Cond.instantiable C kk).before a0 Z = true) (hty : parseFieldDescriptor d = some ty) (hn : narrow ty v = v) (hf : fits ty v = true) (hd : decode c.code pc = .ok (.putfield ix, 3)) (hp : pc + 3 = pc') (k : ∀ T' h', Stand p l e R s m args below meth c T' (locs ++ [⟨a, Jvm.RoadKit.slotOf Z O n d⟩]) cells slots → T'.heap = h' → Wr h h' a (Jvm.RoadKit.slotOf Z O n d) v → Goes p e below K T' (mkF m pc' Ls st)) : Goes p e below K T (mkF m pc Ls (v :: .ref a :: st)) := by
  subst hp
  obtain ⟨T1, h1, X1, e1, W1, f1⟩ := putF X hx hZ hown (host := "") (Or.inl w) Via.refl eT F E L wi hty hn hf (g := mkF m pc Ls (v :: .ref a :: st)) rfl rfl hd
  exact Goes.by' f1 (k T1 h1 X1 e1 W1)
theorem g_new (X : Stand p l e R s m args below meth c T locs cells slots) (hx : p.tables.exec = Jvm.exec) (hZ : Z.Warmed39 s.vm) {own C : String} {ix n : Nat} (hown : s.vm.findClass own = some m.cls) (w : (Cond.classLink own ix C).before a0 Z = true) (wi : (Cond.instantiable C n).before a0 Z = true) (wz : (Cond.initialized C).before a0 Z = true) (eT : T.heap = h) (hd : decode c.code pc = .ok (.new ix, 3)) (hp : pc + 3 = pc') (hc : cells + 1 ≤ R.cells) (hl : slots + n ≤ R.slots) (k : ∀ T' h' a, Stand p l e R s m args below meth c T' locs (cells + 1) (slots + n) → T'.heap = h' → a = h.size → Ext h h' → Exa Z h' a C → (∀ {O nm d : String} {ty : FieldType}, Laid Z a0 C O nm d → parseFieldDescriptor d = some ty → Fld Z h' a O nm d (defaultValue ty)) → Goes p e below K T' (mkF m pc' Ls (.ref a :: st))) : Goes p e below K T (mkF m pc Ls st) := by
  subst hp
  obtain ⟨T1, h1, X1, e1, E1, A1, D1, -, f1⟩ := newO X hx hZ hown w wi wz eT (g := mkF m pc Ls st) rfl hd hc hl
  exact Goes.by' f1 (k T1 h1 _ X1 e1 rfl E1 A1 D1)
theorem g_newarr (X : Stand p l e R s m args below meth c T locs cells slots) (hx : p.tables.exec = Jvm.exec) (hZ : Z.Warmed39 s.vm) {aty : ArrayType} {ty : FieldType} (hty : newarray.typeOf aty = ty) (w : (Cond.arrayClass ty).before a0 Z = true) (eT : T.heap = h) {n : Int32} (hd : decode c.code pc = .ok (.newarray aty, 2)) (hp : pc + 2 = pc') (hn : ¬ n < 0) (cap : Nat) (hcap : n.toNatClampNeg ≤ cap) (hb : cap * 8 ≤ 536870912) (hc : cells + 1 ≤ R.cells) (hl : slots + cap ≤ R.slots) (k : ∀ T' h' cA a, Stand p l e R s m args below meth c T' locs (cells + 1) (slots + cap) → T'.heap = h' → a = h.size → Ext h h' → Arr Z h' a (newA cA ty n) ty → Goes p e below K T' (mkF m pc' Ls (.ref a :: st))) : Goes p e below K T (mkF m pc Ls (.int n :: st)) := by
  subst hp hty
  obtain ⟨T1, h1, cA, X1, e1, E1, A1, f1⟩ := newP X hx hZ w eT (g := mkF m pc Ls (.int n :: st)) rfl hd rfl hn hcap hb hc hl
  exact Goes.by' f1 (k T1 h1 cA _ X1 e1 rfl E1 A1)
theorem g_newR (X : Stand p l e R s m args below meth c T locs cells slots) (hx : p.tables.exec = Jvm.exec) (hZ : Z.Warmed39 s.vm) {own C : String} {ix : Nat} (hown : s.vm.findClass own = some m.cls) (w1 : (Cond.classLink own ix C).before a0 Z = true) (w2 : (Cond.arrayOver (.object C)).before a0 Z = true) (eT : T.heap = h) {n : Int32} (hd : decode c.code pc = .ok (.anewarray ix, 3)) (hp : pc + 3 = pc') (hn : ¬ n < 0) (cap : Nat) (hcap : n.toNatClampNeg ≤ cap) (hb : cap * 8 ≤ 536870912) (hc : cells + 1 ≤ R.cells) (hl : slots + cap ≤ R.slots) (k : ∀ T' h' cA a, Stand p l e R s m args below meth c T' locs (cells + 1) (slots + cap) → T'.heap = h' → a = h.size → Ext h h' → Arr Z h' a (newA cA (.object C) n) (.object C) → Ovr Z cA C → Goes p e below K T' (mkF m pc' Ls (.ref a :: st))) : Goes p e below K T (mkF m pc Ls (.int n :: st)) := by
  subst hp
  obtain ⟨T1, h1, cA, X1, e1, E1, A1, O1, f1⟩ := newR X hx hZ hown w1 w2 eT (g := mkF m pc Ls (.int n :: st)) rfl hd rfl hn hcap hb hc hl
  exact Goes.by' f1 (k T1 h1 cA _ X1 e1 rfl E1 A1 O1)
theorem g_initO (X : Stand p l e R s m args below meth c T locs cells slots) (hx : p.tables.exec = Jvm.exec) (hZ : Z.Warmed39 s.vm) {own : String} {ix : Nat} {a : Addr} (hown : s.vm.findClass own = some m.cls) (w1 : (Cond.methodLink own ix Lib.objectInit).before a0 Z = true) (w2 : (Cond.instanceMethod Lib.objectInit).before a0 Z = true) (w3 : (Cond.code Lib.objectInit ⟨#[0xb1]⟩ 1 none).before a0 Z = true) (eT : T.heap = h) (hsz : Ls.size = c.maxLocals) (hd : decode c.code pc = .ok (.invokespecial ix, 3)) (hp : pc + 3 = pc') (hf : 1 ≤ R.frames) (hl : (st.map fun v => v.category).sum + 12 ≤ R.locals) (k : ∀ T', Stand p l e R s m args below meth c T' locs cells slots → T'.heap = h → Goes p e below K T' (mkF m pc' Ls st)) : Goes p e below K T (mkF m pc Ls (.ref a :: st)) := by
  subst hp
  obtain ⟨T1, X1, e1, f1⟩ := initO X hx hZ hown w1 w2 w3 eT (g := mkF m pc Ls (.ref a :: st)) rfl hsz rfl hd hf (W := (st.map fun v => v.category).sum) (by show 2 * 0 + _ ≤ _; omega) hl
  exact Goes.by' f1 (k T1 X1 e1)
theorem g_iaload (X : Stand p l e R s m args below meth c T locs cells slots) (hx : p.tables.exec = Jvm.exec) (hZ : Z.Warmed39 s.vm) (eT : T.heap = h) {a : Addr} {cl : Cell} {j : Int32} {v : Value} (A : Arr Z h a cl .int) (hin : ¬ (j < 0 ∨ cl.slots.size ≤ j.toNatClampNeg)) (hat : cl.slots[j.toNatClampNeg]? = some v) (hd : decode c.code pc = .ok (.iaload, 1)) (hp : pc + 1 = pc') (k : Goes p e below K T (mkF m pc' Ls (v :: st))) : Goes p e below K T (mkF m pc Ls (.int j :: .ref a :: st)) := by
  subst hp
  exact Goes.by' (fun _ q => X.iaload hx (j := j) (v := v) (by rw [eT]; exact A.1) (State.isArrayOf_alike hZ.alike A.2.1) A.2.2 hin hat (g := mkF m pc Ls (.int j :: .ref a :: st)) rfl rfl hd _ q) k
theorem g_laload (X : Stand p l e R s m args below meth c T locs cells slots) (hx : p.tables.exec = Jvm.exec) (hZ : Z.Warmed39 s.vm) (eT : T.heap = h) {a : Addr} {cl : Cell} {j : Int32} {v : Value} (A : Arr Z h a cl .long) (hin : ¬ (j < 0 ∨ cl.slots.size ≤ j.toNatClampNeg)) (hat : cl.slots[j.toNatClampNeg]? = some v) (hd : decode c.code pc = .ok (.laload, 1)) (hp : pc + 1 = pc') (k : Goes p e below K T (mkF m pc' Ls (v :: st))) : Goes p e below K T (mkF m pc Ls (.int j :: .ref a :: st)) := by
  subst hp
  exact Goes.by' (fun _ q => X.laload hx (j := j) (v := v) (by rw [eT]; exact A.1) (State.isArrayOf_alike hZ.alike A.2.1) A.2.2 hin hat (g := mkF m pc Ls (.int j :: .ref a :: st)) rfl rfl hd _ q) k
theorem g_caload (X : Stand p l e R s m args below meth c T locs cells slots) (hx : p.tables.exec = Jvm.exec) (hZ : Z.Warmed39 s.vm) (eT : T.heap = h) {a : Addr} {cl : Cell} {j : Int32} {v : Value} (A : Arr Z h a cl .char) (hin : ¬ (j < 0 ∨ cl.slots.size ≤ j.toNatClampNeg)) (hat : cl.slots[j.toNatClampNeg]? = some v) (hd : decode c.code pc = .ok (.caload, 1)) (hp : pc + 1 = pc') (k : Goes p e below K T (mkF m pc' Ls (v :: st))) : Goes p e below K T (mkF m pc Ls (.int j :: .ref a :: st)) := by
  subst hp
  exact Goes.by' (fun _ q => X.caload hx (j := j) (v := v) (by rw [eT]; exact A.1) (State.isArrayOf_alike hZ.alike A.2.1) A.2.2 hin hat (g := mkF m pc Ls (.int j :: .ref a :: st)) rfl rfl hd _ q) k
theorem g_baload (X : Stand p l e R s m args below meth c T locs cells slots) (hx : p.tables.exec = Jvm.exec) (hZ : Z.Warmed39 s.vm) (eT : T.heap = h) {a : Addr} {cl : Cell} {j : Int32} {v : Value} (A : Arr Z h a cl .byte) (hin : ¬ (j < 0 ∨ cl.slots.size ≤ j.toNatClampNeg)) (hat : cl.slots[j.toNatClampNeg]? = some v) (hd : decode c.code pc = .ok (.baload, 1)) (hp : pc + 1 = pc') (k : Goes p e below K T (mkF m pc' Ls (v :: st))) : Goes p e below K T (mkF m pc Ls (.int j :: .ref a :: st)) := by
  subst hp
  exact Goes.by' (fun _ q => X.baloadBytes hx (j := j) (v := v) (by rw [eT]; exact A.1) (State.isArrayOf_alike hZ.alike A.2.1) A.2.2 hin hat (g := mkF m pc Ls (.int j :: .ref a :: st)) rfl rfl hd _ q) k
theorem g_aaload (X : Stand p l e R s m args below meth c T locs cells slots) (hx : p.tables.exec = Jvm.exec) (hZ : Z.Warmed39 s.vm) (eT : T.heap = h) {a : Addr} {cl : Cell} {ty : FieldType} {j : Int32} {v : Value} (A : Arr Z h a cl ty) (hty : ty.isReference = true) (hin : ¬ (j < 0 ∨ cl.slots.size ≤ j.toNatClampNeg)) (hat : cl.slots[j.toNatClampNeg]? = some v) (hd : decode c.code pc = .ok (.aaload, 1)) (hp : pc + 1 = pc') (k : Goes p e below K T (mkF m pc' Ls (v :: st))) : Goes p e below K T (mkF m pc Ls (.int j :: .ref a :: st)) := by
  subst hp
  exact Goes.by' (fun _ q => X.aaload hx (j := j) (v := v) (by rw [eT]; exact A.1) (State.isArrayOf_alike hZ.alike A.2.1) hty A.2.2 hin hat (g := mkF m pc Ls (.int j :: .ref a :: st)) rfl rfl hd _ q) k
theorem g_arraylength (X : Stand p l e R s m args below meth c T locs cells slots) (hx : p.tables.exec = Jvm.exec) (hZ : Z.Warmed39 s.vm) (eT : T.heap = h) {a : Addr} {cl : Cell} {ty : FieldType} {n : Int32} (A : Arr Z h a cl ty) (hn : cl.slots.size.toInt32 = n) (hd : decode c.code pc = .ok (.arraylength, 1)) (hp : pc + 1 = pc') (k : Goes p e below K T (mkF m pc' Ls (.int n :: st))) : Goes p e below K T (mkF m pc Ls (.ref a :: st)) := by
  subst hp hn
  exact Goes.by' (fun _ q => X.arraylength hx (by rw [eT]; exact A.1) (State.isArrayOf_alike hZ.alike A.2.1) (g := mkF m pc Ls (.ref a :: st)) rfl rfl hd _ q) k
theorem g_iastore (X : Stand p l e R s m args below meth c T locs cells slots) (hx : p.tables.exec = Jvm.exec) (hZ : Z.Warmed39 s.vm) (eT : T.heap = h) {a : Addr} {cl : Cell} {j : Int32} {x : Int32} (A : Arr Z h a cl .int) (hin : ¬ (j < 0 ∨ cl.slots.size ≤ j.toNatClampNeg)) (hd : decode c.code pc = .ok (.iastore, 1)) (hp : pc + 1 = pc') (k : ∀ T' h', Stand p l e R s m args below meth c T' (locs ++ [⟨a, j.toNatClampNeg⟩]) cells slots → T'.heap = h' → Wr h h' a j.toNatClampNeg (.int x) → Goes p e below K T' (mkF m pc' Ls st)) : Goes p e below K T (mkF m pc Ls (.int x :: .int j :: .ref a :: st)) := by
  subst hp
  obtain ⟨T1, h1, X1, e1, W1, f1⟩ := stI X hx hZ eT A hin (g := mkF m pc Ls (.int x :: .int j :: .ref a :: st)) rfl rfl hd
  exact Goes.by' f1 (k T1 h1 X1 e1 W1)
theorem g_lastore (X : Stand p l e R s m args below meth c T locs cells slots) (hx : p.tables.exec = Jvm.exec) (hZ : Z.Warmed39 s.vm) (eT : T.heap = h) {a : Addr} {cl : Cell} {j : Int32} {x : Int64} (A : Arr Z h a cl .long) (hin : ¬ (j < 0 ∨ cl.slots.size ≤ j.toNatClampNeg)) (hd : decode c.code pc = .ok (.lastore, 1)) (hp : pc + 1 = pc') (k : ∀ T' h', Stand p l e R s m args below meth c T' (locs ++ [⟨a, j.toNatClampNeg⟩]) cells slots → T'.heap = h' → Wr h h' a j.toNatClampNeg (.long x) → Goes p e below K T' (mkF m pc' Ls st)) : Goes p e below K T (mkF m pc Ls (.long x :: .int j :: .ref a :: st)) := by
  subst hp
  obtain ⟨T1, h1, X1, e1, W1, f1⟩ := stJ X hx hZ eT A hin (g := mkF m pc Ls (.long x :: .int j :: .ref a :: st)) rfl rfl hd
  exact Goes.by' f1 (k T1 h1 X1 e1 W1)
theorem g_castore (X : Stand p l e R s m args below meth c T locs cells slots) (hx : p.tables.exec = Jvm.exec) (hZ : Z.Warmed39 s.vm) (eT : T.heap = h) {a : Addr} {cl : Cell} {j : Int32} {x : Int32} (A : Arr Z h a cl .char) (hin : ¬ (j < 0 ∨ cl.slots.size ≤ j.toNatClampNeg)) (hd : decode c.code pc = .ok (.castore, 1)) (hp : pc + 1 = pc') (k : ∀ T' h', Stand p l e R s m args below meth c T' (locs ++ [⟨a, j.toNatClampNeg⟩]) cells slots → T'.heap = h' → Wr h h' a j.toNatClampNeg (.int (nar .char x)) → Goes p e below K T' (mkF m pc' Ls st)) : Goes p e below K T (mkF m pc Ls (.int x :: .int j :: .ref a :: st)) := by
  subst hp
  obtain ⟨T1, h1, X1, e1, W1, f1⟩ := stC X hx hZ eT A hin (g := mkF m pc Ls (.int x :: .int j :: .ref a :: st)) rfl rfl hd
  exact Goes.by' f1 (k T1 h1 X1 e1 W1)
theorem g_bastore (X : Stand p l e R s m args below meth c T locs cells slots) (hx : p.tables.exec = Jvm.exec) (hZ : Z.Warmed39 s.vm) (eT : T.heap = h) {a : Addr} {cl : Cell} {j : Int32} {x : Int32} (A : Arr Z h a cl .byte) (hin : ¬ (j < 0 ∨ cl.slots.size ≤ j.toNatClampNeg)) (hd : decode c.code pc = .ok (.bastore, 1)) (hp : pc + 1 = pc') (k : ∀ T' h', Stand p l e R s m args below meth c T' (locs ++ [⟨a, j.toNatClampNeg⟩]) cells slots → T'.heap = h' → Wr h h' a j.toNatClampNeg (.int (nar .byte x)) → Goes p e below K T' (mkF m pc' Ls st)) : Goes p e below K T (mkF m pc Ls (.int x :: .int j :: .ref a :: st)) := by
  subst hp
  obtain ⟨T1, h1, X1, e1, W1, f1⟩ := stB X hx hZ eT A hin (g := mkF m pc Ls (.int x :: .int j :: .ref a :: st)) rfl rfl hd
  exact Goes.by' f1 (k T1 h1 X1 e1 W1)
theorem g_aastore (X : Stand p l e R s m args below meth c T locs cells slots) (hx : p.tables.exec = Jvm.exec) (hZ : Z.Warmed39 s.vm) (eT : T.heap = h) {a : Addr} {cl : Cell} {ty : FieldType} {j : Int32} {v : Value} (A : Arr Z h a cl ty) (hty : ty.isReference = true) (F : Sto Z h a v) (hin : ¬ (j < 0 ∨ cl.slots.size ≤ j.toNatClampNeg)) (hd : decode c.code pc = .ok (.aastore, 1)) (hp : pc + 1 = pc') (k : ∀ T' h', Stand p l e R s m args below meth c T' (locs ++ [⟨a, j.toNatClampNeg⟩]) cells slots → T'.heap = h' → Wr h h' a j.toNatClampNeg v → Goes p e below K T' (mkF m pc' Ls st)) : Goes p e below K T (mkF m pc Ls (v :: .int j :: .ref a :: st)) := by
  subst hp
  obtain ⟨T1, h1, X1, e1, W1, f1⟩ := stR X hx hZ eT A hin hty F (g := mkF m pc Ls (v :: .int j :: .ref a :: st)) rfl rfl hd
  exact Goes.by' f1 (k T1 h1 X1 e1 W1)
theorem g_callS (X : Stand p l e R s m args below meth c T locs cells slots) (hx : p.tables.exec = Jvm.exec) (hZ : Z.Warmed39 s.vm) {own : String} {ix : Nat} {y : MethodName} {bytes : ByteArray} {maxL : Nat} {ret : Option FieldType} {rm : Room} {as' : Array Value} {Q : Option Value → Heap → List Loc → Prop} (hown : s.vm.findClass own = some m.cls) (w1 : (Cond.methodLink own ix y).before a0 Z = true) (w2 : (Cond.static y).before a0 Z = true) (w3 : (Cond.initialized y.cls).before a0 Z = true) (w4 : (Cond.code y bytes maxL ret).before a0 Z = true) (hy : y.cls ≠ "java/lang/invoke/MethodHandle" ∧ y.cls ≠ "java/lang/invoke/VarHandle") (eT : T.heap = h) (C : Ctr l Z y bytes maxL ret [] rm rm.cells rm.slots as' h Q) (hsz : Ls.size = c.maxLocals) (argsL rest : List Value) (has : argsL.toArray = as') (hlen : ∀ sig, parseMethodDescriptor y.desc = some sig → argsL.length = sig.parameters.length) (hst : st = argsL.reverse ++ rest) (hl : (rest.map fun v => v.category).sum + (maxL + 11) + rm.locals ≤ R.locals) (hf : rm.frames + 1 ≤ R.frames) (hc : cells + rm.cells ≤ R.cells) (hsl : slots + rm.slots ≤ R.slots) (hd : decode c.code pc = .ok (.invokestatic ix, 3)) (hp : pc + 3 = pc') (k : ∀ T' v L, Stand p l e R s m args below meth c T' (locs ++ L) (cells + rm.cells) (slots + rm.slots) → Q v T'.heap L → Goes p e below K T' (mkF m pc' Ls (v.toList ++ rest))) : Goes p e below K T (mkF m pc Ls st) := by
  subst hp
  obtain ⟨v, _, ⟨T1, L1, k1, n1⟩, -, X1, ⟨L, hQ, l1, y1, z1⟩, f1⟩ := Jvm.LawKit.callS X hx (y := y) hown (mvT hZ w1) (mvT hZ w2) (mvT hZ w3) (mvT hZ w4) hy (backOf (W := (rest.map fun v => v.category).sum) C hZ w4 w3 hf hl) (g := mkF m pc Ls st) rfl hsz (argsL := argsL) (rest := rest) hlen hst (by show 2 * 0 + _ ≤ _; omega) hd (fun _ _ => ⟨has, eT, hc, hsl⟩)
  dsimp only [Pt.U, Pt.locs, Pt.cells, Pt.slots] at X1 l1 y1 z1 f1 hQ
  subst l1 y1 z1
  exact Goes.by' f1 (k T1 v L X1 hQ)
theorem g_callI (X : Stand p l e R s m args below meth c T locs cells slots) (hx : p.tables.exec = Jvm.exec) (hZ : Z.Warmed39 s.vm) {own : String} {ix : Nat} {y : MethodName} {bytes : ByteArray} {maxL : Nat} {rm : Room} {as' : Array Value} {Q : Option Value → Heap → List Loc → Prop} (hy1 : y.name = "<init>") (hown : s.vm.findClass own = some m.cls) (w1 : (Cond.methodLink own ix y).before a0 Z = true) (w2 : (Cond.instanceMethod y).before a0 Z = true) (w3 : (Cond.initialized y.cls).before a0 Z = true) (w4 : (Cond.code y bytes maxL none).before a0 Z = true) (hy : y.cls ≠ "java/lang/invoke/MethodHandle" ∧ y.cls ≠ "java/lang/invoke/VarHandle") (eT : T.heap = h) (C : Ctr l Z y bytes maxL none [] rm rm.cells rm.slots as' h Q) (hsz : Ls.size = c.maxLocals) (a : Addr) (argsL rest : List Value) (has : (.ref a :: argsL).toArray = as') (hlen : ∀ sig, parseMethodDescriptor y.desc = some sig → argsL.length = sig.parameters.length) (hst : st = argsL.reverse ++ .ref a :: rest) (hl : (rest.map fun v => v.category).sum + (maxL + 11) + rm.locals ≤ R.locals) (hf : rm.frames + 1 ≤ R.frames) (hc : cells + rm.cells ≤ R.cells) (hsl : slots + rm.slots ≤ R.slots) (hd : decode c.code pc = .ok (.invokespecial ix, 3)) (hp : pc + 3 = pc') (k : ∀ T' v L, Stand p l e R s m args below meth c T' (locs ++ L) (cells + rm.cells) (slots + rm.slots) → Q v T'.heap L → Goes p e below K T' (mkF m pc' Ls (v.toList ++ rest))) : Goes p e below K T (mkF m pc Ls st) := by
  subst hp
  obtain ⟨v, _, ⟨T1, L1, k1, n1⟩, -, X1, ⟨L, hQ, l1, y1, z1⟩, f1⟩ := X.specialBack hx (y := y) hy1 hown (mvT hZ w1) (mvT hZ w2) (mvT hZ w4) hy (backOf (W := (rest.map fun v => v.category).sum) C hZ w4 w3 hf hl) (g := mkF m pc Ls st) rfl hsz (Steps.refl _) (a := a) (argsL := argsL) (rest := rest) hlen hst (by show 2 * 0 + _ ≤ _; omega) hd (fun _ _ => ⟨has, eT, hc, hsl⟩)
  dsimp only [Pt.U, Pt.locs, Pt.cells, Pt.slots] at X1 l1 y1 z1 f1 hQ
  subst l1 y1 z1
  exact Goes.by' (fun _ q => f1.trans q) (k T1 v L X1 hQ)
theorem g_callV (X : Stand p l e R s m args below meth c T locs cells slots) (hx : p.tables.exec = Jvm.exec) (hZ : Z.Warmed39 s.vm) {own : String} {ix : Nat} {y : MethodName} {bytes : ByteArray} {maxL : Nat} {ret : Option FieldType} {rm : Room} {as' : Array Value} {Q : Option Value → Heap → List Loc → Prop} {C0 : String} (hown : s.vm.findClass own = some m.cls) (w1 : (Cond.methodLink own ix y).before a0 Z = true) (w2 : (Cond.declares y).before a0 Z = true) (w5 : (Cond.selects C0 y y).before a0 Z = true) (w6 : (Cond.instanceMethod y).before a0 Z = true) (w3 : (Cond.initialized y.cls).before a0 Z = true) (w4 : (Cond.code y bytes maxL ret).before a0 Z = true) (hy : y.cls ≠ "java/lang/invoke/MethodHandle" ∧ y.cls ≠ "java/lang/invoke/VarHandle") (eT : T.heap = h) (a : Addr) (E : Exa Z h a C0) (C : Ctr l Z y bytes maxL ret [] rm rm.cells rm.slots as' h Q) (hsz : Ls.size = c.maxLocals) (argsL rest : List Value) (has : (.ref a :: argsL).toArray = as') (hlen : ∀ sig, parseMethodDescriptor y.desc = some sig → argsL.length = sig.parameters.length) (hst : st = argsL.reverse ++ .ref a :: rest) (hl : (rest.map fun v => v.category).sum + (maxL + 11) + rm.locals ≤ R.locals) (hf : rm.frames + 1 ≤ R.frames) (hc : cells + rm.cells ≤ R.cells) (hsl : slots + rm.slots ≤ R.slots) (hd : decode c.code pc = .ok (.invokevirtual ix, 3)) (hp : pc + 3 = pc') (k : ∀ T' v L, Stand p l e R s m args below meth c T' (locs ++ L) (cells + rm.cells) (slots + rm.slots) → Q v T'.heap L → Goes p e below K T' (mkF m pc' Ls (v.toList ++ rest))) : Goes p e below K T (mkF m pc Ls st) := by
  subst hp
  obtain ⟨cq, kq, qa, qb, qc⟩ := isOf hZ eT E
  obtain ⟨v, _, ⟨T1, L1, k1, n1⟩, -, X1, ⟨L, hQ, l1, y1, z1⟩, f1⟩ := X.virtualBack hx (y := y) (z := y) hown (mvT hZ w1) (mvT hZ w2) (notFace_of_selects (args := #[]) (mvT hZ w5)) (mvT hZ w5) (mvT hZ w6) hy (backOf (W := (rest.map fun v => v.category).sum) C hZ w4 w3 hf hl) qa qc (g := mkF m pc Ls st) rfl hsz (Steps.refl _) (argsL := argsL) (rest := rest) hlen hst (by show 2 * 0 + _ ≤ _; omega) hd (fun _ _ => ⟨has, eT, hc, hsl⟩)
  dsimp only [Pt.U, Pt.locs, Pt.cells, Pt.slots] at X1 l1 y1 z1 f1 hQ
  subst l1 y1 z1
  exact Goes.by' (fun _ q => f1.trans q) (k T1 v L X1 hQ)
theorem g_callP (X : Stand p l e R s m args below meth c T locs cells slots) (hx : p.tables.exec = Jvm.exec) (hZ : Z.Warmed39 s.vm) {own : String} {ix : Nat} {y : MethodName} {bytes : ByteArray} {maxL : Nat} {ret : Option FieldType} {rm : Room} {as' : Array Value} {Q : Option Value → Heap → List Loc → Prop} {kk : Nat} {C0 : String} (hown : s.vm.findClass own = some m.cls) (w1 : (Cond.methodLink own ix y).before a0 Z = true) (wi : (Cond.instantiable y.cls kk).before a0 Z = true) (wp : (Cond.privateMethod y).before a0 Z = true) (w6 : (Cond.instanceMethod y).before a0 Z = true) (w3 : (Cond.initialized y.cls).before a0 Z = true) (w4 : (Cond.code y bytes maxL ret).before a0 Z = true) (hy : y.cls ≠ "java/lang/invoke/MethodHandle" ∧ y.cls ≠ "java/lang/invoke/VarHandle") (eT : T.heap = h) (a : Addr) (E : Exa Z h a C0) (C : Ctr l Z y bytes maxL ret [] rm rm.cells rm.slots as' h Q) (hsz : Ls.size = c.maxLocals) (argsL rest : List Value) (has : (.ref a :: argsL).toArray = as') (hlen : ∀ sig, parseMethodDescriptor y.desc = some sig → argsL.length = sig.parameters.length) (hst : st = argsL.reverse ++ .ref a :: rest) (hl : (rest.map fun v => v.category).sum + (maxL + 11) + rm.locals ≤ R.locals) (hf : rm.frames + 1 ≤ R.frames) (hc : cells + rm.cells ≤ R.cells) (hsl : slots + rm.slots ≤ R.slots) (hd : decode c.code pc = .ok (.invokevirtual ix, 3)) (hp : pc + 3 = pc') (k : ∀ T' v L, Stand p l e R s m args below meth c T' (locs ++ L) (cells + rm.cells) (slots + rm.slots) → Q v T'.heap L → Goes p e below K T' (mkF m pc' Ls (v.toList ++ rest))) : Goes p e below K T (mkF m pc Ls st) := by
  subst hp
  obtain ⟨cell, hcell, hobj⟩ := E.cell
  have wi' : (Cond.instantiable y.cls kk).before args s = true := mvT hZ wi
  obtain ⟨c1, k1, i1, i2, i3, i4, -⟩ := Cond.instantiable_spec wi'
  have hni : k1.isInterface = false := by revert i4; cases k1.isInterface <;> simp
  have hpv : s.PrivateAt y := Cond.privateMethod_at (mvP hZ wp (args := #[]))
  have hsel : (Cond.selects y.cls y y).before args s = true := Jvm.Stand.selects_self_of_private i1 i2 hni hpv (mvT hZ w6) hy
  obtain ⟨v, _, ⟨T1, L1, k1, n1⟩, -, X1, ⟨L, hQ, l1, y1, z1⟩, f1⟩ := X.privateBack hx (y := y) hown (mvT hZ w1) (mvT hZ w6) hsel hpv (mvT hZ w4) hy (backOf (W := (rest.map fun v => v.category).sum) C hZ w4 w3 hf hl) (g := mkF m pc Ls st) rfl hsz (Steps.refl _) (a := a) (by rw [eT]; exact hcell) hobj (argsL := argsL) (rest := rest) hlen hst (by show 2 * 0 + _ ≤ _; omega) hd (fun _ _ => ⟨has, eT, hc, hsl⟩)
  dsimp only [Pt.U, Pt.locs, Pt.cells, Pt.slots] at X1 l1 y1 z1 f1 hQ
  subst l1 y1 z1
  exact Goes.by' (fun _ q => f1.trans q) (k T1 v L X1 hQ)
theorem g_retI (X : Stand p l e R s m args below meth c T locs cells slots) (hx : p.tables.exec = Jvm.exec) {C S : Nat} {Q : Option Value → Heap → List Loc → Prop} {z : Int32} (hlk : meth.locks = false) (hret : meth.sig.returnType = some .int) (eT : T.heap = h) (hc : cells ≤ C) (hs : slots ≤ S) (hd : decode c.code pc = .ok (.ireturn, 1)) (hQ : Q (some (.int z)) h locs) : Goes p e below (KQ s C S Q) T (mkF m pc Ls (.int z :: st)) := by
  obtain ⟨fs, hr, hrun, hended, hW, hsame⟩ := X.leave (v := some (.int z)) (fun q => by rw [hret] at q; cases q) hlk
  exact ⟨_, _, retOut X hx hret rfl (Or.inl ⟨rfl, Or.inl rfl, _, rfl⟩) hd hr, hrun, hended, _, _, rfl, by subst eT; exact hQ, ⟨_, rfl⟩, hW, hsame.mono hc hs⟩
theorem g_retJ (X : Stand p l e R s m args below meth c T locs cells slots) (hx : p.tables.exec = Jvm.exec) {C S : Nat} {Q : Option Value → Heap → List Loc → Prop} {z : Int64} (hlk : meth.locks = false) (hret : meth.sig.returnType = some .long) (eT : T.heap = h) (hc : cells ≤ C) (hs : slots ≤ S) (hd : decode c.code pc = .ok (.lreturn, 1)) (hQ : Q (some (.long z)) h locs) : Goes p e below (KQ s C S Q) T (mkF m pc Ls (.long z :: st)) := by
  obtain ⟨fs, hr, hrun, hended, hW, hsame⟩ := X.leave (v := some (.long z)) (fun q => by rw [hret] at q; cases q) hlk
  exact ⟨_, _, retOut X hx hret rfl (Or.inr (Or.inl ⟨rfl, rfl, _, rfl⟩)) hd hr, hrun, hended, _, _, rfl, by subst eT; exact hQ, ⟨_, rfl⟩, hW, hsame.mono hc hs⟩
theorem g_retN (X : Stand p l e R s m args below meth c T locs cells slots) (hx : p.tables.exec = Jvm.exec) {C S : Nat} {Q : Option Value → Heap → List Loc → Prop} {z : Int32} {t : FieldType} (ht : t = .boolean ∨ t = .byte ∨ t = .char ∨ t = .short) (hlk : meth.locks = false) (hret : meth.sig.returnType = some t) (eT : T.heap = h) (hc : cells ≤ C) (hs : slots ≤ S) (hd : decode c.code pc = .ok (.ireturn, 1)) (hQ : Q (some (.int (nar t z))) h locs) : Goes p e below (KQ s C S Q) T (mkF m pc Ls (.int z :: st)) := by
  obtain ⟨fs, hr, hrun, hended, hW, hsame⟩ := X.leave (v := some (.int (nar t z))) (fun q => by rw [hret] at q; cases q) hlk
  exact ⟨_, _, retN X hx hret ht hd hr, hrun, hended, _, _, rfl, by subst eT; exact hQ, ⟨_, rfl⟩, hW, hsame.mono hc hs⟩
theorem g_retA (X : Stand p l e R s m args below meth c T locs cells slots) (hx : p.tables.exec = Jvm.exec) {C S : Nat} {Q : Option Value → Heap → List Loc → Prop} {v : Value} {t : FieldType} (hv : v.isRef = true) (ht : t.isReference = true) (hlk : meth.locks = false) (hret : meth.sig.returnType = some t) (eT : T.heap = h) (hc : cells ≤ C) (hs : slots ≤ S) (hd : decode c.code pc = .ok (.areturn, 1)) (hQ : Q (some v) h locs) : Goes p e below (KQ s C S Q) T (mkF m pc Ls (v :: st)) := by
  obtain ⟨fs, hr, hrun, hended, hW, hsame⟩ := X.leave (v := some v) (fun q => by rw [hret] at q; cases q) hlk
  have hn : narrow t v = v := by cases v <;> simp [Value.isRef] at hv <;> cases t <;> simp [FieldType.isReference] at ht <;> rfl
  exact ⟨_, _, retOut X hx hret hn (Or.inr (Or.inr (Or.inr (Or.inr ⟨rfl, ht, hv⟩)))) hd hr, hrun, hended, _, _, rfl, by subst eT; exact hQ, ⟨_, rfl⟩, hW, hsame.mono hc hs⟩
theorem g_ret (X : Stand p l e R s m args below meth c T locs cells slots) (hx : p.tables.exec = Jvm.exec) {C S : Nat} {Q : Option Value → Heap → List Loc → Prop} (hlk : meth.locks = false) (hret : meth.sig.returnType = none) (eT : T.heap = h) (hc : cells ≤ C) (hs : slots ≤ S) (hd : decode c.code pc = .ok (.return_, 1)) (hQ : Q none h locs) : Goes p e below (KQ s C S Q) T (mkF m pc Ls []) := by
  obtain ⟨fs, hr, hrun, hended, hW, hsame⟩ := X.leave (v := none) (fun _ => rfl) hlk
  exact ⟨_, _, X.returnOut hx hret hd hr, hrun, hended, _, _, rfl, by subst eT; exact hQ, ⟨_, rfl⟩, hW, hsame.mono hc hs⟩
end OwnGo
def ArI (Z : State) (h : Heap) (b : Addr) (ty : FieldType) (n : Nat) (f : Nat → Int32) : Prop := ∃ cl, Arr Z h b cl ty ∧ cl.slots.size = n ∧ ∀ j, j < n → cl.slots[j]? = some (.int (f j))
section ArSI
variable {Z : State} {h h' : Heap} {a b : Addr} {ty : FieldType} {n sl : Nat} {f : Nat → Int32} {v : Value} {ws : List Addr}
theorem ArI.new {cA : ClassId} {z : Int32} (A : Arr Z h a (newA cA ty z) ty) (x : Int32) (hd : defaultValue ty = .int x) : ArI Z h a ty z.toNatClampNeg (fun _ => x) := ⟨_, A, sz_new _ _ _, fun j hj => by simp only [newA, ← hd]; rw [Array.getElem?_replicate, if_pos hj]⟩
theorem ArI.lt (F : ArI Z h b ty n f) : b < h.size := by obtain ⟨c, A, -⟩ := F; exact A.lt
theorem ArI.ext (F : ArI Z h b ty n f) (E : Ext h h') : ArI Z h' b ty n f := by obtain ⟨c, A, r⟩ := F; exact ⟨c, A.ext E, r⟩
theorem ArI.other (F : ArI Z h b ty n f) (W : Wr h h' a sl v) (q : b ≠ a) : ArI Z h' b ty n f := by obtain ⟨c, A, r⟩ := F; exact ⟨c, A.other W q, r⟩
theorem ArI.keep (F : ArI Z h b ty n f) (K : Keep h h' ws) (q : b ∉ ws) : ArI Z h' b ty n f := by obtain ⟨c, A, r⟩ := F; exact ⟨c, ⟨K.2.1 b c A.1 q, A.2⟩, r⟩
theorem ArI.set {x : Int32} (F : ArI Z h b ty n f) (W : Wr h h' b sl (.int (x))) : ArI Z h' b ty n (fun k => if k = sl then x else f k) := by
  obtain ⟨c, A, hs, H⟩ := F
  refine ⟨_, A.same W, by rw [sz_set]; exact hs, fun j hj => ?_⟩
  by_cases e : j = sl
  · subst e; simp only [Cell.setSlot, if_true]; rw [Array.getElem?_setIfInBounds_self_of_lt (by rw [hs]; exact hj)]
  · simp only [Cell.setSlot]; rw [Array.getElem?_setIfInBounds_ne (Ne.symm e), if_neg e]; exact H j hj
theorem ArI.inb {j : Int32} {c : Cell} (hs : c.slots.size = n) (h0 : ¬ j < 0) (h1 : j.toNatClampNeg < n) : ¬ (j < 0 ∨ c.slots.size ≤ j.toNatClampNeg) := by rw [hs]; rintro (q | q); exact h0 q; omega
end ArSI
section ArGI
variable {p : Program} {l : Launch} {e : Env} {R : Room} {s : State} {m : MethodId} {args : Array Value} {below : List Frame} {meth : Method} {c : Code} {T : State} {locs : List Loc} {cells slots : Nat} {Z : State} {a0 : Array Value} {h : Heap} {K : Outcome → State → Prop} {pc pc' : Nat} {Ls : Array Slot} {st : List Value}
theorem g_iaload' (X : Stand p l e R s m args below meth c T locs cells slots) (hx : p.tables.exec = Jvm.exec) (hZ : Z.Warmed39 s.vm) (eT : T.heap = h) {b : Addr} {n : Nat} {f : Nat → Int32} {j : Int32} {x : Int32} (A : ArI Z h b .int n f) (h0 : ¬ j < 0) (h1 : j.toNatClampNeg < n) (hv : f j.toNatClampNeg = x) (hd : decode c.code pc = .ok (.iaload, 1)) (hp : pc + 1 = pc') (k : Goes p e below K T (mkF m pc' Ls (.int (x) :: st))) : Goes p e below K T (mkF m pc Ls (.int j :: .ref b :: st)) := by
  obtain ⟨cl, A, hs, H⟩ := A
  exact g_iaload X hx hZ eT A (ArI.inb hs h0 h1) (by rw [H _ h1, hv]) hd hp k
theorem g_caload' (X : Stand p l e R s m args below meth c T locs cells slots) (hx : p.tables.exec = Jvm.exec) (hZ : Z.Warmed39 s.vm) (eT : T.heap = h) {b : Addr} {n : Nat} {f : Nat → Int32} {j : Int32} {x : Int32} (A : ArI Z h b .char n f) (h0 : ¬ j < 0) (h1 : j.toNatClampNeg < n) (hv : f j.toNatClampNeg = x) (hd : decode c.code pc = .ok (.caload, 1)) (hp : pc + 1 = pc') (k : Goes p e below K T (mkF m pc' Ls (.int (x) :: st))) : Goes p e below K T (mkF m pc Ls (.int j :: .ref b :: st)) := by
  obtain ⟨cl, A, hs, H⟩ := A
  exact g_caload X hx hZ eT A (ArI.inb hs h0 h1) (by rw [H _ h1, hv]) hd hp k
theorem g_baload' (X : Stand p l e R s m args below meth c T locs cells slots) (hx : p.tables.exec = Jvm.exec) (hZ : Z.Warmed39 s.vm) (eT : T.heap = h) {b : Addr} {n : Nat} {f : Nat → Int32} {j : Int32} {x : Int32} (A : ArI Z h b .byte n f) (h0 : ¬ j < 0) (h1 : j.toNatClampNeg < n) (hv : f j.toNatClampNeg = x) (hd : decode c.code pc = .ok (.baload, 1)) (hp : pc + 1 = pc') (k : Goes p e below K T (mkF m pc' Ls (.int (x) :: st))) : Goes p e below K T (mkF m pc Ls (.int j :: .ref b :: st)) := by
  obtain ⟨cl, A, hs, H⟩ := A
  exact g_baload X hx hZ eT A (ArI.inb hs h0 h1) (by rw [H _ h1, hv]) hd hp k
theorem g_arraylengthI (X : Stand p l e R s m args below meth c T locs cells slots) (hx : p.tables.exec = Jvm.exec) (hZ : Z.Warmed39 s.vm) (eT : T.heap = h) {b : Addr} {n : Nat} {f : Nat → Int32} {ty : FieldType} {z : Int32} (A : ArI Z h b ty n f) (hz : n.toInt32 = z) (hd : decode c.code pc = .ok (.arraylength, 1)) (hp : pc + 1 = pc') (k : Goes p e below K T (mkF m pc' Ls (.int z :: st))) : Goes p e below K T (mkF m pc Ls (.ref b :: st)) := by
  obtain ⟨cl, A, hs, H⟩ := A
  exact g_arraylength X hx hZ eT A (by rw [hs, hz]) hd hp k
theorem g_iastore' (X : Stand p l e R s m args below meth c T locs cells slots) (hx : p.tables.exec = Jvm.exec) (hZ : Z.Warmed39 s.vm) (eT : T.heap = h) {b : Addr} {n : Nat} {f : Nat → Int32} {j : Int32} {x : Int32} (A : ArI Z h b .int n f) (h0 : ¬ j < 0) (h1 : j.toNatClampNeg < n) (hd : decode c.code pc = .ok (.iastore, 1)) (hp : pc + 1 = pc') (k : ∀ T' h', Stand p l e R s m args below meth c T' (locs ++ [⟨b, j.toNatClampNeg⟩]) cells slots → T'.heap = h' → Wr h h' b j.toNatClampNeg (.int (x)) → ArI Z h' b .int n (fun k => if k = j.toNatClampNeg then x else f k) → Goes p e below K T' (mkF m pc' Ls st)) : Goes p e below K T (mkF m pc Ls (.int (x) :: .int j :: .ref b :: st)) := by
  have A' := A
  obtain ⟨cl, A, hs, H⟩ := A
  exact g_iastore X hx hZ eT A (ArI.inb hs h0 h1) hd hp (fun T' h' X' e' W' => k T' h' X' e' W' (A'.set W'))
theorem g_castore' (X : Stand p l e R s m args below meth c T locs cells slots) (hx : p.tables.exec = Jvm.exec) (hZ : Z.Warmed39 s.vm) (eT : T.heap = h) {b : Addr} {n : Nat} {f : Nat → Int32} {j : Int32} {x : Int32} (A : ArI Z h b .char n f) (h0 : ¬ j < 0) (h1 : j.toNatClampNeg < n) (hd : decode c.code pc = .ok (.castore, 1)) (hp : pc + 1 = pc') (k : ∀ T' h', Stand p l e R s m args below meth c T' (locs ++ [⟨b, j.toNatClampNeg⟩]) cells slots → T'.heap = h' → Wr h h' b j.toNatClampNeg (.int (nar .char x)) → ArI Z h' b .char n (fun k => if k = j.toNatClampNeg then nar .char x else f k) → Goes p e below K T' (mkF m pc' Ls st)) : Goes p e below K T (mkF m pc Ls (.int (x) :: .int j :: .ref b :: st)) := by
  have A' := A
  obtain ⟨cl, A, hs, H⟩ := A
  exact g_castore X hx hZ eT A (ArI.inb hs h0 h1) hd hp (fun T' h' X' e' W' => k T' h' X' e' W' (A'.set W'))
theorem g_bastore' (X : Stand p l e R s m args below meth c T locs cells slots) (hx : p.tables.exec = Jvm.exec) (hZ : Z.Warmed39 s.vm) (eT : T.heap = h) {b : Addr} {n : Nat} {f : Nat → Int32} {j : Int32} {x : Int32} (A : ArI Z h b .byte n f) (h0 : ¬ j < 0) (h1 : j.toNatClampNeg < n) (hd : decode c.code pc = .ok (.bastore, 1)) (hp : pc + 1 = pc') (k : ∀ T' h', Stand p l e R s m args below meth c T' (locs ++ [⟨b, j.toNatClampNeg⟩]) cells slots → T'.heap = h' → Wr h h' b j.toNatClampNeg (.int (nar .byte x)) → ArI Z h' b .byte n (fun k => if k = j.toNatClampNeg then nar .byte x else f k) → Goes p e below K T' (mkF m pc' Ls st)) : Goes p e below K T (mkF m pc Ls (.int (x) :: .int j :: .ref b :: st)) := by
  have A' := A
  obtain ⟨cl, A, hs, H⟩ := A
  exact g_bastore X hx hZ eT A (ArI.inb hs h0 h1) hd hp (fun T' h' X' e' W' => k T' h' X' e' W' (A'.set W'))
theorem g_iastoreN (X : Stand p l e R s m args below meth c T locs cells slots) (hx : p.tables.exec = Jvm.exec) (hZ : Z.Warmed39 s.vm) (eT : T.heap = h) {b : Addr} {n : Nat} {f : Nat → Int32} {j : Int32} {x : Int32} (A : ArI Z h b .int n f) (jn : Nat) (hj : j.toNatClampNeg = jn) (h0 : ¬ j < 0) (h1 : jn < n) (hd : decode c.code pc = .ok (.iastore, 1)) (hp : pc + 1 = pc') (k : ∀ T' h', Stand p l e R s m args below meth c T' (locs ++ [⟨b, jn⟩]) cells slots → T'.heap = h' → Wr h h' b jn (.int (x)) → ArI Z h' b .int n (fun k => if k = jn then x else f k) → Goes p e below K T' (mkF m pc' Ls st)) : Goes p e below K T (mkF m pc Ls (.int (x) :: .int j :: .ref b :: st)) := by
  subst hj
  exact g_iastore' X hx hZ eT A h0 h1 hd hp k
theorem g_castoreN (X : Stand p l e R s m args below meth c T locs cells slots) (hx : p.tables.exec = Jvm.exec) (hZ : Z.Warmed39 s.vm) (eT : T.heap = h) {b : Addr} {n : Nat} {f : Nat → Int32} {j : Int32} {x : Int32} (A : ArI Z h b .char n f) (jn : Nat) (hj : j.toNatClampNeg = jn) (h0 : ¬ j < 0) (h1 : jn < n) (hd : decode c.code pc = .ok (.castore, 1)) (hp : pc + 1 = pc') (k : ∀ T' h', Stand p l e R s m args below meth c T' (locs ++ [⟨b, jn⟩]) cells slots → T'.heap = h' → Wr h h' b jn (.int (nar .char x)) → ArI Z h' b .char n (fun k => if k = jn then nar .char x else f k) → Goes p e below K T' (mkF m pc' Ls st)) : Goes p e below K T (mkF m pc Ls (.int (x) :: .int j :: .ref b :: st)) := by
  subst hj
  exact g_castore' X hx hZ eT A h0 h1 hd hp k
theorem g_bastoreN (X : Stand p l e R s m args below meth c T locs cells slots) (hx : p.tables.exec = Jvm.exec) (hZ : Z.Warmed39 s.vm) (eT : T.heap = h) {b : Addr} {n : Nat} {f : Nat → Int32} {j : Int32} {x : Int32} (A : ArI Z h b .byte n f) (jn : Nat) (hj : j.toNatClampNeg = jn) (h0 : ¬ j < 0) (h1 : jn < n) (hd : decode c.code pc = .ok (.bastore, 1)) (hp : pc + 1 = pc') (k : ∀ T' h', Stand p l e R s m args below meth c T' (locs ++ [⟨b, jn⟩]) cells slots → T'.heap = h' → Wr h h' b jn (.int (nar .byte x)) → ArI Z h' b .byte n (fun k => if k = jn then nar .byte x else f k) → Goes p e below K T' (mkF m pc' Ls st)) : Goes p e below K T (mkF m pc Ls (.int (x) :: .int j :: .ref b :: st)) := by
  subst hj
  exact g_bastore' X hx hZ eT A h0 h1 hd hp k
end ArGI
def ArJ (Z : State) (h : Heap) (b : Addr) (ty : FieldType) (n : Nat) (f : Nat → Int64) : Prop := ∃ cl, Arr Z h b cl ty ∧ cl.slots.size = n ∧ ∀ j, j < n → cl.slots[j]? = some (.long (f j))
section ArSJ
variable {Z : State} {h h' : Heap} {a b : Addr} {ty : FieldType} {n sl : Nat} {f : Nat → Int64} {v : Value} {ws : List Addr}
theorem ArJ.new {cA : ClassId} {z : Int32} (A : Arr Z h a (newA cA ty z) ty) (x : Int64) (hd : defaultValue ty = .long x) : ArJ Z h a ty z.toNatClampNeg (fun _ => x) := ⟨_, A, sz_new _ _ _, fun j hj => by simp only [newA, ← hd]; rw [Array.getElem?_replicate, if_pos hj]⟩
theorem ArJ.lt (F : ArJ Z h b ty n f) : b < h.size := by obtain ⟨c, A, -⟩ := F; exact A.lt
theorem ArJ.ext (F : ArJ Z h b ty n f) (E : Ext h h') : ArJ Z h' b ty n f := by obtain ⟨c, A, r⟩ := F; exact ⟨c, A.ext E, r⟩
theorem ArJ.other (F : ArJ Z h b ty n f) (W : Wr h h' a sl v) (q : b ≠ a) : ArJ Z h' b ty n f := by obtain ⟨c, A, r⟩ := F; exact ⟨c, A.other W q, r⟩
theorem ArJ.keep (F : ArJ Z h b ty n f) (K : Keep h h' ws) (q : b ∉ ws) : ArJ Z h' b ty n f := by obtain ⟨c, A, r⟩ := F; exact ⟨c, ⟨K.2.1 b c A.1 q, A.2⟩, r⟩
theorem ArJ.set {x : Int64} (F : ArJ Z h b ty n f) (W : Wr h h' b sl (.long (x))) : ArJ Z h' b ty n (fun k => if k = sl then x else f k) := by
  obtain ⟨c, A, hs, H⟩ := F
  refine ⟨_, A.same W, by rw [sz_set]; exact hs, fun j hj => ?_⟩
  by_cases e : j = sl
  · subst e; simp only [Cell.setSlot, if_true]; rw [Array.getElem?_setIfInBounds_self_of_lt (by rw [hs]; exact hj)]
  · simp only [Cell.setSlot]; rw [Array.getElem?_setIfInBounds_ne (Ne.symm e), if_neg e]; exact H j hj
theorem ArJ.inb {j : Int32} {c : Cell} (hs : c.slots.size = n) (h0 : ¬ j < 0) (h1 : j.toNatClampNeg < n) : ¬ (j < 0 ∨ c.slots.size ≤ j.toNatClampNeg) := by rw [hs]; rintro (q | q); exact h0 q; omega
end ArSJ
section ArGJ
variable {p : Program} {l : Launch} {e : Env} {R : Room} {s : State} {m : MethodId} {args : Array Value} {below : List Frame} {meth : Method} {c : Code} {T : State} {locs : List Loc} {cells slots : Nat} {Z : State} {a0 : Array Value} {h : Heap} {K : Outcome → State → Prop} {pc pc' : Nat} {Ls : Array Slot} {st : List Value}
theorem g_laload' (X : Stand p l e R s m args below meth c T locs cells slots) (hx : p.tables.exec = Jvm.exec) (hZ : Z.Warmed39 s.vm) (eT : T.heap = h) {b : Addr} {n : Nat} {f : Nat → Int64} {j : Int32} {x : Int64} (A : ArJ Z h b .long n f) (h0 : ¬ j < 0) (h1 : j.toNatClampNeg < n) (hv : f j.toNatClampNeg = x) (hd : decode c.code pc = .ok (.laload, 1)) (hp : pc + 1 = pc') (k : Goes p e below K T (mkF m pc' Ls (.long (x) :: st))) : Goes p e below K T (mkF m pc Ls (.int j :: .ref b :: st)) := by
  obtain ⟨cl, A, hs, H⟩ := A
  exact g_laload X hx hZ eT A (ArJ.inb hs h0 h1) (by rw [H _ h1, hv]) hd hp k
theorem g_arraylengthJ (X : Stand p l e R s m args below meth c T locs cells slots) (hx : p.tables.exec = Jvm.exec) (hZ : Z.Warmed39 s.vm) (eT : T.heap = h) {b : Addr} {n : Nat} {f : Nat → Int64} {ty : FieldType} {z : Int32} (A : ArJ Z h b ty n f) (hz : n.toInt32 = z) (hd : decode c.code pc = .ok (.arraylength, 1)) (hp : pc + 1 = pc') (k : Goes p e below K T (mkF m pc' Ls (.int z :: st))) : Goes p e below K T (mkF m pc Ls (.ref b :: st)) := by
  obtain ⟨cl, A, hs, H⟩ := A
  exact g_arraylength X hx hZ eT A (by rw [hs, hz]) hd hp k
theorem g_lastore' (X : Stand p l e R s m args below meth c T locs cells slots) (hx : p.tables.exec = Jvm.exec) (hZ : Z.Warmed39 s.vm) (eT : T.heap = h) {b : Addr} {n : Nat} {f : Nat → Int64} {j : Int32} {x : Int64} (A : ArJ Z h b .long n f) (h0 : ¬ j < 0) (h1 : j.toNatClampNeg < n) (hd : decode c.code pc = .ok (.lastore, 1)) (hp : pc + 1 = pc') (k : ∀ T' h', Stand p l e R s m args below meth c T' (locs ++ [⟨b, j.toNatClampNeg⟩]) cells slots → T'.heap = h' → Wr h h' b j.toNatClampNeg (.long (x)) → ArJ Z h' b .long n (fun k => if k = j.toNatClampNeg then x else f k) → Goes p e below K T' (mkF m pc' Ls st)) : Goes p e below K T (mkF m pc Ls (.long (x) :: .int j :: .ref b :: st)) := by
  have A' := A
  obtain ⟨cl, A, hs, H⟩ := A
  exact g_lastore X hx hZ eT A (ArJ.inb hs h0 h1) hd hp (fun T' h' X' e' W' => k T' h' X' e' W' (A'.set W'))
theorem g_lastoreN (X : Stand p l e R s m args below meth c T locs cells slots) (hx : p.tables.exec = Jvm.exec) (hZ : Z.Warmed39 s.vm) (eT : T.heap = h) {b : Addr} {n : Nat} {f : Nat → Int64} {j : Int32} {x : Int64} (A : ArJ Z h b .long n f) (jn : Nat) (hj : j.toNatClampNeg = jn) (h0 : ¬ j < 0) (h1 : jn < n) (hd : decode c.code pc = .ok (.lastore, 1)) (hp : pc + 1 = pc') (k : ∀ T' h', Stand p l e R s m args below meth c T' (locs ++ [⟨b, jn⟩]) cells slots → T'.heap = h' → Wr h h' b jn (.long (x)) → ArJ Z h' b .long n (fun k => if k = jn then x else f k) → Goes p e below K T' (mkF m pc' Ls st)) : Goes p e below K T (mkF m pc Ls (.long (x) :: .int j :: .ref b :: st)) := by
  subst hj
  exact g_lastore' X hx hZ eT A h0 h1 hd hp k
end ArGJ
def ArV (Z : State) (h : Heap) (b : Addr) (ty : FieldType) (n : Nat) (f : Nat → Value) : Prop := ∃ cl, Arr Z h b cl ty ∧ cl.slots.size = n ∧ ∀ j, j < n → cl.slots[j]? = some (f j)
section ArSV
variable {Z : State} {h h' : Heap} {a b : Addr} {ty : FieldType} {n sl : Nat} {f : Nat → Value} {v : Value} {ws : List Addr}
theorem ArV.new {cA : ClassId} {z : Int32} (A : Arr Z h a (newA cA ty z) ty) (x : Value) (hd : defaultValue ty = x) : ArV Z h a ty z.toNatClampNeg (fun _ => x) := ⟨_, A, sz_new _ _ _, fun j hj => by simp only [newA, ← hd]; rw [Array.getElem?_replicate, if_pos hj]⟩
theorem ArV.lt (F : ArV Z h b ty n f) : b < h.size := by obtain ⟨c, A, -⟩ := F; exact A.lt
theorem ArV.ext (F : ArV Z h b ty n f) (E : Ext h h') : ArV Z h' b ty n f := by obtain ⟨c, A, r⟩ := F; exact ⟨c, A.ext E, r⟩
theorem ArV.other (F : ArV Z h b ty n f) (W : Wr h h' a sl v) (q : b ≠ a) : ArV Z h' b ty n f := by obtain ⟨c, A, r⟩ := F; exact ⟨c, A.other W q, r⟩
theorem ArV.keep (F : ArV Z h b ty n f) (K : Keep h h' ws) (q : b ∉ ws) : ArV Z h' b ty n f := by obtain ⟨c, A, r⟩ := F; exact ⟨c, ⟨K.2.1 b c A.1 q, A.2⟩, r⟩
theorem ArV.set {x : Value} (F : ArV Z h b ty n f) (W : Wr h h' b sl (x)) : ArV Z h' b ty n (fun k => if k = sl then x else f k) := by
  obtain ⟨c, A, hs, H⟩ := F
  refine ⟨_, A.same W, by rw [sz_set]; exact hs, fun j hj => ?_⟩
  by_cases e : j = sl
  · subst e; simp only [Cell.setSlot, if_true]; rw [Array.getElem?_setIfInBounds_self_of_lt (by rw [hs]; exact hj)]
  · simp only [Cell.setSlot]; rw [Array.getElem?_setIfInBounds_ne (Ne.symm e), if_neg e]; exact H j hj
theorem ArV.inb {j : Int32} {c : Cell} (hs : c.slots.size = n) (h0 : ¬ j < 0) (h1 : j.toNatClampNeg < n) : ¬ (j < 0 ∨ c.slots.size ≤ j.toNatClampNeg) := by rw [hs]; rintro (q | q); exact h0 q; omega
end ArSV
section ArGV
variable {p : Program} {l : Launch} {e : Env} {R : Room} {s : State} {m : MethodId} {args : Array Value} {below : List Frame} {meth : Method} {c : Code} {T : State} {locs : List Loc} {cells slots : Nat} {Z : State} {a0 : Array Value} {h : Heap} {K : Outcome → State → Prop} {pc pc' : Nat} {Ls : Array Slot} {st : List Value}
theorem g_aaload' (X : Stand p l e R s m args below meth c T locs cells slots) (hx : p.tables.exec = Jvm.exec) (hZ : Z.Warmed39 s.vm) (eT : T.heap = h) {b : Addr} {n : Nat} {f : Nat → Value} {j : Int32} {x : Value} {ty : FieldType} (A : ArV Z h b ty n f) (h0 : ¬ j < 0) (h1 : j.toNatClampNeg < n) (hv : f j.toNatClampNeg = x) (hty : ty.isReference = true) (hd : decode c.code pc = .ok (.aaload, 1)) (hp : pc + 1 = pc') (k : Goes p e below K T (mkF m pc' Ls (x :: st))) : Goes p e below K T (mkF m pc Ls (.int j :: .ref b :: st)) := by
  obtain ⟨cl, A, hs, H⟩ := A
  exact g_aaload X hx hZ eT A hty (ArV.inb hs h0 h1) (by rw [H _ h1, hv]) hd hp k
theorem g_arraylengthV (X : Stand p l e R s m args below meth c T locs cells slots) (hx : p.tables.exec = Jvm.exec) (hZ : Z.Warmed39 s.vm) (eT : T.heap = h) {b : Addr} {n : Nat} {f : Nat → Value} {ty : FieldType} {z : Int32} (A : ArV Z h b ty n f) (hz : n.toInt32 = z) (hd : decode c.code pc = .ok (.arraylength, 1)) (hp : pc + 1 = pc') (k : Goes p e below K T (mkF m pc' Ls (.int z :: st))) : Goes p e below K T (mkF m pc Ls (.ref b :: st)) := by
  obtain ⟨cl, A, hs, H⟩ := A
  exact g_arraylength X hx hZ eT A (by rw [hs, hz]) hd hp k
theorem g_aastore' (X : Stand p l e R s m args below meth c T locs cells slots) (hx : p.tables.exec = Jvm.exec) (hZ : Z.Warmed39 s.vm) (eT : T.heap = h) {b : Addr} {n : Nat} {f : Nat → Value} {j : Int32} {x : Value} {ty : FieldType} (A : ArV Z h b ty n f) (h0 : ¬ j < 0) (h1 : j.toNatClampNeg < n) (hty : ty.isReference = true) (F : Sto Z h b x) (hd : decode c.code pc = .ok (.aastore, 1)) (hp : pc + 1 = pc') (k : ∀ T' h', Stand p l e R s m args below meth c T' (locs ++ [⟨b, j.toNatClampNeg⟩]) cells slots → T'.heap = h' → Wr h h' b j.toNatClampNeg (x) → ArV Z h' b ty n (fun k => if k = j.toNatClampNeg then x else f k) → Goes p e below K T' (mkF m pc' Ls st)) : Goes p e below K T (mkF m pc Ls (x :: .int j :: .ref b :: st)) := by
  have A' := A
  obtain ⟨cl, A, hs, H⟩ := A
  exact g_aastore X hx hZ eT A hty F (ArV.inb hs h0 h1) hd hp (fun T' h' X' e' W' => k T' h' X' e' W' (A'.set W'))
end ArGV
section OwnIns
variable {p : Program} {l : Launch} {e : Env} {R : Room} {s : State} {m : MethodId} {args : Array Value} {below : List Frame} {meth : Method} {c : Code} {T : State} {locs : List Loc} {cells slots : Nat} {Z : State} {a0 : Array Value} {h : Heap} {K : Outcome → State → Prop} {pc pc' : Nat} {Ls : Array Slot} {st : List Value}
theorem g_instY (X : Stand p l e R s m args below meth c T locs cells slots) (hx : p.tables.exec = Jvm.exec) (hZ : Z.Warmed39 s.vm) {own K0 : String} {ix : Nat} {a : Addr} (hown : s.vm.findClass own = some m.cls) (w : (Cond.classLink own ix K0).before a0 Z = true) (eT : T.heap = h) (F : Ins Z h a K0 true) (hd : decode c.code pc = .ok (.instanceof ix, 3)) (hp : pc + 3 = pc') (k : ∀ T', Stand p l e R s m args below meth c T' locs cells slots → T'.heap = h → Goes p e below K T' (mkF m pc' Ls (.int 1 :: st))) : Goes p e below K T (mkF m pc Ls (.ref a :: st)) := by
  subst hp
  obtain ⟨T1, X1, e1, f1⟩ := instY X hx hZ hown w eT F (g := mkF m pc Ls (.ref a :: st)) rfl rfl hd
  exact Goes.by' f1 (k T1 X1 e1)
theorem g_instNo (X : Stand p l e R s m args below meth c T locs cells slots) (hx : p.tables.exec = Jvm.exec) (hZ : Z.Warmed39 s.vm) {own K0 C0 : String} {ix : Nat} {a : Addr} (hown : s.vm.findClass own = some m.cls) (w : (Cond.classLink own ix K0).before a0 Z = true) (eT : T.heap = h) (E : Exa Z h a C0) (F : ∃ c t, Z.vm.findClass C0 = some c ∧ Z.vm.findClass K0 = some t ∧ Z.vm.assignable c t = false) (hd : decode c.code pc = .ok (.instanceof ix, 3)) (hp : pc + 3 = pc') (k : ∀ T', Stand p l e R s m args below meth c T' locs cells slots → T'.heap = h → Goes p e below K T' (mkF m pc' Ls (.int 0 :: st))) : Goes p e below K T (mkF m pc Ls (.ref a :: st)) := by
  subst hp
  obtain ⟨T1, X1, e1, f1⟩ := instNo X hx hZ hown w eT E F (g := mkF m pc Ls (.ref a :: st)) rfl rfl hd
  exact Goes.by' f1 (k T1 X1 e1)
theorem g_castY (X : Stand p l e R s m args below meth c T locs cells slots) (hx : p.tables.exec = Jvm.exec) (hZ : Z.Warmed39 s.vm) {own K0 : String} {ix : Nat} {a : Addr} (hown : s.vm.findClass own = some m.cls) (w : (Cond.classLink own ix K0).before a0 Z = true) (eT : T.heap = h) (F : Ins Z h a K0 true) (hd : decode c.code pc = .ok (.checkcast ix, 3)) (hp : pc + 3 = pc') (k : ∀ T', Stand p l e R s m args below meth c T' locs cells slots → T'.heap = h → Goes p e below K T' (mkF m pc' Ls (.ref a :: st))) : Goes p e below K T (mkF m pc Ls (.ref a :: st)) := by
  subst hp
  obtain ⟨T1, X1, e1, f1⟩ := castY X hx hZ hown w eT F (g := mkF m pc Ls (.ref a :: st)) rfl rfl hd
  exact Goes.by' f1 (k T1 X1 e1)
theorem g_instNull (X : Stand p l e R s m args below meth c T locs cells slots) (hx : p.tables.exec = Jvm.exec) {ix : Nat} (hd : decode c.code pc = .ok (.instanceof ix, 3)) (hp : pc + 3 = pc') (k : Goes p e below K T (mkF m pc' Ls (.int 0 :: st))) : Goes p e below K T (mkF m pc Ls (.null :: st)) := by
  subst hp
  exact Goes.by' (fun _ q => X.instanceofNull hx (g := mkF m pc Ls (.null :: st)) rfl rfl hd _ q) k
end OwnIns
section OwnW
variable {p : Program} {l : Launch} {e : Env} {R : Room} {s : State} {m : MethodId} {args : Array Value} {below : List Frame} {meth : Method} {c : Code} {T : State} {locs : List Loc} {cells slots : Nat} {Z : State} {a0 : Array Value} {h : Heap} {K : Outcome → State → Prop} {pc pc' : Nat} {Ls : Array Slot} {st : List Value}
abbrev KW (s : State) (C S : Nat) (Q : Option Value → Heap → List Loc → Prop) : Outcome → State → Prop := fun o u => ∃ v L, o = .returned v ∧ Q v u.heap L ∧ ReturnedEndW s o u L C S
abbrev CtrW (l : Launch) (Z : State) (y : MethodName) (bytes : ByteArray) (maxL : Nat) (ret : Option FieldType) (ws : List Jvm.Cond) (rm : Room) (C S : Nat) (as' : Array Value) (h0 : Heap) (Q : Option Value → Heap → List Loc → Prop) : Prop := MetFree l y (head1 (Jvm.Cond.code y bytes maxL ret :: ws) rm) (fun a U => a = as' ∧ Z.Warmed39 U.vm ∧ U.heap = h0) (fun _ _ _ _ _ => True) (fun _ U o U' => ∃ v L, o = .returned v ∧ Q v U'.heap L ∧ ReturnedEndW U o U' L C S)
theorem CtrW.of {y : MethodName} {bytes : ByteArray} {maxL : Nat} {ret : Option FieldType} {ws : List Jvm.Cond} {rm : Room} {C S : Nat} {as' : Array Value} {h0 : Heap} {Q : Option Value → Heap → List Loc → Prop} (hpn : plainFor y = true)
    (body : ∀ (p : Program) (e : Env) (s : State) (m : MethodId) (below : List Frame) (meth : Method) (c : Code) (s₁ : State), p.tables.exec = Jvm.exec → c.code = bytes → c.maxLocals = maxL → s.vm.findClass y.cls = some m.cls → meth.name = y.name → meth.sig.returnType = ret → meth.locks = false → Z.Warmed39 s.vm → Stand p l e rm (s.setVm s.vm) m as' below meth c s₁ [] 0 0 → s₁.heap = h0 → s.Since s.vm s.heap.size → s.heap = h0 → Goes p e below (KW s C S Q) s₁ (entryFrame m as' maxL)) :
    CtrW l Z y bytes maxL ret ws rm C S as' h0 Q := by
  refine MetFree.of_bodySF hpn hisR ?_
  intro p e s m args below meth c s₁ Bd hml0 hP hK
  obtain ⟨rfl, hZ, hh⟩ := hP
  have hlk : meth.locks = false := BodyLoose.notSynchronized Bd
  exact body p e s m below meth c s₁ Bd.exec Bd.bytes hml0 (findClass_of_methodNamed Bd.named) (name_of_methodNamed Bd.named Bd.method).1 Bd.returns hlk hZ (Stand.of_body Bd) (by rw [← hh, Bd.state]; rfl) (State.WarmedH.since (State.WarmedH.refl s) _) hh
abbrev CtrI (l : Launch) (Z : State) (y : MethodName) (bytes : ByteArray) (maxL : Nat) (ret : Option FieldType) (ws : List Jvm.Cond) (rm : Room) (C S : Nat) (as' : Array Value) (h0 : Heap) (Q : Option Value → Heap → List Loc → Prop) : Prop := MetFree l y (head1 (Jvm.Cond.code y bytes maxL ret :: ws) rm) (fun a U => a = as' ∧ Z.Warmed39 U.vm ∧ U.heap = h0 ∧ U.vm.interned = Z.vm.interned) (fun _ _ _ _ _ => True) (fun _ U o U' => ∃ v L, o = .returned v ∧ Q v U'.heap L ∧ ReturnedEndW U o U' L C S)
theorem CtrI.of {y : MethodName} {bytes : ByteArray} {maxL : Nat} {ret : Option FieldType} {ws : List Jvm.Cond} {rm : Room} {C S : Nat} {as' : Array Value} {h0 : Heap} {Q : Option Value → Heap → List Loc → Prop} (hpn : plainFor y = true)
    (body : ∀ (p : Program) (e : Env) (s : State) (m : MethodId) (below : List Frame) (meth : Method) (c : Code) (s₁ : State), p.tables.exec = Jvm.exec → c.code = bytes → c.maxLocals = maxL → s.vm.findClass y.cls = some m.cls → meth.name = y.name → meth.sig.returnType = ret → meth.locks = false → Z.Warmed39 s.vm → Stand p l e rm (s.setVm s.vm) m as' below meth c s₁ [] 0 0 → s₁.heap = h0 → s.Since s.vm s.heap.size → s.heap = h0 → s.vm.interned = Z.vm.interned → Goes p e below (KW s C S Q) s₁ (entryFrame m as' maxL)) :
    CtrI l Z y bytes maxL ret ws rm C S as' h0 Q := by
  refine MetFree.of_bodySF hpn hisR ?_
  intro p e s m args below meth c s₁ Bd hml0 hP hK
  obtain ⟨rfl, hZ, hh, hint⟩ := hP
  have hlk : meth.locks = false := BodyLoose.notSynchronized Bd
  exact body p e s m below meth c s₁ Bd.exec Bd.bytes hml0 (findClass_of_methodNamed Bd.named) (name_of_methodNamed Bd.named Bd.method).1 Bd.returns hlk hZ (Stand.of_body Bd) (by rw [← hh, Bd.state]; rfl) (State.WarmedH.since (State.WarmedH.refl s) _) hh hint
theorem g_ldcS {vm0 : Vm} (X : Stand p l e R (s.setVm vm0) m args below meth c T locs cells slots) (hx : p.tables.exec = Jvm.exec) (hZ : Z.Warmed39 vm0) {own text : String} {ix : Nat} (hown : vm0.findClass own = some m.cls) (w : (Cond.stringLink own ix text).before a0 Z = true) (wS : ∀ a ∈ Bundle.stringAtoms, a.before a0 Z = true) (eT : T.heap = h) {k0 : Nat} (hS : s.Since vm0 k0) (hk : k0 ≤ h.size) (hd : decode c.code pc = .ok (.ldc ix, 2)) (hp : pc + 2 = pc') (n : Nat) (hn : 4 * text.toList.length ≤ n) (hbig : n ≤ 536870912) (hc : cells + 2 ≤ R.cells) (hl : slots + (n + 4) ≤ R.slots) (k : ∀ (a : Addr) (T' : State) (h' : Heap) (k1 : Nat), Stand p l e R (s.setVm T'.vm) m args below meth c T' locs (cells + 2) (slots + (n + 4)) → T'.heap = h' → Ext h h' → s.Since T'.vm k1 → k1 ≤ h'.size → Z.Warmed39 T'.vm → T'.vm.findClass own = some m.cls → Goes p e below K T' (mkF m pc' Ls (.ref a :: st))) : Goes p e below K T (mkF m pc Ls st) := by
  subst hp
  obtain ⟨a, T1, h1, k1, X1, e1, E1, S1, g1, Z1, o1, f1⟩ := ldcS X hx hZ hown w wS eT hS hk (g := mkF m pc Ls st) rfl hd hn hbig hc hl
  exact Goes.by' f1 (k a T1 h1 k1 X1 e1 E1 S1 g1 Z1 o1)
theorem g_ldcSV {vm0 : Vm} (X : Stand p l e R (s.setVm vm0) m args below meth c T locs cells slots) (hx : p.tables.exec = Jvm.exec) (hZ : Z.Warmed39 vm0) {own text : String} {ix : Nat} {Ts : List String} (hown : vm0.findClass own = some m.cls) (w : (Cond.stringLink own ix text).before a0 Z = true) (wS : ∀ a ∈ Bundle.stringAtoms, a.before a0 Z = true) (eT : T.heap = h) {k0 : Nat} (hS : s.Since vm0 k0) (hk : k0 ≤ h.size) (N : Fr s.heap.size locs) (hkeep : ∀ (b : Addr) (cl : Cell), Z.heap[b]? = some cl → s.heap[b]? = some cl) (I : IB Z vm0 Ts) (hnot : text ∉ Ts) (hh : Jvm.Lit.constHeld Z own ix) (hcw : Jvm.Lit.compactW.before a0 Z = true) (vs : List Value) (z : Int32) (ht : (∀ c ∈ text.toList, c.toNat < 256) ∧ text.toList.map (fun c => Value.int (Jvm.Lit.byteI c.toNat.toUInt16)) = vs) (hz : ¬ z < 0) (hl : z.toNatClampNeg = vs.length) (hd : decode c.code pc = .ok (.ldc ix, 2)) (hp : pc + 2 = pc') (n : Nat) (hn : 4 * text.toList.length ≤ n) (hbig : n ≤ 536870912) (hc : cells + 2 ≤ R.cells) (hl' : slots + (n + 4) ≤ R.slots) (k : ∀ (a : Addr) (T' : State) (h' : Heap) (k1 : Nat) (b : Addr) (cA : ClassId), Stand p l e R (s.setVm T'.vm) m args below meth c T' locs (cells + 2) (slots + (n + 4)) → T'.heap = h' → Ext h h' → s.Since T'.vm k1 → k1 ≤ h'.size → Z.Warmed39 T'.vm → T'.vm.findClass own = some m.cls → Exa Z h' a "java/lang/String" → Fld Z h' a "java/lang/String" "coder" "B" (.int 0) → Fld Z h' a "java/lang/String" "value" "[B" (.ref b) → Arv Z h' b cA .byte z vs (.int 0) → IB Z T'.vm (text :: Ts) → Goes p e below K T' (mkF m pc' Ls (.ref a :: st))) : Goes p e below K T (mkF m pc Ls st) := by
  subst hp
  obtain ⟨a, T1, h1, k1, b, cA, X1, e1, E1, S1, g1, Z1, o1, q1, q2, q3, q4, -, -, q5, f1⟩ := ldcSV X hx hZ hown w wS eT hS hk N hkeep I hnot hh hcw ht hz hl (g := mkF m pc Ls st) rfl hd hn hbig hc hl'
  exact Goes.by' f1 (k a T1 h1 k1 b cA X1 e1 E1 S1 g1 Z1 o1 q1 q2 q3 q4 q5)
theorem g_retNW {vm0 : Vm} (X : Stand p l e R (s.setVm vm0) m args below meth c T locs cells slots) (hx : p.tables.exec = Jvm.exec) {C S : Nat} {Q : Option Value → Heap → List Loc → Prop} {z : Int32} {t : FieldType} (ht : t = .boolean ∨ t = .byte ∨ t = .char ∨ t = .short) (hlk : meth.locks = false) (hret : meth.sig.returnType = some t) (eT : T.heap = h) {k0 : Nat} (hS : s.Since vm0 k0) (hk : k0 ≤ h.size) (hc : cells ≤ C) (hs : slots ≤ S) (hd : decode c.code pc = .ok (.ireturn, 1)) (hQ : Q (some (.int (nar t z))) h locs) : Goes p e below (KW s C S Q) T (mkF m pc Ls (.int z :: st)) := by
  subst eT
  obtain ⟨fs, hr, hrun, hended, q1, q2, q3, q4⟩ := X.leaveW hS hk (v := some (.int (nar t z))) (fun q => by rw [hret] at q; cases q) hlk
  exact ⟨_, _, retN X hx hret ht hd hr, hrun, hended, _, _, rfl, hQ, q1, q2, q3, q4.mono hc hs⟩
theorem g_callSW {vm0 : Vm} {k0 : Nat} (X : Stand p l e R (s.setVm vm0) m args below meth c T locs cells slots) (hx : p.tables.exec = Jvm.exec) (hZ : Z.Warmed39 vm0) {own : String} {ix : Nat} {y : MethodName} {bytes : ByteArray} {maxL : Nat} {ret : Option FieldType} {rm : Room} {as' : Array Value} {Q : Option Value → Heap → List Loc → Prop} (hown : vm0.findClass own = some m.cls) (w1 : (Cond.methodLink own ix y).before a0 Z = true) (w2 : (Cond.static y).before a0 Z = true) (w3 : (Cond.initialized y.cls).before a0 Z = true) (w4 : (Cond.code y bytes maxL ret).before a0 Z = true) (hy : y.cls ≠ "java/lang/invoke/MethodHandle" ∧ y.cls ≠ "java/lang/invoke/VarHandle") (eT : T.heap = h) (hS : s.Since vm0 k0) (hk : k0 ≤ h.size) (C : CtrW l Z y bytes maxL ret [] rm rm.cells rm.slots as' h Q) (hsz : Ls.size = c.maxLocals) (argsL rest : List Value) (has : argsL.toArray = as') (hlen : ∀ sig, parseMethodDescriptor y.desc = some sig → argsL.length = sig.parameters.length) (hst : st = argsL.reverse ++ rest) (hl : (rest.map fun v => v.category).sum + (maxL + 11) + rm.locals ≤ R.locals) (hf : rm.frames + 1 ≤ R.frames) (hc : cells + rm.cells ≤ R.cells) (hsl : slots + rm.slots ≤ R.slots) (hd : decode c.code pc = .ok (.invokestatic ix, 3)) (hp : pc + 3 = pc') (k : ∀ (T' : State) (v : Option Value) (L : List Loc) (k1 : Nat), Stand p l e R (s.setVm T'.vm) m args below meth c T' (locs ++ L) (cells + rm.cells) (slots + rm.slots) → Q v T'.heap L → s.Since T'.vm k1 → k1 ≤ T'.heap.size → Z.Warmed39 T'.vm → T'.vm.findClass own = some m.cls → Goes p e below K T' (mkF m pc' Ls (v.toList ++ rest))) : Goes p e below K T (mkF m pc Ls st) := by
  subst hp
  have hZ' : Z.Warmed39 (s.setVm vm0).vm := hZ
  obtain ⟨v, _, ⟨T1, L1, k1, n1⟩, -, X1, h2, g2, ⟨L, hQ, l1, y1, z1⟩, f1⟩ := callSS X hx (y := y) hown (mvT hZ' w1) (mvT hZ' w2) (mvT hZ' w3) (mvT hZ' w4) hy (backOfS (W := (rest.map fun v => v.category).sum) C hZ' w4 w3 hf hl) (g := mkF m pc Ls st) rfl hsz (argsL := argsL) (rest := rest) hlen hst (by show 2 * 0 + _ ≤ _; omega) hd (fun _ _ => ⟨has, eT, hc, hsl⟩)
  dsimp only [Pt.U, Pt.locs, Pt.cells, Pt.slots] at X1 l1 y1 z1 f1 hQ h2 g2
  subst l1 y1 z1
  obtain ⟨X2, S2, Z2, o2⟩ := rebS hS (by rw [eT]; exact hk) X1 h2 g2 hZ hown
  exact Goes.by' (fun _ q => f1.trans q) (k T1 v L _ X2 hQ S2 (Nat.le_refl _) Z2 o2)
theorem g_callIW {vm0 : Vm} {k0 : Nat} (X : Stand p l e R (s.setVm vm0) m args below meth c T locs cells slots) (hx : p.tables.exec = Jvm.exec) (hZ : Z.Warmed39 vm0) {own : String} {ix : Nat} {y : MethodName} {bytes : ByteArray} {maxL : Nat} {rm : Room} {as' : Array Value} {Q : Option Value → Heap → List Loc → Prop} (hy1 : y.name = "<init>") (hown : vm0.findClass own = some m.cls) (w1 : (Cond.methodLink own ix y).before a0 Z = true) (w2 : (Cond.instanceMethod y).before a0 Z = true) (w3 : (Cond.initialized y.cls).before a0 Z = true) (w4 : (Cond.code y bytes maxL none).before a0 Z = true) (hy : y.cls ≠ "java/lang/invoke/MethodHandle" ∧ y.cls ≠ "java/lang/invoke/VarHandle") (eT : T.heap = h) (hS : s.Since vm0 k0) (hk : k0 ≤ h.size) (C : CtrW l Z y bytes maxL none [] rm rm.cells rm.slots as' h Q) (hsz : Ls.size = c.maxLocals) (a : Addr) (argsL rest : List Value) (has : (.ref a :: argsL).toArray = as') (hlen : ∀ sig, parseMethodDescriptor y.desc = some sig → argsL.length = sig.parameters.length) (hst : st = argsL.reverse ++ .ref a :: rest) (hl : (rest.map fun v => v.category).sum + (maxL + 11) + rm.locals ≤ R.locals) (hf : rm.frames + 1 ≤ R.frames) (hc : cells + rm.cells ≤ R.cells) (hsl : slots + rm.slots ≤ R.slots) (hd : decode c.code pc = .ok (.invokespecial ix, 3)) (hp : pc + 3 = pc') (k : ∀ (T' : State) (v : Option Value) (L : List Loc) (k1 : Nat), Stand p l e R (s.setVm T'.vm) m args below meth c T' (locs ++ L) (cells + rm.cells) (slots + rm.slots) → Q v T'.heap L → s.Since T'.vm k1 → k1 ≤ T'.heap.size → Z.Warmed39 T'.vm → T'.vm.findClass own = some m.cls → Goes p e below K T' (mkF m pc' Ls (v.toList ++ rest))) : Goes p e below K T (mkF m pc Ls st) := by
  subst hp
  have hZ' : Z.Warmed39 (s.setVm vm0).vm := hZ
  obtain ⟨v, _, ⟨T1, L1, k1, n1⟩, -, X1, h2, g2, ⟨L, hQ, l1, y1, z1⟩, f1⟩ := X.specialBackS hx (y := y) hy1 hown (mvT hZ' w1) (mvT hZ' w2) (mvT hZ' w4) hy (backOfS (W := (rest.map fun v => v.category).sum) C hZ' w4 w3 hf hl) (g := mkF m pc Ls st) rfl hsz (Steps.refl _) (a := a) (argsL := argsL) (rest := rest) hlen hst (by show 2 * 0 + _ ≤ _; omega) hd (fun _ _ => ⟨has, eT, hc, hsl⟩)
  dsimp only [Pt.U, Pt.locs, Pt.cells, Pt.slots] at X1 l1 y1 z1 f1 hQ h2 g2
  subst l1 y1 z1
  obtain ⟨X2, S2, Z2, o2⟩ := rebS hS (by rw [eT]; exact hk) X1 h2 g2 hZ hown
  exact Goes.by' (fun _ q => f1.trans q) (k T1 v L _ X2 hQ S2 (Nat.le_refl _) Z2 o2)
theorem g_callVW {vm0 : Vm} {k0 : Nat} (X : Stand p l e R (s.setVm vm0) m args below meth c T locs cells slots) (hx : p.tables.exec = Jvm.exec) (hZ : Z.Warmed39 vm0) {own : String} {ix : Nat} {y : MethodName} {bytes : ByteArray} {maxL : Nat} {ret : Option FieldType} {rm : Room} {as' : Array Value} {Q : Option Value → Heap → List Loc → Prop} {C0 : String} (hown : vm0.findClass own = some m.cls) (w1 : (Cond.methodLink own ix y).before a0 Z = true) (w2 : (Cond.declares y).before a0 Z = true) (w5 : (Cond.selects C0 y y).before a0 Z = true) (w6 : (Cond.instanceMethod y).before a0 Z = true) (w3 : (Cond.initialized y.cls).before a0 Z = true) (w4 : (Cond.code y bytes maxL ret).before a0 Z = true) (hy : y.cls ≠ "java/lang/invoke/MethodHandle" ∧ y.cls ≠ "java/lang/invoke/VarHandle") (eT : T.heap = h) (hS : s.Since vm0 k0) (hk : k0 ≤ h.size) (a : Addr) (E : Exa Z h a C0) (C : CtrW l Z y bytes maxL ret [] rm rm.cells rm.slots as' h Q) (hsz : Ls.size = c.maxLocals) (argsL rest : List Value) (has : (.ref a :: argsL).toArray = as') (hlen : ∀ sig, parseMethodDescriptor y.desc = some sig → argsL.length = sig.parameters.length) (hst : st = argsL.reverse ++ .ref a :: rest) (hl : (rest.map fun v => v.category).sum + (maxL + 11) + rm.locals ≤ R.locals) (hf : rm.frames + 1 ≤ R.frames) (hc : cells + rm.cells ≤ R.cells) (hsl : slots + rm.slots ≤ R.slots) (hd : decode c.code pc = .ok (.invokevirtual ix, 3)) (hp : pc + 3 = pc') (k : ∀ (T' : State) (v : Option Value) (L : List Loc) (k1 : Nat), Stand p l e R (s.setVm T'.vm) m args below meth c T' (locs ++ L) (cells + rm.cells) (slots + rm.slots) → Q v T'.heap L → s.Since T'.vm k1 → k1 ≤ T'.heap.size → Z.Warmed39 T'.vm → T'.vm.findClass own = some m.cls → Goes p e below K T' (mkF m pc' Ls (v.toList ++ rest))) : Goes p e below K T (mkF m pc Ls st) := by
  subst hp
  have hZ' : Z.Warmed39 (s.setVm vm0).vm := hZ
  obtain ⟨cq, kq, qa, qb, qc⟩ := isOf hZ' eT E
  obtain ⟨v, _, ⟨T1, L1, k1, n1⟩, -, X1, h2, g2, ⟨L, hQ, l1, y1, z1⟩, f1⟩ := X.virtualBackS hx (y := y) (z := y) hown (mvT hZ' w1) (mvT hZ' w2) (notFace_of_selects (args := #[]) (mvT hZ' w5)) (mvT hZ' w5) (mvT hZ' w6) hy (backOfS (W := (rest.map fun v => v.category).sum) C hZ' w4 w3 hf hl) qa qc (g := mkF m pc Ls st) rfl hsz (Steps.refl _) (argsL := argsL) (rest := rest) hlen hst (by show 2 * 0 + _ ≤ _; omega) hd (fun _ _ => ⟨has, eT, hc, hsl⟩)
  dsimp only [Pt.U, Pt.locs, Pt.cells, Pt.slots] at X1 l1 y1 z1 f1 hQ h2 g2
  subst l1 y1 z1
  obtain ⟨X2, S2, Z2, o2⟩ := rebS hS (by rw [eT]; exact hk) X1 h2 g2 hZ hown
  exact Goes.by' (fun _ q => f1.trans q) (k T1 v L _ X2 hQ S2 (Nat.le_refl _) Z2 o2)
theorem g_retAW {vm0 : Vm} (X : Stand p l e R (s.setVm vm0) m args below meth c T locs cells slots) (hx : p.tables.exec = Jvm.exec) {C S : Nat} {Q : Option Value → Heap → List Loc → Prop} {v : Value} {t : FieldType} (hv : v.isRef = true) (ht : t.isReference = true) (hlk : meth.locks = false) (hret : meth.sig.returnType = some t) (eT : T.heap = h) {k0 : Nat} (hS : s.Since vm0 k0) (hk : k0 ≤ h.size) (hc : cells ≤ C) (hs : slots ≤ S) (hd : decode c.code pc = .ok (.areturn, 1)) (hQ : Q (some v) h locs) : Goes p e below (KW s C S Q) T (mkF m pc Ls (v :: st)) := by
  subst eT
  obtain ⟨fs, hr, hrun, hended, q1, q2, q3, q4⟩ := X.leaveW hS hk (v := some v) (fun q => by rw [hret] at q; cases q) hlk
  have hn : narrow t v = v := by cases v <;> simp [Value.isRef] at hv <;> cases t <;> simp [FieldType.isReference] at ht <;> rfl
  exact ⟨_, _, retOut X hx hret hn (Or.inr (Or.inr (Or.inr (Or.inr ⟨rfl, ht, hv⟩)))) hd hr, hrun, hended, _, _, rfl, hQ, q1, q2, q3, q4.mono hc hs⟩
theorem g_retW {vm0 : Vm} (X : Stand p l e R (s.setVm vm0) m args below meth c T locs cells slots) (hx : p.tables.exec = Jvm.exec) {C S : Nat} {Q : Option Value → Heap → List Loc → Prop} (hlk : meth.locks = false) (hret : meth.sig.returnType = none) (eT : T.heap = h) {k0 : Nat} (hS : s.Since vm0 k0) (hk : k0 ≤ h.size) (hc : cells ≤ C) (hs : slots ≤ S) (hd : decode c.code pc = .ok (.return_, 1)) (hQ : Q none h locs) : Goes p e below (KW s C S Q) T (mkF m pc Ls []) := by
  subst eT
  obtain ⟨fs, hr, hrun, hended, q1, q2, q3, q4⟩ := X.leaveW hS hk (v := none) (fun _ => rfl) hlk
  exact ⟨_, _, X.returnOut hx hret hd hr, hrun, hended, _, _, rfl, hQ, q1, q2, q3, q4.mono hc hs⟩
theorem own_ib {vm : Vm} (q : vm.interned = Z.vm.interned) : IB Z vm [] := ⟨#[], by simp [q], fun x hx => by simp at hx⟩
end OwnW
section OwnC
variable {p : Program} {l : Launch} {e : Env} {R : Room} {s : State} {m : MethodId} {args : Array Value} {below : List Frame} {meth : Method} {c : Code} {T : State} {locs : List Loc} {cells slots : Nat} {Z : State} {a0 : Array Value} {h : Heap} {K : Outcome → State → Prop} {pc pc' : Nat} {Ls : Array Slot} {st : List Value}
theorem g_clone (X : Stand p l e R s m args below meth c T locs cells slots) (hx : p.tables.exec = Jvm.exec) (hZ : Z.Warmed39 s.vm) {own : String} {ix n : Nat} {a : Addr} {f : Nat → Int32} (hown : s.vm.findClass own = some m.cls) (w1 : (Cond.methodLink own ix ⟨"[I", "clone", "()Ljava/lang/Object;"⟩).before a0 Z = true) (w2 : (Cond.sameMethod "[I" "java/lang/Object" "clone" "()Ljava/lang/Object;").before a0 Z = true) (w3 : (Cond.native ⟨"java/lang/Object", "clone", "()Ljava/lang/Object;"⟩).before a0 Z = true) (w4 : (Cond.instanceMethod ⟨"java/lang/Object", "clone", "()Ljava/lang/Object;"⟩).before a0 Z = true) (w5 : (Cond.selects "[I" ⟨"[I", "clone", "()Ljava/lang/Object;"⟩ ⟨"java/lang/Object", "clone", "()Ljava/lang/Object;"⟩).before a0 Z = true) (w6 : (Cond.castable "[I" "java/lang/Cloneable").before a0 Z = true) (eT : T.heap = h) (A : ArI Z h a .int n f) (E : Exa Z h a "[I") (hsz : Ls.size = c.maxLocals) (hf : 1 ≤ R.frames) (hl : (st.map fun v => v.category).sum + 14 ≤ R.locals) (cap : Nat) (hcap : n ≤ cap) (hc : cells + 1 ≤ R.cells) (hsl : slots + cap ≤ R.slots) (hd : decode c.code pc = .ok (.invokevirtual ix, 3)) (hp : pc + 3 = pc') (k : ∀ T' h' b, Stand p l e R s m args below meth c T' locs (cells + 1) (slots + cap) → T'.heap = h' → b = h.size → Ext h h' → ArI Z h' b .int n f → Exa Z h' b "[I" → Goes p e below K T' (mkF m pc' Ls (.ref b :: st))) : Goes p e below K T (mkF m pc Ls (.ref a :: st)) := by
  subst hp
  obtain ⟨cl, A, hs, H⟩ := A
  have FC : FitC Z cl := fitC_of A fun i hi v hv => by rw [hs] at hi; rw [H i hi] at hv; cases hv; rfl
  obtain ⟨T1, h1, X1, e1, E1, A1, F1, f1⟩ := cloneA X hx hZ hown w1 w2 w3 w4 w5 w6 eT A E FC (g := mkF m pc Ls (.ref a :: st)) rfl hsz rfl hd hf (W := (st.map fun v => v.category).sum) (cap := cap) (by show 2 * 0 + _ ≤ _; omega) hl (by rw [hs]; exact hcap) hc hsl
  exact Goes.by' f1 (k T1 h1 _ X1 e1 rfl E1 ⟨_, A1, hs, H⟩ F1)
theorem g_newarrE (X : Stand p l e R s m args below meth c T locs cells slots) (hx : p.tables.exec = Jvm.exec) (hZ : Z.Warmed39 s.vm) {aty : ArrayType} {ty : FieldType} {ad : String} (hty : newarray.typeOf aty = ty) (w : (Cond.arrayClass ty).before a0 Z = true) (had : "[" ++ ty.toString = ad) (eT : T.heap = h) {n : Int32} (hd : decode c.code pc = .ok (.newarray aty, 2)) (hp : pc + 2 = pc') (hn : ¬ n < 0) (cap : Nat) (hcap : n.toNatClampNeg ≤ cap) (hb : cap * 8 ≤ 536870912) (hc : cells + 1 ≤ R.cells) (hl : slots + cap ≤ R.slots) (k : ∀ T' h' cA a, Stand p l e R s m args below meth c T' locs (cells + 1) (slots + cap) → T'.heap = h' → a = h.size → Ext h h' → Arr Z h' a (newA cA ty n) ty → Exa Z h' a ad → Goes p e below K T' (mkF m pc' Ls (.ref a :: st))) : Goes p e below K T (mkF m pc Ls (.int n :: st)) := by
  subst hp hty
  obtain ⟨T1, h1, cA, X1, e1, E1, A1, F1, f1⟩ := newPE X hx hZ w eT (g := mkF m pc Ls (.int n :: st)) rfl hd rfl hn hcap hb hc hl had
  exact Goes.by' f1 (k T1 h1 cA _ X1 e1 rfl E1 A1 F1)
theorem g_callIN (X : Stand p l e R s m args below meth c T locs cells slots) (hx : p.tables.exec = Jvm.exec) (hZ : Z.Warmed39 s.vm) {own : String} {ix : Nat} {y : MethodName} {bytes : ByteArray} {maxL : Nat} {rm : Room} {as' : Array Value} {Q : Option Value → Heap → List Loc → Prop} {host : String} (hy1 : y.name = "<init>") (hown : s.vm.findClass own = some m.cls) (w1 : (Cond.methodLinkNest own ix y host).before a0 Z = true) (w2 : (Cond.instanceMethod y).before a0 Z = true) (w3 : (Cond.initialized y.cls).before a0 Z = true) (w4 : (Cond.code y bytes maxL none).before a0 Z = true) (hy : y.cls ≠ "java/lang/invoke/MethodHandle" ∧ y.cls ≠ "java/lang/invoke/VarHandle") (eT : T.heap = h) (C : Ctr l Z y bytes maxL none [] rm rm.cells rm.slots as' h Q) (hsz : Ls.size = c.maxLocals) (a : Addr) (argsL rest : List Value) (has : (.ref a :: argsL).toArray = as') (hlen : ∀ sig, parseMethodDescriptor y.desc = some sig → argsL.length = sig.parameters.length) (hst : st = argsL.reverse ++ .ref a :: rest) (hl : (rest.map fun v => v.category).sum + (maxL + 11) + rm.locals ≤ R.locals) (hf : rm.frames + 1 ≤ R.frames) (hc : cells + rm.cells ≤ R.cells) (hsl : slots + rm.slots ≤ R.slots) (hd : decode c.code pc = .ok (.invokespecial ix, 3)) (hp : pc + 3 = pc') (k : ∀ T' v L, Stand p l e R s m args below meth c T' (locs ++ L) (cells + rm.cells) (slots + rm.slots) → Q v T'.heap L → Goes p e below K T' (mkF m pc' Ls (v.toList ++ rest))) : Goes p e below K T (mkF m pc Ls st) := by
  subst hp
  obtain ⟨v, _, ⟨T1, L1, k1, n1⟩, -, X1, ⟨L, hQ, l1, y1, z1⟩, f1⟩ := X.specialBackNest hx (y := y) hy1 hown (Cond.methodLinkNest_wide hZ w1 :) (mvT hZ w2) (mvT hZ w4) hy (backOf (W := (rest.map fun v => v.category).sum) C hZ w4 w3 hf hl) (g := mkF m pc Ls st) rfl hsz (Steps.refl _) (a := a) (argsL := argsL) (rest := rest) hlen hst (by show 2 * 0 + _ ≤ _; omega) hd (fun _ _ => ⟨has, eT, hc, hsl⟩)
  dsimp only [Pt.U, Pt.locs, Pt.cells, Pt.slots] at X1 l1 y1 z1 f1 hQ
  subst l1 y1 z1
  exact Goes.by' (fun _ q => f1.trans q) (k T1 v L X1 hQ)
end OwnC
theorem own_fin {P : Int32 → Prop} (N : Nat) (hN : N ≤ 2 ^ 31) (hP : ∀ n : Fin N, P (Int32.ofNat n.val)) (d : Int32) (h0 : 0 ≤ d.toInt) (h1 : d.toInt < (N : Int)) : P d := by
  have e : d = Int32.ofNat d.toInt.toNat := by
    apply Int32.toInt_inj.mp
    rw [Int32.toInt_ofNat_of_lt (by omega)]
    omega
  rw [e]
  exact hP ⟨d.toInt.toNat, by omega⟩
theorem own_ltI {x y : Int32} : x < y ↔ x.toInt < y.toInt := Int32.lt_iff_toInt_lt
theorem own_nneg {i : Int32} (h : 0 ≤ i.toInt) : ¬ i < 0 := by rw [own_ltI, show (0 : Int32).toInt = 0 from rfl]; omega
theorem own_tnc (i : Int32) : i.toNatClampNeg = i.toInt.toNat := rfl
theorem own_inc {i : Int32} (h : i.toInt < 2147483647) : (i + 1).toInt = i.toInt + 1 := by
  have e := c_iadd i 1
  have r := rng32 (i + 1)
  have r2 := rng32 i
  rw [show (1 : Int32).toInt = 1 from rfl] at e
  omega
theorem own_rem (a m : Int32) (hm : 0 < m.toInt) : 0 ≤ ((a &&& 2147483647) % m).toInt ∧ ((a &&& 2147483647) % m).toInt < m.toInt := by
  have e1 := c_mask a 2147483647 31 (by decide) (by decide)
  have e2 := (c_iremV (a &&& 2147483647) m).1 (by rw [e1]; omega) hm
  exact ⟨e2.1, e2.2.1⟩
theorem cm_lt (x y : Int64) : XT.cmpL x y < 0 ↔ x < y := by unfold XT.cmpL; split <;> (try split) <;> simp_all [Int64.lt_iff_toInt_lt, ← Int64.toInt_inj] <;> omega
theorem cm_gt (x y : Int64) : 0 < XT.cmpL x y ↔ y < x := by unfold XT.cmpL; split <;> (try split) <;> simp_all [Int64.lt_iff_toInt_lt, ← Int64.toInt_inj] <;> omega
theorem cm_eq (x y : Int64) : XT.cmpL x y = 0 ↔ x = y := by unfold XT.cmpL; split <;> (try split) <;> simp_all [Int64.lt_iff_toInt_lt, ← Int64.toInt_inj] <;> omega
theorem own_b1 {P : Prop} [Decidable P] (q : P) : some (Value.int (nar .boolean 1)) = some (.int (if P then 1 else 0)) := by rw [if_pos q]; rfl
theorem own_b0 {P : Prop} [Decidable P] (q : ¬ P) : some (Value.int (nar .boolean 0)) = some (.int (if P then 1 else 0)) := by rw [if_neg q]; rfl
theorem d1_0 : decode jdk_42_method_3_code 0 = .ok (.aload_n 0, 1) := by decide +kernel
theorem d1_1 : decode jdk_42_method_3_code 1 = .ok (.aload_n 1, 1) := by decide +kernel
theorem d1_2 : decode jdk_42_method_3_code 2 = .ok (.iconst 0, 1) := by decide +kernel
theorem d1_3 : decode jdk_42_method_3_code 3 = .ok (.aload_n 1, 1) := by decide +kernel
theorem d1_4 : decode jdk_42_method_3_code 4 = .ok (.arraylength, 1) := by decide +kernel
theorem d1_5 : decode jdk_42_method_3_code 5 = .ok (.aconst_null, 1) := by decide +kernel
theorem d1_6 : decode jdk_42_method_3_code 6 = .ok (.invokespecial 27, 3) := by decide +kernel
theorem d1_9 : decode jdk_42_method_3_code 9 = .ok (.return_, 1) := by decide +kernel
theorem d2_0 : decode jdk_42_method_149_code 0 = .ok (.aload_n 0, 1) := by decide +kernel
theorem d2_1 : decode jdk_42_method_149_code 1 = .ok (.invokespecial 1, 3) := by decide +kernel
theorem d2_4 : decode jdk_42_method_149_code 4 = .ok (.iload_n 3, 1) := by decide +kernel
theorem d2_5 : decode jdk_42_method_149_code 5 = .ok (.ifCond .ne 22, 3) := by decide +kernel
theorem d2_27 : decode jdk_42_method_149_code 27 = .ok (.getstatic 38, 3) := by decide +kernel
theorem d2_30 : decode jdk_42_method_149_code 30 = .ok (.ifCond .eq 28, 3) := by decide +kernel
theorem d2_33 : decode jdk_42_method_149_code 33 = .ok (.aload_n 1, 1) := by decide +kernel
theorem d2_34 : decode jdk_42_method_149_code 34 = .ok (.iload_n 2, 1) := by decide +kernel
theorem d2_35 : decode jdk_42_method_149_code 35 = .ok (.iload_n 3, 1) := by decide +kernel
theorem d2_36 : decode jdk_42_method_149_code 36 = .ok (.invokestatic 177, 3) := by decide +kernel
theorem d2_39 : decode jdk_42_method_149_code 39 = .ok (.astore 5, 2) := by decide +kernel
theorem d2_41 : decode jdk_42_method_149_code 41 = .ok (.aload_n 0, 1) := by decide +kernel
theorem d2_42 : decode jdk_42_method_149_code 42 = .ok (.aload 5, 2) := by decide +kernel
theorem d2_44 : decode jdk_42_method_149_code 44 = .ok (.iload_n 3, 1) := by decide +kernel
theorem d2_45 : decode jdk_42_method_149_code 45 = .ok (.invokestatic 47, 3) := by decide +kernel
theorem d2_48 : decode jdk_42_method_149_code 48 = .ok (.putfield 15, 3) := by decide +kernel
theorem d2_51 : decode jdk_42_method_149_code 51 = .ok (.aload_n 0, 1) := by decide +kernel
theorem d2_52 : decode jdk_42_method_149_code 52 = .ok (.aload 5, 2) := by decide +kernel
theorem d2_54 : decode jdk_42_method_149_code 54 = .ok (.putfield 9, 3) := by decide +kernel
theorem d2_57 : decode jdk_42_method_149_code 57 = .ok (.return_, 1) := by decide +kernel
theorem d4_0 : decode jdk_52_method_16_code 0 = .ok (.iload_n 2, 1) := by decide +kernel
theorem d4_1 : decode jdk_52_method_16_code 1 = .ok (.newarray .byte, 2) := by decide +kernel
theorem d4_3 : decode jdk_52_method_16_code 3 = .ok (.astore_n 3, 1) := by decide +kernel
theorem d4_4 : decode jdk_52_method_16_code 4 = .ok (.aload_n 0, 1) := by decide +kernel
theorem d4_5 : decode jdk_52_method_16_code 5 = .ok (.iload_n 1, 1) := by decide +kernel
theorem d4_6 : decode jdk_52_method_16_code 6 = .ok (.aload_n 3, 1) := by decide +kernel
theorem d4_7 : decode jdk_52_method_16_code 7 = .ok (.iconst 0, 1) := by decide +kernel
theorem d4_8 : decode jdk_52_method_16_code 8 = .ok (.iload_n 2, 1) := by decide +kernel
theorem d4_9 : decode jdk_52_method_16_code 9 = .ok (.invokestatic 115, 3) := by decide +kernel
theorem d4_12 : decode jdk_52_method_16_code 12 = .ok (.istore 4, 2) := by decide +kernel
theorem d4_14 : decode jdk_52_method_16_code 14 = .ok (.iload 4, 2) := by decide +kernel
theorem d4_16 : decode jdk_52_method_16_code 16 = .ok (.iload_n 2, 1) := by decide +kernel
theorem d4_17 : decode jdk_52_method_16_code 17 = .ok (.if_icmp .eq 40, 3) := by decide +kernel
theorem d4_57 : decode jdk_52_method_16_code 57 = .ok (.aload_n 3, 1) := by decide +kernel
theorem d4_58 : decode jdk_52_method_16_code 58 = .ok (.areturn, 1) := by decide +kernel
theorem d5_0 : decode jdk_52_method_21_code 0 = .ok (.iconst 0, 1) := by decide +kernel
theorem d5_1 : decode jdk_52_method_21_code 1 = .ok (.istore 5, 2) := by decide +kernel
theorem d5_3 : decode jdk_52_method_21_code 3 = .ok (.iload 5, 2) := by decide +kernel
theorem d5_5 : decode jdk_52_method_21_code 5 = .ok (.iload 4, 2) := by decide +kernel
theorem d5_7 : decode jdk_52_method_21_code 7 = .ok (.if_icmp .ge 37, 3) := by decide +kernel
theorem d5_10 : decode jdk_52_method_21_code 10 = .ok (.aload_n 0, 1) := by decide +kernel
theorem d5_11 : decode jdk_52_method_21_code 11 = .ok (.iload_n 1, 1) := by decide +kernel
theorem d5_12 : decode jdk_52_method_21_code 12 = .ok (.caload, 1) := by decide +kernel
theorem d5_13 : decode jdk_52_method_21_code 13 = .ok (.istore 6, 2) := by decide +kernel
theorem d5_15 : decode jdk_52_method_21_code 15 = .ok (.iload 6, 2) := by decide +kernel
theorem d5_17 : decode jdk_52_method_21_code 17 = .ok (.sipush 255, 3) := by decide +kernel
theorem d5_20 : decode jdk_52_method_21_code 20 = .ok (.if_icmp .le 6, 3) := by decide +kernel
theorem d5_26 : decode jdk_52_method_21_code 26 = .ok (.aload_n 2, 1) := by decide +kernel
theorem d5_27 : decode jdk_52_method_21_code 27 = .ok (.iload_n 3, 1) := by decide +kernel
theorem d5_28 : decode jdk_52_method_21_code 28 = .ok (.iload 6, 2) := by decide +kernel
theorem d5_30 : decode jdk_52_method_21_code 30 = .ok (.i2b, 1) := by decide +kernel
theorem d5_31 : decode jdk_52_method_21_code 31 = .ok (.bastore, 1) := by decide +kernel
theorem d5_32 : decode jdk_52_method_21_code 32 = .ok (.iinc 1 1, 3) := by decide +kernel
theorem d5_35 : decode jdk_52_method_21_code 35 = .ok (.iinc 3 1, 3) := by decide +kernel
theorem d5_38 : decode jdk_52_method_21_code 38 = .ok (.iinc 5 1, 3) := by decide +kernel
theorem d5_41 : decode jdk_52_method_21_code 41 = .ok (.goto (-38), 3) := by decide +kernel
theorem d5_44 : decode jdk_52_method_21_code 44 = .ok (.iload 4, 2) := by decide +kernel
theorem d5_46 : decode jdk_52_method_21_code 46 = .ok (.ireturn, 1) := by decide +kernel
theorem d6_0 : decode jdk_52_method_15_code 0 = .ok (.iload_n 1, 1) := by decide +kernel
theorem d6_1 : decode jdk_52_method_15_code 1 = .ok (.aload_n 0, 1) := by decide +kernel
theorem d6_2 : decode jdk_52_method_15_code 2 = .ok (.arraylength, 1) := by decide +kernel
theorem d6_3 : decode jdk_52_method_15_code 3 = .ok (.isub, 1) := by decide +kernel
theorem d6_4 : decode jdk_52_method_15_code 4 = .ok (.bipush 31, 2) := by decide +kernel
theorem d6_6 : decode jdk_52_method_15_code 6 = .ok (.iushr, 1) := by decide +kernel
theorem d6_7 : decode jdk_52_method_15_code 7 = .ok (.i2b, 1) := by decide +kernel
theorem d6_8 : decode jdk_52_method_15_code 8 = .ok (.ireturn, 1) := by decide +kernel
theorem d7_0 : decode jdk_29_method_69_code 0 = .ok (.iload_n 0, 1) := by decide +kernel
theorem d7_1 : decode jdk_29_method_69_code 1 = .ok (.iload_n 1, 1) := by decide +kernel
theorem d7_2 : decode jdk_29_method_69_code 2 = .ok (.if_icmp .gt 7, 3) := by decide +kernel
theorem d7_5 : decode jdk_29_method_69_code 5 = .ok (.iload_n 0, 1) := by decide +kernel
theorem d7_6 : decode jdk_29_method_69_code 6 = .ok (.goto 4, 3) := by decide +kernel
theorem d7_9 : decode jdk_29_method_69_code 9 = .ok (.iload_n 1, 1) := by decide +kernel
theorem d7_10 : decode jdk_29_method_69_code 10 = .ok (.ireturn, 1) := by decide +kernel
theorem d8_0 : decode jdk_29_method_65_code 0 = .ok (.iload_n 0, 1) := by decide +kernel
theorem d8_1 : decode jdk_29_method_65_code 1 = .ok (.iload_n 1, 1) := by decide +kernel
theorem d8_2 : decode jdk_29_method_65_code 2 = .ok (.if_icmp .lt 7, 3) := by decide +kernel
theorem d8_5 : decode jdk_29_method_65_code 5 = .ok (.iload_n 0, 1) := by decide +kernel
theorem d8_6 : decode jdk_29_method_65_code 6 = .ok (.goto 4, 3) := by decide +kernel
theorem d8_9 : decode jdk_29_method_65_code 9 = .ok (.iload_n 1, 1) := by decide +kernel
theorem d8_10 : decode jdk_29_method_65_code 10 = .ok (.ireturn, 1) := by decide +kernel
theorem d9_0 : decode method_2_code 0 = .ok (.iload_n 1, 1) := by decide +kernel
theorem d9_1 : decode method_2_code 1 = .ok (.iload_n 0, 1) := by decide +kernel
theorem d9_2 : decode method_2_code 2 = .ok (.if_icmp .gt 12, 3) := by decide +kernel
theorem d9_5 : decode method_2_code 5 = .ok (.iload_n 0, 1) := by decide +kernel
theorem d9_6 : decode method_2_code 6 = .ok (.iload_n 2, 1) := by decide +kernel
theorem d9_7 : decode method_2_code 7 = .ok (.if_icmp .gt 7, 3) := by decide +kernel
theorem d9_10 : decode method_2_code 10 = .ok (.iconst 1, 1) := by decide +kernel
theorem d9_11 : decode method_2_code 11 = .ok (.goto 4, 3) := by decide +kernel
theorem d9_14 : decode method_2_code 14 = .ok (.iconst 0, 1) := by decide +kernel
theorem d9_15 : decode method_2_code 15 = .ok (.ireturn, 1) := by decide +kernel
theorem d10_0 : decode prog_7_method_2_code 0 = .ok (.new 26, 3) := by decide +kernel
theorem d10_3 : decode prog_7_method_2_code 3 = .ok (.dup, 1) := by decide +kernel
theorem d10_4 : decode prog_7_method_2_code 4 = .ok (.invokespecial 28, 3) := by decide +kernel
theorem d10_7 : decode prog_7_method_2_code 7 = .ok (.iload_n 0, 1) := by decide +kernel
theorem d10_8 : decode prog_7_method_2_code 8 = .ok (.iload_n 1, 1) := by decide +kernel
theorem d10_9 : decode prog_7_method_2_code 9 = .ok (.invokevirtual 29, 3) := by decide +kernel
theorem d10_12 : decode prog_7_method_2_code 12 = .ok (.iconst 0, 1) := by decide +kernel
theorem d10_13 : decode prog_7_method_2_code 13 = .ok (.invokevirtual 33, 3) := by decide +kernel
theorem d10_16 : decode prog_7_method_2_code 16 = .ok (.areturn, 1) := by decide +kernel
theorem d11_0 : decode prog_8_method_1_code 0 = .ok (.aload_n 0, 1) := by decide +kernel
theorem d11_1 : decode prog_8_method_1_code 1 = .ok (.invokespecial 1, 3) := by decide +kernel
theorem d11_4 : decode prog_8_method_1_code 4 = .ok (.aload_n 0, 1) := by decide +kernel
theorem d11_5 : decode prog_8_method_1_code 5 = .ok (.bipush 8, 2) := by decide +kernel
theorem d11_7 : decode prog_8_method_1_code 7 = .ok (.newarray .int, 2) := by decide +kernel
theorem d11_9 : decode prog_8_method_1_code 9 = .ok (.putfield 7, 3) := by decide +kernel
theorem d11_12 : decode prog_8_method_1_code 12 = .ok (.return_, 1) := by decide +kernel
theorem d12_0 : decode prog_8_method_2_code 0 = .ok (.aload_n 0, 1) := by decide +kernel
theorem d12_1 : decode prog_8_method_2_code 1 = .ok (.getfield 13, 3) := by decide +kernel
theorem d12_4 : decode prog_8_method_2_code 4 = .ok (.aload_n 0, 1) := by decide +kernel
theorem d12_5 : decode prog_8_method_2_code 5 = .ok (.getfield 7, 3) := by decide +kernel
theorem d12_8 : decode prog_8_method_2_code 8 = .ok (.arraylength, 1) := by decide +kernel
theorem d12_9 : decode prog_8_method_2_code 9 = .ok (.if_icmp .ne 20, 3) := by decide +kernel
theorem d12_29 : decode prog_8_method_2_code 29 = .ok (.aload_n 0, 1) := by decide +kernel
theorem d12_30 : decode prog_8_method_2_code 30 = .ok (.getfield 7, 3) := by decide +kernel
theorem d12_33 : decode prog_8_method_2_code 33 = .ok (.aload_n 0, 1) := by decide +kernel
theorem d12_34 : decode prog_8_method_2_code 34 = .ok (.getfield 13, 3) := by decide +kernel
theorem d12_37 : decode prog_8_method_2_code 37 = .ok (.iload_n 1, 1) := by decide +kernel
theorem d12_38 : decode prog_8_method_2_code 38 = .ok (.iastore, 1) := by decide +kernel
theorem d12_39 : decode prog_8_method_2_code 39 = .ok (.aload_n 0, 1) := by decide +kernel
theorem d12_40 : decode prog_8_method_2_code 40 = .ok (.getfield 7, 3) := by decide +kernel
theorem d12_43 : decode prog_8_method_2_code 43 = .ok (.aload_n 0, 1) := by decide +kernel
theorem d12_44 : decode prog_8_method_2_code 44 = .ok (.getfield 13, 3) := by decide +kernel
theorem d12_47 : decode prog_8_method_2_code 47 = .ok (.iconst 1, 1) := by decide +kernel
theorem d12_48 : decode prog_8_method_2_code 48 = .ok (.iadd, 1) := by decide +kernel
theorem d12_49 : decode prog_8_method_2_code 49 = .ok (.iload_n 2, 1) := by decide +kernel
theorem d12_50 : decode prog_8_method_2_code 50 = .ok (.iastore, 1) := by decide +kernel
theorem d12_51 : decode prog_8_method_2_code 51 = .ok (.aload_n 0, 1) := by decide +kernel
theorem d12_52 : decode prog_8_method_2_code 52 = .ok (.dup, 1) := by decide +kernel
theorem d12_53 : decode prog_8_method_2_code 53 = .ok (.getfield 13, 3) := by decide +kernel
theorem d12_56 : decode prog_8_method_2_code 56 = .ok (.iconst 2, 1) := by decide +kernel
theorem d12_57 : decode prog_8_method_2_code 57 = .ok (.iadd, 1) := by decide +kernel
theorem d12_58 : decode prog_8_method_2_code 58 = .ok (.putfield 13, 3) := by decide +kernel
theorem d12_61 : decode prog_8_method_2_code 61 = .ok (.aload_n 0, 1) := by decide +kernel
theorem d12_62 : decode prog_8_method_2_code 62 = .ok (.areturn, 1) := by decide +kernel
theorem d13_0 : decode prog_8_method_4_code 0 = .ok (.aload_n 0, 1) := by decide +kernel
theorem d13_1 : decode prog_8_method_4_code 1 = .ok (.getfield 13, 3) := by decide +kernel
theorem d13_4 : decode prog_8_method_4_code 4 = .ok (.iconst 2, 1) := by decide +kernel
theorem d13_5 : decode prog_8_method_4_code 5 = .ok (.idiv, 1) := by decide +kernel
theorem d13_6 : decode prog_8_method_4_code 6 = .ok (.newarray .long, 2) := by decide +kernel
theorem d13_8 : decode prog_8_method_4_code 8 = .ok (.astore_n 2, 1) := by decide +kernel
theorem d13_9 : decode prog_8_method_4_code 9 = .ok (.iconst 0, 1) := by decide +kernel
theorem d13_10 : decode prog_8_method_4_code 10 = .ok (.istore_n 3, 1) := by decide +kernel
theorem d13_11 : decode prog_8_method_4_code 11 = .ok (.iload_n 3, 1) := by decide +kernel
theorem d13_12 : decode prog_8_method_4_code 12 = .ok (.aload_n 2, 1) := by decide +kernel
theorem d13_13 : decode prog_8_method_4_code 13 = .ok (.arraylength, 1) := by decide +kernel
theorem d13_14 : decode prog_8_method_4_code 14 = .ok (.if_icmp .ge 36, 3) := by decide +kernel
theorem d13_17 : decode prog_8_method_4_code 17 = .ok (.aload_n 2, 1) := by decide +kernel
theorem d13_18 : decode prog_8_method_4_code 18 = .ok (.iload_n 3, 1) := by decide +kernel
theorem d13_19 : decode prog_8_method_4_code 19 = .ok (.aload_n 0, 1) := by decide +kernel
theorem d13_20 : decode prog_8_method_4_code 20 = .ok (.getfield 7, 3) := by decide +kernel
theorem d13_23 : decode prog_8_method_4_code 23 = .ok (.iconst 2, 1) := by decide +kernel
theorem d13_24 : decode prog_8_method_4_code 24 = .ok (.iload_n 3, 1) := by decide +kernel
theorem d13_25 : decode prog_8_method_4_code 25 = .ok (.imul, 1) := by decide +kernel
theorem d13_26 : decode prog_8_method_4_code 26 = .ok (.iaload, 1) := by decide +kernel
theorem d13_27 : decode prog_8_method_4_code 27 = .ok (.i2l, 1) := by decide +kernel
theorem d13_28 : decode prog_8_method_4_code 28 = .ok (.bipush 32, 2) := by decide +kernel
theorem d13_30 : decode prog_8_method_4_code 30 = .ok (.lshl, 1) := by decide +kernel
theorem d13_31 : decode prog_8_method_4_code 31 = .ok (.aload_n 0, 1) := by decide +kernel
theorem d13_32 : decode prog_8_method_4_code 32 = .ok (.getfield 7, 3) := by decide +kernel
theorem d13_35 : decode prog_8_method_4_code 35 = .ok (.iconst 2, 1) := by decide +kernel
theorem d13_36 : decode prog_8_method_4_code 36 = .ok (.iload_n 3, 1) := by decide +kernel
theorem d13_37 : decode prog_8_method_4_code 37 = .ok (.imul, 1) := by decide +kernel
theorem d13_38 : decode prog_8_method_4_code 38 = .ok (.iconst 1, 1) := by decide +kernel
theorem d13_39 : decode prog_8_method_4_code 39 = .ok (.iadd, 1) := by decide +kernel
theorem d13_40 : decode prog_8_method_4_code 40 = .ok (.iaload, 1) := by decide +kernel
theorem d13_41 : decode prog_8_method_4_code 41 = .ok (.i2l, 1) := by decide +kernel
theorem d13_42 : decode prog_8_method_4_code 42 = .ok (.lor, 1) := by decide +kernel
theorem d13_43 : decode prog_8_method_4_code 43 = .ok (.lastore, 1) := by decide +kernel
theorem d13_44 : decode prog_8_method_4_code 44 = .ok (.iinc 3 1, 3) := by decide +kernel
theorem d13_47 : decode prog_8_method_4_code 47 = .ok (.goto (-36), 3) := by decide +kernel
theorem d13_50 : decode prog_8_method_4_code 50 = .ok (.aload_n 2, 1) := by decide +kernel
theorem d13_51 : decode prog_8_method_4_code 51 = .ok (.invokestatic 30, 3) := by decide +kernel
theorem d13_54 : decode prog_8_method_4_code 54 = .ok (.aload_n 0, 1) := by decide +kernel
theorem d13_55 : decode prog_8_method_4_code 55 = .ok (.getfield 13, 3) := by decide +kernel
theorem d13_58 : decode prog_8_method_4_code 58 = .ok (.newarray .int, 2) := by decide +kernel
theorem d13_60 : decode prog_8_method_4_code 60 = .ok (.astore_n 3, 1) := by decide +kernel
theorem d13_61 : decode prog_8_method_4_code 61 = .ok (.iconst 0, 1) := by decide +kernel
theorem d13_62 : decode prog_8_method_4_code 62 = .ok (.istore 4, 2) := by decide +kernel
theorem d13_64 : decode prog_8_method_4_code 64 = .ok (.aload_n 2, 1) := by decide +kernel
theorem d13_65 : decode prog_8_method_4_code 65 = .ok (.astore 5, 2) := by decide +kernel
theorem d13_67 : decode prog_8_method_4_code 67 = .ok (.aload 5, 2) := by decide +kernel
theorem d13_69 : decode prog_8_method_4_code 69 = .ok (.arraylength, 1) := by decide +kernel
theorem d13_70 : decode prog_8_method_4_code 70 = .ok (.istore 6, 2) := by decide +kernel
theorem d13_72 : decode prog_8_method_4_code 72 = .ok (.iconst 0, 1) := by decide +kernel
theorem d13_73 : decode prog_8_method_4_code 73 = .ok (.istore 7, 2) := by decide +kernel
theorem d13_75 : decode prog_8_method_4_code 75 = .ok (.iload 7, 2) := by decide +kernel
theorem d13_77 : decode prog_8_method_4_code 77 = .ok (.iload 6, 2) := by decide +kernel
theorem d13_79 : decode prog_8_method_4_code 79 = .ok (.if_icmp .ge 84, 3) := by decide +kernel
theorem d13_82 : decode prog_8_method_4_code 82 = .ok (.aload 5, 2) := by decide +kernel
theorem d13_84 : decode prog_8_method_4_code 84 = .ok (.iload 7, 2) := by decide +kernel
theorem d13_86 : decode prog_8_method_4_code 86 = .ok (.laload, 1) := by decide +kernel
theorem d13_87 : decode prog_8_method_4_code 87 = .ok (.lstore 8, 2) := by decide +kernel
theorem d13_89 : decode prog_8_method_4_code 89 = .ok (.lload 8, 2) := by decide +kernel
theorem d13_91 : decode prog_8_method_4_code 91 = .ok (.bipush 32, 2) := by decide +kernel
theorem d13_93 : decode prog_8_method_4_code 93 = .ok (.lushr, 1) := by decide +kernel
theorem d13_94 : decode prog_8_method_4_code 94 = .ok (.l2i, 1) := by decide +kernel
theorem d13_95 : decode prog_8_method_4_code 95 = .ok (.istore 10, 2) := by decide +kernel
theorem d13_97 : decode prog_8_method_4_code 97 = .ok (.lload 8, 2) := by decide +kernel
theorem d13_99 : decode prog_8_method_4_code 99 = .ok (.l2i, 1) := by decide +kernel
theorem d13_100 : decode prog_8_method_4_code 100 = .ok (.istore 11, 2) := by decide +kernel
theorem d13_102 : decode prog_8_method_4_code 102 = .ok (.iload 4, 2) := by decide +kernel
theorem d13_104 : decode prog_8_method_4_code 104 = .ok (.ifCond .le 36, 3) := by decide +kernel
theorem d13_140 : decode prog_8_method_4_code 140 = .ok (.aload_n 3, 1) := by decide +kernel
theorem d13_141 : decode prog_8_method_4_code 141 = .ok (.iload 4, 2) := by decide +kernel
theorem d13_143 : decode prog_8_method_4_code 143 = .ok (.iload 10, 2) := by decide +kernel
theorem d13_145 : decode prog_8_method_4_code 145 = .ok (.iastore, 1) := by decide +kernel
theorem d13_146 : decode prog_8_method_4_code 146 = .ok (.aload_n 3, 1) := by decide +kernel
theorem d13_147 : decode prog_8_method_4_code 147 = .ok (.iload 4, 2) := by decide +kernel
theorem d13_149 : decode prog_8_method_4_code 149 = .ok (.iconst 1, 1) := by decide +kernel
theorem d13_150 : decode prog_8_method_4_code 150 = .ok (.iadd, 1) := by decide +kernel
theorem d13_151 : decode prog_8_method_4_code 151 = .ok (.iload 11, 2) := by decide +kernel
theorem d13_153 : decode prog_8_method_4_code 153 = .ok (.iastore, 1) := by decide +kernel
theorem d13_154 : decode prog_8_method_4_code 154 = .ok (.iinc 4 2, 3) := by decide +kernel
theorem d13_157 : decode prog_8_method_4_code 157 = .ok (.iinc 7 1, 3) := by decide +kernel
theorem d13_160 : decode prog_8_method_4_code 160 = .ok (.goto (-85), 3) := by decide +kernel
theorem d13_163 : decode prog_8_method_4_code 163 = .ok (.iload_n 1, 1) := by decide +kernel
theorem d13_164 : decode prog_8_method_4_code 164 = .ok (.ifCond .eq 113, 3) := by decide +kernel
theorem d13_277 : decode prog_8_method_4_code 277 = .ok (.aload_n 3, 1) := by decide +kernel
theorem d13_278 : decode prog_8_method_4_code 278 = .ok (.iload 4, 2) := by decide +kernel
theorem d13_280 : decode prog_8_method_4_code 280 = .ok (.invokestatic 17, 3) := by decide +kernel
theorem d13_283 : decode prog_8_method_4_code 283 = .ok (.astore 5, 2) := by decide +kernel
theorem d13_285 : decode prog_8_method_4_code 285 = .ok (.new 24, 3) := by decide +kernel
theorem d13_288 : decode prog_8_method_4_code 288 = .ok (.dup, 1) := by decide +kernel
theorem d13_289 : decode prog_8_method_4_code 289 = .ok (.aload 5, 2) := by decide +kernel
theorem d13_291 : decode prog_8_method_4_code 291 = .ok (.invokespecial 43, 3) := by decide +kernel
theorem d13_294 : decode prog_8_method_4_code 294 = .ok (.areturn, 1) := by decide +kernel
theorem d14_0 : decode jdk_65_method_4_code 0 = .ok (.aload_n 0, 1) := by decide +kernel
theorem d14_1 : decode jdk_65_method_4_code 1 = .ok (.iconst 0, 1) := by decide +kernel
theorem d14_2 : decode jdk_65_method_4_code 2 = .ok (.iconst 0, 1) := by decide +kernel
theorem d14_3 : decode jdk_65_method_4_code 3 = .ok (.aload_n 0, 1) := by decide +kernel
theorem d14_4 : decode jdk_65_method_4_code 4 = .ok (.arraylength, 1) := by decide +kernel
theorem d14_5 : decode jdk_65_method_4_code 5 = .ok (.invokestatic 19, 3) := by decide +kernel
theorem d14_8 : decode jdk_65_method_4_code 8 = .ok (.return_, 1) := by decide +kernel
theorem d15_0 : decode jdk_2529_method_12_code 0 = .ok (.iload_n 3, 1) := by decide +kernel
theorem d15_1 : decode jdk_2529_method_12_code 1 = .ok (.iload_n 2, 1) := by decide +kernel
theorem d15_2 : decode jdk_2529_method_12_code 2 = .ok (.isub, 1) := by decide +kernel
theorem d15_3 : decode jdk_2529_method_12_code 3 = .ok (.istore 4, 2) := by decide +kernel
theorem d15_5 : decode jdk_2529_method_12_code 5 = .ok (.iload_n 1, 1) := by decide +kernel
theorem d15_6 : decode jdk_2529_method_12_code 6 = .ok (.iconst 1, 1) := by decide +kernel
theorem d15_7 : decode jdk_2529_method_12_code 7 = .ok (.if_icmp .le 61, 3) := by decide +kernel
theorem d15_68 : decode jdk_2529_method_12_code 68 = .ok (.aconst_null, 1) := by decide +kernel
theorem d15_69 : decode jdk_2529_method_12_code 69 = .ok (.aload_n 0, 1) := by decide +kernel
theorem d15_70 : decode jdk_2529_method_12_code 70 = .ok (.iconst 0, 1) := by decide +kernel
theorem d15_71 : decode jdk_2529_method_12_code 71 = .ok (.iload_n 2, 1) := by decide +kernel
theorem d15_72 : decode jdk_2529_method_12_code 72 = .ok (.iload_n 3, 1) := by decide +kernel
theorem d15_73 : decode jdk_2529_method_12_code 73 = .ok (.invokestatic 99, 3) := by decide +kernel
theorem d15_76 : decode jdk_2529_method_12_code 76 = .ok (.return_, 1) := by decide +kernel
theorem d16_0 : decode jdk_2529_method_13_code 0 = .ok (.iload 4, 2) := by decide +kernel
theorem d16_2 : decode jdk_2529_method_13_code 2 = .ok (.iconst 1, 1) := by decide +kernel
theorem d16_3 : decode jdk_2529_method_13_code 3 = .ok (.isub, 1) := by decide +kernel
theorem d16_4 : decode jdk_2529_method_13_code 4 = .ok (.istore 5, 2) := by decide +kernel
theorem d16_6 : decode jdk_2529_method_13_code 6 = .ok (.iload 4, 2) := by decide +kernel
theorem d16_8 : decode jdk_2529_method_13_code 8 = .ok (.iload_n 3, 1) := by decide +kernel
theorem d16_9 : decode jdk_2529_method_13_code 9 = .ok (.isub, 1) := by decide +kernel
theorem d16_10 : decode jdk_2529_method_13_code 10 = .ok (.istore 6, 2) := by decide +kernel
theorem d16_12 : decode jdk_2529_method_13_code 12 = .ok (.iload 6, 2) := by decide +kernel
theorem d16_14 : decode jdk_2529_method_13_code 14 = .ok (.bipush 65, 2) := by decide +kernel
theorem d16_16 : decode jdk_2529_method_13_code 16 = .ok (.iload_n 2, 1) := by decide +kernel
theorem d16_17 : decode jdk_2529_method_13_code 17 = .ok (.iadd, 1) := by decide +kernel
theorem d16_18 : decode jdk_2529_method_13_code 18 = .ok (.if_icmp .ge 28, 3) := by decide +kernel
theorem d16_21 : decode jdk_2529_method_13_code 21 = .ok (.iload_n 2, 1) := by decide +kernel
theorem d16_22 : decode jdk_2529_method_13_code 22 = .ok (.iconst 1, 1) := by decide +kernel
theorem d16_23 : decode jdk_2529_method_13_code 23 = .ok (.iand, 1) := by decide +kernel
theorem d16_24 : decode jdk_2529_method_13_code 24 = .ok (.ifCond .le 22, 3) := by decide +kernel
theorem d16_46 : decode jdk_2529_method_13_code 46 = .ok (.iload 6, 2) := by decide +kernel
theorem d16_48 : decode jdk_2529_method_13_code 48 = .ok (.bipush 44, 2) := by decide +kernel
theorem d16_50 : decode jdk_2529_method_13_code 50 = .ok (.if_icmp .ge 11, 3) := by decide +kernel
theorem d16_53 : decode jdk_2529_method_13_code 53 = .ok (.aload_n 1, 1) := by decide +kernel
theorem d16_54 : decode jdk_2529_method_13_code 54 = .ok (.iload_n 3, 1) := by decide +kernel
theorem d16_55 : decode jdk_2529_method_13_code 55 = .ok (.iload 4, 2) := by decide +kernel
theorem d16_57 : decode jdk_2529_method_13_code 57 = .ok (.invokestatic 105, 3) := by decide +kernel
theorem d16_60 : decode jdk_2529_method_13_code 60 = .ok (.return_, 1) := by decide +kernel
theorem d17_0 : decode jdk_2529_method_15_code 0 = .ok (.iload_n 1, 1) := by decide +kernel
theorem d17_1 : decode jdk_2529_method_15_code 1 = .ok (.istore 4, 2) := by decide +kernel
theorem d17_3 : decode jdk_2529_method_15_code 3 = .ok (.iinc 4 1, 3) := by decide +kernel
theorem d17_6 : decode jdk_2529_method_15_code 6 = .ok (.iload 4, 2) := by decide +kernel
theorem d17_8 : decode jdk_2529_method_15_code 8 = .ok (.iload_n 2, 1) := by decide +kernel
theorem d17_9 : decode jdk_2529_method_15_code 9 = .ok (.if_icmp .ge 60, 3) := by decide +kernel
theorem d17_69 : decode jdk_2529_method_15_code 69 = .ok (.return_, 1) := by decide +kernel
theorem d18_0 : decode jdk_65_method_123_code 0 = .ok (.iload_n 1, 1) := by decide +kernel
theorem d18_1 : decode jdk_65_method_123_code 1 = .ok (.aload_n 0, 1) := by decide +kernel
theorem d18_2 : decode jdk_65_method_123_code 2 = .ok (.arraylength, 1) := by decide +kernel
theorem d18_3 : decode jdk_65_method_123_code 3 = .ok (.if_icmp .ne 11, 3) := by decide +kernel
theorem d18_6 : decode jdk_65_method_123_code 6 = .ok (.aload_n 0, 1) := by decide +kernel
theorem d18_7 : decode jdk_65_method_123_code 7 = .ok (.invokevirtual 316, 3) := by decide +kernel
theorem d18_10 : decode jdk_65_method_123_code 10 = .ok (.checkcast 317, 3) := by decide +kernel
theorem d18_13 : decode jdk_65_method_123_code 13 = .ok (.areturn, 1) := by decide +kernel
theorem d19_0 : decode prog_7_method_1_code 0 = .ok (.aload_n 0, 1) := by decide +kernel
theorem d19_1 : decode prog_7_method_1_code 1 = .ok (.invokespecial 1, 3) := by decide +kernel
theorem d19_4 : decode prog_7_method_1_code 4 = .ok (.aload_n 0, 1) := by decide +kernel
theorem d19_5 : decode prog_7_method_1_code 5 = .ok (.aload_n 1, 1) := by decide +kernel
theorem d19_6 : decode prog_7_method_1_code 6 = .ok (.putfield 7, 3) := by decide +kernel
theorem d19_9 : decode prog_7_method_1_code 9 = .ok (.lconst 0, 1) := by decide +kernel
theorem d19_10 : decode prog_7_method_1_code 10 = .ok (.lstore_n 2, 1) := by decide +kernel
theorem d19_11 : decode prog_7_method_1_code 11 = .ok (.lconst 0, 1) := by decide +kernel
theorem d19_12 : decode prog_7_method_1_code 12 = .ok (.lstore 4, 2) := by decide +kernel
theorem d19_14 : decode prog_7_method_1_code 14 = .ok (.iconst 0, 1) := by decide +kernel
theorem d19_15 : decode prog_7_method_1_code 15 = .ok (.istore 6, 2) := by decide +kernel
theorem d19_17 : decode prog_7_method_1_code 17 = .ok (.iload 6, 2) := by decide +kernel
theorem d19_19 : decode prog_7_method_1_code 19 = .ok (.aload_n 1, 1) := by decide +kernel
theorem d19_20 : decode prog_7_method_1_code 20 = .ok (.arraylength, 1) := by decide +kernel
theorem d19_21 : decode prog_7_method_1_code 21 = .ok (.if_icmp .ge 76, 3) := by decide +kernel
theorem d19_24 : decode prog_7_method_1_code 24 = .ok (.aload_n 1, 1) := by decide +kernel
theorem d19_25 : decode prog_7_method_1_code 25 = .ok (.iload 6, 2) := by decide +kernel
theorem d19_27 : decode prog_7_method_1_code 27 = .ok (.iaload, 1) := by decide +kernel
theorem d19_28 : decode prog_7_method_1_code 28 = .ok (.sipush 128, 3) := by decide +kernel
theorem d19_31 : decode prog_7_method_1_code 31 = .ok (.if_icmp .ge 66, 3) := by decide +kernel
theorem d19_34 : decode prog_7_method_1_code 34 = .ok (.aload_n 1, 1) := by decide +kernel
theorem d19_35 : decode prog_7_method_1_code 35 = .ok (.iload 6, 2) := by decide +kernel
theorem d19_37 : decode prog_7_method_1_code 37 = .ok (.iaload, 1) := by decide +kernel
theorem d19_38 : decode prog_7_method_1_code 38 = .ok (.istore 7, 2) := by decide +kernel
theorem d19_40 : decode prog_7_method_1_code 40 = .ok (.iload 7, 2) := by decide +kernel
theorem d19_42 : decode prog_7_method_1_code 42 = .ok (.aload_n 1, 1) := by decide +kernel
theorem d19_43 : decode prog_7_method_1_code 43 = .ok (.iload 6, 2) := by decide +kernel
theorem d19_45 : decode prog_7_method_1_code 45 = .ok (.iconst 1, 1) := by decide +kernel
theorem d19_46 : decode prog_7_method_1_code 46 = .ok (.iadd, 1) := by decide +kernel
theorem d19_47 : decode prog_7_method_1_code 47 = .ok (.iaload, 1) := by decide +kernel
theorem d19_48 : decode prog_7_method_1_code 48 = .ok (.bipush 127, 2) := by decide +kernel
theorem d19_50 : decode prog_7_method_1_code 50 = .ok (.invokestatic 13, 3) := by decide +kernel
theorem d19_53 : decode prog_7_method_1_code 53 = .ok (.if_icmp .gt 38, 3) := by decide +kernel
theorem d19_56 : decode prog_7_method_1_code 56 = .ok (.iload 7, 2) := by decide +kernel
theorem d19_58 : decode prog_7_method_1_code 58 = .ok (.bipush 64, 2) := by decide +kernel
theorem d19_60 : decode prog_7_method_1_code 60 = .ok (.if_icmp .ge 13, 3) := by decide +kernel
theorem d19_63 : decode prog_7_method_1_code 63 = .ok (.lload_n 2, 1) := by decide +kernel
theorem d19_64 : decode prog_7_method_1_code 64 = .ok (.lconst 1, 1) := by decide +kernel
theorem d19_65 : decode prog_7_method_1_code 65 = .ok (.iload 7, 2) := by decide +kernel
theorem d19_67 : decode prog_7_method_1_code 67 = .ok (.lshl, 1) := by decide +kernel
theorem d19_68 : decode prog_7_method_1_code 68 = .ok (.lor, 1) := by decide +kernel
theorem d19_69 : decode prog_7_method_1_code 69 = .ok (.lstore_n 2, 1) := by decide +kernel
theorem d19_70 : decode prog_7_method_1_code 70 = .ok (.goto 15, 3) := by decide +kernel
theorem d19_73 : decode prog_7_method_1_code 73 = .ok (.lload 4, 2) := by decide +kernel
theorem d19_75 : decode prog_7_method_1_code 75 = .ok (.lconst 1, 1) := by decide +kernel
theorem d19_76 : decode prog_7_method_1_code 76 = .ok (.iload 7, 2) := by decide +kernel
theorem d19_78 : decode prog_7_method_1_code 78 = .ok (.bipush 64, 2) := by decide +kernel
theorem d19_80 : decode prog_7_method_1_code 80 = .ok (.isub, 1) := by decide +kernel
theorem d19_81 : decode prog_7_method_1_code 81 = .ok (.lshl, 1) := by decide +kernel
theorem d19_82 : decode prog_7_method_1_code 82 = .ok (.lor, 1) := by decide +kernel
theorem d19_83 : decode prog_7_method_1_code 83 = .ok (.lstore 4, 2) := by decide +kernel
theorem d19_85 : decode prog_7_method_1_code 85 = .ok (.iinc 7 1, 3) := by decide +kernel
theorem d19_88 : decode prog_7_method_1_code 88 = .ok (.goto (-48), 3) := by decide +kernel
theorem d19_91 : decode prog_7_method_1_code 91 = .ok (.iinc 6 2, 3) := by decide +kernel
theorem d19_94 : decode prog_7_method_1_code 94 = .ok (.goto (-77), 3) := by decide +kernel
theorem d19_97 : decode prog_7_method_1_code 97 = .ok (.aload_n 0, 1) := by decide +kernel
theorem d19_98 : decode prog_7_method_1_code 98 = .ok (.lload_n 2, 1) := by decide +kernel
theorem d19_99 : decode prog_7_method_1_code 99 = .ok (.putfield 19, 3) := by decide +kernel
theorem d19_102 : decode prog_7_method_1_code 102 = .ok (.aload_n 0, 1) := by decide +kernel
theorem d19_103 : decode prog_7_method_1_code 103 = .ok (.lload 4, 2) := by decide +kernel
theorem d19_105 : decode prog_7_method_1_code 105 = .ok (.putfield 23, 3) := by decide +kernel
theorem d19_108 : decode prog_7_method_1_code 108 = .ok (.return_, 1) := by decide +kernel
theorem d20_0 : decode prog_27_method_1_code 0 = .ok (.aload_n 0, 1) := by decide +kernel
theorem d20_1 : decode prog_27_method_1_code 1 = .ok (.invokespecial 1, 3) := by decide +kernel
theorem d20_4 : decode prog_27_method_1_code 4 = .ok (.aload_n 0, 1) := by decide +kernel
theorem d20_5 : decode prog_27_method_1_code 5 = .ok (.iconst 0, 1) := by decide +kernel
theorem d20_6 : decode prog_27_method_1_code 6 = .ok (.newarray .long, 2) := by decide +kernel
theorem d20_8 : decode prog_27_method_1_code 8 = .ok (.putfield 7, 3) := by decide +kernel
theorem d20_11 : decode prog_27_method_1_code 11 = .ok (.aload_n 0, 1) := by decide +kernel
theorem d20_12 : decode prog_27_method_1_code 12 = .ok (.iconst 0, 1) := by decide +kernel
theorem d20_13 : decode prog_27_method_1_code 13 = .ok (.newarray .int, 2) := by decide +kernel
theorem d20_15 : decode prog_27_method_1_code 15 = .ok (.putfield 13, 3) := by decide +kernel
theorem d20_18 : decode prog_27_method_1_code 18 = .ok (.return_, 1) := by decide +kernel
theorem d21_0 : decode prog_27_method_2_code 0 = .ok (.aload_n 1, 1) := by decide +kernel
theorem d21_1 : decode prog_27_method_2_code 1 = .ok (.aload_n 0, 1) := by decide +kernel
theorem d21_2 : decode prog_27_method_2_code 2 = .ok (.getfield 17, 3) := by decide +kernel
theorem d21_5 : decode prog_27_method_2_code 5 = .ok (.if_acmp .ne 11, 3) := by decide +kernel
theorem d21_8 : decode prog_27_method_2_code 8 = .ok (.aload_n 2, 1) := by decide +kernel
theorem d21_9 : decode prog_27_method_2_code 9 = .ok (.aload_n 0, 1) := by decide +kernel
theorem d21_10 : decode prog_27_method_2_code 10 = .ok (.getfield 21, 3) := by decide +kernel
theorem d21_13 : decode prog_27_method_2_code 13 = .ok (.if_acmp .eq 9, 3) := by decide +kernel
theorem d21_16 : decode prog_27_method_2_code 16 = .ok (.aload_n 0, 1) := by decide +kernel
theorem d21_17 : decode prog_27_method_2_code 17 = .ok (.aload_n 1, 1) := by decide +kernel
theorem d21_18 : decode prog_27_method_2_code 18 = .ok (.aload_n 2, 1) := by decide +kernel
theorem d21_19 : decode prog_27_method_2_code 19 = .ok (.invokevirtual 25, 3) := by decide +kernel
theorem d21_22 : decode prog_27_method_2_code 22 = .ok (.iload_n 3, 1) := by decide +kernel
theorem d21_23 : decode prog_27_method_2_code 23 = .ok (.bipush 6, 2) := by decide +kernel
theorem d21_25 : decode prog_27_method_2_code 25 = .ok (.iushr, 1) := by decide +kernel
theorem d21_26 : decode prog_27_method_2_code 26 = .ok (.istore 5, 2) := by decide +kernel
theorem d21_28 : decode prog_27_method_2_code 28 = .ok (.aload_n 0, 1) := by decide +kernel
theorem d21_29 : decode prog_27_method_2_code 29 = .ok (.iload 5, 2) := by decide +kernel
theorem d21_31 : decode prog_27_method_2_code 31 = .ok (.invokevirtual 29, 3) := by decide +kernel
theorem d21_34 : decode prog_27_method_2_code 34 = .ok (.aload_n 0, 1) := by decide +kernel
theorem d21_35 : decode prog_27_method_2_code 35 = .ok (.getfield 7, 3) := by decide +kernel
theorem d21_38 : decode prog_27_method_2_code 38 = .ok (.iload 5, 2) := by decide +kernel
theorem d21_40 : decode prog_27_method_2_code 40 = .ok (.laload, 1) := by decide +kernel
theorem d21_41 : decode prog_27_method_2_code 41 = .ok (.ldc2_w 33, 3) := by decide +kernel
theorem d21_44 : decode prog_27_method_2_code 44 = .ok (.lxor, 1) := by decide +kernel
theorem d21_45 : decode prog_27_method_2_code 45 = .ok (.ldc2_w 33, 3) := by decide +kernel
theorem d21_48 : decode prog_27_method_2_code 48 = .ok (.iload_n 3, 1) := by decide +kernel
theorem d21_49 : decode prog_27_method_2_code 49 = .ok (.lshl, 1) := by decide +kernel
theorem d21_50 : decode prog_27_method_2_code 50 = .ok (.land, 1) := by decide +kernel
theorem d21_51 : decode prog_27_method_2_code 51 = .ok (.lstore 6, 2) := by decide +kernel
theorem d21_53 : decode prog_27_method_2_code 53 = .ok (.lload 6, 2) := by decide +kernel
theorem d21_55 : decode prog_27_method_2_code 55 = .ok (.lconst 0, 1) := by decide +kernel
theorem d21_56 : decode prog_27_method_2_code 56 = .ok (.lcmp, 1) := by decide +kernel
theorem d21_57 : decode prog_27_method_2_code 57 = .ok (.ifCond .ne 106, 3) := by decide +kernel
theorem d21_163 : decode prog_27_method_2_code 163 = .ok (.iload 5, 2) := by decide +kernel
theorem d21_165 : decode prog_27_method_2_code 165 = .ok (.i2l, 1) := by decide +kernel
theorem d21_166 : decode prog_27_method_2_code 166 = .ok (.bipush 6, 2) := by decide +kernel
theorem d21_168 : decode prog_27_method_2_code 168 = .ok (.lshl, 1) := by decide +kernel
theorem d21_169 : decode prog_27_method_2_code 169 = .ok (.lload 6, 2) := by decide +kernel
theorem d21_171 : decode prog_27_method_2_code 171 = .ok (.invokestatic 39, 3) := by decide +kernel
theorem d21_174 : decode prog_27_method_2_code 174 = .ok (.i2l, 1) := by decide +kernel
theorem d21_175 : decode prog_27_method_2_code 175 = .ok (.ladd, 1) := by decide +kernel
theorem d21_176 : decode prog_27_method_2_code 176 = .ok (.iload 4, 2) := by decide +kernel
theorem d21_178 : decode prog_27_method_2_code 178 = .ok (.i2l, 1) := by decide +kernel
theorem d21_179 : decode prog_27_method_2_code 179 = .ok (.invokestatic 45, 3) := by decide +kernel
theorem d21_182 : decode prog_27_method_2_code 182 = .ok (.l2i, 1) := by decide +kernel
theorem d21_183 : decode prog_27_method_2_code 183 = .ok (.ireturn, 1) := by decide +kernel
theorem d22_0 : decode prog_27_method_5_code 0 = .ok (.aload_n 0, 1) := by decide +kernel
theorem d22_1 : decode prog_27_method_5_code 1 = .ok (.aload_n 1, 1) := by decide +kernel
theorem d22_2 : decode prog_27_method_5_code 2 = .ok (.putfield 17, 3) := by decide +kernel
theorem d22_5 : decode prog_27_method_5_code 5 = .ok (.aload_n 0, 1) := by decide +kernel
theorem d22_6 : decode prog_27_method_5_code 6 = .ok (.aload_n 2, 1) := by decide +kernel
theorem d22_7 : decode prog_27_method_5_code 7 = .ok (.putfield 21, 3) := by decide +kernel
theorem d22_10 : decode prog_27_method_5_code 10 = .ok (.aload_n 1, 1) := by decide +kernel
theorem d22_11 : decode prog_27_method_5_code 11 = .ok (.invokevirtual 59, 3) := by decide +kernel
theorem d22_14 : decode prog_27_method_5_code 14 = .ok (.bipush 6, 2) := by decide +kernel
theorem d22_16 : decode prog_27_method_5_code 16 = .ok (.iushr, 1) := by decide +kernel
theorem d22_17 : decode prog_27_method_5_code 17 = .ok (.iconst 1, 1) := by decide +kernel
theorem d22_18 : decode prog_27_method_5_code 18 = .ok (.iadd, 1) := by decide +kernel
theorem d22_19 : decode prog_27_method_5_code 19 = .ok (.istore_n 3, 1) := by decide +kernel
theorem d22_20 : decode prog_27_method_5_code 20 = .ok (.aload_n 0, 1) := by decide +kernel
theorem d22_21 : decode prog_27_method_5_code 21 = .ok (.getfield 13, 3) := by decide +kernel
theorem d22_24 : decode prog_27_method_5_code 24 = .ok (.arraylength, 1) := by decide +kernel
theorem d22_25 : decode prog_27_method_5_code 25 = .ok (.iload_n 3, 1) := by decide +kernel
theorem d22_26 : decode prog_27_method_5_code 26 = .ok (.if_icmp .ge 20, 3) := by decide +kernel
theorem d22_29 : decode prog_27_method_5_code 29 = .ok (.aload_n 0, 1) := by decide +kernel
theorem d22_30 : decode prog_27_method_5_code 30 = .ok (.iload_n 3, 1) := by decide +kernel
theorem d22_31 : decode prog_27_method_5_code 31 = .ok (.newarray .int, 2) := by decide +kernel
theorem d22_33 : decode prog_27_method_5_code 33 = .ok (.putfield 13, 3) := by decide +kernel
theorem d22_36 : decode prog_27_method_5_code 36 = .ok (.aload_n 0, 1) := by decide +kernel
theorem d22_37 : decode prog_27_method_5_code 37 = .ok (.iload_n 3, 1) := by decide +kernel
theorem d22_38 : decode prog_27_method_5_code 38 = .ok (.newarray .long, 2) := by decide +kernel
theorem d22_40 : decode prog_27_method_5_code 40 = .ok (.putfield 7, 3) := by decide +kernel
theorem d22_43 : decode prog_27_method_5_code 43 = .ok (.goto 16, 3) := by decide +kernel
theorem d22_46 : decode prog_27_method_5_code 46 = .ok (.aload_n 0, 1) := by decide +kernel
theorem d22_47 : decode prog_27_method_5_code 47 = .ok (.getfield 13, 3) := by decide +kernel
theorem d22_50 : decode prog_27_method_5_code 50 = .ok (.iconst 0, 1) := by decide +kernel
theorem d22_51 : decode prog_27_method_5_code 51 = .ok (.aload_n 0, 1) := by decide +kernel
theorem d22_52 : decode prog_27_method_5_code 52 = .ok (.getfield 55, 3) := by decide +kernel
theorem d22_55 : decode prog_27_method_5_code 55 = .ok (.iconst 0, 1) := by decide +kernel
theorem d22_56 : decode prog_27_method_5_code 56 = .ok (.invokestatic 65, 3) := by decide +kernel
theorem d22_59 : decode prog_27_method_5_code 59 = .ok (.aload_n 0, 1) := by decide +kernel
theorem d22_60 : decode prog_27_method_5_code 60 = .ok (.iconst 0, 1) := by decide +kernel
theorem d22_61 : decode prog_27_method_5_code 61 = .ok (.putfield 55, 3) := by decide +kernel
theorem d22_64 : decode prog_27_method_5_code 64 = .ok (.return_, 1) := by decide +kernel
theorem d23_0 : decode jdk_42_method_54_code 0 = .ok (.aload_n 0, 1) := by decide +kernel
theorem d23_1 : decode jdk_42_method_54_code 1 = .ok (.getfield 9, 3) := by decide +kernel
theorem d23_4 : decode jdk_42_method_54_code 4 = .ok (.arraylength, 1) := by decide +kernel
theorem d23_5 : decode jdk_42_method_54_code 5 = .ok (.aload_n 0, 1) := by decide +kernel
theorem d23_6 : decode jdk_42_method_54_code 6 = .ok (.invokevirtual 335, 3) := by decide +kernel
theorem d23_9 : decode jdk_42_method_54_code 9 = .ok (.ishr, 1) := by decide +kernel
theorem d23_10 : decode jdk_42_method_54_code 10 = .ok (.ireturn, 1) := by decide +kernel
theorem d24_0 : decode jdk_42_method_152_code 0 = .ok (.getstatic 38, 3) := by decide +kernel
theorem d24_3 : decode jdk_42_method_152_code 3 = .ok (.ifCond .eq 10, 3) := by decide +kernel
theorem d24_6 : decode jdk_42_method_152_code 6 = .ok (.aload_n 0, 1) := by decide +kernel
theorem d24_7 : decode jdk_42_method_152_code 7 = .ok (.getfield 15, 3) := by decide +kernel
theorem d24_10 : decode jdk_42_method_152_code 10 = .ok (.goto 4, 3) := by decide +kernel
theorem d24_14 : decode jdk_42_method_152_code 14 = .ok (.ireturn, 1) := by decide +kernel
theorem d25_0 : decode prog_27_method_7_code 0 = .ok (.aload_n 0, 1) := by decide +kernel
theorem d25_1 : decode prog_27_method_7_code 1 = .ok (.getfield 13, 3) := by decide +kernel
theorem d25_4 : decode prog_27_method_7_code 4 = .ok (.iload_n 1, 1) := by decide +kernel
theorem d25_5 : decode prog_27_method_7_code 5 = .ok (.iaload, 1) := by decide +kernel
theorem d25_6 : decode prog_27_method_7_code 6 = .ok (.ifCond .ne 126, 3) := by decide +kernel
theorem d25_9 : decode prog_27_method_7_code 9 = .ok (.iload_n 1, 1) := by decide +kernel
theorem d25_10 : decode prog_27_method_7_code 10 = .ok (.bipush 6, 2) := by decide +kernel
theorem d25_12 : decode prog_27_method_7_code 12 = .ok (.ishl, 1) := by decide +kernel
theorem d25_13 : decode prog_27_method_7_code 13 = .ok (.istore_n 2, 1) := by decide +kernel
theorem d25_14 : decode prog_27_method_7_code 14 = .ok (.iload_n 2, 1) := by decide +kernel
theorem d25_15 : decode prog_27_method_7_code 15 = .ok (.bipush 64, 2) := by decide +kernel
theorem d25_17 : decode prog_27_method_7_code 17 = .ok (.iadd, 1) := by decide +kernel
theorem d25_18 : decode prog_27_method_7_code 18 = .ok (.aload_n 0, 1) := by decide +kernel
theorem d25_19 : decode prog_27_method_7_code 19 = .ok (.getfield 17, 3) := by decide +kernel
theorem d25_22 : decode prog_27_method_7_code 22 = .ok (.invokevirtual 59, 3) := by decide +kernel
theorem d25_25 : decode prog_27_method_7_code 25 = .ok (.invokestatic 71, 3) := by decide +kernel
theorem d25_28 : decode prog_27_method_7_code 28 = .ok (.istore_n 3, 1) := by decide +kernel
theorem d25_29 : decode prog_27_method_7_code 29 = .ok (.lconst 0, 1) := by decide +kernel
theorem d25_30 : decode prog_27_method_7_code 30 = .ok (.lstore 4, 2) := by decide +kernel
theorem d25_32 : decode prog_27_method_7_code 32 = .ok (.iload_n 2, 1) := by decide +kernel
theorem d25_33 : decode prog_27_method_7_code 33 = .ok (.istore 6, 2) := by decide +kernel
theorem d25_35 : decode prog_27_method_7_code 35 = .ok (.iload 6, 2) := by decide +kernel
theorem d25_37 : decode prog_27_method_7_code 37 = .ok (.iload_n 3, 1) := by decide +kernel
theorem d25_38 : decode prog_27_method_7_code 38 = .ok (.if_icmp .ge 37, 3) := by decide +kernel
theorem d25_41 : decode prog_27_method_7_code 41 = .ok (.aload_n 0, 1) := by decide +kernel
theorem d25_42 : decode prog_27_method_7_code 42 = .ok (.getfield 21, 3) := by decide +kernel
theorem d25_45 : decode prog_27_method_7_code 45 = .ok (.aload_n 0, 1) := by decide +kernel
theorem d25_46 : decode prog_27_method_7_code 46 = .ok (.getfield 17, 3) := by decide +kernel
theorem d25_49 : decode prog_27_method_7_code 49 = .ok (.iload 6, 2) := by decide +kernel
theorem d25_51 : decode prog_27_method_7_code 51 = .ok (.invokevirtual 74, 3) := by decide +kernel
theorem d25_54 : decode prog_27_method_7_code 54 = .ok (.invokevirtual 78, 3) := by decide +kernel
theorem d25_57 : decode prog_27_method_7_code 57 = .ok (.ifCond .eq 12, 3) := by decide +kernel
theorem d25_60 : decode prog_27_method_7_code 60 = .ok (.lload 4, 2) := by decide +kernel
theorem d25_62 : decode prog_27_method_7_code 62 = .ok (.lconst 1, 1) := by decide +kernel
theorem d25_63 : decode prog_27_method_7_code 63 = .ok (.iload 6, 2) := by decide +kernel
theorem d25_65 : decode prog_27_method_7_code 65 = .ok (.lshl, 1) := by decide +kernel
theorem d25_66 : decode prog_27_method_7_code 66 = .ok (.lor, 1) := by decide +kernel
theorem d25_67 : decode prog_27_method_7_code 67 = .ok (.lstore 4, 2) := by decide +kernel
theorem d25_69 : decode prog_27_method_7_code 69 = .ok (.iinc 6 1, 3) := by decide +kernel
theorem d25_72 : decode prog_27_method_7_code 72 = .ok (.goto (-37), 3) := by decide +kernel
theorem d25_75 : decode prog_27_method_7_code 75 = .ok (.aload_n 0, 1) := by decide +kernel
theorem d25_76 : decode prog_27_method_7_code 76 = .ok (.getfield 7, 3) := by decide +kernel
theorem d25_79 : decode prog_27_method_7_code 79 = .ok (.iload_n 1, 1) := by decide +kernel
theorem d25_80 : decode prog_27_method_7_code 80 = .ok (.lload 4, 2) := by decide +kernel
theorem d25_82 : decode prog_27_method_7_code 82 = .ok (.lastore, 1) := by decide +kernel
theorem d25_83 : decode prog_27_method_7_code 83 = .ok (.aload_n 0, 1) := by decide +kernel
theorem d25_84 : decode prog_27_method_7_code 84 = .ok (.getfield 13, 3) := by decide +kernel
theorem d25_87 : decode prog_27_method_7_code 87 = .ok (.iload_n 1, 1) := by decide +kernel
theorem d25_88 : decode prog_27_method_7_code 88 = .ok (.lload 4, 2) := by decide +kernel
theorem d25_90 : decode prog_27_method_7_code 90 = .ok (.ldc2_w 33, 3) := by decide +kernel
theorem d25_93 : decode prog_27_method_7_code 93 = .ok (.lcmp, 1) := by decide +kernel
theorem d25_94 : decode prog_27_method_7_code 94 = .ok (.ifCond .ne 9, 3) := by decide +kernel
theorem d25_103 : decode prog_27_method_7_code 103 = .ok (.iconst (-1), 1) := by decide +kernel
theorem d25_104 : decode prog_27_method_7_code 104 = .ok (.iastore, 1) := by decide +kernel
theorem d25_105 : decode prog_27_method_7_code 105 = .ok (.aload_n 0, 1) := by decide +kernel
theorem d25_106 : decode prog_27_method_7_code 106 = .ok (.dup, 1) := by decide +kernel
theorem d25_107 : decode prog_27_method_7_code 107 = .ok (.getfield 51, 3) := by decide +kernel
theorem d25_110 : decode prog_27_method_7_code 110 = .ok (.iload_n 3, 1) := by decide +kernel
theorem d25_111 : decode prog_27_method_7_code 111 = .ok (.iload_n 2, 1) := by decide +kernel
theorem d25_112 : decode prog_27_method_7_code 112 = .ok (.isub, 1) := by decide +kernel
theorem d25_113 : decode prog_27_method_7_code 113 = .ok (.i2l, 1) := by decide +kernel
theorem d25_114 : decode prog_27_method_7_code 114 = .ok (.ladd, 1) := by decide +kernel
theorem d25_115 : decode prog_27_method_7_code 115 = .ok (.putfield 51, 3) := by decide +kernel
theorem d25_118 : decode prog_27_method_7_code 118 = .ok (.aload_n 0, 1) := by decide +kernel
theorem d25_119 : decode prog_27_method_7_code 119 = .ok (.aload_n 0, 1) := by decide +kernel
theorem d25_120 : decode prog_27_method_7_code 120 = .ok (.getfield 55, 3) := by decide +kernel
theorem d25_123 : decode prog_27_method_7_code 123 = .ok (.iload_n 1, 1) := by decide +kernel
theorem d25_124 : decode prog_27_method_7_code 124 = .ok (.iconst 1, 1) := by decide +kernel
theorem d25_125 : decode prog_27_method_7_code 125 = .ok (.iadd, 1) := by decide +kernel
theorem d25_126 : decode prog_27_method_7_code 126 = .ok (.invokestatic 84, 3) := by decide +kernel
theorem d25_129 : decode prog_27_method_7_code 129 = .ok (.putfield 55, 3) := by decide +kernel
theorem d25_132 : decode prog_27_method_7_code 132 = .ok (.return_, 1) := by decide +kernel
theorem d26_0 : decode jdk_42_method_56_code 0 = .ok (.aload_n 0, 1) := by decide +kernel
theorem d26_1 : decode jdk_42_method_56_code 1 = .ok (.invokevirtual 492, 3) := by decide +kernel
theorem d26_4 : decode jdk_42_method_56_code 4 = .ok (.ifCond .eq 12, 3) := by decide +kernel
theorem d26_7 : decode jdk_42_method_56_code 7 = .ok (.aload_n 0, 1) := by decide +kernel
theorem d26_8 : decode jdk_42_method_56_code 8 = .ok (.getfield 9, 3) := by decide +kernel
theorem d26_11 : decode jdk_42_method_56_code 11 = .ok (.iload_n 1, 1) := by decide +kernel
theorem d26_12 : decode jdk_42_method_56_code 12 = .ok (.invokestatic 495, 3) := by decide +kernel
theorem d26_15 : decode jdk_42_method_56_code 15 = .ok (.ireturn, 1) := by decide +kernel
theorem d27_0 : decode jdk_42_method_154_code 0 = .ok (.getstatic 38, 3) := by decide +kernel
theorem d27_3 : decode jdk_42_method_154_code 3 = .ok (.ifCond .eq 14, 3) := by decide +kernel
theorem d27_6 : decode jdk_42_method_154_code 6 = .ok (.aload_n 0, 1) := by decide +kernel
theorem d27_7 : decode jdk_42_method_154_code 7 = .ok (.getfield 15, 3) := by decide +kernel
theorem d27_10 : decode jdk_42_method_154_code 10 = .ok (.ifCond .ne 7, 3) := by decide +kernel
theorem d27_13 : decode jdk_42_method_154_code 13 = .ok (.iconst 1, 1) := by decide +kernel
theorem d27_14 : decode jdk_42_method_154_code 14 = .ok (.goto 4, 3) := by decide +kernel
theorem d27_18 : decode jdk_42_method_154_code 18 = .ok (.ireturn, 1) := by decide +kernel
theorem d28_0 : decode jdk_43_method_2_code 0 = .ok (.iload_n 1, 1) := by decide +kernel
theorem d28_1 : decode jdk_43_method_2_code 1 = .ok (.aload_n 0, 1) := by decide +kernel
theorem d28_2 : decode jdk_43_method_2_code 2 = .ok (.arraylength, 1) := by decide +kernel
theorem d28_3 : decode jdk_43_method_2_code 3 = .ok (.invokestatic 9, 3) := by decide +kernel
theorem d28_6 : decode jdk_43_method_2_code 6 = .ok (.aload_n 0, 1) := by decide +kernel
theorem d28_7 : decode jdk_43_method_2_code 7 = .ok (.iload_n 1, 1) := by decide +kernel
theorem d28_8 : decode jdk_43_method_2_code 8 = .ok (.baload, 1) := by decide +kernel
theorem d28_9 : decode jdk_43_method_2_code 9 = .ok (.sipush 255, 3) := by decide +kernel
theorem d28_12 : decode jdk_43_method_2_code 12 = .ok (.iand, 1) := by decide +kernel
theorem d28_13 : decode jdk_43_method_2_code 13 = .ok (.i2c, 1) := by decide +kernel
theorem d28_14 : decode jdk_43_method_2_code 14 = .ok (.ireturn, 1) := by decide +kernel
theorem d29_0 : decode jdk_42_method_155_code 0 = .ok (.iload_n 0, 1) := by decide +kernel
theorem d29_1 : decode jdk_42_method_155_code 1 = .ok (.iload_n 1, 1) := by decide +kernel
theorem d29_2 : decode jdk_42_method_155_code 2 = .ok (.getstatic 1053, 3) := by decide +kernel
theorem d29_5 : decode jdk_42_method_155_code 5 = .ok (.invokestatic 1059, 3) := by decide +kernel
theorem d29_8 : decode jdk_42_method_155_code 8 = .ok (.pop, 1) := by decide +kernel
theorem d29_9 : decode jdk_42_method_155_code 9 = .ok (.return_, 1) := by decide +kernel
theorem d30_0 : decode jdk_41_method_11_code 0 = .ok (.iload_n 0, 1) := by decide +kernel
theorem d30_1 : decode jdk_41_method_11_code 1 = .ok (.ifCond .lt 8, 3) := by decide +kernel
theorem d30_4 : decode jdk_41_method_11_code 4 = .ok (.iload_n 0, 1) := by decide +kernel
theorem d30_5 : decode jdk_41_method_11_code 5 = .ok (.iload_n 1, 1) := by decide +kernel
theorem d30_6 : decode jdk_41_method_11_code 6 = .ok (.if_icmp .lt 10, 3) := by decide +kernel
theorem d30_16 : decode jdk_41_method_11_code 16 = .ok (.iload_n 0, 1) := by decide +kernel
theorem d30_17 : decode jdk_41_method_11_code 17 = .ok (.ireturn, 1) := by decide +kernel
theorem d31_0 : decode prog_7_method_4_code 0 = .ok (.iload_n 1, 1) := by decide +kernel
theorem d31_1 : decode prog_7_method_4_code 1 = .ok (.bipush 64, 2) := by decide +kernel
theorem d31_3 : decode prog_7_method_4_code 3 = .ok (.if_icmp .ge 25, 3) := by decide +kernel
theorem d31_6 : decode prog_7_method_4_code 6 = .ok (.aload_n 0, 1) := by decide +kernel
theorem d31_7 : decode prog_7_method_4_code 7 = .ok (.getfield 19, 3) := by decide +kernel
theorem d31_10 : decode prog_7_method_4_code 10 = .ok (.iload_n 1, 1) := by decide +kernel
theorem d31_11 : decode prog_7_method_4_code 11 = .ok (.lushr, 1) := by decide +kernel
theorem d31_12 : decode prog_7_method_4_code 12 = .ok (.lconst 1, 1) := by decide +kernel
theorem d31_13 : decode prog_7_method_4_code 13 = .ok (.land, 1) := by decide +kernel
theorem d31_14 : decode prog_7_method_4_code 14 = .ok (.lconst 0, 1) := by decide +kernel
theorem d31_15 : decode prog_7_method_4_code 15 = .ok (.lcmp, 1) := by decide +kernel
theorem d31_16 : decode prog_7_method_4_code 16 = .ok (.ifCond .eq 7, 3) := by decide +kernel
theorem d31_19 : decode prog_7_method_4_code 19 = .ok (.iconst 1, 1) := by decide +kernel
theorem d31_20 : decode prog_7_method_4_code 20 = .ok (.goto 4, 3) := by decide +kernel
theorem d31_23 : decode prog_7_method_4_code 23 = .ok (.iconst 0, 1) := by decide +kernel
theorem d31_24 : decode prog_7_method_4_code 24 = .ok (.istore_n 2, 1) := by decide +kernel
theorem d31_25 : decode prog_7_method_4_code 25 = .ok (.goto 119, 3) := by decide +kernel
theorem d31_28 : decode prog_7_method_4_code 28 = .ok (.iload_n 1, 1) := by decide +kernel
theorem d31_29 : decode prog_7_method_4_code 29 = .ok (.sipush 128, 3) := by decide +kernel
theorem d31_32 : decode prog_7_method_4_code 32 = .ok (.if_icmp .ge 28, 3) := by decide +kernel
theorem d31_35 : decode prog_7_method_4_code 35 = .ok (.aload_n 0, 1) := by decide +kernel
theorem d31_36 : decode prog_7_method_4_code 36 = .ok (.getfield 23, 3) := by decide +kernel
theorem d31_39 : decode prog_7_method_4_code 39 = .ok (.iload_n 1, 1) := by decide +kernel
theorem d31_40 : decode prog_7_method_4_code 40 = .ok (.bipush 64, 2) := by decide +kernel
theorem d31_42 : decode prog_7_method_4_code 42 = .ok (.isub, 1) := by decide +kernel
theorem d31_43 : decode prog_7_method_4_code 43 = .ok (.lushr, 1) := by decide +kernel
theorem d31_44 : decode prog_7_method_4_code 44 = .ok (.lconst 1, 1) := by decide +kernel
theorem d31_45 : decode prog_7_method_4_code 45 = .ok (.land, 1) := by decide +kernel
theorem d31_46 : decode prog_7_method_4_code 46 = .ok (.lconst 0, 1) := by decide +kernel
theorem d31_47 : decode prog_7_method_4_code 47 = .ok (.lcmp, 1) := by decide +kernel
theorem d31_48 : decode prog_7_method_4_code 48 = .ok (.ifCond .eq 7, 3) := by decide +kernel
theorem d31_51 : decode prog_7_method_4_code 51 = .ok (.iconst 1, 1) := by decide +kernel
theorem d31_52 : decode prog_7_method_4_code 52 = .ok (.goto 4, 3) := by decide +kernel
theorem d31_55 : decode prog_7_method_4_code 55 = .ok (.iconst 0, 1) := by decide +kernel
theorem d31_56 : decode prog_7_method_4_code 56 = .ok (.istore_n 2, 1) := by decide +kernel
theorem d31_57 : decode prog_7_method_4_code 57 = .ok (.goto 87, 3) := by decide +kernel
theorem d31_60 : decode prog_7_method_4_code 60 = .ok (.iconst 0, 1) := by decide +kernel
theorem d31_61 : decode prog_7_method_4_code 61 = .ok (.istore_n 3, 1) := by decide +kernel
theorem d31_62 : decode prog_7_method_4_code 62 = .ok (.aload_n 0, 1) := by decide +kernel
theorem d31_63 : decode prog_7_method_4_code 63 = .ok (.getfield 7, 3) := by decide +kernel
theorem d31_66 : decode prog_7_method_4_code 66 = .ok (.arraylength, 1) := by decide +kernel
theorem d31_67 : decode prog_7_method_4_code 67 = .ok (.iconst 2, 1) := by decide +kernel
theorem d31_68 : decode prog_7_method_4_code 68 = .ok (.idiv, 1) := by decide +kernel
theorem d31_69 : decode prog_7_method_4_code 69 = .ok (.istore 4, 2) := by decide +kernel
theorem d31_71 : decode prog_7_method_4_code 71 = .ok (.iload_n 3, 1) := by decide +kernel
theorem d31_72 : decode prog_7_method_4_code 72 = .ok (.iload 4, 2) := by decide +kernel
theorem d31_74 : decode prog_7_method_4_code 74 = .ok (.if_icmp .ge 41, 3) := by decide +kernel
theorem d31_77 : decode prog_7_method_4_code 77 = .ok (.iload_n 3, 1) := by decide +kernel
theorem d31_78 : decode prog_7_method_4_code 78 = .ok (.iload 4, 2) := by decide +kernel
theorem d31_80 : decode prog_7_method_4_code 80 = .ok (.iadd, 1) := by decide +kernel
theorem d31_81 : decode prog_7_method_4_code 81 = .ok (.iconst 1, 1) := by decide +kernel
theorem d31_82 : decode prog_7_method_4_code 82 = .ok (.iushr, 1) := by decide +kernel
theorem d31_83 : decode prog_7_method_4_code 83 = .ok (.istore 5, 2) := by decide +kernel
theorem d31_85 : decode prog_7_method_4_code 85 = .ok (.aload_n 0, 1) := by decide +kernel
theorem d31_86 : decode prog_7_method_4_code 86 = .ok (.getfield 7, 3) := by decide +kernel
theorem d31_89 : decode prog_7_method_4_code 89 = .ok (.iconst 2, 1) := by decide +kernel
theorem d31_90 : decode prog_7_method_4_code 90 = .ok (.iload 5, 2) := by decide +kernel
theorem d31_92 : decode prog_7_method_4_code 92 = .ok (.imul, 1) := by decide +kernel
theorem d31_93 : decode prog_7_method_4_code 93 = .ok (.iconst 1, 1) := by decide +kernel
theorem d31_94 : decode prog_7_method_4_code 94 = .ok (.iadd, 1) := by decide +kernel
theorem d31_95 : decode prog_7_method_4_code 95 = .ok (.iaload, 1) := by decide +kernel
theorem d31_96 : decode prog_7_method_4_code 96 = .ok (.iload_n 1, 1) := by decide +kernel
theorem d31_97 : decode prog_7_method_4_code 97 = .ok (.if_icmp .ge 11, 3) := by decide +kernel
theorem d31_100 : decode prog_7_method_4_code 100 = .ok (.iload 5, 2) := by decide +kernel
theorem d31_102 : decode prog_7_method_4_code 102 = .ok (.iconst 1, 1) := by decide +kernel
theorem d31_103 : decode prog_7_method_4_code 103 = .ok (.iadd, 1) := by decide +kernel
theorem d31_104 : decode prog_7_method_4_code 104 = .ok (.istore_n 3, 1) := by decide +kernel
theorem d31_105 : decode prog_7_method_4_code 105 = .ok (.goto 7, 3) := by decide +kernel
theorem d31_108 : decode prog_7_method_4_code 108 = .ok (.iload 5, 2) := by decide +kernel
theorem d31_110 : decode prog_7_method_4_code 110 = .ok (.istore 4, 2) := by decide +kernel
theorem d31_112 : decode prog_7_method_4_code 112 = .ok (.goto (-41), 3) := by decide +kernel
theorem d31_115 : decode prog_7_method_4_code 115 = .ok (.iload_n 3, 1) := by decide +kernel
theorem d31_116 : decode prog_7_method_4_code 116 = .ok (.aload_n 0, 1) := by decide +kernel
theorem d31_117 : decode prog_7_method_4_code 117 = .ok (.getfield 7, 3) := by decide +kernel
theorem d31_120 : decode prog_7_method_4_code 120 = .ok (.arraylength, 1) := by decide +kernel
theorem d31_121 : decode prog_7_method_4_code 121 = .ok (.iconst 2, 1) := by decide +kernel
theorem d31_122 : decode prog_7_method_4_code 122 = .ok (.idiv, 1) := by decide +kernel
theorem d31_123 : decode prog_7_method_4_code 123 = .ok (.if_icmp .ge 19, 3) := by decide +kernel
theorem d31_126 : decode prog_7_method_4_code 126 = .ok (.aload_n 0, 1) := by decide +kernel
theorem d31_127 : decode prog_7_method_4_code 127 = .ok (.getfield 7, 3) := by decide +kernel
theorem d31_130 : decode prog_7_method_4_code 130 = .ok (.iconst 2, 1) := by decide +kernel
theorem d31_131 : decode prog_7_method_4_code 131 = .ok (.iload_n 3, 1) := by decide +kernel
theorem d31_132 : decode prog_7_method_4_code 132 = .ok (.imul, 1) := by decide +kernel
theorem d31_133 : decode prog_7_method_4_code 133 = .ok (.iaload, 1) := by decide +kernel
theorem d31_134 : decode prog_7_method_4_code 134 = .ok (.iload_n 1, 1) := by decide +kernel
theorem d31_135 : decode prog_7_method_4_code 135 = .ok (.if_icmp .gt 7, 3) := by decide +kernel
theorem d31_138 : decode prog_7_method_4_code 138 = .ok (.iconst 1, 1) := by decide +kernel
theorem d31_139 : decode prog_7_method_4_code 139 = .ok (.goto 4, 3) := by decide +kernel
theorem d31_142 : decode prog_7_method_4_code 142 = .ok (.iconst 0, 1) := by decide +kernel
theorem d31_143 : decode prog_7_method_4_code 143 = .ok (.istore_n 2, 1) := by decide +kernel
theorem d31_144 : decode prog_7_method_4_code 144 = .ok (.iload_n 2, 1) := by decide +kernel
theorem d31_145 : decode prog_7_method_4_code 145 = .ok (.ireturn, 1) := by decide +kernel
theorem d32_0 : decode jdk_35_method_49_code 0 = .ok (.lload_n 0, 1) := by decide +kernel
theorem d32_1 : decode jdk_35_method_49_code 1 = .ok (.l2i, 1) := by decide +kernel
theorem d32_2 : decode jdk_35_method_49_code 2 = .ok (.istore_n 2, 1) := by decide +kernel
theorem d32_3 : decode jdk_35_method_49_code 3 = .ok (.iload_n 2, 1) := by decide +kernel
theorem d32_4 : decode jdk_35_method_49_code 4 = .ok (.ifCond .ne 17, 3) := by decide +kernel
theorem d32_7 : decode jdk_35_method_49_code 7 = .ok (.bipush 32, 2) := by decide +kernel
theorem d32_9 : decode jdk_35_method_49_code 9 = .ok (.lload_n 0, 1) := by decide +kernel
theorem d32_10 : decode jdk_35_method_49_code 10 = .ok (.bipush 32, 2) := by decide +kernel
theorem d32_12 : decode jdk_35_method_49_code 12 = .ok (.lushr, 1) := by decide +kernel
theorem d32_13 : decode jdk_35_method_49_code 13 = .ok (.l2i, 1) := by decide +kernel
theorem d32_14 : decode jdk_35_method_49_code 14 = .ok (.invokestatic 311, 3) := by decide +kernel
theorem d32_17 : decode jdk_35_method_49_code 17 = .ok (.iadd, 1) := by decide +kernel
theorem d32_18 : decode jdk_35_method_49_code 18 = .ok (.goto 7, 3) := by decide +kernel
theorem d32_21 : decode jdk_35_method_49_code 21 = .ok (.iload_n 2, 1) := by decide +kernel
theorem d32_22 : decode jdk_35_method_49_code 22 = .ok (.invokestatic 311, 3) := by decide +kernel
theorem d32_25 : decode jdk_35_method_49_code 25 = .ok (.ireturn, 1) := by decide +kernel
theorem d33_0 : decode jdk_33_method_48_code 0 = .ok (.iload_n 0, 1) := by decide +kernel
theorem d33_1 : decode jdk_33_method_48_code 1 = .ok (.iconst (-1), 1) := by decide +kernel
theorem d33_2 : decode jdk_33_method_48_code 2 = .ok (.ixor, 1) := by decide +kernel
theorem d33_3 : decode jdk_33_method_48_code 3 = .ok (.iload_n 0, 1) := by decide +kernel
theorem d33_4 : decode jdk_33_method_48_code 4 = .ok (.iconst 1, 1) := by decide +kernel
theorem d33_5 : decode jdk_33_method_48_code 5 = .ok (.isub, 1) := by decide +kernel
theorem d33_6 : decode jdk_33_method_48_code 6 = .ok (.iand, 1) := by decide +kernel
theorem d33_7 : decode jdk_33_method_48_code 7 = .ok (.istore_n 0, 1) := by decide +kernel
theorem d33_8 : decode jdk_33_method_48_code 8 = .ok (.iload_n 0, 1) := by decide +kernel
theorem d33_9 : decode jdk_33_method_48_code 9 = .ok (.ifCond .gt 8, 3) := by decide +kernel
theorem d33_12 : decode jdk_33_method_48_code 12 = .ok (.iload_n 0, 1) := by decide +kernel
theorem d33_13 : decode jdk_33_method_48_code 13 = .ok (.bipush 32, 2) := by decide +kernel
theorem d33_15 : decode jdk_33_method_48_code 15 = .ok (.iand, 1) := by decide +kernel
theorem d33_16 : decode jdk_33_method_48_code 16 = .ok (.ireturn, 1) := by decide +kernel
theorem d33_17 : decode jdk_33_method_48_code 17 = .ok (.iconst 1, 1) := by decide +kernel
theorem d33_18 : decode jdk_33_method_48_code 18 = .ok (.istore_n 1, 1) := by decide +kernel
theorem d33_19 : decode jdk_33_method_48_code 19 = .ok (.iload_n 0, 1) := by decide +kernel
theorem d33_20 : decode jdk_33_method_48_code 20 = .ok (.ldc_w 264, 3) := by decide +kernel
theorem d33_23 : decode jdk_33_method_48_code 23 = .ok (.if_icmp .le 11, 3) := by decide +kernel
theorem d33_26 : decode jdk_33_method_48_code 26 = .ok (.iinc 1 16, 3) := by decide +kernel
theorem d33_29 : decode jdk_33_method_48_code 29 = .ok (.iload_n 0, 1) := by decide +kernel
theorem d33_30 : decode jdk_33_method_48_code 30 = .ok (.bipush 16, 2) := by decide +kernel
theorem d33_32 : decode jdk_33_method_48_code 32 = .ok (.iushr, 1) := by decide +kernel
theorem d33_33 : decode jdk_33_method_48_code 33 = .ok (.istore_n 0, 1) := by decide +kernel
theorem d33_34 : decode jdk_33_method_48_code 34 = .ok (.iload_n 0, 1) := by decide +kernel
theorem d33_35 : decode jdk_33_method_48_code 35 = .ok (.sipush 256, 3) := by decide +kernel
theorem d33_38 : decode jdk_33_method_48_code 38 = .ok (.if_icmp .le 11, 3) := by decide +kernel
theorem d33_41 : decode jdk_33_method_48_code 41 = .ok (.iinc 1 8, 3) := by decide +kernel
theorem d33_44 : decode jdk_33_method_48_code 44 = .ok (.iload_n 0, 1) := by decide +kernel
theorem d33_45 : decode jdk_33_method_48_code 45 = .ok (.bipush 8, 2) := by decide +kernel
theorem d33_47 : decode jdk_33_method_48_code 47 = .ok (.iushr, 1) := by decide +kernel
theorem d33_48 : decode jdk_33_method_48_code 48 = .ok (.istore_n 0, 1) := by decide +kernel
theorem d33_49 : decode jdk_33_method_48_code 49 = .ok (.iload_n 0, 1) := by decide +kernel
theorem d33_50 : decode jdk_33_method_48_code 50 = .ok (.bipush 16, 2) := by decide +kernel
theorem d33_52 : decode jdk_33_method_48_code 52 = .ok (.if_icmp .le 10, 3) := by decide +kernel
theorem d33_55 : decode jdk_33_method_48_code 55 = .ok (.iinc 1 4, 3) := by decide +kernel
theorem d33_58 : decode jdk_33_method_48_code 58 = .ok (.iload_n 0, 1) := by decide +kernel
theorem d33_59 : decode jdk_33_method_48_code 59 = .ok (.iconst 4, 1) := by decide +kernel
theorem d33_60 : decode jdk_33_method_48_code 60 = .ok (.iushr, 1) := by decide +kernel
theorem d33_61 : decode jdk_33_method_48_code 61 = .ok (.istore_n 0, 1) := by decide +kernel
theorem d33_62 : decode jdk_33_method_48_code 62 = .ok (.iload_n 0, 1) := by decide +kernel
theorem d33_63 : decode jdk_33_method_48_code 63 = .ok (.iconst 4, 1) := by decide +kernel
theorem d33_64 : decode jdk_33_method_48_code 64 = .ok (.if_icmp .le 10, 3) := by decide +kernel
theorem d33_67 : decode jdk_33_method_48_code 67 = .ok (.iinc 1 2, 3) := by decide +kernel
theorem d33_70 : decode jdk_33_method_48_code 70 = .ok (.iload_n 0, 1) := by decide +kernel
theorem d33_71 : decode jdk_33_method_48_code 71 = .ok (.iconst 2, 1) := by decide +kernel
theorem d33_72 : decode jdk_33_method_48_code 72 = .ok (.iushr, 1) := by decide +kernel
theorem d33_73 : decode jdk_33_method_48_code 73 = .ok (.istore_n 0, 1) := by decide +kernel
theorem d33_74 : decode jdk_33_method_48_code 74 = .ok (.iload_n 1, 1) := by decide +kernel
theorem d33_75 : decode jdk_33_method_48_code 75 = .ok (.iload_n 0, 1) := by decide +kernel
theorem d33_76 : decode jdk_33_method_48_code 76 = .ok (.iconst 1, 1) := by decide +kernel
theorem d33_77 : decode jdk_33_method_48_code 77 = .ok (.iushr, 1) := by decide +kernel
theorem d33_78 : decode jdk_33_method_48_code 78 = .ok (.iadd, 1) := by decide +kernel
theorem d33_79 : decode jdk_33_method_48_code 79 = .ok (.ireturn, 1) := by decide +kernel
theorem d34_0 : decode jdk_29_method_70_code 0 = .ok (.lload_n 0, 1) := by decide +kernel
theorem d34_1 : decode jdk_29_method_70_code 1 = .ok (.lload_n 2, 1) := by decide +kernel
theorem d34_2 : decode jdk_29_method_70_code 2 = .ok (.lcmp, 1) := by decide +kernel
theorem d34_3 : decode jdk_29_method_70_code 3 = .ok (.ifCond .gt 7, 3) := by decide +kernel
theorem d34_6 : decode jdk_29_method_70_code 6 = .ok (.lload_n 0, 1) := by decide +kernel
theorem d34_7 : decode jdk_29_method_70_code 7 = .ok (.goto 4, 3) := by decide +kernel
theorem d34_10 : decode jdk_29_method_70_code 10 = .ok (.lload_n 2, 1) := by decide +kernel
theorem d34_11 : decode jdk_29_method_70_code 11 = .ok (.lreturn, 1) := by decide +kernel
theorem d35_0 : decode prog_27_method_3_code 0 = .ok (.aload_n 0, 1) := by decide +kernel
theorem d35_1 : decode prog_27_method_3_code 1 = .ok (.getfield 51, 3) := by decide +kernel
theorem d35_4 : decode prog_27_method_3_code 4 = .ok (.lreturn, 1) := by decide +kernel
theorem d36_0 : decode prog_27_method_4_code 0 = .ok (.aload_n 0, 1) := by decide +kernel
theorem d36_1 : decode prog_27_method_4_code 1 = .ok (.aconst_null, 1) := by decide +kernel
theorem d36_2 : decode prog_27_method_4_code 2 = .ok (.putfield 17, 3) := by decide +kernel
theorem d36_5 : decode prog_27_method_4_code 5 = .ok (.aload_n 0, 1) := by decide +kernel
theorem d36_6 : decode prog_27_method_4_code 6 = .ok (.aconst_null, 1) := by decide +kernel
theorem d36_7 : decode prog_27_method_4_code 7 = .ok (.putfield 21, 3) := by decide +kernel
theorem d36_10 : decode prog_27_method_4_code 10 = .ok (.aload_n 0, 1) := by decide +kernel
theorem d36_11 : decode prog_27_method_4_code 11 = .ok (.getfield 13, 3) := by decide +kernel
theorem d36_14 : decode prog_27_method_4_code 14 = .ok (.arraylength, 1) := by decide +kernel
theorem d36_15 : decode prog_27_method_4_code 15 = .ok (.sipush 4096, 3) := by decide +kernel
theorem d36_18 : decode prog_27_method_4_code 18 = .ok (.if_icmp .le 22, 3) := by decide +kernel
theorem d36_40 : decode prog_27_method_4_code 40 = .ok (.return_, 1) := by decide +kernel
theorem d37_0 : decode jdk_65_method_104_code 0 = .ok (.aload_n 0, 1) := by decide +kernel
theorem d37_1 : decode jdk_65_method_104_code 1 = .ok (.arraylength, 1) := by decide +kernel
theorem d37_2 : decode jdk_65_method_104_code 2 = .ok (.iload_n 1, 1) := by decide +kernel
theorem d37_3 : decode jdk_65_method_104_code 3 = .ok (.iload_n 2, 1) := by decide +kernel
theorem d37_4 : decode jdk_65_method_104_code 4 = .ok (.invokestatic 13, 3) := by decide +kernel
theorem d37_7 : decode jdk_65_method_104_code 7 = .ok (.iload_n 1, 1) := by decide +kernel
theorem d37_8 : decode jdk_65_method_104_code 8 = .ok (.istore 4, 2) := by decide +kernel
theorem d37_10 : decode jdk_65_method_104_code 10 = .ok (.iload 4, 2) := by decide +kernel
theorem d37_12 : decode jdk_65_method_104_code 12 = .ok (.iload_n 2, 1) := by decide +kernel
theorem d37_13 : decode jdk_65_method_104_code 13 = .ok (.if_icmp .ge 14, 3) := by decide +kernel
theorem d37_16 : decode jdk_65_method_104_code 16 = .ok (.aload_n 0, 1) := by decide +kernel
theorem d37_17 : decode jdk_65_method_104_code 17 = .ok (.iload 4, 2) := by decide +kernel
theorem d37_19 : decode jdk_65_method_104_code 19 = .ok (.iload_n 3, 1) := by decide +kernel
theorem d37_20 : decode jdk_65_method_104_code 20 = .ok (.iastore, 1) := by decide +kernel
theorem d37_21 : decode jdk_65_method_104_code 21 = .ok (.iinc 4 1, 3) := by decide +kernel
theorem d37_24 : decode jdk_65_method_104_code 24 = .ok (.goto (-14), 3) := by decide +kernel
theorem d37_27 : decode jdk_65_method_104_code 27 = .ok (.return_, 1) := by decide +kernel
theorem d38_0 : decode jdk_65_method_30_code 0 = .ok (.iload_n 1, 1) := by decide +kernel
theorem d38_1 : decode jdk_65_method_30_code 1 = .ok (.iload_n 2, 1) := by decide +kernel
theorem d38_2 : decode jdk_65_method_30_code 2 = .ok (.if_icmp .le 44, 3) := by decide +kernel
theorem d38_46 : decode jdk_65_method_30_code 46 = .ok (.iload_n 1, 1) := by decide +kernel
theorem d38_47 : decode jdk_65_method_30_code 47 = .ok (.ifCond .ge 12, 3) := by decide +kernel
theorem d38_59 : decode jdk_65_method_30_code 59 = .ok (.iload_n 2, 1) := by decide +kernel
theorem d38_60 : decode jdk_65_method_30_code 60 = .ok (.iload_n 0, 1) := by decide +kernel
theorem d38_61 : decode jdk_65_method_30_code 61 = .ok (.if_icmp .le 12, 3) := by decide +kernel
theorem d38_73 : decode jdk_65_method_30_code 73 = .ok (.return_, 1) := by decide +kernel
theorem own_ext3 {h0 h1 h : Heap} {ws : List Addr} (E1 : Ext h0 h1) (K : Keep h1 h ws) (g : ∀ x ∈ ws, h0.size ≤ x) : Ext h0 h :=
  ⟨Nat.le_trans E1.1 K.1, fun x c q => K.2.1 x c (E1.2 x c q) (fun r => by have w := (Array.getElem?_eq_some_iff.mp q).1; have := g x r; omega)⟩
theorem own_tr {h0 h1 h2 : Heap} (E : Ext h0 h1) (E2 : Ext h1 h2) : Ext h0 h2 := ⟨Nat.le_trans E.1 E2.1, fun x c q => E2.2 x c (E.2 x c q)⟩
theorem own_narb (v : Int32) : nar .byte v.toInt8.toInt32 = v.toInt8.toInt32 := by simp [nar]
theorem ArI.congr {Z : State} {h : Heap} {b : Addr} {ty : FieldType} {n : Nat} {f g : Nat → Int32} (A : ArI Z h b ty n f) (H : ∀ j, j < n → f j = g j) : ArI Z h b ty n g := by
  obtain ⟨c, q1, q2, q3⟩ := A
  exact ⟨c, q1, q2, fun j hj => by rw [← H j hj]; exact q3 j hj⟩
theorem ef_rm_min (m : MethodId) (x0 : Int32) (x1 : Int32)  : entryFrame m #[(.int x0), (.int x1)] 2 = mkF m 0 #[.val (.int x0), .val (.int x1)] [] := by first | (simp [entryFrame, mkF, argsToLocals, Value.category]; done) | rfl
theorem pn_1 : plainFor (⟨"java/lang/Math", "min", "(II)I"⟩ : MethodName) = true := by first | exact plainFor_of_name (by first | (simp [plainName, overriddenIn]; done) | decide +kernel) | decide +kernel
set_option maxRecDepth 65536 in
set_option maxHeartbeats 40000000 in
theorem rm_min (l : Launch) (Z : State) (a0 : Array Value) (hw : ∀ d ∈ tables_1, d.before a0 Z = true) (u1 u2 : Int32) (h0 : Heap) :
    Ctr l Z (⟨"java/lang/Math", "min", "(II)I"⟩ : MethodName) jdk_29_method_69_code 2 (Option.some FieldType.int) [] ({ frames := 0, cells := 0, slots := 0, locals := 0 } : Room) ({ frames := 0, cells := 0, slots := 0, locals := 0 } : Room).cells ({ frames := 0, cells := 0, slots := 0, locals := 0 } : Room).slots #[(.int u1), (.int u2)] h0 (fun u h L => u = some (.int (if u2 < u1 then u2 else u1)) ∧ L = [] ∧ h = h0) := by
  refine Ctr.of pn_1 ?_
  intro p e s m below meth c s₁ hx hby hml hown hnm hret hlk hZ X0 e0
  refine Goes.cast (ef_rm_min m u1 u2) ?_
  refine g_iload_n (i := 0) X0 hx (hb hby d7_0) (by rfl) rfl ?_
  refine g_iload_n (i := 1) X0 hx (hb hby d7_1) (by rfl) rfl ?_
  refine g_icmp_gt X0 hx (hb hby d7_2) (by decide) (pt := 9) (by decide) rfl (fun q2 => ?_) (fun q2 => ?_)
  · refine g_iload_n (i := 1) X0 hx (hb hby d7_9) (by rfl) rfl ?_
    exact g_retI X0 hx hlk hret e0 (by decide) (by decide) (hb hby d7_10) ⟨by simp [q2], rfl, rfl⟩
  · refine g_iload_n (i := 0) X0 hx (hb hby d7_5) (by rfl) rfl ?_
    refine g_goto X0 hx (hb hby d7_6) (by decide) (by decide) (pc' := 10) ?_
    exact g_retI X0 hx hlk hret e0 (by decide) (by decide) (hb hby d7_10) ⟨by simp [q2], rfl, rfl⟩
theorem ef_rm_max (m : MethodId) (x0 : Int32) (x1 : Int32)  : entryFrame m #[(.int x0), (.int x1)] 2 = mkF m 0 #[.val (.int x0), .val (.int x1)] [] := by first | (simp [entryFrame, mkF, argsToLocals, Value.category]; done) | rfl
theorem pn_3 : plainFor (⟨"java/lang/Math", "max", "(II)I"⟩ : MethodName) = true := by first | exact plainFor_of_name (by first | (simp [plainName, overriddenIn]; done) | decide +kernel) | decide +kernel
set_option maxRecDepth 65536 in
set_option maxHeartbeats 40000000 in
theorem rm_max (l : Launch) (Z : State) (a0 : Array Value) (hw : ∀ d ∈ tables_1, d.before a0 Z = true) (u1 u2 : Int32) (h0 : Heap) :
    Ctr l Z (⟨"java/lang/Math", "max", "(II)I"⟩ : MethodName) jdk_29_method_65_code 2 (Option.some FieldType.int) [] ({ frames := 0, cells := 0, slots := 0, locals := 0 } : Room) ({ frames := 0, cells := 0, slots := 0, locals := 0 } : Room).cells ({ frames := 0, cells := 0, slots := 0, locals := 0 } : Room).slots #[(.int u1), (.int u2)] h0 (fun u h L => u = some (.int (if u1 < u2 then u2 else u1)) ∧ L = [] ∧ h = h0) := by
  refine Ctr.of pn_3 ?_
  intro p e s m below meth c s₁ hx hby hml hown hnm hret hlk hZ X0 e0
  refine Goes.cast (ef_rm_max m u1 u2) ?_
  refine g_iload_n (i := 0) X0 hx (hb hby d8_0) (by rfl) rfl ?_
  refine g_iload_n (i := 1) X0 hx (hb hby d8_1) (by rfl) rfl ?_
  refine g_icmp_lt X0 hx (hb hby d8_2) (by decide) (pt := 9) (by decide) rfl (fun q4 => ?_) (fun q4 => ?_)
  · refine g_iload_n (i := 1) X0 hx (hb hby d8_9) (by rfl) rfl ?_
    exact g_retI X0 hx hlk hret e0 (by decide) (by decide) (hb hby d8_10) ⟨by simp [q4], rfl, rfl⟩
  · refine g_iload_n (i := 0) X0 hx (hb hby d8_5) (by rfl) rfl ?_
    refine g_goto X0 hx (hb hby d8_6) (by decide) (by decide) (pc' := 10) ?_
    exact g_retI X0 hx hlk hret e0 (by decide) (by decide) (hb hby d8_10) ⟨by simp [q4], rfl, rfl⟩
theorem ef_rm_in (m : MethodId) (x0 : Int32) (x1 : Int32) (x2 : Int32)  : entryFrame m #[(.int x0), (.int x1), (.int x2)] 3 = mkF m 0 #[.val (.int x0), .val (.int x1), .val (.int x2)] [] := by first | (simp [entryFrame, mkF, argsToLocals, Value.category]; done) | rfl
theorem pn_5 : plainFor (⟨"com/example/nav_by_schema/navbyschema/regex/UnitRunsReleasePinLaw", "in", "(III)Z"⟩ : MethodName) = true := by first | exact plainFor_of_name (by first | (simp [plainName, overriddenIn]; done) | decide +kernel) | decide +kernel
set_option maxRecDepth 65536 in
set_option maxHeartbeats 40000000 in
theorem rm_in (l : Launch) (Z : State) (a0 : Array Value) (hw : ∀ d ∈ tables_1, d.before a0 Z = true) (u1 u2 u3 : Int32) (h0 : Heap) :
    Ctr l Z (⟨"com/example/nav_by_schema/navbyschema/regex/UnitRunsReleasePinLaw", "in", "(III)Z"⟩ : MethodName) method_2_code 3 (Option.some FieldType.boolean) [] ({ frames := 0, cells := 0, slots := 0, locals := 0 } : Room) ({ frames := 0, cells := 0, slots := 0, locals := 0 } : Room).cells ({ frames := 0, cells := 0, slots := 0, locals := 0 } : Room).slots #[(.int u1), (.int u2), (.int u3)] h0 (fun u h L => u = some (.int (if ¬ u1 < u2 ∧ ¬ u3 < u1 then 1 else 0)) ∧ L = [] ∧ h = h0) := by
  refine Ctr.of pn_5 ?_
  intro p e s m below meth c s₁ hx hby hml hown hnm hret hlk hZ X0 e0
  refine Goes.cast (ef_rm_in m u1 u2 u3) ?_
  refine g_iload_n (i := 1) X0 hx (hb hby d9_0) (by rfl) rfl ?_
  refine g_iload_n (i := 0) X0 hx (hb hby d9_1) (by rfl) rfl ?_
  refine g_icmp_gt X0 hx (hb hby d9_2) (by decide) (pt := 14) (by decide) rfl (fun q6 => ?_) (fun q6 => ?_)
  · refine g_iconst (v := (0 : Int32)) X0 hx (hb hby d9_14) (by decide) rfl ?_
    exact g_retN X0 hx (t := .boolean) (by simp) hlk hret e0 (by decide) (by decide) (hb hby d9_15) ⟨by simp [q6]; rfl, rfl, rfl⟩
  · refine g_iload_n (i := 0) X0 hx (hb hby d9_5) (by rfl) rfl ?_
    refine g_iload_n (i := 2) X0 hx (hb hby d9_6) (by rfl) rfl ?_
    refine g_icmp_gt X0 hx (hb hby d9_7) (by decide) (pt := 14) (by decide) rfl (fun q7 => ?_) (fun q7 => ?_)
    · refine g_iconst (v := (0 : Int32)) X0 hx (hb hby d9_14) (by decide) rfl ?_
      exact g_retN X0 hx (t := .boolean) (by simp) hlk hret e0 (by decide) (by decide) (hb hby d9_15) ⟨by simp [q6, q7]; rfl, rfl, rfl⟩
    · refine g_iconst (v := (1 : Int32)) X0 hx (hb hby d9_10) (by decide) rfl ?_
      refine g_goto X0 hx (hb hby d9_11) (by decide) (by decide) (pc' := 15) ?_
      exact g_retN X0 hx (t := .boolean) (by simp) hlk hret e0 (by decide) (by decide) (hb hby d9_15) ⟨by simp [q6, q7]; rfl, rfl, rfl⟩
theorem ef_rm_cmp (m : MethodId) (x0 : Addr) (x1 : Int32) (x2 : Addr) (x3 : Int32) (x4 : Int32)  : entryFrame m #[(.ref x0), (.int x1), (.ref x2), (.int x3), (.int x4)] 7 = mkF m 0 #[.val (.ref x0), .val (.int x1), .val (.ref x2), .val (.int x3), .val (.int x4), .unset, .unset] [] := by first | (simp [entryFrame, mkF, argsToLocals, Value.category]; done) | rfl
theorem pn_8 : plainFor (⟨"java/lang/StringUTF16", "compress", "([CI[BII)I"⟩ : MethodName) = true := by first | exact plainFor_of_name (by first | (simp [plainName, overriddenIn]; done) | decide +kernel) | decide +kernel
set_option maxRecDepth 65536 in
set_option maxHeartbeats 40000000 in
theorem rm_cmp (l : Launch) (Z : State) (a0 : Array Value) (hw : ∀ d ∈ tables_1, d.before a0 Z = true) (ca ba : Addr) (gc : Nat → Int32) (h0 : Heap) (n0 : Nat) (Ac : ArI Z h0 ca .char 4 gc) (Hc : ∀ i, i < 4 → (gc i).toInt ≤ 255) (Ab : ArI Z h0 ba .byte 4 (fun _ => 0)) (hne : ca ≠ ba) (gb : n0 ≤ ba) :
    Ctr l Z (⟨"java/lang/StringUTF16", "compress", "([CI[BII)I"⟩ : MethodName) jdk_52_method_21_code 7 (Option.some FieldType.int) [] ({ frames := 0, cells := 0, slots := 0, locals := 0 } : Room) ({ frames := 0, cells := 0, slots := 0, locals := 0 } : Room).cells ({ frames := 0, cells := 0, slots := 0, locals := 0 } : Room).slots #[(.ref ca), (.int (0 : Int32)), (.ref ba), (.int (0 : Int32)), (.int (4 : Int32))] h0 (fun u h L => u = some (.int 4) ∧ Fr n0 L ∧ Keep h0 h [ba] ∧ ArI Z h ba .byte 4 (fun i => (gc i).toInt8.toInt32)) := by
  refine Ctr.of pn_8 ?_
  intro p e s m below meth c s₁ hx hby hml hown hnm hret hlk hZ X0 e0
  refine Goes.cast (ef_rm_cmp m ca (0 : Int32) ba (0 : Int32) (4 : Int32)) ?_
  have K := Keep.refl h0 [ba]
  refine g_iconst (v := (0 : Int32)) X0 hx (hb hby d5_0) (by decide) rfl ?_
  refine g_istore (i := 5) X0 hx #[.val (.ref ca), .val (.int (0 : Int32)), .val (.ref ba), .val (.int (0 : Int32)), .val (.int (4 : Int32)), .val (.int (0 : Int32)), .unset] (hb hby d5_1) rfl rfl ?_
  refine g_iload (i := 5) X0 hx (hb hby d5_3) (by rfl) rfl ?_
  refine g_iload (i := 4) X0 hx (hb hby d5_5) (by rfl) rfl ?_
  refine g_icmp_ge X0 hx (hb hby d5_7) (by decide) (pt := 44) (by decide) rfl (fun q_ => absurd (by decide) q_) (fun _ => ?_)
  refine g_aload_n (i := 0) X0 hx (hb hby d5_10) (by rfl) rfl rfl ?_
  refine g_iload_n (i := 1) X0 hx (hb hby d5_11) (by rfl) rfl ?_
  refine g_caload' X0 hx hZ e0 Ac (by decide) (by decide) (x := (gc 0)) rfl (hb hby d5_12) rfl ?_
  refine g_istore (i := 6) X0 hx #[.val (.ref ca), .val (.int (0 : Int32)), .val (.ref ba), .val (.int (0 : Int32)), .val (.int (4 : Int32)), .val (.int (0 : Int32)), .val (.int (gc 0))] (hb hby d5_13) rfl rfl ?_
  refine g_iload (i := 6) X0 hx (hb hby d5_15) (by rfl) rfl ?_
  refine g_sipush (v := (255 : Int32)) X0 hx (hb hby d5_17) (by decide) rfl ?_
  refine g_icmp_le X0 hx (hb hby d5_20) (by decide) (pt := 26) (by decide) rfl (fun _ => ?_) (fun q_ => absurd q_ (by rw [own_ltI, show (255 : Int32).toInt = 255 from rfl]; have := Hc 0 (by decide); omega))
  refine g_aload_n (i := 2) X0 hx (hb hby d5_26) (by rfl) rfl rfl ?_
  refine g_iload_n (i := 3) X0 hx (hb hby d5_27) (by rfl) rfl ?_
  refine g_iload (i := 6) X0 hx (hb hby d5_28) (by rfl) rfl ?_
  refine g_i2b X0 hx (hb hby d5_30) rfl ?_
  refine g_bastoreN X0 hx hZ e0 Ab 0 (by decide) (by decide) (by decide) (hb hby d5_31) rfl ?_
  intro T9 h9 X9 e9 W9 Ar9
  have N9 := Fr.snoc X9 (Fr.nil n0) gb
  have Ac9 := Ac.other W9 hne
  have K9 := K.wr W9 (Or.inl (List.mem_singleton.mpr rfl))
  refine g_iinc (i := 1) (x := (0 : Int32)) (y := (1 : Int32)) X9 hx #[.val (.ref ca), .val (.int (1 : Int32)), .val (.ref ba), .val (.int (0 : Int32)), .val (.int (4 : Int32)), .val (.int (0 : Int32)), .val (.int (gc 0))] (hb hby d5_32) (by rfl) (by decide) rfl rfl ?_
  refine g_iinc (i := 3) (x := (0 : Int32)) (y := (1 : Int32)) X9 hx #[.val (.ref ca), .val (.int (1 : Int32)), .val (.ref ba), .val (.int (1 : Int32)), .val (.int (4 : Int32)), .val (.int (0 : Int32)), .val (.int (gc 0))] (hb hby d5_35) (by rfl) (by decide) rfl rfl ?_
  refine g_iinc (i := 5) (x := (0 : Int32)) (y := (1 : Int32)) X9 hx #[.val (.ref ca), .val (.int (1 : Int32)), .val (.ref ba), .val (.int (1 : Int32)), .val (.int (4 : Int32)), .val (.int (1 : Int32)), .val (.int (gc 0))] (hb hby d5_38) (by rfl) (by decide) rfl rfl ?_
  refine g_goto X9 hx (hb hby d5_41) (by decide) (by decide) (pc' := 3) ?_
  refine g_iload (i := 5) X9 hx (hb hby d5_3) (by rfl) rfl ?_
  refine g_iload (i := 4) X9 hx (hb hby d5_5) (by rfl) rfl ?_
  refine g_icmp_ge X9 hx (hb hby d5_7) (by decide) (pt := 44) (by decide) rfl (fun q_ => absurd (by decide) q_) (fun _ => ?_)
  refine g_aload_n (i := 0) X9 hx (hb hby d5_10) (by rfl) rfl rfl ?_
  refine g_iload_n (i := 1) X9 hx (hb hby d5_11) (by rfl) rfl ?_
  refine g_caload' X9 hx hZ e9 Ac9 (by decide) (by decide) (x := (gc 1)) rfl (hb hby d5_12) rfl ?_
  refine g_istore (i := 6) X9 hx #[.val (.ref ca), .val (.int (1 : Int32)), .val (.ref ba), .val (.int (1 : Int32)), .val (.int (4 : Int32)), .val (.int (1 : Int32)), .val (.int (gc 1))] (hb hby d5_13) rfl rfl ?_
  refine g_iload (i := 6) X9 hx (hb hby d5_15) (by rfl) rfl ?_
  refine g_sipush (v := (255 : Int32)) X9 hx (hb hby d5_17) (by decide) rfl ?_
  refine g_icmp_le X9 hx (hb hby d5_20) (by decide) (pt := 26) (by decide) rfl (fun _ => ?_) (fun q_ => absurd q_ (by rw [own_ltI, show (255 : Int32).toInt = 255 from rfl]; have := Hc 1 (by decide); omega))
  refine g_aload_n (i := 2) X9 hx (hb hby d5_26) (by rfl) rfl rfl ?_
  refine g_iload_n (i := 3) X9 hx (hb hby d5_27) (by rfl) rfl ?_
  refine g_iload (i := 6) X9 hx (hb hby d5_28) (by rfl) rfl ?_
  refine g_i2b X9 hx (hb hby d5_30) rfl ?_
  refine g_bastoreN X9 hx hZ e9 Ar9 1 (by decide) (by decide) (by decide) (hb hby d5_31) rfl ?_
  intro T10 h10 X10 e10 W10 Ar10
  have N10 := Fr.snoc X10 N9 gb
  have Ac10 := Ac9.other W10 hne
  have K10 := K9.wr W10 (Or.inl (List.mem_singleton.mpr rfl))
  refine g_iinc (i := 1) (x := (1 : Int32)) (y := (2 : Int32)) X10 hx #[.val (.ref ca), .val (.int (2 : Int32)), .val (.ref ba), .val (.int (1 : Int32)), .val (.int (4 : Int32)), .val (.int (1 : Int32)), .val (.int (gc 1))] (hb hby d5_32) (by rfl) (by decide) rfl rfl ?_
  refine g_iinc (i := 3) (x := (1 : Int32)) (y := (2 : Int32)) X10 hx #[.val (.ref ca), .val (.int (2 : Int32)), .val (.ref ba), .val (.int (2 : Int32)), .val (.int (4 : Int32)), .val (.int (1 : Int32)), .val (.int (gc 1))] (hb hby d5_35) (by rfl) (by decide) rfl rfl ?_
  refine g_iinc (i := 5) (x := (1 : Int32)) (y := (2 : Int32)) X10 hx #[.val (.ref ca), .val (.int (2 : Int32)), .val (.ref ba), .val (.int (2 : Int32)), .val (.int (4 : Int32)), .val (.int (2 : Int32)), .val (.int (gc 1))] (hb hby d5_38) (by rfl) (by decide) rfl rfl ?_
  refine g_goto X10 hx (hb hby d5_41) (by decide) (by decide) (pc' := 3) ?_
  refine g_iload (i := 5) X10 hx (hb hby d5_3) (by rfl) rfl ?_
  refine g_iload (i := 4) X10 hx (hb hby d5_5) (by rfl) rfl ?_
  refine g_icmp_ge X10 hx (hb hby d5_7) (by decide) (pt := 44) (by decide) rfl (fun q_ => absurd (by decide) q_) (fun _ => ?_)
  refine g_aload_n (i := 0) X10 hx (hb hby d5_10) (by rfl) rfl rfl ?_
  refine g_iload_n (i := 1) X10 hx (hb hby d5_11) (by rfl) rfl ?_
  refine g_caload' X10 hx hZ e10 Ac10 (by decide) (by decide) (x := (gc 2)) rfl (hb hby d5_12) rfl ?_
  refine g_istore (i := 6) X10 hx #[.val (.ref ca), .val (.int (2 : Int32)), .val (.ref ba), .val (.int (2 : Int32)), .val (.int (4 : Int32)), .val (.int (2 : Int32)), .val (.int (gc 2))] (hb hby d5_13) rfl rfl ?_
  refine g_iload (i := 6) X10 hx (hb hby d5_15) (by rfl) rfl ?_
  refine g_sipush (v := (255 : Int32)) X10 hx (hb hby d5_17) (by decide) rfl ?_
  refine g_icmp_le X10 hx (hb hby d5_20) (by decide) (pt := 26) (by decide) rfl (fun _ => ?_) (fun q_ => absurd q_ (by rw [own_ltI, show (255 : Int32).toInt = 255 from rfl]; have := Hc 2 (by decide); omega))
  refine g_aload_n (i := 2) X10 hx (hb hby d5_26) (by rfl) rfl rfl ?_
  refine g_iload_n (i := 3) X10 hx (hb hby d5_27) (by rfl) rfl ?_
  refine g_iload (i := 6) X10 hx (hb hby d5_28) (by rfl) rfl ?_
  refine g_i2b X10 hx (hb hby d5_30) rfl ?_
  refine g_bastoreN X10 hx hZ e10 Ar10 2 (by decide) (by decide) (by decide) (hb hby d5_31) rfl ?_
  intro T11 h11 X11 e11 W11 Ar11
  have N11 := Fr.snoc X11 N10 gb
  have Ac11 := Ac10.other W11 hne
  have K11 := K10.wr W11 (Or.inl (List.mem_singleton.mpr rfl))
  refine g_iinc (i := 1) (x := (2 : Int32)) (y := (3 : Int32)) X11 hx #[.val (.ref ca), .val (.int (3 : Int32)), .val (.ref ba), .val (.int (2 : Int32)), .val (.int (4 : Int32)), .val (.int (2 : Int32)), .val (.int (gc 2))] (hb hby d5_32) (by rfl) (by decide) rfl rfl ?_
  refine g_iinc (i := 3) (x := (2 : Int32)) (y := (3 : Int32)) X11 hx #[.val (.ref ca), .val (.int (3 : Int32)), .val (.ref ba), .val (.int (3 : Int32)), .val (.int (4 : Int32)), .val (.int (2 : Int32)), .val (.int (gc 2))] (hb hby d5_35) (by rfl) (by decide) rfl rfl ?_
  refine g_iinc (i := 5) (x := (2 : Int32)) (y := (3 : Int32)) X11 hx #[.val (.ref ca), .val (.int (3 : Int32)), .val (.ref ba), .val (.int (3 : Int32)), .val (.int (4 : Int32)), .val (.int (3 : Int32)), .val (.int (gc 2))] (hb hby d5_38) (by rfl) (by decide) rfl rfl ?_
  refine g_goto X11 hx (hb hby d5_41) (by decide) (by decide) (pc' := 3) ?_
  refine g_iload (i := 5) X11 hx (hb hby d5_3) (by rfl) rfl ?_
  refine g_iload (i := 4) X11 hx (hb hby d5_5) (by rfl) rfl ?_
  refine g_icmp_ge X11 hx (hb hby d5_7) (by decide) (pt := 44) (by decide) rfl (fun q_ => absurd (by decide) q_) (fun _ => ?_)
  refine g_aload_n (i := 0) X11 hx (hb hby d5_10) (by rfl) rfl rfl ?_
  refine g_iload_n (i := 1) X11 hx (hb hby d5_11) (by rfl) rfl ?_
  refine g_caload' X11 hx hZ e11 Ac11 (by decide) (by decide) (x := (gc 3)) rfl (hb hby d5_12) rfl ?_
  refine g_istore (i := 6) X11 hx #[.val (.ref ca), .val (.int (3 : Int32)), .val (.ref ba), .val (.int (3 : Int32)), .val (.int (4 : Int32)), .val (.int (3 : Int32)), .val (.int (gc 3))] (hb hby d5_13) rfl rfl ?_
  refine g_iload (i := 6) X11 hx (hb hby d5_15) (by rfl) rfl ?_
  refine g_sipush (v := (255 : Int32)) X11 hx (hb hby d5_17) (by decide) rfl ?_
  refine g_icmp_le X11 hx (hb hby d5_20) (by decide) (pt := 26) (by decide) rfl (fun _ => ?_) (fun q_ => absurd q_ (by rw [own_ltI, show (255 : Int32).toInt = 255 from rfl]; have := Hc 3 (by decide); omega))
  refine g_aload_n (i := 2) X11 hx (hb hby d5_26) (by rfl) rfl rfl ?_
  refine g_iload_n (i := 3) X11 hx (hb hby d5_27) (by rfl) rfl ?_
  refine g_iload (i := 6) X11 hx (hb hby d5_28) (by rfl) rfl ?_
  refine g_i2b X11 hx (hb hby d5_30) rfl ?_
  refine g_bastoreN X11 hx hZ e11 Ar11 3 (by decide) (by decide) (by decide) (hb hby d5_31) rfl ?_
  intro T12 h12 X12 e12 W12 Ar12
  have N12 := Fr.snoc X12 N11 gb
  have Ac12 := Ac11.other W12 hne
  have K12 := K11.wr W12 (Or.inl (List.mem_singleton.mpr rfl))
  refine g_iinc (i := 1) (x := (3 : Int32)) (y := (4 : Int32)) X12 hx #[.val (.ref ca), .val (.int (4 : Int32)), .val (.ref ba), .val (.int (3 : Int32)), .val (.int (4 : Int32)), .val (.int (3 : Int32)), .val (.int (gc 3))] (hb hby d5_32) (by rfl) (by decide) rfl rfl ?_
  refine g_iinc (i := 3) (x := (3 : Int32)) (y := (4 : Int32)) X12 hx #[.val (.ref ca), .val (.int (4 : Int32)), .val (.ref ba), .val (.int (4 : Int32)), .val (.int (4 : Int32)), .val (.int (3 : Int32)), .val (.int (gc 3))] (hb hby d5_35) (by rfl) (by decide) rfl rfl ?_
  refine g_iinc (i := 5) (x := (3 : Int32)) (y := (4 : Int32)) X12 hx #[.val (.ref ca), .val (.int (4 : Int32)), .val (.ref ba), .val (.int (4 : Int32)), .val (.int (4 : Int32)), .val (.int (4 : Int32)), .val (.int (gc 3))] (hb hby d5_38) (by rfl) (by decide) rfl rfl ?_
  refine g_goto X12 hx (hb hby d5_41) (by decide) (by decide) (pc' := 3) ?_
  refine g_iload (i := 5) X12 hx (hb hby d5_3) (by rfl) rfl ?_
  refine g_iload (i := 4) X12 hx (hb hby d5_5) (by rfl) rfl ?_
  refine g_icmp_ge X12 hx (hb hby d5_7) (by decide) (pt := 44) (by decide) rfl (fun _ => ?_) (fun q_ => absurd q_ (by decide))
  refine g_iload (i := 4) X12 hx (hb hby d5_44) (by rfl) rfl ?_
  exact g_retI X12 hx hlk hret e12 (by decide) (by decide) (hb hby d5_46) ⟨rfl, N12, K12, Ar12.congr (fun j hj => by
    rcases (show j = 0 ∨ j = 1 ∨ j = 2 ∨ j = 3 by omega) with rfl | rfl | rfl | rfl <;> simp [own_narb])⟩
theorem ef_rm_cmp2 (m : MethodId) (x0 : Addr) (x1 : Int32) (x2 : Int32)  : entryFrame m #[(.ref x0), (.int x1), (.int x2)] 6 = mkF m 0 #[.val (.ref x0), .val (.int x1), .val (.int x2), .unset, .unset, .unset] [] := by first | (simp [entryFrame, mkF, argsToLocals, Value.category]; done) | rfl
theorem pn_13 : plainFor (⟨"java/lang/StringUTF16", "compress", "([CII)[B"⟩ : MethodName) = true := by first | exact plainFor_of_name (by first | (simp [plainName, overriddenIn]; done) | decide +kernel) | decide +kernel
theorem pd_15 : parseMethodDescriptor "([CI[BII)I" = some ⟨[(.array .char), .int, (.array .byte), .int, .int], some .int⟩ := by decide +kernel
set_option maxRecDepth 65536 in
set_option maxHeartbeats 40000000 in
theorem rm_cmp2 (l : Launch) (Z : State) (a0 : Array Value) (hw : ∀ d ∈ tables_1, d.before a0 Z = true) (ca : Addr) (gc : Nat → Int32) (h0 : Heap) (n0 : Nat) (Ac : ArI Z h0 ca .char 4 gc) (Hc : ∀ i, i < 4 → (gc i).toInt ≤ 255) (Z0 : n0 ≤ h0.size) :
    Ctr l Z (⟨"java/lang/StringUTF16", "compress", "([CII)[B"⟩ : MethodName) jdk_52_method_16_code 6 (Option.some (FieldType.array FieldType.byte)) [] ({ frames := 1, cells := 1, slots := 4, locals := 18 } : Room) ({ frames := 1, cells := 1, slots := 4, locals := 18 } : Room).cells ({ frames := 1, cells := 1, slots := 4, locals := 18 } : Room).slots #[(.ref ca), (.int (0 : Int32)), (.int (4 : Int32))] h0 (fun u h L => ∃ b, u = some (.ref b) ∧ Fr n0 L ∧ Ext h0 h ∧ h0.size ≤ b ∧ ArI Z h b .byte 4 (fun i => (gc i).toInt8.toInt32)) := by
  refine Ctr.of pn_13 ?_
  intro p e s m below meth c s₁ hx hby hml hown hnm hret hlk hZ X0 e0
  refine Goes.cast (ef_rm_cmp2 m ca (0 : Int32) (4 : Int32)) ?_
  refine g_iload_n (i := 2) X0 hx (hb hby d4_0) (by rfl) rfl ?_
  refine g_newarr X0 hx hZ (ty := .byte) rfl (wd hw 19 rfl) e0 (hb hby d4_1) rfl (by decide) 4 (by decide) (by decide) (by decide) (by decide) ?_
  intro T14 h14 cA14 a14 X14 e14 g14 Ex14 A14
  have Ab : ArI Z h14 a14 .byte 4 (fun _ => 0) := ArI.new A14 0 rfl
  have gb : n0 ≤ a14 := by rw [g14]; exact Z0
  have hne : ca ≠ a14 := fun q => absurd Ac.lt (by rw [q, g14]; exact Nat.lt_irrefl _)
  refine g_astore_n (i := 3) X14 hx #[.val (.ref ca), .val (.int (0 : Int32)), .val (.int (4 : Int32)), .val (.ref a14), .unset, .unset] (hb hby d4_3) rfl rfl rfl ?_
  refine g_aload_n (i := 0) X14 hx (hb hby d4_4) (by rfl) rfl rfl ?_
  refine g_iload_n (i := 1) X14 hx (hb hby d4_5) (by rfl) rfl ?_
  refine g_aload_n (i := 3) X14 hx (hb hby d4_6) (by rfl) rfl rfl ?_
  refine g_iconst (v := (0 : Int32)) X14 hx (hb hby d4_7) (by decide) rfl ?_
  refine g_iload_n (i := 2) X14 hx (hb hby d4_8) (by rfl) rfl ?_
  refine g_callS X14 hx hZ hown (wd hw 20 rfl) (wd hw 21 rfl) (wd hw 17 rfl) (wd hw 22 rfl) (by decide) e14 (rm_cmp l Z a0 hw ca a14 gc h14 n0 (Ac.ext Ex14) Hc Ab hne gb) (by rw [hml]; rfl) [(.ref ca), (.int (0 : Int32)), (.ref a14), (.int (0 : Int32)), (.int (4 : Int32))] [] rfl (lenOf pd_15 rfl) rfl (by show 0 + (7 + 11) + 0 ≤ _; decide) (by decide) (by decide) (by decide) (hb hby d4_9) rfl ?_
  intro T15 v15 L15 X15 hQ15
  obtain ⟨rfl, N15, K15, A15⟩ := hQ15
  have N15 := Fr.app (Fr.nil n0) N15
  show Goes p e below _ T15 (mkF m 12 #[.val (.ref ca), .val (.int (0 : Int32)), .val (.int (4 : Int32)), .val (.ref a14), .unset, .unset] [(.int (4 : Int32))])
  refine g_istore (i := 4) X15 hx #[.val (.ref ca), .val (.int (0 : Int32)), .val (.int (4 : Int32)), .val (.ref a14), .val (.int (4 : Int32)), .unset] (hb hby d4_12) rfl rfl ?_
  refine g_iload (i := 4) X15 hx (hb hby d4_14) (by rfl) rfl ?_
  refine g_iload_n (i := 2) X15 hx (hb hby d4_16) (by rfl) rfl ?_
  refine g_icmp_eq X15 hx (hb hby d4_17) (by decide) (pt := 57) (by decide) rfl (fun _ => ?_) (fun q_ => absurd (rfl) q_)
  refine g_aload_n (i := 3) X15 hx (hb hby d4_57) (by rfl) rfl rfl ?_
  exact g_retA X15 hx rfl rfl hlk hret rfl (by decide) (by decide) (hb hby d4_58) ⟨_, rfl, N15, own_ext3 Ex14 K15 (fun x hx => by rw [List.mem_singleton.mp hx, g14]; exact Nat.le_refl _), by rw [g14]; exact Nat.le_refl _, A15⟩
theorem ef_rm_cfa (m : MethodId) (x0 : Addr) (x1 : Int32)  : entryFrame m #[(.ref x0), (.int x1)] 2 = mkF m 0 #[.val (.ref x0), .val (.int x1)] [] := by first | (simp [entryFrame, mkF, argsToLocals, Value.category]; done) | rfl
theorem pn_16 : plainFor (⟨"java/lang/StringUTF16", "coderFromArrayLen", "([BI)B"⟩ : MethodName) = true := by first | exact plainFor_of_name (by first | (simp [plainName, overriddenIn]; done) | decide +kernel) | decide +kernel
set_option maxRecDepth 65536 in
set_option maxHeartbeats 40000000 in
theorem rm_cfa (l : Launch) (Z : State) (a0 : Array Value) (hw : ∀ d ∈ tables_1, d.before a0 Z = true) (b : Addr) (f : Nat → Int32) (h0 : Heap) (Ab : ArI Z h0 b .byte 4 f) :
    Ctr l Z (⟨"java/lang/StringUTF16", "coderFromArrayLen", "([BI)B"⟩ : MethodName) jdk_52_method_15_code 2 (Option.some FieldType.byte) [] ({ frames := 0, cells := 0, slots := 0, locals := 0 } : Room) ({ frames := 0, cells := 0, slots := 0, locals := 0 } : Room).cells ({ frames := 0, cells := 0, slots := 0, locals := 0 } : Room).slots #[(.ref b), (.int (4 : Int32))] h0 (fun u h L => u = some (.int 0) ∧ L = [] ∧ h = h0) := by
  refine Ctr.of pn_16 ?_
  intro p e s m below meth c s₁ hx hby hml hown hnm hret hlk hZ X0 e0
  refine Goes.cast (ef_rm_cfa m b (4 : Int32)) ?_
  refine g_iload_n (i := 1) X0 hx (hb hby d6_0) (by rfl) rfl ?_
  refine g_aload_n (i := 0) X0 hx (hb hby d6_1) (by rfl) rfl rfl ?_
  refine g_arraylengthI X0 hx hZ e0 Ab (z := (4 : Int32)) (show _ = (4 : Int32) by decide) (hb hby d6_2) rfl ?_
  refine g_isub X0 hx (hb hby d6_3) rfl ?_
  refine g_bipush (v := (31 : Int32)) X0 hx (hb hby d6_4) (by decide) rfl ?_
  refine g_iushr X0 hx (hb hby d6_6) rfl ?_
  refine g_i2b X0 hx (hb hby d6_7) rfl ?_
  exact g_retN X0 hx (t := .byte) (by simp) hlk hret e0 (by decide) (by decide) (hb hby d6_8) ⟨by decide, rfl, rfl⟩
theorem ef_rm_s4 (m : MethodId) (x0 : Addr) (x1 : Addr) (x2 : Int32) (x3 : Int32)  : entryFrame m #[(.ref x0), (.ref x1), (.int x2), (.int x3), .null] 6 = mkF m 0 #[.val (.ref x0), .val (.ref x1), .val (.int x2), .val (.int x3), .val .null, .unset] [] := by first | (simp [entryFrame, mkF, argsToLocals, Value.category]; done) | rfl
theorem pn_17 : plainFor (⟨"java/lang/String", "<init>", "([CIILjava/lang/Void;)V"⟩ : MethodName) = true := by first | exact plainFor_of_name (by first | (simp [plainName, overriddenIn]; done) | decide +kernel) | decide +kernel
theorem pd_20 : parseMethodDescriptor "([CII)[B" = some ⟨[(.array .char), .int, .int], some (.array .byte)⟩ := by decide +kernel
theorem pd_21 : parseMethodDescriptor "([BI)B" = some ⟨[(.array .byte), .int], some .byte⟩ := by decide +kernel
set_option maxRecDepth 65536 in
set_option maxHeartbeats 40000000 in
theorem rm_s4 (l : Launch) (Z : State) (a0 : Array Value) (hw : ∀ d ∈ tables_1, d.before a0 Z = true) (a ca : Addr) (gc : Nat → Int32) (h0 : Heap) (n0 : Nat) (Ac : ArI Z h0 ca .char 4 gc) (Hc : ∀ i, i < 4 → (gc i).toInt ≤ 255) (ga : n0 ≤ a) (Z0 : n0 ≤ h0.size) (cs : Int32) (S_cs : Sta Z h0 "java/lang/String" "COMPACT_STRINGS" "Z" (.int cs)) (hcs : ¬ cs = 0) (E : Exa Z h0 a "java/lang/String") (F1 : Fld Z h0 a "java/lang/String" "value" "[B" .null) (F2 : Fld Z h0 a "java/lang/String" "coder" "B" (.int 0)) :
    Ctr l Z (⟨"java/lang/String", "<init>", "([CIILjava/lang/Void;)V"⟩ : MethodName) jdk_42_method_149_code 6 (Option.none : Option FieldType) [] ({ frames := 2, cells := 1, slots := 4, locals := 35 } : Room) ({ frames := 2, cells := 1, slots := 4, locals := 35 } : Room).cells ({ frames := 2, cells := 1, slots := 4, locals := 35 } : Room).slots #[(.ref a), (.ref ca), (.int (0 : Int32)), (.int (4 : Int32)), .null] h0 (fun u h L => u = none ∧ Fr n0 L ∧ Keep h0 h [a] ∧ ∃ b, h0.size ≤ b ∧ Exa Z h a "java/lang/String" ∧ Fld Z h a "java/lang/String" "coder" "B" (.int 0) ∧ Fld Z h a "java/lang/String" "value" "[B" (.ref b) ∧ ArI Z h b .byte 4 (fun i => (gc i).toInt8.toInt32)) := by
  refine Ctr.of pn_17 ?_
  intro p e s m below meth c s₁ hx hby hml hown hnm hret hlk hZ X0 e0
  refine Goes.cast (ef_rm_s4 m a ca (0 : Int32) (4 : Int32)) ?_
  refine g_aload_n (i := 0) X0 hx (hb hby d2_0) (by rfl) rfl rfl ?_
  refine g_initO X0 hx hZ hown (wd hw 11 rfl) (wd hw 12 rfl) (wd hw 13 rfl) e0 (by rw [hml]; rfl) (hb hby d2_1) rfl (by decide) (by decide) ?_
  intro T18 X18 e18
  refine g_iload_n (i := 3) X18 hx (hb hby d2_4) (by rfl) rfl ?_
  refine g_if_ne X18 hx (hb hby d2_5) (by decide) (pt := 27) (by decide) rfl (fun _ => ?_) (fun q_ => absurd q_ (by decide))
  refine g_getS X18 hx hZ hown (wd hw 14 rfl) e18 S_cs (hb hby d2_27) rfl ?_
  intro T19 X19 e19
  refine g_if_eq X19 hx (hb hby d2_30) (by decide) (pt := 58) (by decide) rfl (fun q_ => absurd q_ (hcs)) (fun _ => ?_)
  refine g_aload_n (i := 1) X19 hx (hb hby d2_33) (by rfl) rfl rfl ?_
  refine g_iload_n (i := 2) X19 hx (hb hby d2_34) (by rfl) rfl ?_
  refine g_iload_n (i := 3) X19 hx (hb hby d2_35) (by rfl) rfl ?_
  refine g_callS X19 hx hZ hown (wd hw 15 rfl) (wd hw 16 rfl) (wd hw 17 rfl) (wd hw 18 rfl) (by decide) e19 (rm_cmp2 l Z a0 hw ca gc h0 n0 Ac Hc Z0) (by rw [hml]; rfl) [(.ref ca), (.int (0 : Int32)), (.int (4 : Int32))] [] rfl (lenOf pd_20 rfl) rfl (by show 0 + (6 + 11) + 18 ≤ _; decide) (by decide) (by decide) (by decide) (hb hby d2_36) rfl ?_
  intro T20 v20 L20 X20 hQ20
  obtain ⟨b, rfl, N20, E1, hb2, Ab⟩ := hQ20
  have N20 := Fr.app (Fr.nil n0) N20
  show Goes p e below _ T20 (mkF m 39 #[.val (.ref a), .val (.ref ca), .val (.int (0 : Int32)), .val (.int (4 : Int32)), .val .null, .unset] [(.ref b)])
  refine g_astore (i := 5) X20 hx #[.val (.ref a), .val (.ref ca), .val (.int (0 : Int32)), .val (.int (4 : Int32)), .val .null, .val (.ref b)] (hb hby d2_39) rfl rfl rfl ?_
  refine g_aload_n (i := 0) X20 hx (hb hby d2_41) (by rfl) rfl rfl ?_
  refine g_aload (i := 5) X20 hx (hb hby d2_42) (by rfl) rfl rfl ?_
  refine g_iload_n (i := 3) X20 hx (hb hby d2_44) (by rfl) rfl ?_
  refine g_callS X20 hx hZ hown (wd hw 23 rfl) (wd hw 24 rfl) (wd hw 17 rfl) (wd hw 25 rfl) (by decide) rfl (rm_cfa l Z a0 hw b _ T20.heap Ab) (by rw [hml]; rfl) [(.ref b), (.int (4 : Int32))] [(.ref a)] rfl (lenOf pd_21 rfl) rfl (by show 1 + (2 + 11) + 0 ≤ _; decide) (by decide) (by decide) (by decide) (hb hby d2_45) rfl ?_
  intro T21 v21 L21 X21 hQ21
  obtain ⟨rfl, rfl, e21⟩ := hQ21
  have N21 := Fr.app N20 (Fr.nil n0)
  show Goes p e below _ T21 (mkF m 48 #[.val (.ref a), .val (.ref ca), .val (.int (0 : Int32)), .val (.int (4 : Int32)), .val .null, .val (.ref b)] [(.int (0 : Int32)), (.ref a)])
  have K0 := (Keep.refl h0 [a]).ext E1
  have hba : b ≠ a := fun q => absurd E.lt (by rw [← q]; exact Nat.not_lt.mpr hb2)
  have G1 := F1.ext E1
  have G2 := F2.ext E1
  have GE := E.ext E1
  refine g_putF X21 hx hZ hown (wd hw 26 rfl) e21 G2 GE (Or.inr ⟨wd hw 27 rfl, rfl, hnm⟩) (wd hw 2 rfl) (ty := .byte) (by decide) rfl rfl (hb hby d2_48) rfl ?_
  intro T22 h22 X22 e22 W22
  have N22 := Fr.snoc X22 N21 ga
  have E22_ := GE.wr W22
  have F22_value := G1.other W22 (Or.inr (slot_ne (C := "java/lang/String") (Or.inr (wd hw 29 rfl)) (Or.inr (wd hw 27 rfl)) (by decide) (t := (.array .byte)) (t' := .byte) (by decide) (by decide)))
  have F22_coder := G2.same W22
  have K22 := K0.wr W22 (Or.inl (List.mem_singleton.mpr rfl))
  have Ab1 := Ab.other W22 hba
  refine g_aload_n (i := 0) X22 hx (hb hby d2_51) (by rfl) rfl rfl ?_
  refine g_aload (i := 5) X22 hx (hb hby d2_52) (by rfl) rfl rfl ?_
  refine g_putF X22 hx hZ hown (wd hw 28 rfl) e22 F22_value E22_ (Or.inr ⟨wd hw 29 rfl, rfl, hnm⟩) (wd hw 2 rfl) (ty := (.array .byte)) (by decide) rfl rfl (hb hby d2_54) rfl ?_
  intro T23 h23 X23 e23 W23
  have N23 := Fr.snoc X23 N22 ga
  have E23_ := E22_.wr W23
  have F23_value := F22_value.same W23
  have F23_coder := F22_coder.other W23 (Or.inr (slot_ne (C := "java/lang/String") (Or.inr (wd hw 27 rfl)) (Or.inr (wd hw 29 rfl)) (by decide) (t := .byte) (t' := (.array .byte)) (by decide) (by decide)))
  have K23 := K22.wr W23 (Or.inl (List.mem_singleton.mpr rfl))
  have Ab2 := Ab1.other W23 hba
  exact g_ret X23 hx hlk hret e23 (by decide) (by decide) (hb hby d2_57) ⟨rfl, N23, K23, b, hb2, E23_, F23_coder, F23_value, Ab2⟩
theorem ef_rm_s (m : MethodId) (x0 : Addr) (x1 : Addr)  : entryFrame m #[(.ref x0), (.ref x1)] 2 = mkF m 0 #[.val (.ref x0), .val (.ref x1)] [] := by first | (simp [entryFrame, mkF, argsToLocals, Value.category]; done) | rfl
theorem pn_24 : plainFor (⟨"java/lang/String", "<init>", "([C)V"⟩ : MethodName) = true := by first | exact plainFor_of_name (by first | (simp [plainName, overriddenIn]; done) | decide +kernel) | decide +kernel
theorem pd_25 : parseMethodDescriptor "([CIILjava/lang/Void;)V" = some ⟨[(.array .char), .int, .int, (.object "java/lang/Void")], none⟩ := by decide +kernel
set_option maxRecDepth 65536 in
set_option maxHeartbeats 40000000 in
theorem rm_s (l : Launch) (Z : State) (a0 : Array Value) (hw : ∀ d ∈ tables_1, d.before a0 Z = true) (a ca : Addr) (gc : Nat → Int32) (h0 : Heap) (n0 : Nat) (Ac : ArI Z h0 ca .char 4 gc) (Hc : ∀ i, i < 4 → (gc i).toInt ≤ 255) (ga : n0 ≤ a) (Z0 : n0 ≤ h0.size) (cs : Int32) (S_cs : Sta Z h0 "java/lang/String" "COMPACT_STRINGS" "Z" (.int cs)) (hcs : ¬ cs = 0) (E : Exa Z h0 a "java/lang/String") (F1 : Fld Z h0 a "java/lang/String" "value" "[B" .null) (F2 : Fld Z h0 a "java/lang/String" "coder" "B" (.int 0)) :
    Ctr l Z (⟨"java/lang/String", "<init>", "([C)V"⟩ : MethodName) jdk_42_method_3_code 2 (Option.none : Option FieldType) [] ({ frames := 3, cells := 1, slots := 4, locals := 52 } : Room) ({ frames := 3, cells := 1, slots := 4, locals := 52 } : Room).cells ({ frames := 3, cells := 1, slots := 4, locals := 52 } : Room).slots #[(.ref a), (.ref ca)] h0 (fun u h L => u = none ∧ Fr n0 L ∧ Keep h0 h [a] ∧ ∃ b, h0.size ≤ b ∧ Exa Z h a "java/lang/String" ∧ Fld Z h a "java/lang/String" "coder" "B" (.int 0) ∧ Fld Z h a "java/lang/String" "value" "[B" (.ref b) ∧ ArI Z h b .byte 4 (fun i => (gc i).toInt8.toInt32)) := by
  refine Ctr.of pn_24 ?_
  intro p e s m below meth c s₁ hx hby hml hown hnm hret hlk hZ X0 e0
  refine Goes.cast (ef_rm_s m a ca) ?_
  refine g_aload_n (i := 0) X0 hx (hb hby d1_0) (by rfl) rfl rfl ?_
  refine g_aload_n (i := 1) X0 hx (hb hby d1_1) (by rfl) rfl rfl ?_
  refine g_iconst (v := (0 : Int32)) X0 hx (hb hby d1_2) (by decide) rfl ?_
  refine g_aload_n (i := 1) X0 hx (hb hby d1_3) (by rfl) rfl rfl ?_
  refine g_arraylengthI X0 hx hZ e0 Ac (z := (4 : Int32)) (show _ = (4 : Int32) by decide) (hb hby d1_4) rfl ?_
  refine g_aconst_null X0 hx (hb hby d1_5) rfl ?_
  refine g_callI X0 hx hZ rfl hown (wd hw 7 rfl) (wd hw 8 rfl) (wd hw 3 rfl) (wd hw 10 rfl) (by decide) e0 (rm_s4 l Z a0 hw a ca gc h0 n0 Ac Hc ga Z0 cs S_cs hcs E F1 F2) (by rw [hml]; rfl) a [(.ref ca), (.int (0 : Int32)), (.int (4 : Int32)), .null] [] rfl (lenOf pd_25 rfl) rfl (by show 0 + (6 + 11) + 35 ≤ _; decide) (by decide) (by decide) (by decide) (hb hby d1_6) rfl ?_
  intro T25 v25 L25 X25 hQ25
  obtain ⟨rfl, N25, hq25⟩ := hQ25
  have N25 := Fr.app (Fr.nil n0) N25
  show Goes p e below _ T25 (mkF m 9 #[.val (.ref a), .val (.ref ca)] [])
  exact g_ret X25 hx hlk hret rfl (by decide) (by decide) (hb hby d1_9) ⟨rfl, N25, hq25⟩
theorem ef_rm_pc (m : MethodId) (x0 : Int32) (x1 : Int32) (x2 : Value) (hx2 : x2.isRef = true) : entryFrame m #[(.int x0), (.int x1), x2] 3 = mkF m 0 #[.val (.int x0), .val (.int x1), .val x2] [] := by rcases ref_cases hx2 with rfl | ⟨_, rfl⟩ <;> rfl
theorem pn_26 : plainFor (⟨"jdk/internal/util/Preconditions", "checkIndex", "(IILjava/util/function/BiFunction;)I"⟩ : MethodName) = true := by first | exact plainFor_of_name (by first | (simp [plainName, overriddenIn]; done) | decide +kernel) | decide +kernel
set_option maxRecDepth 65536 in
set_option maxHeartbeats 40000000 in
theorem rm_pc (l : Launch) (Z : State) (a0 : Array Value) (hw : ∀ d ∈ tables_1, d.before a0 Z = true) (i n : Int32) (sf : Value) (h0 : Heap) (hr_sf : sf.isRef = true) (hc_sf : sf.category = 1) (q0 : ¬ i < 0) (q1 : i < n) :
    Ctr l Z (⟨"jdk/internal/util/Preconditions", "checkIndex", "(IILjava/util/function/BiFunction;)I"⟩ : MethodName) jdk_41_method_11_code 3 (Option.some FieldType.int) [] ({ frames := 0, cells := 0, slots := 0, locals := 0 } : Room) ({ frames := 0, cells := 0, slots := 0, locals := 0 } : Room).cells ({ frames := 0, cells := 0, slots := 0, locals := 0 } : Room).slots #[(.int i), (.int n), sf] h0 (fun v h L => v = some (.int i) ∧ L = [] ∧ h = h0) := by
  refine Ctr.of pn_26 ?_
  intro p e s m below meth c s₁ hx hby hml hown hnm hret hlk hZ X0 e0
  refine Goes.cast (ef_rm_pc m i n sf hr_sf) ?_
  refine g_iload_n (i := 0) X0 hx (hb hby d30_0) (by rfl) rfl ?_
  refine g_if_lt X0 hx (hb hby d30_1) (by decide) (pt := 9) (by decide) rfl (fun q_ => absurd q_ (q0)) (fun _ => ?_)
  refine g_iload_n (i := 0) X0 hx (hb hby d30_4) (by rfl) rfl ?_
  refine g_iload_n (i := 1) X0 hx (hb hby d30_5) (by rfl) rfl ?_
  refine g_icmp_lt X0 hx (hb hby d30_6) (by decide) (pt := 16) (by decide) rfl (fun _ => ?_) (fun q_ => absurd (q1) q_)
  refine g_iload_n (i := 0) X0 hx (hb hby d30_16) (by rfl) rfl ?_
  exact g_retI X0 hx hlk hret e0 (by decide) (by decide) (hb hby d30_17) ⟨rfl, rfl, rfl⟩
theorem ef_rm_ci (m : MethodId) (x0 : Int32) (x1 : Int32)  : entryFrame m #[(.int x0), (.int x1)] 2 = mkF m 0 #[.val (.int x0), .val (.int x1)] [] := by first | (simp [entryFrame, mkF, argsToLocals, Value.category]; done) | rfl
theorem pn_27 : plainFor (⟨"java/lang/String", "checkIndex", "(II)V"⟩ : MethodName) = true := by first | exact plainFor_of_name (by first | (simp [plainName, overriddenIn]; done) | decide +kernel) | decide +kernel
theorem pd_29 : parseMethodDescriptor "(IILjava/util/function/BiFunction;)I" = some ⟨[.int, .int, (.object "java/util/function/BiFunction")], some .int⟩ := by decide +kernel
set_option maxRecDepth 65536 in
set_option maxHeartbeats 40000000 in
theorem rm_ci (l : Launch) (Z : State) (a0 : Array Value) (hw : ∀ d ∈ tables_1, d.before a0 Z = true) (i n : Int32) (sf : Value) (h0 : Heap) (S_sf : Sta Z h0 "jdk/internal/util/Preconditions" "SIOOBE_FORMATTER" "Ljava/util/function/BiFunction;" sf) (hr_sf : sf.isRef = true) (hc_sf : sf.category = 1) (q0 : ¬ i < 0) (q1 : i < n) :
    Ctr l Z (⟨"java/lang/String", "checkIndex", "(II)V"⟩ : MethodName) jdk_42_method_155_code 2 (Option.none : Option FieldType) [] ({ frames := 1, cells := 0, slots := 0, locals := 14 } : Room) ({ frames := 1, cells := 0, slots := 0, locals := 14 } : Room).cells ({ frames := 1, cells := 0, slots := 0, locals := 14 } : Room).slots #[(.int i), (.int n)] h0 (fun v h L => v = none ∧ L = [] ∧ h = h0) := by
  refine Ctr.of pn_27 ?_
  intro p e s m below meth c s₁ hx hby hml hown hnm hret hlk hZ X0 e0
  refine Goes.cast (ef_rm_ci m i n) ?_
  refine g_iload_n (i := 0) X0 hx (hb hby d29_0) (by rfl) rfl ?_
  refine g_iload_n (i := 1) X0 hx (hb hby d29_1) (by rfl) rfl ?_
  refine g_getS X0 hx hZ hown (wd hw 166 rfl) e0 S_sf (hb hby d29_2) rfl ?_
  intro T28 X28 e28
  refine g_callS X28 hx hZ hown (wd hw 168 rfl) (wd hw 169 rfl) (wd hw 167 rfl) (wd hw 170 rfl) (by decide) e28 (rm_pc l Z a0 hw i n sf h0 hr_sf hc_sf q0 q1) (by rw [hml]; rfl) [(.int i), (.int n), sf] [] rfl (lenOf pd_29 rfl) rfl (by show 0 + (3 + 11) + 0 ≤ _; decide) (by decide) (by decide) (by decide) (hb hby d29_5) rfl ?_
  intro T29 v29 L29 X29 hQ29
  obtain ⟨rfl, rfl, e29⟩ := hQ29
  show Goes p e below _ T29 (mkF m 8 #[.val (.int i), .val (.int n)] [(.int i)])
  refine g_pop X29 hx (hb hby d29_8) rfl rfl ?_
  exact g_ret X29 hx hlk hret e29 (by decide) (by decide) (hb hby d29_9) ⟨rfl, rfl, rfl⟩
theorem ef_rm_lc (m : MethodId) (x0 : Addr) (x1 : Int32)  : entryFrame m #[(.ref x0), (.int x1)] 2 = mkF m 0 #[.val (.ref x0), .val (.int x1)] [] := by first | (simp [entryFrame, mkF, argsToLocals, Value.category]; done) | rfl
theorem pn_30 : plainFor (⟨"java/lang/StringLatin1", "charAt", "([BI)C"⟩ : MethodName) = true := by first | exact plainFor_of_name (by first | (simp [plainName, overriddenIn]; done) | decide +kernel) | decide +kernel
theorem pd_31 : parseMethodDescriptor "(II)V" = some ⟨[.int, .int], none⟩ := by decide +kernel
set_option maxRecDepth 65536 in
set_option maxHeartbeats 40000000 in
theorem rm_lc (l : Launch) (Z : State) (a0 : Array Value) (hw : ∀ d ∈ tables_1, d.before a0 Z = true) (b : Addr) (i : Int32) (sf : Value) (n : Nat) (f : Nat → Int32) (h0 : Heap) (S_sf : Sta Z h0 "jdk/internal/util/Preconditions" "SIOOBE_FORMATTER" "Ljava/util/function/BiFunction;" sf) (hr_sf : sf.isRef = true) (hc_sf : sf.category = 1) (A : ArI Z h0 b .byte n f) (hn : n < 2147483647) (q0 : 0 ≤ i.toInt) (q1 : i.toInt < (n : Int)) :
    Ctr l Z (⟨"java/lang/StringLatin1", "charAt", "([BI)C"⟩ : MethodName) jdk_43_method_2_code 2 (Option.some FieldType.char) [] ({ frames := 2, cells := 0, slots := 0, locals := 27 } : Room) ({ frames := 2, cells := 0, slots := 0, locals := 27 } : Room).cells ({ frames := 2, cells := 0, slots := 0, locals := 27 } : Room).slots #[(.ref b), (.int i)] h0 (fun v h L => v = some (.int (nar .char ((f i.toNatClampNeg &&& 255).toUInt32.toUInt16.toUInt32.toInt32))) ∧ L = [] ∧ h = h0) := by
  refine Ctr.of pn_30 ?_
  intro p e s m below meth c s₁ hx hby hml hown hnm hret hlk hZ X0 e0
  refine Goes.cast (ef_rm_lc m b i) ?_
  have hlen : (n.toInt32).toInt = (n : Int) := len_toInt (by omega)
  refine g_iload_n (i := 1) X0 hx (hb hby d28_0) (by rfl) rfl ?_
  refine g_aload_n (i := 0) X0 hx (hb hby d28_1) (by rfl) rfl rfl ?_
  refine g_arraylengthI X0 hx hZ e0 A (z := n.toInt32) rfl (hb hby d28_2) rfl ?_
  refine g_callS X0 hx hZ hown (wd hw 163 rfl) (wd hw 164 rfl) (wd hw 3 rfl) (wd hw 165 rfl) (by decide) e0 (rm_ci l Z a0 hw i n.toInt32 sf h0 S_sf hr_sf hc_sf (own_nneg q0) (by rw [own_ltI]; omega)) (by rw [hml]; rfl) [(.int i), (.int n.toInt32)] [] rfl (lenOf pd_31 rfl) rfl (by show 0 + (2 + 11) + 14 ≤ _; decide) (by decide) (by decide) (by decide) (hb hby d28_3) rfl ?_
  intro T31 v31 L31 X31 hQ31
  obtain ⟨rfl, rfl, e31⟩ := hQ31
  show Goes p e below _ T31 (mkF m 6 #[.val (.ref b), .val (.int i)] [])
  refine g_aload_n (i := 0) X31 hx (hb hby d28_6) (by rfl) rfl rfl ?_
  refine g_iload_n (i := 1) X31 hx (hb hby d28_7) (by rfl) rfl ?_
  refine g_baload' X31 hx hZ e31 A (own_nneg q0) (by rw [own_tnc]; omega) (x := (f i.toNatClampNeg)) rfl (hb hby d28_8) rfl ?_
  refine g_sipush (v := (255 : Int32)) X31 hx (hb hby d28_9) (by decide) rfl ?_
  refine g_iand X31 hx (hb hby d28_12) rfl ?_
  refine g_i2c X31 hx (hb hby d28_13) rfl ?_
  exact g_retN X31 hx (t := .char) (by simp) hlk hret e31 (by decide) (by decide) (hb hby d28_14) ⟨rfl, rfl, rfl⟩
theorem ef_rm_il (m : MethodId) (x0 : Addr)  : entryFrame m #[(.ref x0)] 1 = mkF m 0 #[.val (.ref x0)] [] := by first | (simp [entryFrame, mkF, argsToLocals, Value.category]; done) | rfl
theorem pn_32 : plainFor (⟨"java/lang/String", "isLatin1", "()Z"⟩ : MethodName) = true := by first | exact plainFor_of_name (by first | (simp [plainName, overriddenIn]; done) | decide +kernel) | decide +kernel
set_option maxRecDepth 65536 in
set_option maxHeartbeats 40000000 in
theorem rm_il (l : Launch) (Z : State) (a0 : Array Value) (hw : ∀ d ∈ tables_1, d.before a0 Z = true) (a : Addr) (cs : Int32) (h0 : Heap) (S_cs : Sta Z h0 "java/lang/String" "COMPACT_STRINGS" "Z" (.int cs)) (hcs : ¬ cs = 0) (Fc : Fld Z h0 a "java/lang/String" "coder" "B" (.int 0)) :
    Ctr l Z (⟨"java/lang/String", "isLatin1", "()Z"⟩ : MethodName) jdk_42_method_154_code 1 (Option.some FieldType.boolean) [] ({ frames := 0, cells := 0, slots := 0, locals := 0 } : Room) ({ frames := 0, cells := 0, slots := 0, locals := 0 } : Room).cells ({ frames := 0, cells := 0, slots := 0, locals := 0 } : Room).slots #[(.ref a)] h0 (fun v h L => v = some (.int 1) ∧ L = [] ∧ h = h0) := by
  refine Ctr.of pn_32 ?_
  intro p e s m below meth c s₁ hx hby hml hown hnm hret hlk hZ X0 e0
  refine Goes.cast (ef_rm_il m a) ?_
  refine g_getS X0 hx hZ hown (wd hw 14 rfl) e0 S_cs (hb hby d27_0) rfl ?_
  intro T33 X33 e33
  refine g_if_eq X33 hx (hb hby d27_3) (by decide) (pt := 17) (by decide) rfl (fun q_ => absurd q_ (hcs)) (fun _ => ?_)
  refine g_aload_n (i := 0) X33 hx (hb hby d27_6) (by rfl) rfl rfl ?_
  refine g_getF X33 hx hZ hown (wd hw 26 rfl) e33 Fc (hb hby d27_7) rfl ?_
  intro T34 X34 e34
  refine g_if_ne X34 hx (hb hby d27_10) (by decide) (pt := 17) (by decide) rfl (fun q_ => absurd (by decide) q_) (fun _ => ?_)
  refine g_iconst (v := (1 : Int32)) X34 hx (hb hby d27_13) (by decide) rfl ?_
  refine g_goto X34 hx (hb hby d27_14) (by decide) (by decide) (pc' := 18) ?_
  exact g_retN X34 hx (t := .boolean) (by simp) hlk hret e34 (by decide) (by decide) (hb hby d27_18) ⟨rfl, rfl, rfl⟩
theorem ef_rm_ca (m : MethodId) (x0 : Addr) (x1 : Int32)  : entryFrame m #[(.ref x0), (.int x1)] 2 = mkF m 0 #[.val (.ref x0), .val (.int x1)] [] := by first | (simp [entryFrame, mkF, argsToLocals, Value.category]; done) | rfl
theorem pn_35 : plainFor (⟨"java/lang/String", "charAt", "(I)C"⟩ : MethodName) = true := by first | exact plainFor_of_name (by first | (simp [plainName, overriddenIn]; done) | decide +kernel) | decide +kernel
theorem pd_36 : parseMethodDescriptor "()Z" = some ⟨[], some .boolean⟩ := by decide +kernel
theorem pd_38 : parseMethodDescriptor "([BI)C" = some ⟨[(.array .byte), .int], some .char⟩ := by decide +kernel
set_option maxRecDepth 65536 in
set_option maxHeartbeats 40000000 in
theorem rm_ca (l : Launch) (Z : State) (a0 : Array Value) (hw : ∀ d ∈ tables_1, d.before a0 Z = true) (a b : Addr) (i cs : Int32) (sf : Value) (n : Nat) (f : Nat → Int32) (h0 : Heap) (S_cs : Sta Z h0 "java/lang/String" "COMPACT_STRINGS" "Z" (.int cs)) (hcs : ¬ cs = 0) (S_sf : Sta Z h0 "jdk/internal/util/Preconditions" "SIOOBE_FORMATTER" "Ljava/util/function/BiFunction;" sf) (hr_sf : sf.isRef = true) (hc_sf : sf.category = 1) (E : Exa Z h0 a "java/lang/String") (Fc : Fld Z h0 a "java/lang/String" "coder" "B" (.int 0)) (Fv : Fld Z h0 a "java/lang/String" "value" "[B" (.ref b)) (A : ArI Z h0 b .byte n f) (hn : n < 2147483647) (q0 : 0 ≤ i.toInt) (q1 : i.toInt < (n : Int)) :
    Ctr l Z (⟨"java/lang/String", "charAt", "(I)C"⟩ : MethodName) jdk_42_method_56_code 2 (Option.some FieldType.char) [] ({ frames := 3, cells := 0, slots := 0, locals := 40 } : Room) ({ frames := 3, cells := 0, slots := 0, locals := 40 } : Room).cells ({ frames := 3, cells := 0, slots := 0, locals := 40 } : Room).slots #[(.ref a), (.int i)] h0 (fun v h L => v = some (.int (nar .char (nar .char ((f i.toNatClampNeg &&& 255).toUInt32.toUInt16.toUInt32.toInt32)))) ∧ L = [] ∧ h = h0) := by
  refine Ctr.of pn_35 ?_
  intro p e s m below meth c s₁ hx hby hml hown hnm hret hlk hZ X0 e0
  refine Goes.cast (ef_rm_ca m a i) ?_
  refine g_aload_n (i := 0) X0 hx (hb hby d26_0) (by rfl) rfl rfl ?_
  refine g_callV X0 hx hZ hown (wd hw 154 rfl) (wd hw 155 rfl) (wd hw 157 rfl) (wd hw 156 rfl) (wd hw 3 rfl) (wd hw 158 rfl) (by decide) e0 a E (rm_il l Z a0 hw a cs h0 S_cs hcs Fc) (by rw [hml]; rfl) [] [] rfl (lenOf pd_36 rfl) rfl (by show 0 + (1 + 11) + 0 ≤ _; decide) (by decide) (by decide) (by decide) (hb hby d26_1) rfl ?_
  intro T36 v36 L36 X36 hQ36
  obtain ⟨rfl, rfl, e36⟩ := hQ36
  show Goes p e below _ T36 (mkF m 4 #[.val (.ref a), .val (.int i)] [(.int (1 : Int32))])
  refine g_if_eq X36 hx (hb hby d26_4) (by decide) (pt := 16) (by decide) rfl (fun q_ => absurd q_ (by decide)) (fun _ => ?_)
  refine g_aload_n (i := 0) X36 hx (hb hby d26_7) (by rfl) rfl rfl ?_
  refine g_getF X36 hx hZ hown (wd hw 28 rfl) e36 Fv (hb hby d26_8) rfl ?_
  intro T37 X37 e37
  refine g_iload_n (i := 1) X37 hx (hb hby d26_11) (by rfl) rfl ?_
  refine g_callS X37 hx hZ hown (wd hw 159 rfl) (wd hw 160 rfl) (wd hw 161 rfl) (wd hw 162 rfl) (by decide) e37 (rm_lc l Z a0 hw b i sf n f h0 S_sf hr_sf hc_sf A hn q0 q1) (by rw [hml]; rfl) [(.ref b), (.int i)] [] rfl (lenOf pd_38 rfl) rfl (by show 0 + (2 + 11) + 27 ≤ _; decide) (by decide) (by decide) (by decide) (hb hby d26_12) rfl ?_
  intro T38 v38 L38 X38 hQ38
  obtain ⟨rfl, rfl, e38⟩ := hQ38
  show Goes p e below _ T38 (mkF m 15 #[.val (.ref a), .val (.int i)] [(.int (nar .char ((f i.toNatClampNeg &&& 255).toUInt32.toUInt16.toUInt32.toInt32)))])
  exact g_retN X38 hx (t := .char) (by simp) hlk hret e38 (by decide) (by decide) (hb hby d26_15) ⟨rfl, rfl, rfl⟩
theorem ef_rm_bi (m : MethodId) (x0 : Addr)  : entryFrame m #[(.ref x0)] 1 = mkF m 0 #[.val (.ref x0)] [] := by first | (simp [entryFrame, mkF, argsToLocals, Value.category]; done) | rfl
theorem pn_39 : plainFor (⟨"com/example/nav_by_schema/navbyschema/regex/CodeUnitSet$Builder", "<init>", "()V"⟩ : MethodName) = true := by first | exact plainFor_of_name (by first | (simp [plainName, overriddenIn]; done) | decide +kernel) | decide +kernel
set_option maxRecDepth 65536 in
set_option maxHeartbeats 40000000 in
theorem rm_bi (l : Launch) (Z : State) (a0 : Array Value) (hw : ∀ d ∈ tables_1, d.before a0 Z = true) (a : Addr) (h0 : Heap) (n0 : Nat) (ga : n0 ≤ a) (E : Exa Z h0 a "com/example/nav_by_schema/navbyschema/regex/CodeUnitSet$Builder") (F1 : Fld Z h0 a "com/example/nav_by_schema/navbyschema/regex/CodeUnitSet$Builder" "ranges" "[I" .null) (F2 : Fld Z h0 a "com/example/nav_by_schema/navbyschema/regex/CodeUnitSet$Builder" "size" "I" (.int 0)) :
    Ctr l Z (⟨"com/example/nav_by_schema/navbyschema/regex/CodeUnitSet$Builder", "<init>", "()V"⟩ : MethodName) prog_8_method_1_code 1 (Option.none : Option FieldType) [] ({ frames := 1, cells := 1, slots := 8, locals := 12 } : Room) ({ frames := 1, cells := 1, slots := 8, locals := 12 } : Room).cells ({ frames := 1, cells := 1, slots := 8, locals := 12 } : Room).slots #[(.ref a)] h0 (fun u h L => u = none ∧ Fr n0 L ∧ Keep h0 h [a] ∧ ∃ b, h0.size ≤ b ∧ Exa Z h a "com/example/nav_by_schema/navbyschema/regex/CodeUnitSet$Builder" ∧ Fld Z h a "com/example/nav_by_schema/navbyschema/regex/CodeUnitSet$Builder" "ranges" "[I" (.ref b) ∧ Fld Z h a "com/example/nav_by_schema/navbyschema/regex/CodeUnitSet$Builder" "size" "I" (.int 0) ∧ ArI Z h b .int 8 (fun _ => 0)) := by
  refine Ctr.of pn_39 ?_
  intro p e s m below meth c s₁ hx hby hml hown hnm hret hlk hZ X0 e0
  refine Goes.cast (ef_rm_bi m a) ?_
  refine g_aload_n (i := 0) X0 hx (hb hby d11_0) (by rfl) rfl rfl ?_
  refine g_initO X0 hx hZ hown (wd hw 52 rfl) (wd hw 12 rfl) (wd hw 13 rfl) e0 (by rw [hml]; rfl) (hb hby d11_1) rfl (by decide) (by decide) ?_
  intro T40 X40 e40
  refine g_aload_n (i := 0) X40 hx (hb hby d11_4) (by rfl) rfl rfl ?_
  refine g_bipush (v := (8 : Int32)) X40 hx (hb hby d11_5) (by decide) rfl ?_
  refine g_newarr X40 hx hZ (ty := .int) rfl (wd hw 53 rfl) e40 (hb hby d11_7) rfl (by decide) 8 (by decide) (by decide) (by decide) (by decide) ?_
  intro T41 h41 cA41 a41 X41 e41 g41 Ex41 A41
  have Ab : ArI Z h41 a41 .int 8 (fun _ => 0) := ArI.new A41 0 rfl
  have K0 := (Keep.refl h0 [a]).ext Ex41
  have hab : a41 ≠ a := fun q => absurd E.lt (by rw [← q, g41]; exact Nat.lt_irrefl _)
  have G1 := F1.ext Ex41
  have G2 := F2.ext Ex41
  have GE := E.ext Ex41
  refine g_putF X41 hx hZ hown (wd hw 54 rfl) e41 G1 GE (Or.inl (wd hw 55 rfl)) (wd hw 47 rfl) (ty := (.array .int)) (by decide) rfl rfl (hb hby d11_9) rfl ?_
  intro T42 h42 X42 e42 W42
  have N42 := Fr.snoc X42 (Fr.nil n0) ga
  have E42_ := GE.wr W42
  have F42_ranges := G1.same W42
  have F42_size := G2.other W42 (Or.inr (slot_ne (C := "com/example/nav_by_schema/navbyschema/regex/CodeUnitSet$Builder") (Or.inl (wd hw 62 rfl)) (Or.inl (wd hw 55 rfl)) (by decide) (t := .int) (t' := (.array .int)) (by decide) (by decide)))
  have K42 := K0.wr W42 (Or.inl (List.mem_singleton.mpr rfl))
  exact g_ret X42 hx hlk hret e42 (by decide) (by decide) (hb hby d11_12) ⟨rfl, N42, K42, a41, by rw [g41]; exact Nat.le_refl _, E42_, F42_ranges, F42_size, Ab.other W42 hab⟩
theorem ef_rm_ba (m : MethodId) (x0 : Addr) (x1 : Int32) (x2 : Int32)  : entryFrame m #[(.ref x0), (.int x1), (.int x2)] 3 = mkF m 0 #[.val (.ref x0), .val (.int x1), .val (.int x2)] [] := by first | (simp [entryFrame, mkF, argsToLocals, Value.category]; done) | rfl
theorem pn_43 : plainFor (⟨"com/example/nav_by_schema/navbyschema/regex/CodeUnitSet$Builder", "add", "(CC)Lcom/example/nav_by_schema/navbyschema/regex/CodeUnitSet$Builder;"⟩ : MethodName) = true := by first | exact plainFor_of_name (by first | (simp [plainName, overriddenIn]; done) | decide +kernel) | decide +kernel
set_option maxRecDepth 65536 in
set_option maxHeartbeats 40000000 in
theorem rm_ba (l : Launch) (Z : State) (a0 : Array Value) (hw : ∀ d ∈ tables_1, d.before a0 Z = true) (a b : Addr) (lo hi : Int32) (h0 : Heap) (n0 : Nat) (ga : n0 ≤ a) (gb : n0 ≤ b) (hba : b ≠ a) (E : Exa Z h0 a "com/example/nav_by_schema/navbyschema/regex/CodeUnitSet$Builder") (F1 : Fld Z h0 a "com/example/nav_by_schema/navbyschema/regex/CodeUnitSet$Builder" "ranges" "[I" (.ref b)) (F2 : Fld Z h0 a "com/example/nav_by_schema/navbyschema/regex/CodeUnitSet$Builder" "size" "I" (.int 0)) (Ab : ArI Z h0 b .int 8 (fun _ => 0)) :
    Ctr l Z (⟨"com/example/nav_by_schema/navbyschema/regex/CodeUnitSet$Builder", "add", "(CC)Lcom/example/nav_by_schema/navbyschema/regex/CodeUnitSet$Builder;"⟩ : MethodName) prog_8_method_2_code 3 (Option.some (FieldType.object "com/example/nav_by_schema/navbyschema/regex/CodeUnitSet$Builder")) [] ({ frames := 0, cells := 0, slots := 0, locals := 0 } : Room) ({ frames := 0, cells := 0, slots := 0, locals := 0 } : Room).cells ({ frames := 0, cells := 0, slots := 0, locals := 0 } : Room).slots #[(.ref a), (.int lo), (.int hi)] h0 (fun u h L => u = some (.ref a) ∧ Fr n0 L ∧ Keep h0 h [a, b] ∧ Exa Z h a "com/example/nav_by_schema/navbyschema/regex/CodeUnitSet$Builder" ∧ Fld Z h a "com/example/nav_by_schema/navbyschema/regex/CodeUnitSet$Builder" "ranges" "[I" (.ref b) ∧ Fld Z h a "com/example/nav_by_schema/navbyschema/regex/CodeUnitSet$Builder" "size" "I" (.int 2) ∧ ArI Z h b .int 8 (fun k => if k = 1 then hi else if k = 0 then lo else 0)) := by
  refine Ctr.of pn_43 ?_
  intro p e s m below meth c s₁ hx hby hml hown hnm hret hlk hZ X0 e0
  refine Goes.cast (ef_rm_ba m a lo hi) ?_
  have K0 := Keep.refl h0 [a, b]
  refine g_aload_n (i := 0) X0 hx (hb hby d12_0) (by rfl) rfl rfl ?_
  refine g_getF X0 hx hZ hown (wd hw 61 rfl) e0 F2 (hb hby d12_1) rfl ?_
  intro T44 X44 e44
  refine g_aload_n (i := 0) X44 hx (hb hby d12_4) (by rfl) rfl rfl ?_
  refine g_getF X44 hx hZ hown (wd hw 54 rfl) e44 F1 (hb hby d12_5) rfl ?_
  intro T45 X45 e45
  refine g_arraylengthI X45 hx hZ e45 Ab (z := (8 : Int32)) (show _ = (8 : Int32) by decide) (hb hby d12_8) rfl ?_
  refine g_icmp_ne X45 hx (hb hby d12_9) (by decide) (pt := 29) (by decide) rfl (fun _ => ?_) (fun q_ => absurd q_ (by decide))
  refine g_aload_n (i := 0) X45 hx (hb hby d12_29) (by rfl) rfl rfl ?_
  refine g_getF X45 hx hZ hown (wd hw 54 rfl) e45 F1 (hb hby d12_30) rfl ?_
  intro T46 X46 e46
  refine g_aload_n (i := 0) X46 hx (hb hby d12_33) (by rfl) rfl rfl ?_
  refine g_getF X46 hx hZ hown (wd hw 61 rfl) e46 F2 (hb hby d12_34) rfl ?_
  intro T47 X47 e47
  refine g_iload_n (i := 1) X47 hx (hb hby d12_37) (by rfl) rfl ?_
  refine g_iastoreN X47 hx hZ e47 Ab 0 (by decide) (by decide) (by decide) (hb hby d12_38) rfl ?_
  intro T48 h48 X48 e48 W48 Ar48
  have N48 := Fr.snoc X48 (Fr.nil n0) gb
  have F1_48 := F1.other W48 (Or.inl (Ne.symm hba))
  have F2_48 := F2.other W48 (Or.inl (Ne.symm hba))
  have E_48 := E.wr W48
  have K_48 := K0.wr W48 (Or.inl (List.mem_cons_of_mem _ List.mem_cons_self))
  refine g_aload_n (i := 0) X48 hx (hb hby d12_39) (by rfl) rfl rfl ?_
  refine g_getF X48 hx hZ hown (wd hw 54 rfl) e48 F1_48 (hb hby d12_40) rfl ?_
  intro T49 X49 e49
  refine g_aload_n (i := 0) X49 hx (hb hby d12_43) (by rfl) rfl rfl ?_
  refine g_getF X49 hx hZ hown (wd hw 61 rfl) e49 F2_48 (hb hby d12_44) rfl ?_
  intro T50 X50 e50
  refine g_iconst (v := (1 : Int32)) X50 hx (hb hby d12_47) (by decide) rfl ?_
  refine g_iadd X50 hx (hb hby d12_48) rfl ?_
  rw [show ((0 : Int32) + (1 : Int32)) = (1 : Int32) by decide]
  refine g_iload_n (i := 2) X50 hx (hb hby d12_49) (by rfl) rfl ?_
  refine g_iastoreN X50 hx hZ e50 Ar48 1 (by decide) (by decide) (by decide) (hb hby d12_50) rfl ?_
  intro T51 h51 X51 e51 W51 Ar51
  have N51 := Fr.snoc X51 N48 gb
  have F1_51 := F1_48.other W51 (Or.inl (Ne.symm hba))
  have F2_51 := F2_48.other W51 (Or.inl (Ne.symm hba))
  have E_51 := E_48.wr W51
  have K_51 := K_48.wr W51 (Or.inl (List.mem_cons_of_mem _ List.mem_cons_self))
  refine g_aload_n (i := 0) X51 hx (hb hby d12_51) (by rfl) rfl rfl ?_
  refine g_dup X51 hx (hb hby d12_52) rfl rfl ?_
  refine g_getF X51 hx hZ hown (wd hw 61 rfl) e51 F2_51 (hb hby d12_53) rfl ?_
  intro T52 X52 e52
  refine g_iconst (v := (2 : Int32)) X52 hx (hb hby d12_56) (by decide) rfl ?_
  refine g_iadd X52 hx (hb hby d12_57) rfl ?_
  rw [show ((0 : Int32) + (2 : Int32)) = (2 : Int32) by decide]
  refine g_putF X52 hx hZ hown (wd hw 61 rfl) e52 F2_51 E_51 (Or.inl (wd hw 62 rfl)) (wd hw 47 rfl) (ty := .int) (by decide) rfl rfl (hb hby d12_58) rfl ?_
  intro T53 h53 X53 e53 W53
  have N53 := Fr.snoc X53 N51 ga
  have E53_ := E_51.wr W53
  have F53_ranges := F1_51.other W53 (Or.inr (slot_ne (C := "com/example/nav_by_schema/navbyschema/regex/CodeUnitSet$Builder") (Or.inl (wd hw 55 rfl)) (Or.inl (wd hw 62 rfl)) (by decide) (t := (.array .int)) (t' := .int) (by decide) (by decide)))
  have F53_size := F2_51.same W53
  refine g_aload_n (i := 0) X53 hx (hb hby d12_61) (by rfl) rfl rfl ?_
  exact g_retA X53 hx rfl rfl hlk hret e53 (by decide) (by decide) (hb hby d12_62) ⟨rfl, N53, K_51.wr W53 (Or.inl List.mem_cons_self), E53_, F53_ranges, F53_size, Ar51.other W53 hba⟩
theorem ef_rm_ins (m : MethodId) (x0 : Addr) (x1 : Int32) (x2 : Int32)  : entryFrame m #[(.ref x0), (.int x1), (.int x2)] 7 = mkF m 0 #[.val (.ref x0), .val (.int x1), .val (.int x2), .unset, .unset, .unset, .unset] [] := by first | (simp [entryFrame, mkF, argsToLocals, Value.category]; done) | rfl
theorem pn_54 : plainFor (⟨"java/util/DualPivotQuicksort", "insertionSort", "([JII)V"⟩ : MethodName) = true := by first | exact plainFor_of_name (by first | (simp [plainName, overriddenIn]; done) | decide +kernel) | decide +kernel
set_option maxRecDepth 65536 in
set_option maxHeartbeats 40000000 in
theorem rm_ins (l : Launch) (Z : State) (a0 : Array Value) (hw : ∀ d ∈ tables_1, d.before a0 Z = true) (b : Addr) (h0 : Heap) :
    Ctr l Z (⟨"java/util/DualPivotQuicksort", "insertionSort", "([JII)V"⟩ : MethodName) jdk_2529_method_15_code 7 (Option.none : Option FieldType) [] ({ frames := 0, cells := 0, slots := 0, locals := 0 } : Room) ({ frames := 0, cells := 0, slots := 0, locals := 0 } : Room).cells ({ frames := 0, cells := 0, slots := 0, locals := 0 } : Room).slots #[(.ref b), (.int (0 : Int32)), (.int (1 : Int32))] h0 (fun u h L => u = none ∧ L = [] ∧ h = h0) := by
  refine Ctr.of pn_54 ?_
  intro p e s m below meth c s₁ hx hby hml hown hnm hret hlk hZ X0 e0
  refine Goes.cast (ef_rm_ins m b (0 : Int32) (1 : Int32)) ?_
  refine g_iload_n (i := 1) X0 hx (hb hby d17_0) (by rfl) rfl ?_
  refine g_istore (i := 4) X0 hx #[.val (.ref b), .val (.int (0 : Int32)), .val (.int (1 : Int32)), .unset, .val (.int (0 : Int32)), .unset, .unset] (hb hby d17_1) rfl rfl ?_
  refine g_iinc (i := 4) (x := (0 : Int32)) (y := (1 : Int32)) X0 hx #[.val (.ref b), .val (.int (0 : Int32)), .val (.int (1 : Int32)), .unset, .val (.int (1 : Int32)), .unset, .unset] (hb hby d17_3) (by rfl) (by decide) rfl rfl ?_
  refine g_iload (i := 4) X0 hx (hb hby d17_6) (by rfl) rfl ?_
  refine g_iload_n (i := 2) X0 hx (hb hby d17_8) (by rfl) rfl ?_
  refine g_icmp_ge X0 hx (hb hby d17_9) (by decide) (pt := 69) (by decide) rfl (fun _ => ?_) (fun q_ => absurd q_ (by decide))
  exact g_ret X0 hx hlk hret e0 (by decide) (by decide) (hb hby d17_69) ⟨rfl, rfl, rfl⟩
theorem ef_rm_dq2 (m : MethodId) (x1 : Addr) (x2 : Int32) (x3 : Int32) (x4 : Int32)  : entryFrame m #[.null, (.ref x1), (.int x2), (.int x3), (.int x4)] 25 = mkF m 0 #[.val .null, .val (.ref x1), .val (.int x2), .val (.int x3), .val (.int x4), .unset, .unset, .unset, .unset, .unset, .unset, .unset, .unset, .unset, .unset, .unset, .unset, .unset, .unset, .unset, .unset, .unset, .unset, .unset, .unset] [] := by first | (simp [entryFrame, mkF, argsToLocals, Value.category]; done) | rfl
theorem pn_55 : plainFor (⟨"java/util/DualPivotQuicksort", "sort", "(Ljava/util/DualPivotQuicksort$Sorter;[JIII)V"⟩ : MethodName) = true := by first | exact plainFor_of_name (by first | (simp [plainName, overriddenIn]; done) | decide +kernel) | decide +kernel
theorem pd_56 : parseMethodDescriptor "([JII)V" = some ⟨[(.array .long), .int, .int], none⟩ := by decide +kernel
set_option maxRecDepth 65536 in
set_option maxHeartbeats 40000000 in
theorem rm_dq2 (l : Launch) (Z : State) (a0 : Array Value) (hw : ∀ d ∈ tables_1, d.before a0 Z = true) (b : Addr) (h0 : Heap) :
    Ctr l Z (⟨"java/util/DualPivotQuicksort", "sort", "(Ljava/util/DualPivotQuicksort$Sorter;[JIII)V"⟩ : MethodName) jdk_2529_method_13_code 25 (Option.none : Option FieldType) [] ({ frames := 1, cells := 0, slots := 0, locals := 18 } : Room) ({ frames := 1, cells := 0, slots := 0, locals := 18 } : Room).cells ({ frames := 1, cells := 0, slots := 0, locals := 18 } : Room).slots #[.null, (.ref b), (.int (0 : Int32)), (.int (0 : Int32)), (.int (1 : Int32))] h0 (fun u h L => u = none ∧ L = [] ∧ h = h0) := by
  refine Ctr.of pn_55 ?_
  intro p e s m below meth c s₁ hx hby hml hown hnm hret hlk hZ X0 e0
  refine Goes.cast (ef_rm_dq2 m b (0 : Int32) (0 : Int32) (1 : Int32)) ?_
  refine g_iload (i := 4) X0 hx (hb hby d16_0) (by rfl) rfl ?_
  refine g_iconst (v := (1 : Int32)) X0 hx (hb hby d16_2) (by decide) rfl ?_
  refine g_isub X0 hx (hb hby d16_3) rfl ?_
  rw [show ((1 : Int32) - (1 : Int32)) = (0 : Int32) by decide]
  refine g_istore (i := 5) X0 hx #[.val .null, .val (.ref b), .val (.int (0 : Int32)), .val (.int (0 : Int32)), .val (.int (1 : Int32)), .val (.int (0 : Int32)), .unset, .unset, .unset, .unset, .unset, .unset, .unset, .unset, .unset, .unset, .unset, .unset, .unset, .unset, .unset, .unset, .unset, .unset, .unset] (hb hby d16_4) rfl rfl ?_
  refine g_iload (i := 4) X0 hx (hb hby d16_6) (by rfl) rfl ?_
  refine g_iload_n (i := 3) X0 hx (hb hby d16_8) (by rfl) rfl ?_
  refine g_isub X0 hx (hb hby d16_9) rfl ?_
  rw [show ((1 : Int32) - (0 : Int32)) = (1 : Int32) by decide]
  refine g_istore (i := 6) X0 hx #[.val .null, .val (.ref b), .val (.int (0 : Int32)), .val (.int (0 : Int32)), .val (.int (1 : Int32)), .val (.int (0 : Int32)), .val (.int (1 : Int32)), .unset, .unset, .unset, .unset, .unset, .unset, .unset, .unset, .unset, .unset, .unset, .unset, .unset, .unset, .unset, .unset, .unset, .unset] (hb hby d16_10) rfl rfl ?_
  refine g_iload (i := 6) X0 hx (hb hby d16_12) (by rfl) rfl ?_
  refine g_bipush (v := (65 : Int32)) X0 hx (hb hby d16_14) (by decide) rfl ?_
  refine g_iload_n (i := 2) X0 hx (hb hby d16_16) (by rfl) rfl ?_
  refine g_iadd X0 hx (hb hby d16_17) rfl ?_
  rw [show ((65 : Int32) + (0 : Int32)) = (65 : Int32) by decide]
  refine g_icmp_ge X0 hx (hb hby d16_18) (by decide) (pt := 46) (by decide) rfl (fun q_ => absurd (by decide) q_) (fun _ => ?_)
  refine g_iload_n (i := 2) X0 hx (hb hby d16_21) (by rfl) rfl ?_
  refine g_iconst (v := (1 : Int32)) X0 hx (hb hby d16_22) (by decide) rfl ?_
  refine g_iand X0 hx (hb hby d16_23) rfl ?_
  rw [show ((0 : Int32) &&& (1 : Int32)) = (0 : Int32) by decide]
  refine g_if_le X0 hx (hb hby d16_24) (by decide) (pt := 46) (by decide) rfl (fun _ => ?_) (fun q_ => absurd q_ (by decide))
  refine g_iload (i := 6) X0 hx (hb hby d16_46) (by rfl) rfl ?_
  refine g_bipush (v := (44 : Int32)) X0 hx (hb hby d16_48) (by decide) rfl ?_
  refine g_icmp_ge X0 hx (hb hby d16_50) (by decide) (pt := 61) (by decide) rfl (fun q_ => absurd (by decide) q_) (fun _ => ?_)
  refine g_aload_n (i := 1) X0 hx (hb hby d16_53) (by rfl) rfl rfl ?_
  refine g_iload_n (i := 3) X0 hx (hb hby d16_54) (by rfl) rfl ?_
  refine g_iload (i := 4) X0 hx (hb hby d16_55) (by rfl) rfl ?_
  refine g_callS X0 hx hZ hown (wd hw 80 rfl) (wd hw 81 rfl) (wd hw 75 rfl) (wd hw 82 rfl) (by decide) e0 (rm_ins l Z a0 hw b h0) (by rw [hml]; rfl) [(.ref b), (.int (0 : Int32)), (.int (1 : Int32))] [] rfl (lenOf pd_56 rfl) rfl (by show 0 + (7 + 11) + 0 ≤ _; decide) (by decide) (by decide) (by decide) (hb hby d16_57) rfl ?_
  intro T56 v56 L56 X56 hQ56
  obtain ⟨rfl, rfl, e56⟩ := hQ56
  show Goes p e below _ T56 (mkF m 60 #[.val .null, .val (.ref b), .val (.int (0 : Int32)), .val (.int (0 : Int32)), .val (.int (1 : Int32)), .val (.int (0 : Int32)), .val (.int (1 : Int32)), .unset, .unset, .unset, .unset, .unset, .unset, .unset, .unset, .unset, .unset, .unset, .unset, .unset, .unset, .unset, .unset, .unset, .unset] [])
  exact g_ret X56 hx hlk hret e56 (by decide) (by decide) (hb hby d16_60) ⟨rfl, rfl, rfl⟩
theorem ef_rm_dq (m : MethodId) (x0 : Addr) (x1 : Int32) (x2 : Int32) (x3 : Int32)  : entryFrame m #[(.ref x0), (.int x1), (.int x2), (.int x3)] 7 = mkF m 0 #[.val (.ref x0), .val (.int x1), .val (.int x2), .val (.int x3), .unset, .unset, .unset] [] := by first | (simp [entryFrame, mkF, argsToLocals, Value.category]; done) | rfl
theorem pn_57 : plainFor (⟨"java/util/DualPivotQuicksort", "sort", "([JIII)V"⟩ : MethodName) = true := by first | exact plainFor_of_name (by first | (simp [plainName, overriddenIn]; done) | decide +kernel) | decide +kernel
theorem pd_58 : parseMethodDescriptor "(Ljava/util/DualPivotQuicksort$Sorter;[JIII)V" = some ⟨[(.object "java/util/DualPivotQuicksort$Sorter"), (.array .long), .int, .int, .int], none⟩ := by decide +kernel
set_option maxRecDepth 65536 in
set_option maxHeartbeats 40000000 in
theorem rm_dq (l : Launch) (Z : State) (a0 : Array Value) (hw : ∀ d ∈ tables_1, d.before a0 Z = true) (b : Addr) (h0 : Heap) :
    Ctr l Z (⟨"java/util/DualPivotQuicksort", "sort", "([JIII)V"⟩ : MethodName) jdk_2529_method_12_code 7 (Option.none : Option FieldType) [] ({ frames := 2, cells := 0, slots := 0, locals := 54 } : Room) ({ frames := 2, cells := 0, slots := 0, locals := 54 } : Room).cells ({ frames := 2, cells := 0, slots := 0, locals := 54 } : Room).slots #[(.ref b), (.int (0 : Int32)), (.int (0 : Int32)), (.int (1 : Int32))] h0 (fun u h L => u = none ∧ L = [] ∧ h = h0) := by
  refine Ctr.of pn_57 ?_
  intro p e s m below meth c s₁ hx hby hml hown hnm hret hlk hZ X0 e0
  refine Goes.cast (ef_rm_dq m b (0 : Int32) (0 : Int32) (1 : Int32)) ?_
  refine g_iload_n (i := 3) X0 hx (hb hby d15_0) (by rfl) rfl ?_
  refine g_iload_n (i := 2) X0 hx (hb hby d15_1) (by rfl) rfl ?_
  refine g_isub X0 hx (hb hby d15_2) rfl ?_
  rw [show ((1 : Int32) - (0 : Int32)) = (1 : Int32) by decide]
  refine g_istore (i := 4) X0 hx #[.val (.ref b), .val (.int (0 : Int32)), .val (.int (0 : Int32)), .val (.int (1 : Int32)), .val (.int (1 : Int32)), .unset, .unset] (hb hby d15_3) rfl rfl ?_
  refine g_iload_n (i := 1) X0 hx (hb hby d15_5) (by rfl) rfl ?_
  refine g_iconst (v := (1 : Int32)) X0 hx (hb hby d15_6) (by decide) rfl ?_
  refine g_icmp_le X0 hx (hb hby d15_7) (by decide) (pt := 68) (by decide) rfl (fun _ => ?_) (fun q_ => absurd q_ (by decide))
  refine g_aconst_null X0 hx (hb hby d15_68) rfl ?_
  refine g_aload_n (i := 0) X0 hx (hb hby d15_69) (by rfl) rfl rfl ?_
  refine g_iconst (v := (0 : Int32)) X0 hx (hb hby d15_70) (by decide) rfl ?_
  refine g_iload_n (i := 2) X0 hx (hb hby d15_71) (by rfl) rfl ?_
  refine g_iload_n (i := 3) X0 hx (hb hby d15_72) (by rfl) rfl ?_
  refine g_callS X0 hx hZ hown (wd hw 77 rfl) (wd hw 78 rfl) (wd hw 75 rfl) (wd hw 79 rfl) (by decide) e0 (rm_dq2 l Z a0 hw b h0) (by rw [hml]; rfl) [.null, (.ref b), (.int (0 : Int32)), (.int (0 : Int32)), (.int (1 : Int32))] [] rfl (lenOf pd_58 rfl) rfl (by show 0 + (25 + 11) + 18 ≤ _; decide) (by decide) (by decide) (by decide) (hb hby d15_73) rfl ?_
  intro T58 v58 L58 X58 hQ58
  obtain ⟨rfl, rfl, e58⟩ := hQ58
  show Goes p e below _ T58 (mkF m 76 #[.val (.ref b), .val (.int (0 : Int32)), .val (.int (0 : Int32)), .val (.int (1 : Int32)), .val (.int (1 : Int32)), .unset, .unset] [])
  exact g_ret X58 hx hlk hret e58 (by decide) (by decide) (hb hby d15_76) ⟨rfl, rfl, rfl⟩
theorem ef_rm_as (m : MethodId) (x0 : Addr)  : entryFrame m #[(.ref x0)] 1 = mkF m 0 #[.val (.ref x0)] [] := by first | (simp [entryFrame, mkF, argsToLocals, Value.category]; done) | rfl
theorem pn_59 : plainFor (⟨"java/util/Arrays", "sort", "([J)V"⟩ : MethodName) = true := by first | exact plainFor_of_name (by first | (simp [plainName, overriddenIn]; done) | decide +kernel) | decide +kernel
theorem pd_60 : parseMethodDescriptor "([JIII)V" = some ⟨[(.array .long), .int, .int, .int], none⟩ := by decide +kernel
set_option maxRecDepth 65536 in
set_option maxHeartbeats 40000000 in
theorem rm_as (l : Launch) (Z : State) (a0 : Array Value) (hw : ∀ d ∈ tables_1, d.before a0 Z = true) (b : Addr) (f : Nat → Int64) (h0 : Heap) (Ab : ArJ Z h0 b .long 1 f) :
    Ctr l Z (⟨"java/util/Arrays", "sort", "([J)V"⟩ : MethodName) jdk_65_method_4_code 1 (Option.none : Option FieldType) [] ({ frames := 3, cells := 0, slots := 0, locals := 72 } : Room) ({ frames := 3, cells := 0, slots := 0, locals := 72 } : Room).cells ({ frames := 3, cells := 0, slots := 0, locals := 72 } : Room).slots #[(.ref b)] h0 (fun u h L => u = none ∧ L = [] ∧ h = h0) := by
  refine Ctr.of pn_59 ?_
  intro p e s m below meth c s₁ hx hby hml hown hnm hret hlk hZ X0 e0
  refine Goes.cast (ef_rm_as m b) ?_
  refine g_aload_n (i := 0) X0 hx (hb hby d14_0) (by rfl) rfl rfl ?_
  refine g_iconst (v := (0 : Int32)) X0 hx (hb hby d14_1) (by decide) rfl ?_
  refine g_iconst (v := (0 : Int32)) X0 hx (hb hby d14_2) (by decide) rfl ?_
  refine g_aload_n (i := 0) X0 hx (hb hby d14_3) (by rfl) rfl rfl ?_
  refine g_arraylengthJ X0 hx hZ e0 Ab (z := (1 : Int32)) (show _ = (1 : Int32) by decide) (hb hby d14_4) rfl ?_
  refine g_callS X0 hx hZ hown (wd hw 73 rfl) (wd hw 74 rfl) (wd hw 75 rfl) (wd hw 76 rfl) (by decide) e0 (rm_dq l Z a0 hw b h0) (by rw [hml]; rfl) [(.ref b), (.int (0 : Int32)), (.int (0 : Int32)), (.int (1 : Int32))] [] rfl (lenOf pd_60 rfl) rfl (by show 0 + (7 + 11) + 54 ≤ _; decide) (by decide) (by decide) (by decide) (hb hby d14_5) rfl ?_
  intro T60 v60 L60 X60 hQ60
  obtain ⟨rfl, rfl, e60⟩ := hQ60
  show Goes p e below _ T60 (mkF m 8 #[.val (.ref b)] [])
  exact g_ret X60 hx hlk hret e60 (by decide) (by decide) (hb hby d14_8) ⟨rfl, rfl, rfl⟩
theorem ef_rm_co (m : MethodId) (x0 : Addr) (x1 : Int32)  : entryFrame m #[(.ref x0), (.int x1)] 3 = mkF m 0 #[.val (.ref x0), .val (.int x1), .unset] [] := by first | (simp [entryFrame, mkF, argsToLocals, Value.category]; done) | rfl
theorem pn_61 : plainFor (⟨"java/util/Arrays", "copyOf", "([II)[I"⟩ : MethodName) = true := by first | exact plainFor_of_name (by first | (simp [plainName, overriddenIn]; done) | decide +kernel) | decide +kernel
set_option maxRecDepth 65536 in
set_option maxHeartbeats 40000000 in
theorem rm_co (l : Launch) (Z : State) (a0 : Array Value) (hw : ∀ d ∈ tables_1, d.before a0 Z = true) (b : Addr) (f : Nat → Int32) (h0 : Heap) (n0 : Nat) (Z0 : n0 ≤ h0.size) (Ab : ArI Z h0 b .int 2 f) (Eb : Exa Z h0 b "[I") :
    Ctr l Z (⟨"java/util/Arrays", "copyOf", "([II)[I"⟩ : MethodName) jdk_65_method_123_code 3 (Option.some (FieldType.array FieldType.int)) [] ({ frames := 1, cells := 1, slots := 2, locals := 14 } : Room) ({ frames := 1, cells := 1, slots := 2, locals := 14 } : Room).cells ({ frames := 1, cells := 1, slots := 2, locals := 14 } : Room).slots #[(.ref b), (.int (2 : Int32))] h0 (fun u h L => ∃ r, u = some (.ref r) ∧ Fr n0 L ∧ Ext h0 h ∧ h0.size ≤ r ∧ ArI Z h r .int 2 f) := by
  refine Ctr.of pn_61 ?_
  intro p e s m below meth c s₁ hx hby hml hown hnm hret hlk hZ X0 e0
  refine Goes.cast (ef_rm_co m b (2 : Int32)) ?_
  refine g_iload_n (i := 1) X0 hx (hb hby d18_0) (by rfl) rfl ?_
  refine g_aload_n (i := 0) X0 hx (hb hby d18_1) (by rfl) rfl rfl ?_
  refine g_arraylengthI X0 hx hZ e0 Ab (z := (2 : Int32)) (show _ = (2 : Int32) by decide) (hb hby d18_2) rfl ?_
  refine g_icmp_ne X0 hx (hb hby d18_3) (by decide) (pt := 14) (by decide) rfl (fun q_ => absurd (rfl) q_) (fun _ => ?_)
  refine g_aload_n (i := 0) X0 hx (hb hby d18_6) (by rfl) rfl rfl ?_
  refine g_clone X0 hx hZ hown (wd hw 86 rfl) (wd hw 87 rfl) (wd hw 91 rfl) (wd hw 89 rfl) (wd hw 90 rfl) (wd hw 92 rfl) e0 Ab Eb (by rw [hml]; rfl) (by decide) (by decide) 2 (by decide) (by decide) (by decide) (hb hby d18_7) rfl ?_
  intro T62 h62 b62 X62 e62 g62 Ex62 A62 EA62
  refine g_castY X62 hx hZ hown (wd hw 93 rfl) e62 (Ins.self EA62) (hb hby d18_10) rfl ?_
  intro T63 X63 e63
  exact g_retA X63 hx rfl rfl hlk hret e63 (by decide) (by decide) (hb hby d18_13) ⟨_, rfl, Fr.nil n0, Ex62, by rw [g62]; exact Nat.le_refl _, A62⟩
def own_tb (x : Int64) (b : Nat) : Prop := x.toBitVec.getLsbD b = true
theorem own_msk : ∀ r b : Fin 64, ((1 : Int64) <<< ((Int32.ofNat r.val).toInt64 &&& 63)).toBitVec.getLsbD b.val = decide (b.val = r.val) := by decide +kernel
theorem own_of (v : Int32) (h0 : 0 ≤ v.toInt) (h1 : v.toInt < 64) : ∃ r : Fin 64, v = Int32.ofNat r.val ∧ (r.val : Int) = v.toInt := by
  refine ⟨⟨v.toInt.toNat, by omega⟩, Int32.toInt_inj.mp ?_, by show ((v.toInt.toNat : Nat) : Int) = _; omega⟩
  rw [Int32.toInt_ofNat_of_lt (by show v.toInt.toNat < _; omega)]
  show _ = ((v.toInt.toNat : Nat) : Int)
  omega
theorem own_or (x : Int64) (v : Int32) (b : Nat) (h0 : 0 ≤ v.toInt) (h1 : v.toInt < 64) (hb : b < 64) : own_tb (x ||| ((1 : Int64) <<< (v.toInt64 &&& 63))) b ↔ own_tb x b ∨ (b : Int) = v.toInt := by
  obtain ⟨r, rfl, hr⟩ := own_of v h0 h1
  unfold own_tb
  rw [Int64.toBitVec_or, BitVec.getLsbD_or, own_msk r ⟨b, hb⟩, ← hr]
  simp only [Bool.or_eq_true, decide_eq_true_eq]
  exact or_congr Iff.rfl ⟨fun q => by omega, fun q => by omega⟩
theorem own_sh : ∀ r : Fin 64, ((Int32.ofNat r.val).toInt64.toUInt64 &&& Int64.toUInt64 63) = UInt64.ofNat r.val := by decide +kernel
theorem own_rd (x : Int64) (v : Int32) (h0 : 0 ≤ v.toInt) (h1 : v.toInt < 64) : XT.ushrL x v &&& 1 = 0 ↔ ¬ own_tb x v.toInt.toNat := by
  obtain ⟨r, rfl, hr⟩ := own_of v h0 h1
  have e : (XT.ushrL x (Int32.ofNat r.val)).toBitVec = x.toBitVec >>> r.val := by
    unfold XT.ushrL
    rw [own_sh r]
    have h64 : r.val % 64 = r.val := Nat.mod_eq_of_lt r.isLt
    have h2 : r.val % 18446744073709551616 = r.val := Nat.mod_eq_of_lt (by omega)
    show (x.toUInt64 >>> UInt64.ofNat r.val).toBitVec = _
    rw [UInt64.toBitVec_shiftRight]
    simp [BitVec.ushiftRight_eq', h64, h2]
  have e2 : (Int32.ofNat r.val).toInt.toNat = r.val := by omega
  rw [e2]
  unfold own_tb
  rw [← Int64.toBitVec_inj, Int64.toBitVec_and, e]
  constructor
  · intro q s
    have := congrArg (fun z => z.getLsbD 0) q
    rw [BitVec.getLsbD_eq_getElem r.isLt] at s
    simp [s] at this
  · intro q
    apply BitVec.eq_of_getLsbD_eq
    intro i hi
    by_cases h : i = 0
    · subst h
      have q2 := Bool.eq_false_iff.mpr q
      rw [BitVec.getLsbD_eq_getElem r.isLt] at q2
      simp [q2]
    · simp [h]
theorem ef_rm_cu (m : MethodId) (x0 : Addr) (x1 : Addr)  : entryFrame m #[(.ref x0), (.ref x1)] 8 = mkF m 0 #[.val (.ref x0), .val (.ref x1), .unset, .unset, .unset, .unset, .unset, .unset] [] := by first | (simp [entryFrame, mkF, argsToLocals, Value.category]; done) | rfl
theorem pn_64 : plainFor (⟨"com/example/nav_by_schema/navbyschema/regex/CodeUnitSet", "<init>", "([I)V"⟩ : MethodName) = true := by first | exact plainFor_of_name (by first | (simp [plainName, overriddenIn]; done) | decide +kernel) | decide +kernel
theorem pd_67 : parseMethodDescriptor "(II)I" = some ⟨[.int, .int], some .int⟩ := by decide +kernel
set_option maxRecDepth 65536 in
set_option maxHeartbeats 40000000 in
theorem rm_cu (l : Launch) (Z : State) (a0 : Array Value) (hw : ∀ d ∈ tables_1, d.before a0 Z = true) (a ra : Addr) (lo hi : Int32) (fr : Nat → Int32) (h0 : Heap) (n0 : Nat) (ga : n0 ≤ a) (hra : ra ≠ a) (r0 : fr 0 = lo) (r1 : fr 1 = hi) (q0 : 0 ≤ lo.toInt) (q1 : lo.toInt ≤ hi.toInt) (q2 : hi.toInt ≤ 255) (E : Exa Z h0 a "com/example/nav_by_schema/navbyschema/regex/CodeUnitSet") (F1 : Fld Z h0 a "com/example/nav_by_schema/navbyschema/regex/CodeUnitSet" "ranges" "[I" .null) (F2 : Fld Z h0 a "com/example/nav_by_schema/navbyschema/regex/CodeUnitSet" "low" "J" (.long 0)) (F3 : Fld Z h0 a "com/example/nav_by_schema/navbyschema/regex/CodeUnitSet" "high" "J" (.long 0)) (Ar : ArI Z h0 ra .int 2 fr) :
    Ctr l Z (⟨"com/example/nav_by_schema/navbyschema/regex/CodeUnitSet", "<init>", "([I)V"⟩ : MethodName) prog_7_method_1_code 8 (Option.none : Option FieldType) [] ({ frames := 1, cells := 0, slots := 0, locals := 14 } : Room) ({ frames := 1, cells := 0, slots := 0, locals := 14 } : Room).cells ({ frames := 1, cells := 0, slots := 0, locals := 14 } : Room).slots #[(.ref a), (.ref ra)] h0 (fun u h L => u = none ∧ Fr n0 L ∧ Keep h0 h [a] ∧ Exa Z h a "com/example/nav_by_schema/navbyschema/regex/CodeUnitSet" ∧ Fld Z h a "com/example/nav_by_schema/navbyschema/regex/CodeUnitSet" "ranges" "[I" (.ref ra) ∧ ∃ lw hg, Fld Z h a "com/example/nav_by_schema/navbyschema/regex/CodeUnitSet" "low" "J" (.long lw) ∧ Fld Z h a "com/example/nav_by_schema/navbyschema/regex/CodeUnitSet" "high" "J" (.long hg) ∧ (∀ b : Nat, b < 64 → (own_tb lw b ↔ lo.toInt ≤ (b : Int) ∧ (b : Int) ≤ hi.toInt)) ∧ (∀ b : Nat, b < 64 → (own_tb hg b ↔ lo.toInt ≤ (b : Int) + 64 ∧ (b : Int) + 64 ≤ hi.toInt))) := by
  refine Ctr.of pn_64 ?_
  intro p e s m below meth c s₁ hx hby hml hown hnm hret hlk hZ X0 e0
  refine Goes.cast (ef_rm_cu m a ra) ?_
  refine g_aload_n (i := 0) X0 hx (hb hby d19_0) (by rfl) rfl rfl ?_
  refine g_initO X0 hx hZ hown (wd hw 100 rfl) (wd hw 12 rfl) (wd hw 13 rfl) e0 (by rw [hml]; rfl) (hb hby d19_1) rfl (by decide) (by decide) ?_
  intro T65 X65 e65
  have K0 := Keep.refl h0 [a]
  refine g_aload_n (i := 0) X65 hx (hb hby d19_4) (by rfl) rfl rfl ?_
  refine g_aload_n (i := 1) X65 hx (hb hby d19_5) (by rfl) rfl rfl ?_
  refine g_putF X65 hx hZ hown (wd hw 101 rfl) e65 F1 E (Or.inr ⟨wd hw 102 rfl, rfl, hnm⟩) (wd hw 96 rfl) (ty := (.array .int)) (by decide) rfl rfl (hb hby d19_6) rfl ?_
  intro T66 h66 X66 e66 W66
  have N66 := Fr.snoc X66 (Fr.nil n0) ga
  have E66_ := E.wr W66
  have F66_ranges := F1.same W66
  have F66_low := F2.other W66 (Or.inr (slot_ne (C := "com/example/nav_by_schema/navbyschema/regex/CodeUnitSet") (Or.inr (wd hw 105 rfl)) (Or.inr (wd hw 102 rfl)) (by decide) (t := .long) (t' := (.array .int)) (by decide) (by decide)))
  have F66_high := F3.other W66 (Or.inr (slot_ne (C := "com/example/nav_by_schema/navbyschema/regex/CodeUnitSet") (Or.inr (wd hw 107 rfl)) (Or.inr (wd hw 102 rfl)) (by decide) (t := .long) (t' := (.array .int)) (by decide) (by decide)))
  have K66 := K0.wr W66 (Or.inl (List.mem_singleton.mpr rfl))
  have Ar1 := Ar.other W66 hra
  refine g_lconst (v := (0 : Int64)) X66 hx (hb hby d19_9) (by decide) rfl ?_
  refine g_lstore_n (i := 2) X66 hx #[.val (.ref a), .val (.ref ra), .val (.long (0 : Int64)), .second, .unset, .unset, .unset, .unset] (hb hby d19_10) rfl rfl ?_
  refine g_lconst (v := (0 : Int64)) X66 hx (hb hby d19_11) (by decide) rfl ?_
  refine g_lstore (i := 4) X66 hx #[.val (.ref a), .val (.ref ra), .val (.long (0 : Int64)), .second, .val (.long (0 : Int64)), .second, .unset, .unset] (hb hby d19_12) rfl rfl ?_
  refine g_iconst (v := (0 : Int32)) X66 hx (hb hby d19_14) (by decide) rfl ?_
  refine g_istore (i := 6) X66 hx #[.val (.ref a), .val (.ref ra), .val (.long (0 : Int64)), .second, .val (.long (0 : Int64)), .second, .val (.int (0 : Int32)), .unset] (hb hby d19_15) rfl rfl ?_
  have loop : ∀ (k : Nat) (vc : Int32) (lw hg : Int64) (T : State) (locs : List Loc) (h : Heap), Stand p l e ({ frames := 1, cells := 0, slots := 0, locals := 14 } : Room) s m #[(.ref a), (.ref ra)] below meth c T locs (0) (0) → T.heap = h → h = h66 → Fr n0 locs → lo.toInt < 128 → lo.toInt ≤ vc.toInt → vc.toInt + k = (if hi.toInt < 127 then hi.toInt else 127) + 1 → (∀ b : Nat, b < 64 → (own_tb lw b ↔ lo.toInt ≤ (b : Int) ∧ (b : Int) < vc.toInt)) → (∀ b : Nat, b < 64 → (own_tb hg b ↔ lo.toInt ≤ (b : Int) + 64 ∧ (b : Int) + 64 < vc.toInt)) → Goes p e below (KQ s ({ frames := 1, cells := 0, slots := 0, locals := 14 } : Room).cells ({ frames := 1, cells := 0, slots := 0, locals := 14 } : Room).slots (fun u h L => u = none ∧ Fr n0 L ∧ Keep h0 h [a] ∧ Exa Z h a "com/example/nav_by_schema/navbyschema/regex/CodeUnitSet" ∧ Fld Z h a "com/example/nav_by_schema/navbyschema/regex/CodeUnitSet" "ranges" "[I" (.ref ra) ∧ ∃ lw hg, Fld Z h a "com/example/nav_by_schema/navbyschema/regex/CodeUnitSet" "low" "J" (.long lw) ∧ Fld Z h a "com/example/nav_by_schema/navbyschema/regex/CodeUnitSet" "high" "J" (.long hg) ∧ (∀ b : Nat, b < 64 → (own_tb lw b ↔ lo.toInt ≤ (b : Int) ∧ (b : Int) ≤ hi.toInt)) ∧ (∀ b : Nat, b < 64 → (own_tb hg b ↔ lo.toInt ≤ (b : Int) + 64 ∧ (b : Int) + 64 ≤ hi.toInt)))) T (mkF m 40 #[.val (.ref a), .val (.ref ra), .val (.long lw), .second, .val (.long hg), .second, .val (.int (0 : Int32)), .val (.int vc)] []) := by
    intro k
    induction k with
    | zero =>
      intro vc lw hg T locs h X eT eh hN l128 hlv hk1 B1 B2
      subst eh
      have hmi : (if (127 : Int32) < hi then (127 : Int32) else hi).toInt = if hi.toInt < 127 then hi.toInt else 127 := by
        by_cases q : (127 : Int32) < hi
        · rw [if_pos q]; rw [own_ltI, show (127 : Int32).toInt = 127 from rfl] at q; rw [if_neg (by omega)]; rfl
        · rw [if_neg q]; rw [own_ltI, show (127 : Int32).toInt = 127 from rfl] at q; by_cases r : hi.toInt < 127
          · rw [if_pos r]
          · rw [if_neg r]; omega
      have hsp : (if hi.toInt < 127 then hi.toInt else 127) ≤ 127 ∧ (if hi.toInt < 127 then hi.toInt else 127) ≤ hi.toInt := by split <;> omega
      refine g_iload (i := 7) X hx (hb hby d19_40) (by rfl) rfl ?_
      refine g_aload_n (i := 1) X hx (hb hby d19_42) (by rfl) rfl rfl ?_
      refine g_iload (i := 6) X hx (hb hby d19_43) (by rfl) rfl ?_
      refine g_iconst (v := (1 : Int32)) X hx (hb hby d19_45) (by decide) rfl ?_
      refine g_iadd X hx (hb hby d19_46) rfl ?_
      rw [show ((0 : Int32) + (1 : Int32)) = (1 : Int32) by decide]
      refine g_iaload' X hx hZ eT Ar1 (by decide) (by decide) (x := hi) r1 (hb hby d19_47) rfl ?_
      refine g_bipush (v := (127 : Int32)) X hx (hb hby d19_48) (by decide) rfl ?_
      refine g_callS X hx hZ hown (wd hw 103 rfl) (wd hw 31 rfl) (wd hw 32 rfl) (wd hw 33 rfl) (by decide) eT (rm_min l Z a0 hw hi 127 h) (by rw [hml]; rfl) [(.int hi), (.int (127 : Int32))] [(.int vc)] rfl (lenOf pd_67 rfl) rfl (by show 1 + (2 + 11) + 0 ≤ _; decide) (by decide) (by decide) (by decide) (hb hby d19_50) rfl ?_
      intro T67 v67 L67 X67 hQ67
      obtain ⟨rfl, rfl, e67⟩ := hQ67
      have N67 := Fr.app hN (Fr.nil n0)
      show Goes p e below _ T67 (mkF m 53 #[.val (.ref a), .val (.ref ra), .val (.long lw), .second, .val (.long hg), .second, .val (.int (0 : Int32)), .val (.int vc)] [(.int (if (127 : Int32) < hi then (127 : Int32) else hi)), (.int vc)])
      refine g_icmp_gt X67 hx (hb hby d19_53) (by decide) (pt := 91) (by decide) rfl (fun _ => ?_) (fun q_ => absurd (by rw [own_ltI, hmi]; omega) q_)
      refine g_iinc (i := 6) (x := (0 : Int32)) (y := (2 : Int32)) X67 hx #[.val (.ref a), .val (.ref ra), .val (.long lw), .second, .val (.long hg), .second, .val (.int (2 : Int32)), .val (.int vc)] (hb hby d19_91) (by rfl) (by decide) rfl rfl ?_
      refine g_goto X67 hx (hb hby d19_94) (by decide) (by decide) (pc' := 17) ?_
      refine g_iload (i := 6) X67 hx (hb hby d19_17) (by rfl) rfl ?_
      refine g_aload_n (i := 1) X67 hx (hb hby d19_19) (by rfl) rfl rfl ?_
      refine g_arraylengthI X67 hx hZ e67 Ar1 (z := (2 : Int32)) (show _ = (2 : Int32) by decide) (hb hby d19_20) rfl ?_
      refine g_icmp_ge X67 hx (hb hby d19_21) (by decide) (pt := 97) (by decide) rfl (fun _ => ?_) (fun q_ => absurd q_ (by decide))
      refine g_aload_n (i := 0) X67 hx (hb hby d19_97) (by rfl) rfl rfl ?_
      refine g_lload_n (i := 2) X67 hx (hb hby d19_98) (by rfl) rfl ?_
      refine g_putF X67 hx hZ hown (wd hw 104 rfl) e67 F66_low E66_ (Or.inr ⟨wd hw 105 rfl, rfl, hnm⟩) (wd hw 96 rfl) (ty := .long) (by decide) rfl rfl (hb hby d19_99) rfl ?_
      intro T68 h68 X68 e68 W68
      have N68 := Fr.snoc X68 N67 ga
      have E68_ := E66_.wr W68
      have F68_ranges := F66_ranges.other W68 (Or.inr (slot_ne (C := "com/example/nav_by_schema/navbyschema/regex/CodeUnitSet") (Or.inr (wd hw 102 rfl)) (Or.inr (wd hw 105 rfl)) (by decide) (t := (.array .int)) (t' := .long) (by decide) (by decide)))
      have F68_low := F66_low.same W68
      have F68_high := F66_high.other W68 (Or.inr (slot_ne (C := "com/example/nav_by_schema/navbyschema/regex/CodeUnitSet") (Or.inr (wd hw 107 rfl)) (Or.inr (wd hw 105 rfl)) (by decide) (t := .long) (t' := .long) (by decide) (by decide)))
      have K68 := K66.wr W68 (Or.inl (List.mem_singleton.mpr rfl))
      refine g_aload_n (i := 0) X68 hx (hb hby d19_102) (by rfl) rfl rfl ?_
      refine g_lload (i := 4) X68 hx (hb hby d19_103) (by rfl) rfl ?_
      refine g_putF X68 hx hZ hown (wd hw 106 rfl) e68 F68_high E68_ (Or.inr ⟨wd hw 107 rfl, rfl, hnm⟩) (wd hw 96 rfl) (ty := .long) (by decide) rfl rfl (hb hby d19_105) rfl ?_
      intro T69 h69 X69 e69 W69
      have N69 := Fr.snoc X69 N68 ga
      have E69_ := E68_.wr W69
      have F69_ranges := F68_ranges.other W69 (Or.inr (slot_ne (C := "com/example/nav_by_schema/navbyschema/regex/CodeUnitSet") (Or.inr (wd hw 102 rfl)) (Or.inr (wd hw 107 rfl)) (by decide) (t := (.array .int)) (t' := .long) (by decide) (by decide)))
      have F69_low := F68_low.other W69 (Or.inr (slot_ne (C := "com/example/nav_by_schema/navbyschema/regex/CodeUnitSet") (Or.inr (wd hw 105 rfl)) (Or.inr (wd hw 107 rfl)) (by decide) (t := .long) (t' := .long) (by decide) (by decide)))
      have F69_high := F68_high.same W69
      have K69 := K68.wr W69 (Or.inl (List.mem_singleton.mpr rfl))
      exact g_ret X69 hx hlk hret e69 (by decide) (by decide) (hb hby d19_108) ⟨rfl, N69, K69, E69_, F69_ranges, lw, hg, F69_low, F69_high, ⟨fun b hb => (B1 b hb).trans (by split at hk1 <;> omega), fun b hb => (B2 b hb).trans (by split at hk1 <;> omega)⟩⟩
    | succ k ih =>
      intro vc lw hg T locs h X eT eh hN l128 hlv hk1 B1 B2
      subst eh
      have hmi : (if (127 : Int32) < hi then (127 : Int32) else hi).toInt = if hi.toInt < 127 then hi.toInt else 127 := by
        by_cases q : (127 : Int32) < hi
        · rw [if_pos q]; rw [own_ltI, show (127 : Int32).toInt = 127 from rfl] at q; rw [if_neg (by omega)]; rfl
        · rw [if_neg q]; rw [own_ltI, show (127 : Int32).toInt = 127 from rfl] at q; by_cases r : hi.toInt < 127
          · rw [if_pos r]
          · rw [if_neg r]; omega
      have hsp : (if hi.toInt < 127 then hi.toInt else 127) ≤ 127 ∧ (if hi.toInt < 127 then hi.toInt else 127) ≤ hi.toInt := by split <;> omega
      refine g_iload (i := 7) X hx (hb hby d19_40) (by rfl) rfl ?_
      refine g_aload_n (i := 1) X hx (hb hby d19_42) (by rfl) rfl rfl ?_
      refine g_iload (i := 6) X hx (hb hby d19_43) (by rfl) rfl ?_
      refine g_iconst (v := (1 : Int32)) X hx (hb hby d19_45) (by decide) rfl ?_
      refine g_iadd X hx (hb hby d19_46) rfl ?_
      rw [show ((0 : Int32) + (1 : Int32)) = (1 : Int32) by decide]
      refine g_iaload' X hx hZ eT Ar1 (by decide) (by decide) (x := hi) r1 (hb hby d19_47) rfl ?_
      refine g_bipush (v := (127 : Int32)) X hx (hb hby d19_48) (by decide) rfl ?_
      refine g_callS X hx hZ hown (wd hw 103 rfl) (wd hw 31 rfl) (wd hw 32 rfl) (wd hw 33 rfl) (by decide) eT (rm_min l Z a0 hw hi 127 h) (by rw [hml]; rfl) [(.int hi), (.int (127 : Int32))] [(.int vc)] rfl (lenOf pd_67 rfl) rfl (by show 1 + (2 + 11) + 0 ≤ _; decide) (by decide) (by decide) (by decide) (hb hby d19_50) rfl ?_
      intro T70 v70 L70 X70 hQ70
      obtain ⟨rfl, rfl, e70⟩ := hQ70
      have N70 := Fr.app hN (Fr.nil n0)
      show Goes p e below _ T70 (mkF m 53 #[.val (.ref a), .val (.ref ra), .val (.long lw), .second, .val (.long hg), .second, .val (.int (0 : Int32)), .val (.int vc)] [(.int (if (127 : Int32) < hi then (127 : Int32) else hi)), (.int vc)])
      refine g_icmp_gt X70 hx (hb hby d19_53) (by decide) (pt := 91) (by decide) rfl (fun q_ => absurd q_ (by rw [own_ltI, hmi]; omega)) (fun _ => ?_)
      refine g_iload (i := 7) X70 hx (hb hby d19_56) (by rfl) rfl ?_
      refine g_bipush (v := (64 : Int32)) X70 hx (hb hby d19_58) (by decide) rfl ?_
      refine g_icmp_ge X70 hx (hb hby d19_60) (by decide) (pt := 73) (by decide) rfl (fun qc => ?_) (fun qc => ?_)
      · rw [own_ltI, show (64 : Int32).toInt = 64 from rfl] at qc
        have hv1 : (vc + 1).toInt = vc.toInt + 1 := own_inc (by omega)
        have hv2 : (vc - 64).toInt = vc.toInt - 64 := by have e := c_isub vc 64; have r := rng32 (vc - 64); rw [show (64 : Int32).toInt = 64 from rfl] at e; omega
        refine g_lload (i := 4) X70 hx (hb hby d19_73) (by rfl) rfl ?_
        refine g_lconst (v := (1 : Int64)) X70 hx (hb hby d19_75) (by decide) rfl ?_
        refine g_iload (i := 7) X70 hx (hb hby d19_76) (by rfl) rfl ?_
        refine g_bipush (v := (64 : Int32)) X70 hx (hb hby d19_78) (by decide) rfl ?_
        refine g_isub X70 hx (hb hby d19_80) rfl ?_
        refine g_lshl X70 hx (hb hby d19_81) rfl ?_
        refine g_lor X70 hx (hb hby d19_82) rfl ?_
        refine g_lstore (i := 4) X70 hx #[.val (.ref a), .val (.ref ra), .val (.long lw), .second, .val (.long (hg ||| ((1 : Int64) <<< ((vc - (64 : Int32)).toInt64 &&& 63)))), .second, .val (.int (0 : Int32)), .val (.int vc)] (hb hby d19_83) rfl rfl ?_
        refine g_iinc (i := 7) (x := vc) (y := (vc + (1 : Int32))) X70 hx #[.val (.ref a), .val (.ref ra), .val (.long lw), .second, .val (.long (hg ||| ((1 : Int64) <<< ((vc - (64 : Int32)).toInt64 &&& 63)))), .second, .val (.int (0 : Int32)), .val (.int (vc + (1 : Int32)))] (hb hby d19_85) (by rfl) (by rfl) rfl rfl ?_
        refine g_goto X70 hx (hb hby d19_88) (by decide) (by decide) (pc' := 40) ?_
        exact ih (vc + 1) _ _ _ _ _ X70 e70 rfl N70 l128 (by omega) (by omega) (fun b hb => (B1 b hb).trans (by omega)) (fun b hb => (own_or hg (vc - 64) b (by omega) (by omega) hb).trans (by rw [B2 b hb, hv2]; omega))
      · rw [own_ltI, show (64 : Int32).toInt = 64 from rfl] at qc
        have hv1 : (vc + 1).toInt = vc.toInt + 1 := own_inc (by omega)
        refine g_lload_n (i := 2) X70 hx (hb hby d19_63) (by rfl) rfl ?_
        refine g_lconst (v := (1 : Int64)) X70 hx (hb hby d19_64) (by decide) rfl ?_
        refine g_iload (i := 7) X70 hx (hb hby d19_65) (by rfl) rfl ?_
        refine g_lshl X70 hx (hb hby d19_67) rfl ?_
        refine g_lor X70 hx (hb hby d19_68) rfl ?_
        refine g_lstore_n (i := 2) X70 hx #[.val (.ref a), .val (.ref ra), .val (.long (lw ||| ((1 : Int64) <<< (vc.toInt64 &&& 63)))), .second, .val (.long hg), .second, .val (.int (0 : Int32)), .val (.int vc)] (hb hby d19_69) rfl rfl ?_
        refine g_goto X70 hx (hb hby d19_70) (by decide) (by decide) (pc' := 85) ?_
        refine g_iinc (i := 7) (x := vc) (y := (vc + (1 : Int32))) X70 hx #[.val (.ref a), .val (.ref ra), .val (.long (lw ||| ((1 : Int64) <<< (vc.toInt64 &&& 63)))), .second, .val (.long hg), .second, .val (.int (0 : Int32)), .val (.int (vc + (1 : Int32)))] (hb hby d19_85) (by rfl) (by rfl) rfl rfl ?_
        refine g_goto X70 hx (hb hby d19_88) (by decide) (by decide) (pc' := 40) ?_
        exact ih (vc + 1) _ _ _ _ _ X70 e70 rfl N70 l128 (by omega) (by omega) (fun b hb => (own_or lw vc b (by omega) (by omega) hb).trans (by rw [B1 b hb]; omega)) (fun b hb => (B2 b hb).trans (by omega))
  refine g_iload (i := 6) X66 hx (hb hby d19_17) (by rfl) rfl ?_
  refine g_aload_n (i := 1) X66 hx (hb hby d19_19) (by rfl) rfl rfl ?_
  refine g_arraylengthI X66 hx hZ e66 Ar1 (z := (2 : Int32)) (show _ = (2 : Int32) by decide) (hb hby d19_20) rfl ?_
  refine g_icmp_ge X66 hx (hb hby d19_21) (by decide) (pt := 97) (by decide) rfl (fun q_ => absurd (by decide) q_) (fun _ => ?_)
  refine g_aload_n (i := 1) X66 hx (hb hby d19_24) (by rfl) rfl rfl ?_
  refine g_iload (i := 6) X66 hx (hb hby d19_25) (by rfl) rfl ?_
  refine g_iaload' X66 hx hZ e66 Ar1 (by decide) (by decide) (x := lo) r0 (hb hby d19_27) rfl ?_
  refine g_sipush (v := (128 : Int32)) X66 hx (hb hby d19_28) (by decide) rfl ?_
  refine g_icmp_ge X66 hx (hb hby d19_31) (by decide) (pt := 97) (by decide) rfl (fun ql => ?_) (fun ql => ?_)
  · rw [own_ltI, show (128 : Int32).toInt = 128 from rfl] at ql
    refine g_aload_n (i := 0) X66 hx (hb hby d19_97) (by rfl) rfl rfl ?_
    refine g_lload_n (i := 2) X66 hx (hb hby d19_98) (by rfl) rfl ?_
    refine g_putF X66 hx hZ hown (wd hw 104 rfl) e66 F66_low E66_ (Or.inr ⟨wd hw 105 rfl, rfl, hnm⟩) (wd hw 96 rfl) (ty := .long) (by decide) rfl rfl (hb hby d19_99) rfl ?_
    intro T71 h71 X71 e71 W71
    have N71 := Fr.snoc X71 N66 ga
    have E71_ := E66_.wr W71
    have F71_ranges := F66_ranges.other W71 (Or.inr (slot_ne (C := "com/example/nav_by_schema/navbyschema/regex/CodeUnitSet") (Or.inr (wd hw 102 rfl)) (Or.inr (wd hw 105 rfl)) (by decide) (t := (.array .int)) (t' := .long) (by decide) (by decide)))
    have F71_low := F66_low.same W71
    have F71_high := F66_high.other W71 (Or.inr (slot_ne (C := "com/example/nav_by_schema/navbyschema/regex/CodeUnitSet") (Or.inr (wd hw 107 rfl)) (Or.inr (wd hw 105 rfl)) (by decide) (t := .long) (t' := .long) (by decide) (by decide)))
    have K71 := K66.wr W71 (Or.inl (List.mem_singleton.mpr rfl))
    refine g_aload_n (i := 0) X71 hx (hb hby d19_102) (by rfl) rfl rfl ?_
    refine g_lload (i := 4) X71 hx (hb hby d19_103) (by rfl) rfl ?_
    refine g_putF X71 hx hZ hown (wd hw 106 rfl) e71 F71_high E71_ (Or.inr ⟨wd hw 107 rfl, rfl, hnm⟩) (wd hw 96 rfl) (ty := .long) (by decide) rfl rfl (hb hby d19_105) rfl ?_
    intro T72 h72 X72 e72 W72
    have N72 := Fr.snoc X72 N71 ga
    have E72_ := E71_.wr W72
    have F72_ranges := F71_ranges.other W72 (Or.inr (slot_ne (C := "com/example/nav_by_schema/navbyschema/regex/CodeUnitSet") (Or.inr (wd hw 102 rfl)) (Or.inr (wd hw 107 rfl)) (by decide) (t := (.array .int)) (t' := .long) (by decide) (by decide)))
    have F72_low := F71_low.other W72 (Or.inr (slot_ne (C := "com/example/nav_by_schema/navbyschema/regex/CodeUnitSet") (Or.inr (wd hw 105 rfl)) (Or.inr (wd hw 107 rfl)) (by decide) (t := .long) (t' := .long) (by decide) (by decide)))
    have F72_high := F71_high.same W72
    have K72 := K71.wr W72 (Or.inl (List.mem_singleton.mpr rfl))
    exact g_ret X72 hx hlk hret e72 (by decide) (by decide) (hb hby d19_108) ⟨rfl, N72, K72, E72_, F72_ranges, 0, 0, F72_low, F72_high, ⟨fun b hb => ⟨fun q => absurd q (by simp [own_tb]), fun q => by omega⟩, fun b hb => ⟨fun q => absurd q (by simp [own_tb]), fun q => by omega⟩⟩⟩
  · rw [own_ltI, show (128 : Int32).toInt = 128 from rfl] at ql
    refine g_aload_n (i := 1) X66 hx (hb hby d19_34) (by rfl) rfl rfl ?_
    refine g_iload (i := 6) X66 hx (hb hby d19_35) (by rfl) rfl ?_
    refine g_iaload' X66 hx hZ e66 Ar1 (by decide) (by decide) (x := lo) r0 (hb hby d19_37) rfl ?_
    refine g_istore (i := 7) X66 hx #[.val (.ref a), .val (.ref ra), .val (.long (0 : Int64)), .second, .val (.long (0 : Int64)), .second, .val (.int (0 : Int32)), .val (.int lo)] (hb hby d19_38) rfl rfl ?_
    exact loop ((if hi.toInt < 127 then hi.toInt else 127) + 1 - lo.toInt).toNat lo 0 0 _ _ _ X66 e66 rfl N66 ql (Int.le_refl _) (by split <;> omega) (fun b hb => ⟨fun q => absurd q (by simp [own_tb]), fun q => by omega⟩) (fun b hb => ⟨fun q => absurd q (by simp [own_tb]), fun q => by omega⟩)
theorem own_pk (lo hi : Int32) (l0 : 0 ≤ lo.toInt) (l1 : lo.toInt ≤ 255) (h0 : 0 ≤ hi.toInt) (h1 : hi.toInt ≤ 255) : (XT.ushrL ((lo.toInt64 <<< ((32 : Int32).toInt64 &&& 63)) ||| hi.toInt64) 32).toInt32 = lo ∧ (((lo.toInt64 <<< ((32 : Int32).toInt64 &&& 63)) ||| hi.toInt64)).toInt32 = hi := by
  have e1 : ((lo.toInt64 <<< ((32 : Int32).toInt64 &&& 63)).toInt - lo.toInt * 4294967296) % 18446744073709551616 = 0 := by
    have e := c_lshl lo.toInt64 32 32 (by decide)
    rw [c_i2l] at e
    exact e
  have r1 := rng64 (lo.toInt64 <<< ((32 : Int32).toInt64 &&& 63))
  have e2 : (lo.toInt64 <<< ((32 : Int32).toInt64 &&& 63)).toInt = lo.toInt * 4294967296 := by omega
  have e3 := c_orL (lo.toInt64 <<< ((32 : Int32).toInt64 &&& 63)) hi.toInt64 32 (by decide) 4294967296 (by decide) (by omega) (by rw [c_i2l]; omega) (by rw [c_i2l]; omega)
  rw [c_i2l, e2] at e3
  have r2 := rng64 ((lo.toInt64 <<< ((32 : Int32).toInt64 &&& 63)) ||| hi.toInt64)
  have e4 : ((lo.toInt64 <<< ((32 : Int32).toInt64 &&& 63)) ||| hi.toInt64).toInt = lo.toInt * 4294967296 + hi.toInt := by omega
  have e5 : (XT.ushrL ((lo.toInt64 <<< ((32 : Int32).toInt64 &&& 63)) ||| hi.toInt64) 32).toInt = (((lo.toInt64 <<< ((32 : Int32).toInt64 &&& 63)) ||| hi.toInt64).toInt % 18446744073709551616) / (2 ^ 32 : Nat) := c_lushr _ 32 32 (by decide) (by decide)
  rw [e4, show ((2 ^ 32 : Nat) : Int) = 4294967296 by decide] at e5
  have g1 := c_l2i (XT.ushrL ((lo.toInt64 <<< ((32 : Int32).toInt64 &&& 63)) ||| hi.toInt64) 32)
  have g2 := c_l2i ((lo.toInt64 <<< ((32 : Int32).toInt64 &&& 63)) ||| hi.toInt64)
  have s1 := rng32 (XT.ushrL ((lo.toInt64 <<< ((32 : Int32).toInt64 &&& 63)) ||| hi.toInt64) 32).toInt32
  have s2 := rng32 (((lo.toInt64 <<< ((32 : Int32).toInt64 &&& 63)) ||| hi.toInt64)).toInt32
  exact ⟨Int32.toInt_inj.mp (by omega), Int32.toInt_inj.mp (by omega)⟩
theorem ef_rm_bd (m : MethodId) (x0 : Addr) (x1 : Int32)  : entryFrame m #[(.ref x0), (.int x1)] 12 = mkF m 0 #[.val (.ref x0), .val (.int x1), .unset, .unset, .unset, .unset, .unset, .unset, .unset, .unset, .unset, .unset] [] := by first | (simp [entryFrame, mkF, argsToLocals, Value.category]; done) | rfl
theorem pn_73 : plainFor (⟨"com/example/nav_by_schema/navbyschema/regex/CodeUnitSet$Builder", "build", "(Z)Lcom/example/nav_by_schema/navbyschema/regex/CodeUnitSet;"⟩ : MethodName) = true := by first | exact plainFor_of_name (by first | (simp [plainName, overriddenIn]; done) | decide +kernel) | decide +kernel
theorem pd_79 : parseMethodDescriptor "([J)V" = some ⟨[(.array .long)], none⟩ := by decide +kernel
theorem pd_84 : parseMethodDescriptor "([II)[I" = some ⟨[(.array .int), .int], some (.array .int)⟩ := by decide +kernel
theorem pd_86 : parseMethodDescriptor "([I)V" = some ⟨[(.array .int)], none⟩ := by decide +kernel
set_option maxRecDepth 65536 in
set_option maxHeartbeats 40000000 in
theorem rm_bd (l : Launch) (Z : State) (a0 : Array Value) (hw : ∀ d ∈ tables_1, d.before a0 Z = true) (a b : Addr) (lo hi : Int32) (h0 : Heap) (n0 : Nat) (Z0 : n0 ≤ h0.size) (q0 : 0 ≤ lo.toInt) (q1 : lo.toInt ≤ hi.toInt) (q2 : hi.toInt ≤ 255) (E : Exa Z h0 a "com/example/nav_by_schema/navbyschema/regex/CodeUnitSet$Builder") (F1 : Fld Z h0 a "com/example/nav_by_schema/navbyschema/regex/CodeUnitSet$Builder" "ranges" "[I" (.ref b)) (F2 : Fld Z h0 a "com/example/nav_by_schema/navbyschema/regex/CodeUnitSet$Builder" "size" "I" (.int 2)) (Ab : ArI Z h0 b .int 8 (fun k => if k = 1 then hi else if k = 0 then lo else 0)) :
    Ctr l Z (⟨"com/example/nav_by_schema/navbyschema/regex/CodeUnitSet$Builder", "build", "(Z)Lcom/example/nav_by_schema/navbyschema/regex/CodeUnitSet;"⟩ : MethodName) prog_8_method_4_code 12 (Option.some (FieldType.object "com/example/nav_by_schema/navbyschema/regex/CodeUnitSet")) [] ({ frames := 4, cells := 4, slots := 8, locals := 84 } : Room) ({ frames := 4, cells := 4, slots := 8, locals := 84 } : Room).cells ({ frames := 4, cells := 4, slots := 8, locals := 84 } : Room).slots #[(.ref a), (.int (0 : Int32))] h0 (fun u h L => ∃ r ra fr, u = some (.ref r) ∧ Fr n0 L ∧ Ext h0 h ∧ h0.size ≤ r ∧ ra < h.size ∧ fr 0 = lo ∧ fr 1 = hi ∧ ArI Z h ra .int 2 fr ∧ Exa Z h r "com/example/nav_by_schema/navbyschema/regex/CodeUnitSet" ∧ Fld Z h r "com/example/nav_by_schema/navbyschema/regex/CodeUnitSet" "ranges" "[I" (.ref ra) ∧ ∃ lw hg, Fld Z h r "com/example/nav_by_schema/navbyschema/regex/CodeUnitSet" "low" "J" (.long lw) ∧ Fld Z h r "com/example/nav_by_schema/navbyschema/regex/CodeUnitSet" "high" "J" (.long hg) ∧ (∀ b : Nat, b < 64 → (own_tb lw b ↔ lo.toInt ≤ (b : Int) ∧ (b : Int) ≤ hi.toInt)) ∧ (∀ b : Nat, b < 64 → (own_tb hg b ↔ lo.toInt ≤ (b : Int) + 64 ∧ (b : Int) + 64 ≤ hi.toInt))) := by
  refine Ctr.of pn_73 ?_
  intro p e s m below meth c s₁ hx hby hml hown hnm hret hlk hZ X0 e0
  refine Goes.cast (ef_rm_bd m a (0 : Int32)) ?_
  obtain ⟨pk1, pk2⟩ := own_pk lo hi q0 (by omega) (by omega) q2
  refine g_aload_n (i := 0) X0 hx (hb hby d13_0) (by rfl) rfl rfl ?_
  refine g_getF X0 hx hZ hown (wd hw 61 rfl) e0 F2 (hb hby d13_1) rfl ?_
  intro T74 X74 e74
  refine g_iconst (v := (2 : Int32)) X74 hx (hb hby d13_4) (by decide) rfl ?_
  refine g_idiv X74 hx (hb hby d13_5) (by decide) rfl ?_
  rw [show ((2 : Int32) / (2 : Int32)) = (1 : Int32) by decide]
  refine g_newarr X74 hx hZ (ty := .long) rfl (wd hw 68 rfl) e74 (hb hby d13_6) rfl (by decide) 1 (by decide) (by decide) (by decide) (by decide) ?_
  intro T75 h75 cA75 a75 X75 e75 g75 Ex75 A75
  have Aj : ArJ Z h75 a75 .long 1 (fun _ => 0) := ArJ.new A75 0 rfl
  have gj : n0 ≤ a75 := by rw [g75]; exact Z0
  have F1a := F1.ext Ex75
  have F2a := F2.ext Ex75
  have Aba := Ab.ext Ex75
  have Zk : n0 ≤ h75.size := Nat.le_trans Z0 Ex75.1
  have nja : a ≠ a75 := fun q => absurd E.lt (by rw [q, g75]; exact Nat.lt_irrefl _)
  have njb : b ≠ a75 := fun q => absurd Ab.lt (by rw [q, g75]; exact Nat.lt_irrefl _)
  refine g_astore_n (i := 2) X75 hx #[.val (.ref a), .val (.int (0 : Int32)), .val (.ref a75), .unset, .unset, .unset, .unset, .unset, .unset, .unset, .unset, .unset] (hb hby d13_8) rfl rfl rfl ?_
  refine g_iconst (v := (0 : Int32)) X75 hx (hb hby d13_9) (by decide) rfl ?_
  refine g_istore_n (i := 3) X75 hx #[.val (.ref a), .val (.int (0 : Int32)), .val (.ref a75), .val (.int (0 : Int32)), .unset, .unset, .unset, .unset, .unset, .unset, .unset, .unset] (hb hby d13_10) rfl rfl ?_
  refine g_iload_n (i := 3) X75 hx (hb hby d13_11) (by rfl) rfl ?_
  refine g_aload_n (i := 2) X75 hx (hb hby d13_12) (by rfl) rfl rfl ?_
  refine g_arraylengthJ X75 hx hZ e75 Aj (z := (1 : Int32)) (show _ = (1 : Int32) by decide) (hb hby d13_13) rfl ?_
  refine g_icmp_ge X75 hx (hb hby d13_14) (by decide) (pt := 50) (by decide) rfl (fun q_ => absurd (by decide) q_) (fun _ => ?_)
  refine g_aload_n (i := 2) X75 hx (hb hby d13_17) (by rfl) rfl rfl ?_
  refine g_iload_n (i := 3) X75 hx (hb hby d13_18) (by rfl) rfl ?_
  refine g_aload_n (i := 0) X75 hx (hb hby d13_19) (by rfl) rfl rfl ?_
  refine g_getF X75 hx hZ hown (wd hw 54 rfl) e75 F1a (hb hby d13_20) rfl ?_
  intro T76 X76 e76
  refine g_iconst (v := (2 : Int32)) X76 hx (hb hby d13_23) (by decide) rfl ?_
  refine g_iload_n (i := 3) X76 hx (hb hby d13_24) (by rfl) rfl ?_
  refine g_imul X76 hx (hb hby d13_25) rfl ?_
  rw [show ((2 : Int32) * (0 : Int32)) = (0 : Int32) by decide]
  refine g_iaload' X76 hx hZ e76 Aba (by decide) (by decide) (x := lo) rfl (hb hby d13_26) rfl ?_
  refine g_i2l X76 hx (hb hby d13_27) rfl ?_
  refine g_bipush (v := (32 : Int32)) X76 hx (hb hby d13_28) (by decide) rfl ?_
  refine g_lshl X76 hx (hb hby d13_30) rfl ?_
  refine g_aload_n (i := 0) X76 hx (hb hby d13_31) (by rfl) rfl rfl ?_
  refine g_getF X76 hx hZ hown (wd hw 54 rfl) e76 F1a (hb hby d13_32) rfl ?_
  intro T77 X77 e77
  refine g_iconst (v := (2 : Int32)) X77 hx (hb hby d13_35) (by decide) rfl ?_
  refine g_iload_n (i := 3) X77 hx (hb hby d13_36) (by rfl) rfl ?_
  refine g_imul X77 hx (hb hby d13_37) rfl ?_
  rw [show ((2 : Int32) * (0 : Int32)) = (0 : Int32) by decide]
  refine g_iconst (v := (1 : Int32)) X77 hx (hb hby d13_38) (by decide) rfl ?_
  refine g_iadd X77 hx (hb hby d13_39) rfl ?_
  rw [show ((0 : Int32) + (1 : Int32)) = (1 : Int32) by decide]
  refine g_iaload' X77 hx hZ e77 Aba (by decide) (by decide) (x := hi) rfl (hb hby d13_40) rfl ?_
  refine g_i2l X77 hx (hb hby d13_41) rfl ?_
  refine g_lor X77 hx (hb hby d13_42) rfl ?_
  refine g_lastoreN X77 hx hZ e77 Aj 0 (by decide) (by decide) (by decide) (hb hby d13_43) rfl ?_
  intro T78 h78 X78 e78 W78 Ar78
  have N78 := Fr.snoc X78 (Fr.nil n0) gj
  have F1b := F1a.other W78 (Or.inl nja)
  have F2b := F2a.other W78 (Or.inl nja)
  have Kj := (Keep.refl h75 [a75]).wr W78 (Or.inl (List.mem_singleton.mpr rfl))
  have EXj := own_ext3 Ex75 Kj (fun x hx => by rw [List.mem_singleton.mp hx, g75]; exact Nat.le_refl _)
  have Zj : n0 ≤ h78.size := Nat.le_trans Z0 EXj.1
  refine g_iinc (i := 3) (x := (0 : Int32)) (y := (1 : Int32)) X78 hx #[.val (.ref a), .val (.int (0 : Int32)), .val (.ref a75), .val (.int (1 : Int32)), .unset, .unset, .unset, .unset, .unset, .unset, .unset, .unset] (hb hby d13_44) (by rfl) (by decide) rfl rfl ?_
  refine g_goto X78 hx (hb hby d13_47) (by decide) (by decide) (pc' := 11) ?_
  refine g_iload_n (i := 3) X78 hx (hb hby d13_11) (by rfl) rfl ?_
  refine g_aload_n (i := 2) X78 hx (hb hby d13_12) (by rfl) rfl rfl ?_
  refine g_arraylengthJ X78 hx hZ e78 Ar78 (z := (1 : Int32)) (show _ = (1 : Int32) by decide) (hb hby d13_13) rfl ?_
  refine g_icmp_ge X78 hx (hb hby d13_14) (by decide) (pt := 50) (by decide) rfl (fun _ => ?_) (fun q_ => absurd q_ (by decide))
  refine g_aload_n (i := 2) X78 hx (hb hby d13_50) (by rfl) rfl rfl ?_
  refine g_callS X78 hx hZ hown (wd hw 69 rfl) (wd hw 70 rfl) (wd hw 71 rfl) (wd hw 72 rfl) (by decide) e78 (rm_as l Z a0 hw a75 _ h78 Ar78) (by rw [hml]; rfl) [(.ref a75)] [] rfl (lenOf pd_79 rfl) rfl (by show 0 + (1 + 11) + 72 ≤ _; decide) (by decide) (by decide) (by decide) (hb hby d13_51) rfl ?_
  intro T79 v79 L79 X79 hQ79
  obtain ⟨rfl, rfl, e79⟩ := hQ79
  have N79 := Fr.app N78 (Fr.nil n0)
  show Goes p e below _ T79 (mkF m 54 #[.val (.ref a), .val (.int (0 : Int32)), .val (.ref a75), .val (.int (1 : Int32)), .unset, .unset, .unset, .unset, .unset, .unset, .unset, .unset] [])
  refine g_aload_n (i := 0) X79 hx (hb hby d13_54) (by rfl) rfl rfl ?_
  refine g_getF X79 hx hZ hown (wd hw 61 rfl) e79 F2b (hb hby d13_55) rfl ?_
  intro T80 X80 e80
  refine g_newarrE X80 hx hZ (ty := .int) (ad := "[I") rfl (wd hw 53 rfl) (by decide +kernel) e80 (hb hby d13_58) rfl (by decide) 2 (by decide) (by decide) (by decide) (by decide) ?_
  intro T81 h81 cA81 a81 X81 e81 g81 Ex81 A81 EA81
  have Am : ArI Z h81 a81 .int 2 (fun _ => 0) := ArI.new A81 0 rfl
  have gm : n0 ≤ a81 := by rw [g81]; exact Zj
  have Ajn := Ar78.ext Ex81
  have njm : a75 ≠ a81 := fun q => absurd Ar78.lt (by rw [q, g81]; exact Nat.lt_irrefl _)
  refine g_astore_n (i := 3) X81 hx #[.val (.ref a), .val (.int (0 : Int32)), .val (.ref a75), .val (.ref a81), .unset, .unset, .unset, .unset, .unset, .unset, .unset, .unset] (hb hby d13_60) rfl rfl rfl ?_
  refine g_iconst (v := (0 : Int32)) X81 hx (hb hby d13_61) (by decide) rfl ?_
  refine g_istore (i := 4) X81 hx #[.val (.ref a), .val (.int (0 : Int32)), .val (.ref a75), .val (.ref a81), .val (.int (0 : Int32)), .unset, .unset, .unset, .unset, .unset, .unset, .unset] (hb hby d13_62) rfl rfl ?_
  refine g_aload_n (i := 2) X81 hx (hb hby d13_64) (by rfl) rfl rfl ?_
  refine g_astore (i := 5) X81 hx #[.val (.ref a), .val (.int (0 : Int32)), .val (.ref a75), .val (.ref a81), .val (.int (0 : Int32)), .val (.ref a75), .unset, .unset, .unset, .unset, .unset, .unset] (hb hby d13_65) rfl rfl rfl ?_
  refine g_aload (i := 5) X81 hx (hb hby d13_67) (by rfl) rfl rfl ?_
  refine g_arraylengthJ X81 hx hZ e81 Ajn (z := (1 : Int32)) (show _ = (1 : Int32) by decide) (hb hby d13_69) rfl ?_
  refine g_istore (i := 6) X81 hx #[.val (.ref a), .val (.int (0 : Int32)), .val (.ref a75), .val (.ref a81), .val (.int (0 : Int32)), .val (.ref a75), .val (.int (1 : Int32)), .unset, .unset, .unset, .unset, .unset] (hb hby d13_70) rfl rfl ?_
  refine g_iconst (v := (0 : Int32)) X81 hx (hb hby d13_72) (by decide) rfl ?_
  refine g_istore (i := 7) X81 hx #[.val (.ref a), .val (.int (0 : Int32)), .val (.ref a75), .val (.ref a81), .val (.int (0 : Int32)), .val (.ref a75), .val (.int (1 : Int32)), .val (.int (0 : Int32)), .unset, .unset, .unset, .unset] (hb hby d13_73) rfl rfl ?_
  refine g_iload (i := 7) X81 hx (hb hby d13_75) (by rfl) rfl ?_
  refine g_iload (i := 6) X81 hx (hb hby d13_77) (by rfl) rfl ?_
  refine g_icmp_ge X81 hx (hb hby d13_79) (by decide) (pt := 163) (by decide) rfl (fun q_ => absurd (by decide) q_) (fun _ => ?_)
  refine g_aload (i := 5) X81 hx (hb hby d13_82) (by rfl) rfl rfl ?_
  refine g_iload (i := 7) X81 hx (hb hby d13_84) (by rfl) rfl ?_
  refine g_laload' X81 hx hZ e81 Ajn (by decide) (by decide) (x := ((lo.toInt64 <<< ((32 : Int32).toInt64 &&& 63)) ||| hi.toInt64)) rfl (hb hby d13_86) rfl ?_
  refine g_lstore (i := 8) X81 hx #[.val (.ref a), .val (.int (0 : Int32)), .val (.ref a75), .val (.ref a81), .val (.int (0 : Int32)), .val (.ref a75), .val (.int (1 : Int32)), .val (.int (0 : Int32)), .val (.long ((lo.toInt64 <<< ((32 : Int32).toInt64 &&& 63)) ||| hi.toInt64)), .second, .unset, .unset] (hb hby d13_87) rfl rfl ?_
  refine g_lload (i := 8) X81 hx (hb hby d13_89) (by rfl) rfl ?_
  refine g_bipush (v := (32 : Int32)) X81 hx (hb hby d13_91) (by decide) rfl ?_
  refine g_lushr X81 hx (hb hby d13_93) rfl ?_
  refine g_l2i X81 hx (hb hby d13_94) rfl ?_
  rw [pk1]
  refine g_istore (i := 10) X81 hx #[.val (.ref a), .val (.int (0 : Int32)), .val (.ref a75), .val (.ref a81), .val (.int (0 : Int32)), .val (.ref a75), .val (.int (1 : Int32)), .val (.int (0 : Int32)), .val (.long ((lo.toInt64 <<< ((32 : Int32).toInt64 &&& 63)) ||| hi.toInt64)), .second, .val (.int lo), .unset] (hb hby d13_95) rfl rfl ?_
  refine g_lload (i := 8) X81 hx (hb hby d13_97) (by rfl) rfl ?_
  refine g_l2i X81 hx (hb hby d13_99) rfl ?_
  rw [pk2]
  refine g_istore (i := 11) X81 hx #[.val (.ref a), .val (.int (0 : Int32)), .val (.ref a75), .val (.ref a81), .val (.int (0 : Int32)), .val (.ref a75), .val (.int (1 : Int32)), .val (.int (0 : Int32)), .val (.long ((lo.toInt64 <<< ((32 : Int32).toInt64 &&& 63)) ||| hi.toInt64)), .second, .val (.int lo), .val (.int hi)] (hb hby d13_100) rfl rfl ?_
  refine g_iload (i := 4) X81 hx (hb hby d13_102) (by rfl) rfl ?_
  refine g_if_le X81 hx (hb hby d13_104) (by decide) (pt := 140) (by decide) rfl (fun _ => ?_) (fun q_ => absurd q_ (by decide))
  refine g_aload_n (i := 3) X81 hx (hb hby d13_140) (by rfl) rfl rfl ?_
  refine g_iload (i := 4) X81 hx (hb hby d13_141) (by rfl) rfl ?_
  refine g_iload (i := 10) X81 hx (hb hby d13_143) (by rfl) rfl ?_
  refine g_iastoreN X81 hx hZ e81 Am 0 (by decide) (by decide) (by decide) (hb hby d13_145) rfl ?_
  intro T82 h82 X82 e82 W82 Ar82
  have N82 := Fr.snoc X82 N79 gm
  have EA1 := EA81.wr W82
  refine g_aload_n (i := 3) X82 hx (hb hby d13_146) (by rfl) rfl rfl ?_
  refine g_iload (i := 4) X82 hx (hb hby d13_147) (by rfl) rfl ?_
  refine g_iconst (v := (1 : Int32)) X82 hx (hb hby d13_149) (by decide) rfl ?_
  refine g_iadd X82 hx (hb hby d13_150) rfl ?_
  rw [show ((0 : Int32) + (1 : Int32)) = (1 : Int32) by decide]
  refine g_iload (i := 11) X82 hx (hb hby d13_151) (by rfl) rfl ?_
  refine g_iastoreN X82 hx hZ e82 Ar82 1 (by decide) (by decide) (by decide) (hb hby d13_153) rfl ?_
  intro T83 h83 X83 e83 W83 Ar83
  have N83 := Fr.snoc X83 N82 gm
  have EA2 := EA1.wr W83
  have Km := ((Keep.refl h81 [a81]).wr W82 (Or.inl (List.mem_singleton.mpr rfl))).wr W83 (Or.inl (List.mem_singleton.mpr rfl))
  have EXm := own_tr EXj (own_ext3 Ex81 Km (fun x hx => by rw [List.mem_singleton.mp hx, g81]; exact Nat.le_refl _))
  have Zm : n0 ≤ h83.size := Nat.le_trans Z0 EXm.1
  refine g_iinc (i := 4) (x := (0 : Int32)) (y := (2 : Int32)) X83 hx #[.val (.ref a), .val (.int (0 : Int32)), .val (.ref a75), .val (.ref a81), .val (.int (2 : Int32)), .val (.ref a75), .val (.int (1 : Int32)), .val (.int (0 : Int32)), .val (.long ((lo.toInt64 <<< ((32 : Int32).toInt64 &&& 63)) ||| hi.toInt64)), .second, .val (.int lo), .val (.int hi)] (hb hby d13_154) (by rfl) (by decide) rfl rfl ?_
  refine g_iinc (i := 7) (x := (0 : Int32)) (y := (1 : Int32)) X83 hx #[.val (.ref a), .val (.int (0 : Int32)), .val (.ref a75), .val (.ref a81), .val (.int (2 : Int32)), .val (.ref a75), .val (.int (1 : Int32)), .val (.int (1 : Int32)), .val (.long ((lo.toInt64 <<< ((32 : Int32).toInt64 &&& 63)) ||| hi.toInt64)), .second, .val (.int lo), .val (.int hi)] (hb hby d13_157) (by rfl) (by decide) rfl rfl ?_
  refine g_goto X83 hx (hb hby d13_160) (by decide) (by decide) (pc' := 75) ?_
  refine g_iload (i := 7) X83 hx (hb hby d13_75) (by rfl) rfl ?_
  refine g_iload (i := 6) X83 hx (hb hby d13_77) (by rfl) rfl ?_
  refine g_icmp_ge X83 hx (hb hby d13_79) (by decide) (pt := 163) (by decide) rfl (fun _ => ?_) (fun q_ => absurd q_ (by decide))
  refine g_iload_n (i := 1) X83 hx (hb hby d13_163) (by rfl) rfl ?_
  refine g_if_eq X83 hx (hb hby d13_164) (by decide) (pt := 277) (by decide) rfl (fun _ => ?_) (fun q_ => absurd (by decide) q_)
  refine g_aload_n (i := 3) X83 hx (hb hby d13_277) (by rfl) rfl rfl ?_
  refine g_iload (i := 4) X83 hx (hb hby d13_278) (by rfl) rfl ?_
  refine g_callS X83 hx hZ hown (wd hw 83 rfl) (wd hw 84 rfl) (wd hw 71 rfl) (wd hw 85 rfl) (by decide) e83 (rm_co l Z a0 hw a81 _ h83 n0 Zm Ar83 EA2) (by rw [hml]; rfl) [(.ref a81), (.int (2 : Int32))] [] rfl (lenOf pd_84 rfl) rfl (by show 0 + (3 + 11) + 14 ≤ _; decide) (by decide) (by decide) (by decide) (hb hby d13_280) rfl ?_
  intro T84 v84 L84 X84 hQ84
  obtain ⟨rr, rfl, N84, E84, hrr, Ac⟩ := hQ84
  have N84 := Fr.app N83 N84
  show Goes p e below _ T84 (mkF m 283 #[.val (.ref a), .val (.int (0 : Int32)), .val (.ref a75), .val (.ref a81), .val (.int (2 : Int32)), .val (.ref a75), .val (.int (1 : Int32)), .val (.int (1 : Int32)), .val (.long ((lo.toInt64 <<< ((32 : Int32).toInt64 &&& 63)) ||| hi.toInt64)), .second, .val (.int lo), .val (.int hi)] [(.ref rr)])
  have EXc := own_tr EXm E84
  have Zc : n0 ≤ T84.heap.size := Nat.le_trans Z0 EXc.1
  refine g_astore (i := 5) X84 hx #[.val (.ref a), .val (.int (0 : Int32)), .val (.ref a75), .val (.ref a81), .val (.int (2 : Int32)), .val (.ref rr), .val (.int (1 : Int32)), .val (.int (1 : Int32)), .val (.long ((lo.toInt64 <<< ((32 : Int32).toInt64 &&& 63)) ||| hi.toInt64)), .second, .val (.int lo), .val (.int hi)] (hb hby d13_283) rfl rfl rfl ?_
  refine g_new X84 hx hZ hown (wd hw 95 rfl) (wd hw 96 rfl) (wd hw 44 rfl) rfl (hb hby d13_285) rfl (by decide) (by decide) ?_
  intro T85 h85 a85 X85 e85 g85 Ex85 E85 D85
  have F85_ranges : Fld Z h85 a85 "com/example/nav_by_schema/navbyschema/regex/CodeUnitSet" "ranges" "[I" .null := D85 (Or.inr (wd hw 102 rfl)) (ty := (.array .int)) (by decide)
  have F85_low : Fld Z h85 a85 "com/example/nav_by_schema/navbyschema/regex/CodeUnitSet" "low" "J" (.long 0) := D85 (Or.inr (wd hw 105 rfl)) (ty := .long) (by decide)
  have F85_high : Fld Z h85 a85 "com/example/nav_by_schema/navbyschema/regex/CodeUnitSet" "high" "J" (.long 0) := D85 (Or.inr (wd hw 107 rfl)) (ty := .long) (by decide)
  have go : n0 ≤ a85 := by rw [g85]; exact Zc
  have hro : rr ≠ a85 := fun q => absurd Ac.lt (by rw [q, g85]; exact Nat.lt_irrefl _)
  refine g_dup X85 hx (hb hby d13_288) rfl rfl ?_
  refine g_aload (i := 5) X85 hx (hb hby d13_289) (by rfl) rfl rfl ?_
  refine g_callIN X85 hx hZ rfl hown (wd hw 97 rfl) (wd hw 98 rfl) (wd hw 44 rfl) (wd hw 99 rfl) (by decide) e85 (rm_cu l Z a0 hw a85 rr lo hi _ h85 n0 go hro rfl rfl q0 q1 q2 E85 F85_ranges F85_low F85_high (Ac.ext Ex85)) (by rw [hml]; rfl) a85 [(.ref rr)] [(.ref a85)] rfl (lenOf pd_86 rfl) rfl (by show 1 + (8 + 11) + 14 ≤ _; decide) (by decide) (by decide) (by decide) (hb hby d13_291) rfl ?_
  intro T86 v86 L86 X86 hQ86
  obtain ⟨rfl, N86, K86, HC⟩ := hQ86
  have N86 := Fr.app N84 N86
  show Goes p e below _ T86 (mkF m 294 #[.val (.ref a), .val (.int (0 : Int32)), .val (.ref a75), .val (.ref a81), .val (.int (2 : Int32)), .val (.ref rr), .val (.int (1 : Int32)), .val (.int (1 : Int32)), .val (.long ((lo.toInt64 <<< ((32 : Int32).toInt64 &&& 63)) ||| hi.toInt64)), .second, .val (.int lo), .val (.int hi)] [(.ref a85)])
  have hrs : rr ∉ [a85] := fun q => hro (List.mem_singleton.mp q)
  have Acf := (Ac.ext Ex85).keep K86 hrs
  exact g_retA X86 hx rfl rfl hlk hret rfl (by decide) (by decide) (hb hby d13_294) ⟨a85, rr, _, rfl, N86, own_tr EXc (own_ext3 Ex85 K86 (fun x hx => by rw [List.mem_singleton.mp hx, g85]; exact Nat.le_refl _)), by rw [g85]; exact EXc.1, Acf.lt, rfl, rfl, Acf, HC⟩
theorem own_ge2 {n : Nat} {a b : Addr} (p : n ≤ a) (q : n ≤ b) : ∀ x ∈ [a, b], n ≤ x := fun x hx => by
  rcases List.mem_cons.mp hx with rfl | hx
  · exact p
  · rw [List.mem_singleton.mp hx]; exact q
theorem ef_rm_rg (m : MethodId) (x0 : Int32) (x1 : Int32)  : entryFrame m #[(.int x0), (.int x1)] 2 = mkF m 0 #[.val (.int x0), .val (.int x1)] [] := by first | (simp [entryFrame, mkF, argsToLocals, Value.category]; done) | rfl
theorem pn_87 : plainFor (⟨"com/example/nav_by_schema/navbyschema/regex/CodeUnitSet", "range", "(CC)Lcom/example/nav_by_schema/navbyschema/regex/CodeUnitSet;"⟩ : MethodName) = true := by first | exact plainFor_of_name (by first | (simp [plainName, overriddenIn]; done) | decide +kernel) | decide +kernel
theorem pd_89 : parseMethodDescriptor "()V" = some ⟨[], none⟩ := by decide +kernel
theorem pd_90 : parseMethodDescriptor "(CC)Lcom/example/nav_by_schema/navbyschema/regex/CodeUnitSet$Builder;" = some ⟨[.char, .char], some (.object "com/example/nav_by_schema/navbyschema/regex/CodeUnitSet$Builder")⟩ := by decide +kernel
theorem pd_91 : parseMethodDescriptor "(Z)Lcom/example/nav_by_schema/navbyschema/regex/CodeUnitSet;" = some ⟨[.boolean], some (.object "com/example/nav_by_schema/navbyschema/regex/CodeUnitSet")⟩ := by decide +kernel
set_option maxRecDepth 65536 in
set_option maxHeartbeats 40000000 in
theorem rm_rg (l : Launch) (Z : State) (a0 : Array Value) (hw : ∀ d ∈ tables_1, d.before a0 Z = true) (lo hi : Int32) (h0 : Heap) (n0 : Nat) (Z0 : n0 ≤ h0.size) (q0 : 0 ≤ lo.toInt) (q1 : lo.toInt ≤ hi.toInt) (q2 : hi.toInt ≤ 255) :
    Ctr l Z (⟨"com/example/nav_by_schema/navbyschema/regex/CodeUnitSet", "range", "(CC)Lcom/example/nav_by_schema/navbyschema/regex/CodeUnitSet;"⟩ : MethodName) prog_7_method_2_code 2 (Option.some (FieldType.object "com/example/nav_by_schema/navbyschema/regex/CodeUnitSet")) [] ({ frames := 5, cells := 6, slots := 18, locals := 107 } : Room) ({ frames := 5, cells := 6, slots := 18, locals := 107 } : Room).cells ({ frames := 5, cells := 6, slots := 18, locals := 107 } : Room).slots #[(.int lo), (.int hi)] h0 (fun u h L => ∃ r ra fr, u = some (.ref r) ∧ Fr n0 L ∧ Ext h0 h ∧ h0.size ≤ r ∧ ra < h.size ∧ fr 0 = lo ∧ fr 1 = hi ∧ ArI Z h ra .int 2 fr ∧ Exa Z h r "com/example/nav_by_schema/navbyschema/regex/CodeUnitSet" ∧ Fld Z h r "com/example/nav_by_schema/navbyschema/regex/CodeUnitSet" "ranges" "[I" (.ref ra) ∧ ∃ lw hg, Fld Z h r "com/example/nav_by_schema/navbyschema/regex/CodeUnitSet" "low" "J" (.long lw) ∧ Fld Z h r "com/example/nav_by_schema/navbyschema/regex/CodeUnitSet" "high" "J" (.long hg) ∧ (∀ b : Nat, b < 64 → (own_tb lw b ↔ lo.toInt ≤ (b : Int) ∧ (b : Int) ≤ hi.toInt)) ∧ (∀ b : Nat, b < 64 → (own_tb hg b ↔ lo.toInt ≤ (b : Int) + 64 ∧ (b : Int) + 64 ≤ hi.toInt))) := by
  refine Ctr.of pn_87 ?_
  intro p e s m below meth c s₁ hx hby hml hown hnm hret hlk hZ X0 e0
  refine Goes.cast (ef_rm_rg m lo hi) ?_
  refine g_new X0 hx hZ hown (wd hw 46 rfl) (wd hw 47 rfl) (wd hw 48 rfl) e0 (hb hby d10_0) rfl (by decide) (by decide) ?_
  intro T88 h88 a88 X88 e88 g88 Ex88 E88 D88
  have F88_ranges : Fld Z h88 a88 "com/example/nav_by_schema/navbyschema/regex/CodeUnitSet$Builder" "ranges" "[I" .null := D88 (Or.inl (wd hw 55 rfl)) (ty := (.array .int)) (by decide)
  have F88_size : Fld Z h88 a88 "com/example/nav_by_schema/navbyschema/regex/CodeUnitSet$Builder" "size" "I" (.int 0) := D88 (Or.inl (wd hw 62 rfl)) (ty := .int) (by decide)
  have ga : n0 ≤ a88 := by rw [g88]; exact Z0
  have gz : h0.size ≤ a88 := by rw [g88]; exact Nat.le_refl _
  refine g_dup X88 hx (hb hby d10_3) rfl rfl ?_
  refine g_callI X88 hx hZ rfl hown (wd hw 49 rfl) (wd hw 50 rfl) (wd hw 48 rfl) (wd hw 51 rfl) (by decide) e88 (rm_bi l Z a0 hw a88 h88 n0 ga E88 F88_ranges F88_size) (by rw [hml]; rfl) a88 [] [(.ref a88)] rfl (lenOf pd_89 rfl) rfl (by show 1 + (1 + 11) + 12 ≤ _; decide) (by decide) (by decide) (by decide) (hb hby d10_4) rfl ?_
  intro T89 v89 L89 X89 hQ89
  obtain ⟨rfl, N89, K89, b, hbb, E1, G1, G2, Ab⟩ := hQ89
  have N89 := Fr.app (Fr.nil n0) N89
  show Goes p e below _ T89 (mkF m 7 #[.val (.int lo), .val (.int hi)] [(.ref a88)])
  have EX1 := own_ext3 Ex88 K89 (fun x hx => by rw [List.mem_singleton.mp hx]; exact gz)
  have gb0 : h0.size ≤ b := Nat.le_trans Ex88.1 hbb
  have hba : b ≠ a88 := fun q => absurd E88.lt (by rw [← q]; exact Nat.not_lt.mpr hbb)
  refine g_iload_n (i := 0) X89 hx (hb hby d10_7) (by rfl) rfl ?_
  refine g_iload_n (i := 1) X89 hx (hb hby d10_8) (by rfl) rfl ?_
  refine g_callV X89 hx hZ hown (wd hw 56 rfl) (wd hw 57 rfl) (wd hw 59 rfl) (wd hw 58 rfl) (wd hw 48 rfl) (wd hw 60 rfl) (by decide) rfl a88 E1 (rm_ba l Z a0 hw a88 b lo hi T89.heap n0 ga (Nat.le_trans Z0 gb0) hba E1 G1 G2 Ab) (by rw [hml]; rfl) [(.int lo), (.int hi)] [] rfl (lenOf pd_90 rfl) rfl (by show 0 + (3 + 11) + 0 ≤ _; decide) (by decide) (by decide) (by decide) (hb hby d10_9) rfl ?_
  intro T90 v90 L90 X90 hQ90
  obtain ⟨rfl, N90, K90, E2, H1, H2, Ab2⟩ := hQ90
  have N90 := Fr.app N89 N90
  show Goes p e below _ T90 (mkF m 12 #[.val (.int lo), .val (.int hi)] [(.ref a88)])
  have EX2 := own_ext3 EX1 K90 (own_ge2 gz gb0)
  have Z2 : n0 ≤ T90.heap.size := Nat.le_trans Z0 EX2.1
  refine g_iconst (v := (0 : Int32)) X90 hx (hb hby d10_12) (by decide) rfl ?_
  refine g_callV X90 hx hZ hown (wd hw 63 rfl) (wd hw 64 rfl) (wd hw 66 rfl) (wd hw 65 rfl) (wd hw 48 rfl) (wd hw 67 rfl) (by decide) rfl a88 E2 (rm_bd l Z a0 hw a88 b lo hi T90.heap n0 Z2 q0 q1 q2 E2 H1 H2 Ab2) (by rw [hml]; rfl) [(.int (0 : Int32))] [] rfl (lenOf pd_91 rfl) rfl (by show 0 + (12 + 11) + 84 ≤ _; decide) (by decide) (by decide) (by decide) (hb hby d10_13) rfl ?_
  intro T91 v91 L91 X91 hQ91
  obtain ⟨r, ra, fr, rfl, N91, E91, hr, hq⟩ := hQ91
  have N91 := Fr.app N90 N91
  show Goes p e below _ T91 (mkF m 16 #[.val (.int lo), .val (.int hi)] [(.ref r)])
  exact g_retA X91 hx rfl rfl hlk hret rfl (by decide) (by decide) (hb hby d10_16) ⟨r, ra, fr, rfl, N91, own_tr EX2 E91, Nat.le_trans EX2.1 hr, hq⟩
theorem ef_rm_ct (m : MethodId) (x0 : Addr) (x1 : Int32)  : entryFrame m #[(.ref x0), (.int x1)] 6 = mkF m 0 #[.val (.ref x0), .val (.int x1), .unset, .unset, .unset, .unset] [] := by first | (simp [entryFrame, mkF, argsToLocals, Value.category]; done) | rfl
theorem pn_92 : plainFor (⟨"com/example/nav_by_schema/navbyschema/regex/CodeUnitSet", "contains", "(C)Z"⟩ : MethodName) = true := by first | exact plainFor_of_name (by first | (simp [plainName, overriddenIn]; done) | decide +kernel) | decide +kernel
set_option maxRecDepth 65536 in
set_option maxHeartbeats 40000000 in
theorem rm_ct (l : Launch) (Z : State) (a0 : Array Value) (hw : ∀ d ∈ tables_1, d.before a0 Z = true) (a ra : Addr) (lo hi v : Int32) (fr : Nat → Int32) (h0 : Heap) (r0 : fr 0 = lo) (r1 : fr 1 = hi) (v0 : 0 ≤ v.toInt) (Ar : ArI Z h0 ra .int 2 fr) (HC : Exa Z h0 a "com/example/nav_by_schema/navbyschema/regex/CodeUnitSet" ∧ Fld Z h0 a "com/example/nav_by_schema/navbyschema/regex/CodeUnitSet" "ranges" "[I" (.ref ra) ∧ ∃ lw hg, Fld Z h0 a "com/example/nav_by_schema/navbyschema/regex/CodeUnitSet" "low" "J" (.long lw) ∧ Fld Z h0 a "com/example/nav_by_schema/navbyschema/regex/CodeUnitSet" "high" "J" (.long hg) ∧ (∀ b : Nat, b < 64 → (own_tb lw b ↔ lo.toInt ≤ (b : Int) ∧ (b : Int) ≤ hi.toInt)) ∧ (∀ b : Nat, b < 64 → (own_tb hg b ↔ lo.toInt ≤ (b : Int) + 64 ∧ (b : Int) + 64 ≤ hi.toInt))) :
    Ctr l Z (⟨"com/example/nav_by_schema/navbyschema/regex/CodeUnitSet", "contains", "(C)Z"⟩ : MethodName) prog_7_method_4_code 6 (Option.some FieldType.boolean) [] ({ frames := 0, cells := 0, slots := 0, locals := 0 } : Room) ({ frames := 0, cells := 0, slots := 0, locals := 0 } : Room).cells ({ frames := 0, cells := 0, slots := 0, locals := 0 } : Room).slots #[(.ref a), (.int v)] h0 (fun u h L => u = some (.int (if ¬ v < lo ∧ ¬ hi < v then 1 else 0)) ∧ L = [] ∧ h = h0) := by
  refine Ctr.of pn_92 ?_
  intro p e s m below meth c s₁ hx hby hml hown hnm hret hlk hZ X0 e0
  refine Goes.cast (ef_rm_ct m a v) ?_
  obtain ⟨E, F1, lw, hg, F2, F3, B1, B2⟩ := HC
  refine g_iload_n (i := 1) X0 hx (hb hby d31_0) (by rfl) rfl ?_
  refine g_bipush (v := (64 : Int32)) X0 hx (hb hby d31_1) (by decide) rfl ?_
  refine g_icmp_ge X0 hx (hb hby d31_3) (by decide) (pt := 28) (by decide) rfl (fun q1 => ?_) (fun q1 => ?_)
  · rw [own_ltI, show (64 : Int32).toInt = 64 from rfl] at q1
    refine g_iload_n (i := 1) X0 hx (hb hby d31_28) (by rfl) rfl ?_
    refine g_sipush (v := (128 : Int32)) X0 hx (hb hby d31_29) (by decide) rfl ?_
    refine g_icmp_ge X0 hx (hb hby d31_32) (by decide) (pt := 60) (by decide) rfl (fun q2 => ?_) (fun q2 => ?_)
    · rw [own_ltI, show (128 : Int32).toInt = 128 from rfl] at q2
      refine g_iconst (v := (0 : Int32)) X0 hx (hb hby d31_60) (by decide) rfl ?_
      refine g_istore_n (i := 3) X0 hx #[.val (.ref a), .val (.int v), .unset, .val (.int (0 : Int32)), .unset, .unset] (hb hby d31_61) rfl rfl ?_
      refine g_aload_n (i := 0) X0 hx (hb hby d31_62) (by rfl) rfl rfl ?_
      refine g_getF X0 hx hZ hown (wd hw 101 rfl) e0 F1 (hb hby d31_63) rfl ?_
      intro T93 X93 e93
      refine g_arraylengthI X93 hx hZ e93 Ar (z := (2 : Int32)) (show _ = (2 : Int32) by decide) (hb hby d31_66) rfl ?_
      refine g_iconst (v := (2 : Int32)) X93 hx (hb hby d31_67) (by decide) rfl ?_
      refine g_idiv X93 hx (hb hby d31_68) (by decide) rfl ?_
      rw [show ((2 : Int32) / (2 : Int32)) = (1 : Int32) by decide]
      refine g_istore (i := 4) X93 hx #[.val (.ref a), .val (.int v), .unset, .val (.int (0 : Int32)), .val (.int (1 : Int32)), .unset] (hb hby d31_69) rfl rfl ?_
      refine g_iload_n (i := 3) X93 hx (hb hby d31_71) (by rfl) rfl ?_
      refine g_iload (i := 4) X93 hx (hb hby d31_72) (by rfl) rfl ?_
      refine g_icmp_ge X93 hx (hb hby d31_74) (by decide) (pt := 115) (by decide) rfl (fun q_ => absurd (by decide) q_) (fun _ => ?_)
      refine g_iload_n (i := 3) X93 hx (hb hby d31_77) (by rfl) rfl ?_
      refine g_iload (i := 4) X93 hx (hb hby d31_78) (by rfl) rfl ?_
      refine g_iadd X93 hx (hb hby d31_80) rfl ?_
      rw [show ((0 : Int32) + (1 : Int32)) = (1 : Int32) by decide]
      refine g_iconst (v := (1 : Int32)) X93 hx (hb hby d31_81) (by decide) rfl ?_
      refine g_iushr X93 hx (hb hby d31_82) rfl ?_
      rw [show (XT.ushr (1 : Int32) (1 : Int32)) = (0 : Int32) by decide]
      refine g_istore (i := 5) X93 hx #[.val (.ref a), .val (.int v), .unset, .val (.int (0 : Int32)), .val (.int (1 : Int32)), .val (.int (0 : Int32))] (hb hby d31_83) rfl rfl ?_
      refine g_aload_n (i := 0) X93 hx (hb hby d31_85) (by rfl) rfl rfl ?_
      refine g_getF X93 hx hZ hown (wd hw 101 rfl) e93 F1 (hb hby d31_86) rfl ?_
      intro T94 X94 e94
      refine g_iconst (v := (2 : Int32)) X94 hx (hb hby d31_89) (by decide) rfl ?_
      refine g_iload (i := 5) X94 hx (hb hby d31_90) (by rfl) rfl ?_
      refine g_imul X94 hx (hb hby d31_92) rfl ?_
      rw [show ((2 : Int32) * (0 : Int32)) = (0 : Int32) by decide]
      refine g_iconst (v := (1 : Int32)) X94 hx (hb hby d31_93) (by decide) rfl ?_
      refine g_iadd X94 hx (hb hby d31_94) rfl ?_
      rw [show ((0 : Int32) + (1 : Int32)) = (1 : Int32) by decide]
      refine g_iaload' X94 hx hZ e94 Ar (by decide) (by decide) (x := hi) r1 (hb hby d31_95) rfl ?_
      refine g_iload_n (i := 1) X94 hx (hb hby d31_96) (by rfl) rfl ?_
      refine g_icmp_ge X94 hx (hb hby d31_97) (by decide) (pt := 108) (by decide) rfl (fun q3 => ?_) (fun q3 => ?_)
      · refine g_iload (i := 5) X94 hx (hb hby d31_108) (by rfl) rfl ?_
        refine g_istore (i := 4) X94 hx #[.val (.ref a), .val (.int v), .unset, .val (.int (0 : Int32)), .val (.int (0 : Int32)), .val (.int (0 : Int32))] (hb hby d31_110) rfl rfl ?_
        refine g_goto X94 hx (hb hby d31_112) (by decide) (by decide) (pc' := 71) ?_
        refine g_iload_n (i := 3) X94 hx (hb hby d31_71) (by rfl) rfl ?_
        refine g_iload (i := 4) X94 hx (hb hby d31_72) (by rfl) rfl ?_
        refine g_icmp_ge X94 hx (hb hby d31_74) (by decide) (pt := 115) (by decide) rfl (fun _ => ?_) (fun q_ => absurd q_ (by decide))
        refine g_iload_n (i := 3) X94 hx (hb hby d31_115) (by rfl) rfl ?_
        refine g_aload_n (i := 0) X94 hx (hb hby d31_116) (by rfl) rfl rfl ?_
        refine g_getF X94 hx hZ hown (wd hw 101 rfl) e94 F1 (hb hby d31_117) rfl ?_
        intro T95 X95 e95
        refine g_arraylengthI X95 hx hZ e95 Ar (z := (2 : Int32)) (show _ = (2 : Int32) by decide) (hb hby d31_120) rfl ?_
        refine g_iconst (v := (2 : Int32)) X95 hx (hb hby d31_121) (by decide) rfl ?_
        refine g_idiv X95 hx (hb hby d31_122) (by decide) rfl ?_
        rw [show ((2 : Int32) / (2 : Int32)) = (1 : Int32) by decide]
        refine g_icmp_ge X95 hx (hb hby d31_123) (by decide) (pt := 142) (by decide) rfl (fun q_ => absurd (by decide) q_) (fun _ => ?_)
        refine g_aload_n (i := 0) X95 hx (hb hby d31_126) (by rfl) rfl rfl ?_
        refine g_getF X95 hx hZ hown (wd hw 101 rfl) e95 F1 (hb hby d31_127) rfl ?_
        intro T96 X96 e96
        refine g_iconst (v := (2 : Int32)) X96 hx (hb hby d31_130) (by decide) rfl ?_
        refine g_iload_n (i := 3) X96 hx (hb hby d31_131) (by rfl) rfl ?_
        refine g_imul X96 hx (hb hby d31_132) rfl ?_
        rw [show ((2 : Int32) * (0 : Int32)) = (0 : Int32) by decide]
        refine g_iaload' X96 hx hZ e96 Ar (by decide) (by decide) (x := lo) r0 (hb hby d31_133) rfl ?_
        refine g_iload_n (i := 1) X96 hx (hb hby d31_134) (by rfl) rfl ?_
        refine g_icmp_gt X96 hx (hb hby d31_135) (by decide) (pt := 142) (by decide) rfl (fun q4 => ?_) (fun q4 => ?_)
        · refine g_iconst (v := (0 : Int32)) X96 hx (hb hby d31_142) (by decide) rfl ?_
          refine g_istore_n (i := 2) X96 hx #[.val (.ref a), .val (.int v), .val (.int (0 : Int32)), .val (.int (0 : Int32)), .val (.int (0 : Int32)), .val (.int (0 : Int32))] (hb hby d31_143) rfl rfl ?_
          refine g_iload_n (i := 2) X96 hx (hb hby d31_144) (by rfl) rfl ?_
          exact g_retN X96 hx (t := .boolean) (by simp) hlk hret e96 (by decide) (by decide) (hb hby d31_145) ⟨own_b0 (fun r => r.1 q4), rfl, rfl⟩
        · refine g_iconst (v := (1 : Int32)) X96 hx (hb hby d31_138) (by decide) rfl ?_
          refine g_goto X96 hx (hb hby d31_139) (by decide) (by decide) (pc' := 143) ?_
          refine g_istore_n (i := 2) X96 hx #[.val (.ref a), .val (.int v), .val (.int (1 : Int32)), .val (.int (0 : Int32)), .val (.int (0 : Int32)), .val (.int (0 : Int32))] (hb hby d31_143) rfl rfl ?_
          refine g_iload_n (i := 2) X96 hx (hb hby d31_144) (by rfl) rfl ?_
          exact g_retN X96 hx (t := .boolean) (by simp) hlk hret e96 (by decide) (by decide) (hb hby d31_145) ⟨own_b1 ⟨q4, q3⟩, rfl, rfl⟩
      · refine g_iload (i := 5) X94 hx (hb hby d31_100) (by rfl) rfl ?_
        refine g_iconst (v := (1 : Int32)) X94 hx (hb hby d31_102) (by decide) rfl ?_
        refine g_iadd X94 hx (hb hby d31_103) rfl ?_
        rw [show ((0 : Int32) + (1 : Int32)) = (1 : Int32) by decide]
        refine g_istore_n (i := 3) X94 hx #[.val (.ref a), .val (.int v), .unset, .val (.int (1 : Int32)), .val (.int (1 : Int32)), .val (.int (0 : Int32))] (hb hby d31_104) rfl rfl ?_
        refine g_goto X94 hx (hb hby d31_105) (by decide) (by decide) (pc' := 112) ?_
        refine g_goto X94 hx (hb hby d31_112) (by decide) (by decide) (pc' := 71) ?_
        refine g_iload_n (i := 3) X94 hx (hb hby d31_71) (by rfl) rfl ?_
        refine g_iload (i := 4) X94 hx (hb hby d31_72) (by rfl) rfl ?_
        refine g_icmp_ge X94 hx (hb hby d31_74) (by decide) (pt := 115) (by decide) rfl (fun _ => ?_) (fun q_ => absurd q_ (by decide))
        refine g_iload_n (i := 3) X94 hx (hb hby d31_115) (by rfl) rfl ?_
        refine g_aload_n (i := 0) X94 hx (hb hby d31_116) (by rfl) rfl rfl ?_
        refine g_getF X94 hx hZ hown (wd hw 101 rfl) e94 F1 (hb hby d31_117) rfl ?_
        intro T97 X97 e97
        refine g_arraylengthI X97 hx hZ e97 Ar (z := (2 : Int32)) (show _ = (2 : Int32) by decide) (hb hby d31_120) rfl ?_
        refine g_iconst (v := (2 : Int32)) X97 hx (hb hby d31_121) (by decide) rfl ?_
        refine g_idiv X97 hx (hb hby d31_122) (by decide) rfl ?_
        rw [show ((2 : Int32) / (2 : Int32)) = (1 : Int32) by decide]
        refine g_icmp_ge X97 hx (hb hby d31_123) (by decide) (pt := 142) (by decide) rfl (fun _ => ?_) (fun q_ => absurd q_ (by decide))
        refine g_iconst (v := (0 : Int32)) X97 hx (hb hby d31_142) (by decide) rfl ?_
        refine g_istore_n (i := 2) X97 hx #[.val (.ref a), .val (.int v), .val (.int (0 : Int32)), .val (.int (1 : Int32)), .val (.int (1 : Int32)), .val (.int (0 : Int32))] (hb hby d31_143) rfl rfl ?_
        refine g_iload_n (i := 2) X97 hx (hb hby d31_144) (by rfl) rfl ?_
        exact g_retN X97 hx (t := .boolean) (by simp) hlk hret e97 (by decide) (by decide) (hb hby d31_145) ⟨own_b0 (fun r => r.2 q3), rfl, rfl⟩
    · rw [own_ltI, show (128 : Int32).toInt = 128 from rfl] at q2
      have hv2 : (v - 64).toInt = v.toInt - 64 := by have e := c_isub v 64; have r := rng32 (v - 64); rw [show (64 : Int32).toInt = 64 from rfl] at e; omega
      have hbt := (own_rd hg (v - 64) (by omega) (by omega)).trans (not_congr (B2 _ (by omega)))
      refine g_aload_n (i := 0) X0 hx (hb hby d31_35) (by rfl) rfl rfl ?_
      refine g_getF X0 hx hZ hown (wd hw 106 rfl) e0 F3 (hb hby d31_36) rfl ?_
      intro T98 X98 e98
      refine g_iload_n (i := 1) X98 hx (hb hby d31_39) (by rfl) rfl ?_
      refine g_bipush (v := (64 : Int32)) X98 hx (hb hby d31_40) (by decide) rfl ?_
      refine g_isub X98 hx (hb hby d31_42) rfl ?_
      refine g_lushr X98 hx (hb hby d31_43) rfl ?_
      refine g_lconst (v := (1 : Int64)) X98 hx (hb hby d31_44) (by decide) rfl ?_
      refine g_land X98 hx (hb hby d31_45) rfl ?_
      refine g_lconst (v := (0 : Int64)) X98 hx (hb hby d31_46) (by decide) rfl ?_
      refine g_lcmp X98 hx (hb hby d31_47) rfl ?_
      refine g_if_eq X98 hx (hb hby d31_48) (by decide) (pt := 55) (by decide) rfl (fun qb => ?_) (fun qb => ?_)
      · refine g_iconst (v := (0 : Int32)) X98 hx (hb hby d31_55) (by decide) rfl ?_
        refine g_istore_n (i := 2) X98 hx #[.val (.ref a), .val (.int v), .val (.int (0 : Int32)), .unset, .unset, .unset] (hb hby d31_56) rfl rfl ?_
        refine g_goto X98 hx (hb hby d31_57) (by decide) (by decide) (pc' := 144) ?_
        refine g_iload_n (i := 2) X98 hx (hb hby d31_144) (by rfl) rfl ?_
        exact g_retN X98 hx (t := .boolean) (by simp) hlk hret e98 (by decide) (by decide) (hb hby d31_145) ⟨own_b0 (by
          have z := hbt.mp ((cm_eq _ _).mp qb)
          rw [own_ltI, own_ltI]; omega), rfl, rfl⟩
      · refine g_iconst (v := (1 : Int32)) X98 hx (hb hby d31_51) (by decide) rfl ?_
        refine g_goto X98 hx (hb hby d31_52) (by decide) (by decide) (pc' := 56) ?_
        refine g_istore_n (i := 2) X98 hx #[.val (.ref a), .val (.int v), .val (.int (1 : Int32)), .unset, .unset, .unset] (hb hby d31_56) rfl rfl ?_
        refine g_goto X98 hx (hb hby d31_57) (by decide) (by decide) (pc' := 144) ?_
        refine g_iload_n (i := 2) X98 hx (hb hby d31_144) (by rfl) rfl ?_
        exact g_retN X98 hx (t := .boolean) (by simp) hlk hret e98 (by decide) (by decide) (hb hby d31_145) ⟨own_b1 (by
          have z := Classical.not_not.mp (fun z => qb ((cm_eq _ _).mpr (hbt.mpr z)))
          rw [own_ltI, own_ltI]; omega), rfl, rfl⟩
  · rw [own_ltI, show (64 : Int32).toInt = 64 from rfl] at q1
    have hbt := (own_rd lw v (by omega) (by omega)).trans (not_congr (B1 _ (by omega)))
    refine g_aload_n (i := 0) X0 hx (hb hby d31_6) (by rfl) rfl rfl ?_
    refine g_getF X0 hx hZ hown (wd hw 104 rfl) e0 F2 (hb hby d31_7) rfl ?_
    intro T99 X99 e99
    refine g_iload_n (i := 1) X99 hx (hb hby d31_10) (by rfl) rfl ?_
    refine g_lushr X99 hx (hb hby d31_11) rfl ?_
    refine g_lconst (v := (1 : Int64)) X99 hx (hb hby d31_12) (by decide) rfl ?_
    refine g_land X99 hx (hb hby d31_13) rfl ?_
    refine g_lconst (v := (0 : Int64)) X99 hx (hb hby d31_14) (by decide) rfl ?_
    refine g_lcmp X99 hx (hb hby d31_15) rfl ?_
    refine g_if_eq X99 hx (hb hby d31_16) (by decide) (pt := 23) (by decide) rfl (fun qb => ?_) (fun qb => ?_)
    · refine g_iconst (v := (0 : Int32)) X99 hx (hb hby d31_23) (by decide) rfl ?_
      refine g_istore_n (i := 2) X99 hx #[.val (.ref a), .val (.int v), .val (.int (0 : Int32)), .unset, .unset, .unset] (hb hby d31_24) rfl rfl ?_
      refine g_goto X99 hx (hb hby d31_25) (by decide) (by decide) (pc' := 144) ?_
      refine g_iload_n (i := 2) X99 hx (hb hby d31_144) (by rfl) rfl ?_
      exact g_retN X99 hx (t := .boolean) (by simp) hlk hret e99 (by decide) (by decide) (hb hby d31_145) ⟨own_b0 (by
        have z := hbt.mp ((cm_eq _ _).mp qb)
        rw [own_ltI, own_ltI]; omega), rfl, rfl⟩
    · refine g_iconst (v := (1 : Int32)) X99 hx (hb hby d31_19) (by decide) rfl ?_
      refine g_goto X99 hx (hb hby d31_20) (by decide) (by decide) (pc' := 24) ?_
      refine g_istore_n (i := 2) X99 hx #[.val (.ref a), .val (.int v), .val (.int (1 : Int32)), .unset, .unset, .unset] (hb hby d31_24) rfl rfl ?_
      refine g_goto X99 hx (hb hby d31_25) (by decide) (by decide) (pc' := 144) ?_
      refine g_iload_n (i := 2) X99 hx (hb hby d31_144) (by rfl) rfl ?_
      exact g_retN X99 hx (t := .boolean) (by simp) hlk hret e99 (by decide) (by decide) (hb hby d31_145) ⟨own_b1 (by
        have z := Classical.not_not.mp (fun z => qb ((cm_eq _ _).mpr (hbt.mpr z)))
        rw [own_ltI, own_ltI]; omega), rfl, rfl⟩
def own_z1 (y : Int32) : Int32 := (~~~y) &&& (y - 1)
def own_z2 (y : Int32) : Int32 :=
  let y1 := if 65536 < y then XT.ushr y 16 else y
  let n1 : Int32 := if 65536 < y then 17 else 1
  let y2 := if 256 < y1 then XT.ushr y1 8 else y1
  let n2 := if 256 < y1 then n1 + 8 else n1
  let y3 := if 16 < y2 then XT.ushr y2 4 else y2
  let n3 := if 16 < y2 then n2 + 4 else n2
  let y4 := if 4 < y3 then XT.ushr y3 2 else y3
  let n4 := if 4 < y3 then n3 + 2 else n3
  n4 + XT.ushr y4 1
def own_ntzI (v : Int32) : Int32 := let y := (v ^^^ (-1)) &&& (v - 1); if 0 < y then own_z2 y else y &&& 32
def own_ntzL (x : Int64) : Int32 := if x.toInt32 = 0 then 32 + own_ntzI (XT.ushrL x 32).toInt32 else own_ntzI x.toInt32
theorem ef_rm_ntz (m : MethodId) (x0 : Int32)  : entryFrame m #[(.int x0)] 2 = mkF m 0 #[.val (.int x0), .unset] [] := by first | (simp [entryFrame, mkF, argsToLocals, Value.category]; done) | rfl
theorem pn_100 : plainFor (⟨"java/lang/Integer", "numberOfTrailingZeros", "(I)I"⟩ : MethodName) = true := by first | exact plainFor_of_name (by first | (simp [plainName, overriddenIn]; done) | decide +kernel) | decide +kernel
set_option maxRecDepth 65536 in
set_option maxHeartbeats 40000000 in
theorem rm_ntz (l : Launch) (Z : State) (a0 : Array Value) (hw : ∀ d ∈ tables_1, d.before a0 Z = true) (v : Int32) (h0 : Heap) :
    Ctr l Z (⟨"java/lang/Integer", "numberOfTrailingZeros", "(I)I"⟩ : MethodName) jdk_33_method_48_code 2 (Option.some FieldType.int) [] ({ frames := 0, cells := 0, slots := 0, locals := 0 } : Room) ({ frames := 0, cells := 0, slots := 0, locals := 0 } : Room).cells ({ frames := 0, cells := 0, slots := 0, locals := 0 } : Room).slots #[(.int v)] h0 (fun u h L => u = some (.int (own_ntzI v)) ∧ L = [] ∧ h = h0) := by
  refine Ctr.of pn_100 ?_
  intro p e s m below meth c s₁ hx hby hml hown hnm hret hlk hZ X0 e0
  refine Goes.cast (ef_rm_ntz m v) ?_
  refine g_iload_n (i := 0) X0 hx (hb hby d33_0) (by rfl) rfl ?_
  refine g_iconst (v := (-1 : Int32)) X0 hx (hb hby d33_1) (by decide) rfl ?_
  refine g_ixor X0 hx (hb hby d33_2) rfl ?_
  refine g_iload_n (i := 0) X0 hx (hb hby d33_3) (by rfl) rfl ?_
  refine g_iconst (v := (1 : Int32)) X0 hx (hb hby d33_4) (by decide) rfl ?_
  refine g_isub X0 hx (hb hby d33_5) rfl ?_
  refine g_iand X0 hx (hb hby d33_6) rfl ?_
  refine g_istore_n (i := 0) X0 hx #[.val (.int ((v ^^^ (-1 : Int32)) &&& (v - (1 : Int32)))), .unset] (hb hby d33_7) rfl rfl ?_
  have hv : own_ntzI v = if 0 < ((v ^^^ (-1 : Int32)) &&& (v - (1 : Int32))) then own_z2 ((v ^^^ (-1 : Int32)) &&& (v - (1 : Int32))) else ((v ^^^ (-1 : Int32)) &&& (v - (1 : Int32))) &&& 32 := rfl
  revert hv
  generalize ((v ^^^ (-1 : Int32)) &&& (v - (1 : Int32))) = y
  intro hv
  refine g_iload_n (i := 0) X0 hx (hb hby d33_8) (by rfl) rfl ?_
  refine g_if_gt X0 hx (hb hby d33_9) (by decide) (pt := 17) (by decide) rfl (fun q101 => ?_) (fun q101 => ?_)
  · refine g_iconst (v := (1 : Int32)) X0 hx (hb hby d33_17) (by decide) rfl ?_
    refine g_istore_n (i := 1) X0 hx #[.val (.int y), .val (.int (1 : Int32))] (hb hby d33_18) rfl rfl ?_
    refine g_iload_n (i := 0) X0 hx (hb hby d33_19) (by rfl) rfl ?_
    refine g_ldcWI X0 hx hZ hown (wd hw 188 rfl) (hb hby d33_20) rfl ?_
    refine g_icmp_le X0 hx (hb hby d33_23) (by decide) (pt := 34) (by decide) rfl (fun q102 => ?_) (fun q102 => ?_)
    · refine g_iload_n (i := 0) X0 hx (hb hby d33_34) (by rfl) rfl ?_
      refine g_sipush (v := (256 : Int32)) X0 hx (hb hby d33_35) (by decide) rfl ?_
      refine g_icmp_le X0 hx (hb hby d33_38) (by decide) (pt := 49) (by decide) rfl (fun q103 => ?_) (fun q103 => ?_)
      · refine g_iload_n (i := 0) X0 hx (hb hby d33_49) (by rfl) rfl ?_
        refine g_bipush (v := (16 : Int32)) X0 hx (hb hby d33_50) (by decide) rfl ?_
        refine g_icmp_le X0 hx (hb hby d33_52) (by decide) (pt := 62) (by decide) rfl (fun q104 => ?_) (fun q104 => ?_)
        · refine g_iload_n (i := 0) X0 hx (hb hby d33_62) (by rfl) rfl ?_
          refine g_iconst (v := (4 : Int32)) X0 hx (hb hby d33_63) (by decide) rfl ?_
          refine g_icmp_le X0 hx (hb hby d33_64) (by decide) (pt := 74) (by decide) rfl (fun q105 => ?_) (fun q105 => ?_)
          · refine g_iload_n (i := 1) X0 hx (hb hby d33_74) (by rfl) rfl ?_
            refine g_iload_n (i := 0) X0 hx (hb hby d33_75) (by rfl) rfl ?_
            refine g_iconst (v := (1 : Int32)) X0 hx (hb hby d33_76) (by decide) rfl ?_
            refine g_iushr X0 hx (hb hby d33_77) rfl ?_
            refine g_iadd X0 hx (hb hby d33_78) rfl ?_
            exact g_retI X0 hx hlk hret e0 (by decide) (by decide) (hb hby d33_79) ⟨by rw [hv]; simp [own_z2, q101, q102, q103, q104, q105], rfl, rfl⟩
          · refine g_iinc (i := 1) (x := (1 : Int32)) (y := (3 : Int32)) X0 hx #[.val (.int y), .val (.int (3 : Int32))] (hb hby d33_67) (by rfl) (by decide) rfl rfl ?_
            refine g_iload_n (i := 0) X0 hx (hb hby d33_70) (by rfl) rfl ?_
            refine g_iconst (v := (2 : Int32)) X0 hx (hb hby d33_71) (by decide) rfl ?_
            refine g_iushr X0 hx (hb hby d33_72) rfl ?_
            refine g_istore_n (i := 0) X0 hx #[.val (.int (XT.ushr y (2 : Int32))), .val (.int (3 : Int32))] (hb hby d33_73) rfl rfl ?_
            refine g_iload_n (i := 1) X0 hx (hb hby d33_74) (by rfl) rfl ?_
            refine g_iload_n (i := 0) X0 hx (hb hby d33_75) (by rfl) rfl ?_
            refine g_iconst (v := (1 : Int32)) X0 hx (hb hby d33_76) (by decide) rfl ?_
            refine g_iushr X0 hx (hb hby d33_77) rfl ?_
            refine g_iadd X0 hx (hb hby d33_78) rfl ?_
            exact g_retI X0 hx hlk hret e0 (by decide) (by decide) (hb hby d33_79) ⟨by rw [hv]; simp [own_z2, q101, q102, q103, q104, q105], rfl, rfl⟩
        · refine g_iinc (i := 1) (x := (1 : Int32)) (y := (5 : Int32)) X0 hx #[.val (.int y), .val (.int (5 : Int32))] (hb hby d33_55) (by rfl) (by decide) rfl rfl ?_
          refine g_iload_n (i := 0) X0 hx (hb hby d33_58) (by rfl) rfl ?_
          refine g_iconst (v := (4 : Int32)) X0 hx (hb hby d33_59) (by decide) rfl ?_
          refine g_iushr X0 hx (hb hby d33_60) rfl ?_
          refine g_istore_n (i := 0) X0 hx #[.val (.int (XT.ushr y (4 : Int32))), .val (.int (5 : Int32))] (hb hby d33_61) rfl rfl ?_
          refine g_iload_n (i := 0) X0 hx (hb hby d33_62) (by rfl) rfl ?_
          refine g_iconst (v := (4 : Int32)) X0 hx (hb hby d33_63) (by decide) rfl ?_
          refine g_icmp_le X0 hx (hb hby d33_64) (by decide) (pt := 74) (by decide) rfl (fun q106 => ?_) (fun q106 => ?_)
          · refine g_iload_n (i := 1) X0 hx (hb hby d33_74) (by rfl) rfl ?_
            refine g_iload_n (i := 0) X0 hx (hb hby d33_75) (by rfl) rfl ?_
            refine g_iconst (v := (1 : Int32)) X0 hx (hb hby d33_76) (by decide) rfl ?_
            refine g_iushr X0 hx (hb hby d33_77) rfl ?_
            refine g_iadd X0 hx (hb hby d33_78) rfl ?_
            exact g_retI X0 hx hlk hret e0 (by decide) (by decide) (hb hby d33_79) ⟨by rw [hv]; simp [own_z2, q101, q102, q103, q104, q106], rfl, rfl⟩
          · refine g_iinc (i := 1) (x := (5 : Int32)) (y := (7 : Int32)) X0 hx #[.val (.int (XT.ushr y (4 : Int32))), .val (.int (7 : Int32))] (hb hby d33_67) (by rfl) (by decide) rfl rfl ?_
            refine g_iload_n (i := 0) X0 hx (hb hby d33_70) (by rfl) rfl ?_
            refine g_iconst (v := (2 : Int32)) X0 hx (hb hby d33_71) (by decide) rfl ?_
            refine g_iushr X0 hx (hb hby d33_72) rfl ?_
            refine g_istore_n (i := 0) X0 hx #[.val (.int (XT.ushr (XT.ushr y (4 : Int32)) (2 : Int32))), .val (.int (7 : Int32))] (hb hby d33_73) rfl rfl ?_
            refine g_iload_n (i := 1) X0 hx (hb hby d33_74) (by rfl) rfl ?_
            refine g_iload_n (i := 0) X0 hx (hb hby d33_75) (by rfl) rfl ?_
            refine g_iconst (v := (1 : Int32)) X0 hx (hb hby d33_76) (by decide) rfl ?_
            refine g_iushr X0 hx (hb hby d33_77) rfl ?_
            refine g_iadd X0 hx (hb hby d33_78) rfl ?_
            exact g_retI X0 hx hlk hret e0 (by decide) (by decide) (hb hby d33_79) ⟨by rw [hv]; simp [own_z2, q101, q102, q103, q104, q106], rfl, rfl⟩
      · refine g_iinc (i := 1) (x := (1 : Int32)) (y := (9 : Int32)) X0 hx #[.val (.int y), .val (.int (9 : Int32))] (hb hby d33_41) (by rfl) (by decide) rfl rfl ?_
        refine g_iload_n (i := 0) X0 hx (hb hby d33_44) (by rfl) rfl ?_
        refine g_bipush (v := (8 : Int32)) X0 hx (hb hby d33_45) (by decide) rfl ?_
        refine g_iushr X0 hx (hb hby d33_47) rfl ?_
        refine g_istore_n (i := 0) X0 hx #[.val (.int (XT.ushr y (8 : Int32))), .val (.int (9 : Int32))] (hb hby d33_48) rfl rfl ?_
        refine g_iload_n (i := 0) X0 hx (hb hby d33_49) (by rfl) rfl ?_
        refine g_bipush (v := (16 : Int32)) X0 hx (hb hby d33_50) (by decide) rfl ?_
        refine g_icmp_le X0 hx (hb hby d33_52) (by decide) (pt := 62) (by decide) rfl (fun q107 => ?_) (fun q107 => ?_)
        · refine g_iload_n (i := 0) X0 hx (hb hby d33_62) (by rfl) rfl ?_
          refine g_iconst (v := (4 : Int32)) X0 hx (hb hby d33_63) (by decide) rfl ?_
          refine g_icmp_le X0 hx (hb hby d33_64) (by decide) (pt := 74) (by decide) rfl (fun q108 => ?_) (fun q108 => ?_)
          · refine g_iload_n (i := 1) X0 hx (hb hby d33_74) (by rfl) rfl ?_
            refine g_iload_n (i := 0) X0 hx (hb hby d33_75) (by rfl) rfl ?_
            refine g_iconst (v := (1 : Int32)) X0 hx (hb hby d33_76) (by decide) rfl ?_
            refine g_iushr X0 hx (hb hby d33_77) rfl ?_
            refine g_iadd X0 hx (hb hby d33_78) rfl ?_
            exact g_retI X0 hx hlk hret e0 (by decide) (by decide) (hb hby d33_79) ⟨by rw [hv]; simp [own_z2, q101, q102, q103, q107, q108], rfl, rfl⟩
          · refine g_iinc (i := 1) (x := (9 : Int32)) (y := (11 : Int32)) X0 hx #[.val (.int (XT.ushr y (8 : Int32))), .val (.int (11 : Int32))] (hb hby d33_67) (by rfl) (by decide) rfl rfl ?_
            refine g_iload_n (i := 0) X0 hx (hb hby d33_70) (by rfl) rfl ?_
            refine g_iconst (v := (2 : Int32)) X0 hx (hb hby d33_71) (by decide) rfl ?_
            refine g_iushr X0 hx (hb hby d33_72) rfl ?_
            refine g_istore_n (i := 0) X0 hx #[.val (.int (XT.ushr (XT.ushr y (8 : Int32)) (2 : Int32))), .val (.int (11 : Int32))] (hb hby d33_73) rfl rfl ?_
            refine g_iload_n (i := 1) X0 hx (hb hby d33_74) (by rfl) rfl ?_
            refine g_iload_n (i := 0) X0 hx (hb hby d33_75) (by rfl) rfl ?_
            refine g_iconst (v := (1 : Int32)) X0 hx (hb hby d33_76) (by decide) rfl ?_
            refine g_iushr X0 hx (hb hby d33_77) rfl ?_
            refine g_iadd X0 hx (hb hby d33_78) rfl ?_
            exact g_retI X0 hx hlk hret e0 (by decide) (by decide) (hb hby d33_79) ⟨by rw [hv]; simp [own_z2, q101, q102, q103, q107, q108], rfl, rfl⟩
        · refine g_iinc (i := 1) (x := (9 : Int32)) (y := (13 : Int32)) X0 hx #[.val (.int (XT.ushr y (8 : Int32))), .val (.int (13 : Int32))] (hb hby d33_55) (by rfl) (by decide) rfl rfl ?_
          refine g_iload_n (i := 0) X0 hx (hb hby d33_58) (by rfl) rfl ?_
          refine g_iconst (v := (4 : Int32)) X0 hx (hb hby d33_59) (by decide) rfl ?_
          refine g_iushr X0 hx (hb hby d33_60) rfl ?_
          refine g_istore_n (i := 0) X0 hx #[.val (.int (XT.ushr (XT.ushr y (8 : Int32)) (4 : Int32))), .val (.int (13 : Int32))] (hb hby d33_61) rfl rfl ?_
          refine g_iload_n (i := 0) X0 hx (hb hby d33_62) (by rfl) rfl ?_
          refine g_iconst (v := (4 : Int32)) X0 hx (hb hby d33_63) (by decide) rfl ?_
          refine g_icmp_le X0 hx (hb hby d33_64) (by decide) (pt := 74) (by decide) rfl (fun q109 => ?_) (fun q109 => ?_)
          · refine g_iload_n (i := 1) X0 hx (hb hby d33_74) (by rfl) rfl ?_
            refine g_iload_n (i := 0) X0 hx (hb hby d33_75) (by rfl) rfl ?_
            refine g_iconst (v := (1 : Int32)) X0 hx (hb hby d33_76) (by decide) rfl ?_
            refine g_iushr X0 hx (hb hby d33_77) rfl ?_
            refine g_iadd X0 hx (hb hby d33_78) rfl ?_
            exact g_retI X0 hx hlk hret e0 (by decide) (by decide) (hb hby d33_79) ⟨by rw [hv]; simp [own_z2, q101, q102, q103, q107, q109], rfl, rfl⟩
          · refine g_iinc (i := 1) (x := (13 : Int32)) (y := (15 : Int32)) X0 hx #[.val (.int (XT.ushr (XT.ushr y (8 : Int32)) (4 : Int32))), .val (.int (15 : Int32))] (hb hby d33_67) (by rfl) (by decide) rfl rfl ?_
            refine g_iload_n (i := 0) X0 hx (hb hby d33_70) (by rfl) rfl ?_
            refine g_iconst (v := (2 : Int32)) X0 hx (hb hby d33_71) (by decide) rfl ?_
            refine g_iushr X0 hx (hb hby d33_72) rfl ?_
            refine g_istore_n (i := 0) X0 hx #[.val (.int (XT.ushr (XT.ushr (XT.ushr y (8 : Int32)) (4 : Int32)) (2 : Int32))), .val (.int (15 : Int32))] (hb hby d33_73) rfl rfl ?_
            refine g_iload_n (i := 1) X0 hx (hb hby d33_74) (by rfl) rfl ?_
            refine g_iload_n (i := 0) X0 hx (hb hby d33_75) (by rfl) rfl ?_
            refine g_iconst (v := (1 : Int32)) X0 hx (hb hby d33_76) (by decide) rfl ?_
            refine g_iushr X0 hx (hb hby d33_77) rfl ?_
            refine g_iadd X0 hx (hb hby d33_78) rfl ?_
            exact g_retI X0 hx hlk hret e0 (by decide) (by decide) (hb hby d33_79) ⟨by rw [hv]; simp [own_z2, q101, q102, q103, q107, q109], rfl, rfl⟩
    · refine g_iinc (i := 1) (x := (1 : Int32)) (y := (17 : Int32)) X0 hx #[.val (.int y), .val (.int (17 : Int32))] (hb hby d33_26) (by rfl) (by decide) rfl rfl ?_
      refine g_iload_n (i := 0) X0 hx (hb hby d33_29) (by rfl) rfl ?_
      refine g_bipush (v := (16 : Int32)) X0 hx (hb hby d33_30) (by decide) rfl ?_
      refine g_iushr X0 hx (hb hby d33_32) rfl ?_
      refine g_istore_n (i := 0) X0 hx #[.val (.int (XT.ushr y (16 : Int32))), .val (.int (17 : Int32))] (hb hby d33_33) rfl rfl ?_
      refine g_iload_n (i := 0) X0 hx (hb hby d33_34) (by rfl) rfl ?_
      refine g_sipush (v := (256 : Int32)) X0 hx (hb hby d33_35) (by decide) rfl ?_
      refine g_icmp_le X0 hx (hb hby d33_38) (by decide) (pt := 49) (by decide) rfl (fun q110 => ?_) (fun q110 => ?_)
      · refine g_iload_n (i := 0) X0 hx (hb hby d33_49) (by rfl) rfl ?_
        refine g_bipush (v := (16 : Int32)) X0 hx (hb hby d33_50) (by decide) rfl ?_
        refine g_icmp_le X0 hx (hb hby d33_52) (by decide) (pt := 62) (by decide) rfl (fun q111 => ?_) (fun q111 => ?_)
        · refine g_iload_n (i := 0) X0 hx (hb hby d33_62) (by rfl) rfl ?_
          refine g_iconst (v := (4 : Int32)) X0 hx (hb hby d33_63) (by decide) rfl ?_
          refine g_icmp_le X0 hx (hb hby d33_64) (by decide) (pt := 74) (by decide) rfl (fun q112 => ?_) (fun q112 => ?_)
          · refine g_iload_n (i := 1) X0 hx (hb hby d33_74) (by rfl) rfl ?_
            refine g_iload_n (i := 0) X0 hx (hb hby d33_75) (by rfl) rfl ?_
            refine g_iconst (v := (1 : Int32)) X0 hx (hb hby d33_76) (by decide) rfl ?_
            refine g_iushr X0 hx (hb hby d33_77) rfl ?_
            refine g_iadd X0 hx (hb hby d33_78) rfl ?_
            exact g_retI X0 hx hlk hret e0 (by decide) (by decide) (hb hby d33_79) ⟨by rw [hv]; simp [own_z2, q101, q102, q110, q111, q112], rfl, rfl⟩
          · refine g_iinc (i := 1) (x := (17 : Int32)) (y := (19 : Int32)) X0 hx #[.val (.int (XT.ushr y (16 : Int32))), .val (.int (19 : Int32))] (hb hby d33_67) (by rfl) (by decide) rfl rfl ?_
            refine g_iload_n (i := 0) X0 hx (hb hby d33_70) (by rfl) rfl ?_
            refine g_iconst (v := (2 : Int32)) X0 hx (hb hby d33_71) (by decide) rfl ?_
            refine g_iushr X0 hx (hb hby d33_72) rfl ?_
            refine g_istore_n (i := 0) X0 hx #[.val (.int (XT.ushr (XT.ushr y (16 : Int32)) (2 : Int32))), .val (.int (19 : Int32))] (hb hby d33_73) rfl rfl ?_
            refine g_iload_n (i := 1) X0 hx (hb hby d33_74) (by rfl) rfl ?_
            refine g_iload_n (i := 0) X0 hx (hb hby d33_75) (by rfl) rfl ?_
            refine g_iconst (v := (1 : Int32)) X0 hx (hb hby d33_76) (by decide) rfl ?_
            refine g_iushr X0 hx (hb hby d33_77) rfl ?_
            refine g_iadd X0 hx (hb hby d33_78) rfl ?_
            exact g_retI X0 hx hlk hret e0 (by decide) (by decide) (hb hby d33_79) ⟨by rw [hv]; simp [own_z2, q101, q102, q110, q111, q112], rfl, rfl⟩
        · refine g_iinc (i := 1) (x := (17 : Int32)) (y := (21 : Int32)) X0 hx #[.val (.int (XT.ushr y (16 : Int32))), .val (.int (21 : Int32))] (hb hby d33_55) (by rfl) (by decide) rfl rfl ?_
          refine g_iload_n (i := 0) X0 hx (hb hby d33_58) (by rfl) rfl ?_
          refine g_iconst (v := (4 : Int32)) X0 hx (hb hby d33_59) (by decide) rfl ?_
          refine g_iushr X0 hx (hb hby d33_60) rfl ?_
          refine g_istore_n (i := 0) X0 hx #[.val (.int (XT.ushr (XT.ushr y (16 : Int32)) (4 : Int32))), .val (.int (21 : Int32))] (hb hby d33_61) rfl rfl ?_
          refine g_iload_n (i := 0) X0 hx (hb hby d33_62) (by rfl) rfl ?_
          refine g_iconst (v := (4 : Int32)) X0 hx (hb hby d33_63) (by decide) rfl ?_
          refine g_icmp_le X0 hx (hb hby d33_64) (by decide) (pt := 74) (by decide) rfl (fun q113 => ?_) (fun q113 => ?_)
          · refine g_iload_n (i := 1) X0 hx (hb hby d33_74) (by rfl) rfl ?_
            refine g_iload_n (i := 0) X0 hx (hb hby d33_75) (by rfl) rfl ?_
            refine g_iconst (v := (1 : Int32)) X0 hx (hb hby d33_76) (by decide) rfl ?_
            refine g_iushr X0 hx (hb hby d33_77) rfl ?_
            refine g_iadd X0 hx (hb hby d33_78) rfl ?_
            exact g_retI X0 hx hlk hret e0 (by decide) (by decide) (hb hby d33_79) ⟨by rw [hv]; simp [own_z2, q101, q102, q110, q111, q113], rfl, rfl⟩
          · refine g_iinc (i := 1) (x := (21 : Int32)) (y := (23 : Int32)) X0 hx #[.val (.int (XT.ushr (XT.ushr y (16 : Int32)) (4 : Int32))), .val (.int (23 : Int32))] (hb hby d33_67) (by rfl) (by decide) rfl rfl ?_
            refine g_iload_n (i := 0) X0 hx (hb hby d33_70) (by rfl) rfl ?_
            refine g_iconst (v := (2 : Int32)) X0 hx (hb hby d33_71) (by decide) rfl ?_
            refine g_iushr X0 hx (hb hby d33_72) rfl ?_
            refine g_istore_n (i := 0) X0 hx #[.val (.int (XT.ushr (XT.ushr (XT.ushr y (16 : Int32)) (4 : Int32)) (2 : Int32))), .val (.int (23 : Int32))] (hb hby d33_73) rfl rfl ?_
            refine g_iload_n (i := 1) X0 hx (hb hby d33_74) (by rfl) rfl ?_
            refine g_iload_n (i := 0) X0 hx (hb hby d33_75) (by rfl) rfl ?_
            refine g_iconst (v := (1 : Int32)) X0 hx (hb hby d33_76) (by decide) rfl ?_
            refine g_iushr X0 hx (hb hby d33_77) rfl ?_
            refine g_iadd X0 hx (hb hby d33_78) rfl ?_
            exact g_retI X0 hx hlk hret e0 (by decide) (by decide) (hb hby d33_79) ⟨by rw [hv]; simp [own_z2, q101, q102, q110, q111, q113], rfl, rfl⟩
      · refine g_iinc (i := 1) (x := (17 : Int32)) (y := (25 : Int32)) X0 hx #[.val (.int (XT.ushr y (16 : Int32))), .val (.int (25 : Int32))] (hb hby d33_41) (by rfl) (by decide) rfl rfl ?_
        refine g_iload_n (i := 0) X0 hx (hb hby d33_44) (by rfl) rfl ?_
        refine g_bipush (v := (8 : Int32)) X0 hx (hb hby d33_45) (by decide) rfl ?_
        refine g_iushr X0 hx (hb hby d33_47) rfl ?_
        refine g_istore_n (i := 0) X0 hx #[.val (.int (XT.ushr (XT.ushr y (16 : Int32)) (8 : Int32))), .val (.int (25 : Int32))] (hb hby d33_48) rfl rfl ?_
        refine g_iload_n (i := 0) X0 hx (hb hby d33_49) (by rfl) rfl ?_
        refine g_bipush (v := (16 : Int32)) X0 hx (hb hby d33_50) (by decide) rfl ?_
        refine g_icmp_le X0 hx (hb hby d33_52) (by decide) (pt := 62) (by decide) rfl (fun q114 => ?_) (fun q114 => ?_)
        · refine g_iload_n (i := 0) X0 hx (hb hby d33_62) (by rfl) rfl ?_
          refine g_iconst (v := (4 : Int32)) X0 hx (hb hby d33_63) (by decide) rfl ?_
          refine g_icmp_le X0 hx (hb hby d33_64) (by decide) (pt := 74) (by decide) rfl (fun q115 => ?_) (fun q115 => ?_)
          · refine g_iload_n (i := 1) X0 hx (hb hby d33_74) (by rfl) rfl ?_
            refine g_iload_n (i := 0) X0 hx (hb hby d33_75) (by rfl) rfl ?_
            refine g_iconst (v := (1 : Int32)) X0 hx (hb hby d33_76) (by decide) rfl ?_
            refine g_iushr X0 hx (hb hby d33_77) rfl ?_
            refine g_iadd X0 hx (hb hby d33_78) rfl ?_
            exact g_retI X0 hx hlk hret e0 (by decide) (by decide) (hb hby d33_79) ⟨by rw [hv]; simp [own_z2, q101, q102, q110, q114, q115], rfl, rfl⟩
          · refine g_iinc (i := 1) (x := (25 : Int32)) (y := (27 : Int32)) X0 hx #[.val (.int (XT.ushr (XT.ushr y (16 : Int32)) (8 : Int32))), .val (.int (27 : Int32))] (hb hby d33_67) (by rfl) (by decide) rfl rfl ?_
            refine g_iload_n (i := 0) X0 hx (hb hby d33_70) (by rfl) rfl ?_
            refine g_iconst (v := (2 : Int32)) X0 hx (hb hby d33_71) (by decide) rfl ?_
            refine g_iushr X0 hx (hb hby d33_72) rfl ?_
            refine g_istore_n (i := 0) X0 hx #[.val (.int (XT.ushr (XT.ushr (XT.ushr y (16 : Int32)) (8 : Int32)) (2 : Int32))), .val (.int (27 : Int32))] (hb hby d33_73) rfl rfl ?_
            refine g_iload_n (i := 1) X0 hx (hb hby d33_74) (by rfl) rfl ?_
            refine g_iload_n (i := 0) X0 hx (hb hby d33_75) (by rfl) rfl ?_
            refine g_iconst (v := (1 : Int32)) X0 hx (hb hby d33_76) (by decide) rfl ?_
            refine g_iushr X0 hx (hb hby d33_77) rfl ?_
            refine g_iadd X0 hx (hb hby d33_78) rfl ?_
            exact g_retI X0 hx hlk hret e0 (by decide) (by decide) (hb hby d33_79) ⟨by rw [hv]; simp [own_z2, q101, q102, q110, q114, q115], rfl, rfl⟩
        · refine g_iinc (i := 1) (x := (25 : Int32)) (y := (29 : Int32)) X0 hx #[.val (.int (XT.ushr (XT.ushr y (16 : Int32)) (8 : Int32))), .val (.int (29 : Int32))] (hb hby d33_55) (by rfl) (by decide) rfl rfl ?_
          refine g_iload_n (i := 0) X0 hx (hb hby d33_58) (by rfl) rfl ?_
          refine g_iconst (v := (4 : Int32)) X0 hx (hb hby d33_59) (by decide) rfl ?_
          refine g_iushr X0 hx (hb hby d33_60) rfl ?_
          refine g_istore_n (i := 0) X0 hx #[.val (.int (XT.ushr (XT.ushr (XT.ushr y (16 : Int32)) (8 : Int32)) (4 : Int32))), .val (.int (29 : Int32))] (hb hby d33_61) rfl rfl ?_
          refine g_iload_n (i := 0) X0 hx (hb hby d33_62) (by rfl) rfl ?_
          refine g_iconst (v := (4 : Int32)) X0 hx (hb hby d33_63) (by decide) rfl ?_
          refine g_icmp_le X0 hx (hb hby d33_64) (by decide) (pt := 74) (by decide) rfl (fun q116 => ?_) (fun q116 => ?_)
          · refine g_iload_n (i := 1) X0 hx (hb hby d33_74) (by rfl) rfl ?_
            refine g_iload_n (i := 0) X0 hx (hb hby d33_75) (by rfl) rfl ?_
            refine g_iconst (v := (1 : Int32)) X0 hx (hb hby d33_76) (by decide) rfl ?_
            refine g_iushr X0 hx (hb hby d33_77) rfl ?_
            refine g_iadd X0 hx (hb hby d33_78) rfl ?_
            exact g_retI X0 hx hlk hret e0 (by decide) (by decide) (hb hby d33_79) ⟨by rw [hv]; simp [own_z2, q101, q102, q110, q114, q116], rfl, rfl⟩
          · refine g_iinc (i := 1) (x := (29 : Int32)) (y := (31 : Int32)) X0 hx #[.val (.int (XT.ushr (XT.ushr (XT.ushr y (16 : Int32)) (8 : Int32)) (4 : Int32))), .val (.int (31 : Int32))] (hb hby d33_67) (by rfl) (by decide) rfl rfl ?_
            refine g_iload_n (i := 0) X0 hx (hb hby d33_70) (by rfl) rfl ?_
            refine g_iconst (v := (2 : Int32)) X0 hx (hb hby d33_71) (by decide) rfl ?_
            refine g_iushr X0 hx (hb hby d33_72) rfl ?_
            refine g_istore_n (i := 0) X0 hx #[.val (.int (XT.ushr (XT.ushr (XT.ushr (XT.ushr y (16 : Int32)) (8 : Int32)) (4 : Int32)) (2 : Int32))), .val (.int (31 : Int32))] (hb hby d33_73) rfl rfl ?_
            refine g_iload_n (i := 1) X0 hx (hb hby d33_74) (by rfl) rfl ?_
            refine g_iload_n (i := 0) X0 hx (hb hby d33_75) (by rfl) rfl ?_
            refine g_iconst (v := (1 : Int32)) X0 hx (hb hby d33_76) (by decide) rfl ?_
            refine g_iushr X0 hx (hb hby d33_77) rfl ?_
            refine g_iadd X0 hx (hb hby d33_78) rfl ?_
            exact g_retI X0 hx hlk hret e0 (by decide) (by decide) (hb hby d33_79) ⟨by rw [hv]; simp [own_z2, q101, q102, q110, q114, q116], rfl, rfl⟩
  · refine g_iload_n (i := 0) X0 hx (hb hby d33_12) (by rfl) rfl ?_
    refine g_bipush (v := (32 : Int32)) X0 hx (hb hby d33_13) (by decide) rfl ?_
    refine g_iand X0 hx (hb hby d33_15) rfl ?_
    exact g_retI X0 hx hlk hret e0 (by decide) (by decide) (hb hby d33_16) ⟨by rw [hv]; simp [own_z2, q101], rfl, rfl⟩
theorem ef_rm_ntzl (m : MethodId) (x0 : Int64)  : entryFrame m #[(.long x0)] 3 = mkF m 0 #[.val (.long x0), .second, .unset] [] := by first | (simp [entryFrame, mkF, argsToLocals, Value.category]; done) | rfl
theorem pn_117 : plainFor (⟨"java/lang/Long", "numberOfTrailingZeros", "(J)I"⟩ : MethodName) = true := by first | exact plainFor_of_name (by first | (simp [plainName, overriddenIn]; done) | decide +kernel) | decide +kernel
theorem pd_118 : parseMethodDescriptor "(I)I" = some ⟨[.int], some .int⟩ := by decide +kernel
set_option maxRecDepth 65536 in
set_option maxHeartbeats 40000000 in
theorem rm_ntzl (l : Launch) (Z : State) (a0 : Array Value) (hw : ∀ d ∈ tables_1, d.before a0 Z = true) (v : Int64) (h0 : Heap) :
    Ctr l Z (⟨"java/lang/Long", "numberOfTrailingZeros", "(J)I"⟩ : MethodName) jdk_35_method_49_code 3 (Option.some FieldType.int) [] ({ frames := 1, cells := 0, slots := 0, locals := 14 } : Room) ({ frames := 1, cells := 0, slots := 0, locals := 14 } : Room).cells ({ frames := 1, cells := 0, slots := 0, locals := 14 } : Room).slots #[(.long v)] h0 (fun u h L => u = some (.int (own_ntzL v)) ∧ L = [] ∧ h = h0) := by
  refine Ctr.of pn_117 ?_
  intro p e s m below meth c s₁ hx hby hml hown hnm hret hlk hZ X0 e0
  refine Goes.cast (ef_rm_ntzl m v) ?_
  refine g_lload_n (i := 0) X0 hx (hb hby d32_0) (by rfl) rfl ?_
  refine g_l2i X0 hx (hb hby d32_1) rfl ?_
  refine g_istore_n (i := 2) X0 hx #[.val (.long v), .second, .val (.int v.toInt32)] (hb hby d32_2) rfl rfl ?_
  refine g_iload_n (i := 2) X0 hx (hb hby d32_3) (by rfl) rfl ?_
  refine g_if_ne X0 hx (hb hby d32_4) (by decide) (pt := 21) (by decide) rfl (fun q => ?_) (fun q => ?_)
  · refine g_iload_n (i := 2) X0 hx (hb hby d32_21) (by rfl) rfl ?_
    refine g_callS X0 hx hZ hown (wd hw 184 rfl) (wd hw 185 rfl) (wd hw 186 rfl) (wd hw 187 rfl) (by decide) e0 (rm_ntz l Z a0 hw v.toInt32 h0) (by rw [hml]; rfl) [(.int v.toInt32)] [] rfl (lenOf pd_118 rfl) rfl (by show 0 + (2 + 11) + 0 ≤ _; decide) (by decide) (by decide) (by decide) (hb hby d32_22) rfl ?_
    intro T118 v118 L118 X118 hQ118
    obtain ⟨rfl, rfl, e118⟩ := hQ118
    show Goes p e below _ T118 (mkF m 25 #[.val (.long v), .second, .val (.int v.toInt32)] [(.int (own_ntzI v.toInt32))])
    exact g_retI X118 hx hlk hret e118 (by decide) (by decide) (hb hby d32_25) ⟨by unfold own_ntzL; rw [if_neg q], rfl, rfl⟩
  · refine g_bipush (v := (32 : Int32)) X0 hx (hb hby d32_7) (by decide) rfl ?_
    refine g_lload_n (i := 0) X0 hx (hb hby d32_9) (by rfl) rfl ?_
    refine g_bipush (v := (32 : Int32)) X0 hx (hb hby d32_10) (by decide) rfl ?_
    refine g_lushr X0 hx (hb hby d32_12) rfl ?_
    refine g_l2i X0 hx (hb hby d32_13) rfl ?_
    refine g_callS X0 hx hZ hown (wd hw 184 rfl) (wd hw 185 rfl) (wd hw 186 rfl) (wd hw 187 rfl) (by decide) e0 (rm_ntz l Z a0 hw (XT.ushrL v 32).toInt32 h0) (by rw [hml]; rfl) [(.int (XT.ushrL v (32 : Int32)).toInt32)] [(.int (32 : Int32))] rfl (lenOf pd_118 rfl) rfl (by show 1 + (2 + 11) + 0 ≤ _; decide) (by decide) (by decide) (by decide) (hb hby d32_14) rfl ?_
    intro T119 v119 L119 X119 hQ119
    obtain ⟨rfl, rfl, e119⟩ := hQ119
    show Goes p e below _ T119 (mkF m 17 #[.val (.long v), .second, .val (.int v.toInt32)] [(.int (own_ntzI (XT.ushrL v 32).toInt32)), (.int (32 : Int32))])
    refine g_iadd X119 hx (hb hby d32_17) rfl ?_
    refine g_goto X119 hx (hb hby d32_18) (by decide) (by decide) (pc' := 25) ?_
    exact g_retI X119 hx hlk hret e119 (by decide) (by decide) (hb hby d32_25) ⟨by unfold own_ntzL; rw [if_pos q], rfl, rfl⟩
def own_U (Z : State) (h : Heap) (a : Addr) (n0 : Nat) (tv sv : Value) (mb nb : Addr) (n : Nat) (fm : Nat → Int64) (fn : Nat → Int32) (tc : Int32) (ur : Int64) : Prop :=
  Exa Z h a "com/example/nav_by_schema/navbyschema/regex/UnitRuns" ∧ Fld Z h a "com/example/nav_by_schema/navbyschema/regex/UnitRuns" "text" "Ljava/lang/String;" tv ∧ Fld Z h a "com/example/nav_by_schema/navbyschema/regex/UnitRuns" "set" "Lcom/example/nav_by_schema/navbyschema/regex/CodeUnitSet;" sv ∧ Fld Z h a "com/example/nav_by_schema/navbyschema/regex/UnitRuns" "members" "[J" (.ref mb) ∧ Fld Z h a "com/example/nav_by_schema/navbyschema/regex/UnitRuns" "next" "[I" (.ref nb) ∧ Fld Z h a "com/example/nav_by_schema/navbyschema/regex/UnitRuns" "touched" "I" (.int tc) ∧ Fld Z h a "com/example/nav_by_schema/navbyschema/regex/UnitRuns" "unitsRead" "J" (.long ur) ∧ ArJ Z h mb .long n fm ∧ ArI Z h nb .int n fn ∧ mb ≠ nb ∧ mb ≠ a ∧ nb ≠ a ∧ n0 ≤ a ∧ n0 ≤ mb ∧ n0 ≤ nb ∧ n0 ≤ h.size
theorem ef_rm_ur (m : MethodId) (x0 : Addr)  : entryFrame m #[(.ref x0)] 1 = mkF m 0 #[.val (.ref x0)] [] := by first | (simp [entryFrame, mkF, argsToLocals, Value.category]; done) | rfl
theorem pn_120 : plainFor (⟨"com/example/nav_by_schema/navbyschema/regex/UnitRuns", "unitsRead", "()J"⟩ : MethodName) = true := by first | exact plainFor_of_name (by first | (simp [plainName, overriddenIn]; done) | decide +kernel) | decide +kernel
set_option maxRecDepth 65536 in
set_option maxHeartbeats 40000000 in
theorem rm_ur (l : Launch) (Z : State) (a0 : Array Value) (hw : ∀ d ∈ tables_1, d.before a0 Z = true) (a : Addr) (n0 : Nat) (tv sv : Value) (mb nb : Addr) (n : Nat) (fm : Nat → Int64) (fn : Nat → Int32) (tc : Int32) (ur : Int64) (h0 : Heap) (H : own_U Z h0 a n0 tv sv mb nb n fm fn tc ur) :
    Ctr l Z (⟨"com/example/nav_by_schema/navbyschema/regex/UnitRuns", "unitsRead", "()J"⟩ : MethodName) prog_27_method_3_code 1 (Option.some FieldType.long) [] ({ frames := 0, cells := 0, slots := 0, locals := 0 } : Room) ({ frames := 0, cells := 0, slots := 0, locals := 0 } : Room).cells ({ frames := 0, cells := 0, slots := 0, locals := 0 } : Room).slots #[(.ref a)] h0 (fun u h L => u = some (.long ur) ∧ L = [] ∧ h = h0) := by
  refine Ctr.of pn_120 ?_
  intro p e s m below meth c s₁ hx hby hml hown hnm hret hlk hZ X0 e0
  refine Goes.cast (ef_rm_ur m a) ?_
  obtain ⟨E, F_text, F_set, F_members, F_next, F_touched, F_unitsRead, AM, AN, d1, d2, d3, g1, g2, g3, g4⟩ := H
  refine g_aload_n (i := 0) X0 hx (hb hby d35_0) (by rfl) rfl rfl ?_
  refine g_getF X0 hx hZ hown (wd hw 177 rfl) e0 F_unitsRead (hb hby d35_1) rfl ?_
  intro T121 X121 e121
  exact g_retJ X121 hx hlk hret e121 (by decide) (by decide) (hb hby d35_4) ⟨rfl, rfl, rfl⟩
theorem ef_rm_ul (m : MethodId) (x0 : Addr)  : entryFrame m #[(.ref x0)] 1 = mkF m 0 #[.val (.ref x0)] [] := by first | (simp [entryFrame, mkF, argsToLocals, Value.category]; done) | rfl
theorem pn_122 : plainFor (⟨"com/example/nav_by_schema/navbyschema/regex/UnitRuns", "release", "()V"⟩ : MethodName) = true := by first | exact plainFor_of_name (by first | (simp [plainName, overriddenIn]; done) | decide +kernel) | decide +kernel
set_option maxRecDepth 65536 in
set_option maxHeartbeats 40000000 in
theorem rm_ul (l : Launch) (Z : State) (a0 : Array Value) (hw : ∀ d ∈ tables_1, d.before a0 Z = true) (a : Addr) (n0 : Nat) (tv sv : Value) (mb nb : Addr) (n : Nat) (fm : Nat → Int64) (fn : Nat → Int32) (tc : Int32) (ur : Int64) (h0 : Heap) (H : own_U Z h0 a n0 tv sv mb nb n fm fn tc ur) (hn : n ≤ 1) :
    Ctr l Z (⟨"com/example/nav_by_schema/navbyschema/regex/UnitRuns", "release", "()V"⟩ : MethodName) prog_27_method_4_code 1 (Option.none : Option FieldType) [] ({ frames := 0, cells := 0, slots := 0, locals := 0 } : Room) ({ frames := 0, cells := 0, slots := 0, locals := 0 } : Room).cells ({ frames := 0, cells := 0, slots := 0, locals := 0 } : Room).slots #[(.ref a)] h0 (fun u h L => u = none ∧ Fr n0 L ∧ own_U Z h a n0 .null .null mb nb n fm fn tc ur) := by
  refine Ctr.of pn_122 ?_
  intro p e s m below meth c s₁ hx hby hml hown hnm hret hlk hZ X0 e0
  refine Goes.cast (ef_rm_ul m a) ?_
  obtain ⟨E, F_text, F_set, F_members, F_next, F_touched, F_unitsRead, AM, AN, d1, d2, d3, g1, g2, g3, g4⟩ := H
  have hl : (n.toInt32).toInt = (n : Int) := len_toInt (by omega)
  refine g_aload_n (i := 0) X0 hx (hb hby d36_0) (by rfl) rfl rfl ?_
  refine g_aconst_null X0 hx (hb hby d36_1) rfl ?_
  refine g_putF X0 hx hZ hown (wd hw 124 rfl) e0 F_text E (Or.inl (wd hw 125 rfl)) (wd hw 109 rfl) (ty := (.object "java/lang/String")) (by decide) rfl rfl (hb hby d36_2) rfl ?_
  intro T123 h123 X123 e123 W123
  have N123 := Fr.snoc X123 (Fr.nil n0) g1
  have E123_ := E.wr W123
  have F123_text := F_text.same W123
  have F123_set := F_set.other W123 (Or.inr (slot_ne (C := "com/example/nav_by_schema/navbyschema/regex/UnitRuns") (Or.inl (wd hw 131 rfl)) (Or.inl (wd hw 125 rfl)) (by decide) (t := (.object "com/example/nav_by_schema/navbyschema/regex/CodeUnitSet")) (t' := (.object "java/lang/String")) (by decide) (by decide)))
  have F123_members := F_members.other W123 (Or.inr (slot_ne (C := "com/example/nav_by_schema/navbyschema/regex/UnitRuns") (Or.inl (wd hw 116 rfl)) (Or.inl (wd hw 125 rfl)) (by decide) (t := (.array .long)) (t' := (.object "java/lang/String")) (by decide) (by decide)))
  have F123_next := F_next.other W123 (Or.inr (slot_ne (C := "com/example/nav_by_schema/navbyschema/regex/UnitRuns") (Or.inl (wd hw 118 rfl)) (Or.inl (wd hw 125 rfl)) (by decide) (t := (.array .int)) (t' := (.object "java/lang/String")) (by decide) (by decide)))
  have F123_touched := F_touched.other W123 (Or.inr (slot_ne (C := "com/example/nav_by_schema/navbyschema/regex/UnitRuns") (Or.inl (wd hw 143 rfl)) (Or.inl (wd hw 125 rfl)) (by decide) (t := .int) (t' := (.object "java/lang/String")) (by decide) (by decide)))
  have F123_unitsRead := F_unitsRead.other W123 (Or.inr (slot_ne (C := "com/example/nav_by_schema/navbyschema/regex/UnitRuns") (Or.inl (wd hw 178 rfl)) (Or.inl (wd hw 125 rfl)) (by decide) (t := .long) (t' := (.object "java/lang/String")) (by decide) (by decide)))
  have AM123 := AM.other W123 d2
  have AN123 := AN.other W123 d3
  have Zh123 : n0 ≤ h123.size := by rw [W123.size]; exact g4
  refine g_aload_n (i := 0) X123 hx (hb hby d36_5) (by rfl) rfl rfl ?_
  refine g_aconst_null X123 hx (hb hby d36_6) rfl ?_
  refine g_putF X123 hx hZ hown (wd hw 130 rfl) e123 F123_set E123_ (Or.inl (wd hw 131 rfl)) (wd hw 109 rfl) (ty := (.object "com/example/nav_by_schema/navbyschema/regex/CodeUnitSet")) (by decide) rfl rfl (hb hby d36_7) rfl ?_
  intro T124 h124 X124 e124 W124
  have N124 := Fr.snoc X124 N123 g1
  have E124_ := E123_.wr W124
  have F124_text := F123_text.other W124 (Or.inr (slot_ne (C := "com/example/nav_by_schema/navbyschema/regex/UnitRuns") (Or.inl (wd hw 125 rfl)) (Or.inl (wd hw 131 rfl)) (by decide) (t := (.object "java/lang/String")) (t' := (.object "com/example/nav_by_schema/navbyschema/regex/CodeUnitSet")) (by decide) (by decide)))
  have F124_set := F123_set.same W124
  have F124_members := F123_members.other W124 (Or.inr (slot_ne (C := "com/example/nav_by_schema/navbyschema/regex/UnitRuns") (Or.inl (wd hw 116 rfl)) (Or.inl (wd hw 131 rfl)) (by decide) (t := (.array .long)) (t' := (.object "com/example/nav_by_schema/navbyschema/regex/CodeUnitSet")) (by decide) (by decide)))
  have F124_next := F123_next.other W124 (Or.inr (slot_ne (C := "com/example/nav_by_schema/navbyschema/regex/UnitRuns") (Or.inl (wd hw 118 rfl)) (Or.inl (wd hw 131 rfl)) (by decide) (t := (.array .int)) (t' := (.object "com/example/nav_by_schema/navbyschema/regex/CodeUnitSet")) (by decide) (by decide)))
  have F124_touched := F123_touched.other W124 (Or.inr (slot_ne (C := "com/example/nav_by_schema/navbyschema/regex/UnitRuns") (Or.inl (wd hw 143 rfl)) (Or.inl (wd hw 131 rfl)) (by decide) (t := .int) (t' := (.object "com/example/nav_by_schema/navbyschema/regex/CodeUnitSet")) (by decide) (by decide)))
  have F124_unitsRead := F123_unitsRead.other W124 (Or.inr (slot_ne (C := "com/example/nav_by_schema/navbyschema/regex/UnitRuns") (Or.inl (wd hw 178 rfl)) (Or.inl (wd hw 131 rfl)) (by decide) (t := .long) (t' := (.object "com/example/nav_by_schema/navbyschema/regex/CodeUnitSet")) (by decide) (by decide)))
  have AM124 := AM123.other W124 d2
  have AN124 := AN123.other W124 d3
  have Zh124 : n0 ≤ h124.size := by rw [W124.size]; exact Zh123
  refine g_aload_n (i := 0) X124 hx (hb hby d36_10) (by rfl) rfl rfl ?_
  refine g_getF X124 hx hZ hown (wd hw 117 rfl) e124 F124_next (hb hby d36_11) rfl ?_
  intro T125 X125 e125
  refine g_arraylengthI X125 hx hZ e125 AN124 (z := n.toInt32) rfl (hb hby d36_14) rfl ?_
  refine g_sipush (v := (4096 : Int32)) X125 hx (hb hby d36_15) (by decide) rfl ?_
  refine g_icmp_le X125 hx (hb hby d36_18) (by decide) (pt := 40) (by decide) rfl (fun _ => ?_) (fun q_ => absurd q_ (by rw [own_ltI, hl, show (4096 : Int32).toInt = 4096 from rfl]; omega))
  exact g_ret X125 hx hlk hret e125 (by decide) (by decide) (hb hby d36_40) ⟨rfl, N124, ⟨E124_, F124_text, F124_set, F124_members, F124_next, F124_touched, F124_unitsRead, AM124, AN124, d1, d2, d3, g1, g2, g3, Zh124⟩⟩
theorem ef_rm_ui (m : MethodId) (x0 : Addr)  : entryFrame m #[(.ref x0)] 1 = mkF m 0 #[.val (.ref x0)] [] := by first | (simp [entryFrame, mkF, argsToLocals, Value.category]; done) | rfl
theorem pn_126 : plainFor (⟨"com/example/nav_by_schema/navbyschema/regex/UnitRuns", "<init>", "()V"⟩ : MethodName) = true := by first | exact plainFor_of_name (by first | (simp [plainName, overriddenIn]; done) | decide +kernel) | decide +kernel
set_option maxRecDepth 65536 in
set_option maxHeartbeats 40000000 in
theorem rm_ui (l : Launch) (Z : State) (a0 : Array Value) (hw : ∀ d ∈ tables_1, d.before a0 Z = true) (a : Addr) (n0 : Nat) (h0 : Heap) (g1 : n0 ≤ a) (Z0 : n0 ≤ h0.size) (E : Exa Z h0 a "com/example/nav_by_schema/navbyschema/regex/UnitRuns") (F_text : Fld Z h0 a "com/example/nav_by_schema/navbyschema/regex/UnitRuns" "text" "Ljava/lang/String;" .null) (F_set : Fld Z h0 a "com/example/nav_by_schema/navbyschema/regex/UnitRuns" "set" "Lcom/example/nav_by_schema/navbyschema/regex/CodeUnitSet;" .null) (F_members : Fld Z h0 a "com/example/nav_by_schema/navbyschema/regex/UnitRuns" "members" "[J" .null) (F_next : Fld Z h0 a "com/example/nav_by_schema/navbyschema/regex/UnitRuns" "next" "[I" .null) (F_touched : Fld Z h0 a "com/example/nav_by_schema/navbyschema/regex/UnitRuns" "touched" "I" (.int 0)) (F_unitsRead : Fld Z h0 a "com/example/nav_by_schema/navbyschema/regex/UnitRuns" "unitsRead" "J" (.long 0)) :
    Ctr l Z (⟨"com/example/nav_by_schema/navbyschema/regex/UnitRuns", "<init>", "()V"⟩ : MethodName) prog_27_method_1_code 1 (Option.none : Option FieldType) [] ({ frames := 1, cells := 2, slots := 0, locals := 12 } : Room) ({ frames := 1, cells := 2, slots := 0, locals := 12 } : Room).cells ({ frames := 1, cells := 2, slots := 0, locals := 12 } : Room).slots #[(.ref a)] h0 (fun u h L => u = none ∧ Fr n0 L ∧ Keep h0 h [a] ∧ ∃ mb nb, own_U Z h a n0 .null .null mb nb 0 (fun _ => 0) (fun _ => 0) 0 0) := by
  refine Ctr.of pn_126 ?_
  intro p e s m below meth c s₁ hx hby hml hown hnm hret hlk hZ X0 e0
  refine Goes.cast (ef_rm_ui m a) ?_
  refine g_aload_n (i := 0) X0 hx (hb hby d20_0) (by rfl) rfl rfl ?_
  refine g_initO X0 hx hZ hown (wd hw 114 rfl) (wd hw 12 rfl) (wd hw 13 rfl) e0 (by rw [hml]; rfl) (hb hby d20_1) rfl (by decide) (by decide) ?_
  intro T127 X127 e127
  have K0 := Keep.refl h0 [a]
  refine g_aload_n (i := 0) X127 hx (hb hby d20_4) (by rfl) rfl rfl ?_
  refine g_iconst (v := (0 : Int32)) X127 hx (hb hby d20_5) (by decide) rfl ?_
  refine g_newarr X127 hx hZ (ty := .long) rfl (wd hw 68 rfl) e127 (hb hby d20_6) rfl (by decide) 0 (by decide) (by decide) (by decide) (by decide) ?_
  intro T128 h128 cA128 a128 X128 e128 g128 Ex128 A128
  have Am1 : ArJ Z h128 a128 .long 0 (fun _ => 0) := ArJ.new A128 0 rfl
  have dn2 : a128 ≠ a := fun q => absurd E.lt (by rw [← q, g128]; exact Nat.lt_irrefl _)
  have F128_text := F_text.ext Ex128
  have F128_set := F_set.ext Ex128
  have F128_members := F_members.ext Ex128
  have F128_next := F_next.ext Ex128
  have F128_touched := F_touched.ext Ex128
  have F128_unitsRead := F_unitsRead.ext Ex128
  have E1 := E.ext Ex128
  have K1 := K0.ext Ex128
  have gn1 : n0 ≤ a128 := by rw [g128]; exact Z0
  have Z1 : n0 ≤ h128.size := Nat.le_trans Z0 Ex128.1
  refine g_putF X128 hx hZ hown (wd hw 115 rfl) e128 F128_members E1 (Or.inl (wd hw 116 rfl)) (wd hw 109 rfl) (ty := (.array .long)) (by decide) rfl rfl (hb hby d20_8) rfl ?_
  intro T129 h129 X129 e129 W129
  have N129 := Fr.snoc X129 (Fr.nil n0) g1
  have E129_ := E1.wr W129
  have F129_text := F128_text.other W129 (Or.inr (slot_ne (C := "com/example/nav_by_schema/navbyschema/regex/UnitRuns") (Or.inl (wd hw 125 rfl)) (Or.inl (wd hw 116 rfl)) (by decide) (t := (.object "java/lang/String")) (t' := (.array .long)) (by decide) (by decide)))
  have F129_set := F128_set.other W129 (Or.inr (slot_ne (C := "com/example/nav_by_schema/navbyschema/regex/UnitRuns") (Or.inl (wd hw 131 rfl)) (Or.inl (wd hw 116 rfl)) (by decide) (t := (.object "com/example/nav_by_schema/navbyschema/regex/CodeUnitSet")) (t' := (.array .long)) (by decide) (by decide)))
  have F129_members := F128_members.same W129
  have F129_next := F128_next.other W129 (Or.inr (slot_ne (C := "com/example/nav_by_schema/navbyschema/regex/UnitRuns") (Or.inl (wd hw 118 rfl)) (Or.inl (wd hw 116 rfl)) (by decide) (t := (.array .int)) (t' := (.array .long)) (by decide) (by decide)))
  have F129_touched := F128_touched.other W129 (Or.inr (slot_ne (C := "com/example/nav_by_schema/navbyschema/regex/UnitRuns") (Or.inl (wd hw 143 rfl)) (Or.inl (wd hw 116 rfl)) (by decide) (t := .int) (t' := (.array .long)) (by decide) (by decide)))
  have F129_unitsRead := F128_unitsRead.other W129 (Or.inr (slot_ne (C := "com/example/nav_by_schema/navbyschema/regex/UnitRuns") (Or.inl (wd hw 178 rfl)) (Or.inl (wd hw 116 rfl)) (by decide) (t := .long) (t' := (.array .long)) (by decide) (by decide)))
  have K129 := K1.wr W129 (Or.inl (List.mem_singleton.mpr rfl))
  have Am2 := Am1.other W129 dn2
  have Z2 : n0 ≤ h129.size := by rw [W129.size]; exact Z1
  refine g_aload_n (i := 0) X129 hx (hb hby d20_11) (by rfl) rfl rfl ?_
  refine g_iconst (v := (0 : Int32)) X129 hx (hb hby d20_12) (by decide) rfl ?_
  refine g_newarr X129 hx hZ (ty := .int) rfl (wd hw 53 rfl) e129 (hb hby d20_13) rfl (by decide) 0 (by decide) (by decide) (by decide) (by decide) ?_
  intro T130 h130 cA130 a130 X130 e130 g130 Ex130 A130
  have An1 : ArI Z h130 a130 .int 0 (fun _ => 0) := ArI.new A130 0 rfl
  have dn3 : a130 ≠ a := fun q => absurd E129_.lt (by rw [← q, g130]; exact Nat.lt_irrefl _)
  have dn1 : a128 ≠ a130 := fun q => absurd Am2.lt (by rw [q, g130]; exact Nat.lt_irrefl _)
  have F130_text := F129_text.ext Ex130
  have F130_set := F129_set.ext Ex130
  have F130_members := F129_members.ext Ex130
  have F130_next := F129_next.ext Ex130
  have F130_touched := F129_touched.ext Ex130
  have F130_unitsRead := F129_unitsRead.ext Ex130
  have EE130 := E129_.ext Ex130
  have KK130 := K129.ext Ex130
  have Am3 := Am2.ext Ex130
  have gn2 : n0 ≤ a130 := by rw [g130]; exact Z2
  have Z3 : n0 ≤ h130.size := Nat.le_trans Z2 Ex130.1
  refine g_putF X130 hx hZ hown (wd hw 117 rfl) e130 F130_next EE130 (Or.inl (wd hw 118 rfl)) (wd hw 109 rfl) (ty := (.array .int)) (by decide) rfl rfl (hb hby d20_15) rfl ?_
  intro T131 h131 X131 e131 W131
  have N131 := Fr.snoc X131 N129 g1
  have E131_ := EE130.wr W131
  have F131_text := F130_text.other W131 (Or.inr (slot_ne (C := "com/example/nav_by_schema/navbyschema/regex/UnitRuns") (Or.inl (wd hw 125 rfl)) (Or.inl (wd hw 118 rfl)) (by decide) (t := (.object "java/lang/String")) (t' := (.array .int)) (by decide) (by decide)))
  have F131_set := F130_set.other W131 (Or.inr (slot_ne (C := "com/example/nav_by_schema/navbyschema/regex/UnitRuns") (Or.inl (wd hw 131 rfl)) (Or.inl (wd hw 118 rfl)) (by decide) (t := (.object "com/example/nav_by_schema/navbyschema/regex/CodeUnitSet")) (t' := (.array .int)) (by decide) (by decide)))
  have F131_members := F130_members.other W131 (Or.inr (slot_ne (C := "com/example/nav_by_schema/navbyschema/regex/UnitRuns") (Or.inl (wd hw 116 rfl)) (Or.inl (wd hw 118 rfl)) (by decide) (t := (.array .long)) (t' := (.array .int)) (by decide) (by decide)))
  have F131_next := F130_next.same W131
  have F131_touched := F130_touched.other W131 (Or.inr (slot_ne (C := "com/example/nav_by_schema/navbyschema/regex/UnitRuns") (Or.inl (wd hw 143 rfl)) (Or.inl (wd hw 118 rfl)) (by decide) (t := .int) (t' := (.array .int)) (by decide) (by decide)))
  have F131_unitsRead := F130_unitsRead.other W131 (Or.inr (slot_ne (C := "com/example/nav_by_schema/navbyschema/regex/UnitRuns") (Or.inl (wd hw 178 rfl)) (Or.inl (wd hw 118 rfl)) (by decide) (t := .long) (t' := (.array .int)) (by decide) (by decide)))
  have K131 := KK130.wr W131 (Or.inl (List.mem_singleton.mpr rfl))
  have AM131 := Am3.other W131 dn2
  have AN131 := An1.other W131 dn3
  have Zh131 : n0 ≤ h131.size := by rw [W131.size]; exact Z3
  exact g_ret X131 hx hlk hret e131 (by decide) (by decide) (hb hby d20_18) ⟨rfl, N131, K131, a128, a130, ⟨E131_, F131_text, F131_set, F131_members, F131_next, F131_touched, F131_unitsRead, AM131, AN131, dn1, dn2, dn3, g1, gn1, gn2, Zh131⟩⟩
def own_str (Z : State) (h : Heap) (ta tb : Addr) (bf : Nat → Int32) : Prop := Exa Z h ta "java/lang/String" ∧ Fld Z h ta "java/lang/String" "coder" "B" (.int 0) ∧ Fld Z h ta "java/lang/String" "value" "[B" (.ref tb) ∧ ArI Z h tb .byte 4 bf
theorem own_str.ext {Z : State} {h h' : Heap} {ta tb : Addr} {bf : Nat → Int32} (F : own_str Z h ta tb bf) (E : Ext h h') : own_str Z h' ta tb bf := ⟨F.1.ext E, F.2.1.ext E, F.2.2.1.ext E, F.2.2.2.ext E⟩
def own_cus (Z : State) (h : Heap) (a ra : Addr) (lo hi : Int32) : Prop := Exa Z h a "com/example/nav_by_schema/navbyschema/regex/CodeUnitSet" ∧ Fld Z h a "com/example/nav_by_schema/navbyschema/regex/CodeUnitSet" "ranges" "[I" (.ref ra) ∧ ∃ lw hg, Fld Z h a "com/example/nav_by_schema/navbyschema/regex/CodeUnitSet" "low" "J" (.long lw) ∧ Fld Z h a "com/example/nav_by_schema/navbyschema/regex/CodeUnitSet" "high" "J" (.long hg) ∧ (∀ b : Nat, b < 64 → (own_tb lw b ↔ lo.toInt ≤ (b : Int) ∧ (b : Int) ≤ hi.toInt)) ∧ (∀ b : Nat, b < 64 → (own_tb hg b ↔ lo.toInt ≤ (b : Int) + 64 ∧ (b : Int) + 64 ≤ hi.toInt))
theorem own_cus.ext {Z : State} {h h' : Heap} {a ra : Addr} {lo hi : Int32} (F : own_cus Z h a ra lo hi) (E : Ext h h') : own_cus Z h' a ra lo hi := by
  obtain ⟨q1, q2, lw, hg, q3, q4, q5⟩ := F
  exact ⟨q1.ext E, q2.ext E, lw, hg, q3.ext E, q4.ext E, q5⟩
theorem own_extw {hI h h' : Heap} {a : Addr} {sl : Nat} {v : Value} (E : Ext hI h) (W : Wr h h' a sl v) (g : hI.size ≤ a) : Ext hI h' := own_ext3 E (Keep.of_wr W) (fun x hx => by rw [List.mem_singleton.mp hx]; exact g)
theorem own_frm {n n' : Nat} {L : List Loc} (q : n ≤ n') (N : Fr n' L) : Fr n L := fun y hy => Nat.le_trans q (N y hy)
def own_W (Z : State) (hI : Heap) (ta tb sa ra : Addr) (lo hi cs : Int32) (sf : Value) (gc fr : Nat → Int32) : Prop :=
  Sta Z hI "java/lang/String" "COMPACT_STRINGS" "Z" (.int cs) ∧ ¬ cs = 0 ∧ Sta Z hI "jdk/internal/util/Preconditions" "SIOOBE_FORMATTER" "Ljava/util/function/BiFunction;" sf ∧ sf.isRef = true ∧ sf.category = 1 ∧ own_str Z hI ta tb (fun i => (gc i).toInt8.toInt32) ∧ fr 0 = lo ∧ fr 1 = hi ∧ ArI Z hI ra .int 2 fr ∧ own_cus Z hI sa ra lo hi ∧ (∀ i, i < 4 → 0 ≤ (gc i).toInt ∧ (gc i).toInt ≤ 255)
theorem ef_rm_cod (m : MethodId) (x0 : Addr)  : entryFrame m #[(.ref x0)] 1 = mkF m 0 #[.val (.ref x0)] [] := by first | (simp [entryFrame, mkF, argsToLocals, Value.category]; done) | rfl
theorem pn_132 : plainFor (⟨"java/lang/String", "coder", "()B"⟩ : MethodName) = true := by first | exact plainFor_of_name (by first | (simp [plainName, overriddenIn]; done) | decide +kernel) | decide +kernel
set_option maxRecDepth 65536 in
set_option maxHeartbeats 40000000 in
theorem rm_cod (l : Launch) (Z : State) (a0 : Array Value) (hw : ∀ d ∈ tables_1, d.before a0 Z = true) (a : Addr) (h0 : Heap) (cs : Int32) (S_cs : Sta Z h0 "java/lang/String" "COMPACT_STRINGS" "Z" (.int cs)) (hcs : ¬ cs = 0) (Fc : Fld Z h0 a "java/lang/String" "coder" "B" (.int 0)) :
    Ctr l Z (⟨"java/lang/String", "coder", "()B"⟩ : MethodName) jdk_42_method_152_code 1 (Option.some FieldType.byte) [] ({ frames := 0, cells := 0, slots := 0, locals := 0 } : Room) ({ frames := 0, cells := 0, slots := 0, locals := 0 } : Room).cells ({ frames := 0, cells := 0, slots := 0, locals := 0 } : Room).slots #[(.ref a)] h0 (fun u h L => u = some (.int 0) ∧ L = [] ∧ h = h0) := by
  refine Ctr.of pn_132 ?_
  intro p e s m below meth c s₁ hx hby hml hown hnm hret hlk hZ X0 e0
  refine Goes.cast (ef_rm_cod m a) ?_
  refine g_getS X0 hx hZ hown (wd hw 14 rfl) e0 S_cs (hb hby d24_0) rfl ?_
  intro T133 X133 e133
  refine g_if_eq X133 hx (hb hby d24_3) (by decide) (pt := 13) (by decide) rfl (fun q_ => absurd q_ (hcs)) (fun _ => ?_)
  refine g_aload_n (i := 0) X133 hx (hb hby d24_6) (by rfl) rfl rfl ?_
  refine g_getF X133 hx hZ hown (wd hw 26 rfl) e133 Fc (hb hby d24_7) rfl ?_
  intro T134 X134 e134
  refine g_goto X134 hx (hb hby d24_10) (by decide) (by decide) (pc' := 14) ?_
  exact g_retN X134 hx (t := .byte) (by simp) hlk hret e134 (by decide) (by decide) (hb hby d24_14) ⟨rfl, rfl, rfl⟩
theorem ef_rm_len (m : MethodId) (x0 : Addr)  : entryFrame m #[(.ref x0)] 1 = mkF m 0 #[.val (.ref x0)] [] := by first | (simp [entryFrame, mkF, argsToLocals, Value.category]; done) | rfl
theorem pn_135 : plainFor (⟨"java/lang/String", "length", "()I"⟩ : MethodName) = true := by first | exact plainFor_of_name (by first | (simp [plainName, overriddenIn]; done) | decide +kernel) | decide +kernel
theorem pd_137 : parseMethodDescriptor "()B" = some ⟨[], some .byte⟩ := by decide +kernel
set_option maxRecDepth 65536 in
set_option maxHeartbeats 40000000 in
theorem rm_len (l : Launch) (Z : State) (a0 : Array Value) (hw : ∀ d ∈ tables_1, d.before a0 Z = true) (ta tb : Addr) (bf : Nat → Int32) (h0 : Heap) (cs : Int32) (S_cs : Sta Z h0 "java/lang/String" "COMPACT_STRINGS" "Z" (.int cs)) (hcs : ¬ cs = 0) (F : own_str Z h0 ta tb bf) :
    Ctr l Z (⟨"java/lang/String", "length", "()I"⟩ : MethodName) jdk_42_method_54_code 1 (Option.some FieldType.int) [] ({ frames := 1, cells := 0, slots := 0, locals := 13 } : Room) ({ frames := 1, cells := 0, slots := 0, locals := 13 } : Room).cells ({ frames := 1, cells := 0, slots := 0, locals := 13 } : Room).slots #[(.ref ta)] h0 (fun u h L => u = some (.int 4) ∧ L = [] ∧ h = h0) := by
  refine Ctr.of pn_135 ?_
  intro p e s m below meth c s₁ hx hby hml hown hnm hret hlk hZ X0 e0
  refine Goes.cast (ef_rm_len m ta) ?_
  refine g_aload_n (i := 0) X0 hx (hb hby d23_0) (by rfl) rfl rfl ?_
  refine g_getF X0 hx hZ hown (wd hw 28 rfl) e0 F.2.2.1 (hb hby d23_1) rfl ?_
  intro T136 X136 e136
  refine g_arraylengthI X136 hx hZ e136 F.2.2.2 (z := (4 : Int32)) (show _ = (4 : Int32) by decide) (hb hby d23_4) rfl ?_
  refine g_aload_n (i := 0) X136 hx (hb hby d23_5) (by rfl) rfl rfl ?_
  refine g_callV X136 hx hZ hown (wd hw 137 rfl) (wd hw 138 rfl) (wd hw 140 rfl) (wd hw 139 rfl) (wd hw 3 rfl) (wd hw 141 rfl) (by decide) e136 ta F.1 (rm_cod l Z a0 hw ta h0 cs S_cs hcs F.2.1) (by rw [hml]; rfl) [] [(.int (4 : Int32))] rfl (lenOf pd_137 rfl) rfl (by show 1 + (1 + 11) + 0 ≤ _; decide) (by decide) (by decide) (by decide) (hb hby d23_6) rfl ?_
  intro T137 v137 L137 X137 hQ137
  obtain ⟨rfl, rfl, e137⟩ := hQ137
  show Goes p e below _ T137 (mkF m 9 #[.val (.ref ta)] [(.int (0 : Int32)), (.int (4 : Int32))])
  refine g_ishr X137 hx (hb hby d23_9) rfl ?_
  exact g_retI X137 hx hlk hret e137 (by decide) (by decide) (hb hby d23_10) ⟨by decide, rfl, rfl⟩
theorem ef_rm_rc (m : MethodId) (x0 : Int32) (x1 : Int32) (x2 : Int32)  : entryFrame m #[(.int x0), (.int x1), (.int x2)] 3 = mkF m 0 #[.val (.int x0), .val (.int x1), .val (.int x2)] [] := by first | (simp [entryFrame, mkF, argsToLocals, Value.category]; done) | rfl
theorem pn_138 : plainFor (⟨"java/util/Arrays", "rangeCheck", "(III)V"⟩ : MethodName) = true := by first | exact plainFor_of_name (by first | (simp [plainName, overriddenIn]; done) | decide +kernel) | decide +kernel
set_option maxRecDepth 65536 in
set_option maxHeartbeats 40000000 in
theorem rm_rc (l : Launch) (Z : State) (a0 : Array Value) (hw : ∀ d ∈ tables_1, d.before a0 Z = true) (h0 : Heap) :
    Ctr l Z (⟨"java/util/Arrays", "rangeCheck", "(III)V"⟩ : MethodName) jdk_65_method_30_code 3 (Option.none : Option FieldType) [] ({ frames := 0, cells := 0, slots := 0, locals := 0 } : Room) ({ frames := 0, cells := 0, slots := 0, locals := 0 } : Room).cells ({ frames := 0, cells := 0, slots := 0, locals := 0 } : Room).slots #[(.int (1 : Int32)), (.int (0 : Int32)), (.int (1 : Int32))] h0 (fun u h L => u = none ∧ L = [] ∧ h = h0) := by
  refine Ctr.of pn_138 ?_
  intro p e s m below meth c s₁ hx hby hml hown hnm hret hlk hZ X0 e0
  refine Goes.cast (ef_rm_rc m (1 : Int32) (0 : Int32) (1 : Int32)) ?_
  refine g_iload_n (i := 1) X0 hx (hb hby d38_0) (by rfl) rfl ?_
  refine g_iload_n (i := 2) X0 hx (hb hby d38_1) (by rfl) rfl ?_
  refine g_icmp_le X0 hx (hb hby d38_2) (by decide) (pt := 46) (by decide) rfl (fun _ => ?_) (fun q_ => absurd q_ (by decide))
  refine g_iload_n (i := 1) X0 hx (hb hby d38_46) (by rfl) rfl ?_
  refine g_if_ge X0 hx (hb hby d38_47) (by decide) (pt := 59) (by decide) rfl (fun _ => ?_) (fun q_ => absurd q_ (by decide))
  refine g_iload_n (i := 2) X0 hx (hb hby d38_59) (by rfl) rfl ?_
  refine g_iload_n (i := 0) X0 hx (hb hby d38_60) (by rfl) rfl ?_
  refine g_icmp_le X0 hx (hb hby d38_61) (by decide) (pt := 73) (by decide) rfl (fun _ => ?_) (fun q_ => absurd q_ (by decide))
  exact g_ret X0 hx hlk hret e0 (by decide) (by decide) (hb hby d38_73) ⟨rfl, rfl, rfl⟩
theorem ef_rm_fl (m : MethodId) (x0 : Addr) (x1 : Int32) (x2 : Int32) (x3 : Int32)  : entryFrame m #[(.ref x0), (.int x1), (.int x2), (.int x3)] 5 = mkF m 0 #[.val (.ref x0), .val (.int x1), .val (.int x2), .val (.int x3), .unset] [] := by first | (simp [entryFrame, mkF, argsToLocals, Value.category]; done) | rfl
theorem pn_139 : plainFor (⟨"java/util/Arrays", "fill", "([IIII)V"⟩ : MethodName) = true := by first | exact plainFor_of_name (by first | (simp [plainName, overriddenIn]; done) | decide +kernel) | decide +kernel
theorem pd_140 : parseMethodDescriptor "(III)V" = some ⟨[.int, .int, .int], none⟩ := by decide +kernel
set_option maxRecDepth 65536 in
set_option maxHeartbeats 40000000 in
theorem rm_fl (l : Launch) (Z : State) (a0 : Array Value) (hw : ∀ d ∈ tables_1, d.before a0 Z = true) (b : Addr) (f : Nat → Int32) (h0 : Heap) (n0 : Nat) (gb : n0 ≤ b) (Ab : ArI Z h0 b .int 1 f) :
    Ctr l Z (⟨"java/util/Arrays", "fill", "([IIII)V"⟩ : MethodName) jdk_65_method_104_code 5 (Option.none : Option FieldType) [] ({ frames := 1, cells := 0, slots := 0, locals := 14 } : Room) ({ frames := 1, cells := 0, slots := 0, locals := 14 } : Room).cells ({ frames := 1, cells := 0, slots := 0, locals := 14 } : Room).slots #[(.ref b), (.int (0 : Int32)), (.int (1 : Int32)), (.int (0 : Int32))] h0 (fun u h L => u = none ∧ Fr n0 L ∧ Keep h0 h [b] ∧ ArI Z h b .int 1 (fun k => if k = 0 then 0 else f k)) := by
  refine Ctr.of pn_139 ?_
  intro p e s m below meth c s₁ hx hby hml hown hnm hret hlk hZ X0 e0
  refine Goes.cast (ef_rm_fl m b (0 : Int32) (1 : Int32) (0 : Int32)) ?_
  refine g_aload_n (i := 0) X0 hx (hb hby d37_0) (by rfl) rfl rfl ?_
  refine g_arraylengthI X0 hx hZ e0 Ab (z := (1 : Int32)) (show _ = (1 : Int32) by decide) (hb hby d37_1) rfl ?_
  refine g_iload_n (i := 1) X0 hx (hb hby d37_2) (by rfl) rfl ?_
  refine g_iload_n (i := 2) X0 hx (hb hby d37_3) (by rfl) rfl ?_
  refine g_callS X0 hx hZ hown (wd hw 205 rfl) (wd hw 206 rfl) (wd hw 71 rfl) (wd hw 207 rfl) (by decide) e0 (rm_rc l Z a0 hw h0) (by rw [hml]; rfl) [(.int (1 : Int32)), (.int (0 : Int32)), (.int (1 : Int32))] [] rfl (lenOf pd_140 rfl) rfl (by show 0 + (3 + 11) + 0 ≤ _; decide) (by decide) (by decide) (by decide) (hb hby d37_4) rfl ?_
  intro T140 v140 L140 X140 hQ140
  obtain ⟨rfl, rfl, e140⟩ := hQ140
  have N140 := Fr.app (Fr.nil n0) (Fr.nil n0)
  show Goes p e below _ T140 (mkF m 7 #[.val (.ref b), .val (.int (0 : Int32)), .val (.int (1 : Int32)), .val (.int (0 : Int32)), .unset] [])
  refine g_iload_n (i := 1) X140 hx (hb hby d37_7) (by rfl) rfl ?_
  refine g_istore (i := 4) X140 hx #[.val (.ref b), .val (.int (0 : Int32)), .val (.int (1 : Int32)), .val (.int (0 : Int32)), .val (.int (0 : Int32))] (hb hby d37_8) rfl rfl ?_
  refine g_iload (i := 4) X140 hx (hb hby d37_10) (by rfl) rfl ?_
  refine g_iload_n (i := 2) X140 hx (hb hby d37_12) (by rfl) rfl ?_
  refine g_icmp_ge X140 hx (hb hby d37_13) (by decide) (pt := 27) (by decide) rfl (fun q_ => absurd (by decide) q_) (fun _ => ?_)
  refine g_aload_n (i := 0) X140 hx (hb hby d37_16) (by rfl) rfl rfl ?_
  refine g_iload (i := 4) X140 hx (hb hby d37_17) (by rfl) rfl ?_
  refine g_iload_n (i := 3) X140 hx (hb hby d37_19) (by rfl) rfl ?_
  refine g_iastoreN X140 hx hZ e140 Ab 0 (by decide) (by decide) (by decide) (hb hby d37_20) rfl ?_
  intro T141 h141 X141 e141 W141 Ar141
  have N141 := Fr.snoc X141 N140 gb
  refine g_iinc (i := 4) (x := (0 : Int32)) (y := (1 : Int32)) X141 hx #[.val (.ref b), .val (.int (0 : Int32)), .val (.int (1 : Int32)), .val (.int (0 : Int32)), .val (.int (1 : Int32))] (hb hby d37_21) (by rfl) (by decide) rfl rfl ?_
  refine g_goto X141 hx (hb hby d37_24) (by decide) (by decide) (pc' := 10) ?_
  refine g_iload (i := 4) X141 hx (hb hby d37_10) (by rfl) rfl ?_
  refine g_iload_n (i := 2) X141 hx (hb hby d37_12) (by rfl) rfl ?_
  refine g_icmp_ge X141 hx (hb hby d37_13) (by decide) (pt := 27) (by decide) rfl (fun _ => ?_) (fun q_ => absurd q_ (by decide))
  exact g_ret X141 hx hlk hret e141 (by decide) (by decide) (hb hby d37_27) ⟨rfl, N141, (Keep.refl h0 [b]).wr W141 (Or.inl (List.mem_singleton.mpr rfl)), Ar141⟩
theorem ef_rm_ul2 (m : MethodId) (x0 : Addr)  : entryFrame m #[(.ref x0)] 1 = mkF m 0 #[.val (.ref x0)] [] := by first | (simp [entryFrame, mkF, argsToLocals, Value.category]; done) | rfl
set_option maxRecDepth 65536 in
set_option maxHeartbeats 40000000 in
theorem rm_ul2 (l : Launch) (Z : State) (a0 : Array Value) (hw : ∀ d ∈ tables_1, d.before a0 Z = true) (a : Addr) (n0 : Nat) (tv sv : Value) (mb nb : Addr) (n : Nat) (fm : Nat → Int64) (fn : Nat → Int32) (tc : Int32) (ur : Int64) (h0 : Heap) (H : own_U Z h0 a n0 tv sv mb nb n fm fn tc ur) (hn : n ≤ 1) (hI : Heap) (EI : Ext hI h0) (nI : hI.size ≤ n0) :
    Ctr l Z (⟨"com/example/nav_by_schema/navbyschema/regex/UnitRuns", "release", "()V"⟩ : MethodName) prog_27_method_4_code 1 (Option.none : Option FieldType) [] ({ frames := 0, cells := 0, slots := 0, locals := 0 } : Room) ({ frames := 0, cells := 0, slots := 0, locals := 0 } : Room).cells ({ frames := 0, cells := 0, slots := 0, locals := 0 } : Room).slots #[(.ref a)] h0 (fun u h L => u = none ∧ Fr n0 L ∧ Ext hI h ∧ own_U Z h a n0 .null .null mb nb n fm fn tc ur) := by
  refine Ctr.of pn_122 ?_
  intro p e s m below meth c s₁ hx hby hml hown hnm hret hlk hZ X0 e0
  refine Goes.cast (ef_rm_ul2 m a) ?_
  obtain ⟨E, F_text, F_set, F_members, F_next, F_touched, F_unitsRead, AM, AN, d1, d2, d3, g1, g2, g3, g4⟩ := H
  have hl : (n.toInt32).toInt = (n : Int) := len_toInt (by omega)
  refine g_aload_n (i := 0) X0 hx (hb hby d36_0) (by rfl) rfl rfl ?_
  refine g_aconst_null X0 hx (hb hby d36_1) rfl ?_
  refine g_putF X0 hx hZ hown (wd hw 124 rfl) e0 F_text E (Or.inl (wd hw 125 rfl)) (wd hw 109 rfl) (ty := (.object "java/lang/String")) (by decide) rfl rfl (hb hby d36_2) rfl ?_
  intro T143 h143 X143 e143 W143
  have N143 := Fr.snoc X143 (Fr.nil n0) g1
  have E143_ := E.wr W143
  have F143_text := F_text.same W143
  have F143_set := F_set.other W143 (Or.inr (slot_ne (C := "com/example/nav_by_schema/navbyschema/regex/UnitRuns") (Or.inl (wd hw 131 rfl)) (Or.inl (wd hw 125 rfl)) (by decide) (t := (.object "com/example/nav_by_schema/navbyschema/regex/CodeUnitSet")) (t' := (.object "java/lang/String")) (by decide) (by decide)))
  have F143_members := F_members.other W143 (Or.inr (slot_ne (C := "com/example/nav_by_schema/navbyschema/regex/UnitRuns") (Or.inl (wd hw 116 rfl)) (Or.inl (wd hw 125 rfl)) (by decide) (t := (.array .long)) (t' := (.object "java/lang/String")) (by decide) (by decide)))
  have F143_next := F_next.other W143 (Or.inr (slot_ne (C := "com/example/nav_by_schema/navbyschema/regex/UnitRuns") (Or.inl (wd hw 118 rfl)) (Or.inl (wd hw 125 rfl)) (by decide) (t := (.array .int)) (t' := (.object "java/lang/String")) (by decide) (by decide)))
  have F143_touched := F_touched.other W143 (Or.inr (slot_ne (C := "com/example/nav_by_schema/navbyschema/regex/UnitRuns") (Or.inl (wd hw 143 rfl)) (Or.inl (wd hw 125 rfl)) (by decide) (t := .int) (t' := (.object "java/lang/String")) (by decide) (by decide)))
  have F143_unitsRead := F_unitsRead.other W143 (Or.inr (slot_ne (C := "com/example/nav_by_schema/navbyschema/regex/UnitRuns") (Or.inl (wd hw 178 rfl)) (Or.inl (wd hw 125 rfl)) (by decide) (t := .long) (t' := (.object "java/lang/String")) (by decide) (by decide)))
  have AM143 := AM.other W143 d2
  have AN143 := AN.other W143 d3
  have Zh143 : n0 ≤ h143.size := by rw [W143.size]; exact g4
  have EI143 := own_extw EI W143 (Nat.le_trans nI g1)
  refine g_aload_n (i := 0) X143 hx (hb hby d36_5) (by rfl) rfl rfl ?_
  refine g_aconst_null X143 hx (hb hby d36_6) rfl ?_
  refine g_putF X143 hx hZ hown (wd hw 130 rfl) e143 F143_set E143_ (Or.inl (wd hw 131 rfl)) (wd hw 109 rfl) (ty := (.object "com/example/nav_by_schema/navbyschema/regex/CodeUnitSet")) (by decide) rfl rfl (hb hby d36_7) rfl ?_
  intro T144 h144 X144 e144 W144
  have N144 := Fr.snoc X144 N143 g1
  have E144_ := E143_.wr W144
  have F144_text := F143_text.other W144 (Or.inr (slot_ne (C := "com/example/nav_by_schema/navbyschema/regex/UnitRuns") (Or.inl (wd hw 125 rfl)) (Or.inl (wd hw 131 rfl)) (by decide) (t := (.object "java/lang/String")) (t' := (.object "com/example/nav_by_schema/navbyschema/regex/CodeUnitSet")) (by decide) (by decide)))
  have F144_set := F143_set.same W144
  have F144_members := F143_members.other W144 (Or.inr (slot_ne (C := "com/example/nav_by_schema/navbyschema/regex/UnitRuns") (Or.inl (wd hw 116 rfl)) (Or.inl (wd hw 131 rfl)) (by decide) (t := (.array .long)) (t' := (.object "com/example/nav_by_schema/navbyschema/regex/CodeUnitSet")) (by decide) (by decide)))
  have F144_next := F143_next.other W144 (Or.inr (slot_ne (C := "com/example/nav_by_schema/navbyschema/regex/UnitRuns") (Or.inl (wd hw 118 rfl)) (Or.inl (wd hw 131 rfl)) (by decide) (t := (.array .int)) (t' := (.object "com/example/nav_by_schema/navbyschema/regex/CodeUnitSet")) (by decide) (by decide)))
  have F144_touched := F143_touched.other W144 (Or.inr (slot_ne (C := "com/example/nav_by_schema/navbyschema/regex/UnitRuns") (Or.inl (wd hw 143 rfl)) (Or.inl (wd hw 131 rfl)) (by decide) (t := .int) (t' := (.object "com/example/nav_by_schema/navbyschema/regex/CodeUnitSet")) (by decide) (by decide)))
  have F144_unitsRead := F143_unitsRead.other W144 (Or.inr (slot_ne (C := "com/example/nav_by_schema/navbyschema/regex/UnitRuns") (Or.inl (wd hw 178 rfl)) (Or.inl (wd hw 131 rfl)) (by decide) (t := .long) (t' := (.object "com/example/nav_by_schema/navbyschema/regex/CodeUnitSet")) (by decide) (by decide)))
  have AM144 := AM143.other W144 d2
  have AN144 := AN143.other W144 d3
  have Zh144 : n0 ≤ h144.size := by rw [W144.size]; exact Zh143
  have EI144 := own_extw EI143 W144 (Nat.le_trans nI g1)
  refine g_aload_n (i := 0) X144 hx (hb hby d36_10) (by rfl) rfl rfl ?_
  refine g_getF X144 hx hZ hown (wd hw 117 rfl) e144 F144_next (hb hby d36_11) rfl ?_
  intro T145 X145 e145
  refine g_arraylengthI X145 hx hZ e145 AN144 (z := n.toInt32) rfl (hb hby d36_14) rfl ?_
  refine g_sipush (v := (4096 : Int32)) X145 hx (hb hby d36_15) (by decide) rfl ?_
  refine g_icmp_le X145 hx (hb hby d36_18) (by decide) (pt := 40) (by decide) rfl (fun _ => ?_) (fun q_ => absurd q_ (by rw [own_ltI, hl, show (4096 : Int32).toInt = 4096 from rfl]; omega))
  exact g_ret X145 hx hlk hret e145 (by decide) (by decide) (hb hby d36_40) ⟨rfl, N144, EI144, ⟨E144_, F144_text, F144_set, F144_members, F144_next, F144_touched, F144_unitsRead, AM144, AN144, d1, d2, d3, g1, g2, g3, Zh144⟩⟩
theorem ef_rm_r0 (m : MethodId) (x0 : Addr) (x1 : Addr) (x2 : Addr)  : entryFrame m #[(.ref x0), (.ref x1), (.ref x2)] 4 = mkF m 0 #[.val (.ref x0), .val (.ref x1), .val (.ref x2), .unset] [] := by first | (simp [entryFrame, mkF, argsToLocals, Value.category]; done) | rfl
theorem pn_146 : plainFor (⟨"com/example/nav_by_schema/navbyschema/regex/UnitRuns", "reset", "(Ljava/lang/String;Lcom/example/nav_by_schema/navbyschema/regex/CodeUnitSet;)V"⟩ : MethodName) = true := by first | exact plainFor_of_name (by first | (simp [plainName, overriddenIn]; done) | decide +kernel) | decide +kernel
theorem pd_149 : parseMethodDescriptor "()I" = some ⟨[], some .int⟩ := by decide +kernel
set_option maxRecDepth 65536 in
set_option maxHeartbeats 40000000 in
theorem rm_r0 (l : Launch) (Z : State) (a0 : Array Value) (hw : ∀ d ∈ tables_1, d.before a0 Z = true) (a : Addr) (n0 : Nat) (mb nb : Addr) (fm : Nat → Int64) (fn : Nat → Int32) (tc : Int32) (ur : Int64) (h0 : Heap) (ta tb sa ra : Addr) (lo hi cs : Int32) (sf : Value) (gc fr : Nat → Int32) (hI : Heap) (EI : Ext hI h0) (nI : hI.size ≤ n0) (WI : own_W Z hI ta tb sa ra lo hi cs sf gc fr) (H : own_U Z h0 a n0 .null .null mb nb 0 fm fn tc ur) :
    Ctr l Z (⟨"com/example/nav_by_schema/navbyschema/regex/UnitRuns", "reset", "(Ljava/lang/String;Lcom/example/nav_by_schema/navbyschema/regex/CodeUnitSet;)V"⟩ : MethodName) prog_27_method_5_code 4 (Option.none : Option FieldType) [] ({ frames := 2, cells := 2, slots := 2, locals := 25 } : Room) ({ frames := 2, cells := 2, slots := 2, locals := 25 } : Room).cells ({ frames := 2, cells := 2, slots := 2, locals := 25 } : Room).slots #[(.ref a), (.ref ta), (.ref sa)] h0 (fun u h L => u = none ∧ Fr n0 L ∧ Ext hI h ∧ ∃ mb' nb', own_U Z h a n0 (.ref ta) (.ref sa) mb' nb' 1 (fun _ => 0) (fun _ => 0) 0 ur) := by
  refine Ctr.of pn_146 ?_
  intro p e s m below meth c s₁ hx hby hml hown hnm hret hlk hZ X0 e0
  refine Goes.cast (ef_rm_r0 m a ta sa) ?_
  obtain ⟨E, F_text, F_set, F_members, F_next, F_touched, F_unitsRead, AM, AN, d1, d2, d3, g1, g2, g3, g4⟩ := H
  obtain ⟨S_cs, hcs, S_sf, hr_sf, hc_sf, St, r0, r1, Ra, Cu, Hg⟩ := WI
  refine g_aload_n (i := 0) X0 hx (hb hby d22_0) (by rfl) rfl rfl ?_
  refine g_aload_n (i := 1) X0 hx (hb hby d22_1) (by rfl) rfl rfl ?_
  refine g_putF X0 hx hZ hown (wd hw 124 rfl) e0 F_text E (Or.inl (wd hw 125 rfl)) (wd hw 109 rfl) (ty := (.object "java/lang/String")) (by decide) rfl rfl (hb hby d22_2) rfl ?_
  intro T147 h147 X147 e147 W147
  have N147 := Fr.snoc X147 (Fr.nil n0) g1
  have E147_ := E.wr W147
  have F147_text := F_text.same W147
  have F147_set := F_set.other W147 (Or.inr (slot_ne (C := "com/example/nav_by_schema/navbyschema/regex/UnitRuns") (Or.inl (wd hw 131 rfl)) (Or.inl (wd hw 125 rfl)) (by decide) (t := (.object "com/example/nav_by_schema/navbyschema/regex/CodeUnitSet")) (t' := (.object "java/lang/String")) (by decide) (by decide)))
  have F147_members := F_members.other W147 (Or.inr (slot_ne (C := "com/example/nav_by_schema/navbyschema/regex/UnitRuns") (Or.inl (wd hw 116 rfl)) (Or.inl (wd hw 125 rfl)) (by decide) (t := (.array .long)) (t' := (.object "java/lang/String")) (by decide) (by decide)))
  have F147_next := F_next.other W147 (Or.inr (slot_ne (C := "com/example/nav_by_schema/navbyschema/regex/UnitRuns") (Or.inl (wd hw 118 rfl)) (Or.inl (wd hw 125 rfl)) (by decide) (t := (.array .int)) (t' := (.object "java/lang/String")) (by decide) (by decide)))
  have F147_touched := F_touched.other W147 (Or.inr (slot_ne (C := "com/example/nav_by_schema/navbyschema/regex/UnitRuns") (Or.inl (wd hw 143 rfl)) (Or.inl (wd hw 125 rfl)) (by decide) (t := .int) (t' := (.object "java/lang/String")) (by decide) (by decide)))
  have F147_unitsRead := F_unitsRead.other W147 (Or.inr (slot_ne (C := "com/example/nav_by_schema/navbyschema/regex/UnitRuns") (Or.inl (wd hw 178 rfl)) (Or.inl (wd hw 125 rfl)) (by decide) (t := .long) (t' := (.object "java/lang/String")) (by decide) (by decide)))
  have AM147 := AM.other W147 d2
  have AN147 := AN.other W147 d3
  have Zh147 : n0 ≤ h147.size := by rw [W147.size]; exact g4
  have EI147 := own_extw EI W147 (Nat.le_trans nI g1)
  refine g_aload_n (i := 0) X147 hx (hb hby d22_5) (by rfl) rfl rfl ?_
  refine g_aload_n (i := 2) X147 hx (hb hby d22_6) (by rfl) rfl rfl ?_
  refine g_putF X147 hx hZ hown (wd hw 130 rfl) e147 F147_set E147_ (Or.inl (wd hw 131 rfl)) (wd hw 109 rfl) (ty := (.object "com/example/nav_by_schema/navbyschema/regex/CodeUnitSet")) (by decide) rfl rfl (hb hby d22_7) rfl ?_
  intro T148 h148 X148 e148 W148
  have N148 := Fr.snoc X148 N147 g1
  have E148_ := E147_.wr W148
  have F148_text := F147_text.other W148 (Or.inr (slot_ne (C := "com/example/nav_by_schema/navbyschema/regex/UnitRuns") (Or.inl (wd hw 125 rfl)) (Or.inl (wd hw 131 rfl)) (by decide) (t := (.object "java/lang/String")) (t' := (.object "com/example/nav_by_schema/navbyschema/regex/CodeUnitSet")) (by decide) (by decide)))
  have F148_set := F147_set.same W148
  have F148_members := F147_members.other W148 (Or.inr (slot_ne (C := "com/example/nav_by_schema/navbyschema/regex/UnitRuns") (Or.inl (wd hw 116 rfl)) (Or.inl (wd hw 131 rfl)) (by decide) (t := (.array .long)) (t' := (.object "com/example/nav_by_schema/navbyschema/regex/CodeUnitSet")) (by decide) (by decide)))
  have F148_next := F147_next.other W148 (Or.inr (slot_ne (C := "com/example/nav_by_schema/navbyschema/regex/UnitRuns") (Or.inl (wd hw 118 rfl)) (Or.inl (wd hw 131 rfl)) (by decide) (t := (.array .int)) (t' := (.object "com/example/nav_by_schema/navbyschema/regex/CodeUnitSet")) (by decide) (by decide)))
  have F148_touched := F147_touched.other W148 (Or.inr (slot_ne (C := "com/example/nav_by_schema/navbyschema/regex/UnitRuns") (Or.inl (wd hw 143 rfl)) (Or.inl (wd hw 131 rfl)) (by decide) (t := .int) (t' := (.object "com/example/nav_by_schema/navbyschema/regex/CodeUnitSet")) (by decide) (by decide)))
  have F148_unitsRead := F147_unitsRead.other W148 (Or.inr (slot_ne (C := "com/example/nav_by_schema/navbyschema/regex/UnitRuns") (Or.inl (wd hw 178 rfl)) (Or.inl (wd hw 131 rfl)) (by decide) (t := .long) (t' := (.object "com/example/nav_by_schema/navbyschema/regex/CodeUnitSet")) (by decide) (by decide)))
  have AM148 := AM147.other W148 d2
  have AN148 := AN147.other W148 d3
  have Zh148 : n0 ≤ h148.size := by rw [W148.size]; exact Zh147
  have EI148 := own_extw EI147 W148 (Nat.le_trans nI g1)
  have St1 := St.ext EI148
  have S1 := S_cs.ext EI148
  refine g_aload_n (i := 1) X148 hx (hb hby d22_10) (by rfl) rfl rfl ?_
  refine g_callV X148 hx hZ hown (wd hw 132 rfl) (wd hw 133 rfl) (wd hw 135 rfl) (wd hw 134 rfl) (wd hw 3 rfl) (wd hw 136 rfl) (by decide) e148 ta St1.1 (rm_len l Z a0 hw ta tb _ h148 cs S1 hcs St1) (by rw [hml]; rfl) [] [] rfl (lenOf pd_149 rfl) rfl (by show 0 + (1 + 11) + 13 ≤ _; decide) (by decide) (by decide) (by decide) (hb hby d22_11) rfl ?_
  intro T149 v149 L149 X149 hQ149
  obtain ⟨rfl, rfl, e149⟩ := hQ149
  have N149 := Fr.app N148 (Fr.nil n0)
  show Goes p e below _ T149 (mkF m 14 #[.val (.ref a), .val (.ref ta), .val (.ref sa), .unset] [(.int (4 : Int32))])
  refine g_bipush (v := (6 : Int32)) X149 hx (hb hby d22_14) (by decide) rfl ?_
  refine g_iushr X149 hx (hb hby d22_16) rfl ?_
  rw [show (XT.ushr (4 : Int32) (6 : Int32)) = (0 : Int32) by decide]
  refine g_iconst (v := (1 : Int32)) X149 hx (hb hby d22_17) (by decide) rfl ?_
  refine g_iadd X149 hx (hb hby d22_18) rfl ?_
  rw [show ((0 : Int32) + (1 : Int32)) = (1 : Int32) by decide]
  refine g_istore_n (i := 3) X149 hx #[.val (.ref a), .val (.ref ta), .val (.ref sa), .val (.int (1 : Int32))] (hb hby d22_19) rfl rfl ?_
  refine g_aload_n (i := 0) X149 hx (hb hby d22_20) (by rfl) rfl rfl ?_
  refine g_getF X149 hx hZ hown (wd hw 117 rfl) e149 F148_next (hb hby d22_21) rfl ?_
  intro T150 X150 e150
  refine g_arraylengthI X150 hx hZ e150 AN148 (z := (0 : Int32)) (show _ = (0 : Int32) by decide) (hb hby d22_24) rfl ?_
  refine g_iload_n (i := 3) X150 hx (hb hby d22_25) (by rfl) rfl ?_
  refine g_icmp_ge X150 hx (hb hby d22_26) (by decide) (pt := 46) (by decide) rfl (fun q_ => absurd (by decide) q_) (fun _ => ?_)
  refine g_aload_n (i := 0) X150 hx (hb hby d22_29) (by rfl) rfl rfl ?_
  refine g_iload_n (i := 3) X150 hx (hb hby d22_30) (by rfl) rfl ?_
  refine g_newarr X150 hx hZ (ty := .int) rfl (wd hw 53 rfl) e150 (hb hby d22_31) rfl (by decide) 1 (by decide) (by decide) (by decide) (by decide) ?_
  intro T151 h151 cA151 a151 X151 e151 g151 Ex151 A151
  have Nw151 : ArI Z h151 a151 .int 1 (fun _ => 0) := ArI.new A151 0 rfl
  have da151 : a151 ≠ a := fun q => absurd E148_.lt (by rw [← q, g151]; exact Nat.lt_irrefl _)
  have dx151 : mb ≠ a151 := fun q => absurd AM148.lt (by rw [q, g151]; exact Nat.lt_irrefl _)
  have F151_text := F148_text.ext Ex151
  have F151_set := F148_set.ext Ex151
  have F151_members := F148_members.ext Ex151
  have F151_next := F148_next.ext Ex151
  have F151_touched := F148_touched.ext Ex151
  have F151_unitsRead := F148_unitsRead.ext Ex151
  have EE151 := E148_.ext Ex151
  have AM151 := AM148.ext Ex151
  have AN151 := AN148.ext Ex151
  have gn151 : n0 ≤ a151 := by rw [g151]; exact Zh148
  have Zh151 : n0 ≤ h151.size := Nat.le_trans Zh148 Ex151.1
  have EI151 := own_tr EI148 Ex151
  refine g_putF X151 hx hZ hown (wd hw 117 rfl) e151 F151_next EE151 (Or.inl (wd hw 118 rfl)) (wd hw 109 rfl) (ty := (.array .int)) (by decide) rfl rfl (hb hby d22_33) rfl ?_
  intro T152 h152 X152 e152 W152
  have N152 := Fr.snoc X152 N149 g1
  have E152_ := EE151.wr W152
  have F152_text := F151_text.other W152 (Or.inr (slot_ne (C := "com/example/nav_by_schema/navbyschema/regex/UnitRuns") (Or.inl (wd hw 125 rfl)) (Or.inl (wd hw 118 rfl)) (by decide) (t := (.object "java/lang/String")) (t' := (.array .int)) (by decide) (by decide)))
  have F152_set := F151_set.other W152 (Or.inr (slot_ne (C := "com/example/nav_by_schema/navbyschema/regex/UnitRuns") (Or.inl (wd hw 131 rfl)) (Or.inl (wd hw 118 rfl)) (by decide) (t := (.object "com/example/nav_by_schema/navbyschema/regex/CodeUnitSet")) (t' := (.array .int)) (by decide) (by decide)))
  have F152_members := F151_members.other W152 (Or.inr (slot_ne (C := "com/example/nav_by_schema/navbyschema/regex/UnitRuns") (Or.inl (wd hw 116 rfl)) (Or.inl (wd hw 118 rfl)) (by decide) (t := (.array .long)) (t' := (.array .int)) (by decide) (by decide)))
  have F152_next := F151_next.same W152
  have F152_touched := F151_touched.other W152 (Or.inr (slot_ne (C := "com/example/nav_by_schema/navbyschema/regex/UnitRuns") (Or.inl (wd hw 143 rfl)) (Or.inl (wd hw 118 rfl)) (by decide) (t := .int) (t' := (.array .int)) (by decide) (by decide)))
  have F152_unitsRead := F151_unitsRead.other W152 (Or.inr (slot_ne (C := "com/example/nav_by_schema/navbyschema/regex/UnitRuns") (Or.inl (wd hw 178 rfl)) (Or.inl (wd hw 118 rfl)) (by decide) (t := .long) (t' := (.array .int)) (by decide) (by decide)))
  have AM152 := AM151.other W152 d2
  have AN152 := Nw151.other W152 da151
  have Zh152 : n0 ≤ h152.size := by rw [W152.size]; exact Zh151
  have EI152 := own_extw EI151 W152 (Nat.le_trans nI g1)
  refine g_aload_n (i := 0) X152 hx (hb hby d22_36) (by rfl) rfl rfl ?_
  refine g_iload_n (i := 3) X152 hx (hb hby d22_37) (by rfl) rfl ?_
  refine g_newarr X152 hx hZ (ty := .long) rfl (wd hw 68 rfl) e152 (hb hby d22_38) rfl (by decide) 1 (by decide) (by decide) (by decide) (by decide) ?_
  intro T153 h153 cA153 a153 X153 e153 g153 Ex153 A153
  have Nw153 : ArJ Z h153 a153 .long 1 (fun _ => 0) := ArJ.new A153 0 rfl
  have da153 : a153 ≠ a := fun q => absurd E152_.lt (by rw [← q, g153]; exact Nat.lt_irrefl _)
  have dx153 : a153 ≠ a151 := fun q => absurd AN152.lt (by rw [← q, g153]; exact Nat.lt_irrefl _)
  have F153_text := F152_text.ext Ex153
  have F153_set := F152_set.ext Ex153
  have F153_members := F152_members.ext Ex153
  have F153_next := F152_next.ext Ex153
  have F153_touched := F152_touched.ext Ex153
  have F153_unitsRead := F152_unitsRead.ext Ex153
  have EE153 := E152_.ext Ex153
  have AM153 := AM152.ext Ex153
  have AN153 := AN152.ext Ex153
  have gn153 : n0 ≤ a153 := by rw [g153]; exact Zh152
  have Zh153 : n0 ≤ h153.size := Nat.le_trans Zh152 Ex153.1
  have EI153 := own_tr EI152 Ex153
  refine g_putF X153 hx hZ hown (wd hw 115 rfl) e153 F153_members EE153 (Or.inl (wd hw 116 rfl)) (wd hw 109 rfl) (ty := (.array .long)) (by decide) rfl rfl (hb hby d22_40) rfl ?_
  intro T154 h154 X154 e154 W154
  have N154 := Fr.snoc X154 N152 g1
  have E154_ := EE153.wr W154
  have F154_text := F153_text.other W154 (Or.inr (slot_ne (C := "com/example/nav_by_schema/navbyschema/regex/UnitRuns") (Or.inl (wd hw 125 rfl)) (Or.inl (wd hw 116 rfl)) (by decide) (t := (.object "java/lang/String")) (t' := (.array .long)) (by decide) (by decide)))
  have F154_set := F153_set.other W154 (Or.inr (slot_ne (C := "com/example/nav_by_schema/navbyschema/regex/UnitRuns") (Or.inl (wd hw 131 rfl)) (Or.inl (wd hw 116 rfl)) (by decide) (t := (.object "com/example/nav_by_schema/navbyschema/regex/CodeUnitSet")) (t' := (.array .long)) (by decide) (by decide)))
  have F154_members := F153_members.same W154
  have F154_next := F153_next.other W154 (Or.inr (slot_ne (C := "com/example/nav_by_schema/navbyschema/regex/UnitRuns") (Or.inl (wd hw 118 rfl)) (Or.inl (wd hw 116 rfl)) (by decide) (t := (.array .int)) (t' := (.array .long)) (by decide) (by decide)))
  have F154_touched := F153_touched.other W154 (Or.inr (slot_ne (C := "com/example/nav_by_schema/navbyschema/regex/UnitRuns") (Or.inl (wd hw 143 rfl)) (Or.inl (wd hw 116 rfl)) (by decide) (t := .int) (t' := (.array .long)) (by decide) (by decide)))
  have F154_unitsRead := F153_unitsRead.other W154 (Or.inr (slot_ne (C := "com/example/nav_by_schema/navbyschema/regex/UnitRuns") (Or.inl (wd hw 178 rfl)) (Or.inl (wd hw 116 rfl)) (by decide) (t := .long) (t' := (.array .long)) (by decide) (by decide)))
  have AM154 := Nw153.other W154 da153
  have AN154 := AN153.other W154 da151
  have Zh154 : n0 ≤ h154.size := by rw [W154.size]; exact Zh153
  have EI154 := own_extw EI153 W154 (Nat.le_trans nI g1)
  refine g_goto X154 hx (hb hby d22_43) (by decide) (by decide) (pc' := 59) ?_
  refine g_aload_n (i := 0) X154 hx (hb hby d22_59) (by rfl) rfl rfl ?_
  refine g_iconst (v := (0 : Int32)) X154 hx (hb hby d22_60) (by decide) rfl ?_
  refine g_putF X154 hx hZ hown (wd hw 142 rfl) e154 F154_touched E154_ (Or.inl (wd hw 143 rfl)) (wd hw 109 rfl) (ty := .int) (by decide) rfl rfl (hb hby d22_61) rfl ?_
  intro T155 h155 X155 e155 W155
  have N155 := Fr.snoc X155 N154 g1
  have E155_ := E154_.wr W155
  have F155_text := F154_text.other W155 (Or.inr (slot_ne (C := "com/example/nav_by_schema/navbyschema/regex/UnitRuns") (Or.inl (wd hw 125 rfl)) (Or.inl (wd hw 143 rfl)) (by decide) (t := (.object "java/lang/String")) (t' := .int) (by decide) (by decide)))
  have F155_set := F154_set.other W155 (Or.inr (slot_ne (C := "com/example/nav_by_schema/navbyschema/regex/UnitRuns") (Or.inl (wd hw 131 rfl)) (Or.inl (wd hw 143 rfl)) (by decide) (t := (.object "com/example/nav_by_schema/navbyschema/regex/CodeUnitSet")) (t' := .int) (by decide) (by decide)))
  have F155_members := F154_members.other W155 (Or.inr (slot_ne (C := "com/example/nav_by_schema/navbyschema/regex/UnitRuns") (Or.inl (wd hw 116 rfl)) (Or.inl (wd hw 143 rfl)) (by decide) (t := (.array .long)) (t' := .int) (by decide) (by decide)))
  have F155_next := F154_next.other W155 (Or.inr (slot_ne (C := "com/example/nav_by_schema/navbyschema/regex/UnitRuns") (Or.inl (wd hw 118 rfl)) (Or.inl (wd hw 143 rfl)) (by decide) (t := (.array .int)) (t' := .int) (by decide) (by decide)))
  have F155_touched := F154_touched.same W155
  have F155_unitsRead := F154_unitsRead.other W155 (Or.inr (slot_ne (C := "com/example/nav_by_schema/navbyschema/regex/UnitRuns") (Or.inl (wd hw 178 rfl)) (Or.inl (wd hw 143 rfl)) (by decide) (t := .long) (t' := .int) (by decide) (by decide)))
  have AM155 := AM154.other W155 da153
  have AN155 := AN154.other W155 da151
  have Zh155 : n0 ≤ h155.size := by rw [W155.size]; exact Zh154
  have EI155 := own_extw EI154 W155 (Nat.le_trans nI g1)
  exact g_ret X155 hx hlk hret e155 (by decide) (by decide) (hb hby d22_64) ⟨rfl, N155, EI155, a153, a151, ⟨E155_, F155_text, F155_set, F155_members, F155_next, F155_touched, F155_unitsRead, AM155, AN155, dx153, da153, da151, g1, gn153, gn151, Zh155⟩⟩
theorem ef_rm_r1 (m : MethodId) (x0 : Addr) (x1 : Addr) (x2 : Addr)  : entryFrame m #[(.ref x0), (.ref x1), (.ref x2)] 4 = mkF m 0 #[.val (.ref x0), .val (.ref x1), .val (.ref x2), .unset] [] := by first | (simp [entryFrame, mkF, argsToLocals, Value.category]; done) | rfl
theorem pd_163 : parseMethodDescriptor "([IIII)V" = some ⟨[(.array .int), .int, .int, .int], none⟩ := by decide +kernel
set_option maxRecDepth 65536 in
set_option maxHeartbeats 40000000 in
theorem rm_r1 (l : Launch) (Z : State) (a0 : Array Value) (hw : ∀ d ∈ tables_1, d.before a0 Z = true) (a : Addr) (n0 : Nat) (mb nb : Addr) (fm : Nat → Int64) (fn : Nat → Int32) (ur : Int64) (h0 : Heap) (ta tb sa ra : Addr) (lo hi cs : Int32) (sf : Value) (gc fr : Nat → Int32) (hI : Heap) (EI : Ext hI h0) (nI : hI.size ≤ n0) (WI : own_W Z hI ta tb sa ra lo hi cs sf gc fr) (H : own_U Z h0 a n0 .null .null mb nb 1 fm fn 1 ur) :
    Ctr l Z (⟨"com/example/nav_by_schema/navbyschema/regex/UnitRuns", "reset", "(Ljava/lang/String;Lcom/example/nav_by_schema/navbyschema/regex/CodeUnitSet;)V"⟩ : MethodName) prog_27_method_5_code 4 (Option.none : Option FieldType) [] ({ frames := 2, cells := 0, slots := 0, locals := 30 } : Room) ({ frames := 2, cells := 0, slots := 0, locals := 30 } : Room).cells ({ frames := 2, cells := 0, slots := 0, locals := 30 } : Room).slots #[(.ref a), (.ref ta), (.ref sa)] h0 (fun u h L => u = none ∧ Fr n0 L ∧ Ext hI h ∧ own_U Z h a n0 (.ref ta) (.ref sa) mb nb 1 fm (fun k => if k = 0 then 0 else fn k) 0 ur) := by
  refine Ctr.of pn_146 ?_
  intro p e s m below meth c s₁ hx hby hml hown hnm hret hlk hZ X0 e0
  refine Goes.cast (ef_rm_r1 m a ta sa) ?_
  obtain ⟨E, F_text, F_set, F_members, F_next, F_touched, F_unitsRead, AM, AN, d1, d2, d3, g1, g2, g3, g4⟩ := H
  obtain ⟨S_cs, hcs, S_sf, hr_sf, hc_sf, St, r0, r1, Ra, Cu, Hg⟩ := WI
  refine g_aload_n (i := 0) X0 hx (hb hby d22_0) (by rfl) rfl rfl ?_
  refine g_aload_n (i := 1) X0 hx (hb hby d22_1) (by rfl) rfl rfl ?_
  refine g_putF X0 hx hZ hown (wd hw 124 rfl) e0 F_text E (Or.inl (wd hw 125 rfl)) (wd hw 109 rfl) (ty := (.object "java/lang/String")) (by decide) rfl rfl (hb hby d22_2) rfl ?_
  intro T157 h157 X157 e157 W157
  have N157 := Fr.snoc X157 (Fr.nil n0) g1
  have E157_ := E.wr W157
  have F157_text := F_text.same W157
  have F157_set := F_set.other W157 (Or.inr (slot_ne (C := "com/example/nav_by_schema/navbyschema/regex/UnitRuns") (Or.inl (wd hw 131 rfl)) (Or.inl (wd hw 125 rfl)) (by decide) (t := (.object "com/example/nav_by_schema/navbyschema/regex/CodeUnitSet")) (t' := (.object "java/lang/String")) (by decide) (by decide)))
  have F157_members := F_members.other W157 (Or.inr (slot_ne (C := "com/example/nav_by_schema/navbyschema/regex/UnitRuns") (Or.inl (wd hw 116 rfl)) (Or.inl (wd hw 125 rfl)) (by decide) (t := (.array .long)) (t' := (.object "java/lang/String")) (by decide) (by decide)))
  have F157_next := F_next.other W157 (Or.inr (slot_ne (C := "com/example/nav_by_schema/navbyschema/regex/UnitRuns") (Or.inl (wd hw 118 rfl)) (Or.inl (wd hw 125 rfl)) (by decide) (t := (.array .int)) (t' := (.object "java/lang/String")) (by decide) (by decide)))
  have F157_touched := F_touched.other W157 (Or.inr (slot_ne (C := "com/example/nav_by_schema/navbyschema/regex/UnitRuns") (Or.inl (wd hw 143 rfl)) (Or.inl (wd hw 125 rfl)) (by decide) (t := .int) (t' := (.object "java/lang/String")) (by decide) (by decide)))
  have F157_unitsRead := F_unitsRead.other W157 (Or.inr (slot_ne (C := "com/example/nav_by_schema/navbyschema/regex/UnitRuns") (Or.inl (wd hw 178 rfl)) (Or.inl (wd hw 125 rfl)) (by decide) (t := .long) (t' := (.object "java/lang/String")) (by decide) (by decide)))
  have AM157 := AM.other W157 d2
  have AN157 := AN.other W157 d3
  have Zh157 : n0 ≤ h157.size := by rw [W157.size]; exact g4
  have EI157 := own_extw EI W157 (Nat.le_trans nI g1)
  refine g_aload_n (i := 0) X157 hx (hb hby d22_5) (by rfl) rfl rfl ?_
  refine g_aload_n (i := 2) X157 hx (hb hby d22_6) (by rfl) rfl rfl ?_
  refine g_putF X157 hx hZ hown (wd hw 130 rfl) e157 F157_set E157_ (Or.inl (wd hw 131 rfl)) (wd hw 109 rfl) (ty := (.object "com/example/nav_by_schema/navbyschema/regex/CodeUnitSet")) (by decide) rfl rfl (hb hby d22_7) rfl ?_
  intro T158 h158 X158 e158 W158
  have N158 := Fr.snoc X158 N157 g1
  have E158_ := E157_.wr W158
  have F158_text := F157_text.other W158 (Or.inr (slot_ne (C := "com/example/nav_by_schema/navbyschema/regex/UnitRuns") (Or.inl (wd hw 125 rfl)) (Or.inl (wd hw 131 rfl)) (by decide) (t := (.object "java/lang/String")) (t' := (.object "com/example/nav_by_schema/navbyschema/regex/CodeUnitSet")) (by decide) (by decide)))
  have F158_set := F157_set.same W158
  have F158_members := F157_members.other W158 (Or.inr (slot_ne (C := "com/example/nav_by_schema/navbyschema/regex/UnitRuns") (Or.inl (wd hw 116 rfl)) (Or.inl (wd hw 131 rfl)) (by decide) (t := (.array .long)) (t' := (.object "com/example/nav_by_schema/navbyschema/regex/CodeUnitSet")) (by decide) (by decide)))
  have F158_next := F157_next.other W158 (Or.inr (slot_ne (C := "com/example/nav_by_schema/navbyschema/regex/UnitRuns") (Or.inl (wd hw 118 rfl)) (Or.inl (wd hw 131 rfl)) (by decide) (t := (.array .int)) (t' := (.object "com/example/nav_by_schema/navbyschema/regex/CodeUnitSet")) (by decide) (by decide)))
  have F158_touched := F157_touched.other W158 (Or.inr (slot_ne (C := "com/example/nav_by_schema/navbyschema/regex/UnitRuns") (Or.inl (wd hw 143 rfl)) (Or.inl (wd hw 131 rfl)) (by decide) (t := .int) (t' := (.object "com/example/nav_by_schema/navbyschema/regex/CodeUnitSet")) (by decide) (by decide)))
  have F158_unitsRead := F157_unitsRead.other W158 (Or.inr (slot_ne (C := "com/example/nav_by_schema/navbyschema/regex/UnitRuns") (Or.inl (wd hw 178 rfl)) (Or.inl (wd hw 131 rfl)) (by decide) (t := .long) (t' := (.object "com/example/nav_by_schema/navbyschema/regex/CodeUnitSet")) (by decide) (by decide)))
  have AM158 := AM157.other W158 d2
  have AN158 := AN157.other W158 d3
  have Zh158 : n0 ≤ h158.size := by rw [W158.size]; exact Zh157
  have EI158 := own_extw EI157 W158 (Nat.le_trans nI g1)
  have St1 := St.ext EI158
  have S1 := S_cs.ext EI158
  refine g_aload_n (i := 1) X158 hx (hb hby d22_10) (by rfl) rfl rfl ?_
  refine g_callV X158 hx hZ hown (wd hw 132 rfl) (wd hw 133 rfl) (wd hw 135 rfl) (wd hw 134 rfl) (wd hw 3 rfl) (wd hw 136 rfl) (by decide) e158 ta St1.1 (rm_len l Z a0 hw ta tb _ h158 cs S1 hcs St1) (by rw [hml]; rfl) [] [] rfl (lenOf pd_149 rfl) rfl (by show 0 + (1 + 11) + 13 ≤ _; decide) (by decide) (by decide) (by decide) (hb hby d22_11) rfl ?_
  intro T159 v159 L159 X159 hQ159
  obtain ⟨rfl, rfl, e159⟩ := hQ159
  have N159 := Fr.app N158 (Fr.nil n0)
  show Goes p e below _ T159 (mkF m 14 #[.val (.ref a), .val (.ref ta), .val (.ref sa), .unset] [(.int (4 : Int32))])
  refine g_bipush (v := (6 : Int32)) X159 hx (hb hby d22_14) (by decide) rfl ?_
  refine g_iushr X159 hx (hb hby d22_16) rfl ?_
  rw [show (XT.ushr (4 : Int32) (6 : Int32)) = (0 : Int32) by decide]
  refine g_iconst (v := (1 : Int32)) X159 hx (hb hby d22_17) (by decide) rfl ?_
  refine g_iadd X159 hx (hb hby d22_18) rfl ?_
  rw [show ((0 : Int32) + (1 : Int32)) = (1 : Int32) by decide]
  refine g_istore_n (i := 3) X159 hx #[.val (.ref a), .val (.ref ta), .val (.ref sa), .val (.int (1 : Int32))] (hb hby d22_19) rfl rfl ?_
  refine g_aload_n (i := 0) X159 hx (hb hby d22_20) (by rfl) rfl rfl ?_
  refine g_getF X159 hx hZ hown (wd hw 117 rfl) e159 F158_next (hb hby d22_21) rfl ?_
  intro T160 X160 e160
  refine g_arraylengthI X160 hx hZ e160 AN158 (z := (1 : Int32)) (show _ = (1 : Int32) by decide) (hb hby d22_24) rfl ?_
  refine g_iload_n (i := 3) X160 hx (hb hby d22_25) (by rfl) rfl ?_
  refine g_icmp_ge X160 hx (hb hby d22_26) (by decide) (pt := 46) (by decide) rfl (fun _ => ?_) (fun q_ => absurd q_ (by decide))
  refine g_aload_n (i := 0) X160 hx (hb hby d22_46) (by rfl) rfl rfl ?_
  refine g_getF X160 hx hZ hown (wd hw 117 rfl) e160 F158_next (hb hby d22_47) rfl ?_
  intro T161 X161 e161
  refine g_iconst (v := (0 : Int32)) X161 hx (hb hby d22_50) (by decide) rfl ?_
  refine g_aload_n (i := 0) X161 hx (hb hby d22_51) (by rfl) rfl rfl ?_
  refine g_getF X161 hx hZ hown (wd hw 142 rfl) e161 F158_touched (hb hby d22_52) rfl ?_
  intro T162 X162 e162
  refine g_iconst (v := (0 : Int32)) X162 hx (hb hby d22_55) (by decide) rfl ?_
  refine g_callS X162 hx hZ hown (wd hw 202 rfl) (wd hw 203 rfl) (wd hw 71 rfl) (wd hw 204 rfl) (by decide) e162 (rm_fl l Z a0 hw nb fn h158 n0 g3 AN158) (by rw [hml]; rfl) [(.ref nb), (.int (0 : Int32)), (.int (1 : Int32)), (.int (0 : Int32))] [] rfl (lenOf pd_163 rfl) rfl (by show 0 + (5 + 11) + 14 ≤ _; decide) (by decide) (by decide) (by decide) (hb hby d22_56) rfl ?_
  intro T163 v163 L163 X163 hQ163
  obtain ⟨rfl, N163, K163, A163⟩ := hQ163
  have N163 := Fr.app N159 N163
  show Goes p e below _ T163 (mkF m 59 #[.val (.ref a), .val (.ref ta), .val (.ref sa), .val (.int (1 : Int32))] [])
  have na : a ∉ [nb] := fun q => d3 (List.mem_singleton.mp q).symm
  have nm : mb ∉ [nb] := fun q => d1 (List.mem_singleton.mp q)
  have P_text := F158_text.keep K163 na
  have P_set := F158_set.keep K163 na
  have P_members := F158_members.keep K163 na
  have P_next := F158_next.keep K163 na
  have P_touched := F158_touched.keep K163 na
  have P_unitsRead := F158_unitsRead.keep K163 na
  have PE := E158_.keep K163
  have PM := AM158.keep K163 nm
  have PZ : n0 ≤ T163.heap.size := Nat.le_trans Zh158 K163.1
  have PI := own_ext3 EI158 K163 (fun x hx => by rw [List.mem_singleton.mp hx]; exact Nat.le_trans nI g3)
  refine g_aload_n (i := 0) X163 hx (hb hby d22_59) (by rfl) rfl rfl ?_
  refine g_iconst (v := (0 : Int32)) X163 hx (hb hby d22_60) (by decide) rfl ?_
  refine g_putF X163 hx hZ hown (wd hw 142 rfl) rfl P_touched PE (Or.inl (wd hw 143 rfl)) (wd hw 109 rfl) (ty := .int) (by decide) rfl rfl (hb hby d22_61) rfl ?_
  intro T164 h164 X164 e164 W164
  have N164 := Fr.snoc X164 N163 g1
  have E164_ := PE.wr W164
  have F164_text := P_text.other W164 (Or.inr (slot_ne (C := "com/example/nav_by_schema/navbyschema/regex/UnitRuns") (Or.inl (wd hw 125 rfl)) (Or.inl (wd hw 143 rfl)) (by decide) (t := (.object "java/lang/String")) (t' := .int) (by decide) (by decide)))
  have F164_set := P_set.other W164 (Or.inr (slot_ne (C := "com/example/nav_by_schema/navbyschema/regex/UnitRuns") (Or.inl (wd hw 131 rfl)) (Or.inl (wd hw 143 rfl)) (by decide) (t := (.object "com/example/nav_by_schema/navbyschema/regex/CodeUnitSet")) (t' := .int) (by decide) (by decide)))
  have F164_members := P_members.other W164 (Or.inr (slot_ne (C := "com/example/nav_by_schema/navbyschema/regex/UnitRuns") (Or.inl (wd hw 116 rfl)) (Or.inl (wd hw 143 rfl)) (by decide) (t := (.array .long)) (t' := .int) (by decide) (by decide)))
  have F164_next := P_next.other W164 (Or.inr (slot_ne (C := "com/example/nav_by_schema/navbyschema/regex/UnitRuns") (Or.inl (wd hw 118 rfl)) (Or.inl (wd hw 143 rfl)) (by decide) (t := (.array .int)) (t' := .int) (by decide) (by decide)))
  have F164_touched := P_touched.same W164
  have F164_unitsRead := P_unitsRead.other W164 (Or.inr (slot_ne (C := "com/example/nav_by_schema/navbyschema/regex/UnitRuns") (Or.inl (wd hw 178 rfl)) (Or.inl (wd hw 143 rfl)) (by decide) (t := .long) (t' := .int) (by decide) (by decide)))
  have AM164 := PM.other W164 d2
  have AN164 := A163.other W164 d3
  have Zh164 : n0 ≤ h164.size := by rw [W164.size]; exact PZ
  have EI164 := own_extw PI W164 (Nat.le_trans nI g1)
  exact g_ret X164 hx hlk hret e164 (by decide) (by decide) (hb hby d22_64) ⟨rfl, N164, EI164, ⟨E164_, F164_text, F164_set, F164_members, F164_next, F164_touched, F164_unitsRead, AM164, AN164, d1, d2, d3, g1, g2, g3, Zh164⟩⟩
theorem own_chb (v : Int32) (h0 : 0 ≤ v.toInt) (h1 : v.toInt ≤ 255) : nar .char (nar .char ((v.toInt8.toInt32 &&& 255).toUInt32.toUInt16.toUInt32.toInt32)) = v :=
  own_fin (P := fun v => nar .char (nar .char ((v.toInt8.toInt32 &&& 255).toUInt32.toUInt16.toUInt32.toInt32)) = v) 256 (by decide) (by decide +kernel) v h0 (by omega)
def own_step (b : Bool) (i : Int32) (x : Int64) : Int64 := if b = true then x ||| ((1 : Int64) <<< (i.toInt64 &&& 63)) else x
def own_bits (b0 b1 b2 b3 : Bool) : Int64 := own_step b3 3 (own_step b2 2 (own_step b1 1 (own_step b0 0 0)))
theorem own_st0 {P : Prop} [Decidable P] (i : Int32) (y : Int64) (q : (if P then (1 : Int32) else 0) = 0) : y = own_step (decide P) i y := by
  by_cases r : P
  · rw [if_pos r] at q; exact absurd q (by decide)
  · simp [own_step, r]
theorem own_st1 {P : Prop} [Decidable P] (i : Int32) (y : Int64) (q : ¬ (if P then (1 : Int32) else 0) = 0) : y ||| ((1 : Int64) <<< (i.toInt64 &&& 63)) = own_step (decide P) i y := by
  by_cases r : P
  · simp [own_step, r]
  · rw [if_neg r] at q; exact absurd rfl q
theorem own_bm1 : ∀ b0 b1 b2 b3 : Bool, ¬ own_bits b0 b1 b2 b3 = -1 := by decide +kernel
def own_bb (gc : Nat → Int32) (lo hi : Int32) (i : Nat) : Bool := decide (¬ gc i < lo ∧ ¬ hi < gc i)
def own_B (gc : Nat → Int32) (lo hi : Int32) : Int64 := own_bits (own_bb gc lo hi 0) (own_bb gc lo hi 1) (own_bb gc lo hi 2) (own_bb gc lo hi 3)
def own_out (B : Int64) (fv : Int32) : Int64 := (B ^^^ (-1 : Int64)) &&& ((-1 : Int64) <<< (fv.toInt64 &&& 63))
def own_minL (y1 y2 : Int64) : Int64 := if 0 < XT.cmpL y1 y2 then y2 else y1
def own_end (B : Int64) (fv cp : Int32) : Int32 := (own_minL (((0 : Int32).toInt64 <<< ((6 : Int32).toInt64 &&& 63)) + (own_ntzL (own_out B fv)).toInt64) cp.toInt64).toInt32
theorem ef_rm_minl (m : MethodId) (x0 : Int64) (x1 : Int64)  : entryFrame m #[(.long x0), (.long x1)] 4 = mkF m 0 #[.val (.long x0), .second, .val (.long x1), .second] [] := by first | (simp [entryFrame, mkF, argsToLocals, Value.category]; done) | rfl
theorem pn_165 : plainFor (⟨"java/lang/Math", "min", "(JJ)J"⟩ : MethodName) = true := by first | exact plainFor_of_name (by first | (simp [plainName, overriddenIn]; done) | decide +kernel) | decide +kernel
set_option maxRecDepth 65536 in
set_option maxHeartbeats 40000000 in
theorem rm_minl (l : Launch) (Z : State) (a0 : Array Value) (hw : ∀ d ∈ tables_1, d.before a0 Z = true) (u1 u2 : Int64) (h0 : Heap) :
    Ctr l Z (⟨"java/lang/Math", "min", "(JJ)J"⟩ : MethodName) jdk_29_method_70_code 4 (Option.some FieldType.long) [] ({ frames := 0, cells := 0, slots := 0, locals := 0 } : Room) ({ frames := 0, cells := 0, slots := 0, locals := 0 } : Room).cells ({ frames := 0, cells := 0, slots := 0, locals := 0 } : Room).slots #[(.long u1), (.long u2)] h0 (fun u h L => u = some (.long (own_minL u1 u2)) ∧ L = [] ∧ h = h0) := by
  refine Ctr.of pn_165 ?_
  intro p e s m below meth c s₁ hx hby hml hown hnm hret hlk hZ X0 e0
  refine Goes.cast (ef_rm_minl m u1 u2) ?_
  refine g_lload_n (i := 0) X0 hx (hb hby d34_0) (by rfl) rfl ?_
  refine g_lload_n (i := 2) X0 hx (hb hby d34_1) (by rfl) rfl ?_
  refine g_lcmp X0 hx (hb hby d34_2) rfl ?_
  refine g_if_gt X0 hx (hb hby d34_3) (by decide) (pt := 10) (by decide) rfl (fun q166 => ?_) (fun q166 => ?_)
  · refine g_lload_n (i := 2) X0 hx (hb hby d34_10) (by rfl) rfl ?_
    exact g_retJ X0 hx hlk hret e0 (by decide) (by decide) (hb hby d34_11) ⟨by simp only [own_minL, q166, if_true, if_false], rfl, rfl⟩
  · refine g_lload_n (i := 0) X0 hx (hb hby d34_6) (by rfl) rfl ?_
    refine g_goto X0 hx (hb hby d34_7) (by decide) (by decide) (pc' := 11) ?_
    exact g_retJ X0 hx hlk hret e0 (by decide) (by decide) (hb hby d34_11) ⟨by simp only [own_minL, q166, if_true, if_false], rfl, rfl⟩
theorem ef_rm_rd1 (m : MethodId) (x0 : Addr) (x1 : Int32)  : entryFrame m #[(.ref x0), (.int x1)] 7 = mkF m 0 #[.val (.ref x0), .val (.int x1), .unset, .unset, .unset, .unset, .unset] [] := by first | (simp [entryFrame, mkF, argsToLocals, Value.category]; done) | rfl
theorem pn_167 : plainFor (⟨"com/example/nav_by_schema/navbyschema/regex/UnitRuns", "read", "(I)V"⟩ : MethodName) = true := by first | exact plainFor_of_name (by first | (simp [plainName, overriddenIn]; done) | decide +kernel) | decide +kernel
set_option maxRecDepth 65536 in
set_option maxHeartbeats 40000000 in
theorem rm_rd1 (l : Launch) (Z : State) (a0 : Array Value) (hw : ∀ d ∈ tables_1, d.before a0 Z = true) (a : Addr) (n0 : Nat) (tv sv : Value) (mb nb : Addr) (fm : Nat → Int64) (fn : Nat → Int32) (tc : Int32) (ur : Int64) (h0 : Heap) (H : own_U Z h0 a n0 tv sv mb nb 1 fm fn tc ur) (hn : ¬ fn 0 = 0) :
    Ctr l Z (⟨"com/example/nav_by_schema/navbyschema/regex/UnitRuns", "read", "(I)V"⟩ : MethodName) prog_27_method_7_code 7 (Option.none : Option FieldType) [] ({ frames := 0, cells := 0, slots := 0, locals := 0 } : Room) ({ frames := 0, cells := 0, slots := 0, locals := 0 } : Room).cells ({ frames := 0, cells := 0, slots := 0, locals := 0 } : Room).slots #[(.ref a), (.int (0 : Int32))] h0 (fun u h L => u = none ∧ L = [] ∧ h = h0) := by
  refine Ctr.of pn_167 ?_
  intro p e s m below meth c s₁ hx hby hml hown hnm hret hlk hZ X0 e0
  refine Goes.cast (ef_rm_rd1 m a (0 : Int32)) ?_
  obtain ⟨E, F_text, F_set, F_members, F_next, F_touched, F_unitsRead, AM, AN, d1, d2, d3, g1, g2, g3, g4⟩ := H
  refine g_aload_n (i := 0) X0 hx (hb hby d25_0) (by rfl) rfl rfl ?_
  refine g_getF X0 hx hZ hown (wd hw 117 rfl) e0 F_next (hb hby d25_1) rfl ?_
  intro T168 X168 e168
  refine g_iload_n (i := 1) X168 hx (hb hby d25_4) (by rfl) rfl ?_
  refine g_iaload' X168 hx hZ e168 AN (by decide) (by decide) (x := (fn 0)) rfl (hb hby d25_5) rfl ?_
  refine g_if_ne X168 hx (hb hby d25_6) (by decide) (pt := 132) (by decide) rfl (fun _ => ?_) (fun q_ => absurd q_ (hn))
  exact g_ret X168 hx hlk hret e168 (by decide) (by decide) (hb hby d25_132) ⟨rfl, rfl, rfl⟩
theorem ef_rm_rd0 (m : MethodId) (x0 : Addr) (x1 : Int32)  : entryFrame m #[(.ref x0), (.int x1)] 7 = mkF m 0 #[.val (.ref x0), .val (.int x1), .unset, .unset, .unset, .unset, .unset] [] := by first | (simp [entryFrame, mkF, argsToLocals, Value.category]; done) | rfl
theorem pd_176 : parseMethodDescriptor "(I)C" = some ⟨[.int], some .char⟩ := by decide +kernel
theorem pd_177 : parseMethodDescriptor "(C)Z" = some ⟨[.char], some .boolean⟩ := by decide +kernel
set_option maxRecDepth 65536 in
set_option maxHeartbeats 40000000 in
theorem rm_rd0 (l : Launch) (Z : State) (a0 : Array Value) (hw : ∀ d ∈ tables_1, d.before a0 Z = true) (a : Addr) (n0 : Nat) (mb nb : Addr) (fm : Nat → Int64) (fn : Nat → Int32) (ur : Int64) (h0 : Heap) (ta tb sa ra : Addr) (lo hi cs : Int32) (sf : Value) (gc fr : Nat → Int32) (hI : Heap) (EI : Ext hI h0) (nI : hI.size ≤ n0) (WI : own_W Z hI ta tb sa ra lo hi cs sf gc fr) (H : own_U Z h0 a n0 (.ref ta) (.ref sa) mb nb 1 fm fn 0 ur) (hn : fn 0 = 0) :
    Ctr l Z (⟨"com/example/nav_by_schema/navbyschema/regex/UnitRuns", "read", "(I)V"⟩ : MethodName) prog_27_method_7_code 7 (Option.none : Option FieldType) [] ({ frames := 4, cells := 0, slots := 0, locals := 54 } : Room) ({ frames := 4, cells := 0, slots := 0, locals := 54 } : Room).cells ({ frames := 4, cells := 0, slots := 0, locals := 54 } : Room).slots #[(.ref a), (.int (0 : Int32))] h0 (fun u h L => u = none ∧ Fr n0 L ∧ Ext hI h ∧ own_U Z h a n0 (.ref ta) (.ref sa) mb nb 1 (fun k => if k = 0 then (own_B gc lo hi) else fm k) (fun k => if k = 0 then -1 else fn k) 1 (ur + (4 : Int32).toInt64)) := by
  refine Ctr.of pn_167 ?_
  intro p e s m below meth c s₁ hx hby hml hown hnm hret hlk hZ X0 e0
  refine Goes.cast (ef_rm_rd0 m a (0 : Int32)) ?_
  obtain ⟨E, F_text, F_set, F_members, F_next, F_touched, F_unitsRead, AM, AN, d1, d2, d3, g1, g2, g3, g4⟩ := H
  obtain ⟨S_cs, hcs, S_sf, hr_sf, hc_sf, St, r0, r1, Ra, Cu, Hg⟩ := WI
  have St1 := St.ext EI
  have S1 := S_cs.ext EI
  have S2 := S_sf.ext EI
  have Ra1 := Ra.ext EI
  have Cu1 := Cu.ext EI
  refine g_aload_n (i := 0) X0 hx (hb hby d25_0) (by rfl) rfl rfl ?_
  refine g_getF X0 hx hZ hown (wd hw 117 rfl) e0 F_next (hb hby d25_1) rfl ?_
  intro T170 X170 e170
  refine g_iload_n (i := 1) X170 hx (hb hby d25_4) (by rfl) rfl ?_
  refine g_iaload' X170 hx hZ e170 AN (by decide) (by decide) (x := (0 : Int32)) hn (hb hby d25_5) rfl ?_
  refine g_if_ne X170 hx (hb hby d25_6) (by decide) (pt := 132) (by decide) rfl (fun q_ => absurd (by decide) q_) (fun _ => ?_)
  refine g_iload_n (i := 1) X170 hx (hb hby d25_9) (by rfl) rfl ?_
  refine g_bipush (v := (6 : Int32)) X170 hx (hb hby d25_10) (by decide) rfl ?_
  refine g_ishl X170 hx (hb hby d25_12) rfl ?_
  rw [show ((0 : Int32) <<< ((6 : Int32) &&& 31)) = (0 : Int32) by decide]
  refine g_istore_n (i := 2) X170 hx #[.val (.ref a), .val (.int (0 : Int32)), .val (.int (0 : Int32)), .unset, .unset, .unset, .unset] (hb hby d25_13) rfl rfl ?_
  refine g_iload_n (i := 2) X170 hx (hb hby d25_14) (by rfl) rfl ?_
  refine g_bipush (v := (64 : Int32)) X170 hx (hb hby d25_15) (by decide) rfl ?_
  refine g_iadd X170 hx (hb hby d25_17) rfl ?_
  rw [show ((0 : Int32) + (64 : Int32)) = (64 : Int32) by decide]
  refine g_aload_n (i := 0) X170 hx (hb hby d25_18) (by rfl) rfl rfl ?_
  refine g_getF X170 hx hZ hown (wd hw 124 rfl) e170 F_text (hb hby d25_19) rfl ?_
  intro T171 X171 e171
  refine g_callV X171 hx hZ hown (wd hw 132 rfl) (wd hw 133 rfl) (wd hw 135 rfl) (wd hw 134 rfl) (wd hw 3 rfl) (wd hw 136 rfl) (by decide) e171 ta St1.1 (rm_len l Z a0 hw ta tb _ h0 cs S1 hcs St1) (by rw [hml]; rfl) [] [(.int (64 : Int32))] rfl (lenOf pd_149 rfl) rfl (by show 1 + (1 + 11) + 13 ≤ _; decide) (by decide) (by decide) (by decide) (hb hby d25_22) rfl ?_
  intro T172 v172 L172 X172 hQ172
  obtain ⟨rfl, rfl, e172⟩ := hQ172
  have N172 := Fr.app (Fr.nil n0) (Fr.nil n0)
  show Goes p e below _ T172 (mkF m 25 #[.val (.ref a), .val (.int (0 : Int32)), .val (.int (0 : Int32)), .unset, .unset, .unset, .unset] [(.int (4 : Int32)), (.int (64 : Int32))])
  refine g_callS X172 hx hZ hown (wd hw 148 rfl) (wd hw 31 rfl) (wd hw 32 rfl) (wd hw 33 rfl) (by decide) e172 (rm_min l Z a0 hw 64 4 h0) (by rw [hml]; rfl) [(.int (64 : Int32)), (.int (4 : Int32))] [] rfl (lenOf pd_67 rfl) rfl (by show 0 + (2 + 11) + 0 ≤ _; decide) (by decide) (by decide) (by decide) (hb hby d25_25) rfl ?_
  intro T173 v173 L173 X173 hQ173
  obtain ⟨rfl, rfl, e173⟩ := hQ173
  have N173 := Fr.app N172 (Fr.nil n0)
  show Goes p e below _ T173 (mkF m 28 #[.val (.ref a), .val (.int (0 : Int32)), .val (.int (0 : Int32)), .unset, .unset, .unset, .unset] [(.int (if (4 : Int32) < (64 : Int32) then (4 : Int32) else (64 : Int32)))])
  rw [show (if (4 : Int32) < (64 : Int32) then (4 : Int32) else (64 : Int32)) = (4 : Int32) by decide]
  show Goes p e below _ T173 (mkF m 28 #[.val (.ref a), .val (.int (0 : Int32)), .val (.int (0 : Int32)), .unset, .unset, .unset, .unset] [(.int (4 : Int32))])
  refine g_istore_n (i := 3) X173 hx #[.val (.ref a), .val (.int (0 : Int32)), .val (.int (0 : Int32)), .val (.int (4 : Int32)), .unset, .unset, .unset] (hb hby d25_28) rfl rfl ?_
  refine g_lconst (v := (0 : Int64)) X173 hx (hb hby d25_29) (by decide) rfl ?_
  refine g_lstore (i := 4) X173 hx #[.val (.ref a), .val (.int (0 : Int32)), .val (.int (0 : Int32)), .val (.int (4 : Int32)), .val (.long (0 : Int64)), .second, .unset] (hb hby d25_30) rfl rfl ?_
  refine g_iload_n (i := 2) X173 hx (hb hby d25_32) (by rfl) rfl ?_
  refine g_istore (i := 6) X173 hx #[.val (.ref a), .val (.int (0 : Int32)), .val (.int (0 : Int32)), .val (.int (4 : Int32)), .val (.long (0 : Int64)), .second, .val (.int (0 : Int32))] (hb hby d25_33) rfl rfl ?_
  refine g_iload (i := 6) X173 hx (hb hby d25_35) (by rfl) rfl ?_
  refine g_iload_n (i := 3) X173 hx (hb hby d25_37) (by rfl) rfl ?_
  refine g_icmp_ge X173 hx (hb hby d25_38) (by decide) (pt := 75) (by decide) rfl (fun q_ => absurd (by decide) q_) (fun _ => ?_)
  refine g_aload_n (i := 0) X173 hx (hb hby d25_41) (by rfl) rfl rfl ?_
  refine g_getF X173 hx hZ hown (wd hw 130 rfl) e173 F_set (hb hby d25_42) rfl ?_
  intro T174 X174 e174
  refine g_aload_n (i := 0) X174 hx (hb hby d25_45) (by rfl) rfl rfl ?_
  refine g_getF X174 hx hZ hown (wd hw 124 rfl) e174 F_text (hb hby d25_46) rfl ?_
  intro T175 X175 e175
  refine g_iload (i := 6) X175 hx (hb hby d25_49) (by rfl) rfl ?_
  refine g_callV X175 hx hZ hown (wd hw 149 rfl) (wd hw 150 rfl) (wd hw 152 rfl) (wd hw 151 rfl) (wd hw 3 rfl) (wd hw 153 rfl) (by decide) e175 ta St1.1 (rm_ca l Z a0 hw ta tb (0 : Int32) cs sf 4 (fun i => (gc i).toInt8.toInt32) h0 S1 hcs S2 hr_sf hc_sf St1.1 St1.2.1 St1.2.2.1 St1.2.2.2 (by decide) (by decide) (by decide)) (by rw [hml]; rfl) [(.int (0 : Int32))] [(.ref sa)] rfl (lenOf pd_176 rfl) rfl (by show 1 + (2 + 11) + 40 ≤ _; decide) (by decide) (by decide) (by decide) (hb hby d25_51) rfl ?_
  intro T176 v176 L176 X176 hQ176
  obtain ⟨rfl, rfl, e176⟩ := hQ176
  have N176 := Fr.app N173 (Fr.nil n0)
  show Goes p e below _ T176 (mkF m 54 #[.val (.ref a), .val (.int (0 : Int32)), .val (.int (0 : Int32)), .val (.int (4 : Int32)), .val (.long (0 : Int64)), .second, .val (.int (0 : Int32))] [(.int (nar .char (nar .char (((gc (0 : Int32).toNatClampNeg).toInt8.toInt32 &&& 255).toUInt32.toUInt16.toUInt32.toInt32)))), (.ref sa)])
  rw [show (nar .char (nar .char (((gc (0 : Int32).toNatClampNeg).toInt8.toInt32 &&& 255).toUInt32.toUInt16.toUInt32.toInt32))) = gc 0 from own_chb (gc 0) (Hg 0 (by decide)).1 (Hg 0 (by decide)).2]
  show Goes p e below _ T176 (mkF m 54 #[.val (.ref a), .val (.int (0 : Int32)), .val (.int (0 : Int32)), .val (.int (4 : Int32)), .val (.long (0 : Int64)), .second, .val (.int (0 : Int32))] [(.int (gc 0)), (.ref sa)])
  refine g_callV X176 hx hZ hown (wd hw 171 rfl) (wd hw 172 rfl) (wd hw 174 rfl) (wd hw 173 rfl) (wd hw 44 rfl) (wd hw 175 rfl) (by decide) e176 sa Cu1.1 (rm_ct l Z a0 hw sa ra lo hi (gc 0) fr h0 r0 r1 (Hg 0 (by decide)).1 Ra1 Cu1) (by rw [hml]; rfl) [(.int (gc 0))] [] rfl (lenOf pd_177 rfl) rfl (by show 0 + (6 + 11) + 0 ≤ _; decide) (by decide) (by decide) (by decide) (hb hby d25_54) rfl ?_
  intro T177 v177 L177 X177 hQ177
  obtain ⟨rfl, rfl, e177⟩ := hQ177
  have N177 := Fr.app N176 (Fr.nil n0)
  show Goes p e below _ T177 (mkF m 57 #[.val (.ref a), .val (.int (0 : Int32)), .val (.int (0 : Int32)), .val (.int (4 : Int32)), .val (.long (0 : Int64)), .second, .val (.int (0 : Int32))] [(.int (if ¬ (gc 0) < lo ∧ ¬ hi < (gc 0) then (1 : Int32) else 0))])
  have J0 : ∀ (bt0 : Int64), bt0 = own_step (own_bb gc lo hi 0) (0 : Int32) (0 : Int64) → Goes p e below (KQ s ({ frames := 4, cells := 0, slots := 0, locals := 54 } : Room).cells ({ frames := 4, cells := 0, slots := 0, locals := 54 } : Room).slots (fun u h L => u = none ∧ Fr n0 L ∧ Ext hI h ∧ own_U Z h a n0 (.ref ta) (.ref sa) mb nb 1 (fun k => if k = 0 then (own_B gc lo hi) else fm k) (fun k => if k = 0 then -1 else fn k) 1 (ur + (4 : Int32).toInt64))) T177 (mkF m 69 #[.val (.ref a), .val (.int (0 : Int32)), .val (.int (0 : Int32)), .val (.int (4 : Int32)), .val (.long bt0), .second, .val (.int (0 : Int32))] []) := by
    intro bt0 hb0
    refine g_iinc (i := 6) (x := (0 : Int32)) (y := (1 : Int32)) X177 hx #[.val (.ref a), .val (.int (0 : Int32)), .val (.int (0 : Int32)), .val (.int (4 : Int32)), .val (.long bt0), .second, .val (.int (1 : Int32))] (hb hby d25_69) (by rfl) (by decide) rfl rfl ?_
    refine g_goto X177 hx (hb hby d25_72) (by decide) (by decide) (pc' := 35) ?_
    refine g_iload (i := 6) X177 hx (hb hby d25_35) (by rfl) rfl ?_
    refine g_iload_n (i := 3) X177 hx (hb hby d25_37) (by rfl) rfl ?_
    refine g_icmp_ge X177 hx (hb hby d25_38) (by decide) (pt := 75) (by decide) rfl (fun q_ => absurd (by decide) q_) (fun _ => ?_)
    refine g_aload_n (i := 0) X177 hx (hb hby d25_41) (by rfl) rfl rfl ?_
    refine g_getF X177 hx hZ hown (wd hw 130 rfl) e177 F_set (hb hby d25_42) rfl ?_
    intro T178 X178 e178
    refine g_aload_n (i := 0) X178 hx (hb hby d25_45) (by rfl) rfl rfl ?_
    refine g_getF X178 hx hZ hown (wd hw 124 rfl) e178 F_text (hb hby d25_46) rfl ?_
    intro T179 X179 e179
    refine g_iload (i := 6) X179 hx (hb hby d25_49) (by rfl) rfl ?_
    refine g_callV X179 hx hZ hown (wd hw 149 rfl) (wd hw 150 rfl) (wd hw 152 rfl) (wd hw 151 rfl) (wd hw 3 rfl) (wd hw 153 rfl) (by decide) e179 ta St1.1 (rm_ca l Z a0 hw ta tb (1 : Int32) cs sf 4 (fun i => (gc i).toInt8.toInt32) h0 S1 hcs S2 hr_sf hc_sf St1.1 St1.2.1 St1.2.2.1 St1.2.2.2 (by decide) (by decide) (by decide)) (by rw [hml]; rfl) [(.int (1 : Int32))] [(.ref sa)] rfl (lenOf pd_176 rfl) rfl (by show 1 + (2 + 11) + 40 ≤ _; decide) (by decide) (by decide) (by decide) (hb hby d25_51) rfl ?_
    intro T180 v180 L180 X180 hQ180
    obtain ⟨rfl, rfl, e180⟩ := hQ180
    have N180 := Fr.app N177 (Fr.nil n0)
    show Goes p e below _ T180 (mkF m 54 #[.val (.ref a), .val (.int (0 : Int32)), .val (.int (0 : Int32)), .val (.int (4 : Int32)), .val (.long bt0), .second, .val (.int (1 : Int32))] [(.int (nar .char (nar .char (((gc (1 : Int32).toNatClampNeg).toInt8.toInt32 &&& 255).toUInt32.toUInt16.toUInt32.toInt32)))), (.ref sa)])
    rw [show (nar .char (nar .char (((gc (1 : Int32).toNatClampNeg).toInt8.toInt32 &&& 255).toUInt32.toUInt16.toUInt32.toInt32))) = gc 1 from own_chb (gc 1) (Hg 1 (by decide)).1 (Hg 1 (by decide)).2]
    show Goes p e below _ T180 (mkF m 54 #[.val (.ref a), .val (.int (0 : Int32)), .val (.int (0 : Int32)), .val (.int (4 : Int32)), .val (.long bt0), .second, .val (.int (1 : Int32))] [(.int (gc 1)), (.ref sa)])
    refine g_callV X180 hx hZ hown (wd hw 171 rfl) (wd hw 172 rfl) (wd hw 174 rfl) (wd hw 173 rfl) (wd hw 44 rfl) (wd hw 175 rfl) (by decide) e180 sa Cu1.1 (rm_ct l Z a0 hw sa ra lo hi (gc 1) fr h0 r0 r1 (Hg 1 (by decide)).1 Ra1 Cu1) (by rw [hml]; rfl) [(.int (gc 1))] [] rfl (lenOf pd_177 rfl) rfl (by show 0 + (6 + 11) + 0 ≤ _; decide) (by decide) (by decide) (by decide) (hb hby d25_54) rfl ?_
    intro T181 v181 L181 X181 hQ181
    obtain ⟨rfl, rfl, e181⟩ := hQ181
    have N181 := Fr.app N180 (Fr.nil n0)
    show Goes p e below _ T181 (mkF m 57 #[.val (.ref a), .val (.int (0 : Int32)), .val (.int (0 : Int32)), .val (.int (4 : Int32)), .val (.long bt0), .second, .val (.int (1 : Int32))] [(.int (if ¬ (gc 1) < lo ∧ ¬ hi < (gc 1) then (1 : Int32) else 0))])
    have J1 : ∀ (bt1 : Int64), bt1 = own_step (own_bb gc lo hi 1) (1 : Int32) bt0 → Goes p e below (KQ s ({ frames := 4, cells := 0, slots := 0, locals := 54 } : Room).cells ({ frames := 4, cells := 0, slots := 0, locals := 54 } : Room).slots (fun u h L => u = none ∧ Fr n0 L ∧ Ext hI h ∧ own_U Z h a n0 (.ref ta) (.ref sa) mb nb 1 (fun k => if k = 0 then (own_B gc lo hi) else fm k) (fun k => if k = 0 then -1 else fn k) 1 (ur + (4 : Int32).toInt64))) T181 (mkF m 69 #[.val (.ref a), .val (.int (0 : Int32)), .val (.int (0 : Int32)), .val (.int (4 : Int32)), .val (.long bt1), .second, .val (.int (1 : Int32))] []) := by
      intro bt1 hb1
      refine g_iinc (i := 6) (x := (1 : Int32)) (y := (2 : Int32)) X181 hx #[.val (.ref a), .val (.int (0 : Int32)), .val (.int (0 : Int32)), .val (.int (4 : Int32)), .val (.long bt1), .second, .val (.int (2 : Int32))] (hb hby d25_69) (by rfl) (by decide) rfl rfl ?_
      refine g_goto X181 hx (hb hby d25_72) (by decide) (by decide) (pc' := 35) ?_
      refine g_iload (i := 6) X181 hx (hb hby d25_35) (by rfl) rfl ?_
      refine g_iload_n (i := 3) X181 hx (hb hby d25_37) (by rfl) rfl ?_
      refine g_icmp_ge X181 hx (hb hby d25_38) (by decide) (pt := 75) (by decide) rfl (fun q_ => absurd (by decide) q_) (fun _ => ?_)
      refine g_aload_n (i := 0) X181 hx (hb hby d25_41) (by rfl) rfl rfl ?_
      refine g_getF X181 hx hZ hown (wd hw 130 rfl) e181 F_set (hb hby d25_42) rfl ?_
      intro T182 X182 e182
      refine g_aload_n (i := 0) X182 hx (hb hby d25_45) (by rfl) rfl rfl ?_
      refine g_getF X182 hx hZ hown (wd hw 124 rfl) e182 F_text (hb hby d25_46) rfl ?_
      intro T183 X183 e183
      refine g_iload (i := 6) X183 hx (hb hby d25_49) (by rfl) rfl ?_
      refine g_callV X183 hx hZ hown (wd hw 149 rfl) (wd hw 150 rfl) (wd hw 152 rfl) (wd hw 151 rfl) (wd hw 3 rfl) (wd hw 153 rfl) (by decide) e183 ta St1.1 (rm_ca l Z a0 hw ta tb (2 : Int32) cs sf 4 (fun i => (gc i).toInt8.toInt32) h0 S1 hcs S2 hr_sf hc_sf St1.1 St1.2.1 St1.2.2.1 St1.2.2.2 (by decide) (by decide) (by decide)) (by rw [hml]; rfl) [(.int (2 : Int32))] [(.ref sa)] rfl (lenOf pd_176 rfl) rfl (by show 1 + (2 + 11) + 40 ≤ _; decide) (by decide) (by decide) (by decide) (hb hby d25_51) rfl ?_
      intro T184 v184 L184 X184 hQ184
      obtain ⟨rfl, rfl, e184⟩ := hQ184
      have N184 := Fr.app N181 (Fr.nil n0)
      show Goes p e below _ T184 (mkF m 54 #[.val (.ref a), .val (.int (0 : Int32)), .val (.int (0 : Int32)), .val (.int (4 : Int32)), .val (.long bt1), .second, .val (.int (2 : Int32))] [(.int (nar .char (nar .char (((gc (2 : Int32).toNatClampNeg).toInt8.toInt32 &&& 255).toUInt32.toUInt16.toUInt32.toInt32)))), (.ref sa)])
      rw [show (nar .char (nar .char (((gc (2 : Int32).toNatClampNeg).toInt8.toInt32 &&& 255).toUInt32.toUInt16.toUInt32.toInt32))) = gc 2 from own_chb (gc 2) (Hg 2 (by decide)).1 (Hg 2 (by decide)).2]
      show Goes p e below _ T184 (mkF m 54 #[.val (.ref a), .val (.int (0 : Int32)), .val (.int (0 : Int32)), .val (.int (4 : Int32)), .val (.long bt1), .second, .val (.int (2 : Int32))] [(.int (gc 2)), (.ref sa)])
      refine g_callV X184 hx hZ hown (wd hw 171 rfl) (wd hw 172 rfl) (wd hw 174 rfl) (wd hw 173 rfl) (wd hw 44 rfl) (wd hw 175 rfl) (by decide) e184 sa Cu1.1 (rm_ct l Z a0 hw sa ra lo hi (gc 2) fr h0 r0 r1 (Hg 2 (by decide)).1 Ra1 Cu1) (by rw [hml]; rfl) [(.int (gc 2))] [] rfl (lenOf pd_177 rfl) rfl (by show 0 + (6 + 11) + 0 ≤ _; decide) (by decide) (by decide) (by decide) (hb hby d25_54) rfl ?_
      intro T185 v185 L185 X185 hQ185
      obtain ⟨rfl, rfl, e185⟩ := hQ185
      have N185 := Fr.app N184 (Fr.nil n0)
      show Goes p e below _ T185 (mkF m 57 #[.val (.ref a), .val (.int (0 : Int32)), .val (.int (0 : Int32)), .val (.int (4 : Int32)), .val (.long bt1), .second, .val (.int (2 : Int32))] [(.int (if ¬ (gc 2) < lo ∧ ¬ hi < (gc 2) then (1 : Int32) else 0))])
      have J2 : ∀ (bt2 : Int64), bt2 = own_step (own_bb gc lo hi 2) (2 : Int32) bt1 → Goes p e below (KQ s ({ frames := 4, cells := 0, slots := 0, locals := 54 } : Room).cells ({ frames := 4, cells := 0, slots := 0, locals := 54 } : Room).slots (fun u h L => u = none ∧ Fr n0 L ∧ Ext hI h ∧ own_U Z h a n0 (.ref ta) (.ref sa) mb nb 1 (fun k => if k = 0 then (own_B gc lo hi) else fm k) (fun k => if k = 0 then -1 else fn k) 1 (ur + (4 : Int32).toInt64))) T185 (mkF m 69 #[.val (.ref a), .val (.int (0 : Int32)), .val (.int (0 : Int32)), .val (.int (4 : Int32)), .val (.long bt2), .second, .val (.int (2 : Int32))] []) := by
        intro bt2 hb2
        refine g_iinc (i := 6) (x := (2 : Int32)) (y := (3 : Int32)) X185 hx #[.val (.ref a), .val (.int (0 : Int32)), .val (.int (0 : Int32)), .val (.int (4 : Int32)), .val (.long bt2), .second, .val (.int (3 : Int32))] (hb hby d25_69) (by rfl) (by decide) rfl rfl ?_
        refine g_goto X185 hx (hb hby d25_72) (by decide) (by decide) (pc' := 35) ?_
        refine g_iload (i := 6) X185 hx (hb hby d25_35) (by rfl) rfl ?_
        refine g_iload_n (i := 3) X185 hx (hb hby d25_37) (by rfl) rfl ?_
        refine g_icmp_ge X185 hx (hb hby d25_38) (by decide) (pt := 75) (by decide) rfl (fun q_ => absurd (by decide) q_) (fun _ => ?_)
        refine g_aload_n (i := 0) X185 hx (hb hby d25_41) (by rfl) rfl rfl ?_
        refine g_getF X185 hx hZ hown (wd hw 130 rfl) e185 F_set (hb hby d25_42) rfl ?_
        intro T186 X186 e186
        refine g_aload_n (i := 0) X186 hx (hb hby d25_45) (by rfl) rfl rfl ?_
        refine g_getF X186 hx hZ hown (wd hw 124 rfl) e186 F_text (hb hby d25_46) rfl ?_
        intro T187 X187 e187
        refine g_iload (i := 6) X187 hx (hb hby d25_49) (by rfl) rfl ?_
        refine g_callV X187 hx hZ hown (wd hw 149 rfl) (wd hw 150 rfl) (wd hw 152 rfl) (wd hw 151 rfl) (wd hw 3 rfl) (wd hw 153 rfl) (by decide) e187 ta St1.1 (rm_ca l Z a0 hw ta tb (3 : Int32) cs sf 4 (fun i => (gc i).toInt8.toInt32) h0 S1 hcs S2 hr_sf hc_sf St1.1 St1.2.1 St1.2.2.1 St1.2.2.2 (by decide) (by decide) (by decide)) (by rw [hml]; rfl) [(.int (3 : Int32))] [(.ref sa)] rfl (lenOf pd_176 rfl) rfl (by show 1 + (2 + 11) + 40 ≤ _; decide) (by decide) (by decide) (by decide) (hb hby d25_51) rfl ?_
        intro T188 v188 L188 X188 hQ188
        obtain ⟨rfl, rfl, e188⟩ := hQ188
        have N188 := Fr.app N185 (Fr.nil n0)
        show Goes p e below _ T188 (mkF m 54 #[.val (.ref a), .val (.int (0 : Int32)), .val (.int (0 : Int32)), .val (.int (4 : Int32)), .val (.long bt2), .second, .val (.int (3 : Int32))] [(.int (nar .char (nar .char (((gc (3 : Int32).toNatClampNeg).toInt8.toInt32 &&& 255).toUInt32.toUInt16.toUInt32.toInt32)))), (.ref sa)])
        rw [show (nar .char (nar .char (((gc (3 : Int32).toNatClampNeg).toInt8.toInt32 &&& 255).toUInt32.toUInt16.toUInt32.toInt32))) = gc 3 from own_chb (gc 3) (Hg 3 (by decide)).1 (Hg 3 (by decide)).2]
        show Goes p e below _ T188 (mkF m 54 #[.val (.ref a), .val (.int (0 : Int32)), .val (.int (0 : Int32)), .val (.int (4 : Int32)), .val (.long bt2), .second, .val (.int (3 : Int32))] [(.int (gc 3)), (.ref sa)])
        refine g_callV X188 hx hZ hown (wd hw 171 rfl) (wd hw 172 rfl) (wd hw 174 rfl) (wd hw 173 rfl) (wd hw 44 rfl) (wd hw 175 rfl) (by decide) e188 sa Cu1.1 (rm_ct l Z a0 hw sa ra lo hi (gc 3) fr h0 r0 r1 (Hg 3 (by decide)).1 Ra1 Cu1) (by rw [hml]; rfl) [(.int (gc 3))] [] rfl (lenOf pd_177 rfl) rfl (by show 0 + (6 + 11) + 0 ≤ _; decide) (by decide) (by decide) (by decide) (hb hby d25_54) rfl ?_
        intro T189 v189 L189 X189 hQ189
        obtain ⟨rfl, rfl, e189⟩ := hQ189
        have N189 := Fr.app N188 (Fr.nil n0)
        show Goes p e below _ T189 (mkF m 57 #[.val (.ref a), .val (.int (0 : Int32)), .val (.int (0 : Int32)), .val (.int (4 : Int32)), .val (.long bt2), .second, .val (.int (3 : Int32))] [(.int (if ¬ (gc 3) < lo ∧ ¬ hi < (gc 3) then (1 : Int32) else 0))])
        have J3 : ∀ (bt3 : Int64), bt3 = own_step (own_bb gc lo hi 3) (3 : Int32) bt2 → Goes p e below (KQ s ({ frames := 4, cells := 0, slots := 0, locals := 54 } : Room).cells ({ frames := 4, cells := 0, slots := 0, locals := 54 } : Room).slots (fun u h L => u = none ∧ Fr n0 L ∧ Ext hI h ∧ own_U Z h a n0 (.ref ta) (.ref sa) mb nb 1 (fun k => if k = 0 then (own_B gc lo hi) else fm k) (fun k => if k = 0 then -1 else fn k) 1 (ur + (4 : Int32).toInt64))) T189 (mkF m 69 #[.val (.ref a), .val (.int (0 : Int32)), .val (.int (0 : Int32)), .val (.int (4 : Int32)), .val (.long bt3), .second, .val (.int (3 : Int32))] []) := by
          intro bt3 hb3
          refine g_iinc (i := 6) (x := (3 : Int32)) (y := (4 : Int32)) X189 hx #[.val (.ref a), .val (.int (0 : Int32)), .val (.int (0 : Int32)), .val (.int (4 : Int32)), .val (.long bt3), .second, .val (.int (4 : Int32))] (hb hby d25_69) (by rfl) (by decide) rfl rfl ?_
          refine g_goto X189 hx (hb hby d25_72) (by decide) (by decide) (pc' := 35) ?_
          refine g_iload (i := 6) X189 hx (hb hby d25_35) (by rfl) rfl ?_
          refine g_iload_n (i := 3) X189 hx (hb hby d25_37) (by rfl) rfl ?_
          refine g_icmp_ge X189 hx (hb hby d25_38) (by decide) (pt := 75) (by decide) rfl (fun _ => ?_) (fun q_ => absurd q_ (by decide))
          have hbt : bt3 = (own_B gc lo hi) := by rw [hb3, hb2, hb1, hb0]; rfl
          clear hb3 hb2 hb1 hb0
          subst hbt
          show Goes p e below _ T189 (mkF m 75 #[.val (.ref a), .val (.int (0 : Int32)), .val (.int (0 : Int32)), .val (.int (4 : Int32)), .val (.long (own_B gc lo hi)), .second, .val (.int (4 : Int32))] [])
          refine g_aload_n (i := 0) X189 hx (hb hby d25_75) (by rfl) rfl rfl ?_
          refine g_getF X189 hx hZ hown (wd hw 115 rfl) e189 F_members (hb hby d25_76) rfl ?_
          intro T190 X190 e190
          refine g_iload_n (i := 1) X190 hx (hb hby d25_79) (by rfl) rfl ?_
          refine g_lload (i := 4) X190 hx (hb hby d25_80) (by rfl) rfl ?_
          refine g_lastoreN X190 hx hZ e190 AM 0 (by decide) (by decide) (by decide) (hb hby d25_82) rfl ?_
          intro T191 h191 X191 e191 W191 Ar191
          have N191 := Fr.snoc X191 N189 g2
          have Fa_text := F_text.other W191 (Or.inl (Ne.symm d2))
          have Fa_set := F_set.other W191 (Or.inl (Ne.symm d2))
          have Fa_members := F_members.other W191 (Or.inl (Ne.symm d2))
          have Fa_next := F_next.other W191 (Or.inl (Ne.symm d2))
          have Fa_touched := F_touched.other W191 (Or.inl (Ne.symm d2))
          have Fa_unitsRead := F_unitsRead.other W191 (Or.inl (Ne.symm d2))
          have Ea := E.wr W191
          have ANa := AN.other W191 (Ne.symm d1)
          have Za : n0 ≤ h191.size := by rw [W191.size]; exact g4
          have Ia := own_extw EI W191 (Nat.le_trans nI g2)
          refine g_aload_n (i := 0) X191 hx (hb hby d25_83) (by rfl) rfl rfl ?_
          refine g_getF X191 hx hZ hown (wd hw 117 rfl) e191 Fa_next (hb hby d25_84) rfl ?_
          intro T192 X192 e192
          refine g_iload_n (i := 1) X192 hx (hb hby d25_87) (by rfl) rfl ?_
          refine g_lload (i := 4) X192 hx (hb hby d25_88) (by rfl) rfl ?_
          refine g_ldc2J X192 hx hZ hown (wd hw 176 rfl) (hb hby d25_90) rfl ?_
          refine g_lcmp X192 hx (hb hby d25_93) rfl ?_
          refine g_if_ne X192 hx (hb hby d25_94) (by decide) (pt := 103) (by decide) rfl (fun _ => ?_) (fun q_ => absurd q_ (fun z => own_bm1 _ _ _ _ ((cm_eq _ _).mp z)))
          refine g_iconst (v := (-1 : Int32)) X192 hx (hb hby d25_103) (by decide) rfl ?_
          refine g_iastoreN X192 hx hZ e192 ANa 0 (by decide) (by decide) (by decide) (hb hby d25_104) rfl ?_
          intro T193 h193 X193 e193 W193 Ar193
          have N193 := Fr.snoc X193 N191 g3
          have Fb_text := Fa_text.other W193 (Or.inl (Ne.symm d3))
          have Fb_set := Fa_set.other W193 (Or.inl (Ne.symm d3))
          have Fb_members := Fa_members.other W193 (Or.inl (Ne.symm d3))
          have Fb_next := Fa_next.other W193 (Or.inl (Ne.symm d3))
          have Fb_touched := Fa_touched.other W193 (Or.inl (Ne.symm d3))
          have Fb_unitsRead := Fa_unitsRead.other W193 (Or.inl (Ne.symm d3))
          have Eb := Ea.wr W193
          have AMb := Ar191.other W193 d1
          have Zb : n0 ≤ h193.size := by rw [W193.size]; exact Za
          have Ib := own_extw Ia W193 (Nat.le_trans nI g3)
          refine g_aload_n (i := 0) X193 hx (hb hby d25_105) (by rfl) rfl rfl ?_
          refine g_dup X193 hx (hb hby d25_106) rfl rfl ?_
          refine g_getF X193 hx hZ hown (wd hw 177 rfl) e193 Fb_unitsRead (hb hby d25_107) rfl ?_
          intro T194 X194 e194
          refine g_iload_n (i := 3) X194 hx (hb hby d25_110) (by rfl) rfl ?_
          refine g_iload_n (i := 2) X194 hx (hb hby d25_111) (by rfl) rfl ?_
          refine g_isub X194 hx (hb hby d25_112) rfl ?_
          rw [show ((4 : Int32) - (0 : Int32)) = (4 : Int32) by decide]
          refine g_i2l X194 hx (hb hby d25_113) rfl ?_
          refine g_ladd X194 hx (hb hby d25_114) rfl ?_
          refine g_putF X194 hx hZ hown (wd hw 177 rfl) e194 Fb_unitsRead Eb (Or.inl (wd hw 178 rfl)) (wd hw 109 rfl) (ty := .long) (by decide) rfl rfl (hb hby d25_115) rfl ?_
          intro T195 h195 X195 e195 W195
          have N195 := Fr.snoc X195 N193 g1
          have E195_ := Eb.wr W195
          have F195_text := Fb_text.other W195 (Or.inr (slot_ne (C := "com/example/nav_by_schema/navbyschema/regex/UnitRuns") (Or.inl (wd hw 125 rfl)) (Or.inl (wd hw 178 rfl)) (by decide) (t := (.object "java/lang/String")) (t' := .long) (by decide) (by decide)))
          have F195_set := Fb_set.other W195 (Or.inr (slot_ne (C := "com/example/nav_by_schema/navbyschema/regex/UnitRuns") (Or.inl (wd hw 131 rfl)) (Or.inl (wd hw 178 rfl)) (by decide) (t := (.object "com/example/nav_by_schema/navbyschema/regex/CodeUnitSet")) (t' := .long) (by decide) (by decide)))
          have F195_members := Fb_members.other W195 (Or.inr (slot_ne (C := "com/example/nav_by_schema/navbyschema/regex/UnitRuns") (Or.inl (wd hw 116 rfl)) (Or.inl (wd hw 178 rfl)) (by decide) (t := (.array .long)) (t' := .long) (by decide) (by decide)))
          have F195_next := Fb_next.other W195 (Or.inr (slot_ne (C := "com/example/nav_by_schema/navbyschema/regex/UnitRuns") (Or.inl (wd hw 118 rfl)) (Or.inl (wd hw 178 rfl)) (by decide) (t := (.array .int)) (t' := .long) (by decide) (by decide)))
          have F195_touched := Fb_touched.other W195 (Or.inr (slot_ne (C := "com/example/nav_by_schema/navbyschema/regex/UnitRuns") (Or.inl (wd hw 143 rfl)) (Or.inl (wd hw 178 rfl)) (by decide) (t := .int) (t' := .long) (by decide) (by decide)))
          have F195_unitsRead := Fb_unitsRead.same W195
          have AM195 := AMb.other W195 d2
          have AN195 := Ar193.other W195 d3
          have Zh195 : n0 ≤ h195.size := by rw [W195.size]; exact Zb
          have EI195 := own_extw Ib W195 (Nat.le_trans nI g1)
          refine g_aload_n (i := 0) X195 hx (hb hby d25_118) (by rfl) rfl rfl ?_
          refine g_aload_n (i := 0) X195 hx (hb hby d25_119) (by rfl) rfl rfl ?_
          refine g_getF X195 hx hZ hown (wd hw 142 rfl) e195 F195_touched (hb hby d25_120) rfl ?_
          intro T196 X196 e196
          refine g_iload_n (i := 1) X196 hx (hb hby d25_123) (by rfl) rfl ?_
          refine g_iconst (v := (1 : Int32)) X196 hx (hb hby d25_124) (by decide) rfl ?_
          refine g_iadd X196 hx (hb hby d25_125) rfl ?_
          rw [show ((0 : Int32) + (1 : Int32)) = (1 : Int32) by decide]
          refine g_callS X196 hx hZ hown (wd hw 179 rfl) (wd hw 35 rfl) (wd hw 32 rfl) (wd hw 36 rfl) (by decide) e196 (rm_max l Z a0 hw 0 1 h195) (by rw [hml]; rfl) [(.int (0 : Int32)), (.int (1 : Int32))] [(.ref a)] rfl (lenOf pd_67 rfl) rfl (by show 1 + (2 + 11) + 0 ≤ _; decide) (by decide) (by decide) (by decide) (hb hby d25_126) rfl ?_
          intro T197 v197 L197 X197 hQ197
          obtain ⟨rfl, rfl, e197⟩ := hQ197
          have N197 := Fr.app N195 (Fr.nil n0)
          show Goes p e below _ T197 (mkF m 129 #[.val (.ref a), .val (.int (0 : Int32)), .val (.int (0 : Int32)), .val (.int (4 : Int32)), .val (.long (own_B gc lo hi)), .second, .val (.int (4 : Int32))] [(.int (if (0 : Int32) < (1 : Int32) then (1 : Int32) else (0 : Int32))), (.ref a)])
          rw [show (if (0 : Int32) < (1 : Int32) then (1 : Int32) else (0 : Int32)) = (1 : Int32) by decide]
          show Goes p e below _ T197 (mkF m 129 #[.val (.ref a), .val (.int (0 : Int32)), .val (.int (0 : Int32)), .val (.int (4 : Int32)), .val (.long (own_B gc lo hi)), .second, .val (.int (4 : Int32))] [(.int (1 : Int32)), (.ref a)])
          refine g_putF X197 hx hZ hown (wd hw 142 rfl) e197 F195_touched E195_ (Or.inl (wd hw 143 rfl)) (wd hw 109 rfl) (ty := .int) (by decide) rfl rfl (hb hby d25_129) rfl ?_
          intro T198 h198 X198 e198 W198
          have N198 := Fr.snoc X198 N197 g1
          have E198_ := E195_.wr W198
          have F198_text := F195_text.other W198 (Or.inr (slot_ne (C := "com/example/nav_by_schema/navbyschema/regex/UnitRuns") (Or.inl (wd hw 125 rfl)) (Or.inl (wd hw 143 rfl)) (by decide) (t := (.object "java/lang/String")) (t' := .int) (by decide) (by decide)))
          have F198_set := F195_set.other W198 (Or.inr (slot_ne (C := "com/example/nav_by_schema/navbyschema/regex/UnitRuns") (Or.inl (wd hw 131 rfl)) (Or.inl (wd hw 143 rfl)) (by decide) (t := (.object "com/example/nav_by_schema/navbyschema/regex/CodeUnitSet")) (t' := .int) (by decide) (by decide)))
          have F198_members := F195_members.other W198 (Or.inr (slot_ne (C := "com/example/nav_by_schema/navbyschema/regex/UnitRuns") (Or.inl (wd hw 116 rfl)) (Or.inl (wd hw 143 rfl)) (by decide) (t := (.array .long)) (t' := .int) (by decide) (by decide)))
          have F198_next := F195_next.other W198 (Or.inr (slot_ne (C := "com/example/nav_by_schema/navbyschema/regex/UnitRuns") (Or.inl (wd hw 118 rfl)) (Or.inl (wd hw 143 rfl)) (by decide) (t := (.array .int)) (t' := .int) (by decide) (by decide)))
          have F198_touched := F195_touched.same W198
          have F198_unitsRead := F195_unitsRead.other W198 (Or.inr (slot_ne (C := "com/example/nav_by_schema/navbyschema/regex/UnitRuns") (Or.inl (wd hw 178 rfl)) (Or.inl (wd hw 143 rfl)) (by decide) (t := .long) (t' := .int) (by decide) (by decide)))
          have AM198 := AM195.other W198 d2
          have AN198 := AN195.other W198 d3
          have Zh198 : n0 ≤ h198.size := by rw [W198.size]; exact Zh195
          have EI198 := own_extw EI195 W198 (Nat.le_trans nI g1)
          exact g_ret X198 hx hlk hret e198 (by decide) (by decide) (hb hby d25_132) ⟨rfl, N198, EI198, ⟨E198_, F198_text, F198_set, F198_members, F198_next, F198_touched, F198_unitsRead, AM198, AN198, d1, d2, d3, g1, g2, g3, Zh198⟩⟩
        refine g_if_eq X189 hx (hb hby d25_57) (by decide) (pt := 69) (by decide) rfl (fun q => ?_) (fun q => ?_)
        · exact J3 _ (own_st0 (3 : Int32) bt2 q)
        · refine g_lload (i := 4) X189 hx (hb hby d25_60) (by rfl) rfl ?_
          refine g_lconst (v := (1 : Int64)) X189 hx (hb hby d25_62) (by decide) rfl ?_
          refine g_iload (i := 6) X189 hx (hb hby d25_63) (by rfl) rfl ?_
          refine g_lshl X189 hx (hb hby d25_65) rfl ?_
          refine g_lor X189 hx (hb hby d25_66) rfl ?_
          refine g_lstore (i := 4) X189 hx #[.val (.ref a), .val (.int (0 : Int32)), .val (.int (0 : Int32)), .val (.int (4 : Int32)), .val (.long (bt2 ||| ((1 : Int64) <<< ((3 : Int32).toInt64 &&& 63)))), .second, .val (.int (3 : Int32))] (hb hby d25_67) rfl rfl ?_
          exact J3 _ (own_st1 (3 : Int32) bt2 q)
      refine g_if_eq X185 hx (hb hby d25_57) (by decide) (pt := 69) (by decide) rfl (fun q => ?_) (fun q => ?_)
      · exact J2 _ (own_st0 (2 : Int32) bt1 q)
      · refine g_lload (i := 4) X185 hx (hb hby d25_60) (by rfl) rfl ?_
        refine g_lconst (v := (1 : Int64)) X185 hx (hb hby d25_62) (by decide) rfl ?_
        refine g_iload (i := 6) X185 hx (hb hby d25_63) (by rfl) rfl ?_
        refine g_lshl X185 hx (hb hby d25_65) rfl ?_
        refine g_lor X185 hx (hb hby d25_66) rfl ?_
        refine g_lstore (i := 4) X185 hx #[.val (.ref a), .val (.int (0 : Int32)), .val (.int (0 : Int32)), .val (.int (4 : Int32)), .val (.long (bt1 ||| ((1 : Int64) <<< ((2 : Int32).toInt64 &&& 63)))), .second, .val (.int (2 : Int32))] (hb hby d25_67) rfl rfl ?_
        exact J2 _ (own_st1 (2 : Int32) bt1 q)
    refine g_if_eq X181 hx (hb hby d25_57) (by decide) (pt := 69) (by decide) rfl (fun q => ?_) (fun q => ?_)
    · exact J1 _ (own_st0 (1 : Int32) bt0 q)
    · refine g_lload (i := 4) X181 hx (hb hby d25_60) (by rfl) rfl ?_
      refine g_lconst (v := (1 : Int64)) X181 hx (hb hby d25_62) (by decide) rfl ?_
      refine g_iload (i := 6) X181 hx (hb hby d25_63) (by rfl) rfl ?_
      refine g_lshl X181 hx (hb hby d25_65) rfl ?_
      refine g_lor X181 hx (hb hby d25_66) rfl ?_
      refine g_lstore (i := 4) X181 hx #[.val (.ref a), .val (.int (0 : Int32)), .val (.int (0 : Int32)), .val (.int (4 : Int32)), .val (.long (bt0 ||| ((1 : Int64) <<< ((1 : Int32).toInt64 &&& 63)))), .second, .val (.int (1 : Int32))] (hb hby d25_67) rfl rfl ?_
      exact J1 _ (own_st1 (1 : Int32) bt0 q)
  refine g_if_eq X177 hx (hb hby d25_57) (by decide) (pt := 69) (by decide) rfl (fun q => ?_) (fun q => ?_)
  · exact J0 _ (own_st0 (0 : Int32) (0 : Int64) q)
  · refine g_lload (i := 4) X177 hx (hb hby d25_60) (by rfl) rfl ?_
    refine g_lconst (v := (1 : Int64)) X177 hx (hb hby d25_62) (by decide) rfl ?_
    refine g_iload (i := 6) X177 hx (hb hby d25_63) (by rfl) rfl ?_
    refine g_lshl X177 hx (hb hby d25_65) rfl ?_
    refine g_lor X177 hx (hb hby d25_66) rfl ?_
    refine g_lstore (i := 4) X177 hx #[.val (.ref a), .val (.int (0 : Int32)), .val (.int (0 : Int32)), .val (.int (4 : Int32)), .val (.long ((0 : Int64) ||| ((1 : Int64) <<< ((0 : Int32).toInt64 &&& 63)))), .second, .val (.int (0 : Int32))] (hb hby d25_67) rfl rfl ?_
    exact J0 _ (own_st1 (0 : Int32) (0 : Int64) q)
theorem ef_rm_e1 (m : MethodId) (x0 : Addr) (x1 : Addr) (x2 : Addr) (x3 : Int32) (x4 : Int32)  : entryFrame m #[(.ref x0), (.ref x1), (.ref x2), (.int x3), (.int x4)] 12 = mkF m 0 #[.val (.ref x0), .val (.ref x1), .val (.ref x2), .val (.int x3), .val (.int x4), .unset, .unset, .unset, .unset, .unset, .unset, .unset] [] := by first | (simp [entryFrame, mkF, argsToLocals, Value.category]; done) | rfl
theorem pn_199 : plainFor (⟨"com/example/nav_by_schema/navbyschema/regex/UnitRuns", "end", "(Ljava/lang/String;Lcom/example/nav_by_schema/navbyschema/regex/CodeUnitSet;II)I"⟩ : MethodName) = true := by first | exact plainFor_of_name (by first | (simp [plainName, overriddenIn]; done) | decide +kernel) | decide +kernel
theorem pd_201 : parseMethodDescriptor "(Ljava/lang/String;Lcom/example/nav_by_schema/navbyschema/regex/CodeUnitSet;)V" = some ⟨[(.object "java/lang/String"), (.object "com/example/nav_by_schema/navbyschema/regex/CodeUnitSet")], none⟩ := by decide +kernel
theorem pd_202 : parseMethodDescriptor "(I)V" = some ⟨[.int], none⟩ := by decide +kernel
theorem pd_204 : parseMethodDescriptor "(J)I" = some ⟨[.long], some .int⟩ := by decide +kernel
theorem pd_205 : parseMethodDescriptor "(JJ)J" = some ⟨[.long, .long], some .long⟩ := by decide +kernel
set_option maxRecDepth 65536 in
set_option maxHeartbeats 40000000 in
theorem rm_e1 (l : Launch) (Z : State) (a0 : Array Value) (hw : ∀ d ∈ tables_1, d.before a0 Z = true) (a : Addr) (n0 : Nat) (mb nb : Addr) (fm : Nat → Int64) (fn : Nat → Int32) (tc : Int32) (ur : Int64) (h0 : Heap) (ta tb sa ra : Addr) (lo hi cs : Int32) (sf : Value) (gc fr : Nat → Int32) (hI : Heap) (EI : Ext hI h0) (nI : hI.size ≤ n0) (WI : own_W Z hI ta tb sa ra lo hi cs sf gc fr) (H : own_U Z h0 a n0 .null .null mb nb 0 fm fn tc ur) (fv cp : Int32) (hb0 : XT.ushr fv 6 = 0) (ho : ¬ own_out (own_B gc lo hi) fv = 0) :
    Ctr l Z (⟨"com/example/nav_by_schema/navbyschema/regex/UnitRuns", "end", "(Ljava/lang/String;Lcom/example/nav_by_schema/navbyschema/regex/CodeUnitSet;II)I"⟩ : MethodName) prog_27_method_2_code 12 (Option.some FieldType.int) [] ({ frames := 5, cells := 2, slots := 2, locals := 72 } : Room) ({ frames := 5, cells := 2, slots := 2, locals := 72 } : Room).cells ({ frames := 5, cells := 2, slots := 2, locals := 72 } : Room).slots #[(.ref a), (.ref ta), (.ref sa), (.int fv), (.int cp)] h0 (fun u h L => u = some (.int (own_end (own_B gc lo hi) fv cp)) ∧ Fr n0 L ∧ Ext hI h ∧ ∃ mb' nb' fm' fn', own_U Z h a n0 (.ref ta) (.ref sa) mb' nb' 1 fm' fn' 1 (ur + (4 : Int32).toInt64) ∧ fm' 0 = (own_B gc lo hi) ∧ ¬ fn' 0 = 0) := by
  refine Ctr.of pn_199 ?_
  intro p e s m below meth c s₁ hx hby hml hown hnm hret hlk hZ X0 e0
  refine Goes.cast (ef_rm_e1 m a ta sa fv cp) ?_
  refine g_aload_n (i := 1) X0 hx (hb hby d21_0) (by rfl) rfl rfl ?_
  refine g_aload_n (i := 0) X0 hx (hb hby d21_1) (by rfl) rfl rfl ?_
  refine g_getF X0 hx hZ hown (wd hw 124 rfl) e0 H.2.1 (hb hby d21_2) rfl ?_
  intro T200 X200 e200
  refine g_acmp_ne X200 hx (hb hby d21_5) rfl rfl (by decide) (pt := 16) (by decide) rfl (fun _ => ?_) (fun q_ => absurd q_ (fun z => nomatch z))
  refine g_aload_n (i := 0) X200 hx (hb hby d21_16) (by rfl) rfl rfl ?_
  refine g_aload_n (i := 1) X200 hx (hb hby d21_17) (by rfl) rfl rfl ?_
  refine g_aload_n (i := 2) X200 hx (hb hby d21_18) (by rfl) rfl rfl ?_
  refine g_callP X200 hx hZ hown (wd hw 126 rfl) (wd hw 109 rfl) (wd hw 128 rfl) (wd hw 127 rfl) (wd hw 110 rfl) (wd hw 129 rfl) (by decide) e200 a H.1 (rm_r0 l Z a0 hw a n0 mb nb fm fn tc ur h0 ta tb sa ra lo hi cs sf gc fr hI EI nI WI H) (by rw [hml]; rfl) [(.ref ta), (.ref sa)] [] rfl (lenOf pd_201 rfl) rfl (by show 0 + (4 + 11) + 25 ≤ _; decide) (by decide) (by decide) (by decide) (hb hby d21_19) rfl ?_
  intro T201 v201 L201 X201 hQ201
  obtain ⟨rfl, N201, EI1, mb1, nb1, U1⟩ := hQ201
  have N201 := Fr.app (Fr.nil n0) N201
  show Goes p e below _ T201 (mkF m 22 #[.val (.ref a), .val (.ref ta), .val (.ref sa), .val (.int fv), .val (.int cp), .unset, .unset, .unset, .unset, .unset, .unset, .unset] [])
  refine g_iload_n (i := 3) X201 hx (hb hby d21_22) (by rfl) rfl ?_
  refine g_bipush (v := (6 : Int32)) X201 hx (hb hby d21_23) (by decide) rfl ?_
  refine g_iushr X201 hx (hb hby d21_25) rfl ?_
  rw [hb0]
  show Goes p e below _ T201 (mkF m 26 #[.val (.ref a), .val (.ref ta), .val (.ref sa), .val (.int fv), .val (.int cp), .unset, .unset, .unset, .unset, .unset, .unset, .unset] [(.int (0 : Int32))])
  refine g_istore (i := 5) X201 hx #[.val (.ref a), .val (.ref ta), .val (.ref sa), .val (.int fv), .val (.int cp), .val (.int (0 : Int32)), .unset, .unset, .unset, .unset, .unset, .unset] (hb hby d21_26) rfl rfl ?_
  refine g_aload_n (i := 0) X201 hx (hb hby d21_28) (by rfl) rfl rfl ?_
  refine g_iload (i := 5) X201 hx (hb hby d21_29) (by rfl) rfl ?_
  refine g_callP X201 hx hZ hown (wd hw 144 rfl) (wd hw 109 rfl) (wd hw 146 rfl) (wd hw 145 rfl) (wd hw 110 rfl) (wd hw 147 rfl) (by decide) rfl a U1.1 (rm_rd0 l Z a0 hw a n0 mb1 nb1 _ _ ur T201.heap ta tb sa ra lo hi cs sf gc fr hI EI1 nI WI U1 rfl) (by rw [hml]; rfl) [(.int (0 : Int32))] [] rfl (lenOf pd_202 rfl) rfl (by show 0 + (7 + 11) + 54 ≤ _; decide) (by decide) (by decide) (by decide) (hb hby d21_31) rfl ?_
  intro T202 v202 L202 X202 hQ202
  obtain ⟨rfl, N202, EI2, U2⟩ := hQ202
  have N202 := Fr.app N201 N202
  show Goes p e below _ T202 (mkF m 34 #[.val (.ref a), .val (.ref ta), .val (.ref sa), .val (.int fv), .val (.int cp), .val (.int (0 : Int32)), .unset, .unset, .unset, .unset, .unset, .unset] [])
  refine g_aload_n (i := 0) X202 hx (hb hby d21_34) (by rfl) rfl rfl ?_
  refine g_getF X202 hx hZ hown (wd hw 115 rfl) rfl U2.2.2.2.1 (hb hby d21_35) rfl ?_
  intro T203 X203 e203
  refine g_iload (i := 5) X203 hx (hb hby d21_38) (by rfl) rfl ?_
  refine g_laload' X203 hx hZ e203 U2.2.2.2.2.2.2.2.1 (by decide) (by decide) (x := (own_B gc lo hi)) rfl (hb hby d21_40) rfl ?_
  refine g_ldc2J X203 hx hZ hown (wd hw 176 rfl) (hb hby d21_41) rfl ?_
  refine g_lxor X203 hx (hb hby d21_44) rfl ?_
  refine g_ldc2J X203 hx hZ hown (wd hw 176 rfl) (hb hby d21_45) rfl ?_
  refine g_iload_n (i := 3) X203 hx (hb hby d21_48) (by rfl) rfl ?_
  refine g_lshl X203 hx (hb hby d21_49) rfl ?_
  refine g_land X203 hx (hb hby d21_50) rfl ?_
  refine g_lstore (i := 6) X203 hx #[.val (.ref a), .val (.ref ta), .val (.ref sa), .val (.int fv), .val (.int cp), .val (.int (0 : Int32)), .val (.long (((own_B gc lo hi) ^^^ (-1 : Int64)) &&& ((-1 : Int64) <<< (fv.toInt64 &&& 63)))), .second, .unset, .unset, .unset, .unset] (hb hby d21_51) rfl rfl ?_
  refine g_lload (i := 6) X203 hx (hb hby d21_53) (by rfl) rfl ?_
  refine g_lconst (v := (0 : Int64)) X203 hx (hb hby d21_55) (by decide) rfl ?_
  refine g_lcmp X203 hx (hb hby d21_56) rfl ?_
  refine g_if_ne X203 hx (hb hby d21_57) (by decide) (pt := 163) (by decide) rfl (fun _ => ?_) (fun q_ => absurd q_ (fun z => ho ((cm_eq _ _).mp z)))
  refine g_iload (i := 5) X203 hx (hb hby d21_163) (by rfl) rfl ?_
  refine g_i2l X203 hx (hb hby d21_165) rfl ?_
  refine g_bipush (v := (6 : Int32)) X203 hx (hb hby d21_166) (by decide) rfl ?_
  refine g_lshl X203 hx (hb hby d21_168) rfl ?_
  refine g_lload (i := 6) X203 hx (hb hby d21_169) (by rfl) rfl ?_
  refine g_callS X203 hx hZ hown (wd hw 180 rfl) (wd hw 181 rfl) (wd hw 182 rfl) (wd hw 183 rfl) (by decide) e203 (rm_ntzl l Z a0 hw (own_out (own_B gc lo hi) fv) T202.heap) (by rw [hml]; rfl) [(.long (((own_B gc lo hi) ^^^ (-1 : Int64)) &&& ((-1 : Int64) <<< (fv.toInt64 &&& 63))))] [(.long ((0 : Int32).toInt64 <<< ((6 : Int32).toInt64 &&& 63)))] rfl (lenOf pd_204 rfl) rfl (by show 2 + (3 + 11) + 14 ≤ _; decide) (by decide) (by decide) (by decide) (hb hby d21_171) rfl ?_
  intro T204 v204 L204 X204 hQ204
  obtain ⟨rfl, rfl, e204⟩ := hQ204
  have N204 := Fr.app N202 (Fr.nil n0)
  show Goes p e below _ T204 (mkF m 174 #[.val (.ref a), .val (.ref ta), .val (.ref sa), .val (.int fv), .val (.int cp), .val (.int (0 : Int32)), .val (.long (((own_B gc lo hi) ^^^ (-1 : Int64)) &&& ((-1 : Int64) <<< (fv.toInt64 &&& 63)))), .second, .unset, .unset, .unset, .unset] [(.int (own_ntzL (own_out (own_B gc lo hi) fv))), (.long ((0 : Int32).toInt64 <<< ((6 : Int32).toInt64 &&& 63)))])
  refine g_i2l X204 hx (hb hby d21_174) rfl ?_
  refine g_ladd X204 hx (hb hby d21_175) rfl ?_
  refine g_iload (i := 4) X204 hx (hb hby d21_176) (by rfl) rfl ?_
  refine g_i2l X204 hx (hb hby d21_178) rfl ?_
  refine g_callS X204 hx hZ hown (wd hw 189 rfl) (wd hw 190 rfl) (wd hw 32 rfl) (wd hw 191 rfl) (by decide) e204 (rm_minl l Z a0 hw (((0 : Int32).toInt64 <<< ((6 : Int32).toInt64 &&& 63)) + (own_ntzL (own_out (own_B gc lo hi) fv)).toInt64) cp.toInt64 T202.heap) (by rw [hml]; rfl) [(.long (((0 : Int32).toInt64 <<< ((6 : Int32).toInt64 &&& 63)) + (own_ntzL (own_out (own_B gc lo hi) fv)).toInt64)), (.long cp.toInt64)] [] rfl (lenOf pd_205 rfl) rfl (by show 0 + (4 + 11) + 0 ≤ _; decide) (by decide) (by decide) (by decide) (hb hby d21_179) rfl ?_
  intro T205 v205 L205 X205 hQ205
  obtain ⟨rfl, rfl, e205⟩ := hQ205
  have N205 := Fr.app N204 (Fr.nil n0)
  show Goes p e below _ T205 (mkF m 182 #[.val (.ref a), .val (.ref ta), .val (.ref sa), .val (.int fv), .val (.int cp), .val (.int (0 : Int32)), .val (.long (((own_B gc lo hi) ^^^ (-1 : Int64)) &&& ((-1 : Int64) <<< (fv.toInt64 &&& 63)))), .second, .unset, .unset, .unset, .unset] [(.long (own_minL (((0 : Int32).toInt64 <<< ((6 : Int32).toInt64 &&& 63)) + (own_ntzL (own_out (own_B gc lo hi) fv)).toInt64) cp.toInt64))])
  refine g_l2i X205 hx (hb hby d21_182) rfl ?_
  exact g_retI X205 hx hlk hret e205 (by decide) (by decide) (hb hby d21_183) ⟨rfl, N205, EI2, mb1, nb1, _, _, U2, rfl, (show ¬ ((-1 : Int32) = 0) by decide)⟩
theorem ef_rm_e2 (m : MethodId) (x0 : Addr) (x1 : Addr) (x2 : Addr) (x3 : Int32) (x4 : Int32)  : entryFrame m #[(.ref x0), (.ref x1), (.ref x2), (.int x3), (.int x4)] 12 = mkF m 0 #[.val (.ref x0), .val (.ref x1), .val (.ref x2), .val (.int x3), .val (.int x4), .unset, .unset, .unset, .unset, .unset, .unset, .unset] [] := by first | (simp [entryFrame, mkF, argsToLocals, Value.category]; done) | rfl
set_option maxRecDepth 65536 in
set_option maxHeartbeats 40000000 in
theorem rm_e2 (l : Launch) (Z : State) (a0 : Array Value) (hw : ∀ d ∈ tables_1, d.before a0 Z = true) (a : Addr) (n0 : Nat) (mb nb : Addr) (fm : Nat → Int64) (fn : Nat → Int32) (ur : Int64) (h0 : Heap) (ta tb sa ra : Addr) (lo hi cs : Int32) (sf : Value) (gc fr : Nat → Int32) (hI : Heap) (EI : Ext hI h0) (nI : hI.size ≤ n0) (WI : own_W Z hI ta tb sa ra lo hi cs sf gc fr) (H : own_U Z h0 a n0 (.ref ta) (.ref sa) mb nb 1 fm fn 1 ur) (hB : fm 0 = (own_B gc lo hi)) (hN0 : ¬ fn 0 = 0) (fv cp : Int32) (hb0 : XT.ushr fv 6 = 0) (ho : ¬ own_out (own_B gc lo hi) fv = 0) :
    Ctr l Z (⟨"com/example/nav_by_schema/navbyschema/regex/UnitRuns", "end", "(Ljava/lang/String;Lcom/example/nav_by_schema/navbyschema/regex/CodeUnitSet;II)I"⟩ : MethodName) prog_27_method_2_code 12 (Option.some FieldType.int) [] ({ frames := 2, cells := 0, slots := 0, locals := 30 } : Room) ({ frames := 2, cells := 0, slots := 0, locals := 30 } : Room).cells ({ frames := 2, cells := 0, slots := 0, locals := 30 } : Room).slots #[(.ref a), (.ref ta), (.ref sa), (.int fv), (.int cp)] h0 (fun u h L => u = some (.int (own_end (own_B gc lo hi) fv cp)) ∧ Fr n0 L ∧ Ext hI h ∧ ∃ mb' nb' fm' fn', own_U Z h a n0 (.ref ta) (.ref sa) mb' nb' 1 fm' fn' 1 ur ∧ fm' 0 = (own_B gc lo hi) ∧ ¬ fn' 0 = 0) := by
  refine Ctr.of pn_199 ?_
  intro p e s m below meth c s₁ hx hby hml hown hnm hret hlk hZ X0 e0
  refine Goes.cast (ef_rm_e2 m a ta sa fv cp) ?_
  refine g_aload_n (i := 1) X0 hx (hb hby d21_0) (by rfl) rfl rfl ?_
  refine g_aload_n (i := 0) X0 hx (hb hby d21_1) (by rfl) rfl rfl ?_
  refine g_getF X0 hx hZ hown (wd hw 124 rfl) e0 H.2.1 (hb hby d21_2) rfl ?_
  intro T207 X207 e207
  refine g_acmp_ne X207 hx (hb hby d21_5) rfl rfl (by decide) (pt := 16) (by decide) rfl (fun q_ => absurd (rfl) q_) (fun _ => ?_)
  refine g_aload_n (i := 2) X207 hx (hb hby d21_8) (by rfl) rfl rfl ?_
  refine g_aload_n (i := 0) X207 hx (hb hby d21_9) (by rfl) rfl rfl ?_
  refine g_getF X207 hx hZ hown (wd hw 130 rfl) e207 H.2.2.1 (hb hby d21_10) rfl ?_
  intro T208 X208 e208
  refine g_acmp_eq X208 hx (hb hby d21_13) rfl rfl (by decide) (pt := 22) (by decide) rfl (fun _ => ?_) (fun q_ => absurd (rfl) q_)
  refine g_iload_n (i := 3) X208 hx (hb hby d21_22) (by rfl) rfl ?_
  refine g_bipush (v := (6 : Int32)) X208 hx (hb hby d21_23) (by decide) rfl ?_
  refine g_iushr X208 hx (hb hby d21_25) rfl ?_
  rw [hb0]
  show Goes p e below _ T208 (mkF m 26 #[.val (.ref a), .val (.ref ta), .val (.ref sa), .val (.int fv), .val (.int cp), .unset, .unset, .unset, .unset, .unset, .unset, .unset] [(.int (0 : Int32))])
  refine g_istore (i := 5) X208 hx #[.val (.ref a), .val (.ref ta), .val (.ref sa), .val (.int fv), .val (.int cp), .val (.int (0 : Int32)), .unset, .unset, .unset, .unset, .unset, .unset] (hb hby d21_26) rfl rfl ?_
  refine g_aload_n (i := 0) X208 hx (hb hby d21_28) (by rfl) rfl rfl ?_
  refine g_iload (i := 5) X208 hx (hb hby d21_29) (by rfl) rfl ?_
  refine g_callP X208 hx hZ hown (wd hw 144 rfl) (wd hw 109 rfl) (wd hw 146 rfl) (wd hw 145 rfl) (wd hw 110 rfl) (wd hw 147 rfl) (by decide) e208 a H.1 (rm_rd1 l Z a0 hw a n0 _ _ mb nb fm fn 1 ur h0 H hN0) (by rw [hml]; rfl) [(.int (0 : Int32))] [] rfl (lenOf pd_202 rfl) rfl (by show 0 + (7 + 11) + 0 ≤ _; decide) (by decide) (by decide) (by decide) (hb hby d21_31) rfl ?_
  intro T209 v209 L209 X209 hQ209
  obtain ⟨rfl, rfl, e209⟩ := hQ209
  have N209 := Fr.app (Fr.nil n0) (Fr.nil n0)
  show Goes p e below _ T209 (mkF m 34 #[.val (.ref a), .val (.ref ta), .val (.ref sa), .val (.int fv), .val (.int cp), .val (.int (0 : Int32)), .unset, .unset, .unset, .unset, .unset, .unset] [])
  refine g_aload_n (i := 0) X209 hx (hb hby d21_34) (by rfl) rfl rfl ?_
  refine g_getF X209 hx hZ hown (wd hw 115 rfl) e209 H.2.2.2.1 (hb hby d21_35) rfl ?_
  intro T210 X210 e210
  refine g_iload (i := 5) X210 hx (hb hby d21_38) (by rfl) rfl ?_
  refine g_laload' X210 hx hZ e210 H.2.2.2.2.2.2.2.1 (by decide) (by decide) (x := (own_B gc lo hi)) hB (hb hby d21_40) rfl ?_
  refine g_ldc2J X210 hx hZ hown (wd hw 176 rfl) (hb hby d21_41) rfl ?_
  refine g_lxor X210 hx (hb hby d21_44) rfl ?_
  refine g_ldc2J X210 hx hZ hown (wd hw 176 rfl) (hb hby d21_45) rfl ?_
  refine g_iload_n (i := 3) X210 hx (hb hby d21_48) (by rfl) rfl ?_
  refine g_lshl X210 hx (hb hby d21_49) rfl ?_
  refine g_land X210 hx (hb hby d21_50) rfl ?_
  refine g_lstore (i := 6) X210 hx #[.val (.ref a), .val (.ref ta), .val (.ref sa), .val (.int fv), .val (.int cp), .val (.int (0 : Int32)), .val (.long (((own_B gc lo hi) ^^^ (-1 : Int64)) &&& ((-1 : Int64) <<< (fv.toInt64 &&& 63)))), .second, .unset, .unset, .unset, .unset] (hb hby d21_51) rfl rfl ?_
  refine g_lload (i := 6) X210 hx (hb hby d21_53) (by rfl) rfl ?_
  refine g_lconst (v := (0 : Int64)) X210 hx (hb hby d21_55) (by decide) rfl ?_
  refine g_lcmp X210 hx (hb hby d21_56) rfl ?_
  refine g_if_ne X210 hx (hb hby d21_57) (by decide) (pt := 163) (by decide) rfl (fun _ => ?_) (fun q_ => absurd q_ (fun z => ho ((cm_eq _ _).mp z)))
  refine g_iload (i := 5) X210 hx (hb hby d21_163) (by rfl) rfl ?_
  refine g_i2l X210 hx (hb hby d21_165) rfl ?_
  refine g_bipush (v := (6 : Int32)) X210 hx (hb hby d21_166) (by decide) rfl ?_
  refine g_lshl X210 hx (hb hby d21_168) rfl ?_
  refine g_lload (i := 6) X210 hx (hb hby d21_169) (by rfl) rfl ?_
  refine g_callS X210 hx hZ hown (wd hw 180 rfl) (wd hw 181 rfl) (wd hw 182 rfl) (wd hw 183 rfl) (by decide) e210 (rm_ntzl l Z a0 hw (own_out (own_B gc lo hi) fv) h0) (by rw [hml]; rfl) [(.long (((own_B gc lo hi) ^^^ (-1 : Int64)) &&& ((-1 : Int64) <<< (fv.toInt64 &&& 63))))] [(.long ((0 : Int32).toInt64 <<< ((6 : Int32).toInt64 &&& 63)))] rfl (lenOf pd_204 rfl) rfl (by show 2 + (3 + 11) + 14 ≤ _; decide) (by decide) (by decide) (by decide) (hb hby d21_171) rfl ?_
  intro T211 v211 L211 X211 hQ211
  obtain ⟨rfl, rfl, e211⟩ := hQ211
  have N211 := Fr.app N209 (Fr.nil n0)
  show Goes p e below _ T211 (mkF m 174 #[.val (.ref a), .val (.ref ta), .val (.ref sa), .val (.int fv), .val (.int cp), .val (.int (0 : Int32)), .val (.long (((own_B gc lo hi) ^^^ (-1 : Int64)) &&& ((-1 : Int64) <<< (fv.toInt64 &&& 63)))), .second, .unset, .unset, .unset, .unset] [(.int (own_ntzL (own_out (own_B gc lo hi) fv))), (.long ((0 : Int32).toInt64 <<< ((6 : Int32).toInt64 &&& 63)))])
  refine g_i2l X211 hx (hb hby d21_174) rfl ?_
  refine g_ladd X211 hx (hb hby d21_175) rfl ?_
  refine g_iload (i := 4) X211 hx (hb hby d21_176) (by rfl) rfl ?_
  refine g_i2l X211 hx (hb hby d21_178) rfl ?_
  refine g_callS X211 hx hZ hown (wd hw 189 rfl) (wd hw 190 rfl) (wd hw 32 rfl) (wd hw 191 rfl) (by decide) e211 (rm_minl l Z a0 hw (((0 : Int32).toInt64 <<< ((6 : Int32).toInt64 &&& 63)) + (own_ntzL (own_out (own_B gc lo hi) fv)).toInt64) cp.toInt64 h0) (by rw [hml]; rfl) [(.long (((0 : Int32).toInt64 <<< ((6 : Int32).toInt64 &&& 63)) + (own_ntzL (own_out (own_B gc lo hi) fv)).toInt64)), (.long cp.toInt64)] [] rfl (lenOf pd_205 rfl) rfl (by show 0 + (4 + 11) + 0 ≤ _; decide) (by decide) (by decide) (by decide) (hb hby d21_179) rfl ?_
  intro T212 v212 L212 X212 hQ212
  obtain ⟨rfl, rfl, e212⟩ := hQ212
  have N212 := Fr.app N211 (Fr.nil n0)
  show Goes p e below _ T212 (mkF m 182 #[.val (.ref a), .val (.ref ta), .val (.ref sa), .val (.int fv), .val (.int cp), .val (.int (0 : Int32)), .val (.long (((own_B gc lo hi) ^^^ (-1 : Int64)) &&& ((-1 : Int64) <<< (fv.toInt64 &&& 63)))), .second, .unset, .unset, .unset, .unset] [(.long (own_minL (((0 : Int32).toInt64 <<< ((6 : Int32).toInt64 &&& 63)) + (own_ntzL (own_out (own_B gc lo hi) fv)).toInt64) cp.toInt64))])
  refine g_l2i X212 hx (hb hby d21_182) rfl ?_
  exact g_retI X212 hx hlk hret e212 (by decide) (by decide) (hb hby d21_183) ⟨rfl, N212, EI, mb, nb, _, _, H, hB, hN0⟩
theorem ef_rm_e3 (m : MethodId) (x0 : Addr) (x1 : Addr) (x2 : Addr) (x3 : Int32) (x4 : Int32)  : entryFrame m #[(.ref x0), (.ref x1), (.ref x2), (.int x3), (.int x4)] 12 = mkF m 0 #[.val (.ref x0), .val (.ref x1), .val (.ref x2), .val (.int x3), .val (.int x4), .unset, .unset, .unset, .unset, .unset, .unset, .unset] [] := by first | (simp [entryFrame, mkF, argsToLocals, Value.category]; done) | rfl
set_option maxRecDepth 65536 in
set_option maxHeartbeats 40000000 in
theorem rm_e3 (l : Launch) (Z : State) (a0 : Array Value) (hw : ∀ d ∈ tables_1, d.before a0 Z = true) (a : Addr) (n0 : Nat) (mb nb : Addr) (fm : Nat → Int64) (fn : Nat → Int32) (ur : Int64) (h0 : Heap) (ta tb sa ra : Addr) (lo hi cs : Int32) (sf : Value) (gc fr : Nat → Int32) (hI : Heap) (EI : Ext hI h0) (nI : hI.size ≤ n0) (WI : own_W Z hI ta tb sa ra lo hi cs sf gc fr) (H : own_U Z h0 a n0 .null .null mb nb 1 fm fn 1 ur) (fv cp : Int32) (hb0 : XT.ushr fv 6 = 0) (ho : ¬ own_out (own_B gc lo hi) fv = 0) :
    Ctr l Z (⟨"com/example/nav_by_schema/navbyschema/regex/UnitRuns", "end", "(Ljava/lang/String;Lcom/example/nav_by_schema/navbyschema/regex/CodeUnitSet;II)I"⟩ : MethodName) prog_27_method_2_code 12 (Option.some FieldType.int) [] ({ frames := 5, cells := 0, slots := 0, locals := 72 } : Room) ({ frames := 5, cells := 0, slots := 0, locals := 72 } : Room).cells ({ frames := 5, cells := 0, slots := 0, locals := 72 } : Room).slots #[(.ref a), (.ref ta), (.ref sa), (.int fv), (.int cp)] h0 (fun u h L => u = some (.int (own_end (own_B gc lo hi) fv cp)) ∧ Fr n0 L ∧ Ext hI h ∧ ∃ mb' nb' fm' fn', own_U Z h a n0 (.ref ta) (.ref sa) mb' nb' 1 fm' fn' 1 (ur + (4 : Int32).toInt64) ∧ fm' 0 = (own_B gc lo hi) ∧ ¬ fn' 0 = 0) := by
  refine Ctr.of pn_199 ?_
  intro p e s m below meth c s₁ hx hby hml hown hnm hret hlk hZ X0 e0
  refine Goes.cast (ef_rm_e3 m a ta sa fv cp) ?_
  refine g_aload_n (i := 1) X0 hx (hb hby d21_0) (by rfl) rfl rfl ?_
  refine g_aload_n (i := 0) X0 hx (hb hby d21_1) (by rfl) rfl rfl ?_
  refine g_getF X0 hx hZ hown (wd hw 124 rfl) e0 H.2.1 (hb hby d21_2) rfl ?_
  intro T214 X214 e214
  refine g_acmp_ne X214 hx (hb hby d21_5) rfl rfl (by decide) (pt := 16) (by decide) rfl (fun _ => ?_) (fun q_ => absurd q_ (fun z => nomatch z))
  refine g_aload_n (i := 0) X214 hx (hb hby d21_16) (by rfl) rfl rfl ?_
  refine g_aload_n (i := 1) X214 hx (hb hby d21_17) (by rfl) rfl rfl ?_
  refine g_aload_n (i := 2) X214 hx (hb hby d21_18) (by rfl) rfl rfl ?_
  refine g_callP X214 hx hZ hown (wd hw 126 rfl) (wd hw 109 rfl) (wd hw 128 rfl) (wd hw 127 rfl) (wd hw 110 rfl) (wd hw 129 rfl) (by decide) e214 a H.1 (rm_r1 l Z a0 hw a n0 mb nb fm fn ur h0 ta tb sa ra lo hi cs sf gc fr hI EI nI WI H) (by rw [hml]; rfl) [(.ref ta), (.ref sa)] [] rfl (lenOf pd_201 rfl) rfl (by show 0 + (4 + 11) + 30 ≤ _; decide) (by decide) (by decide) (by decide) (hb hby d21_19) rfl ?_
  intro T215 v215 L215 X215 hQ215
  obtain ⟨rfl, N215, EI1, U1⟩ := hQ215
  have N215 := Fr.app (Fr.nil n0) N215
  show Goes p e below _ T215 (mkF m 22 #[.val (.ref a), .val (.ref ta), .val (.ref sa), .val (.int fv), .val (.int cp), .unset, .unset, .unset, .unset, .unset, .unset, .unset] [])
  refine g_iload_n (i := 3) X215 hx (hb hby d21_22) (by rfl) rfl ?_
  refine g_bipush (v := (6 : Int32)) X215 hx (hb hby d21_23) (by decide) rfl ?_
  refine g_iushr X215 hx (hb hby d21_25) rfl ?_
  rw [hb0]
  show Goes p e below _ T215 (mkF m 26 #[.val (.ref a), .val (.ref ta), .val (.ref sa), .val (.int fv), .val (.int cp), .unset, .unset, .unset, .unset, .unset, .unset, .unset] [(.int (0 : Int32))])
  refine g_istore (i := 5) X215 hx #[.val (.ref a), .val (.ref ta), .val (.ref sa), .val (.int fv), .val (.int cp), .val (.int (0 : Int32)), .unset, .unset, .unset, .unset, .unset, .unset] (hb hby d21_26) rfl rfl ?_
  refine g_aload_n (i := 0) X215 hx (hb hby d21_28) (by rfl) rfl rfl ?_
  refine g_iload (i := 5) X215 hx (hb hby d21_29) (by rfl) rfl ?_
  refine g_callP X215 hx hZ hown (wd hw 144 rfl) (wd hw 109 rfl) (wd hw 146 rfl) (wd hw 145 rfl) (wd hw 110 rfl) (wd hw 147 rfl) (by decide) rfl a U1.1 (rm_rd0 l Z a0 hw a n0 mb nb _ _ ur T215.heap ta tb sa ra lo hi cs sf gc fr hI EI1 nI WI U1 rfl) (by rw [hml]; rfl) [(.int (0 : Int32))] [] rfl (lenOf pd_202 rfl) rfl (by show 0 + (7 + 11) + 54 ≤ _; decide) (by decide) (by decide) (by decide) (hb hby d21_31) rfl ?_
  intro T216 v216 L216 X216 hQ216
  obtain ⟨rfl, N216, EI2, U2⟩ := hQ216
  have N216 := Fr.app N215 N216
  show Goes p e below _ T216 (mkF m 34 #[.val (.ref a), .val (.ref ta), .val (.ref sa), .val (.int fv), .val (.int cp), .val (.int (0 : Int32)), .unset, .unset, .unset, .unset, .unset, .unset] [])
  refine g_aload_n (i := 0) X216 hx (hb hby d21_34) (by rfl) rfl rfl ?_
  refine g_getF X216 hx hZ hown (wd hw 115 rfl) rfl U2.2.2.2.1 (hb hby d21_35) rfl ?_
  intro T217 X217 e217
  refine g_iload (i := 5) X217 hx (hb hby d21_38) (by rfl) rfl ?_
  refine g_laload' X217 hx hZ e217 U2.2.2.2.2.2.2.2.1 (by decide) (by decide) (x := (own_B gc lo hi)) rfl (hb hby d21_40) rfl ?_
  refine g_ldc2J X217 hx hZ hown (wd hw 176 rfl) (hb hby d21_41) rfl ?_
  refine g_lxor X217 hx (hb hby d21_44) rfl ?_
  refine g_ldc2J X217 hx hZ hown (wd hw 176 rfl) (hb hby d21_45) rfl ?_
  refine g_iload_n (i := 3) X217 hx (hb hby d21_48) (by rfl) rfl ?_
  refine g_lshl X217 hx (hb hby d21_49) rfl ?_
  refine g_land X217 hx (hb hby d21_50) rfl ?_
  refine g_lstore (i := 6) X217 hx #[.val (.ref a), .val (.ref ta), .val (.ref sa), .val (.int fv), .val (.int cp), .val (.int (0 : Int32)), .val (.long (((own_B gc lo hi) ^^^ (-1 : Int64)) &&& ((-1 : Int64) <<< (fv.toInt64 &&& 63)))), .second, .unset, .unset, .unset, .unset] (hb hby d21_51) rfl rfl ?_
  refine g_lload (i := 6) X217 hx (hb hby d21_53) (by rfl) rfl ?_
  refine g_lconst (v := (0 : Int64)) X217 hx (hb hby d21_55) (by decide) rfl ?_
  refine g_lcmp X217 hx (hb hby d21_56) rfl ?_
  refine g_if_ne X217 hx (hb hby d21_57) (by decide) (pt := 163) (by decide) rfl (fun _ => ?_) (fun q_ => absurd q_ (fun z => ho ((cm_eq _ _).mp z)))
  refine g_iload (i := 5) X217 hx (hb hby d21_163) (by rfl) rfl ?_
  refine g_i2l X217 hx (hb hby d21_165) rfl ?_
  refine g_bipush (v := (6 : Int32)) X217 hx (hb hby d21_166) (by decide) rfl ?_
  refine g_lshl X217 hx (hb hby d21_168) rfl ?_
  refine g_lload (i := 6) X217 hx (hb hby d21_169) (by rfl) rfl ?_
  refine g_callS X217 hx hZ hown (wd hw 180 rfl) (wd hw 181 rfl) (wd hw 182 rfl) (wd hw 183 rfl) (by decide) e217 (rm_ntzl l Z a0 hw (own_out (own_B gc lo hi) fv) T216.heap) (by rw [hml]; rfl) [(.long (((own_B gc lo hi) ^^^ (-1 : Int64)) &&& ((-1 : Int64) <<< (fv.toInt64 &&& 63))))] [(.long ((0 : Int32).toInt64 <<< ((6 : Int32).toInt64 &&& 63)))] rfl (lenOf pd_204 rfl) rfl (by show 2 + (3 + 11) + 14 ≤ _; decide) (by decide) (by decide) (by decide) (hb hby d21_171) rfl ?_
  intro T218 v218 L218 X218 hQ218
  obtain ⟨rfl, rfl, e218⟩ := hQ218
  have N218 := Fr.app N216 (Fr.nil n0)
  show Goes p e below _ T218 (mkF m 174 #[.val (.ref a), .val (.ref ta), .val (.ref sa), .val (.int fv), .val (.int cp), .val (.int (0 : Int32)), .val (.long (((own_B gc lo hi) ^^^ (-1 : Int64)) &&& ((-1 : Int64) <<< (fv.toInt64 &&& 63)))), .second, .unset, .unset, .unset, .unset] [(.int (own_ntzL (own_out (own_B gc lo hi) fv))), (.long ((0 : Int32).toInt64 <<< ((6 : Int32).toInt64 &&& 63)))])
  refine g_i2l X218 hx (hb hby d21_174) rfl ?_
  refine g_ladd X218 hx (hb hby d21_175) rfl ?_
  refine g_iload (i := 4) X218 hx (hb hby d21_176) (by rfl) rfl ?_
  refine g_i2l X218 hx (hb hby d21_178) rfl ?_
  refine g_callS X218 hx hZ hown (wd hw 189 rfl) (wd hw 190 rfl) (wd hw 32 rfl) (wd hw 191 rfl) (by decide) e218 (rm_minl l Z a0 hw (((0 : Int32).toInt64 <<< ((6 : Int32).toInt64 &&& 63)) + (own_ntzL (own_out (own_B gc lo hi) fv)).toInt64) cp.toInt64 T216.heap) (by rw [hml]; rfl) [(.long (((0 : Int32).toInt64 <<< ((6 : Int32).toInt64 &&& 63)) + (own_ntzL (own_out (own_B gc lo hi) fv)).toInt64)), (.long cp.toInt64)] [] rfl (lenOf pd_205 rfl) rfl (by show 0 + (4 + 11) + 0 ≤ _; decide) (by decide) (by decide) (by decide) (hb hby d21_179) rfl ?_
  intro T219 v219 L219 X219 hQ219
  obtain ⟨rfl, rfl, e219⟩ := hQ219
  have N219 := Fr.app N218 (Fr.nil n0)
  show Goes p e below _ T219 (mkF m 182 #[.val (.ref a), .val (.ref ta), .val (.ref sa), .val (.int fv), .val (.int cp), .val (.int (0 : Int32)), .val (.long (((own_B gc lo hi) ^^^ (-1 : Int64)) &&& ((-1 : Int64) <<< (fv.toInt64 &&& 63)))), .second, .unset, .unset, .unset, .unset] [(.long (own_minL (((0 : Int32).toInt64 <<< ((6 : Int32).toInt64 &&& 63)) + (own_ntzL (own_out (own_B gc lo hi) fv)).toInt64) cp.toInt64))])
  refine g_l2i X219 hx (hb hby d21_182) rfl ?_
  exact g_retI X219 hx hlk hret e219 (by decide) (by decide) (hb hby d21_183) ⟨rfl, N219, EI2, mb, nb, _, _, U2, rfl, (show ¬ ((-1 : Int32) = 0) by decide)⟩
theorem own_i2c (v : Int32) (h0 : 0 ≤ v.toInt) (h1 : v.toInt ≤ 255) : v.toUInt32.toUInt16.toUInt32.toInt32 = v :=
  own_fin (P := fun v => v.toUInt32.toUInt16.toUInt32.toInt32 = v) 256 (by decide) (by decide +kernel) v h0 (by omega)
theorem own_narc (v : Int32) (h0 : 0 ≤ v.toInt) (h1 : v.toInt ≤ 255) : nar .char v = v :=
  own_fin (P := fun v => nar .char v = v) 256 (by decide) (by decide +kernel) v h0 (by omega)
theorem own_sub5 (fr : Int32) (h0 : 0 ≤ fr.toInt) (h1 : fr.toInt < 5) : (5 - fr).toInt = 5 - fr.toInt ∧ ¬ 5 - fr = 0 := by
  have e := c_isub 5 fr
  have r := rng32 (5 - fr)
  rw [show (5 : Int32).toInt = 5 from rfl] at e
  refine ⟨by omega, fun q => ?_⟩
  rw [q, show (0 : Int32).toInt = 0 from rfl] at e; omega
theorem own_en (fr z : Int32) (h0 : 0 ≤ fr.toInt) (h1 : fr.toInt < 5) (z0 : 0 ≤ z.toInt) (z1 : z.toInt < 5 - fr.toInt) : fr.toInt ≤ (fr + z).toInt ∧ (fr + z).toInt ≤ 4 := by
  have e := c_iadd fr z
  have r := rng32 (fr + z)
  omega
def own_rf (b : Bool) (i fv cp rv : Int32) : Int32 := if ¬ i < fv ∧ i < cp ∧ b = false then i else rv
def own_ref (b0 b1 b2 b3 : Bool) (fv cp : Int32) : Int32 := own_rf b0 0 fv cp (own_rf b1 1 fv cp (own_rf b2 2 fv cp (own_rf b3 3 fv cp cp)))
theorem own_law1 : ∀ (b0 b1 b2 b3 : Bool) (f g : Fin 5), f.val ≤ g.val → own_end (own_bits b0 b1 b2 b3) (Int32.ofNat f.val) (Int32.ofNat g.val) = own_ref b0 b1 b2 b3 (Int32.ofNat f.val) (Int32.ofNat g.val) := by decide +kernel
theorem own_law2 : ∀ (b0 b1 b2 b3 : Bool) (f : Fin 5), ¬ own_out (own_bits b0 b1 b2 b3) (Int32.ofNat f.val) = 0 ∧ XT.ushr (Int32.ofNat f.val) 6 = 0 := by decide +kernel
theorem own_of5 (v : Int32) (h0 : 0 ≤ v.toInt) (h1 : v.toInt ≤ 4) : ∃ r : Fin 5, v = Int32.ofNat r.val ∧ (r.val : Int) = v.toInt := by
  refine ⟨⟨v.toInt.toNat, by omega⟩, Int32.toInt_inj.mp ?_, by show ((v.toInt.toNat : Nat) : Int) = _; omega⟩
  rw [Int32.toInt_ofNat_of_lt (by show v.toInt.toNat < _; omega)]
  show _ = ((v.toInt.toNat : Nat) : Int)
  omega
theorem own_law (b0 b1 b2 b3 : Bool) (fv cp : Int32) (h0 : 0 ≤ fv.toInt) (h1 : fv.toInt ≤ cp.toInt) (h2 : cp.toInt ≤ 4) : own_end (own_bits b0 b1 b2 b3) fv cp = own_ref b0 b1 b2 b3 fv cp ∧ ¬ own_out (own_bits b0 b1 b2 b3) fv = 0 ∧ XT.ushr fv 6 = 0 := by
  obtain ⟨f, rfl, hf⟩ := own_of5 fv h0 (by omega)
  obtain ⟨g, rfl, hg⟩ := own_of5 cp (by omega) h2
  exact ⟨own_law1 b0 b1 b2 b3 f g (by omega), own_law2 b0 b1 b2 b3 f⟩
theorem own_rf0 {i fv cp rv : Int32} {b : Bool} (q : i < fv) : rv = own_rf b i fv cp rv := by rw [own_rf, if_neg (fun z => z.1 q)]
theorem own_rf1 {i fv cp rv : Int32} {b : Bool} (q : ¬ i < cp) : rv = own_rf b i fv cp rv := by rw [own_rf, if_neg (fun z => q z.2.1)]
theorem own_rf2 {P : Prop} [Decidable P] {i fv cp rv : Int32} (q : ¬ (if P then (1 : Int32) else 0) = 0) : rv = own_rf (decide P) i fv cp rv := by
  by_cases r : P
  · simp [own_rf, r]
  · rw [if_neg r] at q; exact absurd rfl q
theorem own_rf3 {P : Prop} [Decidable P] {i fv cp rv : Int32} (q1 : ¬ i < fv) (q2 : i < cp) (q : (if P then (1 : Int32) else 0) = 0) : i = own_rf (decide P) i fv cp rv := by
  by_cases r : P
  · rw [if_pos r] at q; exact absurd q (by decide)
  · rw [own_rf, if_pos ⟨q1, q2, by simp [r]⟩]
theorem own_mm (u1 u2 : Int32) (h1 : 0 ≤ u1.toInt ∧ u1.toInt ≤ 255) (h2 : 0 ≤ u2.toInt ∧ u2.toInt ≤ 255) : 0 ≤ (if u2 < u1 then u2 else u1).toInt ∧ (if u2 < u1 then u2 else u1).toInt ≤ (if u1 < u2 then u2 else u1).toInt ∧ (if u1 < u2 then u2 else u1).toInt ≤ 255 := by
  simp only [own_ltI]
  by_cases p : u2.toInt < u1.toInt
  · rw [if_pos p, if_neg (by omega)]; omega
  · rw [if_neg p]; split <;> omega
def own_g4 (k0 k1 k2 k3 : Int32) (i : Nat) : Int32 := if i = 0 then k0 else if i = 1 then k1 else if i = 2 then k2 else k3
theorem ef_rm0 (m : MethodId) (x0 : Int32) (x1 : Int32) (x2 : Int32) (x3 : Int32)  : entryFrame m #[(.int x0), (.int x1), (.int x2), (.int x3)] maxLocals = mkF m 0 #[.val (.int x0), .val (.int x1), .val (.int x2), .val (.int x3), .unset, .unset, .unset, .unset, .unset, .unset, .unset, .unset, .unset, .unset, .unset, .unset, .unset, .unset, .unset, .unset, .unset, .unset, .unset, .unset, .unset, .unset, .unset, .unset] [] := by first | (simp [entryFrame, mkF, argsToLocals, Value.category, maxLocals]; done) | rfl
theorem pn_220 : plainFor x = true := by first | exact plainFor_of_name (by first | (simp [plainName, overriddenIn]; done) | decide +kernel) | decide +kernel
theorem pd_227 : parseMethodDescriptor "([C)V" = some ⟨[(.array .char)], none⟩ := by decide +kernel
theorem pd_230 : parseMethodDescriptor "(CC)Lcom/example/nav_by_schema/navbyschema/regex/CodeUnitSet;" = some ⟨[.char, .char], some (.object "com/example/nav_by_schema/navbyschema/regex/CodeUnitSet")⟩ := by decide +kernel
theorem pd_233 : parseMethodDescriptor "(Ljava/lang/String;Lcom/example/nav_by_schema/navbyschema/regex/CodeUnitSet;II)I" = some ⟨[(.object "java/lang/String"), (.object "com/example/nav_by_schema/navbyschema/regex/CodeUnitSet"), .int, .int], some .int⟩ := by decide +kernel
theorem pd_234 : parseMethodDescriptor "()J" = some ⟨[], some .long⟩ := by decide +kernel
theorem pd_240 : parseMethodDescriptor "(III)Z" = some ⟨[.int, .int, .int], some .boolean⟩ := by decide +kernel
set_option maxRecDepth 65536 in
set_option maxHeartbeats 40000000 in
theorem rm0 (l : Launch) (Z : State) (a0 : Array Value) (hw : ∀ d ∈ tables_1, d.before a0 Z = true) (p0 p1 p2 p3 : Int32) (h0 : Heap) (n0 : Nat) (Z0 : n0 ≤ h0.size) (cs : Int32) (sf : Value) (S_cs : Sta Z h0 "java/lang/String" "COMPACT_STRINGS" "Z" (.int cs)) (hcs : ¬ cs = 0) (S_sf : Sta Z h0 "jdk/internal/util/Preconditions" "SIOOBE_FORMATTER" "Ljava/util/function/BiFunction;" sf) (hr_sf : sf.isRef = true) (hc_sf : sf.category = 1) :
    Ctr l Z x code maxLocals ret tables_1 room_1 40 192 #[(.int p0), (.int p1), (.int p2), (.int p3)] h0 (fun v h L => v = some (.int 1) ∧ Fr n0 L) := by
  refine Ctr.of pn_220 ?_
  intro p e s m below meth c s₁ hx hby hml hown hnm hret hlk hZ X0 e0
  refine Goes.cast (ef_rm0 m p0 p1 p2 p3) ?_
  refine g_iload_n (i := 0) X0 hx (hb hby at_0) (by rfl) rfl ?_
  refine g_sipush (v := (255 : Int32)) X0 hx (hb hby at_1) (by decide) rfl ?_
  refine g_iand X0 hx (hb hby at_4) rfl ?_
  refine g_istore (i := 4) X0 hx #[.val (.int p0), .val (.int p1), .val (.int p2), .val (.int p3), .val (.int (p0 &&& (255 : Int32))), .unset, .unset, .unset, .unset, .unset, .unset, .unset, .unset, .unset, .unset, .unset, .unset, .unset, .unset, .unset, .unset, .unset, .unset, .unset, .unset, .unset, .unset, .unset] (hb hby at_5) rfl rfl ?_
  refine g_iload_n (i := 0) X0 hx (hb hby at_7) (by rfl) rfl ?_
  refine g_bipush (v := (8 : Int32)) X0 hx (hb hby at_8) (by decide) rfl ?_
  refine g_iushr X0 hx (hb hby at_10) rfl ?_
  refine g_sipush (v := (255 : Int32)) X0 hx (hb hby at_11) (by decide) rfl ?_
  refine g_iand X0 hx (hb hby at_14) rfl ?_
  refine g_istore (i := 5) X0 hx #[.val (.int p0), .val (.int p1), .val (.int p2), .val (.int p3), .val (.int (p0 &&& (255 : Int32))), .val (.int ((XT.ushr p0 (8 : Int32)) &&& (255 : Int32))), .unset, .unset, .unset, .unset, .unset, .unset, .unset, .unset, .unset, .unset, .unset, .unset, .unset, .unset, .unset, .unset, .unset, .unset, .unset, .unset, .unset, .unset] (hb hby at_15) rfl rfl ?_
  refine g_iload_n (i := 0) X0 hx (hb hby at_17) (by rfl) rfl ?_
  refine g_bipush (v := (16 : Int32)) X0 hx (hb hby at_18) (by decide) rfl ?_
  refine g_iushr X0 hx (hb hby at_20) rfl ?_
  refine g_sipush (v := (255 : Int32)) X0 hx (hb hby at_21) (by decide) rfl ?_
  refine g_iand X0 hx (hb hby at_24) rfl ?_
  refine g_istore (i := 6) X0 hx #[.val (.int p0), .val (.int p1), .val (.int p2), .val (.int p3), .val (.int (p0 &&& (255 : Int32))), .val (.int ((XT.ushr p0 (8 : Int32)) &&& (255 : Int32))), .val (.int ((XT.ushr p0 (16 : Int32)) &&& (255 : Int32))), .unset, .unset, .unset, .unset, .unset, .unset, .unset, .unset, .unset, .unset, .unset, .unset, .unset, .unset, .unset, .unset, .unset, .unset, .unset, .unset, .unset] (hb hby at_25) rfl rfl ?_
  refine g_iload_n (i := 0) X0 hx (hb hby at_27) (by rfl) rfl ?_
  refine g_bipush (v := (24 : Int32)) X0 hx (hb hby at_28) (by decide) rfl ?_
  refine g_iushr X0 hx (hb hby at_30) rfl ?_
  refine g_sipush (v := (255 : Int32)) X0 hx (hb hby at_31) (by decide) rfl ?_
  refine g_iand X0 hx (hb hby at_34) rfl ?_
  refine g_istore (i := 7) X0 hx #[.val (.int p0), .val (.int p1), .val (.int p2), .val (.int p3), .val (.int (p0 &&& (255 : Int32))), .val (.int ((XT.ushr p0 (8 : Int32)) &&& (255 : Int32))), .val (.int ((XT.ushr p0 (16 : Int32)) &&& (255 : Int32))), .val (.int ((XT.ushr p0 (24 : Int32)) &&& (255 : Int32))), .unset, .unset, .unset, .unset, .unset, .unset, .unset, .unset, .unset, .unset, .unset, .unset, .unset, .unset, .unset, .unset, .unset, .unset, .unset, .unset] (hb hby at_35) rfl rfl ?_
  have H_k3 : 0 ≤ ((XT.ushr p0 (24 : Int32)) &&& (255 : Int32)).toInt ∧ ((XT.ushr p0 (24 : Int32)) &&& (255 : Int32)).toInt ≤ 255 := by rw [c_mask (XT.ushr p0 (24 : Int32)) 255 8 (by decide) (by decide)]; omega
  revert H_k3
  generalize ((XT.ushr p0 (24 : Int32)) &&& (255 : Int32)) = k3
  intro H_k3
  have H_k2 : 0 ≤ ((XT.ushr p0 (16 : Int32)) &&& (255 : Int32)).toInt ∧ ((XT.ushr p0 (16 : Int32)) &&& (255 : Int32)).toInt ≤ 255 := by rw [c_mask (XT.ushr p0 (16 : Int32)) 255 8 (by decide) (by decide)]; omega
  revert H_k2
  generalize ((XT.ushr p0 (16 : Int32)) &&& (255 : Int32)) = k2
  intro H_k2
  have H_k1 : 0 ≤ ((XT.ushr p0 (8 : Int32)) &&& (255 : Int32)).toInt ∧ ((XT.ushr p0 (8 : Int32)) &&& (255 : Int32)).toInt ≤ 255 := by rw [c_mask (XT.ushr p0 (8 : Int32)) 255 8 (by decide) (by decide)]; omega
  revert H_k1
  generalize ((XT.ushr p0 (8 : Int32)) &&& (255 : Int32)) = k1
  intro H_k1
  have H_k0 : 0 ≤ (p0 &&& (255 : Int32)).toInt ∧ (p0 &&& (255 : Int32)).toInt ≤ 255 := by rw [c_mask p0 255 8 (by decide) (by decide)]; omega
  revert H_k0
  generalize (p0 &&& (255 : Int32)) = k0
  intro H_k0
  refine g_iconst (v := (4 : Int32)) X0 hx (hb hby at_37) (by decide) rfl ?_
  refine g_newarr X0 hx hZ (ty := .char) rfl (wd hw 0 rfl) e0 (hb hby at_38) rfl (by decide) 4 (by decide) (by decide) (by decide) (by decide) ?_
  intro T221 h221 cA221 a221 X221 e221 g221 Ex221 A221
  have Ar0 : ArI Z h221 a221 .char 4 (fun _ => 0) := ArI.new A221 0 rfl
  have gb : n0 ≤ a221 := by rw [g221]; exact Z0
  have gb0 : h0.size ≤ a221 := by rw [g221]; exact Nat.le_refl _
  have EX := Ex221
  refine g_astore (i := 8) X221 hx #[.val (.int p0), .val (.int p1), .val (.int p2), .val (.int p3), .val (.int k0), .val (.int k1), .val (.int k2), .val (.int k3), .val (.ref a221), .unset, .unset, .unset, .unset, .unset, .unset, .unset, .unset, .unset, .unset, .unset, .unset, .unset, .unset, .unset, .unset, .unset, .unset, .unset] (hb hby at_40) rfl rfl rfl ?_
  refine g_aload (i := 8) X221 hx (hb hby at_42) (by rfl) rfl rfl ?_
  refine g_iconst (v := (0 : Int32)) X221 hx (hb hby at_44) (by decide) rfl ?_
  refine g_iload (i := 4) X221 hx (hb hby at_45) (by rfl) rfl ?_
  refine g_i2c X221 hx (hb hby at_47) rfl ?_
  rw [own_i2c k0 H_k0.1 H_k0.2]
  show Goes p e below _ T221 (mkF m 48 #[.val (.int p0), .val (.int p1), .val (.int p2), .val (.int p3), .val (.int k0), .val (.int k1), .val (.int k2), .val (.int k3), .val (.ref a221), .unset, .unset, .unset, .unset, .unset, .unset, .unset, .unset, .unset, .unset, .unset, .unset, .unset, .unset, .unset, .unset, .unset, .unset, .unset] [(.int k0), (.int (0 : Int32)), (.ref a221)])
  refine g_castoreN X221 hx hZ e221 Ar0 0 (by decide) (by decide) (by decide) (hb hby at_48) rfl ?_
  intro T222 h222 X222 e222 W222 Ar222
  have N222 := Fr.snoc X222 (Fr.nil n0) gb
  have EX222 := own_extw EX W222 gb0
  refine g_aload (i := 8) X222 hx (hb hby at_49) (by rfl) rfl rfl ?_
  refine g_iconst (v := (1 : Int32)) X222 hx (hb hby at_51) (by decide) rfl ?_
  refine g_iload (i := 5) X222 hx (hb hby at_52) (by rfl) rfl ?_
  refine g_i2c X222 hx (hb hby at_54) rfl ?_
  rw [own_i2c k1 H_k1.1 H_k1.2]
  show Goes p e below _ T222 (mkF m 55 #[.val (.int p0), .val (.int p1), .val (.int p2), .val (.int p3), .val (.int k0), .val (.int k1), .val (.int k2), .val (.int k3), .val (.ref a221), .unset, .unset, .unset, .unset, .unset, .unset, .unset, .unset, .unset, .unset, .unset, .unset, .unset, .unset, .unset, .unset, .unset, .unset, .unset] [(.int k1), (.int (1 : Int32)), (.ref a221)])
  refine g_castoreN X222 hx hZ e222 Ar222 1 (by decide) (by decide) (by decide) (hb hby at_55) rfl ?_
  intro T223 h223 X223 e223 W223 Ar223
  have N223 := Fr.snoc X223 N222 gb
  have EX223 := own_extw EX222 W223 gb0
  refine g_aload (i := 8) X223 hx (hb hby at_56) (by rfl) rfl rfl ?_
  refine g_iconst (v := (2 : Int32)) X223 hx (hb hby at_58) (by decide) rfl ?_
  refine g_iload (i := 6) X223 hx (hb hby at_59) (by rfl) rfl ?_
  refine g_i2c X223 hx (hb hby at_61) rfl ?_
  rw [own_i2c k2 H_k2.1 H_k2.2]
  show Goes p e below _ T223 (mkF m 62 #[.val (.int p0), .val (.int p1), .val (.int p2), .val (.int p3), .val (.int k0), .val (.int k1), .val (.int k2), .val (.int k3), .val (.ref a221), .unset, .unset, .unset, .unset, .unset, .unset, .unset, .unset, .unset, .unset, .unset, .unset, .unset, .unset, .unset, .unset, .unset, .unset, .unset] [(.int k2), (.int (2 : Int32)), (.ref a221)])
  refine g_castoreN X223 hx hZ e223 Ar223 2 (by decide) (by decide) (by decide) (hb hby at_62) rfl ?_
  intro T224 h224 X224 e224 W224 Ar224
  have N224 := Fr.snoc X224 N223 gb
  have EX224 := own_extw EX223 W224 gb0
  refine g_aload (i := 8) X224 hx (hb hby at_63) (by rfl) rfl rfl ?_
  refine g_iconst (v := (3 : Int32)) X224 hx (hb hby at_65) (by decide) rfl ?_
  refine g_iload (i := 7) X224 hx (hb hby at_66) (by rfl) rfl ?_
  refine g_i2c X224 hx (hb hby at_68) rfl ?_
  rw [own_i2c k3 H_k3.1 H_k3.2]
  show Goes p e below _ T224 (mkF m 69 #[.val (.int p0), .val (.int p1), .val (.int p2), .val (.int p3), .val (.int k0), .val (.int k1), .val (.int k2), .val (.int k3), .val (.ref a221), .unset, .unset, .unset, .unset, .unset, .unset, .unset, .unset, .unset, .unset, .unset, .unset, .unset, .unset, .unset, .unset, .unset, .unset, .unset] [(.int k3), (.int (3 : Int32)), (.ref a221)])
  refine g_castoreN X224 hx hZ e224 Ar224 3 (by decide) (by decide) (by decide) (hb hby at_69) rfl ?_
  intro T225 h225 X225 e225 W225 Ar225
  have N225 := Fr.snoc X225 N224 gb
  have EX225 := own_extw EX224 W225 gb0
  have Ac : ArI Z h225 a221 .char 4 (own_g4 k0 k1 k2 k3) := Ar225.congr (fun j hj => by
    rcases (show j = 0 ∨ j = 1 ∨ j = 2 ∨ j = 3 by omega) with rfl | rfl | rfl | rfl <;> simp [own_g4, own_narc k0 H_k0.1 H_k0.2, own_narc k1 H_k1.1 H_k1.2, own_narc k2 H_k2.1 H_k2.2, own_narc k3 H_k3.1 H_k3.2])
  have Hg : ∀ i, i < 4 → 0 ≤ (own_g4 k0 k1 k2 k3 i).toInt ∧ (own_g4 k0 k1 k2 k3 i).toInt ≤ 255 := fun i hi => by
    rcases (show i = 0 ∨ i = 1 ∨ i = 2 ∨ i = 3 by omega) with rfl | rfl | rfl | rfl
    · exact H_k0
    · exact H_k1
    · exact H_k2
    · exact H_k3
  have Z1 : n0 ≤ h225.size := Nat.le_trans Z0 EX225.1
  refine g_new X225 hx hZ hown (wd hw 1 rfl) (wd hw 2 rfl) (wd hw 3 rfl) e225 (hb hby at_70) rfl (by decide) (by decide) ?_
  intro T226 h226 a226 X226 e226 g226 Ex226 E226 D226
  have F226_coder : Fld Z h226 a226 "java/lang/String" "coder" "B" (.int 0) := D226 (Or.inr (wd hw 27 rfl)) (ty := .byte) (by decide)
  have F226_value : Fld Z h226 a226 "java/lang/String" "value" "[B" .null := D226 (Or.inr (wd hw 29 rfl)) (ty := (.array .byte)) (by decide)
  have ga : n0 ≤ a226 := by rw [g226]; exact Z1
  have ga0 : h0.size ≤ a226 := by rw [g226]; exact EX225.1
  have EY := own_tr EX225 Ex226
  have Z2 : n0 ≤ h226.size := Nat.le_trans Z0 EY.1
  refine g_dup X226 hx (hb hby at_73) rfl rfl ?_
  refine g_aload (i := 8) X226 hx (hb hby at_74) (by rfl) rfl rfl ?_
  refine g_callI X226 hx hZ rfl hown (wd hw 4 rfl) (wd hw 5 rfl) (wd hw 3 rfl) (wd hw 6 rfl) (by decide) e226 (rm_s l Z a0 hw a226 a221 (own_g4 k0 k1 k2 k3) h226 n0 (Ac.ext Ex226) (fun i hi => (Hg i hi).2) ga Z2 cs (S_cs.ext EY) hcs E226 F226_value F226_coder) (by rw [hml]; rfl) a226 [(.ref a221)] [(.ref a226)] rfl (lenOf pd_227 rfl) rfl (by show 1 + (2 + 11) + 52 ≤ _; decide) (by decide) (by decide) (by decide) (hb hby at_76) rfl ?_
  intro T227 v227 L227 X227 hQ227
  obtain ⟨rfl, N227, K227, tb, gtb, St1, St2, St3, St4⟩ := hQ227
  have N227 := Fr.app N225 N227
  show Goes p e below _ T227 (mkF m 79 #[.val (.int p0), .val (.int p1), .val (.int p2), .val (.int p3), .val (.int k0), .val (.int k1), .val (.int k2), .val (.int k3), .val (.ref a221), .unset, .unset, .unset, .unset, .unset, .unset, .unset, .unset, .unset, .unset, .unset, .unset, .unset, .unset, .unset, .unset, .unset, .unset, .unset] [(.ref a226)])
  have EZ := own_ext3 EY K227 (fun x hx => by rw [List.mem_singleton.mp hx]; exact ga0)
  have St : own_str Z T227.heap a226 tb (fun i => (own_g4 k0 k1 k2 k3 i).toInt8.toInt32) := ⟨St1, St2, St3, St4⟩
  clear St1 St2 St3 St4
  refine g_astore (i := 9) X227 hx #[.val (.int p0), .val (.int p1), .val (.int p2), .val (.int p3), .val (.int k0), .val (.int k1), .val (.int k2), .val (.int k3), .val (.ref a221), .val (.ref a226), .unset, .unset, .unset, .unset, .unset, .unset, .unset, .unset, .unset, .unset, .unset, .unset, .unset, .unset, .unset, .unset, .unset, .unset] (hb hby at_79) rfl rfl rfl ?_
  refine g_iload_n (i := 1) X227 hx (hb hby at_81) (by rfl) rfl ?_
  refine g_sipush (v := (255 : Int32)) X227 hx (hb hby at_82) (by decide) rfl ?_
  refine g_iand X227 hx (hb hby at_85) rfl ?_
  refine g_istore (i := 10) X227 hx #[.val (.int p0), .val (.int p1), .val (.int p2), .val (.int p3), .val (.int k0), .val (.int k1), .val (.int k2), .val (.int k3), .val (.ref a221), .val (.ref a226), .val (.int (p1 &&& (255 : Int32))), .unset, .unset, .unset, .unset, .unset, .unset, .unset, .unset, .unset, .unset, .unset, .unset, .unset, .unset, .unset, .unset, .unset] (hb hby at_86) rfl rfl ?_
  refine g_iload_n (i := 1) X227 hx (hb hby at_88) (by rfl) rfl ?_
  refine g_bipush (v := (8 : Int32)) X227 hx (hb hby at_89) (by decide) rfl ?_
  refine g_iushr X227 hx (hb hby at_91) rfl ?_
  refine g_sipush (v := (255 : Int32)) X227 hx (hb hby at_92) (by decide) rfl ?_
  refine g_iand X227 hx (hb hby at_95) rfl ?_
  refine g_istore (i := 11) X227 hx #[.val (.int p0), .val (.int p1), .val (.int p2), .val (.int p3), .val (.int k0), .val (.int k1), .val (.int k2), .val (.int k3), .val (.ref a221), .val (.ref a226), .val (.int (p1 &&& (255 : Int32))), .val (.int ((XT.ushr p1 (8 : Int32)) &&& (255 : Int32))), .unset, .unset, .unset, .unset, .unset, .unset, .unset, .unset, .unset, .unset, .unset, .unset, .unset, .unset, .unset, .unset] (hb hby at_96) rfl rfl ?_
  have H_y1 : 0 ≤ ((XT.ushr p1 (8 : Int32)) &&& (255 : Int32)).toInt ∧ ((XT.ushr p1 (8 : Int32)) &&& (255 : Int32)).toInt ≤ 255 := by rw [c_mask (XT.ushr p1 (8 : Int32)) 255 8 (by decide) (by decide)]; omega
  revert H_y1
  generalize ((XT.ushr p1 (8 : Int32)) &&& (255 : Int32)) = y1
  intro H_y1
  have H_y0 : 0 ≤ (p1 &&& (255 : Int32)).toInt ∧ (p1 &&& (255 : Int32)).toInt ≤ 255 := by rw [c_mask p1 255 8 (by decide) (by decide)]; omega
  revert H_y0
  generalize (p1 &&& (255 : Int32)) = y0
  intro H_y0
  refine g_iload (i := 10) X227 hx (hb hby at_98) (by rfl) rfl ?_
  refine g_iload (i := 11) X227 hx (hb hby at_100) (by rfl) rfl ?_
  refine g_callS X227 hx hZ hown (wd hw 30 rfl) (wd hw 31 rfl) (wd hw 32 rfl) (wd hw 33 rfl) (by decide) rfl (rm_min l Z a0 hw y0 y1 T227.heap) (by rw [hml]; rfl) [(.int y0), (.int y1)] [] rfl (lenOf pd_67 rfl) rfl (by show 0 + (2 + 11) + 0 ≤ _; decide) (by decide) (by decide) (by decide) (hb hby at_102) rfl ?_
  intro T228 v228 L228 X228 hQ228
  obtain ⟨rfl, rfl, e228⟩ := hQ228
  have N228 := Fr.app N227 (Fr.nil n0)
  show Goes p e below _ T228 (mkF m 105 #[.val (.int p0), .val (.int p1), .val (.int p2), .val (.int p3), .val (.int k0), .val (.int k1), .val (.int k2), .val (.int k3), .val (.ref a221), .val (.ref a226), .val (.int y0), .val (.int y1), .unset, .unset, .unset, .unset, .unset, .unset, .unset, .unset, .unset, .unset, .unset, .unset, .unset, .unset, .unset, .unset] [(.int (if y1 < y0 then y1 else y0))])
  refine g_istore (i := 12) X228 hx #[.val (.int p0), .val (.int p1), .val (.int p2), .val (.int p3), .val (.int k0), .val (.int k1), .val (.int k2), .val (.int k3), .val (.ref a221), .val (.ref a226), .val (.int y0), .val (.int y1), .val (.int (if y1 < y0 then y1 else y0)), .unset, .unset, .unset, .unset, .unset, .unset, .unset, .unset, .unset, .unset, .unset, .unset, .unset, .unset, .unset] (hb hby at_105) rfl rfl ?_
  refine g_iload (i := 10) X228 hx (hb hby at_107) (by rfl) rfl ?_
  refine g_iload (i := 11) X228 hx (hb hby at_109) (by rfl) rfl ?_
  refine g_callS X228 hx hZ hown (wd hw 34 rfl) (wd hw 35 rfl) (wd hw 32 rfl) (wd hw 36 rfl) (by decide) e228 (rm_max l Z a0 hw y0 y1 T227.heap) (by rw [hml]; rfl) [(.int y0), (.int y1)] [] rfl (lenOf pd_67 rfl) rfl (by show 0 + (2 + 11) + 0 ≤ _; decide) (by decide) (by decide) (by decide) (hb hby at_111) rfl ?_
  intro T229 v229 L229 X229 hQ229
  obtain ⟨rfl, rfl, e229⟩ := hQ229
  have N229 := Fr.app N228 (Fr.nil n0)
  show Goes p e below _ T229 (mkF m 114 #[.val (.int p0), .val (.int p1), .val (.int p2), .val (.int p3), .val (.int k0), .val (.int k1), .val (.int k2), .val (.int k3), .val (.ref a221), .val (.ref a226), .val (.int y0), .val (.int y1), .val (.int (if y1 < y0 then y1 else y0)), .unset, .unset, .unset, .unset, .unset, .unset, .unset, .unset, .unset, .unset, .unset, .unset, .unset, .unset, .unset] [(.int (if y0 < y1 then y1 else y0))])
  refine g_istore (i := 13) X229 hx #[.val (.int p0), .val (.int p1), .val (.int p2), .val (.int p3), .val (.int k0), .val (.int k1), .val (.int k2), .val (.int k3), .val (.ref a221), .val (.ref a226), .val (.int y0), .val (.int y1), .val (.int (if y1 < y0 then y1 else y0)), .val (.int (if y0 < y1 then y1 else y0)), .unset, .unset, .unset, .unset, .unset, .unset, .unset, .unset, .unset, .unset, .unset, .unset, .unset, .unset] (hb hby at_114) rfl rfl ?_
  obtain ⟨q0, q1, q2⟩ := own_mm y0 y1 H_y0 H_y1
  revert q0 q1 q2
  generalize (if y1 < y0 then y1 else y0) = lo
  generalize (if y0 < y1 then y1 else y0) = hi
  intro q0 q1 q2
  refine g_iload_n (i := 2) X229 hx (hb hby at_116) (by rfl) rfl ?_
  refine g_ldcI X229 hx hZ hown (wd hw 37 rfl) (hb hby at_117) rfl ?_
  refine g_iand X229 hx (hb hby at_119) rfl ?_
  refine g_iconst (v := (5 : Int32)) X229 hx (hb hby at_120) (by decide) rfl ?_
  refine g_irem X229 hx (hb hby at_121) (by decide) rfl ?_
  refine g_istore (i := 14) X229 hx #[.val (.int p0), .val (.int p1), .val (.int p2), .val (.int p3), .val (.int k0), .val (.int k1), .val (.int k2), .val (.int k3), .val (.ref a221), .val (.ref a226), .val (.int y0), .val (.int y1), .val (.int lo), .val (.int hi), .val (.int ((p2 &&& (2147483647 : Int32)) % (5 : Int32))), .unset, .unset, .unset, .unset, .unset, .unset, .unset, .unset, .unset, .unset, .unset, .unset, .unset] (hb hby at_122) rfl rfl ?_
  obtain ⟨x0, x1⟩ := own_rem p2 5 (by decide)
  revert x0 x1
  generalize ((p2 &&& (2147483647 : Int32)) % (5 : Int32)) = fv
  intro x0 x1
  rw [show (5 : Int32).toInt = 5 from rfl] at x1
  obtain ⟨d5, d50⟩ := own_sub5 fv x0 x1
  refine g_iload (i := 14) X229 hx (hb hby at_124) (by rfl) rfl ?_
  refine g_iload_n (i := 3) X229 hx (hb hby at_126) (by rfl) rfl ?_
  refine g_ldcI X229 hx hZ hown (wd hw 37 rfl) (hb hby at_127) rfl ?_
  refine g_iand X229 hx (hb hby at_129) rfl ?_
  refine g_iconst (v := (5 : Int32)) X229 hx (hb hby at_130) (by decide) rfl ?_
  refine g_iload (i := 14) X229 hx (hb hby at_131) (by rfl) rfl ?_
  refine g_isub X229 hx (hb hby at_133) rfl ?_
  refine g_irem X229 hx (hb hby at_134) d50 rfl ?_
  obtain ⟨y0_, y1_⟩ := own_rem p3 (5 - fv) (by omega)
  revert y0_ y1_
  generalize ((p3 &&& (2147483647 : Int32)) % ((5 : Int32) - fv)) = zz
  intro y0_ y1_
  refine g_iadd X229 hx (hb hby at_135) rfl ?_
  refine g_istore (i := 15) X229 hx #[.val (.int p0), .val (.int p1), .val (.int p2), .val (.int p3), .val (.int k0), .val (.int k1), .val (.int k2), .val (.int k3), .val (.ref a221), .val (.ref a226), .val (.int y0), .val (.int y1), .val (.int lo), .val (.int hi), .val (.int fv), .val (.int (fv + zz)), .unset, .unset, .unset, .unset, .unset, .unset, .unset, .unset, .unset, .unset, .unset, .unset] (hb hby at_136) rfl rfl ?_
  obtain ⟨en0, en1⟩ := own_en fv zz x0 x1 y0_ (by omega)
  revert en0 en1
  generalize (fv + zz) = cp
  intro en0 en1
  refine g_iload (i := 15) X229 hx (hb hby at_138) (by rfl) rfl ?_
  refine g_istore (i := 16) X229 hx #[.val (.int p0), .val (.int p1), .val (.int p2), .val (.int p3), .val (.int k0), .val (.int k1), .val (.int k2), .val (.int k3), .val (.ref a221), .val (.ref a226), .val (.int y0), .val (.int y1), .val (.int lo), .val (.int hi), .val (.int fv), .val (.int cp), .val (.int cp), .unset, .unset, .unset, .unset, .unset, .unset, .unset, .unset, .unset, .unset, .unset] (hb hby at_140) rfl rfl ?_
  show Goes p e below _ T229 (mkF m 142 #[.val (.int p0), .val (.int p1), .val (.int p2), .val (.int p3), .val (.int k0), .val (.int k1), .val (.int k2), .val (.int k3), .val (.ref a221), .val (.ref a226), .val (.int y0), .val (.int y1), .val (.int lo), .val (.int hi), .val (.int fv), .val (.int cp), .val (.int cp), .unset, .unset, .unset, .unset, .unset, .unset, .unset, .unset, .unset, .unset, .unset] [])
  have J250 : ∀ (rv : Int32) (T : State) (locs : List Loc) (h : Heap), Stand p l e room_1 s m #[(.int p0), (.int p1), (.int p2), (.int p3)] below meth c T locs (0 + 1 + 1 + 1 + 0 + 0) (0 + 4 + 4 + 4 + 0 + 0) → T.heap = h → h = T227.heap → Fr n0 locs → rv = (own_rf (own_bb (own_g4 k0 k1 k2 k3) lo hi 0) 0 fv cp (own_rf (own_bb (own_g4 k0 k1 k2 k3) lo hi 1) 1 fv cp (own_rf (own_bb (own_g4 k0 k1 k2 k3) lo hi 2) 2 fv cp (own_rf (own_bb (own_g4 k0 k1 k2 k3) lo hi 3) 3 fv cp cp)))) → Goes p e below (KQ s 40 192 (fun v h L => v = some (.int 1) ∧ Fr n0 L)) T (mkF m 250 #[.val (.int p0), .val (.int p1), .val (.int p2), .val (.int p3), .val (.int k0), .val (.int k1), .val (.int k2), .val (.int k3), .val (.ref a221), .val (.ref a226), .val (.int y0), .val (.int y1), .val (.int lo), .val (.int hi), .val (.int fv), .val (.int cp), .val (.int rv), .unset, .unset, .unset, .unset, .unset, .unset, .unset, .unset, .unset, .unset, .unset] []) := by
    intro rv T locs h X eT hh hN hrv
    subst hh
    have hlw := own_law (own_bb (own_g4 k0 k1 k2 k3) lo hi 0) (own_bb (own_g4 k0 k1 k2 k3) lo hi 1) (own_bb (own_g4 k0 k1 k2 k3) lo hi 2) (own_bb (own_g4 k0 k1 k2 k3) lo hi 3) fv cp x0 en0 en1
    refine g_iload (i := 12) X hx (hb hby at_250) (by rfl) rfl ?_
    refine g_i2c X hx (hb hby at_252) rfl ?_
    rw [own_i2c lo q0 (by omega)]
    show Goes p e below _ T (mkF m 253 #[.val (.int p0), .val (.int p1), .val (.int p2), .val (.int p3), .val (.int k0), .val (.int k1), .val (.int k2), .val (.int k3), .val (.ref a221), .val (.ref a226), .val (.int y0), .val (.int y1), .val (.int lo), .val (.int hi), .val (.int fv), .val (.int cp), .val (.int rv), .unset, .unset, .unset, .unset, .unset, .unset, .unset, .unset, .unset, .unset, .unset] [(.int lo)])
    refine g_iload (i := 13) X hx (hb hby at_253) (by rfl) rfl ?_
    refine g_i2c X hx (hb hby at_255) rfl ?_
    rw [own_i2c hi (by omega) q2]
    show Goes p e below _ T (mkF m 256 #[.val (.int p0), .val (.int p1), .val (.int p2), .val (.int p3), .val (.int k0), .val (.int k1), .val (.int k2), .val (.int k3), .val (.ref a221), .val (.ref a226), .val (.int y0), .val (.int y1), .val (.int lo), .val (.int hi), .val (.int fv), .val (.int cp), .val (.int rv), .unset, .unset, .unset, .unset, .unset, .unset, .unset, .unset, .unset, .unset, .unset] [(.int hi), (.int lo)])
    refine g_callS X hx hZ hown (wd hw 42 rfl) (wd hw 43 rfl) (wd hw 44 rfl) (wd hw 45 rfl) (by decide) eT (rm_rg l Z a0 hw lo hi T227.heap n0 (Nat.le_trans Z0 EZ.1) q0 q1 q2) (by rw [hml]; rfl) [(.int lo), (.int hi)] [] rfl (lenOf pd_230 rfl) rfl (by show 0 + (2 + 11) + 107 ≤ _; decide) (by decide) (by decide) (by decide) (hb hby at_256) rfl ?_
    intro T230 v230 L230 X230 hQ230
    obtain ⟨sa, ra, fr, rfl, N230, Er, hsa, hra, f0, f1, Ra, Cu⟩ := hQ230
    have N230 := Fr.app hN N230
    show Goes p e below _ T230 (mkF m 259 #[.val (.int p0), .val (.int p1), .val (.int p2), .val (.int p3), .val (.int k0), .val (.int k1), .val (.int k2), .val (.int k3), .val (.ref a221), .val (.ref a226), .val (.int y0), .val (.int y1), .val (.int lo), .val (.int hi), .val (.int fv), .val (.int cp), .val (.int rv), .unset, .unset, .unset, .unset, .unset, .unset, .unset, .unset, .unset, .unset, .unset] [(.ref sa)])
    have EI0 := own_tr EZ Er
    have hn1 : n0 ≤ T230.heap.size := Nat.le_trans Z0 EI0.1
    have WI : own_W Z T230.heap a226 tb sa ra lo hi cs sf (own_g4 k0 k1 k2 k3) fr := ⟨S_cs.ext EI0, hcs, S_sf.ext EI0, hr_sf, hc_sf, St.ext Er, f0, f1, Ra, Cu, Hg⟩
    refine g_astore (i := 17) X230 hx #[.val (.int p0), .val (.int p1), .val (.int p2), .val (.int p3), .val (.int k0), .val (.int k1), .val (.int k2), .val (.int k3), .val (.ref a221), .val (.ref a226), .val (.int y0), .val (.int y1), .val (.int lo), .val (.int hi), .val (.int fv), .val (.int cp), .val (.int rv), .val (.ref sa), .unset, .unset, .unset, .unset, .unset, .unset, .unset, .unset, .unset, .unset] (hb hby at_259) rfl rfl rfl ?_
    refine g_new X230 hx hZ hown (wd hw 108 rfl) (wd hw 109 rfl) (wd hw 110 rfl) rfl (hb hby at_261) rfl (by decide) (by decide) ?_
    intro T231 h231 a231 X231 e231 g231 Ex231 E231 D231
    have F231_members : Fld Z h231 a231 "com/example/nav_by_schema/navbyschema/regex/UnitRuns" "members" "[J" .null := D231 (Or.inl (wd hw 116 rfl)) (ty := (.array .long)) (by decide)
    have F231_next : Fld Z h231 a231 "com/example/nav_by_schema/navbyschema/regex/UnitRuns" "next" "[I" .null := D231 (Or.inl (wd hw 118 rfl)) (ty := (.array .int)) (by decide)
    have F231_text : Fld Z h231 a231 "com/example/nav_by_schema/navbyschema/regex/UnitRuns" "text" "Ljava/lang/String;" .null := D231 (Or.inl (wd hw 125 rfl)) (ty := (.object "java/lang/String")) (by decide)
    have F231_set : Fld Z h231 a231 "com/example/nav_by_schema/navbyschema/regex/UnitRuns" "set" "Lcom/example/nav_by_schema/navbyschema/regex/CodeUnitSet;" .null := D231 (Or.inl (wd hw 131 rfl)) (ty := (.object "com/example/nav_by_schema/navbyschema/regex/CodeUnitSet")) (by decide)
    have F231_touched : Fld Z h231 a231 "com/example/nav_by_schema/navbyschema/regex/UnitRuns" "touched" "I" (.int 0) := D231 (Or.inl (wd hw 143 rfl)) (ty := .int) (by decide)
    have F231_unitsRead : Fld Z h231 a231 "com/example/nav_by_schema/navbyschema/regex/UnitRuns" "unitsRead" "J" (.long 0) := D231 (Or.inl (wd hw 178 rfl)) (ty := .long) (by decide)
    have gu : T230.heap.size ≤ a231 := by rw [g231]; exact Nat.le_refl _
    refine g_dup X231 hx (hb hby at_264) rfl rfl ?_
    refine g_callI X231 hx hZ rfl hown (wd hw 111 rfl) (wd hw 112 rfl) (wd hw 110 rfl) (wd hw 113 rfl) (by decide) e231 (rm_ui l Z a0 hw a231 T230.heap.size h231 gu Ex231.1 E231 F231_text F231_set F231_members F231_next F231_touched F231_unitsRead) (by rw [hml]; rfl) a231 [] [(.ref a231)] rfl (lenOf pd_89 rfl) rfl (by show 1 + (1 + 11) + 12 ≤ _; decide) (by decide) (by decide) (by decide) (hb hby at_265) rfl ?_
    intro T232 v232 L232 X232 hQ232
    obtain ⟨rfl, N232, K232, mb0, nb0, U0⟩ := hQ232
    have N232 := Fr.app N230 (own_frm hn1 N232)
    show Goes p e below _ T232 (mkF m 268 #[.val (.int p0), .val (.int p1), .val (.int p2), .val (.int p3), .val (.int k0), .val (.int k1), .val (.int k2), .val (.int k3), .val (.ref a221), .val (.ref a226), .val (.int y0), .val (.int y1), .val (.int lo), .val (.int hi), .val (.int fv), .val (.int cp), .val (.int rv), .val (.ref sa), .unset, .unset, .unset, .unset, .unset, .unset, .unset, .unset, .unset, .unset] [(.ref a231)])
    have I0 := own_ext3 Ex231 K232 (fun x hx => by rw [List.mem_singleton.mp hx]; exact gu)
    refine g_astore (i := 18) X232 hx #[.val (.int p0), .val (.int p1), .val (.int p2), .val (.int p3), .val (.int k0), .val (.int k1), .val (.int k2), .val (.int k3), .val (.ref a221), .val (.ref a226), .val (.int y0), .val (.int y1), .val (.int lo), .val (.int hi), .val (.int fv), .val (.int cp), .val (.int rv), .val (.ref sa), .val (.ref a231), .unset, .unset, .unset, .unset, .unset, .unset, .unset, .unset, .unset] (hb hby at_268) rfl rfl rfl ?_
    refine g_aload (i := 18) X232 hx (hb hby at_270) (by rfl) rfl rfl ?_
    refine g_aload (i := 9) X232 hx (hb hby at_272) (by rfl) rfl rfl ?_
    refine g_aload (i := 17) X232 hx (hb hby at_274) (by rfl) rfl rfl ?_
    refine g_iload (i := 14) X232 hx (hb hby at_276) (by rfl) rfl ?_
    refine g_iload (i := 15) X232 hx (hb hby at_278) (by rfl) rfl ?_
    refine g_callV X232 hx hZ hown (wd hw 119 rfl) (wd hw 120 rfl) (wd hw 122 rfl) (wd hw 121 rfl) (wd hw 110 rfl) (wd hw 123 rfl) (by decide) rfl a231 U0.1 (rm_e1 l Z a0 hw a231 T230.heap.size mb0 nb0 _ _ _ _ T232.heap a226 tb sa ra lo hi cs sf (own_g4 k0 k1 k2 k3) fr T230.heap I0 (Nat.le_refl _) WI U0 fv cp hlw.2.2 hlw.2.1) (by rw [hml]; rfl) [(.ref a226), (.ref sa), (.int fv), (.int cp)] [] rfl (lenOf pd_233 rfl) rfl (by show 0 + (12 + 11) + 72 ≤ _; decide) (by decide) (by decide) (by decide) (hb hby at_280) rfl ?_
    intro T233 v233 L233 X233 hQ233
    obtain ⟨rfl, N233, I1, mb1, nb1, fm1, fn1, U1, hm1, hf1⟩ := hQ233
    have N233 := Fr.app N232 (own_frm hn1 N233)
    show Goes p e below _ T233 (mkF m 283 #[.val (.int p0), .val (.int p1), .val (.int p2), .val (.int p3), .val (.int k0), .val (.int k1), .val (.int k2), .val (.int k3), .val (.ref a221), .val (.ref a226), .val (.int y0), .val (.int y1), .val (.int lo), .val (.int hi), .val (.int fv), .val (.int cp), .val (.int rv), .val (.ref sa), .val (.ref a231), .unset, .unset, .unset, .unset, .unset, .unset, .unset, .unset, .unset] [(.int (own_end (own_B (own_g4 k0 k1 k2 k3) lo hi) fv cp))])
    refine g_istore (i := 19) X233 hx #[.val (.int p0), .val (.int p1), .val (.int p2), .val (.int p3), .val (.int k0), .val (.int k1), .val (.int k2), .val (.int k3), .val (.ref a221), .val (.ref a226), .val (.int y0), .val (.int y1), .val (.int lo), .val (.int hi), .val (.int fv), .val (.int cp), .val (.int rv), .val (.ref sa), .val (.ref a231), .val (.int (own_end (own_B (own_g4 k0 k1 k2 k3) lo hi) fv cp)), .unset, .unset, .unset, .unset, .unset, .unset, .unset, .unset] (hb hby at_283) rfl rfl ?_
    refine g_aload (i := 18) X233 hx (hb hby at_285) (by rfl) rfl rfl ?_
    refine g_callV X233 hx hZ hown (wd hw 192 rfl) (wd hw 193 rfl) (wd hw 195 rfl) (wd hw 194 rfl) (wd hw 110 rfl) (wd hw 196 rfl) (by decide) rfl a231 U1.1 (rm_ur l Z a0 hw a231 _ _ _ _ _ _ _ _ _ _ T233.heap U1) (by rw [hml]; rfl) [] [] rfl (lenOf pd_234 rfl) rfl (by show 0 + (1 + 11) + 0 ≤ _; decide) (by decide) (by decide) (by decide) (hb hby at_287) rfl ?_
    intro T234 v234 L234 X234 hQ234
    obtain ⟨rfl, rfl, e234⟩ := hQ234
    have N234 := Fr.app N233 (Fr.nil n0)
    show Goes p e below _ T234 (mkF m 290 #[.val (.int p0), .val (.int p1), .val (.int p2), .val (.int p3), .val (.int k0), .val (.int k1), .val (.int k2), .val (.int k3), .val (.ref a221), .val (.ref a226), .val (.int y0), .val (.int y1), .val (.int lo), .val (.int hi), .val (.int fv), .val (.int cp), .val (.int rv), .val (.ref sa), .val (.ref a231), .val (.int (own_end (own_B (own_g4 k0 k1 k2 k3) lo hi) fv cp)), .unset, .unset, .unset, .unset, .unset, .unset, .unset, .unset] [(.long ((0 : Int64) + (4 : Int32).toInt64))])
    refine g_lstore (i := 20) X234 hx #[.val (.int p0), .val (.int p1), .val (.int p2), .val (.int p3), .val (.int k0), .val (.int k1), .val (.int k2), .val (.int k3), .val (.ref a221), .val (.ref a226), .val (.int y0), .val (.int y1), .val (.int lo), .val (.int hi), .val (.int fv), .val (.int cp), .val (.int rv), .val (.ref sa), .val (.ref a231), .val (.int (own_end (own_B (own_g4 k0 k1 k2 k3) lo hi) fv cp)), .val (.long ((0 : Int64) + (4 : Int32).toInt64)), .second, .unset, .unset, .unset, .unset, .unset, .unset] (hb hby at_290) rfl rfl ?_
    refine g_aload (i := 18) X234 hx (hb hby at_292) (by rfl) rfl rfl ?_
    refine g_aload (i := 9) X234 hx (hb hby at_294) (by rfl) rfl rfl ?_
    refine g_aload (i := 17) X234 hx (hb hby at_296) (by rfl) rfl rfl ?_
    refine g_iload (i := 14) X234 hx (hb hby at_298) (by rfl) rfl ?_
    refine g_iload (i := 15) X234 hx (hb hby at_300) (by rfl) rfl ?_
    refine g_callV X234 hx hZ hown (wd hw 119 rfl) (wd hw 120 rfl) (wd hw 122 rfl) (wd hw 121 rfl) (wd hw 110 rfl) (wd hw 123 rfl) (by decide) e234 a231 U1.1 (rm_e2 l Z a0 hw a231 T230.heap.size mb1 nb1 fm1 fn1 _ T233.heap a226 tb sa ra lo hi cs sf (own_g4 k0 k1 k2 k3) fr T230.heap I1 (Nat.le_refl _) WI U1 hm1 hf1 fv cp hlw.2.2 hlw.2.1) (by rw [hml]; rfl) [(.ref a226), (.ref sa), (.int fv), (.int cp)] [] rfl (lenOf pd_233 rfl) rfl (by show 0 + (12 + 11) + 30 ≤ _; decide) (by decide) (by decide) (by decide) (hb hby at_302) rfl ?_
    intro T235 v235 L235 X235 hQ235
    obtain ⟨rfl, N235, I2, mb2, nb2, fm2, fn2, U2, hm2, hf2⟩ := hQ235
    have N235 := Fr.app N234 (own_frm hn1 N235)
    show Goes p e below _ T235 (mkF m 305 #[.val (.int p0), .val (.int p1), .val (.int p2), .val (.int p3), .val (.int k0), .val (.int k1), .val (.int k2), .val (.int k3), .val (.ref a221), .val (.ref a226), .val (.int y0), .val (.int y1), .val (.int lo), .val (.int hi), .val (.int fv), .val (.int cp), .val (.int rv), .val (.ref sa), .val (.ref a231), .val (.int (own_end (own_B (own_g4 k0 k1 k2 k3) lo hi) fv cp)), .val (.long ((0 : Int64) + (4 : Int32).toInt64)), .second, .unset, .unset, .unset, .unset, .unset, .unset] [(.int (own_end (own_B (own_g4 k0 k1 k2 k3) lo hi) fv cp))])
    refine g_istore (i := 22) X235 hx #[.val (.int p0), .val (.int p1), .val (.int p2), .val (.int p3), .val (.int k0), .val (.int k1), .val (.int k2), .val (.int k3), .val (.ref a221), .val (.ref a226), .val (.int y0), .val (.int y1), .val (.int lo), .val (.int hi), .val (.int fv), .val (.int cp), .val (.int rv), .val (.ref sa), .val (.ref a231), .val (.int (own_end (own_B (own_g4 k0 k1 k2 k3) lo hi) fv cp)), .val (.long ((0 : Int64) + (4 : Int32).toInt64)), .second, .val (.int (own_end (own_B (own_g4 k0 k1 k2 k3) lo hi) fv cp)), .unset, .unset, .unset, .unset, .unset] (hb hby at_305) rfl rfl ?_
    refine g_aload (i := 18) X235 hx (hb hby at_307) (by rfl) rfl rfl ?_
    refine g_callV X235 hx hZ hown (wd hw 192 rfl) (wd hw 193 rfl) (wd hw 195 rfl) (wd hw 194 rfl) (wd hw 110 rfl) (wd hw 196 rfl) (by decide) rfl a231 U2.1 (rm_ur l Z a0 hw a231 _ _ _ _ _ _ _ _ _ _ T235.heap U2) (by rw [hml]; rfl) [] [] rfl (lenOf pd_234 rfl) rfl (by show 0 + (1 + 11) + 0 ≤ _; decide) (by decide) (by decide) (by decide) (hb hby at_309) rfl ?_
    intro T236 v236 L236 X236 hQ236
    obtain ⟨rfl, rfl, e236⟩ := hQ236
    have N236 := Fr.app N235 (Fr.nil n0)
    show Goes p e below _ T236 (mkF m 312 #[.val (.int p0), .val (.int p1), .val (.int p2), .val (.int p3), .val (.int k0), .val (.int k1), .val (.int k2), .val (.int k3), .val (.ref a221), .val (.ref a226), .val (.int y0), .val (.int y1), .val (.int lo), .val (.int hi), .val (.int fv), .val (.int cp), .val (.int rv), .val (.ref sa), .val (.ref a231), .val (.int (own_end (own_B (own_g4 k0 k1 k2 k3) lo hi) fv cp)), .val (.long ((0 : Int64) + (4 : Int32).toInt64)), .second, .val (.int (own_end (own_B (own_g4 k0 k1 k2 k3) lo hi) fv cp)), .unset, .unset, .unset, .unset, .unset] [(.long ((0 : Int64) + (4 : Int32).toInt64))])
    refine g_lstore (i := 23) X236 hx #[.val (.int p0), .val (.int p1), .val (.int p2), .val (.int p3), .val (.int k0), .val (.int k1), .val (.int k2), .val (.int k3), .val (.ref a221), .val (.ref a226), .val (.int y0), .val (.int y1), .val (.int lo), .val (.int hi), .val (.int fv), .val (.int cp), .val (.int rv), .val (.ref sa), .val (.ref a231), .val (.int (own_end (own_B (own_g4 k0 k1 k2 k3) lo hi) fv cp)), .val (.long ((0 : Int64) + (4 : Int32).toInt64)), .second, .val (.int (own_end (own_B (own_g4 k0 k1 k2 k3) lo hi) fv cp)), .val (.long ((0 : Int64) + (4 : Int32).toInt64)), .second, .unset, .unset, .unset] (hb hby at_312) rfl rfl ?_
    refine g_aload (i := 18) X236 hx (hb hby at_314) (by rfl) rfl rfl ?_
    refine g_callV X236 hx hZ hown (wd hw 197 rfl) (wd hw 198 rfl) (wd hw 200 rfl) (wd hw 199 rfl) (wd hw 110 rfl) (wd hw 201 rfl) (by decide) e236 a231 U2.1 (rm_ul2 l Z a0 hw a231 T230.heap.size _ _ mb2 nb2 1 fm2 fn2 1 _ T235.heap U2 (Nat.le_refl _) T230.heap I2 (Nat.le_refl _)) (by rw [hml]; rfl) [] [] rfl (lenOf pd_89 rfl) rfl (by show 0 + (1 + 11) + 0 ≤ _; decide) (by decide) (by decide) (by decide) (hb hby at_316) rfl ?_
    intro T237 v237 L237 X237 hQ237
    obtain ⟨rfl, N237, I2_, U2_⟩ := hQ237
    have N237 := Fr.app N236 (own_frm hn1 N237)
    show Goes p e below _ T237 (mkF m 319 #[.val (.int p0), .val (.int p1), .val (.int p2), .val (.int p3), .val (.int k0), .val (.int k1), .val (.int k2), .val (.int k3), .val (.ref a221), .val (.ref a226), .val (.int y0), .val (.int y1), .val (.int lo), .val (.int hi), .val (.int fv), .val (.int cp), .val (.int rv), .val (.ref sa), .val (.ref a231), .val (.int (own_end (own_B (own_g4 k0 k1 k2 k3) lo hi) fv cp)), .val (.long ((0 : Int64) + (4 : Int32).toInt64)), .second, .val (.int (own_end (own_B (own_g4 k0 k1 k2 k3) lo hi) fv cp)), .val (.long ((0 : Int64) + (4 : Int32).toInt64)), .second, .unset, .unset, .unset] [])
    refine g_aload (i := 18) X237 hx (hb hby at_319) (by rfl) rfl rfl ?_
    refine g_aload (i := 9) X237 hx (hb hby at_321) (by rfl) rfl rfl ?_
    refine g_aload (i := 17) X237 hx (hb hby at_323) (by rfl) rfl rfl ?_
    refine g_iload (i := 14) X237 hx (hb hby at_325) (by rfl) rfl ?_
    refine g_iload (i := 15) X237 hx (hb hby at_327) (by rfl) rfl ?_
    refine g_callV X237 hx hZ hown (wd hw 119 rfl) (wd hw 120 rfl) (wd hw 122 rfl) (wd hw 121 rfl) (wd hw 110 rfl) (wd hw 123 rfl) (by decide) rfl a231 U2_.1 (rm_e3 l Z a0 hw a231 T230.heap.size mb2 nb2 fm2 fn2 _ T237.heap a226 tb sa ra lo hi cs sf (own_g4 k0 k1 k2 k3) fr T230.heap I2_ (Nat.le_refl _) WI U2_ fv cp hlw.2.2 hlw.2.1) (by rw [hml]; rfl) [(.ref a226), (.ref sa), (.int fv), (.int cp)] [] rfl (lenOf pd_233 rfl) rfl (by show 0 + (12 + 11) + 72 ≤ _; decide) (by decide) (by decide) (by decide) (hb hby at_329) rfl ?_
    intro T238 v238 L238 X238 hQ238
    obtain ⟨rfl, N238, I3, mb3, nb3, fm3, fn3, U3, hm3, hf3⟩ := hQ238
    have N238 := Fr.app N237 (own_frm hn1 N238)
    show Goes p e below _ T238 (mkF m 332 #[.val (.int p0), .val (.int p1), .val (.int p2), .val (.int p3), .val (.int k0), .val (.int k1), .val (.int k2), .val (.int k3), .val (.ref a221), .val (.ref a226), .val (.int y0), .val (.int y1), .val (.int lo), .val (.int hi), .val (.int fv), .val (.int cp), .val (.int rv), .val (.ref sa), .val (.ref a231), .val (.int (own_end (own_B (own_g4 k0 k1 k2 k3) lo hi) fv cp)), .val (.long ((0 : Int64) + (4 : Int32).toInt64)), .second, .val (.int (own_end (own_B (own_g4 k0 k1 k2 k3) lo hi) fv cp)), .val (.long ((0 : Int64) + (4 : Int32).toInt64)), .second, .unset, .unset, .unset] [(.int (own_end (own_B (own_g4 k0 k1 k2 k3) lo hi) fv cp))])
    refine g_istore (i := 25) X238 hx #[.val (.int p0), .val (.int p1), .val (.int p2), .val (.int p3), .val (.int k0), .val (.int k1), .val (.int k2), .val (.int k3), .val (.ref a221), .val (.ref a226), .val (.int y0), .val (.int y1), .val (.int lo), .val (.int hi), .val (.int fv), .val (.int cp), .val (.int rv), .val (.ref sa), .val (.ref a231), .val (.int (own_end (own_B (own_g4 k0 k1 k2 k3) lo hi) fv cp)), .val (.long ((0 : Int64) + (4 : Int32).toInt64)), .second, .val (.int (own_end (own_B (own_g4 k0 k1 k2 k3) lo hi) fv cp)), .val (.long ((0 : Int64) + (4 : Int32).toInt64)), .second, .val (.int (own_end (own_B (own_g4 k0 k1 k2 k3) lo hi) fv cp)), .unset, .unset] (hb hby at_332) rfl rfl ?_
    refine g_aload (i := 18) X238 hx (hb hby at_334) (by rfl) rfl rfl ?_
    refine g_callV X238 hx hZ hown (wd hw 192 rfl) (wd hw 193 rfl) (wd hw 195 rfl) (wd hw 194 rfl) (wd hw 110 rfl) (wd hw 196 rfl) (by decide) rfl a231 U3.1 (rm_ur l Z a0 hw a231 _ _ _ _ _ _ _ _ _ _ T238.heap U3) (by rw [hml]; rfl) [] [] rfl (lenOf pd_234 rfl) rfl (by show 0 + (1 + 11) + 0 ≤ _; decide) (by decide) (by decide) (by decide) (hb hby at_336) rfl ?_
    intro T239 v239 L239 X239 hQ239
    obtain ⟨rfl, rfl, e239⟩ := hQ239
    have N239 := Fr.app N238 (Fr.nil n0)
    show Goes p e below _ T239 (mkF m 339 #[.val (.int p0), .val (.int p1), .val (.int p2), .val (.int p3), .val (.int k0), .val (.int k1), .val (.int k2), .val (.int k3), .val (.ref a221), .val (.ref a226), .val (.int y0), .val (.int y1), .val (.int lo), .val (.int hi), .val (.int fv), .val (.int cp), .val (.int rv), .val (.ref sa), .val (.ref a231), .val (.int (own_end (own_B (own_g4 k0 k1 k2 k3) lo hi) fv cp)), .val (.long ((0 : Int64) + (4 : Int32).toInt64)), .second, .val (.int (own_end (own_B (own_g4 k0 k1 k2 k3) lo hi) fv cp)), .val (.long ((0 : Int64) + (4 : Int32).toInt64)), .second, .val (.int (own_end (own_B (own_g4 k0 k1 k2 k3) lo hi) fv cp)), .unset, .unset] [(.long (((0 : Int64) + (4 : Int32).toInt64) + (4 : Int32).toInt64))])
    refine g_lstore (i := 26) X239 hx #[.val (.int p0), .val (.int p1), .val (.int p2), .val (.int p3), .val (.int k0), .val (.int k1), .val (.int k2), .val (.int k3), .val (.ref a221), .val (.ref a226), .val (.int y0), .val (.int y1), .val (.int lo), .val (.int hi), .val (.int fv), .val (.int cp), .val (.int rv), .val (.ref sa), .val (.ref a231), .val (.int (own_end (own_B (own_g4 k0 k1 k2 k3) lo hi) fv cp)), .val (.long ((0 : Int64) + (4 : Int32).toInt64)), .second, .val (.int (own_end (own_B (own_g4 k0 k1 k2 k3) lo hi) fv cp)), .val (.long ((0 : Int64) + (4 : Int32).toInt64)), .second, .val (.int (own_end (own_B (own_g4 k0 k1 k2 k3) lo hi) fv cp)), .val (.long (((0 : Int64) + (4 : Int32).toInt64) + (4 : Int32).toInt64)), .second] (hb hby at_339) rfl rfl ?_
    refine g_iload (i := 19) X239 hx (hb hby at_341) (by rfl) rfl ?_
    refine g_iload (i := 16) X239 hx (hb hby at_343) (by rfl) rfl ?_
    refine g_icmp_ne X239 hx (hb hby at_345) (by decide) (pt := 393) (by decide) rfl (fun q_ => absurd (hlw.1.trans hrv.symm) q_) (fun _ => ?_)
    refine g_iload (i := 22) X239 hx (hb hby at_348) (by rfl) rfl ?_
    refine g_iload (i := 16) X239 hx (hb hby at_350) (by rfl) rfl ?_
    refine g_icmp_ne X239 hx (hb hby at_352) (by decide) (pt := 393) (by decide) rfl (fun q_ => absurd (hlw.1.trans hrv.symm) q_) (fun _ => ?_)
    refine g_iload (i := 25) X239 hx (hb hby at_355) (by rfl) rfl ?_
    refine g_iload (i := 16) X239 hx (hb hby at_357) (by rfl) rfl ?_
    refine g_icmp_ne X239 hx (hb hby at_359) (by decide) (pt := 393) (by decide) rfl (fun q_ => absurd (hlw.1.trans hrv.symm) q_) (fun _ => ?_)
    refine g_lload (i := 20) X239 hx (hb hby at_362) (by rfl) rfl ?_
    refine g_ldc2J X239 hx hZ hown (wd hw 208 rfl) (hb hby at_364) rfl ?_
    refine g_lcmp X239 hx (hb hby at_367) rfl ?_
    refine g_if_ne X239 hx (hb hby at_368) (by decide) (pt := 393) (by decide) rfl (fun q_ => absurd (by decide) q_) (fun _ => ?_)
    refine g_lload (i := 23) X239 hx (hb hby at_371) (by rfl) rfl ?_
    refine g_ldc2J X239 hx hZ hown (wd hw 208 rfl) (hb hby at_373) rfl ?_
    refine g_lcmp X239 hx (hb hby at_376) rfl ?_
    refine g_if_ne X239 hx (hb hby at_377) (by decide) (pt := 393) (by decide) rfl (fun q_ => absurd (by decide) q_) (fun _ => ?_)
    refine g_lload (i := 26) X239 hx (hb hby at_380) (by rfl) rfl ?_
    refine g_ldc2J X239 hx hZ hown (wd hw 209 rfl) (hb hby at_382) rfl ?_
    refine g_lcmp X239 hx (hb hby at_385) rfl ?_
    refine g_if_ne X239 hx (hb hby at_386) (by decide) (pt := 393) (by decide) rfl (fun q_ => absurd (by decide) q_) (fun _ => ?_)
    refine g_iconst (v := (1 : Int32)) X239 hx (hb hby at_389) (by decide) rfl ?_
    refine g_goto X239 hx (hb hby at_390) (by decide) (by decide) (pc' := 394) ?_
    exact g_retN X239 hx (t := .boolean) (by simp) hlk hret e239 (by decide) (by decide) (hb hby at_394) ⟨rfl, N239⟩
  have J223 : ∀ (rv : Int32) (T : State) (locs : List Loc) (h : Heap), Stand p l e room_1 s m #[(.int p0), (.int p1), (.int p2), (.int p3)] below meth c T locs (0 + 1 + 1 + 1 + 0 + 0) (0 + 4 + 4 + 4 + 0 + 0) → T.heap = h → h = T227.heap → Fr n0 locs → rv = (own_rf (own_bb (own_g4 k0 k1 k2 k3) lo hi 1) 1 fv cp (own_rf (own_bb (own_g4 k0 k1 k2 k3) lo hi 2) 2 fv cp (own_rf (own_bb (own_g4 k0 k1 k2 k3) lo hi 3) 3 fv cp cp))) → Goes p e below (KQ s 40 192 (fun v h L => v = some (.int 1) ∧ Fr n0 L)) T (mkF m 223 #[.val (.int p0), .val (.int p1), .val (.int p2), .val (.int p3), .val (.int k0), .val (.int k1), .val (.int k2), .val (.int k3), .val (.ref a221), .val (.ref a226), .val (.int y0), .val (.int y1), .val (.int lo), .val (.int hi), .val (.int fv), .val (.int cp), .val (.int rv), .unset, .unset, .unset, .unset, .unset, .unset, .unset, .unset, .unset, .unset, .unset] []) := by
    intro rv T locs h X eT hh hN hrv
    subst hh
    refine g_iconst (v := (0 : Int32)) X hx (hb hby at_223) (by decide) rfl ?_
    refine g_iload (i := 14) X hx (hb hby at_224) (by rfl) rfl ?_
    refine g_icmp_lt X hx (hb hby at_226) (by decide) (pt := 250) (by decide) rfl (fun qa => ?_) (fun qa => ?_)
    · exact J250 _ _ _ _ X eT rfl hN (by rw [hrv]; exact own_rf0 qa)
    · refine g_iconst (v := (0 : Int32)) X hx (hb hby at_229) (by decide) rfl ?_
      refine g_iload (i := 15) X hx (hb hby at_230) (by rfl) rfl ?_
      refine g_icmp_ge X hx (hb hby at_232) (by decide) (pt := 250) (by decide) rfl (fun qb => ?_) (fun qb => ?_)
      · exact J250 _ _ _ _ X eT rfl hN (by rw [hrv]; exact own_rf1 qb)
      · refine g_iload (i := 4) X hx (hb hby at_235) (by rfl) rfl ?_
        refine g_iload (i := 12) X hx (hb hby at_237) (by rfl) rfl ?_
        refine g_iload (i := 13) X hx (hb hby at_239) (by rfl) rfl ?_
        refine g_callS X hx hZ hown (wd hw 38 rfl) (wd hw 39 rfl) (wd hw 40 rfl) (wd hw 41 rfl) (by decide) eT (rm_in l Z a0 hw k0 lo hi T227.heap) (by rw [hml]; rfl) [(.int k0), (.int lo), (.int hi)] [] rfl (lenOf pd_240 rfl) rfl (by show 0 + (3 + 11) + 0 ≤ _; decide) (by decide) (by decide) (by decide) (hb hby at_241) rfl ?_
        intro T240 v240 L240 X240 hQ240
        obtain ⟨rfl, rfl, e240⟩ := hQ240
        have N240 := Fr.app hN (Fr.nil n0)
        show Goes p e below _ T240 (mkF m 244 #[.val (.int p0), .val (.int p1), .val (.int p2), .val (.int p3), .val (.int k0), .val (.int k1), .val (.int k2), .val (.int k3), .val (.ref a221), .val (.ref a226), .val (.int y0), .val (.int y1), .val (.int lo), .val (.int hi), .val (.int fv), .val (.int cp), .val (.int rv), .unset, .unset, .unset, .unset, .unset, .unset, .unset, .unset, .unset, .unset, .unset] [(.int (if ¬ k0 < lo ∧ ¬ hi < k0 then (1 : Int32) else 0))])
        refine g_if_ne X240 hx (hb hby at_244) (by decide) (pt := 250) (by decide) rfl (fun qc => ?_) (fun qc => ?_)
        · exact J250 _ _ _ _ X240 e240 rfl N240 (by rw [hrv]; exact own_rf2 qc)
        · refine g_iconst (v := (0 : Int32)) X240 hx (hb hby at_247) (by decide) rfl ?_
          refine g_istore (i := 16) X240 hx #[.val (.int p0), .val (.int p1), .val (.int p2), .val (.int p3), .val (.int k0), .val (.int k1), .val (.int k2), .val (.int k3), .val (.ref a221), .val (.ref a226), .val (.int y0), .val (.int y1), .val (.int lo), .val (.int hi), .val (.int fv), .val (.int cp), .val (.int (0 : Int32)), .unset, .unset, .unset, .unset, .unset, .unset, .unset, .unset, .unset, .unset, .unset] (hb hby at_248) rfl rfl ?_
          exact J250 _ _ _ _ X240 e240 rfl N240 (own_rf3 qa qb qc)
  have J196 : ∀ (rv : Int32) (T : State) (locs : List Loc) (h : Heap), Stand p l e room_1 s m #[(.int p0), (.int p1), (.int p2), (.int p3)] below meth c T locs (0 + 1 + 1 + 1 + 0 + 0) (0 + 4 + 4 + 4 + 0 + 0) → T.heap = h → h = T227.heap → Fr n0 locs → rv = (own_rf (own_bb (own_g4 k0 k1 k2 k3) lo hi 2) 2 fv cp (own_rf (own_bb (own_g4 k0 k1 k2 k3) lo hi 3) 3 fv cp cp)) → Goes p e below (KQ s 40 192 (fun v h L => v = some (.int 1) ∧ Fr n0 L)) T (mkF m 196 #[.val (.int p0), .val (.int p1), .val (.int p2), .val (.int p3), .val (.int k0), .val (.int k1), .val (.int k2), .val (.int k3), .val (.ref a221), .val (.ref a226), .val (.int y0), .val (.int y1), .val (.int lo), .val (.int hi), .val (.int fv), .val (.int cp), .val (.int rv), .unset, .unset, .unset, .unset, .unset, .unset, .unset, .unset, .unset, .unset, .unset] []) := by
    intro rv T locs h X eT hh hN hrv
    subst hh
    refine g_iconst (v := (1 : Int32)) X hx (hb hby at_196) (by decide) rfl ?_
    refine g_iload (i := 14) X hx (hb hby at_197) (by rfl) rfl ?_
    refine g_icmp_lt X hx (hb hby at_199) (by decide) (pt := 223) (by decide) rfl (fun qa => ?_) (fun qa => ?_)
    · exact J223 _ _ _ _ X eT rfl hN (by rw [hrv]; exact own_rf0 qa)
    · refine g_iconst (v := (1 : Int32)) X hx (hb hby at_202) (by decide) rfl ?_
      refine g_iload (i := 15) X hx (hb hby at_203) (by rfl) rfl ?_
      refine g_icmp_ge X hx (hb hby at_205) (by decide) (pt := 223) (by decide) rfl (fun qb => ?_) (fun qb => ?_)
      · exact J223 _ _ _ _ X eT rfl hN (by rw [hrv]; exact own_rf1 qb)
      · refine g_iload (i := 5) X hx (hb hby at_208) (by rfl) rfl ?_
        refine g_iload (i := 12) X hx (hb hby at_210) (by rfl) rfl ?_
        refine g_iload (i := 13) X hx (hb hby at_212) (by rfl) rfl ?_
        refine g_callS X hx hZ hown (wd hw 38 rfl) (wd hw 39 rfl) (wd hw 40 rfl) (wd hw 41 rfl) (by decide) eT (rm_in l Z a0 hw k1 lo hi T227.heap) (by rw [hml]; rfl) [(.int k1), (.int lo), (.int hi)] [] rfl (lenOf pd_240 rfl) rfl (by show 0 + (3 + 11) + 0 ≤ _; decide) (by decide) (by decide) (by decide) (hb hby at_214) rfl ?_
        intro T241 v241 L241 X241 hQ241
        obtain ⟨rfl, rfl, e241⟩ := hQ241
        have N241 := Fr.app hN (Fr.nil n0)
        show Goes p e below _ T241 (mkF m 217 #[.val (.int p0), .val (.int p1), .val (.int p2), .val (.int p3), .val (.int k0), .val (.int k1), .val (.int k2), .val (.int k3), .val (.ref a221), .val (.ref a226), .val (.int y0), .val (.int y1), .val (.int lo), .val (.int hi), .val (.int fv), .val (.int cp), .val (.int rv), .unset, .unset, .unset, .unset, .unset, .unset, .unset, .unset, .unset, .unset, .unset] [(.int (if ¬ k1 < lo ∧ ¬ hi < k1 then (1 : Int32) else 0))])
        refine g_if_ne X241 hx (hb hby at_217) (by decide) (pt := 223) (by decide) rfl (fun qc => ?_) (fun qc => ?_)
        · exact J223 _ _ _ _ X241 e241 rfl N241 (by rw [hrv]; exact own_rf2 qc)
        · refine g_iconst (v := (1 : Int32)) X241 hx (hb hby at_220) (by decide) rfl ?_
          refine g_istore (i := 16) X241 hx #[.val (.int p0), .val (.int p1), .val (.int p2), .val (.int p3), .val (.int k0), .val (.int k1), .val (.int k2), .val (.int k3), .val (.ref a221), .val (.ref a226), .val (.int y0), .val (.int y1), .val (.int lo), .val (.int hi), .val (.int fv), .val (.int cp), .val (.int (1 : Int32)), .unset, .unset, .unset, .unset, .unset, .unset, .unset, .unset, .unset, .unset, .unset] (hb hby at_221) rfl rfl ?_
          exact J223 _ _ _ _ X241 e241 rfl N241 (own_rf3 qa qb qc)
  have J169 : ∀ (rv : Int32) (T : State) (locs : List Loc) (h : Heap), Stand p l e room_1 s m #[(.int p0), (.int p1), (.int p2), (.int p3)] below meth c T locs (0 + 1 + 1 + 1 + 0 + 0) (0 + 4 + 4 + 4 + 0 + 0) → T.heap = h → h = T227.heap → Fr n0 locs → rv = (own_rf (own_bb (own_g4 k0 k1 k2 k3) lo hi 3) 3 fv cp cp) → Goes p e below (KQ s 40 192 (fun v h L => v = some (.int 1) ∧ Fr n0 L)) T (mkF m 169 #[.val (.int p0), .val (.int p1), .val (.int p2), .val (.int p3), .val (.int k0), .val (.int k1), .val (.int k2), .val (.int k3), .val (.ref a221), .val (.ref a226), .val (.int y0), .val (.int y1), .val (.int lo), .val (.int hi), .val (.int fv), .val (.int cp), .val (.int rv), .unset, .unset, .unset, .unset, .unset, .unset, .unset, .unset, .unset, .unset, .unset] []) := by
    intro rv T locs h X eT hh hN hrv
    subst hh
    refine g_iconst (v := (2 : Int32)) X hx (hb hby at_169) (by decide) rfl ?_
    refine g_iload (i := 14) X hx (hb hby at_170) (by rfl) rfl ?_
    refine g_icmp_lt X hx (hb hby at_172) (by decide) (pt := 196) (by decide) rfl (fun qa => ?_) (fun qa => ?_)
    · exact J196 _ _ _ _ X eT rfl hN (by rw [hrv]; exact own_rf0 qa)
    · refine g_iconst (v := (2 : Int32)) X hx (hb hby at_175) (by decide) rfl ?_
      refine g_iload (i := 15) X hx (hb hby at_176) (by rfl) rfl ?_
      refine g_icmp_ge X hx (hb hby at_178) (by decide) (pt := 196) (by decide) rfl (fun qb => ?_) (fun qb => ?_)
      · exact J196 _ _ _ _ X eT rfl hN (by rw [hrv]; exact own_rf1 qb)
      · refine g_iload (i := 6) X hx (hb hby at_181) (by rfl) rfl ?_
        refine g_iload (i := 12) X hx (hb hby at_183) (by rfl) rfl ?_
        refine g_iload (i := 13) X hx (hb hby at_185) (by rfl) rfl ?_
        refine g_callS X hx hZ hown (wd hw 38 rfl) (wd hw 39 rfl) (wd hw 40 rfl) (wd hw 41 rfl) (by decide) eT (rm_in l Z a0 hw k2 lo hi T227.heap) (by rw [hml]; rfl) [(.int k2), (.int lo), (.int hi)] [] rfl (lenOf pd_240 rfl) rfl (by show 0 + (3 + 11) + 0 ≤ _; decide) (by decide) (by decide) (by decide) (hb hby at_187) rfl ?_
        intro T242 v242 L242 X242 hQ242
        obtain ⟨rfl, rfl, e242⟩ := hQ242
        have N242 := Fr.app hN (Fr.nil n0)
        show Goes p e below _ T242 (mkF m 190 #[.val (.int p0), .val (.int p1), .val (.int p2), .val (.int p3), .val (.int k0), .val (.int k1), .val (.int k2), .val (.int k3), .val (.ref a221), .val (.ref a226), .val (.int y0), .val (.int y1), .val (.int lo), .val (.int hi), .val (.int fv), .val (.int cp), .val (.int rv), .unset, .unset, .unset, .unset, .unset, .unset, .unset, .unset, .unset, .unset, .unset] [(.int (if ¬ k2 < lo ∧ ¬ hi < k2 then (1 : Int32) else 0))])
        refine g_if_ne X242 hx (hb hby at_190) (by decide) (pt := 196) (by decide) rfl (fun qc => ?_) (fun qc => ?_)
        · exact J196 _ _ _ _ X242 e242 rfl N242 (by rw [hrv]; exact own_rf2 qc)
        · refine g_iconst (v := (2 : Int32)) X242 hx (hb hby at_193) (by decide) rfl ?_
          refine g_istore (i := 16) X242 hx #[.val (.int p0), .val (.int p1), .val (.int p2), .val (.int p3), .val (.int k0), .val (.int k1), .val (.int k2), .val (.int k3), .val (.ref a221), .val (.ref a226), .val (.int y0), .val (.int y1), .val (.int lo), .val (.int hi), .val (.int fv), .val (.int cp), .val (.int (2 : Int32)), .unset, .unset, .unset, .unset, .unset, .unset, .unset, .unset, .unset, .unset, .unset] (hb hby at_194) rfl rfl ?_
          exact J196 _ _ _ _ X242 e242 rfl N242 (own_rf3 qa qb qc)
  refine g_iconst (v := (3 : Int32)) X229 hx (hb hby at_142) (by decide) rfl ?_
  refine g_iload (i := 14) X229 hx (hb hby at_143) (by rfl) rfl ?_
  refine g_icmp_lt X229 hx (hb hby at_145) (by decide) (pt := 169) (by decide) rfl (fun qa => ?_) (fun qa => ?_)
  · exact J169 _ _ _ _ X229 e229 rfl N229 (own_rf0 qa)
  · refine g_iconst (v := (3 : Int32)) X229 hx (hb hby at_148) (by decide) rfl ?_
    refine g_iload (i := 15) X229 hx (hb hby at_149) (by rfl) rfl ?_
    refine g_icmp_ge X229 hx (hb hby at_151) (by decide) (pt := 169) (by decide) rfl (fun qb => ?_) (fun qb => ?_)
    · exact J169 _ _ _ _ X229 e229 rfl N229 (own_rf1 qb)
    · refine g_iload (i := 7) X229 hx (hb hby at_154) (by rfl) rfl ?_
      refine g_iload (i := 12) X229 hx (hb hby at_156) (by rfl) rfl ?_
      refine g_iload (i := 13) X229 hx (hb hby at_158) (by rfl) rfl ?_
      refine g_callS X229 hx hZ hown (wd hw 38 rfl) (wd hw 39 rfl) (wd hw 40 rfl) (wd hw 41 rfl) (by decide) e229 (rm_in l Z a0 hw k3 lo hi T227.heap) (by rw [hml]; rfl) [(.int k3), (.int lo), (.int hi)] [] rfl (lenOf pd_240 rfl) rfl (by show 0 + (3 + 11) + 0 ≤ _; decide) (by decide) (by decide) (by decide) (hb hby at_160) rfl ?_
      intro T243 v243 L243 X243 hQ243
      obtain ⟨rfl, rfl, e243⟩ := hQ243
      have N243 := Fr.app N229 (Fr.nil n0)
      show Goes p e below _ T243 (mkF m 163 #[.val (.int p0), .val (.int p1), .val (.int p2), .val (.int p3), .val (.int k0), .val (.int k1), .val (.int k2), .val (.int k3), .val (.ref a221), .val (.ref a226), .val (.int y0), .val (.int y1), .val (.int lo), .val (.int hi), .val (.int fv), .val (.int cp), .val (.int cp), .unset, .unset, .unset, .unset, .unset, .unset, .unset, .unset, .unset, .unset, .unset] [(.int (if ¬ k3 < lo ∧ ¬ hi < k3 then (1 : Int32) else 0))])
      refine g_if_ne X243 hx (hb hby at_163) (by decide) (pt := 169) (by decide) rfl (fun qc => ?_) (fun qc => ?_)
      · exact J169 _ _ _ _ X243 e243 rfl N243 (own_rf2 qc)
      · refine g_iconst (v := (3 : Int32)) X243 hx (hb hby at_166) (by decide) rfl ?_
        refine g_istore (i := 16) X243 hx #[.val (.int p0), .val (.int p1), .val (.int p2), .val (.int p3), .val (.int k0), .val (.int k1), .val (.int k2), .val (.int k3), .val (.ref a221), .val (.ref a226), .val (.int y0), .val (.int y1), .val (.int lo), .val (.int hi), .val (.int fv), .val (.int cp), .val (.int (3 : Int32)), .unset, .unset, .unset, .unset, .unset, .unset, .unset, .unset, .unset, .unset, .unset] (hb hby at_167) rfl rfl ?_
        exact J169 _ _ _ _ X243 e243 rfl N243 (own_rf3 qa qb qc)
set_option maxRecDepth 65536 in
set_option maxHeartbeats 40000000 in
theorem comes_1 {Post : Tables → Env → Array Value → State → Outcome → State → Prop} (hpost : ∀ tb e args s v u, (limb_1_1.after args s (.returned v) u = true ∧ limb_1_2.after args s (.returned v) u = true ∧ True) → FrameEnd s (.returned v) u (Jvm.fieldLocs frame_1_writes args s ++ Jvm.arrayLocs frame_1_arrays args s ++ Jvm.staticLocs frame_1_statics s) 40 192 → Post tb e args s (.returned v) u) :
    ArmFor flags0 classFile x code maxLocals ret World_1 tables_1 room_1 Calls_1 rest_1 Pre_1 Post := by
  intro l hfl _ _ p e ha hc hk s m args below hf hA hF happ hP
  obtain ⟨hcalls, hrest, hpre⟩ := hP
  obtain ⟨-, -, -, hnamed, -, -, -, hat⟩ := (Spec.applies_iff hf).mp happ
  obtain ⟨hg, hn⟩ := and_e (Cond.before_iff.mp (show (Jvm.Cond.and given_1 narrow_1).before args s = true from hpre))
  obtain ⟨hcnt, hg0⟩ := and_e hg
  obtain ⟨w0, w1, w2, w3, rfl⟩ : ∃ w0 w1 w2 w3 : Value, args = #[w0, w1, w2, w3] := by
    have hs : args.size = 4 := by simpa [Cond.value, given_1] using hcnt
    obtain ⟨L⟩ := args
    match L, hs with
    | [w0, w1, w2, w3], _ => exact ⟨w0, w1, w2, w3, rfl⟩
  have hw := fun d (hd : d ∈ tables_1) => atoms_spec (ws := Jvm.Cond.code x code maxLocals ret :: tables_1) hat d (List.mem_cons_of_mem _ hd)
  have hfit : Fit s := fun {y c} hc i hi => by
    obtain ⟨ha, rfl⟩ := Array.getElem?_eq_some_iff.mp hc
    have q := List.all_eq_true.mp ((Array.all_eq_true_iff_forall_mem.mp hF) _ (Array.getElem_mem ha)) i (List.mem_range.mpr hi)
    simpa [Array.getElem?_eq_getElem hi] using q
  obtain ⟨ha0, hg1⟩ := and_e hg0
  obtain ⟨i0, q0⟩ := is_v ha0
  obtain rfl : w0 = (.int i0) := Option.some.inj q0
  obtain ⟨ha1, hg2⟩ := and_e hg1
  obtain ⟨i1, q1⟩ := is_v ha1
  obtain rfl : w1 = (.int i1) := Option.some.inj q1
  obtain ⟨ha2, hg3⟩ := and_e hg2
  obtain ⟨i2, q2⟩ := is_v ha2
  obtain rfl : w2 = (.int i2) := Option.some.inj q2
  obtain ⟨i3, q3⟩ := is_v hg3
  obtain rfl : w3 = (.int i3) := Option.some.inj q3
  obtain ⟨hsets, hown0⟩ := atoms_of _ (rest_1_c_eq ▸ (show rest_1_c.before _ s = true from hrest))
  have n_cs0 := not_v (Cond.before_iff.mp (hsets _ (List.mem_of_getElem? (i := 2) rfl)))
  obtain ⟨i_cs, e_cs⟩ := is_v (Cond.before_iff.mp (hsets _ (List.mem_of_getElem? (i := 1) rfl)))
  have S_cs : Sta s s.heap "java/lang/String" "COMPACT_STRINGS" "Z" (.int i_cs) := Sta.start e_cs (Or.inl (hsets _ (List.mem_of_getElem? (i := 0) rfl)))
  have n_cs : ¬ i_cs = 0 := gotF (Cond.eq_ints e_cs (Term.int_eval (0))) n_cs0
  obtain ⟨v_sf, e_sf, r_sf⟩ := isR_v (Cond.before_iff.mp (hsets _ (List.mem_of_getElem? (i := 8) rfl)))
  have S_sf : Sta s s.heap "jdk/internal/util/Preconditions" "SIOOBE_FORMATTER" "Ljava/util/function/BiFunction;" v_sf := Sta.start e_sf (Or.inl (hsets _ (List.mem_of_getElem? (i := 7) rfl)))
  obtain ⟨n, o, h1, h2, h3, _, L, rfl, ⟨rfl, N⟩, hq⟩ := rm0 l s _ hw i0 i1 i2 i3 s.heap s.heap.size (Nat.le_refl _) i_cs v_sf S_cs n_cs S_sf r_sf (by rcases ref_cases r_sf with q | ⟨z, q⟩ <;> rw [q] <;> rfl) p e ha hc hk s m _ below hf ((Spec.applies_iff_loose hf).mp happ).1 ⟨rfl, State.Warmed39.refl s, rfl⟩ trivial
  refine ⟨n, _, h1, h2, h3, hpost _ _ _ _ _ _ ⟨Cond.after_iff.mpr rfl, Cond.after_iff.mpr (eq_i res_at (Term.int_eval (1)) rfl), trivial⟩ ⟨hq.1, hq.2.1, (hq.2.2.sift fun y hy => Or.inr (N y hy)).mono (by decide) (by decide)⟩⟩
theorem main_1_1 : Claimed_1_1 := comes_1 fun _ _ _ _ _ _ h hF => ⟨h.1, hF⟩
theorem main_1_2 : Claimed_1_2 := comes_1 fun _ _ _ _ _ _ h hF => ⟨h.2.1, hF⟩
end Jvm.Pilot.@@N@@
namespace Jvm.Pilot.@@N@@
open Jvm Jvm.ClassFile Sem Op Lib Jvm.Free Jvm.Stand Jvm.Pilot.@@N@@.Jvm.D
/-! MADE BY PROGRAM (witnessworld.py) out of the Statement's table words and the real class files: 30 classes; the members and pool entries that the words name. The judged class is class 1, her method 2. -/
namespace start1
open Jvm.ClassFile
def u (s : String) : CpInfo := .utf8 (stringToUtf16 s)
/-- a pool by its gaps: so many unusable entries, then the entry; so many at the end -/
def gap : Nat → List CpInfo → List CpInfo
  | 0, r => r
  | n + 1, r => .unusable :: gap n r
def poolList (es : List (Nat × CpInfo)) (last : Nat) : List CpInfo := es.foldr (fun e r => gap e.1 (e.2 :: r)) (gap last [])
def pool (es : List (Nat × CpInfo)) (last : Nat) : Array CpInfo := ⟨poolList es last⟩
def fileOf (pool : Array CpInfo) (this : Nat) (attrs : Array Attribute := #[]) (ms : Array MethodInfo := #[]) (fl : Nat := 33) (sup : Nat := 0) (ifs : Array Nat := #[]) (fds : Array FieldInfo := #[]) : ClassFile where
  minorVersion := 0
  majorVersion := 65
  constantPool := pool
  accessFlags := fl
  thisClass := this
  superClass := sup
  interfaces := ifs
  fields := fds
  methods := ms
  attributes := attrs
def plain (name : String) (sup : Option ClassId) : Class where
  name := name
  kind := .ordinary
  loader := none
  accessFlags := 33
  super := sup
  interfaces := #[]
  cf := none
  fields := #[]
  methods := #[]
  instanceTypes := #[]
  staticTypes := #[]
  resolved := #[]
  callSites := []
  init := .initialized
  statics := none
  mirror := none

def pool0 : Array CpInfo := pool [(5, u "<init>"), (0, u "()V"), (1, .class_ 10), (1, u "java/lang/Object"), (85, u "clone"), (0, u "()Ljava/lang/Object;")] 26

def k0c0 : Code := { maxStack := 0, maxLocals := 1, code := object_method_1_code, exceptionTable := #[], attributes := #[] }
def k0m0 : Method := { name := "<init>", desc := "()V", sig := { parameters := [], returnType := none }, accessFlags := 1, code := some k0c0 }
def k0m1 : Method := { name := "clone", desc := "()Ljava/lang/Object;", sig := { parameters := [], returnType := some (.object "java/lang/Object") }, accessFlags := 260, code := none }
/-- java/lang/Object -/
def k0 : Class := { plain "java/lang/Object" none with
  accessFlags := 33
  interfaces := #[]
  cf := some (fileOf pool0 8 #[] #[{ accessFlags := 1, nameIndex := 5, descriptorIndex := 6, attributes := #[] }, { accessFlags := 260, nameIndex := 96, descriptorIndex := 97, attributes := #[] }] 33 0 #[] #[])
  fields := #[]
  methods := #[k0m0, k0m1]
  instanceTypes := #[]
  staticTypes := #[]
  resolved := Array.replicate 124 none
  statics := none }

def pool1 : Array CpInfo := pool [(2, .class_ 4), (0, .nameAndType 5 6), (0, u "java/lang/Object"), (0, u "<init>"), (0, u "()V"), (0, .class_ 8), (0, u "java/lang/String"), (0, .methodref 7 10), (0, .nameAndType 5 11), (0, u "([C)V"), (0, .methodref 13 14), (0, .class_ 15), (0, .nameAndType 16 17), (0, u "java/lang/Math"), (0, u "min"), (0, u "(II)I"), (0, .methodref 13 19), (0, .nameAndType 20 17), (0, u "max"), (0, .integer 2147483647), (0, .methodref 23 24), (0, .class_ 25), (0, .nameAndType 26 27), (0, u "com/example/nav_by_schema/navbyschema/regex/UnitRunsReleasePinLaw"), (0, u "in"), (0, u "(III)Z"), (0, .methodref 29 30), (0, .class_ 31), (0, .nameAndType 32 33), (0, u "com/example/nav_by_schema/navbyschema/regex/CodeUnitSet"), (0, u "range"), (0, u "(CC)Lcom/example/nav_by_schema/navbyschema/regex/CodeUnitSet;"), (0, .class_ 35), (0, u "com/example/nav_by_schema/navbyschema/regex/UnitRuns"), (0, .methodref 34 3), (0, .methodref 34 38), (0, .nameAndType 39 40), (0, u "end"), (0, u "(Ljava/lang/String;Lcom/example/nav_by_schema/navbyschema/regex/CodeUnitSet;II)I"), (0, .methodref 34 42), (0, .nameAndType 43 44), (0, u "unitsRead"), (0, u "()J"), (0, .methodref 34 46), (0, .nameAndType 47 6), (0, u "release"), (0, .long 4), (1, .long 8), (4, u "law"), (0, u "(IIII)Z")] 4

def k1m0 : Method := { name := "<init>", desc := "()V", sig := { parameters := [], returnType := none }, accessFlags := 1, code := none }
def k1c1 : Code := { maxStack := 2, maxLocals := 3, code := method_2_code, exceptionTable := #[], attributes := #[] }
def k1m1 : Method := { name := "in", desc := "(III)Z", sig := { parameters := [.int, .int, .int], returnType := some .boolean }, accessFlags := 10, code := some k1c1 }
def k1c2 : Code := { maxStack := 5, maxLocals := 28, code := code, exceptionTable := #[], attributes := #[] }
def k1m2 : Method := { name := "law", desc := "(IIII)Z", sig := { parameters := [.int, .int, .int, .int], returnType := some .boolean }, accessFlags := 9, code := some k1c2 }
/-- com/example/nav_by_schema/navbyschema/regex/UnitRunsReleasePinLaw -/
def k1 : Class := { plain "com/example/nav_by_schema/navbyschema/regex/UnitRunsReleasePinLaw" (some 0) with
  accessFlags := 49
  interfaces := #[]
  cf := some (fileOf pool1 23 #[] #[{ accessFlags := 1, nameIndex := 5, descriptorIndex := 6, attributes := #[] }, { accessFlags := 10, nameIndex := 26, descriptorIndex := 27, attributes := #[] }, { accessFlags := 9, nameIndex := 55, descriptorIndex := 56, attributes := #[] }] 49 2 #[] #[])
  fields := #[]
  methods := #[k1m0, k1m1, k1m2]
  instanceTypes := #[]
  staticTypes := #[]
  resolved := Array.replicate 61 none
  statics := none }

def pool2 : Array CpInfo := pool [(1, .class_ 2), (0, u "java/io/Serializable"), (0, .class_ 4), (0, u "java/lang/Object")] 2

/-- java/io/Serializable -/
def k2 : Class := { plain "java/io/Serializable" (some 0) with
  accessFlags := 1537
  interfaces := #[]
  cf := some (fileOf pool2 1 #[] #[] 1537 3 #[] #[])
  fields := #[]
  methods := #[]
  instanceTypes := #[]
  staticTypes := #[]
  resolved := Array.replicate 7 none
  statics := none }

def pool3 : Array CpInfo := pool [(1, .class_ 2), (0, u "java/lang/Comparable"), (0, .class_ 4), (0, u "java/lang/Object")] 7

/-- java/lang/Comparable -/
def k3 : Class := { plain "java/lang/Comparable" (some 0) with
  accessFlags := 1537
  interfaces := #[]
  cf := some (fileOf pool3 1 #[] #[] 1537 3 #[] #[])
  fields := #[]
  methods := #[]
  instanceTypes := #[]
  staticTypes := #[]
  resolved := Array.replicate 12 none
  statics := none }

def pool4 : Array CpInfo := pool [(2, .class_ 4), (1, u "java/lang/CharSequence"), (42, .class_ 48), (0, u "java/lang/CharSequence$1CodePointIterator"), (10, .class_ 60), (0, u "java/lang/CharSequence$1CharIterator"), (5, .class_ 67), (0, u "java/lang/Object")] 63

/-- java/lang/CharSequence -/
def k4 : Class := { plain "java/lang/CharSequence" (some 0) with
  accessFlags := 1537
  interfaces := #[]
  cf := some (fileOf pool4 2 #[.nestMembers #[47, 59]] #[] 1537 66 #[] #[])
  fields := #[]
  methods := #[]
  instanceTypes := #[]
  staticTypes := #[]
  resolved := Array.replicate 131 none
  statics := none }

def pool5 : Array CpInfo := pool [(1, .class_ 2), (0, u "java/lang/constant/Constable"), (0, .class_ 4), (0, u "java/lang/Object")] 6

/-- java/lang/constant/Constable -/
def k5 : Class := { plain "java/lang/constant/Constable" (some 0) with
  accessFlags := 1537
  interfaces := #[]
  cf := some (fileOf pool5 1 #[] #[] 1537 3 #[] #[])
  fields := #[]
  methods := #[]
  instanceTypes := #[]
  staticTypes := #[]
  resolved := Array.replicate 11 none
  statics := none }

def pool6 : Array CpInfo := pool [(1, .class_ 2), (0, u "java/lang/constant/ConstantDesc"), (0, .class_ 4), (0, u "java/lang/Object")] 32

/-- java/lang/constant/ConstantDesc -/
def k6 : Class := { plain "java/lang/constant/ConstantDesc" (some 0) with
  accessFlags := 1537
  interfaces := #[]
  cf := some (fileOf pool6 1 #[] #[] 1537 3 #[] #[])
  fields := #[]
  methods := #[]
  instanceTypes := #[]
  staticTypes := #[]
  resolved := Array.replicate 37 none
  statics := none }

def pool7 : Array CpInfo := pool [(1, .methodref 2 3), (0, .class_ 4), (0, .nameAndType 5 6), (0, u "java/lang/Object"), (0, u "<init>"), (0, u "()V"), (2, .fieldref 10 11), (0, .class_ 12), (0, .nameAndType 13 14), (0, u "java/lang/String"), (0, u "value"), (0, u "[B"), (0, .fieldref 10 16), (0, .nameAndType 17 18), (0, u "coder"), (0, u "B"), (2, u "hash"), (0, u "I"), (2, u "hashIsZero"), (0, u "Z"), (0, .methodref 10 28), (0, .nameAndType 5 29), (0, u "([CIILjava/lang/Void;)V"), (8, .fieldref 10 39), (0, .nameAndType 40 26), (0, u "COMPACT_STRINGS"), (1, .class_ 44), (1, u "java/lang/StringUTF16"), (0, u "compress"), (1, .methodref 42 48), (0, .nameAndType 49 50), (0, u "coderFromArrayLen"), (0, u "([BI)B"), (56, .class_ 109), (1, u "java/lang/StringLatin1"), (32, u "()Z"), (34, .methodref 42 178), (0, .nameAndType 45 179), (0, u "([CII)[B"), (154, u "()I"), (0, .methodref 10 336), (0, .nameAndType 17 337), (0, u "()B"), (25, u "([BI)C"), (27, u "(II)V"), (35, u "(I)C"), (64, .methodref 10 493), (0, .nameAndType 494 142), (0, u "isLatin1"), (0, .methodref 107 496), (0, .nameAndType 497 363), (0, u "charAt"), (3, u "checkIndex"), (5, u "length"), (67, .class_ 576), (0, u "java/lang/CharSequence"), (22, u "CASE_INSENSITIVE_ORDER"), (0, u "Ljava/util/Comparator;"), (409, u "([C)V"), (42, .fieldref 1054 1055), (0, .class_ 1056), (0, .nameAndType 1057 1058), (0, u "jdk/internal/util/Preconditions"), (0, u "SIOOBE_FORMATTER"), (0, u "Ljava/util/function/BiFunction;"), (0, .methodref 1054 1060), (0, .nameAndType 501 1061), (0, u "(IILjava/util/function/BiFunction;)I"), (39, u "serialPersistentFields"), (0, u "[Ljava/io/ObjectStreamField;"), (0, .class_ 1104), (0, u "java/lang/String$CaseInsensitiveComparator"), (1, .class_ 1107), (0, u "java/io/Serializable"), (0, .class_ 1109), (0, u "java/lang/Comparable"), (0, .class_ 1111), (0, u "java/lang/constant/Constable"), (0, .class_ 1113), (0, u "java/lang/constant/ConstantDesc"), (2, u "serialVersionUID"), (0, u "J"), (3, u "REPL"), (0, u "C"), (2, u "LATIN1"), (1, u "UTF16")] 323

def k7m0 : Method := { name := "<init>", desc := "()V", sig := { parameters := [], returnType := none }, accessFlags := 1, code := none }
def k7c1 : Code := { maxStack := 5, maxLocals := 2, code := jdk_42_method_3_code, exceptionTable := #[], attributes := #[] }
def k7m1 : Method := { name := "<init>", desc := "([C)V", sig := { parameters := [(.array .char)], returnType := none }, accessFlags := 1, code := some k7c1 }
def k7c2 : Code := { maxStack := 2, maxLocals := 1, code := jdk_42_method_54_code, exceptionTable := #[], attributes := #[] }
def k7m2 : Method := { name := "length", desc := "()I", sig := { parameters := [], returnType := some .int }, accessFlags := 1, code := some k7c2 }
def k7c3 : Code := { maxStack := 2, maxLocals := 2, code := jdk_42_method_56_code, exceptionTable := #[], attributes := #[] }
def k7m3 : Method := { name := "charAt", desc := "(I)C", sig := { parameters := [.int], returnType := some .char }, accessFlags := 1, code := some k7c3 }
def k7c4 : Code := { maxStack := 4, maxLocals := 6, code := jdk_42_method_149_code, exceptionTable := #[], attributes := #[] }
def k7m4 : Method := { name := "<init>", desc := "([CIILjava/lang/Void;)V", sig := { parameters := [(.array .char), .int, .int, (.object "java/lang/Void")], returnType := none }, accessFlags := 2, code := some k7c4 }
def k7c5 : Code := { maxStack := 1, maxLocals := 1, code := jdk_42_method_152_code, exceptionTable := #[], attributes := #[] }
def k7m5 : Method := { name := "coder", desc := "()B", sig := { parameters := [], returnType := some .byte }, accessFlags := 0, code := some k7c5 }
def k7c6 : Code := { maxStack := 1, maxLocals := 1, code := jdk_42_method_154_code, exceptionTable := #[], attributes := #[] }
def k7m6 : Method := { name := "isLatin1", desc := "()Z", sig := { parameters := [], returnType := some .boolean }, accessFlags := 0, code := some k7c6 }
def k7c7 : Code := { maxStack := 3, maxLocals := 2, code := jdk_42_method_155_code, exceptionTable := #[], attributes := #[] }
def k7m7 : Method := { name := "checkIndex", desc := "(II)V", sig := { parameters := [.int, .int], returnType := none }, accessFlags := 8, code := some k7c7 }
/-- java/lang/String -/
def k7 : Class := { plain "java/lang/String" (some 0) with
  accessFlags := 49
  interfaces := #[2, 3, 4, 5, 6]
  cf := some (fileOf pool7 10 #[.nestMembers #[1103]] #[{ accessFlags := 1, nameIndex := 5, descriptorIndex := 6, attributes := #[] }, { accessFlags := 1, nameIndex := 5, descriptorIndex := 1010, attributes := #[] }, { accessFlags := 1, nameIndex := 507, descriptorIndex := 334, attributes := #[] }, { accessFlags := 1, nameIndex := 497, descriptorIndex := 427, attributes := #[] }, { accessFlags := 2, nameIndex := 5, descriptorIndex := 29, attributes := #[] }, { accessFlags := 0, nameIndex := 17, descriptorIndex := 337, attributes := #[] }, { accessFlags := 0, nameIndex := 494, descriptorIndex := 142, attributes := #[] }, { accessFlags := 8, nameIndex := 501, descriptorIndex := 391, attributes := #[] }] 49 2 #[1106, 1108, 575, 1110, 1112] #[{ accessFlags := 18, nameIndex := 13, descriptorIndex := 14, attributes := #[] }, { accessFlags := 18, nameIndex := 17, descriptorIndex := 18, attributes := #[] }, { accessFlags := 2, nameIndex := 21, descriptorIndex := 22, attributes := #[] }, { accessFlags := 2, nameIndex := 25, descriptorIndex := 26, attributes := #[] }, { accessFlags := 26, nameIndex := 1116, descriptorIndex := 1117, attributes := #[] }, { accessFlags := 24, nameIndex := 40, descriptorIndex := 26, attributes := #[] }, { accessFlags := 26, nameIndex := 1101, descriptorIndex := 1102, attributes := #[] }, { accessFlags := 26, nameIndex := 1121, descriptorIndex := 1122, attributes := #[] }, { accessFlags := 25, nameIndex := 599, descriptorIndex := 600, attributes := #[] }, { accessFlags := 24, nameIndex := 1125, descriptorIndex := 18, attributes := #[] }, { accessFlags := 24, nameIndex := 1127, descriptorIndex := 18, attributes := #[] }])
  fields := #[{ name := "value", type := (.array .byte), accessFlags := 18, slot := 0, constantValue := 0 }, { name := "coder", type := .byte, accessFlags := 18, slot := 1, constantValue := 0 }, { name := "hash", type := .int, accessFlags := 2, slot := 2, constantValue := 0 }, { name := "hashIsZero", type := .boolean, accessFlags := 2, slot := 3, constantValue := 0 }, { name := "serialVersionUID", type := .long, accessFlags := 26, slot := 0, constantValue := 0 }, { name := "COMPACT_STRINGS", type := .boolean, accessFlags := 24, slot := 1, constantValue := 0 }, { name := "serialPersistentFields", type := (.array (.object "java/io/ObjectStreamField")), accessFlags := 26, slot := 2, constantValue := 0 }, { name := "REPL", type := .char, accessFlags := 26, slot := 3, constantValue := 0 }, { name := "CASE_INSENSITIVE_ORDER", type := (.object "java/util/Comparator"), accessFlags := 25, slot := 4, constantValue := 0 }, { name := "LATIN1", type := .byte, accessFlags := 24, slot := 5, constantValue := 0 }, { name := "UTF16", type := .byte, accessFlags := 24, slot := 6, constantValue := 0 }]
  methods := #[k7m0, k7m1, k7m2, k7m3, k7m4, k7m5, k7m6, k7m7]
  instanceTypes := #[(.array .byte), .byte, .int, .boolean]
  staticTypes := #[.long, .boolean, (.array (.object "java/io/ObjectStreamField")), .char, (.object "java/util/Comparator"), .byte, .byte]
  resolved := Array.replicate 1451 none
  statics := some 0 }

def pool8 : Array CpInfo := pool [(6, .class_ 8), (1, u "java/lang/Object"), (0, u "<init>"), (0, u "()V"), (1, .class_ 14), (1, u "java/lang/StringUTF16"), (31, u "$assertionsDisabled"), (0, u "Z"), (13, u "HI_BYTE_SHIFT"), (0, u "I"), (2, u "LO_BYTE_SHIFT"), (49, .methodref 12 116), (0, .nameAndType 117 118), (0, u "compress"), (0, u "([CI[BII)I"), (3, u "([CII)[B"), (138, u "coderFromArrayLen"), (0, u "([BI)B"), (106, .class_ 371), (1, u "java/lang/StringUTF16$LinesSpliterator"), (58, u "MAX_LENGTH"), (196, .class_ 628), (0, u "java/lang/StringUTF16$CodePointsSpliterator"), (0, .class_ 630), (0, u "java/lang/StringUTF16$CharsSpliterator")] 4

def k8m0 : Method := { name := "<init>", desc := "()V", sig := { parameters := [], returnType := none }, accessFlags := 0, code := none }
def k8c1 : Code := { maxStack := 2, maxLocals := 2, code := jdk_52_method_15_code, exceptionTable := #[], attributes := #[] }
def k8m1 : Method := { name := "coderFromArrayLen", desc := "([BI)B", sig := { parameters := [(.array .byte), .int], returnType := some .byte }, accessFlags := 8, code := some k8c1 }
def k8c2 : Code := { maxStack := 5, maxLocals := 6, code := jdk_52_method_16_code, exceptionTable := #[], attributes := #[] }
def k8m2 : Method := { name := "compress", desc := "([CII)[B", sig := { parameters := [(.array .char), .int, .int], returnType := some (.array .byte) }, accessFlags := 9, code := some k8c2 }
def k8c3 : Code := { maxStack := 3, maxLocals := 7, code := jdk_52_method_21_code, exceptionTable := #[], attributes := #[] }
def k8m3 : Method := { name := "compress", desc := "([CI[BII)I", sig := { parameters := [(.array .char), .int, (.array .byte), .int, .int], returnType := some .int }, accessFlags := 9, code := some k8c3 }
/-- java/lang/StringUTF16 -/
def k8 : Class := { plain "java/lang/StringUTF16" (some 0) with
  accessFlags := 48
  interfaces := #[]
  cf := some (fileOf pool8 12 #[.nestMembers #[627, 629, 369]] #[{ accessFlags := 0, nameIndex := 9, descriptorIndex := 10, attributes := #[] }, { accessFlags := 8, nameIndex := 261, descriptorIndex := 262, attributes := #[] }, { accessFlags := 9, nameIndex := 117, descriptorIndex := 122, attributes := #[] }, { accessFlags := 9, nameIndex := 117, descriptorIndex := 118, attributes := #[] }] 48 6 #[] #[{ accessFlags := 26, nameIndex := 61, descriptorIndex := 62, attributes := #[] }, { accessFlags := 26, nameIndex := 65, descriptorIndex := 62, attributes := #[] }, { accessFlags := 24, nameIndex := 430, descriptorIndex := 62, attributes := #[] }, { accessFlags := 4120, nameIndex := 46, descriptorIndex := 47, attributes := #[] }])
  fields := #[{ name := "HI_BYTE_SHIFT", type := .int, accessFlags := 26, slot := 0, constantValue := 0 }, { name := "LO_BYTE_SHIFT", type := .int, accessFlags := 26, slot := 1, constantValue := 0 }, { name := "MAX_LENGTH", type := .int, accessFlags := 24, slot := 2, constantValue := 0 }, { name := "$assertionsDisabled", type := .boolean, accessFlags := 4120, slot := 3, constantValue := 0 }]
  methods := #[k8m0, k8m1, k8m2, k8m3]
  instanceTypes := #[]
  staticTypes := #[.int, .int, .int, .boolean]
  resolved := Array.replicate 635 none
  statics := none }

def pool9 : Array CpInfo := pool [(1, .class_ 2), (0, u "java/lang/Math"), (1, .class_ 6), (1, u "java/lang/Object"), (0, u "<init>"), (0, u "()V"), (89, .class_ 100), (1, u "java/lang/Math$RandomNumberGeneratorHolder"), (20, u "(JJ)J"), (50, u "negativeZeroFloatBits"), (0, u "J"), (2, u "negativeZeroDoubleBits"), (21, u "max"), (2, u "min"), (43, u "$assertionsDisabled"), (0, u "Z"), (88, u "(II)I"), (2, u "twoToTheDoubleScaleDown"), (0, u "D"), (4, u "twoToTheDoubleScaleUp"), (9, u "E"), (3, u "PI"), (2, u "TAU"), (2, u "DEGREES_TO_RADIANS"), (0, u "RADIANS_TO_DEGREES")] 94

def k9m0 : Method := { name := "<init>", desc := "()V", sig := { parameters := [], returnType := none }, accessFlags := 2, code := none }
def k9c1 : Code := { maxStack := 2, maxLocals := 2, code := jdk_29_method_65_code, exceptionTable := #[], attributes := #[] }
def k9m1 : Method := { name := "max", desc := "(II)I", sig := { parameters := [.int, .int], returnType := some .int }, accessFlags := 9, code := some k9c1 }
def k9c2 : Code := { maxStack := 2, maxLocals := 2, code := jdk_29_method_69_code, exceptionTable := #[], attributes := #[] }
def k9m2 : Method := { name := "min", desc := "(II)I", sig := { parameters := [.int, .int], returnType := some .int }, accessFlags := 9, code := some k9c2 }
def k9c3 : Code := { maxStack := 4, maxLocals := 4, code := jdk_29_method_70_code, exceptionTable := #[], attributes := #[] }
def k9m3 : Method := { name := "min", desc := "(JJ)J", sig := { parameters := [.long, .long], returnType := some .long }, accessFlags := 9, code := some k9c3 }
/-- java/lang/Math -/
def k9 : Class := { plain "java/lang/Math" (some 0) with
  accessFlags := 49
  interfaces := #[]
  cf := some (fileOf pool9 1 #[.nestMembers #[98]] #[{ accessFlags := 2, nameIndex := 7, descriptorIndex := 8, attributes := #[] }, { accessFlags := 9, nameIndex := 198, descriptorIndex := 335, attributes := #[] }, { accessFlags := 9, nameIndex := 201, descriptorIndex := 335, attributes := #[] }, { accessFlags := 9, nameIndex := 201, descriptorIndex := 121, attributes := #[] }] 49 4 #[] #[{ accessFlags := 25, nameIndex := 354, descriptorIndex := 339, attributes := #[] }, { accessFlags := 25, nameIndex := 358, descriptorIndex := 339, attributes := #[] }, { accessFlags := 25, nameIndex := 361, descriptorIndex := 339, attributes := #[] }, { accessFlags := 26, nameIndex := 364, descriptorIndex := 339, attributes := #[] }, { accessFlags := 26, nameIndex := 365, descriptorIndex := 339, attributes := #[] }, { accessFlags := 26, nameIndex := 172, descriptorIndex := 173, attributes := #[] }, { accessFlags := 26, nameIndex := 176, descriptorIndex := 173, attributes := #[] }, { accessFlags := 8, nameIndex := 344, descriptorIndex := 339, attributes := #[] }, { accessFlags := 8, nameIndex := 338, descriptorIndex := 339, attributes := #[] }, { accessFlags := 4120, nameIndex := 245, descriptorIndex := 246, attributes := #[] }])
  fields := #[{ name := "E", type := .double, accessFlags := 25, slot := 0, constantValue := 0 }, { name := "PI", type := .double, accessFlags := 25, slot := 1, constantValue := 0 }, { name := "TAU", type := .double, accessFlags := 25, slot := 2, constantValue := 0 }, { name := "DEGREES_TO_RADIANS", type := .double, accessFlags := 26, slot := 3, constantValue := 0 }, { name := "RADIANS_TO_DEGREES", type := .double, accessFlags := 26, slot := 4, constantValue := 0 }, { name := "negativeZeroFloatBits", type := .long, accessFlags := 26, slot := 5, constantValue := 0 }, { name := "negativeZeroDoubleBits", type := .long, accessFlags := 26, slot := 6, constantValue := 0 }, { name := "twoToTheDoubleScaleUp", type := .double, accessFlags := 8, slot := 7, constantValue := 0 }, { name := "twoToTheDoubleScaleDown", type := .double, accessFlags := 8, slot := 8, constantValue := 0 }, { name := "$assertionsDisabled", type := .boolean, accessFlags := 4120, slot := 9, constantValue := 0 }]
  methods := #[k9m0, k9m1, k9m2, k9m3]
  instanceTypes := #[]
  staticTypes := #[.double, .double, .double, .double, .double, .long, .long, .double, .double, .boolean]
  resolved := Array.replicate 460 none
  statics := none }

def pool10 : Array CpInfo := pool [(1, .methodref 2 3), (0, .class_ 4), (0, .nameAndType 5 6), (0, u "java/lang/Object"), (0, u "<init>"), (0, u "()V"), (0, .fieldref 8 9), (0, .class_ 10), (0, .nameAndType 11 12), (0, u "com/example/nav_by_schema/navbyschema/regex/CodeUnitSet"), (0, u "ranges"), (0, u "[I"), (0, .methodref 14 15), (0, .class_ 16), (0, .nameAndType 17 18), (0, u "java/lang/Math"), (0, u "min"), (0, u "(II)I"), (0, .fieldref 8 20), (0, .nameAndType 21 22), (0, u "low"), (0, u "J"), (0, .fieldref 8 24), (0, .nameAndType 25 22), (0, u "high"), (0, .class_ 27), (0, u "com/example/nav_by_schema/navbyschema/regex/CodeUnitSet$Builder"), (0, .methodref 26 3), (0, .methodref 26 30), (0, .nameAndType 31 32), (0, u "add"), (0, u "(CC)Lcom/example/nav_by_schema/navbyschema/regex/CodeUnitSet$Builder;"), (0, .methodref 26 34), (0, .nameAndType 35 36), (0, u "build"), (0, u "(Z)Lcom/example/nav_by_schema/navbyschema/regex/CodeUnitSet;"), (1, .class_ 40), (1, u "com/example/nav_by_schema/navbyschema/regex/CodeUnitSet$Spaces"), (1, u "Lcom/example/nav_by_schema/navbyschema/regex/CodeUnitSet;"), (6, u "range"), (0, u "(CC)Lcom/example/nav_by_schema/navbyschema/regex/CodeUnitSet;"), (2, u "DIGITS"), (2, u "WORD"), (2, u "NOT_LINE_TERMINATOR"), (2, u "NONE"), (0, u "([I)V"), (6, u "contains"), (0, u "(C)Z")] 10

def k10c0 : Code := { maxStack := 6, maxLocals := 8, code := prog_7_method_1_code, exceptionTable := #[], attributes := #[] }
def k10m0 : Method := { name := "<init>", desc := "([I)V", sig := { parameters := [(.array .int)], returnType := none }, accessFlags := 2, code := some k10c0 }
def k10c1 : Code := { maxStack := 3, maxLocals := 2, code := prog_7_method_2_code, exceptionTable := #[], attributes := #[] }
def k10m1 : Method := { name := "range", desc := "(CC)Lcom/example/nav_by_schema/navbyschema/regex/CodeUnitSet;", sig := { parameters := [.char, .char], returnType := some (.object "com/example/nav_by_schema/navbyschema/regex/CodeUnitSet") }, accessFlags := 8, code := some k10c1 }
def k10c2 : Code := { maxStack := 4, maxLocals := 6, code := prog_7_method_4_code, exceptionTable := #[], attributes := #[] }
def k10m2 : Method := { name := "contains", desc := "(C)Z", sig := { parameters := [.char], returnType := some .boolean }, accessFlags := 0, code := some k10c2 }
/-- com/example/nav_by_schema/navbyschema/regex/CodeUnitSet -/
def k10 : Class := { plain "com/example/nav_by_schema/navbyschema/regex/CodeUnitSet" (some 0) with
  accessFlags := 48
  interfaces := #[]
  cf := some (fileOf pool10 8 #[.nestMembers #[38, 26]] #[{ accessFlags := 2, nameIndex := 5, descriptorIndex := 63, attributes := #[] }, { accessFlags := 8, nameIndex := 49, descriptorIndex := 50, attributes := #[] }, { accessFlags := 0, nameIndex := 70, descriptorIndex := 71, attributes := #[] }] 48 2 #[] #[{ accessFlags := 24, nameIndex := 53, descriptorIndex := 42, attributes := #[] }, { accessFlags := 24, nameIndex := 56, descriptorIndex := 42, attributes := #[] }, { accessFlags := 24, nameIndex := 59, descriptorIndex := 42, attributes := #[] }, { accessFlags := 24, nameIndex := 62, descriptorIndex := 42, attributes := #[] }, { accessFlags := 18, nameIndex := 11, descriptorIndex := 12, attributes := #[] }, { accessFlags := 18, nameIndex := 21, descriptorIndex := 22, attributes := #[] }, { accessFlags := 18, nameIndex := 25, descriptorIndex := 22, attributes := #[] }])
  fields := #[{ name := "DIGITS", type := (.object "com/example/nav_by_schema/navbyschema/regex/CodeUnitSet"), accessFlags := 24, slot := 0, constantValue := 0 }, { name := "WORD", type := (.object "com/example/nav_by_schema/navbyschema/regex/CodeUnitSet"), accessFlags := 24, slot := 1, constantValue := 0 }, { name := "NOT_LINE_TERMINATOR", type := (.object "com/example/nav_by_schema/navbyschema/regex/CodeUnitSet"), accessFlags := 24, slot := 2, constantValue := 0 }, { name := "NONE", type := (.object "com/example/nav_by_schema/navbyschema/regex/CodeUnitSet"), accessFlags := 24, slot := 3, constantValue := 0 }, { name := "ranges", type := (.array .int), accessFlags := 18, slot := 0, constantValue := 0 }, { name := "low", type := .long, accessFlags := 18, slot := 1, constantValue := 0 }, { name := "high", type := .long, accessFlags := 18, slot := 2, constantValue := 0 }]
  methods := #[k10m0, k10m1, k10m2]
  instanceTypes := #[(.array .int), .long, .long]
  staticTypes := #[(.object "com/example/nav_by_schema/navbyschema/regex/CodeUnitSet"), (.object "com/example/nav_by_schema/navbyschema/regex/CodeUnitSet"), (.object "com/example/nav_by_schema/navbyschema/regex/CodeUnitSet"), (.object "com/example/nav_by_schema/navbyschema/regex/CodeUnitSet")]
  resolved := Array.replicate 82 none
  statics := none }

def pool11 : Array CpInfo := pool [(1, .methodref 2 3), (0, .class_ 4), (0, .nameAndType 5 6), (0, u "java/lang/Object"), (0, u "<init>"), (0, u "()V"), (0, .fieldref 8 9), (0, .class_ 10), (0, .nameAndType 11 12), (0, u "com/example/nav_by_schema/navbyschema/regex/CodeUnitSet$Builder"), (0, u "ranges"), (0, u "[I"), (0, .fieldref 8 14), (0, .nameAndType 15 16), (0, u "size"), (0, u "I"), (0, .methodref 18 19), (0, .class_ 20), (0, .nameAndType 21 22), (0, u "java/util/Arrays"), (0, u "copyOf"), (0, u "([II)[I"), (1, .class_ 25), (0, u "com/example/nav_by_schema/navbyschema/regex/CodeUnitSet"), (2, u "add"), (0, u "(CC)Lcom/example/nav_by_schema/navbyschema/regex/CodeUnitSet$Builder;"), (0, .methodref 18 31), (0, .nameAndType 32 33), (0, u "sort"), (0, u "([J)V"), (0, .methodref 35 36), (0, .class_ 37), (0, .nameAndType 38 39), (0, u "java/lang/Math"), (0, u "max"), (0, u "(II)I"), (2, .integer 65535), (0, .methodref 24 44), (0, .nameAndType 5 45), (0, u "([I)V"), (5, u "build"), (0, u "(Z)Lcom/example/nav_by_schema/navbyschema/regex/CodeUnitSet;")] 8

def k11c0 : Code := { maxStack := 2, maxLocals := 1, code := prog_8_method_1_code, exceptionTable := #[], attributes := #[] }
def k11m0 : Method := { name := "<init>", desc := "()V", sig := { parameters := [], returnType := none }, accessFlags := 0, code := some k11c0 }
def k11c1 : Code := { maxStack := 4, maxLocals := 3, code := prog_8_method_2_code, exceptionTable := #[], attributes := #[] }
def k11m1 : Method := { name := "add", desc := "(CC)Lcom/example/nav_by_schema/navbyschema/regex/CodeUnitSet$Builder;", sig := { parameters := [.char, .char], returnType := some (.object "com/example/nav_by_schema/navbyschema/regex/CodeUnitSet$Builder") }, accessFlags := 0, code := some k11c1 }
def k11c2 : Code := { maxStack := 7, maxLocals := 12, code := prog_8_method_4_code, exceptionTable := #[], attributes := #[] }
def k11m2 : Method := { name := "build", desc := "(Z)Lcom/example/nav_by_schema/navbyschema/regex/CodeUnitSet;", sig := { parameters := [.boolean], returnType := some (.object "com/example/nav_by_schema/navbyschema/regex/CodeUnitSet") }, accessFlags := 0, code := some k11c2 }
/-- com/example/nav_by_schema/navbyschema/regex/CodeUnitSet$Builder -/
def k11 : Class := { plain "com/example/nav_by_schema/navbyschema/regex/CodeUnitSet$Builder" (some 0) with
  accessFlags := 48
  interfaces := #[]
  cf := some (fileOf pool11 8 #[.nestHost 24] #[{ accessFlags := 0, nameIndex := 5, descriptorIndex := 6, attributes := #[] }, { accessFlags := 0, nameIndex := 28, descriptorIndex := 29, attributes := #[] }, { accessFlags := 0, nameIndex := 51, descriptorIndex := 52, attributes := #[] }] 48 2 #[] #[{ accessFlags := 2, nameIndex := 11, descriptorIndex := 12, attributes := #[] }, { accessFlags := 2, nameIndex := 15, descriptorIndex := 16, attributes := #[] }])
  fields := #[{ name := "ranges", type := (.array .int), accessFlags := 2, slot := 0, constantValue := 0 }, { name := "size", type := .int, accessFlags := 2, slot := 1, constantValue := 0 }]
  methods := #[k11m0, k11m1, k11m2]
  instanceTypes := #[(.array .int), .int]
  staticTypes := #[]
  resolved := Array.replicate 61 none
  statics := none }

def pool12 : Array CpInfo := pool [(2, .class_ 4), (1, u "java/lang/Object"), (0, u "<init>"), (0, u "()V"), (1, .class_ 10), (1, u "java/util/DualPivotQuicksort"), (0, u "sort"), (0, u "([IIII)V"), (0, .methodref 14 15), (0, .class_ 16), (0, .nameAndType 17 18), (0, u "java/util/Arrays"), (0, u "rangeCheck"), (0, u "(III)V"), (0, .methodref 8 20), (0, .nameAndType 11 21), (0, u "([JIII)V"), (52, .class_ 76), (1, u "java/util/Arrays$NaturalOrder"), (32, u "()Ljava/lang/Object;"), (3, .class_ 115), (1, u "java/util/Arrays$LegacyMergeSort"), (1, u "Z"), (10, .nameAndType 129 109), (0, u "clone"), (172, u "copyOf"), (13, .methodref 317 128), (0, .class_ 318), (0, u "[I"), (56, .class_ 376), (0, u "java/util/Arrays$ArrayList"), (68, u "$assertionsDisabled"), (269, u "MIN_ARRAY_SORT_GRAN"), (0, u "I"), (2, u "INSERTIONSORT_THRESHOLD"), (11, u "([J)V"), (108, u "fill"), (30, u "([II)[I"), (103, .class_ 976), (0, u "java/util/Arrays$ArrayItr")] 52

def k12m0 : Method := { name := "<init>", desc := "()V", sig := { parameters := [], returnType := none }, accessFlags := 2, code := none }
def k12c1 : Code := { maxStack := 4, maxLocals := 1, code := jdk_65_method_4_code, exceptionTable := #[], attributes := #[] }
def k12m1 : Method := { name := "sort", desc := "([J)V", sig := { parameters := [(.array .long)], returnType := none }, accessFlags := 9, code := some k12c1 }
def k12c2 : Code := { maxStack := 4, maxLocals := 3, code := jdk_65_method_30_code, exceptionTable := #[], attributes := #[] }
def k12m2 : Method := { name := "rangeCheck", desc := "(III)V", sig := { parameters := [.int, .int, .int], returnType := none }, accessFlags := 8, code := some k12c2 }
def k12c3 : Code := { maxStack := 3, maxLocals := 5, code := jdk_65_method_104_code, exceptionTable := #[], attributes := #[] }
def k12m3 : Method := { name := "fill", desc := "([IIII)V", sig := { parameters := [(.array .int), .int, .int, .int], returnType := none }, accessFlags := 9, code := some k12c3 }
def k12c4 : Code := { maxStack := 6, maxLocals := 3, code := jdk_65_method_123_code, exceptionTable := #[], attributes := #[] }
def k12m4 : Method := { name := "copyOf", desc := "([II)[I", sig := { parameters := [(.array .int), .int], returnType := some (.array .int) }, accessFlags := 9, code := some k12c4 }
/-- java/util/Arrays -/
def k12 : Class := { plain "java/util/Arrays" (some 0) with
  accessFlags := 49
  interfaces := #[]
  cf := some (fileOf pool12 14 #[.nestMembers #[975, 375, 113, 74]] #[{ accessFlags := 2, nameIndex := 5, descriptorIndex := 6, attributes := #[] }, { accessFlags := 9, nameIndex := 11, descriptorIndex := 731, attributes := #[] }, { accessFlags := 8, nameIndex := 17, descriptorIndex := 18, attributes := #[] }, { accessFlags := 9, nameIndex := 840, descriptorIndex := 12, attributes := #[] }, { accessFlags := 9, nameIndex := 302, descriptorIndex := 871, attributes := #[] }] 49 2 #[] #[{ accessFlags := 26, nameIndex := 715, descriptorIndex := 716, attributes := #[] }, { accessFlags := 26, nameIndex := 719, descriptorIndex := 716, attributes := #[] }, { accessFlags := 4120, nameIndex := 445, descriptorIndex := 117, attributes := #[] }])
  fields := #[{ name := "MIN_ARRAY_SORT_GRAN", type := .int, accessFlags := 26, slot := 0, constantValue := 0 }, { name := "INSERTIONSORT_THRESHOLD", type := .int, accessFlags := 26, slot := 1, constantValue := 0 }, { name := "$assertionsDisabled", type := .boolean, accessFlags := 4120, slot := 2, constantValue := 0 }]
  methods := #[k12m0, k12m1, k12m2, k12m3, k12m4]
  instanceTypes := #[]
  staticTypes := #[.int, .int, .boolean]
  resolved := Array.replicate 1029 none
  statics := none }

def pool13 : Array CpInfo := pool [(1, .class_ 2), (0, u "java/util/DualPivotQuicksort"), (5, .class_ 10), (1, u "java/lang/Object"), (0, u "<init>"), (0, u "()V"), (4, .class_ 18), (0, u "java/util/DualPivotQuicksort$Sorter"), (9, u "sort"), (7, u "insertionSort"), (31, u "I"), (4, .class_ 74), (0, u "java/util/DualPivotQuicksort$RunMerger"), (10, .class_ 86), (0, u "java/util/DualPivotQuicksort$Merger"), (12, .methodref 1 100), (0, .nameAndType 28 101), (0, u "(Ljava/util/DualPivotQuicksort$Sorter;[JIII)V"), (2, u "([JIII)V"), (0, .methodref 1 106), (0, .nameAndType 36 107), (0, u "([JII)V"), (106, u "MAX_MIXED_INSERTION_SORT_SIZE"), (2, u "MAX_INSERTION_SORT_SIZE"), (1, u "MIN_PARALLEL_SORT_SIZE"), (1, u "MIN_TRY_MERGE_SIZE"), (0, u "MIN_FIRST_RUN_SIZE"), (1, u "MIN_FIRST_RUNS_FACTOR"), (1, u "MAX_RUN_CAPACITY"), (1, u "MIN_RUN_COUNT"), (1, u "MIN_PARALLEL_MERGE_PARTS_SIZE"), (0, u "MIN_BYTE_COUNTING_SORT_SIZE"), (1, u "MIN_SHORT_OR_CHAR_COUNTING_SORT_SIZE"), (1, u "DELTA"), (1, u "MAX_RECURSION_DEPTH"), (1, u "NUM_BYTE_VALUES"), (1, u "MAX_BYTE_INDEX"), (0, u "NUM_CHAR_VALUES"), (0, u "NUM_SHORT_VALUES"), (0, u "MAX_SHORT_INDEX")] 86

def k13m0 : Method := { name := "<init>", desc := "()V", sig := { parameters := [], returnType := none }, accessFlags := 2, code := none }
def k13c1 : Code := { maxStack := 9, maxLocals := 7, code := jdk_2529_method_12_code, exceptionTable := #[], attributes := #[] }
def k13m1 : Method := { name := "sort", desc := "([JIII)V", sig := { parameters := [(.array .long), .int, .int, .int], returnType := none }, accessFlags := 8, code := some k13c1 }
def k13c2 : Code := { maxStack := 6, maxLocals := 25, code := jdk_2529_method_13_code, exceptionTable := #[], attributes := #[] }
def k13m2 : Method := { name := "sort", desc := "(Ljava/util/DualPivotQuicksort$Sorter;[JIII)V", sig := { parameters := [(.object "java/util/DualPivotQuicksort$Sorter"), (.array .long), .int, .int, .int], returnType := none }, accessFlags := 8, code := some k13c2 }
def k13c3 : Code := { maxStack := 5, maxLocals := 7, code := jdk_2529_method_15_code, exceptionTable := #[], attributes := #[] }
def k13m3 : Method := { name := "insertionSort", desc := "([JII)V", sig := { parameters := [(.array .long), .int, .int], returnType := none }, accessFlags := 10, code := some k13c3 }
/-- java/util/DualPivotQuicksort -/
def k13 : Class := { plain "java/util/DualPivotQuicksort" (some 0) with
  accessFlags := 48
  interfaces := #[]
  cf := some (fileOf pool13 1 #[.nestMembers #[73, 85, 17]] #[{ accessFlags := 2, nameIndex := 11, descriptorIndex := 12, attributes := #[] }, { accessFlags := 8, nameIndex := 28, descriptorIndex := 104, attributes := #[] }, { accessFlags := 8, nameIndex := 28, descriptorIndex := 101, attributes := #[] }, { accessFlags := 10, nameIndex := 36, descriptorIndex := 107, attributes := #[] }] 48 8 #[] #[{ accessFlags := 26, nameIndex := 214, descriptorIndex := 68, attributes := #[] }, { accessFlags := 26, nameIndex := 217, descriptorIndex := 68, attributes := #[] }, { accessFlags := 26, nameIndex := 219, descriptorIndex := 68, attributes := #[] }, { accessFlags := 26, nameIndex := 221, descriptorIndex := 68, attributes := #[] }, { accessFlags := 26, nameIndex := 222, descriptorIndex := 68, attributes := #[] }, { accessFlags := 26, nameIndex := 224, descriptorIndex := 68, attributes := #[] }, { accessFlags := 26, nameIndex := 226, descriptorIndex := 68, attributes := #[] }, { accessFlags := 26, nameIndex := 228, descriptorIndex := 68, attributes := #[] }, { accessFlags := 26, nameIndex := 230, descriptorIndex := 68, attributes := #[] }, { accessFlags := 26, nameIndex := 231, descriptorIndex := 68, attributes := #[] }, { accessFlags := 26, nameIndex := 233, descriptorIndex := 68, attributes := #[] }, { accessFlags := 26, nameIndex := 235, descriptorIndex := 68, attributes := #[] }, { accessFlags := 26, nameIndex := 237, descriptorIndex := 68, attributes := #[] }, { accessFlags := 26, nameIndex := 239, descriptorIndex := 68, attributes := #[] }, { accessFlags := 26, nameIndex := 241, descriptorIndex := 68, attributes := #[] }, { accessFlags := 26, nameIndex := 242, descriptorIndex := 68, attributes := #[] }, { accessFlags := 26, nameIndex := 243, descriptorIndex := 68, attributes := #[] }, { accessFlags := 26, nameIndex := 244, descriptorIndex := 68, attributes := #[] }])
  fields := #[{ name := "MAX_MIXED_INSERTION_SORT_SIZE", type := .int, accessFlags := 26, slot := 0, constantValue := 0 }, { name := "MAX_INSERTION_SORT_SIZE", type := .int, accessFlags := 26, slot := 1, constantValue := 0 }, { name := "MIN_PARALLEL_SORT_SIZE", type := .int, accessFlags := 26, slot := 2, constantValue := 0 }, { name := "MIN_TRY_MERGE_SIZE", type := .int, accessFlags := 26, slot := 3, constantValue := 0 }, { name := "MIN_FIRST_RUN_SIZE", type := .int, accessFlags := 26, slot := 4, constantValue := 0 }, { name := "MIN_FIRST_RUNS_FACTOR", type := .int, accessFlags := 26, slot := 5, constantValue := 0 }, { name := "MAX_RUN_CAPACITY", type := .int, accessFlags := 26, slot := 6, constantValue := 0 }, { name := "MIN_RUN_COUNT", type := .int, accessFlags := 26, slot := 7, constantValue := 0 }, { name := "MIN_PARALLEL_MERGE_PARTS_SIZE", type := .int, accessFlags := 26, slot := 8, constantValue := 0 }, { name := "MIN_BYTE_COUNTING_SORT_SIZE", type := .int, accessFlags := 26, slot := 9, constantValue := 0 }, { name := "MIN_SHORT_OR_CHAR_COUNTING_SORT_SIZE", type := .int, accessFlags := 26, slot := 10, constantValue := 0 }, { name := "DELTA", type := .int, accessFlags := 26, slot := 11, constantValue := 0 }, { name := "MAX_RECURSION_DEPTH", type := .int, accessFlags := 26, slot := 12, constantValue := 0 }, { name := "NUM_BYTE_VALUES", type := .int, accessFlags := 26, slot := 13, constantValue := 0 }, { name := "MAX_BYTE_INDEX", type := .int, accessFlags := 26, slot := 14, constantValue := 0 }, { name := "NUM_CHAR_VALUES", type := .int, accessFlags := 26, slot := 15, constantValue := 0 }, { name := "NUM_SHORT_VALUES", type := .int, accessFlags := 26, slot := 16, constantValue := 0 }, { name := "MAX_SHORT_INDEX", type := .int, accessFlags := 26, slot := 17, constantValue := 0 }]
  methods := #[k13m0, k13m1, k13m2, k13m3]
  instanceTypes := #[]
  staticTypes := #[.int, .int, .int, .int, .int, .int, .int, .int, .int, .int, .int, .int, .int, .int, .int, .int, .int, .int]
  resolved := Array.replicate 331 none
  statics := none }

def pool14 : Array CpInfo := pool [(1, .class_ 2), (0, u "java/lang/Cloneable"), (0, .class_ 4), (0, u "java/lang/Object")] 2

/-- java/lang/Cloneable -/
def k14 : Class := { plain "java/lang/Cloneable" (some 0) with
  accessFlags := 1537
  interfaces := #[]
  cf := some (fileOf pool14 1 #[] #[] 1537 3 #[] #[])
  fields := #[]
  methods := #[]
  instanceTypes := #[]
  staticTypes := #[]
  resolved := Array.replicate 7 none
  statics := none }

def pool15 : Array CpInfo := pool [(1, .methodref 2 3), (0, .class_ 4), (0, .nameAndType 5 6), (0, u "java/lang/Object"), (0, u "<init>"), (0, u "()V"), (0, .fieldref 8 9), (0, .class_ 10), (0, .nameAndType 11 12), (0, u "com/example/nav_by_schema/navbyschema/regex/UnitRuns"), (0, u "members"), (0, u "[J"), (0, .fieldref 8 14), (0, .nameAndType 15 16), (0, u "next"), (0, u "[I"), (0, .fieldref 8 18), (0, .nameAndType 19 20), (0, u "text"), (0, u "Ljava/lang/String;"), (0, .fieldref 8 22), (0, .nameAndType 23 24), (0, u "set"), (0, u "Lcom/example/nav_by_schema/navbyschema/regex/CodeUnitSet;"), (0, .methodref 8 26), (0, .nameAndType 27 28), (0, u "reset"), (0, u "(Ljava/lang/String;Lcom/example/nav_by_schema/navbyschema/regex/CodeUnitSet;)V"), (0, .methodref 8 30), (0, .nameAndType 31 32), (0, u "read"), (0, u "(I)V"), (0, .long 18446744073709551615), (5, .methodref 40 41), (0, .class_ 42), (0, .nameAndType 43 44), (0, u "java/lang/Long"), (0, u "numberOfTrailingZeros"), (0, u "(J)I"), (0, .methodref 46 47), (0, .class_ 48), (0, .nameAndType 49 50), (0, u "java/lang/Math"), (0, u "min"), (0, u "(JJ)J"), (0, .fieldref 8 52), (0, .nameAndType 53 54), (0, u "unitsRead"), (0, u "J"), (0, .fieldref 8 56), (0, .nameAndType 57 58), (0, u "touched"), (0, u "I"), (0, .methodref 60 61), (0, .class_ 62), (0, .nameAndType 63 64), (0, u "java/lang/String"), (0, u "length"), (0, u "()I"), (0, .methodref 66 67), (0, .class_ 68), (0, .nameAndType 69 70), (0, u "java/util/Arrays"), (0, u "fill"), (0, u "([IIII)V"), (0, .methodref 46 72), (0, .nameAndType 49 73), (0, u "(II)I"), (0, .methodref 60 75), (0, .nameAndType 76 77), (0, u "charAt"), (0, u "(I)C"), (0, .methodref 79 80), (0, .class_ 81), (0, .nameAndType 82 83), (0, u "com/example/nav_by_schema/navbyschema/regex/CodeUnitSet"), (0, u "contains"), (0, u "(C)Z"), (0, .methodref 46 85), (0, .nameAndType 86 73), (0, u "max"), (0, u "KEPT"), (4, u "end"), (0, u "(Ljava/lang/String;Lcom/example/nav_by_schema/navbyschema/regex/CodeUnitSet;II)I"), (1, u "()J"), (0, u "release")] 3

def k15c0 : Code := { maxStack := 2, maxLocals := 1, code := prog_27_method_1_code, exceptionTable := #[], attributes := #[] }
def k15m0 : Method := { name := "<init>", desc := "()V", sig := { parameters := [], returnType := none }, accessFlags := 0, code := some k15c0 }
def k15c1 : Code := { maxStack := 5, maxLocals := 12, code := prog_27_method_2_code, exceptionTable := #[], attributes := #[] }
def k15m1 : Method := { name := "end", desc := "(Ljava/lang/String;Lcom/example/nav_by_schema/navbyschema/regex/CodeUnitSet;II)I", sig := { parameters := [(.object "java/lang/String"), (.object "com/example/nav_by_schema/navbyschema/regex/CodeUnitSet"), .int, .int], returnType := some .int }, accessFlags := 0, code := some k15c1 }
def k15c2 : Code := { maxStack := 2, maxLocals := 1, code := prog_27_method_3_code, exceptionTable := #[], attributes := #[] }
def k15m2 : Method := { name := "unitsRead", desc := "()J", sig := { parameters := [], returnType := some .long }, accessFlags := 0, code := some k15c2 }
def k15c3 : Code := { maxStack := 2, maxLocals := 1, code := prog_27_method_4_code, exceptionTable := #[], attributes := #[] }
def k15m3 : Method := { name := "release", desc := "()V", sig := { parameters := [], returnType := none }, accessFlags := 0, code := some k15c3 }
def k15c4 : Code := { maxStack := 4, maxLocals := 4, code := prog_27_method_5_code, exceptionTable := #[], attributes := #[] }
def k15m4 : Method := { name := "reset", desc := "(Ljava/lang/String;Lcom/example/nav_by_schema/navbyschema/regex/CodeUnitSet;)V", sig := { parameters := [(.object "java/lang/String"), (.object "com/example/nav_by_schema/navbyschema/regex/CodeUnitSet")], returnType := none }, accessFlags := 2, code := some k15c4 }
def k15c5 : Code := { maxStack := 6, maxLocals := 7, code := prog_27_method_7_code, exceptionTable := #[], attributes := #[] }
def k15m5 : Method := { name := "read", desc := "(I)V", sig := { parameters := [.int], returnType := none }, accessFlags := 2, code := some k15c5 }
/-- com/example/nav_by_schema/navbyschema/regex/UnitRuns -/
def k15 : Class := { plain "com/example/nav_by_schema/navbyschema/regex/UnitRuns" (some 0) with
  accessFlags := 48
  interfaces := #[]
  cf := some (fileOf pool15 8 #[] #[{ accessFlags := 0, nameIndex := 5, descriptorIndex := 6, attributes := #[] }, { accessFlags := 0, nameIndex := 92, descriptorIndex := 93, attributes := #[] }, { accessFlags := 0, nameIndex := 53, descriptorIndex := 95, attributes := #[] }, { accessFlags := 0, nameIndex := 96, descriptorIndex := 6, attributes := #[] }, { accessFlags := 2, nameIndex := 27, descriptorIndex := 28, attributes := #[] }, { accessFlags := 2, nameIndex := 31, descriptorIndex := 32, attributes := #[] }] 48 2 #[] #[{ accessFlags := 26, nameIndex := 87, descriptorIndex := 58, attributes := #[] }, { accessFlags := 2, nameIndex := 19, descriptorIndex := 20, attributes := #[] }, { accessFlags := 2, nameIndex := 23, descriptorIndex := 24, attributes := #[] }, { accessFlags := 2, nameIndex := 11, descriptorIndex := 12, attributes := #[] }, { accessFlags := 2, nameIndex := 15, descriptorIndex := 16, attributes := #[] }, { accessFlags := 2, nameIndex := 57, descriptorIndex := 58, attributes := #[] }, { accessFlags := 2, nameIndex := 53, descriptorIndex := 54, attributes := #[] }])
  fields := #[{ name := "KEPT", type := .int, accessFlags := 26, slot := 0, constantValue := 0 }, { name := "text", type := (.object "java/lang/String"), accessFlags := 2, slot := 0, constantValue := 0 }, { name := "set", type := (.object "com/example/nav_by_schema/navbyschema/regex/CodeUnitSet"), accessFlags := 2, slot := 1, constantValue := 0 }, { name := "members", type := (.array .long), accessFlags := 2, slot := 2, constantValue := 0 }, { name := "next", type := (.array .int), accessFlags := 2, slot := 3, constantValue := 0 }, { name := "touched", type := .int, accessFlags := 2, slot := 4, constantValue := 0 }, { name := "unitsRead", type := .long, accessFlags := 2, slot := 5, constantValue := 0 }]
  methods := #[k15m0, k15m1, k15m2, k15m3, k15m4, k15m5]
  instanceTypes := #[(.object "java/lang/String"), (.object "com/example/nav_by_schema/navbyschema/regex/CodeUnitSet"), (.array .long), (.array .int), .int, .long]
  staticTypes := #[.int]
  resolved := Array.replicate 100 none
  statics := none }

def pool16 : Array CpInfo := pool [(1, .class_ 2), (0, u "java/lang/String"), (1, .class_ 6), (1, u "java/lang/Object"), (0, u "<init>"), (0, u "()V"), (0, .methodref 1 10), (0, .nameAndType 11 12), (0, u "checkIndex"), (0, u "(II)V"), (1, .class_ 16), (1, u "java/lang/StringLatin1"), (36, u "([BI)C"), (67, u "$assertionsDisabled"), (0, u "Z"), (98, .class_ 223), (1, u "java/lang/StringLatin1$LinesSpliterator"), (28, u "charAt"), (137, .class_ 391), (0, u "java/lang/StringLatin1$CharsSpliterator")] 3

def k16m0 : Method := { name := "<init>", desc := "()V", sig := { parameters := [], returnType := none }, accessFlags := 0, code := none }
def k16c1 : Code := { maxStack := 2, maxLocals := 2, code := jdk_43_method_2_code, exceptionTable := #[], attributes := #[] }
def k16m1 : Method := { name := "charAt", desc := "([BI)C", sig := { parameters := [(.array .byte), .int], returnType := some .char }, accessFlags := 9, code := some k16c1 }
/-- java/lang/StringLatin1 -/
def k16 : Class := { plain "java/lang/StringLatin1" (some 0) with
  accessFlags := 48
  interfaces := #[]
  cf := some (fileOf pool16 14 #[.nestMembers #[390, 221]] #[{ accessFlags := 0, nameIndex := 7, descriptorIndex := 8, attributes := #[] }, { accessFlags := 9, nameIndex := 252, descriptorIndex := 53, attributes := #[] }] 48 4 #[] #[{ accessFlags := 4120, nameIndex := 121, descriptorIndex := 122, attributes := #[] }])
  fields := #[{ name := "$assertionsDisabled", type := .boolean, accessFlags := 4120, slot := 0, constantValue := 0 }]
  methods := #[k16m0, k16m1]
  instanceTypes := #[]
  staticTypes := #[.boolean]
  resolved := Array.replicate 395 none
  statics := none }

def pool17 : Array CpInfo := pool [(2, .class_ 4), (1, u "java/lang/Object"), (0, u "<init>"), (0, u "()V"), (17, .class_ 26), (1, u "jdk/internal/util/Preconditions"), (6, u "checkIndex"), (21, .class_ 56), (0, u "jdk/internal/util/Preconditions$4"), (57, .class_ 115), (0, u "jdk/internal/util/Preconditions$1"), (7, u "SIOOBE_FORMATTER"), (0, u "Ljava/util/function/BiFunction;"), (0, .class_ 126), (0, u "jdk/internal/util/Preconditions$2"), (3, u "AIOOBE_FORMATTER"), (0, .class_ 132), (0, u "jdk/internal/util/Preconditions$3"), (3, u "IOOBE_FORMATTER"), (41, u "(IILjava/util/function/BiFunction;)I")] 15

def k17m0 : Method := { name := "<init>", desc := "()V", sig := { parameters := [], returnType := none }, accessFlags := 1, code := none }
def k17c1 : Code := { maxStack := 3, maxLocals := 3, code := jdk_41_method_11_code, exceptionTable := #[], attributes := #[] }
def k17m1 : Method := { name := "checkIndex", desc := "(IILjava/util/function/BiFunction;)I", sig := { parameters := [.int, .int, (.object "java/util/function/BiFunction")], returnType := some .int }, accessFlags := 9, code := some k17c1 }
/-- jdk/internal/util/Preconditions -/
def k17 : Class := { plain "jdk/internal/util/Preconditions" (some 0) with
  accessFlags := 33
  interfaces := #[]
  cf := some (fileOf pool17 24 #[.nestMembers #[55, 131, 125, 114]] #[{ accessFlags := 1, nameIndex := 5, descriptorIndex := 6, attributes := #[] }, { accessFlags := 9, nameIndex := 33, descriptorIndex := 178, attributes := #[] }] 33 2 #[] #[{ accessFlags := 25, nameIndex := 123, descriptorIndex := 124, attributes := #[] }, { accessFlags := 25, nameIndex := 130, descriptorIndex := 124, attributes := #[] }, { accessFlags := 25, nameIndex := 136, descriptorIndex := 124, attributes := #[] }])
  fields := #[{ name := "SIOOBE_FORMATTER", type := (.object "java/util/function/BiFunction"), accessFlags := 25, slot := 0, constantValue := 0 }, { name := "AIOOBE_FORMATTER", type := (.object "java/util/function/BiFunction"), accessFlags := 25, slot := 1, constantValue := 0 }, { name := "IOOBE_FORMATTER", type := (.object "java/util/function/BiFunction"), accessFlags := 25, slot := 2, constantValue := 0 }]
  methods := #[k17m0, k17m1]
  instanceTypes := #[]
  staticTypes := #[(.object "java/util/function/BiFunction"), (.object "java/util/function/BiFunction"), (.object "java/util/function/BiFunction")]
  resolved := Array.replicate 194 none
  statics := some 1 }

def pool18 : Array CpInfo := pool [(2, .class_ 4), (1, u "java/lang/Object"), (0, u "<init>"), (0, u "()V"), (1, .class_ 10), (1, u "java/lang/Number"), (2, .class_ 14), (0, u "java/io/Serializable"), (0, u "serialVersionUID"), (0, u "J")] 20

def k18m0 : Method := { name := "<init>", desc := "()V", sig := { parameters := [], returnType := none }, accessFlags := 1, code := none }
/-- java/lang/Number -/
def k18 : Class := { plain "java/lang/Number" (some 0) with
  accessFlags := 1057
  interfaces := #[2]
  cf := some (fileOf pool18 8 #[] #[{ accessFlags := 1, nameIndex := 5, descriptorIndex := 6, attributes := #[] }] 1057 2 #[13] #[{ accessFlags := 26, nameIndex := 15, descriptorIndex := 16, attributes := #[] }])
  fields := #[{ name := "serialVersionUID", type := .long, accessFlags := 26, slot := 0, constantValue := 0 }]
  methods := #[k18m0]
  instanceTypes := #[]
  staticTypes := #[.long]
  resolved := Array.replicate 37 none
  statics := none }

def pool19 : Array CpInfo := pool [(1, .class_ 2), (0, u "java/lang/Long"), (15, .class_ 20), (1, u "java/lang/Integer"), (80, u "(J)I"), (133, .class_ 237), (1, u "java/lang/Long$LongCache"), (33, .class_ 272), (0, u "java/lang/Number"), (2, u "value"), (0, u "J"), (33, u "(I)I"), (0, .methodref 18 312), (0, .nameAndType 313 310), (0, u "numberOfTrailingZeros"), (47, u "TYPE"), (0, u "Ljava/lang/Class;"), (0, .class_ 364), (0, u "java/lang/Comparable"), (0, .class_ 366), (0, u "java/lang/constant/Constable"), (0, .class_ 368), (0, u "java/lang/constant/ConstantDesc"), (0, u "MIN_VALUE"), (1, u "MAX_VALUE"), (4, u "SIZE"), (0, u "I"), (1, u "BYTES"), (1, u "serialVersionUID")] 142

def k19c0 : Code := { maxStack := 4, maxLocals := 3, code := jdk_35_method_49_code, exceptionTable := #[], attributes := #[] }
def k19m0 : Method := { name := "numberOfTrailingZeros", desc := "(J)I", sig := { parameters := [.long], returnType := some .int }, accessFlags := 9, code := some k19c0 }
/-- java/lang/Long -/
def k19 : Class := { plain "java/lang/Long" (some 18) with
  accessFlags := 49
  interfaces := #[3, 5, 6]
  cf := some (fileOf pool19 1 #[.nestMembers #[235]] #[{ accessFlags := 9, nameIndex := 313, descriptorIndex := 101, attributes := #[] }] 49 271 #[363, 365, 367] #[{ accessFlags := 25, nameIndex := 369, descriptorIndex := 276, attributes := #[] }, { accessFlags := 25, nameIndex := 371, descriptorIndex := 276, attributes := #[] }, { accessFlags := 25, nameIndex := 361, descriptorIndex := 362, attributes := #[] }, { accessFlags := 18, nameIndex := 275, descriptorIndex := 276, attributes := #[] }, { accessFlags := 25, nameIndex := 376, descriptorIndex := 377, attributes := #[] }, { accessFlags := 25, nameIndex := 379, descriptorIndex := 377, attributes := #[] }, { accessFlags := 26, nameIndex := 381, descriptorIndex := 276, attributes := #[] }])
  fields := #[{ name := "MIN_VALUE", type := .long, accessFlags := 25, slot := 0, constantValue := 0 }, { name := "MAX_VALUE", type := .long, accessFlags := 25, slot := 1, constantValue := 0 }, { name := "TYPE", type := (.object "java/lang/Class"), accessFlags := 25, slot := 2, constantValue := 0 }, { name := "value", type := .long, accessFlags := 18, slot := 0, constantValue := 0 }, { name := "SIZE", type := .int, accessFlags := 25, slot := 3, constantValue := 0 }, { name := "BYTES", type := .int, accessFlags := 25, slot := 4, constantValue := 0 }, { name := "serialVersionUID", type := .long, accessFlags := 26, slot := 5, constantValue := 0 }]
  methods := #[k19m0]
  instanceTypes := #[.long]
  staticTypes := #[.long, .long, (.object "java/lang/Class"), .int, .int, .long]
  resolved := Array.replicate 524 none
  statics := none }

def pool20 : Array CpInfo := pool [(1, .class_ 2), (0, u "java/lang/Integer"), (16, u "digits"), (0, u "[C"), (33, u "(I)I"), (30, u "DigitOnes"), (0, u "[B"), (2, u "DigitTens"), (99, .class_ 190), (0, u "java/lang/Integer$IntegerCache"), (3, u "I"), (8, .class_ 204), (0, u "java/lang/Number"), (2, u "value"), (56, .integer 65536), (37, u "TYPE"), (0, u "Ljava/lang/Class;"), (0, .class_ 305), (0, u "java/lang/Comparable"), (0, .class_ 307), (0, u "java/lang/constant/Constable"), (0, .class_ 309), (0, u "java/lang/constant/ConstantDesc"), (0, u "MIN_VALUE"), (1, u "MAX_VALUE"), (3, u "SIZE"), (1, u "BYTES"), (1, u "serialVersionUID"), (0, u "J"), (84, u "numberOfTrailingZeros")] 46

def k20c0 : Code := { maxStack := 3, maxLocals := 2, code := jdk_33_method_48_code, exceptionTable := #[], attributes := #[] }
def k20m0 : Method := { name := "numberOfTrailingZeros", desc := "(I)I", sig := { parameters := [.int], returnType := some .int }, accessFlags := 9, code := some k20c0 }
/-- java/lang/Integer -/
def k20 : Class := { plain "java/lang/Integer" (some 18) with
  accessFlags := 49
  interfaces := #[3, 5, 6]
  cf := some (fileOf pool20 1 #[.nestMembers #[189]] #[{ accessFlags := 9, nameIndex := 406, descriptorIndex := 54, attributes := #[] }] 49 203 #[304, 306, 308] #[{ accessFlags := 25, nameIndex := 310, descriptorIndex := 194, attributes := #[] }, { accessFlags := 25, nameIndex := 312, descriptorIndex := 194, attributes := #[] }, { accessFlags := 25, nameIndex := 302, descriptorIndex := 303, attributes := #[] }, { accessFlags := 24, nameIndex := 19, descriptorIndex := 20, attributes := #[] }, { accessFlags := 24, nameIndex := 89, descriptorIndex := 86, attributes := #[] }, { accessFlags := 24, nameIndex := 85, descriptorIndex := 86, attributes := #[] }, { accessFlags := 18, nameIndex := 207, descriptorIndex := 194, attributes := #[] }, { accessFlags := 25, nameIndex := 316, descriptorIndex := 194, attributes := #[] }, { accessFlags := 25, nameIndex := 318, descriptorIndex := 194, attributes := #[] }, { accessFlags := 26, nameIndex := 320, descriptorIndex := 321, attributes := #[] }])
  fields := #[{ name := "MIN_VALUE", type := .int, accessFlags := 25, slot := 0, constantValue := 0 }, { name := "MAX_VALUE", type := .int, accessFlags := 25, slot := 1, constantValue := 0 }, { name := "TYPE", type := (.object "java/lang/Class"), accessFlags := 25, slot := 2, constantValue := 0 }, { name := "digits", type := (.array .char), accessFlags := 24, slot := 3, constantValue := 0 }, { name := "DigitTens", type := (.array .byte), accessFlags := 24, slot := 4, constantValue := 0 }, { name := "DigitOnes", type := (.array .byte), accessFlags := 24, slot := 5, constantValue := 0 }, { name := "value", type := .int, accessFlags := 18, slot := 0, constantValue := 0 }, { name := "SIZE", type := .int, accessFlags := 25, slot := 6, constantValue := 0 }, { name := "BYTES", type := .int, accessFlags := 25, slot := 7, constantValue := 0 }, { name := "serialVersionUID", type := .long, accessFlags := 26, slot := 8, constantValue := 0 }]
  methods := #[k20m0]
  instanceTypes := #[.int]
  staticTypes := #[.int, .int, (.object "java/lang/Class"), (.array .char), (.array .byte), (.array .byte), .int, .int, .long]
  resolved := Array.replicate 453 none
  statics := none }

def pool21 : Array CpInfo := pool [(9, u "<init>"), (6, .class_ 18), (1, u "java/lang/Object"), (0, u "()V"), (1, .class_ 23), (1, u "jdk/internal/util/ArraysSupport"), (0, u "LOG2_ARRAY_LONG_INDEX_SCALE"), (0, u "I"), (2, u "U"), (0, u "Ljdk/internal/misc/Unsafe;"), (8, u "BIG_ENDIAN"), (0, u "Z"), (8, u "LOG2_BYTE_BIT_SIZE"), (4, u "LOG2_ARRAY_INT_INDEX_SCALE"), (54, u "JLA"), (0, u "Ljdk/internal/access/JavaLangAccess;"), (11, u "LOG2_ARRAY_BOOLEAN_INDEX_SCALE"), (9, u "LOG2_ARRAY_BYTE_INDEX_SCALE"), (5, u "LOG2_ARRAY_CHAR_INDEX_SCALE"), (5, u "LOG2_ARRAY_SHORT_INDEX_SCALE"), (18, u "LOG2_ARRAY_FLOAT_INDEX_SCALE"), (24, u "LOG2_ARRAY_DOUBLE_INDEX_SCALE"), (89, u "T_BOOLEAN"), (2, u "T_CHAR"), (1, u "T_FLOAT"), (1, u "T_DOUBLE"), (1, u "T_BYTE"), (1, u "T_SHORT"), (1, u "T_INT"), (1, u "T_LONG"), (1, u "SOFT_MAX_ARRAY_LENGTH")] 83

def k21m0 : Method := { name := "<init>", desc := "()V", sig := { parameters := [], returnType := none }, accessFlags := 2, code := none }
/-- jdk/internal/util/ArraysSupport -/
def k21 : Class := { plain "jdk/internal/util/ArraysSupport" (some 0) with
  accessFlags := 33
  interfaces := #[]
  cf := some (fileOf pool21 21 #[] #[{ accessFlags := 2, nameIndex := 9, descriptorIndex := 19, attributes := #[] }] 33 16 #[] #[{ accessFlags := 24, nameIndex := 28, descriptorIndex := 29, attributes := #[] }, { accessFlags := 26, nameIndex := 38, descriptorIndex := 39, attributes := #[] }, { accessFlags := 25, nameIndex := 121, descriptorIndex := 25, attributes := #[] }, { accessFlags := 25, nameIndex := 131, descriptorIndex := 25, attributes := #[] }, { accessFlags := 25, nameIndex := 137, descriptorIndex := 25, attributes := #[] }, { accessFlags := 25, nameIndex := 143, descriptorIndex := 25, attributes := #[] }, { accessFlags := 25, nameIndex := 53, descriptorIndex := 25, attributes := #[] }, { accessFlags := 25, nameIndex := 24, descriptorIndex := 25, attributes := #[] }, { accessFlags := 25, nameIndex := 162, descriptorIndex := 25, attributes := #[] }, { accessFlags := 25, nameIndex := 187, descriptorIndex := 25, attributes := #[] }, { accessFlags := 26, nameIndex := 48, descriptorIndex := 25, attributes := #[] }, { accessFlags := 25, nameIndex := 277, descriptorIndex := 25, attributes := #[] }, { accessFlags := 25, nameIndex := 280, descriptorIndex := 25, attributes := #[] }, { accessFlags := 25, nameIndex := 282, descriptorIndex := 25, attributes := #[] }, { accessFlags := 25, nameIndex := 284, descriptorIndex := 25, attributes := #[] }, { accessFlags := 25, nameIndex := 286, descriptorIndex := 25, attributes := #[] }, { accessFlags := 25, nameIndex := 288, descriptorIndex := 25, attributes := #[] }, { accessFlags := 25, nameIndex := 290, descriptorIndex := 25, attributes := #[] }, { accessFlags := 25, nameIndex := 292, descriptorIndex := 25, attributes := #[] }, { accessFlags := 26, nameIndex := 108, descriptorIndex := 109, attributes := #[] }, { accessFlags := 25, nameIndex := 294, descriptorIndex := 25, attributes := #[] }])
  fields := #[{ name := "U", type := (.object "jdk/internal/misc/Unsafe"), accessFlags := 24, slot := 0, constantValue := 0 }, { name := "BIG_ENDIAN", type := .boolean, accessFlags := 26, slot := 1, constantValue := 0 }, { name := "LOG2_ARRAY_BOOLEAN_INDEX_SCALE", type := .int, accessFlags := 25, slot := 2, constantValue := 0 }, { name := "LOG2_ARRAY_BYTE_INDEX_SCALE", type := .int, accessFlags := 25, slot := 3, constantValue := 0 }, { name := "LOG2_ARRAY_CHAR_INDEX_SCALE", type := .int, accessFlags := 25, slot := 4, constantValue := 0 }, { name := "LOG2_ARRAY_SHORT_INDEX_SCALE", type := .int, accessFlags := 25, slot := 5, constantValue := 0 }, { name := "LOG2_ARRAY_INT_INDEX_SCALE", type := .int, accessFlags := 25, slot := 6, constantValue := 0 }, { name := "LOG2_ARRAY_LONG_INDEX_SCALE", type := .int, accessFlags := 25, slot := 7, constantValue := 0 }, { name := "LOG2_ARRAY_FLOAT_INDEX_SCALE", type := .int, accessFlags := 25, slot := 8, constantValue := 0 }, { name := "LOG2_ARRAY_DOUBLE_INDEX_SCALE", type := .int, accessFlags := 25, slot := 9, constantValue := 0 }, { name := "LOG2_BYTE_BIT_SIZE", type := .int, accessFlags := 26, slot := 10, constantValue := 0 }, { name := "T_BOOLEAN", type := .int, accessFlags := 25, slot := 11, constantValue := 0 }, { name := "T_CHAR", type := .int, accessFlags := 25, slot := 12, constantValue := 0 }, { name := "T_FLOAT", type := .int, accessFlags := 25, slot := 13, constantValue := 0 }, { name := "T_DOUBLE", type := .int, accessFlags := 25, slot := 14, constantValue := 0 }, { name := "T_BYTE", type := .int, accessFlags := 25, slot := 15, constantValue := 0 }, { name := "T_SHORT", type := .int, accessFlags := 25, slot := 16, constantValue := 0 }, { name := "T_INT", type := .int, accessFlags := 25, slot := 17, constantValue := 0 }, { name := "T_LONG", type := .int, accessFlags := 25, slot := 18, constantValue := 0 }, { name := "JLA", type := (.object "jdk/internal/access/JavaLangAccess"), accessFlags := 26, slot := 19, constantValue := 0 }, { name := "SOFT_MAX_ARRAY_LENGTH", type := .int, accessFlags := 25, slot := 20, constantValue := 0 }]
  methods := #[k21m0]
  instanceTypes := #[]
  staticTypes := #[(.object "jdk/internal/misc/Unsafe"), .boolean, .int, .int, .int, .int, .int, .int, .int, .int, .int, .int, .int, .int, .int, .int, .int, .int, .int, (.object "jdk/internal/access/JavaLangAccess"), .int]
  resolved := Array.replicate 378 none
  statics := none }

/-- the primitive byte -/
def k22 : Class := { plain "byte" none with kind := .primitive 'B', accessFlags := 0x411 }
/-- [B -/
def k23 : Class := { plain "[B" (some 0) with kind := .array 22 .byte, interfaces := #[14, 2], accessFlags := 1041 }

/-- the primitive char -/
def k24 : Class := { plain "char" none with kind := .primitive 'C', accessFlags := 0x411 }
/-- [C -/
def k25 : Class := { plain "[C" (some 0) with kind := .array 24 .char, interfaces := #[14, 2], accessFlags := 1041 }

/-- the primitive int -/
def k26 : Class := { plain "int" none with kind := .primitive 'I', accessFlags := 0x411 }
/-- [I -/
def k27 : Class := { plain "[I" (some 0) with kind := .array 26 .int, interfaces := #[14, 2], accessFlags := 1041 }

/-- the primitive long -/
def k28 : Class := { plain "long" none with kind := .primitive 'J', accessFlags := 0x411 }
/-- [J -/
def k29 : Class := { plain "[J" (some 0) with kind := .array 28 .long, interfaces := #[14, 2], accessFlags := 1041 }

def heap : Heap := #[{ cls := 7, slots := #[.long 0, .int 1, .null, .int 0, .null, .int 0, .int 0], vm := .statics 7 },
  { cls := 17, slots := #[.null, .null, .null], vm := .statics 17 }]
def classes : Array Class := #[k0, k1, k2, k3, k4, k5, k6, k7, k8, k9, k10, k11, k12, k13, k14, k15, k16, k17, k18, k19, k20, k21, k22, k23, k24, k25, k26, k27, k28, k29]
def interned : List (Array UInt16 × Addr) := []
def slotsUsed : Nat := 10
def theMethod : MethodId := ⟨1, 2⟩
def args0 : Array Value := #[.int 5, .int 3, .int 4, .int 5]
def aboutOver (below : List Frame) : State where
  vm := { classes := classes, interned := interned.toArray }
  heap := heap
  slotsUsed := slotsUsed
  threads := #[{ frames := .invoking theMethod args0 :: below }]
def below0 : List Frame := [.native { method := ⟨0, 0⟩, args := #[] }]
def about1 : State := aboutOver below0
def p0 : Program := .bare "" "" ""
def e0 : Env := launch0.env 0 0 0
theorem w_frames : about1.frames = Frame.invoking theMethod args0 :: below0 := rfl
set_option maxRecDepth 65536 in
theorem w_args : argsFit about1.vm theMethod args0 = true := by decide +kernel
set_option maxRecDepth 65536 in
theorem w_heap : heapFits about1 = true := by decide +kernel
set_option maxRecDepth 65536 in
theorem w_runnable : about1.curStatus? = some .runnable := by decide +kernel
set_option maxRecDepth 65536 in
theorem w_alone : about1.alone = true := by decide +kernel
set_option maxRecDepth 65536 in
theorem w_named : about1.methodNamed? x = some theMethod := by decide +kernel
set_option maxRecDepth 65536 in
theorem w_hears : about1.hears theMethod below0 = true := by decide +kernel
set_option maxRecDepth 65536 in
theorem w_ripe : about1.ripe theMethod args0 below0 = true := by decide +kernel
theorem w_running : about1.status = .running := rfl
set_option maxRecDepth 65536 in
theorem w_room : about1.hasRoom e0.platform room_1 = true :=
  launch0.hasRoom_least _ room_1 (by decide +kernel) (by decide +kernel) (by decide +kernel) (by decide +kernel) (by decide +kernel) (by decide +kernel)
theorem allAtoms_all (ts : List Jvm.Cond) (a : Array Jvm.Value) (st : Jvm.State) : (allAtoms ts).before a st = ts.all (fun c => c.before a st) := by
  induction ts with
  | nil => rfl
  | cons c t ih =>
    show (Jvm.Cond.and c (allAtoms t)).before a st = _
    rw [Jvm.Cond.before_and, ih, List.all_cons]
def words1 : List Jvm.Cond := Jvm.Cond.code x code maxLocals ret :: tables_1
/-- a 'code' word, met by the world's own term for the bytes: nothing is compared byte by byte -/
theorem code_word {y : MethodName} {bytes : ByteArray} {mx : Nat} {rt : Option FieldType} {a : Array Value} {s : State} {m : MethodId} {meth : Method} {c : Code} (h1 : s.methodNamed? y = some m) (h2 : s.vm.method? m = some meth) (h3 : meth.code = some c) (h4 : c.code = bytes)
    (h5 : (c.maxLocals == mx && c.exceptionTable.isEmpty && decide (c.maxStack ≤ mostOperands) && decide (meth.sig.returnType = rt) && !meth.locks && decide (parseMethodDescriptor y.desc = some meth.sig)) = true) : (Jvm.Cond.code y bytes mx rt).before a s = true := by
  simp only [Bool.and_eq_true, beq_iff_eq, Bool.not_eq_true', decide_eq_true_eq] at h5
  obtain ⟨⟨⟨⟨⟨g1, g2⟩, g3⟩, g4⟩, g5⟩, g6⟩ := h5
  simp [Cond.before, Cond.holds, Cond.value, h1, h2, h3, h4, g1, g2, g3, g4, g5, g6]
def isCode : Jvm.Cond → Bool
  | .code _ _ _ _ => true
  | _ => false
theorem all_split {L : List Jvm.Cond} {P : Jvm.Cond → Bool} (h1 : L.all (fun c => isCode c || P c) = true) (h2 : ∀ c ∈ L.filter isCode, P c = true) : L.all P = true := by
  refine List.all_eq_true.mpr fun c hc => ?_
  have h := List.all_eq_true.mp h1 c hc
  rcases Bool.eq_false_or_eq_true (isCode c) with hi | hi
  · exact h2 c (List.mem_filter.mpr ⟨hc, hi⟩)
  · simpa [hi] using h
set_option maxRecDepth 65536 in
theorem w_c0 : (Jvm.Cond.code x code maxLocals ret).before args0 about1 = true := code_word (m := ⟨1, 2⟩) (meth := k1m2) (c := k1c2) (by decide +kernel) rfl rfl rfl (by decide +kernel)
set_option maxRecDepth 65536 in
theorem w_c1 : (Jvm.Cond.code ({ cls := "java/lang/String", name := "<init>", desc := "([C)V" } : Jvm.MethodName) jdk_42_method_3_code (2 : Nat) (Option.none : Option Jvm.ClassFile.FieldType)).before args0 about1 = true := code_word (m := ⟨7, 1⟩) (meth := k7m1) (c := k7c1) (by decide +kernel) rfl rfl rfl (by decide +kernel)
set_option maxRecDepth 65536 in
theorem w_c2 : (Jvm.Cond.code ({ cls := "java/lang/String", name := "<init>", desc := "([CIILjava/lang/Void;)V" } : Jvm.MethodName) jdk_42_method_149_code (6 : Nat) (Option.none : Option Jvm.ClassFile.FieldType)).before args0 about1 = true := code_word (m := ⟨7, 4⟩) (meth := k7m4) (c := k7c4) (by decide +kernel) rfl rfl rfl (by decide +kernel)
set_option maxRecDepth 65536 in
theorem w_c3 : (Jvm.Cond.code ({ cls := "java/lang/Object", name := "<init>", desc := "()V" } : Jvm.MethodName) object_method_1_code (1 : Nat) (Option.none : Option Jvm.ClassFile.FieldType)).before args0 about1 = true := code_word (m := ⟨0, 0⟩) (meth := k0m0) (c := k0c0) (by decide +kernel) rfl rfl rfl (by decide +kernel)
set_option maxRecDepth 65536 in
theorem w_c4 : (Jvm.Cond.code ({ cls := "java/lang/StringUTF16", name := "compress", desc := "([CII)[B" } : Jvm.MethodName) jdk_52_method_16_code (6 : Nat) (Option.some (Jvm.ClassFile.FieldType.array Jvm.ClassFile.FieldType.byte))).before args0 about1 = true := code_word (m := ⟨8, 2⟩) (meth := k8m2) (c := k8c2) (by decide +kernel) rfl rfl rfl (by decide +kernel)
set_option maxRecDepth 65536 in
theorem w_c5 : (Jvm.Cond.code ({ cls := "java/lang/StringUTF16", name := "compress", desc := "([CI[BII)I" } : Jvm.MethodName) jdk_52_method_21_code (7 : Nat) (Option.some Jvm.ClassFile.FieldType.int)).before args0 about1 = true := code_word (m := ⟨8, 3⟩) (meth := k8m3) (c := k8c3) (by decide +kernel) rfl rfl rfl (by decide +kernel)
set_option maxRecDepth 65536 in
theorem w_c6 : (Jvm.Cond.code ({ cls := "java/lang/StringUTF16", name := "coderFromArrayLen", desc := "([BI)B" } : Jvm.MethodName) jdk_52_method_15_code (2 : Nat) (Option.some Jvm.ClassFile.FieldType.byte)).before args0 about1 = true := code_word (m := ⟨8, 1⟩) (meth := k8m1) (c := k8c1) (by decide +kernel) rfl rfl rfl (by decide +kernel)
set_option maxRecDepth 65536 in
theorem w_c7 : (Jvm.Cond.code ({ cls := "java/lang/Math", name := "min", desc := "(II)I" } : Jvm.MethodName) jdk_29_method_69_code (2 : Nat) (Option.some Jvm.ClassFile.FieldType.int)).before args0 about1 = true := code_word (m := ⟨9, 2⟩) (meth := k9m2) (c := k9c2) (by decide +kernel) rfl rfl rfl (by decide +kernel)
set_option maxRecDepth 65536 in
theorem w_c8 : (Jvm.Cond.code ({ cls := "java/lang/Math", name := "max", desc := "(II)I" } : Jvm.MethodName) jdk_29_method_65_code (2 : Nat) (Option.some Jvm.ClassFile.FieldType.int)).before args0 about1 = true := code_word (m := ⟨9, 1⟩) (meth := k9m1) (c := k9c1) (by decide +kernel) rfl rfl rfl (by decide +kernel)
set_option maxRecDepth 65536 in
theorem w_c9 : (Jvm.Cond.code ({ cls := "com/example/nav_by_schema/navbyschema/regex/UnitRunsReleasePinLaw", name := "in", desc := "(III)Z" } : Jvm.MethodName) method_2_code (3 : Nat) (Option.some Jvm.ClassFile.FieldType.boolean)).before args0 about1 = true := code_word (m := ⟨1, 1⟩) (meth := k1m1) (c := k1c1) (by decide +kernel) rfl rfl rfl (by decide +kernel)
set_option maxRecDepth 65536 in
theorem w_c10 : (Jvm.Cond.code ({ cls := "com/example/nav_by_schema/navbyschema/regex/CodeUnitSet", name := "range", desc := "(CC)Lcom/example/nav_by_schema/navbyschema/regex/CodeUnitSet;" } : Jvm.MethodName) prog_7_method_2_code (2 : Nat) (Option.some (Jvm.ClassFile.FieldType.object "com/example/nav_by_schema/navbyschema/regex/CodeUnitSet"))).before args0 about1 = true := code_word (m := ⟨10, 1⟩) (meth := k10m1) (c := k10c1) (by decide +kernel) rfl rfl rfl (by decide +kernel)
set_option maxRecDepth 65536 in
theorem w_c11 : (Jvm.Cond.code ({ cls := "com/example/nav_by_schema/navbyschema/regex/CodeUnitSet$Builder", name := "<init>", desc := "()V" } : Jvm.MethodName) prog_8_method_1_code (1 : Nat) (Option.none : Option Jvm.ClassFile.FieldType)).before args0 about1 = true := code_word (m := ⟨11, 0⟩) (meth := k11m0) (c := k11c0) (by decide +kernel) rfl rfl rfl (by decide +kernel)
set_option maxRecDepth 65536 in
theorem w_c12 : (Jvm.Cond.code ({ cls := "com/example/nav_by_schema/navbyschema/regex/CodeUnitSet$Builder", name := "add", desc := "(CC)Lcom/example/nav_by_schema/navbyschema/regex/CodeUnitSet$Builder;" } : Jvm.MethodName) prog_8_method_2_code (3 : Nat) (Option.some (Jvm.ClassFile.FieldType.object "com/example/nav_by_schema/navbyschema/regex/CodeUnitSet$Builder"))).before args0 about1 = true := code_word (m := ⟨11, 1⟩) (meth := k11m1) (c := k11c1) (by decide +kernel) rfl rfl rfl (by decide +kernel)
set_option maxRecDepth 65536 in
theorem w_c13 : (Jvm.Cond.code ({ cls := "com/example/nav_by_schema/navbyschema/regex/CodeUnitSet$Builder", name := "build", desc := "(Z)Lcom/example/nav_by_schema/navbyschema/regex/CodeUnitSet;" } : Jvm.MethodName) prog_8_method_4_code (12 : Nat) (Option.some (Jvm.ClassFile.FieldType.object "com/example/nav_by_schema/navbyschema/regex/CodeUnitSet"))).before args0 about1 = true := code_word (m := ⟨11, 2⟩) (meth := k11m2) (c := k11c2) (by decide +kernel) rfl rfl rfl (by decide +kernel)
set_option maxRecDepth 65536 in
theorem w_c14 : (Jvm.Cond.code ({ cls := "java/util/Arrays", name := "sort", desc := "([J)V" } : Jvm.MethodName) jdk_65_method_4_code (1 : Nat) (Option.none : Option Jvm.ClassFile.FieldType)).before args0 about1 = true := code_word (m := ⟨12, 1⟩) (meth := k12m1) (c := k12c1) (by decide +kernel) rfl rfl rfl (by decide +kernel)
set_option maxRecDepth 65536 in
theorem w_c15 : (Jvm.Cond.code ({ cls := "java/util/DualPivotQuicksort", name := "sort", desc := "([JIII)V" } : Jvm.MethodName) jdk_2529_method_12_code (7 : Nat) (Option.none : Option Jvm.ClassFile.FieldType)).before args0 about1 = true := code_word (m := ⟨13, 1⟩) (meth := k13m1) (c := k13c1) (by decide +kernel) rfl rfl rfl (by decide +kernel)
set_option maxRecDepth 65536 in
theorem w_c16 : (Jvm.Cond.code ({ cls := "java/util/DualPivotQuicksort", name := "sort", desc := "(Ljava/util/DualPivotQuicksort$Sorter;[JIII)V" } : Jvm.MethodName) jdk_2529_method_13_code (25 : Nat) (Option.none : Option Jvm.ClassFile.FieldType)).before args0 about1 = true := code_word (m := ⟨13, 2⟩) (meth := k13m2) (c := k13c2) (by decide +kernel) rfl rfl rfl (by decide +kernel)
set_option maxRecDepth 65536 in
theorem w_c17 : (Jvm.Cond.code ({ cls := "java/util/DualPivotQuicksort", name := "insertionSort", desc := "([JII)V" } : Jvm.MethodName) jdk_2529_method_15_code (7 : Nat) (Option.none : Option Jvm.ClassFile.FieldType)).before args0 about1 = true := code_word (m := ⟨13, 3⟩) (meth := k13m3) (c := k13c3) (by decide +kernel) rfl rfl rfl (by decide +kernel)
set_option maxRecDepth 65536 in
theorem w_c18 : (Jvm.Cond.code ({ cls := "java/util/Arrays", name := "copyOf", desc := "([II)[I" } : Jvm.MethodName) jdk_65_method_123_code (3 : Nat) (Option.some (Jvm.ClassFile.FieldType.array Jvm.ClassFile.FieldType.int))).before args0 about1 = true := code_word (m := ⟨12, 4⟩) (meth := k12m4) (c := k12c4) (by decide +kernel) rfl rfl rfl (by decide +kernel)
set_option maxRecDepth 65536 in
theorem w_c19 : (Jvm.Cond.code ({ cls := "com/example/nav_by_schema/navbyschema/regex/CodeUnitSet", name := "<init>", desc := "([I)V" } : Jvm.MethodName) prog_7_method_1_code (8 : Nat) (Option.none : Option Jvm.ClassFile.FieldType)).before args0 about1 = true := code_word (m := ⟨10, 0⟩) (meth := k10m0) (c := k10c0) (by decide +kernel) rfl rfl rfl (by decide +kernel)
set_option maxRecDepth 65536 in
theorem w_c20 : (Jvm.Cond.code ({ cls := "com/example/nav_by_schema/navbyschema/regex/UnitRuns", name := "<init>", desc := "()V" } : Jvm.MethodName) prog_27_method_1_code (1 : Nat) (Option.none : Option Jvm.ClassFile.FieldType)).before args0 about1 = true := code_word (m := ⟨15, 0⟩) (meth := k15m0) (c := k15c0) (by decide +kernel) rfl rfl rfl (by decide +kernel)
set_option maxRecDepth 65536 in
theorem w_c21 : (Jvm.Cond.code ({ cls := "com/example/nav_by_schema/navbyschema/regex/UnitRuns", name := "end", desc := "(Ljava/lang/String;Lcom/example/nav_by_schema/navbyschema/regex/CodeUnitSet;II)I" } : Jvm.MethodName) prog_27_method_2_code (12 : Nat) (Option.some Jvm.ClassFile.FieldType.int)).before args0 about1 = true := code_word (m := ⟨15, 1⟩) (meth := k15m1) (c := k15c1) (by decide +kernel) rfl rfl rfl (by decide +kernel)
set_option maxRecDepth 65536 in
theorem w_c22 : (Jvm.Cond.code ({ cls := "com/example/nav_by_schema/navbyschema/regex/UnitRuns", name := "reset", desc := "(Ljava/lang/String;Lcom/example/nav_by_schema/navbyschema/regex/CodeUnitSet;)V" } : Jvm.MethodName) prog_27_method_5_code (4 : Nat) (Option.none : Option Jvm.ClassFile.FieldType)).before args0 about1 = true := code_word (m := ⟨15, 4⟩) (meth := k15m4) (c := k15c4) (by decide +kernel) rfl rfl rfl (by decide +kernel)
set_option maxRecDepth 65536 in
theorem w_c23 : (Jvm.Cond.code ({ cls := "java/lang/String", name := "length", desc := "()I" } : Jvm.MethodName) jdk_42_method_54_code (1 : Nat) (Option.some Jvm.ClassFile.FieldType.int)).before args0 about1 = true := code_word (m := ⟨7, 2⟩) (meth := k7m2) (c := k7c2) (by decide +kernel) rfl rfl rfl (by decide +kernel)
set_option maxRecDepth 65536 in
theorem w_c24 : (Jvm.Cond.code ({ cls := "java/lang/String", name := "coder", desc := "()B" } : Jvm.MethodName) jdk_42_method_152_code (1 : Nat) (Option.some Jvm.ClassFile.FieldType.byte)).before args0 about1 = true := code_word (m := ⟨7, 5⟩) (meth := k7m5) (c := k7c5) (by decide +kernel) rfl rfl rfl (by decide +kernel)
set_option maxRecDepth 65536 in
theorem w_c25 : (Jvm.Cond.code ({ cls := "com/example/nav_by_schema/navbyschema/regex/UnitRuns", name := "read", desc := "(I)V" } : Jvm.MethodName) prog_27_method_7_code (7 : Nat) (Option.none : Option Jvm.ClassFile.FieldType)).before args0 about1 = true := code_word (m := ⟨15, 5⟩) (meth := k15m5) (c := k15c5) (by decide +kernel) rfl rfl rfl (by decide +kernel)
set_option maxRecDepth 65536 in
theorem w_c26 : (Jvm.Cond.code ({ cls := "java/lang/String", name := "charAt", desc := "(I)C" } : Jvm.MethodName) jdk_42_method_56_code (2 : Nat) (Option.some Jvm.ClassFile.FieldType.char)).before args0 about1 = true := code_word (m := ⟨7, 3⟩) (meth := k7m3) (c := k7c3) (by decide +kernel) rfl rfl rfl (by decide +kernel)
set_option maxRecDepth 65536 in
theorem w_c27 : (Jvm.Cond.code ({ cls := "java/lang/String", name := "isLatin1", desc := "()Z" } : Jvm.MethodName) jdk_42_method_154_code (1 : Nat) (Option.some Jvm.ClassFile.FieldType.boolean)).before args0 about1 = true := code_word (m := ⟨7, 6⟩) (meth := k7m6) (c := k7c6) (by decide +kernel) rfl rfl rfl (by decide +kernel)
set_option maxRecDepth 65536 in
theorem w_c28 : (Jvm.Cond.code ({ cls := "java/lang/StringLatin1", name := "charAt", desc := "([BI)C" } : Jvm.MethodName) jdk_43_method_2_code (2 : Nat) (Option.some Jvm.ClassFile.FieldType.char)).before args0 about1 = true := code_word (m := ⟨16, 1⟩) (meth := k16m1) (c := k16c1) (by decide +kernel) rfl rfl rfl (by decide +kernel)
set_option maxRecDepth 65536 in
theorem w_c29 : (Jvm.Cond.code ({ cls := "java/lang/String", name := "checkIndex", desc := "(II)V" } : Jvm.MethodName) jdk_42_method_155_code (2 : Nat) (Option.none : Option Jvm.ClassFile.FieldType)).before args0 about1 = true := code_word (m := ⟨7, 7⟩) (meth := k7m7) (c := k7c7) (by decide +kernel) rfl rfl rfl (by decide +kernel)
set_option maxRecDepth 65536 in
theorem w_c30 : (Jvm.Cond.code ({ cls := "jdk/internal/util/Preconditions", name := "checkIndex", desc := "(IILjava/util/function/BiFunction;)I" } : Jvm.MethodName) jdk_41_method_11_code (3 : Nat) (Option.some Jvm.ClassFile.FieldType.int)).before args0 about1 = true := code_word (m := ⟨17, 1⟩) (meth := k17m1) (c := k17c1) (by decide +kernel) rfl rfl rfl (by decide +kernel)
set_option maxRecDepth 65536 in
theorem w_c31 : (Jvm.Cond.code ({ cls := "com/example/nav_by_schema/navbyschema/regex/CodeUnitSet", name := "contains", desc := "(C)Z" } : Jvm.MethodName) prog_7_method_4_code (6 : Nat) (Option.some Jvm.ClassFile.FieldType.boolean)).before args0 about1 = true := code_word (m := ⟨10, 2⟩) (meth := k10m2) (c := k10c2) (by decide +kernel) rfl rfl rfl (by decide +kernel)
set_option maxRecDepth 65536 in
theorem w_c32 : (Jvm.Cond.code ({ cls := "java/lang/Long", name := "numberOfTrailingZeros", desc := "(J)I" } : Jvm.MethodName) jdk_35_method_49_code (3 : Nat) (Option.some Jvm.ClassFile.FieldType.int)).before args0 about1 = true := code_word (m := ⟨19, 0⟩) (meth := k19m0) (c := k19c0) (by decide +kernel) rfl rfl rfl (by decide +kernel)
set_option maxRecDepth 65536 in
theorem w_c33 : (Jvm.Cond.code ({ cls := "java/lang/Integer", name := "numberOfTrailingZeros", desc := "(I)I" } : Jvm.MethodName) jdk_33_method_48_code (2 : Nat) (Option.some Jvm.ClassFile.FieldType.int)).before args0 about1 = true := code_word (m := ⟨20, 0⟩) (meth := k20m0) (c := k20c0) (by decide +kernel) rfl rfl rfl (by decide +kernel)
set_option maxRecDepth 65536 in
theorem w_c34 : (Jvm.Cond.code ({ cls := "java/lang/Math", name := "min", desc := "(JJ)J" } : Jvm.MethodName) jdk_29_method_70_code (4 : Nat) (Option.some Jvm.ClassFile.FieldType.long)).before args0 about1 = true := code_word (m := ⟨9, 3⟩) (meth := k9m3) (c := k9c3) (by decide +kernel) rfl rfl rfl (by decide +kernel)
set_option maxRecDepth 65536 in
theorem w_c35 : (Jvm.Cond.code ({ cls := "com/example/nav_by_schema/navbyschema/regex/UnitRuns", name := "unitsRead", desc := "()J" } : Jvm.MethodName) prog_27_method_3_code (1 : Nat) (Option.some Jvm.ClassFile.FieldType.long)).before args0 about1 = true := code_word (m := ⟨15, 2⟩) (meth := k15m2) (c := k15c2) (by decide +kernel) rfl rfl rfl (by decide +kernel)
set_option maxRecDepth 65536 in
theorem w_c36 : (Jvm.Cond.code ({ cls := "com/example/nav_by_schema/navbyschema/regex/UnitRuns", name := "release", desc := "()V" } : Jvm.MethodName) prog_27_method_4_code (1 : Nat) (Option.none : Option Jvm.ClassFile.FieldType)).before args0 about1 = true := code_word (m := ⟨15, 3⟩) (meth := k15m3) (c := k15c3) (by decide +kernel) rfl rfl rfl (by decide +kernel)
set_option maxRecDepth 65536 in
theorem w_c37 : (Jvm.Cond.code ({ cls := "java/util/Arrays", name := "fill", desc := "([IIII)V" } : Jvm.MethodName) jdk_65_method_104_code (5 : Nat) (Option.none : Option Jvm.ClassFile.FieldType)).before args0 about1 = true := code_word (m := ⟨12, 3⟩) (meth := k12m3) (c := k12c3) (by decide +kernel) rfl rfl rfl (by decide +kernel)
set_option maxRecDepth 65536 in
theorem w_c38 : (Jvm.Cond.code ({ cls := "java/util/Arrays", name := "rangeCheck", desc := "(III)V" } : Jvm.MethodName) jdk_65_method_30_code (3 : Nat) (Option.none : Option Jvm.ClassFile.FieldType)).before args0 about1 = true := code_word (m := ⟨12, 2⟩) (meth := k12m2) (c := k12c2) (by decide +kernel) rfl rfl rfl (by decide +kernel)
def codes1 : List Jvm.Cond := [Jvm.Cond.code x code maxLocals ret, Jvm.Cond.code ({ cls := "java/lang/String", name := "<init>", desc := "([C)V" } : Jvm.MethodName) jdk_42_method_3_code (2 : Nat) (Option.none : Option Jvm.ClassFile.FieldType), Jvm.Cond.code ({ cls := "java/lang/String", name := "<init>", desc := "([CIILjava/lang/Void;)V" } : Jvm.MethodName) jdk_42_method_149_code (6 : Nat) (Option.none : Option Jvm.ClassFile.FieldType), Jvm.Cond.code ({ cls := "java/lang/Object", name := "<init>", desc := "()V" } : Jvm.MethodName) object_method_1_code (1 : Nat) (Option.none : Option Jvm.ClassFile.FieldType), Jvm.Cond.code ({ cls := "java/lang/StringUTF16", name := "compress", desc := "([CII)[B" } : Jvm.MethodName) jdk_52_method_16_code (6 : Nat) (Option.some (Jvm.ClassFile.FieldType.array Jvm.ClassFile.FieldType.byte)), Jvm.Cond.code ({ cls := "java/lang/StringUTF16", name := "compress", desc := "([CI[BII)I" } : Jvm.MethodName) jdk_52_method_21_code (7 : Nat) (Option.some Jvm.ClassFile.FieldType.int), Jvm.Cond.code ({ cls := "java/lang/StringUTF16", name := "coderFromArrayLen", desc := "([BI)B" } : Jvm.MethodName) jdk_52_method_15_code (2 : Nat) (Option.some Jvm.ClassFile.FieldType.byte), Jvm.Cond.code ({ cls := "java/lang/Math", name := "min", desc := "(II)I" } : Jvm.MethodName) jdk_29_method_69_code (2 : Nat) (Option.some Jvm.ClassFile.FieldType.int), Jvm.Cond.code ({ cls := "java/lang/Math", name := "max", desc := "(II)I" } : Jvm.MethodName) jdk_29_method_65_code (2 : Nat) (Option.some Jvm.ClassFile.FieldType.int), Jvm.Cond.code ({ cls := "com/example/nav_by_schema/navbyschema/regex/UnitRunsReleasePinLaw", name := "in", desc := "(III)Z" } : Jvm.MethodName) method_2_code (3 : Nat) (Option.some Jvm.ClassFile.FieldType.boolean), Jvm.Cond.code ({ cls := "com/example/nav_by_schema/navbyschema/regex/CodeUnitSet", name := "range", desc := "(CC)Lcom/example/nav_by_schema/navbyschema/regex/CodeUnitSet;" } : Jvm.MethodName) prog_7_method_2_code (2 : Nat) (Option.some (Jvm.ClassFile.FieldType.object "com/example/nav_by_schema/navbyschema/regex/CodeUnitSet")), Jvm.Cond.code ({ cls := "com/example/nav_by_schema/navbyschema/regex/CodeUnitSet$Builder", name := "<init>", desc := "()V" } : Jvm.MethodName) prog_8_method_1_code (1 : Nat) (Option.none : Option Jvm.ClassFile.FieldType), Jvm.Cond.code ({ cls := "com/example/nav_by_schema/navbyschema/regex/CodeUnitSet$Builder", name := "add", desc := "(CC)Lcom/example/nav_by_schema/navbyschema/regex/CodeUnitSet$Builder;" } : Jvm.MethodName) prog_8_method_2_code (3 : Nat) (Option.some (Jvm.ClassFile.FieldType.object "com/example/nav_by_schema/navbyschema/regex/CodeUnitSet$Builder")), Jvm.Cond.code ({ cls := "com/example/nav_by_schema/navbyschema/regex/CodeUnitSet$Builder", name := "build", desc := "(Z)Lcom/example/nav_by_schema/navbyschema/regex/CodeUnitSet;" } : Jvm.MethodName) prog_8_method_4_code (12 : Nat) (Option.some (Jvm.ClassFile.FieldType.object "com/example/nav_by_schema/navbyschema/regex/CodeUnitSet")), Jvm.Cond.code ({ cls := "java/util/Arrays", name := "sort", desc := "([J)V" } : Jvm.MethodName) jdk_65_method_4_code (1 : Nat) (Option.none : Option Jvm.ClassFile.FieldType), Jvm.Cond.code ({ cls := "java/util/DualPivotQuicksort", name := "sort", desc := "([JIII)V" } : Jvm.MethodName) jdk_2529_method_12_code (7 : Nat) (Option.none : Option Jvm.ClassFile.FieldType), Jvm.Cond.code ({ cls := "java/util/DualPivotQuicksort", name := "sort", desc := "(Ljava/util/DualPivotQuicksort$Sorter;[JIII)V" } : Jvm.MethodName) jdk_2529_method_13_code (25 : Nat) (Option.none : Option Jvm.ClassFile.FieldType), Jvm.Cond.code ({ cls := "java/util/DualPivotQuicksort", name := "insertionSort", desc := "([JII)V" } : Jvm.MethodName) jdk_2529_method_15_code (7 : Nat) (Option.none : Option Jvm.ClassFile.FieldType), Jvm.Cond.code ({ cls := "java/util/Arrays", name := "copyOf", desc := "([II)[I" } : Jvm.MethodName) jdk_65_method_123_code (3 : Nat) (Option.some (Jvm.ClassFile.FieldType.array Jvm.ClassFile.FieldType.int)), Jvm.Cond.code ({ cls := "com/example/nav_by_schema/navbyschema/regex/CodeUnitSet", name := "<init>", desc := "([I)V" } : Jvm.MethodName) prog_7_method_1_code (8 : Nat) (Option.none : Option Jvm.ClassFile.FieldType), Jvm.Cond.code ({ cls := "com/example/nav_by_schema/navbyschema/regex/UnitRuns", name := "<init>", desc := "()V" } : Jvm.MethodName) prog_27_method_1_code (1 : Nat) (Option.none : Option Jvm.ClassFile.FieldType), Jvm.Cond.code ({ cls := "com/example/nav_by_schema/navbyschema/regex/UnitRuns", name := "end", desc := "(Ljava/lang/String;Lcom/example/nav_by_schema/navbyschema/regex/CodeUnitSet;II)I" } : Jvm.MethodName) prog_27_method_2_code (12 : Nat) (Option.some Jvm.ClassFile.FieldType.int), Jvm.Cond.code ({ cls := "com/example/nav_by_schema/navbyschema/regex/UnitRuns", name := "reset", desc := "(Ljava/lang/String;Lcom/example/nav_by_schema/navbyschema/regex/CodeUnitSet;)V" } : Jvm.MethodName) prog_27_method_5_code (4 : Nat) (Option.none : Option Jvm.ClassFile.FieldType), Jvm.Cond.code ({ cls := "java/lang/String", name := "length", desc := "()I" } : Jvm.MethodName) jdk_42_method_54_code (1 : Nat) (Option.some Jvm.ClassFile.FieldType.int), Jvm.Cond.code ({ cls := "java/lang/String", name := "coder", desc := "()B" } : Jvm.MethodName) jdk_42_method_152_code (1 : Nat) (Option.some Jvm.ClassFile.FieldType.byte), Jvm.Cond.code ({ cls := "com/example/nav_by_schema/navbyschema/regex/UnitRuns", name := "read", desc := "(I)V" } : Jvm.MethodName) prog_27_method_7_code (7 : Nat) (Option.none : Option Jvm.ClassFile.FieldType), Jvm.Cond.code ({ cls := "java/lang/String", name := "charAt", desc := "(I)C" } : Jvm.MethodName) jdk_42_method_56_code (2 : Nat) (Option.some Jvm.ClassFile.FieldType.char), Jvm.Cond.code ({ cls := "java/lang/String", name := "isLatin1", desc := "()Z" } : Jvm.MethodName) jdk_42_method_154_code (1 : Nat) (Option.some Jvm.ClassFile.FieldType.boolean), Jvm.Cond.code ({ cls := "java/lang/StringLatin1", name := "charAt", desc := "([BI)C" } : Jvm.MethodName) jdk_43_method_2_code (2 : Nat) (Option.some Jvm.ClassFile.FieldType.char), Jvm.Cond.code ({ cls := "java/lang/String", name := "checkIndex", desc := "(II)V" } : Jvm.MethodName) jdk_42_method_155_code (2 : Nat) (Option.none : Option Jvm.ClassFile.FieldType), Jvm.Cond.code ({ cls := "jdk/internal/util/Preconditions", name := "checkIndex", desc := "(IILjava/util/function/BiFunction;)I" } : Jvm.MethodName) jdk_41_method_11_code (3 : Nat) (Option.some Jvm.ClassFile.FieldType.int), Jvm.Cond.code ({ cls := "com/example/nav_by_schema/navbyschema/regex/CodeUnitSet", name := "contains", desc := "(C)Z" } : Jvm.MethodName) prog_7_method_4_code (6 : Nat) (Option.some Jvm.ClassFile.FieldType.boolean), Jvm.Cond.code ({ cls := "java/lang/Long", name := "numberOfTrailingZeros", desc := "(J)I" } : Jvm.MethodName) jdk_35_method_49_code (3 : Nat) (Option.some Jvm.ClassFile.FieldType.int), Jvm.Cond.code ({ cls := "java/lang/Integer", name := "numberOfTrailingZeros", desc := "(I)I" } : Jvm.MethodName) jdk_33_method_48_code (2 : Nat) (Option.some Jvm.ClassFile.FieldType.int), Jvm.Cond.code ({ cls := "java/lang/Math", name := "min", desc := "(JJ)J" } : Jvm.MethodName) jdk_29_method_70_code (4 : Nat) (Option.some Jvm.ClassFile.FieldType.long), Jvm.Cond.code ({ cls := "com/example/nav_by_schema/navbyschema/regex/UnitRuns", name := "unitsRead", desc := "()J" } : Jvm.MethodName) prog_27_method_3_code (1 : Nat) (Option.some Jvm.ClassFile.FieldType.long), Jvm.Cond.code ({ cls := "com/example/nav_by_schema/navbyschema/regex/UnitRuns", name := "release", desc := "()V" } : Jvm.MethodName) prog_27_method_4_code (1 : Nat) (Option.none : Option Jvm.ClassFile.FieldType), Jvm.Cond.code ({ cls := "java/util/Arrays", name := "fill", desc := "([IIII)V" } : Jvm.MethodName) jdk_65_method_104_code (5 : Nat) (Option.none : Option Jvm.ClassFile.FieldType), Jvm.Cond.code ({ cls := "java/util/Arrays", name := "rangeCheck", desc := "(III)V" } : Jvm.MethodName) jdk_65_method_30_code (3 : Nat) (Option.none : Option Jvm.ClassFile.FieldType)]
set_option maxRecDepth 65536 in
theorem codes_eq : words1.filter isCode = codes1 := rfl
theorem w_codes : ∀ c ∈ words1.filter isCode, c.before args0 about1 = true := by
  rw [codes_eq]
  intro c hc
  simp only [codes1, List.mem_cons, List.not_mem_nil, or_false] at hc
  rcases hc with rfl | rfl | rfl | rfl | rfl | rfl | rfl | rfl | rfl | rfl | rfl | rfl | rfl | rfl | rfl | rfl | rfl | rfl | rfl | rfl | rfl | rfl | rfl | rfl | rfl | rfl | rfl | rfl | rfl | rfl | rfl | rfl | rfl | rfl | rfl | rfl | rfl | rfl | rfl
  · exact w_c0
  · exact w_c1
  · exact w_c2
  · exact w_c3
  · exact w_c4
  · exact w_c5
  · exact w_c6
  · exact w_c7
  · exact w_c8
  · exact w_c9
  · exact w_c10
  · exact w_c11
  · exact w_c12
  · exact w_c13
  · exact w_c14
  · exact w_c15
  · exact w_c16
  · exact w_c17
  · exact w_c18
  · exact w_c19
  · exact w_c20
  · exact w_c21
  · exact w_c22
  · exact w_c23
  · exact w_c24
  · exact w_c25
  · exact w_c26
  · exact w_c27
  · exact w_c28
  · exact w_c29
  · exact w_c30
  · exact w_c31
  · exact w_c32
  · exact w_c33
  · exact w_c34
  · exact w_c35
  · exact w_c36
  · exact w_c37
  · exact w_c38
set_option maxRecDepth 65536 in
theorem w_t1 : (words1.take 24).all (fun c => isCode c || c.before args0 about1) = true := by decide +kernel
set_option maxRecDepth 65536 in
theorem w_t2 : ((words1.drop 24).take 24).all (fun c => isCode c || c.before args0 about1) = true := by decide +kernel
set_option maxRecDepth 65536 in
theorem w_t3 : (((words1.drop 24).drop 24).take 24).all (fun c => isCode c || c.before args0 about1) = true := by decide +kernel
set_option maxRecDepth 65536 in
theorem w_t4 : ((((words1.drop 24).drop 24).drop 24).take 24).all (fun c => isCode c || c.before args0 about1) = true := by decide +kernel
set_option maxRecDepth 65536 in
theorem w_t5 : (((((words1.drop 24).drop 24).drop 24).drop 24).take 24).all (fun c => isCode c || c.before args0 about1) = true := by decide +kernel
set_option maxRecDepth 65536 in
theorem w_t6 : ((((((words1.drop 24).drop 24).drop 24).drop 24).drop 24).take 24).all (fun c => isCode c || c.before args0 about1) = true := by decide +kernel
set_option maxRecDepth 65536 in
theorem w_t7 : (((((((words1.drop 24).drop 24).drop 24).drop 24).drop 24).drop 24).take 24).all (fun c => isCode c || c.before args0 about1) = true := by decide +kernel
set_option maxRecDepth 65536 in
theorem w_t8 : ((((((((words1.drop 24).drop 24).drop 24).drop 24).drop 24).drop 24).drop 24).take 24).all (fun c => isCode c || c.before args0 about1) = true := by decide +kernel
set_option maxRecDepth 65536 in
theorem w_t9 : ((((((((words1.drop 24).drop 24).drop 24).drop 24).drop 24).drop 24).drop 24).drop 24).all (fun c => isCode c || c.before args0 about1) = true := by decide +kernel
theorem w_tables : (allAtoms (Jvm.Cond.code x code maxLocals ret :: tables_1)).before args0 about1 = true := by
  rw [allAtoms_all]
  show words1.all (fun c => c.before args0 about1) = true
  refine all_split ?_ w_codes
  rw [← List.take_append_drop 24 words1, List.all_append, w_t1, ← List.take_append_drop 24 (words1.drop 24), List.all_append, w_t2, ← List.take_append_drop 24 ((words1.drop 24).drop 24), List.all_append, w_t3, ← List.take_append_drop 24 (((words1.drop 24).drop 24).drop 24), List.all_append, w_t4, ← List.take_append_drop 24 ((((words1.drop 24).drop 24).drop 24).drop 24), List.all_append, w_t5, ← List.take_append_drop 24 (((((words1.drop 24).drop 24).drop 24).drop 24).drop 24), List.all_append, w_t6, ← List.take_append_drop 24 ((((((words1.drop 24).drop 24).drop 24).drop 24).drop 24).drop 24), List.all_append, w_t7, ← List.take_append_drop 24 (((((((words1.drop 24).drop 24).drop 24).drop 24).drop 24).drop 24).drop 24), List.all_append, w_t8, w_t9]
  rfl
set_option maxRecDepth 65536 in
theorem w_rest : rest_1_c.before args0 about1 = true := by decide +kernel
set_option maxRecDepth 65536 in
theorem w_case : (Jvm.Cond.and given_1 narrow_1).before args0 about1 = true := by decide +kernel
theorem w_applies : (headSpec (Jvm.Cond.code x code maxLocals ret :: tables_1) room_1).applies x e0.platform about1 = true :=
  (Spec.applies_iff w_frames).mpr ⟨w_running, w_runnable, w_alone, w_named, w_hears, w_ripe, w_room, w_tables⟩
theorem atStart : AtStart classFile x code maxLocals ret World_1 tables_1 room_1 Calls_1 rest_1 Pre_1 launch0 p0 e0 about1 theMethod args0 below0 :=
  ⟨lists_1, trivial, launch0.admits_env _ _ _, launch0.least_env, fairChoices_fair.cas, fairChoices_fair.clock, w_frames, w_args, w_heap, w_applies, trivial, w_rest, w_case⟩
end start1
theorem witness_1 : WitnessClaimed_1 := ⟨start1.p0, start1.e0, start1.about1, start1.theMethod, start1.args0, start1.below0, start1.atStart⟩
end Jvm.Pilot.@@N@@
