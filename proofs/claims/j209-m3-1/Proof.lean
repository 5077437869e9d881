import JvmDerived
import JvmDerived.Pilot.@@N@@Statement
import JvmDerived.Pilot.@@N@@Code
set_option linter.unusedVariables false
set_option linter.unusedSimpArgs false
namespace Jvm.Pilot.@@N@@
open Jvm Jvm.ClassFile Sem Op Lib Jvm.Free Jvm.Stand Jvm.LawKit Jvm.RoadKit Bundle Jvm.Pilot.@@N@@.Jvm.D
section OwnGo
variable {p : Program} {l : Launch} {e : Env} {R : Room} {s : State} {m : MethodId} {args : Array Value} {below : List Frame} {meth : Method} {c : Code} {T : State} {locs : List Loc} {cells slots : Nat} {Z : State} {a0 : Array Value} {h : Heap} {K : Outcome → State → Prop} {pc pc' : Nat} {Ls : Array Slot} {st : List Value}
/-- from frame g in state T the run ends as K says -/
def Goes (p : Program) (e : Env) (below : List Frame) (K : Outcome → State → Prop) (T : State) (g : JFrame) : Prop := ∃ u o, Steps p.tables e below (T.setTop g) u ∧ u.status = .running ∧ Ended u below o ∧ K o u
theorem Goes.by' {T' : State} {g g' : JFrame} (f : ∀ t, Steps p.tables e below (T'.setTop g') t → Steps p.tables e below (T.setTop g) t) (k : Goes p e below K T' g') : Goes p e below K T g := by obtain ⟨u, o, h1, h2⟩ := k; exact ⟨u, o, f _ h1, h2⟩
theorem Goes.cast {g g' : JFrame} (q : g = g') (k : Goes p e below K T g') : Goes p e below K T g := q ▸ k
/-- a callee's contract: called with as' at the heap h0 it returns v, leaves a heap and a list of written places of which Q speaks -/
abbrev Ctr (l : Launch) (Z : State) (y : MethodName) (bytes : ByteArray) (maxL : Nat) (ret : Option FieldType) (ws : List Jvm.Cond) (rm : Room) (C S : Nat) (as' : Array Value) (h0 : Heap) (Q : Option Value → Heap → List Loc → Prop) : Prop := MetFree l y (head1 (Jvm.Cond.code y bytes maxL ret :: ws) rm) (fun a U => a = as' ∧ Z.Warmed39 U.vm ∧ U.heap = h0) (fun _ _ _ _ _ => True) (fun _ U o U' => ∃ v L, o = .returned v ∧ Q v U'.heap L ∧ FrameEnd U o U' L C S)
abbrev KQ (s : State) (C S : Nat) (Q : Option Value → Heap → List Loc → Prop) : Outcome → State → Prop := fun o u => ∃ v L, o = .returned v ∧ Q v u.heap L ∧ FrameEnd s o u L C S
theorem Ctr.of {y : MethodName} {bytes : ByteArray} {maxL : Nat} {ret : Option FieldType} {ws : List Jvm.Cond} {rm : Room} {C S : Nat} {as' : Array Value} {h0 : Heap} {Q : Option Value → Heap → List Loc → Prop} (hpn : plainFor y = true)
    (body : ∀ (p : Program) (e : Env) (s : State) (m : MethodId) (below : List Frame) (meth : Method) (c : Code) (s₁ : State), p.tables.exec = Jvm.exec → c.code = bytes → c.maxLocals = maxL → s.vm.findClass y.cls = some m.cls → meth.name = y.name → meth.sig.returnType = ret → meth.locks = false → Z.Warmed39 s.vm → Stand p l e rm s m as' below meth c s₁ [] 0 0 → s₁.heap = h0 → Goes p e below (KQ s C S Q) s₁ (entryFrame m as' maxL)) :
    Ctr l Z y bytes maxL ret ws rm C S as' h0 Q := by
  refine MetFree.of_bodySF hpn hisR ?_
  intro p e s m args below meth c s₁ Bd hml0 hP hK
  obtain ⟨rfl, hZ, hh⟩ := hP
  have hlk : meth.locks = false := BodyLoose.notSynchronized Bd
  exact body p e s m below meth c s₁ Bd.exec Bd.bytes hml0 (findClass_of_methodNamed Bd.named) (name_of_methodNamed Bd.named Bd.method).1 Bd.returns hlk hZ (Stand.of_body Bd) (by rw [← hh, Bd.state]; rfl)
theorem wd {a0 : Array Value} {Z : State} {tb : List Jvm.Cond} (hw : ∀ d ∈ tb, d.before a0 Z = true) (i : Nat) {d : Jvm.Cond} (q : tb[i]? = some d) : d.before a0 Z = true := hw _ (List.mem_of_getElem? q)
theorem g_iadd (X : Stand p l e R s m args below meth c T locs cells slots) (hx : p.tables.exec = Jvm.exec) {x y : Int32} (hd : decode c.code pc = .ok (.iadd, 1))  (hp : pc + 1 = pc') (k : Goes p e below K T (mkF m pc' Ls (.int (x + y) :: st))) : Goes p e below K T (mkF m pc Ls (.int y :: .int x :: st)) := by subst hp; exact Goes.by' (fun _ q => XS.iadd X.here hx rfl hd rfl q) k
theorem g_isub (X : Stand p l e R s m args below meth c T locs cells slots) (hx : p.tables.exec = Jvm.exec) {x y : Int32} (hd : decode c.code pc = .ok (.isub, 1))  (hp : pc + 1 = pc') (k : Goes p e below K T (mkF m pc' Ls (.int (x - y) :: st))) : Goes p e below K T (mkF m pc Ls (.int y :: .int x :: st)) := by subst hp; exact Goes.by' (fun _ q => XS.isub X.here hx rfl hd rfl q) k
theorem g_iand (X : Stand p l e R s m args below meth c T locs cells slots) (hx : p.tables.exec = Jvm.exec) {x y : Int32} (hd : decode c.code pc = .ok (.iand, 1))  (hp : pc + 1 = pc') (k : Goes p e below K T (mkF m pc' Ls (.int (x &&& y) :: st))) : Goes p e below K T (mkF m pc Ls (.int y :: .int x :: st)) := by subst hp; exact Goes.by' (fun _ q => XS.iand X.here hx rfl hd rfl q) k
theorem g_imul (X : Stand p l e R s m args below meth c T locs cells slots) (hx : p.tables.exec = Jvm.exec) {x y : Int32} (hd : decode c.code pc = .ok (.imul, 1))  (hp : pc + 1 = pc') (k : Goes p e below K T (mkF m pc' Ls (.int (x * y) :: st))) : Goes p e below K T (mkF m pc Ls (.int y :: .int x :: st)) := by subst hp; exact Goes.by' (fun _ q => XS.imul X.here hx rfl hd rfl q) k
theorem g_ixor (X : Stand p l e R s m args below meth c T locs cells slots) (hx : p.tables.exec = Jvm.exec) {x y : Int32} (hd : decode c.code pc = .ok (.ixor, 1))  (hp : pc + 1 = pc') (k : Goes p e below K T (mkF m pc' Ls (.int (x ^^^ y) :: st))) : Goes p e below K T (mkF m pc Ls (.int y :: .int x :: st)) := by subst hp; exact Goes.by' (fun _ q => XT.ixor X.here hx rfl hd rfl q) k
theorem g_ior (X : Stand p l e R s m args below meth c T locs cells slots) (hx : p.tables.exec = Jvm.exec) {x y : Int32} (hd : decode c.code pc = .ok (.ior, 1))  (hp : pc + 1 = pc') (k : Goes p e below K T (mkF m pc' Ls (.int (x ||| y) :: st))) : Goes p e below K T (mkF m pc Ls (.int y :: .int x :: st)) := by subst hp; exact Goes.by' (fun _ q => XT.ior X.here hx rfl hd rfl q) k
theorem g_idiv (X : Stand p l e R s m args below meth c T locs cells slots) (hx : p.tables.exec = Jvm.exec) {x y : Int32} (hd : decode c.code pc = .ok (.idiv, 1)) (hy : y ≠ 0) (hp : pc + 1 = pc') (k : Goes p e below K T (mkF m pc' Ls (.int (x / y) :: st))) : Goes p e below K T (mkF m pc Ls (.int y :: .int x :: st)) := by subst hp; exact Goes.by' (fun _ q => XS.idiv X.here hx rfl hd rfl hy q) k
theorem g_irem (X : Stand p l e R s m args below meth c T locs cells slots) (hx : p.tables.exec = Jvm.exec) {x y : Int32} (hd : decode c.code pc = .ok (.irem, 1)) (hy : y ≠ 0) (hp : pc + 1 = pc') (k : Goes p e below K T (mkF m pc' Ls (.int (x % y) :: st))) : Goes p e below K T (mkF m pc Ls (.int y :: .int x :: st)) := by subst hp; exact Goes.by' (fun _ q => iremM X hx rfl hd rfl hy q) k
theorem g_ineg (X : Stand p l e R s m args below meth c T locs cells slots) (hx : p.tables.exec = Jvm.exec) {x : Int32} (hd : decode c.code pc = .ok (.ineg, 1))  (hp : pc + 1 = pc') (k : Goes p e below K T (mkF m pc' Ls (.int (-x) :: st))) : Goes p e below K T (mkF m pc Ls (.int x :: st)) := by subst hp; exact Goes.by' (fun _ q => XS.ineg X.here hx rfl hd rfl q) k
theorem g_ishl (X : Stand p l e R s m args below meth c T locs cells slots) (hx : p.tables.exec = Jvm.exec) {x y : Int32} (hd : decode c.code pc = .ok (.ishl, 1))  (hp : pc + 1 = pc') (k : Goes p e below K T (mkF m pc' Ls (.int (x <<< (y &&& 31)) :: st))) : Goes p e below K T (mkF m pc Ls (.int y :: .int x :: st)) := by subst hp; exact Goes.by' (fun _ q => XT.ishl X.here hx rfl hd rfl q) k
theorem g_ishr (X : Stand p l e R s m args below meth c T locs cells slots) (hx : p.tables.exec = Jvm.exec) {x y : Int32} (hd : decode c.code pc = .ok (.ishr, 1))  (hp : pc + 1 = pc') (k : Goes p e below K T (mkF m pc' Ls (.int (x >>> (y &&& 31)) :: st))) : Goes p e below K T (mkF m pc Ls (.int y :: .int x :: st)) := by subst hp; exact Goes.by' (fun _ q => XT.ishr X.here hx rfl hd rfl q) k
theorem g_iushr (X : Stand p l e R s m args below meth c T locs cells slots) (hx : p.tables.exec = Jvm.exec) {x y : Int32} (hd : decode c.code pc = .ok (.iushr, 1))  (hp : pc + 1 = pc') (k : Goes p e below K T (mkF m pc' Ls (.int (XT.ushr x y) :: st))) : Goes p e below K T (mkF m pc Ls (.int y :: .int x :: st)) := by subst hp; exact Goes.by' (fun _ q => XT.iushr X.here hx rfl hd rfl q) k
theorem g_ladd (X : Stand p l e R s m args below meth c T locs cells slots) (hx : p.tables.exec = Jvm.exec) {x y : Int64} (hd : decode c.code pc = .ok (.ladd, 1))  (hp : pc + 1 = pc') (k : Goes p e below K T (mkF m pc' Ls (.long (x + y) :: st))) : Goes p e below K T (mkF m pc Ls (.long y :: .long x :: st)) := by subst hp; exact Goes.by' (fun _ q => XT.ladd X.here hx rfl hd rfl q) k
theorem g_lsub (X : Stand p l e R s m args below meth c T locs cells slots) (hx : p.tables.exec = Jvm.exec) {x y : Int64} (hd : decode c.code pc = .ok (.lsub, 1))  (hp : pc + 1 = pc') (k : Goes p e below K T (mkF m pc' Ls (.long (x - y) :: st))) : Goes p e below K T (mkF m pc Ls (.long y :: .long x :: st)) := by subst hp; exact Goes.by' (fun _ q => XT.lsub X.here hx rfl hd rfl q) k
theorem g_lmul (X : Stand p l e R s m args below meth c T locs cells slots) (hx : p.tables.exec = Jvm.exec) {x y : Int64} (hd : decode c.code pc = .ok (.lmul, 1))  (hp : pc + 1 = pc') (k : Goes p e below K T (mkF m pc' Ls (.long (x * y) :: st))) : Goes p e below K T (mkF m pc Ls (.long y :: .long x :: st)) := by subst hp; exact Goes.by' (fun _ q => XT.lmul X.here hx rfl hd rfl q) k
theorem g_land (X : Stand p l e R s m args below meth c T locs cells slots) (hx : p.tables.exec = Jvm.exec) {x y : Int64} (hd : decode c.code pc = .ok (.land, 1))  (hp : pc + 1 = pc') (k : Goes p e below K T (mkF m pc' Ls (.long (x &&& y) :: st))) : Goes p e below K T (mkF m pc Ls (.long y :: .long x :: st)) := by subst hp; exact Goes.by' (fun _ q => XT.land X.here hx rfl hd rfl q) k
theorem g_lor (X : Stand p l e R s m args below meth c T locs cells slots) (hx : p.tables.exec = Jvm.exec) {x y : Int64} (hd : decode c.code pc = .ok (.lor, 1))  (hp : pc + 1 = pc') (k : Goes p e below K T (mkF m pc' Ls (.long (x ||| y) :: st))) : Goes p e below K T (mkF m pc Ls (.long y :: .long x :: st)) := by subst hp; exact Goes.by' (fun _ q => XT.lor X.here hx rfl hd rfl q) k
theorem g_lxor (X : Stand p l e R s m args below meth c T locs cells slots) (hx : p.tables.exec = Jvm.exec) {x y : Int64} (hd : decode c.code pc = .ok (.lxor, 1))  (hp : pc + 1 = pc') (k : Goes p e below K T (mkF m pc' Ls (.long (x ^^^ y) :: st))) : Goes p e below K T (mkF m pc Ls (.long y :: .long x :: st)) := by subst hp; exact Goes.by' (fun _ q => XT.lxor X.here hx rfl hd rfl q) k
theorem g_ldiv (X : Stand p l e R s m args below meth c T locs cells slots) (hx : p.tables.exec = Jvm.exec) {x y : Int64} (hd : decode c.code pc = .ok (.ldiv, 1)) (hy : y ≠ 0) (hp : pc + 1 = pc') (k : Goes p e below K T (mkF m pc' Ls (.long (x / y) :: st))) : Goes p e below K T (mkF m pc Ls (.long y :: .long x :: st)) := by subst hp; exact Goes.by' (fun _ q => XT.ldiv X.here hx rfl hd rfl hy q) k
theorem g_lrem (X : Stand p l e R s m args below meth c T locs cells slots) (hx : p.tables.exec = Jvm.exec) {x y : Int64} (hd : decode c.code pc = .ok (.lrem, 1)) (hy : y ≠ 0) (hp : pc + 1 = pc') (k : Goes p e below K T (mkF m pc' Ls (.long (x % y) :: st))) : Goes p e below K T (mkF m pc Ls (.long y :: .long x :: st)) := by subst hp; exact Goes.by' (fun _ q => XT.lrem X.here hx rfl hd rfl hy (by rw [lrem_mod]; exact q)) k
theorem g_lneg (X : Stand p l e R s m args below meth c T locs cells slots) (hx : p.tables.exec = Jvm.exec) {x : Int64} (hd : decode c.code pc = .ok (.lneg, 1))  (hp : pc + 1 = pc') (k : Goes p e below K T (mkF m pc' Ls (.long (-x) :: st))) : Goes p e below K T (mkF m pc Ls (.long x :: st)) := by subst hp; exact Goes.by' (fun _ q => XT.lneg X.here hx rfl hd rfl q) k
theorem g_lshl (X : Stand p l e R s m args below meth c T locs cells slots) (hx : p.tables.exec = Jvm.exec) {x : Int64} {y : Int32} (hd : decode c.code pc = .ok (.lshl, 1))  (hp : pc + 1 = pc') (k : Goes p e below K T (mkF m pc' Ls (.long (x <<< (y.toInt64 &&& 63)) :: st))) : Goes p e below K T (mkF m pc Ls (.int y :: .long x :: st)) := by subst hp; exact Goes.by' (fun _ q => XT.lshl X.here hx rfl hd rfl q) k
theorem g_lshr (X : Stand p l e R s m args below meth c T locs cells slots) (hx : p.tables.exec = Jvm.exec) {x : Int64} {y : Int32} (hd : decode c.code pc = .ok (.lshr, 1))  (hp : pc + 1 = pc') (k : Goes p e below K T (mkF m pc' Ls (.long (x >>> (y.toInt64 &&& 63)) :: st))) : Goes p e below K T (mkF m pc Ls (.int y :: .long x :: st)) := by subst hp; exact Goes.by' (fun _ q => XT.lshr X.here hx rfl hd rfl q) k
theorem g_lushr (X : Stand p l e R s m args below meth c T locs cells slots) (hx : p.tables.exec = Jvm.exec) {x : Int64} {y : Int32} (hd : decode c.code pc = .ok (.lushr, 1))  (hp : pc + 1 = pc') (k : Goes p e below K T (mkF m pc' Ls (.long (XT.ushrL x y) :: st))) : Goes p e below K T (mkF m pc Ls (.int y :: .long x :: st)) := by subst hp; exact Goes.by' (fun _ q => XT.lushr X.here hx rfl hd rfl q) k
theorem g_lcmp (X : Stand p l e R s m args below meth c T locs cells slots) (hx : p.tables.exec = Jvm.exec) {x y : Int64} (hd : decode c.code pc = .ok (.lcmp, 1))  (hp : pc + 1 = pc') (k : Goes p e below K T (mkF m pc' Ls (.int (XT.cmpL x y) :: st))) : Goes p e below K T (mkF m pc Ls (.long y :: .long x :: st)) := by subst hp; exact Goes.by' (fun _ q => XT.lcmp X.here hx rfl hd rfl q) k
theorem g_i2l (X : Stand p l e R s m args below meth c T locs cells slots) (hx : p.tables.exec = Jvm.exec) {x : Int32} (hd : decode c.code pc = .ok (.i2l, 1))  (hp : pc + 1 = pc') (k : Goes p e below K T (mkF m pc' Ls (.long x.toInt64 :: st))) : Goes p e below K T (mkF m pc Ls (.int x :: st)) := by subst hp; exact Goes.by' (fun _ q => XT.i2l X.here hx rfl hd rfl q) k
theorem g_l2i (X : Stand p l e R s m args below meth c T locs cells slots) (hx : p.tables.exec = Jvm.exec) {x : Int64} (hd : decode c.code pc = .ok (.l2i, 1))  (hp : pc + 1 = pc') (k : Goes p e below K T (mkF m pc' Ls (.int x.toInt32 :: st))) : Goes p e below K T (mkF m pc Ls (.long x :: st)) := by subst hp; exact Goes.by' (fun _ q => XT.l2i X.here hx rfl hd rfl q) k
theorem g_i2b (X : Stand p l e R s m args below meth c T locs cells slots) (hx : p.tables.exec = Jvm.exec) {x : Int32} (hd : decode c.code pc = .ok (.i2b, 1))  (hp : pc + 1 = pc') (k : Goes p e below K T (mkF m pc' Ls (.int x.toInt8.toInt32 :: st))) : Goes p e below K T (mkF m pc Ls (.int x :: st)) := by subst hp; exact Goes.by' (fun _ q => XT.i2b X.here hx rfl hd rfl q) k
theorem g_i2c (X : Stand p l e R s m args below meth c T locs cells slots) (hx : p.tables.exec = Jvm.exec) {x : Int32} (hd : decode c.code pc = .ok (.i2c, 1))  (hp : pc + 1 = pc') (k : Goes p e below K T (mkF m pc' Ls (.int x.toUInt32.toUInt16.toUInt32.toInt32 :: st))) : Goes p e below K T (mkF m pc Ls (.int x :: st)) := by subst hp; exact Goes.by' (fun _ q => XT.i2c X.here hx rfl hd rfl q) k
theorem g_i2s (X : Stand p l e R s m args below meth c T locs cells slots) (hx : p.tables.exec = Jvm.exec) {x : Int32} (hd : decode c.code pc = .ok (.i2s, 1))  (hp : pc + 1 = pc') (k : Goes p e below K T (mkF m pc' Ls (.int x.toInt16.toInt32 :: st))) : Goes p e below K T (mkF m pc Ls (.int x :: st)) := by subst hp; exact Goes.by' (fun _ q => XT.i2s X.here hx rfl hd rfl q) k
theorem g_aload_n (X : Stand p l e R s m args below meth c T locs cells slots) (hx : p.tables.exec = Jvm.exec) {i : Fin 4} {v : Value} (hd : decode c.code pc = .ok (.aload_n i, 1)) (hl : Ls[i.val]? = some (.val v)) (hv : v.isRef = true) (hp : pc + 1 = pc') (k : Goes p e below K T (mkF m pc' Ls (v :: st))) : Goes p e below K T (mkF m pc Ls (st)) := by subst hp; exact Goes.by' (fun _ q => XS.aloadN X.here hx rfl hd hl hv q) k
theorem g_aload (X : Stand p l e R s m args below meth c T locs cells slots) (hx : p.tables.exec = Jvm.exec) {i : Nat} {v : Value} (hd : decode c.code pc = .ok (.aload i, 2)) (hl : Ls[i]? = some (.val v)) (hv : v.isRef = true) (hp : pc + 2 = pc') (k : Goes p e below K T (mkF m pc' Ls (v :: st))) : Goes p e below K T (mkF m pc Ls (st)) := by subst hp; exact Goes.by' (fun _ q => XS.aload X.here hx rfl hd hl hv q) k
theorem g_iload_n (X : Stand p l e R s m args below meth c T locs cells slots) (hx : p.tables.exec = Jvm.exec) {i : Fin 4} {v : Int32} (hd : decode c.code pc = .ok (.iload_n i, 1)) (hl : Ls[i.val]? = some (.val (.int v))) (hp : pc + 1 = pc') (k : Goes p e below K T (mkF m pc' Ls (.int v :: st))) : Goes p e below K T (mkF m pc Ls (st)) := by subst hp; exact Goes.by' (fun _ q => XS.iloadN X.here hx rfl hd hl q) k
theorem g_iload (X : Stand p l e R s m args below meth c T locs cells slots) (hx : p.tables.exec = Jvm.exec) {i : Nat} {v : Int32} (hd : decode c.code pc = .ok (.iload i, 2)) (hl : Ls[i]? = some (.val (.int v))) (hp : pc + 2 = pc') (k : Goes p e below K T (mkF m pc' Ls (.int v :: st))) : Goes p e below K T (mkF m pc Ls (st)) := by subst hp; exact Goes.by' (fun _ q => XS.iload X.here hx rfl hd hl q) k
theorem g_lload_n (X : Stand p l e R s m args below meth c T locs cells slots) (hx : p.tables.exec = Jvm.exec) {i : Fin 4} {v : Int64} (hd : decode c.code pc = .ok (.lload_n i, 1)) (hl : Ls[i.val]? = some (.val (.long v))) (hp : pc + 1 = pc') (k : Goes p e below K T (mkF m pc' Ls (.long v :: st))) : Goes p e below K T (mkF m pc Ls (st)) := by subst hp; exact Goes.by' (fun _ q => XT.lloadN X.here hx rfl hd hl q) k
theorem g_lload (X : Stand p l e R s m args below meth c T locs cells slots) (hx : p.tables.exec = Jvm.exec) {i : Nat} {v : Int64} (hd : decode c.code pc = .ok (.lload i, 2)) (hl : Ls[i]? = some (.val (.long v))) (hp : pc + 2 = pc') (k : Goes p e below K T (mkF m pc' Ls (.long v :: st))) : Goes p e below K T (mkF m pc Ls (st)) := by subst hp; exact Goes.by' (fun _ q => XT.lload X.here hx rfl hd hl q) k
theorem g_iconst (X : Stand p l e R s m args below meth c T locs cells slots) (hx : p.tables.exec = Jvm.exec) {i : Int} {v : Int32} (hd : decode c.code pc = .ok (.iconst i, 1)) (hv : v = Int32.ofInt i) (hp : pc + 1 = pc') (k : Goes p e below K T (mkF m pc' Ls (.int v :: st))) : Goes p e below K T (mkF m pc Ls (st)) := by subst hp; exact Goes.by' (fun _ q => XS.iconst X.here hx rfl hd (hv ▸ q)) k
theorem g_bipush (X : Stand p l e R s m args below meth c T locs cells slots) (hx : p.tables.exec = Jvm.exec) {i : Int} {v : Int32} (hd : decode c.code pc = .ok (.bipush i, 2)) (hv : v = (Int8.ofInt i).toInt32) (hp : pc + 2 = pc') (k : Goes p e below K T (mkF m pc' Ls (.int v :: st))) : Goes p e below K T (mkF m pc Ls (st)) := by subst hp; exact Goes.by' (fun _ q => XS.bipush X.here hx rfl hd (hv ▸ q)) k
theorem g_sipush (X : Stand p l e R s m args below meth c T locs cells slots) (hx : p.tables.exec = Jvm.exec) {i : Int} {v : Int32} (hd : decode c.code pc = .ok (.sipush i, 3)) (hv : v = (Int16.ofInt i).toInt32) (hp : pc + 3 = pc') (k : Goes p e below K T (mkF m pc' Ls (.int v :: st))) : Goes p e below K T (mkF m pc Ls (st)) := by subst hp; exact Goes.by' (fun _ q => XS.sipush X.here hx rfl hd (hv ▸ q)) k
theorem g_lconst (X : Stand p l e R s m args below meth c T locs cells slots) (hx : p.tables.exec = Jvm.exec) {i : Fin 2} {v : Int64} (hd : decode c.code pc = .ok (.lconst i, 1)) (hv : v = Int64.ofNat i) (hp : pc + 1 = pc') (k : Goes p e below K T (mkF m pc' Ls (.long v :: st))) : Goes p e below K T (mkF m pc Ls (st)) := by subst hp; exact Goes.by' (fun _ q => XT.lconst X.here hx rfl hd (hv ▸ q)) k
theorem g_aconst_null (X : Stand p l e R s m args below meth c T locs cells slots) (hx : p.tables.exec = Jvm.exec)  (hd : decode c.code pc = .ok (.aconst_null, 1))  (hp : pc + 1 = pc') (k : Goes p e below K T (mkF m pc' Ls (.null :: st))) : Goes p e below K T (mkF m pc Ls (st)) := by subst hp; exact Goes.by' (fun _ q => XS.aconstNull X.here hx rfl hd q) k
theorem g_dup (X : Stand p l e R s m args below meth c T locs cells slots) (hx : p.tables.exec = Jvm.exec) {x : Value} (hd : decode c.code pc = .ok (.dup, 1)) (hc : x.category = 1) (hp : pc + 1 = pc') (k : Goes p e below K T (mkF m pc' Ls (x :: x :: st))) : Goes p e below K T (mkF m pc Ls (x :: st)) := by subst hp; exact Goes.by' (fun _ q => XS.dup X.here hx rfl hd rfl hc q) k
theorem g_pop (X : Stand p l e R s m args below meth c T locs cells slots) (hx : p.tables.exec = Jvm.exec) {x : Value} (hd : decode c.code pc = .ok (.pop, 1)) (hc : x.category = 1) (hp : pc + 1 = pc') (k : Goes p e below K T (mkF m pc' Ls (st))) : Goes p e below K T (mkF m pc Ls (x :: st)) := by subst hp; exact Goes.by' (fun _ q => XT.pop X.here hx rfl hd rfl hc q) k
theorem g_dup_x1 (X : Stand p l e R s m args below meth c T locs cells slots) (hx : p.tables.exec = Jvm.exec) {x y : Value} (hd : decode c.code pc = .ok (.dup_x1, 1)) (hc : x.category = 1) (hc' : y.category = 1) (hp : pc + 1 = pc') (k : Goes p e below K T (mkF m pc' Ls (x :: y :: x :: st))) : Goes p e below K T (mkF m pc Ls (x :: y :: st)) := by subst hp; exact Goes.by' (fun _ q => XT.dupX1 X.here hx rfl hd rfl hc hc' q) k
theorem g_dup2 (X : Stand p l e R s m args below meth c T locs cells slots) (hx : p.tables.exec = Jvm.exec) {x y : Value} (hd : decode c.code pc = .ok (.dup2, 1)) (hc : x.category = 1) (hc' : y.category = 1) (hp : pc + 1 = pc') (k : Goes p e below K T (mkF m pc' Ls (x :: y :: x :: y :: st))) : Goes p e below K T (mkF m pc Ls (x :: y :: st)) := by subst hp; exact Goes.by' (fun _ q => XT.dup2 X.here hx rfl hd rfl hc hc' q) k
theorem g_dup2L (X : Stand p l e R s m args below meth c T locs cells slots) (hx : p.tables.exec = Jvm.exec) {x : Int64} (hd : decode c.code pc = .ok (.dup2, 1))  (hp : pc + 1 = pc') (k : Goes p e below K T (mkF m pc' Ls (.long x :: .long x :: st))) : Goes p e below K T (mkF m pc Ls (.long x :: st)) := by subst hp; exact Goes.by' (fun _ q => XT.dup2L X.here hx rfl hd rfl q) k
theorem g_istore_n (X : Stand p l e R s m args below meth c T locs cells slots) (hx : p.tables.exec = Jvm.exec) {i : Fin 4} {x : Int32} (l' : Array Slot) (hd : decode c.code pc = .ok (.istore_n i, 1)) (hl : storeLocals Ls i.val (.int x) = some l') (hp : pc + 1 = pc') (k : Goes p e below K T (mkF m pc' l' (st))) : Goes p e below K T (mkF m pc Ls (.int x :: st)) := by subst hp; exact Goes.by' (fun _ q => XS.istoreN X.here hx rfl hd rfl hl q) k
theorem g_istore (X : Stand p l e R s m args below meth c T locs cells slots) (hx : p.tables.exec = Jvm.exec) {i : Nat} {x : Int32} (l' : Array Slot) (hd : decode c.code pc = .ok (.istore i, 2)) (hl : storeLocals Ls i (.int x) = some l') (hp : pc + 2 = pc') (k : Goes p e below K T (mkF m pc' l' (st))) : Goes p e below K T (mkF m pc Ls (.int x :: st)) := by subst hp; exact Goes.by' (fun _ q => XS.istore X.here hx rfl hd rfl hl q) k
theorem g_lstore_n (X : Stand p l e R s m args below meth c T locs cells slots) (hx : p.tables.exec = Jvm.exec) {i : Fin 4} {x : Int64} (l' : Array Slot) (hd : decode c.code pc = .ok (.lstore_n i, 1)) (hl : storeLocals Ls i.val (.long x) = some l') (hp : pc + 1 = pc') (k : Goes p e below K T (mkF m pc' l' (st))) : Goes p e below K T (mkF m pc Ls (.long x :: st)) := by subst hp; exact Goes.by' (fun _ q => XT.lstoreN X.here hx rfl hd rfl hl q) k
theorem g_lstore (X : Stand p l e R s m args below meth c T locs cells slots) (hx : p.tables.exec = Jvm.exec) {i : Nat} {x : Int64} (l' : Array Slot) (hd : decode c.code pc = .ok (.lstore i, 2)) (hl : storeLocals Ls i (.long x) = some l') (hp : pc + 2 = pc') (k : Goes p e below K T (mkF m pc' l' (st))) : Goes p e below K T (mkF m pc Ls (.long x :: st)) := by subst hp; exact Goes.by' (fun _ q => XT.lstore X.here hx rfl hd rfl hl q) k
theorem g_astore_n (X : Stand p l e R s m args below meth c T locs cells slots) (hx : p.tables.exec = Jvm.exec) {i : Fin 4} {x : Value} (l' : Array Slot) (hd : decode c.code pc = .ok (.astore_n i, 1)) (hv : x.isRef = true) (hl : storeLocals Ls i.val x = some l') (hp : pc + 1 = pc') (k : Goes p e below K T (mkF m pc' l' (st))) : Goes p e below K T (mkF m pc Ls (x :: st)) := by subst hp; exact Goes.by' (fun _ q => XS.astoreN X.here hx rfl hd rfl hv hl q) k
theorem g_astore (X : Stand p l e R s m args below meth c T locs cells slots) (hx : p.tables.exec = Jvm.exec) {i : Nat} {x : Value} (l' : Array Slot) (hd : decode c.code pc = .ok (.astore i, 2)) (hv : x.isRef = true) (hl : storeLocals Ls i x = some l') (hp : pc + 2 = pc') (k : Goes p e below K T (mkF m pc' l' (st))) : Goes p e below K T (mkF m pc Ls (x :: st)) := by subst hp; exact Goes.by' (fun _ q => XS.astore X.here hx rfl hd rfl hv hl q) k
theorem g_iinc (X : Stand p l e R s m args below meth c T locs cells slots) (hx : p.tables.exec = Jvm.exec) {i : Nat} {cst : Int} {x y : Int32} (l' : Array Slot) (hd : decode c.code pc = .ok (.iinc i cst, 3)) (hl : Ls[i]? = some (.val (.int x))) (hy : y = x + Int32.ofInt cst) (hl' : storeLocals Ls i (.int y) = some l') (hp : pc + 3 = pc') (k : Goes p e below K T (mkF m pc' l' (st))) : Goes p e below K T (mkF m pc Ls (st)) := by subst hp; exact Goes.by' (fun _ q => XS.iinc X.here hx rfl hd hl (hy ▸ hl') q) k
theorem g_ldcI (X : Stand p l e R s m args below meth c T locs cells slots) (hx : p.tables.exec = Jvm.exec) (hZ : Z.Warmed39 s.vm) {own : String} {ix : Nat} {v : Int32} (hown : s.vm.findClass own = some m.cls) (w : (Cond.constant own ix v).before a0 Z = true) (hd : decode c.code pc = .ok (.ldc ix, 2)) (hp : pc + 2 = pc') (k : Goes p e below K T (mkF m pc' Ls (.int v :: st))) : Goes p e below K T (mkF m pc Ls st) := by subst hp; exact Goes.by' (fun _ q => X.ldcI hx hown (mvT hZ w) rfl hd q) k
theorem g_ldcWI (X : Stand p l e R s m args below meth c T locs cells slots) (hx : p.tables.exec = Jvm.exec) (hZ : Z.Warmed39 s.vm) {own : String} {ix : Nat} {v : Int32} (hown : s.vm.findClass own = some m.cls) (w : (Cond.constant own ix v).before a0 Z = true) (hd : decode c.code pc = .ok (.ldc_w ix, 3)) (hp : pc + 3 = pc') (k : Goes p e below K T (mkF m pc' Ls (.int v :: st))) : Goes p e below K T (mkF m pc Ls st) := by subst hp; exact Goes.by' (fun _ q => X.ldcWI hx hown (mvT hZ w) rfl hd q) k
theorem g_ldc2J (X : Stand p l e R s m args below meth c T locs cells slots) (hx : p.tables.exec = Jvm.exec) (hZ : Z.Warmed39 s.vm) {own : String} {ix : Nat} {v : Int64} (hown : s.vm.findClass own = some m.cls) (w : (Cond.constantLong own ix v).before a0 Z = true) (hd : decode c.code pc = .ok (.ldc2_w ix, 3)) (hp : pc + 3 = pc') (k : Goes p e below K T (mkF m pc' Ls (.long v :: st))) : Goes p e below K T (mkF m pc Ls st) := by subst hp; exact Goes.by' (fun _ q => X.ldc2J hx hown (mvT hZ w) rfl hd q) k
theorem g_goto (X : Stand p l e R s m args below meth c T locs cells slots) (hx : p.tables.exec = Jvm.exec) {o : Int} (hd : decode c.code pc = .ok (.goto o, 3)) (ho : 0 ≤ (pc : Int) + o) (hp : ((pc : Int) + o).toNat = pc') (k : Goes p e below K T (mkF m pc' Ls st)) : Goes p e below K T (mkF m pc Ls st) := Goes.by' (fun _ q => XS.goto X.here hx rfl (pc0 := pc) (pc' := pc') rfl hd ho hp q) k
theorem icmp_iff (cd : ClassFile.Cond) (x y : Int32) : if_icmp.holds cd x y = true ↔ (match cd with | .eq => x = y | .ne => ¬ x = y | .lt => x < y | .ge => ¬ x < y | .gt => y < x | .le => ¬ y < x) := by cases cd <;> simp [if_icmp.holds, Int32.not_lt, Int32.not_le]
theorem g_icmp_eq (X : Stand p l e R s m args below meth c T locs cells slots) (hx : p.tables.exec = Jvm.exec) {x y : Int32} {o : Int} {pt : Nat} (hd : decode c.code pc = .ok (.if_icmp .eq o, 3)) (ho : 0 ≤ (pc : Int) + o) (hp : ((pc : Int) + o).toNat = pt) (hp' : pc + 3 = pc') (kt : x = y → Goes p e below K T (mkF m pt Ls st)) (kf : ¬ x = y → Goes p e below K T (mkF m pc' Ls st)) : Goes p e below K T (mkF m pc Ls (.int y :: .int x :: st)) := by
  subst hp'
  by_cases q : if_icmp.holds .eq x y = true
  · exact Goes.by' (fun _ r => XS.icmpYes X.here hx rfl (pc0 := pc) (pc' := pt) rfl hd rfl q ho hp r) (kt ((icmp_iff .eq x y).mp q))
  · exact Goes.by' (fun _ r => XS.icmpNo X.here hx rfl hd rfl (by simpa using q) r) (kf (id (mt (icmp_iff .eq x y).mpr q)))
theorem g_if_eq (X : Stand p l e R s m args below meth c T locs cells slots) (hx : p.tables.exec = Jvm.exec) {x : Int32} {o : Int} {pt : Nat} (hd : decode c.code pc = .ok (.ifCond .eq o, 3)) (ho : 0 ≤ (pc : Int) + o) (hp : ((pc : Int) + o).toNat = pt) (hp' : pc + 3 = pc') (kt : x = 0 → Goes p e below K T (mkF m pt Ls st)) (kf : ¬ x = 0 → Goes p e below K T (mkF m pc' Ls st)) : Goes p e below K T (mkF m pc Ls (.int x :: st)) := by
  subst hp'
  by_cases q : if_icmp.holds .eq x 0 = true
  · exact Goes.by' (fun _ r => XS.ifYes X.here hx rfl (pc0 := pc) (pc' := pt) rfl hd rfl (by rw [if0]; exact q) ho hp r) (kt ((icmp_iff .eq x 0).mp q))
  · exact Goes.by' (fun _ r => XS.ifNo X.here hx rfl hd rfl (by rw [if0]; simpa using q) r) (kf (id (mt (icmp_iff .eq x 0).mpr q)))
theorem g_icmp_ne (X : Stand p l e R s m args below meth c T locs cells slots) (hx : p.tables.exec = Jvm.exec) {x y : Int32} {o : Int} {pt : Nat} (hd : decode c.code pc = .ok (.if_icmp .ne o, 3)) (ho : 0 ≤ (pc : Int) + o) (hp : ((pc : Int) + o).toNat = pt) (hp' : pc + 3 = pc') (kt : ¬ x = y → Goes p e below K T (mkF m pt Ls st)) (kf : x = y → Goes p e below K T (mkF m pc' Ls st)) : Goes p e below K T (mkF m pc Ls (.int y :: .int x :: st)) := by
  subst hp'
  by_cases q : if_icmp.holds .ne x y = true
  · exact Goes.by' (fun _ r => XS.icmpYes X.here hx rfl (pc0 := pc) (pc' := pt) rfl hd rfl q ho hp r) (kt ((icmp_iff .ne x y).mp q))
  · exact Goes.by' (fun _ r => XS.icmpNo X.here hx rfl hd rfl (by simpa using q) r) (kf (Classical.not_not.mp (mt (icmp_iff .ne x y).mpr q)))
theorem g_if_ne (X : Stand p l e R s m args below meth c T locs cells slots) (hx : p.tables.exec = Jvm.exec) {x : Int32} {o : Int} {pt : Nat} (hd : decode c.code pc = .ok (.ifCond .ne o, 3)) (ho : 0 ≤ (pc : Int) + o) (hp : ((pc : Int) + o).toNat = pt) (hp' : pc + 3 = pc') (kt : ¬ x = 0 → Goes p e below K T (mkF m pt Ls st)) (kf : x = 0 → Goes p e below K T (mkF m pc' Ls st)) : Goes p e below K T (mkF m pc Ls (.int x :: st)) := by
  subst hp'
  by_cases q : if_icmp.holds .ne x 0 = true
  · exact Goes.by' (fun _ r => XS.ifYes X.here hx rfl (pc0 := pc) (pc' := pt) rfl hd rfl (by rw [if0]; exact q) ho hp r) (kt ((icmp_iff .ne x 0).mp q))
  · exact Goes.by' (fun _ r => XS.ifNo X.here hx rfl hd rfl (by rw [if0]; simpa using q) r) (kf (Classical.not_not.mp (mt (icmp_iff .ne x 0).mpr q)))
theorem g_icmp_lt (X : Stand p l e R s m args below meth c T locs cells slots) (hx : p.tables.exec = Jvm.exec) {x y : Int32} {o : Int} {pt : Nat} (hd : decode c.code pc = .ok (.if_icmp .lt o, 3)) (ho : 0 ≤ (pc : Int) + o) (hp : ((pc : Int) + o).toNat = pt) (hp' : pc + 3 = pc') (kt : x < y → Goes p e below K T (mkF m pt Ls st)) (kf : ¬ x < y → Goes p e below K T (mkF m pc' Ls st)) : Goes p e below K T (mkF m pc Ls (.int y :: .int x :: st)) := by
  subst hp'
  by_cases q : if_icmp.holds .lt x y = true
  · exact Goes.by' (fun _ r => XS.icmpYes X.here hx rfl (pc0 := pc) (pc' := pt) rfl hd rfl q ho hp r) (kt ((icmp_iff .lt x y).mp q))
  · exact Goes.by' (fun _ r => XS.icmpNo X.here hx rfl hd rfl (by simpa using q) r) (kf (id (mt (icmp_iff .lt x y).mpr q)))
theorem g_if_lt (X : Stand p l e R s m args below meth c T locs cells slots) (hx : p.tables.exec = Jvm.exec) {x : Int32} {o : Int} {pt : Nat} (hd : decode c.code pc = .ok (.ifCond .lt o, 3)) (ho : 0 ≤ (pc : Int) + o) (hp : ((pc : Int) + o).toNat = pt) (hp' : pc + 3 = pc') (kt : x < 0 → Goes p e below K T (mkF m pt Ls st)) (kf : ¬ x < 0 → Goes p e below K T (mkF m pc' Ls st)) : Goes p e below K T (mkF m pc Ls (.int x :: st)) := by
  subst hp'
  by_cases q : if_icmp.holds .lt x 0 = true
  · exact Goes.by' (fun _ r => XS.ifYes X.here hx rfl (pc0 := pc) (pc' := pt) rfl hd rfl (by rw [if0]; exact q) ho hp r) (kt ((icmp_iff .lt x 0).mp q))
  · exact Goes.by' (fun _ r => XS.ifNo X.here hx rfl hd rfl (by rw [if0]; simpa using q) r) (kf (id (mt (icmp_iff .lt x 0).mpr q)))
theorem g_icmp_ge (X : Stand p l e R s m args below meth c T locs cells slots) (hx : p.tables.exec = Jvm.exec) {x y : Int32} {o : Int} {pt : Nat} (hd : decode c.code pc = .ok (.if_icmp .ge o, 3)) (ho : 0 ≤ (pc : Int) + o) (hp : ((pc : Int) + o).toNat = pt) (hp' : pc + 3 = pc') (kt : ¬ x < y → Goes p e below K T (mkF m pt Ls st)) (kf : x < y → Goes p e below K T (mkF m pc' Ls st)) : Goes p e below K T (mkF m pc Ls (.int y :: .int x :: st)) := by
  subst hp'
  by_cases q : if_icmp.holds .ge x y = true
  · exact Goes.by' (fun _ r => XS.icmpYes X.here hx rfl (pc0 := pc) (pc' := pt) rfl hd rfl q ho hp r) (kt ((icmp_iff .ge x y).mp q))
  · exact Goes.by' (fun _ r => XS.icmpNo X.here hx rfl hd rfl (by simpa using q) r) (kf (Classical.not_not.mp (mt (icmp_iff .ge x y).mpr q)))
theorem g_if_ge (X : Stand p l e R s m args below meth c T locs cells slots) (hx : p.tables.exec = Jvm.exec) {x : Int32} {o : Int} {pt : Nat} (hd : decode c.code pc = .ok (.ifCond .ge o, 3)) (ho : 0 ≤ (pc : Int) + o) (hp : ((pc : Int) + o).toNat = pt) (hp' : pc + 3 = pc') (kt : ¬ x < 0 → Goes p e below K T (mkF m pt Ls st)) (kf : x < 0 → Goes p e below K T (mkF m pc' Ls st)) : Goes p e below K T (mkF m pc Ls (.int x :: st)) := by
  subst hp'
  by_cases q : if_icmp.holds .ge x 0 = true
  · exact Goes.by' (fun _ r => XS.ifYes X.here hx rfl (pc0 := pc) (pc' := pt) rfl hd rfl (by rw [if0]; exact q) ho hp r) (kt ((icmp_iff .ge x 0).mp q))
  · exact Goes.by' (fun _ r => XS.ifNo X.here hx rfl hd rfl (by rw [if0]; simpa using q) r) (kf (Classical.not_not.mp (mt (icmp_iff .ge x 0).mpr q)))
theorem g_icmp_gt (X : Stand p l e R s m args below meth c T locs cells slots) (hx : p.tables.exec = Jvm.exec) {x y : Int32} {o : Int} {pt : Nat} (hd : decode c.code pc = .ok (.if_icmp .gt o, 3)) (ho : 0 ≤ (pc : Int) + o) (hp : ((pc : Int) + o).toNat = pt) (hp' : pc + 3 = pc') (kt : y < x → Goes p e below K T (mkF m pt Ls st)) (kf : ¬ y < x → Goes p e below K T (mkF m pc' Ls st)) : Goes p e below K T (mkF m pc Ls (.int y :: .int x :: st)) := by
  subst hp'
  by_cases q : if_icmp.holds .gt x y = true
  · exact Goes.by' (fun _ r => XS.icmpYes X.here hx rfl (pc0 := pc) (pc' := pt) rfl hd rfl q ho hp r) (kt ((icmp_iff .gt x y).mp q))
  · exact Goes.by' (fun _ r => XS.icmpNo X.here hx rfl hd rfl (by simpa using q) r) (kf (id (mt (icmp_iff .gt x y).mpr q)))
theorem g_if_gt (X : Stand p l e R s m args below meth c T locs cells slots) (hx : p.tables.exec = Jvm.exec) {x : Int32} {o : Int} {pt : Nat} (hd : decode c.code pc = .ok (.ifCond .gt o, 3)) (ho : 0 ≤ (pc : Int) + o) (hp : ((pc : Int) + o).toNat = pt) (hp' : pc + 3 = pc') (kt : 0 < x → Goes p e below K T (mkF m pt Ls st)) (kf : ¬ 0 < x → Goes p e below K T (mkF m pc' Ls st)) : Goes p e below K T (mkF m pc Ls (.int x :: st)) := by
  subst hp'
  by_cases q : if_icmp.holds .gt x 0 = true
  · exact Goes.by' (fun _ r => XS.ifYes X.here hx rfl (pc0 := pc) (pc' := pt) rfl hd rfl (by rw [if0]; exact q) ho hp r) (kt ((icmp_iff .gt x 0).mp q))
  · exact Goes.by' (fun _ r => XS.ifNo X.here hx rfl hd rfl (by rw [if0]; simpa using q) r) (kf (id (mt (icmp_iff .gt x 0).mpr q)))
theorem g_icmp_le (X : Stand p l e R s m args below meth c T locs cells slots) (hx : p.tables.exec = Jvm.exec) {x y : Int32} {o : Int} {pt : Nat} (hd : decode c.code pc = .ok (.if_icmp .le o, 3)) (ho : 0 ≤ (pc : Int) + o) (hp : ((pc : Int) + o).toNat = pt) (hp' : pc + 3 = pc') (kt : ¬ y < x → Goes p e below K T (mkF m pt Ls st)) (kf : y < x → Goes p e below K T (mkF m pc' Ls st)) : Goes p e below K T (mkF m pc Ls (.int y :: .int x :: st)) := by
  subst hp'
  by_cases q : if_icmp.holds .le x y = true
  · exact Goes.by' (fun _ r => XS.icmpYes X.here hx rfl (pc0 := pc) (pc' := pt) rfl hd rfl q ho hp r) (kt ((icmp_iff .le x y).mp q))
  · exact Goes.by' (fun _ r => XS.icmpNo X.here hx rfl hd rfl (by simpa using q) r) (kf (Classical.not_not.mp (mt (icmp_iff .le x y).mpr q)))
theorem g_if_le (X : Stand p l e R s m args below meth c T locs cells slots) (hx : p.tables.exec = Jvm.exec) {x : Int32} {o : Int} {pt : Nat} (hd : decode c.code pc = .ok (.ifCond .le o, 3)) (ho : 0 ≤ (pc : Int) + o) (hp : ((pc : Int) + o).toNat = pt) (hp' : pc + 3 = pc') (kt : ¬ 0 < x → Goes p e below K T (mkF m pt Ls st)) (kf : 0 < x → Goes p e below K T (mkF m pc' Ls st)) : Goes p e below K T (mkF m pc Ls (.int x :: st)) := by
  subst hp'
  by_cases q : if_icmp.holds .le x 0 = true
  · exact Goes.by' (fun _ r => XS.ifYes X.here hx rfl (pc0 := pc) (pc' := pt) rfl hd rfl (by rw [if0]; exact q) ho hp r) (kt ((icmp_iff .le x 0).mp q))
  · exact Goes.by' (fun _ r => XS.ifNo X.here hx rfl hd rfl (by rw [if0]; simpa using q) r) (kf (Classical.not_not.mp (mt (icmp_iff .le x 0).mpr q)))
theorem g_ifnull_t (X : Stand p l e R s m args below meth c T locs cells slots) (hx : p.tables.exec = Jvm.exec) {o : Int} {pt : Nat} (hd : decode c.code pc = .ok (.ifnull o, 3)) (ho : 0 ≤ (pc : Int) + o) (hp : ((pc : Int) + o).toNat = pt) (k : Goes p e below K T (mkF m pt Ls st)) : Goes p e below K T (mkF m pc Ls (.null :: st)) := Goes.by' (fun _ r => XS.ifnullYes X.here hx rfl (pc0 := pc) (pc' := pt) rfl hd rfl ho hp r) k
theorem g_ifnull_f (X : Stand p l e R s m args below meth c T locs cells slots) (hx : p.tables.exec = Jvm.exec) {o : Int} {a : Addr} (hd : decode c.code pc = .ok (.ifnull o, 3)) (hp : pc + 3 = pc') (k : Goes p e below K T (mkF m pc' Ls st)) : Goes p e below K T (mkF m pc Ls (.ref a :: st)) := by subst hp; exact Goes.by' (fun _ r => XS.ifnullNo X.here hx rfl hd rfl r) k
theorem g_ifnonnull_t (X : Stand p l e R s m args below meth c T locs cells slots) (hx : p.tables.exec = Jvm.exec) {o : Int} {a : Addr} {pt : Nat} (hd : decode c.code pc = .ok (.ifnonnull o, 3)) (ho : 0 ≤ (pc : Int) + o) (hp : ((pc : Int) + o).toNat = pt) (k : Goes p e below K T (mkF m pt Ls st)) : Goes p e below K T (mkF m pc Ls (.ref a :: st)) := Goes.by' (fun _ r => XT.ifnonnullYes X.here hx rfl (pc0 := pc) (pc' := pt) rfl hd rfl ho hp r) k
theorem g_ifnonnull_f (X : Stand p l e R s m args below meth c T locs cells slots) (hx : p.tables.exec = Jvm.exec) {o : Int} (hd : decode c.code pc = .ok (.ifnonnull o, 3)) (hp : pc + 3 = pc') (k : Goes p e below K T (mkF m pc' Ls st)) : Goes p e below K T (mkF m pc Ls (.null :: st)) := by subst hp; exact Goes.by' (fun _ r => XT.ifnonnullNo X.here hx rfl hd rfl r) k
theorem g_acmp_eq (X : Stand p l e R s m args below meth c T locs cells slots) (hx : p.tables.exec = Jvm.exec) {x y : Value} {o : Int} {pt : Nat} (hd : decode c.code pc = .ok (.if_acmp .eq o, 3)) (hx' : x.isRef = true) (hy' : y.isRef = true) (ho : 0 ≤ (pc : Int) + o) (hp : ((pc : Int) + o).toNat = pt) (hp' : pc + 3 = pc') (kt : x = y → Goes p e below K T (mkF m pt Ls st)) (kf : ¬ x = y → Goes p e below K T (mkF m pc' Ls st)) : Goes p e below K T (mkF m pc Ls (y :: x :: st)) := by
  subst hp'
  by_cases q : x = y
  · exact Goes.by' (fun _ r => XT.acmpYes X.here hx rfl (pc0 := pc) (pc' := pt) rfl hd rfl hx' hy' (by simp [XT.acmp, q]) ho hp r) (kt q)
  · exact Goes.by' (fun _ r => XT.acmpNo X.here hx rfl hd rfl hx' hy' (by simp [XT.acmp, q]) r) (kf q)
theorem g_acmp_ne (X : Stand p l e R s m args below meth c T locs cells slots) (hx : p.tables.exec = Jvm.exec) {x y : Value} {o : Int} {pt : Nat} (hd : decode c.code pc = .ok (.if_acmp .ne o, 3)) (hx' : x.isRef = true) (hy' : y.isRef = true) (ho : 0 ≤ (pc : Int) + o) (hp : ((pc : Int) + o).toNat = pt) (hp' : pc + 3 = pc') (kt : ¬ x = y → Goes p e below K T (mkF m pt Ls st)) (kf : x = y → Goes p e below K T (mkF m pc' Ls st)) : Goes p e below K T (mkF m pc Ls (y :: x :: st)) := by
  subst hp'
  by_cases q : x = y
  · exact Goes.by' (fun _ r => XT.acmpNo X.here hx rfl hd rfl hx' hy' (by simp [XT.acmp, q]) r) (kf q)
  · exact Goes.by' (fun _ r => XT.acmpYes X.here hx rfl (pc0 := pc) (pc' := pt) rfl hd rfl hx' hy' (by simp [XT.acmp, q]) ho hp r) (kt q)
theorem g_lsw (X : Stand p l e R s m args below meth c T locs cells slots) (hx : p.tables.exec = Jvm.exec) {i : Int32} {dflt o : Int} {prs : Array (Int × Int)} {len pt : Nat} (hd : decode c.code pc = .ok (.lookupswitch dflt prs, len)) (hso : ∀ (a b a_1 b_1 : Int), ((a, b), a_1, b_1) ∈ prs.toList.zip prs.toList.tail → a < a_1) (hoff : lookupswitch.offset prs.toList dflt i.toInt = o) (ho : 0 ≤ (pc : Int) + o) (hp : ((pc : Int) + o).toNat = pt) (k : Goes p e below K T (mkF m pt Ls st)) : Goes p e below K T (mkF m pc Ls (.int i :: st)) := by
  subst hp
  refine Goes.by' (fun t q => ?_) k
  show Steps p.tables e below (T.setTop { method := m, pc := pc, locals := Ls, stack := .int i :: st, locked := none }) t
  jvm_step X.here [X.here.top, hx, hd, lookupswitch.wp_chain, hoff, ho]
  exact ⟨hso, q⟩
theorem g_tsw (X : Stand p l e R s m args below meth c T locs cells slots) (hx : p.tables.exec = Jvm.exec) {i : Int32} {dflt lo hi o : Int} {offs : Array Int} {len pt : Nat} (hd : decode c.code pc = .ok (.tableswitch dflt lo hi offs, len)) (hin : ¬ (i.toInt < lo ∨ i.toInt > hi)) (hoff : offs[(i.toInt - lo).toNat]? = some o) (ho : 0 ≤ (pc : Int) + o) (hp : ((pc : Int) + o).toNat = pt) (k : Goes p e below K T (mkF m pt Ls st)) : Goes p e below K T (mkF m pc Ls (.int i :: st)) := Goes.by' (fun _ q => XS.tswIn X.here hx rfl (pc0 := pc) (pc' := pt) rfl hd rfl hin hoff ho hp q) k
theorem g_tswD (X : Stand p l e R s m args below meth c T locs cells slots) (hx : p.tables.exec = Jvm.exec) {i : Int32} {dflt lo hi : Int} {offs : Array Int} {len pt : Nat} (hd : decode c.code pc = .ok (.tableswitch dflt lo hi offs, len)) (hout : i.toInt < lo ∨ i.toInt > hi) (ho : 0 ≤ (pc : Int) + dflt) (hp : ((pc : Int) + dflt).toNat = pt) (k : Goes p e below K T (mkF m pt Ls st)) : Goes p e below K T (mkF m pc Ls (.int i :: st)) := Goes.by' (fun _ q => XS.tswOut X.here hx rfl (pc0 := pc) (pc' := pt) rfl hd rfl hout ho hp q) k
theorem g_getF (X : Stand p l e R s m args below meth c T locs cells slots) (hx : p.tables.exec = Jvm.exec) (hZ : Z.Warmed39 s.vm) {own O n d : String} {ix : Nat} {a : Addr} {v : Value} (hown : s.vm.findClass own = some m.cls) (w : (Cond.fieldLink own ix O n d).before a0 Z = true) (eT : T.heap = h) (F : Fld Z h a O n d v) (hd : decode c.code pc = .ok (.getfield ix, 3)) (hp : pc + 3 = pc') (k : ∀ T', Stand p l e R s m args below meth c T' locs cells slots → T'.heap = h → Goes p e below K T' (mkF m pc' Ls (v :: st))) : Goes p e below K T (mkF m pc Ls (.ref a :: st)) := by
  subst hp
  obtain ⟨T1, X1, e1, f1⟩ := getF X hx hZ hown (host := "") (Or.inl w) Via.refl eT F (g := mkF m pc Ls (.ref a :: st)) rfl rfl hd
  exact Goes.by' f1 (k T1 X1 e1)
theorem g_getS (X : Stand p l e R s m args below meth c T locs cells slots) (hx : p.tables.exec = Jvm.exec) (hZ : Z.Warmed39 s.vm) {own O n d : String} {ix : Nat} {v : Value} (hown : s.vm.findClass own = some m.cls) (w : (Cond.fieldLink own ix O n d).before a0 Z = true) (eT : T.heap = h) (F : Sta Z h O n d v) (hd : decode c.code pc = .ok (.getstatic ix, 3)) (hp : pc + 3 = pc') (k : ∀ T', Stand p l e R s m args below meth c T' locs cells slots → T'.heap = h → Goes p e below K T' (mkF m pc' Ls (v :: st))) : Goes p e below K T (mkF m pc Ls st) := by
  subst hp
  obtain ⟨T1, X1, e1, f1⟩ := getS X hx hZ hown (host := "") w Via.refl eT F (g := mkF m pc Ls st) rfl hd
  exact Goes.by' f1 (k T1 X1 e1)
theorem g_putF (X : Stand p l e R s m args below meth c T locs cells slots) (hx : p.tables.exec = Jvm.exec) (hZ : Z.Warmed39 s.vm) {own O n d C : String} {ix kk : Nat} {ty : FieldType} {a : Addr} {v old : Value} (hown : s.vm.findClass own = some m.cls) (w : (Cond.fieldLink own ix O n d).before a0 Z = true) (eT : T.heap = h) (F : Fld Z h a O n d old) (E : Exa Z h a C) (L : (Cond.lays C O n d).before a0 Z = true ∨ ((Cond.laysFinal C O n d).before a0 Z = true ∧ own = O ∧ meth.name = "<init>")) (wi : (Cond.instantiable C kk).before a0 Z = true) (hty : parseFieldDescriptor d = some ty) (hn : narrow ty v = v) (hf : fits ty v = true) (hd : decode c.code pc = .ok (.putfield ix, 3)) (hp : pc + 3 = pc') (k : ∀ T' h', Stand p l e R s m args below meth c T' (locs ++ [⟨a, Jvm.RoadKit.slotOf Z O n d⟩]) cells slots → T'.heap = h' → Wr h h' a (Jvm.RoadKit.slotOf Z O n d) v → Goes p e below K T' (mkF m pc' Ls st)) : Goes p e below K T (mkF m pc Ls (v :: .ref a :: st)) := by
  subst hp
  obtain ⟨T1, h1, X1, e1, W1, f1⟩ := putF X hx hZ hown (host := "") (Or.inl w) Via.refl eT F E L wi hty hn hf (g := mkF m pc Ls (v :: .ref a :: st)) rfl rfl hd
  exact Goes.by' f1 (k T1 h1 X1 e1 W1)
theorem g_new (X : Stand p l e R s m args below meth c T locs cells slots) (hx : p.tables.exec = Jvm.exec) (hZ : Z.Warmed39 s.vm) {own C : String} {ix n : Nat} (hown : s.vm.findClass own = some m.cls) (w : (Cond.classLink own ix C).before a0 Z = true) (wi : (Cond.instantiable C n).before a0 Z = true) (wz : (Cond.initialized C).before a0 Z = true) (eT : T.heap = h) (hd : decode c.code pc = .ok (.new ix, 3)) (hp : pc + 3 = pc') (hc : cells + 1 ≤ R.cells) (hl : slots + n ≤ R.slots) (k : ∀ T' h' a, Stand p l e R s m args below meth c T' locs (cells + 1) (slots + n) → T'.heap = h' → a = h.size → Ext h h' → Exa Z h' a C → (∀ {O nm d : String} {ty : FieldType}, Laid Z a0 C O nm d → parseFieldDescriptor d = some ty → Fld Z h' a O nm d (defaultValue ty)) → Goes p e below K T' (mkF m pc' Ls (.ref a :: st))) : Goes p e below K T (mkF m pc Ls st) := by
  subst hp
  obtain ⟨T1, h1, X1, e1, E1, A1, D1, -, f1⟩ := newO X hx hZ hown w wi wz eT (g := mkF m pc Ls st) rfl hd hc hl
  exact Goes.by' f1 (k T1 h1 _ X1 e1 rfl E1 A1 D1)
theorem g_newarr (X : Stand p l e R s m args below meth c T locs cells slots) (hx : p.tables.exec = Jvm.exec) (hZ : Z.Warmed39 s.vm) {aty : ArrayType} {ty : FieldType} (hty : newarray.typeOf aty = ty) (w : (Cond.arrayClass ty).before a0 Z = true) (eT : T.heap = h) {n : Int32} (hd : decode c.code pc = .ok (.newarray aty, 2)) (hp : pc + 2 = pc') (hn : ¬ n < 0) (cap : Nat) (hcap : n.toNatClampNeg ≤ cap) (hb : cap * 8 ≤ 536870912) (hc : cells + 1 ≤ R.cells) (hl : slots + cap ≤ R.slots) (k : ∀ T' h' cA a, Stand p l e R s m args below meth c T' locs (cells + 1) (slots + cap) → T'.heap = h' → a = h.size → Ext h h' → Arr Z h' a (newA cA ty n) ty → Goes p e below K T' (mkF m pc' Ls (.ref a :: st))) : Goes p e below K T (mkF m pc Ls (.int n :: st)) := by
  subst hp hty
  obtain ⟨T1, h1, cA, X1, e1, E1, A1, f1⟩ := newP X hx hZ w eT (g := mkF m pc Ls (.int n :: st)) rfl hd rfl hn hcap hb hc hl
  exact Goes.by' f1 (k T1 h1 cA _ X1 e1 rfl E1 A1)
theorem g_newR (X : Stand p l e R s m args below meth c T locs cells slots) (hx : p.tables.exec = Jvm.exec) (hZ : Z.Warmed39 s.vm) {own C : String} {ix : Nat} (hown : s.vm.findClass own = some m.cls) (w1 : (Cond.classLink own ix C).before a0 Z = true) (w2 : (Cond.arrayOver (.object C)).before a0 Z = true) (eT : T.heap = h) {n : Int32} (hd : decode c.code pc = .ok (.anewarray ix, 3)) (hp : pc + 3 = pc') (hn : ¬ n < 0) (cap : Nat) (hcap : n.toNatClampNeg ≤ cap) (hb : cap * 8 ≤ 536870912) (hc : cells + 1 ≤ R.cells) (hl : slots + cap ≤ R.slots) (k : ∀ T' h' cA a, Stand p l e R s m args below meth c T' locs (cells + 1) (slots + cap) → T'.heap = h' → a = h.size → Ext h h' → Arr Z h' a (newA cA (.object C) n) (.object C) → Ovr Z cA C → Goes p e below K T' (mkF m pc' Ls (.ref a :: st))) : Goes p e below K T (mkF m pc Ls (.int n :: st)) := by
  subst hp
  obtain ⟨T1, h1, cA, X1, e1, E1, A1, O1, f1⟩ := newR X hx hZ hown w1 w2 eT (g := mkF m pc Ls (.int n :: st)) rfl hd rfl hn hcap hb hc hl
  exact Goes.by' f1 (k T1 h1 cA _ X1 e1 rfl E1 A1 O1)
theorem g_initO (X : Stand p l e R s m args below meth c T locs cells slots) (hx : p.tables.exec = Jvm.exec) (hZ : Z.Warmed39 s.vm) {own : String} {ix : Nat} {a : Addr} (hown : s.vm.findClass own = some m.cls) (w1 : (Cond.methodLink own ix Lib.objectInit).before a0 Z = true) (w2 : (Cond.instanceMethod Lib.objectInit).before a0 Z = true) (w3 : (Cond.code Lib.objectInit ⟨#[0xb1]⟩ 1 none).before a0 Z = true) (eT : T.heap = h) (hsz : Ls.size = c.maxLocals) (hd : decode c.code pc = .ok (.invokespecial ix, 3)) (hp : pc + 3 = pc') (hf : 1 ≤ R.frames) (hl : (st.map fun v => v.category).sum + 12 ≤ R.locals) (k : ∀ T', Stand p l e R s m args below meth c T' locs cells slots → T'.heap = h → Goes p e below K T' (mkF m pc' Ls st)) : Goes p e below K T (mkF m pc Ls (.ref a :: st)) := by
  subst hp
  obtain ⟨T1, X1, e1, f1⟩ := initO X hx hZ hown w1 w2 w3 eT (g := mkF m pc Ls (.ref a :: st)) rfl hsz rfl hd hf (W := (st.map fun v => v.category).sum) (by show 2 * 0 + _ ≤ _; omega) hl
  exact Goes.by' f1 (k T1 X1 e1)
theorem g_iaload (X : Stand p l e R s m args below meth c T locs cells slots) (hx : p.tables.exec = Jvm.exec) (hZ : Z.Warmed39 s.vm) (eT : T.heap = h) {a : Addr} {cl : Cell} {j : Int32} {v : Value} (A : Arr Z h a cl .int) (hin : ¬ (j < 0 ∨ cl.slots.size ≤ j.toNatClampNeg)) (hat : cl.slots[j.toNatClampNeg]? = some v) (hd : decode c.code pc = .ok (.iaload, 1)) (hp : pc + 1 = pc') (k : Goes p e below K T (mkF m pc' Ls (v :: st))) : Goes p e below K T (mkF m pc Ls (.int j :: .ref a :: st)) := by
  subst hp
  exact Goes.by' (fun _ q => X.iaload hx (j := j) (v := v) (by rw [eT]; exact A.1) (State.isArrayOf_alike hZ.alike A.2.1) A.2.2 hin hat (g := mkF m pc Ls (.int j :: .ref a :: st)) rfl rfl hd _ q) k
theorem g_laload (X : Stand p l e R s m args below meth c T locs cells slots) (hx : p.tables.exec = Jvm.exec) (hZ : Z.Warmed39 s.vm) (eT : T.heap = h) {a : Addr} {cl : Cell} {j : Int32} {v : Value} (A : Arr Z h a cl .long) (hin : ¬ (j < 0 ∨ cl.slots.size ≤ j.toNatClampNeg)) (hat : cl.slots[j.toNatClampNeg]? = some v) (hd : decode c.code pc = .ok (.laload, 1)) (hp : pc + 1 = pc') (k : Goes p e below K T (mkF m pc' Ls (v :: st))) : Goes p e below K T (mkF m pc Ls (.int j :: .ref a :: st)) := by
  subst hp
  exact Goes.by' (fun _ q => X.laload hx (j := j) (v := v) (by rw [eT]; exact A.1) (State.isArrayOf_alike hZ.alike A.2.1) A.2.2 hin hat (g := mkF m pc Ls (.int j :: .ref a :: st)) rfl rfl hd _ q) k
theorem g_caload (X : Stand p l e R s m args below meth c T locs cells slots) (hx : p.tables.exec = Jvm.exec) (hZ : Z.Warmed39 s.vm) (eT : T.heap = h) {a : Addr} {cl : Cell} {j : Int32} {v : Value} (A : Arr Z h a cl .char) (hin : ¬ (j < 0 ∨ cl.slots.size ≤ j.toNatClampNeg)) (hat : cl.slots[j.toNatClampNeg]? = some v) (hd : decode c.code pc = .ok (.caload, 1)) (hp : pc + 1 = pc') (k : Goes p e below K T (mkF m pc' Ls (v :: st))) : Goes p e below K T (mkF m pc Ls (.int j :: .ref a :: st)) := by
  subst hp
  exact Goes.by' (fun _ q => X.caload hx (j := j) (v := v) (by rw [eT]; exact A.1) (State.isArrayOf_alike hZ.alike A.2.1) A.2.2 hin hat (g := mkF m pc Ls (.int j :: .ref a :: st)) rfl rfl hd _ q) k
theorem g_baload (X : Stand p l e R s m args below meth c T locs cells slots) (hx : p.tables.exec = Jvm.exec) (hZ : Z.Warmed39 s.vm) (eT : T.heap = h) {a : Addr} {cl : Cell} {j : Int32} {v : Value} (A : Arr Z h a cl .byte) (hin : ¬ (j < 0 ∨ cl.slots.size ≤ j.toNatClampNeg)) (hat : cl.slots[j.toNatClampNeg]? = some v) (hd : decode c.code pc = .ok (.baload, 1)) (hp : pc + 1 = pc') (k : Goes p e below K T (mkF m pc' Ls (v :: st))) : Goes p e below K T (mkF m pc Ls (.int j :: .ref a :: st)) := by
  subst hp
  exact Goes.by' (fun _ q => X.baloadBytes hx (j := j) (v := v) (by rw [eT]; exact A.1) (State.isArrayOf_alike hZ.alike A.2.1) A.2.2 hin hat (g := mkF m pc Ls (.int j :: .ref a :: st)) rfl rfl hd _ q) k
theorem g_aaload (X : Stand p l e R s m args below meth c T locs cells slots) (hx : p.tables.exec = Jvm.exec) (hZ : Z.Warmed39 s.vm) (eT : T.heap = h) {a : Addr} {cl : Cell} {ty : FieldType} {j : Int32} {v : Value} (A : Arr Z h a cl ty) (hty : ty.isReference = true) (hin : ¬ (j < 0 ∨ cl.slots.size ≤ j.toNatClampNeg)) (hat : cl.slots[j.toNatClampNeg]? = some v) (hd : decode c.code pc = .ok (.aaload, 1)) (hp : pc + 1 = pc') (k : Goes p e below K T (mkF m pc' Ls (v :: st))) : Goes p e below K T (mkF m pc Ls (.int j :: .ref a :: st)) := by
  subst hp
  exact Goes.by' (fun _ q => X.aaload hx (j := j) (v := v) (by rw [eT]; exact A.1) (State.isArrayOf_alike hZ.alike A.2.1) hty A.2.2 hin hat (g := mkF m pc Ls (.int j :: .ref a :: st)) rfl rfl hd _ q) k
theorem g_arraylength (X : Stand p l e R s m args below meth c T locs cells slots) (hx : p.tables.exec = Jvm.exec) (hZ : Z.Warmed39 s.vm) (eT : T.heap = h) {a : Addr} {cl : Cell} {ty : FieldType} {n : Int32} (A : Arr Z h a cl ty) (hn : cl.slots.size.toInt32 = n) (hd : decode c.code pc = .ok (.arraylength, 1)) (hp : pc + 1 = pc') (k : Goes p e below K T (mkF m pc' Ls (.int n :: st))) : Goes p e below K T (mkF m pc Ls (.ref a :: st)) := by
  subst hp hn
  exact Goes.by' (fun _ q => X.arraylength hx (by rw [eT]; exact A.1) (State.isArrayOf_alike hZ.alike A.2.1) (g := mkF m pc Ls (.ref a :: st)) rfl rfl hd _ q) k
theorem g_iastore (X : Stand p l e R s m args below meth c T locs cells slots) (hx : p.tables.exec = Jvm.exec) (hZ : Z.Warmed39 s.vm) (eT : T.heap = h) {a : Addr} {cl : Cell} {j : Int32} {x : Int32} (A : Arr Z h a cl .int) (hin : ¬ (j < 0 ∨ cl.slots.size ≤ j.toNatClampNeg)) (hd : decode c.code pc = .ok (.iastore, 1)) (hp : pc + 1 = pc') (k : ∀ T' h', Stand p l e R s m args below meth c T' (locs ++ [⟨a, j.toNatClampNeg⟩]) cells slots → T'.heap = h' → Wr h h' a j.toNatClampNeg (.int x) → Goes p e below K T' (mkF m pc' Ls st)) : Goes p e below K T (mkF m pc Ls (.int x :: .int j :: .ref a :: st)) := by
  subst hp
  obtain ⟨T1, h1, X1, e1, W1, f1⟩ := stI X hx hZ eT A hin (g := mkF m pc Ls (.int x :: .int j :: .ref a :: st)) rfl rfl hd
  exact Goes.by' f1 (k T1 h1 X1 e1 W1)
theorem g_lastore (X : Stand p l e R s m args below meth c T locs cells slots) (hx : p.tables.exec = Jvm.exec) (hZ : Z.Warmed39 s.vm) (eT : T.heap = h) {a : Addr} {cl : Cell} {j : Int32} {x : Int64} (A : Arr Z h a cl .long) (hin : ¬ (j < 0 ∨ cl.slots.size ≤ j.toNatClampNeg)) (hd : decode c.code pc = .ok (.lastore, 1)) (hp : pc + 1 = pc') (k : ∀ T' h', Stand p l e R s m args below meth c T' (locs ++ [⟨a, j.toNatClampNeg⟩]) cells slots → T'.heap = h' → Wr h h' a j.toNatClampNeg (.long x) → Goes p e below K T' (mkF m pc' Ls st)) : Goes p e below K T (mkF m pc Ls (.long x :: .int j :: .ref a :: st)) := by
  subst hp
  obtain ⟨T1, h1, X1, e1, W1, f1⟩ := stJ X hx hZ eT A hin (g := mkF m pc Ls (.long x :: .int j :: .ref a :: st)) rfl rfl hd
  exact Goes.by' f1 (k T1 h1 X1 e1 W1)
theorem g_castore (X : Stand p l e R s m args below meth c T locs cells slots) (hx : p.tables.exec = Jvm.exec) (hZ : Z.Warmed39 s.vm) (eT : T.heap = h) {a : Addr} {cl : Cell} {j : Int32} {x : Int32} (A : Arr Z h a cl .char) (hin : ¬ (j < 0 ∨ cl.slots.size ≤ j.toNatClampNeg)) (hd : decode c.code pc = .ok (.castore, 1)) (hp : pc + 1 = pc') (k : ∀ T' h', Stand p l e R s m args below meth c T' (locs ++ [⟨a, j.toNatClampNeg⟩]) cells slots → T'.heap = h' → Wr h h' a j.toNatClampNeg (.int (nar .char x)) → Goes p e below K T' (mkF m pc' Ls st)) : Goes p e below K T (mkF m pc Ls (.int x :: .int j :: .ref a :: st)) := by
  subst hp
  obtain ⟨T1, h1, X1, e1, W1, f1⟩ := stC X hx hZ eT A hin (g := mkF m pc Ls (.int x :: .int j :: .ref a :: st)) rfl rfl hd
  exact Goes.by' f1 (k T1 h1 X1 e1 W1)
theorem g_bastore (X : Stand p l e R s m args below meth c T locs cells slots) (hx : p.tables.exec = Jvm.exec) (hZ : Z.Warmed39 s.vm) (eT : T.heap = h) {a : Addr} {cl : Cell} {j : Int32} {x : Int32} (A : Arr Z h a cl .byte) (hin : ¬ (j < 0 ∨ cl.slots.size ≤ j.toNatClampNeg)) (hd : decode c.code pc = .ok (.bastore, 1)) (hp : pc + 1 = pc') (k : ∀ T' h', Stand p l e R s m args below meth c T' (locs ++ [⟨a, j.toNatClampNeg⟩]) cells slots → T'.heap = h' → Wr h h' a j.toNatClampNeg (.int (nar .byte x)) → Goes p e below K T' (mkF m pc' Ls st)) : Goes p e below K T (mkF m pc Ls (.int x :: .int j :: .ref a :: st)) := by
  subst hp
  obtain ⟨T1, h1, X1, e1, W1, f1⟩ := stB X hx hZ eT A hin (g := mkF m pc Ls (.int x :: .int j :: .ref a :: st)) rfl rfl hd
  exact Goes.by' f1 (k T1 h1 X1 e1 W1)
theorem g_aastore (X : Stand p l e R s m args below meth c T locs cells slots) (hx : p.tables.exec = Jvm.exec) (hZ : Z.Warmed39 s.vm) (eT : T.heap = h) {a : Addr} {cl : Cell} {ty : FieldType} {j : Int32} {v : Value} (A : Arr Z h a cl ty) (hty : ty.isReference = true) (F : Sto Z h a v) (hin : ¬ (j < 0 ∨ cl.slots.size ≤ j.toNatClampNeg)) (hd : decode c.code pc = .ok (.aastore, 1)) (hp : pc + 1 = pc') (k : ∀ T' h', Stand p l e R s m args below meth c T' (locs ++ [⟨a, j.toNatClampNeg⟩]) cells slots → T'.heap = h' → Wr h h' a j.toNatClampNeg v → Goes p e below K T' (mkF m pc' Ls st)) : Goes p e below K T (mkF m pc Ls (v :: .int j :: .ref a :: st)) := by
  subst hp
  obtain ⟨T1, h1, X1, e1, W1, f1⟩ := stR X hx hZ eT A hin hty F (g := mkF m pc Ls (v :: .int j :: .ref a :: st)) rfl rfl hd
  exact Goes.by' f1 (k T1 h1 X1 e1 W1)
theorem g_callS (X : Stand p l e R s m args below meth c T locs cells slots) (hx : p.tables.exec = Jvm.exec) (hZ : Z.Warmed39 s.vm) {own : String} {ix : Nat} {y : MethodName} {bytes : ByteArray} {maxL : Nat} {ret : Option FieldType} {rm : Room} {as' : Array Value} {Q : Option Value → Heap → List Loc → Prop} (hown : s.vm.findClass own = some m.cls) (w1 : (Cond.methodLink own ix y).before a0 Z = true) (w2 : (Cond.static y).before a0 Z = true) (w3 : (Cond.initialized y.cls).before a0 Z = true) (w4 : (Cond.code y bytes maxL ret).before a0 Z = true) (hy : y.cls ≠ "java/lang/invoke/MethodHandle" ∧ y.cls ≠ "java/lang/invoke/VarHandle") (eT : T.heap = h) (C : Ctr l Z y bytes maxL ret [] rm rm.cells rm.slots as' h Q) (hsz : Ls.size = c.maxLocals) (argsL rest : List Value) (has : argsL.toArray = as') (hlen : ∀ sig, parseMethodDescriptor y.desc = some sig → argsL.length = sig.parameters.length) (hst : st = argsL.reverse ++ rest) (hl : (rest.map fun v => v.category).sum + (maxL + 11) + rm.locals ≤ R.locals) (hf : rm.frames + 1 ≤ R.frames) (hc : cells + rm.cells ≤ R.cells) (hsl : slots + rm.slots ≤ R.slots) (hd : decode c.code pc = .ok (.invokestatic ix, 3)) (hp : pc + 3 = pc') (k : ∀ T' v L, Stand p l e R s m args below meth c T' (locs ++ L) (cells + rm.cells) (slots + rm.slots) → Q v T'.heap L → Goes p e below K T' (mkF m pc' Ls (v.toList ++ rest))) : Goes p e below K T (mkF m pc Ls st) := by
  subst hp
  obtain ⟨v, _, ⟨T1, L1, k1, n1⟩, -, X1, ⟨L, hQ, l1, y1, z1⟩, f1⟩ := Jvm.LawKit.callS X hx (y := y) hown (mvT hZ w1) (mvT hZ w2) (mvT hZ w3) (mvT hZ w4) hy (backOf (W := (rest.map fun v => v.category).sum) C hZ w4 w3 hf hl) (g := mkF m pc Ls st) rfl hsz (argsL := argsL) (rest := rest) hlen hst (by show 2 * 0 + _ ≤ _; omega) hd (fun _ _ => ⟨has, eT, hc, hsl⟩)
  dsimp only [Pt.U, Pt.locs, Pt.cells, Pt.slots] at X1 l1 y1 z1 f1 hQ
  subst l1 y1 z1
  exact Goes.by' f1 (k T1 v L X1 hQ)
theorem g_callI (X : Stand p l e R s m args below meth c T locs cells slots) (hx : p.tables.exec = Jvm.exec) (hZ : Z.Warmed39 s.vm) {own : String} {ix : Nat} {y : MethodName} {bytes : ByteArray} {maxL : Nat} {rm : Room} {as' : Array Value} {Q : Option Value → Heap → List Loc → Prop} (hy1 : y.name = "<init>") (hown : s.vm.findClass own = some m.cls) (w1 : (Cond.methodLink own ix y).before a0 Z = true) (w2 : (Cond.instanceMethod y).before a0 Z = true) (w3 : (Cond.initialized y.cls).before a0 Z = true) (w4 : (Cond.code y bytes maxL none).before a0 Z = true) (hy : y.cls ≠ "java/lang/invoke/MethodHandle" ∧ y.cls ≠ "java/lang/invoke/VarHandle") (eT : T.heap = h) (C : Ctr l Z y bytes maxL none [] rm rm.cells rm.slots as' h Q) (hsz : Ls.size = c.maxLocals) (a : Addr) (argsL rest : List Value) (has : (.ref a :: argsL).toArray = as') (hlen : ∀ sig, parseMethodDescriptor y.desc = some sig → argsL.length = sig.parameters.length) (hst : st = argsL.reverse ++ .ref a :: rest) (hl : (rest.map fun v => v.category).sum + (maxL + 11) + rm.locals ≤ R.locals) (hf : rm.frames + 1 ≤ R.frames) (hc : cells + rm.cells ≤ R.cells) (hsl : slots + rm.slots ≤ R.slots) (hd : decode c.code pc = .ok (.invokespecial ix, 3)) (hp : pc + 3 = pc') (k : ∀ T' v L, Stand p l e R s m args below meth c T' (locs ++ L) (cells + rm.cells) (slots + rm.slots) → Q v T'.heap L → Goes p e below K T' (mkF m pc' Ls (v.toList ++ rest))) : Goes p e below K T (mkF m pc Ls st) := by
  subst hp
  obtain ⟨v, _, ⟨T1, L1, k1, n1⟩, -, X1, ⟨L, hQ, l1, y1, z1⟩, f1⟩ := X.specialBack hx (y := y) hy1 hown (mvT hZ w1) (mvT hZ w2) (mvT hZ w4) hy (backOf (W := (rest.map fun v => v.category).sum) C hZ w4 w3 hf hl) (g := mkF m pc Ls st) rfl hsz (Steps.refl _) (a := a) (argsL := argsL) (rest := rest) hlen hst (by show 2 * 0 + _ ≤ _; omega) hd (fun _ _ => ⟨has, eT, hc, hsl⟩)
  dsimp only [Pt.U, Pt.locs, Pt.cells, Pt.slots] at X1 l1 y1 z1 f1 hQ
  subst l1 y1 z1
  exact Goes.by' (fun _ q => f1.trans q) (k T1 v L X1 hQ)
theorem g_callV (X : Stand p l e R s m args below meth c T locs cells slots) (hx : p.tables.exec = Jvm.exec) (hZ : Z.Warmed39 s.vm) {own : String} {ix : Nat} {y : MethodName} {bytes : ByteArray} {maxL : Nat} {ret : Option FieldType} {rm : Room} {as' : Array Value} {Q : Option Value → Heap → List Loc → Prop} {C0 : String} (hown : s.vm.findClass own = some m.cls) (w1 : (Cond.methodLink own ix y).before a0 Z = true) (w2 : (Cond.declares y).before a0 Z = true) (w5 : (Cond.selects C0 y y).before a0 Z = true) (w6 : (Cond.instanceMethod y).before a0 Z = true) (w3 : (Cond.initialized y.cls).before a0 Z = true) (w4 : (Cond.code y bytes maxL ret).before a0 Z = true) (hy : y.cls ≠ "java/lang/invoke/MethodHandle" ∧ y.cls ≠ "java/lang/invoke/VarHandle") (eT : T.heap = h) (a : Addr) (E : Exa Z h a C0) (C : Ctr l Z y bytes maxL ret [] rm rm.cells rm.slots as' h Q) (hsz : Ls.size = c.maxLocals) (argsL rest : List Value) (has : (.ref a :: argsL).toArray = as') (hlen : ∀ sig, parseMethodDescriptor y.desc = some sig → argsL.length = sig.parameters.length) (hst : st = argsL.reverse ++ .ref a :: rest) (hl : (rest.map fun v => v.category).sum + (maxL + 11) + rm.locals ≤ R.locals) (hf : rm.frames + 1 ≤ R.frames) (hc : cells + rm.cells ≤ R.cells) (hsl : slots + rm.slots ≤ R.slots) (hd : decode c.code pc = .ok (.invokevirtual ix, 3)) (hp : pc + 3 = pc') (k : ∀ T' v L, Stand p l e R s m args below meth c T' (locs ++ L) (cells + rm.cells) (slots + rm.slots) → Q v T'.heap L → Goes p e below K T' (mkF m pc' Ls (v.toList ++ rest))) : Goes p e below K T (mkF m pc Ls st) := by
  subst hp
  obtain ⟨cq, kq, qa, qb, qc⟩ := isOf hZ eT E
  obtain ⟨v, _, ⟨T1, L1, k1, n1⟩, -, X1, ⟨L, hQ, l1, y1, z1⟩, f1⟩ := X.virtualBack hx (y := y) (z := y) hown (mvT hZ w1) (mvT hZ w2) (notFace_of_selects (args := #[]) (mvT hZ w5)) (mvT hZ w5) (mvT hZ w6) hy (backOf (W := (rest.map fun v => v.category).sum) C hZ w4 w3 hf hl) qa qc (g := mkF m pc Ls st) rfl hsz (Steps.refl _) (argsL := argsL) (rest := rest) hlen hst (by show 2 * 0 + _ ≤ _; omega) hd (fun _ _ => ⟨has, eT, hc, hsl⟩)
  dsimp only [Pt.U, Pt.locs, Pt.cells, Pt.slots] at X1 l1 y1 z1 f1 hQ
  subst l1 y1 z1
  exact Goes.by' (fun _ q => f1.trans q) (k T1 v L X1 hQ)
theorem g_callP (X : Stand p l e R s m args below meth c T locs cells slots) (hx : p.tables.exec = Jvm.exec) (hZ : Z.Warmed39 s.vm) {own : String} {ix : Nat} {y : MethodName} {bytes : ByteArray} {maxL : Nat} {ret : Option FieldType} {rm : Room} {as' : Array Value} {Q : Option Value → Heap → List Loc → Prop} {kk : Nat} {C0 : String} (hown : s.vm.findClass own = some m.cls) (w1 : (Cond.methodLink own ix y).before a0 Z = true) (wi : (Cond.instantiable y.cls kk).before a0 Z = true) (wp : (Cond.privateMethod y).before a0 Z = true) (w6 : (Cond.instanceMethod y).before a0 Z = true) (w3 : (Cond.initialized y.cls).before a0 Z = true) (w4 : (Cond.code y bytes maxL ret).before a0 Z = true) (hy : y.cls ≠ "java/lang/invoke/MethodHandle" ∧ y.cls ≠ "java/lang/invoke/VarHandle") (eT : T.heap = h) (a : Addr) (E : Exa Z h a C0) (C : Ctr l Z y bytes maxL ret [] rm rm.cells rm.slots as' h Q) (hsz : Ls.size = c.maxLocals) (argsL rest : List Value) (has : (.ref a :: argsL).toArray = as') (hlen : ∀ sig, parseMethodDescriptor y.desc = some sig → argsL.length = sig.parameters.length) (hst : st = argsL.reverse ++ .ref a :: rest) (hl : (rest.map fun v => v.category).sum + (maxL + 11) + rm.locals ≤ R.locals) (hf : rm.frames + 1 ≤ R.frames) (hc : cells + rm.cells ≤ R.cells) (hsl : slots + rm.slots ≤ R.slots) (hd : decode c.code pc = .ok (.invokevirtual ix, 3)) (hp : pc + 3 = pc') (k : ∀ T' v L, Stand p l e R s m args below meth c T' (locs ++ L) (cells + rm.cells) (slots + rm.slots) → Q v T'.heap L → Goes p e below K T' (mkF m pc' Ls (v.toList ++ rest))) : Goes p e below K T (mkF m pc Ls st) := by
  subst hp
  obtain ⟨cell, hcell, hobj⟩ := E.cell
  have wi' : (Cond.instantiable y.cls kk).before args s = true := mvT hZ wi
  obtain ⟨c1, k1, i1, i2, i3, i4, -⟩ := Cond.instantiable_spec wi'
  have hni : k1.isInterface = false := by revert i4; cases k1.isInterface <;> simp
  have hpv : s.PrivateAt y := Cond.privateMethod_at (mvP hZ wp (args := #[]))
  have hsel : (Cond.selects y.cls y y).before args s = true := Jvm.Stand.selects_self_of_private i1 i2 hni hpv (mvT hZ w6) hy
  obtain ⟨v, _, ⟨T1, L1, k1, n1⟩, -, X1, ⟨L, hQ, l1, y1, z1⟩, f1⟩ := X.privateBack hx (y := y) hown (mvT hZ w1) (mvT hZ w6) hsel hpv (mvT hZ w4) hy (backOf (W := (rest.map fun v => v.category).sum) C hZ w4 w3 hf hl) (g := mkF m pc Ls st) rfl hsz (Steps.refl _) (a := a) (by rw [eT]; exact hcell) hobj (argsL := argsL) (rest := rest) hlen hst (by show 2 * 0 + _ ≤ _; omega) hd (fun _ _ => ⟨has, eT, hc, hsl⟩)
  dsimp only [Pt.U, Pt.locs, Pt.cells, Pt.slots] at X1 l1 y1 z1 f1 hQ
  subst l1 y1 z1
  exact Goes.by' (fun _ q => f1.trans q) (k T1 v L X1 hQ)
theorem g_retI (X : Stand p l e R s m args below meth c T locs cells slots) (hx : p.tables.exec = Jvm.exec) {C S : Nat} {Q : Option Value → Heap → List Loc → Prop} {z : Int32} (hlk : meth.locks = false) (hret : meth.sig.returnType = some .int) (eT : T.heap = h) (hc : cells ≤ C) (hs : slots ≤ S) (hd : decode c.code pc = .ok (.ireturn, 1)) (hQ : Q (some (.int z)) h locs) : Goes p e below (KQ s C S Q) T (mkF m pc Ls (.int z :: st)) := by
  obtain ⟨fs, hr, hrun, hended, hW, hsame⟩ := X.leave (v := some (.int z)) (fun q => by rw [hret] at q; cases q) hlk
  exact ⟨_, _, retOut X hx hret rfl (Or.inl ⟨rfl, Or.inl rfl, _, rfl⟩) hd hr, hrun, hended, _, _, rfl, by subst eT; exact hQ, ⟨_, rfl⟩, hW, hsame.mono hc hs⟩
theorem g_retJ (X : Stand p l e R s m args below meth c T locs cells slots) (hx : p.tables.exec = Jvm.exec) {C S : Nat} {Q : Option Value → Heap → List Loc → Prop} {z : Int64} (hlk : meth.locks = false) (hret : meth.sig.returnType = some .long) (eT : T.heap = h) (hc : cells ≤ C) (hs : slots ≤ S) (hd : decode c.code pc = .ok (.lreturn, 1)) (hQ : Q (some (.long z)) h locs) : Goes p e below (KQ s C S Q) T (mkF m pc Ls (.long z :: st)) := by
  obtain ⟨fs, hr, hrun, hended, hW, hsame⟩ := X.leave (v := some (.long z)) (fun q => by rw [hret] at q; cases q) hlk
  exact ⟨_, _, retOut X hx hret rfl (Or.inr (Or.inl ⟨rfl, rfl, _, rfl⟩)) hd hr, hrun, hended, _, _, rfl, by subst eT; exact hQ, ⟨_, rfl⟩, hW, hsame.mono hc hs⟩
theorem g_retN (X : Stand p l e R s m args below meth c T locs cells slots) (hx : p.tables.exec = Jvm.exec) {C S : Nat} {Q : Option Value → Heap → List Loc → Prop} {z : Int32} {t : FieldType} (ht : t = .boolean ∨ t = .byte ∨ t = .char ∨ t = .short) (hlk : meth.locks = false) (hret : meth.sig.returnType = some t) (eT : T.heap = h) (hc : cells ≤ C) (hs : slots ≤ S) (hd : decode c.code pc = .ok (.ireturn, 1)) (hQ : Q (some (.int (nar t z))) h locs) : Goes p e below (KQ s C S Q) T (mkF m pc Ls (.int z :: st)) := by
  obtain ⟨fs, hr, hrun, hended, hW, hsame⟩ := X.leave (v := some (.int (nar t z))) (fun q => by rw [hret] at q; cases q) hlk
  exact ⟨_, _, retN X hx hret ht hd hr, hrun, hended, _, _, rfl, by subst eT; exact hQ, ⟨_, rfl⟩, hW, hsame.mono hc hs⟩
theorem g_retA (X : Stand p l e R s m args below meth c T locs cells slots) (hx : p.tables.exec = Jvm.exec) {C S : Nat} {Q : Option Value → Heap → List Loc → Prop} {v : Value} {t : FieldType} (hv : v.isRef = true) (ht : t.isReference = true) (hlk : meth.locks = false) (hret : meth.sig.returnType = some t) (eT : T.heap = h) (hc : cells ≤ C) (hs : slots ≤ S) (hd : decode c.code pc = .ok (.areturn, 1)) (hQ : Q (some v) h locs) : Goes p e below (KQ s C S Q) T (mkF m pc Ls (v :: st)) := by
  obtain ⟨fs, hr, hrun, hended, hW, hsame⟩ := X.leave (v := some v) (fun q => by rw [hret] at q; cases q) hlk
  have hn : narrow t v = v := by cases v <;> simp [Value.isRef] at hv <;> cases t <;> simp [FieldType.isReference] at ht <;> rfl
  exact ⟨_, _, retOut X hx hret hn (Or.inr (Or.inr (Or.inr (Or.inr ⟨rfl, ht, hv⟩)))) hd hr, hrun, hended, _, _, rfl, by subst eT; exact hQ, ⟨_, rfl⟩, hW, hsame.mono hc hs⟩
theorem g_ret (X : Stand p l e R s m args below meth c T locs cells slots) (hx : p.tables.exec = Jvm.exec) {C S : Nat} {Q : Option Value → Heap → List Loc → Prop} (hlk : meth.locks = false) (hret : meth.sig.returnType = none) (eT : T.heap = h) (hc : cells ≤ C) (hs : slots ≤ S) (hd : decode c.code pc = .ok (.return_, 1)) (hQ : Q none h locs) : Goes p e below (KQ s C S Q) T (mkF m pc Ls []) := by
  obtain ⟨fs, hr, hrun, hended, hW, hsame⟩ := X.leave (v := none) (fun _ => rfl) hlk
  exact ⟨_, _, X.returnOut hx hret hd hr, hrun, hended, _, _, rfl, by subst eT; exact hQ, ⟨_, rfl⟩, hW, hsame.mono hc hs⟩
end OwnGo
def ArI (Z : State) (h : Heap) (b : Addr) (ty : FieldType) (n : Nat) (f : Nat → Int32) : Prop := ∃ cl, Arr Z h b cl ty ∧ cl.slots.size = n ∧ ∀ j, j < n → cl.slots[j]? = some (.int (f j))
section ArSI
variable {Z : State} {h h' : Heap} {a b : Addr} {ty : FieldType} {n sl : Nat} {f : Nat → Int32} {v : Value} {ws : List Addr}
theorem ArI.new {cA : ClassId} {z : Int32} (A : Arr Z h a (newA cA ty z) ty) (x : Int32) (hd : defaultValue ty = .int x) : ArI Z h a ty z.toNatClampNeg (fun _ => x) := ⟨_, A, sz_new _ _ _, fun j hj => by simp only [newA, ← hd]; rw [Array.getElem?_replicate, if_pos hj]⟩
theorem ArI.lt (F : ArI Z h b ty n f) : b < h.size := by obtain ⟨c, A, -⟩ := F; exact A.lt
theorem ArI.ext (F : ArI Z h b ty n f) (E : Ext h h') : ArI Z h' b ty n f := by obtain ⟨c, A, r⟩ := F; exact ⟨c, A.ext E, r⟩
theorem ArI.other (F : ArI Z h b ty n f) (W : Wr h h' a sl v) (q : b ≠ a) : ArI Z h' b ty n f := by obtain ⟨c, A, r⟩ := F; exact ⟨c, A.other W q, r⟩
theorem ArI.keep (F : ArI Z h b ty n f) (K : Keep h h' ws) (q : b ∉ ws) : ArI Z h' b ty n f := by obtain ⟨c, A, r⟩ := F; exact ⟨c, ⟨K.2.1 b c A.1 q, A.2⟩, r⟩
theorem ArI.set {x : Int32} (F : ArI Z h b ty n f) (W : Wr h h' b sl (.int (x))) : ArI Z h' b ty n (fun k => if k = sl then x else f k) := by
  obtain ⟨c, A, hs, H⟩ := F
  refine ⟨_, A.same W, by rw [sz_set]; exact hs, fun j hj => ?_⟩
  by_cases e : j = sl
  · subst e; simp only [Cell.setSlot, if_true]; rw [Array.getElem?_setIfInBounds_self_of_lt (by rw [hs]; exact hj)]
  · simp only [Cell.setSlot]; rw [Array.getElem?_setIfInBounds_ne (Ne.symm e), if_neg e]; exact H j hj
theorem ArI.inb {j : Int32} {c : Cell} (hs : c.slots.size = n) (h0 : ¬ j < 0) (h1 : j.toNatClampNeg < n) : ¬ (j < 0 ∨ c.slots.size ≤ j.toNatClampNeg) := by rw [hs]; rintro (q | q); exact h0 q; omega
end ArSI
section ArGI
variable {p : Program} {l : Launch} {e : Env} {R : Room} {s : State} {m : MethodId} {args : Array Value} {below : List Frame} {meth : Method} {c : Code} {T : State} {locs : List Loc} {cells slots : Nat} {Z : State} {a0 : Array Value} {h : Heap} {K : Outcome → State → Prop} {pc pc' : Nat} {Ls : Array Slot} {st : List Value}
theorem g_iaload' (X : Stand p l e R s m args below meth c T locs cells slots) (hx : p.tables.exec = Jvm.exec) (hZ : Z.Warmed39 s.vm) (eT : T.heap = h) {b : Addr} {n : Nat} {f : Nat → Int32} {j : Int32} {x : Int32} (A : ArI Z h b .int n f) (h0 : ¬ j < 0) (h1 : j.toNatClampNeg < n) (hv : f j.toNatClampNeg = x) (hd : decode c.code pc = .ok (.iaload, 1)) (hp : pc + 1 = pc') (k : Goes p e below K T (mkF m pc' Ls (.int (x) :: st))) : Goes p e below K T (mkF m pc Ls (.int j :: .ref b :: st)) := by
  obtain ⟨cl, A, hs, H⟩ := A
  exact g_iaload X hx hZ eT A (ArI.inb hs h0 h1) (by rw [H _ h1, hv]) hd hp k
theorem g_caload' (X : Stand p l e R s m args below meth c T locs cells slots) (hx : p.tables.exec = Jvm.exec) (hZ : Z.Warmed39 s.vm) (eT : T.heap = h) {b : Addr} {n : Nat} {f : Nat → Int32} {j : Int32} {x : Int32} (A : ArI Z h b .char n f) (h0 : ¬ j < 0) (h1 : j.toNatClampNeg < n) (hv : f j.toNatClampNeg = x) (hd : decode c.code pc = .ok (.caload, 1)) (hp : pc + 1 = pc') (k : Goes p e below K T (mkF m pc' Ls (.int (x) :: st))) : Goes p e below K T (mkF m pc Ls (.int j :: .ref b :: st)) := by
  obtain ⟨cl, A, hs, H⟩ := A
  exact g_caload X hx hZ eT A (ArI.inb hs h0 h1) (by rw [H _ h1, hv]) hd hp k
theorem g_baload' (X : Stand p l e R s m args below meth c T locs cells slots) (hx : p.tables.exec = Jvm.exec) (hZ : Z.Warmed39 s.vm) (eT : T.heap = h) {b : Addr} {n : Nat} {f : Nat → Int32} {j : Int32} {x : Int32} (A : ArI Z h b .byte n f) (h0 : ¬ j < 0) (h1 : j.toNatClampNeg < n) (hv : f j.toNatClampNeg = x) (hd : decode c.code pc = .ok (.baload, 1)) (hp : pc + 1 = pc') (k : Goes p e below K T (mkF m pc' Ls (.int (x) :: st))) : Goes p e below K T (mkF m pc Ls (.int j :: .ref b :: st)) := by
  obtain ⟨cl, A, hs, H⟩ := A
  exact g_baload X hx hZ eT A (ArI.inb hs h0 h1) (by rw [H _ h1, hv]) hd hp k
theorem g_arraylengthI (X : Stand p l e R s m args below meth c T locs cells slots) (hx : p.tables.exec = Jvm.exec) (hZ : Z.Warmed39 s.vm) (eT : T.heap = h) {b : Addr} {n : Nat} {f : Nat → Int32} {ty : FieldType} {z : Int32} (A : ArI Z h b ty n f) (hz : n.toInt32 = z) (hd : decode c.code pc = .ok (.arraylength, 1)) (hp : pc + 1 = pc') (k : Goes p e below K T (mkF m pc' Ls (.int z :: st))) : Goes p e below K T (mkF m pc Ls (.ref b :: st)) := by
  obtain ⟨cl, A, hs, H⟩ := A
  exact g_arraylength X hx hZ eT A (by rw [hs, hz]) hd hp k
theorem g_iastore' (X : Stand p l e R s m args below meth c T locs cells slots) (hx : p.tables.exec = Jvm.exec) (hZ : Z.Warmed39 s.vm) (eT : T.heap = h) {b : Addr} {n : Nat} {f : Nat → Int32} {j : Int32} {x : Int32} (A : ArI Z h b .int n f) (h0 : ¬ j < 0) (h1 : j.toNatClampNeg < n) (hd : decode c.code pc = .ok (.iastore, 1)) (hp : pc + 1 = pc') (k : ∀ T' h', Stand p l e R s m args below meth c T' (locs ++ [⟨b, j.toNatClampNeg⟩]) cells slots → T'.heap = h' → Wr h h' b j.toNatClampNeg (.int (x)) → ArI Z h' b .int n (fun k => if k = j.toNatClampNeg then x else f k) → Goes p e below K T' (mkF m pc' Ls st)) : Goes p e below K T (mkF m pc Ls (.int (x) :: .int j :: .ref b :: st)) := by
  have A' := A
  obtain ⟨cl, A, hs, H⟩ := A
  exact g_iastore X hx hZ eT A (ArI.inb hs h0 h1) hd hp (fun T' h' X' e' W' => k T' h' X' e' W' (A'.set W'))
theorem g_castore' (X : Stand p l e R s m args below meth c T locs cells slots) (hx : p.tables.exec = Jvm.exec) (hZ : Z.Warmed39 s.vm) (eT : T.heap = h) {b : Addr} {n : Nat} {f : Nat → Int32} {j : Int32} {x : Int32} (A : ArI Z h b .char n f) (h0 : ¬ j < 0) (h1 : j.toNatClampNeg < n) (hd : decode c.code pc = .ok (.castore, 1)) (hp : pc + 1 = pc') (k : ∀ T' h', Stand p l e R s m args below meth c T' (locs ++ [⟨b, j.toNatClampNeg⟩]) cells slots → T'.heap = h' → Wr h h' b j.toNatClampNeg (.int (nar .char x)) → ArI Z h' b .char n (fun k => if k = j.toNatClampNeg then nar .char x else f k) → Goes p e below K T' (mkF m pc' Ls st)) : Goes p e below K T (mkF m pc Ls (.int (x) :: .int j :: .ref b :: st)) := by
  have A' := A
  obtain ⟨cl, A, hs, H⟩ := A
  exact g_castore X hx hZ eT A (ArI.inb hs h0 h1) hd hp (fun T' h' X' e' W' => k T' h' X' e' W' (A'.set W'))
theorem g_bastore' (X : Stand p l e R s m args below meth c T locs cells slots) (hx : p.tables.exec = Jvm.exec) (hZ : Z.Warmed39 s.vm) (eT : T.heap = h) {b : Addr} {n : Nat} {f : Nat → Int32} {j : Int32} {x : Int32} (A : ArI Z h b .byte n f) (h0 : ¬ j < 0) (h1 : j.toNatClampNeg < n) (hd : decode c.code pc = .ok (.bastore, 1)) (hp : pc + 1 = pc') (k : ∀ T' h', Stand p l e R s m args below meth c T' (locs ++ [⟨b, j.toNatClampNeg⟩]) cells slots → T'.heap = h' → Wr h h' b j.toNatClampNeg (.int (nar .byte x)) → ArI Z h' b .byte n (fun k => if k = j.toNatClampNeg then nar .byte x else f k) → Goes p e below K T' (mkF m pc' Ls st)) : Goes p e below K T (mkF m pc Ls (.int (x) :: .int j :: .ref b :: st)) := by
  have A' := A
  obtain ⟨cl, A, hs, H⟩ := A
  exact g_bastore X hx hZ eT A (ArI.inb hs h0 h1) hd hp (fun T' h' X' e' W' => k T' h' X' e' W' (A'.set W'))
theorem g_iastoreN (X : Stand p l e R s m args below meth c T locs cells slots) (hx : p.tables.exec = Jvm.exec) (hZ : Z.Warmed39 s.vm) (eT : T.heap = h) {b : Addr} {n : Nat} {f : Nat → Int32} {j : Int32} {x : Int32} (A : ArI Z h b .int n f) (jn : Nat) (hj : j.toNatClampNeg = jn) (h0 : ¬ j < 0) (h1 : jn < n) (hd : decode c.code pc = .ok (.iastore, 1)) (hp : pc + 1 = pc') (k : ∀ T' h', Stand p l e R s m args below meth c T' (locs ++ [⟨b, jn⟩]) cells slots → T'.heap = h' → Wr h h' b jn (.int (x)) → ArI Z h' b .int n (fun k => if k = jn then x else f k) → Goes p e below K T' (mkF m pc' Ls st)) : Goes p e below K T (mkF m pc Ls (.int (x) :: .int j :: .ref b :: st)) := by
  subst hj
  exact g_iastore' X hx hZ eT A h0 h1 hd hp k
theorem g_castoreN (X : Stand p l e R s m args below meth c T locs cells slots) (hx : p.tables.exec = Jvm.exec) (hZ : Z.Warmed39 s.vm) (eT : T.heap = h) {b : Addr} {n : Nat} {f : Nat → Int32} {j : Int32} {x : Int32} (A : ArI Z h b .char n f) (jn : Nat) (hj : j.toNatClampNeg = jn) (h0 : ¬ j < 0) (h1 : jn < n) (hd : decode c.code pc = .ok (.castore, 1)) (hp : pc + 1 = pc') (k : ∀ T' h', Stand p l e R s m args below meth c T' (locs ++ [⟨b, jn⟩]) cells slots → T'.heap = h' → Wr h h' b jn (.int (nar .char x)) → ArI Z h' b .char n (fun k => if k = jn then nar .char x else f k) → Goes p e below K T' (mkF m pc' Ls st)) : Goes p e below K T (mkF m pc Ls (.int (x) :: .int j :: .ref b :: st)) := by
  subst hj
  exact g_castore' X hx hZ eT A h0 h1 hd hp k
theorem g_bastoreN (X : Stand p l e R s m args below meth c T locs cells slots) (hx : p.tables.exec = Jvm.exec) (hZ : Z.Warmed39 s.vm) (eT : T.heap = h) {b : Addr} {n : Nat} {f : Nat → Int32} {j : Int32} {x : Int32} (A : ArI Z h b .byte n f) (jn : Nat) (hj : j.toNatClampNeg = jn) (h0 : ¬ j < 0) (h1 : jn < n) (hd : decode c.code pc = .ok (.bastore, 1)) (hp : pc + 1 = pc') (k : ∀ T' h', Stand p l e R s m args below meth c T' (locs ++ [⟨b, jn⟩]) cells slots → T'.heap = h' → Wr h h' b jn (.int (nar .byte x)) → ArI Z h' b .byte n (fun k => if k = jn then nar .byte x else f k) → Goes p e below K T' (mkF m pc' Ls st)) : Goes p e below K T (mkF m pc Ls (.int (x) :: .int j :: .ref b :: st)) := by
  subst hj
  exact g_bastore' X hx hZ eT A h0 h1 hd hp k
end ArGI
def ArJ (Z : State) (h : Heap) (b : Addr) (ty : FieldType) (n : Nat) (f : Nat → Int64) : Prop := ∃ cl, Arr Z h b cl ty ∧ cl.slots.size = n ∧ ∀ j, j < n → cl.slots[j]? = some (.long (f j))
section ArSJ
variable {Z : State} {h h' : Heap} {a b : Addr} {ty : FieldType} {n sl : Nat} {f : Nat → Int64} {v : Value} {ws : List Addr}
theorem ArJ.new {cA : ClassId} {z : Int32} (A : Arr Z h a (newA cA ty z) ty) (x : Int64) (hd : defaultValue ty = .long x) : ArJ Z h a ty z.toNatClampNeg (fun _ => x) := ⟨_, A, sz_new _ _ _, fun j hj => by simp only [newA, ← hd]; rw [Array.getElem?_replicate, if_pos hj]⟩
theorem ArJ.lt (F : ArJ Z h b ty n f) : b < h.size := by obtain ⟨c, A, -⟩ := F; exact A.lt
theorem ArJ.ext (F : ArJ Z h b ty n f) (E : Ext h h') : ArJ Z h' b ty n f := by obtain ⟨c, A, r⟩ := F; exact ⟨c, A.ext E, r⟩
theorem ArJ.other (F : ArJ Z h b ty n f) (W : Wr h h' a sl v) (q : b ≠ a) : ArJ Z h' b ty n f := by obtain ⟨c, A, r⟩ := F; exact ⟨c, A.other W q, r⟩
theorem ArJ.keep (F : ArJ Z h b ty n f) (K : Keep h h' ws) (q : b ∉ ws) : ArJ Z h' b ty n f := by obtain ⟨c, A, r⟩ := F; exact ⟨c, ⟨K.2.1 b c A.1 q, A.2⟩, r⟩
theorem ArJ.set {x : Int64} (F : ArJ Z h b ty n f) (W : Wr h h' b sl (.long (x))) : ArJ Z h' b ty n (fun k => if k = sl then x else f k) := by
  obtain ⟨c, A, hs, H⟩ := F
  refine ⟨_, A.same W, by rw [sz_set]; exact hs, fun j hj => ?_⟩
  by_cases e : j = sl
  · subst e; simp only [Cell.setSlot, if_true]; rw [Array.getElem?_setIfInBounds_self_of_lt (by rw [hs]; exact hj)]
  · simp only [Cell.setSlot]; rw [Array.getElem?_setIfInBounds_ne (Ne.symm e), if_neg e]; exact H j hj
theorem ArJ.inb {j : Int32} {c : Cell} (hs : c.slots.size = n) (h0 : ¬ j < 0) (h1 : j.toNatClampNeg < n) : ¬ (j < 0 ∨ c.slots.size ≤ j.toNatClampNeg) := by rw [hs]; rintro (q | q); exact h0 q; omega
end ArSJ
section ArGJ
variable {p : Program} {l : Launch} {e : Env} {R : Room} {s : State} {m : MethodId} {args : Array Value} {below : List Frame} {meth : Method} {c : Code} {T : State} {locs : List Loc} {cells slots : Nat} {Z : State} {a0 : Array Value} {h : Heap} {K : Outcome → State → Prop} {pc pc' : Nat} {Ls : Array Slot} {st : List Value}
theorem g_laload' (X : Stand p l e R s m args below meth c T locs cells slots) (hx : p.tables.exec = Jvm.exec) (hZ : Z.Warmed39 s.vm) (eT : T.heap = h) {b : Addr} {n : Nat} {f : Nat → Int64} {j : Int32} {x : Int64} (A : ArJ Z h b .long n f) (h0 : ¬ j < 0) (h1 : j.toNatClampNeg < n) (hv : f j.toNatClampNeg = x) (hd : decode c.code pc = .ok (.laload, 1)) (hp : pc + 1 = pc') (k : Goes p e below K T (mkF m pc' Ls (.long (x) :: st))) : Goes p e below K T (mkF m pc Ls (.int j :: .ref b :: st)) := by
  obtain ⟨cl, A, hs, H⟩ := A
  exact g_laload X hx hZ eT A (ArJ.inb hs h0 h1) (by rw [H _ h1, hv]) hd hp k
theorem g_arraylengthJ (X : Stand p l e R s m args below meth c T locs cells slots) (hx : p.tables.exec = Jvm.exec) (hZ : Z.Warmed39 s.vm) (eT : T.heap = h) {b : Addr} {n : Nat} {f : Nat → Int64} {ty : FieldType} {z : Int32} (A : ArJ Z h b ty n f) (hz : n.toInt32 = z) (hd : decode c.code pc = .ok (.arraylength, 1)) (hp : pc + 1 = pc') (k : Goes p e below K T (mkF m pc' Ls (.int z :: st))) : Goes p e below K T (mkF m pc Ls (.ref b :: st)) := by
  obtain ⟨cl, A, hs, H⟩ := A
  exact g_arraylength X hx hZ eT A (by rw [hs, hz]) hd hp k
theorem g_lastore' (X : Stand p l e R s m args below meth c T locs cells slots) (hx : p.tables.exec = Jvm.exec) (hZ : Z.Warmed39 s.vm) (eT : T.heap = h) {b : Addr} {n : Nat} {f : Nat → Int64} {j : Int32} {x : Int64} (A : ArJ Z h b .long n f) (h0 : ¬ j < 0) (h1 : j.toNatClampNeg < n) (hd : decode c.code pc = .ok (.lastore, 1)) (hp : pc + 1 = pc') (k : ∀ T' h', Stand p l e R s m args below meth c T' (locs ++ [⟨b, j.toNatClampNeg⟩]) cells slots → T'.heap = h' → Wr h h' b j.toNatClampNeg (.long (x)) → ArJ Z h' b .long n (fun k => if k = j.toNatClampNeg then x else f k) → Goes p e below K T' (mkF m pc' Ls st)) : Goes p e below K T (mkF m pc Ls (.long (x) :: .int j :: .ref b :: st)) := by
  have A' := A
  obtain ⟨cl, A, hs, H⟩ := A
  exact g_lastore X hx hZ eT A (ArJ.inb hs h0 h1) hd hp (fun T' h' X' e' W' => k T' h' X' e' W' (A'.set W'))
theorem g_lastoreN (X : Stand p l e R s m args below meth c T locs cells slots) (hx : p.tables.exec = Jvm.exec) (hZ : Z.Warmed39 s.vm) (eT : T.heap = h) {b : Addr} {n : Nat} {f : Nat → Int64} {j : Int32} {x : Int64} (A : ArJ Z h b .long n f) (jn : Nat) (hj : j.toNatClampNeg = jn) (h0 : ¬ j < 0) (h1 : jn < n) (hd : decode c.code pc = .ok (.lastore, 1)) (hp : pc + 1 = pc') (k : ∀ T' h', Stand p l e R s m args below meth c T' (locs ++ [⟨b, jn⟩]) cells slots → T'.heap = h' → Wr h h' b jn (.long (x)) → ArJ Z h' b .long n (fun k => if k = jn then x else f k) → Goes p e below K T' (mkF m pc' Ls st)) : Goes p e below K T (mkF m pc Ls (.long (x) :: .int j :: .ref b :: st)) := by
  subst hj
  exact g_lastore' X hx hZ eT A h0 h1 hd hp k
end ArGJ
def ArV (Z : State) (h : Heap) (b : Addr) (ty : FieldType) (n : Nat) (f : Nat → Value) : Prop := ∃ cl, Arr Z h b cl ty ∧ cl.slots.size = n ∧ ∀ j, j < n → cl.slots[j]? = some (f j)
section ArSV
variable {Z : State} {h h' : Heap} {a b : Addr} {ty : FieldType} {n sl : Nat} {f : Nat → Value} {v : Value} {ws : List Addr}
theorem ArV.new {cA : ClassId} {z : Int32} (A : Arr Z h a (newA cA ty z) ty) (x : Value) (hd : defaultValue ty = x) : ArV Z h a ty z.toNatClampNeg (fun _ => x) := ⟨_, A, sz_new _ _ _, fun j hj => by simp only [newA, ← hd]; rw [Array.getElem?_replicate, if_pos hj]⟩
theorem ArV.lt (F : ArV Z h b ty n f) : b < h.size := by obtain ⟨c, A, -⟩ := F; exact A.lt
theorem ArV.ext (F : ArV Z h b ty n f) (E : Ext h h') : ArV Z h' b ty n f := by obtain ⟨c, A, r⟩ := F; exact ⟨c, A.ext E, r⟩
theorem ArV.other (F : ArV Z h b ty n f) (W : Wr h h' a sl v) (q : b ≠ a) : ArV Z h' b ty n f := by obtain ⟨c, A, r⟩ := F; exact ⟨c, A.other W q, r⟩
theorem ArV.keep (F : ArV Z h b ty n f) (K : Keep h h' ws) (q : b ∉ ws) : ArV Z h' b ty n f := by obtain ⟨c, A, r⟩ := F; exact ⟨c, ⟨K.2.1 b c A.1 q, A.2⟩, r⟩
theorem ArV.set {x : Value} (F : ArV Z h b ty n f) (W : Wr h h' b sl (x)) : ArV Z h' b ty n (fun k => if k = sl then x else f k) := by
  obtain ⟨c, A, hs, H⟩ := F
  refine ⟨_, A.same W, by rw [sz_set]; exact hs, fun j hj => ?_⟩
  by_cases e : j = sl
  · subst e; simp only [Cell.setSlot, if_true]; rw [Array.getElem?_setIfInBounds_self_of_lt (by rw [hs]; exact hj)]
  · simp only [Cell.setSlot]; rw [Array.getElem?_setIfInBounds_ne (Ne.symm e), if_neg e]; exact H j hj
theorem ArV.inb {j : Int32} {c : Cell} (hs : c.slots.size = n) (h0 : ¬ j < 0) (h1 : j.toNatClampNeg < n) : ¬ (j < 0 ∨ c.slots.size ≤ j.toNatClampNeg) := by rw [hs]; rintro (q | q); exact h0 q; omega
end ArSV
section ArGV
variable {p : Program} {l : Launch} {e : Env} {R : Room} {s : State} {m : MethodId} {args : Array Value} {below : List Frame} {meth : Method} {c : Code} {T : State} {locs : List Loc} {cells slots : Nat} {Z : State} {a0 : Array Value} {h : Heap} {K : Outcome → State → Prop} {pc pc' : Nat} {Ls : Array Slot} {st : List Value}
theorem g_aaload' (X : Stand p l e R s m args below meth c T locs cells slots) (hx : p.tables.exec = Jvm.exec) (hZ : Z.Warmed39 s.vm) (eT : T.heap = h) {b : Addr} {n : Nat} {f : Nat → Value} {j : Int32} {x : Value} {ty : FieldType} (A : ArV Z h b ty n f) (h0 : ¬ j < 0) (h1 : j.toNatClampNeg < n) (hv : f j.toNatClampNeg = x) (hty : ty.isReference = true) (hd : decode c.code pc = .ok (.aaload, 1)) (hp : pc + 1 = pc') (k : Goes p e below K T (mkF m pc' Ls (x :: st))) : Goes p e below K T (mkF m pc Ls (.int j :: .ref b :: st)) := by
  obtain ⟨cl, A, hs, H⟩ := A
  exact g_aaload X hx hZ eT A hty (ArV.inb hs h0 h1) (by rw [H _ h1, hv]) hd hp k
theorem g_arraylengthV (X : Stand p l e R s m args below meth c T locs cells slots) (hx : p.tables.exec = Jvm.exec) (hZ : Z.Warmed39 s.vm) (eT : T.heap = h) {b : Addr} {n : Nat} {f : Nat → Value} {ty : FieldType} {z : Int32} (A : ArV Z h b ty n f) (hz : n.toInt32 = z) (hd : decode c.code pc = .ok (.arraylength, 1)) (hp : pc + 1 = pc') (k : Goes p e below K T (mkF m pc' Ls (.int z :: st))) : Goes p e below K T (mkF m pc Ls (.ref b :: st)) := by
  obtain ⟨cl, A, hs, H⟩ := A
  exact g_arraylength X hx hZ eT A (by rw [hs, hz]) hd hp k
theorem g_aastore' (X : Stand p l e R s m args below meth c T locs cells slots) (hx : p.tables.exec = Jvm.exec) (hZ : Z.Warmed39 s.vm) (eT : T.heap = h) {b : Addr} {n : Nat} {f : Nat → Value} {j : Int32} {x : Value} {ty : FieldType} (A : ArV Z h b ty n f) (h0 : ¬ j < 0) (h1 : j.toNatClampNeg < n) (hty : ty.isReference = true) (F : Sto Z h b x) (hd : decode c.code pc = .ok (.aastore, 1)) (hp : pc + 1 = pc') (k : ∀ T' h', Stand p l e R s m args below meth c T' (locs ++ [⟨b, j.toNatClampNeg⟩]) cells slots → T'.heap = h' → Wr h h' b j.toNatClampNeg (x) → ArV Z h' b ty n (fun k => if k = j.toNatClampNeg then x else f k) → Goes p e below K T' (mkF m pc' Ls st)) : Goes p e below K T (mkF m pc Ls (x :: .int j :: .ref b :: st)) := by
  have A' := A
  obtain ⟨cl, A, hs, H⟩ := A
  exact g_aastore X hx hZ eT A hty F (ArV.inb hs h0 h1) hd hp (fun T' h' X' e' W' => k T' h' X' e' W' (A'.set W'))
end ArGV
section OwnIns
variable {p : Program} {l : Launch} {e : Env} {R : Room} {s : State} {m : MethodId} {args : Array Value} {below : List Frame} {meth : Method} {c : Code} {T : State} {locs : List Loc} {cells slots : Nat} {Z : State} {a0 : Array Value} {h : Heap} {K : Outcome → State → Prop} {pc pc' : Nat} {Ls : Array Slot} {st : List Value}
theorem g_instY (X : Stand p l e R s m args below meth c T locs cells slots) (hx : p.tables.exec = Jvm.exec) (hZ : Z.Warmed39 s.vm) {own K0 : String} {ix : Nat} {a : Addr} (hown : s.vm.findClass own = some m.cls) (w : (Cond.classLink own ix K0).before a0 Z = true) (eT : T.heap = h) (F : Ins Z h a K0 true) (hd : decode c.code pc = .ok (.instanceof ix, 3)) (hp : pc + 3 = pc') (k : ∀ T', Stand p l e R s m args below meth c T' locs cells slots → T'.heap = h → Goes p e below K T' (mkF m pc' Ls (.int 1 :: st))) : Goes p e below K T (mkF m pc Ls (.ref a :: st)) := by
  subst hp
  obtain ⟨T1, X1, e1, f1⟩ := instY X hx hZ hown w eT F (g := mkF m pc Ls (.ref a :: st)) rfl rfl hd
  exact Goes.by' f1 (k T1 X1 e1)
theorem g_instNo (X : Stand p l e R s m args below meth c T locs cells slots) (hx : p.tables.exec = Jvm.exec) (hZ : Z.Warmed39 s.vm) {own K0 C0 : String} {ix : Nat} {a : Addr} (hown : s.vm.findClass own = some m.cls) (w : (Cond.classLink own ix K0).before a0 Z = true) (eT : T.heap = h) (E : Exa Z h a C0) (F : ∃ c t, Z.vm.findClass C0 = some c ∧ Z.vm.findClass K0 = some t ∧ Z.vm.assignable c t = false) (hd : decode c.code pc = .ok (.instanceof ix, 3)) (hp : pc + 3 = pc') (k : ∀ T', Stand p l e R s m args below meth c T' locs cells slots → T'.heap = h → Goes p e below K T' (mkF m pc' Ls (.int 0 :: st))) : Goes p e below K T (mkF m pc Ls (.ref a :: st)) := by
  subst hp
  obtain ⟨T1, X1, e1, f1⟩ := instNo X hx hZ hown w eT E F (g := mkF m pc Ls (.ref a :: st)) rfl rfl hd
  exact Goes.by' f1 (k T1 X1 e1)
theorem g_castY (X : Stand p l e R s m args below meth c T locs cells slots) (hx : p.tables.exec = Jvm.exec) (hZ : Z.Warmed39 s.vm) {own K0 : String} {ix : Nat} {a : Addr} (hown : s.vm.findClass own = some m.cls) (w : (Cond.classLink own ix K0).before a0 Z = true) (eT : T.heap = h) (F : Ins Z h a K0 true) (hd : decode c.code pc = .ok (.checkcast ix, 3)) (hp : pc + 3 = pc') (k : ∀ T', Stand p l e R s m args below meth c T' locs cells slots → T'.heap = h → Goes p e below K T' (mkF m pc' Ls (.ref a :: st))) : Goes p e below K T (mkF m pc Ls (.ref a :: st)) := by
  subst hp
  obtain ⟨T1, X1, e1, f1⟩ := castY X hx hZ hown w eT F (g := mkF m pc Ls (.ref a :: st)) rfl rfl hd
  exact Goes.by' f1 (k T1 X1 e1)
theorem g_instNull (X : Stand p l e R s m args below meth c T locs cells slots) (hx : p.tables.exec = Jvm.exec) {ix : Nat} (hd : decode c.code pc = .ok (.instanceof ix, 3)) (hp : pc + 3 = pc') (k : Goes p e below K T (mkF m pc' Ls (.int 0 :: st))) : Goes p e below K T (mkF m pc Ls (.null :: st)) := by
  subst hp
  exact Goes.by' (fun _ q => X.instanceofNull hx (g := mkF m pc Ls (.null :: st)) rfl rfl hd _ q) k
end OwnIns
section OwnW
variable {p : Program} {l : Launch} {e : Env} {R : Room} {s : State} {m : MethodId} {args : Array Value} {below : List Frame} {meth : Method} {c : Code} {T : State} {locs : List Loc} {cells slots : Nat} {Z : State} {a0 : Array Value} {h : Heap} {K : Outcome → State → Prop} {pc pc' : Nat} {Ls : Array Slot} {st : List Value}
abbrev KW (s : State) (C S : Nat) (Q : Option Value → Heap → List Loc → Prop) : Outcome → State → Prop := fun o u => ∃ v L, o = .returned v ∧ Q v u.heap L ∧ ReturnedEndW s o u L C S
abbrev CtrW (l : Launch) (Z : State) (y : MethodName) (bytes : ByteArray) (maxL : Nat) (ret : Option FieldType) (ws : List Jvm.Cond) (rm : Room) (C S : Nat) (as' : Array Value) (h0 : Heap) (Q : Option Value → Heap → List Loc → Prop) : Prop := MetFree l y (head1 (Jvm.Cond.code y bytes maxL ret :: ws) rm) (fun a U => a = as' ∧ Z.Warmed39 U.vm ∧ U.heap = h0) (fun _ _ _ _ _ => True) (fun _ U o U' => ∃ v L, o = .returned v ∧ Q v U'.heap L ∧ ReturnedEndW U o U' L C S)
theorem CtrW.of {y : MethodName} {bytes : ByteArray} {maxL : Nat} {ret : Option FieldType} {ws : List Jvm.Cond} {rm : Room} {C S : Nat} {as' : Array Value} {h0 : Heap} {Q : Option Value → Heap → List Loc → Prop} (hpn : plainFor y = true)
    (body : ∀ (p : Program) (e : Env) (s : State) (m : MethodId) (below : List Frame) (meth : Method) (c : Code) (s₁ : State), p.tables.exec = Jvm.exec → c.code = bytes → c.maxLocals = maxL → s.vm.findClass y.cls = some m.cls → meth.name = y.name → meth.sig.returnType = ret → meth.locks = false → Z.Warmed39 s.vm → Stand p l e rm (s.setVm s.vm) m as' below meth c s₁ [] 0 0 → s₁.heap = h0 → s.Since s.vm s.heap.size → s.heap = h0 → Goes p e below (KW s C S Q) s₁ (entryFrame m as' maxL)) :
    CtrW l Z y bytes maxL ret ws rm C S as' h0 Q := by
  refine MetFree.of_bodySF hpn hisR ?_
  intro p e s m args below meth c s₁ Bd hml0 hP hK
  obtain ⟨rfl, hZ, hh⟩ := hP
  have hlk : meth.locks = false := BodyLoose.notSynchronized Bd
  exact body p e s m below meth c s₁ Bd.exec Bd.bytes hml0 (findClass_of_methodNamed Bd.named) (name_of_methodNamed Bd.named Bd.method).1 Bd.returns hlk hZ (Stand.of_body Bd) (by rw [← hh, Bd.state]; rfl) (State.WarmedH.since (State.WarmedH.refl s) _) hh
abbrev CtrI (l : Launch) (Z : State) (y : MethodName) (bytes : ByteArray) (maxL : Nat) (ret : Option FieldType) (ws : List Jvm.Cond) (rm : Room) (C S : Nat) (as' : Array Value) (h0 : Heap) (Q : Option Value → Heap → List Loc → Prop) : Prop := MetFree l y (head1 (Jvm.Cond.code y bytes maxL ret :: ws) rm) (fun a U => a = as' ∧ Z.Warmed39 U.vm ∧ U.heap = h0 ∧ U.vm.interned = Z.vm.interned) (fun _ _ _ _ _ => True) (fun _ U o U' => ∃ v L, o = .returned v ∧ Q v U'.heap L ∧ ReturnedEndW U o U' L C S)
theorem CtrI.of {y : MethodName} {bytes : ByteArray} {maxL : Nat} {ret : Option FieldType} {ws : List Jvm.Cond} {rm : Room} {C S : Nat} {as' : Array Value} {h0 : Heap} {Q : Option Value → Heap → List Loc → Prop} (hpn : plainFor y = true)
    (body : ∀ (p : Program) (e : Env) (s : State) (m : MethodId) (below : List Frame) (meth : Method) (c : Code) (s₁ : State), p.tables.exec = Jvm.exec → c.code = bytes → c.maxLocals = maxL → s.vm.findClass y.cls = some m.cls → meth.name = y.name → meth.sig.returnType = ret → meth.locks = false → Z.Warmed39 s.vm → Stand p l e rm (s.setVm s.vm) m as' below meth c s₁ [] 0 0 → s₁.heap = h0 → s.Since s.vm s.heap.size → s.heap = h0 → s.vm.interned = Z.vm.interned → Goes p e below (KW s C S Q) s₁ (entryFrame m as' maxL)) :
    CtrI l Z y bytes maxL ret ws rm C S as' h0 Q := by
  refine MetFree.of_bodySF hpn hisR ?_
  intro p e s m args below meth c s₁ Bd hml0 hP hK
  obtain ⟨rfl, hZ, hh, hint⟩ := hP
  have hlk : meth.locks = false := BodyLoose.notSynchronized Bd
  exact body p e s m below meth c s₁ Bd.exec Bd.bytes hml0 (findClass_of_methodNamed Bd.named) (name_of_methodNamed Bd.named Bd.method).1 Bd.returns hlk hZ (Stand.of_body Bd) (by rw [← hh, Bd.state]; rfl) (State.WarmedH.since (State.WarmedH.refl s) _) hh hint
theorem g_ldcS {vm0 : Vm} (X : Stand p l e R (s.setVm vm0) m args below meth c T locs cells slots) (hx : p.tables.exec = Jvm.exec) (hZ : Z.Warmed39 vm0) {own text : String} {ix : Nat} (hown : vm0.findClass own = some m.cls) (w : (Cond.stringLink own ix text).before a0 Z = true) (wS : ∀ a ∈ Bundle.stringAtoms, a.before a0 Z = true) (eT : T.heap = h) {k0 : Nat} (hS : s.Since vm0 k0) (hk : k0 ≤ h.size) (hd : decode c.code pc = .ok (.ldc ix, 2)) (hp : pc + 2 = pc') (n : Nat) (hn : 4 * text.toList.length ≤ n) (hbig : n ≤ 536870912) (hc : cells + 2 ≤ R.cells) (hl : slots + (n + 4) ≤ R.slots) (k : ∀ (a : Addr) (T' : State) (h' : Heap) (k1 : Nat), Stand p l e R (s.setVm T'.vm) m args below meth c T' locs (cells + 2) (slots + (n + 4)) → T'.heap = h' → Ext h h' → s.Since T'.vm k1 → k1 ≤ h'.size → Z.Warmed39 T'.vm → T'.vm.findClass own = some m.cls → Goes p e below K T' (mkF m pc' Ls (.ref a :: st))) : Goes p e below K T (mkF m pc Ls st) := by
  subst hp
  obtain ⟨a, T1, h1, k1, X1, e1, E1, S1, g1, Z1, o1, f1⟩ := ldcS X hx hZ hown w wS eT hS hk (g := mkF m pc Ls st) rfl hd hn hbig hc hl
  exact Goes.by' f1 (k a T1 h1 k1 X1 e1 E1 S1 g1 Z1 o1)
theorem g_ldcSV {vm0 : Vm} (X : Stand p l e R (s.setVm vm0) m args below meth c T locs cells slots) (hx : p.tables.exec = Jvm.exec) (hZ : Z.Warmed39 vm0) {own text : String} {ix : Nat} {Ts : List String} (hown : vm0.findClass own = some m.cls) (w : (Cond.stringLink own ix text).before a0 Z = true) (wS : ∀ a ∈ Bundle.stringAtoms, a.before a0 Z = true) (eT : T.heap = h) {k0 : Nat} (hS : s.Since vm0 k0) (hk : k0 ≤ h.size) (N : Fr s.heap.size locs) (hkeep : ∀ (b : Addr) (cl : Cell), Z.heap[b]? = some cl → s.heap[b]? = some cl) (I : IB Z vm0 Ts) (hnot : text ∉ Ts) (hh : Jvm.Lit.constHeld Z own ix) (hcw : Jvm.Lit.compactW.before a0 Z = true) (vs : List Value) (z : Int32) (ht : (∀ c ∈ text.toList, c.toNat < 256) ∧ text.toList.map (fun c => Value.int (Jvm.Lit.byteI c.toNat.toUInt16)) = vs) (hz : ¬ z < 0) (hl : z.toNatClampNeg = vs.length) (hd : decode c.code pc = .ok (.ldc ix, 2)) (hp : pc + 2 = pc') (n : Nat) (hn : 4 * text.toList.length ≤ n) (hbig : n ≤ 536870912) (hc : cells + 2 ≤ R.cells) (hl' : slots + (n + 4) ≤ R.slots) (k : ∀ (a : Addr) (T' : State) (h' : Heap) (k1 : Nat) (b : Addr) (cA : ClassId), Stand p l e R (s.setVm T'.vm) m args below meth c T' locs (cells + 2) (slots + (n + 4)) → T'.heap = h' → Ext h h' → s.Since T'.vm k1 → k1 ≤ h'.size → Z.Warmed39 T'.vm → T'.vm.findClass own = some m.cls → Exa Z h' a "java/lang/String" → Fld Z h' a "java/lang/String" "coder" "B" (.int 0) → Fld Z h' a "java/lang/String" "value" "[B" (.ref b) → Arv Z h' b cA .byte z vs (.int 0) → IB Z T'.vm (text :: Ts) → Goes p e below K T' (mkF m pc' Ls (.ref a :: st))) : Goes p e below K T (mkF m pc Ls st) := by
  subst hp
  obtain ⟨a, T1, h1, k1, b, cA, X1, e1, E1, S1, g1, Z1, o1, q1, q2, q3, q4, -, -, q5, f1⟩ := ldcSV X hx hZ hown w wS eT hS hk N hkeep I hnot hh hcw ht hz hl (g := mkF m pc Ls st) rfl hd hn hbig hc hl'
  exact Goes.by' f1 (k a T1 h1 k1 b cA X1 e1 E1 S1 g1 Z1 o1 q1 q2 q3 q4 q5)
theorem g_retNW {vm0 : Vm} (X : Stand p l e R (s.setVm vm0) m args below meth c T locs cells slots) (hx : p.tables.exec = Jvm.exec) {C S : Nat} {Q : Option Value → Heap → List Loc → Prop} {z : Int32} {t : FieldType} (ht : t = .boolean ∨ t = .byte ∨ t = .char ∨ t = .short) (hlk : meth.locks = false) (hret : meth.sig.returnType = some t) (eT : T.heap = h) {k0 : Nat} (hS : s.Since vm0 k0) (hk : k0 ≤ h.size) (hc : cells ≤ C) (hs : slots ≤ S) (hd : decode c.code pc = .ok (.ireturn, 1)) (hQ : Q (some (.int (nar t z))) h locs) : Goes p e below (KW s C S Q) T (mkF m pc Ls (.int z :: st)) := by
  subst eT
  obtain ⟨fs, hr, hrun, hended, q1, q2, q3, q4⟩ := X.leaveW hS hk (v := some (.int (nar t z))) (fun q => by rw [hret] at q; cases q) hlk
  exact ⟨_, _, retN X hx hret ht hd hr, hrun, hended, _, _, rfl, hQ, q1, q2, q3, q4.mono hc hs⟩
theorem g_callSW {vm0 : Vm} {k0 : Nat} (X : Stand p l e R (s.setVm vm0) m args below meth c T locs cells slots) (hx : p.tables.exec = Jvm.exec) (hZ : Z.Warmed39 vm0) {own : String} {ix : Nat} {y : MethodName} {bytes : ByteArray} {maxL : Nat} {ret : Option FieldType} {rm : Room} {as' : Array Value} {Q : Option Value → Heap → List Loc → Prop} (hown : vm0.findClass own = some m.cls) (w1 : (Cond.methodLink own ix y).before a0 Z = true) (w2 : (Cond.static y).before a0 Z = true) (w3 : (Cond.initialized y.cls).before a0 Z = true) (w4 : (Cond.code y bytes maxL ret).before a0 Z = true) (hy : y.cls ≠ "java/lang/invoke/MethodHandle" ∧ y.cls ≠ "java/lang/invoke/VarHandle") (eT : T.heap = h) (hS : s.Since vm0 k0) (hk : k0 ≤ h.size) (C : CtrW l Z y bytes maxL ret [] rm rm.cells rm.slots as' h Q) (hsz : Ls.size = c.maxLocals) (argsL rest : List Value) (has : argsL.toArray = as') (hlen : ∀ sig, parseMethodDescriptor y.desc = some sig → argsL.length = sig.parameters.length) (hst : st = argsL.reverse ++ rest) (hl : (rest.map fun v => v.category).sum + (maxL + 11) + rm.locals ≤ R.locals) (hf : rm.frames + 1 ≤ R.frames) (hc : cells + rm.cells ≤ R.cells) (hsl : slots + rm.slots ≤ R.slots) (hd : decode c.code pc = .ok (.invokestatic ix, 3)) (hp : pc + 3 = pc') (k : ∀ (T' : State) (v : Option Value) (L : List Loc) (k1 : Nat), Stand p l e R (s.setVm T'.vm) m args below meth c T' (locs ++ L) (cells + rm.cells) (slots + rm.slots) → Q v T'.heap L → s.Since T'.vm k1 → k1 ≤ T'.heap.size → Z.Warmed39 T'.vm → T'.vm.findClass own = some m.cls → Goes p e below K T' (mkF m pc' Ls (v.toList ++ rest))) : Goes p e below K T (mkF m pc Ls st) := by
  subst hp
  have hZ' : Z.Warmed39 (s.setVm vm0).vm := hZ
  obtain ⟨v, _, ⟨T1, L1, k1, n1⟩, -, X1, h2, g2, ⟨L, hQ, l1, y1, z1⟩, f1⟩ := callSS X hx (y := y) hown (mvT hZ' w1) (mvT hZ' w2) (mvT hZ' w3) (mvT hZ' w4) hy (backOfS (W := (rest.map fun v => v.category).sum) C hZ' w4 w3 hf hl) (g := mkF m pc Ls st) rfl hsz (argsL := argsL) (rest := rest) hlen hst (by show 2 * 0 + _ ≤ _; omega) hd (fun _ _ => ⟨has, eT, hc, hsl⟩)
  dsimp only [Pt.U, Pt.locs, Pt.cells, Pt.slots] at X1 l1 y1 z1 f1 hQ h2 g2
  subst l1 y1 z1
  obtain ⟨X2, S2, Z2, o2⟩ := rebS hS (by rw [eT]; exact hk) X1 h2 g2 hZ hown
  exact Goes.by' (fun _ q => f1.trans q) (k T1 v L _ X2 hQ S2 (Nat.le_refl _) Z2 o2)
theorem g_callIW {vm0 : Vm} {k0 : Nat} (X : Stand p l e R (s.setVm vm0) m args below meth c T locs cells slots) (hx : p.tables.exec = Jvm.exec) (hZ : Z.Warmed39 vm0) {own : String} {ix : Nat} {y : MethodName} {bytes : ByteArray} {maxL : Nat} {rm : Room} {as' : Array Value} {Q : Option Value → Heap → List Loc → Prop} (hy1 : y.name = "<init>") (hown : vm0.findClass own = some m.cls) (w1 : (Cond.methodLink own ix y).before a0 Z = true) (w2 : (Cond.instanceMethod y).before a0 Z = true) (w3 : (Cond.initialized y.cls).before a0 Z = true) (w4 : (Cond.code y bytes maxL none).before a0 Z = true) (hy : y.cls ≠ "java/lang/invoke/MethodHandle" ∧ y.cls ≠ "java/lang/invoke/VarHandle") (eT : T.heap = h) (hS : s.Since vm0 k0) (hk : k0 ≤ h.size) (C : CtrW l Z y bytes maxL none [] rm rm.cells rm.slots as' h Q) (hsz : Ls.size = c.maxLocals) (a : Addr) (argsL rest : List Value) (has : (.ref a :: argsL).toArray = as') (hlen : ∀ sig, parseMethodDescriptor y.desc = some sig → argsL.length = sig.parameters.length) (hst : st = argsL.reverse ++ .ref a :: rest) (hl : (rest.map fun v => v.category).sum + (maxL + 11) + rm.locals ≤ R.locals) (hf : rm.frames + 1 ≤ R.frames) (hc : cells + rm.cells ≤ R.cells) (hsl : slots + rm.slots ≤ R.slots) (hd : decode c.code pc = .ok (.invokespecial ix, 3)) (hp : pc + 3 = pc') (k : ∀ (T' : State) (v : Option Value) (L : List Loc) (k1 : Nat), Stand p l e R (s.setVm T'.vm) m args below meth c T' (locs ++ L) (cells + rm.cells) (slots + rm.slots) → Q v T'.heap L → s.Since T'.vm k1 → k1 ≤ T'.heap.size → Z.Warmed39 T'.vm → T'.vm.findClass own = some m.cls → Goes p e below K T' (mkF m pc' Ls (v.toList ++ rest))) : Goes p e below K T (mkF m pc Ls st) := by
  subst hp
  have hZ' : Z.Warmed39 (s.setVm vm0).vm := hZ
  obtain ⟨v, _, ⟨T1, L1, k1, n1⟩, -, X1, h2, g2, ⟨L, hQ, l1, y1, z1⟩, f1⟩ := X.specialBackS hx (y := y) hy1 hown (mvT hZ' w1) (mvT hZ' w2) (mvT hZ' w4) hy (backOfS (W := (rest.map fun v => v.category).sum) C hZ' w4 w3 hf hl) (g := mkF m pc Ls st) rfl hsz (Steps.refl _) (a := a) (argsL := argsL) (rest := rest) hlen hst (by show 2 * 0 + _ ≤ _; omega) hd (fun _ _ => ⟨has, eT, hc, hsl⟩)
  dsimp only [Pt.U, Pt.locs, Pt.cells, Pt.slots] at X1 l1 y1 z1 f1 hQ h2 g2
  subst l1 y1 z1
  obtain ⟨X2, S2, Z2, o2⟩ := rebS hS (by rw [eT]; exact hk) X1 h2 g2 hZ hown
  exact Goes.by' (fun _ q => f1.trans q) (k T1 v L _ X2 hQ S2 (Nat.le_refl _) Z2 o2)
theorem g_callVW {vm0 : Vm} {k0 : Nat} (X : Stand p l e R (s.setVm vm0) m args below meth c T locs cells slots) (hx : p.tables.exec = Jvm.exec) (hZ : Z.Warmed39 vm0) {own : String} {ix : Nat} {y : MethodName} {bytes : ByteArray} {maxL : Nat} {ret : Option FieldType} {rm : Room} {as' : Array Value} {Q : Option Value → Heap → List Loc → Prop} {C0 : String} (hown : vm0.findClass own = some m.cls) (w1 : (Cond.methodLink own ix y).before a0 Z = true) (w2 : (Cond.declares y).before a0 Z = true) (w5 : (Cond.selects C0 y y).before a0 Z = true) (w6 : (Cond.instanceMethod y).before a0 Z = true) (w3 : (Cond.initialized y.cls).before a0 Z = true) (w4 : (Cond.code y bytes maxL ret).before a0 Z = true) (hy : y.cls ≠ "java/lang/invoke/MethodHandle" ∧ y.cls ≠ "java/lang/invoke/VarHandle") (eT : T.heap = h) (hS : s.Since vm0 k0) (hk : k0 ≤ h.size) (a : Addr) (E : Exa Z h a C0) (C : CtrW l Z y bytes maxL ret [] rm rm.cells rm.slots as' h Q) (hsz : Ls.size = c.maxLocals) (argsL rest : List Value) (has : (.ref a :: argsL).toArray = as') (hlen : ∀ sig, parseMethodDescriptor y.desc = some sig → argsL.length = sig.parameters.length) (hst : st = argsL.reverse ++ .ref a :: rest) (hl : (rest.map fun v => v.category).sum + (maxL + 11) + rm.locals ≤ R.locals) (hf : rm.frames + 1 ≤ R.frames) (hc : cells + rm.cells ≤ R.cells) (hsl : slots + rm.slots ≤ R.slots) (hd : decode c.code pc = .ok (.invokevirtual ix, 3)) (hp : pc + 3 = pc') (k : ∀ (T' : State) (v : Option Value) (L : List Loc) (k1 : Nat), Stand p l e R (s.setVm T'.vm) m args below meth c T' (locs ++ L) (cells + rm.cells) (slots + rm.slots) → Q v T'.heap L → s.Since T'.vm k1 → k1 ≤ T'.heap.size → Z.Warmed39 T'.vm → T'.vm.findClass own = some m.cls → Goes p e below K T' (mkF m pc' Ls (v.toList ++ rest))) : Goes p e below K T (mkF m pc Ls st) := by
  subst hp
  have hZ' : Z.Warmed39 (s.setVm vm0).vm := hZ
  obtain ⟨cq, kq, qa, qb, qc⟩ := isOf hZ' eT E
  obtain ⟨v, _, ⟨T1, L1, k1, n1⟩, -, X1, h2, g2, ⟨L, hQ, l1, y1, z1⟩, f1⟩ := X.virtualBackS hx (y := y) (z := y) hown (mvT hZ' w1) (mvT hZ' w2) (notFace_of_selects (args := #[]) (mvT hZ' w5)) (mvT hZ' w5) (mvT hZ' w6) hy (backOfS (W := (rest.map fun v => v.category).sum) C hZ' w4 w3 hf hl) qa qc (g := mkF m pc Ls st) rfl hsz (Steps.refl _) (argsL := argsL) (rest := rest) hlen hst (by show 2 * 0 + _ ≤ _; omega) hd (fun _ _ => ⟨has, eT, hc, hsl⟩)
  dsimp only [Pt.U, Pt.locs, Pt.cells, Pt.slots] at X1 l1 y1 z1 f1 hQ h2 g2
  subst l1 y1 z1
  obtain ⟨X2, S2, Z2, o2⟩ := rebS hS (by rw [eT]; exact hk) X1 h2 g2 hZ hown
  exact Goes.by' (fun _ q => f1.trans q) (k T1 v L _ X2 hQ S2 (Nat.le_refl _) Z2 o2)
theorem g_retAW {vm0 : Vm} (X : Stand p l e R (s.setVm vm0) m args below meth c T locs cells slots) (hx : p.tables.exec = Jvm.exec) {C S : Nat} {Q : Option Value → Heap → List Loc → Prop} {v : Value} {t : FieldType} (hv : v.isRef = true) (ht : t.isReference = true) (hlk : meth.locks = false) (hret : meth.sig.returnType = some t) (eT : T.heap = h) {k0 : Nat} (hS : s.Since vm0 k0) (hk : k0 ≤ h.size) (hc : cells ≤ C) (hs : slots ≤ S) (hd : decode c.code pc = .ok (.areturn, 1)) (hQ : Q (some v) h locs) : Goes p e below (KW s C S Q) T (mkF m pc Ls (v :: st)) := by
  subst eT
  obtain ⟨fs, hr, hrun, hended, q1, q2, q3, q4⟩ := X.leaveW hS hk (v := some v) (fun q => by rw [hret] at q; cases q) hlk
  have hn : narrow t v = v := by cases v <;> simp [Value.isRef] at hv <;> cases t <;> simp [FieldType.isReference] at ht <;> rfl
  exact ⟨_, _, retOut X hx hret hn (Or.inr (Or.inr (Or.inr (Or.inr ⟨rfl, ht, hv⟩)))) hd hr, hrun, hended, _, _, rfl, hQ, q1, q2, q3, q4.mono hc hs⟩
theorem g_retW {vm0 : Vm} (X : Stand p l e R (s.setVm vm0) m args below meth c T locs cells slots) (hx : p.tables.exec = Jvm.exec) {C S : Nat} {Q : Option Value → Heap → List Loc → Prop} (hlk : meth.locks = false) (hret : meth.sig.returnType = none) (eT : T.heap = h) {k0 : Nat} (hS : s.Since vm0 k0) (hk : k0 ≤ h.size) (hc : cells ≤ C) (hs : slots ≤ S) (hd : decode c.code pc = .ok (.return_, 1)) (hQ : Q none h locs) : Goes p e below (KW s C S Q) T (mkF m pc Ls []) := by
  subst eT
  obtain ⟨fs, hr, hrun, hended, q1, q2, q3, q4⟩ := X.leaveW hS hk (v := none) (fun _ => rfl) hlk
  exact ⟨_, _, X.returnOut hx hret hd hr, hrun, hended, _, _, rfl, hQ, q1, q2, q3, q4.mono hc hs⟩
theorem own_ib {vm : Vm} (q : vm.interned = Z.vm.interned) : IB Z vm [] := ⟨#[], by simp [q], fun x hx => by simp at hx⟩
end OwnW
theorem own_fin {P : Int32 → Prop} (N : Nat) (hN : N ≤ 2 ^ 31) (hP : ∀ n : Fin N, P (Int32.ofNat n.val)) (d : Int32) (h0 : 0 ≤ d.toInt) (h1 : d.toInt < (N : Int)) : P d := by
  have e : d = Int32.ofNat d.toInt.toNat := by
    apply Int32.toInt_inj.mp
    rw [Int32.toInt_ofNat_of_lt (by omega)]
    omega
  rw [e]
  exact hP ⟨d.toInt.toNat, by omega⟩
theorem own_ltI {x y : Int32} : x < y ↔ x.toInt < y.toInt := Int32.lt_iff_toInt_lt
theorem own_nneg {i : Int32} (h : 0 ≤ i.toInt) : ¬ i < 0 := by rw [own_ltI, show (0 : Int32).toInt = 0 from rfl]; omega
theorem own_tnc (i : Int32) : i.toNatClampNeg = i.toInt.toNat := rfl
theorem own_inc {i : Int32} (h : i.toInt < 2147483647) : (i + 1).toInt = i.toInt + 1 := by
  have e := c_iadd i 1
  have r := rng32 (i + 1)
  have r2 := rng32 i
  rw [show (1 : Int32).toInt = 1 from rfl] at e
  omega
theorem own_rem (a m : Int32) (hm : 0 < m.toInt) : 0 ≤ ((a &&& 2147483647) % m).toInt ∧ ((a &&& 2147483647) % m).toInt < m.toInt := by
  have e1 := c_mask a 2147483647 31 (by decide) (by decide)
  have e2 := (c_iremV (a &&& 2147483647) m).1 (by rw [e1]; omega) hm
  exact ⟨e2.1, e2.2.1⟩
theorem cm_lt (x y : Int64) : XT.cmpL x y < 0 ↔ x < y := by unfold XT.cmpL; split <;> (try split) <;> simp_all [Int64.lt_iff_toInt_lt, ← Int64.toInt_inj] <;> omega
theorem cm_gt (x y : Int64) : 0 < XT.cmpL x y ↔ y < x := by unfold XT.cmpL; split <;> (try split) <;> simp_all [Int64.lt_iff_toInt_lt, ← Int64.toInt_inj] <;> omega
theorem cm_eq (x y : Int64) : XT.cmpL x y = 0 ↔ x = y := by unfold XT.cmpL; split <;> (try split) <;> simp_all [Int64.lt_iff_toInt_lt, ← Int64.toInt_inj] <;> omega
theorem own_b1 {P : Prop} [Decidable P] (q : P) : some (Value.int (nar .boolean 1)) = some (.int (if P then 1 else 0)) := by rw [if_pos q]; rfl
theorem own_b0 {P : Prop} [Decidable P] (q : ¬ P) : some (Value.int (nar .boolean 0)) = some (.int (if P then 1 else 0)) := by rw [if_neg q]; rfl
theorem d1_0 : decode jdk_29_method_66_code 0 = .ok (.lload_n 0, 1) := by decide +kernel
theorem d1_1 : decode jdk_29_method_66_code 1 = .ok (.lload_n 2, 1) := by decide +kernel
theorem d1_2 : decode jdk_29_method_66_code 2 = .ok (.lcmp, 1) := by decide +kernel
theorem d1_3 : decode jdk_29_method_66_code 3 = .ok (.ifCond .lt 7, 3) := by decide +kernel
theorem d1_6 : decode jdk_29_method_66_code 6 = .ok (.lload_n 0, 1) := by decide +kernel
theorem d1_7 : decode jdk_29_method_66_code 7 = .ok (.goto 4, 3) := by decide +kernel
theorem d1_10 : decode jdk_29_method_66_code 10 = .ok (.lload_n 2, 1) := by decide +kernel
theorem d1_11 : decode jdk_29_method_66_code 11 = .ok (.lreturn, 1) := by decide +kernel
theorem d2_0 : decode prog_26_method_1_code 0 = .ok (.aload_n 0, 1) := by decide +kernel
theorem d2_1 : decode prog_26_method_1_code 1 = .ok (.invokespecial 1, 3) := by decide +kernel
theorem d2_4 : decode prog_26_method_1_code 4 = .ok (.aload_n 0, 1) := by decide +kernel
theorem d2_5 : decode prog_26_method_1_code 5 = .ok (.iconst 0, 1) := by decide +kernel
theorem d2_6 : decode prog_26_method_1_code 6 = .ok (.newarray .long, 2) := by decide +kernel
theorem d2_8 : decode prog_26_method_1_code 8 = .ok (.putfield 7, 3) := by decide +kernel
theorem d2_11 : decode prog_26_method_1_code 11 = .ok (.aload_n 0, 1) := by decide +kernel
theorem d2_12 : decode prog_26_method_1_code 12 = .ok (.iconst 0, 1) := by decide +kernel
theorem d2_13 : decode prog_26_method_1_code 13 = .ok (.newarray .long, 2) := by decide +kernel
theorem d2_15 : decode prog_26_method_1_code 15 = .ok (.putfield 13, 3) := by decide +kernel
theorem d2_18 : decode prog_26_method_1_code 18 = .ok (.return_, 1) := by decide +kernel
theorem d4_0 : decode prog_26_method_2_code 0 = .ok (.aload_n 0, 1) := by decide +kernel
theorem d4_1 : decode prog_26_method_2_code 1 = .ok (.lload_n 1, 1) := by decide +kernel
theorem d4_2 : decode prog_26_method_2_code 2 = .ok (.putfield 16, 3) := by decide +kernel
theorem d4_5 : decode prog_26_method_2_code 5 = .ok (.aload_n 0, 1) := by decide +kernel
theorem d4_6 : decode prog_26_method_2_code 6 = .ok (.lload_n 1, 1) := by decide +kernel
theorem d4_7 : decode prog_26_method_2_code 7 = .ok (.lload_n 3, 1) := by decide +kernel
theorem d4_8 : decode prog_26_method_2_code 8 = .ok (.lcmp, 1) := by decide +kernel
theorem d4_9 : decode prog_26_method_2_code 9 = .ok (.ifCond .gt 7, 3) := by decide +kernel
theorem d4_12 : decode prog_26_method_2_code 12 = .ok (.iconst 1, 1) := by decide +kernel
theorem d4_13 : decode prog_26_method_2_code 13 = .ok (.goto 4, 3) := by decide +kernel
theorem d4_16 : decode prog_26_method_2_code 16 = .ok (.iconst 0, 1) := by decide +kernel
theorem d4_17 : decode prog_26_method_2_code 17 = .ok (.putfield 20, 3) := by decide +kernel
theorem d4_20 : decode prog_26_method_2_code 20 = .ok (.aload_n 0, 1) := by decide +kernel
theorem d4_21 : decode prog_26_method_2_code 21 = .ok (.aload_n 0, 1) := by decide +kernel
theorem d4_22 : decode prog_26_method_2_code 22 = .ok (.getfield 20, 3) := by decide +kernel
theorem d4_25 : decode prog_26_method_2_code 25 = .ok (.ifCond .eq 18, 3) := by decide +kernel
theorem d4_28 : decode prog_26_method_2_code 28 = .ok (.aload_n 0, 1) := by decide +kernel
theorem d4_29 : decode prog_26_method_2_code 29 = .ok (.invokevirtual 24, 3) := by decide +kernel
theorem d4_32 : decode prog_26_method_2_code 32 = .ok (.ldc2_w 28, 3) := by decide +kernel
theorem d4_35 : decode prog_26_method_2_code 35 = .ok (.lcmp, 1) := by decide +kernel
theorem d4_36 : decode prog_26_method_2_code 36 = .ok (.ifCond .gt 7, 3) := by decide +kernel
theorem d4_39 : decode prog_26_method_2_code 39 = .ok (.iconst 1, 1) := by decide +kernel
theorem d4_40 : decode prog_26_method_2_code 40 = .ok (.goto 4, 3) := by decide +kernel
theorem d4_43 : decode prog_26_method_2_code 43 = .ok (.iconst 0, 1) := by decide +kernel
theorem d4_44 : decode prog_26_method_2_code 44 = .ok (.putfield 30, 3) := by decide +kernel
theorem d4_47 : decode prog_26_method_2_code 47 = .ok (.aload_n 0, 1) := by decide +kernel
theorem d4_48 : decode prog_26_method_2_code 48 = .ok (.iconst 0, 1) := by decide +kernel
theorem d4_49 : decode prog_26_method_2_code 49 = .ok (.putfield 33, 3) := by decide +kernel
theorem d4_52 : decode prog_26_method_2_code 52 = .ok (.aload_n 0, 1) := by decide +kernel
theorem d4_53 : decode prog_26_method_2_code 53 = .ok (.iconst 0, 1) := by decide +kernel
theorem d4_54 : decode prog_26_method_2_code 54 = .ok (.putfield 36, 3) := by decide +kernel
theorem d4_57 : decode prog_26_method_2_code 57 = .ok (.aload_n 0, 1) := by decide +kernel
theorem d4_58 : decode prog_26_method_2_code 58 = .ok (.getfield 30, 3) := by decide +kernel
theorem d4_61 : decode prog_26_method_2_code 61 = .ok (.ifCond .eq 10, 3) := by decide +kernel
theorem d4_64 : decode prog_26_method_2_code 64 = .ok (.aload_n 0, 1) := by decide +kernel
theorem d4_65 : decode prog_26_method_2_code 65 = .ok (.invokevirtual 40, 3) := by decide +kernel
theorem d4_68 : decode prog_26_method_2_code 68 = .ok (.goto 77, 3) := by decide +kernel
theorem d4_71 : decode prog_26_method_2_code 71 = .ok (.aload_n 0, 1) := by decide +kernel
theorem d4_72 : decode prog_26_method_2_code 72 = .ok (.lload_n 3, 1) := by decide +kernel
theorem d4_73 : decode prog_26_method_2_code 73 = .ok (.bipush 6, 2) := by decide +kernel
theorem d4_75 : decode prog_26_method_2_code 75 = .ok (.lushr, 1) := by decide +kernel
theorem d4_76 : decode prog_26_method_2_code 76 = .ok (.ldc2_w 43, 3) := by decide +kernel
theorem d4_79 : decode prog_26_method_2_code 79 = .ok (.invokestatic 45, 3) := by decide +kernel
theorem d4_82 : decode prog_26_method_2_code 82 = .ok (.l2i, 1) := by decide +kernel
theorem d4_83 : decode prog_26_method_2_code 83 = .ok (.invokestatic 51, 3) := by decide +kernel
theorem d4_86 : decode prog_26_method_2_code 86 = .ok (.putfield 57, 3) := by decide +kernel
theorem d4_89 : decode prog_26_method_2_code 89 = .ok (.aload_n 0, 1) := by decide +kernel
theorem d4_90 : decode prog_26_method_2_code 90 = .ok (.getfield 13, 3) := by decide +kernel
theorem d4_93 : decode prog_26_method_2_code 93 = .ok (.arraylength, 1) := by decide +kernel
theorem d4_94 : decode prog_26_method_2_code 94 = .ok (.bipush 64, 2) := by decide +kernel
theorem d4_96 : decode prog_26_method_2_code 96 = .ok (.if_icmp .lt 15, 3) := by decide +kernel
theorem d4_99 : decode prog_26_method_2_code 99 = .ok (.aload_n 0, 1) := by decide +kernel
theorem d4_100 : decode prog_26_method_2_code 100 = .ok (.getfield 13, 3) := by decide +kernel
theorem d4_103 : decode prog_26_method_2_code 103 = .ok (.arraylength, 1) := by decide +kernel
theorem d4_104 : decode prog_26_method_2_code 104 = .ok (.aload_n 0, 1) := by decide +kernel
theorem d4_105 : decode prog_26_method_2_code 105 = .ok (.getfield 57, 3) := by decide +kernel
theorem d4_108 : decode prog_26_method_2_code 108 = .ok (.if_icmp .le 14, 3) := by decide +kernel
theorem d4_111 : decode prog_26_method_2_code 111 = .ok (.aload_n 0, 1) := by decide +kernel
theorem d4_112 : decode prog_26_method_2_code 112 = .ok (.bipush 64, 2) := by decide +kernel
theorem d4_114 : decode prog_26_method_2_code 114 = .ok (.newarray .long, 2) := by decide +kernel
theorem d4_116 : decode prog_26_method_2_code 116 = .ok (.putfield 13, 3) := by decide +kernel
theorem d4_119 : decode prog_26_method_2_code 119 = .ok (.goto 11, 3) := by decide +kernel
theorem d4_122 : decode prog_26_method_2_code 122 = .ok (.aload_n 0, 1) := by decide +kernel
theorem d4_123 : decode prog_26_method_2_code 123 = .ok (.getfield 13, 3) := by decide +kernel
theorem d4_126 : decode prog_26_method_2_code 126 = .ok (.lconst 0, 1) := by decide +kernel
theorem d4_127 : decode prog_26_method_2_code 127 = .ok (.invokestatic 60, 3) := by decide +kernel
theorem d4_130 : decode prog_26_method_2_code 130 = .ok (.aload_n 0, 1) := by decide +kernel
theorem d4_131 : decode prog_26_method_2_code 131 = .ok (.aload_n 0, 1) := by decide +kernel
theorem d4_132 : decode prog_26_method_2_code 132 = .ok (.getfield 13, 3) := by decide +kernel
theorem d4_135 : decode prog_26_method_2_code 135 = .ok (.arraylength, 1) := by decide +kernel
theorem d4_136 : decode prog_26_method_2_code 136 = .ok (.i2l, 1) := by decide +kernel
theorem d4_137 : decode prog_26_method_2_code 137 = .ok (.invokestatic 66, 3) := by decide +kernel
theorem d4_140 : decode prog_26_method_2_code 140 = .ok (.iconst 1, 1) := by decide +kernel
theorem d4_141 : decode prog_26_method_2_code 141 = .ok (.iadd, 1) := by decide +kernel
theorem d4_142 : decode prog_26_method_2_code 142 = .ok (.putfield 72, 3) := by decide +kernel
theorem d4_145 : decode prog_26_method_2_code 145 = .ok (.return_, 1) := by decide +kernel
theorem d5_0 : decode prog_26_method_11_code 0 = .ok (.aload_n 0, 1) := by decide +kernel
theorem d5_1 : decode prog_26_method_11_code 1 = .ok (.getfield 16, 3) := by decide +kernel
theorem d5_4 : decode prog_26_method_11_code 4 = .ok (.ldc2_w 106, 3) := by decide +kernel
theorem d5_7 : decode prog_26_method_11_code 7 = .ok (.ladd, 1) := by decide +kernel
theorem d5_8 : decode prog_26_method_11_code 8 = .ok (.bipush 6, 2) := by decide +kernel
theorem d5_10 : decode prog_26_method_11_code 10 = .ok (.lushr, 1) := by decide +kernel
theorem d5_11 : decode prog_26_method_11_code 11 = .ok (.lreturn, 1) := by decide +kernel
theorem d6_0 : decode prog_26_method_10_code 0 = .ok (.aload_n 0, 1) := by decide +kernel
theorem d6_1 : decode prog_26_method_10_code 1 = .ok (.invokevirtual 24, 3) := by decide +kernel
theorem d6_4 : decode prog_26_method_10_code 4 = .ok (.l2i, 1) := by decide +kernel
theorem d6_5 : decode prog_26_method_10_code 5 = .ok (.istore_n 1, 1) := by decide +kernel
theorem d6_6 : decode prog_26_method_10_code 6 = .ok (.aload_n 0, 1) := by decide +kernel
theorem d6_7 : decode prog_26_method_10_code 7 = .ok (.getfield 7, 3) := by decide +kernel
theorem d6_10 : decode prog_26_method_10_code 10 = .ok (.arraylength, 1) := by decide +kernel
theorem d6_11 : decode prog_26_method_10_code 11 = .ok (.iload_n 1, 1) := by decide +kernel
theorem d6_12 : decode prog_26_method_10_code 12 = .ok (.if_icmp .ge 13, 3) := by decide +kernel
theorem d6_15 : decode prog_26_method_10_code 15 = .ok (.aload_n 0, 1) := by decide +kernel
theorem d6_16 : decode prog_26_method_10_code 16 = .ok (.iload_n 1, 1) := by decide +kernel
theorem d6_17 : decode prog_26_method_10_code 17 = .ok (.newarray .long, 2) := by decide +kernel
theorem d6_19 : decode prog_26_method_10_code 19 = .ok (.putfield 7, 3) := by decide +kernel
theorem d6_22 : decode prog_26_method_10_code 22 = .ok (.goto 13, 3) := by decide +kernel
theorem d6_25 : decode prog_26_method_10_code 25 = .ok (.aload_n 0, 1) := by decide +kernel
theorem d6_26 : decode prog_26_method_10_code 26 = .ok (.getfield 7, 3) := by decide +kernel
theorem d6_29 : decode prog_26_method_10_code 29 = .ok (.iconst 0, 1) := by decide +kernel
theorem d6_30 : decode prog_26_method_10_code 30 = .ok (.iload_n 1, 1) := by decide +kernel
theorem d6_31 : decode prog_26_method_10_code 31 = .ok (.lconst 0, 1) := by decide +kernel
theorem d6_32 : decode prog_26_method_10_code 32 = .ok (.invokestatic 103, 3) := by decide +kernel
theorem d6_35 : decode prog_26_method_10_code 35 = .ok (.return_, 1) := by decide +kernel
theorem d7_0 : decode prog_26_method_5_code 0 = .ok (.aload_n 0, 1) := by decide +kernel
theorem d7_1 : decode prog_26_method_5_code 1 = .ok (.lload_n 1, 1) := by decide +kernel
theorem d7_2 : decode prog_26_method_5_code 2 = .ok (.invokevirtual 75, 3) := by decide +kernel
theorem d7_5 : decode prog_26_method_5_code 5 = .ok (.aload_n 0, 1) := by decide +kernel
theorem d7_6 : decode prog_26_method_5_code 6 = .ok (.getfield 30, 3) := by decide +kernel
theorem d7_9 : decode prog_26_method_5_code 9 = .ok (.ifCond .eq 50, 3) := by decide +kernel
theorem d7_12 : decode prog_26_method_5_code 12 = .ok (.lload_n 1, 1) := by decide +kernel
theorem d7_13 : decode prog_26_method_5_code 13 = .ok (.bipush 6, 2) := by decide +kernel
theorem d7_15 : decode prog_26_method_5_code 15 = .ok (.lushr, 1) := by decide +kernel
theorem d7_16 : decode prog_26_method_5_code 16 = .ok (.l2i, 1) := by decide +kernel
theorem d7_17 : decode prog_26_method_5_code 17 = .ok (.istore 4, 2) := by decide +kernel
theorem d7_19 : decode prog_26_method_5_code 19 = .ok (.aload_n 0, 1) := by decide +kernel
theorem d7_20 : decode prog_26_method_5_code 20 = .ok (.getfield 7, 3) := by decide +kernel
theorem d7_23 : decode prog_26_method_5_code 23 = .ok (.iload 4, 2) := by decide +kernel
theorem d7_25 : decode prog_26_method_5_code 25 = .ok (.laload, 1) := by decide +kernel
theorem d7_26 : decode prog_26_method_5_code 26 = .ok (.lconst 1, 1) := by decide +kernel
theorem d7_27 : decode prog_26_method_5_code 27 = .ok (.lload_n 1, 1) := by decide +kernel
theorem d7_28 : decode prog_26_method_5_code 28 = .ok (.l2i, 1) := by decide +kernel
theorem d7_29 : decode prog_26_method_5_code 29 = .ok (.lshl, 1) := by decide +kernel
theorem d7_30 : decode prog_26_method_5_code 30 = .ok (.land, 1) := by decide +kernel
theorem d7_31 : decode prog_26_method_5_code 31 = .ok (.lconst 0, 1) := by decide +kernel
theorem d7_32 : decode prog_26_method_5_code 32 = .ok (.lcmp, 1) := by decide +kernel
theorem d7_33 : decode prog_26_method_5_code 33 = .ok (.ifCond .ne 7, 3) := by decide +kernel
theorem d7_36 : decode prog_26_method_5_code 36 = .ok (.iconst 1, 1) := by decide +kernel
theorem d7_37 : decode prog_26_method_5_code 37 = .ok (.goto 4, 3) := by decide +kernel
theorem d7_40 : decode prog_26_method_5_code 40 = .ok (.iconst 0, 1) := by decide +kernel
theorem d7_41 : decode prog_26_method_5_code 41 = .ok (.istore_n 3, 1) := by decide +kernel
theorem d7_42 : decode prog_26_method_5_code 42 = .ok (.aload_n 0, 1) := by decide +kernel
theorem d7_43 : decode prog_26_method_5_code 43 = .ok (.getfield 7, 3) := by decide +kernel
theorem d7_46 : decode prog_26_method_5_code 46 = .ok (.iload 4, 2) := by decide +kernel
theorem d7_48 : decode prog_26_method_5_code 48 = .ok (.dup2, 1) := by decide +kernel
theorem d7_49 : decode prog_26_method_5_code 49 = .ok (.laload, 1) := by decide +kernel
theorem d7_50 : decode prog_26_method_5_code 50 = .ok (.lconst 1, 1) := by decide +kernel
theorem d7_51 : decode prog_26_method_5_code 51 = .ok (.lload_n 1, 1) := by decide +kernel
theorem d7_52 : decode prog_26_method_5_code 52 = .ok (.l2i, 1) := by decide +kernel
theorem d7_53 : decode prog_26_method_5_code 53 = .ok (.lshl, 1) := by decide +kernel
theorem d7_54 : decode prog_26_method_5_code 54 = .ok (.lor, 1) := by decide +kernel
theorem d7_55 : decode prog_26_method_5_code 55 = .ok (.lastore, 1) := by decide +kernel
theorem d7_56 : decode prog_26_method_5_code 56 = .ok (.goto 9, 3) := by decide +kernel
theorem d7_59 : decode prog_26_method_5_code 59 = .ok (.aload_n 0, 1) := by decide +kernel
theorem d7_60 : decode prog_26_method_5_code 60 = .ok (.lload_n 1, 1) := by decide +kernel
theorem d7_61 : decode prog_26_method_5_code 61 = .ok (.invokevirtual 82, 3) := by decide +kernel
theorem d7_64 : decode prog_26_method_5_code 64 = .ok (.istore_n 3, 1) := by decide +kernel
theorem d7_65 : decode prog_26_method_5_code 65 = .ok (.iload_n 3, 1) := by decide +kernel
theorem d7_66 : decode prog_26_method_5_code 66 = .ok (.ireturn, 1) := by decide +kernel
theorem d8_0 : decode prog_26_method_7_code 0 = .ok (.lload_n 1, 1) := by decide +kernel
theorem d8_1 : decode prog_26_method_7_code 1 = .ok (.lconst 0, 1) := by decide +kernel
theorem d8_2 : decode prog_26_method_7_code 2 = .ok (.lcmp, 1) := by decide +kernel
theorem d8_3 : decode prog_26_method_7_code 3 = .ok (.ifCond .lt 12, 3) := by decide +kernel
theorem d8_6 : decode prog_26_method_7_code 6 = .ok (.lload_n 1, 1) := by decide +kernel
theorem d8_7 : decode prog_26_method_7_code 7 = .ok (.aload_n 0, 1) := by decide +kernel
theorem d8_8 : decode prog_26_method_7_code 8 = .ok (.getfield 16, 3) := by decide +kernel
theorem d8_11 : decode prog_26_method_7_code 11 = .ok (.lcmp, 1) := by decide +kernel
theorem d8_12 : decode prog_26_method_7_code 12 = .ok (.ifCond .lt 21, 3) := by decide +kernel
theorem d8_33 : decode prog_26_method_7_code 33 = .ok (.return_, 1) := by decide +kernel
theorem d9_0 : decode prog_26_method_6_code 0 = .ok (.aload_n 0, 1) := by decide +kernel
theorem d9_1 : decode prog_26_method_6_code 1 = .ok (.getfield 7, 3) := by decide +kernel
theorem d9_4 : decode prog_26_method_6_code 4 = .ok (.arraylength, 1) := by decide +kernel
theorem d9_5 : decode prog_26_method_6_code 5 = .ok (.sipush 4096, 3) := by decide +kernel
theorem d9_8 : decode prog_26_method_6_code 8 = .ok (.if_icmp .le 10, 3) := by decide +kernel
theorem d9_18 : decode prog_26_method_6_code 18 = .ok (.aload_n 0, 1) := by decide +kernel
theorem d9_19 : decode prog_26_method_6_code 19 = .ok (.getfield 13, 3) := by decide +kernel
theorem d9_22 : decode prog_26_method_6_code 22 = .ok (.arraylength, 1) := by decide +kernel
theorem d9_23 : decode prog_26_method_6_code 23 = .ok (.sipush 4096, 3) := by decide +kernel
theorem d9_26 : decode prog_26_method_6_code 26 = .ok (.if_icmp .le 10, 3) := by decide +kernel
theorem d9_36 : decode prog_26_method_6_code 36 = .ok (.return_, 1) := by decide +kernel
theorem d10_0 : decode prog_26_method_4_code 0 = .ok (.aload_n 0, 1) := by decide +kernel
theorem d10_1 : decode prog_26_method_4_code 1 = .ok (.lload_n 1, 1) := by decide +kernel
theorem d10_2 : decode prog_26_method_4_code 2 = .ok (.invokevirtual 75, 3) := by decide +kernel
theorem d10_5 : decode prog_26_method_4_code 5 = .ok (.aload_n 0, 1) := by decide +kernel
theorem d10_6 : decode prog_26_method_4_code 6 = .ok (.getfield 30, 3) := by decide +kernel
theorem d10_9 : decode prog_26_method_4_code 9 = .ok (.ifCond .eq 32, 3) := by decide +kernel
theorem d10_12 : decode prog_26_method_4_code 12 = .ok (.aload_n 0, 1) := by decide +kernel
theorem d10_13 : decode prog_26_method_4_code 13 = .ok (.getfield 7, 3) := by decide +kernel
theorem d10_16 : decode prog_26_method_4_code 16 = .ok (.lload_n 1, 1) := by decide +kernel
theorem d10_17 : decode prog_26_method_4_code 17 = .ok (.bipush 6, 2) := by decide +kernel
theorem d10_19 : decode prog_26_method_4_code 19 = .ok (.lushr, 1) := by decide +kernel
theorem d10_20 : decode prog_26_method_4_code 20 = .ok (.l2i, 1) := by decide +kernel
theorem d10_21 : decode prog_26_method_4_code 21 = .ok (.laload, 1) := by decide +kernel
theorem d10_22 : decode prog_26_method_4_code 22 = .ok (.lconst 1, 1) := by decide +kernel
theorem d10_23 : decode prog_26_method_4_code 23 = .ok (.lload_n 1, 1) := by decide +kernel
theorem d10_24 : decode prog_26_method_4_code 24 = .ok (.l2i, 1) := by decide +kernel
theorem d10_25 : decode prog_26_method_4_code 25 = .ok (.lshl, 1) := by decide +kernel
theorem d10_26 : decode prog_26_method_4_code 26 = .ok (.land, 1) := by decide +kernel
theorem d10_27 : decode prog_26_method_4_code 27 = .ok (.lconst 0, 1) := by decide +kernel
theorem d10_28 : decode prog_26_method_4_code 28 = .ok (.lcmp, 1) := by decide +kernel
theorem d10_29 : decode prog_26_method_4_code 29 = .ok (.ifCond .eq 7, 3) := by decide +kernel
theorem d10_32 : decode prog_26_method_4_code 32 = .ok (.iconst 1, 1) := by decide +kernel
theorem d10_33 : decode prog_26_method_4_code 33 = .ok (.goto 4, 3) := by decide +kernel
theorem d10_36 : decode prog_26_method_4_code 36 = .ok (.iconst 0, 1) := by decide +kernel
theorem d10_37 : decode prog_26_method_4_code 37 = .ok (.istore_n 3, 1) := by decide +kernel
theorem d10_38 : decode prog_26_method_4_code 38 = .ok (.goto 24, 3) := by decide +kernel
theorem d10_41 : decode prog_26_method_4_code 41 = .ok (.aload_n 0, 1) := by decide +kernel
theorem d10_42 : decode prog_26_method_4_code 42 = .ok (.getfield 13, 3) := by decide +kernel
theorem d10_45 : decode prog_26_method_4_code 45 = .ok (.aload_n 0, 1) := by decide +kernel
theorem d10_46 : decode prog_26_method_4_code 46 = .ok (.lload_n 1, 1) := by decide +kernel
theorem d10_47 : decode prog_26_method_4_code 47 = .ok (.invokevirtual 79, 3) := by decide +kernel
theorem d10_50 : decode prog_26_method_4_code 50 = .ok (.laload, 1) := by decide +kernel
theorem d10_51 : decode prog_26_method_4_code 51 = .ok (.lconst 0, 1) := by decide +kernel
theorem d10_52 : decode prog_26_method_4_code 52 = .ok (.lcmp, 1) := by decide +kernel
theorem d10_53 : decode prog_26_method_4_code 53 = .ok (.ifCond .eq 7, 3) := by decide +kernel
theorem d10_56 : decode prog_26_method_4_code 56 = .ok (.iconst 1, 1) := by decide +kernel
theorem d10_57 : decode prog_26_method_4_code 57 = .ok (.goto 4, 3) := by decide +kernel
theorem d10_60 : decode prog_26_method_4_code 60 = .ok (.iconst 0, 1) := by decide +kernel
theorem d10_61 : decode prog_26_method_4_code 61 = .ok (.istore_n 3, 1) := by decide +kernel
theorem d10_62 : decode prog_26_method_4_code 62 = .ok (.iload_n 3, 1) := by decide +kernel
theorem d10_63 : decode prog_26_method_4_code 63 = .ok (.ireturn, 1) := by decide +kernel
theorem d11_0 : decode prog_26_method_3_code 0 = .ok (.aload_n 0, 1) := by decide +kernel
theorem d11_1 : decode prog_26_method_3_code 1 = .ok (.getfield 33, 3) := by decide +kernel
theorem d11_4 : decode prog_26_method_3_code 4 = .ok (.ifCond .ne 7, 3) := by decide +kernel
theorem d11_7 : decode prog_26_method_3_code 7 = .ok (.iconst 1, 1) := by decide +kernel
theorem d11_8 : decode prog_26_method_3_code 8 = .ok (.goto 4, 3) := by decide +kernel
theorem d11_12 : decode prog_26_method_3_code 12 = .ok (.ireturn, 1) := by decide +kernel
theorem d12_0 : decode jdk_65_method_102_code 0 = .ok (.aload_n 0, 1) := by decide +kernel
theorem d12_1 : decode jdk_65_method_102_code 1 = .ok (.arraylength, 1) := by decide +kernel
theorem d12_2 : decode jdk_65_method_102_code 2 = .ok (.iload_n 1, 1) := by decide +kernel
theorem d12_3 : decode jdk_65_method_102_code 3 = .ok (.iload_n 2, 1) := by decide +kernel
theorem d12_4 : decode jdk_65_method_102_code 4 = .ok (.invokestatic 13, 3) := by decide +kernel
theorem d12_7 : decode jdk_65_method_102_code 7 = .ok (.iload_n 1, 1) := by decide +kernel
theorem d12_8 : decode jdk_65_method_102_code 8 = .ok (.istore 5, 2) := by decide +kernel
theorem d12_10 : decode jdk_65_method_102_code 10 = .ok (.iload 5, 2) := by decide +kernel
theorem d12_12 : decode jdk_65_method_102_code 12 = .ok (.iload_n 2, 1) := by decide +kernel
theorem d12_13 : decode jdk_65_method_102_code 13 = .ok (.if_icmp .ge 14, 3) := by decide +kernel
theorem d12_16 : decode jdk_65_method_102_code 16 = .ok (.aload_n 0, 1) := by decide +kernel
theorem d12_17 : decode jdk_65_method_102_code 17 = .ok (.iload 5, 2) := by decide +kernel
theorem d12_19 : decode jdk_65_method_102_code 19 = .ok (.lload_n 3, 1) := by decide +kernel
theorem d12_20 : decode jdk_65_method_102_code 20 = .ok (.lastore, 1) := by decide +kernel
theorem d12_21 : decode jdk_65_method_102_code 21 = .ok (.iinc 5 1, 3) := by decide +kernel
theorem d12_24 : decode jdk_65_method_102_code 24 = .ok (.goto (-14), 3) := by decide +kernel
theorem d12_27 : decode jdk_65_method_102_code 27 = .ok (.return_, 1) := by decide +kernel
theorem d13_0 : decode jdk_65_method_30_code 0 = .ok (.iload_n 1, 1) := by decide +kernel
theorem d13_1 : decode jdk_65_method_30_code 1 = .ok (.iload_n 2, 1) := by decide +kernel
theorem d13_2 : decode jdk_65_method_30_code 2 = .ok (.if_icmp .le 44, 3) := by decide +kernel
theorem d13_46 : decode jdk_65_method_30_code 46 = .ok (.iload_n 1, 1) := by decide +kernel
theorem d13_47 : decode jdk_65_method_30_code 47 = .ok (.ifCond .ge 12, 3) := by decide +kernel
theorem d13_59 : decode jdk_65_method_30_code 59 = .ok (.iload_n 2, 1) := by decide +kernel
theorem d13_60 : decode jdk_65_method_30_code 60 = .ok (.iload_n 0, 1) := by decide +kernel
theorem d13_61 : decode jdk_65_method_30_code 61 = .ok (.if_icmp .le 12, 3) := by decide +kernel
theorem d13_73 : decode jdk_65_method_30_code 73 = .ok (.return_, 1) := by decide +kernel
theorem d14_0 : decode jdk_29_method_70_code 0 = .ok (.lload_n 0, 1) := by decide +kernel
theorem d14_1 : decode jdk_29_method_70_code 1 = .ok (.lload_n 2, 1) := by decide +kernel
theorem d14_2 : decode jdk_29_method_70_code 2 = .ok (.lcmp, 1) := by decide +kernel
theorem d14_3 : decode jdk_29_method_70_code 3 = .ok (.ifCond .gt 7, 3) := by decide +kernel
theorem d14_6 : decode jdk_29_method_70_code 6 = .ok (.lload_n 0, 1) := by decide +kernel
theorem d14_7 : decode jdk_29_method_70_code 7 = .ok (.goto 4, 3) := by decide +kernel
theorem d14_10 : decode jdk_29_method_70_code 10 = .ok (.lload_n 2, 1) := by decide +kernel
theorem d14_11 : decode jdk_29_method_70_code 11 = .ok (.lreturn, 1) := by decide +kernel
theorem d15_0 : decode jdk_33_method_45_code 0 = .ok (.iload_n 0, 1) := by decide +kernel
theorem d15_1 : decode jdk_33_method_45_code 1 = .ok (.ldc 127, 2) := by decide +kernel
theorem d15_3 : decode jdk_33_method_45_code 3 = .ok (.iload_n 0, 1) := by decide +kernel
theorem d15_4 : decode jdk_33_method_45_code 4 = .ok (.invokestatic 51, 3) := by decide +kernel
theorem d15_7 : decode jdk_33_method_45_code 7 = .ok (.iushr, 1) := by decide +kernel
theorem d15_8 : decode jdk_33_method_45_code 8 = .ok (.iand, 1) := by decide +kernel
theorem d15_9 : decode jdk_33_method_45_code 9 = .ok (.ireturn, 1) := by decide +kernel
theorem d16_0 : decode jdk_33_method_47_code 0 = .ok (.iload_n 0, 1) := by decide +kernel
theorem d16_1 : decode jdk_33_method_47_code 1 = .ok (.ifCond .gt 14, 3) := by decide +kernel
theorem d16_4 : decode jdk_33_method_47_code 4 = .ok (.iload_n 0, 1) := by decide +kernel
theorem d16_5 : decode jdk_33_method_47_code 5 = .ok (.ifCond .ne 8, 3) := by decide +kernel
theorem d16_8 : decode jdk_33_method_47_code 8 = .ok (.bipush 32, 2) := by decide +kernel
theorem d16_10 : decode jdk_33_method_47_code 10 = .ok (.goto 4, 3) := by decide +kernel
theorem d16_13 : decode jdk_33_method_47_code 13 = .ok (.iconst 0, 1) := by decide +kernel
theorem d16_14 : decode jdk_33_method_47_code 14 = .ok (.ireturn, 1) := by decide +kernel
theorem d16_15 : decode jdk_33_method_47_code 15 = .ok (.bipush 31, 2) := by decide +kernel
theorem d16_17 : decode jdk_33_method_47_code 17 = .ok (.istore_n 1, 1) := by decide +kernel
theorem d16_18 : decode jdk_33_method_47_code 18 = .ok (.iload_n 0, 1) := by decide +kernel
theorem d16_19 : decode jdk_33_method_47_code 19 = .ok (.ldc_w 264, 3) := by decide +kernel
theorem d16_22 : decode jdk_33_method_47_code 22 = .ok (.if_icmp .lt 11, 3) := by decide +kernel
theorem d16_25 : decode jdk_33_method_47_code 25 = .ok (.iinc 1 (-16), 3) := by decide +kernel
theorem d16_28 : decode jdk_33_method_47_code 28 = .ok (.iload_n 0, 1) := by decide +kernel
theorem d16_29 : decode jdk_33_method_47_code 29 = .ok (.bipush 16, 2) := by decide +kernel
theorem d16_31 : decode jdk_33_method_47_code 31 = .ok (.iushr, 1) := by decide +kernel
theorem d16_32 : decode jdk_33_method_47_code 32 = .ok (.istore_n 0, 1) := by decide +kernel
theorem d16_33 : decode jdk_33_method_47_code 33 = .ok (.iload_n 0, 1) := by decide +kernel
theorem d16_34 : decode jdk_33_method_47_code 34 = .ok (.sipush 256, 3) := by decide +kernel
theorem d16_37 : decode jdk_33_method_47_code 37 = .ok (.if_icmp .lt 11, 3) := by decide +kernel
theorem d16_40 : decode jdk_33_method_47_code 40 = .ok (.iinc 1 (-8), 3) := by decide +kernel
theorem d16_43 : decode jdk_33_method_47_code 43 = .ok (.iload_n 0, 1) := by decide +kernel
theorem d16_44 : decode jdk_33_method_47_code 44 = .ok (.bipush 8, 2) := by decide +kernel
theorem d16_46 : decode jdk_33_method_47_code 46 = .ok (.iushr, 1) := by decide +kernel
theorem d16_47 : decode jdk_33_method_47_code 47 = .ok (.istore_n 0, 1) := by decide +kernel
theorem d16_48 : decode jdk_33_method_47_code 48 = .ok (.iload_n 0, 1) := by decide +kernel
theorem d16_49 : decode jdk_33_method_47_code 49 = .ok (.bipush 16, 2) := by decide +kernel
theorem d16_51 : decode jdk_33_method_47_code 51 = .ok (.if_icmp .lt 10, 3) := by decide +kernel
theorem d16_54 : decode jdk_33_method_47_code 54 = .ok (.iinc 1 (-4), 3) := by decide +kernel
theorem d16_57 : decode jdk_33_method_47_code 57 = .ok (.iload_n 0, 1) := by decide +kernel
theorem d16_58 : decode jdk_33_method_47_code 58 = .ok (.iconst 4, 1) := by decide +kernel
theorem d16_59 : decode jdk_33_method_47_code 59 = .ok (.iushr, 1) := by decide +kernel
theorem d16_60 : decode jdk_33_method_47_code 60 = .ok (.istore_n 0, 1) := by decide +kernel
theorem d16_61 : decode jdk_33_method_47_code 61 = .ok (.iload_n 0, 1) := by decide +kernel
theorem d16_62 : decode jdk_33_method_47_code 62 = .ok (.iconst 4, 1) := by decide +kernel
theorem d16_63 : decode jdk_33_method_47_code 63 = .ok (.if_icmp .lt 10, 3) := by decide +kernel
theorem d16_66 : decode jdk_33_method_47_code 66 = .ok (.iinc 1 (-2), 3) := by decide +kernel
theorem d16_69 : decode jdk_33_method_47_code 69 = .ok (.iload_n 0, 1) := by decide +kernel
theorem d16_70 : decode jdk_33_method_47_code 70 = .ok (.iconst 2, 1) := by decide +kernel
theorem d16_71 : decode jdk_33_method_47_code 71 = .ok (.iushr, 1) := by decide +kernel
theorem d16_72 : decode jdk_33_method_47_code 72 = .ok (.istore_n 0, 1) := by decide +kernel
theorem d16_73 : decode jdk_33_method_47_code 73 = .ok (.iload_n 1, 1) := by decide +kernel
theorem d16_74 : decode jdk_33_method_47_code 74 = .ok (.iload_n 0, 1) := by decide +kernel
theorem d16_75 : decode jdk_33_method_47_code 75 = .ok (.iconst 1, 1) := by decide +kernel
theorem d16_76 : decode jdk_33_method_47_code 76 = .ok (.iushr, 1) := by decide +kernel
theorem d16_77 : decode jdk_33_method_47_code 77 = .ok (.isub, 1) := by decide +kernel
theorem d16_78 : decode jdk_33_method_47_code 78 = .ok (.ireturn, 1) := by decide +kernel
theorem d17_0 : decode jdk_35_method_48_code 0 = .ok (.lload_n 0, 1) := by decide +kernel
theorem d17_1 : decode jdk_35_method_48_code 1 = .ok (.bipush 32, 2) := by decide +kernel
theorem d17_3 : decode jdk_35_method_48_code 3 = .ok (.lushr, 1) := by decide +kernel
theorem d17_4 : decode jdk_35_method_48_code 4 = .ok (.l2i, 1) := by decide +kernel
theorem d17_5 : decode jdk_35_method_48_code 5 = .ok (.istore_n 2, 1) := by decide +kernel
theorem d17_6 : decode jdk_35_method_48_code 6 = .ok (.iload_n 2, 1) := by decide +kernel
theorem d17_7 : decode jdk_35_method_48_code 7 = .ok (.ifCond .ne 14, 3) := by decide +kernel
theorem d17_10 : decode jdk_35_method_48_code 10 = .ok (.bipush 32, 2) := by decide +kernel
theorem d17_12 : decode jdk_35_method_48_code 12 = .ok (.lload_n 0, 1) := by decide +kernel
theorem d17_13 : decode jdk_35_method_48_code 13 = .ok (.l2i, 1) := by decide +kernel
theorem d17_14 : decode jdk_35_method_48_code 14 = .ok (.invokestatic 308, 3) := by decide +kernel
theorem d17_17 : decode jdk_35_method_48_code 17 = .ok (.iadd, 1) := by decide +kernel
theorem d17_18 : decode jdk_35_method_48_code 18 = .ok (.goto 7, 3) := by decide +kernel
theorem d17_25 : decode jdk_35_method_48_code 25 = .ok (.ireturn, 1) := by decide +kernel
theorem d18_0 : decode prog_26_method_8_code 0 = .ok (.aload_n 0, 1) := by decide +kernel
theorem d18_1 : decode prog_26_method_8_code 1 = .ok (.lload_n 1, 1) := by decide +kernel
theorem d18_2 : decode prog_26_method_8_code 2 = .ok (.invokevirtual 79, 3) := by decide +kernel
theorem d18_5 : decode prog_26_method_8_code 5 = .ok (.istore_n 3, 1) := by decide +kernel
theorem d18_6 : decode prog_26_method_8_code 6 = .ok (.aload_n 0, 1) := by decide +kernel
theorem d18_7 : decode prog_26_method_8_code 7 = .ok (.getfield 13, 3) := by decide +kernel
theorem d18_10 : decode prog_26_method_8_code 10 = .ok (.iload_n 3, 1) := by decide +kernel
theorem d18_11 : decode prog_26_method_8_code 11 = .ok (.laload, 1) := by decide +kernel
theorem d18_12 : decode prog_26_method_8_code 12 = .ok (.lconst 0, 1) := by decide +kernel
theorem d18_13 : decode prog_26_method_8_code 13 = .ok (.lcmp, 1) := by decide +kernel
theorem d18_14 : decode prog_26_method_8_code 14 = .ok (.ifCond .ne 7, 3) := by decide +kernel
theorem d18_17 : decode prog_26_method_8_code 17 = .ok (.iconst 1, 1) := by decide +kernel
theorem d18_18 : decode prog_26_method_8_code 18 = .ok (.goto 4, 3) := by decide +kernel
theorem d18_21 : decode prog_26_method_8_code 21 = .ok (.iconst 0, 1) := by decide +kernel
theorem d18_22 : decode prog_26_method_8_code 22 = .ok (.istore 4, 2) := by decide +kernel
theorem d18_24 : decode prog_26_method_8_code 24 = .ok (.iload 4, 2) := by decide +kernel
theorem d18_26 : decode prog_26_method_8_code 26 = .ok (.ifCond .eq 89, 3) := by decide +kernel
theorem d18_29 : decode prog_26_method_8_code 29 = .ok (.iconst 2, 1) := by decide +kernel
theorem d18_30 : decode prog_26_method_8_code 30 = .ok (.aload_n 0, 1) := by decide +kernel
theorem d18_31 : decode prog_26_method_8_code 31 = .ok (.getfield 36, 3) := by decide +kernel
theorem d18_34 : decode prog_26_method_8_code 34 = .ok (.iconst 1, 1) := by decide +kernel
theorem d18_35 : decode prog_26_method_8_code 35 = .ok (.iadd, 1) := by decide +kernel
theorem d18_36 : decode prog_26_method_8_code 36 = .ok (.imul, 1) := by decide +kernel
theorem d18_37 : decode prog_26_method_8_code 37 = .ok (.aload_n 0, 1) := by decide +kernel
theorem d18_38 : decode prog_26_method_8_code 38 = .ok (.getfield 13, 3) := by decide +kernel
theorem d18_41 : decode prog_26_method_8_code 41 = .ok (.arraylength, 1) := by decide +kernel
theorem d18_42 : decode prog_26_method_8_code 42 = .ok (.if_icmp .le 73, 3) := by decide +kernel
theorem d18_115 : decode prog_26_method_8_code 115 = .ok (.aload_n 0, 1) := by decide +kernel
theorem d18_116 : decode prog_26_method_8_code 116 = .ok (.getfield 30, 3) := by decide +kernel
theorem d18_119 : decode prog_26_method_8_code 119 = .ok (.ifCond .eq 23, 3) := by decide +kernel
theorem d18_142 : decode prog_26_method_8_code 142 = .ok (.iload 4, 2) := by decide +kernel
theorem d18_144 : decode prog_26_method_8_code 144 = .ok (.ifCond .eq 29, 3) := by decide +kernel
theorem d18_147 : decode prog_26_method_8_code 147 = .ok (.aload_n 0, 1) := by decide +kernel
theorem d18_148 : decode prog_26_method_8_code 148 = .ok (.getfield 33, 3) := by decide +kernel
theorem d18_151 : decode prog_26_method_8_code 151 = .ok (.ifCond .ne 22, 3) := by decide +kernel
theorem d18_154 : decode prog_26_method_8_code 154 = .ok (.aload_n 0, 1) := by decide +kernel
theorem d18_155 : decode prog_26_method_8_code 155 = .ok (.getfield 13, 3) := by decide +kernel
theorem d18_158 : decode prog_26_method_8_code 158 = .ok (.iload_n 3, 1) := by decide +kernel
theorem d18_159 : decode prog_26_method_8_code 159 = .ok (.lload_n 1, 1) := by decide +kernel
theorem d18_160 : decode prog_26_method_8_code 160 = .ok (.lconst 1, 1) := by decide +kernel
theorem d18_161 : decode prog_26_method_8_code 161 = .ok (.ladd, 1) := by decide +kernel
theorem d18_162 : decode prog_26_method_8_code 162 = .ok (.lastore, 1) := by decide +kernel
theorem d18_163 : decode prog_26_method_8_code 163 = .ok (.aload_n 0, 1) := by decide +kernel
theorem d18_164 : decode prog_26_method_8_code 164 = .ok (.dup, 1) := by decide +kernel
theorem d18_165 : decode prog_26_method_8_code 165 = .ok (.getfield 36, 3) := by decide +kernel
theorem d18_168 : decode prog_26_method_8_code 168 = .ok (.iconst 1, 1) := by decide +kernel
theorem d18_169 : decode prog_26_method_8_code 169 = .ok (.iadd, 1) := by decide +kernel
theorem d18_170 : decode prog_26_method_8_code 170 = .ok (.putfield 36, 3) := by decide +kernel
theorem d18_173 : decode prog_26_method_8_code 173 = .ok (.iload 4, 2) := by decide +kernel
theorem d18_175 : decode prog_26_method_8_code 175 = .ok (.ireturn, 1) := by decide +kernel
theorem d19_0 : decode prog_26_method_13_code 0 = .ok (.aload_n 0, 1) := by decide +kernel
theorem d19_1 : decode prog_26_method_13_code 1 = .ok (.getfield 13, 3) := by decide +kernel
theorem d19_4 : decode prog_26_method_13_code 4 = .ok (.arraylength, 1) := by decide +kernel
theorem d19_5 : decode prog_26_method_13_code 5 = .ok (.iconst 1, 1) := by decide +kernel
theorem d19_6 : decode prog_26_method_13_code 6 = .ok (.isub, 1) := by decide +kernel
theorem d19_7 : decode prog_26_method_13_code 7 = .ok (.istore_n 3, 1) := by decide +kernel
theorem d19_8 : decode prog_26_method_13_code 8 = .ok (.lload_n 1, 1) := by decide +kernel
theorem d19_9 : decode prog_26_method_13_code 9 = .ok (.ldc2_w 108, 3) := by decide +kernel
theorem d19_12 : decode prog_26_method_13_code 12 = .ok (.lmul, 1) := by decide +kernel
theorem d19_13 : decode prog_26_method_13_code 13 = .ok (.aload_n 0, 1) := by decide +kernel
theorem d19_14 : decode prog_26_method_13_code 14 = .ok (.getfield 72, 3) := by decide +kernel
theorem d19_17 : decode prog_26_method_13_code 17 = .ok (.lushr, 1) := by decide +kernel
theorem d19_18 : decode prog_26_method_13_code 18 = .ok (.l2i, 1) := by decide +kernel
theorem d19_19 : decode prog_26_method_13_code 19 = .ok (.istore 4, 2) := by decide +kernel
theorem d19_21 : decode prog_26_method_13_code 21 = .ok (.aload_n 0, 1) := by decide +kernel
theorem d19_22 : decode prog_26_method_13_code 22 = .ok (.getfield 13, 3) := by decide +kernel
theorem d19_25 : decode prog_26_method_13_code 25 = .ok (.iload 4, 2) := by decide +kernel
theorem d19_27 : decode prog_26_method_13_code 27 = .ok (.laload, 1) := by decide +kernel
theorem d19_28 : decode prog_26_method_13_code 28 = .ok (.lconst 0, 1) := by decide +kernel
theorem d19_29 : decode prog_26_method_13_code 29 = .ok (.lcmp, 1) := by decide +kernel
theorem d19_30 : decode prog_26_method_13_code 30 = .ok (.ifCond .eq 28, 3) := by decide +kernel
theorem d19_33 : decode prog_26_method_13_code 33 = .ok (.aload_n 0, 1) := by decide +kernel
theorem d19_34 : decode prog_26_method_13_code 34 = .ok (.getfield 13, 3) := by decide +kernel
theorem d19_37 : decode prog_26_method_13_code 37 = .ok (.iload 4, 2) := by decide +kernel
theorem d19_39 : decode prog_26_method_13_code 39 = .ok (.laload, 1) := by decide +kernel
theorem d19_40 : decode prog_26_method_13_code 40 = .ok (.lload_n 1, 1) := by decide +kernel
theorem d19_41 : decode prog_26_method_13_code 41 = .ok (.lconst 1, 1) := by decide +kernel
theorem d19_42 : decode prog_26_method_13_code 42 = .ok (.ladd, 1) := by decide +kernel
theorem d19_43 : decode prog_26_method_13_code 43 = .ok (.lcmp, 1) := by decide +kernel
theorem d19_44 : decode prog_26_method_13_code 44 = .ok (.ifCond .eq 14, 3) := by decide +kernel
theorem d19_47 : decode prog_26_method_13_code 47 = .ok (.iload 4, 2) := by decide +kernel
theorem d19_49 : decode prog_26_method_13_code 49 = .ok (.iconst 1, 1) := by decide +kernel
theorem d19_50 : decode prog_26_method_13_code 50 = .ok (.iadd, 1) := by decide +kernel
theorem d19_51 : decode prog_26_method_13_code 51 = .ok (.iload_n 3, 1) := by decide +kernel
theorem d19_52 : decode prog_26_method_13_code 52 = .ok (.iand, 1) := by decide +kernel
theorem d19_53 : decode prog_26_method_13_code 53 = .ok (.istore 4, 2) := by decide +kernel
theorem d19_55 : decode prog_26_method_13_code 55 = .ok (.goto (-34), 3) := by decide +kernel
theorem d19_58 : decode prog_26_method_13_code 58 = .ok (.iload 4, 2) := by decide +kernel
theorem d19_60 : decode prog_26_method_13_code 60 = .ok (.ireturn, 1) := by decide +kernel
theorem d20_0 : decode jdk_65_method_101_code 0 = .ok (.iconst 0, 1) := by decide +kernel
theorem d20_1 : decode jdk_65_method_101_code 1 = .ok (.istore_n 3, 1) := by decide +kernel
theorem d20_2 : decode jdk_65_method_101_code 2 = .ok (.aload_n 0, 1) := by decide +kernel
theorem d20_3 : decode jdk_65_method_101_code 3 = .ok (.arraylength, 1) := by decide +kernel
theorem d20_4 : decode jdk_65_method_101_code 4 = .ok (.istore 4, 2) := by decide +kernel
theorem d20_6 : decode jdk_65_method_101_code 6 = .ok (.iload_n 3, 1) := by decide +kernel
theorem d20_7 : decode jdk_65_method_101_code 7 = .ok (.iload 4, 2) := by decide +kernel
theorem d20_9 : decode jdk_65_method_101_code 9 = .ok (.if_icmp .ge 13, 3) := by decide +kernel
theorem d20_12 : decode jdk_65_method_101_code 12 = .ok (.aload_n 0, 1) := by decide +kernel
theorem d20_13 : decode jdk_65_method_101_code 13 = .ok (.iload_n 3, 1) := by decide +kernel
theorem d20_14 : decode jdk_65_method_101_code 14 = .ok (.lload_n 1, 1) := by decide +kernel
theorem d20_15 : decode jdk_65_method_101_code 15 = .ok (.lastore, 1) := by decide +kernel
theorem d20_16 : decode jdk_65_method_101_code 16 = .ok (.iinc 3 1, 3) := by decide +kernel
theorem d20_19 : decode jdk_65_method_101_code 19 = .ok (.goto (-13), 3) := by decide +kernel
theorem d20_22 : decode jdk_65_method_101_code 22 = .ok (.return_, 1) := by decide +kernel
theorem own_us (x : Int64) (q : Int32) (k : Nat) (hq : q.toBitVec.toNat % 64 = k) (hs : q.toInt64.toUInt64 &&& Int64.toUInt64 63 = (q &&& 0x3f).toInt64.toUInt64) (h0 : 0 < k) : (XT.ushrL x q).toInt = (x.toInt % 18446744073709551616) / (2 ^ k : Nat) := by unfold XT.ushrL; rw [hs]; exact c_lushr x q k hq h0
theorem own_us6 (x : Int64) (h0 : 0 ≤ x.toInt) : (XT.ushrL x 6).toInt = x.toInt / 64 := by
  rw [own_us x 6 6 (by decide) (by decide) (by decide)]
  have r := rng64 x
  omega
def own_wd (x : Int64) : Nat := ((XT.ushrL x 6).toInt32).toNatClampNeg
theorem own_wdI (x : Int64) (h0 : 0 ≤ x.toInt) (h1 : x.toInt < 137438953472) : ((XT.ushrL x 6).toInt32).toInt = x.toInt / 64 := by
  have e := own_us6 x h0
  have g := c_l2i (XT.ushrL x 6)
  have r := rng32 (XT.ushrL x 6).toInt32
  omega
def own_mk (x : Int64) : Int64 := (1 : Int64) <<< (x.toInt32.toInt64 &&& 63)
theorem own_ix (x : Int64) : (x.toInt32.toInt64 &&& 63).toInt = x.toInt % 64 := by
  rw [c_maskL _ 63 6 (by decide) (by decide), c_i2l]
  have g := c_l2i x
  omega
theorem own_mkr (x : Int64) : ∃ r : Fin 64, x.toInt % 64 = (r.val : Int) ∧ own_mk x = (1 : Int64) <<< (Int64.ofNat r.val) := by
  have e := own_ix x
  refine ⟨⟨(x.toInt % 64).toNat, by omega⟩, by simp; omega, ?_⟩
  unfold own_mk
  congr 1
  apply Int64.toInt_inj.mp
  rw [e, Int64.toInt_ofNat_of_lt (by omega)]
  show x.toInt % 64 = (((x.toInt % 64).toNat : Nat) : Int)
  omega
theorem own_mkd : ∀ r s : Fin 64, ((1 : Int64) <<< (Int64.ofNat r.val)) &&& ((1 : Int64) <<< (Int64.ofNat s.val)) = if r = s then (1 : Int64) <<< (Int64.ofNat s.val) else 0 := by decide +kernel
theorem own_mk0 : ∀ r : Fin 64, ((1 : Int64) <<< (Int64.ofNat r.val)) ≠ 0 := by decide +kernel
theorem own_dist (a b d : Int64) : (a ||| b) &&& d = (a &&& d) ||| (b &&& d) := by
  apply Int64.toBitVec_inj.mp
  apply BitVec.eq_of_getLsbD_eq
  intro i hi
  simp [Bool.and_or_distrib_right]
theorem own_dadd (f : Nat → Int64) (x y : Int64) (x0 : 0 ≤ x.toInt) (x1 : x.toInt < 137438953472) (y0 : 0 ≤ y.toInt) (y1 : y.toInt < 137438953472) :
    ((if own_wd x = own_wd y then f (own_wd y) ||| own_mk y else f (own_wd x)) &&& own_mk x = 0) ↔ (f (own_wd x) &&& own_mk x = 0 ∧ ¬ x = y) := by
  obtain ⟨r, hr, er⟩ := own_mkr x
  obtain ⟨t, ht, et⟩ := own_mkr y
  by_cases hw : own_wd x = own_wd y
  · rw [if_pos hw, ← hw, own_dist, Int64.or_eq_zero_iff, er, et, own_mkd]
    have hxy : r = t ↔ x = y := by
      unfold own_wd at hw
      rw [own_tnc, own_tnc, own_wdI x x0 x1, own_wdI y y0 y1] at hw
      refine ⟨fun q => Int64.toInt_inj.mp ?_, fun q => ?_⟩
      · subst q; omega
      · subst q; exact Fin.ext (by omega)
    by_cases q : t = r
    · rw [if_pos q]; exact ⟨fun h => absurd h.2 (own_mk0 r), fun h => absurd (hxy.mp q.symm) h.2⟩
    · rw [if_neg q]; exact ⟨fun h => ⟨h.1, fun g => q (hxy.mpr g).symm⟩, fun h => ⟨h.1, rfl⟩⟩
  · rw [if_neg hw]
    exact ⟨fun h => ⟨h, fun q => hw (by rw [q])⟩, fun h => h.1⟩
def own_h (x : Int64) : Nat := ((XT.ushrL (x * (-7046029254386353131)) 58).toInt32).toNatClampNeg
theorem own_hI (x : Int64) : 0 ≤ ((XT.ushrL x 58).toInt32).toInt ∧ ((XT.ushrL x 58).toInt32).toInt < 64 := by
  have e := own_us x 58 58 (by decide) (by decide) (by decide)
  have g := c_l2i (XT.ushrL x 58)
  have r := rng32 (XT.ushrL x 58).toInt32
  have q : ((2 ^ 58 : Nat) : Int) = 288230376151711744 := by decide
  rw [q] at e
  omega
def own_Tab (fs : Nat → Int64) (P : List (Int64 × Nat)) : Prop :=
  (∀ j, j < 64 → fs j ≠ 0 → ∃ x, (x, j) ∈ P) ∧ ∀ x j, (x, j) ∈ P → j < 64 ∧ fs j = x + 1 ∧ 0 ≤ x.toInt ∧ x.toInt < 4611686018427387904 ∧ ∃ n, (own_h x + n) % 64 = j ∧ ∀ k, k < n → fs ((own_h x + k) % 64) ≠ 0
def own_At (fs : Nat → Int64) (x : Int64) (j : Nat) : Prop := ∃ n, (own_h x + n) % 64 = j ∧ (∀ k, k < n → fs ((own_h x + k) % 64) ≠ 0 ∧ fs ((own_h x + k) % 64) ≠ x + 1)
theorem own_inc64 (x : Int64) (h1 : x.toInt < 4611686018427387904) : (x + 1).toInt = x.toInt + 1 := by
  have e := c_ladd x 1
  have r := rng64 (x + 1)
  have r2 := rng64 x
  rw [show (1 : Int64).toInt = 1 from rfl] at e
  omega
theorem own_ne0 (x : Int64) (h0 : 0 ≤ x.toInt) (h1 : x.toInt < 4611686018427387904) : x + 1 ≠ 0 := fun q => by
  have e := own_inc64 x h1
  rw [q, show (0 : Int64).toInt = 0 from rfl] at e
  omega
theorem own_find {fs : Nat → Int64} {P : List (Int64 × Nat)} {x : Int64} {j : Nat} (T : own_Tab fs P) (A : own_At fs x j) (hj : j < 64) (x0 : 0 ≤ x.toInt) (x1 : x.toInt < 4611686018427387904) (hf : fs j = 0 ∨ fs j = x + 1) : fs j ≠ 0 ↔ ∃ i, (x, i) ∈ P := by
  obtain ⟨n, hn, hp⟩ := A
  refine ⟨fun h => ?_, fun ⟨i, hi⟩ h => ?_⟩
  · obtain ⟨y, hy⟩ := T.1 j hj h
    obtain ⟨-, g, y0, y1, -⟩ := T.2 y j hy
    have e : x = y := by
      have q := hf.resolve_left h
      rw [g] at q
      have a1 := own_inc64 x x1
      have a2 := own_inc64 y y1
      exact Int64.toInt_inj.mp (by have a3 := congrArg Int64.toInt q; omega)
    exact ⟨j, e ▸ hy⟩
  · obtain ⟨-, g, -, -, n', hn', hp'⟩ := T.2 x i hi
    rcases Nat.lt_trichotomy n n' with q | q | q
    · exact hp' n q (hn ▸ h)
    · subst q
      rw [← hn, hn', g] at h
      exact own_ne0 x x0 x1 h
    · exact (hp n' q).2 (hn' ▸ g)
theorem own_insert {fs : Nat → Int64} {P : List (Int64 × Nat)} {x : Int64} {j : Nat} (T : own_Tab fs P) (A : own_At fs x j) (hj : j < 64) (x0 : 0 ≤ x.toInt) (x1 : x.toInt < 4611686018427387904) (hf : fs j = 0) : own_Tab (fun k => if k = j then x + 1 else fs k) ((x, j) :: P) := by
  refine ⟨fun k hk h => ?_, fun y k h => ?_⟩
  · by_cases q : k = j
    · exact ⟨x, by rw [q]; exact List.mem_cons_self⟩
    · dsimp only at h; rw [if_neg q] at h
      obtain ⟨y, hy⟩ := T.1 k hk h
      exact ⟨y, List.mem_cons_of_mem _ hy⟩
  · rcases List.mem_cons.mp h with q | q
    · obtain ⟨rfl, rfl⟩ := Prod.mk.inj q
      obtain ⟨n, hn, hp⟩ := A
      refine ⟨hj, if_pos rfl, x0, x1, n, hn, fun i hi => ?_⟩
      dsimp only
      by_cases r : (own_h y + i) % 64 = k
      · rw [if_pos r]; exact own_ne0 y x0 x1
      · rw [if_neg r]; exact (hp i hi).1
    · obtain ⟨a1, a2, a3, a4, n, hn, hp⟩ := T.2 y k q
      have hkj : k ≠ j := fun r => own_ne0 y a3 a4 (by rw [← a2, r]; exact hf)
      refine ⟨a1, by dsimp only; rw [if_neg hkj]; exact a2, a3, a4, n, hn, fun i hi => ?_⟩
      dsimp only
      by_cases r : (own_h y + i) % 64 = j
      · rw [if_pos r]; exact own_ne0 x x0 x1
      · rw [if_neg r]; exact hp i hi
theorem own_free {fs : Nat → Int64} {P : List (Int64 × Nat)} (T : own_Tab fs P) (hP : P.length ≤ 3) (i : Nat) : ∃ n, n < 4 ∧ fs ((i + n) % 64) = 0 := by
  apply Classical.byContradiction
  intro hc
  have hz : ∀ n, n < 4 → ∃ x, (x, (i + n) % 64) ∈ P := fun n hn => T.1 _ (Nat.mod_lt _ (by decide)) (fun q => hc ⟨n, hn, q⟩)
  have hm : ∀ n, n < 4 → (i + n) % 64 ∈ P.map Prod.snd := fun n hn => by obtain ⟨x, hx⟩ := hz n hn; exact List.mem_map.mpr ⟨_, hx, rfl⟩
  have hl : (P.map Prod.snd).length ≤ 3 := by simpa using hP
  revert hm hl
  generalize P.map Prod.snd = L
  intro hm hl
  have m0 := hm 0 (by decide)
  have m1 := hm 1 (by decide)
  have m2 := hm 2 (by decide)
  have m3 := hm 3 (by decide)
  match L, hl with
  | [], _ => simp at m0
  | [a], _ => simp at m0 m1; omega
  | [a, b], _ => simp at m0 m1 m2; omega
  | [a, b, d], _ => simp at m0 m1 m2 m3; omega
  | a :: b :: d :: g :: L, h => simp at h
theorem own_tab0 : own_Tab (fun _ => 0) [] := ⟨fun _ _ h => absurd rfl h, fun _ _ h => nomatch h⟩
def own_Ob (Z : State) (h : Heap) (a : Addr) (n0 : Nat) (B : Int64) (bb sb : Addr) (nb : Nat) (fb : Nat → Int64) (ns : Nat) (fs : Nat → Int64) (sh de bf ov ct mx : Int32) : Prop :=
  Exa Z h a "com/example/nav_by_schema/navbyschema/regex/StateSet" ∧ Fld Z h a "com/example/nav_by_schema/navbyschema/regex/StateSet" "bound" "J" (.long B) ∧ Fld Z h a "com/example/nav_by_schema/navbyschema/regex/StateSet" "bits" "[J" (.ref bb) ∧ Fld Z h a "com/example/nav_by_schema/navbyschema/regex/StateSet" "slots" "[J" (.ref sb) ∧ Fld Z h a "com/example/nav_by_schema/navbyschema/regex/StateSet" "shift" "I" (.int sh) ∧ Fld Z h a "com/example/nav_by_schema/navbyschema/regex/StateSet" "dense" "Z" (.int de) ∧ Fld Z h a "com/example/nav_by_schema/navbyschema/regex/StateSet" "bitmapFits" "Z" (.int bf) ∧ Fld Z h a "com/example/nav_by_schema/navbyschema/regex/StateSet" "overflowed" "Z" (.int ov) ∧ Fld Z h a "com/example/nav_by_schema/navbyschema/regex/StateSet" "count" "I" (.int ct) ∧ Fld Z h a "com/example/nav_by_schema/navbyschema/regex/StateSet" "maxSlots" "I" (.int mx) ∧ ArJ Z h bb .long nb fb ∧ ArJ Z h sb .long ns fs ∧ bb ≠ sb ∧ bb ≠ a ∧ sb ≠ a ∧ n0 ≤ a ∧ n0 ≤ bb ∧ n0 ≤ sb ∧ n0 ≤ h.size ∧ nb ≤ 4096 ∧ (ns = 0 ∨ ns = 64)
def own_Dn (nb : Nat) (fb : Nat → Int64) (B : Int64) (M : Int64 → Prop) : Prop := (B.toInt + 63) / 64 ≤ (nb : Int) ∧ B.toInt ≤ 262144 ∧ ∀ k : Int64, 0 ≤ k.toInt → k.toInt < B.toInt → (fb (own_wd k) &&& own_mk k = 0 ↔ ¬ M k)
def own_Tb (ns : Nat) (fs : Nat → Int64) (sh ct : Int32) (B : Int64) (M : Int64 → Prop) (n : Nat) : Prop := ns = 64 ∧ sh = 58 ∧ ∃ P : List (Int64 × Nat), own_Tab fs P ∧ P.length ≤ n ∧ ct.toInt = (P.length : Int) ∧ ∀ k : Int64, 0 ≤ k.toInt → k.toInt < B.toInt → (M k ↔ ∃ i, (k, i) ∈ P)
def own_SS (Z : State) (h : Heap) (a : Addr) (n0 : Nat) (B : Int64) (M : Int64 → Prop) (n : Nat) : Prop := ∃ bb sb nb fb ns fs sh de bf ct mx, own_Ob Z h a n0 B bb sb nb fb ns fs sh de bf 0 ct mx ∧ 0 < B.toInt ∧ B.toInt ≤ 4611686018427387904 ∧ ((de = 1 ∧ own_Dn nb fb B M) ∨ (de = 0 ∧ own_Tb ns fs sh ct B M n))
theorem own_fill (f : Nat → Int64) (i : Nat) : (fun k => if k = i then (0 : Int64) else if k < i then 0 else f k) = fun k => if k < i + 1 then 0 else f k := by
  funext k
  by_cases h1 : k = i
  · rw [if_pos h1, if_pos (by omega)]
  · rw [if_neg h1]
    by_cases h2 : k < i
    · rw [if_pos h2, if_pos (by omega)]
    · rw [if_neg h2, if_neg (by omega)]
theorem ef_rm_max (m : MethodId) (x0 : Int64) (x1 : Int64)  : entryFrame m #[(.long x0), (.long x1)] 4 = mkF m 0 #[.val (.long x0), .second, .val (.long x1), .second] [] := by first | (simp [entryFrame, mkF, argsToLocals, Value.category]; done) | rfl
theorem pn_1 : plainFor (⟨"java/lang/Math", "max", "(JJ)J"⟩ : MethodName) = true := by first | exact plainFor_of_name (by first | (simp [plainName, overriddenIn]; done) | decide +kernel) | decide +kernel
set_option maxRecDepth 65536 in
set_option maxHeartbeats 40000000 in
theorem rm_max (l : Launch) (Z : State) (a0 : Array Value) (hw : ∀ d ∈ tables_1, d.before a0 Z = true) (u1 u2 : Int64) (h0 : Heap) :
    Ctr l Z (⟨"java/lang/Math", "max", "(JJ)J"⟩ : MethodName) jdk_29_method_66_code 4 (Option.some FieldType.long) [] ({ frames := 0, cells := 0, slots := 0, locals := 0 } : Room) ({ frames := 0, cells := 0, slots := 0, locals := 0 } : Room).cells ({ frames := 0, cells := 0, slots := 0, locals := 0 } : Room).slots #[(.long u1), (.long u2)] h0 (fun u h L => (∃ r, u = some (.long r)) ∧ L = [] ∧ h = h0) := by
  refine Ctr.of pn_1 ?_
  intro p e s m below meth c s₁ hx hby hml hown hnm hret hlk hZ X0 e0
  refine Goes.cast (ef_rm_max m u1 u2) ?_
  refine g_lload_n (i := 0) X0 hx (hb hby d1_0) (by rfl) rfl ?_
  refine g_lload_n (i := 2) X0 hx (hb hby d1_1) (by rfl) rfl ?_
  refine g_lcmp X0 hx (hb hby d1_2) rfl ?_
  refine g_if_lt X0 hx (hb hby d1_3) (by decide) (pt := 10) (by decide) rfl (fun q2 => ?_) (fun q2 => ?_)
  · refine g_lload_n (i := 2) X0 hx (hb hby d1_10) (by rfl) rfl ?_
    exact g_retJ X0 hx hlk hret e0 (by decide) (by decide) (hb hby d1_11) ⟨⟨_, rfl⟩, rfl, rfl⟩
  · refine g_lload_n (i := 0) X0 hx (hb hby d1_6) (by rfl) rfl ?_
    refine g_goto X0 hx (hb hby d1_7) (by decide) (by decide) (pc' := 11) ?_
    exact g_retJ X0 hx hlk hret e0 (by decide) (by decide) (hb hby d1_11) ⟨⟨_, rfl⟩, rfl, rfl⟩
theorem ef_rm_min (m : MethodId) (x0 : Int64) (x1 : Int64)  : entryFrame m #[(.long x0), (.long x1)] 4 = mkF m 0 #[.val (.long x0), .second, .val (.long x1), .second] [] := by first | (simp [entryFrame, mkF, argsToLocals, Value.category]; done) | rfl
theorem pn_3 : plainFor (⟨"java/lang/Math", "min", "(JJ)J"⟩ : MethodName) = true := by first | exact plainFor_of_name (by first | (simp [plainName, overriddenIn]; done) | decide +kernel) | decide +kernel
set_option maxRecDepth 65536 in
set_option maxHeartbeats 40000000 in
theorem rm_min (l : Launch) (Z : State) (a0 : Array Value) (hw : ∀ d ∈ tables_1, d.before a0 Z = true) (u1 u2 : Int64) (h0 : Heap) :
    Ctr l Z (⟨"java/lang/Math", "min", "(JJ)J"⟩ : MethodName) jdk_29_method_70_code 4 (Option.some FieldType.long) [] ({ frames := 0, cells := 0, slots := 0, locals := 0 } : Room) ({ frames := 0, cells := 0, slots := 0, locals := 0 } : Room).cells ({ frames := 0, cells := 0, slots := 0, locals := 0 } : Room).slots #[(.long u1), (.long u2)] h0 (fun u h L => (∃ r, u = some (.long r)) ∧ L = [] ∧ h = h0) := by
  refine Ctr.of pn_3 ?_
  intro p e s m below meth c s₁ hx hby hml hown hnm hret hlk hZ X0 e0
  refine Goes.cast (ef_rm_min m u1 u2) ?_
  refine g_lload_n (i := 0) X0 hx (hb hby d14_0) (by rfl) rfl ?_
  refine g_lload_n (i := 2) X0 hx (hb hby d14_1) (by rfl) rfl ?_
  refine g_lcmp X0 hx (hb hby d14_2) rfl ?_
  refine g_if_gt X0 hx (hb hby d14_3) (by decide) (pt := 10) (by decide) rfl (fun q4 => ?_) (fun q4 => ?_)
  · refine g_lload_n (i := 2) X0 hx (hb hby d14_10) (by rfl) rfl ?_
    exact g_retJ X0 hx hlk hret e0 (by decide) (by decide) (hb hby d14_11) ⟨⟨_, rfl⟩, rfl, rfl⟩
  · refine g_lload_n (i := 0) X0 hx (hb hby d14_6) (by rfl) rfl ?_
    refine g_goto X0 hx (hb hby d14_7) (by decide) (by decide) (pc' := 11) ?_
    exact g_retJ X0 hx hlk hret e0 (by decide) (by decide) (hb hby d14_11) ⟨⟨_, rfl⟩, rfl, rfl⟩
theorem ef_rm_nlz (m : MethodId) (x0 : Int32)  : entryFrame m #[(.int x0)] 2 = mkF m 0 #[.val (.int x0), .unset] [] := by first | (simp [entryFrame, mkF, argsToLocals, Value.category]; done) | rfl
theorem pn_5 : plainFor (⟨"java/lang/Integer", "numberOfLeadingZeros", "(I)I"⟩ : MethodName) = true := by first | exact plainFor_of_name (by first | (simp [plainName, overriddenIn]; done) | decide +kernel) | decide +kernel
set_option maxRecDepth 65536 in
set_option maxHeartbeats 40000000 in
theorem rm_nlz (l : Launch) (Z : State) (a0 : Array Value) (hw : ∀ d ∈ tables_1, d.before a0 Z = true) (u1 : Int32) (h0 : Heap) :
    Ctr l Z (⟨"java/lang/Integer", "numberOfLeadingZeros", "(I)I"⟩ : MethodName) jdk_33_method_47_code 2 (Option.some FieldType.int) [] ({ frames := 0, cells := 0, slots := 0, locals := 0 } : Room) ({ frames := 0, cells := 0, slots := 0, locals := 0 } : Room).cells ({ frames := 0, cells := 0, slots := 0, locals := 0 } : Room).slots #[(.int u1)] h0 (fun u h L => (∃ r, u = some (.int r)) ∧ L = [] ∧ h = h0) := by
  refine Ctr.of pn_5 ?_
  intro p e s m below meth c s₁ hx hby hml hown hnm hret hlk hZ X0 e0
  refine Goes.cast (ef_rm_nlz m u1) ?_
  refine g_iload_n (i := 0) X0 hx (hb hby d16_0) (by rfl) rfl ?_
  refine g_if_gt X0 hx (hb hby d16_1) (by decide) (pt := 15) (by decide) rfl (fun q6 => ?_) (fun q6 => ?_)
  · refine g_bipush (v := (31 : Int32)) X0 hx (hb hby d16_15) (by decide) rfl ?_
    refine g_istore_n (i := 1) X0 hx #[.val (.int u1), .val (.int (31 : Int32))] (hb hby d16_17) rfl rfl ?_
    refine g_iload_n (i := 0) X0 hx (hb hby d16_18) (by rfl) rfl ?_
    refine g_ldcWI X0 hx hZ hown (wd hw 91 rfl) (hb hby d16_19) rfl ?_
    refine g_icmp_lt X0 hx (hb hby d16_22) (by decide) (pt := 33) (by decide) rfl (fun q7 => ?_) (fun q7 => ?_)
    · refine g_iload_n (i := 0) X0 hx (hb hby d16_33) (by rfl) rfl ?_
      refine g_sipush (v := (256 : Int32)) X0 hx (hb hby d16_34) (by decide) rfl ?_
      refine g_icmp_lt X0 hx (hb hby d16_37) (by decide) (pt := 48) (by decide) rfl (fun q8 => ?_) (fun q8 => ?_)
      · refine g_iload_n (i := 0) X0 hx (hb hby d16_48) (by rfl) rfl ?_
        refine g_bipush (v := (16 : Int32)) X0 hx (hb hby d16_49) (by decide) rfl ?_
        refine g_icmp_lt X0 hx (hb hby d16_51) (by decide) (pt := 61) (by decide) rfl (fun q9 => ?_) (fun q9 => ?_)
        · refine g_iload_n (i := 0) X0 hx (hb hby d16_61) (by rfl) rfl ?_
          refine g_iconst (v := (4 : Int32)) X0 hx (hb hby d16_62) (by decide) rfl ?_
          refine g_icmp_lt X0 hx (hb hby d16_63) (by decide) (pt := 73) (by decide) rfl (fun q10 => ?_) (fun q10 => ?_)
          · refine g_iload_n (i := 1) X0 hx (hb hby d16_73) (by rfl) rfl ?_
            refine g_iload_n (i := 0) X0 hx (hb hby d16_74) (by rfl) rfl ?_
            refine g_iconst (v := (1 : Int32)) X0 hx (hb hby d16_75) (by decide) rfl ?_
            refine g_iushr X0 hx (hb hby d16_76) rfl ?_
            refine g_isub X0 hx (hb hby d16_77) rfl ?_
            exact g_retI X0 hx hlk hret e0 (by decide) (by decide) (hb hby d16_78) ⟨⟨_, rfl⟩, rfl, rfl⟩
          · refine g_iinc (i := 1) (x := (31 : Int32)) (y := (29 : Int32)) X0 hx #[.val (.int u1), .val (.int (29 : Int32))] (hb hby d16_66) (by rfl) (by decide) rfl rfl ?_
            refine g_iload_n (i := 0) X0 hx (hb hby d16_69) (by rfl) rfl ?_
            refine g_iconst (v := (2 : Int32)) X0 hx (hb hby d16_70) (by decide) rfl ?_
            refine g_iushr X0 hx (hb hby d16_71) rfl ?_
            refine g_istore_n (i := 0) X0 hx #[.val (.int (XT.ushr u1 (2 : Int32))), .val (.int (29 : Int32))] (hb hby d16_72) rfl rfl ?_
            refine g_iload_n (i := 1) X0 hx (hb hby d16_73) (by rfl) rfl ?_
            refine g_iload_n (i := 0) X0 hx (hb hby d16_74) (by rfl) rfl ?_
            refine g_iconst (v := (1 : Int32)) X0 hx (hb hby d16_75) (by decide) rfl ?_
            refine g_iushr X0 hx (hb hby d16_76) rfl ?_
            refine g_isub X0 hx (hb hby d16_77) rfl ?_
            exact g_retI X0 hx hlk hret e0 (by decide) (by decide) (hb hby d16_78) ⟨⟨_, rfl⟩, rfl, rfl⟩
        · refine g_iinc (i := 1) (x := (31 : Int32)) (y := (27 : Int32)) X0 hx #[.val (.int u1), .val (.int (27 : Int32))] (hb hby d16_54) (by rfl) (by decide) rfl rfl ?_
          refine g_iload_n (i := 0) X0 hx (hb hby d16_57) (by rfl) rfl ?_
          refine g_iconst (v := (4 : Int32)) X0 hx (hb hby d16_58) (by decide) rfl ?_
          refine g_iushr X0 hx (hb hby d16_59) rfl ?_
          refine g_istore_n (i := 0) X0 hx #[.val (.int (XT.ushr u1 (4 : Int32))), .val (.int (27 : Int32))] (hb hby d16_60) rfl rfl ?_
          refine g_iload_n (i := 0) X0 hx (hb hby d16_61) (by rfl) rfl ?_
          refine g_iconst (v := (4 : Int32)) X0 hx (hb hby d16_62) (by decide) rfl ?_
          refine g_icmp_lt X0 hx (hb hby d16_63) (by decide) (pt := 73) (by decide) rfl (fun q11 => ?_) (fun q11 => ?_)
          · refine g_iload_n (i := 1) X0 hx (hb hby d16_73) (by rfl) rfl ?_
            refine g_iload_n (i := 0) X0 hx (hb hby d16_74) (by rfl) rfl ?_
            refine g_iconst (v := (1 : Int32)) X0 hx (hb hby d16_75) (by decide) rfl ?_
            refine g_iushr X0 hx (hb hby d16_76) rfl ?_
            refine g_isub X0 hx (hb hby d16_77) rfl ?_
            exact g_retI X0 hx hlk hret e0 (by decide) (by decide) (hb hby d16_78) ⟨⟨_, rfl⟩, rfl, rfl⟩
          · refine g_iinc (i := 1) (x := (27 : Int32)) (y := (25 : Int32)) X0 hx #[.val (.int (XT.ushr u1 (4 : Int32))), .val (.int (25 : Int32))] (hb hby d16_66) (by rfl) (by decide) rfl rfl ?_
            refine g_iload_n (i := 0) X0 hx (hb hby d16_69) (by rfl) rfl ?_
            refine g_iconst (v := (2 : Int32)) X0 hx (hb hby d16_70) (by decide) rfl ?_
            refine g_iushr X0 hx (hb hby d16_71) rfl ?_
            refine g_istore_n (i := 0) X0 hx #[.val (.int (XT.ushr (XT.ushr u1 (4 : Int32)) (2 : Int32))), .val (.int (25 : Int32))] (hb hby d16_72) rfl rfl ?_
            refine g_iload_n (i := 1) X0 hx (hb hby d16_73) (by rfl) rfl ?_
            refine g_iload_n (i := 0) X0 hx (hb hby d16_74) (by rfl) rfl ?_
            refine g_iconst (v := (1 : Int32)) X0 hx (hb hby d16_75) (by decide) rfl ?_
            refine g_iushr X0 hx (hb hby d16_76) rfl ?_
            refine g_isub X0 hx (hb hby d16_77) rfl ?_
            exact g_retI X0 hx hlk hret e0 (by decide) (by decide) (hb hby d16_78) ⟨⟨_, rfl⟩, rfl, rfl⟩
      · refine g_iinc (i := 1) (x := (31 : Int32)) (y := (23 : Int32)) X0 hx #[.val (.int u1), .val (.int (23 : Int32))] (hb hby d16_40) (by rfl) (by decide) rfl rfl ?_
        refine g_iload_n (i := 0) X0 hx (hb hby d16_43) (by rfl) rfl ?_
        refine g_bipush (v := (8 : Int32)) X0 hx (hb hby d16_44) (by decide) rfl ?_
        refine g_iushr X0 hx (hb hby d16_46) rfl ?_
        refine g_istore_n (i := 0) X0 hx #[.val (.int (XT.ushr u1 (8 : Int32))), .val (.int (23 : Int32))] (hb hby d16_47) rfl rfl ?_
        refine g_iload_n (i := 0) X0 hx (hb hby d16_48) (by rfl) rfl ?_
        refine g_bipush (v := (16 : Int32)) X0 hx (hb hby d16_49) (by decide) rfl ?_
        refine g_icmp_lt X0 hx (hb hby d16_51) (by decide) (pt := 61) (by decide) rfl (fun q12 => ?_) (fun q12 => ?_)
        · refine g_iload_n (i := 0) X0 hx (hb hby d16_61) (by rfl) rfl ?_
          refine g_iconst (v := (4 : Int32)) X0 hx (hb hby d16_62) (by decide) rfl ?_
          refine g_icmp_lt X0 hx (hb hby d16_63) (by decide) (pt := 73) (by decide) rfl (fun q13 => ?_) (fun q13 => ?_)
          · refine g_iload_n (i := 1) X0 hx (hb hby d16_73) (by rfl) rfl ?_
            refine g_iload_n (i := 0) X0 hx (hb hby d16_74) (by rfl) rfl ?_
            refine g_iconst (v := (1 : Int32)) X0 hx (hb hby d16_75) (by decide) rfl ?_
            refine g_iushr X0 hx (hb hby d16_76) rfl ?_
            refine g_isub X0 hx (hb hby d16_77) rfl ?_
            exact g_retI X0 hx hlk hret e0 (by decide) (by decide) (hb hby d16_78) ⟨⟨_, rfl⟩, rfl, rfl⟩
          · refine g_iinc (i := 1) (x := (23 : Int32)) (y := (21 : Int32)) X0 hx #[.val (.int (XT.ushr u1 (8 : Int32))), .val (.int (21 : Int32))] (hb hby d16_66) (by rfl) (by decide) rfl rfl ?_
            refine g_iload_n (i := 0) X0 hx (hb hby d16_69) (by rfl) rfl ?_
            refine g_iconst (v := (2 : Int32)) X0 hx (hb hby d16_70) (by decide) rfl ?_
            refine g_iushr X0 hx (hb hby d16_71) rfl ?_
            refine g_istore_n (i := 0) X0 hx #[.val (.int (XT.ushr (XT.ushr u1 (8 : Int32)) (2 : Int32))), .val (.int (21 : Int32))] (hb hby d16_72) rfl rfl ?_
            refine g_iload_n (i := 1) X0 hx (hb hby d16_73) (by rfl) rfl ?_
            refine g_iload_n (i := 0) X0 hx (hb hby d16_74) (by rfl) rfl ?_
            refine g_iconst (v := (1 : Int32)) X0 hx (hb hby d16_75) (by decide) rfl ?_
            refine g_iushr X0 hx (hb hby d16_76) rfl ?_
            refine g_isub X0 hx (hb hby d16_77) rfl ?_
            exact g_retI X0 hx hlk hret e0 (by decide) (by decide) (hb hby d16_78) ⟨⟨_, rfl⟩, rfl, rfl⟩
        · refine g_iinc (i := 1) (x := (23 : Int32)) (y := (19 : Int32)) X0 hx #[.val (.int (XT.ushr u1 (8 : Int32))), .val (.int (19 : Int32))] (hb hby d16_54) (by rfl) (by decide) rfl rfl ?_
          refine g_iload_n (i := 0) X0 hx (hb hby d16_57) (by rfl) rfl ?_
          refine g_iconst (v := (4 : Int32)) X0 hx (hb hby d16_58) (by decide) rfl ?_
          refine g_iushr X0 hx (hb hby d16_59) rfl ?_
          refine g_istore_n (i := 0) X0 hx #[.val (.int (XT.ushr (XT.ushr u1 (8 : Int32)) (4 : Int32))), .val (.int (19 : Int32))] (hb hby d16_60) rfl rfl ?_
          refine g_iload_n (i := 0) X0 hx (hb hby d16_61) (by rfl) rfl ?_
          refine g_iconst (v := (4 : Int32)) X0 hx (hb hby d16_62) (by decide) rfl ?_
          refine g_icmp_lt X0 hx (hb hby d16_63) (by decide) (pt := 73) (by decide) rfl (fun q14 => ?_) (fun q14 => ?_)
          · refine g_iload_n (i := 1) X0 hx (hb hby d16_73) (by rfl) rfl ?_
            refine g_iload_n (i := 0) X0 hx (hb hby d16_74) (by rfl) rfl ?_
            refine g_iconst (v := (1 : Int32)) X0 hx (hb hby d16_75) (by decide) rfl ?_
            refine g_iushr X0 hx (hb hby d16_76) rfl ?_
            refine g_isub X0 hx (hb hby d16_77) rfl ?_
            exact g_retI X0 hx hlk hret e0 (by decide) (by decide) (hb hby d16_78) ⟨⟨_, rfl⟩, rfl, rfl⟩
          · refine g_iinc (i := 1) (x := (19 : Int32)) (y := (17 : Int32)) X0 hx #[.val (.int (XT.ushr (XT.ushr u1 (8 : Int32)) (4 : Int32))), .val (.int (17 : Int32))] (hb hby d16_66) (by rfl) (by decide) rfl rfl ?_
            refine g_iload_n (i := 0) X0 hx (hb hby d16_69) (by rfl) rfl ?_
            refine g_iconst (v := (2 : Int32)) X0 hx (hb hby d16_70) (by decide) rfl ?_
            refine g_iushr X0 hx (hb hby d16_71) rfl ?_
            refine g_istore_n (i := 0) X0 hx #[.val (.int (XT.ushr (XT.ushr (XT.ushr u1 (8 : Int32)) (4 : Int32)) (2 : Int32))), .val (.int (17 : Int32))] (hb hby d16_72) rfl rfl ?_
            refine g_iload_n (i := 1) X0 hx (hb hby d16_73) (by rfl) rfl ?_
            refine g_iload_n (i := 0) X0 hx (hb hby d16_74) (by rfl) rfl ?_
            refine g_iconst (v := (1 : Int32)) X0 hx (hb hby d16_75) (by decide) rfl ?_
            refine g_iushr X0 hx (hb hby d16_76) rfl ?_
            refine g_isub X0 hx (hb hby d16_77) rfl ?_
            exact g_retI X0 hx hlk hret e0 (by decide) (by decide) (hb hby d16_78) ⟨⟨_, rfl⟩, rfl, rfl⟩
    · refine g_iinc (i := 1) (x := (31 : Int32)) (y := (15 : Int32)) X0 hx #[.val (.int u1), .val (.int (15 : Int32))] (hb hby d16_25) (by rfl) (by decide) rfl rfl ?_
      refine g_iload_n (i := 0) X0 hx (hb hby d16_28) (by rfl) rfl ?_
      refine g_bipush (v := (16 : Int32)) X0 hx (hb hby d16_29) (by decide) rfl ?_
      refine g_iushr X0 hx (hb hby d16_31) rfl ?_
      refine g_istore_n (i := 0) X0 hx #[.val (.int (XT.ushr u1 (16 : Int32))), .val (.int (15 : Int32))] (hb hby d16_32) rfl rfl ?_
      refine g_iload_n (i := 0) X0 hx (hb hby d16_33) (by rfl) rfl ?_
      refine g_sipush (v := (256 : Int32)) X0 hx (hb hby d16_34) (by decide) rfl ?_
      refine g_icmp_lt X0 hx (hb hby d16_37) (by decide) (pt := 48) (by decide) rfl (fun q15 => ?_) (fun q15 => ?_)
      · refine g_iload_n (i := 0) X0 hx (hb hby d16_48) (by rfl) rfl ?_
        refine g_bipush (v := (16 : Int32)) X0 hx (hb hby d16_49) (by decide) rfl ?_
        refine g_icmp_lt X0 hx (hb hby d16_51) (by decide) (pt := 61) (by decide) rfl (fun q16 => ?_) (fun q16 => ?_)
        · refine g_iload_n (i := 0) X0 hx (hb hby d16_61) (by rfl) rfl ?_
          refine g_iconst (v := (4 : Int32)) X0 hx (hb hby d16_62) (by decide) rfl ?_
          refine g_icmp_lt X0 hx (hb hby d16_63) (by decide) (pt := 73) (by decide) rfl (fun q17 => ?_) (fun q17 => ?_)
          · refine g_iload_n (i := 1) X0 hx (hb hby d16_73) (by rfl) rfl ?_
            refine g_iload_n (i := 0) X0 hx (hb hby d16_74) (by rfl) rfl ?_
            refine g_iconst (v := (1 : Int32)) X0 hx (hb hby d16_75) (by decide) rfl ?_
            refine g_iushr X0 hx (hb hby d16_76) rfl ?_
            refine g_isub X0 hx (hb hby d16_77) rfl ?_
            exact g_retI X0 hx hlk hret e0 (by decide) (by decide) (hb hby d16_78) ⟨⟨_, rfl⟩, rfl, rfl⟩
          · refine g_iinc (i := 1) (x := (15 : Int32)) (y := (13 : Int32)) X0 hx #[.val (.int (XT.ushr u1 (16 : Int32))), .val (.int (13 : Int32))] (hb hby d16_66) (by rfl) (by decide) rfl rfl ?_
            refine g_iload_n (i := 0) X0 hx (hb hby d16_69) (by rfl) rfl ?_
            refine g_iconst (v := (2 : Int32)) X0 hx (hb hby d16_70) (by decide) rfl ?_
            refine g_iushr X0 hx (hb hby d16_71) rfl ?_
            refine g_istore_n (i := 0) X0 hx #[.val (.int (XT.ushr (XT.ushr u1 (16 : Int32)) (2 : Int32))), .val (.int (13 : Int32))] (hb hby d16_72) rfl rfl ?_
            refine g_iload_n (i := 1) X0 hx (hb hby d16_73) (by rfl) rfl ?_
            refine g_iload_n (i := 0) X0 hx (hb hby d16_74) (by rfl) rfl ?_
            refine g_iconst (v := (1 : Int32)) X0 hx (hb hby d16_75) (by decide) rfl ?_
            refine g_iushr X0 hx (hb hby d16_76) rfl ?_
            refine g_isub X0 hx (hb hby d16_77) rfl ?_
            exact g_retI X0 hx hlk hret e0 (by decide) (by decide) (hb hby d16_78) ⟨⟨_, rfl⟩, rfl, rfl⟩
        · refine g_iinc (i := 1) (x := (15 : Int32)) (y := (11 : Int32)) X0 hx #[.val (.int (XT.ushr u1 (16 : Int32))), .val (.int (11 : Int32))] (hb hby d16_54) (by rfl) (by decide) rfl rfl ?_
          refine g_iload_n (i := 0) X0 hx (hb hby d16_57) (by rfl) rfl ?_
          refine g_iconst (v := (4 : Int32)) X0 hx (hb hby d16_58) (by decide) rfl ?_
          refine g_iushr X0 hx (hb hby d16_59) rfl ?_
          refine g_istore_n (i := 0) X0 hx #[.val (.int (XT.ushr (XT.ushr u1 (16 : Int32)) (4 : Int32))), .val (.int (11 : Int32))] (hb hby d16_60) rfl rfl ?_
          refine g_iload_n (i := 0) X0 hx (hb hby d16_61) (by rfl) rfl ?_
          refine g_iconst (v := (4 : Int32)) X0 hx (hb hby d16_62) (by decide) rfl ?_
          refine g_icmp_lt X0 hx (hb hby d16_63) (by decide) (pt := 73) (by decide) rfl (fun q18 => ?_) (fun q18 => ?_)
          · refine g_iload_n (i := 1) X0 hx (hb hby d16_73) (by rfl) rfl ?_
            refine g_iload_n (i := 0) X0 hx (hb hby d16_74) (by rfl) rfl ?_
            refine g_iconst (v := (1 : Int32)) X0 hx (hb hby d16_75) (by decide) rfl ?_
            refine g_iushr X0 hx (hb hby d16_76) rfl ?_
            refine g_isub X0 hx (hb hby d16_77) rfl ?_
            exact g_retI X0 hx hlk hret e0 (by decide) (by decide) (hb hby d16_78) ⟨⟨_, rfl⟩, rfl, rfl⟩
          · refine g_iinc (i := 1) (x := (11 : Int32)) (y := (9 : Int32)) X0 hx #[.val (.int (XT.ushr (XT.ushr u1 (16 : Int32)) (4 : Int32))), .val (.int (9 : Int32))] (hb hby d16_66) (by rfl) (by decide) rfl rfl ?_
            refine g_iload_n (i := 0) X0 hx (hb hby d16_69) (by rfl) rfl ?_
            refine g_iconst (v := (2 : Int32)) X0 hx (hb hby d16_70) (by decide) rfl ?_
            refine g_iushr X0 hx (hb hby d16_71) rfl ?_
            refine g_istore_n (i := 0) X0 hx #[.val (.int (XT.ushr (XT.ushr (XT.ushr u1 (16 : Int32)) (4 : Int32)) (2 : Int32))), .val (.int (9 : Int32))] (hb hby d16_72) rfl rfl ?_
            refine g_iload_n (i := 1) X0 hx (hb hby d16_73) (by rfl) rfl ?_
            refine g_iload_n (i := 0) X0 hx (hb hby d16_74) (by rfl) rfl ?_
            refine g_iconst (v := (1 : Int32)) X0 hx (hb hby d16_75) (by decide) rfl ?_
            refine g_iushr X0 hx (hb hby d16_76) rfl ?_
            refine g_isub X0 hx (hb hby d16_77) rfl ?_
            exact g_retI X0 hx hlk hret e0 (by decide) (by decide) (hb hby d16_78) ⟨⟨_, rfl⟩, rfl, rfl⟩
      · refine g_iinc (i := 1) (x := (15 : Int32)) (y := (7 : Int32)) X0 hx #[.val (.int (XT.ushr u1 (16 : Int32))), .val (.int (7 : Int32))] (hb hby d16_40) (by rfl) (by decide) rfl rfl ?_
        refine g_iload_n (i := 0) X0 hx (hb hby d16_43) (by rfl) rfl ?_
        refine g_bipush (v := (8 : Int32)) X0 hx (hb hby d16_44) (by decide) rfl ?_
        refine g_iushr X0 hx (hb hby d16_46) rfl ?_
        refine g_istore_n (i := 0) X0 hx #[.val (.int (XT.ushr (XT.ushr u1 (16 : Int32)) (8 : Int32))), .val (.int (7 : Int32))] (hb hby d16_47) rfl rfl ?_
        refine g_iload_n (i := 0) X0 hx (hb hby d16_48) (by rfl) rfl ?_
        refine g_bipush (v := (16 : Int32)) X0 hx (hb hby d16_49) (by decide) rfl ?_
        refine g_icmp_lt X0 hx (hb hby d16_51) (by decide) (pt := 61) (by decide) rfl (fun q19 => ?_) (fun q19 => ?_)
        · refine g_iload_n (i := 0) X0 hx (hb hby d16_61) (by rfl) rfl ?_
          refine g_iconst (v := (4 : Int32)) X0 hx (hb hby d16_62) (by decide) rfl ?_
          refine g_icmp_lt X0 hx (hb hby d16_63) (by decide) (pt := 73) (by decide) rfl (fun q20 => ?_) (fun q20 => ?_)
          · refine g_iload_n (i := 1) X0 hx (hb hby d16_73) (by rfl) rfl ?_
            refine g_iload_n (i := 0) X0 hx (hb hby d16_74) (by rfl) rfl ?_
            refine g_iconst (v := (1 : Int32)) X0 hx (hb hby d16_75) (by decide) rfl ?_
            refine g_iushr X0 hx (hb hby d16_76) rfl ?_
            refine g_isub X0 hx (hb hby d16_77) rfl ?_
            exact g_retI X0 hx hlk hret e0 (by decide) (by decide) (hb hby d16_78) ⟨⟨_, rfl⟩, rfl, rfl⟩
          · refine g_iinc (i := 1) (x := (7 : Int32)) (y := (5 : Int32)) X0 hx #[.val (.int (XT.ushr (XT.ushr u1 (16 : Int32)) (8 : Int32))), .val (.int (5 : Int32))] (hb hby d16_66) (by rfl) (by decide) rfl rfl ?_
            refine g_iload_n (i := 0) X0 hx (hb hby d16_69) (by rfl) rfl ?_
            refine g_iconst (v := (2 : Int32)) X0 hx (hb hby d16_70) (by decide) rfl ?_
            refine g_iushr X0 hx (hb hby d16_71) rfl ?_
            refine g_istore_n (i := 0) X0 hx #[.val (.int (XT.ushr (XT.ushr (XT.ushr u1 (16 : Int32)) (8 : Int32)) (2 : Int32))), .val (.int (5 : Int32))] (hb hby d16_72) rfl rfl ?_
            refine g_iload_n (i := 1) X0 hx (hb hby d16_73) (by rfl) rfl ?_
            refine g_iload_n (i := 0) X0 hx (hb hby d16_74) (by rfl) rfl ?_
            refine g_iconst (v := (1 : Int32)) X0 hx (hb hby d16_75) (by decide) rfl ?_
            refine g_iushr X0 hx (hb hby d16_76) rfl ?_
            refine g_isub X0 hx (hb hby d16_77) rfl ?_
            exact g_retI X0 hx hlk hret e0 (by decide) (by decide) (hb hby d16_78) ⟨⟨_, rfl⟩, rfl, rfl⟩
        · refine g_iinc (i := 1) (x := (7 : Int32)) (y := (3 : Int32)) X0 hx #[.val (.int (XT.ushr (XT.ushr u1 (16 : Int32)) (8 : Int32))), .val (.int (3 : Int32))] (hb hby d16_54) (by rfl) (by decide) rfl rfl ?_
          refine g_iload_n (i := 0) X0 hx (hb hby d16_57) (by rfl) rfl ?_
          refine g_iconst (v := (4 : Int32)) X0 hx (hb hby d16_58) (by decide) rfl ?_
          refine g_iushr X0 hx (hb hby d16_59) rfl ?_
          refine g_istore_n (i := 0) X0 hx #[.val (.int (XT.ushr (XT.ushr (XT.ushr u1 (16 : Int32)) (8 : Int32)) (4 : Int32))), .val (.int (3 : Int32))] (hb hby d16_60) rfl rfl ?_
          refine g_iload_n (i := 0) X0 hx (hb hby d16_61) (by rfl) rfl ?_
          refine g_iconst (v := (4 : Int32)) X0 hx (hb hby d16_62) (by decide) rfl ?_
          refine g_icmp_lt X0 hx (hb hby d16_63) (by decide) (pt := 73) (by decide) rfl (fun q21 => ?_) (fun q21 => ?_)
          · refine g_iload_n (i := 1) X0 hx (hb hby d16_73) (by rfl) rfl ?_
            refine g_iload_n (i := 0) X0 hx (hb hby d16_74) (by rfl) rfl ?_
            refine g_iconst (v := (1 : Int32)) X0 hx (hb hby d16_75) (by decide) rfl ?_
            refine g_iushr X0 hx (hb hby d16_76) rfl ?_
            refine g_isub X0 hx (hb hby d16_77) rfl ?_
            exact g_retI X0 hx hlk hret e0 (by decide) (by decide) (hb hby d16_78) ⟨⟨_, rfl⟩, rfl, rfl⟩
          · refine g_iinc (i := 1) (x := (3 : Int32)) (y := (1 : Int32)) X0 hx #[.val (.int (XT.ushr (XT.ushr (XT.ushr u1 (16 : Int32)) (8 : Int32)) (4 : Int32))), .val (.int (1 : Int32))] (hb hby d16_66) (by rfl) (by decide) rfl rfl ?_
            refine g_iload_n (i := 0) X0 hx (hb hby d16_69) (by rfl) rfl ?_
            refine g_iconst (v := (2 : Int32)) X0 hx (hb hby d16_70) (by decide) rfl ?_
            refine g_iushr X0 hx (hb hby d16_71) rfl ?_
            refine g_istore_n (i := 0) X0 hx #[.val (.int (XT.ushr (XT.ushr (XT.ushr (XT.ushr u1 (16 : Int32)) (8 : Int32)) (4 : Int32)) (2 : Int32))), .val (.int (1 : Int32))] (hb hby d16_72) rfl rfl ?_
            refine g_iload_n (i := 1) X0 hx (hb hby d16_73) (by rfl) rfl ?_
            refine g_iload_n (i := 0) X0 hx (hb hby d16_74) (by rfl) rfl ?_
            refine g_iconst (v := (1 : Int32)) X0 hx (hb hby d16_75) (by decide) rfl ?_
            refine g_iushr X0 hx (hb hby d16_76) rfl ?_
            refine g_isub X0 hx (hb hby d16_77) rfl ?_
            exact g_retI X0 hx hlk hret e0 (by decide) (by decide) (hb hby d16_78) ⟨⟨_, rfl⟩, rfl, rfl⟩
  · refine g_iload_n (i := 0) X0 hx (hb hby d16_4) (by rfl) rfl ?_
    refine g_if_ne X0 hx (hb hby d16_5) (by decide) (pt := 13) (by decide) rfl (fun q22 => ?_) (fun q22 => ?_)
    · refine g_iconst (v := (0 : Int32)) X0 hx (hb hby d16_13) (by decide) rfl ?_
      exact g_retI X0 hx hlk hret e0 (by decide) (by decide) (hb hby d16_14) ⟨⟨_, rfl⟩, rfl, rfl⟩
    · refine g_bipush (v := (32 : Int32)) X0 hx (hb hby d16_8) (by decide) rfl ?_
      refine g_goto X0 hx (hb hby d16_10) (by decide) (by decide) (pc' := 14) ?_
      exact g_retI X0 hx hlk hret e0 (by decide) (by decide) (hb hby d16_14) ⟨⟨_, rfl⟩, rfl, rfl⟩
theorem ef_rm_hob (m : MethodId) (x0 : Int32)  : entryFrame m #[(.int x0)] 1 = mkF m 0 #[.val (.int x0)] [] := by first | (simp [entryFrame, mkF, argsToLocals, Value.category]; done) | rfl
theorem pn_23 : plainFor (⟨"java/lang/Integer", "highestOneBit", "(I)I"⟩ : MethodName) = true := by first | exact plainFor_of_name (by first | (simp [plainName, overriddenIn]; done) | decide +kernel) | decide +kernel
theorem pd_24 : parseMethodDescriptor "(I)I" = some ⟨[.int], some .int⟩ := by decide +kernel
set_option maxRecDepth 65536 in
set_option maxHeartbeats 40000000 in
theorem rm_hob (l : Launch) (Z : State) (a0 : Array Value) (hw : ∀ d ∈ tables_1, d.before a0 Z = true) (u1 : Int32) (h0 : Heap) :
    Ctr l Z (⟨"java/lang/Integer", "highestOneBit", "(I)I"⟩ : MethodName) jdk_33_method_45_code 1 (Option.some FieldType.int) [] ({ frames := 1, cells := 0, slots := 0, locals := 15 } : Room) ({ frames := 1, cells := 0, slots := 0, locals := 15 } : Room).cells ({ frames := 1, cells := 0, slots := 0, locals := 15 } : Room).slots #[(.int u1)] h0 (fun u h L => (∃ r, u = some (.int r)) ∧ L = [] ∧ h = h0) := by
  refine Ctr.of pn_23 ?_
  intro p e s m below meth c s₁ hx hby hml hown hnm hret hlk hZ X0 e0
  refine Goes.cast (ef_rm_hob m u1) ?_
  refine g_iload_n (i := 0) X0 hx (hb hby d15_0) (by rfl) rfl ?_
  refine g_ldcI X0 hx hZ hown (wd hw 87 rfl) (hb hby d15_1) rfl ?_
  refine g_iload_n (i := 0) X0 hx (hb hby d15_3) (by rfl) rfl ?_
  refine g_callS X0 hx hZ hown (wd hw 88 rfl) (wd hw 89 rfl) (wd hw 85 rfl) (wd hw 90 rfl) (by decide) e0 (rm_nlz l Z a0 hw u1 h0) (by rw [hml]; rfl) [(.int u1)] [(.int (-2147483648 : Int32)), (.int u1)] rfl (lenOf pd_24 rfl) rfl (by show 2 + (2 + 11) + 0 ≤ _; decide) (by decide) (by decide) (by decide) (hb hby d15_4) rfl ?_
  intro T24 v24 L24 X24 hQ24
  obtain ⟨⟨r1, rfl⟩, rfl, e24⟩ := hQ24
  show Goes p e below _ T24 (mkF m 7 #[.val (.int u1)] [(.int r1), (.int (-2147483648 : Int32)), (.int u1)])
  refine g_iushr X24 hx (hb hby d15_7) rfl ?_
  refine g_iand X24 hx (hb hby d15_8) rfl ?_
  exact g_retI X24 hx hlk hret e24 (by decide) (by decide) (hb hby d15_9) ⟨⟨_, rfl⟩, rfl, rfl⟩
theorem ef_rm_nlz64 (m : MethodId) (x0 : Int32)  : entryFrame m #[(.int x0)] 2 = mkF m 0 #[.val (.int x0), .unset] [] := by first | (simp [entryFrame, mkF, argsToLocals, Value.category]; done) | rfl
set_option maxRecDepth 65536 in
set_option maxHeartbeats 40000000 in
theorem rm_nlz64 (l : Launch) (Z : State) (a0 : Array Value) (hw : ∀ d ∈ tables_1, d.before a0 Z = true) (h0 : Heap) :
    Ctr l Z (⟨"java/lang/Integer", "numberOfLeadingZeros", "(I)I"⟩ : MethodName) jdk_33_method_47_code 2 (Option.some FieldType.int) [] ({ frames := 0, cells := 0, slots := 0, locals := 0 } : Room) ({ frames := 0, cells := 0, slots := 0, locals := 0 } : Room).cells ({ frames := 0, cells := 0, slots := 0, locals := 0 } : Room).slots #[(.int (64 : Int32))] h0 (fun u h L => u = some (.int 25) ∧ L = [] ∧ h = h0) := by
  refine Ctr.of pn_5 ?_
  intro p e s m below meth c s₁ hx hby hml hown hnm hret hlk hZ X0 e0
  refine Goes.cast (ef_rm_nlz64 m (64 : Int32)) ?_
  refine g_iload_n (i := 0) X0 hx (hb hby d16_0) (by rfl) rfl ?_
  refine g_if_gt X0 hx (hb hby d16_1) (by decide) (pt := 15) (by decide) rfl (fun _ => ?_) (fun q_ => absurd (by decide) q_)
  refine g_bipush (v := (31 : Int32)) X0 hx (hb hby d16_15) (by decide) rfl ?_
  refine g_istore_n (i := 1) X0 hx #[.val (.int (64 : Int32)), .val (.int (31 : Int32))] (hb hby d16_17) rfl rfl ?_
  refine g_iload_n (i := 0) X0 hx (hb hby d16_18) (by rfl) rfl ?_
  refine g_ldcWI X0 hx hZ hown (wd hw 91 rfl) (hb hby d16_19) rfl ?_
  refine g_icmp_lt X0 hx (hb hby d16_22) (by decide) (pt := 33) (by decide) rfl (fun _ => ?_) (fun q_ => absurd (by decide) q_)
  refine g_iload_n (i := 0) X0 hx (hb hby d16_33) (by rfl) rfl ?_
  refine g_sipush (v := (256 : Int32)) X0 hx (hb hby d16_34) (by decide) rfl ?_
  refine g_icmp_lt X0 hx (hb hby d16_37) (by decide) (pt := 48) (by decide) rfl (fun _ => ?_) (fun q_ => absurd (by decide) q_)
  refine g_iload_n (i := 0) X0 hx (hb hby d16_48) (by rfl) rfl ?_
  refine g_bipush (v := (16 : Int32)) X0 hx (hb hby d16_49) (by decide) rfl ?_
  refine g_icmp_lt X0 hx (hb hby d16_51) (by decide) (pt := 61) (by decide) rfl (fun q_ => absurd q_ (by decide)) (fun _ => ?_)
  refine g_iinc (i := 1) (x := (31 : Int32)) (y := (27 : Int32)) X0 hx #[.val (.int (64 : Int32)), .val (.int (27 : Int32))] (hb hby d16_54) (by rfl) (by decide) rfl rfl ?_
  refine g_iload_n (i := 0) X0 hx (hb hby d16_57) (by rfl) rfl ?_
  refine g_iconst (v := (4 : Int32)) X0 hx (hb hby d16_58) (by decide) rfl ?_
  refine g_iushr X0 hx (hb hby d16_59) rfl ?_
  rw [show (XT.ushr (64 : Int32) (4 : Int32)) = (4 : Int32) by decide]
  refine g_istore_n (i := 0) X0 hx #[.val (.int (4 : Int32)), .val (.int (27 : Int32))] (hb hby d16_60) rfl rfl ?_
  refine g_iload_n (i := 0) X0 hx (hb hby d16_61) (by rfl) rfl ?_
  refine g_iconst (v := (4 : Int32)) X0 hx (hb hby d16_62) (by decide) rfl ?_
  refine g_icmp_lt X0 hx (hb hby d16_63) (by decide) (pt := 73) (by decide) rfl (fun q_ => absurd q_ (by decide)) (fun _ => ?_)
  refine g_iinc (i := 1) (x := (27 : Int32)) (y := (25 : Int32)) X0 hx #[.val (.int (4 : Int32)), .val (.int (25 : Int32))] (hb hby d16_66) (by rfl) (by decide) rfl rfl ?_
  refine g_iload_n (i := 0) X0 hx (hb hby d16_69) (by rfl) rfl ?_
  refine g_iconst (v := (2 : Int32)) X0 hx (hb hby d16_70) (by decide) rfl ?_
  refine g_iushr X0 hx (hb hby d16_71) rfl ?_
  rw [show (XT.ushr (4 : Int32) (2 : Int32)) = (1 : Int32) by decide]
  refine g_istore_n (i := 0) X0 hx #[.val (.int (1 : Int32)), .val (.int (25 : Int32))] (hb hby d16_72) rfl rfl ?_
  refine g_iload_n (i := 1) X0 hx (hb hby d16_73) (by rfl) rfl ?_
  refine g_iload_n (i := 0) X0 hx (hb hby d16_74) (by rfl) rfl ?_
  refine g_iconst (v := (1 : Int32)) X0 hx (hb hby d16_75) (by decide) rfl ?_
  refine g_iushr X0 hx (hb hby d16_76) rfl ?_
  rw [show (XT.ushr (1 : Int32) (1 : Int32)) = (0 : Int32) by decide]
  refine g_isub X0 hx (hb hby d16_77) rfl ?_
  rw [show ((25 : Int32) - (0 : Int32)) = (25 : Int32) by decide]
  exact g_retI X0 hx hlk hret e0 (by decide) (by decide) (hb hby d16_78) ⟨rfl, rfl, rfl⟩
theorem ef_rm_lnlz (m : MethodId) (x0 : Int64)  : entryFrame m #[(.long x0)] 3 = mkF m 0 #[.val (.long x0), .second, .unset] [] := by first | (simp [entryFrame, mkF, argsToLocals, Value.category]; done) | rfl
theorem pn_26 : plainFor (⟨"java/lang/Long", "numberOfLeadingZeros", "(J)I"⟩ : MethodName) = true := by first | exact plainFor_of_name (by first | (simp [plainName, overriddenIn]; done) | decide +kernel) | decide +kernel
set_option maxRecDepth 65536 in
set_option maxHeartbeats 40000000 in
theorem rm_lnlz (l : Launch) (Z : State) (a0 : Array Value) (hw : ∀ d ∈ tables_1, d.before a0 Z = true) (h0 : Heap) :
    Ctr l Z (⟨"java/lang/Long", "numberOfLeadingZeros", "(J)I"⟩ : MethodName) jdk_35_method_48_code 3 (Option.some FieldType.int) [] ({ frames := 1, cells := 0, slots := 0, locals := 14 } : Room) ({ frames := 1, cells := 0, slots := 0, locals := 14 } : Room).cells ({ frames := 1, cells := 0, slots := 0, locals := 14 } : Room).slots #[(.long (64 : Int64))] h0 (fun u h L => u = some (.int 57) ∧ L = [] ∧ h = h0) := by
  refine Ctr.of pn_26 ?_
  intro p e s m below meth c s₁ hx hby hml hown hnm hret hlk hZ X0 e0
  refine Goes.cast (ef_rm_lnlz m (64 : Int64)) ?_
  refine g_lload_n (i := 0) X0 hx (hb hby d17_0) (by rfl) rfl ?_
  refine g_bipush (v := (32 : Int32)) X0 hx (hb hby d17_1) (by decide) rfl ?_
  refine g_lushr X0 hx (hb hby d17_3) rfl ?_
  refine g_l2i X0 hx (hb hby d17_4) rfl ?_
  rw [show (XT.ushrL (64 : Int64) (32 : Int32)).toInt32 = (0 : Int32) by decide]
  refine g_istore_n (i := 2) X0 hx #[.val (.long (64 : Int64)), .second, .val (.int (0 : Int32))] (hb hby d17_5) rfl rfl ?_
  refine g_iload_n (i := 2) X0 hx (hb hby d17_6) (by rfl) rfl ?_
  refine g_if_ne X0 hx (hb hby d17_7) (by decide) (pt := 21) (by decide) rfl (fun q_ => absurd (by decide) q_) (fun _ => ?_)
  refine g_bipush (v := (32 : Int32)) X0 hx (hb hby d17_10) (by decide) rfl ?_
  refine g_lload_n (i := 0) X0 hx (hb hby d17_12) (by rfl) rfl ?_
  refine g_l2i X0 hx (hb hby d17_13) rfl ?_
  rw [show (64 : Int64).toInt32 = (64 : Int32) by decide]
  refine g_callS X0 hx hZ hown (wd hw 98 rfl) (wd hw 89 rfl) (wd hw 85 rfl) (wd hw 90 rfl) (by decide) e0 (rm_nlz64 l Z a0 hw h0) (by rw [hml]; rfl) [(.int (64 : Int32))] [(.int (32 : Int32))] rfl (lenOf pd_24 rfl) rfl (by show 1 + (2 + 11) + 0 ≤ _; decide) (by decide) (by decide) (by decide) (hb hby d17_14) rfl ?_
  intro T27 v27 L27 X27 hQ27
  obtain ⟨rfl, rfl, e27⟩ := hQ27
  show Goes p e below _ T27 (mkF m 17 #[.val (.long (64 : Int64)), .second, .val (.int (0 : Int32))] [(.int (25 : Int32)), (.int (32 : Int32))])
  refine g_iadd X27 hx (hb hby d17_17) rfl ?_
  rw [show ((32 : Int32) + (25 : Int32)) = (57 : Int32) by decide]
  refine g_goto X27 hx (hb hby d17_18) (by decide) (by decide) (pc' := 25) ?_
  exact g_retI X27 hx hlk hret e27 (by decide) (by decide) (hb hby d17_25) ⟨rfl, rfl, rfl⟩
theorem ef_rm_rc (m : MethodId) (x0 : Int32) (x1 : Int32) (x2 : Int32)  : entryFrame m #[(.int x0), (.int x1), (.int x2)] 3 = mkF m 0 #[.val (.int x0), .val (.int x1), .val (.int x2)] [] := by first | (simp [entryFrame, mkF, argsToLocals, Value.category]; done) | rfl
theorem pn_28 : plainFor (⟨"java/util/Arrays", "rangeCheck", "(III)V"⟩ : MethodName) = true := by first | exact plainFor_of_name (by first | (simp [plainName, overriddenIn]; done) | decide +kernel) | decide +kernel
set_option maxRecDepth 65536 in
set_option maxHeartbeats 40000000 in
theorem rm_rc (l : Launch) (Z : State) (a0 : Array Value) (hw : ∀ d ∈ tables_1, d.before a0 Z = true) (u1 u2 u3 : Int32) (h0 : Heap) (q1 : ¬ u3 < u2) (q2 : ¬ u2 < 0) (q3 : ¬ u1 < u3) :
    Ctr l Z (⟨"java/util/Arrays", "rangeCheck", "(III)V"⟩ : MethodName) jdk_65_method_30_code 3 (Option.none : Option FieldType) [] ({ frames := 0, cells := 0, slots := 0, locals := 0 } : Room) ({ frames := 0, cells := 0, slots := 0, locals := 0 } : Room).cells ({ frames := 0, cells := 0, slots := 0, locals := 0 } : Room).slots #[(.int u1), (.int u2), (.int u3)] h0 (fun u h L => u = none ∧ L = [] ∧ h = h0) := by
  refine Ctr.of pn_28 ?_
  intro p e s m below meth c s₁ hx hby hml hown hnm hret hlk hZ X0 e0
  refine Goes.cast (ef_rm_rc m u1 u2 u3) ?_
  refine g_iload_n (i := 1) X0 hx (hb hby d13_0) (by rfl) rfl ?_
  refine g_iload_n (i := 2) X0 hx (hb hby d13_1) (by rfl) rfl ?_
  refine g_icmp_le X0 hx (hb hby d13_2) (by decide) (pt := 46) (by decide) rfl (fun _ => ?_) (fun q_ => absurd q_ (q1))
  refine g_iload_n (i := 1) X0 hx (hb hby d13_46) (by rfl) rfl ?_
  refine g_if_ge X0 hx (hb hby d13_47) (by decide) (pt := 59) (by decide) rfl (fun _ => ?_) (fun q_ => absurd q_ (q2))
  refine g_iload_n (i := 2) X0 hx (hb hby d13_59) (by rfl) rfl ?_
  refine g_iload_n (i := 0) X0 hx (hb hby d13_60) (by rfl) rfl ?_
  refine g_icmp_le X0 hx (hb hby d13_61) (by decide) (pt := 73) (by decide) rfl (fun _ => ?_) (fun q_ => absurd q_ (q3))
  exact g_ret X0 hx hlk hret e0 (by decide) (by decide) (hb hby d13_73) ⟨rfl, rfl, rfl⟩
theorem ef_rm_fill4 (m : MethodId) (x0 : Addr) (x1 : Int32) (x2 : Int32) (x3 : Int64)  : entryFrame m #[(.ref x0), (.int x1), (.int x2), (.long x3)] 6 = mkF m 0 #[.val (.ref x0), .val (.int x1), .val (.int x2), .val (.long x3), .second, .unset] [] := by first | (simp [entryFrame, mkF, argsToLocals, Value.category]; done) | rfl
theorem pn_29 : plainFor (⟨"java/util/Arrays", "fill", "([JIIJ)V"⟩ : MethodName) = true := by first | exact plainFor_of_name (by first | (simp [plainName, overriddenIn]; done) | decide +kernel) | decide +kernel
theorem pd_30 : parseMethodDescriptor "(III)V" = some ⟨[.int, .int, .int], none⟩ := by decide +kernel
set_option maxRecDepth 65536 in
set_option maxHeartbeats 40000000 in
theorem rm_fill4 (l : Launch) (Z : State) (a0 : Array Value) (hw : ∀ d ∈ tables_1, d.before a0 Z = true) (b : Addr) (n w n0 : Nat) (f : Nat → Int64) (h0 : Heap) (hn : n ≤ 4096) (w1 : w ≤ n) (gb : n0 ≤ b) (A : ArJ Z h0 b .long n f) :
    Ctr l Z (⟨"java/util/Arrays", "fill", "([JIIJ)V"⟩ : MethodName) jdk_65_method_102_code 6 (Option.none : Option FieldType) [] ({ frames := 1, cells := 0, slots := 0, locals := 14 } : Room) ({ frames := 1, cells := 0, slots := 0, locals := 14 } : Room).cells ({ frames := 1, cells := 0, slots := 0, locals := 14 } : Room).slots #[(.ref b), (.int (0 : Int32)), (.int w.toInt32), (.long (0 : Int64))] h0 (fun u h L => u = none ∧ Fr n0 L ∧ Keep h0 h [b] ∧ ArJ Z h b .long n (fun k => if k < w then 0 else f k)) := by
  refine Ctr.of pn_29 ?_
  intro p e s m below meth c s₁ hx hby hml hown hnm hret hlk hZ X0 e0
  refine Goes.cast (ef_rm_fill4 m b (0 : Int32) w.toInt32 (0 : Int64)) ?_
  have hlen : (n.toInt32).toInt = (n : Int) := len_toInt (by omega)
  have hw2 : (w.toInt32).toInt = (w : Int) := len_toInt (by omega)
  refine g_aload_n (i := 0) X0 hx (hb hby d12_0) (by rfl) rfl rfl ?_
  refine g_arraylengthJ X0 hx hZ e0 A (z := n.toInt32) rfl (hb hby d12_1) rfl ?_
  refine g_iload_n (i := 1) X0 hx (hb hby d12_2) (by rfl) rfl ?_
  refine g_iload_n (i := 2) X0 hx (hb hby d12_3) (by rfl) rfl ?_
  refine g_callS X0 hx hZ hown (wd hw 75 rfl) (wd hw 76 rfl) (wd hw 73 rfl) (wd hw 77 rfl) (by decide) e0 (rm_rc l Z a0 hw n.toInt32 (0 : Int32) w.toInt32 h0 (by rw [own_ltI, hw2]; exact Int.not_lt.mpr (Int.natCast_nonneg _)) (by decide) (by rw [own_ltI]; omega)) (by rw [hml]; rfl) [(.int n.toInt32), (.int (0 : Int32)), (.int w.toInt32)] [] rfl (lenOf pd_30 rfl) rfl (by show 0 + (3 + 11) + 0 ≤ _; decide) (by decide) (by decide) (by decide) (hb hby d12_4) rfl ?_
  intro T30 v30 L30 X30 hQ30
  obtain ⟨rfl, rfl, e30⟩ := hQ30
  show Goes p e below _ T30 (mkF m 7 #[.val (.ref b), .val (.int (0 : Int32)), .val (.int w.toInt32), .val (.long (0 : Int64)), .second, .unset] [])
  refine g_iload_n (i := 1) X30 hx (hb hby d12_7) (by rfl) rfl ?_
  refine g_istore (i := 5) X30 hx #[.val (.ref b), .val (.int (0 : Int32)), .val (.int w.toInt32), .val (.long (0 : Int64)), .second, .val (.int (0 : Int32))] (hb hby d12_8) rfl rfl ?_
  have loop : ∀ (k i : Nat) (T : State) (locs : List Loc) (h : Heap), Stand p l e ({ frames := 1, cells := 0, slots := 0, locals := 14 } : Room) s m #[(.ref b), (.int (0 : Int32)), (.int w.toInt32), (.long (0 : Int64))] below meth c T locs (0 + 0) (0 + 0) → T.heap = h → ArJ Z h b .long n (fun k => if k < i then 0 else f k) → Keep h0 h [b] → Fr n0 locs → i + k = w → Goes p e below (KQ s ({ frames := 1, cells := 0, slots := 0, locals := 14 } : Room).cells ({ frames := 1, cells := 0, slots := 0, locals := 14 } : Room).slots (fun u h L => u = none ∧ Fr n0 L ∧ Keep h0 h [b] ∧ ArJ Z h b .long n (fun k => if k < w then 0 else f k))) T (mkF m 10 #[.val (.ref b), .val (.int (0 : Int32)), .val (.int w.toInt32), .val (.long (0 : Int64)), .second, .val (.int i.toInt32)] []) := by
    intro k
    induction k with
    | zero =>
      intro i T locs h X eT Ai Ki hN g1
      have hi : (i.toInt32).toInt = (i : Int) := len_toInt (by omega)
      refine g_iload (i := 5) X hx (hb hby d12_10) (by rfl) rfl ?_
      refine g_iload_n (i := 2) X hx (hb hby d12_12) (by rfl) rfl ?_
      refine g_icmp_ge X hx (hb hby d12_13) (by decide) (pt := 27) (by decide) rfl (fun _ => ?_) (fun q_ => absurd q_ (by rw [own_ltI]; omega))
      exact g_ret X hx hlk hret eT (by decide) (by decide) (hb hby d12_27) ⟨rfl, hN, Ki, by rw [show w = i by omega]; exact Ai⟩
    | succ k ih =>
      intro i T locs h X eT Ai Ki hN g1
      have hi : (i.toInt32).toInt = (i : Int) := len_toInt (by omega)
      have hi1 : i.toInt32 + 1 = (i + 1).toInt32 := Int32.toInt_inj.mp (by rw [own_inc (by omega), hi, len_toInt (by omega)]; rfl)
      have hic : i.toInt32.toNatClampNeg = i := by rw [own_tnc, hi]; rfl
      refine g_iload (i := 5) X hx (hb hby d12_10) (by rfl) rfl ?_
      refine g_iload_n (i := 2) X hx (hb hby d12_12) (by rfl) rfl ?_
      refine g_icmp_ge X hx (hb hby d12_13) (by decide) (pt := 27) (by decide) rfl (fun q_ => absurd (by rw [own_ltI]; omega) q_) (fun _ => ?_)
      refine g_aload_n (i := 0) X hx (hb hby d12_16) (by rfl) rfl rfl ?_
      refine g_iload (i := 5) X hx (hb hby d12_17) (by rfl) rfl ?_
      refine g_lload_n (i := 3) X hx (hb hby d12_19) (by rfl) rfl ?_
      refine g_lastore' X hx hZ eT Ai (own_nneg (by omega)) (by rw [hic]; omega) (hb hby d12_20) rfl ?_
      intro T31 h31 X31 e31 W31 Ar31
      have N31 := Fr.snoc X31 hN gb
      rw [hic, own_fill] at Ar31
      refine g_iinc (i := 5) (x := i.toInt32) (y := (i.toInt32 + (1 : Int32))) X31 hx #[.val (.ref b), .val (.int (0 : Int32)), .val (.int w.toInt32), .val (.long (0 : Int64)), .second, .val (.int (i.toInt32 + (1 : Int32)))] (hb hby d12_21) (by rfl) (by rfl) rfl rfl ?_
      refine g_goto X31 hx (hb hby d12_24) (by decide) (by decide) (pc' := 10) ?_
      rw [hi1]
      exact ih (i + 1) _ _ _ X31 e31 Ar31 (Ki.wr W31 (Or.inl (List.mem_singleton.mpr rfl))) N31 (by omega)
  exact loop w 0 _ _ _ X30 e30 (by simpa using A) (Keep.refl h0 [b]) (Fr.nil n0) (by omega)
theorem ef_rm_fill2 (m : MethodId) (x0 : Addr) (x1 : Int64)  : entryFrame m #[(.ref x0), (.long x1)] 5 = mkF m 0 #[.val (.ref x0), .val (.long x1), .second, .unset, .unset] [] := by first | (simp [entryFrame, mkF, argsToLocals, Value.category]; done) | rfl
theorem pn_32 : plainFor (⟨"java/util/Arrays", "fill", "([JJ)V"⟩ : MethodName) = true := by first | exact plainFor_of_name (by first | (simp [plainName, overriddenIn]; done) | decide +kernel) | decide +kernel
set_option maxRecDepth 65536 in
set_option maxHeartbeats 40000000 in
theorem rm_fill2 (l : Launch) (Z : State) (a0 : Array Value) (hw : ∀ d ∈ tables_1, d.before a0 Z = true) (b : Addr) (w n n0 : Nat) (f : Nat → Int64) (h0 : Heap) (hn : n ≤ 4096) (w1 : w = n) (gb : n0 ≤ b) (A : ArJ Z h0 b .long n f) :
    Ctr l Z (⟨"java/util/Arrays", "fill", "([JJ)V"⟩ : MethodName) jdk_65_method_101_code 5 (Option.none : Option FieldType) [] ({ frames := 0, cells := 0, slots := 0, locals := 0 } : Room) ({ frames := 0, cells := 0, slots := 0, locals := 0 } : Room).cells ({ frames := 0, cells := 0, slots := 0, locals := 0 } : Room).slots #[(.ref b), (.long (0 : Int64))] h0 (fun u h L => u = none ∧ Fr n0 L ∧ Keep h0 h [b] ∧ ArJ Z h b .long n (fun k => if k < w then 0 else f k)) := by
  refine Ctr.of pn_32 ?_
  intro p e s m below meth c s₁ hx hby hml hown hnm hret hlk hZ X0 e0
  refine Goes.cast (ef_rm_fill2 m b (0 : Int64)) ?_
  have hlen : (n.toInt32).toInt = (n : Int) := len_toInt (by omega)
  refine g_iconst (v := (0 : Int32)) X0 hx (hb hby d20_0) (by decide) rfl ?_
  refine g_istore_n (i := 3) X0 hx #[.val (.ref b), .val (.long (0 : Int64)), .second, .val (.int (0 : Int32)), .unset] (hb hby d20_1) rfl rfl ?_
  refine g_aload_n (i := 0) X0 hx (hb hby d20_2) (by rfl) rfl rfl ?_
  refine g_arraylengthJ X0 hx hZ e0 A (z := n.toInt32) rfl (hb hby d20_3) rfl ?_
  refine g_istore (i := 4) X0 hx #[.val (.ref b), .val (.long (0 : Int64)), .second, .val (.int (0 : Int32)), .val (.int n.toInt32)] (hb hby d20_4) rfl rfl ?_
  have loop : ∀ (k i : Nat) (T : State) (locs : List Loc) (h : Heap), Stand p l e ({ frames := 0, cells := 0, slots := 0, locals := 0 } : Room) s m #[(.ref b), (.long (0 : Int64))] below meth c T locs (0) (0) → T.heap = h → ArJ Z h b .long n (fun k => if k < i then 0 else f k) → Keep h0 h [b] → Fr n0 locs → i + k = w → Goes p e below (KQ s ({ frames := 0, cells := 0, slots := 0, locals := 0 } : Room).cells ({ frames := 0, cells := 0, slots := 0, locals := 0 } : Room).slots (fun u h L => u = none ∧ Fr n0 L ∧ Keep h0 h [b] ∧ ArJ Z h b .long n (fun k => if k < w then 0 else f k))) T (mkF m 6 #[.val (.ref b), .val (.long (0 : Int64)), .second, .val (.int i.toInt32), .val (.int n.toInt32)] []) := by
    intro k
    induction k with
    | zero =>
      intro i T locs h X eT Ai Ki hN g1
      have hi : (i.toInt32).toInt = (i : Int) := len_toInt (by omega)
      refine g_iload_n (i := 3) X hx (hb hby d20_6) (by rfl) rfl ?_
      refine g_iload (i := 4) X hx (hb hby d20_7) (by rfl) rfl ?_
      refine g_icmp_ge X hx (hb hby d20_9) (by decide) (pt := 22) (by decide) rfl (fun _ => ?_) (fun q_ => absurd q_ (by rw [own_ltI]; omega))
      exact g_ret X hx hlk hret eT (by decide) (by decide) (hb hby d20_22) ⟨rfl, hN, Ki, by rw [show w = i by omega]; exact Ai⟩
    | succ k ih =>
      intro i T locs h X eT Ai Ki hN g1
      have hi : (i.toInt32).toInt = (i : Int) := len_toInt (by omega)
      have hi1 : i.toInt32 + 1 = (i + 1).toInt32 := Int32.toInt_inj.mp (by rw [own_inc (by omega), hi, len_toInt (by omega)]; rfl)
      have hic : i.toInt32.toNatClampNeg = i := by rw [own_tnc, hi]; rfl
      refine g_iload_n (i := 3) X hx (hb hby d20_6) (by rfl) rfl ?_
      refine g_iload (i := 4) X hx (hb hby d20_7) (by rfl) rfl ?_
      refine g_icmp_ge X hx (hb hby d20_9) (by decide) (pt := 22) (by decide) rfl (fun q_ => absurd (by rw [own_ltI]; omega) q_) (fun _ => ?_)
      refine g_aload_n (i := 0) X hx (hb hby d20_12) (by rfl) rfl rfl ?_
      refine g_iload_n (i := 3) X hx (hb hby d20_13) (by rfl) rfl ?_
      refine g_lload_n (i := 1) X hx (hb hby d20_14) (by rfl) rfl ?_
      refine g_lastore' X hx hZ eT Ai (own_nneg (by omega)) (by rw [hic]; omega) (hb hby d20_15) rfl ?_
      intro T33 h33 X33 e33 W33 Ar33
      have N33 := Fr.snoc X33 hN gb
      rw [hic, own_fill] at Ar33
      refine g_iinc (i := 3) (x := i.toInt32) (y := (i.toInt32 + (1 : Int32))) X33 hx #[.val (.ref b), .val (.long (0 : Int64)), .second, .val (.int (i.toInt32 + (1 : Int32))), .val (.int n.toInt32)] (hb hby d20_16) (by rfl) (by rfl) rfl rfl ?_
      refine g_goto X33 hx (hb hby d20_19) (by decide) (by decide) (pc' := 6) ?_
      rw [hi1]
      exact ih (i + 1) _ _ _ X33 e33 Ar33 (Ki.wr W33 (Or.inl (List.mem_singleton.mpr rfl))) N33 (by omega)
  exact loop w 0 _ _ _ X0 e0 (by simpa using A) (Keep.refl h0 [b]) (Fr.nil n0) (by omega)
theorem ef_rm_words (m : MethodId) (x0 : Addr)  : entryFrame m #[(.ref x0)] 1 = mkF m 0 #[.val (.ref x0)] [] := by first | (simp [entryFrame, mkF, argsToLocals, Value.category]; done) | rfl
theorem pn_34 : plainFor (⟨"com/example/nav_by_schema/navbyschema/regex/StateSet", "words", "()J"⟩ : MethodName) = true := by first | exact plainFor_of_name (by first | (simp [plainName, overriddenIn]; done) | decide +kernel) | decide +kernel
set_option maxRecDepth 65536 in
set_option maxHeartbeats 40000000 in
theorem rm_words (l : Launch) (Z : State) (a0 : Array Value) (hw : ∀ d ∈ tables_1, d.before a0 Z = true) (a : Addr) (B : Int64) (h0 : Heap) (F_bound : Fld Z h0 a "com/example/nav_by_schema/navbyschema/regex/StateSet" "bound" "J" (.long B)) :
    Ctr l Z (⟨"com/example/nav_by_schema/navbyschema/regex/StateSet", "words", "()J"⟩ : MethodName) prog_26_method_11_code 1 (Option.some FieldType.long) [] ({ frames := 0, cells := 0, slots := 0, locals := 0 } : Room) ({ frames := 0, cells := 0, slots := 0, locals := 0 } : Room).cells ({ frames := 0, cells := 0, slots := 0, locals := 0 } : Room).slots #[(.ref a)] h0 (fun u h L => u = some (.long (XT.ushrL (B + (63 : Int64)) (6 : Int32))) ∧ L = [] ∧ h = h0) := by
  refine Ctr.of pn_34 ?_
  intro p e s m below meth c s₁ hx hby hml hown hnm hret hlk hZ X0 e0
  refine Goes.cast (ef_rm_words m a) ?_
  refine g_aload_n (i := 0) X0 hx (hb hby d5_0) (by rfl) rfl rfl ?_
  refine g_getF X0 hx hZ hown (wd hw 27 rfl) e0 F_bound (hb hby d5_1) rfl ?_
  intro T35 X35 e35
  refine g_ldc2J X35 hx hZ hown (wd hw 35 rfl) (hb hby d5_4) rfl ?_
  refine g_ladd X35 hx (hb hby d5_7) rfl ?_
  refine g_bipush (v := (6 : Int32)) X35 hx (hb hby d5_8) (by decide) rfl ?_
  refine g_lushr X35 hx (hb hby d5_10) rfl ?_
  exact g_retJ X35 hx hlk hret e35 (by decide) (by decide) (hb hby d5_11) ⟨rfl, rfl, rfl⟩
theorem own_wds (B : Int64) (B0 : 0 < B.toInt) (B1 : B.toInt ≤ 4611686018427387904) : (XT.ushrL (B + (63 : Int64)) (6 : Int32)).toInt = (B.toInt + 63) / 64 := by
  have e := c_ladd B 63
  have r := rng64 (B + 63)
  rw [show (63 : Int64).toInt = 63 from rfl] at e
  have e2 : (B + 63).toInt = B.toInt + 63 := by omega
  rw [own_us6 _ (by omega), e2]
theorem own_wdn (B : Int64) (B0 : 0 < B.toInt) (B1 : B.toInt ≤ 262144) : ∃ w : Nat, (w : Int) = (B.toInt + 63) / 64 ∧ (XT.ushrL (B + (63 : Int64)) (6 : Int32)).toInt32 = w.toInt32 := by
  refine ⟨((B.toInt + 63) / 64).toNat, Int.toNat_of_nonneg (by omega), Int32.toInt_inj.mp ?_⟩
  have e := own_wds B B0 (by omega)
  have g := c_l2i (XT.ushrL (B + (63 : Int64)) (6 : Int32))
  have r := rng32 (XT.ushrL (B + (63 : Int64)) (6 : Int32)).toInt32
  rw [len_toInt (by omega)]
  omega
theorem ef_rm_eb (m : MethodId) (x0 : Addr)  : entryFrame m #[(.ref x0)] 2 = mkF m 0 #[.val (.ref x0), .unset] [] := by first | (simp [entryFrame, mkF, argsToLocals, Value.category]; done) | rfl
theorem pn_36 : plainFor (⟨"com/example/nav_by_schema/navbyschema/regex/StateSet", "emptyBits", "()V"⟩ : MethodName) = true := by first | exact plainFor_of_name (by first | (simp [plainName, overriddenIn]; done) | decide +kernel) | decide +kernel
theorem pd_37 : parseMethodDescriptor "()J" = some ⟨[], some .long⟩ := by decide +kernel
theorem pd_40 : parseMethodDescriptor "([JIIJ)V" = some ⟨[(.array .long), .int, .int, .long], none⟩ := by decide +kernel
set_option maxRecDepth 65536 in
set_option maxHeartbeats 40000000 in
theorem rm_eb (l : Launch) (Z : State) (a0 : Array Value) (hw : ∀ d ∈ tables_1, d.before a0 Z = true) (a : Addr) (n0 : Nat) (B : Int64) (bb sb : Addr) (nb : Nat) (fb : Nat → Int64) (ns : Nat) (fs : Nat → Int64) (sh de bf ov ct mx : Int32) (h0 : Heap) (H : own_Ob Z h0 a n0 B bb sb nb fb ns fs sh de bf ov ct mx) (B0 : 0 < B.toInt) (B1 : B.toInt ≤ 262144) :
    Ctr l Z (⟨"com/example/nav_by_schema/navbyschema/regex/StateSet", "emptyBits", "()V"⟩ : MethodName) prog_26_method_10_code 2 (Option.none : Option FieldType) [] ({ frames := 2, cells := 1, slots := 4096, locals := 31 } : Room) ({ frames := 2, cells := 1, slots := 4096, locals := 31 } : Room).cells ({ frames := 2, cells := 1, slots := 4096, locals := 31 } : Room).slots #[(.ref a)] h0 (fun u h L => u = none ∧ Fr n0 L ∧ ∃ bb' nb' fb', own_Ob Z h a n0 B bb' sb nb' fb' ns fs sh de bf ov ct mx ∧ (B.toInt + 63) / 64 ≤ (nb' : Int) ∧ ∀ k : Nat, (k : Int) < (B.toInt + 63) / 64 → fb' k = 0) := by
  refine Ctr.of pn_36 ?_
  intro p e s m below meth c s₁ hx hby hml hown hnm hret hlk hZ X0 e0
  refine Goes.cast (ef_rm_eb m a) ?_
  obtain ⟨E, F_bound, F_bits, F_slots, F_shift, F_dense, F_bitmapFits, F_overflowed, F_count, F_maxSlots, AB, AS, d1, d2, d3, g1, g2, g3, g4, b1, b2⟩ := H
  obtain ⟨w, hwn, hwe⟩ := own_wdn B B0 B1
  have hw2 : (w.toInt32).toInt = (w : Int) := len_toInt (by omega)
  have hnb : (nb.toInt32).toInt = (nb : Int) := len_toInt (by omega)
  refine g_aload_n (i := 0) X0 hx (hb hby d6_0) (by rfl) rfl rfl ?_
  refine g_callP X0 hx hZ hown (wd hw 31 rfl) (wd hw 9 rfl) (wd hw 33 rfl) (wd hw 32 rfl) (wd hw 10 rfl) (wd hw 34 rfl) (by decide) e0 a E (rm_words l Z a0 hw a B h0 F_bound) (by rw [hml]; rfl) [] [] rfl (lenOf pd_37 rfl) rfl (by show 0 + (1 + 11) + 0 ≤ _; decide) (by decide) (by decide) (by decide) (hb hby d6_1) rfl ?_
  intro T37 v37 L37 X37 hQ37
  obtain ⟨rfl, rfl, e37⟩ := hQ37
  have N37 := Fr.app (Fr.nil n0) (Fr.nil n0)
  show Goes p e below _ T37 (mkF m 4 #[.val (.ref a), .unset] [(.long (XT.ushrL (B + (63 : Int64)) (6 : Int32)))])
  refine g_l2i X37 hx (hb hby d6_4) rfl ?_
  rw [hwe]
  refine g_istore_n (i := 1) X37 hx #[.val (.ref a), .val (.int w.toInt32)] (hb hby d6_5) rfl rfl ?_
  refine g_aload_n (i := 0) X37 hx (hb hby d6_6) (by rfl) rfl rfl ?_
  refine g_getF X37 hx hZ hown (wd hw 18 rfl) e37 F_bits (hb hby d6_7) rfl ?_
  intro T38 X38 e38
  refine g_arraylengthJ X38 hx hZ e38 AB (z := nb.toInt32) rfl (hb hby d6_10) rfl ?_
  refine g_iload_n (i := 1) X38 hx (hb hby d6_11) (by rfl) rfl ?_
  refine g_icmp_ge X38 hx (hb hby d6_12) (by decide) (pt := 25) (by decide) rfl (fun q => ?_) (fun q => ?_)
  · rw [own_ltI] at q
    refine g_aload_n (i := 0) X38 hx (hb hby d6_25) (by rfl) rfl rfl ?_
    refine g_getF X38 hx hZ hown (wd hw 18 rfl) e38 F_bits (hb hby d6_26) rfl ?_
    intro T39 X39 e39
    refine g_iconst (v := (0 : Int32)) X39 hx (hb hby d6_29) (by decide) rfl ?_
    refine g_iload_n (i := 1) X39 hx (hb hby d6_30) (by rfl) rfl ?_
    refine g_lconst (v := (0 : Int64)) X39 hx (hb hby d6_31) (by decide) rfl ?_
    refine g_callS X39 hx hZ hown (wd hw 71 rfl) (wd hw 72 rfl) (wd hw 73 rfl) (wd hw 74 rfl) (by decide) e39 (rm_fill4 l Z a0 hw bb nb w n0 fb h0 b1 (by omega) g2 AB) (by rw [hml]; rfl) [(.ref bb), (.int (0 : Int32)), (.int w.toInt32), (.long (0 : Int64))] [] rfl (lenOf pd_40 rfl) rfl (by show 0 + (6 + 11) + 14 ≤ _; decide) (by decide) (by decide) (by decide) (hb hby d6_32) rfl ?_
    intro T40 v40 L40 X40 hQ40
    obtain ⟨rfl, N40, K40, A40⟩ := hQ40
    have N40 := Fr.app N37 N40
    show Goes p e below _ T40 (mkF m 35 #[.val (.ref a), .val (.int w.toInt32)] [])
    have G40_bound := F_bound.keep K40 (by rw [List.mem_singleton]; exact Ne.symm d2)
    have G40_bits := F_bits.keep K40 (by rw [List.mem_singleton]; exact Ne.symm d2)
    have G40_slots := F_slots.keep K40 (by rw [List.mem_singleton]; exact Ne.symm d2)
    have G40_shift := F_shift.keep K40 (by rw [List.mem_singleton]; exact Ne.symm d2)
    have G40_dense := F_dense.keep K40 (by rw [List.mem_singleton]; exact Ne.symm d2)
    have G40_bitmapFits := F_bitmapFits.keep K40 (by rw [List.mem_singleton]; exact Ne.symm d2)
    have G40_overflowed := F_overflowed.keep K40 (by rw [List.mem_singleton]; exact Ne.symm d2)
    have G40_count := F_count.keep K40 (by rw [List.mem_singleton]; exact Ne.symm d2)
    have G40_maxSlots := F_maxSlots.keep K40 (by rw [List.mem_singleton]; exact Ne.symm d2)
    have GE40 := E.keep K40
    have GAS40 := AS.keep K40 (by rw [List.mem_singleton]; exact Ne.symm d1)
    have Gz40 : n0 ≤ T40.heap.size := Nat.le_trans g4 K40.1
    exact g_ret X40 hx hlk hret rfl (by decide) (by decide) (hb hby d6_35) ⟨rfl, N40, bb, nb, _, ⟨GE40, G40_bound, G40_bits, G40_slots, G40_shift, G40_dense, G40_bitmapFits, G40_overflowed, G40_count, G40_maxSlots, A40, GAS40, d1, d2, d3, g1, g2, g3, Gz40, b1, b2⟩, by omega, fun k hk => if_pos (by omega)⟩
  · rw [own_ltI] at q
    refine g_aload_n (i := 0) X38 hx (hb hby d6_15) (by rfl) rfl rfl ?_
    refine g_iload_n (i := 1) X38 hx (hb hby d6_16) (by rfl) rfl ?_
    refine g_newarr X38 hx hZ (ty := .long) rfl (wd hw 17 rfl) e38 (hb hby d6_17) rfl (own_nneg (by omega)) 4096 (by rw [own_tnc]; omega) (by decide) (by decide) (by decide) ?_
    intro T41 h41 cA41 a41 X41 e41 g41 Ex41 A41
    have An := ArJ.new A41 0 rfl
    have dn1 : a41 ≠ sb := fun q => absurd AS.lt (by rw [← q, g41]; exact Nat.lt_irrefl _)
    have dn2 : a41 ≠ a := fun q => absurd E.lt (by rw [← q, g41]; exact Nat.lt_irrefl _)
    have F41_bound := F_bound.ext Ex41
    have F41_bits := F_bits.ext Ex41
    have F41_slots := F_slots.ext Ex41
    have F41_shift := F_shift.ext Ex41
    have F41_dense := F_dense.ext Ex41
    have F41_bitmapFits := F_bitmapFits.ext Ex41
    have F41_overflowed := F_overflowed.ext Ex41
    have F41_count := F_count.ext Ex41
    have F41_maxSlots := F_maxSlots.ext Ex41
    have EE41 := E.ext Ex41
    have AB41 := AB.ext Ex41
    have AS41 := AS.ext Ex41
    have gn41 : n0 ≤ a41 := by rw [g41]; exact g4
    have Zh41 : n0 ≤ h41.size := Nat.le_trans g4 Ex41.1
    refine g_putF X41 hx hZ hown (wd hw 18 rfl) e41 F41_bits EE41 (Or.inl (wd hw 19 rfl)) (wd hw 9 rfl) (ty := (.array .long)) (by decide) rfl rfl (hb hby d6_19) rfl ?_
    intro T42 h42 X42 e42 W42
    have N42 := Fr.snoc X42 N37 g1
    have E42_ := EE41.wr W42
    have F42_bound := F41_bound.other W42 (Or.inr (slot_ne (C := "com/example/nav_by_schema/navbyschema/regex/StateSet") (Or.inl (wd hw 28 rfl)) (Or.inl (wd hw 19 rfl)) (by decide) (t := .long) (t' := (.array .long)) (by decide) (by decide)))
    have F42_bits := F41_bits.same W42
    have F42_slots := F41_slots.other W42 (Or.inr (slot_ne (C := "com/example/nav_by_schema/navbyschema/regex/StateSet") (Or.inl (wd hw 21 rfl)) (Or.inl (wd hw 19 rfl)) (by decide) (t := (.array .long)) (t' := (.array .long)) (by decide) (by decide)))
    have F42_shift := F41_shift.other W42 (Or.inr (slot_ne (C := "com/example/nav_by_schema/navbyschema/regex/StateSet") (Or.inl (wd hw 100 rfl)) (Or.inl (wd hw 19 rfl)) (by decide) (t := .int) (t' := (.array .long)) (by decide) (by decide)))
    have F42_dense := F41_dense.other W42 (Or.inr (slot_ne (C := "com/example/nav_by_schema/navbyschema/regex/StateSet") (Or.inl (wd hw 38 rfl)) (Or.inl (wd hw 19 rfl)) (by decide) (t := .boolean) (t' := (.array .long)) (by decide) (by decide)))
    have F42_bitmapFits := F41_bitmapFits.other W42 (Or.inr (slot_ne (C := "com/example/nav_by_schema/navbyschema/regex/StateSet") (Or.inl (wd hw 30 rfl)) (Or.inl (wd hw 19 rfl)) (by decide) (t := .boolean) (t' := (.array .long)) (by decide) (by decide)))
    have F42_overflowed := F41_overflowed.other W42 (Or.inr (slot_ne (C := "com/example/nav_by_schema/navbyschema/regex/StateSet") (Or.inl (wd hw 40 rfl)) (Or.inl (wd hw 19 rfl)) (by decide) (t := .boolean) (t' := (.array .long)) (by decide) (by decide)))
    have F42_count := F41_count.other W42 (Or.inr (slot_ne (C := "com/example/nav_by_schema/navbyschema/regex/StateSet") (Or.inl (wd hw 42 rfl)) (Or.inl (wd hw 19 rfl)) (by decide) (t := .int) (t' := (.array .long)) (by decide) (by decide)))
    have F42_maxSlots := F41_maxSlots.other W42 (Or.inr (slot_ne (C := "com/example/nav_by_schema/navbyschema/regex/StateSet") (Or.inl (wd hw 93 rfl)) (Or.inl (wd hw 19 rfl)) (by decide) (t := .int) (t' := (.array .long)) (by decide) (by decide)))
    have AB42 := An.other W42 dn2
    have AS42 := AS41.other W42 d3
    have Zh42 : n0 ≤ h42.size := by rw [W42.size]; exact Zh41
    refine g_goto X42 hx (hb hby d6_22) (by decide) (by decide) (pc' := 35) ?_
    exact g_ret X42 hx hlk hret e42 (by decide) (by decide) (hb hby d6_35) ⟨rfl, N42, a41, _, _, ⟨E42_, F42_bound, F42_bits, F42_slots, F42_shift, F42_dense, F42_bitmapFits, F42_overflowed, F42_count, F42_maxSlots, AB42, AS42, dn1, dn2, d3, g1, gn41, g3, Zh42, (by rw [own_tnc]; omega), b2⟩, by rw [own_tnc]; omega, fun _ _ => rfl⟩
theorem ef_rm_clear (m : MethodId) (x0 : Addr) (x1 : Int64) (x2 : Int64)  : entryFrame m #[(.ref x0), (.long x1), (.long x2)] 5 = mkF m 0 #[.val (.ref x0), .val (.long x1), .second, .val (.long x2), .second] [] := by first | (simp [entryFrame, mkF, argsToLocals, Value.category]; done) | rfl
theorem pn_43 : plainFor (⟨"com/example/nav_by_schema/navbyschema/regex/StateSet", "clear", "(JJ)V"⟩ : MethodName) = true := by first | exact plainFor_of_name (by first | (simp [plainName, overriddenIn]; done) | decide +kernel) | decide +kernel
theorem pd_51 : parseMethodDescriptor "(JJ)J" = some ⟨[.long, .long], some .long⟩ := by decide +kernel
theorem pd_58 : parseMethodDescriptor "(J)I" = some ⟨[.long], some .int⟩ := by decide +kernel
theorem pd_63 : parseMethodDescriptor "([JJ)V" = some ⟨[(.array .long), .long], none⟩ := by decide +kernel
theorem pd_104 : parseMethodDescriptor "()V" = some ⟨[], none⟩ := by decide +kernel
set_option maxRecDepth 65536 in
set_option maxHeartbeats 40000000 in
theorem rm_clear (l : Launch) (Z : State) (a0 : Array Value) (hw : ∀ d ∈ tables_1, d.before a0 Z = true) (a : Addr) (n0 : Nat) (B : Int64) (bb sb : Addr) (nb : Nat) (fb : Nat → Int64) (ns : Nat) (fs : Nat → Int64) (sh de bf ov ct mx : Int32) (h0 : Heap) (D bu : Int64) (H : own_Ob Z h0 a n0 B bb sb nb fb ns fs sh de bf ov ct mx) (D0 : 0 < D.toInt) (D1 : D.toInt ≤ 4611686018427387904) :
    Ctr l Z (⟨"com/example/nav_by_schema/navbyschema/regex/StateSet", "clear", "(JJ)V"⟩ : MethodName) prog_26_method_2_code 5 (Option.none : Option FieldType) [] ({ frames := 3, cells := 5, slots := 4352, locals := 44 } : Room) ({ frames := 3, cells := 5, slots := 4352, locals := 44 } : Room).cells ({ frames := 3, cells := 5, slots := 4352, locals := 44 } : Room).slots #[(.ref a), (.long D), (.long bu)] h0 (fun u h L => u = none ∧ Fr n0 L ∧ own_SS Z h a n0 D (fun _ => False) 0) := by
  refine Ctr.of pn_43 ?_
  intro p e s m below meth c s₁ hx hby hml hown hnm hret hlk hZ X0 e0
  refine Goes.cast (ef_rm_clear m a D bu) ?_
  obtain ⟨E, F_bound, F_bits, F_slots, F_shift, F_dense, F_bitmapFits, F_overflowed, F_count, F_maxSlots, AB, AS, d1, d2, d3, g1, g2, g3, g4, b1, b2⟩ := H
  refine g_aload_n (i := 0) X0 hx (hb hby d4_0) (by rfl) rfl rfl ?_
  refine g_lload_n (i := 1) X0 hx (hb hby d4_1) (by rfl) rfl ?_
  refine g_putF X0 hx hZ hown (wd hw 27 rfl) e0 F_bound E (Or.inl (wd hw 28 rfl)) (wd hw 9 rfl) (ty := .long) (by decide) rfl rfl (hb hby d4_2) rfl ?_
  intro T44 h44 X44 e44 W44
  have N44 := Fr.snoc X44 (Fr.nil n0) g1
  have E44_ := E.wr W44
  have F44_bound := F_bound.same W44
  have F44_bits := F_bits.other W44 (Or.inr (slot_ne (C := "com/example/nav_by_schema/navbyschema/regex/StateSet") (Or.inl (wd hw 19 rfl)) (Or.inl (wd hw 28 rfl)) (by decide) (t := (.array .long)) (t' := .long) (by decide) (by decide)))
  have F44_slots := F_slots.other W44 (Or.inr (slot_ne (C := "com/example/nav_by_schema/navbyschema/regex/StateSet") (Or.inl (wd hw 21 rfl)) (Or.inl (wd hw 28 rfl)) (by decide) (t := (.array .long)) (t' := .long) (by decide) (by decide)))
  have F44_shift := F_shift.other W44 (Or.inr (slot_ne (C := "com/example/nav_by_schema/navbyschema/regex/StateSet") (Or.inl (wd hw 100 rfl)) (Or.inl (wd hw 28 rfl)) (by decide) (t := .int) (t' := .long) (by decide) (by decide)))
  have F44_dense := F_dense.other W44 (Or.inr (slot_ne (C := "com/example/nav_by_schema/navbyschema/regex/StateSet") (Or.inl (wd hw 38 rfl)) (Or.inl (wd hw 28 rfl)) (by decide) (t := .boolean) (t' := .long) (by decide) (by decide)))
  have F44_bitmapFits := F_bitmapFits.other W44 (Or.inr (slot_ne (C := "com/example/nav_by_schema/navbyschema/regex/StateSet") (Or.inl (wd hw 30 rfl)) (Or.inl (wd hw 28 rfl)) (by decide) (t := .boolean) (t' := .long) (by decide) (by decide)))
  have F44_overflowed := F_overflowed.other W44 (Or.inr (slot_ne (C := "com/example/nav_by_schema/navbyschema/regex/StateSet") (Or.inl (wd hw 40 rfl)) (Or.inl (wd hw 28 rfl)) (by decide) (t := .boolean) (t' := .long) (by decide) (by decide)))
  have F44_count := F_count.other W44 (Or.inr (slot_ne (C := "com/example/nav_by_schema/navbyschema/regex/StateSet") (Or.inl (wd hw 42 rfl)) (Or.inl (wd hw 28 rfl)) (by decide) (t := .int) (t' := .long) (by decide) (by decide)))
  have F44_maxSlots := F_maxSlots.other W44 (Or.inr (slot_ne (C := "com/example/nav_by_schema/navbyschema/regex/StateSet") (Or.inl (wd hw 93 rfl)) (Or.inl (wd hw 28 rfl)) (by decide) (t := .int) (t' := .long) (by decide) (by decide)))
  have AB44 := AB.other W44 d2
  have AS44 := AS.other W44 d3
  have Zh44 : n0 ≤ h44.size := by rw [W44.size]; exact g4
  refine g_aload_n (i := 0) X44 hx (hb hby d4_5) (by rfl) rfl rfl ?_
  refine g_lload_n (i := 1) X44 hx (hb hby d4_6) (by rfl) rfl ?_
  refine g_lload_n (i := 3) X44 hx (hb hby d4_7) (by rfl) rfl ?_
  refine g_lcmp X44 hx (hb hby d4_8) rfl ?_
  refine g_if_gt X44 hx (hb hby d4_9) (by decide) (pt := 16) (by decide) rfl (fun qb => ?_) (fun qb => ?_)
  · refine g_iconst (v := (0 : Int32)) X44 hx (hb hby d4_16) (by decide) rfl ?_
    refine g_putF X44 hx hZ hown (wd hw 29 rfl) e44 F44_bitmapFits E44_ (Or.inl (wd hw 30 rfl)) (wd hw 9 rfl) (ty := .boolean) (by decide) rfl rfl (hb hby d4_17) rfl ?_
    intro T45 h45 X45 e45 W45
    have N45 := Fr.snoc X45 N44 g1
    have E45_ := E44_.wr W45
    have F45_bound := F44_bound.other W45 (Or.inr (slot_ne (C := "com/example/nav_by_schema/navbyschema/regex/StateSet") (Or.inl (wd hw 28 rfl)) (Or.inl (wd hw 30 rfl)) (by decide) (t := .long) (t' := .boolean) (by decide) (by decide)))
    have F45_bits := F44_bits.other W45 (Or.inr (slot_ne (C := "com/example/nav_by_schema/navbyschema/regex/StateSet") (Or.inl (wd hw 19 rfl)) (Or.inl (wd hw 30 rfl)) (by decide) (t := (.array .long)) (t' := .boolean) (by decide) (by decide)))
    have F45_slots := F44_slots.other W45 (Or.inr (slot_ne (C := "com/example/nav_by_schema/navbyschema/regex/StateSet") (Or.inl (wd hw 21 rfl)) (Or.inl (wd hw 30 rfl)) (by decide) (t := (.array .long)) (t' := .boolean) (by decide) (by decide)))
    have F45_shift := F44_shift.other W45 (Or.inr (slot_ne (C := "com/example/nav_by_schema/navbyschema/regex/StateSet") (Or.inl (wd hw 100 rfl)) (Or.inl (wd hw 30 rfl)) (by decide) (t := .int) (t' := .boolean) (by decide) (by decide)))
    have F45_dense := F44_dense.other W45 (Or.inr (slot_ne (C := "com/example/nav_by_schema/navbyschema/regex/StateSet") (Or.inl (wd hw 38 rfl)) (Or.inl (wd hw 30 rfl)) (by decide) (t := .boolean) (t' := .boolean) (by decide) (by decide)))
    have F45_bitmapFits := F44_bitmapFits.same W45
    have F45_overflowed := F44_overflowed.other W45 (Or.inr (slot_ne (C := "com/example/nav_by_schema/navbyschema/regex/StateSet") (Or.inl (wd hw 40 rfl)) (Or.inl (wd hw 30 rfl)) (by decide) (t := .boolean) (t' := .boolean) (by decide) (by decide)))
    have F45_count := F44_count.other W45 (Or.inr (slot_ne (C := "com/example/nav_by_schema/navbyschema/regex/StateSet") (Or.inl (wd hw 42 rfl)) (Or.inl (wd hw 30 rfl)) (by decide) (t := .int) (t' := .boolean) (by decide) (by decide)))
    have F45_maxSlots := F44_maxSlots.other W45 (Or.inr (slot_ne (C := "com/example/nav_by_schema/navbyschema/regex/StateSet") (Or.inl (wd hw 93 rfl)) (Or.inl (wd hw 30 rfl)) (by decide) (t := .int) (t' := .boolean) (by decide) (by decide)))
    have AB45 := AB44.other W45 d2
    have AS45 := AS44.other W45 d3
    have Zh45 : n0 ≤ h45.size := by rw [W45.size]; exact Zh44
    refine g_aload_n (i := 0) X45 hx (hb hby d4_20) (by rfl) rfl rfl ?_
    refine g_aload_n (i := 0) X45 hx (hb hby d4_21) (by rfl) rfl rfl ?_
    refine g_getF X45 hx hZ hown (wd hw 29 rfl) e45 F45_bitmapFits (hb hby d4_22) rfl ?_
    intro T46 X46 e46
    refine g_if_eq X46 hx (hb hby d4_25) (by decide) (pt := 43) (by decide) rfl (fun _ => ?_) (fun q_ => absurd (by decide) q_)
    refine g_iconst (v := (0 : Int32)) X46 hx (hb hby d4_43) (by decide) rfl ?_
    refine g_putF X46 hx hZ hown (wd hw 37 rfl) e46 F45_dense E45_ (Or.inl (wd hw 38 rfl)) (wd hw 9 rfl) (ty := .boolean) (by decide) rfl rfl (hb hby d4_44) rfl ?_
    intro T47 h47 X47 e47 W47
    have N47 := Fr.snoc X47 N45 g1
    have E47_ := E45_.wr W47
    have F47_bound := F45_bound.other W47 (Or.inr (slot_ne (C := "com/example/nav_by_schema/navbyschema/regex/StateSet") (Or.inl (wd hw 28 rfl)) (Or.inl (wd hw 38 rfl)) (by decide) (t := .long) (t' := .boolean) (by decide) (by decide)))
    have F47_bits := F45_bits.other W47 (Or.inr (slot_ne (C := "com/example/nav_by_schema/navbyschema/regex/StateSet") (Or.inl (wd hw 19 rfl)) (Or.inl (wd hw 38 rfl)) (by decide) (t := (.array .long)) (t' := .boolean) (by decide) (by decide)))
    have F47_slots := F45_slots.other W47 (Or.inr (slot_ne (C := "com/example/nav_by_schema/navbyschema/regex/StateSet") (Or.inl (wd hw 21 rfl)) (Or.inl (wd hw 38 rfl)) (by decide) (t := (.array .long)) (t' := .boolean) (by decide) (by decide)))
    have F47_shift := F45_shift.other W47 (Or.inr (slot_ne (C := "com/example/nav_by_schema/navbyschema/regex/StateSet") (Or.inl (wd hw 100 rfl)) (Or.inl (wd hw 38 rfl)) (by decide) (t := .int) (t' := .boolean) (by decide) (by decide)))
    have F47_dense := F45_dense.same W47
    have F47_bitmapFits := F45_bitmapFits.other W47 (Or.inr (slot_ne (C := "com/example/nav_by_schema/navbyschema/regex/StateSet") (Or.inl (wd hw 30 rfl)) (Or.inl (wd hw 38 rfl)) (by decide) (t := .boolean) (t' := .boolean) (by decide) (by decide)))
    have F47_overflowed := F45_overflowed.other W47 (Or.inr (slot_ne (C := "com/example/nav_by_schema/navbyschema/regex/StateSet") (Or.inl (wd hw 40 rfl)) (Or.inl (wd hw 38 rfl)) (by decide) (t := .boolean) (t' := .boolean) (by decide) (by decide)))
    have F47_count := F45_count.other W47 (Or.inr (slot_ne (C := "com/example/nav_by_schema/navbyschema/regex/StateSet") (Or.inl (wd hw 42 rfl)) (Or.inl (wd hw 38 rfl)) (by decide) (t := .int) (t' := .boolean) (by decide) (by decide)))
    have F47_maxSlots := F45_maxSlots.other W47 (Or.inr (slot_ne (C := "com/example/nav_by_schema/navbyschema/regex/StateSet") (Or.inl (wd hw 93 rfl)) (Or.inl (wd hw 38 rfl)) (by decide) (t := .int) (t' := .boolean) (by decide) (by decide)))
    have AB47 := AB45.other W47 d2
    have AS47 := AS45.other W47 d3
    have Zh47 : n0 ≤ h47.size := by rw [W47.size]; exact Zh45
    refine g_aload_n (i := 0) X47 hx (hb hby d4_47) (by rfl) rfl rfl ?_
    refine g_iconst (v := (0 : Int32)) X47 hx (hb hby d4_48) (by decide) rfl ?_
    refine g_putF X47 hx hZ hown (wd hw 39 rfl) e47 F47_overflowed E47_ (Or.inl (wd hw 40 rfl)) (wd hw 9 rfl) (ty := .boolean) (by decide) rfl rfl (hb hby d4_49) rfl ?_
    intro T48 h48 X48 e48 W48
    have N48 := Fr.snoc X48 N47 g1
    have E48_ := E47_.wr W48
    have F48_bound := F47_bound.other W48 (Or.inr (slot_ne (C := "com/example/nav_by_schema/navbyschema/regex/StateSet") (Or.inl (wd hw 28 rfl)) (Or.inl (wd hw 40 rfl)) (by decide) (t := .long) (t' := .boolean) (by decide) (by decide)))
    have F48_bits := F47_bits.other W48 (Or.inr (slot_ne (C := "com/example/nav_by_schema/navbyschema/regex/StateSet") (Or.inl (wd hw 19 rfl)) (Or.inl (wd hw 40 rfl)) (by decide) (t := (.array .long)) (t' := .boolean) (by decide) (by decide)))
    have F48_slots := F47_slots.other W48 (Or.inr (slot_ne (C := "com/example/nav_by_schema/navbyschema/regex/StateSet") (Or.inl (wd hw 21 rfl)) (Or.inl (wd hw 40 rfl)) (by decide) (t := (.array .long)) (t' := .boolean) (by decide) (by decide)))
    have F48_shift := F47_shift.other W48 (Or.inr (slot_ne (C := "com/example/nav_by_schema/navbyschema/regex/StateSet") (Or.inl (wd hw 100 rfl)) (Or.inl (wd hw 40 rfl)) (by decide) (t := .int) (t' := .boolean) (by decide) (by decide)))
    have F48_dense := F47_dense.other W48 (Or.inr (slot_ne (C := "com/example/nav_by_schema/navbyschema/regex/StateSet") (Or.inl (wd hw 38 rfl)) (Or.inl (wd hw 40 rfl)) (by decide) (t := .boolean) (t' := .boolean) (by decide) (by decide)))
    have F48_bitmapFits := F47_bitmapFits.other W48 (Or.inr (slot_ne (C := "com/example/nav_by_schema/navbyschema/regex/StateSet") (Or.inl (wd hw 30 rfl)) (Or.inl (wd hw 40 rfl)) (by decide) (t := .boolean) (t' := .boolean) (by decide) (by decide)))
    have F48_overflowed := F47_overflowed.same W48
    have F48_count := F47_count.other W48 (Or.inr (slot_ne (C := "com/example/nav_by_schema/navbyschema/regex/StateSet") (Or.inl (wd hw 42 rfl)) (Or.inl (wd hw 40 rfl)) (by decide) (t := .int) (t' := .boolean) (by decide) (by decide)))
    have F48_maxSlots := F47_maxSlots.other W48 (Or.inr (slot_ne (C := "com/example/nav_by_schema/navbyschema/regex/StateSet") (Or.inl (wd hw 93 rfl)) (Or.inl (wd hw 40 rfl)) (by decide) (t := .int) (t' := .boolean) (by decide) (by decide)))
    have AB48 := AB47.other W48 d2
    have AS48 := AS47.other W48 d3
    have Zh48 : n0 ≤ h48.size := by rw [W48.size]; exact Zh47
    refine g_aload_n (i := 0) X48 hx (hb hby d4_52) (by rfl) rfl rfl ?_
    refine g_iconst (v := (0 : Int32)) X48 hx (hb hby d4_53) (by decide) rfl ?_
    refine g_putF X48 hx hZ hown (wd hw 41 rfl) e48 F48_count E48_ (Or.inl (wd hw 42 rfl)) (wd hw 9 rfl) (ty := .int) (by decide) rfl rfl (hb hby d4_54) rfl ?_
    intro T49 h49 X49 e49 W49
    have N49 := Fr.snoc X49 N48 g1
    have E49_ := E48_.wr W49
    have F49_bound := F48_bound.other W49 (Or.inr (slot_ne (C := "com/example/nav_by_schema/navbyschema/regex/StateSet") (Or.inl (wd hw 28 rfl)) (Or.inl (wd hw 42 rfl)) (by decide) (t := .long) (t' := .int) (by decide) (by decide)))
    have F49_bits := F48_bits.other W49 (Or.inr (slot_ne (C := "com/example/nav_by_schema/navbyschema/regex/StateSet") (Or.inl (wd hw 19 rfl)) (Or.inl (wd hw 42 rfl)) (by decide) (t := (.array .long)) (t' := .int) (by decide) (by decide)))
    have F49_slots := F48_slots.other W49 (Or.inr (slot_ne (C := "com/example/nav_by_schema/navbyschema/regex/StateSet") (Or.inl (wd hw 21 rfl)) (Or.inl (wd hw 42 rfl)) (by decide) (t := (.array .long)) (t' := .int) (by decide) (by decide)))
    have F49_shift := F48_shift.other W49 (Or.inr (slot_ne (C := "com/example/nav_by_schema/navbyschema/regex/StateSet") (Or.inl (wd hw 100 rfl)) (Or.inl (wd hw 42 rfl)) (by decide) (t := .int) (t' := .int) (by decide) (by decide)))
    have F49_dense := F48_dense.other W49 (Or.inr (slot_ne (C := "com/example/nav_by_schema/navbyschema/regex/StateSet") (Or.inl (wd hw 38 rfl)) (Or.inl (wd hw 42 rfl)) (by decide) (t := .boolean) (t' := .int) (by decide) (by decide)))
    have F49_bitmapFits := F48_bitmapFits.other W49 (Or.inr (slot_ne (C := "com/example/nav_by_schema/navbyschema/regex/StateSet") (Or.inl (wd hw 30 rfl)) (Or.inl (wd hw 42 rfl)) (by decide) (t := .boolean) (t' := .int) (by decide) (by decide)))
    have F49_overflowed := F48_overflowed.other W49 (Or.inr (slot_ne (C := "com/example/nav_by_schema/navbyschema/regex/StateSet") (Or.inl (wd hw 40 rfl)) (Or.inl (wd hw 42 rfl)) (by decide) (t := .boolean) (t' := .int) (by decide) (by decide)))
    have F49_count := F48_count.same W49
    have F49_maxSlots := F48_maxSlots.other W49 (Or.inr (slot_ne (C := "com/example/nav_by_schema/navbyschema/regex/StateSet") (Or.inl (wd hw 93 rfl)) (Or.inl (wd hw 42 rfl)) (by decide) (t := .int) (t' := .int) (by decide) (by decide)))
    have AB49 := AB48.other W49 d2
    have AS49 := AS48.other W49 d3
    have Zh49 : n0 ≤ h49.size := by rw [W49.size]; exact Zh48
    refine g_aload_n (i := 0) X49 hx (hb hby d4_57) (by rfl) rfl rfl ?_
    refine g_getF X49 hx hZ hown (wd hw 37 rfl) e49 F49_dense (hb hby d4_58) rfl ?_
    intro T50 X50 e50
    refine g_if_eq X50 hx (hb hby d4_61) (by decide) (pt := 71) (by decide) rfl (fun _ => ?_) (fun q_ => absurd (by decide) q_)
    refine g_aload_n (i := 0) X50 hx (hb hby d4_71) (by rfl) rfl rfl ?_
    refine g_lload_n (i := 3) X50 hx (hb hby d4_72) (by rfl) rfl ?_
    refine g_bipush (v := (6 : Int32)) X50 hx (hb hby d4_73) (by decide) rfl ?_
    refine g_lushr X50 hx (hb hby d4_75) rfl ?_
    refine g_ldc2J X50 hx hZ hown (wd hw 79 rfl) (hb hby d4_76) rfl ?_
    refine g_callS X50 hx hZ hown (wd hw 80 rfl) (wd hw 81 rfl) (wd hw 5 rfl) (wd hw 82 rfl) (by decide) e50 (rm_min l Z a0 hw _ _ h49) (by rw [hml]; rfl) [(.long (XT.ushrL bu (6 : Int32))), (.long (1073741824 : Int64))] [(.ref a)] rfl (lenOf pd_51 rfl) rfl (by show 1 + (4 + 11) + 0 ≤ _; decide) (by decide) (by decide) (by decide) (hb hby d4_79) rfl ?_
    intro T51 v51 L51 X51 hQ51
    obtain ⟨⟨r51, rfl⟩, rfl, e51⟩ := hQ51
    have N51 := Fr.app N49 (Fr.nil n0)
    show Goes p e below _ T51 (mkF m 82 #[.val (.ref a), .val (.long D), .second, .val (.long bu), .second] [(.long r51), (.ref a)])
    refine g_l2i X51 hx (hb hby d4_82) rfl ?_
    refine g_callS X51 hx hZ hown (wd hw 83 rfl) (wd hw 84 rfl) (wd hw 85 rfl) (wd hw 86 rfl) (by decide) e51 (rm_hob l Z a0 hw _ h49) (by rw [hml]; rfl) [(.int r51.toInt32)] [(.ref a)] rfl (lenOf pd_24 rfl) rfl (by show 1 + (1 + 11) + 15 ≤ _; decide) (by decide) (by decide) (by decide) (hb hby d4_83) rfl ?_
    intro T52 v52 L52 X52 hQ52
    obtain ⟨⟨r52, rfl⟩, rfl, e52⟩ := hQ52
    have N52 := Fr.app N51 (Fr.nil n0)
    show Goes p e below _ T52 (mkF m 86 #[.val (.ref a), .val (.long D), .second, .val (.long bu), .second] [(.int r52), (.ref a)])
    refine g_putF X52 hx hZ hown (wd hw 92 rfl) e52 F49_maxSlots E49_ (Or.inl (wd hw 93 rfl)) (wd hw 9 rfl) (ty := .int) (by decide) rfl rfl (hb hby d4_86) rfl ?_
    intro T53 h53 X53 e53 W53
    have N53 := Fr.snoc X53 N52 g1
    have E53_ := E49_.wr W53
    have F53_bound := F49_bound.other W53 (Or.inr (slot_ne (C := "com/example/nav_by_schema/navbyschema/regex/StateSet") (Or.inl (wd hw 28 rfl)) (Or.inl (wd hw 93 rfl)) (by decide) (t := .long) (t' := .int) (by decide) (by decide)))
    have F53_bits := F49_bits.other W53 (Or.inr (slot_ne (C := "com/example/nav_by_schema/navbyschema/regex/StateSet") (Or.inl (wd hw 19 rfl)) (Or.inl (wd hw 93 rfl)) (by decide) (t := (.array .long)) (t' := .int) (by decide) (by decide)))
    have F53_slots := F49_slots.other W53 (Or.inr (slot_ne (C := "com/example/nav_by_schema/navbyschema/regex/StateSet") (Or.inl (wd hw 21 rfl)) (Or.inl (wd hw 93 rfl)) (by decide) (t := (.array .long)) (t' := .int) (by decide) (by decide)))
    have F53_shift := F49_shift.other W53 (Or.inr (slot_ne (C := "com/example/nav_by_schema/navbyschema/regex/StateSet") (Or.inl (wd hw 100 rfl)) (Or.inl (wd hw 93 rfl)) (by decide) (t := .int) (t' := .int) (by decide) (by decide)))
    have F53_dense := F49_dense.other W53 (Or.inr (slot_ne (C := "com/example/nav_by_schema/navbyschema/regex/StateSet") (Or.inl (wd hw 38 rfl)) (Or.inl (wd hw 93 rfl)) (by decide) (t := .boolean) (t' := .int) (by decide) (by decide)))
    have F53_bitmapFits := F49_bitmapFits.other W53 (Or.inr (slot_ne (C := "com/example/nav_by_schema/navbyschema/regex/StateSet") (Or.inl (wd hw 30 rfl)) (Or.inl (wd hw 93 rfl)) (by decide) (t := .boolean) (t' := .int) (by decide) (by decide)))
    have F53_overflowed := F49_overflowed.other W53 (Or.inr (slot_ne (C := "com/example/nav_by_schema/navbyschema/regex/StateSet") (Or.inl (wd hw 40 rfl)) (Or.inl (wd hw 93 rfl)) (by decide) (t := .boolean) (t' := .int) (by decide) (by decide)))
    have F53_count := F49_count.other W53 (Or.inr (slot_ne (C := "com/example/nav_by_schema/navbyschema/regex/StateSet") (Or.inl (wd hw 42 rfl)) (Or.inl (wd hw 93 rfl)) (by decide) (t := .int) (t' := .int) (by decide) (by decide)))
    have F53_maxSlots := F49_maxSlots.same W53
    have AB53 := AB49.other W53 d2
    have AS53 := AS49.other W53 d3
    have Zh53 : n0 ≤ h53.size := by rw [W53.size]; exact Zh49
    refine g_aload_n (i := 0) X53 hx (hb hby d4_89) (by rfl) rfl rfl ?_
    refine g_getF X53 hx hZ hown (wd hw 20 rfl) e53 F53_slots (hb hby d4_90) rfl ?_
    intro T54 X54 e54
    rcases b2 with b2 | b2
    · subst b2
      refine g_arraylengthJ X54 hx hZ e54 AS53 (z := (0 : Int32)) (show _ = (0 : Int32) by decide) (hb hby d4_93) rfl ?_
      refine g_bipush (v := (64 : Int32)) X54 hx (hb hby d4_94) (by decide) rfl ?_
      refine g_icmp_lt X54 hx (hb hby d4_96) (by decide) (pt := 111) (by decide) rfl (fun _ => ?_) (fun q_ => absurd (by decide) q_)
      refine g_aload_n (i := 0) X54 hx (hb hby d4_111) (by rfl) rfl rfl ?_
      refine g_bipush (v := (64 : Int32)) X54 hx (hb hby d4_112) (by decide) rfl ?_
      refine g_newarr X54 hx hZ (ty := .long) rfl (wd hw 17 rfl) e54 (hb hby d4_114) rfl (by decide) 64 (by decide) (by decide) (by decide) (by decide) ?_
      intro T55 h55 cA55 a55 X55 e55 g55 Ex55 A55
      have An : ArJ Z h55 a55 .long 64 (fun _ => 0) := ArJ.new A55 0 rfl
      have dn1 : bb ≠ a55 := fun q => absurd AB53.lt (by rw [q, g55]; exact Nat.lt_irrefl _)
      have dn3 : a55 ≠ a := fun q => absurd E53_.lt (by rw [← q, g55]; exact Nat.lt_irrefl _)
      have F55_bound := F53_bound.ext Ex55
      have F55_bits := F53_bits.ext Ex55
      have F55_slots := F53_slots.ext Ex55
      have F55_shift := F53_shift.ext Ex55
      have F55_dense := F53_dense.ext Ex55
      have F55_bitmapFits := F53_bitmapFits.ext Ex55
      have F55_overflowed := F53_overflowed.ext Ex55
      have F55_count := F53_count.ext Ex55
      have F55_maxSlots := F53_maxSlots.ext Ex55
      have EE55 := E53_.ext Ex55
      have AB55 := AB53.ext Ex55
      have AS55 := AS53.ext Ex55
      have gn55 : n0 ≤ a55 := by rw [g55]; exact Zh53
      have Zh55 : n0 ≤ h55.size := Nat.le_trans Zh53 Ex55.1
      refine g_putF X55 hx hZ hown (wd hw 20 rfl) e55 F55_slots EE55 (Or.inl (wd hw 21 rfl)) (wd hw 9 rfl) (ty := (.array .long)) (by decide) rfl rfl (hb hby d4_116) rfl ?_
      intro T56 h56 X56 e56 W56
      have N56 := Fr.snoc X56 N53 g1
      have E56_ := EE55.wr W56
      have F56_bound := F55_bound.other W56 (Or.inr (slot_ne (C := "com/example/nav_by_schema/navbyschema/regex/StateSet") (Or.inl (wd hw 28 rfl)) (Or.inl (wd hw 21 rfl)) (by decide) (t := .long) (t' := (.array .long)) (by decide) (by decide)))
      have F56_bits := F55_bits.other W56 (Or.inr (slot_ne (C := "com/example/nav_by_schema/navbyschema/regex/StateSet") (Or.inl (wd hw 19 rfl)) (Or.inl (wd hw 21 rfl)) (by decide) (t := (.array .long)) (t' := (.array .long)) (by decide) (by decide)))
      have F56_slots := F55_slots.same W56
      have F56_shift := F55_shift.other W56 (Or.inr (slot_ne (C := "com/example/nav_by_schema/navbyschema/regex/StateSet") (Or.inl (wd hw 100 rfl)) (Or.inl (wd hw 21 rfl)) (by decide) (t := .int) (t' := (.array .long)) (by decide) (by decide)))
      have F56_dense := F55_dense.other W56 (Or.inr (slot_ne (C := "com/example/nav_by_schema/navbyschema/regex/StateSet") (Or.inl (wd hw 38 rfl)) (Or.inl (wd hw 21 rfl)) (by decide) (t := .boolean) (t' := (.array .long)) (by decide) (by decide)))
      have F56_bitmapFits := F55_bitmapFits.other W56 (Or.inr (slot_ne (C := "com/example/nav_by_schema/navbyschema/regex/StateSet") (Or.inl (wd hw 30 rfl)) (Or.inl (wd hw 21 rfl)) (by decide) (t := .boolean) (t' := (.array .long)) (by decide) (by decide)))
      have F56_overflowed := F55_overflowed.other W56 (Or.inr (slot_ne (C := "com/example/nav_by_schema/navbyschema/regex/StateSet") (Or.inl (wd hw 40 rfl)) (Or.inl (wd hw 21 rfl)) (by decide) (t := .boolean) (t' := (.array .long)) (by decide) (by decide)))
      have F56_count := F55_count.other W56 (Or.inr (slot_ne (C := "com/example/nav_by_schema/navbyschema/regex/StateSet") (Or.inl (wd hw 42 rfl)) (Or.inl (wd hw 21 rfl)) (by decide) (t := .int) (t' := (.array .long)) (by decide) (by decide)))
      have F56_maxSlots := F55_maxSlots.other W56 (Or.inr (slot_ne (C := "com/example/nav_by_schema/navbyschema/regex/StateSet") (Or.inl (wd hw 93 rfl)) (Or.inl (wd hw 21 rfl)) (by decide) (t := .int) (t' := (.array .long)) (by decide) (by decide)))
      have AB56 := AB55.other W56 d2
      have AS56 := An.other W56 dn3
      have Zh56 : n0 ≤ h56.size := by rw [W56.size]; exact Zh55
      refine g_goto X56 hx (hb hby d4_119) (by decide) (by decide) (pc' := 130) ?_
      refine g_aload_n (i := 0) X56 hx (hb hby d4_130) (by rfl) rfl rfl ?_
      refine g_aload_n (i := 0) X56 hx (hb hby d4_131) (by rfl) rfl rfl ?_
      refine g_getF X56 hx hZ hown (wd hw 20 rfl) e56 F56_slots (hb hby d4_132) rfl ?_
      intro T57 X57 e57
      refine g_arraylengthJ X57 hx hZ e57 AS56 (z := (64 : Int32)) (show _ = (64 : Int32) by decide) (hb hby d4_135) rfl ?_
      refine g_i2l X57 hx (hb hby d4_136) rfl ?_
      rw [show (64 : Int32).toInt64 = (64 : Int64) by decide]
      refine g_callS X57 hx hZ hown (wd hw 94 rfl) (wd hw 95 rfl) (wd hw 96 rfl) (wd hw 97 rfl) (by decide) e57 (rm_lnlz l Z a0 hw h56) (by rw [hml]; rfl) [(.long (64 : Int64))] [(.ref a)] rfl (lenOf pd_58 rfl) rfl (by show 1 + (3 + 11) + 14 ≤ _; decide) (by decide) (by decide) (by decide) (hb hby d4_137) rfl ?_
      intro T58 v58 L58 X58 hQ58
      obtain ⟨rfl, rfl, e58⟩ := hQ58
      have N58 := Fr.app N56 (Fr.nil n0)
      show Goes p e below _ T58 (mkF m 140 #[.val (.ref a), .val (.long D), .second, .val (.long bu), .second] [(.int (57 : Int32)), (.ref a)])
      refine g_iconst (v := (1 : Int32)) X58 hx (hb hby d4_140) (by decide) rfl ?_
      refine g_iadd X58 hx (hb hby d4_141) rfl ?_
      rw [show ((57 : Int32) + (1 : Int32)) = (58 : Int32) by decide]
      refine g_putF X58 hx hZ hown (wd hw 99 rfl) e58 F56_shift E56_ (Or.inl (wd hw 100 rfl)) (wd hw 9 rfl) (ty := .int) (by decide) rfl rfl (hb hby d4_142) rfl ?_
      intro T59 h59 X59 e59 W59
      have N59 := Fr.snoc X59 N58 g1
      have E59_ := E56_.wr W59
      have F59_bound := F56_bound.other W59 (Or.inr (slot_ne (C := "com/example/nav_by_schema/navbyschema/regex/StateSet") (Or.inl (wd hw 28 rfl)) (Or.inl (wd hw 100 rfl)) (by decide) (t := .long) (t' := .int) (by decide) (by decide)))
      have F59_bits := F56_bits.other W59 (Or.inr (slot_ne (C := "com/example/nav_by_schema/navbyschema/regex/StateSet") (Or.inl (wd hw 19 rfl)) (Or.inl (wd hw 100 rfl)) (by decide) (t := (.array .long)) (t' := .int) (by decide) (by decide)))
      have F59_slots := F56_slots.other W59 (Or.inr (slot_ne (C := "com/example/nav_by_schema/navbyschema/regex/StateSet") (Or.inl (wd hw 21 rfl)) (Or.inl (wd hw 100 rfl)) (by decide) (t := (.array .long)) (t' := .int) (by decide) (by decide)))
      have F59_shift := F56_shift.same W59
      have F59_dense := F56_dense.other W59 (Or.inr (slot_ne (C := "com/example/nav_by_schema/navbyschema/regex/StateSet") (Or.inl (wd hw 38 rfl)) (Or.inl (wd hw 100 rfl)) (by decide) (t := .boolean) (t' := .int) (by decide) (by decide)))
      have F59_bitmapFits := F56_bitmapFits.other W59 (Or.inr (slot_ne (C := "com/example/nav_by_schema/navbyschema/regex/StateSet") (Or.inl (wd hw 30 rfl)) (Or.inl (wd hw 100 rfl)) (by decide) (t := .boolean) (t' := .int) (by decide) (by decide)))
      have F59_overflowed := F56_overflowed.other W59 (Or.inr (slot_ne (C := "com/example/nav_by_schema/navbyschema/regex/StateSet") (Or.inl (wd hw 40 rfl)) (Or.inl (wd hw 100 rfl)) (by decide) (t := .boolean) (t' := .int) (by decide) (by decide)))
      have F59_count := F56_count.other W59 (Or.inr (slot_ne (C := "com/example/nav_by_schema/navbyschema/regex/StateSet") (Or.inl (wd hw 42 rfl)) (Or.inl (wd hw 100 rfl)) (by decide) (t := .int) (t' := .int) (by decide) (by decide)))
      have F59_maxSlots := F56_maxSlots.other W59 (Or.inr (slot_ne (C := "com/example/nav_by_schema/navbyschema/regex/StateSet") (Or.inl (wd hw 93 rfl)) (Or.inl (wd hw 100 rfl)) (by decide) (t := .int) (t' := .int) (by decide) (by decide)))
      have AB59 := AB56.other W59 d2
      have AS59 := AS56.other W59 dn3
      have Zh59 : n0 ≤ h59.size := by rw [W59.size]; exact Zh56
      exact g_ret X59 hx hlk hret e59 (by decide) (by decide) (hb hby d4_145) ⟨rfl, N59, bb, a55, nb, fb, 64, _, 58, 0, _, 0, _, ⟨E59_, F59_bound, F59_bits, F59_slots, F59_shift, F59_dense, F59_bitmapFits, F59_overflowed, F59_count, F59_maxSlots, AB59, AS59, dn1, d2, dn3, g1, g2, gn55, Zh59, b1, (Or.inr rfl)⟩, D0, D1, Or.inr ⟨rfl, rfl, rfl, [], ⟨fun j hj h => absurd (by simp [hj]) h, fun _ _ h => nomatch h⟩, Nat.le_refl _, rfl, fun _ _ _ => ⟨fun h => h.elim, fun ⟨_, h⟩ => nomatch h⟩⟩⟩
    · subst b2
      refine g_arraylengthJ X54 hx hZ e54 AS53 (z := (64 : Int32)) (show _ = (64 : Int32) by decide) (hb hby d4_93) rfl ?_
      refine g_bipush (v := (64 : Int32)) X54 hx (hb hby d4_94) (by decide) rfl ?_
      refine g_icmp_lt X54 hx (hb hby d4_96) (by decide) (pt := 111) (by decide) rfl (fun q_ => absurd q_ (by decide)) (fun _ => ?_)
      refine g_aload_n (i := 0) X54 hx (hb hby d4_99) (by rfl) rfl rfl ?_
      refine g_getF X54 hx hZ hown (wd hw 20 rfl) e54 F53_slots (hb hby d4_100) rfl ?_
      intro T60 X60 e60
      refine g_arraylengthJ X60 hx hZ e60 AS53 (z := (64 : Int32)) (show _ = (64 : Int32) by decide) (hb hby d4_103) rfl ?_
      refine g_aload_n (i := 0) X60 hx (hb hby d4_104) (by rfl) rfl rfl ?_
      refine g_getF X60 hx hZ hown (wd hw 92 rfl) e60 F53_maxSlots (hb hby d4_105) rfl ?_
      intro T61 X61 e61
      refine g_icmp_le X61 hx (hb hby d4_108) (by decide) (pt := 122) (by decide) rfl (fun qm => ?_) (fun qm => ?_)
      · refine g_aload_n (i := 0) X61 hx (hb hby d4_122) (by rfl) rfl rfl ?_
        refine g_getF X61 hx hZ hown (wd hw 20 rfl) e61 F53_slots (hb hby d4_123) rfl ?_
        intro T62 X62 e62
        refine g_lconst (v := (0 : Int64)) X62 hx (hb hby d4_126) (by decide) rfl ?_
        refine g_callS X62 hx hZ hown (wd hw 110 rfl) (wd hw 111 rfl) (wd hw 73 rfl) (wd hw 112 rfl) (by decide) e62 (rm_fill2 l Z a0 hw sb 64 64 n0 fs h53 (by decide) rfl g3 AS53) (by rw [hml]; rfl) [(.ref sb), (.long (0 : Int64))] [] rfl (lenOf pd_63 rfl) rfl (by show 0 + (5 + 11) + 0 ≤ _; decide) (by decide) (by decide) (by decide) (hb hby d4_127) rfl ?_
        intro T63 v63 L63 X63 hQ63
        obtain ⟨rfl, N63, K63, A63⟩ := hQ63
        have N63 := Fr.app N53 N63
        show Goes p e below _ T63 (mkF m 130 #[.val (.ref a), .val (.long D), .second, .val (.long bu), .second] [])
        have G63_bound := F53_bound.keep K63 (by rw [List.mem_singleton]; exact Ne.symm d3)
        have G63_bits := F53_bits.keep K63 (by rw [List.mem_singleton]; exact Ne.symm d3)
        have G63_slots := F53_slots.keep K63 (by rw [List.mem_singleton]; exact Ne.symm d3)
        have G63_shift := F53_shift.keep K63 (by rw [List.mem_singleton]; exact Ne.symm d3)
        have G63_dense := F53_dense.keep K63 (by rw [List.mem_singleton]; exact Ne.symm d3)
        have G63_bitmapFits := F53_bitmapFits.keep K63 (by rw [List.mem_singleton]; exact Ne.symm d3)
        have G63_overflowed := F53_overflowed.keep K63 (by rw [List.mem_singleton]; exact Ne.symm d3)
        have G63_count := F53_count.keep K63 (by rw [List.mem_singleton]; exact Ne.symm d3)
        have G63_maxSlots := F53_maxSlots.keep K63 (by rw [List.mem_singleton]; exact Ne.symm d3)
        have GE63 := E53_.keep K63
        have GAB63 := AB53.keep K63 (by rw [List.mem_singleton]; exact d1)
        have Gz63 : n0 ≤ T63.heap.size := Nat.le_trans Zh53 K63.1
        refine g_aload_n (i := 0) X63 hx (hb hby d4_130) (by rfl) rfl rfl ?_
        refine g_aload_n (i := 0) X63 hx (hb hby d4_131) (by rfl) rfl rfl ?_
        refine g_getF X63 hx hZ hown (wd hw 20 rfl) rfl G63_slots (hb hby d4_132) rfl ?_
        intro T64 X64 e64
        refine g_arraylengthJ X64 hx hZ e64 A63 (z := (64 : Int32)) (show _ = (64 : Int32) by decide) (hb hby d4_135) rfl ?_
        refine g_i2l X64 hx (hb hby d4_136) rfl ?_
        rw [show (64 : Int32).toInt64 = (64 : Int64) by decide]
        refine g_callS X64 hx hZ hown (wd hw 94 rfl) (wd hw 95 rfl) (wd hw 96 rfl) (wd hw 97 rfl) (by decide) e64 (rm_lnlz l Z a0 hw T63.heap) (by rw [hml]; rfl) [(.long (64 : Int64))] [(.ref a)] rfl (lenOf pd_58 rfl) rfl (by show 1 + (3 + 11) + 14 ≤ _; decide) (by decide) (by decide) (by decide) (hb hby d4_137) rfl ?_
        intro T65 v65 L65 X65 hQ65
        obtain ⟨rfl, rfl, e65⟩ := hQ65
        have N65 := Fr.app N63 (Fr.nil n0)
        show Goes p e below _ T65 (mkF m 140 #[.val (.ref a), .val (.long D), .second, .val (.long bu), .second] [(.int (57 : Int32)), (.ref a)])
        refine g_iconst (v := (1 : Int32)) X65 hx (hb hby d4_140) (by decide) rfl ?_
        refine g_iadd X65 hx (hb hby d4_141) rfl ?_
        rw [show ((57 : Int32) + (1 : Int32)) = (58 : Int32) by decide]
        refine g_putF X65 hx hZ hown (wd hw 99 rfl) e65 G63_shift GE63 (Or.inl (wd hw 100 rfl)) (wd hw 9 rfl) (ty := .int) (by decide) rfl rfl (hb hby d4_142) rfl ?_
        intro T66 h66 X66 e66 W66
        have N66 := Fr.snoc X66 N65 g1
        have E66_ := GE63.wr W66
        have F66_bound := G63_bound.other W66 (Or.inr (slot_ne (C := "com/example/nav_by_schema/navbyschema/regex/StateSet") (Or.inl (wd hw 28 rfl)) (Or.inl (wd hw 100 rfl)) (by decide) (t := .long) (t' := .int) (by decide) (by decide)))
        have F66_bits := G63_bits.other W66 (Or.inr (slot_ne (C := "com/example/nav_by_schema/navbyschema/regex/StateSet") (Or.inl (wd hw 19 rfl)) (Or.inl (wd hw 100 rfl)) (by decide) (t := (.array .long)) (t' := .int) (by decide) (by decide)))
        have F66_slots := G63_slots.other W66 (Or.inr (slot_ne (C := "com/example/nav_by_schema/navbyschema/regex/StateSet") (Or.inl (wd hw 21 rfl)) (Or.inl (wd hw 100 rfl)) (by decide) (t := (.array .long)) (t' := .int) (by decide) (by decide)))
        have F66_shift := G63_shift.same W66
        have F66_dense := G63_dense.other W66 (Or.inr (slot_ne (C := "com/example/nav_by_schema/navbyschema/regex/StateSet") (Or.inl (wd hw 38 rfl)) (Or.inl (wd hw 100 rfl)) (by decide) (t := .boolean) (t' := .int) (by decide) (by decide)))
        have F66_bitmapFits := G63_bitmapFits.other W66 (Or.inr (slot_ne (C := "com/example/nav_by_schema/navbyschema/regex/StateSet") (Or.inl (wd hw 30 rfl)) (Or.inl (wd hw 100 rfl)) (by decide) (t := .boolean) (t' := .int) (by decide) (by decide)))
        have F66_overflowed := G63_overflowed.other W66 (Or.inr (slot_ne (C := "com/example/nav_by_schema/navbyschema/regex/StateSet") (Or.inl (wd hw 40 rfl)) (Or.inl (wd hw 100 rfl)) (by decide) (t := .boolean) (t' := .int) (by decide) (by decide)))
        have F66_count := G63_count.other W66 (Or.inr (slot_ne (C := "com/example/nav_by_schema/navbyschema/regex/StateSet") (Or.inl (wd hw 42 rfl)) (Or.inl (wd hw 100 rfl)) (by decide) (t := .int) (t' := .int) (by decide) (by decide)))
        have F66_maxSlots := G63_maxSlots.other W66 (Or.inr (slot_ne (C := "com/example/nav_by_schema/navbyschema/regex/StateSet") (Or.inl (wd hw 93 rfl)) (Or.inl (wd hw 100 rfl)) (by decide) (t := .int) (t' := .int) (by decide) (by decide)))
        have AB66 := GAB63.other W66 d2
        have AS66 := A63.other W66 d3
        have Zh66 : n0 ≤ h66.size := by rw [W66.size]; exact Gz63
        exact g_ret X66 hx hlk hret e66 (by decide) (by decide) (hb hby d4_145) ⟨rfl, N66, bb, sb, nb, fb, 64, _, 58, 0, _, 0, _, ⟨E66_, F66_bound, F66_bits, F66_slots, F66_shift, F66_dense, F66_bitmapFits, F66_overflowed, F66_count, F66_maxSlots, AB66, AS66, d1, d2, d3, g1, g2, g3, Zh66, b1, (Or.inr rfl)⟩, D0, D1, Or.inr ⟨rfl, rfl, rfl, [], ⟨fun j hj h => absurd (by simp [hj]) h, fun _ _ h => nomatch h⟩, Nat.le_refl _, rfl, fun _ _ _ => ⟨fun h => h.elim, fun ⟨_, h⟩ => nomatch h⟩⟩⟩
      · refine g_aload_n (i := 0) X61 hx (hb hby d4_111) (by rfl) rfl rfl ?_
        refine g_bipush (v := (64 : Int32)) X61 hx (hb hby d4_112) (by decide) rfl ?_
        refine g_newarr X61 hx hZ (ty := .long) rfl (wd hw 17 rfl) e61 (hb hby d4_114) rfl (by decide) 64 (by decide) (by decide) (by decide) (by decide) ?_
        intro T67 h67 cA67 a67 X67 e67 g67 Ex67 A67
        have An : ArJ Z h67 a67 .long 64 (fun _ => 0) := ArJ.new A67 0 rfl
        have dn1 : bb ≠ a67 := fun q => absurd AB53.lt (by rw [q, g67]; exact Nat.lt_irrefl _)
        have dn3 : a67 ≠ a := fun q => absurd E53_.lt (by rw [← q, g67]; exact Nat.lt_irrefl _)
        have F67_bound := F53_bound.ext Ex67
        have F67_bits := F53_bits.ext Ex67
        have F67_slots := F53_slots.ext Ex67
        have F67_shift := F53_shift.ext Ex67
        have F67_dense := F53_dense.ext Ex67
        have F67_bitmapFits := F53_bitmapFits.ext Ex67
        have F67_overflowed := F53_overflowed.ext Ex67
        have F67_count := F53_count.ext Ex67
        have F67_maxSlots := F53_maxSlots.ext Ex67
        have EE67 := E53_.ext Ex67
        have AB67 := AB53.ext Ex67
        have AS67 := AS53.ext Ex67
        have gn67 : n0 ≤ a67 := by rw [g67]; exact Zh53
        have Zh67 : n0 ≤ h67.size := Nat.le_trans Zh53 Ex67.1
        refine g_putF X67 hx hZ hown (wd hw 20 rfl) e67 F67_slots EE67 (Or.inl (wd hw 21 rfl)) (wd hw 9 rfl) (ty := (.array .long)) (by decide) rfl rfl (hb hby d4_116) rfl ?_
        intro T68 h68 X68 e68 W68
        have N68 := Fr.snoc X68 N53 g1
        have E68_ := EE67.wr W68
        have F68_bound := F67_bound.other W68 (Or.inr (slot_ne (C := "com/example/nav_by_schema/navbyschema/regex/StateSet") (Or.inl (wd hw 28 rfl)) (Or.inl (wd hw 21 rfl)) (by decide) (t := .long) (t' := (.array .long)) (by decide) (by decide)))
        have F68_bits := F67_bits.other W68 (Or.inr (slot_ne (C := "com/example/nav_by_schema/navbyschema/regex/StateSet") (Or.inl (wd hw 19 rfl)) (Or.inl (wd hw 21 rfl)) (by decide) (t := (.array .long)) (t' := (.array .long)) (by decide) (by decide)))
        have F68_slots := F67_slots.same W68
        have F68_shift := F67_shift.other W68 (Or.inr (slot_ne (C := "com/example/nav_by_schema/navbyschema/regex/StateSet") (Or.inl (wd hw 100 rfl)) (Or.inl (wd hw 21 rfl)) (by decide) (t := .int) (t' := (.array .long)) (by decide) (by decide)))
        have F68_dense := F67_dense.other W68 (Or.inr (slot_ne (C := "com/example/nav_by_schema/navbyschema/regex/StateSet") (Or.inl (wd hw 38 rfl)) (Or.inl (wd hw 21 rfl)) (by decide) (t := .boolean) (t' := (.array .long)) (by decide) (by decide)))
        have F68_bitmapFits := F67_bitmapFits.other W68 (Or.inr (slot_ne (C := "com/example/nav_by_schema/navbyschema/regex/StateSet") (Or.inl (wd hw 30 rfl)) (Or.inl (wd hw 21 rfl)) (by decide) (t := .boolean) (t' := (.array .long)) (by decide) (by decide)))
        have F68_overflowed := F67_overflowed.other W68 (Or.inr (slot_ne (C := "com/example/nav_by_schema/navbyschema/regex/StateSet") (Or.inl (wd hw 40 rfl)) (Or.inl (wd hw 21 rfl)) (by decide) (t := .boolean) (t' := (.array .long)) (by decide) (by decide)))
        have F68_count := F67_count.other W68 (Or.inr (slot_ne (C := "com/example/nav_by_schema/navbyschema/regex/StateSet") (Or.inl (wd hw 42 rfl)) (Or.inl (wd hw 21 rfl)) (by decide) (t := .int) (t' := (.array .long)) (by decide) (by decide)))
        have F68_maxSlots := F67_maxSlots.other W68 (Or.inr (slot_ne (C := "com/example/nav_by_schema/navbyschema/regex/StateSet") (Or.inl (wd hw 93 rfl)) (Or.inl (wd hw 21 rfl)) (by decide) (t := .int) (t' := (.array .long)) (by decide) (by decide)))
        have AB68 := AB67.other W68 d2
        have AS68 := An.other W68 dn3
        have Zh68 : n0 ≤ h68.size := by rw [W68.size]; exact Zh67
        refine g_goto X68 hx (hb hby d4_119) (by decide) (by decide) (pc' := 130) ?_
        refine g_aload_n (i := 0) X68 hx (hb hby d4_130) (by rfl) rfl rfl ?_
        refine g_aload_n (i := 0) X68 hx (hb hby d4_131) (by rfl) rfl rfl ?_
        refine g_getF X68 hx hZ hown (wd hw 20 rfl) e68 F68_slots (hb hby d4_132) rfl ?_
        intro T69 X69 e69
        refine g_arraylengthJ X69 hx hZ e69 AS68 (z := (64 : Int32)) (show _ = (64 : Int32) by decide) (hb hby d4_135) rfl ?_
        refine g_i2l X69 hx (hb hby d4_136) rfl ?_
        rw [show (64 : Int32).toInt64 = (64 : Int64) by decide]
        refine g_callS X69 hx hZ hown (wd hw 94 rfl) (wd hw 95 rfl) (wd hw 96 rfl) (wd hw 97 rfl) (by decide) e69 (rm_lnlz l Z a0 hw h68) (by rw [hml]; rfl) [(.long (64 : Int64))] [(.ref a)] rfl (lenOf pd_58 rfl) rfl (by show 1 + (3 + 11) + 14 ≤ _; decide) (by decide) (by decide) (by decide) (hb hby d4_137) rfl ?_
        intro T70 v70 L70 X70 hQ70
        obtain ⟨rfl, rfl, e70⟩ := hQ70
        have N70 := Fr.app N68 (Fr.nil n0)
        show Goes p e below _ T70 (mkF m 140 #[.val (.ref a), .val (.long D), .second, .val (.long bu), .second] [(.int (57 : Int32)), (.ref a)])
        refine g_iconst (v := (1 : Int32)) X70 hx (hb hby d4_140) (by decide) rfl ?_
        refine g_iadd X70 hx (hb hby d4_141) rfl ?_
        rw [show ((57 : Int32) + (1 : Int32)) = (58 : Int32) by decide]
        refine g_putF X70 hx hZ hown (wd hw 99 rfl) e70 F68_shift E68_ (Or.inl (wd hw 100 rfl)) (wd hw 9 rfl) (ty := .int) (by decide) rfl rfl (hb hby d4_142) rfl ?_
        intro T71 h71 X71 e71 W71
        have N71 := Fr.snoc X71 N70 g1
        have E71_ := E68_.wr W71
        have F71_bound := F68_bound.other W71 (Or.inr (slot_ne (C := "com/example/nav_by_schema/navbyschema/regex/StateSet") (Or.inl (wd hw 28 rfl)) (Or.inl (wd hw 100 rfl)) (by decide) (t := .long) (t' := .int) (by decide) (by decide)))
        have F71_bits := F68_bits.other W71 (Or.inr (slot_ne (C := "com/example/nav_by_schema/navbyschema/regex/StateSet") (Or.inl (wd hw 19 rfl)) (Or.inl (wd hw 100 rfl)) (by decide) (t := (.array .long)) (t' := .int) (by decide) (by decide)))
        have F71_slots := F68_slots.other W71 (Or.inr (slot_ne (C := "com/example/nav_by_schema/navbyschema/regex/StateSet") (Or.inl (wd hw 21 rfl)) (Or.inl (wd hw 100 rfl)) (by decide) (t := (.array .long)) (t' := .int) (by decide) (by decide)))
        have F71_shift := F68_shift.same W71
        have F71_dense := F68_dense.other W71 (Or.inr (slot_ne (C := "com/example/nav_by_schema/navbyschema/regex/StateSet") (Or.inl (wd hw 38 rfl)) (Or.inl (wd hw 100 rfl)) (by decide) (t := .boolean) (t' := .int) (by decide) (by decide)))
        have F71_bitmapFits := F68_bitmapFits.other W71 (Or.inr (slot_ne (C := "com/example/nav_by_schema/navbyschema/regex/StateSet") (Or.inl (wd hw 30 rfl)) (Or.inl (wd hw 100 rfl)) (by decide) (t := .boolean) (t' := .int) (by decide) (by decide)))
        have F71_overflowed := F68_overflowed.other W71 (Or.inr (slot_ne (C := "com/example/nav_by_schema/navbyschema/regex/StateSet") (Or.inl (wd hw 40 rfl)) (Or.inl (wd hw 100 rfl)) (by decide) (t := .boolean) (t' := .int) (by decide) (by decide)))
        have F71_count := F68_count.other W71 (Or.inr (slot_ne (C := "com/example/nav_by_schema/navbyschema/regex/StateSet") (Or.inl (wd hw 42 rfl)) (Or.inl (wd hw 100 rfl)) (by decide) (t := .int) (t' := .int) (by decide) (by decide)))
        have F71_maxSlots := F68_maxSlots.other W71 (Or.inr (slot_ne (C := "com/example/nav_by_schema/navbyschema/regex/StateSet") (Or.inl (wd hw 93 rfl)) (Or.inl (wd hw 100 rfl)) (by decide) (t := .int) (t' := .int) (by decide) (by decide)))
        have AB71 := AB68.other W71 d2
        have AS71 := AS68.other W71 dn3
        have Zh71 : n0 ≤ h71.size := by rw [W71.size]; exact Zh68
        exact g_ret X71 hx hlk hret e71 (by decide) (by decide) (hb hby d4_145) ⟨rfl, N71, bb, a67, nb, fb, 64, _, 58, 0, _, 0, _, ⟨E71_, F71_bound, F71_bits, F71_slots, F71_shift, F71_dense, F71_bitmapFits, F71_overflowed, F71_count, F71_maxSlots, AB71, AS71, dn1, d2, dn3, g1, g2, gn67, Zh71, b1, (Or.inr rfl)⟩, D0, D1, Or.inr ⟨rfl, rfl, rfl, [], ⟨fun j hj h => absurd (by simp [hj]) h, fun _ _ h => nomatch h⟩, Nat.le_refl _, rfl, fun _ _ _ => ⟨fun h => h.elim, fun ⟨_, h⟩ => nomatch h⟩⟩⟩
  · refine g_iconst (v := (1 : Int32)) X44 hx (hb hby d4_12) (by decide) rfl ?_
    refine g_goto X44 hx (hb hby d4_13) (by decide) (by decide) (pc' := 17) ?_
    refine g_putF X44 hx hZ hown (wd hw 29 rfl) e44 F44_bitmapFits E44_ (Or.inl (wd hw 30 rfl)) (wd hw 9 rfl) (ty := .boolean) (by decide) rfl rfl (hb hby d4_17) rfl ?_
    intro T72 h72 X72 e72 W72
    have N72 := Fr.snoc X72 N44 g1
    have E72_ := E44_.wr W72
    have F72_bound := F44_bound.other W72 (Or.inr (slot_ne (C := "com/example/nav_by_schema/navbyschema/regex/StateSet") (Or.inl (wd hw 28 rfl)) (Or.inl (wd hw 30 rfl)) (by decide) (t := .long) (t' := .boolean) (by decide) (by decide)))
    have F72_bits := F44_bits.other W72 (Or.inr (slot_ne (C := "com/example/nav_by_schema/navbyschema/regex/StateSet") (Or.inl (wd hw 19 rfl)) (Or.inl (wd hw 30 rfl)) (by decide) (t := (.array .long)) (t' := .boolean) (by decide) (by decide)))
    have F72_slots := F44_slots.other W72 (Or.inr (slot_ne (C := "com/example/nav_by_schema/navbyschema/regex/StateSet") (Or.inl (wd hw 21 rfl)) (Or.inl (wd hw 30 rfl)) (by decide) (t := (.array .long)) (t' := .boolean) (by decide) (by decide)))
    have F72_shift := F44_shift.other W72 (Or.inr (slot_ne (C := "com/example/nav_by_schema/navbyschema/regex/StateSet") (Or.inl (wd hw 100 rfl)) (Or.inl (wd hw 30 rfl)) (by decide) (t := .int) (t' := .boolean) (by decide) (by decide)))
    have F72_dense := F44_dense.other W72 (Or.inr (slot_ne (C := "com/example/nav_by_schema/navbyschema/regex/StateSet") (Or.inl (wd hw 38 rfl)) (Or.inl (wd hw 30 rfl)) (by decide) (t := .boolean) (t' := .boolean) (by decide) (by decide)))
    have F72_bitmapFits := F44_bitmapFits.same W72
    have F72_overflowed := F44_overflowed.other W72 (Or.inr (slot_ne (C := "com/example/nav_by_schema/navbyschema/regex/StateSet") (Or.inl (wd hw 40 rfl)) (Or.inl (wd hw 30 rfl)) (by decide) (t := .boolean) (t' := .boolean) (by decide) (by decide)))
    have F72_count := F44_count.other W72 (Or.inr (slot_ne (C := "com/example/nav_by_schema/navbyschema/regex/StateSet") (Or.inl (wd hw 42 rfl)) (Or.inl (wd hw 30 rfl)) (by decide) (t := .int) (t' := .boolean) (by decide) (by decide)))
    have F72_maxSlots := F44_maxSlots.other W72 (Or.inr (slot_ne (C := "com/example/nav_by_schema/navbyschema/regex/StateSet") (Or.inl (wd hw 93 rfl)) (Or.inl (wd hw 30 rfl)) (by decide) (t := .int) (t' := .boolean) (by decide) (by decide)))
    have AB72 := AB44.other W72 d2
    have AS72 := AS44.other W72 d3
    have Zh72 : n0 ≤ h72.size := by rw [W72.size]; exact Zh44
    refine g_aload_n (i := 0) X72 hx (hb hby d4_20) (by rfl) rfl rfl ?_
    refine g_aload_n (i := 0) X72 hx (hb hby d4_21) (by rfl) rfl rfl ?_
    refine g_getF X72 hx hZ hown (wd hw 29 rfl) e72 F72_bitmapFits (hb hby d4_22) rfl ?_
    intro T73 X73 e73
    refine g_if_eq X73 hx (hb hby d4_25) (by decide) (pt := 43) (by decide) rfl (fun q_ => absurd q_ (by decide)) (fun _ => ?_)
    refine g_aload_n (i := 0) X73 hx (hb hby d4_28) (by rfl) rfl rfl ?_
    refine g_callP X73 hx hZ hown (wd hw 31 rfl) (wd hw 9 rfl) (wd hw 33 rfl) (wd hw 32 rfl) (wd hw 10 rfl) (wd hw 34 rfl) (by decide) e73 a E72_ (rm_words l Z a0 hw a D h72 F72_bound) (by rw [hml]; rfl) [] [(.ref a)] rfl (lenOf pd_37 rfl) rfl (by show 1 + (1 + 11) + 0 ≤ _; decide) (by decide) (by decide) (by decide) (hb hby d4_29) rfl ?_
    intro T74 v74 L74 X74 hQ74
    obtain ⟨rfl, rfl, e74⟩ := hQ74
    have N74 := Fr.app N72 (Fr.nil n0)
    show Goes p e below _ T74 (mkF m 32 #[.val (.ref a), .val (.long D), .second, .val (.long bu), .second] [(.long (XT.ushrL (D + (63 : Int64)) (6 : Int32))), (.ref a)])
    refine g_ldc2J X74 hx hZ hown (wd hw 36 rfl) (hb hby d4_32) rfl ?_
    refine g_lcmp X74 hx (hb hby d4_35) rfl ?_
    refine g_if_gt X74 hx (hb hby d4_36) (by decide) (pt := 43) (by decide) rfl (fun qw => ?_) (fun qw => ?_)
    · refine g_iconst (v := (0 : Int32)) X74 hx (hb hby d4_43) (by decide) rfl ?_
      refine g_putF X74 hx hZ hown (wd hw 37 rfl) e74 F72_dense E72_ (Or.inl (wd hw 38 rfl)) (wd hw 9 rfl) (ty := .boolean) (by decide) rfl rfl (hb hby d4_44) rfl ?_
      intro T75 h75 X75 e75 W75
      have N75 := Fr.snoc X75 N74 g1
      have E75_ := E72_.wr W75
      have F75_bound := F72_bound.other W75 (Or.inr (slot_ne (C := "com/example/nav_by_schema/navbyschema/regex/StateSet") (Or.inl (wd hw 28 rfl)) (Or.inl (wd hw 38 rfl)) (by decide) (t := .long) (t' := .boolean) (by decide) (by decide)))
      have F75_bits := F72_bits.other W75 (Or.inr (slot_ne (C := "com/example/nav_by_schema/navbyschema/regex/StateSet") (Or.inl (wd hw 19 rfl)) (Or.inl (wd hw 38 rfl)) (by decide) (t := (.array .long)) (t' := .boolean) (by decide) (by decide)))
      have F75_slots := F72_slots.other W75 (Or.inr (slot_ne (C := "com/example/nav_by_schema/navbyschema/regex/StateSet") (Or.inl (wd hw 21 rfl)) (Or.inl (wd hw 38 rfl)) (by decide) (t := (.array .long)) (t' := .boolean) (by decide) (by decide)))
      have F75_shift := F72_shift.other W75 (Or.inr (slot_ne (C := "com/example/nav_by_schema/navbyschema/regex/StateSet") (Or.inl (wd hw 100 rfl)) (Or.inl (wd hw 38 rfl)) (by decide) (t := .int) (t' := .boolean) (by decide) (by decide)))
      have F75_dense := F72_dense.same W75
      have F75_bitmapFits := F72_bitmapFits.other W75 (Or.inr (slot_ne (C := "com/example/nav_by_schema/navbyschema/regex/StateSet") (Or.inl (wd hw 30 rfl)) (Or.inl (wd hw 38 rfl)) (by decide) (t := .boolean) (t' := .boolean) (by decide) (by decide)))
      have F75_overflowed := F72_overflowed.other W75 (Or.inr (slot_ne (C := "com/example/nav_by_schema/navbyschema/regex/StateSet") (Or.inl (wd hw 40 rfl)) (Or.inl (wd hw 38 rfl)) (by decide) (t := .boolean) (t' := .boolean) (by decide) (by decide)))
      have F75_count := F72_count.other W75 (Or.inr (slot_ne (C := "com/example/nav_by_schema/navbyschema/regex/StateSet") (Or.inl (wd hw 42 rfl)) (Or.inl (wd hw 38 rfl)) (by decide) (t := .int) (t' := .boolean) (by decide) (by decide)))
      have F75_maxSlots := F72_maxSlots.other W75 (Or.inr (slot_ne (C := "com/example/nav_by_schema/navbyschema/regex/StateSet") (Or.inl (wd hw 93 rfl)) (Or.inl (wd hw 38 rfl)) (by decide) (t := .int) (t' := .boolean) (by decide) (by decide)))
      have AB75 := AB72.other W75 d2
      have AS75 := AS72.other W75 d3
      have Zh75 : n0 ≤ h75.size := by rw [W75.size]; exact Zh72
      refine g_aload_n (i := 0) X75 hx (hb hby d4_47) (by rfl) rfl rfl ?_
      refine g_iconst (v := (0 : Int32)) X75 hx (hb hby d4_48) (by decide) rfl ?_
      refine g_putF X75 hx hZ hown (wd hw 39 rfl) e75 F75_overflowed E75_ (Or.inl (wd hw 40 rfl)) (wd hw 9 rfl) (ty := .boolean) (by decide) rfl rfl (hb hby d4_49) rfl ?_
      intro T76 h76 X76 e76 W76
      have N76 := Fr.snoc X76 N75 g1
      have E76_ := E75_.wr W76
      have F76_bound := F75_bound.other W76 (Or.inr (slot_ne (C := "com/example/nav_by_schema/navbyschema/regex/StateSet") (Or.inl (wd hw 28 rfl)) (Or.inl (wd hw 40 rfl)) (by decide) (t := .long) (t' := .boolean) (by decide) (by decide)))
      have F76_bits := F75_bits.other W76 (Or.inr (slot_ne (C := "com/example/nav_by_schema/navbyschema/regex/StateSet") (Or.inl (wd hw 19 rfl)) (Or.inl (wd hw 40 rfl)) (by decide) (t := (.array .long)) (t' := .boolean) (by decide) (by decide)))
      have F76_slots := F75_slots.other W76 (Or.inr (slot_ne (C := "com/example/nav_by_schema/navbyschema/regex/StateSet") (Or.inl (wd hw 21 rfl)) (Or.inl (wd hw 40 rfl)) (by decide) (t := (.array .long)) (t' := .boolean) (by decide) (by decide)))
      have F76_shift := F75_shift.other W76 (Or.inr (slot_ne (C := "com/example/nav_by_schema/navbyschema/regex/StateSet") (Or.inl (wd hw 100 rfl)) (Or.inl (wd hw 40 rfl)) (by decide) (t := .int) (t' := .boolean) (by decide) (by decide)))
      have F76_dense := F75_dense.other W76 (Or.inr (slot_ne (C := "com/example/nav_by_schema/navbyschema/regex/StateSet") (Or.inl (wd hw 38 rfl)) (Or.inl (wd hw 40 rfl)) (by decide) (t := .boolean) (t' := .boolean) (by decide) (by decide)))
      have F76_bitmapFits := F75_bitmapFits.other W76 (Or.inr (slot_ne (C := "com/example/nav_by_schema/navbyschema/regex/StateSet") (Or.inl (wd hw 30 rfl)) (Or.inl (wd hw 40 rfl)) (by decide) (t := .boolean) (t' := .boolean) (by decide) (by decide)))
      have F76_overflowed := F75_overflowed.same W76
      have F76_count := F75_count.other W76 (Or.inr (slot_ne (C := "com/example/nav_by_schema/navbyschema/regex/StateSet") (Or.inl (wd hw 42 rfl)) (Or.inl (wd hw 40 rfl)) (by decide) (t := .int) (t' := .boolean) (by decide) (by decide)))
      have F76_maxSlots := F75_maxSlots.other W76 (Or.inr (slot_ne (C := "com/example/nav_by_schema/navbyschema/regex/StateSet") (Or.inl (wd hw 93 rfl)) (Or.inl (wd hw 40 rfl)) (by decide) (t := .int) (t' := .boolean) (by decide) (by decide)))
      have AB76 := AB75.other W76 d2
      have AS76 := AS75.other W76 d3
      have Zh76 : n0 ≤ h76.size := by rw [W76.size]; exact Zh75
      refine g_aload_n (i := 0) X76 hx (hb hby d4_52) (by rfl) rfl rfl ?_
      refine g_iconst (v := (0 : Int32)) X76 hx (hb hby d4_53) (by decide) rfl ?_
      refine g_putF X76 hx hZ hown (wd hw 41 rfl) e76 F76_count E76_ (Or.inl (wd hw 42 rfl)) (wd hw 9 rfl) (ty := .int) (by decide) rfl rfl (hb hby d4_54) rfl ?_
      intro T77 h77 X77 e77 W77
      have N77 := Fr.snoc X77 N76 g1
      have E77_ := E76_.wr W77
      have F77_bound := F76_bound.other W77 (Or.inr (slot_ne (C := "com/example/nav_by_schema/navbyschema/regex/StateSet") (Or.inl (wd hw 28 rfl)) (Or.inl (wd hw 42 rfl)) (by decide) (t := .long) (t' := .int) (by decide) (by decide)))
      have F77_bits := F76_bits.other W77 (Or.inr (slot_ne (C := "com/example/nav_by_schema/navbyschema/regex/StateSet") (Or.inl (wd hw 19 rfl)) (Or.inl (wd hw 42 rfl)) (by decide) (t := (.array .long)) (t' := .int) (by decide) (by decide)))
      have F77_slots := F76_slots.other W77 (Or.inr (slot_ne (C := "com/example/nav_by_schema/navbyschema/regex/StateSet") (Or.inl (wd hw 21 rfl)) (Or.inl (wd hw 42 rfl)) (by decide) (t := (.array .long)) (t' := .int) (by decide) (by decide)))
      have F77_shift := F76_shift.other W77 (Or.inr (slot_ne (C := "com/example/nav_by_schema/navbyschema/regex/StateSet") (Or.inl (wd hw 100 rfl)) (Or.inl (wd hw 42 rfl)) (by decide) (t := .int) (t' := .int) (by decide) (by decide)))
      have F77_dense := F76_dense.other W77 (Or.inr (slot_ne (C := "com/example/nav_by_schema/navbyschema/regex/StateSet") (Or.inl (wd hw 38 rfl)) (Or.inl (wd hw 42 rfl)) (by decide) (t := .boolean) (t' := .int) (by decide) (by decide)))
      have F77_bitmapFits := F76_bitmapFits.other W77 (Or.inr (slot_ne (C := "com/example/nav_by_schema/navbyschema/regex/StateSet") (Or.inl (wd hw 30 rfl)) (Or.inl (wd hw 42 rfl)) (by decide) (t := .boolean) (t' := .int) (by decide) (by decide)))
      have F77_overflowed := F76_overflowed.other W77 (Or.inr (slot_ne (C := "com/example/nav_by_schema/navbyschema/regex/StateSet") (Or.inl (wd hw 40 rfl)) (Or.inl (wd hw 42 rfl)) (by decide) (t := .boolean) (t' := .int) (by decide) (by decide)))
      have F77_count := F76_count.same W77
      have F77_maxSlots := F76_maxSlots.other W77 (Or.inr (slot_ne (C := "com/example/nav_by_schema/navbyschema/regex/StateSet") (Or.inl (wd hw 93 rfl)) (Or.inl (wd hw 42 rfl)) (by decide) (t := .int) (t' := .int) (by decide) (by decide)))
      have AB77 := AB76.other W77 d2
      have AS77 := AS76.other W77 d3
      have Zh77 : n0 ≤ h77.size := by rw [W77.size]; exact Zh76
      refine g_aload_n (i := 0) X77 hx (hb hby d4_57) (by rfl) rfl rfl ?_
      refine g_getF X77 hx hZ hown (wd hw 37 rfl) e77 F77_dense (hb hby d4_58) rfl ?_
      intro T78 X78 e78
      refine g_if_eq X78 hx (hb hby d4_61) (by decide) (pt := 71) (by decide) rfl (fun _ => ?_) (fun q_ => absurd (by decide) q_)
      refine g_aload_n (i := 0) X78 hx (hb hby d4_71) (by rfl) rfl rfl ?_
      refine g_lload_n (i := 3) X78 hx (hb hby d4_72) (by rfl) rfl ?_
      refine g_bipush (v := (6 : Int32)) X78 hx (hb hby d4_73) (by decide) rfl ?_
      refine g_lushr X78 hx (hb hby d4_75) rfl ?_
      refine g_ldc2J X78 hx hZ hown (wd hw 79 rfl) (hb hby d4_76) rfl ?_
      refine g_callS X78 hx hZ hown (wd hw 80 rfl) (wd hw 81 rfl) (wd hw 5 rfl) (wd hw 82 rfl) (by decide) e78 (rm_min l Z a0 hw _ _ h77) (by rw [hml]; rfl) [(.long (XT.ushrL bu (6 : Int32))), (.long (1073741824 : Int64))] [(.ref a)] rfl (lenOf pd_51 rfl) rfl (by show 1 + (4 + 11) + 0 ≤ _; decide) (by decide) (by decide) (by decide) (hb hby d4_79) rfl ?_
      intro T79 v79 L79 X79 hQ79
      obtain ⟨⟨r79, rfl⟩, rfl, e79⟩ := hQ79
      have N79 := Fr.app N77 (Fr.nil n0)
      show Goes p e below _ T79 (mkF m 82 #[.val (.ref a), .val (.long D), .second, .val (.long bu), .second] [(.long r79), (.ref a)])
      refine g_l2i X79 hx (hb hby d4_82) rfl ?_
      refine g_callS X79 hx hZ hown (wd hw 83 rfl) (wd hw 84 rfl) (wd hw 85 rfl) (wd hw 86 rfl) (by decide) e79 (rm_hob l Z a0 hw _ h77) (by rw [hml]; rfl) [(.int r79.toInt32)] [(.ref a)] rfl (lenOf pd_24 rfl) rfl (by show 1 + (1 + 11) + 15 ≤ _; decide) (by decide) (by decide) (by decide) (hb hby d4_83) rfl ?_
      intro T80 v80 L80 X80 hQ80
      obtain ⟨⟨r80, rfl⟩, rfl, e80⟩ := hQ80
      have N80 := Fr.app N79 (Fr.nil n0)
      show Goes p e below _ T80 (mkF m 86 #[.val (.ref a), .val (.long D), .second, .val (.long bu), .second] [(.int r80), (.ref a)])
      refine g_putF X80 hx hZ hown (wd hw 92 rfl) e80 F77_maxSlots E77_ (Or.inl (wd hw 93 rfl)) (wd hw 9 rfl) (ty := .int) (by decide) rfl rfl (hb hby d4_86) rfl ?_
      intro T81 h81 X81 e81 W81
      have N81 := Fr.snoc X81 N80 g1
      have E81_ := E77_.wr W81
      have F81_bound := F77_bound.other W81 (Or.inr (slot_ne (C := "com/example/nav_by_schema/navbyschema/regex/StateSet") (Or.inl (wd hw 28 rfl)) (Or.inl (wd hw 93 rfl)) (by decide) (t := .long) (t' := .int) (by decide) (by decide)))
      have F81_bits := F77_bits.other W81 (Or.inr (slot_ne (C := "com/example/nav_by_schema/navbyschema/regex/StateSet") (Or.inl (wd hw 19 rfl)) (Or.inl (wd hw 93 rfl)) (by decide) (t := (.array .long)) (t' := .int) (by decide) (by decide)))
      have F81_slots := F77_slots.other W81 (Or.inr (slot_ne (C := "com/example/nav_by_schema/navbyschema/regex/StateSet") (Or.inl (wd hw 21 rfl)) (Or.inl (wd hw 93 rfl)) (by decide) (t := (.array .long)) (t' := .int) (by decide) (by decide)))
      have F81_shift := F77_shift.other W81 (Or.inr (slot_ne (C := "com/example/nav_by_schema/navbyschema/regex/StateSet") (Or.inl (wd hw 100 rfl)) (Or.inl (wd hw 93 rfl)) (by decide) (t := .int) (t' := .int) (by decide) (by decide)))
      have F81_dense := F77_dense.other W81 (Or.inr (slot_ne (C := "com/example/nav_by_schema/navbyschema/regex/StateSet") (Or.inl (wd hw 38 rfl)) (Or.inl (wd hw 93 rfl)) (by decide) (t := .boolean) (t' := .int) (by decide) (by decide)))
      have F81_bitmapFits := F77_bitmapFits.other W81 (Or.inr (slot_ne (C := "com/example/nav_by_schema/navbyschema/regex/StateSet") (Or.inl (wd hw 30 rfl)) (Or.inl (wd hw 93 rfl)) (by decide) (t := .boolean) (t' := .int) (by decide) (by decide)))
      have F81_overflowed := F77_overflowed.other W81 (Or.inr (slot_ne (C := "com/example/nav_by_schema/navbyschema/regex/StateSet") (Or.inl (wd hw 40 rfl)) (Or.inl (wd hw 93 rfl)) (by decide) (t := .boolean) (t' := .int) (by decide) (by decide)))
      have F81_count := F77_count.other W81 (Or.inr (slot_ne (C := "com/example/nav_by_schema/navbyschema/regex/StateSet") (Or.inl (wd hw 42 rfl)) (Or.inl (wd hw 93 rfl)) (by decide) (t := .int) (t' := .int) (by decide) (by decide)))
      have F81_maxSlots := F77_maxSlots.same W81
      have AB81 := AB77.other W81 d2
      have AS81 := AS77.other W81 d3
      have Zh81 : n0 ≤ h81.size := by rw [W81.size]; exact Zh77
      refine g_aload_n (i := 0) X81 hx (hb hby d4_89) (by rfl) rfl rfl ?_
      refine g_getF X81 hx hZ hown (wd hw 20 rfl) e81 F81_slots (hb hby d4_90) rfl ?_
      intro T82 X82 e82
      rcases b2 with b2 | b2
      · subst b2
        refine g_arraylengthJ X82 hx hZ e82 AS81 (z := (0 : Int32)) (show _ = (0 : Int32) by decide) (hb hby d4_93) rfl ?_
        refine g_bipush (v := (64 : Int32)) X82 hx (hb hby d4_94) (by decide) rfl ?_
        refine g_icmp_lt X82 hx (hb hby d4_96) (by decide) (pt := 111) (by decide) rfl (fun _ => ?_) (fun q_ => absurd (by decide) q_)
        refine g_aload_n (i := 0) X82 hx (hb hby d4_111) (by rfl) rfl rfl ?_
        refine g_bipush (v := (64 : Int32)) X82 hx (hb hby d4_112) (by decide) rfl ?_
        refine g_newarr X82 hx hZ (ty := .long) rfl (wd hw 17 rfl) e82 (hb hby d4_114) rfl (by decide) 64 (by decide) (by decide) (by decide) (by decide) ?_
        intro T83 h83 cA83 a83 X83 e83 g83 Ex83 A83
        have An : ArJ Z h83 a83 .long 64 (fun _ => 0) := ArJ.new A83 0 rfl
        have dn1 : bb ≠ a83 := fun q => absurd AB81.lt (by rw [q, g83]; exact Nat.lt_irrefl _)
        have dn3 : a83 ≠ a := fun q => absurd E81_.lt (by rw [← q, g83]; exact Nat.lt_irrefl _)
        have F83_bound := F81_bound.ext Ex83
        have F83_bits := F81_bits.ext Ex83
        have F83_slots := F81_slots.ext Ex83
        have F83_shift := F81_shift.ext Ex83
        have F83_dense := F81_dense.ext Ex83
        have F83_bitmapFits := F81_bitmapFits.ext Ex83
        have F83_overflowed := F81_overflowed.ext Ex83
        have F83_count := F81_count.ext Ex83
        have F83_maxSlots := F81_maxSlots.ext Ex83
        have EE83 := E81_.ext Ex83
        have AB83 := AB81.ext Ex83
        have AS83 := AS81.ext Ex83
        have gn83 : n0 ≤ a83 := by rw [g83]; exact Zh81
        have Zh83 : n0 ≤ h83.size := Nat.le_trans Zh81 Ex83.1
        refine g_putF X83 hx hZ hown (wd hw 20 rfl) e83 F83_slots EE83 (Or.inl (wd hw 21 rfl)) (wd hw 9 rfl) (ty := (.array .long)) (by decide) rfl rfl (hb hby d4_116) rfl ?_
        intro T84 h84 X84 e84 W84
        have N84 := Fr.snoc X84 N81 g1
        have E84_ := EE83.wr W84
        have F84_bound := F83_bound.other W84 (Or.inr (slot_ne (C := "com/example/nav_by_schema/navbyschema/regex/StateSet") (Or.inl (wd hw 28 rfl)) (Or.inl (wd hw 21 rfl)) (by decide) (t := .long) (t' := (.array .long)) (by decide) (by decide)))
        have F84_bits := F83_bits.other W84 (Or.inr (slot_ne (C := "com/example/nav_by_schema/navbyschema/regex/StateSet") (Or.inl (wd hw 19 rfl)) (Or.inl (wd hw 21 rfl)) (by decide) (t := (.array .long)) (t' := (.array .long)) (by decide) (by decide)))
        have F84_slots := F83_slots.same W84
        have F84_shift := F83_shift.other W84 (Or.inr (slot_ne (C := "com/example/nav_by_schema/navbyschema/regex/StateSet") (Or.inl (wd hw 100 rfl)) (Or.inl (wd hw 21 rfl)) (by decide) (t := .int) (t' := (.array .long)) (by decide) (by decide)))
        have F84_dense := F83_dense.other W84 (Or.inr (slot_ne (C := "com/example/nav_by_schema/navbyschema/regex/StateSet") (Or.inl (wd hw 38 rfl)) (Or.inl (wd hw 21 rfl)) (by decide) (t := .boolean) (t' := (.array .long)) (by decide) (by decide)))
        have F84_bitmapFits := F83_bitmapFits.other W84 (Or.inr (slot_ne (C := "com/example/nav_by_schema/navbyschema/regex/StateSet") (Or.inl (wd hw 30 rfl)) (Or.inl (wd hw 21 rfl)) (by decide) (t := .boolean) (t' := (.array .long)) (by decide) (by decide)))
        have F84_overflowed := F83_overflowed.other W84 (Or.inr (slot_ne (C := "com/example/nav_by_schema/navbyschema/regex/StateSet") (Or.inl (wd hw 40 rfl)) (Or.inl (wd hw 21 rfl)) (by decide) (t := .boolean) (t' := (.array .long)) (by decide) (by decide)))
        have F84_count := F83_count.other W84 (Or.inr (slot_ne (C := "com/example/nav_by_schema/navbyschema/regex/StateSet") (Or.inl (wd hw 42 rfl)) (Or.inl (wd hw 21 rfl)) (by decide) (t := .int) (t' := (.array .long)) (by decide) (by decide)))
        have F84_maxSlots := F83_maxSlots.other W84 (Or.inr (slot_ne (C := "com/example/nav_by_schema/navbyschema/regex/StateSet") (Or.inl (wd hw 93 rfl)) (Or.inl (wd hw 21 rfl)) (by decide) (t := .int) (t' := (.array .long)) (by decide) (by decide)))
        have AB84 := AB83.other W84 d2
        have AS84 := An.other W84 dn3
        have Zh84 : n0 ≤ h84.size := by rw [W84.size]; exact Zh83
        refine g_goto X84 hx (hb hby d4_119) (by decide) (by decide) (pc' := 130) ?_
        refine g_aload_n (i := 0) X84 hx (hb hby d4_130) (by rfl) rfl rfl ?_
        refine g_aload_n (i := 0) X84 hx (hb hby d4_131) (by rfl) rfl rfl ?_
        refine g_getF X84 hx hZ hown (wd hw 20 rfl) e84 F84_slots (hb hby d4_132) rfl ?_
        intro T85 X85 e85
        refine g_arraylengthJ X85 hx hZ e85 AS84 (z := (64 : Int32)) (show _ = (64 : Int32) by decide) (hb hby d4_135) rfl ?_
        refine g_i2l X85 hx (hb hby d4_136) rfl ?_
        rw [show (64 : Int32).toInt64 = (64 : Int64) by decide]
        refine g_callS X85 hx hZ hown (wd hw 94 rfl) (wd hw 95 rfl) (wd hw 96 rfl) (wd hw 97 rfl) (by decide) e85 (rm_lnlz l Z a0 hw h84) (by rw [hml]; rfl) [(.long (64 : Int64))] [(.ref a)] rfl (lenOf pd_58 rfl) rfl (by show 1 + (3 + 11) + 14 ≤ _; decide) (by decide) (by decide) (by decide) (hb hby d4_137) rfl ?_
        intro T86 v86 L86 X86 hQ86
        obtain ⟨rfl, rfl, e86⟩ := hQ86
        have N86 := Fr.app N84 (Fr.nil n0)
        show Goes p e below _ T86 (mkF m 140 #[.val (.ref a), .val (.long D), .second, .val (.long bu), .second] [(.int (57 : Int32)), (.ref a)])
        refine g_iconst (v := (1 : Int32)) X86 hx (hb hby d4_140) (by decide) rfl ?_
        refine g_iadd X86 hx (hb hby d4_141) rfl ?_
        rw [show ((57 : Int32) + (1 : Int32)) = (58 : Int32) by decide]
        refine g_putF X86 hx hZ hown (wd hw 99 rfl) e86 F84_shift E84_ (Or.inl (wd hw 100 rfl)) (wd hw 9 rfl) (ty := .int) (by decide) rfl rfl (hb hby d4_142) rfl ?_
        intro T87 h87 X87 e87 W87
        have N87 := Fr.snoc X87 N86 g1
        have E87_ := E84_.wr W87
        have F87_bound := F84_bound.other W87 (Or.inr (slot_ne (C := "com/example/nav_by_schema/navbyschema/regex/StateSet") (Or.inl (wd hw 28 rfl)) (Or.inl (wd hw 100 rfl)) (by decide) (t := .long) (t' := .int) (by decide) (by decide)))
        have F87_bits := F84_bits.other W87 (Or.inr (slot_ne (C := "com/example/nav_by_schema/navbyschema/regex/StateSet") (Or.inl (wd hw 19 rfl)) (Or.inl (wd hw 100 rfl)) (by decide) (t := (.array .long)) (t' := .int) (by decide) (by decide)))
        have F87_slots := F84_slots.other W87 (Or.inr (slot_ne (C := "com/example/nav_by_schema/navbyschema/regex/StateSet") (Or.inl (wd hw 21 rfl)) (Or.inl (wd hw 100 rfl)) (by decide) (t := (.array .long)) (t' := .int) (by decide) (by decide)))
        have F87_shift := F84_shift.same W87
        have F87_dense := F84_dense.other W87 (Or.inr (slot_ne (C := "com/example/nav_by_schema/navbyschema/regex/StateSet") (Or.inl (wd hw 38 rfl)) (Or.inl (wd hw 100 rfl)) (by decide) (t := .boolean) (t' := .int) (by decide) (by decide)))
        have F87_bitmapFits := F84_bitmapFits.other W87 (Or.inr (slot_ne (C := "com/example/nav_by_schema/navbyschema/regex/StateSet") (Or.inl (wd hw 30 rfl)) (Or.inl (wd hw 100 rfl)) (by decide) (t := .boolean) (t' := .int) (by decide) (by decide)))
        have F87_overflowed := F84_overflowed.other W87 (Or.inr (slot_ne (C := "com/example/nav_by_schema/navbyschema/regex/StateSet") (Or.inl (wd hw 40 rfl)) (Or.inl (wd hw 100 rfl)) (by decide) (t := .boolean) (t' := .int) (by decide) (by decide)))
        have F87_count := F84_count.other W87 (Or.inr (slot_ne (C := "com/example/nav_by_schema/navbyschema/regex/StateSet") (Or.inl (wd hw 42 rfl)) (Or.inl (wd hw 100 rfl)) (by decide) (t := .int) (t' := .int) (by decide) (by decide)))
        have F87_maxSlots := F84_maxSlots.other W87 (Or.inr (slot_ne (C := "com/example/nav_by_schema/navbyschema/regex/StateSet") (Or.inl (wd hw 93 rfl)) (Or.inl (wd hw 100 rfl)) (by decide) (t := .int) (t' := .int) (by decide) (by decide)))
        have AB87 := AB84.other W87 d2
        have AS87 := AS84.other W87 dn3
        have Zh87 : n0 ≤ h87.size := by rw [W87.size]; exact Zh84
        exact g_ret X87 hx hlk hret e87 (by decide) (by decide) (hb hby d4_145) ⟨rfl, N87, bb, a83, nb, fb, 64, _, 58, 0, _, 0, _, ⟨E87_, F87_bound, F87_bits, F87_slots, F87_shift, F87_dense, F87_bitmapFits, F87_overflowed, F87_count, F87_maxSlots, AB87, AS87, dn1, d2, dn3, g1, g2, gn83, Zh87, b1, (Or.inr rfl)⟩, D0, D1, Or.inr ⟨rfl, rfl, rfl, [], ⟨fun j hj h => absurd (by simp [hj]) h, fun _ _ h => nomatch h⟩, Nat.le_refl _, rfl, fun _ _ _ => ⟨fun h => h.elim, fun ⟨_, h⟩ => nomatch h⟩⟩⟩
      · subst b2
        refine g_arraylengthJ X82 hx hZ e82 AS81 (z := (64 : Int32)) (show _ = (64 : Int32) by decide) (hb hby d4_93) rfl ?_
        refine g_bipush (v := (64 : Int32)) X82 hx (hb hby d4_94) (by decide) rfl ?_
        refine g_icmp_lt X82 hx (hb hby d4_96) (by decide) (pt := 111) (by decide) rfl (fun q_ => absurd q_ (by decide)) (fun _ => ?_)
        refine g_aload_n (i := 0) X82 hx (hb hby d4_99) (by rfl) rfl rfl ?_
        refine g_getF X82 hx hZ hown (wd hw 20 rfl) e82 F81_slots (hb hby d4_100) rfl ?_
        intro T88 X88 e88
        refine g_arraylengthJ X88 hx hZ e88 AS81 (z := (64 : Int32)) (show _ = (64 : Int32) by decide) (hb hby d4_103) rfl ?_
        refine g_aload_n (i := 0) X88 hx (hb hby d4_104) (by rfl) rfl rfl ?_
        refine g_getF X88 hx hZ hown (wd hw 92 rfl) e88 F81_maxSlots (hb hby d4_105) rfl ?_
        intro T89 X89 e89
        refine g_icmp_le X89 hx (hb hby d4_108) (by decide) (pt := 122) (by decide) rfl (fun qm => ?_) (fun qm => ?_)
        · refine g_aload_n (i := 0) X89 hx (hb hby d4_122) (by rfl) rfl rfl ?_
          refine g_getF X89 hx hZ hown (wd hw 20 rfl) e89 F81_slots (hb hby d4_123) rfl ?_
          intro T90 X90 e90
          refine g_lconst (v := (0 : Int64)) X90 hx (hb hby d4_126) (by decide) rfl ?_
          refine g_callS X90 hx hZ hown (wd hw 110 rfl) (wd hw 111 rfl) (wd hw 73 rfl) (wd hw 112 rfl) (by decide) e90 (rm_fill2 l Z a0 hw sb 64 64 n0 fs h81 (by decide) rfl g3 AS81) (by rw [hml]; rfl) [(.ref sb), (.long (0 : Int64))] [] rfl (lenOf pd_63 rfl) rfl (by show 0 + (5 + 11) + 0 ≤ _; decide) (by decide) (by decide) (by decide) (hb hby d4_127) rfl ?_
          intro T91 v91 L91 X91 hQ91
          obtain ⟨rfl, N91, K91, A91⟩ := hQ91
          have N91 := Fr.app N81 N91
          show Goes p e below _ T91 (mkF m 130 #[.val (.ref a), .val (.long D), .second, .val (.long bu), .second] [])
          have G91_bound := F81_bound.keep K91 (by rw [List.mem_singleton]; exact Ne.symm d3)
          have G91_bits := F81_bits.keep K91 (by rw [List.mem_singleton]; exact Ne.symm d3)
          have G91_slots := F81_slots.keep K91 (by rw [List.mem_singleton]; exact Ne.symm d3)
          have G91_shift := F81_shift.keep K91 (by rw [List.mem_singleton]; exact Ne.symm d3)
          have G91_dense := F81_dense.keep K91 (by rw [List.mem_singleton]; exact Ne.symm d3)
          have G91_bitmapFits := F81_bitmapFits.keep K91 (by rw [List.mem_singleton]; exact Ne.symm d3)
          have G91_overflowed := F81_overflowed.keep K91 (by rw [List.mem_singleton]; exact Ne.symm d3)
          have G91_count := F81_count.keep K91 (by rw [List.mem_singleton]; exact Ne.symm d3)
          have G91_maxSlots := F81_maxSlots.keep K91 (by rw [List.mem_singleton]; exact Ne.symm d3)
          have GE91 := E81_.keep K91
          have GAB91 := AB81.keep K91 (by rw [List.mem_singleton]; exact d1)
          have Gz91 : n0 ≤ T91.heap.size := Nat.le_trans Zh81 K91.1
          refine g_aload_n (i := 0) X91 hx (hb hby d4_130) (by rfl) rfl rfl ?_
          refine g_aload_n (i := 0) X91 hx (hb hby d4_131) (by rfl) rfl rfl ?_
          refine g_getF X91 hx hZ hown (wd hw 20 rfl) rfl G91_slots (hb hby d4_132) rfl ?_
          intro T92 X92 e92
          refine g_arraylengthJ X92 hx hZ e92 A91 (z := (64 : Int32)) (show _ = (64 : Int32) by decide) (hb hby d4_135) rfl ?_
          refine g_i2l X92 hx (hb hby d4_136) rfl ?_
          rw [show (64 : Int32).toInt64 = (64 : Int64) by decide]
          refine g_callS X92 hx hZ hown (wd hw 94 rfl) (wd hw 95 rfl) (wd hw 96 rfl) (wd hw 97 rfl) (by decide) e92 (rm_lnlz l Z a0 hw T91.heap) (by rw [hml]; rfl) [(.long (64 : Int64))] [(.ref a)] rfl (lenOf pd_58 rfl) rfl (by show 1 + (3 + 11) + 14 ≤ _; decide) (by decide) (by decide) (by decide) (hb hby d4_137) rfl ?_
          intro T93 v93 L93 X93 hQ93
          obtain ⟨rfl, rfl, e93⟩ := hQ93
          have N93 := Fr.app N91 (Fr.nil n0)
          show Goes p e below _ T93 (mkF m 140 #[.val (.ref a), .val (.long D), .second, .val (.long bu), .second] [(.int (57 : Int32)), (.ref a)])
          refine g_iconst (v := (1 : Int32)) X93 hx (hb hby d4_140) (by decide) rfl ?_
          refine g_iadd X93 hx (hb hby d4_141) rfl ?_
          rw [show ((57 : Int32) + (1 : Int32)) = (58 : Int32) by decide]
          refine g_putF X93 hx hZ hown (wd hw 99 rfl) e93 G91_shift GE91 (Or.inl (wd hw 100 rfl)) (wd hw 9 rfl) (ty := .int) (by decide) rfl rfl (hb hby d4_142) rfl ?_
          intro T94 h94 X94 e94 W94
          have N94 := Fr.snoc X94 N93 g1
          have E94_ := GE91.wr W94
          have F94_bound := G91_bound.other W94 (Or.inr (slot_ne (C := "com/example/nav_by_schema/navbyschema/regex/StateSet") (Or.inl (wd hw 28 rfl)) (Or.inl (wd hw 100 rfl)) (by decide) (t := .long) (t' := .int) (by decide) (by decide)))
          have F94_bits := G91_bits.other W94 (Or.inr (slot_ne (C := "com/example/nav_by_schema/navbyschema/regex/StateSet") (Or.inl (wd hw 19 rfl)) (Or.inl (wd hw 100 rfl)) (by decide) (t := (.array .long)) (t' := .int) (by decide) (by decide)))
          have F94_slots := G91_slots.other W94 (Or.inr (slot_ne (C := "com/example/nav_by_schema/navbyschema/regex/StateSet") (Or.inl (wd hw 21 rfl)) (Or.inl (wd hw 100 rfl)) (by decide) (t := (.array .long)) (t' := .int) (by decide) (by decide)))
          have F94_shift := G91_shift.same W94
          have F94_dense := G91_dense.other W94 (Or.inr (slot_ne (C := "com/example/nav_by_schema/navbyschema/regex/StateSet") (Or.inl (wd hw 38 rfl)) (Or.inl (wd hw 100 rfl)) (by decide) (t := .boolean) (t' := .int) (by decide) (by decide)))
          have F94_bitmapFits := G91_bitmapFits.other W94 (Or.inr (slot_ne (C := "com/example/nav_by_schema/navbyschema/regex/StateSet") (Or.inl (wd hw 30 rfl)) (Or.inl (wd hw 100 rfl)) (by decide) (t := .boolean) (t' := .int) (by decide) (by decide)))
          have F94_overflowed := G91_overflowed.other W94 (Or.inr (slot_ne (C := "com/example/nav_by_schema/navbyschema/regex/StateSet") (Or.inl (wd hw 40 rfl)) (Or.inl (wd hw 100 rfl)) (by decide) (t := .boolean) (t' := .int) (by decide) (by decide)))
          have F94_count := G91_count.other W94 (Or.inr (slot_ne (C := "com/example/nav_by_schema/navbyschema/regex/StateSet") (Or.inl (wd hw 42 rfl)) (Or.inl (wd hw 100 rfl)) (by decide) (t := .int) (t' := .int) (by decide) (by decide)))
          have F94_maxSlots := G91_maxSlots.other W94 (Or.inr (slot_ne (C := "com/example/nav_by_schema/navbyschema/regex/StateSet") (Or.inl (wd hw 93 rfl)) (Or.inl (wd hw 100 rfl)) (by decide) (t := .int) (t' := .int) (by decide) (by decide)))
          have AB94 := GAB91.other W94 d2
          have AS94 := A91.other W94 d3
          have Zh94 : n0 ≤ h94.size := by rw [W94.size]; exact Gz91
          exact g_ret X94 hx hlk hret e94 (by decide) (by decide) (hb hby d4_145) ⟨rfl, N94, bb, sb, nb, fb, 64, _, 58, 0, _, 0, _, ⟨E94_, F94_bound, F94_bits, F94_slots, F94_shift, F94_dense, F94_bitmapFits, F94_overflowed, F94_count, F94_maxSlots, AB94, AS94, d1, d2, d3, g1, g2, g3, Zh94, b1, (Or.inr rfl)⟩, D0, D1, Or.inr ⟨rfl, rfl, rfl, [], ⟨fun j hj h => absurd (by simp [hj]) h, fun _ _ h => nomatch h⟩, Nat.le_refl _, rfl, fun _ _ _ => ⟨fun h => h.elim, fun ⟨_, h⟩ => nomatch h⟩⟩⟩
        · refine g_aload_n (i := 0) X89 hx (hb hby d4_111) (by rfl) rfl rfl ?_
          refine g_bipush (v := (64 : Int32)) X89 hx (hb hby d4_112) (by decide) rfl ?_
          refine g_newarr X89 hx hZ (ty := .long) rfl (wd hw 17 rfl) e89 (hb hby d4_114) rfl (by decide) 64 (by decide) (by decide) (by decide) (by decide) ?_
          intro T95 h95 cA95 a95 X95 e95 g95 Ex95 A95
          have An : ArJ Z h95 a95 .long 64 (fun _ => 0) := ArJ.new A95 0 rfl
          have dn1 : bb ≠ a95 := fun q => absurd AB81.lt (by rw [q, g95]; exact Nat.lt_irrefl _)
          have dn3 : a95 ≠ a := fun q => absurd E81_.lt (by rw [← q, g95]; exact Nat.lt_irrefl _)
          have F95_bound := F81_bound.ext Ex95
          have F95_bits := F81_bits.ext Ex95
          have F95_slots := F81_slots.ext Ex95
          have F95_shift := F81_shift.ext Ex95
          have F95_dense := F81_dense.ext Ex95
          have F95_bitmapFits := F81_bitmapFits.ext Ex95
          have F95_overflowed := F81_overflowed.ext Ex95
          have F95_count := F81_count.ext Ex95
          have F95_maxSlots := F81_maxSlots.ext Ex95
          have EE95 := E81_.ext Ex95
          have AB95 := AB81.ext Ex95
          have AS95 := AS81.ext Ex95
          have gn95 : n0 ≤ a95 := by rw [g95]; exact Zh81
          have Zh95 : n0 ≤ h95.size := Nat.le_trans Zh81 Ex95.1
          refine g_putF X95 hx hZ hown (wd hw 20 rfl) e95 F95_slots EE95 (Or.inl (wd hw 21 rfl)) (wd hw 9 rfl) (ty := (.array .long)) (by decide) rfl rfl (hb hby d4_116) rfl ?_
          intro T96 h96 X96 e96 W96
          have N96 := Fr.snoc X96 N81 g1
          have E96_ := EE95.wr W96
          have F96_bound := F95_bound.other W96 (Or.inr (slot_ne (C := "com/example/nav_by_schema/navbyschema/regex/StateSet") (Or.inl (wd hw 28 rfl)) (Or.inl (wd hw 21 rfl)) (by decide) (t := .long) (t' := (.array .long)) (by decide) (by decide)))
          have F96_bits := F95_bits.other W96 (Or.inr (slot_ne (C := "com/example/nav_by_schema/navbyschema/regex/StateSet") (Or.inl (wd hw 19 rfl)) (Or.inl (wd hw 21 rfl)) (by decide) (t := (.array .long)) (t' := (.array .long)) (by decide) (by decide)))
          have F96_slots := F95_slots.same W96
          have F96_shift := F95_shift.other W96 (Or.inr (slot_ne (C := "com/example/nav_by_schema/navbyschema/regex/StateSet") (Or.inl (wd hw 100 rfl)) (Or.inl (wd hw 21 rfl)) (by decide) (t := .int) (t' := (.array .long)) (by decide) (by decide)))
          have F96_dense := F95_dense.other W96 (Or.inr (slot_ne (C := "com/example/nav_by_schema/navbyschema/regex/StateSet") (Or.inl (wd hw 38 rfl)) (Or.inl (wd hw 21 rfl)) (by decide) (t := .boolean) (t' := (.array .long)) (by decide) (by decide)))
          have F96_bitmapFits := F95_bitmapFits.other W96 (Or.inr (slot_ne (C := "com/example/nav_by_schema/navbyschema/regex/StateSet") (Or.inl (wd hw 30 rfl)) (Or.inl (wd hw 21 rfl)) (by decide) (t := .boolean) (t' := (.array .long)) (by decide) (by decide)))
          have F96_overflowed := F95_overflowed.other W96 (Or.inr (slot_ne (C := "com/example/nav_by_schema/navbyschema/regex/StateSet") (Or.inl (wd hw 40 rfl)) (Or.inl (wd hw 21 rfl)) (by decide) (t := .boolean) (t' := (.array .long)) (by decide) (by decide)))
          have F96_count := F95_count.other W96 (Or.inr (slot_ne (C := "com/example/nav_by_schema/navbyschema/regex/StateSet") (Or.inl (wd hw 42 rfl)) (Or.inl (wd hw 21 rfl)) (by decide) (t := .int) (t' := (.array .long)) (by decide) (by decide)))
          have F96_maxSlots := F95_maxSlots.other W96 (Or.inr (slot_ne (C := "com/example/nav_by_schema/navbyschema/regex/StateSet") (Or.inl (wd hw 93 rfl)) (Or.inl (wd hw 21 rfl)) (by decide) (t := .int) (t' := (.array .long)) (by decide) (by decide)))
          have AB96 := AB95.other W96 d2
          have AS96 := An.other W96 dn3
          have Zh96 : n0 ≤ h96.size := by rw [W96.size]; exact Zh95
          refine g_goto X96 hx (hb hby d4_119) (by decide) (by decide) (pc' := 130) ?_
          refine g_aload_n (i := 0) X96 hx (hb hby d4_130) (by rfl) rfl rfl ?_
          refine g_aload_n (i := 0) X96 hx (hb hby d4_131) (by rfl) rfl rfl ?_
          refine g_getF X96 hx hZ hown (wd hw 20 rfl) e96 F96_slots (hb hby d4_132) rfl ?_
          intro T97 X97 e97
          refine g_arraylengthJ X97 hx hZ e97 AS96 (z := (64 : Int32)) (show _ = (64 : Int32) by decide) (hb hby d4_135) rfl ?_
          refine g_i2l X97 hx (hb hby d4_136) rfl ?_
          rw [show (64 : Int32).toInt64 = (64 : Int64) by decide]
          refine g_callS X97 hx hZ hown (wd hw 94 rfl) (wd hw 95 rfl) (wd hw 96 rfl) (wd hw 97 rfl) (by decide) e97 (rm_lnlz l Z a0 hw h96) (by rw [hml]; rfl) [(.long (64 : Int64))] [(.ref a)] rfl (lenOf pd_58 rfl) rfl (by show 1 + (3 + 11) + 14 ≤ _; decide) (by decide) (by decide) (by decide) (hb hby d4_137) rfl ?_
          intro T98 v98 L98 X98 hQ98
          obtain ⟨rfl, rfl, e98⟩ := hQ98
          have N98 := Fr.app N96 (Fr.nil n0)
          show Goes p e below _ T98 (mkF m 140 #[.val (.ref a), .val (.long D), .second, .val (.long bu), .second] [(.int (57 : Int32)), (.ref a)])
          refine g_iconst (v := (1 : Int32)) X98 hx (hb hby d4_140) (by decide) rfl ?_
          refine g_iadd X98 hx (hb hby d4_141) rfl ?_
          rw [show ((57 : Int32) + (1 : Int32)) = (58 : Int32) by decide]
          refine g_putF X98 hx hZ hown (wd hw 99 rfl) e98 F96_shift E96_ (Or.inl (wd hw 100 rfl)) (wd hw 9 rfl) (ty := .int) (by decide) rfl rfl (hb hby d4_142) rfl ?_
          intro T99 h99 X99 e99 W99
          have N99 := Fr.snoc X99 N98 g1
          have E99_ := E96_.wr W99
          have F99_bound := F96_bound.other W99 (Or.inr (slot_ne (C := "com/example/nav_by_schema/navbyschema/regex/StateSet") (Or.inl (wd hw 28 rfl)) (Or.inl (wd hw 100 rfl)) (by decide) (t := .long) (t' := .int) (by decide) (by decide)))
          have F99_bits := F96_bits.other W99 (Or.inr (slot_ne (C := "com/example/nav_by_schema/navbyschema/regex/StateSet") (Or.inl (wd hw 19 rfl)) (Or.inl (wd hw 100 rfl)) (by decide) (t := (.array .long)) (t' := .int) (by decide) (by decide)))
          have F99_slots := F96_slots.other W99 (Or.inr (slot_ne (C := "com/example/nav_by_schema/navbyschema/regex/StateSet") (Or.inl (wd hw 21 rfl)) (Or.inl (wd hw 100 rfl)) (by decide) (t := (.array .long)) (t' := .int) (by decide) (by decide)))
          have F99_shift := F96_shift.same W99
          have F99_dense := F96_dense.other W99 (Or.inr (slot_ne (C := "com/example/nav_by_schema/navbyschema/regex/StateSet") (Or.inl (wd hw 38 rfl)) (Or.inl (wd hw 100 rfl)) (by decide) (t := .boolean) (t' := .int) (by decide) (by decide)))
          have F99_bitmapFits := F96_bitmapFits.other W99 (Or.inr (slot_ne (C := "com/example/nav_by_schema/navbyschema/regex/StateSet") (Or.inl (wd hw 30 rfl)) (Or.inl (wd hw 100 rfl)) (by decide) (t := .boolean) (t' := .int) (by decide) (by decide)))
          have F99_overflowed := F96_overflowed.other W99 (Or.inr (slot_ne (C := "com/example/nav_by_schema/navbyschema/regex/StateSet") (Or.inl (wd hw 40 rfl)) (Or.inl (wd hw 100 rfl)) (by decide) (t := .boolean) (t' := .int) (by decide) (by decide)))
          have F99_count := F96_count.other W99 (Or.inr (slot_ne (C := "com/example/nav_by_schema/navbyschema/regex/StateSet") (Or.inl (wd hw 42 rfl)) (Or.inl (wd hw 100 rfl)) (by decide) (t := .int) (t' := .int) (by decide) (by decide)))
          have F99_maxSlots := F96_maxSlots.other W99 (Or.inr (slot_ne (C := "com/example/nav_by_schema/navbyschema/regex/StateSet") (Or.inl (wd hw 93 rfl)) (Or.inl (wd hw 100 rfl)) (by decide) (t := .int) (t' := .int) (by decide) (by decide)))
          have AB99 := AB96.other W99 d2
          have AS99 := AS96.other W99 dn3
          have Zh99 : n0 ≤ h99.size := by rw [W99.size]; exact Zh96
          exact g_ret X99 hx hlk hret e99 (by decide) (by decide) (hb hby d4_145) ⟨rfl, N99, bb, a95, nb, fb, 64, _, 58, 0, _, 0, _, ⟨E99_, F99_bound, F99_bits, F99_slots, F99_shift, F99_dense, F99_bitmapFits, F99_overflowed, F99_count, F99_maxSlots, AB99, AS99, dn1, d2, dn3, g1, g2, gn95, Zh99, b1, (Or.inr rfl)⟩, D0, D1, Or.inr ⟨rfl, rfl, rfl, [], ⟨fun j hj h => absurd (by simp [hj]) h, fun _ _ h => nomatch h⟩, Nat.le_refl _, rfl, fun _ _ _ => ⟨fun h => h.elim, fun ⟨_, h⟩ => nomatch h⟩⟩⟩
    · refine g_iconst (v := (1 : Int32)) X74 hx (hb hby d4_39) (by decide) rfl ?_
      refine g_goto X74 hx (hb hby d4_40) (by decide) (by decide) (pc' := 44) ?_
      refine g_putF X74 hx hZ hown (wd hw 37 rfl) e74 F72_dense E72_ (Or.inl (wd hw 38 rfl)) (wd hw 9 rfl) (ty := .boolean) (by decide) rfl rfl (hb hby d4_44) rfl ?_
      intro T100 h100 X100 e100 W100
      have N100 := Fr.snoc X100 N74 g1
      have E100_ := E72_.wr W100
      have F100_bound := F72_bound.other W100 (Or.inr (slot_ne (C := "com/example/nav_by_schema/navbyschema/regex/StateSet") (Or.inl (wd hw 28 rfl)) (Or.inl (wd hw 38 rfl)) (by decide) (t := .long) (t' := .boolean) (by decide) (by decide)))
      have F100_bits := F72_bits.other W100 (Or.inr (slot_ne (C := "com/example/nav_by_schema/navbyschema/regex/StateSet") (Or.inl (wd hw 19 rfl)) (Or.inl (wd hw 38 rfl)) (by decide) (t := (.array .long)) (t' := .boolean) (by decide) (by decide)))
      have F100_slots := F72_slots.other W100 (Or.inr (slot_ne (C := "com/example/nav_by_schema/navbyschema/regex/StateSet") (Or.inl (wd hw 21 rfl)) (Or.inl (wd hw 38 rfl)) (by decide) (t := (.array .long)) (t' := .boolean) (by decide) (by decide)))
      have F100_shift := F72_shift.other W100 (Or.inr (slot_ne (C := "com/example/nav_by_schema/navbyschema/regex/StateSet") (Or.inl (wd hw 100 rfl)) (Or.inl (wd hw 38 rfl)) (by decide) (t := .int) (t' := .boolean) (by decide) (by decide)))
      have F100_dense := F72_dense.same W100
      have F100_bitmapFits := F72_bitmapFits.other W100 (Or.inr (slot_ne (C := "com/example/nav_by_schema/navbyschema/regex/StateSet") (Or.inl (wd hw 30 rfl)) (Or.inl (wd hw 38 rfl)) (by decide) (t := .boolean) (t' := .boolean) (by decide) (by decide)))
      have F100_overflowed := F72_overflowed.other W100 (Or.inr (slot_ne (C := "com/example/nav_by_schema/navbyschema/regex/StateSet") (Or.inl (wd hw 40 rfl)) (Or.inl (wd hw 38 rfl)) (by decide) (t := .boolean) (t' := .boolean) (by decide) (by decide)))
      have F100_count := F72_count.other W100 (Or.inr (slot_ne (C := "com/example/nav_by_schema/navbyschema/regex/StateSet") (Or.inl (wd hw 42 rfl)) (Or.inl (wd hw 38 rfl)) (by decide) (t := .int) (t' := .boolean) (by decide) (by decide)))
      have F100_maxSlots := F72_maxSlots.other W100 (Or.inr (slot_ne (C := "com/example/nav_by_schema/navbyschema/regex/StateSet") (Or.inl (wd hw 93 rfl)) (Or.inl (wd hw 38 rfl)) (by decide) (t := .int) (t' := .boolean) (by decide) (by decide)))
      have AB100 := AB72.other W100 d2
      have AS100 := AS72.other W100 d3
      have Zh100 : n0 ≤ h100.size := by rw [W100.size]; exact Zh72
      refine g_aload_n (i := 0) X100 hx (hb hby d4_47) (by rfl) rfl rfl ?_
      refine g_iconst (v := (0 : Int32)) X100 hx (hb hby d4_48) (by decide) rfl ?_
      refine g_putF X100 hx hZ hown (wd hw 39 rfl) e100 F100_overflowed E100_ (Or.inl (wd hw 40 rfl)) (wd hw 9 rfl) (ty := .boolean) (by decide) rfl rfl (hb hby d4_49) rfl ?_
      intro T101 h101 X101 e101 W101
      have N101 := Fr.snoc X101 N100 g1
      have E101_ := E100_.wr W101
      have F101_bound := F100_bound.other W101 (Or.inr (slot_ne (C := "com/example/nav_by_schema/navbyschema/regex/StateSet") (Or.inl (wd hw 28 rfl)) (Or.inl (wd hw 40 rfl)) (by decide) (t := .long) (t' := .boolean) (by decide) (by decide)))
      have F101_bits := F100_bits.other W101 (Or.inr (slot_ne (C := "com/example/nav_by_schema/navbyschema/regex/StateSet") (Or.inl (wd hw 19 rfl)) (Or.inl (wd hw 40 rfl)) (by decide) (t := (.array .long)) (t' := .boolean) (by decide) (by decide)))
      have F101_slots := F100_slots.other W101 (Or.inr (slot_ne (C := "com/example/nav_by_schema/navbyschema/regex/StateSet") (Or.inl (wd hw 21 rfl)) (Or.inl (wd hw 40 rfl)) (by decide) (t := (.array .long)) (t' := .boolean) (by decide) (by decide)))
      have F101_shift := F100_shift.other W101 (Or.inr (slot_ne (C := "com/example/nav_by_schema/navbyschema/regex/StateSet") (Or.inl (wd hw 100 rfl)) (Or.inl (wd hw 40 rfl)) (by decide) (t := .int) (t' := .boolean) (by decide) (by decide)))
      have F101_dense := F100_dense.other W101 (Or.inr (slot_ne (C := "com/example/nav_by_schema/navbyschema/regex/StateSet") (Or.inl (wd hw 38 rfl)) (Or.inl (wd hw 40 rfl)) (by decide) (t := .boolean) (t' := .boolean) (by decide) (by decide)))
      have F101_bitmapFits := F100_bitmapFits.other W101 (Or.inr (slot_ne (C := "com/example/nav_by_schema/navbyschema/regex/StateSet") (Or.inl (wd hw 30 rfl)) (Or.inl (wd hw 40 rfl)) (by decide) (t := .boolean) (t' := .boolean) (by decide) (by decide)))
      have F101_overflowed := F100_overflowed.same W101
      have F101_count := F100_count.other W101 (Or.inr (slot_ne (C := "com/example/nav_by_schema/navbyschema/regex/StateSet") (Or.inl (wd hw 42 rfl)) (Or.inl (wd hw 40 rfl)) (by decide) (t := .int) (t' := .boolean) (by decide) (by decide)))
      have F101_maxSlots := F100_maxSlots.other W101 (Or.inr (slot_ne (C := "com/example/nav_by_schema/navbyschema/regex/StateSet") (Or.inl (wd hw 93 rfl)) (Or.inl (wd hw 40 rfl)) (by decide) (t := .int) (t' := .boolean) (by decide) (by decide)))
      have AB101 := AB100.other W101 d2
      have AS101 := AS100.other W101 d3
      have Zh101 : n0 ≤ h101.size := by rw [W101.size]; exact Zh100
      refine g_aload_n (i := 0) X101 hx (hb hby d4_52) (by rfl) rfl rfl ?_
      refine g_iconst (v := (0 : Int32)) X101 hx (hb hby d4_53) (by decide) rfl ?_
      refine g_putF X101 hx hZ hown (wd hw 41 rfl) e101 F101_count E101_ (Or.inl (wd hw 42 rfl)) (wd hw 9 rfl) (ty := .int) (by decide) rfl rfl (hb hby d4_54) rfl ?_
      intro T102 h102 X102 e102 W102
      have N102 := Fr.snoc X102 N101 g1
      have E102_ := E101_.wr W102
      have F102_bound := F101_bound.other W102 (Or.inr (slot_ne (C := "com/example/nav_by_schema/navbyschema/regex/StateSet") (Or.inl (wd hw 28 rfl)) (Or.inl (wd hw 42 rfl)) (by decide) (t := .long) (t' := .int) (by decide) (by decide)))
      have F102_bits := F101_bits.other W102 (Or.inr (slot_ne (C := "com/example/nav_by_schema/navbyschema/regex/StateSet") (Or.inl (wd hw 19 rfl)) (Or.inl (wd hw 42 rfl)) (by decide) (t := (.array .long)) (t' := .int) (by decide) (by decide)))
      have F102_slots := F101_slots.other W102 (Or.inr (slot_ne (C := "com/example/nav_by_schema/navbyschema/regex/StateSet") (Or.inl (wd hw 21 rfl)) (Or.inl (wd hw 42 rfl)) (by decide) (t := (.array .long)) (t' := .int) (by decide) (by decide)))
      have F102_shift := F101_shift.other W102 (Or.inr (slot_ne (C := "com/example/nav_by_schema/navbyschema/regex/StateSet") (Or.inl (wd hw 100 rfl)) (Or.inl (wd hw 42 rfl)) (by decide) (t := .int) (t' := .int) (by decide) (by decide)))
      have F102_dense := F101_dense.other W102 (Or.inr (slot_ne (C := "com/example/nav_by_schema/navbyschema/regex/StateSet") (Or.inl (wd hw 38 rfl)) (Or.inl (wd hw 42 rfl)) (by decide) (t := .boolean) (t' := .int) (by decide) (by decide)))
      have F102_bitmapFits := F101_bitmapFits.other W102 (Or.inr (slot_ne (C := "com/example/nav_by_schema/navbyschema/regex/StateSet") (Or.inl (wd hw 30 rfl)) (Or.inl (wd hw 42 rfl)) (by decide) (t := .boolean) (t' := .int) (by decide) (by decide)))
      have F102_overflowed := F101_overflowed.other W102 (Or.inr (slot_ne (C := "com/example/nav_by_schema/navbyschema/regex/StateSet") (Or.inl (wd hw 40 rfl)) (Or.inl (wd hw 42 rfl)) (by decide) (t := .boolean) (t' := .int) (by decide) (by decide)))
      have F102_count := F101_count.same W102
      have F102_maxSlots := F101_maxSlots.other W102 (Or.inr (slot_ne (C := "com/example/nav_by_schema/navbyschema/regex/StateSet") (Or.inl (wd hw 93 rfl)) (Or.inl (wd hw 42 rfl)) (by decide) (t := .int) (t' := .int) (by decide) (by decide)))
      have AB102 := AB101.other W102 d2
      have AS102 := AS101.other W102 d3
      have Zh102 : n0 ≤ h102.size := by rw [W102.size]; exact Zh101
      refine g_aload_n (i := 0) X102 hx (hb hby d4_57) (by rfl) rfl rfl ?_
      refine g_getF X102 hx hZ hown (wd hw 37 rfl) e102 F102_dense (hb hby d4_58) rfl ?_
      intro T103 X103 e103
      refine g_if_eq X103 hx (hb hby d4_61) (by decide) (pt := 71) (by decide) rfl (fun q_ => absurd q_ (by decide)) (fun _ => ?_)
      refine g_aload_n (i := 0) X103 hx (hb hby d4_64) (by rfl) rfl rfl ?_
      rw [cm_gt, Int64.lt_iff_toInt_lt, own_wds D D0 D1, show (4096 : Int64).toInt = 4096 from rfl] at qw
      refine g_callP X103 hx hZ hown (wd hw 43 rfl) (wd hw 9 rfl) (wd hw 45 rfl) (wd hw 44 rfl) (wd hw 10 rfl) (wd hw 46 rfl) (by decide) e103 a E102_ (rm_eb l Z a0 hw a n0 D bb sb nb fb ns fs sh 1 1 0 0 mx h102 ⟨E102_, F102_bound, F102_bits, F102_slots, F102_shift, F102_dense, F102_bitmapFits, F102_overflowed, F102_count, F102_maxSlots, AB102, AS102, d1, d2, d3, g1, g2, g3, Zh102, b1, b2⟩ D0 (by omega)) (by rw [hml]; rfl) [] [] rfl (lenOf pd_104 rfl) rfl (by show 0 + (2 + 11) + 31 ≤ _; decide) (by decide) (by decide) (by decide) (hb hby d4_65) rfl ?_
      intro T104 v104 L104 X104 hQ104
      obtain ⟨rfl, N104, bb2, nb2, fb2, H2, w1, w2⟩ := hQ104
      have N104 := Fr.app N102 N104
      show Goes p e below _ T104 (mkF m 68 #[.val (.ref a), .val (.long D), .second, .val (.long bu), .second] [])
      refine g_goto X104 hx (hb hby d4_68) (by decide) (by decide) (pc' := 145) ?_
      exact g_ret X104 hx hlk hret rfl (by decide) (by decide) (hb hby d4_145) ⟨rfl, N104, bb2, sb, nb2, fb2, ns, fs, sh, 1, 1, 0, mx, H2, D0, D1, Or.inl ⟨rfl, w1, by omega, fun k k0 k1 => ⟨fun _ h => h.elim, fun _ => by rw [w2 _ (by show ((((XT.ushrL k 6).toInt32).toNatClampNeg : Nat) : Int) < _; rw [own_tnc, own_wdI k k0 (by omega)]; omega)]; exact Int64.zero_and⟩⟩⟩
theorem ef_rm_ini (m : MethodId) (x0 : Addr)  : entryFrame m #[(.ref x0)] 1 = mkF m 0 #[.val (.ref x0)] [] := by first | (simp [entryFrame, mkF, argsToLocals, Value.category]; done) | rfl
theorem pn_105 : plainFor (⟨"com/example/nav_by_schema/navbyschema/regex/StateSet", "<init>", "()V"⟩ : MethodName) = true := by first | exact plainFor_of_name (by first | (simp [plainName, overriddenIn]; done) | decide +kernel) | decide +kernel
set_option maxRecDepth 65536 in
set_option maxHeartbeats 40000000 in
theorem rm_ini (l : Launch) (Z : State) (a0 : Array Value) (hw : ∀ d ∈ tables_1, d.before a0 Z = true) (a : Addr) (n0 : Nat) (h0 : Heap) (g1 : n0 ≤ a) (Z0 : n0 ≤ h0.size) (E : Exa Z h0 a "com/example/nav_by_schema/navbyschema/regex/StateSet") (F_bound : Fld Z h0 a "com/example/nav_by_schema/navbyschema/regex/StateSet" "bound" "J" (.long 0)) (F_bits : Fld Z h0 a "com/example/nav_by_schema/navbyschema/regex/StateSet" "bits" "[J" .null) (F_slots : Fld Z h0 a "com/example/nav_by_schema/navbyschema/regex/StateSet" "slots" "[J" .null) (F_shift : Fld Z h0 a "com/example/nav_by_schema/navbyschema/regex/StateSet" "shift" "I" (.int 0)) (F_dense : Fld Z h0 a "com/example/nav_by_schema/navbyschema/regex/StateSet" "dense" "Z" (.int 0)) (F_bitmapFits : Fld Z h0 a "com/example/nav_by_schema/navbyschema/regex/StateSet" "bitmapFits" "Z" (.int 0)) (F_overflowed : Fld Z h0 a "com/example/nav_by_schema/navbyschema/regex/StateSet" "overflowed" "Z" (.int 0)) (F_count : Fld Z h0 a "com/example/nav_by_schema/navbyschema/regex/StateSet" "count" "I" (.int 0)) (F_maxSlots : Fld Z h0 a "com/example/nav_by_schema/navbyschema/regex/StateSet" "maxSlots" "I" (.int 0)) :
    Ctr l Z (⟨"com/example/nav_by_schema/navbyschema/regex/StateSet", "<init>", "()V"⟩ : MethodName) prog_26_method_1_code 1 (Option.none : Option FieldType) [] ({ frames := 1, cells := 2, slots := 0, locals := 12 } : Room) ({ frames := 1, cells := 2, slots := 0, locals := 12 } : Room).cells ({ frames := 1, cells := 2, slots := 0, locals := 12 } : Room).slots #[(.ref a)] h0 (fun u h L => u = none ∧ Fr n0 L ∧ ∃ bb sb, own_Ob Z h a n0 0 bb sb 0 (fun _ => 0) 0 (fun _ => 0) 0 0 0 0 0 0) := by
  refine Ctr.of pn_105 ?_
  intro p e s m below meth c s₁ hx hby hml hown hnm hret hlk hZ X0 e0
  refine Goes.cast (ef_rm_ini m a) ?_
  refine g_aload_n (i := 0) X0 hx (hb hby d2_0) (by rfl) rfl rfl ?_
  refine g_initO X0 hx hZ hown (wd hw 14 rfl) (wd hw 15 rfl) (wd hw 16 rfl) e0 (by rw [hml]; rfl) (hb hby d2_1) rfl (by decide) (by decide) ?_
  intro T106 X106 e106
  refine g_aload_n (i := 0) X106 hx (hb hby d2_4) (by rfl) rfl rfl ?_
  refine g_iconst (v := (0 : Int32)) X106 hx (hb hby d2_5) (by decide) rfl ?_
  refine g_newarr X106 hx hZ (ty := .long) rfl (wd hw 17 rfl) e106 (hb hby d2_6) rfl (by decide) 0 (by decide) (by decide) (by decide) (by decide) ?_
  intro T107 h107 cA107 a107 X107 e107 g107 Ex107 A107
  have An1 : ArJ Z h107 a107 .long 0 (fun _ => 0) := ArJ.new A107 0 rfl
  have dn2 : a107 ≠ a := fun q => absurd E.lt (by rw [← q, g107]; exact Nat.lt_irrefl _)
  have F107_bound := F_bound.ext Ex107
  have F107_bits := F_bits.ext Ex107
  have F107_slots := F_slots.ext Ex107
  have F107_shift := F_shift.ext Ex107
  have F107_dense := F_dense.ext Ex107
  have F107_bitmapFits := F_bitmapFits.ext Ex107
  have F107_overflowed := F_overflowed.ext Ex107
  have F107_count := F_count.ext Ex107
  have F107_maxSlots := F_maxSlots.ext Ex107
  have E1 := E.ext Ex107
  have gn1 : n0 ≤ a107 := by rw [g107]; exact Z0
  have Z1 : n0 ≤ h107.size := Nat.le_trans Z0 Ex107.1
  refine g_putF X107 hx hZ hown (wd hw 18 rfl) e107 F107_bits E1 (Or.inl (wd hw 19 rfl)) (wd hw 9 rfl) (ty := (.array .long)) (by decide) rfl rfl (hb hby d2_8) rfl ?_
  intro T108 h108 X108 e108 W108
  have N108 := Fr.snoc X108 (Fr.nil n0) g1
  have E108_ := E1.wr W108
  have F108_bound := F107_bound.other W108 (Or.inr (slot_ne (C := "com/example/nav_by_schema/navbyschema/regex/StateSet") (Or.inl (wd hw 28 rfl)) (Or.inl (wd hw 19 rfl)) (by decide) (t := .long) (t' := (.array .long)) (by decide) (by decide)))
  have F108_bits := F107_bits.same W108
  have F108_slots := F107_slots.other W108 (Or.inr (slot_ne (C := "com/example/nav_by_schema/navbyschema/regex/StateSet") (Or.inl (wd hw 21 rfl)) (Or.inl (wd hw 19 rfl)) (by decide) (t := (.array .long)) (t' := (.array .long)) (by decide) (by decide)))
  have F108_shift := F107_shift.other W108 (Or.inr (slot_ne (C := "com/example/nav_by_schema/navbyschema/regex/StateSet") (Or.inl (wd hw 100 rfl)) (Or.inl (wd hw 19 rfl)) (by decide) (t := .int) (t' := (.array .long)) (by decide) (by decide)))
  have F108_dense := F107_dense.other W108 (Or.inr (slot_ne (C := "com/example/nav_by_schema/navbyschema/regex/StateSet") (Or.inl (wd hw 38 rfl)) (Or.inl (wd hw 19 rfl)) (by decide) (t := .boolean) (t' := (.array .long)) (by decide) (by decide)))
  have F108_bitmapFits := F107_bitmapFits.other W108 (Or.inr (slot_ne (C := "com/example/nav_by_schema/navbyschema/regex/StateSet") (Or.inl (wd hw 30 rfl)) (Or.inl (wd hw 19 rfl)) (by decide) (t := .boolean) (t' := (.array .long)) (by decide) (by decide)))
  have F108_overflowed := F107_overflowed.other W108 (Or.inr (slot_ne (C := "com/example/nav_by_schema/navbyschema/regex/StateSet") (Or.inl (wd hw 40 rfl)) (Or.inl (wd hw 19 rfl)) (by decide) (t := .boolean) (t' := (.array .long)) (by decide) (by decide)))
  have F108_count := F107_count.other W108 (Or.inr (slot_ne (C := "com/example/nav_by_schema/navbyschema/regex/StateSet") (Or.inl (wd hw 42 rfl)) (Or.inl (wd hw 19 rfl)) (by decide) (t := .int) (t' := (.array .long)) (by decide) (by decide)))
  have F108_maxSlots := F107_maxSlots.other W108 (Or.inr (slot_ne (C := "com/example/nav_by_schema/navbyschema/regex/StateSet") (Or.inl (wd hw 93 rfl)) (Or.inl (wd hw 19 rfl)) (by decide) (t := .int) (t' := (.array .long)) (by decide) (by decide)))
  have An2 := An1.other W108 dn2
  have Z2 : n0 ≤ h108.size := by rw [W108.size]; exact Z1
  refine g_aload_n (i := 0) X108 hx (hb hby d2_11) (by rfl) rfl rfl ?_
  refine g_iconst (v := (0 : Int32)) X108 hx (hb hby d2_12) (by decide) rfl ?_
  refine g_newarr X108 hx hZ (ty := .long) rfl (wd hw 17 rfl) e108 (hb hby d2_13) rfl (by decide) 0 (by decide) (by decide) (by decide) (by decide) ?_
  intro T109 h109 cA109 a109 X109 e109 g109 Ex109 A109
  have As1 : ArJ Z h109 a109 .long 0 (fun _ => 0) := ArJ.new A109 0 rfl
  have dn3 : a109 ≠ a := fun q => absurd E108_.lt (by rw [← q, g109]; exact Nat.lt_irrefl _)
  have dn1 : a107 ≠ a109 := fun q => absurd An2.lt (by rw [q, g109]; exact Nat.lt_irrefl _)
  have F109_bound := F108_bound.ext Ex109
  have F109_bits := F108_bits.ext Ex109
  have F109_slots := F108_slots.ext Ex109
  have F109_shift := F108_shift.ext Ex109
  have F109_dense := F108_dense.ext Ex109
  have F109_bitmapFits := F108_bitmapFits.ext Ex109
  have F109_overflowed := F108_overflowed.ext Ex109
  have F109_count := F108_count.ext Ex109
  have F109_maxSlots := F108_maxSlots.ext Ex109
  have EE109 := E108_.ext Ex109
  have An3 := An2.ext Ex109
  have gn109 : n0 ≤ a109 := by rw [g109]; exact Z2
  have Z3 : n0 ≤ h109.size := Nat.le_trans Z2 Ex109.1
  refine g_putF X109 hx hZ hown (wd hw 20 rfl) e109 F109_slots EE109 (Or.inl (wd hw 21 rfl)) (wd hw 9 rfl) (ty := (.array .long)) (by decide) rfl rfl (hb hby d2_15) rfl ?_
  intro T110 h110 X110 e110 W110
  have N110 := Fr.snoc X110 N108 g1
  have E110_ := EE109.wr W110
  have F110_bound := F109_bound.other W110 (Or.inr (slot_ne (C := "com/example/nav_by_schema/navbyschema/regex/StateSet") (Or.inl (wd hw 28 rfl)) (Or.inl (wd hw 21 rfl)) (by decide) (t := .long) (t' := (.array .long)) (by decide) (by decide)))
  have F110_bits := F109_bits.other W110 (Or.inr (slot_ne (C := "com/example/nav_by_schema/navbyschema/regex/StateSet") (Or.inl (wd hw 19 rfl)) (Or.inl (wd hw 21 rfl)) (by decide) (t := (.array .long)) (t' := (.array .long)) (by decide) (by decide)))
  have F110_slots := F109_slots.same W110
  have F110_shift := F109_shift.other W110 (Or.inr (slot_ne (C := "com/example/nav_by_schema/navbyschema/regex/StateSet") (Or.inl (wd hw 100 rfl)) (Or.inl (wd hw 21 rfl)) (by decide) (t := .int) (t' := (.array .long)) (by decide) (by decide)))
  have F110_dense := F109_dense.other W110 (Or.inr (slot_ne (C := "com/example/nav_by_schema/navbyschema/regex/StateSet") (Or.inl (wd hw 38 rfl)) (Or.inl (wd hw 21 rfl)) (by decide) (t := .boolean) (t' := (.array .long)) (by decide) (by decide)))
  have F110_bitmapFits := F109_bitmapFits.other W110 (Or.inr (slot_ne (C := "com/example/nav_by_schema/navbyschema/regex/StateSet") (Or.inl (wd hw 30 rfl)) (Or.inl (wd hw 21 rfl)) (by decide) (t := .boolean) (t' := (.array .long)) (by decide) (by decide)))
  have F110_overflowed := F109_overflowed.other W110 (Or.inr (slot_ne (C := "com/example/nav_by_schema/navbyschema/regex/StateSet") (Or.inl (wd hw 40 rfl)) (Or.inl (wd hw 21 rfl)) (by decide) (t := .boolean) (t' := (.array .long)) (by decide) (by decide)))
  have F110_count := F109_count.other W110 (Or.inr (slot_ne (C := "com/example/nav_by_schema/navbyschema/regex/StateSet") (Or.inl (wd hw 42 rfl)) (Or.inl (wd hw 21 rfl)) (by decide) (t := .int) (t' := (.array .long)) (by decide) (by decide)))
  have F110_maxSlots := F109_maxSlots.other W110 (Or.inr (slot_ne (C := "com/example/nav_by_schema/navbyschema/regex/StateSet") (Or.inl (wd hw 93 rfl)) (Or.inl (wd hw 21 rfl)) (by decide) (t := .int) (t' := (.array .long)) (by decide) (by decide)))
  have AB110 := An3.other W110 dn2
  have AS110 := As1.other W110 dn3
  have Zh110 : n0 ≤ h110.size := by rw [W110.size]; exact Z3
  exact g_ret X110 hx hlk hret e110 (by decide) (by decide) (hb hby d2_18) ⟨rfl, N110, a107, a109, ⟨E110_, F110_bound, F110_bits, F110_slots, F110_shift, F110_dense, F110_bitmapFits, F110_overflowed, F110_count, F110_maxSlots, AB110, AS110, dn1, dn2, dn3, g1, gn1, gn109, Zh110, (Nat.zero_le _), (Or.inl rfl)⟩⟩
theorem ef_rm_cb (m : MethodId) (x0 : Addr) (x1 : Int64)  : entryFrame m #[(.ref x0), (.long x1)] 3 = mkF m 0 #[.val (.ref x0), .val (.long x1), .second] [] := by first | (simp [entryFrame, mkF, argsToLocals, Value.category]; done) | rfl
theorem pn_111 : plainFor (⟨"com/example/nav_by_schema/navbyschema/regex/StateSet", "checkBound", "(J)V"⟩ : MethodName) = true := by first | exact plainFor_of_name (by first | (simp [plainName, overriddenIn]; done) | decide +kernel) | decide +kernel
set_option maxRecDepth 65536 in
set_option maxHeartbeats 40000000 in
theorem rm_cb (l : Launch) (Z : State) (a0 : Array Value) (hw : ∀ d ∈ tables_1, d.before a0 Z = true) (a : Addr) (B kx : Int64) (h0 : Heap) (F_bound : Fld Z h0 a "com/example/nav_by_schema/navbyschema/regex/StateSet" "bound" "J" (.long B)) (x0 : 0 ≤ kx.toInt) (x1 : kx.toInt < B.toInt) :
    Ctr l Z (⟨"com/example/nav_by_schema/navbyschema/regex/StateSet", "checkBound", "(J)V"⟩ : MethodName) prog_26_method_7_code 3 (Option.none : Option FieldType) [] ({ frames := 0, cells := 0, slots := 0, locals := 0 } : Room) ({ frames := 0, cells := 0, slots := 0, locals := 0 } : Room).cells ({ frames := 0, cells := 0, slots := 0, locals := 0 } : Room).slots #[(.ref a), (.long kx)] h0 (fun u h L => u = none ∧ L = [] ∧ h = h0) := by
  refine Ctr.of pn_111 ?_
  intro p e s m below meth c s₁ hx hby hml hown hnm hret hlk hZ X0 e0
  refine Goes.cast (ef_rm_cb m a kx) ?_
  refine g_lload_n (i := 1) X0 hx (hb hby d8_0) (by rfl) rfl ?_
  refine g_lconst (v := (0 : Int64)) X0 hx (hb hby d8_1) (by decide) rfl ?_
  refine g_lcmp X0 hx (hb hby d8_2) rfl ?_
  refine g_if_lt X0 hx (hb hby d8_3) (by decide) (pt := 15) (by decide) rfl (fun q_ => absurd q_ (by rw [cm_lt, Int64.lt_iff_toInt_lt, show (0 : Int64).toInt = 0 from rfl]; omega)) (fun _ => ?_)
  refine g_lload_n (i := 1) X0 hx (hb hby d8_6) (by rfl) rfl ?_
  refine g_aload_n (i := 0) X0 hx (hb hby d8_7) (by rfl) rfl rfl ?_
  refine g_getF X0 hx hZ hown (wd hw 27 rfl) e0 F_bound (hb hby d8_8) rfl ?_
  intro T112 X112 e112
  refine g_lcmp X112 hx (hb hby d8_11) rfl ?_
  refine g_if_lt X112 hx (hb hby d8_12) (by decide) (pt := 33) (by decide) rfl (fun _ => ?_) (fun q_ => absurd ((cm_lt _ _).mpr (Int64.lt_iff_toInt_lt.mpr x1)) q_)
  exact g_ret X112 hx hlk hret e112 (by decide) (by decide) (hb hby d8_33) ⟨rfl, rfl, rfl⟩
theorem ef_rm_slot (m : MethodId) (x0 : Addr) (x1 : Int64)  : entryFrame m #[(.ref x0), (.long x1)] 5 = mkF m 0 #[.val (.ref x0), .val (.long x1), .second, .unset, .unset] [] := by first | (simp [entryFrame, mkF, argsToLocals, Value.category]; done) | rfl
theorem pn_113 : plainFor (⟨"com/example/nav_by_schema/navbyschema/regex/StateSet", "slot", "(J)I"⟩ : MethodName) = true := by first | exact plainFor_of_name (by first | (simp [plainName, overriddenIn]; done) | decide +kernel) | decide +kernel
set_option maxRecDepth 65536 in
set_option maxHeartbeats 40000000 in
theorem rm_slot (l : Launch) (Z : State) (a0 : Array Value) (hw : ∀ d ∈ tables_1, d.before a0 Z = true) (a sb : Addr) (kx : Int64) (fs : Nat → Int64) (P : List (Int64 × Nat)) (h0 : Heap) (F_slots : Fld Z h0 a "com/example/nav_by_schema/navbyschema/regex/StateSet" "slots" "[J" (.ref sb)) (F_shift : Fld Z h0 a "com/example/nav_by_schema/navbyschema/regex/StateSet" "shift" "I" (.int 58)) (AS : ArJ Z h0 sb .long 64 fs) (Tb : own_Tab fs P) (hP : P.length ≤ 3) :
    Ctr l Z (⟨"com/example/nav_by_schema/navbyschema/regex/StateSet", "slot", "(J)I"⟩ : MethodName) prog_26_method_13_code 5 (Option.some FieldType.int) [] ({ frames := 0, cells := 0, slots := 0, locals := 0 } : Room) ({ frames := 0, cells := 0, slots := 0, locals := 0 } : Room).cells ({ frames := 0, cells := 0, slots := 0, locals := 0 } : Room).slots #[(.ref a), (.long kx)] h0 (fun u h L => (∃ j : Int32, u = some (.int j) ∧ 0 ≤ j.toInt ∧ j.toInt < 64 ∧ own_At fs kx j.toNatClampNeg ∧ (fs j.toNatClampNeg = 0 ∨ fs j.toNatClampNeg = kx + 1)) ∧ L = [] ∧ h = h0) := by
  refine Ctr.of pn_113 ?_
  intro p e s m below meth c s₁ hx hby hml hown hnm hret hlk hZ X0 e0
  refine Goes.cast (ef_rm_slot m a kx) ?_
  refine g_aload_n (i := 0) X0 hx (hb hby d19_0) (by rfl) rfl rfl ?_
  refine g_getF X0 hx hZ hown (wd hw 20 rfl) e0 F_slots (hb hby d19_1) rfl ?_
  intro T114 X114 e114
  refine g_arraylengthJ X114 hx hZ e114 AS (z := (64 : Int32)) (show _ = (64 : Int32) by decide) (hb hby d19_4) rfl ?_
  refine g_iconst (v := (1 : Int32)) X114 hx (hb hby d19_5) (by decide) rfl ?_
  refine g_isub X114 hx (hb hby d19_6) rfl ?_
  rw [show ((64 : Int32) - (1 : Int32)) = (63 : Int32) by decide]
  refine g_istore_n (i := 3) X114 hx #[.val (.ref a), .val (.long kx), .second, .val (.int (63 : Int32)), .unset] (hb hby d19_7) rfl rfl ?_
  refine g_lload_n (i := 1) X114 hx (hb hby d19_8) (by rfl) rfl ?_
  refine g_ldc2J X114 hx hZ hown (wd hw 109 rfl) (hb hby d19_9) rfl ?_
  refine g_lmul X114 hx (hb hby d19_12) rfl ?_
  refine g_aload_n (i := 0) X114 hx (hb hby d19_13) (by rfl) rfl rfl ?_
  refine g_getF X114 hx hZ hown (wd hw 99 rfl) e114 F_shift (hb hby d19_14) rfl ?_
  intro T115 X115 e115
  refine g_lushr X115 hx (hb hby d19_17) rfl ?_
  refine g_l2i X115 hx (hb hby d19_18) rfl ?_
  refine g_istore (i := 4) X115 hx #[.val (.ref a), .val (.long kx), .second, .val (.int (63 : Int32)), .val (.int (XT.ushrL (kx * (-7046029254386353131 : Int64)) (58 : Int32)).toInt32)] (hb hby d19_19) rfl rfl ?_
  obtain ⟨nn, hnn, hfree⟩ := own_free Tb hP (own_h kx)
  have loop : ∀ (k i : Nat) (j : Int32) (T : State) (h : Heap), Stand p l e ({ frames := 0, cells := 0, slots := 0, locals := 0 } : Room) s m #[(.ref a), (.long kx)] below meth c T [] (0) (0) → T.heap = h → h = h0 → i + k = nn → j.toInt = (((own_h kx + i) % 64 : Nat) : Int) → (∀ q, q < i → fs ((own_h kx + q) % 64) ≠ 0 ∧ fs ((own_h kx + q) % 64) ≠ kx + 1) → Goes p e below (KQ s ({ frames := 0, cells := 0, slots := 0, locals := 0 } : Room).cells ({ frames := 0, cells := 0, slots := 0, locals := 0 } : Room).slots (fun u h L => (∃ j : Int32, u = some (.int j) ∧ 0 ≤ j.toInt ∧ j.toInt < 64 ∧ own_At fs kx j.toNatClampNeg ∧ (fs j.toNatClampNeg = 0 ∨ fs j.toNatClampNeg = kx + 1)) ∧ L = [] ∧ h = h0)) T (mkF m 21 #[.val (.ref a), .val (.long kx), .second, .val (.int (63 : Int32)), .val (.int j)] []) := by
    intro k
    induction k with
    | zero =>
      intro i j T h X eT eh g1 hj hq
      subst eh
      have hjn : j.toNatClampNeg = (own_h kx + i) % 64 := by rw [own_tnc]; omega
      have hj0 : 0 ≤ j.toInt := by omega
      have hj1 : j.toInt < 64 := by omega
      refine g_aload_n (i := 0) X hx (hb hby d19_21) (by rfl) rfl rfl ?_
      refine g_getF X hx hZ hown (wd hw 20 rfl) eT F_slots (hb hby d19_22) rfl ?_
      intro T116 X116 e116
      refine g_iload (i := 4) X116 hx (hb hby d19_25) (by rfl) rfl ?_
      refine g_laload' X116 hx hZ e116 AS (own_nneg hj0) (by rw [own_tnc]; omega) (x := (fs j.toNatClampNeg)) rfl (hb hby d19_27) rfl ?_
      refine g_lconst (v := (0 : Int64)) X116 hx (hb hby d19_28) (by decide) rfl ?_
      refine g_lcmp X116 hx (hb hby d19_29) rfl ?_
      refine g_if_eq X116 hx (hb hby d19_30) (by decide) (pt := 58) (by decide) rfl (fun _ => ?_) (fun q_ => absurd ((cm_eq _ _).mpr (by rw [hjn, show i = nn by omega]; exact hfree)) q_)
      refine g_iload (i := 4) X116 hx (hb hby d19_58) (by rfl) rfl ?_
      exact g_retI X116 hx hlk hret e116 (by decide) (by decide) (hb hby d19_60) ⟨⟨j, rfl, hj0, hj1, ⟨i, hjn.symm, hq⟩, Or.inl (by rw [hjn, show i = nn by omega]; exact hfree)⟩, rfl, rfl⟩
    | succ k ih =>
      intro i j T h X eT eh g1 hj hq
      subst eh
      have hjn : j.toNatClampNeg = (own_h kx + i) % 64 := by rw [own_tnc]; omega
      have hj0 : 0 ≤ j.toInt := by omega
      have hj1 : j.toInt < 64 := by omega
      refine g_aload_n (i := 0) X hx (hb hby d19_21) (by rfl) rfl rfl ?_
      refine g_getF X hx hZ hown (wd hw 20 rfl) eT F_slots (hb hby d19_22) rfl ?_
      intro T117 X117 e117
      refine g_iload (i := 4) X117 hx (hb hby d19_25) (by rfl) rfl ?_
      refine g_laload' X117 hx hZ e117 AS (own_nneg hj0) (by rw [own_tnc]; omega) (x := (fs j.toNatClampNeg)) rfl (hb hby d19_27) rfl ?_
      refine g_lconst (v := (0 : Int64)) X117 hx (hb hby d19_28) (by decide) rfl ?_
      refine g_lcmp X117 hx (hb hby d19_29) rfl ?_
      refine g_if_eq X117 hx (hb hby d19_30) (by decide) (pt := 58) (by decide) rfl (fun q1 => ?_) (fun q1 => ?_)
      · refine g_iload (i := 4) X117 hx (hb hby d19_58) (by rfl) rfl ?_
        exact g_retI X117 hx hlk hret e117 (by decide) (by decide) (hb hby d19_60) ⟨⟨j, rfl, hj0, hj1, ⟨i, hjn.symm, hq⟩, Or.inl ((cm_eq _ _).mp q1)⟩, rfl, rfl⟩
      · refine g_aload_n (i := 0) X117 hx (hb hby d19_33) (by rfl) rfl rfl ?_
        refine g_getF X117 hx hZ hown (wd hw 20 rfl) e117 F_slots (hb hby d19_34) rfl ?_
        intro T118 X118 e118
        refine g_iload (i := 4) X118 hx (hb hby d19_37) (by rfl) rfl ?_
        refine g_laload' X118 hx hZ e118 AS (own_nneg hj0) (by rw [own_tnc]; omega) (x := (fs j.toNatClampNeg)) rfl (hb hby d19_39) rfl ?_
        refine g_lload_n (i := 1) X118 hx (hb hby d19_40) (by rfl) rfl ?_
        refine g_lconst (v := (1 : Int64)) X118 hx (hb hby d19_41) (by decide) rfl ?_
        refine g_ladd X118 hx (hb hby d19_42) rfl ?_
        refine g_lcmp X118 hx (hb hby d19_43) rfl ?_
        refine g_if_eq X118 hx (hb hby d19_44) (by decide) (pt := 58) (by decide) rfl (fun q2 => ?_) (fun q2 => ?_)
        · refine g_iload (i := 4) X118 hx (hb hby d19_58) (by rfl) rfl ?_
          exact g_retI X118 hx hlk hret e118 (by decide) (by decide) (hb hby d19_60) ⟨⟨j, rfl, hj0, hj1, ⟨i, hjn.symm, hq⟩, Or.inr ((cm_eq _ _).mp q2)⟩, rfl, rfl⟩
        · refine g_iload (i := 4) X118 hx (hb hby d19_47) (by rfl) rfl ?_
          refine g_iconst (v := (1 : Int32)) X118 hx (hb hby d19_49) (by decide) rfl ?_
          refine g_iadd X118 hx (hb hby d19_50) rfl ?_
          refine g_iload_n (i := 3) X118 hx (hb hby d19_51) (by rfl) rfl ?_
          refine g_iand X118 hx (hb hby d19_52) rfl ?_
          refine g_istore (i := 4) X118 hx #[.val (.ref a), .val (.long kx), .second, .val (.int (63 : Int32)), .val (.int ((j + (1 : Int32)) &&& (63 : Int32)))] (hb hby d19_53) rfl rfl ?_
          refine g_goto X118 hx (hb hby d19_55) (by decide) (by decide) (pc' := 21) ?_
          have hm : ((j + (1 : Int32)) &&& (63 : Int32)).toInt = (((own_h kx + (i + 1)) % 64 : Nat) : Int) := by
            rw [c_mask _ 63 6 (by decide) (by decide), own_inc (by omega)]
            omega
          exact ih (i + 1) _ _ _ X118 e118 rfl (by omega) hm (fun q hq' => by
            by_cases r : q = i
            · rw [r, ← hjn]; exact ⟨fun t => q1 ((cm_eq _ _).mpr t), fun t => q2 ((cm_eq _ _).mpr t)⟩
            · exact hq q (by omega))
  exact loop nn 0 _ _ _ X115 e115 rfl (by omega) (by have u := own_hI (kx * (-7046029254386353131)); rw [show own_h kx = ((XT.ushrL (kx * (-7046029254386353131)) 58).toInt32).toInt.toNat from rfl]; omega) (fun q hq => absurd hq (Nat.not_lt_zero _))
theorem ef_rm_att (m : MethodId) (x0 : Addr) (x1 : Int64)  : entryFrame m #[(.ref x0), (.long x1)] 5 = mkF m 0 #[.val (.ref x0), .val (.long x1), .second, .unset, .unset] [] := by first | (simp [entryFrame, mkF, argsToLocals, Value.category]; done) | rfl
theorem pn_119 : plainFor (⟨"com/example/nav_by_schema/navbyschema/regex/StateSet", "addToTable", "(J)Z"⟩ : MethodName) = true := by first | exact plainFor_of_name (by first | (simp [plainName, overriddenIn]; done) | decide +kernel) | decide +kernel
set_option maxRecDepth 65536 in
set_option maxHeartbeats 40000000 in
theorem rm_att (l : Launch) (Z : State) (a0 : Array Value) (hw : ∀ d ∈ tables_1, d.before a0 Z = true) (a : Addr) (n0 : Nat) (B : Int64) (bb sb : Addr) (nb : Nat) (fb : Nat → Int64) (fs : Nat → Int64) (bf ct mx : Int32) (kx : Int64) (P : List (Int64 × Nat)) (h0 : Heap) (H : own_Ob Z h0 a n0 B bb sb nb fb 64 fs 58 0 bf 0 ct mx) (Tb : own_Tab fs P) (hP : P.length ≤ 2) (hct : ct.toInt = (P.length : Int)) (x0 : 0 ≤ kx.toInt) (x1 : kx.toInt < 4611686018427387904) :
    Ctr l Z (⟨"com/example/nav_by_schema/navbyschema/regex/StateSet", "addToTable", "(J)Z"⟩ : MethodName) prog_26_method_8_code 5 (Option.some FieldType.boolean) [] ({ frames := 1, cells := 0, slots := 0, locals := 16 } : Room) ({ frames := 1, cells := 0, slots := 0, locals := 16 } : Room).cells ({ frames := 1, cells := 0, slots := 0, locals := 16 } : Room).slots #[(.ref a), (.long kx)] h0 (fun u h L => ∃ fs' ct' P', Fr n0 L ∧ own_Ob Z h a n0 B bb sb nb fb 64 fs' 58 0 bf 0 ct' mx ∧ own_Tab fs' P' ∧ ct'.toInt = (P'.length : Int) ∧ ((u = some (.int 1) ∧ (¬ ∃ i, (kx, i) ∈ P) ∧ ∃ j, P' = (kx, j) :: P) ∨ (u = some (.int 0) ∧ (∃ i, (kx, i) ∈ P) ∧ P' = P))) := by
  refine Ctr.of pn_119 ?_
  intro p e s m below meth c s₁ hx hby hml hown hnm hret hlk hZ X0 e0
  refine Goes.cast (ef_rm_att m a kx) ?_
  obtain ⟨E, F_bound, F_bits, F_slots, F_shift, F_dense, F_bitmapFits, F_overflowed, F_count, F_maxSlots, AB, AS, d1, d2, d3, g1, g2, g3, g4, b1, b2⟩ := H
  refine g_aload_n (i := 0) X0 hx (hb hby d18_0) (by rfl) rfl rfl ?_
  refine g_lload_n (i := 1) X0 hx (hb hby d18_1) (by rfl) rfl ?_
  refine g_callP X0 hx hZ hown (wd hw 105 rfl) (wd hw 9 rfl) (wd hw 107 rfl) (wd hw 106 rfl) (wd hw 10 rfl) (wd hw 108 rfl) (by decide) e0 a E (rm_slot l Z a0 hw a sb kx fs P h0 F_slots F_shift AS Tb (by omega)) (by rw [hml]; rfl) [(.long kx)] [] rfl (lenOf pd_58 rfl) rfl (by show 0 + (5 + 11) + 0 ≤ _; decide) (by decide) (by decide) (by decide) (hb hby d18_2) rfl ?_
  intro T120 v120 L120 X120 hQ120
  obtain ⟨⟨j, rfl, j0, j1, hat, hfs⟩, rfl, e120⟩ := hQ120
  have N120 := Fr.app (Fr.nil n0) (Fr.nil n0)
  show Goes p e below _ T120 (mkF m 5 #[.val (.ref a), .val (.long kx), .second, .unset, .unset] [(.int j)])
  have jn : j.toNatClampNeg < 64 := by rw [own_tnc]; omega
  have hfi := own_find Tb hat jn x0 x1 hfs
  refine g_istore_n (i := 3) X120 hx #[.val (.ref a), .val (.long kx), .second, .val (.int j), .unset] (hb hby d18_5) rfl rfl ?_
  refine g_aload_n (i := 0) X120 hx (hb hby d18_6) (by rfl) rfl rfl ?_
  refine g_getF X120 hx hZ hown (wd hw 20 rfl) e120 F_slots (hb hby d18_7) rfl ?_
  intro T121 X121 e121
  refine g_iload_n (i := 3) X121 hx (hb hby d18_10) (by rfl) rfl ?_
  refine g_laload' X121 hx hZ e121 AS (own_nneg j0) jn (x := (fs j.toNatClampNeg)) rfl (hb hby d18_11) rfl ?_
  refine g_lconst (v := (0 : Int64)) X121 hx (hb hby d18_12) (by decide) rfl ?_
  refine g_lcmp X121 hx (hb hby d18_13) rfl ?_
  refine g_if_ne X121 hx (hb hby d18_14) (by decide) (pt := 21) (by decide) rfl (fun q1 => ?_) (fun q1 => ?_)
  · refine g_iconst (v := (0 : Int32)) X121 hx (hb hby d18_21) (by decide) rfl ?_
    refine g_istore (i := 4) X121 hx #[.val (.ref a), .val (.long kx), .second, .val (.int j), .val (.int (0 : Int32))] (hb hby d18_22) rfl rfl ?_
    refine g_iload (i := 4) X121 hx (hb hby d18_24) (by rfl) rfl ?_
    refine g_if_eq X121 hx (hb hby d18_26) (by decide) (pt := 115) (by decide) rfl (fun _ => ?_) (fun q_ => absurd (by decide) q_)
    refine g_aload_n (i := 0) X121 hx (hb hby d18_115) (by rfl) rfl rfl ?_
    refine g_getF X121 hx hZ hown (wd hw 37 rfl) e121 F_dense (hb hby d18_116) rfl ?_
    intro T122 X122 e122
    refine g_if_eq X122 hx (hb hby d18_119) (by decide) (pt := 142) (by decide) rfl (fun _ => ?_) (fun q_ => absurd (by decide) q_)
    refine g_iload (i := 4) X122 hx (hb hby d18_142) (by rfl) rfl ?_
    refine g_if_eq X122 hx (hb hby d18_144) (by decide) (pt := 173) (by decide) rfl (fun _ => ?_) (fun q_ => absurd (by decide) q_)
    refine g_iload (i := 4) X122 hx (hb hby d18_173) (by rfl) rfl ?_
    exact g_retN X122 hx (t := .boolean) (by simp) hlk hret e122 (by decide) (by decide) (hb hby d18_175) ⟨fs, ct, P, N120, ⟨E, F_bound, F_bits, F_slots, F_shift, F_dense, F_bitmapFits, F_overflowed, F_count, F_maxSlots, AB, AS, d1, d2, d3, g1, g2, g3, g4, b1, b2⟩, Tb, hct, Or.inr ⟨rfl, hfi.mp (fun r => q1 ((cm_eq _ _).mpr r)), rfl⟩⟩
  · have q0 := (cm_eq _ _).mp q1
    refine g_iconst (v := (1 : Int32)) X121 hx (hb hby d18_17) (by decide) rfl ?_
    refine g_goto X121 hx (hb hby d18_18) (by decide) (by decide) (pc' := 22) ?_
    refine g_istore (i := 4) X121 hx #[.val (.ref a), .val (.long kx), .second, .val (.int j), .val (.int (1 : Int32))] (hb hby d18_22) rfl rfl ?_
    refine g_iload (i := 4) X121 hx (hb hby d18_24) (by rfl) rfl ?_
    refine g_if_eq X121 hx (hb hby d18_26) (by decide) (pt := 115) (by decide) rfl (fun q_ => absurd q_ (by decide)) (fun _ => ?_)
    refine g_iconst (v := (2 : Int32)) X121 hx (hb hby d18_29) (by decide) rfl ?_
    refine g_aload_n (i := 0) X121 hx (hb hby d18_30) (by rfl) rfl rfl ?_
    refine g_getF X121 hx hZ hown (wd hw 41 rfl) e121 F_count (hb hby d18_31) rfl ?_
    intro T123 X123 e123
    refine g_iconst (v := (1 : Int32)) X123 hx (hb hby d18_34) (by decide) rfl ?_
    refine g_iadd X123 hx (hb hby d18_35) rfl ?_
    refine g_imul X123 hx (hb hby d18_36) rfl ?_
    refine g_aload_n (i := 0) X123 hx (hb hby d18_37) (by rfl) rfl rfl ?_
    refine g_getF X123 hx hZ hown (wd hw 20 rfl) e123 F_slots (hb hby d18_38) rfl ?_
    intro T124 X124 e124
    refine g_arraylengthJ X124 hx hZ e124 AS (z := (64 : Int32)) (show _ = (64 : Int32) by decide) (hb hby d18_41) rfl ?_
    have hc1 : (ct + 1).toInt = ct.toInt + 1 := own_inc (by omega)
    refine g_icmp_le X124 hx (hb hby d18_42) (by decide) (pt := 115) (by decide) rfl (fun _ => ?_) (fun q_ => absurd q_ (by
      rw [own_ltI]
      have u1 := c_imul 2 (ct + 1)
      have u2 := rng32 (2 * (ct + 1))
      rw [show (2 : Int32).toInt = 2 from rfl, hc1] at u1
      rw [show (64 : Int32).toInt = 64 from rfl]
      omega))
    refine g_aload_n (i := 0) X124 hx (hb hby d18_115) (by rfl) rfl rfl ?_
    refine g_getF X124 hx hZ hown (wd hw 37 rfl) e124 F_dense (hb hby d18_116) rfl ?_
    intro T125 X125 e125
    refine g_if_eq X125 hx (hb hby d18_119) (by decide) (pt := 142) (by decide) rfl (fun _ => ?_) (fun q_ => absurd (by decide) q_)
    refine g_iload (i := 4) X125 hx (hb hby d18_142) (by rfl) rfl ?_
    refine g_if_eq X125 hx (hb hby d18_144) (by decide) (pt := 173) (by decide) rfl (fun q_ => absurd q_ (by decide)) (fun _ => ?_)
    refine g_aload_n (i := 0) X125 hx (hb hby d18_147) (by rfl) rfl rfl ?_
    refine g_getF X125 hx hZ hown (wd hw 39 rfl) e125 F_overflowed (hb hby d18_148) rfl ?_
    intro T126 X126 e126
    refine g_if_ne X126 hx (hb hby d18_151) (by decide) (pt := 173) (by decide) rfl (fun q_ => absurd (by decide) q_) (fun _ => ?_)
    refine g_aload_n (i := 0) X126 hx (hb hby d18_154) (by rfl) rfl rfl ?_
    refine g_getF X126 hx hZ hown (wd hw 20 rfl) e126 F_slots (hb hby d18_155) rfl ?_
    intro T127 X127 e127
    refine g_iload_n (i := 3) X127 hx (hb hby d18_158) (by rfl) rfl ?_
    refine g_lload_n (i := 1) X127 hx (hb hby d18_159) (by rfl) rfl ?_
    refine g_lconst (v := (1 : Int64)) X127 hx (hb hby d18_160) (by decide) rfl ?_
    refine g_ladd X127 hx (hb hby d18_161) rfl ?_
    refine g_lastore' X127 hx hZ e127 AS (own_nneg j0) jn (hb hby d18_162) rfl ?_
    intro T128 h128 X128 e128 W128 Ar128
    have N128 := Fr.snoc X128 N120 g3
    have F128_bound := F_bound.other W128 (Or.inl (Ne.symm d3))
    have F128_bits := F_bits.other W128 (Or.inl (Ne.symm d3))
    have F128_slots := F_slots.other W128 (Or.inl (Ne.symm d3))
    have F128_shift := F_shift.other W128 (Or.inl (Ne.symm d3))
    have F128_dense := F_dense.other W128 (Or.inl (Ne.symm d3))
    have F128_bitmapFits := F_bitmapFits.other W128 (Or.inl (Ne.symm d3))
    have F128_overflowed := F_overflowed.other W128 (Or.inl (Ne.symm d3))
    have F128_count := F_count.other W128 (Or.inl (Ne.symm d3))
    have F128_maxSlots := F_maxSlots.other W128 (Or.inl (Ne.symm d3))
    have EW128 := E.wr W128
    have AB128 := AB.other W128 d1
    have Zh128 : n0 ≤ h128.size := by rw [W128.size]; exact g4
    refine g_aload_n (i := 0) X128 hx (hb hby d18_163) (by rfl) rfl rfl ?_
    refine g_dup X128 hx (hb hby d18_164) rfl rfl ?_
    refine g_getF X128 hx hZ hown (wd hw 41 rfl) e128 F128_count (hb hby d18_165) rfl ?_
    intro T129 X129 e129
    refine g_iconst (v := (1 : Int32)) X129 hx (hb hby d18_168) (by decide) rfl ?_
    refine g_iadd X129 hx (hb hby d18_169) rfl ?_
    refine g_putF X129 hx hZ hown (wd hw 41 rfl) e129 F128_count EW128 (Or.inl (wd hw 42 rfl)) (wd hw 9 rfl) (ty := .int) (by decide) rfl rfl (hb hby d18_170) rfl ?_
    intro T130 h130 X130 e130 W130
    have N130 := Fr.snoc X130 N128 g1
    have E130_ := EW128.wr W130
    have F130_bound := F128_bound.other W130 (Or.inr (slot_ne (C := "com/example/nav_by_schema/navbyschema/regex/StateSet") (Or.inl (wd hw 28 rfl)) (Or.inl (wd hw 42 rfl)) (by decide) (t := .long) (t' := .int) (by decide) (by decide)))
    have F130_bits := F128_bits.other W130 (Or.inr (slot_ne (C := "com/example/nav_by_schema/navbyschema/regex/StateSet") (Or.inl (wd hw 19 rfl)) (Or.inl (wd hw 42 rfl)) (by decide) (t := (.array .long)) (t' := .int) (by decide) (by decide)))
    have F130_slots := F128_slots.other W130 (Or.inr (slot_ne (C := "com/example/nav_by_schema/navbyschema/regex/StateSet") (Or.inl (wd hw 21 rfl)) (Or.inl (wd hw 42 rfl)) (by decide) (t := (.array .long)) (t' := .int) (by decide) (by decide)))
    have F130_shift := F128_shift.other W130 (Or.inr (slot_ne (C := "com/example/nav_by_schema/navbyschema/regex/StateSet") (Or.inl (wd hw 100 rfl)) (Or.inl (wd hw 42 rfl)) (by decide) (t := .int) (t' := .int) (by decide) (by decide)))
    have F130_dense := F128_dense.other W130 (Or.inr (slot_ne (C := "com/example/nav_by_schema/navbyschema/regex/StateSet") (Or.inl (wd hw 38 rfl)) (Or.inl (wd hw 42 rfl)) (by decide) (t := .boolean) (t' := .int) (by decide) (by decide)))
    have F130_bitmapFits := F128_bitmapFits.other W130 (Or.inr (slot_ne (C := "com/example/nav_by_schema/navbyschema/regex/StateSet") (Or.inl (wd hw 30 rfl)) (Or.inl (wd hw 42 rfl)) (by decide) (t := .boolean) (t' := .int) (by decide) (by decide)))
    have F130_overflowed := F128_overflowed.other W130 (Or.inr (slot_ne (C := "com/example/nav_by_schema/navbyschema/regex/StateSet") (Or.inl (wd hw 40 rfl)) (Or.inl (wd hw 42 rfl)) (by decide) (t := .boolean) (t' := .int) (by decide) (by decide)))
    have F130_count := F128_count.same W130
    have F130_maxSlots := F128_maxSlots.other W130 (Or.inr (slot_ne (C := "com/example/nav_by_schema/navbyschema/regex/StateSet") (Or.inl (wd hw 93 rfl)) (Or.inl (wd hw 42 rfl)) (by decide) (t := .int) (t' := .int) (by decide) (by decide)))
    have AB130 := AB128.other W130 d2
    have AS130 := Ar128.other W130 d3
    have Zh130 : n0 ≤ h130.size := by rw [W130.size]; exact Zh128
    refine g_iload (i := 4) X130 hx (hb hby d18_173) (by rfl) rfl ?_
    exact g_retN X130 hx (t := .boolean) (by simp) hlk hret e130 (by decide) (by decide) (hb hby d18_175) ⟨_, ct + 1, (kx, j.toNatClampNeg) :: P, N130, ⟨E130_, F130_bound, F130_bits, F130_slots, F130_shift, F130_dense, F130_bitmapFits, F130_overflowed, F130_count, F130_maxSlots, AB130, AS130, d1, d2, d3, g1, g2, g3, Zh130, b1, b2⟩, own_insert Tb hat jn x0 x1 q0, by rw [hc1, hct]; simp, Or.inl ⟨rfl, fun r => hfi.mpr r q0, _, rfl⟩⟩
theorem ef_rm_add (m : MethodId) (x0 : Addr) (x1 : Int64)  : entryFrame m #[(.ref x0), (.long x1)] 5 = mkF m 0 #[.val (.ref x0), .val (.long x1), .second, .unset, .unset] [] := by first | (simp [entryFrame, mkF, argsToLocals, Value.category]; done) | rfl
theorem pn_131 : plainFor (⟨"com/example/nav_by_schema/navbyschema/regex/StateSet", "add", "(J)Z"⟩ : MethodName) = true := by first | exact plainFor_of_name (by first | (simp [plainName, overriddenIn]; done) | decide +kernel) | decide +kernel
theorem pd_132 : parseMethodDescriptor "(J)V" = some ⟨[.long], none⟩ := by decide +kernel
theorem pd_134 : parseMethodDescriptor "(J)Z" = some ⟨[.long], some .boolean⟩ := by decide +kernel
set_option maxRecDepth 65536 in
set_option maxHeartbeats 40000000 in
theorem rm_add (l : Launch) (Z : State) (a0 : Array Value) (hw : ∀ d ∈ tables_1, d.before a0 Z = true) (a : Addr) (n0 : Nat) (B kx : Int64) (M : Int64 → Prop) (n : Nat) (h0 : Heap) (HS : own_SS Z h0 a n0 B M n) (hn : n ≤ 2) (x0 : 0 ≤ kx.toInt) (x1 : kx.toInt < B.toInt) :
    Ctr l Z (⟨"com/example/nav_by_schema/navbyschema/regex/StateSet", "add", "(J)Z"⟩ : MethodName) prog_26_method_5_code 5 (Option.some FieldType.boolean) [] ({ frames := 2, cells := 0, slots := 0, locals := 32 } : Room) ({ frames := 2, cells := 0, slots := 0, locals := 32 } : Room).cells ({ frames := 2, cells := 0, slots := 0, locals := 32 } : Room).slots #[(.ref a), (.long kx)] h0 (fun u h L => Fr n0 L ∧ own_SS Z h a n0 B (fun k => M k ∨ k = kx) (n + 1) ∧ ((u = some (.int 1) ∧ ¬ M kx) ∨ (u = some (.int 0) ∧ M kx))) := by
  refine Ctr.of pn_131 ?_
  intro p e s m below meth c s₁ hx hby hml hown hnm hret hlk hZ X0 e0
  refine Goes.cast (ef_rm_add m a kx) ?_
  obtain ⟨bb, sb, nb, fb, ns, fs, sh, de, bf, ct, mx, H, B0, B1, hM⟩ := HS
  have H1 := H
  obtain ⟨E, F_bound, F_bits, F_slots, F_shift, F_dense, F_bitmapFits, F_overflowed, F_count, F_maxSlots, AB, AS, d1, d2, d3, g1, g2, g3, g4, b1, b2⟩ := H
  refine g_aload_n (i := 0) X0 hx (hb hby d7_0) (by rfl) rfl rfl ?_
  refine g_lload_n (i := 1) X0 hx (hb hby d7_1) (by rfl) rfl ?_
  refine g_callP X0 hx hZ hown (wd hw 52 rfl) (wd hw 9 rfl) (wd hw 54 rfl) (wd hw 53 rfl) (wd hw 10 rfl) (wd hw 55 rfl) (by decide) e0 a E (rm_cb l Z a0 hw a B kx h0 F_bound x0 x1) (by rw [hml]; rfl) [(.long kx)] [] rfl (lenOf pd_132 rfl) rfl (by show 0 + (3 + 11) + 0 ≤ _; decide) (by decide) (by decide) (by decide) (hb hby d7_2) rfl ?_
  intro T132 v132 L132 X132 hQ132
  obtain ⟨rfl, rfl, e132⟩ := hQ132
  have N132 := Fr.app (Fr.nil n0) (Fr.nil n0)
  show Goes p e below _ T132 (mkF m 5 #[.val (.ref a), .val (.long kx), .second, .unset, .unset] [])
  refine g_aload_n (i := 0) X132 hx (hb hby d7_5) (by rfl) rfl rfl ?_
  refine g_getF X132 hx hZ hown (wd hw 37 rfl) e132 F_dense (hb hby d7_6) rfl ?_
  intro T133 X133 e133
  refine g_if_eq X133 hx (hb hby d7_9) (by decide) (pt := 59) (by decide) rfl (fun qd => ?_) (fun qd => ?_)
  · obtain ⟨rfl, rfl, rfl, P, Tb, hP, hct, hMP⟩ : de = 0 ∧ own_Tb ns fs sh ct B M n := hM.resolve_left (fun r => absurd (r.1.symm.trans qd) (by decide))
    refine g_aload_n (i := 0) X133 hx (hb hby d7_59) (by rfl) rfl rfl ?_
    refine g_lload_n (i := 1) X133 hx (hb hby d7_60) (by rfl) rfl ?_
    refine g_callP X133 hx hZ hown (wd hw 101 rfl) (wd hw 9 rfl) (wd hw 103 rfl) (wd hw 102 rfl) (wd hw 10 rfl) (wd hw 104 rfl) (by decide) e133 a E (rm_att l Z a0 hw a n0 B bb sb nb fb fs bf ct mx kx P h0 H1 Tb (by omega) hct x0 (by omega)) (by rw [hml]; rfl) [(.long kx)] [] rfl (lenOf pd_134 rfl) rfl (by show 0 + (5 + 11) + 16 ≤ _; decide) (by decide) (by decide) (by decide) (hb hby d7_61) rfl ?_
    intro T134 v134 L134 X134 hQ134
    obtain ⟨fs2, ct2, P2, N134, H2, Tb2, hct2, hor⟩ := hQ134
    have N134 := Fr.app N132 N134
    rcases hor with ⟨rfl, hno, jj, rfl⟩ | ⟨rfl, hyes, rfl⟩
    · show Goes p e below _ T134 (mkF m 64 #[.val (.ref a), .val (.long kx), .second, .unset, .unset] [(.int (1 : Int32))])
      refine g_istore_n (i := 3) X134 hx #[.val (.ref a), .val (.long kx), .second, .val (.int (1 : Int32)), .unset] (hb hby d7_64) rfl rfl ?_
      refine g_iload_n (i := 3) X134 hx (hb hby d7_65) (by rfl) rfl ?_
      exact g_retN X134 hx (t := .boolean) (by simp) hlk hret rfl (by decide) (by decide) (hb hby d7_66) ⟨N134, ⟨bb, sb, nb, fb, 64, fs2, 58, 0, bf, ct2, mx, H2, B0, B1, Or.inr ⟨rfl, rfl, rfl, _, Tb2, by simp; omega, hct2, fun k k0 k1 => ⟨fun r => r.elim (fun u => by obtain ⟨i, hi⟩ := (hMP k k0 k1).mp u; exact ⟨i, List.mem_cons_of_mem _ hi⟩) (fun u => ⟨jj, by rw [u]; exact List.mem_cons_self⟩), fun ⟨i, hi⟩ => (List.mem_cons.mp hi).elim (fun u => Or.inr (Prod.mk.inj u).1) (fun u => Or.inl ((hMP k k0 k1).mpr ⟨i, u⟩))⟩⟩⟩, Or.inl ⟨rfl, fun u => hno ((hMP kx x0 x1).mp u)⟩⟩
    · show Goes p e below _ T134 (mkF m 64 #[.val (.ref a), .val (.long kx), .second, .unset, .unset] [(.int (0 : Int32))])
      refine g_istore_n (i := 3) X134 hx #[.val (.ref a), .val (.long kx), .second, .val (.int (0 : Int32)), .unset] (hb hby d7_64) rfl rfl ?_
      refine g_iload_n (i := 3) X134 hx (hb hby d7_65) (by rfl) rfl ?_
      exact g_retN X134 hx (t := .boolean) (by simp) hlk hret rfl (by decide) (by decide) (hb hby d7_66) ⟨N134, ⟨bb, sb, nb, fb, 64, fs2, 58, 0, bf, ct2, mx, H2, B0, B1, Or.inr ⟨rfl, rfl, rfl, _, Tb2, by omega, hct2, fun k k0 k1 => ⟨fun r => r.elim (hMP k k0 k1).mp (fun u => by rw [u]; exact hyes), fun u => Or.inl ((hMP k k0 k1).mpr u)⟩⟩⟩, Or.inr ⟨rfl, (hMP kx x0 x1).mpr hyes⟩⟩
  · obtain ⟨hde, D1, D2, D3⟩ : de = 1 ∧ own_Dn nb fb B M := hM.resolve_right (fun r => qd r.1)
    subst hde
    have hwi := own_wdI kx x0 (by omega)
    have hwn : own_wd kx < nb := by show ((XT.ushrL kx 6).toInt32).toNatClampNeg < nb; rw [own_tnc, hwi]; omega
    refine g_lload_n (i := 1) X133 hx (hb hby d7_12) (by rfl) rfl ?_
    refine g_bipush (v := (6 : Int32)) X133 hx (hb hby d7_13) (by decide) rfl ?_
    refine g_lushr X133 hx (hb hby d7_15) rfl ?_
    refine g_l2i X133 hx (hb hby d7_16) rfl ?_
    refine g_istore (i := 4) X133 hx #[.val (.ref a), .val (.long kx), .second, .unset, .val (.int (XT.ushrL kx (6 : Int32)).toInt32)] (hb hby d7_17) rfl rfl ?_
    refine g_aload_n (i := 0) X133 hx (hb hby d7_19) (by rfl) rfl rfl ?_
    refine g_getF X133 hx hZ hown (wd hw 18 rfl) e133 F_bits (hb hby d7_20) rfl ?_
    intro T135 X135 e135
    refine g_iload (i := 4) X135 hx (hb hby d7_23) (by rfl) rfl ?_
    refine g_laload' X135 hx hZ e135 AB (own_nneg (by rw [hwi]; omega)) hwn (x := (fb (own_wd kx))) rfl (hb hby d7_25) rfl ?_
    refine g_lconst (v := (1 : Int64)) X135 hx (hb hby d7_26) (by decide) rfl ?_
    refine g_lload_n (i := 1) X135 hx (hb hby d7_27) (by rfl) rfl ?_
    refine g_l2i X135 hx (hb hby d7_28) rfl ?_
    refine g_lshl X135 hx (hb hby d7_29) rfl ?_
    refine g_land X135 hx (hb hby d7_30) rfl ?_
    refine g_lconst (v := (0 : Int64)) X135 hx (hb hby d7_31) (by decide) rfl ?_
    refine g_lcmp X135 hx (hb hby d7_32) rfl ?_
    refine g_if_ne X135 hx (hb hby d7_33) (by decide) (pt := 40) (by decide) rfl (fun q1 => ?_) (fun q1 => ?_)
    · refine g_iconst (v := (0 : Int32)) X135 hx (hb hby d7_40) (by decide) rfl ?_
      refine g_istore_n (i := 3) X135 hx #[.val (.ref a), .val (.long kx), .second, .val (.int (0 : Int32)), .val (.int (XT.ushrL kx (6 : Int32)).toInt32)] (hb hby d7_41) rfl rfl ?_
      refine g_aload_n (i := 0) X135 hx (hb hby d7_42) (by rfl) rfl rfl ?_
      refine g_getF X135 hx hZ hown (wd hw 18 rfl) e135 F_bits (hb hby d7_43) rfl ?_
      intro T136 X136 e136
      refine g_iload (i := 4) X136 hx (hb hby d7_46) (by rfl) rfl ?_
      refine g_dup2 X136 hx (hb hby d7_48) rfl rfl rfl ?_
      refine g_laload' X136 hx hZ e136 AB (own_nneg (by rw [hwi]; omega)) hwn (x := (fb (own_wd kx))) rfl (hb hby d7_49) rfl ?_
      refine g_lconst (v := (1 : Int64)) X136 hx (hb hby d7_50) (by decide) rfl ?_
      refine g_lload_n (i := 1) X136 hx (hb hby d7_51) (by rfl) rfl ?_
      refine g_l2i X136 hx (hb hby d7_52) rfl ?_
      refine g_lshl X136 hx (hb hby d7_53) rfl ?_
      refine g_lor X136 hx (hb hby d7_54) rfl ?_
      refine g_lastore' X136 hx hZ e136 AB (own_nneg (by rw [hwi]; omega)) hwn (hb hby d7_55) rfl ?_
      intro T137 h137 X137 e137 W137 Ar137
      have N137 := Fr.snoc X137 N132 g2
      have F137_bound := F_bound.other W137 (Or.inl (Ne.symm d2))
      have F137_bits := F_bits.other W137 (Or.inl (Ne.symm d2))
      have F137_slots := F_slots.other W137 (Or.inl (Ne.symm d2))
      have F137_shift := F_shift.other W137 (Or.inl (Ne.symm d2))
      have F137_dense := F_dense.other W137 (Or.inl (Ne.symm d2))
      have F137_bitmapFits := F_bitmapFits.other W137 (Or.inl (Ne.symm d2))
      have F137_overflowed := F_overflowed.other W137 (Or.inl (Ne.symm d2))
      have F137_count := F_count.other W137 (Or.inl (Ne.symm d2))
      have F137_maxSlots := F_maxSlots.other W137 (Or.inl (Ne.symm d2))
      have EW137 := E.wr W137
      have AS137 := AS.other W137 (Ne.symm d1)
      have Zh137 : n0 ≤ h137.size := by rw [W137.size]; exact g4
      refine g_goto X137 hx (hb hby d7_56) (by decide) (by decide) (pc' := 65) ?_
      refine g_iload_n (i := 3) X137 hx (hb hby d7_65) (by rfl) rfl ?_
      exact g_retN X137 hx (t := .boolean) (by simp) hlk hret e137 (by decide) (by decide) (hb hby d7_66) ⟨N137, ⟨bb, sb, nb, _, ns, fs, sh, 1, bf, ct, mx, ⟨EW137, F137_bound, F137_bits, F137_slots, F137_shift, F137_dense, F137_bitmapFits, F137_overflowed, F137_count, F137_maxSlots, Ar137, AS137, d1, d2, d3, g1, g2, g3, Zh137, b1, b2⟩, B0, B1, Or.inl ⟨rfl, D1, D2, fun k k0 k1 => (own_dadd fb k kx k0 (by omega) x0 (by omega)).trans ⟨fun ⟨u1, u2⟩ r => r.elim ((D3 k k0 k1).mp u1) u2, fun r => ⟨(D3 k k0 k1).mpr (fun t => r (Or.inl t)), fun t => r (Or.inr t)⟩⟩⟩⟩, Or.inr ⟨rfl, Classical.byContradiction fun u => q1 ((cm_eq _ _).mpr ((D3 kx x0 x1).mpr u))⟩⟩
    · refine g_iconst (v := (1 : Int32)) X135 hx (hb hby d7_36) (by decide) rfl ?_
      refine g_goto X135 hx (hb hby d7_37) (by decide) (by decide) (pc' := 41) ?_
      refine g_istore_n (i := 3) X135 hx #[.val (.ref a), .val (.long kx), .second, .val (.int (1 : Int32)), .val (.int (XT.ushrL kx (6 : Int32)).toInt32)] (hb hby d7_41) rfl rfl ?_
      refine g_aload_n (i := 0) X135 hx (hb hby d7_42) (by rfl) rfl rfl ?_
      refine g_getF X135 hx hZ hown (wd hw 18 rfl) e135 F_bits (hb hby d7_43) rfl ?_
      intro T138 X138 e138
      refine g_iload (i := 4) X138 hx (hb hby d7_46) (by rfl) rfl ?_
      refine g_dup2 X138 hx (hb hby d7_48) rfl rfl rfl ?_
      refine g_laload' X138 hx hZ e138 AB (own_nneg (by rw [hwi]; omega)) hwn (x := (fb (own_wd kx))) rfl (hb hby d7_49) rfl ?_
      refine g_lconst (v := (1 : Int64)) X138 hx (hb hby d7_50) (by decide) rfl ?_
      refine g_lload_n (i := 1) X138 hx (hb hby d7_51) (by rfl) rfl ?_
      refine g_l2i X138 hx (hb hby d7_52) rfl ?_
      refine g_lshl X138 hx (hb hby d7_53) rfl ?_
      refine g_lor X138 hx (hb hby d7_54) rfl ?_
      refine g_lastore' X138 hx hZ e138 AB (own_nneg (by rw [hwi]; omega)) hwn (hb hby d7_55) rfl ?_
      intro T139 h139 X139 e139 W139 Ar139
      have N139 := Fr.snoc X139 N132 g2
      have F139_bound := F_bound.other W139 (Or.inl (Ne.symm d2))
      have F139_bits := F_bits.other W139 (Or.inl (Ne.symm d2))
      have F139_slots := F_slots.other W139 (Or.inl (Ne.symm d2))
      have F139_shift := F_shift.other W139 (Or.inl (Ne.symm d2))
      have F139_dense := F_dense.other W139 (Or.inl (Ne.symm d2))
      have F139_bitmapFits := F_bitmapFits.other W139 (Or.inl (Ne.symm d2))
      have F139_overflowed := F_overflowed.other W139 (Or.inl (Ne.symm d2))
      have F139_count := F_count.other W139 (Or.inl (Ne.symm d2))
      have F139_maxSlots := F_maxSlots.other W139 (Or.inl (Ne.symm d2))
      have EW139 := E.wr W139
      have AS139 := AS.other W139 (Ne.symm d1)
      have Zh139 : n0 ≤ h139.size := by rw [W139.size]; exact g4
      refine g_goto X139 hx (hb hby d7_56) (by decide) (by decide) (pc' := 65) ?_
      refine g_iload_n (i := 3) X139 hx (hb hby d7_65) (by rfl) rfl ?_
      exact g_retN X139 hx (t := .boolean) (by simp) hlk hret e139 (by decide) (by decide) (hb hby d7_66) ⟨N139, ⟨bb, sb, nb, _, ns, fs, sh, 1, bf, ct, mx, ⟨EW139, F139_bound, F139_bits, F139_slots, F139_shift, F139_dense, F139_bitmapFits, F139_overflowed, F139_count, F139_maxSlots, Ar139, AS139, d1, d2, d3, g1, g2, g3, Zh139, b1, b2⟩, B0, B1, Or.inl ⟨rfl, D1, D2, fun k k0 k1 => (own_dadd fb k kx k0 (by omega) x0 (by omega)).trans ⟨fun ⟨u1, u2⟩ r => r.elim ((D3 k k0 k1).mp u1) u2, fun r => ⟨(D3 k k0 k1).mpr (fun t => r (Or.inl t)), fun t => r (Or.inr t)⟩⟩⟩⟩, Or.inl ⟨rfl, (D3 kx x0 x1).mp ((cm_eq _ _).mp q1)⟩⟩
theorem ef_rm_con (m : MethodId) (x0 : Addr) (x1 : Int64)  : entryFrame m #[(.ref x0), (.long x1)] 4 = mkF m 0 #[.val (.ref x0), .val (.long x1), .second, .unset] [] := by first | (simp [entryFrame, mkF, argsToLocals, Value.category]; done) | rfl
theorem pn_140 : plainFor (⟨"com/example/nav_by_schema/navbyschema/regex/StateSet", "contains", "(J)Z"⟩ : MethodName) = true := by first | exact plainFor_of_name (by first | (simp [plainName, overriddenIn]; done) | decide +kernel) | decide +kernel
set_option maxRecDepth 65536 in
set_option maxHeartbeats 40000000 in
theorem rm_con (l : Launch) (Z : State) (a0 : Array Value) (hw : ∀ d ∈ tables_1, d.before a0 Z = true) (a : Addr) (n0 : Nat) (B kx : Int64) (M : Int64 → Prop) (n : Nat) (h0 : Heap) (HS : own_SS Z h0 a n0 B M n) (hn : n ≤ 3) (x0 : 0 ≤ kx.toInt) (x1 : kx.toInt < B.toInt) :
    Ctr l Z (⟨"com/example/nav_by_schema/navbyschema/regex/StateSet", "contains", "(J)Z"⟩ : MethodName) prog_26_method_4_code 4 (Option.some FieldType.boolean) [] ({ frames := 1, cells := 0, slots := 0, locals := 17 } : Room) ({ frames := 1, cells := 0, slots := 0, locals := 17 } : Room).cells ({ frames := 1, cells := 0, slots := 0, locals := 17 } : Room).slots #[(.ref a), (.long kx)] h0 (fun u h L => ((u = some (.int 1) ∧ M kx) ∨ (u = some (.int 0) ∧ ¬ M kx)) ∧ L = [] ∧ h = h0) := by
  refine Ctr.of pn_140 ?_
  intro p e s m below meth c s₁ hx hby hml hown hnm hret hlk hZ X0 e0
  refine Goes.cast (ef_rm_con m a kx) ?_
  obtain ⟨bb, sb, nb, fb, ns, fs, sh, de, bf, ct, mx, H, B0, B1, hM⟩ := HS
  obtain ⟨E, F_bound, F_bits, F_slots, F_shift, F_dense, F_bitmapFits, F_overflowed, F_count, F_maxSlots, AB, AS, d1, d2, d3, g1, g2, g3, g4, b1, b2⟩ := H
  refine g_aload_n (i := 0) X0 hx (hb hby d10_0) (by rfl) rfl rfl ?_
  refine g_lload_n (i := 1) X0 hx (hb hby d10_1) (by rfl) rfl ?_
  refine g_callP X0 hx hZ hown (wd hw 52 rfl) (wd hw 9 rfl) (wd hw 54 rfl) (wd hw 53 rfl) (wd hw 10 rfl) (wd hw 55 rfl) (by decide) e0 a E (rm_cb l Z a0 hw a B kx h0 F_bound x0 x1) (by rw [hml]; rfl) [(.long kx)] [] rfl (lenOf pd_132 rfl) rfl (by show 0 + (3 + 11) + 0 ≤ _; decide) (by decide) (by decide) (by decide) (hb hby d10_2) rfl ?_
  intro T141 v141 L141 X141 hQ141
  obtain ⟨rfl, rfl, e141⟩ := hQ141
  show Goes p e below _ T141 (mkF m 5 #[.val (.ref a), .val (.long kx), .second, .unset] [])
  refine g_aload_n (i := 0) X141 hx (hb hby d10_5) (by rfl) rfl rfl ?_
  refine g_getF X141 hx hZ hown (wd hw 37 rfl) e141 F_dense (hb hby d10_6) rfl ?_
  intro T142 X142 e142
  refine g_if_eq X142 hx (hb hby d10_9) (by decide) (pt := 41) (by decide) rfl (fun qd => ?_) (fun qd => ?_)
  · obtain ⟨rfl, rfl, rfl, P, Tb, hP, hct, hMP⟩ : de = 0 ∧ own_Tb ns fs sh ct B M n := hM.resolve_left (fun r => absurd (r.1.symm.trans qd) (by decide))
    refine g_aload_n (i := 0) X142 hx (hb hby d10_41) (by rfl) rfl rfl ?_
    refine g_getF X142 hx hZ hown (wd hw 20 rfl) e142 F_slots (hb hby d10_42) rfl ?_
    intro T143 X143 e143
    refine g_aload_n (i := 0) X143 hx (hb hby d10_45) (by rfl) rfl rfl ?_
    refine g_lload_n (i := 1) X143 hx (hb hby d10_46) (by rfl) rfl ?_
    refine g_callP X143 hx hZ hown (wd hw 105 rfl) (wd hw 9 rfl) (wd hw 107 rfl) (wd hw 106 rfl) (wd hw 10 rfl) (wd hw 108 rfl) (by decide) e143 a E (rm_slot l Z a0 hw a sb kx fs P h0 F_slots F_shift AS Tb (by omega)) (by rw [hml]; rfl) [(.long kx)] [(.ref sb)] rfl (lenOf pd_58 rfl) rfl (by show 1 + (5 + 11) + 0 ≤ _; decide) (by decide) (by decide) (by decide) (hb hby d10_47) rfl ?_
    intro T144 v144 L144 X144 hQ144
    obtain ⟨⟨j, rfl, j0, j1, hat, hfs⟩, rfl, e144⟩ := hQ144
    show Goes p e below _ T144 (mkF m 50 #[.val (.ref a), .val (.long kx), .second, .unset] [(.int j), (.ref sb)])
    have jn : j.toNatClampNeg < 64 := by rw [own_tnc]; omega
    have hfi := own_find Tb hat jn x0 (by omega) hfs
    refine g_laload' X144 hx hZ e144 AS (own_nneg j0) jn (x := (fs j.toNatClampNeg)) rfl (hb hby d10_50) rfl ?_
    refine g_lconst (v := (0 : Int64)) X144 hx (hb hby d10_51) (by decide) rfl ?_
    refine g_lcmp X144 hx (hb hby d10_52) rfl ?_
    refine g_if_eq X144 hx (hb hby d10_53) (by decide) (pt := 60) (by decide) rfl (fun q1 => ?_) (fun q1 => ?_)
    · refine g_iconst (v := (0 : Int32)) X144 hx (hb hby d10_60) (by decide) rfl ?_
      refine g_istore_n (i := 3) X144 hx #[.val (.ref a), .val (.long kx), .second, .val (.int (0 : Int32))] (hb hby d10_61) rfl rfl ?_
      refine g_iload_n (i := 3) X144 hx (hb hby d10_62) (by rfl) rfl ?_
      exact g_retN X144 hx (t := .boolean) (by simp) hlk hret e144 (by decide) (by decide) (hb hby d10_63) ⟨Or.inr ⟨rfl, fun r => hfi.mpr ((hMP kx x0 x1).mp r) ((cm_eq _ _).mp q1)⟩, rfl, rfl⟩
    · refine g_iconst (v := (1 : Int32)) X144 hx (hb hby d10_56) (by decide) rfl ?_
      refine g_goto X144 hx (hb hby d10_57) (by decide) (by decide) (pc' := 61) ?_
      refine g_istore_n (i := 3) X144 hx #[.val (.ref a), .val (.long kx), .second, .val (.int (1 : Int32))] (hb hby d10_61) rfl rfl ?_
      refine g_iload_n (i := 3) X144 hx (hb hby d10_62) (by rfl) rfl ?_
      exact g_retN X144 hx (t := .boolean) (by simp) hlk hret e144 (by decide) (by decide) (hb hby d10_63) ⟨Or.inl ⟨rfl, (hMP kx x0 x1).mpr (hfi.mp (fun r => q1 ((cm_eq _ _).mpr r)))⟩, rfl, rfl⟩
  · obtain ⟨hde, D1, D2, D3⟩ : de = 1 ∧ own_Dn nb fb B M := hM.resolve_right (fun r => qd r.1)
    subst hde
    have hwi := own_wdI kx x0 (by omega)
    have hwn : own_wd kx < nb := by show ((XT.ushrL kx 6).toInt32).toNatClampNeg < nb; rw [own_tnc, hwi]; omega
    refine g_aload_n (i := 0) X142 hx (hb hby d10_12) (by rfl) rfl rfl ?_
    refine g_getF X142 hx hZ hown (wd hw 18 rfl) e142 F_bits (hb hby d10_13) rfl ?_
    intro T145 X145 e145
    refine g_lload_n (i := 1) X145 hx (hb hby d10_16) (by rfl) rfl ?_
    refine g_bipush (v := (6 : Int32)) X145 hx (hb hby d10_17) (by decide) rfl ?_
    refine g_lushr X145 hx (hb hby d10_19) rfl ?_
    refine g_l2i X145 hx (hb hby d10_20) rfl ?_
    refine g_laload' X145 hx hZ e145 AB (own_nneg (by rw [hwi]; omega)) hwn (x := (fb (own_wd kx))) rfl (hb hby d10_21) rfl ?_
    refine g_lconst (v := (1 : Int64)) X145 hx (hb hby d10_22) (by decide) rfl ?_
    refine g_lload_n (i := 1) X145 hx (hb hby d10_23) (by rfl) rfl ?_
    refine g_l2i X145 hx (hb hby d10_24) rfl ?_
    refine g_lshl X145 hx (hb hby d10_25) rfl ?_
    refine g_land X145 hx (hb hby d10_26) rfl ?_
    refine g_lconst (v := (0 : Int64)) X145 hx (hb hby d10_27) (by decide) rfl ?_
    refine g_lcmp X145 hx (hb hby d10_28) rfl ?_
    refine g_if_eq X145 hx (hb hby d10_29) (by decide) (pt := 36) (by decide) rfl (fun q1 => ?_) (fun q1 => ?_)
    · refine g_iconst (v := (0 : Int32)) X145 hx (hb hby d10_36) (by decide) rfl ?_
      refine g_istore_n (i := 3) X145 hx #[.val (.ref a), .val (.long kx), .second, .val (.int (0 : Int32))] (hb hby d10_37) rfl rfl ?_
      refine g_goto X145 hx (hb hby d10_38) (by decide) (by decide) (pc' := 62) ?_
      refine g_iload_n (i := 3) X145 hx (hb hby d10_62) (by rfl) rfl ?_
      exact g_retN X145 hx (t := .boolean) (by simp) hlk hret e145 (by decide) (by decide) (hb hby d10_63) ⟨Or.inr ⟨rfl, (D3 kx x0 x1).mp ((cm_eq _ _).mp q1)⟩, rfl, rfl⟩
    · refine g_iconst (v := (1 : Int32)) X145 hx (hb hby d10_32) (by decide) rfl ?_
      refine g_goto X145 hx (hb hby d10_33) (by decide) (by decide) (pc' := 37) ?_
      refine g_istore_n (i := 3) X145 hx #[.val (.ref a), .val (.long kx), .second, .val (.int (1 : Int32))] (hb hby d10_37) rfl rfl ?_
      refine g_goto X145 hx (hb hby d10_38) (by decide) (by decide) (pc' := 62) ?_
      refine g_iload_n (i := 3) X145 hx (hb hby d10_62) (by rfl) rfl ?_
      exact g_retN X145 hx (t := .boolean) (by simp) hlk hret e145 (by decide) (by decide) (hb hby d10_63) ⟨Or.inl ⟨rfl, Classical.byContradiction fun u => q1 ((cm_eq _ _).mpr ((D3 kx x0 x1).mpr u))⟩, rfl, rfl⟩
theorem ef_rm_rel (m : MethodId) (x0 : Addr)  : entryFrame m #[(.ref x0)] 1 = mkF m 0 #[.val (.ref x0)] [] := by first | (simp [entryFrame, mkF, argsToLocals, Value.category]; done) | rfl
theorem pn_146 : plainFor (⟨"com/example/nav_by_schema/navbyschema/regex/StateSet", "release", "()V"⟩ : MethodName) = true := by first | exact plainFor_of_name (by first | (simp [plainName, overriddenIn]; done) | decide +kernel) | decide +kernel
set_option maxRecDepth 65536 in
set_option maxHeartbeats 40000000 in
theorem rm_rel (l : Launch) (Z : State) (a0 : Array Value) (hw : ∀ d ∈ tables_1, d.before a0 Z = true) (a : Addr) (n0 : Nat) (B : Int64) (M : Int64 → Prop) (n : Nat) (h0 : Heap) (HS : own_SS Z h0 a n0 B M n) :
    Ctr l Z (⟨"com/example/nav_by_schema/navbyschema/regex/StateSet", "release", "()V"⟩ : MethodName) prog_26_method_6_code 1 (Option.none : Option FieldType) [] ({ frames := 0, cells := 0, slots := 0, locals := 0 } : Room) ({ frames := 0, cells := 0, slots := 0, locals := 0 } : Room).cells ({ frames := 0, cells := 0, slots := 0, locals := 0 } : Room).slots #[(.ref a)] h0 (fun u h L => u = none ∧ L = [] ∧ h = h0) := by
  refine Ctr.of pn_146 ?_
  intro p e s m below meth c s₁ hx hby hml hown hnm hret hlk hZ X0 e0
  refine Goes.cast (ef_rm_rel m a) ?_
  obtain ⟨bb, sb, nb, fb, ns, fs, sh, de, bf, ct, mx, H, B0, B1, hM⟩ := HS
  obtain ⟨E, F_bound, F_bits, F_slots, F_shift, F_dense, F_bitmapFits, F_overflowed, F_count, F_maxSlots, AB, AS, d1, d2, d3, g1, g2, g3, g4, b1, b2⟩ := H
  have hnb : (nb.toInt32).toInt = (nb : Int) := len_toInt (by omega)
  have hns : (ns.toInt32).toInt = (ns : Int) := len_toInt (by omega)
  refine g_aload_n (i := 0) X0 hx (hb hby d9_0) (by rfl) rfl rfl ?_
  refine g_getF X0 hx hZ hown (wd hw 18 rfl) e0 F_bits (hb hby d9_1) rfl ?_
  intro T147 X147 e147
  refine g_arraylengthJ X147 hx hZ e147 AB (z := nb.toInt32) rfl (hb hby d9_4) rfl ?_
  refine g_sipush (v := (4096 : Int32)) X147 hx (hb hby d9_5) (by decide) rfl ?_
  refine g_icmp_le X147 hx (hb hby d9_8) (by decide) (pt := 18) (by decide) rfl (fun _ => ?_) (fun q_ => absurd q_ (by rw [own_ltI, hnb, show (4096 : Int32).toInt = 4096 from rfl]; omega))
  refine g_aload_n (i := 0) X147 hx (hb hby d9_18) (by rfl) rfl rfl ?_
  refine g_getF X147 hx hZ hown (wd hw 20 rfl) e147 F_slots (hb hby d9_19) rfl ?_
  intro T148 X148 e148
  refine g_arraylengthJ X148 hx hZ e148 AS (z := ns.toInt32) rfl (hb hby d9_22) rfl ?_
  refine g_sipush (v := (4096 : Int32)) X148 hx (hb hby d9_23) (by decide) rfl ?_
  refine g_icmp_le X148 hx (hb hby d9_26) (by decide) (pt := 36) (by decide) rfl (fun _ => ?_) (fun q_ => absurd q_ (by rw [own_ltI, hns, show (4096 : Int32).toInt = 4096 from rfl]; omega))
  exact g_ret X148 hx hlk hret e148 (by decide) (by decide) (hb hby d9_36) ⟨rfl, rfl, rfl⟩
theorem ef_rm_rem (m : MethodId) (x0 : Addr)  : entryFrame m #[(.ref x0)] 1 = mkF m 0 #[.val (.ref x0)] [] := by first | (simp [entryFrame, mkF, argsToLocals, Value.category]; done) | rfl
theorem pn_149 : plainFor (⟨"com/example/nav_by_schema/navbyschema/regex/StateSet", "remembers", "()Z"⟩ : MethodName) = true := by first | exact plainFor_of_name (by first | (simp [plainName, overriddenIn]; done) | decide +kernel) | decide +kernel
set_option maxRecDepth 65536 in
set_option maxHeartbeats 40000000 in
theorem rm_rem (l : Launch) (Z : State) (a0 : Array Value) (hw : ∀ d ∈ tables_1, d.before a0 Z = true) (a : Addr) (n0 : Nat) (B : Int64) (M : Int64 → Prop) (n : Nat) (h0 : Heap) (HS : own_SS Z h0 a n0 B M n) :
    Ctr l Z (⟨"com/example/nav_by_schema/navbyschema/regex/StateSet", "remembers", "()Z"⟩ : MethodName) prog_26_method_3_code 1 (Option.some FieldType.boolean) [] ({ frames := 0, cells := 0, slots := 0, locals := 0 } : Room) ({ frames := 0, cells := 0, slots := 0, locals := 0 } : Room).cells ({ frames := 0, cells := 0, slots := 0, locals := 0 } : Room).slots #[(.ref a)] h0 (fun u h L => u = some (.int 1) ∧ L = [] ∧ h = h0) := by
  refine Ctr.of pn_149 ?_
  intro p e s m below meth c s₁ hx hby hml hown hnm hret hlk hZ X0 e0
  refine Goes.cast (ef_rm_rem m a) ?_
  obtain ⟨bb, sb, nb, fb, ns, fs, sh, de, bf, ct, mx, H, B0, B1, hM⟩ := HS
  obtain ⟨E, F_bound, F_bits, F_slots, F_shift, F_dense, F_bitmapFits, F_overflowed, F_count, F_maxSlots, AB, AS, d1, d2, d3, g1, g2, g3, g4, b1, b2⟩ := H
  refine g_aload_n (i := 0) X0 hx (hb hby d11_0) (by rfl) rfl rfl ?_
  refine g_getF X0 hx hZ hown (wd hw 39 rfl) e0 F_overflowed (hb hby d11_1) rfl ?_
  intro T150 X150 e150
  refine g_if_ne X150 hx (hb hby d11_4) (by decide) (pt := 11) (by decide) rfl (fun q_ => absurd (by decide) q_) (fun _ => ?_)
  refine g_iconst (v := (1 : Int32)) X150 hx (hb hby d11_7) (by decide) rfl ?_
  refine g_goto X150 hx (hb hby d11_8) (by decide) (by decide) (pc' := 12) ?_
  exact g_retN X150 hx (t := .boolean) (by simp) hlk hret e150 (by decide) (by decide) (hb hby d11_12) ⟨rfl, rfl, rfl⟩
theorem own_SS.exa {Z : State} {h : Heap} {a : Addr} {n0 : Nat} {B : Int64} {M : Int64 → Prop} {n : Nat} (S : own_SS Z h a n0 B M n) : Exa Z h a "com/example/nav_by_schema/navbyschema/regex/StateSet" := by obtain ⟨_, _, _, _, _, _, _, _, _, _, _, H, -⟩ := S; exact H.1
theorem own_bd (k : Int64) (r : Int64) (j : Nat) (hj : j ≤ 62) (hr : r.toBitVec.toNat = 2 ^ j - 1) : 0 < ((k &&& r) + 1).toInt ∧ ((k &&& r) + 1).toInt ≤ 4611686018427387904 := by
  have e := c_maskL k r j (by omega) hr
  have hp : (2 ^ j : Nat) ≤ 2 ^ 62 := Nat.pow_le_pow_right (by decide) hj
  have hp0 : 0 < (2 ^ j : Nat) := Nat.pow_pos (by decide)
  have h62 : (2 ^ 62 : Nat) = 4611686018427387904 := by decide
  rw [h62] at hp
  revert e hp hp0
  generalize (2 ^ j : Nat) = N
  intro e hp hp0
  have m1 := Int.emod_nonneg k.toInt (b := (N : Int)) (by omega)
  have m2 := Int.emod_lt_of_pos k.toInt (b := (N : Int)) (by omega)
  have e1 := c_ladd (k &&& r) 1
  have q := rng64 ((k &&& r) + 1)
  rw [show (1 : Int64).toInt = 1 from rfl] at e1
  omega
theorem own_remL (k d : Int64) (hk : 0 ≤ k.toInt) (hd : 0 < d.toInt) : 0 ≤ (k % d).toInt ∧ (k % d).toInt < d.toInt := by
  rw [← lrem_mod, (c_lrem k d d.toInt rfl).1 hk]
  exact ⟨Int.emod_nonneg _ (by omega), Int.emod_lt_of_pos _ hd⟩
theorem own_pos (k : Int64) : 0 ≤ (k &&& 9223372036854775807).toInt := by rw [c_maskL k 9223372036854775807 63 (by decide) (by decide)]; omega
theorem own_dz {d : Int64} (h : 0 < d.toInt) : d ≠ 0 := fun q => by rw [q] at h; exact absurd h (by decide)
theorem ef_rm0 (m : MethodId) (x0 : Int32) (x1 : Int64) (x2 : Int64) (x3 : Int64) (x4 : Int64) (x5 : Int64)  : entryFrame m #[(.int x0), (.long x1), (.long x2), (.long x3), (.long x4), (.long x5)] maxLocals = mkF m 0 #[.val (.int x0), .val (.long x1), .second, .val (.long x2), .second, .val (.long x3), .second, .val (.long x4), .second, .val (.long x5), .second, .unset, .unset, .unset, .unset, .unset, .unset, .unset, .unset, .unset, .unset, .unset, .unset, .unset, .unset, .unset, .unset, .unset, .unset, .unset] [] := by first | (simp [entryFrame, mkF, argsToLocals, Value.category, maxLocals]; done) | rfl
theorem pn_151 : plainFor x = true := by first | exact plainFor_of_name (by first | (simp [plainName, overriddenIn]; done) | decide +kernel) | decide +kernel
theorem pd_155 : parseMethodDescriptor "(JJ)V" = some ⟨[.long, .long], none⟩ := by decide +kernel
theorem pd_163 : parseMethodDescriptor "()Z" = some ⟨[], some .boolean⟩ := by decide +kernel
set_option maxRecDepth 65536 in
set_option maxHeartbeats 40000000 in
theorem rm0 (l : Launch) (Z : State) (a0 : Array Value) (hw : ∀ d ∈ tables_1, d.before a0 Z = true) (mo : Int32) (p1 p2 p3 p4 p5 : Int64) (h0 : Heap) (n0 : Nat) (Z0 : n0 ≤ h0.size) :
    Ctr l Z x code maxLocals ret tables_1 room_1 24 16512 #[(.int mo), (.long p1), (.long p2), (.long p3), (.long p4), (.long p5)] h0 (fun v h L => v = some (.int 1) ∧ Fr n0 L) := by
  refine Ctr.of pn_151 ?_
  intro p e s m below meth c s₁ hx hby hml hown hnm hret hlk hZ X0 e0
  refine Goes.cast (ef_rm0 m mo p1 p2 p3 p4 p5) ?_
  have J23 : ∀ (D : Int64), 0 < D.toInt → D.toInt ≤ 4611686018427387904 → Goes p e below (KQ s 24 16512 (fun v h L => v = some (.int 1) ∧ Fr n0 L)) s₁ (mkF m 23 #[.val (.int mo), .val (.long p1), .second, .val (.long p2), .second, .val (.long p3), .second, .val (.long p4), .second, .val (.long p5), .second, .unset, .unset, .unset, .unset, .unset, .unset, .unset, .unset, .unset, .unset, .unset, .unset, .unset, .unset, .unset, .unset, .unset, .unset, .unset] [(.long D)]) := by
    intro D D0 D1
    refine g_lstore (i := 11) X0 hx #[.val (.int mo), .val (.long p1), .second, .val (.long p2), .second, .val (.long p3), .second, .val (.long p4), .second, .val (.long p5), .second, .val (.long D), .second, .unset, .unset, .unset, .unset, .unset, .unset, .unset, .unset, .unset, .unset, .unset, .unset, .unset, .unset, .unset, .unset, .unset] (hb hby at_23) rfl rfl ?_
    refine g_ldc2J X0 hx hZ hown (wd hw 1 rfl) (hb hby at_25) rfl ?_
    refine g_lload_n (i := 3) X0 hx (hb hby at_28) (by rfl) rfl ?_
    refine g_ldc2J X0 hx hZ hown (wd hw 2 rfl) (hb hby at_29) rfl ?_
    refine g_land X0 hx (hb hby at_32) rfl ?_
    refine g_callS X0 hx hZ hown (wd hw 3 rfl) (wd hw 4 rfl) (wd hw 5 rfl) (wd hw 6 rfl) (by decide) e0 (rm_max l Z a0 hw _ _ h0) (by rw [hml]; rfl) [(.long (4096 : Int64)), (.long (p2 &&& (68719476735 : Int64)))] [] rfl (lenOf pd_51 rfl) rfl (by show 0 + (4 + 11) + 0 ≤ _; decide) (by decide) (by decide) (by decide) (hb hby at_33) rfl ?_
    intro T152 v152 L152 X152 hQ152
    obtain ⟨⟨bu, rfl⟩, rfl, e152⟩ := hQ152
    have N152 := Fr.app (Fr.nil n0) (Fr.nil n0)
    show Goes p e below _ T152 (mkF m 36 #[.val (.int mo), .val (.long p1), .second, .val (.long p2), .second, .val (.long p3), .second, .val (.long p4), .second, .val (.long p5), .second, .val (.long D), .second, .unset, .unset, .unset, .unset, .unset, .unset, .unset, .unset, .unset, .unset, .unset, .unset, .unset, .unset, .unset, .unset, .unset] [(.long bu)])
    refine g_lstore (i := 13) X152 hx #[.val (.int mo), .val (.long p1), .second, .val (.long p2), .second, .val (.long p3), .second, .val (.long p4), .second, .val (.long p5), .second, .val (.long D), .second, .val (.long bu), .second, .unset, .unset, .unset, .unset, .unset, .unset, .unset, .unset, .unset, .unset, .unset, .unset, .unset, .unset, .unset] (hb hby at_36) rfl rfl ?_
    refine g_lload (i := 5) X152 hx (hb hby at_38) (by rfl) rfl ?_
    refine g_ldc2J X152 hx hZ hown (wd hw 7 rfl) (hb hby at_40) rfl ?_
    refine g_land X152 hx (hb hby at_43) rfl ?_
    refine g_lload (i := 11) X152 hx (hb hby at_44) (by rfl) rfl ?_
    refine g_lrem X152 hx (hb hby at_46) (own_dz D0) rfl ?_
    obtain ⟨vx0, vx1⟩ := own_remL (p3 &&& 9223372036854775807) D (own_pos p3) D0
    revert vx0 vx1
    generalize ((p3 &&& (9223372036854775807 : Int64)) % D) = vx
    intro vx0 vx1
    refine g_lstore (i := 15) X152 hx #[.val (.int mo), .val (.long p1), .second, .val (.long p2), .second, .val (.long p3), .second, .val (.long p4), .second, .val (.long p5), .second, .val (.long D), .second, .val (.long bu), .second, .val (.long vx), .second, .unset, .unset, .unset, .unset, .unset, .unset, .unset, .unset, .unset, .unset, .unset, .unset, .unset] (hb hby at_47) rfl rfl ?_
    refine g_lload (i := 7) X152 hx (hb hby at_49) (by rfl) rfl ?_
    refine g_ldc2J X152 hx hZ hown (wd hw 7 rfl) (hb hby at_51) rfl ?_
    refine g_land X152 hx (hb hby at_54) rfl ?_
    refine g_lload (i := 11) X152 hx (hb hby at_55) (by rfl) rfl ?_
    refine g_lrem X152 hx (hb hby at_57) (own_dz D0) rfl ?_
    obtain ⟨vy0, vy1⟩ := own_remL (p4 &&& 9223372036854775807) D (own_pos p4) D0
    revert vy0 vy1
    generalize ((p4 &&& (9223372036854775807 : Int64)) % D) = vy
    intro vy0 vy1
    refine g_lstore (i := 17) X152 hx #[.val (.int mo), .val (.long p1), .second, .val (.long p2), .second, .val (.long p3), .second, .val (.long p4), .second, .val (.long p5), .second, .val (.long D), .second, .val (.long bu), .second, .val (.long vx), .second, .val (.long vy), .second, .unset, .unset, .unset, .unset, .unset, .unset, .unset, .unset, .unset, .unset, .unset] (hb hby at_58) rfl rfl ?_
    refine g_lload (i := 9) X152 hx (hb hby at_60) (by rfl) rfl ?_
    refine g_ldc2J X152 hx hZ hown (wd hw 7 rfl) (hb hby at_62) rfl ?_
    refine g_land X152 hx (hb hby at_65) rfl ?_
    refine g_lload (i := 11) X152 hx (hb hby at_66) (by rfl) rfl ?_
    refine g_lrem X152 hx (hb hby at_68) (own_dz D0) rfl ?_
    obtain ⟨vz0, vz1⟩ := own_remL (p5 &&& 9223372036854775807) D (own_pos p5) D0
    revert vz0 vz1
    generalize ((p5 &&& (9223372036854775807 : Int64)) % D) = vz
    intro vz0 vz1
    refine g_lstore (i := 19) X152 hx #[.val (.int mo), .val (.long p1), .second, .val (.long p2), .second, .val (.long p3), .second, .val (.long p4), .second, .val (.long p5), .second, .val (.long D), .second, .val (.long bu), .second, .val (.long vx), .second, .val (.long vy), .second, .val (.long vz), .second, .unset, .unset, .unset, .unset, .unset, .unset, .unset, .unset, .unset] (hb hby at_69) rfl rfl ?_
    refine g_iload_n (i := 0) X152 hx (hb hby at_71) (by rfl) rfl ?_
    refine g_iconst (v := (2 : Int32)) X152 hx (hb hby at_72) (by decide) rfl ?_
    refine g_iand X152 hx (hb hby at_73) rfl ?_
    have J90 : ∀ (G : Int64), 0 < G.toInt → G.toInt ≤ 4611686018427387904 → Goes p e below (KQ s 24 16512 (fun v h L => v = some (.int 1) ∧ Fr n0 L)) T152 (mkF m 90 #[.val (.int mo), .val (.long p1), .second, .val (.long p2), .second, .val (.long p3), .second, .val (.long p4), .second, .val (.long p5), .second, .val (.long D), .second, .val (.long bu), .second, .val (.long vx), .second, .val (.long vy), .second, .val (.long vz), .second, .unset, .unset, .unset, .unset, .unset, .unset, .unset, .unset, .unset] [(.long G)]) := by
      intro G G0 G1
      refine g_lstore (i := 21) X152 hx #[.val (.int mo), .val (.long p1), .second, .val (.long p2), .second, .val (.long p3), .second, .val (.long p4), .second, .val (.long p5), .second, .val (.long D), .second, .val (.long bu), .second, .val (.long vx), .second, .val (.long vy), .second, .val (.long vz), .second, .val (.long G), .second, .unset, .unset, .unset, .unset, .unset, .unset, .unset] (hb hby at_90) rfl rfl ?_
      refine g_lload (i := 15) X152 hx (hb hby at_92) (by rfl) rfl ?_
      refine g_lload (i := 21) X152 hx (hb hby at_94) (by rfl) rfl ?_
      refine g_lrem X152 hx (hb hby at_96) (own_dz G0) rfl ?_
      obtain ⟨vt0, vt1⟩ := own_remL vx G vx0 G0
      revert vt0 vt1
      generalize vx % G = vt
      intro vt0 vt1
      refine g_lstore (i := 23) X152 hx #[.val (.int mo), .val (.long p1), .second, .val (.long p2), .second, .val (.long p3), .second, .val (.long p4), .second, .val (.long p5), .second, .val (.long D), .second, .val (.long bu), .second, .val (.long vx), .second, .val (.long vy), .second, .val (.long vz), .second, .val (.long G), .second, .val (.long vt), .second, .unset, .unset, .unset, .unset, .unset] (hb hby at_97) rfl rfl ?_
      refine g_new X152 hx hZ hown (wd hw 8 rfl) (wd hw 9 rfl) (wd hw 10 rfl) e152 (hb hby at_99) rfl (by decide) (by decide) ?_
      intro T153 h153 a153 X153 e153 g153 Ex153 E153 D153
      have F153_bits : Fld Z h153 a153 "com/example/nav_by_schema/navbyschema/regex/StateSet" "bits" "[J" .null := D153 (Or.inl (wd hw 19 rfl)) (ty := (.array .long)) (by decide)
      have F153_slots : Fld Z h153 a153 "com/example/nav_by_schema/navbyschema/regex/StateSet" "slots" "[J" .null := D153 (Or.inl (wd hw 21 rfl)) (ty := (.array .long)) (by decide)
      have F153_bound : Fld Z h153 a153 "com/example/nav_by_schema/navbyschema/regex/StateSet" "bound" "J" (.long 0) := D153 (Or.inl (wd hw 28 rfl)) (ty := .long) (by decide)
      have F153_bitmapFits : Fld Z h153 a153 "com/example/nav_by_schema/navbyschema/regex/StateSet" "bitmapFits" "Z" (.int 0) := D153 (Or.inl (wd hw 30 rfl)) (ty := .boolean) (by decide)
      have F153_dense : Fld Z h153 a153 "com/example/nav_by_schema/navbyschema/regex/StateSet" "dense" "Z" (.int 0) := D153 (Or.inl (wd hw 38 rfl)) (ty := .boolean) (by decide)
      have F153_overflowed : Fld Z h153 a153 "com/example/nav_by_schema/navbyschema/regex/StateSet" "overflowed" "Z" (.int 0) := D153 (Or.inl (wd hw 40 rfl)) (ty := .boolean) (by decide)
      have F153_count : Fld Z h153 a153 "com/example/nav_by_schema/navbyschema/regex/StateSet" "count" "I" (.int 0) := D153 (Or.inl (wd hw 42 rfl)) (ty := .int) (by decide)
      have F153_maxSlots : Fld Z h153 a153 "com/example/nav_by_schema/navbyschema/regex/StateSet" "maxSlots" "I" (.int 0) := D153 (Or.inl (wd hw 93 rfl)) (ty := .int) (by decide)
      have F153_shift : Fld Z h153 a153 "com/example/nav_by_schema/navbyschema/regex/StateSet" "shift" "I" (.int 0) := D153 (Or.inl (wd hw 100 rfl)) (ty := .int) (by decide)
      have ga : n0 ≤ a153 := by rw [g153]; exact Z0
      have Zk : n0 ≤ h153.size := Nat.le_trans Z0 Ex153.1
      refine g_dup X153 hx (hb hby at_102) rfl rfl ?_
      refine g_callI X153 hx hZ rfl hown (wd hw 11 rfl) (wd hw 12 rfl) (wd hw 10 rfl) (wd hw 13 rfl) (by decide) e153 (rm_ini l Z a0 hw a153 n0 h153 ga Zk E153 F153_bound F153_bits F153_slots F153_shift F153_dense F153_bitmapFits F153_overflowed F153_count F153_maxSlots) (by rw [hml]; rfl) a153 [] [(.ref a153)] rfl (lenOf pd_104 rfl) rfl (by show 1 + (1 + 11) + 12 ≤ _; decide) (by decide) (by decide) (by decide) (hb hby at_103) rfl ?_
      intro T154 v154 L154 X154 hQ154
      obtain ⟨rfl, N154, bb, sb, Hi⟩ := hQ154
      have N154 := Fr.app N152 N154
      show Goes p e below _ T154 (mkF m 106 #[.val (.int mo), .val (.long p1), .second, .val (.long p2), .second, .val (.long p3), .second, .val (.long p4), .second, .val (.long p5), .second, .val (.long D), .second, .val (.long bu), .second, .val (.long vx), .second, .val (.long vy), .second, .val (.long vz), .second, .val (.long G), .second, .val (.long vt), .second, .unset, .unset, .unset, .unset, .unset] [(.ref a153)])
      refine g_astore (i := 25) X154 hx #[.val (.int mo), .val (.long p1), .second, .val (.long p2), .second, .val (.long p3), .second, .val (.long p4), .second, .val (.long p5), .second, .val (.long D), .second, .val (.long bu), .second, .val (.long vx), .second, .val (.long vy), .second, .val (.long vz), .second, .val (.long G), .second, .val (.long vt), .second, .val (.ref a153), .unset, .unset, .unset, .unset] (hb hby at_106) rfl rfl rfl ?_
      refine g_aload (i := 25) X154 hx (hb hby at_108) (by rfl) rfl rfl ?_
      refine g_lload (i := 11) X154 hx (hb hby at_110) (by rfl) rfl ?_
      refine g_lload (i := 13) X154 hx (hb hby at_112) (by rfl) rfl ?_
      refine g_callV X154 hx hZ hown (wd hw 22 rfl) (wd hw 23 rfl) (wd hw 25 rfl) (wd hw 24 rfl) (wd hw 10 rfl) (wd hw 26 rfl) (by decide) rfl a153 Hi.1 (rm_clear l Z a0 hw a153 n0 0 bb sb 0 _ 0 _ 0 0 0 0 0 0 T154.heap D bu Hi D0 D1) (by rw [hml]; rfl) [(.long D), (.long bu)] [] rfl (lenOf pd_155 rfl) rfl (by show 0 + (5 + 11) + 44 ≤ _; decide) (by decide) (by decide) (by decide) (hb hby at_114) rfl ?_
      intro T155 v155 L155 X155 hQ155
      obtain ⟨rfl, N155, S1⟩ := hQ155
      have N155 := Fr.app N154 N155
      show Goes p e below _ T155 (mkF m 117 #[.val (.int mo), .val (.long p1), .second, .val (.long p2), .second, .val (.long p3), .second, .val (.long p4), .second, .val (.long p5), .second, .val (.long D), .second, .val (.long bu), .second, .val (.long vx), .second, .val (.long vy), .second, .val (.long vz), .second, .val (.long G), .second, .val (.long vt), .second, .val (.ref a153), .unset, .unset, .unset, .unset] [])
      refine g_aload (i := 25) X155 hx (hb hby at_117) (by rfl) rfl rfl ?_
      refine g_lload (i := 15) X155 hx (hb hby at_119) (by rfl) rfl ?_
      refine g_callV X155 hx hZ hown (wd hw 47 rfl) (wd hw 48 rfl) (wd hw 50 rfl) (wd hw 49 rfl) (wd hw 10 rfl) (wd hw 51 rfl) (by decide) rfl a153 S1.exa (rm_add l Z a0 hw a153 n0 D vx _ 0 T155.heap S1 (by decide) vx0 vx1) (by rw [hml]; rfl) [(.long vx)] [] rfl (lenOf pd_134 rfl) rfl (by show 0 + (5 + 11) + 32 ≤ _; decide) (by decide) (by decide) (by decide) (hb hby at_121) rfl ?_
      intro T156 v156 L156 X156 hQ156
      obtain ⟨N156, S2, hx1⟩ := hQ156
      have N156 := Fr.app N155 N156
      obtain ⟨rfl, -⟩ := hx1.resolve_right (fun r => r.2)
      show Goes p e below _ T156 (mkF m 124 #[.val (.int mo), .val (.long p1), .second, .val (.long p2), .second, .val (.long p3), .second, .val (.long p4), .second, .val (.long p5), .second, .val (.long D), .second, .val (.long bu), .second, .val (.long vx), .second, .val (.long vy), .second, .val (.long vz), .second, .val (.long G), .second, .val (.long vt), .second, .val (.ref a153), .unset, .unset, .unset, .unset] [(.int (1 : Int32))])
      refine g_istore (i := 26) X156 hx #[.val (.int mo), .val (.long p1), .second, .val (.long p2), .second, .val (.long p3), .second, .val (.long p4), .second, .val (.long p5), .second, .val (.long D), .second, .val (.long bu), .second, .val (.long vx), .second, .val (.long vy), .second, .val (.long vz), .second, .val (.long G), .second, .val (.long vt), .second, .val (.ref a153), .val (.int (1 : Int32)), .unset, .unset, .unset] (hb hby at_124) rfl rfl ?_
      refine g_aload (i := 25) X156 hx (hb hby at_126) (by rfl) rfl rfl ?_
      refine g_lload (i := 17) X156 hx (hb hby at_128) (by rfl) rfl ?_
      refine g_callV X156 hx hZ hown (wd hw 47 rfl) (wd hw 48 rfl) (wd hw 50 rfl) (wd hw 49 rfl) (wd hw 10 rfl) (wd hw 51 rfl) (by decide) rfl a153 S2.exa (rm_add l Z a0 hw a153 n0 D vy _ 1 T156.heap S2 (by decide) vy0 vy1) (by rw [hml]; rfl) [(.long vy)] [] rfl (lenOf pd_134 rfl) rfl (by show 0 + (5 + 11) + 32 ≤ _; decide) (by decide) (by decide) (by decide) (hb hby at_130) rfl ?_
      intro T157 v157 L157 X157 hQ157
      obtain ⟨N157, S3, hx2⟩ := hQ157
      have N157 := Fr.app N156 N157
      obtain ⟨ay, rfl, hay⟩ : ∃ ay : Int32, v157 = some (.int ay) ∧ ay = (if vy = vx then 0 else 1) := by
        rcases hx2 with ⟨r1, r2⟩ | ⟨r1, r2⟩
        · exact ⟨1, r1, by rw [if_neg (fun t => r2 (Or.inr t))]⟩
        · exact ⟨0, r1, by rw [if_pos (r2.resolve_left (fun t => t))]⟩
      show Goes p e below _ T157 (mkF m 133 #[.val (.int mo), .val (.long p1), .second, .val (.long p2), .second, .val (.long p3), .second, .val (.long p4), .second, .val (.long p5), .second, .val (.long D), .second, .val (.long bu), .second, .val (.long vx), .second, .val (.long vy), .second, .val (.long vz), .second, .val (.long G), .second, .val (.long vt), .second, .val (.ref a153), .val (.int (1 : Int32)), .unset, .unset, .unset] [(.int ay)])
      refine g_istore (i := 27) X157 hx #[.val (.int mo), .val (.long p1), .second, .val (.long p2), .second, .val (.long p3), .second, .val (.long p4), .second, .val (.long p5), .second, .val (.long D), .second, .val (.long bu), .second, .val (.long vx), .second, .val (.long vy), .second, .val (.long vz), .second, .val (.long G), .second, .val (.long vt), .second, .val (.ref a153), .val (.int (1 : Int32)), .val (.int ay), .unset, .unset] (hb hby at_133) rfl rfl ?_
      refine g_aload (i := 25) X157 hx (hb hby at_135) (by rfl) rfl rfl ?_
      refine g_callV X157 hx hZ hown (wd hw 56 rfl) (wd hw 57 rfl) (wd hw 59 rfl) (wd hw 58 rfl) (wd hw 10 rfl) (wd hw 60 rfl) (by decide) rfl a153 S3.exa (rm_rel l Z a0 hw a153 n0 D _ 2 T157.heap S3) (by rw [hml]; rfl) [] [] rfl (lenOf pd_104 rfl) rfl (by show 0 + (1 + 11) + 0 ≤ _; decide) (by decide) (by decide) (by decide) (hb hby at_137) rfl ?_
      intro T158 v158 L158 X158 hQ158
      obtain ⟨rfl, rfl, e158⟩ := hQ158
      have N158 := Fr.app N157 (Fr.nil n0)
      show Goes p e below _ T158 (mkF m 140 #[.val (.int mo), .val (.long p1), .second, .val (.long p2), .second, .val (.long p3), .second, .val (.long p4), .second, .val (.long p5), .second, .val (.long D), .second, .val (.long bu), .second, .val (.long vx), .second, .val (.long vy), .second, .val (.long vz), .second, .val (.long G), .second, .val (.long vt), .second, .val (.ref a153), .val (.int (1 : Int32)), .val (.int ay), .unset, .unset] [])
      refine g_iload (i := 26) X158 hx (hb hby at_140) (by rfl) rfl ?_
      refine g_if_eq X158 hx (hb hby at_142) (by decide) (pt := 167) (by decide) rfl (fun q_ => absurd q_ (by decide)) (fun _ => ?_)
      refine g_iload (i := 27) X158 hx (hb hby at_145) (by rfl) rfl ?_
      refine g_lload (i := 17) X158 hx (hb hby at_147) (by rfl) rfl ?_
      refine g_lload (i := 15) X158 hx (hb hby at_149) (by rfl) rfl ?_
      refine g_lcmp X158 hx (hb hby at_151) rfl ?_
      have J170 :  Goes p e below (KQ s 24 16512 (fun v h L => v = some (.int 1) ∧ Fr n0 L)) T158 (mkF m 170 #[.val (.int mo), .val (.long p1), .second, .val (.long p2), .second, .val (.long p3), .second, .val (.long p4), .second, .val (.long p5), .second, .val (.long D), .second, .val (.long bu), .second, .val (.long vx), .second, .val (.long vy), .second, .val (.long vz), .second, .val (.long G), .second, .val (.long vt), .second, .val (.ref a153), .val (.int (1 : Int32)), .val (.int ay), .val (.int (1 : Int32)), .unset] []) := by
        refine g_iload (i := 28) X158 hx (hb hby at_170) (by rfl) rfl ?_
        refine g_if_eq X158 hx (hb hby at_172) (by decide) (pt := 199) (by decide) rfl (fun q_ => absurd q_ (by decide)) (fun _ => ?_)
        refine g_aload (i := 25) X158 hx (hb hby at_175) (by rfl) rfl rfl ?_
        refine g_lload (i := 15) X158 hx (hb hby at_177) (by rfl) rfl ?_
        refine g_callV X158 hx hZ hown (wd hw 61 rfl) (wd hw 62 rfl) (wd hw 64 rfl) (wd hw 63 rfl) (wd hw 10 rfl) (wd hw 65 rfl) (by decide) e158 a153 S3.exa (rm_con l Z a0 hw a153 n0 D vx _ 2 T157.heap S3 (by decide) vx0 vx1) (by rw [hml]; rfl) [(.long vx)] [] rfl (lenOf pd_134 rfl) rfl (by show 0 + (4 + 11) + 17 ≤ _; decide) (by decide) (by decide) (by decide) (hb hby at_179) rfl ?_
        intro T159 v159 L159 X159 hQ159
        obtain ⟨hc159, rfl, e159⟩ := hQ159
        have N159 := Fr.app N158 (Fr.nil n0)
        obtain ⟨rfl, -⟩ := hc159.resolve_right (fun r => r.2 (Or.inl (Or.inr rfl)))
        show Goes p e below _ T159 (mkF m 182 #[.val (.int mo), .val (.long p1), .second, .val (.long p2), .second, .val (.long p3), .second, .val (.long p4), .second, .val (.long p5), .second, .val (.long D), .second, .val (.long bu), .second, .val (.long vx), .second, .val (.long vy), .second, .val (.long vz), .second, .val (.long G), .second, .val (.long vt), .second, .val (.ref a153), .val (.int (1 : Int32)), .val (.int ay), .val (.int (1 : Int32)), .unset] [(.int (1 : Int32))])
        refine g_if_eq X159 hx (hb hby at_182) (by decide) (pt := 199) (by decide) rfl (fun q_ => absurd q_ (by decide)) (fun _ => ?_)
        refine g_aload (i := 25) X159 hx (hb hby at_185) (by rfl) rfl rfl ?_
        refine g_lload (i := 17) X159 hx (hb hby at_187) (by rfl) rfl ?_
        refine g_callV X159 hx hZ hown (wd hw 61 rfl) (wd hw 62 rfl) (wd hw 64 rfl) (wd hw 63 rfl) (wd hw 10 rfl) (wd hw 65 rfl) (by decide) e159 a153 S3.exa (rm_con l Z a0 hw a153 n0 D vy _ 2 T157.heap S3 (by decide) vy0 vy1) (by rw [hml]; rfl) [(.long vy)] [] rfl (lenOf pd_134 rfl) rfl (by show 0 + (4 + 11) + 17 ≤ _; decide) (by decide) (by decide) (by decide) (hb hby at_189) rfl ?_
        intro T160 v160 L160 X160 hQ160
        obtain ⟨hc160, rfl, e160⟩ := hQ160
        have N160 := Fr.app N159 (Fr.nil n0)
        obtain ⟨rfl, -⟩ := hc160.resolve_right (fun r => r.2 (Or.inr rfl))
        show Goes p e below _ T160 (mkF m 192 #[.val (.int mo), .val (.long p1), .second, .val (.long p2), .second, .val (.long p3), .second, .val (.long p4), .second, .val (.long p5), .second, .val (.long D), .second, .val (.long bu), .second, .val (.long vx), .second, .val (.long vy), .second, .val (.long vz), .second, .val (.long G), .second, .val (.long vt), .second, .val (.ref a153), .val (.int (1 : Int32)), .val (.int ay), .val (.int (1 : Int32)), .unset] [(.int (1 : Int32))])
        refine g_if_eq X160 hx (hb hby at_192) (by decide) (pt := 199) (by decide) rfl (fun q_ => absurd q_ (by decide)) (fun _ => ?_)
        refine g_iconst (v := (1 : Int32)) X160 hx (hb hby at_195) (by decide) rfl ?_
        refine g_goto X160 hx (hb hby at_196) (by decide) (by decide) (pc' := 200) ?_
        refine g_istore (i := 28) X160 hx #[.val (.int mo), .val (.long p1), .second, .val (.long p2), .second, .val (.long p3), .second, .val (.long p4), .second, .val (.long p5), .second, .val (.long D), .second, .val (.long bu), .second, .val (.long vx), .second, .val (.long vy), .second, .val (.long vz), .second, .val (.long G), .second, .val (.long vt), .second, .val (.ref a153), .val (.int (1 : Int32)), .val (.int ay), .val (.int (1 : Int32)), .unset] (hb hby at_200) rfl rfl ?_
        refine g_lload (i := 19) X160 hx (hb hby at_202) (by rfl) rfl ?_
        refine g_lload (i := 15) X160 hx (hb hby at_204) (by rfl) rfl ?_
        refine g_lcmp X160 hx (hb hby at_206) rfl ?_
        have J225 : ∀ (zin : Int32), (zin = 1 ∧ (vz = vx ∨ vz = vy)) ∨ (zin = 0 ∧ ¬ (vz = vx ∨ vz = vy)) → Goes p e below (KQ s 24 16512 (fun v h L => v = some (.int 1) ∧ Fr n0 L)) T160 (mkF m 225 #[.val (.int mo), .val (.long p1), .second, .val (.long p2), .second, .val (.long p3), .second, .val (.long p4), .second, .val (.long p5), .second, .val (.long D), .second, .val (.long bu), .second, .val (.long vx), .second, .val (.long vy), .second, .val (.long vz), .second, .val (.long G), .second, .val (.long vt), .second, .val (.ref a153), .val (.int (1 : Int32)), .val (.int ay), .val (.int (1 : Int32)), .val (.int zin)] []) := by
          intro zin hz
          refine g_iload (i := 28) X160 hx (hb hby at_225) (by rfl) rfl ?_
          refine g_if_eq X160 hx (hb hby at_227) (by decide) (pt := 246) (by decide) rfl (fun q_ => absurd q_ (by decide)) (fun _ => ?_)
          refine g_aload (i := 25) X160 hx (hb hby at_230) (by rfl) rfl rfl ?_
          refine g_lload (i := 19) X160 hx (hb hby at_232) (by rfl) rfl ?_
          refine g_callV X160 hx hZ hown (wd hw 61 rfl) (wd hw 62 rfl) (wd hw 64 rfl) (wd hw 63 rfl) (wd hw 10 rfl) (wd hw 65 rfl) (by decide) e160 a153 S3.exa (rm_con l Z a0 hw a153 n0 D vz _ 2 T157.heap S3 (by decide) vz0 vz1) (by rw [hml]; rfl) [(.long vz)] [] rfl (lenOf pd_134 rfl) rfl (by show 0 + (4 + 11) + 17 ≤ _; decide) (by decide) (by decide) (by decide) (hb hby at_234) rfl ?_
          intro T161 v161 L161 X161 hQ161
          obtain ⟨hc161, rfl, e161⟩ := hQ161
          have N161 := Fr.app N160 (Fr.nil n0)
          obtain rfl : v161 = some (.int zin) := by
            rcases hc161 with ⟨r1, r2⟩ | ⟨r1, r2⟩ <;> rcases hz with ⟨z1, z2⟩ | ⟨z1, z2⟩
            · rw [r1, z1]
            · exact absurd (r2.elim (fun t => Or.inl (t.resolve_left (fun t => t))) Or.inr) z2
            · exact absurd (z2.elim (fun t => Or.inl (Or.inr t)) Or.inr) r2
            · rw [r1, z1]
          show Goes p e below _ T161 (mkF m 237 #[.val (.int mo), .val (.long p1), .second, .val (.long p2), .second, .val (.long p3), .second, .val (.long p4), .second, .val (.long p5), .second, .val (.long D), .second, .val (.long bu), .second, .val (.long vx), .second, .val (.long vy), .second, .val (.long vz), .second, .val (.long G), .second, .val (.long vt), .second, .val (.ref a153), .val (.int (1 : Int32)), .val (.int ay), .val (.int (1 : Int32)), .val (.int zin)] [(.int zin)])
          refine g_iload (i := 29) X161 hx (hb hby at_237) (by rfl) rfl ?_
          refine g_icmp_ne X161 hx (hb hby at_239) (by decide) (pt := 246) (by decide) rfl (fun q_ => absurd (rfl) q_) (fun _ => ?_)
          refine g_iconst (v := (1 : Int32)) X161 hx (hb hby at_242) (by decide) rfl ?_
          refine g_goto X161 hx (hb hby at_243) (by decide) (by decide) (pc' := 247) ?_
          refine g_istore (i := 28) X161 hx #[.val (.int mo), .val (.long p1), .second, .val (.long p2), .second, .val (.long p3), .second, .val (.long p4), .second, .val (.long p5), .second, .val (.long D), .second, .val (.long bu), .second, .val (.long vx), .second, .val (.long vy), .second, .val (.long vz), .second, .val (.long G), .second, .val (.long vt), .second, .val (.ref a153), .val (.int (1 : Int32)), .val (.int ay), .val (.int (1 : Int32)), .val (.int zin)] (hb hby at_247) rfl rfl ?_
          refine g_iload (i := 28) X161 hx (hb hby at_249) (by rfl) rfl ?_
          refine g_if_eq X161 hx (hb hby at_251) (by decide) (pt := 278) (by decide) rfl (fun q_ => absurd q_ (by decide)) (fun _ => ?_)
          refine g_aload (i := 25) X161 hx (hb hby at_254) (by rfl) rfl rfl ?_
          refine g_lload (i := 19) X161 hx (hb hby at_256) (by rfl) rfl ?_
          refine g_callV X161 hx hZ hown (wd hw 47 rfl) (wd hw 48 rfl) (wd hw 50 rfl) (wd hw 49 rfl) (wd hw 10 rfl) (wd hw 51 rfl) (by decide) e161 a153 S3.exa (rm_add l Z a0 hw a153 n0 D vz _ 2 T157.heap S3 (by decide) vz0 vz1) (by rw [hml]; rfl) [(.long vz)] [] rfl (lenOf pd_134 rfl) rfl (by show 0 + (5 + 11) + 32 ≤ _; decide) (by decide) (by decide) (by decide) (hb hby at_258) rfl ?_
          intro T162 v162 L162 X162 hQ162
          obtain ⟨N162, S4, hx4⟩ := hQ162
          have N162 := Fr.app N161 N162
          rcases hz with ⟨rfl, hz⟩ | ⟨rfl, hz⟩
          · obtain ⟨rfl, -⟩ := hx4.resolve_left (fun r => r.2 (hz.elim (fun t => Or.inl (Or.inr t)) Or.inr))
            show Goes p e below _ T162 (mkF m 261 #[.val (.int mo), .val (.long p1), .second, .val (.long p2), .second, .val (.long p3), .second, .val (.long p4), .second, .val (.long p5), .second, .val (.long D), .second, .val (.long bu), .second, .val (.long vx), .second, .val (.long vy), .second, .val (.long vz), .second, .val (.long G), .second, .val (.long vt), .second, .val (.ref a153), .val (.int (1 : Int32)), .val (.int ay), .val (.int (1 : Int32)), .val (.int (1 : Int32))] [(.int (0 : Int32))])
            refine g_iload (i := 29) X162 hx (hb hby at_261) (by rfl) rfl ?_
            refine g_if_ne X162 hx (hb hby at_263) (by decide) (pt := 270) (by decide) rfl (fun _ => ?_) (fun q_ => absurd q_ (by decide))
            refine g_iconst (v := (0 : Int32)) X162 hx (hb hby at_270) (by decide) rfl ?_
            refine g_icmp_ne X162 hx (hb hby at_271) (by decide) (pt := 278) (by decide) rfl (fun q_ => absurd (by decide) q_) (fun _ => ?_)
            refine g_iconst (v := (1 : Int32)) X162 hx (hb hby at_274) (by decide) rfl ?_
            refine g_goto X162 hx (hb hby at_275) (by decide) (by decide) (pc' := 279) ?_
            refine g_istore (i := 28) X162 hx #[.val (.int mo), .val (.long p1), .second, .val (.long p2), .second, .val (.long p3), .second, .val (.long p4), .second, .val (.long p5), .second, .val (.long D), .second, .val (.long bu), .second, .val (.long vx), .second, .val (.long vy), .second, .val (.long vz), .second, .val (.long G), .second, .val (.long vt), .second, .val (.ref a153), .val (.int (1 : Int32)), .val (.int ay), .val (.int (1 : Int32)), .val (.int (1 : Int32))] (hb hby at_279) rfl rfl ?_
            refine g_iload (i := 28) X162 hx (hb hby at_281) (by rfl) rfl ?_
            refine g_if_eq X162 hx (hb hby at_283) (by decide) (pt := 298) (by decide) rfl (fun q_ => absurd q_ (by decide)) (fun _ => ?_)
            refine g_aload (i := 25) X162 hx (hb hby at_286) (by rfl) rfl rfl ?_
            refine g_callV X162 hx hZ hown (wd hw 66 rfl) (wd hw 67 rfl) (wd hw 69 rfl) (wd hw 68 rfl) (wd hw 10 rfl) (wd hw 70 rfl) (by decide) rfl a153 S4.exa (rm_rem l Z a0 hw a153 n0 D _ 3 T162.heap S4) (by rw [hml]; rfl) [] [] rfl (lenOf pd_163 rfl) rfl (by show 0 + (1 + 11) + 0 ≤ _; decide) (by decide) (by decide) (by decide) (hb hby at_288) rfl ?_
            intro T163 v163 L163 X163 hQ163
            obtain ⟨rfl, rfl, e163⟩ := hQ163
            have N163 := Fr.app N162 (Fr.nil n0)
            show Goes p e below _ T163 (mkF m 291 #[.val (.int mo), .val (.long p1), .second, .val (.long p2), .second, .val (.long p3), .second, .val (.long p4), .second, .val (.long p5), .second, .val (.long D), .second, .val (.long bu), .second, .val (.long vx), .second, .val (.long vy), .second, .val (.long vz), .second, .val (.long G), .second, .val (.long vt), .second, .val (.ref a153), .val (.int (1 : Int32)), .val (.int ay), .val (.int (1 : Int32)), .val (.int (1 : Int32))] [(.int (1 : Int32))])
            refine g_if_eq X163 hx (hb hby at_291) (by decide) (pt := 298) (by decide) rfl (fun q_ => absurd q_ (by decide)) (fun _ => ?_)
            refine g_iconst (v := (1 : Int32)) X163 hx (hb hby at_294) (by decide) rfl ?_
            refine g_goto X163 hx (hb hby at_295) (by decide) (by decide) (pc' := 299) ?_
            refine g_istore (i := 28) X163 hx #[.val (.int mo), .val (.long p1), .second, .val (.long p2), .second, .val (.long p3), .second, .val (.long p4), .second, .val (.long p5), .second, .val (.long D), .second, .val (.long bu), .second, .val (.long vx), .second, .val (.long vy), .second, .val (.long vz), .second, .val (.long G), .second, .val (.long vt), .second, .val (.ref a153), .val (.int (1 : Int32)), .val (.int ay), .val (.int (1 : Int32)), .val (.int (1 : Int32))] (hb hby at_299) rfl rfl ?_
            refine g_aload (i := 25) X163 hx (hb hby at_301) (by rfl) rfl rfl ?_
            refine g_lload (i := 21) X163 hx (hb hby at_303) (by rfl) rfl ?_
            refine g_lload (i := 13) X163 hx (hb hby at_305) (by rfl) rfl ?_
            obtain ⟨bb4, sb4, nb4, fb4, ns4, fs4, sh4, de4, bf4, ct4, mx4, H4, -⟩ := S4
            refine g_callV X163 hx hZ hown (wd hw 22 rfl) (wd hw 23 rfl) (wd hw 25 rfl) (wd hw 24 rfl) (wd hw 10 rfl) (wd hw 26 rfl) (by decide) e163 a153 H4.1 (rm_clear l Z a0 hw a153 n0 D bb4 sb4 nb4 fb4 ns4 fs4 sh4 de4 bf4 0 ct4 mx4 T162.heap G bu H4 G0 G1) (by rw [hml]; rfl) [(.long G), (.long bu)] [] rfl (lenOf pd_155 rfl) rfl (by show 0 + (5 + 11) + 44 ≤ _; decide) (by decide) (by decide) (by decide) (hb hby at_307) rfl ?_
            intro T164 v164 L164 X164 hQ164
            obtain ⟨rfl, N164, S5⟩ := hQ164
            have N164 := Fr.app N163 N164
            show Goes p e below _ T164 (mkF m 310 #[.val (.int mo), .val (.long p1), .second, .val (.long p2), .second, .val (.long p3), .second, .val (.long p4), .second, .val (.long p5), .second, .val (.long D), .second, .val (.long bu), .second, .val (.long vx), .second, .val (.long vy), .second, .val (.long vz), .second, .val (.long G), .second, .val (.long vt), .second, .val (.ref a153), .val (.int (1 : Int32)), .val (.int ay), .val (.int (1 : Int32)), .val (.int (1 : Int32))] [])
            refine g_iload (i := 28) X164 hx (hb hby at_310) (by rfl) rfl ?_
            refine g_if_eq X164 hx (hb hby at_312) (by decide) (pt := 339) (by decide) rfl (fun q_ => absurd q_ (by decide)) (fun _ => ?_)
            refine g_aload (i := 25) X164 hx (hb hby at_315) (by rfl) rfl rfl ?_
            refine g_lload (i := 23) X164 hx (hb hby at_317) (by rfl) rfl ?_
            refine g_callV X164 hx hZ hown (wd hw 61 rfl) (wd hw 62 rfl) (wd hw 64 rfl) (wd hw 63 rfl) (wd hw 10 rfl) (wd hw 65 rfl) (by decide) rfl a153 S5.exa (rm_con l Z a0 hw a153 n0 G vt _ 0 T164.heap S5 (by decide) vt0 vt1) (by rw [hml]; rfl) [(.long vt)] [] rfl (lenOf pd_134 rfl) rfl (by show 0 + (4 + 11) + 17 ≤ _; decide) (by decide) (by decide) (by decide) (hb hby at_319) rfl ?_
            intro T165 v165 L165 X165 hQ165
            obtain ⟨hc165, rfl, e165⟩ := hQ165
            have N165 := Fr.app N164 (Fr.nil n0)
            obtain ⟨rfl, -⟩ := hc165.resolve_left (fun r => r.2)
            show Goes p e below _ T165 (mkF m 322 #[.val (.int mo), .val (.long p1), .second, .val (.long p2), .second, .val (.long p3), .second, .val (.long p4), .second, .val (.long p5), .second, .val (.long D), .second, .val (.long bu), .second, .val (.long vx), .second, .val (.long vy), .second, .val (.long vz), .second, .val (.long G), .second, .val (.long vt), .second, .val (.ref a153), .val (.int (1 : Int32)), .val (.int ay), .val (.int (1 : Int32)), .val (.int (1 : Int32))] [(.int (0 : Int32))])
            refine g_if_ne X165 hx (hb hby at_322) (by decide) (pt := 339) (by decide) rfl (fun q_ => absurd (by decide) q_) (fun _ => ?_)
            refine g_aload (i := 25) X165 hx (hb hby at_325) (by rfl) rfl rfl ?_
            refine g_lload (i := 23) X165 hx (hb hby at_327) (by rfl) rfl ?_
            refine g_callV X165 hx hZ hown (wd hw 47 rfl) (wd hw 48 rfl) (wd hw 50 rfl) (wd hw 49 rfl) (wd hw 10 rfl) (wd hw 51 rfl) (by decide) e165 a153 S5.exa (rm_add l Z a0 hw a153 n0 G vt _ 0 T164.heap S5 (by decide) vt0 vt1) (by rw [hml]; rfl) [(.long vt)] [] rfl (lenOf pd_134 rfl) rfl (by show 0 + (5 + 11) + 32 ≤ _; decide) (by decide) (by decide) (by decide) (hb hby at_329) rfl ?_
            intro T166 v166 L166 X166 hQ166
            obtain ⟨N166, S6, hx6⟩ := hQ166
            have N166 := Fr.app N165 N166
            obtain ⟨rfl, -⟩ := hx6.resolve_right (fun r => r.2)
            show Goes p e below _ T166 (mkF m 332 #[.val (.int mo), .val (.long p1), .second, .val (.long p2), .second, .val (.long p3), .second, .val (.long p4), .second, .val (.long p5), .second, .val (.long D), .second, .val (.long bu), .second, .val (.long vx), .second, .val (.long vy), .second, .val (.long vz), .second, .val (.long G), .second, .val (.long vt), .second, .val (.ref a153), .val (.int (1 : Int32)), .val (.int ay), .val (.int (1 : Int32)), .val (.int (1 : Int32))] [(.int (1 : Int32))])
            refine g_if_eq X166 hx (hb hby at_332) (by decide) (pt := 339) (by decide) rfl (fun q_ => absurd q_ (by decide)) (fun _ => ?_)
            refine g_iconst (v := (1 : Int32)) X166 hx (hb hby at_335) (by decide) rfl ?_
            refine g_goto X166 hx (hb hby at_336) (by decide) (by decide) (pc' := 340) ?_
            refine g_istore (i := 28) X166 hx #[.val (.int mo), .val (.long p1), .second, .val (.long p2), .second, .val (.long p3), .second, .val (.long p4), .second, .val (.long p5), .second, .val (.long D), .second, .val (.long bu), .second, .val (.long vx), .second, .val (.long vy), .second, .val (.long vz), .second, .val (.long G), .second, .val (.long vt), .second, .val (.ref a153), .val (.int (1 : Int32)), .val (.int ay), .val (.int (1 : Int32)), .val (.int (1 : Int32))] (hb hby at_340) rfl rfl ?_
            refine g_iload (i := 28) X166 hx (hb hby at_342) (by rfl) rfl ?_
            exact g_retN X166 hx (t := .boolean) (by simp) hlk hret rfl (by decide) (by decide) (hb hby at_344) ⟨rfl, N166⟩
          · obtain ⟨rfl, -⟩ := hx4.resolve_right (fun r => hz (r.2.elim (fun t => Or.inl (t.resolve_left (fun t => t))) Or.inr))
            show Goes p e below _ T162 (mkF m 261 #[.val (.int mo), .val (.long p1), .second, .val (.long p2), .second, .val (.long p3), .second, .val (.long p4), .second, .val (.long p5), .second, .val (.long D), .second, .val (.long bu), .second, .val (.long vx), .second, .val (.long vy), .second, .val (.long vz), .second, .val (.long G), .second, .val (.long vt), .second, .val (.ref a153), .val (.int (1 : Int32)), .val (.int ay), .val (.int (1 : Int32)), .val (.int (0 : Int32))] [(.int (1 : Int32))])
            refine g_iload (i := 29) X162 hx (hb hby at_261) (by rfl) rfl ?_
            refine g_if_ne X162 hx (hb hby at_263) (by decide) (pt := 270) (by decide) rfl (fun q_ => absurd (by decide) q_) (fun _ => ?_)
            refine g_iconst (v := (1 : Int32)) X162 hx (hb hby at_266) (by decide) rfl ?_
            refine g_goto X162 hx (hb hby at_267) (by decide) (by decide) (pc' := 271) ?_
            refine g_icmp_ne X162 hx (hb hby at_271) (by decide) (pt := 278) (by decide) rfl (fun q_ => absurd (by decide) q_) (fun _ => ?_)
            refine g_iconst (v := (1 : Int32)) X162 hx (hb hby at_274) (by decide) rfl ?_
            refine g_goto X162 hx (hb hby at_275) (by decide) (by decide) (pc' := 279) ?_
            refine g_istore (i := 28) X162 hx #[.val (.int mo), .val (.long p1), .second, .val (.long p2), .second, .val (.long p3), .second, .val (.long p4), .second, .val (.long p5), .second, .val (.long D), .second, .val (.long bu), .second, .val (.long vx), .second, .val (.long vy), .second, .val (.long vz), .second, .val (.long G), .second, .val (.long vt), .second, .val (.ref a153), .val (.int (1 : Int32)), .val (.int ay), .val (.int (1 : Int32)), .val (.int (0 : Int32))] (hb hby at_279) rfl rfl ?_
            refine g_iload (i := 28) X162 hx (hb hby at_281) (by rfl) rfl ?_
            refine g_if_eq X162 hx (hb hby at_283) (by decide) (pt := 298) (by decide) rfl (fun q_ => absurd q_ (by decide)) (fun _ => ?_)
            refine g_aload (i := 25) X162 hx (hb hby at_286) (by rfl) rfl rfl ?_
            refine g_callV X162 hx hZ hown (wd hw 66 rfl) (wd hw 67 rfl) (wd hw 69 rfl) (wd hw 68 rfl) (wd hw 10 rfl) (wd hw 70 rfl) (by decide) rfl a153 S4.exa (rm_rem l Z a0 hw a153 n0 D _ 3 T162.heap S4) (by rw [hml]; rfl) [] [] rfl (lenOf pd_163 rfl) rfl (by show 0 + (1 + 11) + 0 ≤ _; decide) (by decide) (by decide) (by decide) (hb hby at_288) rfl ?_
            intro T167 v167 L167 X167 hQ167
            obtain ⟨rfl, rfl, e167⟩ := hQ167
            have N167 := Fr.app N162 (Fr.nil n0)
            show Goes p e below _ T167 (mkF m 291 #[.val (.int mo), .val (.long p1), .second, .val (.long p2), .second, .val (.long p3), .second, .val (.long p4), .second, .val (.long p5), .second, .val (.long D), .second, .val (.long bu), .second, .val (.long vx), .second, .val (.long vy), .second, .val (.long vz), .second, .val (.long G), .second, .val (.long vt), .second, .val (.ref a153), .val (.int (1 : Int32)), .val (.int ay), .val (.int (1 : Int32)), .val (.int (0 : Int32))] [(.int (1 : Int32))])
            refine g_if_eq X167 hx (hb hby at_291) (by decide) (pt := 298) (by decide) rfl (fun q_ => absurd q_ (by decide)) (fun _ => ?_)
            refine g_iconst (v := (1 : Int32)) X167 hx (hb hby at_294) (by decide) rfl ?_
            refine g_goto X167 hx (hb hby at_295) (by decide) (by decide) (pc' := 299) ?_
            refine g_istore (i := 28) X167 hx #[.val (.int mo), .val (.long p1), .second, .val (.long p2), .second, .val (.long p3), .second, .val (.long p4), .second, .val (.long p5), .second, .val (.long D), .second, .val (.long bu), .second, .val (.long vx), .second, .val (.long vy), .second, .val (.long vz), .second, .val (.long G), .second, .val (.long vt), .second, .val (.ref a153), .val (.int (1 : Int32)), .val (.int ay), .val (.int (1 : Int32)), .val (.int (0 : Int32))] (hb hby at_299) rfl rfl ?_
            refine g_aload (i := 25) X167 hx (hb hby at_301) (by rfl) rfl rfl ?_
            refine g_lload (i := 21) X167 hx (hb hby at_303) (by rfl) rfl ?_
            refine g_lload (i := 13) X167 hx (hb hby at_305) (by rfl) rfl ?_
            obtain ⟨bb4, sb4, nb4, fb4, ns4, fs4, sh4, de4, bf4, ct4, mx4, H4, -⟩ := S4
            refine g_callV X167 hx hZ hown (wd hw 22 rfl) (wd hw 23 rfl) (wd hw 25 rfl) (wd hw 24 rfl) (wd hw 10 rfl) (wd hw 26 rfl) (by decide) e167 a153 H4.1 (rm_clear l Z a0 hw a153 n0 D bb4 sb4 nb4 fb4 ns4 fs4 sh4 de4 bf4 0 ct4 mx4 T162.heap G bu H4 G0 G1) (by rw [hml]; rfl) [(.long G), (.long bu)] [] rfl (lenOf pd_155 rfl) rfl (by show 0 + (5 + 11) + 44 ≤ _; decide) (by decide) (by decide) (by decide) (hb hby at_307) rfl ?_
            intro T168 v168 L168 X168 hQ168
            obtain ⟨rfl, N168, S5⟩ := hQ168
            have N168 := Fr.app N167 N168
            show Goes p e below _ T168 (mkF m 310 #[.val (.int mo), .val (.long p1), .second, .val (.long p2), .second, .val (.long p3), .second, .val (.long p4), .second, .val (.long p5), .second, .val (.long D), .second, .val (.long bu), .second, .val (.long vx), .second, .val (.long vy), .second, .val (.long vz), .second, .val (.long G), .second, .val (.long vt), .second, .val (.ref a153), .val (.int (1 : Int32)), .val (.int ay), .val (.int (1 : Int32)), .val (.int (0 : Int32))] [])
            refine g_iload (i := 28) X168 hx (hb hby at_310) (by rfl) rfl ?_
            refine g_if_eq X168 hx (hb hby at_312) (by decide) (pt := 339) (by decide) rfl (fun q_ => absurd q_ (by decide)) (fun _ => ?_)
            refine g_aload (i := 25) X168 hx (hb hby at_315) (by rfl) rfl rfl ?_
            refine g_lload (i := 23) X168 hx (hb hby at_317) (by rfl) rfl ?_
            refine g_callV X168 hx hZ hown (wd hw 61 rfl) (wd hw 62 rfl) (wd hw 64 rfl) (wd hw 63 rfl) (wd hw 10 rfl) (wd hw 65 rfl) (by decide) rfl a153 S5.exa (rm_con l Z a0 hw a153 n0 G vt _ 0 T168.heap S5 (by decide) vt0 vt1) (by rw [hml]; rfl) [(.long vt)] [] rfl (lenOf pd_134 rfl) rfl (by show 0 + (4 + 11) + 17 ≤ _; decide) (by decide) (by decide) (by decide) (hb hby at_319) rfl ?_
            intro T169 v169 L169 X169 hQ169
            obtain ⟨hc169, rfl, e169⟩ := hQ169
            have N169 := Fr.app N168 (Fr.nil n0)
            obtain ⟨rfl, -⟩ := hc169.resolve_left (fun r => r.2)
            show Goes p e below _ T169 (mkF m 322 #[.val (.int mo), .val (.long p1), .second, .val (.long p2), .second, .val (.long p3), .second, .val (.long p4), .second, .val (.long p5), .second, .val (.long D), .second, .val (.long bu), .second, .val (.long vx), .second, .val (.long vy), .second, .val (.long vz), .second, .val (.long G), .second, .val (.long vt), .second, .val (.ref a153), .val (.int (1 : Int32)), .val (.int ay), .val (.int (1 : Int32)), .val (.int (0 : Int32))] [(.int (0 : Int32))])
            refine g_if_ne X169 hx (hb hby at_322) (by decide) (pt := 339) (by decide) rfl (fun q_ => absurd (by decide) q_) (fun _ => ?_)
            refine g_aload (i := 25) X169 hx (hb hby at_325) (by rfl) rfl rfl ?_
            refine g_lload (i := 23) X169 hx (hb hby at_327) (by rfl) rfl ?_
            refine g_callV X169 hx hZ hown (wd hw 47 rfl) (wd hw 48 rfl) (wd hw 50 rfl) (wd hw 49 rfl) (wd hw 10 rfl) (wd hw 51 rfl) (by decide) e169 a153 S5.exa (rm_add l Z a0 hw a153 n0 G vt _ 0 T168.heap S5 (by decide) vt0 vt1) (by rw [hml]; rfl) [(.long vt)] [] rfl (lenOf pd_134 rfl) rfl (by show 0 + (5 + 11) + 32 ≤ _; decide) (by decide) (by decide) (by decide) (hb hby at_329) rfl ?_
            intro T170 v170 L170 X170 hQ170
            obtain ⟨N170, S6, hx6⟩ := hQ170
            have N170 := Fr.app N169 N170
            obtain ⟨rfl, -⟩ := hx6.resolve_right (fun r => r.2)
            show Goes p e below _ T170 (mkF m 332 #[.val (.int mo), .val (.long p1), .second, .val (.long p2), .second, .val (.long p3), .second, .val (.long p4), .second, .val (.long p5), .second, .val (.long D), .second, .val (.long bu), .second, .val (.long vx), .second, .val (.long vy), .second, .val (.long vz), .second, .val (.long G), .second, .val (.long vt), .second, .val (.ref a153), .val (.int (1 : Int32)), .val (.int ay), .val (.int (1 : Int32)), .val (.int (0 : Int32))] [(.int (1 : Int32))])
            refine g_if_eq X170 hx (hb hby at_332) (by decide) (pt := 339) (by decide) rfl (fun q_ => absurd q_ (by decide)) (fun _ => ?_)
            refine g_iconst (v := (1 : Int32)) X170 hx (hb hby at_335) (by decide) rfl ?_
            refine g_goto X170 hx (hb hby at_336) (by decide) (by decide) (pc' := 340) ?_
            refine g_istore (i := 28) X170 hx #[.val (.int mo), .val (.long p1), .second, .val (.long p2), .second, .val (.long p3), .second, .val (.long p4), .second, .val (.long p5), .second, .val (.long D), .second, .val (.long bu), .second, .val (.long vx), .second, .val (.long vy), .second, .val (.long vz), .second, .val (.long G), .second, .val (.long vt), .second, .val (.ref a153), .val (.int (1 : Int32)), .val (.int ay), .val (.int (1 : Int32)), .val (.int (0 : Int32))] (hb hby at_340) rfl rfl ?_
            refine g_iload (i := 28) X170 hx (hb hby at_342) (by rfl) rfl ?_
            exact g_retN X170 hx (t := .boolean) (by simp) hlk hret rfl (by decide) (by decide) (hb hby at_344) ⟨rfl, N170⟩
        refine g_if_eq X160 hx (hb hby at_207) (by decide) (pt := 218) (by decide) rfl (fun q1 => ?_) (fun q1 => ?_)
        · refine g_iconst (v := (1 : Int32)) X160 hx (hb hby at_218) (by decide) rfl ?_
          refine g_goto X160 hx (hb hby at_219) (by decide) (by decide) (pc' := 223) ?_
          refine g_istore (i := 29) X160 hx #[.val (.int mo), .val (.long p1), .second, .val (.long p2), .second, .val (.long p3), .second, .val (.long p4), .second, .val (.long p5), .second, .val (.long D), .second, .val (.long bu), .second, .val (.long vx), .second, .val (.long vy), .second, .val (.long vz), .second, .val (.long G), .second, .val (.long vt), .second, .val (.ref a153), .val (.int (1 : Int32)), .val (.int ay), .val (.int (1 : Int32)), .val (.int (1 : Int32))] (hb hby at_223) rfl rfl ?_
          exact J225 _ (Or.inl ⟨rfl, Or.inl ((cm_eq _ _).mp q1)⟩)
        · refine g_lload (i := 19) X160 hx (hb hby at_210) (by rfl) rfl ?_
          refine g_lload (i := 17) X160 hx (hb hby at_212) (by rfl) rfl ?_
          refine g_lcmp X160 hx (hb hby at_214) rfl ?_
          refine g_if_ne X160 hx (hb hby at_215) (by decide) (pt := 222) (by decide) rfl (fun q2 => ?_) (fun q2 => ?_)
          · refine g_iconst (v := (0 : Int32)) X160 hx (hb hby at_222) (by decide) rfl ?_
            refine g_istore (i := 29) X160 hx #[.val (.int mo), .val (.long p1), .second, .val (.long p2), .second, .val (.long p3), .second, .val (.long p4), .second, .val (.long p5), .second, .val (.long D), .second, .val (.long bu), .second, .val (.long vx), .second, .val (.long vy), .second, .val (.long vz), .second, .val (.long G), .second, .val (.long vt), .second, .val (.ref a153), .val (.int (1 : Int32)), .val (.int ay), .val (.int (1 : Int32)), .val (.int (0 : Int32))] (hb hby at_223) rfl rfl ?_
            exact J225 _ (Or.inr ⟨rfl, fun u => u.elim (fun t => q1 ((cm_eq _ _).mpr t)) (fun t => q2 ((cm_eq _ _).mpr t))⟩)
          · refine g_iconst (v := (1 : Int32)) X160 hx (hb hby at_218) (by decide) rfl ?_
            refine g_goto X160 hx (hb hby at_219) (by decide) (by decide) (pc' := 223) ?_
            refine g_istore (i := 29) X160 hx #[.val (.int mo), .val (.long p1), .second, .val (.long p2), .second, .val (.long p3), .second, .val (.long p4), .second, .val (.long p5), .second, .val (.long D), .second, .val (.long bu), .second, .val (.long vx), .second, .val (.long vy), .second, .val (.long vz), .second, .val (.long G), .second, .val (.long vt), .second, .val (.ref a153), .val (.int (1 : Int32)), .val (.int ay), .val (.int (1 : Int32)), .val (.int (1 : Int32))] (hb hby at_223) rfl rfl ?_
            exact J225 _ (Or.inl ⟨rfl, Or.inr ((cm_eq _ _).mp q2)⟩)
      refine g_if_eq X158 hx (hb hby at_152) (by decide) (pt := 159) (by decide) rfl (fun q1 => ?_) (fun q1 => ?_)
      · refine g_iconst (v := (0 : Int32)) X158 hx (hb hby at_159) (by decide) rfl ?_
        refine g_icmp_ne X158 hx (hb hby at_160) (by decide) (pt := 167) (by decide) rfl (fun q_ => absurd (by rw [hay, if_pos ((cm_eq _ _).mp q1)]) q_) (fun _ => ?_)
        refine g_iconst (v := (1 : Int32)) X158 hx (hb hby at_163) (by decide) rfl ?_
        refine g_goto X158 hx (hb hby at_164) (by decide) (by decide) (pc' := 168) ?_
        refine g_istore (i := 28) X158 hx #[.val (.int mo), .val (.long p1), .second, .val (.long p2), .second, .val (.long p3), .second, .val (.long p4), .second, .val (.long p5), .second, .val (.long D), .second, .val (.long bu), .second, .val (.long vx), .second, .val (.long vy), .second, .val (.long vz), .second, .val (.long G), .second, .val (.long vt), .second, .val (.ref a153), .val (.int (1 : Int32)), .val (.int ay), .val (.int (1 : Int32)), .unset] (hb hby at_168) rfl rfl ?_
        exact J170
      · refine g_iconst (v := (1 : Int32)) X158 hx (hb hby at_155) (by decide) rfl ?_
        refine g_goto X158 hx (hb hby at_156) (by decide) (by decide) (pc' := 160) ?_
        refine g_icmp_ne X158 hx (hb hby at_160) (by decide) (pt := 167) (by decide) rfl (fun q_ => absurd (by rw [hay, if_neg (fun t => q1 ((cm_eq _ _).mpr t))]) q_) (fun _ => ?_)
        refine g_iconst (v := (1 : Int32)) X158 hx (hb hby at_163) (by decide) rfl ?_
        refine g_goto X158 hx (hb hby at_164) (by decide) (by decide) (pc' := 168) ?_
        refine g_istore (i := 28) X158 hx #[.val (.int mo), .val (.long p1), .second, .val (.long p2), .second, .val (.long p3), .second, .val (.long p4), .second, .val (.long p5), .second, .val (.long D), .second, .val (.long bu), .second, .val (.long vx), .second, .val (.long vy), .second, .val (.long vz), .second, .val (.long G), .second, .val (.long vt), .second, .val (.ref a153), .val (.int (1 : Int32)), .val (.int ay), .val (.int (1 : Int32)), .unset] (hb hby at_168) rfl rfl ?_
        exact J170
    refine g_if_eq X152 hx (hb hby at_74) (by decide) (pt := 88) (by decide) rfl (fun q1 => ?_) (fun q1 => ?_)
    · refine g_lload (i := 11) X152 hx (hb hby at_88) (by rfl) rfl ?_
      exact J90 _ D0 D1
    · refine g_lload (i := 9) X152 hx (hb hby at_77) (by rfl) rfl ?_
      refine g_ldc2J X152 hx hZ hown (wd hw 78 rfl) (hb hby at_79) rfl ?_
      refine g_land X152 hx (hb hby at_82) rfl ?_
      refine g_lconst (v := (1 : Int64)) X152 hx (hb hby at_83) (by decide) rfl ?_
      refine g_ladd X152 hx (hb hby at_84) rfl ?_
      refine g_goto X152 hx (hb hby at_85) (by decide) (by decide) (pc' := 90) ?_
      exact J90 _ (own_bd p5 262143 18 (by decide) (by decide)).1 (own_bd p5 262143 18 (by decide) (by decide)).2
  refine g_iload_n (i := 0) X0 hx (hb hby at_0) (by rfl) rfl ?_
  refine g_iconst (v := (1 : Int32)) X0 hx (hb hby at_1) (by decide) rfl ?_
  refine g_iand X0 hx (hb hby at_2) rfl ?_
  refine g_if_eq X0 hx (hb hby at_3) (by decide) (pt := 16) (by decide) rfl (fun q1 => ?_) (fun q1 => ?_)
  · refine g_lload_n (i := 1) X0 hx (hb hby at_16) (by rfl) rfl ?_
    refine g_ldc2J X0 hx hZ hown (wd hw 0 rfl) (hb hby at_17) rfl ?_
    refine g_land X0 hx (hb hby at_20) rfl ?_
    refine g_lconst (v := (1 : Int64)) X0 hx (hb hby at_21) (by decide) rfl ?_
    refine g_ladd X0 hx (hb hby at_22) rfl ?_
    exact J23 _ (own_bd p1 4611686018427387903 62 (by decide) (by decide)).1 (own_bd p1 4611686018427387903 62 (by decide) (by decide)).2
  · refine g_lload_n (i := 1) X0 hx (hb hby at_6) (by rfl) rfl ?_
    refine g_ldc2J X0 hx hZ hown (wd hw 78 rfl) (hb hby at_7) rfl ?_
    refine g_land X0 hx (hb hby at_10) rfl ?_
    refine g_lconst (v := (1 : Int64)) X0 hx (hb hby at_11) (by decide) rfl ?_
    refine g_ladd X0 hx (hb hby at_12) rfl ?_
    refine g_goto X0 hx (hb hby at_13) (by decide) (by decide) (pc' := 23) ?_
    exact J23 _ (own_bd p1 262143 18 (by decide) (by decide)).1 (own_bd p1 262143 18 (by decide) (by decide)).2
set_option maxRecDepth 65536 in
set_option maxHeartbeats 40000000 in
theorem comes_1 {Post : Tables → Env → Array Value → State → Outcome → State → Prop} (hpost : ∀ tb e args s v u, (limb_1_1.after args s (.returned v) u = true ∧ limb_1_2.after args s (.returned v) u = true ∧ True) → FrameEnd s (.returned v) u (Jvm.fieldLocs frame_1_writes args s ++ Jvm.arrayLocs frame_1_arrays args s ++ Jvm.staticLocs frame_1_statics s) 24 16512 → Post tb e args s (.returned v) u) :
    ArmFor flags0 classFile x code maxLocals ret World_1 tables_1 room_1 Calls_1 rest_1 Pre_1 Post := by
  intro l hfl _ _ p e ha hc hk s m args below hf hA hF happ hP
  obtain ⟨hcalls, hrest, hpre⟩ := hP
  obtain ⟨-, -, -, hnamed, -, -, -, hat⟩ := (Spec.applies_iff hf).mp happ
  obtain ⟨hg, hn⟩ := and_e (Cond.before_iff.mp (show (Jvm.Cond.and given_1 narrow_1).before args s = true from hpre))
  obtain ⟨hcnt, hg0⟩ := and_e hg
  obtain ⟨w0, w1, w2, w3, w4, w5, rfl⟩ : ∃ w0 w1 w2 w3 w4 w5 : Value, args = #[w0, w1, w2, w3, w4, w5] := by
    have hs : args.size = 6 := by simpa [Cond.value, given_1] using hcnt
    obtain ⟨L⟩ := args
    match L, hs with
    | [w0, w1, w2, w3, w4, w5], _ => exact ⟨w0, w1, w2, w3, w4, w5, rfl⟩
  have hw := fun d (hd : d ∈ tables_1) => atoms_spec (ws := Jvm.Cond.code x code maxLocals ret :: tables_1) hat d (List.mem_cons_of_mem _ hd)
  have hfit : Fit s := fun {y c} hc i hi => by
    obtain ⟨ha, rfl⟩ := Array.getElem?_eq_some_iff.mp hc
    have q := List.all_eq_true.mp ((Array.all_eq_true_iff_forall_mem.mp hF) _ (Array.getElem_mem ha)) i (List.mem_range.mpr hi)
    simpa [Array.getElem?_eq_getElem hi] using q
  obtain ⟨ha0, hg1⟩ := and_e hg0
  obtain ⟨i0, q0⟩ := is_v ha0
  obtain rfl : w0 = (.int i0) := Option.some.inj q0
  obtain ⟨ha1, hg2⟩ := and_e hg1
  obtain ⟨i1, q1⟩ := isL_v ha1
  obtain rfl : w1 = (.long i1) := Option.some.inj q1
  obtain ⟨ha2, hg3⟩ := and_e hg2
  obtain ⟨i2, q2⟩ := isL_v ha2
  obtain rfl : w2 = (.long i2) := Option.some.inj q2
  obtain ⟨ha3, hg4⟩ := and_e hg3
  obtain ⟨i3, q3⟩ := isL_v ha3
  obtain rfl : w3 = (.long i3) := Option.some.inj q3
  obtain ⟨ha4, hg5⟩ := and_e hg4
  obtain ⟨i4, q4⟩ := isL_v ha4
  obtain rfl : w4 = (.long i4) := Option.some.inj q4
  obtain ⟨i5, q5⟩ := isL_v hg5
  obtain rfl : w5 = (.long i5) := Option.some.inj q5
  obtain ⟨n, o, h1, h2, h3, _, L, rfl, ⟨rfl, N⟩, hq⟩ := rm0 l s _ hw i0 i1 i2 i3 i4 i5 s.heap s.heap.size (Nat.le_refl _) p e ha hc hk s m _ below hf ((Spec.applies_iff_loose hf).mp happ).1 ⟨rfl, State.Warmed39.refl s, rfl⟩ trivial
  refine ⟨n, _, h1, h2, h3, hpost _ _ _ _ _ _ ⟨Cond.after_iff.mpr rfl, Cond.after_iff.mpr (eq_i res_at (Term.int_eval (1)) rfl), trivial⟩ ⟨hq.1, hq.2.1, (hq.2.2.sift fun y hy => Or.inr (N y hy)).mono (by decide) (by decide)⟩⟩
theorem main_1_1 : Claimed_1_1 := comes_1 fun _ _ _ _ _ _ h hF => ⟨h.1, hF⟩
theorem main_1_2 : Claimed_1_2 := comes_1 fun _ _ _ _ _ _ h hF => ⟨h.2.1, hF⟩
end Jvm.Pilot.@@N@@
namespace Jvm.Pilot.@@N@@
open Jvm Jvm.ClassFile Sem Op Lib Jvm.Free Jvm.Stand Jvm.Pilot.@@N@@.Jvm.D
/-! MADE BY PROGRAM (witnessworld.py) out of the Statement's table words and the real class files: 19 classes; the members and pool entries that the words name. The judged class is class 1, her method 1. -/
namespace start1
open Jvm.ClassFile
def u (s : String) : CpInfo := .utf8 (stringToUtf16 s)
/-- a pool by its gaps: so many unusable entries, then the entry; so many at the end -/
def gap : Nat → List CpInfo → List CpInfo
  | 0, r => r
  | n + 1, r => .unusable :: gap n r
def poolList (es : List (Nat × CpInfo)) (last : Nat) : List CpInfo := es.foldr (fun e r => gap e.1 (e.2 :: r)) (gap last [])
def pool (es : List (Nat × CpInfo)) (last : Nat) : Array CpInfo := ⟨poolList es last⟩
def fileOf (pool : Array CpInfo) (this : Nat) (attrs : Array Attribute := #[]) (ms : Array MethodInfo := #[]) (fl : Nat := 33) (sup : Nat := 0) (ifs : Array Nat := #[]) (fds : Array FieldInfo := #[]) : ClassFile where
  minorVersion := 0
  majorVersion := 65
  constantPool := pool
  accessFlags := fl
  thisClass := this
  superClass := sup
  interfaces := ifs
  fields := fds
  methods := ms
  attributes := attrs
def plain (name : String) (sup : Option ClassId) : Class where
  name := name
  kind := .ordinary
  loader := none
  accessFlags := 33
  super := sup
  interfaces := #[]
  cf := none
  fields := #[]
  methods := #[]
  instanceTypes := #[]
  staticTypes := #[]
  resolved := #[]
  callSites := []
  init := .initialized
  statics := none
  mirror := none

def pool0 : Array CpInfo := pool [(5, u "<init>"), (0, u "()V"), (1, .class_ 10), (1, u "java/lang/Object")] 113

def k0c0 : Code := { maxStack := 0, maxLocals := 1, code := object_method_1_code, exceptionTable := #[], attributes := #[] }
def k0m0 : Method := { name := "<init>", desc := "()V", sig := { parameters := [], returnType := none }, accessFlags := 1, code := some k0c0 }
/-- java/lang/Object -/
def k0 : Class := { plain "java/lang/Object" none with
  accessFlags := 33
  interfaces := #[]
  cf := some (fileOf pool0 8 #[] #[{ accessFlags := 1, nameIndex := 5, descriptorIndex := 6, attributes := #[] }] 33 0 #[] #[])
  fields := #[]
  methods := #[k0m0]
  instanceTypes := #[]
  staticTypes := #[]
  resolved := Array.replicate 124 none
  statics := none }

def pool1 : Array CpInfo := pool [(2, .class_ 4), (0, .nameAndType 5 6), (0, u "java/lang/Object"), (0, u "<init>"), (0, u "()V"), (0, .long 262143), (1, .class_ 10), (0, u "com/example/nav_by_schema/navbyschema/regex/StateSet"), (0, .long 4611686018427387903), (1, .long 4096), (1, .long 68719476735), (1, .methodref 18 19), (0, .class_ 20), (0, .nameAndType 21 22), (0, u "java/lang/Math"), (0, u "max"), (0, u "(JJ)J"), (2, .long 9223372036854775807), (1, .methodref 9 3), (0, .methodref 9 29), (0, .nameAndType 30 31), (0, u "clear"), (0, u "(JJ)V"), (0, .methodref 9 33), (0, .nameAndType 34 35), (0, u "add"), (0, u "(J)Z"), (0, .methodref 9 37), (0, .nameAndType 38 6), (0, u "release"), (0, .methodref 9 40), (0, .nameAndType 41 35), (0, u "contains"), (0, .methodref 9 43), (0, .nameAndType 44 45), (0, u "remembers"), (0, u "()Z"), (0, .class_ 47), (0, u "com/example/nav_by_schema/navbyschema/regex/StateSetReleasePinLaw"), (2, u "law"), (0, u "(IJJJJJ)Z")] 3

def k1m0 : Method := { name := "<init>", desc := "()V", sig := { parameters := [], returnType := none }, accessFlags := 1, code := none }
def k1c1 : Code := { maxStack := 6, maxLocals := 30, code := code, exceptionTable := #[], attributes := #[] }
def k1m1 : Method := { name := "law", desc := "(IJJJJJ)Z", sig := { parameters := [.int, .long, .long, .long, .long, .long], returnType := some .boolean }, accessFlags := 9, code := some k1c1 }
/-- com/example/nav_by_schema/navbyschema/regex/StateSetReleasePinLaw -/
def k1 : Class := { plain "com/example/nav_by_schema/navbyschema/regex/StateSetReleasePinLaw" (some 0) with
  accessFlags := 49
  interfaces := #[]
  cf := some (fileOf pool1 46 #[] #[{ accessFlags := 1, nameIndex := 5, descriptorIndex := 6, attributes := #[] }, { accessFlags := 9, nameIndex := 50, descriptorIndex := 51, attributes := #[] }] 49 2 #[] #[])
  fields := #[]
  methods := #[k1m0, k1m1]
  instanceTypes := #[]
  staticTypes := #[]
  resolved := Array.replicate 55 none
  statics := none }

def pool2 : Array CpInfo := pool [(1, .class_ 2), (0, u "java/lang/Math"), (1, .class_ 6), (1, u "java/lang/Object"), (0, u "<init>"), (0, u "()V"), (89, .class_ 100), (1, u "java/lang/Math$RandomNumberGeneratorHolder"), (20, u "(JJ)J"), (50, u "negativeZeroFloatBits"), (0, u "J"), (2, u "negativeZeroDoubleBits"), (21, u "max"), (2, u "min"), (43, u "$assertionsDisabled"), (0, u "Z"), (91, u "twoToTheDoubleScaleDown"), (0, u "D"), (4, u "twoToTheDoubleScaleUp"), (9, u "E"), (3, u "PI"), (2, u "TAU"), (2, u "DEGREES_TO_RADIANS"), (0, u "RADIANS_TO_DEGREES")] 94

def k2m0 : Method := { name := "<init>", desc := "()V", sig := { parameters := [], returnType := none }, accessFlags := 2, code := none }
def k2c1 : Code := { maxStack := 4, maxLocals := 4, code := jdk_29_method_66_code, exceptionTable := #[], attributes := #[] }
def k2m1 : Method := { name := "max", desc := "(JJ)J", sig := { parameters := [.long, .long], returnType := some .long }, accessFlags := 9, code := some k2c1 }
def k2c2 : Code := { maxStack := 4, maxLocals := 4, code := jdk_29_method_70_code, exceptionTable := #[], attributes := #[] }
def k2m2 : Method := { name := "min", desc := "(JJ)J", sig := { parameters := [.long, .long], returnType := some .long }, accessFlags := 9, code := some k2c2 }
/-- java/lang/Math -/
def k2 : Class := { plain "java/lang/Math" (some 0) with
  accessFlags := 49
  interfaces := #[]
  cf := some (fileOf pool2 1 #[.nestMembers #[98]] #[{ accessFlags := 2, nameIndex := 7, descriptorIndex := 8, attributes := #[] }, { accessFlags := 9, nameIndex := 198, descriptorIndex := 121, attributes := #[] }, { accessFlags := 9, nameIndex := 201, descriptorIndex := 121, attributes := #[] }] 49 4 #[] #[{ accessFlags := 25, nameIndex := 354, descriptorIndex := 339, attributes := #[] }, { accessFlags := 25, nameIndex := 358, descriptorIndex := 339, attributes := #[] }, { accessFlags := 25, nameIndex := 361, descriptorIndex := 339, attributes := #[] }, { accessFlags := 26, nameIndex := 364, descriptorIndex := 339, attributes := #[] }, { accessFlags := 26, nameIndex := 365, descriptorIndex := 339, attributes := #[] }, { accessFlags := 26, nameIndex := 172, descriptorIndex := 173, attributes := #[] }, { accessFlags := 26, nameIndex := 176, descriptorIndex := 173, attributes := #[] }, { accessFlags := 8, nameIndex := 344, descriptorIndex := 339, attributes := #[] }, { accessFlags := 8, nameIndex := 338, descriptorIndex := 339, attributes := #[] }, { accessFlags := 4120, nameIndex := 245, descriptorIndex := 246, attributes := #[] }])
  fields := #[{ name := "E", type := .double, accessFlags := 25, slot := 0, constantValue := 0 }, { name := "PI", type := .double, accessFlags := 25, slot := 1, constantValue := 0 }, { name := "TAU", type := .double, accessFlags := 25, slot := 2, constantValue := 0 }, { name := "DEGREES_TO_RADIANS", type := .double, accessFlags := 26, slot := 3, constantValue := 0 }, { name := "RADIANS_TO_DEGREES", type := .double, accessFlags := 26, slot := 4, constantValue := 0 }, { name := "negativeZeroFloatBits", type := .long, accessFlags := 26, slot := 5, constantValue := 0 }, { name := "negativeZeroDoubleBits", type := .long, accessFlags := 26, slot := 6, constantValue := 0 }, { name := "twoToTheDoubleScaleUp", type := .double, accessFlags := 8, slot := 7, constantValue := 0 }, { name := "twoToTheDoubleScaleDown", type := .double, accessFlags := 8, slot := 8, constantValue := 0 }, { name := "$assertionsDisabled", type := .boolean, accessFlags := 4120, slot := 9, constantValue := 0 }]
  methods := #[k2m0, k2m1, k2m2]
  instanceTypes := #[]
  staticTypes := #[.double, .double, .double, .double, .double, .long, .long, .double, .double, .boolean]
  resolved := Array.replicate 460 none
  statics := none }

def pool3 : Array CpInfo := pool [(1, .methodref 2 3), (0, .class_ 4), (0, .nameAndType 5 6), (0, u "java/lang/Object"), (0, u "<init>"), (0, u "()V"), (0, .fieldref 8 9), (0, .class_ 10), (0, .nameAndType 11 12), (0, u "com/example/nav_by_schema/navbyschema/regex/StateSet"), (0, u "bits"), (0, u "[J"), (0, .fieldref 8 14), (0, .nameAndType 15 12), (0, u "slots"), (0, .fieldref 8 17), (0, .nameAndType 18 19), (0, u "bound"), (0, u "J"), (0, .fieldref 8 21), (0, .nameAndType 22 23), (0, u "bitmapFits"), (0, u "Z"), (0, .methodref 8 25), (0, .nameAndType 26 27), (0, u "words"), (0, u "()J"), (0, .long 4096), (1, .fieldref 8 31), (0, .nameAndType 32 23), (0, u "dense"), (0, .fieldref 8 34), (0, .nameAndType 35 23), (0, u "overflowed"), (0, .fieldref 8 37), (0, .nameAndType 38 39), (0, u "count"), (0, u "I"), (0, .methodref 8 41), (0, .nameAndType 42 6), (0, u "emptyBits"), (0, .long 1073741824), (1, .methodref 46 47), (0, .class_ 48), (0, .nameAndType 49 50), (0, u "java/lang/Math"), (0, u "min"), (0, u "(JJ)J"), (0, .methodref 52 53), (0, .class_ 54), (0, .nameAndType 55 56), (0, u "java/lang/Integer"), (0, u "highestOneBit"), (0, u "(I)I"), (0, .fieldref 8 58), (0, .nameAndType 59 39), (0, u "maxSlots"), (0, .methodref 61 62), (0, .class_ 63), (0, .nameAndType 64 65), (0, u "java/util/Arrays"), (0, u "fill"), (0, u "([JJ)V"), (0, .methodref 67 68), (0, .class_ 69), (0, .nameAndType 70 71), (0, u "java/lang/Long"), (0, u "numberOfLeadingZeros"), (0, u "(J)I"), (0, .fieldref 8 73), (0, .nameAndType 74 39), (0, u "shift"), (0, .methodref 8 76), (0, .nameAndType 77 78), (0, u "checkBound"), (0, u "(J)V"), (0, .methodref 8 80), (0, .nameAndType 81 71), (0, u "slot"), (0, .methodref 8 83), (0, .nameAndType 84 85), (0, u "addToTable"), (0, u "(J)Z"), (9, .long 32), (7, .methodref 61 104), (0, .nameAndType 64 105), (0, u "([JIIJ)V"), (0, .long 63), (1, .long 11400714819323198485), (1, u "MAX_BOUND"), (3, u "KEPT"), (1, u "TABLE_SHARE"), (1, u "FIRST_SLOTS"), (1, u "GOLDEN"), (2, u "clear"), (0, u "(JJ)V"), (1, u "remembers"), (0, u "()Z"), (0, u "contains"), (0, u "add"), (0, u "release")] 18

def k3c0 : Code := { maxStack := 2, maxLocals := 1, code := prog_26_method_1_code, exceptionTable := #[], attributes := #[] }
def k3m0 : Method := { name := "<init>", desc := "()V", sig := { parameters := [], returnType := none }, accessFlags := 0, code := some k3c0 }
def k3c1 : Code := { maxStack := 5, maxLocals := 5, code := prog_26_method_2_code, exceptionTable := #[], attributes := #[] }
def k3m1 : Method := { name := "clear", desc := "(JJ)V", sig := { parameters := [.long, .long], returnType := none }, accessFlags := 0, code := some k3c1 }
def k3c2 : Code := { maxStack := 1, maxLocals := 1, code := prog_26_method_3_code, exceptionTable := #[], attributes := #[] }
def k3m2 : Method := { name := "remembers", desc := "()Z", sig := { parameters := [], returnType := some .boolean }, accessFlags := 0, code := some k3c2 }
def k3c3 : Code := { maxStack := 6, maxLocals := 4, code := prog_26_method_4_code, exceptionTable := #[], attributes := #[] }
def k3m3 : Method := { name := "contains", desc := "(J)Z", sig := { parameters := [.long], returnType := some .boolean }, accessFlags := 0, code := some k3c3 }
def k3c4 : Code := { maxStack := 8, maxLocals := 5, code := prog_26_method_5_code, exceptionTable := #[], attributes := #[] }
def k3m4 : Method := { name := "add", desc := "(J)Z", sig := { parameters := [.long], returnType := some .boolean }, accessFlags := 0, code := some k3c4 }
def k3c5 : Code := { maxStack := 2, maxLocals := 1, code := prog_26_method_6_code, exceptionTable := #[], attributes := #[] }
def k3m5 : Method := { name := "release", desc := "()V", sig := { parameters := [], returnType := none }, accessFlags := 0, code := some k3c5 }
def k3c6 : Code := { maxStack := 6, maxLocals := 3, code := prog_26_method_7_code, exceptionTable := #[], attributes := #[] }
def k3m6 : Method := { name := "checkBound", desc := "(J)V", sig := { parameters := [.long], returnType := none }, accessFlags := 2, code := some k3c6 }
def k3c7 : Code := { maxStack := 8, maxLocals := 5, code := prog_26_method_8_code, exceptionTable := #[], attributes := #[] }
def k3m7 : Method := { name := "addToTable", desc := "(J)Z", sig := { parameters := [.long], returnType := some .boolean }, accessFlags := 2, code := some k3c7 }
def k3c8 : Code := { maxStack := 5, maxLocals := 2, code := prog_26_method_10_code, exceptionTable := #[], attributes := #[] }
def k3m8 : Method := { name := "emptyBits", desc := "()V", sig := { parameters := [], returnType := none }, accessFlags := 2, code := some k3c8 }
def k3c9 : Code := { maxStack := 4, maxLocals := 1, code := prog_26_method_11_code, exceptionTable := #[], attributes := #[] }
def k3m9 : Method := { name := "words", desc := "()J", sig := { parameters := [], returnType := some .long }, accessFlags := 2, code := some k3c9 }
def k3c10 : Code := { maxStack := 6, maxLocals := 5, code := prog_26_method_13_code, exceptionTable := #[], attributes := #[] }
def k3m10 : Method := { name := "slot", desc := "(J)I", sig := { parameters := [.long], returnType := some .int }, accessFlags := 2, code := some k3c10 }
/-- com/example/nav_by_schema/navbyschema/regex/StateSet -/
def k3 : Class := { plain "com/example/nav_by_schema/navbyschema/regex/StateSet" (some 0) with
  accessFlags := 48
  interfaces := #[]
  cf := some (fileOf pool3 8 #[] #[{ accessFlags := 0, nameIndex := 5, descriptorIndex := 6, attributes := #[] }, { accessFlags := 0, nameIndex := 123, descriptorIndex := 124, attributes := #[] }, { accessFlags := 0, nameIndex := 126, descriptorIndex := 127, attributes := #[] }, { accessFlags := 0, nameIndex := 128, descriptorIndex := 85, attributes := #[] }, { accessFlags := 0, nameIndex := 129, descriptorIndex := 85, attributes := #[] }, { accessFlags := 0, nameIndex := 130, descriptorIndex := 6, attributes := #[] }, { accessFlags := 2, nameIndex := 77, descriptorIndex := 78, attributes := #[] }, { accessFlags := 2, nameIndex := 84, descriptorIndex := 85, attributes := #[] }, { accessFlags := 2, nameIndex := 42, descriptorIndex := 6, attributes := #[] }, { accessFlags := 2, nameIndex := 26, descriptorIndex := 27, attributes := #[] }, { accessFlags := 2, nameIndex := 81, descriptorIndex := 71, attributes := #[] }] 48 2 #[] #[{ accessFlags := 24, nameIndex := 110, descriptorIndex := 19, attributes := #[] }, { accessFlags := 26, nameIndex := 114, descriptorIndex := 39, attributes := #[] }, { accessFlags := 26, nameIndex := 116, descriptorIndex := 39, attributes := #[] }, { accessFlags := 26, nameIndex := 118, descriptorIndex := 39, attributes := #[] }, { accessFlags := 26, nameIndex := 120, descriptorIndex := 19, attributes := #[] }, { accessFlags := 2, nameIndex := 18, descriptorIndex := 19, attributes := #[] }, { accessFlags := 2, nameIndex := 11, descriptorIndex := 12, attributes := #[] }, { accessFlags := 2, nameIndex := 15, descriptorIndex := 12, attributes := #[] }, { accessFlags := 2, nameIndex := 74, descriptorIndex := 39, attributes := #[] }, { accessFlags := 2, nameIndex := 32, descriptorIndex := 23, attributes := #[] }, { accessFlags := 2, nameIndex := 22, descriptorIndex := 23, attributes := #[] }, { accessFlags := 2, nameIndex := 35, descriptorIndex := 23, attributes := #[] }, { accessFlags := 2, nameIndex := 38, descriptorIndex := 39, attributes := #[] }, { accessFlags := 2, nameIndex := 59, descriptorIndex := 39, attributes := #[] }])
  fields := #[{ name := "MAX_BOUND", type := .long, accessFlags := 24, slot := 0, constantValue := 0 }, { name := "KEPT", type := .int, accessFlags := 26, slot := 1, constantValue := 0 }, { name := "TABLE_SHARE", type := .int, accessFlags := 26, slot := 2, constantValue := 0 }, { name := "FIRST_SLOTS", type := .int, accessFlags := 26, slot := 3, constantValue := 0 }, { name := "GOLDEN", type := .long, accessFlags := 26, slot := 4, constantValue := 0 }, { name := "bound", type := .long, accessFlags := 2, slot := 0, constantValue := 0 }, { name := "bits", type := (.array .long), accessFlags := 2, slot := 1, constantValue := 0 }, { name := "slots", type := (.array .long), accessFlags := 2, slot := 2, constantValue := 0 }, { name := "shift", type := .int, accessFlags := 2, slot := 3, constantValue := 0 }, { name := "dense", type := .boolean, accessFlags := 2, slot := 4, constantValue := 0 }, { name := "bitmapFits", type := .boolean, accessFlags := 2, slot := 5, constantValue := 0 }, { name := "overflowed", type := .boolean, accessFlags := 2, slot := 6, constantValue := 0 }, { name := "count", type := .int, accessFlags := 2, slot := 7, constantValue := 0 }, { name := "maxSlots", type := .int, accessFlags := 2, slot := 8, constantValue := 0 }]
  methods := #[k3m0, k3m1, k3m2, k3m3, k3m4, k3m5, k3m6, k3m7, k3m8, k3m9, k3m10]
  instanceTypes := #[.long, (.array .long), (.array .long), .int, .boolean, .boolean, .boolean, .int, .int]
  staticTypes := #[.long, .int, .int, .int, .long]
  resolved := Array.replicate 149 none
  statics := none }

def pool4 : Array CpInfo := pool [(2, .class_ 4), (1, u "java/lang/Object"), (0, u "<init>"), (0, u "()V"), (6, .methodref 14 15), (0, .class_ 16), (0, .nameAndType 17 18), (0, u "java/util/Arrays"), (0, u "rangeCheck"), (0, u "(III)V"), (55, .class_ 76), (1, u "java/util/Arrays$NaturalOrder"), (36, .class_ 115), (1, u "java/util/Arrays$LegacyMergeSort"), (1, u "Z"), (257, .class_ 376), (0, u "java/util/Arrays$ArrayList"), (68, u "$assertionsDisabled"), (269, u "MIN_ARRAY_SORT_GRAN"), (0, u "I"), (2, u "INSERTIONSORT_THRESHOLD"), (120, u "fill"), (0, u "([JJ)V"), (2, u "([JIIJ)V"), (130, .class_ 976), (0, u "java/util/Arrays$ArrayItr")] 52

def k4m0 : Method := { name := "<init>", desc := "()V", sig := { parameters := [], returnType := none }, accessFlags := 2, code := none }
def k4c1 : Code := { maxStack := 4, maxLocals := 3, code := jdk_65_method_30_code, exceptionTable := #[], attributes := #[] }
def k4m1 : Method := { name := "rangeCheck", desc := "(III)V", sig := { parameters := [.int, .int, .int], returnType := none }, accessFlags := 8, code := some k4c1 }
def k4c2 : Code := { maxStack := 4, maxLocals := 5, code := jdk_65_method_101_code, exceptionTable := #[], attributes := #[] }
def k4m2 : Method := { name := "fill", desc := "([JJ)V", sig := { parameters := [(.array .long), .long], returnType := none }, accessFlags := 9, code := some k4c2 }
def k4c3 : Code := { maxStack := 4, maxLocals := 6, code := jdk_65_method_102_code, exceptionTable := #[], attributes := #[] }
def k4m3 : Method := { name := "fill", desc := "([JIIJ)V", sig := { parameters := [(.array .long), .int, .int, .long], returnType := none }, accessFlags := 9, code := some k4c3 }
/-- java/util/Arrays -/
def k4 : Class := { plain "java/util/Arrays" (some 0) with
  accessFlags := 49
  interfaces := #[]
  cf := some (fileOf pool4 14 #[.nestMembers #[975, 375, 113, 74]] #[{ accessFlags := 2, nameIndex := 5, descriptorIndex := 6, attributes := #[] }, { accessFlags := 8, nameIndex := 17, descriptorIndex := 18, attributes := #[] }, { accessFlags := 9, nameIndex := 840, descriptorIndex := 841, attributes := #[] }, { accessFlags := 9, nameIndex := 840, descriptorIndex := 844, attributes := #[] }] 49 2 #[] #[{ accessFlags := 26, nameIndex := 715, descriptorIndex := 716, attributes := #[] }, { accessFlags := 26, nameIndex := 719, descriptorIndex := 716, attributes := #[] }, { accessFlags := 4120, nameIndex := 445, descriptorIndex := 117, attributes := #[] }])
  fields := #[{ name := "MIN_ARRAY_SORT_GRAN", type := .int, accessFlags := 26, slot := 0, constantValue := 0 }, { name := "INSERTIONSORT_THRESHOLD", type := .int, accessFlags := 26, slot := 1, constantValue := 0 }, { name := "$assertionsDisabled", type := .boolean, accessFlags := 4120, slot := 2, constantValue := 0 }]
  methods := #[k4m0, k4m1, k4m2, k4m3]
  instanceTypes := #[]
  staticTypes := #[.int, .int, .boolean]
  resolved := Array.replicate 1029 none
  statics := none }

def pool5 : Array CpInfo := pool [(1, .class_ 2), (0, u "java/io/Serializable"), (0, .class_ 4), (0, u "java/lang/Object")] 2

/-- java/io/Serializable -/
def k5 : Class := { plain "java/io/Serializable" (some 0) with
  accessFlags := 1537
  interfaces := #[]
  cf := some (fileOf pool5 1 #[] #[] 1537 3 #[] #[])
  fields := #[]
  methods := #[]
  instanceTypes := #[]
  staticTypes := #[]
  resolved := Array.replicate 7 none
  statics := none }

def pool6 : Array CpInfo := pool [(2, .class_ 4), (1, u "java/lang/Object"), (0, u "<init>"), (0, u "()V"), (1, .class_ 10), (1, u "java/lang/Number"), (2, .class_ 14), (0, u "java/io/Serializable"), (0, u "serialVersionUID"), (0, u "J")] 20

def k6m0 : Method := { name := "<init>", desc := "()V", sig := { parameters := [], returnType := none }, accessFlags := 1, code := none }
/-- java/lang/Number -/
def k6 : Class := { plain "java/lang/Number" (some 0) with
  accessFlags := 1057
  interfaces := #[5]
  cf := some (fileOf pool6 8 #[] #[{ accessFlags := 1, nameIndex := 5, descriptorIndex := 6, attributes := #[] }] 1057 2 #[13] #[{ accessFlags := 26, nameIndex := 15, descriptorIndex := 16, attributes := #[] }])
  fields := #[{ name := "serialVersionUID", type := .long, accessFlags := 26, slot := 0, constantValue := 0 }]
  methods := #[k6m0]
  instanceTypes := #[]
  staticTypes := #[.long]
  resolved := Array.replicate 37 none
  statics := none }

def pool7 : Array CpInfo := pool [(1, .class_ 2), (0, u "java/lang/Comparable"), (0, .class_ 4), (0, u "java/lang/Object")] 7

/-- java/lang/Comparable -/
def k7 : Class := { plain "java/lang/Comparable" (some 0) with
  accessFlags := 1537
  interfaces := #[]
  cf := some (fileOf pool7 1 #[] #[] 1537 3 #[] #[])
  fields := #[]
  methods := #[]
  instanceTypes := #[]
  staticTypes := #[]
  resolved := Array.replicate 12 none
  statics := none }

def pool8 : Array CpInfo := pool [(1, .class_ 2), (0, u "java/lang/constant/Constable"), (0, .class_ 4), (0, u "java/lang/Object")] 6

/-- java/lang/constant/Constable -/
def k8 : Class := { plain "java/lang/constant/Constable" (some 0) with
  accessFlags := 1537
  interfaces := #[]
  cf := some (fileOf pool8 1 #[] #[] 1537 3 #[] #[])
  fields := #[]
  methods := #[]
  instanceTypes := #[]
  staticTypes := #[]
  resolved := Array.replicate 11 none
  statics := none }

def pool9 : Array CpInfo := pool [(1, .class_ 2), (0, u "java/lang/constant/ConstantDesc"), (0, .class_ 4), (0, u "java/lang/Object")] 32

/-- java/lang/constant/ConstantDesc -/
def k9 : Class := { plain "java/lang/constant/ConstantDesc" (some 0) with
  accessFlags := 1537
  interfaces := #[]
  cf := some (fileOf pool9 1 #[] #[] 1537 3 #[] #[])
  fields := #[]
  methods := #[]
  instanceTypes := #[]
  staticTypes := #[]
  resolved := Array.replicate 37 none
  statics := none }

def pool10 : Array CpInfo := pool [(1, .class_ 2), (0, u "java/lang/Integer"), (16, u "digits"), (0, u "[C"), (30, .methodref 1 52), (0, .nameAndType 53 54), (0, u "numberOfLeadingZeros"), (0, u "(I)I"), (30, u "DigitOnes"), (0, u "[B"), (2, u "DigitTens"), (37, .integer 2147483648), (61, .class_ 190), (0, u "java/lang/Integer$IntegerCache"), (3, u "I"), (8, .class_ 204), (0, u "java/lang/Number"), (2, u "value"), (56, .integer 65536), (37, u "TYPE"), (0, u "Ljava/lang/Class;"), (0, .class_ 305), (0, u "java/lang/Comparable"), (0, .class_ 307), (0, u "java/lang/constant/Constable"), (0, .class_ 309), (0, u "java/lang/constant/ConstantDesc"), (0, u "MIN_VALUE"), (1, u "MAX_VALUE"), (3, u "SIZE"), (1, u "BYTES"), (1, u "serialVersionUID"), (0, u "J"), (81, u "highestOneBit")] 49

def k10c0 : Code := { maxStack := 3, maxLocals := 1, code := jdk_33_method_45_code, exceptionTable := #[], attributes := #[] }
def k10m0 : Method := { name := "highestOneBit", desc := "(I)I", sig := { parameters := [.int], returnType := some .int }, accessFlags := 9, code := some k10c0 }
def k10c1 : Code := { maxStack := 3, maxLocals := 2, code := jdk_33_method_47_code, exceptionTable := #[], attributes := #[] }
def k10m1 : Method := { name := "numberOfLeadingZeros", desc := "(I)I", sig := { parameters := [.int], returnType := some .int }, accessFlags := 9, code := some k10c1 }
/-- java/lang/Integer -/
def k10 : Class := { plain "java/lang/Integer" (some 6) with
  accessFlags := 49
  interfaces := #[7, 8, 9]
  cf := some (fileOf pool10 1 #[.nestMembers #[189]] #[{ accessFlags := 9, nameIndex := 403, descriptorIndex := 54, attributes := #[] }, { accessFlags := 9, nameIndex := 53, descriptorIndex := 54, attributes := #[] }] 49 203 #[304, 306, 308] #[{ accessFlags := 25, nameIndex := 310, descriptorIndex := 194, attributes := #[] }, { accessFlags := 25, nameIndex := 312, descriptorIndex := 194, attributes := #[] }, { accessFlags := 25, nameIndex := 302, descriptorIndex := 303, attributes := #[] }, { accessFlags := 24, nameIndex := 19, descriptorIndex := 20, attributes := #[] }, { accessFlags := 24, nameIndex := 89, descriptorIndex := 86, attributes := #[] }, { accessFlags := 24, nameIndex := 85, descriptorIndex := 86, attributes := #[] }, { accessFlags := 18, nameIndex := 207, descriptorIndex := 194, attributes := #[] }, { accessFlags := 25, nameIndex := 316, descriptorIndex := 194, attributes := #[] }, { accessFlags := 25, nameIndex := 318, descriptorIndex := 194, attributes := #[] }, { accessFlags := 26, nameIndex := 320, descriptorIndex := 321, attributes := #[] }])
  fields := #[{ name := "MIN_VALUE", type := .int, accessFlags := 25, slot := 0, constantValue := 0 }, { name := "MAX_VALUE", type := .int, accessFlags := 25, slot := 1, constantValue := 0 }, { name := "TYPE", type := (.object "java/lang/Class"), accessFlags := 25, slot := 2, constantValue := 0 }, { name := "digits", type := (.array .char), accessFlags := 24, slot := 3, constantValue := 0 }, { name := "DigitTens", type := (.array .byte), accessFlags := 24, slot := 4, constantValue := 0 }, { name := "DigitOnes", type := (.array .byte), accessFlags := 24, slot := 5, constantValue := 0 }, { name := "value", type := .int, accessFlags := 18, slot := 0, constantValue := 0 }, { name := "SIZE", type := .int, accessFlags := 25, slot := 6, constantValue := 0 }, { name := "BYTES", type := .int, accessFlags := 25, slot := 7, constantValue := 0 }, { name := "serialVersionUID", type := .long, accessFlags := 26, slot := 8, constantValue := 0 }]
  methods := #[k10m0, k10m1]
  instanceTypes := #[.int]
  staticTypes := #[.int, .int, (.object "java/lang/Class"), (.array .char), (.array .byte), (.array .byte), .int, .int, .long]
  resolved := Array.replicate 453 none
  statics := none }

def pool11 : Array CpInfo := pool [(1, .class_ 2), (0, u "java/lang/Long"), (15, .class_ 20), (1, u "java/lang/Integer"), (79, u "numberOfLeadingZeros"), (0, u "(J)I"), (133, .class_ 237), (1, u "java/lang/Long$LongCache"), (33, .class_ 272), (0, u "java/lang/Number"), (2, u "value"), (0, u "J"), (31, .methodref 18 309), (0, .nameAndType 100 310), (0, u "(I)I"), (50, u "TYPE"), (0, u "Ljava/lang/Class;"), (0, .class_ 364), (0, u "java/lang/Comparable"), (0, .class_ 366), (0, u "java/lang/constant/Constable"), (0, .class_ 368), (0, u "java/lang/constant/ConstantDesc"), (0, u "MIN_VALUE"), (1, u "MAX_VALUE"), (4, u "SIZE"), (0, u "I"), (1, u "BYTES"), (1, u "serialVersionUID")] 142

def k11c0 : Code := { maxStack := 3, maxLocals := 3, code := jdk_35_method_48_code, exceptionTable := #[], attributes := #[] }
def k11m0 : Method := { name := "numberOfLeadingZeros", desc := "(J)I", sig := { parameters := [.long], returnType := some .int }, accessFlags := 9, code := some k11c0 }
/-- java/lang/Long -/
def k11 : Class := { plain "java/lang/Long" (some 6) with
  accessFlags := 49
  interfaces := #[7, 8, 9]
  cf := some (fileOf pool11 1 #[.nestMembers #[235]] #[{ accessFlags := 9, nameIndex := 100, descriptorIndex := 101, attributes := #[] }] 49 271 #[363, 365, 367] #[{ accessFlags := 25, nameIndex := 369, descriptorIndex := 276, attributes := #[] }, { accessFlags := 25, nameIndex := 371, descriptorIndex := 276, attributes := #[] }, { accessFlags := 25, nameIndex := 361, descriptorIndex := 362, attributes := #[] }, { accessFlags := 18, nameIndex := 275, descriptorIndex := 276, attributes := #[] }, { accessFlags := 25, nameIndex := 376, descriptorIndex := 377, attributes := #[] }, { accessFlags := 25, nameIndex := 379, descriptorIndex := 377, attributes := #[] }, { accessFlags := 26, nameIndex := 381, descriptorIndex := 276, attributes := #[] }])
  fields := #[{ name := "MIN_VALUE", type := .long, accessFlags := 25, slot := 0, constantValue := 0 }, { name := "MAX_VALUE", type := .long, accessFlags := 25, slot := 1, constantValue := 0 }, { name := "TYPE", type := (.object "java/lang/Class"), accessFlags := 25, slot := 2, constantValue := 0 }, { name := "value", type := .long, accessFlags := 18, slot := 0, constantValue := 0 }, { name := "SIZE", type := .int, accessFlags := 25, slot := 3, constantValue := 0 }, { name := "BYTES", type := .int, accessFlags := 25, slot := 4, constantValue := 0 }, { name := "serialVersionUID", type := .long, accessFlags := 26, slot := 5, constantValue := 0 }]
  methods := #[k11m0]
  instanceTypes := #[.long]
  staticTypes := #[.long, .long, (.object "java/lang/Class"), .int, .int, .long]
  resolved := Array.replicate 524 none
  statics := none }

def pool12 : Array CpInfo := pool [(1, u "java/lang/Cloneable"), (0, .class_ 1), (0, u "java/lang/Object"), (0, .class_ 3)] 3

/-- java/lang/Cloneable -/
def k12 : Class := { plain "java/lang/Cloneable" (some 0) with
  accessFlags := 1537
  interfaces := #[]
  cf := some (fileOf pool12 2 #[] #[] 1537 4 #[] #[])
  fields := #[]
  methods := #[]
  instanceTypes := #[]
  staticTypes := #[]
  resolved := Array.replicate 8 none
  statics := none }

/-- the primitive byte -/
def k13 : Class := { plain "byte" none with kind := .primitive 'B', accessFlags := 0x411 }
/-- [B -/
def k14 : Class := { plain "[B" (some 0) with kind := .array 13 .byte, interfaces := #[12, 5], accessFlags := 1041 }

/-- the primitive int -/
def k15 : Class := { plain "int" none with kind := .primitive 'I', accessFlags := 0x411 }
/-- [I -/
def k16 : Class := { plain "[I" (some 0) with kind := .array 15 .int, interfaces := #[12, 5], accessFlags := 1041 }

/-- the primitive long -/
def k17 : Class := { plain "long" none with kind := .primitive 'J', accessFlags := 0x411 }
/-- [J -/
def k18 : Class := { plain "[J" (some 0) with kind := .array 17 .long, interfaces := #[12, 5], accessFlags := 1041 }

def heap : Heap := #[]
def classes : Array Class := #[k0, k1, k2, k3, k4, k5, k6, k7, k8, k9, k10, k11, k12, k13, k14, k15, k16, k17, k18]
def interned : List (Array UInt16 × Addr) := []
def slotsUsed : Nat := 0
def theMethod : MethodId := ⟨1, 1⟩
def args0 : Array Value := #[.int 5, .long 3, .long 4, .long 5, .long 6, .long 7]
def aboutOver (below : List Frame) : State where
  vm := { classes := classes, interned := interned.toArray }
  heap := heap
  slotsUsed := slotsUsed
  threads := #[{ frames := .invoking theMethod args0 :: below }]
def below0 : List Frame := [.native { method := ⟨0, 0⟩, args := #[] }]
def about1 : State := aboutOver below0
def p0 : Program := .bare "" "" ""
def e0 : Env := launch0.env 0 0 0
theorem w_frames : about1.frames = Frame.invoking theMethod args0 :: below0 := rfl
set_option maxRecDepth 65536 in
theorem w_args : argsFit about1.vm theMethod args0 = true := by decide +kernel
set_option maxRecDepth 65536 in
theorem w_heap : heapFits about1 = true := by decide +kernel
set_option maxRecDepth 65536 in
theorem w_runnable : about1.curStatus? = some .runnable := by decide +kernel
set_option maxRecDepth 65536 in
theorem w_alone : about1.alone = true := by decide +kernel
set_option maxRecDepth 65536 in
theorem w_named : about1.methodNamed? x = some theMethod := by decide +kernel
set_option maxRecDepth 65536 in
theorem w_hears : about1.hears theMethod below0 = true := by decide +kernel
set_option maxRecDepth 65536 in
theorem w_ripe : about1.ripe theMethod args0 below0 = true := by decide +kernel
theorem w_running : about1.status = .running := rfl
set_option maxRecDepth 65536 in
theorem w_room : about1.hasRoom e0.platform room_1 = true :=
  launch0.hasRoom_least _ room_1 (by decide +kernel) (by decide +kernel) (by decide +kernel) (by decide +kernel) (by decide +kernel) (by decide +kernel)
theorem allAtoms_all (ts : List Jvm.Cond) (a : Array Jvm.Value) (st : Jvm.State) : (allAtoms ts).before a st = ts.all (fun c => c.before a st) := by
  induction ts with
  | nil => rfl
  | cons c t ih =>
    show (Jvm.Cond.and c (allAtoms t)).before a st = _
    rw [Jvm.Cond.before_and, ih, List.all_cons]
def words1 : List Jvm.Cond := Jvm.Cond.code x code maxLocals ret :: tables_1
/-- a 'code' word, met by the world's own term for the bytes: nothing is compared byte by byte -/
theorem code_word {y : MethodName} {bytes : ByteArray} {mx : Nat} {rt : Option FieldType} {a : Array Value} {s : State} {m : MethodId} {meth : Method} {c : Code} (h1 : s.methodNamed? y = some m) (h2 : s.vm.method? m = some meth) (h3 : meth.code = some c) (h4 : c.code = bytes)
    (h5 : (c.maxLocals == mx && c.exceptionTable.isEmpty && decide (c.maxStack ≤ mostOperands) && decide (meth.sig.returnType = rt) && !meth.locks && decide (parseMethodDescriptor y.desc = some meth.sig)) = true) : (Jvm.Cond.code y bytes mx rt).before a s = true := by
  simp only [Bool.and_eq_true, beq_iff_eq, Bool.not_eq_true', decide_eq_true_eq] at h5
  obtain ⟨⟨⟨⟨⟨g1, g2⟩, g3⟩, g4⟩, g5⟩, g6⟩ := h5
  simp [Cond.before, Cond.holds, Cond.value, h1, h2, h3, h4, g1, g2, g3, g4, g5, g6]
def isCode : Jvm.Cond → Bool
  | .code _ _ _ _ => true
  | _ => false
theorem all_split {L : List Jvm.Cond} {P : Jvm.Cond → Bool} (h1 : L.all (fun c => isCode c || P c) = true) (h2 : ∀ c ∈ L.filter isCode, P c = true) : L.all P = true := by
  refine List.all_eq_true.mpr fun c hc => ?_
  have h := List.all_eq_true.mp h1 c hc
  rcases Bool.eq_false_or_eq_true (isCode c) with hi | hi
  · exact h2 c (List.mem_filter.mpr ⟨hc, hi⟩)
  · simpa [hi] using h
set_option maxRecDepth 65536 in
theorem w_c0 : (Jvm.Cond.code x code maxLocals ret).before args0 about1 = true := code_word (m := ⟨1, 1⟩) (meth := k1m1) (c := k1c1) (by decide +kernel) rfl rfl rfl (by decide +kernel)
set_option maxRecDepth 65536 in
theorem w_c1 : (Jvm.Cond.code ({ cls := "java/lang/Math", name := "max", desc := "(JJ)J" } : Jvm.MethodName) jdk_29_method_66_code (4 : Nat) (Option.some Jvm.ClassFile.FieldType.long)).before args0 about1 = true := code_word (m := ⟨2, 1⟩) (meth := k2m1) (c := k2c1) (by decide +kernel) rfl rfl rfl (by decide +kernel)
set_option maxRecDepth 65536 in
theorem w_c2 : (Jvm.Cond.code ({ cls := "com/example/nav_by_schema/navbyschema/regex/StateSet", name := "<init>", desc := "()V" } : Jvm.MethodName) prog_26_method_1_code (1 : Nat) (Option.none : Option Jvm.ClassFile.FieldType)).before args0 about1 = true := code_word (m := ⟨3, 0⟩) (meth := k3m0) (c := k3c0) (by decide +kernel) rfl rfl rfl (by decide +kernel)
set_option maxRecDepth 65536 in
theorem w_c3 : (Jvm.Cond.code ({ cls := "java/lang/Object", name := "<init>", desc := "()V" } : Jvm.MethodName) object_method_1_code (1 : Nat) (Option.none : Option Jvm.ClassFile.FieldType)).before args0 about1 = true := code_word (m := ⟨0, 0⟩) (meth := k0m0) (c := k0c0) (by decide +kernel) rfl rfl rfl (by decide +kernel)
set_option maxRecDepth 65536 in
theorem w_c4 : (Jvm.Cond.code ({ cls := "com/example/nav_by_schema/navbyschema/regex/StateSet", name := "clear", desc := "(JJ)V" } : Jvm.MethodName) prog_26_method_2_code (5 : Nat) (Option.none : Option Jvm.ClassFile.FieldType)).before args0 about1 = true := code_word (m := ⟨3, 1⟩) (meth := k3m1) (c := k3c1) (by decide +kernel) rfl rfl rfl (by decide +kernel)
set_option maxRecDepth 65536 in
theorem w_c5 : (Jvm.Cond.code ({ cls := "com/example/nav_by_schema/navbyschema/regex/StateSet", name := "words", desc := "()J" } : Jvm.MethodName) prog_26_method_11_code (1 : Nat) (Option.some Jvm.ClassFile.FieldType.long)).before args0 about1 = true := code_word (m := ⟨3, 9⟩) (meth := k3m9) (c := k3c9) (by decide +kernel) rfl rfl rfl (by decide +kernel)
set_option maxRecDepth 65536 in
theorem w_c6 : (Jvm.Cond.code ({ cls := "com/example/nav_by_schema/navbyschema/regex/StateSet", name := "emptyBits", desc := "()V" } : Jvm.MethodName) prog_26_method_10_code (2 : Nat) (Option.none : Option Jvm.ClassFile.FieldType)).before args0 about1 = true := code_word (m := ⟨3, 8⟩) (meth := k3m8) (c := k3c8) (by decide +kernel) rfl rfl rfl (by decide +kernel)
set_option maxRecDepth 65536 in
theorem w_c7 : (Jvm.Cond.code ({ cls := "com/example/nav_by_schema/navbyschema/regex/StateSet", name := "add", desc := "(J)Z" } : Jvm.MethodName) prog_26_method_5_code (5 : Nat) (Option.some Jvm.ClassFile.FieldType.boolean)).before args0 about1 = true := code_word (m := ⟨3, 4⟩) (meth := k3m4) (c := k3c4) (by decide +kernel) rfl rfl rfl (by decide +kernel)
set_option maxRecDepth 65536 in
theorem w_c8 : (Jvm.Cond.code ({ cls := "com/example/nav_by_schema/navbyschema/regex/StateSet", name := "checkBound", desc := "(J)V" } : Jvm.MethodName) prog_26_method_7_code (3 : Nat) (Option.none : Option Jvm.ClassFile.FieldType)).before args0 about1 = true := code_word (m := ⟨3, 6⟩) (meth := k3m6) (c := k3c6) (by decide +kernel) rfl rfl rfl (by decide +kernel)
set_option maxRecDepth 65536 in
theorem w_c9 : (Jvm.Cond.code ({ cls := "com/example/nav_by_schema/navbyschema/regex/StateSet", name := "release", desc := "()V" } : Jvm.MethodName) prog_26_method_6_code (1 : Nat) (Option.none : Option Jvm.ClassFile.FieldType)).before args0 about1 = true := code_word (m := ⟨3, 5⟩) (meth := k3m5) (c := k3c5) (by decide +kernel) rfl rfl rfl (by decide +kernel)
set_option maxRecDepth 65536 in
theorem w_c10 : (Jvm.Cond.code ({ cls := "com/example/nav_by_schema/navbyschema/regex/StateSet", name := "contains", desc := "(J)Z" } : Jvm.MethodName) prog_26_method_4_code (4 : Nat) (Option.some Jvm.ClassFile.FieldType.boolean)).before args0 about1 = true := code_word (m := ⟨3, 3⟩) (meth := k3m3) (c := k3c3) (by decide +kernel) rfl rfl rfl (by decide +kernel)
set_option maxRecDepth 65536 in
theorem w_c11 : (Jvm.Cond.code ({ cls := "com/example/nav_by_schema/navbyschema/regex/StateSet", name := "remembers", desc := "()Z" } : Jvm.MethodName) prog_26_method_3_code (1 : Nat) (Option.some Jvm.ClassFile.FieldType.boolean)).before args0 about1 = true := code_word (m := ⟨3, 2⟩) (meth := k3m2) (c := k3c2) (by decide +kernel) rfl rfl rfl (by decide +kernel)
set_option maxRecDepth 65536 in
theorem w_c12 : (Jvm.Cond.code ({ cls := "java/util/Arrays", name := "fill", desc := "([JIIJ)V" } : Jvm.MethodName) jdk_65_method_102_code (6 : Nat) (Option.none : Option Jvm.ClassFile.FieldType)).before args0 about1 = true := code_word (m := ⟨4, 3⟩) (meth := k4m3) (c := k4c3) (by decide +kernel) rfl rfl rfl (by decide +kernel)
set_option maxRecDepth 65536 in
theorem w_c13 : (Jvm.Cond.code ({ cls := "java/util/Arrays", name := "rangeCheck", desc := "(III)V" } : Jvm.MethodName) jdk_65_method_30_code (3 : Nat) (Option.none : Option Jvm.ClassFile.FieldType)).before args0 about1 = true := code_word (m := ⟨4, 1⟩) (meth := k4m1) (c := k4c1) (by decide +kernel) rfl rfl rfl (by decide +kernel)
set_option maxRecDepth 65536 in
theorem w_c14 : (Jvm.Cond.code ({ cls := "java/lang/Math", name := "min", desc := "(JJ)J" } : Jvm.MethodName) jdk_29_method_70_code (4 : Nat) (Option.some Jvm.ClassFile.FieldType.long)).before args0 about1 = true := code_word (m := ⟨2, 2⟩) (meth := k2m2) (c := k2c2) (by decide +kernel) rfl rfl rfl (by decide +kernel)
set_option maxRecDepth 65536 in
theorem w_c15 : (Jvm.Cond.code ({ cls := "java/lang/Integer", name := "highestOneBit", desc := "(I)I" } : Jvm.MethodName) jdk_33_method_45_code (1 : Nat) (Option.some Jvm.ClassFile.FieldType.int)).before args0 about1 = true := code_word (m := ⟨10, 0⟩) (meth := k10m0) (c := k10c0) (by decide +kernel) rfl rfl rfl (by decide +kernel)
set_option maxRecDepth 65536 in
theorem w_c16 : (Jvm.Cond.code ({ cls := "java/lang/Integer", name := "numberOfLeadingZeros", desc := "(I)I" } : Jvm.MethodName) jdk_33_method_47_code (2 : Nat) (Option.some Jvm.ClassFile.FieldType.int)).before args0 about1 = true := code_word (m := ⟨10, 1⟩) (meth := k10m1) (c := k10c1) (by decide +kernel) rfl rfl rfl (by decide +kernel)
set_option maxRecDepth 65536 in
theorem w_c17 : (Jvm.Cond.code ({ cls := "java/lang/Long", name := "numberOfLeadingZeros", desc := "(J)I" } : Jvm.MethodName) jdk_35_method_48_code (3 : Nat) (Option.some Jvm.ClassFile.FieldType.int)).before args0 about1 = true := code_word (m := ⟨11, 0⟩) (meth := k11m0) (c := k11c0) (by decide +kernel) rfl rfl rfl (by decide +kernel)
set_option maxRecDepth 65536 in
theorem w_c18 : (Jvm.Cond.code ({ cls := "com/example/nav_by_schema/navbyschema/regex/StateSet", name := "addToTable", desc := "(J)Z" } : Jvm.MethodName) prog_26_method_8_code (5 : Nat) (Option.some Jvm.ClassFile.FieldType.boolean)).before args0 about1 = true := code_word (m := ⟨3, 7⟩) (meth := k3m7) (c := k3c7) (by decide +kernel) rfl rfl rfl (by decide +kernel)
set_option maxRecDepth 65536 in
theorem w_c19 : (Jvm.Cond.code ({ cls := "com/example/nav_by_schema/navbyschema/regex/StateSet", name := "slot", desc := "(J)I" } : Jvm.MethodName) prog_26_method_13_code (5 : Nat) (Option.some Jvm.ClassFile.FieldType.int)).before args0 about1 = true := code_word (m := ⟨3, 10⟩) (meth := k3m10) (c := k3c10) (by decide +kernel) rfl rfl rfl (by decide +kernel)
set_option maxRecDepth 65536 in
theorem w_c20 : (Jvm.Cond.code ({ cls := "java/util/Arrays", name := "fill", desc := "([JJ)V" } : Jvm.MethodName) jdk_65_method_101_code (5 : Nat) (Option.none : Option Jvm.ClassFile.FieldType)).before args0 about1 = true := code_word (m := ⟨4, 2⟩) (meth := k4m2) (c := k4c2) (by decide +kernel) rfl rfl rfl (by decide +kernel)
def codes1 : List Jvm.Cond := [Jvm.Cond.code x code maxLocals ret, Jvm.Cond.code ({ cls := "java/lang/Math", name := "max", desc := "(JJ)J" } : Jvm.MethodName) jdk_29_method_66_code (4 : Nat) (Option.some Jvm.ClassFile.FieldType.long), Jvm.Cond.code ({ cls := "com/example/nav_by_schema/navbyschema/regex/StateSet", name := "<init>", desc := "()V" } : Jvm.MethodName) prog_26_method_1_code (1 : Nat) (Option.none : Option Jvm.ClassFile.FieldType), Jvm.Cond.code ({ cls := "java/lang/Object", name := "<init>", desc := "()V" } : Jvm.MethodName) object_method_1_code (1 : Nat) (Option.none : Option Jvm.ClassFile.FieldType), Jvm.Cond.code ({ cls := "com/example/nav_by_schema/navbyschema/regex/StateSet", name := "clear", desc := "(JJ)V" } : Jvm.MethodName) prog_26_method_2_code (5 : Nat) (Option.none : Option Jvm.ClassFile.FieldType), Jvm.Cond.code ({ cls := "com/example/nav_by_schema/navbyschema/regex/StateSet", name := "words", desc := "()J" } : Jvm.MethodName) prog_26_method_11_code (1 : Nat) (Option.some Jvm.ClassFile.FieldType.long), Jvm.Cond.code ({ cls := "com/example/nav_by_schema/navbyschema/regex/StateSet", name := "emptyBits", desc := "()V" } : Jvm.MethodName) prog_26_method_10_code (2 : Nat) (Option.none : Option Jvm.ClassFile.FieldType), Jvm.Cond.code ({ cls := "com/example/nav_by_schema/navbyschema/regex/StateSet", name := "add", desc := "(J)Z" } : Jvm.MethodName) prog_26_method_5_code (5 : Nat) (Option.some Jvm.ClassFile.FieldType.boolean), Jvm.Cond.code ({ cls := "com/example/nav_by_schema/navbyschema/regex/StateSet", name := "checkBound", desc := "(J)V" } : Jvm.MethodName) prog_26_method_7_code (3 : Nat) (Option.none : Option Jvm.ClassFile.FieldType), Jvm.Cond.code ({ cls := "com/example/nav_by_schema/navbyschema/regex/StateSet", name := "release", desc := "()V" } : Jvm.MethodName) prog_26_method_6_code (1 : Nat) (Option.none : Option Jvm.ClassFile.FieldType), Jvm.Cond.code ({ cls := "com/example/nav_by_schema/navbyschema/regex/StateSet", name := "contains", desc := "(J)Z" } : Jvm.MethodName) prog_26_method_4_code (4 : Nat) (Option.some Jvm.ClassFile.FieldType.boolean), Jvm.Cond.code ({ cls := "com/example/nav_by_schema/navbyschema/regex/StateSet", name := "remembers", desc := "()Z" } : Jvm.MethodName) prog_26_method_3_code (1 : Nat) (Option.some Jvm.ClassFile.FieldType.boolean), Jvm.Cond.code ({ cls := "java/util/Arrays", name := "fill", desc := "([JIIJ)V" } : Jvm.MethodName) jdk_65_method_102_code (6 : Nat) (Option.none : Option Jvm.ClassFile.FieldType), Jvm.Cond.code ({ cls := "java/util/Arrays", name := "rangeCheck", desc := "(III)V" } : Jvm.MethodName) jdk_65_method_30_code (3 : Nat) (Option.none : Option Jvm.ClassFile.FieldType), Jvm.Cond.code ({ cls := "java/lang/Math", name := "min", desc := "(JJ)J" } : Jvm.MethodName) jdk_29_method_70_code (4 : Nat) (Option.some Jvm.ClassFile.FieldType.long), Jvm.Cond.code ({ cls := "java/lang/Integer", name := "highestOneBit", desc := "(I)I" } : Jvm.MethodName) jdk_33_method_45_code (1 : Nat) (Option.some Jvm.ClassFile.FieldType.int), Jvm.Cond.code ({ cls := "java/lang/Integer", name := "numberOfLeadingZeros", desc := "(I)I" } : Jvm.MethodName) jdk_33_method_47_code (2 : Nat) (Option.some Jvm.ClassFile.FieldType.int), Jvm.Cond.code ({ cls := "java/lang/Long", name := "numberOfLeadingZeros", desc := "(J)I" } : Jvm.MethodName) jdk_35_method_48_code (3 : Nat) (Option.some Jvm.ClassFile.FieldType.int), Jvm.Cond.code ({ cls := "com/example/nav_by_schema/navbyschema/regex/StateSet", name := "addToTable", desc := "(J)Z" } : Jvm.MethodName) prog_26_method_8_code (5 : Nat) (Option.some Jvm.ClassFile.FieldType.boolean), Jvm.Cond.code ({ cls := "com/example/nav_by_schema/navbyschema/regex/StateSet", name := "slot", desc := "(J)I" } : Jvm.MethodName) prog_26_method_13_code (5 : Nat) (Option.some Jvm.ClassFile.FieldType.int), Jvm.Cond.code ({ cls := "java/util/Arrays", name := "fill", desc := "([JJ)V" } : Jvm.MethodName) jdk_65_method_101_code (5 : Nat) (Option.none : Option Jvm.ClassFile.FieldType)]
set_option maxRecDepth 65536 in
theorem codes_eq : words1.filter isCode = codes1 := rfl
theorem w_codes : ∀ c ∈ words1.filter isCode, c.before args0 about1 = true := by
  rw [codes_eq]
  intro c hc
  simp only [codes1, List.mem_cons, List.not_mem_nil, or_false] at hc
  rcases hc with rfl | rfl | rfl | rfl | rfl | rfl | rfl | rfl | rfl | rfl | rfl | rfl | rfl | rfl | rfl | rfl | rfl | rfl | rfl | rfl | rfl
  · exact w_c0
  · exact w_c1
  · exact w_c2
  · exact w_c3
  · exact w_c4
  · exact w_c5
  · exact w_c6
  · exact w_c7
  · exact w_c8
  · exact w_c9
  · exact w_c10
  · exact w_c11
  · exact w_c12
  · exact w_c13
  · exact w_c14
  · exact w_c15
  · exact w_c16
  · exact w_c17
  · exact w_c18
  · exact w_c19
  · exact w_c20
set_option maxRecDepth 65536 in
theorem w_t1 : (words1.take 24).all (fun c => isCode c || c.before args0 about1) = true := by decide +kernel
set_option maxRecDepth 65536 in
theorem w_t2 : ((words1.drop 24).take 24).all (fun c => isCode c || c.before args0 about1) = true := by decide +kernel
set_option maxRecDepth 65536 in
theorem w_t3 : (((words1.drop 24).drop 24).take 24).all (fun c => isCode c || c.before args0 about1) = true := by decide +kernel
set_option maxRecDepth 65536 in
theorem w_t4 : ((((words1.drop 24).drop 24).drop 24).take 24).all (fun c => isCode c || c.before args0 about1) = true := by decide +kernel
set_option maxRecDepth 65536 in
theorem w_t5 : ((((words1.drop 24).drop 24).drop 24).drop 24).all (fun c => isCode c || c.before args0 about1) = true := by decide +kernel
theorem w_tables : (allAtoms (Jvm.Cond.code x code maxLocals ret :: tables_1)).before args0 about1 = true := by
  rw [allAtoms_all]
  show words1.all (fun c => c.before args0 about1) = true
  refine all_split ?_ w_codes
  rw [← List.take_append_drop 24 words1, List.all_append, w_t1, ← List.take_append_drop 24 (words1.drop 24), List.all_append, w_t2, ← List.take_append_drop 24 ((words1.drop 24).drop 24), List.all_append, w_t3, ← List.take_append_drop 24 (((words1.drop 24).drop 24).drop 24), List.all_append, w_t4, w_t5]
  rfl
set_option maxRecDepth 65536 in
theorem w_case : (Jvm.Cond.and given_1 narrow_1).before args0 about1 = true := by decide +kernel
theorem w_applies : (headSpec (Jvm.Cond.code x code maxLocals ret :: tables_1) room_1).applies x e0.platform about1 = true :=
  (Spec.applies_iff w_frames).mpr ⟨w_running, w_runnable, w_alone, w_named, w_hears, w_ripe, w_room, w_tables⟩
theorem atStart : AtStart classFile x code maxLocals ret World_1 tables_1 room_1 Calls_1 rest_1 Pre_1 launch0 p0 e0 about1 theMethod args0 below0 :=
  ⟨lists_1, trivial, launch0.admits_env _ _ _, launch0.least_env, fairChoices_fair.cas, fairChoices_fair.clock, w_frames, w_args, w_heap, w_applies, trivial, trivial, w_case⟩
end start1
theorem witness_1 : WitnessClaimed_1 := ⟨start1.p0, start1.e0, start1.about1, start1.theMethod, start1.args0, start1.below0, start1.atStart⟩
end Jvm.Pilot.@@N@@
