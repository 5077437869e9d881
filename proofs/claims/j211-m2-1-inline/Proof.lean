import JvmDerived
import JvmDerived.Pilot.@@N@@Statement
import JvmDerived.Pilot.@@N@@Code
set_option linter.unusedVariables false
set_option linter.unusedSimpArgs false
namespace Jvm.Pilot.@@N@@
open Jvm Jvm.ClassFile Sem Op Lib Jvm.Free Jvm.Stand Jvm.LawKit Jvm.RoadKit Bundle Jvm.Pilot.@@N@@.Jvm.D
section OwnGo
variable {p : Program} {l : Launch} {e : Env} {R : Room} {s : State} {m : MethodId} {args : Array Value} {below : List Frame} {meth : Method} {c : Code} {T : State} {locs : List Loc} {cells slots : Nat} {Z : State} {a0 : Array Value} {h : Heap} {K : Outcome → State → Prop} {pc pc' : Nat} {Ls : Array Slot} {st : List Value}
/-- from frame g in state T the run ends as K says -/
def Goes (p : Program) (e : Env) (below : List Frame) (K : Outcome → State → Prop) (T : State) (g : JFrame) : Prop := ∃ u o, Steps p.tables e below (T.setTop g) u ∧ u.status = .running ∧ Ended u below o ∧ K o u
theorem Goes.by' {T' : State} {g g' : JFrame} (f : ∀ t, Steps p.tables e below (T'.setTop g') t → Steps p.tables e below (T.setTop g) t) (k : Goes p e below K T' g') : Goes p e below K T g := by obtain ⟨u, o, h1, h2⟩ := k; exact ⟨u, o, f _ h1, h2⟩
theorem Goes.cast {g g' : JFrame} (q : g = g') (k : Goes p e below K T g') : Goes p e below K T g := q ▸ k
/-- a callee's contract: called with as' at the heap h0 it returns v, leaves a heap and a list of written places of which Q speaks -/
abbrev Ctr (l : Launch) (Z : State) (y : MethodName) (bytes : ByteArray) (maxL : Nat) (ret : Option FieldType) (ws : List Jvm.Cond) (rm : Room) (C S : Nat) (as' : Array Value) (h0 : Heap) (Q : Option Value → Heap → List Loc → Prop) : Prop := MetFree l y (head1 (Jvm.Cond.code y bytes maxL ret :: ws) rm) (fun a U => a = as' ∧ Z.Warmed39 U.vm ∧ U.heap = h0) (fun _ _ _ _ _ => True) (fun _ U o U' => ∃ v L, o = .returned v ∧ Q v U'.heap L ∧ FrameEnd U o U' L C S)
abbrev KQ (s : State) (C S : Nat) (Q : Option Value → Heap → List Loc → Prop) : Outcome → State → Prop := fun o u => ∃ v L, o = .returned v ∧ Q v u.heap L ∧ FrameEnd s o u L C S
theorem Ctr.of {y : MethodName} {bytes : ByteArray} {maxL : Nat} {ret : Option FieldType} {ws : List Jvm.Cond} {rm : Room} {C S : Nat} {as' : Array Value} {h0 : Heap} {Q : Option Value → Heap → List Loc → Prop} (hpn : plainFor y = true)
    (body : ∀ (p : Program) (e : Env) (s : State) (m : MethodId) (below : List Frame) (meth : Method) (c : Code) (s₁ : State), p.tables.exec = Jvm.exec → c.code = bytes → c.maxLocals = maxL → s.vm.findClass y.cls = some m.cls → meth.name = y.name → meth.sig.returnType = ret → meth.locks = false → Z.Warmed39 s.vm → Stand p l e rm s m as' below meth c s₁ [] 0 0 → s₁.heap = h0 → Goes p e below (KQ s C S Q) s₁ (entryFrame m as' maxL)) :
    Ctr l Z y bytes maxL ret ws rm C S as' h0 Q := by
  refine MetFree.of_bodySF hpn hisR ?_
  intro p e s m args below meth c s₁ Bd hml0 hP hK
  obtain ⟨rfl, hZ, hh⟩ := hP
  have hlk : meth.locks = false := BodyLoose.notSynchronized Bd
  exact body p e s m below meth c s₁ Bd.exec Bd.bytes hml0 (findClass_of_methodNamed Bd.named) (name_of_methodNamed Bd.named Bd.method).1 Bd.returns hlk hZ (Stand.of_body Bd) (by rw [← hh, Bd.state]; rfl)
theorem wd {a0 : Array Value} {Z : State} {tb : List Jvm.Cond} (hw : ∀ d ∈ tb, d.before a0 Z = true) (i : Nat) {d : Jvm.Cond} (q : tb[i]? = some d) : d.before a0 Z = true := hw _ (List.mem_of_getElem? q)
theorem g_iadd (X : Stand p l e R s m args below meth c T locs cells slots) (hx : p.tables.exec = Jvm.exec) {x y : Int32} (hd : decode c.code pc = .ok (.iadd, 1))  (hp : pc + 1 = pc') (k : Goes p e below K T (mkF m pc' Ls (.int (x + y) :: st))) : Goes p e below K T (mkF m pc Ls (.int y :: .int x :: st)) := by subst hp; exact Goes.by' (fun _ q => XS.iadd X.here hx rfl hd rfl q) k
theorem g_isub (X : Stand p l e R s m args below meth c T locs cells slots) (hx : p.tables.exec = Jvm.exec) {x y : Int32} (hd : decode c.code pc = .ok (.isub, 1))  (hp : pc + 1 = pc') (k : Goes p e below K T (mkF m pc' Ls (.int (x - y) :: st))) : Goes p e below K T (mkF m pc Ls (.int y :: .int x :: st)) := by subst hp; exact Goes.by' (fun _ q => XS.isub X.here hx rfl hd rfl q) k
theorem g_iand (X : Stand p l e R s m args below meth c T locs cells slots) (hx : p.tables.exec = Jvm.exec) {x y : Int32} (hd : decode c.code pc = .ok (.iand, 1))  (hp : pc + 1 = pc') (k : Goes p e below K T (mkF m pc' Ls (.int (x &&& y) :: st))) : Goes p e below K T (mkF m pc Ls (.int y :: .int x :: st)) := by subst hp; exact Goes.by' (fun _ q => XS.iand X.here hx rfl hd rfl q) k
theorem g_imul (X : Stand p l e R s m args below meth c T locs cells slots) (hx : p.tables.exec = Jvm.exec) {x y : Int32} (hd : decode c.code pc = .ok (.imul, 1))  (hp : pc + 1 = pc') (k : Goes p e below K T (mkF m pc' Ls (.int (x * y) :: st))) : Goes p e below K T (mkF m pc Ls (.int y :: .int x :: st)) := by subst hp; exact Goes.by' (fun _ q => XS.imul X.here hx rfl hd rfl q) k
theorem g_ixor (X : Stand p l e R s m args below meth c T locs cells slots) (hx : p.tables.exec = Jvm.exec) {x y : Int32} (hd : decode c.code pc = .ok (.ixor, 1))  (hp : pc + 1 = pc') (k : Goes p e below K T (mkF m pc' Ls (.int (x ^^^ y) :: st))) : Goes p e below K T (mkF m pc Ls (.int y :: .int x :: st)) := by subst hp; exact Goes.by' (fun _ q => XT.ixor X.here hx rfl hd rfl q) k
theorem g_ior (X : Stand p l e R s m args below meth c T locs cells slots) (hx : p.tables.exec = Jvm.exec) {x y : Int32} (hd : decode c.code pc = .ok (.ior, 1))  (hp : pc + 1 = pc') (k : Goes p e below K T (mkF m pc' Ls (.int (x ||| y) :: st))) : Goes p e below K T (mkF m pc Ls (.int y :: .int x :: st)) := by subst hp; exact Goes.by' (fun _ q => XT.ior X.here hx rfl hd rfl q) k
theorem g_idiv (X : Stand p l e R s m args below meth c T locs cells slots) (hx : p.tables.exec = Jvm.exec) {x y : Int32} (hd : decode c.code pc = .ok (.idiv, 1)) (hy : y ≠ 0) (hp : pc + 1 = pc') (k : Goes p e below K T (mkF m pc' Ls (.int (x / y) :: st))) : Goes p e below K T (mkF m pc Ls (.int y :: .int x :: st)) := by subst hp; exact Goes.by' (fun _ q => XS.idiv X.here hx rfl hd rfl hy q) k
theorem g_irem (X : Stand p l e R s m args below meth c T locs cells slots) (hx : p.tables.exec = Jvm.exec) {x y : Int32} (hd : decode c.code pc = .ok (.irem, 1)) (hy : y ≠ 0) (hp : pc + 1 = pc') (k : Goes p e below K T (mkF m pc' Ls (.int (x % y) :: st))) : Goes p e below K T (mkF m pc Ls (.int y :: .int x :: st)) := by subst hp; exact Goes.by' (fun _ q => iremM X hx rfl hd rfl hy q) k
theorem g_ineg (X : Stand p l e R s m args below meth c T locs cells slots) (hx : p.tables.exec = Jvm.exec) {x : Int32} (hd : decode c.code pc = .ok (.ineg, 1))  (hp : pc + 1 = pc') (k : Goes p e below K T (mkF m pc' Ls (.int (-x) :: st))) : Goes p e below K T (mkF m pc Ls (.int x :: st)) := by subst hp; exact Goes.by' (fun _ q => XS.ineg X.here hx rfl hd rfl q) k
theorem g_ishl (X : Stand p l e R s m args below meth c T locs cells slots) (hx : p.tables.exec = Jvm.exec) {x y : Int32} (hd : decode c.code pc = .ok (.ishl, 1))  (hp : pc + 1 = pc') (k : Goes p e below K T (mkF m pc' Ls (.int (x <<< (y &&& 31)) :: st))) : Goes p e below K T (mkF m pc Ls (.int y :: .int x :: st)) := by subst hp; exact Goes.by' (fun _ q => XT.ishl X.here hx rfl hd rfl q) k
theorem g_ishr (X : Stand p l e R s m args below meth c T locs cells slots) (hx : p.tables.exec = Jvm.exec) {x y : Int32} (hd : decode c.code pc = .ok (.ishr, 1))  (hp : pc + 1 = pc') (k : Goes p e below K T (mkF m pc' Ls (.int (x >>> (y &&& 31)) :: st))) : Goes p e below K T (mkF m pc Ls (.int y :: .int x :: st)) := by subst hp; exact Goes.by' (fun _ q => XT.ishr X.here hx rfl hd rfl q) k
theorem g_iushr (X : Stand p l e R s m args below meth c T locs cells slots) (hx : p.tables.exec = Jvm.exec) {x y : Int32} (hd : decode c.code pc = .ok (.iushr, 1))  (hp : pc + 1 = pc') (k : Goes p e below K T (mkF m pc' Ls (.int (XT.ushr x y) :: st))) : Goes p e below K T (mkF m pc Ls (.int y :: .int x :: st)) := by subst hp; exact Goes.by' (fun _ q => XT.iushr X.here hx rfl hd rfl q) k
theorem g_ladd (X : Stand p l e R s m args below meth c T locs cells slots) (hx : p.tables.exec = Jvm.exec) {x y : Int64} (hd : decode c.code pc = .ok (.ladd, 1))  (hp : pc + 1 = pc') (k : Goes p e below K T (mkF m pc' Ls (.long (x + y) :: st))) : Goes p e below K T (mkF m pc Ls (.long y :: .long x :: st)) := by subst hp; exact Goes.by' (fun _ q => XT.ladd X.here hx rfl hd rfl q) k
theorem g_lsub (X : Stand p l e R s m args below meth c T locs cells slots) (hx : p.tables.exec = Jvm.exec) {x y : Int64} (hd : decode c.code pc = .ok (.lsub, 1))  (hp : pc + 1 = pc') (k : Goes p e below K T (mkF m pc' Ls (.long (x - y) :: st))) : Goes p e below K T (mkF m pc Ls (.long y :: .long x :: st)) := by subst hp; exact Goes.by' (fun _ q => XT.lsub X.here hx rfl hd rfl q) k
theorem g_lmul (X : Stand p l e R s m args below meth c T locs cells slots) (hx : p.tables.exec = Jvm.exec) {x y : Int64} (hd : decode c.code pc = .ok (.lmul, 1))  (hp : pc + 1 = pc') (k : Goes p e below K T (mkF m pc' Ls (.long (x * y) :: st))) : Goes p e below K T (mkF m pc Ls (.long y :: .long x :: st)) := by subst hp; exact Goes.by' (fun _ q => XT.lmul X.here hx rfl hd rfl q) k
theorem g_land (X : Stand p l e R s m args below meth c T locs cells slots) (hx : p.tables.exec = Jvm.exec) {x y : Int64} (hd : decode c.code pc = .ok (.land, 1))  (hp : pc + 1 = pc') (k : Goes p e below K T (mkF m pc' Ls (.long (x &&& y) :: st))) : Goes p e below K T (mkF m pc Ls (.long y :: .long x :: st)) := by subst hp; exact Goes.by' (fun _ q => XT.land X.here hx rfl hd rfl q) k
theorem g_lor (X : Stand p l e R s m args below meth c T locs cells slots) (hx : p.tables.exec = Jvm.exec) {x y : Int64} (hd : decode c.code pc = .ok (.lor, 1))  (hp : pc + 1 = pc') (k : Goes p e below K T (mkF m pc' Ls (.long (x ||| y) :: st))) : Goes p e below K T (mkF m pc Ls (.long y :: .long x :: st)) := by subst hp; exact Goes.by' (fun _ q => XT.lor X.here hx rfl hd rfl q) k
theorem g_lxor (X : Stand p l e R s m args below meth c T locs cells slots) (hx : p.tables.exec = Jvm.exec) {x y : Int64} (hd : decode c.code pc = .ok (.lxor, 1))  (hp : pc + 1 = pc') (k : Goes p e below K T (mkF m pc' Ls (.long (x ^^^ y) :: st))) : Goes p e below K T (mkF m pc Ls (.long y :: .long x :: st)) := by subst hp; exact Goes.by' (fun _ q => XT.lxor X.here hx rfl hd rfl q) k
theorem g_ldiv (X : Stand p l e R s m args below meth c T locs cells slots) (hx : p.tables.exec = Jvm.exec) {x y : Int64} (hd : decode c.code pc = .ok (.ldiv, 1)) (hy : y ≠ 0) (hp : pc + 1 = pc') (k : Goes p e below K T (mkF m pc' Ls (.long (x / y) :: st))) : Goes p e below K T (mkF m pc Ls (.long y :: .long x :: st)) := by subst hp; exact Goes.by' (fun _ q => XT.ldiv X.here hx rfl hd rfl hy q) k
theorem g_lrem (X : Stand p l e R s m args below meth c T locs cells slots) (hx : p.tables.exec = Jvm.exec) {x y : Int64} (hd : decode c.code pc = .ok (.lrem, 1)) (hy : y ≠ 0) (hp : pc + 1 = pc') (k : Goes p e below K T (mkF m pc' Ls (.long (x % y) :: st))) : Goes p e below K T (mkF m pc Ls (.long y :: .long x :: st)) := by subst hp; exact Goes.by' (fun _ q => XT.lrem X.here hx rfl hd rfl hy (by rw [lrem_mod]; exact q)) k
theorem g_lneg (X : Stand p l e R s m args below meth c T locs cells slots) (hx : p.tables.exec = Jvm.exec) {x : Int64} (hd : decode c.code pc = .ok (.lneg, 1))  (hp : pc + 1 = pc') (k : Goes p e below K T (mkF m pc' Ls (.long (-x) :: st))) : Goes p e below K T (mkF m pc Ls (.long x :: st)) := by subst hp; exact Goes.by' (fun _ q => XT.lneg X.here hx rfl hd rfl q) k
theorem g_lshl (X : Stand p l e R s m args below meth c T locs cells slots) (hx : p.tables.exec = Jvm.exec) {x : Int64} {y : Int32} (hd : decode c.code pc = .ok (.lshl, 1))  (hp : pc + 1 = pc') (k : Goes p e below K T (mkF m pc' Ls (.long (x <<< (y.toInt64 &&& 63)) :: st))) : Goes p e below K T (mkF m pc Ls (.int y :: .long x :: st)) := by subst hp; exact Goes.by' (fun _ q => XT.lshl X.here hx rfl hd rfl q) k
theorem g_lshr (X : Stand p l e R s m args below meth c T locs cells slots) (hx : p.tables.exec = Jvm.exec) {x : Int64} {y : Int32} (hd : decode c.code pc = .ok (.lshr, 1))  (hp : pc + 1 = pc') (k : Goes p e below K T (mkF m pc' Ls (.long (x >>> (y.toInt64 &&& 63)) :: st))) : Goes p e below K T (mkF m pc Ls (.int y :: .long x :: st)) := by subst hp; exact Goes.by' (fun _ q => XT.lshr X.here hx rfl hd rfl q) k
theorem g_lushr (X : Stand p l e R s m args below meth c T locs cells slots) (hx : p.tables.exec = Jvm.exec) {x : Int64} {y : Int32} (hd : decode c.code pc = .ok (.lushr, 1))  (hp : pc + 1 = pc') (k : Goes p e below K T (mkF m pc' Ls (.long (XT.ushrL x y) :: st))) : Goes p e below K T (mkF m pc Ls (.int y :: .long x :: st)) := by subst hp; exact Goes.by' (fun _ q => XT.lushr X.here hx rfl hd rfl q) k
theorem g_lcmp (X : Stand p l e R s m args below meth c T locs cells slots) (hx : p.tables.exec = Jvm.exec) {x y : Int64} (hd : decode c.code pc = .ok (.lcmp, 1))  (hp : pc + 1 = pc') (k : Goes p e below K T (mkF m pc' Ls (.int (XT.cmpL x y) :: st))) : Goes p e below K T (mkF m pc Ls (.long y :: .long x :: st)) := by subst hp; exact Goes.by' (fun _ q => XT.lcmp X.here hx rfl hd rfl q) k
theorem g_i2l (X : Stand p l e R s m args below meth c T locs cells slots) (hx : p.tables.exec = Jvm.exec) {x : Int32} (hd : decode c.code pc = .ok (.i2l, 1))  (hp : pc + 1 = pc') (k : Goes p e below K T (mkF m pc' Ls (.long x.toInt64 :: st))) : Goes p e below K T (mkF m pc Ls (.int x :: st)) := by subst hp; exact Goes.by' (fun _ q => XT.i2l X.here hx rfl hd rfl q) k
theorem g_l2i (X : Stand p l e R s m args below meth c T locs cells slots) (hx : p.tables.exec = Jvm.exec) {x : Int64} (hd : decode c.code pc = .ok (.l2i, 1))  (hp : pc + 1 = pc') (k : Goes p e below K T (mkF m pc' Ls (.int x.toInt32 :: st))) : Goes p e below K T (mkF m pc Ls (.long x :: st)) := by subst hp; exact Goes.by' (fun _ q => XT.l2i X.here hx rfl hd rfl q) k
theorem g_i2b (X : Stand p l e R s m args below meth c T locs cells slots) (hx : p.tables.exec = Jvm.exec) {x : Int32} (hd : decode c.code pc = .ok (.i2b, 1))  (hp : pc + 1 = pc') (k : Goes p e below K T (mkF m pc' Ls (.int x.toInt8.toInt32 :: st))) : Goes p e below K T (mkF m pc Ls (.int x :: st)) := by subst hp; exact Goes.by' (fun _ q => XT.i2b X.here hx rfl hd rfl q) k
theorem g_i2c (X : Stand p l e R s m args below meth c T locs cells slots) (hx : p.tables.exec = Jvm.exec) {x : Int32} (hd : decode c.code pc = .ok (.i2c, 1))  (hp : pc + 1 = pc') (k : Goes p e below K T (mkF m pc' Ls (.int x.toUInt32.toUInt16.toUInt32.toInt32 :: st))) : Goes p e below K T (mkF m pc Ls (.int x :: st)) := by subst hp; exact Goes.by' (fun _ q => XT.i2c X.here hx rfl hd rfl q) k
theorem g_i2s (X : Stand p l e R s m args below meth c T locs cells slots) (hx : p.tables.exec = Jvm.exec) {x : Int32} (hd : decode c.code pc = .ok (.i2s, 1))  (hp : pc + 1 = pc') (k : Goes p e below K T (mkF m pc' Ls (.int x.toInt16.toInt32 :: st))) : Goes p e below K T (mkF m pc Ls (.int x :: st)) := by subst hp; exact Goes.by' (fun _ q => XT.i2s X.here hx rfl hd rfl q) k
theorem g_aload_n (X : Stand p l e R s m args below meth c T locs cells slots) (hx : p.tables.exec = Jvm.exec) {i : Fin 4} {v : Value} (hd : decode c.code pc = .ok (.aload_n i, 1)) (hl : Ls[i.val]? = some (.val v)) (hv : v.isRef = true) (hp : pc + 1 = pc') (k : Goes p e below K T (mkF m pc' Ls (v :: st))) : Goes p e below K T (mkF m pc Ls (st)) := by subst hp; exact Goes.by' (fun _ q => XS.aloadN X.here hx rfl hd hl hv q) k
theorem g_aload (X : Stand p l e R s m args below meth c T locs cells slots) (hx : p.tables.exec = Jvm.exec) {i : Nat} {v : Value} (hd : decode c.code pc = .ok (.aload i, 2)) (hl : Ls[i]? = some (.val v)) (hv : v.isRef = true) (hp : pc + 2 = pc') (k : Goes p e below K T (mkF m pc' Ls (v :: st))) : Goes p e below K T (mkF m pc Ls (st)) := by subst hp; exact Goes.by' (fun _ q => XS.aload X.here hx rfl hd hl hv q) k
theorem g_iload_n (X : Stand p l e R s m args below meth c T locs cells slots) (hx : p.tables.exec = Jvm.exec) {i : Fin 4} {v : Int32} (hd : decode c.code pc = .ok (.iload_n i, 1)) (hl : Ls[i.val]? = some (.val (.int v))) (hp : pc + 1 = pc') (k : Goes p e below K T (mkF m pc' Ls (.int v :: st))) : Goes p e below K T (mkF m pc Ls (st)) := by subst hp; exact Goes.by' (fun _ q => XS.iloadN X.here hx rfl hd hl q) k
theorem g_iload (X : Stand p l e R s m args below meth c T locs cells slots) (hx : p.tables.exec = Jvm.exec) {i : Nat} {v : Int32} (hd : decode c.code pc = .ok (.iload i, 2)) (hl : Ls[i]? = some (.val (.int v))) (hp : pc + 2 = pc') (k : Goes p e below K T (mkF m pc' Ls (.int v :: st))) : Goes p e below K T (mkF m pc Ls (st)) := by subst hp; exact Goes.by' (fun _ q => XS.iload X.here hx rfl hd hl q) k
theorem g_lload_n (X : Stand p l e R s m args below meth c T locs cells slots) (hx : p.tables.exec = Jvm.exec) {i : Fin 4} {v : Int64} (hd : decode c.code pc = .ok (.lload_n i, 1)) (hl : Ls[i.val]? = some (.val (.long v))) (hp : pc + 1 = pc') (k : Goes p e below K T (mkF m pc' Ls (.long v :: st))) : Goes p e below K T (mkF m pc Ls (st)) := by subst hp; exact Goes.by' (fun _ q => XT.lloadN X.here hx rfl hd hl q) k
theorem g_lload (X : Stand p l e R s m args below meth c T locs cells slots) (hx : p.tables.exec = Jvm.exec) {i : Nat} {v : Int64} (hd : decode c.code pc = .ok (.lload i, 2)) (hl : Ls[i]? = some (.val (.long v))) (hp : pc + 2 = pc') (k : Goes p e below K T (mkF m pc' Ls (.long v :: st))) : Goes p e below K T (mkF m pc Ls (st)) := by subst hp; exact Goes.by' (fun _ q => XT.lload X.here hx rfl hd hl q) k
theorem g_iconst (X : Stand p l e R s m args below meth c T locs cells slots) (hx : p.tables.exec = Jvm.exec) {i : Int} {v : Int32} (hd : decode c.code pc = .ok (.iconst i, 1)) (hv : v = Int32.ofInt i) (hp : pc + 1 = pc') (k : Goes p e below K T (mkF m pc' Ls (.int v :: st))) : Goes p e below K T (mkF m pc Ls (st)) := by subst hp; exact Goes.by' (fun _ q => XS.iconst X.here hx rfl hd (hv ▸ q)) k
theorem g_bipush (X : Stand p l e R s m args below meth c T locs cells slots) (hx : p.tables.exec = Jvm.exec) {i : Int} {v : Int32} (hd : decode c.code pc = .ok (.bipush i, 2)) (hv : v = (Int8.ofInt i).toInt32) (hp : pc + 2 = pc') (k : Goes p e below K T (mkF m pc' Ls (.int v :: st))) : Goes p e below K T (mkF m pc Ls (st)) := by subst hp; exact Goes.by' (fun _ q => XS.bipush X.here hx rfl hd (hv ▸ q)) k
theorem g_sipush (X : Stand p l e R s m args below meth c T locs cells slots) (hx : p.tables.exec = Jvm.exec) {i : Int} {v : Int32} (hd : decode c.code pc = .ok (.sipush i, 3)) (hv : v = (Int16.ofInt i).toInt32) (hp : pc + 3 = pc') (k : Goes p e below K T (mkF m pc' Ls (.int v :: st))) : Goes p e below K T (mkF m pc Ls (st)) := by subst hp; exact Goes.by' (fun _ q => XS.sipush X.here hx rfl hd (hv ▸ q)) k
theorem g_lconst (X : Stand p l e R s m args below meth c T locs cells slots) (hx : p.tables.exec = Jvm.exec) {i : Fin 2} {v : Int64} (hd : decode c.code pc = .ok (.lconst i, 1)) (hv : v = Int64.ofNat i) (hp : pc + 1 = pc') (k : Goes p e below K T (mkF m pc' Ls (.long v :: st))) : Goes p e below K T (mkF m pc Ls (st)) := by subst hp; exact Goes.by' (fun _ q => XT.lconst X.here hx rfl hd (hv ▸ q)) k
theorem g_aconst_null (X : Stand p l e R s m args below meth c T locs cells slots) (hx : p.tables.exec = Jvm.exec)  (hd : decode c.code pc = .ok (.aconst_null, 1))  (hp : pc + 1 = pc') (k : Goes p e below K T (mkF m pc' Ls (.null :: st))) : Goes p e below K T (mkF m pc Ls (st)) := by subst hp; exact Goes.by' (fun _ q => XS.aconstNull X.here hx rfl hd q) k
theorem g_dup (X : Stand p l e R s m args below meth c T locs cells slots) (hx : p.tables.exec = Jvm.exec) {x : Value} (hd : decode c.code pc = .ok (.dup, 1)) (hc : x.category = 1) (hp : pc + 1 = pc') (k : Goes p e below K T (mkF m pc' Ls (x :: x :: st))) : Goes p e below K T (mkF m pc Ls (x :: st)) := by subst hp; exact Goes.by' (fun _ q => XS.dup X.here hx rfl hd rfl hc q) k
theorem g_pop (X : Stand p l e R s m args below meth c T locs cells slots) (hx : p.tables.exec = Jvm.exec) {x : Value} (hd : decode c.code pc = .ok (.pop, 1)) (hc : x.category = 1) (hp : pc + 1 = pc') (k : Goes p e below K T (mkF m pc' Ls (st))) : Goes p e below K T (mkF m pc Ls (x :: st)) := by subst hp; exact Goes.by' (fun _ q => XT.pop X.here hx rfl hd rfl hc q) k
theorem g_dup_x1 (X : Stand p l e R s m args below meth c T locs cells slots) (hx : p.tables.exec = Jvm.exec) {x y : Value} (hd : decode c.code pc = .ok (.dup_x1, 1)) (hc : x.category = 1) (hc' : y.category = 1) (hp : pc + 1 = pc') (k : Goes p e below K T (mkF m pc' Ls (x :: y :: x :: st))) : Goes p e below K T (mkF m pc Ls (x :: y :: st)) := by subst hp; exact Goes.by' (fun _ q => XT.dupX1 X.here hx rfl hd rfl hc hc' q) k
theorem g_dup2 (X : Stand p l e R s m args below meth c T locs cells slots) (hx : p.tables.exec = Jvm.exec) {x y : Value} (hd : decode c.code pc = .ok (.dup2, 1)) (hc : x.category = 1) (hc' : y.category = 1) (hp : pc + 1 = pc') (k : Goes p e below K T (mkF m pc' Ls (x :: y :: x :: y :: st))) : Goes p e below K T (mkF m pc Ls (x :: y :: st)) := by subst hp; exact Goes.by' (fun _ q => XT.dup2 X.here hx rfl hd rfl hc hc' q) k
theorem g_dup2L (X : Stand p l e R s m args below meth c T locs cells slots) (hx : p.tables.exec = Jvm.exec) {x : Int64} (hd : decode c.code pc = .ok (.dup2, 1))  (hp : pc + 1 = pc') (k : Goes p e below K T (mkF m pc' Ls (.long x :: .long x :: st))) : Goes p e below K T (mkF m pc Ls (.long x :: st)) := by subst hp; exact Goes.by' (fun _ q => XT.dup2L X.here hx rfl hd rfl q) k
theorem g_istore_n (X : Stand p l e R s m args below meth c T locs cells slots) (hx : p.tables.exec = Jvm.exec) {i : Fin 4} {x : Int32} (l' : Array Slot) (hd : decode c.code pc = .ok (.istore_n i, 1)) (hl : storeLocals Ls i.val (.int x) = some l') (hp : pc + 1 = pc') (k : Goes p e below K T (mkF m pc' l' (st))) : Goes p e below K T (mkF m pc Ls (.int x :: st)) := by subst hp; exact Goes.by' (fun _ q => XS.istoreN X.here hx rfl hd rfl hl q) k
theorem g_istore (X : Stand p l e R s m args below meth c T locs cells slots) (hx : p.tables.exec = Jvm.exec) {i : Nat} {x : Int32} (l' : Array Slot) (hd : decode c.code pc = .ok (.istore i, 2)) (hl : storeLocals Ls i (.int x) = some l') (hp : pc + 2 = pc') (k : Goes p e below K T (mkF m pc' l' (st))) : Goes p e below K T (mkF m pc Ls (.int x :: st)) := by subst hp; exact Goes.by' (fun _ q => XS.istore X.here hx rfl hd rfl hl q) k
theorem g_lstore_n (X : Stand p l e R s m args below meth c T locs cells slots) (hx : p.tables.exec = Jvm.exec) {i : Fin 4} {x : Int64} (l' : Array Slot) (hd : decode c.code pc = .ok (.lstore_n i, 1)) (hl : storeLocals Ls i.val (.long x) = some l') (hp : pc + 1 = pc') (k : Goes p e below K T (mkF m pc' l' (st))) : Goes p e below K T (mkF m pc Ls (.long x :: st)) := by subst hp; exact Goes.by' (fun _ q => XT.lstoreN X.here hx rfl hd rfl hl q) k
theorem g_lstore (X : Stand p l e R s m args below meth c T locs cells slots) (hx : p.tables.exec = Jvm.exec) {i : Nat} {x : Int64} (l' : Array Slot) (hd : decode c.code pc = .ok (.lstore i, 2)) (hl : storeLocals Ls i (.long x) = some l') (hp : pc + 2 = pc') (k : Goes p e below K T (mkF m pc' l' (st))) : Goes p e below K T (mkF m pc Ls (.long x :: st)) := by subst hp; exact Goes.by' (fun _ q => XT.lstore X.here hx rfl hd rfl hl q) k
theorem g_astore_n (X : Stand p l e R s m args below meth c T locs cells slots) (hx : p.tables.exec = Jvm.exec) {i : Fin 4} {x : Value} (l' : Array Slot) (hd : decode c.code pc = .ok (.astore_n i, 1)) (hv : x.isRef = true) (hl : storeLocals Ls i.val x = some l') (hp : pc + 1 = pc') (k : Goes p e below K T (mkF m pc' l' (st))) : Goes p e below K T (mkF m pc Ls (x :: st)) := by subst hp; exact Goes.by' (fun _ q => XS.astoreN X.here hx rfl hd rfl hv hl q) k
theorem g_astore (X : Stand p l e R s m args below meth c T locs cells slots) (hx : p.tables.exec = Jvm.exec) {i : Nat} {x : Value} (l' : Array Slot) (hd : decode c.code pc = .ok (.astore i, 2)) (hv : x.isRef = true) (hl : storeLocals Ls i x = some l') (hp : pc + 2 = pc') (k : Goes p e below K T (mkF m pc' l' (st))) : Goes p e below K T (mkF m pc Ls (x :: st)) := by subst hp; exact Goes.by' (fun _ q => XS.astore X.here hx rfl hd rfl hv hl q) k
theorem g_iinc (X : Stand p l e R s m args below meth c T locs cells slots) (hx : p.tables.exec = Jvm.exec) {i : Nat} {cst : Int} {x y : Int32} (l' : Array Slot) (hd : decode c.code pc = .ok (.iinc i cst, 3)) (hl : Ls[i]? = some (.val (.int x))) (hy : y = x + Int32.ofInt cst) (hl' : storeLocals Ls i (.int y) = some l') (hp : pc + 3 = pc') (k : Goes p e below K T (mkF m pc' l' (st))) : Goes p e below K T (mkF m pc Ls (st)) := by subst hp; exact Goes.by' (fun _ q => XS.iinc X.here hx rfl hd hl (hy ▸ hl') q) k
theorem g_ldcI (X : Stand p l e R s m args below meth c T locs cells slots) (hx : p.tables.exec = Jvm.exec) (hZ : Z.Warmed39 s.vm) {own : String} {ix : Nat} {v : Int32} (hown : s.vm.findClass own = some m.cls) (w : (Cond.constant own ix v).before a0 Z = true) (hd : decode c.code pc = .ok (.ldc ix, 2)) (hp : pc + 2 = pc') (k : Goes p e below K T (mkF m pc' Ls (.int v :: st))) : Goes p e below K T (mkF m pc Ls st) := by subst hp; exact Goes.by' (fun _ q => X.ldcI hx hown (mvT hZ w) rfl hd q) k
theorem g_ldcWI (X : Stand p l e R s m args below meth c T locs cells slots) (hx : p.tables.exec = Jvm.exec) (hZ : Z.Warmed39 s.vm) {own : String} {ix : Nat} {v : Int32} (hown : s.vm.findClass own = some m.cls) (w : (Cond.constant own ix v).before a0 Z = true) (hd : decode c.code pc = .ok (.ldc_w ix, 3)) (hp : pc + 3 = pc') (k : Goes p e below K T (mkF m pc' Ls (.int v :: st))) : Goes p e below K T (mkF m pc Ls st) := by subst hp; exact Goes.by' (fun _ q => X.ldcWI hx hown (mvT hZ w) rfl hd q) k
theorem g_ldc2J (X : Stand p l e R s m args below meth c T locs cells slots) (hx : p.tables.exec = Jvm.exec) (hZ : Z.Warmed39 s.vm) {own : String} {ix : Nat} {v : Int64} (hown : s.vm.findClass own = some m.cls) (w : (Cond.constantLong own ix v).before a0 Z = true) (hd : decode c.code pc = .ok (.ldc2_w ix, 3)) (hp : pc + 3 = pc') (k : Goes p e below K T (mkF m pc' Ls (.long v :: st))) : Goes p e below K T (mkF m pc Ls st) := by subst hp; exact Goes.by' (fun _ q => X.ldc2J hx hown (mvT hZ w) rfl hd q) k
theorem g_goto (X : Stand p l e R s m args below meth c T locs cells slots) (hx : p.tables.exec = Jvm.exec) {o : Int} (hd : decode c.code pc = .ok (.goto o, 3)) (ho : 0 ≤ (pc : Int) + o) (hp : ((pc : Int) + o).toNat = pc') (k : Goes p e below K T (mkF m pc' Ls st)) : Goes p e below K T (mkF m pc Ls st) := Goes.by' (fun _ q => XS.goto X.here hx rfl (pc0 := pc) (pc' := pc') rfl hd ho hp q) k
theorem icmp_iff (cd : ClassFile.Cond) (x y : Int32) : if_icmp.holds cd x y = true ↔ (match cd with | .eq => x = y | .ne => ¬ x = y | .lt => x < y | .ge => ¬ x < y | .gt => y < x | .le => ¬ y < x) := by cases cd <;> simp [if_icmp.holds, Int32.not_lt, Int32.not_le]
theorem g_icmp_eq (X : Stand p l e R s m args below meth c T locs cells slots) (hx : p.tables.exec = Jvm.exec) {x y : Int32} {o : Int} {pt : Nat} (hd : decode c.code pc = .ok (.if_icmp .eq o, 3)) (ho : 0 ≤ (pc : Int) + o) (hp : ((pc : Int) + o).toNat = pt) (hp' : pc + 3 = pc') (kt : x = y → Goes p e below K T (mkF m pt Ls st)) (kf : ¬ x = y → Goes p e below K T (mkF m pc' Ls st)) : Goes p e below K T (mkF m pc Ls (.int y :: .int x :: st)) := by
  subst hp'
  by_cases q : if_icmp.holds .eq x y = true
  · exact Goes.by' (fun _ r => XS.icmpYes X.here hx rfl (pc0 := pc) (pc' := pt) rfl hd rfl q ho hp r) (kt ((icmp_iff .eq x y).mp q))
  · exact Goes.by' (fun _ r => XS.icmpNo X.here hx rfl hd rfl (by simpa using q) r) (kf (id (mt (icmp_iff .eq x y).mpr q)))
theorem g_if_eq (X : Stand p l e R s m args below meth c T locs cells slots) (hx : p.tables.exec = Jvm.exec) {x : Int32} {o : Int} {pt : Nat} (hd : decode c.code pc = .ok (.ifCond .eq o, 3)) (ho : 0 ≤ (pc : Int) + o) (hp : ((pc : Int) + o).toNat = pt) (hp' : pc + 3 = pc') (kt : x = 0 → Goes p e below K T (mkF m pt Ls st)) (kf : ¬ x = 0 → Goes p e below K T (mkF m pc' Ls st)) : Goes p e below K T (mkF m pc Ls (.int x :: st)) := by
  subst hp'
  by_cases q : if_icmp.holds .eq x 0 = true
  · exact Goes.by' (fun _ r => XS.ifYes X.here hx rfl (pc0 := pc) (pc' := pt) rfl hd rfl (by rw [if0]; exact q) ho hp r) (kt ((icmp_iff .eq x 0).mp q))
  · exact Goes.by' (fun _ r => XS.ifNo X.here hx rfl hd rfl (by rw [if0]; simpa using q) r) (kf (id (mt (icmp_iff .eq x 0).mpr q)))
theorem g_icmp_ne (X : Stand p l e R s m args below meth c T locs cells slots) (hx : p.tables.exec = Jvm.exec) {x y : Int32} {o : Int} {pt : Nat} (hd : decode c.code pc = .ok (.if_icmp .ne o, 3)) (ho : 0 ≤ (pc : Int) + o) (hp : ((pc : Int) + o).toNat = pt) (hp' : pc + 3 = pc') (kt : ¬ x = y → Goes p e below K T (mkF m pt Ls st)) (kf : x = y → Goes p e below K T (mkF m pc' Ls st)) : Goes p e below K T (mkF m pc Ls (.int y :: .int x :: st)) := by
  subst hp'
  by_cases q : if_icmp.holds .ne x y = true
  · exact Goes.by' (fun _ r => XS.icmpYes X.here hx rfl (pc0 := pc) (pc' := pt) rfl hd rfl q ho hp r) (kt ((icmp_iff .ne x y).mp q))
  · exact Goes.by' (fun _ r => XS.icmpNo X.here hx rfl hd rfl (by simpa using q) r) (kf (Classical.not_not.mp (mt (icmp_iff .ne x y).mpr q)))
theorem g_if_ne (X : Stand p l e R s m args below meth c T locs cells slots) (hx : p.tables.exec = Jvm.exec) {x : Int32} {o : Int} {pt : Nat} (hd : decode c.code pc = .ok (.ifCond .ne o, 3)) (ho : 0 ≤ (pc : Int) + o) (hp : ((pc : Int) + o).toNat = pt) (hp' : pc + 3 = pc') (kt : ¬ x = 0 → Goes p e below K T (mkF m pt Ls st)) (kf : x = 0 → Goes p e below K T (mkF m pc' Ls st)) : Goes p e below K T (mkF m pc Ls (.int x :: st)) := by
  subst hp'
  by_cases q : if_icmp.holds .ne x 0 = true
  · exact Goes.by' (fun _ r => XS.ifYes X.here hx rfl (pc0 := pc) (pc' := pt) rfl hd rfl (by rw [if0]; exact q) ho hp r) (kt ((icmp_iff .ne x 0).mp q))
  · exact Goes.by' (fun _ r => XS.ifNo X.here hx rfl hd rfl (by rw [if0]; simpa using q) r) (kf (Classical.not_not.mp (mt (icmp_iff .ne x 0).mpr q)))
theorem g_icmp_lt (X : Stand p l e R s m args below meth c T locs cells slots) (hx : p.tables.exec = Jvm.exec) {x y : Int32} {o : Int} {pt : Nat} (hd : decode c.code pc = .ok (.if_icmp .lt o, 3)) (ho : 0 ≤ (pc : Int) + o) (hp : ((pc : Int) + o).toNat = pt) (hp' : pc + 3 = pc') (kt : x < y → Goes p e below K T (mkF m pt Ls st)) (kf : ¬ x < y → Goes p e below K T (mkF m pc' Ls st)) : Goes p e below K T (mkF m pc Ls (.int y :: .int x :: st)) := by
  subst hp'
  by_cases q : if_icmp.holds .lt x y = true
  · exact Goes.by' (fun _ r => XS.icmpYes X.here hx rfl (pc0 := pc) (pc' := pt) rfl hd rfl q ho hp r) (kt ((icmp_iff .lt x y).mp q))
  · exact Goes.by' (fun _ r => XS.icmpNo X.here hx rfl hd rfl (by simpa using q) r) (kf (id (mt (icmp_iff .lt x y).mpr q)))
theorem g_if_lt (X : Stand p l e R s m args below meth c T locs cells slots) (hx : p.tables.exec = Jvm.exec) {x : Int32} {o : Int} {pt : Nat} (hd : decode c.code pc = .ok (.ifCond .lt o, 3)) (ho : 0 ≤ (pc : Int) + o) (hp : ((pc : Int) + o).toNat = pt) (hp' : pc + 3 = pc') (kt : x < 0 → Goes p e below K T (mkF m pt Ls st)) (kf : ¬ x < 0 → Goes p e below K T (mkF m pc' Ls st)) : Goes p e below K T (mkF m pc Ls (.int x :: st)) := by
  subst hp'
  by_cases q : if_icmp.holds .lt x 0 = true
  · exact Goes.by' (fun _ r => XS.ifYes X.here hx rfl (pc0 := pc) (pc' := pt) rfl hd rfl (by rw [if0]; exact q) ho hp r) (kt ((icmp_iff .lt x 0).mp q))
  · exact Goes.by' (fun _ r => XS.ifNo X.here hx rfl hd rfl (by rw [if0]; simpa using q) r) (kf (id (mt (icmp_iff .lt x 0).mpr q)))
theorem g_icmp_ge (X : Stand p l e R s m args below meth c T locs cells slots) (hx : p.tables.exec = Jvm.exec) {x y : Int32} {o : Int} {pt : Nat} (hd : decode c.code pc = .ok (.if_icmp .ge o, 3)) (ho : 0 ≤ (pc : Int) + o) (hp : ((pc : Int) + o).toNat = pt) (hp' : pc + 3 = pc') (kt : ¬ x < y → Goes p e below K T (mkF m pt Ls st)) (kf : x < y → Goes p e below K T (mkF m pc' Ls st)) : Goes p e below K T (mkF m pc Ls (.int y :: .int x :: st)) := by
  subst hp'
  by_cases q : if_icmp.holds .ge x y = true
  · exact Goes.by' (fun _ r => XS.icmpYes X.here hx rfl (pc0 := pc) (pc' := pt) rfl hd rfl q ho hp r) (kt ((icmp_iff .ge x y).mp q))
  · exact Goes.by' (fun _ r => XS.icmpNo X.here hx rfl hd rfl (by simpa using q) r) (kf (Classical.not_not.mp (mt (icmp_iff .ge x y).mpr q)))
theorem g_if_ge (X : Stand p l e R s m args below meth c T locs cells slots) (hx : p.tables.exec = Jvm.exec) {x : Int32} {o : Int} {pt : Nat} (hd : decode c.code pc = .ok (.ifCond .ge o, 3)) (ho : 0 ≤ (pc : Int) + o) (hp : ((pc : Int) + o).toNat = pt) (hp' : pc + 3 = pc') (kt : ¬ x < 0 → Goes p e below K T (mkF m pt Ls st)) (kf : x < 0 → Goes p e below K T (mkF m pc' Ls st)) : Goes p e below K T (mkF m pc Ls (.int x :: st)) := by
  subst hp'
  by_cases q : if_icmp.holds .ge x 0 = true
  · exact Goes.by' (fun _ r => XS.ifYes X.here hx rfl (pc0 := pc) (pc' := pt) rfl hd rfl (by rw [if0]; exact q) ho hp r) (kt ((icmp_iff .ge x 0).mp q))
  · exact Goes.by' (fun _ r => XS.ifNo X.here hx rfl hd rfl (by rw [if0]; simpa using q) r) (kf (Classical.not_not.mp (mt (icmp_iff .ge x 0).mpr q)))
theorem g_icmp_gt (X : Stand p l e R s m args below meth c T locs cells slots) (hx : p.tables.exec = Jvm.exec) {x y : Int32} {o : Int} {pt : Nat} (hd : decode c.code pc = .ok (.if_icmp .gt o, 3)) (ho : 0 ≤ (pc : Int) + o) (hp : ((pc : Int) + o).toNat = pt) (hp' : pc + 3 = pc') (kt : y < x → Goes p e below K T (mkF m pt Ls st)) (kf : ¬ y < x → Goes p e below K T (mkF m pc' Ls st)) : Goes p e below K T (mkF m pc Ls (.int y :: .int x :: st)) := by
  subst hp'
  by_cases q : if_icmp.holds .gt x y = true
  · exact Goes.by' (fun _ r => XS.icmpYes X.here hx rfl (pc0 := pc) (pc' := pt) rfl hd rfl q ho hp r) (kt ((icmp_iff .gt x y).mp q))
  · exact Goes.by' (fun _ r => XS.icmpNo X.here hx rfl hd rfl (by simpa using q) r) (kf (id (mt (icmp_iff .gt x y).mpr q)))
theorem g_if_gt (X : Stand p l e R s m args below meth c T locs cells slots) (hx : p.tables.exec = Jvm.exec) {x : Int32} {o : Int} {pt : Nat} (hd : decode c.code pc = .ok (.ifCond .gt o, 3)) (ho : 0 ≤ (pc : Int) + o) (hp : ((pc : Int) + o).toNat = pt) (hp' : pc + 3 = pc') (kt : 0 < x → Goes p e below K T (mkF m pt Ls st)) (kf : ¬ 0 < x → Goes p e below K T (mkF m pc' Ls st)) : Goes p e below K T (mkF m pc Ls (.int x :: st)) := by
  subst hp'
  by_cases q : if_icmp.holds .gt x 0 = true
  · exact Goes.by' (fun _ r => XS.ifYes X.here hx rfl (pc0 := pc) (pc' := pt) rfl hd rfl (by rw [if0]; exact q) ho hp r) (kt ((icmp_iff .gt x 0).mp q))
  · exact Goes.by' (fun _ r => XS.ifNo X.here hx rfl hd rfl (by rw [if0]; simpa using q) r) (kf (id (mt (icmp_iff .gt x 0).mpr q)))
theorem g_icmp_le (X : Stand p l e R s m args below meth c T locs cells slots) (hx : p.tables.exec = Jvm.exec) {x y : Int32} {o : Int} {pt : Nat} (hd : decode c.code pc = .ok (.if_icmp .le o, 3)) (ho : 0 ≤ (pc : Int) + o) (hp : ((pc : Int) + o).toNat = pt) (hp' : pc + 3 = pc') (kt : ¬ y < x → Goes p e below K T (mkF m pt Ls st)) (kf : y < x → Goes p e below K T (mkF m pc' Ls st)) : Goes p e below K T (mkF m pc Ls (.int y :: .int x :: st)) := by
  subst hp'
  by_cases q : if_icmp.holds .le x y = true
  · exact Goes.by' (fun _ r => XS.icmpYes X.here hx rfl (pc0 := pc) (pc' := pt) rfl hd rfl q ho hp r) (kt ((icmp_iff .le x y).mp q))
  · exact Goes.by' (fun _ r => XS.icmpNo X.here hx rfl hd rfl (by simpa using q) r) (kf (Classical.not_not.mp (mt (icmp_iff .le x y).mpr q)))
theorem g_if_le (X : Stand p l e R s m args below meth c T locs cells slots) (hx : p.tables.exec = Jvm.exec) {x : Int32} {o : Int} {pt : Nat} (hd : decode c.code pc = .ok (.ifCond .le o, 3)) (ho : 0 ≤ (pc : Int) + o) (hp : ((pc : Int) + o).toNat = pt) (hp' : pc + 3 = pc') (kt : ¬ 0 < x → Goes p e below K T (mkF m pt Ls st)) (kf : 0 < x → Goes p e below K T (mkF m pc' Ls st)) : Goes p e below K T (mkF m pc Ls (.int x :: st)) := by
  subst hp'
  by_cases q : if_icmp.holds .le x 0 = true
  · exact Goes.by' (fun _ r => XS.ifYes X.here hx rfl (pc0 := pc) (pc' := pt) rfl hd rfl (by rw [if0]; exact q) ho hp r) (kt ((icmp_iff .le x 0).mp q))
  · exact Goes.by' (fun _ r => XS.ifNo X.here hx rfl hd rfl (by rw [if0]; simpa using q) r) (kf (Classical.not_not.mp (mt (icmp_iff .le x 0).mpr q)))
theorem g_ifnull_t (X : Stand p l e R s m args below meth c T locs cells slots) (hx : p.tables.exec = Jvm.exec) {o : Int} {pt : Nat} (hd : decode c.code pc = .ok (.ifnull o, 3)) (ho : 0 ≤ (pc : Int) + o) (hp : ((pc : Int) + o).toNat = pt) (k : Goes p e below K T (mkF m pt Ls st)) : Goes p e below K T (mkF m pc Ls (.null :: st)) := Goes.by' (fun _ r => XS.ifnullYes X.here hx rfl (pc0 := pc) (pc' := pt) rfl hd rfl ho hp r) k
theorem g_ifnull_f (X : Stand p l e R s m args below meth c T locs cells slots) (hx : p.tables.exec = Jvm.exec) {o : Int} {a : Addr} (hd : decode c.code pc = .ok (.ifnull o, 3)) (hp : pc + 3 = pc') (k : Goes p e below K T (mkF m pc' Ls st)) : Goes p e below K T (mkF m pc Ls (.ref a :: st)) := by subst hp; exact Goes.by' (fun _ r => XS.ifnullNo X.here hx rfl hd rfl r) k
theorem g_ifnonnull_t (X : Stand p l e R s m args below meth c T locs cells slots) (hx : p.tables.exec = Jvm.exec) {o : Int} {a : Addr} {pt : Nat} (hd : decode c.code pc = .ok (.ifnonnull o, 3)) (ho : 0 ≤ (pc : Int) + o) (hp : ((pc : Int) + o).toNat = pt) (k : Goes p e below K T (mkF m pt Ls st)) : Goes p e below K T (mkF m pc Ls (.ref a :: st)) := Goes.by' (fun _ r => XT.ifnonnullYes X.here hx rfl (pc0 := pc) (pc' := pt) rfl hd rfl ho hp r) k
theorem g_ifnonnull_f (X : Stand p l e R s m args below meth c T locs cells slots) (hx : p.tables.exec = Jvm.exec) {o : Int} (hd : decode c.code pc = .ok (.ifnonnull o, 3)) (hp : pc + 3 = pc') (k : Goes p e below K T (mkF m pc' Ls st)) : Goes p e below K T (mkF m pc Ls (.null :: st)) := by subst hp; exact Goes.by' (fun _ r => XT.ifnonnullNo X.here hx rfl hd rfl r) k
theorem g_acmp_eq (X : Stand p l e R s m args below meth c T locs cells slots) (hx : p.tables.exec = Jvm.exec) {x y : Value} {o : Int} {pt : Nat} (hd : decode c.code pc = .ok (.if_acmp .eq o, 3)) (hx' : x.isRef = true) (hy' : y.isRef = true) (ho : 0 ≤ (pc : Int) + o) (hp : ((pc : Int) + o).toNat = pt) (hp' : pc + 3 = pc') (kt : x = y → Goes p e below K T (mkF m pt Ls st)) (kf : ¬ x = y → Goes p e below K T (mkF m pc' Ls st)) : Goes p e below K T (mkF m pc Ls (y :: x :: st)) := by
  subst hp'
  by_cases q : x = y
  · exact Goes.by' (fun _ r => XT.acmpYes X.here hx rfl (pc0 := pc) (pc' := pt) rfl hd rfl hx' hy' (by simp [XT.acmp, q]) ho hp r) (kt q)
  · exact Goes.by' (fun _ r => XT.acmpNo X.here hx rfl hd rfl hx' hy' (by simp [XT.acmp, q]) r) (kf q)
theorem g_acmp_ne (X : Stand p l e R s m args below meth c T locs cells slots) (hx : p.tables.exec = Jvm.exec) {x y : Value} {o : Int} {pt : Nat} (hd : decode c.code pc = .ok (.if_acmp .ne o, 3)) (hx' : x.isRef = true) (hy' : y.isRef = true) (ho : 0 ≤ (pc : Int) + o) (hp : ((pc : Int) + o).toNat = pt) (hp' : pc + 3 = pc') (kt : ¬ x = y → Goes p e below K T (mkF m pt Ls st)) (kf : x = y → Goes p e below K T (mkF m pc' Ls st)) : Goes p e below K T (mkF m pc Ls (y :: x :: st)) := by
  subst hp'
  by_cases q : x = y
  · exact Goes.by' (fun _ r => XT.acmpNo X.here hx rfl hd rfl hx' hy' (by simp [XT.acmp, q]) r) (kf q)
  · exact Goes.by' (fun _ r => XT.acmpYes X.here hx rfl (pc0 := pc) (pc' := pt) rfl hd rfl hx' hy' (by simp [XT.acmp, q]) ho hp r) (kt q)
theorem g_lsw (X : Stand p l e R s m args below meth c T locs cells slots) (hx : p.tables.exec = Jvm.exec) {i : Int32} {dflt o : Int} {prs : Array (Int × Int)} {len pt : Nat} (hd : decode c.code pc = .ok (.lookupswitch dflt prs, len)) (hso : ∀ (a b a_1 b_1 : Int), ((a, b), a_1, b_1) ∈ prs.toList.zip prs.toList.tail → a < a_1) (hoff : lookupswitch.offset prs.toList dflt i.toInt = o) (ho : 0 ≤ (pc : Int) + o) (hp : ((pc : Int) + o).toNat = pt) (k : Goes p e below K T (mkF m pt Ls st)) : Goes p e below K T (mkF m pc Ls (.int i :: st)) := by
  subst hp
  refine Goes.by' (fun t q => ?_) k
  show Steps p.tables e below (T.setTop { method := m, pc := pc, locals := Ls, stack := .int i :: st, locked := none }) t
  jvm_step X.here [X.here.top, hx, hd, lookupswitch.wp_chain, hoff, ho]
  exact ⟨hso, q⟩
theorem g_tsw (X : Stand p l e R s m args below meth c T locs cells slots) (hx : p.tables.exec = Jvm.exec) {i : Int32} {dflt lo hi o : Int} {offs : Array Int} {len pt : Nat} (hd : decode c.code pc = .ok (.tableswitch dflt lo hi offs, len)) (hin : ¬ (i.toInt < lo ∨ i.toInt > hi)) (hoff : offs[(i.toInt - lo).toNat]? = some o) (ho : 0 ≤ (pc : Int) + o) (hp : ((pc : Int) + o).toNat = pt) (k : Goes p e below K T (mkF m pt Ls st)) : Goes p e below K T (mkF m pc Ls (.int i :: st)) := Goes.by' (fun _ q => XS.tswIn X.here hx rfl (pc0 := pc) (pc' := pt) rfl hd rfl hin hoff ho hp q) k
theorem g_tswD (X : Stand p l e R s m args below meth c T locs cells slots) (hx : p.tables.exec = Jvm.exec) {i : Int32} {dflt lo hi : Int} {offs : Array Int} {len pt : Nat} (hd : decode c.code pc = .ok (.tableswitch dflt lo hi offs, len)) (hout : i.toInt < lo ∨ i.toInt > hi) (ho : 0 ≤ (pc : Int) + dflt) (hp : ((pc : Int) + dflt).toNat = pt) (k : Goes p e below K T (mkF m pt Ls st)) : Goes p e below K T (mkF m pc Ls (.int i :: st)) := Goes.by' (fun _ q => XS.tswOut X.here hx rfl (pc0 := pc) (pc' := pt) rfl hd rfl hout ho hp q) k
theorem g_getF (X : Stand p l e R s m args below meth c T locs cells slots) (hx : p.tables.exec = Jvm.exec) (hZ : Z.Warmed39 s.vm) {own O n d : String} {ix : Nat} {a : Addr} {v : Value} (hown : s.vm.findClass own = some m.cls) (w : (Cond.fieldLink own ix O n d).before a0 Z = true) (eT : T.heap = h) (F : Fld Z h a O n d v) (hd : decode c.code pc = .ok (.getfield ix, 3)) (hp : pc + 3 = pc') (k : ∀ T', Stand p l e R s m args below meth c T' locs cells slots → T'.heap = h → Goes p e below K T' (mkF m pc' Ls (v :: st))) : Goes p e below K T (mkF m pc Ls (.ref a :: st)) := by
  subst hp
  obtain ⟨T1, X1, e1, f1⟩ := getF X hx hZ hown (host := "") (Or.inl w) Via.refl eT F (g := mkF m pc Ls (.ref a :: st)) rfl rfl hd
  exact Goes.by' f1 (k T1 X1 e1)
theorem g_getS (X : Stand p l e R s m args below meth c T locs cells slots) (hx : p.tables.exec = Jvm.exec) (hZ : Z.Warmed39 s.vm) {own O n d : String} {ix : Nat} {v : Value} (hown : s.vm.findClass own = some m.cls) (w : (Cond.fieldLink own ix O n d).before a0 Z = true) (eT : T.heap = h) (F : Sta Z h O n d v) (hd : decode c.code pc = .ok (.getstatic ix, 3)) (hp : pc + 3 = pc') (k : ∀ T', Stand p l e R s m args below meth c T' locs cells slots → T'.heap = h → Goes p e below K T' (mkF m pc' Ls (v :: st))) : Goes p e below K T (mkF m pc Ls st) := by
  subst hp
  obtain ⟨T1, X1, e1, f1⟩ := getS X hx hZ hown (host := "") w Via.refl eT F (g := mkF m pc Ls st) rfl hd
  exact Goes.by' f1 (k T1 X1 e1)
theorem g_putF (X : Stand p l e R s m args below meth c T locs cells slots) (hx : p.tables.exec = Jvm.exec) (hZ : Z.Warmed39 s.vm) {own O n d C : String} {ix kk : Nat} {ty : FieldType} {a : Addr} {v old : Value} (hown : s.vm.findClass own = some m.cls) (w : (Cond.fieldLink own ix O n d).before a0 Z = true) (eT : T.heap = h) (F : Fld Z h a O n d old) (E : Exa Z h a C) (L : (Cond.lays C O n d).before a0 Z = true ∨ ((Cond.laysFinal C O n d).before a0 Z = true ∧ own = O ∧ meth.name = "<init>")) (wi : (Cond.instantiable C kk).before a0 Z = true) (hty : parseFieldDescriptor d = some ty) (hn : narrow ty v = v) (hf : fits ty v = true) (hd : decode c.code pc = .ok (.putfield ix, 3)) (hp : pc + 3 = pc') (k : ∀ T' h', Stand p l e R s m args below meth c T' (locs ++ [⟨a, Jvm.RoadKit.slotOf Z O n d⟩]) cells slots → T'.heap = h' → Wr h h' a (Jvm.RoadKit.slotOf Z O n d) v → Goes p e below K T' (mkF m pc' Ls st)) : Goes p e below K T (mkF m pc Ls (v :: .ref a :: st)) := by
  subst hp
  obtain ⟨T1, h1, X1, e1, W1, f1⟩ := putF X hx hZ hown (host := "") (Or.inl w) Via.refl eT F E L wi hty hn hf (g := mkF m pc Ls (v :: .ref a :: st)) rfl rfl hd
  exact Goes.by' f1 (k T1 h1 X1 e1 W1)
theorem g_new (X : Stand p l e R s m args below meth c T locs cells slots) (hx : p.tables.exec = Jvm.exec) (hZ : Z.Warmed39 s.vm) {own C : String} {ix n : Nat} (hown : s.vm.findClass own = some m.cls) (w : (Cond.classLink own ix C).before a0 Z = true) (wi : (Cond.instantiable C n).before a0 Z = true) (wz : (Cond.initialized C).before a0 Z = true) (eT : T.heap = h) (hd : decode c.code pc = .ok (.new ix, 3)) (hp : pc + 3 = pc') (hc : cells + 1 ≤ R.cells) (hl : slots + n ≤ R.slots) (k : ∀ T' h' a, Stand p l e R s m args below meth c T' locs (cells + 1) (slots + n) → T'.heap = h' → a = h.size → Ext h h' → Exa Z h' a C → (∀ {O nm d : String} {ty : FieldType}, Laid Z a0 C O nm d → parseFieldDescriptor d = some ty → Fld Z h' a O nm d (defaultValue ty)) → Goes p e below K T' (mkF m pc' Ls (.ref a :: st))) : Goes p e below K T (mkF m pc Ls st) := by
  subst hp
  obtain ⟨T1, h1, X1, e1, E1, A1, D1, -, f1⟩ := newO X hx hZ hown w wi wz eT (g := mkF m pc Ls st) rfl hd hc hl
  exact Goes.by' f1 (k T1 h1 _ X1 e1 rfl E1 A1 D1)
theorem g_newarr (X : Stand p l e R s m args below meth c T locs cells slots) (hx : p.tables.exec = Jvm.exec) (hZ : Z.Warmed39 s.vm) {aty : ArrayType} {ty : FieldType} (hty : newarray.typeOf aty = ty) (w : (Cond.arrayClass ty).before a0 Z = true) (eT : T.heap = h) {n : Int32} (hd : decode c.code pc = .ok (.newarray aty, 2)) (hp : pc + 2 = pc') (hn : ¬ n < 0) (cap : Nat) (hcap : n.toNatClampNeg ≤ cap) (hb : cap * 8 ≤ 536870912) (hc : cells + 1 ≤ R.cells) (hl : slots + cap ≤ R.slots) (k : ∀ T' h' cA a, Stand p l e R s m args below meth c T' locs (cells + 1) (slots + cap) → T'.heap = h' → a = h.size → Ext h h' → Arr Z h' a (newA cA ty n) ty → Goes p e below K T' (mkF m pc' Ls (.ref a :: st))) : Goes p e below K T (mkF m pc Ls (.int n :: st)) := by
  subst hp hty
  obtain ⟨T1, h1, cA, X1, e1, E1, A1, f1⟩ := newP X hx hZ w eT (g := mkF m pc Ls (.int n :: st)) rfl hd rfl hn hcap hb hc hl
  exact Goes.by' f1 (k T1 h1 cA _ X1 e1 rfl E1 A1)
theorem g_newR (X : Stand p l e R s m args below meth c T locs cells slots) (hx : p.tables.exec = Jvm.exec) (hZ : Z.Warmed39 s.vm) {own C : String} {ix : Nat} (hown : s.vm.findClass own = some m.cls) (w1 : (Cond.classLink own ix C).before a0 Z = true) (w2 : (Cond.arrayOver (.object C)).before a0 Z = true) (eT : T.heap = h) {n : Int32} (hd : decode c.code pc = .ok (.anewarray ix, 3)) (hp : pc + 3 = pc') (hn : ¬ n < 0) (cap : Nat) (hcap : n.toNatClampNeg ≤ cap) (hb : cap * 8 ≤ 536870912) (hc : cells + 1 ≤ R.cells) (hl : slots + cap ≤ R.slots) (k : ∀ T' h' cA a, Stand p l e R s m args below meth c T' locs (cells + 1) (slots + cap) → T'.heap = h' → a = h.size → Ext h h' → Arr Z h' a (newA cA (.object C) n) (.object C) → Ovr Z cA C → Goes p e below K T' (mkF m pc' Ls (.ref a :: st))) : Goes p e below K T (mkF m pc Ls (.int n :: st)) := by
  subst hp
  obtain ⟨T1, h1, cA, X1, e1, E1, A1, O1, f1⟩ := newR X hx hZ hown w1 w2 eT (g := mkF m pc Ls (.int n :: st)) rfl hd rfl hn hcap hb hc hl
  exact Goes.by' f1 (k T1 h1 cA _ X1 e1 rfl E1 A1 O1)
theorem g_initO (X : Stand p l e R s m args below meth c T locs cells slots) (hx : p.tables.exec = Jvm.exec) (hZ : Z.Warmed39 s.vm) {own : String} {ix : Nat} {a : Addr} (hown : s.vm.findClass own = some m.cls) (w1 : (Cond.methodLink own ix Lib.objectInit).before a0 Z = true) (w2 : (Cond.instanceMethod Lib.objectInit).before a0 Z = true) (w3 : (Cond.code Lib.objectInit ⟨#[0xb1]⟩ 1 none).before a0 Z = true) (eT : T.heap = h) (hsz : Ls.size = c.maxLocals) (hd : decode c.code pc = .ok (.invokespecial ix, 3)) (hp : pc + 3 = pc') (hf : 1 ≤ R.frames) (hl : (st.map fun v => v.category).sum + 12 ≤ R.locals) (k : ∀ T', Stand p l e R s m args below meth c T' locs cells slots → T'.heap = h → Goes p e below K T' (mkF m pc' Ls st)) : Goes p e below K T (mkF m pc Ls (.ref a :: st)) := by
  subst hp
  obtain ⟨T1, X1, e1, f1⟩ := initO X hx hZ hown w1 w2 w3 eT (g := mkF m pc Ls (.ref a :: st)) rfl hsz rfl hd hf (W := (st.map fun v => v.category).sum) (by show 2 * 0 + _ ≤ _; omega) hl
  exact Goes.by' f1 (k T1 X1 e1)
theorem g_iaload (X : Stand p l e R s m args below meth c T locs cells slots) (hx : p.tables.exec = Jvm.exec) (hZ : Z.Warmed39 s.vm) (eT : T.heap = h) {a : Addr} {cl : Cell} {j : Int32} {v : Value} (A : Arr Z h a cl .int) (hin : ¬ (j < 0 ∨ cl.slots.size ≤ j.toNatClampNeg)) (hat : cl.slots[j.toNatClampNeg]? = some v) (hd : decode c.code pc = .ok (.iaload, 1)) (hp : pc + 1 = pc') (k : Goes p e below K T (mkF m pc' Ls (v :: st))) : Goes p e below K T (mkF m pc Ls (.int j :: .ref a :: st)) := by
  subst hp
  exact Goes.by' (fun _ q => X.iaload hx (j := j) (v := v) (by rw [eT]; exact A.1) (State.isArrayOf_alike hZ.alike A.2.1) A.2.2 hin hat (g := mkF m pc Ls (.int j :: .ref a :: st)) rfl rfl hd _ q) k
theorem g_laload (X : Stand p l e R s m args below meth c T locs cells slots) (hx : p.tables.exec = Jvm.exec) (hZ : Z.Warmed39 s.vm) (eT : T.heap = h) {a : Addr} {cl : Cell} {j : Int32} {v : Value} (A : Arr Z h a cl .long) (hin : ¬ (j < 0 ∨ cl.slots.size ≤ j.toNatClampNeg)) (hat : cl.slots[j.toNatClampNeg]? = some v) (hd : decode c.code pc = .ok (.laload, 1)) (hp : pc + 1 = pc') (k : Goes p e below K T (mkF m pc' Ls (v :: st))) : Goes p e below K T (mkF m pc Ls (.int j :: .ref a :: st)) := by
  subst hp
  exact Goes.by' (fun _ q => X.laload hx (j := j) (v := v) (by rw [eT]; exact A.1) (State.isArrayOf_alike hZ.alike A.2.1) A.2.2 hin hat (g := mkF m pc Ls (.int j :: .ref a :: st)) rfl rfl hd _ q) k
theorem g_caload (X : Stand p l e R s m args below meth c T locs cells slots) (hx : p.tables.exec = Jvm.exec) (hZ : Z.Warmed39 s.vm) (eT : T.heap = h) {a : Addr} {cl : Cell} {j : Int32} {v : Value} (A : Arr Z h a cl .char) (hin : ¬ (j < 0 ∨ cl.slots.size ≤ j.toNatClampNeg)) (hat : cl.slots[j.toNatClampNeg]? = some v) (hd : decode c.code pc = .ok (.caload, 1)) (hp : pc + 1 = pc') (k : Goes p e below K T (mkF m pc' Ls (v :: st))) : Goes p e below K T (mkF m pc Ls (.int j :: .ref a :: st)) := by
  subst hp
  exact Goes.by' (fun _ q => X.caload hx (j := j) (v := v) (by rw [eT]; exact A.1) (State.isArrayOf_alike hZ.alike A.2.1) A.2.2 hin hat (g := mkF m pc Ls (.int j :: .ref a :: st)) rfl rfl hd _ q) k
theorem g_baload (X : Stand p l e R s m args below meth c T locs cells slots) (hx : p.tables.exec = Jvm.exec) (hZ : Z.Warmed39 s.vm) (eT : T.heap = h) {a : Addr} {cl : Cell} {j : Int32} {v : Value} (A : Arr Z h a cl .byte) (hin : ¬ (j < 0 ∨ cl.slots.size ≤ j.toNatClampNeg)) (hat : cl.slots[j.toNatClampNeg]? = some v) (hd : decode c.code pc = .ok (.baload, 1)) (hp : pc + 1 = pc') (k : Goes p e below K T (mkF m pc' Ls (v :: st))) : Goes p e below K T (mkF m pc Ls (.int j :: .ref a :: st)) := by
  subst hp
  exact Goes.by' (fun _ q => X.baloadBytes hx (j := j) (v := v) (by rw [eT]; exact A.1) (State.isArrayOf_alike hZ.alike A.2.1) A.2.2 hin hat (g := mkF m pc Ls (.int j :: .ref a :: st)) rfl rfl hd _ q) k
theorem g_aaload (X : Stand p l e R s m args below meth c T locs cells slots) (hx : p.tables.exec = Jvm.exec) (hZ : Z.Warmed39 s.vm) (eT : T.heap = h) {a : Addr} {cl : Cell} {ty : FieldType} {j : Int32} {v : Value} (A : Arr Z h a cl ty) (hty : ty.isReference = true) (hin : ¬ (j < 0 ∨ cl.slots.size ≤ j.toNatClampNeg)) (hat : cl.slots[j.toNatClampNeg]? = some v) (hd : decode c.code pc = .ok (.aaload, 1)) (hp : pc + 1 = pc') (k : Goes p e below K T (mkF m pc' Ls (v :: st))) : Goes p e below K T (mkF m pc Ls (.int j :: .ref a :: st)) := by
  subst hp
  exact Goes.by' (fun _ q => X.aaload hx (j := j) (v := v) (by rw [eT]; exact A.1) (State.isArrayOf_alike hZ.alike A.2.1) hty A.2.2 hin hat (g := mkF m pc Ls (.int j :: .ref a :: st)) rfl rfl hd _ q) k
theorem g_arraylength (X : Stand p l e R s m args below meth c T locs cells slots) (hx : p.tables.exec = Jvm.exec) (hZ : Z.Warmed39 s.vm) (eT : T.heap = h) {a : Addr} {cl : Cell} {ty : FieldType} {n : Int32} (A : Arr Z h a cl ty) (hn : cl.slots.size.toInt32 = n) (hd : decode c.code pc = .ok (.arraylength, 1)) (hp : pc + 1 = pc') (k : Goes p e below K T (mkF m pc' Ls (.int n :: st))) : Goes p e below K T (mkF m pc Ls (.ref a :: st)) := by
  subst hp hn
  exact Goes.by' (fun _ q => X.arraylength hx (by rw [eT]; exact A.1) (State.isArrayOf_alike hZ.alike A.2.1) (g := mkF m pc Ls (.ref a :: st)) rfl rfl hd _ q) k
theorem g_iastore (X : Stand p l e R s m args below meth c T locs cells slots) (hx : p.tables.exec = Jvm.exec) (hZ : Z.Warmed39 s.vm) (eT : T.heap = h) {a : Addr} {cl : Cell} {j : Int32} {x : Int32} (A : Arr Z h a cl .int) (hin : ¬ (j < 0 ∨ cl.slots.size ≤ j.toNatClampNeg)) (hd : decode c.code pc = .ok (.iastore, 1)) (hp : pc + 1 = pc') (k : ∀ T' h', Stand p l e R s m args below meth c T' (locs ++ [⟨a, j.toNatClampNeg⟩]) cells slots → T'.heap = h' → Wr h h' a j.toNatClampNeg (.int x) → Goes p e below K T' (mkF m pc' Ls st)) : Goes p e below K T (mkF m pc Ls (.int x :: .int j :: .ref a :: st)) := by
  subst hp
  obtain ⟨T1, h1, X1, e1, W1, f1⟩ := stI X hx hZ eT A hin (g := mkF m pc Ls (.int x :: .int j :: .ref a :: st)) rfl rfl hd
  exact Goes.by' f1 (k T1 h1 X1 e1 W1)
theorem g_lastore (X : Stand p l e R s m args below meth c T locs cells slots) (hx : p.tables.exec = Jvm.exec) (hZ : Z.Warmed39 s.vm) (eT : T.heap = h) {a : Addr} {cl : Cell} {j : Int32} {x : Int64} (A : Arr Z h a cl .long) (hin : ¬ (j < 0 ∨ cl.slots.size ≤ j.toNatClampNeg)) (hd : decode c.code pc = .ok (.lastore, 1)) (hp : pc + 1 = pc') (k : ∀ T' h', Stand p l e R s m args below meth c T' (locs ++ [⟨a, j.toNatClampNeg⟩]) cells slots → T'.heap = h' → Wr h h' a j.toNatClampNeg (.long x) → Goes p e below K T' (mkF m pc' Ls st)) : Goes p e below K T (mkF m pc Ls (.long x :: .int j :: .ref a :: st)) := by
  subst hp
  obtain ⟨T1, h1, X1, e1, W1, f1⟩ := stJ X hx hZ eT A hin (g := mkF m pc Ls (.long x :: .int j :: .ref a :: st)) rfl rfl hd
  exact Goes.by' f1 (k T1 h1 X1 e1 W1)
theorem g_castore (X : Stand p l e R s m args below meth c T locs cells slots) (hx : p.tables.exec = Jvm.exec) (hZ : Z.Warmed39 s.vm) (eT : T.heap = h) {a : Addr} {cl : Cell} {j : Int32} {x : Int32} (A : Arr Z h a cl .char) (hin : ¬ (j < 0 ∨ cl.slots.size ≤ j.toNatClampNeg)) (hd : decode c.code pc = .ok (.castore, 1)) (hp : pc + 1 = pc') (k : ∀ T' h', Stand p l e R s m args below meth c T' (locs ++ [⟨a, j.toNatClampNeg⟩]) cells slots → T'.heap = h' → Wr h h' a j.toNatClampNeg (.int (nar .char x)) → Goes p e below K T' (mkF m pc' Ls st)) : Goes p e below K T (mkF m pc Ls (.int x :: .int j :: .ref a :: st)) := by
  subst hp
  obtain ⟨T1, h1, X1, e1, W1, f1⟩ := stC X hx hZ eT A hin (g := mkF m pc Ls (.int x :: .int j :: .ref a :: st)) rfl rfl hd
  exact Goes.by' f1 (k T1 h1 X1 e1 W1)
theorem g_bastore (X : Stand p l e R s m args below meth c T locs cells slots) (hx : p.tables.exec = Jvm.exec) (hZ : Z.Warmed39 s.vm) (eT : T.heap = h) {a : Addr} {cl : Cell} {j : Int32} {x : Int32} (A : Arr Z h a cl .byte) (hin : ¬ (j < 0 ∨ cl.slots.size ≤ j.toNatClampNeg)) (hd : decode c.code pc = .ok (.bastore, 1)) (hp : pc + 1 = pc') (k : ∀ T' h', Stand p l e R s m args below meth c T' (locs ++ [⟨a, j.toNatClampNeg⟩]) cells slots → T'.heap = h' → Wr h h' a j.toNatClampNeg (.int (nar .byte x)) → Goes p e below K T' (mkF m pc' Ls st)) : Goes p e below K T (mkF m pc Ls (.int x :: .int j :: .ref a :: st)) := by
  subst hp
  obtain ⟨T1, h1, X1, e1, W1, f1⟩ := stB X hx hZ eT A hin (g := mkF m pc Ls (.int x :: .int j :: .ref a :: st)) rfl rfl hd
  exact Goes.by' f1 (k T1 h1 X1 e1 W1)
theorem g_aastore (X : Stand p l e R s m args below meth c T locs cells slots) (hx : p.tables.exec = Jvm.exec) (hZ : Z.Warmed39 s.vm) (eT : T.heap = h) {a : Addr} {cl : Cell} {ty : FieldType} {j : Int32} {v : Value} (A : Arr Z h a cl ty) (hty : ty.isReference = true) (F : Sto Z h a v) (hin : ¬ (j < 0 ∨ cl.slots.size ≤ j.toNatClampNeg)) (hd : decode c.code pc = .ok (.aastore, 1)) (hp : pc + 1 = pc') (k : ∀ T' h', Stand p l e R s m args below meth c T' (locs ++ [⟨a, j.toNatClampNeg⟩]) cells slots → T'.heap = h' → Wr h h' a j.toNatClampNeg v → Goes p e below K T' (mkF m pc' Ls st)) : Goes p e below K T (mkF m pc Ls (v :: .int j :: .ref a :: st)) := by
  subst hp
  obtain ⟨T1, h1, X1, e1, W1, f1⟩ := stR X hx hZ eT A hin hty F (g := mkF m pc Ls (v :: .int j :: .ref a :: st)) rfl rfl hd
  exact Goes.by' f1 (k T1 h1 X1 e1 W1)
theorem g_callS (X : Stand p l e R s m args below meth c T locs cells slots) (hx : p.tables.exec = Jvm.exec) (hZ : Z.Warmed39 s.vm) {own : String} {ix : Nat} {y : MethodName} {bytes : ByteArray} {maxL : Nat} {ret : Option FieldType} {rm : Room} {as' : Array Value} {Q : Option Value → Heap → List Loc → Prop} (hown : s.vm.findClass own = some m.cls) (w1 : (Cond.methodLink own ix y).before a0 Z = true) (w2 : (Cond.static y).before a0 Z = true) (w3 : (Cond.initialized y.cls).before a0 Z = true) (w4 : (Cond.code y bytes maxL ret).before a0 Z = true) (hy : y.cls ≠ "java/lang/invoke/MethodHandle" ∧ y.cls ≠ "java/lang/invoke/VarHandle") (eT : T.heap = h) (C : Ctr l Z y bytes maxL ret [] rm rm.cells rm.slots as' h Q) (hsz : Ls.size = c.maxLocals) (argsL rest : List Value) (has : argsL.toArray = as') (hlen : ∀ sig, parseMethodDescriptor y.desc = some sig → argsL.length = sig.parameters.length) (hst : st = argsL.reverse ++ rest) (hl : (rest.map fun v => v.category).sum + (maxL + 11) + rm.locals ≤ R.locals) (hf : rm.frames + 1 ≤ R.frames) (hc : cells + rm.cells ≤ R.cells) (hsl : slots + rm.slots ≤ R.slots) (hd : decode c.code pc = .ok (.invokestatic ix, 3)) (hp : pc + 3 = pc') (k : ∀ T' v L, Stand p l e R s m args below meth c T' (locs ++ L) (cells + rm.cells) (slots + rm.slots) → Q v T'.heap L → Goes p e below K T' (mkF m pc' Ls (v.toList ++ rest))) : Goes p e below K T (mkF m pc Ls st) := by
  subst hp
  obtain ⟨v, _, ⟨T1, L1, k1, n1⟩, -, X1, ⟨L, hQ, l1, y1, z1⟩, f1⟩ := Jvm.LawKit.callS X hx (y := y) hown (mvT hZ w1) (mvT hZ w2) (mvT hZ w3) (mvT hZ w4) hy (backOf (W := (rest.map fun v => v.category).sum) C hZ w4 w3 hf hl) (g := mkF m pc Ls st) rfl hsz (argsL := argsL) (rest := rest) hlen hst (by show 2 * 0 + _ ≤ _; omega) hd (fun _ _ => ⟨has, eT, hc, hsl⟩)
  dsimp only [Pt.U, Pt.locs, Pt.cells, Pt.slots] at X1 l1 y1 z1 f1 hQ
  subst l1 y1 z1
  exact Goes.by' f1 (k T1 v L X1 hQ)
theorem g_callI (X : Stand p l e R s m args below meth c T locs cells slots) (hx : p.tables.exec = Jvm.exec) (hZ : Z.Warmed39 s.vm) {own : String} {ix : Nat} {y : MethodName} {bytes : ByteArray} {maxL : Nat} {rm : Room} {as' : Array Value} {Q : Option Value → Heap → List Loc → Prop} (hy1 : y.name = "<init>") (hown : s.vm.findClass own = some m.cls) (w1 : (Cond.methodLink own ix y).before a0 Z = true) (w2 : (Cond.instanceMethod y).before a0 Z = true) (w3 : (Cond.initialized y.cls).before a0 Z = true) (w4 : (Cond.code y bytes maxL none).before a0 Z = true) (hy : y.cls ≠ "java/lang/invoke/MethodHandle" ∧ y.cls ≠ "java/lang/invoke/VarHandle") (eT : T.heap = h) (C : Ctr l Z y bytes maxL none [] rm rm.cells rm.slots as' h Q) (hsz : Ls.size = c.maxLocals) (a : Addr) (argsL rest : List Value) (has : (.ref a :: argsL).toArray = as') (hlen : ∀ sig, parseMethodDescriptor y.desc = some sig → argsL.length = sig.parameters.length) (hst : st = argsL.reverse ++ .ref a :: rest) (hl : (rest.map fun v => v.category).sum + (maxL + 11) + rm.locals ≤ R.locals) (hf : rm.frames + 1 ≤ R.frames) (hc : cells + rm.cells ≤ R.cells) (hsl : slots + rm.slots ≤ R.slots) (hd : decode c.code pc = .ok (.invokespecial ix, 3)) (hp : pc + 3 = pc') (k : ∀ T' v L, Stand p l e R s m args below meth c T' (locs ++ L) (cells + rm.cells) (slots + rm.slots) → Q v T'.heap L → Goes p e below K T' (mkF m pc' Ls (v.toList ++ rest))) : Goes p e below K T (mkF m pc Ls st) := by
  subst hp
  obtain ⟨v, _, ⟨T1, L1, k1, n1⟩, -, X1, ⟨L, hQ, l1, y1, z1⟩, f1⟩ := X.specialBack hx (y := y) hy1 hown (mvT hZ w1) (mvT hZ w2) (mvT hZ w4) hy (backOf (W := (rest.map fun v => v.category).sum) C hZ w4 w3 hf hl) (g := mkF m pc Ls st) rfl hsz (Steps.refl _) (a := a) (argsL := argsL) (rest := rest) hlen hst (by show 2 * 0 + _ ≤ _; omega) hd (fun _ _ => ⟨has, eT, hc, hsl⟩)
  dsimp only [Pt.U, Pt.locs, Pt.cells, Pt.slots] at X1 l1 y1 z1 f1 hQ
  subst l1 y1 z1
  exact Goes.by' (fun _ q => f1.trans q) (k T1 v L X1 hQ)
theorem g_callV (X : Stand p l e R s m args below meth c T locs cells slots) (hx : p.tables.exec = Jvm.exec) (hZ : Z.Warmed39 s.vm) {own : String} {ix : Nat} {y : MethodName} {bytes : ByteArray} {maxL : Nat} {ret : Option FieldType} {rm : Room} {as' : Array Value} {Q : Option Value → Heap → List Loc → Prop} {C0 : String} (hown : s.vm.findClass own = some m.cls) (w1 : (Cond.methodLink own ix y).before a0 Z = true) (w2 : (Cond.declares y).before a0 Z = true) (w5 : (Cond.selects C0 y y).before a0 Z = true) (w6 : (Cond.instanceMethod y).before a0 Z = true) (w3 : (Cond.initialized y.cls).before a0 Z = true) (w4 : (Cond.code y bytes maxL ret).before a0 Z = true) (hy : y.cls ≠ "java/lang/invoke/MethodHandle" ∧ y.cls ≠ "java/lang/invoke/VarHandle") (eT : T.heap = h) (a : Addr) (E : Exa Z h a C0) (C : Ctr l Z y bytes maxL ret [] rm rm.cells rm.slots as' h Q) (hsz : Ls.size = c.maxLocals) (argsL rest : List Value) (has : (.ref a :: argsL).toArray = as') (hlen : ∀ sig, parseMethodDescriptor y.desc = some sig → argsL.length = sig.parameters.length) (hst : st = argsL.reverse ++ .ref a :: rest) (hl : (rest.map fun v => v.category).sum + (maxL + 11) + rm.locals ≤ R.locals) (hf : rm.frames + 1 ≤ R.frames) (hc : cells + rm.cells ≤ R.cells) (hsl : slots + rm.slots ≤ R.slots) (hd : decode c.code pc = .ok (.invokevirtual ix, 3)) (hp : pc + 3 = pc') (k : ∀ T' v L, Stand p l e R s m args below meth c T' (locs ++ L) (cells + rm.cells) (slots + rm.slots) → Q v T'.heap L → Goes p e below K T' (mkF m pc' Ls (v.toList ++ rest))) : Goes p e below K T (mkF m pc Ls st) := by
  subst hp
  obtain ⟨cq, kq, qa, qb, qc⟩ := isOf hZ eT E
  obtain ⟨v, _, ⟨T1, L1, k1, n1⟩, -, X1, ⟨L, hQ, l1, y1, z1⟩, f1⟩ := X.virtualBack hx (y := y) (z := y) hown (mvT hZ w1) (mvT hZ w2) (notFace_of_selects (args := #[]) (mvT hZ w5)) (mvT hZ w5) (mvT hZ w6) hy (backOf (W := (rest.map fun v => v.category).sum) C hZ w4 w3 hf hl) qa qc (g := mkF m pc Ls st) rfl hsz (Steps.refl _) (argsL := argsL) (rest := rest) hlen hst (by show 2 * 0 + _ ≤ _; omega) hd (fun _ _ => ⟨has, eT, hc, hsl⟩)
  dsimp only [Pt.U, Pt.locs, Pt.cells, Pt.slots] at X1 l1 y1 z1 f1 hQ
  subst l1 y1 z1
  exact Goes.by' (fun _ q => f1.trans q) (k T1 v L X1 hQ)
theorem g_callP (X : Stand p l e R s m args below meth c T locs cells slots) (hx : p.tables.exec = Jvm.exec) (hZ : Z.Warmed39 s.vm) {own : String} {ix : Nat} {y : MethodName} {bytes : ByteArray} {maxL : Nat} {ret : Option FieldType} {rm : Room} {as' : Array Value} {Q : Option Value → Heap → List Loc → Prop} {kk : Nat} {C0 : String} (hown : s.vm.findClass own = some m.cls) (w1 : (Cond.methodLink own ix y).before a0 Z = true) (wi : (Cond.instantiable y.cls kk).before a0 Z = true) (wp : (Cond.privateMethod y).before a0 Z = true) (w6 : (Cond.instanceMethod y).before a0 Z = true) (w3 : (Cond.initialized y.cls).before a0 Z = true) (w4 : (Cond.code y bytes maxL ret).before a0 Z = true) (hy : y.cls ≠ "java/lang/invoke/MethodHandle" ∧ y.cls ≠ "java/lang/invoke/VarHandle") (eT : T.heap = h) (a : Addr) (E : Exa Z h a C0) (C : Ctr l Z y bytes maxL ret [] rm rm.cells rm.slots as' h Q) (hsz : Ls.size = c.maxLocals) (argsL rest : List Value) (has : (.ref a :: argsL).toArray = as') (hlen : ∀ sig, parseMethodDescriptor y.desc = some sig → argsL.length = sig.parameters.length) (hst : st = argsL.reverse ++ .ref a :: rest) (hl : (rest.map fun v => v.category).sum + (maxL + 11) + rm.locals ≤ R.locals) (hf : rm.frames + 1 ≤ R.frames) (hc : cells + rm.cells ≤ R.cells) (hsl : slots + rm.slots ≤ R.slots) (hd : decode c.code pc = .ok (.invokevirtual ix, 3)) (hp : pc + 3 = pc') (k : ∀ T' v L, Stand p l e R s m args below meth c T' (locs ++ L) (cells + rm.cells) (slots + rm.slots) → Q v T'.heap L → Goes p e below K T' (mkF m pc' Ls (v.toList ++ rest))) : Goes p e below K T (mkF m pc Ls st) := by
  subst hp
  obtain ⟨cell, hcell, hobj⟩ := E.cell
  have wi' : (Cond.instantiable y.cls kk).before args s = true := mvT hZ wi
  obtain ⟨c1, k1, i1, i2, i3, i4, -⟩ := Cond.instantiable_spec wi'
  have hni : k1.isInterface = false := by revert i4; cases k1.isInterface <;> simp
  have hpv : s.PrivateAt y := Cond.privateMethod_at (mvP hZ wp (args := #[]))
  have hsel : (Cond.selects y.cls y y).before args s = true := Jvm.Stand.selects_self_of_private i1 i2 hni hpv (mvT hZ w6) hy
  obtain ⟨v, _, ⟨T1, L1, k1, n1⟩, -, X1, ⟨L, hQ, l1, y1, z1⟩, f1⟩ := X.privateBack hx (y := y) hown (mvT hZ w1) (mvT hZ w6) hsel hpv (mvT hZ w4) hy (backOf (W := (rest.map fun v => v.category).sum) C hZ w4 w3 hf hl) (g := mkF m pc Ls st) rfl hsz (Steps.refl _) (a := a) (by rw [eT]; exact hcell) hobj (argsL := argsL) (rest := rest) hlen hst (by show 2 * 0 + _ ≤ _; omega) hd (fun _ _ => ⟨has, eT, hc, hsl⟩)
  dsimp only [Pt.U, Pt.locs, Pt.cells, Pt.slots] at X1 l1 y1 z1 f1 hQ
  subst l1 y1 z1
  exact Goes.by' (fun _ q => f1.trans q) (k T1 v L X1 hQ)
theorem g_retI (X : Stand p l e R s m args below meth c T locs cells slots) (hx : p.tables.exec = Jvm.exec) {C S : Nat} {Q : Option Value → Heap → List Loc → Prop} {z : Int32} (hlk : meth.locks = false) (hret : meth.sig.returnType = some .int) (eT : T.heap = h) (hc : cells ≤ C) (hs : slots ≤ S) (hd : decode c.code pc = .ok (.ireturn, 1)) (hQ : Q (some (.int z)) h locs) : Goes p e below (KQ s C S Q) T (mkF m pc Ls (.int z :: st)) := by
  obtain ⟨fs, hr, hrun, hended, hW, hsame⟩ := X.leave (v := some (.int z)) (fun q => by rw [hret] at q; cases q) hlk
  exact ⟨_, _, retOut X hx hret rfl (Or.inl ⟨rfl, Or.inl rfl, _, rfl⟩) hd hr, hrun, hended, _, _, rfl, by subst eT; exact hQ, ⟨_, rfl⟩, hW, hsame.mono hc hs⟩
theorem g_retJ (X : Stand p l e R s m args below meth c T locs cells slots) (hx : p.tables.exec = Jvm.exec) {C S : Nat} {Q : Option Value → Heap → List Loc → Prop} {z : Int64} (hlk : meth.locks = false) (hret : meth.sig.returnType = some .long) (eT : T.heap = h) (hc : cells ≤ C) (hs : slots ≤ S) (hd : decode c.code pc = .ok (.lreturn, 1)) (hQ : Q (some (.long z)) h locs) : Goes p e below (KQ s C S Q) T (mkF m pc Ls (.long z :: st)) := by
  obtain ⟨fs, hr, hrun, hended, hW, hsame⟩ := X.leave (v := some (.long z)) (fun q => by rw [hret] at q; cases q) hlk
  exact ⟨_, _, retOut X hx hret rfl (Or.inr (Or.inl ⟨rfl, rfl, _, rfl⟩)) hd hr, hrun, hended, _, _, rfl, by subst eT; exact hQ, ⟨_, rfl⟩, hW, hsame.mono hc hs⟩
theorem g_retN (X : Stand p l e R s m args below meth c T locs cells slots) (hx : p.tables.exec = Jvm.exec) {C S : Nat} {Q : Option Value → Heap → List Loc → Prop} {z : Int32} {t : FieldType} (ht : t = .boolean ∨ t = .byte ∨ t = .char ∨ t = .short) (hlk : meth.locks = false) (hret : meth.sig.returnType = some t) (eT : T.heap = h) (hc : cells ≤ C) (hs : slots ≤ S) (hd : decode c.code pc = .ok (.ireturn, 1)) (hQ : Q (some (.int (nar t z))) h locs) : Goes p e below (KQ s C S Q) T (mkF m pc Ls (.int z :: st)) := by
  obtain ⟨fs, hr, hrun, hended, hW, hsame⟩ := X.leave (v := some (.int (nar t z))) (fun q => by rw [hret] at q; cases q) hlk
  exact ⟨_, _, retN X hx hret ht hd hr, hrun, hended, _, _, rfl, by subst eT; exact hQ, ⟨_, rfl⟩, hW, hsame.mono hc hs⟩
theorem g_retA (X : Stand p l e R s m args below meth c T locs cells slots) (hx : p.tables.exec = Jvm.exec) {C S : Nat} {Q : Option Value → Heap → List Loc → Prop} {v : Value} {t : FieldType} (hv : v.isRef = true) (ht : t.isReference = true) (hlk : meth.locks = false) (hret : meth.sig.returnType = some t) (eT : T.heap = h) (hc : cells ≤ C) (hs : slots ≤ S) (hd : decode c.code pc = .ok (.areturn, 1)) (hQ : Q (some v) h locs) : Goes p e below (KQ s C S Q) T (mkF m pc Ls (v :: st)) := by
  obtain ⟨fs, hr, hrun, hended, hW, hsame⟩ := X.leave (v := some v) (fun q => by rw [hret] at q; cases q) hlk
  have hn : narrow t v = v := by cases v <;> simp [Value.isRef] at hv <;> cases t <;> simp [FieldType.isReference] at ht <;> rfl
  exact ⟨_, _, retOut X hx hret hn (Or.inr (Or.inr (Or.inr (Or.inr ⟨rfl, ht, hv⟩)))) hd hr, hrun, hended, _, _, rfl, by subst eT; exact hQ, ⟨_, rfl⟩, hW, hsame.mono hc hs⟩
theorem g_ret (X : Stand p l e R s m args below meth c T locs cells slots) (hx : p.tables.exec = Jvm.exec) {C S : Nat} {Q : Option Value → Heap → List Loc → Prop} (hlk : meth.locks = false) (hret : meth.sig.returnType = none) (eT : T.heap = h) (hc : cells ≤ C) (hs : slots ≤ S) (hd : decode c.code pc = .ok (.return_, 1)) (hQ : Q none h locs) : Goes p e below (KQ s C S Q) T (mkF m pc Ls []) := by
  obtain ⟨fs, hr, hrun, hended, hW, hsame⟩ := X.leave (v := none) (fun _ => rfl) hlk
  exact ⟨_, _, X.returnOut hx hret hd hr, hrun, hended, _, _, rfl, by subst eT; exact hQ, ⟨_, rfl⟩, hW, hsame.mono hc hs⟩
end OwnGo
def ArI (Z : State) (h : Heap) (b : Addr) (ty : FieldType) (n : Nat) (f : Nat → Int32) : Prop := ∃ cl, Arr Z h b cl ty ∧ cl.slots.size = n ∧ ∀ j, j < n → cl.slots[j]? = some (.int (f j))
section ArSI
variable {Z : State} {h h' : Heap} {a b : Addr} {ty : FieldType} {n sl : Nat} {f : Nat → Int32} {v : Value} {ws : List Addr}
theorem ArI.new {cA : ClassId} {z : Int32} (A : Arr Z h a (newA cA ty z) ty) (x : Int32) (hd : defaultValue ty = .int x) : ArI Z h a ty z.toNatClampNeg (fun _ => x) := ⟨_, A, sz_new _ _ _, fun j hj => by simp only [newA, ← hd]; rw [Array.getElem?_replicate, if_pos hj]⟩
theorem ArI.lt (F : ArI Z h b ty n f) : b < h.size := by obtain ⟨c, A, -⟩ := F; exact A.lt
theorem ArI.ext (F : ArI Z h b ty n f) (E : Ext h h') : ArI Z h' b ty n f := by obtain ⟨c, A, r⟩ := F; exact ⟨c, A.ext E, r⟩
theorem ArI.other (F : ArI Z h b ty n f) (W : Wr h h' a sl v) (q : b ≠ a) : ArI Z h' b ty n f := by obtain ⟨c, A, r⟩ := F; exact ⟨c, A.other W q, r⟩
theorem ArI.keep (F : ArI Z h b ty n f) (K : Keep h h' ws) (q : b ∉ ws) : ArI Z h' b ty n f := by obtain ⟨c, A, r⟩ := F; exact ⟨c, ⟨K.2.1 b c A.1 q, A.2⟩, r⟩
theorem ArI.set {x : Int32} (F : ArI Z h b ty n f) (W : Wr h h' b sl (.int (x))) : ArI Z h' b ty n (fun k => if k = sl then x else f k) := by
  obtain ⟨c, A, hs, H⟩ := F
  refine ⟨_, A.same W, by rw [sz_set]; exact hs, fun j hj => ?_⟩
  by_cases e : j = sl
  · subst e; simp only [Cell.setSlot, if_true]; rw [Array.getElem?_setIfInBounds_self_of_lt (by rw [hs]; exact hj)]
  · simp only [Cell.setSlot]; rw [Array.getElem?_setIfInBounds_ne (Ne.symm e), if_neg e]; exact H j hj
theorem ArI.inb {j : Int32} {c : Cell} (hs : c.slots.size = n) (h0 : ¬ j < 0) (h1 : j.toNatClampNeg < n) : ¬ (j < 0 ∨ c.slots.size ≤ j.toNatClampNeg) := by rw [hs]; rintro (q | q); exact h0 q; omega
end ArSI
section ArGI
variable {p : Program} {l : Launch} {e : Env} {R : Room} {s : State} {m : MethodId} {args : Array Value} {below : List Frame} {meth : Method} {c : Code} {T : State} {locs : List Loc} {cells slots : Nat} {Z : State} {a0 : Array Value} {h : Heap} {K : Outcome → State → Prop} {pc pc' : Nat} {Ls : Array Slot} {st : List Value}
theorem g_iaload' (X : Stand p l e R s m args below meth c T locs cells slots) (hx : p.tables.exec = Jvm.exec) (hZ : Z.Warmed39 s.vm) (eT : T.heap = h) {b : Addr} {n : Nat} {f : Nat → Int32} {j : Int32} {x : Int32} (A : ArI Z h b .int n f) (h0 : ¬ j < 0) (h1 : j.toNatClampNeg < n) (hv : f j.toNatClampNeg = x) (hd : decode c.code pc = .ok (.iaload, 1)) (hp : pc + 1 = pc') (k : Goes p e below K T (mkF m pc' Ls (.int (x) :: st))) : Goes p e below K T (mkF m pc Ls (.int j :: .ref b :: st)) := by
  obtain ⟨cl, A, hs, H⟩ := A
  exact g_iaload X hx hZ eT A (ArI.inb hs h0 h1) (by rw [H _ h1, hv]) hd hp k
theorem g_caload' (X : Stand p l e R s m args below meth c T locs cells slots) (hx : p.tables.exec = Jvm.exec) (hZ : Z.Warmed39 s.vm) (eT : T.heap = h) {b : Addr} {n : Nat} {f : Nat → Int32} {j : Int32} {x : Int32} (A : ArI Z h b .char n f) (h0 : ¬ j < 0) (h1 : j.toNatClampNeg < n) (hv : f j.toNatClampNeg = x) (hd : decode c.code pc = .ok (.caload, 1)) (hp : pc + 1 = pc') (k : Goes p e below K T (mkF m pc' Ls (.int (x) :: st))) : Goes p e below K T (mkF m pc Ls (.int j :: .ref b :: st)) := by
  obtain ⟨cl, A, hs, H⟩ := A
  exact g_caload X hx hZ eT A (ArI.inb hs h0 h1) (by rw [H _ h1, hv]) hd hp k
theorem g_baload' (X : Stand p l e R s m args below meth c T locs cells slots) (hx : p.tables.exec = Jvm.exec) (hZ : Z.Warmed39 s.vm) (eT : T.heap = h) {b : Addr} {n : Nat} {f : Nat → Int32} {j : Int32} {x : Int32} (A : ArI Z h b .byte n f) (h0 : ¬ j < 0) (h1 : j.toNatClampNeg < n) (hv : f j.toNatClampNeg = x) (hd : decode c.code pc = .ok (.baload, 1)) (hp : pc + 1 = pc') (k : Goes p e below K T (mkF m pc' Ls (.int (x) :: st))) : Goes p e below K T (mkF m pc Ls (.int j :: .ref b :: st)) := by
  obtain ⟨cl, A, hs, H⟩ := A
  exact g_baload X hx hZ eT A (ArI.inb hs h0 h1) (by rw [H _ h1, hv]) hd hp k
theorem g_arraylengthI (X : Stand p l e R s m args below meth c T locs cells slots) (hx : p.tables.exec = Jvm.exec) (hZ : Z.Warmed39 s.vm) (eT : T.heap = h) {b : Addr} {n : Nat} {f : Nat → Int32} {ty : FieldType} {z : Int32} (A : ArI Z h b ty n f) (hz : n.toInt32 = z) (hd : decode c.code pc = .ok (.arraylength, 1)) (hp : pc + 1 = pc') (k : Goes p e below K T (mkF m pc' Ls (.int z :: st))) : Goes p e below K T (mkF m pc Ls (.ref b :: st)) := by
  obtain ⟨cl, A, hs, H⟩ := A
  exact g_arraylength X hx hZ eT A (by rw [hs, hz]) hd hp k
theorem g_iastore' (X : Stand p l e R s m args below meth c T locs cells slots) (hx : p.tables.exec = Jvm.exec) (hZ : Z.Warmed39 s.vm) (eT : T.heap = h) {b : Addr} {n : Nat} {f : Nat → Int32} {j : Int32} {x : Int32} (A : ArI Z h b .int n f) (h0 : ¬ j < 0) (h1 : j.toNatClampNeg < n) (hd : decode c.code pc = .ok (.iastore, 1)) (hp : pc + 1 = pc') (k : ∀ T' h', Stand p l e R s m args below meth c T' (locs ++ [⟨b, j.toNatClampNeg⟩]) cells slots → T'.heap = h' → Wr h h' b j.toNatClampNeg (.int (x)) → ArI Z h' b .int n (fun k => if k = j.toNatClampNeg then x else f k) → Goes p e below K T' (mkF m pc' Ls st)) : Goes p e below K T (mkF m pc Ls (.int (x) :: .int j :: .ref b :: st)) := by
  have A' := A
  obtain ⟨cl, A, hs, H⟩ := A
  exact g_iastore X hx hZ eT A (ArI.inb hs h0 h1) hd hp (fun T' h' X' e' W' => k T' h' X' e' W' (A'.set W'))
theorem g_castore' (X : Stand p l e R s m args below meth c T locs cells slots) (hx : p.tables.exec = Jvm.exec) (hZ : Z.Warmed39 s.vm) (eT : T.heap = h) {b : Addr} {n : Nat} {f : Nat → Int32} {j : Int32} {x : Int32} (A : ArI Z h b .char n f) (h0 : ¬ j < 0) (h1 : j.toNatClampNeg < n) (hd : decode c.code pc = .ok (.castore, 1)) (hp : pc + 1 = pc') (k : ∀ T' h', Stand p l e R s m args below meth c T' (locs ++ [⟨b, j.toNatClampNeg⟩]) cells slots → T'.heap = h' → Wr h h' b j.toNatClampNeg (.int (nar .char x)) → ArI Z h' b .char n (fun k => if k = j.toNatClampNeg then nar .char x else f k) → Goes p e below K T' (mkF m pc' Ls st)) : Goes p e below K T (mkF m pc Ls (.int (x) :: .int j :: .ref b :: st)) := by
  have A' := A
  obtain ⟨cl, A, hs, H⟩ := A
  exact g_castore X hx hZ eT A (ArI.inb hs h0 h1) hd hp (fun T' h' X' e' W' => k T' h' X' e' W' (A'.set W'))
theorem g_bastore' (X : Stand p l e R s m args below meth c T locs cells slots) (hx : p.tables.exec = Jvm.exec) (hZ : Z.Warmed39 s.vm) (eT : T.heap = h) {b : Addr} {n : Nat} {f : Nat → Int32} {j : Int32} {x : Int32} (A : ArI Z h b .byte n f) (h0 : ¬ j < 0) (h1 : j.toNatClampNeg < n) (hd : decode c.code pc = .ok (.bastore, 1)) (hp : pc + 1 = pc') (k : ∀ T' h', Stand p l e R s m args below meth c T' (locs ++ [⟨b, j.toNatClampNeg⟩]) cells slots → T'.heap = h' → Wr h h' b j.toNatClampNeg (.int (nar .byte x)) → ArI Z h' b .byte n (fun k => if k = j.toNatClampNeg then nar .byte x else f k) → Goes p e below K T' (mkF m pc' Ls st)) : Goes p e below K T (mkF m pc Ls (.int (x) :: .int j :: .ref b :: st)) := by
  have A' := A
  obtain ⟨cl, A, hs, H⟩ := A
  exact g_bastore X hx hZ eT A (ArI.inb hs h0 h1) hd hp (fun T' h' X' e' W' => k T' h' X' e' W' (A'.set W'))
theorem g_iastoreN (X : Stand p l e R s m args below meth c T locs cells slots) (hx : p.tables.exec = Jvm.exec) (hZ : Z.Warmed39 s.vm) (eT : T.heap = h) {b : Addr} {n : Nat} {f : Nat → Int32} {j : Int32} {x : Int32} (A : ArI Z h b .int n f) (jn : Nat) (hj : j.toNatClampNeg = jn) (h0 : ¬ j < 0) (h1 : jn < n) (hd : decode c.code pc = .ok (.iastore, 1)) (hp : pc + 1 = pc') (k : ∀ T' h', Stand p l e R s m args below meth c T' (locs ++ [⟨b, jn⟩]) cells slots → T'.heap = h' → Wr h h' b jn (.int (x)) → ArI Z h' b .int n (fun k => if k = jn then x else f k) → Goes p e below K T' (mkF m pc' Ls st)) : Goes p e below K T (mkF m pc Ls (.int (x) :: .int j :: .ref b :: st)) := by
  subst hj
  exact g_iastore' X hx hZ eT A h0 h1 hd hp k
theorem g_castoreN (X : Stand p l e R s m args below meth c T locs cells slots) (hx : p.tables.exec = Jvm.exec) (hZ : Z.Warmed39 s.vm) (eT : T.heap = h) {b : Addr} {n : Nat} {f : Nat → Int32} {j : Int32} {x : Int32} (A : ArI Z h b .char n f) (jn : Nat) (hj : j.toNatClampNeg = jn) (h0 : ¬ j < 0) (h1 : jn < n) (hd : decode c.code pc = .ok (.castore, 1)) (hp : pc + 1 = pc') (k : ∀ T' h', Stand p l e R s m args below meth c T' (locs ++ [⟨b, jn⟩]) cells slots → T'.heap = h' → Wr h h' b jn (.int (nar .char x)) → ArI Z h' b .char n (fun k => if k = jn then nar .char x else f k) → Goes p e below K T' (mkF m pc' Ls st)) : Goes p e below K T (mkF m pc Ls (.int (x) :: .int j :: .ref b :: st)) := by
  subst hj
  exact g_castore' X hx hZ eT A h0 h1 hd hp k
theorem g_bastoreN (X : Stand p l e R s m args below meth c T locs cells slots) (hx : p.tables.exec = Jvm.exec) (hZ : Z.Warmed39 s.vm) (eT : T.heap = h) {b : Addr} {n : Nat} {f : Nat → Int32} {j : Int32} {x : Int32} (A : ArI Z h b .byte n f) (jn : Nat) (hj : j.toNatClampNeg = jn) (h0 : ¬ j < 0) (h1 : jn < n) (hd : decode c.code pc = .ok (.bastore, 1)) (hp : pc + 1 = pc') (k : ∀ T' h', Stand p l e R s m args below meth c T' (locs ++ [⟨b, jn⟩]) cells slots → T'.heap = h' → Wr h h' b jn (.int (nar .byte x)) → ArI Z h' b .byte n (fun k => if k = jn then nar .byte x else f k) → Goes p e below K T' (mkF m pc' Ls st)) : Goes p e below K T (mkF m pc Ls (.int (x) :: .int j :: .ref b :: st)) := by
  subst hj
  exact g_bastore' X hx hZ eT A h0 h1 hd hp k
end ArGI
def ArJ (Z : State) (h : Heap) (b : Addr) (ty : FieldType) (n : Nat) (f : Nat → Int64) : Prop := ∃ cl, Arr Z h b cl ty ∧ cl.slots.size = n ∧ ∀ j, j < n → cl.slots[j]? = some (.long (f j))
section ArSJ
variable {Z : State} {h h' : Heap} {a b : Addr} {ty : FieldType} {n sl : Nat} {f : Nat → Int64} {v : Value} {ws : List Addr}
theorem ArJ.new {cA : ClassId} {z : Int32} (A : Arr Z h a (newA cA ty z) ty) (x : Int64) (hd : defaultValue ty = .long x) : ArJ Z h a ty z.toNatClampNeg (fun _ => x) := ⟨_, A, sz_new _ _ _, fun j hj => by simp only [newA, ← hd]; rw [Array.getElem?_replicate, if_pos hj]⟩
theorem ArJ.lt (F : ArJ Z h b ty n f) : b < h.size := by obtain ⟨c, A, -⟩ := F; exact A.lt
theorem ArJ.ext (F : ArJ Z h b ty n f) (E : Ext h h') : ArJ Z h' b ty n f := by obtain ⟨c, A, r⟩ := F; exact ⟨c, A.ext E, r⟩
theorem ArJ.other (F : ArJ Z h b ty n f) (W : Wr h h' a sl v) (q : b ≠ a) : ArJ Z h' b ty n f := by obtain ⟨c, A, r⟩ := F; exact ⟨c, A.other W q, r⟩
theorem ArJ.keep (F : ArJ Z h b ty n f) (K : Keep h h' ws) (q : b ∉ ws) : ArJ Z h' b ty n f := by obtain ⟨c, A, r⟩ := F; exact ⟨c, ⟨K.2.1 b c A.1 q, A.2⟩, r⟩
theorem ArJ.set {x : Int64} (F : ArJ Z h b ty n f) (W : Wr h h' b sl (.long (x))) : ArJ Z h' b ty n (fun k => if k = sl then x else f k) := by
  obtain ⟨c, A, hs, H⟩ := F
  refine ⟨_, A.same W, by rw [sz_set]; exact hs, fun j hj => ?_⟩
  by_cases e : j = sl
  · subst e; simp only [Cell.setSlot, if_true]; rw [Array.getElem?_setIfInBounds_self_of_lt (by rw [hs]; exact hj)]
  · simp only [Cell.setSlot]; rw [Array.getElem?_setIfInBounds_ne (Ne.symm e), if_neg e]; exact H j hj
theorem ArJ.inb {j : Int32} {c : Cell} (hs : c.slots.size = n) (h0 : ¬ j < 0) (h1 : j.toNatClampNeg < n) : ¬ (j < 0 ∨ c.slots.size ≤ j.toNatClampNeg) := by rw [hs]; rintro (q | q); exact h0 q; omega
end ArSJ
section ArGJ
variable {p : Program} {l : Launch} {e : Env} {R : Room} {s : State} {m : MethodId} {args : Array Value} {below : List Frame} {meth : Method} {c : Code} {T : State} {locs : List Loc} {cells slots : Nat} {Z : State} {a0 : Array Value} {h : Heap} {K : Outcome → State → Prop} {pc pc' : Nat} {Ls : Array Slot} {st : List Value}
theorem g_laload' (X : Stand p l e R s m args below meth c T locs cells slots) (hx : p.tables.exec = Jvm.exec) (hZ : Z.Warmed39 s.vm) (eT : T.heap = h) {b : Addr} {n : Nat} {f : Nat → Int64} {j : Int32} {x : Int64} (A : ArJ Z h b .long n f) (h0 : ¬ j < 0) (h1 : j.toNatClampNeg < n) (hv : f j.toNatClampNeg = x) (hd : decode c.code pc = .ok (.laload, 1)) (hp : pc + 1 = pc') (k : Goes p e below K T (mkF m pc' Ls (.long (x) :: st))) : Goes p e below K T (mkF m pc Ls (.int j :: .ref b :: st)) := by
  obtain ⟨cl, A, hs, H⟩ := A
  exact g_laload X hx hZ eT A (ArJ.inb hs h0 h1) (by rw [H _ h1, hv]) hd hp k
theorem g_arraylengthJ (X : Stand p l e R s m args below meth c T locs cells slots) (hx : p.tables.exec = Jvm.exec) (hZ : Z.Warmed39 s.vm) (eT : T.heap = h) {b : Addr} {n : Nat} {f : Nat → Int64} {ty : FieldType} {z : Int32} (A : ArJ Z h b ty n f) (hz : n.toInt32 = z) (hd : decode c.code pc = .ok (.arraylength, 1)) (hp : pc + 1 = pc') (k : Goes p e below K T (mkF m pc' Ls (.int z :: st))) : Goes p e below K T (mkF m pc Ls (.ref b :: st)) := by
  obtain ⟨cl, A, hs, H⟩ := A
  exact g_arraylength X hx hZ eT A (by rw [hs, hz]) hd hp k
theorem g_lastore' (X : Stand p l e R s m args below meth c T locs cells slots) (hx : p.tables.exec = Jvm.exec) (hZ : Z.Warmed39 s.vm) (eT : T.heap = h) {b : Addr} {n : Nat} {f : Nat → Int64} {j : Int32} {x : Int64} (A : ArJ Z h b .long n f) (h0 : ¬ j < 0) (h1 : j.toNatClampNeg < n) (hd : decode c.code pc = .ok (.lastore, 1)) (hp : pc + 1 = pc') (k : ∀ T' h', Stand p l e R s m args below meth c T' (locs ++ [⟨b, j.toNatClampNeg⟩]) cells slots → T'.heap = h' → Wr h h' b j.toNatClampNeg (.long (x)) → ArJ Z h' b .long n (fun k => if k = j.toNatClampNeg then x else f k) → Goes p e below K T' (mkF m pc' Ls st)) : Goes p e below K T (mkF m pc Ls (.long (x) :: .int j :: .ref b :: st)) := by
  have A' := A
  obtain ⟨cl, A, hs, H⟩ := A
  exact g_lastore X hx hZ eT A (ArJ.inb hs h0 h1) hd hp (fun T' h' X' e' W' => k T' h' X' e' W' (A'.set W'))
theorem g_lastoreN (X : Stand p l e R s m args below meth c T locs cells slots) (hx : p.tables.exec = Jvm.exec) (hZ : Z.Warmed39 s.vm) (eT : T.heap = h) {b : Addr} {n : Nat} {f : Nat → Int64} {j : Int32} {x : Int64} (A : ArJ Z h b .long n f) (jn : Nat) (hj : j.toNatClampNeg = jn) (h0 : ¬ j < 0) (h1 : jn < n) (hd : decode c.code pc = .ok (.lastore, 1)) (hp : pc + 1 = pc') (k : ∀ T' h', Stand p l e R s m args below meth c T' (locs ++ [⟨b, jn⟩]) cells slots → T'.heap = h' → Wr h h' b jn (.long (x)) → ArJ Z h' b .long n (fun k => if k = jn then x else f k) → Goes p e below K T' (mkF m pc' Ls st)) : Goes p e below K T (mkF m pc Ls (.long (x) :: .int j :: .ref b :: st)) := by
  subst hj
  exact g_lastore' X hx hZ eT A h0 h1 hd hp k
end ArGJ
def ArV (Z : State) (h : Heap) (b : Addr) (ty : FieldType) (n : Nat) (f : Nat → Value) : Prop := ∃ cl, Arr Z h b cl ty ∧ cl.slots.size = n ∧ ∀ j, j < n → cl.slots[j]? = some (f j)
section ArSV
variable {Z : State} {h h' : Heap} {a b : Addr} {ty : FieldType} {n sl : Nat} {f : Nat → Value} {v : Value} {ws : List Addr}
theorem ArV.new {cA : ClassId} {z : Int32} (A : Arr Z h a (newA cA ty z) ty) (x : Value) (hd : defaultValue ty = x) : ArV Z h a ty z.toNatClampNeg (fun _ => x) := ⟨_, A, sz_new _ _ _, fun j hj => by simp only [newA, ← hd]; rw [Array.getElem?_replicate, if_pos hj]⟩
theorem ArV.lt (F : ArV Z h b ty n f) : b < h.size := by obtain ⟨c, A, -⟩ := F; exact A.lt
theorem ArV.ext (F : ArV Z h b ty n f) (E : Ext h h') : ArV Z h' b ty n f := by obtain ⟨c, A, r⟩ := F; exact ⟨c, A.ext E, r⟩
theorem ArV.other (F : ArV Z h b ty n f) (W : Wr h h' a sl v) (q : b ≠ a) : ArV Z h' b ty n f := by obtain ⟨c, A, r⟩ := F; exact ⟨c, A.other W q, r⟩
theorem ArV.keep (F : ArV Z h b ty n f) (K : Keep h h' ws) (q : b ∉ ws) : ArV Z h' b ty n f := by obtain ⟨c, A, r⟩ := F; exact ⟨c, ⟨K.2.1 b c A.1 q, A.2⟩, r⟩
theorem ArV.set {x : Value} (F : ArV Z h b ty n f) (W : Wr h h' b sl (x)) : ArV Z h' b ty n (fun k => if k = sl then x else f k) := by
  obtain ⟨c, A, hs, H⟩ := F
  refine ⟨_, A.same W, by rw [sz_set]; exact hs, fun j hj => ?_⟩
  by_cases e : j = sl
  · subst e; simp only [Cell.setSlot, if_true]; rw [Array.getElem?_setIfInBounds_self_of_lt (by rw [hs]; exact hj)]
  · simp only [Cell.setSlot]; rw [Array.getElem?_setIfInBounds_ne (Ne.symm e), if_neg e]; exact H j hj
theorem ArV.inb {j : Int32} {c : Cell} (hs : c.slots.size = n) (h0 : ¬ j < 0) (h1 : j.toNatClampNeg < n) : ¬ (j < 0 ∨ c.slots.size ≤ j.toNatClampNeg) := by rw [hs]; rintro (q | q); exact h0 q; omega
end ArSV
section ArGV
variable {p : Program} {l : Launch} {e : Env} {R : Room} {s : State} {m : MethodId} {args : Array Value} {below : List Frame} {meth : Method} {c : Code} {T : State} {locs : List Loc} {cells slots : Nat} {Z : State} {a0 : Array Value} {h : Heap} {K : Outcome → State → Prop} {pc pc' : Nat} {Ls : Array Slot} {st : List Value}
theorem g_aaload' (X : Stand p l e R s m args below meth c T locs cells slots) (hx : p.tables.exec = Jvm.exec) (hZ : Z.Warmed39 s.vm) (eT : T.heap = h) {b : Addr} {n : Nat} {f : Nat → Value} {j : Int32} {x : Value} {ty : FieldType} (A : ArV Z h b ty n f) (h0 : ¬ j < 0) (h1 : j.toNatClampNeg < n) (hv : f j.toNatClampNeg = x) (hty : ty.isReference = true) (hd : decode c.code pc = .ok (.aaload, 1)) (hp : pc + 1 = pc') (k : Goes p e below K T (mkF m pc' Ls (x :: st))) : Goes p e below K T (mkF m pc Ls (.int j :: .ref b :: st)) := by
  obtain ⟨cl, A, hs, H⟩ := A
  exact g_aaload X hx hZ eT A hty (ArV.inb hs h0 h1) (by rw [H _ h1, hv]) hd hp k
theorem g_arraylengthV (X : Stand p l e R s m args below meth c T locs cells slots) (hx : p.tables.exec = Jvm.exec) (hZ : Z.Warmed39 s.vm) (eT : T.heap = h) {b : Addr} {n : Nat} {f : Nat → Value} {ty : FieldType} {z : Int32} (A : ArV Z h b ty n f) (hz : n.toInt32 = z) (hd : decode c.code pc = .ok (.arraylength, 1)) (hp : pc + 1 = pc') (k : Goes p e below K T (mkF m pc' Ls (.int z :: st))) : Goes p e below K T (mkF m pc Ls (.ref b :: st)) := by
  obtain ⟨cl, A, hs, H⟩ := A
  exact g_arraylength X hx hZ eT A (by rw [hs, hz]) hd hp k
theorem g_aastore' (X : Stand p l e R s m args below meth c T locs cells slots) (hx : p.tables.exec = Jvm.exec) (hZ : Z.Warmed39 s.vm) (eT : T.heap = h) {b : Addr} {n : Nat} {f : Nat → Value} {j : Int32} {x : Value} {ty : FieldType} (A : ArV Z h b ty n f) (h0 : ¬ j < 0) (h1 : j.toNatClampNeg < n) (hty : ty.isReference = true) (F : Sto Z h b x) (hd : decode c.code pc = .ok (.aastore, 1)) (hp : pc + 1 = pc') (k : ∀ T' h', Stand p l e R s m args below meth c T' (locs ++ [⟨b, j.toNatClampNeg⟩]) cells slots → T'.heap = h' → Wr h h' b j.toNatClampNeg (x) → ArV Z h' b ty n (fun k => if k = j.toNatClampNeg then x else f k) → Goes p e below K T' (mkF m pc' Ls st)) : Goes p e below K T (mkF m pc Ls (x :: .int j :: .ref b :: st)) := by
  have A' := A
  obtain ⟨cl, A, hs, H⟩ := A
  exact g_aastore X hx hZ eT A hty F (ArV.inb hs h0 h1) hd hp (fun T' h' X' e' W' => k T' h' X' e' W' (A'.set W'))
end ArGV
section OwnIns
variable {p : Program} {l : Launch} {e : Env} {R : Room} {s : State} {m : MethodId} {args : Array Value} {below : List Frame} {meth : Method} {c : Code} {T : State} {locs : List Loc} {cells slots : Nat} {Z : State} {a0 : Array Value} {h : Heap} {K : Outcome → State → Prop} {pc pc' : Nat} {Ls : Array Slot} {st : List Value}
theorem g_instY (X : Stand p l e R s m args below meth c T locs cells slots) (hx : p.tables.exec = Jvm.exec) (hZ : Z.Warmed39 s.vm) {own K0 : String} {ix : Nat} {a : Addr} (hown : s.vm.findClass own = some m.cls) (w : (Cond.classLink own ix K0).before a0 Z = true) (eT : T.heap = h) (F : Ins Z h a K0 true) (hd : decode c.code pc = .ok (.instanceof ix, 3)) (hp : pc + 3 = pc') (k : ∀ T', Stand p l e R s m args below meth c T' locs cells slots → T'.heap = h → Goes p e below K T' (mkF m pc' Ls (.int 1 :: st))) : Goes p e below K T (mkF m pc Ls (.ref a :: st)) := by
  subst hp
  obtain ⟨T1, X1, e1, f1⟩ := instY X hx hZ hown w eT F (g := mkF m pc Ls (.ref a :: st)) rfl rfl hd
  exact Goes.by' f1 (k T1 X1 e1)
theorem g_instNo (X : Stand p l e R s m args below meth c T locs cells slots) (hx : p.tables.exec = Jvm.exec) (hZ : Z.Warmed39 s.vm) {own K0 C0 : String} {ix : Nat} {a : Addr} (hown : s.vm.findClass own = some m.cls) (w : (Cond.classLink own ix K0).before a0 Z = true) (eT : T.heap = h) (E : Exa Z h a C0) (F : ∃ c t, Z.vm.findClass C0 = some c ∧ Z.vm.findClass K0 = some t ∧ Z.vm.assignable c t = false) (hd : decode c.code pc = .ok (.instanceof ix, 3)) (hp : pc + 3 = pc') (k : ∀ T', Stand p l e R s m args below meth c T' locs cells slots → T'.heap = h → Goes p e below K T' (mkF m pc' Ls (.int 0 :: st))) : Goes p e below K T (mkF m pc Ls (.ref a :: st)) := by
  subst hp
  obtain ⟨T1, X1, e1, f1⟩ := instNo X hx hZ hown w eT E F (g := mkF m pc Ls (.ref a :: st)) rfl rfl hd
  exact Goes.by' f1 (k T1 X1 e1)
theorem g_castY (X : Stand p l e R s m args below meth c T locs cells slots) (hx : p.tables.exec = Jvm.exec) (hZ : Z.Warmed39 s.vm) {own K0 : String} {ix : Nat} {a : Addr} (hown : s.vm.findClass own = some m.cls) (w : (Cond.classLink own ix K0).before a0 Z = true) (eT : T.heap = h) (F : Ins Z h a K0 true) (hd : decode c.code pc = .ok (.checkcast ix, 3)) (hp : pc + 3 = pc') (k : ∀ T', Stand p l e R s m args below meth c T' locs cells slots → T'.heap = h → Goes p e below K T' (mkF m pc' Ls (.ref a :: st))) : Goes p e below K T (mkF m pc Ls (.ref a :: st)) := by
  subst hp
  obtain ⟨T1, X1, e1, f1⟩ := castY X hx hZ hown w eT F (g := mkF m pc Ls (.ref a :: st)) rfl rfl hd
  exact Goes.by' f1 (k T1 X1 e1)
theorem g_instNull (X : Stand p l e R s m args below meth c T locs cells slots) (hx : p.tables.exec = Jvm.exec) {ix : Nat} (hd : decode c.code pc = .ok (.instanceof ix, 3)) (hp : pc + 3 = pc') (k : Goes p e below K T (mkF m pc' Ls (.int 0 :: st))) : Goes p e below K T (mkF m pc Ls (.null :: st)) := by
  subst hp
  exact Goes.by' (fun _ q => X.instanceofNull hx (g := mkF m pc Ls (.null :: st)) rfl rfl hd _ q) k
end OwnIns
section OwnW
variable {p : Program} {l : Launch} {e : Env} {R : Room} {s : State} {m : MethodId} {args : Array Value} {below : List Frame} {meth : Method} {c : Code} {T : State} {locs : List Loc} {cells slots : Nat} {Z : State} {a0 : Array Value} {h : Heap} {K : Outcome → State → Prop} {pc pc' : Nat} {Ls : Array Slot} {st : List Value}
abbrev KW (s : State) (C S : Nat) (Q : Option Value → Heap → List Loc → Prop) : Outcome → State → Prop := fun o u => ∃ v L, o = .returned v ∧ Q v u.heap L ∧ ReturnedEndW s o u L C S
abbrev CtrW (l : Launch) (Z : State) (y : MethodName) (bytes : ByteArray) (maxL : Nat) (ret : Option FieldType) (ws : List Jvm.Cond) (rm : Room) (C S : Nat) (as' : Array Value) (h0 : Heap) (Q : Option Value → Heap → List Loc → Prop) : Prop := MetFree l y (head1 (Jvm.Cond.code y bytes maxL ret :: ws) rm) (fun a U => a = as' ∧ Z.Warmed39 U.vm ∧ U.heap = h0) (fun _ _ _ _ _ => True) (fun _ U o U' => ∃ v L, o = .returned v ∧ Q v U'.heap L ∧ ReturnedEndW U o U' L C S)
theorem CtrW.of {y : MethodName} {bytes : ByteArray} {maxL : Nat} {ret : Option FieldType} {ws : List Jvm.Cond} {rm : Room} {C S : Nat} {as' : Array Value} {h0 : Heap} {Q : Option Value → Heap → List Loc → Prop} (hpn : plainFor y = true)
    (body : ∀ (p : Program) (e : Env) (s : State) (m : MethodId) (below : List Frame) (meth : Method) (c : Code) (s₁ : State), p.tables.exec = Jvm.exec → c.code = bytes → c.maxLocals = maxL → s.vm.findClass y.cls = some m.cls → meth.name = y.name → meth.sig.returnType = ret → meth.locks = false → Z.Warmed39 s.vm → Stand p l e rm (s.setVm s.vm) m as' below meth c s₁ [] 0 0 → s₁.heap = h0 → s.Since s.vm s.heap.size → s.heap = h0 → Goes p e below (KW s C S Q) s₁ (entryFrame m as' maxL)) :
    CtrW l Z y bytes maxL ret ws rm C S as' h0 Q := by
  refine MetFree.of_bodySF hpn hisR ?_
  intro p e s m args below meth c s₁ Bd hml0 hP hK
  obtain ⟨rfl, hZ, hh⟩ := hP
  have hlk : meth.locks = false := BodyLoose.notSynchronized Bd
  exact body p e s m below meth c s₁ Bd.exec Bd.bytes hml0 (findClass_of_methodNamed Bd.named) (name_of_methodNamed Bd.named Bd.method).1 Bd.returns hlk hZ (Stand.of_body Bd) (by rw [← hh, Bd.state]; rfl) (State.WarmedH.since (State.WarmedH.refl s) _) hh
abbrev CtrI (l : Launch) (Z : State) (y : MethodName) (bytes : ByteArray) (maxL : Nat) (ret : Option FieldType) (ws : List Jvm.Cond) (rm : Room) (C S : Nat) (as' : Array Value) (h0 : Heap) (Q : Option Value → Heap → List Loc → Prop) : Prop := MetFree l y (head1 (Jvm.Cond.code y bytes maxL ret :: ws) rm) (fun a U => a = as' ∧ Z.Warmed39 U.vm ∧ U.heap = h0 ∧ U.vm.interned = Z.vm.interned) (fun _ _ _ _ _ => True) (fun _ U o U' => ∃ v L, o = .returned v ∧ Q v U'.heap L ∧ ReturnedEndW U o U' L C S)
theorem CtrI.of {y : MethodName} {bytes : ByteArray} {maxL : Nat} {ret : Option FieldType} {ws : List Jvm.Cond} {rm : Room} {C S : Nat} {as' : Array Value} {h0 : Heap} {Q : Option Value → Heap → List Loc → Prop} (hpn : plainFor y = true)
    (body : ∀ (p : Program) (e : Env) (s : State) (m : MethodId) (below : List Frame) (meth : Method) (c : Code) (s₁ : State), p.tables.exec = Jvm.exec → c.code = bytes → c.maxLocals = maxL → s.vm.findClass y.cls = some m.cls → meth.name = y.name → meth.sig.returnType = ret → meth.locks = false → Z.Warmed39 s.vm → Stand p l e rm (s.setVm s.vm) m as' below meth c s₁ [] 0 0 → s₁.heap = h0 → s.Since s.vm s.heap.size → s.heap = h0 → s.vm.interned = Z.vm.interned → Goes p e below (KW s C S Q) s₁ (entryFrame m as' maxL)) :
    CtrI l Z y bytes maxL ret ws rm C S as' h0 Q := by
  refine MetFree.of_bodySF hpn hisR ?_
  intro p e s m args below meth c s₁ Bd hml0 hP hK
  obtain ⟨rfl, hZ, hh, hint⟩ := hP
  have hlk : meth.locks = false := BodyLoose.notSynchronized Bd
  exact body p e s m below meth c s₁ Bd.exec Bd.bytes hml0 (findClass_of_methodNamed Bd.named) (name_of_methodNamed Bd.named Bd.method).1 Bd.returns hlk hZ (Stand.of_body Bd) (by rw [← hh, Bd.state]; rfl) (State.WarmedH.since (State.WarmedH.refl s) _) hh hint
theorem g_ldcS {vm0 : Vm} (X : Stand p l e R (s.setVm vm0) m args below meth c T locs cells slots) (hx : p.tables.exec = Jvm.exec) (hZ : Z.Warmed39 vm0) {own text : String} {ix : Nat} (hown : vm0.findClass own = some m.cls) (w : (Cond.stringLink own ix text).before a0 Z = true) (wS : ∀ a ∈ Bundle.stringAtoms, a.before a0 Z = true) (eT : T.heap = h) {k0 : Nat} (hS : s.Since vm0 k0) (hk : k0 ≤ h.size) (hd : decode c.code pc = .ok (.ldc ix, 2)) (hp : pc + 2 = pc') (n : Nat) (hn : 4 * text.toList.length ≤ n) (hbig : n ≤ 536870912) (hc : cells + 2 ≤ R.cells) (hl : slots + (n + 4) ≤ R.slots) (k : ∀ (a : Addr) (T' : State) (h' : Heap) (k1 : Nat), Stand p l e R (s.setVm T'.vm) m args below meth c T' locs (cells + 2) (slots + (n + 4)) → T'.heap = h' → Ext h h' → s.Since T'.vm k1 → k1 ≤ h'.size → Z.Warmed39 T'.vm → T'.vm.findClass own = some m.cls → Goes p e below K T' (mkF m pc' Ls (.ref a :: st))) : Goes p e below K T (mkF m pc Ls st) := by
  subst hp
  obtain ⟨a, T1, h1, k1, X1, e1, E1, S1, g1, Z1, o1, f1⟩ := ldcS X hx hZ hown w wS eT hS hk (g := mkF m pc Ls st) rfl hd hn hbig hc hl
  exact Goes.by' f1 (k a T1 h1 k1 X1 e1 E1 S1 g1 Z1 o1)
theorem g_ldcSV {vm0 : Vm} (X : Stand p l e R (s.setVm vm0) m args below meth c T locs cells slots) (hx : p.tables.exec = Jvm.exec) (hZ : Z.Warmed39 vm0) {own text : String} {ix : Nat} {Ts : List String} (hown : vm0.findClass own = some m.cls) (w : (Cond.stringLink own ix text).before a0 Z = true) (wS : ∀ a ∈ Bundle.stringAtoms, a.before a0 Z = true) (eT : T.heap = h) {k0 : Nat} (hS : s.Since vm0 k0) (hk : k0 ≤ h.size) (N : Fr s.heap.size locs) (hkeep : ∀ (b : Addr) (cl : Cell), Z.heap[b]? = some cl → s.heap[b]? = some cl) (I : IB Z vm0 Ts) (hnot : text ∉ Ts) (hh : Jvm.Lit.constHeld Z own ix) (hcw : Jvm.Lit.compactW.before a0 Z = true) (vs : List Value) (z : Int32) (ht : (∀ c ∈ text.toList, c.toNat < 256) ∧ text.toList.map (fun c => Value.int (Jvm.Lit.byteI c.toNat.toUInt16)) = vs) (hz : ¬ z < 0) (hl : z.toNatClampNeg = vs.length) (hd : decode c.code pc = .ok (.ldc ix, 2)) (hp : pc + 2 = pc') (n : Nat) (hn : 4 * text.toList.length ≤ n) (hbig : n ≤ 536870912) (hc : cells + 2 ≤ R.cells) (hl' : slots + (n + 4) ≤ R.slots) (k : ∀ (a : Addr) (T' : State) (h' : Heap) (k1 : Nat) (b : Addr) (cA : ClassId), Stand p l e R (s.setVm T'.vm) m args below meth c T' locs (cells + 2) (slots + (n + 4)) → T'.heap = h' → Ext h h' → s.Since T'.vm k1 → k1 ≤ h'.size → Z.Warmed39 T'.vm → T'.vm.findClass own = some m.cls → Exa Z h' a "java/lang/String" → Fld Z h' a "java/lang/String" "coder" "B" (.int 0) → Fld Z h' a "java/lang/String" "value" "[B" (.ref b) → Arv Z h' b cA .byte z vs (.int 0) → IB Z T'.vm (text :: Ts) → Goes p e below K T' (mkF m pc' Ls (.ref a :: st))) : Goes p e below K T (mkF m pc Ls st) := by
  subst hp
  obtain ⟨a, T1, h1, k1, b, cA, X1, e1, E1, S1, g1, Z1, o1, q1, q2, q3, q4, -, -, q5, f1⟩ := ldcSV X hx hZ hown w wS eT hS hk N hkeep I hnot hh hcw ht hz hl (g := mkF m pc Ls st) rfl hd hn hbig hc hl'
  exact Goes.by' f1 (k a T1 h1 k1 b cA X1 e1 E1 S1 g1 Z1 o1 q1 q2 q3 q4 q5)
theorem g_retNW {vm0 : Vm} (X : Stand p l e R (s.setVm vm0) m args below meth c T locs cells slots) (hx : p.tables.exec = Jvm.exec) {C S : Nat} {Q : Option Value → Heap → List Loc → Prop} {z : Int32} {t : FieldType} (ht : t = .boolean ∨ t = .byte ∨ t = .char ∨ t = .short) (hlk : meth.locks = false) (hret : meth.sig.returnType = some t) (eT : T.heap = h) {k0 : Nat} (hS : s.Since vm0 k0) (hk : k0 ≤ h.size) (hc : cells ≤ C) (hs : slots ≤ S) (hd : decode c.code pc = .ok (.ireturn, 1)) (hQ : Q (some (.int (nar t z))) h locs) : Goes p e below (KW s C S Q) T (mkF m pc Ls (.int z :: st)) := by
  subst eT
  obtain ⟨fs, hr, hrun, hended, q1, q2, q3, q4⟩ := X.leaveW hS hk (v := some (.int (nar t z))) (fun q => by rw [hret] at q; cases q) hlk
  exact ⟨_, _, retN X hx hret ht hd hr, hrun, hended, _, _, rfl, hQ, q1, q2, q3, q4.mono hc hs⟩
theorem g_callSW {vm0 : Vm} {k0 : Nat} (X : Stand p l e R (s.setVm vm0) m args below meth c T locs cells slots) (hx : p.tables.exec = Jvm.exec) (hZ : Z.Warmed39 vm0) {own : String} {ix : Nat} {y : MethodName} {bytes : ByteArray} {maxL : Nat} {ret : Option FieldType} {rm : Room} {as' : Array Value} {Q : Option Value → Heap → List Loc → Prop} (hown : vm0.findClass own = some m.cls) (w1 : (Cond.methodLink own ix y).before a0 Z = true) (w2 : (Cond.static y).before a0 Z = true) (w3 : (Cond.initialized y.cls).before a0 Z = true) (w4 : (Cond.code y bytes maxL ret).before a0 Z = true) (hy : y.cls ≠ "java/lang/invoke/MethodHandle" ∧ y.cls ≠ "java/lang/invoke/VarHandle") (eT : T.heap = h) (hS : s.Since vm0 k0) (hk : k0 ≤ h.size) (C : CtrW l Z y bytes maxL ret [] rm rm.cells rm.slots as' h Q) (hsz : Ls.size = c.maxLocals) (argsL rest : List Value) (has : argsL.toArray = as') (hlen : ∀ sig, parseMethodDescriptor y.desc = some sig → argsL.length = sig.parameters.length) (hst : st = argsL.reverse ++ rest) (hl : (rest.map fun v => v.category).sum + (maxL + 11) + rm.locals ≤ R.locals) (hf : rm.frames + 1 ≤ R.frames) (hc : cells + rm.cells ≤ R.cells) (hsl : slots + rm.slots ≤ R.slots) (hd : decode c.code pc = .ok (.invokestatic ix, 3)) (hp : pc + 3 = pc') (k : ∀ (T' : State) (v : Option Value) (L : List Loc) (k1 : Nat), Stand p l e R (s.setVm T'.vm) m args below meth c T' (locs ++ L) (cells + rm.cells) (slots + rm.slots) → Q v T'.heap L → s.Since T'.vm k1 → k1 ≤ T'.heap.size → Z.Warmed39 T'.vm → T'.vm.findClass own = some m.cls → Goes p e below K T' (mkF m pc' Ls (v.toList ++ rest))) : Goes p e below K T (mkF m pc Ls st) := by
  subst hp
  have hZ' : Z.Warmed39 (s.setVm vm0).vm := hZ
  obtain ⟨v, _, ⟨T1, L1, k1, n1⟩, -, X1, h2, g2, ⟨L, hQ, l1, y1, z1⟩, f1⟩ := callSS X hx (y := y) hown (mvT hZ' w1) (mvT hZ' w2) (mvT hZ' w3) (mvT hZ' w4) hy (backOfS (W := (rest.map fun v => v.category).sum) C hZ' w4 w3 hf hl) (g := mkF m pc Ls st) rfl hsz (argsL := argsL) (rest := rest) hlen hst (by show 2 * 0 + _ ≤ _; omega) hd (fun _ _ => ⟨has, eT, hc, hsl⟩)
  dsimp only [Pt.U, Pt.locs, Pt.cells, Pt.slots] at X1 l1 y1 z1 f1 hQ h2 g2
  subst l1 y1 z1
  obtain ⟨X2, S2, Z2, o2⟩ := rebS hS (by rw [eT]; exact hk) X1 h2 g2 hZ hown
  exact Goes.by' (fun _ q => f1.trans q) (k T1 v L _ X2 hQ S2 (Nat.le_refl _) Z2 o2)
theorem g_callIW {vm0 : Vm} {k0 : Nat} (X : Stand p l e R (s.setVm vm0) m args below meth c T locs cells slots) (hx : p.tables.exec = Jvm.exec) (hZ : Z.Warmed39 vm0) {own : String} {ix : Nat} {y : MethodName} {bytes : ByteArray} {maxL : Nat} {rm : Room} {as' : Array Value} {Q : Option Value → Heap → List Loc → Prop} (hy1 : y.name = "<init>") (hown : vm0.findClass own = some m.cls) (w1 : (Cond.methodLink own ix y).before a0 Z = true) (w2 : (Cond.instanceMethod y).before a0 Z = true) (w3 : (Cond.initialized y.cls).before a0 Z = true) (w4 : (Cond.code y bytes maxL none).before a0 Z = true) (hy : y.cls ≠ "java/lang/invoke/MethodHandle" ∧ y.cls ≠ "java/lang/invoke/VarHandle") (eT : T.heap = h) (hS : s.Since vm0 k0) (hk : k0 ≤ h.size) (C : CtrW l Z y bytes maxL none [] rm rm.cells rm.slots as' h Q) (hsz : Ls.size = c.maxLocals) (a : Addr) (argsL rest : List Value) (has : (.ref a :: argsL).toArray = as') (hlen : ∀ sig, parseMethodDescriptor y.desc = some sig → argsL.length = sig.parameters.length) (hst : st = argsL.reverse ++ .ref a :: rest) (hl : (rest.map fun v => v.category).sum + (maxL + 11) + rm.locals ≤ R.locals) (hf : rm.frames + 1 ≤ R.frames) (hc : cells + rm.cells ≤ R.cells) (hsl : slots + rm.slots ≤ R.slots) (hd : decode c.code pc = .ok (.invokespecial ix, 3)) (hp : pc + 3 = pc') (k : ∀ (T' : State) (v : Option Value) (L : List Loc) (k1 : Nat), Stand p l e R (s.setVm T'.vm) m args below meth c T' (locs ++ L) (cells + rm.cells) (slots + rm.slots) → Q v T'.heap L → s.Since T'.vm k1 → k1 ≤ T'.heap.size → Z.Warmed39 T'.vm → T'.vm.findClass own = some m.cls → Goes p e below K T' (mkF m pc' Ls (v.toList ++ rest))) : Goes p e below K T (mkF m pc Ls st) := by
  subst hp
  have hZ' : Z.Warmed39 (s.setVm vm0).vm := hZ
  obtain ⟨v, _, ⟨T1, L1, k1, n1⟩, -, X1, h2, g2, ⟨L, hQ, l1, y1, z1⟩, f1⟩ := X.specialBackS hx (y := y) hy1 hown (mvT hZ' w1) (mvT hZ' w2) (mvT hZ' w4) hy (backOfS (W := (rest.map fun v => v.category).sum) C hZ' w4 w3 hf hl) (g := mkF m pc Ls st) rfl hsz (Steps.refl _) (a := a) (argsL := argsL) (rest := rest) hlen hst (by show 2 * 0 + _ ≤ _; omega) hd (fun _ _ => ⟨has, eT, hc, hsl⟩)
  dsimp only [Pt.U, Pt.locs, Pt.cells, Pt.slots] at X1 l1 y1 z1 f1 hQ h2 g2
  subst l1 y1 z1
  obtain ⟨X2, S2, Z2, o2⟩ := rebS hS (by rw [eT]; exact hk) X1 h2 g2 hZ hown
  exact Goes.by' (fun _ q => f1.trans q) (k T1 v L _ X2 hQ S2 (Nat.le_refl _) Z2 o2)
theorem g_callVW {vm0 : Vm} {k0 : Nat} (X : Stand p l e R (s.setVm vm0) m args below meth c T locs cells slots) (hx : p.tables.exec = Jvm.exec) (hZ : Z.Warmed39 vm0) {own : String} {ix : Nat} {y : MethodName} {bytes : ByteArray} {maxL : Nat} {ret : Option FieldType} {rm : Room} {as' : Array Value} {Q : Option Value → Heap → List Loc → Prop} {C0 : String} (hown : vm0.findClass own = some m.cls) (w1 : (Cond.methodLink own ix y).before a0 Z = true) (w2 : (Cond.declares y).before a0 Z = true) (w5 : (Cond.selects C0 y y).before a0 Z = true) (w6 : (Cond.instanceMethod y).before a0 Z = true) (w3 : (Cond.initialized y.cls).before a0 Z = true) (w4 : (Cond.code y bytes maxL ret).before a0 Z = true) (hy : y.cls ≠ "java/lang/invoke/MethodHandle" ∧ y.cls ≠ "java/lang/invoke/VarHandle") (eT : T.heap = h) (hS : s.Since vm0 k0) (hk : k0 ≤ h.size) (a : Addr) (E : Exa Z h a C0) (C : CtrW l Z y bytes maxL ret [] rm rm.cells rm.slots as' h Q) (hsz : Ls.size = c.maxLocals) (argsL rest : List Value) (has : (.ref a :: argsL).toArray = as') (hlen : ∀ sig, parseMethodDescriptor y.desc = some sig → argsL.length = sig.parameters.length) (hst : st = argsL.reverse ++ .ref a :: rest) (hl : (rest.map fun v => v.category).sum + (maxL + 11) + rm.locals ≤ R.locals) (hf : rm.frames + 1 ≤ R.frames) (hc : cells + rm.cells ≤ R.cells) (hsl : slots + rm.slots ≤ R.slots) (hd : decode c.code pc = .ok (.invokevirtual ix, 3)) (hp : pc + 3 = pc') (k : ∀ (T' : State) (v : Option Value) (L : List Loc) (k1 : Nat), Stand p l e R (s.setVm T'.vm) m args below meth c T' (locs ++ L) (cells + rm.cells) (slots + rm.slots) → Q v T'.heap L → s.Since T'.vm k1 → k1 ≤ T'.heap.size → Z.Warmed39 T'.vm → T'.vm.findClass own = some m.cls → Goes p e below K T' (mkF m pc' Ls (v.toList ++ rest))) : Goes p e below K T (mkF m pc Ls st) := by
  subst hp
  have hZ' : Z.Warmed39 (s.setVm vm0).vm := hZ
  obtain ⟨cq, kq, qa, qb, qc⟩ := isOf hZ' eT E
  obtain ⟨v, _, ⟨T1, L1, k1, n1⟩, -, X1, h2, g2, ⟨L, hQ, l1, y1, z1⟩, f1⟩ := X.virtualBackS hx (y := y) (z := y) hown (mvT hZ' w1) (mvT hZ' w2) (notFace_of_selects (args := #[]) (mvT hZ' w5)) (mvT hZ' w5) (mvT hZ' w6) hy (backOfS (W := (rest.map fun v => v.category).sum) C hZ' w4 w3 hf hl) qa qc (g := mkF m pc Ls st) rfl hsz (Steps.refl _) (argsL := argsL) (rest := rest) hlen hst (by show 2 * 0 + _ ≤ _; omega) hd (fun _ _ => ⟨has, eT, hc, hsl⟩)
  dsimp only [Pt.U, Pt.locs, Pt.cells, Pt.slots] at X1 l1 y1 z1 f1 hQ h2 g2
  subst l1 y1 z1
  obtain ⟨X2, S2, Z2, o2⟩ := rebS hS (by rw [eT]; exact hk) X1 h2 g2 hZ hown
  exact Goes.by' (fun _ q => f1.trans q) (k T1 v L _ X2 hQ S2 (Nat.le_refl _) Z2 o2)
theorem g_retAW {vm0 : Vm} (X : Stand p l e R (s.setVm vm0) m args below meth c T locs cells slots) (hx : p.tables.exec = Jvm.exec) {C S : Nat} {Q : Option Value → Heap → List Loc → Prop} {v : Value} {t : FieldType} (hv : v.isRef = true) (ht : t.isReference = true) (hlk : meth.locks = false) (hret : meth.sig.returnType = some t) (eT : T.heap = h) {k0 : Nat} (hS : s.Since vm0 k0) (hk : k0 ≤ h.size) (hc : cells ≤ C) (hs : slots ≤ S) (hd : decode c.code pc = .ok (.areturn, 1)) (hQ : Q (some v) h locs) : Goes p e below (KW s C S Q) T (mkF m pc Ls (v :: st)) := by
  subst eT
  obtain ⟨fs, hr, hrun, hended, q1, q2, q3, q4⟩ := X.leaveW hS hk (v := some v) (fun q => by rw [hret] at q; cases q) hlk
  have hn : narrow t v = v := by cases v <;> simp [Value.isRef] at hv <;> cases t <;> simp [FieldType.isReference] at ht <;> rfl
  exact ⟨_, _, retOut X hx hret hn (Or.inr (Or.inr (Or.inr (Or.inr ⟨rfl, ht, hv⟩)))) hd hr, hrun, hended, _, _, rfl, hQ, q1, q2, q3, q4.mono hc hs⟩
theorem g_retW {vm0 : Vm} (X : Stand p l e R (s.setVm vm0) m args below meth c T locs cells slots) (hx : p.tables.exec = Jvm.exec) {C S : Nat} {Q : Option Value → Heap → List Loc → Prop} (hlk : meth.locks = false) (hret : meth.sig.returnType = none) (eT : T.heap = h) {k0 : Nat} (hS : s.Since vm0 k0) (hk : k0 ≤ h.size) (hc : cells ≤ C) (hs : slots ≤ S) (hd : decode c.code pc = .ok (.return_, 1)) (hQ : Q none h locs) : Goes p e below (KW s C S Q) T (mkF m pc Ls []) := by
  subst eT
  obtain ⟨fs, hr, hrun, hended, q1, q2, q3, q4⟩ := X.leaveW hS hk (v := none) (fun _ => rfl) hlk
  exact ⟨_, _, X.returnOut hx hret hd hr, hrun, hended, _, _, rfl, hQ, q1, q2, q3, q4.mono hc hs⟩
theorem own_ib {vm : Vm} (q : vm.interned = Z.vm.interned) : IB Z vm [] := ⟨#[], by simp [q], fun x hx => by simp at hx⟩
end OwnW
section OwnS
variable {p : Program} {l : Launch} {e : Env} {R : Room} {s : State} {m : MethodId} {args : Array Value} {below : List Frame} {meth : Method} {c : Code} {T : State} {locs : List Loc} {cells slots : Nat} {Z : State} {a0 : Array Value} {h : Heap} {K : Outcome → State → Prop} {pc pc' : Nat} {Ls : Array Slot} {st : List Value}
theorem own_nf {s : State} {y y' : MethodName} {args : Array Value} (n : NotFace s y') (hm : (Cond.instanceMethod y').before args s = true) (e : y'.cls = y.cls) : NotFace s y := fun r0 h0 => by
  obtain ⟨mk, methM, hnamed, -⟩ := Cond.instanceMethod_spec hm
  have h1 := findClass_of_methodNamed hnamed
  have h2 := findClass_of_methodNamed h0
  rw [e, h2] at h1
  obtain ⟨kr, k1, k2⟩ := n mk hnamed
  exact ⟨kr, by rw [Option.some.inj h1]; exact k1, k2⟩
theorem own_same {s : State} {y : MethodName} {args : Array Value} (hm : (Cond.instanceMethod y).before args s = true) (n : NotFace s y) (hy : y.cls ≠ "java/lang/invoke/MethodHandle" ∧ y.cls ≠ "java/lang/invoke/VarHandle") : (Cond.sameMethod y.cls y.cls y.name y.desc).before args s = true := by
  obtain ⟨mk, methM, hnamed, -⟩ := Cond.instanceMethod_spec hm
  have hf : s.methodFound? y.cls y.name y.desc = some mk := State.methodFound?_of_named hnamed hy
  obtain ⟨kr, k1, k2⟩ := n mk hnamed
  have hn2 : s.methodNamed? ⟨y.cls, y.name, y.desc⟩ = some mk := hnamed
  simp [Cond.before, Cond.holds, Cond.value, findClass_of_methodNamed hnamed, hf, hn2, k1, k2]
theorem g_callU (X : Stand p l e R s m args below meth c T locs cells slots) (hx : p.tables.exec = Jvm.exec) (hZ : Z.Warmed39 s.vm) {own : String} {ix : Nat} {y : MethodName} {bytes : ByteArray} {maxL : Nat} {ret : Option FieldType} {rm : Room} {as' : Array Value} {Q : Option Value → Heap → List Loc → Prop} {C0 C1 : String} {y' : MethodName} (hown : s.vm.findClass own = some m.cls) (w1 : (Cond.methodLink own ix y).before a0 Z = true) (w6 : (Cond.instanceMethod y).before a0 Z = true) (ws : (Cond.superclass own y.cls).before a0 Z = true) (w5 : (Cond.selects C1 y' y').before a0 Z = true) (w7 : (Cond.instanceMethod y').before a0 Z = true) (ey : y'.cls = y.cls) (w3 : (Cond.initialized y.cls).before a0 Z = true) (w4 : (Cond.code y bytes maxL ret).before a0 Z = true) (hn : y.name ≠ "<init>") (hy : y.cls ≠ "java/lang/invoke/MethodHandle" ∧ y.cls ≠ "java/lang/invoke/VarHandle") (eT : T.heap = h) (a : Addr) (E : Exa Z h a C0) (C : Ctr l Z y bytes maxL ret [] rm rm.cells rm.slots as' h Q) (hsz : Ls.size = c.maxLocals) (argsL rest : List Value) (has : (.ref a :: argsL).toArray = as') (hlen : ∀ sig, parseMethodDescriptor y.desc = some sig → argsL.length = sig.parameters.length) (hst : st = argsL.reverse ++ .ref a :: rest) (hl : (rest.map fun v => v.category).sum + (maxL + 11) + rm.locals ≤ R.locals) (hf : rm.frames + 1 ≤ R.frames) (hc : cells + rm.cells ≤ R.cells) (hsl : slots + rm.slots ≤ R.slots) (hd : decode c.code pc = .ok (.invokespecial ix, 3)) (hp : pc + 3 = pc') (k : ∀ T' v L, Stand p l e R s m args below meth c T' (locs ++ L) (cells + rm.cells) (slots + rm.slots) → Q v T'.heap L → Goes p e below K T' (mkF m pc' Ls (v.toList ++ rest))) : Goes p e below K T (mkF m pc Ls st) := by
  subst hp
  have w2 := own_same (args := a0) w6 (own_nf (args := a0) (notFace_of_selects (args := a0) w5) w7 ey) hy
  obtain ⟨v, _, ⟨T1, L1, k1, n1⟩, -, X1, ⟨L, hQ, l1, y1, z1⟩, f1⟩ := superBack X hx hZ hown w1 w2 w6 ws hn (backOf (W := (rest.map fun v => v.category).sum) C hZ w4 w3 hf hl) eT (Ins.self E) (g := mkF m pc Ls st) rfl hsz w4 (argsL := argsL) (rest := rest) hlen hst (by show 2 * 0 + _ ≤ _; omega) hd (fun _ _ => ⟨has, eT, hc, hsl⟩)
  dsimp only [Pt.U, Pt.locs, Pt.cells, Pt.slots] at X1 l1 y1 z1 f1 hQ
  subst l1 y1 z1
  exact Goes.by' (fun _ q => f1.trans q) (k T1 v L X1 hQ)
theorem g_callV2 (X : Stand p l e R s m args below meth c T locs cells slots) (hx : p.tables.exec = Jvm.exec) (hZ : Z.Warmed39 s.vm) {own : String} {ix : Nat} {y : MethodName} {bytes : ByteArray} {maxL : Nat} {ret : Option FieldType} {rm : Room} {as' : Array Value} {Q : Option Value → Heap → List Loc → Prop} {C0 C1 : String} {yy y' : MethodName} (hown : s.vm.findClass own = some m.cls) (w1 : (Cond.methodLink own ix yy).before a0 Z = true) (w2 : (Cond.declares yy).before a0 Z = true) (w5 : (Cond.selects C0 yy y).before a0 Z = true) (wn : (Cond.selects C1 y' y').before a0 Z = true) (w7 : (Cond.instanceMethod y').before a0 Z = true) (ey : y'.cls = yy.cls) (w6 : (Cond.instanceMethod y).before a0 Z = true) (w3 : (Cond.initialized y.cls).before a0 Z = true) (w4 : (Cond.code y bytes maxL ret).before a0 Z = true) (hy : yy.cls ≠ "java/lang/invoke/MethodHandle" ∧ yy.cls ≠ "java/lang/invoke/VarHandle") (eT : T.heap = h) (a : Addr) (E : Exa Z h a C0) (C : Ctr l Z y bytes maxL ret [] rm rm.cells rm.slots as' h Q) (hsz : Ls.size = c.maxLocals) (argsL rest : List Value) (has : (.ref a :: argsL).toArray = as') (hlen : ∀ sig, parseMethodDescriptor yy.desc = some sig → argsL.length = sig.parameters.length) (hst : st = argsL.reverse ++ .ref a :: rest) (hl : (rest.map fun v => v.category).sum + (maxL + 11) + rm.locals ≤ R.locals) (hf : rm.frames + 1 ≤ R.frames) (hc : cells + rm.cells ≤ R.cells) (hsl : slots + rm.slots ≤ R.slots) (hd : decode c.code pc = .ok (.invokevirtual ix, 3)) (hp : pc + 3 = pc') (k : ∀ T' v L, Stand p l e R s m args below meth c T' (locs ++ L) (cells + rm.cells) (slots + rm.slots) → Q v T'.heap L → Goes p e below K T' (mkF m pc' Ls (v.toList ++ rest))) : Goes p e below K T (mkF m pc Ls st) := by
  subst hp
  obtain ⟨cq, kq, qa, qb, qc⟩ := isOf hZ eT E
  have nf : NotFace s yy := own_nf (args := #[]) (notFace_of_selects (args := #[]) (mvT hZ wn)) (mvT hZ w7) ey
  obtain ⟨v, _, ⟨T1, L1, k1, n1⟩, -, X1, ⟨L, hQ, l1, y1, z1⟩, f1⟩ := X.virtualBack hx (y := yy) (z := y) hown (mvT hZ w1) (mvT hZ w2) nf (mvT hZ w5) (mvT hZ w6) hy (backOf (W := (rest.map fun v => v.category).sum) C hZ w4 w3 hf hl) qa qc (g := mkF m pc Ls st) rfl hsz (Steps.refl _) (argsL := argsL) (rest := rest) hlen hst (by show 2 * 0 + _ ≤ _; omega) hd (fun _ _ => ⟨has, eT, hc, hsl⟩)
  dsimp only [Pt.U, Pt.locs, Pt.cells, Pt.slots] at X1 l1 y1 z1 f1 hQ
  subst l1 y1 z1
  exact Goes.by' (fun _ q => f1.trans q) (k T1 v L X1 hQ)
theorem g_callP2 (X : Stand p l e R s m args below meth c T locs cells slots) (hx : p.tables.exec = Jvm.exec) (hZ : Z.Warmed39 s.vm) {own : String} {ix : Nat} {y : MethodName} {bytes : ByteArray} {maxL : Nat} {ret : Option FieldType} {rm : Room} {as' : Array Value} {Q : Option Value → Heap → List Loc → Prop} {C0 C1 : String} (hown : s.vm.findClass own = some m.cls) (w1 : (Cond.methodLink own ix y).before a0 Z = true) (w5 : (Cond.selects C1 y y).before a0 Z = true) (wp : (Cond.privateMethod y).before a0 Z = true) (w6 : (Cond.instanceMethod y).before a0 Z = true) (w3 : (Cond.initialized y.cls).before a0 Z = true) (w4 : (Cond.code y bytes maxL ret).before a0 Z = true) (hy : y.cls ≠ "java/lang/invoke/MethodHandle" ∧ y.cls ≠ "java/lang/invoke/VarHandle") (eT : T.heap = h) (a : Addr) (E : Exa Z h a C0) (C : Ctr l Z y bytes maxL ret [] rm rm.cells rm.slots as' h Q) (hsz : Ls.size = c.maxLocals) (argsL rest : List Value) (has : (.ref a :: argsL).toArray = as') (hlen : ∀ sig, parseMethodDescriptor y.desc = some sig → argsL.length = sig.parameters.length) (hst : st = argsL.reverse ++ .ref a :: rest) (hl : (rest.map fun v => v.category).sum + (maxL + 11) + rm.locals ≤ R.locals) (hf : rm.frames + 1 ≤ R.frames) (hc : cells + rm.cells ≤ R.cells) (hsl : slots + rm.slots ≤ R.slots) (hd : decode c.code pc = .ok (.invokevirtual ix, 3)) (hp : pc + 3 = pc') (k : ∀ T' v L, Stand p l e R s m args below meth c T' (locs ++ L) (cells + rm.cells) (slots + rm.slots) → Q v T'.heap L → Goes p e below K T' (mkF m pc' Ls (v.toList ++ rest))) : Goes p e below K T (mkF m pc Ls st) := by
  subst hp
  obtain ⟨cell, hcell, hobj⟩ := E.cell
  have nf : NotFace s y := notFace_of_selects (args := #[]) (mvT hZ w5)
  have w6' : (Cond.instanceMethod y).before args s = true := mvT hZ w6
  obtain ⟨mk, methM, hnamed, -⟩ := Cond.instanceMethod_spec w6'
  obtain ⟨k1, i2, hni⟩ := nf mk hnamed
  have hpv : s.PrivateAt y := Cond.privateMethod_at (mvP hZ wp (args := #[]))
  have hsel : (Cond.selects y.cls y y).before args s = true := Jvm.Stand.selects_self_of_private (findClass_of_methodNamed hnamed) i2 hni hpv (mvT hZ w6) hy
  obtain ⟨v, _, ⟨T1, L1, k1, n1⟩, -, X1, ⟨L, hQ, l1, y1, z1⟩, f1⟩ := X.privateBack hx (y := y) hown (mvT hZ w1) (mvT hZ w6) hsel hpv (mvT hZ w4) hy (backOf (W := (rest.map fun v => v.category).sum) C hZ w4 w3 hf hl) (g := mkF m pc Ls st) rfl hsz (Steps.refl _) (a := a) (by rw [eT]; exact hcell) hobj (argsL := argsL) (rest := rest) hlen hst (by show 2 * 0 + _ ≤ _; omega) hd (fun _ _ => ⟨has, eT, hc, hsl⟩)
  dsimp only [Pt.U, Pt.locs, Pt.cells, Pt.slots] at X1 l1 y1 z1 f1 hQ
  subst l1 y1 z1
  exact Goes.by' (fun _ q => f1.trans q) (k T1 v L X1 hQ)
theorem own_arv {b : Addr} {n : Nat} {f : Nat → Int32} (A : ArI Z h b .byte n f) (hn : n < 2147483648) (hf : ∀ i, i < n → fits .byte (.int (f i)) = true) : ∃ k, Arv Z h b k .byte n.toInt32 ((List.range n).map fun i => .int (f i)) (.int 0) := by
  obtain ⟨c, A, S, H⟩ := A
  have e : (n.toInt32).toInt = (n : Int) := len_toInt (by omega)
  have e2 : n.toInt32.toNatClampNeg = n := by show n.toInt32.toInt.toNat = n; rw [e]; rfl
  refine ⟨c.cls, c, A, rfl, by rw [e2]; exact S, fun q => ?_, fun i hi => ?_, fun i hi => ?_⟩
  · rw [Int32.lt_iff_toInt_lt, e, show (0 : Int32).toInt = 0 from rfl] at q; omega
  · rw [S] at hi; rw [H i hi]; simp [List.getD_eq_getElem?_getD, hi]
  · rw [S] at hi; simp [List.getD_eq_getElem?_getD, hi]; exact hf i hi
theorem own_spl (f g : Nat → Int32) (n sp dp nn j : Nat) (h5 : dp + nn ≤ n) (us : List Value) (hus : us = (List.range nn).map fun i => Value.int (f (sp + i))) (hj : j < n) : ((((List.range n).map fun i => Value.int (g i)).take dp) ++ us ++ (((List.range n).map fun i => Value.int (g i)).drop (dp + nn))).getD j (.int 0) = .int (if dp ≤ j ∧ j < dp + nn then f (sp + (j - dp)) else g j) := by
  have ul : us.length = nn := by rw [hus]; simp
  have lt : (((List.range n).map fun i => Value.int (g i)).take dp).length = dp := by simp; omega
  rw [List.getD_eq_getElem?_getD]
  by_cases c1 : j < dp
  · rw [if_neg (by omega), List.append_assoc, List.getElem?_append_left (by omega), List.getElem?_take_of_lt c1]; simp [hj]
  · by_cases c2 : j < dp + nn
    · rw [if_pos ⟨by omega, c2⟩, List.getElem?_append_left (by rw [List.length_append]; omega), List.getElem?_append_right (by omega), lt, hus]; simp [show j - dp < nn by omega]
    · rw [if_neg (by omega), List.getElem?_append_right (by rw [List.length_append]; omega), List.length_append, lt, ul, List.getElem?_drop, show dp + nn + (j - (dp + nn)) = j by omega]; simp [hj]
theorem g_acopy (X : Stand p l e R s m args below meth c T locs cells slots) (hx : p.tables.exec = Jvm.exec) (hZ : Z.Warmed39 s.vm) {own : String} {ix n n' sp dp nn n0 : Nat} {a b : Addr} {f f' : Nat → Int32} {spi dpi nni : Int32} (hown : s.vm.findClass own = some m.cls) (w1 : (Cond.methodLink own ix Jvm.Stand.acN).before a0 Z = true) (w2 : (Cond.native Jvm.Stand.acN).before a0 Z = true) (w3 : (Cond.static Jvm.Stand.acN).before a0 Z = true) (w4 : (Cond.initialized "java/lang/System").before a0 Z = true) (eT : T.heap = h) (A : ArI Z h a .byte n f) (hf : ∀ i, i < n → fits .byte (.int (f i)) = true) (B : ArI Z h b .byte n' f') (hf' : ∀ i, i < n' → fits .byte (.int (f' i)) = true) (hn : n < 2147483648) (hn' : n' < 2147483648) (e1 : spi = sp.toInt32) (e2 : dpi = dp.toInt32) (e3 : nni = nn.toInt32) (h4 : sp + nn ≤ n) (h5 : dp + nn ≤ n') (N : Fr n0 locs) (ge : n0 ≤ b) (hsz : Ls.size = c.maxLocals) (hfr : 1 ≤ R.frames) (hlo : (st.map fun v => v.category).sum + (nativeFrameWords "java/lang/System" "arraycopy" 5 + 11) ≤ R.locals) (hd : decode c.code pc = .ok (.invokestatic ix, 3)) (hp : pc + 3 = pc') (k : ∀ T' h' L, Stand p l e R s m args below meth c T' L cells slots → T'.heap = h' → Fr n0 L → Keep h h' [b] → ArI Z h' b .byte n' (fun j => if dp ≤ j ∧ j < dp + nn then f (sp + (j - dp)) else f' j) → Goes p e below K T' (mkF m pc' Ls st)) : Goes p e below K T (mkF m pc Ls (.int nni :: .int dpi :: .ref b :: .int spi :: .ref a :: st)) := by
  subst hp e1 e2 e3
  have tn : ∀ q : Nat, q < 2147483648 → q.toInt32.toNatClampNeg = q ∧ ¬ q.toInt32 < 0 := fun q hq => by
    have e : (q.toInt32).toInt = (q : Int) := len_toInt (by omega)
    refine ⟨by show q.toInt32.toInt.toNat = q; rw [e]; rfl, fun z => ?_⟩
    rw [Int32.lt_iff_toInt_lt, e, show (0 : Int32).toInt = 0 from rfl] at z; omega
  obtain ⟨ks, As⟩ := own_arv A hn hf
  obtain ⟨kd, Ad⟩ := own_arv B hn' hf'
  obtain ⟨tsp, nsp⟩ := tn sp (by omega)
  obtain ⟨tdp, ndp⟩ := tn dp (by omega)
  obtain ⟨tnn, nnn⟩ := tn nn (by omega)
  obtain ⟨T1, h1, L1, X1, eh, N1, K1, A1, f1⟩ := cpA X hx hZ hown w1 w2 w3 w4 eT As Ad (Or.inl ⟨rfl, rfl⟩) nsp ndp nnn (by rw [tsp, tnn, (tn n hn).1]; exact h4) (by rw [tdp, tnn, (tn n' hn').1]; exact h5) rfl (by rw [tdp, tnn]; simpa using h5) N ge (g := mkF m pc Ls (.int nn.toInt32 :: .int dp.toInt32 :: .ref b :: .int sp.toInt32 :: .ref a :: st)) rfl hsz rfl hd hfr (W := (st.map fun v => v.category).sum) (by show 2 * 0 + _ ≤ _; omega) hlo
  refine Goes.by' f1 (k T1 h1 L1 X1 eh N1 K1 ?_)
  obtain ⟨cl, A2, -, S2, -, H2, -⟩ := A1
  rw [(tn n' hn').1] at S2
  refine ⟨cl, A2, S2, fun j hj => ?_⟩
  rw [H2 j (by rw [S2]; exact hj), tdp, tnn, tsp]
  rw [own_spl f f' n' sp dp nn j h5 _ ?_ hj]
  apply List.map_congr_left
  intro i hi
  have := List.mem_range.mp hi
  simp [List.getD_eq_getElem?_getD, show sp + i < n by omega]
abbrev KH (Z : State) (EL : List (String × Nat)) (s : State) (C S : Nat) (Q : Option Value → Heap → List Loc → Prop) : Outcome → State → Prop := fun o u => ∃ v L, o = .returned v ∧ Q v u.heap L ∧ CHr Z EL s.vm s.heap u.vm u.heap ∧ ReturnedEndW s o u L C S
abbrev CtrH (l : Launch) (Z : State) (EL : List (String × Nat)) (y : MethodName) (bytes : ByteArray) (maxL : Nat) (ret : Option FieldType) (ws : List Jvm.Cond) (rm : Room) (C S : Nat) (as' : Array Value) (h0 : Heap) (Q : Option Value → Heap → List Loc → Prop) : Prop := MetFree l y (head1 (Jvm.Cond.code y bytes maxL ret :: ws) rm) (fun a U => a = as' ∧ Z.Warmed39 U.vm ∧ U.heap = h0 ∧ CHv Z EL U.vm h0) (fun _ _ _ _ _ => True) (fun _ U o U' => ∃ v L, o = .returned v ∧ Q v U'.heap L ∧ CHr Z EL U.vm U.heap U'.vm U'.heap ∧ ReturnedEndW U o U' L C S)
theorem CtrH.of {y : MethodName} {bytes : ByteArray} {maxL : Nat} {ret : Option FieldType} {ws : List Jvm.Cond} {rm : Room} {C S : Nat} {as' : Array Value} {h0 : Heap} {Q : Option Value → Heap → List Loc → Prop} {EL : List (String × Nat)} (hpn : plainFor y = true)
    (body : ∀ (p : Program) (e : Env) (s : State) (m : MethodId) (below : List Frame) (meth : Method) (c : Code) (s₁ : State), p.tables.exec = Jvm.exec → c.code = bytes → c.maxLocals = maxL → s.vm.findClass y.cls = some m.cls → meth.name = y.name → meth.sig.returnType = ret → meth.locks = false → Z.Warmed39 s.vm → Stand p l e rm (s.setVm s.vm) m as' below meth c s₁ [] 0 0 → s₁.heap = h0 → s.Since s.vm s.heap.size → s.heap = h0 → CHv Z EL s.vm h0 → Goes p e below (KH Z EL s C S Q) s₁ (entryFrame m as' maxL)) :
    CtrH l Z EL y bytes maxL ret ws rm C S as' h0 Q := by
  refine MetFree.of_bodySF hpn hisR ?_
  intro p e s m args below meth c s₁ Bd hml0 hP hK
  obtain ⟨rfl, hZ, hh, hint⟩ := hP
  have hlk : meth.locks = false := BodyLoose.notSynchronized Bd
  exact body p e s m below meth c s₁ Bd.exec Bd.bytes hml0 (findClass_of_methodNamed Bd.named) (name_of_methodNamed Bd.named Bd.method).1 Bd.returns hlk hZ (Stand.of_body Bd) (by rw [← hh, Bd.state]; rfl) (State.WarmedH.since (State.WarmedH.refl s) _) hh hint
abbrev CtrL (l : Launch) (Z : State) (EL : List (String × Nat)) (y : MethodName) (bytes : ByteArray) (maxL : Nat) (ret : Option FieldType) (ws : List Jvm.Cond) (rm : Room) (C S : Nat) (as' : Array Value) (h0 : Heap) (Q : Option Value → Heap → List Loc → Prop) : Prop := MetFree l y (head1 (Jvm.Cond.code y bytes maxL ret :: ws) rm) (fun a U => a = as' ∧ Z.Warmed39 U.vm ∧ U.heap = h0 ∧ CHv Z EL U.vm h0) (fun _ _ _ _ _ => True) (fun _ U o U' => ∃ v L, o = .returned v ∧ Q v U'.heap L ∧ ReturnedEndW U o U' L C S)
theorem CtrL.of {y : MethodName} {bytes : ByteArray} {maxL : Nat} {ret : Option FieldType} {ws : List Jvm.Cond} {rm : Room} {C S : Nat} {as' : Array Value} {h0 : Heap} {Q : Option Value → Heap → List Loc → Prop} {EL : List (String × Nat)} (hpn : plainFor y = true)
    (body : ∀ (p : Program) (e : Env) (s : State) (m : MethodId) (below : List Frame) (meth : Method) (c : Code) (s₁ : State), p.tables.exec = Jvm.exec → c.code = bytes → c.maxLocals = maxL → s.vm.findClass y.cls = some m.cls → meth.name = y.name → meth.sig.returnType = ret → meth.locks = false → Z.Warmed39 s.vm → Stand p l e rm (s.setVm s.vm) m as' below meth c s₁ [] 0 0 → s₁.heap = h0 → s.Since s.vm s.heap.size → s.heap = h0 → CHv Z EL s.vm h0 → Goes p e below (KW s C S Q) s₁ (entryFrame m as' maxL)) :
    CtrL l Z EL y bytes maxL ret ws rm C S as' h0 Q := by
  refine MetFree.of_bodySF hpn hisR ?_
  intro p e s m args below meth c s₁ Bd hml0 hP hK
  obtain ⟨rfl, hZ, hh, hint⟩ := hP
  have hlk : meth.locks = false := BodyLoose.notSynchronized Bd
  exact body p e s m below meth c s₁ Bd.exec Bd.bytes hml0 (findClass_of_methodNamed Bd.named) (name_of_methodNamed Bd.named Bd.method).1 Bd.returns hlk hZ (Stand.of_body Bd) (by rw [← hh, Bd.state]; rfl) (State.WarmedH.since (State.WarmedH.refl s) _) hh hint
theorem g_retAH {vm0 : Vm} {EL : List (String × Nat)} (X : Stand p l e R (s.setVm vm0) m args below meth c T locs cells slots) (hx : p.tables.exec = Jvm.exec) {C S : Nat} {Q : Option Value → Heap → List Loc → Prop} {v : Value} {t : FieldType} (hv : v.isRef = true) (ht : t.isReference = true) (hlk : meth.locks = false) (hret : meth.sig.returnType = some t) (eT : T.heap = h) {k0 : Nat} (hS : s.Since vm0 k0) (hk : k0 ≤ h.size) (hZ : Z.Warmed39 vm0) (hEL : EW Z a0 EL) (HR : CHr Z EL s.vm s.heap vm0 h) (hc : cells ≤ C) (hs : slots ≤ S) (hd : decode c.code pc = .ok (.areturn, 1)) (hQ : Q (some v) h locs) : Goes p e below (KH Z EL s C S Q) T (mkF m pc Ls (v :: st)) := by
  subst eT
  obtain ⟨fs, hr, hrun, hended, q1, q2, q3, q4⟩ := X.leaveW hS hk (v := some v) (fun q => by rw [hret] at q; cases q) hlk
  have hn : narrow t v = v := by cases v <;> simp [Value.isRef] at hv <;> cases t <;> simp [FieldType.isReference] at ht <;> rfl
  exact ⟨_, _, retOut X hx hret hn (Or.inr (Or.inr (Or.inr (Or.inr ⟨rfl, ht, hv⟩)))) hd hr, hrun, hended, _, _, rfl, hQ, (show CHr Z EL s.vm s.heap T.vm T.heap from HR.trans (CHv.at X hZ hEL HR.1)), q1, q2, q3, q4.mono hc hs⟩
theorem g_ldcCH {vm0 : Vm} {EL : List (String × Nat)} (X : Stand p l e R (s.setVm vm0) m args below meth c T locs cells slots) (hx : p.tables.exec = Jvm.exec) (hZ : Z.Warmed39 vm0) {own text : String} {ix : Nat} (hown : vm0.findClass own = some m.cls) (w : (Cond.stringLink own ix text).before a0 Z = true) (wS : ∀ a ∈ Bundle.stringAtoms, a.before a0 Z = true) (eT : T.heap = h) {k0 : Nat} (hS : s.Since vm0 k0) (hk : k0 ≤ h.size) (hEL : EW Z a0 EL) (hmem : (own, ix) ∈ EL) (H : CHv Z EL vm0 h) (vs : List Value) (z : Int32) (ht : (∀ c ∈ text.toList, c.toNat < 256) ∧ text.toList.map (fun c => Value.int (Jvm.Lit.byteI c.toNat.toUInt16)) = vs) (hz : ¬ z < 0) (hl : z.toNatClampNeg = vs.length) (hd : decode c.code pc = .ok (.ldc ix, 2)) (hp : pc + 2 = pc') (n : Nat) (hn : 4 * text.toList.length ≤ n) (hbig : n ≤ 536870912) (hc : cells + 2 ≤ R.cells) (hl' : slots + (n + 4) ≤ R.slots) (k : ∀ (a : Addr) (T' : State) (h' : Heap) (k1 : Nat) (b : Addr) (cA : ClassId), Stand p l e R (s.setVm T'.vm) m args below meth c T' locs (cells + 2) (slots + (n + 4)) → T'.heap = h' → Ext h h' → s.Since T'.vm k1 → k1 ≤ h'.size → Z.Warmed39 T'.vm → T'.vm.findClass own = some m.cls → Exa Z h' a "java/lang/String" → Fld Z h' a "java/lang/String" "coder" "B" (.int 0) → Fld Z h' a "java/lang/String" "value" "[B" (.ref b) → Arv Z h' b cA .byte z vs (.int 0) → CHr Z EL vm0 h T'.vm h' → (∀ x, Safe Z EL T'.vm h' x → x ≠ a ∧ x ≠ b) → Goes p e below K T' (mkF m pc' Ls (.ref a :: st))) : Goes p e below K T (mkF m pc Ls st) := by
  subst hp
  obtain ⟨a, T1, h1, k1, b, cA, X1, e1, E1, S1, g1, Z1, o1, q1, q2, q3, q4, -, -, q5, -, q6, f1⟩ := ldcCH X hx hZ hown w wS eT hS hk hEL hmem H ht hz hl (g := mkF m pc Ls st) rfl hd hn hbig hc hl'
  exact Goes.by' f1 (k a T1 h1 k1 b cA X1 e1 E1 S1 g1 Z1 o1 q1 q2 q3 q4 q5 q6)
theorem g_callVH {EL : List (String × Nat)} {vm0 : Vm} {k0 : Nat} (X : Stand p l e R (s.setVm vm0) m args below meth c T locs cells slots) (hx : p.tables.exec = Jvm.exec) (hZ : Z.Warmed39 vm0) {own : String} {ix : Nat} {y : MethodName} {bytes : ByteArray} {maxL : Nat} {ret : Option FieldType} {rm : Room} {as' : Array Value} {Q : Option Value → Heap → List Loc → Prop} {C0 : String} (hown : vm0.findClass own = some m.cls) (w1 : (Cond.methodLink own ix y).before a0 Z = true) (w2 : (Cond.declares y).before a0 Z = true) (w5 : (Cond.selects C0 y y).before a0 Z = true) (w6 : (Cond.instanceMethod y).before a0 Z = true) (w3 : (Cond.initialized y.cls).before a0 Z = true) (w4 : (Cond.code y bytes maxL ret).before a0 Z = true) (hy : y.cls ≠ "java/lang/invoke/MethodHandle" ∧ y.cls ≠ "java/lang/invoke/VarHandle") (eT : T.heap = h) (hS : s.Since vm0 k0) (hk : k0 ≤ h.size) (hEL : EW Z a0 EL) (H : CHv Z EL vm0 h) (a : Addr) (E : Exa Z h a C0) (C : CtrH l Z EL y bytes maxL ret [] rm rm.cells rm.slots as' h Q) (hsz : Ls.size = c.maxLocals) (argsL rest : List Value) (has : (.ref a :: argsL).toArray = as') (hlen : ∀ sig, parseMethodDescriptor y.desc = some sig → argsL.length = sig.parameters.length) (hst : st = argsL.reverse ++ .ref a :: rest) (hl : (rest.map fun v => v.category).sum + (maxL + 11) + rm.locals ≤ R.locals) (hf : rm.frames + 1 ≤ R.frames) (hc : cells + rm.cells ≤ R.cells) (hsl : slots + rm.slots ≤ R.slots) (hd : decode c.code pc = .ok (.invokevirtual ix, 3)) (hp : pc + 3 = pc') (k : ∀ (T' : State) (v : Option Value) (L : List Loc) (k1 : Nat), Stand p l e R (s.setVm T'.vm) m args below meth c T' (locs ++ L) (cells + rm.cells) (slots + rm.slots) → Q v T'.heap L → CHr Z EL vm0 h T'.vm T'.heap → s.Since T'.vm k1 → k1 ≤ T'.heap.size → Z.Warmed39 T'.vm → T'.vm.findClass own = some m.cls → Goes p e below K T' (mkF m pc' Ls (v.toList ++ rest))) : Goes p e below K T (mkF m pc Ls st) := by
  subst hp
  have hZ' : Z.Warmed39 (s.setVm vm0).vm := hZ
  obtain ⟨cq, kq, qa, qb, qc⟩ := isOf hZ' eT E
  obtain ⟨v, _, ⟨T1, L1, k1, n1⟩, -, X1, h2, g2, ⟨L, hQ, l1, y1, z1, hR⟩, f1⟩ := X.virtualBackS hx (y := y) (z := y) hown (mvT hZ' w1) (mvT hZ' w2) (notFace_of_selects (args := #[]) (mvT hZ' w5)) (mvT hZ' w5) (mvT hZ' w6) hy (backOfSH (W := (rest.map fun v => v.category).sum) C hZ w4 w3 hf hl hEL H) qa qc (g := mkF m pc Ls st) rfl hsz (Steps.refl _) (argsL := argsL) (rest := rest) hlen hst (by show 2 * 0 + _ ≤ _; omega) hd (fun _ _ => ⟨has, eT, hc, hsl⟩)
  dsimp only [Pt.U, Pt.locs, Pt.cells, Pt.slots] at X1 l1 y1 z1 f1 hQ h2 g2 hR
  subst l1 y1 z1
  obtain ⟨X2, S2, Z2, o2⟩ := rebS hS (by rw [eT]; exact hk) X1 h2 g2 hZ hown
  exact Goes.by' (fun _ q => f1.trans q) (k T1 v L _ X2 hQ hR S2 (Nat.le_refl _) Z2 o2)
end OwnS
theorem own_fin {P : Int32 → Prop} (N : Nat) (hN : N ≤ 2 ^ 31) (hP : ∀ n : Fin N, P (Int32.ofNat n.val)) (d : Int32) (h0 : 0 ≤ d.toInt) (h1 : d.toInt < (N : Int)) : P d := by
  have e : d = Int32.ofNat d.toInt.toNat := by
    apply Int32.toInt_inj.mp
    rw [Int32.toInt_ofNat_of_lt (by omega)]
    omega
  rw [e]
  exact hP ⟨d.toInt.toNat, by omega⟩
theorem own_ltI {x y : Int32} : x < y ↔ x.toInt < y.toInt := Int32.lt_iff_toInt_lt
theorem own_nneg {i : Int32} (h : 0 ≤ i.toInt) : ¬ i < 0 := by rw [own_ltI, show (0 : Int32).toInt = 0 from rfl]; omega
theorem own_tnc (i : Int32) : i.toNatClampNeg = i.toInt.toNat := rfl
theorem own_inc {i : Int32} (h : i.toInt < 2147483647) : (i + 1).toInt = i.toInt + 1 := by
  have e := c_iadd i 1
  have r := rng32 (i + 1)
  have r2 := rng32 i
  rw [show (1 : Int32).toInt = 1 from rfl] at e
  omega
theorem own_rem (a m : Int32) (hm : 0 < m.toInt) : 0 ≤ ((a &&& 2147483647) % m).toInt ∧ ((a &&& 2147483647) % m).toInt < m.toInt := by
  have e1 := c_mask a 2147483647 31 (by decide) (by decide)
  have e2 := (c_iremV (a &&& 2147483647) m).1 (by rw [e1]; omega) hm
  exact ⟨e2.1, e2.2.1⟩
theorem cm_lt (x y : Int64) : XT.cmpL x y < 0 ↔ x < y := by unfold XT.cmpL; split <;> (try split) <;> simp_all [Int64.lt_iff_toInt_lt, ← Int64.toInt_inj] <;> omega
theorem cm_gt (x y : Int64) : 0 < XT.cmpL x y ↔ y < x := by unfold XT.cmpL; split <;> (try split) <;> simp_all [Int64.lt_iff_toInt_lt, ← Int64.toInt_inj] <;> omega
theorem cm_eq (x y : Int64) : XT.cmpL x y = 0 ↔ x = y := by unfold XT.cmpL; split <;> (try split) <;> simp_all [Int64.lt_iff_toInt_lt, ← Int64.toInt_inj] <;> omega
theorem own_b1 {P : Prop} [Decidable P] (q : P) : some (Value.int (nar .boolean 1)) = some (.int (if P then 1 else 0)) := by rw [if_pos q]; rfl
theorem own_b0 {P : Prop} [Decidable P] (q : ¬ P) : some (Value.int (nar .boolean 0)) = some (.int (if P then 1 else 0)) := by rw [if_neg q]; rfl
theorem d1_0 : decode jdk_42_method_139_code 0 = .ok (.getstatic 38, 3) := by decide +kernel
theorem d1_3 : decode jdk_42_method_139_code 3 = .ok (.ifCond .eq 23, 3) := by decide +kernel
theorem d1_6 : decode jdk_42_method_139_code 6 = .ok (.iload_n 0, 1) := by decide +kernel
theorem d1_7 : decode jdk_42_method_139_code 7 = .ok (.invokestatic 1015, 3) := by decide +kernel
theorem d1_10 : decode jdk_42_method_139_code 10 = .ok (.ifCond .eq 16, 3) := by decide +kernel
theorem d1_13 : decode jdk_42_method_139_code 13 = .ok (.new 10, 3) := by decide +kernel
theorem d1_16 : decode jdk_42_method_139_code 16 = .ok (.dup, 1) := by decide +kernel
theorem d1_17 : decode jdk_42_method_139_code 17 = .ok (.iload_n 0, 1) := by decide +kernel
theorem d1_18 : decode jdk_42_method_139_code 18 = .ok (.invokestatic 1018, 3) := by decide +kernel
theorem d1_21 : decode jdk_42_method_139_code 21 = .ok (.iconst 0, 1) := by decide +kernel
theorem d1_22 : decode jdk_42_method_139_code 22 = .ok (.invokespecial 209, 3) := by decide +kernel
theorem d1_25 : decode jdk_42_method_139_code 25 = .ok (.areturn, 1) := by decide +kernel
theorem d2_0 : decode jdk_43_method_3_code 0 = .ok (.iload_n 0, 1) := by decide +kernel
theorem d2_1 : decode jdk_43_method_3_code 1 = .ok (.sipush 255, 3) := by decide +kernel
theorem d2_4 : decode jdk_43_method_3_code 4 = .ok (.if_icmp .gt 7, 3) := by decide +kernel
theorem d2_7 : decode jdk_43_method_3_code 7 = .ok (.iconst 1, 1) := by decide +kernel
theorem d2_8 : decode jdk_43_method_3_code 8 = .ok (.goto 4, 3) := by decide +kernel
theorem d2_12 : decode jdk_43_method_3_code 12 = .ok (.ireturn, 1) := by decide +kernel
theorem d3_0 : decode jdk_43_method_46_code 0 = .ok (.iconst 1, 1) := by decide +kernel
theorem d3_1 : decode jdk_43_method_46_code 1 = .ok (.newarray .byte, 2) := by decide +kernel
theorem d3_3 : decode jdk_43_method_46_code 3 = .ok (.dup, 1) := by decide +kernel
theorem d3_4 : decode jdk_43_method_46_code 4 = .ok (.iconst 0, 1) := by decide +kernel
theorem d3_5 : decode jdk_43_method_46_code 5 = .ok (.iload_n 0, 1) := by decide +kernel
theorem d3_6 : decode jdk_43_method_46_code 6 = .ok (.i2b, 1) := by decide +kernel
theorem d3_7 : decode jdk_43_method_46_code 7 = .ok (.bastore, 1) := by decide +kernel
theorem d3_8 : decode jdk_43_method_46_code 8 = .ok (.areturn, 1) := by decide +kernel
theorem d4_0 : decode jdk_42_method_151_code 0 = .ok (.aload_n 0, 1) := by decide +kernel
theorem d4_1 : decode jdk_42_method_151_code 1 = .ok (.invokespecial 1, 3) := by decide +kernel
theorem d4_4 : decode jdk_42_method_151_code 4 = .ok (.aload_n 0, 1) := by decide +kernel
theorem d4_5 : decode jdk_42_method_151_code 5 = .ok (.aload_n 1, 1) := by decide +kernel
theorem d4_6 : decode jdk_42_method_151_code 6 = .ok (.putfield 9, 3) := by decide +kernel
theorem d4_9 : decode jdk_42_method_151_code 9 = .ok (.aload_n 0, 1) := by decide +kernel
theorem d4_10 : decode jdk_42_method_151_code 10 = .ok (.iload_n 2, 1) := by decide +kernel
theorem d4_11 : decode jdk_42_method_151_code 11 = .ok (.putfield 15, 3) := by decide +kernel
theorem d4_14 : decode jdk_42_method_151_code 14 = .ok (.return_, 1) := by decide +kernel
theorem d6_0 : decode prog_47_method_2_code 0 = .ok (.aload_n 0, 1) := by decide +kernel
theorem d6_1 : decode prog_47_method_2_code 1 = .ok (.invokespecial 7, 3) := by decide +kernel
theorem d6_4 : decode prog_47_method_2_code 4 = .ok (.aload_n 0, 1) := by decide +kernel
theorem d6_5 : decode prog_47_method_2_code 5 = .ok (.aload_n 1, 1) := by decide +kernel
theorem d6_6 : decode prog_47_method_2_code 6 = .ok (.putfield 12, 3) := by decide +kernel
theorem d6_9 : decode prog_47_method_2_code 9 = .ok (.aload_n 0, 1) := by decide +kernel
theorem d6_10 : decode prog_47_method_2_code 10 = .ok (.aload_n 2, 1) := by decide +kernel
theorem d6_11 : decode prog_47_method_2_code 11 = .ok (.putfield 16, 3) := by decide +kernel
theorem d6_14 : decode prog_47_method_2_code 14 = .ok (.aload_n 0, 1) := by decide +kernel
theorem d6_15 : decode prog_47_method_2_code 15 = .ok (.aload_n 3, 1) := by decide +kernel
theorem d6_16 : decode prog_47_method_2_code 16 = .ok (.putfield 19, 3) := by decide +kernel
theorem d6_19 : decode prog_47_method_2_code 19 = .ok (.return_, 1) := by decide +kernel
theorem d7_0 : decode prog_47_method_3_code 0 = .ok (.aload_n 1, 1) := by decide +kernel
theorem d7_1 : decode prog_47_method_3_code 1 = .ok (.ifnull 14, 3) := by decide +kernel
theorem d7_4 : decode prog_47_method_3_code 4 = .ok (.aload_n 1, 1) := by decide +kernel
theorem d7_5 : decode prog_47_method_3_code 5 = .ok (.aload_n 0, 1) := by decide +kernel
theorem d7_6 : decode prog_47_method_3_code 6 = .ok (.getfield 19, 3) := by decide +kernel
theorem d7_9 : decode prog_47_method_3_code 9 = .ok (.invokevirtual 22, 3) := by decide +kernel
theorem d7_12 : decode prog_47_method_3_code 12 = .ok (.ifCond .eq 7, 3) := by decide +kernel
theorem d7_15 : decode prog_47_method_3_code 15 = .ok (.aload_n 0, 1) := by decide +kernel
theorem d7_16 : decode prog_47_method_3_code 16 = .ok (.goto 19, 3) := by decide +kernel
theorem d7_19 : decode prog_47_method_3_code 19 = .ok (.new 2, 3) := by decide +kernel
theorem d7_22 : decode prog_47_method_3_code 22 = .ok (.dup, 1) := by decide +kernel
theorem d7_23 : decode prog_47_method_3_code 23 = .ok (.aload_n 0, 1) := by decide +kernel
theorem d7_24 : decode prog_47_method_3_code 24 = .ok (.getfield 12, 3) := by decide +kernel
theorem d7_27 : decode prog_47_method_3_code 27 = .ok (.aload_n 0, 1) := by decide +kernel
theorem d7_28 : decode prog_47_method_3_code 28 = .ok (.getfield 16, 3) := by decide +kernel
theorem d7_31 : decode prog_47_method_3_code 31 = .ok (.aload_n 1, 1) := by decide +kernel
theorem d7_32 : decode prog_47_method_3_code 32 = .ok (.invokespecial 1, 3) := by decide +kernel
theorem d7_35 : decode prog_47_method_3_code 35 = .ok (.areturn, 1) := by decide +kernel
theorem d8_0 : decode jdk_42_method_66_code 0 = .ok (.aload_n 0, 1) := by decide +kernel
theorem d8_1 : decode jdk_42_method_66_code 1 = .ok (.aload_n 1, 1) := by decide +kernel
theorem d8_2 : decode jdk_42_method_66_code 2 = .ok (.if_acmp .ne 5, 3) := by decide +kernel
theorem d8_7 : decode jdk_42_method_66_code 7 = .ok (.aload_n 1, 1) := by decide +kernel
theorem d8_8 : decode jdk_42_method_66_code 8 = .ok (.instanceof 10, 3) := by decide +kernel
theorem d8_11 : decode jdk_42_method_66_code 11 = .ok (.ifCond .eq 43, 3) := by decide +kernel
theorem d8_14 : decode jdk_42_method_66_code 14 = .ok (.aload_n 1, 1) := by decide +kernel
theorem d8_15 : decode jdk_42_method_66_code 15 = .ok (.checkcast 10, 3) := by decide +kernel
theorem d8_18 : decode jdk_42_method_66_code 18 = .ok (.astore_n 2, 1) := by decide +kernel
theorem d8_19 : decode jdk_42_method_66_code 19 = .ok (.getstatic 38, 3) := by decide +kernel
theorem d8_22 : decode jdk_42_method_66_code 22 = .ok (.ifCond .eq 14, 3) := by decide +kernel
theorem d8_25 : decode jdk_42_method_66_code 25 = .ok (.aload_n 0, 1) := by decide +kernel
theorem d8_26 : decode jdk_42_method_66_code 26 = .ok (.getfield 15, 3) := by decide +kernel
theorem d8_29 : decode jdk_42_method_66_code 29 = .ok (.aload_n 2, 1) := by decide +kernel
theorem d8_30 : decode jdk_42_method_66_code 30 = .ok (.getfield 15, 3) := by decide +kernel
theorem d8_33 : decode jdk_42_method_66_code 33 = .ok (.if_icmp .ne 21, 3) := by decide +kernel
theorem d8_36 : decode jdk_42_method_66_code 36 = .ok (.aload_n 0, 1) := by decide +kernel
theorem d8_37 : decode jdk_42_method_66_code 37 = .ok (.getfield 9, 3) := by decide +kernel
theorem d8_40 : decode jdk_42_method_66_code 40 = .ok (.aload_n 2, 1) := by decide +kernel
theorem d8_41 : decode jdk_42_method_66_code 41 = .ok (.getfield 9, 3) := by decide +kernel
theorem d8_44 : decode jdk_42_method_66_code 44 = .ok (.invokestatic 541, 3) := by decide +kernel
theorem d8_47 : decode jdk_42_method_66_code 47 = .ok (.ifCond .eq 7, 3) := by decide +kernel
theorem d8_50 : decode jdk_42_method_66_code 50 = .ok (.iconst 1, 1) := by decide +kernel
theorem d8_51 : decode jdk_42_method_66_code 51 = .ok (.goto 4, 3) := by decide +kernel
theorem d8_54 : decode jdk_42_method_66_code 54 = .ok (.iconst 0, 1) := by decide +kernel
theorem d8_55 : decode jdk_42_method_66_code 55 = .ok (.ireturn, 1) := by decide +kernel
theorem d9_0 : decode jdk_43_method_13_code 0 = .ok (.aload_n 0, 1) := by decide +kernel
theorem d9_1 : decode jdk_43_method_13_code 1 = .ok (.arraylength, 1) := by decide +kernel
theorem d9_2 : decode jdk_43_method_13_code 2 = .ok (.aload_n 1, 1) := by decide +kernel
theorem d9_3 : decode jdk_43_method_13_code 3 = .ok (.arraylength, 1) := by decide +kernel
theorem d9_4 : decode jdk_43_method_13_code 4 = .ok (.if_icmp .ne 30, 3) := by decide +kernel
theorem d9_7 : decode jdk_43_method_13_code 7 = .ok (.iconst 0, 1) := by decide +kernel
theorem d9_8 : decode jdk_43_method_13_code 8 = .ok (.istore_n 2, 1) := by decide +kernel
theorem d9_9 : decode jdk_43_method_13_code 9 = .ok (.iload_n 2, 1) := by decide +kernel
theorem d9_10 : decode jdk_43_method_13_code 10 = .ok (.aload_n 0, 1) := by decide +kernel
theorem d9_11 : decode jdk_43_method_13_code 11 = .ok (.arraylength, 1) := by decide +kernel
theorem d9_12 : decode jdk_43_method_13_code 12 = .ok (.if_icmp .ge 20, 3) := by decide +kernel
theorem d9_15 : decode jdk_43_method_13_code 15 = .ok (.aload_n 0, 1) := by decide +kernel
theorem d9_16 : decode jdk_43_method_13_code 16 = .ok (.iload_n 2, 1) := by decide +kernel
theorem d9_17 : decode jdk_43_method_13_code 17 = .ok (.baload, 1) := by decide +kernel
theorem d9_18 : decode jdk_43_method_13_code 18 = .ok (.aload_n 1, 1) := by decide +kernel
theorem d9_19 : decode jdk_43_method_13_code 19 = .ok (.iload_n 2, 1) := by decide +kernel
theorem d9_20 : decode jdk_43_method_13_code 20 = .ok (.baload, 1) := by decide +kernel
theorem d9_21 : decode jdk_43_method_13_code 21 = .ok (.if_icmp .eq 5, 3) := by decide +kernel
theorem d9_24 : decode jdk_43_method_13_code 24 = .ok (.iconst 0, 1) := by decide +kernel
theorem d9_25 : decode jdk_43_method_13_code 25 = .ok (.ireturn, 1) := by decide +kernel
theorem d9_26 : decode jdk_43_method_13_code 26 = .ok (.iinc 2 1, 3) := by decide +kernel
theorem d9_29 : decode jdk_43_method_13_code 29 = .ok (.goto (-20), 3) := by decide +kernel
theorem d9_32 : decode jdk_43_method_13_code 32 = .ok (.iconst 1, 1) := by decide +kernel
theorem d9_33 : decode jdk_43_method_13_code 33 = .ok (.ireturn, 1) := by decide +kernel
theorem d9_34 : decode jdk_43_method_13_code 34 = .ok (.iconst 0, 1) := by decide +kernel
theorem d9_35 : decode jdk_43_method_13_code 35 = .ok (.ireturn, 1) := by decide +kernel
theorem d10_0 : decode prog_47_method_4_code 0 = .ok (.aload_n 0, 1) := by decide +kernel
theorem d10_1 : decode prog_47_method_4_code 1 = .ok (.getfield 16, 3) := by decide +kernel
theorem d10_4 : decode prog_47_method_4_code 4 = .ok (.areturn, 1) := by decide +kernel
theorem d11_0 : decode prog_47_method_5_code 0 = .ok (.new 28, 3) := by decide +kernel
theorem d11_3 : decode prog_47_method_5_code 3 = .ok (.dup, 1) := by decide +kernel
theorem d11_4 : decode prog_47_method_5_code 4 = .ok (.invokespecial 30, 3) := by decide +kernel
theorem d11_7 : decode prog_47_method_5_code 7 = .ok (.aload_n 0, 1) := by decide +kernel
theorem d11_8 : decode prog_47_method_5_code 8 = .ok (.getfield 16, 3) := by decide +kernel
theorem d11_11 : decode prog_47_method_5_code 11 = .ok (.ifnonnull 10, 3) := by decide +kernel
theorem d11_14 : decode prog_47_method_5_code 14 = .ok (.aload_n 0, 1) := by decide +kernel
theorem d11_15 : decode prog_47_method_5_code 15 = .ok (.getfield 12, 3) := by decide +kernel
theorem d11_18 : decode prog_47_method_5_code 18 = .ok (.goto 32, 3) := by decide +kernel
theorem d11_21 : decode prog_47_method_5_code 21 = .ok (.new 28, 3) := by decide +kernel
theorem d11_24 : decode prog_47_method_5_code 24 = .ok (.dup, 1) := by decide +kernel
theorem d11_25 : decode prog_47_method_5_code 25 = .ok (.invokespecial 30, 3) := by decide +kernel
theorem d11_28 : decode prog_47_method_5_code 28 = .ok (.aload_n 0, 1) := by decide +kernel
theorem d11_29 : decode prog_47_method_5_code 29 = .ok (.getfield 12, 3) := by decide +kernel
theorem d11_32 : decode prog_47_method_5_code 32 = .ok (.invokevirtual 31, 3) := by decide +kernel
theorem d11_35 : decode prog_47_method_5_code 35 = .ok (.ldc 35, 2) := by decide +kernel
theorem d11_37 : decode prog_47_method_5_code 37 = .ok (.invokevirtual 31, 3) := by decide +kernel
theorem d11_40 : decode prog_47_method_5_code 40 = .ok (.aload_n 0, 1) := by decide +kernel
theorem d11_41 : decode prog_47_method_5_code 41 = .ok (.getfield 16, 3) := by decide +kernel
theorem d11_44 : decode prog_47_method_5_code 44 = .ok (.invokevirtual 31, 3) := by decide +kernel
theorem d11_47 : decode prog_47_method_5_code 47 = .ok (.invokevirtual 37, 3) := by decide +kernel
theorem d11_50 : decode prog_47_method_5_code 50 = .ok (.invokevirtual 31, 3) := by decide +kernel
theorem d11_53 : decode prog_47_method_5_code 53 = .ok (.ldc 41, 2) := by decide +kernel
theorem d11_55 : decode prog_47_method_5_code 55 = .ok (.invokevirtual 31, 3) := by decide +kernel
theorem d11_58 : decode prog_47_method_5_code 58 = .ok (.aload_n 0, 1) := by decide +kernel
theorem d11_59 : decode prog_47_method_5_code 59 = .ok (.getfield 19, 3) := by decide +kernel
theorem d11_62 : decode prog_47_method_5_code 62 = .ok (.invokevirtual 31, 3) := by decide +kernel
theorem d11_65 : decode prog_47_method_5_code 65 = .ok (.ldc 43, 2) := by decide +kernel
theorem d11_67 : decode prog_47_method_5_code 67 = .ok (.invokevirtual 31, 3) := by decide +kernel
theorem d11_70 : decode prog_47_method_5_code 70 = .ok (.invokevirtual 37, 3) := by decide +kernel
theorem d11_73 : decode prog_47_method_5_code 73 = .ok (.areturn, 1) := by decide +kernel
theorem d12_0 : decode jdk_67_method_1_code 0 = .ok (.aload_n 0, 1) := by decide +kernel
theorem d12_1 : decode jdk_67_method_1_code 1 = .ok (.bipush 16, 2) := by decide +kernel
theorem d12_3 : decode jdk_67_method_1_code 3 = .ok (.invokespecial 1, 3) := by decide +kernel
theorem d12_6 : decode jdk_67_method_1_code 6 = .ok (.return_, 1) := by decide +kernel
theorem d13_0 : decode jdk_68_method_2_code 0 = .ok (.aload_n 0, 1) := by decide +kernel
theorem d13_1 : decode jdk_68_method_2_code 1 = .ok (.invokespecial 3, 3) := by decide +kernel
theorem d13_4 : decode jdk_68_method_2_code 4 = .ok (.getstatic 18, 3) := by decide +kernel
theorem d13_7 : decode jdk_68_method_2_code 7 = .ok (.ifCond .eq 18, 3) := by decide +kernel
theorem d13_10 : decode jdk_68_method_2_code 10 = .ok (.aload_n 0, 1) := by decide +kernel
theorem d13_11 : decode jdk_68_method_2_code 11 = .ok (.iload_n 1, 1) := by decide +kernel
theorem d13_12 : decode jdk_68_method_2_code 12 = .ok (.newarray .byte, 2) := by decide +kernel
theorem d13_14 : decode jdk_68_method_2_code 14 = .ok (.putfield 15, 3) := by decide +kernel
theorem d13_17 : decode jdk_68_method_2_code 17 = .ok (.aload_n 0, 1) := by decide +kernel
theorem d13_18 : decode jdk_68_method_2_code 18 = .ok (.iconst 0, 1) := by decide +kernel
theorem d13_19 : decode jdk_68_method_2_code 19 = .ok (.putfield 22, 3) := by decide +kernel
theorem d13_22 : decode jdk_68_method_2_code 22 = .ok (.goto 16, 3) := by decide +kernel
theorem d13_38 : decode jdk_68_method_2_code 38 = .ok (.return_, 1) := by decide +kernel
theorem d14_0 : decode jdk_67_method_7_code 0 = .ok (.aload_n 0, 1) := by decide +kernel
theorem d14_1 : decode jdk_67_method_7_code 1 = .ok (.aload_n 1, 1) := by decide +kernel
theorem d14_2 : decode jdk_67_method_7_code 2 = .ok (.invokespecial 29, 3) := by decide +kernel
theorem d14_5 : decode jdk_67_method_7_code 5 = .ok (.pop, 1) := by decide +kernel
theorem d14_6 : decode jdk_67_method_7_code 6 = .ok (.aload_n 0, 1) := by decide +kernel
theorem d14_7 : decode jdk_67_method_7_code 7 = .ok (.areturn, 1) := by decide +kernel
theorem d15_0 : decode jdk_68_method_22_code 0 = .ok (.aload_n 1, 1) := by decide +kernel
theorem d15_1 : decode jdk_68_method_22_code 1 = .ok (.ifnonnull 8, 3) := by decide +kernel
theorem d15_9 : decode jdk_68_method_22_code 9 = .ok (.aload_n 1, 1) := by decide +kernel
theorem d15_10 : decode jdk_68_method_22_code 10 = .ok (.invokevirtual 32, 3) := by decide +kernel
theorem d15_13 : decode jdk_68_method_22_code 13 = .ok (.istore_n 2, 1) := by decide +kernel
theorem d15_14 : decode jdk_68_method_22_code 14 = .ok (.aload_n 0, 1) := by decide +kernel
theorem d15_15 : decode jdk_68_method_22_code 15 = .ok (.aload_n 0, 1) := by decide +kernel
theorem d15_16 : decode jdk_68_method_22_code 16 = .ok (.getfield 79, 3) := by decide +kernel
theorem d15_19 : decode jdk_68_method_22_code 19 = .ok (.iload_n 2, 1) := by decide +kernel
theorem d15_20 : decode jdk_68_method_22_code 20 = .ok (.iadd, 1) := by decide +kernel
theorem d15_21 : decode jdk_68_method_22_code 21 = .ok (.invokevirtual 100, 3) := by decide +kernel
theorem d15_24 : decode jdk_68_method_22_code 24 = .ok (.aload_n 0, 1) := by decide +kernel
theorem d15_25 : decode jdk_68_method_22_code 25 = .ok (.aload_n 0, 1) := by decide +kernel
theorem d15_26 : decode jdk_68_method_22_code 26 = .ok (.getfield 79, 3) := by decide +kernel
theorem d15_29 : decode jdk_68_method_22_code 29 = .ok (.aload_n 1, 1) := by decide +kernel
theorem d15_30 : decode jdk_68_method_22_code 30 = .ok (.invokevirtual 208, 3) := by decide +kernel
theorem d15_33 : decode jdk_68_method_22_code 33 = .ok (.aload_n 0, 1) := by decide +kernel
theorem d15_34 : decode jdk_68_method_22_code 34 = .ok (.dup, 1) := by decide +kernel
theorem d15_35 : decode jdk_68_method_22_code 35 = .ok (.getfield 79, 3) := by decide +kernel
theorem d15_38 : decode jdk_68_method_22_code 38 = .ok (.iload_n 2, 1) := by decide +kernel
theorem d15_39 : decode jdk_68_method_22_code 39 = .ok (.iadd, 1) := by decide +kernel
theorem d15_40 : decode jdk_68_method_22_code 40 = .ok (.putfield 79, 3) := by decide +kernel
theorem d15_43 : decode jdk_68_method_22_code 43 = .ok (.aload_n 0, 1) := by decide +kernel
theorem d15_44 : decode jdk_68_method_22_code 44 = .ok (.areturn, 1) := by decide +kernel
theorem d16_0 : decode jdk_42_method_54_code 0 = .ok (.aload_n 0, 1) := by decide +kernel
theorem d16_1 : decode jdk_42_method_54_code 1 = .ok (.getfield 9, 3) := by decide +kernel
theorem d16_4 : decode jdk_42_method_54_code 4 = .ok (.arraylength, 1) := by decide +kernel
theorem d16_5 : decode jdk_42_method_54_code 5 = .ok (.aload_n 0, 1) := by decide +kernel
theorem d16_6 : decode jdk_42_method_54_code 6 = .ok (.invokevirtual 335, 3) := by decide +kernel
theorem d16_9 : decode jdk_42_method_54_code 9 = .ok (.ishr, 1) := by decide +kernel
theorem d16_10 : decode jdk_42_method_54_code 10 = .ok (.ireturn, 1) := by decide +kernel
theorem d17_0 : decode jdk_42_method_152_code 0 = .ok (.getstatic 38, 3) := by decide +kernel
theorem d17_3 : decode jdk_42_method_152_code 3 = .ok (.ifCond .eq 10, 3) := by decide +kernel
theorem d17_6 : decode jdk_42_method_152_code 6 = .ok (.aload_n 0, 1) := by decide +kernel
theorem d17_7 : decode jdk_42_method_152_code 7 = .ok (.getfield 15, 3) := by decide +kernel
theorem d17_10 : decode jdk_42_method_152_code 10 = .ok (.goto 4, 3) := by decide +kernel
theorem d17_14 : decode jdk_42_method_152_code 14 = .ok (.ireturn, 1) := by decide +kernel
theorem d18_0 : decode jdk_68_method_9_code 0 = .ok (.aload_n 0, 1) := by decide +kernel
theorem d18_1 : decode jdk_68_method_9_code 1 = .ok (.getfield 15, 3) := by decide +kernel
theorem d18_4 : decode jdk_68_method_9_code 4 = .ok (.arraylength, 1) := by decide +kernel
theorem d18_5 : decode jdk_68_method_9_code 5 = .ok (.aload_n 0, 1) := by decide +kernel
theorem d18_6 : decode jdk_68_method_9_code 6 = .ok (.getfield 22, 3) := by decide +kernel
theorem d18_9 : decode jdk_68_method_9_code 9 = .ok (.ishr, 1) := by decide +kernel
theorem d18_10 : decode jdk_68_method_9_code 10 = .ok (.istore_n 2, 1) := by decide +kernel
theorem d18_11 : decode jdk_68_method_9_code 11 = .ok (.iload_n 1, 1) := by decide +kernel
theorem d18_12 : decode jdk_68_method_9_code 12 = .ok (.iload_n 2, 1) := by decide +kernel
theorem d18_13 : decode jdk_68_method_9_code 13 = .ok (.isub, 1) := by decide +kernel
theorem d18_14 : decode jdk_68_method_9_code 14 = .ok (.ifCond .le 24, 3) := by decide +kernel
theorem d18_38 : decode jdk_68_method_9_code 38 = .ok (.return_, 1) := by decide +kernel
theorem d19_0 : decode jdk_68_method_73_code 0 = .ok (.aload_n 0, 1) := by decide +kernel
theorem d19_1 : decode jdk_68_method_73_code 1 = .ok (.aload_n 2, 1) := by decide +kernel
theorem d19_2 : decode jdk_68_method_73_code 2 = .ok (.invokevirtual 397, 3) := by decide +kernel
theorem d19_5 : decode jdk_68_method_73_code 5 = .ok (.aload_n 2, 1) := by decide +kernel
theorem d19_6 : decode jdk_68_method_73_code 6 = .ok (.aload_n 0, 1) := by decide +kernel
theorem d19_7 : decode jdk_68_method_73_code 7 = .ok (.getfield 15, 3) := by decide +kernel
theorem d19_10 : decode jdk_68_method_73_code 10 = .ok (.iload_n 1, 1) := by decide +kernel
theorem d19_11 : decode jdk_68_method_73_code 11 = .ok (.aload_n 0, 1) := by decide +kernel
theorem d19_12 : decode jdk_68_method_73_code 12 = .ok (.getfield 22, 3) := by decide +kernel
theorem d19_15 : decode jdk_68_method_73_code 15 = .ok (.invokevirtual 399, 3) := by decide +kernel
theorem d19_18 : decode jdk_68_method_73_code 18 = .ok (.return_, 1) := by decide +kernel
theorem d20_0 : decode jdk_68_method_71_code 0 = .ok (.getstatic 18, 3) := by decide +kernel
theorem d20_3 : decode jdk_68_method_71_code 3 = .ok (.ifCond .eq 18, 3) := by decide +kernel
theorem d20_6 : decode jdk_68_method_71_code 6 = .ok (.aload_n 0, 1) := by decide +kernel
theorem d20_7 : decode jdk_68_method_71_code 7 = .ok (.getfield 22, 3) := by decide +kernel
theorem d20_10 : decode jdk_68_method_71_code 10 = .ok (.aload_n 1, 1) := by decide +kernel
theorem d20_11 : decode jdk_68_method_71_code 11 = .ok (.invokevirtual 40, 3) := by decide +kernel
theorem d20_14 : decode jdk_68_method_71_code 14 = .ok (.if_icmp .eq 7, 3) := by decide +kernel
theorem d20_21 : decode jdk_68_method_71_code 21 = .ok (.return_, 1) := by decide +kernel
theorem d21_0 : decode jdk_42_method_147_code 0 = .ok (.aload_n 0, 1) := by decide +kernel
theorem d21_1 : decode jdk_42_method_147_code 1 = .ok (.invokevirtual 335, 3) := by decide +kernel
theorem d21_4 : decode jdk_42_method_147_code 4 = .ok (.iload_n 3, 1) := by decide +kernel
theorem d21_5 : decode jdk_42_method_147_code 5 = .ok (.if_icmp .ne 23, 3) := by decide +kernel
theorem d21_8 : decode jdk_42_method_147_code 8 = .ok (.aload_n 0, 1) := by decide +kernel
theorem d21_9 : decode jdk_42_method_147_code 9 = .ok (.getfield 9, 3) := by decide +kernel
theorem d21_12 : decode jdk_42_method_147_code 12 = .ok (.iconst 0, 1) := by decide +kernel
theorem d21_13 : decode jdk_42_method_147_code 13 = .ok (.aload_n 1, 1) := by decide +kernel
theorem d21_14 : decode jdk_42_method_147_code 14 = .ok (.iload_n 2, 1) := by decide +kernel
theorem d21_15 : decode jdk_42_method_147_code 15 = .ok (.iload_n 3, 1) := by decide +kernel
theorem d21_16 : decode jdk_42_method_147_code 16 = .ok (.ishl, 1) := by decide +kernel
theorem d21_17 : decode jdk_42_method_147_code 17 = .ok (.aload_n 0, 1) := by decide +kernel
theorem d21_18 : decode jdk_42_method_147_code 18 = .ok (.getfield 9, 3) := by decide +kernel
theorem d21_21 : decode jdk_42_method_147_code 21 = .ok (.arraylength, 1) := by decide +kernel
theorem d21_22 : decode jdk_42_method_147_code 22 = .ok (.invokestatic 212, 3) := by decide +kernel
theorem d21_25 : decode jdk_42_method_147_code 25 = .ok (.goto 18, 3) := by decide +kernel
theorem d21_43 : decode jdk_42_method_147_code 43 = .ok (.return_, 1) := by decide +kernel
theorem d22_0 : decode jdk_67_method_42_code 0 = .ok (.new 18, 3) := by decide +kernel
theorem d22_3 : decode jdk_67_method_42_code 3 = .ok (.dup, 1) := by decide +kernel
theorem d22_4 : decode jdk_67_method_42_code 4 = .ok (.aload_n 0, 1) := by decide +kernel
theorem d22_5 : decode jdk_67_method_42_code 5 = .ok (.invokespecial 137, 3) := by decide +kernel
theorem d22_8 : decode jdk_67_method_42_code 8 = .ok (.areturn, 1) := by decide +kernel
theorem d23_0 : decode jdk_42_method_53_code 0 = .ok (.aload_n 0, 1) := by decide +kernel
theorem d23_1 : decode jdk_42_method_53_code 1 = .ok (.aload_n 1, 1) := by decide +kernel
theorem d23_2 : decode jdk_42_method_53_code 2 = .ok (.aconst_null, 1) := by decide +kernel
theorem d23_3 : decode jdk_42_method_53_code 3 = .ok (.invokespecial 489, 3) := by decide +kernel
theorem d23_6 : decode jdk_42_method_53_code 6 = .ok (.return_, 1) := by decide +kernel
theorem d24_0 : decode jdk_42_method_150_code 0 = .ok (.aload_n 0, 1) := by decide +kernel
theorem d24_1 : decode jdk_42_method_150_code 1 = .ok (.invokespecial 1, 3) := by decide +kernel
theorem d24_4 : decode jdk_42_method_150_code 4 = .ok (.aload_n 1, 1) := by decide +kernel
theorem d24_5 : decode jdk_42_method_150_code 5 = .ok (.invokevirtual 552, 3) := by decide +kernel
theorem d24_8 : decode jdk_42_method_150_code 8 = .ok (.astore_n 3, 1) := by decide +kernel
theorem d24_9 : decode jdk_42_method_150_code 9 = .ok (.aload_n 1, 1) := by decide +kernel
theorem d24_10 : decode jdk_42_method_150_code 10 = .ok (.invokevirtual 549, 3) := by decide +kernel
theorem d24_13 : decode jdk_42_method_150_code 13 = .ok (.istore 4, 2) := by decide +kernel
theorem d24_15 : decode jdk_42_method_150_code 15 = .ok (.aload_n 1, 1) := by decide +kernel
theorem d24_16 : decode jdk_42_method_150_code 16 = .ok (.invokevirtual 1047, 3) := by decide +kernel
theorem d24_19 : decode jdk_42_method_150_code 19 = .ok (.ifCond .eq 22, 3) := by decide +kernel
theorem d24_22 : decode jdk_42_method_150_code 22 = .ok (.aload_n 0, 1) := by decide +kernel
theorem d24_23 : decode jdk_42_method_150_code 23 = .ok (.iconst 0, 1) := by decide +kernel
theorem d24_24 : decode jdk_42_method_150_code 24 = .ok (.putfield 15, 3) := by decide +kernel
theorem d24_27 : decode jdk_42_method_150_code 27 = .ok (.aload_n 0, 1) := by decide +kernel
theorem d24_28 : decode jdk_42_method_150_code 28 = .ok (.aload_n 3, 1) := by decide +kernel
theorem d24_29 : decode jdk_42_method_150_code 29 = .ok (.iconst 0, 1) := by decide +kernel
theorem d24_30 : decode jdk_42_method_150_code 30 = .ok (.iload 4, 2) := by decide +kernel
theorem d24_32 : decode jdk_42_method_150_code 32 = .ok (.invokestatic 54, 3) := by decide +kernel
theorem d24_35 : decode jdk_42_method_150_code 35 = .ok (.putfield 9, 3) := by decide +kernel
theorem d24_38 : decode jdk_42_method_150_code 38 = .ok (.goto 59, 3) := by decide +kernel
theorem d24_97 : decode jdk_42_method_150_code 97 = .ok (.return_, 1) := by decide +kernel
theorem d25_0 : decode jdk_68_method_64_code 0 = .ok (.aload_n 0, 1) := by decide +kernel
theorem d25_1 : decode jdk_68_method_64_code 1 = .ok (.getfield 15, 3) := by decide +kernel
theorem d25_4 : decode jdk_68_method_64_code 4 = .ok (.areturn, 1) := by decide +kernel
theorem d26_0 : decode jdk_67_method_93_code 0 = .ok (.aload_n 0, 1) := by decide +kernel
theorem d26_1 : decode jdk_67_method_93_code 1 = .ok (.invokespecial 343, 3) := by decide +kernel
theorem d26_4 : decode jdk_67_method_93_code 4 = .ok (.ireturn, 1) := by decide +kernel
theorem d27_0 : decode jdk_68_method_6_code 0 = .ok (.aload_n 0, 1) := by decide +kernel
theorem d27_1 : decode jdk_68_method_6_code 1 = .ok (.getfield 79, 3) := by decide +kernel
theorem d27_4 : decode jdk_68_method_6_code 4 = .ok (.ireturn, 1) := by decide +kernel
theorem d28_0 : decode jdk_68_method_68_code 0 = .ok (.getstatic 18, 3) := by decide +kernel
theorem d28_3 : decode jdk_68_method_68_code 3 = .ok (.ifCond .eq 14, 3) := by decide +kernel
theorem d28_6 : decode jdk_68_method_68_code 6 = .ok (.aload_n 0, 1) := by decide +kernel
theorem d28_7 : decode jdk_68_method_68_code 7 = .ok (.getfield 22, 3) := by decide +kernel
theorem d28_10 : decode jdk_68_method_68_code 10 = .ok (.ifCond .ne 7, 3) := by decide +kernel
theorem d28_13 : decode jdk_68_method_68_code 13 = .ok (.iconst 1, 1) := by decide +kernel
theorem d28_14 : decode jdk_68_method_68_code 14 = .ok (.goto 4, 3) := by decide +kernel
theorem d28_18 : decode jdk_68_method_68_code 18 = .ok (.ireturn, 1) := by decide +kernel
theorem d29_0 : decode jdk_65_method_132_code 0 = .ok (.iload_n 1, 1) := by decide +kernel
theorem d29_1 : decode jdk_65_method_132_code 1 = .ok (.ifCond .ne 9, 3) := by decide +kernel
theorem d29_4 : decode jdk_65_method_132_code 4 = .ok (.iload_n 2, 1) := by decide +kernel
theorem d29_5 : decode jdk_65_method_132_code 5 = .ok (.aload_n 0, 1) := by decide +kernel
theorem d29_6 : decode jdk_65_method_132_code 6 = .ok (.arraylength, 1) := by decide +kernel
theorem d29_7 : decode jdk_65_method_132_code 7 = .ok (.if_icmp .eq 10, 3) := by decide +kernel
theorem d29_10 : decode jdk_65_method_132_code 10 = .ok (.aload_n 0, 1) := by decide +kernel
theorem d29_11 : decode jdk_65_method_132_code 11 = .ok (.iload_n 1, 1) := by decide +kernel
theorem d29_12 : decode jdk_65_method_132_code 12 = .ok (.iload_n 2, 1) := by decide +kernel
theorem d29_13 : decode jdk_65_method_132_code 13 = .ok (.invokestatic 339, 3) := by decide +kernel
theorem d29_16 : decode jdk_65_method_132_code 16 = .ok (.areturn, 1) := by decide +kernel
theorem d30_0 : decode jdk_65_method_133_code 0 = .ok (.iload_n 1, 1) := by decide +kernel
theorem d30_1 : decode jdk_65_method_133_code 1 = .ok (.iload_n 2, 1) := by decide +kernel
theorem d30_2 : decode jdk_65_method_133_code 2 = .ok (.invokestatic 343, 3) := by decide +kernel
theorem d30_5 : decode jdk_65_method_133_code 5 = .ok (.iload_n 2, 1) := by decide +kernel
theorem d30_6 : decode jdk_65_method_133_code 6 = .ok (.iload_n 1, 1) := by decide +kernel
theorem d30_7 : decode jdk_65_method_133_code 7 = .ok (.isub, 1) := by decide +kernel
theorem d30_8 : decode jdk_65_method_133_code 8 = .ok (.istore_n 3, 1) := by decide +kernel
theorem d30_9 : decode jdk_65_method_133_code 9 = .ok (.iload_n 3, 1) := by decide +kernel
theorem d30_10 : decode jdk_65_method_133_code 10 = .ok (.newarray .byte, 2) := by decide +kernel
theorem d30_12 : decode jdk_65_method_133_code 12 = .ok (.astore 4, 2) := by decide +kernel
theorem d30_14 : decode jdk_65_method_133_code 14 = .ok (.aload_n 0, 1) := by decide +kernel
theorem d30_15 : decode jdk_65_method_133_code 15 = .ok (.iload_n 1, 1) := by decide +kernel
theorem d30_16 : decode jdk_65_method_133_code 16 = .ok (.aload 4, 2) := by decide +kernel
theorem d30_18 : decode jdk_65_method_133_code 18 = .ok (.iconst 0, 1) := by decide +kernel
theorem d30_19 : decode jdk_65_method_133_code 19 = .ok (.aload_n 0, 1) := by decide +kernel
theorem d30_20 : decode jdk_65_method_133_code 20 = .ok (.arraylength, 1) := by decide +kernel
theorem d30_21 : decode jdk_65_method_133_code 21 = .ok (.iload_n 1, 1) := by decide +kernel
theorem d30_22 : decode jdk_65_method_133_code 22 = .ok (.isub, 1) := by decide +kernel
theorem d30_23 : decode jdk_65_method_133_code 23 = .ok (.iload_n 3, 1) := by decide +kernel
theorem d30_24 : decode jdk_65_method_133_code 24 = .ok (.invokestatic 304, 3) := by decide +kernel
theorem d30_27 : decode jdk_65_method_133_code 27 = .ok (.invokestatic 150, 3) := by decide +kernel
theorem d30_30 : decode jdk_65_method_133_code 30 = .ok (.aload 4, 2) := by decide +kernel
theorem d30_32 : decode jdk_65_method_133_code 32 = .ok (.areturn, 1) := by decide +kernel
theorem d31_0 : decode jdk_65_method_131_code 0 = .ok (.iload_n 1, 1) := by decide +kernel
theorem d31_1 : decode jdk_65_method_131_code 1 = .ok (.iload_n 0, 1) := by decide +kernel
theorem d31_2 : decode jdk_65_method_131_code 2 = .ok (.if_icmp .ge 35, 3) := by decide +kernel
theorem d31_37 : decode jdk_65_method_131_code 37 = .ok (.return_, 1) := by decide +kernel
theorem d32_0 : decode jdk_29_method_69_code 0 = .ok (.iload_n 0, 1) := by decide +kernel
theorem d32_1 : decode jdk_29_method_69_code 1 = .ok (.iload_n 1, 1) := by decide +kernel
theorem d32_2 : decode jdk_29_method_69_code 2 = .ok (.if_icmp .gt 7, 3) := by decide +kernel
theorem d32_9 : decode jdk_29_method_69_code 9 = .ok (.iload_n 1, 1) := by decide +kernel
theorem d32_10 : decode jdk_29_method_69_code 10 = .ok (.ireturn, 1) := by decide +kernel
theorem own_wS {a0 : Array Value} {Z : State} (hw : ∀ d ∈ tables_1, d.before a0 Z = true) : ∀ a ∈ Bundle.stringAtoms, a.before a0 Z = true := by
  intro a ha
  simp only [Bundle.stringAtoms, List.mem_cons, List.not_mem_nil, or_false] at ha
  rcases ha with rfl | rfl | rfl | rfl | rfl | rfl | rfl
  · exact wd hw 2 rfl
  · exact wd hw 10 rfl
  · exact wd hw 14 rfl
  · exact wd hw 23 rfl
  · exact wd hw 25 rfl
  · exact wd hw 130 rfl
  · exact wd hw 131 rfl
def own_EL : List (String × Nat) := [("com/example/wireup/wireup/Item", 35), ("com/example/wireup/wireup/Item", 41), ("com/example/wireup/wireup/Item", 43)]
theorem own_EW {a0 : Array Value} {Z : State} (hw : ∀ d ∈ tables_1, d.before a0 Z = true) : EW Z a0 own_EL := EW.cons (wd hw 129 rfl) (by decide +kernel) (EW.cons (wd hw 177 rfl) (by decide +kernel) (EW.cons (wd hw 178 rfl) (by decide +kernel) EW.nil))
def own_by (l : List Int32) : Prop := ∀ i, fits .byte (.int (l.getD i 0)) = true
def own_S (Z : State) (h : Heap) (a b : Addr) (l : List Int32) : Prop := Exa Z h a "java/lang/String" ∧ Fld Z h a "java/lang/String" "coder" "B" (.int 0) ∧ Fld Z h a "java/lang/String" "value" "[B" (.ref b) ∧ ArI Z h b .byte l.length (fun i => l.getD i 0) ∧ own_by l
def own_B (Z : State) (h : Heap) (a b : Addr) (l : List Int32) : Prop := Exa Z h a "java/lang/StringBuilder" ∧ Fld Z h a "java/lang/AbstractStringBuilder" "value" "[B" (.ref b) ∧ Fld Z h a "java/lang/AbstractStringBuilder" "coder" "B" (.int 0) ∧ Fld Z h a "java/lang/AbstractStringBuilder" "count" "I" (.int l.length.toInt32) ∧ ArI Z h b .byte 16 (fun i => l.getD i 0) ∧ own_by l ∧ b ≠ a
section OwnSt
variable {Z : State} {h h' h0 h1 : Heap} {a b : Addr} {l o : List Int32} {ws : List Addr}
theorem own_S.ext (F : own_S Z h a b l) (E : Ext h h') : own_S Z h' a b l := ⟨F.1.ext E, F.2.1.ext E, F.2.2.1.ext E, F.2.2.2.1.ext E, F.2.2.2.2⟩
theorem own_S.keep (F : own_S Z h a b l) (K : Keep h h' ws) (qa : a ∉ ws) (qb : b ∉ ws) : own_S Z h' a b l := ⟨F.1.keep K, F.2.1.keep K qa, F.2.2.1.keep K qa, F.2.2.2.1.keep K qb, F.2.2.2.2⟩
theorem own_B.ext (F : own_B Z h a b l) (E : Ext h h') : own_B Z h' a b l := ⟨F.1.ext E, F.2.1.ext E, F.2.2.1.ext E, F.2.2.2.1.ext E, F.2.2.2.2.1.ext E, F.2.2.2.2.2⟩
theorem own_B.keep (F : own_B Z h a b l) (K : Keep h h' ws) (qa : a ∉ ws) (qb : b ∉ ws) : own_B Z h' a b l := ⟨F.1.keep K, F.2.1.keep K qa, F.2.2.1.keep K qa, F.2.2.2.1.keep K qa, F.2.2.2.2.1.keep K qb, F.2.2.2.2.2⟩
theorem own_ext3 (E1 : Ext h0 h1) (K : Keep h1 h ws) (g : ∀ x ∈ ws, h0.size ≤ x) : Ext h0 h :=
  ⟨Nat.le_trans E1.1 K.1, fun x c q => K.2.1 x c (E1.2 x c q) (fun r => by have w := (Array.getElem?_eq_some_iff.mp q).1; have := g x r; omega)⟩
theorem own_app (l o : List Int32) : (fun j => if l.length ≤ j ∧ j < l.length + o.length then o.getD (0 + (j - l.length)) 0 else l.getD j 0) = fun j => (l ++ o).getD j 0 := by
  funext j
  simp only [List.getD_eq_getElem?_getD, Nat.zero_add]
  by_cases h1 : j < l.length
  · rw [if_neg (by omega), List.getElem?_append_left h1]
  · rw [List.getElem?_append_right (by omega)]
    by_cases h2 : j < l.length + o.length
    · rw [if_pos ⟨by omega, h2⟩]
    · rw [if_neg (by omega), List.getElem?_eq_none (by omega), List.getElem?_eq_none (by omega)]
theorem own_by.app (F : own_by l) (G : own_by o) : own_by (l ++ o) := fun i => by
  have e := congrFun (own_app l o) i
  rw [← e]
  by_cases h : l.length ≤ i ∧ i < l.length + o.length
  · rw [if_pos h]; exact G _
  · rw [if_neg h]; exact F _
theorem own_byd (l : List Int32) (q : l.all (fun x => fits .byte (.int x)) = true) : own_by l := fun i => by
  rw [List.getD_eq_getElem?_getD]
  by_cases h : i < l.length
  · rw [List.getElem?_eq_getElem h]; exact List.all_eq_true.mp q _ (List.getElem_mem h)
  · rw [List.getElem?_eq_none (by omega)]; rfl
theorem own_cut (l : List Int32) : (fun j => if 0 ≤ j ∧ j < 0 + l.length then l.getD (0 + (j - 0)) 0 else 0) = fun j => l.getD j 0 := by
  funext j
  by_cases h : j < l.length
  · rw [if_pos ⟨Nat.zero_le _, by omega⟩, Nat.zero_add, Nat.sub_zero]
  · rw [if_neg (by omega), List.getD_eq_getElem?_getD, List.getElem?_eq_none (by omega)]; rfl
theorem own_shr0 (x : Int32) : x >>> ((0 : Int32) &&& 31) = x := Int32.toInt_inj.mp (by rw [c_ishr x 0 0 (by decide)]; simp)
theorem own_shl0 (x : Int32) : x <<< ((0 : Int32) &&& 31) = x := Int32.toInt_inj.mp (by have e := c_ishl x 0 0 (by decide); have r := rng32 x; have r2 := rng32 (x <<< ((0 : Int32) &&& 31)); rw [show (((2 : Nat) ^ 0 : Nat) : Int) = 1 from rfl] at e; omega)
theorem own_add (n m : Nat) (h : n + m < 2147483648) : n.toInt32 + m.toInt32 = (n + m).toInt32 := Int32.toInt_inj.mp (by
  have e := c_iadd n.toInt32 m.toInt32
  have r := rng32 (n.toInt32 + m.toInt32)
  rw [len_toInt (by omega), len_toInt (by omega)] at e
  rw [len_toInt (by omega)]
  omega)
end OwnSt
theorem ef_rm_can (m : MethodId) (x0 : Int32)  : entryFrame m #[(.int x0)] 1 = mkF m 0 #[.val (.int x0)] [] := by first | (simp [entryFrame, mkF, argsToLocals, Value.category]; done) | rfl
theorem pn_1 : plainFor (⟨"java/lang/StringLatin1", "canEncode", "(C)Z"⟩ : MethodName) = true := by first | exact plainFor_of_name (by first | (simp [plainName, overriddenIn]; done) | decide +kernel) | decide +kernel
set_option maxRecDepth 65536 in
set_option maxHeartbeats 40000000 in
theorem rm_can (l : Launch) (Z : State) (a0 : Array Value) (hw : ∀ d ∈ tables_1, d.before a0 Z = true) (v : Int32) (h0 : Heap) (v1 : v.toInt ≤ 255) :
    Ctr l Z (⟨"java/lang/StringLatin1", "canEncode", "(C)Z"⟩ : MethodName) jdk_43_method_3_code 1 (Option.some FieldType.boolean) [] ({ frames := 0, cells := 0, slots := 0, locals := 0 } : Room) ({ frames := 0, cells := 0, slots := 0, locals := 0 } : Room).cells ({ frames := 0, cells := 0, slots := 0, locals := 0 } : Room).slots #[(.int v)] h0 (fun u h L => u = some (.int 1) ∧ L = [] ∧ h = h0) := by
  refine Ctr.of pn_1 ?_
  intro p e s m below meth c s₁ hx hby hml hown hnm hret hlk hZ X0 e0
  refine Goes.cast (ef_rm_can m v) ?_
  refine g_iload_n (i := 0) X0 hx (hb hby d2_0) (by rfl) rfl ?_
  refine g_sipush (v := (255 : Int32)) X0 hx (hb hby d2_1) (by decide) rfl ?_
  refine g_icmp_gt X0 hx (hb hby d2_4) (by decide) (pt := 11) (by decide) rfl (fun q_ => absurd q_ (by rw [own_ltI, show (255 : Int32).toInt = 255 from rfl]; omega)) (fun _ => ?_)
  refine g_iconst (v := (1 : Int32)) X0 hx (hb hby d2_7) (by decide) rfl ?_
  refine g_goto X0 hx (hb hby d2_8) (by decide) (by decide) (pc' := 12) ?_
  exact g_retN X0 hx (t := .boolean) (by simp) hlk hret e0 (by decide) (by decide) (hb hby d2_12) ⟨rfl, rfl, rfl⟩
theorem ef_rm_tb (m : MethodId) (x0 : Int32)  : entryFrame m #[(.int x0)] 1 = mkF m 0 #[.val (.int x0)] [] := by first | (simp [entryFrame, mkF, argsToLocals, Value.category]; done) | rfl
theorem pn_2 : plainFor (⟨"java/lang/StringLatin1", "toBytes", "(C)[B"⟩ : MethodName) = true := by first | exact plainFor_of_name (by first | (simp [plainName, overriddenIn]; done) | decide +kernel) | decide +kernel
theorem own_narb (v : Int32) : nar .byte v.toInt8.toInt32 = v.toInt8.toInt32 := by simp [nar]
set_option maxRecDepth 65536 in
set_option maxHeartbeats 40000000 in
theorem rm_tb (l : Launch) (Z : State) (a0 : Array Value) (hw : ∀ d ∈ tables_1, d.before a0 Z = true) (v : Int32) (h0 : Heap) (n0 : Nat) (Z0 : n0 ≤ h0.size) :
    Ctr l Z (⟨"java/lang/StringLatin1", "toBytes", "(C)[B"⟩ : MethodName) jdk_43_method_46_code 1 (Option.some (FieldType.array FieldType.byte)) [] ({ frames := 0, cells := 1, slots := 1, locals := 0 } : Room) ({ frames := 0, cells := 1, slots := 1, locals := 0 } : Room).cells ({ frames := 0, cells := 1, slots := 1, locals := 0 } : Room).slots #[(.int v)] h0 (fun u h L => ∃ b, u = some (.ref b) ∧ Fr n0 L ∧ Ext h0 h ∧ h0.size ≤ b ∧ ArI Z h b .byte 1 (fun i => [v.toInt8.toInt32].getD i 0)) := by
  refine Ctr.of pn_2 ?_
  intro p e s m below meth c s₁ hx hby hml hown hnm hret hlk hZ X0 e0
  refine Goes.cast (ef_rm_tb m v) ?_
  refine g_iconst (v := (1 : Int32)) X0 hx (hb hby d3_0) (by decide) rfl ?_
  refine g_newarr X0 hx hZ (ty := .byte) rfl (wd hw 14 rfl) e0 (hb hby d3_1) rfl (by decide) 1 (by decide) (by decide) (by decide) (by decide) ?_
  intro T3 h3 cA3 a3 X3 e3 g3 Ex3 A3
  have Ar0 : ArI Z h3 a3 .byte 1 (fun _ => 0) := ArI.new A3 0 rfl
  have gb : n0 ≤ a3 := by rw [g3]; exact Z0
  refine g_dup X3 hx (hb hby d3_3) rfl rfl ?_
  refine g_iconst (v := (0 : Int32)) X3 hx (hb hby d3_4) (by decide) rfl ?_
  refine g_iload_n (i := 0) X3 hx (hb hby d3_5) (by rfl) rfl ?_
  refine g_i2b X3 hx (hb hby d3_6) rfl ?_
  refine g_bastoreN X3 hx hZ e3 Ar0 0 (by decide) (by decide) (by decide) (hb hby d3_7) rfl ?_
  intro T4 h4 X4 e4 W4 Ar4
  have N4 := Fr.snoc X4 (Fr.nil n0) gb
  have K1 := (Keep.refl h3 [a3]).wr W4 (Or.inl (List.mem_singleton.mpr rfl))
  refine g_retA X4 hx rfl rfl hlk hret e4 (by decide) (by decide) (hb hby d3_8) ⟨_, rfl, N4, own_ext3 Ex3 K1 (fun x hx => by rw [List.mem_singleton.mp hx, g3]; exact Nat.le_refl _), by rw [g3]; exact Nat.le_refl _, ?_⟩
  obtain ⟨cl, q1, q2, q3⟩ := Ar4
  refine ⟨cl, q1, q2, fun i hi => ?_⟩
  obtain rfl : i = 0 := by omega
  rw [q3 0 hi]
  have := c_i2b v
  show some (Value.int (nar .byte v.toInt8.toInt32)) = some (.int v.toInt8.toInt32)
  rw [own_narb]
theorem ef_rm_si (m : MethodId) (x0 : Addr) (x1 : Addr) (x2 : Int32)  : entryFrame m #[(.ref x0), (.ref x1), (.int x2)] 3 = mkF m 0 #[.val (.ref x0), .val (.ref x1), .val (.int x2)] [] := by first | (simp [entryFrame, mkF, argsToLocals, Value.category]; done) | rfl
theorem pn_5 : plainFor (⟨"java/lang/String", "<init>", "([BB)V"⟩ : MethodName) = true := by first | exact plainFor_of_name (by first | (simp [plainName, overriddenIn]; done) | decide +kernel) | decide +kernel
set_option maxRecDepth 65536 in
set_option maxHeartbeats 40000000 in
theorem rm_si (l : Launch) (Z : State) (a0 : Array Value) (hw : ∀ d ∈ tables_1, d.before a0 Z = true) (a b : Addr) (h0 : Heap) (n0 : Nat) (ga : n0 ≤ a) (E : Exa Z h0 a "java/lang/String") (F1 : Fld Z h0 a "java/lang/String" "value" "[B" .null) (F2 : Fld Z h0 a "java/lang/String" "coder" "B" (.int 0)) :
    Ctr l Z (⟨"java/lang/String", "<init>", "([BB)V"⟩ : MethodName) jdk_42_method_151_code 3 (Option.none : Option FieldType) [] ({ frames := 1, cells := 0, slots := 0, locals := 12 } : Room) ({ frames := 1, cells := 0, slots := 0, locals := 12 } : Room).cells ({ frames := 1, cells := 0, slots := 0, locals := 12 } : Room).slots #[(.ref a), (.ref b), (.int (0 : Int32))] h0 (fun u h L => u = none ∧ Fr n0 L ∧ Keep h0 h [a] ∧ Exa Z h a "java/lang/String" ∧ Fld Z h a "java/lang/String" "coder" "B" (.int 0) ∧ Fld Z h a "java/lang/String" "value" "[B" (.ref b)) := by
  refine Ctr.of pn_5 ?_
  intro p e s m below meth c s₁ hx hby hml hown hnm hret hlk hZ X0 e0
  refine Goes.cast (ef_rm_si m a b (0 : Int32)) ?_
  refine g_aload_n (i := 0) X0 hx (hb hby d4_0) (by rfl) rfl rfl ?_
  refine g_initO X0 hx hZ hown (wd hw 19 rfl) (wd hw 20 rfl) (wd hw 21 rfl) e0 (by rw [hml]; rfl) (hb hby d4_1) rfl (by decide) (by decide) ?_
  intro T6 X6 e6
  have K0 := Keep.refl h0 [a]
  refine g_aload_n (i := 0) X6 hx (hb hby d4_4) (by rfl) rfl rfl ?_
  refine g_aload_n (i := 1) X6 hx (hb hby d4_5) (by rfl) rfl rfl ?_
  refine g_putF X6 hx hZ hown (wd hw 22 rfl) e6 F1 E (Or.inr ⟨wd hw 23 rfl, rfl, hnm⟩) (wd hw 10 rfl) (ty := (.array .byte)) (by decide) rfl rfl (hb hby d4_6) rfl ?_
  intro T7 h7 X7 e7 W7
  have N7 := Fr.snoc X7 (Fr.nil n0) ga
  have E7_ := E.wr W7
  have F7_value := F1.same W7
  have F7_coder := F2.other W7 (Or.inr (slot_ne (C := "java/lang/String") (Or.inr (wd hw 25 rfl)) (Or.inr (wd hw 23 rfl)) (by decide) (t := .byte) (t' := (.array .byte)) (by decide) (by decide)))
  have K7 := K0.wr W7 (Or.inl (List.mem_singleton.mpr rfl))
  refine g_aload_n (i := 0) X7 hx (hb hby d4_9) (by rfl) rfl rfl ?_
  refine g_iload_n (i := 2) X7 hx (hb hby d4_10) (by rfl) rfl ?_
  refine g_putF X7 hx hZ hown (wd hw 24 rfl) e7 F7_coder E7_ (Or.inr ⟨wd hw 25 rfl, rfl, hnm⟩) (wd hw 10 rfl) (ty := .byte) (by decide) rfl rfl (hb hby d4_11) rfl ?_
  intro T8 h8 X8 e8 W8
  have N8 := Fr.snoc X8 N7 ga
  have E8_ := E7_.wr W8
  have F8_value := F7_value.other W8 (Or.inr (slot_ne (C := "java/lang/String") (Or.inr (wd hw 23 rfl)) (Or.inr (wd hw 25 rfl)) (by decide) (t := (.array .byte)) (t' := .byte) (by decide) (by decide)))
  have F8_coder := F7_coder.same W8
  have K8 := K7.wr W8 (Or.inl (List.mem_singleton.mpr rfl))
  exact g_ret X8 hx hlk hret e8 (by decide) (by decide) (hb hby d4_14) ⟨rfl, N8, K8, E8_, F8_coder, F8_value⟩
theorem ef_rm_val (m : MethodId) (x0 : Int32)  : entryFrame m #[(.int x0)] 1 = mkF m 0 #[.val (.int x0)] [] := by first | (simp [entryFrame, mkF, argsToLocals, Value.category]; done) | rfl
theorem pn_9 : plainFor (⟨"java/lang/String", "valueOf", "(C)Ljava/lang/String;"⟩ : MethodName) = true := by first | exact plainFor_of_name (by first | (simp [plainName, overriddenIn]; done) | decide +kernel) | decide +kernel
theorem pd_11 : parseMethodDescriptor "(C)Z" = some ⟨[.char], some .boolean⟩ := by decide +kernel
theorem own_fitb (v : Int32) : fits .byte (.int v.toInt8.toInt32) = true := by
  have e := c_i2b v
  simp only [fits, Bool.and_eq_true, decide_eq_true_eq]
  refine ⟨Int32.le_iff_toInt_le.mpr ?_, Int32.le_iff_toInt_le.mpr ?_⟩
  · rw [show (-128 : Int32).toInt = -128 from rfl]; omega
  · rw [show (127 : Int32).toInt = 127 from rfl]; omega
theorem own_tr {h0 h1 h2 : Heap} (E : Ext h0 h1) (E2 : Ext h1 h2) : Ext h0 h2 := ⟨Nat.le_trans E.1 E2.1, fun x c q => E2.2 x c (E.2 x c q)⟩
theorem pd_13 : parseMethodDescriptor "(C)[B" = some ⟨[.char], some (.array .byte)⟩ := by decide +kernel
theorem pd_14 : parseMethodDescriptor "([BB)V" = some ⟨[(.array .byte), .byte], none⟩ := by decide +kernel
set_option maxRecDepth 65536 in
set_option maxHeartbeats 40000000 in
theorem rm_val (l : Launch) (Z : State) (a0 : Array Value) (hw : ∀ d ∈ tables_1, d.before a0 Z = true) (v : Int32) (h0 : Heap) (n0 : Nat) (Z0 : n0 ≤ h0.size) (cs : Int32) (S_cs : Sta Z h0 "java/lang/String" "COMPACT_STRINGS" "Z" (.int cs)) (hcs : ¬ cs = 0) (v1 : v.toInt ≤ 255) :
    Ctr l Z (⟨"java/lang/String", "valueOf", "(C)Ljava/lang/String;"⟩ : MethodName) jdk_42_method_139_code 1 (Option.some (FieldType.object "java/lang/String")) [] ({ frames := 2, cells := 2, slots := 5, locals := 27 } : Room) ({ frames := 2, cells := 2, slots := 5, locals := 27 } : Room).cells ({ frames := 2, cells := 2, slots := 5, locals := 27 } : Room).slots #[(.int v)] h0 (fun u h L => ∃ a b, u = some (.ref a) ∧ Fr n0 L ∧ Ext h0 h ∧ h0.size ≤ a ∧ h0.size ≤ b ∧ own_S Z h a b [v.toInt8.toInt32]) := by
  refine Ctr.of pn_9 ?_
  intro p e s m below meth c s₁ hx hby hml hown hnm hret hlk hZ X0 e0
  refine Goes.cast (ef_rm_val m v) ?_
  refine g_getS X0 hx hZ hown (wd hw 4 rfl) e0 S_cs (hb hby d1_0) rfl ?_
  intro T10 X10 e10
  refine g_if_eq X10 hx (hb hby d1_3) (by decide) (pt := 26) (by decide) rfl (fun q_ => absurd q_ (hcs)) (fun _ => ?_)
  refine g_iload_n (i := 0) X10 hx (hb hby d1_6) (by rfl) rfl ?_
  refine g_callS X10 hx hZ hown (wd hw 5 rfl) (wd hw 6 rfl) (wd hw 7 rfl) (wd hw 8 rfl) (by decide) e10 (rm_can l Z a0 hw v h0 v1) (by rw [hml]; rfl) [(.int v)] [] rfl (lenOf pd_11 rfl) rfl (by show 0 + (1 + 11) + 0 ≤ _; decide) (by decide) (by decide) (by decide) (hb hby d1_7) rfl ?_
  intro T11 v11 L11 X11 hQ11
  obtain ⟨rfl, rfl, e11⟩ := hQ11
  have N11 := Fr.app (Fr.nil n0) (Fr.nil n0)
  show Goes p e below _ T11 (mkF m 10 #[.val (.int v)] [(.int (1 : Int32))])
  refine g_if_eq X11 hx (hb hby d1_10) (by decide) (pt := 26) (by decide) rfl (fun q_ => absurd q_ (by decide)) (fun _ => ?_)
  refine g_new X11 hx hZ hown (wd hw 9 rfl) (wd hw 10 rfl) (wd hw 2 rfl) e11 (hb hby d1_13) rfl (by decide) (by decide) ?_
  intro T12 h12 a12 X12 e12 g12 Ex12 E12 D12
  have F12_value : Fld Z h12 a12 "java/lang/String" "value" "[B" .null := D12 (Or.inr (wd hw 23 rfl)) (ty := (.array .byte)) (by decide)
  have F12_coder : Fld Z h12 a12 "java/lang/String" "coder" "B" (.int 0) := D12 (Or.inr (wd hw 25 rfl)) (ty := .byte) (by decide)
  have ga : n0 ≤ a12 := by rw [g12]; exact Z0
  have Z1 : n0 ≤ h12.size := Nat.le_trans Z0 Ex12.1
  refine g_dup X12 hx (hb hby d1_16) rfl rfl ?_
  refine g_iload_n (i := 0) X12 hx (hb hby d1_17) (by rfl) rfl ?_
  refine g_callS X12 hx hZ hown (wd hw 11 rfl) (wd hw 12 rfl) (wd hw 7 rfl) (wd hw 13 rfl) (by decide) e12 (rm_tb l Z a0 hw v h12 n0 Z1) (by rw [hml]; rfl) [(.int v)] [(.ref a12), (.ref a12)] rfl (lenOf pd_13 rfl) rfl (by show 2 + (1 + 11) + 0 ≤ _; decide) (by decide) (by decide) (by decide) (hb hby d1_18) rfl ?_
  intro T13 v13 L13 X13 hQ13
  obtain ⟨b, rfl, N13, E2, hb2, Ab⟩ := hQ13
  have N13 := Fr.app N11 N13
  show Goes p e below _ T13 (mkF m 21 #[.val (.int v)] [(.ref b), (.ref a12), (.ref a12)])
  refine g_iconst (v := (0 : Int32)) X13 hx (hb hby d1_21) (by decide) rfl ?_
  refine g_callI X13 hx hZ rfl hown (wd hw 15 rfl) (wd hw 16 rfl) (wd hw 2 rfl) (wd hw 18 rfl) (by decide) rfl (rm_si l Z a0 hw a12 b T13.heap n0 ga (E12.ext E2) (F12_value.ext E2) (F12_coder.ext E2)) (by rw [hml]; rfl) a12 [(.ref b), (.int (0 : Int32))] [(.ref a12)] rfl (lenOf pd_14 rfl) rfl (by show 1 + (3 + 11) + 12 ≤ _; decide) (by decide) (by decide) (by decide) (hb hby d1_22) rfl ?_
  intro T14 v14 L14 X14 hQ14
  obtain ⟨rfl, N14, K14, Es, Fc, Fv⟩ := hQ14
  have N14 := Fr.app N13 N14
  show Goes p e below _ T14 (mkF m 25 #[.val (.int v)] [(.ref a12)])
  have hab : b ∉ [a12] := fun q => absurd E12.lt (by rw [← List.mem_singleton.mp q]; exact Nat.not_lt.mpr hb2)
  exact g_retA X14 hx rfl rfl hlk hret rfl (by decide) (by decide) (hb hby d1_25) ⟨_, b, rfl, N14, own_ext3 (own_tr Ex12 E2) K14 (fun x hx => by rw [List.mem_singleton.mp hx, g12]; exact Nat.le_refl _), by rw [g12]; exact Nat.le_refl _, Nat.le_trans Ex12.1 hb2, Es, Fc, Fv, Ab.keep K14 hab, fun i => by cases i with | zero => exact own_fitb v | succ i => rfl⟩
theorem ef_rm_cod (m : MethodId) (x0 : Addr)  : entryFrame m #[(.ref x0)] 1 = mkF m 0 #[.val (.ref x0)] [] := by first | (simp [entryFrame, mkF, argsToLocals, Value.category]; done) | rfl
theorem pn_15 : plainFor (⟨"java/lang/String", "coder", "()B"⟩ : MethodName) = true := by first | exact plainFor_of_name (by first | (simp [plainName, overriddenIn]; done) | decide +kernel) | decide +kernel
set_option maxRecDepth 65536 in
set_option maxHeartbeats 40000000 in
theorem rm_cod (l : Launch) (Z : State) (a0 : Array Value) (hw : ∀ d ∈ tables_1, d.before a0 Z = true) (a : Addr) (h0 : Heap) (cs : Int32) (S_cs : Sta Z h0 "java/lang/String" "COMPACT_STRINGS" "Z" (.int cs)) (hcs : ¬ cs = 0) (Fc : Fld Z h0 a "java/lang/String" "coder" "B" (.int 0)) :
    Ctr l Z (⟨"java/lang/String", "coder", "()B"⟩ : MethodName) jdk_42_method_152_code 1 (Option.some FieldType.byte) [] ({ frames := 0, cells := 0, slots := 0, locals := 0 } : Room) ({ frames := 0, cells := 0, slots := 0, locals := 0 } : Room).cells ({ frames := 0, cells := 0, slots := 0, locals := 0 } : Room).slots #[(.ref a)] h0 (fun u h L => u = some (.int 0) ∧ L = [] ∧ h = h0) := by
  refine Ctr.of pn_15 ?_
  intro p e s m below meth c s₁ hx hby hml hown hnm hret hlk hZ X0 e0
  refine Goes.cast (ef_rm_cod m a) ?_
  refine g_getS X0 hx hZ hown (wd hw 4 rfl) e0 S_cs (hb hby d17_0) rfl ?_
  intro T16 X16 e16
  refine g_if_eq X16 hx (hb hby d17_3) (by decide) (pt := 13) (by decide) rfl (fun q_ => absurd q_ (hcs)) (fun _ => ?_)
  refine g_aload_n (i := 0) X16 hx (hb hby d17_6) (by rfl) rfl rfl ?_
  refine g_getF X16 hx hZ hown (wd hw 24 rfl) e16 Fc (hb hby d17_7) rfl ?_
  intro T17 X17 e17
  refine g_goto X17 hx (hb hby d17_10) (by decide) (by decide) (pc' := 14) ?_
  exact g_retN X17 hx (t := .byte) (by simp) hlk hret e17 (by decide) (by decide) (hb hby d17_14) ⟨rfl, rfl, rfl⟩
theorem ef_rm_len (m : MethodId) (x0 : Addr)  : entryFrame m #[(.ref x0)] 1 = mkF m 0 #[.val (.ref x0)] [] := by first | (simp [entryFrame, mkF, argsToLocals, Value.category]; done) | rfl
theorem pn_18 : plainFor (⟨"java/lang/String", "length", "()I"⟩ : MethodName) = true := by first | exact plainFor_of_name (by first | (simp [plainName, overriddenIn]; done) | decide +kernel) | decide +kernel
theorem pd_20 : parseMethodDescriptor "()B" = some ⟨[], some .byte⟩ := by decide +kernel
set_option maxRecDepth 65536 in
set_option maxHeartbeats 40000000 in
theorem rm_len (l : Launch) (Z : State) (a0 : Array Value) (hw : ∀ d ∈ tables_1, d.before a0 Z = true) (a b : Addr) (l1 : List Int32) (h0 : Heap) (cs : Int32) (S_cs : Sta Z h0 "java/lang/String" "COMPACT_STRINGS" "Z" (.int cs)) (hcs : ¬ cs = 0) (F : own_S Z h0 a b l1) :
    Ctr l Z (⟨"java/lang/String", "length", "()I"⟩ : MethodName) jdk_42_method_54_code 1 (Option.some FieldType.int) [] ({ frames := 1, cells := 0, slots := 0, locals := 13 } : Room) ({ frames := 1, cells := 0, slots := 0, locals := 13 } : Room).cells ({ frames := 1, cells := 0, slots := 0, locals := 13 } : Room).slots #[(.ref a)] h0 (fun u h L => u = some (.int l1.length.toInt32) ∧ L = [] ∧ h = h0) := by
  refine Ctr.of pn_18 ?_
  intro p e s m below meth c s₁ hx hby hml hown hnm hret hlk hZ X0 e0
  refine Goes.cast (ef_rm_len m a) ?_
  refine g_aload_n (i := 0) X0 hx (hb hby d16_0) (by rfl) rfl rfl ?_
  refine g_getF X0 hx hZ hown (wd hw 22 rfl) e0 F.2.2.1 (hb hby d16_1) rfl ?_
  intro T19 X19 e19
  refine g_arraylengthI X19 hx hZ e19 F.2.2.2.1 (z := l1.length.toInt32) rfl (hb hby d16_4) rfl ?_
  refine g_aload_n (i := 0) X19 hx (hb hby d16_5) (by rfl) rfl rfl ?_
  refine g_callV X19 hx hZ hown (wd hw 97 rfl) (wd hw 98 rfl) (wd hw 100 rfl) (wd hw 99 rfl) (wd hw 2 rfl) (wd hw 101 rfl) (by decide) e19 a F.1 (rm_cod l Z a0 hw a h0 cs S_cs hcs F.2.1) (by rw [hml]; rfl) [] [(.int l1.length.toInt32)] rfl (lenOf pd_20 rfl) rfl (by show 1 + (1 + 11) + 0 ≤ _; decide) (by decide) (by decide) (by decide) (hb hby d16_6) rfl ?_
  intro T20 v20 L20 X20 hQ20
  obtain ⟨rfl, rfl, e20⟩ := hQ20
  show Goes p e below _ T20 (mkF m 9 #[.val (.ref a)] [(.int (0 : Int32)), (.int l1.length.toInt32)])
  refine g_ishr X20 hx (hb hby d16_9) rfl ?_
  exact g_retI X20 hx hlk hret e20 (by decide) (by decide) (hb hby d16_10) ⟨by rw [own_shr0], rfl, rfl⟩
theorem ef_rm_asbi (m : MethodId) (x0 : Addr) (x1 : Int32)  : entryFrame m #[(.ref x0), (.int x1)] 2 = mkF m 0 #[.val (.ref x0), .val (.int x1)] [] := by first | (simp [entryFrame, mkF, argsToLocals, Value.category]; done) | rfl
theorem pn_21 : plainFor (⟨"java/lang/AbstractStringBuilder", "<init>", "(I)V"⟩ : MethodName) = true := by first | exact plainFor_of_name (by first | (simp [plainName, overriddenIn]; done) | decide +kernel) | decide +kernel
set_option maxRecDepth 65536 in
set_option maxHeartbeats 40000000 in
theorem rm_asbi (l : Launch) (Z : State) (a0 : Array Value) (hw : ∀ d ∈ tables_1, d.before a0 Z = true) (a : Addr) (h0 : Heap) (n0 : Nat) (ga : n0 ≤ a) (cs : Int32) (S_cs : Sta Z h0 "java/lang/String" "COMPACT_STRINGS" "Z" (.int cs)) (hcs : ¬ cs = 0) (E : Exa Z h0 a "java/lang/StringBuilder") (F1 : Fld Z h0 a "java/lang/AbstractStringBuilder" "value" "[B" .null) (F2 : Fld Z h0 a "java/lang/AbstractStringBuilder" "coder" "B" (.int 0)) (F3 : Fld Z h0 a "java/lang/AbstractStringBuilder" "count" "I" (.int 0)) :
    Ctr l Z (⟨"java/lang/AbstractStringBuilder", "<init>", "(I)V"⟩ : MethodName) jdk_68_method_2_code 2 (Option.none : Option FieldType) [] ({ frames := 1, cells := 1, slots := 16, locals := 12 } : Room) ({ frames := 1, cells := 1, slots := 16, locals := 12 } : Room).cells ({ frames := 1, cells := 1, slots := 16, locals := 12 } : Room).slots #[(.ref a), (.int (16 : Int32))] h0 (fun u h L => u = none ∧ Fr n0 L ∧ Keep h0 h [a] ∧ ∃ b, h0.size ≤ b ∧ own_B Z h a b []) := by
  refine Ctr.of pn_21 ?_
  intro p e s m below meth c s₁ hx hby hml hown hnm hret hlk hZ X0 e0
  refine Goes.cast (ef_rm_asbi m a (16 : Int32)) ?_
  refine g_aload_n (i := 0) X0 hx (hb hby d13_0) (by rfl) rfl rfl ?_
  refine g_initO X0 hx hZ hown (wd hw 76 rfl) (wd hw 20 rfl) (wd hw 21 rfl) e0 (by rw [hml]; rfl) (hb hby d13_1) rfl (by decide) (by decide) ?_
  intro T22 X22 e22
  refine g_getS X22 hx hZ hown (wd hw 77 rfl) e22 S_cs (hb hby d13_4) rfl ?_
  intro T23 X23 e23
  refine g_if_eq X23 hx (hb hby d13_7) (by decide) (pt := 25) (by decide) rfl (fun q_ => absurd q_ (hcs)) (fun _ => ?_)
  refine g_aload_n (i := 0) X23 hx (hb hby d13_10) (by rfl) rfl rfl ?_
  refine g_iload_n (i := 1) X23 hx (hb hby d13_11) (by rfl) rfl ?_
  refine g_newarr X23 hx hZ (ty := .byte) rfl (wd hw 14 rfl) e23 (hb hby d13_12) rfl (by decide) 16 (by decide) (by decide) (by decide) (by decide) ?_
  intro T24 h24 cA24 a24 X24 e24 g24 Ex24 A24
  have Ab : ArI Z h24 a24 .byte 16 (fun _ => 0) := ArI.new A24 0 rfl
  have K0 := (Keep.refl h0 [a]).ext Ex24
  have hab : a24 ≠ a := fun q => by have := E.lt; rw [← q, g24] at this; exact Nat.lt_irrefl _ this
  have G1 := F1.ext Ex24
  have G2 := F2.ext Ex24
  have G3 := F3.ext Ex24
  have E1 := E.ext Ex24
  refine g_putF X24 hx hZ hown (wd hw 78 rfl) e24 G1 E1 (Or.inl (wd hw 79 rfl)) (wd hw 65 rfl) (ty := (.array .byte)) (by decide) rfl rfl (hb hby d13_14) rfl ?_
  intro T25 h25 X25 e25 W25
  have N25 := Fr.snoc X25 (Fr.nil n0) ga
  have E25_ := E1.wr W25
  have F25_value := G1.same W25
  have F25_coder := G2.other W25 (Or.inr (slot_ne (C := "java/lang/StringBuilder") (Or.inl (wd hw 81 rfl)) (Or.inl (wd hw 79 rfl)) (by decide) (t := .byte) (t' := (.array .byte)) (by decide) (by decide)))
  have F25_count := G3.other W25 (Or.inr (slot_ne (C := "java/lang/StringBuilder") (Or.inl (wd hw 103 rfl)) (Or.inl (wd hw 79 rfl)) (by decide) (t := .int) (t' := (.array .byte)) (by decide) (by decide)))
  have K25 := K0.wr W25 (Or.inl (List.mem_singleton.mpr rfl))
  have Ab1 := Ab.other W25 hab
  refine g_aload_n (i := 0) X25 hx (hb hby d13_17) (by rfl) rfl rfl ?_
  refine g_iconst (v := (0 : Int32)) X25 hx (hb hby d13_18) (by decide) rfl ?_
  refine g_putF X25 hx hZ hown (wd hw 80 rfl) e25 F25_coder E25_ (Or.inl (wd hw 81 rfl)) (wd hw 65 rfl) (ty := .byte) (by decide) rfl rfl (hb hby d13_19) rfl ?_
  intro T26 h26 X26 e26 W26
  have N26 := Fr.snoc X26 N25 ga
  have E26_ := E25_.wr W26
  have F26_value := F25_value.other W26 (Or.inr (slot_ne (C := "java/lang/StringBuilder") (Or.inl (wd hw 79 rfl)) (Or.inl (wd hw 81 rfl)) (by decide) (t := (.array .byte)) (t' := .byte) (by decide) (by decide)))
  have F26_coder := F25_coder.same W26
  have F26_count := F25_count.other W26 (Or.inr (slot_ne (C := "java/lang/StringBuilder") (Or.inl (wd hw 103 rfl)) (Or.inl (wd hw 81 rfl)) (by decide) (t := .int) (t' := .byte) (by decide) (by decide)))
  have K26 := K25.wr W26 (Or.inl (List.mem_singleton.mpr rfl))
  have Ab2 := Ab1.other W26 hab
  refine g_goto X26 hx (hb hby d13_22) (by decide) (by decide) (pc' := 38) ?_
  exact g_ret X26 hx hlk hret e26 (by decide) (by decide) (hb hby d13_38) ⟨rfl, N26, K26, a24, by rw [g24]; exact Nat.le_refl _, E26_, F26_value, F26_coder, F26_count, by simpa using Ab2, fun i => by simp [fits], hab⟩
theorem ef_rm_sbi (m : MethodId) (x0 : Addr)  : entryFrame m #[(.ref x0)] 1 = mkF m 0 #[.val (.ref x0)] [] := by first | (simp [entryFrame, mkF, argsToLocals, Value.category]; done) | rfl
theorem pn_27 : plainFor (⟨"java/lang/StringBuilder", "<init>", "()V"⟩ : MethodName) = true := by first | exact plainFor_of_name (by first | (simp [plainName, overriddenIn]; done) | decide +kernel) | decide +kernel
theorem pd_28 : parseMethodDescriptor "(I)V" = some ⟨[.int], none⟩ := by decide +kernel
set_option maxRecDepth 65536 in
set_option maxHeartbeats 40000000 in
theorem rm_sbi (l : Launch) (Z : State) (a0 : Array Value) (hw : ∀ d ∈ tables_1, d.before a0 Z = true) (a : Addr) (h0 : Heap) (n0 : Nat) (ga : n0 ≤ a) (cs : Int32) (S_cs : Sta Z h0 "java/lang/String" "COMPACT_STRINGS" "Z" (.int cs)) (hcs : ¬ cs = 0) (E : Exa Z h0 a "java/lang/StringBuilder") (F1 : Fld Z h0 a "java/lang/AbstractStringBuilder" "value" "[B" .null) (F2 : Fld Z h0 a "java/lang/AbstractStringBuilder" "coder" "B" (.int 0)) (F3 : Fld Z h0 a "java/lang/AbstractStringBuilder" "count" "I" (.int 0)) :
    Ctr l Z (⟨"java/lang/StringBuilder", "<init>", "()V"⟩ : MethodName) jdk_67_method_1_code 1 (Option.none : Option FieldType) [] ({ frames := 2, cells := 1, slots := 16, locals := 25 } : Room) ({ frames := 2, cells := 1, slots := 16, locals := 25 } : Room).cells ({ frames := 2, cells := 1, slots := 16, locals := 25 } : Room).slots #[(.ref a)] h0 (fun u h L => u = none ∧ Fr n0 L ∧ Keep h0 h [a] ∧ ∃ b, h0.size ≤ b ∧ own_B Z h a b []) := by
  refine Ctr.of pn_27 ?_
  intro p e s m below meth c s₁ hx hby hml hown hnm hret hlk hZ X0 e0
  refine Goes.cast (ef_rm_sbi m a) ?_
  refine g_aload_n (i := 0) X0 hx (hb hby d12_0) (by rfl) rfl rfl ?_
  refine g_bipush (v := (16 : Int32)) X0 hx (hb hby d12_1) (by decide) rfl ?_
  refine g_callI X0 hx hZ rfl hown (wd hw 70 rfl) (wd hw 71 rfl) (wd hw 74 rfl) (wd hw 75 rfl) (by decide) e0 (rm_asbi l Z a0 hw a h0 n0 ga cs S_cs hcs E F1 F2 F3) (by rw [hml]; rfl) a [(.int (16 : Int32))] [] rfl (lenOf pd_28 rfl) rfl (by show 0 + (2 + 11) + 12 ≤ _; decide) (by decide) (by decide) (by decide) (hb hby d12_3) rfl ?_
  intro T28 v28 L28 X28 hQ28
  obtain ⟨rfl, N28, K28, b, hbz, Bb⟩ := hQ28
  have N28 := Fr.app (Fr.nil n0) N28
  show Goes p e below _ T28 (mkF m 6 #[.val (.ref a)] [])
  exact g_ret X28 hx hlk hret rfl (by decide) (by decide) (hb hby d12_6) ⟨rfl, N28, K28, b, hbz, Bb⟩
theorem ef_rm_eci (m : MethodId) (x0 : Addr) (x1 : Int32)  : entryFrame m #[(.ref x0), (.int x1)] 3 = mkF m 0 #[.val (.ref x0), .val (.int x1), .unset] [] := by first | (simp [entryFrame, mkF, argsToLocals, Value.category]; done) | rfl
theorem pn_29 : plainFor (⟨"java/lang/AbstractStringBuilder", "ensureCapacityInternal", "(I)V"⟩ : MethodName) = true := by first | exact plainFor_of_name (by first | (simp [plainName, overriddenIn]; done) | decide +kernel) | decide +kernel
set_option maxRecDepth 65536 in
set_option maxHeartbeats 40000000 in
theorem rm_eci (l : Launch) (Z : State) (a0 : Array Value) (hw : ∀ d ∈ tables_1, d.before a0 Z = true) (a b : Addr) (l1 : List Int32) (v : Int32) (h0 : Heap) (B : own_B Z h0 a b l1) (v0 : 0 ≤ v.toInt) (v1 : v.toInt ≤ 16) :
    Ctr l Z (⟨"java/lang/AbstractStringBuilder", "ensureCapacityInternal", "(I)V"⟩ : MethodName) jdk_68_method_9_code 3 (Option.none : Option FieldType) [] ({ frames := 0, cells := 0, slots := 0, locals := 0 } : Room) ({ frames := 0, cells := 0, slots := 0, locals := 0 } : Room).cells ({ frames := 0, cells := 0, slots := 0, locals := 0 } : Room).slots #[(.ref a), (.int v)] h0 (fun u h L => u = none ∧ L = [] ∧ h = h0) := by
  refine Ctr.of pn_29 ?_
  intro p e s m below meth c s₁ hx hby hml hown hnm hret hlk hZ X0 e0
  refine Goes.cast (ef_rm_eci m a v) ?_
  refine g_aload_n (i := 0) X0 hx (hb hby d18_0) (by rfl) rfl rfl ?_
  refine g_getF X0 hx hZ hown (wd hw 78 rfl) e0 B.2.1 (hb hby d18_1) rfl ?_
  intro T30 X30 e30
  refine g_arraylengthI X30 hx hZ e30 B.2.2.2.2.1 (z := (16 : Int32)) (show _ = (16 : Int32) by decide) (hb hby d18_4) rfl ?_
  refine g_aload_n (i := 0) X30 hx (hb hby d18_5) (by rfl) rfl rfl ?_
  refine g_getF X30 hx hZ hown (wd hw 80 rfl) e30 B.2.2.1 (hb hby d18_6) rfl ?_
  intro T31 X31 e31
  refine g_ishr X31 hx (hb hby d18_9) rfl ?_
  rw [own_shr0]
  refine g_istore_n (i := 2) X31 hx #[.val (.ref a), .val (.int v), .val (.int (16 : Int32))] (hb hby d18_10) rfl rfl ?_
  refine g_iload_n (i := 1) X31 hx (hb hby d18_11) (by rfl) rfl ?_
  refine g_iload_n (i := 2) X31 hx (hb hby d18_12) (by rfl) rfl ?_
  refine g_isub X31 hx (hb hby d18_13) rfl ?_
  refine g_if_le X31 hx (hb hby d18_14) (by decide) (pt := 38) (by decide) rfl (fun _ => ?_) (fun q_ => absurd q_ (by
    rw [own_ltI]
    have e := c_isub v 16
    have r := rng32 (v - 16)
    rw [show (16 : Int32).toInt = 16 from rfl] at e
    rw [show (0 : Int32).toInt = 0 from rfl]
    omega))
  exact g_ret X31 hx hlk hret e31 (by decide) (by decide) (hb hby d18_38) ⟨rfl, rfl, rfl⟩
theorem ef_rm_inf (m : MethodId) (x0 : Addr) (x1 : Addr)  : entryFrame m #[(.ref x0), (.ref x1)] 2 = mkF m 0 #[.val (.ref x0), .val (.ref x1)] [] := by first | (simp [entryFrame, mkF, argsToLocals, Value.category]; done) | rfl
theorem pn_32 : plainFor (⟨"java/lang/AbstractStringBuilder", "inflateIfNeededFor", "(Ljava/lang/String;)V"⟩ : MethodName) = true := by first | exact plainFor_of_name (by first | (simp [plainName, overriddenIn]; done) | decide +kernel) | decide +kernel
set_option maxRecDepth 65536 in
set_option maxHeartbeats 40000000 in
theorem rm_inf (l : Launch) (Z : State) (a0 : Array Value) (hw : ∀ d ∈ tables_1, d.before a0 Z = true) (a b : Addr) (l1 : List Int32) (sa sb : Addr) (o : List Int32) (h0 : Heap) (cs : Int32) (S_cs : Sta Z h0 "java/lang/String" "COMPACT_STRINGS" "Z" (.int cs)) (hcs : ¬ cs = 0) (B : own_B Z h0 a b l1) (F : own_S Z h0 sa sb o) :
    Ctr l Z (⟨"java/lang/AbstractStringBuilder", "inflateIfNeededFor", "(Ljava/lang/String;)V"⟩ : MethodName) jdk_68_method_71_code 2 (Option.none : Option FieldType) [] ({ frames := 1, cells := 0, slots := 0, locals := 13 } : Room) ({ frames := 1, cells := 0, slots := 0, locals := 13 } : Room).cells ({ frames := 1, cells := 0, slots := 0, locals := 13 } : Room).slots #[(.ref a), (.ref sa)] h0 (fun u h L => u = none ∧ L = [] ∧ h = h0) := by
  refine Ctr.of pn_32 ?_
  intro p e s m below meth c s₁ hx hby hml hown hnm hret hlk hZ X0 e0
  refine Goes.cast (ef_rm_inf m a sa) ?_
  refine g_getS X0 hx hZ hown (wd hw 77 rfl) e0 S_cs (hb hby d20_0) rfl ?_
  intro T33 X33 e33
  refine g_if_eq X33 hx (hb hby d20_3) (by decide) (pt := 21) (by decide) rfl (fun q_ => absurd q_ (hcs)) (fun _ => ?_)
  refine g_aload_n (i := 0) X33 hx (hb hby d20_6) (by rfl) rfl rfl ?_
  refine g_getF X33 hx hZ hown (wd hw 80 rfl) e33 B.2.2.1 (hb hby d20_7) rfl ?_
  intro T34 X34 e34
  refine g_aload_n (i := 1) X34 hx (hb hby d20_10) (by rfl) rfl rfl ?_
  refine g_callV X34 hx hZ hown (wd hw 119 rfl) (wd hw 98 rfl) (wd hw 100 rfl) (wd hw 99 rfl) (wd hw 2 rfl) (wd hw 101 rfl) (by decide) e34 sa F.1 (rm_cod l Z a0 hw sa h0 cs S_cs hcs F.2.1) (by rw [hml]; rfl) [] [(.int (0 : Int32))] rfl (lenOf pd_20 rfl) rfl (by show 1 + (1 + 11) + 0 ≤ _; decide) (by decide) (by decide) (by decide) (hb hby d20_11) rfl ?_
  intro T35 v35 L35 X35 hQ35
  obtain ⟨rfl, rfl, e35⟩ := hQ35
  show Goes p e below _ T35 (mkF m 14 #[.val (.ref a), .val (.ref sa)] [(.int (0 : Int32)), (.int (0 : Int32))])
  refine g_icmp_eq X35 hx (hb hby d20_14) (by decide) (pt := 21) (by decide) rfl (fun _ => ?_) (fun q_ => absurd (rfl) q_)
  exact g_ret X35 hx hlk hret e35 (by decide) (by decide) (hb hby d20_21) ⟨rfl, rfl, rfl⟩
theorem ef_rm_gb (m : MethodId) (x0 : Addr) (x1 : Addr) (x2 : Int32) (x3 : Int32)  : entryFrame m #[(.ref x0), (.ref x1), (.int x2), (.int x3)] 4 = mkF m 0 #[.val (.ref x0), .val (.ref x1), .val (.int x2), .val (.int x3)] [] := by first | (simp [entryFrame, mkF, argsToLocals, Value.category]; done) | rfl
theorem pn_36 : plainFor (⟨"java/lang/String", "getBytes", "([BIB)V"⟩ : MethodName) = true := by first | exact plainFor_of_name (by first | (simp [plainName, overriddenIn]; done) | decide +kernel) | decide +kernel
set_option maxRecDepth 65536 in
set_option maxHeartbeats 40000000 in
theorem rm_gb (l : Launch) (Z : State) (a0 : Array Value) (hw : ∀ d ∈ tables_1, d.before a0 Z = true) (sa sb b : Addr) (l1 o : List Int32) (h0 : Heap) (n0 : Nat) (gb : n0 ≤ b) (cs : Int32) (S_cs : Sta Z h0 "java/lang/String" "COMPACT_STRINGS" "Z" (.int cs)) (hcs : ¬ cs = 0) (F : own_S Z h0 sa sb o) (Ab : ArI Z h0 b .byte 16 (fun i => l1.getD i 0)) (Hb : own_by l1) (hlen : l1.length + o.length ≤ 16) :
    Ctr l Z (⟨"java/lang/String", "getBytes", "([BIB)V"⟩ : MethodName) jdk_42_method_147_code 4 (Option.none : Option FieldType) [] ({ frames := 1, cells := 0, slots := 0, locals := 18 } : Room) ({ frames := 1, cells := 0, slots := 0, locals := 18 } : Room).cells ({ frames := 1, cells := 0, slots := 0, locals := 18 } : Room).slots #[(.ref sa), (.ref b), (.int l1.length.toInt32), (.int (0 : Int32))] h0 (fun u h L => u = none ∧ Fr n0 L ∧ Keep h0 h [b] ∧ ArI Z h b .byte 16 (fun i => (l1 ++ o).getD i 0)) := by
  refine Ctr.of pn_36 ?_
  intro p e s m below meth c s₁ hx hby hml hown hnm hret hlk hZ X0 e0
  refine Goes.cast (ef_rm_gb m sa b l1.length.toInt32 (0 : Int32)) ?_
  refine g_aload_n (i := 0) X0 hx (hb hby d21_0) (by rfl) rfl rfl ?_
  refine g_callV X0 hx hZ hown (wd hw 97 rfl) (wd hw 98 rfl) (wd hw 100 rfl) (wd hw 99 rfl) (wd hw 2 rfl) (wd hw 101 rfl) (by decide) e0 sa F.1 (rm_cod l Z a0 hw sa h0 cs S_cs hcs F.2.1) (by rw [hml]; rfl) [] [] rfl (lenOf pd_20 rfl) rfl (by show 0 + (1 + 11) + 0 ≤ _; decide) (by decide) (by decide) (by decide) (hb hby d21_1) rfl ?_
  intro T37 v37 L37 X37 hQ37
  obtain ⟨rfl, rfl, e37⟩ := hQ37
  have N37 := Fr.app (Fr.nil n0) (Fr.nil n0)
  show Goes p e below _ T37 (mkF m 4 #[.val (.ref sa), .val (.ref b), .val (.int l1.length.toInt32), .val (.int (0 : Int32))] [(.int (0 : Int32))])
  refine g_iload_n (i := 3) X37 hx (hb hby d21_4) (by rfl) rfl ?_
  refine g_icmp_ne X37 hx (hb hby d21_5) (by decide) (pt := 28) (by decide) rfl (fun q_ => absurd (rfl) q_) (fun _ => ?_)
  refine g_aload_n (i := 0) X37 hx (hb hby d21_8) (by rfl) rfl rfl ?_
  refine g_getF X37 hx hZ hown (wd hw 22 rfl) e37 F.2.2.1 (hb hby d21_9) rfl ?_
  intro T38 X38 e38
  refine g_iconst (v := (0 : Int32)) X38 hx (hb hby d21_12) (by decide) rfl ?_
  refine g_aload_n (i := 1) X38 hx (hb hby d21_13) (by rfl) rfl rfl ?_
  refine g_iload_n (i := 2) X38 hx (hb hby d21_14) (by rfl) rfl ?_
  refine g_iload_n (i := 3) X38 hx (hb hby d21_15) (by rfl) rfl ?_
  refine g_ishl X38 hx (hb hby d21_16) rfl ?_
  refine g_aload_n (i := 0) X38 hx (hb hby d21_17) (by rfl) rfl rfl ?_
  refine g_getF X38 hx hZ hown (wd hw 22 rfl) e38 F.2.2.1 (hb hby d21_18) rfl ?_
  intro T39 X39 e39
  refine g_arraylengthI X39 hx hZ e39 F.2.2.2.1 (z := o.length.toInt32) rfl (hb hby d21_21) rfl ?_
  refine g_acopy X39 hx hZ (n := o.length) (n' := 16) (sp := 0) (dp := l1.length) (nn := o.length) (n0 := n0) hown (wd hw 125 rfl) (wd hw 128 rfl) (wd hw 126 rfl) (wd hw 127 rfl) e39 F.2.2.2.1 (fun i _ => F.2.2.2.2 i) Ab (fun i _ => Hb i) (by omega) (by omega) rfl (own_shl0 _) rfl (by omega) (by omega) N37 gb (by rw [hml]; rfl) (by decide) (by rw [nativeFrameWords_plain 5 (by decide)]; decide) (hb hby d21_22) rfl ?_
  intro T40 h40 L40 X40 e40 N40 K40 Ar40
  rw [own_app] at Ar40
  refine g_goto X40 hx (hb hby d21_25) (by decide) (by decide) (pc' := 43) ?_
  exact g_ret X40 hx hlk hret e40 (by decide) (by decide) (hb hby d21_43) ⟨rfl, N40, K40, Ar40⟩
theorem ef_rm_psa (m : MethodId) (x0 : Addr) (x1 : Int32) (x2 : Addr)  : entryFrame m #[(.ref x0), (.int x1), (.ref x2)] 3 = mkF m 0 #[.val (.ref x0), .val (.int x1), .val (.ref x2)] [] := by first | (simp [entryFrame, mkF, argsToLocals, Value.category]; done) | rfl
theorem pn_41 : plainFor (⟨"java/lang/AbstractStringBuilder", "putStringAt", "(ILjava/lang/String;)V"⟩ : MethodName) = true := by first | exact plainFor_of_name (by first | (simp [plainName, overriddenIn]; done) | decide +kernel) | decide +kernel
theorem pd_42 : parseMethodDescriptor "(Ljava/lang/String;)V" = some ⟨[(.object "java/lang/String")], none⟩ := by decide +kernel
theorem pd_45 : parseMethodDescriptor "([BIB)V" = some ⟨[(.array .byte), .int, .byte], none⟩ := by decide +kernel
set_option maxRecDepth 65536 in
set_option maxHeartbeats 40000000 in
theorem rm_psa (l : Launch) (Z : State) (a0 : Array Value) (hw : ∀ d ∈ tables_1, d.before a0 Z = true) (a b : Addr) (l1 : List Int32) (sa sb : Addr) (o : List Int32) (h0 : Heap) (n0 : Nat) (ga : n0 ≤ a) (gb : n0 ≤ b) (cs : Int32) (S_cs : Sta Z h0 "java/lang/String" "COMPACT_STRINGS" "Z" (.int cs)) (hcs : ¬ cs = 0) (B : own_B Z h0 a b l1) (F : own_S Z h0 sa sb o) (hlen : l1.length + o.length ≤ 16) :
    Ctr l Z (⟨"java/lang/AbstractStringBuilder", "putStringAt", "(ILjava/lang/String;)V"⟩ : MethodName) jdk_68_method_73_code 3 (Option.none : Option FieldType) [] ({ frames := 2, cells := 0, slots := 0, locals := 33 } : Room) ({ frames := 2, cells := 0, slots := 0, locals := 33 } : Room).cells ({ frames := 2, cells := 0, slots := 0, locals := 33 } : Room).slots #[(.ref a), (.int l1.length.toInt32), (.ref sa)] h0 (fun u h L => u = none ∧ Fr n0 L ∧ Keep h0 h [b] ∧ ArI Z h b .byte 16 (fun i => (l1 ++ o).getD i 0)) := by
  refine Ctr.of pn_41 ?_
  intro p e s m below meth c s₁ hx hby hml hown hnm hret hlk hZ X0 e0
  refine Goes.cast (ef_rm_psa m a l1.length.toInt32 sa) ?_
  refine g_aload_n (i := 0) X0 hx (hb hby d19_0) (by rfl) rfl rfl ?_
  refine g_aload_n (i := 2) X0 hx (hb hby d19_1) (by rfl) rfl rfl ?_
  refine g_callP2 X0 hx hZ hown (wd hw 114 rfl) (wd hw 117 rfl) (wd hw 116 rfl) (wd hw 115 rfl) (wd hw 74 rfl) (wd hw 118 rfl) (by decide) e0 a B.1 (rm_inf l Z a0 hw a b l1 sa sb o h0 cs S_cs hcs B F) (by rw [hml]; rfl) [(.ref sa)] [] rfl (lenOf pd_42 rfl) rfl (by show 0 + (2 + 11) + 13 ≤ _; decide) (by decide) (by decide) (by decide) (hb hby d19_2) rfl ?_
  intro T42 v42 L42 X42 hQ42
  obtain ⟨rfl, rfl, e42⟩ := hQ42
  have N42 := Fr.app (Fr.nil n0) (Fr.nil n0)
  show Goes p e below _ T42 (mkF m 5 #[.val (.ref a), .val (.int l1.length.toInt32), .val (.ref sa)] [])
  refine g_aload_n (i := 2) X42 hx (hb hby d19_5) (by rfl) rfl rfl ?_
  refine g_aload_n (i := 0) X42 hx (hb hby d19_6) (by rfl) rfl rfl ?_
  refine g_getF X42 hx hZ hown (wd hw 78 rfl) e42 B.2.1 (hb hby d19_7) rfl ?_
  intro T43 X43 e43
  refine g_iload_n (i := 1) X43 hx (hb hby d19_10) (by rfl) rfl ?_
  refine g_aload_n (i := 0) X43 hx (hb hby d19_11) (by rfl) rfl rfl ?_
  refine g_getF X43 hx hZ hown (wd hw 80 rfl) e43 B.2.2.1 (hb hby d19_12) rfl ?_
  intro T44 X44 e44
  refine g_callV X44 hx hZ hown (wd hw 120 rfl) (wd hw 121 rfl) (wd hw 123 rfl) (wd hw 122 rfl) (wd hw 2 rfl) (wd hw 124 rfl) (by decide) e44 sa F.1 (rm_gb l Z a0 hw sa sb b l1 o h0 n0 gb cs S_cs hcs F B.2.2.2.2.1 B.2.2.2.2.2.1 hlen) (by rw [hml]; rfl) [(.ref b), (.int l1.length.toInt32), (.int (0 : Int32))] [] rfl (lenOf pd_45 rfl) rfl (by show 0 + (4 + 11) + 18 ≤ _; decide) (by decide) (by decide) (by decide) (hb hby d19_15) rfl ?_
  intro T45 v45 L45 X45 hQ45
  obtain ⟨rfl, N45, K45, A45⟩ := hQ45
  have N45 := Fr.app N42 N45
  show Goes p e below _ T45 (mkF m 18 #[.val (.ref a), .val (.int l1.length.toInt32), .val (.ref sa)] [])
  exact g_ret X45 hx hlk hret rfl (by decide) (by decide) (hb hby d19_18) ⟨rfl, N45, K45, A45⟩
theorem ef_rm_asba (m : MethodId) (x0 : Addr) (x1 : Addr)  : entryFrame m #[(.ref x0), (.ref x1)] 3 = mkF m 0 #[.val (.ref x0), .val (.ref x1), .unset] [] := by first | (simp [entryFrame, mkF, argsToLocals, Value.category]; done) | rfl
theorem pn_46 : plainFor (⟨"java/lang/AbstractStringBuilder", "append", "(Ljava/lang/String;)Ljava/lang/AbstractStringBuilder;"⟩ : MethodName) = true := by first | exact plainFor_of_name (by first | (simp [plainName, overriddenIn]; done) | decide +kernel) | decide +kernel
theorem pd_47 : parseMethodDescriptor "()I" = some ⟨[], some .int⟩ := by decide +kernel
theorem pd_51 : parseMethodDescriptor "(ILjava/lang/String;)V" = some ⟨[.int, (.object "java/lang/String")], none⟩ := by decide +kernel
set_option maxRecDepth 65536 in
set_option maxHeartbeats 40000000 in
theorem rm_asba (l : Launch) (Z : State) (a0 : Array Value) (hw : ∀ d ∈ tables_1, d.before a0 Z = true) (a b : Addr) (l1 : List Int32) (sa sb : Addr) (o : List Int32) (h0 : Heap) (n0 : Nat) (ga : n0 ≤ a) (gb : n0 ≤ b) (cs : Int32) (S_cs : Sta Z h0 "java/lang/String" "COMPACT_STRINGS" "Z" (.int cs)) (hcs : ¬ cs = 0) (B : own_B Z h0 a b l1) (F : own_S Z h0 sa sb o) (hlen : l1.length + o.length ≤ 16) :
    Ctr l Z (⟨"java/lang/AbstractStringBuilder", "append", "(Ljava/lang/String;)Ljava/lang/AbstractStringBuilder;"⟩ : MethodName) jdk_68_method_22_code 3 (Option.some (FieldType.object "java/lang/AbstractStringBuilder")) [] ({ frames := 3, cells := 0, slots := 0, locals := 47 } : Room) ({ frames := 3, cells := 0, slots := 0, locals := 47 } : Room).cells ({ frames := 3, cells := 0, slots := 0, locals := 47 } : Room).slots #[(.ref a), (.ref sa)] h0 (fun u h L => u = some (.ref a) ∧ Fr n0 L ∧ Keep h0 h [a, b] ∧ own_B Z h a b (l1 ++ o)) := by
  refine Ctr.of pn_46 ?_
  intro p e s m below meth c s₁ hx hby hml hown hnm hret hlk hZ X0 e0
  refine Goes.cast (ef_rm_asba m a sa) ?_
  have hsum : l1.length.toInt32 + o.length.toInt32 = (l1 ++ o).length.toInt32 := by rw [own_add _ _ (by omega), List.length_append]
  refine g_aload_n (i := 1) X0 hx (hb hby d15_0) (by rfl) rfl rfl ?_
  refine g_ifnonnull_t X0 hx (hb hby d15_1) (by decide) (pt := 9) (by decide) ?_
  refine g_aload_n (i := 1) X0 hx (hb hby d15_9) (by rfl) rfl rfl ?_
  refine g_callV X0 hx hZ hown (wd hw 92 rfl) (wd hw 93 rfl) (wd hw 95 rfl) (wd hw 94 rfl) (wd hw 2 rfl) (wd hw 96 rfl) (by decide) e0 sa F.1 (rm_len l Z a0 hw sa sb o h0 cs S_cs hcs F) (by rw [hml]; rfl) [] [] rfl (lenOf pd_47 rfl) rfl (by show 0 + (1 + 11) + 13 ≤ _; decide) (by decide) (by decide) (by decide) (hb hby d15_10) rfl ?_
  intro T47 v47 L47 X47 hQ47
  obtain ⟨rfl, rfl, e47⟩ := hQ47
  have N47 := Fr.app (Fr.nil n0) (Fr.nil n0)
  show Goes p e below _ T47 (mkF m 13 #[.val (.ref a), .val (.ref sa), .unset] [(.int o.length.toInt32)])
  refine g_istore_n (i := 2) X47 hx #[.val (.ref a), .val (.ref sa), .val (.int o.length.toInt32)] (hb hby d15_13) rfl rfl ?_
  refine g_aload_n (i := 0) X47 hx (hb hby d15_14) (by rfl) rfl rfl ?_
  refine g_aload_n (i := 0) X47 hx (hb hby d15_15) (by rfl) rfl rfl ?_
  refine g_getF X47 hx hZ hown (wd hw 102 rfl) e47 B.2.2.2.1 (hb hby d15_16) rfl ?_
  intro T48 X48 e48
  refine g_iload_n (i := 2) X48 hx (hb hby d15_19) (by rfl) rfl ?_
  refine g_iadd X48 hx (hb hby d15_20) rfl ?_
  rw [hsum]
  have hl3 : ((l1 ++ o).length.toInt32).toInt = ((l1 ++ o).length : Int) := len_toInt (by rw [List.length_append]; omega)
  refine g_callP2 X48 hx hZ hown (wd hw 104 rfl) (wd hw 107 rfl) (wd hw 106 rfl) (wd hw 105 rfl) (wd hw 74 rfl) (wd hw 108 rfl) (by decide) e48 a B.1 (rm_eci l Z a0 hw a b l1 (l1 ++ o).length.toInt32 h0 B (by rw [hl3]; exact Int.natCast_nonneg _) (by rw [hl3, List.length_append]; omega)) (by rw [hml]; rfl) [(.int (l1 ++ o).length.toInt32)] [] rfl (lenOf pd_28 rfl) rfl (by show 0 + (3 + 11) + 0 ≤ _; decide) (by decide) (by decide) (by decide) (hb hby d15_21) rfl ?_
  intro T49 v49 L49 X49 hQ49
  obtain ⟨rfl, rfl, e49⟩ := hQ49
  have N49 := Fr.app N47 (Fr.nil n0)
  show Goes p e below _ T49 (mkF m 24 #[.val (.ref a), .val (.ref sa), .val (.int o.length.toInt32)] [])
  refine g_aload_n (i := 0) X49 hx (hb hby d15_24) (by rfl) rfl rfl ?_
  refine g_aload_n (i := 0) X49 hx (hb hby d15_25) (by rfl) rfl rfl ?_
  refine g_getF X49 hx hZ hown (wd hw 102 rfl) e49 B.2.2.2.1 (hb hby d15_26) rfl ?_
  intro T50 X50 e50
  refine g_aload_n (i := 1) X50 hx (hb hby d15_29) (by rfl) rfl rfl ?_
  refine g_callP2 X50 hx hZ hown (wd hw 109 rfl) (wd hw 112 rfl) (wd hw 111 rfl) (wd hw 110 rfl) (wd hw 74 rfl) (wd hw 113 rfl) (by decide) e50 a B.1 (rm_psa l Z a0 hw a b l1 sa sb o h0 n0 ga gb cs S_cs hcs B F hlen) (by rw [hml]; rfl) [(.int l1.length.toInt32), (.ref sa)] [] rfl (lenOf pd_51 rfl) rfl (by show 0 + (3 + 11) + 33 ≤ _; decide) (by decide) (by decide) (by decide) (hb hby d15_30) rfl ?_
  intro T51 v51 L51 X51 hQ51
  obtain ⟨rfl, N51, K51, A51⟩ := hQ51
  have N51 := Fr.app N49 N51
  show Goes p e below _ T51 (mkF m 33 #[.val (.ref a), .val (.ref sa), .val (.int o.length.toInt32)] [])
  have nab : a ∉ [b] := fun q => B.2.2.2.2.2.2 (List.mem_singleton.mp q).symm
  have P_value := B.2.1.keep K51 nab
  have P_coder := B.2.2.1.keep K51 nab
  have P_count := B.2.2.2.1.keep K51 nab
  have EP := B.1.keep K51
  have KP : Keep h0 T51.heap [a, b] := (Keep.refl h0 [a, b]).trans K51 (fun x hx => Or.inl (List.mem_cons_of_mem _ hx))
  refine g_aload_n (i := 0) X51 hx (hb hby d15_33) (by rfl) rfl rfl ?_
  refine g_dup X51 hx (hb hby d15_34) rfl rfl ?_
  refine g_getF X51 hx hZ hown (wd hw 102 rfl) rfl P_count (hb hby d15_35) rfl ?_
  intro T52 X52 e52
  refine g_iload_n (i := 2) X52 hx (hb hby d15_38) (by rfl) rfl ?_
  refine g_iadd X52 hx (hb hby d15_39) rfl ?_
  rw [hsum]
  refine g_putF X52 hx hZ hown (wd hw 102 rfl) e52 P_count EP (Or.inl (wd hw 103 rfl)) (wd hw 65 rfl) (ty := .int) (by decide) rfl rfl (hb hby d15_40) rfl ?_
  intro T53 h53 X53 e53 W53
  have N53 := Fr.snoc X53 N51 ga
  have E53_ := EP.wr W53
  have F53_value := P_value.other W53 (Or.inr (slot_ne (C := "java/lang/StringBuilder") (Or.inl (wd hw 79 rfl)) (Or.inl (wd hw 103 rfl)) (by decide) (t := (.array .byte)) (t' := .int) (by decide) (by decide)))
  have F53_coder := P_coder.other W53 (Or.inr (slot_ne (C := "java/lang/StringBuilder") (Or.inl (wd hw 81 rfl)) (Or.inl (wd hw 103 rfl)) (by decide) (t := .byte) (t' := .int) (by decide) (by decide)))
  have F53_count := P_count.same W53
  refine g_aload_n (i := 0) X53 hx (hb hby d15_43) (by rfl) rfl rfl ?_
  exact g_retA X53 hx rfl rfl hlk hret e53 (by decide) (by decide) (hb hby d15_44) ⟨rfl, N53, KP.wr W53 (Or.inl List.mem_cons_self), E53_, F53_value, F53_coder, F53_count, A51.other W53 B.2.2.2.2.2.2, B.2.2.2.2.2.1.app F.2.2.2.2, B.2.2.2.2.2.2⟩
theorem ef_rm_ap (m : MethodId) (x0 : Addr) (x1 : Addr)  : entryFrame m #[(.ref x0), (.ref x1)] 2 = mkF m 0 #[.val (.ref x0), .val (.ref x1)] [] := by first | (simp [entryFrame, mkF, argsToLocals, Value.category]; done) | rfl
theorem pn_54 : plainFor (⟨"java/lang/StringBuilder", "append", "(Ljava/lang/String;)Ljava/lang/StringBuilder;"⟩ : MethodName) = true := by first | exact plainFor_of_name (by first | (simp [plainName, overriddenIn]; done) | decide +kernel) | decide +kernel
theorem pd_55 : parseMethodDescriptor "(Ljava/lang/String;)Ljava/lang/AbstractStringBuilder;" = some ⟨[(.object "java/lang/String")], some (.object "java/lang/AbstractStringBuilder")⟩ := by decide +kernel
set_option maxRecDepth 65536 in
set_option maxHeartbeats 40000000 in
theorem rm_ap (l : Launch) (Z : State) (a0 : Array Value) (hw : ∀ d ∈ tables_1, d.before a0 Z = true) (a b : Addr) (l1 : List Int32) (sa sb : Addr) (o : List Int32) (h0 : Heap) (n0 : Nat) (ga : n0 ≤ a) (gb : n0 ≤ b) (cs : Int32) (S_cs : Sta Z h0 "java/lang/String" "COMPACT_STRINGS" "Z" (.int cs)) (hcs : ¬ cs = 0) (B : own_B Z h0 a b l1) (F : own_S Z h0 sa sb o) (hlen : l1.length + o.length ≤ 16) :
    Ctr l Z (⟨"java/lang/StringBuilder", "append", "(Ljava/lang/String;)Ljava/lang/StringBuilder;"⟩ : MethodName) jdk_67_method_7_code 2 (Option.some (FieldType.object "java/lang/StringBuilder")) [] ({ frames := 4, cells := 0, slots := 0, locals := 61 } : Room) ({ frames := 4, cells := 0, slots := 0, locals := 61 } : Room).cells ({ frames := 4, cells := 0, slots := 0, locals := 61 } : Room).slots #[(.ref a), (.ref sa)] h0 (fun u h L => u = some (.ref a) ∧ Fr n0 L ∧ Keep h0 h [a, b] ∧ own_B Z h a b (l1 ++ o)) := by
  refine Ctr.of pn_54 ?_
  intro p e s m below meth c s₁ hx hby hml hown hnm hret hlk hZ X0 e0
  refine Goes.cast (ef_rm_ap m a sa) ?_
  refine g_aload_n (i := 0) X0 hx (hb hby d14_0) (by rfl) rfl rfl ?_
  refine g_aload_n (i := 1) X0 hx (hb hby d14_1) (by rfl) rfl rfl ?_
  refine g_callU X0 hx hZ hown (wd hw 87 rfl) (wd hw 88 rfl) (wd hw 89 rfl) (wd hw 107 rfl) (wd hw 105 rfl) rfl (wd hw 74 rfl) (wd hw 91 rfl) (by decide) (by decide) e0 a B.1 (rm_asba l Z a0 hw a b l1 sa sb o h0 n0 ga gb cs S_cs hcs B F hlen) (by rw [hml]; rfl) [(.ref sa)] [] rfl (lenOf pd_55 rfl) rfl (by show 0 + (3 + 11) + 47 ≤ _; decide) (by decide) (by decide) (by decide) (hb hby d14_2) rfl ?_
  intro T55 v55 L55 X55 hQ55
  obtain ⟨rfl, N55, K55, B55⟩ := hQ55
  have N55 := Fr.app (Fr.nil n0) N55
  show Goes p e below _ T55 (mkF m 5 #[.val (.ref a), .val (.ref sa)] [(.ref a)])
  refine g_pop X55 hx (hb hby d14_5) rfl rfl ?_
  refine g_aload_n (i := 0) X55 hx (hb hby d14_6) (by rfl) rfl rfl ?_
  exact g_retA X55 hx rfl rfl hlk hret rfl (by decide) (by decide) (hb hby d14_7) ⟨rfl, N55, K55, B55⟩
theorem ef_rm_gv (m : MethodId) (x0 : Addr)  : entryFrame m #[(.ref x0)] 1 = mkF m 0 #[.val (.ref x0)] [] := by first | (simp [entryFrame, mkF, argsToLocals, Value.category]; done) | rfl
theorem pn_56 : plainFor (⟨"java/lang/AbstractStringBuilder", "getValue", "()[B"⟩ : MethodName) = true := by first | exact plainFor_of_name (by first | (simp [plainName, overriddenIn]; done) | decide +kernel) | decide +kernel
set_option maxRecDepth 65536 in
set_option maxHeartbeats 40000000 in
theorem rm_gv (l : Launch) (Z : State) (a0 : Array Value) (hw : ∀ d ∈ tables_1, d.before a0 Z = true) (a b : Addr) (l1 : List Int32) (h0 : Heap) (B : own_B Z h0 a b l1) :
    Ctr l Z (⟨"java/lang/AbstractStringBuilder", "getValue", "()[B"⟩ : MethodName) jdk_68_method_64_code 1 (Option.some (FieldType.array FieldType.byte)) [] ({ frames := 0, cells := 0, slots := 0, locals := 0 } : Room) ({ frames := 0, cells := 0, slots := 0, locals := 0 } : Room).cells ({ frames := 0, cells := 0, slots := 0, locals := 0 } : Room).slots #[(.ref a)] h0 (fun u h L => u = some (.ref b) ∧ L = [] ∧ h = h0) := by
  refine Ctr.of pn_56 ?_
  intro p e s m below meth c s₁ hx hby hml hown hnm hret hlk hZ X0 e0
  refine Goes.cast (ef_rm_gv m a) ?_
  refine g_aload_n (i := 0) X0 hx (hb hby d25_0) (by rfl) rfl rfl ?_
  refine g_getF X0 hx hZ hown (wd hw 78 rfl) e0 B.2.1 (hb hby d25_1) rfl ?_
  intro T57 X57 e57
  exact g_retA X57 hx rfl rfl hlk hret e57 (by decide) (by decide) (hb hby d25_4) ⟨rfl, rfl, rfl⟩
theorem ef_rm_al (m : MethodId) (x0 : Addr)  : entryFrame m #[(.ref x0)] 1 = mkF m 0 #[.val (.ref x0)] [] := by first | (simp [entryFrame, mkF, argsToLocals, Value.category]; done) | rfl
theorem pn_58 : plainFor (⟨"java/lang/AbstractStringBuilder", "length", "()I"⟩ : MethodName) = true := by first | exact plainFor_of_name (by first | (simp [plainName, overriddenIn]; done) | decide +kernel) | decide +kernel
set_option maxRecDepth 65536 in
set_option maxHeartbeats 40000000 in
theorem rm_al (l : Launch) (Z : State) (a0 : Array Value) (hw : ∀ d ∈ tables_1, d.before a0 Z = true) (a b : Addr) (l1 : List Int32) (h0 : Heap) (B : own_B Z h0 a b l1) :
    Ctr l Z (⟨"java/lang/AbstractStringBuilder", "length", "()I"⟩ : MethodName) jdk_68_method_6_code 1 (Option.some FieldType.int) [] ({ frames := 0, cells := 0, slots := 0, locals := 0 } : Room) ({ frames := 0, cells := 0, slots := 0, locals := 0 } : Room).cells ({ frames := 0, cells := 0, slots := 0, locals := 0 } : Room).slots #[(.ref a)] h0 (fun u h L => u = some (.int l1.length.toInt32) ∧ L = [] ∧ h = h0) := by
  refine Ctr.of pn_58 ?_
  intro p e s m below meth c s₁ hx hby hml hown hnm hret hlk hZ X0 e0
  refine Goes.cast (ef_rm_al m a) ?_
  refine g_aload_n (i := 0) X0 hx (hb hby d27_0) (by rfl) rfl rfl ?_
  refine g_getF X0 hx hZ hown (wd hw 102 rfl) e0 B.2.2.2.1 (hb hby d27_1) rfl ?_
  intro T59 X59 e59
  exact g_retI X59 hx hlk hret e59 (by decide) (by decide) (hb hby d27_4) ⟨rfl, rfl, rfl⟩
theorem ef_rm_sl (m : MethodId) (x0 : Addr)  : entryFrame m #[(.ref x0)] 1 = mkF m 0 #[.val (.ref x0)] [] := by first | (simp [entryFrame, mkF, argsToLocals, Value.category]; done) | rfl
theorem pn_60 : plainFor (⟨"java/lang/StringBuilder", "length", "()I"⟩ : MethodName) = true := by first | exact plainFor_of_name (by first | (simp [plainName, overriddenIn]; done) | decide +kernel) | decide +kernel
set_option maxRecDepth 65536 in
set_option maxHeartbeats 40000000 in
theorem rm_sl (l : Launch) (Z : State) (a0 : Array Value) (hw : ∀ d ∈ tables_1, d.before a0 Z = true) (a b : Addr) (l1 : List Int32) (h0 : Heap) (B : own_B Z h0 a b l1) :
    Ctr l Z (⟨"java/lang/StringBuilder", "length", "()I"⟩ : MethodName) jdk_67_method_93_code 1 (Option.some FieldType.int) [] ({ frames := 1, cells := 0, slots := 0, locals := 12 } : Room) ({ frames := 1, cells := 0, slots := 0, locals := 12 } : Room).cells ({ frames := 1, cells := 0, slots := 0, locals := 12 } : Room).slots #[(.ref a)] h0 (fun u h L => u = some (.int l1.length.toInt32) ∧ L = [] ∧ h = h0) := by
  refine Ctr.of pn_60 ?_
  intro p e s m below meth c s₁ hx hby hml hown hnm hret hlk hZ X0 e0
  refine Goes.cast (ef_rm_sl m a) ?_
  refine g_aload_n (i := 0) X0 hx (hb hby d26_0) (by rfl) rfl rfl ?_
  refine g_callU X0 hx hZ hown (wd hw 155 rfl) (wd hw 151 rfl) (wd hw 89 rfl) (wd hw 107 rfl) (wd hw 105 rfl) rfl (wd hw 74 rfl) (wd hw 156 rfl) (by decide) (by decide) e0 a B.1 (rm_al l Z a0 hw a b l1 h0 B) (by rw [hml]; rfl) [] [] rfl (lenOf pd_47 rfl) rfl (by show 0 + (1 + 11) + 0 ≤ _; decide) (by decide) (by decide) (by decide) (hb hby d26_1) rfl ?_
  intro T61 v61 L61 X61 hQ61
  obtain ⟨rfl, rfl, e61⟩ := hQ61
  show Goes p e below _ T61 (mkF m 4 #[.val (.ref a)] [(.int l1.length.toInt32)])
  exact g_retI X61 hx hlk hret e61 (by decide) (by decide) (hb hby d26_4) ⟨rfl, rfl, rfl⟩
theorem ef_rm_il (m : MethodId) (x0 : Addr)  : entryFrame m #[(.ref x0)] 1 = mkF m 0 #[.val (.ref x0)] [] := by first | (simp [entryFrame, mkF, argsToLocals, Value.category]; done) | rfl
theorem pn_62 : plainFor (⟨"java/lang/AbstractStringBuilder", "isLatin1", "()Z"⟩ : MethodName) = true := by first | exact plainFor_of_name (by first | (simp [plainName, overriddenIn]; done) | decide +kernel) | decide +kernel
set_option maxRecDepth 65536 in
set_option maxHeartbeats 40000000 in
theorem rm_il (l : Launch) (Z : State) (a0 : Array Value) (hw : ∀ d ∈ tables_1, d.before a0 Z = true) (a b : Addr) (l1 : List Int32) (h0 : Heap) (cs : Int32) (S_cs : Sta Z h0 "java/lang/String" "COMPACT_STRINGS" "Z" (.int cs)) (hcs : ¬ cs = 0) (B : own_B Z h0 a b l1) :
    Ctr l Z (⟨"java/lang/AbstractStringBuilder", "isLatin1", "()Z"⟩ : MethodName) jdk_68_method_68_code 1 (Option.some FieldType.boolean) [] ({ frames := 0, cells := 0, slots := 0, locals := 0 } : Room) ({ frames := 0, cells := 0, slots := 0, locals := 0 } : Room).cells ({ frames := 0, cells := 0, slots := 0, locals := 0 } : Room).slots #[(.ref a)] h0 (fun u h L => u = some (.int 1) ∧ L = [] ∧ h = h0) := by
  refine Ctr.of pn_62 ?_
  intro p e s m below meth c s₁ hx hby hml hown hnm hret hlk hZ X0 e0
  refine Goes.cast (ef_rm_il m a) ?_
  refine g_getS X0 hx hZ hown (wd hw 77 rfl) e0 S_cs (hb hby d28_0) rfl ?_
  intro T63 X63 e63
  refine g_if_eq X63 hx (hb hby d28_3) (by decide) (pt := 17) (by decide) rfl (fun q_ => absurd q_ (hcs)) (fun _ => ?_)
  refine g_aload_n (i := 0) X63 hx (hb hby d28_6) (by rfl) rfl rfl ?_
  refine g_getF X63 hx hZ hown (wd hw 80 rfl) e63 B.2.2.1 (hb hby d28_7) rfl ?_
  intro T64 X64 e64
  refine g_if_ne X64 hx (hb hby d28_10) (by decide) (pt := 17) (by decide) rfl (fun q_ => absurd (by decide) q_) (fun _ => ?_)
  refine g_iconst (v := (1 : Int32)) X64 hx (hb hby d28_13) (by decide) rfl ?_
  refine g_goto X64 hx (hb hby d28_14) (by decide) (by decide) (pc' := 18) ?_
  exact g_retN X64 hx (t := .boolean) (by simp) hlk hret e64 (by decide) (by decide) (hb hby d28_18) ⟨rfl, rfl, rfl⟩
theorem ef_rm_cl (m : MethodId) (x0 : Int32) (x1 : Int32)  : entryFrame m #[(.int x0), (.int x1)] 2 = mkF m 0 #[.val (.int x0), .val (.int x1)] [] := by first | (simp [entryFrame, mkF, argsToLocals, Value.category]; done) | rfl
theorem pn_65 : plainFor (⟨"java/util/Arrays", "checkLength", "(II)V"⟩ : MethodName) = true := by first | exact plainFor_of_name (by first | (simp [plainName, overriddenIn]; done) | decide +kernel) | decide +kernel
set_option maxRecDepth 65536 in
set_option maxHeartbeats 40000000 in
theorem rm_cl (l : Launch) (Z : State) (a0 : Array Value) (hw : ∀ d ∈ tables_1, d.before a0 Z = true) (v1 v2 : Int32) (h0 : Heap) (q : ¬ v2 < v1) :
    Ctr l Z (⟨"java/util/Arrays", "checkLength", "(II)V"⟩ : MethodName) jdk_65_method_131_code 2 (Option.none : Option FieldType) [] ({ frames := 0, cells := 0, slots := 0, locals := 0 } : Room) ({ frames := 0, cells := 0, slots := 0, locals := 0 } : Room).cells ({ frames := 0, cells := 0, slots := 0, locals := 0 } : Room).slots #[(.int v1), (.int v2)] h0 (fun u h L => u = none ∧ L = [] ∧ h = h0) := by
  refine Ctr.of pn_65 ?_
  intro p e s m below meth c s₁ hx hby hml hown hnm hret hlk hZ X0 e0
  refine Goes.cast (ef_rm_cl m v1 v2) ?_
  refine g_iload_n (i := 1) X0 hx (hb hby d31_0) (by rfl) rfl ?_
  refine g_iload_n (i := 0) X0 hx (hb hby d31_1) (by rfl) rfl ?_
  refine g_icmp_ge X0 hx (hb hby d31_2) (by decide) (pt := 37) (by decide) rfl (fun _ => ?_) (fun q_ => absurd q_ (q))
  exact g_ret X0 hx hlk hret e0 (by decide) (by decide) (hb hby d31_37) ⟨rfl, rfl, rfl⟩
theorem ef_rm_min (m : MethodId) (x0 : Int32) (x1 : Int32)  : entryFrame m #[(.int x0), (.int x1)] 2 = mkF m 0 #[.val (.int x0), .val (.int x1)] [] := by first | (simp [entryFrame, mkF, argsToLocals, Value.category]; done) | rfl
theorem pn_66 : plainFor (⟨"java/lang/Math", "min", "(II)I"⟩ : MethodName) = true := by first | exact plainFor_of_name (by first | (simp [plainName, overriddenIn]; done) | decide +kernel) | decide +kernel
set_option maxRecDepth 65536 in
set_option maxHeartbeats 40000000 in
theorem rm_min (l : Launch) (Z : State) (a0 : Array Value) (hw : ∀ d ∈ tables_1, d.before a0 Z = true) (v1 v2 : Int32) (h0 : Heap) (q : v2 < v1) :
    Ctr l Z (⟨"java/lang/Math", "min", "(II)I"⟩ : MethodName) jdk_29_method_69_code 2 (Option.some FieldType.int) [] ({ frames := 0, cells := 0, slots := 0, locals := 0 } : Room) ({ frames := 0, cells := 0, slots := 0, locals := 0 } : Room).cells ({ frames := 0, cells := 0, slots := 0, locals := 0 } : Room).slots #[(.int v1), (.int v2)] h0 (fun u h L => u = some (.int v2) ∧ L = [] ∧ h = h0) := by
  refine Ctr.of pn_66 ?_
  intro p e s m below meth c s₁ hx hby hml hown hnm hret hlk hZ X0 e0
  refine Goes.cast (ef_rm_min m v1 v2) ?_
  refine g_iload_n (i := 0) X0 hx (hb hby d32_0) (by rfl) rfl ?_
  refine g_iload_n (i := 1) X0 hx (hb hby d32_1) (by rfl) rfl ?_
  refine g_icmp_gt X0 hx (hb hby d32_2) (by decide) (pt := 9) (by decide) rfl (fun _ => ?_) (fun q_ => absurd (q) q_)
  refine g_iload_n (i := 1) X0 hx (hb hby d32_9) (by rfl) rfl ?_
  exact g_retI X0 hx hlk hret e0 (by decide) (by decide) (hb hby d32_10) ⟨rfl, rfl, rfl⟩
theorem ef_rm_crb (m : MethodId) (x0 : Addr) (x1 : Int32) (x2 : Int32)  : entryFrame m #[(.ref x0), (.int x1), (.int x2)] 5 = mkF m 0 #[.val (.ref x0), .val (.int x1), .val (.int x2), .unset, .unset] [] := by first | (simp [entryFrame, mkF, argsToLocals, Value.category]; done) | rfl
theorem pn_67 : plainFor (⟨"java/util/Arrays", "copyOfRangeByte", "([BII)[B"⟩ : MethodName) = true := by first | exact plainFor_of_name (by first | (simp [plainName, overriddenIn]; done) | decide +kernel) | decide +kernel
theorem pd_68 : parseMethodDescriptor "(II)V" = some ⟨[.int, .int], none⟩ := by decide +kernel
theorem pd_70 : parseMethodDescriptor "(II)I" = some ⟨[.int, .int], some .int⟩ := by decide +kernel
set_option maxRecDepth 65536 in
set_option maxHeartbeats 40000000 in
theorem rm_crb (l : Launch) (Z : State) (a0 : Array Value) (hw : ∀ d ∈ tables_1, d.before a0 Z = true) (b : Addr) (l1 : List Int32) (h0 : Heap) (n0 : Nat) (Z0 : n0 ≤ h0.size) (Ab : ArI Z h0 b .byte 16 (fun i => l1.getD i 0)) (Hb : own_by l1) (hl : l1.length < 16) :
    Ctr l Z (⟨"java/util/Arrays", "copyOfRangeByte", "([BII)[B"⟩ : MethodName) jdk_65_method_133_code 5 (Option.some (FieldType.array FieldType.byte)) [] ({ frames := 1, cells := 1, slots := 16, locals := 18 } : Room) ({ frames := 1, cells := 1, slots := 16, locals := 18 } : Room).cells ({ frames := 1, cells := 1, slots := 16, locals := 18 } : Room).slots #[(.ref b), (.int (0 : Int32)), (.int l1.length.toInt32)] h0 (fun u h L => ∃ rb, u = some (.ref rb) ∧ Fr n0 L ∧ Ext h0 h ∧ h0.size ≤ rb ∧ ArI Z h rb .byte l1.length (fun i => l1.getD i 0)) := by
  refine Ctr.of pn_67 ?_
  intro p e s m below meth c s₁ hx hby hml hown hnm hret hlk hZ X0 e0
  refine Goes.cast (ef_rm_crb m b (0 : Int32) l1.length.toInt32) ?_
  have hl3 : (l1.length.toInt32).toInt = (l1.length : Int) := len_toInt (by omega)
  have hs0' : ∀ y : Int32, y - 0 = y := fun y => Int32.sub_zero y
  refine g_iload_n (i := 1) X0 hx (hb hby d30_0) (by rfl) rfl ?_
  refine g_iload_n (i := 2) X0 hx (hb hby d30_1) (by rfl) rfl ?_
  refine g_callS X0 hx hZ hown (wd hw 169 rfl) (wd hw 170 rfl) (wd hw 164 rfl) (wd hw 171 rfl) (by decide) e0 (rm_cl l Z a0 hw 0 l1.length.toInt32 h0 (own_nneg (by rw [hl3]; omega))) (by rw [hml]; rfl) [(.int (0 : Int32)), (.int l1.length.toInt32)] [] rfl (lenOf pd_68 rfl) rfl (by show 0 + (2 + 11) + 0 ≤ _; decide) (by decide) (by decide) (by decide) (hb hby d30_2) rfl ?_
  intro T68 v68 L68 X68 hQ68
  obtain ⟨rfl, rfl, e68⟩ := hQ68
  have N68 := Fr.app (Fr.nil n0) (Fr.nil n0)
  show Goes p e below _ T68 (mkF m 5 #[.val (.ref b), .val (.int (0 : Int32)), .val (.int l1.length.toInt32), .unset, .unset] [])
  refine g_iload_n (i := 2) X68 hx (hb hby d30_5) (by rfl) rfl ?_
  refine g_iload_n (i := 1) X68 hx (hb hby d30_6) (by rfl) rfl ?_
  refine g_isub X68 hx (hb hby d30_7) rfl ?_
  rw [hs0']
  refine g_istore_n (i := 3) X68 hx #[.val (.ref b), .val (.int (0 : Int32)), .val (.int l1.length.toInt32), .val (.int l1.length.toInt32), .unset] (hb hby d30_8) rfl rfl ?_
  refine g_iload_n (i := 3) X68 hx (hb hby d30_9) (by rfl) rfl ?_
  refine g_newarr X68 hx hZ (ty := .byte) rfl (wd hw 14 rfl) e68 (hb hby d30_10) rfl (own_nneg (by rw [hl3]; omega)) 16 (by rw [own_tnc]; omega) (by decide) (by decide) (by decide) ?_
  intro T69 h69 cA69 a69 X69 e69 g69 Ex69 A69
  have An := ArI.new A69 0 rfl
  rw [own_tnc, hl3, Int.toNat_natCast] at An
  have gb : n0 ≤ a69 := by rw [g69]; exact Z0
  have Ab1 := Ab.ext Ex69
  refine g_astore (i := 4) X69 hx #[.val (.ref b), .val (.int (0 : Int32)), .val (.int l1.length.toInt32), .val (.int l1.length.toInt32), .val (.ref a69)] (hb hby d30_12) rfl rfl rfl ?_
  refine g_aload_n (i := 0) X69 hx (hb hby d30_14) (by rfl) rfl rfl ?_
  refine g_iload_n (i := 1) X69 hx (hb hby d30_15) (by rfl) rfl ?_
  refine g_aload (i := 4) X69 hx (hb hby d30_16) (by rfl) rfl rfl ?_
  refine g_iconst (v := (0 : Int32)) X69 hx (hb hby d30_18) (by decide) rfl ?_
  refine g_aload_n (i := 0) X69 hx (hb hby d30_19) (by rfl) rfl rfl ?_
  refine g_arraylengthI X69 hx hZ e69 Ab1 (z := (16 : Int32)) (show _ = (16 : Int32) by decide) (hb hby d30_20) rfl ?_
  refine g_iload_n (i := 1) X69 hx (hb hby d30_21) (by rfl) rfl ?_
  refine g_isub X69 hx (hb hby d30_22) rfl ?_
  rw [hs0']
  refine g_iload_n (i := 3) X69 hx (hb hby d30_23) (by rfl) rfl ?_
  refine g_callS X69 hx hZ hown (wd hw 172 rfl) (wd hw 173 rfl) (wd hw 174 rfl) (wd hw 175 rfl) (by decide) e69 (rm_min l Z a0 hw 16 l1.length.toInt32 h69 (by rw [own_ltI, hl3, show (16 : Int32).toInt = 16 from rfl]; omega)) (by rw [hml]; rfl) [(.int (16 : Int32)), (.int l1.length.toInt32)] [(.int (0 : Int32)), (.ref a69), (.int (0 : Int32)), (.ref b)] rfl (lenOf pd_70 rfl) rfl (by show 4 + (2 + 11) + 0 ≤ _; decide) (by decide) (by decide) (by decide) (hb hby d30_24) rfl ?_
  intro T70 v70 L70 X70 hQ70
  obtain ⟨rfl, rfl, e70⟩ := hQ70
  have N70 := Fr.app N68 (Fr.nil n0)
  show Goes p e below _ T70 (mkF m 27 #[.val (.ref b), .val (.int (0 : Int32)), .val (.int l1.length.toInt32), .val (.int l1.length.toInt32), .val (.ref a69)] [(.int l1.length.toInt32), (.int (0 : Int32)), (.ref a69), (.int (0 : Int32)), (.ref b)])
  refine g_acopy X70 hx hZ (n := 16) (n' := l1.length) (sp := 0) (dp := 0) (nn := l1.length) (n0 := n0) hown (wd hw 176 rfl) (wd hw 128 rfl) (wd hw 126 rfl) (wd hw 127 rfl) e70 Ab1 (fun i _ => Hb i) An (fun i _ => rfl) (by omega) (by omega) rfl rfl rfl (by omega) (by omega) N70 gb (by rw [hml]; rfl) (by decide) (by rw [nativeFrameWords_plain 5 (by decide)]; decide) (hb hby d30_27) rfl ?_
  intro T71 h71 L71 X71 e71 N71 K71 Ar71
  rw [own_cut] at Ar71
  refine g_aload (i := 4) X71 hx (hb hby d30_30) (by rfl) rfl rfl ?_
  exact g_retA X71 hx rfl rfl hlk hret e71 (by decide) (by decide) (hb hby d30_32) ⟨_, rfl, N71, own_ext3 Ex69 K71 (fun x hx => by rw [List.mem_singleton.mp hx, g69]; exact Nat.le_refl _), by rw [g69]; exact Nat.le_refl _, Ar71⟩
theorem ef_rm_cr (m : MethodId) (x0 : Addr) (x1 : Int32) (x2 : Int32)  : entryFrame m #[(.ref x0), (.int x1), (.int x2)] 3 = mkF m 0 #[.val (.ref x0), .val (.int x1), .val (.int x2)] [] := by first | (simp [entryFrame, mkF, argsToLocals, Value.category]; done) | rfl
theorem pn_72 : plainFor (⟨"java/util/Arrays", "copyOfRange", "([BII)[B"⟩ : MethodName) = true := by first | exact plainFor_of_name (by first | (simp [plainName, overriddenIn]; done) | decide +kernel) | decide +kernel
theorem pd_73 : parseMethodDescriptor "([BII)[B" = some ⟨[(.array .byte), .int, .int], some (.array .byte)⟩ := by decide +kernel
set_option maxRecDepth 65536 in
set_option maxHeartbeats 40000000 in
theorem rm_cr (l : Launch) (Z : State) (a0 : Array Value) (hw : ∀ d ∈ tables_1, d.before a0 Z = true) (b : Addr) (l1 : List Int32) (h0 : Heap) (n0 : Nat) (Z0 : n0 ≤ h0.size) (Ab : ArI Z h0 b .byte 16 (fun i => l1.getD i 0)) (Hb : own_by l1) (hl : l1.length < 16) :
    Ctr l Z (⟨"java/util/Arrays", "copyOfRange", "([BII)[B"⟩ : MethodName) jdk_65_method_132_code 3 (Option.some (FieldType.array FieldType.byte)) [] ({ frames := 2, cells := 1, slots := 16, locals := 34 } : Room) ({ frames := 2, cells := 1, slots := 16, locals := 34 } : Room).cells ({ frames := 2, cells := 1, slots := 16, locals := 34 } : Room).slots #[(.ref b), (.int (0 : Int32)), (.int l1.length.toInt32)] h0 (fun u h L => ∃ rb, u = some (.ref rb) ∧ Fr n0 L ∧ Ext h0 h ∧ h0.size ≤ rb ∧ ArI Z h rb .byte l1.length (fun i => l1.getD i 0)) := by
  refine Ctr.of pn_72 ?_
  intro p e s m below meth c s₁ hx hby hml hown hnm hret hlk hZ X0 e0
  refine Goes.cast (ef_rm_cr m b (0 : Int32) l1.length.toInt32) ?_
  have hl3 : (l1.length.toInt32).toInt = (l1.length : Int) := len_toInt (by omega)
  refine g_iload_n (i := 1) X0 hx (hb hby d29_0) (by rfl) rfl ?_
  refine g_if_ne X0 hx (hb hby d29_1) (by decide) (pt := 10) (by decide) rfl (fun q_ => absurd (by decide) q_) (fun _ => ?_)
  refine g_iload_n (i := 2) X0 hx (hb hby d29_4) (by rfl) rfl ?_
  refine g_aload_n (i := 0) X0 hx (hb hby d29_5) (by rfl) rfl rfl ?_
  refine g_arraylengthI X0 hx hZ e0 Ab (z := (16 : Int32)) (show _ = (16 : Int32) by decide) (hb hby d29_6) rfl ?_
  refine g_icmp_eq X0 hx (hb hby d29_7) (by decide) (pt := 17) (by decide) rfl (fun q_ => absurd q_ (fun q => by have := congrArg Int32.toInt q; rw [hl3, show (16 : Int32).toInt = 16 from rfl] at this; omega)) (fun _ => ?_)
  refine g_aload_n (i := 0) X0 hx (hb hby d29_10) (by rfl) rfl rfl ?_
  refine g_iload_n (i := 1) X0 hx (hb hby d29_11) (by rfl) rfl ?_
  refine g_iload_n (i := 2) X0 hx (hb hby d29_12) (by rfl) rfl ?_
  refine g_callS X0 hx hZ hown (wd hw 166 rfl) (wd hw 167 rfl) (wd hw 164 rfl) (wd hw 168 rfl) (by decide) e0 (rm_crb l Z a0 hw b l1 h0 n0 Z0 Ab Hb hl) (by rw [hml]; rfl) [(.ref b), (.int (0 : Int32)), (.int l1.length.toInt32)] [] rfl (lenOf pd_73 rfl) rfl (by show 0 + (5 + 11) + 18 ≤ _; decide) (by decide) (by decide) (by decide) (hb hby d29_13) rfl ?_
  intro T73 v73 L73 X73 hQ73
  obtain ⟨rb, rfl, N73, E73, hr, Ar⟩ := hQ73
  have N73 := Fr.app (Fr.nil n0) N73
  show Goes p e below _ T73 (mkF m 16 #[.val (.ref b), .val (.int (0 : Int32)), .val (.int l1.length.toInt32)] [(.ref rb)])
  exact g_retA X73 hx rfl rfl hlk hret rfl (by decide) (by decide) (hb hby d29_16) ⟨rb, rfl, N73, E73, hr, Ar⟩
theorem ef_rm_ia (m : MethodId) (x0 : Addr) (x1 : Addr)  : entryFrame m #[(.ref x0), (.ref x1), .null] 5 = mkF m 0 #[.val (.ref x0), .val (.ref x1), .val .null, .unset, .unset] [] := by first | (simp [entryFrame, mkF, argsToLocals, Value.category]; done) | rfl
theorem pn_74 : plainFor (⟨"java/lang/String", "<init>", "(Ljava/lang/AbstractStringBuilder;Ljava/lang/Void;)V"⟩ : MethodName) = true := by first | exact plainFor_of_name (by first | (simp [plainName, overriddenIn]; done) | decide +kernel) | decide +kernel
theorem pd_76 : parseMethodDescriptor "()[B" = some ⟨[], some (.array .byte)⟩ := by decide +kernel
theorem pd_78 : parseMethodDescriptor "()Z" = some ⟨[], some .boolean⟩ := by decide +kernel
set_option maxRecDepth 65536 in
set_option maxHeartbeats 40000000 in
theorem rm_ia (l : Launch) (Z : State) (a0 : Array Value) (hw : ∀ d ∈ tables_1, d.before a0 Z = true) (a b ra : Addr) (l1 : List Int32) (h0 : Heap) (n0 : Nat) (gr : n0 ≤ ra) (Z0 : n0 ≤ h0.size) (cs : Int32) (S_cs : Sta Z h0 "java/lang/String" "COMPACT_STRINGS" "Z" (.int cs)) (hcs : ¬ cs = 0) (B : own_B Z h0 a b l1) (hl : l1.length < 16) (hra : ra ≠ a ∧ ra ≠ b) (E : Exa Z h0 ra "java/lang/String") (F1 : Fld Z h0 ra "java/lang/String" "value" "[B" .null) (F2 : Fld Z h0 ra "java/lang/String" "coder" "B" (.int 0)) :
    Ctr l Z (⟨"java/lang/String", "<init>", "(Ljava/lang/AbstractStringBuilder;Ljava/lang/Void;)V"⟩ : MethodName) jdk_42_method_150_code 5 (Option.none : Option FieldType) [] ({ frames := 3, cells := 1, slots := 16, locals := 49 } : Room) ({ frames := 3, cells := 1, slots := 16, locals := 49 } : Room).cells ({ frames := 3, cells := 1, slots := 16, locals := 49 } : Room).slots #[(.ref ra), (.ref a), .null] h0 (fun u h L => u = none ∧ Fr n0 L ∧ Keep h0 h [ra] ∧ ∃ rb, h0.size ≤ rb ∧ own_S Z h ra rb l1) := by
  refine Ctr.of pn_74 ?_
  intro p e s m below meth c s₁ hx hby hml hown hnm hret hlk hZ X0 e0
  refine Goes.cast (ef_rm_ia m ra a) ?_
  refine g_aload_n (i := 0) X0 hx (hb hby d24_0) (by rfl) rfl rfl ?_
  refine g_initO X0 hx hZ hown (wd hw 19 rfl) (wd hw 20 rfl) (wd hw 21 rfl) e0 (by rw [hml]; rfl) (hb hby d24_1) rfl (by decide) (by decide) ?_
  intro T75 X75 e75
  refine g_aload_n (i := 1) X75 hx (hb hby d24_4) (by rfl) rfl rfl ?_
  refine g_callV X75 hx hZ hown (wd hw 144 rfl) (wd hw 145 rfl) (wd hw 147 rfl) (wd hw 146 rfl) (wd hw 74 rfl) (wd hw 148 rfl) (by decide) e75 a B.1 (rm_gv l Z a0 hw a b l1 h0 B) (by rw [hml]; rfl) [] [] rfl (lenOf pd_76 rfl) rfl (by show 0 + (1 + 11) + 0 ≤ _; decide) (by decide) (by decide) (by decide) (hb hby d24_5) rfl ?_
  intro T76 v76 L76 X76 hQ76
  obtain ⟨rfl, rfl, e76⟩ := hQ76
  have N76 := Fr.app (Fr.nil n0) (Fr.nil n0)
  show Goes p e below _ T76 (mkF m 8 #[.val (.ref ra), .val (.ref a), .val .null, .unset, .unset] [(.ref b)])
  refine g_astore_n (i := 3) X76 hx #[.val (.ref ra), .val (.ref a), .val .null, .val (.ref b), .unset] (hb hby d24_8) rfl rfl rfl ?_
  refine g_aload_n (i := 1) X76 hx (hb hby d24_9) (by rfl) rfl rfl ?_
  refine g_callV2 X76 hx hZ hown (wd hw 149 rfl) (wd hw 150 rfl) (wd hw 152 rfl) (wd hw 107 rfl) (wd hw 105 rfl) rfl (wd hw 153 rfl) (wd hw 66 rfl) (wd hw 154 rfl) (by decide) e76 a B.1 (rm_sl l Z a0 hw a b l1 h0 B) (by rw [hml]; rfl) [] [] rfl (lenOf pd_47 rfl) rfl (by show 0 + (1 + 11) + 12 ≤ _; decide) (by decide) (by decide) (by decide) (hb hby d24_10) rfl ?_
  intro T77 v77 L77 X77 hQ77
  obtain ⟨rfl, rfl, e77⟩ := hQ77
  have N77 := Fr.app N76 (Fr.nil n0)
  show Goes p e below _ T77 (mkF m 13 #[.val (.ref ra), .val (.ref a), .val .null, .val (.ref b), .unset] [(.int l1.length.toInt32)])
  refine g_istore (i := 4) X77 hx #[.val (.ref ra), .val (.ref a), .val .null, .val (.ref b), .val (.int l1.length.toInt32)] (hb hby d24_13) rfl rfl ?_
  refine g_aload_n (i := 1) X77 hx (hb hby d24_15) (by rfl) rfl rfl ?_
  refine g_callV X77 hx hZ hown (wd hw 157 rfl) (wd hw 158 rfl) (wd hw 160 rfl) (wd hw 159 rfl) (wd hw 74 rfl) (wd hw 161 rfl) (by decide) e77 a B.1 (rm_il l Z a0 hw a b l1 h0 cs S_cs hcs B) (by rw [hml]; rfl) [] [] rfl (lenOf pd_78 rfl) rfl (by show 0 + (1 + 11) + 0 ≤ _; decide) (by decide) (by decide) (by decide) (hb hby d24_16) rfl ?_
  intro T78 v78 L78 X78 hQ78
  obtain ⟨rfl, rfl, e78⟩ := hQ78
  have N78 := Fr.app N77 (Fr.nil n0)
  show Goes p e below _ T78 (mkF m 19 #[.val (.ref ra), .val (.ref a), .val .null, .val (.ref b), .val (.int l1.length.toInt32)] [(.int (1 : Int32))])
  refine g_if_eq X78 hx (hb hby d24_19) (by decide) (pt := 41) (by decide) rfl (fun q_ => absurd q_ (by decide)) (fun _ => ?_)
  have K0 := Keep.refl h0 [ra]
  refine g_aload_n (i := 0) X78 hx (hb hby d24_22) (by rfl) rfl rfl ?_
  refine g_iconst (v := (0 : Int32)) X78 hx (hb hby d24_23) (by decide) rfl ?_
  refine g_putF X78 hx hZ hown (wd hw 24 rfl) e78 F2 E (Or.inr ⟨wd hw 25 rfl, rfl, hnm⟩) (wd hw 10 rfl) (ty := .byte) (by decide) rfl rfl (hb hby d24_24) rfl ?_
  intro T79 h79 X79 e79 W79
  have N79 := Fr.snoc X79 N78 gr
  have E79_ := E.wr W79
  have F79_value := F1.other W79 (Or.inr (slot_ne (C := "java/lang/String") (Or.inr (wd hw 23 rfl)) (Or.inr (wd hw 25 rfl)) (by decide) (t := (.array .byte)) (t' := .byte) (by decide) (by decide)))
  have F79_coder := F2.same W79
  have K79 := K0.wr W79 (Or.inl (List.mem_singleton.mpr rfl))
  have Zk : n0 ≤ h79.size := by rw [W79.size]; exact Z0
  refine g_aload_n (i := 0) X79 hx (hb hby d24_27) (by rfl) rfl rfl ?_
  refine g_aload_n (i := 3) X79 hx (hb hby d24_28) (by rfl) rfl rfl ?_
  refine g_iconst (v := (0 : Int32)) X79 hx (hb hby d24_29) (by decide) rfl ?_
  refine g_iload (i := 4) X79 hx (hb hby d24_30) (by rfl) rfl ?_
  refine g_callS X79 hx hZ hown (wd hw 162 rfl) (wd hw 163 rfl) (wd hw 164 rfl) (wd hw 165 rfl) (by decide) e79 (rm_cr l Z a0 hw b l1 h79 n0 Zk (B.2.2.2.2.1.other W79 (Ne.symm hra.2)) B.2.2.2.2.2.1 hl) (by rw [hml]; rfl) [(.ref b), (.int (0 : Int32)), (.int l1.length.toInt32)] [(.ref ra)] rfl (lenOf pd_73 rfl) rfl (by show 1 + (3 + 11) + 34 ≤ _; decide) (by decide) (by decide) (by decide) (hb hby d24_32) rfl ?_
  intro T80 v80 L80 X80 hQ80
  obtain ⟨rb, rfl, N80, E80, hr, Ar⟩ := hQ80
  have N80 := Fr.app N79 N80
  show Goes p e below _ T80 (mkF m 35 #[.val (.ref ra), .val (.ref a), .val .null, .val (.ref b), .val (.int l1.length.toInt32)] [(.ref rb), (.ref ra)])
  have G_value := F79_value.ext E80
  have G_coder := F79_coder.ext E80
  have GE := E79_.ext E80
  have GK := K79.ext E80
  have hrb : rb ≠ ra := fun q => absurd E.lt (by rw [← q]; rw [W79.size] at hr; exact Nat.not_lt.mpr hr)
  refine g_putF X80 hx hZ hown (wd hw 22 rfl) rfl G_value GE (Or.inr ⟨wd hw 23 rfl, rfl, hnm⟩) (wd hw 10 rfl) (ty := (.array .byte)) (by decide) rfl rfl (hb hby d24_35) rfl ?_
  intro T81 h81 X81 e81 W81
  have N81 := Fr.snoc X81 N80 gr
  have E81_ := GE.wr W81
  have F81_value := G_value.same W81
  have F81_coder := G_coder.other W81 (Or.inr (slot_ne (C := "java/lang/String") (Or.inr (wd hw 25 rfl)) (Or.inr (wd hw 23 rfl)) (by decide) (t := .byte) (t' := (.array .byte)) (by decide) (by decide)))
  have K81 := GK.wr W81 (Or.inl (List.mem_singleton.mpr rfl))
  refine g_goto X81 hx (hb hby d24_38) (by decide) (by decide) (pc' := 97) ?_
  exact g_ret X81 hx hlk hret e81 (by decide) (by decide) (hb hby d24_97) ⟨rfl, N81, K81, rb, by rw [W79.size] at hr; exact hr, E81_, F81_coder, F81_value, Ar.other W81 hrb, B.2.2.2.2.2.1⟩
theorem ef_rm_is (m : MethodId) (x0 : Addr) (x1 : Addr)  : entryFrame m #[(.ref x0), (.ref x1)] 2 = mkF m 0 #[.val (.ref x0), .val (.ref x1)] [] := by first | (simp [entryFrame, mkF, argsToLocals, Value.category]; done) | rfl
theorem pn_82 : plainFor (⟨"java/lang/String", "<init>", "(Ljava/lang/StringBuilder;)V"⟩ : MethodName) = true := by first | exact plainFor_of_name (by first | (simp [plainName, overriddenIn]; done) | decide +kernel) | decide +kernel
theorem pd_83 : parseMethodDescriptor "(Ljava/lang/AbstractStringBuilder;Ljava/lang/Void;)V" = some ⟨[(.object "java/lang/AbstractStringBuilder"), (.object "java/lang/Void")], none⟩ := by decide +kernel
set_option maxRecDepth 65536 in
set_option maxHeartbeats 40000000 in
theorem rm_is (l : Launch) (Z : State) (a0 : Array Value) (hw : ∀ d ∈ tables_1, d.before a0 Z = true) (a b ra : Addr) (l1 : List Int32) (h0 : Heap) (n0 : Nat) (gr : n0 ≤ ra) (Z0 : n0 ≤ h0.size) (cs : Int32) (S_cs : Sta Z h0 "java/lang/String" "COMPACT_STRINGS" "Z" (.int cs)) (hcs : ¬ cs = 0) (B : own_B Z h0 a b l1) (hl : l1.length < 16) (hra : ra ≠ a ∧ ra ≠ b) (E : Exa Z h0 ra "java/lang/String") (F1 : Fld Z h0 ra "java/lang/String" "value" "[B" .null) (F2 : Fld Z h0 ra "java/lang/String" "coder" "B" (.int 0)) :
    Ctr l Z (⟨"java/lang/String", "<init>", "(Ljava/lang/StringBuilder;)V"⟩ : MethodName) jdk_42_method_53_code 2 (Option.none : Option FieldType) [] ({ frames := 4, cells := 1, slots := 16, locals := 65 } : Room) ({ frames := 4, cells := 1, slots := 16, locals := 65 } : Room).cells ({ frames := 4, cells := 1, slots := 16, locals := 65 } : Room).slots #[(.ref ra), (.ref a)] h0 (fun u h L => u = none ∧ Fr n0 L ∧ Keep h0 h [ra] ∧ ∃ rb, h0.size ≤ rb ∧ own_S Z h ra rb l1) := by
  refine Ctr.of pn_82 ?_
  intro p e s m below meth c s₁ hx hby hml hown hnm hret hlk hZ X0 e0
  refine Goes.cast (ef_rm_is m ra a) ?_
  refine g_aload_n (i := 0) X0 hx (hb hby d23_0) (by rfl) rfl rfl ?_
  refine g_aload_n (i := 1) X0 hx (hb hby d23_1) (by rfl) rfl rfl ?_
  refine g_aconst_null X0 hx (hb hby d23_2) rfl ?_
  refine g_callI X0 hx hZ rfl hown (wd hw 141 rfl) (wd hw 142 rfl) (wd hw 2 rfl) (wd hw 143 rfl) (by decide) e0 (rm_ia l Z a0 hw a b ra l1 h0 n0 gr Z0 cs S_cs hcs B hl hra E F1 F2) (by rw [hml]; rfl) ra [(.ref a), .null] [] rfl (lenOf pd_83 rfl) rfl (by show 0 + (5 + 11) + 49 ≤ _; decide) (by decide) (by decide) (by decide) (hb hby d23_3) rfl ?_
  intro T83 v83 L83 X83 hQ83
  obtain ⟨rfl, N83, K83, rb, hrb, Sr⟩ := hQ83
  have N83 := Fr.app (Fr.nil n0) N83
  show Goes p e below _ T83 (mkF m 6 #[.val (.ref ra), .val (.ref a)] [])
  exact g_ret X83 hx hlk hret rfl (by decide) (by decide) (hb hby d23_6) ⟨rfl, N83, K83, rb, hrb, Sr⟩
theorem ef_rm_ts (m : MethodId) (x0 : Addr)  : entryFrame m #[(.ref x0)] 1 = mkF m 0 #[.val (.ref x0)] [] := by first | (simp [entryFrame, mkF, argsToLocals, Value.category]; done) | rfl
theorem pn_84 : plainFor (⟨"java/lang/StringBuilder", "toString", "()Ljava/lang/String;"⟩ : MethodName) = true := by first | exact plainFor_of_name (by first | (simp [plainName, overriddenIn]; done) | decide +kernel) | decide +kernel
theorem pd_86 : parseMethodDescriptor "(Ljava/lang/StringBuilder;)V" = some ⟨[(.object "java/lang/StringBuilder")], none⟩ := by decide +kernel
set_option maxRecDepth 65536 in
set_option maxHeartbeats 40000000 in
theorem rm_ts (l : Launch) (Z : State) (a0 : Array Value) (hw : ∀ d ∈ tables_1, d.before a0 Z = true) (a b : Addr) (l1 : List Int32) (h0 : Heap) (n0 : Nat) (Z0 : n0 ≤ h0.size) (cs : Int32) (S_cs : Sta Z h0 "java/lang/String" "COMPACT_STRINGS" "Z" (.int cs)) (hcs : ¬ cs = 0) (B : own_B Z h0 a b l1) (hl : l1.length < 16) :
    Ctr l Z (⟨"java/lang/StringBuilder", "toString", "()Ljava/lang/String;"⟩ : MethodName) jdk_67_method_42_code 1 (Option.some (FieldType.object "java/lang/String")) [] ({ frames := 5, cells := 2, slots := 20, locals := 79 } : Room) ({ frames := 5, cells := 2, slots := 20, locals := 79 } : Room).cells ({ frames := 5, cells := 2, slots := 20, locals := 79 } : Room).slots #[(.ref a)] h0 (fun u h L => ∃ ra rb, u = some (.ref ra) ∧ Fr n0 L ∧ Ext h0 h ∧ h0.size ≤ ra ∧ h0.size ≤ rb ∧ own_S Z h ra rb l1) := by
  refine Ctr.of pn_84 ?_
  intro p e s m below meth c s₁ hx hby hml hown hnm hret hlk hZ X0 e0
  refine Goes.cast (ef_rm_ts m a) ?_
  refine g_new X0 hx hZ hown (wd hw 137 rfl) (wd hw 10 rfl) (wd hw 2 rfl) e0 (hb hby d22_0) rfl (by decide) (by decide) ?_
  intro T85 h85 a85 X85 e85 g85 Ex85 E85 D85
  have F85_value : Fld Z h85 a85 "java/lang/String" "value" "[B" .null := D85 (Or.inr (wd hw 23 rfl)) (ty := (.array .byte)) (by decide)
  have F85_coder : Fld Z h85 a85 "java/lang/String" "coder" "B" (.int 0) := D85 (Or.inr (wd hw 25 rfl)) (ty := .byte) (by decide)
  have gr : n0 ≤ a85 := by rw [g85]; exact Z0
  have Z1 : n0 ≤ h85.size := Nat.le_trans Z0 Ex85.1
  have hra : a85 ≠ a ∧ a85 ≠ b := ⟨fun q => by have := B.1.lt; rw [← q, g85] at this; exact Nat.lt_irrefl _ this, fun q => by have := B.2.2.2.2.1.lt; rw [← q, g85] at this; exact Nat.lt_irrefl _ this⟩
  refine g_dup X85 hx (hb hby d22_3) rfl rfl ?_
  refine g_aload_n (i := 0) X85 hx (hb hby d22_4) (by rfl) rfl rfl ?_
  refine g_callI X85 hx hZ rfl hown (wd hw 138 rfl) (wd hw 139 rfl) (wd hw 2 rfl) (wd hw 140 rfl) (by decide) e85 (rm_is l Z a0 hw a b a85 l1 h85 n0 gr Z1 cs (S_cs.ext Ex85) hcs (B.ext Ex85) hl hra E85 F85_value F85_coder) (by rw [hml]; rfl) a85 [(.ref a)] [(.ref a85)] rfl (lenOf pd_86 rfl) rfl (by show 1 + (2 + 11) + 65 ≤ _; decide) (by decide) (by decide) (by decide) (hb hby d22_5) rfl ?_
  intro T86 v86 L86 X86 hQ86
  obtain ⟨rfl, N86, K86, rb, hrb, Sr⟩ := hQ86
  have N86 := Fr.app (Fr.nil n0) N86
  show Goes p e below _ T86 (mkF m 8 #[.val (.ref a)] [(.ref a85)])
  exact g_retA X86 hx rfl rfl hlk hret rfl (by decide) (by decide) (hb hby d22_8) ⟨_, rb, rfl, N86, own_ext3 Ex85 K86 (fun x hx => by rw [List.mem_singleton.mp hx, g85]; exact Nat.le_refl _), by rw [g85]; exact Nat.le_refl _, Nat.le_trans Ex85.1 hrb, Sr⟩
theorem own_leq (l o : List Int32) (hl : l.length = o.length) (H : ∀ q, q < l.length → l.getD q 0 = o.getD q 0) : l = o := by
  apply List.ext_getElem hl
  intro i h1 h2
  have e := H i h1
  simpa [List.getD_eq_getElem?_getD, h1, h2] using e
theorem own_ge2 {n : Nat} {a b : Addr} (p : n ≤ a) (q : n ≤ b) : ∀ x ∈ [a, b], n ≤ x := fun x hx => by
  rcases List.mem_cons.mp hx with rfl | hx
  · exact p
  · rw [List.mem_singleton.mp hx]; exact q
theorem own_lit {Z : State} {h : Heap} {b : Addr} {k : ClassId} {z : Int32} {vs : List Value} {l : List Int32} (A : Arv Z h b k .byte z vs (.int 0)) (hz : z.toNatClampNeg = l.length) (hf : vs = l.map Value.int) : ArI Z h b .byte l.length (fun i => l.getD i 0) := by
  obtain ⟨c, A, -, S, -, H, -⟩ := A
  exact ⟨c, A, by rw [S, hz], fun j hj => by rw [H j (by rw [S, hz]; exact hj), hf]; simp [List.getD_eq_getElem?_getD, hj]⟩
theorem own_ch (x : Int32) : ((x &&& (255 : Int32)).toUInt32.toUInt16.toUInt32.toInt32).toInt = x.toInt % 256 := by
  have e := c_i2c (x &&& 255)
  rw [c_mask x 255 8 (by decide) (by decide)] at e
  omega
theorem own_inj (x y : Int32) (h : ((x &&& (255 : Int32)).toUInt32.toUInt16.toUInt32.toInt32).toInt8.toInt32 = ((y &&& (255 : Int32)).toUInt32.toUInt16.toUInt32.toInt32).toInt8.toInt32) : x &&& 255 = y &&& 255 := by
  have e1 := c_i2b ((x &&& (255 : Int32)).toUInt32.toUInt16.toUInt32.toInt32)
  have e2 := c_i2b ((y &&& (255 : Int32)).toUInt32.toUInt16.toUInt32.toInt32)
  rw [own_ch] at e1 e2
  have e3 := congrArg Int32.toInt h
  apply Int32.toInt_inj.mp
  rw [c_mask x 255 8 (by decide) (by decide), c_mask y 255 8 (by decide) (by decide)]
  omega
theorem ef_rm_leq (m : MethodId) (x0 : Addr) (x1 : Addr)  : entryFrame m #[(.ref x0), (.ref x1)] 3 = mkF m 0 #[.val (.ref x0), .val (.ref x1), .unset] [] := by first | (simp [entryFrame, mkF, argsToLocals, Value.category]; done) | rfl
theorem pn_87 : plainFor (⟨"java/lang/StringLatin1", "equals", "([B[B)Z"⟩ : MethodName) = true := by first | exact plainFor_of_name (by first | (simp [plainName, overriddenIn]; done) | decide +kernel) | decide +kernel
set_option maxRecDepth 65536 in
set_option maxHeartbeats 40000000 in
theorem rm_leq (l : Launch) (Z : State) (a0 : Array Value) (hw : ∀ d ∈ tables_1, d.before a0 Z = true) (b1 b2 : Addr) (l1 o : List Int32) (h0 : Heap) (A1 : ArI Z h0 b1 .byte l1.length (fun i => l1.getD i 0)) (A2 : ArI Z h0 b2 .byte o.length (fun i => o.getD i 0)) (n1 : l1.length ≤ 16) (n2 : o.length ≤ 16) :
    Ctr l Z (⟨"java/lang/StringLatin1", "equals", "([B[B)Z"⟩ : MethodName) jdk_43_method_13_code 3 (Option.some FieldType.boolean) [] ({ frames := 0, cells := 0, slots := 0, locals := 0 } : Room) ({ frames := 0, cells := 0, slots := 0, locals := 0 } : Room).cells ({ frames := 0, cells := 0, slots := 0, locals := 0 } : Room).slots #[(.ref b1), (.ref b2)] h0 (fun u h L => u = some (.int (if l1 = o then 1 else 0)) ∧ L = [] ∧ h = h0) := by
  refine Ctr.of pn_87 ?_
  intro p e s m below meth c s₁ hx hby hml hown hnm hret hlk hZ X0 e0
  refine Goes.cast (ef_rm_leq m b1 b2) ?_
  have e1 : (l1.length.toInt32).toInt = (l1.length : Int) := len_toInt (by omega)
  have e2 : (o.length.toInt32).toInt = (o.length : Int) := len_toInt (by omega)
  refine g_aload_n (i := 0) X0 hx (hb hby d9_0) (by rfl) rfl rfl ?_
  refine g_arraylengthI X0 hx hZ e0 A1 (z := l1.length.toInt32) rfl (hb hby d9_1) rfl ?_
  refine g_aload_n (i := 1) X0 hx (hb hby d9_2) (by rfl) rfl rfl ?_
  refine g_arraylengthI X0 hx hZ e0 A2 (z := o.length.toInt32) rfl (hb hby d9_3) rfl ?_
  refine g_icmp_ne X0 hx (hb hby d9_4) (by decide) (pt := 34) (by decide) rfl (fun q => ?_) (fun q => ?_)
  · refine g_iconst (v := (0 : Int32)) X0 hx (hb hby d9_34) (by decide) rfl ?_
    exact g_retN X0 hx (t := .boolean) (by simp) hlk hret e0 (by decide) (by decide) (hb hby d9_35) ⟨own_b0 (fun r => q (by rw [r])), rfl, rfl⟩
  · have hl : l1.length = o.length := by have := congrArg Int32.toInt q; omega
    refine g_iconst (v := (0 : Int32)) X0 hx (hb hby d9_7) (by decide) rfl ?_
    refine g_istore_n (i := 2) X0 hx #[.val (.ref b1), .val (.ref b2), .val (.int (0 : Int32))] (hb hby d9_8) rfl rfl ?_
    have loop : ∀ (k i : Nat), i + k = l1.length → (∀ q, q < i → l1.getD q 0 = o.getD q 0) → Goes p e below (KQ s ({ frames := 0, cells := 0, slots := 0, locals := 0 } : Room).cells ({ frames := 0, cells := 0, slots := 0, locals := 0 } : Room).slots (fun u h L => u = some (.int (if l1 = o then 1 else 0)) ∧ L = [] ∧ h = h0)) s₁ (mkF m 9 #[.val (.ref b1), .val (.ref b2), .val (.int i.toInt32)] []) := by
      intro k
      induction k with
      | zero =>
        intro i g1 hq
        have hi : (i.toInt32).toInt = (i : Int) := len_toInt (by omega)
        refine g_iload_n (i := 2) X0 hx (hb hby d9_9) (by rfl) rfl ?_
        refine g_aload_n (i := 0) X0 hx (hb hby d9_10) (by rfl) rfl rfl ?_
        refine g_arraylengthI X0 hx hZ e0 A1 (z := l1.length.toInt32) rfl (hb hby d9_11) rfl ?_
        refine g_icmp_ge X0 hx (hb hby d9_12) (by decide) (pt := 32) (by decide) rfl (fun _ => ?_) (fun q_ => absurd q_ (by rw [own_ltI]; omega))
        refine g_iconst (v := (1 : Int32)) X0 hx (hb hby d9_32) (by decide) rfl ?_
        exact g_retN X0 hx (t := .boolean) (by simp) hlk hret e0 (by decide) (by decide) (hb hby d9_33) ⟨own_b1 (own_leq l1 o hl (by rw [← show i = l1.length by omega]; exact hq)), rfl, rfl⟩
      | succ k ih =>
        intro i g1 hq
        have hi : (i.toInt32).toInt = (i : Int) := len_toInt (by omega)
        have hi1 : i.toInt32 + 1 = (i + 1).toInt32 := Int32.toInt_inj.mp (by rw [own_inc (by omega), hi, len_toInt (by omega)]; rfl)
        have hic : i.toInt32.toNatClampNeg = i := by rw [own_tnc, hi]; rfl
        refine g_iload_n (i := 2) X0 hx (hb hby d9_9) (by rfl) rfl ?_
        refine g_aload_n (i := 0) X0 hx (hb hby d9_10) (by rfl) rfl rfl ?_
        refine g_arraylengthI X0 hx hZ e0 A1 (z := l1.length.toInt32) rfl (hb hby d9_11) rfl ?_
        refine g_icmp_ge X0 hx (hb hby d9_12) (by decide) (pt := 32) (by decide) rfl (fun q_ => absurd (by rw [own_ltI]; omega) q_) (fun _ => ?_)
        refine g_aload_n (i := 0) X0 hx (hb hby d9_15) (by rfl) rfl rfl ?_
        refine g_iload_n (i := 2) X0 hx (hb hby d9_16) (by rfl) rfl ?_
        refine g_baload' X0 hx hZ e0 A1 (own_nneg (by omega)) (by rw [hic]; omega) (x := (l1.getD i 0)) (congrArg (fun i => l1.getD i 0) hic) (hb hby d9_17) rfl ?_
        refine g_aload_n (i := 1) X0 hx (hb hby d9_18) (by rfl) rfl rfl ?_
        refine g_iload_n (i := 2) X0 hx (hb hby d9_19) (by rfl) rfl ?_
        refine g_baload' X0 hx hZ e0 A2 (own_nneg (by omega)) (by rw [hic]; omega) (x := (o.getD i 0)) (congrArg (fun i => o.getD i 0) hic) (hb hby d9_20) rfl ?_
        refine g_icmp_eq X0 hx (hb hby d9_21) (by decide) (pt := 26) (by decide) rfl (fun qe => ?_) (fun qe => ?_)
        · refine g_iinc (i := 2) (x := i.toInt32) (y := (i.toInt32 + (1 : Int32))) X0 hx #[.val (.ref b1), .val (.ref b2), .val (.int (i.toInt32 + (1 : Int32)))] (hb hby d9_26) (by rfl) (by rfl) rfl rfl ?_
          refine g_goto X0 hx (hb hby d9_29) (by decide) (by decide) (pc' := 9) ?_
          rw [hi1]
          exact ih (i + 1) (by omega) (fun q h => by by_cases r : q = i; rw [r]; exact qe; exact hq q (by omega))
        · refine g_iconst (v := (0 : Int32)) X0 hx (hb hby d9_24) (by decide) rfl ?_
          exact g_retN X0 hx (t := .boolean) (by simp) hlk hret e0 (by decide) (by decide) (hb hby d9_25) ⟨own_b0 (fun r => qe (by rw [r])), rfl, rfl⟩
    exact loop l1.length 0 (by omega) (fun q h => absurd h (Nat.not_lt_zero _))
theorem ef_rm_eqn (m : MethodId) (x0 : Addr)  : entryFrame m #[(.ref x0), .null] 3 = mkF m 0 #[.val (.ref x0), .val .null, .unset] [] := by first | (simp [entryFrame, mkF, argsToLocals, Value.category]; done) | rfl
theorem pn_88 : plainFor (⟨"java/lang/String", "equals", "(Ljava/lang/Object;)Z"⟩ : MethodName) = true := by first | exact plainFor_of_name (by first | (simp [plainName, overriddenIn]; done) | decide +kernel) | decide +kernel
set_option maxRecDepth 65536 in
set_option maxHeartbeats 40000000 in
theorem rm_eqn (l : Launch) (Z : State) (a0 : Array Value) (hw : ∀ d ∈ tables_1, d.before a0 Z = true) (a : Addr) (h0 : Heap) :
    Ctr l Z (⟨"java/lang/String", "equals", "(Ljava/lang/Object;)Z"⟩ : MethodName) jdk_42_method_66_code 3 (Option.some FieldType.boolean) [] ({ frames := 0, cells := 0, slots := 0, locals := 0 } : Room) ({ frames := 0, cells := 0, slots := 0, locals := 0 } : Room).cells ({ frames := 0, cells := 0, slots := 0, locals := 0 } : Room).slots #[(.ref a), .null] h0 (fun u h L => u = some (.int 0) ∧ L = [] ∧ h = h0) := by
  refine Ctr.of pn_88 ?_
  intro p e s m below meth c s₁ hx hby hml hown hnm hret hlk hZ X0 e0
  refine Goes.cast (ef_rm_eqn m a) ?_
  refine g_aload_n (i := 0) X0 hx (hb hby d8_0) (by rfl) rfl rfl ?_
  refine g_aload_n (i := 1) X0 hx (hb hby d8_1) (by rfl) rfl rfl ?_
  refine g_acmp_ne X0 hx (hb hby d8_2) rfl rfl (by decide) (pt := 7) (by decide) rfl (fun _ => ?_) (fun q_ => absurd q_ (fun q => nomatch q))
  refine g_aload_n (i := 1) X0 hx (hb hby d8_7) (by rfl) rfl rfl ?_
  refine g_instNull X0 hx (hb hby d8_8) rfl ?_
  refine g_if_eq X0 hx (hb hby d8_11) (by decide) (pt := 54) (by decide) rfl (fun _ => ?_) (fun q_ => absurd (by decide) q_)
  refine g_iconst (v := (0 : Int32)) X0 hx (hb hby d8_54) (by decide) rfl ?_
  exact g_retN X0 hx (t := .boolean) (by simp) hlk hret e0 (by decide) (by decide) (hb hby d8_55) ⟨rfl, rfl, rfl⟩
theorem ef_rm_seq (m : MethodId) (x0 : Addr) (x1 : Addr)  : entryFrame m #[(.ref x0), (.ref x1)] 3 = mkF m 0 #[.val (.ref x0), .val (.ref x1), .unset] [] := by first | (simp [entryFrame, mkF, argsToLocals, Value.category]; done) | rfl
theorem pd_97 : parseMethodDescriptor "([B[B)Z" = some ⟨[(.array .byte), (.array .byte)], some .boolean⟩ := by decide +kernel
set_option maxRecDepth 65536 in
set_option maxHeartbeats 40000000 in
theorem rm_seq (l : Launch) (Z : State) (a0 : Array Value) (hw : ∀ d ∈ tables_1, d.before a0 Z = true) (a b1 a2 b2 : Addr) (l1 o : List Int32) (h0 : Heap) (cs : Int32) (S_cs : Sta Z h0 "java/lang/String" "COMPACT_STRINGS" "Z" (.int cs)) (hcs : ¬ cs = 0) (F : own_S Z h0 a b1 l1) (G : own_S Z h0 a2 b2 o) (hne : a ≠ a2) (n1 : l1.length ≤ 16) (n2 : o.length ≤ 16) :
    Ctr l Z (⟨"java/lang/String", "equals", "(Ljava/lang/Object;)Z"⟩ : MethodName) jdk_42_method_66_code 3 (Option.some FieldType.boolean) [] ({ frames := 1, cells := 0, slots := 0, locals := 14 } : Room) ({ frames := 1, cells := 0, slots := 0, locals := 14 } : Room).cells ({ frames := 1, cells := 0, slots := 0, locals := 14 } : Room).slots #[(.ref a), (.ref a2)] h0 (fun u h L => u = some (.int (if l1 = o then 1 else 0)) ∧ L = [] ∧ h = h0) := by
  refine Ctr.of pn_88 ?_
  intro p e s m below meth c s₁ hx hby hml hown hnm hret hlk hZ X0 e0
  refine Goes.cast (ef_rm_seq m a a2) ?_
  refine g_aload_n (i := 0) X0 hx (hb hby d8_0) (by rfl) rfl rfl ?_
  refine g_aload_n (i := 1) X0 hx (hb hby d8_1) (by rfl) rfl rfl ?_
  refine g_acmp_ne X0 hx (hb hby d8_2) rfl rfl (by decide) (pt := 7) (by decide) rfl (fun _ => ?_) (fun q_ => absurd q_ (fun q => hne (Value.ref.inj q)))
  refine g_aload_n (i := 1) X0 hx (hb hby d8_7) (by rfl) rfl rfl ?_
  refine g_instY X0 hx hZ hown (wd hw 9 rfl) e0 (Ins.self G.1) (hb hby d8_8) rfl ?_
  intro T90 X90 e90
  refine g_if_eq X90 hx (hb hby d8_11) (by decide) (pt := 54) (by decide) rfl (fun q_ => absurd q_ (by decide)) (fun _ => ?_)
  refine g_aload_n (i := 1) X90 hx (hb hby d8_14) (by rfl) rfl rfl ?_
  refine g_castY X90 hx hZ hown (wd hw 9 rfl) e90 (Ins.self G.1) (hb hby d8_15) rfl ?_
  intro T91 X91 e91
  refine g_astore_n (i := 2) X91 hx #[.val (.ref a), .val (.ref a2), .val (.ref a2)] (hb hby d8_18) rfl rfl rfl ?_
  refine g_getS X91 hx hZ hown (wd hw 4 rfl) e91 S_cs (hb hby d8_19) rfl ?_
  intro T92 X92 e92
  refine g_if_eq X92 hx (hb hby d8_22) (by decide) (pt := 36) (by decide) rfl (fun q_ => absurd q_ (hcs)) (fun _ => ?_)
  refine g_aload_n (i := 0) X92 hx (hb hby d8_25) (by rfl) rfl rfl ?_
  refine g_getF X92 hx hZ hown (wd hw 24 rfl) e92 F.2.1 (hb hby d8_26) rfl ?_
  intro T93 X93 e93
  refine g_aload_n (i := 2) X93 hx (hb hby d8_29) (by rfl) rfl rfl ?_
  refine g_getF X93 hx hZ hown (wd hw 24 rfl) e93 G.2.1 (hb hby d8_30) rfl ?_
  intro T94 X94 e94
  refine g_icmp_ne X94 hx (hb hby d8_33) (by decide) (pt := 54) (by decide) rfl (fun q_ => absurd (rfl) q_) (fun _ => ?_)
  refine g_aload_n (i := 0) X94 hx (hb hby d8_36) (by rfl) rfl rfl ?_
  refine g_getF X94 hx hZ hown (wd hw 22 rfl) e94 F.2.2.1 (hb hby d8_37) rfl ?_
  intro T95 X95 e95
  refine g_aload_n (i := 2) X95 hx (hb hby d8_40) (by rfl) rfl rfl ?_
  refine g_getF X95 hx hZ hown (wd hw 22 rfl) e95 G.2.2.1 (hb hby d8_41) rfl ?_
  intro T96 X96 e96
  refine g_callS X96 hx hZ hown (wd hw 49 rfl) (wd hw 50 rfl) (wd hw 7 rfl) (wd hw 51 rfl) (by decide) e96 (rm_leq l Z a0 hw b1 b2 l1 o h0 F.2.2.2.1 G.2.2.2.1 n1 n2) (by rw [hml]; rfl) [(.ref b1), (.ref b2)] [] rfl (lenOf pd_97 rfl) rfl (by show 0 + (3 + 11) + 0 ≤ _; decide) (by decide) (by decide) (by decide) (hb hby d8_44) rfl ?_
  intro T97 v97 L97 X97 hQ97
  obtain ⟨rfl, rfl, e97⟩ := hQ97
  show Goes p e below _ T97 (mkF m 47 #[.val (.ref a), .val (.ref a2), .val (.ref a2)] [(.int (if l1 = o then 1 else 0))])
  refine g_if_eq X97 hx (hb hby d8_47) (by decide) (pt := 54) (by decide) rfl (fun q => ?_) (fun q => ?_)
  · refine g_iconst (v := (0 : Int32)) X97 hx (hb hby d8_54) (by decide) rfl ?_
    exact g_retN X97 hx (t := .boolean) (by simp) hlk hret e97 (by decide) (by decide) (hb hby d8_55) ⟨own_b0 (fun r => by rw [if_pos r] at q; exact absurd q (by decide)), rfl, rfl⟩
  · refine g_iconst (v := (1 : Int32)) X97 hx (hb hby d8_50) (by decide) rfl ?_
    refine g_goto X97 hx (hb hby d8_51) (by decide) (by decide) (pc' := 55) ?_
    exact g_retN X97 hx (t := .boolean) (by simp) hlk hret e97 (by decide) (by decide) (hb hby d8_55) ⟨own_b1 (Classical.byContradiction fun r => q (if_neg r)), rfl, rfl⟩
theorem ef_rm_it_nn (m : MethodId) (x0 : Addr) (x1 : Addr)  : entryFrame m #[(.ref x0), (.ref x1), .null, .null] 4 = mkF m 0 #[.val (.ref x0), .val (.ref x1), .val .null, .val .null] [] := by first | (simp [entryFrame, mkF, argsToLocals, Value.category]; done) | rfl
theorem pn_98 : plainFor (⟨"com/example/wireup/wireup/Item", "<init>", "(Ljava/lang/String;Ljava/lang/String;Ljava/lang/String;)V"⟩ : MethodName) = true := by first | exact plainFor_of_name (by first | (simp [plainName, overriddenIn]; done) | decide +kernel) | decide +kernel
set_option maxRecDepth 65536 in
set_option maxHeartbeats 40000000 in
theorem rm_it_nn (l : Launch) (Z : State) (a0 : Array Value) (hw : ∀ d ∈ tables_1, d.before a0 Z = true) (a la pa oa : Addr) (h0 : Heap) (n0 : Nat) (ga : n0 ≤ a) (E : Exa Z h0 a "com/example/wireup/wireup/Item") (F_label : Fld Z h0 a "com/example/wireup/wireup/Item" "label" "Ljava/lang/String;" .null) (F_part : Fld Z h0 a "com/example/wireup/wireup/Item" "part" "Ljava/lang/String;" .null) (F_origin : Fld Z h0 a "com/example/wireup/wireup/Item" "origin" "Ljava/lang/String;" .null) :
    Ctr l Z (⟨"com/example/wireup/wireup/Item", "<init>", "(Ljava/lang/String;Ljava/lang/String;Ljava/lang/String;)V"⟩ : MethodName) prog_47_method_2_code 4 (Option.none : Option FieldType) [] ({ frames := 1, cells := 0, slots := 0, locals := 12 } : Room) ({ frames := 1, cells := 0, slots := 0, locals := 12 } : Room).cells ({ frames := 1, cells := 0, slots := 0, locals := 12 } : Room).slots #[(.ref a), (.ref la), .null, .null] h0 (fun u h L => u = none ∧ Fr n0 L ∧ Keep h0 h [a] ∧ Exa Z h a "com/example/wireup/wireup/Item" ∧ Fld Z h a "com/example/wireup/wireup/Item" "label" "Ljava/lang/String;" (.ref la) ∧ Fld Z h a "com/example/wireup/wireup/Item" "part" "Ljava/lang/String;" .null ∧ Fld Z h a "com/example/wireup/wireup/Item" "origin" "Ljava/lang/String;" .null) := by
  refine Ctr.of pn_98 ?_
  intro p e s m below meth c s₁ hx hby hml hown hnm hret hlk hZ X0 e0
  refine Goes.cast (ef_rm_it_nn m a la) ?_
  refine g_aload_n (i := 0) X0 hx (hb hby d6_0) (by rfl) rfl rfl ?_
  refine g_initO X0 hx hZ hown (wd hw 32 rfl) (wd hw 20 rfl) (wd hw 21 rfl) e0 (by rw [hml]; rfl) (hb hby d6_1) rfl (by decide) (by decide) ?_
  intro T99 X99 e99
  have K0 := Keep.refl h0 [a]
  refine g_aload_n (i := 0) X99 hx (hb hby d6_4) (by rfl) rfl rfl ?_
  refine g_aload_n (i := 1) X99 hx (hb hby d6_5) (by rfl) rfl rfl ?_
  refine g_putF X99 hx hZ hown (wd hw 33 rfl) e99 F_label E (Or.inr ⟨wd hw 34 rfl, rfl, hnm⟩) (wd hw 27 rfl) (ty := (.object "java/lang/String")) (by decide) rfl rfl (hb hby d6_6) rfl ?_
  intro T100 h100 X100 e100 W100
  have N100 := Fr.snoc X100 (Fr.nil n0) ga
  have E100_ := E.wr W100
  have F100_label := F_label.same W100
  have F100_part := F_part.other W100 (Or.inr (slot_ne (C := "com/example/wireup/wireup/Item") (Or.inr (wd hw 36 rfl)) (Or.inr (wd hw 34 rfl)) (by decide) (t := (.object "java/lang/String")) (t' := (.object "java/lang/String")) (by decide) (by decide)))
  have F100_origin := F_origin.other W100 (Or.inr (slot_ne (C := "com/example/wireup/wireup/Item") (Or.inr (wd hw 38 rfl)) (Or.inr (wd hw 34 rfl)) (by decide) (t := (.object "java/lang/String")) (t' := (.object "java/lang/String")) (by decide) (by decide)))
  have K100 := K0.wr W100 (Or.inl (List.mem_singleton.mpr rfl))
  refine g_aload_n (i := 0) X100 hx (hb hby d6_9) (by rfl) rfl rfl ?_
  refine g_aload_n (i := 2) X100 hx (hb hby d6_10) (by rfl) rfl rfl ?_
  refine g_putF X100 hx hZ hown (wd hw 35 rfl) e100 F100_part E100_ (Or.inr ⟨wd hw 36 rfl, rfl, hnm⟩) (wd hw 27 rfl) (ty := (.object "java/lang/String")) (by decide) rfl rfl (hb hby d6_11) rfl ?_
  intro T101 h101 X101 e101 W101
  have N101 := Fr.snoc X101 N100 ga
  have E101_ := E100_.wr W101
  have F101_label := F100_label.other W101 (Or.inr (slot_ne (C := "com/example/wireup/wireup/Item") (Or.inr (wd hw 34 rfl)) (Or.inr (wd hw 36 rfl)) (by decide) (t := (.object "java/lang/String")) (t' := (.object "java/lang/String")) (by decide) (by decide)))
  have F101_part := F100_part.same W101
  have F101_origin := F100_origin.other W101 (Or.inr (slot_ne (C := "com/example/wireup/wireup/Item") (Or.inr (wd hw 38 rfl)) (Or.inr (wd hw 36 rfl)) (by decide) (t := (.object "java/lang/String")) (t' := (.object "java/lang/String")) (by decide) (by decide)))
  have K101 := K100.wr W101 (Or.inl (List.mem_singleton.mpr rfl))
  refine g_aload_n (i := 0) X101 hx (hb hby d6_14) (by rfl) rfl rfl ?_
  refine g_aload_n (i := 3) X101 hx (hb hby d6_15) (by rfl) rfl rfl ?_
  refine g_putF X101 hx hZ hown (wd hw 37 rfl) e101 F101_origin E101_ (Or.inr ⟨wd hw 38 rfl, rfl, hnm⟩) (wd hw 27 rfl) (ty := (.object "java/lang/String")) (by decide) rfl rfl (hb hby d6_16) rfl ?_
  intro T102 h102 X102 e102 W102
  have N102 := Fr.snoc X102 N101 ga
  have E102_ := E101_.wr W102
  have F102_label := F101_label.other W102 (Or.inr (slot_ne (C := "com/example/wireup/wireup/Item") (Or.inr (wd hw 34 rfl)) (Or.inr (wd hw 38 rfl)) (by decide) (t := (.object "java/lang/String")) (t' := (.object "java/lang/String")) (by decide) (by decide)))
  have F102_part := F101_part.other W102 (Or.inr (slot_ne (C := "com/example/wireup/wireup/Item") (Or.inr (wd hw 36 rfl)) (Or.inr (wd hw 38 rfl)) (by decide) (t := (.object "java/lang/String")) (t' := (.object "java/lang/String")) (by decide) (by decide)))
  have F102_origin := F101_origin.same W102
  have K102 := K101.wr W102 (Or.inl (List.mem_singleton.mpr rfl))
  exact g_ret X102 hx hlk hret e102 (by decide) (by decide) (hb hby d6_19) ⟨rfl, N102, K102, E102_, F102_label, F102_part, F102_origin⟩
theorem ef_rm_it_nr (m : MethodId) (x0 : Addr) (x1 : Addr) (x3 : Addr)  : entryFrame m #[(.ref x0), (.ref x1), .null, (.ref x3)] 4 = mkF m 0 #[.val (.ref x0), .val (.ref x1), .val .null, .val (.ref x3)] [] := by first | (simp [entryFrame, mkF, argsToLocals, Value.category]; done) | rfl
set_option maxRecDepth 65536 in
set_option maxHeartbeats 40000000 in
theorem rm_it_nr (l : Launch) (Z : State) (a0 : Array Value) (hw : ∀ d ∈ tables_1, d.before a0 Z = true) (a la pa oa : Addr) (h0 : Heap) (n0 : Nat) (ga : n0 ≤ a) (E : Exa Z h0 a "com/example/wireup/wireup/Item") (F_label : Fld Z h0 a "com/example/wireup/wireup/Item" "label" "Ljava/lang/String;" .null) (F_part : Fld Z h0 a "com/example/wireup/wireup/Item" "part" "Ljava/lang/String;" .null) (F_origin : Fld Z h0 a "com/example/wireup/wireup/Item" "origin" "Ljava/lang/String;" .null) :
    Ctr l Z (⟨"com/example/wireup/wireup/Item", "<init>", "(Ljava/lang/String;Ljava/lang/String;Ljava/lang/String;)V"⟩ : MethodName) prog_47_method_2_code 4 (Option.none : Option FieldType) [] ({ frames := 1, cells := 0, slots := 0, locals := 12 } : Room) ({ frames := 1, cells := 0, slots := 0, locals := 12 } : Room).cells ({ frames := 1, cells := 0, slots := 0, locals := 12 } : Room).slots #[(.ref a), (.ref la), .null, (.ref oa)] h0 (fun u h L => u = none ∧ Fr n0 L ∧ Keep h0 h [a] ∧ Exa Z h a "com/example/wireup/wireup/Item" ∧ Fld Z h a "com/example/wireup/wireup/Item" "label" "Ljava/lang/String;" (.ref la) ∧ Fld Z h a "com/example/wireup/wireup/Item" "part" "Ljava/lang/String;" .null ∧ Fld Z h a "com/example/wireup/wireup/Item" "origin" "Ljava/lang/String;" (.ref oa)) := by
  refine Ctr.of pn_98 ?_
  intro p e s m below meth c s₁ hx hby hml hown hnm hret hlk hZ X0 e0
  refine Goes.cast (ef_rm_it_nr m a la oa) ?_
  refine g_aload_n (i := 0) X0 hx (hb hby d6_0) (by rfl) rfl rfl ?_
  refine g_initO X0 hx hZ hown (wd hw 32 rfl) (wd hw 20 rfl) (wd hw 21 rfl) e0 (by rw [hml]; rfl) (hb hby d6_1) rfl (by decide) (by decide) ?_
  intro T104 X104 e104
  have K0 := Keep.refl h0 [a]
  refine g_aload_n (i := 0) X104 hx (hb hby d6_4) (by rfl) rfl rfl ?_
  refine g_aload_n (i := 1) X104 hx (hb hby d6_5) (by rfl) rfl rfl ?_
  refine g_putF X104 hx hZ hown (wd hw 33 rfl) e104 F_label E (Or.inr ⟨wd hw 34 rfl, rfl, hnm⟩) (wd hw 27 rfl) (ty := (.object "java/lang/String")) (by decide) rfl rfl (hb hby d6_6) rfl ?_
  intro T105 h105 X105 e105 W105
  have N105 := Fr.snoc X105 (Fr.nil n0) ga
  have E105_ := E.wr W105
  have F105_label := F_label.same W105
  have F105_part := F_part.other W105 (Or.inr (slot_ne (C := "com/example/wireup/wireup/Item") (Or.inr (wd hw 36 rfl)) (Or.inr (wd hw 34 rfl)) (by decide) (t := (.object "java/lang/String")) (t' := (.object "java/lang/String")) (by decide) (by decide)))
  have F105_origin := F_origin.other W105 (Or.inr (slot_ne (C := "com/example/wireup/wireup/Item") (Or.inr (wd hw 38 rfl)) (Or.inr (wd hw 34 rfl)) (by decide) (t := (.object "java/lang/String")) (t' := (.object "java/lang/String")) (by decide) (by decide)))
  have K105 := K0.wr W105 (Or.inl (List.mem_singleton.mpr rfl))
  refine g_aload_n (i := 0) X105 hx (hb hby d6_9) (by rfl) rfl rfl ?_
  refine g_aload_n (i := 2) X105 hx (hb hby d6_10) (by rfl) rfl rfl ?_
  refine g_putF X105 hx hZ hown (wd hw 35 rfl) e105 F105_part E105_ (Or.inr ⟨wd hw 36 rfl, rfl, hnm⟩) (wd hw 27 rfl) (ty := (.object "java/lang/String")) (by decide) rfl rfl (hb hby d6_11) rfl ?_
  intro T106 h106 X106 e106 W106
  have N106 := Fr.snoc X106 N105 ga
  have E106_ := E105_.wr W106
  have F106_label := F105_label.other W106 (Or.inr (slot_ne (C := "com/example/wireup/wireup/Item") (Or.inr (wd hw 34 rfl)) (Or.inr (wd hw 36 rfl)) (by decide) (t := (.object "java/lang/String")) (t' := (.object "java/lang/String")) (by decide) (by decide)))
  have F106_part := F105_part.same W106
  have F106_origin := F105_origin.other W106 (Or.inr (slot_ne (C := "com/example/wireup/wireup/Item") (Or.inr (wd hw 38 rfl)) (Or.inr (wd hw 36 rfl)) (by decide) (t := (.object "java/lang/String")) (t' := (.object "java/lang/String")) (by decide) (by decide)))
  have K106 := K105.wr W106 (Or.inl (List.mem_singleton.mpr rfl))
  refine g_aload_n (i := 0) X106 hx (hb hby d6_14) (by rfl) rfl rfl ?_
  refine g_aload_n (i := 3) X106 hx (hb hby d6_15) (by rfl) rfl rfl ?_
  refine g_putF X106 hx hZ hown (wd hw 37 rfl) e106 F106_origin E106_ (Or.inr ⟨wd hw 38 rfl, rfl, hnm⟩) (wd hw 27 rfl) (ty := (.object "java/lang/String")) (by decide) rfl rfl (hb hby d6_16) rfl ?_
  intro T107 h107 X107 e107 W107
  have N107 := Fr.snoc X107 N106 ga
  have E107_ := E106_.wr W107
  have F107_label := F106_label.other W107 (Or.inr (slot_ne (C := "com/example/wireup/wireup/Item") (Or.inr (wd hw 34 rfl)) (Or.inr (wd hw 38 rfl)) (by decide) (t := (.object "java/lang/String")) (t' := (.object "java/lang/String")) (by decide) (by decide)))
  have F107_part := F106_part.other W107 (Or.inr (slot_ne (C := "com/example/wireup/wireup/Item") (Or.inr (wd hw 36 rfl)) (Or.inr (wd hw 38 rfl)) (by decide) (t := (.object "java/lang/String")) (t' := (.object "java/lang/String")) (by decide) (by decide)))
  have F107_origin := F106_origin.same W107
  have K107 := K106.wr W107 (Or.inl (List.mem_singleton.mpr rfl))
  exact g_ret X107 hx hlk hret e107 (by decide) (by decide) (hb hby d6_19) ⟨rfl, N107, K107, E107_, F107_label, F107_part, F107_origin⟩
theorem ef_rm_it_rn (m : MethodId) (x0 : Addr) (x1 : Addr) (x2 : Addr)  : entryFrame m #[(.ref x0), (.ref x1), (.ref x2), .null] 4 = mkF m 0 #[.val (.ref x0), .val (.ref x1), .val (.ref x2), .val .null] [] := by first | (simp [entryFrame, mkF, argsToLocals, Value.category]; done) | rfl
set_option maxRecDepth 65536 in
set_option maxHeartbeats 40000000 in
theorem rm_it_rn (l : Launch) (Z : State) (a0 : Array Value) (hw : ∀ d ∈ tables_1, d.before a0 Z = true) (a la pa oa : Addr) (h0 : Heap) (n0 : Nat) (ga : n0 ≤ a) (E : Exa Z h0 a "com/example/wireup/wireup/Item") (F_label : Fld Z h0 a "com/example/wireup/wireup/Item" "label" "Ljava/lang/String;" .null) (F_part : Fld Z h0 a "com/example/wireup/wireup/Item" "part" "Ljava/lang/String;" .null) (F_origin : Fld Z h0 a "com/example/wireup/wireup/Item" "origin" "Ljava/lang/String;" .null) :
    Ctr l Z (⟨"com/example/wireup/wireup/Item", "<init>", "(Ljava/lang/String;Ljava/lang/String;Ljava/lang/String;)V"⟩ : MethodName) prog_47_method_2_code 4 (Option.none : Option FieldType) [] ({ frames := 1, cells := 0, slots := 0, locals := 12 } : Room) ({ frames := 1, cells := 0, slots := 0, locals := 12 } : Room).cells ({ frames := 1, cells := 0, slots := 0, locals := 12 } : Room).slots #[(.ref a), (.ref la), (.ref pa), .null] h0 (fun u h L => u = none ∧ Fr n0 L ∧ Keep h0 h [a] ∧ Exa Z h a "com/example/wireup/wireup/Item" ∧ Fld Z h a "com/example/wireup/wireup/Item" "label" "Ljava/lang/String;" (.ref la) ∧ Fld Z h a "com/example/wireup/wireup/Item" "part" "Ljava/lang/String;" (.ref pa) ∧ Fld Z h a "com/example/wireup/wireup/Item" "origin" "Ljava/lang/String;" .null) := by
  refine Ctr.of pn_98 ?_
  intro p e s m below meth c s₁ hx hby hml hown hnm hret hlk hZ X0 e0
  refine Goes.cast (ef_rm_it_rn m a la pa) ?_
  refine g_aload_n (i := 0) X0 hx (hb hby d6_0) (by rfl) rfl rfl ?_
  refine g_initO X0 hx hZ hown (wd hw 32 rfl) (wd hw 20 rfl) (wd hw 21 rfl) e0 (by rw [hml]; rfl) (hb hby d6_1) rfl (by decide) (by decide) ?_
  intro T109 X109 e109
  have K0 := Keep.refl h0 [a]
  refine g_aload_n (i := 0) X109 hx (hb hby d6_4) (by rfl) rfl rfl ?_
  refine g_aload_n (i := 1) X109 hx (hb hby d6_5) (by rfl) rfl rfl ?_
  refine g_putF X109 hx hZ hown (wd hw 33 rfl) e109 F_label E (Or.inr ⟨wd hw 34 rfl, rfl, hnm⟩) (wd hw 27 rfl) (ty := (.object "java/lang/String")) (by decide) rfl rfl (hb hby d6_6) rfl ?_
  intro T110 h110 X110 e110 W110
  have N110 := Fr.snoc X110 (Fr.nil n0) ga
  have E110_ := E.wr W110
  have F110_label := F_label.same W110
  have F110_part := F_part.other W110 (Or.inr (slot_ne (C := "com/example/wireup/wireup/Item") (Or.inr (wd hw 36 rfl)) (Or.inr (wd hw 34 rfl)) (by decide) (t := (.object "java/lang/String")) (t' := (.object "java/lang/String")) (by decide) (by decide)))
  have F110_origin := F_origin.other W110 (Or.inr (slot_ne (C := "com/example/wireup/wireup/Item") (Or.inr (wd hw 38 rfl)) (Or.inr (wd hw 34 rfl)) (by decide) (t := (.object "java/lang/String")) (t' := (.object "java/lang/String")) (by decide) (by decide)))
  have K110 := K0.wr W110 (Or.inl (List.mem_singleton.mpr rfl))
  refine g_aload_n (i := 0) X110 hx (hb hby d6_9) (by rfl) rfl rfl ?_
  refine g_aload_n (i := 2) X110 hx (hb hby d6_10) (by rfl) rfl rfl ?_
  refine g_putF X110 hx hZ hown (wd hw 35 rfl) e110 F110_part E110_ (Or.inr ⟨wd hw 36 rfl, rfl, hnm⟩) (wd hw 27 rfl) (ty := (.object "java/lang/String")) (by decide) rfl rfl (hb hby d6_11) rfl ?_
  intro T111 h111 X111 e111 W111
  have N111 := Fr.snoc X111 N110 ga
  have E111_ := E110_.wr W111
  have F111_label := F110_label.other W111 (Or.inr (slot_ne (C := "com/example/wireup/wireup/Item") (Or.inr (wd hw 34 rfl)) (Or.inr (wd hw 36 rfl)) (by decide) (t := (.object "java/lang/String")) (t' := (.object "java/lang/String")) (by decide) (by decide)))
  have F111_part := F110_part.same W111
  have F111_origin := F110_origin.other W111 (Or.inr (slot_ne (C := "com/example/wireup/wireup/Item") (Or.inr (wd hw 38 rfl)) (Or.inr (wd hw 36 rfl)) (by decide) (t := (.object "java/lang/String")) (t' := (.object "java/lang/String")) (by decide) (by decide)))
  have K111 := K110.wr W111 (Or.inl (List.mem_singleton.mpr rfl))
  refine g_aload_n (i := 0) X111 hx (hb hby d6_14) (by rfl) rfl rfl ?_
  refine g_aload_n (i := 3) X111 hx (hb hby d6_15) (by rfl) rfl rfl ?_
  refine g_putF X111 hx hZ hown (wd hw 37 rfl) e111 F111_origin E111_ (Or.inr ⟨wd hw 38 rfl, rfl, hnm⟩) (wd hw 27 rfl) (ty := (.object "java/lang/String")) (by decide) rfl rfl (hb hby d6_16) rfl ?_
  intro T112 h112 X112 e112 W112
  have N112 := Fr.snoc X112 N111 ga
  have E112_ := E111_.wr W112
  have F112_label := F111_label.other W112 (Or.inr (slot_ne (C := "com/example/wireup/wireup/Item") (Or.inr (wd hw 34 rfl)) (Or.inr (wd hw 38 rfl)) (by decide) (t := (.object "java/lang/String")) (t' := (.object "java/lang/String")) (by decide) (by decide)))
  have F112_part := F111_part.other W112 (Or.inr (slot_ne (C := "com/example/wireup/wireup/Item") (Or.inr (wd hw 36 rfl)) (Or.inr (wd hw 38 rfl)) (by decide) (t := (.object "java/lang/String")) (t' := (.object "java/lang/String")) (by decide) (by decide)))
  have F112_origin := F111_origin.same W112
  have K112 := K111.wr W112 (Or.inl (List.mem_singleton.mpr rfl))
  exact g_ret X112 hx hlk hret e112 (by decide) (by decide) (hb hby d6_19) ⟨rfl, N112, K112, E112_, F112_label, F112_part, F112_origin⟩
theorem ef_rm_it_rr (m : MethodId) (x0 : Addr) (x1 : Addr) (x2 : Addr) (x3 : Addr)  : entryFrame m #[(.ref x0), (.ref x1), (.ref x2), (.ref x3)] 4 = mkF m 0 #[.val (.ref x0), .val (.ref x1), .val (.ref x2), .val (.ref x3)] [] := by first | (simp [entryFrame, mkF, argsToLocals, Value.category]; done) | rfl
set_option maxRecDepth 65536 in
set_option maxHeartbeats 40000000 in
theorem rm_it_rr (l : Launch) (Z : State) (a0 : Array Value) (hw : ∀ d ∈ tables_1, d.before a0 Z = true) (a la pa oa : Addr) (h0 : Heap) (n0 : Nat) (ga : n0 ≤ a) (E : Exa Z h0 a "com/example/wireup/wireup/Item") (F_label : Fld Z h0 a "com/example/wireup/wireup/Item" "label" "Ljava/lang/String;" .null) (F_part : Fld Z h0 a "com/example/wireup/wireup/Item" "part" "Ljava/lang/String;" .null) (F_origin : Fld Z h0 a "com/example/wireup/wireup/Item" "origin" "Ljava/lang/String;" .null) :
    Ctr l Z (⟨"com/example/wireup/wireup/Item", "<init>", "(Ljava/lang/String;Ljava/lang/String;Ljava/lang/String;)V"⟩ : MethodName) prog_47_method_2_code 4 (Option.none : Option FieldType) [] ({ frames := 1, cells := 0, slots := 0, locals := 12 } : Room) ({ frames := 1, cells := 0, slots := 0, locals := 12 } : Room).cells ({ frames := 1, cells := 0, slots := 0, locals := 12 } : Room).slots #[(.ref a), (.ref la), (.ref pa), (.ref oa)] h0 (fun u h L => u = none ∧ Fr n0 L ∧ Keep h0 h [a] ∧ Exa Z h a "com/example/wireup/wireup/Item" ∧ Fld Z h a "com/example/wireup/wireup/Item" "label" "Ljava/lang/String;" (.ref la) ∧ Fld Z h a "com/example/wireup/wireup/Item" "part" "Ljava/lang/String;" (.ref pa) ∧ Fld Z h a "com/example/wireup/wireup/Item" "origin" "Ljava/lang/String;" (.ref oa)) := by
  refine Ctr.of pn_98 ?_
  intro p e s m below meth c s₁ hx hby hml hown hnm hret hlk hZ X0 e0
  refine Goes.cast (ef_rm_it_rr m a la pa oa) ?_
  refine g_aload_n (i := 0) X0 hx (hb hby d6_0) (by rfl) rfl rfl ?_
  refine g_initO X0 hx hZ hown (wd hw 32 rfl) (wd hw 20 rfl) (wd hw 21 rfl) e0 (by rw [hml]; rfl) (hb hby d6_1) rfl (by decide) (by decide) ?_
  intro T114 X114 e114
  have K0 := Keep.refl h0 [a]
  refine g_aload_n (i := 0) X114 hx (hb hby d6_4) (by rfl) rfl rfl ?_
  refine g_aload_n (i := 1) X114 hx (hb hby d6_5) (by rfl) rfl rfl ?_
  refine g_putF X114 hx hZ hown (wd hw 33 rfl) e114 F_label E (Or.inr ⟨wd hw 34 rfl, rfl, hnm⟩) (wd hw 27 rfl) (ty := (.object "java/lang/String")) (by decide) rfl rfl (hb hby d6_6) rfl ?_
  intro T115 h115 X115 e115 W115
  have N115 := Fr.snoc X115 (Fr.nil n0) ga
  have E115_ := E.wr W115
  have F115_label := F_label.same W115
  have F115_part := F_part.other W115 (Or.inr (slot_ne (C := "com/example/wireup/wireup/Item") (Or.inr (wd hw 36 rfl)) (Or.inr (wd hw 34 rfl)) (by decide) (t := (.object "java/lang/String")) (t' := (.object "java/lang/String")) (by decide) (by decide)))
  have F115_origin := F_origin.other W115 (Or.inr (slot_ne (C := "com/example/wireup/wireup/Item") (Or.inr (wd hw 38 rfl)) (Or.inr (wd hw 34 rfl)) (by decide) (t := (.object "java/lang/String")) (t' := (.object "java/lang/String")) (by decide) (by decide)))
  have K115 := K0.wr W115 (Or.inl (List.mem_singleton.mpr rfl))
  refine g_aload_n (i := 0) X115 hx (hb hby d6_9) (by rfl) rfl rfl ?_
  refine g_aload_n (i := 2) X115 hx (hb hby d6_10) (by rfl) rfl rfl ?_
  refine g_putF X115 hx hZ hown (wd hw 35 rfl) e115 F115_part E115_ (Or.inr ⟨wd hw 36 rfl, rfl, hnm⟩) (wd hw 27 rfl) (ty := (.object "java/lang/String")) (by decide) rfl rfl (hb hby d6_11) rfl ?_
  intro T116 h116 X116 e116 W116
  have N116 := Fr.snoc X116 N115 ga
  have E116_ := E115_.wr W116
  have F116_label := F115_label.other W116 (Or.inr (slot_ne (C := "com/example/wireup/wireup/Item") (Or.inr (wd hw 34 rfl)) (Or.inr (wd hw 36 rfl)) (by decide) (t := (.object "java/lang/String")) (t' := (.object "java/lang/String")) (by decide) (by decide)))
  have F116_part := F115_part.same W116
  have F116_origin := F115_origin.other W116 (Or.inr (slot_ne (C := "com/example/wireup/wireup/Item") (Or.inr (wd hw 38 rfl)) (Or.inr (wd hw 36 rfl)) (by decide) (t := (.object "java/lang/String")) (t' := (.object "java/lang/String")) (by decide) (by decide)))
  have K116 := K115.wr W116 (Or.inl (List.mem_singleton.mpr rfl))
  refine g_aload_n (i := 0) X116 hx (hb hby d6_14) (by rfl) rfl rfl ?_
  refine g_aload_n (i := 3) X116 hx (hb hby d6_15) (by rfl) rfl rfl ?_
  refine g_putF X116 hx hZ hown (wd hw 37 rfl) e116 F116_origin E116_ (Or.inr ⟨wd hw 38 rfl, rfl, hnm⟩) (wd hw 27 rfl) (ty := (.object "java/lang/String")) (by decide) rfl rfl (hb hby d6_16) rfl ?_
  intro T117 h117 X117 e117 W117
  have N117 := Fr.snoc X117 N116 ga
  have E117_ := E116_.wr W117
  have F117_label := F116_label.other W117 (Or.inr (slot_ne (C := "com/example/wireup/wireup/Item") (Or.inr (wd hw 34 rfl)) (Or.inr (wd hw 38 rfl)) (by decide) (t := (.object "java/lang/String")) (t' := (.object "java/lang/String")) (by decide) (by decide)))
  have F117_part := F116_part.other W117 (Or.inr (slot_ne (C := "com/example/wireup/wireup/Item") (Or.inr (wd hw 36 rfl)) (Or.inr (wd hw 38 rfl)) (by decide) (t := (.object "java/lang/String")) (t' := (.object "java/lang/String")) (by decide) (by decide)))
  have F117_origin := F116_origin.same W117
  have K117 := K116.wr W117 (Or.inl (List.mem_singleton.mpr rfl))
  exact g_ret X117 hx hlk hret e117 (by decide) (by decide) (hb hby d6_19) ⟨rfl, N117, K117, E117_, F117_label, F117_part, F117_origin⟩
theorem ef_rm_at0 (m : MethodId) (x0 : Addr)  : entryFrame m #[(.ref x0), .null] 2 = mkF m 0 #[.val (.ref x0), .val .null] [] := by first | (simp [entryFrame, mkF, argsToLocals, Value.category]; done) | rfl
theorem pn_118 : plainFor (⟨"com/example/wireup/wireup/Item", "at", "(Ljava/lang/String;)Lcom/example/wireup/wireup/Item;"⟩ : MethodName) = true := by first | exact plainFor_of_name (by first | (simp [plainName, overriddenIn]; done) | decide +kernel) | decide +kernel
set_option maxRecDepth 65536 in
set_option maxHeartbeats 40000000 in
theorem rm_at0 (l : Launch) (Z : State) (a0 : Array Value) (hw : ∀ d ∈ tables_1, d.before a0 Z = true) (a : Addr) (h0 : Heap) :
    Ctr l Z (⟨"com/example/wireup/wireup/Item", "at", "(Ljava/lang/String;)Lcom/example/wireup/wireup/Item;"⟩ : MethodName) prog_47_method_3_code 2 (Option.some (FieldType.object "com/example/wireup/wireup/Item")) [] ({ frames := 0, cells := 0, slots := 0, locals := 0 } : Room) ({ frames := 0, cells := 0, slots := 0, locals := 0 } : Room).cells ({ frames := 0, cells := 0, slots := 0, locals := 0 } : Room).slots #[(.ref a), .null] h0 (fun u h L => u = some (.ref a) ∧ L = [] ∧ h = h0) := by
  refine Ctr.of pn_118 ?_
  intro p e s m below meth c s₁ hx hby hml hown hnm hret hlk hZ X0 e0
  refine Goes.cast (ef_rm_at0 m a) ?_
  refine g_aload_n (i := 1) X0 hx (hb hby d7_0) (by rfl) rfl rfl ?_
  refine g_ifnull_t X0 hx (hb hby d7_1) (by decide) (pt := 15) (by decide) ?_
  refine g_aload_n (i := 0) X0 hx (hb hby d7_15) (by rfl) rfl rfl ?_
  refine g_goto X0 hx (hb hby d7_16) (by decide) (by decide) (pc' := 35) ?_
  exact g_retA X0 hx rfl rfl hlk hret e0 (by decide) (by decide) (hb hby d7_35) ⟨rfl, rfl, rfl⟩
theorem ef_rm_at_nn (m : MethodId) (x0 : Addr) (x1 : Addr)  : entryFrame m #[(.ref x0), (.ref x1)] 2 = mkF m 0 #[.val (.ref x0), .val (.ref x1)] [] := by first | (simp [entryFrame, mkF, argsToLocals, Value.category]; done) | rfl
theorem pd_121 : parseMethodDescriptor "(Ljava/lang/Object;)Z" = some ⟨[(.object "java/lang/Object")], some .boolean⟩ := by decide +kernel
theorem pd_125 : parseMethodDescriptor "(Ljava/lang/String;Ljava/lang/String;Ljava/lang/String;)V" = some ⟨[(.object "java/lang/String"), (.object "java/lang/String"), (.object "java/lang/String")], none⟩ := by decide +kernel
set_option maxRecDepth 65536 in
set_option maxHeartbeats 40000000 in
theorem rm_at_nn (l : Launch) (Z : State) (a0 : Array Value) (hw : ∀ d ∈ tables_1, d.before a0 Z = true) (a la pa oa ob da db : Addr) (d o : List Int32) (h0 : Heap) (n0 : Nat) (Z0 : n0 ≤ h0.size) (cs : Int32) (S_cs : Sta Z h0 "java/lang/String" "COMPACT_STRINGS" "Z" (.int cs)) (hcs : ¬ cs = 0) (E : Exa Z h0 a "com/example/wireup/wireup/Item") (F_label : Fld Z h0 a "com/example/wireup/wireup/Item" "label" "Ljava/lang/String;" (.ref la)) (F_part : Fld Z h0 a "com/example/wireup/wireup/Item" "part" "Ljava/lang/String;" .null) (F_origin : Fld Z h0 a "com/example/wireup/wireup/Item" "origin" "Ljava/lang/String;" .null) (SD : own_S Z h0 da db d) (n1 : d.length ≤ 16) (n2 : o.length ≤ 16) :
    Ctr l Z (⟨"com/example/wireup/wireup/Item", "at", "(Ljava/lang/String;)Lcom/example/wireup/wireup/Item;"⟩ : MethodName) prog_47_method_3_code 2 (Option.some (FieldType.object "com/example/wireup/wireup/Item")) [] ({ frames := 2, cells := 1, slots := 3, locals := 28 } : Room) ({ frames := 2, cells := 1, slots := 3, locals := 28 } : Room).cells ({ frames := 2, cells := 1, slots := 3, locals := 28 } : Room).slots #[(.ref a), (.ref da)] h0 (fun u h L => ∃ r, u = some (.ref r) ∧ Fr n0 L ∧ Ext h0 h ∧ ((r = a ∧ False) ∨ (r ≠ a ∧ ¬ (False) ∧ Exa Z h r "com/example/wireup/wireup/Item" ∧ Fld Z h r "com/example/wireup/wireup/Item" "label" "Ljava/lang/String;" (.ref la) ∧ Fld Z h r "com/example/wireup/wireup/Item" "part" "Ljava/lang/String;" .null ∧ Fld Z h r "com/example/wireup/wireup/Item" "origin" "Ljava/lang/String;" (.ref da)))) := by
  refine Ctr.of pn_118 ?_
  intro p e s m below meth c s₁ hx hby hml hown hnm hret hlk hZ X0 e0
  refine Goes.cast (ef_rm_at_nn m a da) ?_
  refine g_aload_n (i := 1) X0 hx (hb hby d7_0) (by rfl) rfl rfl ?_
  refine g_ifnull_f X0 hx (hb hby d7_1) rfl ?_
  refine g_aload_n (i := 1) X0 hx (hb hby d7_4) (by rfl) rfl rfl ?_
  refine g_aload_n (i := 0) X0 hx (hb hby d7_5) (by rfl) rfl rfl ?_
  refine g_getF X0 hx hZ hown (wd hw 37 rfl) e0 F_origin (hb hby d7_6) rfl ?_
  intro T120 X120 e120
  refine g_callV X120 hx hZ hown (wd hw 44 rfl) (wd hw 45 rfl) (wd hw 47 rfl) (wd hw 46 rfl) (wd hw 2 rfl) (wd hw 48 rfl) (by decide) e120 da SD.1 (rm_eqn l Z a0 hw da h0) (by rw [hml]; rfl) [.null] [] rfl (lenOf pd_121 rfl) rfl (by show 0 + (3 + 11) + 0 ≤ _; decide) (by decide) (by decide) (by decide) (hb hby d7_9) rfl ?_
  intro T121 v121 L121 X121 hQ121
  obtain ⟨rfl, rfl, e121⟩ := hQ121
  have N121 := Fr.app (Fr.nil n0) (Fr.nil n0)
  show Goes p e below _ T121 (mkF m 12 #[.val (.ref a), .val (.ref da)] [(.int (0 : Int32))])
  refine g_if_eq X121 hx (hb hby d7_12) (by decide) (pt := 19) (by decide) rfl (fun _ => ?_) (fun q_ => absurd (by decide) q_)
  refine g_new X121 hx hZ hown (wd hw 52 rfl) (wd hw 27 rfl) (wd hw 28 rfl) e121 (hb hby d7_19) rfl (by decide) (by decide) ?_
  intro T122 h122 a122 X122 e122 g122 Ex122 E122 D122
  have F122_label : Fld Z h122 a122 "com/example/wireup/wireup/Item" "label" "Ljava/lang/String;" .null := D122 (Or.inr (wd hw 34 rfl)) (ty := (.object "java/lang/String")) (by decide)
  have F122_part : Fld Z h122 a122 "com/example/wireup/wireup/Item" "part" "Ljava/lang/String;" .null := D122 (Or.inr (wd hw 36 rfl)) (ty := (.object "java/lang/String")) (by decide)
  have F122_origin : Fld Z h122 a122 "com/example/wireup/wireup/Item" "origin" "Ljava/lang/String;" .null := D122 (Or.inr (wd hw 38 rfl)) (ty := (.object "java/lang/String")) (by decide)
  have ga : n0 ≤ a122 := by rw [g122]; exact Z0
  refine g_dup X122 hx (hb hby d7_22) rfl rfl ?_
  refine g_aload_n (i := 0) X122 hx (hb hby d7_23) (by rfl) rfl rfl ?_
  refine g_getF X122 hx hZ hown (wd hw 33 rfl) e122 (F_label.ext Ex122) (hb hby d7_24) rfl ?_
  intro T123 X123 e123
  refine g_aload_n (i := 0) X123 hx (hb hby d7_27) (by rfl) rfl rfl ?_
  refine g_getF X123 hx hZ hown (wd hw 35 rfl) e123 (F_part.ext Ex122) (hb hby d7_28) rfl ?_
  intro T124 X124 e124
  refine g_aload_n (i := 1) X124 hx (hb hby d7_31) (by rfl) rfl rfl ?_
  refine g_callI X124 hx hZ rfl hown (wd hw 53 rfl) (wd hw 30 rfl) (wd hw 28 rfl) (wd hw 31 rfl) (by decide) e124 (rm_it_nr l Z a0 hw a122 la pa da h122 n0 ga E122 F122_label F122_part F122_origin) (by rw [hml]; rfl) a122 [(.ref la), .null, (.ref da)] [(.ref a122)] rfl (lenOf pd_125 rfl) rfl (by show 1 + (4 + 11) + 12 ≤ _; decide) (by decide) (by decide) (by decide) (hb hby d7_32) rfl ?_
  intro T125 v125 L125 X125 hQ125
  obtain ⟨rfl, N125, K125, E125, G1, G2, G3⟩ := hQ125
  have N125 := Fr.app N121 N125
  show Goes p e below _ T125 (mkF m 35 #[.val (.ref a), .val (.ref da)] [(.ref a122)])
  exact g_retA X125 hx rfl rfl hlk hret rfl (by decide) (by decide) (hb hby d7_35) ⟨a122, rfl, N125, own_ext3 Ex122 K125 (fun x hx => by rw [List.mem_singleton.mp hx, g122]; exact Nat.le_refl _), Or.inr ⟨fun q => absurd E.lt (by rw [← q, g122]; exact Nat.lt_irrefl _), fun r => r, E125, G1, G2, G3⟩⟩
theorem ef_rm_at_nr (m : MethodId) (x0 : Addr) (x1 : Addr)  : entryFrame m #[(.ref x0), (.ref x1)] 2 = mkF m 0 #[.val (.ref x0), .val (.ref x1)] [] := by first | (simp [entryFrame, mkF, argsToLocals, Value.category]; done) | rfl
set_option maxRecDepth 65536 in
set_option maxHeartbeats 40000000 in
theorem rm_at_nr (l : Launch) (Z : State) (a0 : Array Value) (hw : ∀ d ∈ tables_1, d.before a0 Z = true) (a la pa oa ob da db : Addr) (d o : List Int32) (h0 : Heap) (n0 : Nat) (Z0 : n0 ≤ h0.size) (cs : Int32) (S_cs : Sta Z h0 "java/lang/String" "COMPACT_STRINGS" "Z" (.int cs)) (hcs : ¬ cs = 0) (E : Exa Z h0 a "com/example/wireup/wireup/Item") (F_label : Fld Z h0 a "com/example/wireup/wireup/Item" "label" "Ljava/lang/String;" (.ref la)) (F_part : Fld Z h0 a "com/example/wireup/wireup/Item" "part" "Ljava/lang/String;" .null) (F_origin : Fld Z h0 a "com/example/wireup/wireup/Item" "origin" "Ljava/lang/String;" (.ref oa)) (SD : own_S Z h0 da db d) (SO : own_S Z h0 oa ob o) (hne : da ≠ oa) (n1 : d.length ≤ 16) (n2 : o.length ≤ 16) :
    Ctr l Z (⟨"com/example/wireup/wireup/Item", "at", "(Ljava/lang/String;)Lcom/example/wireup/wireup/Item;"⟩ : MethodName) prog_47_method_3_code 2 (Option.some (FieldType.object "com/example/wireup/wireup/Item")) [] ({ frames := 2, cells := 1, slots := 3, locals := 28 } : Room) ({ frames := 2, cells := 1, slots := 3, locals := 28 } : Room).cells ({ frames := 2, cells := 1, slots := 3, locals := 28 } : Room).slots #[(.ref a), (.ref da)] h0 (fun u h L => ∃ r, u = some (.ref r) ∧ Fr n0 L ∧ Ext h0 h ∧ ((r = a ∧ d = o) ∨ (r ≠ a ∧ ¬ (d = o) ∧ Exa Z h r "com/example/wireup/wireup/Item" ∧ Fld Z h r "com/example/wireup/wireup/Item" "label" "Ljava/lang/String;" (.ref la) ∧ Fld Z h r "com/example/wireup/wireup/Item" "part" "Ljava/lang/String;" .null ∧ Fld Z h r "com/example/wireup/wireup/Item" "origin" "Ljava/lang/String;" (.ref da)))) := by
  refine Ctr.of pn_118 ?_
  intro p e s m below meth c s₁ hx hby hml hown hnm hret hlk hZ X0 e0
  refine Goes.cast (ef_rm_at_nr m a da) ?_
  refine g_aload_n (i := 1) X0 hx (hb hby d7_0) (by rfl) rfl rfl ?_
  refine g_ifnull_f X0 hx (hb hby d7_1) rfl ?_
  refine g_aload_n (i := 1) X0 hx (hb hby d7_4) (by rfl) rfl rfl ?_
  refine g_aload_n (i := 0) X0 hx (hb hby d7_5) (by rfl) rfl rfl ?_
  refine g_getF X0 hx hZ hown (wd hw 37 rfl) e0 F_origin (hb hby d7_6) rfl ?_
  intro T127 X127 e127
  refine g_callV X127 hx hZ hown (wd hw 44 rfl) (wd hw 45 rfl) (wd hw 47 rfl) (wd hw 46 rfl) (wd hw 2 rfl) (wd hw 48 rfl) (by decide) e127 da SD.1 (rm_seq l Z a0 hw da db oa ob d o h0 cs S_cs hcs SD SO hne n1 n2) (by rw [hml]; rfl) [(.ref oa)] [] rfl (lenOf pd_121 rfl) rfl (by show 0 + (3 + 11) + 14 ≤ _; decide) (by decide) (by decide) (by decide) (hb hby d7_9) rfl ?_
  intro T128 v128 L128 X128 hQ128
  obtain ⟨rfl, rfl, e128⟩ := hQ128
  have N128 := Fr.app (Fr.nil n0) (Fr.nil n0)
  show Goes p e below _ T128 (mkF m 12 #[.val (.ref a), .val (.ref da)] [(.int (if d = o then 1 else 0))])
  refine g_if_eq X128 hx (hb hby d7_12) (by decide) (pt := 19) (by decide) rfl (fun q => ?_) (fun q => ?_)
  · refine g_new X128 hx hZ hown (wd hw 52 rfl) (wd hw 27 rfl) (wd hw 28 rfl) e128 (hb hby d7_19) rfl (by decide) (by decide) ?_
    intro T129 h129 a129 X129 e129 g129 Ex129 E129 D129
    have F129_label : Fld Z h129 a129 "com/example/wireup/wireup/Item" "label" "Ljava/lang/String;" .null := D129 (Or.inr (wd hw 34 rfl)) (ty := (.object "java/lang/String")) (by decide)
    have F129_part : Fld Z h129 a129 "com/example/wireup/wireup/Item" "part" "Ljava/lang/String;" .null := D129 (Or.inr (wd hw 36 rfl)) (ty := (.object "java/lang/String")) (by decide)
    have F129_origin : Fld Z h129 a129 "com/example/wireup/wireup/Item" "origin" "Ljava/lang/String;" .null := D129 (Or.inr (wd hw 38 rfl)) (ty := (.object "java/lang/String")) (by decide)
    have ga : n0 ≤ a129 := by rw [g129]; exact Z0
    refine g_dup X129 hx (hb hby d7_22) rfl rfl ?_
    refine g_aload_n (i := 0) X129 hx (hb hby d7_23) (by rfl) rfl rfl ?_
    refine g_getF X129 hx hZ hown (wd hw 33 rfl) e129 (F_label.ext Ex129) (hb hby d7_24) rfl ?_
    intro T130 X130 e130
    refine g_aload_n (i := 0) X130 hx (hb hby d7_27) (by rfl) rfl rfl ?_
    refine g_getF X130 hx hZ hown (wd hw 35 rfl) e130 (F_part.ext Ex129) (hb hby d7_28) rfl ?_
    intro T131 X131 e131
    refine g_aload_n (i := 1) X131 hx (hb hby d7_31) (by rfl) rfl rfl ?_
    refine g_callI X131 hx hZ rfl hown (wd hw 53 rfl) (wd hw 30 rfl) (wd hw 28 rfl) (wd hw 31 rfl) (by decide) e131 (rm_it_nr l Z a0 hw a129 la pa da h129 n0 ga E129 F129_label F129_part F129_origin) (by rw [hml]; rfl) a129 [(.ref la), .null, (.ref da)] [(.ref a129)] rfl (lenOf pd_125 rfl) rfl (by show 1 + (4 + 11) + 12 ≤ _; decide) (by decide) (by decide) (by decide) (hb hby d7_32) rfl ?_
    intro T132 v132 L132 X132 hQ132
    obtain ⟨rfl, N132, K132, E132, G1, G2, G3⟩ := hQ132
    have N132 := Fr.app N128 N132
    show Goes p e below _ T132 (mkF m 35 #[.val (.ref a), .val (.ref da)] [(.ref a129)])
    exact g_retA X132 hx rfl rfl hlk hret rfl (by decide) (by decide) (hb hby d7_35) ⟨a129, rfl, N132, own_ext3 Ex129 K132 (fun x hx => by rw [List.mem_singleton.mp hx, g129]; exact Nat.le_refl _), Or.inr ⟨fun q => absurd E.lt (by rw [← q, g129]; exact Nat.lt_irrefl _), (fun r => by rw [if_pos r] at q; exact absurd q (by decide)), E132, G1, G2, G3⟩⟩
  · refine g_aload_n (i := 0) X128 hx (hb hby d7_15) (by rfl) rfl rfl ?_
    refine g_goto X128 hx (hb hby d7_16) (by decide) (by decide) (pc' := 35) ?_
    exact g_retA X128 hx rfl rfl hlk hret e128 (by decide) (by decide) (hb hby d7_35) ⟨a, rfl, N128, ⟨Nat.le_refl _, fun _ _ q => q⟩, Or.inl ⟨rfl, Classical.byContradiction fun r => q (if_neg r)⟩⟩
theorem ef_rm_at_rn (m : MethodId) (x0 : Addr) (x1 : Addr)  : entryFrame m #[(.ref x0), (.ref x1)] 2 = mkF m 0 #[.val (.ref x0), .val (.ref x1)] [] := by first | (simp [entryFrame, mkF, argsToLocals, Value.category]; done) | rfl
set_option maxRecDepth 65536 in
set_option maxHeartbeats 40000000 in
theorem rm_at_rn (l : Launch) (Z : State) (a0 : Array Value) (hw : ∀ d ∈ tables_1, d.before a0 Z = true) (a la pa oa ob da db : Addr) (d o : List Int32) (h0 : Heap) (n0 : Nat) (Z0 : n0 ≤ h0.size) (cs : Int32) (S_cs : Sta Z h0 "java/lang/String" "COMPACT_STRINGS" "Z" (.int cs)) (hcs : ¬ cs = 0) (E : Exa Z h0 a "com/example/wireup/wireup/Item") (F_label : Fld Z h0 a "com/example/wireup/wireup/Item" "label" "Ljava/lang/String;" (.ref la)) (F_part : Fld Z h0 a "com/example/wireup/wireup/Item" "part" "Ljava/lang/String;" (.ref pa)) (F_origin : Fld Z h0 a "com/example/wireup/wireup/Item" "origin" "Ljava/lang/String;" .null) (SD : own_S Z h0 da db d) (n1 : d.length ≤ 16) (n2 : o.length ≤ 16) :
    Ctr l Z (⟨"com/example/wireup/wireup/Item", "at", "(Ljava/lang/String;)Lcom/example/wireup/wireup/Item;"⟩ : MethodName) prog_47_method_3_code 2 (Option.some (FieldType.object "com/example/wireup/wireup/Item")) [] ({ frames := 2, cells := 1, slots := 3, locals := 28 } : Room) ({ frames := 2, cells := 1, slots := 3, locals := 28 } : Room).cells ({ frames := 2, cells := 1, slots := 3, locals := 28 } : Room).slots #[(.ref a), (.ref da)] h0 (fun u h L => ∃ r, u = some (.ref r) ∧ Fr n0 L ∧ Ext h0 h ∧ ((r = a ∧ False) ∨ (r ≠ a ∧ ¬ (False) ∧ Exa Z h r "com/example/wireup/wireup/Item" ∧ Fld Z h r "com/example/wireup/wireup/Item" "label" "Ljava/lang/String;" (.ref la) ∧ Fld Z h r "com/example/wireup/wireup/Item" "part" "Ljava/lang/String;" (.ref pa) ∧ Fld Z h r "com/example/wireup/wireup/Item" "origin" "Ljava/lang/String;" (.ref da)))) := by
  refine Ctr.of pn_118 ?_
  intro p e s m below meth c s₁ hx hby hml hown hnm hret hlk hZ X0 e0
  refine Goes.cast (ef_rm_at_rn m a da) ?_
  refine g_aload_n (i := 1) X0 hx (hb hby d7_0) (by rfl) rfl rfl ?_
  refine g_ifnull_f X0 hx (hb hby d7_1) rfl ?_
  refine g_aload_n (i := 1) X0 hx (hb hby d7_4) (by rfl) rfl rfl ?_
  refine g_aload_n (i := 0) X0 hx (hb hby d7_5) (by rfl) rfl rfl ?_
  refine g_getF X0 hx hZ hown (wd hw 37 rfl) e0 F_origin (hb hby d7_6) rfl ?_
  intro T134 X134 e134
  refine g_callV X134 hx hZ hown (wd hw 44 rfl) (wd hw 45 rfl) (wd hw 47 rfl) (wd hw 46 rfl) (wd hw 2 rfl) (wd hw 48 rfl) (by decide) e134 da SD.1 (rm_eqn l Z a0 hw da h0) (by rw [hml]; rfl) [.null] [] rfl (lenOf pd_121 rfl) rfl (by show 0 + (3 + 11) + 0 ≤ _; decide) (by decide) (by decide) (by decide) (hb hby d7_9) rfl ?_
  intro T135 v135 L135 X135 hQ135
  obtain ⟨rfl, rfl, e135⟩ := hQ135
  have N135 := Fr.app (Fr.nil n0) (Fr.nil n0)
  show Goes p e below _ T135 (mkF m 12 #[.val (.ref a), .val (.ref da)] [(.int (0 : Int32))])
  refine g_if_eq X135 hx (hb hby d7_12) (by decide) (pt := 19) (by decide) rfl (fun _ => ?_) (fun q_ => absurd (by decide) q_)
  refine g_new X135 hx hZ hown (wd hw 52 rfl) (wd hw 27 rfl) (wd hw 28 rfl) e135 (hb hby d7_19) rfl (by decide) (by decide) ?_
  intro T136 h136 a136 X136 e136 g136 Ex136 E136 D136
  have F136_label : Fld Z h136 a136 "com/example/wireup/wireup/Item" "label" "Ljava/lang/String;" .null := D136 (Or.inr (wd hw 34 rfl)) (ty := (.object "java/lang/String")) (by decide)
  have F136_part : Fld Z h136 a136 "com/example/wireup/wireup/Item" "part" "Ljava/lang/String;" .null := D136 (Or.inr (wd hw 36 rfl)) (ty := (.object "java/lang/String")) (by decide)
  have F136_origin : Fld Z h136 a136 "com/example/wireup/wireup/Item" "origin" "Ljava/lang/String;" .null := D136 (Or.inr (wd hw 38 rfl)) (ty := (.object "java/lang/String")) (by decide)
  have ga : n0 ≤ a136 := by rw [g136]; exact Z0
  refine g_dup X136 hx (hb hby d7_22) rfl rfl ?_
  refine g_aload_n (i := 0) X136 hx (hb hby d7_23) (by rfl) rfl rfl ?_
  refine g_getF X136 hx hZ hown (wd hw 33 rfl) e136 (F_label.ext Ex136) (hb hby d7_24) rfl ?_
  intro T137 X137 e137
  refine g_aload_n (i := 0) X137 hx (hb hby d7_27) (by rfl) rfl rfl ?_
  refine g_getF X137 hx hZ hown (wd hw 35 rfl) e137 (F_part.ext Ex136) (hb hby d7_28) rfl ?_
  intro T138 X138 e138
  refine g_aload_n (i := 1) X138 hx (hb hby d7_31) (by rfl) rfl rfl ?_
  refine g_callI X138 hx hZ rfl hown (wd hw 53 rfl) (wd hw 30 rfl) (wd hw 28 rfl) (wd hw 31 rfl) (by decide) e138 (rm_it_rr l Z a0 hw a136 la pa da h136 n0 ga E136 F136_label F136_part F136_origin) (by rw [hml]; rfl) a136 [(.ref la), (.ref pa), (.ref da)] [(.ref a136)] rfl (lenOf pd_125 rfl) rfl (by show 1 + (4 + 11) + 12 ≤ _; decide) (by decide) (by decide) (by decide) (hb hby d7_32) rfl ?_
  intro T139 v139 L139 X139 hQ139
  obtain ⟨rfl, N139, K139, E139, G1, G2, G3⟩ := hQ139
  have N139 := Fr.app N135 N139
  show Goes p e below _ T139 (mkF m 35 #[.val (.ref a), .val (.ref da)] [(.ref a136)])
  exact g_retA X139 hx rfl rfl hlk hret rfl (by decide) (by decide) (hb hby d7_35) ⟨a136, rfl, N139, own_ext3 Ex136 K139 (fun x hx => by rw [List.mem_singleton.mp hx, g136]; exact Nat.le_refl _), Or.inr ⟨fun q => absurd E.lt (by rw [← q, g136]; exact Nat.lt_irrefl _), fun r => r, E139, G1, G2, G3⟩⟩
theorem ef_rm_at_rr (m : MethodId) (x0 : Addr) (x1 : Addr)  : entryFrame m #[(.ref x0), (.ref x1)] 2 = mkF m 0 #[.val (.ref x0), .val (.ref x1)] [] := by first | (simp [entryFrame, mkF, argsToLocals, Value.category]; done) | rfl
set_option maxRecDepth 65536 in
set_option maxHeartbeats 40000000 in
theorem rm_at_rr (l : Launch) (Z : State) (a0 : Array Value) (hw : ∀ d ∈ tables_1, d.before a0 Z = true) (a la pa oa ob da db : Addr) (d o : List Int32) (h0 : Heap) (n0 : Nat) (Z0 : n0 ≤ h0.size) (cs : Int32) (S_cs : Sta Z h0 "java/lang/String" "COMPACT_STRINGS" "Z" (.int cs)) (hcs : ¬ cs = 0) (E : Exa Z h0 a "com/example/wireup/wireup/Item") (F_label : Fld Z h0 a "com/example/wireup/wireup/Item" "label" "Ljava/lang/String;" (.ref la)) (F_part : Fld Z h0 a "com/example/wireup/wireup/Item" "part" "Ljava/lang/String;" (.ref pa)) (F_origin : Fld Z h0 a "com/example/wireup/wireup/Item" "origin" "Ljava/lang/String;" (.ref oa)) (SD : own_S Z h0 da db d) (SO : own_S Z h0 oa ob o) (hne : da ≠ oa) (n1 : d.length ≤ 16) (n2 : o.length ≤ 16) :
    Ctr l Z (⟨"com/example/wireup/wireup/Item", "at", "(Ljava/lang/String;)Lcom/example/wireup/wireup/Item;"⟩ : MethodName) prog_47_method_3_code 2 (Option.some (FieldType.object "com/example/wireup/wireup/Item")) [] ({ frames := 2, cells := 1, slots := 3, locals := 28 } : Room) ({ frames := 2, cells := 1, slots := 3, locals := 28 } : Room).cells ({ frames := 2, cells := 1, slots := 3, locals := 28 } : Room).slots #[(.ref a), (.ref da)] h0 (fun u h L => ∃ r, u = some (.ref r) ∧ Fr n0 L ∧ Ext h0 h ∧ ((r = a ∧ d = o) ∨ (r ≠ a ∧ ¬ (d = o) ∧ Exa Z h r "com/example/wireup/wireup/Item" ∧ Fld Z h r "com/example/wireup/wireup/Item" "label" "Ljava/lang/String;" (.ref la) ∧ Fld Z h r "com/example/wireup/wireup/Item" "part" "Ljava/lang/String;" (.ref pa) ∧ Fld Z h r "com/example/wireup/wireup/Item" "origin" "Ljava/lang/String;" (.ref da)))) := by
  refine Ctr.of pn_118 ?_
  intro p e s m below meth c s₁ hx hby hml hown hnm hret hlk hZ X0 e0
  refine Goes.cast (ef_rm_at_rr m a da) ?_
  refine g_aload_n (i := 1) X0 hx (hb hby d7_0) (by rfl) rfl rfl ?_
  refine g_ifnull_f X0 hx (hb hby d7_1) rfl ?_
  refine g_aload_n (i := 1) X0 hx (hb hby d7_4) (by rfl) rfl rfl ?_
  refine g_aload_n (i := 0) X0 hx (hb hby d7_5) (by rfl) rfl rfl ?_
  refine g_getF X0 hx hZ hown (wd hw 37 rfl) e0 F_origin (hb hby d7_6) rfl ?_
  intro T141 X141 e141
  refine g_callV X141 hx hZ hown (wd hw 44 rfl) (wd hw 45 rfl) (wd hw 47 rfl) (wd hw 46 rfl) (wd hw 2 rfl) (wd hw 48 rfl) (by decide) e141 da SD.1 (rm_seq l Z a0 hw da db oa ob d o h0 cs S_cs hcs SD SO hne n1 n2) (by rw [hml]; rfl) [(.ref oa)] [] rfl (lenOf pd_121 rfl) rfl (by show 0 + (3 + 11) + 14 ≤ _; decide) (by decide) (by decide) (by decide) (hb hby d7_9) rfl ?_
  intro T142 v142 L142 X142 hQ142
  obtain ⟨rfl, rfl, e142⟩ := hQ142
  have N142 := Fr.app (Fr.nil n0) (Fr.nil n0)
  show Goes p e below _ T142 (mkF m 12 #[.val (.ref a), .val (.ref da)] [(.int (if d = o then 1 else 0))])
  refine g_if_eq X142 hx (hb hby d7_12) (by decide) (pt := 19) (by decide) rfl (fun q => ?_) (fun q => ?_)
  · refine g_new X142 hx hZ hown (wd hw 52 rfl) (wd hw 27 rfl) (wd hw 28 rfl) e142 (hb hby d7_19) rfl (by decide) (by decide) ?_
    intro T143 h143 a143 X143 e143 g143 Ex143 E143 D143
    have F143_label : Fld Z h143 a143 "com/example/wireup/wireup/Item" "label" "Ljava/lang/String;" .null := D143 (Or.inr (wd hw 34 rfl)) (ty := (.object "java/lang/String")) (by decide)
    have F143_part : Fld Z h143 a143 "com/example/wireup/wireup/Item" "part" "Ljava/lang/String;" .null := D143 (Or.inr (wd hw 36 rfl)) (ty := (.object "java/lang/String")) (by decide)
    have F143_origin : Fld Z h143 a143 "com/example/wireup/wireup/Item" "origin" "Ljava/lang/String;" .null := D143 (Or.inr (wd hw 38 rfl)) (ty := (.object "java/lang/String")) (by decide)
    have ga : n0 ≤ a143 := by rw [g143]; exact Z0
    refine g_dup X143 hx (hb hby d7_22) rfl rfl ?_
    refine g_aload_n (i := 0) X143 hx (hb hby d7_23) (by rfl) rfl rfl ?_
    refine g_getF X143 hx hZ hown (wd hw 33 rfl) e143 (F_label.ext Ex143) (hb hby d7_24) rfl ?_
    intro T144 X144 e144
    refine g_aload_n (i := 0) X144 hx (hb hby d7_27) (by rfl) rfl rfl ?_
    refine g_getF X144 hx hZ hown (wd hw 35 rfl) e144 (F_part.ext Ex143) (hb hby d7_28) rfl ?_
    intro T145 X145 e145
    refine g_aload_n (i := 1) X145 hx (hb hby d7_31) (by rfl) rfl rfl ?_
    refine g_callI X145 hx hZ rfl hown (wd hw 53 rfl) (wd hw 30 rfl) (wd hw 28 rfl) (wd hw 31 rfl) (by decide) e145 (rm_it_rr l Z a0 hw a143 la pa da h143 n0 ga E143 F143_label F143_part F143_origin) (by rw [hml]; rfl) a143 [(.ref la), (.ref pa), (.ref da)] [(.ref a143)] rfl (lenOf pd_125 rfl) rfl (by show 1 + (4 + 11) + 12 ≤ _; decide) (by decide) (by decide) (by decide) (hb hby d7_32) rfl ?_
    intro T146 v146 L146 X146 hQ146
    obtain ⟨rfl, N146, K146, E146, G1, G2, G3⟩ := hQ146
    have N146 := Fr.app N142 N146
    show Goes p e below _ T146 (mkF m 35 #[.val (.ref a), .val (.ref da)] [(.ref a143)])
    exact g_retA X146 hx rfl rfl hlk hret rfl (by decide) (by decide) (hb hby d7_35) ⟨a143, rfl, N146, own_ext3 Ex143 K146 (fun x hx => by rw [List.mem_singleton.mp hx, g143]; exact Nat.le_refl _), Or.inr ⟨fun q => absurd E.lt (by rw [← q, g143]; exact Nat.lt_irrefl _), (fun r => by rw [if_pos r] at q; exact absurd q (by decide)), E146, G1, G2, G3⟩⟩
  · refine g_aload_n (i := 0) X142 hx (hb hby d7_15) (by rfl) rfl rfl ?_
    refine g_goto X142 hx (hb hby d7_16) (by decide) (by decide) (pc' := 35) ?_
    exact g_retA X142 hx rfl rfl hlk hret e142 (by decide) (by decide) (hb hby d7_35) ⟨a, rfl, N142, ⟨Nat.le_refl _, fun _ _ q => q⟩, Or.inl ⟨rfl, Classical.byContradiction fun r => q (if_neg r)⟩⟩
theorem ef_rm_gp_n (m : MethodId) (x0 : Addr)  : entryFrame m #[(.ref x0)] 1 = mkF m 0 #[.val (.ref x0)] [] := by first | (simp [entryFrame, mkF, argsToLocals, Value.category]; done) | rfl
theorem pn_147 : plainFor (⟨"com/example/wireup/wireup/Item", "getPart", "()Ljava/lang/String;"⟩ : MethodName) = true := by first | exact plainFor_of_name (by first | (simp [plainName, overriddenIn]; done) | decide +kernel) | decide +kernel
set_option maxRecDepth 65536 in
set_option maxHeartbeats 40000000 in
theorem rm_gp_n (l : Launch) (Z : State) (a0 : Array Value) (hw : ∀ d ∈ tables_1, d.before a0 Z = true) (a pa : Addr) (h0 : Heap) (F : Fld Z h0 a "com/example/wireup/wireup/Item" "part" "Ljava/lang/String;" .null) :
    Ctr l Z (⟨"com/example/wireup/wireup/Item", "getPart", "()Ljava/lang/String;"⟩ : MethodName) prog_47_method_4_code 1 (Option.some (FieldType.object "java/lang/String")) [] ({ frames := 0, cells := 0, slots := 0, locals := 0 } : Room) ({ frames := 0, cells := 0, slots := 0, locals := 0 } : Room).cells ({ frames := 0, cells := 0, slots := 0, locals := 0 } : Room).slots #[(.ref a)] h0 (fun u h L => u = some .null ∧ L = [] ∧ h = h0) := by
  refine Ctr.of pn_147 ?_
  intro p e s m below meth c s₁ hx hby hml hown hnm hret hlk hZ X0 e0
  refine Goes.cast (ef_rm_gp_n m a) ?_
  refine g_aload_n (i := 0) X0 hx (hb hby d10_0) (by rfl) rfl rfl ?_
  refine g_getF X0 hx hZ hown (wd hw 35 rfl) e0 F (hb hby d10_1) rfl ?_
  intro T148 X148 e148
  exact g_retA X148 hx rfl rfl hlk hret e148 (by decide) (by decide) (hb hby d10_4) ⟨rfl, rfl, rfl⟩
theorem ef_rm_gp_r (m : MethodId) (x0 : Addr)  : entryFrame m #[(.ref x0)] 1 = mkF m 0 #[.val (.ref x0)] [] := by first | (simp [entryFrame, mkF, argsToLocals, Value.category]; done) | rfl
set_option maxRecDepth 65536 in
set_option maxHeartbeats 40000000 in
theorem rm_gp_r (l : Launch) (Z : State) (a0 : Array Value) (hw : ∀ d ∈ tables_1, d.before a0 Z = true) (a pa : Addr) (h0 : Heap) (F : Fld Z h0 a "com/example/wireup/wireup/Item" "part" "Ljava/lang/String;" (.ref pa)) :
    Ctr l Z (⟨"com/example/wireup/wireup/Item", "getPart", "()Ljava/lang/String;"⟩ : MethodName) prog_47_method_4_code 1 (Option.some (FieldType.object "java/lang/String")) [] ({ frames := 0, cells := 0, slots := 0, locals := 0 } : Room) ({ frames := 0, cells := 0, slots := 0, locals := 0 } : Room).cells ({ frames := 0, cells := 0, slots := 0, locals := 0 } : Room).slots #[(.ref a)] h0 (fun u h L => u = some (.ref pa) ∧ L = [] ∧ h = h0) := by
  refine Ctr.of pn_147 ?_
  intro p e s m below meth c s₁ hx hby hml hown hnm hret hlk hZ X0 e0
  refine Goes.cast (ef_rm_gp_r m a) ?_
  refine g_aload_n (i := 0) X0 hx (hb hby d10_0) (by rfl) rfl rfl ?_
  refine g_getF X0 hx hZ hown (wd hw 35 rfl) e0 F (hb hby d10_1) rfl ?_
  intro T150 X150 e150
  exact g_retA X150 hx rfl rfl hlk hret e150 (by decide) (by decide) (hb hby d10_4) ⟨rfl, rfl, rfl⟩
theorem ef_rm_ds_n (m : MethodId) (x0 : Addr)  : entryFrame m #[(.ref x0)] 1 = mkF m 0 #[.val (.ref x0)] [] := by first | (simp [entryFrame, mkF, argsToLocals, Value.category]; done) | rfl
theorem pn_151 : plainFor (⟨"com/example/wireup/wireup/Item", "describe", "()Ljava/lang/String;"⟩ : MethodName) = true := by first | exact plainFor_of_name (by first | (simp [plainName, overriddenIn]; done) | decide +kernel) | decide +kernel
theorem pd_154 : parseMethodDescriptor "()V" = some ⟨[], none⟩ := by decide +kernel
theorem pd_159 : parseMethodDescriptor "(Ljava/lang/String;)Ljava/lang/StringBuilder;" = some ⟨[(.object "java/lang/String")], some (.object "java/lang/StringBuilder")⟩ := by decide +kernel
theorem pd_172 : parseMethodDescriptor "()Ljava/lang/String;" = some ⟨[], some (.object "java/lang/String")⟩ := by decide +kernel
set_option maxRecDepth 65536 in
set_option maxHeartbeats 40000000 in
theorem rm_ds_n (l : Launch) (Z : State) (a0 : Array Value) (hw : ∀ d ∈ tables_1, d.before a0 Z = true) (a la lb pa pb oa ob : Addr) (l1 pl o : List Int32) (h0 : Heap) (n0 : Nat) (Z0 : n0 ≤ h0.size) (cs : Int32) (S_cs : Sta Z h0 "java/lang/String" "COMPACT_STRINGS" "Z" (.int cs)) (hcs : ¬ cs = 0) (F_label : Fld Z h0 a "com/example/wireup/wireup/Item" "label" "Ljava/lang/String;" (.ref la)) (F_part : Fld Z h0 a "com/example/wireup/wireup/Item" "part" "Ljava/lang/String;" .null) (F_origin : Fld Z h0 a "com/example/wireup/wireup/Item" "origin" "Ljava/lang/String;" (.ref oa)) (SL : own_S Z h0 la lb l1) (SO : own_S Z h0 oa ob o) (n1 : l1.length = 1) (n2 : pl.length = 1) (n3 : o.length = 1) :
    CtrH l Z own_EL (⟨"com/example/wireup/wireup/Item", "describe", "()Ljava/lang/String;"⟩ : MethodName) prog_47_method_5_code 1 (Option.some (FieldType.object "java/lang/String")) [] ({ frames := 6, cells := 8, slots := 60, locals := 91 } : Room) ({ frames := 6, cells := 8, slots := 60, locals := 91 } : Room).cells ({ frames := 6, cells := 8, slots := 60, locals := 91 } : Room).slots #[(.ref a)] h0 (fun u h L => ∃ ra rb, u = some (.ref ra) ∧ Fr n0 L ∧ Ext h0 h ∧ h0.size ≤ ra ∧ own_S Z h ra rb (((([] ++ l1) ++ [32, 40]) ++ o) ++ [41])) := by
  refine CtrH.of pn_151 ?_
  intro p e s m below meth c s₁ hx hby hml hown hnm hret hlk hZ X0 e0 hS hs0 hCH
  have hk : s.heap.size ≤ h0.size := by rw [hs0]; exact Nat.le_refl _
  refine Goes.cast (ef_rm_ds_n m a) ?_
  have R0 : CHr Z own_EL s.vm s.heap s.vm h0 := by rw [hs0]; exact CHr.refl hCH
  refine g_new X0 hx hZ hown (wd hw 64 rfl) (wd hw 65 rfl) (wd hw 66 rfl) e0 (hb hby d11_0) rfl (by decide) (by decide) ?_
  intro T152 h152 a152 X152 e152 g152 Ex152 E152 D152
  have F152_value : Fld Z h152 a152 "java/lang/AbstractStringBuilder" "value" "[B" .null := D152 (Or.inl (wd hw 79 rfl)) (ty := (.array .byte)) (by decide)
  have F152_coder : Fld Z h152 a152 "java/lang/AbstractStringBuilder" "coder" "B" (.int 0) := D152 (Or.inl (wd hw 81 rfl)) (ty := .byte) (by decide)
  have F152_count : Fld Z h152 a152 "java/lang/AbstractStringBuilder" "count" "I" (.int 0) := D152 (Or.inl (wd hw 103 rfl)) (ty := .int) (by decide)
  have Sn152 := Safe.ext Ex152 hCH (Safe.new (by rw [g152]; exact Nat.le_refl _) : Safe Z own_EL _ h0 a152)
  have gz152 : h0.size ≤ a152 := by rw [g152]; exact Nat.le_refl _
  have R153 := R0.trans (CHr.ext Ex152 hCH)
  have H153 := CHv.ext Ex152 hCH
  have EX153 := Ex152
  have hk := Nat.le_trans hk Ex152.1
  refine g_dup X152 hx (hb hby d11_3) rfl rfl ?_
  refine g_callI X152 hx hZ rfl hown (wd hw 67 rfl) (wd hw 68 rfl) (wd hw 66 rfl) (wd hw 69 rfl) (by decide) e152 (rm_sbi l Z a0 hw a152 h152 n0 (Nat.le_trans Z0 gz152) cs (S_cs.ext EX153) hcs E152 F152_value F152_coder F152_count) (by rw [hml]; rfl) a152 [] [(.ref a152)] rfl (lenOf pd_154 rfl) rfl (by show 1 + (1 + 11) + 25 ≤ _; decide) (by decide) (by decide) (by decide) (hb hby d11_4) rfl ?_
  intro T154 v154 L154 X154 hQ154
  obtain ⟨rfl, N154, K154, bz154, hz154, B154⟩ := hQ154
  have N154 := Fr.app (Fr.nil n0) N154
  show Goes p e below _ T154 (mkF m 7 #[.val (.ref a)] [(.ref a152)])
  have gy154 : h0.size ≤ bz154 := Nat.le_trans EX153.1 hz154
  have Sa_155 := Safe.keep K154 (sfS Sn152 sf0) H153 Sn152
  have Sb_155 := Safe.keep K154 (sfS Sn152 sf0) H153 (Safe.new hz154)
  have R156 := R153.trans (CHr.keep K154 (sfS Sn152 sf0) H153)
  have H156 := CHv.keep K154 (sfS Sn152 sf0) H153
  have EX156 := own_ext3 EX153 K154 (fun x hx => by rw [List.mem_singleton.mp hx]; exact gz152)
  have hk := Nat.le_trans hk K154.1
  refine g_aload_n (i := 0) X154 hx (hb hby d11_7) (by rfl) rfl rfl ?_
  refine g_getF X154 hx hZ hown (wd hw 35 rfl) rfl (F_part.ext EX156) (hb hby d11_8) rfl ?_
  intro T157 X157 e157
  refine g_ifnonnull_f X157 hx (hb hby d11_11) rfl ?_
  refine g_aload_n (i := 0) X157 hx (hb hby d11_14) (by rfl) rfl rfl ?_
  refine g_getF X157 hx hZ hown (wd hw 33 rfl) e157 (F_label.ext EX156) (hb hby d11_15) rfl ?_
  intro T158 X158 e158
  refine g_goto X158 hx (hb hby d11_18) (by decide) (by decide) (pc' := 50) ?_
  refine g_callV X158 hx hZ hown (wd hw 82 rfl) (wd hw 83 rfl) (wd hw 85 rfl) (wd hw 84 rfl) (wd hw 66 rfl) (wd hw 86 rfl) (by decide) e158 a152 B154.1 (rm_ap l Z a0 hw a152 bz154 [] la lb l1 T154.heap n0 (Nat.le_trans Z0 gz152) (Nat.le_trans Z0 gy154) cs (S_cs.ext EX156) hcs B154 (SL.ext EX156) (by simp only [List.length_append, List.length_cons, List.length_nil]; omega)) (by rw [hml]; rfl) [(.ref la)] [] rfl (lenOf pd_159 rfl) rfl (by show 0 + (2 + 11) + 61 ≤ _; decide) (by decide) (by decide) (by decide) (hb hby d11_50) rfl ?_
  intro T159 v159 L159 X159 hQ159
  obtain ⟨rfl, N159, K159, B159⟩ := hQ159
  have N159 := Fr.app N154 N159
  show Goes p e below _ T159 (mkF m 53 #[.val (.ref a)] [(.ref a152)])
  have R160 := R156.trans (CHr.keep K159 (sfS Sa_155 (sfS Sb_155 sf0)) H156)
  have SA160_0 := Safe.keep K159 (sfS Sa_155 (sfS Sb_155 sf0)) H156 Sa_155
  have SB160_0 := Safe.keep K159 (sfS Sa_155 (sfS Sb_155 sf0)) H156 Sb_155
  have BB160_0 := B159
  have H160 := CHv.keep K159 (sfS Sa_155 (sfS Sb_155 sf0)) H156
  have EX160 := own_ext3 EX156 K159 (own_ge2 gz152 gy154)
  have hk := Nat.le_trans hk K159.1
  have lt161 := BB160_0.1.lt
  have lu161 := BB160_0.2.2.2.2.1.lt
  refine g_ldcCH X159 hx hZ hown (wd hw 177 rfl) (own_wS hw) rfl hS hk (own_EW hw) (List.mem_cons_of_mem _ List.mem_cons_self) H160 [.int (32), .int (40)] (2 : Int32) (by decide +kernel) (by decide) rfl (hb hby d11_53) rfl 8 (by decide +kernel) (by decide) (by decide) (by decide) ?_
  intro a162 T162 h162 k162 b162 cA162 X162 e162 Ex162 hS hk hZ hown Es162 Fc162 Fv162 Av162 Rl162 Sf162
  have R162 := R160.trans Rl162
  have SA161 := Rl162.safe lt161 SA160_0
  have SB161 := Rl162.safe lu161 SB160_0
  have BB161 := BB160_0.ext Ex162
  have EX162 := own_tr EX160 Ex162
  have SC162 : own_S Z h162 a162 b162 [32, 40] := ⟨Es162, Fc162, Fv162, own_lit Av162 (by decide) rfl, own_byd [32, 40] (by decide)⟩
  refine g_callV X162 hx hZ hown (wd hw 82 rfl) (wd hw 83 rfl) (wd hw 85 rfl) (wd hw 84 rfl) (wd hw 66 rfl) (wd hw 86 rfl) (by decide) e162 a152 BB161.1 (rm_ap l Z a0 hw a152 bz154 ([] ++ l1) a162 b162 [32, 40] h162 n0 (Nat.le_trans Z0 gz152) (Nat.le_trans Z0 gy154) cs (S_cs.ext EX162) hcs BB161 SC162 (by simp only [List.length_append, List.length_cons, List.length_nil]; omega)) (by rw [hml]; rfl) [(.ref a162)] [] rfl (lenOf pd_159 rfl) rfl (by show 0 + (2 + 11) + 61 ≤ _; decide) (by decide) (by decide) (by decide) (hb hby d11_55) rfl ?_
  intro T163 v163 L163 X163 hQ163
  obtain ⟨rfl, N163, K163, B163⟩ := hQ163
  have N163 := Fr.app N159 N163
  show Goes p e below _ T163 (mkF m 58 #[.val (.ref a)] [(.ref a152)])
  have R164 := R162.trans (CHr.keep K163 (sfS SA161 (sfS SB161 sf0)) Rl162.1)
  have SA164_0 := Safe.keep K163 (sfS SA161 (sfS SB161 sf0)) Rl162.1 SA161
  have SB164_0 := Safe.keep K163 (sfS SA161 (sfS SB161 sf0)) Rl162.1 SB161
  have BB164_0 := B163
  have H164 := CHv.keep K163 (sfS SA161 (sfS SB161 sf0)) Rl162.1
  have EX164 := own_ext3 EX162 K163 (own_ge2 gz152 gy154)
  have hk := Nat.le_trans hk K163.1
  refine g_aload_n (i := 0) X163 hx (hb hby d11_58) (by rfl) rfl rfl ?_
  refine g_getF X163 hx hZ hown (wd hw 37 rfl) rfl (F_origin.ext EX164) (hb hby d11_59) rfl ?_
  intro T165 X165 e165
  refine g_callV X165 hx hZ hown (wd hw 82 rfl) (wd hw 83 rfl) (wd hw 85 rfl) (wd hw 84 rfl) (wd hw 66 rfl) (wd hw 86 rfl) (by decide) e165 a152 BB164_0.1 (rm_ap l Z a0 hw a152 bz154 (([] ++ l1) ++ [32, 40]) oa ob o T163.heap n0 (Nat.le_trans Z0 gz152) (Nat.le_trans Z0 gy154) cs (S_cs.ext EX164) hcs BB164_0 (SO.ext EX164) (by simp only [List.length_append, List.length_cons, List.length_nil]; omega)) (by rw [hml]; rfl) [(.ref oa)] [] rfl (lenOf pd_159 rfl) rfl (by show 0 + (2 + 11) + 61 ≤ _; decide) (by decide) (by decide) (by decide) (hb hby d11_62) rfl ?_
  intro T166 v166 L166 X166 hQ166
  obtain ⟨rfl, N166, K166, B166⟩ := hQ166
  have N166 := Fr.app N163 N166
  show Goes p e below _ T166 (mkF m 65 #[.val (.ref a)] [(.ref a152)])
  have R167 := R164.trans (CHr.keep K166 (sfS SA164_0 (sfS SB164_0 sf0)) H164)
  have SA167_0 := Safe.keep K166 (sfS SA164_0 (sfS SB164_0 sf0)) H164 SA164_0
  have SB167_0 := Safe.keep K166 (sfS SA164_0 (sfS SB164_0 sf0)) H164 SB164_0
  have BB167_0 := B166
  have H167 := CHv.keep K166 (sfS SA164_0 (sfS SB164_0 sf0)) H164
  have EX167 := own_ext3 EX164 K166 (own_ge2 gz152 gy154)
  have hk := Nat.le_trans hk K166.1
  have lt168 := BB167_0.1.lt
  have lu168 := BB167_0.2.2.2.2.1.lt
  refine g_ldcCH X166 hx hZ hown (wd hw 178 rfl) (own_wS hw) rfl hS hk (own_EW hw) (List.mem_cons_of_mem _ (List.mem_cons_of_mem _ List.mem_cons_self)) H167 [.int (41)] (1 : Int32) (by decide +kernel) (by decide) rfl (hb hby d11_65) rfl 4 (by decide +kernel) (by decide) (by decide) (by decide) ?_
  intro a169 T169 h169 k169 b169 cA169 X169 e169 Ex169 hS hk hZ hown Es169 Fc169 Fv169 Av169 Rl169 Sf169
  have R169 := R167.trans Rl169
  have SA168 := Rl169.safe lt168 SA167_0
  have SB168 := Rl169.safe lu168 SB167_0
  have BB168 := BB167_0.ext Ex169
  have EX169 := own_tr EX167 Ex169
  have SC169 : own_S Z h169 a169 b169 [41] := ⟨Es169, Fc169, Fv169, own_lit Av169 (by decide) rfl, own_byd [41] (by decide)⟩
  refine g_callV X169 hx hZ hown (wd hw 82 rfl) (wd hw 83 rfl) (wd hw 85 rfl) (wd hw 84 rfl) (wd hw 66 rfl) (wd hw 86 rfl) (by decide) e169 a152 BB168.1 (rm_ap l Z a0 hw a152 bz154 ((([] ++ l1) ++ [32, 40]) ++ o) a169 b169 [41] h169 n0 (Nat.le_trans Z0 gz152) (Nat.le_trans Z0 gy154) cs (S_cs.ext EX169) hcs BB168 SC169 (by simp only [List.length_append, List.length_cons, List.length_nil]; omega)) (by rw [hml]; rfl) [(.ref a169)] [] rfl (lenOf pd_159 rfl) rfl (by show 0 + (2 + 11) + 61 ≤ _; decide) (by decide) (by decide) (by decide) (hb hby d11_67) rfl ?_
  intro T170 v170 L170 X170 hQ170
  obtain ⟨rfl, N170, K170, B170⟩ := hQ170
  have N170 := Fr.app N166 N170
  show Goes p e below _ T170 (mkF m 70 #[.val (.ref a)] [(.ref a152)])
  have R171 := R169.trans (CHr.keep K170 (sfS SA168 (sfS SB168 sf0)) Rl169.1)
  have SA171_0 := Safe.keep K170 (sfS SA168 (sfS SB168 sf0)) Rl169.1 SA168
  have SB171_0 := Safe.keep K170 (sfS SA168 (sfS SB168 sf0)) Rl169.1 SB168
  have BB171_0 := B170
  have H171 := CHv.keep K170 (sfS SA168 (sfS SB168 sf0)) Rl169.1
  have EX171 := own_ext3 EX169 K170 (own_ge2 gz152 gy154)
  have hk := Nat.le_trans hk K170.1
  refine g_callV X170 hx hZ hown (wd hw 132 rfl) (wd hw 133 rfl) (wd hw 135 rfl) (wd hw 134 rfl) (wd hw 66 rfl) (wd hw 136 rfl) (by decide) rfl a152 BB171_0.1 (rm_ts l Z a0 hw a152 bz154 (((([] ++ l1) ++ [32, 40]) ++ o) ++ [41]) T170.heap n0 (Nat.le_trans Z0 EX171.1) cs (S_cs.ext EX171) hcs BB171_0 (by simp only [List.length_append, List.length_cons, List.length_nil]; omega)) (by rw [hml]; rfl) [] [] rfl (lenOf pd_172 rfl) rfl (by show 0 + (1 + 11) + 79 ≤ _; decide) (by decide) (by decide) (by decide) (hb hby d11_70) rfl ?_
  intro T172 v172 L172 X172 hQ172
  obtain ⟨ra, rb, rfl, N172, E172, hra, -, ST172⟩ := hQ172
  have N172 := Fr.app N170 N172
  show Goes p e below _ T172 (mkF m 73 #[.val (.ref a)] [(.ref ra)])
  have hra2 := Nat.le_trans EX171.1 hra
  have R173 := R171.trans (CHr.ext E172 H171)
  have SA173_0 := Safe.ext E172 H171 SA171_0
  have SB173_0 := Safe.ext E172 H171 SB171_0
  have BB173_0 := BB171_0.ext E172
  have H173 := CHv.ext E172 H171
  have EX173 := own_tr EX171 E172
  have hk := Nat.le_trans hk E172.1
  exact g_retAH X172 hx rfl rfl hlk hret rfl hS hk hZ (own_EW hw) R173 (by decide) (by decide) (hb hby d11_73) ⟨ra, rb, rfl, N172, EX173, hra2, ST172⟩
theorem ef_rm_ds_r (m : MethodId) (x0 : Addr)  : entryFrame m #[(.ref x0)] 1 = mkF m 0 #[.val (.ref x0)] [] := by first | (simp [entryFrame, mkF, argsToLocals, Value.category]; done) | rfl
set_option maxRecDepth 65536 in
set_option maxHeartbeats 40000000 in
theorem rm_ds_r (l : Launch) (Z : State) (a0 : Array Value) (hw : ∀ d ∈ tables_1, d.before a0 Z = true) (a la lb pa pb oa ob : Addr) (l1 pl o : List Int32) (h0 : Heap) (n0 : Nat) (Z0 : n0 ≤ h0.size) (cs : Int32) (S_cs : Sta Z h0 "java/lang/String" "COMPACT_STRINGS" "Z" (.int cs)) (hcs : ¬ cs = 0) (F_label : Fld Z h0 a "com/example/wireup/wireup/Item" "label" "Ljava/lang/String;" (.ref la)) (F_part : Fld Z h0 a "com/example/wireup/wireup/Item" "part" "Ljava/lang/String;" (.ref pa)) (F_origin : Fld Z h0 a "com/example/wireup/wireup/Item" "origin" "Ljava/lang/String;" (.ref oa)) (SL : own_S Z h0 la lb l1) (SP : own_S Z h0 pa pb pl) (SO : own_S Z h0 oa ob o) (n1 : l1.length = 1) (n2 : pl.length = 1) (n3 : o.length = 1) :
    CtrH l Z own_EL (⟨"com/example/wireup/wireup/Item", "describe", "()Ljava/lang/String;"⟩ : MethodName) prog_47_method_5_code 1 (Option.some (FieldType.object "java/lang/String")) [] ({ frames := 6, cells := 14, slots := 112, locals := 92 } : Room) ({ frames := 6, cells := 14, slots := 112, locals := 92 } : Room).cells ({ frames := 6, cells := 14, slots := 112, locals := 92 } : Room).slots #[(.ref a)] h0 (fun u h L => ∃ ra rb, u = some (.ref ra) ∧ Fr n0 L ∧ Ext h0 h ∧ h0.size ≤ ra ∧ own_S Z h ra rb ((((([] ++ ((([] ++ l1) ++ [44, 32]) ++ pl))) ++ [32, 40]) ++ o) ++ [41])) := by
  refine CtrH.of pn_151 ?_
  intro p e s m below meth c s₁ hx hby hml hown hnm hret hlk hZ X0 e0 hS hs0 hCH
  have hk : s.heap.size ≤ h0.size := by rw [hs0]; exact Nat.le_refl _
  refine Goes.cast (ef_rm_ds_r m a) ?_
  have R0 : CHr Z own_EL s.vm s.heap s.vm h0 := by rw [hs0]; exact CHr.refl hCH
  refine g_new X0 hx hZ hown (wd hw 64 rfl) (wd hw 65 rfl) (wd hw 66 rfl) e0 (hb hby d11_0) rfl (by decide) (by decide) ?_
  intro T175 h175 a175 X175 e175 g175 Ex175 E175 D175
  have F175_value : Fld Z h175 a175 "java/lang/AbstractStringBuilder" "value" "[B" .null := D175 (Or.inl (wd hw 79 rfl)) (ty := (.array .byte)) (by decide)
  have F175_coder : Fld Z h175 a175 "java/lang/AbstractStringBuilder" "coder" "B" (.int 0) := D175 (Or.inl (wd hw 81 rfl)) (ty := .byte) (by decide)
  have F175_count : Fld Z h175 a175 "java/lang/AbstractStringBuilder" "count" "I" (.int 0) := D175 (Or.inl (wd hw 103 rfl)) (ty := .int) (by decide)
  have Sn175 := Safe.ext Ex175 hCH (Safe.new (by rw [g175]; exact Nat.le_refl _) : Safe Z own_EL _ h0 a175)
  have gz175 : h0.size ≤ a175 := by rw [g175]; exact Nat.le_refl _
  have R176 := R0.trans (CHr.ext Ex175 hCH)
  have H176 := CHv.ext Ex175 hCH
  have EX176 := Ex175
  have hk := Nat.le_trans hk Ex175.1
  refine g_dup X175 hx (hb hby d11_3) rfl rfl ?_
  refine g_callI X175 hx hZ rfl hown (wd hw 67 rfl) (wd hw 68 rfl) (wd hw 66 rfl) (wd hw 69 rfl) (by decide) e175 (rm_sbi l Z a0 hw a175 h175 n0 (Nat.le_trans Z0 gz175) cs (S_cs.ext EX176) hcs E175 F175_value F175_coder F175_count) (by rw [hml]; rfl) a175 [] [(.ref a175)] rfl (lenOf pd_154 rfl) rfl (by show 1 + (1 + 11) + 25 ≤ _; decide) (by decide) (by decide) (by decide) (hb hby d11_4) rfl ?_
  intro T177 v177 L177 X177 hQ177
  obtain ⟨rfl, N177, K177, bz177, hz177, B177⟩ := hQ177
  have N177 := Fr.app (Fr.nil n0) N177
  show Goes p e below _ T177 (mkF m 7 #[.val (.ref a)] [(.ref a175)])
  have gy177 : h0.size ≤ bz177 := Nat.le_trans EX176.1 hz177
  have Sa_178 := Safe.keep K177 (sfS Sn175 sf0) H176 Sn175
  have Sb_178 := Safe.keep K177 (sfS Sn175 sf0) H176 (Safe.new hz177)
  have R179 := R176.trans (CHr.keep K177 (sfS Sn175 sf0) H176)
  have H179 := CHv.keep K177 (sfS Sn175 sf0) H176
  have EX179 := own_ext3 EX176 K177 (fun x hx => by rw [List.mem_singleton.mp hx]; exact gz175)
  have hk := Nat.le_trans hk K177.1
  refine g_aload_n (i := 0) X177 hx (hb hby d11_7) (by rfl) rfl rfl ?_
  refine g_getF X177 hx hZ hown (wd hw 35 rfl) rfl (F_part.ext EX179) (hb hby d11_8) rfl ?_
  intro T180 X180 e180
  refine g_ifnonnull_t X180 hx (hb hby d11_11) (by decide) (pt := 21) (by decide) ?_
  refine g_new X180 hx hZ hown (wd hw 64 rfl) (wd hw 65 rfl) (wd hw 66 rfl) e180 (hb hby d11_21) rfl (by decide) (by decide) ?_
  intro T181 h181 a181 X181 e181 g181 Ex181 E181 D181
  have F181_value : Fld Z h181 a181 "java/lang/AbstractStringBuilder" "value" "[B" .null := D181 (Or.inl (wd hw 79 rfl)) (ty := (.array .byte)) (by decide)
  have F181_coder : Fld Z h181 a181 "java/lang/AbstractStringBuilder" "coder" "B" (.int 0) := D181 (Or.inl (wd hw 81 rfl)) (ty := .byte) (by decide)
  have F181_count : Fld Z h181 a181 "java/lang/AbstractStringBuilder" "count" "I" (.int 0) := D181 (Or.inl (wd hw 103 rfl)) (ty := .int) (by decide)
  have Sn181 := Safe.ext Ex181 H179 (Safe.new (by rw [g181]; exact Nat.le_refl _) : Safe Z own_EL _ T177.heap a181)
  have gz181 : h0.size ≤ a181 := by rw [g181]; exact EX179.1
  have lt182 := B177.1.lt
  have lu182 := B177.2.2.2.2.1.lt
  have R183 := R179.trans (CHr.ext Ex181 H179)
  have SA183_0 := Safe.ext Ex181 H179 Sa_178
  have SB183_0 := Safe.ext Ex181 H179 Sb_178
  have BB183_0 := B177.ext Ex181
  have H183 := CHv.ext Ex181 H179
  have EX183 := own_tr EX179 Ex181
  have hk := Nat.le_trans hk Ex181.1
  refine g_dup X181 hx (hb hby d11_24) rfl rfl ?_
  refine g_callI X181 hx hZ rfl hown (wd hw 67 rfl) (wd hw 68 rfl) (wd hw 66 rfl) (wd hw 69 rfl) (by decide) e181 (rm_sbi l Z a0 hw a181 h181 n0 (Nat.le_trans Z0 gz181) cs (S_cs.ext EX183) hcs E181 F181_value F181_coder F181_count) (by rw [hml]; rfl) a181 [] [(.ref a181), (.ref a175)] rfl (lenOf pd_154 rfl) rfl (by show 2 + (1 + 11) + 25 ≤ _; decide) (by decide) (by decide) (by decide) (hb hby d11_25) rfl ?_
  intro T184 v184 L184 X184 hQ184
  obtain ⟨rfl, N184, K184, bz184, hz184, B184⟩ := hQ184
  have N184 := Fr.app N177 N184
  show Goes p e below _ T184 (mkF m 28 #[.val (.ref a)] [(.ref a181), (.ref a175)])
  have gy184 : h0.size ≤ bz184 := Nat.le_trans EX183.1 hz184
  have nx182 : a175 ∉ [a181] := fun q => absurd lt182 (by rw [List.mem_singleton.mp q, g181]; exact Nat.lt_irrefl _)
  have ny182 : bz177 ∉ [a181] := fun q => absurd lu182 (by rw [List.mem_singleton.mp q, g181]; exact Nat.lt_irrefl _)
  have d1_182 : a175 ∉ [a181, bz184] := fun q => by rcases List.mem_cons.mp q with q | q; exact nx182 (List.mem_singleton.mpr q); exact absurd (Nat.lt_of_lt_of_le lt182 Ex181.1) (by rw [List.mem_singleton.mp q]; exact Nat.not_lt.mpr hz184)
  have d2_182 : bz177 ∉ [a181, bz184] := fun q => by rcases List.mem_cons.mp q with q | q; exact ny182 (List.mem_singleton.mpr q); exact absurd (Nat.lt_of_lt_of_le lu182 Ex181.1) (by rw [List.mem_singleton.mp q]; exact Nat.not_lt.mpr hz184)
  have Sa_185 := Safe.keep K184 (sfS Sn181 sf0) H183 Sn181
  have Sb_185 := Safe.keep K184 (sfS Sn181 sf0) H183 (Safe.new hz184)
  have R186 := R183.trans (CHr.keep K184 (sfS Sn181 sf0) H183)
  have SA186_0 := Safe.keep K184 (sfS Sn181 sf0) H183 SA183_0
  have SB186_0 := Safe.keep K184 (sfS Sn181 sf0) H183 SB183_0
  have BB186_0 := BB183_0.keep K184 nx182 ny182
  have H186 := CHv.keep K184 (sfS Sn181 sf0) H183
  have EX186 := own_ext3 EX183 K184 (fun x hx => by rw [List.mem_singleton.mp hx]; exact gz181)
  have hk := Nat.le_trans hk K184.1
  refine g_aload_n (i := 0) X184 hx (hb hby d11_28) (by rfl) rfl rfl ?_
  refine g_getF X184 hx hZ hown (wd hw 33 rfl) rfl (F_label.ext EX186) (hb hby d11_29) rfl ?_
  intro T187 X187 e187
  refine g_callV X187 hx hZ hown (wd hw 82 rfl) (wd hw 83 rfl) (wd hw 85 rfl) (wd hw 84 rfl) (wd hw 66 rfl) (wd hw 86 rfl) (by decide) e187 a181 B184.1 (rm_ap l Z a0 hw a181 bz184 [] la lb l1 T184.heap n0 (Nat.le_trans Z0 gz181) (Nat.le_trans Z0 gy184) cs (S_cs.ext EX186) hcs B184 (SL.ext EX186) (by simp only [List.length_append, List.length_cons, List.length_nil]; omega)) (by rw [hml]; rfl) [(.ref la)] [(.ref a175)] rfl (lenOf pd_159 rfl) rfl (by show 1 + (2 + 11) + 61 ≤ _; decide) (by decide) (by decide) (by decide) (hb hby d11_32) rfl ?_
  intro T188 v188 L188 X188 hQ188
  obtain ⟨rfl, N188, K188, B188⟩ := hQ188
  have N188 := Fr.app N184 N188
  show Goes p e below _ T188 (mkF m 35 #[.val (.ref a)] [(.ref a181), (.ref a175)])
  have R189 := R186.trans (CHr.keep K188 (sfS Sa_185 (sfS Sb_185 sf0)) H186)
  have SA189_0 := Safe.keep K188 (sfS Sa_185 (sfS Sb_185 sf0)) H186 SA186_0
  have SB189_0 := Safe.keep K188 (sfS Sa_185 (sfS Sb_185 sf0)) H186 SB186_0
  have BB189_0 := BB186_0.keep K188 d1_182 d2_182
  have SA189_1 := Safe.keep K188 (sfS Sa_185 (sfS Sb_185 sf0)) H186 Sa_185
  have SB189_1 := Safe.keep K188 (sfS Sa_185 (sfS Sb_185 sf0)) H186 Sb_185
  have BB189_1 := B188
  have H189 := CHv.keep K188 (sfS Sa_185 (sfS Sb_185 sf0)) H186
  have EX189 := own_ext3 EX186 K188 (own_ge2 gz181 gy184)
  have hk := Nat.le_trans hk K188.1
  have lt190 := BB189_0.1.lt
  have lu190 := BB189_0.2.2.2.2.1.lt
  have lt191 := BB189_1.1.lt
  have lu191 := BB189_1.2.2.2.2.1.lt
  refine g_ldcCH X188 hx hZ hown (wd hw 129 rfl) (own_wS hw) rfl hS hk (own_EW hw) List.mem_cons_self H189 [.int (44), .int (32)] (2 : Int32) (by decide +kernel) (by decide) rfl (hb hby d11_35) rfl 8 (by decide +kernel) (by decide) (by decide) (by decide) ?_
  intro a192 T192 h192 k192 b192 cA192 X192 e192 Ex192 hS hk hZ hown Es192 Fc192 Fv192 Av192 Rl192 Sf192
  have R192 := R189.trans Rl192
  have SA190 := Rl192.safe lt190 SA189_0
  have SB190 := Rl192.safe lu190 SB189_0
  have BB190 := BB189_0.ext Ex192
  have SA191 := Rl192.safe lt191 SA189_1
  have SB191 := Rl192.safe lu191 SB189_1
  have BB191 := BB189_1.ext Ex192
  have EX192 := own_tr EX189 Ex192
  have SC192 : own_S Z h192 a192 b192 [44, 32] := ⟨Es192, Fc192, Fv192, own_lit Av192 (by decide) rfl, own_byd [44, 32] (by decide)⟩
  refine g_callV X192 hx hZ hown (wd hw 82 rfl) (wd hw 83 rfl) (wd hw 85 rfl) (wd hw 84 rfl) (wd hw 66 rfl) (wd hw 86 rfl) (by decide) e192 a181 BB191.1 (rm_ap l Z a0 hw a181 bz184 ([] ++ l1) a192 b192 [44, 32] h192 n0 (Nat.le_trans Z0 gz181) (Nat.le_trans Z0 gy184) cs (S_cs.ext EX192) hcs BB191 SC192 (by simp only [List.length_append, List.length_cons, List.length_nil]; omega)) (by rw [hml]; rfl) [(.ref a192)] [(.ref a175)] rfl (lenOf pd_159 rfl) rfl (by show 1 + (2 + 11) + 61 ≤ _; decide) (by decide) (by decide) (by decide) (hb hby d11_37) rfl ?_
  intro T193 v193 L193 X193 hQ193
  obtain ⟨rfl, N193, K193, B193⟩ := hQ193
  have N193 := Fr.app N188 N193
  show Goes p e below _ T193 (mkF m 40 #[.val (.ref a)] [(.ref a181), (.ref a175)])
  have R194 := R192.trans (CHr.keep K193 (sfS SA191 (sfS SB191 sf0)) Rl192.1)
  have SA194_0 := Safe.keep K193 (sfS SA191 (sfS SB191 sf0)) Rl192.1 SA190
  have SB194_0 := Safe.keep K193 (sfS SA191 (sfS SB191 sf0)) Rl192.1 SB190
  have BB194_0 := BB190.keep K193 d1_182 d2_182
  have SA194_1 := Safe.keep K193 (sfS SA191 (sfS SB191 sf0)) Rl192.1 SA191
  have SB194_1 := Safe.keep K193 (sfS SA191 (sfS SB191 sf0)) Rl192.1 SB191
  have BB194_1 := B193
  have H194 := CHv.keep K193 (sfS SA191 (sfS SB191 sf0)) Rl192.1
  have EX194 := own_ext3 EX192 K193 (own_ge2 gz181 gy184)
  have hk := Nat.le_trans hk K193.1
  refine g_aload_n (i := 0) X193 hx (hb hby d11_40) (by rfl) rfl rfl ?_
  refine g_getF X193 hx hZ hown (wd hw 35 rfl) rfl (F_part.ext EX194) (hb hby d11_41) rfl ?_
  intro T195 X195 e195
  refine g_callV X195 hx hZ hown (wd hw 82 rfl) (wd hw 83 rfl) (wd hw 85 rfl) (wd hw 84 rfl) (wd hw 66 rfl) (wd hw 86 rfl) (by decide) e195 a181 BB194_1.1 (rm_ap l Z a0 hw a181 bz184 (([] ++ l1) ++ [44, 32]) pa pb pl T193.heap n0 (Nat.le_trans Z0 gz181) (Nat.le_trans Z0 gy184) cs (S_cs.ext EX194) hcs BB194_1 (SP.ext EX194) (by simp only [List.length_append, List.length_cons, List.length_nil]; omega)) (by rw [hml]; rfl) [(.ref pa)] [(.ref a175)] rfl (lenOf pd_159 rfl) rfl (by show 1 + (2 + 11) + 61 ≤ _; decide) (by decide) (by decide) (by decide) (hb hby d11_44) rfl ?_
  intro T196 v196 L196 X196 hQ196
  obtain ⟨rfl, N196, K196, B196⟩ := hQ196
  have N196 := Fr.app N193 N196
  show Goes p e below _ T196 (mkF m 47 #[.val (.ref a)] [(.ref a181), (.ref a175)])
  have R197 := R194.trans (CHr.keep K196 (sfS SA194_1 (sfS SB194_1 sf0)) H194)
  have SA197_0 := Safe.keep K196 (sfS SA194_1 (sfS SB194_1 sf0)) H194 SA194_0
  have SB197_0 := Safe.keep K196 (sfS SA194_1 (sfS SB194_1 sf0)) H194 SB194_0
  have BB197_0 := BB194_0.keep K196 d1_182 d2_182
  have SA197_1 := Safe.keep K196 (sfS SA194_1 (sfS SB194_1 sf0)) H194 SA194_1
  have SB197_1 := Safe.keep K196 (sfS SA194_1 (sfS SB194_1 sf0)) H194 SB194_1
  have BB197_1 := B196
  have H197 := CHv.keep K196 (sfS SA194_1 (sfS SB194_1 sf0)) H194
  have EX197 := own_ext3 EX194 K196 (own_ge2 gz181 gy184)
  have hk := Nat.le_trans hk K196.1
  refine g_callV X196 hx hZ hown (wd hw 132 rfl) (wd hw 133 rfl) (wd hw 135 rfl) (wd hw 134 rfl) (wd hw 66 rfl) (wd hw 136 rfl) (by decide) rfl a181 BB197_1.1 (rm_ts l Z a0 hw a181 bz184 ((([] ++ l1) ++ [44, 32]) ++ pl) T196.heap n0 (Nat.le_trans Z0 EX197.1) cs (S_cs.ext EX197) hcs BB197_1 (by simp only [List.length_append, List.length_cons, List.length_nil]; omega)) (by rw [hml]; rfl) [] [(.ref a175)] rfl (lenOf pd_172 rfl) rfl (by show 1 + (1 + 11) + 79 ≤ _; decide) (by decide) (by decide) (by decide) (hb hby d11_47) rfl ?_
  intro T198 v198 L198 X198 hQ198
  obtain ⟨ta, tb, rfl, N198, E198, -, -, ST198⟩ := hQ198
  have N198 := Fr.app N196 N198
  show Goes p e below _ T198 (mkF m 50 #[.val (.ref a)] [(.ref ta), (.ref a175)])
  have R199 := R197.trans (CHr.ext E198 H197)
  have SA199_0 := Safe.ext E198 H197 SA197_0
  have SB199_0 := Safe.ext E198 H197 SB197_0
  have BB199_0 := BB197_0.ext E198
  have SA199_1 := Safe.ext E198 H197 SA197_1
  have SB199_1 := Safe.ext E198 H197 SB197_1
  have BB199_1 := BB197_1.ext E198
  have H199 := CHv.ext E198 H197
  have EX199 := own_tr EX197 E198
  have hk := Nat.le_trans hk E198.1
  refine g_callV X198 hx hZ hown (wd hw 82 rfl) (wd hw 83 rfl) (wd hw 85 rfl) (wd hw 84 rfl) (wd hw 66 rfl) (wd hw 86 rfl) (by decide) rfl a175 BB199_0.1 (rm_ap l Z a0 hw a175 bz177 [] ta tb ((([] ++ l1) ++ [44, 32]) ++ pl) T198.heap n0 (Nat.le_trans Z0 gz175) (Nat.le_trans Z0 gy177) cs (S_cs.ext EX199) hcs BB199_0 ST198 (by simp only [List.length_append, List.length_cons, List.length_nil]; omega)) (by rw [hml]; rfl) [(.ref ta)] [] rfl (lenOf pd_159 rfl) rfl (by show 0 + (2 + 11) + 61 ≤ _; decide) (by decide) (by decide) (by decide) (hb hby d11_50) rfl ?_
  intro T200 v200 L200 X200 hQ200
  obtain ⟨rfl, N200, K200, B200⟩ := hQ200
  have N200 := Fr.app N198 N200
  show Goes p e below _ T200 (mkF m 53 #[.val (.ref a)] [(.ref a175)])
  have R201 := R199.trans (CHr.keep K200 (sfS SA199_0 (sfS SB199_0 sf0)) H199)
  have SA201_0 := Safe.keep K200 (sfS SA199_0 (sfS SB199_0 sf0)) H199 SA199_0
  have SB201_0 := Safe.keep K200 (sfS SA199_0 (sfS SB199_0 sf0)) H199 SB199_0
  have BB201_0 := B200
  have H201 := CHv.keep K200 (sfS SA199_0 (sfS SB199_0 sf0)) H199
  have EX201 := own_ext3 EX199 K200 (own_ge2 gz175 gy177)
  have hk := Nat.le_trans hk K200.1
  have lt202 := BB201_0.1.lt
  have lu202 := BB201_0.2.2.2.2.1.lt
  refine g_ldcCH X200 hx hZ hown (wd hw 177 rfl) (own_wS hw) rfl hS hk (own_EW hw) (List.mem_cons_of_mem _ List.mem_cons_self) H201 [.int (32), .int (40)] (2 : Int32) (by decide +kernel) (by decide) rfl (hb hby d11_53) rfl 8 (by decide +kernel) (by decide) (by decide) (by decide) ?_
  intro a203 T203 h203 k203 b203 cA203 X203 e203 Ex203 hS hk hZ hown Es203 Fc203 Fv203 Av203 Rl203 Sf203
  have R203 := R201.trans Rl203
  have SA202 := Rl203.safe lt202 SA201_0
  have SB202 := Rl203.safe lu202 SB201_0
  have BB202 := BB201_0.ext Ex203
  have EX203 := own_tr EX201 Ex203
  have SC203 : own_S Z h203 a203 b203 [32, 40] := ⟨Es203, Fc203, Fv203, own_lit Av203 (by decide) rfl, own_byd [32, 40] (by decide)⟩
  refine g_callV X203 hx hZ hown (wd hw 82 rfl) (wd hw 83 rfl) (wd hw 85 rfl) (wd hw 84 rfl) (wd hw 66 rfl) (wd hw 86 rfl) (by decide) e203 a175 BB202.1 (rm_ap l Z a0 hw a175 bz177 ([] ++ ((([] ++ l1) ++ [44, 32]) ++ pl)) a203 b203 [32, 40] h203 n0 (Nat.le_trans Z0 gz175) (Nat.le_trans Z0 gy177) cs (S_cs.ext EX203) hcs BB202 SC203 (by simp only [List.length_append, List.length_cons, List.length_nil]; omega)) (by rw [hml]; rfl) [(.ref a203)] [] rfl (lenOf pd_159 rfl) rfl (by show 0 + (2 + 11) + 61 ≤ _; decide) (by decide) (by decide) (by decide) (hb hby d11_55) rfl ?_
  intro T204 v204 L204 X204 hQ204
  obtain ⟨rfl, N204, K204, B204⟩ := hQ204
  have N204 := Fr.app N200 N204
  show Goes p e below _ T204 (mkF m 58 #[.val (.ref a)] [(.ref a175)])
  have R205 := R203.trans (CHr.keep K204 (sfS SA202 (sfS SB202 sf0)) Rl203.1)
  have SA205_0 := Safe.keep K204 (sfS SA202 (sfS SB202 sf0)) Rl203.1 SA202
  have SB205_0 := Safe.keep K204 (sfS SA202 (sfS SB202 sf0)) Rl203.1 SB202
  have BB205_0 := B204
  have H205 := CHv.keep K204 (sfS SA202 (sfS SB202 sf0)) Rl203.1
  have EX205 := own_ext3 EX203 K204 (own_ge2 gz175 gy177)
  have hk := Nat.le_trans hk K204.1
  refine g_aload_n (i := 0) X204 hx (hb hby d11_58) (by rfl) rfl rfl ?_
  refine g_getF X204 hx hZ hown (wd hw 37 rfl) rfl (F_origin.ext EX205) (hb hby d11_59) rfl ?_
  intro T206 X206 e206
  refine g_callV X206 hx hZ hown (wd hw 82 rfl) (wd hw 83 rfl) (wd hw 85 rfl) (wd hw 84 rfl) (wd hw 66 rfl) (wd hw 86 rfl) (by decide) e206 a175 BB205_0.1 (rm_ap l Z a0 hw a175 bz177 (([] ++ ((([] ++ l1) ++ [44, 32]) ++ pl)) ++ [32, 40]) oa ob o T204.heap n0 (Nat.le_trans Z0 gz175) (Nat.le_trans Z0 gy177) cs (S_cs.ext EX205) hcs BB205_0 (SO.ext EX205) (by simp only [List.length_append, List.length_cons, List.length_nil]; omega)) (by rw [hml]; rfl) [(.ref oa)] [] rfl (lenOf pd_159 rfl) rfl (by show 0 + (2 + 11) + 61 ≤ _; decide) (by decide) (by decide) (by decide) (hb hby d11_62) rfl ?_
  intro T207 v207 L207 X207 hQ207
  obtain ⟨rfl, N207, K207, B207⟩ := hQ207
  have N207 := Fr.app N204 N207
  show Goes p e below _ T207 (mkF m 65 #[.val (.ref a)] [(.ref a175)])
  have R208 := R205.trans (CHr.keep K207 (sfS SA205_0 (sfS SB205_0 sf0)) H205)
  have SA208_0 := Safe.keep K207 (sfS SA205_0 (sfS SB205_0 sf0)) H205 SA205_0
  have SB208_0 := Safe.keep K207 (sfS SA205_0 (sfS SB205_0 sf0)) H205 SB205_0
  have BB208_0 := B207
  have H208 := CHv.keep K207 (sfS SA205_0 (sfS SB205_0 sf0)) H205
  have EX208 := own_ext3 EX205 K207 (own_ge2 gz175 gy177)
  have hk := Nat.le_trans hk K207.1
  have lt209 := BB208_0.1.lt
  have lu209 := BB208_0.2.2.2.2.1.lt
  refine g_ldcCH X207 hx hZ hown (wd hw 178 rfl) (own_wS hw) rfl hS hk (own_EW hw) (List.mem_cons_of_mem _ (List.mem_cons_of_mem _ List.mem_cons_self)) H208 [.int (41)] (1 : Int32) (by decide +kernel) (by decide) rfl (hb hby d11_65) rfl 4 (by decide +kernel) (by decide) (by decide) (by decide) ?_
  intro a210 T210 h210 k210 b210 cA210 X210 e210 Ex210 hS hk hZ hown Es210 Fc210 Fv210 Av210 Rl210 Sf210
  have R210 := R208.trans Rl210
  have SA209 := Rl210.safe lt209 SA208_0
  have SB209 := Rl210.safe lu209 SB208_0
  have BB209 := BB208_0.ext Ex210
  have EX210 := own_tr EX208 Ex210
  have SC210 : own_S Z h210 a210 b210 [41] := ⟨Es210, Fc210, Fv210, own_lit Av210 (by decide) rfl, own_byd [41] (by decide)⟩
  refine g_callV X210 hx hZ hown (wd hw 82 rfl) (wd hw 83 rfl) (wd hw 85 rfl) (wd hw 84 rfl) (wd hw 66 rfl) (wd hw 86 rfl) (by decide) e210 a175 BB209.1 (rm_ap l Z a0 hw a175 bz177 ((([] ++ ((([] ++ l1) ++ [44, 32]) ++ pl)) ++ [32, 40]) ++ o) a210 b210 [41] h210 n0 (Nat.le_trans Z0 gz175) (Nat.le_trans Z0 gy177) cs (S_cs.ext EX210) hcs BB209 SC210 (by simp only [List.length_append, List.length_cons, List.length_nil]; omega)) (by rw [hml]; rfl) [(.ref a210)] [] rfl (lenOf pd_159 rfl) rfl (by show 0 + (2 + 11) + 61 ≤ _; decide) (by decide) (by decide) (by decide) (hb hby d11_67) rfl ?_
  intro T211 v211 L211 X211 hQ211
  obtain ⟨rfl, N211, K211, B211⟩ := hQ211
  have N211 := Fr.app N207 N211
  show Goes p e below _ T211 (mkF m 70 #[.val (.ref a)] [(.ref a175)])
  have R212 := R210.trans (CHr.keep K211 (sfS SA209 (sfS SB209 sf0)) Rl210.1)
  have SA212_0 := Safe.keep K211 (sfS SA209 (sfS SB209 sf0)) Rl210.1 SA209
  have SB212_0 := Safe.keep K211 (sfS SA209 (sfS SB209 sf0)) Rl210.1 SB209
  have BB212_0 := B211
  have H212 := CHv.keep K211 (sfS SA209 (sfS SB209 sf0)) Rl210.1
  have EX212 := own_ext3 EX210 K211 (own_ge2 gz175 gy177)
  have hk := Nat.le_trans hk K211.1
  refine g_callV X211 hx hZ hown (wd hw 132 rfl) (wd hw 133 rfl) (wd hw 135 rfl) (wd hw 134 rfl) (wd hw 66 rfl) (wd hw 136 rfl) (by decide) rfl a175 BB212_0.1 (rm_ts l Z a0 hw a175 bz177 (((([] ++ ((([] ++ l1) ++ [44, 32]) ++ pl)) ++ [32, 40]) ++ o) ++ [41]) T211.heap n0 (Nat.le_trans Z0 EX212.1) cs (S_cs.ext EX212) hcs BB212_0 (by simp only [List.length_append, List.length_cons, List.length_nil]; omega)) (by rw [hml]; rfl) [] [] rfl (lenOf pd_172 rfl) rfl (by show 0 + (1 + 11) + 79 ≤ _; decide) (by decide) (by decide) (by decide) (hb hby d11_70) rfl ?_
  intro T213 v213 L213 X213 hQ213
  obtain ⟨ra, rb, rfl, N213, E213, hra, -, ST213⟩ := hQ213
  have N213 := Fr.app N211 N213
  show Goes p e below _ T213 (mkF m 73 #[.val (.ref a)] [(.ref ra)])
  have hra2 := Nat.le_trans EX212.1 hra
  have R214 := R212.trans (CHr.ext E213 H212)
  have SA214_0 := Safe.ext E213 H212 SA212_0
  have SB214_0 := Safe.ext E213 H212 SB212_0
  have BB214_0 := BB212_0.ext E213
  have H214 := CHv.ext E213 H212
  have EX214 := own_tr EX212 E213
  have hk := Nat.le_trans hk E213.1
  exact g_retAH X213 hx rfl rfl hlk hret rfl hS hk hZ (own_EW hw) R214 (by decide) (by decide) (hb hby d11_73) ⟨ra, rb, rfl, N213, EX214, hra2, ST213⟩
-- describe: (((([] ++ l1) ++ [32, 40]) ++ o) ++ [41]) / (((([] ++ ((([] ++ l1) ++ [44, 32]) ++ pl)) ++ [32, 40]) ++ o) ++ [41])
theorem ef_rm0 (m : MethodId) (x0 : Int32) (x1 : Int32) (x2 : Int32) (x3 : Int32) (x4 : Int32)  : entryFrame m #[(.int x0), (.int x1), (.int x2), (.int x3), (.int x4)] maxLocals = mkF m 0 #[.val (.int x0), .val (.int x1), .val (.int x2), .val (.int x3), .val (.int x4), .unset, .unset, .unset, .unset, .unset, .unset, .unset, .unset, .unset, .unset, .unset, .unset, .unset] [] := by first | (simp [entryFrame, mkF, argsToLocals, Value.category, maxLocals]; done) | rfl
theorem pn_215 : plainFor x = true := by first | exact plainFor_of_name (by first | (simp [plainName, overriddenIn]; done) | decide +kernel) | decide +kernel
theorem pd_216 : parseMethodDescriptor "(C)Ljava/lang/String;" = some ⟨[.char], some (.object "java/lang/String")⟩ := by decide +kernel
theorem pd_227 : parseMethodDescriptor "(Ljava/lang/String;)Lcom/example/wireup/wireup/Item;" = some ⟨[(.object "java/lang/String")], some (.object "com/example/wireup/wireup/Item")⟩ := by decide +kernel
set_option maxRecDepth 65536 in
set_option maxHeartbeats 40000000 in
theorem rm0 (l : Launch) (Z : State) (a0 : Array Value) (hw : ∀ d ∈ tables_1, d.before a0 Z = true) (p0 p1 p2 p3 p4 : Int32) (h0 : Heap) (n0 : Nat) (Z0 : n0 ≤ h0.size) (cs : Int32) (S_cs : Sta Z h0 "java/lang/String" "COMPACT_STRINGS" "Z" (.int cs)) (hcs : ¬ cs = 0) :
    CtrL l Z own_EL x code maxLocals ret tables_1 room_1 72 3456 #[(.int p0), (.int p1), (.int p2), (.int p3), (.int p4)] h0 (fun v h L => v = some (.int 1) ∧ Fr n0 L) := by
  refine CtrL.of pn_215 ?_
  intro p e s m below meth c s₁ hx hby hml hown hnm hret hlk hZ X0 e0 hS hs0 hCH
  have hk : s.heap.size ≤ h0.size := by rw [hs0]; exact Nat.le_refl _
  refine Goes.cast (ef_rm0 m p0 p1 p2 p3 p4) ?_
  refine g_iload_n (i := 0) X0 hx (hb hby at_0) (by rfl) rfl ?_
  refine g_sipush (v := (255 : Int32)) X0 hx (hb hby at_1) (by decide) rfl ?_
  refine g_iand X0 hx (hb hby at_4) rfl ?_
  refine g_i2c X0 hx (hb hby at_5) rfl ?_
  refine g_callS X0 hx hZ hown (wd hw 0 rfl) (wd hw 1 rfl) (wd hw 2 rfl) (wd hw 3 rfl) (by decide) e0 (rm_val l Z a0 hw ((p0 &&& (255 : Int32)).toUInt32.toUInt16.toUInt32.toInt32) h0 n0 Z0 cs S_cs hcs (by rw [own_ch]; omega)) (by rw [hml]; rfl) [(.int (p0 &&& (255 : Int32)).toUInt32.toUInt16.toUInt32.toInt32)] [] rfl (lenOf pd_216 rfl) rfl (by show 0 + (1 + 11) + 27 ≤ _; decide) (by decide) (by decide) (by decide) (hb hby at_6) rfl ?_
  intro T216 v216 L216 X216 hQ216
  obtain ⟨la, lab, rfl, N216, E216, gla, -, Sla⟩ := hQ216
  have N216 := Fr.app (Fr.nil n0) N216
  show Goes p e below _ T216 (mkF m 9 #[.val (.int p0), .val (.int p1), .val (.int p2), .val (.int p3), .val (.int p4), .unset, .unset, .unset, .unset, .unset, .unset, .unset, .unset, .unset, .unset, .unset, .unset, .unset] [(.ref la)])
  have S_cs_217 := S_cs.ext E216
  have H217 := CHv.ext E216 hCH
  have Zz217 : n0 ≤ _ := Nat.le_trans Z0 E216.1
  have hk := Nat.le_trans hk E216.1
  refine g_astore (i := 5) X216 hx #[.val (.int p0), .val (.int p1), .val (.int p2), .val (.int p3), .val (.int p4), .val (.ref la), .unset, .unset, .unset, .unset, .unset, .unset, .unset, .unset, .unset, .unset, .unset, .unset] (hb hby at_9) rfl rfl rfl ?_
  refine g_iload (i := 4) X216 hx (hb hby at_11) (by rfl) rfl ?_
  refine g_iconst (v := (1 : Int32)) X216 hx (hb hby at_13) (by decide) rfl ?_
  refine g_iand X216 hx (hb hby at_14) rfl ?_
  refine g_if_eq X216 hx (hb hby at_15) (by decide) (pt := 22) (by decide) rfl (fun q1 => ?_) (fun q1 => ?_)
  · refine g_iconst (v := (0 : Int32)) X216 hx (hb hby at_22) (by decide) rfl ?_
    refine g_istore (i := 6) X216 hx #[.val (.int p0), .val (.int p1), .val (.int p2), .val (.int p3), .val (.int p4), .val (.ref la), .val (.int (0 : Int32)), .unset, .unset, .unset, .unset, .unset, .unset, .unset, .unset, .unset, .unset, .unset] (hb hby at_23) rfl rfl ?_
    refine g_iload (i := 6) X216 hx (hb hby at_25) (by rfl) rfl ?_
    refine g_if_eq X216 hx (hb hby at_27) (by decide) (pt := 34) (by decide) rfl (fun _ => ?_) (fun q_ => absurd (by decide) q_)
    refine g_iload_n (i := 1) X216 hx (hb hby at_34) (by rfl) rfl ?_
    refine g_sipush (v := (255 : Int32)) X216 hx (hb hby at_35) (by decide) rfl ?_
    refine g_iand X216 hx (hb hby at_38) rfl ?_
    refine g_i2c X216 hx (hb hby at_39) rfl ?_
    refine g_callS X216 hx hZ hown (wd hw 0 rfl) (wd hw 1 rfl) (wd hw 2 rfl) (wd hw 3 rfl) (by decide) rfl (rm_val l Z a0 hw ((p1 &&& (255 : Int32)).toUInt32.toUInt16.toUInt32.toInt32) T216.heap n0 Zz217 cs S_cs_217 hcs (by rw [own_ch]; omega)) (by rw [hml]; rfl) [(.int (p1 &&& (255 : Int32)).toUInt32.toUInt16.toUInt32.toInt32)] [] rfl (lenOf pd_216 rfl) rfl (by show 0 + (1 + 11) + 27 ≤ _; decide) (by decide) (by decide) (by decide) (hb hby at_40) rfl ?_
    intro T218 v218 L218 X218 hQ218
    obtain ⟨pa, pab, rfl, N218, E218, gpa, -, Spa⟩ := hQ218
    have N218 := Fr.app N216 N218
    show Goes p e below _ T218 (mkF m 43 #[.val (.int p0), .val (.int p1), .val (.int p2), .val (.int p3), .val (.int p4), .val (.ref la), .val (.int (0 : Int32)), .unset, .unset, .unset, .unset, .unset, .unset, .unset, .unset, .unset, .unset, .unset] [(.ref pa)])
    have S_cs_219 := S_cs_217.ext E218
    have S_la_219 := Sla.ext E218
    have H219 := CHv.ext E218 H217
    have Zz219 : n0 ≤ _ := Nat.le_trans Zz217 E218.1
    have hk := Nat.le_trans hk E218.1
    refine g_astore (i := 7) X218 hx #[.val (.int p0), .val (.int p1), .val (.int p2), .val (.int p3), .val (.int p4), .val (.ref la), .val (.int (0 : Int32)), .val (.ref pa), .unset, .unset, .unset, .unset, .unset, .unset, .unset, .unset, .unset, .unset] (hb hby at_43) rfl rfl rfl ?_
    refine g_iload (i := 4) X218 hx (hb hby at_45) (by rfl) rfl ?_
    refine g_bipush (v := (8 : Int32)) X218 hx (hb hby at_47) (by decide) rfl ?_
    refine g_iand X218 hx (hb hby at_49) rfl ?_
    refine g_if_eq X218 hx (hb hby at_50) (by decide) (pt := 57) (by decide) rfl (fun q2 => ?_) (fun q2 => ?_)
    · refine g_iconst (v := (0 : Int32)) X218 hx (hb hby at_57) (by decide) rfl ?_
      refine g_istore (i := 8) X218 hx #[.val (.int p0), .val (.int p1), .val (.int p2), .val (.int p3), .val (.int p4), .val (.ref la), .val (.int (0 : Int32)), .val (.ref pa), .val (.int (0 : Int32)), .unset, .unset, .unset, .unset, .unset, .unset, .unset, .unset, .unset] (hb hby at_58) rfl rfl ?_
      refine g_iload (i := 8) X218 hx (hb hby at_60) (by rfl) rfl ?_
      refine g_if_eq X218 hx (hb hby at_62) (by decide) (pt := 69) (by decide) rfl (fun _ => ?_) (fun q_ => absurd (by decide) q_)
      refine g_iload_n (i := 2) X218 hx (hb hby at_69) (by rfl) rfl ?_
      refine g_sipush (v := (255 : Int32)) X218 hx (hb hby at_70) (by decide) rfl ?_
      refine g_iand X218 hx (hb hby at_73) rfl ?_
      refine g_i2c X218 hx (hb hby at_74) rfl ?_
      refine g_callS X218 hx hZ hown (wd hw 0 rfl) (wd hw 1 rfl) (wd hw 2 rfl) (wd hw 3 rfl) (by decide) rfl (rm_val l Z a0 hw ((p2 &&& (255 : Int32)).toUInt32.toUInt16.toUInt32.toInt32) T218.heap n0 Zz219 cs S_cs_219 hcs (by rw [own_ch]; omega)) (by rw [hml]; rfl) [(.int (p2 &&& (255 : Int32)).toUInt32.toUInt16.toUInt32.toInt32)] [] rfl (lenOf pd_216 rfl) rfl (by show 0 + (1 + 11) + 27 ≤ _; decide) (by decide) (by decide) (by decide) (hb hby at_75) rfl ?_
      intro T220 v220 L220 X220 hQ220
      obtain ⟨oa, oab, rfl, N220, E220, goa, -, Soa⟩ := hQ220
      have N220 := Fr.app N218 N220
      show Goes p e below _ T220 (mkF m 78 #[.val (.int p0), .val (.int p1), .val (.int p2), .val (.int p3), .val (.int p4), .val (.ref la), .val (.int (0 : Int32)), .val (.ref pa), .val (.int (0 : Int32)), .unset, .unset, .unset, .unset, .unset, .unset, .unset, .unset, .unset] [(.ref oa)])
      have S_cs_221 := S_cs_219.ext E220
      have S_la_221 := S_la_219.ext E220
      have S_pa_221 := Spa.ext E220
      have H221 := CHv.ext E220 H219
      have Zz221 : n0 ≤ _ := Nat.le_trans Zz219 E220.1
      have hk := Nat.le_trans hk E220.1
      refine g_astore (i := 9) X220 hx #[.val (.int p0), .val (.int p1), .val (.int p2), .val (.int p3), .val (.int p4), .val (.ref la), .val (.int (0 : Int32)), .val (.ref pa), .val (.int (0 : Int32)), .val (.ref oa), .unset, .unset, .unset, .unset, .unset, .unset, .unset, .unset] (hb hby at_78) rfl rfl rfl ?_
      refine g_iload (i := 4) X220 hx (hb hby at_80) (by rfl) rfl ?_
      refine g_iconst (v := (2 : Int32)) X220 hx (hb hby at_82) (by decide) rfl ?_
      refine g_iand X220 hx (hb hby at_83) rfl ?_
      refine g_if_eq X220 hx (hb hby at_84) (by decide) (pt := 91) (by decide) rfl (fun qn => ?_) (fun qn => ?_)
      · refine g_iconst (v := (0 : Int32)) X220 hx (hb hby at_91) (by decide) rfl ?_
        refine g_istore (i := 10) X220 hx #[.val (.int p0), .val (.int p1), .val (.int p2), .val (.int p3), .val (.int p4), .val (.ref la), .val (.int (0 : Int32)), .val (.ref pa), .val (.int (0 : Int32)), .val (.ref oa), .val (.int (0 : Int32)), .unset, .unset, .unset, .unset, .unset, .unset, .unset] (hb hby at_92) rfl rfl ?_
        have J130 : ∀ (cp ac : Int32), (¬ cp = 0 ∧ ac = ((p2 &&& (255 : Int32)).toUInt32.toUInt16.toUInt32.toInt32)) ∨ (cp = 0 ∧ ac = ((p3 &&& (255 : Int32)).toUInt32.toUInt16.toUInt32.toInt32)) → Goes p e below (KW s 72 3456 (fun v h L => v = some (.int 1) ∧ Fr n0 L)) T220 (mkF m 130 #[.val (.int p0), .val (.int p1), .val (.int p2), .val (.int p3), .val (.int p4), .val (.ref la), .val (.int (0 : Int32)), .val (.ref pa), .val (.int (0 : Int32)), .val (.ref oa), .val (.int (0 : Int32)), .val (.int cp), .val (.int ac), .unset, .unset, .unset, .unset, .unset] []) := by
          intro cp ac hca
          refine g_iload (i := 10) X220 hx (hb hby at_130) (by rfl) rfl ?_
          refine g_if_eq X220 hx (hb hby at_132) (by decide) (pt := 139) (by decide) rfl (fun _ => ?_) (fun q_ => absurd (by decide) q_)
          refine g_iload (i := 12) X220 hx (hb hby at_139) (by rfl) rfl ?_
          have hac : ac.toInt ≤ 255 := by rcases hca with ⟨-, r⟩ | ⟨-, r⟩ <;> rw [r, own_ch] <;> omega
          have lto := Soa.1.lt
          refine g_callS X220 hx hZ hown (wd hw 0 rfl) (wd hw 1 rfl) (wd hw 2 rfl) (wd hw 3 rfl) (by decide) rfl (rm_val l Z a0 hw ac T220.heap n0 Zz221 cs S_cs_221 hcs hac) (by rw [hml]; rfl) [(.int ac)] [] rfl (lenOf pd_216 rfl) rfl (by show 0 + (1 + 11) + 27 ≤ _; decide) (by decide) (by decide) (by decide) (hb hby at_141) rfl ?_
          intro T222 v222 L222 X222 hQ222
          obtain ⟨da, dab, rfl, N222, E222, gda, -, Sda⟩ := hQ222
          have N222 := Fr.app N220 N222
          show Goes p e below _ T222 (mkF m 144 #[.val (.int p0), .val (.int p1), .val (.int p2), .val (.int p3), .val (.int p4), .val (.ref la), .val (.int (0 : Int32)), .val (.ref pa), .val (.int (0 : Int32)), .val (.ref oa), .val (.int (0 : Int32)), .val (.int cp), .val (.int ac), .unset, .unset, .unset, .unset, .unset] [(.ref da)])
          have S_cs_223 := S_cs_221.ext E222
          have S_la_223 := S_la_221.ext E222
          have S_pa_223 := S_pa_221.ext E222
          have S_oa_223 := Soa.ext E222
          have H223 := CHv.ext E222 H221
          have Zz223 : n0 ≤ _ := Nat.le_trans Zz221 E222.1
          have hk := Nat.le_trans hk E222.1
          refine g_astore (i := 13) X222 hx #[.val (.int p0), .val (.int p1), .val (.int p2), .val (.int p3), .val (.int p4), .val (.ref la), .val (.int (0 : Int32)), .val (.ref pa), .val (.int (0 : Int32)), .val (.ref oa), .val (.int (0 : Int32)), .val (.int cp), .val (.int ac), .val (.ref da), .unset, .unset, .unset, .unset] (hb hby at_144) rfl rfl rfl ?_
          refine g_new X222 hx hZ hown (wd hw 26 rfl) (wd hw 27 rfl) (wd hw 28 rfl) rfl (hb hby at_146) rfl (by decide) (by decide) ?_
          intro T224 h224 a224 X224 e224 g224 Ex224 E224 D224
          have F224_label : Fld Z h224 a224 "com/example/wireup/wireup/Item" "label" "Ljava/lang/String;" .null := D224 (Or.inr (wd hw 34 rfl)) (ty := (.object "java/lang/String")) (by decide)
          have F224_part : Fld Z h224 a224 "com/example/wireup/wireup/Item" "part" "Ljava/lang/String;" .null := D224 (Or.inr (wd hw 36 rfl)) (ty := (.object "java/lang/String")) (by decide)
          have F224_origin : Fld Z h224 a224 "com/example/wireup/wireup/Item" "origin" "Ljava/lang/String;" .null := D224 (Or.inr (wd hw 38 rfl)) (ty := (.object "java/lang/String")) (by decide)
          have gi224 : n0 ≤ a224 := by rw [g224]; exact Zz223
          refine g_dup X224 hx (hb hby at_149) rfl rfl ?_
          refine g_aload (i := 5) X224 hx (hb hby at_150) (by rfl) rfl rfl ?_
          refine g_aload (i := 7) X224 hx (hb hby at_152) (by rfl) rfl rfl ?_
          refine g_aload (i := 9) X224 hx (hb hby at_154) (by rfl) rfl rfl ?_
          refine g_callI X224 hx hZ rfl hown (wd hw 29 rfl) (wd hw 30 rfl) (wd hw 28 rfl) (wd hw 31 rfl) (by decide) e224 (rm_it_rr l Z a0 hw a224 la pa oa h224 n0 gi224 E224 F224_label F224_part F224_origin) (by rw [hml]; rfl) a224 [(.ref la), (.ref pa), (.ref oa)] [(.ref a224)] rfl (lenOf pd_125 rfl) rfl (by show 1 + (4 + 11) + 12 ≤ _; decide) (by decide) (by decide) (by decide) (hb hby at_156) rfl ?_
          intro T225 v225 L225 X225 hQ225
          obtain ⟨rfl, N225, K225, Ei225, G1_225, G2_225, G3_225⟩ := hQ225
          have N225 := Fr.app N222 N225
          show Goes p e below _ T225 (mkF m 159 #[.val (.int p0), .val (.int p1), .val (.int p2), .val (.int p3), .val (.int p4), .val (.ref la), .val (.int (0 : Int32)), .val (.ref pa), .val (.int (0 : Int32)), .val (.ref oa), .val (.int (0 : Int32)), .val (.int cp), .val (.int ac), .val (.ref da), .unset, .unset, .unset, .unset] [(.ref a224)])
          have EI225 := own_ext3 Ex224 K225 (fun x hx => by rw [List.mem_singleton.mp hx, g224]; exact Nat.le_refl _)
          have S_cs_226 := S_cs_223.ext EI225
          have S_la_226 := S_la_223.ext EI225
          have S_pa_226 := S_pa_223.ext EI225
          have S_oa_226 := S_oa_223.ext EI225
          have S_da_226 := Sda.ext EI225
          have H226 := CHv.ext EI225 H223
          have Zz226 : n0 ≤ _ := Nat.le_trans Zz223 EI225.1
          have hk := Nat.le_trans hk EI225.1
          refine g_astore (i := 14) X225 hx #[.val (.int p0), .val (.int p1), .val (.int p2), .val (.int p3), .val (.int p4), .val (.ref la), .val (.int (0 : Int32)), .val (.ref pa), .val (.int (0 : Int32)), .val (.ref oa), .val (.int (0 : Int32)), .val (.int cp), .val (.int ac), .val (.ref da), .val (.ref a224), .unset, .unset, .unset] (hb hby at_159) rfl rfl rfl ?_
          refine g_aload (i := 14) X225 hx (hb hby at_161) (by rfl) rfl rfl ?_
          refine g_aload (i := 13) X225 hx (hb hby at_163) (by rfl) rfl rfl ?_
          refine g_callV X225 hx hZ hown (wd hw 39 rfl) (wd hw 40 rfl) (wd hw 42 rfl) (wd hw 41 rfl) (wd hw 28 rfl) (wd hw 43 rfl) (by decide) rfl a224 Ei225 (rm_at_rr l Z a0 hw a224 la pa oa oab da dab [ac.toInt8.toInt32] [((p2 &&& (255 : Int32)).toUInt32.toUInt16.toUInt32.toInt32).toInt8.toInt32] T225.heap n0 Zz226 cs S_cs_226 hcs Ei225 G1_225 G2_225 G3_225 S_da_226 S_oa_226 (fun q => absurd lto (by rw [← q]; exact Nat.not_lt.mpr gda)) (by simp) (by simp)) (by rw [hml]; rfl) [(.ref da)] [] rfl (lenOf pd_227 rfl) rfl (by show 0 + (2 + 11) + 28 ≤ _; decide) (by decide) (by decide) (by decide) (hb hby at_165) rfl ?_
          intro T227 v227 L227 X227 hQ227
          obtain ⟨r, rfl, N227, E227, hor⟩ := hQ227
          have N227 := Fr.app N225 N227
          show Goes p e below _ T227 (mkF m 168 #[.val (.int p0), .val (.int p1), .val (.int p2), .val (.int p3), .val (.int p4), .val (.ref la), .val (.int (0 : Int32)), .val (.ref pa), .val (.int (0 : Int32)), .val (.ref oa), .val (.int (0 : Int32)), .val (.int cp), .val (.int ac), .val (.ref da), .val (.ref a224), .unset, .unset, .unset] [(.ref r)])
          have S_cs_228 := S_cs_226.ext E227
          have S_la_228 := S_la_226.ext E227
          have S_pa_228 := S_pa_226.ext E227
          have S_oa_228 := S_oa_226.ext E227
          have S_da_228 := S_da_226.ext E227
          have IE_228 := Ei225.ext E227
          have Ilabel_228 := G1_225.ext E227
          have Ipart_228 := G2_225.ext E227
          have Iorigin_228 := G3_225.ext E227
          have H228 := CHv.ext E227 H226
          have Zz228 : n0 ≤ _ := Nat.le_trans Zz226 E227.1
          have hk := Nat.le_trans hk E227.1
          refine g_astore (i := 15) X227 hx #[.val (.int p0), .val (.int p1), .val (.int p2), .val (.int p3), .val (.int p4), .val (.ref la), .val (.int (0 : Int32)), .val (.ref pa), .val (.int (0 : Int32)), .val (.ref oa), .val (.int (0 : Int32)), .val (.int cp), .val (.int ac), .val (.ref da), .val (.ref a224), .val (.ref r), .unset, .unset] (hb hby at_168) rfl rfl rfl ?_
          refine g_iload (i := 10) X227 hx (hb hby at_170) (by rfl) rfl ?_
          refine g_if_eq X227 hx (hb hby at_172) (by decide) (pt := 188) (by decide) rfl (fun _ => ?_) (fun q_ => absurd (by decide) q_)
          refine g_iload (i := 8) X227 hx (hb hby at_188) (by rfl) rfl ?_
          refine g_if_ne X227 hx (hb hby at_190) (by decide) (pt := 215) (by decide) rfl (fun q_ => absurd (by decide) q_) (fun _ => ?_)
          refine g_iload (i := 11) X227 hx (hb hby at_193) (by rfl) rfl ?_
          refine g_if_ne X227 hx (hb hby at_195) (by decide) (pt := 211) (by decide) rfl (fun qc => ?_) (fun qc => ?_)
          · have hbe : [ac.toInt8.toInt32] = [((p2 &&& (255 : Int32)).toUInt32.toUInt16.toUInt32.toInt32).toInt8.toInt32] := by rw [(hca.resolve_right (fun r => qc r.1)).2]
            obtain ⟨hreq, -⟩ := hor.resolve_right (fun r => r.2.1 (hbe))
            refine g_iconst (v := (1 : Int32)) X227 hx (hb hby at_211) (by decide) rfl ?_
            refine g_goto X227 hx (hb hby at_212) (by decide) (by decide) (pc' := 216) ?_
            refine g_istore (i := 16) X227 hx #[.val (.int p0), .val (.int p1), .val (.int p2), .val (.int p3), .val (.int p4), .val (.ref la), .val (.int (0 : Int32)), .val (.ref pa), .val (.int (0 : Int32)), .val (.ref oa), .val (.int (0 : Int32)), .val (.int cp), .val (.int ac), .val (.ref da), .val (.ref a224), .val (.ref r), .val (.int (1 : Int32)), .unset] (hb hby at_216) rfl rfl ?_
            refine g_iload (i := 16) X227 hx (hb hby at_218) (by rfl) rfl ?_
            refine g_if_eq X227 hx (hb hby at_220) (by decide) (pt := 236) (by decide) rfl (fun q_ => absurd q_ (by decide)) (fun _ => ?_)
            refine g_aload (i := 15) X227 hx (hb hby at_223) (by rfl) rfl rfl ?_
            refine g_aload (i := 14) X227 hx (hb hby at_225) (by rfl) rfl rfl ?_
            refine g_acmp_ne X227 hx (hb hby at_227) rfl rfl (by decide) (pt := 234) (by decide) rfl (fun q_ => absurd (congrArg Value.ref hreq) q_) (fun _ => ?_)
            refine g_iconst (v := (1 : Int32)) X227 hx (hb hby at_230) (by decide) rfl ?_
            refine g_goto X227 hx (hb hby at_231) (by decide) (by decide) (pc' := 235) ?_
            exact g_retNW X227 hx (t := .boolean) (by simp) hlk hret rfl hS hk (by decide) (by decide) (hb hby at_235) ⟨rfl, N227⟩
          · refine g_iload_n (i := 2) X227 hx (hb hby at_198) (by rfl) rfl ?_
            refine g_sipush (v := (255 : Int32)) X227 hx (hb hby at_199) (by decide) rfl ?_
            refine g_iand X227 hx (hb hby at_202) rfl ?_
            refine g_iload_n (i := 3) X227 hx (hb hby at_203) (by rfl) rfl ?_
            refine g_sipush (v := (255 : Int32)) X227 hx (hb hby at_204) (by decide) rfl ?_
            refine g_iand X227 hx (hb hby at_207) rfl ?_
            have hac3 := (hca.resolve_left (fun r => r.1 qc)).2
            refine g_icmp_ne X227 hx (hb hby at_208) (by decide) (pt := 215) (by decide) rfl (fun qe => ?_) (fun qe => ?_)
            · obtain ⟨hra, -, RE, Rl, Rp, Ro⟩ := hor.resolve_left (fun r => qe (own_inj _ _ (by have := r.2; rw [hac3] at this; exact (List.cons.inj this).1.symm)))
              refine g_iconst (v := (0 : Int32)) X227 hx (hb hby at_215) (by decide) rfl ?_
              refine g_istore (i := 16) X227 hx #[.val (.int p0), .val (.int p1), .val (.int p2), .val (.int p3), .val (.int p4), .val (.ref la), .val (.int (0 : Int32)), .val (.ref pa), .val (.int (0 : Int32)), .val (.ref oa), .val (.int (0 : Int32)), .val (.int cp), .val (.int ac), .val (.ref da), .val (.ref a224), .val (.ref r), .val (.int (0 : Int32)), .unset] (hb hby at_216) rfl rfl ?_
              refine g_iload (i := 16) X227 hx (hb hby at_218) (by rfl) rfl ?_
              refine g_if_eq X227 hx (hb hby at_220) (by decide) (pt := 236) (by decide) rfl (fun _ => ?_) (fun q_ => absurd (by decide) q_)
              refine g_aload (i := 15) X227 hx (hb hby at_236) (by rfl) rfl rfl ?_
              refine g_aload (i := 14) X227 hx (hb hby at_238) (by rfl) rfl rfl ?_
              refine g_acmp_eq X227 hx (hb hby at_240) rfl rfl (by decide) (pt := 248) (by decide) rfl (fun q_ => absurd q_ (fun q => hra (Value.ref.inj q))) (fun _ => ?_)
              refine g_aload (i := 15) X227 hx (hb hby at_243) (by rfl) rfl rfl ?_
              refine g_ifnonnull_t X227 hx (hb hby at_245) (by decide) (pt := 250) (by decide) ?_
              refine g_aload (i := 15) X227 hx (hb hby at_250) (by rfl) rfl rfl ?_
              refine g_callV X227 hx hZ hown (wd hw 54 rfl) (wd hw 55 rfl) (wd hw 57 rfl) (wd hw 56 rfl) (wd hw 28 rfl) (wd hw 58 rfl) (by decide) rfl r RE (rm_gp_r l Z a0 hw r pa T227.heap Rp) (by rw [hml]; rfl) [] [] rfl (lenOf pd_172 rfl) rfl (by show 0 + (1 + 11) + 0 ≤ _; decide) (by decide) (by decide) (by decide) (hb hby at_252) rfl ?_
              intro T229 v229 L229 X229 hQ229
              obtain ⟨rfl, rfl, e229⟩ := hQ229
              have N229 := Fr.app N227 (Fr.nil n0)
              show Goes p e below _ T229 (mkF m 255 #[.val (.int p0), .val (.int p1), .val (.int p2), .val (.int p3), .val (.int p4), .val (.ref la), .val (.int (0 : Int32)), .val (.ref pa), .val (.int (0 : Int32)), .val (.ref oa), .val (.int (0 : Int32)), .val (.int cp), .val (.int ac), .val (.ref da), .val (.ref a224), .val (.ref r), .val (.int (0 : Int32)), .unset] [(.ref pa)])
              refine g_aload (i := 7) X229 hx (hb hby at_255) (by rfl) rfl rfl ?_
              refine g_acmp_eq X229 hx (hb hby at_257) rfl rfl (by decide) (pt := 262) (by decide) rfl (fun _ => ?_) (fun q_ => absurd (rfl) q_)
              refine g_new X229 hx hZ hown (wd hw 26 rfl) (wd hw 27 rfl) (wd hw 28 rfl) e229 (hb hby at_262) rfl (by decide) (by decide) ?_
              intro T230 h230 a230 X230 e230 g230 Ex230 E230 D230
              have F230_label : Fld Z h230 a230 "com/example/wireup/wireup/Item" "label" "Ljava/lang/String;" .null := D230 (Or.inr (wd hw 34 rfl)) (ty := (.object "java/lang/String")) (by decide)
              have F230_part : Fld Z h230 a230 "com/example/wireup/wireup/Item" "part" "Ljava/lang/String;" .null := D230 (Or.inr (wd hw 36 rfl)) (ty := (.object "java/lang/String")) (by decide)
              have F230_origin : Fld Z h230 a230 "com/example/wireup/wireup/Item" "origin" "Ljava/lang/String;" .null := D230 (Or.inr (wd hw 38 rfl)) (ty := (.object "java/lang/String")) (by decide)
              have gi230 : n0 ≤ a230 := by rw [g230]; exact Zz228
              refine g_dup X230 hx (hb hby at_265) rfl rfl ?_
              refine g_aload (i := 5) X230 hx (hb hby at_266) (by rfl) rfl rfl ?_
              refine g_aload (i := 7) X230 hx (hb hby at_268) (by rfl) rfl rfl ?_
              refine g_aload (i := 13) X230 hx (hb hby at_270) (by rfl) rfl rfl ?_
              refine g_callI X230 hx hZ rfl hown (wd hw 29 rfl) (wd hw 30 rfl) (wd hw 28 rfl) (wd hw 31 rfl) (by decide) e230 (rm_it_rr l Z a0 hw a230 la pa da h230 n0 gi230 E230 F230_label F230_part F230_origin) (by rw [hml]; rfl) a230 [(.ref la), (.ref pa), (.ref da)] [(.ref a230)] rfl (lenOf pd_125 rfl) rfl (by show 1 + (4 + 11) + 12 ≤ _; decide) (by decide) (by decide) (by decide) (hb hby at_272) rfl ?_
              intro T231 v231 L231 X231 hQ231
              obtain ⟨rfl, N231, K231, Ei231, G1_231, G2_231, G3_231⟩ := hQ231
              have N231 := Fr.app N229 N231
              show Goes p e below _ T231 (mkF m 275 #[.val (.int p0), .val (.int p1), .val (.int p2), .val (.int p3), .val (.int p4), .val (.ref la), .val (.int (0 : Int32)), .val (.ref pa), .val (.int (0 : Int32)), .val (.ref oa), .val (.int (0 : Int32)), .val (.int cp), .val (.int ac), .val (.ref da), .val (.ref a224), .val (.ref r), .val (.int (0 : Int32)), .unset] [(.ref a230)])
              have EI231 := own_ext3 Ex230 K231 (fun x hx => by rw [List.mem_singleton.mp hx, g230]; exact Nat.le_refl _)
              have S_cs_232 := S_cs_228.ext EI231
              have S_la_232 := S_la_228.ext EI231
              have S_pa_232 := S_pa_228.ext EI231
              have S_oa_232 := S_oa_228.ext EI231
              have S_da_232 := S_da_228.ext EI231
              have IE_232 := IE_228.ext EI231
              have Ilabel_232 := Ilabel_228.ext EI231
              have Ipart_232 := Ipart_228.ext EI231
              have Iorigin_232 := Iorigin_228.ext EI231
              have RE_232 := RE.ext EI231
              have Rlabel_232 := Rl.ext EI231
              have Rpart_232 := Rp.ext EI231
              have Rorigin_232 := Ro.ext EI231
              have H232 := CHv.ext EI231 H228
              have Zz232 : n0 ≤ _ := Nat.le_trans Zz228 EI231.1
              have hk := Nat.le_trans hk EI231.1
              refine g_callVH X231 hx hZ hown (wd hw 59 rfl) (wd hw 60 rfl) (wd hw 62 rfl) (wd hw 61 rfl) (wd hw 28 rfl) (wd hw 63 rfl) (by decide) rfl hS hk (own_EW hw) H232 a230 Ei231 (rm_ds_r l Z a0 hw a230 la lab pa pab da dab [((p0 &&& (255 : Int32)).toUInt32.toUInt16.toUInt32.toInt32).toInt8.toInt32] [((p1 &&& (255 : Int32)).toUInt32.toUInt16.toUInt32.toInt32).toInt8.toInt32] [ac.toInt8.toInt32] T231.heap n0 Zz232 cs S_cs_232 hcs G1_231 G2_231 G3_231 S_la_232 S_pa_232 S_da_232 rfl rfl rfl) (by rw [hml]; rfl) [] [] rfl (lenOf pd_172 rfl) rfl (by show 0 + (1 + 11) + 92 ≤ _; decide) (by decide) (by decide) (by decide) (hb hby at_275) rfl ?_
              intro T233 v233 L233 k233 X233 hQ233 Rc233 hS hk hZ hown
              obtain ⟨ra233, rb233, rfl, N233, E233, gr233, SR233⟩ := hQ233
              have N233 := Fr.app N231 N233
              show Goes p e below _ T233 (mkF m 278 #[.val (.int p0), .val (.int p1), .val (.int p2), .val (.int p3), .val (.int p4), .val (.ref la), .val (.int (0 : Int32)), .val (.ref pa), .val (.int (0 : Int32)), .val (.ref oa), .val (.int (0 : Int32)), .val (.int cp), .val (.int ac), .val (.ref da), .val (.ref a224), .val (.ref r), .val (.int (0 : Int32)), .unset] [(.ref ra233)])
              have S_cs_234 := S_cs_232.ext E233
              have S_la_234 := S_la_232.ext E233
              have S_pa_234 := S_pa_232.ext E233
              have S_oa_234 := S_oa_232.ext E233
              have S_da_234 := S_da_232.ext E233
              have IE_234 := IE_232.ext E233
              have Ilabel_234 := Ilabel_232.ext E233
              have Ipart_234 := Ipart_232.ext E233
              have Iorigin_234 := Iorigin_232.ext E233
              have RE_234 := RE_232.ext E233
              have Rlabel_234 := Rlabel_232.ext E233
              have Rpart_234 := Rpart_232.ext E233
              have Rorigin_234 := Rorigin_232.ext E233
              have QE_234 := Ei231.ext E233
              have Qlabel_234 := G1_231.ext E233
              have Qpart_234 := G2_231.ext E233
              have Qorigin_234 := G3_231.ext E233
              have Zz234 : n0 ≤ _ := Nat.le_trans Zz232 E233.1
              have ltq := SR233.1.lt
              refine g_astore (i := 17) X233 hx #[.val (.int p0), .val (.int p1), .val (.int p2), .val (.int p3), .val (.int p4), .val (.ref la), .val (.int (0 : Int32)), .val (.ref pa), .val (.int (0 : Int32)), .val (.ref oa), .val (.int (0 : Int32)), .val (.int cp), .val (.int ac), .val (.ref da), .val (.ref a224), .val (.ref r), .val (.int (0 : Int32)), .val (.ref ra233)] (hb hby at_278) rfl rfl rfl ?_
              refine g_aload (i := 15) X233 hx (hb hby at_280) (by rfl) rfl rfl ?_
              refine g_callVH X233 hx hZ hown (wd hw 59 rfl) (wd hw 60 rfl) (wd hw 62 rfl) (wd hw 61 rfl) (wd hw 28 rfl) (wd hw 63 rfl) (by decide) rfl hS hk (own_EW hw) Rc233.1 r RE_234 (rm_ds_r l Z a0 hw r la lab pa pab da dab [((p0 &&& (255 : Int32)).toUInt32.toUInt16.toUInt32.toInt32).toInt8.toInt32] [((p1 &&& (255 : Int32)).toUInt32.toUInt16.toUInt32.toInt32).toInt8.toInt32] [ac.toInt8.toInt32] T233.heap n0 Zz234 cs S_cs_234 hcs Rlabel_234 Rpart_234 Rorigin_234 S_la_234 S_pa_234 S_da_234 rfl rfl rfl) (by rw [hml]; rfl) [] [] rfl (lenOf pd_172 rfl) rfl (by show 0 + (1 + 11) + 92 ≤ _; decide) (by decide) (by decide) (by decide) (hb hby at_282) rfl ?_
              intro T235 v235 L235 k235 X235 hQ235 Rc235 hS hk hZ hown
              obtain ⟨ra235, rb235, rfl, N235, E235, gr235, SR235⟩ := hQ235
              have N235 := Fr.app N233 N235
              show Goes p e below _ T235 (mkF m 285 #[.val (.int p0), .val (.int p1), .val (.int p2), .val (.int p3), .val (.int p4), .val (.ref la), .val (.int (0 : Int32)), .val (.ref pa), .val (.int (0 : Int32)), .val (.ref oa), .val (.int (0 : Int32)), .val (.int cp), .val (.int ac), .val (.ref da), .val (.ref a224), .val (.ref r), .val (.int (0 : Int32)), .val (.ref ra233)] [(.ref ra235)])
              have S_cs_236 := S_cs_234.ext E235
              have S_la_236 := S_la_234.ext E235
              have S_pa_236 := S_pa_234.ext E235
              have S_oa_236 := S_oa_234.ext E235
              have S_da_236 := S_da_234.ext E235
              have IE_236 := IE_234.ext E235
              have Ilabel_236 := Ilabel_234.ext E235
              have Ipart_236 := Ipart_234.ext E235
              have Iorigin_236 := Iorigin_234.ext E235
              have RE_236 := RE_234.ext E235
              have Rlabel_236 := Rlabel_234.ext E235
              have Rpart_236 := Rpart_234.ext E235
              have Rorigin_236 := Rorigin_234.ext E235
              have QE_236 := QE_234.ext E235
              have Qlabel_236 := Qlabel_234.ext E235
              have Qpart_236 := Qpart_234.ext E235
              have Qorigin_236 := Qorigin_234.ext E235
              have SR233_236 := SR233.ext E235
              have Zz236 : n0 ≤ _ := Nat.le_trans Zz234 E235.1
              refine g_aload (i := 17) X235 hx (hb hby at_285) (by rfl) rfl rfl ?_
              refine g_callV X235 hx hZ hown (wd hw 179 rfl) (wd hw 45 rfl) (wd hw 47 rfl) (wd hw 46 rfl) (wd hw 2 rfl) (wd hw 48 rfl) (by decide) rfl ra235 SR235.1 (rm_seq l Z a0 hw ra235 rb235 ra233 rb233 _ _ T235.heap cs S_cs_236 hcs SR235 SR233_236 (fun q => absurd ltq (by rw [← q]; exact Nat.not_lt.mpr gr235)) (by simp only [List.length_append, List.length_cons, List.length_nil]; omega) (by simp only [List.length_append, List.length_cons, List.length_nil]; omega)) (by rw [hml]; rfl) [(.ref ra233)] [] rfl (lenOf pd_121 rfl) rfl (by show 0 + (3 + 11) + 14 ≤ _; decide) (by decide) (by decide) (by decide) (hb hby at_287) rfl ?_
              intro T237 v237 L237 X237 hQ237
              obtain ⟨rfl, rfl, e237⟩ := hQ237
              have N237 := Fr.app N235 (Fr.nil n0)
              show Goes p e below _ T237 (mkF m 290 #[.val (.int p0), .val (.int p1), .val (.int p2), .val (.int p3), .val (.int p4), .val (.ref la), .val (.int (0 : Int32)), .val (.ref pa), .val (.int (0 : Int32)), .val (.ref oa), .val (.int (0 : Int32)), .val (.int cp), .val (.int ac), .val (.ref da), .val (.ref a224), .val (.ref r), .val (.int (0 : Int32)), .val (.ref ra233)] [(.int _)])
              exact g_retNW X237 hx (t := .boolean) (by simp) hlk hret e237 hS hk (by decide) (by decide) (hb hby at_290) ⟨by rw [if_pos rfl]; rfl, N237⟩
            · have hbe : [ac.toInt8.toInt32] = [((p2 &&& (255 : Int32)).toUInt32.toUInt16.toUInt32.toInt32).toInt8.toInt32] := by rw [hac3, qe]
              obtain ⟨hreq, -⟩ := hor.resolve_right (fun r => r.2.1 (hbe))
              refine g_iconst (v := (1 : Int32)) X227 hx (hb hby at_211) (by decide) rfl ?_
              refine g_goto X227 hx (hb hby at_212) (by decide) (by decide) (pc' := 216) ?_
              refine g_istore (i := 16) X227 hx #[.val (.int p0), .val (.int p1), .val (.int p2), .val (.int p3), .val (.int p4), .val (.ref la), .val (.int (0 : Int32)), .val (.ref pa), .val (.int (0 : Int32)), .val (.ref oa), .val (.int (0 : Int32)), .val (.int cp), .val (.int ac), .val (.ref da), .val (.ref a224), .val (.ref r), .val (.int (1 : Int32)), .unset] (hb hby at_216) rfl rfl ?_
              refine g_iload (i := 16) X227 hx (hb hby at_218) (by rfl) rfl ?_
              refine g_if_eq X227 hx (hb hby at_220) (by decide) (pt := 236) (by decide) rfl (fun q_ => absurd q_ (by decide)) (fun _ => ?_)
              refine g_aload (i := 15) X227 hx (hb hby at_223) (by rfl) rfl rfl ?_
              refine g_aload (i := 14) X227 hx (hb hby at_225) (by rfl) rfl rfl ?_
              refine g_acmp_ne X227 hx (hb hby at_227) rfl rfl (by decide) (pt := 234) (by decide) rfl (fun q_ => absurd (congrArg Value.ref hreq) q_) (fun _ => ?_)
              refine g_iconst (v := (1 : Int32)) X227 hx (hb hby at_230) (by decide) rfl ?_
              refine g_goto X227 hx (hb hby at_231) (by decide) (by decide) (pc' := 235) ?_
              exact g_retNW X227 hx (t := .boolean) (by simp) hlk hret rfl hS hk (by decide) (by decide) (hb hby at_235) ⟨rfl, N227⟩
        refine g_iload (i := 4) X220 hx (hb hby at_94) (by rfl) rfl ?_
        refine g_iconst (v := (4 : Int32)) X220 hx (hb hby at_96) (by decide) rfl ?_
        refine g_iand X220 hx (hb hby at_97) rfl ?_
        refine g_if_eq X220 hx (hb hby at_98) (by decide) (pt := 105) (by decide) rfl (fun qk => ?_) (fun qk => ?_)
        · refine g_iconst (v := (0 : Int32)) X220 hx (hb hby at_105) (by decide) rfl ?_
          refine g_istore (i := 11) X220 hx #[.val (.int p0), .val (.int p1), .val (.int p2), .val (.int p3), .val (.int p4), .val (.ref la), .val (.int (0 : Int32)), .val (.ref pa), .val (.int (0 : Int32)), .val (.ref oa), .val (.int (0 : Int32)), .val (.int (0 : Int32)), .unset, .unset, .unset, .unset, .unset, .unset] (hb hby at_106) rfl rfl ?_
          refine g_iload (i := 11) X220 hx (hb hby at_108) (by rfl) rfl ?_
          refine g_if_eq X220 hx (hb hby at_110) (by decide) (pt := 122) (by decide) rfl (fun _ => ?_) (fun q_ => absurd (by decide) q_)
          refine g_iload_n (i := 3) X220 hx (hb hby at_122) (by rfl) rfl ?_
          refine g_sipush (v := (255 : Int32)) X220 hx (hb hby at_123) (by decide) rfl ?_
          refine g_iand X220 hx (hb hby at_126) rfl ?_
          refine g_i2c X220 hx (hb hby at_127) rfl ?_
          refine g_istore (i := 12) X220 hx #[.val (.int p0), .val (.int p1), .val (.int p2), .val (.int p3), .val (.int p4), .val (.ref la), .val (.int (0 : Int32)), .val (.ref pa), .val (.int (0 : Int32)), .val (.ref oa), .val (.int (0 : Int32)), .val (.int (0 : Int32)), .val (.int (p3 &&& (255 : Int32)).toUInt32.toUInt16.toUInt32.toInt32), .unset, .unset, .unset, .unset, .unset] (hb hby at_128) rfl rfl ?_
          exact J130 _ _ (Or.inr ⟨rfl, rfl⟩)
        · refine g_iconst (v := (1 : Int32)) X220 hx (hb hby at_101) (by decide) rfl ?_
          refine g_goto X220 hx (hb hby at_102) (by decide) (by decide) (pc' := 106) ?_
          refine g_istore (i := 11) X220 hx #[.val (.int p0), .val (.int p1), .val (.int p2), .val (.int p3), .val (.int p4), .val (.ref la), .val (.int (0 : Int32)), .val (.ref pa), .val (.int (0 : Int32)), .val (.ref oa), .val (.int (0 : Int32)), .val (.int (1 : Int32)), .unset, .unset, .unset, .unset, .unset, .unset] (hb hby at_106) rfl rfl ?_
          refine g_iload (i := 11) X220 hx (hb hby at_108) (by rfl) rfl ?_
          refine g_if_eq X220 hx (hb hby at_110) (by decide) (pt := 122) (by decide) rfl (fun q_ => absurd q_ (by decide)) (fun _ => ?_)
          refine g_iload_n (i := 2) X220 hx (hb hby at_113) (by rfl) rfl ?_
          refine g_sipush (v := (255 : Int32)) X220 hx (hb hby at_114) (by decide) rfl ?_
          refine g_iand X220 hx (hb hby at_117) rfl ?_
          refine g_i2c X220 hx (hb hby at_118) rfl ?_
          refine g_goto X220 hx (hb hby at_119) (by decide) (by decide) (pc' := 128) ?_
          refine g_istore (i := 12) X220 hx #[.val (.int p0), .val (.int p1), .val (.int p2), .val (.int p3), .val (.int p4), .val (.ref la), .val (.int (0 : Int32)), .val (.ref pa), .val (.int (0 : Int32)), .val (.ref oa), .val (.int (0 : Int32)), .val (.int (1 : Int32)), .val (.int (p2 &&& (255 : Int32)).toUInt32.toUInt16.toUInt32.toInt32), .unset, .unset, .unset, .unset, .unset] (hb hby at_128) rfl rfl ?_
          exact J130 _ _ (Or.inl ⟨by decide, rfl⟩)
      · refine g_iconst (v := (1 : Int32)) X220 hx (hb hby at_87) (by decide) rfl ?_
        refine g_goto X220 hx (hb hby at_88) (by decide) (by decide) (pc' := 92) ?_
        refine g_istore (i := 10) X220 hx #[.val (.int p0), .val (.int p1), .val (.int p2), .val (.int p3), .val (.int p4), .val (.ref la), .val (.int (0 : Int32)), .val (.ref pa), .val (.int (0 : Int32)), .val (.ref oa), .val (.int (1 : Int32)), .unset, .unset, .unset, .unset, .unset, .unset, .unset] (hb hby at_92) rfl rfl ?_
        have J130 : ∀ (cp ac : Int32), (¬ cp = 0 ∧ ac = ((p2 &&& (255 : Int32)).toUInt32.toUInt16.toUInt32.toInt32)) ∨ (cp = 0 ∧ ac = ((p3 &&& (255 : Int32)).toUInt32.toUInt16.toUInt32.toInt32)) → Goes p e below (KW s 72 3456 (fun v h L => v = some (.int 1) ∧ Fr n0 L)) T220 (mkF m 130 #[.val (.int p0), .val (.int p1), .val (.int p2), .val (.int p3), .val (.int p4), .val (.ref la), .val (.int (0 : Int32)), .val (.ref pa), .val (.int (0 : Int32)), .val (.ref oa), .val (.int (1 : Int32)), .val (.int cp), .val (.int ac), .unset, .unset, .unset, .unset, .unset] []) := by
          intro cp ac hca
          refine g_iload (i := 10) X220 hx (hb hby at_130) (by rfl) rfl ?_
          refine g_if_eq X220 hx (hb hby at_132) (by decide) (pt := 139) (by decide) rfl (fun q_ => absurd q_ (by decide)) (fun _ => ?_)
          refine g_aconst_null X220 hx (hb hby at_135) rfl ?_
          refine g_goto X220 hx (hb hby at_136) (by decide) (by decide) (pc' := 144) ?_
          refine g_astore (i := 13) X220 hx #[.val (.int p0), .val (.int p1), .val (.int p2), .val (.int p3), .val (.int p4), .val (.ref la), .val (.int (0 : Int32)), .val (.ref pa), .val (.int (0 : Int32)), .val (.ref oa), .val (.int (1 : Int32)), .val (.int cp), .val (.int ac), .val .null, .unset, .unset, .unset, .unset] (hb hby at_144) rfl rfl rfl ?_
          refine g_new X220 hx hZ hown (wd hw 26 rfl) (wd hw 27 rfl) (wd hw 28 rfl) rfl (hb hby at_146) rfl (by decide) (by decide) ?_
          intro T238 h238 a238 X238 e238 g238 Ex238 E238 D238
          have F238_label : Fld Z h238 a238 "com/example/wireup/wireup/Item" "label" "Ljava/lang/String;" .null := D238 (Or.inr (wd hw 34 rfl)) (ty := (.object "java/lang/String")) (by decide)
          have F238_part : Fld Z h238 a238 "com/example/wireup/wireup/Item" "part" "Ljava/lang/String;" .null := D238 (Or.inr (wd hw 36 rfl)) (ty := (.object "java/lang/String")) (by decide)
          have F238_origin : Fld Z h238 a238 "com/example/wireup/wireup/Item" "origin" "Ljava/lang/String;" .null := D238 (Or.inr (wd hw 38 rfl)) (ty := (.object "java/lang/String")) (by decide)
          have gi238 : n0 ≤ a238 := by rw [g238]; exact Zz221
          refine g_dup X238 hx (hb hby at_149) rfl rfl ?_
          refine g_aload (i := 5) X238 hx (hb hby at_150) (by rfl) rfl rfl ?_
          refine g_aload (i := 7) X238 hx (hb hby at_152) (by rfl) rfl rfl ?_
          refine g_aload (i := 9) X238 hx (hb hby at_154) (by rfl) rfl rfl ?_
          refine g_callI X238 hx hZ rfl hown (wd hw 29 rfl) (wd hw 30 rfl) (wd hw 28 rfl) (wd hw 31 rfl) (by decide) e238 (rm_it_rr l Z a0 hw a238 la pa oa h238 n0 gi238 E238 F238_label F238_part F238_origin) (by rw [hml]; rfl) a238 [(.ref la), (.ref pa), (.ref oa)] [(.ref a238)] rfl (lenOf pd_125 rfl) rfl (by show 1 + (4 + 11) + 12 ≤ _; decide) (by decide) (by decide) (by decide) (hb hby at_156) rfl ?_
          intro T239 v239 L239 X239 hQ239
          obtain ⟨rfl, N239, K239, Ei239, G1_239, G2_239, G3_239⟩ := hQ239
          have N239 := Fr.app N220 N239
          show Goes p e below _ T239 (mkF m 159 #[.val (.int p0), .val (.int p1), .val (.int p2), .val (.int p3), .val (.int p4), .val (.ref la), .val (.int (0 : Int32)), .val (.ref pa), .val (.int (0 : Int32)), .val (.ref oa), .val (.int (1 : Int32)), .val (.int cp), .val (.int ac), .val .null, .unset, .unset, .unset, .unset] [(.ref a238)])
          have EI239 := own_ext3 Ex238 K239 (fun x hx => by rw [List.mem_singleton.mp hx, g238]; exact Nat.le_refl _)
          have S_cs_240 := S_cs_221.ext EI239
          have S_la_240 := S_la_221.ext EI239
          have S_pa_240 := S_pa_221.ext EI239
          have S_oa_240 := Soa.ext EI239
          have H240 := CHv.ext EI239 H221
          have Zz240 : n0 ≤ _ := Nat.le_trans Zz221 EI239.1
          have hk := Nat.le_trans hk EI239.1
          refine g_astore (i := 14) X239 hx #[.val (.int p0), .val (.int p1), .val (.int p2), .val (.int p3), .val (.int p4), .val (.ref la), .val (.int (0 : Int32)), .val (.ref pa), .val (.int (0 : Int32)), .val (.ref oa), .val (.int (1 : Int32)), .val (.int cp), .val (.int ac), .val .null, .val (.ref a238), .unset, .unset, .unset] (hb hby at_159) rfl rfl rfl ?_
          refine g_aload (i := 14) X239 hx (hb hby at_161) (by rfl) rfl rfl ?_
          refine g_aload (i := 13) X239 hx (hb hby at_163) (by rfl) rfl rfl ?_
          refine g_callV X239 hx hZ hown (wd hw 39 rfl) (wd hw 40 rfl) (wd hw 42 rfl) (wd hw 41 rfl) (wd hw 28 rfl) (wd hw 43 rfl) (by decide) rfl a238 Ei239 (rm_at0 l Z a0 hw a238 T239.heap) (by rw [hml]; rfl) [.null] [] rfl (lenOf pd_227 rfl) rfl (by show 0 + (2 + 11) + 0 ≤ _; decide) (by decide) (by decide) (by decide) (hb hby at_165) rfl ?_
          intro T241 v241 L241 X241 hQ241
          obtain ⟨rfl, rfl, e241⟩ := hQ241
          have N241 := Fr.app N239 (Fr.nil n0)
          show Goes p e below _ T241 (mkF m 168 #[.val (.int p0), .val (.int p1), .val (.int p2), .val (.int p3), .val (.int p4), .val (.ref la), .val (.int (0 : Int32)), .val (.ref pa), .val (.int (0 : Int32)), .val (.ref oa), .val (.int (1 : Int32)), .val (.int cp), .val (.int ac), .val .null, .val (.ref a238), .unset, .unset, .unset] [(.ref a238)])
          refine g_astore (i := 15) X241 hx #[.val (.int p0), .val (.int p1), .val (.int p2), .val (.int p3), .val (.int p4), .val (.ref la), .val (.int (0 : Int32)), .val (.ref pa), .val (.int (0 : Int32)), .val (.ref oa), .val (.int (1 : Int32)), .val (.int cp), .val (.int ac), .val .null, .val (.ref a238), .val (.ref a238), .unset, .unset] (hb hby at_168) rfl rfl rfl ?_
          refine g_iload (i := 10) X241 hx (hb hby at_170) (by rfl) rfl ?_
          refine g_if_eq X241 hx (hb hby at_172) (by decide) (pt := 188) (by decide) rfl (fun q_ => absurd q_ (by decide)) (fun _ => ?_)
          refine g_aload (i := 15) X241 hx (hb hby at_175) (by rfl) rfl rfl ?_
          refine g_aload (i := 14) X241 hx (hb hby at_177) (by rfl) rfl rfl ?_
          refine g_acmp_ne X241 hx (hb hby at_179) rfl rfl (by decide) (pt := 186) (by decide) rfl (fun q_ => absurd (rfl) q_) (fun _ => ?_)
          refine g_iconst (v := (1 : Int32)) X241 hx (hb hby at_182) (by decide) rfl ?_
          refine g_goto X241 hx (hb hby at_183) (by decide) (by decide) (pc' := 187) ?_
          exact g_retNW X241 hx (t := .boolean) (by simp) hlk hret e241 hS hk (by decide) (by decide) (hb hby at_187) ⟨rfl, N241⟩
        refine g_iload (i := 4) X220 hx (hb hby at_94) (by rfl) rfl ?_
        refine g_iconst (v := (4 : Int32)) X220 hx (hb hby at_96) (by decide) rfl ?_
        refine g_iand X220 hx (hb hby at_97) rfl ?_
        refine g_if_eq X220 hx (hb hby at_98) (by decide) (pt := 105) (by decide) rfl (fun qk => ?_) (fun qk => ?_)
        · refine g_iconst (v := (0 : Int32)) X220 hx (hb hby at_105) (by decide) rfl ?_
          refine g_istore (i := 11) X220 hx #[.val (.int p0), .val (.int p1), .val (.int p2), .val (.int p3), .val (.int p4), .val (.ref la), .val (.int (0 : Int32)), .val (.ref pa), .val (.int (0 : Int32)), .val (.ref oa), .val (.int (1 : Int32)), .val (.int (0 : Int32)), .unset, .unset, .unset, .unset, .unset, .unset] (hb hby at_106) rfl rfl ?_
          refine g_iload (i := 11) X220 hx (hb hby at_108) (by rfl) rfl ?_
          refine g_if_eq X220 hx (hb hby at_110) (by decide) (pt := 122) (by decide) rfl (fun _ => ?_) (fun q_ => absurd (by decide) q_)
          refine g_iload_n (i := 3) X220 hx (hb hby at_122) (by rfl) rfl ?_
          refine g_sipush (v := (255 : Int32)) X220 hx (hb hby at_123) (by decide) rfl ?_
          refine g_iand X220 hx (hb hby at_126) rfl ?_
          refine g_i2c X220 hx (hb hby at_127) rfl ?_
          refine g_istore (i := 12) X220 hx #[.val (.int p0), .val (.int p1), .val (.int p2), .val (.int p3), .val (.int p4), .val (.ref la), .val (.int (0 : Int32)), .val (.ref pa), .val (.int (0 : Int32)), .val (.ref oa), .val (.int (1 : Int32)), .val (.int (0 : Int32)), .val (.int (p3 &&& (255 : Int32)).toUInt32.toUInt16.toUInt32.toInt32), .unset, .unset, .unset, .unset, .unset] (hb hby at_128) rfl rfl ?_
          exact J130 _ _ (Or.inr ⟨rfl, rfl⟩)
        · refine g_iconst (v := (1 : Int32)) X220 hx (hb hby at_101) (by decide) rfl ?_
          refine g_goto X220 hx (hb hby at_102) (by decide) (by decide) (pc' := 106) ?_
          refine g_istore (i := 11) X220 hx #[.val (.int p0), .val (.int p1), .val (.int p2), .val (.int p3), .val (.int p4), .val (.ref la), .val (.int (0 : Int32)), .val (.ref pa), .val (.int (0 : Int32)), .val (.ref oa), .val (.int (1 : Int32)), .val (.int (1 : Int32)), .unset, .unset, .unset, .unset, .unset, .unset] (hb hby at_106) rfl rfl ?_
          refine g_iload (i := 11) X220 hx (hb hby at_108) (by rfl) rfl ?_
          refine g_if_eq X220 hx (hb hby at_110) (by decide) (pt := 122) (by decide) rfl (fun q_ => absurd q_ (by decide)) (fun _ => ?_)
          refine g_iload_n (i := 2) X220 hx (hb hby at_113) (by rfl) rfl ?_
          refine g_sipush (v := (255 : Int32)) X220 hx (hb hby at_114) (by decide) rfl ?_
          refine g_iand X220 hx (hb hby at_117) rfl ?_
          refine g_i2c X220 hx (hb hby at_118) rfl ?_
          refine g_goto X220 hx (hb hby at_119) (by decide) (by decide) (pc' := 128) ?_
          refine g_istore (i := 12) X220 hx #[.val (.int p0), .val (.int p1), .val (.int p2), .val (.int p3), .val (.int p4), .val (.ref la), .val (.int (0 : Int32)), .val (.ref pa), .val (.int (0 : Int32)), .val (.ref oa), .val (.int (1 : Int32)), .val (.int (1 : Int32)), .val (.int (p2 &&& (255 : Int32)).toUInt32.toUInt16.toUInt32.toInt32), .unset, .unset, .unset, .unset, .unset] (hb hby at_128) rfl rfl ?_
          exact J130 _ _ (Or.inl ⟨by decide, rfl⟩)
    · refine g_iconst (v := (1 : Int32)) X218 hx (hb hby at_53) (by decide) rfl ?_
      refine g_goto X218 hx (hb hby at_54) (by decide) (by decide) (pc' := 58) ?_
      refine g_istore (i := 8) X218 hx #[.val (.int p0), .val (.int p1), .val (.int p2), .val (.int p3), .val (.int p4), .val (.ref la), .val (.int (0 : Int32)), .val (.ref pa), .val (.int (1 : Int32)), .unset, .unset, .unset, .unset, .unset, .unset, .unset, .unset, .unset] (hb hby at_58) rfl rfl ?_
      refine g_iload (i := 8) X218 hx (hb hby at_60) (by rfl) rfl ?_
      refine g_if_eq X218 hx (hb hby at_62) (by decide) (pt := 69) (by decide) rfl (fun q_ => absurd q_ (by decide)) (fun _ => ?_)
      refine g_aconst_null X218 hx (hb hby at_65) rfl ?_
      refine g_goto X218 hx (hb hby at_66) (by decide) (by decide) (pc' := 78) ?_
      refine g_astore (i := 9) X218 hx #[.val (.int p0), .val (.int p1), .val (.int p2), .val (.int p3), .val (.int p4), .val (.ref la), .val (.int (0 : Int32)), .val (.ref pa), .val (.int (1 : Int32)), .val .null, .unset, .unset, .unset, .unset, .unset, .unset, .unset, .unset] (hb hby at_78) rfl rfl rfl ?_
      refine g_iload (i := 4) X218 hx (hb hby at_80) (by rfl) rfl ?_
      refine g_iconst (v := (2 : Int32)) X218 hx (hb hby at_82) (by decide) rfl ?_
      refine g_iand X218 hx (hb hby at_83) rfl ?_
      refine g_if_eq X218 hx (hb hby at_84) (by decide) (pt := 91) (by decide) rfl (fun qn => ?_) (fun qn => ?_)
      · refine g_iconst (v := (0 : Int32)) X218 hx (hb hby at_91) (by decide) rfl ?_
        refine g_istore (i := 10) X218 hx #[.val (.int p0), .val (.int p1), .val (.int p2), .val (.int p3), .val (.int p4), .val (.ref la), .val (.int (0 : Int32)), .val (.ref pa), .val (.int (1 : Int32)), .val .null, .val (.int (0 : Int32)), .unset, .unset, .unset, .unset, .unset, .unset, .unset] (hb hby at_92) rfl rfl ?_
        have J130 : ∀ (cp ac : Int32), (¬ cp = 0 ∧ ac = ((p2 &&& (255 : Int32)).toUInt32.toUInt16.toUInt32.toInt32)) ∨ (cp = 0 ∧ ac = ((p3 &&& (255 : Int32)).toUInt32.toUInt16.toUInt32.toInt32)) → Goes p e below (KW s 72 3456 (fun v h L => v = some (.int 1) ∧ Fr n0 L)) T218 (mkF m 130 #[.val (.int p0), .val (.int p1), .val (.int p2), .val (.int p3), .val (.int p4), .val (.ref la), .val (.int (0 : Int32)), .val (.ref pa), .val (.int (1 : Int32)), .val .null, .val (.int (0 : Int32)), .val (.int cp), .val (.int ac), .unset, .unset, .unset, .unset, .unset] []) := by
          intro cp ac hca
          refine g_iload (i := 10) X218 hx (hb hby at_130) (by rfl) rfl ?_
          refine g_if_eq X218 hx (hb hby at_132) (by decide) (pt := 139) (by decide) rfl (fun _ => ?_) (fun q_ => absurd (by decide) q_)
          refine g_iload (i := 12) X218 hx (hb hby at_139) (by rfl) rfl ?_
          have hac : ac.toInt ≤ 255 := by rcases hca with ⟨-, r⟩ | ⟨-, r⟩ <;> rw [r, own_ch] <;> omega
          refine g_callS X218 hx hZ hown (wd hw 0 rfl) (wd hw 1 rfl) (wd hw 2 rfl) (wd hw 3 rfl) (by decide) rfl (rm_val l Z a0 hw ac T218.heap n0 Zz219 cs S_cs_219 hcs hac) (by rw [hml]; rfl) [(.int ac)] [] rfl (lenOf pd_216 rfl) rfl (by show 0 + (1 + 11) + 27 ≤ _; decide) (by decide) (by decide) (by decide) (hb hby at_141) rfl ?_
          intro T242 v242 L242 X242 hQ242
          obtain ⟨da, dab, rfl, N242, E242, gda, -, Sda⟩ := hQ242
          have N242 := Fr.app N218 N242
          show Goes p e below _ T242 (mkF m 144 #[.val (.int p0), .val (.int p1), .val (.int p2), .val (.int p3), .val (.int p4), .val (.ref la), .val (.int (0 : Int32)), .val (.ref pa), .val (.int (1 : Int32)), .val .null, .val (.int (0 : Int32)), .val (.int cp), .val (.int ac), .unset, .unset, .unset, .unset, .unset] [(.ref da)])
          have S_cs_243 := S_cs_219.ext E242
          have S_la_243 := S_la_219.ext E242
          have S_pa_243 := Spa.ext E242
          have H243 := CHv.ext E242 H219
          have Zz243 : n0 ≤ _ := Nat.le_trans Zz219 E242.1
          have hk := Nat.le_trans hk E242.1
          refine g_astore (i := 13) X242 hx #[.val (.int p0), .val (.int p1), .val (.int p2), .val (.int p3), .val (.int p4), .val (.ref la), .val (.int (0 : Int32)), .val (.ref pa), .val (.int (1 : Int32)), .val .null, .val (.int (0 : Int32)), .val (.int cp), .val (.int ac), .val (.ref da), .unset, .unset, .unset, .unset] (hb hby at_144) rfl rfl rfl ?_
          refine g_new X242 hx hZ hown (wd hw 26 rfl) (wd hw 27 rfl) (wd hw 28 rfl) rfl (hb hby at_146) rfl (by decide) (by decide) ?_
          intro T244 h244 a244 X244 e244 g244 Ex244 E244 D244
          have F244_label : Fld Z h244 a244 "com/example/wireup/wireup/Item" "label" "Ljava/lang/String;" .null := D244 (Or.inr (wd hw 34 rfl)) (ty := (.object "java/lang/String")) (by decide)
          have F244_part : Fld Z h244 a244 "com/example/wireup/wireup/Item" "part" "Ljava/lang/String;" .null := D244 (Or.inr (wd hw 36 rfl)) (ty := (.object "java/lang/String")) (by decide)
          have F244_origin : Fld Z h244 a244 "com/example/wireup/wireup/Item" "origin" "Ljava/lang/String;" .null := D244 (Or.inr (wd hw 38 rfl)) (ty := (.object "java/lang/String")) (by decide)
          have gi244 : n0 ≤ a244 := by rw [g244]; exact Zz243
          refine g_dup X244 hx (hb hby at_149) rfl rfl ?_
          refine g_aload (i := 5) X244 hx (hb hby at_150) (by rfl) rfl rfl ?_
          refine g_aload (i := 7) X244 hx (hb hby at_152) (by rfl) rfl rfl ?_
          refine g_aload (i := 9) X244 hx (hb hby at_154) (by rfl) rfl rfl ?_
          refine g_callI X244 hx hZ rfl hown (wd hw 29 rfl) (wd hw 30 rfl) (wd hw 28 rfl) (wd hw 31 rfl) (by decide) e244 (rm_it_rn l Z a0 hw a244 la pa 0 h244 n0 gi244 E244 F244_label F244_part F244_origin) (by rw [hml]; rfl) a244 [(.ref la), (.ref pa), .null] [(.ref a244)] rfl (lenOf pd_125 rfl) rfl (by show 1 + (4 + 11) + 12 ≤ _; decide) (by decide) (by decide) (by decide) (hb hby at_156) rfl ?_
          intro T245 v245 L245 X245 hQ245
          obtain ⟨rfl, N245, K245, Ei245, G1_245, G2_245, G3_245⟩ := hQ245
          have N245 := Fr.app N242 N245
          show Goes p e below _ T245 (mkF m 159 #[.val (.int p0), .val (.int p1), .val (.int p2), .val (.int p3), .val (.int p4), .val (.ref la), .val (.int (0 : Int32)), .val (.ref pa), .val (.int (1 : Int32)), .val .null, .val (.int (0 : Int32)), .val (.int cp), .val (.int ac), .val (.ref da), .unset, .unset, .unset, .unset] [(.ref a244)])
          have EI245 := own_ext3 Ex244 K245 (fun x hx => by rw [List.mem_singleton.mp hx, g244]; exact Nat.le_refl _)
          have S_cs_246 := S_cs_243.ext EI245
          have S_la_246 := S_la_243.ext EI245
          have S_pa_246 := S_pa_243.ext EI245
          have S_da_246 := Sda.ext EI245
          have H246 := CHv.ext EI245 H243
          have Zz246 : n0 ≤ _ := Nat.le_trans Zz243 EI245.1
          have hk := Nat.le_trans hk EI245.1
          refine g_astore (i := 14) X245 hx #[.val (.int p0), .val (.int p1), .val (.int p2), .val (.int p3), .val (.int p4), .val (.ref la), .val (.int (0 : Int32)), .val (.ref pa), .val (.int (1 : Int32)), .val .null, .val (.int (0 : Int32)), .val (.int cp), .val (.int ac), .val (.ref da), .val (.ref a244), .unset, .unset, .unset] (hb hby at_159) rfl rfl rfl ?_
          refine g_aload (i := 14) X245 hx (hb hby at_161) (by rfl) rfl rfl ?_
          refine g_aload (i := 13) X245 hx (hb hby at_163) (by rfl) rfl rfl ?_
          refine g_callV X245 hx hZ hown (wd hw 39 rfl) (wd hw 40 rfl) (wd hw 42 rfl) (wd hw 41 rfl) (wd hw 28 rfl) (wd hw 43 rfl) (by decide) rfl a244 Ei245 (rm_at_rn l Z a0 hw a244 la pa 0 0 da dab [ac.toInt8.toInt32] [((p2 &&& (255 : Int32)).toUInt32.toUInt16.toUInt32.toInt32).toInt8.toInt32] T245.heap n0 Zz246 cs S_cs_246 hcs Ei245 G1_245 G2_245 G3_245 S_da_246 (by simp) (by simp)) (by rw [hml]; rfl) [(.ref da)] [] rfl (lenOf pd_227 rfl) rfl (by show 0 + (2 + 11) + 28 ≤ _; decide) (by decide) (by decide) (by decide) (hb hby at_165) rfl ?_
          intro T247 v247 L247 X247 hQ247
          obtain ⟨r, rfl, N247, E247, hor⟩ := hQ247
          have N247 := Fr.app N245 N247
          show Goes p e below _ T247 (mkF m 168 #[.val (.int p0), .val (.int p1), .val (.int p2), .val (.int p3), .val (.int p4), .val (.ref la), .val (.int (0 : Int32)), .val (.ref pa), .val (.int (1 : Int32)), .val .null, .val (.int (0 : Int32)), .val (.int cp), .val (.int ac), .val (.ref da), .val (.ref a244), .unset, .unset, .unset] [(.ref r)])
          have S_cs_248 := S_cs_246.ext E247
          have S_la_248 := S_la_246.ext E247
          have S_pa_248 := S_pa_246.ext E247
          have S_da_248 := S_da_246.ext E247
          have IE_248 := Ei245.ext E247
          have Ilabel_248 := G1_245.ext E247
          have Ipart_248 := G2_245.ext E247
          have Iorigin_248 := G3_245.ext E247
          have H248 := CHv.ext E247 H246
          have Zz248 : n0 ≤ _ := Nat.le_trans Zz246 E247.1
          have hk := Nat.le_trans hk E247.1
          refine g_astore (i := 15) X247 hx #[.val (.int p0), .val (.int p1), .val (.int p2), .val (.int p3), .val (.int p4), .val (.ref la), .val (.int (0 : Int32)), .val (.ref pa), .val (.int (1 : Int32)), .val .null, .val (.int (0 : Int32)), .val (.int cp), .val (.int ac), .val (.ref da), .val (.ref a244), .val (.ref r), .unset, .unset] (hb hby at_168) rfl rfl rfl ?_
          refine g_iload (i := 10) X247 hx (hb hby at_170) (by rfl) rfl ?_
          refine g_if_eq X247 hx (hb hby at_172) (by decide) (pt := 188) (by decide) rfl (fun _ => ?_) (fun q_ => absurd (by decide) q_)
          refine g_iload (i := 8) X247 hx (hb hby at_188) (by rfl) rfl ?_
          refine g_if_ne X247 hx (hb hby at_190) (by decide) (pt := 215) (by decide) rfl (fun _ => ?_) (fun q_ => absurd q_ (by decide))
          obtain ⟨hra, -, RE, Rl, Rp, Ro⟩ := hor.resolve_left (fun r => r.2)
          refine g_iconst (v := (0 : Int32)) X247 hx (hb hby at_215) (by decide) rfl ?_
          refine g_istore (i := 16) X247 hx #[.val (.int p0), .val (.int p1), .val (.int p2), .val (.int p3), .val (.int p4), .val (.ref la), .val (.int (0 : Int32)), .val (.ref pa), .val (.int (1 : Int32)), .val .null, .val (.int (0 : Int32)), .val (.int cp), .val (.int ac), .val (.ref da), .val (.ref a244), .val (.ref r), .val (.int (0 : Int32)), .unset] (hb hby at_216) rfl rfl ?_
          refine g_iload (i := 16) X247 hx (hb hby at_218) (by rfl) rfl ?_
          refine g_if_eq X247 hx (hb hby at_220) (by decide) (pt := 236) (by decide) rfl (fun _ => ?_) (fun q_ => absurd (by decide) q_)
          refine g_aload (i := 15) X247 hx (hb hby at_236) (by rfl) rfl rfl ?_
          refine g_aload (i := 14) X247 hx (hb hby at_238) (by rfl) rfl rfl ?_
          refine g_acmp_eq X247 hx (hb hby at_240) rfl rfl (by decide) (pt := 248) (by decide) rfl (fun q_ => absurd q_ (fun q => hra (Value.ref.inj q))) (fun _ => ?_)
          refine g_aload (i := 15) X247 hx (hb hby at_243) (by rfl) rfl rfl ?_
          refine g_ifnonnull_t X247 hx (hb hby at_245) (by decide) (pt := 250) (by decide) ?_
          refine g_aload (i := 15) X247 hx (hb hby at_250) (by rfl) rfl rfl ?_
          refine g_callV X247 hx hZ hown (wd hw 54 rfl) (wd hw 55 rfl) (wd hw 57 rfl) (wd hw 56 rfl) (wd hw 28 rfl) (wd hw 58 rfl) (by decide) rfl r RE (rm_gp_r l Z a0 hw r pa T247.heap Rp) (by rw [hml]; rfl) [] [] rfl (lenOf pd_172 rfl) rfl (by show 0 + (1 + 11) + 0 ≤ _; decide) (by decide) (by decide) (by decide) (hb hby at_252) rfl ?_
          intro T249 v249 L249 X249 hQ249
          obtain ⟨rfl, rfl, e249⟩ := hQ249
          have N249 := Fr.app N247 (Fr.nil n0)
          show Goes p e below _ T249 (mkF m 255 #[.val (.int p0), .val (.int p1), .val (.int p2), .val (.int p3), .val (.int p4), .val (.ref la), .val (.int (0 : Int32)), .val (.ref pa), .val (.int (1 : Int32)), .val .null, .val (.int (0 : Int32)), .val (.int cp), .val (.int ac), .val (.ref da), .val (.ref a244), .val (.ref r), .val (.int (0 : Int32)), .unset] [(.ref pa)])
          refine g_aload (i := 7) X249 hx (hb hby at_255) (by rfl) rfl rfl ?_
          refine g_acmp_eq X249 hx (hb hby at_257) rfl rfl (by decide) (pt := 262) (by decide) rfl (fun _ => ?_) (fun q_ => absurd (rfl) q_)
          refine g_new X249 hx hZ hown (wd hw 26 rfl) (wd hw 27 rfl) (wd hw 28 rfl) e249 (hb hby at_262) rfl (by decide) (by decide) ?_
          intro T250 h250 a250 X250 e250 g250 Ex250 E250 D250
          have F250_label : Fld Z h250 a250 "com/example/wireup/wireup/Item" "label" "Ljava/lang/String;" .null := D250 (Or.inr (wd hw 34 rfl)) (ty := (.object "java/lang/String")) (by decide)
          have F250_part : Fld Z h250 a250 "com/example/wireup/wireup/Item" "part" "Ljava/lang/String;" .null := D250 (Or.inr (wd hw 36 rfl)) (ty := (.object "java/lang/String")) (by decide)
          have F250_origin : Fld Z h250 a250 "com/example/wireup/wireup/Item" "origin" "Ljava/lang/String;" .null := D250 (Or.inr (wd hw 38 rfl)) (ty := (.object "java/lang/String")) (by decide)
          have gi250 : n0 ≤ a250 := by rw [g250]; exact Zz248
          refine g_dup X250 hx (hb hby at_265) rfl rfl ?_
          refine g_aload (i := 5) X250 hx (hb hby at_266) (by rfl) rfl rfl ?_
          refine g_aload (i := 7) X250 hx (hb hby at_268) (by rfl) rfl rfl ?_
          refine g_aload (i := 13) X250 hx (hb hby at_270) (by rfl) rfl rfl ?_
          refine g_callI X250 hx hZ rfl hown (wd hw 29 rfl) (wd hw 30 rfl) (wd hw 28 rfl) (wd hw 31 rfl) (by decide) e250 (rm_it_rr l Z a0 hw a250 la pa da h250 n0 gi250 E250 F250_label F250_part F250_origin) (by rw [hml]; rfl) a250 [(.ref la), (.ref pa), (.ref da)] [(.ref a250)] rfl (lenOf pd_125 rfl) rfl (by show 1 + (4 + 11) + 12 ≤ _; decide) (by decide) (by decide) (by decide) (hb hby at_272) rfl ?_
          intro T251 v251 L251 X251 hQ251
          obtain ⟨rfl, N251, K251, Ei251, G1_251, G2_251, G3_251⟩ := hQ251
          have N251 := Fr.app N249 N251
          show Goes p e below _ T251 (mkF m 275 #[.val (.int p0), .val (.int p1), .val (.int p2), .val (.int p3), .val (.int p4), .val (.ref la), .val (.int (0 : Int32)), .val (.ref pa), .val (.int (1 : Int32)), .val .null, .val (.int (0 : Int32)), .val (.int cp), .val (.int ac), .val (.ref da), .val (.ref a244), .val (.ref r), .val (.int (0 : Int32)), .unset] [(.ref a250)])
          have EI251 := own_ext3 Ex250 K251 (fun x hx => by rw [List.mem_singleton.mp hx, g250]; exact Nat.le_refl _)
          have S_cs_252 := S_cs_248.ext EI251
          have S_la_252 := S_la_248.ext EI251
          have S_pa_252 := S_pa_248.ext EI251
          have S_da_252 := S_da_248.ext EI251
          have IE_252 := IE_248.ext EI251
          have Ilabel_252 := Ilabel_248.ext EI251
          have Ipart_252 := Ipart_248.ext EI251
          have Iorigin_252 := Iorigin_248.ext EI251
          have RE_252 := RE.ext EI251
          have Rlabel_252 := Rl.ext EI251
          have Rpart_252 := Rp.ext EI251
          have Rorigin_252 := Ro.ext EI251
          have H252 := CHv.ext EI251 H248
          have Zz252 : n0 ≤ _ := Nat.le_trans Zz248 EI251.1
          have hk := Nat.le_trans hk EI251.1
          refine g_callVH X251 hx hZ hown (wd hw 59 rfl) (wd hw 60 rfl) (wd hw 62 rfl) (wd hw 61 rfl) (wd hw 28 rfl) (wd hw 63 rfl) (by decide) rfl hS hk (own_EW hw) H252 a250 Ei251 (rm_ds_r l Z a0 hw a250 la lab pa pab da dab [((p0 &&& (255 : Int32)).toUInt32.toUInt16.toUInt32.toInt32).toInt8.toInt32] [((p1 &&& (255 : Int32)).toUInt32.toUInt16.toUInt32.toInt32).toInt8.toInt32] [ac.toInt8.toInt32] T251.heap n0 Zz252 cs S_cs_252 hcs G1_251 G2_251 G3_251 S_la_252 S_pa_252 S_da_252 rfl rfl rfl) (by rw [hml]; rfl) [] [] rfl (lenOf pd_172 rfl) rfl (by show 0 + (1 + 11) + 92 ≤ _; decide) (by decide) (by decide) (by decide) (hb hby at_275) rfl ?_
          intro T253 v253 L253 k253 X253 hQ253 Rc253 hS hk hZ hown
          obtain ⟨ra253, rb253, rfl, N253, E253, gr253, SR253⟩ := hQ253
          have N253 := Fr.app N251 N253
          show Goes p e below _ T253 (mkF m 278 #[.val (.int p0), .val (.int p1), .val (.int p2), .val (.int p3), .val (.int p4), .val (.ref la), .val (.int (0 : Int32)), .val (.ref pa), .val (.int (1 : Int32)), .val .null, .val (.int (0 : Int32)), .val (.int cp), .val (.int ac), .val (.ref da), .val (.ref a244), .val (.ref r), .val (.int (0 : Int32)), .unset] [(.ref ra253)])
          have S_cs_254 := S_cs_252.ext E253
          have S_la_254 := S_la_252.ext E253
          have S_pa_254 := S_pa_252.ext E253
          have S_da_254 := S_da_252.ext E253
          have IE_254 := IE_252.ext E253
          have Ilabel_254 := Ilabel_252.ext E253
          have Ipart_254 := Ipart_252.ext E253
          have Iorigin_254 := Iorigin_252.ext E253
          have RE_254 := RE_252.ext E253
          have Rlabel_254 := Rlabel_252.ext E253
          have Rpart_254 := Rpart_252.ext E253
          have Rorigin_254 := Rorigin_252.ext E253
          have QE_254 := Ei251.ext E253
          have Qlabel_254 := G1_251.ext E253
          have Qpart_254 := G2_251.ext E253
          have Qorigin_254 := G3_251.ext E253
          have Zz254 : n0 ≤ _ := Nat.le_trans Zz252 E253.1
          have ltq := SR253.1.lt
          refine g_astore (i := 17) X253 hx #[.val (.int p0), .val (.int p1), .val (.int p2), .val (.int p3), .val (.int p4), .val (.ref la), .val (.int (0 : Int32)), .val (.ref pa), .val (.int (1 : Int32)), .val .null, .val (.int (0 : Int32)), .val (.int cp), .val (.int ac), .val (.ref da), .val (.ref a244), .val (.ref r), .val (.int (0 : Int32)), .val (.ref ra253)] (hb hby at_278) rfl rfl rfl ?_
          refine g_aload (i := 15) X253 hx (hb hby at_280) (by rfl) rfl rfl ?_
          refine g_callVH X253 hx hZ hown (wd hw 59 rfl) (wd hw 60 rfl) (wd hw 62 rfl) (wd hw 61 rfl) (wd hw 28 rfl) (wd hw 63 rfl) (by decide) rfl hS hk (own_EW hw) Rc253.1 r RE_254 (rm_ds_r l Z a0 hw r la lab pa pab da dab [((p0 &&& (255 : Int32)).toUInt32.toUInt16.toUInt32.toInt32).toInt8.toInt32] [((p1 &&& (255 : Int32)).toUInt32.toUInt16.toUInt32.toInt32).toInt8.toInt32] [ac.toInt8.toInt32] T253.heap n0 Zz254 cs S_cs_254 hcs Rlabel_254 Rpart_254 Rorigin_254 S_la_254 S_pa_254 S_da_254 rfl rfl rfl) (by rw [hml]; rfl) [] [] rfl (lenOf pd_172 rfl) rfl (by show 0 + (1 + 11) + 92 ≤ _; decide) (by decide) (by decide) (by decide) (hb hby at_282) rfl ?_
          intro T255 v255 L255 k255 X255 hQ255 Rc255 hS hk hZ hown
          obtain ⟨ra255, rb255, rfl, N255, E255, gr255, SR255⟩ := hQ255
          have N255 := Fr.app N253 N255
          show Goes p e below _ T255 (mkF m 285 #[.val (.int p0), .val (.int p1), .val (.int p2), .val (.int p3), .val (.int p4), .val (.ref la), .val (.int (0 : Int32)), .val (.ref pa), .val (.int (1 : Int32)), .val .null, .val (.int (0 : Int32)), .val (.int cp), .val (.int ac), .val (.ref da), .val (.ref a244), .val (.ref r), .val (.int (0 : Int32)), .val (.ref ra253)] [(.ref ra255)])
          have S_cs_256 := S_cs_254.ext E255
          have S_la_256 := S_la_254.ext E255
          have S_pa_256 := S_pa_254.ext E255
          have S_da_256 := S_da_254.ext E255
          have IE_256 := IE_254.ext E255
          have Ilabel_256 := Ilabel_254.ext E255
          have Ipart_256 := Ipart_254.ext E255
          have Iorigin_256 := Iorigin_254.ext E255
          have RE_256 := RE_254.ext E255
          have Rlabel_256 := Rlabel_254.ext E255
          have Rpart_256 := Rpart_254.ext E255
          have Rorigin_256 := Rorigin_254.ext E255
          have QE_256 := QE_254.ext E255
          have Qlabel_256 := Qlabel_254.ext E255
          have Qpart_256 := Qpart_254.ext E255
          have Qorigin_256 := Qorigin_254.ext E255
          have SR253_256 := SR253.ext E255
          have Zz256 : n0 ≤ _ := Nat.le_trans Zz254 E255.1
          refine g_aload (i := 17) X255 hx (hb hby at_285) (by rfl) rfl rfl ?_
          refine g_callV X255 hx hZ hown (wd hw 179 rfl) (wd hw 45 rfl) (wd hw 47 rfl) (wd hw 46 rfl) (wd hw 2 rfl) (wd hw 48 rfl) (by decide) rfl ra255 SR255.1 (rm_seq l Z a0 hw ra255 rb255 ra253 rb253 _ _ T255.heap cs S_cs_256 hcs SR255 SR253_256 (fun q => absurd ltq (by rw [← q]; exact Nat.not_lt.mpr gr255)) (by simp only [List.length_append, List.length_cons, List.length_nil]; omega) (by simp only [List.length_append, List.length_cons, List.length_nil]; omega)) (by rw [hml]; rfl) [(.ref ra253)] [] rfl (lenOf pd_121 rfl) rfl (by show 0 + (3 + 11) + 14 ≤ _; decide) (by decide) (by decide) (by decide) (hb hby at_287) rfl ?_
          intro T257 v257 L257 X257 hQ257
          obtain ⟨rfl, rfl, e257⟩ := hQ257
          have N257 := Fr.app N255 (Fr.nil n0)
          show Goes p e below _ T257 (mkF m 290 #[.val (.int p0), .val (.int p1), .val (.int p2), .val (.int p3), .val (.int p4), .val (.ref la), .val (.int (0 : Int32)), .val (.ref pa), .val (.int (1 : Int32)), .val .null, .val (.int (0 : Int32)), .val (.int cp), .val (.int ac), .val (.ref da), .val (.ref a244), .val (.ref r), .val (.int (0 : Int32)), .val (.ref ra253)] [(.int _)])
          exact g_retNW X257 hx (t := .boolean) (by simp) hlk hret e257 hS hk (by decide) (by decide) (hb hby at_290) ⟨by rw [if_pos rfl]; rfl, N257⟩
        refine g_iload (i := 4) X218 hx (hb hby at_94) (by rfl) rfl ?_
        refine g_iconst (v := (4 : Int32)) X218 hx (hb hby at_96) (by decide) rfl ?_
        refine g_iand X218 hx (hb hby at_97) rfl ?_
        refine g_if_eq X218 hx (hb hby at_98) (by decide) (pt := 105) (by decide) rfl (fun qk => ?_) (fun qk => ?_)
        · refine g_iconst (v := (0 : Int32)) X218 hx (hb hby at_105) (by decide) rfl ?_
          refine g_istore (i := 11) X218 hx #[.val (.int p0), .val (.int p1), .val (.int p2), .val (.int p3), .val (.int p4), .val (.ref la), .val (.int (0 : Int32)), .val (.ref pa), .val (.int (1 : Int32)), .val .null, .val (.int (0 : Int32)), .val (.int (0 : Int32)), .unset, .unset, .unset, .unset, .unset, .unset] (hb hby at_106) rfl rfl ?_
          refine g_iload (i := 11) X218 hx (hb hby at_108) (by rfl) rfl ?_
          refine g_if_eq X218 hx (hb hby at_110) (by decide) (pt := 122) (by decide) rfl (fun _ => ?_) (fun q_ => absurd (by decide) q_)
          refine g_iload_n (i := 3) X218 hx (hb hby at_122) (by rfl) rfl ?_
          refine g_sipush (v := (255 : Int32)) X218 hx (hb hby at_123) (by decide) rfl ?_
          refine g_iand X218 hx (hb hby at_126) rfl ?_
          refine g_i2c X218 hx (hb hby at_127) rfl ?_
          refine g_istore (i := 12) X218 hx #[.val (.int p0), .val (.int p1), .val (.int p2), .val (.int p3), .val (.int p4), .val (.ref la), .val (.int (0 : Int32)), .val (.ref pa), .val (.int (1 : Int32)), .val .null, .val (.int (0 : Int32)), .val (.int (0 : Int32)), .val (.int (p3 &&& (255 : Int32)).toUInt32.toUInt16.toUInt32.toInt32), .unset, .unset, .unset, .unset, .unset] (hb hby at_128) rfl rfl ?_
          exact J130 _ _ (Or.inr ⟨rfl, rfl⟩)
        · refine g_iconst (v := (1 : Int32)) X218 hx (hb hby at_101) (by decide) rfl ?_
          refine g_goto X218 hx (hb hby at_102) (by decide) (by decide) (pc' := 106) ?_
          refine g_istore (i := 11) X218 hx #[.val (.int p0), .val (.int p1), .val (.int p2), .val (.int p3), .val (.int p4), .val (.ref la), .val (.int (0 : Int32)), .val (.ref pa), .val (.int (1 : Int32)), .val .null, .val (.int (0 : Int32)), .val (.int (1 : Int32)), .unset, .unset, .unset, .unset, .unset, .unset] (hb hby at_106) rfl rfl ?_
          refine g_iload (i := 11) X218 hx (hb hby at_108) (by rfl) rfl ?_
          refine g_if_eq X218 hx (hb hby at_110) (by decide) (pt := 122) (by decide) rfl (fun q_ => absurd q_ (by decide)) (fun _ => ?_)
          refine g_iload_n (i := 2) X218 hx (hb hby at_113) (by rfl) rfl ?_
          refine g_sipush (v := (255 : Int32)) X218 hx (hb hby at_114) (by decide) rfl ?_
          refine g_iand X218 hx (hb hby at_117) rfl ?_
          refine g_i2c X218 hx (hb hby at_118) rfl ?_
          refine g_goto X218 hx (hb hby at_119) (by decide) (by decide) (pc' := 128) ?_
          refine g_istore (i := 12) X218 hx #[.val (.int p0), .val (.int p1), .val (.int p2), .val (.int p3), .val (.int p4), .val (.ref la), .val (.int (0 : Int32)), .val (.ref pa), .val (.int (1 : Int32)), .val .null, .val (.int (0 : Int32)), .val (.int (1 : Int32)), .val (.int (p2 &&& (255 : Int32)).toUInt32.toUInt16.toUInt32.toInt32), .unset, .unset, .unset, .unset, .unset] (hb hby at_128) rfl rfl ?_
          exact J130 _ _ (Or.inl ⟨by decide, rfl⟩)
      · refine g_iconst (v := (1 : Int32)) X218 hx (hb hby at_87) (by decide) rfl ?_
        refine g_goto X218 hx (hb hby at_88) (by decide) (by decide) (pc' := 92) ?_
        refine g_istore (i := 10) X218 hx #[.val (.int p0), .val (.int p1), .val (.int p2), .val (.int p3), .val (.int p4), .val (.ref la), .val (.int (0 : Int32)), .val (.ref pa), .val (.int (1 : Int32)), .val .null, .val (.int (1 : Int32)), .unset, .unset, .unset, .unset, .unset, .unset, .unset] (hb hby at_92) rfl rfl ?_
        have J130 : ∀ (cp ac : Int32), (¬ cp = 0 ∧ ac = ((p2 &&& (255 : Int32)).toUInt32.toUInt16.toUInt32.toInt32)) ∨ (cp = 0 ∧ ac = ((p3 &&& (255 : Int32)).toUInt32.toUInt16.toUInt32.toInt32)) → Goes p e below (KW s 72 3456 (fun v h L => v = some (.int 1) ∧ Fr n0 L)) T218 (mkF m 130 #[.val (.int p0), .val (.int p1), .val (.int p2), .val (.int p3), .val (.int p4), .val (.ref la), .val (.int (0 : Int32)), .val (.ref pa), .val (.int (1 : Int32)), .val .null, .val (.int (1 : Int32)), .val (.int cp), .val (.int ac), .unset, .unset, .unset, .unset, .unset] []) := by
          intro cp ac hca
          refine g_iload (i := 10) X218 hx (hb hby at_130) (by rfl) rfl ?_
          refine g_if_eq X218 hx (hb hby at_132) (by decide) (pt := 139) (by decide) rfl (fun q_ => absurd q_ (by decide)) (fun _ => ?_)
          refine g_aconst_null X218 hx (hb hby at_135) rfl ?_
          refine g_goto X218 hx (hb hby at_136) (by decide) (by decide) (pc' := 144) ?_
          refine g_astore (i := 13) X218 hx #[.val (.int p0), .val (.int p1), .val (.int p2), .val (.int p3), .val (.int p4), .val (.ref la), .val (.int (0 : Int32)), .val (.ref pa), .val (.int (1 : Int32)), .val .null, .val (.int (1 : Int32)), .val (.int cp), .val (.int ac), .val .null, .unset, .unset, .unset, .unset] (hb hby at_144) rfl rfl rfl ?_
          refine g_new X218 hx hZ hown (wd hw 26 rfl) (wd hw 27 rfl) (wd hw 28 rfl) rfl (hb hby at_146) rfl (by decide) (by decide) ?_
          intro T258 h258 a258 X258 e258 g258 Ex258 E258 D258
          have F258_label : Fld Z h258 a258 "com/example/wireup/wireup/Item" "label" "Ljava/lang/String;" .null := D258 (Or.inr (wd hw 34 rfl)) (ty := (.object "java/lang/String")) (by decide)
          have F258_part : Fld Z h258 a258 "com/example/wireup/wireup/Item" "part" "Ljava/lang/String;" .null := D258 (Or.inr (wd hw 36 rfl)) (ty := (.object "java/lang/String")) (by decide)
          have F258_origin : Fld Z h258 a258 "com/example/wireup/wireup/Item" "origin" "Ljava/lang/String;" .null := D258 (Or.inr (wd hw 38 rfl)) (ty := (.object "java/lang/String")) (by decide)
          have gi258 : n0 ≤ a258 := by rw [g258]; exact Zz219
          refine g_dup X258 hx (hb hby at_149) rfl rfl ?_
          refine g_aload (i := 5) X258 hx (hb hby at_150) (by rfl) rfl rfl ?_
          refine g_aload (i := 7) X258 hx (hb hby at_152) (by rfl) rfl rfl ?_
          refine g_aload (i := 9) X258 hx (hb hby at_154) (by rfl) rfl rfl ?_
          refine g_callI X258 hx hZ rfl hown (wd hw 29 rfl) (wd hw 30 rfl) (wd hw 28 rfl) (wd hw 31 rfl) (by decide) e258 (rm_it_rn l Z a0 hw a258 la pa 0 h258 n0 gi258 E258 F258_label F258_part F258_origin) (by rw [hml]; rfl) a258 [(.ref la), (.ref pa), .null] [(.ref a258)] rfl (lenOf pd_125 rfl) rfl (by show 1 + (4 + 11) + 12 ≤ _; decide) (by decide) (by decide) (by decide) (hb hby at_156) rfl ?_
          intro T259 v259 L259 X259 hQ259
          obtain ⟨rfl, N259, K259, Ei259, G1_259, G2_259, G3_259⟩ := hQ259
          have N259 := Fr.app N218 N259
          show Goes p e below _ T259 (mkF m 159 #[.val (.int p0), .val (.int p1), .val (.int p2), .val (.int p3), .val (.int p4), .val (.ref la), .val (.int (0 : Int32)), .val (.ref pa), .val (.int (1 : Int32)), .val .null, .val (.int (1 : Int32)), .val (.int cp), .val (.int ac), .val .null, .unset, .unset, .unset, .unset] [(.ref a258)])
          have EI259 := own_ext3 Ex258 K259 (fun x hx => by rw [List.mem_singleton.mp hx, g258]; exact Nat.le_refl _)
          have S_cs_260 := S_cs_219.ext EI259
          have S_la_260 := S_la_219.ext EI259
          have S_pa_260 := Spa.ext EI259
          have H260 := CHv.ext EI259 H219
          have Zz260 : n0 ≤ _ := Nat.le_trans Zz219 EI259.1
          have hk := Nat.le_trans hk EI259.1
          refine g_astore (i := 14) X259 hx #[.val (.int p0), .val (.int p1), .val (.int p2), .val (.int p3), .val (.int p4), .val (.ref la), .val (.int (0 : Int32)), .val (.ref pa), .val (.int (1 : Int32)), .val .null, .val (.int (1 : Int32)), .val (.int cp), .val (.int ac), .val .null, .val (.ref a258), .unset, .unset, .unset] (hb hby at_159) rfl rfl rfl ?_
          refine g_aload (i := 14) X259 hx (hb hby at_161) (by rfl) rfl rfl ?_
          refine g_aload (i := 13) X259 hx (hb hby at_163) (by rfl) rfl rfl ?_
          refine g_callV X259 hx hZ hown (wd hw 39 rfl) (wd hw 40 rfl) (wd hw 42 rfl) (wd hw 41 rfl) (wd hw 28 rfl) (wd hw 43 rfl) (by decide) rfl a258 Ei259 (rm_at0 l Z a0 hw a258 T259.heap) (by rw [hml]; rfl) [.null] [] rfl (lenOf pd_227 rfl) rfl (by show 0 + (2 + 11) + 0 ≤ _; decide) (by decide) (by decide) (by decide) (hb hby at_165) rfl ?_
          intro T261 v261 L261 X261 hQ261
          obtain ⟨rfl, rfl, e261⟩ := hQ261
          have N261 := Fr.app N259 (Fr.nil n0)
          show Goes p e below _ T261 (mkF m 168 #[.val (.int p0), .val (.int p1), .val (.int p2), .val (.int p3), .val (.int p4), .val (.ref la), .val (.int (0 : Int32)), .val (.ref pa), .val (.int (1 : Int32)), .val .null, .val (.int (1 : Int32)), .val (.int cp), .val (.int ac), .val .null, .val (.ref a258), .unset, .unset, .unset] [(.ref a258)])
          refine g_astore (i := 15) X261 hx #[.val (.int p0), .val (.int p1), .val (.int p2), .val (.int p3), .val (.int p4), .val (.ref la), .val (.int (0 : Int32)), .val (.ref pa), .val (.int (1 : Int32)), .val .null, .val (.int (1 : Int32)), .val (.int cp), .val (.int ac), .val .null, .val (.ref a258), .val (.ref a258), .unset, .unset] (hb hby at_168) rfl rfl rfl ?_
          refine g_iload (i := 10) X261 hx (hb hby at_170) (by rfl) rfl ?_
          refine g_if_eq X261 hx (hb hby at_172) (by decide) (pt := 188) (by decide) rfl (fun q_ => absurd q_ (by decide)) (fun _ => ?_)
          refine g_aload (i := 15) X261 hx (hb hby at_175) (by rfl) rfl rfl ?_
          refine g_aload (i := 14) X261 hx (hb hby at_177) (by rfl) rfl rfl ?_
          refine g_acmp_ne X261 hx (hb hby at_179) rfl rfl (by decide) (pt := 186) (by decide) rfl (fun q_ => absurd (rfl) q_) (fun _ => ?_)
          refine g_iconst (v := (1 : Int32)) X261 hx (hb hby at_182) (by decide) rfl ?_
          refine g_goto X261 hx (hb hby at_183) (by decide) (by decide) (pc' := 187) ?_
          exact g_retNW X261 hx (t := .boolean) (by simp) hlk hret e261 hS hk (by decide) (by decide) (hb hby at_187) ⟨rfl, N261⟩
        refine g_iload (i := 4) X218 hx (hb hby at_94) (by rfl) rfl ?_
        refine g_iconst (v := (4 : Int32)) X218 hx (hb hby at_96) (by decide) rfl ?_
        refine g_iand X218 hx (hb hby at_97) rfl ?_
        refine g_if_eq X218 hx (hb hby at_98) (by decide) (pt := 105) (by decide) rfl (fun qk => ?_) (fun qk => ?_)
        · refine g_iconst (v := (0 : Int32)) X218 hx (hb hby at_105) (by decide) rfl ?_
          refine g_istore (i := 11) X218 hx #[.val (.int p0), .val (.int p1), .val (.int p2), .val (.int p3), .val (.int p4), .val (.ref la), .val (.int (0 : Int32)), .val (.ref pa), .val (.int (1 : Int32)), .val .null, .val (.int (1 : Int32)), .val (.int (0 : Int32)), .unset, .unset, .unset, .unset, .unset, .unset] (hb hby at_106) rfl rfl ?_
          refine g_iload (i := 11) X218 hx (hb hby at_108) (by rfl) rfl ?_
          refine g_if_eq X218 hx (hb hby at_110) (by decide) (pt := 122) (by decide) rfl (fun _ => ?_) (fun q_ => absurd (by decide) q_)
          refine g_iload_n (i := 3) X218 hx (hb hby at_122) (by rfl) rfl ?_
          refine g_sipush (v := (255 : Int32)) X218 hx (hb hby at_123) (by decide) rfl ?_
          refine g_iand X218 hx (hb hby at_126) rfl ?_
          refine g_i2c X218 hx (hb hby at_127) rfl ?_
          refine g_istore (i := 12) X218 hx #[.val (.int p0), .val (.int p1), .val (.int p2), .val (.int p3), .val (.int p4), .val (.ref la), .val (.int (0 : Int32)), .val (.ref pa), .val (.int (1 : Int32)), .val .null, .val (.int (1 : Int32)), .val (.int (0 : Int32)), .val (.int (p3 &&& (255 : Int32)).toUInt32.toUInt16.toUInt32.toInt32), .unset, .unset, .unset, .unset, .unset] (hb hby at_128) rfl rfl ?_
          exact J130 _ _ (Or.inr ⟨rfl, rfl⟩)
        · refine g_iconst (v := (1 : Int32)) X218 hx (hb hby at_101) (by decide) rfl ?_
          refine g_goto X218 hx (hb hby at_102) (by decide) (by decide) (pc' := 106) ?_
          refine g_istore (i := 11) X218 hx #[.val (.int p0), .val (.int p1), .val (.int p2), .val (.int p3), .val (.int p4), .val (.ref la), .val (.int (0 : Int32)), .val (.ref pa), .val (.int (1 : Int32)), .val .null, .val (.int (1 : Int32)), .val (.int (1 : Int32)), .unset, .unset, .unset, .unset, .unset, .unset] (hb hby at_106) rfl rfl ?_
          refine g_iload (i := 11) X218 hx (hb hby at_108) (by rfl) rfl ?_
          refine g_if_eq X218 hx (hb hby at_110) (by decide) (pt := 122) (by decide) rfl (fun q_ => absurd q_ (by decide)) (fun _ => ?_)
          refine g_iload_n (i := 2) X218 hx (hb hby at_113) (by rfl) rfl ?_
          refine g_sipush (v := (255 : Int32)) X218 hx (hb hby at_114) (by decide) rfl ?_
          refine g_iand X218 hx (hb hby at_117) rfl ?_
          refine g_i2c X218 hx (hb hby at_118) rfl ?_
          refine g_goto X218 hx (hb hby at_119) (by decide) (by decide) (pc' := 128) ?_
          refine g_istore (i := 12) X218 hx #[.val (.int p0), .val (.int p1), .val (.int p2), .val (.int p3), .val (.int p4), .val (.ref la), .val (.int (0 : Int32)), .val (.ref pa), .val (.int (1 : Int32)), .val .null, .val (.int (1 : Int32)), .val (.int (1 : Int32)), .val (.int (p2 &&& (255 : Int32)).toUInt32.toUInt16.toUInt32.toInt32), .unset, .unset, .unset, .unset, .unset] (hb hby at_128) rfl rfl ?_
          exact J130 _ _ (Or.inl ⟨by decide, rfl⟩)
  · refine g_iconst (v := (1 : Int32)) X216 hx (hb hby at_18) (by decide) rfl ?_
    refine g_goto X216 hx (hb hby at_19) (by decide) (by decide) (pc' := 23) ?_
    refine g_istore (i := 6) X216 hx #[.val (.int p0), .val (.int p1), .val (.int p2), .val (.int p3), .val (.int p4), .val (.ref la), .val (.int (1 : Int32)), .unset, .unset, .unset, .unset, .unset, .unset, .unset, .unset, .unset, .unset, .unset] (hb hby at_23) rfl rfl ?_
    refine g_iload (i := 6) X216 hx (hb hby at_25) (by rfl) rfl ?_
    refine g_if_eq X216 hx (hb hby at_27) (by decide) (pt := 34) (by decide) rfl (fun q_ => absurd q_ (by decide)) (fun _ => ?_)
    refine g_aconst_null X216 hx (hb hby at_30) rfl ?_
    refine g_goto X216 hx (hb hby at_31) (by decide) (by decide) (pc' := 43) ?_
    refine g_astore (i := 7) X216 hx #[.val (.int p0), .val (.int p1), .val (.int p2), .val (.int p3), .val (.int p4), .val (.ref la), .val (.int (1 : Int32)), .val .null, .unset, .unset, .unset, .unset, .unset, .unset, .unset, .unset, .unset, .unset] (hb hby at_43) rfl rfl rfl ?_
    refine g_iload (i := 4) X216 hx (hb hby at_45) (by rfl) rfl ?_
    refine g_bipush (v := (8 : Int32)) X216 hx (hb hby at_47) (by decide) rfl ?_
    refine g_iand X216 hx (hb hby at_49) rfl ?_
    refine g_if_eq X216 hx (hb hby at_50) (by decide) (pt := 57) (by decide) rfl (fun q2 => ?_) (fun q2 => ?_)
    · refine g_iconst (v := (0 : Int32)) X216 hx (hb hby at_57) (by decide) rfl ?_
      refine g_istore (i := 8) X216 hx #[.val (.int p0), .val (.int p1), .val (.int p2), .val (.int p3), .val (.int p4), .val (.ref la), .val (.int (1 : Int32)), .val .null, .val (.int (0 : Int32)), .unset, .unset, .unset, .unset, .unset, .unset, .unset, .unset, .unset] (hb hby at_58) rfl rfl ?_
      refine g_iload (i := 8) X216 hx (hb hby at_60) (by rfl) rfl ?_
      refine g_if_eq X216 hx (hb hby at_62) (by decide) (pt := 69) (by decide) rfl (fun _ => ?_) (fun q_ => absurd (by decide) q_)
      refine g_iload_n (i := 2) X216 hx (hb hby at_69) (by rfl) rfl ?_
      refine g_sipush (v := (255 : Int32)) X216 hx (hb hby at_70) (by decide) rfl ?_
      refine g_iand X216 hx (hb hby at_73) rfl ?_
      refine g_i2c X216 hx (hb hby at_74) rfl ?_
      refine g_callS X216 hx hZ hown (wd hw 0 rfl) (wd hw 1 rfl) (wd hw 2 rfl) (wd hw 3 rfl) (by decide) rfl (rm_val l Z a0 hw ((p2 &&& (255 : Int32)).toUInt32.toUInt16.toUInt32.toInt32) T216.heap n0 Zz217 cs S_cs_217 hcs (by rw [own_ch]; omega)) (by rw [hml]; rfl) [(.int (p2 &&& (255 : Int32)).toUInt32.toUInt16.toUInt32.toInt32)] [] rfl (lenOf pd_216 rfl) rfl (by show 0 + (1 + 11) + 27 ≤ _; decide) (by decide) (by decide) (by decide) (hb hby at_75) rfl ?_
      intro T262 v262 L262 X262 hQ262
      obtain ⟨oa, oab, rfl, N262, E262, goa, -, Soa⟩ := hQ262
      have N262 := Fr.app N216 N262
      show Goes p e below _ T262 (mkF m 78 #[.val (.int p0), .val (.int p1), .val (.int p2), .val (.int p3), .val (.int p4), .val (.ref la), .val (.int (1 : Int32)), .val .null, .val (.int (0 : Int32)), .unset, .unset, .unset, .unset, .unset, .unset, .unset, .unset, .unset] [(.ref oa)])
      have S_cs_263 := S_cs_217.ext E262
      have S_la_263 := Sla.ext E262
      have H263 := CHv.ext E262 H217
      have Zz263 : n0 ≤ _ := Nat.le_trans Zz217 E262.1
      have hk := Nat.le_trans hk E262.1
      refine g_astore (i := 9) X262 hx #[.val (.int p0), .val (.int p1), .val (.int p2), .val (.int p3), .val (.int p4), .val (.ref la), .val (.int (1 : Int32)), .val .null, .val (.int (0 : Int32)), .val (.ref oa), .unset, .unset, .unset, .unset, .unset, .unset, .unset, .unset] (hb hby at_78) rfl rfl rfl ?_
      refine g_iload (i := 4) X262 hx (hb hby at_80) (by rfl) rfl ?_
      refine g_iconst (v := (2 : Int32)) X262 hx (hb hby at_82) (by decide) rfl ?_
      refine g_iand X262 hx (hb hby at_83) rfl ?_
      refine g_if_eq X262 hx (hb hby at_84) (by decide) (pt := 91) (by decide) rfl (fun qn => ?_) (fun qn => ?_)
      · refine g_iconst (v := (0 : Int32)) X262 hx (hb hby at_91) (by decide) rfl ?_
        refine g_istore (i := 10) X262 hx #[.val (.int p0), .val (.int p1), .val (.int p2), .val (.int p3), .val (.int p4), .val (.ref la), .val (.int (1 : Int32)), .val .null, .val (.int (0 : Int32)), .val (.ref oa), .val (.int (0 : Int32)), .unset, .unset, .unset, .unset, .unset, .unset, .unset] (hb hby at_92) rfl rfl ?_
        have J130 : ∀ (cp ac : Int32), (¬ cp = 0 ∧ ac = ((p2 &&& (255 : Int32)).toUInt32.toUInt16.toUInt32.toInt32)) ∨ (cp = 0 ∧ ac = ((p3 &&& (255 : Int32)).toUInt32.toUInt16.toUInt32.toInt32)) → Goes p e below (KW s 72 3456 (fun v h L => v = some (.int 1) ∧ Fr n0 L)) T262 (mkF m 130 #[.val (.int p0), .val (.int p1), .val (.int p2), .val (.int p3), .val (.int p4), .val (.ref la), .val (.int (1 : Int32)), .val .null, .val (.int (0 : Int32)), .val (.ref oa), .val (.int (0 : Int32)), .val (.int cp), .val (.int ac), .unset, .unset, .unset, .unset, .unset] []) := by
          intro cp ac hca
          refine g_iload (i := 10) X262 hx (hb hby at_130) (by rfl) rfl ?_
          refine g_if_eq X262 hx (hb hby at_132) (by decide) (pt := 139) (by decide) rfl (fun _ => ?_) (fun q_ => absurd (by decide) q_)
          refine g_iload (i := 12) X262 hx (hb hby at_139) (by rfl) rfl ?_
          have hac : ac.toInt ≤ 255 := by rcases hca with ⟨-, r⟩ | ⟨-, r⟩ <;> rw [r, own_ch] <;> omega
          have lto := Soa.1.lt
          refine g_callS X262 hx hZ hown (wd hw 0 rfl) (wd hw 1 rfl) (wd hw 2 rfl) (wd hw 3 rfl) (by decide) rfl (rm_val l Z a0 hw ac T262.heap n0 Zz263 cs S_cs_263 hcs hac) (by rw [hml]; rfl) [(.int ac)] [] rfl (lenOf pd_216 rfl) rfl (by show 0 + (1 + 11) + 27 ≤ _; decide) (by decide) (by decide) (by decide) (hb hby at_141) rfl ?_
          intro T264 v264 L264 X264 hQ264
          obtain ⟨da, dab, rfl, N264, E264, gda, -, Sda⟩ := hQ264
          have N264 := Fr.app N262 N264
          show Goes p e below _ T264 (mkF m 144 #[.val (.int p0), .val (.int p1), .val (.int p2), .val (.int p3), .val (.int p4), .val (.ref la), .val (.int (1 : Int32)), .val .null, .val (.int (0 : Int32)), .val (.ref oa), .val (.int (0 : Int32)), .val (.int cp), .val (.int ac), .unset, .unset, .unset, .unset, .unset] [(.ref da)])
          have S_cs_265 := S_cs_263.ext E264
          have S_la_265 := S_la_263.ext E264
          have S_oa_265 := Soa.ext E264
          have H265 := CHv.ext E264 H263
          have Zz265 : n0 ≤ _ := Nat.le_trans Zz263 E264.1
          have hk := Nat.le_trans hk E264.1
          refine g_astore (i := 13) X264 hx #[.val (.int p0), .val (.int p1), .val (.int p2), .val (.int p3), .val (.int p4), .val (.ref la), .val (.int (1 : Int32)), .val .null, .val (.int (0 : Int32)), .val (.ref oa), .val (.int (0 : Int32)), .val (.int cp), .val (.int ac), .val (.ref da), .unset, .unset, .unset, .unset] (hb hby at_144) rfl rfl rfl ?_
          refine g_new X264 hx hZ hown (wd hw 26 rfl) (wd hw 27 rfl) (wd hw 28 rfl) rfl (hb hby at_146) rfl (by decide) (by decide) ?_
          intro T266 h266 a266 X266 e266 g266 Ex266 E266 D266
          have F266_label : Fld Z h266 a266 "com/example/wireup/wireup/Item" "label" "Ljava/lang/String;" .null := D266 (Or.inr (wd hw 34 rfl)) (ty := (.object "java/lang/String")) (by decide)
          have F266_part : Fld Z h266 a266 "com/example/wireup/wireup/Item" "part" "Ljava/lang/String;" .null := D266 (Or.inr (wd hw 36 rfl)) (ty := (.object "java/lang/String")) (by decide)
          have F266_origin : Fld Z h266 a266 "com/example/wireup/wireup/Item" "origin" "Ljava/lang/String;" .null := D266 (Or.inr (wd hw 38 rfl)) (ty := (.object "java/lang/String")) (by decide)
          have gi266 : n0 ≤ a266 := by rw [g266]; exact Zz265
          refine g_dup X266 hx (hb hby at_149) rfl rfl ?_
          refine g_aload (i := 5) X266 hx (hb hby at_150) (by rfl) rfl rfl ?_
          refine g_aload (i := 7) X266 hx (hb hby at_152) (by rfl) rfl rfl ?_
          refine g_aload (i := 9) X266 hx (hb hby at_154) (by rfl) rfl rfl ?_
          refine g_callI X266 hx hZ rfl hown (wd hw 29 rfl) (wd hw 30 rfl) (wd hw 28 rfl) (wd hw 31 rfl) (by decide) e266 (rm_it_nr l Z a0 hw a266 la 0 oa h266 n0 gi266 E266 F266_label F266_part F266_origin) (by rw [hml]; rfl) a266 [(.ref la), .null, (.ref oa)] [(.ref a266)] rfl (lenOf pd_125 rfl) rfl (by show 1 + (4 + 11) + 12 ≤ _; decide) (by decide) (by decide) (by decide) (hb hby at_156) rfl ?_
          intro T267 v267 L267 X267 hQ267
          obtain ⟨rfl, N267, K267, Ei267, G1_267, G2_267, G3_267⟩ := hQ267
          have N267 := Fr.app N264 N267
          show Goes p e below _ T267 (mkF m 159 #[.val (.int p0), .val (.int p1), .val (.int p2), .val (.int p3), .val (.int p4), .val (.ref la), .val (.int (1 : Int32)), .val .null, .val (.int (0 : Int32)), .val (.ref oa), .val (.int (0 : Int32)), .val (.int cp), .val (.int ac), .val (.ref da), .unset, .unset, .unset, .unset] [(.ref a266)])
          have EI267 := own_ext3 Ex266 K267 (fun x hx => by rw [List.mem_singleton.mp hx, g266]; exact Nat.le_refl _)
          have S_cs_268 := S_cs_265.ext EI267
          have S_la_268 := S_la_265.ext EI267
          have S_oa_268 := S_oa_265.ext EI267
          have S_da_268 := Sda.ext EI267
          have H268 := CHv.ext EI267 H265
          have Zz268 : n0 ≤ _ := Nat.le_trans Zz265 EI267.1
          have hk := Nat.le_trans hk EI267.1
          refine g_astore (i := 14) X267 hx #[.val (.int p0), .val (.int p1), .val (.int p2), .val (.int p3), .val (.int p4), .val (.ref la), .val (.int (1 : Int32)), .val .null, .val (.int (0 : Int32)), .val (.ref oa), .val (.int (0 : Int32)), .val (.int cp), .val (.int ac), .val (.ref da), .val (.ref a266), .unset, .unset, .unset] (hb hby at_159) rfl rfl rfl ?_
          refine g_aload (i := 14) X267 hx (hb hby at_161) (by rfl) rfl rfl ?_
          refine g_aload (i := 13) X267 hx (hb hby at_163) (by rfl) rfl rfl ?_
          refine g_callV X267 hx hZ hown (wd hw 39 rfl) (wd hw 40 rfl) (wd hw 42 rfl) (wd hw 41 rfl) (wd hw 28 rfl) (wd hw 43 rfl) (by decide) rfl a266 Ei267 (rm_at_nr l Z a0 hw a266 la 0 oa oab da dab [ac.toInt8.toInt32] [((p2 &&& (255 : Int32)).toUInt32.toUInt16.toUInt32.toInt32).toInt8.toInt32] T267.heap n0 Zz268 cs S_cs_268 hcs Ei267 G1_267 G2_267 G3_267 S_da_268 S_oa_268 (fun q => absurd lto (by rw [← q]; exact Nat.not_lt.mpr gda)) (by simp) (by simp)) (by rw [hml]; rfl) [(.ref da)] [] rfl (lenOf pd_227 rfl) rfl (by show 0 + (2 + 11) + 28 ≤ _; decide) (by decide) (by decide) (by decide) (hb hby at_165) rfl ?_
          intro T269 v269 L269 X269 hQ269
          obtain ⟨r, rfl, N269, E269, hor⟩ := hQ269
          have N269 := Fr.app N267 N269
          show Goes p e below _ T269 (mkF m 168 #[.val (.int p0), .val (.int p1), .val (.int p2), .val (.int p3), .val (.int p4), .val (.ref la), .val (.int (1 : Int32)), .val .null, .val (.int (0 : Int32)), .val (.ref oa), .val (.int (0 : Int32)), .val (.int cp), .val (.int ac), .val (.ref da), .val (.ref a266), .unset, .unset, .unset] [(.ref r)])
          have S_cs_270 := S_cs_268.ext E269
          have S_la_270 := S_la_268.ext E269
          have S_oa_270 := S_oa_268.ext E269
          have S_da_270 := S_da_268.ext E269
          have IE_270 := Ei267.ext E269
          have Ilabel_270 := G1_267.ext E269
          have Ipart_270 := G2_267.ext E269
          have Iorigin_270 := G3_267.ext E269
          have H270 := CHv.ext E269 H268
          have Zz270 : n0 ≤ _ := Nat.le_trans Zz268 E269.1
          have hk := Nat.le_trans hk E269.1
          refine g_astore (i := 15) X269 hx #[.val (.int p0), .val (.int p1), .val (.int p2), .val (.int p3), .val (.int p4), .val (.ref la), .val (.int (1 : Int32)), .val .null, .val (.int (0 : Int32)), .val (.ref oa), .val (.int (0 : Int32)), .val (.int cp), .val (.int ac), .val (.ref da), .val (.ref a266), .val (.ref r), .unset, .unset] (hb hby at_168) rfl rfl rfl ?_
          refine g_iload (i := 10) X269 hx (hb hby at_170) (by rfl) rfl ?_
          refine g_if_eq X269 hx (hb hby at_172) (by decide) (pt := 188) (by decide) rfl (fun _ => ?_) (fun q_ => absurd (by decide) q_)
          refine g_iload (i := 8) X269 hx (hb hby at_188) (by rfl) rfl ?_
          refine g_if_ne X269 hx (hb hby at_190) (by decide) (pt := 215) (by decide) rfl (fun q_ => absurd (by decide) q_) (fun _ => ?_)
          refine g_iload (i := 11) X269 hx (hb hby at_193) (by rfl) rfl ?_
          refine g_if_ne X269 hx (hb hby at_195) (by decide) (pt := 211) (by decide) rfl (fun qc => ?_) (fun qc => ?_)
          · have hbe : [ac.toInt8.toInt32] = [((p2 &&& (255 : Int32)).toUInt32.toUInt16.toUInt32.toInt32).toInt8.toInt32] := by rw [(hca.resolve_right (fun r => qc r.1)).2]
            obtain ⟨hreq, -⟩ := hor.resolve_right (fun r => r.2.1 (hbe))
            refine g_iconst (v := (1 : Int32)) X269 hx (hb hby at_211) (by decide) rfl ?_
            refine g_goto X269 hx (hb hby at_212) (by decide) (by decide) (pc' := 216) ?_
            refine g_istore (i := 16) X269 hx #[.val (.int p0), .val (.int p1), .val (.int p2), .val (.int p3), .val (.int p4), .val (.ref la), .val (.int (1 : Int32)), .val .null, .val (.int (0 : Int32)), .val (.ref oa), .val (.int (0 : Int32)), .val (.int cp), .val (.int ac), .val (.ref da), .val (.ref a266), .val (.ref r), .val (.int (1 : Int32)), .unset] (hb hby at_216) rfl rfl ?_
            refine g_iload (i := 16) X269 hx (hb hby at_218) (by rfl) rfl ?_
            refine g_if_eq X269 hx (hb hby at_220) (by decide) (pt := 236) (by decide) rfl (fun q_ => absurd q_ (by decide)) (fun _ => ?_)
            refine g_aload (i := 15) X269 hx (hb hby at_223) (by rfl) rfl rfl ?_
            refine g_aload (i := 14) X269 hx (hb hby at_225) (by rfl) rfl rfl ?_
            refine g_acmp_ne X269 hx (hb hby at_227) rfl rfl (by decide) (pt := 234) (by decide) rfl (fun q_ => absurd (congrArg Value.ref hreq) q_) (fun _ => ?_)
            refine g_iconst (v := (1 : Int32)) X269 hx (hb hby at_230) (by decide) rfl ?_
            refine g_goto X269 hx (hb hby at_231) (by decide) (by decide) (pc' := 235) ?_
            exact g_retNW X269 hx (t := .boolean) (by simp) hlk hret rfl hS hk (by decide) (by decide) (hb hby at_235) ⟨rfl, N269⟩
          · refine g_iload_n (i := 2) X269 hx (hb hby at_198) (by rfl) rfl ?_
            refine g_sipush (v := (255 : Int32)) X269 hx (hb hby at_199) (by decide) rfl ?_
            refine g_iand X269 hx (hb hby at_202) rfl ?_
            refine g_iload_n (i := 3) X269 hx (hb hby at_203) (by rfl) rfl ?_
            refine g_sipush (v := (255 : Int32)) X269 hx (hb hby at_204) (by decide) rfl ?_
            refine g_iand X269 hx (hb hby at_207) rfl ?_
            have hac3 := (hca.resolve_left (fun r => r.1 qc)).2
            refine g_icmp_ne X269 hx (hb hby at_208) (by decide) (pt := 215) (by decide) rfl (fun qe => ?_) (fun qe => ?_)
            · obtain ⟨hra, -, RE, Rl, Rp, Ro⟩ := hor.resolve_left (fun r => qe (own_inj _ _ (by have := r.2; rw [hac3] at this; exact (List.cons.inj this).1.symm)))
              refine g_iconst (v := (0 : Int32)) X269 hx (hb hby at_215) (by decide) rfl ?_
              refine g_istore (i := 16) X269 hx #[.val (.int p0), .val (.int p1), .val (.int p2), .val (.int p3), .val (.int p4), .val (.ref la), .val (.int (1 : Int32)), .val .null, .val (.int (0 : Int32)), .val (.ref oa), .val (.int (0 : Int32)), .val (.int cp), .val (.int ac), .val (.ref da), .val (.ref a266), .val (.ref r), .val (.int (0 : Int32)), .unset] (hb hby at_216) rfl rfl ?_
              refine g_iload (i := 16) X269 hx (hb hby at_218) (by rfl) rfl ?_
              refine g_if_eq X269 hx (hb hby at_220) (by decide) (pt := 236) (by decide) rfl (fun _ => ?_) (fun q_ => absurd (by decide) q_)
              refine g_aload (i := 15) X269 hx (hb hby at_236) (by rfl) rfl rfl ?_
              refine g_aload (i := 14) X269 hx (hb hby at_238) (by rfl) rfl rfl ?_
              refine g_acmp_eq X269 hx (hb hby at_240) rfl rfl (by decide) (pt := 248) (by decide) rfl (fun q_ => absurd q_ (fun q => hra (Value.ref.inj q))) (fun _ => ?_)
              refine g_aload (i := 15) X269 hx (hb hby at_243) (by rfl) rfl rfl ?_
              refine g_ifnonnull_t X269 hx (hb hby at_245) (by decide) (pt := 250) (by decide) ?_
              refine g_aload (i := 15) X269 hx (hb hby at_250) (by rfl) rfl rfl ?_
              refine g_callV X269 hx hZ hown (wd hw 54 rfl) (wd hw 55 rfl) (wd hw 57 rfl) (wd hw 56 rfl) (wd hw 28 rfl) (wd hw 58 rfl) (by decide) rfl r RE (rm_gp_n l Z a0 hw r 0 T269.heap Rp) (by rw [hml]; rfl) [] [] rfl (lenOf pd_172 rfl) rfl (by show 0 + (1 + 11) + 0 ≤ _; decide) (by decide) (by decide) (by decide) (hb hby at_252) rfl ?_
              intro T271 v271 L271 X271 hQ271
              obtain ⟨rfl, rfl, e271⟩ := hQ271
              have N271 := Fr.app N269 (Fr.nil n0)
              show Goes p e below _ T271 (mkF m 255 #[.val (.int p0), .val (.int p1), .val (.int p2), .val (.int p3), .val (.int p4), .val (.ref la), .val (.int (1 : Int32)), .val .null, .val (.int (0 : Int32)), .val (.ref oa), .val (.int (0 : Int32)), .val (.int cp), .val (.int ac), .val (.ref da), .val (.ref a266), .val (.ref r), .val (.int (0 : Int32)), .unset] [.null])
              refine g_aload (i := 7) X271 hx (hb hby at_255) (by rfl) rfl rfl ?_
              refine g_acmp_eq X271 hx (hb hby at_257) rfl rfl (by decide) (pt := 262) (by decide) rfl (fun _ => ?_) (fun q_ => absurd (rfl) q_)
              refine g_new X271 hx hZ hown (wd hw 26 rfl) (wd hw 27 rfl) (wd hw 28 rfl) e271 (hb hby at_262) rfl (by decide) (by decide) ?_
              intro T272 h272 a272 X272 e272 g272 Ex272 E272 D272
              have F272_label : Fld Z h272 a272 "com/example/wireup/wireup/Item" "label" "Ljava/lang/String;" .null := D272 (Or.inr (wd hw 34 rfl)) (ty := (.object "java/lang/String")) (by decide)
              have F272_part : Fld Z h272 a272 "com/example/wireup/wireup/Item" "part" "Ljava/lang/String;" .null := D272 (Or.inr (wd hw 36 rfl)) (ty := (.object "java/lang/String")) (by decide)
              have F272_origin : Fld Z h272 a272 "com/example/wireup/wireup/Item" "origin" "Ljava/lang/String;" .null := D272 (Or.inr (wd hw 38 rfl)) (ty := (.object "java/lang/String")) (by decide)
              have gi272 : n0 ≤ a272 := by rw [g272]; exact Zz270
              refine g_dup X272 hx (hb hby at_265) rfl rfl ?_
              refine g_aload (i := 5) X272 hx (hb hby at_266) (by rfl) rfl rfl ?_
              refine g_aload (i := 7) X272 hx (hb hby at_268) (by rfl) rfl rfl ?_
              refine g_aload (i := 13) X272 hx (hb hby at_270) (by rfl) rfl rfl ?_
              refine g_callI X272 hx hZ rfl hown (wd hw 29 rfl) (wd hw 30 rfl) (wd hw 28 rfl) (wd hw 31 rfl) (by decide) e272 (rm_it_nr l Z a0 hw a272 la 0 da h272 n0 gi272 E272 F272_label F272_part F272_origin) (by rw [hml]; rfl) a272 [(.ref la), .null, (.ref da)] [(.ref a272)] rfl (lenOf pd_125 rfl) rfl (by show 1 + (4 + 11) + 12 ≤ _; decide) (by decide) (by decide) (by decide) (hb hby at_272) rfl ?_
              intro T273 v273 L273 X273 hQ273
              obtain ⟨rfl, N273, K273, Ei273, G1_273, G2_273, G3_273⟩ := hQ273
              have N273 := Fr.app N271 N273
              show Goes p e below _ T273 (mkF m 275 #[.val (.int p0), .val (.int p1), .val (.int p2), .val (.int p3), .val (.int p4), .val (.ref la), .val (.int (1 : Int32)), .val .null, .val (.int (0 : Int32)), .val (.ref oa), .val (.int (0 : Int32)), .val (.int cp), .val (.int ac), .val (.ref da), .val (.ref a266), .val (.ref r), .val (.int (0 : Int32)), .unset] [(.ref a272)])
              have EI273 := own_ext3 Ex272 K273 (fun x hx => by rw [List.mem_singleton.mp hx, g272]; exact Nat.le_refl _)
              have S_cs_274 := S_cs_270.ext EI273
              have S_la_274 := S_la_270.ext EI273
              have S_oa_274 := S_oa_270.ext EI273
              have S_da_274 := S_da_270.ext EI273
              have IE_274 := IE_270.ext EI273
              have Ilabel_274 := Ilabel_270.ext EI273
              have Ipart_274 := Ipart_270.ext EI273
              have Iorigin_274 := Iorigin_270.ext EI273
              have RE_274 := RE.ext EI273
              have Rlabel_274 := Rl.ext EI273
              have Rpart_274 := Rp.ext EI273
              have Rorigin_274 := Ro.ext EI273
              have H274 := CHv.ext EI273 H270
              have Zz274 : n0 ≤ _ := Nat.le_trans Zz270 EI273.1
              have hk := Nat.le_trans hk EI273.1
              refine g_callVH X273 hx hZ hown (wd hw 59 rfl) (wd hw 60 rfl) (wd hw 62 rfl) (wd hw 61 rfl) (wd hw 28 rfl) (wd hw 63 rfl) (by decide) rfl hS hk (own_EW hw) H274 a272 Ei273 (rm_ds_n l Z a0 hw a272 la lab 0 0 da dab [((p0 &&& (255 : Int32)).toUInt32.toUInt16.toUInt32.toInt32).toInt8.toInt32] [0] [ac.toInt8.toInt32] T273.heap n0 Zz274 cs S_cs_274 hcs G1_273 G2_273 G3_273 S_la_274 S_da_274 rfl rfl rfl) (by rw [hml]; rfl) [] [] rfl (lenOf pd_172 rfl) rfl (by show 0 + (1 + 11) + 91 ≤ _; decide) (by decide) (by decide) (by decide) (hb hby at_275) rfl ?_
              intro T275 v275 L275 k275 X275 hQ275 Rc275 hS hk hZ hown
              obtain ⟨ra275, rb275, rfl, N275, E275, gr275, SR275⟩ := hQ275
              have N275 := Fr.app N273 N275
              show Goes p e below _ T275 (mkF m 278 #[.val (.int p0), .val (.int p1), .val (.int p2), .val (.int p3), .val (.int p4), .val (.ref la), .val (.int (1 : Int32)), .val .null, .val (.int (0 : Int32)), .val (.ref oa), .val (.int (0 : Int32)), .val (.int cp), .val (.int ac), .val (.ref da), .val (.ref a266), .val (.ref r), .val (.int (0 : Int32)), .unset] [(.ref ra275)])
              have S_cs_276 := S_cs_274.ext E275
              have S_la_276 := S_la_274.ext E275
              have S_oa_276 := S_oa_274.ext E275
              have S_da_276 := S_da_274.ext E275
              have IE_276 := IE_274.ext E275
              have Ilabel_276 := Ilabel_274.ext E275
              have Ipart_276 := Ipart_274.ext E275
              have Iorigin_276 := Iorigin_274.ext E275
              have RE_276 := RE_274.ext E275
              have Rlabel_276 := Rlabel_274.ext E275
              have Rpart_276 := Rpart_274.ext E275
              have Rorigin_276 := Rorigin_274.ext E275
              have QE_276 := Ei273.ext E275
              have Qlabel_276 := G1_273.ext E275
              have Qpart_276 := G2_273.ext E275
              have Qorigin_276 := G3_273.ext E275
              have Zz276 : n0 ≤ _ := Nat.le_trans Zz274 E275.1
              have ltq := SR275.1.lt
              refine g_astore (i := 17) X275 hx #[.val (.int p0), .val (.int p1), .val (.int p2), .val (.int p3), .val (.int p4), .val (.ref la), .val (.int (1 : Int32)), .val .null, .val (.int (0 : Int32)), .val (.ref oa), .val (.int (0 : Int32)), .val (.int cp), .val (.int ac), .val (.ref da), .val (.ref a266), .val (.ref r), .val (.int (0 : Int32)), .val (.ref ra275)] (hb hby at_278) rfl rfl rfl ?_
              refine g_aload (i := 15) X275 hx (hb hby at_280) (by rfl) rfl rfl ?_
              refine g_callVH X275 hx hZ hown (wd hw 59 rfl) (wd hw 60 rfl) (wd hw 62 rfl) (wd hw 61 rfl) (wd hw 28 rfl) (wd hw 63 rfl) (by decide) rfl hS hk (own_EW hw) Rc275.1 r RE_276 (rm_ds_n l Z a0 hw r la lab 0 0 da dab [((p0 &&& (255 : Int32)).toUInt32.toUInt16.toUInt32.toInt32).toInt8.toInt32] [0] [ac.toInt8.toInt32] T275.heap n0 Zz276 cs S_cs_276 hcs Rlabel_276 Rpart_276 Rorigin_276 S_la_276 S_da_276 rfl rfl rfl) (by rw [hml]; rfl) [] [] rfl (lenOf pd_172 rfl) rfl (by show 0 + (1 + 11) + 91 ≤ _; decide) (by decide) (by decide) (by decide) (hb hby at_282) rfl ?_
              intro T277 v277 L277 k277 X277 hQ277 Rc277 hS hk hZ hown
              obtain ⟨ra277, rb277, rfl, N277, E277, gr277, SR277⟩ := hQ277
              have N277 := Fr.app N275 N277
              show Goes p e below _ T277 (mkF m 285 #[.val (.int p0), .val (.int p1), .val (.int p2), .val (.int p3), .val (.int p4), .val (.ref la), .val (.int (1 : Int32)), .val .null, .val (.int (0 : Int32)), .val (.ref oa), .val (.int (0 : Int32)), .val (.int cp), .val (.int ac), .val (.ref da), .val (.ref a266), .val (.ref r), .val (.int (0 : Int32)), .val (.ref ra275)] [(.ref ra277)])
              have S_cs_278 := S_cs_276.ext E277
              have S_la_278 := S_la_276.ext E277
              have S_oa_278 := S_oa_276.ext E277
              have S_da_278 := S_da_276.ext E277
              have IE_278 := IE_276.ext E277
              have Ilabel_278 := Ilabel_276.ext E277
              have Ipart_278 := Ipart_276.ext E277
              have Iorigin_278 := Iorigin_276.ext E277
              have RE_278 := RE_276.ext E277
              have Rlabel_278 := Rlabel_276.ext E277
              have Rpart_278 := Rpart_276.ext E277
              have Rorigin_278 := Rorigin_276.ext E277
              have QE_278 := QE_276.ext E277
              have Qlabel_278 := Qlabel_276.ext E277
              have Qpart_278 := Qpart_276.ext E277
              have Qorigin_278 := Qorigin_276.ext E277
              have SR275_278 := SR275.ext E277
              have Zz278 : n0 ≤ _ := Nat.le_trans Zz276 E277.1
              refine g_aload (i := 17) X277 hx (hb hby at_285) (by rfl) rfl rfl ?_
              refine g_callV X277 hx hZ hown (wd hw 179 rfl) (wd hw 45 rfl) (wd hw 47 rfl) (wd hw 46 rfl) (wd hw 2 rfl) (wd hw 48 rfl) (by decide) rfl ra277 SR277.1 (rm_seq l Z a0 hw ra277 rb277 ra275 rb275 _ _ T277.heap cs S_cs_278 hcs SR277 SR275_278 (fun q => absurd ltq (by rw [← q]; exact Nat.not_lt.mpr gr277)) (by simp only [List.length_append, List.length_cons, List.length_nil]; omega) (by simp only [List.length_append, List.length_cons, List.length_nil]; omega)) (by rw [hml]; rfl) [(.ref ra275)] [] rfl (lenOf pd_121 rfl) rfl (by show 0 + (3 + 11) + 14 ≤ _; decide) (by decide) (by decide) (by decide) (hb hby at_287) rfl ?_
              intro T279 v279 L279 X279 hQ279
              obtain ⟨rfl, rfl, e279⟩ := hQ279
              have N279 := Fr.app N277 (Fr.nil n0)
              show Goes p e below _ T279 (mkF m 290 #[.val (.int p0), .val (.int p1), .val (.int p2), .val (.int p3), .val (.int p4), .val (.ref la), .val (.int (1 : Int32)), .val .null, .val (.int (0 : Int32)), .val (.ref oa), .val (.int (0 : Int32)), .val (.int cp), .val (.int ac), .val (.ref da), .val (.ref a266), .val (.ref r), .val (.int (0 : Int32)), .val (.ref ra275)] [(.int _)])
              exact g_retNW X279 hx (t := .boolean) (by simp) hlk hret e279 hS hk (by decide) (by decide) (hb hby at_290) ⟨by rw [if_pos rfl]; rfl, N279⟩
            · have hbe : [ac.toInt8.toInt32] = [((p2 &&& (255 : Int32)).toUInt32.toUInt16.toUInt32.toInt32).toInt8.toInt32] := by rw [hac3, qe]
              obtain ⟨hreq, -⟩ := hor.resolve_right (fun r => r.2.1 (hbe))
              refine g_iconst (v := (1 : Int32)) X269 hx (hb hby at_211) (by decide) rfl ?_
              refine g_goto X269 hx (hb hby at_212) (by decide) (by decide) (pc' := 216) ?_
              refine g_istore (i := 16) X269 hx #[.val (.int p0), .val (.int p1), .val (.int p2), .val (.int p3), .val (.int p4), .val (.ref la), .val (.int (1 : Int32)), .val .null, .val (.int (0 : Int32)), .val (.ref oa), .val (.int (0 : Int32)), .val (.int cp), .val (.int ac), .val (.ref da), .val (.ref a266), .val (.ref r), .val (.int (1 : Int32)), .unset] (hb hby at_216) rfl rfl ?_
              refine g_iload (i := 16) X269 hx (hb hby at_218) (by rfl) rfl ?_
              refine g_if_eq X269 hx (hb hby at_220) (by decide) (pt := 236) (by decide) rfl (fun q_ => absurd q_ (by decide)) (fun _ => ?_)
              refine g_aload (i := 15) X269 hx (hb hby at_223) (by rfl) rfl rfl ?_
              refine g_aload (i := 14) X269 hx (hb hby at_225) (by rfl) rfl rfl ?_
              refine g_acmp_ne X269 hx (hb hby at_227) rfl rfl (by decide) (pt := 234) (by decide) rfl (fun q_ => absurd (congrArg Value.ref hreq) q_) (fun _ => ?_)
              refine g_iconst (v := (1 : Int32)) X269 hx (hb hby at_230) (by decide) rfl ?_
              refine g_goto X269 hx (hb hby at_231) (by decide) (by decide) (pc' := 235) ?_
              exact g_retNW X269 hx (t := .boolean) (by simp) hlk hret rfl hS hk (by decide) (by decide) (hb hby at_235) ⟨rfl, N269⟩
        refine g_iload (i := 4) X262 hx (hb hby at_94) (by rfl) rfl ?_
        refine g_iconst (v := (4 : Int32)) X262 hx (hb hby at_96) (by decide) rfl ?_
        refine g_iand X262 hx (hb hby at_97) rfl ?_
        refine g_if_eq X262 hx (hb hby at_98) (by decide) (pt := 105) (by decide) rfl (fun qk => ?_) (fun qk => ?_)
        · refine g_iconst (v := (0 : Int32)) X262 hx (hb hby at_105) (by decide) rfl ?_
          refine g_istore (i := 11) X262 hx #[.val (.int p0), .val (.int p1), .val (.int p2), .val (.int p3), .val (.int p4), .val (.ref la), .val (.int (1 : Int32)), .val .null, .val (.int (0 : Int32)), .val (.ref oa), .val (.int (0 : Int32)), .val (.int (0 : Int32)), .unset, .unset, .unset, .unset, .unset, .unset] (hb hby at_106) rfl rfl ?_
          refine g_iload (i := 11) X262 hx (hb hby at_108) (by rfl) rfl ?_
          refine g_if_eq X262 hx (hb hby at_110) (by decide) (pt := 122) (by decide) rfl (fun _ => ?_) (fun q_ => absurd (by decide) q_)
          refine g_iload_n (i := 3) X262 hx (hb hby at_122) (by rfl) rfl ?_
          refine g_sipush (v := (255 : Int32)) X262 hx (hb hby at_123) (by decide) rfl ?_
          refine g_iand X262 hx (hb hby at_126) rfl ?_
          refine g_i2c X262 hx (hb hby at_127) rfl ?_
          refine g_istore (i := 12) X262 hx #[.val (.int p0), .val (.int p1), .val (.int p2), .val (.int p3), .val (.int p4), .val (.ref la), .val (.int (1 : Int32)), .val .null, .val (.int (0 : Int32)), .val (.ref oa), .val (.int (0 : Int32)), .val (.int (0 : Int32)), .val (.int (p3 &&& (255 : Int32)).toUInt32.toUInt16.toUInt32.toInt32), .unset, .unset, .unset, .unset, .unset] (hb hby at_128) rfl rfl ?_
          exact J130 _ _ (Or.inr ⟨rfl, rfl⟩)
        · refine g_iconst (v := (1 : Int32)) X262 hx (hb hby at_101) (by decide) rfl ?_
          refine g_goto X262 hx (hb hby at_102) (by decide) (by decide) (pc' := 106) ?_
          refine g_istore (i := 11) X262 hx #[.val (.int p0), .val (.int p1), .val (.int p2), .val (.int p3), .val (.int p4), .val (.ref la), .val (.int (1 : Int32)), .val .null, .val (.int (0 : Int32)), .val (.ref oa), .val (.int (0 : Int32)), .val (.int (1 : Int32)), .unset, .unset, .unset, .unset, .unset, .unset] (hb hby at_106) rfl rfl ?_
          refine g_iload (i := 11) X262 hx (hb hby at_108) (by rfl) rfl ?_
          refine g_if_eq X262 hx (hb hby at_110) (by decide) (pt := 122) (by decide) rfl (fun q_ => absurd q_ (by decide)) (fun _ => ?_)
          refine g_iload_n (i := 2) X262 hx (hb hby at_113) (by rfl) rfl ?_
          refine g_sipush (v := (255 : Int32)) X262 hx (hb hby at_114) (by decide) rfl ?_
          refine g_iand X262 hx (hb hby at_117) rfl ?_
          refine g_i2c X262 hx (hb hby at_118) rfl ?_
          refine g_goto X262 hx (hb hby at_119) (by decide) (by decide) (pc' := 128) ?_
          refine g_istore (i := 12) X262 hx #[.val (.int p0), .val (.int p1), .val (.int p2), .val (.int p3), .val (.int p4), .val (.ref la), .val (.int (1 : Int32)), .val .null, .val (.int (0 : Int32)), .val (.ref oa), .val (.int (0 : Int32)), .val (.int (1 : Int32)), .val (.int (p2 &&& (255 : Int32)).toUInt32.toUInt16.toUInt32.toInt32), .unset, .unset, .unset, .unset, .unset] (hb hby at_128) rfl rfl ?_
          exact J130 _ _ (Or.inl ⟨by decide, rfl⟩)
      · refine g_iconst (v := (1 : Int32)) X262 hx (hb hby at_87) (by decide) rfl ?_
        refine g_goto X262 hx (hb hby at_88) (by decide) (by decide) (pc' := 92) ?_
        refine g_istore (i := 10) X262 hx #[.val (.int p0), .val (.int p1), .val (.int p2), .val (.int p3), .val (.int p4), .val (.ref la), .val (.int (1 : Int32)), .val .null, .val (.int (0 : Int32)), .val (.ref oa), .val (.int (1 : Int32)), .unset, .unset, .unset, .unset, .unset, .unset, .unset] (hb hby at_92) rfl rfl ?_
        have J130 : ∀ (cp ac : Int32), (¬ cp = 0 ∧ ac = ((p2 &&& (255 : Int32)).toUInt32.toUInt16.toUInt32.toInt32)) ∨ (cp = 0 ∧ ac = ((p3 &&& (255 : Int32)).toUInt32.toUInt16.toUInt32.toInt32)) → Goes p e below (KW s 72 3456 (fun v h L => v = some (.int 1) ∧ Fr n0 L)) T262 (mkF m 130 #[.val (.int p0), .val (.int p1), .val (.int p2), .val (.int p3), .val (.int p4), .val (.ref la), .val (.int (1 : Int32)), .val .null, .val (.int (0 : Int32)), .val (.ref oa), .val (.int (1 : Int32)), .val (.int cp), .val (.int ac), .unset, .unset, .unset, .unset, .unset] []) := by
          intro cp ac hca
          refine g_iload (i := 10) X262 hx (hb hby at_130) (by rfl) rfl ?_
          refine g_if_eq X262 hx (hb hby at_132) (by decide) (pt := 139) (by decide) rfl (fun q_ => absurd q_ (by decide)) (fun _ => ?_)
          refine g_aconst_null X262 hx (hb hby at_135) rfl ?_
          refine g_goto X262 hx (hb hby at_136) (by decide) (by decide) (pc' := 144) ?_
          refine g_astore (i := 13) X262 hx #[.val (.int p0), .val (.int p1), .val (.int p2), .val (.int p3), .val (.int p4), .val (.ref la), .val (.int (1 : Int32)), .val .null, .val (.int (0 : Int32)), .val (.ref oa), .val (.int (1 : Int32)), .val (.int cp), .val (.int ac), .val .null, .unset, .unset, .unset, .unset] (hb hby at_144) rfl rfl rfl ?_
          refine g_new X262 hx hZ hown (wd hw 26 rfl) (wd hw 27 rfl) (wd hw 28 rfl) rfl (hb hby at_146) rfl (by decide) (by decide) ?_
          intro T280 h280 a280 X280 e280 g280 Ex280 E280 D280
          have F280_label : Fld Z h280 a280 "com/example/wireup/wireup/Item" "label" "Ljava/lang/String;" .null := D280 (Or.inr (wd hw 34 rfl)) (ty := (.object "java/lang/String")) (by decide)
          have F280_part : Fld Z h280 a280 "com/example/wireup/wireup/Item" "part" "Ljava/lang/String;" .null := D280 (Or.inr (wd hw 36 rfl)) (ty := (.object "java/lang/String")) (by decide)
          have F280_origin : Fld Z h280 a280 "com/example/wireup/wireup/Item" "origin" "Ljava/lang/String;" .null := D280 (Or.inr (wd hw 38 rfl)) (ty := (.object "java/lang/String")) (by decide)
          have gi280 : n0 ≤ a280 := by rw [g280]; exact Zz263
          refine g_dup X280 hx (hb hby at_149) rfl rfl ?_
          refine g_aload (i := 5) X280 hx (hb hby at_150) (by rfl) rfl rfl ?_
          refine g_aload (i := 7) X280 hx (hb hby at_152) (by rfl) rfl rfl ?_
          refine g_aload (i := 9) X280 hx (hb hby at_154) (by rfl) rfl rfl ?_
          refine g_callI X280 hx hZ rfl hown (wd hw 29 rfl) (wd hw 30 rfl) (wd hw 28 rfl) (wd hw 31 rfl) (by decide) e280 (rm_it_nr l Z a0 hw a280 la 0 oa h280 n0 gi280 E280 F280_label F280_part F280_origin) (by rw [hml]; rfl) a280 [(.ref la), .null, (.ref oa)] [(.ref a280)] rfl (lenOf pd_125 rfl) rfl (by show 1 + (4 + 11) + 12 ≤ _; decide) (by decide) (by decide) (by decide) (hb hby at_156) rfl ?_
          intro T281 v281 L281 X281 hQ281
          obtain ⟨rfl, N281, K281, Ei281, G1_281, G2_281, G3_281⟩ := hQ281
          have N281 := Fr.app N262 N281
          show Goes p e below _ T281 (mkF m 159 #[.val (.int p0), .val (.int p1), .val (.int p2), .val (.int p3), .val (.int p4), .val (.ref la), .val (.int (1 : Int32)), .val .null, .val (.int (0 : Int32)), .val (.ref oa), .val (.int (1 : Int32)), .val (.int cp), .val (.int ac), .val .null, .unset, .unset, .unset, .unset] [(.ref a280)])
          have EI281 := own_ext3 Ex280 K281 (fun x hx => by rw [List.mem_singleton.mp hx, g280]; exact Nat.le_refl _)
          have S_cs_282 := S_cs_263.ext EI281
          have S_la_282 := S_la_263.ext EI281
          have S_oa_282 := Soa.ext EI281
          have H282 := CHv.ext EI281 H263
          have Zz282 : n0 ≤ _ := Nat.le_trans Zz263 EI281.1
          have hk := Nat.le_trans hk EI281.1
          refine g_astore (i := 14) X281 hx #[.val (.int p0), .val (.int p1), .val (.int p2), .val (.int p3), .val (.int p4), .val (.ref la), .val (.int (1 : Int32)), .val .null, .val (.int (0 : Int32)), .val (.ref oa), .val (.int (1 : Int32)), .val (.int cp), .val (.int ac), .val .null, .val (.ref a280), .unset, .unset, .unset] (hb hby at_159) rfl rfl rfl ?_
          refine g_aload (i := 14) X281 hx (hb hby at_161) (by rfl) rfl rfl ?_
          refine g_aload (i := 13) X281 hx (hb hby at_163) (by rfl) rfl rfl ?_
          refine g_callV X281 hx hZ hown (wd hw 39 rfl) (wd hw 40 rfl) (wd hw 42 rfl) (wd hw 41 rfl) (wd hw 28 rfl) (wd hw 43 rfl) (by decide) rfl a280 Ei281 (rm_at0 l Z a0 hw a280 T281.heap) (by rw [hml]; rfl) [.null] [] rfl (lenOf pd_227 rfl) rfl (by show 0 + (2 + 11) + 0 ≤ _; decide) (by decide) (by decide) (by decide) (hb hby at_165) rfl ?_
          intro T283 v283 L283 X283 hQ283
          obtain ⟨rfl, rfl, e283⟩ := hQ283
          have N283 := Fr.app N281 (Fr.nil n0)
          show Goes p e below _ T283 (mkF m 168 #[.val (.int p0), .val (.int p1), .val (.int p2), .val (.int p3), .val (.int p4), .val (.ref la), .val (.int (1 : Int32)), .val .null, .val (.int (0 : Int32)), .val (.ref oa), .val (.int (1 : Int32)), .val (.int cp), .val (.int ac), .val .null, .val (.ref a280), .unset, .unset, .unset] [(.ref a280)])
          refine g_astore (i := 15) X283 hx #[.val (.int p0), .val (.int p1), .val (.int p2), .val (.int p3), .val (.int p4), .val (.ref la), .val (.int (1 : Int32)), .val .null, .val (.int (0 : Int32)), .val (.ref oa), .val (.int (1 : Int32)), .val (.int cp), .val (.int ac), .val .null, .val (.ref a280), .val (.ref a280), .unset, .unset] (hb hby at_168) rfl rfl rfl ?_
          refine g_iload (i := 10) X283 hx (hb hby at_170) (by rfl) rfl ?_
          refine g_if_eq X283 hx (hb hby at_172) (by decide) (pt := 188) (by decide) rfl (fun q_ => absurd q_ (by decide)) (fun _ => ?_)
          refine g_aload (i := 15) X283 hx (hb hby at_175) (by rfl) rfl rfl ?_
          refine g_aload (i := 14) X283 hx (hb hby at_177) (by rfl) rfl rfl ?_
          refine g_acmp_ne X283 hx (hb hby at_179) rfl rfl (by decide) (pt := 186) (by decide) rfl (fun q_ => absurd (rfl) q_) (fun _ => ?_)
          refine g_iconst (v := (1 : Int32)) X283 hx (hb hby at_182) (by decide) rfl ?_
          refine g_goto X283 hx (hb hby at_183) (by decide) (by decide) (pc' := 187) ?_
          exact g_retNW X283 hx (t := .boolean) (by simp) hlk hret e283 hS hk (by decide) (by decide) (hb hby at_187) ⟨rfl, N283⟩
        refine g_iload (i := 4) X262 hx (hb hby at_94) (by rfl) rfl ?_
        refine g_iconst (v := (4 : Int32)) X262 hx (hb hby at_96) (by decide) rfl ?_
        refine g_iand X262 hx (hb hby at_97) rfl ?_
        refine g_if_eq X262 hx (hb hby at_98) (by decide) (pt := 105) (by decide) rfl (fun qk => ?_) (fun qk => ?_)
        · refine g_iconst (v := (0 : Int32)) X262 hx (hb hby at_105) (by decide) rfl ?_
          refine g_istore (i := 11) X262 hx #[.val (.int p0), .val (.int p1), .val (.int p2), .val (.int p3), .val (.int p4), .val (.ref la), .val (.int (1 : Int32)), .val .null, .val (.int (0 : Int32)), .val (.ref oa), .val (.int (1 : Int32)), .val (.int (0 : Int32)), .unset, .unset, .unset, .unset, .unset, .unset] (hb hby at_106) rfl rfl ?_
          refine g_iload (i := 11) X262 hx (hb hby at_108) (by rfl) rfl ?_
          refine g_if_eq X262 hx (hb hby at_110) (by decide) (pt := 122) (by decide) rfl (fun _ => ?_) (fun q_ => absurd (by decide) q_)
          refine g_iload_n (i := 3) X262 hx (hb hby at_122) (by rfl) rfl ?_
          refine g_sipush (v := (255 : Int32)) X262 hx (hb hby at_123) (by decide) rfl ?_
          refine g_iand X262 hx (hb hby at_126) rfl ?_
          refine g_i2c X262 hx (hb hby at_127) rfl ?_
          refine g_istore (i := 12) X262 hx #[.val (.int p0), .val (.int p1), .val (.int p2), .val (.int p3), .val (.int p4), .val (.ref la), .val (.int (1 : Int32)), .val .null, .val (.int (0 : Int32)), .val (.ref oa), .val (.int (1 : Int32)), .val (.int (0 : Int32)), .val (.int (p3 &&& (255 : Int32)).toUInt32.toUInt16.toUInt32.toInt32), .unset, .unset, .unset, .unset, .unset] (hb hby at_128) rfl rfl ?_
          exact J130 _ _ (Or.inr ⟨rfl, rfl⟩)
        · refine g_iconst (v := (1 : Int32)) X262 hx (hb hby at_101) (by decide) rfl ?_
          refine g_goto X262 hx (hb hby at_102) (by decide) (by decide) (pc' := 106) ?_
          refine g_istore (i := 11) X262 hx #[.val (.int p0), .val (.int p1), .val (.int p2), .val (.int p3), .val (.int p4), .val (.ref la), .val (.int (1 : Int32)), .val .null, .val (.int (0 : Int32)), .val (.ref oa), .val (.int (1 : Int32)), .val (.int (1 : Int32)), .unset, .unset, .unset, .unset, .unset, .unset] (hb hby at_106) rfl rfl ?_
          refine g_iload (i := 11) X262 hx (hb hby at_108) (by rfl) rfl ?_
          refine g_if_eq X262 hx (hb hby at_110) (by decide) (pt := 122) (by decide) rfl (fun q_ => absurd q_ (by decide)) (fun _ => ?_)
          refine g_iload_n (i := 2) X262 hx (hb hby at_113) (by rfl) rfl ?_
          refine g_sipush (v := (255 : Int32)) X262 hx (hb hby at_114) (by decide) rfl ?_
          refine g_iand X262 hx (hb hby at_117) rfl ?_
          refine g_i2c X262 hx (hb hby at_118) rfl ?_
          refine g_goto X262 hx (hb hby at_119) (by decide) (by decide) (pc' := 128) ?_
          refine g_istore (i := 12) X262 hx #[.val (.int p0), .val (.int p1), .val (.int p2), .val (.int p3), .val (.int p4), .val (.ref la), .val (.int (1 : Int32)), .val .null, .val (.int (0 : Int32)), .val (.ref oa), .val (.int (1 : Int32)), .val (.int (1 : Int32)), .val (.int (p2 &&& (255 : Int32)).toUInt32.toUInt16.toUInt32.toInt32), .unset, .unset, .unset, .unset, .unset] (hb hby at_128) rfl rfl ?_
          exact J130 _ _ (Or.inl ⟨by decide, rfl⟩)
    · refine g_iconst (v := (1 : Int32)) X216 hx (hb hby at_53) (by decide) rfl ?_
      refine g_goto X216 hx (hb hby at_54) (by decide) (by decide) (pc' := 58) ?_
      refine g_istore (i := 8) X216 hx #[.val (.int p0), .val (.int p1), .val (.int p2), .val (.int p3), .val (.int p4), .val (.ref la), .val (.int (1 : Int32)), .val .null, .val (.int (1 : Int32)), .unset, .unset, .unset, .unset, .unset, .unset, .unset, .unset, .unset] (hb hby at_58) rfl rfl ?_
      refine g_iload (i := 8) X216 hx (hb hby at_60) (by rfl) rfl ?_
      refine g_if_eq X216 hx (hb hby at_62) (by decide) (pt := 69) (by decide) rfl (fun q_ => absurd q_ (by decide)) (fun _ => ?_)
      refine g_aconst_null X216 hx (hb hby at_65) rfl ?_
      refine g_goto X216 hx (hb hby at_66) (by decide) (by decide) (pc' := 78) ?_
      refine g_astore (i := 9) X216 hx #[.val (.int p0), .val (.int p1), .val (.int p2), .val (.int p3), .val (.int p4), .val (.ref la), .val (.int (1 : Int32)), .val .null, .val (.int (1 : Int32)), .val .null, .unset, .unset, .unset, .unset, .unset, .unset, .unset, .unset] (hb hby at_78) rfl rfl rfl ?_
      refine g_iload (i := 4) X216 hx (hb hby at_80) (by rfl) rfl ?_
      refine g_iconst (v := (2 : Int32)) X216 hx (hb hby at_82) (by decide) rfl ?_
      refine g_iand X216 hx (hb hby at_83) rfl ?_
      refine g_if_eq X216 hx (hb hby at_84) (by decide) (pt := 91) (by decide) rfl (fun qn => ?_) (fun qn => ?_)
      · refine g_iconst (v := (0 : Int32)) X216 hx (hb hby at_91) (by decide) rfl ?_
        refine g_istore (i := 10) X216 hx #[.val (.int p0), .val (.int p1), .val (.int p2), .val (.int p3), .val (.int p4), .val (.ref la), .val (.int (1 : Int32)), .val .null, .val (.int (1 : Int32)), .val .null, .val (.int (0 : Int32)), .unset, .unset, .unset, .unset, .unset, .unset, .unset] (hb hby at_92) rfl rfl ?_
        have J130 : ∀ (cp ac : Int32), (¬ cp = 0 ∧ ac = ((p2 &&& (255 : Int32)).toUInt32.toUInt16.toUInt32.toInt32)) ∨ (cp = 0 ∧ ac = ((p3 &&& (255 : Int32)).toUInt32.toUInt16.toUInt32.toInt32)) → Goes p e below (KW s 72 3456 (fun v h L => v = some (.int 1) ∧ Fr n0 L)) T216 (mkF m 130 #[.val (.int p0), .val (.int p1), .val (.int p2), .val (.int p3), .val (.int p4), .val (.ref la), .val (.int (1 : Int32)), .val .null, .val (.int (1 : Int32)), .val .null, .val (.int (0 : Int32)), .val (.int cp), .val (.int ac), .unset, .unset, .unset, .unset, .unset] []) := by
          intro cp ac hca
          refine g_iload (i := 10) X216 hx (hb hby at_130) (by rfl) rfl ?_
          refine g_if_eq X216 hx (hb hby at_132) (by decide) (pt := 139) (by decide) rfl (fun _ => ?_) (fun q_ => absurd (by decide) q_)
          refine g_iload (i := 12) X216 hx (hb hby at_139) (by rfl) rfl ?_
          have hac : ac.toInt ≤ 255 := by rcases hca with ⟨-, r⟩ | ⟨-, r⟩ <;> rw [r, own_ch] <;> omega
          refine g_callS X216 hx hZ hown (wd hw 0 rfl) (wd hw 1 rfl) (wd hw 2 rfl) (wd hw 3 rfl) (by decide) rfl (rm_val l Z a0 hw ac T216.heap n0 Zz217 cs S_cs_217 hcs hac) (by rw [hml]; rfl) [(.int ac)] [] rfl (lenOf pd_216 rfl) rfl (by show 0 + (1 + 11) + 27 ≤ _; decide) (by decide) (by decide) (by decide) (hb hby at_141) rfl ?_
          intro T284 v284 L284 X284 hQ284
          obtain ⟨da, dab, rfl, N284, E284, gda, -, Sda⟩ := hQ284
          have N284 := Fr.app N216 N284
          show Goes p e below _ T284 (mkF m 144 #[.val (.int p0), .val (.int p1), .val (.int p2), .val (.int p3), .val (.int p4), .val (.ref la), .val (.int (1 : Int32)), .val .null, .val (.int (1 : Int32)), .val .null, .val (.int (0 : Int32)), .val (.int cp), .val (.int ac), .unset, .unset, .unset, .unset, .unset] [(.ref da)])
          have S_cs_285 := S_cs_217.ext E284
          have S_la_285 := Sla.ext E284
          have H285 := CHv.ext E284 H217
          have Zz285 : n0 ≤ _ := Nat.le_trans Zz217 E284.1
          have hk := Nat.le_trans hk E284.1
          refine g_astore (i := 13) X284 hx #[.val (.int p0), .val (.int p1), .val (.int p2), .val (.int p3), .val (.int p4), .val (.ref la), .val (.int (1 : Int32)), .val .null, .val (.int (1 : Int32)), .val .null, .val (.int (0 : Int32)), .val (.int cp), .val (.int ac), .val (.ref da), .unset, .unset, .unset, .unset] (hb hby at_144) rfl rfl rfl ?_
          refine g_new X284 hx hZ hown (wd hw 26 rfl) (wd hw 27 rfl) (wd hw 28 rfl) rfl (hb hby at_146) rfl (by decide) (by decide) ?_
          intro T286 h286 a286 X286 e286 g286 Ex286 E286 D286
          have F286_label : Fld Z h286 a286 "com/example/wireup/wireup/Item" "label" "Ljava/lang/String;" .null := D286 (Or.inr (wd hw 34 rfl)) (ty := (.object "java/lang/String")) (by decide)
          have F286_part : Fld Z h286 a286 "com/example/wireup/wireup/Item" "part" "Ljava/lang/String;" .null := D286 (Or.inr (wd hw 36 rfl)) (ty := (.object "java/lang/String")) (by decide)
          have F286_origin : Fld Z h286 a286 "com/example/wireup/wireup/Item" "origin" "Ljava/lang/String;" .null := D286 (Or.inr (wd hw 38 rfl)) (ty := (.object "java/lang/String")) (by decide)
          have gi286 : n0 ≤ a286 := by rw [g286]; exact Zz285
          refine g_dup X286 hx (hb hby at_149) rfl rfl ?_
          refine g_aload (i := 5) X286 hx (hb hby at_150) (by rfl) rfl rfl ?_
          refine g_aload (i := 7) X286 hx (hb hby at_152) (by rfl) rfl rfl ?_
          refine g_aload (i := 9) X286 hx (hb hby at_154) (by rfl) rfl rfl ?_
          refine g_callI X286 hx hZ rfl hown (wd hw 29 rfl) (wd hw 30 rfl) (wd hw 28 rfl) (wd hw 31 rfl) (by decide) e286 (rm_it_nn l Z a0 hw a286 la 0 0 h286 n0 gi286 E286 F286_label F286_part F286_origin) (by rw [hml]; rfl) a286 [(.ref la), .null, .null] [(.ref a286)] rfl (lenOf pd_125 rfl) rfl (by show 1 + (4 + 11) + 12 ≤ _; decide) (by decide) (by decide) (by decide) (hb hby at_156) rfl ?_
          intro T287 v287 L287 X287 hQ287
          obtain ⟨rfl, N287, K287, Ei287, G1_287, G2_287, G3_287⟩ := hQ287
          have N287 := Fr.app N284 N287
          show Goes p e below _ T287 (mkF m 159 #[.val (.int p0), .val (.int p1), .val (.int p2), .val (.int p3), .val (.int p4), .val (.ref la), .val (.int (1 : Int32)), .val .null, .val (.int (1 : Int32)), .val .null, .val (.int (0 : Int32)), .val (.int cp), .val (.int ac), .val (.ref da), .unset, .unset, .unset, .unset] [(.ref a286)])
          have EI287 := own_ext3 Ex286 K287 (fun x hx => by rw [List.mem_singleton.mp hx, g286]; exact Nat.le_refl _)
          have S_cs_288 := S_cs_285.ext EI287
          have S_la_288 := S_la_285.ext EI287
          have S_da_288 := Sda.ext EI287
          have H288 := CHv.ext EI287 H285
          have Zz288 : n0 ≤ _ := Nat.le_trans Zz285 EI287.1
          have hk := Nat.le_trans hk EI287.1
          refine g_astore (i := 14) X287 hx #[.val (.int p0), .val (.int p1), .val (.int p2), .val (.int p3), .val (.int p4), .val (.ref la), .val (.int (1 : Int32)), .val .null, .val (.int (1 : Int32)), .val .null, .val (.int (0 : Int32)), .val (.int cp), .val (.int ac), .val (.ref da), .val (.ref a286), .unset, .unset, .unset] (hb hby at_159) rfl rfl rfl ?_
          refine g_aload (i := 14) X287 hx (hb hby at_161) (by rfl) rfl rfl ?_
          refine g_aload (i := 13) X287 hx (hb hby at_163) (by rfl) rfl rfl ?_
          refine g_callV X287 hx hZ hown (wd hw 39 rfl) (wd hw 40 rfl) (wd hw 42 rfl) (wd hw 41 rfl) (wd hw 28 rfl) (wd hw 43 rfl) (by decide) rfl a286 Ei287 (rm_at_nn l Z a0 hw a286 la 0 0 0 da dab [ac.toInt8.toInt32] [((p2 &&& (255 : Int32)).toUInt32.toUInt16.toUInt32.toInt32).toInt8.toInt32] T287.heap n0 Zz288 cs S_cs_288 hcs Ei287 G1_287 G2_287 G3_287 S_da_288 (by simp) (by simp)) (by rw [hml]; rfl) [(.ref da)] [] rfl (lenOf pd_227 rfl) rfl (by show 0 + (2 + 11) + 28 ≤ _; decide) (by decide) (by decide) (by decide) (hb hby at_165) rfl ?_
          intro T289 v289 L289 X289 hQ289
          obtain ⟨r, rfl, N289, E289, hor⟩ := hQ289
          have N289 := Fr.app N287 N289
          show Goes p e below _ T289 (mkF m 168 #[.val (.int p0), .val (.int p1), .val (.int p2), .val (.int p3), .val (.int p4), .val (.ref la), .val (.int (1 : Int32)), .val .null, .val (.int (1 : Int32)), .val .null, .val (.int (0 : Int32)), .val (.int cp), .val (.int ac), .val (.ref da), .val (.ref a286), .unset, .unset, .unset] [(.ref r)])
          have S_cs_290 := S_cs_288.ext E289
          have S_la_290 := S_la_288.ext E289
          have S_da_290 := S_da_288.ext E289
          have IE_290 := Ei287.ext E289
          have Ilabel_290 := G1_287.ext E289
          have Ipart_290 := G2_287.ext E289
          have Iorigin_290 := G3_287.ext E289
          have H290 := CHv.ext E289 H288
          have Zz290 : n0 ≤ _ := Nat.le_trans Zz288 E289.1
          have hk := Nat.le_trans hk E289.1
          refine g_astore (i := 15) X289 hx #[.val (.int p0), .val (.int p1), .val (.int p2), .val (.int p3), .val (.int p4), .val (.ref la), .val (.int (1 : Int32)), .val .null, .val (.int (1 : Int32)), .val .null, .val (.int (0 : Int32)), .val (.int cp), .val (.int ac), .val (.ref da), .val (.ref a286), .val (.ref r), .unset, .unset] (hb hby at_168) rfl rfl rfl ?_
          refine g_iload (i := 10) X289 hx (hb hby at_170) (by rfl) rfl ?_
          refine g_if_eq X289 hx (hb hby at_172) (by decide) (pt := 188) (by decide) rfl (fun _ => ?_) (fun q_ => absurd (by decide) q_)
          refine g_iload (i := 8) X289 hx (hb hby at_188) (by rfl) rfl ?_
          refine g_if_ne X289 hx (hb hby at_190) (by decide) (pt := 215) (by decide) rfl (fun _ => ?_) (fun q_ => absurd q_ (by decide))
          obtain ⟨hra, -, RE, Rl, Rp, Ro⟩ := hor.resolve_left (fun r => r.2)
          refine g_iconst (v := (0 : Int32)) X289 hx (hb hby at_215) (by decide) rfl ?_
          refine g_istore (i := 16) X289 hx #[.val (.int p0), .val (.int p1), .val (.int p2), .val (.int p3), .val (.int p4), .val (.ref la), .val (.int (1 : Int32)), .val .null, .val (.int (1 : Int32)), .val .null, .val (.int (0 : Int32)), .val (.int cp), .val (.int ac), .val (.ref da), .val (.ref a286), .val (.ref r), .val (.int (0 : Int32)), .unset] (hb hby at_216) rfl rfl ?_
          refine g_iload (i := 16) X289 hx (hb hby at_218) (by rfl) rfl ?_
          refine g_if_eq X289 hx (hb hby at_220) (by decide) (pt := 236) (by decide) rfl (fun _ => ?_) (fun q_ => absurd (by decide) q_)
          refine g_aload (i := 15) X289 hx (hb hby at_236) (by rfl) rfl rfl ?_
          refine g_aload (i := 14) X289 hx (hb hby at_238) (by rfl) rfl rfl ?_
          refine g_acmp_eq X289 hx (hb hby at_240) rfl rfl (by decide) (pt := 248) (by decide) rfl (fun q_ => absurd q_ (fun q => hra (Value.ref.inj q))) (fun _ => ?_)
          refine g_aload (i := 15) X289 hx (hb hby at_243) (by rfl) rfl rfl ?_
          refine g_ifnonnull_t X289 hx (hb hby at_245) (by decide) (pt := 250) (by decide) ?_
          refine g_aload (i := 15) X289 hx (hb hby at_250) (by rfl) rfl rfl ?_
          refine g_callV X289 hx hZ hown (wd hw 54 rfl) (wd hw 55 rfl) (wd hw 57 rfl) (wd hw 56 rfl) (wd hw 28 rfl) (wd hw 58 rfl) (by decide) rfl r RE (rm_gp_n l Z a0 hw r 0 T289.heap Rp) (by rw [hml]; rfl) [] [] rfl (lenOf pd_172 rfl) rfl (by show 0 + (1 + 11) + 0 ≤ _; decide) (by decide) (by decide) (by decide) (hb hby at_252) rfl ?_
          intro T291 v291 L291 X291 hQ291
          obtain ⟨rfl, rfl, e291⟩ := hQ291
          have N291 := Fr.app N289 (Fr.nil n0)
          show Goes p e below _ T291 (mkF m 255 #[.val (.int p0), .val (.int p1), .val (.int p2), .val (.int p3), .val (.int p4), .val (.ref la), .val (.int (1 : Int32)), .val .null, .val (.int (1 : Int32)), .val .null, .val (.int (0 : Int32)), .val (.int cp), .val (.int ac), .val (.ref da), .val (.ref a286), .val (.ref r), .val (.int (0 : Int32)), .unset] [.null])
          refine g_aload (i := 7) X291 hx (hb hby at_255) (by rfl) rfl rfl ?_
          refine g_acmp_eq X291 hx (hb hby at_257) rfl rfl (by decide) (pt := 262) (by decide) rfl (fun _ => ?_) (fun q_ => absurd (rfl) q_)
          refine g_new X291 hx hZ hown (wd hw 26 rfl) (wd hw 27 rfl) (wd hw 28 rfl) e291 (hb hby at_262) rfl (by decide) (by decide) ?_
          intro T292 h292 a292 X292 e292 g292 Ex292 E292 D292
          have F292_label : Fld Z h292 a292 "com/example/wireup/wireup/Item" "label" "Ljava/lang/String;" .null := D292 (Or.inr (wd hw 34 rfl)) (ty := (.object "java/lang/String")) (by decide)
          have F292_part : Fld Z h292 a292 "com/example/wireup/wireup/Item" "part" "Ljava/lang/String;" .null := D292 (Or.inr (wd hw 36 rfl)) (ty := (.object "java/lang/String")) (by decide)
          have F292_origin : Fld Z h292 a292 "com/example/wireup/wireup/Item" "origin" "Ljava/lang/String;" .null := D292 (Or.inr (wd hw 38 rfl)) (ty := (.object "java/lang/String")) (by decide)
          have gi292 : n0 ≤ a292 := by rw [g292]; exact Zz290
          refine g_dup X292 hx (hb hby at_265) rfl rfl ?_
          refine g_aload (i := 5) X292 hx (hb hby at_266) (by rfl) rfl rfl ?_
          refine g_aload (i := 7) X292 hx (hb hby at_268) (by rfl) rfl rfl ?_
          refine g_aload (i := 13) X292 hx (hb hby at_270) (by rfl) rfl rfl ?_
          refine g_callI X292 hx hZ rfl hown (wd hw 29 rfl) (wd hw 30 rfl) (wd hw 28 rfl) (wd hw 31 rfl) (by decide) e292 (rm_it_nr l Z a0 hw a292 la 0 da h292 n0 gi292 E292 F292_label F292_part F292_origin) (by rw [hml]; rfl) a292 [(.ref la), .null, (.ref da)] [(.ref a292)] rfl (lenOf pd_125 rfl) rfl (by show 1 + (4 + 11) + 12 ≤ _; decide) (by decide) (by decide) (by decide) (hb hby at_272) rfl ?_
          intro T293 v293 L293 X293 hQ293
          obtain ⟨rfl, N293, K293, Ei293, G1_293, G2_293, G3_293⟩ := hQ293
          have N293 := Fr.app N291 N293
          show Goes p e below _ T293 (mkF m 275 #[.val (.int p0), .val (.int p1), .val (.int p2), .val (.int p3), .val (.int p4), .val (.ref la), .val (.int (1 : Int32)), .val .null, .val (.int (1 : Int32)), .val .null, .val (.int (0 : Int32)), .val (.int cp), .val (.int ac), .val (.ref da), .val (.ref a286), .val (.ref r), .val (.int (0 : Int32)), .unset] [(.ref a292)])
          have EI293 := own_ext3 Ex292 K293 (fun x hx => by rw [List.mem_singleton.mp hx, g292]; exact Nat.le_refl _)
          have S_cs_294 := S_cs_290.ext EI293
          have S_la_294 := S_la_290.ext EI293
          have S_da_294 := S_da_290.ext EI293
          have IE_294 := IE_290.ext EI293
          have Ilabel_294 := Ilabel_290.ext EI293
          have Ipart_294 := Ipart_290.ext EI293
          have Iorigin_294 := Iorigin_290.ext EI293
          have RE_294 := RE.ext EI293
          have Rlabel_294 := Rl.ext EI293
          have Rpart_294 := Rp.ext EI293
          have Rorigin_294 := Ro.ext EI293
          have H294 := CHv.ext EI293 H290
          have Zz294 : n0 ≤ _ := Nat.le_trans Zz290 EI293.1
          have hk := Nat.le_trans hk EI293.1
          refine g_callVH X293 hx hZ hown (wd hw 59 rfl) (wd hw 60 rfl) (wd hw 62 rfl) (wd hw 61 rfl) (wd hw 28 rfl) (wd hw 63 rfl) (by decide) rfl hS hk (own_EW hw) H294 a292 Ei293 (rm_ds_n l Z a0 hw a292 la lab 0 0 da dab [((p0 &&& (255 : Int32)).toUInt32.toUInt16.toUInt32.toInt32).toInt8.toInt32] [0] [ac.toInt8.toInt32] T293.heap n0 Zz294 cs S_cs_294 hcs G1_293 G2_293 G3_293 S_la_294 S_da_294 rfl rfl rfl) (by rw [hml]; rfl) [] [] rfl (lenOf pd_172 rfl) rfl (by show 0 + (1 + 11) + 91 ≤ _; decide) (by decide) (by decide) (by decide) (hb hby at_275) rfl ?_
          intro T295 v295 L295 k295 X295 hQ295 Rc295 hS hk hZ hown
          obtain ⟨ra295, rb295, rfl, N295, E295, gr295, SR295⟩ := hQ295
          have N295 := Fr.app N293 N295
          show Goes p e below _ T295 (mkF m 278 #[.val (.int p0), .val (.int p1), .val (.int p2), .val (.int p3), .val (.int p4), .val (.ref la), .val (.int (1 : Int32)), .val .null, .val (.int (1 : Int32)), .val .null, .val (.int (0 : Int32)), .val (.int cp), .val (.int ac), .val (.ref da), .val (.ref a286), .val (.ref r), .val (.int (0 : Int32)), .unset] [(.ref ra295)])
          have S_cs_296 := S_cs_294.ext E295
          have S_la_296 := S_la_294.ext E295
          have S_da_296 := S_da_294.ext E295
          have IE_296 := IE_294.ext E295
          have Ilabel_296 := Ilabel_294.ext E295
          have Ipart_296 := Ipart_294.ext E295
          have Iorigin_296 := Iorigin_294.ext E295
          have RE_296 := RE_294.ext E295
          have Rlabel_296 := Rlabel_294.ext E295
          have Rpart_296 := Rpart_294.ext E295
          have Rorigin_296 := Rorigin_294.ext E295
          have QE_296 := Ei293.ext E295
          have Qlabel_296 := G1_293.ext E295
          have Qpart_296 := G2_293.ext E295
          have Qorigin_296 := G3_293.ext E295
          have Zz296 : n0 ≤ _ := Nat.le_trans Zz294 E295.1
          have ltq := SR295.1.lt
          refine g_astore (i := 17) X295 hx #[.val (.int p0), .val (.int p1), .val (.int p2), .val (.int p3), .val (.int p4), .val (.ref la), .val (.int (1 : Int32)), .val .null, .val (.int (1 : Int32)), .val .null, .val (.int (0 : Int32)), .val (.int cp), .val (.int ac), .val (.ref da), .val (.ref a286), .val (.ref r), .val (.int (0 : Int32)), .val (.ref ra295)] (hb hby at_278) rfl rfl rfl ?_
          refine g_aload (i := 15) X295 hx (hb hby at_280) (by rfl) rfl rfl ?_
          refine g_callVH X295 hx hZ hown (wd hw 59 rfl) (wd hw 60 rfl) (wd hw 62 rfl) (wd hw 61 rfl) (wd hw 28 rfl) (wd hw 63 rfl) (by decide) rfl hS hk (own_EW hw) Rc295.1 r RE_296 (rm_ds_n l Z a0 hw r la lab 0 0 da dab [((p0 &&& (255 : Int32)).toUInt32.toUInt16.toUInt32.toInt32).toInt8.toInt32] [0] [ac.toInt8.toInt32] T295.heap n0 Zz296 cs S_cs_296 hcs Rlabel_296 Rpart_296 Rorigin_296 S_la_296 S_da_296 rfl rfl rfl) (by rw [hml]; rfl) [] [] rfl (lenOf pd_172 rfl) rfl (by show 0 + (1 + 11) + 91 ≤ _; decide) (by decide) (by decide) (by decide) (hb hby at_282) rfl ?_
          intro T297 v297 L297 k297 X297 hQ297 Rc297 hS hk hZ hown
          obtain ⟨ra297, rb297, rfl, N297, E297, gr297, SR297⟩ := hQ297
          have N297 := Fr.app N295 N297
          show Goes p e below _ T297 (mkF m 285 #[.val (.int p0), .val (.int p1), .val (.int p2), .val (.int p3), .val (.int p4), .val (.ref la), .val (.int (1 : Int32)), .val .null, .val (.int (1 : Int32)), .val .null, .val (.int (0 : Int32)), .val (.int cp), .val (.int ac), .val (.ref da), .val (.ref a286), .val (.ref r), .val (.int (0 : Int32)), .val (.ref ra295)] [(.ref ra297)])
          have S_cs_298 := S_cs_296.ext E297
          have S_la_298 := S_la_296.ext E297
          have S_da_298 := S_da_296.ext E297
          have IE_298 := IE_296.ext E297
          have Ilabel_298 := Ilabel_296.ext E297
          have Ipart_298 := Ipart_296.ext E297
          have Iorigin_298 := Iorigin_296.ext E297
          have RE_298 := RE_296.ext E297
          have Rlabel_298 := Rlabel_296.ext E297
          have Rpart_298 := Rpart_296.ext E297
          have Rorigin_298 := Rorigin_296.ext E297
          have QE_298 := QE_296.ext E297
          have Qlabel_298 := Qlabel_296.ext E297
          have Qpart_298 := Qpart_296.ext E297
          have Qorigin_298 := Qorigin_296.ext E297
          have SR295_298 := SR295.ext E297
          have Zz298 : n0 ≤ _ := Nat.le_trans Zz296 E297.1
          refine g_aload (i := 17) X297 hx (hb hby at_285) (by rfl) rfl rfl ?_
          refine g_callV X297 hx hZ hown (wd hw 179 rfl) (wd hw 45 rfl) (wd hw 47 rfl) (wd hw 46 rfl) (wd hw 2 rfl) (wd hw 48 rfl) (by decide) rfl ra297 SR297.1 (rm_seq l Z a0 hw ra297 rb297 ra295 rb295 _ _ T297.heap cs S_cs_298 hcs SR297 SR295_298 (fun q => absurd ltq (by rw [← q]; exact Nat.not_lt.mpr gr297)) (by simp only [List.length_append, List.length_cons, List.length_nil]; omega) (by simp only [List.length_append, List.length_cons, List.length_nil]; omega)) (by rw [hml]; rfl) [(.ref ra295)] [] rfl (lenOf pd_121 rfl) rfl (by show 0 + (3 + 11) + 14 ≤ _; decide) (by decide) (by decide) (by decide) (hb hby at_287) rfl ?_
          intro T299 v299 L299 X299 hQ299
          obtain ⟨rfl, rfl, e299⟩ := hQ299
          have N299 := Fr.app N297 (Fr.nil n0)
          show Goes p e below _ T299 (mkF m 290 #[.val (.int p0), .val (.int p1), .val (.int p2), .val (.int p3), .val (.int p4), .val (.ref la), .val (.int (1 : Int32)), .val .null, .val (.int (1 : Int32)), .val .null, .val (.int (0 : Int32)), .val (.int cp), .val (.int ac), .val (.ref da), .val (.ref a286), .val (.ref r), .val (.int (0 : Int32)), .val (.ref ra295)] [(.int _)])
          exact g_retNW X299 hx (t := .boolean) (by simp) hlk hret e299 hS hk (by decide) (by decide) (hb hby at_290) ⟨by rw [if_pos rfl]; rfl, N299⟩
        refine g_iload (i := 4) X216 hx (hb hby at_94) (by rfl) rfl ?_
        refine g_iconst (v := (4 : Int32)) X216 hx (hb hby at_96) (by decide) rfl ?_
        refine g_iand X216 hx (hb hby at_97) rfl ?_
        refine g_if_eq X216 hx (hb hby at_98) (by decide) (pt := 105) (by decide) rfl (fun qk => ?_) (fun qk => ?_)
        · refine g_iconst (v := (0 : Int32)) X216 hx (hb hby at_105) (by decide) rfl ?_
          refine g_istore (i := 11) X216 hx #[.val (.int p0), .val (.int p1), .val (.int p2), .val (.int p3), .val (.int p4), .val (.ref la), .val (.int (1 : Int32)), .val .null, .val (.int (1 : Int32)), .val .null, .val (.int (0 : Int32)), .val (.int (0 : Int32)), .unset, .unset, .unset, .unset, .unset, .unset] (hb hby at_106) rfl rfl ?_
          refine g_iload (i := 11) X216 hx (hb hby at_108) (by rfl) rfl ?_
          refine g_if_eq X216 hx (hb hby at_110) (by decide) (pt := 122) (by decide) rfl (fun _ => ?_) (fun q_ => absurd (by decide) q_)
          refine g_iload_n (i := 3) X216 hx (hb hby at_122) (by rfl) rfl ?_
          refine g_sipush (v := (255 : Int32)) X216 hx (hb hby at_123) (by decide) rfl ?_
          refine g_iand X216 hx (hb hby at_126) rfl ?_
          refine g_i2c X216 hx (hb hby at_127) rfl ?_
          refine g_istore (i := 12) X216 hx #[.val (.int p0), .val (.int p1), .val (.int p2), .val (.int p3), .val (.int p4), .val (.ref la), .val (.int (1 : Int32)), .val .null, .val (.int (1 : Int32)), .val .null, .val (.int (0 : Int32)), .val (.int (0 : Int32)), .val (.int (p3 &&& (255 : Int32)).toUInt32.toUInt16.toUInt32.toInt32), .unset, .unset, .unset, .unset, .unset] (hb hby at_128) rfl rfl ?_
          exact J130 _ _ (Or.inr ⟨rfl, rfl⟩)
        · refine g_iconst (v := (1 : Int32)) X216 hx (hb hby at_101) (by decide) rfl ?_
          refine g_goto X216 hx (hb hby at_102) (by decide) (by decide) (pc' := 106) ?_
          refine g_istore (i := 11) X216 hx #[.val (.int p0), .val (.int p1), .val (.int p2), .val (.int p3), .val (.int p4), .val (.ref la), .val (.int (1 : Int32)), .val .null, .val (.int (1 : Int32)), .val .null, .val (.int (0 : Int32)), .val (.int (1 : Int32)), .unset, .unset, .unset, .unset, .unset, .unset] (hb hby at_106) rfl rfl ?_
          refine g_iload (i := 11) X216 hx (hb hby at_108) (by rfl) rfl ?_
          refine g_if_eq X216 hx (hb hby at_110) (by decide) (pt := 122) (by decide) rfl (fun q_ => absurd q_ (by decide)) (fun _ => ?_)
          refine g_iload_n (i := 2) X216 hx (hb hby at_113) (by rfl) rfl ?_
          refine g_sipush (v := (255 : Int32)) X216 hx (hb hby at_114) (by decide) rfl ?_
          refine g_iand X216 hx (hb hby at_117) rfl ?_
          refine g_i2c X216 hx (hb hby at_118) rfl ?_
          refine g_goto X216 hx (hb hby at_119) (by decide) (by decide) (pc' := 128) ?_
          refine g_istore (i := 12) X216 hx #[.val (.int p0), .val (.int p1), .val (.int p2), .val (.int p3), .val (.int p4), .val (.ref la), .val (.int (1 : Int32)), .val .null, .val (.int (1 : Int32)), .val .null, .val (.int (0 : Int32)), .val (.int (1 : Int32)), .val (.int (p2 &&& (255 : Int32)).toUInt32.toUInt16.toUInt32.toInt32), .unset, .unset, .unset, .unset, .unset] (hb hby at_128) rfl rfl ?_
          exact J130 _ _ (Or.inl ⟨by decide, rfl⟩)
      · refine g_iconst (v := (1 : Int32)) X216 hx (hb hby at_87) (by decide) rfl ?_
        refine g_goto X216 hx (hb hby at_88) (by decide) (by decide) (pc' := 92) ?_
        refine g_istore (i := 10) X216 hx #[.val (.int p0), .val (.int p1), .val (.int p2), .val (.int p3), .val (.int p4), .val (.ref la), .val (.int (1 : Int32)), .val .null, .val (.int (1 : Int32)), .val .null, .val (.int (1 : Int32)), .unset, .unset, .unset, .unset, .unset, .unset, .unset] (hb hby at_92) rfl rfl ?_
        have J130 : ∀ (cp ac : Int32), (¬ cp = 0 ∧ ac = ((p2 &&& (255 : Int32)).toUInt32.toUInt16.toUInt32.toInt32)) ∨ (cp = 0 ∧ ac = ((p3 &&& (255 : Int32)).toUInt32.toUInt16.toUInt32.toInt32)) → Goes p e below (KW s 72 3456 (fun v h L => v = some (.int 1) ∧ Fr n0 L)) T216 (mkF m 130 #[.val (.int p0), .val (.int p1), .val (.int p2), .val (.int p3), .val (.int p4), .val (.ref la), .val (.int (1 : Int32)), .val .null, .val (.int (1 : Int32)), .val .null, .val (.int (1 : Int32)), .val (.int cp), .val (.int ac), .unset, .unset, .unset, .unset, .unset] []) := by
          intro cp ac hca
          refine g_iload (i := 10) X216 hx (hb hby at_130) (by rfl) rfl ?_
          refine g_if_eq X216 hx (hb hby at_132) (by decide) (pt := 139) (by decide) rfl (fun q_ => absurd q_ (by decide)) (fun _ => ?_)
          refine g_aconst_null X216 hx (hb hby at_135) rfl ?_
          refine g_goto X216 hx (hb hby at_136) (by decide) (by decide) (pc' := 144) ?_
          refine g_astore (i := 13) X216 hx #[.val (.int p0), .val (.int p1), .val (.int p2), .val (.int p3), .val (.int p4), .val (.ref la), .val (.int (1 : Int32)), .val .null, .val (.int (1 : Int32)), .val .null, .val (.int (1 : Int32)), .val (.int cp), .val (.int ac), .val .null, .unset, .unset, .unset, .unset] (hb hby at_144) rfl rfl rfl ?_
          refine g_new X216 hx hZ hown (wd hw 26 rfl) (wd hw 27 rfl) (wd hw 28 rfl) rfl (hb hby at_146) rfl (by decide) (by decide) ?_
          intro T300 h300 a300 X300 e300 g300 Ex300 E300 D300
          have F300_label : Fld Z h300 a300 "com/example/wireup/wireup/Item" "label" "Ljava/lang/String;" .null := D300 (Or.inr (wd hw 34 rfl)) (ty := (.object "java/lang/String")) (by decide)
          have F300_part : Fld Z h300 a300 "com/example/wireup/wireup/Item" "part" "Ljava/lang/String;" .null := D300 (Or.inr (wd hw 36 rfl)) (ty := (.object "java/lang/String")) (by decide)
          have F300_origin : Fld Z h300 a300 "com/example/wireup/wireup/Item" "origin" "Ljava/lang/String;" .null := D300 (Or.inr (wd hw 38 rfl)) (ty := (.object "java/lang/String")) (by decide)
          have gi300 : n0 ≤ a300 := by rw [g300]; exact Zz217
          refine g_dup X300 hx (hb hby at_149) rfl rfl ?_
          refine g_aload (i := 5) X300 hx (hb hby at_150) (by rfl) rfl rfl ?_
          refine g_aload (i := 7) X300 hx (hb hby at_152) (by rfl) rfl rfl ?_
          refine g_aload (i := 9) X300 hx (hb hby at_154) (by rfl) rfl rfl ?_
          refine g_callI X300 hx hZ rfl hown (wd hw 29 rfl) (wd hw 30 rfl) (wd hw 28 rfl) (wd hw 31 rfl) (by decide) e300 (rm_it_nn l Z a0 hw a300 la 0 0 h300 n0 gi300 E300 F300_label F300_part F300_origin) (by rw [hml]; rfl) a300 [(.ref la), .null, .null] [(.ref a300)] rfl (lenOf pd_125 rfl) rfl (by show 1 + (4 + 11) + 12 ≤ _; decide) (by decide) (by decide) (by decide) (hb hby at_156) rfl ?_
          intro T301 v301 L301 X301 hQ301
          obtain ⟨rfl, N301, K301, Ei301, G1_301, G2_301, G3_301⟩ := hQ301
          have N301 := Fr.app N216 N301
          show Goes p e below _ T301 (mkF m 159 #[.val (.int p0), .val (.int p1), .val (.int p2), .val (.int p3), .val (.int p4), .val (.ref la), .val (.int (1 : Int32)), .val .null, .val (.int (1 : Int32)), .val .null, .val (.int (1 : Int32)), .val (.int cp), .val (.int ac), .val .null, .unset, .unset, .unset, .unset] [(.ref a300)])
          have EI301 := own_ext3 Ex300 K301 (fun x hx => by rw [List.mem_singleton.mp hx, g300]; exact Nat.le_refl _)
          have S_cs_302 := S_cs_217.ext EI301
          have S_la_302 := Sla.ext EI301
          have H302 := CHv.ext EI301 H217
          have Zz302 : n0 ≤ _ := Nat.le_trans Zz217 EI301.1
          have hk := Nat.le_trans hk EI301.1
          refine g_astore (i := 14) X301 hx #[.val (.int p0), .val (.int p1), .val (.int p2), .val (.int p3), .val (.int p4), .val (.ref la), .val (.int (1 : Int32)), .val .null, .val (.int (1 : Int32)), .val .null, .val (.int (1 : Int32)), .val (.int cp), .val (.int ac), .val .null, .val (.ref a300), .unset, .unset, .unset] (hb hby at_159) rfl rfl rfl ?_
          refine g_aload (i := 14) X301 hx (hb hby at_161) (by rfl) rfl rfl ?_
          refine g_aload (i := 13) X301 hx (hb hby at_163) (by rfl) rfl rfl ?_
          refine g_callV X301 hx hZ hown (wd hw 39 rfl) (wd hw 40 rfl) (wd hw 42 rfl) (wd hw 41 rfl) (wd hw 28 rfl) (wd hw 43 rfl) (by decide) rfl a300 Ei301 (rm_at0 l Z a0 hw a300 T301.heap) (by rw [hml]; rfl) [.null] [] rfl (lenOf pd_227 rfl) rfl (by show 0 + (2 + 11) + 0 ≤ _; decide) (by decide) (by decide) (by decide) (hb hby at_165) rfl ?_
          intro T303 v303 L303 X303 hQ303
          obtain ⟨rfl, rfl, e303⟩ := hQ303
          have N303 := Fr.app N301 (Fr.nil n0)
          show Goes p e below _ T303 (mkF m 168 #[.val (.int p0), .val (.int p1), .val (.int p2), .val (.int p3), .val (.int p4), .val (.ref la), .val (.int (1 : Int32)), .val .null, .val (.int (1 : Int32)), .val .null, .val (.int (1 : Int32)), .val (.int cp), .val (.int ac), .val .null, .val (.ref a300), .unset, .unset, .unset] [(.ref a300)])
          refine g_astore (i := 15) X303 hx #[.val (.int p0), .val (.int p1), .val (.int p2), .val (.int p3), .val (.int p4), .val (.ref la), .val (.int (1 : Int32)), .val .null, .val (.int (1 : Int32)), .val .null, .val (.int (1 : Int32)), .val (.int cp), .val (.int ac), .val .null, .val (.ref a300), .val (.ref a300), .unset, .unset] (hb hby at_168) rfl rfl rfl ?_
          refine g_iload (i := 10) X303 hx (hb hby at_170) (by rfl) rfl ?_
          refine g_if_eq X303 hx (hb hby at_172) (by decide) (pt := 188) (by decide) rfl (fun q_ => absurd q_ (by decide)) (fun _ => ?_)
          refine g_aload (i := 15) X303 hx (hb hby at_175) (by rfl) rfl rfl ?_
          refine g_aload (i := 14) X303 hx (hb hby at_177) (by rfl) rfl rfl ?_
          refine g_acmp_ne X303 hx (hb hby at_179) rfl rfl (by decide) (pt := 186) (by decide) rfl (fun q_ => absurd (rfl) q_) (fun _ => ?_)
          refine g_iconst (v := (1 : Int32)) X303 hx (hb hby at_182) (by decide) rfl ?_
          refine g_goto X303 hx (hb hby at_183) (by decide) (by decide) (pc' := 187) ?_
          exact g_retNW X303 hx (t := .boolean) (by simp) hlk hret e303 hS hk (by decide) (by decide) (hb hby at_187) ⟨rfl, N303⟩
        refine g_iload (i := 4) X216 hx (hb hby at_94) (by rfl) rfl ?_
        refine g_iconst (v := (4 : Int32)) X216 hx (hb hby at_96) (by decide) rfl ?_
        refine g_iand X216 hx (hb hby at_97) rfl ?_
        refine g_if_eq X216 hx (hb hby at_98) (by decide) (pt := 105) (by decide) rfl (fun qk => ?_) (fun qk => ?_)
        · refine g_iconst (v := (0 : Int32)) X216 hx (hb hby at_105) (by decide) rfl ?_
          refine g_istore (i := 11) X216 hx #[.val (.int p0), .val (.int p1), .val (.int p2), .val (.int p3), .val (.int p4), .val (.ref la), .val (.int (1 : Int32)), .val .null, .val (.int (1 : Int32)), .val .null, .val (.int (1 : Int32)), .val (.int (0 : Int32)), .unset, .unset, .unset, .unset, .unset, .unset] (hb hby at_106) rfl rfl ?_
          refine g_iload (i := 11) X216 hx (hb hby at_108) (by rfl) rfl ?_
          refine g_if_eq X216 hx (hb hby at_110) (by decide) (pt := 122) (by decide) rfl (fun _ => ?_) (fun q_ => absurd (by decide) q_)
          refine g_iload_n (i := 3) X216 hx (hb hby at_122) (by rfl) rfl ?_
          refine g_sipush (v := (255 : Int32)) X216 hx (hb hby at_123) (by decide) rfl ?_
          refine g_iand X216 hx (hb hby at_126) rfl ?_
          refine g_i2c X216 hx (hb hby at_127) rfl ?_
          refine g_istore (i := 12) X216 hx #[.val (.int p0), .val (.int p1), .val (.int p2), .val (.int p3), .val (.int p4), .val (.ref la), .val (.int (1 : Int32)), .val .null, .val (.int (1 : Int32)), .val .null, .val (.int (1 : Int32)), .val (.int (0 : Int32)), .val (.int (p3 &&& (255 : Int32)).toUInt32.toUInt16.toUInt32.toInt32), .unset, .unset, .unset, .unset, .unset] (hb hby at_128) rfl rfl ?_
          exact J130 _ _ (Or.inr ⟨rfl, rfl⟩)
        · refine g_iconst (v := (1 : Int32)) X216 hx (hb hby at_101) (by decide) rfl ?_
          refine g_goto X216 hx (hb hby at_102) (by decide) (by decide) (pc' := 106) ?_
          refine g_istore (i := 11) X216 hx #[.val (.int p0), .val (.int p1), .val (.int p2), .val (.int p3), .val (.int p4), .val (.ref la), .val (.int (1 : Int32)), .val .null, .val (.int (1 : Int32)), .val .null, .val (.int (1 : Int32)), .val (.int (1 : Int32)), .unset, .unset, .unset, .unset, .unset, .unset] (hb hby at_106) rfl rfl ?_
          refine g_iload (i := 11) X216 hx (hb hby at_108) (by rfl) rfl ?_
          refine g_if_eq X216 hx (hb hby at_110) (by decide) (pt := 122) (by decide) rfl (fun q_ => absurd q_ (by decide)) (fun _ => ?_)
          refine g_iload_n (i := 2) X216 hx (hb hby at_113) (by rfl) rfl ?_
          refine g_sipush (v := (255 : Int32)) X216 hx (hb hby at_114) (by decide) rfl ?_
          refine g_iand X216 hx (hb hby at_117) rfl ?_
          refine g_i2c X216 hx (hb hby at_118) rfl ?_
          refine g_goto X216 hx (hb hby at_119) (by decide) (by decide) (pc' := 128) ?_
          refine g_istore (i := 12) X216 hx #[.val (.int p0), .val (.int p1), .val (.int p2), .val (.int p3), .val (.int p4), .val (.ref la), .val (.int (1 : Int32)), .val .null, .val (.int (1 : Int32)), .val .null, .val (.int (1 : Int32)), .val (.int (1 : Int32)), .val (.int (p2 &&& (255 : Int32)).toUInt32.toUInt16.toUInt32.toInt32), .unset, .unset, .unset, .unset, .unset] (hb hby at_128) rfl rfl ?_
          exact J130 _ _ (Or.inl ⟨by decide, rfl⟩)
set_option maxRecDepth 65536 in
set_option maxHeartbeats 40000000 in
theorem comes_1 {Post : Tables → Env → Array Value → State → Outcome → State → Prop} (hpost : ∀ tb e args s v u, (limb_1_1.after args s (.returned v) u = true ∧ limb_1_2.after args s (.returned v) u = true ∧ True) → ReturnedEndW s (.returned v) u (Jvm.fieldLocs frame_1_writes args s ++ Jvm.arrayLocs frame_1_arrays args s ++ Jvm.staticLocs frame_1_statics s) 72 3456 → Post tb e args s (.returned v) u) :
    ArmFor flags0 classFile x code maxLocals ret World_1 tables_1 room_1 Calls_1 rest_1 Pre_1 Post := by
  intro l hfl _ _ p e ha hc hk s m args below hf hA hF happ hP
  obtain ⟨hcalls, hrest, hpre⟩ := hP
  obtain ⟨-, -, -, hnamed, -, -, -, hat⟩ := (Spec.applies_iff hf).mp happ
  obtain ⟨hg, hn⟩ := and_e (Cond.before_iff.mp (show (Jvm.Cond.and given_1 narrow_1).before args s = true from hpre))
  obtain ⟨hcnt, hg0⟩ := and_e hg
  obtain ⟨w0, w1, w2, w3, w4, rfl⟩ : ∃ w0 w1 w2 w3 w4 : Value, args = #[w0, w1, w2, w3, w4] := by
    have hs : args.size = 5 := by simpa [Cond.value, given_1] using hcnt
    obtain ⟨L⟩ := args
    match L, hs with
    | [w0, w1, w2, w3, w4], _ => exact ⟨w0, w1, w2, w3, w4, rfl⟩
  have hw := fun d (hd : d ∈ tables_1) => atoms_spec (ws := Jvm.Cond.code x code maxLocals ret :: tables_1) hat d (List.mem_cons_of_mem _ hd)
  have hfit : Fit s := fun {y c} hc i hi => by
    obtain ⟨ha, rfl⟩ := Array.getElem?_eq_some_iff.mp hc
    have q := List.all_eq_true.mp ((Array.all_eq_true_iff_forall_mem.mp hF) _ (Array.getElem_mem ha)) i (List.mem_range.mpr hi)
    simpa [Array.getElem?_eq_getElem hi] using q
  obtain ⟨ha0, hg1⟩ := and_e hg0
  obtain ⟨i0, q0⟩ := is_v ha0
  obtain rfl : w0 = (.int i0) := Option.some.inj q0
  obtain ⟨ha1, hg2⟩ := and_e hg1
  obtain ⟨i1, q1⟩ := is_v ha1
  obtain rfl : w1 = (.int i1) := Option.some.inj q1
  obtain ⟨ha2, hg3⟩ := and_e hg2
  obtain ⟨i2, q2⟩ := is_v ha2
  obtain rfl : w2 = (.int i2) := Option.some.inj q2
  obtain ⟨ha3, hg4⟩ := and_e hg3
  obtain ⟨i3, q3⟩ := is_v ha3
  obtain rfl : w3 = (.int i3) := Option.some.inj q3
  obtain ⟨i4, q4⟩ := is_v hg4
  obtain rfl : w4 = (.int i4) := Option.some.inj q4
  obtain ⟨hsets, hown0⟩ := atoms_of _ (rest_1_c_eq ▸ (show rest_1_c.before _ s = true from hrest))
  obtain ⟨i_cs, e_cs⟩ := is_v (Cond.before_iff.mp (hsets _ (List.mem_of_getElem? (i := 1) rfl)))
  have S_cs : Sta s s.heap "java/lang/String" "COMPACT_STRINGS" "Z" (.int i_cs) := Sta.start e_cs (Or.inl (hsets _ (List.mem_of_getElem? (i := 0) rfl)))
  have n_cs : ¬ i_cs = 0 := fun q => by have t := Cond.before_iff.mp (hsets _ (List.mem_of_getElem? (i := 2) rfl)); simp [Cond.value, e_cs, q, Term.int_eval] at t
  have hcw : Jvm.Lit.compactW.before #[.int i0, .int i1, .int i2, .int i3, .int i4] s = true := hsets _ (List.mem_of_getElem? (i := 2) rfl)
  have hCH : CHv s own_EL s.vm s.heap := CHv.start (own_EW hw) (fun p hp => hcalls.1 p (by simpa [own_EL, consts_1] using hp)) hcw (wd hw 14 rfl) (wd hw 10 rfl)
  obtain ⟨n, o, h1, h2, h3, _, L, rfl, ⟨rfl, N⟩, hq⟩ := rm0 l s _ hw i0 i1 i2 i3 i4 s.heap s.heap.size (Nat.le_refl _) i_cs S_cs n_cs p e ha hc hk s m _ below hf ((Spec.applies_iff_loose hf).mp happ).1 ⟨rfl, State.Warmed39.refl s, rfl, hCH⟩ trivial
  refine ⟨n, _, h1, h2, h3, hpost _ _ _ _ _ _ ⟨Cond.after_iff.mpr rfl, Cond.after_iff.mpr (eq_i res_at (Term.int_eval (1)) rfl), trivial⟩ ⟨hq.1, hq.2.1, hq.2.2.1, (hq.2.2.2.sift fun y hy => Or.inr (N y hy)).mono (by decide) (by decide)⟩⟩
theorem main_1_1 : Claimed_1_1 := comes_1 fun _ _ _ _ _ _ h hF => ⟨h.1, hF⟩
theorem main_1_2 : Claimed_1_2 := comes_1 fun _ _ _ _ _ _ h hF => ⟨h.2.1, hF⟩
end Jvm.Pilot.@@N@@
namespace Jvm.Pilot.@@N@@
open Jvm Jvm.ClassFile Sem Op Lib Jvm.Free Jvm.Stand Jvm.Pilot.@@N@@.Jvm.D
/-! MADE BY PROGRAM (witnessworld.py) out of the Statement's table words and the real class files: 23 classes; the members and pool entries that the words name. The judged class is class 1, her method 1. -/
namespace start1
open Jvm.ClassFile
def u (s : String) : CpInfo := .utf8 (stringToUtf16 s)
/-- a pool by its gaps: so many unusable entries, then the entry; so many at the end -/
def gap : Nat → List CpInfo → List CpInfo
  | 0, r => r
  | n + 1, r => .unusable :: gap n r
def poolList (es : List (Nat × CpInfo)) (last : Nat) : List CpInfo := es.foldr (fun e r => gap e.1 (e.2 :: r)) (gap last [])
def pool (es : List (Nat × CpInfo)) (last : Nat) : Array CpInfo := ⟨poolList es last⟩
def fileOf (pool : Array CpInfo) (this : Nat) (attrs : Array Attribute := #[]) (ms : Array MethodInfo := #[]) (fl : Nat := 33) (sup : Nat := 0) (ifs : Array Nat := #[]) (fds : Array FieldInfo := #[]) : ClassFile where
  minorVersion := 0
  majorVersion := 65
  constantPool := pool
  accessFlags := fl
  thisClass := this
  superClass := sup
  interfaces := ifs
  fields := fds
  methods := ms
  attributes := attrs
def plain (name : String) (sup : Option ClassId) : Class where
  name := name
  kind := .ordinary
  loader := none
  accessFlags := 33
  super := sup
  interfaces := #[]
  cf := none
  fields := #[]
  methods := #[]
  instanceTypes := #[]
  staticTypes := #[]
  resolved := #[]
  callSites := []
  init := .initialized
  statics := none
  mirror := none

def pool0 : Array CpInfo := pool [(5, u "<init>"), (0, u "()V"), (1, .class_ 10), (1, u "java/lang/Object")] 113

def k0c0 : Code := { maxStack := 0, maxLocals := 1, code := object_method_1_code, exceptionTable := #[], attributes := #[] }
def k0m0 : Method := { name := "<init>", desc := "()V", sig := { parameters := [], returnType := none }, accessFlags := 1, code := some k0c0 }
/-- java/lang/Object -/
def k0 : Class := { plain "java/lang/Object" none with
  accessFlags := 33
  interfaces := #[]
  cf := some (fileOf pool0 8 #[] #[{ accessFlags := 1, nameIndex := 5, descriptorIndex := 6, attributes := #[] }] 33 0 #[] #[])
  fields := #[]
  methods := #[k0m0]
  instanceTypes := #[]
  staticTypes := #[]
  resolved := Array.replicate 124 none
  statics := none }

def pool1 : Array CpInfo := pool [(2, .class_ 4), (1, u "java/lang/Object"), (0, u "<init>"), (0, u "()V"), (0, .methodref 8 9), (0, .class_ 10), (0, .nameAndType 11 12), (0, u "java/lang/String"), (0, u "valueOf"), (0, u "(C)Ljava/lang/String;"), (0, .class_ 14), (0, u "com/example/wireup/wireup/Item"), (0, .methodref 13 16), (0, .nameAndType 5 17), (0, u "(Ljava/lang/String;Ljava/lang/String;Ljava/lang/String;)V"), (0, .methodref 13 19), (0, .nameAndType 20 21), (0, u "at"), (0, u "(Ljava/lang/String;)Lcom/example/wireup/wireup/Item;"), (0, .methodref 13 23), (0, .nameAndType 24 25), (0, u "getPart"), (0, u "()Ljava/lang/String;"), (0, .methodref 13 27), (0, .nameAndType 28 25), (0, u "describe"), (0, .methodref 8 30), (0, .nameAndType 31 32), (0, u "equals"), (0, u "(Ljava/lang/Object;)Z"), (0, .class_ 34), (0, u "com/example/wireup/wireup/ItemAtPinLaw"), (2, u "law"), (0, u "(IIIII)Z")] 3

def k1m0 : Method := { name := "<init>", desc := "()V", sig := { parameters := [], returnType := none }, accessFlags := 1, code := none }
def k1c1 : Code := { maxStack := 5, maxLocals := 18, code := code, exceptionTable := #[], attributes := #[] }
def k1m1 : Method := { name := "law", desc := "(IIIII)Z", sig := { parameters := [.int, .int, .int, .int, .int], returnType := some .boolean }, accessFlags := 9, code := some k1c1 }
/-- com/example/wireup/wireup/ItemAtPinLaw -/
def k1 : Class := { plain "com/example/wireup/wireup/ItemAtPinLaw" (some 0) with
  accessFlags := 49
  interfaces := #[]
  cf := some (fileOf pool1 33 #[] #[{ accessFlags := 1, nameIndex := 5, descriptorIndex := 6, attributes := #[] }, { accessFlags := 9, nameIndex := 37, descriptorIndex := 38, attributes := #[] }] 49 2 #[] #[])
  fields := #[]
  methods := #[k1m0, k1m1]
  instanceTypes := #[]
  staticTypes := #[]
  resolved := Array.replicate 42 none
  statics := none }

def pool2 : Array CpInfo := pool [(1, .class_ 2), (0, u "java/io/Serializable"), (0, .class_ 4), (0, u "java/lang/Object")] 2

/-- java/io/Serializable -/
def k2 : Class := { plain "java/io/Serializable" (some 0) with
  accessFlags := 1537
  interfaces := #[]
  cf := some (fileOf pool2 1 #[] #[] 1537 3 #[] #[])
  fields := #[]
  methods := #[]
  instanceTypes := #[]
  staticTypes := #[]
  resolved := Array.replicate 7 none
  statics := none }

def pool3 : Array CpInfo := pool [(1, .class_ 2), (0, u "java/lang/Comparable"), (0, .class_ 4), (0, u "java/lang/Object")] 7

/-- java/lang/Comparable -/
def k3 : Class := { plain "java/lang/Comparable" (some 0) with
  accessFlags := 1537
  interfaces := #[]
  cf := some (fileOf pool3 1 #[] #[] 1537 3 #[] #[])
  fields := #[]
  methods := #[]
  instanceTypes := #[]
  staticTypes := #[]
  resolved := Array.replicate 12 none
  statics := none }

def pool4 : Array CpInfo := pool [(2, .class_ 4), (1, u "java/lang/CharSequence"), (42, .class_ 48), (0, u "java/lang/CharSequence$1CodePointIterator"), (10, .class_ 60), (0, u "java/lang/CharSequence$1CharIterator"), (5, .class_ 67), (0, u "java/lang/Object")] 63

/-- java/lang/CharSequence -/
def k4 : Class := { plain "java/lang/CharSequence" (some 0) with
  accessFlags := 1537
  interfaces := #[]
  cf := some (fileOf pool4 2 #[.nestMembers #[47, 59]] #[] 1537 66 #[] #[])
  fields := #[]
  methods := #[]
  instanceTypes := #[]
  staticTypes := #[]
  resolved := Array.replicate 131 none
  statics := none }

def pool5 : Array CpInfo := pool [(1, .class_ 2), (0, u "java/lang/constant/Constable"), (0, .class_ 4), (0, u "java/lang/Object")] 6

/-- java/lang/constant/Constable -/
def k5 : Class := { plain "java/lang/constant/Constable" (some 0) with
  accessFlags := 1537
  interfaces := #[]
  cf := some (fileOf pool5 1 #[] #[] 1537 3 #[] #[])
  fields := #[]
  methods := #[]
  instanceTypes := #[]
  staticTypes := #[]
  resolved := Array.replicate 11 none
  statics := none }

def pool6 : Array CpInfo := pool [(1, .class_ 2), (0, u "java/lang/constant/ConstantDesc"), (0, .class_ 4), (0, u "java/lang/Object")] 32

/-- java/lang/constant/ConstantDesc -/
def k6 : Class := { plain "java/lang/constant/ConstantDesc" (some 0) with
  accessFlags := 1537
  interfaces := #[]
  cf := some (fileOf pool6 1 #[] #[] 1537 3 #[] #[])
  fields := #[]
  methods := #[]
  instanceTypes := #[]
  staticTypes := #[]
  resolved := Array.replicate 37 none
  statics := none }

def pool7 : Array CpInfo := pool [(1, .methodref 2 3), (0, .class_ 4), (0, .nameAndType 5 6), (0, u "java/lang/Object"), (0, u "<init>"), (0, u "()V"), (2, .fieldref 10 11), (0, .class_ 12), (0, .nameAndType 13 14), (0, u "java/lang/String"), (0, u "value"), (0, u "[B"), (0, .fieldref 10 16), (0, .nameAndType 17 18), (0, u "coder"), (0, u "B"), (2, u "hash"), (0, u "I"), (2, u "hashIsZero"), (0, u "Z"), (11, .fieldref 10 39), (0, .nameAndType 40 26), (0, u "COMPACT_STRINGS"), (12, u "toBytes"), (0, .methodref 55 56), (0, .class_ 57), (0, .nameAndType 58 59), (0, u "java/util/Arrays"), (0, u "copyOfRange"), (0, u "([BII)[B"), (47, .class_ 109), (1, u "java/lang/StringLatin1"), (32, u "()Z"), (50, .class_ 195), (1, u "java/lang/System"), (13, .methodref 10 210), (0, .nameAndType 5 211), (0, u "([BB)V"), (0, .methodref 193 213), (0, .nameAndType 214 215), (0, u "arraycopy"), (0, u "(Ljava/lang/Object;ILjava/lang/Object;II)V"), (118, u "()I"), (0, .methodref 10 336), (0, .nameAndType 17 337), (0, u "()B"), (2, u "()[B"), (28, u "(C)Z"), (119, .methodref 10 490), (0, .nameAndType 5 491), (0, u "(Ljava/lang/AbstractStringBuilder;Ljava/lang/Void;)V"), (1, .nameAndType 494 142), (0, u "isLatin1"), (11, .nameAndType 507 334), (0, u "length"), (24, u "getBytes"), (8, .methodref 107 542), (0, .nameAndType 543 544), (0, u "equals"), (0, u "([B[B)Z"), (4, .methodref 550 506), (0, .class_ 551), (0, u "java/lang/AbstractStringBuilder"), (0, .methodref 550 553), (0, .nameAndType 554 340), (0, u "getValue"), (18, u "(Ljava/lang/Object;)Z"), (1, .class_ 576), (0, u "java/lang/CharSequence"), (22, u "CASE_INSENSITIVE_ORDER"), (0, u "Ljava/util/Comparator;"), (181, u "valueOf"), (0, u "(C)Ljava/lang/String;"), (37, u "([BIB)V"), (193, .methodref 107 1016), (0, .nameAndType 1017 369), (0, u "canEncode"), (0, .methodref 107 1019), (0, .nameAndType 53 1020), (0, u "(C)[B"), (26, .methodref 550 493), (53, u "serialPersistentFields"), (0, u "[Ljava/io/ObjectStreamField;"), (0, .class_ 1104), (0, u "java/lang/String$CaseInsensitiveComparator"), (1, .class_ 1107), (0, u "java/io/Serializable"), (0, .class_ 1109), (0, u "java/lang/Comparable"), (0, .class_ 1111), (0, u "java/lang/constant/Constable"), (0, .class_ 1113), (0, u "java/lang/constant/ConstantDesc"), (2, u "serialVersionUID"), (0, u "J"), (3, u "REPL"), (0, u "C"), (2, u "LATIN1"), (1, u "UTF16"), (105, u "(Ljava/lang/StringBuilder;)V")] 217

def k7m0 : Method := { name := "<init>", desc := "()V", sig := { parameters := [], returnType := none }, accessFlags := 1, code := none }
def k7c1 : Code := { maxStack := 3, maxLocals := 2, code := jdk_42_method_53_code, exceptionTable := #[], attributes := #[] }
def k7m1 : Method := { name := "<init>", desc := "(Ljava/lang/StringBuilder;)V", sig := { parameters := [(.object "java/lang/StringBuilder")], returnType := none }, accessFlags := 1, code := some k7c1 }
def k7c2 : Code := { maxStack := 2, maxLocals := 1, code := jdk_42_method_54_code, exceptionTable := #[], attributes := #[] }
def k7m2 : Method := { name := "length", desc := "()I", sig := { parameters := [], returnType := some .int }, accessFlags := 1, code := some k7c2 }
def k7c3 : Code := { maxStack := 2, maxLocals := 3, code := jdk_42_method_66_code, exceptionTable := #[], attributes := #[] }
def k7m3 : Method := { name := "equals", desc := "(Ljava/lang/Object;)Z", sig := { parameters := [(.object "java/lang/Object")], returnType := some .boolean }, accessFlags := 1, code := some k7c3 }
def k7c4 : Code := { maxStack := 4, maxLocals := 1, code := jdk_42_method_139_code, exceptionTable := #[], attributes := #[] }
def k7m4 : Method := { name := "valueOf", desc := "(C)Ljava/lang/String;", sig := { parameters := [.char], returnType := some (.object "java/lang/String") }, accessFlags := 9, code := some k7c4 }
def k7c5 : Code := { maxStack := 5, maxLocals := 4, code := jdk_42_method_147_code, exceptionTable := #[], attributes := #[] }
def k7m5 : Method := { name := "getBytes", desc := "([BIB)V", sig := { parameters := [(.array .byte), .int, .byte], returnType := none }, accessFlags := 0, code := some k7c5 }
def k7c6 : Code := { maxStack := 5, maxLocals := 5, code := jdk_42_method_150_code, exceptionTable := #[], attributes := #[] }
def k7m6 : Method := { name := "<init>", desc := "(Ljava/lang/AbstractStringBuilder;Ljava/lang/Void;)V", sig := { parameters := [(.object "java/lang/AbstractStringBuilder"), (.object "java/lang/Void")], returnType := none }, accessFlags := 0, code := some k7c6 }
def k7c7 : Code := { maxStack := 2, maxLocals := 3, code := jdk_42_method_151_code, exceptionTable := #[], attributes := #[] }
def k7m7 : Method := { name := "<init>", desc := "([BB)V", sig := { parameters := [(.array .byte), .byte], returnType := none }, accessFlags := 0, code := some k7c7 }
def k7c8 : Code := { maxStack := 1, maxLocals := 1, code := jdk_42_method_152_code, exceptionTable := #[], attributes := #[] }
def k7m8 : Method := { name := "coder", desc := "()B", sig := { parameters := [], returnType := some .byte }, accessFlags := 0, code := some k7c8 }
/-- java/lang/String -/
def k7 : Class := { plain "java/lang/String" (some 0) with
  accessFlags := 49
  interfaces := #[2, 3, 4, 5, 6]
  cf := some (fileOf pool7 10 #[.nestMembers #[1103]] #[{ accessFlags := 1, nameIndex := 5, descriptorIndex := 6, attributes := #[] }, { accessFlags := 1, nameIndex := 5, descriptorIndex := 1233, attributes := #[] }, { accessFlags := 1, nameIndex := 507, descriptorIndex := 334, attributes := #[] }, { accessFlags := 1, nameIndex := 543, descriptorIndex := 573, attributes := #[] }, { accessFlags := 9, nameIndex := 782, descriptorIndex := 783, attributes := #[] }, { accessFlags := 0, nameIndex := 532, descriptorIndex := 821, attributes := #[] }, { accessFlags := 0, nameIndex := 5, descriptorIndex := 491, attributes := #[] }, { accessFlags := 0, nameIndex := 5, descriptorIndex := 211, attributes := #[] }, { accessFlags := 0, nameIndex := 17, descriptorIndex := 337, attributes := #[] }] 49 2 #[1106, 1108, 575, 1110, 1112] #[{ accessFlags := 18, nameIndex := 13, descriptorIndex := 14, attributes := #[] }, { accessFlags := 18, nameIndex := 17, descriptorIndex := 18, attributes := #[] }, { accessFlags := 2, nameIndex := 21, descriptorIndex := 22, attributes := #[] }, { accessFlags := 2, nameIndex := 25, descriptorIndex := 26, attributes := #[] }, { accessFlags := 26, nameIndex := 1116, descriptorIndex := 1117, attributes := #[] }, { accessFlags := 24, nameIndex := 40, descriptorIndex := 26, attributes := #[] }, { accessFlags := 26, nameIndex := 1101, descriptorIndex := 1102, attributes := #[] }, { accessFlags := 26, nameIndex := 1121, descriptorIndex := 1122, attributes := #[] }, { accessFlags := 25, nameIndex := 599, descriptorIndex := 600, attributes := #[] }, { accessFlags := 24, nameIndex := 1125, descriptorIndex := 18, attributes := #[] }, { accessFlags := 24, nameIndex := 1127, descriptorIndex := 18, attributes := #[] }])
  fields := #[{ name := "value", type := (.array .byte), accessFlags := 18, slot := 0, constantValue := 0 }, { name := "coder", type := .byte, accessFlags := 18, slot := 1, constantValue := 0 }, { name := "hash", type := .int, accessFlags := 2, slot := 2, constantValue := 0 }, { name := "hashIsZero", type := .boolean, accessFlags := 2, slot := 3, constantValue := 0 }, { name := "serialVersionUID", type := .long, accessFlags := 26, slot := 0, constantValue := 0 }, { name := "COMPACT_STRINGS", type := .boolean, accessFlags := 24, slot := 1, constantValue := 0 }, { name := "serialPersistentFields", type := (.array (.object "java/io/ObjectStreamField")), accessFlags := 26, slot := 2, constantValue := 0 }, { name := "REPL", type := .char, accessFlags := 26, slot := 3, constantValue := 0 }, { name := "CASE_INSENSITIVE_ORDER", type := (.object "java/util/Comparator"), accessFlags := 25, slot := 4, constantValue := 0 }, { name := "LATIN1", type := .byte, accessFlags := 24, slot := 5, constantValue := 0 }, { name := "UTF16", type := .byte, accessFlags := 24, slot := 6, constantValue := 0 }]
  methods := #[k7m0, k7m1, k7m2, k7m3, k7m4, k7m5, k7m6, k7m7, k7m8]
  instanceTypes := #[(.array .byte), .byte, .int, .boolean]
  staticTypes := #[.long, .boolean, (.array (.object "java/io/ObjectStreamField")), .char, (.object "java/util/Comparator"), .byte, .byte]
  resolved := Array.replicate 1451 none
  statics := some 0 }

def pool8 : Array CpInfo := pool [(4, .class_ 6), (1, u "java/lang/Object"), (0, u "<init>"), (0, u "()V"), (5, .class_ 16), (1, u "java/lang/StringLatin1"), (73, u "canEncode"), (14, u "(C)Z"), (15, u "$assertionsDisabled"), (0, u "Z"), (98, .class_ 223), (1, u "java/lang/StringLatin1$LinesSpliterator"), (57, u "equals"), (0, u "([B[B)Z"), (97, u "toBytes"), (1, u "(C)[B"), (7, .class_ 391), (0, u "java/lang/StringLatin1$CharsSpliterator")] 3

def k8m0 : Method := { name := "<init>", desc := "()V", sig := { parameters := [], returnType := none }, accessFlags := 0, code := none }
def k8c1 : Code := { maxStack := 2, maxLocals := 1, code := jdk_43_method_3_code, exceptionTable := #[], attributes := #[] }
def k8m1 : Method := { name := "canEncode", desc := "(C)Z", sig := { parameters := [.char], returnType := some .boolean }, accessFlags := 9, code := some k8c1 }
def k8c2 : Code := { maxStack := 3, maxLocals := 3, code := jdk_43_method_13_code, exceptionTable := #[], attributes := #[] }
def k8m2 : Method := { name := "equals", desc := "([B[B)Z", sig := { parameters := [(.array .byte), (.array .byte)], returnType := some .boolean }, accessFlags := 9, code := some k8c2 }
def k8c3 : Code := { maxStack := 4, maxLocals := 1, code := jdk_43_method_46_code, exceptionTable := #[], attributes := #[] }
def k8m3 : Method := { name := "toBytes", desc := "(C)[B", sig := { parameters := [.char], returnType := some (.array .byte) }, accessFlags := 9, code := some k8c3 }
/-- java/lang/StringLatin1 -/
def k8 : Class := { plain "java/lang/StringLatin1" (some 0) with
  accessFlags := 48
  interfaces := #[]
  cf := some (fileOf pool8 14 #[.nestMembers #[390, 221]] #[{ accessFlags := 0, nameIndex := 7, descriptorIndex := 8, attributes := #[] }, { accessFlags := 9, nameIndex := 90, descriptorIndex := 105, attributes := #[] }, { accessFlags := 9, nameIndex := 281, descriptorIndex := 282, attributes := #[] }, { accessFlags := 9, nameIndex := 380, descriptorIndex := 382, attributes := #[] }] 48 4 #[] #[{ accessFlags := 4120, nameIndex := 121, descriptorIndex := 122, attributes := #[] }])
  fields := #[{ name := "$assertionsDisabled", type := .boolean, accessFlags := 4120, slot := 0, constantValue := 0 }]
  methods := #[k8m0, k8m1, k8m2, k8m3]
  instanceTypes := #[]
  staticTypes := #[.boolean]
  resolved := Array.replicate 395 none
  statics := none }

def pool9 : Array CpInfo := pool [(1, .methodref 2 3), (0, .class_ 4), (0, .nameAndType 5 6), (0, u "com/example/wireup/wireup/Item"), (0, u "<init>"), (0, u "(Ljava/lang/String;Ljava/lang/String;Ljava/lang/String;)V"), (0, .methodref 8 9), (0, .class_ 10), (0, .nameAndType 5 11), (0, u "java/lang/Object"), (0, u "()V"), (0, .fieldref 2 13), (0, .nameAndType 14 15), (0, u "label"), (0, u "Ljava/lang/String;"), (0, .fieldref 2 17), (0, .nameAndType 18 15), (0, u "part"), (0, .fieldref 2 20), (0, .nameAndType 21 15), (0, u "origin"), (0, .methodref 23 24), (0, .class_ 25), (0, .nameAndType 26 27), (0, u "java/lang/String"), (0, u "equals"), (0, u "(Ljava/lang/Object;)Z"), (0, .class_ 29), (0, u "java/lang/StringBuilder"), (0, .methodref 28 9), (0, .methodref 28 32), (0, .nameAndType 33 34), (0, u "append"), (0, u "(Ljava/lang/String;)Ljava/lang/StringBuilder;"), (0, .string 36), (0, u ", "), (0, .methodref 28 38), (0, .nameAndType 39 40), (0, u "toString"), (0, u "()Ljava/lang/String;"), (0, .string 42), (0, u " ("), (0, .string 44), (0, u ")"), (3, u "at"), (0, u "(Ljava/lang/String;)Lcom/example/wireup/wireup/Item;"), (1, u "getPart"), (0, u "describe")] 2

def k9c0 : Code := { maxStack := 2, maxLocals := 4, code := prog_47_method_2_code, exceptionTable := #[], attributes := #[] }
def k9m0 : Method := { name := "<init>", desc := "(Ljava/lang/String;Ljava/lang/String;Ljava/lang/String;)V", sig := { parameters := [(.object "java/lang/String"), (.object "java/lang/String"), (.object "java/lang/String")], returnType := none }, accessFlags := 0, code := some k9c0 }
def k9c1 : Code := { maxStack := 5, maxLocals := 2, code := prog_47_method_3_code, exceptionTable := #[], attributes := #[] }
def k9m1 : Method := { name := "at", desc := "(Ljava/lang/String;)Lcom/example/wireup/wireup/Item;", sig := { parameters := [(.object "java/lang/String")], returnType := some (.object "com/example/wireup/wireup/Item") }, accessFlags := 0, code := some k9c1 }
def k9c2 : Code := { maxStack := 1, maxLocals := 1, code := prog_47_method_4_code, exceptionTable := #[], attributes := #[] }
def k9m2 : Method := { name := "getPart", desc := "()Ljava/lang/String;", sig := { parameters := [], returnType := some (.object "java/lang/String") }, accessFlags := 0, code := some k9c2 }
def k9c3 : Code := { maxStack := 3, maxLocals := 1, code := prog_47_method_5_code, exceptionTable := #[], attributes := #[] }
def k9m3 : Method := { name := "describe", desc := "()Ljava/lang/String;", sig := { parameters := [], returnType := some (.object "java/lang/String") }, accessFlags := 0, code := some k9c3 }
/-- com/example/wireup/wireup/Item -/
def k9 : Class := { plain "com/example/wireup/wireup/Item" (some 0) with
  accessFlags := 32
  interfaces := #[]
  cf := some (fileOf pool9 2 #[] #[{ accessFlags := 0, nameIndex := 5, descriptorIndex := 6, attributes := #[] }, { accessFlags := 0, nameIndex := 48, descriptorIndex := 49, attributes := #[] }, { accessFlags := 0, nameIndex := 51, descriptorIndex := 40, attributes := #[] }, { accessFlags := 0, nameIndex := 52, descriptorIndex := 40, attributes := #[] }] 32 8 #[] #[{ accessFlags := 18, nameIndex := 14, descriptorIndex := 15, attributes := #[] }, { accessFlags := 18, nameIndex := 18, descriptorIndex := 15, attributes := #[] }, { accessFlags := 18, nameIndex := 21, descriptorIndex := 15, attributes := #[] }])
  fields := #[{ name := "label", type := (.object "java/lang/String"), accessFlags := 18, slot := 0, constantValue := 0 }, { name := "part", type := (.object "java/lang/String"), accessFlags := 18, slot := 1, constantValue := 0 }, { name := "origin", type := (.object "java/lang/String"), accessFlags := 18, slot := 2, constantValue := 0 }]
  methods := #[k9m0, k9m1, k9m2, k9m3]
  instanceTypes := #[(.object "java/lang/String"), (.object "java/lang/String"), (.object "java/lang/String")]
  staticTypes := #[]
  resolved := Array.replicate 55 none
  statics := none }

def pool10 : Array CpInfo := pool [(1, .class_ 2), (0, u "java/lang/Appendable"), (0, .class_ 4), (0, u "java/lang/Object")] 9

/-- java/lang/Appendable -/
def k10 : Class := { plain "java/lang/Appendable" (some 0) with
  accessFlags := 1537
  interfaces := #[]
  cf := some (fileOf pool10 1 #[] #[] 1537 3 #[] #[])
  fields := #[]
  methods := #[]
  instanceTypes := #[]
  staticTypes := #[]
  resolved := Array.replicate 14 none
  statics := none }

def pool11 : Array CpInfo := pool [(1, .class_ 2), (0, u "java/lang/String"), (0, .methodref 4 5), (0, .class_ 6), (0, .nameAndType 7 8), (0, u "java/lang/Object"), (0, u "<init>"), (0, u "()V"), (1, .class_ 12), (1, u "java/lang/AbstractStringBuilder"), (0, u "EMPTYVALUE"), (0, u "[B"), (0, .fieldref 10 16), (0, .nameAndType 17 14), (0, u "value"), (0, .fieldref 1 19), (0, .nameAndType 20 21), (0, u "COMPACT_STRINGS"), (0, u "Z"), (0, .fieldref 10 23), (0, .nameAndType 24 25), (0, u "coder"), (0, u "B"), (6, .methodref 1 33), (0, .nameAndType 34 35), (0, u "length"), (0, u "()I"), (4, .methodref 1 41), (0, .nameAndType 24 42), (0, u "()B"), (2, u "append"), (0, u "(Ljava/lang/String;)Ljava/lang/AbstractStringBuilder;"), (1, .class_ 49), (0, u "java/lang/CharSequence"), (19, u "(Ljava/lang/String;)V"), (5, u "maybeLatin1"), (3, .fieldref 10 80), (0, .nameAndType 81 82), (0, u "count"), (0, u "I"), (2, u "isLatin1"), (0, u "()Z"), (13, .methodref 10 101), (0, .nameAndType 102 103), (0, u "ensureCapacityInternal"), (0, u "(I)V"), (104, .methodref 10 209), (0, .nameAndType 210 211), (0, u "putStringAt"), (0, u "(ILjava/lang/String;)V"), (5, u "inflateIfNeededFor"), (2, .nameAndType 221 222), (0, u "getBytes"), (0, u "([BIB)V"), (174, .methodref 10 398), (0, .nameAndType 217 69), (0, .methodref 1 220), (3, u "()[B"), (40, .class_ 445), (0, u "java/lang/Appendable"), (106, u "getValue")] 56

def k11m0 : Method := { name := "<init>", desc := "()V", sig := { parameters := [], returnType := none }, accessFlags := 0, code := none }
def k11c1 : Code := { maxStack := 2, maxLocals := 2, code := jdk_68_method_2_code, exceptionTable := #[], attributes := #[] }
def k11m1 : Method := { name := "<init>", desc := "(I)V", sig := { parameters := [.int], returnType := none }, accessFlags := 0, code := some k11c1 }
def k11c2 : Code := { maxStack := 1, maxLocals := 1, code := jdk_68_method_6_code, exceptionTable := #[], attributes := #[] }
def k11m2 : Method := { name := "length", desc := "()I", sig := { parameters := [], returnType := some .int }, accessFlags := 1, code := some k11c2 }
def k11c3 : Code := { maxStack := 4, maxLocals := 3, code := jdk_68_method_9_code, exceptionTable := #[], attributes := #[] }
def k11m3 : Method := { name := "ensureCapacityInternal", desc := "(I)V", sig := { parameters := [.int], returnType := none }, accessFlags := 2, code := some k11c3 }
def k11c4 : Code := { maxStack := 3, maxLocals := 3, code := jdk_68_method_22_code, exceptionTable := #[], attributes := #[] }
def k11m4 : Method := { name := "append", desc := "(Ljava/lang/String;)Ljava/lang/AbstractStringBuilder;", sig := { parameters := [(.object "java/lang/String")], returnType := some (.object "java/lang/AbstractStringBuilder") }, accessFlags := 1, code := some k11c4 }
def k11c5 : Code := { maxStack := 1, maxLocals := 1, code := jdk_68_method_64_code, exceptionTable := #[], attributes := #[] }
def k11m5 : Method := { name := "getValue", desc := "()[B", sig := { parameters := [], returnType := some (.array .byte) }, accessFlags := 16, code := some k11c5 }
def k11c6 : Code := { maxStack := 1, maxLocals := 1, code := jdk_68_method_68_code, exceptionTable := #[], attributes := #[] }
def k11m6 : Method := { name := "isLatin1", desc := "()Z", sig := { parameters := [], returnType := some .boolean }, accessFlags := 16, code := some k11c6 }
def k11c7 : Code := { maxStack := 2, maxLocals := 2, code := jdk_68_method_71_code, exceptionTable := #[], attributes := #[] }
def k11m7 : Method := { name := "inflateIfNeededFor", desc := "(Ljava/lang/String;)V", sig := { parameters := [(.object "java/lang/String")], returnType := none }, accessFlags := 2, code := some k11c7 }
def k11c8 : Code := { maxStack := 4, maxLocals := 3, code := jdk_68_method_73_code, exceptionTable := #[], attributes := #[] }
def k11m8 : Method := { name := "putStringAt", desc := "(ILjava/lang/String;)V", sig := { parameters := [.int, (.object "java/lang/String")], returnType := none }, accessFlags := 2, code := some k11c8 }
/-- java/lang/AbstractStringBuilder -/
def k11 : Class := { plain "java/lang/AbstractStringBuilder" (some 0) with
  accessFlags := 1056
  interfaces := #[10, 4]
  cf := some (fileOf pool11 10 #[] #[{ accessFlags := 0, nameIndex := 7, descriptorIndex := 8, attributes := #[] }, { accessFlags := 0, nameIndex := 7, descriptorIndex := 103, attributes := #[] }, { accessFlags := 1, nameIndex := 34, descriptorIndex := 35, attributes := #[] }, { accessFlags := 2, nameIndex := 102, descriptorIndex := 103, attributes := #[] }, { accessFlags := 1, nameIndex := 45, descriptorIndex := 46, attributes := #[] }, { accessFlags := 16, nameIndex := 552, descriptorIndex := 403, attributes := #[] }, { accessFlags := 16, nameIndex := 85, descriptorIndex := 86, attributes := #[] }, { accessFlags := 2, nameIndex := 217, descriptorIndex := 69, attributes := #[] }, { accessFlags := 2, nameIndex := 210, descriptorIndex := 211, attributes := #[] }] 1056 4 #[444, 48] #[{ accessFlags := 0, nameIndex := 17, descriptorIndex := 14, attributes := #[] }, { accessFlags := 0, nameIndex := 24, descriptorIndex := 25, attributes := #[] }, { accessFlags := 0, nameIndex := 75, descriptorIndex := 21, attributes := #[] }, { accessFlags := 0, nameIndex := 81, descriptorIndex := 82, attributes := #[] }, { accessFlags := 26, nameIndex := 13, descriptorIndex := 14, attributes := #[] }])
  fields := #[{ name := "value", type := (.array .byte), accessFlags := 0, slot := 0, constantValue := 0 }, { name := "coder", type := .byte, accessFlags := 0, slot := 1, constantValue := 0 }, { name := "maybeLatin1", type := .boolean, accessFlags := 0, slot := 2, constantValue := 0 }, { name := "count", type := .int, accessFlags := 0, slot := 3, constantValue := 0 }, { name := "EMPTYVALUE", type := (.array .byte), accessFlags := 26, slot := 0, constantValue := 0 }]
  methods := #[k11m0, k11m1, k11m2, k11m3, k11m4, k11m5, k11m6, k11m7, k11m8]
  instanceTypes := #[(.array .byte), .byte, .boolean, .int]
  staticTypes := #[(.array .byte)]
  resolved := Array.replicate 609 none
  statics := none }

def pool12 : Array CpInfo := pool [(1, .methodref 2 3), (0, .class_ 4), (0, .nameAndType 5 6), (0, u "java/lang/AbstractStringBuilder"), (0, u "<init>"), (0, u "(I)V"), (11, .class_ 20), (1, u "java/lang/String"), (3, .class_ 26), (1, u "java/lang/StringBuilder"), (0, u "append"), (0, u "(Ljava/lang/String;)Ljava/lang/StringBuilder;"), (0, .methodref 2 30), (0, .nameAndType 27 31), (0, u "(Ljava/lang/String;)Ljava/lang/AbstractStringBuilder;"), (105, .methodref 18 138), (0, .nameAndType 5 139), (0, u "(Ljava/lang/StringBuilder;)V"), (5, u "()V"), (10, u "()I"), (186, .methodref 2 344), (0, .nameAndType 345 156), (0, u "length"), (3, .class_ 350), (0, u "java/lang/Appendable"), (0, .class_ 352), (0, u "java/io/Serializable"), (0, .class_ 354), (0, u "java/lang/Comparable"), (0, .class_ 356), (0, u "java/lang/CharSequence"), (0, u "serialVersionUID"), (0, u "J"), (40, u "toString"), (0, u "()Ljava/lang/String;")] 21

def k12c0 : Code := { maxStack := 2, maxLocals := 1, code := jdk_67_method_1_code, exceptionTable := #[], attributes := #[] }
def k12m0 : Method := { name := "<init>", desc := "()V", sig := { parameters := [], returnType := none }, accessFlags := 1, code := some k12c0 }
def k12c1 : Code := { maxStack := 2, maxLocals := 2, code := jdk_67_method_7_code, exceptionTable := #[], attributes := #[] }
def k12m1 : Method := { name := "append", desc := "(Ljava/lang/String;)Ljava/lang/StringBuilder;", sig := { parameters := [(.object "java/lang/String")], returnType := some (.object "java/lang/StringBuilder") }, accessFlags := 1, code := some k12c1 }
def k12c2 : Code := { maxStack := 3, maxLocals := 1, code := jdk_67_method_42_code, exceptionTable := #[], attributes := #[] }
def k12m2 : Method := { name := "toString", desc := "()Ljava/lang/String;", sig := { parameters := [], returnType := some (.object "java/lang/String") }, accessFlags := 1, code := some k12c2 }
def k12c3 : Code := { maxStack := 1, maxLocals := 1, code := jdk_67_method_93_code, exceptionTable := #[], attributes := #[] }
def k12m3 : Method := { name := "length", desc := "()I", sig := { parameters := [], returnType := some .int }, accessFlags := 4161, code := some k12c3 }
/-- java/lang/StringBuilder -/
def k12 : Class := { plain "java/lang/StringBuilder" (some 11) with
  accessFlags := 49
  interfaces := #[10, 2, 3, 4]
  cf := some (fileOf pool12 24 #[] #[{ accessFlags := 1, nameIndex := 5, descriptorIndex := 145, attributes := #[] }, { accessFlags := 1, nameIndex := 27, descriptorIndex := 28, attributes := #[] }, { accessFlags := 1, nameIndex := 399, descriptorIndex := 400, attributes := #[] }, { accessFlags := 4161, nameIndex := 345, descriptorIndex := 156, attributes := #[] }] 49 2 #[349, 351, 353, 355] #[{ accessFlags := 24, nameIndex := 357, descriptorIndex := 358, attributes := #[] }])
  fields := #[{ name := "serialVersionUID", type := .long, accessFlags := 24, slot := 0, constantValue := 0 }]
  methods := #[k12m0, k12m1, k12m2, k12m3]
  instanceTypes := #[(.array .byte), .byte, .boolean, .int]
  staticTypes := #[.long]
  resolved := Array.replicate 422 none
  statics := none }

def pool13 : Array CpInfo := pool [(2, .class_ 4), (1, u "java/lang/Object"), (0, u "<init>"), (0, u "()V"), (1, .class_ 10), (1, u "java/lang/System"), (0, u "allowSecurityManager"), (0, u "I"), (16, u "cons"), (0, u "Ljava/io/Console;"), (77, .class_ 110), (1, u "java/lang/System$CallersHolder"), (43, u "initialErrStream"), (0, u "Ljava/io/PrintStream;"), (19, u "security"), (0, u "Ljava/lang/SecurityManager;"), (31, .class_ 209), (0, u "java/lang/System$1"), (7, u "props"), (0, u "Ljava/util/Properties;"), (2, u "lineSeparator"), (0, u "Ljava/lang/String;"), (96, .class_ 321), (1, u "java/lang/System$LoggerFinder"), (5, .class_ 328), (0, u "java/lang/System$Logger"), (67, u "err"), (2, u "out"), (91, u "notSupportedJnuEncoding"), (15, u "in"), (17, u "initialIn"), (0, u "Ljava/io/InputStream;"), (35, u "bootLayer"), (0, u "Ljava/lang/ModuleLayer;"), (99, .class_ 664), (0, u "java/lang/System$2"), (9, u "NEVER"), (2, u "MAYBE"), (49, u "arraycopy"), (0, u "(Ljava/lang/Object;ILjava/lang/Object;II)V"), (72, .class_ 802), (0, u "java/lang/System$Logger$Level")] 31

def k13m0 : Method := { name := "<init>", desc := "()V", sig := { parameters := [], returnType := none }, accessFlags := 2, code := none }
def k13m1 : Method := { name := "arraycopy", desc := "(Ljava/lang/Object;ILjava/lang/Object;II)V", sig := { parameters := [(.object "java/lang/Object"), .int, (.object "java/lang/Object"), .int, .int], returnType := none }, accessFlags := 265, code := none }
/-- java/lang/System -/
def k13 : Class := { plain "java/lang/System" (some 0) with
  accessFlags := 49
  interfaces := #[]
  cf := some (fileOf pool13 8 #[.nestMembers #[319, 327, 801, 108, 663, 208]] #[{ accessFlags := 2, nameIndex := 5, descriptorIndex := 6, attributes := #[] }, { accessFlags := 265, nameIndex := 727, descriptorIndex := 728, attributes := #[] }] 49 2 #[] #[{ accessFlags := 25, nameIndex := 507, descriptorIndex := 526, attributes := #[] }, { accessFlags := 25, nameIndex := 399, descriptorIndex := 155, attributes := #[] }, { accessFlags := 25, nameIndex := 396, descriptorIndex := 155, attributes := #[] }, { accessFlags := 10, nameIndex := 525, descriptorIndex := 526, attributes := #[] }, { accessFlags := 26, nameIndex := 674, descriptorIndex := 12, attributes := #[] }, { accessFlags := 26, nameIndex := 677, descriptorIndex := 12, attributes := #[] }, { accessFlags := 10, nameIndex := 11, descriptorIndex := 12, attributes := #[] }, { accessFlags := 74, nameIndex := 175, descriptorIndex := 176, attributes := #[] }, { accessFlags := 10, nameIndex := 491, descriptorIndex := 222, attributes := #[] }, { accessFlags := 74, nameIndex := 29, descriptorIndex := 30, attributes := #[] }, { accessFlags := 74, nameIndex := 154, descriptorIndex := 155, attributes := #[] }, { accessFlags := 10, nameIndex := 217, descriptorIndex := 218, attributes := #[] }, { accessFlags := 10, nameIndex := 221, descriptorIndex := 222, attributes := #[] }, { accessFlags := 8, nameIndex := 562, descriptorIndex := 563, attributes := #[] }])
  fields := #[{ name := "in", type := (.object "java/io/InputStream"), accessFlags := 25, slot := 0, constantValue := 0 }, { name := "out", type := (.object "java/io/PrintStream"), accessFlags := 25, slot := 1, constantValue := 0 }, { name := "err", type := (.object "java/io/PrintStream"), accessFlags := 25, slot := 2, constantValue := 0 }, { name := "initialIn", type := (.object "java/io/InputStream"), accessFlags := 10, slot := 3, constantValue := 0 }, { name := "NEVER", type := .int, accessFlags := 26, slot := 4, constantValue := 0 }, { name := "MAYBE", type := .int, accessFlags := 26, slot := 5, constantValue := 0 }, { name := "allowSecurityManager", type := .int, accessFlags := 10, slot := 6, constantValue := 0 }, { name := "security", type := (.object "java/lang/SecurityManager"), accessFlags := 74, slot := 7, constantValue := 0 }, { name := "notSupportedJnuEncoding", type := (.object "java/lang/String"), accessFlags := 10, slot := 8, constantValue := 0 }, { name := "cons", type := (.object "java/io/Console"), accessFlags := 74, slot := 9, constantValue := 0 }, { name := "initialErrStream", type := (.object "java/io/PrintStream"), accessFlags := 74, slot := 10, constantValue := 0 }, { name := "props", type := (.object "java/util/Properties"), accessFlags := 10, slot := 11, constantValue := 0 }, { name := "lineSeparator", type := (.object "java/lang/String"), accessFlags := 10, slot := 12, constantValue := 0 }, { name := "bootLayer", type := (.object "java/lang/ModuleLayer"), accessFlags := 8, slot := 13, constantValue := 0 }]
  methods := #[k13m0, k13m1]
  instanceTypes := #[]
  staticTypes := #[(.object "java/io/InputStream"), (.object "java/io/PrintStream"), (.object "java/io/PrintStream"), (.object "java/io/InputStream"), .int, .int, .int, (.object "java/lang/SecurityManager"), (.object "java/lang/String"), (.object "java/io/Console"), (.object "java/io/PrintStream"), (.object "java/util/Properties"), (.object "java/lang/String"), (.object "java/lang/ModuleLayer")]
  resolved := Array.replicate 834 none
  statics := none }

def pool14 : Array CpInfo := pool [(2, .class_ 4), (1, u "java/lang/Object"), (0, u "<init>"), (0, u "()V"), (7, .class_ 16), (1, u "java/util/Arrays"), (57, .class_ 76), (1, u "java/util/Arrays$NaturalOrder"), (36, .class_ 115), (1, u "java/util/Arrays$LegacyMergeSort"), (1, u "Z"), (21, u "copyOfRange"), (10, .methodref 151 152), (0, .class_ 153), (0, .nameAndType 154 155), (0, u "java/lang/System"), (0, u "arraycopy"), (0, u "(Ljava/lang/Object;ILjava/lang/Object;II)V"), (148, .methodref 305 306), (0, .class_ 307), (0, .nameAndType 308 309), (0, u "java/lang/Math"), (0, u "min"), (0, u "(II)I"), (29, .methodref 14 340), (0, .nameAndType 341 342), (0, u "copyOfRangeByte"), (0, u "([BII)[B"), (0, .methodref 14 344), (0, .nameAndType 345 346), (0, u "checkLength"), (0, u "(II)V"), (28, .class_ 376), (0, u "java/util/Arrays$ArrayList"), (68, u "$assertionsDisabled"), (269, u "MIN_ARRAY_SORT_GRAN"), (0, u "I"), (2, u "INSERTIONSORT_THRESHOLD"), (255, .class_ 976), (0, u "java/util/Arrays$ArrayItr")] 52

def k14m0 : Method := { name := "<init>", desc := "()V", sig := { parameters := [], returnType := none }, accessFlags := 2, code := none }
def k14c1 : Code := { maxStack := 4, maxLocals := 2, code := jdk_65_method_131_code, exceptionTable := #[], attributes := #[] }
def k14m1 : Method := { name := "checkLength", desc := "(II)V", sig := { parameters := [.int, .int], returnType := none }, accessFlags := 10, code := some k14c1 }
def k14c2 : Code := { maxStack := 3, maxLocals := 3, code := jdk_65_method_132_code, exceptionTable := #[], attributes := #[] }
def k14m2 : Method := { name := "copyOfRange", desc := "([BII)[B", sig := { parameters := [(.array .byte), .int, .int], returnType := some (.array .byte) }, accessFlags := 9, code := some k14c2 }
def k14c3 : Code := { maxStack := 6, maxLocals := 5, code := jdk_65_method_133_code, exceptionTable := #[], attributes := #[] }
def k14m3 : Method := { name := "copyOfRangeByte", desc := "([BII)[B", sig := { parameters := [(.array .byte), .int, .int], returnType := some (.array .byte) }, accessFlags := 10, code := some k14c3 }
/-- java/util/Arrays -/
def k14 : Class := { plain "java/util/Arrays" (some 0) with
  accessFlags := 49
  interfaces := #[]
  cf := some (fileOf pool14 14 #[.nestMembers #[975, 375, 113, 74]] #[{ accessFlags := 2, nameIndex := 5, descriptorIndex := 6, attributes := #[] }, { accessFlags := 10, nameIndex := 345, descriptorIndex := 346, attributes := #[] }, { accessFlags := 9, nameIndex := 139, descriptorIndex := 342, attributes := #[] }, { accessFlags := 10, nameIndex := 341, descriptorIndex := 342, attributes := #[] }] 49 2 #[] #[{ accessFlags := 26, nameIndex := 715, descriptorIndex := 716, attributes := #[] }, { accessFlags := 26, nameIndex := 719, descriptorIndex := 716, attributes := #[] }, { accessFlags := 4120, nameIndex := 445, descriptorIndex := 117, attributes := #[] }])
  fields := #[{ name := "MIN_ARRAY_SORT_GRAN", type := .int, accessFlags := 26, slot := 0, constantValue := 0 }, { name := "INSERTIONSORT_THRESHOLD", type := .int, accessFlags := 26, slot := 1, constantValue := 0 }, { name := "$assertionsDisabled", type := .boolean, accessFlags := 4120, slot := 2, constantValue := 0 }]
  methods := #[k14m0, k14m1, k14m2, k14m3]
  instanceTypes := #[]
  staticTypes := #[.int, .int, .boolean]
  resolved := Array.replicate 1029 none
  statics := none }

def pool15 : Array CpInfo := pool [(1, .class_ 2), (0, u "java/lang/Math"), (1, .class_ 6), (1, u "java/lang/Object"), (0, u "<init>"), (0, u "()V"), (89, .class_ 100), (1, u "java/lang/Math$RandomNumberGeneratorHolder"), (71, u "negativeZeroFloatBits"), (0, u "J"), (2, u "negativeZeroDoubleBits"), (24, u "min"), (43, u "$assertionsDisabled"), (0, u "Z"), (88, u "(II)I"), (2, u "twoToTheDoubleScaleDown"), (0, u "D"), (4, u "twoToTheDoubleScaleUp"), (9, u "E"), (3, u "PI"), (2, u "TAU"), (2, u "DEGREES_TO_RADIANS"), (0, u "RADIANS_TO_DEGREES")] 94

def k15m0 : Method := { name := "<init>", desc := "()V", sig := { parameters := [], returnType := none }, accessFlags := 2, code := none }
def k15c1 : Code := { maxStack := 2, maxLocals := 2, code := jdk_29_method_69_code, exceptionTable := #[], attributes := #[] }
def k15m1 : Method := { name := "min", desc := "(II)I", sig := { parameters := [.int, .int], returnType := some .int }, accessFlags := 9, code := some k15c1 }
/-- java/lang/Math -/
def k15 : Class := { plain "java/lang/Math" (some 0) with
  accessFlags := 49
  interfaces := #[]
  cf := some (fileOf pool15 1 #[.nestMembers #[98]] #[{ accessFlags := 2, nameIndex := 7, descriptorIndex := 8, attributes := #[] }, { accessFlags := 9, nameIndex := 201, descriptorIndex := 335, attributes := #[] }] 49 4 #[] #[{ accessFlags := 25, nameIndex := 354, descriptorIndex := 339, attributes := #[] }, { accessFlags := 25, nameIndex := 358, descriptorIndex := 339, attributes := #[] }, { accessFlags := 25, nameIndex := 361, descriptorIndex := 339, attributes := #[] }, { accessFlags := 26, nameIndex := 364, descriptorIndex := 339, attributes := #[] }, { accessFlags := 26, nameIndex := 365, descriptorIndex := 339, attributes := #[] }, { accessFlags := 26, nameIndex := 172, descriptorIndex := 173, attributes := #[] }, { accessFlags := 26, nameIndex := 176, descriptorIndex := 173, attributes := #[] }, { accessFlags := 8, nameIndex := 344, descriptorIndex := 339, attributes := #[] }, { accessFlags := 8, nameIndex := 338, descriptorIndex := 339, attributes := #[] }, { accessFlags := 4120, nameIndex := 245, descriptorIndex := 246, attributes := #[] }])
  fields := #[{ name := "E", type := .double, accessFlags := 25, slot := 0, constantValue := 0 }, { name := "PI", type := .double, accessFlags := 25, slot := 1, constantValue := 0 }, { name := "TAU", type := .double, accessFlags := 25, slot := 2, constantValue := 0 }, { name := "DEGREES_TO_RADIANS", type := .double, accessFlags := 26, slot := 3, constantValue := 0 }, { name := "RADIANS_TO_DEGREES", type := .double, accessFlags := 26, slot := 4, constantValue := 0 }, { name := "negativeZeroFloatBits", type := .long, accessFlags := 26, slot := 5, constantValue := 0 }, { name := "negativeZeroDoubleBits", type := .long, accessFlags := 26, slot := 6, constantValue := 0 }, { name := "twoToTheDoubleScaleUp", type := .double, accessFlags := 8, slot := 7, constantValue := 0 }, { name := "twoToTheDoubleScaleDown", type := .double, accessFlags := 8, slot := 8, constantValue := 0 }, { name := "$assertionsDisabled", type := .boolean, accessFlags := 4120, slot := 9, constantValue := 0 }]
  methods := #[k15m0, k15m1]
  instanceTypes := #[]
  staticTypes := #[.double, .double, .double, .double, .double, .long, .long, .double, .double, .boolean]
  resolved := Array.replicate 460 none
  statics := none }

def pool16 : Array CpInfo := pool [(2, .class_ 4), (1, u "java/lang/Object"), (0, u "<init>"), (0, u "()V"), (17, .class_ 26), (1, u "jdk/internal/util/Preconditions"), (28, .class_ 56), (0, u "jdk/internal/util/Preconditions$4"), (57, .class_ 115), (0, u "jdk/internal/util/Preconditions$1"), (7, u "SIOOBE_FORMATTER"), (0, u "Ljava/util/function/BiFunction;"), (0, .class_ 126), (0, u "jdk/internal/util/Preconditions$2"), (3, u "AIOOBE_FORMATTER"), (0, .class_ 132), (0, u "jdk/internal/util/Preconditions$3"), (3, u "IOOBE_FORMATTER")] 57

def k16m0 : Method := { name := "<init>", desc := "()V", sig := { parameters := [], returnType := none }, accessFlags := 1, code := none }
/-- jdk/internal/util/Preconditions -/
def k16 : Class := { plain "jdk/internal/util/Preconditions" (some 0) with
  accessFlags := 33
  interfaces := #[]
  cf := some (fileOf pool16 24 #[.nestMembers #[55, 131, 125, 114]] #[{ accessFlags := 1, nameIndex := 5, descriptorIndex := 6, attributes := #[] }] 33 2 #[] #[{ accessFlags := 25, nameIndex := 123, descriptorIndex := 124, attributes := #[] }, { accessFlags := 25, nameIndex := 130, descriptorIndex := 124, attributes := #[] }, { accessFlags := 25, nameIndex := 136, descriptorIndex := 124, attributes := #[] }])
  fields := #[{ name := "SIOOBE_FORMATTER", type := (.object "java/util/function/BiFunction"), accessFlags := 25, slot := 0, constantValue := 0 }, { name := "AIOOBE_FORMATTER", type := (.object "java/util/function/BiFunction"), accessFlags := 25, slot := 1, constantValue := 0 }, { name := "IOOBE_FORMATTER", type := (.object "java/util/function/BiFunction"), accessFlags := 25, slot := 2, constantValue := 0 }]
  methods := #[k16m0]
  instanceTypes := #[]
  staticTypes := #[(.object "java/util/function/BiFunction"), (.object "java/util/function/BiFunction"), (.object "java/util/function/BiFunction")]
  resolved := Array.replicate 194 none
  statics := some 1 }

def pool17 : Array CpInfo := pool [(9, u "<init>"), (6, .class_ 18), (1, u "java/lang/Object"), (0, u "()V"), (1, .class_ 23), (1, u "jdk/internal/util/ArraysSupport"), (0, u "LOG2_ARRAY_LONG_INDEX_SCALE"), (0, u "I"), (2, u "U"), (0, u "Ljdk/internal/misc/Unsafe;"), (8, u "BIG_ENDIAN"), (0, u "Z"), (8, u "LOG2_BYTE_BIT_SIZE"), (4, u "LOG2_ARRAY_INT_INDEX_SCALE"), (54, u "JLA"), (0, u "Ljdk/internal/access/JavaLangAccess;"), (11, u "LOG2_ARRAY_BOOLEAN_INDEX_SCALE"), (9, u "LOG2_ARRAY_BYTE_INDEX_SCALE"), (5, u "LOG2_ARRAY_CHAR_INDEX_SCALE"), (5, u "LOG2_ARRAY_SHORT_INDEX_SCALE"), (18, u "LOG2_ARRAY_FLOAT_INDEX_SCALE"), (24, u "LOG2_ARRAY_DOUBLE_INDEX_SCALE"), (89, u "T_BOOLEAN"), (2, u "T_CHAR"), (1, u "T_FLOAT"), (1, u "T_DOUBLE"), (1, u "T_BYTE"), (1, u "T_SHORT"), (1, u "T_INT"), (1, u "T_LONG"), (1, u "SOFT_MAX_ARRAY_LENGTH")] 83

def k17m0 : Method := { name := "<init>", desc := "()V", sig := { parameters := [], returnType := none }, accessFlags := 2, code := none }
/-- jdk/internal/util/ArraysSupport -/
def k17 : Class := { plain "jdk/internal/util/ArraysSupport" (some 0) with
  accessFlags := 33
  interfaces := #[]
  cf := some (fileOf pool17 21 #[] #[{ accessFlags := 2, nameIndex := 9, descriptorIndex := 19, attributes := #[] }] 33 16 #[] #[{ accessFlags := 24, nameIndex := 28, descriptorIndex := 29, attributes := #[] }, { accessFlags := 26, nameIndex := 38, descriptorIndex := 39, attributes := #[] }, { accessFlags := 25, nameIndex := 121, descriptorIndex := 25, attributes := #[] }, { accessFlags := 25, nameIndex := 131, descriptorIndex := 25, attributes := #[] }, { accessFlags := 25, nameIndex := 137, descriptorIndex := 25, attributes := #[] }, { accessFlags := 25, nameIndex := 143, descriptorIndex := 25, attributes := #[] }, { accessFlags := 25, nameIndex := 53, descriptorIndex := 25, attributes := #[] }, { accessFlags := 25, nameIndex := 24, descriptorIndex := 25, attributes := #[] }, { accessFlags := 25, nameIndex := 162, descriptorIndex := 25, attributes := #[] }, { accessFlags := 25, nameIndex := 187, descriptorIndex := 25, attributes := #[] }, { accessFlags := 26, nameIndex := 48, descriptorIndex := 25, attributes := #[] }, { accessFlags := 25, nameIndex := 277, descriptorIndex := 25, attributes := #[] }, { accessFlags := 25, nameIndex := 280, descriptorIndex := 25, attributes := #[] }, { accessFlags := 25, nameIndex := 282, descriptorIndex := 25, attributes := #[] }, { accessFlags := 25, nameIndex := 284, descriptorIndex := 25, attributes := #[] }, { accessFlags := 25, nameIndex := 286, descriptorIndex := 25, attributes := #[] }, { accessFlags := 25, nameIndex := 288, descriptorIndex := 25, attributes := #[] }, { accessFlags := 25, nameIndex := 290, descriptorIndex := 25, attributes := #[] }, { accessFlags := 25, nameIndex := 292, descriptorIndex := 25, attributes := #[] }, { accessFlags := 26, nameIndex := 108, descriptorIndex := 109, attributes := #[] }, { accessFlags := 25, nameIndex := 294, descriptorIndex := 25, attributes := #[] }])
  fields := #[{ name := "U", type := (.object "jdk/internal/misc/Unsafe"), accessFlags := 24, slot := 0, constantValue := 0 }, { name := "BIG_ENDIAN", type := .boolean, accessFlags := 26, slot := 1, constantValue := 0 }, { name := "LOG2_ARRAY_BOOLEAN_INDEX_SCALE", type := .int, accessFlags := 25, slot := 2, constantValue := 0 }, { name := "LOG2_ARRAY_BYTE_INDEX_SCALE", type := .int, accessFlags := 25, slot := 3, constantValue := 0 }, { name := "LOG2_ARRAY_CHAR_INDEX_SCALE", type := .int, accessFlags := 25, slot := 4, constantValue := 0 }, { name := "LOG2_ARRAY_SHORT_INDEX_SCALE", type := .int, accessFlags := 25, slot := 5, constantValue := 0 }, { name := "LOG2_ARRAY_INT_INDEX_SCALE", type := .int, accessFlags := 25, slot := 6, constantValue := 0 }, { name := "LOG2_ARRAY_LONG_INDEX_SCALE", type := .int, accessFlags := 25, slot := 7, constantValue := 0 }, { name := "LOG2_ARRAY_FLOAT_INDEX_SCALE", type := .int, accessFlags := 25, slot := 8, constantValue := 0 }, { name := "LOG2_ARRAY_DOUBLE_INDEX_SCALE", type := .int, accessFlags := 25, slot := 9, constantValue := 0 }, { name := "LOG2_BYTE_BIT_SIZE", type := .int, accessFlags := 26, slot := 10, constantValue := 0 }, { name := "T_BOOLEAN", type := .int, accessFlags := 25, slot := 11, constantValue := 0 }, { name := "T_CHAR", type := .int, accessFlags := 25, slot := 12, constantValue := 0 }, { name := "T_FLOAT", type := .int, accessFlags := 25, slot := 13, constantValue := 0 }, { name := "T_DOUBLE", type := .int, accessFlags := 25, slot := 14, constantValue := 0 }, { name := "T_BYTE", type := .int, accessFlags := 25, slot := 15, constantValue := 0 }, { name := "T_SHORT", type := .int, accessFlags := 25, slot := 16, constantValue := 0 }, { name := "T_INT", type := .int, accessFlags := 25, slot := 17, constantValue := 0 }, { name := "T_LONG", type := .int, accessFlags := 25, slot := 18, constantValue := 0 }, { name := "JLA", type := (.object "jdk/internal/access/JavaLangAccess"), accessFlags := 26, slot := 19, constantValue := 0 }, { name := "SOFT_MAX_ARRAY_LENGTH", type := .int, accessFlags := 25, slot := 20, constantValue := 0 }]
  methods := #[k17m0]
  instanceTypes := #[]
  staticTypes := #[(.object "jdk/internal/misc/Unsafe"), .boolean, .int, .int, .int, .int, .int, .int, .int, .int, .int, .int, .int, .int, .int, .int, .int, .int, .int, (.object "jdk/internal/access/JavaLangAccess"), .int]
  resolved := Array.replicate 378 none
  statics := none }

def pool18 : Array CpInfo := pool [(1, u "java/lang/Cloneable"), (0, .class_ 1), (0, u "java/lang/Object"), (0, .class_ 3)] 3

/-- java/lang/Cloneable -/
def k18 : Class := { plain "java/lang/Cloneable" (some 0) with
  accessFlags := 1537
  interfaces := #[]
  cf := some (fileOf pool18 2 #[] #[] 1537 4 #[] #[])
  fields := #[]
  methods := #[]
  instanceTypes := #[]
  staticTypes := #[]
  resolved := Array.replicate 8 none
  statics := none }

/-- the primitive byte -/
def k19 : Class := { plain "byte" none with kind := .primitive 'B', accessFlags := 0x411 }
/-- [B -/
def k20 : Class := { plain "[B" (some 0) with kind := .array 19 .byte, interfaces := #[18, 2], accessFlags := 1041 }

/-- the primitive int -/
def k21 : Class := { plain "int" none with kind := .primitive 'I', accessFlags := 0x411 }
/-- [I -/
def k22 : Class := { plain "[I" (some 0) with kind := .array 21 .int, interfaces := #[18, 2], accessFlags := 1041 }

def heap : Heap := #[{ cls := 7, slots := #[.long 0, .int 1, .null, .int 0, .null, .int 0, .int 0], vm := .statics 7 },
  { cls := 16, slots := #[.null, .null, .null], vm := .statics 16 }]
def classes : Array Class := #[k0, k1, k2, k3, k4, k5, k6, k7, k8, k9, k10, k11, k12, k13, k14, k15, k16, k17, k18, k19, k20, k21, k22]
def interned : List (Array UInt16 × Addr) := []
def slotsUsed : Nat := 10
def theMethod : MethodId := ⟨1, 1⟩
def args0 : Array Value := #[.int 5, .int 3, .int 4, .int 6, .int 0]
def aboutOver (below : List Frame) : State where
  vm := { classes := classes, interned := interned.toArray }
  heap := heap
  slotsUsed := slotsUsed
  threads := #[{ frames := .invoking theMethod args0 :: below }]
def below0 : List Frame := [.native { method := ⟨0, 0⟩, args := #[] }]
def about1 : State := aboutOver below0
def p0 : Program := .bare "" "" ""
def e0 : Env := launch0.env 0 0 0
theorem w_frames : about1.frames = Frame.invoking theMethod args0 :: below0 := rfl
set_option maxRecDepth 65536 in
theorem w_args : argsFit about1.vm theMethod args0 = true := by decide +kernel
set_option maxRecDepth 65536 in
theorem w_heap : heapFits about1 = true := by decide +kernel
set_option maxRecDepth 65536 in
theorem w_runnable : about1.curStatus? = some .runnable := by decide +kernel
set_option maxRecDepth 65536 in
theorem w_alone : about1.alone = true := by decide +kernel
set_option maxRecDepth 65536 in
theorem w_named : about1.methodNamed? x = some theMethod := by decide +kernel
set_option maxRecDepth 65536 in
theorem w_hears : about1.hears theMethod below0 = true := by decide +kernel
set_option maxRecDepth 65536 in
theorem w_ripe : about1.ripe theMethod args0 below0 = true := by decide +kernel
theorem w_running : about1.status = .running := rfl
set_option maxRecDepth 65536 in
theorem w_room : about1.hasRoom e0.platform room_1 = true :=
  launch0.hasRoom_least _ room_1 (by decide +kernel) (by decide +kernel) (by decide +kernel) (by decide +kernel) (by decide +kernel) (by decide +kernel)
theorem allAtoms_all (ts : List Jvm.Cond) (a : Array Jvm.Value) (st : Jvm.State) : (allAtoms ts).before a st = ts.all (fun c => c.before a st) := by
  induction ts with
  | nil => rfl
  | cons c t ih =>
    show (Jvm.Cond.and c (allAtoms t)).before a st = _
    rw [Jvm.Cond.before_and, ih, List.all_cons]
def words1 : List Jvm.Cond := Jvm.Cond.code x code maxLocals ret :: tables_1
/-- a 'code' word, met by the world's own term for the bytes: nothing is compared byte by byte -/
theorem code_word {y : MethodName} {bytes : ByteArray} {mx : Nat} {rt : Option FieldType} {a : Array Value} {s : State} {m : MethodId} {meth : Method} {c : Code} (h1 : s.methodNamed? y = some m) (h2 : s.vm.method? m = some meth) (h3 : meth.code = some c) (h4 : c.code = bytes)
    (h5 : (c.maxLocals == mx && c.exceptionTable.isEmpty && decide (c.maxStack ≤ mostOperands) && decide (meth.sig.returnType = rt) && !meth.locks && decide (parseMethodDescriptor y.desc = some meth.sig)) = true) : (Jvm.Cond.code y bytes mx rt).before a s = true := by
  simp only [Bool.and_eq_true, beq_iff_eq, Bool.not_eq_true', decide_eq_true_eq] at h5
  obtain ⟨⟨⟨⟨⟨g1, g2⟩, g3⟩, g4⟩, g5⟩, g6⟩ := h5
  simp [Cond.before, Cond.holds, Cond.value, h1, h2, h3, h4, g1, g2, g3, g4, g5, g6]
def isCode : Jvm.Cond → Bool
  | .code _ _ _ _ => true
  | _ => false
theorem all_split {L : List Jvm.Cond} {P : Jvm.Cond → Bool} (h1 : L.all (fun c => isCode c || P c) = true) (h2 : ∀ c ∈ L.filter isCode, P c = true) : L.all P = true := by
  refine List.all_eq_true.mpr fun c hc => ?_
  have h := List.all_eq_true.mp h1 c hc
  rcases Bool.eq_false_or_eq_true (isCode c) with hi | hi
  · exact h2 c (List.mem_filter.mpr ⟨hc, hi⟩)
  · simpa [hi] using h
set_option maxRecDepth 65536 in
theorem w_c0 : (Jvm.Cond.code x code maxLocals ret).before args0 about1 = true := code_word (m := ⟨1, 1⟩) (meth := k1m1) (c := k1c1) (by decide +kernel) rfl rfl rfl (by decide +kernel)
set_option maxRecDepth 65536 in
theorem w_c1 : (Jvm.Cond.code ({ cls := "java/lang/String", name := "valueOf", desc := "(C)Ljava/lang/String;" } : Jvm.MethodName) jdk_42_method_139_code (1 : Nat) (Option.some (Jvm.ClassFile.FieldType.object "java/lang/String"))).before args0 about1 = true := code_word (m := ⟨7, 4⟩) (meth := k7m4) (c := k7c4) (by decide +kernel) rfl rfl rfl (by decide +kernel)
set_option maxRecDepth 65536 in
theorem w_c2 : (Jvm.Cond.code ({ cls := "java/lang/StringLatin1", name := "canEncode", desc := "(C)Z" } : Jvm.MethodName) jdk_43_method_3_code (1 : Nat) (Option.some Jvm.ClassFile.FieldType.boolean)).before args0 about1 = true := code_word (m := ⟨8, 1⟩) (meth := k8m1) (c := k8c1) (by decide +kernel) rfl rfl rfl (by decide +kernel)
set_option maxRecDepth 65536 in
theorem w_c3 : (Jvm.Cond.code ({ cls := "java/lang/StringLatin1", name := "toBytes", desc := "(C)[B" } : Jvm.MethodName) jdk_43_method_46_code (1 : Nat) (Option.some (Jvm.ClassFile.FieldType.array Jvm.ClassFile.FieldType.byte))).before args0 about1 = true := code_word (m := ⟨8, 3⟩) (meth := k8m3) (c := k8c3) (by decide +kernel) rfl rfl rfl (by decide +kernel)
set_option maxRecDepth 65536 in
theorem w_c4 : (Jvm.Cond.code ({ cls := "java/lang/String", name := "<init>", desc := "([BB)V" } : Jvm.MethodName) jdk_42_method_151_code (3 : Nat) (Option.none : Option Jvm.ClassFile.FieldType)).before args0 about1 = true := code_word (m := ⟨7, 7⟩) (meth := k7m7) (c := k7c7) (by decide +kernel) rfl rfl rfl (by decide +kernel)
set_option maxRecDepth 65536 in
theorem w_c5 : (Jvm.Cond.code ({ cls := "java/lang/Object", name := "<init>", desc := "()V" } : Jvm.MethodName) object_method_1_code (1 : Nat) (Option.none : Option Jvm.ClassFile.FieldType)).before args0 about1 = true := code_word (m := ⟨0, 0⟩) (meth := k0m0) (c := k0c0) (by decide +kernel) rfl rfl rfl (by decide +kernel)
set_option maxRecDepth 65536 in
theorem w_c6 : (Jvm.Cond.code ({ cls := "com/example/wireup/wireup/Item", name := "<init>", desc := "(Ljava/lang/String;Ljava/lang/String;Ljava/lang/String;)V" } : Jvm.MethodName) prog_47_method_2_code (4 : Nat) (Option.none : Option Jvm.ClassFile.FieldType)).before args0 about1 = true := code_word (m := ⟨9, 0⟩) (meth := k9m0) (c := k9c0) (by decide +kernel) rfl rfl rfl (by decide +kernel)
set_option maxRecDepth 65536 in
theorem w_c7 : (Jvm.Cond.code ({ cls := "com/example/wireup/wireup/Item", name := "at", desc := "(Ljava/lang/String;)Lcom/example/wireup/wireup/Item;" } : Jvm.MethodName) prog_47_method_3_code (2 : Nat) (Option.some (Jvm.ClassFile.FieldType.object "com/example/wireup/wireup/Item"))).before args0 about1 = true := code_word (m := ⟨9, 1⟩) (meth := k9m1) (c := k9c1) (by decide +kernel) rfl rfl rfl (by decide +kernel)
set_option maxRecDepth 65536 in
theorem w_c8 : (Jvm.Cond.code ({ cls := "java/lang/String", name := "equals", desc := "(Ljava/lang/Object;)Z" } : Jvm.MethodName) jdk_42_method_66_code (3 : Nat) (Option.some Jvm.ClassFile.FieldType.boolean)).before args0 about1 = true := code_word (m := ⟨7, 3⟩) (meth := k7m3) (c := k7c3) (by decide +kernel) rfl rfl rfl (by decide +kernel)
set_option maxRecDepth 65536 in
theorem w_c9 : (Jvm.Cond.code ({ cls := "java/lang/StringLatin1", name := "equals", desc := "([B[B)Z" } : Jvm.MethodName) jdk_43_method_13_code (3 : Nat) (Option.some Jvm.ClassFile.FieldType.boolean)).before args0 about1 = true := code_word (m := ⟨8, 2⟩) (meth := k8m2) (c := k8c2) (by decide +kernel) rfl rfl rfl (by decide +kernel)
set_option maxRecDepth 65536 in
theorem w_c10 : (Jvm.Cond.code ({ cls := "com/example/wireup/wireup/Item", name := "getPart", desc := "()Ljava/lang/String;" } : Jvm.MethodName) prog_47_method_4_code (1 : Nat) (Option.some (Jvm.ClassFile.FieldType.object "java/lang/String"))).before args0 about1 = true := code_word (m := ⟨9, 2⟩) (meth := k9m2) (c := k9c2) (by decide +kernel) rfl rfl rfl (by decide +kernel)
set_option maxRecDepth 65536 in
theorem w_c11 : (Jvm.Cond.code ({ cls := "com/example/wireup/wireup/Item", name := "describe", desc := "()Ljava/lang/String;" } : Jvm.MethodName) prog_47_method_5_code (1 : Nat) (Option.some (Jvm.ClassFile.FieldType.object "java/lang/String"))).before args0 about1 = true := code_word (m := ⟨9, 3⟩) (meth := k9m3) (c := k9c3) (by decide +kernel) rfl rfl rfl (by decide +kernel)
set_option maxRecDepth 65536 in
theorem w_c12 : (Jvm.Cond.code ({ cls := "java/lang/StringBuilder", name := "<init>", desc := "()V" } : Jvm.MethodName) jdk_67_method_1_code (1 : Nat) (Option.none : Option Jvm.ClassFile.FieldType)).before args0 about1 = true := code_word (m := ⟨12, 0⟩) (meth := k12m0) (c := k12c0) (by decide +kernel) rfl rfl rfl (by decide +kernel)
set_option maxRecDepth 65536 in
theorem w_c13 : (Jvm.Cond.code ({ cls := "java/lang/AbstractStringBuilder", name := "<init>", desc := "(I)V" } : Jvm.MethodName) jdk_68_method_2_code (2 : Nat) (Option.none : Option Jvm.ClassFile.FieldType)).before args0 about1 = true := code_word (m := ⟨11, 1⟩) (meth := k11m1) (c := k11c1) (by decide +kernel) rfl rfl rfl (by decide +kernel)
set_option maxRecDepth 65536 in
theorem w_c14 : (Jvm.Cond.code ({ cls := "java/lang/StringBuilder", name := "append", desc := "(Ljava/lang/String;)Ljava/lang/StringBuilder;" } : Jvm.MethodName) jdk_67_method_7_code (2 : Nat) (Option.some (Jvm.ClassFile.FieldType.object "java/lang/StringBuilder"))).before args0 about1 = true := code_word (m := ⟨12, 1⟩) (meth := k12m1) (c := k12c1) (by decide +kernel) rfl rfl rfl (by decide +kernel)
set_option maxRecDepth 65536 in
theorem w_c15 : (Jvm.Cond.code ({ cls := "java/lang/AbstractStringBuilder", name := "append", desc := "(Ljava/lang/String;)Ljava/lang/AbstractStringBuilder;" } : Jvm.MethodName) jdk_68_method_22_code (3 : Nat) (Option.some (Jvm.ClassFile.FieldType.object "java/lang/AbstractStringBuilder"))).before args0 about1 = true := code_word (m := ⟨11, 4⟩) (meth := k11m4) (c := k11c4) (by decide +kernel) rfl rfl rfl (by decide +kernel)
set_option maxRecDepth 65536 in
theorem w_c16 : (Jvm.Cond.code ({ cls := "java/lang/String", name := "length", desc := "()I" } : Jvm.MethodName) jdk_42_method_54_code (1 : Nat) (Option.some Jvm.ClassFile.FieldType.int)).before args0 about1 = true := code_word (m := ⟨7, 2⟩) (meth := k7m2) (c := k7c2) (by decide +kernel) rfl rfl rfl (by decide +kernel)
set_option maxRecDepth 65536 in
theorem w_c17 : (Jvm.Cond.code ({ cls := "java/lang/String", name := "coder", desc := "()B" } : Jvm.MethodName) jdk_42_method_152_code (1 : Nat) (Option.some Jvm.ClassFile.FieldType.byte)).before args0 about1 = true := code_word (m := ⟨7, 8⟩) (meth := k7m8) (c := k7c8) (by decide +kernel) rfl rfl rfl (by decide +kernel)
set_option maxRecDepth 65536 in
theorem w_c18 : (Jvm.Cond.code ({ cls := "java/lang/AbstractStringBuilder", name := "ensureCapacityInternal", desc := "(I)V" } : Jvm.MethodName) jdk_68_method_9_code (3 : Nat) (Option.none : Option Jvm.ClassFile.FieldType)).before args0 about1 = true := code_word (m := ⟨11, 3⟩) (meth := k11m3) (c := k11c3) (by decide +kernel) rfl rfl rfl (by decide +kernel)
set_option maxRecDepth 65536 in
theorem w_c19 : (Jvm.Cond.code ({ cls := "java/lang/AbstractStringBuilder", name := "putStringAt", desc := "(ILjava/lang/String;)V" } : Jvm.MethodName) jdk_68_method_73_code (3 : Nat) (Option.none : Option Jvm.ClassFile.FieldType)).before args0 about1 = true := code_word (m := ⟨11, 8⟩) (meth := k11m8) (c := k11c8) (by decide +kernel) rfl rfl rfl (by decide +kernel)
set_option maxRecDepth 65536 in
theorem w_c20 : (Jvm.Cond.code ({ cls := "java/lang/AbstractStringBuilder", name := "inflateIfNeededFor", desc := "(Ljava/lang/String;)V" } : Jvm.MethodName) jdk_68_method_71_code (2 : Nat) (Option.none : Option Jvm.ClassFile.FieldType)).before args0 about1 = true := code_word (m := ⟨11, 7⟩) (meth := k11m7) (c := k11c7) (by decide +kernel) rfl rfl rfl (by decide +kernel)
set_option maxRecDepth 65536 in
theorem w_c21 : (Jvm.Cond.code ({ cls := "java/lang/String", name := "getBytes", desc := "([BIB)V" } : Jvm.MethodName) jdk_42_method_147_code (4 : Nat) (Option.none : Option Jvm.ClassFile.FieldType)).before args0 about1 = true := code_word (m := ⟨7, 5⟩) (meth := k7m5) (c := k7c5) (by decide +kernel) rfl rfl rfl (by decide +kernel)
set_option maxRecDepth 65536 in
theorem w_c22 : (Jvm.Cond.code ({ cls := "java/lang/StringBuilder", name := "toString", desc := "()Ljava/lang/String;" } : Jvm.MethodName) jdk_67_method_42_code (1 : Nat) (Option.some (Jvm.ClassFile.FieldType.object "java/lang/String"))).before args0 about1 = true := code_word (m := ⟨12, 2⟩) (meth := k12m2) (c := k12c2) (by decide +kernel) rfl rfl rfl (by decide +kernel)
set_option maxRecDepth 65536 in
theorem w_c23 : (Jvm.Cond.code ({ cls := "java/lang/String", name := "<init>", desc := "(Ljava/lang/StringBuilder;)V" } : Jvm.MethodName) jdk_42_method_53_code (2 : Nat) (Option.none : Option Jvm.ClassFile.FieldType)).before args0 about1 = true := code_word (m := ⟨7, 1⟩) (meth := k7m1) (c := k7c1) (by decide +kernel) rfl rfl rfl (by decide +kernel)
set_option maxRecDepth 65536 in
theorem w_c24 : (Jvm.Cond.code ({ cls := "java/lang/String", name := "<init>", desc := "(Ljava/lang/AbstractStringBuilder;Ljava/lang/Void;)V" } : Jvm.MethodName) jdk_42_method_150_code (5 : Nat) (Option.none : Option Jvm.ClassFile.FieldType)).before args0 about1 = true := code_word (m := ⟨7, 6⟩) (meth := k7m6) (c := k7c6) (by decide +kernel) rfl rfl rfl (by decide +kernel)
set_option maxRecDepth 65536 in
theorem w_c25 : (Jvm.Cond.code ({ cls := "java/lang/AbstractStringBuilder", name := "getValue", desc := "()[B" } : Jvm.MethodName) jdk_68_method_64_code (1 : Nat) (Option.some (Jvm.ClassFile.FieldType.array Jvm.ClassFile.FieldType.byte))).before args0 about1 = true := code_word (m := ⟨11, 5⟩) (meth := k11m5) (c := k11c5) (by decide +kernel) rfl rfl rfl (by decide +kernel)
set_option maxRecDepth 65536 in
theorem w_c26 : (Jvm.Cond.code ({ cls := "java/lang/StringBuilder", name := "length", desc := "()I" } : Jvm.MethodName) jdk_67_method_93_code (1 : Nat) (Option.some Jvm.ClassFile.FieldType.int)).before args0 about1 = true := code_word (m := ⟨12, 3⟩) (meth := k12m3) (c := k12c3) (by decide +kernel) rfl rfl rfl (by decide +kernel)
set_option maxRecDepth 65536 in
theorem w_c27 : (Jvm.Cond.code ({ cls := "java/lang/AbstractStringBuilder", name := "length", desc := "()I" } : Jvm.MethodName) jdk_68_method_6_code (1 : Nat) (Option.some Jvm.ClassFile.FieldType.int)).before args0 about1 = true := code_word (m := ⟨11, 2⟩) (meth := k11m2) (c := k11c2) (by decide +kernel) rfl rfl rfl (by decide +kernel)
set_option maxRecDepth 65536 in
theorem w_c28 : (Jvm.Cond.code ({ cls := "java/lang/AbstractStringBuilder", name := "isLatin1", desc := "()Z" } : Jvm.MethodName) jdk_68_method_68_code (1 : Nat) (Option.some Jvm.ClassFile.FieldType.boolean)).before args0 about1 = true := code_word (m := ⟨11, 6⟩) (meth := k11m6) (c := k11c6) (by decide +kernel) rfl rfl rfl (by decide +kernel)
set_option maxRecDepth 65536 in
theorem w_c29 : (Jvm.Cond.code ({ cls := "java/util/Arrays", name := "copyOfRange", desc := "([BII)[B" } : Jvm.MethodName) jdk_65_method_132_code (3 : Nat) (Option.some (Jvm.ClassFile.FieldType.array Jvm.ClassFile.FieldType.byte))).before args0 about1 = true := code_word (m := ⟨14, 2⟩) (meth := k14m2) (c := k14c2) (by decide +kernel) rfl rfl rfl (by decide +kernel)
set_option maxRecDepth 65536 in
theorem w_c30 : (Jvm.Cond.code ({ cls := "java/util/Arrays", name := "copyOfRangeByte", desc := "([BII)[B" } : Jvm.MethodName) jdk_65_method_133_code (5 : Nat) (Option.some (Jvm.ClassFile.FieldType.array Jvm.ClassFile.FieldType.byte))).before args0 about1 = true := code_word (m := ⟨14, 3⟩) (meth := k14m3) (c := k14c3) (by decide +kernel) rfl rfl rfl (by decide +kernel)
set_option maxRecDepth 65536 in
theorem w_c31 : (Jvm.Cond.code ({ cls := "java/util/Arrays", name := "checkLength", desc := "(II)V" } : Jvm.MethodName) jdk_65_method_131_code (2 : Nat) (Option.none : Option Jvm.ClassFile.FieldType)).before args0 about1 = true := code_word (m := ⟨14, 1⟩) (meth := k14m1) (c := k14c1) (by decide +kernel) rfl rfl rfl (by decide +kernel)
set_option maxRecDepth 65536 in
theorem w_c32 : (Jvm.Cond.code ({ cls := "java/lang/Math", name := "min", desc := "(II)I" } : Jvm.MethodName) jdk_29_method_69_code (2 : Nat) (Option.some Jvm.ClassFile.FieldType.int)).before args0 about1 = true := code_word (m := ⟨15, 1⟩) (meth := k15m1) (c := k15c1) (by decide +kernel) rfl rfl rfl (by decide +kernel)
def codes1 : List Jvm.Cond := [Jvm.Cond.code x code maxLocals ret, Jvm.Cond.code ({ cls := "java/lang/String", name := "valueOf", desc := "(C)Ljava/lang/String;" } : Jvm.MethodName) jdk_42_method_139_code (1 : Nat) (Option.some (Jvm.ClassFile.FieldType.object "java/lang/String")), Jvm.Cond.code ({ cls := "java/lang/StringLatin1", name := "canEncode", desc := "(C)Z" } : Jvm.MethodName) jdk_43_method_3_code (1 : Nat) (Option.some Jvm.ClassFile.FieldType.boolean), Jvm.Cond.code ({ cls := "java/lang/StringLatin1", name := "toBytes", desc := "(C)[B" } : Jvm.MethodName) jdk_43_method_46_code (1 : Nat) (Option.some (Jvm.ClassFile.FieldType.array Jvm.ClassFile.FieldType.byte)), Jvm.Cond.code ({ cls := "java/lang/String", name := "<init>", desc := "([BB)V" } : Jvm.MethodName) jdk_42_method_151_code (3 : Nat) (Option.none : Option Jvm.ClassFile.FieldType), Jvm.Cond.code ({ cls := "java/lang/Object", name := "<init>", desc := "()V" } : Jvm.MethodName) object_method_1_code (1 : Nat) (Option.none : Option Jvm.ClassFile.FieldType), Jvm.Cond.code ({ cls := "com/example/wireup/wireup/Item", name := "<init>", desc := "(Ljava/lang/String;Ljava/lang/String;Ljava/lang/String;)V" } : Jvm.MethodName) prog_47_method_2_code (4 : Nat) (Option.none : Option Jvm.ClassFile.FieldType), Jvm.Cond.code ({ cls := "com/example/wireup/wireup/Item", name := "at", desc := "(Ljava/lang/String;)Lcom/example/wireup/wireup/Item;" } : Jvm.MethodName) prog_47_method_3_code (2 : Nat) (Option.some (Jvm.ClassFile.FieldType.object "com/example/wireup/wireup/Item")), Jvm.Cond.code ({ cls := "java/lang/String", name := "equals", desc := "(Ljava/lang/Object;)Z" } : Jvm.MethodName) jdk_42_method_66_code (3 : Nat) (Option.some Jvm.ClassFile.FieldType.boolean), Jvm.Cond.code ({ cls := "java/lang/StringLatin1", name := "equals", desc := "([B[B)Z" } : Jvm.MethodName) jdk_43_method_13_code (3 : Nat) (Option.some Jvm.ClassFile.FieldType.boolean), Jvm.Cond.code ({ cls := "com/example/wireup/wireup/Item", name := "getPart", desc := "()Ljava/lang/String;" } : Jvm.MethodName) prog_47_method_4_code (1 : Nat) (Option.some (Jvm.ClassFile.FieldType.object "java/lang/String")), Jvm.Cond.code ({ cls := "com/example/wireup/wireup/Item", name := "describe", desc := "()Ljava/lang/String;" } : Jvm.MethodName) prog_47_method_5_code (1 : Nat) (Option.some (Jvm.ClassFile.FieldType.object "java/lang/String")), Jvm.Cond.code ({ cls := "java/lang/StringBuilder", name := "<init>", desc := "()V" } : Jvm.MethodName) jdk_67_method_1_code (1 : Nat) (Option.none : Option Jvm.ClassFile.FieldType), Jvm.Cond.code ({ cls := "java/lang/AbstractStringBuilder", name := "<init>", desc := "(I)V" } : Jvm.MethodName) jdk_68_method_2_code (2 : Nat) (Option.none : Option Jvm.ClassFile.FieldType), Jvm.Cond.code ({ cls := "java/lang/StringBuilder", name := "append", desc := "(Ljava/lang/String;)Ljava/lang/StringBuilder;" } : Jvm.MethodName) jdk_67_method_7_code (2 : Nat) (Option.some (Jvm.ClassFile.FieldType.object "java/lang/StringBuilder")), Jvm.Cond.code ({ cls := "java/lang/AbstractStringBuilder", name := "append", desc := "(Ljava/lang/String;)Ljava/lang/AbstractStringBuilder;" } : Jvm.MethodName) jdk_68_method_22_code (3 : Nat) (Option.some (Jvm.ClassFile.FieldType.object "java/lang/AbstractStringBuilder")), Jvm.Cond.code ({ cls := "java/lang/String", name := "length", desc := "()I" } : Jvm.MethodName) jdk_42_method_54_code (1 : Nat) (Option.some Jvm.ClassFile.FieldType.int), Jvm.Cond.code ({ cls := "java/lang/String", name := "coder", desc := "()B" } : Jvm.MethodName) jdk_42_method_152_code (1 : Nat) (Option.some Jvm.ClassFile.FieldType.byte), Jvm.Cond.code ({ cls := "java/lang/AbstractStringBuilder", name := "ensureCapacityInternal", desc := "(I)V" } : Jvm.MethodName) jdk_68_method_9_code (3 : Nat) (Option.none : Option Jvm.ClassFile.FieldType), Jvm.Cond.code ({ cls := "java/lang/AbstractStringBuilder", name := "putStringAt", desc := "(ILjava/lang/String;)V" } : Jvm.MethodName) jdk_68_method_73_code (3 : Nat) (Option.none : Option Jvm.ClassFile.FieldType), Jvm.Cond.code ({ cls := "java/lang/AbstractStringBuilder", name := "inflateIfNeededFor", desc := "(Ljava/lang/String;)V" } : Jvm.MethodName) jdk_68_method_71_code (2 : Nat) (Option.none : Option Jvm.ClassFile.FieldType), Jvm.Cond.code ({ cls := "java/lang/String", name := "getBytes", desc := "([BIB)V" } : Jvm.MethodName) jdk_42_method_147_code (4 : Nat) (Option.none : Option Jvm.ClassFile.FieldType), Jvm.Cond.code ({ cls := "java/lang/StringBuilder", name := "toString", desc := "()Ljava/lang/String;" } : Jvm.MethodName) jdk_67_method_42_code (1 : Nat) (Option.some (Jvm.ClassFile.FieldType.object "java/lang/String")), Jvm.Cond.code ({ cls := "java/lang/String", name := "<init>", desc := "(Ljava/lang/StringBuilder;)V" } : Jvm.MethodName) jdk_42_method_53_code (2 : Nat) (Option.none : Option Jvm.ClassFile.FieldType), Jvm.Cond.code ({ cls := "java/lang/String", name := "<init>", desc := "(Ljava/lang/AbstractStringBuilder;Ljava/lang/Void;)V" } : Jvm.MethodName) jdk_42_method_150_code (5 : Nat) (Option.none : Option Jvm.ClassFile.FieldType), Jvm.Cond.code ({ cls := "java/lang/AbstractStringBuilder", name := "getValue", desc := "()[B" } : Jvm.MethodName) jdk_68_method_64_code (1 : Nat) (Option.some (Jvm.ClassFile.FieldType.array Jvm.ClassFile.FieldType.byte)), Jvm.Cond.code ({ cls := "java/lang/StringBuilder", name := "length", desc := "()I" } : Jvm.MethodName) jdk_67_method_93_code (1 : Nat) (Option.some Jvm.ClassFile.FieldType.int), Jvm.Cond.code ({ cls := "java/lang/AbstractStringBuilder", name := "length", desc := "()I" } : Jvm.MethodName) jdk_68_method_6_code (1 : Nat) (Option.some Jvm.ClassFile.FieldType.int), Jvm.Cond.code ({ cls := "java/lang/AbstractStringBuilder", name := "isLatin1", desc := "()Z" } : Jvm.MethodName) jdk_68_method_68_code (1 : Nat) (Option.some Jvm.ClassFile.FieldType.boolean), Jvm.Cond.code ({ cls := "java/util/Arrays", name := "copyOfRange", desc := "([BII)[B" } : Jvm.MethodName) jdk_65_method_132_code (3 : Nat) (Option.some (Jvm.ClassFile.FieldType.array Jvm.ClassFile.FieldType.byte)), Jvm.Cond.code ({ cls := "java/util/Arrays", name := "copyOfRangeByte", desc := "([BII)[B" } : Jvm.MethodName) jdk_65_method_133_code (5 : Nat) (Option.some (Jvm.ClassFile.FieldType.array Jvm.ClassFile.FieldType.byte)), Jvm.Cond.code ({ cls := "java/util/Arrays", name := "checkLength", desc := "(II)V" } : Jvm.MethodName) jdk_65_method_131_code (2 : Nat) (Option.none : Option Jvm.ClassFile.FieldType), Jvm.Cond.code ({ cls := "java/lang/Math", name := "min", desc := "(II)I" } : Jvm.MethodName) jdk_29_method_69_code (2 : Nat) (Option.some Jvm.ClassFile.FieldType.int)]
set_option maxRecDepth 65536 in
theorem codes_eq : words1.filter isCode = codes1 := rfl
theorem w_codes : ∀ c ∈ words1.filter isCode, c.before args0 about1 = true := by
  rw [codes_eq]
  intro c hc
  simp only [codes1, List.mem_cons, List.not_mem_nil, or_false] at hc
  rcases hc with rfl | rfl | rfl | rfl | rfl | rfl | rfl | rfl | rfl | rfl | rfl | rfl | rfl | rfl | rfl | rfl | rfl | rfl | rfl | rfl | rfl | rfl | rfl | rfl | rfl | rfl | rfl | rfl | rfl | rfl | rfl | rfl | rfl
  · exact w_c0
  · exact w_c1
  · exact w_c2
  · exact w_c3
  · exact w_c4
  · exact w_c5
  · exact w_c6
  · exact w_c7
  · exact w_c8
  · exact w_c9
  · exact w_c10
  · exact w_c11
  · exact w_c12
  · exact w_c13
  · exact w_c14
  · exact w_c15
  · exact w_c16
  · exact w_c17
  · exact w_c18
  · exact w_c19
  · exact w_c20
  · exact w_c21
  · exact w_c22
  · exact w_c23
  · exact w_c24
  · exact w_c25
  · exact w_c26
  · exact w_c27
  · exact w_c28
  · exact w_c29
  · exact w_c30
  · exact w_c31
  · exact w_c32
set_option maxRecDepth 65536 in
theorem w_t1 : (words1.take 24).all (fun c => isCode c || c.before args0 about1) = true := by decide +kernel
set_option maxRecDepth 65536 in
theorem w_t2 : ((words1.drop 24).take 24).all (fun c => isCode c || c.before args0 about1) = true := by decide +kernel
set_option maxRecDepth 65536 in
theorem w_t3 : (((words1.drop 24).drop 24).take 24).all (fun c => isCode c || c.before args0 about1) = true := by decide +kernel
set_option maxRecDepth 65536 in
theorem w_t4 : ((((words1.drop 24).drop 24).drop 24).take 24).all (fun c => isCode c || c.before args0 about1) = true := by decide +kernel
set_option maxRecDepth 65536 in
theorem w_t5 : (((((words1.drop 24).drop 24).drop 24).drop 24).take 24).all (fun c => isCode c || c.before args0 about1) = true := by decide +kernel
set_option maxRecDepth 65536 in
theorem w_t6 : ((((((words1.drop 24).drop 24).drop 24).drop 24).drop 24).take 24).all (fun c => isCode c || c.before args0 about1) = true := by decide +kernel
set_option maxRecDepth 65536 in
theorem w_t7 : (((((((words1.drop 24).drop 24).drop 24).drop 24).drop 24).drop 24).take 24).all (fun c => isCode c || c.before args0 about1) = true := by decide +kernel
set_option maxRecDepth 65536 in
theorem w_t8 : (((((((words1.drop 24).drop 24).drop 24).drop 24).drop 24).drop 24).drop 24).all (fun c => isCode c || c.before args0 about1) = true := by decide +kernel
theorem w_tables : (allAtoms (Jvm.Cond.code x code maxLocals ret :: tables_1)).before args0 about1 = true := by
  rw [allAtoms_all]
  show words1.all (fun c => c.before args0 about1) = true
  refine all_split ?_ w_codes
  rw [← List.take_append_drop 24 words1, List.all_append, w_t1, ← List.take_append_drop 24 (words1.drop 24), List.all_append, w_t2, ← List.take_append_drop 24 ((words1.drop 24).drop 24), List.all_append, w_t3, ← List.take_append_drop 24 (((words1.drop 24).drop 24).drop 24), List.all_append, w_t4, ← List.take_append_drop 24 ((((words1.drop 24).drop 24).drop 24).drop 24), List.all_append, w_t5, ← List.take_append_drop 24 (((((words1.drop 24).drop 24).drop 24).drop 24).drop 24), List.all_append, w_t6, ← List.take_append_drop 24 ((((((words1.drop 24).drop 24).drop 24).drop 24).drop 24).drop 24), List.all_append, w_t7, w_t8]
  rfl
set_option maxRecDepth 65536 in
theorem w_rest : rest_1_c.before args0 about1 = true := by decide +kernel
set_option maxRecDepth 65536 in
theorem w_case : (Jvm.Cond.and given_1 narrow_1).before args0 about1 = true := by decide +kernel
set_option maxRecDepth 65536 in
theorem w_consts : constsHeld consts_1 about1 := Jvm.Lit.constsHeldB_iff.mp (by decide +kernel)
theorem w_applies : (headSpec (Jvm.Cond.code x code maxLocals ret :: tables_1) room_1).applies x e0.platform about1 = true :=
  (Spec.applies_iff w_frames).mpr ⟨w_running, w_runnable, w_alone, w_named, w_hears, w_ripe, w_room, w_tables⟩
theorem atStart : AtStart classFile x code maxLocals ret World_1 tables_1 room_1 Calls_1 rest_1 Pre_1 launch0 p0 e0 about1 theMethod args0 below0 :=
  ⟨lists_1, trivial, launch0.admits_env _ _ _, launch0.least_env, fairChoices_fair.cas, fairChoices_fair.clock, w_frames, w_args, w_heap, w_applies, ⟨w_consts, trivial⟩, w_rest, w_case⟩
end start1
theorem witness_1 : WitnessClaimed_1 := ⟨start1.p0, start1.e0, start1.about1, start1.theMethod, start1.args0, start1.below0, start1.atStart⟩
end Jvm.Pilot.@@N@@
