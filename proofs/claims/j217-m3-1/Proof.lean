import JvmDerived
import JvmDerived.Pilot.@@N@@Statement
import JvmDerived.Pilot.@@N@@Code
set_option linter.unusedVariables false
set_option linter.unusedSimpArgs false
namespace Jvm.Pilot.@@N@@
open Jvm Jvm.ClassFile Sem Op Lib Jvm.Free Jvm.Stand Jvm.LawKit Jvm.RoadKit Bundle Jvm.Pilot.@@N@@.Jvm.D
section OwnGo
variable {p : Program} {l : Launch} {e : Env} {R : Room} {s : State} {m : MethodId} {args : Array Value} {below : List Frame} {meth : Method} {c : Code} {T : State} {locs : List Loc} {cells slots : Nat} {Z : State} {a0 : Array Value} {h : Heap} {K : Outcome → State → Prop} {pc pc' : Nat} {Ls : Array Slot} {st : List Value}
/-- from frame g in state T the run ends as K says -/
def Goes (p : Program) (e : Env) (below : List Frame) (K : Outcome → State → Prop) (T : State) (g : JFrame) : Prop := ∃ u o, Steps p.tables e below (T.setTop g) u ∧ u.status = .running ∧ Ended u below o ∧ K o u
theorem Goes.by' {T' : State} {g g' : JFrame} (f : ∀ t, Steps p.tables e below (T'.setTop g') t → Steps p.tables e below (T.setTop g) t) (k : Goes p e below K T' g') : Goes p e below K T g := by obtain ⟨u, o, h1, h2⟩ := k; exact ⟨u, o, f _ h1, h2⟩
theorem Goes.cast {g g' : JFrame} (q : g = g') (k : Goes p e below K T g') : Goes p e below K T g := q ▸ k
/-- a callee's contract: called with as' at the heap h0 it returns v, leaves a heap and a list of written places of which Q speaks -/
abbrev Ctr (l : Launch) (Z : State) (y : MethodName) (bytes : ByteArray) (maxL : Nat) (ret : Option FieldType) (ws : List Jvm.Cond) (rm : Room) (C S : Nat) (as' : Array Value) (h0 : Heap) (Q : Option Value → Heap → List Loc → Prop) : Prop := MetFree l y (head1 (Jvm.Cond.code y bytes maxL ret :: ws) rm) (fun a U => a = as' ∧ Z.Warmed39 U.vm ∧ U.heap = h0) (fun _ _ _ _ _ => True) (fun _ U o U' => ∃ v L, o = .returned v ∧ Q v U'.heap L ∧ FrameEnd U o U' L C S)
abbrev KQ (s : State) (C S : Nat) (Q : Option Value → Heap → List Loc → Prop) : Outcome → State → Prop := fun o u => ∃ v L, o = .returned v ∧ Q v u.heap L ∧ FrameEnd s o u L C S
theorem Ctr.of {y : MethodName} {bytes : ByteArray} {maxL : Nat} {ret : Option FieldType} {ws : List Jvm.Cond} {rm : Room} {C S : Nat} {as' : Array Value} {h0 : Heap} {Q : Option Value → Heap → List Loc → Prop} (hpn : plainFor y = true)
    (body : ∀ (p : Program) (e : Env) (s : State) (m : MethodId) (below : List Frame) (meth : Method) (c : Code) (s₁ : State), p.tables.exec = Jvm.exec → c.code = bytes → c.maxLocals = maxL → s.vm.findClass y.cls = some m.cls → meth.name = y.name → meth.sig.returnType = ret → meth.locks = false → Z.Warmed39 s.vm → Stand p l e rm s m as' below meth c s₁ [] 0 0 → s₁.heap = h0 → Goes p e below (KQ s C S Q) s₁ (entryFrame m as' maxL)) :
    Ctr l Z y bytes maxL ret ws rm C S as' h0 Q := by
  refine MetFree.of_bodySF hpn hisR ?_
  intro p e s m args below meth c s₁ Bd hml0 hP hK
  obtain ⟨rfl, hZ, hh⟩ := hP
  have hlk : meth.locks = false := BodyLoose.notSynchronized Bd
  exact body p e s m below meth c s₁ Bd.exec Bd.bytes hml0 (findClass_of_methodNamed Bd.named) (name_of_methodNamed Bd.named Bd.method).1 Bd.returns hlk hZ (Stand.of_body Bd) (by rw [← hh, Bd.state]; rfl)
theorem wd {a0 : Array Value} {Z : State} {tb : List Jvm.Cond} (hw : ∀ d ∈ tb, d.before a0 Z = true) (i : Nat) {d : Jvm.Cond} (q : tb[i]? = some d) : d.before a0 Z = true := hw _ (List.mem_of_getElem? q)
theorem g_iadd (X : Stand p l e R s m args below meth c T locs cells slots) (hx : p.tables.exec = Jvm.exec) {x y : Int32} (hd : decode c.code pc = .ok (.iadd, 1))  (hp : pc + 1 = pc') (k : Goes p e below K T (mkF m pc' Ls (.int (x + y) :: st))) : Goes p e below K T (mkF m pc Ls (.int y :: .int x :: st)) := by subst hp; exact Goes.by' (fun _ q => XS.iadd X.here hx rfl hd rfl q) k
theorem g_isub (X : Stand p l e R s m args below meth c T locs cells slots) (hx : p.tables.exec = Jvm.exec) {x y : Int32} (hd : decode c.code pc = .ok (.isub, 1))  (hp : pc + 1 = pc') (k : Goes p e below K T (mkF m pc' Ls (.int (x - y) :: st))) : Goes p e below K T (mkF m pc Ls (.int y :: .int x :: st)) := by subst hp; exact Goes.by' (fun _ q => XS.isub X.here hx rfl hd rfl q) k
theorem g_iand (X : Stand p l e R s m args below meth c T locs cells slots) (hx : p.tables.exec = Jvm.exec) {x y : Int32} (hd : decode c.code pc = .ok (.iand, 1))  (hp : pc + 1 = pc') (k : Goes p e below K T (mkF m pc' Ls (.int (x &&& y) :: st))) : Goes p e below K T (mkF m pc Ls (.int y :: .int x :: st)) := by subst hp; exact Goes.by' (fun _ q => XS.iand X.here hx rfl hd rfl q) k
theorem g_imul (X : Stand p l e R s m args below meth c T locs cells slots) (hx : p.tables.exec = Jvm.exec) {x y : Int32} (hd : decode c.code pc = .ok (.imul, 1))  (hp : pc + 1 = pc') (k : Goes p e below K T (mkF m pc' Ls (.int (x * y) :: st))) : Goes p e below K T (mkF m pc Ls (.int y :: .int x :: st)) := by subst hp; exact Goes.by' (fun _ q => XS.imul X.here hx rfl hd rfl q) k
theorem g_ixor (X : Stand p l e R s m args below meth c T locs cells slots) (hx : p.tables.exec = Jvm.exec) {x y : Int32} (hd : decode c.code pc = .ok (.ixor, 1))  (hp : pc + 1 = pc') (k : Goes p e below K T (mkF m pc' Ls (.int (x ^^^ y) :: st))) : Goes p e below K T (mkF m pc Ls (.int y :: .int x :: st)) := by subst hp; exact Goes.by' (fun _ q => XT.ixor X.here hx rfl hd rfl q) k
theorem g_ior (X : Stand p l e R s m args below meth c T locs cells slots) (hx : p.tables.exec = Jvm.exec) {x y : Int32} (hd : decode c.code pc = .ok (.ior, 1))  (hp : pc + 1 = pc') (k : Goes p e below K T (mkF m pc' Ls (.int (x ||| y) :: st))) : Goes p e below K T (mkF m pc Ls (.int y :: .int x :: st)) := by subst hp; exact Goes.by' (fun _ q => XT.ior X.here hx rfl hd rfl q) k
theorem g_idiv (X : Stand p l e R s m args below meth c T locs cells slots) (hx : p.tables.exec = Jvm.exec) {x y : Int32} (hd : decode c.code pc = .ok (.idiv, 1)) (hy : y ≠ 0) (hp : pc + 1 = pc') (k : Goes p e below K T (mkF m pc' Ls (.int (x / y) :: st))) : Goes p e below K T (mkF m pc Ls (.int y :: .int x :: st)) := by subst hp; exact Goes.by' (fun _ q => XS.idiv X.here hx rfl hd rfl hy q) k
theorem g_irem (X : Stand p l e R s m args below meth c T locs cells slots) (hx : p.tables.exec = Jvm.exec) {x y : Int32} (hd : decode c.code pc = .ok (.irem, 1)) (hy : y ≠ 0) (hp : pc + 1 = pc') (k : Goes p e below K T (mkF m pc' Ls (.int (x % y) :: st))) : Goes p e below K T (mkF m pc Ls (.int y :: .int x :: st)) := by subst hp; exact Goes.by' (fun _ q => iremM X hx rfl hd rfl hy q) k
theorem g_ineg (X : Stand p l e R s m args below meth c T locs cells slots) (hx : p.tables.exec = Jvm.exec) {x : Int32} (hd : decode c.code pc = .ok (.ineg, 1))  (hp : pc + 1 = pc') (k : Goes p e below K T (mkF m pc' Ls (.int (-x) :: st))) : Goes p e below K T (mkF m pc Ls (.int x :: st)) := by subst hp; exact Goes.by' (fun _ q => XS.ineg X.here hx rfl hd rfl q) k
theorem g_ishl (X : Stand p l e R s m args below meth c T locs cells slots) (hx : p.tables.exec = Jvm.exec) {x y : Int32} (hd : decode c.code pc = .ok (.ishl, 1))  (hp : pc + 1 = pc') (k : Goes p e below K T (mkF m pc' Ls (.int (x <<< (y &&& 31)) :: st))) : Goes p e below K T (mkF m pc Ls (.int y :: .int x :: st)) := by subst hp; exact Goes.by' (fun _ q => XT.ishl X.here hx rfl hd rfl q) k
theorem g_ishr (X : Stand p l e R s m args below meth c T locs cells slots) (hx : p.tables.exec = Jvm.exec) {x y : Int32} (hd : decode c.code pc = .ok (.ishr, 1))  (hp : pc + 1 = pc') (k : Goes p e below K T (mkF m pc' Ls (.int (x >>> (y &&& 31)) :: st))) : Goes p e below K T (mkF m pc Ls (.int y :: .int x :: st)) := by subst hp; exact Goes.by' (fun _ q => XT.ishr X.here hx rfl hd rfl q) k
theorem g_iushr (X : Stand p l e R s m args below meth c T locs cells slots) (hx : p.tables.exec = Jvm.exec) {x y : Int32} (hd : decode c.code pc = .ok (.iushr, 1))  (hp : pc + 1 = pc') (k : Goes p e below K T (mkF m pc' Ls (.int (XT.ushr x y) :: st))) : Goes p e below K T (mkF m pc Ls (.int y :: .int x :: st)) := by subst hp; exact Goes.by' (fun _ q => XT.iushr X.here hx rfl hd rfl q) k
theorem g_ladd (X : Stand p l e R s m args below meth c T locs cells slots) (hx : p.tables.exec = Jvm.exec) {x y : Int64} (hd : decode c.code pc = .ok (.ladd, 1))  (hp : pc + 1 = pc') (k : Goes p e below K T (mkF m pc' Ls (.long (x + y) :: st))) : Goes p e below K T (mkF m pc Ls (.long y :: .long x :: st)) := by subst hp; exact Goes.by' (fun _ q => XT.ladd X.here hx rfl hd rfl q) k
theorem g_lsub (X : Stand p l e R s m args below meth c T locs cells slots) (hx : p.tables.exec = Jvm.exec) {x y : Int64} (hd : decode c.code pc = .ok (.lsub, 1))  (hp : pc + 1 = pc') (k : Goes p e below K T (mkF m pc' Ls (.long (x - y) :: st))) : Goes p e below K T (mkF m pc Ls (.long y :: .long x :: st)) := by subst hp; exact Goes.by' (fun _ q => XT.lsub X.here hx rfl hd rfl q) k
theorem g_lmul (X : Stand p l e R s m args below meth c T locs cells slots) (hx : p.tables.exec = Jvm.exec) {x y : Int64} (hd : decode c.code pc = .ok (.lmul, 1))  (hp : pc + 1 = pc') (k : Goes p e below K T (mkF m pc' Ls (.long (x * y) :: st))) : Goes p e below K T (mkF m pc Ls (.long y :: .long x :: st)) := by subst hp; exact Goes.by' (fun _ q => XT.lmul X.here hx rfl hd rfl q) k
theorem g_land (X : Stand p l e R s m args below meth c T locs cells slots) (hx : p.tables.exec = Jvm.exec) {x y : Int64} (hd : decode c.code pc = .ok (.land, 1))  (hp : pc + 1 = pc') (k : Goes p e below K T (mkF m pc' Ls (.long (x &&& y) :: st))) : Goes p e below K T (mkF m pc Ls (.long y :: .long x :: st)) := by subst hp; exact Goes.by' (fun _ q => XT.land X.here hx rfl hd rfl q) k
theorem g_lor (X : Stand p l e R s m args below meth c T locs cells slots) (hx : p.tables.exec = Jvm.exec) {x y : Int64} (hd : decode c.code pc = .ok (.lor, 1))  (hp : pc + 1 = pc') (k : Goes p e below K T (mkF m pc' Ls (.long (x ||| y) :: st))) : Goes p e below K T (mkF m pc Ls (.long y :: .long x :: st)) := by subst hp; exact Goes.by' (fun _ q => XT.lor X.here hx rfl hd rfl q) k
theorem g_lxor (X : Stand p l e R s m args below meth c T locs cells slots) (hx : p.tables.exec = Jvm.exec) {x y : Int64} (hd : decode c.code pc = .ok (.lxor, 1))  (hp : pc + 1 = pc') (k : Goes p e below K T (mkF m pc' Ls (.long (x ^^^ y) :: st))) : Goes p e below K T (mkF m pc Ls (.long y :: .long x :: st)) := by subst hp; exact Goes.by' (fun _ q => XT.lxor X.here hx rfl hd rfl q) k
theorem g_ldiv (X : Stand p l e R s m args below meth c T locs cells slots) (hx : p.tables.exec = Jvm.exec) {x y : Int64} (hd : decode c.code pc = .ok (.ldiv, 1)) (hy : y ≠ 0) (hp : pc + 1 = pc') (k : Goes p e below K T (mkF m pc' Ls (.long (x / y) :: st))) : Goes p e below K T (mkF m pc Ls (.long y :: .long x :: st)) := by subst hp; exact Goes.by' (fun _ q => XT.ldiv X.here hx rfl hd rfl hy q) k
theorem g_lrem (X : Stand p l e R s m args below meth c T locs cells slots) (hx : p.tables.exec = Jvm.exec) {x y : Int64} (hd : decode c.code pc = .ok (.lrem, 1)) (hy : y ≠ 0) (hp : pc + 1 = pc') (k : Goes p e below K T (mkF m pc' Ls (.long (x % y) :: st))) : Goes p e below K T (mkF m pc Ls (.long y :: .long x :: st)) := by subst hp; exact Goes.by' (fun _ q => XT.lrem X.here hx rfl hd rfl hy (by rw [lrem_mod]; exact q)) k
theorem g_lneg (X : Stand p l e R s m args below meth c T locs cells slots) (hx : p.tables.exec = Jvm.exec) {x : Int64} (hd : decode c.code pc = .ok (.lneg, 1))  (hp : pc + 1 = pc') (k : Goes p e below K T (mkF m pc' Ls (.long (-x) :: st))) : Goes p e below K T (mkF m pc Ls (.long x :: st)) := by subst hp; exact Goes.by' (fun _ q => XT.lneg X.here hx rfl hd rfl q) k
theorem g_lshl (X : Stand p l e R s m args below meth c T locs cells slots) (hx : p.tables.exec = Jvm.exec) {x : Int64} {y : Int32} (hd : decode c.code pc = .ok (.lshl, 1))  (hp : pc + 1 = pc') (k : Goes p e below K T (mkF m pc' Ls (.long (x <<< (y.toInt64 &&& 63)) :: st))) : Goes p e below K T (mkF m pc Ls (.int y :: .long x :: st)) := by subst hp; exact Goes.by' (fun _ q => XT.lshl X.here hx rfl hd rfl q) k
theorem g_lshr (X : Stand p l e R s m args below meth c T locs cells slots) (hx : p.tables.exec = Jvm.exec) {x : Int64} {y : Int32} (hd : decode c.code pc = .ok (.lshr, 1))  (hp : pc + 1 = pc') (k : Goes p e below K T (mkF m pc' Ls (.long (x >>> (y.toInt64 &&& 63)) :: st))) : Goes p e below K T (mkF m pc Ls (.int y :: .long x :: st)) := by subst hp; exact Goes.by' (fun _ q => XT.lshr X.here hx rfl hd rfl q) k
theorem g_lushr (X : Stand p l e R s m args below meth c T locs cells slots) (hx : p.tables.exec = Jvm.exec) {x : Int64} {y : Int32} (hd : decode c.code pc = .ok (.lushr, 1))  (hp : pc + 1 = pc') (k : Goes p e below K T (mkF m pc' Ls (.long (XT.ushrL x y) :: st))) : Goes p e below K T (mkF m pc Ls (.int y :: .long x :: st)) := by subst hp; exact Goes.by' (fun _ q => XT.lushr X.here hx rfl hd rfl q) k
theorem g_lcmp (X : Stand p l e R s m args below meth c T locs cells slots) (hx : p.tables.exec = Jvm.exec) {x y : Int64} (hd : decode c.code pc = .ok (.lcmp, 1))  (hp : pc + 1 = pc') (k : Goes p e below K T (mkF m pc' Ls (.int (XT.cmpL x y) :: st))) : Goes p e below K T (mkF m pc Ls (.long y :: .long x :: st)) := by subst hp; exact Goes.by' (fun _ q => XT.lcmp X.here hx rfl hd rfl q) k
theorem g_i2l (X : Stand p l e R s m args below meth c T locs cells slots) (hx : p.tables.exec = Jvm.exec) {x : Int32} (hd : decode c.code pc = .ok (.i2l, 1))  (hp : pc + 1 = pc') (k : Goes p e below K T (mkF m pc' Ls (.long x.toInt64 :: st))) : Goes p e below K T (mkF m pc Ls (.int x :: st)) := by subst hp; exact Goes.by' (fun _ q => XT.i2l X.here hx rfl hd rfl q) k
theorem g_l2i (X : Stand p l e R s m args below meth c T locs cells slots) (hx : p.tables.exec = Jvm.exec) {x : Int64} (hd : decode c.code pc = .ok (.l2i, 1))  (hp : pc + 1 = pc') (k : Goes p e below K T (mkF m pc' Ls (.int x.toInt32 :: st))) : Goes p e below K T (mkF m pc Ls (.long x :: st)) := by subst hp; exact Goes.by' (fun _ q => XT.l2i X.here hx rfl hd rfl q) k
theorem g_i2b (X : Stand p l e R s m args below meth c T locs cells slots) (hx : p.tables.exec = Jvm.exec) {x : Int32} (hd : decode c.code pc = .ok (.i2b, 1))  (hp : pc + 1 = pc') (k : Goes p e below K T (mkF m pc' Ls (.int x.toInt8.toInt32 :: st))) : Goes p e below K T (mkF m pc Ls (.int x :: st)) := by subst hp; exact Goes.by' (fun _ q => XT.i2b X.here hx rfl hd rfl q) k
theorem g_i2c (X : Stand p l e R s m args below meth c T locs cells slots) (hx : p.tables.exec = Jvm.exec) {x : Int32} (hd : decode c.code pc = .ok (.i2c, 1))  (hp : pc + 1 = pc') (k : Goes p e below K T (mkF m pc' Ls (.int x.toUInt32.toUInt16.toUInt32.toInt32 :: st))) : Goes p e below K T (mkF m pc Ls (.int x :: st)) := by subst hp; exact Goes.by' (fun _ q => XT.i2c X.here hx rfl hd rfl q) k
theorem g_i2s (X : Stand p l e R s m args below meth c T locs cells slots) (hx : p.tables.exec = Jvm.exec) {x : Int32} (hd : decode c.code pc = .ok (.i2s, 1))  (hp : pc + 1 = pc') (k : Goes p e below K T (mkF m pc' Ls (.int x.toInt16.toInt32 :: st))) : Goes p e below K T (mkF m pc Ls (.int x :: st)) := by subst hp; exact Goes.by' (fun _ q => XT.i2s X.here hx rfl hd rfl q) k
theorem g_aload_n (X : Stand p l e R s m args below meth c T locs cells slots) (hx : p.tables.exec = Jvm.exec) {i : Fin 4} {v : Value} (hd : decode c.code pc = .ok (.aload_n i, 1)) (hl : Ls[i.val]? = some (.val v)) (hv : v.isRef = true) (hp : pc + 1 = pc') (k : Goes p e below K T (mkF m pc' Ls (v :: st))) : Goes p e below K T (mkF m pc Ls (st)) := by subst hp; exact Goes.by' (fun _ q => XS.aloadN X.here hx rfl hd hl hv q) k
theorem g_aload (X : Stand p l e R s m args below meth c T locs cells slots) (hx : p.tables.exec = Jvm.exec) {i : Nat} {v : Value} (hd : decode c.code pc = .ok (.aload i, 2)) (hl : Ls[i]? = some (.val v)) (hv : v.isRef = true) (hp : pc + 2 = pc') (k : Goes p e below K T (mkF m pc' Ls (v :: st))) : Goes p e below K T (mkF m pc Ls (st)) := by subst hp; exact Goes.by' (fun _ q => XS.aload X.here hx rfl hd hl hv q) k
theorem g_iload_n (X : Stand p l e R s m args below meth c T locs cells slots) (hx : p.tables.exec = Jvm.exec) {i : Fin 4} {v : Int32} (hd : decode c.code pc = .ok (.iload_n i, 1)) (hl : Ls[i.val]? = some (.val (.int v))) (hp : pc + 1 = pc') (k : Goes p e below K T (mkF m pc' Ls (.int v :: st))) : Goes p e below K T (mkF m pc Ls (st)) := by subst hp; exact Goes.by' (fun _ q => XS.iloadN X.here hx rfl hd hl q) k
theorem g_iload (X : Stand p l e R s m args below meth c T locs cells slots) (hx : p.tables.exec = Jvm.exec) {i : Nat} {v : Int32} (hd : decode c.code pc = .ok (.iload i, 2)) (hl : Ls[i]? = some (.val (.int v))) (hp : pc + 2 = pc') (k : Goes p e below K T (mkF m pc' Ls (.int v :: st))) : Goes p e below K T (mkF m pc Ls (st)) := by subst hp; exact Goes.by' (fun _ q => XS.iload X.here hx rfl hd hl q) k
theorem g_lload_n (X : Stand p l e R s m args below meth c T locs cells slots) (hx : p.tables.exec = Jvm.exec) {i : Fin 4} {v : Int64} (hd : decode c.code pc = .ok (.lload_n i, 1)) (hl : Ls[i.val]? = some (.val (.long v))) (hp : pc + 1 = pc') (k : Goes p e below K T (mkF m pc' Ls (.long v :: st))) : Goes p e below K T (mkF m pc Ls (st)) := by subst hp; exact Goes.by' (fun _ q => XT.lloadN X.here hx rfl hd hl q) k
theorem g_lload (X : Stand p l e R s m args below meth c T locs cells slots) (hx : p.tables.exec = Jvm.exec) {i : Nat} {v : Int64} (hd : decode c.code pc = .ok (.lload i, 2)) (hl : Ls[i]? = some (.val (.long v))) (hp : pc + 2 = pc') (k : Goes p e below K T (mkF m pc' Ls (.long v :: st))) : Goes p e below K T (mkF m pc Ls (st)) := by subst hp; exact Goes.by' (fun _ q => XT.lload X.here hx rfl hd hl q) k
theorem g_iconst (X : Stand p l e R s m args below meth c T locs cells slots) (hx : p.tables.exec = Jvm.exec) {i : Int} {v : Int32} (hd : decode c.code pc = .ok (.iconst i, 1)) (hv : v = Int32.ofInt i) (hp : pc + 1 = pc') (k : Goes p e below K T (mkF m pc' Ls (.int v :: st))) : Goes p e below K T (mkF m pc Ls (st)) := by subst hp; exact Goes.by' (fun _ q => XS.iconst X.here hx rfl hd (hv ▸ q)) k
theorem g_bipush (X : Stand p l e R s m args below meth c T locs cells slots) (hx : p.tables.exec = Jvm.exec) {i : Int} {v : Int32} (hd : decode c.code pc = .ok (.bipush i, 2)) (hv : v = (Int8.ofInt i).toInt32) (hp : pc + 2 = pc') (k : Goes p e below K T (mkF m pc' Ls (.int v :: st))) : Goes p e below K T (mkF m pc Ls (st)) := by subst hp; exact Goes.by' (fun _ q => XS.bipush X.here hx rfl hd (hv ▸ q)) k
theorem g_sipush (X : Stand p l e R s m args below meth c T locs cells slots) (hx : p.tables.exec = Jvm.exec) {i : Int} {v : Int32} (hd : decode c.code pc = .ok (.sipush i, 3)) (hv : v = (Int16.ofInt i).toInt32) (hp : pc + 3 = pc') (k : Goes p e below K T (mkF m pc' Ls (.int v :: st))) : Goes p e below K T (mkF m pc Ls (st)) := by subst hp; exact Goes.by' (fun _ q => XS.sipush X.here hx rfl hd (hv ▸ q)) k
theorem g_lconst (X : Stand p l e R s m args below meth c T locs cells slots) (hx : p.tables.exec = Jvm.exec) {i : Fin 2} {v : Int64} (hd : decode c.code pc = .ok (.lconst i, 1)) (hv : v = Int64.ofNat i) (hp : pc + 1 = pc') (k : Goes p e below K T (mkF m pc' Ls (.long v :: st))) : Goes p e below K T (mkF m pc Ls (st)) := by subst hp; exact Goes.by' (fun _ q => XT.lconst X.here hx rfl hd (hv ▸ q)) k
theorem g_aconst_null (X : Stand p l e R s m args below meth c T locs cells slots) (hx : p.tables.exec = Jvm.exec)  (hd : decode c.code pc = .ok (.aconst_null, 1))  (hp : pc + 1 = pc') (k : Goes p e below K T (mkF m pc' Ls (.null :: st))) : Goes p e below K T (mkF m pc Ls (st)) := by subst hp; exact Goes.by' (fun _ q => XS.aconstNull X.here hx rfl hd q) k
theorem g_dup (X : Stand p l e R s m args below meth c T locs cells slots) (hx : p.tables.exec = Jvm.exec) {x : Value} (hd : decode c.code pc = .ok (.dup, 1)) (hc : x.category = 1) (hp : pc + 1 = pc') (k : Goes p e below K T (mkF m pc' Ls (x :: x :: st))) : Goes p e below K T (mkF m pc Ls (x :: st)) := by subst hp; exact Goes.by' (fun _ q => XS.dup X.here hx rfl hd rfl hc q) k
theorem g_pop (X : Stand p l e R s m args below meth c T locs cells slots) (hx : p.tables.exec = Jvm.exec) {x : Value} (hd : decode c.code pc = .ok (.pop, 1)) (hc : x.category = 1) (hp : pc + 1 = pc') (k : Goes p e below K T (mkF m pc' Ls (st))) : Goes p e below K T (mkF m pc Ls (x :: st)) := by subst hp; exact Goes.by' (fun _ q => XT.pop X.here hx rfl hd rfl hc q) k
theorem g_dup_x1 (X : Stand p l e R s m args below meth c T locs cells slots) (hx : p.tables.exec = Jvm.exec) {x y : Value} (hd : decode c.code pc = .ok (.dup_x1, 1)) (hc : x.category = 1) (hc' : y.category = 1) (hp : pc + 1 = pc') (k : Goes p e below K T (mkF m pc' Ls (x :: y :: x :: st))) : Goes p e below K T (mkF m pc Ls (x :: y :: st)) := by subst hp; exact Goes.by' (fun _ q => XT.dupX1 X.here hx rfl hd rfl hc hc' q) k
theorem g_dup2 (X : Stand p l e R s m args below meth c T locs cells slots) (hx : p.tables.exec = Jvm.exec) {x y : Value} (hd : decode c.code pc = .ok (.dup2, 1)) (hc : x.category = 1) (hc' : y.category = 1) (hp : pc + 1 = pc') (k : Goes p e below K T (mkF m pc' Ls (x :: y :: x :: y :: st))) : Goes p e below K T (mkF m pc Ls (x :: y :: st)) := by subst hp; exact Goes.by' (fun _ q => XT.dup2 X.here hx rfl hd rfl hc hc' q) k
theorem g_dup2L (X : Stand p l e R s m args below meth c T locs cells slots) (hx : p.tables.exec = Jvm.exec) {x : Int64} (hd : decode c.code pc = .ok (.dup2, 1))  (hp : pc + 1 = pc') (k : Goes p e below K T (mkF m pc' Ls (.long x :: .long x :: st))) : Goes p e below K T (mkF m pc Ls (.long x :: st)) := by subst hp; exact Goes.by' (fun _ q => XT.dup2L X.here hx rfl hd rfl q) k
theorem g_istore_n (X : Stand p l e R s m args below meth c T locs cells slots) (hx : p.tables.exec = Jvm.exec) {i : Fin 4} {x : Int32} (l' : Array Slot) (hd : decode c.code pc = .ok (.istore_n i, 1)) (hl : storeLocals Ls i.val (.int x) = some l') (hp : pc + 1 = pc') (k : Goes p e below K T (mkF m pc' l' (st))) : Goes p e below K T (mkF m pc Ls (.int x :: st)) := by subst hp; exact Goes.by' (fun _ q => XS.istoreN X.here hx rfl hd rfl hl q) k
theorem g_istore (X : Stand p l e R s m args below meth c T locs cells slots) (hx : p.tables.exec = Jvm.exec) {i : Nat} {x : Int32} (l' : Array Slot) (hd : decode c.code pc = .ok (.istore i, 2)) (hl : storeLocals Ls i (.int x) = some l') (hp : pc + 2 = pc') (k : Goes p e below K T (mkF m pc' l' (st))) : Goes p e below K T (mkF m pc Ls (.int x :: st)) := by subst hp; exact Goes.by' (fun _ q => XS.istore X.here hx rfl hd rfl hl q) k
theorem g_lstore_n (X : Stand p l e R s m args below meth c T locs cells slots) (hx : p.tables.exec = Jvm.exec) {i : Fin 4} {x : Int64} (l' : Array Slot) (hd : decode c.code pc = .ok (.lstore_n i, 1)) (hl : storeLocals Ls i.val (.long x) = some l') (hp : pc + 1 = pc') (k : Goes p e below K T (mkF m pc' l' (st))) : Goes p e below K T (mkF m pc Ls (.long x :: st)) := by subst hp; exact Goes.by' (fun _ q => XT.lstoreN X.here hx rfl hd rfl hl q) k
theorem g_lstore (X : Stand p l e R s m args below meth c T locs cells slots) (hx : p.tables.exec = Jvm.exec) {i : Nat} {x : Int64} (l' : Array Slot) (hd : decode c.code pc = .ok (.lstore i, 2)) (hl : storeLocals Ls i (.long x) = some l') (hp : pc + 2 = pc') (k : Goes p e below K T (mkF m pc' l' (st))) : Goes p e below K T (mkF m pc Ls (.long x :: st)) := by subst hp; exact Goes.by' (fun _ q => XT.lstore X.here hx rfl hd rfl hl q) k
theorem g_astore_n (X : Stand p l e R s m args below meth c T locs cells slots) (hx : p.tables.exec = Jvm.exec) {i : Fin 4} {x : Value} (l' : Array Slot) (hd : decode c.code pc = .ok (.astore_n i, 1)) (hv : x.isRef = true) (hl : storeLocals Ls i.val x = some l') (hp : pc + 1 = pc') (k : Goes p e below K T (mkF m pc' l' (st))) : Goes p e below K T (mkF m pc Ls (x :: st)) := by subst hp; exact Goes.by' (fun _ q => XS.astoreN X.here hx rfl hd rfl hv hl q) k
theorem g_astore (X : Stand p l e R s m args below meth c T locs cells slots) (hx : p.tables.exec = Jvm.exec) {i : Nat} {x : Value} (l' : Array Slot) (hd : decode c.code pc = .ok (.astore i, 2)) (hv : x.isRef = true) (hl : storeLocals Ls i x = some l') (hp : pc + 2 = pc') (k : Goes p e below K T (mkF m pc' l' (st))) : Goes p e below K T (mkF m pc Ls (x :: st)) := by subst hp; exact Goes.by' (fun _ q => XS.astore X.here hx rfl hd rfl hv hl q) k
theorem g_iinc (X : Stand p l e R s m args below meth c T locs cells slots) (hx : p.tables.exec = Jvm.exec) {i : Nat} {cst : Int} {x y : Int32} (l' : Array Slot) (hd : decode c.code pc = .ok (.iinc i cst, 3)) (hl : Ls[i]? = some (.val (.int x))) (hy : y = x + Int32.ofInt cst) (hl' : storeLocals Ls i (.int y) = some l') (hp : pc + 3 = pc') (k : Goes p e below K T (mkF m pc' l' (st))) : Goes p e below K T (mkF m pc Ls (st)) := by subst hp; exact Goes.by' (fun _ q => XS.iinc X.here hx rfl hd hl (hy ▸ hl') q) k
theorem g_ldcI (X : Stand p l e R s m args below meth c T locs cells slots) (hx : p.tables.exec = Jvm.exec) (hZ : Z.Warmed39 s.vm) {own : String} {ix : Nat} {v : Int32} (hown : s.vm.findClass own = some m.cls) (w : (Cond.constant own ix v).before a0 Z = true) (hd : decode c.code pc = .ok (.ldc ix, 2)) (hp : pc + 2 = pc') (k : Goes p e below K T (mkF m pc' Ls (.int v :: st))) : Goes p e below K T (mkF m pc Ls st) := by subst hp; exact Goes.by' (fun _ q => X.ldcI hx hown (mvT hZ w) rfl hd q) k
theorem g_ldcWI (X : Stand p l e R s m args below meth c T locs cells slots) (hx : p.tables.exec = Jvm.exec) (hZ : Z.Warmed39 s.vm) {own : String} {ix : Nat} {v : Int32} (hown : s.vm.findClass own = some m.cls) (w : (Cond.constant own ix v).before a0 Z = true) (hd : decode c.code pc = .ok (.ldc_w ix, 3)) (hp : pc + 3 = pc') (k : Goes p e below K T (mkF m pc' Ls (.int v :: st))) : Goes p e below K T (mkF m pc Ls st) := by subst hp; exact Goes.by' (fun _ q => X.ldcWI hx hown (mvT hZ w) rfl hd q) k
theorem g_ldc2J (X : Stand p l e R s m args below meth c T locs cells slots) (hx : p.tables.exec = Jvm.exec) (hZ : Z.Warmed39 s.vm) {own : String} {ix : Nat} {v : Int64} (hown : s.vm.findClass own = some m.cls) (w : (Cond.constantLong own ix v).before a0 Z = true) (hd : decode c.code pc = .ok (.ldc2_w ix, 3)) (hp : pc + 3 = pc') (k : Goes p e below K T (mkF m pc' Ls (.long v :: st))) : Goes p e below K T (mkF m pc Ls st) := by subst hp; exact Goes.by' (fun _ q => X.ldc2J hx hown (mvT hZ w) rfl hd q) k
theorem g_goto (X : Stand p l e R s m args below meth c T locs cells slots) (hx : p.tables.exec = Jvm.exec) {o : Int} (hd : decode c.code pc = .ok (.goto o, 3)) (ho : 0 ≤ (pc : Int) + o) (hp : ((pc : Int) + o).toNat = pc') (k : Goes p e below K T (mkF m pc' Ls st)) : Goes p e below K T (mkF m pc Ls st) := Goes.by' (fun _ q => XS.goto X.here hx rfl (pc0 := pc) (pc' := pc') rfl hd ho hp q) k
theorem icmp_iff (cd : ClassFile.Cond) (x y : Int32) : if_icmp.holds cd x y = true ↔ (match cd with | .eq => x = y | .ne => ¬ x = y | .lt => x < y | .ge => ¬ x < y | .gt => y < x | .le => ¬ y < x) := by cases cd <;> simp [if_icmp.holds, Int32.not_lt, Int32.not_le]
theorem g_icmp_eq (X : Stand p l e R s m args below meth c T locs cells slots) (hx : p.tables.exec = Jvm.exec) {x y : Int32} {o : Int} {pt : Nat} (hd : decode c.code pc = .ok (.if_icmp .eq o, 3)) (ho : 0 ≤ (pc : Int) + o) (hp : ((pc : Int) + o).toNat = pt) (hp' : pc + 3 = pc') (kt : x = y → Goes p e below K T (mkF m pt Ls st)) (kf : ¬ x = y → Goes p e below K T (mkF m pc' Ls st)) : Goes p e below K T (mkF m pc Ls (.int y :: .int x :: st)) := by
  subst hp'
  by_cases q : if_icmp.holds .eq x y = true
  · exact Goes.by' (fun _ r => XS.icmpYes X.here hx rfl (pc0 := pc) (pc' := pt) rfl hd rfl q ho hp r) (kt ((icmp_iff .eq x y).mp q))
  · exact Goes.by' (fun _ r => XS.icmpNo X.here hx rfl hd rfl (by simpa using q) r) (kf (id (mt (icmp_iff .eq x y).mpr q)))
theorem g_if_eq (X : Stand p l e R s m args below meth c T locs cells slots) (hx : p.tables.exec = Jvm.exec) {x : Int32} {o : Int} {pt : Nat} (hd : decode c.code pc = .ok (.ifCond .eq o, 3)) (ho : 0 ≤ (pc : Int) + o) (hp : ((pc : Int) + o).toNat = pt) (hp' : pc + 3 = pc') (kt : x = 0 → Goes p e below K T (mkF m pt Ls st)) (kf : ¬ x = 0 → Goes p e below K T (mkF m pc' Ls st)) : Goes p e below K T (mkF m pc Ls (.int x :: st)) := by
  subst hp'
  by_cases q : if_icmp.holds .eq x 0 = true
  · exact Goes.by' (fun _ r => XS.ifYes X.here hx rfl (pc0 := pc) (pc' := pt) rfl hd rfl (by rw [if0]; exact q) ho hp r) (kt ((icmp_iff .eq x 0).mp q))
  · exact Goes.by' (fun _ r => XS.ifNo X.here hx rfl hd rfl (by rw [if0]; simpa using q) r) (kf (id (mt (icmp_iff .eq x 0).mpr q)))
theorem g_icmp_ne (X : Stand p l e R s m args below meth c T locs cells slots) (hx : p.tables.exec = Jvm.exec) {x y : Int32} {o : Int} {pt : Nat} (hd : decode c.code pc = .ok (.if_icmp .ne o, 3)) (ho : 0 ≤ (pc : Int) + o) (hp : ((pc : Int) + o).toNat = pt) (hp' : pc + 3 = pc') (kt : ¬ x = y → Goes p e below K T (mkF m pt Ls st)) (kf : x = y → Goes p e below K T (mkF m pc' Ls st)) : Goes p e below K T (mkF m pc Ls (.int y :: .int x :: st)) := by
  subst hp'
  by_cases q : if_icmp.holds .ne x y = true
  · exact Goes.by' (fun _ r => XS.icmpYes X.here hx rfl (pc0 := pc) (pc' := pt) rfl hd rfl q ho hp r) (kt ((icmp_iff .ne x y).mp q))
  · exact Goes.by' (fun _ r => XS.icmpNo X.here hx rfl hd rfl (by simpa using q) r) (kf (Classical.not_not.mp (mt (icmp_iff .ne x y).mpr q)))
theorem g_if_ne (X : Stand p l e R s m args below meth c T locs cells slots) (hx : p.tables.exec = Jvm.exec) {x : Int32} {o : Int} {pt : Nat} (hd : decode c.code pc = .ok (.ifCond .ne o, 3)) (ho : 0 ≤ (pc : Int) + o) (hp : ((pc : Int) + o).toNat = pt) (hp' : pc + 3 = pc') (kt : ¬ x = 0 → Goes p e below K T (mkF m pt Ls st)) (kf : x = 0 → Goes p e below K T (mkF m pc' Ls st)) : Goes p e below K T (mkF m pc Ls (.int x :: st)) := by
  subst hp'
  by_cases q : if_icmp.holds .ne x 0 = true
  · exact Goes.by' (fun _ r => XS.ifYes X.here hx rfl (pc0 := pc) (pc' := pt) rfl hd rfl (by rw [if0]; exact q) ho hp r) (kt ((icmp_iff .ne x 0).mp q))
  · exact Goes.by' (fun _ r => XS.ifNo X.here hx rfl hd rfl (by rw [if0]; simpa using q) r) (kf (Classical.not_not.mp (mt (icmp_iff .ne x 0).mpr q)))
theorem g_icmp_lt (X : Stand p l e R s m args below meth c T locs cells slots) (hx : p.tables.exec = Jvm.exec) {x y : Int32} {o : Int} {pt : Nat} (hd : decode c.code pc = .ok (.if_icmp .lt o, 3)) (ho : 0 ≤ (pc : Int) + o) (hp : ((pc : Int) + o).toNat = pt) (hp' : pc + 3 = pc') (kt : x < y → Goes p e below K T (mkF m pt Ls st)) (kf : ¬ x < y → Goes p e below K T (mkF m pc' Ls st)) : Goes p e below K T (mkF m pc Ls (.int y :: .int x :: st)) := by
  subst hp'
  by_cases q : if_icmp.holds .lt x y = true
  · exact Goes.by' (fun _ r => XS.icmpYes X.here hx rfl (pc0 := pc) (pc' := pt) rfl hd rfl q ho hp r) (kt ((icmp_iff .lt x y).mp q))
  · exact Goes.by' (fun _ r => XS.icmpNo X.here hx rfl hd rfl (by simpa using q) r) (kf (id (mt (icmp_iff .lt x y).mpr q)))
theorem g_if_lt (X : Stand p l e R s m args below meth c T locs cells slots) (hx : p.tables.exec = Jvm.exec) {x : Int32} {o : Int} {pt : Nat} (hd : decode c.code pc = .ok (.ifCond .lt o, 3)) (ho : 0 ≤ (pc : Int) + o) (hp : ((pc : Int) + o).toNat = pt) (hp' : pc + 3 = pc') (kt : x < 0 → Goes p e below K T (mkF m pt Ls st)) (kf : ¬ x < 0 → Goes p e below K T (mkF m pc' Ls st)) : Goes p e below K T (mkF m pc Ls (.int x :: st)) := by
  subst hp'
  by_cases q : if_icmp.holds .lt x 0 = true
  · exact Goes.by' (fun _ r => XS.ifYes X.here hx rfl (pc0 := pc) (pc' := pt) rfl hd rfl (by rw [if0]; exact q) ho hp r) (kt ((icmp_iff .lt x 0).mp q))
  · exact Goes.by' (fun _ r => XS.ifNo X.here hx rfl hd rfl (by rw [if0]; simpa using q) r) (kf (id (mt (icmp_iff .lt x 0).mpr q)))
theorem g_icmp_ge (X : Stand p l e R s m args below meth c T locs cells slots) (hx : p.tables.exec = Jvm.exec) {x y : Int32} {o : Int} {pt : Nat} (hd : decode c.code pc = .ok (.if_icmp .ge o, 3)) (ho : 0 ≤ (pc : Int) + o) (hp : ((pc : Int) + o).toNat = pt) (hp' : pc + 3 = pc') (kt : ¬ x < y → Goes p e below K T (mkF m pt Ls st)) (kf : x < y → Goes p e below K T (mkF m pc' Ls st)) : Goes p e below K T (mkF m pc Ls (.int y :: .int x :: st)) := by
  subst hp'
  by_cases q : if_icmp.holds .ge x y = true
  · exact Goes.by' (fun _ r => XS.icmpYes X.here hx rfl (pc0 := pc) (pc' := pt) rfl hd rfl q ho hp r) (kt ((icmp_iff .ge x y).mp q))
  · exact Goes.by' (fun _ r => XS.icmpNo X.here hx rfl hd rfl (by simpa using q) r) (kf (Classical.not_not.mp (mt (icmp_iff .ge x y).mpr q)))
theorem g_if_ge (X : Stand p l e R s m args below meth c T locs cells slots) (hx : p.tables.exec = Jvm.exec) {x : Int32} {o : Int} {pt : Nat} (hd : decode c.code pc = .ok (.ifCond .ge o, 3)) (ho : 0 ≤ (pc : Int) + o) (hp : ((pc : Int) + o).toNat = pt) (hp' : pc + 3 = pc') (kt : ¬ x < 0 → Goes p e below K T (mkF m pt Ls st)) (kf : x < 0 → Goes p e below K T (mkF m pc' Ls st)) : Goes p e below K T (mkF m pc Ls (.int x :: st)) := by
  subst hp'
  by_cases q : if_icmp.holds .ge x 0 = true
  · exact Goes.by' (fun _ r => XS.ifYes X.here hx rfl (pc0 := pc) (pc' := pt) rfl hd rfl (by rw [if0]; exact q) ho hp r) (kt ((icmp_iff .ge x 0).mp q))
  · exact Goes.by' (fun _ r => XS.ifNo X.here hx rfl hd rfl (by rw [if0]; simpa using q) r) (kf (Classical.not_not.mp (mt (icmp_iff .ge x 0).mpr q)))
theorem g_icmp_gt (X : Stand p l e R s m args below meth c T locs cells slots) (hx : p.tables.exec = Jvm.exec) {x y : Int32} {o : Int} {pt : Nat} (hd : decode c.code pc = .ok (.if_icmp .gt o, 3)) (ho : 0 ≤ (pc : Int) + o) (hp : ((pc : Int) + o).toNat = pt) (hp' : pc + 3 = pc') (kt : y < x → Goes p e below K T (mkF m pt Ls st)) (kf : ¬ y < x → Goes p e below K T (mkF m pc' Ls st)) : Goes p e below K T (mkF m pc Ls (.int y :: .int x :: st)) := by
  subst hp'
  by_cases q : if_icmp.holds .gt x y = true
  · exact Goes.by' (fun _ r => XS.icmpYes X.here hx rfl (pc0 := pc) (pc' := pt) rfl hd rfl q ho hp r) (kt ((icmp_iff .gt x y).mp q))
  · exact Goes.by' (fun _ r => XS.icmpNo X.here hx rfl hd rfl (by simpa using q) r) (kf (id (mt (icmp_iff .gt x y).mpr q)))
theorem g_if_gt (X : Stand p l e R s m args below meth c T locs cells slots) (hx : p.tables.exec = Jvm.exec) {x : Int32} {o : Int} {pt : Nat} (hd : decode c.code pc = .ok (.ifCond .gt o, 3)) (ho : 0 ≤ (pc : Int) + o) (hp : ((pc : Int) + o).toNat = pt) (hp' : pc + 3 = pc') (kt : 0 < x → Goes p e below K T (mkF m pt Ls st)) (kf : ¬ 0 < x → Goes p e below K T (mkF m pc' Ls st)) : Goes p e below K T (mkF m pc Ls (.int x :: st)) := by
  subst hp'
  by_cases q : if_icmp.holds .gt x 0 = true
  · exact Goes.by' (fun _ r => XS.ifYes X.here hx rfl (pc0 := pc) (pc' := pt) rfl hd rfl (by rw [if0]; exact q) ho hp r) (kt ((icmp_iff .gt x 0).mp q))
  · exact Goes.by' (fun _ r => XS.ifNo X.here hx rfl hd rfl (by rw [if0]; simpa using q) r) (kf (id (mt (icmp_iff .gt x 0).mpr q)))
theorem g_icmp_le (X : Stand p l e R s m args below meth c T locs cells slots) (hx : p.tables.exec = Jvm.exec) {x y : Int32} {o : Int} {pt : Nat} (hd : decode c.code pc = .ok (.if_icmp .le o, 3)) (ho : 0 ≤ (pc : Int) + o) (hp : ((pc : Int) + o).toNat = pt) (hp' : pc + 3 = pc') (kt : ¬ y < x → Goes p e below K T (mkF m pt Ls st)) (kf : y < x → Goes p e below K T (mkF m pc' Ls st)) : Goes p e below K T (mkF m pc Ls (.int y :: .int x :: st)) := by
  subst hp'
  by_cases q : if_icmp.holds .le x y = true
  · exact Goes.by' (fun _ r => XS.icmpYes X.here hx rfl (pc0 := pc) (pc' := pt) rfl hd rfl q ho hp r) (kt ((icmp_iff .le x y).mp q))
  · exact Goes.by' (fun _ r => XS.icmpNo X.here hx rfl hd rfl (by simpa using q) r) (kf (Classical.not_not.mp (mt (icmp_iff .le x y).mpr q)))
theorem g_if_le (X : Stand p l e R s m args below meth c T locs cells slots) (hx : p.tables.exec = Jvm.exec) {x : Int32} {o : Int} {pt : Nat} (hd : decode c.code pc = .ok (.ifCond .le o, 3)) (ho : 0 ≤ (pc : Int) + o) (hp : ((pc : Int) + o).toNat = pt) (hp' : pc + 3 = pc') (kt : ¬ 0 < x → Goes p e below K T (mkF m pt Ls st)) (kf : 0 < x → Goes p e below K T (mkF m pc' Ls st)) : Goes p e below K T (mkF m pc Ls (.int x :: st)) := by
  subst hp'
  by_cases q : if_icmp.holds .le x 0 = true
  · exact Goes.by' (fun _ r => XS.ifYes X.here hx rfl (pc0 := pc) (pc' := pt) rfl hd rfl (by rw [if0]; exact q) ho hp r) (kt ((icmp_iff .le x 0).mp q))
  · exact Goes.by' (fun _ r => XS.ifNo X.here hx rfl hd rfl (by rw [if0]; simpa using q) r) (kf (Classical.not_not.mp (mt (icmp_iff .le x 0).mpr q)))
theorem g_ifnull_t (X : Stand p l e R s m args below meth c T locs cells slots) (hx : p.tables.exec = Jvm.exec) {o : Int} {pt : Nat} (hd : decode c.code pc = .ok (.ifnull o, 3)) (ho : 0 ≤ (pc : Int) + o) (hp : ((pc : Int) + o).toNat = pt) (k : Goes p e below K T (mkF m pt Ls st)) : Goes p e below K T (mkF m pc Ls (.null :: st)) := Goes.by' (fun _ r => XS.ifnullYes X.here hx rfl (pc0 := pc) (pc' := pt) rfl hd rfl ho hp r) k
theorem g_ifnull_f (X : Stand p l e R s m args below meth c T locs cells slots) (hx : p.tables.exec = Jvm.exec) {o : Int} {a : Addr} (hd : decode c.code pc = .ok (.ifnull o, 3)) (hp : pc + 3 = pc') (k : Goes p e below K T (mkF m pc' Ls st)) : Goes p e below K T (mkF m pc Ls (.ref a :: st)) := by subst hp; exact Goes.by' (fun _ r => XS.ifnullNo X.here hx rfl hd rfl r) k
theorem g_ifnonnull_t (X : Stand p l e R s m args below meth c T locs cells slots) (hx : p.tables.exec = Jvm.exec) {o : Int} {a : Addr} {pt : Nat} (hd : decode c.code pc = .ok (.ifnonnull o, 3)) (ho : 0 ≤ (pc : Int) + o) (hp : ((pc : Int) + o).toNat = pt) (k : Goes p e below K T (mkF m pt Ls st)) : Goes p e below K T (mkF m pc Ls (.ref a :: st)) := Goes.by' (fun _ r => XT.ifnonnullYes X.here hx rfl (pc0 := pc) (pc' := pt) rfl hd rfl ho hp r) k
theorem g_ifnonnull_f (X : Stand p l e R s m args below meth c T locs cells slots) (hx : p.tables.exec = Jvm.exec) {o : Int} (hd : decode c.code pc = .ok (.ifnonnull o, 3)) (hp : pc + 3 = pc') (k : Goes p e below K T (mkF m pc' Ls st)) : Goes p e below K T (mkF m pc Ls (.null :: st)) := by subst hp; exact Goes.by' (fun _ r => XT.ifnonnullNo X.here hx rfl hd rfl r) k
theorem g_acmp_eq (X : Stand p l e R s m args below meth c T locs cells slots) (hx : p.tables.exec = Jvm.exec) {x y : Value} {o : Int} {pt : Nat} (hd : decode c.code pc = .ok (.if_acmp .eq o, 3)) (hx' : x.isRef = true) (hy' : y.isRef = true) (ho : 0 ≤ (pc : Int) + o) (hp : ((pc : Int) + o).toNat = pt) (hp' : pc + 3 = pc') (kt : x = y → Goes p e below K T (mkF m pt Ls st)) (kf : ¬ x = y → Goes p e below K T (mkF m pc' Ls st)) : Goes p e below K T (mkF m pc Ls (y :: x :: st)) := by
  subst hp'
  by_cases q : x = y
  · exact Goes.by' (fun _ r => XT.acmpYes X.here hx rfl (pc0 := pc) (pc' := pt) rfl hd rfl hx' hy' (by simp [XT.acmp, q]) ho hp r) (kt q)
  · exact Goes.by' (fun _ r => XT.acmpNo X.here hx rfl hd rfl hx' hy' (by simp [XT.acmp, q]) r) (kf q)
theorem g_acmp_ne (X : Stand p l e R s m args below meth c T locs cells slots) (hx : p.tables.exec = Jvm.exec) {x y : Value} {o : Int} {pt : Nat} (hd : decode c.code pc = .ok (.if_acmp .ne o, 3)) (hx' : x.isRef = true) (hy' : y.isRef = true) (ho : 0 ≤ (pc : Int) + o) (hp : ((pc : Int) + o).toNat = pt) (hp' : pc + 3 = pc') (kt : ¬ x = y → Goes p e below K T (mkF m pt Ls st)) (kf : x = y → Goes p e below K T (mkF m pc' Ls st)) : Goes p e below K T (mkF m pc Ls (y :: x :: st)) := by
  subst hp'
  by_cases q : x = y
  · exact Goes.by' (fun _ r => XT.acmpNo X.here hx rfl hd rfl hx' hy' (by simp [XT.acmp, q]) r) (kf q)
  · exact Goes.by' (fun _ r => XT.acmpYes X.here hx rfl (pc0 := pc) (pc' := pt) rfl hd rfl hx' hy' (by simp [XT.acmp, q]) ho hp r) (kt q)
theorem g_lsw (X : Stand p l e R s m args below meth c T locs cells slots) (hx : p.tables.exec = Jvm.exec) {i : Int32} {dflt o : Int} {prs : Array (Int × Int)} {len pt : Nat} (hd : decode c.code pc = .ok (.lookupswitch dflt prs, len)) (hso : ∀ (a b a_1 b_1 : Int), ((a, b), a_1, b_1) ∈ prs.toList.zip prs.toList.tail → a < a_1) (hoff : lookupswitch.offset prs.toList dflt i.toInt = o) (ho : 0 ≤ (pc : Int) + o) (hp : ((pc : Int) + o).toNat = pt) (k : Goes p e below K T (mkF m pt Ls st)) : Goes p e below K T (mkF m pc Ls (.int i :: st)) := by
  subst hp
  refine Goes.by' (fun t q => ?_) k
  show Steps p.tables e below (T.setTop { method := m, pc := pc, locals := Ls, stack := .int i :: st, locked := none }) t
  jvm_step X.here [X.here.top, hx, hd, lookupswitch.wp_chain, hoff, ho]
  exact ⟨hso, q⟩
theorem g_tsw (X : Stand p l e R s m args below meth c T locs cells slots) (hx : p.tables.exec = Jvm.exec) {i : Int32} {dflt lo hi o : Int} {offs : Array Int} {len pt : Nat} (hd : decode c.code pc = .ok (.tableswitch dflt lo hi offs, len)) (hin : ¬ (i.toInt < lo ∨ i.toInt > hi)) (hoff : offs[(i.toInt - lo).toNat]? = some o) (ho : 0 ≤ (pc : Int) + o) (hp : ((pc : Int) + o).toNat = pt) (k : Goes p e below K T (mkF m pt Ls st)) : Goes p e below K T (mkF m pc Ls (.int i :: st)) := Goes.by' (fun _ q => XS.tswIn X.here hx rfl (pc0 := pc) (pc' := pt) rfl hd rfl hin hoff ho hp q) k
theorem g_tswD (X : Stand p l e R s m args below meth c T locs cells slots) (hx : p.tables.exec = Jvm.exec) {i : Int32} {dflt lo hi : Int} {offs : Array Int} {len pt : Nat} (hd : decode c.code pc = .ok (.tableswitch dflt lo hi offs, len)) (hout : i.toInt < lo ∨ i.toInt > hi) (ho : 0 ≤ (pc : Int) + dflt) (hp : ((pc : Int) + dflt).toNat = pt) (k : Goes p e below K T (mkF m pt Ls st)) : Goes p e below K T (mkF m pc Ls (.int i :: st)) := Goes.by' (fun _ q => XS.tswOut X.here hx rfl (pc0 := pc) (pc' := pt) rfl hd rfl hout ho hp q) k
theorem g_getF (X : Stand p l e R s m args below meth c T locs cells slots) (hx : p.tables.exec = Jvm.exec) (hZ : Z.Warmed39 s.vm) {own O n d : String} {ix : Nat} {a : Addr} {v : Value} (hown : s.vm.findClass own = some m.cls) (w : (Cond.fieldLink own ix O n d).before a0 Z = true) (eT : T.heap = h) (F : Fld Z h a O n d v) (hd : decode c.code pc = .ok (.getfield ix, 3)) (hp : pc + 3 = pc') (k : ∀ T', Stand p l e R s m args below meth c T' locs cells slots → T'.heap = h → Goes p e below K T' (mkF m pc' Ls (v :: st))) : Goes p e below K T (mkF m pc Ls (.ref a :: st)) := by
  subst hp
  obtain ⟨T1, X1, e1, f1⟩ := getF X hx hZ hown (host := "") (Or.inl w) Via.refl eT F (g := mkF m pc Ls (.ref a :: st)) rfl rfl hd
  exact Goes.by' f1 (k T1 X1 e1)
theorem g_getS (X : Stand p l e R s m args below meth c T locs cells slots) (hx : p.tables.exec = Jvm.exec) (hZ : Z.Warmed39 s.vm) {own O n d : String} {ix : Nat} {v : Value} (hown : s.vm.findClass own = some m.cls) (w : (Cond.fieldLink own ix O n d).before a0 Z = true) (eT : T.heap = h) (F : Sta Z h O n d v) (hd : decode c.code pc = .ok (.getstatic ix, 3)) (hp : pc + 3 = pc') (k : ∀ T', Stand p l e R s m args below meth c T' locs cells slots → T'.heap = h → Goes p e below K T' (mkF m pc' Ls (v :: st))) : Goes p e below K T (mkF m pc Ls st) := by
  subst hp
  obtain ⟨T1, X1, e1, f1⟩ := getS X hx hZ hown (host := "") w Via.refl eT F (g := mkF m pc Ls st) rfl hd
  exact Goes.by' f1 (k T1 X1 e1)
theorem g_putF (X : Stand p l e R s m args below meth c T locs cells slots) (hx : p.tables.exec = Jvm.exec) (hZ : Z.Warmed39 s.vm) {own O n d C : String} {ix kk : Nat} {ty : FieldType} {a : Addr} {v old : Value} (hown : s.vm.findClass own = some m.cls) (w : (Cond.fieldLink own ix O n d).before a0 Z = true) (eT : T.heap = h) (F : Fld Z h a O n d old) (E : Exa Z h a C) (L : (Cond.lays C O n d).before a0 Z = true ∨ ((Cond.laysFinal C O n d).before a0 Z = true ∧ own = O ∧ meth.name = "<init>")) (wi : (Cond.instantiable C kk).before a0 Z = true) (hty : parseFieldDescriptor d = some ty) (hn : narrow ty v = v) (hf : fits ty v = true) (hd : decode c.code pc = .ok (.putfield ix, 3)) (hp : pc + 3 = pc') (k : ∀ T' h', Stand p l e R s m args below meth c T' (locs ++ [⟨a, Jvm.RoadKit.slotOf Z O n d⟩]) cells slots → T'.heap = h' → Wr h h' a (Jvm.RoadKit.slotOf Z O n d) v → Goes p e below K T' (mkF m pc' Ls st)) : Goes p e below K T (mkF m pc Ls (v :: .ref a :: st)) := by
  subst hp
  obtain ⟨T1, h1, X1, e1, W1, f1⟩ := putF X hx hZ hown (host := "") (Or.inl w) Via.refl eT F E L wi hty hn hf (g := mkF m pc Ls (v :: .ref a :: st)) rfl rfl hd
  exact Goes.by' f1 (k T1 h1 X1 e1 W1)
theorem g_new (X : Stand p l e R s m args below meth c T locs cells slots) (hx : p.tables.exec = Jvm.exec) (hZ : Z.Warmed39 s.vm) {own C : String} {ix n : Nat} (hown : s.vm.findClass own = some m.cls) (w : (Cond.classLink own ix C).before a0 Z = true) (wi : (Cond.instantiable C n).before a0 Z = true) (wz : (Cond.initialized C).before a0 Z = true) (eT : T.heap = h) (hd : decode c.code pc = .ok (.new ix, 3)) (hp : pc + 3 = pc') (hc : cells + 1 ≤ R.cells) (hl : slots + n ≤ R.slots) (k : ∀ T' h' a, Stand p l e R s m args below meth c T' locs (cells + 1) (slots + n) → T'.heap = h' → a = h.size → Ext h h' → Exa Z h' a C → (∀ {O nm d : String} {ty : FieldType}, Laid Z a0 C O nm d → parseFieldDescriptor d = some ty → Fld Z h' a O nm d (defaultValue ty)) → Goes p e below K T' (mkF m pc' Ls (.ref a :: st))) : Goes p e below K T (mkF m pc Ls st) := by
  subst hp
  obtain ⟨T1, h1, X1, e1, E1, A1, D1, -, f1⟩ := newO X hx hZ hown w wi wz eT (g := mkF m pc Ls st) rfl hd hc hl
  exact Goes.by' f1 (k T1 h1 _ X1 e1 rfl E1 A1 D1)
theorem g_newarr (X : Stand p l e R s m args below meth c T locs cells slots) (hx : p.tables.exec = Jvm.exec) (hZ : Z.Warmed39 s.vm) {aty : ArrayType} {ty : FieldType} (hty : newarray.typeOf aty = ty) (w : (Cond.arrayClass ty).before a0 Z = true) (eT : T.heap = h) {n : Int32} (hd : decode c.code pc = .ok (.newarray aty, 2)) (hp : pc + 2 = pc') (hn : ¬ n < 0) (cap : Nat) (hcap : n.toNatClampNeg ≤ cap) (hb : cap * 8 ≤ 536870912) (hc : cells + 1 ≤ R.cells) (hl : slots + cap ≤ R.slots) (k : ∀ T' h' cA a, Stand p l e R s m args below meth c T' locs (cells + 1) (slots + cap) → T'.heap = h' → a = h.size → Ext h h' → Arr Z h' a (newA cA ty n) ty → Goes p e below K T' (mkF m pc' Ls (.ref a :: st))) : Goes p e below K T (mkF m pc Ls (.int n :: st)) := by
  subst hp hty
  obtain ⟨T1, h1, cA, X1, e1, E1, A1, f1⟩ := newP X hx hZ w eT (g := mkF m pc Ls (.int n :: st)) rfl hd rfl hn hcap hb hc hl
  exact Goes.by' f1 (k T1 h1 cA _ X1 e1 rfl E1 A1)
theorem g_newR (X : Stand p l e R s m args below meth c T locs cells slots) (hx : p.tables.exec = Jvm.exec) (hZ : Z.Warmed39 s.vm) {own C : String} {ix : Nat} (hown : s.vm.findClass own = some m.cls) (w1 : (Cond.classLink own ix C).before a0 Z = true) (w2 : (Cond.arrayOver (.object C)).before a0 Z = true) (eT : T.heap = h) {n : Int32} (hd : decode c.code pc = .ok (.anewarray ix, 3)) (hp : pc + 3 = pc') (hn : ¬ n < 0) (cap : Nat) (hcap : n.toNatClampNeg ≤ cap) (hb : cap * 8 ≤ 536870912) (hc : cells + 1 ≤ R.cells) (hl : slots + cap ≤ R.slots) (k : ∀ T' h' cA a, Stand p l e R s m args below meth c T' locs (cells + 1) (slots + cap) → T'.heap = h' → a = h.size → Ext h h' → Arr Z h' a (newA cA (.object C) n) (.object C) → Ovr Z cA C → Goes p e below K T' (mkF m pc' Ls (.ref a :: st))) : Goes p e below K T (mkF m pc Ls (.int n :: st)) := by
  subst hp
  obtain ⟨T1, h1, cA, X1, e1, E1, A1, O1, f1⟩ := newR X hx hZ hown w1 w2 eT (g := mkF m pc Ls (.int n :: st)) rfl hd rfl hn hcap hb hc hl
  exact Goes.by' f1 (k T1 h1 cA _ X1 e1 rfl E1 A1 O1)
theorem g_initO (X : Stand p l e R s m args below meth c T locs cells slots) (hx : p.tables.exec = Jvm.exec) (hZ : Z.Warmed39 s.vm) {own : String} {ix : Nat} {a : Addr} (hown : s.vm.findClass own = some m.cls) (w1 : (Cond.methodLink own ix Lib.objectInit).before a0 Z = true) (w2 : (Cond.instanceMethod Lib.objectInit).before a0 Z = true) (w3 : (Cond.code Lib.objectInit ⟨#[0xb1]⟩ 1 none).before a0 Z = true) (eT : T.heap = h) (hsz : Ls.size = c.maxLocals) (hd : decode c.code pc = .ok (.invokespecial ix, 3)) (hp : pc + 3 = pc') (hf : 1 ≤ R.frames) (hl : (st.map fun v => v.category).sum + 12 ≤ R.locals) (k : ∀ T', Stand p l e R s m args below meth c T' locs cells slots → T'.heap = h → Goes p e below K T' (mkF m pc' Ls st)) : Goes p e below K T (mkF m pc Ls (.ref a :: st)) := by
  subst hp
  obtain ⟨T1, X1, e1, f1⟩ := initO X hx hZ hown w1 w2 w3 eT (g := mkF m pc Ls (.ref a :: st)) rfl hsz rfl hd hf (W := (st.map fun v => v.category).sum) (by show 2 * 0 + _ ≤ _; omega) hl
  exact Goes.by' f1 (k T1 X1 e1)
theorem g_iaload (X : Stand p l e R s m args below meth c T locs cells slots) (hx : p.tables.exec = Jvm.exec) (hZ : Z.Warmed39 s.vm) (eT : T.heap = h) {a : Addr} {cl : Cell} {j : Int32} {v : Value} (A : Arr Z h a cl .int) (hin : ¬ (j < 0 ∨ cl.slots.size ≤ j.toNatClampNeg)) (hat : cl.slots[j.toNatClampNeg]? = some v) (hd : decode c.code pc = .ok (.iaload, 1)) (hp : pc + 1 = pc') (k : Goes p e below K T (mkF m pc' Ls (v :: st))) : Goes p e below K T (mkF m pc Ls (.int j :: .ref a :: st)) := by
  subst hp
  exact Goes.by' (fun _ q => X.iaload hx (j := j) (v := v) (by rw [eT]; exact A.1) (State.isArrayOf_alike hZ.alike A.2.1) A.2.2 hin hat (g := mkF m pc Ls (.int j :: .ref a :: st)) rfl rfl hd _ q) k
theorem g_laload (X : Stand p l e R s m args below meth c T locs cells slots) (hx : p.tables.exec = Jvm.exec) (hZ : Z.Warmed39 s.vm) (eT : T.heap = h) {a : Addr} {cl : Cell} {j : Int32} {v : Value} (A : Arr Z h a cl .long) (hin : ¬ (j < 0 ∨ cl.slots.size ≤ j.toNatClampNeg)) (hat : cl.slots[j.toNatClampNeg]? = some v) (hd : decode c.code pc = .ok (.laload, 1)) (hp : pc + 1 = pc') (k : Goes p e below K T (mkF m pc' Ls (v :: st))) : Goes p e below K T (mkF m pc Ls (.int j :: .ref a :: st)) := by
  subst hp
  exact Goes.by' (fun _ q => X.laload hx (j := j) (v := v) (by rw [eT]; exact A.1) (State.isArrayOf_alike hZ.alike A.2.1) A.2.2 hin hat (g := mkF m pc Ls (.int j :: .ref a :: st)) rfl rfl hd _ q) k
theorem g_caload (X : Stand p l e R s m args below meth c T locs cells slots) (hx : p.tables.exec = Jvm.exec) (hZ : Z.Warmed39 s.vm) (eT : T.heap = h) {a : Addr} {cl : Cell} {j : Int32} {v : Value} (A : Arr Z h a cl .char) (hin : ¬ (j < 0 ∨ cl.slots.size ≤ j.toNatClampNeg)) (hat : cl.slots[j.toNatClampNeg]? = some v) (hd : decode c.code pc = .ok (.caload, 1)) (hp : pc + 1 = pc') (k : Goes p e below K T (mkF m pc' Ls (v :: st))) : Goes p e below K T (mkF m pc Ls (.int j :: .ref a :: st)) := by
  subst hp
  exact Goes.by' (fun _ q => X.caload hx (j := j) (v := v) (by rw [eT]; exact A.1) (State.isArrayOf_alike hZ.alike A.2.1) A.2.2 hin hat (g := mkF m pc Ls (.int j :: .ref a :: st)) rfl rfl hd _ q) k
theorem g_baload (X : Stand p l e R s m args below meth c T locs cells slots) (hx : p.tables.exec = Jvm.exec) (hZ : Z.Warmed39 s.vm) (eT : T.heap = h) {a : Addr} {cl : Cell} {j : Int32} {v : Value} (A : Arr Z h a cl .byte) (hin : ¬ (j < 0 ∨ cl.slots.size ≤ j.toNatClampNeg)) (hat : cl.slots[j.toNatClampNeg]? = some v) (hd : decode c.code pc = .ok (.baload, 1)) (hp : pc + 1 = pc') (k : Goes p e below K T (mkF m pc' Ls (v :: st))) : Goes p e below K T (mkF m pc Ls (.int j :: .ref a :: st)) := by
  subst hp
  exact Goes.by' (fun _ q => X.baloadBytes hx (j := j) (v := v) (by rw [eT]; exact A.1) (State.isArrayOf_alike hZ.alike A.2.1) A.2.2 hin hat (g := mkF m pc Ls (.int j :: .ref a :: st)) rfl rfl hd _ q) k
theorem g_aaload (X : Stand p l e R s m args below meth c T locs cells slots) (hx : p.tables.exec = Jvm.exec) (hZ : Z.Warmed39 s.vm) (eT : T.heap = h) {a : Addr} {cl : Cell} {ty : FieldType} {j : Int32} {v : Value} (A : Arr Z h a cl ty) (hty : ty.isReference = true) (hin : ¬ (j < 0 ∨ cl.slots.size ≤ j.toNatClampNeg)) (hat : cl.slots[j.toNatClampNeg]? = some v) (hd : decode c.code pc = .ok (.aaload, 1)) (hp : pc + 1 = pc') (k : Goes p e below K T (mkF m pc' Ls (v :: st))) : Goes p e below K T (mkF m pc Ls (.int j :: .ref a :: st)) := by
  subst hp
  exact Goes.by' (fun _ q => X.aaload hx (j := j) (v := v) (by rw [eT]; exact A.1) (State.isArrayOf_alike hZ.alike A.2.1) hty A.2.2 hin hat (g := mkF m pc Ls (.int j :: .ref a :: st)) rfl rfl hd _ q) k
theorem g_arraylength (X : Stand p l e R s m args below meth c T locs cells slots) (hx : p.tables.exec = Jvm.exec) (hZ : Z.Warmed39 s.vm) (eT : T.heap = h) {a : Addr} {cl : Cell} {ty : FieldType} {n : Int32} (A : Arr Z h a cl ty) (hn : cl.slots.size.toInt32 = n) (hd : decode c.code pc = .ok (.arraylength, 1)) (hp : pc + 1 = pc') (k : Goes p e below K T (mkF m pc' Ls (.int n :: st))) : Goes p e below K T (mkF m pc Ls (.ref a :: st)) := by
  subst hp hn
  exact Goes.by' (fun _ q => X.arraylength hx (by rw [eT]; exact A.1) (State.isArrayOf_alike hZ.alike A.2.1) (g := mkF m pc Ls (.ref a :: st)) rfl rfl hd _ q) k
theorem g_iastore (X : Stand p l e R s m args below meth c T locs cells slots) (hx : p.tables.exec = Jvm.exec) (hZ : Z.Warmed39 s.vm) (eT : T.heap = h) {a : Addr} {cl : Cell} {j : Int32} {x : Int32} (A : Arr Z h a cl .int) (hin : ¬ (j < 0 ∨ cl.slots.size ≤ j.toNatClampNeg)) (hd : decode c.code pc = .ok (.iastore, 1)) (hp : pc + 1 = pc') (k : ∀ T' h', Stand p l e R s m args below meth c T' (locs ++ [⟨a, j.toNatClampNeg⟩]) cells slots → T'.heap = h' → Wr h h' a j.toNatClampNeg (.int x) → Goes p e below K T' (mkF m pc' Ls st)) : Goes p e below K T (mkF m pc Ls (.int x :: .int j :: .ref a :: st)) := by
  subst hp
  obtain ⟨T1, h1, X1, e1, W1, f1⟩ := stI X hx hZ eT A hin (g := mkF m pc Ls (.int x :: .int j :: .ref a :: st)) rfl rfl hd
  exact Goes.by' f1 (k T1 h1 X1 e1 W1)
theorem g_lastore (X : Stand p l e R s m args below meth c T locs cells slots) (hx : p.tables.exec = Jvm.exec) (hZ : Z.Warmed39 s.vm) (eT : T.heap = h) {a : Addr} {cl : Cell} {j : Int32} {x : Int64} (A : Arr Z h a cl .long) (hin : ¬ (j < 0 ∨ cl.slots.size ≤ j.toNatClampNeg)) (hd : decode c.code pc = .ok (.lastore, 1)) (hp : pc + 1 = pc') (k : ∀ T' h', Stand p l e R s m args below meth c T' (locs ++ [⟨a, j.toNatClampNeg⟩]) cells slots → T'.heap = h' → Wr h h' a j.toNatClampNeg (.long x) → Goes p e below K T' (mkF m pc' Ls st)) : Goes p e below K T (mkF m pc Ls (.long x :: .int j :: .ref a :: st)) := by
  subst hp
  obtain ⟨T1, h1, X1, e1, W1, f1⟩ := stJ X hx hZ eT A hin (g := mkF m pc Ls (.long x :: .int j :: .ref a :: st)) rfl rfl hd
  exact Goes.by' f1 (k T1 h1 X1 e1 W1)
theorem g_castore (X : Stand p l e R s m args below meth c T locs cells slots) (hx : p.tables.exec = Jvm.exec) (hZ : Z.Warmed39 s.vm) (eT : T.heap = h) {a : Addr} {cl : Cell} {j : Int32} {x : Int32} (A : Arr Z h a cl .char) (hin : ¬ (j < 0 ∨ cl.slots.size ≤ j.toNatClampNeg)) (hd : decode c.code pc = .ok (.castore, 1)) (hp : pc + 1 = pc') (k : ∀ T' h', Stand p l e R s m args below meth c T' (locs ++ [⟨a, j.toNatClampNeg⟩]) cells slots → T'.heap = h' → Wr h h' a j.toNatClampNeg (.int (nar .char x)) → Goes p e below K T' (mkF m pc' Ls st)) : Goes p e below K T (mkF m pc Ls (.int x :: .int j :: .ref a :: st)) := by
  subst hp
  obtain ⟨T1, h1, X1, e1, W1, f1⟩ := stC X hx hZ eT A hin (g := mkF m pc Ls (.int x :: .int j :: .ref a :: st)) rfl rfl hd
  exact Goes.by' f1 (k T1 h1 X1 e1 W1)
theorem g_bastore (X : Stand p l e R s m args below meth c T locs cells slots) (hx : p.tables.exec = Jvm.exec) (hZ : Z.Warmed39 s.vm) (eT : T.heap = h) {a : Addr} {cl : Cell} {j : Int32} {x : Int32} (A : Arr Z h a cl .byte) (hin : ¬ (j < 0 ∨ cl.slots.size ≤ j.toNatClampNeg)) (hd : decode c.code pc = .ok (.bastore, 1)) (hp : pc + 1 = pc') (k : ∀ T' h', Stand p l e R s m args below meth c T' (locs ++ [⟨a, j.toNatClampNeg⟩]) cells slots → T'.heap = h' → Wr h h' a j.toNatClampNeg (.int (nar .byte x)) → Goes p e below K T' (mkF m pc' Ls st)) : Goes p e below K T (mkF m pc Ls (.int x :: .int j :: .ref a :: st)) := by
  subst hp
  obtain ⟨T1, h1, X1, e1, W1, f1⟩ := stB X hx hZ eT A hin (g := mkF m pc Ls (.int x :: .int j :: .ref a :: st)) rfl rfl hd
  exact Goes.by' f1 (k T1 h1 X1 e1 W1)
theorem g_aastore (X : Stand p l e R s m args below meth c T locs cells slots) (hx : p.tables.exec = Jvm.exec) (hZ : Z.Warmed39 s.vm) (eT : T.heap = h) {a : Addr} {cl : Cell} {ty : FieldType} {j : Int32} {v : Value} (A : Arr Z h a cl ty) (hty : ty.isReference = true) (F : Sto Z h a v) (hin : ¬ (j < 0 ∨ cl.slots.size ≤ j.toNatClampNeg)) (hd : decode c.code pc = .ok (.aastore, 1)) (hp : pc + 1 = pc') (k : ∀ T' h', Stand p l e R s m args below meth c T' (locs ++ [⟨a, j.toNatClampNeg⟩]) cells slots → T'.heap = h' → Wr h h' a j.toNatClampNeg v → Goes p e below K T' (mkF m pc' Ls st)) : Goes p e below K T (mkF m pc Ls (v :: .int j :: .ref a :: st)) := by
  subst hp
  obtain ⟨T1, h1, X1, e1, W1, f1⟩ := stR X hx hZ eT A hin hty F (g := mkF m pc Ls (v :: .int j :: .ref a :: st)) rfl rfl hd
  exact Goes.by' f1 (k T1 h1 X1 e1 W1)
theorem g_callS (X : Stand p l e R s m args below meth c T locs cells slots) (hx : p.tables.exec = Jvm.exec) (hZ : Z.Warmed39 s.vm) {own : String} {ix : Nat} {y : MethodName} {bytes : ByteArray} {maxL : Nat} {ret : Option FieldType} {rm : Room} {as' : Array Value} {Q : Option Value → Heap → List Loc → Prop} (hown : s.vm.findClass own = some m.cls) (w1 : (Cond.methodLink own ix y).before a0 Z = true) (w2 : (Cond.static y).before a0 Z = true) (w3 : (Cond.initialized y.cls).before a0 Z = true) (w4 : (Cond.code y bytes maxL ret).before a0 Z = true) (hy : y.cls ≠ "java/lang/invoke/MethodHandle" ∧ y.cls ≠ "java/lang/invoke/VarHandle") (eT : T.heap = h) (C : Ctr l Z y bytes maxL ret [] rm rm.cells rm.slots as' h Q) (hsz : Ls.size = c.maxLocals) (argsL rest : List Value) (has : argsL.toArray = as') (hlen : ∀ sig, parseMethodDescriptor y.desc = some sig → argsL.length = sig.parameters.length) (hst : st = argsL.reverse ++ rest) (hl : (rest.map fun v => v.category).sum + (maxL + 11) + rm.locals ≤ R.locals) (hf : rm.frames + 1 ≤ R.frames) (hc : cells + rm.cells ≤ R.cells) (hsl : slots + rm.slots ≤ R.slots) (hd : decode c.code pc = .ok (.invokestatic ix, 3)) (hp : pc + 3 = pc') (k : ∀ T' v L, Stand p l e R s m args below meth c T' (locs ++ L) (cells + rm.cells) (slots + rm.slots) → Q v T'.heap L → Goes p e below K T' (mkF m pc' Ls (v.toList ++ rest))) : Goes p e below K T (mkF m pc Ls st) := by
  subst hp
  obtain ⟨v, _, ⟨T1, L1, k1, n1⟩, -, X1, ⟨L, hQ, l1, y1, z1⟩, f1⟩ := Jvm.LawKit.callS X hx (y := y) hown (mvT hZ w1) (mvT hZ w2) (mvT hZ w3) (mvT hZ w4) hy (backOf (W := (rest.map fun v => v.category).sum) C hZ w4 w3 hf hl) (g := mkF m pc Ls st) rfl hsz (argsL := argsL) (rest := rest) hlen hst (by show 2 * 0 + _ ≤ _; omega) hd (fun _ _ => ⟨has, eT, hc, hsl⟩)
  dsimp only [Pt.U, Pt.locs, Pt.cells, Pt.slots] at X1 l1 y1 z1 f1 hQ
  subst l1 y1 z1
  exact Goes.by' f1 (k T1 v L X1 hQ)
theorem g_callI (X : Stand p l e R s m args below meth c T locs cells slots) (hx : p.tables.exec = Jvm.exec) (hZ : Z.Warmed39 s.vm) {own : String} {ix : Nat} {y : MethodName} {bytes : ByteArray} {maxL : Nat} {rm : Room} {as' : Array Value} {Q : Option Value → Heap → List Loc → Prop} (hy1 : y.name = "<init>") (hown : s.vm.findClass own = some m.cls) (w1 : (Cond.methodLink own ix y).before a0 Z = true) (w2 : (Cond.instanceMethod y).before a0 Z = true) (w3 : (Cond.initialized y.cls).before a0 Z = true) (w4 : (Cond.code y bytes maxL none).before a0 Z = true) (hy : y.cls ≠ "java/lang/invoke/MethodHandle" ∧ y.cls ≠ "java/lang/invoke/VarHandle") (eT : T.heap = h) (C : Ctr l Z y bytes maxL none [] rm rm.cells rm.slots as' h Q) (hsz : Ls.size = c.maxLocals) (a : Addr) (argsL rest : List Value) (has : (.ref a :: argsL).toArray = as') (hlen : ∀ sig, parseMethodDescriptor y.desc = some sig → argsL.length = sig.parameters.length) (hst : st = argsL.reverse ++ .ref a :: rest) (hl : (rest.map fun v => v.category).sum + (maxL + 11) + rm.locals ≤ R.locals) (hf : rm.frames + 1 ≤ R.frames) (hc : cells + rm.cells ≤ R.cells) (hsl : slots + rm.slots ≤ R.slots) (hd : decode c.code pc = .ok (.invokespecial ix, 3)) (hp : pc + 3 = pc') (k : ∀ T' v L, Stand p l e R s m args below meth c T' (locs ++ L) (cells + rm.cells) (slots + rm.slots) → Q v T'.heap L → Goes p e below K T' (mkF m pc' Ls (v.toList ++ rest))) : Goes p e below K T (mkF m pc Ls st) := by
  subst hp
  obtain ⟨v, _, ⟨T1, L1, k1, n1⟩, -, X1, ⟨L, hQ, l1, y1, z1⟩, f1⟩ := X.specialBack hx (y := y) hy1 hown (mvT hZ w1) (mvT hZ w2) (mvT hZ w4) hy (backOf (W := (rest.map fun v => v.category).sum) C hZ w4 w3 hf hl) (g := mkF m pc Ls st) rfl hsz (Steps.refl _) (a := a) (argsL := argsL) (rest := rest) hlen hst (by show 2 * 0 + _ ≤ _; omega) hd (fun _ _ => ⟨has, eT, hc, hsl⟩)
  dsimp only [Pt.U, Pt.locs, Pt.cells, Pt.slots] at X1 l1 y1 z1 f1 hQ
  subst l1 y1 z1
  exact Goes.by' (fun _ q => f1.trans q) (k T1 v L X1 hQ)
theorem g_callV (X : Stand p l e R s m args below meth c T locs cells slots) (hx : p.tables.exec = Jvm.exec) (hZ : Z.Warmed39 s.vm) {own : String} {ix : Nat} {y : MethodName} {bytes : ByteArray} {maxL : Nat} {ret : Option FieldType} {rm : Room} {as' : Array Value} {Q : Option Value → Heap → List Loc → Prop} {C0 : String} (hown : s.vm.findClass own = some m.cls) (w1 : (Cond.methodLink own ix y).before a0 Z = true) (w2 : (Cond.declares y).before a0 Z = true) (w5 : (Cond.selects C0 y y).before a0 Z = true) (w6 : (Cond.instanceMethod y).before a0 Z = true) (w3 : (Cond.initialized y.cls).before a0 Z = true) (w4 : (Cond.code y bytes maxL ret).before a0 Z = true) (hy : y.cls ≠ "java/lang/invoke/MethodHandle" ∧ y.cls ≠ "java/lang/invoke/VarHandle") (eT : T.heap = h) (a : Addr) (E : Exa Z h a C0) (C : Ctr l Z y bytes maxL ret [] rm rm.cells rm.slots as' h Q) (hsz : Ls.size = c.maxLocals) (argsL rest : List Value) (has : (.ref a :: argsL).toArray = as') (hlen : ∀ sig, parseMethodDescriptor y.desc = some sig → argsL.length = sig.parameters.length) (hst : st = argsL.reverse ++ .ref a :: rest) (hl : (rest.map fun v => v.category).sum + (maxL + 11) + rm.locals ≤ R.locals) (hf : rm.frames + 1 ≤ R.frames) (hc : cells + rm.cells ≤ R.cells) (hsl : slots + rm.slots ≤ R.slots) (hd : decode c.code pc = .ok (.invokevirtual ix, 3)) (hp : pc + 3 = pc') (k : ∀ T' v L, Stand p l e R s m args below meth c T' (locs ++ L) (cells + rm.cells) (slots + rm.slots) → Q v T'.heap L → Goes p e below K T' (mkF m pc' Ls (v.toList ++ rest))) : Goes p e below K T (mkF m pc Ls st) := by
  subst hp
  obtain ⟨cq, kq, qa, qb, qc⟩ := isOf hZ eT E
  obtain ⟨v, _, ⟨T1, L1, k1, n1⟩, -, X1, ⟨L, hQ, l1, y1, z1⟩, f1⟩ := X.virtualBack hx (y := y) (z := y) hown (mvT hZ w1) (mvT hZ w2) (notFace_of_selects (args := #[]) (mvT hZ w5)) (mvT hZ w5) (mvT hZ w6) hy (backOf (W := (rest.map fun v => v.category).sum) C hZ w4 w3 hf hl) qa qc (g := mkF m pc Ls st) rfl hsz (Steps.refl _) (argsL := argsL) (rest := rest) hlen hst (by show 2 * 0 + _ ≤ _; omega) hd (fun _ _ => ⟨has, eT, hc, hsl⟩)
  dsimp only [Pt.U, Pt.locs, Pt.cells, Pt.slots] at X1 l1 y1 z1 f1 hQ
  subst l1 y1 z1
  exact Goes.by' (fun _ q => f1.trans q) (k T1 v L X1 hQ)
theorem g_callP (X : Stand p l e R s m args below meth c T locs cells slots) (hx : p.tables.exec = Jvm.exec) (hZ : Z.Warmed39 s.vm) {own : String} {ix : Nat} {y : MethodName} {bytes : ByteArray} {maxL : Nat} {ret : Option FieldType} {rm : Room} {as' : Array Value} {Q : Option Value → Heap → List Loc → Prop} {kk : Nat} {C0 : String} (hown : s.vm.findClass own = some m.cls) (w1 : (Cond.methodLink own ix y).before a0 Z = true) (wi : (Cond.instantiable y.cls kk).before a0 Z = true) (wp : (Cond.privateMethod y).before a0 Z = true) (w6 : (Cond.instanceMethod y).before a0 Z = true) (w3 : (Cond.initialized y.cls).before a0 Z = true) (w4 : (Cond.code y bytes maxL ret).before a0 Z = true) (hy : y.cls ≠ "java/lang/invoke/MethodHandle" ∧ y.cls ≠ "java/lang/invoke/VarHandle") (eT : T.heap = h) (a : Addr) (E : Exa Z h a C0) (C : Ctr l Z y bytes maxL ret [] rm rm.cells rm.slots as' h Q) (hsz : Ls.size = c.maxLocals) (argsL rest : List Value) (has : (.ref a :: argsL).toArray = as') (hlen : ∀ sig, parseMethodDescriptor y.desc = some sig → argsL.length = sig.parameters.length) (hst : st = argsL.reverse ++ .ref a :: rest) (hl : (rest.map fun v => v.category).sum + (maxL + 11) + rm.locals ≤ R.locals) (hf : rm.frames + 1 ≤ R.frames) (hc : cells + rm.cells ≤ R.cells) (hsl : slots + rm.slots ≤ R.slots) (hd : decode c.code pc = .ok (.invokevirtual ix, 3)) (hp : pc + 3 = pc') (k : ∀ T' v L, Stand p l e R s m args below meth c T' (locs ++ L) (cells + rm.cells) (slots + rm.slots) → Q v T'.heap L → Goes p e below K T' (mkF m pc' Ls (v.toList ++ rest))) : Goes p e below K T (mkF m pc Ls st) := by
  subst hp
  obtain ⟨cell, hcell, hobj⟩ := E.cell
  have wi' : (Cond.instantiable y.cls kk).before args s = true := mvT hZ wi
  obtain ⟨c1, k1, i1, i2, i3, i4, -⟩ := Cond.instantiable_spec wi'
  have hni : k1.isInterface = false := by revert i4; cases k1.isInterface <;> simp
  have hpv : s.PrivateAt y := Cond.privateMethod_at (mvP hZ wp (args := #[]))
  have hsel : (Cond.selects y.cls y y).before args s = true := Jvm.Stand.selects_self_of_private i1 i2 hni hpv (mvT hZ w6) hy
  obtain ⟨v, _, ⟨T1, L1, k1, n1⟩, -, X1, ⟨L, hQ, l1, y1, z1⟩, f1⟩ := X.privateBack hx (y := y) hown (mvT hZ w1) (mvT hZ w6) hsel hpv (mvT hZ w4) hy (backOf (W := (rest.map fun v => v.category).sum) C hZ w4 w3 hf hl) (g := mkF m pc Ls st) rfl hsz (Steps.refl _) (a := a) (by rw [eT]; exact hcell) hobj (argsL := argsL) (rest := rest) hlen hst (by show 2 * 0 + _ ≤ _; omega) hd (fun _ _ => ⟨has, eT, hc, hsl⟩)
  dsimp only [Pt.U, Pt.locs, Pt.cells, Pt.slots] at X1 l1 y1 z1 f1 hQ
  subst l1 y1 z1
  exact Goes.by' (fun _ q => f1.trans q) (k T1 v L X1 hQ)
theorem g_retI (X : Stand p l e R s m args below meth c T locs cells slots) (hx : p.tables.exec = Jvm.exec) {C S : Nat} {Q : Option Value → Heap → List Loc → Prop} {z : Int32} (hlk : meth.locks = false) (hret : meth.sig.returnType = some .int) (eT : T.heap = h) (hc : cells ≤ C) (hs : slots ≤ S) (hd : decode c.code pc = .ok (.ireturn, 1)) (hQ : Q (some (.int z)) h locs) : Goes p e below (KQ s C S Q) T (mkF m pc Ls (.int z :: st)) := by
  obtain ⟨fs, hr, hrun, hended, hW, hsame⟩ := X.leave (v := some (.int z)) (fun q => by rw [hret] at q; cases q) hlk
  exact ⟨_, _, retOut X hx hret rfl (Or.inl ⟨rfl, Or.inl rfl, _, rfl⟩) hd hr, hrun, hended, _, _, rfl, by subst eT; exact hQ, ⟨_, rfl⟩, hW, hsame.mono hc hs⟩
theorem g_retJ (X : Stand p l e R s m args below meth c T locs cells slots) (hx : p.tables.exec = Jvm.exec) {C S : Nat} {Q : Option Value → Heap → List Loc → Prop} {z : Int64} (hlk : meth.locks = false) (hret : meth.sig.returnType = some .long) (eT : T.heap = h) (hc : cells ≤ C) (hs : slots ≤ S) (hd : decode c.code pc = .ok (.lreturn, 1)) (hQ : Q (some (.long z)) h locs) : Goes p e below (KQ s C S Q) T (mkF m pc Ls (.long z :: st)) := by
  obtain ⟨fs, hr, hrun, hended, hW, hsame⟩ := X.leave (v := some (.long z)) (fun q => by rw [hret] at q; cases q) hlk
  exact ⟨_, _, retOut X hx hret rfl (Or.inr (Or.inl ⟨rfl, rfl, _, rfl⟩)) hd hr, hrun, hended, _, _, rfl, by subst eT; exact hQ, ⟨_, rfl⟩, hW, hsame.mono hc hs⟩
theorem g_retN (X : Stand p l e R s m args below meth c T locs cells slots) (hx : p.tables.exec = Jvm.exec) {C S : Nat} {Q : Option Value → Heap → List Loc → Prop} {z : Int32} {t : FieldType} (ht : t = .boolean ∨ t = .byte ∨ t = .char ∨ t = .short) (hlk : meth.locks = false) (hret : meth.sig.returnType = some t) (eT : T.heap = h) (hc : cells ≤ C) (hs : slots ≤ S) (hd : decode c.code pc = .ok (.ireturn, 1)) (hQ : Q (some (.int (nar t z))) h locs) : Goes p e below (KQ s C S Q) T (mkF m pc Ls (.int z :: st)) := by
  obtain ⟨fs, hr, hrun, hended, hW, hsame⟩ := X.leave (v := some (.int (nar t z))) (fun q => by rw [hret] at q; cases q) hlk
  exact ⟨_, _, retN X hx hret ht hd hr, hrun, hended, _, _, rfl, by subst eT; exact hQ, ⟨_, rfl⟩, hW, hsame.mono hc hs⟩
theorem g_retA (X : Stand p l e R s m args below meth c T locs cells slots) (hx : p.tables.exec = Jvm.exec) {C S : Nat} {Q : Option Value → Heap → List Loc → Prop} {v : Value} {t : FieldType} (hv : v.isRef = true) (ht : t.isReference = true) (hlk : meth.locks = false) (hret : meth.sig.returnType = some t) (eT : T.heap = h) (hc : cells ≤ C) (hs : slots ≤ S) (hd : decode c.code pc = .ok (.areturn, 1)) (hQ : Q (some v) h locs) : Goes p e below (KQ s C S Q) T (mkF m pc Ls (v :: st)) := by
  obtain ⟨fs, hr, hrun, hended, hW, hsame⟩ := X.leave (v := some v) (fun q => by rw [hret] at q; cases q) hlk
  have hn : narrow t v = v := by cases v <;> simp [Value.isRef] at hv <;> cases t <;> simp [FieldType.isReference] at ht <;> rfl
  exact ⟨_, _, retOut X hx hret hn (Or.inr (Or.inr (Or.inr (Or.inr ⟨rfl, ht, hv⟩)))) hd hr, hrun, hended, _, _, rfl, by subst eT; exact hQ, ⟨_, rfl⟩, hW, hsame.mono hc hs⟩
theorem g_ret (X : Stand p l e R s m args below meth c T locs cells slots) (hx : p.tables.exec = Jvm.exec) {C S : Nat} {Q : Option Value → Heap → List Loc → Prop} (hlk : meth.locks = false) (hret : meth.sig.returnType = none) (eT : T.heap = h) (hc : cells ≤ C) (hs : slots ≤ S) (hd : decode c.code pc = .ok (.return_, 1)) (hQ : Q none h locs) : Goes p e below (KQ s C S Q) T (mkF m pc Ls []) := by
  obtain ⟨fs, hr, hrun, hended, hW, hsame⟩ := X.leave (v := none) (fun _ => rfl) hlk
  exact ⟨_, _, X.returnOut hx hret hd hr, hrun, hended, _, _, rfl, by subst eT; exact hQ, ⟨_, rfl⟩, hW, hsame.mono hc hs⟩
end OwnGo
def ArI (Z : State) (h : Heap) (b : Addr) (ty : FieldType) (n : Nat) (f : Nat → Int32) : Prop := ∃ cl, Arr Z h b cl ty ∧ cl.slots.size = n ∧ ∀ j, j < n → cl.slots[j]? = some (.int (f j))
section ArSI
variable {Z : State} {h h' : Heap} {a b : Addr} {ty : FieldType} {n sl : Nat} {f : Nat → Int32} {v : Value} {ws : List Addr}
theorem ArI.new {cA : ClassId} {z : Int32} (A : Arr Z h a (newA cA ty z) ty) (x : Int32) (hd : defaultValue ty = .int x) : ArI Z h a ty z.toNatClampNeg (fun _ => x) := ⟨_, A, sz_new _ _ _, fun j hj => by simp only [newA, ← hd]; rw [Array.getElem?_replicate, if_pos hj]⟩
theorem ArI.lt (F : ArI Z h b ty n f) : b < h.size := by obtain ⟨c, A, -⟩ := F; exact A.lt
theorem ArI.ext (F : ArI Z h b ty n f) (E : Ext h h') : ArI Z h' b ty n f := by obtain ⟨c, A, r⟩ := F; exact ⟨c, A.ext E, r⟩
theorem ArI.other (F : ArI Z h b ty n f) (W : Wr h h' a sl v) (q : b ≠ a) : ArI Z h' b ty n f := by obtain ⟨c, A, r⟩ := F; exact ⟨c, A.other W q, r⟩
theorem ArI.keep (F : ArI Z h b ty n f) (K : Keep h h' ws) (q : b ∉ ws) : ArI Z h' b ty n f := by obtain ⟨c, A, r⟩ := F; exact ⟨c, ⟨K.2.1 b c A.1 q, A.2⟩, r⟩
theorem ArI.set {x : Int32} (F : ArI Z h b ty n f) (W : Wr h h' b sl (.int (x))) : ArI Z h' b ty n (fun k => if k = sl then x else f k) := by
  obtain ⟨c, A, hs, H⟩ := F
  refine ⟨_, A.same W, by rw [sz_set]; exact hs, fun j hj => ?_⟩
  by_cases e : j = sl
  · subst e; simp only [Cell.setSlot, if_true]; rw [Array.getElem?_setIfInBounds_self_of_lt (by rw [hs]; exact hj)]
  · simp only [Cell.setSlot]; rw [Array.getElem?_setIfInBounds_ne (Ne.symm e), if_neg e]; exact H j hj
theorem ArI.inb {j : Int32} {c : Cell} (hs : c.slots.size = n) (h0 : ¬ j < 0) (h1 : j.toNatClampNeg < n) : ¬ (j < 0 ∨ c.slots.size ≤ j.toNatClampNeg) := by rw [hs]; rintro (q | q); exact h0 q; omega
end ArSI
section ArGI
variable {p : Program} {l : Launch} {e : Env} {R : Room} {s : State} {m : MethodId} {args : Array Value} {below : List Frame} {meth : Method} {c : Code} {T : State} {locs : List Loc} {cells slots : Nat} {Z : State} {a0 : Array Value} {h : Heap} {K : Outcome → State → Prop} {pc pc' : Nat} {Ls : Array Slot} {st : List Value}
theorem g_iaload' (X : Stand p l e R s m args below meth c T locs cells slots) (hx : p.tables.exec = Jvm.exec) (hZ : Z.Warmed39 s.vm) (eT : T.heap = h) {b : Addr} {n : Nat} {f : Nat → Int32} {j : Int32} {x : Int32} (A : ArI Z h b .int n f) (h0 : ¬ j < 0) (h1 : j.toNatClampNeg < n) (hv : f j.toNatClampNeg = x) (hd : decode c.code pc = .ok (.iaload, 1)) (hp : pc + 1 = pc') (k : Goes p e below K T (mkF m pc' Ls (.int (x) :: st))) : Goes p e below K T (mkF m pc Ls (.int j :: .ref b :: st)) := by
  obtain ⟨cl, A, hs, H⟩ := A
  exact g_iaload X hx hZ eT A (ArI.inb hs h0 h1) (by rw [H _ h1, hv]) hd hp k
theorem g_caload' (X : Stand p l e R s m args below meth c T locs cells slots) (hx : p.tables.exec = Jvm.exec) (hZ : Z.Warmed39 s.vm) (eT : T.heap = h) {b : Addr} {n : Nat} {f : Nat → Int32} {j : Int32} {x : Int32} (A : ArI Z h b .char n f) (h0 : ¬ j < 0) (h1 : j.toNatClampNeg < n) (hv : f j.toNatClampNeg = x) (hd : decode c.code pc = .ok (.caload, 1)) (hp : pc + 1 = pc') (k : Goes p e below K T (mkF m pc' Ls (.int (x) :: st))) : Goes p e below K T (mkF m pc Ls (.int j :: .ref b :: st)) := by
  obtain ⟨cl, A, hs, H⟩ := A
  exact g_caload X hx hZ eT A (ArI.inb hs h0 h1) (by rw [H _ h1, hv]) hd hp k
theorem g_baload' (X : Stand p l e R s m args below meth c T locs cells slots) (hx : p.tables.exec = Jvm.exec) (hZ : Z.Warmed39 s.vm) (eT : T.heap = h) {b : Addr} {n : Nat} {f : Nat → Int32} {j : Int32} {x : Int32} (A : ArI Z h b .byte n f) (h0 : ¬ j < 0) (h1 : j.toNatClampNeg < n) (hv : f j.toNatClampNeg = x) (hd : decode c.code pc = .ok (.baload, 1)) (hp : pc + 1 = pc') (k : Goes p e below K T (mkF m pc' Ls (.int (x) :: st))) : Goes p e below K T (mkF m pc Ls (.int j :: .ref b :: st)) := by
  obtain ⟨cl, A, hs, H⟩ := A
  exact g_baload X hx hZ eT A (ArI.inb hs h0 h1) (by rw [H _ h1, hv]) hd hp k
theorem g_arraylengthI (X : Stand p l e R s m args below meth c T locs cells slots) (hx : p.tables.exec = Jvm.exec) (hZ : Z.Warmed39 s.vm) (eT : T.heap = h) {b : Addr} {n : Nat} {f : Nat → Int32} {ty : FieldType} {z : Int32} (A : ArI Z h b ty n f) (hz : n.toInt32 = z) (hd : decode c.code pc = .ok (.arraylength, 1)) (hp : pc + 1 = pc') (k : Goes p e below K T (mkF m pc' Ls (.int z :: st))) : Goes p e below K T (mkF m pc Ls (.ref b :: st)) := by
  obtain ⟨cl, A, hs, H⟩ := A
  exact g_arraylength X hx hZ eT A (by rw [hs, hz]) hd hp k
theorem g_iastore' (X : Stand p l e R s m args below meth c T locs cells slots) (hx : p.tables.exec = Jvm.exec) (hZ : Z.Warmed39 s.vm) (eT : T.heap = h) {b : Addr} {n : Nat} {f : Nat → Int32} {j : Int32} {x : Int32} (A : ArI Z h b .int n f) (h0 : ¬ j < 0) (h1 : j.toNatClampNeg < n) (hd : decode c.code pc = .ok (.iastore, 1)) (hp : pc + 1 = pc') (k : ∀ T' h', Stand p l e R s m args below meth c T' (locs ++ [⟨b, j.toNatClampNeg⟩]) cells slots → T'.heap = h' → Wr h h' b j.toNatClampNeg (.int (x)) → ArI Z h' b .int n (fun k => if k = j.toNatClampNeg then x else f k) → Goes p e below K T' (mkF m pc' Ls st)) : Goes p e below K T (mkF m pc Ls (.int (x) :: .int j :: .ref b :: st)) := by
  have A' := A
  obtain ⟨cl, A, hs, H⟩ := A
  exact g_iastore X hx hZ eT A (ArI.inb hs h0 h1) hd hp (fun T' h' X' e' W' => k T' h' X' e' W' (A'.set W'))
theorem g_castore' (X : Stand p l e R s m args below meth c T locs cells slots) (hx : p.tables.exec = Jvm.exec) (hZ : Z.Warmed39 s.vm) (eT : T.heap = h) {b : Addr} {n : Nat} {f : Nat → Int32} {j : Int32} {x : Int32} (A : ArI Z h b .char n f) (h0 : ¬ j < 0) (h1 : j.toNatClampNeg < n) (hd : decode c.code pc = .ok (.castore, 1)) (hp : pc + 1 = pc') (k : ∀ T' h', Stand p l e R s m args below meth c T' (locs ++ [⟨b, j.toNatClampNeg⟩]) cells slots → T'.heap = h' → Wr h h' b j.toNatClampNeg (.int (nar .char x)) → ArI Z h' b .char n (fun k => if k = j.toNatClampNeg then nar .char x else f k) → Goes p e below K T' (mkF m pc' Ls st)) : Goes p e below K T (mkF m pc Ls (.int (x) :: .int j :: .ref b :: st)) := by
  have A' := A
  obtain ⟨cl, A, hs, H⟩ := A
  exact g_castore X hx hZ eT A (ArI.inb hs h0 h1) hd hp (fun T' h' X' e' W' => k T' h' X' e' W' (A'.set W'))
theorem g_bastore' (X : Stand p l e R s m args below meth c T locs cells slots) (hx : p.tables.exec = Jvm.exec) (hZ : Z.Warmed39 s.vm) (eT : T.heap = h) {b : Addr} {n : Nat} {f : Nat → Int32} {j : Int32} {x : Int32} (A : ArI Z h b .byte n f) (h0 : ¬ j < 0) (h1 : j.toNatClampNeg < n) (hd : decode c.code pc = .ok (.bastore, 1)) (hp : pc + 1 = pc') (k : ∀ T' h', Stand p l e R s m args below meth c T' (locs ++ [⟨b, j.toNatClampNeg⟩]) cells slots → T'.heap = h' → Wr h h' b j.toNatClampNeg (.int (nar .byte x)) → ArI Z h' b .byte n (fun k => if k = j.toNatClampNeg then nar .byte x else f k) → Goes p e below K T' (mkF m pc' Ls st)) : Goes p e below K T (mkF m pc Ls (.int (x) :: .int j :: .ref b :: st)) := by
  have A' := A
  obtain ⟨cl, A, hs, H⟩ := A
  exact g_bastore X hx hZ eT A (ArI.inb hs h0 h1) hd hp (fun T' h' X' e' W' => k T' h' X' e' W' (A'.set W'))
theorem g_iastoreN (X : Stand p l e R s m args below meth c T locs cells slots) (hx : p.tables.exec = Jvm.exec) (hZ : Z.Warmed39 s.vm) (eT : T.heap = h) {b : Addr} {n : Nat} {f : Nat → Int32} {j : Int32} {x : Int32} (A : ArI Z h b .int n f) (jn : Nat) (hj : j.toNatClampNeg = jn) (h0 : ¬ j < 0) (h1 : jn < n) (hd : decode c.code pc = .ok (.iastore, 1)) (hp : pc + 1 = pc') (k : ∀ T' h', Stand p l e R s m args below meth c T' (locs ++ [⟨b, jn⟩]) cells slots → T'.heap = h' → Wr h h' b jn (.int (x)) → ArI Z h' b .int n (fun k => if k = jn then x else f k) → Goes p e below K T' (mkF m pc' Ls st)) : Goes p e below K T (mkF m pc Ls (.int (x) :: .int j :: .ref b :: st)) := by
  subst hj
  exact g_iastore' X hx hZ eT A h0 h1 hd hp k
theorem g_castoreN (X : Stand p l e R s m args below meth c T locs cells slots) (hx : p.tables.exec = Jvm.exec) (hZ : Z.Warmed39 s.vm) (eT : T.heap = h) {b : Addr} {n : Nat} {f : Nat → Int32} {j : Int32} {x : Int32} (A : ArI Z h b .char n f) (jn : Nat) (hj : j.toNatClampNeg = jn) (h0 : ¬ j < 0) (h1 : jn < n) (hd : decode c.code pc = .ok (.castore, 1)) (hp : pc + 1 = pc') (k : ∀ T' h', Stand p l e R s m args below meth c T' (locs ++ [⟨b, jn⟩]) cells slots → T'.heap = h' → Wr h h' b jn (.int (nar .char x)) → ArI Z h' b .char n (fun k => if k = jn then nar .char x else f k) → Goes p e below K T' (mkF m pc' Ls st)) : Goes p e below K T (mkF m pc Ls (.int (x) :: .int j :: .ref b :: st)) := by
  subst hj
  exact g_castore' X hx hZ eT A h0 h1 hd hp k
theorem g_bastoreN (X : Stand p l e R s m args below meth c T locs cells slots) (hx : p.tables.exec = Jvm.exec) (hZ : Z.Warmed39 s.vm) (eT : T.heap = h) {b : Addr} {n : Nat} {f : Nat → Int32} {j : Int32} {x : Int32} (A : ArI Z h b .byte n f) (jn : Nat) (hj : j.toNatClampNeg = jn) (h0 : ¬ j < 0) (h1 : jn < n) (hd : decode c.code pc = .ok (.bastore, 1)) (hp : pc + 1 = pc') (k : ∀ T' h', Stand p l e R s m args below meth c T' (locs ++ [⟨b, jn⟩]) cells slots → T'.heap = h' → Wr h h' b jn (.int (nar .byte x)) → ArI Z h' b .byte n (fun k => if k = jn then nar .byte x else f k) → Goes p e below K T' (mkF m pc' Ls st)) : Goes p e below K T (mkF m pc Ls (.int (x) :: .int j :: .ref b :: st)) := by
  subst hj
  exact g_bastore' X hx hZ eT A h0 h1 hd hp k
end ArGI
def ArJ (Z : State) (h : Heap) (b : Addr) (ty : FieldType) (n : Nat) (f : Nat → Int64) : Prop := ∃ cl, Arr Z h b cl ty ∧ cl.slots.size = n ∧ ∀ j, j < n → cl.slots[j]? = some (.long (f j))
section ArSJ
variable {Z : State} {h h' : Heap} {a b : Addr} {ty : FieldType} {n sl : Nat} {f : Nat → Int64} {v : Value} {ws : List Addr}
theorem ArJ.new {cA : ClassId} {z : Int32} (A : Arr Z h a (newA cA ty z) ty) (x : Int64) (hd : defaultValue ty = .long x) : ArJ Z h a ty z.toNatClampNeg (fun _ => x) := ⟨_, A, sz_new _ _ _, fun j hj => by simp only [newA, ← hd]; rw [Array.getElem?_replicate, if_pos hj]⟩
theorem ArJ.lt (F : ArJ Z h b ty n f) : b < h.size := by obtain ⟨c, A, -⟩ := F; exact A.lt
theorem ArJ.ext (F : ArJ Z h b ty n f) (E : Ext h h') : ArJ Z h' b ty n f := by obtain ⟨c, A, r⟩ := F; exact ⟨c, A.ext E, r⟩
theorem ArJ.other (F : ArJ Z h b ty n f) (W : Wr h h' a sl v) (q : b ≠ a) : ArJ Z h' b ty n f := by obtain ⟨c, A, r⟩ := F; exact ⟨c, A.other W q, r⟩
theorem ArJ.keep (F : ArJ Z h b ty n f) (K : Keep h h' ws) (q : b ∉ ws) : ArJ Z h' b ty n f := by obtain ⟨c, A, r⟩ := F; exact ⟨c, ⟨K.2.1 b c A.1 q, A.2⟩, r⟩
theorem ArJ.set {x : Int64} (F : ArJ Z h b ty n f) (W : Wr h h' b sl (.long (x))) : ArJ Z h' b ty n (fun k => if k = sl then x else f k) := by
  obtain ⟨c, A, hs, H⟩ := F
  refine ⟨_, A.same W, by rw [sz_set]; exact hs, fun j hj => ?_⟩
  by_cases e : j = sl
  · subst e; simp only [Cell.setSlot, if_true]; rw [Array.getElem?_setIfInBounds_self_of_lt (by rw [hs]; exact hj)]
  · simp only [Cell.setSlot]; rw [Array.getElem?_setIfInBounds_ne (Ne.symm e), if_neg e]; exact H j hj
theorem ArJ.inb {j : Int32} {c : Cell} (hs : c.slots.size = n) (h0 : ¬ j < 0) (h1 : j.toNatClampNeg < n) : ¬ (j < 0 ∨ c.slots.size ≤ j.toNatClampNeg) := by rw [hs]; rintro (q | q); exact h0 q; omega
end ArSJ
section ArGJ
variable {p : Program} {l : Launch} {e : Env} {R : Room} {s : State} {m : MethodId} {args : Array Value} {below : List Frame} {meth : Method} {c : Code} {T : State} {locs : List Loc} {cells slots : Nat} {Z : State} {a0 : Array Value} {h : Heap} {K : Outcome → State → Prop} {pc pc' : Nat} {Ls : Array Slot} {st : List Value}
theorem g_laload' (X : Stand p l e R s m args below meth c T locs cells slots) (hx : p.tables.exec = Jvm.exec) (hZ : Z.Warmed39 s.vm) (eT : T.heap = h) {b : Addr} {n : Nat} {f : Nat → Int64} {j : Int32} {x : Int64} (A : ArJ Z h b .long n f) (h0 : ¬ j < 0) (h1 : j.toNatClampNeg < n) (hv : f j.toNatClampNeg = x) (hd : decode c.code pc = .ok (.laload, 1)) (hp : pc + 1 = pc') (k : Goes p e below K T (mkF m pc' Ls (.long (x) :: st))) : Goes p e below K T (mkF m pc Ls (.int j :: .ref b :: st)) := by
  obtain ⟨cl, A, hs, H⟩ := A
  exact g_laload X hx hZ eT A (ArJ.inb hs h0 h1) (by rw [H _ h1, hv]) hd hp k
theorem g_arraylengthJ (X : Stand p l e R s m args below meth c T locs cells slots) (hx : p.tables.exec = Jvm.exec) (hZ : Z.Warmed39 s.vm) (eT : T.heap = h) {b : Addr} {n : Nat} {f : Nat → Int64} {ty : FieldType} {z : Int32} (A : ArJ Z h b ty n f) (hz : n.toInt32 = z) (hd : decode c.code pc = .ok (.arraylength, 1)) (hp : pc + 1 = pc') (k : Goes p e below K T (mkF m pc' Ls (.int z :: st))) : Goes p e below K T (mkF m pc Ls (.ref b :: st)) := by
  obtain ⟨cl, A, hs, H⟩ := A
  exact g_arraylength X hx hZ eT A (by rw [hs, hz]) hd hp k
theorem g_lastore' (X : Stand p l e R s m args below meth c T locs cells slots) (hx : p.tables.exec = Jvm.exec) (hZ : Z.Warmed39 s.vm) (eT : T.heap = h) {b : Addr} {n : Nat} {f : Nat → Int64} {j : Int32} {x : Int64} (A : ArJ Z h b .long n f) (h0 : ¬ j < 0) (h1 : j.toNatClampNeg < n) (hd : decode c.code pc = .ok (.lastore, 1)) (hp : pc + 1 = pc') (k : ∀ T' h', Stand p l e R s m args below meth c T' (locs ++ [⟨b, j.toNatClampNeg⟩]) cells slots → T'.heap = h' → Wr h h' b j.toNatClampNeg (.long (x)) → ArJ Z h' b .long n (fun k => if k = j.toNatClampNeg then x else f k) → Goes p e below K T' (mkF m pc' Ls st)) : Goes p e below K T (mkF m pc Ls (.long (x) :: .int j :: .ref b :: st)) := by
  have A' := A
  obtain ⟨cl, A, hs, H⟩ := A
  exact g_lastore X hx hZ eT A (ArJ.inb hs h0 h1) hd hp (fun T' h' X' e' W' => k T' h' X' e' W' (A'.set W'))
theorem g_lastoreN (X : Stand p l e R s m args below meth c T locs cells slots) (hx : p.tables.exec = Jvm.exec) (hZ : Z.Warmed39 s.vm) (eT : T.heap = h) {b : Addr} {n : Nat} {f : Nat → Int64} {j : Int32} {x : Int64} (A : ArJ Z h b .long n f) (jn : Nat) (hj : j.toNatClampNeg = jn) (h0 : ¬ j < 0) (h1 : jn < n) (hd : decode c.code pc = .ok (.lastore, 1)) (hp : pc + 1 = pc') (k : ∀ T' h', Stand p l e R s m args below meth c T' (locs ++ [⟨b, jn⟩]) cells slots → T'.heap = h' → Wr h h' b jn (.long (x)) → ArJ Z h' b .long n (fun k => if k = jn then x else f k) → Goes p e below K T' (mkF m pc' Ls st)) : Goes p e below K T (mkF m pc Ls (.long (x) :: .int j :: .ref b :: st)) := by
  subst hj
  exact g_lastore' X hx hZ eT A h0 h1 hd hp k
end ArGJ
def ArV (Z : State) (h : Heap) (b : Addr) (ty : FieldType) (n : Nat) (f : Nat → Value) : Prop := ∃ cl, Arr Z h b cl ty ∧ cl.slots.size = n ∧ ∀ j, j < n → cl.slots[j]? = some (f j)
section ArSV
variable {Z : State} {h h' : Heap} {a b : Addr} {ty : FieldType} {n sl : Nat} {f : Nat → Value} {v : Value} {ws : List Addr}
theorem ArV.new {cA : ClassId} {z : Int32} (A : Arr Z h a (newA cA ty z) ty) (x : Value) (hd : defaultValue ty = x) : ArV Z h a ty z.toNatClampNeg (fun _ => x) := ⟨_, A, sz_new _ _ _, fun j hj => by simp only [newA, ← hd]; rw [Array.getElem?_replicate, if_pos hj]⟩
theorem ArV.lt (F : ArV Z h b ty n f) : b < h.size := by obtain ⟨c, A, -⟩ := F; exact A.lt
theorem ArV.ext (F : ArV Z h b ty n f) (E : Ext h h') : ArV Z h' b ty n f := by obtain ⟨c, A, r⟩ := F; exact ⟨c, A.ext E, r⟩
theorem ArV.other (F : ArV Z h b ty n f) (W : Wr h h' a sl v) (q : b ≠ a) : ArV Z h' b ty n f := by obtain ⟨c, A, r⟩ := F; exact ⟨c, A.other W q, r⟩
theorem ArV.keep (F : ArV Z h b ty n f) (K : Keep h h' ws) (q : b ∉ ws) : ArV Z h' b ty n f := by obtain ⟨c, A, r⟩ := F; exact ⟨c, ⟨K.2.1 b c A.1 q, A.2⟩, r⟩
theorem ArV.set {x : Value} (F : ArV Z h b ty n f) (W : Wr h h' b sl (x)) : ArV Z h' b ty n (fun k => if k = sl then x else f k) := by
  obtain ⟨c, A, hs, H⟩ := F
  refine ⟨_, A.same W, by rw [sz_set]; exact hs, fun j hj => ?_⟩
  by_cases e : j = sl
  · subst e; simp only [Cell.setSlot, if_true]; rw [Array.getElem?_setIfInBounds_self_of_lt (by rw [hs]; exact hj)]
  · simp only [Cell.setSlot]; rw [Array.getElem?_setIfInBounds_ne (Ne.symm e), if_neg e]; exact H j hj
theorem ArV.inb {j : Int32} {c : Cell} (hs : c.slots.size = n) (h0 : ¬ j < 0) (h1 : j.toNatClampNeg < n) : ¬ (j < 0 ∨ c.slots.size ≤ j.toNatClampNeg) := by rw [hs]; rintro (q | q); exact h0 q; omega
end ArSV
section ArGV
variable {p : Program} {l : Launch} {e : Env} {R : Room} {s : State} {m : MethodId} {args : Array Value} {below : List Frame} {meth : Method} {c : Code} {T : State} {locs : List Loc} {cells slots : Nat} {Z : State} {a0 : Array Value} {h : Heap} {K : Outcome → State → Prop} {pc pc' : Nat} {Ls : Array Slot} {st : List Value}
theorem g_aaload' (X : Stand p l e R s m args below meth c T locs cells slots) (hx : p.tables.exec = Jvm.exec) (hZ : Z.Warmed39 s.vm) (eT : T.heap = h) {b : Addr} {n : Nat} {f : Nat → Value} {j : Int32} {x : Value} {ty : FieldType} (A : ArV Z h b ty n f) (h0 : ¬ j < 0) (h1 : j.toNatClampNeg < n) (hv : f j.toNatClampNeg = x) (hty : ty.isReference = true) (hd : decode c.code pc = .ok (.aaload, 1)) (hp : pc + 1 = pc') (k : Goes p e below K T (mkF m pc' Ls (x :: st))) : Goes p e below K T (mkF m pc Ls (.int j :: .ref b :: st)) := by
  obtain ⟨cl, A, hs, H⟩ := A
  exact g_aaload X hx hZ eT A hty (ArV.inb hs h0 h1) (by rw [H _ h1, hv]) hd hp k
theorem g_arraylengthV (X : Stand p l e R s m args below meth c T locs cells slots) (hx : p.tables.exec = Jvm.exec) (hZ : Z.Warmed39 s.vm) (eT : T.heap = h) {b : Addr} {n : Nat} {f : Nat → Value} {ty : FieldType} {z : Int32} (A : ArV Z h b ty n f) (hz : n.toInt32 = z) (hd : decode c.code pc = .ok (.arraylength, 1)) (hp : pc + 1 = pc') (k : Goes p e below K T (mkF m pc' Ls (.int z :: st))) : Goes p e below K T (mkF m pc Ls (.ref b :: st)) := by
  obtain ⟨cl, A, hs, H⟩ := A
  exact g_arraylength X hx hZ eT A (by rw [hs, hz]) hd hp k
theorem g_aastore' (X : Stand p l e R s m args below meth c T locs cells slots) (hx : p.tables.exec = Jvm.exec) (hZ : Z.Warmed39 s.vm) (eT : T.heap = h) {b : Addr} {n : Nat} {f : Nat → Value} {j : Int32} {x : Value} {ty : FieldType} (A : ArV Z h b ty n f) (h0 : ¬ j < 0) (h1 : j.toNatClampNeg < n) (hty : ty.isReference = true) (F : Sto Z h b x) (hd : decode c.code pc = .ok (.aastore, 1)) (hp : pc + 1 = pc') (k : ∀ T' h', Stand p l e R s m args below meth c T' (locs ++ [⟨b, j.toNatClampNeg⟩]) cells slots → T'.heap = h' → Wr h h' b j.toNatClampNeg (x) → ArV Z h' b ty n (fun k => if k = j.toNatClampNeg then x else f k) → Goes p e below K T' (mkF m pc' Ls st)) : Goes p e below K T (mkF m pc Ls (x :: .int j :: .ref b :: st)) := by
  have A' := A
  obtain ⟨cl, A, hs, H⟩ := A
  exact g_aastore X hx hZ eT A hty F (ArV.inb hs h0 h1) hd hp (fun T' h' X' e' W' => k T' h' X' e' W' (A'.set W'))
end ArGV
section OwnD
variable {p : Program} {l : Launch} {e : Env} {R : Room} {s : State} {m : MethodId} {args : Array Value} {below : List Frame} {meth : Method} {c : Code} {T : State} {locs : List Loc} {cells slots : Nat} {Z : State} {a0 : Array Value} {h : Heap} {K : Outcome → State → Prop} {pc pc' : Nat} {Ls : Array Slot} {st : List Value}
theorem g_dload_n (X : Stand p l e R s m args below meth c T locs cells slots) (hx : p.tables.exec = Jvm.exec) {i : Fin 4} {v : UInt64} (hd : decode c.code pc = .ok (.dload_n i, 1)) (hl : Ls[i.val]? = some (.val (.double v))) (hp : pc + 1 = pc') (k : Goes p e below K T (mkF m pc' Ls (.double v :: st))) : Goes p e below K T (mkF m pc Ls (st)) := by subst hp; exact Goes.by' (fun _ q => XS.dloadN X.here hx rfl hd hl q) k
theorem g_dload (X : Stand p l e R s m args below meth c T locs cells slots) (hx : p.tables.exec = Jvm.exec) {i : Nat} {v : UInt64} (hd : decode c.code pc = .ok (.dload i, 2)) (hl : Ls[i]? = some (.val (.double v))) (hp : pc + 2 = pc') (k : Goes p e below K T (mkF m pc' Ls (.double v :: st))) : Goes p e below K T (mkF m pc Ls (st)) := by subst hp; exact Goes.by' (fun _ q => XS.dload X.here hx rfl hd hl q) k
theorem g_dconst0 (X : Stand p l e R s m args below meth c T locs cells slots) (hx : p.tables.exec = Jvm.exec) {v : UInt64} (hd : decode c.code pc = .ok (.dconst 0, 1)) (hv : FP.dconst0 = v) (hp : pc + 1 = pc') (k : Goes p e below K T (mkF m pc' Ls (.double v :: st))) : Goes p e below K T (mkF m pc Ls (st)) := by subst hp; exact Goes.by' (fun _ q => XS.dconst0 X.here hx rfl hd hv q) k
theorem g_dconst1 (X : Stand p l e R s m args below meth c T locs cells slots) (hx : p.tables.exec = Jvm.exec) {v : UInt64} (hd : decode c.code pc = .ok (.dconst 1, 1)) (hv : FP.dconst1 = v) (hp : pc + 1 = pc') (k : Goes p e below K T (mkF m pc' Ls (.double v :: st))) : Goes p e below K T (mkF m pc Ls (st)) := by subst hp; exact Goes.by' (fun _ q => XS.dconst1 X.here hx rfl hd hv q) k
theorem g_i2d (X : Stand p l e R s m args below meth c T locs cells slots) (hx : p.tables.exec = Jvm.exec) {x : Int32} {v : UInt64} (hd : decode c.code pc = .ok (.i2d, 1)) (hv : FP.i2d x = v) (hp : pc + 1 = pc') (k : Goes p e below K T (mkF m pc' Ls (.double v :: st))) : Goes p e below K T (mkF m pc Ls (.int x :: st)) := by subst hp; exact Goes.by' (fun _ q => XS.i2dS X.here hx rfl hd rfl hv q) k
theorem g_dcmp (X : Stand p l e R s m args below meth c T locs cells slots) (hx : p.tables.exec = Jvm.exec) {o : CmpOp} {x y : UInt64} {v : Int32} (hd : decode c.code pc = .ok (.dcmp o, 1)) (hv : cmpValue (FP.dcmp x y) o = v) (hp : pc + 1 = pc') (k : Goes p e below K T (mkF m pc' Ls (.int v :: st))) : Goes p e below K T (mkF m pc Ls (.double y :: .double x :: st)) := by subst hp; exact Goes.by' (fun _ q => XS.dcmpS X.here hx rfl hd rfl hv q) k
theorem g_dadd (X : Stand p l e R s m args below meth c T locs cells slots) (hx : p.tables.exec = Jvm.exec) {x y v : UInt64} (hd : decode c.code pc = .ok (.dadd, 1)) (hn : Jvm.Free.Fl.NoNaN64 (FP.dadd x y)) (hv : FP.dadd x y = v) (hp : pc + 1 = pc') (k : Goes p e below K T (mkF m pc' Ls (.double v :: st))) : Goes p e below K T (mkF m pc Ls (.double y :: .double x :: st)) := by subst hp; exact Goes.by' (fun _ q => XS.daddS X.here hx rfl hd rfl hn hv q) k
theorem g_ddiv (X : Stand p l e R s m args below meth c T locs cells slots) (hx : p.tables.exec = Jvm.exec) {x y v : UInt64} (hd : decode c.code pc = .ok (.ddiv, 1)) (hn : Jvm.Free.Fl.NoNaN64 (FP.ddiv x y)) (hv : FP.ddiv x y = v) (hp : pc + 1 = pc') (k : Goes p e below K T (mkF m pc' Ls (.double v :: st))) : Goes p e below K T (mkF m pc Ls (.double y :: .double x :: st)) := by subst hp; exact Goes.by' (fun _ q => XS.ddivS X.here hx rfl hd rfl hn hv q) k
theorem g_d2f (X : Stand p l e R s m args below meth c T locs cells slots) (hx : p.tables.exec = Jvm.exec) {x : UInt64} {v : UInt32} (hd : decode c.code pc = .ok (.d2f, 1)) (hn : FP.d2f x &&& 0x7fffffff ≤ 0x7f800000) (hv : FP.d2f x = v) (hp : pc + 1 = pc') (k : Goes p e below K T (mkF m pc' Ls (.float v :: st))) : Goes p e below K T (mkF m pc Ls (.double x :: st)) := by
  subst hp hv
  refine Goes.by' (fun t q => ?_) k
  show Steps p.tables e below (T.setTop { method := m, pc := pc, locals := Ls, stack := .double x :: st, locked := none }) t
  jvm_step X.here [X.here.top, hx, hd, Op.d2f.at_number X.here.top hn]
  exact q
theorem g_f2d (X : Stand p l e R s m args below meth c T locs cells slots) (hx : p.tables.exec = Jvm.exec) {x : UInt32} {v : UInt64} (hd : decode c.code pc = .ok (.f2d, 1)) (hn : FP.f2d x &&& 0x7fffffffffffffff ≤ 0x7ff0000000000000) (hv : FP.f2d x = v) (hp : pc + 1 = pc') (k : Goes p e below K T (mkF m pc' Ls (.double v :: st))) : Goes p e below K T (mkF m pc Ls (.float x :: st)) := by
  subst hp hv
  refine Goes.by' (fun t q => ?_) k
  show Steps p.tables e below (T.setTop { method := m, pc := pc, locals := Ls, stack := .float x :: st, locked := none }) t
  jvm_step X.here [X.here.top, hx, hd, Op.f2d.at_number X.here.top hn]
  exact q
theorem g_ldc2D (X : Stand p l e R s m args below meth c T locs cells slots) (hx : p.tables.exec = Jvm.exec) (hZ : Z.Warmed39 s.vm) {own : String} {ix : Nat} {v : UInt64} (hown : s.vm.findClass own = some m.cls) (w : (Cond.constantDouble own ix v).before a0 Z = true) (hd : decode c.code pc = .ok (.ldc2_w ix, 3)) (hp : pc + 3 = pc') (k : Goes p e below K T (mkF m pc' Ls (.double v :: st))) : Goes p e below K T (mkF m pc Ls st) := by
  subst hp
  obtain ⟨k', cf, hk, hcf, hcp⟩ := Cond.constantDouble_spec (args := a0) hown (mvT hZ w)
  exact Goes.by' (fun _ q => X.ldc2Double hx hk hcf hcp (g := mkF m pc Ls st) rfl hd _ q) k
theorem g_retD (X : Stand p l e R s m args below meth c T locs cells slots) (hx : p.tables.exec = Jvm.exec) {C S : Nat} {Q : Option Value → Heap → List Loc → Prop} {z : UInt64} (hlk : meth.locks = false) (hret : meth.sig.returnType = some .double) (eT : T.heap = h) (hc : cells ≤ C) (hs : slots ≤ S) (hd : decode c.code pc = .ok (.dreturn, 1)) (hQ : Q (some (.double z)) h locs) : Goes p e below (KQ s C S Q) T (mkF m pc Ls (.double z :: st)) := by
  obtain ⟨fs, hr, hrun, hended, hW, hsame⟩ := X.leave (v := some (.double z)) (fun q => by rw [hret] at q; cases q) hlk
  exact ⟨_, _, retOut X hx hret rfl (Or.inr (Or.inr (Or.inl ⟨rfl, rfl, _, rfl⟩))) hd hr, hrun, hended, _, _, rfl, by subst eT; exact hQ, ⟨_, rfl⟩, hW, hsame.mono hc hs⟩
end OwnD
section OwnIns
variable {p : Program} {l : Launch} {e : Env} {R : Room} {s : State} {m : MethodId} {args : Array Value} {below : List Frame} {meth : Method} {c : Code} {T : State} {locs : List Loc} {cells slots : Nat} {Z : State} {a0 : Array Value} {h : Heap} {K : Outcome → State → Prop} {pc pc' : Nat} {Ls : Array Slot} {st : List Value}
theorem g_instY (X : Stand p l e R s m args below meth c T locs cells slots) (hx : p.tables.exec = Jvm.exec) (hZ : Z.Warmed39 s.vm) {own K0 : String} {ix : Nat} {a : Addr} (hown : s.vm.findClass own = some m.cls) (w : (Cond.classLink own ix K0).before a0 Z = true) (eT : T.heap = h) (F : Ins Z h a K0 true) (hd : decode c.code pc = .ok (.instanceof ix, 3)) (hp : pc + 3 = pc') (k : ∀ T', Stand p l e R s m args below meth c T' locs cells slots → T'.heap = h → Goes p e below K T' (mkF m pc' Ls (.int 1 :: st))) : Goes p e below K T (mkF m pc Ls (.ref a :: st)) := by
  subst hp
  obtain ⟨T1, X1, e1, f1⟩ := instY X hx hZ hown w eT F (g := mkF m pc Ls (.ref a :: st)) rfl rfl hd
  exact Goes.by' f1 (k T1 X1 e1)
theorem g_instNo (X : Stand p l e R s m args below meth c T locs cells slots) (hx : p.tables.exec = Jvm.exec) (hZ : Z.Warmed39 s.vm) {own K0 C0 : String} {ix : Nat} {a : Addr} (hown : s.vm.findClass own = some m.cls) (w : (Cond.classLink own ix K0).before a0 Z = true) (eT : T.heap = h) (E : Exa Z h a C0) (F : ∃ c t, Z.vm.findClass C0 = some c ∧ Z.vm.findClass K0 = some t ∧ Z.vm.assignable c t = false) (hd : decode c.code pc = .ok (.instanceof ix, 3)) (hp : pc + 3 = pc') (k : ∀ T', Stand p l e R s m args below meth c T' locs cells slots → T'.heap = h → Goes p e below K T' (mkF m pc' Ls (.int 0 :: st))) : Goes p e below K T (mkF m pc Ls (.ref a :: st)) := by
  subst hp
  obtain ⟨T1, X1, e1, f1⟩ := instNo X hx hZ hown w eT E F (g := mkF m pc Ls (.ref a :: st)) rfl rfl hd
  exact Goes.by' f1 (k T1 X1 e1)
theorem g_castY (X : Stand p l e R s m args below meth c T locs cells slots) (hx : p.tables.exec = Jvm.exec) (hZ : Z.Warmed39 s.vm) {own K0 : String} {ix : Nat} {a : Addr} (hown : s.vm.findClass own = some m.cls) (w : (Cond.classLink own ix K0).before a0 Z = true) (eT : T.heap = h) (F : Ins Z h a K0 true) (hd : decode c.code pc = .ok (.checkcast ix, 3)) (hp : pc + 3 = pc') (k : ∀ T', Stand p l e R s m args below meth c T' locs cells slots → T'.heap = h → Goes p e below K T' (mkF m pc' Ls (.ref a :: st))) : Goes p e below K T (mkF m pc Ls (.ref a :: st)) := by
  subst hp
  obtain ⟨T1, X1, e1, f1⟩ := castY X hx hZ hown w eT F (g := mkF m pc Ls (.ref a :: st)) rfl rfl hd
  exact Goes.by' f1 (k T1 X1 e1)
theorem g_instNull (X : Stand p l e R s m args below meth c T locs cells slots) (hx : p.tables.exec = Jvm.exec) {ix : Nat} (hd : decode c.code pc = .ok (.instanceof ix, 3)) (hp : pc + 3 = pc') (k : Goes p e below K T (mkF m pc' Ls (.int 0 :: st))) : Goes p e below K T (mkF m pc Ls (.null :: st)) := by
  subst hp
  exact Goes.by' (fun _ q => X.instanceofNull hx (g := mkF m pc Ls (.null :: st)) rfl rfl hd _ q) k
end OwnIns
section OwnW
variable {p : Program} {l : Launch} {e : Env} {R : Room} {s : State} {m : MethodId} {args : Array Value} {below : List Frame} {meth : Method} {c : Code} {T : State} {locs : List Loc} {cells slots : Nat} {Z : State} {a0 : Array Value} {h : Heap} {K : Outcome → State → Prop} {pc pc' : Nat} {Ls : Array Slot} {st : List Value}
abbrev KW (s : State) (C S : Nat) (Q : Option Value → Heap → List Loc → Prop) : Outcome → State → Prop := fun o u => ∃ v L, o = .returned v ∧ Q v u.heap L ∧ ReturnedEndW s o u L C S
abbrev CtrW (l : Launch) (Z : State) (y : MethodName) (bytes : ByteArray) (maxL : Nat) (ret : Option FieldType) (ws : List Jvm.Cond) (rm : Room) (C S : Nat) (as' : Array Value) (h0 : Heap) (Q : Option Value → Heap → List Loc → Prop) : Prop := MetFree l y (head1 (Jvm.Cond.code y bytes maxL ret :: ws) rm) (fun a U => a = as' ∧ Z.Warmed39 U.vm ∧ U.heap = h0) (fun _ _ _ _ _ => True) (fun _ U o U' => ∃ v L, o = .returned v ∧ Q v U'.heap L ∧ ReturnedEndW U o U' L C S)
theorem CtrW.of {y : MethodName} {bytes : ByteArray} {maxL : Nat} {ret : Option FieldType} {ws : List Jvm.Cond} {rm : Room} {C S : Nat} {as' : Array Value} {h0 : Heap} {Q : Option Value → Heap → List Loc → Prop} (hpn : plainFor y = true)
    (body : ∀ (p : Program) (e : Env) (s : State) (m : MethodId) (below : List Frame) (meth : Method) (c : Code) (s₁ : State), p.tables.exec = Jvm.exec → c.code = bytes → c.maxLocals = maxL → s.vm.findClass y.cls = some m.cls → meth.name = y.name → meth.sig.returnType = ret → meth.locks = false → Z.Warmed39 s.vm → Stand p l e rm (s.setVm s.vm) m as' below meth c s₁ [] 0 0 → s₁.heap = h0 → s.Since s.vm s.heap.size → s.heap = h0 → Goes p e below (KW s C S Q) s₁ (entryFrame m as' maxL)) :
    CtrW l Z y bytes maxL ret ws rm C S as' h0 Q := by
  refine MetFree.of_bodySF hpn hisR ?_
  intro p e s m args below meth c s₁ Bd hml0 hP hK
  obtain ⟨rfl, hZ, hh⟩ := hP
  have hlk : meth.locks = false := BodyLoose.notSynchronized Bd
  exact body p e s m below meth c s₁ Bd.exec Bd.bytes hml0 (findClass_of_methodNamed Bd.named) (name_of_methodNamed Bd.named Bd.method).1 Bd.returns hlk hZ (Stand.of_body Bd) (by rw [← hh, Bd.state]; rfl) (State.WarmedH.since (State.WarmedH.refl s) _) hh
abbrev CtrI (l : Launch) (Z : State) (y : MethodName) (bytes : ByteArray) (maxL : Nat) (ret : Option FieldType) (ws : List Jvm.Cond) (rm : Room) (C S : Nat) (as' : Array Value) (h0 : Heap) (Q : Option Value → Heap → List Loc → Prop) : Prop := MetFree l y (head1 (Jvm.Cond.code y bytes maxL ret :: ws) rm) (fun a U => a = as' ∧ Z.Warmed39 U.vm ∧ U.heap = h0 ∧ U.vm.interned = Z.vm.interned) (fun _ _ _ _ _ => True) (fun _ U o U' => ∃ v L, o = .returned v ∧ Q v U'.heap L ∧ ReturnedEndW U o U' L C S)
theorem CtrI.of {y : MethodName} {bytes : ByteArray} {maxL : Nat} {ret : Option FieldType} {ws : List Jvm.Cond} {rm : Room} {C S : Nat} {as' : Array Value} {h0 : Heap} {Q : Option Value → Heap → List Loc → Prop} (hpn : plainFor y = true)
    (body : ∀ (p : Program) (e : Env) (s : State) (m : MethodId) (below : List Frame) (meth : Method) (c : Code) (s₁ : State), p.tables.exec = Jvm.exec → c.code = bytes → c.maxLocals = maxL → s.vm.findClass y.cls = some m.cls → meth.name = y.name → meth.sig.returnType = ret → meth.locks = false → Z.Warmed39 s.vm → Stand p l e rm (s.setVm s.vm) m as' below meth c s₁ [] 0 0 → s₁.heap = h0 → s.Since s.vm s.heap.size → s.heap = h0 → s.vm.interned = Z.vm.interned → Goes p e below (KW s C S Q) s₁ (entryFrame m as' maxL)) :
    CtrI l Z y bytes maxL ret ws rm C S as' h0 Q := by
  refine MetFree.of_bodySF hpn hisR ?_
  intro p e s m args below meth c s₁ Bd hml0 hP hK
  obtain ⟨rfl, hZ, hh, hint⟩ := hP
  have hlk : meth.locks = false := BodyLoose.notSynchronized Bd
  exact body p e s m below meth c s₁ Bd.exec Bd.bytes hml0 (findClass_of_methodNamed Bd.named) (name_of_methodNamed Bd.named Bd.method).1 Bd.returns hlk hZ (Stand.of_body Bd) (by rw [← hh, Bd.state]; rfl) (State.WarmedH.since (State.WarmedH.refl s) _) hh hint
theorem g_ldcS {vm0 : Vm} (X : Stand p l e R (s.setVm vm0) m args below meth c T locs cells slots) (hx : p.tables.exec = Jvm.exec) (hZ : Z.Warmed39 vm0) {own text : String} {ix : Nat} (hown : vm0.findClass own = some m.cls) (w : (Cond.stringLink own ix text).before a0 Z = true) (wS : ∀ a ∈ Bundle.stringAtoms, a.before a0 Z = true) (eT : T.heap = h) {k0 : Nat} (hS : s.Since vm0 k0) (hk : k0 ≤ h.size) (hd : decode c.code pc = .ok (.ldc ix, 2)) (hp : pc + 2 = pc') (n : Nat) (hn : 4 * text.toList.length ≤ n) (hbig : n ≤ 536870912) (hc : cells + 2 ≤ R.cells) (hl : slots + (n + 4) ≤ R.slots) (k : ∀ (a : Addr) (T' : State) (h' : Heap) (k1 : Nat), Stand p l e R (s.setVm T'.vm) m args below meth c T' locs (cells + 2) (slots + (n + 4)) → T'.heap = h' → Ext h h' → s.Since T'.vm k1 → k1 ≤ h'.size → Z.Warmed39 T'.vm → T'.vm.findClass own = some m.cls → Goes p e below K T' (mkF m pc' Ls (.ref a :: st))) : Goes p e below K T (mkF m pc Ls st) := by
  subst hp
  obtain ⟨a, T1, h1, k1, X1, e1, E1, S1, g1, Z1, o1, f1⟩ := ldcS X hx hZ hown w wS eT hS hk (g := mkF m pc Ls st) rfl hd hn hbig hc hl
  exact Goes.by' f1 (k a T1 h1 k1 X1 e1 E1 S1 g1 Z1 o1)
theorem g_ldcSV {vm0 : Vm} (X : Stand p l e R (s.setVm vm0) m args below meth c T locs cells slots) (hx : p.tables.exec = Jvm.exec) (hZ : Z.Warmed39 vm0) {own text : String} {ix : Nat} {Ts : List String} (hown : vm0.findClass own = some m.cls) (w : (Cond.stringLink own ix text).before a0 Z = true) (wS : ∀ a ∈ Bundle.stringAtoms, a.before a0 Z = true) (eT : T.heap = h) {k0 : Nat} (hS : s.Since vm0 k0) (hk : k0 ≤ h.size) (N : Fr s.heap.size locs) (hkeep : ∀ (b : Addr) (cl : Cell), Z.heap[b]? = some cl → s.heap[b]? = some cl) (I : IB Z vm0 Ts) (hnot : text ∉ Ts) (hh : Jvm.Lit.constHeld Z own ix) (hcw : Jvm.Lit.compactW.before a0 Z = true) (vs : List Value) (z : Int32) (ht : (∀ c ∈ text.toList, c.toNat < 256) ∧ text.toList.map (fun c => Value.int (Jvm.Lit.byteI c.toNat.toUInt16)) = vs) (hz : ¬ z < 0) (hl : z.toNatClampNeg = vs.length) (hd : decode c.code pc = .ok (.ldc ix, 2)) (hp : pc + 2 = pc') (n : Nat) (hn : 4 * text.toList.length ≤ n) (hbig : n ≤ 536870912) (hc : cells + 2 ≤ R.cells) (hl' : slots + (n + 4) ≤ R.slots) (k : ∀ (a : Addr) (T' : State) (h' : Heap) (k1 : Nat) (b : Addr) (cA : ClassId), Stand p l e R (s.setVm T'.vm) m args below meth c T' locs (cells + 2) (slots + (n + 4)) → T'.heap = h' → Ext h h' → s.Since T'.vm k1 → k1 ≤ h'.size → Z.Warmed39 T'.vm → T'.vm.findClass own = some m.cls → Exa Z h' a "java/lang/String" → Fld Z h' a "java/lang/String" "coder" "B" (.int 0) → Fld Z h' a "java/lang/String" "value" "[B" (.ref b) → Arv Z h' b cA .byte z vs (.int 0) → IB Z T'.vm (text :: Ts) → Goes p e below K T' (mkF m pc' Ls (.ref a :: st))) : Goes p e below K T (mkF m pc Ls st) := by
  subst hp
  obtain ⟨a, T1, h1, k1, b, cA, X1, e1, E1, S1, g1, Z1, o1, q1, q2, q3, q4, -, -, q5, f1⟩ := ldcSV X hx hZ hown w wS eT hS hk N hkeep I hnot hh hcw ht hz hl (g := mkF m pc Ls st) rfl hd hn hbig hc hl'
  exact Goes.by' f1 (k a T1 h1 k1 b cA X1 e1 E1 S1 g1 Z1 o1 q1 q2 q3 q4 q5)
theorem g_retNW {vm0 : Vm} (X : Stand p l e R (s.setVm vm0) m args below meth c T locs cells slots) (hx : p.tables.exec = Jvm.exec) {C S : Nat} {Q : Option Value → Heap → List Loc → Prop} {z : Int32} {t : FieldType} (ht : t = .boolean ∨ t = .byte ∨ t = .char ∨ t = .short) (hlk : meth.locks = false) (hret : meth.sig.returnType = some t) (eT : T.heap = h) {k0 : Nat} (hS : s.Since vm0 k0) (hk : k0 ≤ h.size) (hc : cells ≤ C) (hs : slots ≤ S) (hd : decode c.code pc = .ok (.ireturn, 1)) (hQ : Q (some (.int (nar t z))) h locs) : Goes p e below (KW s C S Q) T (mkF m pc Ls (.int z :: st)) := by
  subst eT
  obtain ⟨fs, hr, hrun, hended, q1, q2, q3, q4⟩ := X.leaveW hS hk (v := some (.int (nar t z))) (fun q => by rw [hret] at q; cases q) hlk
  exact ⟨_, _, retN X hx hret ht hd hr, hrun, hended, _, _, rfl, hQ, q1, q2, q3, q4.mono hc hs⟩
theorem g_callSW {vm0 : Vm} {k0 : Nat} (X : Stand p l e R (s.setVm vm0) m args below meth c T locs cells slots) (hx : p.tables.exec = Jvm.exec) (hZ : Z.Warmed39 vm0) {own : String} {ix : Nat} {y : MethodName} {bytes : ByteArray} {maxL : Nat} {ret : Option FieldType} {rm : Room} {as' : Array Value} {Q : Option Value → Heap → List Loc → Prop} (hown : vm0.findClass own = some m.cls) (w1 : (Cond.methodLink own ix y).before a0 Z = true) (w2 : (Cond.static y).before a0 Z = true) (w3 : (Cond.initialized y.cls).before a0 Z = true) (w4 : (Cond.code y bytes maxL ret).before a0 Z = true) (hy : y.cls ≠ "java/lang/invoke/MethodHandle" ∧ y.cls ≠ "java/lang/invoke/VarHandle") (eT : T.heap = h) (hS : s.Since vm0 k0) (hk : k0 ≤ h.size) (C : CtrW l Z y bytes maxL ret [] rm rm.cells rm.slots as' h Q) (hsz : Ls.size = c.maxLocals) (argsL rest : List Value) (has : argsL.toArray = as') (hlen : ∀ sig, parseMethodDescriptor y.desc = some sig → argsL.length = sig.parameters.length) (hst : st = argsL.reverse ++ rest) (hl : (rest.map fun v => v.category).sum + (maxL + 11) + rm.locals ≤ R.locals) (hf : rm.frames + 1 ≤ R.frames) (hc : cells + rm.cells ≤ R.cells) (hsl : slots + rm.slots ≤ R.slots) (hd : decode c.code pc = .ok (.invokestatic ix, 3)) (hp : pc + 3 = pc') (k : ∀ (T' : State) (v : Option Value) (L : List Loc) (k1 : Nat), Stand p l e R (s.setVm T'.vm) m args below meth c T' (locs ++ L) (cells + rm.cells) (slots + rm.slots) → Q v T'.heap L → s.Since T'.vm k1 → k1 ≤ T'.heap.size → Z.Warmed39 T'.vm → T'.vm.findClass own = some m.cls → Goes p e below K T' (mkF m pc' Ls (v.toList ++ rest))) : Goes p e below K T (mkF m pc Ls st) := by
  subst hp
  have hZ' : Z.Warmed39 (s.setVm vm0).vm := hZ
  obtain ⟨v, _, ⟨T1, L1, k1, n1⟩, -, X1, h2, g2, ⟨L, hQ, l1, y1, z1⟩, f1⟩ := callSS X hx (y := y) hown (mvT hZ' w1) (mvT hZ' w2) (mvT hZ' w3) (mvT hZ' w4) hy (backOfS (W := (rest.map fun v => v.category).sum) C hZ' w4 w3 hf hl) (g := mkF m pc Ls st) rfl hsz (argsL := argsL) (rest := rest) hlen hst (by show 2 * 0 + _ ≤ _; omega) hd (fun _ _ => ⟨has, eT, hc, hsl⟩)
  dsimp only [Pt.U, Pt.locs, Pt.cells, Pt.slots] at X1 l1 y1 z1 f1 hQ h2 g2
  subst l1 y1 z1
  obtain ⟨X2, S2, Z2, o2⟩ := rebS hS (by rw [eT]; exact hk) X1 h2 g2 hZ hown
  exact Goes.by' (fun _ q => f1.trans q) (k T1 v L _ X2 hQ S2 (Nat.le_refl _) Z2 o2)
theorem g_callIW {vm0 : Vm} {k0 : Nat} (X : Stand p l e R (s.setVm vm0) m args below meth c T locs cells slots) (hx : p.tables.exec = Jvm.exec) (hZ : Z.Warmed39 vm0) {own : String} {ix : Nat} {y : MethodName} {bytes : ByteArray} {maxL : Nat} {rm : Room} {as' : Array Value} {Q : Option Value → Heap → List Loc → Prop} (hy1 : y.name = "<init>") (hown : vm0.findClass own = some m.cls) (w1 : (Cond.methodLink own ix y).before a0 Z = true) (w2 : (Cond.instanceMethod y).before a0 Z = true) (w3 : (Cond.initialized y.cls).before a0 Z = true) (w4 : (Cond.code y bytes maxL none).before a0 Z = true) (hy : y.cls ≠ "java/lang/invoke/MethodHandle" ∧ y.cls ≠ "java/lang/invoke/VarHandle") (eT : T.heap = h) (hS : s.Since vm0 k0) (hk : k0 ≤ h.size) (C : CtrW l Z y bytes maxL none [] rm rm.cells rm.slots as' h Q) (hsz : Ls.size = c.maxLocals) (a : Addr) (argsL rest : List Value) (has : (.ref a :: argsL).toArray = as') (hlen : ∀ sig, parseMethodDescriptor y.desc = some sig → argsL.length = sig.parameters.length) (hst : st = argsL.reverse ++ .ref a :: rest) (hl : (rest.map fun v => v.category).sum + (maxL + 11) + rm.locals ≤ R.locals) (hf : rm.frames + 1 ≤ R.frames) (hc : cells + rm.cells ≤ R.cells) (hsl : slots + rm.slots ≤ R.slots) (hd : decode c.code pc = .ok (.invokespecial ix, 3)) (hp : pc + 3 = pc') (k : ∀ (T' : State) (v : Option Value) (L : List Loc) (k1 : Nat), Stand p l e R (s.setVm T'.vm) m args below meth c T' (locs ++ L) (cells + rm.cells) (slots + rm.slots) → Q v T'.heap L → s.Since T'.vm k1 → k1 ≤ T'.heap.size → Z.Warmed39 T'.vm → T'.vm.findClass own = some m.cls → Goes p e below K T' (mkF m pc' Ls (v.toList ++ rest))) : Goes p e below K T (mkF m pc Ls st) := by
  subst hp
  have hZ' : Z.Warmed39 (s.setVm vm0).vm := hZ
  obtain ⟨v, _, ⟨T1, L1, k1, n1⟩, -, X1, h2, g2, ⟨L, hQ, l1, y1, z1⟩, f1⟩ := X.specialBackS hx (y := y) hy1 hown (mvT hZ' w1) (mvT hZ' w2) (mvT hZ' w4) hy (backOfS (W := (rest.map fun v => v.category).sum) C hZ' w4 w3 hf hl) (g := mkF m pc Ls st) rfl hsz (Steps.refl _) (a := a) (argsL := argsL) (rest := rest) hlen hst (by show 2 * 0 + _ ≤ _; omega) hd (fun _ _ => ⟨has, eT, hc, hsl⟩)
  dsimp only [Pt.U, Pt.locs, Pt.cells, Pt.slots] at X1 l1 y1 z1 f1 hQ h2 g2
  subst l1 y1 z1
  obtain ⟨X2, S2, Z2, o2⟩ := rebS hS (by rw [eT]; exact hk) X1 h2 g2 hZ hown
  exact Goes.by' (fun _ q => f1.trans q) (k T1 v L _ X2 hQ S2 (Nat.le_refl _) Z2 o2)
theorem g_callVW {vm0 : Vm} {k0 : Nat} (X : Stand p l e R (s.setVm vm0) m args below meth c T locs cells slots) (hx : p.tables.exec = Jvm.exec) (hZ : Z.Warmed39 vm0) {own : String} {ix : Nat} {y : MethodName} {bytes : ByteArray} {maxL : Nat} {ret : Option FieldType} {rm : Room} {as' : Array Value} {Q : Option Value → Heap → List Loc → Prop} {C0 : String} (hown : vm0.findClass own = some m.cls) (w1 : (Cond.methodLink own ix y).before a0 Z = true) (w2 : (Cond.declares y).before a0 Z = true) (w5 : (Cond.selects C0 y y).before a0 Z = true) (w6 : (Cond.instanceMethod y).before a0 Z = true) (w3 : (Cond.initialized y.cls).before a0 Z = true) (w4 : (Cond.code y bytes maxL ret).before a0 Z = true) (hy : y.cls ≠ "java/lang/invoke/MethodHandle" ∧ y.cls ≠ "java/lang/invoke/VarHandle") (eT : T.heap = h) (hS : s.Since vm0 k0) (hk : k0 ≤ h.size) (a : Addr) (E : Exa Z h a C0) (C : CtrW l Z y bytes maxL ret [] rm rm.cells rm.slots as' h Q) (hsz : Ls.size = c.maxLocals) (argsL rest : List Value) (has : (.ref a :: argsL).toArray = as') (hlen : ∀ sig, parseMethodDescriptor y.desc = some sig → argsL.length = sig.parameters.length) (hst : st = argsL.reverse ++ .ref a :: rest) (hl : (rest.map fun v => v.category).sum + (maxL + 11) + rm.locals ≤ R.locals) (hf : rm.frames + 1 ≤ R.frames) (hc : cells + rm.cells ≤ R.cells) (hsl : slots + rm.slots ≤ R.slots) (hd : decode c.code pc = .ok (.invokevirtual ix, 3)) (hp : pc + 3 = pc') (k : ∀ (T' : State) (v : Option Value) (L : List Loc) (k1 : Nat), Stand p l e R (s.setVm T'.vm) m args below meth c T' (locs ++ L) (cells + rm.cells) (slots + rm.slots) → Q v T'.heap L → s.Since T'.vm k1 → k1 ≤ T'.heap.size → Z.Warmed39 T'.vm → T'.vm.findClass own = some m.cls → Goes p e below K T' (mkF m pc' Ls (v.toList ++ rest))) : Goes p e below K T (mkF m pc Ls st) := by
  subst hp
  have hZ' : Z.Warmed39 (s.setVm vm0).vm := hZ
  obtain ⟨cq, kq, qa, qb, qc⟩ := isOf hZ' eT E
  obtain ⟨v, _, ⟨T1, L1, k1, n1⟩, -, X1, h2, g2, ⟨L, hQ, l1, y1, z1⟩, f1⟩ := X.virtualBackS hx (y := y) (z := y) hown (mvT hZ' w1) (mvT hZ' w2) (notFace_of_selects (args := #[]) (mvT hZ' w5)) (mvT hZ' w5) (mvT hZ' w6) hy (backOfS (W := (rest.map fun v => v.category).sum) C hZ' w4 w3 hf hl) qa qc (g := mkF m pc Ls st) rfl hsz (Steps.refl _) (argsL := argsL) (rest := rest) hlen hst (by show 2 * 0 + _ ≤ _; omega) hd (fun _ _ => ⟨has, eT, hc, hsl⟩)
  dsimp only [Pt.U, Pt.locs, Pt.cells, Pt.slots] at X1 l1 y1 z1 f1 hQ h2 g2
  subst l1 y1 z1
  obtain ⟨X2, S2, Z2, o2⟩ := rebS hS (by rw [eT]; exact hk) X1 h2 g2 hZ hown
  exact Goes.by' (fun _ q => f1.trans q) (k T1 v L _ X2 hQ S2 (Nat.le_refl _) Z2 o2)
theorem g_retAW {vm0 : Vm} (X : Stand p l e R (s.setVm vm0) m args below meth c T locs cells slots) (hx : p.tables.exec = Jvm.exec) {C S : Nat} {Q : Option Value → Heap → List Loc → Prop} {v : Value} {t : FieldType} (hv : v.isRef = true) (ht : t.isReference = true) (hlk : meth.locks = false) (hret : meth.sig.returnType = some t) (eT : T.heap = h) {k0 : Nat} (hS : s.Since vm0 k0) (hk : k0 ≤ h.size) (hc : cells ≤ C) (hs : slots ≤ S) (hd : decode c.code pc = .ok (.areturn, 1)) (hQ : Q (some v) h locs) : Goes p e below (KW s C S Q) T (mkF m pc Ls (v :: st)) := by
  subst eT
  obtain ⟨fs, hr, hrun, hended, q1, q2, q3, q4⟩ := X.leaveW hS hk (v := some v) (fun q => by rw [hret] at q; cases q) hlk
  have hn : narrow t v = v := by cases v <;> simp [Value.isRef] at hv <;> cases t <;> simp [FieldType.isReference] at ht <;> rfl
  exact ⟨_, _, retOut X hx hret hn (Or.inr (Or.inr (Or.inr (Or.inr ⟨rfl, ht, hv⟩)))) hd hr, hrun, hended, _, _, rfl, hQ, q1, q2, q3, q4.mono hc hs⟩
theorem g_retW {vm0 : Vm} (X : Stand p l e R (s.setVm vm0) m args below meth c T locs cells slots) (hx : p.tables.exec = Jvm.exec) {C S : Nat} {Q : Option Value → Heap → List Loc → Prop} (hlk : meth.locks = false) (hret : meth.sig.returnType = none) (eT : T.heap = h) {k0 : Nat} (hS : s.Since vm0 k0) (hk : k0 ≤ h.size) (hc : cells ≤ C) (hs : slots ≤ S) (hd : decode c.code pc = .ok (.return_, 1)) (hQ : Q none h locs) : Goes p e below (KW s C S Q) T (mkF m pc Ls []) := by
  subst eT
  obtain ⟨fs, hr, hrun, hended, q1, q2, q3, q4⟩ := X.leaveW hS hk (v := none) (fun _ => rfl) hlk
  exact ⟨_, _, X.returnOut hx hret hd hr, hrun, hended, _, _, rfl, hQ, q1, q2, q3, q4.mono hc hs⟩
theorem own_ib {vm : Vm} (q : vm.interned = Z.vm.interned) : IB Z vm [] := ⟨#[], by simp [q], fun x hx => by simp at hx⟩
end OwnW
theorem own_fin {P : Int32 → Prop} (N : Nat) (hN : N ≤ 2 ^ 31) (hP : ∀ n : Fin N, P (Int32.ofNat n.val)) (d : Int32) (h0 : 0 ≤ d.toInt) (h1 : d.toInt < (N : Int)) : P d := by
  have e : d = Int32.ofNat d.toInt.toNat := by
    apply Int32.toInt_inj.mp
    rw [Int32.toInt_ofNat_of_lt (by omega)]
    omega
  rw [e]
  exact hP ⟨d.toInt.toNat, by omega⟩
theorem own_ltI {x y : Int32} : x < y ↔ x.toInt < y.toInt := Int32.lt_iff_toInt_lt
theorem own_nneg {i : Int32} (h : 0 ≤ i.toInt) : ¬ i < 0 := by rw [own_ltI, show (0 : Int32).toInt = 0 from rfl]; omega
theorem own_tnc (i : Int32) : i.toNatClampNeg = i.toInt.toNat := rfl
theorem own_inc {i : Int32} (h : i.toInt < 2147483647) : (i + 1).toInt = i.toInt + 1 := by
  have e := c_iadd i 1
  have r := rng32 (i + 1)
  have r2 := rng32 i
  rw [show (1 : Int32).toInt = 1 from rfl] at e
  omega
theorem own_rem (a m : Int32) (hm : 0 < m.toInt) : 0 ≤ ((a &&& 2147483647) % m).toInt ∧ ((a &&& 2147483647) % m).toInt < m.toInt := by
  have e1 := c_mask a 2147483647 31 (by decide) (by decide)
  have e2 := (c_iremV (a &&& 2147483647) m).1 (by rw [e1]; omega) hm
  exact ⟨e2.1, e2.2.1⟩
theorem cm_lt (x y : Int64) : XT.cmpL x y < 0 ↔ x < y := by unfold XT.cmpL; split <;> (try split) <;> simp_all [Int64.lt_iff_toInt_lt, ← Int64.toInt_inj] <;> omega
theorem cm_gt (x y : Int64) : 0 < XT.cmpL x y ↔ y < x := by unfold XT.cmpL; split <;> (try split) <;> simp_all [Int64.lt_iff_toInt_lt, ← Int64.toInt_inj] <;> omega
theorem cm_eq (x y : Int64) : XT.cmpL x y = 0 ↔ x = y := by unfold XT.cmpL; split <;> (try split) <;> simp_all [Int64.lt_iff_toInt_lt, ← Int64.toInt_inj] <;> omega
theorem own_b1 {P : Prop} [Decidable P] (q : P) : some (Value.int (nar .boolean 1)) = some (.int (if P then 1 else 0)) := by rw [if_pos q]; rfl
theorem own_b0 {P : Prop} [Decidable P] (q : ¬ P) : some (Value.int (nar .boolean 0)) = some (.int (if P then 1 else 0)) := by rw [if_neg q]; rfl
theorem d1_0 : decode method_2_code 0 = .ok (.iload_n 0, 1) := by decide +kernel
theorem d1_1 : decode method_2_code 1 = .ok (.bipush 24, 2) := by decide +kernel
theorem d1_3 : decode method_2_code 3 = .ok (.iushr, 1) := by decide +kernel
theorem d1_4 : decode method_2_code 4 = .ok (.sipush 255, 3) := by decide +kernel
theorem d1_7 : decode method_2_code 7 = .ok (.iand, 1) := by decide +kernel
theorem d1_8 : decode method_2_code 8 = .ok (.istore_n 1, 1) := by decide +kernel
theorem d1_9 : decode method_2_code 9 = .ok (.iload_n 0, 1) := by decide +kernel
theorem d1_10 : decode method_2_code 10 = .ok (.bipush 16, 2) := by decide +kernel
theorem d1_12 : decode method_2_code 12 = .ok (.iushr, 1) := by decide +kernel
theorem d1_13 : decode method_2_code 13 = .ok (.sipush 255, 3) := by decide +kernel
theorem d1_16 : decode method_2_code 16 = .ok (.iand, 1) := by decide +kernel
theorem d1_17 : decode method_2_code 17 = .ok (.istore_n 2, 1) := by decide +kernel
theorem d1_18 : decode method_2_code 18 = .ok (.iload_n 0, 1) := by decide +kernel
theorem d1_19 : decode method_2_code 19 = .ok (.bipush 8, 2) := by decide +kernel
theorem d1_21 : decode method_2_code 21 = .ok (.iushr, 1) := by decide +kernel
theorem d1_22 : decode method_2_code 22 = .ok (.sipush 255, 3) := by decide +kernel
theorem d1_25 : decode method_2_code 25 = .ok (.iand, 1) := by decide +kernel
theorem d1_26 : decode method_2_code 26 = .ok (.istore_n 3, 1) := by decide +kernel
theorem d1_27 : decode method_2_code 27 = .ok (.iload_n 0, 1) := by decide +kernel
theorem d1_28 : decode method_2_code 28 = .ok (.sipush 255, 3) := by decide +kernel
theorem d1_31 : decode method_2_code 31 = .ok (.iand, 1) := by decide +kernel
theorem d1_32 : decode method_2_code 32 = .ok (.istore 4, 2) := by decide +kernel
theorem d1_34 : decode method_2_code 34 = .ok (.new 7, 3) := by decide +kernel
theorem d1_37 : decode method_2_code 37 = .ok (.dup, 1) := by decide +kernel
theorem d1_38 : decode method_2_code 38 = .ok (.iload_n 1, 1) := by decide +kernel
theorem d1_39 : decode method_2_code 39 = .ok (.i2d, 1) := by decide +kernel
theorem d1_40 : decode method_2_code 40 = .ok (.ldc2_w 9, 3) := by decide +kernel
theorem d1_43 : decode method_2_code 43 = .ok (.ddiv, 1) := by decide +kernel
theorem d1_44 : decode method_2_code 44 = .ok (.iload_n 2, 1) := by decide +kernel
theorem d1_45 : decode method_2_code 45 = .ok (.i2d, 1) := by decide +kernel
theorem d1_46 : decode method_2_code 46 = .ok (.ldc2_w 9, 3) := by decide +kernel
theorem d1_49 : decode method_2_code 49 = .ok (.ddiv, 1) := by decide +kernel
theorem d1_50 : decode method_2_code 50 = .ok (.iload_n 3, 1) := by decide +kernel
theorem d1_51 : decode method_2_code 51 = .ok (.i2d, 1) := by decide +kernel
theorem d1_52 : decode method_2_code 52 = .ok (.ldc2_w 9, 3) := by decide +kernel
theorem d1_55 : decode method_2_code 55 = .ok (.ddiv, 1) := by decide +kernel
theorem d1_56 : decode method_2_code 56 = .ok (.iload 4, 2) := by decide +kernel
theorem d1_58 : decode method_2_code 58 = .ok (.i2d, 1) := by decide +kernel
theorem d1_59 : decode method_2_code 59 = .ok (.ldc2_w 9, 3) := by decide +kernel
theorem d1_62 : decode method_2_code 62 = .ok (.ddiv, 1) := by decide +kernel
theorem d1_63 : decode method_2_code 63 = .ok (.invokespecial 11, 3) := by decide +kernel
theorem d1_66 : decode method_2_code 66 = .ok (.areturn, 1) := by decide +kernel
theorem d2_0 : decode prog_16_method_1_code 0 = .ok (.aload_n 0, 1) := by decide +kernel
theorem d2_1 : decode prog_16_method_1_code 1 = .ok (.invokespecial 1, 3) := by decide +kernel
theorem d2_4 : decode prog_16_method_1_code 4 = .ok (.aload_n 0, 1) := by decide +kernel
theorem d2_5 : decode prog_16_method_1_code 5 = .ok (.ldc 7, 2) := by decide +kernel
theorem d2_7 : decode prog_16_method_1_code 7 = .ok (.dload_n 1, 1) := by decide +kernel
theorem d2_8 : decode prog_16_method_1_code 8 = .ok (.invokestatic 9, 3) := by decide +kernel
theorem d2_11 : decode prog_16_method_1_code 11 = .ok (.invokestatic 15, 3) := by decide +kernel
theorem d2_14 : decode prog_16_method_1_code 14 = .ok (.putfield 19, 3) := by decide +kernel
theorem d2_17 : decode prog_16_method_1_code 17 = .ok (.aload_n 0, 1) := by decide +kernel
theorem d2_18 : decode prog_16_method_1_code 18 = .ok (.ldc 22, 2) := by decide +kernel
theorem d2_20 : decode prog_16_method_1_code 20 = .ok (.dload_n 3, 1) := by decide +kernel
theorem d2_21 : decode prog_16_method_1_code 21 = .ok (.invokestatic 9, 3) := by decide +kernel
theorem d2_24 : decode prog_16_method_1_code 24 = .ok (.invokestatic 15, 3) := by decide +kernel
theorem d2_27 : decode prog_16_method_1_code 27 = .ok (.putfield 24, 3) := by decide +kernel
theorem d2_30 : decode prog_16_method_1_code 30 = .ok (.aload_n 0, 1) := by decide +kernel
theorem d2_31 : decode prog_16_method_1_code 31 = .ok (.ldc 26, 2) := by decide +kernel
theorem d2_33 : decode prog_16_method_1_code 33 = .ok (.dload 5, 2) := by decide +kernel
theorem d2_35 : decode prog_16_method_1_code 35 = .ok (.invokestatic 9, 3) := by decide +kernel
theorem d2_38 : decode prog_16_method_1_code 38 = .ok (.invokestatic 15, 3) := by decide +kernel
theorem d2_41 : decode prog_16_method_1_code 41 = .ok (.putfield 28, 3) := by decide +kernel
theorem d2_44 : decode prog_16_method_1_code 44 = .ok (.aload_n 0, 1) := by decide +kernel
theorem d2_45 : decode prog_16_method_1_code 45 = .ok (.ldc 30, 2) := by decide +kernel
theorem d2_47 : decode prog_16_method_1_code 47 = .ok (.dload 7, 2) := by decide +kernel
theorem d2_49 : decode prog_16_method_1_code 49 = .ok (.invokestatic 9, 3) := by decide +kernel
theorem d2_52 : decode prog_16_method_1_code 52 = .ok (.invokestatic 15, 3) := by decide +kernel
theorem d2_55 : decode prog_16_method_1_code 55 = .ok (.putfield 32, 3) := by decide +kernel
theorem d2_58 : decode prog_16_method_1_code 58 = .ok (.return_, 1) := by decide +kernel
theorem d4_0 : decode prog_16_method_36_code 0 = .ok (.dload_n 1, 1) := by decide +kernel
theorem d4_1 : decode prog_16_method_36_code 1 = .ok (.dconst 0, 1) := by decide +kernel
theorem d4_2 : decode prog_16_method_36_code 2 = .ok (.dcmp .l, 1) := by decide +kernel
theorem d4_3 : decode prog_16_method_36_code 3 = .ok (.ifCond .lt 9, 3) := by decide +kernel
theorem d4_6 : decode prog_16_method_36_code 6 = .ok (.dload_n 1, 1) := by decide +kernel
theorem d4_7 : decode prog_16_method_36_code 7 = .ok (.dconst 1, 1) := by decide +kernel
theorem d4_8 : decode prog_16_method_36_code 8 = .ok (.dcmp .g, 1) := by decide +kernel
theorem d4_9 : decode prog_16_method_36_code 9 = .ok (.ifCond .le 18, 3) := by decide +kernel
theorem d4_27 : decode prog_16_method_36_code 27 = .ok (.dload_n 1, 1) := by decide +kernel
theorem d4_28 : decode prog_16_method_36_code 28 = .ok (.dreturn, 1) := by decide +kernel
theorem d5_0 : decode prog_16_method_37_code 0 = .ok (.dload_n 0, 1) := by decide +kernel
theorem d5_1 : decode prog_16_method_37_code 1 = .ok (.d2f, 1) := by decide +kernel
theorem d5_2 : decode prog_16_method_37_code 2 = .ok (.f2d, 1) := by decide +kernel
theorem d5_3 : decode prog_16_method_37_code 3 = .ok (.dconst 0, 1) := by decide +kernel
theorem d5_4 : decode prog_16_method_37_code 4 = .ok (.dadd, 1) := by decide +kernel
theorem d5_5 : decode prog_16_method_37_code 5 = .ok (.dreturn, 1) := by decide +kernel
theorem d6_0 : decode prog_16_method_33_code 0 = .ok (.aload_n 1, 1) := by decide +kernel
theorem d6_1 : decode prog_16_method_33_code 1 = .ok (.instanceof 10, 3) := by decide +kernel
theorem d6_4 : decode prog_16_method_33_code 4 = .ok (.ifCond .eq 60, 3) := by decide +kernel
theorem d6_7 : decode prog_16_method_33_code 7 = .ok (.aload_n 1, 1) := by decide +kernel
theorem d6_8 : decode prog_16_method_33_code 8 = .ok (.checkcast 10, 3) := by decide +kernel
theorem d6_11 : decode prog_16_method_33_code 11 = .ok (.astore_n 2, 1) := by decide +kernel
theorem d6_12 : decode prog_16_method_33_code 12 = .ok (.aload_n 0, 1) := by decide +kernel
theorem d6_13 : decode prog_16_method_33_code 13 = .ok (.getfield 19, 3) := by decide +kernel
theorem d6_16 : decode prog_16_method_33_code 16 = .ok (.aload_n 2, 1) := by decide +kernel
theorem d6_17 : decode prog_16_method_33_code 17 = .ok (.getfield 19, 3) := by decide +kernel
theorem d6_20 : decode prog_16_method_33_code 20 = .ok (.dcmp .l, 1) := by decide +kernel
theorem d6_21 : decode prog_16_method_33_code 21 = .ok (.ifCond .ne 43, 3) := by decide +kernel
theorem d6_24 : decode prog_16_method_33_code 24 = .ok (.aload_n 0, 1) := by decide +kernel
theorem d6_25 : decode prog_16_method_33_code 25 = .ok (.getfield 24, 3) := by decide +kernel
theorem d6_28 : decode prog_16_method_33_code 28 = .ok (.aload_n 2, 1) := by decide +kernel
theorem d6_29 : decode prog_16_method_33_code 29 = .ok (.getfield 24, 3) := by decide +kernel
theorem d6_32 : decode prog_16_method_33_code 32 = .ok (.dcmp .l, 1) := by decide +kernel
theorem d6_33 : decode prog_16_method_33_code 33 = .ok (.ifCond .ne 31, 3) := by decide +kernel
theorem d6_36 : decode prog_16_method_33_code 36 = .ok (.aload_n 0, 1) := by decide +kernel
theorem d6_37 : decode prog_16_method_33_code 37 = .ok (.getfield 28, 3) := by decide +kernel
theorem d6_40 : decode prog_16_method_33_code 40 = .ok (.aload_n 2, 1) := by decide +kernel
theorem d6_41 : decode prog_16_method_33_code 41 = .ok (.getfield 28, 3) := by decide +kernel
theorem d6_44 : decode prog_16_method_33_code 44 = .ok (.dcmp .l, 1) := by decide +kernel
theorem d6_45 : decode prog_16_method_33_code 45 = .ok (.ifCond .ne 19, 3) := by decide +kernel
theorem d6_48 : decode prog_16_method_33_code 48 = .ok (.aload_n 0, 1) := by decide +kernel
theorem d6_49 : decode prog_16_method_33_code 49 = .ok (.getfield 32, 3) := by decide +kernel
theorem d6_52 : decode prog_16_method_33_code 52 = .ok (.aload_n 2, 1) := by decide +kernel
theorem d6_53 : decode prog_16_method_33_code 53 = .ok (.getfield 32, 3) := by decide +kernel
theorem d6_56 : decode prog_16_method_33_code 56 = .ok (.dcmp .l, 1) := by decide +kernel
theorem d6_57 : decode prog_16_method_33_code 57 = .ok (.ifCond .ne 7, 3) := by decide +kernel
theorem d6_60 : decode prog_16_method_33_code 60 = .ok (.iconst 1, 1) := by decide +kernel
theorem d6_61 : decode prog_16_method_33_code 61 = .ok (.goto 4, 3) := by decide +kernel
theorem d6_64 : decode prog_16_method_33_code 64 = .ok (.iconst 0, 1) := by decide +kernel
theorem d6_65 : decode prog_16_method_33_code 65 = .ok (.ireturn, 1) := by decide +kernel
theorem d7_0 : decode jdk_33_method_22_code 0 = .ok (.iload_n 0, 1) := by decide +kernel
theorem d7_1 : decode jdk_33_method_22_code 1 = .ok (.bipush (-128), 2) := by decide +kernel
theorem d7_3 : decode jdk_33_method_22_code 3 = .ok (.if_icmp .lt 20, 3) := by decide +kernel
theorem d7_6 : decode jdk_33_method_22_code 6 = .ok (.iload_n 0, 1) := by decide +kernel
theorem d7_7 : decode jdk_33_method_22_code 7 = .ok (.getstatic 191, 3) := by decide +kernel
theorem d7_10 : decode jdk_33_method_22_code 10 = .ok (.if_icmp .gt 13, 3) := by decide +kernel
theorem d7_13 : decode jdk_33_method_22_code 13 = .ok (.getstatic 195, 3) := by decide +kernel
theorem d7_16 : decode jdk_33_method_22_code 16 = .ok (.iload_n 0, 1) := by decide +kernel
theorem d7_17 : decode jdk_33_method_22_code 17 = .ok (.sipush 128, 3) := by decide +kernel
theorem d7_20 : decode jdk_33_method_22_code 20 = .ok (.iadd, 1) := by decide +kernel
theorem d7_21 : decode jdk_33_method_22_code 21 = .ok (.aaload, 1) := by decide +kernel
theorem d7_22 : decode jdk_33_method_22_code 22 = .ok (.areturn, 1) := by decide +kernel
theorem d7_23 : decode jdk_33_method_22_code 23 = .ok (.new 1, 3) := by decide +kernel
theorem d7_26 : decode jdk_33_method_22_code 26 = .ok (.dup, 1) := by decide +kernel
theorem d7_27 : decode jdk_33_method_22_code 27 = .ok (.iload_n 0, 1) := by decide +kernel
theorem d7_28 : decode jdk_33_method_22_code 28 = .ok (.invokespecial 199, 3) := by decide +kernel
theorem d7_31 : decode jdk_33_method_22_code 31 = .ok (.areturn, 1) := by decide +kernel
theorem d8_0 : decode jdk_33_method_23_code 0 = .ok (.aload_n 0, 1) := by decide +kernel
theorem d8_1 : decode jdk_33_method_23_code 1 = .ok (.invokespecial 202, 3) := by decide +kernel
theorem d8_4 : decode jdk_33_method_23_code 4 = .ok (.aload_n 0, 1) := by decide +kernel
theorem d8_5 : decode jdk_33_method_23_code 5 = .ok (.iload_n 1, 1) := by decide +kernel
theorem d8_6 : decode jdk_33_method_23_code 6 = .ok (.putfield 205, 3) := by decide +kernel
theorem d8_9 : decode jdk_33_method_23_code 9 = .ok (.return_, 1) := by decide +kernel
theorem d9_0 : decode jdk_18_method_1_code 0 = .ok (.aload_n 0, 1) := by decide +kernel
theorem d9_1 : decode jdk_18_method_1_code 1 = .ok (.invokespecial 1, 3) := by decide +kernel
theorem d9_4 : decode jdk_18_method_1_code 4 = .ok (.return_, 1) := by decide +kernel
theorem own_wS {a0 : Array Value} {Z : State} (hw : ∀ d ∈ tables_1, d.before a0 Z = true) : ∀ a ∈ Bundle.stringAtoms, a.before a0 Z = true := by
  intro a ha
  simp only [Bundle.stringAtoms, List.mem_cons, List.not_mem_nil, or_false] at ha
  rcases ha with rfl | rfl | rfl | rfl | rfl | rfl | rfl
  · exact wd hw 15 rfl
  · exact wd hw 16 rfl
  · exact wd hw 17 rfl
  · exact wd hw 18 rfl
  · exact wd hw 19 rfl
  · exact wd hw 20 rfl
  · exact wd hw 21 rfl
def own_q (r : Int32) : UInt64 := FP.ddiv (FP.i2d r) (4643176031446892544 : UInt64)
def own_nf (x : UInt64) : UInt64 := FP.dadd (FP.f2d (FP.d2f x)) 0
def own_c (r : Int32) : UInt64 := own_nf (own_q r)
def own_nn (x : UInt64) : Prop := x &&& 0x7fffffffffffffff ≤ 0x7ff0000000000000
def own_ok (x : UInt64) : Prop := ¬ cmpValue (FP.dcmp x 0) .l < 0 ∧ ¬ 0 < cmpValue (FP.dcmp x 4607182418800017408) .g ∧ FP.d2f x &&& 0x7fffffff ≤ 0x7f800000 ∧ FP.f2d (FP.d2f x) &&& 0x7fffffffffffffff ≤ 0x7ff0000000000000 ∧ own_nn (own_nf x)
instance (x : UInt64) : Decidable (own_nn x) := by unfold own_nn; infer_instance
instance (x : UInt64) : Decidable (own_ok x) := by unfold own_ok; infer_instance
set_option maxRecDepth 100000 in
theorem own_okr (r : Int32) (h0 : 0 ≤ r.toInt) (h1 : r.toInt < 256) : own_nn (own_q r) ∧ own_ok (own_q r) :=
  own_fin (P := fun r => own_nn (own_q r) ∧ own_ok (own_q r)) 256 (by decide) (by decide +kernel) r h0 h1
def own_tab : List UInt64 := [0, 4571171283223445504, 4575674882850816000, 4577935513117261824, 4580178482478186496, 4581308797611409408, 4582439112744632320, 4583569427877855232, 4584682082105556992, 4585247239672168448, 4585812397238779904, 4586377554805391360, 4586942712372002816, 4587507869938614272, 4588073027505225728, 4588638185071837184, 4589185681732927488, 4589468260516233216, 4589750839299538944, 4590033418082844672, 4590315996866150400, 4590598575649456128, 4590881154432761856, 4591163733216067584, 4591446311999373312, 4591728890782679040, 4592011469565984768, 4592294048349290496, 4592576627132596224, 4592859205915901952, 4593141784699207680, 4593424363482513408, 4593689281360297984, 4593830570751950848, 4593971860143603712, 4594113149535256576, 4594254438926909440, 4594395728318562304, 4594537017710215168, 4594678307101868032, 4594819596493520896, 4594960885885173760, 4595102175276826624, 4595243464668479488, 4595384754060132352, 4595526043451785216, 4595667332843438080, 4595808622235090944, 4595949911626743808, 4596091201018396672, 4596232490410049536, 4596373779801702400, 4596515069193355264, 4596656358585008128, 4596797647976660992, 4596938937368313856, 4597080226759966720, 4597221516151619584, 4597362805543272448, 4597504094934925312, 4597645384326578176, 4597786673718231040, 4597927963109883904, 4598069252501536768, 4598192880987668480, 4598263525683494912, 4598334170379321344, 4598404815075147776, 4598475459770974208, 4598546104466800640, 4598616749162627072, 4598687393858453504, 4598758038554279936, 4598828683250106368, 4598899327945932800, 4598969972641759232, 4599040617337585664, 4599111262033412096, 4599181906729238528, 4599252551425064960, 4599323196120891392, 4599393840816717824, 4599464485512544256, 4599535130208370688, 4599605774904197120, 4599676419600023552, 4599747064295849984, 4599817708991676416, 4599888353687502848, 4599958998383329280, 4600029643079155712, 4600100287774982144, 4600170932470808576, 4600241577166635008, 4600312221862461440, 4600382866558287872, 4600453511254114304, 4600524155949940736, 4600594800645767168, 4600665445341593600, 4600736090037420032, 4600806734733246464, 4600877379429072896, 4600948024124899328, 4601018668820725760, 4601089313516552192, 4601159958212378624, 4601230602908205056, 4601301247604031488, 4601371892299857920, 4601442536995684352, 4601513181691510784, 4601583826387337216, 4601654471083163648, 4601725115778990080, 4601795760474816512, 4601866405170642944, 4601937049866469376, 4602007694562295808, 4602078339258122240, 4602148983953948672, 4602219628649775104, 4602290273345601536, 4602360918041427968, 4602431562737254400, 4602502207433080832, 4602572852128907264, 4602643496824733696, 4602696480615038976, 4602731802962952192, 4602767125310865408, 4602802447658778624, 4602837770006691840, 4602873092354605056, 4602908414702518272, 4602943737050431488, 4602979059398344704, 4603014381746257920, 4603049704094171136, 4603085026442084352, 4603120348789997568, 4603155671137910784, 4603190993485824000, 4603226315833737216, 4603261638181650432, 4603296960529563648, 4603332282877476864, 4603367605225390080, 4603402927573303296, 4603438249921216512, 4603473572269129728, 4603508894617042944, 4603544216964956160, 4603579539312869376, 4603614861660782592, 4603650184008695808, 4603685506356609024, 4603720828704522240, 4603756151052435456, 4603791473400348672, 4603826795748261888, 4603862118096175104, 4603897440444088320, 4603932762792001536, 4603968085139914752, 4604003407487827968, 4604038729835741184, 4604074052183654400, 4604109374531567616, 4604144696879480832, 4604180019227394048, 4604215341575307264, 4604250663923220480, 4604285986271133696, 4604321308619046912, 4604356630966960128, 4604391953314873344, 4604427275662786560, 4604462598010699776, 4604497920358612992, 4604533242706526208, 4604568565054439424, 4604603887402352640, 4604639209750265856, 4604674532098179072, 4604709854446092288, 4604745176794005504, 4604780499141918720, 4604815821489831936, 4604851143837745152, 4604886466185658368, 4604921788533571584, 4604957110881484800, 4604992433229398016, 4605027755577311232, 4605063077925224448, 4605098400273137664, 4605133722621050880, 4605169044968964096, 4605204367316877312, 4605239689664790528, 4605275012012703744, 4605310334360616960, 4605345656708530176, 4605380979056443392, 4605416301404356608, 4605451623752269824, 4605486946100183040, 4605522268448096256, 4605557590796009472, 4605592913143922688, 4605628235491835904, 4605663557839749120, 4605698880187662336, 4605734202535575552, 4605769524883488768, 4605804847231401984, 4605840169579315200, 4605875491927228416, 4605910814275141632, 4605946136623054848, 4605981458970968064, 4606016781318881280, 4606052103666794496, 4606087426014707712, 4606122748362620928, 4606158070710534144, 4606193393058447360, 4606228715406360576, 4606264037754273792, 4606299360102187008, 4606334682450100224, 4606370004798013440, 4606405327145926656, 4606440649493839872, 4606475971841753088, 4606511294189666304, 4606546616537579520, 4606581938885492736, 4606617261233405952, 4606652583581319168, 4606687905929232384, 4606723228277145600, 4606758550625058816, 4606793872972972032, 4606829195320885248, 4606864517668798464, 4606899840016711680, 4606935162364624896, 4606970484712538112, 4607005807060451328, 4607041129408364544, 4607076451756277760, 4607111774104190976, 4607147096452104192, 4607182418800017408]
set_option maxRecDepth 100000 in
theorem own_tabeq : ∀ i : Fin 256, own_c (Int32.ofNat i.val) = own_tab.getD i.val 0 := by decide +kernel
def own_chk : List UInt64 → Bool
  | [] => true
  | x :: xs => xs.all (fun y => FP.dcmp x y == some .lt && FP.dcmp y x == some .gt) && own_chk xs
set_option maxRecDepth 100000 in
theorem own_chkd : own_chk own_tab = true := by decide +kernel
theorem own_chks : ∀ (l : List UInt64), own_chk l = true → ∀ i j, i < j → j < l.length → FP.dcmp (l.getD i 0) (l.getD j 0) = some .lt ∧ FP.dcmp (l.getD j 0) (l.getD i 0) = some .gt
  | [], _, _, _, _, h => absurd h (Nat.not_lt_zero _)
  | x :: xs, h, i, j, hij, hj => by
    simp only [own_chk, Bool.and_eq_true] at h
    obtain ⟨j, rfl⟩ : ∃ k, j = k + 1 := ⟨j - 1, by omega⟩
    have hj' : j < xs.length := by simpa using hj
    cases i with
    | zero =>
      have q := List.all_eq_true.mp h.1 (xs.getD j 0) (by rw [List.getD_eq_getElem?_getD, List.getElem?_eq_getElem hj']; exact List.getElem_mem hj')
      simp only [Bool.and_eq_true, beq_iff_eq] at q
      simpa using q
    | succ i => simpa using own_chks xs h.2 i j (by omega) hj'
theorem own_inj (r s : Int32) (r0 : 0 ≤ r.toInt) (r1 : r.toInt < 256) (s0 : 0 ≤ s.toInt) (s1 : s.toInt < 256) : cmpValue (FP.dcmp (own_c r) (own_c s)) .l = 0 ↔ r = s := by
  refine ⟨fun h => ?_, fun h => ?_⟩
  · have er : r = Int32.ofNat r.toInt.toNat := Int32.toInt_inj.mp (by rw [Int32.toInt_ofNat_of_lt (by omega)]; omega)
    have es : s = Int32.ofNat s.toInt.toNat := Int32.toInt_inj.mp (by rw [Int32.toInt_ofNat_of_lt (by omega)]; omega)
    rw [er, es, own_tabeq ⟨r.toInt.toNat, by omega⟩, own_tabeq ⟨s.toInt.toNat, by omega⟩] at h
    have hl : own_tab.length = 256 := by decide +kernel
    rcases Nat.lt_trichotomy r.toInt.toNat s.toInt.toNat with q | q | q
    · rw [(own_chks own_tab own_chkd _ _ q (by omega)).1] at h; exact absurd h (by decide)
    · exact Int32.toInt_inj.mp (by omega)
    · rw [(own_chks own_tab own_chkd _ _ q (by omega)).2] at h; exact absurd h (by decide)
  · subst h; exact dcmpV_self (own_okr r r0 r1).2.2.2.2.2 .l
theorem own_bytes (p q : Int32) (h1 : XT.ushr p 24 &&& 255 = XT.ushr q 24 &&& 255) (h2 : XT.ushr p 16 &&& 255 = XT.ushr q 16 &&& 255) (h3 : XT.ushr p 8 &&& 255 = XT.ushr q 8 &&& 255) (h4 : p &&& 255 = q &&& 255) : p = q := by
  have m := fun x : Int32 => c_mask x 255 8 (by decide) (by decide)
  have e1 : ∀ x : Int32, (XT.ushr x 24).toInt = (x.toInt % 4294967296) / (2 ^ 24 : Nat) := fun x => c_iushr x 24 24 (by decide) (by decide)
  have e2 : ∀ x : Int32, (XT.ushr x 16).toInt = (x.toInt % 4294967296) / (2 ^ 16 : Nat) := fun x => c_iushr x 16 16 (by decide) (by decide)
  have e3 : ∀ x : Int32, (XT.ushr x 8).toInt = (x.toInt % 4294967296) / (2 ^ 8 : Nat) := fun x => c_iushr x 8 8 (by decide) (by decide)
  have k1 := congrArg Int32.toInt h1
  have k2 := congrArg Int32.toInt h2
  have k3 := congrArg Int32.toInt h3
  have k4 := congrArg Int32.toInt h4
  rw [m, m, e1, e1] at k1
  rw [m, m, e2, e2] at k2
  rw [m, m, e3, e3] at k3
  rw [m, m] at k4
  have r1 := rng32 p
  have r2 := rng32 q
  apply Int32.toInt_inj.mp
  omega
theorem own_b8 (x : Int32) : 0 ≤ (x &&& 255).toInt ∧ (x &&& 255).toInt < 256 := by rw [c_mask x 255 8 (by decide) (by decide)]; omega
def own_same (p q : Int32) : Prop := cmpValue (FP.dcmp (own_c (XT.ushr p 24 &&& 255)) (own_c (XT.ushr q 24 &&& 255))) .l = 0 ∧ cmpValue (FP.dcmp (own_c (XT.ushr p 16 &&& 255)) (own_c (XT.ushr q 16 &&& 255))) .l = 0 ∧ cmpValue (FP.dcmp (own_c (XT.ushr p 8 &&& 255)) (own_c (XT.ushr q 8 &&& 255))) .l = 0 ∧ cmpValue (FP.dcmp (own_c (p &&& 255)) (own_c (q &&& 255))) .l = 0
theorem own_same_iff (p q : Int32) : own_same p q ↔ p = q := by
  have j := fun x y : Int32 => own_inj (x &&& 255) (y &&& 255) (own_b8 x).1 (own_b8 x).2 (own_b8 y).1 (own_b8 y).2
  unfold own_same
  rw [j, j, j, j]
  exact ⟨fun ⟨a, b, d, f⟩ => own_bytes p q a b d f, fun h => by subst h; exact ⟨rfl, rfl, rfl, rfl⟩⟩
theorem own_ext2 {h0 h1 h : Heap} {a : Addr} (E1 : Ext h0 h1) (K : Keep h1 h [a]) (g : a = h0.size) : Ext h0 h :=
  ⟨Nat.le_trans E1.1 K.1, fun x c q => K.2.1 x c (E1.2 x c q) (fun r => by have w := (Array.getElem?_eq_some_iff.mp q).1; rw [List.mem_singleton.mp r, g] at w; exact Nat.lt_irrefl _ w)⟩
theorem own_notC {Z : State} {a0 : Array Value} {n : Nat} (w1 : (Cond.superclass "java/lang/Integer" "java/lang/Number").before a0 Z = true) (w2 : (Cond.superclass "java/lang/Number" "java/lang/Object").before a0 Z = true) (w3 : (Cond.noSuperclass "java/lang/Object").before a0 Z = true) (wi : (Cond.instantiable "com/example/scanstride/scanstride/Color" n).before a0 Z = true) : ∃ c t, Z.vm.findClass "java/lang/Integer" = some c ∧ Z.vm.findClass "com/example/scanstride/scanstride/Color" = some t ∧ Z.vm.assignable c t = false := by
  obtain ⟨t, k', g0, g2, g5, g7, -⟩ := Cond.instantiable_spec wi
  have g7' : k'.isInterface = false := by revert g7; cases k'.isInterface <;> simp
  have nO : NS Z "java/lang/Object" "com/example/scanstride/scanstride/Color" := by
    obtain ⟨c, k, h1, h2, h3, -, -⟩ := Cond.noSuperclass_spec w3
    have ne := ids_ne h1 g0 (by decide)
    refine ⟨c, t, h1, g0, fun fuel => ?_⟩
    cases fuel with
    | zero => rfl
    | succ f => simp [Vm.isSubclassAux, ne, h2, h3]
  have nN := NS.step w2 nO (by decide)
  obtain ⟨c, t', h0, g0', n3⟩ := NS.step w1 nN (by decide)
  cases g0.symm.trans g0'
  obtain ⟨p, k, kp, h1, h2, h3, h4, h5, -, h7⟩ := Cond.superclass_spec h0 w1
  have ne := ids_ne h0 g0 (by decide)
  refine ⟨c, t, h0, g0, ?_⟩
  show Z.vm.assignableAux (255 + 1) c t = false
  simp [Vm.assignableAux, ne, h2, g2, h5, g5, g7', Vm.isSubclass, n3]
theorem own_foldl (f : Nat → Option Bool) : ∀ (l : List Nat) (a : Option Bool), l.foldl (fun acc i => match acc with | some true => f i | x => x) a = some true → a = some true ∧ ∀ i ∈ l, f i = some true
  | [], a, h => ⟨h, fun _ q => nomatch q⟩
  | x :: l, a, h => by
    have k := own_foldl f l _ h
    have ha : a = some true := by
      have k1 := k.1
      revert k1
      rcases a with _ | (_ | _) <;> simp
    subst ha
    exact ⟨rfl, fun i hi => (List.mem_cons.mp hi).elim (fun q => q ▸ k.1) (k.2 i)⟩
theorem ef_rm_num (m : MethodId) (x0 : Addr)  : entryFrame m #[(.ref x0)] 1 = mkF m 0 #[.val (.ref x0)] [] := by first | (simp [entryFrame, mkF, argsToLocals, Value.category]; done) | rfl
theorem pn_1 : plainFor (⟨"java/lang/Number", "<init>", "()V"⟩ : MethodName) = true := by first | exact plainFor_of_name (by first | (simp [plainName, overriddenIn]; done) | decide +kernel) | decide +kernel
set_option maxRecDepth 65536 in
set_option maxHeartbeats 40000000 in
theorem rm_num (l : Launch) (Z : State) (a0 : Array Value) (hw : ∀ d ∈ tables_1, d.before a0 Z = true) (a : Addr) (h0 : Heap) :
    Ctr l Z (⟨"java/lang/Number", "<init>", "()V"⟩ : MethodName) jdk_18_method_1_code 1 (Option.none : Option FieldType) [] ({ frames := 1, cells := 0, slots := 0, locals := 12 } : Room) ({ frames := 1, cells := 0, slots := 0, locals := 12 } : Room).cells ({ frames := 1, cells := 0, slots := 0, locals := 12 } : Room).slots #[(.ref a)] h0 (fun v h L => v = none ∧ L = [] ∧ h = h0) := by
  refine Ctr.of pn_1 ?_
  intro p e s m below meth c s₁ hx hby hml hown hnm hret hlk hZ X0 e0
  refine Goes.cast (ef_rm_num m a) ?_
  refine g_aload_n (i := 0) X0 hx (hb hby d9_0) (by rfl) rfl rfl ?_
  refine g_initO X0 hx hZ hown (wd hw 68 rfl) (wd hw 12 rfl) (wd hw 13 rfl) e0 (by rw [hml]; rfl) (hb hby d9_1) rfl (by decide) (by decide) ?_
  intro T2 X2 e2
  exact g_ret X2 hx hlk hret e2 (by decide) (by decide) (hb hby d9_4) ⟨rfl, rfl, rfl⟩
theorem ef_rm_int (m : MethodId) (x0 : Addr) (x1 : Int32)  : entryFrame m #[(.ref x0), (.int x1)] 2 = mkF m 0 #[.val (.ref x0), .val (.int x1)] [] := by first | (simp [entryFrame, mkF, argsToLocals, Value.category]; done) | rfl
theorem pn_3 : plainFor (⟨"java/lang/Integer", "<init>", "(I)V"⟩ : MethodName) = true := by first | exact plainFor_of_name (by first | (simp [plainName, overriddenIn]; done) | decide +kernel) | decide +kernel
theorem pd_4 : parseMethodDescriptor "()V" = some ⟨[], none⟩ := by decide +kernel
set_option maxRecDepth 65536 in
set_option maxHeartbeats 40000000 in
theorem rm_int (l : Launch) (Z : State) (a0 : Array Value) (hw : ∀ d ∈ tables_1, d.before a0 Z = true) (a : Addr) (v : Int32) (h0 : Heap) (n0 : Nat) (ga : n0 ≤ a) (E : Exa Z h0 a "java/lang/Integer") (F1 : Fld Z h0 a "java/lang/Integer" "value" "I" (.int 0)) :
    Ctr l Z (⟨"java/lang/Integer", "<init>", "(I)V"⟩ : MethodName) jdk_33_method_23_code 2 (Option.none : Option FieldType) [] ({ frames := 2, cells := 0, slots := 0, locals := 24 } : Room) ({ frames := 2, cells := 0, slots := 0, locals := 24 } : Room).cells ({ frames := 2, cells := 0, slots := 0, locals := 24 } : Room).slots #[(.ref a), (.int v)] h0 (fun u h L => u = none ∧ Fr n0 L ∧ Keep h0 h [a] ∧ Exa Z h a "java/lang/Integer") := by
  refine Ctr.of pn_3 ?_
  intro p e s m below meth c s₁ hx hby hml hown hnm hret hlk hZ X0 e0
  refine Goes.cast (ef_rm_int m a v) ?_
  refine g_aload_n (i := 0) X0 hx (hb hby d8_0) (by rfl) rfl rfl ?_
  refine g_callI X0 hx hZ rfl hown (wd hw 62 rfl) (wd hw 63 rfl) (wd hw 66 rfl) (wd hw 67 rfl) (by decide) e0 (rm_num l Z a0 hw a h0) (by rw [hml]; rfl) a [] [] rfl (lenOf pd_4 rfl) rfl (by show 0 + (1 + 11) + 12 ≤ _; decide) (by decide) (by decide) (by decide) (hb hby d8_1) rfl ?_
  intro T4 v4 L4 X4 hQ4
  obtain ⟨rfl, rfl, e4⟩ := hQ4
  have N4 := Fr.app (Fr.nil n0) (Fr.nil n0)
  show Goes p e below _ T4 (mkF m 4 #[.val (.ref a), .val (.int v)] [])
  have K0 := Keep.refl h0 [a]
  refine g_aload_n (i := 0) X4 hx (hb hby d8_4) (by rfl) rfl rfl ?_
  refine g_iload_n (i := 1) X4 hx (hb hby d8_5) (by rfl) rfl ?_
  refine g_putF X4 hx hZ hown (wd hw 69 rfl) e4 F1 E (Or.inr ⟨wd hw 70 rfl, rfl, hnm⟩) (wd hw 57 rfl) (ty := .int) (by decide) rfl rfl (hb hby d8_6) rfl ?_
  intro T5 h5 X5 e5 W5
  have N5 := Fr.snoc X5 N4 ga
  have E5_ := E.wr W5
  have F5_value := F1.same W5
  have K5 := K0.wr W5 (Or.inl (List.mem_singleton.mpr rfl))
  exact g_ret X5 hx hlk hret e5 (by decide) (by decide) (hb hby d8_9) ⟨rfl, N5, K5, E5_⟩
theorem ef_rm_vo (m : MethodId) (x0 : Int32)  : entryFrame m #[(.int x0)] 1 = mkF m 0 #[.val (.int x0)] [] := by first | (simp [entryFrame, mkF, argsToLocals, Value.category]; done) | rfl
theorem pn_6 : plainFor (⟨"java/lang/Integer", "valueOf", "(I)Ljava/lang/Integer;"⟩ : MethodName) = true := by first | exact plainFor_of_name (by first | (simp [plainName, overriddenIn]; done) | decide +kernel) | decide +kernel
theorem pd_8 : parseMethodDescriptor "(I)V" = some ⟨[.int], none⟩ := by decide +kernel
set_option maxRecDepth 65536 in
set_option maxHeartbeats 40000000 in
theorem rm_vo (l : Launch) (Z : State) (a0 : Array Value) (hw : ∀ d ∈ tables_1, d.before a0 Z = true) (v : Int32) (h0 : Heap) (n0 : Nat) (Z0 : n0 ≤ h0.size) (ca : Addr) (ccl : Cell) (S_hi : Sta Z h0 "java/lang/Integer$IntegerCache" "high" "I" (.int 127)) (S_ca : Sta Z h0 "java/lang/Integer$IntegerCache" "cache" "[Ljava/lang/Integer;" (.ref ca)) (Ac : Arr Z h0 ca ccl (.object "java/lang/Integer")) (hcs : ccl.slots.size = 256) (hce : ∀ j, j < 256 → ∃ b, ccl.slots[j]? = some (.ref b) ∧ Exa Z h0 b "java/lang/Integer") :
    Ctr l Z (⟨"java/lang/Integer", "valueOf", "(I)Ljava/lang/Integer;"⟩ : MethodName) jdk_33_method_22_code 1 (Option.some (FieldType.object "java/lang/Integer")) [] ({ frames := 3, cells := 2, slots := 2, locals := 38 } : Room) ({ frames := 3, cells := 2, slots := 2, locals := 38 } : Room).cells ({ frames := 3, cells := 2, slots := 2, locals := 38 } : Room).slots #[(.int v)] h0 (fun u h L => ∃ b, u = some (.ref b) ∧ Fr n0 L ∧ Ext h0 h ∧ Exa Z h b "java/lang/Integer") := by
  refine Ctr.of pn_6 ?_
  intro p e s m below meth c s₁ hx hby hml hown hnm hret hlk hZ X0 e0
  refine Goes.cast (ef_rm_vo m v) ?_
  refine g_iload_n (i := 0) X0 hx (hb hby d7_0) (by rfl) rfl ?_
  refine g_bipush (v := (-128 : Int32)) X0 hx (hb hby d7_1) (by decide) rfl ?_
  refine g_icmp_lt X0 hx (hb hby d7_3) (by decide) (pt := 23) (by decide) rfl (fun q1 => ?_) (fun q1 => ?_)
  · refine g_new X0 hx hZ hown (wd hw 56 rfl) (wd hw 57 rfl) (wd hw 48 rfl) e0 (hb hby d7_23) rfl (by decide) (by decide) ?_
    intro T7 h7 a7 X7 e7 g7 Ex7 E7 D7
    have F7_value : Fld Z h7 a7 "java/lang/Integer" "value" "I" (.int 0) := D7 (Or.inr (wd hw 70 rfl)) (ty := .int) (by decide)
    have ga : n0 ≤ a7 := by rw [g7]; exact Z0
    refine g_dup X7 hx (hb hby d7_26) rfl rfl ?_
    refine g_iload_n (i := 0) X7 hx (hb hby d7_27) (by rfl) rfl ?_
    refine g_callI X7 hx hZ rfl hown (wd hw 58 rfl) (wd hw 59 rfl) (wd hw 48 rfl) (wd hw 61 rfl) (by decide) e7 (rm_int l Z a0 hw a7 v h7 n0 ga E7 F7_value) (by rw [hml]; rfl) a7 [(.int v)] [(.ref a7)] rfl (lenOf pd_8 rfl) rfl (by show 1 + (2 + 11) + 24 ≤ _; decide) (by decide) (by decide) (by decide) (hb hby d7_28) rfl ?_
    intro T8 v8 L8 X8 hQ8
    obtain ⟨rfl, N8, K8, E8⟩ := hQ8
    have N8 := Fr.app (Fr.nil n0) N8
    show Goes p e below _ T8 (mkF m 31 #[.val (.int v)] [(.ref a7)])
    exact g_retA X8 hx rfl rfl hlk hret rfl (by decide) (by decide) (hb hby d7_31) ⟨_, rfl, N8, own_ext2 Ex7 K8 g7, E8⟩
  · refine g_iload_n (i := 0) X0 hx (hb hby d7_6) (by rfl) rfl ?_
    refine g_getS X0 hx hZ hown (wd hw 50 rfl) e0 S_hi (hb hby d7_7) rfl ?_
    intro T9 X9 e9
    refine g_icmp_gt X9 hx (hb hby d7_10) (by decide) (pt := 23) (by decide) rfl (fun q2 => ?_) (fun q2 => ?_)
    · refine g_new X9 hx hZ hown (wd hw 56 rfl) (wd hw 57 rfl) (wd hw 48 rfl) e9 (hb hby d7_23) rfl (by decide) (by decide) ?_
      intro T10 h10 a10 X10 e10 g10 Ex10 E10 D10
      have F10_value : Fld Z h10 a10 "java/lang/Integer" "value" "I" (.int 0) := D10 (Or.inr (wd hw 70 rfl)) (ty := .int) (by decide)
      have ga : n0 ≤ a10 := by rw [g10]; exact Z0
      refine g_dup X10 hx (hb hby d7_26) rfl rfl ?_
      refine g_iload_n (i := 0) X10 hx (hb hby d7_27) (by rfl) rfl ?_
      refine g_callI X10 hx hZ rfl hown (wd hw 58 rfl) (wd hw 59 rfl) (wd hw 48 rfl) (wd hw 61 rfl) (by decide) e10 (rm_int l Z a0 hw a10 v h10 n0 ga E10 F10_value) (by rw [hml]; rfl) a10 [(.int v)] [(.ref a10)] rfl (lenOf pd_8 rfl) rfl (by show 1 + (2 + 11) + 24 ≤ _; decide) (by decide) (by decide) (by decide) (hb hby d7_28) rfl ?_
      intro T11 v11 L11 X11 hQ11
      obtain ⟨rfl, N11, K11, E11⟩ := hQ11
      have N11 := Fr.app (Fr.nil n0) N11
      show Goes p e below _ T11 (mkF m 31 #[.val (.int v)] [(.ref a10)])
      exact g_retA X11 hx rfl rfl hlk hret rfl (by decide) (by decide) (hb hby d7_31) ⟨_, rfl, N11, own_ext2 Ex10 K11 g10, E11⟩
    · refine g_getS X9 hx hZ hown (wd hw 52 rfl) e9 S_ca (hb hby d7_13) rfl ?_
      intro T12 X12 e12
      refine g_iload_n (i := 0) X12 hx (hb hby d7_16) (by rfl) rfl ?_
      refine g_sipush (v := (128 : Int32)) X12 hx (hb hby d7_17) (by decide) rfl ?_
      refine g_iadd X12 hx (hb hby d7_20) rfl ?_
      rw [own_ltI] at q1 q2
      rw [show (-128 : Int32).toInt = -128 from rfl] at q1
      rw [show (127 : Int32).toInt = 127 from rfl] at q2
      have ei : (v + 128).toInt = v.toInt + 128 := by have e := c_iadd v 128; have r := rng32 (v + 128); rw [show (128 : Int32).toInt = 128 from rfl] at e; omega
      obtain ⟨b, hb1, hb2⟩ := hce (v + 128).toNatClampNeg (by rw [own_tnc]; omega)
      refine g_aaload X12 hx hZ e12 Ac rfl (by rw [hcs, own_tnc]; rintro (q | q); exact own_nneg (by omega) q; omega) hb1 (hb hby d7_21) rfl ?_
      exact g_retA X12 hx rfl rfl hlk hret e12 (by decide) (by decide) (hb hby d7_22) ⟨b, rfl, Fr.nil n0, ⟨Nat.le_refl _, fun _ _ q => q⟩, hb2⟩
theorem ef_rm_cc (m : MethodId) (x0 : Addr) (x1 : UInt64)  : entryFrame m #[(.ref x0), (.double x1)] 3 = mkF m 0 #[.val (.ref x0), .val (.double x1), .second] [] := by first | (simp [entryFrame, mkF, argsToLocals, Value.category]; done) | rfl
theorem pn_13 : plainFor (⟨"com/example/scanstride/scanstride/Color", "checkComponent", "(Ljava/lang/String;D)D"⟩ : MethodName) = true := by first | exact plainFor_of_name (by first | (simp [plainName, overriddenIn]; done) | decide +kernel) | decide +kernel
set_option maxRecDepth 65536 in
set_option maxHeartbeats 40000000 in
theorem rm_cc (l : Launch) (Z : State) (a0 : Array Value) (hw : ∀ d ∈ tables_1, d.before a0 Z = true) (nm : Addr) (xx : UInt64) (h0 : Heap) (q1 : ¬ cmpValue (FP.dcmp xx 0) .l < 0) (q2 : ¬ 0 < cmpValue (FP.dcmp xx 4607182418800017408) .g) :
    Ctr l Z (⟨"com/example/scanstride/scanstride/Color", "checkComponent", "(Ljava/lang/String;D)D"⟩ : MethodName) prog_16_method_36_code 3 (Option.some FieldType.double) [] ({ frames := 0, cells := 0, slots := 0, locals := 0 } : Room) ({ frames := 0, cells := 0, slots := 0, locals := 0 } : Room).cells ({ frames := 0, cells := 0, slots := 0, locals := 0 } : Room).slots #[(.ref nm), (.double xx)] h0 (fun u h L => u = some (.double xx) ∧ L = [] ∧ h = h0) := by
  refine Ctr.of pn_13 ?_
  intro p e s m below meth c s₁ hx hby hml hown hnm hret hlk hZ X0 e0
  refine Goes.cast (ef_rm_cc m nm xx) ?_
  refine g_dload_n (i := 1) X0 hx (hb hby d4_0) (by rfl) rfl ?_
  refine g_dconst0 (v := (0 : UInt64)) X0 hx (hb hby d4_1) (by decide +kernel) rfl ?_
  refine g_dcmp X0 hx (hb hby d4_2) rfl rfl ?_
  refine g_if_lt X0 hx (hb hby d4_3) (by decide) (pt := 12) (by decide) rfl (fun q_ => absurd q_ (q1)) (fun _ => ?_)
  refine g_dload_n (i := 1) X0 hx (hb hby d4_6) (by rfl) rfl ?_
  refine g_dconst1 (v := (4607182418800017408 : UInt64)) X0 hx (hb hby d4_7) (by decide +kernel) rfl ?_
  refine g_dcmp X0 hx (hb hby d4_8) rfl rfl ?_
  refine g_if_le X0 hx (hb hby d4_9) (by decide) (pt := 27) (by decide) rfl (fun _ => ?_) (fun q_ => absurd q_ (q2))
  refine g_dload_n (i := 1) X0 hx (hb hby d4_27) (by rfl) rfl ?_
  exact g_retD X0 hx hlk hret e0 (by decide) (by decide) (hb hby d4_28) ⟨rfl, rfl, rfl⟩
theorem ef_rm_nf (m : MethodId) (x0 : UInt64)  : entryFrame m #[(.double x0)] 2 = mkF m 0 #[.val (.double x0), .second] [] := by first | (simp [entryFrame, mkF, argsToLocals, Value.category]; done) | rfl
theorem pn_14 : plainFor (⟨"com/example/scanstride/scanstride/Color", "nearestFloat", "(D)D"⟩ : MethodName) = true := by first | exact plainFor_of_name (by first | (simp [plainName, overriddenIn]; done) | decide +kernel) | decide +kernel
set_option maxRecDepth 65536 in
set_option maxHeartbeats 40000000 in
theorem rm_nf (l : Launch) (Z : State) (a0 : Array Value) (hw : ∀ d ∈ tables_1, d.before a0 Z = true) (xx : UInt64) (h0 : Heap) (H : own_ok xx) :
    Ctr l Z (⟨"com/example/scanstride/scanstride/Color", "nearestFloat", "(D)D"⟩ : MethodName) prog_16_method_37_code 2 (Option.some FieldType.double) [] ({ frames := 0, cells := 0, slots := 0, locals := 0 } : Room) ({ frames := 0, cells := 0, slots := 0, locals := 0 } : Room).cells ({ frames := 0, cells := 0, slots := 0, locals := 0 } : Room).slots #[(.double xx)] h0 (fun u h L => u = some (.double (own_nf xx)) ∧ L = [] ∧ h = h0) := by
  refine Ctr.of pn_14 ?_
  intro p e s m below meth c s₁ hx hby hml hown hnm hret hlk hZ X0 e0
  refine Goes.cast (ef_rm_nf m xx) ?_
  refine g_dload_n (i := 0) X0 hx (hb hby d5_0) (by rfl) rfl ?_
  refine g_d2f X0 hx (hb hby d5_1) H.2.2.1 rfl rfl ?_
  refine g_f2d X0 hx (hb hby d5_2) H.2.2.2.1 rfl rfl ?_
  refine g_dconst0 (v := (0 : UInt64)) X0 hx (hb hby d5_3) (by decide +kernel) rfl ?_
  refine g_dadd X0 hx (hb hby d5_4) H.2.2.2.2 rfl rfl ?_
  exact g_retD X0 hx hlk hret e0 (by decide) (by decide) (hb hby d5_5) ⟨rfl, rfl, rfl⟩
theorem ef_rm_ci (m : MethodId) (x0 : Addr) (x1 : UInt64) (x2 : UInt64) (x3 : UInt64) (x4 : UInt64)  : entryFrame m #[(.ref x0), (.double x1), (.double x2), (.double x3), (.double x4)] 9 = mkF m 0 #[.val (.ref x0), .val (.double x1), .second, .val (.double x2), .second, .val (.double x3), .second, .val (.double x4), .second] [] := by first | (simp [entryFrame, mkF, argsToLocals, Value.category]; done) | rfl
theorem pn_15 : plainFor (⟨"com/example/scanstride/scanstride/Color", "<init>", "(DDDD)V"⟩ : MethodName) = true := by first | exact plainFor_of_name (by first | (simp [plainName, overriddenIn]; done) | decide +kernel) | decide +kernel
theorem pd_18 : parseMethodDescriptor "(Ljava/lang/String;D)D" = some ⟨[(.object "java/lang/String"), .double], some .double⟩ := by decide +kernel
theorem pd_19 : parseMethodDescriptor "(D)D" = some ⟨[.double], some .double⟩ := by decide +kernel
set_option maxRecDepth 65536 in
set_option maxHeartbeats 40000000 in
theorem rm_ci (l : Launch) (Z : State) (a0 : Array Value) (hw : ∀ d ∈ tables_1, d.before a0 Z = true) (a : Addr) (d0 d1 d2 d3 : UInt64) (h0 : Heap) (n0 : Nat) (ga : n0 ≤ a) (E : Exa Z h0 a "com/example/scanstride/scanstride/Color") (F_red : Fld Z h0 a "com/example/scanstride/scanstride/Color" "red" "D" (.double 0)) (H0 : own_ok d0) (F_green : Fld Z h0 a "com/example/scanstride/scanstride/Color" "green" "D" (.double 0)) (H1 : own_ok d1) (F_blue : Fld Z h0 a "com/example/scanstride/scanstride/Color" "blue" "D" (.double 0)) (H2 : own_ok d2) (F_opacity : Fld Z h0 a "com/example/scanstride/scanstride/Color" "opacity" "D" (.double 0)) (H3 : own_ok d3) :
    CtrW l Z (⟨"com/example/scanstride/scanstride/Color", "<init>", "(DDDD)V"⟩ : MethodName) prog_16_method_1_code 9 (Option.none : Option FieldType) [] ({ frames := 1, cells := 8, slots := 92, locals := 15 } : Room) ({ frames := 1, cells := 8, slots := 92, locals := 15 } : Room).cells ({ frames := 1, cells := 8, slots := 92, locals := 15 } : Room).slots #[(.ref a), (.double d0), (.double d1), (.double d2), (.double d3)] h0 (fun u h L => u = none ∧ Fr n0 L ∧ Keep h0 h [a] ∧ Exa Z h a "com/example/scanstride/scanstride/Color" ∧ Fld Z h a "com/example/scanstride/scanstride/Color" "red" "D" (.double (own_nf d0)) ∧ Fld Z h a "com/example/scanstride/scanstride/Color" "green" "D" (.double (own_nf d1)) ∧ Fld Z h a "com/example/scanstride/scanstride/Color" "blue" "D" (.double (own_nf d2)) ∧ Fld Z h a "com/example/scanstride/scanstride/Color" "opacity" "D" (.double (own_nf d3))) := by
  refine CtrW.of pn_15 ?_
  intro p e s m below meth c s₁ hx hby hml hown hnm hret hlk hZ X0 e0 hS hs0
  have hk : s.heap.size ≤ h0.size := by rw [hs0]; exact Nat.le_refl _
  refine Goes.cast (ef_rm_ci m a d0 d1 d2 d3) ?_
  refine g_aload_n (i := 0) X0 hx (hb hby d2_0) (by rfl) rfl rfl ?_
  refine g_initO X0 hx hZ hown (wd hw 11 rfl) (wd hw 12 rfl) (wd hw 13 rfl) e0 (by rw [hml]; rfl) (hb hby d2_1) rfl (by decide) (by decide) ?_
  intro T16 X16 e16
  have K0 := Keep.refl h0 [a]
  refine g_aload_n (i := 0) X16 hx (hb hby d2_4) (by rfl) rfl rfl ?_
  refine g_ldcS X16 hx hZ hown (wd hw 14 rfl) (own_wS hw) e16 hS hk (hb hby d2_5) rfl 12 (by decide +kernel) (by decide) (by decide) (by decide) ?_
  intro a17 T17 h17 k17 X17 e17 Ex17 hS hk hZ hown
  have G17_red := F_red.ext Ex17
  have G17_green := F_green.ext Ex17
  have G17_blue := F_blue.ext Ex17
  have G17_opacity := F_opacity.ext Ex17
  have EE17 := E.ext Ex17
  have KK17 := K0.ext Ex17
  refine g_dload_n (i := 1) X17 hx (hb hby d2_7) (by rfl) rfl ?_
  refine g_callS X17 hx hZ hown (wd hw 22 rfl) (wd hw 23 rfl) (wd hw 6 rfl) (wd hw 24 rfl) (by decide) e17 (rm_cc l Z a0 hw a17 d0 h17 H0.1 H0.2.1) (by rw [hml]; rfl) [(.ref a17), (.double d0)] [(.ref a)] rfl (lenOf pd_18 rfl) rfl (by show 1 + (3 + 11) + 0 ≤ _; decide) (by decide) (by decide) (by decide) (hb hby d2_8) rfl ?_
  intro T18 v18 L18 X18 hQ18
  obtain ⟨rfl, rfl, e18⟩ := hQ18
  have N18 := Fr.app (Fr.nil n0) (Fr.nil n0)
  show Goes p e below _ T18 (mkF m 11 #[.val (.ref a), .val (.double d0), .second, .val (.double d1), .second, .val (.double d2), .second, .val (.double d3), .second] [(.double d0), (.ref a)])
  refine g_callS X18 hx hZ hown (wd hw 25 rfl) (wd hw 26 rfl) (wd hw 6 rfl) (wd hw 27 rfl) (by decide) e18 (rm_nf l Z a0 hw d0 h17 H0) (by rw [hml]; rfl) [(.double d0)] [(.ref a)] rfl (lenOf pd_19 rfl) rfl (by show 1 + (2 + 11) + 0 ≤ _; decide) (by decide) (by decide) (by decide) (hb hby d2_11) rfl ?_
  intro T19 v19 L19 X19 hQ19
  obtain ⟨rfl, rfl, e19⟩ := hQ19
  have N19 := Fr.app N18 (Fr.nil n0)
  show Goes p e below _ T19 (mkF m 14 #[.val (.ref a), .val (.double d0), .second, .val (.double d1), .second, .val (.double d2), .second, .val (.double d3), .second] [(.double (own_nf d0)), (.ref a)])
  refine g_putF X19 hx hZ hown (wd hw 28 rfl) e19 G17_red EE17 (Or.inr ⟨wd hw 29 rfl, rfl, hnm⟩) (wd hw 5 rfl) (ty := .double) (by decide) rfl rfl (hb hby d2_14) rfl ?_
  intro T20 h20 X20 e20 W20
  have N20 := Fr.snoc X20 N19 ga
  have E20_ := EE17.wr W20
  have F20_red := G17_red.same W20
  have F20_green := G17_green.other W20 (Or.inr (slot_ne (C := "com/example/scanstride/scanstride/Color") (Or.inr (wd hw 32 rfl)) (Or.inr (wd hw 29 rfl)) (by decide) (t := .double) (t' := .double) (by decide) (by decide)))
  have F20_blue := G17_blue.other W20 (Or.inr (slot_ne (C := "com/example/scanstride/scanstride/Color") (Or.inr (wd hw 35 rfl)) (Or.inr (wd hw 29 rfl)) (by decide) (t := .double) (t' := .double) (by decide) (by decide)))
  have F20_opacity := G17_opacity.other W20 (Or.inr (slot_ne (C := "com/example/scanstride/scanstride/Color") (Or.inr (wd hw 38 rfl)) (Or.inr (wd hw 29 rfl)) (by decide) (t := .double) (t' := .double) (by decide) (by decide)))
  have K20 := KK17.wr W20 (Or.inl (List.mem_singleton.mpr rfl))
  have hk2 := hk
  rw [← W20.size] at hk2
  refine g_aload_n (i := 0) X20 hx (hb hby d2_17) (by rfl) rfl rfl ?_
  refine g_ldcS X20 hx hZ hown (wd hw 30 rfl) (own_wS hw) e20 hS hk2 (hb hby d2_18) rfl 20 (by decide +kernel) (by decide) (by decide) (by decide) ?_
  intro a21 T21 h21 k21 X21 e21 Ex21 hS hk hZ hown
  have G21_red := F20_red.ext Ex21
  have G21_green := F20_green.ext Ex21
  have G21_blue := F20_blue.ext Ex21
  have G21_opacity := F20_opacity.ext Ex21
  have EE21 := E20_.ext Ex21
  have KK21 := K20.ext Ex21
  refine g_dload_n (i := 3) X21 hx (hb hby d2_20) (by rfl) rfl ?_
  refine g_callS X21 hx hZ hown (wd hw 22 rfl) (wd hw 23 rfl) (wd hw 6 rfl) (wd hw 24 rfl) (by decide) e21 (rm_cc l Z a0 hw a21 d1 h21 H1.1 H1.2.1) (by rw [hml]; rfl) [(.ref a21), (.double d1)] [(.ref a)] rfl (lenOf pd_18 rfl) rfl (by show 1 + (3 + 11) + 0 ≤ _; decide) (by decide) (by decide) (by decide) (hb hby d2_21) rfl ?_
  intro T22 v22 L22 X22 hQ22
  obtain ⟨rfl, rfl, e22⟩ := hQ22
  have N22 := Fr.app N20 (Fr.nil n0)
  show Goes p e below _ T22 (mkF m 24 #[.val (.ref a), .val (.double d0), .second, .val (.double d1), .second, .val (.double d2), .second, .val (.double d3), .second] [(.double d1), (.ref a)])
  refine g_callS X22 hx hZ hown (wd hw 25 rfl) (wd hw 26 rfl) (wd hw 6 rfl) (wd hw 27 rfl) (by decide) e22 (rm_nf l Z a0 hw d1 h21 H1) (by rw [hml]; rfl) [(.double d1)] [(.ref a)] rfl (lenOf pd_19 rfl) rfl (by show 1 + (2 + 11) + 0 ≤ _; decide) (by decide) (by decide) (by decide) (hb hby d2_24) rfl ?_
  intro T23 v23 L23 X23 hQ23
  obtain ⟨rfl, rfl, e23⟩ := hQ23
  have N23 := Fr.app N22 (Fr.nil n0)
  show Goes p e below _ T23 (mkF m 27 #[.val (.ref a), .val (.double d0), .second, .val (.double d1), .second, .val (.double d2), .second, .val (.double d3), .second] [(.double (own_nf d1)), (.ref a)])
  refine g_putF X23 hx hZ hown (wd hw 31 rfl) e23 G21_green EE21 (Or.inr ⟨wd hw 32 rfl, rfl, hnm⟩) (wd hw 5 rfl) (ty := .double) (by decide) rfl rfl (hb hby d2_27) rfl ?_
  intro T24 h24 X24 e24 W24
  have N24 := Fr.snoc X24 N23 ga
  have E24_ := EE21.wr W24
  have F24_red := G21_red.other W24 (Or.inr (slot_ne (C := "com/example/scanstride/scanstride/Color") (Or.inr (wd hw 29 rfl)) (Or.inr (wd hw 32 rfl)) (by decide) (t := .double) (t' := .double) (by decide) (by decide)))
  have F24_green := G21_green.same W24
  have F24_blue := G21_blue.other W24 (Or.inr (slot_ne (C := "com/example/scanstride/scanstride/Color") (Or.inr (wd hw 35 rfl)) (Or.inr (wd hw 32 rfl)) (by decide) (t := .double) (t' := .double) (by decide) (by decide)))
  have F24_opacity := G21_opacity.other W24 (Or.inr (slot_ne (C := "com/example/scanstride/scanstride/Color") (Or.inr (wd hw 38 rfl)) (Or.inr (wd hw 32 rfl)) (by decide) (t := .double) (t' := .double) (by decide) (by decide)))
  have K24 := KK21.wr W24 (Or.inl (List.mem_singleton.mpr rfl))
  have hk2 := hk
  rw [← W24.size] at hk2
  refine g_aload_n (i := 0) X24 hx (hb hby d2_30) (by rfl) rfl rfl ?_
  refine g_ldcS X24 hx hZ hown (wd hw 33 rfl) (own_wS hw) e24 hS hk2 (hb hby d2_31) rfl 16 (by decide +kernel) (by decide) (by decide) (by decide) ?_
  intro a25 T25 h25 k25 X25 e25 Ex25 hS hk hZ hown
  have G25_red := F24_red.ext Ex25
  have G25_green := F24_green.ext Ex25
  have G25_blue := F24_blue.ext Ex25
  have G25_opacity := F24_opacity.ext Ex25
  have EE25 := E24_.ext Ex25
  have KK25 := K24.ext Ex25
  refine g_dload (i := 5) X25 hx (hb hby d2_33) (by rfl) rfl ?_
  refine g_callS X25 hx hZ hown (wd hw 22 rfl) (wd hw 23 rfl) (wd hw 6 rfl) (wd hw 24 rfl) (by decide) e25 (rm_cc l Z a0 hw a25 d2 h25 H2.1 H2.2.1) (by rw [hml]; rfl) [(.ref a25), (.double d2)] [(.ref a)] rfl (lenOf pd_18 rfl) rfl (by show 1 + (3 + 11) + 0 ≤ _; decide) (by decide) (by decide) (by decide) (hb hby d2_35) rfl ?_
  intro T26 v26 L26 X26 hQ26
  obtain ⟨rfl, rfl, e26⟩ := hQ26
  have N26 := Fr.app N24 (Fr.nil n0)
  show Goes p e below _ T26 (mkF m 38 #[.val (.ref a), .val (.double d0), .second, .val (.double d1), .second, .val (.double d2), .second, .val (.double d3), .second] [(.double d2), (.ref a)])
  refine g_callS X26 hx hZ hown (wd hw 25 rfl) (wd hw 26 rfl) (wd hw 6 rfl) (wd hw 27 rfl) (by decide) e26 (rm_nf l Z a0 hw d2 h25 H2) (by rw [hml]; rfl) [(.double d2)] [(.ref a)] rfl (lenOf pd_19 rfl) rfl (by show 1 + (2 + 11) + 0 ≤ _; decide) (by decide) (by decide) (by decide) (hb hby d2_38) rfl ?_
  intro T27 v27 L27 X27 hQ27
  obtain ⟨rfl, rfl, e27⟩ := hQ27
  have N27 := Fr.app N26 (Fr.nil n0)
  show Goes p e below _ T27 (mkF m 41 #[.val (.ref a), .val (.double d0), .second, .val (.double d1), .second, .val (.double d2), .second, .val (.double d3), .second] [(.double (own_nf d2)), (.ref a)])
  refine g_putF X27 hx hZ hown (wd hw 34 rfl) e27 G25_blue EE25 (Or.inr ⟨wd hw 35 rfl, rfl, hnm⟩) (wd hw 5 rfl) (ty := .double) (by decide) rfl rfl (hb hby d2_41) rfl ?_
  intro T28 h28 X28 e28 W28
  have N28 := Fr.snoc X28 N27 ga
  have E28_ := EE25.wr W28
  have F28_red := G25_red.other W28 (Or.inr (slot_ne (C := "com/example/scanstride/scanstride/Color") (Or.inr (wd hw 29 rfl)) (Or.inr (wd hw 35 rfl)) (by decide) (t := .double) (t' := .double) (by decide) (by decide)))
  have F28_green := G25_green.other W28 (Or.inr (slot_ne (C := "com/example/scanstride/scanstride/Color") (Or.inr (wd hw 32 rfl)) (Or.inr (wd hw 35 rfl)) (by decide) (t := .double) (t' := .double) (by decide) (by decide)))
  have F28_blue := G25_blue.same W28
  have F28_opacity := G25_opacity.other W28 (Or.inr (slot_ne (C := "com/example/scanstride/scanstride/Color") (Or.inr (wd hw 38 rfl)) (Or.inr (wd hw 35 rfl)) (by decide) (t := .double) (t' := .double) (by decide) (by decide)))
  have K28 := KK25.wr W28 (Or.inl (List.mem_singleton.mpr rfl))
  have hk2 := hk
  rw [← W28.size] at hk2
  refine g_aload_n (i := 0) X28 hx (hb hby d2_44) (by rfl) rfl rfl ?_
  refine g_ldcS X28 hx hZ hown (wd hw 36 rfl) (own_wS hw) e28 hS hk2 (hb hby d2_45) rfl 28 (by decide +kernel) (by decide) (by decide) (by decide) ?_
  intro a29 T29 h29 k29 X29 e29 Ex29 hS hk hZ hown
  have G29_red := F28_red.ext Ex29
  have G29_green := F28_green.ext Ex29
  have G29_blue := F28_blue.ext Ex29
  have G29_opacity := F28_opacity.ext Ex29
  have EE29 := E28_.ext Ex29
  have KK29 := K28.ext Ex29
  refine g_dload (i := 7) X29 hx (hb hby d2_47) (by rfl) rfl ?_
  refine g_callS X29 hx hZ hown (wd hw 22 rfl) (wd hw 23 rfl) (wd hw 6 rfl) (wd hw 24 rfl) (by decide) e29 (rm_cc l Z a0 hw a29 d3 h29 H3.1 H3.2.1) (by rw [hml]; rfl) [(.ref a29), (.double d3)] [(.ref a)] rfl (lenOf pd_18 rfl) rfl (by show 1 + (3 + 11) + 0 ≤ _; decide) (by decide) (by decide) (by decide) (hb hby d2_49) rfl ?_
  intro T30 v30 L30 X30 hQ30
  obtain ⟨rfl, rfl, e30⟩ := hQ30
  have N30 := Fr.app N28 (Fr.nil n0)
  show Goes p e below _ T30 (mkF m 52 #[.val (.ref a), .val (.double d0), .second, .val (.double d1), .second, .val (.double d2), .second, .val (.double d3), .second] [(.double d3), (.ref a)])
  refine g_callS X30 hx hZ hown (wd hw 25 rfl) (wd hw 26 rfl) (wd hw 6 rfl) (wd hw 27 rfl) (by decide) e30 (rm_nf l Z a0 hw d3 h29 H3) (by rw [hml]; rfl) [(.double d3)] [(.ref a)] rfl (lenOf pd_19 rfl) rfl (by show 1 + (2 + 11) + 0 ≤ _; decide) (by decide) (by decide) (by decide) (hb hby d2_52) rfl ?_
  intro T31 v31 L31 X31 hQ31
  obtain ⟨rfl, rfl, e31⟩ := hQ31
  have N31 := Fr.app N30 (Fr.nil n0)
  show Goes p e below _ T31 (mkF m 55 #[.val (.ref a), .val (.double d0), .second, .val (.double d1), .second, .val (.double d2), .second, .val (.double d3), .second] [(.double (own_nf d3)), (.ref a)])
  refine g_putF X31 hx hZ hown (wd hw 37 rfl) e31 G29_opacity EE29 (Or.inr ⟨wd hw 38 rfl, rfl, hnm⟩) (wd hw 5 rfl) (ty := .double) (by decide) rfl rfl (hb hby d2_55) rfl ?_
  intro T32 h32 X32 e32 W32
  have N32 := Fr.snoc X32 N31 ga
  have E32_ := EE29.wr W32
  have F32_red := G29_red.other W32 (Or.inr (slot_ne (C := "com/example/scanstride/scanstride/Color") (Or.inr (wd hw 29 rfl)) (Or.inr (wd hw 38 rfl)) (by decide) (t := .double) (t' := .double) (by decide) (by decide)))
  have F32_green := G29_green.other W32 (Or.inr (slot_ne (C := "com/example/scanstride/scanstride/Color") (Or.inr (wd hw 32 rfl)) (Or.inr (wd hw 38 rfl)) (by decide) (t := .double) (t' := .double) (by decide) (by decide)))
  have F32_blue := G29_blue.other W32 (Or.inr (slot_ne (C := "com/example/scanstride/scanstride/Color") (Or.inr (wd hw 35 rfl)) (Or.inr (wd hw 38 rfl)) (by decide) (t := .double) (t' := .double) (by decide) (by decide)))
  have F32_opacity := G29_opacity.same W32
  have K32 := KK29.wr W32 (Or.inl (List.mem_singleton.mpr rfl))
  have hk2 := hk
  rw [← W32.size] at hk2
  exact g_retW X32 hx hlk hret e32 hS hk2 (by decide) (by decide) (hb hby d2_58) ⟨rfl, N32, K32, E32_, F32_red, F32_green, F32_blue, F32_opacity⟩
theorem ef_rm_mk (m : MethodId) (x0 : Int32)  : entryFrame m #[(.int x0)] 5 = mkF m 0 #[.val (.int x0), .unset, .unset, .unset, .unset] [] := by first | (simp [entryFrame, mkF, argsToLocals, Value.category]; done) | rfl
theorem pn_33 : plainFor (⟨"com/example/scanstride/scanstride/ColorEqualsPinLaw", "make", "(I)Lcom/example/scanstride/scanstride/Color;"⟩ : MethodName) = true := by first | exact plainFor_of_name (by first | (simp [plainName, overriddenIn]; done) | decide +kernel) | decide +kernel
theorem pd_35 : parseMethodDescriptor "(DDDD)V" = some ⟨[.double, .double, .double, .double], none⟩ := by decide +kernel
set_option maxRecDepth 65536 in
set_option maxHeartbeats 40000000 in
theorem rm_mk (l : Launch) (Z : State) (a0 : Array Value) (hw : ∀ d ∈ tables_1, d.before a0 Z = true) (v : Int32) (h0 : Heap) (n0 : Nat) (Z0 : n0 ≤ h0.size) :
    CtrW l Z (⟨"com/example/scanstride/scanstride/ColorEqualsPinLaw", "make", "(I)Lcom/example/scanstride/scanstride/Color;"⟩ : MethodName) method_2_code 5 (Option.some (FieldType.object "com/example/scanstride/scanstride/Color")) [] ({ frames := 2, cells := 9, slots := 96, locals := 36 } : Room) ({ frames := 2, cells := 9, slots := 96, locals := 36 } : Room).cells ({ frames := 2, cells := 9, slots := 96, locals := 36 } : Room).slots #[(.int v)] h0 (fun u h L => ∃ b, u = some (.ref b) ∧ Fr n0 L ∧ Ext h0 h ∧ Exa Z h b "com/example/scanstride/scanstride/Color" ∧ Fld Z h b "com/example/scanstride/scanstride/Color" "red" "D" (.double (own_c (XT.ushr v (24 : Int32) &&& (255 : Int32)))) ∧ Fld Z h b "com/example/scanstride/scanstride/Color" "green" "D" (.double (own_c (XT.ushr v (16 : Int32) &&& (255 : Int32)))) ∧ Fld Z h b "com/example/scanstride/scanstride/Color" "blue" "D" (.double (own_c (XT.ushr v (8 : Int32) &&& (255 : Int32)))) ∧ Fld Z h b "com/example/scanstride/scanstride/Color" "opacity" "D" (.double (own_c (v &&& (255 : Int32))))) := by
  refine CtrW.of pn_33 ?_
  intro p e s m below meth c s₁ hx hby hml hown hnm hret hlk hZ X0 e0 hS hs0
  have hk : s.heap.size ≤ h0.size := by rw [hs0]; exact Nat.le_refl _
  refine Goes.cast (ef_rm_mk m v) ?_
  have ok0 := own_okr (XT.ushr v (24 : Int32) &&& (255 : Int32)) (own_b8 _).1 (own_b8 _).2
  have ok1 := own_okr (XT.ushr v (16 : Int32) &&& (255 : Int32)) (own_b8 _).1 (own_b8 _).2
  have ok2 := own_okr (XT.ushr v (8 : Int32) &&& (255 : Int32)) (own_b8 _).1 (own_b8 _).2
  have ok3 := own_okr (v &&& (255 : Int32)) (own_b8 _).1 (own_b8 _).2
  refine g_iload_n (i := 0) X0 hx (hb hby d1_0) (by rfl) rfl ?_
  refine g_bipush (v := (24 : Int32)) X0 hx (hb hby d1_1) (by decide) rfl ?_
  refine g_iushr X0 hx (hb hby d1_3) rfl ?_
  refine g_sipush (v := (255 : Int32)) X0 hx (hb hby d1_4) (by decide) rfl ?_
  refine g_iand X0 hx (hb hby d1_7) rfl ?_
  refine g_istore_n (i := 1) X0 hx #[.val (.int v), .val (.int ((XT.ushr v (24 : Int32)) &&& (255 : Int32))), .unset, .unset, .unset] (hb hby d1_8) rfl rfl ?_
  refine g_iload_n (i := 0) X0 hx (hb hby d1_9) (by rfl) rfl ?_
  refine g_bipush (v := (16 : Int32)) X0 hx (hb hby d1_10) (by decide) rfl ?_
  refine g_iushr X0 hx (hb hby d1_12) rfl ?_
  refine g_sipush (v := (255 : Int32)) X0 hx (hb hby d1_13) (by decide) rfl ?_
  refine g_iand X0 hx (hb hby d1_16) rfl ?_
  refine g_istore_n (i := 2) X0 hx #[.val (.int v), .val (.int ((XT.ushr v (24 : Int32)) &&& (255 : Int32))), .val (.int ((XT.ushr v (16 : Int32)) &&& (255 : Int32))), .unset, .unset] (hb hby d1_17) rfl rfl ?_
  refine g_iload_n (i := 0) X0 hx (hb hby d1_18) (by rfl) rfl ?_
  refine g_bipush (v := (8 : Int32)) X0 hx (hb hby d1_19) (by decide) rfl ?_
  refine g_iushr X0 hx (hb hby d1_21) rfl ?_
  refine g_sipush (v := (255 : Int32)) X0 hx (hb hby d1_22) (by decide) rfl ?_
  refine g_iand X0 hx (hb hby d1_25) rfl ?_
  refine g_istore_n (i := 3) X0 hx #[.val (.int v), .val (.int ((XT.ushr v (24 : Int32)) &&& (255 : Int32))), .val (.int ((XT.ushr v (16 : Int32)) &&& (255 : Int32))), .val (.int ((XT.ushr v (8 : Int32)) &&& (255 : Int32))), .unset] (hb hby d1_26) rfl rfl ?_
  refine g_iload_n (i := 0) X0 hx (hb hby d1_27) (by rfl) rfl ?_
  refine g_sipush (v := (255 : Int32)) X0 hx (hb hby d1_28) (by decide) rfl ?_
  refine g_iand X0 hx (hb hby d1_31) rfl ?_
  refine g_istore (i := 4) X0 hx #[.val (.int v), .val (.int ((XT.ushr v (24 : Int32)) &&& (255 : Int32))), .val (.int ((XT.ushr v (16 : Int32)) &&& (255 : Int32))), .val (.int ((XT.ushr v (8 : Int32)) &&& (255 : Int32))), .val (.int (v &&& (255 : Int32)))] (hb hby d1_32) rfl rfl ?_
  refine g_new X0 hx hZ hown (wd hw 4 rfl) (wd hw 5 rfl) (wd hw 6 rfl) e0 (hb hby d1_34) rfl (by decide) (by decide) ?_
  intro T34 h34 a34 X34 e34 g34 Ex34 E34 D34
  have ga : n0 ≤ a34 := by rw [g34]; exact Z0
  have F34_red : Fld Z h34 a34 "com/example/scanstride/scanstride/Color" "red" "D" (.double 0) := D34 (Or.inr (wd hw 29 rfl)) (ty := .double) (by decide)
  have F34_green : Fld Z h34 a34 "com/example/scanstride/scanstride/Color" "green" "D" (.double 0) := D34 (Or.inr (wd hw 32 rfl)) (ty := .double) (by decide)
  have F34_blue : Fld Z h34 a34 "com/example/scanstride/scanstride/Color" "blue" "D" (.double 0) := D34 (Or.inr (wd hw 35 rfl)) (ty := .double) (by decide)
  have F34_opacity : Fld Z h34 a34 "com/example/scanstride/scanstride/Color" "opacity" "D" (.double 0) := D34 (Or.inr (wd hw 38 rfl)) (ty := .double) (by decide)
  refine g_dup X34 hx (hb hby d1_37) rfl rfl ?_
  refine g_iload_n (i := 1) X34 hx (hb hby d1_38) (by rfl) rfl ?_
  refine g_i2d X34 hx (hb hby d1_39) rfl rfl ?_
  refine g_ldc2D X34 hx hZ hown (wd hw 7 rfl) (hb hby d1_40) rfl ?_
  refine g_ddiv X34 hx (hb hby d1_43) ok0.1 rfl rfl ?_
  refine g_iload_n (i := 2) X34 hx (hb hby d1_44) (by rfl) rfl ?_
  refine g_i2d X34 hx (hb hby d1_45) rfl rfl ?_
  refine g_ldc2D X34 hx hZ hown (wd hw 7 rfl) (hb hby d1_46) rfl ?_
  refine g_ddiv X34 hx (hb hby d1_49) ok1.1 rfl rfl ?_
  refine g_iload_n (i := 3) X34 hx (hb hby d1_50) (by rfl) rfl ?_
  refine g_i2d X34 hx (hb hby d1_51) rfl rfl ?_
  refine g_ldc2D X34 hx hZ hown (wd hw 7 rfl) (hb hby d1_52) rfl ?_
  refine g_ddiv X34 hx (hb hby d1_55) ok2.1 rfl rfl ?_
  refine g_iload (i := 4) X34 hx (hb hby d1_56) (by rfl) rfl ?_
  refine g_i2d X34 hx (hb hby d1_58) rfl rfl ?_
  refine g_ldc2D X34 hx hZ hown (wd hw 7 rfl) (hb hby d1_59) rfl ?_
  refine g_ddiv X34 hx (hb hby d1_62) ok3.1 rfl rfl ?_
  refine g_callIW X34 hx hZ rfl hown (wd hw 8 rfl) (wd hw 9 rfl) (wd hw 6 rfl) (wd hw 10 rfl) (by decide) e34 hS (Nat.le_trans hk Ex34.1) (rm_ci l Z a0 hw a34 (own_q (XT.ushr v (24 : Int32) &&& (255 : Int32))) (own_q (XT.ushr v (16 : Int32) &&& (255 : Int32))) (own_q (XT.ushr v (8 : Int32) &&& (255 : Int32))) (own_q (v &&& (255 : Int32))) h34 n0 ga E34 F34_red ok0.2 F34_green ok1.2 F34_blue ok2.2 F34_opacity ok3.2) (by rw [hml]; rfl) a34 [(.double (own_q (XT.ushr v (24 : Int32) &&& (255 : Int32)))), (.double (own_q (XT.ushr v (16 : Int32) &&& (255 : Int32)))), (.double (own_q (XT.ushr v (8 : Int32) &&& (255 : Int32)))), (.double (own_q (v &&& (255 : Int32))))] [(.ref a34)] rfl (lenOf pd_35 rfl) rfl (by show 1 + (9 + 11) + 15 ≤ _; decide) (by decide) (by decide) (by decide) (hb hby d1_63) rfl ?_
  intro T35 v35 L35 k35 X35 hQ35 hS hk hZ hown
  obtain ⟨rfl, N35, K35, E35, G0, G1, G2, G3⟩ := hQ35
  have N35 := Fr.app (Fr.nil n0) N35
  show Goes p e below _ T35 (mkF m 66 #[.val (.int v), .val (.int ((XT.ushr v (24 : Int32)) &&& (255 : Int32))), .val (.int ((XT.ushr v (16 : Int32)) &&& (255 : Int32))), .val (.int ((XT.ushr v (8 : Int32)) &&& (255 : Int32))), .val (.int (v &&& (255 : Int32)))] [(.ref a34)])
  exact g_retAW X35 hx rfl rfl hlk hret rfl hS hk (by decide) (by decide) (hb hby d1_66) ⟨_, rfl, N35, own_ext2 Ex34 K35 g34, E35, G0, G1, G2, G3⟩
theorem ef_rm_eq (m : MethodId) (x0 : Addr) (x1 : Addr)  : entryFrame m #[(.ref x0), (.ref x1)] 3 = mkF m 0 #[.val (.ref x0), .val (.ref x1), .unset] [] := by first | (simp [entryFrame, mkF, argsToLocals, Value.category]; done) | rfl
theorem pn_36 : plainFor (⟨"com/example/scanstride/scanstride/Color", "equals", "(Ljava/lang/Object;)Z"⟩ : MethodName) = true := by first | exact plainFor_of_name (by first | (simp [plainName, overriddenIn]; done) | decide +kernel) | decide +kernel
set_option maxRecDepth 65536 in
set_option maxHeartbeats 40000000 in
theorem rm_eq (l : Launch) (Z : State) (a0 : Array Value) (hw : ∀ d ∈ tables_1, d.before a0 Z = true) (a b : Addr) (x0 x1 x2 x3 y0 y1 y2 y3 : UInt64) (h0 : Heap) (Eb : Exa Z h0 b "com/example/scanstride/scanstride/Color") (A_red : Fld Z h0 a "com/example/scanstride/scanstride/Color" "red" "D" (.double x0)) (B_red : Fld Z h0 b "com/example/scanstride/scanstride/Color" "red" "D" (.double y0)) (A_green : Fld Z h0 a "com/example/scanstride/scanstride/Color" "green" "D" (.double x1)) (B_green : Fld Z h0 b "com/example/scanstride/scanstride/Color" "green" "D" (.double y1)) (A_blue : Fld Z h0 a "com/example/scanstride/scanstride/Color" "blue" "D" (.double x2)) (B_blue : Fld Z h0 b "com/example/scanstride/scanstride/Color" "blue" "D" (.double y2)) (A_opacity : Fld Z h0 a "com/example/scanstride/scanstride/Color" "opacity" "D" (.double x3)) (B_opacity : Fld Z h0 b "com/example/scanstride/scanstride/Color" "opacity" "D" (.double y3)) :
    Ctr l Z (⟨"com/example/scanstride/scanstride/Color", "equals", "(Ljava/lang/Object;)Z"⟩ : MethodName) prog_16_method_33_code 3 (Option.some FieldType.boolean) [] ({ frames := 0, cells := 0, slots := 0, locals := 0 } : Room) ({ frames := 0, cells := 0, slots := 0, locals := 0 } : Room).cells ({ frames := 0, cells := 0, slots := 0, locals := 0 } : Room).slots #[(.ref a), (.ref b)] h0 (fun u h L => u = some (.int (if cmpValue (FP.dcmp x0 y0) .l = 0 ∧ cmpValue (FP.dcmp x1 y1) .l = 0 ∧ cmpValue (FP.dcmp x2 y2) .l = 0 ∧ cmpValue (FP.dcmp x3 y3) .l = 0 then 1 else 0)) ∧ L = [] ∧ h = h0) := by
  refine Ctr.of pn_36 ?_
  intro p e s m below meth c s₁ hx hby hml hown hnm hret hlk hZ X0 e0
  refine Goes.cast (ef_rm_eq m a b) ?_
  refine g_aload_n (i := 1) X0 hx (hb hby d6_0) (by rfl) rfl rfl ?_
  refine g_instY X0 hx hZ hown (wd hw 44 rfl) e0 (Ins.self Eb) (hb hby d6_1) rfl ?_
  intro T37 X37 e37
  refine g_if_eq X37 hx (hb hby d6_4) (by decide) (pt := 64) (by decide) rfl (fun q_ => absurd q_ (by decide)) (fun _ => ?_)
  refine g_aload_n (i := 1) X37 hx (hb hby d6_7) (by rfl) rfl rfl ?_
  refine g_castY X37 hx hZ hown (wd hw 44 rfl) e37 (Ins.self Eb) (hb hby d6_8) rfl ?_
  intro T38 X38 e38
  refine g_astore_n (i := 2) X38 hx #[.val (.ref a), .val (.ref b), .val (.ref b)] (hb hby d6_11) rfl rfl rfl ?_
  refine g_aload_n (i := 0) X38 hx (hb hby d6_12) (by rfl) rfl rfl ?_
  refine g_getF X38 hx hZ hown (wd hw 28 rfl) e38 A_red (hb hby d6_13) rfl ?_
  intro T39 X39 e39
  refine g_aload_n (i := 2) X39 hx (hb hby d6_16) (by rfl) rfl rfl ?_
  refine g_getF X39 hx hZ hown (wd hw 28 rfl) e39 B_red (hb hby d6_17) rfl ?_
  intro T40 X40 e40
  refine g_dcmp X40 hx (hb hby d6_20) rfl rfl ?_
  refine g_if_ne X40 hx (hb hby d6_21) (by decide) (pt := 64) (by decide) rfl (fun q0 => ?_) (fun q0 => ?_)
  · refine g_iconst (v := (0 : Int32)) X40 hx (hb hby d6_64) (by decide) rfl ?_
    exact g_retN X40 hx (t := .boolean) (by simp) hlk hret e40 (by decide) (by decide) (hb hby d6_65) ⟨own_b0 (fun r => q0 r.1), rfl, rfl⟩
  · refine g_aload_n (i := 0) X40 hx (hb hby d6_24) (by rfl) rfl rfl ?_
    refine g_getF X40 hx hZ hown (wd hw 31 rfl) e40 A_green (hb hby d6_25) rfl ?_
    intro T41 X41 e41
    refine g_aload_n (i := 2) X41 hx (hb hby d6_28) (by rfl) rfl rfl ?_
    refine g_getF X41 hx hZ hown (wd hw 31 rfl) e41 B_green (hb hby d6_29) rfl ?_
    intro T42 X42 e42
    refine g_dcmp X42 hx (hb hby d6_32) rfl rfl ?_
    refine g_if_ne X42 hx (hb hby d6_33) (by decide) (pt := 64) (by decide) rfl (fun q1 => ?_) (fun q1 => ?_)
    · refine g_iconst (v := (0 : Int32)) X42 hx (hb hby d6_64) (by decide) rfl ?_
      exact g_retN X42 hx (t := .boolean) (by simp) hlk hret e42 (by decide) (by decide) (hb hby d6_65) ⟨own_b0 (fun r => q1 r.2.1), rfl, rfl⟩
    · refine g_aload_n (i := 0) X42 hx (hb hby d6_36) (by rfl) rfl rfl ?_
      refine g_getF X42 hx hZ hown (wd hw 34 rfl) e42 A_blue (hb hby d6_37) rfl ?_
      intro T43 X43 e43
      refine g_aload_n (i := 2) X43 hx (hb hby d6_40) (by rfl) rfl rfl ?_
      refine g_getF X43 hx hZ hown (wd hw 34 rfl) e43 B_blue (hb hby d6_41) rfl ?_
      intro T44 X44 e44
      refine g_dcmp X44 hx (hb hby d6_44) rfl rfl ?_
      refine g_if_ne X44 hx (hb hby d6_45) (by decide) (pt := 64) (by decide) rfl (fun q2 => ?_) (fun q2 => ?_)
      · refine g_iconst (v := (0 : Int32)) X44 hx (hb hby d6_64) (by decide) rfl ?_
        exact g_retN X44 hx (t := .boolean) (by simp) hlk hret e44 (by decide) (by decide) (hb hby d6_65) ⟨own_b0 (fun r => q2 r.2.2.1), rfl, rfl⟩
      · refine g_aload_n (i := 0) X44 hx (hb hby d6_48) (by rfl) rfl rfl ?_
        refine g_getF X44 hx hZ hown (wd hw 37 rfl) e44 A_opacity (hb hby d6_49) rfl ?_
        intro T45 X45 e45
        refine g_aload_n (i := 2) X45 hx (hb hby d6_52) (by rfl) rfl rfl ?_
        refine g_getF X45 hx hZ hown (wd hw 37 rfl) e45 B_opacity (hb hby d6_53) rfl ?_
        intro T46 X46 e46
        refine g_dcmp X46 hx (hb hby d6_56) rfl rfl ?_
        refine g_if_ne X46 hx (hb hby d6_57) (by decide) (pt := 64) (by decide) rfl (fun q3 => ?_) (fun q3 => ?_)
        · refine g_iconst (v := (0 : Int32)) X46 hx (hb hby d6_64) (by decide) rfl ?_
          exact g_retN X46 hx (t := .boolean) (by simp) hlk hret e46 (by decide) (by decide) (hb hby d6_65) ⟨own_b0 (fun r => q3 r.2.2.2), rfl, rfl⟩
        · refine g_iconst (v := (1 : Int32)) X46 hx (hb hby d6_60) (by decide) rfl ?_
          refine g_goto X46 hx (hb hby d6_61) (by decide) (by decide) (pc' := 65) ?_
          exact g_retN X46 hx (t := .boolean) (by simp) hlk hret e46 (by decide) (by decide) (hb hby d6_65) ⟨own_b1 ⟨q0, q1, q2, q3⟩, rfl, rfl⟩
theorem ef_rm_eqN (m : MethodId) (x0 : Addr)  : entryFrame m #[(.ref x0), .null] 3 = mkF m 0 #[.val (.ref x0), .val .null, .unset] [] := by first | (simp [entryFrame, mkF, argsToLocals, Value.category]; done) | rfl
set_option maxRecDepth 65536 in
set_option maxHeartbeats 40000000 in
theorem rm_eqN (l : Launch) (Z : State) (a0 : Array Value) (hw : ∀ d ∈ tables_1, d.before a0 Z = true) (a : Addr) (h0 : Heap) :
    Ctr l Z (⟨"com/example/scanstride/scanstride/Color", "equals", "(Ljava/lang/Object;)Z"⟩ : MethodName) prog_16_method_33_code 3 (Option.some FieldType.boolean) [] ({ frames := 0, cells := 0, slots := 0, locals := 0 } : Room) ({ frames := 0, cells := 0, slots := 0, locals := 0 } : Room).cells ({ frames := 0, cells := 0, slots := 0, locals := 0 } : Room).slots #[(.ref a), .null] h0 (fun u h L => u = some (.int 0) ∧ L = [] ∧ h = h0) := by
  refine Ctr.of pn_36 ?_
  intro p e s m below meth c s₁ hx hby hml hown hnm hret hlk hZ X0 e0
  refine Goes.cast (ef_rm_eqN m a) ?_
  refine g_aload_n (i := 1) X0 hx (hb hby d6_0) (by rfl) rfl rfl ?_
  refine g_instNull X0 hx (hb hby d6_1) rfl ?_
  refine g_if_eq X0 hx (hb hby d6_4) (by decide) (pt := 64) (by decide) rfl (fun _ => ?_) (fun q_ => absurd (by decide) q_)
  refine g_iconst (v := (0 : Int32)) X0 hx (hb hby d6_64) (by decide) rfl ?_
  exact g_retN X0 hx (t := .boolean) (by simp) hlk hret e0 (by decide) (by decide) (hb hby d6_65) ⟨rfl, rfl, rfl⟩
theorem ef_rm_eqI (m : MethodId) (x0 : Addr) (x1 : Addr)  : entryFrame m #[(.ref x0), (.ref x1)] 3 = mkF m 0 #[.val (.ref x0), .val (.ref x1), .unset] [] := by first | (simp [entryFrame, mkF, argsToLocals, Value.category]; done) | rfl
set_option maxRecDepth 65536 in
set_option maxHeartbeats 40000000 in
theorem rm_eqI (l : Launch) (Z : State) (a0 : Array Value) (hw : ∀ d ∈ tables_1, d.before a0 Z = true) (a b : Addr) (h0 : Heap) (Eb : Exa Z h0 b "java/lang/Integer") :
    Ctr l Z (⟨"com/example/scanstride/scanstride/Color", "equals", "(Ljava/lang/Object;)Z"⟩ : MethodName) prog_16_method_33_code 3 (Option.some FieldType.boolean) [] ({ frames := 0, cells := 0, slots := 0, locals := 0 } : Room) ({ frames := 0, cells := 0, slots := 0, locals := 0 } : Room).cells ({ frames := 0, cells := 0, slots := 0, locals := 0 } : Room).slots #[(.ref a), (.ref b)] h0 (fun u h L => u = some (.int 0) ∧ L = [] ∧ h = h0) := by
  refine Ctr.of pn_36 ?_
  intro p e s m below meth c s₁ hx hby hml hown hnm hret hlk hZ X0 e0
  refine Goes.cast (ef_rm_eqI m a b) ?_
  refine g_aload_n (i := 1) X0 hx (hb hby d6_0) (by rfl) rfl rfl ?_
  refine g_instNo X0 hx hZ hown (wd hw 44 rfl) e0 Eb (own_notC (wd hw 53 rfl) (wd hw 54 rfl) (wd hw 55 rfl) (wd hw 5 rfl)) (hb hby d6_1) rfl ?_
  intro T49 X49 e49
  refine g_if_eq X49 hx (hb hby d6_4) (by decide) (pt := 64) (by decide) rfl (fun _ => ?_) (fun q_ => absurd (by decide) q_)
  refine g_iconst (v := (0 : Int32)) X49 hx (hb hby d6_64) (by decide) rfl ?_
  exact g_retN X49 hx (t := .boolean) (by simp) hlk hret e49 (by decide) (by decide) (hb hby d6_65) ⟨rfl, rfl, rfl⟩
theorem ef_rm0 (m : MethodId) (x0 : Int32) (x1 : Int32) (x2 : Int32)  : entryFrame m #[(.int x0), (.int x1), (.int x2)] maxLocals = mkF m 0 #[.val (.int x0), .val (.int x1), .val (.int x2), .unset, .unset, .unset, .unset, .unset, .unset, .unset] [] := by first | (simp [entryFrame, mkF, argsToLocals, Value.category, maxLocals]; done) | rfl
theorem pn_50 : plainFor x = true := by first | exact plainFor_of_name (by first | (simp [plainName, overriddenIn]; done) | decide +kernel) | decide +kernel
theorem pd_51 : parseMethodDescriptor "(I)Lcom/example/scanstride/scanstride/Color;" = some ⟨[.int], some (.object "com/example/scanstride/scanstride/Color")⟩ := by decide +kernel
theorem pd_53 : parseMethodDescriptor "(Ljava/lang/Object;)Z" = some ⟨[(.object "java/lang/Object")], some .boolean⟩ := by decide +kernel
theorem pd_57 : parseMethodDescriptor "(I)Ljava/lang/Integer;" = some ⟨[.int], some (.object "java/lang/Integer")⟩ := by decide +kernel
set_option maxRecDepth 65536 in
set_option maxHeartbeats 40000000 in
theorem rm0 (l : Launch) (Z : State) (a0 : Array Value) (hw : ∀ d ∈ tables_1, d.before a0 Z = true) (p0 p1 p2 : Int32) (h0 : Heap) (n0 : Nat) (Z0 : n0 ≤ h0.size) (ca : Addr) (ccl : Cell) (S_hi : Sta Z h0 "java/lang/Integer$IntegerCache" "high" "I" (.int 127)) (S_ca : Sta Z h0 "java/lang/Integer$IntegerCache" "cache" "[Ljava/lang/Integer;" (.ref ca)) (Ac : Arr Z h0 ca ccl (.object "java/lang/Integer")) (hcs : ccl.slots.size = 256) (hce : ∀ j, j < 256 → ∃ b, ccl.slots[j]? = some (.ref b) ∧ Exa Z h0 b "java/lang/Integer") :
    CtrW l Z x code maxLocals ret tables_1 room_1 24 4224 #[(.int p0), (.int p1), (.int p2)] h0 (fun v h L => v = some (.int 1) ∧ Fr n0 L) := by
  refine CtrW.of pn_50 ?_
  intro p e s m below meth c s₁ hx hby hml hown hnm hret hlk hZ X0 e0 hS hs0
  have hk : s.heap.size ≤ h0.size := by rw [hs0]; exact Nat.le_refl _
  refine Goes.cast (ef_rm0 m p0 p1 p2) ?_
  refine g_iload_n (i := 2) X0 hx (hb hby at_0) (by rfl) rfl ?_
  refine g_iconst (v := (2 : Int32)) X0 hx (hb hby at_1) (by decide) rfl ?_
  refine g_iushr X0 hx (hb hby at_2) rfl ?_
  refine g_iconst (v := (3 : Int32)) X0 hx (hb hby at_3) (by decide) rfl ?_
  refine g_iand X0 hx (hb hby at_4) rfl ?_
  refine g_bipush (v := (8 : Int32)) X0 hx (hb hby at_5) (by decide) rfl ?_
  refine g_imul X0 hx (hb hby at_7) rfl ?_
  refine g_istore_n (i := 3) X0 hx #[.val (.int p0), .val (.int p1), .val (.int p2), .val (.int (((XT.ushr p2 (2 : Int32)) &&& (3 : Int32)) * (8 : Int32))), .unset, .unset, .unset, .unset, .unset, .unset] (hb hby at_8) rfl rfl ?_
  generalize (((XT.ushr p2 (2 : Int32)) &&& (3 : Int32)) * (8 : Int32)) = sh
  refine g_sipush (v := (255 : Int32)) X0 hx (hb hby at_9) (by decide) rfl ?_
  refine g_iload_n (i := 3) X0 hx (hb hby at_12) (by rfl) rfl ?_
  refine g_ishl X0 hx (hb hby at_13) rfl ?_
  refine g_istore (i := 4) X0 hx #[.val (.int p0), .val (.int p1), .val (.int p2), .val (.int sh), .val (.int ((255 : Int32) <<< (sh &&& 31))), .unset, .unset, .unset, .unset, .unset] (hb hby at_14) rfl rfl ?_
  generalize ((255 : Int32) <<< (sh &&& 31)) = ms
  refine g_iload_n (i := 2) X0 hx (hb hby at_16) (by rfl) rfl ?_
  refine g_iconst (v := (3 : Int32)) X0 hx (hb hby at_17) (by decide) rfl ?_
  refine g_iand X0 hx (hb hby at_18) rfl ?_
  refine g_istore (i := 5) X0 hx #[.val (.int p0), .val (.int p1), .val (.int p2), .val (.int sh), .val (.int ms), .val (.int (p2 &&& (3 : Int32))), .unset, .unset, .unset, .unset] (hb hby at_19) rfl rfl ?_
  generalize (p2 &&& (3 : Int32)) = md
  have J57 : ∀ (ot : Int32), Goes p e below (KW s 24 4224 (fun v h L => v = some (.int 1) ∧ Fr n0 L)) s₁ (mkF m 57 #[.val (.int p0), .val (.int p1), .val (.int p2), .val (.int sh), .val (.int ms), .val (.int md), .val (.int ot), .unset, .unset, .unset] []) := by
    intro ot
    refine g_iload_n (i := 0) X0 hx (hb hby at_57) (by rfl) rfl ?_
    refine g_callSW X0 hx hZ hown (wd hw 0 rfl) (wd hw 1 rfl) (wd hw 2 rfl) (wd hw 3 rfl) (by decide) e0 hS hk (rm_mk l Z a0 hw p0 h0 n0 Z0) (by rw [hml]; rfl) [(.int p0)] [] rfl (lenOf pd_51 rfl) rfl (by show 0 + (5 + 11) + 36 ≤ _; decide) (by decide) (by decide) (by decide) (hb hby at_58) rfl ?_
    intro T51 v51 L51 k51 X51 hQ51 hS hk hZ hown
    obtain ⟨bx, rfl, N51, E1, Ex1, X0r, X1r, X2r, X3r⟩ := hQ51
    have N51 := Fr.app (Fr.nil n0) N51
    show Goes p e below _ T51 (mkF m 61 #[.val (.int p0), .val (.int p1), .val (.int p2), .val (.int sh), .val (.int ms), .val (.int md), .val (.int ot), .unset, .unset, .unset] [(.ref bx)])
    have Z1 : n0 ≤ T51.heap.size := Nat.le_trans Z0 E1.1
    refine g_astore (i := 7) X51 hx #[.val (.int p0), .val (.int p1), .val (.int p2), .val (.int sh), .val (.int ms), .val (.int md), .val (.int ot), .val (.ref bx), .unset, .unset] (hb hby at_61) rfl rfl rfl ?_
    refine g_iload (i := 6) X51 hx (hb hby at_63) (by rfl) rfl ?_
    refine g_callSW X51 hx hZ hown (wd hw 0 rfl) (wd hw 1 rfl) (wd hw 2 rfl) (wd hw 3 rfl) (by decide) rfl hS hk (rm_mk l Z a0 hw ot T51.heap n0 Z1) (by rw [hml]; rfl) [(.int ot)] [] rfl (lenOf pd_51 rfl) rfl (by show 0 + (5 + 11) + 36 ≤ _; decide) (by decide) (by decide) (by decide) (hb hby at_65) rfl ?_
    intro T52 v52 L52 k52 X52 hQ52 hS hk hZ hown
    obtain ⟨bz, rfl, N52, E2, Ey1, Y0r, Y1r, Y2r, Y3r⟩ := hQ52
    have N52 := Fr.app N51 N52
    show Goes p e below _ T52 (mkF m 68 #[.val (.int p0), .val (.int p1), .val (.int p2), .val (.int sh), .val (.int ms), .val (.int md), .val (.int ot), .val (.ref bx), .unset, .unset] [(.ref bz)])
    have Z2 : n0 ≤ T52.heap.size := Nat.le_trans Z1 E2.1
    have Exx := Ex1.ext E2
    have XX0 := X0r.ext E2
    have XX1 := X1r.ext E2
    have XX2 := X2r.ext E2
    have XX3 := X3r.ext E2
    have S_hi2 := (S_hi.ext E1).ext E2
    have S_ca2 := (S_ca.ext E1).ext E2
    have Ac2 := (Ac.ext E1).ext E2
    have hce2 : ∀ j, j < 256 → ∃ b, ccl.slots[j]? = some (.ref b) ∧ Exa Z T52.heap b "java/lang/Integer" := fun j hj => by obtain ⟨b, u1, u2⟩ := hce j hj; exact ⟨b, u1, (u2.ext E1).ext E2⟩
    refine g_astore (i := 8) X52 hx #[.val (.int p0), .val (.int p1), .val (.int p2), .val (.int sh), .val (.int ms), .val (.int md), .val (.int ot), .val (.ref bx), .val (.ref bz), .unset] (hb hby at_68) rfl rfl rfl ?_
    have J83 : ∀ (ex : Int32), ex = (if p0 = ot then 1 else 0) → Goes p e below (KW s 24 4224 (fun v h L => v = some (.int 1) ∧ Fr n0 L)) T52 (mkF m 83 #[.val (.int p0), .val (.int p1), .val (.int p2), .val (.int sh), .val (.int ms), .val (.int md), .val (.int ot), .val (.ref bx), .val (.ref bz), .val (.int ex)] []) := by
      intro ex hex
      have hsm : ∀ x y : Int32, (if cmpValue (FP.dcmp (own_c (XT.ushr x (24 : Int32) &&& (255 : Int32))) (own_c (XT.ushr y (24 : Int32) &&& (255 : Int32)))) .l = 0 ∧ cmpValue (FP.dcmp (own_c (XT.ushr x (16 : Int32) &&& (255 : Int32))) (own_c (XT.ushr y (16 : Int32) &&& (255 : Int32)))) .l = 0 ∧ cmpValue (FP.dcmp (own_c (XT.ushr x (8 : Int32) &&& (255 : Int32))) (own_c (XT.ushr y (8 : Int32) &&& (255 : Int32)))) .l = 0 ∧ cmpValue (FP.dcmp (own_c (x &&& (255 : Int32))) (own_c (y &&& (255 : Int32)))) .l = 0 then 1 else 0) = if x = y then (1 : Int32) else 0 := fun x y => by
        by_cases hxy : x = y
        · rw [if_pos hxy]; exact if_pos ((own_same_iff x y).mpr hxy)
        · rw [if_neg hxy]; exact if_neg (fun r => hxy ((own_same_iff x y).mp r))
      refine g_aload (i := 7) X52 hx (hb hby at_83) (by rfl) rfl rfl ?_
      refine g_aload (i := 8) X52 hx (hb hby at_85) (by rfl) rfl rfl ?_
      refine g_callV X52 hx hZ hown (wd hw 39 rfl) (wd hw 40 rfl) (wd hw 42 rfl) (wd hw 41 rfl) (wd hw 6 rfl) (wd hw 43 rfl) (by decide) rfl bx Exx (rm_eq l Z a0 hw bx bz (own_c (XT.ushr p0 (24 : Int32) &&& (255 : Int32))) (own_c (XT.ushr p0 (16 : Int32) &&& (255 : Int32))) (own_c (XT.ushr p0 (8 : Int32) &&& (255 : Int32))) (own_c (p0 &&& (255 : Int32))) (own_c (XT.ushr ot (24 : Int32) &&& (255 : Int32))) (own_c (XT.ushr ot (16 : Int32) &&& (255 : Int32))) (own_c (XT.ushr ot (8 : Int32) &&& (255 : Int32))) (own_c (ot &&& (255 : Int32))) T52.heap Ey1 XX0 Y0r XX1 Y1r XX2 Y2r XX3 Y3r) (by rw [hml]; rfl) [(.ref bz)] [] rfl (lenOf pd_53 rfl) rfl (by show 0 + (3 + 11) + 0 ≤ _; decide) (by decide) (by decide) (by decide) (hb hby at_87) rfl ?_
      intro T53 v53 L53 X53 hQ53
      obtain ⟨rfl, rfl, e53⟩ := hQ53
      have N53 := Fr.app N52 (Fr.nil n0)
      show Goes p e below _ T53 (mkF m 90 #[.val (.int p0), .val (.int p1), .val (.int p2), .val (.int sh), .val (.int ms), .val (.int md), .val (.int ot), .val (.ref bx), .val (.ref bz), .val (.int ex)] [(.int (if cmpValue (FP.dcmp (own_c (XT.ushr p0 (24 : Int32) &&& (255 : Int32))) (own_c (XT.ushr ot (24 : Int32) &&& (255 : Int32)))) .l = 0 ∧ cmpValue (FP.dcmp (own_c (XT.ushr p0 (16 : Int32) &&& (255 : Int32))) (own_c (XT.ushr ot (16 : Int32) &&& (255 : Int32)))) .l = 0 ∧ cmpValue (FP.dcmp (own_c (XT.ushr p0 (8 : Int32) &&& (255 : Int32))) (own_c (XT.ushr ot (8 : Int32) &&& (255 : Int32)))) .l = 0 ∧ cmpValue (FP.dcmp (own_c (p0 &&& (255 : Int32))) (own_c (ot &&& (255 : Int32)))) .l = 0 then 1 else 0))])
      refine g_iload (i := 9) X53 hx (hb hby at_90) (by rfl) rfl ?_
      refine g_icmp_ne X53 hx (hb hby at_92) (by decide) (pt := 142) (by decide) rfl (fun q_ => absurd ((hsm p0 ot).trans hex.symm) q_) (fun _ => ?_)
      refine g_aload (i := 8) X53 hx (hb hby at_95) (by rfl) rfl rfl ?_
      refine g_aload (i := 7) X53 hx (hb hby at_97) (by rfl) rfl rfl ?_
      refine g_callV X53 hx hZ hown (wd hw 39 rfl) (wd hw 40 rfl) (wd hw 42 rfl) (wd hw 41 rfl) (wd hw 6 rfl) (wd hw 43 rfl) (by decide) e53 bz Ey1 (rm_eq l Z a0 hw bz bx (own_c (XT.ushr ot (24 : Int32) &&& (255 : Int32))) (own_c (XT.ushr ot (16 : Int32) &&& (255 : Int32))) (own_c (XT.ushr ot (8 : Int32) &&& (255 : Int32))) (own_c (ot &&& (255 : Int32))) (own_c (XT.ushr p0 (24 : Int32) &&& (255 : Int32))) (own_c (XT.ushr p0 (16 : Int32) &&& (255 : Int32))) (own_c (XT.ushr p0 (8 : Int32) &&& (255 : Int32))) (own_c (p0 &&& (255 : Int32))) T52.heap Exx Y0r XX0 Y1r XX1 Y2r XX2 Y3r XX3) (by rw [hml]; rfl) [(.ref bx)] [] rfl (lenOf pd_53 rfl) rfl (by show 0 + (3 + 11) + 0 ≤ _; decide) (by decide) (by decide) (by decide) (hb hby at_99) rfl ?_
      intro T54 v54 L54 X54 hQ54
      obtain ⟨rfl, rfl, e54⟩ := hQ54
      have N54 := Fr.app N53 (Fr.nil n0)
      show Goes p e below _ T54 (mkF m 102 #[.val (.int p0), .val (.int p1), .val (.int p2), .val (.int sh), .val (.int ms), .val (.int md), .val (.int ot), .val (.ref bx), .val (.ref bz), .val (.int ex)] [(.int (if cmpValue (FP.dcmp (own_c (XT.ushr ot (24 : Int32) &&& (255 : Int32))) (own_c (XT.ushr p0 (24 : Int32) &&& (255 : Int32)))) .l = 0 ∧ cmpValue (FP.dcmp (own_c (XT.ushr ot (16 : Int32) &&& (255 : Int32))) (own_c (XT.ushr p0 (16 : Int32) &&& (255 : Int32)))) .l = 0 ∧ cmpValue (FP.dcmp (own_c (XT.ushr ot (8 : Int32) &&& (255 : Int32))) (own_c (XT.ushr p0 (8 : Int32) &&& (255 : Int32)))) .l = 0 ∧ cmpValue (FP.dcmp (own_c (ot &&& (255 : Int32))) (own_c (p0 &&& (255 : Int32)))) .l = 0 then 1 else 0))])
      refine g_iload (i := 9) X54 hx (hb hby at_102) (by rfl) rfl ?_
      refine g_icmp_ne X54 hx (hb hby at_104) (by decide) (pt := 142) (by decide) rfl (fun q_ => absurd ((hsm ot p0).trans (by rw [hex]; by_cases r : p0 = ot <;> simp [r, eq_comm])) q_) (fun _ => ?_)
      refine g_aload (i := 7) X54 hx (hb hby at_107) (by rfl) rfl rfl ?_
      refine g_aload (i := 7) X54 hx (hb hby at_109) (by rfl) rfl rfl ?_
      refine g_callV X54 hx hZ hown (wd hw 39 rfl) (wd hw 40 rfl) (wd hw 42 rfl) (wd hw 41 rfl) (wd hw 6 rfl) (wd hw 43 rfl) (by decide) e54 bx Exx (rm_eq l Z a0 hw bx bx (own_c (XT.ushr p0 (24 : Int32) &&& (255 : Int32))) (own_c (XT.ushr p0 (16 : Int32) &&& (255 : Int32))) (own_c (XT.ushr p0 (8 : Int32) &&& (255 : Int32))) (own_c (p0 &&& (255 : Int32))) (own_c (XT.ushr p0 (24 : Int32) &&& (255 : Int32))) (own_c (XT.ushr p0 (16 : Int32) &&& (255 : Int32))) (own_c (XT.ushr p0 (8 : Int32) &&& (255 : Int32))) (own_c (p0 &&& (255 : Int32))) T52.heap Exx XX0 XX0 XX1 XX1 XX2 XX2 XX3 XX3) (by rw [hml]; rfl) [(.ref bx)] [] rfl (lenOf pd_53 rfl) rfl (by show 0 + (3 + 11) + 0 ≤ _; decide) (by decide) (by decide) (by decide) (hb hby at_111) rfl ?_
      intro T55 v55 L55 X55 hQ55
      obtain ⟨rfl, rfl, e55⟩ := hQ55
      have N55 := Fr.app N54 (Fr.nil n0)
      show Goes p e below _ T55 (mkF m 114 #[.val (.int p0), .val (.int p1), .val (.int p2), .val (.int sh), .val (.int ms), .val (.int md), .val (.int ot), .val (.ref bx), .val (.ref bz), .val (.int ex)] [(.int (if cmpValue (FP.dcmp (own_c (XT.ushr p0 (24 : Int32) &&& (255 : Int32))) (own_c (XT.ushr p0 (24 : Int32) &&& (255 : Int32)))) .l = 0 ∧ cmpValue (FP.dcmp (own_c (XT.ushr p0 (16 : Int32) &&& (255 : Int32))) (own_c (XT.ushr p0 (16 : Int32) &&& (255 : Int32)))) .l = 0 ∧ cmpValue (FP.dcmp (own_c (XT.ushr p0 (8 : Int32) &&& (255 : Int32))) (own_c (XT.ushr p0 (8 : Int32) &&& (255 : Int32)))) .l = 0 ∧ cmpValue (FP.dcmp (own_c (p0 &&& (255 : Int32))) (own_c (p0 &&& (255 : Int32)))) .l = 0 then 1 else 0))])
      refine g_if_eq X55 hx (hb hby at_114) (by decide) (pt := 142) (by decide) rfl (fun q_ => absurd q_ (by rw [hsm p0 p0, if_pos rfl]; decide)) (fun _ => ?_)
      refine g_aload (i := 7) X55 hx (hb hby at_117) (by rfl) rfl rfl ?_
      refine g_aconst_null X55 hx (hb hby at_119) rfl ?_
      refine g_callV X55 hx hZ hown (wd hw 39 rfl) (wd hw 40 rfl) (wd hw 42 rfl) (wd hw 41 rfl) (wd hw 6 rfl) (wd hw 43 rfl) (by decide) e55 bx Exx (rm_eqN l Z a0 hw bx T52.heap) (by rw [hml]; rfl) [.null] [] rfl (lenOf pd_53 rfl) rfl (by show 0 + (3 + 11) + 0 ≤ _; decide) (by decide) (by decide) (by decide) (hb hby at_120) rfl ?_
      intro T56 v56 L56 X56 hQ56
      obtain ⟨rfl, rfl, e56⟩ := hQ56
      have N56 := Fr.app N55 (Fr.nil n0)
      show Goes p e below _ T56 (mkF m 123 #[.val (.int p0), .val (.int p1), .val (.int p2), .val (.int sh), .val (.int ms), .val (.int md), .val (.int ot), .val (.ref bx), .val (.ref bz), .val (.int ex)] [(.int (0 : Int32))])
      refine g_if_ne X56 hx (hb hby at_123) (by decide) (pt := 142) (by decide) rfl (fun q_ => absurd (by decide) q_) (fun _ => ?_)
      refine g_aload (i := 7) X56 hx (hb hby at_126) (by rfl) rfl rfl ?_
      refine g_iload_n (i := 0) X56 hx (hb hby at_128) (by rfl) rfl ?_
      refine g_callS X56 hx hZ hown (wd hw 46 rfl) (wd hw 47 rfl) (wd hw 48 rfl) (wd hw 49 rfl) (by decide) e56 (rm_vo l Z a0 hw p0 T52.heap n0 Z2 ca ccl S_hi2 S_ca2 Ac2 hcs hce2) (by rw [hml]; rfl) [(.int p0)] [(.ref bx)] rfl (lenOf pd_57 rfl) rfl (by show 1 + (1 + 11) + 38 ≤ _; decide) (by decide) (by decide) (by decide) (hb hby at_129) rfl ?_
      intro T57 v57 L57 X57 hQ57
      obtain ⟨bi, rfl, N57, E3, Ei⟩ := hQ57
      have N57 := Fr.app N56 N57
      show Goes p e below _ T57 (mkF m 132 #[.val (.int p0), .val (.int p1), .val (.int p2), .val (.int sh), .val (.int ms), .val (.int md), .val (.int ot), .val (.ref bx), .val (.ref bz), .val (.int ex)] [(.ref bi), (.ref bx)])
      refine g_callV X57 hx hZ hown (wd hw 39 rfl) (wd hw 40 rfl) (wd hw 42 rfl) (wd hw 41 rfl) (wd hw 6 rfl) (wd hw 43 rfl) (by decide) rfl bx (Exx.ext E3) (rm_eqI l Z a0 hw bx bi T57.heap Ei) (by rw [hml]; rfl) [(.ref bi)] [] rfl (lenOf pd_53 rfl) rfl (by show 0 + (3 + 11) + 0 ≤ _; decide) (by decide) (by decide) (by decide) (hb hby at_132) rfl ?_
      intro T58 v58 L58 X58 hQ58
      obtain ⟨rfl, rfl, e58⟩ := hQ58
      have N58 := Fr.app N57 (Fr.nil n0)
      show Goes p e below _ T58 (mkF m 135 #[.val (.int p0), .val (.int p1), .val (.int p2), .val (.int sh), .val (.int ms), .val (.int md), .val (.int ot), .val (.ref bx), .val (.ref bz), .val (.int ex)] [(.int (0 : Int32))])
      refine g_if_ne X58 hx (hb hby at_135) (by decide) (pt := 142) (by decide) rfl (fun q_ => absurd (by decide) q_) (fun _ => ?_)
      refine g_iconst (v := (1 : Int32)) X58 hx (hb hby at_138) (by decide) rfl ?_
      refine g_goto X58 hx (hb hby at_139) (by decide) (by decide) (pc' := 143) ?_
      exact g_retNW X58 hx (t := .boolean) (by simp) hlk hret e58 hS (Nat.le_trans hk E3.1) (by decide) (by decide) (hb hby at_143) ⟨rfl, N58⟩
    refine g_iload_n (i := 0) X52 hx (hb hby at_70) (by rfl) rfl ?_
    refine g_iload (i := 6) X52 hx (hb hby at_71) (by rfl) rfl ?_
    refine g_icmp_ne X52 hx (hb hby at_73) (by decide) (pt := 80) (by decide) rfl (fun qe => ?_) (fun qe => ?_)
    · refine g_iconst (v := (0 : Int32)) X52 hx (hb hby at_80) (by decide) rfl ?_
      refine g_istore (i := 9) X52 hx #[.val (.int p0), .val (.int p1), .val (.int p2), .val (.int sh), .val (.int ms), .val (.int md), .val (.int ot), .val (.ref bx), .val (.ref bz), .val (.int (0 : Int32))] (hb hby at_81) rfl rfl ?_
      exact J83 _ (by rw [if_neg qe])
    · refine g_iconst (v := (1 : Int32)) X52 hx (hb hby at_76) (by decide) rfl ?_
      refine g_goto X52 hx (hb hby at_77) (by decide) (by decide) (pc' := 81) ?_
      refine g_istore (i := 9) X52 hx #[.val (.int p0), .val (.int p1), .val (.int p2), .val (.int sh), .val (.int ms), .val (.int md), .val (.int ot), .val (.ref bx), .val (.ref bz), .val (.int (1 : Int32))] (hb hby at_81) rfl rfl ?_
      exact J83 _ (by rw [if_pos qe])
  refine g_iload (i := 5) X0 hx (hb hby at_21) (by rfl) rfl ?_
  refine g_if_ne X0 hx (hb hby at_23) (by decide) (pt := 32) (by decide) rfl (fun q59 => ?_) (fun q59 => ?_)
  · refine g_iload (i := 5) X0 hx (hb hby at_32) (by rfl) rfl ?_
    refine g_iconst (v := (1 : Int32)) X0 hx (hb hby at_34) (by decide) rfl ?_
    refine g_icmp_ne X0 hx (hb hby at_35) (by decide) (pt := 44) (by decide) rfl (fun q60 => ?_) (fun q60 => ?_)
    · refine g_iload_n (i := 0) X0 hx (hb hby at_44) (by rfl) rfl ?_
      refine g_iload (i := 4) X0 hx (hb hby at_45) (by rfl) rfl ?_
      refine g_iconst (v := (-1 : Int32)) X0 hx (hb hby at_47) (by decide) rfl ?_
      refine g_ixor X0 hx (hb hby at_48) rfl ?_
      refine g_iand X0 hx (hb hby at_49) rfl ?_
      refine g_iload_n (i := 1) X0 hx (hb hby at_50) (by rfl) rfl ?_
      refine g_iload (i := 4) X0 hx (hb hby at_51) (by rfl) rfl ?_
      refine g_iand X0 hx (hb hby at_53) rfl ?_
      refine g_ior X0 hx (hb hby at_54) rfl ?_
      refine g_istore (i := 6) X0 hx #[.val (.int p0), .val (.int p1), .val (.int p2), .val (.int sh), .val (.int ms), .val (.int md), .val (.int ((p0 &&& (ms ^^^ (-1 : Int32))) ||| (p1 &&& ms))), .unset, .unset, .unset] (hb hby at_55) rfl rfl ?_
      exact J57 _
    · refine g_iload_n (i := 0) X0 hx (hb hby at_38) (by rfl) rfl ?_
      refine g_istore (i := 6) X0 hx #[.val (.int p0), .val (.int p1), .val (.int p2), .val (.int sh), .val (.int ms), .val (.int md), .val (.int p0), .unset, .unset, .unset] (hb hby at_39) rfl rfl ?_
      refine g_goto X0 hx (hb hby at_41) (by decide) (by decide) (pc' := 57) ?_
      exact J57 _
  · refine g_iload_n (i := 1) X0 hx (hb hby at_26) (by rfl) rfl ?_
    refine g_istore (i := 6) X0 hx #[.val (.int p0), .val (.int p1), .val (.int p2), .val (.int sh), .val (.int ms), .val (.int md), .val (.int p1), .unset, .unset, .unset] (hb hby at_27) rfl rfl ?_
    refine g_goto X0 hx (hb hby at_29) (by decide) (by decide) (pc' := 57) ?_
    exact J57 _
set_option maxRecDepth 65536 in
set_option maxHeartbeats 40000000 in
theorem comes_1 {Post : Tables → Env → Array Value → State → Outcome → State → Prop} (hpost : ∀ tb e args s v u, (limb_1_1.after args s (.returned v) u = true ∧ limb_1_2.after args s (.returned v) u = true ∧ True) → ReturnedEndW s (.returned v) u (Jvm.fieldLocs frame_1_writes args s ++ Jvm.arrayLocs frame_1_arrays args s ++ Jvm.staticLocs frame_1_statics s) 24 4224 → Post tb e args s (.returned v) u) :
    ArmFor flags0 classFile x code maxLocals ret World_1 tables_1 room_1 Calls_1 rest_1 Pre_1 Post := by
  intro l hfl _ _ p e ha hc hk s m args below hf hA hF happ hP
  obtain ⟨hcalls, hrest, hpre⟩ := hP
  obtain ⟨-, -, -, hnamed, -, -, -, hat⟩ := (Spec.applies_iff hf).mp happ
  obtain ⟨hg, hn⟩ := and_e (Cond.before_iff.mp (show (Jvm.Cond.and given_1 narrow_1).before args s = true from hpre))
  obtain ⟨hcnt, hg0⟩ := and_e hg
  obtain ⟨w0, w1, w2, rfl⟩ : ∃ w0 w1 w2 : Value, args = #[w0, w1, w2] := by
    have hs : args.size = 3 := by simpa [Cond.value, given_1] using hcnt
    obtain ⟨L⟩ := args
    match L, hs with
    | [w0, w1, w2], _ => exact ⟨w0, w1, w2, rfl⟩
  have hw := fun d (hd : d ∈ tables_1) => atoms_spec (ws := Jvm.Cond.code x code maxLocals ret :: tables_1) hat d (List.mem_cons_of_mem _ hd)
  have hfit : Fit s := fun {y c} hc i hi => by
    obtain ⟨ha, rfl⟩ := Array.getElem?_eq_some_iff.mp hc
    have q := List.all_eq_true.mp ((Array.all_eq_true_iff_forall_mem.mp hF) _ (Array.getElem_mem ha)) i (List.mem_range.mpr hi)
    simpa [Array.getElem?_eq_getElem hi] using q
  obtain ⟨ha0, hg1⟩ := and_e hg0
  obtain ⟨i0, q0⟩ := is_v ha0
  obtain rfl : w0 = (.int i0) := Option.some.inj q0
  obtain ⟨ha1, hg2⟩ := and_e hg1
  obtain ⟨i1, q1⟩ := is_v ha1
  obtain rfl : w1 = (.int i1) := Option.some.inj q1
  obtain ⟨i2, q2⟩ := is_v hg2
  obtain rfl : w2 = (.int i2) := Option.some.inj q2
  obtain ⟨hsets, hown0⟩ := atoms_of _ (rest_1_c_eq ▸ (show rest_1_c.before _ s = true from hrest))
  have e_hi := Cond.eq_int (hsets _ (List.mem_of_getElem? (i := 3) rfl)) rfl
  have S_hi : Sta s s.heap "java/lang/Integer$IntegerCache" "high" "I" (.int 127) := Sta.start e_hi (Or.inl (hsets _ (List.mem_of_getElem? (i := 1) rfl)))
  obtain ⟨ca, e_ca⟩ := exa_v (Cond.before_iff.mp (hsets _ (List.mem_of_getElem? (i := 5) rfl)))
  have S_ca : Sta s s.heap "java/lang/Integer$IntegerCache" "cache" "[Ljava/lang/Integer;" (.ref ca) := Sta.start e_ca (Or.inr ⟨(wd hw 51 rfl), hsets _ (List.mem_of_getElem? (i := 2) rfl)⟩)
  obtain ⟨ccl, Ac⟩ := Arr.start e_ca (Cond.before_iff.mp (hsets _ (List.mem_of_getElem? (i := 4) rfl)))
  have harr := Ac.fin (Vm.Alike.refl _)
  have hlen := Cond.eq_int (hsets _ (List.mem_of_getElem? (i := 6) rfl)) rfl
  have hcs : ccl.slots.size = 256 := by
    have h31 := Jvm.Free.SBG.length_lt e_ca harr hlen
    rw [len_f e_ca harr h31] at hlen
    have e1 := congrArg Int32.toInt (Value.int.inj (Option.some.inj hlen))
    rw [len_toInt h31] at e1
    have e2 : (256 : Int32).toInt = 256 := rfl
    omega
  have hce : ∀ j, j < 256 → ∃ b, ccl.slots[j]? = some (.ref b) ∧ Exa s s.heap b "java/lang/Integer" := fun j hj => by
    have n7 := Cond.before_iff.mp (hsets _ (List.mem_of_getElem? (i := 7) rfl))
    unfold Cond.value at n7
    simp only [e_ca, harr] at n7
    have n8 := (own_foldl _ _ _ n7).2 j (List.mem_range.mpr (by omega))
    have n9 := (and_e n8).1
    obtain ⟨b, eb⟩ := exa_v n9
    have ej : (Term.index 0).eval #[.int i0, .int i1, .int i2] s none [j] s = some (.int j.toInt32) := Term.index_eval _
    have q := elem_in (x := ca) (j := j.toInt32) (cl := ccl) eb e_ca ej Ac.1
    have ejc : (j.toInt32).toNatClampNeg = j := by rw [own_tnc, len_toInt (by omega)]; rfl
    rw [ejc] at q
    exact ⟨b, q.2, exa_at eb n9⟩
  obtain ⟨n, o, h1, h2, h3, _, L, rfl, ⟨rfl, N⟩, hq⟩ := rm0 l s _ hw i0 i1 i2 s.heap s.heap.size (Nat.le_refl _) ca ccl S_hi S_ca Ac hcs hce p e ha hc hk s m _ below hf ((Spec.applies_iff_loose hf).mp happ).1 ⟨rfl, State.Warmed39.refl s, rfl⟩ trivial
  refine ⟨n, _, h1, h2, h3, hpost _ _ _ _ _ _ ⟨Cond.after_iff.mpr rfl, Cond.after_iff.mpr (eq_i res_at (Term.int_eval (1)) rfl), trivial⟩ ⟨hq.1, hq.2.1, hq.2.2.1, (hq.2.2.2.sift fun y hy => Or.inr (N y hy)).mono (by decide) (by decide)⟩⟩
theorem main_1_1 : Claimed_1_1 := comes_1 fun _ _ _ _ _ _ h hF => ⟨h.1, hF⟩
theorem main_1_2 : Claimed_1_2 := comes_1 fun _ _ _ _ _ _ h hF => ⟨h.2.1, hF⟩
end Jvm.Pilot.@@N@@
namespace Jvm.Pilot.@@N@@
open Jvm Jvm.ClassFile Sem Op Lib Jvm.Free Jvm.Stand Jvm.Pilot.@@N@@.Jvm.D
/-! MADE BY PROGRAM (witnessworld.py) out of the Statement's table words and the real class files: 18 classes; the members and pool entries that the words name. The judged class is class 1, her method 2. -/
namespace start1
open Jvm.ClassFile
def u (s : String) : CpInfo := .utf8 (stringToUtf16 s)
/-- a pool by its gaps: so many unusable entries, then the entry; so many at the end -/
def gap : Nat → List CpInfo → List CpInfo
  | 0, r => r
  | n + 1, r => .unusable :: gap n r
def poolList (es : List (Nat × CpInfo)) (last : Nat) : List CpInfo := es.foldr (fun e r => gap e.1 (e.2 :: r)) (gap last [])
def pool (es : List (Nat × CpInfo)) (last : Nat) : Array CpInfo := ⟨poolList es last⟩
def fileOf (pool : Array CpInfo) (this : Nat) (attrs : Array Attribute := #[]) (ms : Array MethodInfo := #[]) (fl : Nat := 33) (sup : Nat := 0) (ifs : Array Nat := #[]) (fds : Array FieldInfo := #[]) : ClassFile where
  minorVersion := 0
  majorVersion := 65
  constantPool := pool
  accessFlags := fl
  thisClass := this
  superClass := sup
  interfaces := ifs
  fields := fds
  methods := ms
  attributes := attrs
def plain (name : String) (sup : Option ClassId) : Class where
  name := name
  kind := .ordinary
  loader := none
  accessFlags := 33
  super := sup
  interfaces := #[]
  cf := none
  fields := #[]
  methods := #[]
  instanceTypes := #[]
  staticTypes := #[]
  resolved := #[]
  callSites := []
  init := .initialized
  statics := none
  mirror := none

def pool0 : Array CpInfo := pool [(5, u "<init>"), (0, u "()V"), (1, .class_ 10), (1, u "java/lang/Object")] 113

def k0c0 : Code := { maxStack := 0, maxLocals := 1, code := object_method_1_code, exceptionTable := #[], attributes := #[] }
def k0m0 : Method := { name := "<init>", desc := "()V", sig := { parameters := [], returnType := none }, accessFlags := 1, code := some k0c0 }
/-- java/lang/Object -/
def k0 : Class := { plain "java/lang/Object" none with
  accessFlags := 33
  interfaces := #[]
  cf := some (fileOf pool0 8 #[] #[{ accessFlags := 1, nameIndex := 5, descriptorIndex := 6, attributes := #[] }] 33 0 #[] #[])
  fields := #[]
  methods := #[k0m0]
  instanceTypes := #[]
  staticTypes := #[]
  resolved := Array.replicate 124 none
  statics := none }

def pool1 : Array CpInfo := pool [(2, .class_ 4), (1, u "java/lang/Object"), (0, u "<init>"), (0, u "()V"), (0, .class_ 8), (0, u "com/example/scanstride/scanstride/Color"), (0, .double 4643176031446892544), (1, .methodref 7 12), (0, .nameAndType 5 13), (0, u "(DDDD)V"), (0, .methodref 15 16), (0, .class_ 17), (0, .nameAndType 18 19), (0, u "com/example/scanstride/scanstride/ColorEqualsPinLaw"), (0, u "make"), (0, u "(I)Lcom/example/scanstride/scanstride/Color;"), (0, .methodref 7 21), (0, .nameAndType 22 23), (0, u "equals"), (0, u "(Ljava/lang/Object;)Z"), (0, .methodref 25 26), (0, .class_ 27), (0, .nameAndType 28 29), (0, u "java/lang/Integer"), (0, u "valueOf"), (0, u "(I)Ljava/lang/Integer;"), (2, u "law"), (0, u "(III)Z")] 3

def k1m0 : Method := { name := "<init>", desc := "()V", sig := { parameters := [], returnType := none }, accessFlags := 2, code := none }
def k1c1 : Code := { maxStack := 12, maxLocals := 5, code := method_2_code, exceptionTable := #[], attributes := #[] }
def k1m1 : Method := { name := "make", desc := "(I)Lcom/example/scanstride/scanstride/Color;", sig := { parameters := [.int], returnType := some (.object "com/example/scanstride/scanstride/Color") }, accessFlags := 10, code := some k1c1 }
def k1c2 : Code := { maxStack := 3, maxLocals := 10, code := code, exceptionTable := #[], attributes := #[] }
def k1m2 : Method := { name := "law", desc := "(III)Z", sig := { parameters := [.int, .int, .int], returnType := some .boolean }, accessFlags := 9, code := some k1c2 }
/-- com/example/scanstride/scanstride/ColorEqualsPinLaw -/
def k1 : Class := { plain "com/example/scanstride/scanstride/ColorEqualsPinLaw" (some 0) with
  accessFlags := 49
  interfaces := #[]
  cf := some (fileOf pool1 15 #[] #[{ accessFlags := 2, nameIndex := 5, descriptorIndex := 6, attributes := #[] }, { accessFlags := 10, nameIndex := 18, descriptorIndex := 19, attributes := #[] }, { accessFlags := 9, nameIndex := 32, descriptorIndex := 33, attributes := #[] }] 49 2 #[] #[])
  fields := #[]
  methods := #[k1m0, k1m1, k1m2]
  instanceTypes := #[]
  staticTypes := #[]
  resolved := Array.replicate 37 none
  statics := none }

def pool2 : Array CpInfo := pool [(1, .methodref 2 3), (0, .class_ 4), (0, .nameAndType 5 6), (0, u "java/lang/Object"), (0, u "<init>"), (0, u "()V"), (0, .string 8), (0, u "red"), (0, .methodref 10 11), (0, .class_ 12), (0, .nameAndType 13 14), (0, u "com/example/scanstride/scanstride/Color"), (0, u "checkComponent"), (0, u "(Ljava/lang/String;D)D"), (0, .methodref 10 16), (0, .nameAndType 17 18), (0, u "nearestFloat"), (0, u "(D)D"), (0, .fieldref 10 20), (0, .nameAndType 8 21), (0, u "D"), (0, .string 23), (0, u "green"), (0, .fieldref 10 25), (0, .nameAndType 23 21), (0, .string 27), (0, u "blue"), (0, .fieldref 10 29), (0, .nameAndType 27 21), (0, .string 31), (0, u "opacity"), (0, .fieldref 10 33), (0, .nameAndType 31 21), (10, u "(DDDD)V"), (232, u "equals"), (0, u "(Ljava/lang/Object;)Z"), (351, u "ALICEBLUE"), (0, u "Lcom/example/scanstride/scanstride/Color;"), (2, u "ANTIQUEWHITE"), (2, u "AQUA"), (2, u "AQUAMARINE"), (2, u "AZURE"), (2, u "BEIGE"), (2, u "BISQUE"), (2, u "BLACK"), (2, u "BLANCHEDALMOND"), (2, u "BLUE"), (2, u "BLUEVIOLET"), (2, u "BROWN"), (2, u "BURLYWOOD"), (2, u "CADETBLUE"), (2, u "CHARTREUSE"), (2, u "CHOCOLATE"), (2, u "CORAL"), (2, u "CORNFLOWERBLUE"), (2, u "CORNSILK"), (2, u "CRIMSON"), (2, u "CYAN"), (2, u "DARKBLUE"), (2, u "DARKCYAN"), (2, u "DARKGOLDENROD"), (2, u "DARKGRAY"), (2, u "DARKGREEN"), (2, u "DARKGREY"), (2, u "DARKKHAKI"), (2, u "DARKMAGENTA"), (2, u "DARKOLIVEGREEN"), (2, u "DARKORANGE"), (2, u "DARKORCHID"), (2, u "DARKRED"), (2, u "DARKSALMON"), (2, u "DARKSEAGREEN"), (2, u "DARKSLATEBLUE"), (2, u "DARKSLATEGRAY"), (2, u "DARKSLATEGREY"), (2, u "DARKTURQUOISE"), (2, u "DARKVIOLET"), (2, u "DEEPPINK"), (2, u "DEEPSKYBLUE"), (2, u "DIMGRAY"), (2, u "DIMGREY"), (2, u "DODGERBLUE"), (2, u "FIREBRICK"), (2, u "FLORALWHITE"), (2, u "FORESTGREEN"), (2, u "FUCHSIA"), (2, u "GAINSBORO"), (2, u "GHOSTWHITE"), (2, u "GOLD"), (2, u "GOLDENROD"), (2, u "GRAY"), (2, u "GREEN"), (2, u "GREENYELLOW"), (2, u "GREY"), (2, u "HONEYDEW"), (2, u "HOTPINK"), (2, u "INDIANRED"), (2, u "INDIGO"), (2, u "IVORY"), (2, u "KHAKI"), (2, u "LAVENDER"), (2, u "LAVENDERBLUSH"), (2, u "LAWNGREEN"), (2, u "LEMONCHIFFON"), (2, u "LIGHTBLUE"), (2, u "LIGHTCORAL"), (2, u "LIGHTCYAN"), (2, u "LIGHTGOLDENRODYELLOW"), (2, u "LIGHTGRAY"), (2, u "LIGHTGREEN"), (2, u "LIGHTGREY"), (2, u "LIGHTPINK"), (2, u "LIGHTSALMON"), (2, u "LIGHTSEAGREEN"), (2, u "LIGHTSKYBLUE"), (2, u "LIGHTSLATEGRAY"), (2, u "LIGHTSLATEGREY"), (2, u "LIGHTSTEELBLUE"), (2, u "LIGHTYELLOW"), (2, u "LIME"), (2, u "LIMEGREEN"), (2, u "LINEN"), (2, u "MAGENTA"), (2, u "MAROON"), (2, u "MEDIUMAQUAMARINE"), (2, u "MEDIUMBLUE"), (2, u "MEDIUMORCHID"), (2, u "MEDIUMPURPLE"), (2, u "MEDIUMSEAGREEN"), (2, u "MEDIUMSLATEBLUE"), (2, u "MEDIUMSPRINGGREEN"), (2, u "MEDIUMTURQUOISE"), (2, u "MEDIUMVIOLETRED"), (2, u "MIDNIGHTBLUE"), (2, u "MINTCREAM"), (2, u "MISTYROSE"), (2, u "MOCCASIN"), (2, u "NAVAJOWHITE"), (2, u "NAVY"), (2, u "OLDLACE"), (2, u "OLIVE"), (2, u "OLIVEDRAB"), (2, u "ORANGE"), (2, u "ORANGERED"), (2, u "ORCHID"), (2, u "PALEGOLDENROD"), (2, u "PALEGREEN"), (2, u "PALETURQUOISE"), (2, u "PALEVIOLETRED"), (2, u "PAPAYAWHIP"), (2, u "PEACHPUFF"), (2, u "PERU"), (2, u "PINK"), (2, u "PLUM"), (2, u "POWDERBLUE"), (2, u "PURPLE"), (2, u "RED"), (2, u "ROSYBROWN"), (2, u "ROYALBLUE"), (2, u "SADDLEBROWN"), (2, u "SALMON"), (2, u "SANDYBROWN"), (2, u "SEAGREEN"), (2, u "SEASHELL"), (2, u "SIENNA"), (2, u "SILVER"), (2, u "SKYBLUE"), (2, u "SLATEBLUE"), (2, u "SLATEGRAY"), (2, u "SLATEGREY"), (2, u "SNOW"), (2, u "SPRINGGREEN"), (2, u "STEELBLUE"), (2, u "TAN"), (2, u "TEAL"), (2, u "THISTLE"), (2, u "TOMATO"), (2, u "TRANSPARENT"), (2, u "TURQUOISE"), (2, u "VIOLET"), (2, u "WHEAT"), (2, u "WHITE"), (2, u "WHITESMOKE"), (2, u "YELLOW"), (2, u "YELLOWGREEN"), (3, u "MAX_EIGHT_BIT"), (0, u "I"), (2, u "MAX_PERCENT"), (1, u "DEGREES_PER_TURN"), (0, u "SIXTHS_PER_TURN"), (0, u "SHADING_FACTOR"), (0, u "BRIGHTENED_BLACK"), (0, u "GRAY_RED_WEIGHT"), (0, u "GRAY_GREEN_WEIGHT"), (0, u "GRAY_BLUE_WEIGHT")] 84

def k2c0 : Code := { maxStack := 4, maxLocals := 9, code := prog_16_method_1_code, exceptionTable := #[], attributes := #[] }
def k2m0 : Method := { name := "<init>", desc := "(DDDD)V", sig := { parameters := [.double, .double, .double, .double], returnType := none }, accessFlags := 1, code := some k2c0 }
def k2c1 : Code := { maxStack := 4, maxLocals := 3, code := prog_16_method_33_code, exceptionTable := #[], attributes := #[] }
def k2m1 : Method := { name := "equals", desc := "(Ljava/lang/Object;)Z", sig := { parameters := [(.object "java/lang/Object")], returnType := some .boolean }, accessFlags := 1, code := some k2c1 }
def k2c2 : Code := { maxStack := 5, maxLocals := 3, code := prog_16_method_36_code, exceptionTable := #[], attributes := #[] }
def k2m2 : Method := { name := "checkComponent", desc := "(Ljava/lang/String;D)D", sig := { parameters := [(.object "java/lang/String"), .double], returnType := some .double }, accessFlags := 10, code := some k2c2 }
def k2c3 : Code := { maxStack := 4, maxLocals := 2, code := prog_16_method_37_code, exceptionTable := #[], attributes := #[] }
def k2m3 : Method := { name := "nearestFloat", desc := "(D)D", sig := { parameters := [.double], returnType := some .double }, accessFlags := 10, code := some k2c3 }
/-- com/example/scanstride/scanstride/Color -/
def k2 : Class := { plain "com/example/scanstride/scanstride/Color" (some 0) with
  accessFlags := 49
  interfaces := #[]
  cf := some (fileOf pool2 10 #[] #[{ accessFlags := 1, nameIndex := 5, descriptorIndex := 44, attributes := #[] }, { accessFlags := 1, nameIndex := 277, descriptorIndex := 278, attributes := #[] }, { accessFlags := 10, nameIndex := 13, descriptorIndex := 14, attributes := #[] }, { accessFlags := 10, nameIndex := 17, descriptorIndex := 18, attributes := #[] }] 49 2 #[] #[{ accessFlags := 25, nameIndex := 630, descriptorIndex := 631, attributes := #[] }, { accessFlags := 25, nameIndex := 634, descriptorIndex := 631, attributes := #[] }, { accessFlags := 25, nameIndex := 637, descriptorIndex := 631, attributes := #[] }, { accessFlags := 25, nameIndex := 640, descriptorIndex := 631, attributes := #[] }, { accessFlags := 25, nameIndex := 643, descriptorIndex := 631, attributes := #[] }, { accessFlags := 25, nameIndex := 646, descriptorIndex := 631, attributes := #[] }, { accessFlags := 25, nameIndex := 649, descriptorIndex := 631, attributes := #[] }, { accessFlags := 25, nameIndex := 652, descriptorIndex := 631, attributes := #[] }, { accessFlags := 25, nameIndex := 655, descriptorIndex := 631, attributes := #[] }, { accessFlags := 25, nameIndex := 658, descriptorIndex := 631, attributes := #[] }, { accessFlags := 25, nameIndex := 661, descriptorIndex := 631, attributes := #[] }, { accessFlags := 25, nameIndex := 664, descriptorIndex := 631, attributes := #[] }, { accessFlags := 25, nameIndex := 667, descriptorIndex := 631, attributes := #[] }, { accessFlags := 25, nameIndex := 670, descriptorIndex := 631, attributes := #[] }, { accessFlags := 25, nameIndex := 673, descriptorIndex := 631, attributes := #[] }, { accessFlags := 25, nameIndex := 676, descriptorIndex := 631, attributes := #[] }, { accessFlags := 25, nameIndex := 679, descriptorIndex := 631, attributes := #[] }, { accessFlags := 25, nameIndex := 682, descriptorIndex := 631, attributes := #[] }, { accessFlags := 25, nameIndex := 685, descriptorIndex := 631, attributes := #[] }, { accessFlags := 25, nameIndex := 688, descriptorIndex := 631, attributes := #[] }, { accessFlags := 25, nameIndex := 691, descriptorIndex := 631, attributes := #[] }, { accessFlags := 25, nameIndex := 694, descriptorIndex := 631, attributes := #[] }, { accessFlags := 25, nameIndex := 697, descriptorIndex := 631, attributes := #[] }, { accessFlags := 25, nameIndex := 700, descriptorIndex := 631, attributes := #[] }, { accessFlags := 25, nameIndex := 703, descriptorIndex := 631, attributes := #[] }, { accessFlags := 25, nameIndex := 706, descriptorIndex := 631, attributes := #[] }, { accessFlags := 25, nameIndex := 709, descriptorIndex := 631, attributes := #[] }, { accessFlags := 25, nameIndex := 712, descriptorIndex := 631, attributes := #[] }, { accessFlags := 25, nameIndex := 715, descriptorIndex := 631, attributes := #[] }, { accessFlags := 25, nameIndex := 718, descriptorIndex := 631, attributes := #[] }, { accessFlags := 25, nameIndex := 721, descriptorIndex := 631, attributes := #[] }, { accessFlags := 25, nameIndex := 724, descriptorIndex := 631, attributes := #[] }, { accessFlags := 25, nameIndex := 727, descriptorIndex := 631, attributes := #[] }, { accessFlags := 25, nameIndex := 730, descriptorIndex := 631, attributes := #[] }, { accessFlags := 25, nameIndex := 733, descriptorIndex := 631, attributes := #[] }, { accessFlags := 25, nameIndex := 736, descriptorIndex := 631, attributes := #[] }, { accessFlags := 25, nameIndex := 739, descriptorIndex := 631, attributes := #[] }, { accessFlags := 25, nameIndex := 742, descriptorIndex := 631, attributes := #[] }, { accessFlags := 25, nameIndex := 745, descriptorIndex := 631, attributes := #[] }, { accessFlags := 25, nameIndex := 748, descriptorIndex := 631, attributes := #[] }, { accessFlags := 25, nameIndex := 751, descriptorIndex := 631, attributes := #[] }, { accessFlags := 25, nameIndex := 754, descriptorIndex := 631, attributes := #[] }, { accessFlags := 25, nameIndex := 757, descriptorIndex := 631, attributes := #[] }, { accessFlags := 25, nameIndex := 760, descriptorIndex := 631, attributes := #[] }, { accessFlags := 25, nameIndex := 763, descriptorIndex := 631, attributes := #[] }, { accessFlags := 25, nameIndex := 766, descriptorIndex := 631, attributes := #[] }, { accessFlags := 25, nameIndex := 769, descriptorIndex := 631, attributes := #[] }, { accessFlags := 25, nameIndex := 772, descriptorIndex := 631, attributes := #[] }, { accessFlags := 25, nameIndex := 775, descriptorIndex := 631, attributes := #[] }, { accessFlags := 25, nameIndex := 778, descriptorIndex := 631, attributes := #[] }, { accessFlags := 25, nameIndex := 781, descriptorIndex := 631, attributes := #[] }, { accessFlags := 25, nameIndex := 784, descriptorIndex := 631, attributes := #[] }, { accessFlags := 25, nameIndex := 787, descriptorIndex := 631, attributes := #[] }, { accessFlags := 25, nameIndex := 790, descriptorIndex := 631, attributes := #[] }, { accessFlags := 25, nameIndex := 793, descriptorIndex := 631, attributes := #[] }, { accessFlags := 25, nameIndex := 796, descriptorIndex := 631, attributes := #[] }, { accessFlags := 25, nameIndex := 799, descriptorIndex := 631, attributes := #[] }, { accessFlags := 25, nameIndex := 802, descriptorIndex := 631, attributes := #[] }, { accessFlags := 25, nameIndex := 805, descriptorIndex := 631, attributes := #[] }, { accessFlags := 25, nameIndex := 808, descriptorIndex := 631, attributes := #[] }, { accessFlags := 25, nameIndex := 811, descriptorIndex := 631, attributes := #[] }, { accessFlags := 25, nameIndex := 814, descriptorIndex := 631, attributes := #[] }, { accessFlags := 25, nameIndex := 817, descriptorIndex := 631, attributes := #[] }, { accessFlags := 25, nameIndex := 820, descriptorIndex := 631, attributes := #[] }, { accessFlags := 25, nameIndex := 823, descriptorIndex := 631, attributes := #[] }, { accessFlags := 25, nameIndex := 826, descriptorIndex := 631, attributes := #[] }, { accessFlags := 25, nameIndex := 829, descriptorIndex := 631, attributes := #[] }, { accessFlags := 25, nameIndex := 832, descriptorIndex := 631, attributes := #[] }, { accessFlags := 25, nameIndex := 835, descriptorIndex := 631, attributes := #[] }, { accessFlags := 25, nameIndex := 838, descriptorIndex := 631, attributes := #[] }, { accessFlags := 25, nameIndex := 841, descriptorIndex := 631, attributes := #[] }, { accessFlags := 25, nameIndex := 844, descriptorIndex := 631, attributes := #[] }, { accessFlags := 25, nameIndex := 847, descriptorIndex := 631, attributes := #[] }, { accessFlags := 25, nameIndex := 850, descriptorIndex := 631, attributes := #[] }, { accessFlags := 25, nameIndex := 853, descriptorIndex := 631, attributes := #[] }, { accessFlags := 25, nameIndex := 856, descriptorIndex := 631, attributes := #[] }, { accessFlags := 25, nameIndex := 859, descriptorIndex := 631, attributes := #[] }, { accessFlags := 25, nameIndex := 862, descriptorIndex := 631, attributes := #[] }, { accessFlags := 25, nameIndex := 865, descriptorIndex := 631, attributes := #[] }, { accessFlags := 25, nameIndex := 868, descriptorIndex := 631, attributes := #[] }, { accessFlags := 25, nameIndex := 871, descriptorIndex := 631, attributes := #[] }, { accessFlags := 25, nameIndex := 874, descriptorIndex := 631, attributes := #[] }, { accessFlags := 25, nameIndex := 877, descriptorIndex := 631, attributes := #[] }, { accessFlags := 25, nameIndex := 880, descriptorIndex := 631, attributes := #[] }, { accessFlags := 25, nameIndex := 883, descriptorIndex := 631, attributes := #[] }, { accessFlags := 25, nameIndex := 886, descriptorIndex := 631, attributes := #[] }, { accessFlags := 25, nameIndex := 889, descriptorIndex := 631, attributes := #[] }, { accessFlags := 25, nameIndex := 892, descriptorIndex := 631, attributes := #[] }, { accessFlags := 25, nameIndex := 895, descriptorIndex := 631, attributes := #[] }, { accessFlags := 25, nameIndex := 898, descriptorIndex := 631, attributes := #[] }, { accessFlags := 25, nameIndex := 901, descriptorIndex := 631, attributes := #[] }, { accessFlags := 25, nameIndex := 904, descriptorIndex := 631, attributes := #[] }, { accessFlags := 25, nameIndex := 907, descriptorIndex := 631, attributes := #[] }, { accessFlags := 25, nameIndex := 910, descriptorIndex := 631, attributes := #[] }, { accessFlags := 25, nameIndex := 913, descriptorIndex := 631, attributes := #[] }, { accessFlags := 25, nameIndex := 916, descriptorIndex := 631, attributes := #[] }, { accessFlags := 25, nameIndex := 919, descriptorIndex := 631, attributes := #[] }, { accessFlags := 25, nameIndex := 922, descriptorIndex := 631, attributes := #[] }, { accessFlags := 25, nameIndex := 925, descriptorIndex := 631, attributes := #[] }, { accessFlags := 25, nameIndex := 928, descriptorIndex := 631, attributes := #[] }, { accessFlags := 25, nameIndex := 931, descriptorIndex := 631, attributes := #[] }, { accessFlags := 25, nameIndex := 934, descriptorIndex := 631, attributes := #[] }, { accessFlags := 25, nameIndex := 937, descriptorIndex := 631, attributes := #[] }, { accessFlags := 25, nameIndex := 940, descriptorIndex := 631, attributes := #[] }, { accessFlags := 25, nameIndex := 943, descriptorIndex := 631, attributes := #[] }, { accessFlags := 25, nameIndex := 946, descriptorIndex := 631, attributes := #[] }, { accessFlags := 25, nameIndex := 949, descriptorIndex := 631, attributes := #[] }, { accessFlags := 25, nameIndex := 952, descriptorIndex := 631, attributes := #[] }, { accessFlags := 25, nameIndex := 955, descriptorIndex := 631, attributes := #[] }, { accessFlags := 25, nameIndex := 958, descriptorIndex := 631, attributes := #[] }, { accessFlags := 25, nameIndex := 961, descriptorIndex := 631, attributes := #[] }, { accessFlags := 25, nameIndex := 964, descriptorIndex := 631, attributes := #[] }, { accessFlags := 25, nameIndex := 967, descriptorIndex := 631, attributes := #[] }, { accessFlags := 25, nameIndex := 970, descriptorIndex := 631, attributes := #[] }, { accessFlags := 25, nameIndex := 973, descriptorIndex := 631, attributes := #[] }, { accessFlags := 25, nameIndex := 976, descriptorIndex := 631, attributes := #[] }, { accessFlags := 25, nameIndex := 979, descriptorIndex := 631, attributes := #[] }, { accessFlags := 25, nameIndex := 982, descriptorIndex := 631, attributes := #[] }, { accessFlags := 25, nameIndex := 985, descriptorIndex := 631, attributes := #[] }, { accessFlags := 25, nameIndex := 988, descriptorIndex := 631, attributes := #[] }, { accessFlags := 25, nameIndex := 991, descriptorIndex := 631, attributes := #[] }, { accessFlags := 25, nameIndex := 994, descriptorIndex := 631, attributes := #[] }, { accessFlags := 25, nameIndex := 997, descriptorIndex := 631, attributes := #[] }, { accessFlags := 25, nameIndex := 1000, descriptorIndex := 631, attributes := #[] }, { accessFlags := 25, nameIndex := 1003, descriptorIndex := 631, attributes := #[] }, { accessFlags := 25, nameIndex := 1006, descriptorIndex := 631, attributes := #[] }, { accessFlags := 25, nameIndex := 1009, descriptorIndex := 631, attributes := #[] }, { accessFlags := 25, nameIndex := 1012, descriptorIndex := 631, attributes := #[] }, { accessFlags := 25, nameIndex := 1015, descriptorIndex := 631, attributes := #[] }, { accessFlags := 25, nameIndex := 1018, descriptorIndex := 631, attributes := #[] }, { accessFlags := 25, nameIndex := 1021, descriptorIndex := 631, attributes := #[] }, { accessFlags := 25, nameIndex := 1024, descriptorIndex := 631, attributes := #[] }, { accessFlags := 25, nameIndex := 1027, descriptorIndex := 631, attributes := #[] }, { accessFlags := 25, nameIndex := 1030, descriptorIndex := 631, attributes := #[] }, { accessFlags := 25, nameIndex := 1033, descriptorIndex := 631, attributes := #[] }, { accessFlags := 25, nameIndex := 1036, descriptorIndex := 631, attributes := #[] }, { accessFlags := 25, nameIndex := 1039, descriptorIndex := 631, attributes := #[] }, { accessFlags := 25, nameIndex := 1042, descriptorIndex := 631, attributes := #[] }, { accessFlags := 25, nameIndex := 1045, descriptorIndex := 631, attributes := #[] }, { accessFlags := 25, nameIndex := 1048, descriptorIndex := 631, attributes := #[] }, { accessFlags := 25, nameIndex := 1051, descriptorIndex := 631, attributes := #[] }, { accessFlags := 25, nameIndex := 1054, descriptorIndex := 631, attributes := #[] }, { accessFlags := 25, nameIndex := 1057, descriptorIndex := 631, attributes := #[] }, { accessFlags := 25, nameIndex := 1060, descriptorIndex := 631, attributes := #[] }, { accessFlags := 25, nameIndex := 1063, descriptorIndex := 631, attributes := #[] }, { accessFlags := 25, nameIndex := 1066, descriptorIndex := 631, attributes := #[] }, { accessFlags := 25, nameIndex := 1069, descriptorIndex := 631, attributes := #[] }, { accessFlags := 25, nameIndex := 1072, descriptorIndex := 631, attributes := #[] }, { accessFlags := 26, nameIndex := 1076, descriptorIndex := 1077, attributes := #[] }, { accessFlags := 26, nameIndex := 1080, descriptorIndex := 1077, attributes := #[] }, { accessFlags := 26, nameIndex := 1082, descriptorIndex := 21, attributes := #[] }, { accessFlags := 26, nameIndex := 1083, descriptorIndex := 21, attributes := #[] }, { accessFlags := 26, nameIndex := 1084, descriptorIndex := 21, attributes := #[] }, { accessFlags := 26, nameIndex := 1085, descriptorIndex := 21, attributes := #[] }, { accessFlags := 26, nameIndex := 1086, descriptorIndex := 21, attributes := #[] }, { accessFlags := 26, nameIndex := 1087, descriptorIndex := 21, attributes := #[] }, { accessFlags := 26, nameIndex := 1088, descriptorIndex := 21, attributes := #[] }, { accessFlags := 18, nameIndex := 8, descriptorIndex := 21, attributes := #[] }, { accessFlags := 18, nameIndex := 23, descriptorIndex := 21, attributes := #[] }, { accessFlags := 18, nameIndex := 27, descriptorIndex := 21, attributes := #[] }, { accessFlags := 18, nameIndex := 31, descriptorIndex := 21, attributes := #[] }])
  fields := #[{ name := "ALICEBLUE", type := (.object "com/example/scanstride/scanstride/Color"), accessFlags := 25, slot := 0, constantValue := 0 }, { name := "ANTIQUEWHITE", type := (.object "com/example/scanstride/scanstride/Color"), accessFlags := 25, slot := 1, constantValue := 0 }, { name := "AQUA", type := (.object "com/example/scanstride/scanstride/Color"), accessFlags := 25, slot := 2, constantValue := 0 }, { name := "AQUAMARINE", type := (.object "com/example/scanstride/scanstride/Color"), accessFlags := 25, slot := 3, constantValue := 0 }, { name := "AZURE", type := (.object "com/example/scanstride/scanstride/Color"), accessFlags := 25, slot := 4, constantValue := 0 }, { name := "BEIGE", type := (.object "com/example/scanstride/scanstride/Color"), accessFlags := 25, slot := 5, constantValue := 0 }, { name := "BISQUE", type := (.object "com/example/scanstride/scanstride/Color"), accessFlags := 25, slot := 6, constantValue := 0 }, { name := "BLACK", type := (.object "com/example/scanstride/scanstride/Color"), accessFlags := 25, slot := 7, constantValue := 0 }, { name := "BLANCHEDALMOND", type := (.object "com/example/scanstride/scanstride/Color"), accessFlags := 25, slot := 8, constantValue := 0 }, { name := "BLUE", type := (.object "com/example/scanstride/scanstride/Color"), accessFlags := 25, slot := 9, constantValue := 0 }, { name := "BLUEVIOLET", type := (.object "com/example/scanstride/scanstride/Color"), accessFlags := 25, slot := 10, constantValue := 0 }, { name := "BROWN", type := (.object "com/example/scanstride/scanstride/Color"), accessFlags := 25, slot := 11, constantValue := 0 }, { name := "BURLYWOOD", type := (.object "com/example/scanstride/scanstride/Color"), accessFlags := 25, slot := 12, constantValue := 0 }, { name := "CADETBLUE", type := (.object "com/example/scanstride/scanstride/Color"), accessFlags := 25, slot := 13, constantValue := 0 }, { name := "CHARTREUSE", type := (.object "com/example/scanstride/scanstride/Color"), accessFlags := 25, slot := 14, constantValue := 0 }, { name := "CHOCOLATE", type := (.object "com/example/scanstride/scanstride/Color"), accessFlags := 25, slot := 15, constantValue := 0 }, { name := "CORAL", type := (.object "com/example/scanstride/scanstride/Color"), accessFlags := 25, slot := 16, constantValue := 0 }, { name := "CORNFLOWERBLUE", type := (.object "com/example/scanstride/scanstride/Color"), accessFlags := 25, slot := 17, constantValue := 0 }, { name := "CORNSILK", type := (.object "com/example/scanstride/scanstride/Color"), accessFlags := 25, slot := 18, constantValue := 0 }, { name := "CRIMSON", type := (.object "com/example/scanstride/scanstride/Color"), accessFlags := 25, slot := 19, constantValue := 0 }, { name := "CYAN", type := (.object "com/example/scanstride/scanstride/Color"), accessFlags := 25, slot := 20, constantValue := 0 }, { name := "DARKBLUE", type := (.object "com/example/scanstride/scanstride/Color"), accessFlags := 25, slot := 21, constantValue := 0 }, { name := "DARKCYAN", type := (.object "com/example/scanstride/scanstride/Color"), accessFlags := 25, slot := 22, constantValue := 0 }, { name := "DARKGOLDENROD", type := (.object "com/example/scanstride/scanstride/Color"), accessFlags := 25, slot := 23, constantValue := 0 }, { name := "DARKGRAY", type := (.object "com/example/scanstride/scanstride/Color"), accessFlags := 25, slot := 24, constantValue := 0 }, { name := "DARKGREEN", type := (.object "com/example/scanstride/scanstride/Color"), accessFlags := 25, slot := 25, constantValue := 0 }, { name := "DARKGREY", type := (.object "com/example/scanstride/scanstride/Color"), accessFlags := 25, slot := 26, constantValue := 0 }, { name := "DARKKHAKI", type := (.object "com/example/scanstride/scanstride/Color"), accessFlags := 25, slot := 27, constantValue := 0 }, { name := "DARKMAGENTA", type := (.object "com/example/scanstride/scanstride/Color"), accessFlags := 25, slot := 28, constantValue := 0 }, { name := "DARKOLIVEGREEN", type := (.object "com/example/scanstride/scanstride/Color"), accessFlags := 25, slot := 29, constantValue := 0 }, { name := "DARKORANGE", type := (.object "com/example/scanstride/scanstride/Color"), accessFlags := 25, slot := 30, constantValue := 0 }, { name := "DARKORCHID", type := (.object "com/example/scanstride/scanstride/Color"), accessFlags := 25, slot := 31, constantValue := 0 }, { name := "DARKRED", type := (.object "com/example/scanstride/scanstride/Color"), accessFlags := 25, slot := 32, constantValue := 0 }, { name := "DARKSALMON", type := (.object "com/example/scanstride/scanstride/Color"), accessFlags := 25, slot := 33, constantValue := 0 }, { name := "DARKSEAGREEN", type := (.object "com/example/scanstride/scanstride/Color"), accessFlags := 25, slot := 34, constantValue := 0 }, { name := "DARKSLATEBLUE", type := (.object "com/example/scanstride/scanstride/Color"), accessFlags := 25, slot := 35, constantValue := 0 }, { name := "DARKSLATEGRAY", type := (.object "com/example/scanstride/scanstride/Color"), accessFlags := 25, slot := 36, constantValue := 0 }, { name := "DARKSLATEGREY", type := (.object "com/example/scanstride/scanstride/Color"), accessFlags := 25, slot := 37, constantValue := 0 }, { name := "DARKTURQUOISE", type := (.object "com/example/scanstride/scanstride/Color"), accessFlags := 25, slot := 38, constantValue := 0 }, { name := "DARKVIOLET", type := (.object "com/example/scanstride/scanstride/Color"), accessFlags := 25, slot := 39, constantValue := 0 }, { name := "DEEPPINK", type := (.object "com/example/scanstride/scanstride/Color"), accessFlags := 25, slot := 40, constantValue := 0 }, { name := "DEEPSKYBLUE", type := (.object "com/example/scanstride/scanstride/Color"), accessFlags := 25, slot := 41, constantValue := 0 }, { name := "DIMGRAY", type := (.object "com/example/scanstride/scanstride/Color"), accessFlags := 25, slot := 42, constantValue := 0 }, { name := "DIMGREY", type := (.object "com/example/scanstride/scanstride/Color"), accessFlags := 25, slot := 43, constantValue := 0 }, { name := "DODGERBLUE", type := (.object "com/example/scanstride/scanstride/Color"), accessFlags := 25, slot := 44, constantValue := 0 }, { name := "FIREBRICK", type := (.object "com/example/scanstride/scanstride/Color"), accessFlags := 25, slot := 45, constantValue := 0 }, { name := "FLORALWHITE", type := (.object "com/example/scanstride/scanstride/Color"), accessFlags := 25, slot := 46, constantValue := 0 }, { name := "FORESTGREEN", type := (.object "com/example/scanstride/scanstride/Color"), accessFlags := 25, slot := 47, constantValue := 0 }, { name := "FUCHSIA", type := (.object "com/example/scanstride/scanstride/Color"), accessFlags := 25, slot := 48, constantValue := 0 }, { name := "GAINSBORO", type := (.object "com/example/scanstride/scanstride/Color"), accessFlags := 25, slot := 49, constantValue := 0 }, { name := "GHOSTWHITE", type := (.object "com/example/scanstride/scanstride/Color"), accessFlags := 25, slot := 50, constantValue := 0 }, { name := "GOLD", type := (.object "com/example/scanstride/scanstride/Color"), accessFlags := 25, slot := 51, constantValue := 0 }, { name := "GOLDENROD", type := (.object "com/example/scanstride/scanstride/Color"), accessFlags := 25, slot := 52, constantValue := 0 }, { name := "GRAY", type := (.object "com/example/scanstride/scanstride/Color"), accessFlags := 25, slot := 53, constantValue := 0 }, { name := "GREEN", type := (.object "com/example/scanstride/scanstride/Color"), accessFlags := 25, slot := 54, constantValue := 0 }, { name := "GREENYELLOW", type := (.object "com/example/scanstride/scanstride/Color"), accessFlags := 25, slot := 55, constantValue := 0 }, { name := "GREY", type := (.object "com/example/scanstride/scanstride/Color"), accessFlags := 25, slot := 56, constantValue := 0 }, { name := "HONEYDEW", type := (.object "com/example/scanstride/scanstride/Color"), accessFlags := 25, slot := 57, constantValue := 0 }, { name := "HOTPINK", type := (.object "com/example/scanstride/scanstride/Color"), accessFlags := 25, slot := 58, constantValue := 0 }, { name := "INDIANRED", type := (.object "com/example/scanstride/scanstride/Color"), accessFlags := 25, slot := 59, constantValue := 0 }, { name := "INDIGO", type := (.object "com/example/scanstride/scanstride/Color"), accessFlags := 25, slot := 60, constantValue := 0 }, { name := "IVORY", type := (.object "com/example/scanstride/scanstride/Color"), accessFlags := 25, slot := 61, constantValue := 0 }, { name := "KHAKI", type := (.object "com/example/scanstride/scanstride/Color"), accessFlags := 25, slot := 62, constantValue := 0 }, { name := "LAVENDER", type := (.object "com/example/scanstride/scanstride/Color"), accessFlags := 25, slot := 63, constantValue := 0 }, { name := "LAVENDERBLUSH", type := (.object "com/example/scanstride/scanstride/Color"), accessFlags := 25, slot := 64, constantValue := 0 }, { name := "LAWNGREEN", type := (.object "com/example/scanstride/scanstride/Color"), accessFlags := 25, slot := 65, constantValue := 0 }, { name := "LEMONCHIFFON", type := (.object "com/example/scanstride/scanstride/Color"), accessFlags := 25, slot := 66, constantValue := 0 }, { name := "LIGHTBLUE", type := (.object "com/example/scanstride/scanstride/Color"), accessFlags := 25, slot := 67, constantValue := 0 }, { name := "LIGHTCORAL", type := (.object "com/example/scanstride/scanstride/Color"), accessFlags := 25, slot := 68, constantValue := 0 }, { name := "LIGHTCYAN", type := (.object "com/example/scanstride/scanstride/Color"), accessFlags := 25, slot := 69, constantValue := 0 }, { name := "LIGHTGOLDENRODYELLOW", type := (.object "com/example/scanstride/scanstride/Color"), accessFlags := 25, slot := 70, constantValue := 0 }, { name := "LIGHTGRAY", type := (.object "com/example/scanstride/scanstride/Color"), accessFlags := 25, slot := 71, constantValue := 0 }, { name := "LIGHTGREEN", type := (.object "com/example/scanstride/scanstride/Color"), accessFlags := 25, slot := 72, constantValue := 0 }, { name := "LIGHTGREY", type := (.object "com/example/scanstride/scanstride/Color"), accessFlags := 25, slot := 73, constantValue := 0 }, { name := "LIGHTPINK", type := (.object "com/example/scanstride/scanstride/Color"), accessFlags := 25, slot := 74, constantValue := 0 }, { name := "LIGHTSALMON", type := (.object "com/example/scanstride/scanstride/Color"), accessFlags := 25, slot := 75, constantValue := 0 }, { name := "LIGHTSEAGREEN", type := (.object "com/example/scanstride/scanstride/Color"), accessFlags := 25, slot := 76, constantValue := 0 }, { name := "LIGHTSKYBLUE", type := (.object "com/example/scanstride/scanstride/Color"), accessFlags := 25, slot := 77, constantValue := 0 }, { name := "LIGHTSLATEGRAY", type := (.object "com/example/scanstride/scanstride/Color"), accessFlags := 25, slot := 78, constantValue := 0 }, { name := "LIGHTSLATEGREY", type := (.object "com/example/scanstride/scanstride/Color"), accessFlags := 25, slot := 79, constantValue := 0 }, { name := "LIGHTSTEELBLUE", type := (.object "com/example/scanstride/scanstride/Color"), accessFlags := 25, slot := 80, constantValue := 0 }, { name := "LIGHTYELLOW", type := (.object "com/example/scanstride/scanstride/Color"), accessFlags := 25, slot := 81, constantValue := 0 }, { name := "LIME", type := (.object "com/example/scanstride/scanstride/Color"), accessFlags := 25, slot := 82, constantValue := 0 }, { name := "LIMEGREEN", type := (.object "com/example/scanstride/scanstride/Color"), accessFlags := 25, slot := 83, constantValue := 0 }, { name := "LINEN", type := (.object "com/example/scanstride/scanstride/Color"), accessFlags := 25, slot := 84, constantValue := 0 }, { name := "MAGENTA", type := (.object "com/example/scanstride/scanstride/Color"), accessFlags := 25, slot := 85, constantValue := 0 }, { name := "MAROON", type := (.object "com/example/scanstride/scanstride/Color"), accessFlags := 25, slot := 86, constantValue := 0 }, { name := "MEDIUMAQUAMARINE", type := (.object "com/example/scanstride/scanstride/Color"), accessFlags := 25, slot := 87, constantValue := 0 }, { name := "MEDIUMBLUE", type := (.object "com/example/scanstride/scanstride/Color"), accessFlags := 25, slot := 88, constantValue := 0 }, { name := "MEDIUMORCHID", type := (.object "com/example/scanstride/scanstride/Color"), accessFlags := 25, slot := 89, constantValue := 0 }, { name := "MEDIUMPURPLE", type := (.object "com/example/scanstride/scanstride/Color"), accessFlags := 25, slot := 90, constantValue := 0 }, { name := "MEDIUMSEAGREEN", type := (.object "com/example/scanstride/scanstride/Color"), accessFlags := 25, slot := 91, constantValue := 0 }, { name := "MEDIUMSLATEBLUE", type := (.object "com/example/scanstride/scanstride/Color"), accessFlags := 25, slot := 92, constantValue := 0 }, { name := "MEDIUMSPRINGGREEN", type := (.object "com/example/scanstride/scanstride/Color"), accessFlags := 25, slot := 93, constantValue := 0 }, { name := "MEDIUMTURQUOISE", type := (.object "com/example/scanstride/scanstride/Color"), accessFlags := 25, slot := 94, constantValue := 0 }, { name := "MEDIUMVIOLETRED", type := (.object "com/example/scanstride/scanstride/Color"), accessFlags := 25, slot := 95, constantValue := 0 }, { name := "MIDNIGHTBLUE", type := (.object "com/example/scanstride/scanstride/Color"), accessFlags := 25, slot := 96, constantValue := 0 }, { name := "MINTCREAM", type := (.object "com/example/scanstride/scanstride/Color"), accessFlags := 25, slot := 97, constantValue := 0 }, { name := "MISTYROSE", type := (.object "com/example/scanstride/scanstride/Color"), accessFlags := 25, slot := 98, constantValue := 0 }, { name := "MOCCASIN", type := (.object "com/example/scanstride/scanstride/Color"), accessFlags := 25, slot := 99, constantValue := 0 }, { name := "NAVAJOWHITE", type := (.object "com/example/scanstride/scanstride/Color"), accessFlags := 25, slot := 100, constantValue := 0 }, { name := "NAVY", type := (.object "com/example/scanstride/scanstride/Color"), accessFlags := 25, slot := 101, constantValue := 0 }, { name := "OLDLACE", type := (.object "com/example/scanstride/scanstride/Color"), accessFlags := 25, slot := 102, constantValue := 0 }, { name := "OLIVE", type := (.object "com/example/scanstride/scanstride/Color"), accessFlags := 25, slot := 103, constantValue := 0 }, { name := "OLIVEDRAB", type := (.object "com/example/scanstride/scanstride/Color"), accessFlags := 25, slot := 104, constantValue := 0 }, { name := "ORANGE", type := (.object "com/example/scanstride/scanstride/Color"), accessFlags := 25, slot := 105, constantValue := 0 }, { name := "ORANGERED", type := (.object "com/example/scanstride/scanstride/Color"), accessFlags := 25, slot := 106, constantValue := 0 }, { name := "ORCHID", type := (.object "com/example/scanstride/scanstride/Color"), accessFlags := 25, slot := 107, constantValue := 0 }, { name := "PALEGOLDENROD", type := (.object "com/example/scanstride/scanstride/Color"), accessFlags := 25, slot := 108, constantValue := 0 }, { name := "PALEGREEN", type := (.object "com/example/scanstride/scanstride/Color"), accessFlags := 25, slot := 109, constantValue := 0 }, { name := "PALETURQUOISE", type := (.object "com/example/scanstride/scanstride/Color"), accessFlags := 25, slot := 110, constantValue := 0 }, { name := "PALEVIOLETRED", type := (.object "com/example/scanstride/scanstride/Color"), accessFlags := 25, slot := 111, constantValue := 0 }, { name := "PAPAYAWHIP", type := (.object "com/example/scanstride/scanstride/Color"), accessFlags := 25, slot := 112, constantValue := 0 }, { name := "PEACHPUFF", type := (.object "com/example/scanstride/scanstride/Color"), accessFlags := 25, slot := 113, constantValue := 0 }, { name := "PERU", type := (.object "com/example/scanstride/scanstride/Color"), accessFlags := 25, slot := 114, constantValue := 0 }, { name := "PINK", type := (.object "com/example/scanstride/scanstride/Color"), accessFlags := 25, slot := 115, constantValue := 0 }, { name := "PLUM", type := (.object "com/example/scanstride/scanstride/Color"), accessFlags := 25, slot := 116, constantValue := 0 }, { name := "POWDERBLUE", type := (.object "com/example/scanstride/scanstride/Color"), accessFlags := 25, slot := 117, constantValue := 0 }, { name := "PURPLE", type := (.object "com/example/scanstride/scanstride/Color"), accessFlags := 25, slot := 118, constantValue := 0 }, { name := "RED", type := (.object "com/example/scanstride/scanstride/Color"), accessFlags := 25, slot := 119, constantValue := 0 }, { name := "ROSYBROWN", type := (.object "com/example/scanstride/scanstride/Color"), accessFlags := 25, slot := 120, constantValue := 0 }, { name := "ROYALBLUE", type := (.object "com/example/scanstride/scanstride/Color"), accessFlags := 25, slot := 121, constantValue := 0 }, { name := "SADDLEBROWN", type := (.object "com/example/scanstride/scanstride/Color"), accessFlags := 25, slot := 122, constantValue := 0 }, { name := "SALMON", type := (.object "com/example/scanstride/scanstride/Color"), accessFlags := 25, slot := 123, constantValue := 0 }, { name := "SANDYBROWN", type := (.object "com/example/scanstride/scanstride/Color"), accessFlags := 25, slot := 124, constantValue := 0 }, { name := "SEAGREEN", type := (.object "com/example/scanstride/scanstride/Color"), accessFlags := 25, slot := 125, constantValue := 0 }, { name := "SEASHELL", type := (.object "com/example/scanstride/scanstride/Color"), accessFlags := 25, slot := 126, constantValue := 0 }, { name := "SIENNA", type := (.object "com/example/scanstride/scanstride/Color"), accessFlags := 25, slot := 127, constantValue := 0 }, { name := "SILVER", type := (.object "com/example/scanstride/scanstride/Color"), accessFlags := 25, slot := 128, constantValue := 0 }, { name := "SKYBLUE", type := (.object "com/example/scanstride/scanstride/Color"), accessFlags := 25, slot := 129, constantValue := 0 }, { name := "SLATEBLUE", type := (.object "com/example/scanstride/scanstride/Color"), accessFlags := 25, slot := 130, constantValue := 0 }, { name := "SLATEGRAY", type := (.object "com/example/scanstride/scanstride/Color"), accessFlags := 25, slot := 131, constantValue := 0 }, { name := "SLATEGREY", type := (.object "com/example/scanstride/scanstride/Color"), accessFlags := 25, slot := 132, constantValue := 0 }, { name := "SNOW", type := (.object "com/example/scanstride/scanstride/Color"), accessFlags := 25, slot := 133, constantValue := 0 }, { name := "SPRINGGREEN", type := (.object "com/example/scanstride/scanstride/Color"), accessFlags := 25, slot := 134, constantValue := 0 }, { name := "STEELBLUE", type := (.object "com/example/scanstride/scanstride/Color"), accessFlags := 25, slot := 135, constantValue := 0 }, { name := "TAN", type := (.object "com/example/scanstride/scanstride/Color"), accessFlags := 25, slot := 136, constantValue := 0 }, { name := "TEAL", type := (.object "com/example/scanstride/scanstride/Color"), accessFlags := 25, slot := 137, constantValue := 0 }, { name := "THISTLE", type := (.object "com/example/scanstride/scanstride/Color"), accessFlags := 25, slot := 138, constantValue := 0 }, { name := "TOMATO", type := (.object "com/example/scanstride/scanstride/Color"), accessFlags := 25, slot := 139, constantValue := 0 }, { name := "TRANSPARENT", type := (.object "com/example/scanstride/scanstride/Color"), accessFlags := 25, slot := 140, constantValue := 0 }, { name := "TURQUOISE", type := (.object "com/example/scanstride/scanstride/Color"), accessFlags := 25, slot := 141, constantValue := 0 }, { name := "VIOLET", type := (.object "com/example/scanstride/scanstride/Color"), accessFlags := 25, slot := 142, constantValue := 0 }, { name := "WHEAT", type := (.object "com/example/scanstride/scanstride/Color"), accessFlags := 25, slot := 143, constantValue := 0 }, { name := "WHITE", type := (.object "com/example/scanstride/scanstride/Color"), accessFlags := 25, slot := 144, constantValue := 0 }, { name := "WHITESMOKE", type := (.object "com/example/scanstride/scanstride/Color"), accessFlags := 25, slot := 145, constantValue := 0 }, { name := "YELLOW", type := (.object "com/example/scanstride/scanstride/Color"), accessFlags := 25, slot := 146, constantValue := 0 }, { name := "YELLOWGREEN", type := (.object "com/example/scanstride/scanstride/Color"), accessFlags := 25, slot := 147, constantValue := 0 }, { name := "MAX_EIGHT_BIT", type := .int, accessFlags := 26, slot := 148, constantValue := 0 }, { name := "MAX_PERCENT", type := .int, accessFlags := 26, slot := 149, constantValue := 0 }, { name := "DEGREES_PER_TURN", type := .double, accessFlags := 26, slot := 150, constantValue := 0 }, { name := "SIXTHS_PER_TURN", type := .double, accessFlags := 26, slot := 151, constantValue := 0 }, { name := "SHADING_FACTOR", type := .double, accessFlags := 26, slot := 152, constantValue := 0 }, { name := "BRIGHTENED_BLACK", type := .double, accessFlags := 26, slot := 153, constantValue := 0 }, { name := "GRAY_RED_WEIGHT", type := .double, accessFlags := 26, slot := 154, constantValue := 0 }, { name := "GRAY_GREEN_WEIGHT", type := .double, accessFlags := 26, slot := 155, constantValue := 0 }, { name := "GRAY_BLUE_WEIGHT", type := .double, accessFlags := 26, slot := 156, constantValue := 0 }, { name := "red", type := .double, accessFlags := 18, slot := 0, constantValue := 0 }, { name := "green", type := .double, accessFlags := 18, slot := 1, constantValue := 0 }, { name := "blue", type := .double, accessFlags := 18, slot := 2, constantValue := 0 }, { name := "opacity", type := .double, accessFlags := 18, slot := 3, constantValue := 0 }]
  methods := #[k2m0, k2m1, k2m2, k2m3]
  instanceTypes := #[.double, .double, .double, .double]
  staticTypes := #[(.object "com/example/scanstride/scanstride/Color"), (.object "com/example/scanstride/scanstride/Color"), (.object "com/example/scanstride/scanstride/Color"), (.object "com/example/scanstride/scanstride/Color"), (.object "com/example/scanstride/scanstride/Color"), (.object "com/example/scanstride/scanstride/Color"), (.object "com/example/scanstride/scanstride/Color"), (.object "com/example/scanstride/scanstride/Color"), (.object "com/example/scanstride/scanstride/Color"), (.object "com/example/scanstride/scanstride/Color"), (.object "com/example/scanstride/scanstride/Color"), (.object "com/example/scanstride/scanstride/Color"), (.object "com/example/scanstride/scanstride/Color"), (.object "com/example/scanstride/scanstride/Color"), (.object "com/example/scanstride/scanstride/Color"), (.object "com/example/scanstride/scanstride/Color"), (.object "com/example/scanstride/scanstride/Color"), (.object "com/example/scanstride/scanstride/Color"), (.object "com/example/scanstride/scanstride/Color"), (.object "com/example/scanstride/scanstride/Color"), (.object "com/example/scanstride/scanstride/Color"), (.object "com/example/scanstride/scanstride/Color"), (.object "com/example/scanstride/scanstride/Color"), (.object "com/example/scanstride/scanstride/Color"), (.object "com/example/scanstride/scanstride/Color"), (.object "com/example/scanstride/scanstride/Color"), (.object "com/example/scanstride/scanstride/Color"), (.object "com/example/scanstride/scanstride/Color"), (.object "com/example/scanstride/scanstride/Color"), (.object "com/example/scanstride/scanstride/Color"), (.object "com/example/scanstride/scanstride/Color"), (.object "com/example/scanstride/scanstride/Color"), (.object "com/example/scanstride/scanstride/Color"), (.object "com/example/scanstride/scanstride/Color"), (.object "com/example/scanstride/scanstride/Color"), (.object "com/example/scanstride/scanstride/Color"), (.object "com/example/scanstride/scanstride/Color"), (.object "com/example/scanstride/scanstride/Color"), (.object "com/example/scanstride/scanstride/Color"), (.object "com/example/scanstride/scanstride/Color"), (.object "com/example/scanstride/scanstride/Color"), (.object "com/example/scanstride/scanstride/Color"), (.object "com/example/scanstride/scanstride/Color"), (.object "com/example/scanstride/scanstride/Color"), (.object "com/example/scanstride/scanstride/Color"), (.object "com/example/scanstride/scanstride/Color"), (.object "com/example/scanstride/scanstride/Color"), (.object "com/example/scanstride/scanstride/Color"), (.object "com/example/scanstride/scanstride/Color"), (.object "com/example/scanstride/scanstride/Color"), (.object "com/example/scanstride/scanstride/Color"), (.object "com/example/scanstride/scanstride/Color"), (.object "com/example/scanstride/scanstride/Color"), (.object "com/example/scanstride/scanstride/Color"), (.object "com/example/scanstride/scanstride/Color"), (.object "com/example/scanstride/scanstride/Color"), (.object "com/example/scanstride/scanstride/Color"), (.object "com/example/scanstride/scanstride/Color"), (.object "com/example/scanstride/scanstride/Color"), (.object "com/example/scanstride/scanstride/Color"), (.object "com/example/scanstride/scanstride/Color"), (.object "com/example/scanstride/scanstride/Color"), (.object "com/example/scanstride/scanstride/Color"), (.object "com/example/scanstride/scanstride/Color"), (.object "com/example/scanstride/scanstride/Color"), (.object "com/example/scanstride/scanstride/Color"), (.object "com/example/scanstride/scanstride/Color"), (.object "com/example/scanstride/scanstride/Color"), (.object "com/example/scanstride/scanstride/Color"), (.object "com/example/scanstride/scanstride/Color"), (.object "com/example/scanstride/scanstride/Color"), (.object "com/example/scanstride/scanstride/Color"), (.object "com/example/scanstride/scanstride/Color"), (.object "com/example/scanstride/scanstride/Color"), (.object "com/example/scanstride/scanstride/Color"), (.object "com/example/scanstride/scanstride/Color"), (.object "com/example/scanstride/scanstride/Color"), (.object "com/example/scanstride/scanstride/Color"), (.object "com/example/scanstride/scanstride/Color"), (.object "com/example/scanstride/scanstride/Color"), (.object "com/example/scanstride/scanstride/Color"), (.object "com/example/scanstride/scanstride/Color"), (.object "com/example/scanstride/scanstride/Color"), (.object "com/example/scanstride/scanstride/Color"), (.object "com/example/scanstride/scanstride/Color"), (.object "com/example/scanstride/scanstride/Color"), (.object "com/example/scanstride/scanstride/Color"), (.object "com/example/scanstride/scanstride/Color"), (.object "com/example/scanstride/scanstride/Color"), (.object "com/example/scanstride/scanstride/Color"), (.object "com/example/scanstride/scanstride/Color"), (.object "com/example/scanstride/scanstride/Color"), (.object "com/example/scanstride/scanstride/Color"), (.object "com/example/scanstride/scanstride/Color"), (.object "com/example/scanstride/scanstride/Color"), (.object "com/example/scanstride/scanstride/Color"), (.object "com/example/scanstride/scanstride/Color"), (.object "com/example/scanstride/scanstride/Color"), (.object "com/example/scanstride/scanstride/Color"), (.object "com/example/scanstride/scanstride/Color"), (.object "com/example/scanstride/scanstride/Color"), (.object "com/example/scanstride/scanstride/Color"), (.object "com/example/scanstride/scanstride/Color"), (.object "com/example/scanstride/scanstride/Color"), (.object "com/example/scanstride/scanstride/Color"), (.object "com/example/scanstride/scanstride/Color"), (.object "com/example/scanstride/scanstride/Color"), (.object "com/example/scanstride/scanstride/Color"), (.object "com/example/scanstride/scanstride/Color"), (.object "com/example/scanstride/scanstride/Color"), (.object "com/example/scanstride/scanstride/Color"), (.object "com/example/scanstride/scanstride/Color"), (.object "com/example/scanstride/scanstride/Color"), (.object "com/example/scanstride/scanstride/Color"), (.object "com/example/scanstride/scanstride/Color"), (.object "com/example/scanstride/scanstride/Color"), (.object "com/example/scanstride/scanstride/Color"), (.object "com/example/scanstride/scanstride/Color"), (.object "com/example/scanstride/scanstride/Color"), (.object "com/example/scanstride/scanstride/Color"), (.object "com/example/scanstride/scanstride/Color"), (.object "com/example/scanstride/scanstride/Color"), (.object "com/example/scanstride/scanstride/Color"), (.object "com/example/scanstride/scanstride/Color"), (.object "com/example/scanstride/scanstride/Color"), (.object "com/example/scanstride/scanstride/Color"), (.object "com/example/scanstride/scanstride/Color"), (.object "com/example/scanstride/scanstride/Color"), (.object "com/example/scanstride/scanstride/Color"), (.object "com/example/scanstride/scanstride/Color"), (.object "com/example/scanstride/scanstride/Color"), (.object "com/example/scanstride/scanstride/Color"), (.object "com/example/scanstride/scanstride/Color"), (.object "com/example/scanstride/scanstride/Color"), (.object "com/example/scanstride/scanstride/Color"), (.object "com/example/scanstride/scanstride/Color"), (.object "com/example/scanstride/scanstride/Color"), (.object "com/example/scanstride/scanstride/Color"), (.object "com/example/scanstride/scanstride/Color"), (.object "com/example/scanstride/scanstride/Color"), (.object "com/example/scanstride/scanstride/Color"), (.object "com/example/scanstride/scanstride/Color"), (.object "com/example/scanstride/scanstride/Color"), (.object "com/example/scanstride/scanstride/Color"), (.object "com/example/scanstride/scanstride/Color"), (.object "com/example/scanstride/scanstride/Color"), (.object "com/example/scanstride/scanstride/Color"), (.object "com/example/scanstride/scanstride/Color"), .int, .int, .double, .double, .double, .double, .double, .double, .double]
  resolved := Array.replicate 1173 none
  statics := none }

def pool3 : Array CpInfo := pool [(1, .class_ 2), (0, u "java/io/Serializable"), (0, .class_ 4), (0, u "java/lang/Object")] 2

/-- java/io/Serializable -/
def k3 : Class := { plain "java/io/Serializable" (some 0) with
  accessFlags := 1537
  interfaces := #[]
  cf := some (fileOf pool3 1 #[] #[] 1537 3 #[] #[])
  fields := #[]
  methods := #[]
  instanceTypes := #[]
  staticTypes := #[]
  resolved := Array.replicate 7 none
  statics := none }

def pool4 : Array CpInfo := pool [(1, .class_ 2), (0, u "java/lang/Comparable"), (0, .class_ 4), (0, u "java/lang/Object")] 7

/-- java/lang/Comparable -/
def k4 : Class := { plain "java/lang/Comparable" (some 0) with
  accessFlags := 1537
  interfaces := #[]
  cf := some (fileOf pool4 1 #[] #[] 1537 3 #[] #[])
  fields := #[]
  methods := #[]
  instanceTypes := #[]
  staticTypes := #[]
  resolved := Array.replicate 12 none
  statics := none }

def pool5 : Array CpInfo := pool [(2, .class_ 4), (1, u "java/lang/CharSequence"), (42, .class_ 48), (0, u "java/lang/CharSequence$1CodePointIterator"), (10, .class_ 60), (0, u "java/lang/CharSequence$1CharIterator"), (5, .class_ 67), (0, u "java/lang/Object")] 63

/-- java/lang/CharSequence -/
def k5 : Class := { plain "java/lang/CharSequence" (some 0) with
  accessFlags := 1537
  interfaces := #[]
  cf := some (fileOf pool5 2 #[.nestMembers #[47, 59]] #[] 1537 66 #[] #[])
  fields := #[]
  methods := #[]
  instanceTypes := #[]
  staticTypes := #[]
  resolved := Array.replicate 131 none
  statics := none }

def pool6 : Array CpInfo := pool [(1, .class_ 2), (0, u "java/lang/constant/Constable"), (0, .class_ 4), (0, u "java/lang/Object")] 6

/-- java/lang/constant/Constable -/
def k6 : Class := { plain "java/lang/constant/Constable" (some 0) with
  accessFlags := 1537
  interfaces := #[]
  cf := some (fileOf pool6 1 #[] #[] 1537 3 #[] #[])
  fields := #[]
  methods := #[]
  instanceTypes := #[]
  staticTypes := #[]
  resolved := Array.replicate 11 none
  statics := none }

def pool7 : Array CpInfo := pool [(1, .class_ 2), (0, u "java/lang/constant/ConstantDesc"), (0, .class_ 4), (0, u "java/lang/Object")] 32

/-- java/lang/constant/ConstantDesc -/
def k7 : Class := { plain "java/lang/constant/ConstantDesc" (some 0) with
  accessFlags := 1537
  interfaces := #[]
  cf := some (fileOf pool7 1 #[] #[] 1537 3 #[] #[])
  fields := #[]
  methods := #[]
  instanceTypes := #[]
  staticTypes := #[]
  resolved := Array.replicate 37 none
  statics := none }

def pool8 : Array CpInfo := pool [(2, .class_ 4), (1, u "java/lang/Object"), (0, u "<init>"), (0, u "()V"), (3, .class_ 12), (1, u "java/lang/String"), (0, u "value"), (0, u "[B"), (2, u "coder"), (0, u "B"), (2, u "hash"), (0, u "I"), (2, u "hashIsZero"), (0, u "Z"), (13, u "COMPACT_STRINGS"), (534, .class_ 576), (0, u "java/lang/CharSequence"), (22, u "CASE_INSENSITIVE_ORDER"), (0, u "Ljava/util/Comparator;"), (500, u "serialPersistentFields"), (0, u "[Ljava/io/ObjectStreamField;"), (0, .class_ 1104), (0, u "java/lang/String$CaseInsensitiveComparator"), (1, .class_ 1107), (0, u "java/io/Serializable"), (0, .class_ 1109), (0, u "java/lang/Comparable"), (0, .class_ 1111), (0, u "java/lang/constant/Constable"), (0, .class_ 1113), (0, u "java/lang/constant/ConstantDesc"), (2, u "serialVersionUID"), (0, u "J"), (3, u "REPL"), (0, u "C"), (2, u "LATIN1"), (1, u "UTF16")] 323

def k8m0 : Method := { name := "<init>", desc := "()V", sig := { parameters := [], returnType := none }, accessFlags := 1, code := none }
/-- java/lang/String -/
def k8 : Class := { plain "java/lang/String" (some 0) with
  accessFlags := 49
  interfaces := #[3, 4, 5, 6, 7]
  cf := some (fileOf pool8 10 #[.nestMembers #[1103]] #[{ accessFlags := 1, nameIndex := 5, descriptorIndex := 6, attributes := #[] }] 49 2 #[1106, 1108, 575, 1110, 1112] #[{ accessFlags := 18, nameIndex := 13, descriptorIndex := 14, attributes := #[] }, { accessFlags := 18, nameIndex := 17, descriptorIndex := 18, attributes := #[] }, { accessFlags := 2, nameIndex := 21, descriptorIndex := 22, attributes := #[] }, { accessFlags := 2, nameIndex := 25, descriptorIndex := 26, attributes := #[] }, { accessFlags := 26, nameIndex := 1116, descriptorIndex := 1117, attributes := #[] }, { accessFlags := 24, nameIndex := 40, descriptorIndex := 26, attributes := #[] }, { accessFlags := 26, nameIndex := 1101, descriptorIndex := 1102, attributes := #[] }, { accessFlags := 26, nameIndex := 1121, descriptorIndex := 1122, attributes := #[] }, { accessFlags := 25, nameIndex := 599, descriptorIndex := 600, attributes := #[] }, { accessFlags := 24, nameIndex := 1125, descriptorIndex := 18, attributes := #[] }, { accessFlags := 24, nameIndex := 1127, descriptorIndex := 18, attributes := #[] }])
  fields := #[{ name := "value", type := (.array .byte), accessFlags := 18, slot := 0, constantValue := 0 }, { name := "coder", type := .byte, accessFlags := 18, slot := 1, constantValue := 0 }, { name := "hash", type := .int, accessFlags := 2, slot := 2, constantValue := 0 }, { name := "hashIsZero", type := .boolean, accessFlags := 2, slot := 3, constantValue := 0 }, { name := "serialVersionUID", type := .long, accessFlags := 26, slot := 0, constantValue := 0 }, { name := "COMPACT_STRINGS", type := .boolean, accessFlags := 24, slot := 1, constantValue := 0 }, { name := "serialPersistentFields", type := (.array (.object "java/io/ObjectStreamField")), accessFlags := 26, slot := 2, constantValue := 0 }, { name := "REPL", type := .char, accessFlags := 26, slot := 3, constantValue := 0 }, { name := "CASE_INSENSITIVE_ORDER", type := (.object "java/util/Comparator"), accessFlags := 25, slot := 4, constantValue := 0 }, { name := "LATIN1", type := .byte, accessFlags := 24, slot := 5, constantValue := 0 }, { name := "UTF16", type := .byte, accessFlags := 24, slot := 6, constantValue := 0 }]
  methods := #[k8m0]
  instanceTypes := #[(.array .byte), .byte, .int, .boolean]
  staticTypes := #[.long, .boolean, (.array (.object "java/io/ObjectStreamField")), .char, (.object "java/util/Comparator"), .byte, .byte]
  resolved := Array.replicate 1451 none
  statics := none }

def pool9 : Array CpInfo := pool [(1, .methodref 2 3), (0, .class_ 4), (0, .nameAndType 5 6), (0, u "java/lang/Object"), (0, u "<init>"), (0, u "()V"), (1, .class_ 10), (1, u "java/lang/Number"), (2, .class_ 14), (0, u "java/io/Serializable"), (0, u "serialVersionUID"), (0, u "J")] 20

def k9c0 : Code := { maxStack := 1, maxLocals := 1, code := jdk_18_method_1_code, exceptionTable := #[], attributes := #[] }
def k9m0 : Method := { name := "<init>", desc := "()V", sig := { parameters := [], returnType := none }, accessFlags := 1, code := some k9c0 }
/-- java/lang/Number -/
def k9 : Class := { plain "java/lang/Number" (some 0) with
  accessFlags := 1057
  interfaces := #[3]
  cf := some (fileOf pool9 8 #[] #[{ accessFlags := 1, nameIndex := 5, descriptorIndex := 6, attributes := #[] }] 1057 2 #[13] #[{ accessFlags := 26, nameIndex := 15, descriptorIndex := 16, attributes := #[] }])
  fields := #[{ name := "serialVersionUID", type := .long, accessFlags := 26, slot := 0, constantValue := 0 }]
  methods := #[k9m0]
  instanceTypes := #[]
  staticTypes := #[.long]
  resolved := Array.replicate 37 none
  statics := none }

def pool10 : Array CpInfo := pool [(1, .class_ 2), (0, u "java/lang/Integer"), (16, u "digits"), (0, u "[C"), (46, u "<init>"), (17, u "DigitOnes"), (0, u "[B"), (2, u "DigitTens"), (10, .nameAndType 67 101), (0, u "()V"), (85, u "valueOf"), (0, u "(I)Ljava/lang/Integer;"), (0, .class_ 190), (0, u "java/lang/Integer$IntegerCache"), (0, .fieldref 189 192), (0, .nameAndType 193 194), (0, u "high"), (0, u "I"), (0, .fieldref 189 196), (0, .nameAndType 197 198), (0, u "cache"), (0, u "[Ljava/lang/Integer;"), (0, .methodref 1 200), (0, .nameAndType 67 201), (0, u "(I)V"), (0, .methodref 203 100), (0, .class_ 204), (0, u "java/lang/Number"), (0, .fieldref 1 206), (0, .nameAndType 207 194), (0, u "value"), (94, u "TYPE"), (0, u "Ljava/lang/Class;"), (0, .class_ 305), (0, u "java/lang/Comparable"), (0, .class_ 307), (0, u "java/lang/constant/Constable"), (0, .class_ 309), (0, u "java/lang/constant/ConstantDesc"), (0, u "MIN_VALUE"), (1, u "MAX_VALUE"), (3, u "SIZE"), (1, u "BYTES"), (1, u "serialVersionUID"), (0, u "J")] 131

def k10c0 : Code := { maxStack := 3, maxLocals := 1, code := jdk_33_method_22_code, exceptionTable := #[], attributes := #[] }
def k10m0 : Method := { name := "valueOf", desc := "(I)Ljava/lang/Integer;", sig := { parameters := [.int], returnType := some (.object "java/lang/Integer") }, accessFlags := 9, code := some k10c0 }
def k10c1 : Code := { maxStack := 2, maxLocals := 2, code := jdk_33_method_23_code, exceptionTable := #[], attributes := #[] }
def k10m1 : Method := { name := "<init>", desc := "(I)V", sig := { parameters := [.int], returnType := none }, accessFlags := 1, code := some k10c1 }
/-- java/lang/Integer -/
def k10 : Class := { plain "java/lang/Integer" (some 9) with
  accessFlags := 49
  interfaces := #[4, 6, 7]
  cf := some (fileOf pool10 1 #[.nestMembers #[189]] #[{ accessFlags := 9, nameIndex := 187, descriptorIndex := 188, attributes := #[] }, { accessFlags := 1, nameIndex := 67, descriptorIndex := 201, attributes := #[] }] 49 203 #[304, 306, 308] #[{ accessFlags := 25, nameIndex := 310, descriptorIndex := 194, attributes := #[] }, { accessFlags := 25, nameIndex := 312, descriptorIndex := 194, attributes := #[] }, { accessFlags := 25, nameIndex := 302, descriptorIndex := 303, attributes := #[] }, { accessFlags := 24, nameIndex := 19, descriptorIndex := 20, attributes := #[] }, { accessFlags := 24, nameIndex := 89, descriptorIndex := 86, attributes := #[] }, { accessFlags := 24, nameIndex := 85, descriptorIndex := 86, attributes := #[] }, { accessFlags := 18, nameIndex := 207, descriptorIndex := 194, attributes := #[] }, { accessFlags := 25, nameIndex := 316, descriptorIndex := 194, attributes := #[] }, { accessFlags := 25, nameIndex := 318, descriptorIndex := 194, attributes := #[] }, { accessFlags := 26, nameIndex := 320, descriptorIndex := 321, attributes := #[] }])
  fields := #[{ name := "MIN_VALUE", type := .int, accessFlags := 25, slot := 0, constantValue := 0 }, { name := "MAX_VALUE", type := .int, accessFlags := 25, slot := 1, constantValue := 0 }, { name := "TYPE", type := (.object "java/lang/Class"), accessFlags := 25, slot := 2, constantValue := 0 }, { name := "digits", type := (.array .char), accessFlags := 24, slot := 3, constantValue := 0 }, { name := "DigitTens", type := (.array .byte), accessFlags := 24, slot := 4, constantValue := 0 }, { name := "DigitOnes", type := (.array .byte), accessFlags := 24, slot := 5, constantValue := 0 }, { name := "value", type := .int, accessFlags := 18, slot := 0, constantValue := 0 }, { name := "SIZE", type := .int, accessFlags := 25, slot := 6, constantValue := 0 }, { name := "BYTES", type := .int, accessFlags := 25, slot := 7, constantValue := 0 }, { name := "serialVersionUID", type := .long, accessFlags := 26, slot := 8, constantValue := 0 }]
  methods := #[k10m0, k10m1]
  instanceTypes := #[.int]
  staticTypes := #[.int, .int, (.object "java/lang/Class"), (.array .char), (.array .byte), (.array .byte), .int, .int, .long]
  resolved := Array.replicate 453 none
  statics := none }

def pool11 : Array CpInfo := pool [(2, .class_ 4), (1, u "java/lang/Object"), (0, u "<init>"), (0, u "()V"), (0, .class_ 8), (0, u "java/lang/Integer"), (7, .class_ 18), (1, u "java/lang/Integer$IntegerCache"), (0, u "$assertionsDisabled"), (0, u "Z"), (26, u "high"), (0, u "I"), (8, u "archivedCache"), (0, u "[Ljava/lang/Integer;"), (12, u "cache"), (0, u "low")] 27

def k11m0 : Method := { name := "<init>", desc := "()V", sig := { parameters := [], returnType := none }, accessFlags := 2, code := none }
/-- java/lang/Integer$IntegerCache -/
def k11 : Class := { plain "java/lang/Integer$IntegerCache" (some 0) with
  accessFlags := 48
  interfaces := #[]
  cf := some (fileOf pool11 16 #[.nestHost 7] #[{ accessFlags := 2, nameIndex := 5, descriptorIndex := 6, attributes := #[] }] 48 2 #[] #[{ accessFlags := 24, nameIndex := 72, descriptorIndex := 48, attributes := #[] }, { accessFlags := 24, nameIndex := 47, descriptorIndex := 48, attributes := #[] }, { accessFlags := 24, nameIndex := 71, descriptorIndex := 58, attributes := #[] }, { accessFlags := 8, nameIndex := 57, descriptorIndex := 58, attributes := #[] }, { accessFlags := 4120, nameIndex := 19, descriptorIndex := 20, attributes := #[] }])
  fields := #[{ name := "low", type := .int, accessFlags := 24, slot := 0, constantValue := 0 }, { name := "high", type := .int, accessFlags := 24, slot := 1, constantValue := 0 }, { name := "cache", type := (.array (.object "java/lang/Integer")), accessFlags := 24, slot := 2, constantValue := 0 }, { name := "archivedCache", type := (.array (.object "java/lang/Integer")), accessFlags := 8, slot := 3, constantValue := 0 }, { name := "$assertionsDisabled", type := .boolean, accessFlags := 4120, slot := 4, constantValue := 0 }]
  methods := #[k11m0]
  instanceTypes := #[]
  staticTypes := #[.int, .int, (.array (.object "java/lang/Integer")), (.array (.object "java/lang/Integer")), .boolean]
  resolved := Array.replicate 100 none
  statics := some 0 }

def pool12 : Array CpInfo := pool [(1, u "java/lang/Cloneable"), (0, .class_ 1), (0, u "java/lang/Object"), (0, .class_ 3)] 3

/-- java/lang/Cloneable -/
def k12 : Class := { plain "java/lang/Cloneable" (some 0) with
  accessFlags := 1537
  interfaces := #[]
  cf := some (fileOf pool12 2 #[] #[] 1537 4 #[] #[])
  fields := #[]
  methods := #[]
  instanceTypes := #[]
  staticTypes := #[]
  resolved := Array.replicate 8 none
  statics := none }

/-- the primitive byte -/
def k13 : Class := { plain "byte" none with kind := .primitive 'B', accessFlags := 0x411 }
/-- [B -/
def k14 : Class := { plain "[B" (some 0) with kind := .array 13 .byte, interfaces := #[12, 3], accessFlags := 1041 }

/-- the primitive int -/
def k15 : Class := { plain "int" none with kind := .primitive 'I', accessFlags := 0x411 }
/-- [I -/
def k16 : Class := { plain "[I" (some 0) with kind := .array 15 .int, interfaces := #[12, 3], accessFlags := 1041 }

/-- [Ljava/lang/Integer; -/
def k17 : Class := { plain "[Ljava/lang/Integer;" (some 0) with kind := .array 10 (.object "java/lang/Integer"), interfaces := #[12, 3], accessFlags := 1041 }

def heap : Heap := #[{ cls := 11, slots := #[.int 0, .int 127, .ref 1, .null, .int 0], vm := .statics 11 },
  { cls := 17, slots := #[.ref 2, .ref 3, .ref 4, .ref 5, .ref 6, .ref 7, .ref 8, .ref 9, .ref 10, .ref 11, .ref 12, .ref 13, .ref 14, .ref 15, .ref 16, .ref 17, .ref 18, .ref 19, .ref 20, .ref 21, .ref 22, .ref 23, .ref 24, .ref 25, .ref 26, .ref 27, .ref 28, .ref 29, .ref 30, .ref 31, .ref 32, .ref 33, .ref 34, .ref 35, .ref 36, .ref 37, .ref 38, .ref 39, .ref 40, .ref 41, .ref 42, .ref 43, .ref 44, .ref 45, .ref 46, .ref 47, .ref 48, .ref 49, .ref 50, .ref 51, .ref 52, .ref 53, .ref 54, .ref 55, .ref 56, .ref 57, .ref 58, .ref 59, .ref 60, .ref 61, .ref 62, .ref 63, .ref 64, .ref 65, .ref 66, .ref 67, .ref 68, .ref 69, .ref 70, .ref 71, .ref 72, .ref 73, .ref 74, .ref 75, .ref 76, .ref 77, .ref 78, .ref 79, .ref 80, .ref 81, .ref 82, .ref 83, .ref 84, .ref 85, .ref 86, .ref 87, .ref 88, .ref 89, .ref 90, .ref 91, .ref 92, .ref 93, .ref 94, .ref 95, .ref 96, .ref 97, .ref 98, .ref 99, .ref 100, .ref 101, .ref 102, .ref 103, .ref 104, .ref 105, .ref 106, .ref 107, .ref 108, .ref 109, .ref 110, .ref 111, .ref 112, .ref 113, .ref 114, .ref 115, .ref 116, .ref 117, .ref 118, .ref 119, .ref 120, .ref 121, .ref 122, .ref 123, .ref 124, .ref 125, .ref 126, .ref 127, .ref 128, .ref 129, .ref 130, .ref 131, .ref 132, .ref 133, .ref 134, .ref 135, .ref 136, .ref 137, .ref 138, .ref 139, .ref 140, .ref 141, .ref 142, .ref 143, .ref 144, .ref 145, .ref 146, .ref 147, .ref 148, .ref 149, .ref 150, .ref 151, .ref 152, .ref 153, .ref 154, .ref 155, .ref 156, .ref 157, .ref 158, .ref 159, .ref 160, .ref 161, .ref 162, .ref 163, .ref 164, .ref 165, .ref 166, .ref 167, .ref 168, .ref 169, .ref 170, .ref 171, .ref 172, .ref 173, .ref 174, .ref 175, .ref 176, .ref 177, .ref 178, .ref 179, .ref 180, .ref 181, .ref 182, .ref 183, .ref 184, .ref 185, .ref 186, .ref 187, .ref 188, .ref 189, .ref 190, .ref 191, .ref 192, .ref 193, .ref 194, .ref 195, .ref 196, .ref 197, .ref 198, .ref 199, .ref 200, .ref 201, .ref 202, .ref 203, .ref 204, .ref 205, .ref 206, .ref 207, .ref 208, .ref 209, .ref 210, .ref 211, .ref 212, .ref 213, .ref 214, .ref 215, .ref 216, .ref 217, .ref 218, .ref 219, .ref 220, .ref 221, .ref 222, .ref 223, .ref 224, .ref 225, .ref 226, .ref 227, .ref 228, .ref 229, .ref 230, .ref 231, .ref 232, .ref 233, .ref 234, .ref 235, .ref 236, .ref 237, .ref 238, .ref 239, .ref 240, .ref 241, .ref 242, .ref 243, .ref 244, .ref 245, .ref 246, .ref 247, .ref 248, .ref 249, .ref 250, .ref 251, .ref 252, .ref 253, .ref 254, .ref 255, .ref 256, .ref 257], vm := .none },
  { cls := 10, slots := #[.int (-128)], vm := .none },
  { cls := 10, slots := #[.int (-127)], vm := .none },
  { cls := 10, slots := #[.int (-126)], vm := .none },
  { cls := 10, slots := #[.int (-125)], vm := .none },
  { cls := 10, slots := #[.int (-124)], vm := .none },
  { cls := 10, slots := #[.int (-123)], vm := .none },
  { cls := 10, slots := #[.int (-122)], vm := .none },
  { cls := 10, slots := #[.int (-121)], vm := .none },
  { cls := 10, slots := #[.int (-120)], vm := .none },
  { cls := 10, slots := #[.int (-119)], vm := .none },
  { cls := 10, slots := #[.int (-118)], vm := .none },
  { cls := 10, slots := #[.int (-117)], vm := .none },
  { cls := 10, slots := #[.int (-116)], vm := .none },
  { cls := 10, slots := #[.int (-115)], vm := .none },
  { cls := 10, slots := #[.int (-114)], vm := .none },
  { cls := 10, slots := #[.int (-113)], vm := .none },
  { cls := 10, slots := #[.int (-112)], vm := .none },
  { cls := 10, slots := #[.int (-111)], vm := .none },
  { cls := 10, slots := #[.int (-110)], vm := .none },
  { cls := 10, slots := #[.int (-109)], vm := .none },
  { cls := 10, slots := #[.int (-108)], vm := .none },
  { cls := 10, slots := #[.int (-107)], vm := .none },
  { cls := 10, slots := #[.int (-106)], vm := .none },
  { cls := 10, slots := #[.int (-105)], vm := .none },
  { cls := 10, slots := #[.int (-104)], vm := .none },
  { cls := 10, slots := #[.int (-103)], vm := .none },
  { cls := 10, slots := #[.int (-102)], vm := .none },
  { cls := 10, slots := #[.int (-101)], vm := .none },
  { cls := 10, slots := #[.int (-100)], vm := .none },
  { cls := 10, slots := #[.int (-99)], vm := .none },
  { cls := 10, slots := #[.int (-98)], vm := .none },
  { cls := 10, slots := #[.int (-97)], vm := .none },
  { cls := 10, slots := #[.int (-96)], vm := .none },
  { cls := 10, slots := #[.int (-95)], vm := .none },
  { cls := 10, slots := #[.int (-94)], vm := .none },
  { cls := 10, slots := #[.int (-93)], vm := .none },
  { cls := 10, slots := #[.int (-92)], vm := .none },
  { cls := 10, slots := #[.int (-91)], vm := .none },
  { cls := 10, slots := #[.int (-90)], vm := .none },
  { cls := 10, slots := #[.int (-89)], vm := .none },
  { cls := 10, slots := #[.int (-88)], vm := .none },
  { cls := 10, slots := #[.int (-87)], vm := .none },
  { cls := 10, slots := #[.int (-86)], vm := .none },
  { cls := 10, slots := #[.int (-85)], vm := .none },
  { cls := 10, slots := #[.int (-84)], vm := .none },
  { cls := 10, slots := #[.int (-83)], vm := .none },
  { cls := 10, slots := #[.int (-82)], vm := .none },
  { cls := 10, slots := #[.int (-81)], vm := .none },
  { cls := 10, slots := #[.int (-80)], vm := .none },
  { cls := 10, slots := #[.int (-79)], vm := .none },
  { cls := 10, slots := #[.int (-78)], vm := .none },
  { cls := 10, slots := #[.int (-77)], vm := .none },
  { cls := 10, slots := #[.int (-76)], vm := .none },
  { cls := 10, slots := #[.int (-75)], vm := .none },
  { cls := 10, slots := #[.int (-74)], vm := .none },
  { cls := 10, slots := #[.int (-73)], vm := .none },
  { cls := 10, slots := #[.int (-72)], vm := .none },
  { cls := 10, slots := #[.int (-71)], vm := .none },
  { cls := 10, slots := #[.int (-70)], vm := .none },
  { cls := 10, slots := #[.int (-69)], vm := .none },
  { cls := 10, slots := #[.int (-68)], vm := .none },
  { cls := 10, slots := #[.int (-67)], vm := .none },
  { cls := 10, slots := #[.int (-66)], vm := .none },
  { cls := 10, slots := #[.int (-65)], vm := .none },
  { cls := 10, slots := #[.int (-64)], vm := .none },
  { cls := 10, slots := #[.int (-63)], vm := .none },
  { cls := 10, slots := #[.int (-62)], vm := .none },
  { cls := 10, slots := #[.int (-61)], vm := .none },
  { cls := 10, slots := #[.int (-60)], vm := .none },
  { cls := 10, slots := #[.int (-59)], vm := .none },
  { cls := 10, slots := #[.int (-58)], vm := .none },
  { cls := 10, slots := #[.int (-57)], vm := .none },
  { cls := 10, slots := #[.int (-56)], vm := .none },
  { cls := 10, slots := #[.int (-55)], vm := .none },
  { cls := 10, slots := #[.int (-54)], vm := .none },
  { cls := 10, slots := #[.int (-53)], vm := .none },
  { cls := 10, slots := #[.int (-52)], vm := .none },
  { cls := 10, slots := #[.int (-51)], vm := .none },
  { cls := 10, slots := #[.int (-50)], vm := .none },
  { cls := 10, slots := #[.int (-49)], vm := .none },
  { cls := 10, slots := #[.int (-48)], vm := .none },
  { cls := 10, slots := #[.int (-47)], vm := .none },
  { cls := 10, slots := #[.int (-46)], vm := .none },
  { cls := 10, slots := #[.int (-45)], vm := .none },
  { cls := 10, slots := #[.int (-44)], vm := .none },
  { cls := 10, slots := #[.int (-43)], vm := .none },
  { cls := 10, slots := #[.int (-42)], vm := .none },
  { cls := 10, slots := #[.int (-41)], vm := .none },
  { cls := 10, slots := #[.int (-40)], vm := .none },
  { cls := 10, slots := #[.int (-39)], vm := .none },
  { cls := 10, slots := #[.int (-38)], vm := .none },
  { cls := 10, slots := #[.int (-37)], vm := .none },
  { cls := 10, slots := #[.int (-36)], vm := .none },
  { cls := 10, slots := #[.int (-35)], vm := .none },
  { cls := 10, slots := #[.int (-34)], vm := .none },
  { cls := 10, slots := #[.int (-33)], vm := .none },
  { cls := 10, slots := #[.int (-32)], vm := .none },
  { cls := 10, slots := #[.int (-31)], vm := .none },
  { cls := 10, slots := #[.int (-30)], vm := .none },
  { cls := 10, slots := #[.int (-29)], vm := .none },
  { cls := 10, slots := #[.int (-28)], vm := .none },
  { cls := 10, slots := #[.int (-27)], vm := .none },
  { cls := 10, slots := #[.int (-26)], vm := .none },
  { cls := 10, slots := #[.int (-25)], vm := .none },
  { cls := 10, slots := #[.int (-24)], vm := .none },
  { cls := 10, slots := #[.int (-23)], vm := .none },
  { cls := 10, slots := #[.int (-22)], vm := .none },
  { cls := 10, slots := #[.int (-21)], vm := .none },
  { cls := 10, slots := #[.int (-20)], vm := .none },
  { cls := 10, slots := #[.int (-19)], vm := .none },
  { cls := 10, slots := #[.int (-18)], vm := .none },
  { cls := 10, slots := #[.int (-17)], vm := .none },
  { cls := 10, slots := #[.int (-16)], vm := .none },
  { cls := 10, slots := #[.int (-15)], vm := .none },
  { cls := 10, slots := #[.int (-14)], vm := .none },
  { cls := 10, slots := #[.int (-13)], vm := .none },
  { cls := 10, slots := #[.int (-12)], vm := .none },
  { cls := 10, slots := #[.int (-11)], vm := .none },
  { cls := 10, slots := #[.int (-10)], vm := .none },
  { cls := 10, slots := #[.int (-9)], vm := .none },
  { cls := 10, slots := #[.int (-8)], vm := .none },
  { cls := 10, slots := #[.int (-7)], vm := .none },
  { cls := 10, slots := #[.int (-6)], vm := .none },
  { cls := 10, slots := #[.int (-5)], vm := .none },
  { cls := 10, slots := #[.int (-4)], vm := .none },
  { cls := 10, slots := #[.int (-3)], vm := .none },
  { cls := 10, slots := #[.int (-2)], vm := .none },
  { cls := 10, slots := #[.int (-1)], vm := .none },
  { cls := 10, slots := #[.int (0)], vm := .none },
  { cls := 10, slots := #[.int (1)], vm := .none },
  { cls := 10, slots := #[.int (2)], vm := .none },
  { cls := 10, slots := #[.int (3)], vm := .none },
  { cls := 10, slots := #[.int (4)], vm := .none },
  { cls := 10, slots := #[.int (5)], vm := .none },
  { cls := 10, slots := #[.int (6)], vm := .none },
  { cls := 10, slots := #[.int (7)], vm := .none },
  { cls := 10, slots := #[.int (8)], vm := .none },
  { cls := 10, slots := #[.int (9)], vm := .none },
  { cls := 10, slots := #[.int (10)], vm := .none },
  { cls := 10, slots := #[.int (11)], vm := .none },
  { cls := 10, slots := #[.int (12)], vm := .none },
  { cls := 10, slots := #[.int (13)], vm := .none },
  { cls := 10, slots := #[.int (14)], vm := .none },
  { cls := 10, slots := #[.int (15)], vm := .none },
  { cls := 10, slots := #[.int (16)], vm := .none },
  { cls := 10, slots := #[.int (17)], vm := .none },
  { cls := 10, slots := #[.int (18)], vm := .none },
  { cls := 10, slots := #[.int (19)], vm := .none },
  { cls := 10, slots := #[.int (20)], vm := .none },
  { cls := 10, slots := #[.int (21)], vm := .none },
  { cls := 10, slots := #[.int (22)], vm := .none },
  { cls := 10, slots := #[.int (23)], vm := .none },
  { cls := 10, slots := #[.int (24)], vm := .none },
  { cls := 10, slots := #[.int (25)], vm := .none },
  { cls := 10, slots := #[.int (26)], vm := .none },
  { cls := 10, slots := #[.int (27)], vm := .none },
  { cls := 10, slots := #[.int (28)], vm := .none },
  { cls := 10, slots := #[.int (29)], vm := .none },
  { cls := 10, slots := #[.int (30)], vm := .none },
  { cls := 10, slots := #[.int (31)], vm := .none },
  { cls := 10, slots := #[.int (32)], vm := .none },
  { cls := 10, slots := #[.int (33)], vm := .none },
  { cls := 10, slots := #[.int (34)], vm := .none },
  { cls := 10, slots := #[.int (35)], vm := .none },
  { cls := 10, slots := #[.int (36)], vm := .none },
  { cls := 10, slots := #[.int (37)], vm := .none },
  { cls := 10, slots := #[.int (38)], vm := .none },
  { cls := 10, slots := #[.int (39)], vm := .none },
  { cls := 10, slots := #[.int (40)], vm := .none },
  { cls := 10, slots := #[.int (41)], vm := .none },
  { cls := 10, slots := #[.int (42)], vm := .none },
  { cls := 10, slots := #[.int (43)], vm := .none },
  { cls := 10, slots := #[.int (44)], vm := .none },
  { cls := 10, slots := #[.int (45)], vm := .none },
  { cls := 10, slots := #[.int (46)], vm := .none },
  { cls := 10, slots := #[.int (47)], vm := .none },
  { cls := 10, slots := #[.int (48)], vm := .none },
  { cls := 10, slots := #[.int (49)], vm := .none },
  { cls := 10, slots := #[.int (50)], vm := .none },
  { cls := 10, slots := #[.int (51)], vm := .none },
  { cls := 10, slots := #[.int (52)], vm := .none },
  { cls := 10, slots := #[.int (53)], vm := .none },
  { cls := 10, slots := #[.int (54)], vm := .none },
  { cls := 10, slots := #[.int (55)], vm := .none },
  { cls := 10, slots := #[.int (56)], vm := .none },
  { cls := 10, slots := #[.int (57)], vm := .none },
  { cls := 10, slots := #[.int (58)], vm := .none },
  { cls := 10, slots := #[.int (59)], vm := .none },
  { cls := 10, slots := #[.int (60)], vm := .none },
  { cls := 10, slots := #[.int (61)], vm := .none },
  { cls := 10, slots := #[.int (62)], vm := .none },
  { cls := 10, slots := #[.int (63)], vm := .none },
  { cls := 10, slots := #[.int (64)], vm := .none },
  { cls := 10, slots := #[.int (65)], vm := .none },
  { cls := 10, slots := #[.int (66)], vm := .none },
  { cls := 10, slots := #[.int (67)], vm := .none },
  { cls := 10, slots := #[.int (68)], vm := .none },
  { cls := 10, slots := #[.int (69)], vm := .none },
  { cls := 10, slots := #[.int (70)], vm := .none },
  { cls := 10, slots := #[.int (71)], vm := .none },
  { cls := 10, slots := #[.int (72)], vm := .none },
  { cls := 10, slots := #[.int (73)], vm := .none },
  { cls := 10, slots := #[.int (74)], vm := .none },
  { cls := 10, slots := #[.int (75)], vm := .none },
  { cls := 10, slots := #[.int (76)], vm := .none },
  { cls := 10, slots := #[.int (77)], vm := .none },
  { cls := 10, slots := #[.int (78)], vm := .none },
  { cls := 10, slots := #[.int (79)], vm := .none },
  { cls := 10, slots := #[.int (80)], vm := .none },
  { cls := 10, slots := #[.int (81)], vm := .none },
  { cls := 10, slots := #[.int (82)], vm := .none },
  { cls := 10, slots := #[.int (83)], vm := .none },
  { cls := 10, slots := #[.int (84)], vm := .none },
  { cls := 10, slots := #[.int (85)], vm := .none },
  { cls := 10, slots := #[.int (86)], vm := .none },
  { cls := 10, slots := #[.int (87)], vm := .none },
  { cls := 10, slots := #[.int (88)], vm := .none },
  { cls := 10, slots := #[.int (89)], vm := .none },
  { cls := 10, slots := #[.int (90)], vm := .none },
  { cls := 10, slots := #[.int (91)], vm := .none },
  { cls := 10, slots := #[.int (92)], vm := .none },
  { cls := 10, slots := #[.int (93)], vm := .none },
  { cls := 10, slots := #[.int (94)], vm := .none },
  { cls := 10, slots := #[.int (95)], vm := .none },
  { cls := 10, slots := #[.int (96)], vm := .none },
  { cls := 10, slots := #[.int (97)], vm := .none },
  { cls := 10, slots := #[.int (98)], vm := .none },
  { cls := 10, slots := #[.int (99)], vm := .none },
  { cls := 10, slots := #[.int (100)], vm := .none },
  { cls := 10, slots := #[.int (101)], vm := .none },
  { cls := 10, slots := #[.int (102)], vm := .none },
  { cls := 10, slots := #[.int (103)], vm := .none },
  { cls := 10, slots := #[.int (104)], vm := .none },
  { cls := 10, slots := #[.int (105)], vm := .none },
  { cls := 10, slots := #[.int (106)], vm := .none },
  { cls := 10, slots := #[.int (107)], vm := .none },
  { cls := 10, slots := #[.int (108)], vm := .none },
  { cls := 10, slots := #[.int (109)], vm := .none },
  { cls := 10, slots := #[.int (110)], vm := .none },
  { cls := 10, slots := #[.int (111)], vm := .none },
  { cls := 10, slots := #[.int (112)], vm := .none },
  { cls := 10, slots := #[.int (113)], vm := .none },
  { cls := 10, slots := #[.int (114)], vm := .none },
  { cls := 10, slots := #[.int (115)], vm := .none },
  { cls := 10, slots := #[.int (116)], vm := .none },
  { cls := 10, slots := #[.int (117)], vm := .none },
  { cls := 10, slots := #[.int (118)], vm := .none },
  { cls := 10, slots := #[.int (119)], vm := .none },
  { cls := 10, slots := #[.int (120)], vm := .none },
  { cls := 10, slots := #[.int (121)], vm := .none },
  { cls := 10, slots := #[.int (122)], vm := .none },
  { cls := 10, slots := #[.int (123)], vm := .none },
  { cls := 10, slots := #[.int (124)], vm := .none },
  { cls := 10, slots := #[.int (125)], vm := .none },
  { cls := 10, slots := #[.int (126)], vm := .none },
  { cls := 10, slots := #[.int (127)], vm := .none }]
def classes : Array Class := #[k0, k1, k2, k3, k4, k5, k6, k7, k8, k9, k10, k11, k12, k13, k14, k15, k16, k17]
def interned : List (Array UInt16 × Addr) := []
def slotsUsed : Nat := 517
def theMethod : MethodId := ⟨1, 2⟩
def args0 : Array Value := #[.int 5, .int 3, .int 4]
def aboutOver (below : List Frame) : State where
  vm := { classes := classes, interned := interned.toArray }
  heap := heap
  slotsUsed := slotsUsed
  threads := #[{ frames := .invoking theMethod args0 :: below }]
def below0 : List Frame := [.native { method := ⟨0, 0⟩, args := #[] }]
def about1 : State := aboutOver below0
def p0 : Program := .bare "" "" ""
def e0 : Env := launch0.env 0 0 0
theorem w_frames : about1.frames = Frame.invoking theMethod args0 :: below0 := rfl
set_option maxRecDepth 65536 in
theorem w_args : argsFit about1.vm theMethod args0 = true := by decide +kernel
set_option maxRecDepth 65536 in
theorem w_heap : heapFits about1 = true := by decide +kernel
set_option maxRecDepth 65536 in
theorem w_runnable : about1.curStatus? = some .runnable := by decide +kernel
set_option maxRecDepth 65536 in
theorem w_alone : about1.alone = true := by decide +kernel
set_option maxRecDepth 65536 in
theorem w_named : about1.methodNamed? x = some theMethod := by decide +kernel
set_option maxRecDepth 65536 in
theorem w_hears : about1.hears theMethod below0 = true := by decide +kernel
set_option maxRecDepth 65536 in
theorem w_ripe : about1.ripe theMethod args0 below0 = true := by decide +kernel
theorem w_running : about1.status = .running := rfl
set_option maxRecDepth 65536 in
theorem w_room : about1.hasRoom e0.platform room_1 = true :=
  launch0.hasRoom_least _ room_1 (by decide +kernel) (by decide +kernel) (by decide +kernel) (by decide +kernel) (by decide +kernel) (by decide +kernel)
theorem allAtoms_all (ts : List Jvm.Cond) (a : Array Jvm.Value) (st : Jvm.State) : (allAtoms ts).before a st = ts.all (fun c => c.before a st) := by
  induction ts with
  | nil => rfl
  | cons c t ih =>
    show (Jvm.Cond.and c (allAtoms t)).before a st = _
    rw [Jvm.Cond.before_and, ih, List.all_cons]
def words1 : List Jvm.Cond := Jvm.Cond.code x code maxLocals ret :: tables_1
/-- a 'code' word, met by the world's own term for the bytes: nothing is compared byte by byte -/
theorem code_word {y : MethodName} {bytes : ByteArray} {mx : Nat} {rt : Option FieldType} {a : Array Value} {s : State} {m : MethodId} {meth : Method} {c : Code} (h1 : s.methodNamed? y = some m) (h2 : s.vm.method? m = some meth) (h3 : meth.code = some c) (h4 : c.code = bytes)
    (h5 : (c.maxLocals == mx && c.exceptionTable.isEmpty && decide (c.maxStack ≤ mostOperands) && decide (meth.sig.returnType = rt) && !meth.locks && decide (parseMethodDescriptor y.desc = some meth.sig)) = true) : (Jvm.Cond.code y bytes mx rt).before a s = true := by
  simp only [Bool.and_eq_true, beq_iff_eq, Bool.not_eq_true', decide_eq_true_eq] at h5
  obtain ⟨⟨⟨⟨⟨g1, g2⟩, g3⟩, g4⟩, g5⟩, g6⟩ := h5
  simp [Cond.before, Cond.holds, Cond.value, h1, h2, h3, h4, g1, g2, g3, g4, g5, g6]
def isCode : Jvm.Cond → Bool
  | .code _ _ _ _ => true
  | _ => false
theorem all_split {L : List Jvm.Cond} {P : Jvm.Cond → Bool} (h1 : L.all (fun c => isCode c || P c) = true) (h2 : ∀ c ∈ L.filter isCode, P c = true) : L.all P = true := by
  refine List.all_eq_true.mpr fun c hc => ?_
  have h := List.all_eq_true.mp h1 c hc
  rcases Bool.eq_false_or_eq_true (isCode c) with hi | hi
  · exact h2 c (List.mem_filter.mpr ⟨hc, hi⟩)
  · simpa [hi] using h
set_option maxRecDepth 65536 in
theorem w_c0 : (Jvm.Cond.code x code maxLocals ret).before args0 about1 = true := code_word (m := ⟨1, 2⟩) (meth := k1m2) (c := k1c2) (by decide +kernel) rfl rfl rfl (by decide +kernel)
set_option maxRecDepth 65536 in
theorem w_c1 : (Jvm.Cond.code ({ cls := "com/example/scanstride/scanstride/ColorEqualsPinLaw", name := "make", desc := "(I)Lcom/example/scanstride/scanstride/Color;" } : Jvm.MethodName) method_2_code (5 : Nat) (Option.some (Jvm.ClassFile.FieldType.object "com/example/scanstride/scanstride/Color"))).before args0 about1 = true := code_word (m := ⟨1, 1⟩) (meth := k1m1) (c := k1c1) (by decide +kernel) rfl rfl rfl (by decide +kernel)
set_option maxRecDepth 65536 in
theorem w_c2 : (Jvm.Cond.code ({ cls := "com/example/scanstride/scanstride/Color", name := "<init>", desc := "(DDDD)V" } : Jvm.MethodName) prog_16_method_1_code (9 : Nat) (Option.none : Option Jvm.ClassFile.FieldType)).before args0 about1 = true := code_word (m := ⟨2, 0⟩) (meth := k2m0) (c := k2c0) (by decide +kernel) rfl rfl rfl (by decide +kernel)
set_option maxRecDepth 65536 in
theorem w_c3 : (Jvm.Cond.code ({ cls := "java/lang/Object", name := "<init>", desc := "()V" } : Jvm.MethodName) object_method_1_code (1 : Nat) (Option.none : Option Jvm.ClassFile.FieldType)).before args0 about1 = true := code_word (m := ⟨0, 0⟩) (meth := k0m0) (c := k0c0) (by decide +kernel) rfl rfl rfl (by decide +kernel)
set_option maxRecDepth 65536 in
theorem w_c4 : (Jvm.Cond.code ({ cls := "com/example/scanstride/scanstride/Color", name := "checkComponent", desc := "(Ljava/lang/String;D)D" } : Jvm.MethodName) prog_16_method_36_code (3 : Nat) (Option.some Jvm.ClassFile.FieldType.double)).before args0 about1 = true := code_word (m := ⟨2, 2⟩) (meth := k2m2) (c := k2c2) (by decide +kernel) rfl rfl rfl (by decide +kernel)
set_option maxRecDepth 65536 in
theorem w_c5 : (Jvm.Cond.code ({ cls := "com/example/scanstride/scanstride/Color", name := "nearestFloat", desc := "(D)D" } : Jvm.MethodName) prog_16_method_37_code (2 : Nat) (Option.some Jvm.ClassFile.FieldType.double)).before args0 about1 = true := code_word (m := ⟨2, 3⟩) (meth := k2m3) (c := k2c3) (by decide +kernel) rfl rfl rfl (by decide +kernel)
set_option maxRecDepth 65536 in
theorem w_c6 : (Jvm.Cond.code ({ cls := "com/example/scanstride/scanstride/Color", name := "equals", desc := "(Ljava/lang/Object;)Z" } : Jvm.MethodName) prog_16_method_33_code (3 : Nat) (Option.some Jvm.ClassFile.FieldType.boolean)).before args0 about1 = true := code_word (m := ⟨2, 1⟩) (meth := k2m1) (c := k2c1) (by decide +kernel) rfl rfl rfl (by decide +kernel)
set_option maxRecDepth 65536 in
theorem w_c7 : (Jvm.Cond.code ({ cls := "java/lang/Integer", name := "valueOf", desc := "(I)Ljava/lang/Integer;" } : Jvm.MethodName) jdk_33_method_22_code (1 : Nat) (Option.some (Jvm.ClassFile.FieldType.object "java/lang/Integer"))).before args0 about1 = true := code_word (m := ⟨10, 0⟩) (meth := k10m0) (c := k10c0) (by decide +kernel) rfl rfl rfl (by decide +kernel)
set_option maxRecDepth 65536 in
theorem w_c8 : (Jvm.Cond.code ({ cls := "java/lang/Integer", name := "<init>", desc := "(I)V" } : Jvm.MethodName) jdk_33_method_23_code (2 : Nat) (Option.none : Option Jvm.ClassFile.FieldType)).before args0 about1 = true := code_word (m := ⟨10, 1⟩) (meth := k10m1) (c := k10c1) (by decide +kernel) rfl rfl rfl (by decide +kernel)
set_option maxRecDepth 65536 in
theorem w_c9 : (Jvm.Cond.code ({ cls := "java/lang/Number", name := "<init>", desc := "()V" } : Jvm.MethodName) jdk_18_method_1_code (1 : Nat) (Option.none : Option Jvm.ClassFile.FieldType)).before args0 about1 = true := code_word (m := ⟨9, 0⟩) (meth := k9m0) (c := k9c0) (by decide +kernel) rfl rfl rfl (by decide +kernel)
def codes1 : List Jvm.Cond := [Jvm.Cond.code x code maxLocals ret, Jvm.Cond.code ({ cls := "com/example/scanstride/scanstride/ColorEqualsPinLaw", name := "make", desc := "(I)Lcom/example/scanstride/scanstride/Color;" } : Jvm.MethodName) method_2_code (5 : Nat) (Option.some (Jvm.ClassFile.FieldType.object "com/example/scanstride/scanstride/Color")), Jvm.Cond.code ({ cls := "com/example/scanstride/scanstride/Color", name := "<init>", desc := "(DDDD)V" } : Jvm.MethodName) prog_16_method_1_code (9 : Nat) (Option.none : Option Jvm.ClassFile.FieldType), Jvm.Cond.code ({ cls := "java/lang/Object", name := "<init>", desc := "()V" } : Jvm.MethodName) object_method_1_code (1 : Nat) (Option.none : Option Jvm.ClassFile.FieldType), Jvm.Cond.code ({ cls := "com/example/scanstride/scanstride/Color", name := "checkComponent", desc := "(Ljava/lang/String;D)D" } : Jvm.MethodName) prog_16_method_36_code (3 : Nat) (Option.some Jvm.ClassFile.FieldType.double), Jvm.Cond.code ({ cls := "com/example/scanstride/scanstride/Color", name := "nearestFloat", desc := "(D)D" } : Jvm.MethodName) prog_16_method_37_code (2 : Nat) (Option.some Jvm.ClassFile.FieldType.double), Jvm.Cond.code ({ cls := "com/example/scanstride/scanstride/Color", name := "equals", desc := "(Ljava/lang/Object;)Z" } : Jvm.MethodName) prog_16_method_33_code (3 : Nat) (Option.some Jvm.ClassFile.FieldType.boolean), Jvm.Cond.code ({ cls := "java/lang/Integer", name := "valueOf", desc := "(I)Ljava/lang/Integer;" } : Jvm.MethodName) jdk_33_method_22_code (1 : Nat) (Option.some (Jvm.ClassFile.FieldType.object "java/lang/Integer")), Jvm.Cond.code ({ cls := "java/lang/Integer", name := "<init>", desc := "(I)V" } : Jvm.MethodName) jdk_33_method_23_code (2 : Nat) (Option.none : Option Jvm.ClassFile.FieldType), Jvm.Cond.code ({ cls := "java/lang/Number", name := "<init>", desc := "()V" } : Jvm.MethodName) jdk_18_method_1_code (1 : Nat) (Option.none : Option Jvm.ClassFile.FieldType)]
set_option maxRecDepth 65536 in
theorem codes_eq : words1.filter isCode = codes1 := rfl
theorem w_codes : ∀ c ∈ words1.filter isCode, c.before args0 about1 = true := by
  rw [codes_eq]
  intro c hc
  simp only [codes1, List.mem_cons, List.not_mem_nil, or_false] at hc
  rcases hc with rfl | rfl | rfl | rfl | rfl | rfl | rfl | rfl | rfl | rfl
  · exact w_c0
  · exact w_c1
  · exact w_c2
  · exact w_c3
  · exact w_c4
  · exact w_c5
  · exact w_c6
  · exact w_c7
  · exact w_c8
  · exact w_c9
set_option maxRecDepth 65536 in
theorem w_t1 : (words1.take 24).all (fun c => isCode c || c.before args0 about1) = true := by decide +kernel
set_option maxRecDepth 65536 in
theorem w_t2 : ((words1.drop 24).take 24).all (fun c => isCode c || c.before args0 about1) = true := by decide +kernel
set_option maxRecDepth 65536 in
theorem w_t3 : ((words1.drop 24).drop 24).all (fun c => isCode c || c.before args0 about1) = true := by decide +kernel
theorem w_tables : (allAtoms (Jvm.Cond.code x code maxLocals ret :: tables_1)).before args0 about1 = true := by
  rw [allAtoms_all]
  show words1.all (fun c => c.before args0 about1) = true
  refine all_split ?_ w_codes
  rw [← List.take_append_drop 24 words1, List.all_append, w_t1, ← List.take_append_drop 24 (words1.drop 24), List.all_append, w_t2, w_t3]
  rfl
set_option maxRecDepth 65536 in
theorem w_rest : rest_1_c.before args0 about1 = true := by decide +kernel
set_option maxRecDepth 65536 in
theorem w_case : (Jvm.Cond.and given_1 narrow_1).before args0 about1 = true := by decide +kernel
theorem w_applies : (headSpec (Jvm.Cond.code x code maxLocals ret :: tables_1) room_1).applies x e0.platform about1 = true :=
  (Spec.applies_iff w_frames).mpr ⟨w_running, w_runnable, w_alone, w_named, w_hears, w_ripe, w_room, w_tables⟩
theorem atStart : AtStart classFile x code maxLocals ret World_1 tables_1 room_1 Calls_1 rest_1 Pre_1 launch0 p0 e0 about1 theMethod args0 below0 :=
  ⟨lists_1, trivial, launch0.admits_env _ _ _, launch0.least_env, fairChoices_fair.cas, fairChoices_fair.clock, w_frames, w_args, w_heap, w_applies, trivial, w_rest, w_case⟩
end start1
theorem witness_1 : WitnessClaimed_1 := ⟨start1.p0, start1.e0, start1.about1, start1.theMethod, start1.args0, start1.below0, start1.atStart⟩
end Jvm.Pilot.@@N@@
