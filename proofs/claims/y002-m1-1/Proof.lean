import JvmDerived
import JvmDerived.Pilot.@@N@@Statement
import JvmDerived.Pilot.@@N@@Code
set_option linter.unusedVariables false
set_option linter.unusedSimpArgs false
namespace Jvm.OwnKit
open Sem ClassFile Op Lib Jvm.Stand Jvm.Free Jvm.LawKit Jvm.RoadKit
/-! My own layer: a walk forward. Done G S: from the state S the invocation comes to its end, and G holds there. -/
def Done (p : Program) (e : Env) (below : List Frame) (G : Outcome → State → Prop) (S : State) : Prop :=
  ∃ s₂ o, Steps p.tables e below S s₂ ∧ s₂.status = .running ∧ Ended s₂ below o ∧ G o s₂
/-- what a contract promises at the end: the value, the heap; all that was written lies at or above n0 -/
def OEnd (s : State) (R : Room) (n0 : Nat) (Q : Option Value → Heap → Prop) (o : Outcome) (U : State) : Prop :=
  ∃ v L, o = .returned v ∧ (Q v U.heap ∧ Fr n0 L) ∧ FrameEnd s o U L R.cells R.slots
/-- where the walk stands: a Stand whose writes lie at or above n0, and its heap -/
def St (p : Program) (l : Launch) (e : Env) (R : Room) (s : State) (m : MethodId) (args : Array Value) (below : List Frame) (meth : Method) (c : Code) (n0 : Nat) (T : State) (h : Heap) (k n : Nat) : Prop :=
  ∃ locs, Stand p l e R s m args below meth c T locs k n ∧ Fr n0 locs ∧ T.heap = h
/-- a contract of a body -/
def Con (l : Launch) (Z : State) (y : MethodName) (bytes : ByteArray) (maxL : Nat) (ret : Option FieldType) (rm : Room) (n0 : Nat) (h0 : Heap) (as' : Array Value) (Q : Option Value → Heap → Prop) : Prop :=
  ∀ ws : List Jvm.Cond, MetFree l y (head1 (Jvm.Cond.code y bytes maxL ret :: ws) rm) (fun a U => a = as' ∧ Z.Warmed39 U.vm ∧ U.heap = h0) (fun _ _ _ _ _ => True) (fun _ U o U' => OEnd U rm n0 Q o U')
section Walk
variable {p : Program} {l : Launch} {e : Env} {R : Room} {s : State} {m : MethodId} {args : Array Value} {below : List Frame} {meth : Method} {c : Code} {n0 : Nat} {T : State} {h : Heap} {k n : Nat} {Z : State} {a0 : Array Value}
variable {G : Outcome → State → Prop} {pc pc' : Nat} {Ls Ls' : Array Slot} {st : List Value}
theorem Done.go {S S' : State} (f : ∀ t, Steps p.tables e below S' t → Steps p.tables e below S t) (d : Done p e below G S') : Done p e below G S := by
  obtain ⟨s₂, o, h1, h2⟩ := d
  exact ⟨s₂, o, f _ h1, h2⟩
theorem St.here (S : St p l e R s m args below meth c n0 T h k n) : At T m c below := by
  obtain ⟨_, X, _⟩ := S
  exact X.here
theorem St.heap (S : St p l e R s m args below meth c n0 T h k n) : T.heap = h := by
  obtain ⟨_, _, _, q⟩ := S
  exact q
theorem St.more {k' n' : Nat} (S : St p l e R s m args below meth c n0 T h k n) (hk : k ≤ k') (hn : n ≤ n') : St p l e R s m args below meth c n0 T h k' n' := by
  obtain ⟨L, X, N, q⟩ := S
  exact ⟨L, X.more hk hn, N, q⟩
theorem Con.intro {y : MethodName} {bytes : ByteArray} {maxL : Nat} {ret : Option FieldType} {rm : Room} {h0 : Heap} {as' : Array Value} {Q : Option Value → Heap → Prop}
    (hp : plainFor y = true) (hef : ∀ m, entryFrame m as' maxL = mkF m 0 Ls [])
    (body : ∀ (p : Program) (e : Env) (s : State) (m : MethodId) (below : List Frame) (meth : Method) (c : Code) (s₁ : State), p.tables.exec = Jvm.exec → c.code = bytes → c.maxLocals = maxL → s.vm.findClass y.cls = some m.cls → meth.name = y.name →
      meth.sig.returnType = ret → meth.locks = false → Z.Warmed39 s.vm → St p l e rm s m as' below meth c n0 s₁ h0 0 0 → Done p e below (OEnd s rm n0 Q) (s₁.setTop (mkF m 0 Ls []))) :
    Con l Z y bytes maxL ret rm n0 h0 as' Q := by
  intro ws
  refine MetFree.of_bodySF hp hisR ?_
  intro p e s m args below meth c s₁ Bd hml0 hP hK
  obtain ⟨rfl, hZ, hh⟩ := hP
  have hr := body p e s m below meth c s₁ Bd.exec Bd.bytes hml0 (findClass_of_methodNamed Bd.named) (name_of_methodNamed Bd.named Bd.method).1 Bd.returns Bd.notSynchronized hZ ⟨[], Stand.of_body Bd, Fr.nil n0, by rw [← hh, Bd.state]; rfl⟩
  rw [← hef m] at hr
  exact hr
/-! ### single steps -/
theorem k_iload (A : At T m c below) (hx : p.tables.exec = Jvm.exec) {i : Nat} {v : Int32} (hd : decode c.code pc = .ok (.iload i, 2)) (hl : Ls[i]? = some (.val (.int v))) (hp : pc + 2 = pc')
    (K : Done p e below G (T.setTop (mkF m pc' Ls (.int v :: st)))) : Done p e below G (T.setTop (mkF m pc Ls st)) := by
  subst hp; exact Done.go (fun t q => XS.iload A hx rfl hd hl q) K
theorem k_iloadN (A : At T m c below) (hx : p.tables.exec = Jvm.exec) {i : Fin 4} {v : Int32} (hd : decode c.code pc = .ok (.iload_n i, 1)) (hl : Ls[i.val]? = some (.val (.int v))) (hp : pc + 1 = pc')
    (K : Done p e below G (T.setTop (mkF m pc' Ls (.int v :: st)))) : Done p e below G (T.setTop (mkF m pc Ls st)) := by
  subst hp; exact Done.go (fun t q => XS.iloadN A hx rfl hd hl q) K
theorem k_istore (A : At T m c below) (hx : p.tables.exec = Jvm.exec) {i : Nat} {v : Int32} (hd : decode c.code pc = .ok (.istore i, 2)) (hl : storeLocals Ls i (.int v) = some Ls') (hp : pc + 2 = pc')
    (K : Done p e below G (T.setTop (mkF m pc' Ls' st))) : Done p e below G (T.setTop (mkF m pc Ls (.int v :: st))) := by
  subst hp; exact Done.go (fun t q => XS.istore A hx rfl hd rfl hl q) K
theorem k_istoreN (A : At T m c below) (hx : p.tables.exec = Jvm.exec) {i : Fin 4} {v : Int32} (hd : decode c.code pc = .ok (.istore_n i, 1)) (hl : storeLocals Ls i.val (.int v) = some Ls') (hp : pc + 1 = pc')
    (K : Done p e below G (T.setTop (mkF m pc' Ls' st))) : Done p e below G (T.setTop (mkF m pc Ls (.int v :: st))) := by
  subst hp; exact Done.go (fun t q => XS.istoreN A hx rfl hd rfl hl q) K
theorem k_lload (A : At T m c below) (hx : p.tables.exec = Jvm.exec) {i : Nat} {v : Int64} (hd : decode c.code pc = .ok (.lload i, 2)) (hl : Ls[i]? = some (.val (.long v))) (hp : pc + 2 = pc')
    (K : Done p e below G (T.setTop (mkF m pc' Ls (.long v :: st)))) : Done p e below G (T.setTop (mkF m pc Ls st)) := by
  subst hp; exact Done.go (fun t q => XS.lload A hx rfl hd hl q) K
theorem k_lloadN (A : At T m c below) (hx : p.tables.exec = Jvm.exec) {i : Fin 4} {v : Int64} (hd : decode c.code pc = .ok (.lload_n i, 1)) (hl : Ls[i.val]? = some (.val (.long v))) (hp : pc + 1 = pc')
    (K : Done p e below G (T.setTop (mkF m pc' Ls (.long v :: st)))) : Done p e below G (T.setTop (mkF m pc Ls st)) := by
  subst hp; exact Done.go (fun t q => XS.lloadN A hx rfl hd hl q) K
theorem k_lstore (A : At T m c below) (hx : p.tables.exec = Jvm.exec) {i : Nat} {v : Int64} (hd : decode c.code pc = .ok (.lstore i, 2)) (hl : storeLocals Ls i (.long v) = some Ls') (hp : pc + 2 = pc')
    (K : Done p e below G (T.setTop (mkF m pc' Ls' st))) : Done p e below G (T.setTop (mkF m pc Ls (.long v :: st))) := by
  subst hp; exact Done.go (fun t q => XS.lstore A hx rfl hd rfl hl q) K
theorem k_lstoreN (A : At T m c below) (hx : p.tables.exec = Jvm.exec) {i : Fin 4} {v : Int64} (hd : decode c.code pc = .ok (.lstore_n i, 1)) (hl : storeLocals Ls i.val (.long v) = some Ls') (hp : pc + 1 = pc')
    (K : Done p e below G (T.setTop (mkF m pc' Ls' st))) : Done p e below G (T.setTop (mkF m pc Ls (.long v :: st))) := by
  subst hp; exact Done.go (fun t q => XS.lstoreN A hx rfl hd rfl hl q) K
theorem k_aload (A : At T m c below) (hx : p.tables.exec = Jvm.exec) {i : Nat} {v : Value} (hd : decode c.code pc = .ok (.aload i, 2)) (hl : Ls[i]? = some (.val v)) (hv : v.isRef = true) (hp : pc + 2 = pc')
    (K : Done p e below G (T.setTop (mkF m pc' Ls (v :: st)))) : Done p e below G (T.setTop (mkF m pc Ls st)) := by
  subst hp; exact Done.go (fun t q => XS.aload A hx rfl hd hl hv q) K
theorem k_aloadN (A : At T m c below) (hx : p.tables.exec = Jvm.exec) {i : Fin 4} {v : Value} (hd : decode c.code pc = .ok (.aload_n i, 1)) (hl : Ls[i.val]? = some (.val v)) (hv : v.isRef = true) (hp : pc + 1 = pc')
    (K : Done p e below G (T.setTop (mkF m pc' Ls (v :: st)))) : Done p e below G (T.setTop (mkF m pc Ls st)) := by
  subst hp; exact Done.go (fun t q => XS.aloadN A hx rfl hd hl hv q) K
theorem k_astore (A : At T m c below) (hx : p.tables.exec = Jvm.exec) {i : Nat} {v : Value} (hd : decode c.code pc = .ok (.astore i, 2)) (hv : v.isRef = true) (hl : storeLocals Ls i v = some Ls') (hp : pc + 2 = pc')
    (K : Done p e below G (T.setTop (mkF m pc' Ls' st))) : Done p e below G (T.setTop (mkF m pc Ls (v :: st))) := by
  subst hp; exact Done.go (fun t q => XS.astore A hx rfl hd rfl hv hl q) K
theorem k_astoreN (A : At T m c below) (hx : p.tables.exec = Jvm.exec) {i : Fin 4} {v : Value} (hd : decode c.code pc = .ok (.astore_n i, 1)) (hv : v.isRef = true) (hl : storeLocals Ls i.val v = some Ls') (hp : pc + 1 = pc')
    (K : Done p e below G (T.setTop (mkF m pc' Ls' st))) : Done p e below G (T.setTop (mkF m pc Ls (v :: st))) := by
  subst hp; exact Done.go (fun t q => XS.astoreN A hx rfl hd rfl hv hl q) K
theorem k_iconst (A : At T m c below) (hx : p.tables.exec = Jvm.exec) {i : Int} {v : Int32} (hd : decode c.code pc = .ok (.iconst i, 1)) (hv : Int32.ofInt i = v) (hp : pc + 1 = pc')
    (K : Done p e below G (T.setTop (mkF m pc' Ls (.int v :: st)))) : Done p e below G (T.setTop (mkF m pc Ls st)) := by
  subst hp hv; exact Done.go (fun t q => XS.iconst A hx rfl hd q) K
theorem k_bipush (A : At T m c below) (hx : p.tables.exec = Jvm.exec) {i : Int} {v : Int32} (hd : decode c.code pc = .ok (.bipush i, 2)) (hv : (Int8.ofInt i).toInt32 = v) (hp : pc + 2 = pc')
    (K : Done p e below G (T.setTop (mkF m pc' Ls (.int v :: st)))) : Done p e below G (T.setTop (mkF m pc Ls st)) := by
  subst hp hv; exact Done.go (fun t q => XS.bipush A hx rfl hd q) K
theorem k_sipush (A : At T m c below) (hx : p.tables.exec = Jvm.exec) {i : Int} {v : Int32} (hd : decode c.code pc = .ok (.sipush i, 3)) (hv : (Int16.ofInt i).toInt32 = v) (hp : pc + 3 = pc')
    (K : Done p e below G (T.setTop (mkF m pc' Ls (.int v :: st)))) : Done p e below G (T.setTop (mkF m pc Ls st)) := by
  subst hp hv; exact Done.go (fun t q => XS.sipush A hx rfl hd q) K
theorem k_lconst (A : At T m c below) (hx : p.tables.exec = Jvm.exec) {i : Fin 2} {v : Int64} (hd : decode c.code pc = .ok (.lconst i, 1)) (hv : Int64.ofNat i = v) (hp : pc + 1 = pc')
    (K : Done p e below G (T.setTop (mkF m pc' Ls (.long v :: st)))) : Done p e below G (T.setTop (mkF m pc Ls st)) := by
  subst hp hv; exact Done.go (fun t q => XS.lconst A hx rfl hd q) K
theorem k_aconstNull (A : At T m c below) (hx : p.tables.exec = Jvm.exec)  (hd : decode c.code pc = .ok (.aconst_null, 1)) (hp : pc + 1 = pc')
    (K : Done p e below G (T.setTop (mkF m pc' Ls (.null :: st)))) : Done p e below G (T.setTop (mkF m pc Ls st)) := by
  subst hp; exact Done.go (fun t q => XS.aconstNull A hx rfl hd q) K
theorem k_dup (A : At T m c below) (hx : p.tables.exec = Jvm.exec) {v : Value} (hd : decode c.code pc = .ok (.dup, 1)) (hv : v.category = 1) (hp : pc + 1 = pc')
    (K : Done p e below G (T.setTop (mkF m pc' Ls (v :: v :: st)))) : Done p e below G (T.setTop (mkF m pc Ls (v :: st))) := by
  subst hp; exact Done.go (fun t q => XS.dup A hx rfl hd rfl hv q) K
theorem k_pop (A : At T m c below) (hx : p.tables.exec = Jvm.exec) {v : Value} (hd : decode c.code pc = .ok (.pop, 1)) (hv : v.category = 1) (hp : pc + 1 = pc')
    (K : Done p e below G (T.setTop (mkF m pc' Ls st))) : Done p e below G (T.setTop (mkF m pc Ls (v :: st))) := by
  subst hp; exact Done.go (fun t q => XS.pop A hx rfl hd rfl hv q) K
theorem k_dupX1 (A : At T m c below) (hx : p.tables.exec = Jvm.exec) {v w : Value} (hd : decode c.code pc = .ok (.dup_x1, 1)) (hv : v.category = 1) (hw : w.category = 1) (hp : pc + 1 = pc')
    (K : Done p e below G (T.setTop (mkF m pc' Ls (v :: w :: v :: st)))) : Done p e below G (T.setTop (mkF m pc Ls (v :: w :: st))) := by
  subst hp; exact Done.go (fun t q => XS.dupX1 A hx rfl hd rfl hv hw q) K
theorem k_iadd (A : At T m c below) (hx : p.tables.exec = Jvm.exec) {x y : Int32} (hd : decode c.code pc = .ok (.iadd, 1)) (hp : pc + 1 = pc')
    (K : Done p e below G (T.setTop (mkF m pc' Ls (.int (x + y) :: st)))) : Done p e below G (T.setTop (mkF m pc Ls (.int y :: .int x :: st))) := by
  subst hp; exact Done.go (fun t q => XS.iadd A hx rfl hd rfl q) K
theorem k_isub (A : At T m c below) (hx : p.tables.exec = Jvm.exec) {x y : Int32} (hd : decode c.code pc = .ok (.isub, 1)) (hp : pc + 1 = pc')
    (K : Done p e below G (T.setTop (mkF m pc' Ls (.int (x - y) :: st)))) : Done p e below G (T.setTop (mkF m pc Ls (.int y :: .int x :: st))) := by
  subst hp; exact Done.go (fun t q => XS.isub A hx rfl hd rfl q) K
theorem k_imul (A : At T m c below) (hx : p.tables.exec = Jvm.exec) {x y : Int32} (hd : decode c.code pc = .ok (.imul, 1)) (hp : pc + 1 = pc')
    (K : Done p e below G (T.setTop (mkF m pc' Ls (.int (x * y) :: st)))) : Done p e below G (T.setTop (mkF m pc Ls (.int y :: .int x :: st))) := by
  subst hp; exact Done.go (fun t q => XS.imul A hx rfl hd rfl q) K
theorem k_iand (A : At T m c below) (hx : p.tables.exec = Jvm.exec) {x y : Int32} (hd : decode c.code pc = .ok (.iand, 1)) (hp : pc + 1 = pc')
    (K : Done p e below G (T.setTop (mkF m pc' Ls (.int (x &&& y) :: st)))) : Done p e below G (T.setTop (mkF m pc Ls (.int y :: .int x :: st))) := by
  subst hp; exact Done.go (fun t q => XS.iand A hx rfl hd rfl q) K
theorem k_ior (A : At T m c below) (hx : p.tables.exec = Jvm.exec) {x y : Int32} (hd : decode c.code pc = .ok (.ior, 1)) (hp : pc + 1 = pc')
    (K : Done p e below G (T.setTop (mkF m pc' Ls (.int (x ||| y) :: st)))) : Done p e below G (T.setTop (mkF m pc Ls (.int y :: .int x :: st))) := by
  subst hp; exact Done.go (fun t q => XS.ior A hx rfl hd rfl q) K
theorem k_ixor (A : At T m c below) (hx : p.tables.exec = Jvm.exec) {x y : Int32} (hd : decode c.code pc = .ok (.ixor, 1)) (hp : pc + 1 = pc')
    (K : Done p e below G (T.setTop (mkF m pc' Ls (.int (x ^^^ y) :: st)))) : Done p e below G (T.setTop (mkF m pc Ls (.int y :: .int x :: st))) := by
  subst hp; exact Done.go (fun t q => XS.ixor A hx rfl hd rfl q) K
theorem k_ishl (A : At T m c below) (hx : p.tables.exec = Jvm.exec) {x y : Int32} (hd : decode c.code pc = .ok (.ishl, 1)) (hp : pc + 1 = pc')
    (K : Done p e below G (T.setTop (mkF m pc' Ls (.int (x <<< (y &&& 31)) :: st)))) : Done p e below G (T.setTop (mkF m pc Ls (.int y :: .int x :: st))) := by
  subst hp; exact Done.go (fun t q => XS.ishl A hx rfl hd rfl q) K
theorem k_ishr (A : At T m c below) (hx : p.tables.exec = Jvm.exec) {x y : Int32} (hd : decode c.code pc = .ok (.ishr, 1)) (hp : pc + 1 = pc')
    (K : Done p e below G (T.setTop (mkF m pc' Ls (.int (x >>> (y &&& 31)) :: st)))) : Done p e below G (T.setTop (mkF m pc Ls (.int y :: .int x :: st))) := by
  subst hp; exact Done.go (fun t q => XS.ishr A hx rfl hd rfl q) K
theorem k_iushr (A : At T m c below) (hx : p.tables.exec = Jvm.exec) {x y : Int32} (hd : decode c.code pc = .ok (.iushr, 1)) (hp : pc + 1 = pc')
    (K : Done p e below G (T.setTop (mkF m pc' Ls (.int ((x.toUInt32 >>> (y &&& 31).toUInt32).toInt32) :: st)))) : Done p e below G (T.setTop (mkF m pc Ls (.int y :: .int x :: st))) := by
  subst hp; exact Done.go (fun t q => XS.iushr A hx rfl hd rfl q) K
theorem k_ladd (A : At T m c below) (hx : p.tables.exec = Jvm.exec) {x y : Int64} (hd : decode c.code pc = .ok (.ladd, 1)) (hp : pc + 1 = pc')
    (K : Done p e below G (T.setTop (mkF m pc' Ls (.long (x + y) :: st)))) : Done p e below G (T.setTop (mkF m pc Ls (.long y :: .long x :: st))) := by
  subst hp; exact Done.go (fun t q => XS.ladd A hx rfl hd rfl q) K
theorem k_lsub (A : At T m c below) (hx : p.tables.exec = Jvm.exec) {x y : Int64} (hd : decode c.code pc = .ok (.lsub, 1)) (hp : pc + 1 = pc')
    (K : Done p e below G (T.setTop (mkF m pc' Ls (.long (x - y) :: st)))) : Done p e below G (T.setTop (mkF m pc Ls (.long y :: .long x :: st))) := by
  subst hp; exact Done.go (fun t q => XS.lsub A hx rfl hd rfl q) K
theorem k_lmul (A : At T m c below) (hx : p.tables.exec = Jvm.exec) {x y : Int64} (hd : decode c.code pc = .ok (.lmul, 1)) (hp : pc + 1 = pc')
    (K : Done p e below G (T.setTop (mkF m pc' Ls (.long (x * y) :: st)))) : Done p e below G (T.setTop (mkF m pc Ls (.long y :: .long x :: st))) := by
  subst hp; exact Done.go (fun t q => XS.lmul A hx rfl hd rfl q) K
theorem k_land (A : At T m c below) (hx : p.tables.exec = Jvm.exec) {x y : Int64} (hd : decode c.code pc = .ok (.land, 1)) (hp : pc + 1 = pc')
    (K : Done p e below G (T.setTop (mkF m pc' Ls (.long (x &&& y) :: st)))) : Done p e below G (T.setTop (mkF m pc Ls (.long y :: .long x :: st))) := by
  subst hp; exact Done.go (fun t q => XS.land A hx rfl hd rfl q) K
theorem k_lor (A : At T m c below) (hx : p.tables.exec = Jvm.exec) {x y : Int64} (hd : decode c.code pc = .ok (.lor, 1)) (hp : pc + 1 = pc')
    (K : Done p e below G (T.setTop (mkF m pc' Ls (.long (x ||| y) :: st)))) : Done p e below G (T.setTop (mkF m pc Ls (.long y :: .long x :: st))) := by
  subst hp; exact Done.go (fun t q => XS.lor A hx rfl hd rfl q) K
theorem k_lxor (A : At T m c below) (hx : p.tables.exec = Jvm.exec) {x y : Int64} (hd : decode c.code pc = .ok (.lxor, 1)) (hp : pc + 1 = pc')
    (K : Done p e below G (T.setTop (mkF m pc' Ls (.long (x ^^^ y) :: st)))) : Done p e below G (T.setTop (mkF m pc Ls (.long y :: .long x :: st))) := by
  subst hp; exact Done.go (fun t q => XS.lxor A hx rfl hd rfl q) K
theorem k_lshl (A : At T m c below) (hx : p.tables.exec = Jvm.exec) {x : Int64} {y : Int32} (hd : decode c.code pc = .ok (.lshl, 1)) (hp : pc + 1 = pc')
    (K : Done p e below G (T.setTop (mkF m pc' Ls (.long (x <<< (y &&& 0x3f).toInt64) :: st)))) : Done p e below G (T.setTop (mkF m pc Ls (.int y :: .long x :: st))) := by
  subst hp; exact Done.go (fun t q => XS.lshl A hx rfl hd rfl q) K
theorem k_lshr (A : At T m c below) (hx : p.tables.exec = Jvm.exec) {x : Int64} {y : Int32} (hd : decode c.code pc = .ok (.lshr, 1)) (hp : pc + 1 = pc')
    (K : Done p e below G (T.setTop (mkF m pc' Ls (.long (x >>> (y &&& 0x3f).toInt64) :: st)))) : Done p e below G (T.setTop (mkF m pc Ls (.int y :: .long x :: st))) := by
  subst hp; exact Done.go (fun t q => XS.lshr A hx rfl hd rfl q) K
theorem k_lushr (A : At T m c below) (hx : p.tables.exec = Jvm.exec) {x : Int64} {y : Int32} (hd : decode c.code pc = .ok (.lushr, 1)) (hp : pc + 1 = pc')
    (K : Done p e below G (T.setTop (mkF m pc' Ls (.long ((x.toUInt64 >>> (y &&& 0x3f).toInt64.toUInt64).toInt64) :: st)))) : Done p e below G (T.setTop (mkF m pc Ls (.int y :: .long x :: st))) := by
  subst hp; exact Done.go (fun t q => XS.lushr A hx rfl hd rfl q) K
theorem k_idiv (A : At T m c below) (hx : p.tables.exec = Jvm.exec) {x y : Int32} (hd : decode c.code pc = .ok (.idiv, 1)) (hy : y ≠ 0) (hp : pc + 1 = pc')
    (K : Done p e below G (T.setTop (mkF m pc' Ls (.int (x / y) :: st)))) : Done p e below G (T.setTop (mkF m pc Ls (.int y :: .int x :: st))) := by
  subst hp; exact Done.go (fun t q => XS.idiv A hx rfl hd rfl hy q) K
theorem k_ldiv (A : At T m c below) (hx : p.tables.exec = Jvm.exec) {x y : Int64} (hd : decode c.code pc = .ok (.ldiv, 1)) (hy : y ≠ 0) (hp : pc + 1 = pc')
    (K : Done p e below G (T.setTop (mkF m pc' Ls (.long (x / y) :: st)))) : Done p e below G (T.setTop (mkF m pc Ls (.long y :: .long x :: st))) := by
  subst hp; exact Done.go (fun t q => XS.ldiv A hx rfl hd rfl hy q) K
theorem k_irem (A : At T m c below) (hx : p.tables.exec = Jvm.exec) {x y : Int32} (hd : decode c.code pc = .ok (.irem, 1)) (hy : y ≠ 0) (hp : pc + 1 = pc')
    (K : Done p e below G (T.setTop (mkF m pc' Ls (.int (x % y) :: st)))) : Done p e below G (T.setTop (mkF m pc Ls (.int y :: .int x :: st))) := by
  subst hp; have q0 : x - x / y * y = x % y := irem_eq_mod x y
  rw [← q0] at K
  exact Done.go (fun t q => XS.irem A hx rfl hd rfl hy q) K
theorem k_lrem (A : At T m c below) (hx : p.tables.exec = Jvm.exec) {x y : Int64} (hd : decode c.code pc = .ok (.lrem, 1)) (hy : y ≠ 0) (hp : pc + 1 = pc')
    (K : Done p e below G (T.setTop (mkF m pc' Ls (.long (x % y) :: st)))) : Done p e below G (T.setTop (mkF m pc Ls (.long y :: .long x :: st))) := by
  subst hp
  rw [← lrem_mod x y] at K
  exact Done.go (fun t q => XS.lrem A hx rfl hd rfl hy q) K
theorem k_lcmp (A : At T m c below) (hx : p.tables.exec = Jvm.exec) {x y : Int64} (hd : decode c.code pc = .ok (.lcmp, 1)) (hp : pc + 1 = pc')
    (K : Done p e below G (T.setTop (mkF m pc' Ls (.int (lcmpW x y) :: st)))) : Done p e below G (T.setTop (mkF m pc Ls (.long y :: .long x :: st))) := by
  subst hp; exact Done.go (fun t q => XS.lcmp A hx rfl hd rfl q) K
theorem k_ineg (A : At T m c below) (hx : p.tables.exec = Jvm.exec) {x : Int32} (hd : decode c.code pc = .ok (.ineg, 1)) (hp : pc + 1 = pc')
    (K : Done p e below G (T.setTop (mkF m pc' Ls (.int (-x) :: st)))) : Done p e below G (T.setTop (mkF m pc Ls (.int x :: st))) := by
  subst hp; exact Done.go (fun t q => XS.ineg A hx rfl hd rfl q) K
theorem k_lneg (A : At T m c below) (hx : p.tables.exec = Jvm.exec) {x : Int64} (hd : decode c.code pc = .ok (.lneg, 1)) (hp : pc + 1 = pc')
    (K : Done p e below G (T.setTop (mkF m pc' Ls (.long (-x) :: st)))) : Done p e below G (T.setTop (mkF m pc Ls (.long x :: st))) := by
  subst hp; exact Done.go (fun t q => XS.lneg A hx rfl hd rfl q) K
theorem k_i2l (A : At T m c below) (hx : p.tables.exec = Jvm.exec) {x : Int32} (hd : decode c.code pc = .ok (.i2l, 1)) (hp : pc + 1 = pc')
    (K : Done p e below G (T.setTop (mkF m pc' Ls (.long (x.toInt64) :: st)))) : Done p e below G (T.setTop (mkF m pc Ls (.int x :: st))) := by
  subst hp; exact Done.go (fun t q => XS.i2l A hx rfl hd rfl q) K
theorem k_l2i (A : At T m c below) (hx : p.tables.exec = Jvm.exec) {x : Int64} (hd : decode c.code pc = .ok (.l2i, 1)) (hp : pc + 1 = pc')
    (K : Done p e below G (T.setTop (mkF m pc' Ls (.int (x.toInt32) :: st)))) : Done p e below G (T.setTop (mkF m pc Ls (.long x :: st))) := by
  subst hp; exact Done.go (fun t q => XS.l2i A hx rfl hd rfl q) K
theorem k_i2b (A : At T m c below) (hx : p.tables.exec = Jvm.exec) {x : Int32} (hd : decode c.code pc = .ok (.i2b, 1)) (hp : pc + 1 = pc')
    (K : Done p e below G (T.setTop (mkF m pc' Ls (.int (x.toInt8.toInt32) :: st)))) : Done p e below G (T.setTop (mkF m pc Ls (.int x :: st))) := by
  subst hp; exact Done.go (fun t q => XS.i2b A hx rfl hd rfl q) K
theorem k_i2c (A : At T m c below) (hx : p.tables.exec = Jvm.exec) {x : Int32} (hd : decode c.code pc = .ok (.i2c, 1)) (hp : pc + 1 = pc')
    (K : Done p e below G (T.setTop (mkF m pc' Ls (.int (x.toUInt32.toUInt16.toUInt32.toInt32) :: st)))) : Done p e below G (T.setTop (mkF m pc Ls (.int x :: st))) := by
  subst hp; exact Done.go (fun t q => XS.i2c A hx rfl hd rfl q) K
theorem k_i2s (A : At T m c below) (hx : p.tables.exec = Jvm.exec) {x : Int32} (hd : decode c.code pc = .ok (.i2s, 1)) (hp : pc + 1 = pc')
    (K : Done p e below G (T.setTop (mkF m pc' Ls (.int (x.toInt16.toInt32) :: st)))) : Done p e below G (T.setTop (mkF m pc Ls (.int x :: st))) := by
  subst hp; exact Done.go (fun t q => XS.i2s A hx rfl hd rfl q) K
theorem k_iinc (A : At T m c below) (hx : p.tables.exec = Jvm.exec) {i : Nat} {cst : Int} {v : Int32} (hd : decode c.code pc = .ok (.iinc i cst, 3)) (hl : Ls[i]? = some (.val (.int v))) (hs : storeLocals Ls i (.int (v + Int32.ofInt cst)) = some Ls') (hp : pc + 3 = pc')
    (K : Done p e below G (T.setTop (mkF m pc' Ls' st))) : Done p e below G (T.setTop (mkF m pc Ls st)) := by
  subst hp; exact Done.go (fun t q => XS.iinc A hx rfl hd hl hs q) K
theorem k_goto (A : At T m c below) (hx : p.tables.exec = Jvm.exec) {o : Int} (hd : decode c.code pc = .ok (.goto o, 3)) (hp : (pc : Int) + o = (pc' : Int))
    (K : Done p e below G (T.setTop (mkF m pc' Ls st))) : Done p e below G (T.setTop (mkF m pc Ls st)) :=
  Done.go (fun t q => XS.goto A hx rfl (pc0 := pc) (pc' := pc') rfl hd (by omega) (by omega) q) K
theorem k_ifnullYes (A : At T m c below) (hx : p.tables.exec = Jvm.exec) {o : Int} (hd : decode c.code pc = .ok (.ifnull o, 3)) (hp : (pc : Int) + o = (pc' : Int))
    (K : Done p e below G (T.setTop (mkF m pc' Ls st))) : Done p e below G (T.setTop (mkF m pc Ls (.null :: st))) :=
  Done.go (fun t q => XS.ifnullYes A hx rfl (pc0 := pc) (pc' := pc') rfl hd rfl (by omega) (by omega) q) K
theorem k_ifnonnullYes (A : At T m c below) (hx : p.tables.exec = Jvm.exec) {o : Int} {b : Addr} (hd : decode c.code pc = .ok (.ifnonnull o, 3)) (hp : (pc : Int) + o = (pc' : Int))
    (K : Done p e below G (T.setTop (mkF m pc' Ls st))) : Done p e below G (T.setTop (mkF m pc Ls (.ref b :: st))) :=
  Done.go (fun t q => XS.ifnonnullYes A hx rfl (pc0 := pc) (pc' := pc') rfl hd rfl (by omega) (by omega) q) K
theorem k_ifnullNo (A : At T m c below) (hx : p.tables.exec = Jvm.exec) {o : Int} {b : Addr} (hd : decode c.code pc = .ok (.ifnull o, 3)) (hp : pc + 3 = pc')
    (K : Done p e below G (T.setTop (mkF m pc' Ls st))) : Done p e below G (T.setTop (mkF m pc Ls (.ref b :: st))) := by
  subst hp; exact Done.go (fun t q => XS.ifnullNo A hx rfl hd rfl q) K
theorem k_ifnonnullNo (A : At T m c below) (hx : p.tables.exec = Jvm.exec) {o : Int} (hd : decode c.code pc = .ok (.ifnonnull o, 3)) (hp : pc + 3 = pc')
    (K : Done p e below G (T.setTop (mkF m pc' Ls st))) : Done p e below G (T.setTop (mkF m pc Ls (.null :: st))) := by
  subst hp; exact Done.go (fun t q => XS.ifnonnullNo A hx rfl hd rfl q) K
theorem k_icmp_lt (A : At T m c below) (hx : p.tables.exec = Jvm.exec) {x y : Int32} {o : Int} {pcY : Nat} (hd : decode c.code pc = .ok (.if_icmp .lt o, 3)) (hY : (pc : Int) + o = (pcY : Int)) (hp : pc + 3 = pc')
    (KY : x < y → Done p e below G (T.setTop (mkF m pcY Ls st))) (KN : ¬ x < y → Done p e below G (T.setTop (mkF m pc' Ls st))) : Done p e below G (T.setTop (mkF m pc Ls (.int y :: .int x :: st))) := by
  subst hp
  by_cases hc : x < y
  · exact Done.go (fun t q => XS.icmpYes A hx rfl (pc0 := pc) (pc' := pcY) rfl hd rfl (tlt hc).1 (by omega) (by omega) q) (KY hc)
  · exact Done.go (fun t q => XS.icmpNo A hx rfl hd rfl (flt hc).1 q) (KN hc)
theorem k_if_lt (A : At T m c below) (hx : p.tables.exec = Jvm.exec) {x : Int32} {o : Int} {pcY : Nat} (hd : decode c.code pc = .ok (.ifCond .lt o, 3)) (hY : (pc : Int) + o = (pcY : Int)) (hp : pc + 3 = pc')
    (KY : x < 0 → Done p e below G (T.setTop (mkF m pcY Ls st))) (KN : ¬ x < 0 → Done p e below G (T.setTop (mkF m pc' Ls st))) : Done p e below G (T.setTop (mkF m pc Ls (.int x :: st))) := by
  subst hp
  by_cases hc : x < 0
  · exact Done.go (fun t q => XS.ifYes A hx rfl (pc0 := pc) (pc' := pcY) rfl hd rfl ((if0 _ _).trans (tlt hc).1) (by omega) (by omega) q) (KY hc)
  · exact Done.go (fun t q => XS.ifNo A hx rfl hd rfl ((if0 _ _).trans (flt hc).1) q) (KN hc)
theorem k_icmp_ge (A : At T m c below) (hx : p.tables.exec = Jvm.exec) {x y : Int32} {o : Int} {pcY : Nat} (hd : decode c.code pc = .ok (.if_icmp .ge o, 3)) (hY : (pc : Int) + o = (pcY : Int)) (hp : pc + 3 = pc')
    (KY : ¬ x < y → Done p e below G (T.setTop (mkF m pcY Ls st))) (KN : x < y → Done p e below G (T.setTop (mkF m pc' Ls st))) : Done p e below G (T.setTop (mkF m pc Ls (.int y :: .int x :: st))) := by
  subst hp
  by_cases hc : x < y
  · exact Done.go (fun t q => XS.icmpNo A hx rfl hd rfl (tlt hc).2.1 q) (KN hc)
  · exact Done.go (fun t q => XS.icmpYes A hx rfl (pc0 := pc) (pc' := pcY) rfl hd rfl (flt hc).2.1 (by omega) (by omega) q) (KY hc)
theorem k_if_ge (A : At T m c below) (hx : p.tables.exec = Jvm.exec) {x : Int32} {o : Int} {pcY : Nat} (hd : decode c.code pc = .ok (.ifCond .ge o, 3)) (hY : (pc : Int) + o = (pcY : Int)) (hp : pc + 3 = pc')
    (KY : ¬ x < 0 → Done p e below G (T.setTop (mkF m pcY Ls st))) (KN : x < 0 → Done p e below G (T.setTop (mkF m pc' Ls st))) : Done p e below G (T.setTop (mkF m pc Ls (.int x :: st))) := by
  subst hp
  by_cases hc : x < 0
  · exact Done.go (fun t q => XS.ifNo A hx rfl hd rfl ((if0 _ _).trans (tlt hc).2.1) q) (KN hc)
  · exact Done.go (fun t q => XS.ifYes A hx rfl (pc0 := pc) (pc' := pcY) rfl hd rfl ((if0 _ _).trans (flt hc).2.1) (by omega) (by omega) q) (KY hc)
theorem k_icmp_gt (A : At T m c below) (hx : p.tables.exec = Jvm.exec) {x y : Int32} {o : Int} {pcY : Nat} (hd : decode c.code pc = .ok (.if_icmp .gt o, 3)) (hY : (pc : Int) + o = (pcY : Int)) (hp : pc + 3 = pc')
    (KY : y < x → Done p e below G (T.setTop (mkF m pcY Ls st))) (KN : ¬ y < x → Done p e below G (T.setTop (mkF m pc' Ls st))) : Done p e below G (T.setTop (mkF m pc Ls (.int y :: .int x :: st))) := by
  subst hp
  by_cases hc : y < x
  · exact Done.go (fun t q => XS.icmpYes A hx rfl (pc0 := pc) (pc' := pcY) rfl hd rfl (tlt hc).2.2.1 (by omega) (by omega) q) (KY hc)
  · exact Done.go (fun t q => XS.icmpNo A hx rfl hd rfl (flt hc).2.2.1 q) (KN hc)
theorem k_if_gt (A : At T m c below) (hx : p.tables.exec = Jvm.exec) {x : Int32} {o : Int} {pcY : Nat} (hd : decode c.code pc = .ok (.ifCond .gt o, 3)) (hY : (pc : Int) + o = (pcY : Int)) (hp : pc + 3 = pc')
    (KY : 0 < x → Done p e below G (T.setTop (mkF m pcY Ls st))) (KN : ¬ 0 < x → Done p e below G (T.setTop (mkF m pc' Ls st))) : Done p e below G (T.setTop (mkF m pc Ls (.int x :: st))) := by
  subst hp
  by_cases hc : 0 < x
  · exact Done.go (fun t q => XS.ifYes A hx rfl (pc0 := pc) (pc' := pcY) rfl hd rfl ((if0 _ _).trans (tlt hc).2.2.1) (by omega) (by omega) q) (KY hc)
  · exact Done.go (fun t q => XS.ifNo A hx rfl hd rfl ((if0 _ _).trans (flt hc).2.2.1) q) (KN hc)
theorem k_icmp_le (A : At T m c below) (hx : p.tables.exec = Jvm.exec) {x y : Int32} {o : Int} {pcY : Nat} (hd : decode c.code pc = .ok (.if_icmp .le o, 3)) (hY : (pc : Int) + o = (pcY : Int)) (hp : pc + 3 = pc')
    (KY : ¬ y < x → Done p e below G (T.setTop (mkF m pcY Ls st))) (KN : y < x → Done p e below G (T.setTop (mkF m pc' Ls st))) : Done p e below G (T.setTop (mkF m pc Ls (.int y :: .int x :: st))) := by
  subst hp
  by_cases hc : y < x
  · exact Done.go (fun t q => XS.icmpNo A hx rfl hd rfl (tlt hc).2.2.2 q) (KN hc)
  · exact Done.go (fun t q => XS.icmpYes A hx rfl (pc0 := pc) (pc' := pcY) rfl hd rfl (flt hc).2.2.2 (by omega) (by omega) q) (KY hc)
theorem k_if_le (A : At T m c below) (hx : p.tables.exec = Jvm.exec) {x : Int32} {o : Int} {pcY : Nat} (hd : decode c.code pc = .ok (.ifCond .le o, 3)) (hY : (pc : Int) + o = (pcY : Int)) (hp : pc + 3 = pc')
    (KY : ¬ 0 < x → Done p e below G (T.setTop (mkF m pcY Ls st))) (KN : 0 < x → Done p e below G (T.setTop (mkF m pc' Ls st))) : Done p e below G (T.setTop (mkF m pc Ls (.int x :: st))) := by
  subst hp
  by_cases hc : 0 < x
  · exact Done.go (fun t q => XS.ifNo A hx rfl hd rfl ((if0 _ _).trans (tlt hc).2.2.2) q) (KN hc)
  · exact Done.go (fun t q => XS.ifYes A hx rfl (pc0 := pc) (pc' := pcY) rfl hd rfl ((if0 _ _).trans (flt hc).2.2.2) (by omega) (by omega) q) (KY hc)
theorem k_icmp_eq (A : At T m c below) (hx : p.tables.exec = Jvm.exec) {x y : Int32} {o : Int} {pcY : Nat} (hd : decode c.code pc = .ok (.if_icmp .eq o, 3)) (hY : (pc : Int) + o = (pcY : Int)) (hp : pc + 3 = pc')
    (KY : x = y → Done p e below G (T.setTop (mkF m pcY Ls st))) (KN : ¬ x = y → Done p e below G (T.setTop (mkF m pc' Ls st))) : Done p e below G (T.setTop (mkF m pc Ls (.int y :: .int x :: st))) := by
  subst hp
  by_cases hc : x = y
  · exact Done.go (fun t q => XS.icmpYes A hx rfl (pc0 := pc) (pc' := pcY) rfl hd rfl (teq hc).1 (by omega) (by omega) q) (KY hc)
  · exact Done.go (fun t q => XS.icmpNo A hx rfl hd rfl (feq hc).1 q) (KN hc)
theorem k_if_eq (A : At T m c below) (hx : p.tables.exec = Jvm.exec) {x : Int32} {o : Int} {pcY : Nat} (hd : decode c.code pc = .ok (.ifCond .eq o, 3)) (hY : (pc : Int) + o = (pcY : Int)) (hp : pc + 3 = pc')
    (KY : x = 0 → Done p e below G (T.setTop (mkF m pcY Ls st))) (KN : ¬ x = 0 → Done p e below G (T.setTop (mkF m pc' Ls st))) : Done p e below G (T.setTop (mkF m pc Ls (.int x :: st))) := by
  subst hp
  by_cases hc : x = 0
  · exact Done.go (fun t q => XS.ifYes A hx rfl (pc0 := pc) (pc' := pcY) rfl hd rfl ((if0 _ _).trans (teq hc).1) (by omega) (by omega) q) (KY hc)
  · exact Done.go (fun t q => XS.ifNo A hx rfl hd rfl ((if0 _ _).trans (feq hc).1) q) (KN hc)
theorem k_icmp_ne (A : At T m c below) (hx : p.tables.exec = Jvm.exec) {x y : Int32} {o : Int} {pcY : Nat} (hd : decode c.code pc = .ok (.if_icmp .ne o, 3)) (hY : (pc : Int) + o = (pcY : Int)) (hp : pc + 3 = pc')
    (KY : ¬ x = y → Done p e below G (T.setTop (mkF m pcY Ls st))) (KN : x = y → Done p e below G (T.setTop (mkF m pc' Ls st))) : Done p e below G (T.setTop (mkF m pc Ls (.int y :: .int x :: st))) := by
  subst hp
  by_cases hc : x = y
  · exact Done.go (fun t q => XS.icmpNo A hx rfl hd rfl (teq hc).2 q) (KN hc)
  · exact Done.go (fun t q => XS.icmpYes A hx rfl (pc0 := pc) (pc' := pcY) rfl hd rfl (feq hc).2 (by omega) (by omega) q) (KY hc)
theorem k_if_ne (A : At T m c below) (hx : p.tables.exec = Jvm.exec) {x : Int32} {o : Int} {pcY : Nat} (hd : decode c.code pc = .ok (.ifCond .ne o, 3)) (hY : (pc : Int) + o = (pcY : Int)) (hp : pc + 3 = pc')
    (KY : ¬ x = 0 → Done p e below G (T.setTop (mkF m pcY Ls st))) (KN : x = 0 → Done p e below G (T.setTop (mkF m pc' Ls st))) : Done p e below G (T.setTop (mkF m pc Ls (.int x :: st))) := by
  subst hp
  by_cases hc : x = 0
  · exact Done.go (fun t q => XS.ifNo A hx rfl hd rfl ((if0 _ _).trans (teq hc).2) q) (KN hc)
  · exact Done.go (fun t q => XS.ifYes A hx rfl (pc0 := pc) (pc' := pcY) rfl hd rfl ((if0 _ _).trans (feq hc).2) (by omega) (by omega) q) (KY hc)
theorem k_lcmp_lt (A : At T m c below) (hx : p.tables.exec = Jvm.exec) {x y : Int64} {o : Int} {pcY : Nat} (hd : decode c.code pc = .ok (.lcmp, 1)) (hd2 : decode c.code (pc + 1) = .ok (.ifCond .lt o, 3)) (hY : ((pc + 1 : Nat) : Int) + o = (pcY : Int)) (hp : pc + 1 + 3 = pc')
    (KY : x < y → Done p e below G (T.setTop (mkF m pcY Ls st))) (KN : ¬ x < y → Done p e below G (T.setTop (mkF m pc' Ls st))) : Done p e below G (T.setTop (mkF m pc Ls (.long y :: .long x :: st))) := by
  subst hp
  by_cases hc : x < y
  · exact Done.go (fun t q => XS.lcmp A hx rfl hd rfl (XS.ifYes A hx rfl (pc0 := pc + 1) (pc' := pcY) rfl hd2 rfl ((if0 _ _).trans (tlt ((lw_lt x y).mpr hc)).1) (by omega) (by omega) q)) (KY hc)
  · exact Done.go (fun t q => XS.lcmp A hx rfl hd rfl (XS.ifNo A hx rfl hd2 rfl ((if0 _ _).trans (flt (fun z => hc ((lw_lt x y).mp z))).1) q)) (KN hc)
theorem k_lcmp_ge (A : At T m c below) (hx : p.tables.exec = Jvm.exec) {x y : Int64} {o : Int} {pcY : Nat} (hd : decode c.code pc = .ok (.lcmp, 1)) (hd2 : decode c.code (pc + 1) = .ok (.ifCond .ge o, 3)) (hY : ((pc + 1 : Nat) : Int) + o = (pcY : Int)) (hp : pc + 1 + 3 = pc')
    (KY : ¬ x < y → Done p e below G (T.setTop (mkF m pcY Ls st))) (KN : x < y → Done p e below G (T.setTop (mkF m pc' Ls st))) : Done p e below G (T.setTop (mkF m pc Ls (.long y :: .long x :: st))) := by
  subst hp
  by_cases hc : x < y
  · exact Done.go (fun t q => XS.lcmp A hx rfl hd rfl (XS.ifNo A hx rfl hd2 rfl ((if0 _ _).trans (tlt ((lw_lt x y).mpr hc)).2.1) q)) (KN hc)
  · exact Done.go (fun t q => XS.lcmp A hx rfl hd rfl (XS.ifYes A hx rfl (pc0 := pc + 1) (pc' := pcY) rfl hd2 rfl ((if0 _ _).trans (flt (fun z => hc ((lw_lt x y).mp z))).2.1) (by omega) (by omega) q)) (KY hc)
theorem k_lcmp_gt (A : At T m c below) (hx : p.tables.exec = Jvm.exec) {x y : Int64} {o : Int} {pcY : Nat} (hd : decode c.code pc = .ok (.lcmp, 1)) (hd2 : decode c.code (pc + 1) = .ok (.ifCond .gt o, 3)) (hY : ((pc + 1 : Nat) : Int) + o = (pcY : Int)) (hp : pc + 1 + 3 = pc')
    (KY : y < x → Done p e below G (T.setTop (mkF m pcY Ls st))) (KN : ¬ y < x → Done p e below G (T.setTop (mkF m pc' Ls st))) : Done p e below G (T.setTop (mkF m pc Ls (.long y :: .long x :: st))) := by
  subst hp
  by_cases hc : y < x
  · exact Done.go (fun t q => XS.lcmp A hx rfl hd rfl (XS.ifYes A hx rfl (pc0 := pc + 1) (pc' := pcY) rfl hd2 rfl ((if0 _ _).trans (tlt ((lw_gt x y).mpr hc)).2.2.1) (by omega) (by omega) q)) (KY hc)
  · exact Done.go (fun t q => XS.lcmp A hx rfl hd rfl (XS.ifNo A hx rfl hd2 rfl ((if0 _ _).trans (flt (fun z => hc ((lw_gt x y).mp z))).2.2.1) q)) (KN hc)
theorem k_lcmp_le (A : At T m c below) (hx : p.tables.exec = Jvm.exec) {x y : Int64} {o : Int} {pcY : Nat} (hd : decode c.code pc = .ok (.lcmp, 1)) (hd2 : decode c.code (pc + 1) = .ok (.ifCond .le o, 3)) (hY : ((pc + 1 : Nat) : Int) + o = (pcY : Int)) (hp : pc + 1 + 3 = pc')
    (KY : ¬ y < x → Done p e below G (T.setTop (mkF m pcY Ls st))) (KN : y < x → Done p e below G (T.setTop (mkF m pc' Ls st))) : Done p e below G (T.setTop (mkF m pc Ls (.long y :: .long x :: st))) := by
  subst hp
  by_cases hc : y < x
  · exact Done.go (fun t q => XS.lcmp A hx rfl hd rfl (XS.ifNo A hx rfl hd2 rfl ((if0 _ _).trans (tlt ((lw_gt x y).mpr hc)).2.2.2) q)) (KN hc)
  · exact Done.go (fun t q => XS.lcmp A hx rfl hd rfl (XS.ifYes A hx rfl (pc0 := pc + 1) (pc' := pcY) rfl hd2 rfl ((if0 _ _).trans (flt (fun z => hc ((lw_gt x y).mp z))).2.2.2) (by omega) (by omega) q)) (KY hc)
theorem k_lcmp_eq (A : At T m c below) (hx : p.tables.exec = Jvm.exec) {x y : Int64} {o : Int} {pcY : Nat} (hd : decode c.code pc = .ok (.lcmp, 1)) (hd2 : decode c.code (pc + 1) = .ok (.ifCond .eq o, 3)) (hY : ((pc + 1 : Nat) : Int) + o = (pcY : Int)) (hp : pc + 1 + 3 = pc')
    (KY : x = y → Done p e below G (T.setTop (mkF m pcY Ls st))) (KN : ¬ x = y → Done p e below G (T.setTop (mkF m pc' Ls st))) : Done p e below G (T.setTop (mkF m pc Ls (.long y :: .long x :: st))) := by
  subst hp
  by_cases hc : x = y
  · exact Done.go (fun t q => XS.lcmp A hx rfl hd rfl (XS.ifYes A hx rfl (pc0 := pc + 1) (pc' := pcY) rfl hd2 rfl ((if0 _ _).trans (teq ((lw_eq x y).mpr hc)).1) (by omega) (by omega) q)) (KY hc)
  · exact Done.go (fun t q => XS.lcmp A hx rfl hd rfl (XS.ifNo A hx rfl hd2 rfl ((if0 _ _).trans (feq (fun z => hc ((lw_eq x y).mp z))).1) q)) (KN hc)
theorem k_lcmp_ne (A : At T m c below) (hx : p.tables.exec = Jvm.exec) {x y : Int64} {o : Int} {pcY : Nat} (hd : decode c.code pc = .ok (.lcmp, 1)) (hd2 : decode c.code (pc + 1) = .ok (.ifCond .ne o, 3)) (hY : ((pc + 1 : Nat) : Int) + o = (pcY : Int)) (hp : pc + 1 + 3 = pc')
    (KY : ¬ x = y → Done p e below G (T.setTop (mkF m pcY Ls st))) (KN : x = y → Done p e below G (T.setTop (mkF m pc' Ls st))) : Done p e below G (T.setTop (mkF m pc Ls (.long y :: .long x :: st))) := by
  subst hp
  by_cases hc : x = y
  · exact Done.go (fun t q => XS.lcmp A hx rfl hd rfl (XS.ifNo A hx rfl hd2 rfl ((if0 _ _).trans (teq ((lw_eq x y).mpr hc)).2) q)) (KN hc)
  · exact Done.go (fun t q => XS.lcmp A hx rfl hd rfl (XS.ifYes A hx rfl (pc0 := pc + 1) (pc' := pcY) rfl hd2 rfl ((if0 _ _).trans (feq (fun z => hc ((lw_eq x y).mp z))).2) (by omega) (by omega) q)) (KY hc)
/-! ### a store into a slot of which only its one word is known -/
theorem store_eq (L : Array Slot) (i : Nat) (v : Value) : storeLocals L i v = (L[i]?).bind fun o => match o with
    | .second => (setAt L (i - 1) .unset).bind fun l => storeSelf l i v
    | .val old => if old.category = 2 then ((setAt L (i + 1) .unset).bind fun l => storeSelf l i v) else storeSelf L i v
    | .unset => storeSelf L i v := rfl
theorem store1 {L L' : Array Slot} {i : Nat} {o : Slot} {v : Value} (h : L[i]? = some o) (H : One o) (hs : storeSelf L i v = some L') : storeLocals L i v = some L' := by
  rw [store_eq, h]
  rcases H with rfl | ⟨w, rfl, q⟩
  · exact hs
  · show (if w.category = 2 then _ else storeSelf L i v) = _
    rw [if_neg (by omega)]; exact hs
/-! ### constants of the pool -/
theorem k_ldcInt (S : St p l e R s m args below meth c n0 T h k n) (hx : p.tables.exec = Jvm.exec) (hZ : Z.Warmed39 s.vm) {own : String} {index : Nat} {v : Int32} (hown : s.vm.findClass own = some m.cls) (w : (Jvm.Cond.constant own index v).before a0 Z = true)
    (hd : decode c.code pc = .ok (.ldc index, 2)) (hp : pc + 2 = pc') (K : Done p e below G (T.setTop (mkF m pc' Ls (.int v :: st)))) : Done p e below G (T.setTop (mkF m pc Ls st)) := by
  subst hp
  obtain ⟨_, X, -, -⟩ := S
  exact Done.go (X.ldcInt hx hown (mvT hZ w) (g := mkF m pc Ls st) rfl hd) K
theorem k_ldcwInt (S : St p l e R s m args below meth c n0 T h k n) (hx : p.tables.exec = Jvm.exec) (hZ : Z.Warmed39 s.vm) {own : String} {index : Nat} {v : Int32} (hown : s.vm.findClass own = some m.cls) (w : (Jvm.Cond.constant own index v).before a0 Z = true)
    (hd : decode c.code pc = .ok (.ldc_w index, 3)) (hp : pc + 3 = pc') (K : Done p e below G (T.setTop (mkF m pc' Ls (.int v :: st)))) : Done p e below G (T.setTop (mkF m pc Ls st)) := by
  subst hp
  obtain ⟨_, X, -, -⟩ := S
  exact Done.go (X.ldcwInt hx hown (mvT hZ w) (g := mkF m pc Ls st) rfl hd) K
theorem k_ldc2Long (S : St p l e R s m args below meth c n0 T h k n) (hx : p.tables.exec = Jvm.exec) (hZ : Z.Warmed39 s.vm) {own : String} {index : Nat} {v : Int64} (hown : s.vm.findClass own = some m.cls) (w : (Jvm.Cond.constantLong own index v).before a0 Z = true)
    (hd : decode c.code pc = .ok (.ldc2_w index, 3)) (hp : pc + 3 = pc') (K : Done p e below G (T.setTop (mkF m pc' Ls (.long v :: st)))) : Done p e below G (T.setTop (mkF m pc Ls st)) := by
  subst hp
  obtain ⟨_, X, -, -⟩ := S
  exact Done.go (X.ldc2Long hx hown (mvT hZ w) (g := mkF m pc Ls st) rfl hd) K
/-! ### returns -/
variable {Q : Option Value → Heap → Prop}
theorem k_ret_val {w : Value} {t : FieldType} {i : Instr} (S : St p l e R s m args below meth c n0 T h k n) (hx : p.tables.exec = Jvm.exec) (hret : meth.sig.returnType = some t) (hlk : meth.locks = false) (hd : decode c.code pc = .ok (i, 1)) (hn' : narrow t w = w)
    (hi : (i = .ireturn ∧ (t = .int ∨ t = .boolean ∨ t = .byte ∨ t = .char ∨ t = .short) ∧ ∃ z, w = .int z) ∨ (i = .lreturn ∧ t = .long ∧ ∃ z, w = .long z) ∨ (i = .dreturn ∧ t = .double ∧ ∃ z, w = .double z) ∨ (i = .freturn ∧ t = .float ∧ ∃ z, w = .float z) ∨ (i = .areturn ∧ t.isReference = true ∧ w.isRef = true))
    (hk : k ≤ R.cells) (hn : n ≤ R.slots) (q : Q (some w) h) : Done p e below (OEnd s R n0 Q) (T.setTop (mkF m pc Ls (w :: st))) := by
  obtain ⟨locs, X, N, eT⟩ := S
  obtain ⟨fs, hr, hrun, hended, hW, hsame⟩ := X.leave (v := some w) (fun h => by rw [hret] at h; cases h) hlk
  refine ⟨_, _, retOut X hx hret hn' hi hd hr, hrun, hended, _, locs, rfl, ⟨?_, N⟩, ⟨_, rfl⟩, hW, hsame.mono hk hn⟩
  show Q _ T.heap
  rw [eT]; exact q
theorem k_ret_int {z : Int32} (S : St p l e R s m args below meth c n0 T h k n) (hx : p.tables.exec = Jvm.exec) (hret : meth.sig.returnType = some .int) (hlk : meth.locks = false) (hd : decode c.code pc = .ok (.ireturn, 1))
    (hk : k ≤ R.cells) (hn : n ≤ R.slots) (q : Q (some (.int z)) h) : Done p e below (OEnd s R n0 Q) (T.setTop (mkF m pc Ls (.int z :: st))) :=
  k_ret_val S hx hret hlk hd rfl (Or.inl ⟨rfl, Or.inl rfl, z, rfl⟩) hk hn q
theorem k_ret_long {z : Int64} (S : St p l e R s m args below meth c n0 T h k n) (hx : p.tables.exec = Jvm.exec) (hret : meth.sig.returnType = some .long) (hlk : meth.locks = false) (hd : decode c.code pc = .ok (.lreturn, 1))
    (hk : k ≤ R.cells) (hn : n ≤ R.slots) (q : Q (some (.long z)) h) : Done p e below (OEnd s R n0 Q) (T.setTop (mkF m pc Ls (.long z :: st))) :=
  k_ret_val S hx hret hlk hd rfl (Or.inr (Or.inl ⟨rfl, rfl, z, rfl⟩)) hk hn q
theorem k_ret_ref {a : Addr} {t : FieldType} (S : St p l e R s m args below meth c n0 T h k n) (hx : p.tables.exec = Jvm.exec) (hret : meth.sig.returnType = some t) (ht : t.isReference = true) (hlk : meth.locks = false) (hd : decode c.code pc = .ok (.areturn, 1))
    (hk : k ≤ R.cells) (hn : n ≤ R.slots) (q : Q (some (.ref a)) h) : Done p e below (OEnd s R n0 Q) (T.setTop (mkF m pc Ls (.ref a :: st))) :=
  k_ret_val S hx hret hlk hd (by cases t <;> first | rfl | (cases ht; done)) (Or.inr (Or.inr (Or.inr (Or.inr ⟨rfl, ht, rfl⟩)))) hk hn q
theorem k_ret_nar {z z' : Int32} {t : FieldType} (S : St p l e R s m args below meth c n0 T h k n) (hx : p.tables.exec = Jvm.exec) (hret : meth.sig.returnType = some t) (ht : t = .boolean ∨ t = .byte ∨ t = .char ∨ t = .short) (hlk : meth.locks = false) (hd : decode c.code pc = .ok (.ireturn, 1)) (hz : nar t z = z')
    (hk : k ≤ R.cells) (hn : n ≤ R.slots) (q : Q (some (.int z')) h) : Done p e below (OEnd s R n0 Q) (T.setTop (mkF m pc Ls (.int z :: st))) := by
  obtain ⟨locs, X, N, eT⟩ := S
  subst hz
  obtain ⟨fs, hr, hrun, hended, hW, hsame⟩ := X.leave (v := some (.int (nar t z))) (fun h => by rw [hret] at h; cases h) hlk
  refine ⟨_, _, retN X hx hret ht hd hr, hrun, hended, _, locs, rfl, ⟨?_, N⟩, ⟨_, rfl⟩, hW, hsame.mono hk hn⟩
  show Q _ T.heap
  rw [eT]; exact q
theorem k_ret_void (S : St p l e R s m args below meth c n0 T h k n) (hx : p.tables.exec = Jvm.exec) (hret : meth.sig.returnType = none) (hlk : meth.locks = false) (hd : decode c.code pc = .ok (.return_, 1))
    (hk : k ≤ R.cells) (hn : n ≤ R.slots) (q : Q none h) : Done p e below (OEnd s R n0 Q) (T.setTop (mkF m pc Ls [])) := by
  obtain ⟨locs, X, N, eT⟩ := S
  obtain ⟨fs, hr, hrun, hended, hW, hsame⟩ := X.leave (v := none) (fun _ => rfl) hlk
  refine ⟨_, _, X.returnOut hx hret hd hr, hrun, hended, _, locs, rfl, ⟨?_, N⟩, ⟨_, rfl⟩, hW, hsame.mono hk hn⟩
  show Q _ T.heap
  rw [eT]; exact q
/-! ### calls by a contract -/
theorem k_call_static (S : St p l e R s m args below meth c n0 T h k n) (hx : p.tables.exec = Jvm.exec) (hZ : Z.Warmed39 s.vm) {own : String} {index : Nat} {y : MethodName} {bytes : ByteArray} {maxL : Nat} {ret : Option FieldType} (hown : s.vm.findClass own = some m.cls)
    (w1 : (Jvm.Cond.methodLink own index y).before a0 Z = true) (w2 : (Jvm.Cond.static y).before a0 Z = true) (w3 : (Jvm.Cond.initialized y.cls).before a0 Z = true) (w4 : (Jvm.Cond.code y bytes maxL ret).before a0 Z = true)
    (hy : y.cls ≠ "java/lang/invoke/MethodHandle" ∧ y.cls ≠ "java/lang/invoke/VarHandle") {rm : Room} {as' : Array Value} (C : Con l Z y bytes maxL ret rm n0 h as' Q) (W : Nat) {argsL rest : List Value}
    (hf : rm.frames + 1 ≤ R.frames) (hl : W + (maxL + 11) + rm.locals ≤ R.locals) (hml : Ls.size = c.maxLocals) (hlen : ∀ sig, parseMethodDescriptor y.desc = some sig → argsL.length = sig.parameters.length) (has : argsL.toArray = as')
    (hst : st = argsL.reverse ++ rest) (hW : (rest.map fun v => v.category).sum ≤ W) (hd : decode c.code pc = .ok (.invokestatic index, 3)) (hp : pc + 3 = pc') (hk : k + rm.cells ≤ R.cells) (hn : n + rm.slots ≤ R.slots)
    (K : ∀ v T' h', Q v h' → St p l e R s m args below meth c n0 T' h' (k + rm.cells) (n + rm.slots) → Done p e below G (T'.setTop (mkF m pc' Ls (v.toList ++ rest)))) :
    Done p e below G (T.setTop (mkF m pc Ls st)) := by
  subst hp
  obtain ⟨locs, X, N, eT⟩ := S
  obtain ⟨v, vm₁, ⟨T', L', k', n'⟩, -, X', ⟨L, ⟨hQ, NL⟩, e1, e2, e3⟩, step⟩ := Jvm.LawKit.callS X hx (y := y) hown (mvT hZ w1) (mvT hZ w2) (mvT hZ w3) (mvT hZ w4) hy
    (backOf (W := W) (Q := fun v h L => Q v h ∧ Fr n0 L) (C []) hZ w4 w3 hf hl) (g := mkF m pc Ls st) rfl hml (argsL := argsL) (rest := rest) hlen hst (by show 2 * 0 + _ ≤ _; omega) hd
    (fun _ _ => ⟨has, eT, hk, hn⟩)
  dsimp only [Pt.U, Pt.locs, Pt.cells, Pt.slots] at X' hQ e1 e2 e3 step
  subst e1 e2 e3
  exact Done.go step (K v T' T'.heap hQ ⟨_, X', Fr.app N NL, rfl⟩)
theorem k_call_init (S : St p l e R s m args below meth c n0 T h k n) (hx : p.tables.exec = Jvm.exec) (hZ : Z.Warmed39 s.vm) {own : String} {index : Nat} {y : MethodName} {bytes : ByteArray} {maxL : Nat} (hown : s.vm.findClass own = some m.cls) (hy1 : y.name = "<init>")
    (w1 : (Jvm.Cond.methodLink own index y).before a0 Z = true) (w2 : (Jvm.Cond.instanceMethod y).before a0 Z = true) (w3 : (Jvm.Cond.initialized y.cls).before a0 Z = true) (w4 : (Jvm.Cond.code y bytes maxL none).before a0 Z = true)
    (hy : y.cls ≠ "java/lang/invoke/MethodHandle" ∧ y.cls ≠ "java/lang/invoke/VarHandle") {rm : Room} {as' : Array Value} (C : Con l Z y bytes maxL none rm n0 h as' Q) (W : Nat) {a : Addr} {argsL rest : List Value}
    (hf : rm.frames + 1 ≤ R.frames) (hl : W + (maxL + 11) + rm.locals ≤ R.locals) (hml : Ls.size = c.maxLocals) (hlen : ∀ sig, parseMethodDescriptor y.desc = some sig → argsL.length = sig.parameters.length) (has : (.ref a :: argsL).toArray = as')
    (hst : st = argsL.reverse ++ .ref a :: rest) (hW : (rest.map fun v => v.category).sum ≤ W) (hd : decode c.code pc = .ok (.invokespecial index, 3)) (hp : pc + 3 = pc') (hk : k + rm.cells ≤ R.cells) (hn : n + rm.slots ≤ R.slots)
    (K : ∀ v T' h', Q v h' → St p l e R s m args below meth c n0 T' h' (k + rm.cells) (n + rm.slots) → Done p e below G (T'.setTop (mkF m pc' Ls (v.toList ++ rest)))) :
    Done p e below G (T.setTop (mkF m pc Ls st)) := by
  subst hp
  obtain ⟨locs, X, N, eT⟩ := S
  obtain ⟨v, vm₁, ⟨T', L', k', n'⟩, -, X', ⟨L, ⟨hQ, NL⟩, e1, e2, e3⟩, step⟩ := X.specialBack hx (y := y) hy1 hown (mvT hZ w1) (mvT hZ w2) (mvT hZ w4) hy
    (backOf (W := W) (Q := fun v h L => Q v h ∧ Fr n0 L) (C []) hZ w4 w3 hf hl) (g := mkF m pc Ls st) rfl hml (Steps.refl _) (a := a) (argsL := argsL) (rest := rest) hlen hst (by show 2 * 0 + _ ≤ _; omega) hd
    (fun _ _ => ⟨has, eT, hk, hn⟩)
  dsimp only [Pt.U, Pt.locs, Pt.cells, Pt.slots] at X' hQ e1 e2 e3 step
  subst e1 e2 e3
  exact Done.go (fun t q => step.trans q) (K v T' T'.heap hQ ⟨_, X', Fr.app N NL, rfl⟩)
theorem k_call_virtual (S : St p l e R s m args below meth c n0 T h k n) (hx : p.tables.exec = Jvm.exec) (hZ : Z.Warmed39 s.vm) {own : String} {index : Nat} {y : MethodName} {bytes : ByteArray} {maxL : Nat} {ret : Option FieldType} (hown : s.vm.findClass own = some m.cls) {a : Addr} (E : Exa Z h a y.cls)
    (w1 : (Jvm.Cond.methodLink own index y).before a0 Z = true) (w2 : (Jvm.Cond.declares y).before a0 Z = true) (w5 : (Jvm.Cond.selects y.cls y y).before a0 Z = true) (w6 : (Jvm.Cond.instanceMethod y).before a0 Z = true) (w3 : (Jvm.Cond.initialized y.cls).before a0 Z = true) (w4 : (Jvm.Cond.code y bytes maxL ret).before a0 Z = true)
    (hy : y.cls ≠ "java/lang/invoke/MethodHandle" ∧ y.cls ≠ "java/lang/invoke/VarHandle") {rm : Room} {as' : Array Value} (C : Con l Z y bytes maxL ret rm n0 h as' Q) (W : Nat) {argsL rest : List Value}
    (hf : rm.frames + 1 ≤ R.frames) (hl : W + (maxL + 11) + rm.locals ≤ R.locals) (hml : Ls.size = c.maxLocals) (hlen : ∀ sig, parseMethodDescriptor y.desc = some sig → argsL.length = sig.parameters.length) (has : (.ref a :: argsL).toArray = as')
    (hst : st = argsL.reverse ++ .ref a :: rest) (hW : (rest.map fun v => v.category).sum ≤ W) (hd : decode c.code pc = .ok (.invokevirtual index, 3)) (hp : pc + 3 = pc') (hk : k + rm.cells ≤ R.cells) (hn : n + rm.slots ≤ R.slots)
    (K : ∀ v T' h', Q v h' → St p l e R s m args below meth c n0 T' h' (k + rm.cells) (n + rm.slots) → Done p e below G (T'.setTop (mkF m pc' Ls (v.toList ++ rest)))) :
    Done p e below G (T.setTop (mkF m pc Ls st)) := by
  subst hp
  obtain ⟨locs, X, N, eT⟩ := S
  obtain ⟨cq, kq, qa, qb, qc⟩ := isOf hZ eT E
  obtain ⟨v, vm₁, ⟨T', L', k', n'⟩, -, X', ⟨L, ⟨hQ, NL⟩, e1, e2, e3⟩, step⟩ := X.virtualBack hx (y := y) (z := y) hown (mvT hZ w1) (mvT hZ w2) (notFace_of_selects (args := #[]) (mvT hZ w5)) (mvT hZ w5) (mvT hZ w6) hy
    (backOf (W := W) (Q := fun v h L => Q v h ∧ Fr n0 L) (C []) hZ w4 w3 hf hl) qa qc (g := mkF m pc Ls st) rfl hml (Steps.refl _) (argsL := argsL) (rest := rest) hlen hst (by show 2 * 0 + _ ≤ _; omega) hd
    (fun _ _ => ⟨has, eT, hk, hn⟩)
  dsimp only [Pt.U, Pt.locs, Pt.cells, Pt.slots] at X' hQ e1 e2 e3 step
  subst e1 e2 e3
  exact Done.go (fun t q => step.trans q) (K v T' T'.heap hQ ⟨_, X', Fr.app N NL, rfl⟩)
theorem k_call_private (S : St p l e R s m args below meth c n0 T h k n) (hx : p.tables.exec = Jvm.exec) (hZ : Z.Warmed39 s.vm) {own : String} {index : Nat} {y : MethodName} {bytes : ByteArray} {maxL : Nat} {ret : Option FieldType} (hown : s.vm.findClass own = some m.cls) {a : Addr} (E : Exa Z h a y.cls)
    (w1 : (Jvm.Cond.methodLink own index y).before a0 Z = true) (w6 : (Jvm.Cond.instanceMethod y).before a0 Z = true) (w5 : (Jvm.Cond.selects y.cls y y).before a0 Z = true) (w7 : (Jvm.Cond.privateMethod y).before a0 Z = true) (w3 : (Jvm.Cond.initialized y.cls).before a0 Z = true) (w4 : (Jvm.Cond.code y bytes maxL ret).before a0 Z = true)
    (hy : y.cls ≠ "java/lang/invoke/MethodHandle" ∧ y.cls ≠ "java/lang/invoke/VarHandle") {rm : Room} {as' : Array Value} (C : Con l Z y bytes maxL ret rm n0 h as' Q) (W : Nat) {argsL rest : List Value}
    (hf : rm.frames + 1 ≤ R.frames) (hl : W + (maxL + 11) + rm.locals ≤ R.locals) (hml : Ls.size = c.maxLocals) (hlen : ∀ sig, parseMethodDescriptor y.desc = some sig → argsL.length = sig.parameters.length) (has : (.ref a :: argsL).toArray = as')
    (hst : st = argsL.reverse ++ .ref a :: rest) (hW : (rest.map fun v => v.category).sum ≤ W) (hd : decode c.code pc = .ok (.invokevirtual index, 3)) (hp : pc + 3 = pc') (hk : k + rm.cells ≤ R.cells) (hn : n + rm.slots ≤ R.slots)
    (K : ∀ v T' h', Q v h' → St p l e R s m args below meth c n0 T' h' (k + rm.cells) (n + rm.slots) → Done p e below G (T'.setTop (mkF m pc' Ls (v.toList ++ rest)))) :
    Done p e below G (T.setTop (mkF m pc Ls st)) := by
  subst hp
  obtain ⟨locs, X, N, eT⟩ := S
  obtain ⟨cq, q1, q2⟩ := E.cell
  obtain ⟨v, vm₁, ⟨T', L', k', n'⟩, -, X', ⟨L, ⟨hQ, NL⟩, e1, e2, e3⟩, step⟩ := X.privateBack hx (y := y) hown (mvT hZ w1) (mvT hZ w6) (mvT hZ w5) (Cond.privateMethod_at (mvP hZ w7 (args := #[]))) (mvT hZ w4) hy
    (backOf (W := W) (Q := fun v h L => Q v h ∧ Fr n0 L) (C []) hZ w4 w3 hf hl) (g := mkF m pc Ls st) rfl hml (Steps.refl _) (a := a) (by rw [eT]; exact q1) q2 (argsL := argsL) (rest := rest) hlen hst (by show 2 * 0 + _ ≤ _; omega) hd
    (fun _ _ => ⟨has, eT, hk, hn⟩)
  dsimp only [Pt.U, Pt.locs, Pt.cells, Pt.slots] at X' hQ e1 e2 e3 step
  subst e1 e2 e3
  exact Done.go (fun t q => step.trans q) (K v T' T'.heap hQ ⟨_, X', Fr.app N NL, rfl⟩)
/-- any one step of the library's that leaves the heap and the room as they are -/
theorem k_via {f f' : JFrame} (S : St p l e R s m args below meth c n0 T h k n) (I : ∀ locs, Stand p l e R s m args below meth c T locs k n → T.heap = h → ∃ T', Stand p l e R s m args below meth c T' locs k n ∧ T'.heap = h ∧ ∀ target, Steps p.tables e below (T'.setTop f') target → Steps p.tables e below (T.setTop f) target)
    (K : ∀ T', St p l e R s m args below meth c n0 T' h k n → Done p e below G (T'.setTop f')) : Done p e below G (T.setTop f) := by
  obtain ⟨locs, X, N, eT⟩ := S
  obtain ⟨T', X', eT', step⟩ := I locs X eT
  exact Done.go step (K T' ⟨_, X', N, eT'⟩)
/-! ### the heap: objects and fields -/
theorem k_getfield (S : St p l e R s m args below meth c n0 T h k n) (hx : p.tables.exec = Jvm.exec) (hZ : Z.Warmed39 s.vm) {own O f d : String} {index : Nat} (hown : s.vm.findClass own = some m.cls) (w : (Jvm.Cond.fieldLink own index O f d).before a0 Z = true)
    {a : Addr} {v : Value} (F : Fld Z h a O f d v) (hd : decode c.code pc = .ok (.getfield index, 3)) (hp : pc + 3 = pc')
    (K : ∀ T', St p l e R s m args below meth c n0 T' h k n → Done p e below G (T'.setTop (mkF m pc' Ls (v :: st)))) : Done p e below G (T.setTop (mkF m pc Ls (.ref a :: st))) := by
  subst hp
  obtain ⟨locs, X, N, eT⟩ := S
  obtain ⟨T', X', eT', step⟩ := getF X hx hZ hown (host := "") (Or.inl w) Via.refl eT F (g := mkF m pc Ls (.ref a :: st)) rfl rfl hd
  exact Done.go step (K T' ⟨_, X', N, eT'⟩)
theorem k_putfield (S : St p l e R s m args below meth c n0 T h k n) (hx : p.tables.exec = Jvm.exec) (hZ : Z.Warmed39 s.vm) {own O f d C : String} {index kk : Nat} {ty : FieldType} (hown : s.vm.findClass own = some m.cls) (w : (Jvm.Cond.fieldLink own index O f d).before a0 Z = true)
    {a : Addr} {v old : Value} (F : Fld Z h a O f d old) (E : Exa Z h a C) (L : (Jvm.Cond.lays C O f d).before a0 Z = true ∨ ((Jvm.Cond.laysFinal C O f d).before a0 Z = true ∧ own = O ∧ meth.name = "<init>")) (wi : (Jvm.Cond.instantiable C kk).before a0 Z = true)
    (hty : parseFieldDescriptor d = some ty) (hn' : narrow ty v = v) (hf : fits ty v = true) (ha : n0 ≤ a) (hd : decode c.code pc = .ok (.putfield index, 3)) (hp : pc + 3 = pc')
    (K : ∀ T' h', Wr h h' a (Jvm.RoadKit.slotOf Z O f d) v → St p l e R s m args below meth c n0 T' h' k n → Done p e below G (T'.setTop (mkF m pc' Ls st))) : Done p e below G (T.setTop (mkF m pc Ls (v :: .ref a :: st))) := by
  subst hp
  obtain ⟨locs, X, N, eT⟩ := S
  obtain ⟨T', h', X', eT', W, step⟩ := putF X hx hZ hown (host := "") (Or.inl w) Via.refl eT F E L wi hty hn' hf (g := mkF m pc Ls (v :: .ref a :: st)) rfl rfl hd
  exact Done.go step (K T' h' W ⟨_, X', Fr.snoc X' N ha, eT'⟩)
theorem k_new (S : St p l e R s m args below meth c n0 T h k n) (hx : p.tables.exec = Jvm.exec) (hZ : Z.Warmed39 s.vm) {own C : String} {index f : Nat} (hown : s.vm.findClass own = some m.cls) (w : (Jvm.Cond.classLink own index C).before a0 Z = true) (wi : (Jvm.Cond.instantiable C f).before a0 Z = true) (wz : (Jvm.Cond.initialized C).before a0 Z = true)
    (hd : decode c.code pc = .ok (.new index, 3)) (hp : pc + 3 = pc') (hk : k + 1 ≤ R.cells) (hn : n + f ≤ R.slots)
    (K : ∀ T' h' b, b = h.size → Ext h h' → Exa Z h' b C → (∀ {O nm d : String} {ty : FieldType}, Laid Z a0 C O nm d → parseFieldDescriptor d = some ty → Fld Z h' b O nm d (defaultValue ty)) → St p l e R s m args below meth c n0 T' h' (k + 1) (n + f) → Done p e below G (T'.setTop (mkF m pc' Ls (.ref b :: st)))) :
    Done p e below G (T.setTop (mkF m pc Ls st)) := by
  subst hp
  obtain ⟨locs, X, N, eT⟩ := S
  obtain ⟨T', h', X', eT', E, A, D, -, step⟩ := newO X hx hZ hown w wi wz eT (g := mkF m pc Ls st) rfl hd hk hn
  exact Done.go step (K T' h' _ rfl E A D ⟨_, X', N, eT'⟩)
end Walk
end Jvm.OwnKit

namespace Jvm.OwnKit
open Sem ClassFile Op Lib Jvm.Stand Jvm.Free Jvm.LawKit Jvm.RoadKit
/-! My own layer: arrays as lists. -/
/-- at a lies an array of ty that holds vs -/
def Vec (Z : State) (h : Heap) (a : Addr) (ty : FieldType) (vs : List Value) : Prop := ∃ c : Cell, Arr Z h a c ty ∧ c.slots.toList = vs ∧ vs.length < 2 ^ 31
/-- an int[] | a byte[] that holds xs -/
def IV (Z : State) (h : Heap) (a : Addr) (xs : List Int32) : Prop := Vec Z h a .int (xs.map Value.int)
def BV (Z : State) (h : Heap) (a : Addr) (xs : List Int32) : Prop := Vec Z h a .byte (xs.map Value.int)
/-- a long[] that holds xs -/
def LV (Z : State) (h : Heap) (a : Addr) (xs : List Int64) : Prop := Vec Z h a .long (xs.map Value.long)
theorem Keep.ext0 {h h' : Heap} (K : Keep h h' []) : Ext h h' := ⟨K.1, fun x c q => K.2.1 x c q nin0⟩
theorem Keep.of_ext {h h' : Heap} (E : Ext h h') (ws : List Addr) : Keep h h' ws := (Keep.refl h ws).ext E
section Arrays
variable {p : Program} {l : Launch} {e : Env} {R : Room} {s : State} {m : MethodId} {args : Array Value} {below : List Frame} {meth : Method} {c : Code} {n0 : Nat} {T : State} {h h' : Heap} {k n : Nat} {Z : State} {a0 : Array Value}
variable {G : Outcome → State → Prop} {pc pc' : Nat} {Ls Ls' : Array Slot} {st : List Value} {a b : Addr} {ty : FieldType} {vs : List Value} {xs : List Int32} {ys : List Int64} {ws : List Addr} {sl : Nat} {v : Value}
theorem Vec.lt (F : Vec Z h a ty vs) : a < h.size := by obtain ⟨c, A, -⟩ := F; exact A.lt
theorem Vec.ext (F : Vec Z h a ty vs) (E : Ext h h') : Vec Z h' a ty vs := by obtain ⟨c, A, r⟩ := F; exact ⟨c, A.ext E, r⟩
theorem Vec.other (F : Vec Z h b ty vs) (W : Wr h h' a sl v) (q : b ≠ a) : Vec Z h' b ty vs := by obtain ⟨c, A, r⟩ := F; exact ⟨c, A.other W q, r⟩
theorem Vec.keep (F : Vec Z h a ty vs) (K : Keep h h' ws) (q : a ∉ ws) : Vec Z h' a ty vs := by obtain ⟨c, A, r⟩ := F; exact ⟨c, ⟨K.2.1 a c A.1 q, A.2⟩, r⟩
theorem Vec.put (F : Vec Z h a ty vs) (W : Wr h h' a sl v) : Vec Z h' a ty (vs.set sl v) := by
  obtain ⟨c, A, q, r⟩ := F
  exact ⟨_, A.same W, by simp [Cell.setSlot, q], by simpa using r⟩
theorem Vec.mk {x : Int32} (A : Arr Z h a (newA k ty x) ty) : Vec Z h a ty (List.replicate x.toInt.toNat (defaultValue ty)) := ⟨_, A, by
  show (Array.replicate x.toInt.toNat (defaultValue ty)).toList = _
  rw [Array.toList_replicate], by
  have := x.toInt_lt
  rw [List.length_replicate]; omega⟩
theorem IV.lt (F : IV Z h a xs) : a < h.size := Vec.lt F
theorem IV.ext (F : IV Z h a xs) (E : Ext h h') : IV Z h' a xs := Vec.ext F E
theorem IV.other (F : IV Z h b xs) (W : Wr h h' a sl v) (q : b ≠ a) : IV Z h' b xs := Vec.other F W q
theorem IV.keep (F : IV Z h a xs) (K : Keep h h' ws) (q : a ∉ ws) : IV Z h' a xs := Vec.keep F K q
theorem IV.put {x : Int32} (F : IV Z h a xs) (W : Wr h h' a sl (.int x)) : IV Z h' a (xs.set sl x) := by
  have q := Vec.put F W
  rw [← List.map_set] at q; exact q
theorem IV.len (F : IV Z h a xs) : xs.length < 2 ^ 31 := by obtain ⟨_, _, _, q⟩ := F; simpa using q
theorem BV.lt (F : BV Z h a xs) : a < h.size := Vec.lt F
theorem BV.ext (F : BV Z h a xs) (E : Ext h h') : BV Z h' a xs := Vec.ext F E
theorem BV.other (F : BV Z h b xs) (W : Wr h h' a sl v) (q : b ≠ a) : BV Z h' b xs := Vec.other F W q
theorem BV.keep (F : BV Z h a xs) (K : Keep h h' ws) (q : a ∉ ws) : BV Z h' a xs := Vec.keep F K q
theorem BV.put {x : Int32} (F : BV Z h a xs) (W : Wr h h' a sl (.int x)) : BV Z h' a (xs.set sl x) := by
  have q := Vec.put F W
  rw [← List.map_set] at q; exact q
theorem BV.len (F : BV Z h a xs) : xs.length < 2 ^ 31 := by obtain ⟨_, _, _, q⟩ := F; simpa using q
theorem LV.lt (F : LV Z h a ys) : a < h.size := Vec.lt F
theorem LV.ext (F : LV Z h a ys) (E : Ext h h') : LV Z h' a ys := Vec.ext F E
theorem LV.other (F : LV Z h b ys) (W : Wr h h' a sl v) (q : b ≠ a) : LV Z h' b ys := Vec.other F W q
theorem LV.keep (F : LV Z h a ys) (K : Keep h h' ws) (q : a ∉ ws) : LV Z h' a ys := Vec.keep F K q
theorem LV.put {x : Int64} (F : LV Z h a ys) (W : Wr h h' a sl (.long x)) : LV Z h' a (ys.set sl x) := by
  have q := Vec.put F W
  rw [← List.map_set] at q; exact q
theorem LV.len (F : LV Z h a ys) : ys.length < 2 ^ 31 := by obtain ⟨_, _, _, q⟩ := F; simpa using q
theorem inb {c : Cell} {j : Int32} (q : c.slots.toList = vs) (h1 : 0 ≤ j.toInt) (h2 : j.toInt < vs.length) : ¬ (j < 0 ∨ c.slots.size ≤ j.toNatClampNeg) := by
  subst q
  rw [Int32.lt_iff_toInt_lt]
  have e0 : (0 : Int32).toInt = 0 := rfl
  have e1 : j.toNatClampNeg = j.toInt.toNat := rfl
  have e2 : c.slots.toList.length = c.slots.size := by simp
  omega
theorem k_arraylength {z : Int32} (S : St p l e R s m args below meth c n0 T h k n) (hx : p.tables.exec = Jvm.exec) (hZ : Z.Warmed39 s.vm) (V : Vec Z h a ty vs) (hd : decode c.code pc = .ok (.arraylength, 1)) (hz : vs.length.toInt32 = z) (hp : pc + 1 = pc')
    (K : Done p e below G (T.setTop (mkF m pc' Ls (.int z :: st)))) : Done p e below G (T.setTop (mkF m pc Ls (.ref a :: st))) := by
  subst hp hz
  obtain ⟨_, X, -, eT⟩ := S
  obtain ⟨cl, A, q, r⟩ := V
  have e2 : vs.length = cl.slots.size := by rw [← q]; simp
  rw [e2] at K
  exact Done.go (fun t z => X.arraylength hx (by rw [eT]; exact A.1) (State.isArrayOf_alike hZ.alike A.2.1) (g := mkF m pc Ls (.ref a :: st)) rfl rfl hd _ z) K
theorem k_iaload {j w : Int32} (S : St p l e R s m args below meth c n0 T h k n) (hx : p.tables.exec = Jvm.exec) (hZ : Z.Warmed39 s.vm) (V : IV Z h a xs) (hd : decode c.code pc = .ok (.iaload, 1)) (h1 : 0 ≤ j.toInt) (h2 : j.toInt < xs.length) (hv : xs.getD j.toInt.toNat 0 = w) (hp : pc + 1 = pc')
    (K : Done p e below G (T.setTop (mkF m pc' Ls (.int w :: st)))) : Done p e below G (T.setTop (mkF m pc Ls (.int j :: .ref a :: st))) := by
  subst hp hv
  obtain ⟨_, X, -, eT⟩ := S
  obtain ⟨cl, A, q, r⟩ := V
  have hl : j.toInt.toNat < xs.length := by omega
  have hv : cl.slots[j.toNatClampNeg]? = some (.int (xs.getD j.toInt.toNat 0)) := by
    show cl.slots[j.toInt.toNat]? = _
    rw [← Array.getElem?_toList, q, List.getElem?_map, List.getElem?_eq_getElem hl]
    rw [List.getD_eq_getElem?_getD, List.getElem?_eq_getElem hl]; rfl
  exact Done.go (fun t z => X.iaload hx (by rw [eT]; exact A.1) (State.isArrayOf_alike hZ.alike A.2.1) A.2.2 (inb q h1 (by simpa using h2)) hv (g := mkF m pc Ls (.int j :: .ref a :: st)) rfl rfl hd _ z) K
theorem k_baload {j w : Int32} (S : St p l e R s m args below meth c n0 T h k n) (hx : p.tables.exec = Jvm.exec) (hZ : Z.Warmed39 s.vm) (V : BV Z h a xs) (hd : decode c.code pc = .ok (.baload, 1)) (h1 : 0 ≤ j.toInt) (h2 : j.toInt < xs.length) (hv : xs.getD j.toInt.toNat 0 = w) (hp : pc + 1 = pc')
    (K : Done p e below G (T.setTop (mkF m pc' Ls (.int w :: st)))) : Done p e below G (T.setTop (mkF m pc Ls (.int j :: .ref a :: st))) := by
  subst hp hv
  obtain ⟨_, X, -, eT⟩ := S
  obtain ⟨cl, A, q, r⟩ := V
  have hl : j.toInt.toNat < xs.length := by omega
  have hv : cl.slots[j.toNatClampNeg]? = some (.int (xs.getD j.toInt.toNat 0)) := by
    show cl.slots[j.toInt.toNat]? = _
    rw [← Array.getElem?_toList, q, List.getElem?_map, List.getElem?_eq_getElem hl]
    rw [List.getD_eq_getElem?_getD, List.getElem?_eq_getElem hl]; rfl
  exact Done.go (fun t z => X.baloadBytes hx (by rw [eT]; exact A.1) (State.isArrayOf_alike hZ.alike A.2.1) A.2.2 (inb q h1 (by simpa using h2)) hv (g := mkF m pc Ls (.int j :: .ref a :: st)) rfl rfl hd _ z) K
theorem k_laload {j : Int32} {w : Int64} (S : St p l e R s m args below meth c n0 T h k n) (hx : p.tables.exec = Jvm.exec) (hZ : Z.Warmed39 s.vm) (V : LV Z h a ys) (hd : decode c.code pc = .ok (.laload, 1)) (h1 : 0 ≤ j.toInt) (h2 : j.toInt < ys.length) (hv : ys.getD j.toInt.toNat 0 = w) (hp : pc + 1 = pc')
    (K : Done p e below G (T.setTop (mkF m pc' Ls (.long w :: st)))) : Done p e below G (T.setTop (mkF m pc Ls (.int j :: .ref a :: st))) := by
  subst hp hv
  obtain ⟨_, X, -, eT⟩ := S
  obtain ⟨cl, A, q, r⟩ := V
  have hl : j.toInt.toNat < ys.length := by omega
  have hv : cl.slots[j.toNatClampNeg]? = some (.long (ys.getD j.toInt.toNat 0)) := by
    show cl.slots[j.toInt.toNat]? = _
    rw [← Array.getElem?_toList, q, List.getElem?_map, List.getElem?_eq_getElem hl]
    rw [List.getD_eq_getElem?_getD, List.getElem?_eq_getElem hl]; rfl
  exact Done.go (fun t z => X.laload hx (by rw [eT]; exact A.1) (State.isArrayOf_alike hZ.alike A.2.1) A.2.2 (inb q h1 (by simpa using h2)) hv (g := mkF m pc Ls (.int j :: .ref a :: st)) rfl rfl hd _ z) K
theorem k_iastore {j x : Int32} (S : St p l e R s m args below meth c n0 T h k n) (hx : p.tables.exec = Jvm.exec) (hZ : Z.Warmed39 s.vm) (V : IV Z h a xs) (hd : decode c.code pc = .ok (.iastore, 1)) (h1 : 0 ≤ j.toInt) (h2 : j.toInt < xs.length) (ha : n0 ≤ a) (hp : pc + 1 = pc')
    (K : ∀ T' h', Wr h h' a j.toInt.toNat (.int x) → IV Z h' a (xs.set j.toInt.toNat x) → St p l e R s m args below meth c n0 T' h' k n → Done p e below G (T'.setTop (mkF m pc' Ls st))) : Done p e below G (T.setTop (mkF m pc Ls (.int x :: .int j :: .ref a :: st))) := by
  subst hp
  obtain ⟨_, X, N, eT⟩ := S
  have V0 := V
  obtain ⟨cl, A, q, r⟩ := V
  obtain ⟨T', h', X', eT', W, step⟩ := stI X hx hZ eT A (j := j) (inb q h1 (by simpa using h2)) (g := mkF m pc Ls (.int x :: .int j :: .ref a :: st)) rfl rfl hd
  exact Done.go step (K T' h' W (V0.put W) ⟨_, X', Fr.snoc X' N ha, eT'⟩)
theorem k_bastore {j x : Int32} (S : St p l e R s m args below meth c n0 T h k n) (hx : p.tables.exec = Jvm.exec) (hZ : Z.Warmed39 s.vm) (V : BV Z h a xs) (hd : decode c.code pc = .ok (.bastore, 1)) (h1 : 0 ≤ j.toInt) (h2 : j.toInt < xs.length) (ha : n0 ≤ a) (hp : pc + 1 = pc')
    (K : ∀ T' h', Wr h h' a j.toInt.toNat (.int (nar .byte x)) → BV Z h' a (xs.set j.toInt.toNat (nar .byte x)) → St p l e R s m args below meth c n0 T' h' k n → Done p e below G (T'.setTop (mkF m pc' Ls st))) : Done p e below G (T.setTop (mkF m pc Ls (.int x :: .int j :: .ref a :: st))) := by
  subst hp
  obtain ⟨_, X, N, eT⟩ := S
  have V0 := V
  obtain ⟨cl, A, q, r⟩ := V
  obtain ⟨T', h', X', eT', W, step⟩ := stB X hx hZ eT A (j := j) (inb q h1 (by simpa using h2)) (g := mkF m pc Ls (.int x :: .int j :: .ref a :: st)) rfl rfl hd
  exact Done.go step (K T' h' W (V0.put W) ⟨_, X', Fr.snoc X' N ha, eT'⟩)
theorem k_lastore {j : Int32} {x : Int64} (S : St p l e R s m args below meth c n0 T h k n) (hx : p.tables.exec = Jvm.exec) (hZ : Z.Warmed39 s.vm) (V : LV Z h a ys) (hd : decode c.code pc = .ok (.lastore, 1)) (h1 : 0 ≤ j.toInt) (h2 : j.toInt < ys.length) (ha : n0 ≤ a) (hp : pc + 1 = pc')
    (K : ∀ T' h', Wr h h' a j.toInt.toNat (.long x) → LV Z h' a (ys.set j.toInt.toNat x) → St p l e R s m args below meth c n0 T' h' k n → Done p e below G (T'.setTop (mkF m pc' Ls st))) : Done p e below G (T.setTop (mkF m pc Ls (.long x :: .int j :: .ref a :: st))) := by
  subst hp
  obtain ⟨_, X, N, eT⟩ := S
  have V0 := V
  obtain ⟨cl, A, q, r⟩ := V
  obtain ⟨T', h', X', eT', W, step⟩ := stJ X hx hZ eT A (j := j) (inb q h1 (by simpa using h2)) (g := mkF m pc Ls (.long x :: .int j :: .ref a :: st)) rfl rfl hd
  exact Done.go step (K T' h' W (V0.put W) ⟨_, X', Fr.snoc X' N ha, eT'⟩)
theorem k_newint {x : Int32} (S : St p l e R s m args below meth c n0 T h k n) (hx : p.tables.exec = Jvm.exec) (hZ : Z.Warmed39 s.vm) (w : (Jvm.Cond.arrayClass .int).before a0 Z = true) (hd : decode c.code pc = .ok (.newarray .int, 2)) (h1 : 0 ≤ x.toInt) (cap : Nat) (h2 : x.toInt ≤ cap) (h3 : cap * 8 ≤ 536870912) (hk : k + 1 ≤ R.cells) (hn : n + cap ≤ R.slots) (hp : pc + 2 = pc')
    (K : ∀ T' h' b, b = h.size → Ext h h' → IV Z h' b (List.replicate x.toInt.toNat 0) → St p l e R s m args below meth c n0 T' h' (k + 1) (n + cap) → Done p e below G (T'.setTop (mkF m pc' Ls (.ref b :: st)))) : Done p e below G (T.setTop (mkF m pc Ls (.int x :: st))) := by
  subst hp
  obtain ⟨_, X, N, eT⟩ := S
  obtain ⟨T', h', cA, X', eT', E, A, step⟩ := newP X hx hZ (aty := .int) w eT (g := mkF m pc Ls (.int x :: st)) rfl hd rfl (by rw [Int32.lt_iff_toInt_lt]; show ¬ x.toInt < 0; omega) (cap := cap) (by show x.toInt.toNat ≤ cap; omega) h3 hk hn
  have V := Vec.mk A
  refine Done.go step (K T' h' _ rfl E ?_ ⟨_, X', N, eT'⟩)
  show Vec Z h' h.size .int _
  rw [List.map_replicate]; exact V
theorem k_newbyte {x : Int32} (S : St p l e R s m args below meth c n0 T h k n) (hx : p.tables.exec = Jvm.exec) (hZ : Z.Warmed39 s.vm) (w : (Jvm.Cond.arrayClass .byte).before a0 Z = true) (hd : decode c.code pc = .ok (.newarray .byte, 2)) (h1 : 0 ≤ x.toInt) (cap : Nat) (h2 : x.toInt ≤ cap) (h3 : cap * 8 ≤ 536870912) (hk : k + 1 ≤ R.cells) (hn : n + cap ≤ R.slots) (hp : pc + 2 = pc')
    (K : ∀ T' h' b, b = h.size → Ext h h' → BV Z h' b (List.replicate x.toInt.toNat 0) → St p l e R s m args below meth c n0 T' h' (k + 1) (n + cap) → Done p e below G (T'.setTop (mkF m pc' Ls (.ref b :: st)))) : Done p e below G (T.setTop (mkF m pc Ls (.int x :: st))) := by
  subst hp
  obtain ⟨_, X, N, eT⟩ := S
  obtain ⟨T', h', cA, X', eT', E, A, step⟩ := newP X hx hZ (aty := .byte) w eT (g := mkF m pc Ls (.int x :: st)) rfl hd rfl (by rw [Int32.lt_iff_toInt_lt]; show ¬ x.toInt < 0; omega) (cap := cap) (by show x.toInt.toNat ≤ cap; omega) h3 hk hn
  have V := Vec.mk A
  refine Done.go step (K T' h' _ rfl E ?_ ⟨_, X', N, eT'⟩)
  show Vec Z h' h.size .byte _
  rw [List.map_replicate]; exact V
theorem k_newlong {x : Int32} (S : St p l e R s m args below meth c n0 T h k n) (hx : p.tables.exec = Jvm.exec) (hZ : Z.Warmed39 s.vm) (w : (Jvm.Cond.arrayClass .long).before a0 Z = true) (hd : decode c.code pc = .ok (.newarray .long, 2)) (h1 : 0 ≤ x.toInt) (cap : Nat) (h2 : x.toInt ≤ cap) (h3 : cap * 8 ≤ 536870912) (hk : k + 1 ≤ R.cells) (hn : n + cap ≤ R.slots) (hp : pc + 2 = pc')
    (K : ∀ T' h' b, b = h.size → Ext h h' → LV Z h' b (List.replicate x.toInt.toNat 0) → St p l e R s m args below meth c n0 T' h' (k + 1) (n + cap) → Done p e below G (T'.setTop (mkF m pc' Ls (.ref b :: st)))) : Done p e below G (T.setTop (mkF m pc Ls (.int x :: st))) := by
  subst hp
  obtain ⟨_, X, N, eT⟩ := S
  obtain ⟨T', h', cA, X', eT', E, A, step⟩ := newP X hx hZ (aty := .long) w eT (g := mkF m pc Ls (.int x :: st)) rfl hd rfl (by rw [Int32.lt_iff_toInt_lt]; show ¬ x.toInt < 0; omega) (cap := cap) (by show x.toInt.toNat ≤ cap; omega) h3 hk hn
  have V := Vec.mk A
  refine Done.go step (K T' h' _ rfl E ?_ ⟨_, X', N, eT'⟩)
  show Vec Z h' h.size .long _
  rw [List.map_replicate]; exact V
theorem k_getstatic (S : St p l e R s m args below meth c n0 T h k n) (hx : p.tables.exec = Jvm.exec) (hZ : Z.Warmed39 s.vm) {own O f d : String} {index : Nat} (hown : s.vm.findClass own = some m.cls) (w : (Jvm.Cond.fieldLink own index O f d).before a0 Z = true)
    (F : Sta Z h O f d v) (hd : decode c.code pc = .ok (.getstatic index, 3)) (hp : pc + 3 = pc')
    (K : ∀ T', St p l e R s m args below meth c n0 T' h k n → Done p e below G (T'.setTop (mkF m pc' Ls (v :: st)))) : Done p e below G (T.setTop (mkF m pc Ls st)) := by
  subst hp
  obtain ⟨locs, X, N, eT⟩ := S
  obtain ⟨T', X', eT', step⟩ := getS2 X hx hZ hown (host := "") (Or.inl w) Via.refl eT F (g := mkF m pc Ls st) rfl hd
  exact Done.go step (K T' ⟨_, X', N, eT'⟩)
theorem IV.arv (F : IV Z h a xs) : ∃ k, Arv Z h a k .int xs.length.toInt32 (xs.map Value.int) (.int 0) := by
  obtain ⟨c, A, q, r⟩ := F
  have hl : xs.length < 2 ^ 31 := by simpa using r
  have e0 : xs.length.toInt32.toInt = (xs.length : Int) := by
    show (Int32.ofNat xs.length).toInt = _
    exact Int32.toInt_ofNat_of_lt hl
  have hs : c.slots.size = xs.length := by have := congrArg List.length q; simpa using this
  refine ⟨c.cls, c, A, rfl, ?_, ?_, ?_, ?_⟩
  · show c.slots.size = xs.length.toInt32.toInt.toNat
    rw [e0, hs]; simp
  · rw [Int32.lt_iff_toInt_lt, e0]; show ¬ (xs.length : Int) < 0; omega
  · intro i hi
    rw [← Array.getElem?_toList, q, List.getD_eq_getElem?_getD]
    have : i < (xs.map Value.int).length := by simpa [← hs] using hi
    rw [List.getElem?_eq_getElem this]; rfl
  · intro i hi
    have : i < (xs.map Value.int).length := by simpa [← hs] using hi
    rw [List.getD_eq_getElem?_getD, List.getElem?_eq_getElem this]
    simp [fits]
theorem IV.of_arv {k : ClassId} {z : Int32} (F : Arv Z h a k .int z (xs.map Value.int) (.int 0)) (hz : z.toInt = (xs.length : Int)) : IV Z h a xs := by
  obtain ⟨c, A, -, hs, -, H, -⟩ := F
  have hs' : c.slots.size = xs.length := by rw [hs]; show z.toInt.toNat = _; omega
  refine ⟨c, A, ?_, by have := z.toInt_lt; simp; omega⟩
  refine List.ext_getElem? fun i => ?_
  by_cases hi : i < c.slots.size
  · rw [Array.getElem?_toList, H i hi, List.getD_eq_getElem?_getD]
    have : i < (xs.map Value.int).length := by simpa [← hs'] using hi
    rw [List.getElem?_eq_getElem this]; rfl
  · rw [List.getElem?_eq_none (by simpa using hi), List.getElem?_eq_none (by simp; omega)]
theorem k_arraycopy {nn : Int32} {xs' : List Int32} (S : St p l e R s m args below meth c n0 T h k n) (hx : p.tables.exec = Jvm.exec) (hZ : Z.Warmed39 s.vm) {own : String} {index : Nat} (hown : s.vm.findClass own = some m.cls)
    (w1 : (Jvm.Cond.methodLink own index Jvm.Stand.acN).before a0 Z = true) (w2 : (Jvm.Cond.native Jvm.Stand.acN).before a0 Z = true) (w3 : (Jvm.Cond.static Jvm.Stand.acN).before a0 Z = true) (w4 : (Jvm.Cond.initialized "java/lang/System").before a0 Z = true)
    (A : IV Z h a xs) (B : IV Z h b xs') (h1 : 0 ≤ nn.toInt) (h2 : nn.toInt ≤ xs.length) (h3 : nn.toInt ≤ xs'.length) (ge : n0 ≤ b) (hml : Ls.size = c.maxLocals) (hd : decode c.code pc = .ok (.invokestatic index, 3)) (hf : 1 ≤ R.frames) (W : Nat) (hW : (st.map fun v => v.category).sum ≤ W) (hlo : W + 18 ≤ R.locals) (hp : pc + 3 = pc')
    (K : ∀ T' h', Keep h h' [b] → IV Z h' b (xs.take nn.toInt.toNat ++ xs'.drop nn.toInt.toNat) → St p l e R s m args below meth c n0 T' h' k n → Done p e below G (T'.setTop (mkF m pc' Ls st))) :
    Done p e below G (T.setTop (mkF m pc Ls (.int nn :: .int 0 :: .ref b :: .int 0 :: .ref a :: st))) := by
  subst hp
  obtain ⟨_, X, N, eT⟩ := S
  have la := A.len
  have lb := B.len
  obtain ⟨ka, Aa⟩ := A.arv
  obtain ⟨kb, Bb⟩ := B.arv
  have ea : xs.length.toInt32.toInt = (xs.length : Int) := Int32.toInt_ofNat_of_lt la
  have eb : xs'.length.toInt32.toInt = (xs'.length : Int) := Int32.toInt_ofNat_of_lt lb
  have z0 : (0 : Int32).toNatClampNeg = 0 := rfl
  obtain ⟨T', h', L, X', eT', N', Kp, V, step⟩ := cpA X hx hZ hown w1 w2 w3 w4 eT (sp := 0) (dp := 0) (nn := nn) (us := (xs.take nn.toInt.toNat).map Value.int) Aa Bb (Or.inl ⟨rfl, rfl⟩) (by decide) (by decide) (by rw [Int32.lt_iff_toInt_lt]; show ¬ nn.toInt < 0; omega)
    (by rw [z0]; show 0 + nn.toInt.toNat ≤ xs.length.toInt32.toInt.toNat; omega) (by rw [z0]; show 0 + nn.toInt.toNat ≤ xs'.length.toInt32.toInt.toNat; omega)
    (by
      refine List.ext_getElem (by show _ = (List.map _ (List.range nn.toInt.toNat)).length; rw [List.length_map, List.length_take, List.length_map, List.length_range]; omega) fun i g1 g2 => ?_
      have g3 : i < nn.toInt.toNat := by have := g1; rw [List.length_map, List.length_take] at this; omega
      simp only [List.getElem_map, List.getElem_take, List.getElem_range, z0, Nat.zero_add]
      rw [List.getD_eq_getElem?_getD, List.getElem?_map, List.getElem?_eq_getElem (by omega)]; rfl)
    (by rw [z0]; show 0 + nn.toInt.toNat ≤ _; rw [List.length_map]; omega) N ge (g := mkF m pc Ls (.int nn :: .int 0 :: .ref b :: .int 0 :: .ref a :: st)) rfl hml rfl hd hf (W := W) (by show 2 * 0 + _ ≤ _; omega) (by show W + 18 ≤ _; exact hlo)
  refine Done.go step (K T' h' Kp ?_ ⟨_, X', N', eT'⟩)
  refine IV.of_arv (k := kb) (z := xs'.length.toInt32) ?_ (by rw [eb, List.length_append, List.length_take, List.length_drop]; omega)
  have e : (List.map Value.int xs').take (0 : Int32).toNatClampNeg ++ (xs.take nn.toInt.toNat).map Value.int ++ (List.map Value.int xs').drop ((0 : Int32).toNatClampNeg + nn.toNatClampNeg) = (xs.take nn.toInt.toNat ++ xs'.drop nn.toInt.toNat).map Value.int := by
    rw [z0]; show List.take 0 _ ++ _ ++ List.drop (0 + nn.toInt.toNat) _ = _
    simp
  rw [← e]; exact V
theorem k_arraycopyD {nn dp : Int32} {xs' : List Int32} (S : St p l e R s m args below meth c n0 T h k n) (hx : p.tables.exec = Jvm.exec) (hZ : Z.Warmed39 s.vm) {own : String} {index : Nat} (hown : s.vm.findClass own = some m.cls)
    (w1 : (Jvm.Cond.methodLink own index Jvm.Stand.acN).before a0 Z = true) (w2 : (Jvm.Cond.native Jvm.Stand.acN).before a0 Z = true) (w3 : (Jvm.Cond.static Jvm.Stand.acN).before a0 Z = true) (w4 : (Jvm.Cond.initialized "java/lang/System").before a0 Z = true)
    (A : IV Z h a xs) (B : IV Z h b xs') (h1 : 0 ≤ nn.toInt) (h2 : nn.toInt ≤ xs.length) (h4 : 0 ≤ dp.toInt) (h3 : dp.toInt + nn.toInt ≤ xs'.length) (ge : n0 ≤ b) (hml : Ls.size = c.maxLocals) (hd : decode c.code pc = .ok (.invokestatic index, 3)) (hf : 1 ≤ R.frames) (W : Nat) (hW : (st.map fun v => v.category).sum ≤ W) (hlo : W + 18 ≤ R.locals) (hp : pc + 3 = pc')
    (K : ∀ T' h', Keep h h' [b] → IV Z h' b (xs'.take dp.toInt.toNat ++ xs.take nn.toInt.toNat ++ xs'.drop (dp.toInt.toNat + nn.toInt.toNat)) → St p l e R s m args below meth c n0 T' h' k n → Done p e below G (T'.setTop (mkF m pc' Ls st))) :
    Done p e below G (T.setTop (mkF m pc Ls (.int nn :: .int dp :: .ref b :: .int 0 :: .ref a :: st))) := by
  subst hp
  obtain ⟨_, X, N, eT⟩ := S
  have la := A.len
  have lb := B.len
  obtain ⟨ka, Aa⟩ := A.arv
  obtain ⟨kb, Bb⟩ := B.arv
  have ea : xs.length.toInt32.toInt = (xs.length : Int) := Int32.toInt_ofNat_of_lt la
  have eb : xs'.length.toInt32.toInt = (xs'.length : Int) := Int32.toInt_ofNat_of_lt lb
  have z0 : (0 : Int32).toNatClampNeg = 0 := rfl
  obtain ⟨T', h', L, X', eT', N', Kp, V, step⟩ := cpA X hx hZ hown w1 w2 w3 w4 eT (sp := 0) (dp := dp) (nn := nn) (us := (xs.take nn.toInt.toNat).map Value.int) Aa Bb (Or.inl ⟨rfl, rfl⟩) (by decide) (by rw [Int32.lt_iff_toInt_lt]; show ¬ dp.toInt < 0; omega) (by rw [Int32.lt_iff_toInt_lt]; show ¬ nn.toInt < 0; omega)
    (by rw [z0]; show 0 + nn.toInt.toNat ≤ xs.length.toInt32.toInt.toNat; omega) (by show dp.toInt.toNat + nn.toInt.toNat ≤ xs'.length.toInt32.toInt.toNat; omega)
    (by
      refine List.ext_getElem (by show _ = (List.map _ (List.range nn.toInt.toNat)).length; rw [List.length_map, List.length_take, List.length_map, List.length_range]; omega) fun i g1 g2 => ?_
      have g3 : i < nn.toInt.toNat := by have := g1; rw [List.length_map, List.length_take] at this; omega
      simp only [List.getElem_map, List.getElem_take, List.getElem_range, z0, Nat.zero_add]
      rw [List.getD_eq_getElem?_getD, List.getElem?_map, List.getElem?_eq_getElem (by omega)]; rfl)
    (by show dp.toInt.toNat + nn.toInt.toNat ≤ _; rw [List.length_map]; omega) N ge (g := mkF m pc Ls (.int nn :: .int dp :: .ref b :: .int 0 :: .ref a :: st)) rfl hml rfl hd hf (W := W) (by show 2 * 0 + _ ≤ _; omega) (by show W + 18 ≤ _; exact hlo)
  refine Done.go step (K T' h' Kp ?_ ⟨_, X', N', eT'⟩)
  refine IV.of_arv (k := kb) (z := xs'.length.toInt32) ?_ (by rw [eb, List.length_append, List.length_append, List.length_take, List.length_take, List.length_drop]; omega)
  have e : (List.map Value.int xs').take dp.toNatClampNeg ++ (xs.take nn.toInt.toNat).map Value.int ++ (List.map Value.int xs').drop (dp.toNatClampNeg + nn.toNatClampNeg) = (xs'.take dp.toInt.toNat ++ xs.take nn.toInt.toNat ++ xs'.drop (dp.toInt.toNat + nn.toInt.toNat)).map Value.int := by
    show List.take dp.toInt.toNat _ ++ _ ++ List.drop (dp.toInt.toNat + nn.toInt.toNat) _ = _
    simp
  rw [← e]; exact V
theorem k_newintE {x : Int32} (S : St p l e R s m args below meth c n0 T h k n) (hx : p.tables.exec = Jvm.exec) (hZ : Z.Warmed39 s.vm) (w : (Jvm.Cond.arrayClass .int).before a0 Z = true) (hd : decode c.code pc = .ok (.newarray .int, 2)) (h1 : 0 ≤ x.toInt) (cap : Nat) (h2 : x.toInt ≤ cap) (h3 : cap * 8 ≤ 536870912) (hk : k + 1 ≤ R.cells) (hn : n + cap ≤ R.slots) (hp : pc + 2 = pc')
    (K : ∀ T' h' b, b = h.size → Ext h h' → IV Z h' b (List.replicate x.toInt.toNat 0) → Exa Z h' b "[I" → St p l e R s m args below meth c n0 T' h' (k + 1) (n + cap) → Done p e below G (T'.setTop (mkF m pc' Ls (.ref b :: st)))) : Done p e below G (T.setTop (mkF m pc Ls (.int x :: st))) := by
  subst hp
  obtain ⟨_, X, N, eT⟩ := S
  obtain ⟨T', h', cA, X', eT', E, A, EX, step⟩ := newPE X hx hZ (aty := .int) w eT (g := mkF m pc Ls (.int x :: st)) rfl hd rfl (by rw [Int32.lt_iff_toInt_lt]; show ¬ x.toInt < 0; omega) (cap := cap) (by show x.toInt.toNat ≤ cap; omega) h3 hk hn (ad := "[I") (by decide)
  have V := Vec.mk A
  refine Done.go step (K T' h' _ rfl E ?_ EX ⟨_, X', N, eT'⟩)
  show Vec Z h' h.size .int _
  rw [List.map_replicate]; exact V
theorem k_clone (S : St p l e R s m args below meth c n0 T h k n) (hx : p.tables.exec = Jvm.exec) (hZ : Z.Warmed39 s.vm) {own : String} {index : Nat} (hown : s.vm.findClass own = some m.cls)
    (w1 : (Jvm.Cond.methodLink own index ⟨"[I", "clone", "()Ljava/lang/Object;"⟩).before a0 Z = true) (w2 : (Jvm.Cond.sameMethod "[I" "java/lang/Object" "clone" "()Ljava/lang/Object;").before a0 Z = true) (w3 : (Jvm.Cond.native ⟨"java/lang/Object", "clone", "()Ljava/lang/Object;"⟩).before a0 Z = true)
    (w4 : (Jvm.Cond.instanceMethod ⟨"java/lang/Object", "clone", "()Ljava/lang/Object;"⟩).before a0 Z = true) (w5 : (Jvm.Cond.selects "[I" ⟨"[I", "clone", "()Ljava/lang/Object;"⟩ ⟨"java/lang/Object", "clone", "()Ljava/lang/Object;"⟩).before a0 Z = true) (w6 : (Jvm.Cond.castable "[I" "java/lang/Cloneable").before a0 Z = true)
    (V : IV Z h a xs) (E : Exa Z h a "[I") (hml : Ls.size = c.maxLocals) (hd : decode c.code pc = .ok (.invokevirtual index, 3)) (hf : 1 ≤ R.frames) (W : Nat) (hW : (st.map fun v => v.category).sum ≤ W) (hlo : W + 14 ≤ R.locals) (cap : Nat) (hcap : xs.length ≤ cap) (hk : k + 1 ≤ R.cells) (hn : n + cap ≤ R.slots) (hp : pc + 3 = pc')
    (K : ∀ T' h' b, b = h.size → Ext h h' → IV Z h' b xs → Exa Z h' b "[I" → St p l e R s m args below meth c n0 T' h' (k + 1) (n + cap) → Done p e below G (T'.setTop (mkF m pc' Ls (.ref b :: st)))) :
    Done p e below G (T.setTop (mkF m pc Ls (.ref a :: st))) := by
  subst hp
  obtain ⟨_, X, N, eT⟩ := S
  obtain ⟨cl, A, q, r⟩ := V
  have hsz : cl.slots.size = xs.length := by have := congrArg List.length q; simpa using this
  have F : FitC Z cl := fitC_of A fun i hi v hv => by
    rw [← Array.getElem?_toList, q, List.getElem?_map] at hv
    cases e : xs[i]? with
    | none => rw [e] at hv; cases hv
    | some z => rw [e] at hv; cases hv; rfl
  obtain ⟨T', h', X', eT', ex, A', E', step⟩ := cloneA X hx hZ hown w1 w2 w3 w4 w5 w6 eT A E F (g := mkF m pc Ls (.ref a :: st)) rfl hml rfl hd hf (W := W) (by show 2 * 0 + _ ≤ _; omega) hlo (cap := cap) (by omega) hk hn
  exact Done.go step (K T' h' _ rfl ex ⟨cloneOf cl, A', q, r⟩ E' ⟨_, X', N, eT'⟩)
theorem k_checkcast (S : St p l e R s m args below meth c n0 T h k n) (hx : p.tables.exec = Jvm.exec) (hZ : Z.Warmed39 s.vm) {own C : String} {index : Nat} (hown : s.vm.findClass own = some m.cls) (w : (Jvm.Cond.classLink own index C).before a0 Z = true)
    (F : Ins Z h a C true) (hd : decode c.code pc = .ok (.checkcast index, 3)) (hp : pc + 3 = pc')
    (K : ∀ T', St p l e R s m args below meth c n0 T' h k n → Done p e below G (T'.setTop (mkF m pc' Ls (.ref a :: st)))) : Done p e below G (T.setTop (mkF m pc Ls (.ref a :: st))) := by
  subst hp
  obtain ⟨locs, X, N, eT⟩ := S
  obtain ⟨T', X', eT', step⟩ := castY X hx hZ hown w eT F (g := mkF m pc Ls (.ref a :: st)) rfl rfl hd
  exact Done.go step (K T' ⟨_, X', N, eT'⟩)
end Arrays
end Jvm.OwnKit
namespace Jvm.OwnKit
open Sem ClassFile Op Lib Jvm.Stand Jvm.Free Jvm.LawKit Jvm.RoadKit
/-! My own layer: a walk that loads String constants (the tables may gain entries). sb: the true start; s: the start with the tables at hand. -/
def OEndW (s : State) (R : Room) (n0 : Nat) (Q : Option Value → Heap → Prop) (o : Outcome) (U : State) : Prop :=
  ∃ v L, o = .returned v ∧ (Q v U.heap ∧ Fr n0 L) ∧ ReturnedEndW s o U L R.cells R.slots
def Base (sb s : State) (k : Nat) : Prop := ∃ vm, s = sb.setVm vm ∧ sb.Since vm k
def ConW (l : Launch) (Z : State) (y : MethodName) (bytes : ByteArray) (maxL : Nat) (ret : Option FieldType) (rm : Room) (n0 : Nat) (h0 : Heap) (as' : Array Value) (P : State → Prop) (Q : Option Value → Heap → Prop) : Prop :=
  ∀ ws : List Jvm.Cond, MetFree l y (head1 (Jvm.Cond.code y bytes maxL ret :: ws) rm) (fun a U => a = as' ∧ Z.Warmed39 U.vm ∧ U.heap = h0 ∧ P U) (fun _ _ _ _ _ => True) (fun _ U o U' => OEndW U rm n0 Q o U')
section Wide
variable {p : Program} {l : Launch} {e : Env} {R : Room} {s sb : State} {m : MethodId} {args : Array Value} {below : List Frame} {meth : Method} {c : Code} {n0 : Nat} {T : State} {h : Heap} {k n : Nat} {Z : State} {a0 : Array Value}
variable {G : Outcome → State → Prop} {pc pc' : Nat} {Ls Ls' : Array Slot} {st : List Value} {Q : Option Value → Heap → Prop} {kb : Nat}
theorem Base.refl (s : State) (k : Nat) : Base s s k := ⟨s.vm, rfl, (State.WarmedH.refl s).since k⟩
theorem ConW.intro {y : MethodName} {bytes : ByteArray} {maxL : Nat} {ret : Option FieldType} {rm : Room} {h0 : Heap} {as' : Array Value} {P : State → Prop}
    (hp : plainFor y = true) (hef : ∀ m, entryFrame m as' maxL = mkF m 0 Ls [])
    (body : ∀ (p : Program) (e : Env) (sb : State) (m : MethodId) (below : List Frame) (meth : Method) (c : Code) (s₁ : State) (s : State), p.tables.exec = Jvm.exec → c.code = bytes → c.maxLocals = maxL → s.vm.findClass y.cls = some m.cls → meth.name = y.name →
      meth.sig.returnType = ret → meth.locks = false → Z.Warmed39 s.vm → Base sb s 0 → s = sb → P sb → St p l e rm s m as' below meth c n0 s₁ h0 0 0 → Done p e below (OEndW sb rm n0 Q) (s₁.setTop (mkF m 0 Ls []))) :
    ConW l Z y bytes maxL ret rm n0 h0 as' P Q := by
  intro ws
  refine MetFree.of_bodySF hp hisR ?_
  intro p e s m args below meth c s₁ Bd hml0 hP hK
  obtain ⟨rfl, hZ, hh, hPs⟩ := hP
  have hr := body p e s m below meth c s₁ s Bd.exec Bd.bytes hml0 (findClass_of_methodNamed Bd.named) (name_of_methodNamed Bd.named Bd.method).1 Bd.returns Bd.notSynchronized hZ (Base.refl s 0) rfl hPs ⟨[], Stand.of_body Bd, Fr.nil n0, by rw [← hh, Bd.state]; rfl⟩
  rw [← hef m] at hr
  exact hr
theorem k_ldcStr (S : St p l e R s m args below meth c n0 T h k n) (B : Base sb s kb) (hkb : kb ≤ h.size) (hx : p.tables.exec = Jvm.exec) (hZ : Z.Warmed39 s.vm) {own text : String} {index : Nat} (hown : s.vm.findClass own = some m.cls) (w : (Jvm.Cond.stringLink own index text).before a0 Z = true) (wS : ∀ a ∈ Bundle.stringAtoms, a.before a0 Z = true)
    (hd : decode c.code pc = .ok (.ldc index, 2)) (nn : Nat) (hn' : 4 * text.toList.length ≤ nn) (hbig : nn ≤ 536870912) (hk : k + 2 ≤ R.cells) (hn : n + (nn + 4) ≤ R.slots) (hp : pc + 2 = pc')
    (K : ∀ (s : State) a T' h' kb, Base sb s kb → kb ≤ h'.size → Ext h h' → Z.Warmed39 s.vm → s.vm.findClass own = some m.cls → St p l e R s m args below meth c n0 T' h' (k + 2) (n + (nn + 4)) → Done p e below G (T'.setTop (mkF m pc' Ls (.ref a :: st)))) :
    Done p e below G (T.setTop (mkF m pc Ls st)) := by
  subst hp
  obtain ⟨vm, rfl, hS⟩ := B
  obtain ⟨locs, X, N, eT⟩ := S
  obtain ⟨a, T', h', k1, X', eT', E, hS', hk1, hZ', hown', step⟩ := ldcS X hx hZ hown w wS eT hS hkb (g := mkF m pc Ls st) rfl hd hn' hbig hk hn
  exact Done.go step (K (sb.setVm T'.vm) a T' h' k1 ⟨_, rfl, hS'⟩ hk1 E hZ' hown' ⟨_, X', N, eT'⟩)
theorem k_ret_narW {z z' : Int32} {t : FieldType} (S : St p l e R s m args below meth c n0 T h k n) (B : Base sb s kb) (hkb : kb ≤ h.size) (hx : p.tables.exec = Jvm.exec) (hret : meth.sig.returnType = some t) (ht : t = .boolean ∨ t = .byte ∨ t = .char ∨ t = .short) (hlk : meth.locks = false) (hd : decode c.code pc = .ok (.ireturn, 1)) (hz : nar t z = z')
    (hk : k ≤ R.cells) (hn : n ≤ R.slots) (q : Q (some (.int z')) h) : Done p e below (OEndW sb R n0 Q) (T.setTop (mkF m pc Ls (.int z :: st))) := by
  obtain ⟨vm, rfl, hS⟩ := B
  obtain ⟨locs, X, N, eT⟩ := S
  subst hz
  obtain ⟨fs, hr, hrun, hended, hr1, hr2, hr3, hsame⟩ := X.leaveW hS (by rw [eT]; exact hkb) (v := some (.int (nar t z))) (fun h => by rw [hret] at h; cases h) hlk
  refine ⟨_, _, retN X hx hret ht hd hr, hrun, hended, _, locs, rfl, ⟨?_, N⟩, hr1, hr2, hr3, hsame.mono hk hn⟩
  show Q _ T.heap
  rw [eT]; exact q
end Wide
end Jvm.OwnKit
namespace Jvm.Pilot.@@N@@
open Jvm Jvm.ClassFile Sem Op Lib Jvm.Free Jvm.Stand Jvm.LawKit Jvm.RoadKit Jvm.OwnKit Bundle Jvm.Pilot.@@N@@.Jvm.D
def own_var (nb pl vc : Int32) : Int32 := if pl = 0 then nb else vc + pl - 1
theorem own_cnt (x : Int32) : ((x &&& 1073741823) + 1).toInt = (x &&& 1073741823).toInt + 1 ∧ 0 ≤ (x &&& 1073741823).toInt ∧ (x &&& 1073741823).toInt ≤ 1073741823 := by
  have q := c_and x 1073741823 (by decide)
  have r := c_iadd (x &&& 1073741823) 1
  have r2 := rng32 ((x &&& 1073741823) + 1)
  have e : (1 : Int32).toInt = 1 := rfl
  have e2 : (1073741823 : Int32).toInt = 1073741823 := rfl
  omega
theorem own_rem (x y : Int32) (h2 : 0 < y.toInt) : 0 ≤ ((x &&& 2147483647) % y).toInt ∧ ((x &&& 2147483647) % y).toInt < y.toInt := by
  have q := (c_iremV (x &&& 2147483647) y).1 (c_and x 2147483647 (by decide)).1 h2
  omega
theorem own_nz {y : Int32} (h : 0 < y.toInt) : y ≠ 0 := fun z => by rw [z] at h; exact absurd h (by decide)
theorem own_inc1 {x : Int32} (h1 : 0 ≤ x.toInt) (h2 : x.toInt ≤ 1073741824) : (x + 1).toInt = x.toInt + 1 := by
  have r := c_iadd x 1
  have r2 := rng32 (x + 1)
  have e : (1 : Int32).toInt = 1 := rfl
  omega
theorem own_v0 (nb vc : Int32) : own_var nb 0 vc = nb := if_pos rfl
theorem own_v1 (nb vc : Int32) : own_var nb 1 vc = vc := by
  rw [own_var, if_neg (by decide), ← Int32.toInt_inj]
  have r := c_iadd vc 1
  have r2 := c_isub (vc + 1) 1
  have r3 := rng32 vc
  have r4 := rng32 (vc + 1 - 1)
  have e : (1 : Int32).toInt = 1 := rfl
  omega
theorem own_vp {nb vc pl : Int32} (h : ¬ pl = 0) (h1 : 0 ≤ pl.toInt) (h2 : pl.toInt ≤ 1073741824) (h3 : 0 < vc.toInt) (h4 : vc.toInt ≤ 1073741824) : (own_var nb pl vc).toInt = vc.toInt + pl.toInt - 1 := by
  rw [own_var, if_neg h]
  rw [← Int32.toInt_inj] at h
  have r := c_iadd vc pl
  have r2 := c_isub (vc + pl) 1
  have r3 := rng32 (vc + pl)
  have r4 := rng32 (vc + pl - 1)
  have e : (1 : Int32).toInt = 1 := rfl
  have e0 : (0 : Int32).toInt = 0 := rfl
  omega
theorem own_vs {nb vc pl q : Int32} (h : ¬ pl = 0) (h1 : 0 ≤ pl.toInt) (h2 : pl.toInt ≤ 1073741824) (hq : q.toInt = pl.toInt + 1) : own_var nb q vc = own_var nb pl vc + 1 := by
  have hq0 : ¬ q = 0 := fun z => by rw [z] at hq; have e0 : (0 : Int32).toInt = 0 := rfl; omega
  rw [own_var, own_var, if_neg h, if_neg hq0, ← Int32.toInt_inj]
  have r := c_iadd vc pl
  have r2 := c_isub (vc + pl) 1
  have r3 := c_iadd (vc + pl - 1) 1
  have r5 := c_iadd vc q
  have r6 := c_isub (vc + q) 1
  have s1 := rng32 (vc + pl - 1 + 1)
  have s2 := rng32 (vc + q - 1)
  have e : (1 : Int32).toInt = 1 := rfl
  omega
theorem own_d2_0 : decode jdk_30_method_1_code 0 = .ok (.aload_n 0, 1) := by decide +kernel
theorem own_d2_1 : decode jdk_30_method_1_code 1 = .ok (.invokespecial 1, 3) := by decide +kernel
theorem own_d2_4 : decode jdk_30_method_1_code 4 = .ok (.return_, 1) := by decide +kernel
theorem own_pn2 : plainName "java/lang/Record" = true := by first | (simp [plainName, overriddenIn]; done) | decide +kernel
set_option maxRecDepth 65536 in
set_option maxHeartbeats 40000000 in
theorem own_rec (l : Launch) (Z : State) (a0 : Array Value) (hw : ∀ d ∈ tables_1, d.before a0 Z = true) (a : Addr) (h0 : Heap) (n0 : Nat) :
    Con l Z (⟨"java/lang/Record", "<init>", "()V"⟩ : MethodName) jdk_30_method_1_code 1 none ({ frames := 1, cells := 0, slots := 0, locals := 12 } : Room) n0 h0 #[(.ref a)] (fun v h => v = none ∧ h = h0) := by
  refine Con.intro (plainFor_of_name own_pn2) (Ls := #[.val (.ref a)]) (fun m => by first | (simp [entryFrame, mkF, argsToLocals, Value.category]; done) | rfl) ?_
  intro p e s m below meth c s₁ hx hby hml hown hnm hret hlk hZ S0
  have A0 := S0.here
  refine k_aloadN A0 hx (hb hby own_d2_0) rfl rfl (pc' := 1) rfl ?_
  refine k_via S0 (f := (mkF m 1 #[.val (.ref a)] [(.ref a)])) (f' := (mkF m 4 #[.val (.ref a)] [])) (fun _ X eT => initO X hx hZ hown (hw _ (List.mem_of_getElem? (i := 21) rfl)) (hw _ (List.mem_of_getElem? (i := 22) rfl)) (hw _ (List.mem_of_getElem? (i := 23) rfl)) eT (g := (mkF m 1 #[.val (.ref a)] [(.ref a)])) rfl (by rw [hml]; rfl) rfl (hb hby own_d2_1) (by decide) (W := 0) (Nat.le_of_eq rfl) (by decide)) ?_
  intro T1 S1
  have A1 := S1.here
  refine k_ret_void S1 hx hret hlk (hb hby own_d2_4) (by decide) (by decide) ?_
  exact ⟨rfl, rfl⟩
theorem own_d5_0 : decode prog_3_method_2_code 0 = .ok (.iload_n 0, 1) := by decide +kernel
theorem own_d5_1 : decode prog_3_method_2_code 1 = .ok (.iconst 1, 1) := by decide +kernel
theorem own_d5_2 : decode prog_3_method_2_code 2 = .ok (.if_icmp .ge 17, 3) := by decide +kernel
theorem own_d5_19 : decode prog_3_method_2_code 19 = .ok (.return_, 1) := by decide +kernel
theorem own_pn5 : plainName "com/example/entail/entail/clauses/AtMostAtom" = true := by first | (simp [plainName, overriddenIn]; done) | decide +kernel
set_option maxRecDepth 65536 in
set_option maxHeartbeats 40000000 in
theorem own_req (l : Launch) (Z : State) (a0 : Array Value) (hw : ∀ d ∈ tables_1, d.before a0 Z = true) (u : Int32) (h0 : Heap) (n0 : Nat) (hu : ¬ u < 1) :
    Con l Z (⟨"com/example/entail/entail/clauses/AtMostAtom", "requireAllowed", "(I)V"⟩ : MethodName) prog_3_method_2_code 1 none ({ frames := 0, cells := 0, slots := 0, locals := 0 } : Room) n0 h0 #[(.int u)] (fun v h => v = none ∧ h = h0) := by
  refine Con.intro (plainFor_of_name own_pn5) (Ls := #[.val (.int u)]) (fun m => by first | (simp [entryFrame, mkF, argsToLocals, Value.category]; done) | rfl) ?_
  intro p e s m below meth c s₁ hx hby hml hown hnm hret hlk hZ S0
  have A0 := S0.here
  refine k_iloadN A0 hx (hb hby own_d5_0) rfl (pc' := 1) rfl ?_
  refine k_iconst A0 hx (hb hby own_d5_1) (v := 1) rfl (pc' := 2) rfl ?_
  refine k_icmp_ge A0 hx (hb hby own_d5_2) (pcY := 19) (by decide) (pc' := 5) rfl (fun hc2 => ?_) (fun hc2 => absurd hc2 hu)
  refine k_ret_void S0 hx hret hlk (hb hby own_d5_19) (by decide) (by decide) ?_
  exact ⟨rfl, rfl⟩
theorem own_d1_0 : decode prog_6_method_1_code 0 = .ok (.aload_n 0, 1) := by decide +kernel
theorem own_d1_1 : decode prog_6_method_1_code 1 = .ok (.invokespecial 1, 3) := by decide +kernel
theorem own_d1_4 : decode prog_6_method_1_code 4 = .ok (.aload_n 0, 1) := by decide +kernel
theorem own_d1_5 : decode prog_6_method_1_code 5 = .ok (.iload_n 1, 1) := by decide +kernel
theorem own_d1_6 : decode prog_6_method_1_code 6 = .ok (.putfield 7, 3) := by decide +kernel
theorem own_d1_9 : decode prog_6_method_1_code 9 = .ok (.aload_n 0, 1) := by decide +kernel
theorem own_d1_10 : decode prog_6_method_1_code 10 = .ok (.aload_n 2, 1) := by decide +kernel
theorem own_d1_11 : decode prog_6_method_1_code 11 = .ok (.putfield 13, 3) := by decide +kernel
theorem own_d1_14 : decode prog_6_method_1_code 14 = .ok (.return_, 1) := by decide +kernel
theorem own_pn1 : plainName "com/example/entail/entail/clauses/AtomicConcept" = true := by first | (simp [plainName, overriddenIn]; done) | decide +kernel
theorem own_pd0 : parseMethodDescriptor "()V" = some ⟨[], none⟩ := by decide +kernel
set_option maxRecDepth 65536 in
set_option maxHeartbeats 40000000 in
theorem own_ac (l : Launch) (Z : State) (a0 : Array Value) (hw : ∀ d ∈ tables_1, d.before a0 Z = true) (a : Addr) (u : Int32) (t : Addr) (h0 : Heap) (n0 : Nat) (Z0 : n0 ≤ h0.size) (ga : n0 ≤ a) (Ea : Exa Z h0 a "com/example/entail/entail/clauses/AtomicConcept") (F1 : Fld Z h0 a "com/example/entail/entail/clauses/AtomicConcept" "index" "I" (.int (0 : Int32))) (F2 : Fld Z h0 a "com/example/entail/entail/clauses/AtomicConcept" "name" "Ljava/lang/String;" .null) :
    Con l Z (⟨"com/example/entail/entail/clauses/AtomicConcept", "<init>", "(ILjava/lang/String;)V"⟩ : MethodName) prog_6_method_1_code 3 none ({ frames := 2, cells := 0, slots := 0, locals := 24 } : Room) n0 h0 #[(.ref a), (.int u), (.ref t)] (fun v h => v = none ∧ Keep h0 h [a]) := by
  refine Con.intro (plainFor_of_name own_pn1) (Ls := #[.val (.ref a), .val (.int u), .val (.ref t)]) (fun m => by first | (simp [entryFrame, mkF, argsToLocals, Value.category]; done) | rfl) ?_
  intro p e s m below meth c s₁ hx hby hml hown hnm hret hlk hZ S0
  have A0 := S0.here
  have K1 := Keep.refl h0 [a]
  refine k_aloadN A0 hx (hb hby own_d1_0) rfl rfl (pc' := 1) rfl ?_
  refine k_call_init S0 hx hZ hown rfl (hw _ (List.mem_of_getElem? (i := 16) rfl)) (hw _ (List.mem_of_getElem? (i := 17) rfl)) (hw _ (List.mem_of_getElem? (i := 19) rfl)) (hw _ (List.mem_of_getElem? (i := 20) rfl)) (by decide) (own_rec l Z a0 hw a h0 n0) 0 (argsL := []) (rest := []) (by decide) (by decide) (by rw [hml]; rfl) (lenOf own_pd0 rfl) rfl rfl (Nat.le_refl 0) (hb hby own_d1_1) (pc' := 4) rfl (by decide) (by decide) ?_
  rintro v2 T2 h2 ⟨rfl, q2⟩ S2
  rw [q2] at S2
  have A2 := S2.here
  show Done p e below _ (T2.setTop (mkF m 4 #[.val (.ref a), .val (.int u), .val (.ref t)] []))
  refine k_aloadN A2 hx (hb hby own_d1_4) rfl rfl (pc' := 5) rfl ?_
  refine k_iloadN A2 hx (hb hby own_d1_5) rfl (pc' := 6) rfl ?_
  refine k_putfield S2 hx hZ hown (hw _ (List.mem_of_getElem? (i := 24) rfl)) F1 Ea (Or.inr ⟨(hw _ (List.mem_of_getElem? (i := 25) rfl)), rfl, hnm⟩) (hw _ (List.mem_of_getElem? (i := 3) rfl)) (ty := .int) (by decide) rfl rfl ga (hb hby own_d1_6) (pc' := 9) rfl ?_
  intro T3 h3 W3 S3
  have A3 := S3.here
  have f4 := Ea.wr W3
  have f5 := F1.same W3
  have f6 := F2.other W3 (Or.inr (slot_ne (Or.inr (hw _ (List.mem_of_getElem? (i := 27) rfl))) (Or.inr (hw _ (List.mem_of_getElem? (i := 25) rfl))) (by decide) (t := (.object "java/lang/String")) (t' := .int) (by decide) (by decide)))
  have K7 := K1.wr W3 (Or.inl (List.mem_of_getElem? (i := 0) rfl))
  refine k_aloadN A3 hx (hb hby own_d1_9) rfl rfl (pc' := 10) rfl ?_
  refine k_aloadN A3 hx (hb hby own_d1_10) rfl rfl (pc' := 11) rfl ?_
  refine k_putfield S3 hx hZ hown (hw _ (List.mem_of_getElem? (i := 26) rfl)) f6 f4 (Or.inr ⟨(hw _ (List.mem_of_getElem? (i := 27) rfl)), rfl, hnm⟩) (hw _ (List.mem_of_getElem? (i := 3) rfl)) (ty := (.object "java/lang/String")) (by decide) rfl rfl ga (hb hby own_d1_11) (pc' := 14) rfl ?_
  intro T8 h8 W8 S8
  have A8 := S8.here
  have f9 := f4.wr W8
  have f10 := f5.other W8 (Or.inr (slot_ne (Or.inr (hw _ (List.mem_of_getElem? (i := 25) rfl))) (Or.inr (hw _ (List.mem_of_getElem? (i := 27) rfl))) (by decide) (t := .int) (t' := (.object "java/lang/String")) (by decide) (by decide)))
  have f11 := f6.same W8
  have K12 := K7.wr W8 (Or.inl (List.mem_of_getElem? (i := 0) rfl))
  refine k_ret_void S8 hx hret hlk (hb hby own_d1_14) (by decide) (by decide) ?_
  exact ⟨rfl, K12⟩
theorem own_d4_0 : decode prog_3_method_1_code 0 = .ok (.aload_n 0, 1) := by decide +kernel
theorem own_d4_1 : decode prog_3_method_1_code 1 = .ok (.invokespecial 1, 3) := by decide +kernel
theorem own_d4_4 : decode prog_3_method_1_code 4 = .ok (.iload_n 1, 1) := by decide +kernel
theorem own_d4_5 : decode prog_3_method_1_code 5 = .ok (.invokestatic 7, 3) := by decide +kernel
theorem own_d4_8 : decode prog_3_method_1_code 8 = .ok (.aload_n 0, 1) := by decide +kernel
theorem own_d4_9 : decode prog_3_method_1_code 9 = .ok (.iload_n 1, 1) := by decide +kernel
theorem own_d4_10 : decode prog_3_method_1_code 10 = .ok (.putfield 13, 3) := by decide +kernel
theorem own_d4_13 : decode prog_3_method_1_code 13 = .ok (.aload_n 0, 1) := by decide +kernel
theorem own_d4_14 : decode prog_3_method_1_code 14 = .ok (.iload_n 2, 1) := by decide +kernel
theorem own_d4_15 : decode prog_3_method_1_code 15 = .ok (.putfield 17, 3) := by decide +kernel
theorem own_d4_18 : decode prog_3_method_1_code 18 = .ok (.aload_n 0, 1) := by decide +kernel
theorem own_d4_19 : decode prog_3_method_1_code 19 = .ok (.iload_n 3, 1) := by decide +kernel
theorem own_d4_20 : decode prog_3_method_1_code 20 = .ok (.putfield 20, 3) := by decide +kernel
theorem own_d4_23 : decode prog_3_method_1_code 23 = .ok (.aload_n 0, 1) := by decide +kernel
theorem own_d4_24 : decode prog_3_method_1_code 24 = .ok (.aload 4, 2) := by decide +kernel
theorem own_d4_26 : decode prog_3_method_1_code 26 = .ok (.putfield 23, 3) := by decide +kernel
theorem own_d4_29 : decode prog_3_method_1_code 29 = .ok (.return_, 1) := by decide +kernel
theorem own_pn4 : plainName "com/example/entail/entail/clauses/AtMostAtom" = true := by first | (simp [plainName, overriddenIn]; done) | decide +kernel
theorem own_pd1 : parseMethodDescriptor "(I)V" = some ⟨[.int], none⟩ := by decide +kernel
set_option maxRecDepth 65536 in
set_option maxHeartbeats 40000000 in
theorem own_amN (l : Launch) (Z : State) (a0 : Array Value) (hw : ∀ d ∈ tables_1, d.before a0 Z = true) (a : Addr) (cn ce nb : Int32) (h0 : Heap) (n0 : Nat) (Z0 : n0 ≤ h0.size) (hu : ¬ cn < 1) (ga : n0 ≤ a) (Ea : Exa Z h0 a "com/example/entail/entail/clauses/AtMostAtom") (F1 : Fld Z h0 a "com/example/entail/entail/clauses/AtMostAtom" "count" "I" (.int (0 : Int32))) (F2 : Fld Z h0 a "com/example/entail/entail/clauses/AtMostAtom" "centre" "I" (.int (0 : Int32))) (F3 : Fld Z h0 a "com/example/entail/entail/clauses/AtMostAtom" "neighbour" "I" (.int (0 : Int32))) (F4 : Fld Z h0 a "com/example/entail/entail/clauses/AtMostAtom" "exclusion" "Lcom/example/entail/entail/clauses/AtomicConcept;" .null) :
    Con l Z (⟨"com/example/entail/entail/clauses/AtMostAtom", "<init>", "(IIILcom/example/entail/entail/clauses/AtomicConcept;)V"⟩ : MethodName) prog_3_method_1_code 5 none ({ frames := 2, cells := 0, slots := 0, locals := 24 } : Room) n0 h0 #[(.ref a), (.int cn), (.int ce), (.int nb), .null] (fun v h => v = none ∧ Keep h0 h [a] ∧ Fld Z h a "com/example/entail/entail/clauses/AtMostAtom" "neighbour" "I" (.int nb)) := by
  refine Con.intro (plainFor_of_name own_pn4) (Ls := #[.val (.ref a), .val (.int cn), .val (.int ce), .val (.int nb), .val .null]) (fun m => by first | (simp [entryFrame, mkF, argsToLocals, Value.category]; done) | rfl) ?_
  intro p e s m below meth c s₁ hx hby hml hown hnm hret hlk hZ S0
  have A0 := S0.here
  have K1 := Keep.refl h0 [a]
  refine k_aloadN A0 hx (hb hby own_d4_0) rfl rfl (pc' := 1) rfl ?_
  refine k_call_init S0 hx hZ hown rfl (hw _ (List.mem_of_getElem? (i := 34) rfl)) (hw _ (List.mem_of_getElem? (i := 17) rfl)) (hw _ (List.mem_of_getElem? (i := 19) rfl)) (hw _ (List.mem_of_getElem? (i := 20) rfl)) (by decide) (own_rec l Z a0 hw a h0 n0) 0 (argsL := []) (rest := []) (by decide) (by decide) (by rw [hml]; rfl) (lenOf own_pd0 rfl) rfl rfl (Nat.le_refl 0) (hb hby own_d4_1) (pc' := 4) rfl (by decide) (by decide) ?_
  rintro v2 T2 h2 ⟨rfl, q2⟩ S2
  rw [q2] at S2
  have A2 := S2.here
  show Done p e below _ (T2.setTop (mkF m 4 #[.val (.ref a), .val (.int cn), .val (.int ce), .val (.int nb), .val .null] []))
  refine k_iloadN A2 hx (hb hby own_d4_4) rfl (pc' := 5) rfl ?_
  refine k_call_static S2 hx hZ hown (hw _ (List.mem_of_getElem? (i := 35) rfl)) (hw _ (List.mem_of_getElem? (i := 36) rfl)) (hw _ (List.mem_of_getElem? (i := 30) rfl)) (hw _ (List.mem_of_getElem? (i := 37) rfl)) (by decide) (own_req l Z a0 hw cn h0 n0 hu) 0 (argsL := [(.int cn)]) (rest := []) (by decide) (by decide) (by rw [hml]; rfl) (lenOf own_pd1 rfl) rfl rfl (Nat.le_refl 0) (hb hby own_d4_5) (pc' := 8) rfl (by decide) (by decide) ?_
  rintro v3 T3 h3 ⟨rfl, q3⟩ S3
  rw [q3] at S3
  have A3 := S3.here
  show Done p e below _ (T3.setTop (mkF m 8 #[.val (.ref a), .val (.int cn), .val (.int ce), .val (.int nb), .val .null] []))
  refine k_aloadN A3 hx (hb hby own_d4_8) rfl rfl (pc' := 9) rfl ?_
  refine k_iloadN A3 hx (hb hby own_d4_9) rfl (pc' := 10) rfl ?_
  refine k_putfield S3 hx hZ hown (hw _ (List.mem_of_getElem? (i := 38) rfl)) F1 Ea (Or.inr ⟨(hw _ (List.mem_of_getElem? (i := 39) rfl)), rfl, hnm⟩) (hw _ (List.mem_of_getElem? (i := 29) rfl)) (ty := .int) (by decide) rfl rfl ga (hb hby own_d4_10) (pc' := 13) rfl ?_
  intro T4 h4 W4 S4
  have A4 := S4.here
  have f5 := Ea.wr W4
  have f6 := F1.same W4
  have f7 := F2.other W4 (Or.inr (slot_ne (Or.inr (hw _ (List.mem_of_getElem? (i := 41) rfl))) (Or.inr (hw _ (List.mem_of_getElem? (i := 39) rfl))) (by decide) (t := .int) (t' := .int) (by decide) (by decide)))
  have f8 := F3.other W4 (Or.inr (slot_ne (Or.inr (hw _ (List.mem_of_getElem? (i := 43) rfl))) (Or.inr (hw _ (List.mem_of_getElem? (i := 39) rfl))) (by decide) (t := .int) (t' := .int) (by decide) (by decide)))
  have f9 := F4.other W4 (Or.inr (slot_ne (Or.inr (hw _ (List.mem_of_getElem? (i := 45) rfl))) (Or.inr (hw _ (List.mem_of_getElem? (i := 39) rfl))) (by decide) (t := (.object "com/example/entail/entail/clauses/AtomicConcept")) (t' := .int) (by decide) (by decide)))
  have K10 := K1.wr W4 (Or.inl (List.mem_of_getElem? (i := 0) rfl))
  refine k_aloadN A4 hx (hb hby own_d4_13) rfl rfl (pc' := 14) rfl ?_
  refine k_iloadN A4 hx (hb hby own_d4_14) rfl (pc' := 15) rfl ?_
  refine k_putfield S4 hx hZ hown (hw _ (List.mem_of_getElem? (i := 40) rfl)) f7 f5 (Or.inr ⟨(hw _ (List.mem_of_getElem? (i := 41) rfl)), rfl, hnm⟩) (hw _ (List.mem_of_getElem? (i := 29) rfl)) (ty := .int) (by decide) rfl rfl ga (hb hby own_d4_15) (pc' := 18) rfl ?_
  intro T11 h11 W11 S11
  have A11 := S11.here
  have f12 := f5.wr W11
  have f13 := f6.other W11 (Or.inr (slot_ne (Or.inr (hw _ (List.mem_of_getElem? (i := 39) rfl))) (Or.inr (hw _ (List.mem_of_getElem? (i := 41) rfl))) (by decide) (t := .int) (t' := .int) (by decide) (by decide)))
  have f14 := f7.same W11
  have f15 := f8.other W11 (Or.inr (slot_ne (Or.inr (hw _ (List.mem_of_getElem? (i := 43) rfl))) (Or.inr (hw _ (List.mem_of_getElem? (i := 41) rfl))) (by decide) (t := .int) (t' := .int) (by decide) (by decide)))
  have f16 := f9.other W11 (Or.inr (slot_ne (Or.inr (hw _ (List.mem_of_getElem? (i := 45) rfl))) (Or.inr (hw _ (List.mem_of_getElem? (i := 41) rfl))) (by decide) (t := (.object "com/example/entail/entail/clauses/AtomicConcept")) (t' := .int) (by decide) (by decide)))
  have K17 := K10.wr W11 (Or.inl (List.mem_of_getElem? (i := 0) rfl))
  refine k_aloadN A11 hx (hb hby own_d4_18) rfl rfl (pc' := 19) rfl ?_
  refine k_iloadN A11 hx (hb hby own_d4_19) rfl (pc' := 20) rfl ?_
  refine k_putfield S11 hx hZ hown (hw _ (List.mem_of_getElem? (i := 42) rfl)) f15 f12 (Or.inr ⟨(hw _ (List.mem_of_getElem? (i := 43) rfl)), rfl, hnm⟩) (hw _ (List.mem_of_getElem? (i := 29) rfl)) (ty := .int) (by decide) rfl rfl ga (hb hby own_d4_20) (pc' := 23) rfl ?_
  intro T18 h18 W18 S18
  have A18 := S18.here
  have f19 := f12.wr W18
  have f20 := f13.other W18 (Or.inr (slot_ne (Or.inr (hw _ (List.mem_of_getElem? (i := 39) rfl))) (Or.inr (hw _ (List.mem_of_getElem? (i := 43) rfl))) (by decide) (t := .int) (t' := .int) (by decide) (by decide)))
  have f21 := f14.other W18 (Or.inr (slot_ne (Or.inr (hw _ (List.mem_of_getElem? (i := 41) rfl))) (Or.inr (hw _ (List.mem_of_getElem? (i := 43) rfl))) (by decide) (t := .int) (t' := .int) (by decide) (by decide)))
  have f22 := f15.same W18
  have f23 := f16.other W18 (Or.inr (slot_ne (Or.inr (hw _ (List.mem_of_getElem? (i := 45) rfl))) (Or.inr (hw _ (List.mem_of_getElem? (i := 43) rfl))) (by decide) (t := (.object "com/example/entail/entail/clauses/AtomicConcept")) (t' := .int) (by decide) (by decide)))
  have K24 := K17.wr W18 (Or.inl (List.mem_of_getElem? (i := 0) rfl))
  refine k_aloadN A18 hx (hb hby own_d4_23) rfl rfl (pc' := 24) rfl ?_
  refine k_aload A18 hx (hb hby own_d4_24) rfl rfl (pc' := 26) rfl ?_
  refine k_putfield S18 hx hZ hown (hw _ (List.mem_of_getElem? (i := 44) rfl)) f23 f19 (Or.inr ⟨(hw _ (List.mem_of_getElem? (i := 45) rfl)), rfl, hnm⟩) (hw _ (List.mem_of_getElem? (i := 29) rfl)) (ty := (.object "com/example/entail/entail/clauses/AtomicConcept")) (by decide) rfl rfl ga (hb hby own_d4_26) (pc' := 29) rfl ?_
  intro T25 h25 W25 S25
  have A25 := S25.here
  have f26 := f19.wr W25
  have f27 := f20.other W25 (Or.inr (slot_ne (Or.inr (hw _ (List.mem_of_getElem? (i := 39) rfl))) (Or.inr (hw _ (List.mem_of_getElem? (i := 45) rfl))) (by decide) (t := .int) (t' := (.object "com/example/entail/entail/clauses/AtomicConcept")) (by decide) (by decide)))
  have f28 := f21.other W25 (Or.inr (slot_ne (Or.inr (hw _ (List.mem_of_getElem? (i := 41) rfl))) (Or.inr (hw _ (List.mem_of_getElem? (i := 45) rfl))) (by decide) (t := .int) (t' := (.object "com/example/entail/entail/clauses/AtomicConcept")) (by decide) (by decide)))
  have f29 := f22.other W25 (Or.inr (slot_ne (Or.inr (hw _ (List.mem_of_getElem? (i := 43) rfl))) (Or.inr (hw _ (List.mem_of_getElem? (i := 45) rfl))) (by decide) (t := .int) (t' := (.object "com/example/entail/entail/clauses/AtomicConcept")) (by decide) (by decide)))
  have f30 := f23.same W25
  have K31 := K24.wr W25 (Or.inl (List.mem_of_getElem? (i := 0) rfl))
  refine k_ret_void S25 hx hret hlk (hb hby own_d4_29) (by decide) (by decide) ?_
  exact ⟨rfl, K31, f29⟩
set_option maxRecDepth 65536 in
set_option maxHeartbeats 40000000 in
theorem own_amR (l : Launch) (Z : State) (a0 : Array Value) (hw : ∀ d ∈ tables_1, d.before a0 Z = true) (a : Addr) (cn ce nb : Int32) (t : Addr) (h0 : Heap) (n0 : Nat) (Z0 : n0 ≤ h0.size) (hu : ¬ cn < 1) (ga : n0 ≤ a) (Ea : Exa Z h0 a "com/example/entail/entail/clauses/AtMostAtom") (F1 : Fld Z h0 a "com/example/entail/entail/clauses/AtMostAtom" "count" "I" (.int (0 : Int32))) (F2 : Fld Z h0 a "com/example/entail/entail/clauses/AtMostAtom" "centre" "I" (.int (0 : Int32))) (F3 : Fld Z h0 a "com/example/entail/entail/clauses/AtMostAtom" "neighbour" "I" (.int (0 : Int32))) (F4 : Fld Z h0 a "com/example/entail/entail/clauses/AtMostAtom" "exclusion" "Lcom/example/entail/entail/clauses/AtomicConcept;" .null) :
    Con l Z (⟨"com/example/entail/entail/clauses/AtMostAtom", "<init>", "(IIILcom/example/entail/entail/clauses/AtomicConcept;)V"⟩ : MethodName) prog_3_method_1_code 5 none ({ frames := 2, cells := 0, slots := 0, locals := 24 } : Room) n0 h0 #[(.ref a), (.int cn), (.int ce), (.int nb), (.ref t)] (fun v h => v = none ∧ Keep h0 h [a] ∧ Fld Z h a "com/example/entail/entail/clauses/AtMostAtom" "neighbour" "I" (.int nb)) := by
  refine Con.intro (plainFor_of_name own_pn4) (Ls := #[.val (.ref a), .val (.int cn), .val (.int ce), .val (.int nb), .val (.ref t)]) (fun m => by first | (simp [entryFrame, mkF, argsToLocals, Value.category]; done) | rfl) ?_
  intro p e s m below meth c s₁ hx hby hml hown hnm hret hlk hZ S0
  have A0 := S0.here
  have K1 := Keep.refl h0 [a]
  refine k_aloadN A0 hx (hb hby own_d4_0) rfl rfl (pc' := 1) rfl ?_
  refine k_call_init S0 hx hZ hown rfl (hw _ (List.mem_of_getElem? (i := 34) rfl)) (hw _ (List.mem_of_getElem? (i := 17) rfl)) (hw _ (List.mem_of_getElem? (i := 19) rfl)) (hw _ (List.mem_of_getElem? (i := 20) rfl)) (by decide) (own_rec l Z a0 hw a h0 n0) 0 (argsL := []) (rest := []) (by decide) (by decide) (by rw [hml]; rfl) (lenOf own_pd0 rfl) rfl rfl (Nat.le_refl 0) (hb hby own_d4_1) (pc' := 4) rfl (by decide) (by decide) ?_
  rintro v2 T2 h2 ⟨rfl, q2⟩ S2
  rw [q2] at S2
  have A2 := S2.here
  show Done p e below _ (T2.setTop (mkF m 4 #[.val (.ref a), .val (.int cn), .val (.int ce), .val (.int nb), .val (.ref t)] []))
  refine k_iloadN A2 hx (hb hby own_d4_4) rfl (pc' := 5) rfl ?_
  refine k_call_static S2 hx hZ hown (hw _ (List.mem_of_getElem? (i := 35) rfl)) (hw _ (List.mem_of_getElem? (i := 36) rfl)) (hw _ (List.mem_of_getElem? (i := 30) rfl)) (hw _ (List.mem_of_getElem? (i := 37) rfl)) (by decide) (own_req l Z a0 hw cn h0 n0 hu) 0 (argsL := [(.int cn)]) (rest := []) (by decide) (by decide) (by rw [hml]; rfl) (lenOf own_pd1 rfl) rfl rfl (Nat.le_refl 0) (hb hby own_d4_5) (pc' := 8) rfl (by decide) (by decide) ?_
  rintro v3 T3 h3 ⟨rfl, q3⟩ S3
  rw [q3] at S3
  have A3 := S3.here
  show Done p e below _ (T3.setTop (mkF m 8 #[.val (.ref a), .val (.int cn), .val (.int ce), .val (.int nb), .val (.ref t)] []))
  refine k_aloadN A3 hx (hb hby own_d4_8) rfl rfl (pc' := 9) rfl ?_
  refine k_iloadN A3 hx (hb hby own_d4_9) rfl (pc' := 10) rfl ?_
  refine k_putfield S3 hx hZ hown (hw _ (List.mem_of_getElem? (i := 38) rfl)) F1 Ea (Or.inr ⟨(hw _ (List.mem_of_getElem? (i := 39) rfl)), rfl, hnm⟩) (hw _ (List.mem_of_getElem? (i := 29) rfl)) (ty := .int) (by decide) rfl rfl ga (hb hby own_d4_10) (pc' := 13) rfl ?_
  intro T4 h4 W4 S4
  have A4 := S4.here
  have f5 := Ea.wr W4
  have f6 := F1.same W4
  have f7 := F2.other W4 (Or.inr (slot_ne (Or.inr (hw _ (List.mem_of_getElem? (i := 41) rfl))) (Or.inr (hw _ (List.mem_of_getElem? (i := 39) rfl))) (by decide) (t := .int) (t' := .int) (by decide) (by decide)))
  have f8 := F3.other W4 (Or.inr (slot_ne (Or.inr (hw _ (List.mem_of_getElem? (i := 43) rfl))) (Or.inr (hw _ (List.mem_of_getElem? (i := 39) rfl))) (by decide) (t := .int) (t' := .int) (by decide) (by decide)))
  have f9 := F4.other W4 (Or.inr (slot_ne (Or.inr (hw _ (List.mem_of_getElem? (i := 45) rfl))) (Or.inr (hw _ (List.mem_of_getElem? (i := 39) rfl))) (by decide) (t := (.object "com/example/entail/entail/clauses/AtomicConcept")) (t' := .int) (by decide) (by decide)))
  have K10 := K1.wr W4 (Or.inl (List.mem_of_getElem? (i := 0) rfl))
  refine k_aloadN A4 hx (hb hby own_d4_13) rfl rfl (pc' := 14) rfl ?_
  refine k_iloadN A4 hx (hb hby own_d4_14) rfl (pc' := 15) rfl ?_
  refine k_putfield S4 hx hZ hown (hw _ (List.mem_of_getElem? (i := 40) rfl)) f7 f5 (Or.inr ⟨(hw _ (List.mem_of_getElem? (i := 41) rfl)), rfl, hnm⟩) (hw _ (List.mem_of_getElem? (i := 29) rfl)) (ty := .int) (by decide) rfl rfl ga (hb hby own_d4_15) (pc' := 18) rfl ?_
  intro T11 h11 W11 S11
  have A11 := S11.here
  have f12 := f5.wr W11
  have f13 := f6.other W11 (Or.inr (slot_ne (Or.inr (hw _ (List.mem_of_getElem? (i := 39) rfl))) (Or.inr (hw _ (List.mem_of_getElem? (i := 41) rfl))) (by decide) (t := .int) (t' := .int) (by decide) (by decide)))
  have f14 := f7.same W11
  have f15 := f8.other W11 (Or.inr (slot_ne (Or.inr (hw _ (List.mem_of_getElem? (i := 43) rfl))) (Or.inr (hw _ (List.mem_of_getElem? (i := 41) rfl))) (by decide) (t := .int) (t' := .int) (by decide) (by decide)))
  have f16 := f9.other W11 (Or.inr (slot_ne (Or.inr (hw _ (List.mem_of_getElem? (i := 45) rfl))) (Or.inr (hw _ (List.mem_of_getElem? (i := 41) rfl))) (by decide) (t := (.object "com/example/entail/entail/clauses/AtomicConcept")) (t' := .int) (by decide) (by decide)))
  have K17 := K10.wr W11 (Or.inl (List.mem_of_getElem? (i := 0) rfl))
  refine k_aloadN A11 hx (hb hby own_d4_18) rfl rfl (pc' := 19) rfl ?_
  refine k_iloadN A11 hx (hb hby own_d4_19) rfl (pc' := 20) rfl ?_
  refine k_putfield S11 hx hZ hown (hw _ (List.mem_of_getElem? (i := 42) rfl)) f15 f12 (Or.inr ⟨(hw _ (List.mem_of_getElem? (i := 43) rfl)), rfl, hnm⟩) (hw _ (List.mem_of_getElem? (i := 29) rfl)) (ty := .int) (by decide) rfl rfl ga (hb hby own_d4_20) (pc' := 23) rfl ?_
  intro T18 h18 W18 S18
  have A18 := S18.here
  have f19 := f12.wr W18
  have f20 := f13.other W18 (Or.inr (slot_ne (Or.inr (hw _ (List.mem_of_getElem? (i := 39) rfl))) (Or.inr (hw _ (List.mem_of_getElem? (i := 43) rfl))) (by decide) (t := .int) (t' := .int) (by decide) (by decide)))
  have f21 := f14.other W18 (Or.inr (slot_ne (Or.inr (hw _ (List.mem_of_getElem? (i := 41) rfl))) (Or.inr (hw _ (List.mem_of_getElem? (i := 43) rfl))) (by decide) (t := .int) (t' := .int) (by decide) (by decide)))
  have f22 := f15.same W18
  have f23 := f16.other W18 (Or.inr (slot_ne (Or.inr (hw _ (List.mem_of_getElem? (i := 45) rfl))) (Or.inr (hw _ (List.mem_of_getElem? (i := 43) rfl))) (by decide) (t := (.object "com/example/entail/entail/clauses/AtomicConcept")) (t' := .int) (by decide) (by decide)))
  have K24 := K17.wr W18 (Or.inl (List.mem_of_getElem? (i := 0) rfl))
  refine k_aloadN A18 hx (hb hby own_d4_23) rfl rfl (pc' := 24) rfl ?_
  refine k_aload A18 hx (hb hby own_d4_24) rfl rfl (pc' := 26) rfl ?_
  refine k_putfield S18 hx hZ hown (hw _ (List.mem_of_getElem? (i := 44) rfl)) f23 f19 (Or.inr ⟨(hw _ (List.mem_of_getElem? (i := 45) rfl)), rfl, hnm⟩) (hw _ (List.mem_of_getElem? (i := 29) rfl)) (ty := (.object "com/example/entail/entail/clauses/AtomicConcept")) (by decide) rfl rfl ga (hb hby own_d4_26) (pc' := 29) rfl ?_
  intro T25 h25 W25 S25
  have A25 := S25.here
  have f26 := f19.wr W25
  have f27 := f20.other W25 (Or.inr (slot_ne (Or.inr (hw _ (List.mem_of_getElem? (i := 39) rfl))) (Or.inr (hw _ (List.mem_of_getElem? (i := 45) rfl))) (by decide) (t := .int) (t' := (.object "com/example/entail/entail/clauses/AtomicConcept")) (by decide) (by decide)))
  have f28 := f21.other W25 (Or.inr (slot_ne (Or.inr (hw _ (List.mem_of_getElem? (i := 41) rfl))) (Or.inr (hw _ (List.mem_of_getElem? (i := 45) rfl))) (by decide) (t := .int) (t' := (.object "com/example/entail/entail/clauses/AtomicConcept")) (by decide) (by decide)))
  have f29 := f22.other W25 (Or.inr (slot_ne (Or.inr (hw _ (List.mem_of_getElem? (i := 43) rfl))) (Or.inr (hw _ (List.mem_of_getElem? (i := 45) rfl))) (by decide) (t := .int) (t' := (.object "com/example/entail/entail/clauses/AtomicConcept")) (by decide) (by decide)))
  have f30 := f23.same W25
  have K31 := K24.wr W25 (Or.inl (List.mem_of_getElem? (i := 0) rfl))
  refine k_ret_void S25 hx hret hlk (hb hby own_d4_29) (by decide) (by decide) ?_
  exact ⟨rfl, K31, f29⟩
theorem own_d6_0 : decode prog_3_method_6_code 0 = .ok (.iload_n 1, 1) := by decide +kernel
theorem own_d6_1 : decode prog_3_method_6_code 1 = .ok (.ifCond .ne 10, 3) := by decide +kernel
theorem own_d6_4 : decode prog_3_method_6_code 4 = .ok (.aload_n 0, 1) := by decide +kernel
theorem own_d6_5 : decode prog_3_method_6_code 5 = .ok (.getfield 20, 3) := by decide +kernel
theorem own_d6_8 : decode prog_3_method_6_code 8 = .ok (.goto 8, 3) := by decide +kernel
theorem own_d6_11 : decode prog_3_method_6_code 11 = .ok (.iload_n 2, 1) := by decide +kernel
theorem own_d6_12 : decode prog_3_method_6_code 12 = .ok (.iload_n 1, 1) := by decide +kernel
theorem own_d6_13 : decode prog_3_method_6_code 13 = .ok (.iadd, 1) := by decide +kernel
theorem own_d6_14 : decode prog_3_method_6_code 14 = .ok (.iconst 1, 1) := by decide +kernel
theorem own_d6_15 : decode prog_3_method_6_code 15 = .ok (.isub, 1) := by decide +kernel
theorem own_d6_16 : decode prog_3_method_6_code 16 = .ok (.ireturn, 1) := by decide +kernel
theorem own_pn6 : plainName "com/example/entail/entail/clauses/AtMostAtom" = true := by first | (simp [plainName, overriddenIn]; done) | decide +kernel
set_option maxRecDepth 65536 in
set_option maxHeartbeats 40000000 in
theorem own_cvar (l : Launch) (Z : State) (a0 : Array Value) (hw : ∀ d ∈ tables_1, d.before a0 Z = true) (a : Addr) (pl vc : Int32) (h0 : Heap) (n0 : Nat) (nb : Int32) (F3 : Fld Z h0 a "com/example/entail/entail/clauses/AtMostAtom" "neighbour" "I" (.int nb)) :
    Con l Z (⟨"com/example/entail/entail/clauses/AtMostAtom", "variable", "(II)I"⟩ : MethodName) prog_3_method_6_code 3 (some .int) ({ frames := 0, cells := 0, slots := 0, locals := 0 } : Room) n0 h0 #[(.ref a), (.int pl), (.int vc)] (fun v h => v = some (.int (own_var nb pl vc)) ∧ h = h0) := by
  refine Con.intro (plainFor_of_name own_pn6) (Ls := #[.val (.ref a), .val (.int pl), .val (.int vc)]) (fun m => by first | (simp [entryFrame, mkF, argsToLocals, Value.category]; done) | rfl) ?_
  intro p e s m below meth c s₁ hx hby hml hown hnm hret hlk hZ S0
  have A0 := S0.here
  refine k_iloadN A0 hx (hb hby own_d6_0) rfl (pc' := 1) rfl ?_
  refine k_if_ne A0 hx (hb hby own_d6_1) (pcY := 11) (by decide) (pc' := 4) rfl (fun hc1 => ?_) (fun hc1 => ?_)
  · refine k_iloadN A0 hx (hb hby own_d6_11) rfl (pc' := 12) rfl ?_
    refine k_iloadN A0 hx (hb hby own_d6_12) rfl (pc' := 13) rfl ?_
    refine k_iadd A0 hx (hb hby own_d6_13) (pc' := 14) rfl ?_
    refine k_iconst A0 hx (hb hby own_d6_14) (v := 1) rfl (pc' := 15) rfl ?_
    refine k_isub A0 hx (hb hby own_d6_15) (pc' := 16) rfl ?_
    refine k_ret_int S0 hx hret hlk (hb hby own_d6_16) (by decide) (by decide) ?_
    exact ⟨by simp [own_var, hc1], rfl⟩
  · refine k_aloadN A0 hx (hb hby own_d6_4) rfl rfl (pc' := 5) rfl ?_
    refine k_getfield S0 hx hZ hown (hw _ (List.mem_of_getElem? (i := 42) rfl)) F3 (hb hby own_d6_5) (pc' := 8) rfl ?_
    intro T1 S1
    have A1 := S1.here
    refine k_goto A1 hx (hb hby own_d6_8) (pc' := 16) (by decide) ?_
    refine k_ret_int S1 hx hret hlk (hb hby own_d6_16) (by decide) (by decide) ?_
    exact ⟨by simp [own_var, hc1], rfl⟩
theorem own_wS {Z : State} {a0 : Array Value} (hw : ∀ d ∈ tables_1, d.before a0 Z = true) : ∀ a ∈ Bundle.stringAtoms, a.before a0 Z = true := by
  intro d hd
  simp only [Bundle.stringAtoms, List.mem_cons, List.not_mem_nil, or_false] at hd
  rcases hd with rfl | rfl | rfl | rfl | rfl | rfl | rfl
  · exact (hw _ (List.mem_of_getElem? (i := 6) rfl))
  · exact (hw _ (List.mem_of_getElem? (i := 7) rfl))
  · exact (hw _ (List.mem_of_getElem? (i := 8) rfl))
  · exact (hw _ (List.mem_of_getElem? (i := 9) rfl))
  · exact (hw _ (List.mem_of_getElem? (i := 10) rfl))
  · exact (hw _ (List.mem_of_getElem? (i := 11) rfl))
  · exact (hw _ (List.mem_of_getElem? (i := 12) rfl))
theorem own_pn0 : plainName "com/example/entail/entail/clauses/AtMostAtomVariablePinLaw" = true := by first | (simp [plainName, overriddenIn]; done) | decide +kernel
theorem own_pd2 : parseMethodDescriptor "(II)I" = some ⟨[.int, .int], some .int⟩ := by decide +kernel
theorem own_pd3 : parseMethodDescriptor "(IIILcom/example/entail/entail/clauses/AtomicConcept;)V" = some ⟨[.int, .int, .int, (.object "com/example/entail/entail/clauses/AtomicConcept")], none⟩ := by decide +kernel
theorem own_pd4 : parseMethodDescriptor "(ILjava/lang/String;)V" = some ⟨[.int, (.object "java/lang/String")], none⟩ := by decide +kernel
set_option maxRecDepth 65536 in
set_option maxHeartbeats 40000000 in
theorem own_law (l : Launch) (Z : State) (a0 : Array Value) (hw : ∀ d ∈ tables_1, d.before a0 Z = true) (x0 ce x2 x3 x4 fl : Int32) (h0 : Heap) (n0 : Nat) (Z0 : n0 ≤ h0.size) :
    ConW l Z x code maxLocals ret room_1 n0 h0 #[(.int x0), (.int ce), (.int x2), (.int x3), (.int x4), (.int fl)] (fun _ => True) (fun v h => v = some (.int 1)) := by
  refine ConW.intro (plainFor_of_name own_pn0) (Ls := #[.val (.int x0), .val (.int ce), .val (.int x2), .val (.int x3), .val (.int x4), .val (.int fl), .unset, .unset, .unset, .unset, .unset, .unset, .unset]) (fun m => by first | (simp [entryFrame, mkF, argsToLocals, Value.category, maxLocals]; done) | rfl) ?_
  intro p e sb m below meth c s₁ s hx hby hml hown hnm hret hlk hZ hB hsb hPs S0
  have A0 := S0.here
  have kb0 : (0 : Nat) ≤ h0.size := Nat.zero_le _
  have K1 := Keep.refl h0 []
  refine k_iloadN A0 hx (hb hby at_0) rfl (pc' := 1) rfl ?_
  refine k_ldcInt S0 hx hZ hown (hw _ (List.mem_of_getElem? (i := 0) rfl)) (hb hby at_1) (pc' := 3) rfl ?_
  refine k_iand A0 hx (hb hby at_3) (pc' := 4) rfl ?_
  refine k_iconst A0 hx (hb hby at_4) (v := 1) rfl (pc' := 5) rfl ?_
  refine k_iadd A0 hx (hb hby at_5) (pc' := 6) rfl ?_
  have hcn := own_cnt x0
  obtain ⟨cnt, q_cnt⟩ : ∃ z, z = ((x0 &&& (1073741823 : Int32)) + (1 : Int32)) := ⟨_, rfl⟩
  rw [← q_cnt] at hcn ⊢
  have hcn1 : ¬ cnt < 1 := by simp only [Int32.lt_iff_toInt_lt, Int32.reduceToInt]; omega
  refine k_istore A0 hx (hb hby at_6) (Ls' := #[.val (.int x0), .val (.int ce), .val (.int x2), .val (.int x3), .val (.int x4), .val (.int fl), .val (.int cnt), .unset, .unset, .unset, .unset, .unset, .unset]) rfl (pc' := 8) rfl ?_
  refine k_iloadN A0 hx (hb hby at_8) rfl (pc' := 9) rfl ?_
  refine k_ldcInt S0 hx hZ hown (hw _ (List.mem_of_getElem? (i := 0) rfl)) (hb hby at_9) (pc' := 11) rfl ?_
  refine k_iand A0 hx (hb hby at_11) (pc' := 12) rfl ?_
  refine k_iconst A0 hx (hb hby at_12) (v := 1) rfl (pc' := 13) rfl ?_
  refine k_iadd A0 hx (hb hby at_13) (pc' := 14) rfl ?_
  have hvc := own_cnt x3
  obtain ⟨vc, q_vc⟩ : ∃ z, z = ((x3 &&& (1073741823 : Int32)) + (1 : Int32)) := ⟨_, rfl⟩
  rw [← q_vc] at hvc ⊢
  refine k_istore A0 hx (hb hby at_14) (Ls' := #[.val (.int x0), .val (.int ce), .val (.int x2), .val (.int x3), .val (.int x4), .val (.int fl), .val (.int cnt), .val (.int vc), .unset, .unset, .unset, .unset, .unset]) rfl (pc' := 16) rfl ?_
  refine k_iloadN A0 hx (hb hby at_16) rfl (pc' := 17) rfl ?_
  refine k_ldcInt S0 hx hZ hown (hw _ (List.mem_of_getElem? (i := 1) rfl)) (hb hby at_17) (pc' := 19) rfl ?_
  refine k_iand A0 hx (hb hby at_19) (pc' := 20) rfl ?_
  refine k_iload A0 hx (hb hby at_20) rfl (pc' := 22) rfl ?_
  refine k_irem A0 hx (hb hby at_22) (own_nz (by omega)) (pc' := 23) rfl ?_
  have hnb := own_rem x2 vc (by omega)
  obtain ⟨nb, q_nb⟩ : ∃ z, z = ((x2 &&& (2147483647 : Int32)) % vc) := ⟨_, rfl⟩
  rw [← q_nb] at hnb ⊢
  refine k_istore A0 hx (hb hby at_23) (Ls' := #[.val (.int x0), .val (.int ce), .val (.int x2), .val (.int x3), .val (.int x4), .val (.int fl), .val (.int cnt), .val (.int vc), .val (.int nb), .unset, .unset, .unset, .unset]) rfl (pc' := 25) rfl ?_
  refine k_iload A0 hx (hb hby at_25) rfl (pc' := 27) rfl ?_
  refine k_ldcInt S0 hx hZ hown (hw _ (List.mem_of_getElem? (i := 1) rfl)) (hb hby at_27) (pc' := 29) rfl ?_
  refine k_iand A0 hx (hb hby at_29) (pc' := 30) rfl ?_
  refine k_iload A0 hx (hb hby at_30) rfl (pc' := 32) rfl ?_
  refine k_iconst A0 hx (hb hby at_32) (v := 1) rfl (pc' := 33) rfl ?_
  refine k_iadd A0 hx (hb hby at_33) (pc' := 34) rfl ?_
  refine k_irem A0 hx (hb hby at_34) (own_nz (by have q := own_inc1 (x := cnt) (by omega) (by omega); omega)) (pc' := 35) rfl ?_
  have hcn2 : (cnt + 1).toInt = cnt.toInt + 1 := own_inc1 (by omega) (by omega)
  have hpl := own_rem x4 (cnt + 1) (by omega)
  obtain ⟨pl, q_pl⟩ : ∃ z, z = ((x4 &&& (2147483647 : Int32)) % (cnt + (1 : Int32))) := ⟨_, rfl⟩
  rw [← q_pl] at hpl ⊢
  refine k_istore A0 hx (hb hby at_35) (Ls' := #[.val (.int x0), .val (.int ce), .val (.int x2), .val (.int x3), .val (.int x4), .val (.int fl), .val (.int cnt), .val (.int vc), .val (.int nb), .val (.int pl), .unset, .unset, .unset]) rfl (pc' := 37) rfl ?_
  have J77_2 : ∀ (T2 : State) (h2 : Heap), ∀ (s : State) (kb : Nat), Base sb s kb → Z.Warmed39 s.vm → s.vm.findClass "com/example/entail/entail/clauses/AtMostAtomVariablePinLaw" = some m.cls → kb ≤ h2.size → ∀ (am : Addr), ∀ (s10 : Slot), St p l e room_1 s m #[(.int x0), (.int ce), (.int x2), (.int x3), (.int x4), (.int fl)] below meth c n0 T2 h2 4 14 → (Exa Z h2 am "com/example/entail/entail/clauses/AtMostAtom") → (Fld Z h2 am "com/example/entail/entail/clauses/AtMostAtom" "neighbour" "I" (.int nb)) → Done p e below (OEndW sb room_1 n0 (fun v h => v = some (.int 1))) (T2.setTop (mkF m 77 #[.val (.int x0), .val (.int ce), .val (.int x2), .val (.int x3), .val (.int x4), .val (.int fl), .val (.int cnt), .val (.int vc), .val (.int nb), .val (.int pl), s10, .unset, .unset] [(.ref am)])) := by
    intro T2 h2 s kb hB hZ hown kb2 am s10 S2 Em Fm
    have A2 := S2.here
    refine k_astore A2 hx (hb hby at_77) rfl (Ls' := #[.val (.int x0), .val (.int ce), .val (.int x2), .val (.int x3), .val (.int x4), .val (.int fl), .val (.int cnt), .val (.int vc), .val (.int nb), .val (.int pl), s10, .val (.ref am), .unset]) rfl (pc' := 79) rfl ?_
    refine k_aload A2 hx (hb hby at_79) rfl rfl (pc' := 81) rfl ?_
    refine k_iconst A2 hx (hb hby at_81) (v := 0) rfl (pc' := 82) rfl ?_
    refine k_iload A2 hx (hb hby at_82) rfl (pc' := 84) rfl ?_
    refine k_call_virtual S2 hx hZ hown Em (hw _ (List.mem_of_getElem? (i := 46) rfl)) (hw _ (List.mem_of_getElem? (i := 47) rfl)) (hw _ (List.mem_of_getElem? (i := 49) rfl)) (hw _ (List.mem_of_getElem? (i := 48) rfl)) (hw _ (List.mem_of_getElem? (i := 30) rfl)) (hw _ (List.mem_of_getElem? (i := 50) rfl)) (by decide) (own_cvar l Z a0 hw am (0 : Int32) vc h2 n0 nb Fm) 0 (argsL := [(.int (0 : Int32)), (.int vc)]) (rest := []) (by decide) (by decide) (by rw [hml]; rfl) (lenOf own_pd2 rfl) rfl rfl (Nat.le_refl 0) (hb hby at_84) (pc' := 87) rfl (by decide) (by decide) ?_
    rintro v3 T3 h3 ⟨rfl, q3⟩ S3
    rw [q3] at S3
    have A3 := S3.here
    show Done p e below _ (T3.setTop (mkF m 87 #[.val (.int x0), .val (.int ce), .val (.int x2), .val (.int x3), .val (.int x4), .val (.int fl), .val (.int cnt), .val (.int vc), .val (.int nb), .val (.int pl), s10, .val (.ref am), .unset] [(.int (own_var nb (0 : Int32) vc))]))
    refine k_iload A3 hx (hb hby at_87) rfl (pc' := 89) rfl ?_
    refine k_icmp_eq A3 hx (hb hby at_89) (pcY := 94) (by decide) (pc' := 92) rfl (fun hc89 => ?_) (fun hc89 => absurd (own_v0 nb vc) hc89)
    refine k_aload A3 hx (hb hby at_94) rfl rfl (pc' := 96) rfl ?_
    refine k_iconst A3 hx (hb hby at_96) (v := 1) rfl (pc' := 97) rfl ?_
    refine k_iload A3 hx (hb hby at_97) rfl (pc' := 99) rfl ?_
    refine k_call_virtual S3 hx hZ hown Em (hw _ (List.mem_of_getElem? (i := 46) rfl)) (hw _ (List.mem_of_getElem? (i := 47) rfl)) (hw _ (List.mem_of_getElem? (i := 49) rfl)) (hw _ (List.mem_of_getElem? (i := 48) rfl)) (hw _ (List.mem_of_getElem? (i := 30) rfl)) (hw _ (List.mem_of_getElem? (i := 50) rfl)) (by decide) (own_cvar l Z a0 hw am (1 : Int32) vc h2 n0 nb Fm) 0 (argsL := [(.int (1 : Int32)), (.int vc)]) (rest := []) (by decide) (by decide) (by rw [hml]; rfl) (lenOf own_pd2 rfl) rfl rfl (Nat.le_refl 0) (hb hby at_99) (pc' := 102) rfl (by decide) (by decide) ?_
    rintro v4 T4 h4 ⟨rfl, q4⟩ S4
    rw [q4] at S4
    have A4 := S4.here
    show Done p e below _ (T4.setTop (mkF m 102 #[.val (.int x0), .val (.int ce), .val (.int x2), .val (.int x3), .val (.int x4), .val (.int fl), .val (.int cnt), .val (.int vc), .val (.int nb), .val (.int pl), s10, .val (.ref am), .unset] [(.int (own_var nb (1 : Int32) vc))]))
    refine k_iload A4 hx (hb hby at_102) rfl (pc' := 104) rfl ?_
    refine k_icmp_eq A4 hx (hb hby at_104) (pcY := 109) (by decide) (pc' := 107) rfl (fun hc104 => ?_) (fun hc104 => absurd (own_v1 nb vc) hc104)
    refine k_aload A4 hx (hb hby at_109) rfl rfl (pc' := 111) rfl ?_
    refine k_iload A4 hx (hb hby at_111) rfl (pc' := 113) rfl ?_
    refine k_iload A4 hx (hb hby at_113) rfl (pc' := 115) rfl ?_
    refine k_call_virtual S4 hx hZ hown Em (hw _ (List.mem_of_getElem? (i := 46) rfl)) (hw _ (List.mem_of_getElem? (i := 47) rfl)) (hw _ (List.mem_of_getElem? (i := 49) rfl)) (hw _ (List.mem_of_getElem? (i := 48) rfl)) (hw _ (List.mem_of_getElem? (i := 30) rfl)) (hw _ (List.mem_of_getElem? (i := 50) rfl)) (by decide) (own_cvar l Z a0 hw am pl vc h2 n0 nb Fm) 0 (argsL := [(.int pl), (.int vc)]) (rest := []) (by decide) (by decide) (by rw [hml]; rfl) (lenOf own_pd2 rfl) rfl rfl (Nat.le_refl 0) (hb hby at_115) (pc' := 118) rfl (by decide) (by decide) ?_
    rintro v5 T5 h5 ⟨rfl, q5⟩ S5
    rw [q5] at S5
    have A5 := S5.here
    show Done p e below _ (T5.setTop (mkF m 118 #[.val (.int x0), .val (.int ce), .val (.int x2), .val (.int x3), .val (.int x4), .val (.int fl), .val (.int cnt), .val (.int vc), .val (.int nb), .val (.int pl), s10, .val (.ref am), .unset] [(.int (own_var nb pl vc))]))
    refine k_istore A5 hx (hb hby at_118) (Ls' := #[.val (.int x0), .val (.int ce), .val (.int x2), .val (.int x3), .val (.int x4), .val (.int fl), .val (.int cnt), .val (.int vc), .val (.int nb), .val (.int pl), s10, .val (.ref am), .val (.int (own_var nb pl vc))]) rfl (pc' := 120) rfl ?_
    refine k_iload A5 hx (hb hby at_120) rfl (pc' := 122) rfl ?_
    refine k_if_ne A5 hx (hb hby at_122) (pcY := 138) (by decide) (pc' := 125) rfl (fun hc122 => ?_) (fun hc122 => ?_)
    · refine k_iload A5 hx (hb hby at_138) rfl (pc' := 140) rfl ?_
      refine k_iload A5 hx (hb hby at_140) rfl (pc' := 142) rfl ?_
      refine k_icmp_ge A5 hx (hb hby at_142) (pcY := 147) (by decide) (pc' := 145) rfl (fun hc142 => ?_) (fun hc142 => by have q := own_vp (nb := nb) hc122 hpl.1 (by omega) (vc := vc) (by omega) (by omega); rw [← Int32.toInt_inj] at hc122; simp only [Int32.lt_iff_toInt_lt, Int32.reduceToInt] at hc142 hc122; omega)
      refine k_iload A5 hx (hb hby at_147) rfl (pc' := 149) rfl ?_
      refine k_iload A5 hx (hb hby at_149) rfl (pc' := 151) rfl ?_
      refine k_icmp_ge A5 hx (hb hby at_151) (pcY := 178) (by decide) (pc' := 154) rfl (fun hc151 => ?_) (fun hc151 => ?_)
      · refine k_iconst A5 hx (hb hby at_178) (v := 1) rfl (pc' := 179) rfl ?_
        refine k_ret_narW S5 hB kb2 hx (t := .boolean) hret (by simp) hlk (hb hby at_179) (z' := (1 : Int32)) rfl (by decide) (by decide) ?_
        exact rfl
      · refine k_aload A5 hx (hb hby at_154) rfl rfl (pc' := 156) rfl ?_
        refine k_iload A5 hx (hb hby at_156) rfl (pc' := 158) rfl ?_
        refine k_iconst A5 hx (hb hby at_158) (v := 1) rfl (pc' := 159) rfl ?_
        refine k_iadd A5 hx (hb hby at_159) (pc' := 160) rfl ?_
        refine k_iload A5 hx (hb hby at_160) rfl (pc' := 162) rfl ?_
        refine k_call_virtual S5 hx hZ hown Em (hw _ (List.mem_of_getElem? (i := 46) rfl)) (hw _ (List.mem_of_getElem? (i := 47) rfl)) (hw _ (List.mem_of_getElem? (i := 49) rfl)) (hw _ (List.mem_of_getElem? (i := 48) rfl)) (hw _ (List.mem_of_getElem? (i := 30) rfl)) (hw _ (List.mem_of_getElem? (i := 50) rfl)) (by decide) (own_cvar l Z a0 hw am (pl + (1 : Int32)) vc h2 n0 nb Fm) 0 (argsL := [(.int (pl + (1 : Int32))), (.int vc)]) (rest := []) (by decide) (by decide) (by rw [hml]; rfl) (lenOf own_pd2 rfl) rfl rfl (Nat.le_refl 0) (hb hby at_162) (pc' := 165) rfl (by decide) (by decide) ?_
        rintro v6 T6 h6 ⟨rfl, q6⟩ S6
        rw [q6] at S6
        have A6 := S6.here
        show Done p e below _ (T6.setTop (mkF m 165 #[.val (.int x0), .val (.int ce), .val (.int x2), .val (.int x3), .val (.int x4), .val (.int fl), .val (.int cnt), .val (.int vc), .val (.int nb), .val (.int pl), s10, .val (.ref am), .val (.int (own_var nb pl vc))] [(.int (own_var nb (pl + (1 : Int32)) vc))]))
        refine k_iload A6 hx (hb hby at_165) rfl (pc' := 167) rfl ?_
        refine k_iconst A6 hx (hb hby at_167) (v := 1) rfl (pc' := 168) rfl ?_
        refine k_iadd A6 hx (hb hby at_168) (pc' := 169) rfl ?_
        refine k_icmp_ne A6 hx (hb hby at_169) (pcY := 176) (by decide) (pc' := 172) rfl (fun hc169 => absurd (own_vs hc122 hpl.1 (by omega) (own_inc1 hpl.1 (by omega))) hc169) (fun hc169 => ?_)
        refine k_iconst A6 hx (hb hby at_172) (v := 1) rfl (pc' := 173) rfl ?_
        refine k_goto A6 hx (hb hby at_173) (pc' := 177) (by decide) ?_
        refine k_ret_narW S6 hB kb2 hx (t := .boolean) hret (by simp) hlk (hb hby at_177) (z' := (1 : Int32)) rfl (by decide) (by decide) ?_
        exact rfl
    · refine k_iload A5 hx (hb hby at_125) rfl (pc' := 127) rfl ?_
      refine k_iload A5 hx (hb hby at_127) rfl (pc' := 129) rfl ?_
      refine k_icmp_ne A5 hx (hb hby at_129) (pcY := 136) (by decide) (pc' := 132) rfl (fun hc129 => absurd (by rw [hc122]; exact own_v0 nb vc) hc129) (fun hc129 => ?_)
      refine k_iconst A5 hx (hb hby at_132) (v := 1) rfl (pc' := 133) rfl ?_
      refine k_goto A5 hx (hb hby at_133) (pc' := 137) (by decide) ?_
      refine k_ret_narW S5 hB kb2 hx (t := .boolean) hret (by simp) hlk (hb hby at_137) (z' := (1 : Int32)) rfl (by decide) (by decide) ?_
      exact rfl
  refine k_iload A0 hx (hb hby at_37) rfl (pc' := 39) rfl ?_
  refine k_iconst A0 hx (hb hby at_39) (v := 1) rfl (pc' := 40) rfl ?_
  refine k_iand A0 hx (hb hby at_40) (pc' := 41) rfl ?_
  refine k_if_eq A0 hx (hb hby at_41) (pcY := 60) (by decide) (pc' := 44) rfl (fun hc41 => ?_) (fun hc41 => ?_)
  · refine k_aconstNull A0 hx (hb hby at_60) (pc' := 61) rfl ?_
    refine k_astore A0 hx (hb hby at_61) rfl (Ls' := #[.val (.int x0), .val (.int ce), .val (.int x2), .val (.int x3), .val (.int x4), .val (.int fl), .val (.int cnt), .val (.int vc), .val (.int nb), .val (.int pl), .val .null, .unset, .unset]) rfl (pc' := 63) rfl ?_
    refine k_new S0 hx hZ hown (hw _ (List.mem_of_getElem? (i := 28) rfl)) (hw _ (List.mem_of_getElem? (i := 29) rfl)) (hw _ (List.mem_of_getElem? (i := 30) rfl)) (hb hby at_63) (pc' := 66) rfl (by decide) (by decide) ?_
    intro T7 h7 b7 g7 E7 X7 D7 S7
    have bo8 : h0.size ≤ b7 := Nat.le_trans K1.1 (Nat.le_of_eq g7.symm)
    have ge8 : n0 ≤ b7 := Nat.le_trans Z0 bo8
    have A7 := S7.here
    have f9 := Nat.le_trans kb0 E7.1
    have K10 := K1.ext E7
    have F11 : Fld Z h7 b7 "com/example/entail/entail/clauses/AtMostAtom" "count" "I" (.int (0 : Int32)) := D7 (Or.inr (hw _ (List.mem_of_getElem? (i := 39) rfl))) (ty := .int) (by decide)
    have F12 : Fld Z h7 b7 "com/example/entail/entail/clauses/AtMostAtom" "centre" "I" (.int (0 : Int32)) := D7 (Or.inr (hw _ (List.mem_of_getElem? (i := 41) rfl))) (ty := .int) (by decide)
    have F13 : Fld Z h7 b7 "com/example/entail/entail/clauses/AtMostAtom" "neighbour" "I" (.int (0 : Int32)) := D7 (Or.inr (hw _ (List.mem_of_getElem? (i := 43) rfl))) (ty := .int) (by decide)
    have F14 : Fld Z h7 b7 "com/example/entail/entail/clauses/AtMostAtom" "exclusion" "Lcom/example/entail/entail/clauses/AtomicConcept;" .null := D7 (Or.inr (hw _ (List.mem_of_getElem? (i := 45) rfl))) (ty := (.object "com/example/entail/entail/clauses/AtomicConcept")) (by decide)
    refine k_dup A7 hx (hb hby at_66) rfl (pc' := 67) rfl ?_
    refine k_iload A7 hx (hb hby at_67) rfl (pc' := 69) rfl ?_
    refine k_iloadN A7 hx (hb hby at_69) rfl (pc' := 70) rfl ?_
    refine k_iload A7 hx (hb hby at_70) rfl (pc' := 72) rfl ?_
    refine k_aload A7 hx (hb hby at_72) rfl rfl (pc' := 74) rfl ?_
    refine k_call_init S7 hx hZ hown rfl (hw _ (List.mem_of_getElem? (i := 31) rfl)) (hw _ (List.mem_of_getElem? (i := 32) rfl)) (hw _ (List.mem_of_getElem? (i := 30) rfl)) (hw _ (List.mem_of_getElem? (i := 33) rfl)) (by decide) (own_amN l Z a0 hw b7 cnt ce nb h7 n0 (Nat.le_trans Z0 K10.1) hcn1 ge8 X7 F11 F12 F13 F14) 1 (argsL := [(.int cnt), (.int ce), (.int nb), .null]) (rest := [(.ref b7)]) (by decide) (by decide) (by rw [hml]; rfl) (lenOf own_pd3 rfl) rfl rfl (Nat.le_refl 1) (hb hby at_74) (pc' := 77) rfl (by decide) (by decide) ?_
    rintro v15 T15 h15 ⟨rfl, K15, F15⟩ S15
    have f16 := Nat.le_trans f9 K15.1
    have f17 := X7.keep K15
    have K22 := K10.trans K15 (allS (Or.inr bo8) all0)
    have A15 := S15.here
    show Done p e below _ (T15.setTop (mkF m 77 #[.val (.int x0), .val (.int ce), .val (.int x2), .val (.int x3), .val (.int x4), .val (.int fl), .val (.int cnt), .val (.int vc), .val (.int nb), .val (.int pl), .val .null, .unset, .unset] [(.ref b7)]))
    exact J77_2 T15 h15 s _ hB hZ hown f16 b7 (.val .null) (S15.more (by decide) (by decide)) f17 F15
  · refine k_new S0 hx hZ hown (hw _ (List.mem_of_getElem? (i := 2) rfl)) (hw _ (List.mem_of_getElem? (i := 3) rfl)) (hw _ (List.mem_of_getElem? (i := 4) rfl)) (hb hby at_44) (pc' := 47) rfl (by decide) (by decide) ?_
    intro T23 h23 b23 g23 E23 X23 D23 S23
    have bo24 : h0.size ≤ b23 := Nat.le_trans K1.1 (Nat.le_of_eq g23.symm)
    have ge24 : n0 ≤ b23 := Nat.le_trans Z0 bo24
    have A23 := S23.here
    have f25 := Nat.le_trans kb0 E23.1
    have K26 := K1.ext E23
    have F27 : Fld Z h23 b23 "com/example/entail/entail/clauses/AtomicConcept" "index" "I" (.int (0 : Int32)) := D23 (Or.inr (hw _ (List.mem_of_getElem? (i := 25) rfl))) (ty := .int) (by decide)
    have F28 : Fld Z h23 b23 "com/example/entail/entail/clauses/AtomicConcept" "name" "Ljava/lang/String;" .null := D23 (Or.inr (hw _ (List.mem_of_getElem? (i := 27) rfl))) (ty := (.object "java/lang/String")) (by decide)
    refine k_dup A23 hx (hb hby at_47) rfl (pc' := 48) rfl ?_
    refine k_iload A23 hx (hb hby at_48) rfl (pc' := 50) rfl ?_
    refine k_iconst A23 hx (hb hby at_50) (v := 1) rfl (pc' := 51) rfl ?_
    refine k_iushr A23 hx (hb hby at_51) (pc' := 52) rfl ?_
    refine k_ldcStr S23 hB f25 hx hZ hown (hw _ (List.mem_of_getElem? (i := 5) rfl)) (own_wS hw) (hb hby at_52) 4 (by decide) (by decide) (by decide) (by decide) (pc' := 54) rfl ?_
    intro s a29 T29 h29 kb hB kb29 E29 hZ hown S29
    have A29 := S29.here
    have f30 := X23.ext E29
    have f31 := F27.ext E29
    have f32 := F28.ext E29
    have K33 := K26.ext E29
    refine k_call_init S29 hx hZ hown rfl (hw _ (List.mem_of_getElem? (i := 13) rfl)) (hw _ (List.mem_of_getElem? (i := 14) rfl)) (hw _ (List.mem_of_getElem? (i := 4) rfl)) (hw _ (List.mem_of_getElem? (i := 15) rfl)) (by decide) (own_ac l Z a0 hw b23 ((fl.toUInt32 >>> ((1 : Int32) &&& 31).toUInt32).toInt32) a29 h29 n0 (Nat.le_trans Z0 K33.1) ge24 f30 f31 f32) 1 (argsL := [(.int ((fl.toUInt32 >>> ((1 : Int32) &&& 31).toUInt32).toInt32)), (.ref a29)]) (rest := [(.ref b23)]) (by decide) (by decide) (by rw [hml]; rfl) (lenOf own_pd4 rfl) rfl rfl (Nat.le_refl 1) (hb hby at_54) (pc' := 57) rfl (by decide) (by decide) ?_
    rintro v34 T34 h34 ⟨rfl, K34⟩ S34
    have f35 := f30.keep K34
    have f38 := Nat.le_trans kb29 K34.1
    have K39 := K33.trans K34 (allS (Or.inr bo24) all0)
    have A34 := S34.here
    show Done p e below _ (T34.setTop (mkF m 57 #[.val (.int x0), .val (.int ce), .val (.int x2), .val (.int x3), .val (.int x4), .val (.int fl), .val (.int cnt), .val (.int vc), .val (.int nb), .val (.int pl), .unset, .unset, .unset] [(.ref b23)]))
    refine k_goto A34 hx (hb hby at_57) (pc' := 61) (by decide) ?_
    refine k_astore A34 hx (hb hby at_61) rfl (Ls' := #[.val (.int x0), .val (.int ce), .val (.int x2), .val (.int x3), .val (.int x4), .val (.int fl), .val (.int cnt), .val (.int vc), .val (.int nb), .val (.int pl), .val (.ref b23), .unset, .unset]) rfl (pc' := 63) rfl ?_
    refine k_new S34 hx hZ hown (hw _ (List.mem_of_getElem? (i := 28) rfl)) (hw _ (List.mem_of_getElem? (i := 29) rfl)) (hw _ (List.mem_of_getElem? (i := 30) rfl)) (hb hby at_63) (pc' := 66) rfl (by decide) (by decide) ?_
    intro T40 h40 b40 g40 E40 X40 D40 S40
    have ne41 : b23 ≠ b40 := by rw [g40]; exact Nat.ne_of_lt f35.lt
    have bo42 : h0.size ≤ b40 := Nat.le_trans K39.1 (Nat.le_of_eq g40.symm)
    have ge42 : n0 ≤ b40 := Nat.le_trans Z0 bo42
    have A40 := S40.here
    have f43 := f35.ext E40
    have f44 := Nat.le_trans f38 E40.1
    have K45 := K39.ext E40
    have F46 : Fld Z h40 b40 "com/example/entail/entail/clauses/AtMostAtom" "count" "I" (.int (0 : Int32)) := D40 (Or.inr (hw _ (List.mem_of_getElem? (i := 39) rfl))) (ty := .int) (by decide)
    have F47 : Fld Z h40 b40 "com/example/entail/entail/clauses/AtMostAtom" "centre" "I" (.int (0 : Int32)) := D40 (Or.inr (hw _ (List.mem_of_getElem? (i := 41) rfl))) (ty := .int) (by decide)
    have F48 : Fld Z h40 b40 "com/example/entail/entail/clauses/AtMostAtom" "neighbour" "I" (.int (0 : Int32)) := D40 (Or.inr (hw _ (List.mem_of_getElem? (i := 43) rfl))) (ty := .int) (by decide)
    have F49 : Fld Z h40 b40 "com/example/entail/entail/clauses/AtMostAtom" "exclusion" "Lcom/example/entail/entail/clauses/AtomicConcept;" .null := D40 (Or.inr (hw _ (List.mem_of_getElem? (i := 45) rfl))) (ty := (.object "com/example/entail/entail/clauses/AtomicConcept")) (by decide)
    refine k_dup A40 hx (hb hby at_66) rfl (pc' := 67) rfl ?_
    refine k_iload A40 hx (hb hby at_67) rfl (pc' := 69) rfl ?_
    refine k_iloadN A40 hx (hb hby at_69) rfl (pc' := 70) rfl ?_
    refine k_iload A40 hx (hb hby at_70) rfl (pc' := 72) rfl ?_
    refine k_aload A40 hx (hb hby at_72) rfl rfl (pc' := 74) rfl ?_
    refine k_call_init S40 hx hZ hown rfl (hw _ (List.mem_of_getElem? (i := 31) rfl)) (hw _ (List.mem_of_getElem? (i := 32) rfl)) (hw _ (List.mem_of_getElem? (i := 30) rfl)) (hw _ (List.mem_of_getElem? (i := 33) rfl)) (by decide) (own_amR l Z a0 hw b40 cnt ce nb b23 h40 n0 (Nat.le_trans Z0 K45.1) hcn1 ge42 X40 F46 F47 F48 F49) 1 (argsL := [(.int cnt), (.int ce), (.int nb), (.ref b23)]) (rest := [(.ref b40)]) (by decide) (by decide) (by rw [hml]; rfl) (lenOf own_pd3 rfl) rfl rfl (Nat.le_refl 1) (hb hby at_74) (pc' := 77) rfl (by decide) (by decide) ?_
    rintro v50 T50 h50 ⟨rfl, K50, F50⟩ S50
    have f51 := f43.keep K50
    have f52 := Nat.le_trans f44 K50.1
    have f53 := X40.keep K50
    have K58 := K45.trans K50 (allS (Or.inr bo42) all0)
    have A50 := S50.here
    show Done p e below _ (T50.setTop (mkF m 77 #[.val (.int x0), .val (.int ce), .val (.int x2), .val (.int x3), .val (.int x4), .val (.int fl), .val (.int cnt), .val (.int vc), .val (.int nb), .val (.int pl), .val (.ref b23), .unset, .unset] [(.ref b40)]))
    exact J77_2 T50 h50 s _ hB hZ hown f52 b40 (.val (.ref b23)) (S50.more (by decide) (by decide)) f53 F50
set_option maxRecDepth 65536 in
set_option maxHeartbeats 40000000 in
theorem comes_1 {Post : Tables → Env → Array Value → State → Outcome → State → Prop} (hpost : ∀ tb e args s v u, (limb_1_1.after args s (.returned v) u = true ∧ limb_1_2.after args s (.returned v) u = true ∧ True) → ReturnedEndW s (.returned v) u (Jvm.fieldLocs frame_1_writes args s ++ Jvm.arrayLocs frame_1_arrays args s ++ Jvm.staticLocs frame_1_statics s) 16 1152 → Post tb e args s (.returned v) u) :
    ArmFor flags0 classFile x code maxLocals ret World_1 tables_1 room_1 Calls_1 rest_1 Pre_1 Post := by
  intro l hfl _ _ p e ha hc hk s m args below hf hA hF happ hP
  obtain ⟨hcalls, hrest, hpre⟩ := hP
  obtain ⟨-, -, -, hnamed, -, -, -, hat⟩ := (Spec.applies_iff hf).mp happ
  obtain ⟨hg, hn⟩ := and_e (Cond.before_iff.mp (show (Jvm.Cond.and given_1 narrow_1).before args s = true from hpre))
  obtain ⟨g1, g2⟩ := and_e hg
  obtain ⟨g3, g4⟩ := and_e g2
  obtain ⟨g5, g6⟩ := and_e g4
  obtain ⟨g7, g8⟩ := and_e g6
  obtain ⟨g9, g10⟩ := and_e g8
  obtain ⟨g11, g12⟩ := and_e g10
  obtain ⟨w0, w1, w2, w3, w4, w5, rfl⟩ : ∃ w0 w1 w2 w3 w4 w5 : Value, args = #[w0, w1, w2, w3, w4, w5] := by
    have hs : args.size = 6 := by simpa [Cond.value, given_1] using g1
    obtain ⟨L⟩ := args
    match L, hs with
    | [w0, w1, w2, w3, w4, w5], _ => exact ⟨w0, w1, w2, w3, w4, w5, rfl⟩
  have hw := fun d (hd : d ∈ tables_1) => atoms_spec (ws := Jvm.Cond.code x code maxLocals ret :: tables_1) hat d (List.mem_cons_of_mem _ hd)
  obtain ⟨i0, ei0⟩ := is_v g3
  obtain rfl : w0 = (.int i0) := Option.some.inj ei0
  obtain ⟨i1, ei1⟩ := is_v g5
  obtain rfl : w1 = (.int i1) := Option.some.inj ei1
  obtain ⟨i2, ei2⟩ := is_v g7
  obtain rfl : w2 = (.int i2) := Option.some.inj ei2
  obtain ⟨i3, ei3⟩ := is_v g9
  obtain rfl : w3 = (.int i3) := Option.some.inj ei3
  obtain ⟨i4, ei4⟩ := is_v g11
  obtain rfl : w4 = (.int i4) := Option.some.inj ei4
  obtain ⟨i5, ei5⟩ := is_v g12
  obtain rfl : w5 = (.int i5) := Option.some.inj ei5
  obtain ⟨n, o, h1, h2, h3, _, L, rfl, ⟨rfl, N⟩, hq⟩ := own_law l s _ hw i0 i1 i2 i3 i4 i5 s.heap s.heap.size (Nat.le_refl _) tables_1 p e ha hc hk s m _ below hf ((Spec.applies_iff_loose hf).mp happ).1 ⟨rfl, State.Warmed39.refl s, rfl, trivial⟩ trivial
  refine ⟨n, _, h1, h2, h3, hpost _ _ _ _ _ _ ⟨Cond.after_iff.mpr rfl, Cond.after_iff.mpr (eq_i res_at (Term.int_eval (1)) rfl), trivial⟩ ⟨hq.1, hq.2.1, hq.2.2.1, (hq.2.2.2.sift fun y hy => Or.inr (N y hy)).mono (by decide) (by decide)⟩⟩
theorem main_1_1 : Claimed_1_1 := comes_1 fun _ _ _ _ _ _ h hF => ⟨h.1, hF⟩
theorem main_1_2 : Claimed_1_2 := comes_1 fun _ _ _ _ _ _ h hF => ⟨h.2.1, hF⟩
end Jvm.Pilot.@@N@@
namespace Jvm.Pilot.@@N@@
open Jvm Jvm.ClassFile Sem Op Lib Jvm.Free Jvm.Stand Jvm.Pilot.@@N@@.Jvm.D
/-! MADE BY PROGRAM (witnessworld.py) out of the Statement's table words and the real class files: 17 classes; the members and pool entries that the words name. The judged class is class 1, her method 1. -/
namespace start1
open Jvm.ClassFile
def u (s : String) : CpInfo := .utf8 (stringToUtf16 s)
/-- a pool by its gaps: so many unusable entries, then the entry; so many at the end -/
def gap : Nat → List CpInfo → List CpInfo
  | 0, r => r
  | n + 1, r => .unusable :: gap n r
def poolList (es : List (Nat × CpInfo)) (last : Nat) : List CpInfo := es.foldr (fun e r => gap e.1 (e.2 :: r)) (gap last [])
def pool (es : List (Nat × CpInfo)) (last : Nat) : Array CpInfo := ⟨poolList es last⟩
def fileOf (pool : Array CpInfo) (this : Nat) (attrs : Array Attribute := #[]) (ms : Array MethodInfo := #[]) (fl : Nat := 33) (sup : Nat := 0) (ifs : Array Nat := #[]) (fds : Array FieldInfo := #[]) : ClassFile where
  minorVersion := 0
  majorVersion := 65
  constantPool := pool
  accessFlags := fl
  thisClass := this
  superClass := sup
  interfaces := ifs
  fields := fds
  methods := ms
  attributes := attrs
def plain (name : String) (sup : Option ClassId) : Class where
  name := name
  kind := .ordinary
  loader := none
  accessFlags := 33
  super := sup
  interfaces := #[]
  cf := none
  fields := #[]
  methods := #[]
  instanceTypes := #[]
  staticTypes := #[]
  resolved := #[]
  callSites := []
  init := .initialized
  statics := none
  mirror := none

def pool0 : Array CpInfo := pool [(5, u "<init>"), (0, u "()V"), (1, .class_ 10), (1, u "java/lang/Object")] 113

def k0c0 : Code := { maxStack := 0, maxLocals := 1, code := object_method_1_code, exceptionTable := #[], attributes := #[] }
def k0m0 : Method := { name := "<init>", desc := "()V", sig := { parameters := [], returnType := none }, accessFlags := 1, code := some k0c0 }
/-- java/lang/Object -/
def k0 : Class := { plain "java/lang/Object" none with
  accessFlags := 33
  interfaces := #[]
  cf := some (fileOf pool0 8 #[] #[{ accessFlags := 1, nameIndex := 5, descriptorIndex := 6, attributes := #[] }] 33 0 #[] #[])
  fields := #[]
  methods := #[k0m0]
  instanceTypes := #[]
  staticTypes := #[]
  resolved := Array.replicate 124 none
  statics := none }

def pool1 : Array CpInfo := pool [(2, .class_ 4), (1, u "java/lang/Object"), (0, u "<init>"), (0, u "()V"), (0, .integer 1073741823), (0, .integer 2147483647), (0, .class_ 10), (0, u "com/example/entail/entail/clauses/AtomicConcept"), (0, .string 12), (0, u "C"), (0, .methodref 9 14), (0, .nameAndType 5 15), (0, u "(ILjava/lang/String;)V"), (0, .class_ 17), (0, u "com/example/entail/entail/clauses/AtMostAtom"), (0, .methodref 16 19), (0, .nameAndType 5 20), (0, u "(IIILcom/example/entail/entail/clauses/AtomicConcept;)V"), (0, .methodref 16 22), (0, .nameAndType 23 24), (0, u "variable"), (0, u "(II)I"), (0, .class_ 26), (0, u "com/example/entail/entail/clauses/AtMostAtomVariablePinLaw"), (2, u "law"), (0, u "(IIIIII)Z")] 3

def k1m0 : Method := { name := "<init>", desc := "()V", sig := { parameters := [], returnType := none }, accessFlags := 1, code := none }
def k1c1 : Code := { maxStack := 6, maxLocals := 13, code := code, exceptionTable := #[], attributes := #[] }
def k1m1 : Method := { name := "law", desc := "(IIIIII)Z", sig := { parameters := [.int, .int, .int, .int, .int, .int], returnType := some .boolean }, accessFlags := 9, code := some k1c1 }
/-- com/example/entail/entail/clauses/AtMostAtomVariablePinLaw -/
def k1 : Class := { plain "com/example/entail/entail/clauses/AtMostAtomVariablePinLaw" (some 0) with
  accessFlags := 49
  interfaces := #[]
  cf := some (fileOf pool1 25 #[] #[{ accessFlags := 1, nameIndex := 5, descriptorIndex := 6, attributes := #[] }, { accessFlags := 9, nameIndex := 29, descriptorIndex := 30, attributes := #[] }] 49 2 #[] #[])
  fields := #[]
  methods := #[k1m0, k1m1]
  instanceTypes := #[]
  staticTypes := #[]
  resolved := Array.replicate 34 none
  statics := none }

def pool2 : Array CpInfo := pool [(1, .methodref 2 3), (0, .class_ 4), (0, .nameAndType 5 6), (0, u "java/lang/Object"), (0, u "<init>"), (0, u "()V"), (0, .class_ 8), (0, u "java/lang/Record")] 13

def k2c0 : Code := { maxStack := 1, maxLocals := 1, code := jdk_30_method_1_code, exceptionTable := #[], attributes := #[] }
def k2m0 : Method := { name := "<init>", desc := "()V", sig := { parameters := [], returnType := none }, accessFlags := 4, code := some k2c0 }
/-- java/lang/Record -/
def k2 : Class := { plain "java/lang/Record" (some 0) with
  accessFlags := 1057
  interfaces := #[]
  cf := some (fileOf pool2 7 #[] #[{ accessFlags := 4, nameIndex := 5, descriptorIndex := 6, attributes := #[] }] 1057 2 #[] #[])
  fields := #[]
  methods := #[k2m0]
  instanceTypes := #[]
  staticTypes := #[]
  resolved := Array.replicate 22 none
  statics := none }

def pool3 : Array CpInfo := pool [(1, .methodref 2 3), (0, .class_ 4), (0, .nameAndType 5 6), (0, u "java/lang/Record"), (0, u "<init>"), (0, u "()V"), (0, .fieldref 8 9), (0, .class_ 10), (0, .nameAndType 11 12), (0, u "com/example/entail/entail/clauses/AtomicConcept"), (0, u "index"), (0, u "I"), (0, .fieldref 8 14), (0, .nameAndType 15 16), (0, u "name"), (0, u "Ljava/lang/String;"), (8, u "THING"), (2, u "LITERAL"), (1, u "(ILjava/lang/String;)V")] 28

def k3c0 : Code := { maxStack := 2, maxLocals := 3, code := prog_6_method_1_code, exceptionTable := #[], attributes := #[] }
def k3m0 : Method := { name := "<init>", desc := "(ILjava/lang/String;)V", sig := { parameters := [.int, (.object "java/lang/String")], returnType := none }, accessFlags := 1, code := some k3c0 }
/-- com/example/entail/entail/clauses/AtomicConcept -/
def k3 : Class := { plain "com/example/entail/entail/clauses/AtomicConcept" (some 2) with
  accessFlags := 49
  interfaces := #[]
  cf := some (fileOf pool3 8 #[] #[{ accessFlags := 1, nameIndex := 5, descriptorIndex := 30, attributes := #[] }] 49 2 #[] #[{ accessFlags := 18, nameIndex := 11, descriptorIndex := 12, attributes := #[] }, { accessFlags := 18, nameIndex := 15, descriptorIndex := 16, attributes := #[] }, { accessFlags := 25, nameIndex := 25, descriptorIndex := 12, attributes := #[] }, { accessFlags := 25, nameIndex := 28, descriptorIndex := 12, attributes := #[] }])
  fields := #[{ name := "index", type := .int, accessFlags := 18, slot := 0, constantValue := 0 }, { name := "name", type := (.object "java/lang/String"), accessFlags := 18, slot := 1, constantValue := 0 }, { name := "THING", type := .int, accessFlags := 25, slot := 0, constantValue := 0 }, { name := "LITERAL", type := .int, accessFlags := 25, slot := 1, constantValue := 0 }]
  methods := #[k3m0]
  instanceTypes := #[.int, (.object "java/lang/String")]
  staticTypes := #[.int, .int]
  resolved := Array.replicate 59 none
  statics := none }

def pool4 : Array CpInfo := pool [(1, .class_ 2), (0, u "java/io/Serializable"), (0, .class_ 4), (0, u "java/lang/Object")] 2

/-- java/io/Serializable -/
def k4 : Class := { plain "java/io/Serializable" (some 0) with
  accessFlags := 1537
  interfaces := #[]
  cf := some (fileOf pool4 1 #[] #[] 1537 3 #[] #[])
  fields := #[]
  methods := #[]
  instanceTypes := #[]
  staticTypes := #[]
  resolved := Array.replicate 7 none
  statics := none }

def pool5 : Array CpInfo := pool [(1, .class_ 2), (0, u "java/lang/Comparable"), (0, .class_ 4), (0, u "java/lang/Object")] 7

/-- java/lang/Comparable -/
def k5 : Class := { plain "java/lang/Comparable" (some 0) with
  accessFlags := 1537
  interfaces := #[]
  cf := some (fileOf pool5 1 #[] #[] 1537 3 #[] #[])
  fields := #[]
  methods := #[]
  instanceTypes := #[]
  staticTypes := #[]
  resolved := Array.replicate 12 none
  statics := none }

def pool6 : Array CpInfo := pool [(2, .class_ 4), (1, u "java/lang/CharSequence"), (42, .class_ 48), (0, u "java/lang/CharSequence$1CodePointIterator"), (10, .class_ 60), (0, u "java/lang/CharSequence$1CharIterator"), (5, .class_ 67), (0, u "java/lang/Object")] 63

/-- java/lang/CharSequence -/
def k6 : Class := { plain "java/lang/CharSequence" (some 0) with
  accessFlags := 1537
  interfaces := #[]
  cf := some (fileOf pool6 2 #[.nestMembers #[47, 59]] #[] 1537 66 #[] #[])
  fields := #[]
  methods := #[]
  instanceTypes := #[]
  staticTypes := #[]
  resolved := Array.replicate 131 none
  statics := none }

def pool7 : Array CpInfo := pool [(1, .class_ 2), (0, u "java/lang/constant/Constable"), (0, .class_ 4), (0, u "java/lang/Object")] 6

/-- java/lang/constant/Constable -/
def k7 : Class := { plain "java/lang/constant/Constable" (some 0) with
  accessFlags := 1537
  interfaces := #[]
  cf := some (fileOf pool7 1 #[] #[] 1537 3 #[] #[])
  fields := #[]
  methods := #[]
  instanceTypes := #[]
  staticTypes := #[]
  resolved := Array.replicate 11 none
  statics := none }

def pool8 : Array CpInfo := pool [(1, .class_ 2), (0, u "java/lang/constant/ConstantDesc"), (0, .class_ 4), (0, u "java/lang/Object")] 32

/-- java/lang/constant/ConstantDesc -/
def k8 : Class := { plain "java/lang/constant/ConstantDesc" (some 0) with
  accessFlags := 1537
  interfaces := #[]
  cf := some (fileOf pool8 1 #[] #[] 1537 3 #[] #[])
  fields := #[]
  methods := #[]
  instanceTypes := #[]
  staticTypes := #[]
  resolved := Array.replicate 37 none
  statics := none }

def pool9 : Array CpInfo := pool [(2, .class_ 4), (1, u "java/lang/Object"), (0, u "<init>"), (0, u "()V"), (3, .class_ 12), (1, u "java/lang/String"), (0, u "value"), (0, u "[B"), (2, u "coder"), (0, u "B"), (2, u "hash"), (0, u "I"), (2, u "hashIsZero"), (0, u "Z"), (13, u "COMPACT_STRINGS"), (534, .class_ 576), (0, u "java/lang/CharSequence"), (22, u "CASE_INSENSITIVE_ORDER"), (0, u "Ljava/util/Comparator;"), (500, u "serialPersistentFields"), (0, u "[Ljava/io/ObjectStreamField;"), (0, .class_ 1104), (0, u "java/lang/String$CaseInsensitiveComparator"), (1, .class_ 1107), (0, u "java/io/Serializable"), (0, .class_ 1109), (0, u "java/lang/Comparable"), (0, .class_ 1111), (0, u "java/lang/constant/Constable"), (0, .class_ 1113), (0, u "java/lang/constant/ConstantDesc"), (2, u "serialVersionUID"), (0, u "J"), (3, u "REPL"), (0, u "C"), (2, u "LATIN1"), (1, u "UTF16")] 323

def k9m0 : Method := { name := "<init>", desc := "()V", sig := { parameters := [], returnType := none }, accessFlags := 1, code := none }
/-- java/lang/String -/
def k9 : Class := { plain "java/lang/String" (some 0) with
  accessFlags := 49
  interfaces := #[4, 5, 6, 7, 8]
  cf := some (fileOf pool9 10 #[.nestMembers #[1103]] #[{ accessFlags := 1, nameIndex := 5, descriptorIndex := 6, attributes := #[] }] 49 2 #[1106, 1108, 575, 1110, 1112] #[{ accessFlags := 18, nameIndex := 13, descriptorIndex := 14, attributes := #[] }, { accessFlags := 18, nameIndex := 17, descriptorIndex := 18, attributes := #[] }, { accessFlags := 2, nameIndex := 21, descriptorIndex := 22, attributes := #[] }, { accessFlags := 2, nameIndex := 25, descriptorIndex := 26, attributes := #[] }, { accessFlags := 26, nameIndex := 1116, descriptorIndex := 1117, attributes := #[] }, { accessFlags := 24, nameIndex := 40, descriptorIndex := 26, attributes := #[] }, { accessFlags := 26, nameIndex := 1101, descriptorIndex := 1102, attributes := #[] }, { accessFlags := 26, nameIndex := 1121, descriptorIndex := 1122, attributes := #[] }, { accessFlags := 25, nameIndex := 599, descriptorIndex := 600, attributes := #[] }, { accessFlags := 24, nameIndex := 1125, descriptorIndex := 18, attributes := #[] }, { accessFlags := 24, nameIndex := 1127, descriptorIndex := 18, attributes := #[] }])
  fields := #[{ name := "value", type := (.array .byte), accessFlags := 18, slot := 0, constantValue := 0 }, { name := "coder", type := .byte, accessFlags := 18, slot := 1, constantValue := 0 }, { name := "hash", type := .int, accessFlags := 2, slot := 2, constantValue := 0 }, { name := "hashIsZero", type := .boolean, accessFlags := 2, slot := 3, constantValue := 0 }, { name := "serialVersionUID", type := .long, accessFlags := 26, slot := 0, constantValue := 0 }, { name := "COMPACT_STRINGS", type := .boolean, accessFlags := 24, slot := 1, constantValue := 0 }, { name := "serialPersistentFields", type := (.array (.object "java/io/ObjectStreamField")), accessFlags := 26, slot := 2, constantValue := 0 }, { name := "REPL", type := .char, accessFlags := 26, slot := 3, constantValue := 0 }, { name := "CASE_INSENSITIVE_ORDER", type := (.object "java/util/Comparator"), accessFlags := 25, slot := 4, constantValue := 0 }, { name := "LATIN1", type := .byte, accessFlags := 24, slot := 5, constantValue := 0 }, { name := "UTF16", type := .byte, accessFlags := 24, slot := 6, constantValue := 0 }]
  methods := #[k9m0]
  instanceTypes := #[(.array .byte), .byte, .int, .boolean]
  staticTypes := #[.long, .boolean, (.array (.object "java/io/ObjectStreamField")), .char, (.object "java/util/Comparator"), .byte, .byte]
  resolved := Array.replicate 1451 none
  statics := none }

def pool10 : Array CpInfo := pool [(1, .class_ 2), (0, u "com/example/entail/entail/clauses/Atom"), (0, .class_ 4), (0, u "java/lang/Object")] 27

/-- com/example/entail/entail/clauses/Atom -/
def k10 : Class := { plain "com/example/entail/entail/clauses/Atom" (some 0) with
  accessFlags := 1537
  interfaces := #[]
  cf := some (fileOf pool10 1 #[] #[] 1537 3 #[] #[])
  fields := #[]
  methods := #[]
  instanceTypes := #[]
  staticTypes := #[]
  resolved := Array.replicate 32 none
  statics := none }

def pool11 : Array CpInfo := pool [(1, .methodref 2 3), (0, .class_ 4), (0, .nameAndType 5 6), (0, u "java/lang/Record"), (0, u "<init>"), (0, u "()V"), (0, .methodref 8 9), (0, .class_ 10), (0, .nameAndType 11 12), (0, u "com/example/entail/entail/clauses/AtMostAtom"), (0, u "requireAllowed"), (0, u "(I)V"), (0, .fieldref 8 14), (0, .nameAndType 15 16), (0, u "count"), (0, u "I"), (0, .fieldref 8 18), (0, .nameAndType 19 16), (0, u "centre"), (0, .fieldref 8 21), (0, .nameAndType 22 16), (0, u "neighbour"), (0, .fieldref 8 24), (0, .nameAndType 25 26), (0, u "exclusion"), (0, u "Lcom/example/entail/entail/clauses/AtomicConcept;"), (33, u "variable"), (0, u "(II)I"), (35, .class_ 98), (0, u "com/example/entail/entail/clauses/Atom"), (0, u "(IIILcom/example/entail/entail/clauses/AtomicConcept;)V")] 50

def k11c0 : Code := { maxStack := 2, maxLocals := 5, code := prog_3_method_1_code, exceptionTable := #[], attributes := #[] }
def k11m0 : Method := { name := "<init>", desc := "(IIILcom/example/entail/entail/clauses/AtomicConcept;)V", sig := { parameters := [.int, .int, .int, (.object "com/example/entail/entail/clauses/AtomicConcept")], returnType := none }, accessFlags := 1, code := some k11c0 }
def k11c1 : Code := { maxStack := 3, maxLocals := 1, code := prog_3_method_2_code, exceptionTable := #[], attributes := #[] }
def k11m1 : Method := { name := "requireAllowed", desc := "(I)V", sig := { parameters := [.int], returnType := none }, accessFlags := 8, code := some k11c1 }
def k11c2 : Code := { maxStack := 2, maxLocals := 3, code := prog_3_method_6_code, exceptionTable := #[], attributes := #[] }
def k11m2 : Method := { name := "variable", desc := "(II)I", sig := { parameters := [.int, .int], returnType := some .int }, accessFlags := 1, code := some k11c2 }
/-- com/example/entail/entail/clauses/AtMostAtom -/
def k11 : Class := { plain "com/example/entail/entail/clauses/AtMostAtom" (some 2) with
  accessFlags := 49
  interfaces := #[10]
  cf := some (fileOf pool11 8 #[] #[{ accessFlags := 1, nameIndex := 5, descriptorIndex := 99, attributes := #[] }, { accessFlags := 8, nameIndex := 11, descriptorIndex := 12, attributes := #[] }, { accessFlags := 1, nameIndex := 60, descriptorIndex := 61, attributes := #[] }] 49 2 #[97] #[{ accessFlags := 18, nameIndex := 15, descriptorIndex := 16, attributes := #[] }, { accessFlags := 18, nameIndex := 19, descriptorIndex := 16, attributes := #[] }, { accessFlags := 18, nameIndex := 22, descriptorIndex := 16, attributes := #[] }, { accessFlags := 18, nameIndex := 25, descriptorIndex := 26, attributes := #[] }])
  fields := #[{ name := "count", type := .int, accessFlags := 18, slot := 0, constantValue := 0 }, { name := "centre", type := .int, accessFlags := 18, slot := 1, constantValue := 0 }, { name := "neighbour", type := .int, accessFlags := 18, slot := 2, constantValue := 0 }, { name := "exclusion", type := (.object "com/example/entail/entail/clauses/AtomicConcept"), accessFlags := 18, slot := 3, constantValue := 0 }]
  methods := #[k11m0, k11m1, k11m2]
  instanceTypes := #[.int, .int, .int, (.object "com/example/entail/entail/clauses/AtomicConcept")]
  staticTypes := #[]
  resolved := Array.replicate 150 none
  statics := none }

def pool12 : Array CpInfo := pool [(1, u "java/lang/Cloneable"), (0, .class_ 1), (0, u "java/lang/Object"), (0, .class_ 3)] 3

/-- java/lang/Cloneable -/
def k12 : Class := { plain "java/lang/Cloneable" (some 0) with
  accessFlags := 1537
  interfaces := #[]
  cf := some (fileOf pool12 2 #[] #[] 1537 4 #[] #[])
  fields := #[]
  methods := #[]
  instanceTypes := #[]
  staticTypes := #[]
  resolved := Array.replicate 8 none
  statics := none }

/-- the primitive byte -/
def k13 : Class := { plain "byte" none with kind := .primitive 'B', accessFlags := 0x411 }
/-- [B -/
def k14 : Class := { plain "[B" (some 0) with kind := .array 13 .byte, interfaces := #[12, 4], accessFlags := 1041 }

/-- the primitive int -/
def k15 : Class := { plain "int" none with kind := .primitive 'I', accessFlags := 0x411 }
/-- [I -/
def k16 : Class := { plain "[I" (some 0) with kind := .array 15 .int, interfaces := #[12, 4], accessFlags := 1041 }

def heap : Heap := #[]
def classes : Array Class := #[k0, k1, k2, k3, k4, k5, k6, k7, k8, k9, k10, k11, k12, k13, k14, k15, k16]
def interned : List (Array UInt16 × Addr) := []
def slotsUsed : Nat := 0
def theMethod : MethodId := ⟨1, 1⟩
def args0 : Array Value := #[.int 5, .int 1, .int 2, .int 7, .int 3, .int 1]
def aboutOver (below : List Frame) : State where
  vm := { classes := classes, interned := interned.toArray }
  heap := heap
  slotsUsed := slotsUsed
  threads := #[{ frames := .invoking theMethod args0 :: below }]
def below0 : List Frame := [.native { method := ⟨0, 0⟩, args := #[] }]
def about1 : State := aboutOver below0
def p0 : Program := .bare "" "" ""
def e0 : Env := launch0.env 0 0 0
theorem w_frames : about1.frames = Frame.invoking theMethod args0 :: below0 := rfl
set_option maxRecDepth 65536 in
theorem w_args : argsFit about1.vm theMethod args0 = true := by decide +kernel
set_option maxRecDepth 65536 in
theorem w_heap : heapFits about1 = true := by decide +kernel
set_option maxRecDepth 65536 in
theorem w_runnable : about1.curStatus? = some .runnable := by decide +kernel
set_option maxRecDepth 65536 in
theorem w_alone : about1.alone = true := by decide +kernel
set_option maxRecDepth 65536 in
theorem w_named : about1.methodNamed? x = some theMethod := by decide +kernel
set_option maxRecDepth 65536 in
theorem w_hears : about1.hears theMethod below0 = true := by decide +kernel
set_option maxRecDepth 65536 in
theorem w_ripe : about1.ripe theMethod args0 below0 = true := by decide +kernel
theorem w_running : about1.status = .running := rfl
set_option maxRecDepth 65536 in
theorem w_room : about1.hasRoom e0.platform room_1 = true :=
  launch0.hasRoom_least _ room_1 (by decide +kernel) (by decide +kernel) (by decide +kernel) (by decide +kernel) (by decide +kernel) (by decide +kernel)
theorem allAtoms_all (ts : List Jvm.Cond) (a : Array Jvm.Value) (st : Jvm.State) : (allAtoms ts).before a st = ts.all (fun c => c.before a st) := by
  induction ts with
  | nil => rfl
  | cons c t ih =>
    show (Jvm.Cond.and c (allAtoms t)).before a st = _
    rw [Jvm.Cond.before_and, ih, List.all_cons]
def words1 : List Jvm.Cond := Jvm.Cond.code x code maxLocals ret :: tables_1
/-- a 'code' word, met by the world's own term for the bytes: nothing is compared byte by byte -/
theorem code_word {y : MethodName} {bytes : ByteArray} {mx : Nat} {rt : Option FieldType} {a : Array Value} {s : State} {m : MethodId} {meth : Method} {c : Code} (h1 : s.methodNamed? y = some m) (h2 : s.vm.method? m = some meth) (h3 : meth.code = some c) (h4 : c.code = bytes)
    (h5 : (c.maxLocals == mx && c.exceptionTable.isEmpty && decide (c.maxStack ≤ mostOperands) && decide (meth.sig.returnType = rt) && !meth.locks && decide (parseMethodDescriptor y.desc = some meth.sig)) = true) : (Jvm.Cond.code y bytes mx rt).before a s = true := by
  simp only [Bool.and_eq_true, beq_iff_eq, Bool.not_eq_true', decide_eq_true_eq] at h5
  obtain ⟨⟨⟨⟨⟨g1, g2⟩, g3⟩, g4⟩, g5⟩, g6⟩ := h5
  simp [Cond.before, Cond.holds, Cond.value, h1, h2, h3, h4, g1, g2, g3, g4, g5, g6]
def isCode : Jvm.Cond → Bool
  | .code _ _ _ _ => true
  | _ => false
theorem all_split {L : List Jvm.Cond} {P : Jvm.Cond → Bool} (h1 : L.all (fun c => isCode c || P c) = true) (h2 : ∀ c ∈ L.filter isCode, P c = true) : L.all P = true := by
  refine List.all_eq_true.mpr fun c hc => ?_
  have h := List.all_eq_true.mp h1 c hc
  rcases Bool.eq_false_or_eq_true (isCode c) with hi | hi
  · exact h2 c (List.mem_filter.mpr ⟨hc, hi⟩)
  · simpa [hi] using h
set_option maxRecDepth 65536 in
theorem w_c0 : (Jvm.Cond.code x code maxLocals ret).before args0 about1 = true := code_word (m := ⟨1, 1⟩) (meth := k1m1) (c := k1c1) (by decide +kernel) rfl rfl rfl (by decide +kernel)
set_option maxRecDepth 65536 in
theorem w_c1 : (Jvm.Cond.code ({ cls := "com/example/entail/entail/clauses/AtomicConcept", name := "<init>", desc := "(ILjava/lang/String;)V" } : Jvm.MethodName) prog_6_method_1_code (3 : Nat) (Option.none : Option Jvm.ClassFile.FieldType)).before args0 about1 = true := code_word (m := ⟨3, 0⟩) (meth := k3m0) (c := k3c0) (by decide +kernel) rfl rfl rfl (by decide +kernel)
set_option maxRecDepth 65536 in
theorem w_c2 : (Jvm.Cond.code ({ cls := "java/lang/Record", name := "<init>", desc := "()V" } : Jvm.MethodName) jdk_30_method_1_code (1 : Nat) (Option.none : Option Jvm.ClassFile.FieldType)).before args0 about1 = true := code_word (m := ⟨2, 0⟩) (meth := k2m0) (c := k2c0) (by decide +kernel) rfl rfl rfl (by decide +kernel)
set_option maxRecDepth 65536 in
theorem w_c3 : (Jvm.Cond.code ({ cls := "java/lang/Object", name := "<init>", desc := "()V" } : Jvm.MethodName) object_method_1_code (1 : Nat) (Option.none : Option Jvm.ClassFile.FieldType)).before args0 about1 = true := code_word (m := ⟨0, 0⟩) (meth := k0m0) (c := k0c0) (by decide +kernel) rfl rfl rfl (by decide +kernel)
set_option maxRecDepth 65536 in
theorem w_c4 : (Jvm.Cond.code ({ cls := "com/example/entail/entail/clauses/AtMostAtom", name := "<init>", desc := "(IIILcom/example/entail/entail/clauses/AtomicConcept;)V" } : Jvm.MethodName) prog_3_method_1_code (5 : Nat) (Option.none : Option Jvm.ClassFile.FieldType)).before args0 about1 = true := code_word (m := ⟨11, 0⟩) (meth := k11m0) (c := k11c0) (by decide +kernel) rfl rfl rfl (by decide +kernel)
set_option maxRecDepth 65536 in
theorem w_c5 : (Jvm.Cond.code ({ cls := "com/example/entail/entail/clauses/AtMostAtom", name := "requireAllowed", desc := "(I)V" } : Jvm.MethodName) prog_3_method_2_code (1 : Nat) (Option.none : Option Jvm.ClassFile.FieldType)).before args0 about1 = true := code_word (m := ⟨11, 1⟩) (meth := k11m1) (c := k11c1) (by decide +kernel) rfl rfl rfl (by decide +kernel)
set_option maxRecDepth 65536 in
theorem w_c6 : (Jvm.Cond.code ({ cls := "com/example/entail/entail/clauses/AtMostAtom", name := "variable", desc := "(II)I" } : Jvm.MethodName) prog_3_method_6_code (3 : Nat) (Option.some Jvm.ClassFile.FieldType.int)).before args0 about1 = true := code_word (m := ⟨11, 2⟩) (meth := k11m2) (c := k11c2) (by decide +kernel) rfl rfl rfl (by decide +kernel)
def codes1 : List Jvm.Cond := [Jvm.Cond.code x code maxLocals ret, Jvm.Cond.code ({ cls := "com/example/entail/entail/clauses/AtomicConcept", name := "<init>", desc := "(ILjava/lang/String;)V" } : Jvm.MethodName) prog_6_method_1_code (3 : Nat) (Option.none : Option Jvm.ClassFile.FieldType), Jvm.Cond.code ({ cls := "java/lang/Record", name := "<init>", desc := "()V" } : Jvm.MethodName) jdk_30_method_1_code (1 : Nat) (Option.none : Option Jvm.ClassFile.FieldType), Jvm.Cond.code ({ cls := "java/lang/Object", name := "<init>", desc := "()V" } : Jvm.MethodName) object_method_1_code (1 : Nat) (Option.none : Option Jvm.ClassFile.FieldType), Jvm.Cond.code ({ cls := "com/example/entail/entail/clauses/AtMostAtom", name := "<init>", desc := "(IIILcom/example/entail/entail/clauses/AtomicConcept;)V" } : Jvm.MethodName) prog_3_method_1_code (5 : Nat) (Option.none : Option Jvm.ClassFile.FieldType), Jvm.Cond.code ({ cls := "com/example/entail/entail/clauses/AtMostAtom", name := "requireAllowed", desc := "(I)V" } : Jvm.MethodName) prog_3_method_2_code (1 : Nat) (Option.none : Option Jvm.ClassFile.FieldType), Jvm.Cond.code ({ cls := "com/example/entail/entail/clauses/AtMostAtom", name := "variable", desc := "(II)I" } : Jvm.MethodName) prog_3_method_6_code (3 : Nat) (Option.some Jvm.ClassFile.FieldType.int)]
set_option maxRecDepth 65536 in
theorem codes_eq : words1.filter isCode = codes1 := rfl
theorem w_codes : ∀ c ∈ words1.filter isCode, c.before args0 about1 = true := by
  rw [codes_eq]
  intro c hc
  simp only [codes1, List.mem_cons, List.not_mem_nil, or_false] at hc
  rcases hc with rfl | rfl | rfl | rfl | rfl | rfl | rfl
  · exact w_c0
  · exact w_c1
  · exact w_c2
  · exact w_c3
  · exact w_c4
  · exact w_c5
  · exact w_c6
set_option maxRecDepth 65536 in
theorem w_t1 : (words1.take 24).all (fun c => isCode c || c.before args0 about1) = true := by decide +kernel
set_option maxRecDepth 65536 in
theorem w_t2 : ((words1.drop 24).take 24).all (fun c => isCode c || c.before args0 about1) = true := by decide +kernel
set_option maxRecDepth 65536 in
theorem w_t3 : ((words1.drop 24).drop 24).all (fun c => isCode c || c.before args0 about1) = true := by decide +kernel
theorem w_tables : (allAtoms (Jvm.Cond.code x code maxLocals ret :: tables_1)).before args0 about1 = true := by
  rw [allAtoms_all]
  show words1.all (fun c => c.before args0 about1) = true
  refine all_split ?_ w_codes
  rw [← List.take_append_drop 24 words1, List.all_append, w_t1, ← List.take_append_drop 24 (words1.drop 24), List.all_append, w_t2, w_t3]
  rfl
set_option maxRecDepth 65536 in
theorem w_case : (Jvm.Cond.and given_1 narrow_1).before args0 about1 = true := by decide +kernel
theorem w_applies : (headSpec (Jvm.Cond.code x code maxLocals ret :: tables_1) room_1).applies x e0.platform about1 = true :=
  (Spec.applies_iff w_frames).mpr ⟨w_running, w_runnable, w_alone, w_named, w_hears, w_ripe, w_room, w_tables⟩
theorem atStart : AtStart classFile x code maxLocals ret World_1 tables_1 room_1 Calls_1 rest_1 Pre_1 launch0 p0 e0 about1 theMethod args0 below0 :=
  ⟨lists_1, trivial, launch0.admits_env _ _ _, launch0.least_env, fairChoices_fair.cas, fairChoices_fair.clock, w_frames, w_args, w_heap, w_applies, trivial, trivial, w_case⟩
end start1
theorem witness_1 : WitnessClaimed_1 := ⟨start1.p0, start1.e0, start1.about1, start1.theMethod, start1.args0, start1.below0, start1.atStart⟩
end Jvm.Pilot.@@N@@
