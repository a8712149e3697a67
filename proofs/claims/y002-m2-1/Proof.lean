import JvmDerived
import JvmDerived.Pilot.@@N@@Statement
import JvmDerived.Pilot.@@N@@Code
set_option linter.unusedVariables false
set_option linter.unusedSimpArgs false
namespace Jvm.OwnKit
open Sem ClassFile Op Lib Jvm.Stand Jvm.Free Jvm.LawKit Jvm.RoadKit
/-! My own layer: a walk forward. Done G S: from the state S the invocation comes to its end, and G holds there. -/
def Done (p : Program) (e : Env) (below : List Frame) (G : Outcome → State → Prop) (S : State) : Prop :=
  ∃ s₂ o, Steps p.tables e below S s₂ ∧ s₂.status = .running ∧ Ended s₂ below o ∧ G o s₂
/-- what a contract promises at the end: the value, the heap; all that was written lies at or above n0 -/
def OEnd (s : State) (R : Room) (n0 : Nat) (Q : Option Value → Heap → Prop) (o : Outcome) (U : State) : Prop :=
  ∃ v L, o = .returned v ∧ (Q v U.heap ∧ Fr n0 L) ∧ FrameEnd s o U L R.cells R.slots
/-- where the walk stands: a Stand whose writes lie at or above n0, and its heap -/
def St (p : Program) (l : Launch) (e : Env) (R : Room) (s : State) (m : MethodId) (args : Array Value) (below : List Frame) (meth : Method) (c : Code) (n0 : Nat) (T : State) (h : Heap) (k n : Nat) : Prop :=
  ∃ locs, Stand p l e R s m args below meth c T locs k n ∧ Fr n0 locs ∧ T.heap = h
/-- a contract of a body -/
def Con (l : Launch) (Z : State) (y : MethodName) (bytes : ByteArray) (maxL : Nat) (ret : Option FieldType) (rm : Room) (n0 : Nat) (h0 : Heap) (as' : Array Value) (Q : Option Value → Heap → Prop) : Prop :=
  ∀ ws : List Jvm.Cond, MetFree l y (head1 (Jvm.Cond.code y bytes maxL ret :: ws) rm) (fun a U => a = as' ∧ Z.Warmed39 U.vm ∧ U.heap = h0) (fun _ _ _ _ _ => True) (fun _ U o U' => OEnd U rm n0 Q o U')
section Walk
variable {p : Program} {l : Launch} {e : Env} {R : Room} {s : State} {m : MethodId} {args : Array Value} {below : List Frame} {meth : Method} {c : Code} {n0 : Nat} {T : State} {h : Heap} {k n : Nat} {Z : State} {a0 : Array Value}
variable {G : Outcome → State → Prop} {pc pc' : Nat} {Ls Ls' : Array Slot} {st : List Value}
theorem Done.go {S S' : State} (f : ∀ t, Steps p.tables e below S' t → Steps p.tables e below S t) (d : Done p e below G S') : Done p e below G S := by
  obtain ⟨s₂, o, h1, h2⟩ := d
  exact ⟨s₂, o, f _ h1, h2⟩
theorem St.here (S : St p l e R s m args below meth c n0 T h k n) : At T m c below := by
  obtain ⟨_, X, _⟩ := S
  exact X.here
theorem St.heap (S : St p l e R s m args below meth c n0 T h k n) : T.heap = h := by
  obtain ⟨_, _, _, q⟩ := S
  exact q
theorem St.more {k' n' : Nat} (S : St p l e R s m args below meth c n0 T h k n) (hk : k ≤ k') (hn : n ≤ n') : St p l e R s m args below meth c n0 T h k' n' := by
  obtain ⟨L, X, N, q⟩ := S
  exact ⟨L, X.more hk hn, N, q⟩
theorem Con.intro {y : MethodName} {bytes : ByteArray} {maxL : Nat} {ret : Option FieldType} {rm : Room} {h0 : Heap} {as' : Array Value} {Q : Option Value → Heap → Prop}
    (hp : plainFor y = true) (hef : ∀ m, entryFrame m as' maxL = mkF m 0 Ls [])
    (body : ∀ (p : Program) (e : Env) (s : State) (m : MethodId) (below : List Frame) (meth : Method) (c : Code) (s₁ : State), p.tables.exec = Jvm.exec → c.code = bytes → c.maxLocals = maxL → s.vm.findClass y.cls = some m.cls → meth.name = y.name →
      meth.sig.returnType = ret → meth.locks = false → Z.Warmed39 s.vm → St p l e rm s m as' below meth c n0 s₁ h0 0 0 → Done p e below (OEnd s rm n0 Q) (s₁.setTop (mkF m 0 Ls []))) :
    Con l Z y bytes maxL ret rm n0 h0 as' Q := by
  intro ws
  refine MetFree.of_bodySF hp hisR ?_
  intro p e s m args below meth c s₁ Bd hml0 hP hK
  obtain ⟨rfl, hZ, hh⟩ := hP
  have hr := body p e s m below meth c s₁ Bd.exec Bd.bytes hml0 (findClass_of_methodNamed Bd.named) (name_of_methodNamed Bd.named Bd.method).1 Bd.returns Bd.notSynchronized hZ ⟨[], Stand.of_body Bd, Fr.nil n0, by rw [← hh, Bd.state]; rfl⟩
  rw [← hef m] at hr
  exact hr
/-! ### single steps -/
theorem k_iload (A : At T m c below) (hx : p.tables.exec = Jvm.exec) {i : Nat} {v : Int32} (hd : decode c.code pc = .ok (.iload i, 2)) (hl : Ls[i]? = some (.val (.int v))) (hp : pc + 2 = pc')
    (K : Done p e below G (T.setTop (mkF m pc' Ls (.int v :: st)))) : Done p e below G (T.setTop (mkF m pc Ls st)) := by
  subst hp; exact Done.go (fun t q => XS.iload A hx rfl hd hl q) K
theorem k_iloadN (A : At T m c below) (hx : p.tables.exec = Jvm.exec) {i : Fin 4} {v : Int32} (hd : decode c.code pc = .ok (.iload_n i, 1)) (hl : Ls[i.val]? = some (.val (.int v))) (hp : pc + 1 = pc')
    (K : Done p e below G (T.setTop (mkF m pc' Ls (.int v :: st)))) : Done p e below G (T.setTop (mkF m pc Ls st)) := by
  subst hp; exact Done.go (fun t q => XS.iloadN A hx rfl hd hl q) K
theorem k_istore (A : At T m c below) (hx : p.tables.exec = Jvm.exec) {i : Nat} {v : Int32} (hd : decode c.code pc = .ok (.istore i, 2)) (hl : storeLocals Ls i (.int v) = some Ls') (hp : pc + 2 = pc')
    (K : Done p e below G (T.setTop (mkF m pc' Ls' st))) : Done p e below G (T.setTop (mkF m pc Ls (.int v :: st))) := by
  subst hp; exact Done.go (fun t q => XS.istore A hx rfl hd rfl hl q) K
theorem k_istoreN (A : At T m c below) (hx : p.tables.exec = Jvm.exec) {i : Fin 4} {v : Int32} (hd : decode c.code pc = .ok (.istore_n i, 1)) (hl : storeLocals Ls i.val (.int v) = some Ls') (hp : pc + 1 = pc')
    (K : Done p e below G (T.setTop (mkF m pc' Ls' st))) : Done p e below G (T.setTop (mkF m pc Ls (.int v :: st))) := by
  subst hp; exact Done.go (fun t q => XS.istoreN A hx rfl hd rfl hl q) K
theorem k_lload (A : At T m c below) (hx : p.tables.exec = Jvm.exec) {i : Nat} {v : Int64} (hd : decode c.code pc = .ok (.lload i, 2)) (hl : Ls[i]? = some (.val (.long v))) (hp : pc + 2 = pc')
    (K : Done p e below G (T.setTop (mkF m pc' Ls (.long v :: st)))) : Done p e below G (T.setTop (mkF m pc Ls st)) := by
  subst hp; exact Done.go (fun t q => XS.lload A hx rfl hd hl q) K
theorem k_lloadN (A : At T m c below) (hx : p.tables.exec = Jvm.exec) {i : Fin 4} {v : Int64} (hd : decode c.code pc = .ok (.lload_n i, 1)) (hl : Ls[i.val]? = some (.val (.long v))) (hp : pc + 1 = pc')
    (K : Done p e below G (T.setTop (mkF m pc' Ls (.long v :: st)))) : Done p e below G (T.setTop (mkF m pc Ls st)) := by
  subst hp; exact Done.go (fun t q => XS.lloadN A hx rfl hd hl q) K
theorem k_lstore (A : At T m c below) (hx : p.tables.exec = Jvm.exec) {i : Nat} {v : Int64} (hd : decode c.code pc = .ok (.lstore i, 2)) (hl : storeLocals Ls i (.long v) = some Ls') (hp : pc + 2 = pc')
    (K : Done p e below G (T.setTop (mkF m pc' Ls' st))) : Done p e below G (T.setTop (mkF m pc Ls (.long v :: st))) := by
  subst hp; exact Done.go (fun t q => XS.lstore A hx rfl hd rfl hl q) K
theorem k_lstoreN (A : At T m c below) (hx : p.tables.exec = Jvm.exec) {i : Fin 4} {v : Int64} (hd : decode c.code pc = .ok (.lstore_n i, 1)) (hl : storeLocals Ls i.val (.long v) = some Ls') (hp : pc + 1 = pc')
    (K : Done p e below G (T.setTop (mkF m pc' Ls' st))) : Done p e below G (T.setTop (mkF m pc Ls (.long v :: st))) := by
  subst hp; exact Done.go (fun t q => XS.lstoreN A hx rfl hd rfl hl q) K
theorem k_aload (A : At T m c below) (hx : p.tables.exec = Jvm.exec) {i : Nat} {v : Value} (hd : decode c.code pc = .ok (.aload i, 2)) (hl : Ls[i]? = some (.val v)) (hv : v.isRef = true) (hp : pc + 2 = pc')
    (K : Done p e below G (T.setTop (mkF m pc' Ls (v :: st)))) : Done p e below G (T.setTop (mkF m pc Ls st)) := by
  subst hp; exact Done.go (fun t q => XS.aload A hx rfl hd hl hv q) K
theorem k_aloadN (A : At T m c below) (hx : p.tables.exec = Jvm.exec) {i : Fin 4} {v : Value} (hd : decode c.code pc = .ok (.aload_n i, 1)) (hl : Ls[i.val]? = some (.val v)) (hv : v.isRef = true) (hp : pc + 1 = pc')
    (K : Done p e below G (T.setTop (mkF m pc' Ls (v :: st)))) : Done p e below G (T.setTop (mkF m pc Ls st)) := by
  subst hp; exact Done.go (fun t q => XS.aloadN A hx rfl hd hl hv q) K
theorem k_astore (A : At T m c below) (hx : p.tables.exec = Jvm.exec) {i : Nat} {v : Value} (hd : decode c.code pc = .ok (.astore i, 2)) (hv : v.isRef = true) (hl : storeLocals Ls i v = some Ls') (hp : pc + 2 = pc')
    (K : Done p e below G (T.setTop (mkF m pc' Ls' st))) : Done p e below G (T.setTop (mkF m pc Ls (v :: st))) := by
  subst hp; exact Done.go (fun t q => XS.astore A hx rfl hd rfl hv hl q) K
theorem k_astoreN (A : At T m c below) (hx : p.tables.exec = Jvm.exec) {i : Fin 4} {v : Value} (hd : decode c.code pc = .ok (.astore_n i, 1)) (hv : v.isRef = true) (hl : storeLocals Ls i.val v = some Ls') (hp : pc + 1 = pc')
    (K : Done p e below G (T.setTop (mkF m pc' Ls' st))) : Done p e below G (T.setTop (mkF m pc Ls (v :: st))) := by
  subst hp; exact Done.go (fun t q => XS.astoreN A hx rfl hd rfl hv hl q) K
theorem k_iconst (A : At T m c below) (hx : p.tables.exec = Jvm.exec) {i : Int} {v : Int32} (hd : decode c.code pc = .ok (.iconst i, 1)) (hv : Int32.ofInt i = v) (hp : pc + 1 = pc')
    (K : Done p e below G (T.setTop (mkF m pc' Ls (.int v :: st)))) : Done p e below G (T.setTop (mkF m pc Ls st)) := by
  subst hp hv; exact Done.go (fun t q => XS.iconst A hx rfl hd q) K
theorem k_bipush (A : At T m c below) (hx : p.tables.exec = Jvm.exec) {i : Int} {v : Int32} (hd : decode c.code pc = .ok (.bipush i, 2)) (hv : (Int8.ofInt i).toInt32 = v) (hp : pc + 2 = pc')
    (K : Done p e below G (T.setTop (mkF m pc' Ls (.int v :: st)))) : Done p e below G (T.setTop (mkF m pc Ls st)) := by
  subst hp hv; exact Done.go (fun t q => XS.bipush A hx rfl hd q) K
theorem k_sipush (A : At T m c below) (hx : p.tables.exec = Jvm.exec) {i : Int} {v : Int32} (hd : decode c.code pc = .ok (.sipush i, 3)) (hv : (Int16.ofInt i).toInt32 = v) (hp : pc + 3 = pc')
    (K : Done p e below G (T.setTop (mkF m pc' Ls (.int v :: st)))) : Done p e below G (T.setTop (mkF m pc Ls st)) := by
  subst hp hv; exact Done.go (fun t q => XS.sipush A hx rfl hd q) K
theorem k_lconst (A : At T m c below) (hx : p.tables.exec = Jvm.exec) {i : Fin 2} {v : Int64} (hd : decode c.code pc = .ok (.lconst i, 1)) (hv : Int64.ofNat i = v) (hp : pc + 1 = pc')
    (K : Done p e below G (T.setTop (mkF m pc' Ls (.long v :: st)))) : Done p e below G (T.setTop (mkF m pc Ls st)) := by
  subst hp hv; exact Done.go (fun t q => XS.lconst A hx rfl hd q) K
theorem k_aconstNull (A : At T m c below) (hx : p.tables.exec = Jvm.exec)  (hd : decode c.code pc = .ok (.aconst_null, 1)) (hp : pc + 1 = pc')
    (K : Done p e below G (T.setTop (mkF m pc' Ls (.null :: st)))) : Done p e below G (T.setTop (mkF m pc Ls st)) := by
  subst hp; exact Done.go (fun t q => XS.aconstNull A hx rfl hd q) K
theorem k_dup (A : At T m c below) (hx : p.tables.exec = Jvm.exec) {v : Value} (hd : decode c.code pc = .ok (.dup, 1)) (hv : v.category = 1) (hp : pc + 1 = pc')
    (K : Done p e below G (T.setTop (mkF m pc' Ls (v :: v :: st)))) : Done p e below G (T.setTop (mkF m pc Ls (v :: st))) := by
  subst hp; exact Done.go (fun t q => XS.dup A hx rfl hd rfl hv q) K
theorem k_pop (A : At T m c below) (hx : p.tables.exec = Jvm.exec) {v : Value} (hd : decode c.code pc = .ok (.pop, 1)) (hv : v.category = 1) (hp : pc + 1 = pc')
    (K : Done p e below G (T.setTop (mkF m pc' Ls st))) : Done p e below G (T.setTop (mkF m pc Ls (v :: st))) := by
  subst hp; exact Done.go (fun t q => XS.pop A hx rfl hd rfl hv q) K
theorem k_dupX1 (A : At T m c below) (hx : p.tables.exec = Jvm.exec) {v w : Value} (hd : decode c.code pc = .ok (.dup_x1, 1)) (hv : v.category = 1) (hw : w.category = 1) (hp : pc + 1 = pc')
    (K : Done p e below G (T.setTop (mkF m pc' Ls (v :: w :: v :: st)))) : Done p e below G (T.setTop (mkF m pc Ls (v :: w :: st))) := by
  subst hp; exact Done.go (fun t q => XS.dupX1 A hx rfl hd rfl hv hw q) K
theorem k_iadd (A : At T m c below) (hx : p.tables.exec = Jvm.exec) {x y : Int32} (hd : decode c.code pc = .ok (.iadd, 1)) (hp : pc + 1 = pc')
    (K : Done p e below G (T.setTop (mkF m pc' Ls (.int (x + y) :: st)))) : Done p e below G (T.setTop (mkF m pc Ls (.int y :: .int x :: st))) := by
  subst hp; exact Done.go (fun t q => XS.iadd A hx rfl hd rfl q) K
theorem k_isub (A : At T m c below) (hx : p.tables.exec = Jvm.exec) {x y : Int32} (hd : decode c.code pc = .ok (.isub, 1)) (hp : pc + 1 = pc')
    (K : Done p e below G (T.setTop (mkF m pc' Ls (.int (x - y) :: st)))) : Done p e below G (T.setTop (mkF m pc Ls (.int y :: .int x :: st))) := by
  subst hp; exact Done.go (fun t q => XS.isub A hx rfl hd rfl q) K
theorem k_imul (A : At T m c below) (hx : p.tables.exec = Jvm.exec) {x y : Int32} (hd : decode c.code pc = .ok (.imul, 1)) (hp : pc + 1 = pc')
    (K : Done p e below G (T.setTop (mkF m pc' Ls (.int (x * y) :: st)))) : Done p e below G (T.setTop (mkF m pc Ls (.int y :: .int x :: st))) := by
  subst hp; exact Done.go (fun t q => XS.imul A hx rfl hd rfl q) K
theorem k_iand (A : At T m c below) (hx : p.tables.exec = Jvm.exec) {x y : Int32} (hd : decode c.code pc = .ok (.iand, 1)) (hp : pc + 1 = pc')
    (K : Done p e below G (T.setTop (mkF m pc' Ls (.int (x &&& y) :: st)))) : Done p e below G (T.setTop (mkF m pc Ls (.int y :: .int x :: st))) := by
  subst hp; exact Done.go (fun t q => XS.iand A hx rfl hd rfl q) K
theorem k_ior (A : At T m c below) (hx : p.tables.exec = Jvm.exec) {x y : Int32} (hd : decode c.code pc = .ok (.ior, 1)) (hp : pc + 1 = pc')
    (K : Done p e below G (T.setTop (mkF m pc' Ls (.int (x ||| y) :: st)))) : Done p e below G (T.setTop (mkF m pc Ls (.int y :: .int x :: st))) := by
  subst hp; exact Done.go (fun t q => XS.ior A hx rfl hd rfl q) K
theorem k_ixor (A : At T m c below) (hx : p.tables.exec = Jvm.exec) {x y : Int32} (hd : decode c.code pc = .ok (.ixor, 1)) (hp : pc + 1 = pc')
    (K : Done p e below G (T.setTop (mkF m pc' Ls (.int (x ^^^ y) :: st)))) : Done p e below G (T.setTop (mkF m pc Ls (.int y :: .int x :: st))) := by
  subst hp; exact Done.go (fun t q => XS.ixor A hx rfl hd rfl q) K
theorem k_ishl (A : At T m c below) (hx : p.tables.exec = Jvm.exec) {x y : Int32} (hd : decode c.code pc = .ok (.ishl, 1)) (hp : pc + 1 = pc')
    (K : Done p e below G (T.setTop (mkF m pc' Ls (.int (x <<< (y &&& 31)) :: st)))) : Done p e below G (T.setTop (mkF m pc Ls (.int y :: .int x :: st))) := by
  subst hp; exact Done.go (fun t q => XS.ishl A hx rfl hd rfl q) K
theorem k_ishr (A : At T m c below) (hx : p.tables.exec = Jvm.exec) {x y : Int32} (hd : decode c.code pc = .ok (.ishr, 1)) (hp : pc + 1 = pc')
    (K : Done p e below G (T.setTop (mkF m pc' Ls (.int (x >>> (y &&& 31)) :: st)))) : Done p e below G (T.setTop (mkF m pc Ls (.int y :: .int x :: st))) := by
  subst hp; exact Done.go (fun t q => XS.ishr A hx rfl hd rfl q) K
theorem k_iushr (A : At T m c below) (hx : p.tables.exec = Jvm.exec) {x y : Int32} (hd : decode c.code pc = .ok (.iushr, 1)) (hp : pc + 1 = pc')
    (K : Done p e below G (T.setTop (mkF m pc' Ls (.int ((x.toUInt32 >>> (y &&& 31).toUInt32).toInt32) :: st)))) : Done p e below G (T.setTop (mkF m pc Ls (.int y :: .int x :: st))) := by
  subst hp; exact Done.go (fun t q => XS.iushr A hx rfl hd rfl q) K
theorem k_ladd (A : At T m c below) (hx : p.tables.exec = Jvm.exec) {x y : Int64} (hd : decode c.code pc = .ok (.ladd, 1)) (hp : pc + 1 = pc')
    (K : Done p e below G (T.setTop (mkF m pc' Ls (.long (x + y) :: st)))) : Done p e below G (T.setTop (mkF m pc Ls (.long y :: .long x :: st))) := by
  subst hp; exact Done.go (fun t q => XS.ladd A hx rfl hd rfl q) K
theorem k_lsub (A : At T m c below) (hx : p.tables.exec = Jvm.exec) {x y : Int64} (hd : decode c.code pc = .ok (.lsub, 1)) (hp : pc + 1 = pc')
    (K : Done p e below G (T.setTop (mkF m pc' Ls (.long (x - y) :: st)))) : Done p e below G (T.setTop (mkF m pc Ls (.long y :: .long x :: st))) := by
  subst hp; exact Done.go (fun t q => XS.lsub A hx rfl hd rfl q) K
theorem k_lmul (A : At T m c below) (hx : p.tables.exec = Jvm.exec) {x y : Int64} (hd : decode c.code pc = .ok (.lmul, 1)) (hp : pc + 1 = pc')
    (K : Done p e below G (T.setTop (mkF m pc' Ls (.long (x * y) :: st)))) : Done p e below G (T.setTop (mkF m pc Ls (.long y :: .long x :: st))) := by
  subst hp; exact Done.go (fun t q => XS.lmul A hx rfl hd rfl q) K
theorem k_land (A : At T m c below) (hx : p.tables.exec = Jvm.exec) {x y : Int64} (hd : decode c.code pc = .ok (.land, 1)) (hp : pc + 1 = pc')
    (K : Done p e below G (T.setTop (mkF m pc' Ls (.long (x &&& y) :: st)))) : Done p e below G (T.setTop (mkF m pc Ls (.long y :: .long x :: st))) := by
  subst hp; exact Done.go (fun t q => XS.land A hx rfl hd rfl q) K
theorem k_lor (A : At T m c below) (hx : p.tables.exec = Jvm.exec) {x y : Int64} (hd : decode c.code pc = .ok (.lor, 1)) (hp : pc + 1 = pc')
    (K : Done p e below G (T.setTop (mkF m pc' Ls (.long (x ||| y) :: st)))) : Done p e below G (T.setTop (mkF m pc Ls (.long y :: .long x :: st))) := by
  subst hp; exact Done.go (fun t q => XS.lor A hx rfl hd rfl q) K
theorem k_lxor (A : At T m c below) (hx : p.tables.exec = Jvm.exec) {x y : Int64} (hd : decode c.code pc = .ok (.lxor, 1)) (hp : pc + 1 = pc')
    (K : Done p e below G (T.setTop (mkF m pc' Ls (.long (x ^^^ y) :: st)))) : Done p e below G (T.setTop (mkF m pc Ls (.long y :: .long x :: st))) := by
  subst hp; exact Done.go (fun t q => XS.lxor A hx rfl hd rfl q) K
theorem k_lshl (A : At T m c below) (hx : p.tables.exec = Jvm.exec) {x : Int64} {y : Int32} (hd : decode c.code pc = .ok (.lshl, 1)) (hp : pc + 1 = pc')
    (K : Done p e below G (T.setTop (mkF m pc' Ls (.long (x <<< (y &&& 0x3f).toInt64) :: st)))) : Done p e below G (T.setTop (mkF m pc Ls (.int y :: .long x :: st))) := by
  subst hp; exact Done.go (fun t q => XS.lshl A hx rfl hd rfl q) K
theorem k_lshr (A : At T m c below) (hx : p.tables.exec = Jvm.exec) {x : Int64} {y : Int32} (hd : decode c.code pc = .ok (.lshr, 1)) (hp : pc + 1 = pc')
    (K : Done p e below G (T.setTop (mkF m pc' Ls (.long (x >>> (y &&& 0x3f).toInt64) :: st)))) : Done p e below G (T.setTop (mkF m pc Ls (.int y :: .long x :: st))) := by
  subst hp; exact Done.go (fun t q => XS.lshr A hx rfl hd rfl q) K
theorem k_lushr (A : At T m c below) (hx : p.tables.exec = Jvm.exec) {x : Int64} {y : Int32} (hd : decode c.code pc = .ok (.lushr, 1)) (hp : pc + 1 = pc')
    (K : Done p e below G (T.setTop (mkF m pc' Ls (.long ((x.toUInt64 >>> (y &&& 0x3f).toInt64.toUInt64).toInt64) :: st)))) : Done p e below G (T.setTop (mkF m pc Ls (.int y :: .long x :: st))) := by
  subst hp; exact Done.go (fun t q => XS.lushr A hx rfl hd rfl q) K
theorem k_idiv (A : At T m c below) (hx : p.tables.exec = Jvm.exec) {x y : Int32} (hd : decode c.code pc = .ok (.idiv, 1)) (hy : y ≠ 0) (hp : pc + 1 = pc')
    (K : Done p e below G (T.setTop (mkF m pc' Ls (.int (x / y) :: st)))) : Done p e below G (T.setTop (mkF m pc Ls (.int y :: .int x :: st))) := by
  subst hp; exact Done.go (fun t q => XS.idiv A hx rfl hd rfl hy q) K
theorem k_ldiv (A : At T m c below) (hx : p.tables.exec = Jvm.exec) {x y : Int64} (hd : decode c.code pc = .ok (.ldiv, 1)) (hy : y ≠ 0) (hp : pc + 1 = pc')
    (K : Done p e below G (T.setTop (mkF m pc' Ls (.long (x / y) :: st)))) : Done p e below G (T.setTop (mkF m pc Ls (.long y :: .long x :: st))) := by
  subst hp; exact Done.go (fun t q => XS.ldiv A hx rfl hd rfl hy q) K
theorem k_irem (A : At T m c below) (hx : p.tables.exec = Jvm.exec) {x y : Int32} (hd : decode c.code pc = .ok (.irem, 1)) (hy : y ≠ 0) (hp : pc + 1 = pc')
    (K : Done p e below G (T.setTop (mkF m pc' Ls (.int (x % y) :: st)))) : Done p e below G (T.setTop (mkF m pc Ls (.int y :: .int x :: st))) := by
  subst hp; have q0 : x - x / y * y = x % y := irem_eq_mod x y
  rw [← q0] at K
  exact Done.go (fun t q => XS.irem A hx rfl hd rfl hy q) K
theorem k_lrem (A : At T m c below) (hx : p.tables.exec = Jvm.exec) {x y : Int64} (hd : decode c.code pc = .ok (.lrem, 1)) (hy : y ≠ 0) (hp : pc + 1 = pc')
    (K : Done p e below G (T.setTop (mkF m pc' Ls (.long (x % y) :: st)))) : Done p e below G (T.setTop (mkF m pc Ls (.long y :: .long x :: st))) := by
  subst hp
  rw [← lrem_mod x y] at K
  exact Done.go (fun t q => XS.lrem A hx rfl hd rfl hy q) K
theorem k_lcmp (A : At T m c below) (hx : p.tables.exec = Jvm.exec) {x y : Int64} (hd : decode c.code pc = .ok (.lcmp, 1)) (hp : pc + 1 = pc')
    (K : Done p e below G (T.setTop (mkF m pc' Ls (.int (lcmpW x y) :: st)))) : Done p e below G (T.setTop (mkF m pc Ls (.long y :: .long x :: st))) := by
  subst hp; exact Done.go (fun t q => XS.lcmp A hx rfl hd rfl q) K
theorem k_ineg (A : At T m c below) (hx : p.tables.exec = Jvm.exec) {x : Int32} (hd : decode c.code pc = .ok (.ineg, 1)) (hp : pc + 1 = pc')
    (K : Done p e below G (T.setTop (mkF m pc' Ls (.int (-x) :: st)))) : Done p e below G (T.setTop (mkF m pc Ls (.int x :: st))) := by
  subst hp; exact Done.go (fun t q => XS.ineg A hx rfl hd rfl q) K
theorem k_lneg (A : At T m c below) (hx : p.tables.exec = Jvm.exec) {x : Int64} (hd : decode c.code pc = .ok (.lneg, 1)) (hp : pc + 1 = pc')
    (K : Done p e below G (T.setTop (mkF m pc' Ls (.long (-x) :: st)))) : Done p e below G (T.setTop (mkF m pc Ls (.long x :: st))) := by
  subst hp; exact Done.go (fun t q => XS.lneg A hx rfl hd rfl q) K
theorem k_i2l (A : At T m c below) (hx : p.tables.exec = Jvm.exec) {x : Int32} (hd : decode c.code pc = .ok (.i2l, 1)) (hp : pc + 1 = pc')
    (K : Done p e below G (T.setTop (mkF m pc' Ls (.long (x.toInt64) :: st)))) : Done p e below G (T.setTop (mkF m pc Ls (.int x :: st))) := by
  subst hp; exact Done.go (fun t q => XS.i2l A hx rfl hd rfl q) K
theorem k_l2i (A : At T m c below) (hx : p.tables.exec = Jvm.exec) {x : Int64} (hd : decode c.code pc = .ok (.l2i, 1)) (hp : pc + 1 = pc')
    (K : Done p e below G (T.setTop (mkF m pc' Ls (.int (x.toInt32) :: st)))) : Done p e below G (T.setTop (mkF m pc Ls (.long x :: st))) := by
  subst hp; exact Done.go (fun t q => XS.l2i A hx rfl hd rfl q) K
theorem k_i2b (A : At T m c below) (hx : p.tables.exec = Jvm.exec) {x : Int32} (hd : decode c.code pc = .ok (.i2b, 1)) (hp : pc + 1 = pc')
    (K : Done p e below G (T.setTop (mkF m pc' Ls (.int (x.toInt8.toInt32) :: st)))) : Done p e below G (T.setTop (mkF m pc Ls (.int x :: st))) := by
  subst hp; exact Done.go (fun t q => XS.i2b A hx rfl hd rfl q) K
theorem k_i2c (A : At T m c below) (hx : p.tables.exec = Jvm.exec) {x : Int32} (hd : decode c.code pc = .ok (.i2c, 1)) (hp : pc + 1 = pc')
    (K : Done p e below G (T.setTop (mkF m pc' Ls (.int (x.toUInt32.toUInt16.toUInt32.toInt32) :: st)))) : Done p e below G (T.setTop (mkF m pc Ls (.int x :: st))) := by
  subst hp; exact Done.go (fun t q => XS.i2c A hx rfl hd rfl q) K
theorem k_i2s (A : At T m c below) (hx : p.tables.exec = Jvm.exec) {x : Int32} (hd : decode c.code pc = .ok (.i2s, 1)) (hp : pc + 1 = pc')
    (K : Done p e below G (T.setTop (mkF m pc' Ls (.int (x.toInt16.toInt32) :: st)))) : Done p e below G (T.setTop (mkF m pc Ls (.int x :: st))) := by
  subst hp; exact Done.go (fun t q => XS.i2s A hx rfl hd rfl q) K
theorem k_iinc (A : At T m c below) (hx : p.tables.exec = Jvm.exec) {i : Nat} {cst : Int} {v : Int32} (hd : decode c.code pc = .ok (.iinc i cst, 3)) (hl : Ls[i]? = some (.val (.int v))) (hs : storeLocals Ls i (.int (v + Int32.ofInt cst)) = some Ls') (hp : pc + 3 = pc')
    (K : Done p e below G (T.setTop (mkF m pc' Ls' st))) : Done p e below G (T.setTop (mkF m pc Ls st)) := by
  subst hp; exact Done.go (fun t q => XS.iinc A hx rfl hd hl hs q) K
theorem k_goto (A : At T m c below) (hx : p.tables.exec = Jvm.exec) {o : Int} (hd : decode c.code pc = .ok (.goto o, 3)) (hp : (pc : Int) + o = (pc' : Int))
    (K : Done p e below G (T.setTop (mkF m pc' Ls st))) : Done p e below G (T.setTop (mkF m pc Ls st)) :=
  Done.go (fun t q => XS.goto A hx rfl (pc0 := pc) (pc' := pc') rfl hd (by omega) (by omega) q) K
theorem k_ifnullYes (A : At T m c below) (hx : p.tables.exec = Jvm.exec) {o : Int} (hd : decode c.code pc = .ok (.ifnull o, 3)) (hp : (pc : Int) + o = (pc' : Int))
    (K : Done p e below G (T.setTop (mkF m pc' Ls st))) : Done p e below G (T.setTop (mkF m pc Ls (.null :: st))) :=
  Done.go (fun t q => XS.ifnullYes A hx rfl (pc0 := pc) (pc' := pc') rfl hd rfl (by omega) (by omega) q) K
theorem k_ifnonnullYes (A : At T m c below) (hx : p.tables.exec = Jvm.exec) {o : Int} {b : Addr} (hd : decode c.code pc = .ok (.ifnonnull o, 3)) (hp : (pc : Int) + o = (pc' : Int))
    (K : Done p e below G (T.setTop (mkF m pc' Ls st))) : Done p e below G (T.setTop (mkF m pc Ls (.ref b :: st))) :=
  Done.go (fun t q => XS.ifnonnullYes A hx rfl (pc0 := pc) (pc' := pc') rfl hd rfl (by omega) (by omega) q) K
theorem k_ifnullNo (A : At T m c below) (hx : p.tables.exec = Jvm.exec) {o : Int} {b : Addr} (hd : decode c.code pc = .ok (.ifnull o, 3)) (hp : pc + 3 = pc')
    (K : Done p e below G (T.setTop (mkF m pc' Ls st))) : Done p e below G (T.setTop (mkF m pc Ls (.ref b :: st))) := by
  subst hp; exact Done.go (fun t q => XS.ifnullNo A hx rfl hd rfl q) K
theorem k_ifnonnullNo (A : At T m c below) (hx : p.tables.exec = Jvm.exec) {o : Int} (hd : decode c.code pc = .ok (.ifnonnull o, 3)) (hp : pc + 3 = pc')
    (K : Done p e below G (T.setTop (mkF m pc' Ls st))) : Done p e below G (T.setTop (mkF m pc Ls (.null :: st))) := by
  subst hp; exact Done.go (fun t q => XS.ifnonnullNo A hx rfl hd rfl q) K
theorem k_icmp_lt (A : At T m c below) (hx : p.tables.exec = Jvm.exec) {x y : Int32} {o : Int} {pcY : Nat} (hd : decode c.code pc = .ok (.if_icmp .lt o, 3)) (hY : (pc : Int) + o = (pcY : Int)) (hp : pc + 3 = pc')
    (KY : x < y → Done p e below G (T.setTop (mkF m pcY Ls st))) (KN : ¬ x < y → Done p e below G (T.setTop (mkF m pc' Ls st))) : Done p e below G (T.setTop (mkF m pc Ls (.int y :: .int x :: st))) := by
  subst hp
  by_cases hc : x < y
  · exact Done.go (fun t q => XS.icmpYes A hx rfl (pc0 := pc) (pc' := pcY) rfl hd rfl (tlt hc).1 (by omega) (by omega) q) (KY hc)
  · exact Done.go (fun t q => XS.icmpNo A hx rfl hd rfl (flt hc).1 q) (KN hc)
theorem k_if_lt (A : At T m c below) (hx : p.tables.exec = Jvm.exec) {x : Int32} {o : Int} {pcY : Nat} (hd : decode c.code pc = .ok (.ifCond .lt o, 3)) (hY : (pc : Int) + o = (pcY : Int)) (hp : pc + 3 = pc')
    (KY : x < 0 → Done p e below G (T.setTop (mkF m pcY Ls st))) (KN : ¬ x < 0 → Done p e below G (T.setTop (mkF m pc' Ls st))) : Done p e below G (T.setTop (mkF m pc Ls (.int x :: st))) := by
  subst hp
  by_cases hc : x < 0
  · exact Done.go (fun t q => XS.ifYes A hx rfl (pc0 := pc) (pc' := pcY) rfl hd rfl ((if0 _ _).trans (tlt hc).1) (by omega) (by omega) q) (KY hc)
  · exact Done.go (fun t q => XS.ifNo A hx rfl hd rfl ((if0 _ _).trans (flt hc).1) q) (KN hc)
theorem k_icmp_ge (A : At T m c below) (hx : p.tables.exec = Jvm.exec) {x y : Int32} {o : Int} {pcY : Nat} (hd : decode c.code pc = .ok (.if_icmp .ge o, 3)) (hY : (pc : Int) + o = (pcY : Int)) (hp : pc + 3 = pc')
    (KY : ¬ x < y → Done p e below G (T.setTop (mkF m pcY Ls st))) (KN : x < y → Done p e below G (T.setTop (mkF m pc' Ls st))) : Done p e below G (T.setTop (mkF m pc Ls (.int y :: .int x :: st))) := by
  subst hp
  by_cases hc : x < y
  · exact Done.go (fun t q => XS.icmpNo A hx rfl hd rfl (tlt hc).2.1 q) (KN hc)
  · exact Done.go (fun t q => XS.icmpYes A hx rfl (pc0 := pc) (pc' := pcY) rfl hd rfl (flt hc).2.1 (by omega) (by omega) q) (KY hc)
theorem k_if_ge (A : At T m c below) (hx : p.tables.exec = Jvm.exec) {x : Int32} {o : Int} {pcY : Nat} (hd : decode c.code pc = .ok (.ifCond .ge o, 3)) (hY : (pc : Int) + o = (pcY : Int)) (hp : pc + 3 = pc')
    (KY : ¬ x < 0 → Done p e below G (T.setTop (mkF m pcY Ls st))) (KN : x < 0 → Done p e below G (T.setTop (mkF m pc' Ls st))) : Done p e below G (T.setTop (mkF m pc Ls (.int x :: st))) := by
  subst hp
  by_cases hc : x < 0
  · exact Done.go (fun t q => XS.ifNo A hx rfl hd rfl ((if0 _ _).trans (tlt hc).2.1) q) (KN hc)
  · exact Done.go (fun t q => XS.ifYes A hx rfl (pc0 := pc) (pc' := pcY) rfl hd rfl ((if0 _ _).trans (flt hc).2.1) (by omega) (by omega) q) (KY hc)
theorem k_icmp_gt (A : At T m c below) (hx : p.tables.exec = Jvm.exec) {x y : Int32} {o : Int} {pcY : Nat} (hd : decode c.code pc = .ok (.if_icmp .gt o, 3)) (hY : (pc : Int) + o = (pcY : Int)) (hp : pc + 3 = pc')
    (KY : y < x → Done p e below G (T.setTop (mkF m pcY Ls st))) (KN : ¬ y < x → Done p e below G (T.setTop (mkF m pc' Ls st))) : Done p e below G (T.setTop (mkF m pc Ls (.int y :: .int x :: st))) := by
  subst hp
  by_cases hc : y < x
  · exact Done.go (fun t q => XS.icmpYes A hx rfl (pc0 := pc) (pc' := pcY) rfl hd rfl (tlt hc).2.2.1 (by omega) (by omega) q) (KY hc)
  · exact Done.go (fun t q => XS.icmpNo A hx rfl hd rfl (flt hc).2.2.1 q) (KN hc)
theorem k_if_gt (A : At T m c below) (hx : p.tables.exec = Jvm.exec) {x : Int32} {o : Int} {pcY : Nat} (hd : decode c.code pc = .ok (.ifCond .gt o, 3)) (hY : (pc : Int) + o = (pcY : Int)) (hp : pc + 3 = pc')
    (KY : 0 < x → Done p e below G (T.setTop (mkF m pcY Ls st))) (KN : ¬ 0 < x → Done p e below G (T.setTop (mkF m pc' Ls st))) : Done p e below G (T.setTop (mkF m pc Ls (.int x :: st))) := by
  subst hp
  by_cases hc : 0 < x
  · exact Done.go (fun t q => XS.ifYes A hx rfl (pc0 := pc) (pc' := pcY) rfl hd rfl ((if0 _ _).trans (tlt hc).2.2.1) (by omega) (by omega) q) (KY hc)
  · exact Done.go (fun t q => XS.ifNo A hx rfl hd rfl ((if0 _ _).trans (flt hc).2.2.1) q) (KN hc)
theorem k_icmp_le (A : At T m c below) (hx : p.tables.exec = Jvm.exec) {x y : Int32} {o : Int} {pcY : Nat} (hd : decode c.code pc = .ok (.if_icmp .le o, 3)) (hY : (pc : Int) + o = (pcY : Int)) (hp : pc + 3 = pc')
    (KY : ¬ y < x → Done p e below G (T.setTop (mkF m pcY Ls st))) (KN : y < x → Done p e below G (T.setTop (mkF m pc' Ls st))) : Done p e below G (T.setTop (mkF m pc Ls (.int y :: .int x :: st))) := by
  subst hp
  by_cases hc : y < x
  · exact Done.go (fun t q => XS.icmpNo A hx rfl hd rfl (tlt hc).2.2.2 q) (KN hc)
  · exact Done.go (fun t q => XS.icmpYes A hx rfl (pc0 := pc) (pc' := pcY) rfl hd rfl (flt hc).2.2.2 (by omega) (by omega) q) (KY hc)
theorem k_if_le (A : At T m c below) (hx : p.tables.exec = Jvm.exec) {x : Int32} {o : Int} {pcY : Nat} (hd : decode c.code pc = .ok (.ifCond .le o, 3)) (hY : (pc : Int) + o = (pcY : Int)) (hp : pc + 3 = pc')
    (KY : ¬ 0 < x → Done p e below G (T.setTop (mkF m pcY Ls st))) (KN : 0 < x → Done p e below G (T.setTop (mkF m pc' Ls st))) : Done p e below G (T.setTop (mkF m pc Ls (.int x :: st))) := by
  subst hp
  by_cases hc : 0 < x
  · exact Done.go (fun t q => XS.ifNo A hx rfl hd rfl ((if0 _ _).trans (tlt hc).2.2.2) q) (KN hc)
  · exact Done.go (fun t q => XS.ifYes A hx rfl (pc0 := pc) (pc' := pcY) rfl hd rfl ((if0 _ _).trans (flt hc).2.2.2) (by omega) (by omega) q) (KY hc)
theorem k_icmp_eq (A : At T m c below) (hx : p.tables.exec = Jvm.exec) {x y : Int32} {o : Int} {pcY : Nat} (hd : decode c.code pc = .ok (.if_icmp .eq o, 3)) (hY : (pc : Int) + o = (pcY : Int)) (hp : pc + 3 = pc')
    (KY : x = y → Done p e below G (T.setTop (mkF m pcY Ls st))) (KN : ¬ x = y → Done p e below G (T.setTop (mkF m pc' Ls st))) : Done p e below G (T.setTop (mkF m pc Ls (.int y :: .int x :: st))) := by
  subst hp
  by_cases hc : x = y
  · exact Done.go (fun t q => XS.icmpYes A hx rfl (pc0 := pc) (pc' := pcY) rfl hd rfl (teq hc).1 (by omega) (by omega) q) (KY hc)
  · exact Done.go (fun t q => XS.icmpNo A hx rfl hd rfl (feq hc).1 q) (KN hc)
theorem k_if_eq (A : At T m c below) (hx : p.tables.exec = Jvm.exec) {x : Int32} {o : Int} {pcY : Nat} (hd : decode c.code pc = .ok (.ifCond .eq o, 3)) (hY : (pc : Int) + o = (pcY : Int)) (hp : pc + 3 = pc')
    (KY : x = 0 → Done p e below G (T.setTop (mkF m pcY Ls st))) (KN : ¬ x = 0 → Done p e below G (T.setTop (mkF m pc' Ls st))) : Done p e below G (T.setTop (mkF m pc Ls (.int x :: st))) := by
  subst hp
  by_cases hc : x = 0
  · exact Done.go (fun t q => XS.ifYes A hx rfl (pc0 := pc) (pc' := pcY) rfl hd rfl ((if0 _ _).trans (teq hc).1) (by omega) (by omega) q) (KY hc)
  · exact Done.go (fun t q => XS.ifNo A hx rfl hd rfl ((if0 _ _).trans (feq hc).1) q) (KN hc)
theorem k_icmp_ne (A : At T m c below) (hx : p.tables.exec = Jvm.exec) {x y : Int32} {o : Int} {pcY : Nat} (hd : decode c.code pc = .ok (.if_icmp .ne o, 3)) (hY : (pc : Int) + o = (pcY : Int)) (hp : pc + 3 = pc')
    (KY : ¬ x = y → Done p e below G (T.setTop (mkF m pcY Ls st))) (KN : x = y → Done p e below G (T.setTop (mkF m pc' Ls st))) : Done p e below G (T.setTop (mkF m pc Ls (.int y :: .int x :: st))) := by
  subst hp
  by_cases hc : x = y
  · exact Done.go (fun t q => XS.icmpNo A hx rfl hd rfl (teq hc).2 q) (KN hc)
  · exact Done.go (fun t q => XS.icmpYes A hx rfl (pc0 := pc) (pc' := pcY) rfl hd rfl (feq hc).2 (by omega) (by omega) q) (KY hc)
theorem k_if_ne (A : At T m c below) (hx : p.tables.exec = Jvm.exec) {x : Int32} {o : Int} {pcY : Nat} (hd : decode c.code pc = .ok (.ifCond .ne o, 3)) (hY : (pc : Int) + o = (pcY : Int)) (hp : pc + 3 = pc')
    (KY : ¬ x = 0 → Done p e below G (T.setTop (mkF m pcY Ls st))) (KN : x = 0 → Done p e below G (T.setTop (mkF m pc' Ls st))) : Done p e below G (T.setTop (mkF m pc Ls (.int x :: st))) := by
  subst hp
  by_cases hc : x = 0
  · exact Done.go (fun t q => XS.ifNo A hx rfl hd rfl ((if0 _ _).trans (teq hc).2) q) (KN hc)
  · exact Done.go (fun t q => XS.ifYes A hx rfl (pc0 := pc) (pc' := pcY) rfl hd rfl ((if0 _ _).trans (feq hc).2) (by omega) (by omega) q) (KY hc)
theorem k_lcmp_lt (A : At T m c below) (hx : p.tables.exec = Jvm.exec) {x y : Int64} {o : Int} {pcY : Nat} (hd : decode c.code pc = .ok (.lcmp, 1)) (hd2 : decode c.code (pc + 1) = .ok (.ifCond .lt o, 3)) (hY : ((pc + 1 : Nat) : Int) + o = (pcY : Int)) (hp : pc + 1 + 3 = pc')
    (KY : x < y → Done p e below G (T.setTop (mkF m pcY Ls st))) (KN : ¬ x < y → Done p e below G (T.setTop (mkF m pc' Ls st))) : Done p e below G (T.setTop (mkF m pc Ls (.long y :: .long x :: st))) := by
  subst hp
  by_cases hc : x < y
  · exact Done.go (fun t q => XS.lcmp A hx rfl hd rfl (XS.ifYes A hx rfl (pc0 := pc + 1) (pc' := pcY) rfl hd2 rfl ((if0 _ _).trans (tlt ((lw_lt x y).mpr hc)).1) (by omega) (by omega) q)) (KY hc)
  · exact Done.go (fun t q => XS.lcmp A hx rfl hd rfl (XS.ifNo A hx rfl hd2 rfl ((if0 _ _).trans (flt (fun z => hc ((lw_lt x y).mp z))).1) q)) (KN hc)
theorem k_lcmp_ge (A : At T m c below) (hx : p.tables.exec = Jvm.exec) {x y : Int64} {o : Int} {pcY : Nat} (hd : decode c.code pc = .ok (.lcmp, 1)) (hd2 : decode c.code (pc + 1) = .ok (.ifCond .ge o, 3)) (hY : ((pc + 1 : Nat) : Int) + o = (pcY : Int)) (hp : pc + 1 + 3 = pc')
    (KY : ¬ x < y → Done p e below G (T.setTop (mkF m pcY Ls st))) (KN : x < y → Done p e below G (T.setTop (mkF m pc' Ls st))) : Done p e below G (T.setTop (mkF m pc Ls (.long y :: .long x :: st))) := by
  subst hp
  by_cases hc : x < y
  · exact Done.go (fun t q => XS.lcmp A hx rfl hd rfl (XS.ifNo A hx rfl hd2 rfl ((if0 _ _).trans (tlt ((lw_lt x y).mpr hc)).2.1) q)) (KN hc)
  · exact Done.go (fun t q => XS.lcmp A hx rfl hd rfl (XS.ifYes A hx rfl (pc0 := pc + 1) (pc' := pcY) rfl hd2 rfl ((if0 _ _).trans (flt (fun z => hc ((lw_lt x y).mp z))).2.1) (by omega) (by omega) q)) (KY hc)
theorem k_lcmp_gt (A : At T m c below) (hx : p.tables.exec = Jvm.exec) {x y : Int64} {o : Int} {pcY : Nat} (hd : decode c.code pc = .ok (.lcmp, 1)) (hd2 : decode c.code (pc + 1) = .ok (.ifCond .gt o, 3)) (hY : ((pc + 1 : Nat) : Int) + o = (pcY : Int)) (hp : pc + 1 + 3 = pc')
    (KY : y < x → Done p e below G (T.setTop (mkF m pcY Ls st))) (KN : ¬ y < x → Done p e below G (T.setTop (mkF m pc' Ls st))) : Done p e below G (T.setTop (mkF m pc Ls (.long y :: .long x :: st))) := by
  subst hp
  by_cases hc : y < x
  · exact Done.go (fun t q => XS.lcmp A hx rfl hd rfl (XS.ifYes A hx rfl (pc0 := pc + 1) (pc' := pcY) rfl hd2 rfl ((if0 _ _).trans (tlt ((lw_gt x y).mpr hc)).2.2.1) (by omega) (by omega) q)) (KY hc)
  · exact Done.go (fun t q => XS.lcmp A hx rfl hd rfl (XS.ifNo A hx rfl hd2 rfl ((if0 _ _).trans (flt (fun z => hc ((lw_gt x y).mp z))).2.2.1) q)) (KN hc)
theorem k_lcmp_le (A : At T m c below) (hx : p.tables.exec = Jvm.exec) {x y : Int64} {o : Int} {pcY : Nat} (hd : decode c.code pc = .ok (.lcmp, 1)) (hd2 : decode c.code (pc + 1) = .ok (.ifCond .le o, 3)) (hY : ((pc + 1 : Nat) : Int) + o = (pcY : Int)) (hp : pc + 1 + 3 = pc')
    (KY : ¬ y < x → Done p e below G (T.setTop (mkF m pcY Ls st))) (KN : y < x → Done p e below G (T.setTop (mkF m pc' Ls st))) : Done p e below G (T.setTop (mkF m pc Ls (.long y :: .long x :: st))) := by
  subst hp
  by_cases hc : y < x
  · exact Done.go (fun t q => XS.lcmp A hx rfl hd rfl (XS.ifNo A hx rfl hd2 rfl ((if0 _ _).trans (tlt ((lw_gt x y).mpr hc)).2.2.2) q)) (KN hc)
  · exact Done.go (fun t q => XS.lcmp A hx rfl hd rfl (XS.ifYes A hx rfl (pc0 := pc + 1) (pc' := pcY) rfl hd2 rfl ((if0 _ _).trans (flt (fun z => hc ((lw_gt x y).mp z))).2.2.2) (by omega) (by omega) q)) (KY hc)
theorem k_lcmp_eq (A : At T m c below) (hx : p.tables.exec = Jvm.exec) {x y : Int64} {o : Int} {pcY : Nat} (hd : decode c.code pc = .ok (.lcmp, 1)) (hd2 : decode c.code (pc + 1) = .ok (.ifCond .eq o, 3)) (hY : ((pc + 1 : Nat) : Int) + o = (pcY : Int)) (hp : pc + 1 + 3 = pc')
    (KY : x = y → Done p e below G (T.setTop (mkF m pcY Ls st))) (KN : ¬ x = y → Done p e below G (T.setTop (mkF m pc' Ls st))) : Done p e below G (T.setTop (mkF m pc Ls (.long y :: .long x :: st))) := by
  subst hp
  by_cases hc : x = y
  · exact Done.go (fun t q => XS.lcmp A hx rfl hd rfl (XS.ifYes A hx rfl (pc0 := pc + 1) (pc' := pcY) rfl hd2 rfl ((if0 _ _).trans (teq ((lw_eq x y).mpr hc)).1) (by omega) (by omega) q)) (KY hc)
  · exact Done.go (fun t q => XS.lcmp A hx rfl hd rfl (XS.ifNo A hx rfl hd2 rfl ((if0 _ _).trans (feq (fun z => hc ((lw_eq x y).mp z))).1) q)) (KN hc)
theorem k_lcmp_ne (A : At T m c below) (hx : p.tables.exec = Jvm.exec) {x y : Int64} {o : Int} {pcY : Nat} (hd : decode c.code pc = .ok (.lcmp, 1)) (hd2 : decode c.code (pc + 1) = .ok (.ifCond .ne o, 3)) (hY : ((pc + 1 : Nat) : Int) + o = (pcY : Int)) (hp : pc + 1 + 3 = pc')
    (KY : ¬ x = y → Done p e below G (T.setTop (mkF m pcY Ls st))) (KN : x = y → Done p e below G (T.setTop (mkF m pc' Ls st))) : Done p e below G (T.setTop (mkF m pc Ls (.long y :: .long x :: st))) := by
  subst hp
  by_cases hc : x = y
  · exact Done.go (fun t q => XS.lcmp A hx rfl hd rfl (XS.ifNo A hx rfl hd2 rfl ((if0 _ _).trans (teq ((lw_eq x y).mpr hc)).2) q)) (KN hc)
  · exact Done.go (fun t q => XS.lcmp A hx rfl hd rfl (XS.ifYes A hx rfl (pc0 := pc + 1) (pc' := pcY) rfl hd2 rfl ((if0 _ _).trans (feq (fun z => hc ((lw_eq x y).mp z))).2) (by omega) (by omega) q)) (KY hc)
/-! ### a store into a slot of which only its one word is known -/
theorem store_eq (L : Array Slot) (i : Nat) (v : Value) : storeLocals L i v = (L[i]?).bind fun o => match o with
    | .second => (setAt L (i - 1) .unset).bind fun l => storeSelf l i v
    | .val old => if old.category = 2 then ((setAt L (i + 1) .unset).bind fun l => storeSelf l i v) else storeSelf L i v
    | .unset => storeSelf L i v := rfl
theorem store1 {L L' : Array Slot} {i : Nat} {o : Slot} {v : Value} (h : L[i]? = some o) (H : One o) (hs : storeSelf L i v = some L') : storeLocals L i v = some L' := by
  rw [store_eq, h]
  rcases H with rfl | ⟨w, rfl, q⟩
  · exact hs
  · show (if w.category = 2 then _ else storeSelf L i v) = _
    rw [if_neg (by omega)]; exact hs
/-! ### constants of the pool -/
theorem k_ldcInt (S : St p l e R s m args below meth c n0 T h k n) (hx : p.tables.exec = Jvm.exec) (hZ : Z.Warmed39 s.vm) {own : String} {index : Nat} {v : Int32} (hown : s.vm.findClass own = some m.cls) (w : (Jvm.Cond.constant own index v).before a0 Z = true)
    (hd : decode c.code pc = .ok (.ldc index, 2)) (hp : pc + 2 = pc') (K : Done p e below G (T.setTop (mkF m pc' Ls (.int v :: st)))) : Done p e below G (T.setTop (mkF m pc Ls st)) := by
  subst hp
  obtain ⟨_, X, -, -⟩ := S
  exact Done.go (X.ldcInt hx hown (mvT hZ w) (g := mkF m pc Ls st) rfl hd) K
theorem k_ldcwInt (S : St p l e R s m args below meth c n0 T h k n) (hx : p.tables.exec = Jvm.exec) (hZ : Z.Warmed39 s.vm) {own : String} {index : Nat} {v : Int32} (hown : s.vm.findClass own = some m.cls) (w : (Jvm.Cond.constant own index v).before a0 Z = true)
    (hd : decode c.code pc = .ok (.ldc_w index, 3)) (hp : pc + 3 = pc') (K : Done p e below G (T.setTop (mkF m pc' Ls (.int v :: st)))) : Done p e below G (T.setTop (mkF m pc Ls st)) := by
  subst hp
  obtain ⟨_, X, -, -⟩ := S
  exact Done.go (X.ldcwInt hx hown (mvT hZ w) (g := mkF m pc Ls st) rfl hd) K
theorem k_ldc2Long (S : St p l e R s m args below meth c n0 T h k n) (hx : p.tables.exec = Jvm.exec) (hZ : Z.Warmed39 s.vm) {own : String} {index : Nat} {v : Int64} (hown : s.vm.findClass own = some m.cls) (w : (Jvm.Cond.constantLong own index v).before a0 Z = true)
    (hd : decode c.code pc = .ok (.ldc2_w index, 3)) (hp : pc + 3 = pc') (K : Done p e below G (T.setTop (mkF m pc' Ls (.long v :: st)))) : Done p e below G (T.setTop (mkF m pc Ls st)) := by
  subst hp
  obtain ⟨_, X, -, -⟩ := S
  exact Done.go (X.ldc2Long hx hown (mvT hZ w) (g := mkF m pc Ls st) rfl hd) K
/-! ### returns -/
variable {Q : Option Value → Heap → Prop}
theorem k_ret_val {w : Value} {t : FieldType} {i : Instr} (S : St p l e R s m args below meth c n0 T h k n) (hx : p.tables.exec = Jvm.exec) (hret : meth.sig.returnType = some t) (hlk : meth.locks = false) (hd : decode c.code pc = .ok (i, 1)) (hn' : narrow t w = w)
    (hi : (i = .ireturn ∧ (t = .int ∨ t = .boolean ∨ t = .byte ∨ t = .char ∨ t = .short) ∧ ∃ z, w = .int z) ∨ (i = .lreturn ∧ t = .long ∧ ∃ z, w = .long z) ∨ (i = .dreturn ∧ t = .double ∧ ∃ z, w = .double z) ∨ (i = .freturn ∧ t = .float ∧ ∃ z, w = .float z) ∨ (i = .areturn ∧ t.isReference = true ∧ w.isRef = true))
    (hk : k ≤ R.cells) (hn : n ≤ R.slots) (q : Q (some w) h) : Done p e below (OEnd s R n0 Q) (T.setTop (mkF m pc Ls (w :: st))) := by
  obtain ⟨locs, X, N, eT⟩ := S
  obtain ⟨fs, hr, hrun, hended, hW, hsame⟩ := X.leave (v := some w) (fun h => by rw [hret] at h; cases h) hlk
  refine ⟨_, _, retOut X hx hret hn' hi hd hr, hrun, hended, _, locs, rfl, ⟨?_, N⟩, ⟨_, rfl⟩, hW, hsame.mono hk hn⟩
  show Q _ T.heap
  rw [eT]; exact q
theorem k_ret_int {z : Int32} (S : St p l e R s m args below meth c n0 T h k n) (hx : p.tables.exec = Jvm.exec) (hret : meth.sig.returnType = some .int) (hlk : meth.locks = false) (hd : decode c.code pc = .ok (.ireturn, 1))
    (hk : k ≤ R.cells) (hn : n ≤ R.slots) (q : Q (some (.int z)) h) : Done p e below (OEnd s R n0 Q) (T.setTop (mkF m pc Ls (.int z :: st))) :=
  k_ret_val S hx hret hlk hd rfl (Or.inl ⟨rfl, Or.inl rfl, z, rfl⟩) hk hn q
theorem k_ret_long {z : Int64} (S : St p l e R s m args below meth c n0 T h k n) (hx : p.tables.exec = Jvm.exec) (hret : meth.sig.returnType = some .long) (hlk : meth.locks = false) (hd : decode c.code pc = .ok (.lreturn, 1))
    (hk : k ≤ R.cells) (hn : n ≤ R.slots) (q : Q (some (.long z)) h) : Done p e below (OEnd s R n0 Q) (T.setTop (mkF m pc Ls (.long z :: st))) :=
  k_ret_val S hx hret hlk hd rfl (Or.inr (Or.inl ⟨rfl, rfl, z, rfl⟩)) hk hn q
theorem k_ret_ref {a : Addr} {t : FieldType} (S : St p l e R s m args below meth c n0 T h k n) (hx : p.tables.exec = Jvm.exec) (hret : meth.sig.returnType = some t) (ht : t.isReference = true) (hlk : meth.locks = false) (hd : decode c.code pc = .ok (.areturn, 1))
    (hk : k ≤ R.cells) (hn : n ≤ R.slots) (q : Q (some (.ref a)) h) : Done p e below (OEnd s R n0 Q) (T.setTop (mkF m pc Ls (.ref a :: st))) :=
  k_ret_val S hx hret hlk hd (by cases t <;> first | rfl | (cases ht; done)) (Or.inr (Or.inr (Or.inr (Or.inr ⟨rfl, ht, rfl⟩)))) hk hn q
theorem k_ret_nar {z z' : Int32} {t : FieldType} (S : St p l e R s m args below meth c n0 T h k n) (hx : p.tables.exec = Jvm.exec) (hret : meth.sig.returnType = some t) (ht : t = .boolean ∨ t = .byte ∨ t = .char ∨ t = .short) (hlk : meth.locks = false) (hd : decode c.code pc = .ok (.ireturn, 1)) (hz : nar t z = z')
    (hk : k ≤ R.cells) (hn : n ≤ R.slots) (q : Q (some (.int z')) h) : Done p e below (OEnd s R n0 Q) (T.setTop (mkF m pc Ls (.int z :: st))) := by
  obtain ⟨locs, X, N, eT⟩ := S
  subst hz
  obtain ⟨fs, hr, hrun, hended, hW, hsame⟩ := X.leave (v := some (.int (nar t z))) (fun h => by rw [hret] at h; cases h) hlk
  refine ⟨_, _, retN X hx hret ht hd hr, hrun, hended, _, locs, rfl, ⟨?_, N⟩, ⟨_, rfl⟩, hW, hsame.mono hk hn⟩
  show Q _ T.heap
  rw [eT]; exact q
theorem k_ret_void (S : St p l e R s m args below meth c n0 T h k n) (hx : p.tables.exec = Jvm.exec) (hret : meth.sig.returnType = none) (hlk : meth.locks = false) (hd : decode c.code pc = .ok (.return_, 1))
    (hk : k ≤ R.cells) (hn : n ≤ R.slots) (q : Q none h) : Done p e below (OEnd s R n0 Q) (T.setTop (mkF m pc Ls [])) := by
  obtain ⟨locs, X, N, eT⟩ := S
  obtain ⟨fs, hr, hrun, hended, hW, hsame⟩ := X.leave (v := none) (fun _ => rfl) hlk
  refine ⟨_, _, X.returnOut hx hret hd hr, hrun, hended, _, locs, rfl, ⟨?_, N⟩, ⟨_, rfl⟩, hW, hsame.mono hk hn⟩
  show Q _ T.heap
  rw [eT]; exact q
/-! ### calls by a contract -/
theorem k_call_static (S : St p l e R s m args below meth c n0 T h k n) (hx : p.tables.exec = Jvm.exec) (hZ : Z.Warmed39 s.vm) {own : String} {index : Nat} {y : MethodName} {bytes : ByteArray} {maxL : Nat} {ret : Option FieldType} (hown : s.vm.findClass own = some m.cls)
    (w1 : (Jvm.Cond.methodLink own index y).before a0 Z = true) (w2 : (Jvm.Cond.static y).before a0 Z = true) (w3 : (Jvm.Cond.initialized y.cls).before a0 Z = true) (w4 : (Jvm.Cond.code y bytes maxL ret).before a0 Z = true)
    (hy : y.cls ≠ "java/lang/invoke/MethodHandle" ∧ y.cls ≠ "java/lang/invoke/VarHandle") {rm : Room} {as' : Array Value} (C : Con l Z y bytes maxL ret rm n0 h as' Q) (W : Nat) {argsL rest : List Value}
    (hf : rm.frames + 1 ≤ R.frames) (hl : W + (maxL + 11) + rm.locals ≤ R.locals) (hml : Ls.size = c.maxLocals) (hlen : ∀ sig, parseMethodDescriptor y.desc = some sig → argsL.length = sig.parameters.length) (has : argsL.toArray = as')
    (hst : st = argsL.reverse ++ rest) (hW : (rest.map fun v => v.category).sum ≤ W) (hd : decode c.code pc = .ok (.invokestatic index, 3)) (hp : pc + 3 = pc') (hk : k + rm.cells ≤ R.cells) (hn : n + rm.slots ≤ R.slots)
    (K : ∀ v T' h', Q v h' → St p l e R s m args below meth c n0 T' h' (k + rm.cells) (n + rm.slots) → Done p e below G (T'.setTop (mkF m pc' Ls (v.toList ++ rest)))) :
    Done p e below G (T.setTop (mkF m pc Ls st)) := by
  subst hp
  obtain ⟨locs, X, N, eT⟩ := S
  obtain ⟨v, vm₁, ⟨T', L', k', n'⟩, -, X', ⟨L, ⟨hQ, NL⟩, e1, e2, e3⟩, step⟩ := Jvm.LawKit.callS X hx (y := y) hown (mvT hZ w1) (mvT hZ w2) (mvT hZ w3) (mvT hZ w4) hy
    (backOf (W := W) (Q := fun v h L => Q v h ∧ Fr n0 L) (C []) hZ w4 w3 hf hl) (g := mkF m pc Ls st) rfl hml (argsL := argsL) (rest := rest) hlen hst (by show 2 * 0 + _ ≤ _; omega) hd
    (fun _ _ => ⟨has, eT, hk, hn⟩)
  dsimp only [Pt.U, Pt.locs, Pt.cells, Pt.slots] at X' hQ e1 e2 e3 step
  subst e1 e2 e3
  exact Done.go step (K v T' T'.heap hQ ⟨_, X', Fr.app N NL, rfl⟩)
theorem k_call_init (S : St p l e R s m args below meth c n0 T h k n) (hx : p.tables.exec = Jvm.exec) (hZ : Z.Warmed39 s.vm) {own : String} {index : Nat} {y : MethodName} {bytes : ByteArray} {maxL : Nat} (hown : s.vm.findClass own = some m.cls) (hy1 : y.name = "<init>")
    (w1 : (Jvm.Cond.methodLink own index y).before a0 Z = true) (w2 : (Jvm.Cond.instanceMethod y).before a0 Z = true) (w3 : (Jvm.Cond.initialized y.cls).before a0 Z = true) (w4 : (Jvm.Cond.code y bytes maxL none).before a0 Z = true)
    (hy : y.cls ≠ "java/lang/invoke/MethodHandle" ∧ y.cls ≠ "java/lang/invoke/VarHandle") {rm : Room} {as' : Array Value} (C : Con l Z y bytes maxL none rm n0 h as' Q) (W : Nat) {a : Addr} {argsL rest : List Value}
    (hf : rm.frames + 1 ≤ R.frames) (hl : W + (maxL + 11) + rm.locals ≤ R.locals) (hml : Ls.size = c.maxLocals) (hlen : ∀ sig, parseMethodDescriptor y.desc = some sig → argsL.length = sig.parameters.length) (has : (.ref a :: argsL).toArray = as')
    (hst : st = argsL.reverse ++ .ref a :: rest) (hW : (rest.map fun v => v.category).sum ≤ W) (hd : decode c.code pc = .ok (.invokespecial index, 3)) (hp : pc + 3 = pc') (hk : k + rm.cells ≤ R.cells) (hn : n + rm.slots ≤ R.slots)
    (K : ∀ v T' h', Q v h' → St p l e R s m args below meth c n0 T' h' (k + rm.cells) (n + rm.slots) → Done p e below G (T'.setTop (mkF m pc' Ls (v.toList ++ rest)))) :
    Done p e below G (T.setTop (mkF m pc Ls st)) := by
  subst hp
  obtain ⟨locs, X, N, eT⟩ := S
  obtain ⟨v, vm₁, ⟨T', L', k', n'⟩, -, X', ⟨L, ⟨hQ, NL⟩, e1, e2, e3⟩, step⟩ := X.specialBack hx (y := y) hy1 hown (mvT hZ w1) (mvT hZ w2) (mvT hZ w4) hy
    (backOf (W := W) (Q := fun v h L => Q v h ∧ Fr n0 L) (C []) hZ w4 w3 hf hl) (g := mkF m pc Ls st) rfl hml (Steps.refl _) (a := a) (argsL := argsL) (rest := rest) hlen hst (by show 2 * 0 + _ ≤ _; omega) hd
    (fun _ _ => ⟨has, eT, hk, hn⟩)
  dsimp only [Pt.U, Pt.locs, Pt.cells, Pt.slots] at X' hQ e1 e2 e3 step
  subst e1 e2 e3
  exact Done.go (fun t q => step.trans q) (K v T' T'.heap hQ ⟨_, X', Fr.app N NL, rfl⟩)
theorem k_call_virtual (S : St p l e R s m args below meth c n0 T h k n) (hx : p.tables.exec = Jvm.exec) (hZ : Z.Warmed39 s.vm) {own : String} {index : Nat} {y : MethodName} {bytes : ByteArray} {maxL : Nat} {ret : Option FieldType} (hown : s.vm.findClass own = some m.cls) {a : Addr} (E : Exa Z h a y.cls)
    (w1 : (Jvm.Cond.methodLink own index y).before a0 Z = true) (w2 : (Jvm.Cond.declares y).before a0 Z = true) (w5 : (Jvm.Cond.selects y.cls y y).before a0 Z = true) (w6 : (Jvm.Cond.instanceMethod y).before a0 Z = true) (w3 : (Jvm.Cond.initialized y.cls).before a0 Z = true) (w4 : (Jvm.Cond.code y bytes maxL ret).before a0 Z = true)
    (hy : y.cls ≠ "java/lang/invoke/MethodHandle" ∧ y.cls ≠ "java/lang/invoke/VarHandle") {rm : Room} {as' : Array Value} (C : Con l Z y bytes maxL ret rm n0 h as' Q) (W : Nat) {argsL rest : List Value}
    (hf : rm.frames + 1 ≤ R.frames) (hl : W + (maxL + 11) + rm.locals ≤ R.locals) (hml : Ls.size = c.maxLocals) (hlen : ∀ sig, parseMethodDescriptor y.desc = some sig → argsL.length = sig.parameters.length) (has : (.ref a :: argsL).toArray = as')
    (hst : st = argsL.reverse ++ .ref a :: rest) (hW : (rest.map fun v => v.category).sum ≤ W) (hd : decode c.code pc = .ok (.invokevirtual index, 3)) (hp : pc + 3 = pc') (hk : k + rm.cells ≤ R.cells) (hn : n + rm.slots ≤ R.slots)
    (K : ∀ v T' h', Q v h' → St p l e R s m args below meth c n0 T' h' (k + rm.cells) (n + rm.slots) → Done p e below G (T'.setTop (mkF m pc' Ls (v.toList ++ rest)))) :
    Done p e below G (T.setTop (mkF m pc Ls st)) := by
  subst hp
  obtain ⟨locs, X, N, eT⟩ := S
  obtain ⟨cq, kq, qa, qb, qc⟩ := isOf hZ eT E
  obtain ⟨v, vm₁, ⟨T', L', k', n'⟩, -, X', ⟨L, ⟨hQ, NL⟩, e1, e2, e3⟩, step⟩ := X.virtualBack hx (y := y) (z := y) hown (mvT hZ w1) (mvT hZ w2) (notFace_of_selects (args := #[]) (mvT hZ w5)) (mvT hZ w5) (mvT hZ w6) hy
    (backOf (W := W) (Q := fun v h L => Q v h ∧ Fr n0 L) (C []) hZ w4 w3 hf hl) qa qc (g := mkF m pc Ls st) rfl hml (Steps.refl _) (argsL := argsL) (rest := rest) hlen hst (by show 2 * 0 + _ ≤ _; omega) hd
    (fun _ _ => ⟨has, eT, hk, hn⟩)
  dsimp only [Pt.U, Pt.locs, Pt.cells, Pt.slots] at X' hQ e1 e2 e3 step
  subst e1 e2 e3
  exact Done.go (fun t q => step.trans q) (K v T' T'.heap hQ ⟨_, X', Fr.app N NL, rfl⟩)
theorem k_call_private (S : St p l e R s m args below meth c n0 T h k n) (hx : p.tables.exec = Jvm.exec) (hZ : Z.Warmed39 s.vm) {own : String} {index : Nat} {y : MethodName} {bytes : ByteArray} {maxL : Nat} {ret : Option FieldType} (hown : s.vm.findClass own = some m.cls) {a : Addr} (E : Exa Z h a y.cls)
    (w1 : (Jvm.Cond.methodLink own index y).before a0 Z = true) (w6 : (Jvm.Cond.instanceMethod y).before a0 Z = true) (w5 : (Jvm.Cond.selects y.cls y y).before a0 Z = true) (w7 : (Jvm.Cond.privateMethod y).before a0 Z = true) (w3 : (Jvm.Cond.initialized y.cls).before a0 Z = true) (w4 : (Jvm.Cond.code y bytes maxL ret).before a0 Z = true)
    (hy : y.cls ≠ "java/lang/invoke/MethodHandle" ∧ y.cls ≠ "java/lang/invoke/VarHandle") {rm : Room} {as' : Array Value} (C : Con l Z y bytes maxL ret rm n0 h as' Q) (W : Nat) {argsL rest : List Value}
    (hf : rm.frames + 1 ≤ R.frames) (hl : W + (maxL + 11) + rm.locals ≤ R.locals) (hml : Ls.size = c.maxLocals) (hlen : ∀ sig, parseMethodDescriptor y.desc = some sig → argsL.length = sig.parameters.length) (has : (.ref a :: argsL).toArray = as')
    (hst : st = argsL.reverse ++ .ref a :: rest) (hW : (rest.map fun v => v.category).sum ≤ W) (hd : decode c.code pc = .ok (.invokevirtual index, 3)) (hp : pc + 3 = pc') (hk : k + rm.cells ≤ R.cells) (hn : n + rm.slots ≤ R.slots)
    (K : ∀ v T' h', Q v h' → St p l e R s m args below meth c n0 T' h' (k + rm.cells) (n + rm.slots) → Done p e below G (T'.setTop (mkF m pc' Ls (v.toList ++ rest)))) :
    Done p e below G (T.setTop (mkF m pc Ls st)) := by
  subst hp
  obtain ⟨locs, X, N, eT⟩ := S
  obtain ⟨cq, q1, q2⟩ := E.cell
  obtain ⟨v, vm₁, ⟨T', L', k', n'⟩, -, X', ⟨L, ⟨hQ, NL⟩, e1, e2, e3⟩, step⟩ := X.privateBack hx (y := y) hown (mvT hZ w1) (mvT hZ w6) (mvT hZ w5) (Cond.privateMethod_at (mvP hZ w7 (args := #[]))) (mvT hZ w4) hy
    (backOf (W := W) (Q := fun v h L => Q v h ∧ Fr n0 L) (C []) hZ w4 w3 hf hl) (g := mkF m pc Ls st) rfl hml (Steps.refl _) (a := a) (by rw [eT]; exact q1) q2 (argsL := argsL) (rest := rest) hlen hst (by show 2 * 0 + _ ≤ _; omega) hd
    (fun _ _ => ⟨has, eT, hk, hn⟩)
  dsimp only [Pt.U, Pt.locs, Pt.cells, Pt.slots] at X' hQ e1 e2 e3 step
  subst e1 e2 e3
  exact Done.go (fun t q => step.trans q) (K v T' T'.heap hQ ⟨_, X', Fr.app N NL, rfl⟩)
/-- any one step of the library's that leaves the heap and the room as they are -/
theorem k_via {f f' : JFrame} (S : St p l e R s m args below meth c n0 T h k n) (I : ∀ locs, Stand p l e R s m args below meth c T locs k n → T.heap = h → ∃ T', Stand p l e R s m args below meth c T' locs k n ∧ T'.heap = h ∧ ∀ target, Steps p.tables e below (T'.setTop f') target → Steps p.tables e below (T.setTop f) target)
    (K : ∀ T', St p l e R s m args below meth c n0 T' h k n → Done p e below G (T'.setTop f')) : Done p e below G (T.setTop f) := by
  obtain ⟨locs, X, N, eT⟩ := S
  obtain ⟨T', X', eT', step⟩ := I locs X eT
  exact Done.go step (K T' ⟨_, X', N, eT'⟩)
/-! ### the heap: objects and fields -/
theorem k_getfield (S : St p l e R s m args below meth c n0 T h k n) (hx : p.tables.exec = Jvm.exec) (hZ : Z.Warmed39 s.vm) {own O f d : String} {index : Nat} (hown : s.vm.findClass own = some m.cls) (w : (Jvm.Cond.fieldLink own index O f d).before a0 Z = true)
    {a : Addr} {v : Value} (F : Fld Z h a O f d v) (hd : decode c.code pc = .ok (.getfield index, 3)) (hp : pc + 3 = pc')
    (K : ∀ T', St p l e R s m args below meth c n0 T' h k n → Done p e below G (T'.setTop (mkF m pc' Ls (v :: st)))) : Done p e below G (T.setTop (mkF m pc Ls (.ref a :: st))) := by
  subst hp
  obtain ⟨locs, X, N, eT⟩ := S
  obtain ⟨T', X', eT', step⟩ := getF X hx hZ hown (host := "") (Or.inl w) Via.refl eT F (g := mkF m pc Ls (.ref a :: st)) rfl rfl hd
  exact Done.go step (K T' ⟨_, X', N, eT'⟩)
theorem k_putfield (S : St p l e R s m args below meth c n0 T h k n) (hx : p.tables.exec = Jvm.exec) (hZ : Z.Warmed39 s.vm) {own O f d C : String} {index kk : Nat} {ty : FieldType} (hown : s.vm.findClass own = some m.cls) (w : (Jvm.Cond.fieldLink own index O f d).before a0 Z = true)
    {a : Addr} {v old : Value} (F : Fld Z h a O f d old) (E : Exa Z h a C) (L : (Jvm.Cond.lays C O f d).before a0 Z = true ∨ ((Jvm.Cond.laysFinal C O f d).before a0 Z = true ∧ own = O ∧ meth.name = "<init>")) (wi : (Jvm.Cond.instantiable C kk).before a0 Z = true)
    (hty : parseFieldDescriptor d = some ty) (hn' : narrow ty v = v) (hf : fits ty v = true) (ha : n0 ≤ a) (hd : decode c.code pc = .ok (.putfield index, 3)) (hp : pc + 3 = pc')
    (K : ∀ T' h', Wr h h' a (Jvm.RoadKit.slotOf Z O f d) v → St p l e R s m args below meth c n0 T' h' k n → Done p e below G (T'.setTop (mkF m pc' Ls st))) : Done p e below G (T.setTop (mkF m pc Ls (v :: .ref a :: st))) := by
  subst hp
  obtain ⟨locs, X, N, eT⟩ := S
  obtain ⟨T', h', X', eT', W, step⟩ := putF X hx hZ hown (host := "") (Or.inl w) Via.refl eT F E L wi hty hn' hf (g := mkF m pc Ls (v :: .ref a :: st)) rfl rfl hd
  exact Done.go step (K T' h' W ⟨_, X', Fr.snoc X' N ha, eT'⟩)
theorem k_new (S : St p l e R s m args below meth c n0 T h k n) (hx : p.tables.exec = Jvm.exec) (hZ : Z.Warmed39 s.vm) {own C : String} {index f : Nat} (hown : s.vm.findClass own = some m.cls) (w : (Jvm.Cond.classLink own index C).before a0 Z = true) (wi : (Jvm.Cond.instantiable C f).before a0 Z = true) (wz : (Jvm.Cond.initialized C).before a0 Z = true)
    (hd : decode c.code pc = .ok (.new index, 3)) (hp : pc + 3 = pc') (hk : k + 1 ≤ R.cells) (hn : n + f ≤ R.slots)
    (K : ∀ T' h' b, b = h.size → Ext h h' → Exa Z h' b C → (∀ {O nm d : String} {ty : FieldType}, Laid Z a0 C O nm d → parseFieldDescriptor d = some ty → Fld Z h' b O nm d (defaultValue ty)) → St p l e R s m args below meth c n0 T' h' (k + 1) (n + f) → Done p e below G (T'.setTop (mkF m pc' Ls (.ref b :: st)))) :
    Done p e below G (T.setTop (mkF m pc Ls st)) := by
  subst hp
  obtain ⟨locs, X, N, eT⟩ := S
  obtain ⟨T', h', X', eT', E, A, D, -, step⟩ := newO X hx hZ hown w wi wz eT (g := mkF m pc Ls st) rfl hd hk hn
  exact Done.go step (K T' h' _ rfl E A D ⟨_, X', N, eT'⟩)
end Walk
end Jvm.OwnKit

namespace Jvm.OwnKit
open Sem ClassFile Op Lib Jvm.Stand Jvm.Free Jvm.LawKit Jvm.RoadKit
/-! My own layer: arrays as lists. -/
/-- at a lies an array of ty that holds vs -/
def Vec (Z : State) (h : Heap) (a : Addr) (ty : FieldType) (vs : List Value) : Prop := ∃ c : Cell, Arr Z h a c ty ∧ c.slots.toList = vs ∧ vs.length < 2 ^ 31
/-- an int[] | a byte[] that holds xs -/
def IV (Z : State) (h : Heap) (a : Addr) (xs : List Int32) : Prop := Vec Z h a .int (xs.map Value.int)
def BV (Z : State) (h : Heap) (a : Addr) (xs : List Int32) : Prop := Vec Z h a .byte (xs.map Value.int)
/-- a long[] that holds xs -/
def LV (Z : State) (h : Heap) (a : Addr) (xs : List Int64) : Prop := Vec Z h a .long (xs.map Value.long)
theorem Keep.ext0 {h h' : Heap} (K : Keep h h' []) : Ext h h' := ⟨K.1, fun x c q => K.2.1 x c q nin0⟩
theorem Keep.of_ext {h h' : Heap} (E : Ext h h') (ws : List Addr) : Keep h h' ws := (Keep.refl h ws).ext E
section Arrays
variable {p : Program} {l : Launch} {e : Env} {R : Room} {s : State} {m : MethodId} {args : Array Value} {below : List Frame} {meth : Method} {c : Code} {n0 : Nat} {T : State} {h h' : Heap} {k n : Nat} {Z : State} {a0 : Array Value}
variable {G : Outcome → State → Prop} {pc pc' : Nat} {Ls Ls' : Array Slot} {st : List Value} {a b : Addr} {ty : FieldType} {vs : List Value} {xs : List Int32} {ys : List Int64} {ws : List Addr} {sl : Nat} {v : Value}
theorem Vec.lt (F : Vec Z h a ty vs) : a < h.size := by obtain ⟨c, A, -⟩ := F; exact A.lt
theorem Vec.ext (F : Vec Z h a ty vs) (E : Ext h h') : Vec Z h' a ty vs := by obtain ⟨c, A, r⟩ := F; exact ⟨c, A.ext E, r⟩
theorem Vec.other (F : Vec Z h b ty vs) (W : Wr h h' a sl v) (q : b ≠ a) : Vec Z h' b ty vs := by obtain ⟨c, A, r⟩ := F; exact ⟨c, A.other W q, r⟩
theorem Vec.keep (F : Vec Z h a ty vs) (K : Keep h h' ws) (q : a ∉ ws) : Vec Z h' a ty vs := by obtain ⟨c, A, r⟩ := F; exact ⟨c, ⟨K.2.1 a c A.1 q, A.2⟩, r⟩
theorem Vec.put (F : Vec Z h a ty vs) (W : Wr h h' a sl v) : Vec Z h' a ty (vs.set sl v) := by
  obtain ⟨c, A, q, r⟩ := F
  exact ⟨_, A.same W, by simp [Cell.setSlot, q], by simpa using r⟩
theorem Vec.mk {x : Int32} (A : Arr Z h a (newA k ty x) ty) : Vec Z h a ty (List.replicate x.toInt.toNat (defaultValue ty)) := ⟨_, A, by
  show (Array.replicate x.toInt.toNat (defaultValue ty)).toList = _
  rw [Array.toList_replicate], by
  have := x.toInt_lt
  rw [List.length_replicate]; omega⟩
theorem IV.lt (F : IV Z h a xs) : a < h.size := Vec.lt F
theorem IV.ext (F : IV Z h a xs) (E : Ext h h') : IV Z h' a xs := Vec.ext F E
theorem IV.other (F : IV Z h b xs) (W : Wr h h' a sl v) (q : b ≠ a) : IV Z h' b xs := Vec.other F W q
theorem IV.keep (F : IV Z h a xs) (K : Keep h h' ws) (q : a ∉ ws) : IV Z h' a xs := Vec.keep F K q
theorem IV.put {x : Int32} (F : IV Z h a xs) (W : Wr h h' a sl (.int x)) : IV Z h' a (xs.set sl x) := by
  have q := Vec.put F W
  rw [← List.map_set] at q; exact q
theorem IV.len (F : IV Z h a xs) : xs.length < 2 ^ 31 := by obtain ⟨_, _, _, q⟩ := F; simpa using q
theorem BV.lt (F : BV Z h a xs) : a < h.size := Vec.lt F
theorem BV.ext (F : BV Z h a xs) (E : Ext h h') : BV Z h' a xs := Vec.ext F E
theorem BV.other (F : BV Z h b xs) (W : Wr h h' a sl v) (q : b ≠ a) : BV Z h' b xs := Vec.other F W q
theorem BV.keep (F : BV Z h a xs) (K : Keep h h' ws) (q : a ∉ ws) : BV Z h' a xs := Vec.keep F K q
theorem BV.put {x : Int32} (F : BV Z h a xs) (W : Wr h h' a sl (.int x)) : BV Z h' a (xs.set sl x) := by
  have q := Vec.put F W
  rw [← List.map_set] at q; exact q
theorem BV.len (F : BV Z h a xs) : xs.length < 2 ^ 31 := by obtain ⟨_, _, _, q⟩ := F; simpa using q
theorem LV.lt (F : LV Z h a ys) : a < h.size := Vec.lt F
theorem LV.ext (F : LV Z h a ys) (E : Ext h h') : LV Z h' a ys := Vec.ext F E
theorem LV.other (F : LV Z h b ys) (W : Wr h h' a sl v) (q : b ≠ a) : LV Z h' b ys := Vec.other F W q
theorem LV.keep (F : LV Z h a ys) (K : Keep h h' ws) (q : a ∉ ws) : LV Z h' a ys := Vec.keep F K q
theorem LV.put {x : Int64} (F : LV Z h a ys) (W : Wr h h' a sl (.long x)) : LV Z h' a (ys.set sl x) := by
  have q := Vec.put F W
  rw [← List.map_set] at q; exact q
theorem LV.len (F : LV Z h a ys) : ys.length < 2 ^ 31 := by obtain ⟨_, _, _, q⟩ := F; simpa using q
theorem inb {c : Cell} {j : Int32} (q : c.slots.toList = vs) (h1 : 0 ≤ j.toInt) (h2 : j.toInt < vs.length) : ¬ (j < 0 ∨ c.slots.size ≤ j.toNatClampNeg) := by
  subst q
  rw [Int32.lt_iff_toInt_lt]
  have e0 : (0 : Int32).toInt = 0 := rfl
  have e1 : j.toNatClampNeg = j.toInt.toNat := rfl
  have e2 : c.slots.toList.length = c.slots.size := by simp
  omega
theorem k_arraylength {z : Int32} (S : St p l e R s m args below meth c n0 T h k n) (hx : p.tables.exec = Jvm.exec) (hZ : Z.Warmed39 s.vm) (V : Vec Z h a ty vs) (hd : decode c.code pc = .ok (.arraylength, 1)) (hz : vs.length.toInt32 = z) (hp : pc + 1 = pc')
    (K : Done p e below G (T.setTop (mkF m pc' Ls (.int z :: st)))) : Done p e below G (T.setTop (mkF m pc Ls (.ref a :: st))) := by
  subst hp hz
  obtain ⟨_, X, -, eT⟩ := S
  obtain ⟨cl, A, q, r⟩ := V
  have e2 : vs.length = cl.slots.size := by rw [← q]; simp
  rw [e2] at K
  exact Done.go (fun t z => X.arraylength hx (by rw [eT]; exact A.1) (State.isArrayOf_alike hZ.alike A.2.1) (g := mkF m pc Ls (.ref a :: st)) rfl rfl hd _ z) K
theorem k_iaload {j w : Int32} (S : St p l e R s m args below meth c n0 T h k n) (hx : p.tables.exec = Jvm.exec) (hZ : Z.Warmed39 s.vm) (V : IV Z h a xs) (hd : decode c.code pc = .ok (.iaload, 1)) (h1 : 0 ≤ j.toInt) (h2 : j.toInt < xs.length) (hv : xs.getD j.toInt.toNat 0 = w) (hp : pc + 1 = pc')
    (K : Done p e below G (T.setTop (mkF m pc' Ls (.int w :: st)))) : Done p e below G (T.setTop (mkF m pc Ls (.int j :: .ref a :: st))) := by
  subst hp hv
  obtain ⟨_, X, -, eT⟩ := S
  obtain ⟨cl, A, q, r⟩ := V
  have hl : j.toInt.toNat < xs.length := by omega
  have hv : cl.slots[j.toNatClampNeg]? = some (.int (xs.getD j.toInt.toNat 0)) := by
    show cl.slots[j.toInt.toNat]? = _
    rw [← Array.getElem?_toList, q, List.getElem?_map, List.getElem?_eq_getElem hl]
    rw [List.getD_eq_getElem?_getD, List.getElem?_eq_getElem hl]; rfl
  exact Done.go (fun t z => X.iaload hx (by rw [eT]; exact A.1) (State.isArrayOf_alike hZ.alike A.2.1) A.2.2 (inb q h1 (by simpa using h2)) hv (g := mkF m pc Ls (.int j :: .ref a :: st)) rfl rfl hd _ z) K
theorem k_baload {j w : Int32} (S : St p l e R s m args below meth c n0 T h k n) (hx : p.tables.exec = Jvm.exec) (hZ : Z.Warmed39 s.vm) (V : BV Z h a xs) (hd : decode c.code pc = .ok (.baload, 1)) (h1 : 0 ≤ j.toInt) (h2 : j.toInt < xs.length) (hv : xs.getD j.toInt.toNat 0 = w) (hp : pc + 1 = pc')
    (K : Done p e below G (T.setTop (mkF m pc' Ls (.int w :: st)))) : Done p e below G (T.setTop (mkF m pc Ls (.int j :: .ref a :: st))) := by
  subst hp hv
  obtain ⟨_, X, -, eT⟩ := S
  obtain ⟨cl, A, q, r⟩ := V
  have hl : j.toInt.toNat < xs.length := by omega
  have hv : cl.slots[j.toNatClampNeg]? = some (.int (xs.getD j.toInt.toNat 0)) := by
    show cl.slots[j.toInt.toNat]? = _
    rw [← Array.getElem?_toList, q, List.getElem?_map, List.getElem?_eq_getElem hl]
    rw [List.getD_eq_getElem?_getD, List.getElem?_eq_getElem hl]; rfl
  exact Done.go (fun t z => X.baloadBytes hx (by rw [eT]; exact A.1) (State.isArrayOf_alike hZ.alike A.2.1) A.2.2 (inb q h1 (by simpa using h2)) hv (g := mkF m pc Ls (.int j :: .ref a :: st)) rfl rfl hd _ z) K
theorem k_laload {j : Int32} {w : Int64} (S : St p l e R s m args below meth c n0 T h k n) (hx : p.tables.exec = Jvm.exec) (hZ : Z.Warmed39 s.vm) (V : LV Z h a ys) (hd : decode c.code pc = .ok (.laload, 1)) (h1 : 0 ≤ j.toInt) (h2 : j.toInt < ys.length) (hv : ys.getD j.toInt.toNat 0 = w) (hp : pc + 1 = pc')
    (K : Done p e below G (T.setTop (mkF m pc' Ls (.long w :: st)))) : Done p e below G (T.setTop (mkF m pc Ls (.int j :: .ref a :: st))) := by
  subst hp hv
  obtain ⟨_, X, -, eT⟩ := S
  obtain ⟨cl, A, q, r⟩ := V
  have hl : j.toInt.toNat < ys.length := by omega
  have hv : cl.slots[j.toNatClampNeg]? = some (.long (ys.getD j.toInt.toNat 0)) := by
    show cl.slots[j.toInt.toNat]? = _
    rw [← Array.getElem?_toList, q, List.getElem?_map, List.getElem?_eq_getElem hl]
    rw [List.getD_eq_getElem?_getD, List.getElem?_eq_getElem hl]; rfl
  exact Done.go (fun t z => X.laload hx (by rw [eT]; exact A.1) (State.isArrayOf_alike hZ.alike A.2.1) A.2.2 (inb q h1 (by simpa using h2)) hv (g := mkF m pc Ls (.int j :: .ref a :: st)) rfl rfl hd _ z) K
theorem k_iastore {j x : Int32} (S : St p l e R s m args below meth c n0 T h k n) (hx : p.tables.exec = Jvm.exec) (hZ : Z.Warmed39 s.vm) (V : IV Z h a xs) (hd : decode c.code pc = .ok (.iastore, 1)) (h1 : 0 ≤ j.toInt) (h2 : j.toInt < xs.length) (ha : n0 ≤ a) (hp : pc + 1 = pc')
    (K : ∀ T' h', Wr h h' a j.toInt.toNat (.int x) → IV Z h' a (xs.set j.toInt.toNat x) → St p l e R s m args below meth c n0 T' h' k n → Done p e below G (T'.setTop (mkF m pc' Ls st))) : Done p e below G (T.setTop (mkF m pc Ls (.int x :: .int j :: .ref a :: st))) := by
  subst hp
  obtain ⟨_, X, N, eT⟩ := S
  have V0 := V
  obtain ⟨cl, A, q, r⟩ := V
  obtain ⟨T', h', X', eT', W, step⟩ := stI X hx hZ eT A (j := j) (inb q h1 (by simpa using h2)) (g := mkF m pc Ls (.int x :: .int j :: .ref a :: st)) rfl rfl hd
  exact Done.go step (K T' h' W (V0.put W) ⟨_, X', Fr.snoc X' N ha, eT'⟩)
theorem k_bastore {j x : Int32} (S : St p l e R s m args below meth c n0 T h k n) (hx : p.tables.exec = Jvm.exec) (hZ : Z.Warmed39 s.vm) (V : BV Z h a xs) (hd : decode c.code pc = .ok (.bastore, 1)) (h1 : 0 ≤ j.toInt) (h2 : j.toInt < xs.length) (ha : n0 ≤ a) (hp : pc + 1 = pc')
    (K : ∀ T' h', Wr h h' a j.toInt.toNat (.int (nar .byte x)) → BV Z h' a (xs.set j.toInt.toNat (nar .byte x)) → St p l e R s m args below meth c n0 T' h' k n → Done p e below G (T'.setTop (mkF m pc' Ls st))) : Done p e below G (T.setTop (mkF m pc Ls (.int x :: .int j :: .ref a :: st))) := by
  subst hp
  obtain ⟨_, X, N, eT⟩ := S
  have V0 := V
  obtain ⟨cl, A, q, r⟩ := V
  obtain ⟨T', h', X', eT', W, step⟩ := stB X hx hZ eT A (j := j) (inb q h1 (by simpa using h2)) (g := mkF m pc Ls (.int x :: .int j :: .ref a :: st)) rfl rfl hd
  exact Done.go step (K T' h' W (V0.put W) ⟨_, X', Fr.snoc X' N ha, eT'⟩)
theorem k_lastore {j : Int32} {x : Int64} (S : St p l e R s m args below meth c n0 T h k n) (hx : p.tables.exec = Jvm.exec) (hZ : Z.Warmed39 s.vm) (V : LV Z h a ys) (hd : decode c.code pc = .ok (.lastore, 1)) (h1 : 0 ≤ j.toInt) (h2 : j.toInt < ys.length) (ha : n0 ≤ a) (hp : pc + 1 = pc')
    (K : ∀ T' h', Wr h h' a j.toInt.toNat (.long x) → LV Z h' a (ys.set j.toInt.toNat x) → St p l e R s m args below meth c n0 T' h' k n → Done p e below G (T'.setTop (mkF m pc' Ls st))) : Done p e below G (T.setTop (mkF m pc Ls (.long x :: .int j :: .ref a :: st))) := by
  subst hp
  obtain ⟨_, X, N, eT⟩ := S
  have V0 := V
  obtain ⟨cl, A, q, r⟩ := V
  obtain ⟨T', h', X', eT', W, step⟩ := stJ X hx hZ eT A (j := j) (inb q h1 (by simpa using h2)) (g := mkF m pc Ls (.long x :: .int j :: .ref a :: st)) rfl rfl hd
  exact Done.go step (K T' h' W (V0.put W) ⟨_, X', Fr.snoc X' N ha, eT'⟩)
theorem k_newint {x : Int32} (S : St p l e R s m args below meth c n0 T h k n) (hx : p.tables.exec = Jvm.exec) (hZ : Z.Warmed39 s.vm) (w : (Jvm.Cond.arrayClass .int).before a0 Z = true) (hd : decode c.code pc = .ok (.newarray .int, 2)) (h1 : 0 ≤ x.toInt) (cap : Nat) (h2 : x.toInt ≤ cap) (h3 : cap * 8 ≤ 536870912) (hk : k + 1 ≤ R.cells) (hn : n + cap ≤ R.slots) (hp : pc + 2 = pc')
    (K : ∀ T' h' b, b = h.size → Ext h h' → IV Z h' b (List.replicate x.toInt.toNat 0) → St p l e R s m args below meth c n0 T' h' (k + 1) (n + cap) → Done p e below G (T'.setTop (mkF m pc' Ls (.ref b :: st)))) : Done p e below G (T.setTop (mkF m pc Ls (.int x :: st))) := by
  subst hp
  obtain ⟨_, X, N, eT⟩ := S
  obtain ⟨T', h', cA, X', eT', E, A, step⟩ := newP X hx hZ (aty := .int) w eT (g := mkF m pc Ls (.int x :: st)) rfl hd rfl (by rw [Int32.lt_iff_toInt_lt]; show ¬ x.toInt < 0; omega) (cap := cap) (by show x.toInt.toNat ≤ cap; omega) h3 hk hn
  have V := Vec.mk A
  refine Done.go step (K T' h' _ rfl E ?_ ⟨_, X', N, eT'⟩)
  show Vec Z h' h.size .int _
  rw [List.map_replicate]; exact V
theorem k_newbyte {x : Int32} (S : St p l e R s m args below meth c n0 T h k n) (hx : p.tables.exec = Jvm.exec) (hZ : Z.Warmed39 s.vm) (w : (Jvm.Cond.arrayClass .byte).before a0 Z = true) (hd : decode c.code pc = .ok (.newarray .byte, 2)) (h1 : 0 ≤ x.toInt) (cap : Nat) (h2 : x.toInt ≤ cap) (h3 : cap * 8 ≤ 536870912) (hk : k + 1 ≤ R.cells) (hn : n + cap ≤ R.slots) (hp : pc + 2 = pc')
    (K : ∀ T' h' b, b = h.size → Ext h h' → BV Z h' b (List.replicate x.toInt.toNat 0) → St p l e R s m args below meth c n0 T' h' (k + 1) (n + cap) → Done p e below G (T'.setTop (mkF m pc' Ls (.ref b :: st)))) : Done p e below G (T.setTop (mkF m pc Ls (.int x :: st))) := by
  subst hp
  obtain ⟨_, X, N, eT⟩ := S
  obtain ⟨T', h', cA, X', eT', E, A, step⟩ := newP X hx hZ (aty := .byte) w eT (g := mkF m pc Ls (.int x :: st)) rfl hd rfl (by rw [Int32.lt_iff_toInt_lt]; show ¬ x.toInt < 0; omega) (cap := cap) (by show x.toInt.toNat ≤ cap; omega) h3 hk hn
  have V := Vec.mk A
  refine Done.go step (K T' h' _ rfl E ?_ ⟨_, X', N, eT'⟩)
  show Vec Z h' h.size .byte _
  rw [List.map_replicate]; exact V
theorem k_newlong {x : Int32} (S : St p l e R s m args below meth c n0 T h k n) (hx : p.tables.exec = Jvm.exec) (hZ : Z.Warmed39 s.vm) (w : (Jvm.Cond.arrayClass .long).before a0 Z = true) (hd : decode c.code pc = .ok (.newarray .long, 2)) (h1 : 0 ≤ x.toInt) (cap : Nat) (h2 : x.toInt ≤ cap) (h3 : cap * 8 ≤ 536870912) (hk : k + 1 ≤ R.cells) (hn : n + cap ≤ R.slots) (hp : pc + 2 = pc')
    (K : ∀ T' h' b, b = h.size → Ext h h' → LV Z h' b (List.replicate x.toInt.toNat 0) → St p l e R s m args below meth c n0 T' h' (k + 1) (n + cap) → Done p e below G (T'.setTop (mkF m pc' Ls (.ref b :: st)))) : Done p e below G (T.setTop (mkF m pc Ls (.int x :: st))) := by
  subst hp
  obtain ⟨_, X, N, eT⟩ := S
  obtain ⟨T', h', cA, X', eT', E, A, step⟩ := newP X hx hZ (aty := .long) w eT (g := mkF m pc Ls (.int x :: st)) rfl hd rfl (by rw [Int32.lt_iff_toInt_lt]; show ¬ x.toInt < 0; omega) (cap := cap) (by show x.toInt.toNat ≤ cap; omega) h3 hk hn
  have V := Vec.mk A
  refine Done.go step (K T' h' _ rfl E ?_ ⟨_, X', N, eT'⟩)
  show Vec Z h' h.size .long _
  rw [List.map_replicate]; exact V
theorem k_getstatic (S : St p l e R s m args below meth c n0 T h k n) (hx : p.tables.exec = Jvm.exec) (hZ : Z.Warmed39 s.vm) {own O f d : String} {index : Nat} (hown : s.vm.findClass own = some m.cls) (w : (Jvm.Cond.fieldLink own index O f d).before a0 Z = true)
    (F : Sta Z h O f d v) (hd : decode c.code pc = .ok (.getstatic index, 3)) (hp : pc + 3 = pc')
    (K : ∀ T', St p l e R s m args below meth c n0 T' h k n → Done p e below G (T'.setTop (mkF m pc' Ls (v :: st)))) : Done p e below G (T.setTop (mkF m pc Ls st)) := by
  subst hp
  obtain ⟨locs, X, N, eT⟩ := S
  obtain ⟨T', X', eT', step⟩ := getS2 X hx hZ hown (host := "") (Or.inl w) Via.refl eT F (g := mkF m pc Ls st) rfl hd
  exact Done.go step (K T' ⟨_, X', N, eT'⟩)
theorem IV.arv (F : IV Z h a xs) : ∃ k, Arv Z h a k .int xs.length.toInt32 (xs.map Value.int) (.int 0) := by
  obtain ⟨c, A, q, r⟩ := F
  have hl : xs.length < 2 ^ 31 := by simpa using r
  have e0 : xs.length.toInt32.toInt = (xs.length : Int) := by
    show (Int32.ofNat xs.length).toInt = _
    exact Int32.toInt_ofNat_of_lt hl
  have hs : c.slots.size = xs.length := by have := congrArg List.length q; simpa using this
  refine ⟨c.cls, c, A, rfl, ?_, ?_, ?_, ?_⟩
  · show c.slots.size = xs.length.toInt32.toInt.toNat
    rw [e0, hs]; simp
  · rw [Int32.lt_iff_toInt_lt, e0]; show ¬ (xs.length : Int) < 0; omega
  · intro i hi
    rw [← Array.getElem?_toList, q, List.getD_eq_getElem?_getD]
    have : i < (xs.map Value.int).length := by simpa [← hs] using hi
    rw [List.getElem?_eq_getElem this]; rfl
  · intro i hi
    have : i < (xs.map Value.int).length := by simpa [← hs] using hi
    rw [List.getD_eq_getElem?_getD, List.getElem?_eq_getElem this]
    simp [fits]
theorem IV.of_arv {k : ClassId} {z : Int32} (F : Arv Z h a k .int z (xs.map Value.int) (.int 0)) (hz : z.toInt = (xs.length : Int)) : IV Z h a xs := by
  obtain ⟨c, A, -, hs, -, H, -⟩ := F
  have hs' : c.slots.size = xs.length := by rw [hs]; show z.toInt.toNat = _; omega
  refine ⟨c, A, ?_, by have := z.toInt_lt; simp; omega⟩
  refine List.ext_getElem? fun i => ?_
  by_cases hi : i < c.slots.size
  · rw [Array.getElem?_toList, H i hi, List.getD_eq_getElem?_getD]
    have : i < (xs.map Value.int).length := by simpa [← hs'] using hi
    rw [List.getElem?_eq_getElem this]; rfl
  · rw [List.getElem?_eq_none (by simpa using hi), List.getElem?_eq_none (by simp; omega)]
theorem k_arraycopy {nn : Int32} {xs' : List Int32} (S : St p l e R s m args below meth c n0 T h k n) (hx : p.tables.exec = Jvm.exec) (hZ : Z.Warmed39 s.vm) {own : String} {index : Nat} (hown : s.vm.findClass own = some m.cls)
    (w1 : (Jvm.Cond.methodLink own index Jvm.Stand.acN).before a0 Z = true) (w2 : (Jvm.Cond.native Jvm.Stand.acN).before a0 Z = true) (w3 : (Jvm.Cond.static Jvm.Stand.acN).before a0 Z = true) (w4 : (Jvm.Cond.initialized "java/lang/System").before a0 Z = true)
    (A : IV Z h a xs) (B : IV Z h b xs') (h1 : 0 ≤ nn.toInt) (h2 : nn.toInt ≤ xs.length) (h3 : nn.toInt ≤ xs'.length) (ge : n0 ≤ b) (hml : Ls.size = c.maxLocals) (hd : decode c.code pc = .ok (.invokestatic index, 3)) (hf : 1 ≤ R.frames) (W : Nat) (hW : (st.map fun v => v.category).sum ≤ W) (hlo : W + 18 ≤ R.locals) (hp : pc + 3 = pc')
    (K : ∀ T' h', Keep h h' [b] → IV Z h' b (xs.take nn.toInt.toNat ++ xs'.drop nn.toInt.toNat) → St p l e R s m args below meth c n0 T' h' k n → Done p e below G (T'.setTop (mkF m pc' Ls st))) :
    Done p e below G (T.setTop (mkF m pc Ls (.int nn :: .int 0 :: .ref b :: .int 0 :: .ref a :: st))) := by
  subst hp
  obtain ⟨_, X, N, eT⟩ := S
  have la := A.len
  have lb := B.len
  obtain ⟨ka, Aa⟩ := A.arv
  obtain ⟨kb, Bb⟩ := B.arv
  have ea : xs.length.toInt32.toInt = (xs.length : Int) := Int32.toInt_ofNat_of_lt la
  have eb : xs'.length.toInt32.toInt = (xs'.length : Int) := Int32.toInt_ofNat_of_lt lb
  have z0 : (0 : Int32).toNatClampNeg = 0 := rfl
  obtain ⟨T', h', L, X', eT', N', Kp, V, step⟩ := cpA X hx hZ hown w1 w2 w3 w4 eT (sp := 0) (dp := 0) (nn := nn) (us := (xs.take nn.toInt.toNat).map Value.int) Aa Bb (Or.inl ⟨rfl, rfl⟩) (by decide) (by decide) (by rw [Int32.lt_iff_toInt_lt]; show ¬ nn.toInt < 0; omega)
    (by rw [z0]; show 0 + nn.toInt.toNat ≤ xs.length.toInt32.toInt.toNat; omega) (by rw [z0]; show 0 + nn.toInt.toNat ≤ xs'.length.toInt32.toInt.toNat; omega)
    (by
      refine List.ext_getElem (by show _ = (List.map _ (List.range nn.toInt.toNat)).length; rw [List.length_map, List.length_take, List.length_map, List.length_range]; omega) fun i g1 g2 => ?_
      have g3 : i < nn.toInt.toNat := by have := g1; rw [List.length_map, List.length_take] at this; omega
      simp only [List.getElem_map, List.getElem_take, List.getElem_range, z0, Nat.zero_add]
      rw [List.getD_eq_getElem?_getD, List.getElem?_map, List.getElem?_eq_getElem (by omega)]; rfl)
    (by rw [z0]; show 0 + nn.toInt.toNat ≤ _; rw [List.length_map]; omega) N ge (g := mkF m pc Ls (.int nn :: .int 0 :: .ref b :: .int 0 :: .ref a :: st)) rfl hml rfl hd hf (W := W) (by show 2 * 0 + _ ≤ _; omega) (by show W + 18 ≤ _; exact hlo)
  refine Done.go step (K T' h' Kp ?_ ⟨_, X', N', eT'⟩)
  refine IV.of_arv (k := kb) (z := xs'.length.toInt32) ?_ (by rw [eb, List.length_append, List.length_take, List.length_drop]; omega)
  have e : (List.map Value.int xs').take (0 : Int32).toNatClampNeg ++ (xs.take nn.toInt.toNat).map Value.int ++ (List.map Value.int xs').drop ((0 : Int32).toNatClampNeg + nn.toNatClampNeg) = (xs.take nn.toInt.toNat ++ xs'.drop nn.toInt.toNat).map Value.int := by
    rw [z0]; show List.take 0 _ ++ _ ++ List.drop (0 + nn.toInt.toNat) _ = _
    simp
  rw [← e]; exact V
theorem k_arraycopyD {nn dp : Int32} {xs' : List Int32} (S : St p l e R s m args below meth c n0 T h k n) (hx : p.tables.exec = Jvm.exec) (hZ : Z.Warmed39 s.vm) {own : String} {index : Nat} (hown : s.vm.findClass own = some m.cls)
    (w1 : (Jvm.Cond.methodLink own index Jvm.Stand.acN).before a0 Z = true) (w2 : (Jvm.Cond.native Jvm.Stand.acN).before a0 Z = true) (w3 : (Jvm.Cond.static Jvm.Stand.acN).before a0 Z = true) (w4 : (Jvm.Cond.initialized "java/lang/System").before a0 Z = true)
    (A : IV Z h a xs) (B : IV Z h b xs') (h1 : 0 ≤ nn.toInt) (h2 : nn.toInt ≤ xs.length) (h4 : 0 ≤ dp.toInt) (h3 : dp.toInt + nn.toInt ≤ xs'.length) (ge : n0 ≤ b) (hml : Ls.size = c.maxLocals) (hd : decode c.code pc = .ok (.invokestatic index, 3)) (hf : 1 ≤ R.frames) (W : Nat) (hW : (st.map fun v => v.category).sum ≤ W) (hlo : W + 18 ≤ R.locals) (hp : pc + 3 = pc')
    (K : ∀ T' h', Keep h h' [b] → IV Z h' b (xs'.take dp.toInt.toNat ++ xs.take nn.toInt.toNat ++ xs'.drop (dp.toInt.toNat + nn.toInt.toNat)) → St p l e R s m args below meth c n0 T' h' k n → Done p e below G (T'.setTop (mkF m pc' Ls st))) :
    Done p e below G (T.setTop (mkF m pc Ls (.int nn :: .int dp :: .ref b :: .int 0 :: .ref a :: st))) := by
  subst hp
  obtain ⟨_, X, N, eT⟩ := S
  have la := A.len
  have lb := B.len
  obtain ⟨ka, Aa⟩ := A.arv
  obtain ⟨kb, Bb⟩ := B.arv
  have ea : xs.length.toInt32.toInt = (xs.length : Int) := Int32.toInt_ofNat_of_lt la
  have eb : xs'.length.toInt32.toInt = (xs'.length : Int) := Int32.toInt_ofNat_of_lt lb
  have z0 : (0 : Int32).toNatClampNeg = 0 := rfl
  obtain ⟨T', h', L, X', eT', N', Kp, V, step⟩ := cpA X hx hZ hown w1 w2 w3 w4 eT (sp := 0) (dp := dp) (nn := nn) (us := (xs.take nn.toInt.toNat).map Value.int) Aa Bb (Or.inl ⟨rfl, rfl⟩) (by decide) (by rw [Int32.lt_iff_toInt_lt]; show ¬ dp.toInt < 0; omega) (by rw [Int32.lt_iff_toInt_lt]; show ¬ nn.toInt < 0; omega)
    (by rw [z0]; show 0 + nn.toInt.toNat ≤ xs.length.toInt32.toInt.toNat; omega) (by show dp.toInt.toNat + nn.toInt.toNat ≤ xs'.length.toInt32.toInt.toNat; omega)
    (by
      refine List.ext_getElem (by show _ = (List.map _ (List.range nn.toInt.toNat)).length; rw [List.length_map, List.length_take, List.length_map, List.length_range]; omega) fun i g1 g2 => ?_
      have g3 : i < nn.toInt.toNat := by have := g1; rw [List.length_map, List.length_take] at this; omega
      simp only [List.getElem_map, List.getElem_take, List.getElem_range, z0, Nat.zero_add]
      rw [List.getD_eq_getElem?_getD, List.getElem?_map, List.getElem?_eq_getElem (by omega)]; rfl)
    (by show dp.toInt.toNat + nn.toInt.toNat ≤ _; rw [List.length_map]; omega) N ge (g := mkF m pc Ls (.int nn :: .int dp :: .ref b :: .int 0 :: .ref a :: st)) rfl hml rfl hd hf (W := W) (by show 2 * 0 + _ ≤ _; omega) (by show W + 18 ≤ _; exact hlo)
  refine Done.go step (K T' h' Kp ?_ ⟨_, X', N', eT'⟩)
  refine IV.of_arv (k := kb) (z := xs'.length.toInt32) ?_ (by rw [eb, List.length_append, List.length_append, List.length_take, List.length_take, List.length_drop]; omega)
  have e : (List.map Value.int xs').take dp.toNatClampNeg ++ (xs.take nn.toInt.toNat).map Value.int ++ (List.map Value.int xs').drop (dp.toNatClampNeg + nn.toNatClampNeg) = (xs'.take dp.toInt.toNat ++ xs.take nn.toInt.toNat ++ xs'.drop (dp.toInt.toNat + nn.toInt.toNat)).map Value.int := by
    show List.take dp.toInt.toNat _ ++ _ ++ List.drop (dp.toInt.toNat + nn.toInt.toNat) _ = _
    simp
  rw [← e]; exact V
theorem k_newintE {x : Int32} (S : St p l e R s m args below meth c n0 T h k n) (hx : p.tables.exec = Jvm.exec) (hZ : Z.Warmed39 s.vm) (w : (Jvm.Cond.arrayClass .int).before a0 Z = true) (hd : decode c.code pc = .ok (.newarray .int, 2)) (h1 : 0 ≤ x.toInt) (cap : Nat) (h2 : x.toInt ≤ cap) (h3 : cap * 8 ≤ 536870912) (hk : k + 1 ≤ R.cells) (hn : n + cap ≤ R.slots) (hp : pc + 2 = pc')
    (K : ∀ T' h' b, b = h.size → Ext h h' → IV Z h' b (List.replicate x.toInt.toNat 0) → Exa Z h' b "[I" → St p l e R s m args below meth c n0 T' h' (k + 1) (n + cap) → Done p e below G (T'.setTop (mkF m pc' Ls (.ref b :: st)))) : Done p e below G (T.setTop (mkF m pc Ls (.int x :: st))) := by
  subst hp
  obtain ⟨_, X, N, eT⟩ := S
  obtain ⟨T', h', cA, X', eT', E, A, EX, step⟩ := newPE X hx hZ (aty := .int) w eT (g := mkF m pc Ls (.int x :: st)) rfl hd rfl (by rw [Int32.lt_iff_toInt_lt]; show ¬ x.toInt < 0; omega) (cap := cap) (by show x.toInt.toNat ≤ cap; omega) h3 hk hn (ad := "[I") (by decide)
  have V := Vec.mk A
  refine Done.go step (K T' h' _ rfl E ?_ EX ⟨_, X', N, eT'⟩)
  show Vec Z h' h.size .int _
  rw [List.map_replicate]; exact V
theorem k_clone (S : St p l e R s m args below meth c n0 T h k n) (hx : p.tables.exec = Jvm.exec) (hZ : Z.Warmed39 s.vm) {own : String} {index : Nat} (hown : s.vm.findClass own = some m.cls)
    (w1 : (Jvm.Cond.methodLink own index ⟨"[I", "clone", "()Ljava/lang/Object;"⟩).before a0 Z = true) (w2 : (Jvm.Cond.sameMethod "[I" "java/lang/Object" "clone" "()Ljava/lang/Object;").before a0 Z = true) (w3 : (Jvm.Cond.native ⟨"java/lang/Object", "clone", "()Ljava/lang/Object;"⟩).before a0 Z = true)
    (w4 : (Jvm.Cond.instanceMethod ⟨"java/lang/Object", "clone", "()Ljava/lang/Object;"⟩).before a0 Z = true) (w5 : (Jvm.Cond.selects "[I" ⟨"[I", "clone", "()Ljava/lang/Object;"⟩ ⟨"java/lang/Object", "clone", "()Ljava/lang/Object;"⟩).before a0 Z = true) (w6 : (Jvm.Cond.castable "[I" "java/lang/Cloneable").before a0 Z = true)
    (V : IV Z h a xs) (E : Exa Z h a "[I") (hml : Ls.size = c.maxLocals) (hd : decode c.code pc = .ok (.invokevirtual index, 3)) (hf : 1 ≤ R.frames) (W : Nat) (hW : (st.map fun v => v.category).sum ≤ W) (hlo : W + 14 ≤ R.locals) (cap : Nat) (hcap : xs.length ≤ cap) (hk : k + 1 ≤ R.cells) (hn : n + cap ≤ R.slots) (hp : pc + 3 = pc')
    (K : ∀ T' h' b, b = h.size → Ext h h' → IV Z h' b xs → Exa Z h' b "[I" → St p l e R s m args below meth c n0 T' h' (k + 1) (n + cap) → Done p e below G (T'.setTop (mkF m pc' Ls (.ref b :: st)))) :
    Done p e below G (T.setTop (mkF m pc Ls (.ref a :: st))) := by
  subst hp
  obtain ⟨_, X, N, eT⟩ := S
  obtain ⟨cl, A, q, r⟩ := V
  have hsz : cl.slots.size = xs.length := by have := congrArg List.length q; simpa using this
  have F : FitC Z cl := fitC_of A fun i hi v hv => by
    rw [← Array.getElem?_toList, q, List.getElem?_map] at hv
    cases e : xs[i]? with
    | none => rw [e] at hv; cases hv
    | some z => rw [e] at hv; cases hv; rfl
  obtain ⟨T', h', X', eT', ex, A', E', step⟩ := cloneA X hx hZ hown w1 w2 w3 w4 w5 w6 eT A E F (g := mkF m pc Ls (.ref a :: st)) rfl hml rfl hd hf (W := W) (by show 2 * 0 + _ ≤ _; omega) hlo (cap := cap) (by omega) hk hn
  exact Done.go step (K T' h' _ rfl ex ⟨cloneOf cl, A', q, r⟩ E' ⟨_, X', N, eT'⟩)
theorem k_checkcast (S : St p l e R s m args below meth c n0 T h k n) (hx : p.tables.exec = Jvm.exec) (hZ : Z.Warmed39 s.vm) {own C : String} {index : Nat} (hown : s.vm.findClass own = some m.cls) (w : (Jvm.Cond.classLink own index C).before a0 Z = true)
    (F : Ins Z h a C true) (hd : decode c.code pc = .ok (.checkcast index, 3)) (hp : pc + 3 = pc')
    (K : ∀ T', St p l e R s m args below meth c n0 T' h k n → Done p e below G (T'.setTop (mkF m pc' Ls (.ref a :: st)))) : Done p e below G (T.setTop (mkF m pc Ls (.ref a :: st))) := by
  subst hp
  obtain ⟨locs, X, N, eT⟩ := S
  obtain ⟨T', X', eT', step⟩ := castY X hx hZ hown w eT F (g := mkF m pc Ls (.ref a :: st)) rfl rfl hd
  exact Done.go step (K T' ⟨_, X', N, eT'⟩)
end Arrays
end Jvm.OwnKit
namespace Jvm.OwnKit
open Sem ClassFile Op Lib Jvm.Stand Jvm.Free Jvm.LawKit Jvm.RoadKit
/-! My own layer: a private method called by invokevirtual, where the sheet's 'selects' word is of another method of the same class (it says that the class is no interface). -/
section Priv
variable {p : Program} {l : Launch} {e : Env} {R : Room} {s : State} {m : MethodId} {args : Array Value} {below : List Frame} {meth : Method} {c : Code} {n0 : Nat} {T : State} {h : Heap} {k n : Nat} {Z : State} {a0 : Array Value}
variable {G : Outcome → State → Prop} {pc pc' : Nat} {Ls : Array Slot} {st : List Value} {Q : Option Value → Heap → Prop}
theorem k_call_priv (S : St p l e R s m args below meth c n0 T h k n) (hx : p.tables.exec = Jvm.exec) (hZ : Z.Warmed39 s.vm) {own : String} {index : Nat} {y y2 : MethodName} {bytes : ByteArray} {maxL : Nat} {ret : Option FieldType} (hown : s.vm.findClass own = some m.cls) {a : Addr} (E : Exa Z h a y.cls)
    (w1 : (Jvm.Cond.methodLink own index y).before a0 Z = true) (w6 : (Jvm.Cond.instanceMethod y).before a0 Z = true) (w5 : (Jvm.Cond.selects y2.cls y2 y2).before a0 Z = true) (hcls : y2.cls = y.cls) (w7 : (Jvm.Cond.privateMethod y).before a0 Z = true) (w3 : (Jvm.Cond.initialized y.cls).before a0 Z = true) (w4 : (Jvm.Cond.code y bytes maxL ret).before a0 Z = true)
    (hy : y.cls ≠ "java/lang/invoke/MethodHandle" ∧ y.cls ≠ "java/lang/invoke/VarHandle") {rm : Room} {as' : Array Value} (C : Con l Z y bytes maxL ret rm n0 h as' Q) (W : Nat) {argsL rest : List Value}
    (hf : rm.frames + 1 ≤ R.frames) (hl : W + (maxL + 11) + rm.locals ≤ R.locals) (hml : Ls.size = c.maxLocals) (hlen : ∀ sig, parseMethodDescriptor y.desc = some sig → argsL.length = sig.parameters.length) (has : (.ref a :: argsL).toArray = as')
    (hst : st = argsL.reverse ++ .ref a :: rest) (hW : (rest.map fun v => v.category).sum ≤ W) (hd : decode c.code pc = .ok (.invokevirtual index, 3)) (hp : pc + 3 = pc') (hk : k + rm.cells ≤ R.cells) (hn : n + rm.slots ≤ R.slots)
    (K : ∀ v T' h', Q v h' → St p l e R s m args below meth c n0 T' h' (k + rm.cells) (n + rm.slots) → Done p e below G (T'.setTop (mkF m pc' Ls (v.toList ++ rest)))) :
    Done p e below G (T.setTop (mkF m pc Ls st)) := by
  subst hp
  obtain ⟨locs, X, N, eT⟩ := S
  obtain ⟨cq, q1, q2⟩ := E.cell
  have u1 : (Jvm.Cond.methodLink own index y).before args s = true := mvT hZ w1
  have u4 : (Jvm.Cond.code y bytes maxL ret).before args s = true := mvT hZ w4
  have u5 : (Jvm.Cond.selects y2.cls y2 y2).before args s = true := mvT hZ w5
  have u6 : (Jvm.Cond.instanceMethod y).before args s = true := mvT hZ w6
  obtain ⟨mk, mM, hnamed, -, -, -⟩ := Cond.instanceMethod_spec u6
  obtain ⟨c2, r2, m2, -, -, g3, -, kP, hkP, hkPi⟩ := Cond.selects_spec u5
  have f1 := findClass_of_methodNamed g3
  have f2 := findClass_of_methodNamed hnamed
  rw [hcls] at f1
  have hp := Cond.privateMethod_at (mvP hZ w7 (args := #[]))
  have sel : (Jvm.Cond.selects y.cls y y).before args s = true := selects_self_of_private f1 hkP hkPi hp u6 hy
  obtain ⟨v, vm₁, ⟨T', L', k', n'⟩, -, X', ⟨L, ⟨hQ, NL⟩, e1, e2, e3⟩, step⟩ := X.privateBack hx (y := y) hown u1 u6 sel hp u4 hy
    (backOf (W := W) (Q := fun v h L => Q v h ∧ Fr n0 L) (C []) hZ w4 w3 hf hl) (g := mkF m pc Ls st) rfl hml (Steps.refl _) (a := a) (by rw [eT]; exact q1) q2 (argsL := argsL) (rest := rest) hlen hst (by show 2 * 0 + _ ≤ _; omega) hd
    (fun _ _ => ⟨has, eT, hk, hn⟩)
  dsimp only [Pt.U, Pt.locs, Pt.cells, Pt.slots] at X' hQ e1 e2 e3 step
  subst e1 e2 e3
  exact Done.go (fun t q => step.trans q) (K v T' T'.heap hQ ⟨_, X', Fr.app N NL, rfl⟩)
end Priv
end Jvm.OwnKit
namespace Jvm.OwnKit
open Sem ClassFile Op Lib Jvm.Stand Jvm.Free Jvm.LawKit Jvm.RoadKit
section Copy
variable {p : Program} {l : Launch} {e : Env} {R : Room} {s : State} {m : MethodId} {args : Array Value} {below : List Frame} {meth : Method} {c : Code} {n0 : Nat} {T : State} {h : Heap} {k n : Nat} {Z : State} {a0 : Array Value}
variable {G : Outcome → State → Prop} {pc pc' : Nat} {Ls : Array Slot} {st : List Value} {a b : Addr} {xs xs' : List Int32}
/-- a copy between int arrays (or within one), of which only what is kept is told -/
theorem k_arraycopyK {nn sp dp : Int32} (S : St p l e R s m args below meth c n0 T h k n) (hx : p.tables.exec = Jvm.exec) (hZ : Z.Warmed39 s.vm) {own : String} {index : Nat} (hown : s.vm.findClass own = some m.cls)
    (w1 : (Jvm.Cond.methodLink own index Jvm.Stand.acN).before a0 Z = true) (w2 : (Jvm.Cond.native Jvm.Stand.acN).before a0 Z = true) (w3 : (Jvm.Cond.static Jvm.Stand.acN).before a0 Z = true) (w4 : (Jvm.Cond.initialized "java/lang/System").before a0 Z = true)
    (A : IV Z h a xs) (B : IV Z h b xs') (h1 : 0 ≤ nn.toInt) (h2 : 0 ≤ sp.toInt) (h4 : 0 ≤ dp.toInt) (h5 : sp.toInt + nn.toInt ≤ xs.length) (h3 : dp.toInt + nn.toInt ≤ xs'.length) (ge : n0 ≤ b) (hml : Ls.size = c.maxLocals) (hd : decode c.code pc = .ok (.invokestatic index, 3)) (hf : 1 ≤ R.frames) (W : Nat) (hW : (st.map fun v => v.category).sum ≤ W) (hlo : W + 18 ≤ R.locals) (hp : pc + 3 = pc')
    (K : ∀ T' h', Keep h h' [b] → St p l e R s m args below meth c n0 T' h' k n → Done p e below G (T'.setTop (mkF m pc' Ls st))) :
    Done p e below G (T.setTop (mkF m pc Ls (.int nn :: .int dp :: .ref b :: .int sp :: .ref a :: st))) := by
  subst hp
  obtain ⟨_, X, N, eT⟩ := S
  have la := A.len
  have lb := B.len
  obtain ⟨ka, Aa⟩ := A.arv
  obtain ⟨kb, Bb⟩ := B.arv
  have ea : xs.length.toInt32.toInt = (xs.length : Int) := Int32.toInt_ofNat_of_lt la
  have eb : xs'.length.toInt32.toInt = (xs'.length : Int) := Int32.toInt_ofNat_of_lt lb
  obtain ⟨T', h', L, X', eT', N', Kp, -, step⟩ := cpA X hx hZ hown w1 w2 w3 w4 eT (sp := sp) (dp := dp) (nn := nn) Aa Bb (Or.inl ⟨rfl, rfl⟩) (by rw [Int32.lt_iff_toInt_lt]; show ¬ sp.toInt < 0; omega) (by rw [Int32.lt_iff_toInt_lt]; show ¬ dp.toInt < 0; omega) (by rw [Int32.lt_iff_toInt_lt]; show ¬ nn.toInt < 0; omega)
    (by show sp.toInt.toNat + nn.toInt.toNat ≤ xs.length.toInt32.toInt.toNat; omega) (by show dp.toInt.toNat + nn.toInt.toNat ≤ xs'.length.toInt32.toInt.toNat; omega) rfl
    (by show dp.toInt.toNat + nn.toInt.toNat ≤ _; rw [List.length_map]; omega) N ge (g := mkF m pc Ls (.int nn :: .int dp :: .ref b :: .int sp :: .ref a :: st)) rfl hml rfl hd hf (W := W) (by show 2 * 0 + _ ≤ _; omega) (by show W + 18 ≤ _; exact hlo)
  exact Done.go step (K T' h' Kp ⟨_, X', N', eT'⟩)
end Copy
end Jvm.OwnKit
namespace Jvm.Pilot.@@N@@
open Jvm Jvm.ClassFile Sem Op Lib Jvm.Free Jvm.Stand Jvm.LawKit Jvm.RoadKit Jvm.OwnKit Bundle Jvm.Pilot.@@N@@.Jvm.D
def own_min (x y : Int32) : Int32 := if y < x then y else x
/-- the table: tb holds just the elements of P, each reached from its home without a gap -/
def own_TB (tb : List Int32) (N : Nat) (H : Int32 → Nat) (P : Int32 → Prop) : Prop :=
  (N = 8 ∨ N = 16) ∧ tb.length = N ∧ (∀ x, H x < N) ∧
  (∀ p, p < N → tb.getD p 0 ≠ -1 → P (tb.getD p 0)) ∧
  (∀ x, P x → x ≠ -1 ∧ ∃ j, j < N ∧ tb.getD ((H x + j) % N) 0 = x ∧ ∀ i, i < j → tb.getD ((H x + i) % N) 0 ≠ -1) ∧
  (∀ p q, p < N → q < N → tb.getD p 0 = tb.getD q 0 → tb.getD p 0 ≠ -1 → p = q)
def own_EM (tb : List Int32) (N : Nat) : Prop := ∃ p, p < N ∧ tb.getD p 0 = -1
theorem own_set_eq {cs : List Int32} {p : Nat} {v : Int32} (h : p < cs.length) : (cs.set p v).getD p 0 = v := by
  simp [List.getD_eq_getElem?_getD, h]
theorem own_set_ne {cs : List Int32} {p q : Nat} {v : Int32} (h : p ≠ q) : (cs.set p v).getD q 0 = cs.getD q 0 := by
  simp [List.getD_eq_getElem?_getD, List.getElem?_set_ne h]
theorem own_T_yes {tb : List Int32} {N : Nat} {H : Int32 → Nat} {P : Int32 → Prop} (T : own_TB tb N H P) {x : Int32} {p : Nat} (hp : p < N) (h : tb.getD p 0 = x) (hx : x ≠ -1) : P x := by
  have := T.2.2.2.1 p hp (by rw [h]; exact hx)
  rwa [h] at this
theorem own_T_no {tb : List Int32} {N : Nat} {H : Int32 → Nat} {P : Int32 → Prop} (T : own_TB tb N H P) {x : Int32} (hx : x ≠ -1) {j : Nat} (h : tb.getD ((H x + j) % N) 0 = -1) (hb : ∀ i, i < j → tb.getD ((H x + i) % N) 0 ≠ x) : ¬ P x := fun z => by
  obtain ⟨-, j0, -, q1, q2⟩ := T.2.2.2.2.1 x z
  by_cases e : j0 < j
  · exact hb j0 e q1
  · by_cases e2 : j0 = j
    · subst e2; exact hx (q1.symm.trans h)
    · exact q2 j (by omega) h
theorem own_jlt {tb : List Int32} {N : Nat} {H : Int32 → Nat} {x : Int32} (hN : N = 8 ∨ N = 16) (hH : H x < N) (em : own_EM tb N) {j : Nat} (h : ∀ i, i < j → tb.getD ((H x + i) % N) 0 ≠ -1) : j < N := by
  obtain ⟨p, hp, q⟩ := em
  refine Classical.byContradiction fun z => ?_
  have e : (H x + (p + N - H x) % N) % N = p := by rcases hN with rfl | rfl <;> omega
  exact h ((p + N - H x) % N) (by rcases hN with rfl | rfl <;> omega) (by rw [e]; exact q)
/-- the count of what isn't empty -/
def own_cnt (tb : List Int32) : Nat := tb.countP (fun y => y != -1)
theorem own_em_of {tb : List Int32} {N : Nat} (hl : tb.length = N) (h : own_cnt tb < N) : own_EM tb N := by
  refine Classical.byContradiction fun z => ?_
  have : own_cnt tb = tb.length := by
    unfold own_cnt
    rw [List.countP_eq_length]
    intro a ha
    obtain ⟨k, hk, rfl⟩ := List.getElem_of_mem ha
    have : ¬ tb.getD k 0 = -1 := fun y => z ⟨k, by omega, y⟩
    rw [List.getD_eq_getElem?_getD, List.getElem?_eq_getElem hk] at this
    simpa using this
  omega
theorem own_cnt_set {tb : List Int32} {p : Nat} {x : Int32} (hp : p < tb.length) (h : tb.getD p 0 = -1) (hx : x ≠ -1) : own_cnt (tb.set p x) = own_cnt tb + 1 := by
  unfold own_cnt
  rw [List.countP_set hp]
  have e : tb[p] = -1 := by rw [List.getD_eq_getElem?_getD, List.getElem?_eq_getElem hp] at h; exact h
  rw [e]; simp [hx]
theorem own_T_put {tb : List Int32} {N : Nat} {H : Int32 → Nat} {P : Int32 → Prop} (T : own_TB tb N H P) {x : Int32} (hx : x ≠ -1) (hn : ¬ P x) {j : Nat} (hj : j < N) (h : tb.getD ((H x + j) % N) 0 = -1) (hb : ∀ i, i < j → tb.getD ((H x + i) % N) 0 ≠ -1) :
    own_TB (tb.set ((H x + j) % N) x) N H (fun y => P y ∨ y = x) := by
  obtain ⟨hN, hl, hH, t1, t2, t3⟩ := T
  have hpN : (H x + j) % N < N := Nat.mod_lt _ (by omega)
  have new : (tb.set ((H x + j) % N) x).getD ((H x + j) % N) 0 = x := own_set_eq (by omega)
  have ne : ∀ q, tb.getD q 0 ≠ -1 → (tb.set ((H x + j) % N) x).getD q 0 = tb.getD q 0 := fun q hq => own_set_ne fun z => by rw [← z] at hq; exact hq h
  refine ⟨hN, by simpa using hl, hH, fun p hp hne => ?_, fun y hy => ?_, fun p q hp hq he hne => ?_⟩
  · by_cases e : (H x + j) % N = p
    · subst e; exact Or.inr new
    · rw [own_set_ne e] at hne ⊢; exact Or.inl (t1 p hp hne)
  · rcases hy with hy | rfl
    · obtain ⟨y0, j0, q0, q1, q2⟩ := t2 y hy
      exact ⟨y0, j0, q0, by rw [ne _ (by rw [q1]; exact y0)]; exact q1, fun i hi => by rw [ne _ (q2 i hi)]; exact q2 i hi⟩
    · exact ⟨hx, j, hj, new, fun i hi => by rw [ne _ (hb i hi)]; exact hb i hi⟩
  · by_cases e1 : (H x + j) % N = p
    · by_cases e2 : (H x + j) % N = q
      · omega
      · subst e1; rw [new, own_set_ne e2] at he
        exact absurd (t1 q hq (by rw [← he]; exact hx)) (by rw [← he]; exact hn)
    · by_cases e2 : (H x + j) % N = q
      · subst e2; rw [new, own_set_ne e1] at he; rw [own_set_ne e1] at hne
        exact absurd (t1 p hp hne) (by rw [he]; exact hn)
      · rw [own_set_ne e1, own_set_ne e2] at he; rw [own_set_ne e1] at hne; exact t3 p q hp hq he hne
theorem own_rep (m q : Nat) (h : q < m) : (List.replicate m (-1 : Int32)).getD q 0 = -1 := by
  rw [List.getD_eq_getElem?_getD, List.getElem?_replicate, if_pos h]; rfl
theorem own_T_0 (N : Nat) (hN : N = 8 ∨ N = 16) (H : Int32 → Nat) (hH : ∀ x, H x < N) : own_TB (List.replicate N (-1)) N H (fun _ => False) :=
  ⟨hN, by simp, hH, fun p hp h => absurd (own_rep N p hp) h, fun _ h => h.elim, fun p q hp _ _ h => absurd (own_rep N p hp) h⟩
theorem own_cnt_0 (N : Nat) : own_cnt (List.replicate N (-1)) = 0 := by
  unfold own_cnt; rw [List.countP_replicate]; simp
/-- while the hole is moved on: it lies at ho, nx is m places behind it -/
def own_DL (tb : List Int32) (N : Nat) (H : Int32 → Nat) (P : Int32 → Prop) (ho m pe : Nat) : Prop :=
  ((N = 8 ∨ N = 16) ∧ tb.length = N ∧ (∀ x, H x < N)) ∧ (ho < N ∧ 1 ≤ m ∧ m < N ∧ pe < N ∧ pe ≠ ho ∧ tb.getD pe 0 = -1) ∧
  (∀ p, p < N → p ≠ ho → tb.getD p 0 ≠ -1 → P (tb.getD p 0)) ∧
  (∀ y, P y → y ≠ -1 ∧ ∃ j, j < N ∧ (H y + j) % N ≠ ho ∧ tb.getD ((H y + j) % N) 0 = y ∧ ∀ i, i < j → ((H y + i) % N ≠ ho ∧ tb.getD ((H y + i) % N) 0 ≠ -1) ∨ ((H y + i) % N = ho ∧ ∃ k, m ≤ k ∧ k < N ∧ (H y + j) % N = (ho + k) % N)) ∧
  (∀ p q, p < N → q < N → p ≠ ho → q ≠ ho → tb.getD p 0 = tb.getD q 0 → tb.getD p 0 ≠ -1 → p = q) ∧
  (∀ i, 0 < i → i < m → tb.getD ((ho + i) % N) 0 ≠ -1)
theorem own_D_start {tb : List Int32} {N : Nat} {H : Int32 → Nat} {P : Int32 → Prop} (T : own_TB tb N H P) {x : Int32} {ho pe : Nat} (hho : ho < N) (hx : tb.getD ho 0 = x) (hx1 : x ≠ -1) (hpe : pe < N) (he : tb.getD pe 0 = -1) : own_DL tb N H (fun y => P y ∧ y ≠ x) ho 1 pe := by
  obtain ⟨hN, hl, hH, t1, t2, t3⟩ := T
  refine ⟨⟨hN, hl, hH⟩, ⟨hho, by omega, by rcases hN with rfl | rfl <;> omega, hpe, fun z => by rw [z, hx] at he; exact hx1 he, he⟩, fun p hp hne h => ⟨t1 p hp h, fun z => hne (t3 p ho hp hho (z.trans hx.symm) h)⟩, fun y hy => ?_, fun p q hp hq _ _ e h => t3 p q hp hq e h, fun i h1 h2 => by omega⟩
  obtain ⟨y0, j, q0, q1, q2⟩ := t2 y hy.1
  have hn : (H y + j) % N ≠ ho := fun z => by rw [z, hx] at q1; exact hy.2 q1.symm
  have hjN : (H y + j) % N < N := Nat.mod_lt _ (by omega)
  refine ⟨y0, j, q0, hn, q1, fun i hi => ?_⟩
  by_cases e : (H y + i) % N = ho
  · refine Or.inr ⟨e, ((H y + j) % N + N - ho) % N, ?_, Nat.mod_lt _ (by omega), ?_⟩
    · rcases hN with rfl | rfl <;> omega
    · rcases hN with rfl | rfl <;> omega
  · exact Or.inl ⟨e, q2 i hi⟩
theorem own_D_stay {tb : List Int32} {N : Nat} {H : Int32 → Nat} {P : Int32 → Prop} {ho m pe : Nat} (D : own_DL tb N H P ho m pe) {y : Int32} (hy : tb.getD ((ho + m) % N) 0 = y) (hy1 : y ≠ -1) (hc : ((ho + m) % N + N - H y) % N < m) : own_DL tb N H P ho (m + 1) pe := by
  obtain ⟨⟨hN, hl, hH⟩, ⟨b1, b2, b3, b4, b5, b6⟩, d1, d2, d3, d4⟩ := D
  have hnx : (ho + m) % N < N := Nat.mod_lt _ (by omega)
  have hnh : (ho + m) % N ≠ ho := by rcases hN with rfl | rfl <;> omega
  have hm1 : m + 1 < N := by
    refine Classical.byContradiction fun z => ?_
    have hpe : pe = (ho + (pe + N - ho) % N) % N := by rcases hN with rfl | rfl <;> omega
    by_cases e : (pe + N - ho) % N = m
    · rw [e] at hpe; rw [← hpe] at hy; exact hy1 (hy.symm.trans b6)
    · exact d4 ((pe + N - ho) % N) (by rcases hN with rfl | rfl <;> omega) (by rcases hN with rfl | rfl <;> omega) (by rw [← hpe]; exact b6)
  refine ⟨⟨hN, hl, hH⟩, ⟨b1, by omega, hm1, b4, b5, b6⟩, d1, fun z hz => ?_, d3, fun i h1 h2 => ?_⟩
  · obtain ⟨z0, j, q0, qh, q1, q2⟩ := d2 z hz
    refine ⟨z0, j, q0, qh, q1, fun i hi => ?_⟩
    rcases q2 i hi with h | ⟨h, k, k1, k2, k3⟩
    · exact Or.inl h
    · refine Or.inr ⟨h, k, ?_, k2, k3⟩
      by_cases e : k = m
      · subst e
        have ezy : z = y := by rw [← q1, k3]; exact hy
        subst ezy
        have hH' := hH z
        exfalso
        rcases hN with rfl | rfl <;> omega
      · omega
  · by_cases e : i = m
    · subst e; rw [hy]; exact hy1
    · exact d4 i h1 (by omega)
theorem own_D_move {tb : List Int32} {N : Nat} {H : Int32 → Nat} {P : Int32 → Prop} {ho m pe : Nat} (D : own_DL tb N H P ho m pe) {y : Int32} (hy : tb.getD ((ho + m) % N) 0 = y) (hy1 : y ≠ -1) (hc : ¬ ((ho + m) % N + N - H y) % N < m) : own_DL (tb.set ho y) N H P ((ho + m) % N) 1 pe := by
  obtain ⟨⟨hN, hl, hH⟩, ⟨b1, b2, b3, b4, b5, b6⟩, d1, d2, d3, d4⟩ := D
  have hnx : (ho + m) % N < N := Nat.mod_lt _ (by omega)
  have hnh : ho ≠ (ho + m) % N := by rcases hN with rfl | rfl <;> omega
  have new : (tb.set ho y).getD ho 0 = y := own_set_eq (by omega)
  have Py : P y := by have := d1 _ hnx (Ne.symm hnh) (by rw [hy]; exact hy1); rwa [hy] at this
  have epe : pe ≠ (ho + m) % N := fun z => by rw [← z, b6] at hy; exact hy1 hy.symm
  refine ⟨⟨hN, by simpa using hl, hH⟩, ⟨hnx, by omega, by rcases hN with rfl | rfl <;> omega, b4, epe, by rw [own_set_ne (Ne.symm b5)]; exact b6⟩, fun p hp hne h => ?_, fun z hz => ?_, fun p q hp hq np nq e h => ?_, fun i h1 h2 => by omega⟩
  · by_cases e : ho = p
    · subst e; rw [new]; exact Py
    · rw [own_set_ne e] at h ⊢; exact d1 p hp (Ne.symm e) h
  · obtain ⟨z0, j, q0, qh, q1, q2⟩ := d2 z hz
    by_cases ezy : z = y
    · subst ezy
      have ej : (H z + j) % N = (ho + m) % N := d3 _ _ (Nat.mod_lt _ (by omega)) hnx qh (Ne.symm hnh) (q1.trans hy.symm) (by rw [q1]; exact z0)
      have hH' := hH z
      have hjm : m ≤ j := by rcases hN with rfl | rfl <;> omega
      have eh : (H z + (j - m)) % N = ho := by rcases hN with rfl | rfl <;> omega
      refine ⟨z0, j - m, by omega, by rw [eh]; exact hnh, by rw [eh]; exact new, fun i hi => ?_⟩
      have ni : (H z + i) % N ≠ ho := by rcases hN with rfl | rfl <;> omega
      have ni2 : (H z + i) % N ≠ (ho + m) % N := by rcases hN with rfl | rfl <;> omega
      rcases q2 i (by omega) with h | h
      · exact Or.inl ⟨ni2, by rw [own_set_ne (Ne.symm ni)]; exact h.2⟩
      · exact absurd h.1 ni
    · have nz : (H z + j) % N ≠ (ho + m) % N := fun w => by rw [w, hy] at q1; exact ezy q1.symm
      refine ⟨z0, j, q0, nz, by rw [own_set_ne (Ne.symm qh)]; exact q1, fun i hi => ?_⟩
      by_cases e2 : (H z + i) % N = (ho + m) % N
      · refine Or.inr ⟨e2, ((H z + j) % N + N - (ho + m) % N) % N, ?_, Nat.mod_lt _ (by omega), ?_⟩
        · rcases hN with rfl | rfl <;> omega
        · rcases hN with rfl | rfl <;> omega
      · refine Or.inl ⟨e2, ?_⟩
        by_cases e3 : ho = (H z + i) % N
        · rw [← e3, new]; exact hy1
        · rw [own_set_ne e3]
          rcases q2 i hi with h | h
          · exact h.2
          · exact absurd h.1 (Ne.symm e3)
  · have eqy : ∀ q, q < N → q ≠ ho → q ≠ (ho + m) % N → tb.getD q 0 ≠ y := fun q hq n1 n2 w => n2 (d3 q _ hq hnx n1 (Ne.symm hnh) (w.trans hy.symm) (by rw [w]; exact hy1))
    by_cases e1 : ho = p
    · by_cases e2 : ho = q
      · omega
      · subst e1; rw [new, own_set_ne e2] at e; exact absurd e.symm (eqy q hq (Ne.symm e2) nq)
    · by_cases e2 : ho = q
      · subst e2; rw [new, own_set_ne e1] at e; exact absurd e (eqy p hp (Ne.symm e1) np)
      · rw [own_set_ne e1, own_set_ne e2] at e; rw [own_set_ne e1] at h; exact d3 p q hp hq (Ne.symm e1) (Ne.symm e2) e h
theorem own_D_end {tb : List Int32} {N : Nat} {H : Int32 → Nat} {P : Int32 → Prop} {ho m pe : Nat} (D : own_DL tb N H P ho m pe) (hy : tb.getD ((ho + m) % N) 0 = -1) : own_TB (tb.set ho (-1)) N H P ∧ own_EM (tb.set ho (-1)) N := by
  obtain ⟨⟨hN, hl, hH⟩, ⟨b1, b2, b3, b4, b5, b6⟩, d1, d2, d3, d4⟩ := D
  have new : (tb.set ho (-1)).getD ho 0 = -1 := own_set_eq (by omega)
  refine ⟨⟨hN, by simpa using hl, hH, fun p hp h => ?_, fun y hy' => ?_, fun p q hp hq e h => ?_⟩, ho, b1, new⟩
  · by_cases e : ho = p
    · subst e; exact absurd new h
    · rw [own_set_ne e] at h ⊢; exact d1 p hp (Ne.symm e) h
  · obtain ⟨y0, j, q0, qh, q1, q2⟩ := d2 y hy'
    refine ⟨y0, j, q0, by rw [own_set_ne (Ne.symm qh)]; exact q1, fun i hi => ?_⟩
    rcases q2 i hi with h | ⟨h, k, k1, k2, k3⟩
    · rw [own_set_ne (Ne.symm h.1)]; exact h.2
    · exfalso
      have hH' := hH y
      by_cases e : k = m
      · subst e; rw [k3] at q1; exact y0 (q1.symm.trans hy)
      · have ei : (H y + (i + m)) % N = (ho + m) % N := by rcases hN with rfl | rfl <;> omega
        have hij : i + m < j := by rcases hN with rfl | rfl <;> omega
        rcases q2 (i + m) hij with g | g
        · rw [ei] at g; exact g.2 hy
        · rw [ei] at g; rcases hN with rfl | rfl <;> omega
  · by_cases e1 : ho = p
    · subst e1; exact absurd new h
    · by_cases e2 : ho = q
      · subst e2; rw [e] at h; exact absurd new h
      · rw [own_set_ne e1, own_set_ne e2] at e; rw [own_set_ne e1] at h; exact d3 p q hp hq (Ne.symm e1) (Ne.symm e2) e h
def own_slot (x sh : Int32) : Int32 := ((x * (-1640531527)).toUInt32 >>> (sh &&& 31).toUInt32).toInt32
def own_H (sh x : Int32) : Nat := (own_slot x sh).toInt.toNat
def own_geo (N : Nat) (sh : Int32) : Prop := (N = 8 ∧ sh = 29) ∨ (N = 16 ∧ sh = 28)
theorem own_slot_b {N : Nat} {sh : Int32} (g : own_geo N sh) (x : Int32) : 0 ≤ (own_slot x sh).toInt ∧ (own_slot x sh).toInt < N := by
  unfold own_slot
  rcases g with ⟨rfl, rfl⟩ | ⟨rfl, rfl⟩
  · rw [c_iushr (x * (-1640531527)) 29 29 (by decide) (by decide)]; omega
  · rw [c_iushr (x * (-1640531527)) 28 28 (by decide) (by decide)]; omega
theorem own_H_lt {N : Nat} {sh : Int32} (g : own_geo N sh) (x : Int32) : own_H sh x < N := by have q := own_slot_b g x; unfold own_H; omega
theorem own_H_eq {N : Nat} {sh : Int32} (g : own_geo N sh) (x : Int32) : (own_slot x sh).toInt = ((own_H sh x : Nat) : Int) := by have q := own_slot_b g x; unfold own_H; omega
def own_MK (N : Nat) (mk : Int32) : Prop := (N = 8 ∧ mk = 7) ∨ (N = 16 ∧ mk = 15)
theorem own_mk {tb : List Int32} {N : Nat} {sh : Int32} (g : own_geo N sh) (hl : tb.length = N) : own_MK N (tb.length.toInt32 - 1) := by
  rw [hl]
  rcases g with ⟨rfl, _⟩ | ⟨rfl, _⟩
  · exact Or.inl ⟨rfl, by decide⟩
  · exact Or.inr ⟨rfl, by decide⟩
theorem own_msk {N : Nat} {mk : Int32} (h : own_MK N mk) (y : Int32) : (y &&& mk).toInt = y.toInt % N := by
  rcases h with ⟨rfl, rfl⟩ | ⟨rfl, rfl⟩
  · exact c_mask y 7 3 (by decide) (by decide)
  · exact c_mask y 15 4 (by decide) (by decide)
theorem own_nxt {N : Nat} {mk p : Int32} {q : Nat} (h : own_MK N mk) (hp : p.toInt = (q : Int)) (hq : q < N) : ((p + 1) &&& mk).toInt = (((q + 1) % N : Nat) : Int) := by
  have e : (p + 1).toInt = (q : Int) + 1 := by
    have r := c_iadd p 1
    have r2 := rng32 (p + 1)
    have e1 : (1 : Int32).toInt = 1 := rfl
    have : N ≤ 16 := by rcases h with ⟨h, _⟩ | ⟨h, _⟩ <;> omega
    omega
  have hN : N = 8 ∨ N = 16 := by rcases h with ⟨h, _⟩ | ⟨h, _⟩ <;> omega
  rw [own_msk h, e]
  rcases hN with rfl | rfl <;> omega
theorem own_dif {N : Nat} {mk a b : Int32} {x y : Nat} (h : own_MK N mk) (ha : a.toInt = (x : Int)) (hb : b.toInt = (y : Int)) (hx : x < N) (hy : y < N) : ((a - b) &&& mk).toInt = (((x + N - y) % N : Nat) : Int) := by
  have hN : N = 8 ∨ N = 16 := by rcases h with ⟨h, _⟩ | ⟨h, _⟩ <;> omega
  have e : (a - b).toInt = (x : Int) - y := by
    have r := c_isub a b
    have r2 := rng32 (a - b)
    omega
  rw [own_msk h, e]
  rcases hN with rfl | rfl <;> omega
theorem own_TB_iff {tb : List Int32} {N : Nat} {H : Int32 → Nat} {P P' : Int32 → Prop} (h : ∀ y, P y ↔ P' y) (T : own_TB tb N H P) : own_TB tb N H P' := by
  have : P = P' := funext fun y => propext (h y)
  subst this; exact T
/-- the whole set -/
def own_ST (al tb : List Int32) (k N : Nat) (sh : Int32) (P : Int32 → Prop) : Prop :=
  own_geo N sh ∧ own_TB tb N (own_H sh) P ∧ own_cnt tb = k ∧ (∀ y, P y ↔ ∃ i, i < k ∧ al.getD i 0 = y) ∧ (∀ i j, i < j → j < k → al.getD i 0 ≠ al.getD j 0) ∧ ((k ≤ 4 ∧ al.length = 4 ∧ N = 8) ∨ (k = 5 ∧ al.length = 8 ∧ N = 16))
/-- ahead of the new one's writing -/
def own_PR (al tb : List Int32) (k N : Nat) (sh : Int32) (P : Int32 → Prop) : Prop :=
  own_geo N sh ∧ own_TB tb N (own_H sh) P ∧ own_cnt tb = k ∧ (∀ y, P y ↔ ∃ i, i < k ∧ al.getD i 0 = y) ∧ (∀ i j, i < j → j < k → al.getD i 0 ≠ al.getD j 0) ∧ ((k < 4 ∧ al.length = 4 ∧ N = 8) ∨ (k = 4 ∧ al.length = 8 ∧ N = 16))
theorem own_ST_iff {al tb : List Int32} {k N : Nat} {sh : Int32} {P P' : Int32 → Prop} (h : ∀ y, P y ↔ P' y) (T : own_ST al tb k N sh P) : own_ST al tb k N sh P' := by
  have : P = P' := funext fun y => propext (h y)
  subst this; exact T
theorem own_ST_em {al tb : List Int32} {k N : Nat} {sh : Int32} {P : Int32 → Prop} (T : own_ST al tb k N sh P) : own_EM tb N := by
  obtain ⟨g, t, c, -, -, h⟩ := T
  exact own_em_of t.2.1 (by omega)
theorem own_ST_pr {al tb : List Int32} {k N : Nat} {sh : Int32} {P : Int32 → Prop} (T : own_ST al tb k N sh P) (hk : k < 4) : own_PR al tb k N sh P :=
  ⟨T.1, T.2.1, T.2.2.1, T.2.2.2.1, T.2.2.2.2.1, by have := T.2.2.2.2.2; omega⟩
theorem own_PR_st {al tb tb' : List Int32} {k N : Nat} {sh x : Int32} {P : Int32 → Prop} (T : own_PR al tb k N sh P) (hn : ¬ P x) (t : own_TB tb' N (own_H sh) (fun y => P y ∨ y = x)) (hc : own_cnt tb' = own_cnt tb + 1) : own_ST (al.set k x) tb' (k + 1) N sh (fun y => P y ∨ y = x) := by
  obtain ⟨g, -, c, i1, i2, h⟩ := T
  have hl : k < al.length := by omega
  refine ⟨g, t, by omega, fun y => ⟨fun hy => ?_, fun ⟨i, hi, e⟩ => ?_⟩, fun i j hij hj => ?_, by rw [List.length_set]; omega⟩
  · rcases hy with hy | rfl
    · obtain ⟨i, hi, e⟩ := (i1 y).mp hy
      exact ⟨i, by omega, by rw [own_set_ne (by omega)]; exact e⟩
    · exact ⟨k, by omega, own_set_eq hl⟩
  · by_cases e2 : k = i
    · subst e2; rw [own_set_eq hl] at e; exact Or.inr e.symm
    · rw [own_set_ne e2] at e; exact Or.inl ((i1 y).mpr ⟨i, by omega, e⟩)
  · by_cases e2 : k = j
    · subst e2; rw [own_set_eq hl, own_set_ne (by omega)]
      exact fun z => hn (by rw [← z]; exact (i1 _).mpr ⟨i, by omega, rfl⟩)
    · rw [own_set_ne (show k ≠ i by omega), own_set_ne e2]; exact i2 i j hij (by omega)
/-- the growing table, with the first t of al in it -/
def own_RH (al tb : List Int32) (t : Nat) : Prop := own_TB tb 16 (own_H 28) (fun y => ∃ q, q < t ∧ al.getD q 0 = y) ∧ own_cnt tb = t
theorem own_geo16 : own_geo 16 28 := Or.inr ⟨rfl, rfl⟩
theorem own_RH0 (al : List Int32) : own_RH al (List.replicate 16 (-1)) 0 := ⟨own_TB_iff (fun y => ⟨fun h => h.elim, fun ⟨q, h, _⟩ => by omega⟩) (own_T_0 16 (Or.inr rfl) _ (own_H_lt own_geo16)), own_cnt_0 16⟩
theorem own_RH1 {al tb tb' : List Int32} {t : Nat} (T : own_RH al tb t) (t' : own_TB tb' 16 (own_H 28) (fun y => (∃ q, q < t ∧ al.getD q 0 = y) ∨ y = al.getD t 0)) (hc : own_cnt tb' = own_cnt tb + 1) : own_RH al tb' (t + 1) := by
  refine ⟨own_TB_iff (fun y => ⟨fun h => ?_, fun ⟨q, hq, e⟩ => ?_⟩) t', by rw [hc, T.2]⟩
  · rcases h with ⟨q, hq, e⟩ | rfl
    · exact ⟨q, by omega, e⟩
    · exact ⟨t, by omega, rfl⟩
  · by_cases e2 : q = t
    · subst e2; exact Or.inr e.symm
    · exact Or.inl ⟨q, by omega, e⟩
/-- what a copy to 8 holds -/
theorem own_cp8 {al : List Int32} (hl : al.length = 4) {bl : List Int32} (hb : bl = al.take 4 ++ (List.replicate 8 0).drop 4) : bl.length = 8 ∧ ∀ i, i < 4 → bl.getD i 0 = al.getD i 0 := by
  subst hb
  refine ⟨by simp [hl], fun i hi => ?_⟩
  rw [List.getD_eq_getElem?_getD, List.getElem?_append_left (by simp [hl]; omega), List.getElem?_take_of_lt hi, ← List.getD_eq_getElem?_getD]
theorem own_ST_grow {al bl tb tb' : List Int32} {N : Nat} {sh : Int32} {P : Int32 → Prop} (T : own_ST al tb 4 N sh P) (hb : bl.length = 8 ∧ ∀ i, i < 4 → bl.getD i 0 = al.getD i 0) (R : own_RH bl tb' 4) : own_PR bl tb' 4 16 28 P := by
  obtain ⟨g, t, c, i1, i2, h⟩ := T
  have e : ∀ y, P y ↔ ∃ i, i < 4 ∧ bl.getD i 0 = y := fun y => (i1 y).trans ⟨fun ⟨i, hi, q⟩ => ⟨i, hi, by rw [hb.2 i hi]; exact q⟩, fun ⟨i, hi, q⟩ => ⟨i, hi, by rw [← hb.2 i hi]; exact q⟩⟩
  exact ⟨own_geo16, own_TB_iff (fun y => (e y).symm) R.1, R.2, e, fun i j hij hj => by rw [hb.2 i (by omega), hb.2 j hj]; exact i2 i j hij hj, Or.inr ⟨rfl, hb.1, rfl⟩⟩
theorem own_lt {x y : Int32} : x < y ↔ x.toInt < y.toInt := Int32.lt_iff_toInt_lt
theorem own_incl {d ln : Int32} (h : d.toInt < ln.toInt) : (d + 1).toInt = d.toInt + 1 := by
  have r := c_iadd d 1
  have r2 := rng32 (d + 1)
  have r3 := rng32 ln
  have r4 := rng32 d
  have e1 : (1 : Int32).toInt = 1 := rfl
  omega
theorem own_inc9 {d : Int32} (h0 : 0 ≤ d.toInt) (h : d.toInt < 9) : (d + 1).toInt = d.toInt + 1 := by
  have r := c_iadd d 1
  have r2 := rng32 (d + 1)
  have e1 : (1 : Int32).toInt = 1 := rfl
  omega
theorem own_dec9 {d : Int32} (h0 : 0 ≤ d.toInt) (h : d.toInt < 9) : (d + (-1)).toInt = d.toInt - 1 := by
  have r := c_iadd d (-1)
  have r2 := rng32 (d + (-1))
  have e1 : (-1 : Int32).toInt = -1 := rfl
  omega
theorem own_incN {d : Int32} (h0 : 0 ≤ d.toInt) (h : d.toInt < 9) : (d + 1).toInt.toNat = d.toInt.toNat + 1 := by
  have q := own_inc9 h0 h
  omega
theorem own_five {k : Nat} (h : k ≤ 5) : k = 0 ∨ k = 1 ∨ k = 2 ∨ k = 3 ∨ k = 4 ∨ k = 5 := by omega
theorem own_kk {k : Nat} (h : k ≤ 5) : k.toInt32.toInt = (k : Int) := by
  rcases own_five h with rfl | rfl | rfl | rfl | rfl | rfl <;> rfl
theorem own_kn {k : Nat} (h : k ≤ 5) : k.toInt32.toInt.toNat = k := by
  rcases own_five h with rfl | rfl | rfl | rfl | rfl | rfl <;> rfl
theorem own_k1 {k : Nat} (h : k ≤ 4) : k.toInt32 + 1 = (k + 1).toInt32 := by
  rcases own_five (show k ≤ 5 by omega) with rfl | rfl | rfl | rfl | rfl | rfl <;> rfl
theorem own_2k {k : Nat} (h : k ≤ 4) : ((2 : Int32) * (k.toInt32 + (1 : Int32))).toInt = 2 * (k : Int) + 2 := by
  rcases own_five (show k ≤ 5 by omega) with rfl | rfl | rfl | rfl | rfl | rfl
  · rfl
  · rfl
  · rfl
  · rfl
  · rfl
  · omega
theorem own_km {k : Nat} {i : Int32} (h : k ≤ 5) (h0 : 0 ≤ i.toInt) (h1 : i.toInt < k) : (k.toInt32 - i - (1 : Int32)).toInt = (k : Int) - i.toInt - 1 := by
  have e := own_kk h
  have r := c_isub k.toInt32 i
  have r2 := rng32 (k.toInt32 - i)
  have r3 := c_isub (k.toInt32 - i) 1
  have r4 := rng32 (k.toInt32 - i - 1)
  have e1 : (1 : Int32).toInt = 1 := rfl
  omega
theorem own_km1 {k : Nat} (h : k ≤ 5) (h0 : 0 < k) : (k.toInt32 - (1 : Int32)).toInt = (k : Int) - 1 := by
  have e := own_kk h
  have r := c_isub k.toInt32 1
  have r2 := rng32 (k.toInt32 - 1)
  have e1 : (1 : Int32).toInt = 1 := rfl
  omega
theorem own_p0 {N : Nat} {sh : Int32} (g : own_geo N sh) (x : Int32) : (own_slot x sh).toInt = (((own_H sh x + 0) % N : Nat) : Int) := by
  rw [own_H_eq g, Nat.add_zero, Nat.mod_eq_of_lt (own_H_lt g x)]
theorem own_pn {N hx j q : Nat} {mk po : Int32} (hmk : own_MK N mk) (hp : po.toInt = (q : Int)) (hqe : (hx + j) % N = q) (hqN : q < N) : ((po + 1) &&& mk).toInt = (((hx + (j + 1)) % N : Nat) : Int) := by
  rw [own_nxt hmk hp hqN, ← hqe, Nat.mod_add_mod, Nat.add_assoc]
theorem own_all {A : Nat → Prop} {j : Nat} (h1 : ∀ i, i < j → A i) (h2 : A j) : ∀ i, i < j + 1 → A i := fun i hi => by
  by_cases e : i = j
  · rw [e]; exact h2
  · exact h1 i (by omega)
theorem own_fl {cs : List Int32} {i fv : Int32} (h : ∀ q, q < i.toInt.toNat → cs.getD q 0 = fv) (hl : i.toInt.toNat < cs.length) (h0 : 0 ≤ i.toInt) (hinc : (i + 1).toInt = i.toInt + 1) : ∀ q, q < (i + 1).toInt.toNat → (cs.set i.toInt.toNat fv).getD q 0 = fv := fun q hq => by
  by_cases e : i.toInt.toNat = q
  · rw [← e]; exact own_set_eq hl
  · rw [own_set_ne e]; exact h q (by omega)
theorem own_flend {cs : List Int32} {n : Nat} {fv : Int32} (hl : cs.length = n) (h : ∀ q, q < n → cs.getD q 0 = fv) : cs = List.replicate n fv := by
  apply List.ext_getElem (by simp [hl])
  intro i h1 h2
  have q := h i (by omega)
  rw [List.getD_eq_getElem?_getD, List.getElem?_eq_getElem h1] at q
  rw [List.getElem_replicate]; exact q
theorem own_ST0 : own_ST [0, 0, 0, 0] (List.replicate 8 (-1)) 0 8 29 (fun _ => False) :=
  ⟨Or.inl ⟨rfl, rfl⟩, own_T_0 8 (Or.inl rfl) _ (own_H_lt (Or.inl ⟨rfl, rfl⟩)), own_cnt_0 8, fun y => ⟨False.elim, fun ⟨i, hi, _⟩ => by omega⟩, fun i j h1 h2 => by omega, Or.inl ⟨by omega, rfl, rfl⟩⟩
theorem own_PR_em {al tb : List Int32} {k N : Nat} {sh : Int32} {P : Int32 → Prop} (T : own_PR al tb k N sh P) : own_EM tb N := by
  obtain ⟨g, t, c, -, -, h⟩ := T
  exact own_em_of t.2.1 (by omega)
theorem own_gz {al bl tb : List Int32} {N : Nat} {sh : Int32} {P : Int32 → Prop} (T : own_ST al tb 4 N sh P) (hb : bl.length = 8 ∧ ∀ i, i < 4 → bl.getD i 0 = al.getD i 0) {i : Nat} (hi : i < 4) : bl.getD i 0 ≠ -1 ∧ ¬ ∃ q, q < i ∧ bl.getD q 0 = bl.getD i 0 := by
  obtain ⟨g, t, c, i1, i2, h⟩ := T
  rw [hb.2 i hi]
  refine ⟨(t.2.2.2.2.1 _ ((i1 _).mpr ⟨i, hi, rfl⟩)).1, fun ⟨q, hq, e⟩ => ?_⟩
  rw [hb.2 q (by omega)] at e
  exact i2 q i hq hi e
theorem own_m15 : ∀ z : Int32, (z &&& (15 : Int32)) ≠ -1 := fun z h => by
  have q := c_mask z 15 4 (by decide) (by decide)
  rw [h] at q
  have e1 : (-1 : Int32).toInt = -1 := rfl
  omega
theorem own_m31 : ∀ z : Int32, (z &&& (2147483647 : Int32)) ≠ -1 := fun z h => by
  have q := c_mask z 2147483647 31 (by decide) (by decide)
  rw [h] at q
  have e1 : (-1 : Int32).toInt = -1 := rfl
  omega
theorem own_mlt {N a : Nat} (h : N = 8 ∨ N = 16) : (((a % N : Nat)) : Int) < 17 := by
  rcases h with rfl | rfl <;> omega
theorem own_msd {N pe y f : Nat} (h : N = 8 ∨ N = 16) (hy : y < N) (hp : pe < N) (hne : y ≠ pe) (hm : (((pe + N - y) % N : Nat) : Int) < ((f + 1 : Nat) : Int)) : (((pe + N - (y + 1) % N) % N : Nat) : Int) < (f : Int) := by
  rcases h with rfl | rfl <;> omega
theorem own_cmp {N q2 mm y : Nat} {sh mk nx po z : Int32} (g : own_geo N sh) (hmk : own_MK N mk) (hnx : nx.toInt = (y : Int)) (hp : po.toInt = (q2 : Int)) (hyN : y < N) (hqN : q2 < N) (hmN : mm < N) (hy : (q2 + mm) % N = y) :
    (((nx - own_slot z sh) &&& mk) < ((nx - po) &&& mk)) ↔ ((q2 + mm) % N + N - own_H sh z) % N < mm := by
  rw [own_lt, own_dif hmk hnx (own_H_eq g z) hyN (own_H_lt g z), own_dif hmk hnx hp hyN hqN, hy, Int.ofNat_lt]
  have e : (y + N - q2) % N = mm := by
    have hN : N = 8 ∨ N = 16 := by rcases g with ⟨h, _⟩ | ⟨h, _⟩ <;> omega
    rcases hN with rfl | rfl <;> omega
  rw [e]
theorem own_min_t (x y : Int32) : ((own_min x y).toInt = x.toInt ∨ (own_min x y).toInt = y.toInt) ∧ (own_min x y).toInt ≤ x.toInt ∧ (own_min x y).toInt ≤ y.toInt := by
  unfold own_min; split <;> (rename_i h; rw [own_lt] at h) <;> omega
def own_Q (n j z : Int32) (P : Int32 → Prop) : Int32 → Prop := fun y => P y ∨ (j < n ∧ y = z)
theorem own_Qy {n j z : Int32} {P : Int32 → Prop} (h : j < n) : ∀ y, (P y ∨ y = z) ↔ own_Q n j z P y := fun y => ⟨fun q => q.elim Or.inl (fun e => Or.inr ⟨h, e⟩), fun q => q.elim Or.inl (fun e => Or.inr e.2)⟩
theorem own_Qn {n j z : Int32} {P : Int32 → Prop} (h : ¬ j < n) : ∀ y, P y ↔ own_Q n j z P y := fun y => ⟨Or.inl, fun q => q.elim id (fun e => absurd e.1 h)⟩
theorem own_Q1 {n j z y : Int32} {P : Int32 → Prop} (h : ¬ P y) (h2 : ¬ j < n) : ¬ own_Q n j z P y := fun q => q.elim h (fun e => h2 e.1)
theorem own_Q2 {n j z y : Int32} {P : Int32 → Prop} (h : ¬ P y) (h2 : ¬ y = z) : ¬ own_Q n j z P y := fun q => q.elim h (fun e => h2 e.2)
theorem own_ev {P A : Prop} {ev : Int32} (h : (ev = 1 ∧ P) ∨ (ev = 0 ∧ ¬ P)) (na : ¬ A) : (ev = 1 ∧ (P ∧ ¬ A)) ∨ (ev = 0 ∧ ¬ (P ∧ ¬ A)) :=
  h.elim (fun q => Or.inl ⟨q.1, q.2, na⟩) (fun q => Or.inr ⟨q.1, fun r => q.2 r.1⟩)
theorem own_same {P : Prop} {r ev : Int32} (h : (r = 1 ∧ P) ∨ (r = 0 ∧ ¬ P)) (h2 : (ev = 1 ∧ P) ∨ (ev = 0 ∧ ¬ P)) : r = ev := by
  rcases h with ⟨rfl, a⟩ | ⟨rfl, a⟩ <;> rcases h2 with ⟨rfl, b⟩ | ⟨rfl, b⟩
  · rfl
  · exact absurd a b
  · exact absurd b a
  · rfl
theorem own_r1 {P : Prop} {r : Int32} (h : (r = 1 ∧ P) ∨ (r = 0 ∧ ¬ P)) (p : ¬ r = 0) : P := by
  rcases h with ⟨_, q⟩ | ⟨q, _⟩
  · exact q
  · exact absurd q p
theorem own_r0 {P : Prop} {r : Int32} (h : (r = 1 ∧ P) ∨ (r = 0 ∧ ¬ P)) (p : r = 0) : ¬ P := by
  rcases h with ⟨rfl, _⟩ | ⟨_, q⟩
  · exact absurd p (by decide)
  · exact q
theorem own_len32 {xs : List Int32} (h : xs.length < 2 ^ 31) : xs.length.toInt32.toInt = (xs.length : Int) := Int32.toInt_ofNat_of_lt h
theorem own_mn0 {xs : List Int32} {nl : Int32} (h : xs.length < 2 ^ 31) (h1 : 0 ≤ nl.toInt) : 0 ≤ (own_min xs.length.toInt32 nl).toInt ∧ (own_min xs.length.toInt32 nl).toInt ≤ xs.length ∧ (own_min xs.length.toInt32 nl).toInt ≤ nl.toInt.toNat := by
  have q := own_min_t xs.length.toInt32 nl
  have e := own_len32 h
  omega
theorem own_nlen {xs : List Int32} {n : Int32} (h : xs.length < 2 ^ 31) (h1 : n.toInt < xs.length) : ¬ n = xs.length.toInt32 := fun z => by
  have e := own_len32 h
  rw [← z] at e; omega
/-- the set in the heap -/
def own_OB (Z : State) (h : Heap) (n0 : Nat) (o : Addr) (k : Nat) (P : Int32 → Prop) : Prop := ∃ (a t : Addr) (sh : Int32) (al tb : List Int32) (N : Nat), (Exa Z h o "com/example/entail/entail/tableau/ConceptSet" ∧ Fld Z h o "com/example/entail/entail/tableau/ConceptSet" "added" "[I" (.ref a) ∧ Fld Z h o "com/example/entail/entail/tableau/ConceptSet" "table" "[I" (.ref t) ∧ Fld Z h o "com/example/entail/entail/tableau/ConceptSet" "shift" "I" (.int sh) ∧ Fld Z h o "com/example/entail/entail/tableau/ConceptSet" "size" "I" (.int k.toInt32) ∧ IV Z h a al ∧ IV Z h t tb) ∧ (o ≠ a ∧ o ≠ t ∧ a ≠ t) ∧ (n0 ≤ o ∧ n0 ≤ a ∧ n0 ≤ t) ∧ own_ST al tb k N sh P
def own_OC (Z : State) (h : Heap) (n0 : Nat) (o : Addr) (P : Int32 → Prop) : Prop := ∃ (t : Addr) (sh : Int32) (tb : List Int32) (N : Nat), (Exa Z h o "com/example/entail/entail/tableau/ConceptSet" ∧ Fld Z h o "com/example/entail/entail/tableau/ConceptSet" "table" "[I" (.ref t) ∧ Fld Z h o "com/example/entail/entail/tableau/ConceptSet" "shift" "I" (.int sh) ∧ IV Z h t tb) ∧ n0 ≤ o ∧ own_geo N sh ∧ own_TB tb N (own_H sh) P ∧ own_EM tb N
theorem own_OB_iff {Z : State} {h : Heap} {n0 : Nat} {o : Addr} {k : Nat} {P P' : Int32 → Prop} (q : ∀ y, P y ↔ P' y) (B : own_OB Z h n0 o k P) : own_OB Z h n0 o k P' := by
  have : P = P' := funext fun y => propext (q y)
  subst this; exact B
theorem own_OC_iff {Z : State} {h : Heap} {n0 : Nat} {o : Addr} {P P' : Int32 → Prop} (q : ∀ y, P y ↔ P' y) (B : own_OC Z h n0 o P) : own_OC Z h n0 o P' := by
  have : P = P' := funext fun y => propext (q y)
  subst this; exact B
theorem own_OC_of {Z : State} {h : Heap} {n0 : Nat} {o : Addr} {k : Nat} {P : Int32 → Prop} (B : own_OB Z h n0 o k P) : own_OC Z h n0 o P := by
  obtain ⟨a, t, sh, al, tb, N, ⟨E, Fa, Ft, Fs, Fk, Va, Vt⟩, -, ⟨go, -, -⟩, T⟩ := B
  exact ⟨t, sh, tb, N, ⟨E, Ft, Fs, Vt⟩, go, T.1, T.2.1, own_ST_em T⟩
theorem own_OB_E {Z : State} {h : Heap} {n0 : Nat} {o : Addr} {k : Nat} {P : Int32 → Prop} (B : own_OB Z h n0 o k P) : Exa Z h o "com/example/entail/entail/tableau/ConceptSet" := by
  obtain ⟨a, t, sh, al, tb, N, ⟨E, -⟩, -⟩ := B
  exact E
theorem own_res {v : Option Value} {P : Prop} (h : (v = some (.int 1) ∧ P) ∨ (v = some (.int 0) ∧ ¬ P)) : ∃ r : Int32, v = some (.int r) ∧ ((r = 1 ∧ P) ∨ (r = 0 ∧ ¬ P)) := by
  rcases h with ⟨h, p⟩ | ⟨h, p⟩
  · exact ⟨1, h, Or.inl ⟨rfl, p⟩⟩
  · exact ⟨0, h, Or.inr ⟨rfl, p⟩⟩
theorem own_d11_0 : decode jdk_29_method_69_code 0 = .ok (.iload_n 0, 1) := by decide +kernel
theorem own_d11_1 : decode jdk_29_method_69_code 1 = .ok (.iload_n 1, 1) := by decide +kernel
theorem own_d11_2 : decode jdk_29_method_69_code 2 = .ok (.if_icmp .gt 7, 3) := by decide +kernel
theorem own_d11_5 : decode jdk_29_method_69_code 5 = .ok (.iload_n 0, 1) := by decide +kernel
theorem own_d11_6 : decode jdk_29_method_69_code 6 = .ok (.goto 4, 3) := by decide +kernel
theorem own_d11_9 : decode jdk_29_method_69_code 9 = .ok (.iload_n 1, 1) := by decide +kernel
theorem own_d11_10 : decode jdk_29_method_69_code 10 = .ok (.ireturn, 1) := by decide +kernel
set_option maxRecDepth 65536 in
set_option maxHeartbeats 40000000 in
theorem own_cmin (l : Launch) (Z : State) (a0 : Array Value) (hw : ∀ d ∈ tables_1, d.before a0 Z = true) (u t : Int32) (h0 : Heap) (n0 : Nat) :
    Con l Z (⟨"java/lang/Math", "min", "(II)I"⟩ : MethodName) jdk_29_method_69_code 2 (some .int) ({ frames := 0, cells := 0, slots := 0, locals := 0 } : Room) n0 h0 #[(.int u), (.int t)] (fun v h => v = some (.int (own_min u t)) ∧ h = h0) := by
  refine Con.intro (Jvm.Free.JP.mathPlain rfl (by decide +kernel)) (Ls := #[.val (.int u), .val (.int t)]) (fun m => by first | (simp [entryFrame, mkF, argsToLocals, Value.category]; done) | rfl) ?_
  intro p e s m below meth c s₁ hx hby hml hown hnm hret hlk hZ S0
  have A0 := S0.here
  refine k_iloadN A0 hx (hb hby own_d11_0) rfl (pc' := 1) rfl ?_
  refine k_iloadN A0 hx (hb hby own_d11_1) rfl (pc' := 2) rfl ?_
  refine k_icmp_gt A0 hx (hb hby own_d11_2) (pcY := 9) (by decide) (pc' := 5) rfl (fun hc2 => ?_) (fun hc2 => ?_)
  · refine k_iloadN A0 hx (hb hby own_d11_9) rfl (pc' := 10) rfl ?_
    refine k_ret_int S0 hx hret hlk (hb hby own_d11_10) (by decide) (by decide) ?_
    exact ⟨by simp [own_min, hc2], rfl⟩
  · refine k_iloadN A0 hx (hb hby own_d11_5) rfl (pc' := 6) rfl ?_
    refine k_goto A0 hx (hb hby own_d11_6) (pc' := 10) (by decide) ?_
    refine k_ret_int S0 hx hret hlk (hb hby own_d11_10) (by decide) (by decide) ?_
    exact ⟨by simp [own_min, hc2], rfl⟩
theorem own_d10_0 : decode jdk_65_method_123_code 0 = .ok (.iload_n 1, 1) := by decide +kernel
theorem own_d10_1 : decode jdk_65_method_123_code 1 = .ok (.aload_n 0, 1) := by decide +kernel
theorem own_d10_2 : decode jdk_65_method_123_code 2 = .ok (.arraylength, 1) := by decide +kernel
theorem own_d10_3 : decode jdk_65_method_123_code 3 = .ok (.if_icmp .ne 11, 3) := by decide +kernel
theorem own_d10_6 : decode jdk_65_method_123_code 6 = .ok (.aload_n 0, 1) := by decide +kernel
theorem own_d10_7 : decode jdk_65_method_123_code 7 = .ok (.invokevirtual 316, 3) := by decide +kernel
theorem own_d10_10 : decode jdk_65_method_123_code 10 = .ok (.checkcast 317, 3) := by decide +kernel
theorem own_d10_13 : decode jdk_65_method_123_code 13 = .ok (.areturn, 1) := by decide +kernel
theorem own_d10_14 : decode jdk_65_method_123_code 14 = .ok (.iload_n 1, 1) := by decide +kernel
theorem own_d10_15 : decode jdk_65_method_123_code 15 = .ok (.newarray .int, 2) := by decide +kernel
theorem own_d10_17 : decode jdk_65_method_123_code 17 = .ok (.astore_n 2, 1) := by decide +kernel
theorem own_d10_18 : decode jdk_65_method_123_code 18 = .ok (.aload_n 0, 1) := by decide +kernel
theorem own_d10_19 : decode jdk_65_method_123_code 19 = .ok (.iconst 0, 1) := by decide +kernel
theorem own_d10_20 : decode jdk_65_method_123_code 20 = .ok (.aload_n 2, 1) := by decide +kernel
theorem own_d10_21 : decode jdk_65_method_123_code 21 = .ok (.iconst 0, 1) := by decide +kernel
theorem own_d10_22 : decode jdk_65_method_123_code 22 = .ok (.aload_n 0, 1) := by decide +kernel
theorem own_d10_23 : decode jdk_65_method_123_code 23 = .ok (.arraylength, 1) := by decide +kernel
theorem own_d10_24 : decode jdk_65_method_123_code 24 = .ok (.iload_n 1, 1) := by decide +kernel
theorem own_d10_25 : decode jdk_65_method_123_code 25 = .ok (.invokestatic 304, 3) := by decide +kernel
theorem own_d10_28 : decode jdk_65_method_123_code 28 = .ok (.invokestatic 150, 3) := by decide +kernel
theorem own_d10_31 : decode jdk_65_method_123_code 31 = .ok (.aload_n 2, 1) := by decide +kernel
theorem own_d10_32 : decode jdk_65_method_123_code 32 = .ok (.areturn, 1) := by decide +kernel
theorem own_pn10 : plainName "java/util/Arrays" = true := by first | (simp [plainName, overriddenIn]; done) | decide +kernel
theorem own_pd0 : parseMethodDescriptor "(II)I" = some ⟨[.int, .int], some .int⟩ := by decide +kernel
set_option maxRecDepth 65536 in
set_option maxHeartbeats 40000000 in
theorem own_copyOf (l : Launch) (Z : State) (a0 : Array Value) (hw : ∀ d ∈ tables_1, d.before a0 Z = true) (a : Addr) (nl : Int32) (h0 : Heap) (n0 : Nat) (xs : List Int32) (Z0 : n0 ≤ h0.size) (Va : IV Z h0 a xs) (hnl : 0 ≤ nl.toInt ∧ nl.toInt ≤ 8) (hne : ¬ nl = xs.length.toInt32) :
    Con l Z (⟨"java/util/Arrays", "copyOf", "([II)[I"⟩ : MethodName) jdk_65_method_123_code 3 (some (.array .int)) ({ frames := 1, cells := 1, slots := 8, locals := 18 } : Room) n0 h0 #[(.ref a), (.int nl)] (fun v h => ∃ b, v = some (.ref b) ∧ h0.size ≤ b ∧ Keep h0 h [] ∧ IV Z h b (xs.take (own_min xs.length.toInt32 nl).toInt.toNat ++ (List.replicate nl.toInt.toNat 0).drop (own_min xs.length.toInt32 nl).toInt.toNat)) := by
  refine Con.intro (plainFor_of_name own_pn10) (Ls := #[.val (.ref a), .val (.int nl), .unset]) (fun m => by first | (simp [entryFrame, mkF, argsToLocals, Value.category]; done) | rfl) ?_
  intro p e s m below meth c s₁ hx hby hml hown hnm hret hlk hZ S0
  have A0 := S0.here
  have K1 := Keep.refl h0 []
  refine k_iloadN A0 hx (hb hby own_d10_0) rfl (pc' := 1) rfl ?_
  refine k_aloadN A0 hx (hb hby own_d10_1) rfl rfl (pc' := 2) rfl ?_
  refine k_arraylength S0 hx hZ Va (hb hby own_d10_2) (z := (xs.length.toInt32)) (by rw [List.length_map]) (pc' := 3) rfl ?_
  refine k_icmp_ne A0 hx (hb hby own_d10_3) (pcY := 14) (by decide) (pc' := 6) rfl (fun hc3 => ?_) (fun hc3 => absurd hc3 hne)
  refine k_iloadN A0 hx (hb hby own_d10_14) rfl (pc' := 15) rfl ?_
  refine k_newint S0 hx hZ (hw _ (List.mem_of_getElem? (i := 10) rfl)) (hb hby own_d10_15) hnl.1 8 hnl.2 (by decide) (by decide) (by decide) (pc' := 17) rfl ?_
  intro T2 h2 b2 g2 E2 V2 S2
  have ne3 : a ≠ b2 := by rw [g2]; exact Nat.ne_of_lt Va.lt
  have bo4 : h0.size ≤ b2 := Nat.le_trans K1.1 (Nat.le_of_eq g2.symm)
  have ge4 : n0 ≤ b2 := Nat.le_trans Z0 bo4
  have A2 := S2.here
  have f5 := Va.ext E2
  have K6 := K1.ext E2
  refine k_astoreN A2 hx (hb hby own_d10_17) rfl (Ls' := #[.val (.ref a), .val (.int nl), .val (.ref b2)]) rfl (pc' := 18) rfl ?_
  refine k_aloadN A2 hx (hb hby own_d10_18) rfl rfl (pc' := 19) rfl ?_
  refine k_iconst A2 hx (hb hby own_d10_19) (v := 0) rfl (pc' := 20) rfl ?_
  refine k_aloadN A2 hx (hb hby own_d10_20) rfl rfl (pc' := 21) rfl ?_
  refine k_iconst A2 hx (hb hby own_d10_21) (v := 0) rfl (pc' := 22) rfl ?_
  refine k_aloadN A2 hx (hb hby own_d10_22) rfl rfl (pc' := 23) rfl ?_
  refine k_arraylength S2 hx hZ f5 (hb hby own_d10_23) (z := (xs.length.toInt32)) (by rw [List.length_map]) (pc' := 24) rfl ?_
  refine k_iloadN A2 hx (hb hby own_d10_24) rfl (pc' := 25) rfl ?_
  refine k_call_static S2 hx hZ hown (hw _ (List.mem_of_getElem? (i := 58) rfl)) (hw _ (List.mem_of_getElem? (i := 59) rfl)) (hw _ (List.mem_of_getElem? (i := 60) rfl)) (hw _ (List.mem_of_getElem? (i := 61) rfl)) (by decide) (own_cmin l Z a0 hw (xs.length.toInt32) nl h2 n0) 4 (argsL := [(.int (xs.length.toInt32)), (.int nl)]) (rest := [(.int (0 : Int32)), (.ref b2), (.int (0 : Int32)), (.ref a)]) (by decide) (by decide) (by rw [hml]; rfl) (lenOf own_pd0 rfl) rfl rfl (Nat.le_refl 4) (hb hby own_d10_25) (pc' := 28) rfl (by decide) (by decide) ?_
  rintro v7 T7 h7 ⟨rfl, q7⟩ S7
  rw [q7] at S7
  have A7 := S7.here
  show Done p e below _ (T7.setTop (mkF m 28 #[.val (.ref a), .val (.int nl), .val (.ref b2)] [(.int (own_min (xs.length.toInt32) nl)), (.int (0 : Int32)), (.ref b2), (.int (0 : Int32)), (.ref a)]))
  refine k_arraycopy S7 hx hZ hown (hw _ (List.mem_of_getElem? (i := 62) rfl)) (hw _ (List.mem_of_getElem? (i := 54) rfl)) (hw _ (List.mem_of_getElem? (i := 52) rfl)) (hw _ (List.mem_of_getElem? (i := 53) rfl)) f5 V2 (own_mn0 Va.len hnl.1).1 (own_mn0 Va.len hnl.1).2.1 (by rw [List.length_replicate]; exact (own_mn0 Va.len hnl.1).2.2) ge4 (by rw [hml]; rfl) (hb hby own_d10_28) (by decide) 0 (Nat.le_refl _) (by decide) (pc' := 31) rfl ?_
  intro T8 h8 K8 V8 S8
  have A8 := S8.here
  have f9 := f5.keep K8 (ninS ne3 nin0)
  have K11 := K6.trans K8 (allS (Or.inr bo4) all0)
  refine k_aloadN A8 hx (hb hby own_d10_31) rfl rfl (pc' := 32) rfl ?_
  refine k_ret_ref S8 hx hret rfl hlk (hb hby own_d10_32) (by decide) (by decide) ?_
  exact ⟨b2, rfl, bo4, K11, V8⟩
theorem own_d7_0 : decode prog_100_method_10_code 0 = .ok (.iload_n 1, 1) := by decide +kernel
theorem own_d7_1 : decode prog_100_method_10_code 1 = .ok (.ldc 63, 2) := by decide +kernel
theorem own_d7_3 : decode prog_100_method_10_code 3 = .ok (.imul, 1) := by decide +kernel
theorem own_d7_4 : decode prog_100_method_10_code 4 = .ok (.aload_n 0, 1) := by decide +kernel
theorem own_d7_5 : decode prog_100_method_10_code 5 = .ok (.getfield 22, 3) := by decide +kernel
theorem own_d7_8 : decode prog_100_method_10_code 8 = .ok (.iushr, 1) := by decide +kernel
theorem own_d7_9 : decode prog_100_method_10_code 9 = .ok (.ireturn, 1) := by decide +kernel
theorem own_pn7 : plainName "com/example/entail/entail/tableau/ConceptSet" = true := by first | (simp [plainName, overriddenIn]; done) | decide +kernel
set_option maxRecDepth 65536 in
set_option maxHeartbeats 40000000 in
theorem own_cslot (l : Launch) (Z : State) (a0 : Array Value) (hw : ∀ d ∈ tables_1, d.before a0 Z = true) (o : Addr) (xe : Int32) (h0 : Heap) (n0 : Nat) (sh : Int32) (Fs : Fld Z h0 o "com/example/entail/entail/tableau/ConceptSet" "shift" "I" (.int sh)) :
    Con l Z (⟨"com/example/entail/entail/tableau/ConceptSet", "slot", "(I)I"⟩ : MethodName) prog_100_method_10_code 2 (some .int) ({ frames := 0, cells := 0, slots := 0, locals := 0 } : Room) n0 h0 #[(.ref o), (.int xe)] (fun v h => v = some (.int (own_slot xe sh)) ∧ h = h0) := by
  refine Con.intro (plainFor_of_name own_pn7) (Ls := #[.val (.ref o), .val (.int xe)]) (fun m => by first | (simp [entryFrame, mkF, argsToLocals, Value.category]; done) | rfl) ?_
  intro p e s m below meth c s₁ hx hby hml hown hnm hret hlk hZ S0
  have A0 := S0.here
  refine k_iloadN A0 hx (hb hby own_d7_0) rfl (pc' := 1) rfl ?_
  refine k_ldcInt S0 hx hZ hown (hw _ (List.mem_of_getElem? (i := 38) rfl)) (hb hby own_d7_1) (pc' := 3) rfl ?_
  refine k_imul A0 hx (hb hby own_d7_3) (pc' := 4) rfl ?_
  refine k_aloadN A0 hx (hb hby own_d7_4) rfl rfl (pc' := 5) rfl ?_
  refine k_getfield S0 hx hZ hown (hw _ (List.mem_of_getElem? (i := 22) rfl)) Fs (hb hby own_d7_5) (pc' := 8) rfl ?_
  intro T1 S1
  have A1 := S1.here
  refine k_iushr A1 hx (hb hby own_d7_8) (pc' := 9) rfl ?_
  refine k_ret_int S1 hx hret hlk (hb hby own_d7_9) (by decide) (by decide) ?_
  exact ⟨rfl, rfl⟩
theorem own_d6_0 : decode prog_100_method_2_code 0 = .ok (.aload_n 0, 1) := by decide +kernel
theorem own_d6_1 : decode prog_100_method_2_code 1 = .ok (.getfield 17, 3) := by decide +kernel
theorem own_d6_4 : decode prog_100_method_2_code 4 = .ok (.arraylength, 1) := by decide +kernel
theorem own_d6_5 : decode prog_100_method_2_code 5 = .ok (.iconst 1, 1) := by decide +kernel
theorem own_d6_6 : decode prog_100_method_2_code 6 = .ok (.isub, 1) := by decide +kernel
theorem own_d6_7 : decode prog_100_method_2_code 7 = .ok (.istore_n 2, 1) := by decide +kernel
theorem own_d6_8 : decode prog_100_method_2_code 8 = .ok (.aload_n 0, 1) := by decide +kernel
theorem own_d6_9 : decode prog_100_method_2_code 9 = .ok (.iload_n 1, 1) := by decide +kernel
theorem own_d6_10 : decode prog_100_method_2_code 10 = .ok (.invokevirtual 26, 3) := by decide +kernel
theorem own_d6_13 : decode prog_100_method_2_code 13 = .ok (.istore_n 3, 1) := by decide +kernel
theorem own_d6_14 : decode prog_100_method_2_code 14 = .ok (.aload_n 0, 1) := by decide +kernel
theorem own_d6_15 : decode prog_100_method_2_code 15 = .ok (.getfield 17, 3) := by decide +kernel
theorem own_d6_18 : decode prog_100_method_2_code 18 = .ok (.iload_n 3, 1) := by decide +kernel
theorem own_d6_19 : decode prog_100_method_2_code 19 = .ok (.iaload, 1) := by decide +kernel
theorem own_d6_20 : decode prog_100_method_2_code 20 = .ok (.istore 4, 2) := by decide +kernel
theorem own_d6_22 : decode prog_100_method_2_code 22 = .ok (.iload 4, 2) := by decide +kernel
theorem own_d6_24 : decode prog_100_method_2_code 24 = .ok (.iload_n 1, 1) := by decide +kernel
theorem own_d6_25 : decode prog_100_method_2_code 25 = .ok (.if_icmp .ne 5, 3) := by decide +kernel
theorem own_d6_28 : decode prog_100_method_2_code 28 = .ok (.iconst 1, 1) := by decide +kernel
theorem own_d6_29 : decode prog_100_method_2_code 29 = .ok (.ireturn, 1) := by decide +kernel
theorem own_d6_30 : decode prog_100_method_2_code 30 = .ok (.iload 4, 2) := by decide +kernel
theorem own_d6_32 : decode prog_100_method_2_code 32 = .ok (.iconst (-1), 1) := by decide +kernel
theorem own_d6_33 : decode prog_100_method_2_code 33 = .ok (.if_icmp .ne 5, 3) := by decide +kernel
theorem own_d6_36 : decode prog_100_method_2_code 36 = .ok (.iconst 0, 1) := by decide +kernel
theorem own_d6_37 : decode prog_100_method_2_code 37 = .ok (.ireturn, 1) := by decide +kernel
theorem own_d6_38 : decode prog_100_method_2_code 38 = .ok (.iload_n 3, 1) := by decide +kernel
theorem own_d6_39 : decode prog_100_method_2_code 39 = .ok (.iconst 1, 1) := by decide +kernel
theorem own_d6_40 : decode prog_100_method_2_code 40 = .ok (.iadd, 1) := by decide +kernel
theorem own_d6_41 : decode prog_100_method_2_code 41 = .ok (.iload_n 2, 1) := by decide +kernel
theorem own_d6_42 : decode prog_100_method_2_code 42 = .ok (.iand, 1) := by decide +kernel
theorem own_d6_43 : decode prog_100_method_2_code 43 = .ok (.istore_n 3, 1) := by decide +kernel
theorem own_d6_44 : decode prog_100_method_2_code 44 = .ok (.goto (-30), 3) := by decide +kernel
theorem own_pn6 : plainName "com/example/entail/entail/tableau/ConceptSet" = true := by first | (simp [plainName, overriddenIn]; done) | decide +kernel
theorem own_pd1 : parseMethodDescriptor "(I)I" = some ⟨[.int], some .int⟩ := by decide +kernel
set_option maxRecDepth 65536 in
set_option maxHeartbeats 40000000 in
theorem own_ccon (l : Launch) (Z : State) (a0 : Array Value) (hw : ∀ d ∈ tables_1, d.before a0 Z = true) (o : Addr) (xe : Int32) (h0 : Heap) (n0 : Nat) (t : Addr) (sh : Int32) (tb : List Int32) (N : Nat) (P : Int32 → Prop) (E0 : Exa Z h0 o "com/example/entail/entail/tableau/ConceptSet") (Ft : Fld Z h0 o "com/example/entail/entail/tableau/ConceptSet" "table" "[I" (.ref t)) (Fs : Fld Z h0 o "com/example/entail/entail/tableau/ConceptSet" "shift" "I" (.int sh)) (Vt : IV Z h0 t tb) (g : own_geo N sh) (TB : own_TB tb N (own_H sh) P) (em : own_EM tb N) (hx1 : xe ≠ -1) :
    Con l Z (⟨"com/example/entail/entail/tableau/ConceptSet", "contains", "(I)Z"⟩ : MethodName) prog_100_method_2_code 5 (some .boolean) ({ frames := 1, cells := 0, slots := 0, locals := 20 } : Room) n0 h0 #[(.ref o), (.int xe)] (fun v h => ((v = some (.int 1) ∧ P xe) ∨ (v = some (.int 0) ∧ ¬ P xe)) ∧ h = h0) := by
  refine Con.intro (plainFor_of_name own_pn6) (Ls := #[.val (.ref o), .val (.int xe), .unset, .unset, .unset]) (fun m => by first | (simp [entryFrame, mkF, argsToLocals, Value.category]; done) | rfl) ?_
  intro p e s m below meth c s₁ hx hby hml hown hnm hret hlk hZ S0
  have A0 := S0.here
  have htl : tb.length = N := TB.2.1
  refine k_aloadN A0 hx (hb hby own_d6_0) rfl rfl (pc' := 1) rfl ?_
  refine k_getfield S0 hx hZ hown (hw _ (List.mem_of_getElem? (i := 20) rfl)) Ft (hb hby own_d6_1) (pc' := 4) rfl ?_
  intro T1 S1
  have A1 := S1.here
  refine k_arraylength S1 hx hZ Vt (hb hby own_d6_4) (z := (tb.length.toInt32)) (by rw [List.length_map]) (pc' := 5) rfl ?_
  refine k_iconst A1 hx (hb hby own_d6_5) (v := 1) rfl (pc' := 6) rfl ?_
  refine k_isub A1 hx (hb hby own_d6_6) (pc' := 7) rfl ?_
  generalize q_mk : ((tb.length.toInt32) - (1 : Int32)) = mk
  have hmk : own_MK N mk := by rw [← q_mk]; exact own_mk g TB.2.1
  refine k_istoreN A1 hx (hb hby own_d6_7) (Ls' := #[.val (.ref o), .val (.int xe), .val (.int mk), .unset, .unset]) rfl (pc' := 8) rfl ?_
  refine k_aloadN A1 hx (hb hby own_d6_8) rfl rfl (pc' := 9) rfl ?_
  refine k_iloadN A1 hx (hb hby own_d6_9) rfl (pc' := 10) rfl ?_
  refine k_call_priv S1 hx hZ hown E0 (y2 := (⟨"com/example/entail/entail/tableau/ConceptSet", "add", "(I)Z"⟩ : MethodName)) (hw _ (List.mem_of_getElem? (i := 34) rfl)) (hw _ (List.mem_of_getElem? (i := 35) rfl)) (hw _ (List.mem_of_getElem? (i := 27) rfl)) rfl (hw _ (List.mem_of_getElem? (i := 36) rfl)) (hw _ (List.mem_of_getElem? (i := 3) rfl)) (hw _ (List.mem_of_getElem? (i := 37) rfl)) (by decide) (own_cslot l Z a0 hw o xe h0 n0 sh Fs) 0 (argsL := [(.int xe)]) (rest := []) (by decide) (by decide) (by rw [hml]; rfl) (lenOf own_pd1 rfl) rfl rfl (Nat.le_refl 0) (hb hby own_d6_10) (pc' := 13) rfl (by decide) (by decide) ?_
  rintro v2 T2 h2 ⟨rfl, q2⟩ S2
  rw [q2] at S2
  have A2 := S2.here
  show Done p e below _ (T2.setTop (mkF m 13 #[.val (.ref o), .val (.int xe), .val (.int mk), .unset, .unset] [(.int (own_slot xe sh))]))
  refine k_istoreN A2 hx (hb hby own_d6_13) (Ls' := #[.val (.ref o), .val (.int xe), .val (.int mk), .val (.int (own_slot xe sh)), .unset]) rfl (pc' := 14) rfl ?_
  have L14_3 : ∀ (f : Nat) (T3 : State), ∀ (po : Int32), ∀ (s4 : Slot), ∀ (j : Nat), St p l e ({ frames := 1, cells := 0, slots := 0, locals := 20 } : Room) s m #[(.ref o), (.int xe)] below meth c n0 T3 h0 0 0 → ((N : Int) - (j : Int) < (f : Int)) → (po.toInt = (((own_H sh xe + j) % N : Nat) : Int)) → (∀ i, i < j → tb.getD ((own_H sh xe + i) % N) 0 ≠ -1) → (∀ i, i < j → tb.getD ((own_H sh xe + i) % N) 0 ≠ xe) → (One s4) → Done p e below (OEnd s ({ frames := 1, cells := 0, slots := 0, locals := 20 } : Room) n0 (fun v h => ((v = some (.int 1) ∧ P xe) ∨ (v = some (.int 0) ∧ ¬ P xe)) ∧ h = h0)) (T3.setTop (mkF m 14 #[.val (.ref o), .val (.int xe), .val (.int mk), .val (.int po), s4] [])) := by
    intro f
    induction f with
    | zero =>
      intro T3 po s4 j S3 hms hp hbb hbx hs4
      exfalso
      have q2 := own_jlt TB.1 (own_H_lt g xe) em hbb; omega
    | succ f ih3 =>
      intro T3 po s4 j S3 hms hp hbb hbx hs4
      have A3 := S3.here
      obtain ⟨q, hqe⟩ : ∃ q, (own_H sh xe + j) % N = q := ⟨_, rfl⟩
      rw [hqe] at hp
      have hqN : q < N := by rw [← hqe]; exact Nat.mod_lt _ (by have q3 := own_H_lt g xe; omega)
      have hpn : po.toInt.toNat = q := by omega
      refine k_aloadN A3 hx (hb hby own_d6_14) rfl rfl (pc' := 15) rfl ?_
      refine k_getfield S3 hx hZ hown (hw _ (List.mem_of_getElem? (i := 20) rfl)) Ft (hb hby own_d6_15) (pc' := 18) rfl ?_
      intro T4 S4
      have A4 := S4.here
      refine k_iloadN A4 hx (hb hby own_d6_18) rfl (pc' := 19) rfl ?_
      refine k_iaload S4 hx hZ Vt (hb hby own_d6_19) (by omega) (by omega) rfl (pc' := 20) rfl ?_
      refine k_istore A4 hx (hb hby own_d6_20) (Ls' := #[.val (.ref o), .val (.int xe), .val (.int mk), .val (.int po), .val (.int (tb.getD po.toInt.toNat 0))]) (store1 rfl hs4 rfl) (pc' := 22) rfl ?_
      refine k_iload A4 hx (hb hby own_d6_22) rfl (pc' := 24) rfl ?_
      refine k_iloadN A4 hx (hb hby own_d6_24) rfl (pc' := 25) rfl ?_
      refine k_icmp_ne A4 hx (hb hby own_d6_25) (pcY := 30) (by decide) (pc' := 28) rfl (fun hc25 => ?_) (fun hc25 => ?_)
      · refine k_iload A4 hx (hb hby own_d6_30) rfl (pc' := 32) rfl ?_
        refine k_iconst A4 hx (hb hby own_d6_32) (v := (-1)) rfl (pc' := 33) rfl ?_
        refine k_icmp_ne A4 hx (hb hby own_d6_33) (pcY := 38) (by decide) (pc' := 36) rfl (fun hc33 => ?_) (fun hc33 => ?_)
        · have hA : tb.getD ((own_H sh xe + j) % N) 0 ≠ -1 := by rw [hqe, ← hpn]; exact hc33
          have hB : tb.getD ((own_H sh xe + j) % N) 0 ≠ xe := by rw [hqe, ← hpn]; exact hc25
          refine k_iloadN A4 hx (hb hby own_d6_38) rfl (pc' := 39) rfl ?_
          refine k_iconst A4 hx (hb hby own_d6_39) (v := 1) rfl (pc' := 40) rfl ?_
          refine k_iadd A4 hx (hb hby own_d6_40) (pc' := 41) rfl ?_
          refine k_iloadN A4 hx (hb hby own_d6_41) rfl (pc' := 42) rfl ?_
          refine k_iand A4 hx (hb hby own_d6_42) (pc' := 43) rfl ?_
          refine k_istoreN A4 hx (hb hby own_d6_43) (Ls' := #[.val (.ref o), .val (.int xe), .val (.int mk), .val (.int ((po + (1 : Int32)) &&& mk)), .val (.int (tb.getD po.toInt.toNat 0))]) rfl (pc' := 44) rfl ?_
          refine k_goto A4 hx (hb hby own_d6_44) (pc' := 14) (by decide) ?_
          exact ih3 T4 ((po + (1 : Int32)) &&& mk) (.val (.int (tb.getD po.toInt.toNat 0))) (j + 1) (S4.more (by decide) (by decide)) (by omega) (own_pn hmk hp hqe hqN) (own_all hbb hA) (own_all hbx hB) (One.val rfl)
        · refine k_iconst A4 hx (hb hby own_d6_36) (v := 0) rfl (pc' := 37) rfl ?_
          refine k_ret_nar S4 hx (t := .boolean) hret (by simp) hlk (hb hby own_d6_37) (z' := (0 : Int32)) rfl (by decide) (by decide) ?_
          exact ⟨Or.inr ⟨rfl, own_T_no TB hx1 (by rw [hqe, ← hpn]; exact hc33) hbx⟩, rfl⟩
      · refine k_iconst A4 hx (hb hby own_d6_28) (v := 1) rfl (pc' := 29) rfl ?_
        refine k_ret_nar S4 hx (t := .boolean) hret (by simp) hlk (hb hby own_d6_29) (z' := (1 : Int32)) rfl (by decide) (by decide) ?_
        exact ⟨Or.inl ⟨rfl, own_T_yes TB hqN (by rw [← hpn]; exact hc25) hx1⟩, rfl⟩
  exact L14_3 17 T2 (own_slot xe sh) .unset 0 (S2.more (by decide) (by decide)) (by have q4 := TB.1; omega) (own_p0 g xe) (fun i hi => absurd hi (Nat.not_lt_zero i)) (fun i hi => absurd hi (Nat.not_lt_zero i)) One.u
theorem own_d8_0 : decode prog_100_method_9_code 0 = .ok (.aload_n 0, 1) := by decide +kernel
theorem own_d8_1 : decode prog_100_method_9_code 1 = .ok (.getfield 17, 3) := by decide +kernel
theorem own_d8_4 : decode prog_100_method_9_code 4 = .ok (.arraylength, 1) := by decide +kernel
theorem own_d8_5 : decode prog_100_method_9_code 5 = .ok (.iconst 1, 1) := by decide +kernel
theorem own_d8_6 : decode prog_100_method_9_code 6 = .ok (.isub, 1) := by decide +kernel
theorem own_d8_7 : decode prog_100_method_9_code 7 = .ok (.istore_n 2, 1) := by decide +kernel
theorem own_d8_8 : decode prog_100_method_9_code 8 = .ok (.aload_n 0, 1) := by decide +kernel
theorem own_d8_9 : decode prog_100_method_9_code 9 = .ok (.iload_n 1, 1) := by decide +kernel
theorem own_d8_10 : decode prog_100_method_9_code 10 = .ok (.invokevirtual 26, 3) := by decide +kernel
theorem own_d8_13 : decode prog_100_method_9_code 13 = .ok (.istore_n 3, 1) := by decide +kernel
theorem own_d8_14 : decode prog_100_method_9_code 14 = .ok (.aload_n 0, 1) := by decide +kernel
theorem own_d8_15 : decode prog_100_method_9_code 15 = .ok (.getfield 17, 3) := by decide +kernel
theorem own_d8_18 : decode prog_100_method_9_code 18 = .ok (.iload_n 3, 1) := by decide +kernel
theorem own_d8_19 : decode prog_100_method_9_code 19 = .ok (.iaload, 1) := by decide +kernel
theorem own_d8_20 : decode prog_100_method_9_code 20 = .ok (.iconst (-1), 1) := by decide +kernel
theorem own_d8_21 : decode prog_100_method_9_code 21 = .ok (.if_icmp .eq 12, 3) := by decide +kernel
theorem own_d8_24 : decode prog_100_method_9_code 24 = .ok (.iload_n 3, 1) := by decide +kernel
theorem own_d8_25 : decode prog_100_method_9_code 25 = .ok (.iconst 1, 1) := by decide +kernel
theorem own_d8_26 : decode prog_100_method_9_code 26 = .ok (.iadd, 1) := by decide +kernel
theorem own_d8_27 : decode prog_100_method_9_code 27 = .ok (.iload_n 2, 1) := by decide +kernel
theorem own_d8_28 : decode prog_100_method_9_code 28 = .ok (.iand, 1) := by decide +kernel
theorem own_d8_29 : decode prog_100_method_9_code 29 = .ok (.istore_n 3, 1) := by decide +kernel
theorem own_d8_30 : decode prog_100_method_9_code 30 = .ok (.goto (-16), 3) := by decide +kernel
theorem own_d8_33 : decode prog_100_method_9_code 33 = .ok (.aload_n 0, 1) := by decide +kernel
theorem own_d8_34 : decode prog_100_method_9_code 34 = .ok (.getfield 17, 3) := by decide +kernel
theorem own_d8_37 : decode prog_100_method_9_code 37 = .ok (.iload_n 3, 1) := by decide +kernel
theorem own_d8_38 : decode prog_100_method_9_code 38 = .ok (.iload_n 1, 1) := by decide +kernel
theorem own_d8_39 : decode prog_100_method_9_code 39 = .ok (.iastore, 1) := by decide +kernel
theorem own_d8_40 : decode prog_100_method_9_code 40 = .ok (.return_, 1) := by decide +kernel
theorem own_pn8 : plainName "com/example/entail/entail/tableau/ConceptSet" = true := by first | (simp [plainName, overriddenIn]; done) | decide +kernel
set_option maxRecDepth 65536 in
set_option maxHeartbeats 40000000 in
theorem own_cput (l : Launch) (Z : State) (a0 : Array Value) (hw : ∀ d ∈ tables_1, d.before a0 Z = true) (o : Addr) (xe : Int32) (h0 : Heap) (n0 : Nat) (t : Addr) (sh : Int32) (tb : List Int32) (N : Nat) (P : Int32 → Prop) (E0 : Exa Z h0 o "com/example/entail/entail/tableau/ConceptSet") (Ft : Fld Z h0 o "com/example/entail/entail/tableau/ConceptSet" "table" "[I" (.ref t)) (Fs : Fld Z h0 o "com/example/entail/entail/tableau/ConceptSet" "shift" "I" (.int sh)) (Vt : IV Z h0 t tb) (g : own_geo N sh) (TB : own_TB tb N (own_H sh) P) (em : own_EM tb N) (hx1 : xe ≠ -1) (gt : n0 ≤ t) (n1 : o ≠ t) (hn1 : ¬ P xe) :
    Con l Z (⟨"com/example/entail/entail/tableau/ConceptSet", "put", "(I)V"⟩ : MethodName) prog_100_method_9_code 4 none ({ frames := 1, cells := 0, slots := 0, locals := 20 } : Room) n0 h0 #[(.ref o), (.int xe)] (fun v h => v = none ∧ Keep h0 h [t] ∧ ∃ tb', IV Z h t tb' ∧ own_TB tb' N (own_H sh) (fun y => P y ∨ y = xe) ∧ own_cnt tb' = own_cnt tb + 1) := by
  refine Con.intro (plainFor_of_name own_pn8) (Ls := #[.val (.ref o), .val (.int xe), .unset, .unset]) (fun m => by first | (simp [entryFrame, mkF, argsToLocals, Value.category]; done) | rfl) ?_
  intro p e s m below meth c s₁ hx hby hml hown hnm hret hlk hZ S0
  have A0 := S0.here
  have K1 := Keep.refl h0 [t]
  have htl : tb.length = N := TB.2.1
  refine k_aloadN A0 hx (hb hby own_d8_0) rfl rfl (pc' := 1) rfl ?_
  refine k_getfield S0 hx hZ hown (hw _ (List.mem_of_getElem? (i := 20) rfl)) Ft (hb hby own_d8_1) (pc' := 4) rfl ?_
  intro T2 S2
  have A2 := S2.here
  refine k_arraylength S2 hx hZ Vt (hb hby own_d8_4) (z := (tb.length.toInt32)) (by rw [List.length_map]) (pc' := 5) rfl ?_
  refine k_iconst A2 hx (hb hby own_d8_5) (v := 1) rfl (pc' := 6) rfl ?_
  refine k_isub A2 hx (hb hby own_d8_6) (pc' := 7) rfl ?_
  generalize q_mk : ((tb.length.toInt32) - (1 : Int32)) = mk
  have hmk : own_MK N mk := by rw [← q_mk]; exact own_mk g TB.2.1
  refine k_istoreN A2 hx (hb hby own_d8_7) (Ls' := #[.val (.ref o), .val (.int xe), .val (.int mk), .unset]) rfl (pc' := 8) rfl ?_
  refine k_aloadN A2 hx (hb hby own_d8_8) rfl rfl (pc' := 9) rfl ?_
  refine k_iloadN A2 hx (hb hby own_d8_9) rfl (pc' := 10) rfl ?_
  refine k_call_priv S2 hx hZ hown E0 (y2 := (⟨"com/example/entail/entail/tableau/ConceptSet", "add", "(I)Z"⟩ : MethodName)) (hw _ (List.mem_of_getElem? (i := 34) rfl)) (hw _ (List.mem_of_getElem? (i := 35) rfl)) (hw _ (List.mem_of_getElem? (i := 27) rfl)) rfl (hw _ (List.mem_of_getElem? (i := 36) rfl)) (hw _ (List.mem_of_getElem? (i := 3) rfl)) (hw _ (List.mem_of_getElem? (i := 37) rfl)) (by decide) (own_cslot l Z a0 hw o xe h0 n0 sh Fs) 0 (argsL := [(.int xe)]) (rest := []) (by decide) (by decide) (by rw [hml]; rfl) (lenOf own_pd1 rfl) rfl rfl (Nat.le_refl 0) (hb hby own_d8_10) (pc' := 13) rfl (by decide) (by decide) ?_
  rintro v3 T3 h3 ⟨rfl, q3⟩ S3
  rw [q3] at S3
  have A3 := S3.here
  show Done p e below _ (T3.setTop (mkF m 13 #[.val (.ref o), .val (.int xe), .val (.int mk), .unset] [(.int (own_slot xe sh))]))
  refine k_istoreN A3 hx (hb hby own_d8_13) (Ls' := #[.val (.ref o), .val (.int xe), .val (.int mk), .val (.int (own_slot xe sh))]) rfl (pc' := 14) rfl ?_
  have L14_4 : ∀ (f : Nat) (T4 : State), ∀ (po : Int32), ∀ (j : Nat), St p l e ({ frames := 1, cells := 0, slots := 0, locals := 20 } : Room) s m #[(.ref o), (.int xe)] below meth c n0 T4 h0 0 0 → ((N : Int) - (j : Int) < (f : Int)) → (po.toInt = (((own_H sh xe + j) % N : Nat) : Int)) → (∀ i, i < j → tb.getD ((own_H sh xe + i) % N) 0 ≠ -1) → Done p e below (OEnd s ({ frames := 1, cells := 0, slots := 0, locals := 20 } : Room) n0 (fun v h => v = none ∧ Keep h0 h [t] ∧ ∃ tb', IV Z h t tb' ∧ own_TB tb' N (own_H sh) (fun y => P y ∨ y = xe) ∧ own_cnt tb' = own_cnt tb + 1)) (T4.setTop (mkF m 14 #[.val (.ref o), .val (.int xe), .val (.int mk), .val (.int po)] [])) := by
    intro f
    induction f with
    | zero =>
      intro T4 po j S4 hms hp hbb
      exfalso
      have q2 := own_jlt TB.1 (own_H_lt g xe) em hbb; omega
    | succ f ih4 =>
      intro T4 po j S4 hms hp hbb
      have A4 := S4.here
      obtain ⟨q, hqe⟩ : ∃ q, (own_H sh xe + j) % N = q := ⟨_, rfl⟩
      rw [hqe] at hp
      have hqN : q < N := by rw [← hqe]; exact Nat.mod_lt _ (by have q3 := own_H_lt g xe; omega)
      have hpn : po.toInt.toNat = q := by omega
      refine k_aloadN A4 hx (hb hby own_d8_14) rfl rfl (pc' := 15) rfl ?_
      refine k_getfield S4 hx hZ hown (hw _ (List.mem_of_getElem? (i := 20) rfl)) Ft (hb hby own_d8_15) (pc' := 18) rfl ?_
      intro T5 S5
      have A5 := S5.here
      refine k_iloadN A5 hx (hb hby own_d8_18) rfl (pc' := 19) rfl ?_
      refine k_iaload S5 hx hZ Vt (hb hby own_d8_19) (by omega) (by omega) rfl (pc' := 20) rfl ?_
      refine k_iconst A5 hx (hb hby own_d8_20) (v := (-1)) rfl (pc' := 21) rfl ?_
      refine k_icmp_eq A5 hx (hb hby own_d8_21) (pcY := 33) (by decide) (pc' := 24) rfl (fun hc21 => ?_) (fun hc21 => ?_)
      · refine k_aloadN A5 hx (hb hby own_d8_33) rfl rfl (pc' := 34) rfl ?_
        refine k_getfield S5 hx hZ hown (hw _ (List.mem_of_getElem? (i := 20) rfl)) Ft (hb hby own_d8_34) (pc' := 37) rfl ?_
        intro T6 S6
        have A6 := S6.here
        refine k_iloadN A6 hx (hb hby own_d8_37) rfl (pc' := 38) rfl ?_
        refine k_iloadN A6 hx (hb hby own_d8_38) rfl (pc' := 39) rfl ?_
        refine k_iastore S6 hx hZ Vt (hb hby own_d8_39) (by omega) (by omega) gt (pc' := 40) rfl ?_
        intro T7 h7 W7 V7 S7
        have A7 := S7.here
        have f8 := E0.wr W7
        have f10 := Ft.other W7 (Or.inl n1)
        have f11 := Fs.other W7 (Or.inl n1)
        have K12 := K1.wr W7 (Or.inl (List.mem_of_getElem? (i := 0) rfl))
        refine k_ret_void S7 hx hret hlk (hb hby own_d8_40) (by decide) (by decide) ?_
        exact ⟨rfl, K12, _, V7, by rw [hpn, ← hqe]; exact own_T_put TB hx1 hn1 (own_jlt TB.1 (own_H_lt g xe) em hbb) (by rw [hqe, ← hpn]; exact hc21) hbb, by rw [hpn]; exact own_cnt_set (by omega) (by rw [← hpn]; exact hc21) hx1⟩
      · have hA : tb.getD ((own_H sh xe + j) % N) 0 ≠ -1 := by rw [hqe, ← hpn]; exact hc21
        refine k_iloadN A5 hx (hb hby own_d8_24) rfl (pc' := 25) rfl ?_
        refine k_iconst A5 hx (hb hby own_d8_25) (v := 1) rfl (pc' := 26) rfl ?_
        refine k_iadd A5 hx (hb hby own_d8_26) (pc' := 27) rfl ?_
        refine k_iloadN A5 hx (hb hby own_d8_27) rfl (pc' := 28) rfl ?_
        refine k_iand A5 hx (hb hby own_d8_28) (pc' := 29) rfl ?_
        refine k_istoreN A5 hx (hb hby own_d8_29) (Ls' := #[.val (.ref o), .val (.int xe), .val (.int mk), .val (.int ((po + (1 : Int32)) &&& mk))]) rfl (pc' := 30) rfl ?_
        refine k_goto A5 hx (hb hby own_d8_30) (pc' := 14) (by decide) ?_
        exact ih4 T5 ((po + (1 : Int32)) &&& mk) (j + 1) (S5.more (by decide) (by decide)) (by omega) (own_pn hmk hp hqe hqN) (own_all hbb hA)
  exact L14_4 17 T3 (own_slot xe sh) 0 (S3.more (by decide) (by decide)) (by have q4 := TB.1; omega) (own_p0 g xe) (fun i hi => absurd hi (Nat.not_lt_zero i))
theorem own_d4_0 : decode jdk_65_method_103_code 0 = .ok (.iconst 0, 1) := by decide +kernel
theorem own_d4_1 : decode jdk_65_method_103_code 1 = .ok (.istore_n 2, 1) := by decide +kernel
theorem own_d4_2 : decode jdk_65_method_103_code 2 = .ok (.aload_n 0, 1) := by decide +kernel
theorem own_d4_3 : decode jdk_65_method_103_code 3 = .ok (.arraylength, 1) := by decide +kernel
theorem own_d4_4 : decode jdk_65_method_103_code 4 = .ok (.istore_n 3, 1) := by decide +kernel
theorem own_d4_5 : decode jdk_65_method_103_code 5 = .ok (.iload_n 2, 1) := by decide +kernel
theorem own_d4_6 : decode jdk_65_method_103_code 6 = .ok (.iload_n 3, 1) := by decide +kernel
theorem own_d4_7 : decode jdk_65_method_103_code 7 = .ok (.if_icmp .ge 13, 3) := by decide +kernel
theorem own_d4_10 : decode jdk_65_method_103_code 10 = .ok (.aload_n 0, 1) := by decide +kernel
theorem own_d4_11 : decode jdk_65_method_103_code 11 = .ok (.iload_n 2, 1) := by decide +kernel
theorem own_d4_12 : decode jdk_65_method_103_code 12 = .ok (.iload_n 1, 1) := by decide +kernel
theorem own_d4_13 : decode jdk_65_method_103_code 13 = .ok (.iastore, 1) := by decide +kernel
theorem own_d4_14 : decode jdk_65_method_103_code 14 = .ok (.iinc 2 1, 3) := by decide +kernel
theorem own_d4_17 : decode jdk_65_method_103_code 17 = .ok (.goto (-12), 3) := by decide +kernel
theorem own_d4_20 : decode jdk_65_method_103_code 20 = .ok (.return_, 1) := by decide +kernel
theorem own_pn4 : plainName "java/util/Arrays" = true := by first | (simp [plainName, overriddenIn]; done) | decide +kernel
set_option maxRecDepth 65536 in
set_option maxHeartbeats 40000000 in
theorem own_cfill (l : Launch) (Z : State) (a0 : Array Value) (hw : ∀ d ∈ tables_1, d.before a0 Z = true) (a : Addr) (fv : Int32) (h0 : Heap) (n0 : Nat) (al : List Int32) (Va : IV Z h0 a al) (ga : n0 ≤ a) :
    Con l Z (⟨"java/util/Arrays", "fill", "([II)V"⟩ : MethodName) jdk_65_method_103_code 4 none ({ frames := 0, cells := 0, slots := 0, locals := 0 } : Room) n0 h0 #[(.ref a), (.int fv)] (fun v h => v = none ∧ Keep h0 h [a] ∧ IV Z h a (List.replicate al.length fv)) := by
  refine Con.intro (plainFor_of_name own_pn4) (Ls := #[.val (.ref a), .val (.int fv), .unset, .unset]) (fun m => by first | (simp [entryFrame, mkF, argsToLocals, Value.category]; done) | rfl) ?_
  intro p e s m below meth c s₁ hx hby hml hown hnm hret hlk hZ S0
  have A0 := S0.here
  have K1 := Keep.refl h0 [a]
  refine k_iconst A0 hx (hb hby own_d4_0) (v := 0) rfl (pc' := 1) rfl ?_
  refine k_istoreN A0 hx (hb hby own_d4_1) (Ls' := #[.val (.ref a), .val (.int fv), .val (.int (0 : Int32)), .unset]) rfl (pc' := 2) rfl ?_
  refine k_aloadN A0 hx (hb hby own_d4_2) rfl rfl (pc' := 3) rfl ?_
  refine k_arraylength S0 hx hZ Va (hb hby own_d4_3) (z := (al.length.toInt32)) (by rw [List.length_map]) (pc' := 4) rfl ?_
  generalize q_ln : (al.length.toInt32) = ln
  have hln : ln.toInt = (al.length : Int) := by rw [← q_ln]; exact own_len32 Va.len
  refine k_istoreN A0 hx (hb hby own_d4_4) (Ls' := #[.val (.ref a), .val (.int fv), .val (.int (0 : Int32)), .val (.int ln)]) rfl (pc' := 5) rfl ?_
  have L5_2 : ∀ (f : Nat) (T2 : State) (h2 : Heap), ∀ (i : Int32), ∀ (cs : List Int32), St p l e ({ frames := 0, cells := 0, slots := 0, locals := 0 } : Room) s m #[(.ref a), (.int fv)] below meth c n0 T2 h2 0 0 → ((al.length : Int) - i.toInt < (f : Int)) → (IV Z h2 a cs) → (Keep h0 h2 [a]) → (cs.length = al.length) → (0 ≤ i.toInt ∧ i.toInt ≤ al.length) → (∀ q, q < i.toInt.toNat → cs.getD q 0 = fv) → Done p e below (OEnd s ({ frames := 0, cells := 0, slots := 0, locals := 0 } : Room) n0 (fun v h => v = none ∧ Keep h0 h [a] ∧ IV Z h a (List.replicate al.length fv))) (T2.setTop (mkF m 5 #[.val (.ref a), .val (.int fv), .val (.int i), .val (.int ln)] [])) := by
    intro f
    induction f with
    | zero =>
      intro T2 h2 i cs S2 hms Wa KL hcl hi0 hfl
      exfalso
      omega
    | succ f ih2 =>
      intro T2 h2 i cs S2 hms Wa KL hcl hi0 hfl
      have A2 := S2.here
      refine k_iloadN A2 hx (hb hby own_d4_5) rfl (pc' := 6) rfl ?_
      refine k_iloadN A2 hx (hb hby own_d4_6) rfl (pc' := 7) rfl ?_
      refine k_icmp_ge A2 hx (hb hby own_d4_7) (pcY := 20) (by decide) (pc' := 10) rfl (fun hc7 => ?_) (fun hc7 => ?_)
      · refine k_ret_void S2 hx hret hlk (hb hby own_d4_20) (by decide) (by decide) ?_
        have e9 : cs = List.replicate al.length fv := own_flend hcl (fun q hq => hfl q (by rw [own_lt] at hc7; omega))
        exact ⟨rfl, KL, by rw [← e9]; exact Wa⟩
      · rw [own_lt] at hc7
        have hinc := own_incl hc7
        refine k_aloadN A2 hx (hb hby own_d4_10) rfl rfl (pc' := 11) rfl ?_
        refine k_iloadN A2 hx (hb hby own_d4_11) rfl (pc' := 12) rfl ?_
        refine k_iloadN A2 hx (hb hby own_d4_12) rfl (pc' := 13) rfl ?_
        refine k_iastore S2 hx hZ Wa (hb hby own_d4_13) hi0.1 (by omega) ga (pc' := 14) rfl ?_
        intro T3 h3 W3 V3 S3
        have A3 := S3.here
        have K5 := KL.wr W3 (Or.inl (List.mem_of_getElem? (i := 0) rfl))
        refine k_iinc A3 hx (hb hby own_d4_14) rfl (Ls' := #[.val (.ref a), .val (.int fv), .val (.int (i + (1 : Int32))), .val (.int ln)]) rfl (pc' := 17) rfl ?_
        refine k_goto A3 hx (hb hby own_d4_17) (pc' := 5) (by decide) ?_
        exact ih2 T3 h3 (i + 1) (cs.set i.toInt.toNat fv) (S3.more (by decide) (by decide)) (by omega) V3 K5 (by rw [List.length_set]; exact hcl) (by omega) (own_fl hfl (by omega) hi0.1 hinc)
  exact L5_2 (al.length + 1) s₁ h0 (0 : Int32) al (S0.more (by decide) (by decide)) (by have e0 : (0 : Int32).toInt = 0 := rfl; omega) Va K1 rfl (by have e0 : (0 : Int32).toInt = 0 := rfl; omega) (fun i hi => absurd hi (Nat.not_lt_zero i))
theorem own_d3_0 : decode prog_100_method_11_code 0 = .ok (.iload_n 0, 1) := by decide +kernel
theorem own_d3_1 : decode prog_100_method_11_code 1 = .ok (.newarray .int, 2) := by decide +kernel
theorem own_d3_3 : decode prog_100_method_11_code 3 = .ok (.astore_n 1, 1) := by decide +kernel
theorem own_d3_4 : decode prog_100_method_11_code 4 = .ok (.aload_n 1, 1) := by decide +kernel
theorem own_d3_5 : decode prog_100_method_11_code 5 = .ok (.iconst (-1), 1) := by decide +kernel
theorem own_d3_6 : decode prog_100_method_11_code 6 = .ok (.invokestatic 64, 3) := by decide +kernel
theorem own_d3_9 : decode prog_100_method_11_code 9 = .ok (.aload_n 1, 1) := by decide +kernel
theorem own_d3_10 : decode prog_100_method_11_code 10 = .ok (.areturn, 1) := by decide +kernel
theorem own_pn3 : plainName "com/example/entail/entail/tableau/ConceptSet" = true := by first | (simp [plainName, overriddenIn]; done) | decide +kernel
theorem own_pd2 : parseMethodDescriptor "([II)V" = some ⟨[(.array .int), .int], none⟩ := by decide +kernel
set_option maxRecDepth 65536 in
set_option maxHeartbeats 40000000 in
theorem own_cet (l : Launch) (Z : State) (a0 : Array Value) (hw : ∀ d ∈ tables_1, d.before a0 Z = true) (nt : Int32) (h0 : Heap) (n0 : Nat) (Z0 : n0 ≤ h0.size) (hnt : nt = 8 ∨ nt = 16) :
    Con l Z (⟨"com/example/entail/entail/tableau/ConceptSet", "emptyTable", "(I)[I"⟩ : MethodName) prog_100_method_11_code 2 (some (.array .int)) ({ frames := 1, cells := 1, slots := 16, locals := 15 } : Room) n0 h0 #[(.int nt)] (fun v h => ∃ b, v = some (.ref b) ∧ h0.size ≤ b ∧ Keep h0 h [] ∧ IV Z h b (List.replicate nt.toInt.toNat (-1))) := by
  refine Con.intro (plainFor_of_name own_pn3) (Ls := #[.val (.int nt), .unset]) (fun m => by first | (simp [entryFrame, mkF, argsToLocals, Value.category]; done) | rfl) ?_
  intro p e s m below meth c s₁ hx hby hml hown hnm hret hlk hZ S0
  have A0 := S0.here
  have K1 := Keep.refl h0 []
  refine k_iloadN A0 hx (hb hby own_d3_0) rfl (pc' := 1) rfl ?_
  refine k_newint S0 hx hZ (hw _ (List.mem_of_getElem? (i := 10) rfl)) (hb hby own_d3_1) (by rcases hnt with rfl | rfl <;> decide) 16 (by rcases hnt with rfl | rfl <;> decide) (by decide) (by decide) (by decide) (pc' := 3) rfl ?_
  intro T2 h2 b2 g2 E2 V2 S2
  have bo3 : h0.size ≤ b2 := Nat.le_trans K1.1 (Nat.le_of_eq g2.symm)
  have ge3 : n0 ≤ b2 := Nat.le_trans Z0 bo3
  have A2 := S2.here
  have K4 := K1.ext E2
  refine k_astoreN A2 hx (hb hby own_d3_3) rfl (Ls' := #[.val (.int nt), .val (.ref b2)]) rfl (pc' := 4) rfl ?_
  refine k_aloadN A2 hx (hb hby own_d3_4) rfl rfl (pc' := 5) rfl ?_
  refine k_iconst A2 hx (hb hby own_d3_5) (v := (-1)) rfl (pc' := 6) rfl ?_
  refine k_call_static S2 hx hZ hown (hw _ (List.mem_of_getElem? (i := 16) rfl)) (hw _ (List.mem_of_getElem? (i := 17) rfl)) (hw _ (List.mem_of_getElem? (i := 18) rfl)) (hw _ (List.mem_of_getElem? (i := 19) rfl)) (by decide) (own_cfill l Z a0 hw b2 (-1 : Int32) h2 n0 (List.replicate nt.toInt.toNat 0) V2 ge3) 0 (argsL := [(.ref b2), (.int (-1 : Int32))]) (rest := []) (by decide) (by decide) (by rw [hml]; rfl) (lenOf own_pd2 rfl) rfl rfl (Nat.le_refl 0) (hb hby own_d3_6) (pc' := 9) rfl (by decide) (by decide) ?_
  rintro v5 T5 h5 ⟨rfl, K5, V5⟩ S5
  have K7 := K4.trans K5 (allS (Or.inr bo3) all0)
  rw [List.length_replicate] at V5
  have A5 := S5.here
  show Done p e below _ (T5.setTop (mkF m 9 #[.val (.int nt), .val (.ref b2)] []))
  refine k_aloadN A5 hx (hb hby own_d3_9) rfl rfl (pc' := 10) rfl ?_
  refine k_ret_ref S5 hx hret rfl hlk (hb hby own_d3_10) (by decide) (by decide) ?_
  exact ⟨b2, rfl, bo3, K7, V5⟩
theorem own_d1_0 : decode prog_100_method_1_code 0 = .ok (.aload_n 0, 1) := by decide +kernel
theorem own_d1_1 : decode prog_100_method_1_code 1 = .ok (.invokespecial 1, 3) := by decide +kernel
theorem own_d1_4 : decode prog_100_method_1_code 4 = .ok (.aload_n 0, 1) := by decide +kernel
theorem own_d1_5 : decode prog_100_method_1_code 5 = .ok (.iconst 4, 1) := by decide +kernel
theorem own_d1_6 : decode prog_100_method_1_code 6 = .ok (.newarray .int, 2) := by decide +kernel
theorem own_d1_8 : decode prog_100_method_1_code 8 = .ok (.putfield 7, 3) := by decide +kernel
theorem own_d1_11 : decode prog_100_method_1_code 11 = .ok (.aload_n 0, 1) := by decide +kernel
theorem own_d1_12 : decode prog_100_method_1_code 12 = .ok (.bipush 8, 2) := by decide +kernel
theorem own_d1_14 : decode prog_100_method_1_code 14 = .ok (.invokestatic 13, 3) := by decide +kernel
theorem own_d1_17 : decode prog_100_method_1_code 17 = .ok (.putfield 17, 3) := by decide +kernel
theorem own_d1_20 : decode prog_100_method_1_code 20 = .ok (.aload_n 0, 1) := by decide +kernel
theorem own_d1_21 : decode prog_100_method_1_code 21 = .ok (.bipush 29, 2) := by decide +kernel
theorem own_d1_23 : decode prog_100_method_1_code 23 = .ok (.putfield 22, 3) := by decide +kernel
theorem own_d1_26 : decode prog_100_method_1_code 26 = .ok (.return_, 1) := by decide +kernel
theorem own_pn1 : plainName "com/example/entail/entail/tableau/ConceptSet" = true := by first | (simp [plainName, overriddenIn]; done) | decide +kernel
theorem own_pd3 : parseMethodDescriptor "(I)[I" = some ⟨[.int], some (.array .int)⟩ := by decide +kernel
set_option maxRecDepth 65536 in
set_option maxHeartbeats 40000000 in
theorem own_cinit (l : Launch) (Z : State) (a0 : Array Value) (hw : ∀ d ∈ tables_1, d.before a0 Z = true) (o : Addr) (h0 : Heap) (n0 : Nat) (go : n0 ≤ o) (E0 : Exa Z h0 o "com/example/entail/entail/tableau/ConceptSet") (F1 : Fld Z h0 o "com/example/entail/entail/tableau/ConceptSet" "added" "[I" .null) (F2 : Fld Z h0 o "com/example/entail/entail/tableau/ConceptSet" "table" "[I" .null) (F3 : Fld Z h0 o "com/example/entail/entail/tableau/ConceptSet" "shift" "I" (.int (0 : Int32))) (F4 : Fld Z h0 o "com/example/entail/entail/tableau/ConceptSet" "size" "I" (.int (0 : Int32))) :
    Con l Z (⟨"com/example/entail/entail/tableau/ConceptSet", "<init>", "()V"⟩ : MethodName) prog_100_method_1_code 1 none ({ frames := 2, cells := 2, slots := 20, locals := 30 } : Room) n0 h0 #[(.ref o)] (fun v h => v = none ∧ own_OB Z h n0 o 0 (fun _ => False)) := by
  refine Con.intro (plainFor_of_name own_pn1) (Ls := #[.val (.ref o)]) (fun m => by first | (simp [entryFrame, mkF, argsToLocals, Value.category]; done) | rfl) ?_
  intro p e s m below meth c s₁ hx hby hml hown hnm hret hlk hZ S0
  have A0 := S0.here
  refine k_aloadN A0 hx (hb hby own_d1_0) rfl rfl (pc' := 1) rfl ?_
  refine k_via S0 (f := (mkF m 1 #[.val (.ref o)] [(.ref o)])) (f' := (mkF m 4 #[.val (.ref o)] [])) (fun _ X eT => initO X hx hZ hown (hw _ (List.mem_of_getElem? (i := 7) rfl)) (hw _ (List.mem_of_getElem? (i := 8) rfl)) (hw _ (List.mem_of_getElem? (i := 9) rfl)) eT (g := (mkF m 1 #[.val (.ref o)] [(.ref o)])) rfl (by rw [hml]; rfl) rfl (hb hby own_d1_1) (by decide) (W := 0) (Nat.le_of_eq rfl) (by decide)) ?_
  intro T1 S1
  have A1 := S1.here
  refine k_aloadN A1 hx (hb hby own_d1_4) rfl rfl (pc' := 5) rfl ?_
  refine k_iconst A1 hx (hb hby own_d1_5) (v := 4) rfl (pc' := 6) rfl ?_
  refine k_newint S1 hx hZ (hw _ (List.mem_of_getElem? (i := 10) rfl)) (hb hby own_d1_6) (by decide) 4 (by decide) (by decide) (by decide) (by decide) (pc' := 8) rfl ?_
  intro T2 h2 b2 g2 E2 V2 S2
  have ne3 : o ≠ b2 := by rw [g2]; exact Nat.ne_of_lt E0.lt
  have ge4 : n0 ≤ b2 := Nat.le_trans go (Nat.le_trans (Nat.le_of_lt E0.lt) (Nat.le_of_eq g2.symm))
  have A2 := S2.here
  have f5 := E0.ext E2
  have f6 := F3.ext E2
  have f7 := F4.ext E2
  have f8 := F1.ext E2
  have f9 := F2.ext E2
  have V2 : IV Z h2 b2 [(0 : Int32), (0 : Int32), (0 : Int32), (0 : Int32)] := V2
  refine k_putfield S2 hx hZ hown (hw _ (List.mem_of_getElem? (i := 11) rfl)) f8 f5 (Or.inl (hw _ (List.mem_of_getElem? (i := 12) rfl))) (hw _ (List.mem_of_getElem? (i := 2) rfl)) (ty := (.array .int)) (by decide) rfl rfl go (hb hby own_d1_8) (pc' := 11) rfl ?_
  intro T10 h10 W10 S10
  have A10 := S10.here
  have f11 := f5.wr W10
  have f12 := f6.other W10 (Or.inr (slot_ne (Or.inl (hw _ (List.mem_of_getElem? (i := 23) rfl))) (Or.inl (hw _ (List.mem_of_getElem? (i := 12) rfl))) (by decide) (t := .int) (t' := (.array .int)) (by decide) (by decide)))
  have f13 := f7.other W10 (Or.inr (slot_ne (Or.inl (hw _ (List.mem_of_getElem? (i := 40) rfl))) (Or.inl (hw _ (List.mem_of_getElem? (i := 12) rfl))) (by decide) (t := .int) (t' := (.array .int)) (by decide) (by decide)))
  have f14 := f8.same W10
  have f15 := f9.other W10 (Or.inr (slot_ne (Or.inl (hw _ (List.mem_of_getElem? (i := 21) rfl))) (Or.inl (hw _ (List.mem_of_getElem? (i := 12) rfl))) (by decide) (t := (.array .int)) (t' := (.array .int)) (by decide) (by decide)))
  have f16 := V2.other W10 (Ne.symm ne3)
  refine k_aloadN A10 hx (hb hby own_d1_11) rfl rfl (pc' := 12) rfl ?_
  refine k_bipush A10 hx (hb hby own_d1_12) (v := 8) rfl (pc' := 14) rfl ?_
  refine k_call_static S10 hx hZ hown (hw _ (List.mem_of_getElem? (i := 13) rfl)) (hw _ (List.mem_of_getElem? (i := 14) rfl)) (hw _ (List.mem_of_getElem? (i := 3) rfl)) (hw _ (List.mem_of_getElem? (i := 15) rfl)) (by decide) (own_cet l Z a0 hw (8 : Int32) h10 n0 (Nat.le_trans go (Nat.le_of_lt f11.lt)) (Or.inl rfl)) 1 (argsL := [(.int (8 : Int32))]) (rest := [(.ref o)]) (by decide) (by decide) (by rw [hml]; rfl) (lenOf own_pd3 rfl) rfl rfl (Nat.le_refl 1) (hb hby own_d1_14) (pc' := 17) rfl (by decide) (by decide) ?_
  rintro v17 T17 h17 ⟨b17, rfl, g17, K17, V17⟩ S17
  have ne18 : o ≠ b17 := Nat.ne_of_lt (Nat.lt_of_lt_of_le f11.lt g17)
  have ne19 : b2 ≠ b17 := Nat.ne_of_lt (Nat.lt_of_lt_of_le f16.lt g17)
  have ge20 : n0 ≤ b17 := Nat.le_trans (Nat.le_trans go (Nat.le_of_lt f11.lt)) g17
  have f21 := f11.keep K17
  have f22 := f12.keep K17 nin0
  have f23 := f13.keep K17 nin0
  have f24 := f14.keep K17 nin0
  have f25 := f15.keep K17 nin0
  have f26 := f16.keep K17 nin0
  rw [show (8 : Int32).toInt.toNat = 8 from by decide] at V17
  have A17 := S17.here
  show Done p e below _ (T17.setTop (mkF m 17 #[.val (.ref o)] [(.ref b17), (.ref o)]))
  refine k_putfield S17 hx hZ hown (hw _ (List.mem_of_getElem? (i := 20) rfl)) f25 f21 (Or.inl (hw _ (List.mem_of_getElem? (i := 21) rfl))) (hw _ (List.mem_of_getElem? (i := 2) rfl)) (ty := (.array .int)) (by decide) rfl rfl go (hb hby own_d1_17) (pc' := 20) rfl ?_
  intro T27 h27 W27 S27
  have A27 := S27.here
  have f28 := f21.wr W27
  have f29 := f22.other W27 (Or.inr (slot_ne (Or.inl (hw _ (List.mem_of_getElem? (i := 23) rfl))) (Or.inl (hw _ (List.mem_of_getElem? (i := 21) rfl))) (by decide) (t := .int) (t' := (.array .int)) (by decide) (by decide)))
  have f30 := f23.other W27 (Or.inr (slot_ne (Or.inl (hw _ (List.mem_of_getElem? (i := 40) rfl))) (Or.inl (hw _ (List.mem_of_getElem? (i := 21) rfl))) (by decide) (t := .int) (t' := (.array .int)) (by decide) (by decide)))
  have f31 := f24.other W27 (Or.inr (slot_ne (Or.inl (hw _ (List.mem_of_getElem? (i := 12) rfl))) (Or.inl (hw _ (List.mem_of_getElem? (i := 21) rfl))) (by decide) (t := (.array .int)) (t' := (.array .int)) (by decide) (by decide)))
  have f32 := f25.same W27
  have f33 := f26.other W27 (Ne.symm ne3)
  have f34 := V17.other W27 (Ne.symm ne18)
  refine k_aloadN A27 hx (hb hby own_d1_20) rfl rfl (pc' := 21) rfl ?_
  refine k_bipush A27 hx (hb hby own_d1_21) (v := 29) rfl (pc' := 23) rfl ?_
  refine k_putfield S27 hx hZ hown (hw _ (List.mem_of_getElem? (i := 22) rfl)) f29 f28 (Or.inl (hw _ (List.mem_of_getElem? (i := 23) rfl))) (hw _ (List.mem_of_getElem? (i := 2) rfl)) (ty := .int) (by decide) rfl rfl go (hb hby own_d1_23) (pc' := 26) rfl ?_
  intro T35 h35 W35 S35
  have A35 := S35.here
  have f36 := f28.wr W35
  have f37 := f29.same W35
  have f38 := f30.other W35 (Or.inr (slot_ne (Or.inl (hw _ (List.mem_of_getElem? (i := 40) rfl))) (Or.inl (hw _ (List.mem_of_getElem? (i := 23) rfl))) (by decide) (t := .int) (t' := .int) (by decide) (by decide)))
  have f39 := f31.other W35 (Or.inr (slot_ne (Or.inl (hw _ (List.mem_of_getElem? (i := 12) rfl))) (Or.inl (hw _ (List.mem_of_getElem? (i := 23) rfl))) (by decide) (t := (.array .int)) (t' := .int) (by decide) (by decide)))
  have f40 := f32.other W35 (Or.inr (slot_ne (Or.inl (hw _ (List.mem_of_getElem? (i := 21) rfl))) (Or.inl (hw _ (List.mem_of_getElem? (i := 23) rfl))) (by decide) (t := (.array .int)) (t' := .int) (by decide) (by decide)))
  have f41 := f33.other W35 (Ne.symm ne3)
  have f42 := f34.other W35 (Ne.symm ne18)
  refine k_ret_void S35 hx hret hlk (hb hby own_d1_26) (by decide) (by decide) ?_
  exact ⟨rfl, b2, b17, 29, [0, 0, 0, 0], List.replicate 8 (-1), 8, ⟨f36, f39, f40, f37, f38, f41, f42⟩, ⟨ne3, ne18, ne19⟩, ⟨go, ge4, ge20⟩, own_ST0⟩
theorem own_d5_0 : decode prog_100_method_3_code 0 = .ok (.aload_n 0, 1) := by decide +kernel
theorem own_d5_1 : decode prog_100_method_3_code 1 = .ok (.iload_n 1, 1) := by decide +kernel
theorem own_d5_2 : decode prog_100_method_3_code 2 = .ok (.invokevirtual 30, 3) := by decide +kernel
theorem own_d5_5 : decode prog_100_method_3_code 5 = .ok (.ifCond .eq 5, 3) := by decide +kernel
theorem own_d5_8 : decode prog_100_method_3_code 8 = .ok (.iconst 0, 1) := by decide +kernel
theorem own_d5_9 : decode prog_100_method_3_code 9 = .ok (.ireturn, 1) := by decide +kernel
theorem own_d5_10 : decode prog_100_method_3_code 10 = .ok (.aload_n 0, 1) := by decide +kernel
theorem own_d5_11 : decode prog_100_method_3_code 11 = .ok (.getfield 34, 3) := by decide +kernel
theorem own_d5_14 : decode prog_100_method_3_code 14 = .ok (.aload_n 0, 1) := by decide +kernel
theorem own_d5_15 : decode prog_100_method_3_code 15 = .ok (.getfield 7, 3) := by decide +kernel
theorem own_d5_18 : decode prog_100_method_3_code 18 = .ok (.arraylength, 1) := by decide +kernel
theorem own_d5_19 : decode prog_100_method_3_code 19 = .ok (.if_icmp .ne 20, 3) := by decide +kernel
theorem own_d5_22 : decode prog_100_method_3_code 22 = .ok (.aload_n 0, 1) := by decide +kernel
theorem own_d5_23 : decode prog_100_method_3_code 23 = .ok (.aload_n 0, 1) := by decide +kernel
theorem own_d5_24 : decode prog_100_method_3_code 24 = .ok (.getfield 7, 3) := by decide +kernel
theorem own_d5_27 : decode prog_100_method_3_code 27 = .ok (.iconst 2, 1) := by decide +kernel
theorem own_d5_28 : decode prog_100_method_3_code 28 = .ok (.aload_n 0, 1) := by decide +kernel
theorem own_d5_29 : decode prog_100_method_3_code 29 = .ok (.getfield 34, 3) := by decide +kernel
theorem own_d5_32 : decode prog_100_method_3_code 32 = .ok (.imul, 1) := by decide +kernel
theorem own_d5_33 : decode prog_100_method_3_code 33 = .ok (.invokestatic 37, 3) := by decide +kernel
theorem own_d5_36 : decode prog_100_method_3_code 36 = .ok (.putfield 7, 3) := by decide +kernel
theorem own_d5_39 : decode prog_100_method_3_code 39 = .ok (.iconst 2, 1) := by decide +kernel
theorem own_d5_40 : decode prog_100_method_3_code 40 = .ok (.aload_n 0, 1) := by decide +kernel
theorem own_d5_41 : decode prog_100_method_3_code 41 = .ok (.getfield 34, 3) := by decide +kernel
theorem own_d5_44 : decode prog_100_method_3_code 44 = .ok (.iconst 1, 1) := by decide +kernel
theorem own_d5_45 : decode prog_100_method_3_code 45 = .ok (.iadd, 1) := by decide +kernel
theorem own_d5_46 : decode prog_100_method_3_code 46 = .ok (.imul, 1) := by decide +kernel
theorem own_d5_47 : decode prog_100_method_3_code 47 = .ok (.aload_n 0, 1) := by decide +kernel
theorem own_d5_48 : decode prog_100_method_3_code 48 = .ok (.getfield 17, 3) := by decide +kernel
theorem own_d5_51 : decode prog_100_method_3_code 51 = .ok (.arraylength, 1) := by decide +kernel
theorem own_d5_52 : decode prog_100_method_3_code 52 = .ok (.if_icmp .le 53, 3) := by decide +kernel
theorem own_d5_55 : decode prog_100_method_3_code 55 = .ok (.aload_n 0, 1) := by decide +kernel
theorem own_d5_56 : decode prog_100_method_3_code 56 = .ok (.iconst 2, 1) := by decide +kernel
theorem own_d5_57 : decode prog_100_method_3_code 57 = .ok (.aload_n 0, 1) := by decide +kernel
theorem own_d5_58 : decode prog_100_method_3_code 58 = .ok (.getfield 17, 3) := by decide +kernel
theorem own_d5_61 : decode prog_100_method_3_code 61 = .ok (.arraylength, 1) := by decide +kernel
theorem own_d5_62 : decode prog_100_method_3_code 62 = .ok (.imul, 1) := by decide +kernel
theorem own_d5_63 : decode prog_100_method_3_code 63 = .ok (.invokestatic 13, 3) := by decide +kernel
theorem own_d5_66 : decode prog_100_method_3_code 66 = .ok (.putfield 17, 3) := by decide +kernel
theorem own_d5_69 : decode prog_100_method_3_code 69 = .ok (.aload_n 0, 1) := by decide +kernel
theorem own_d5_70 : decode prog_100_method_3_code 70 = .ok (.dup, 1) := by decide +kernel
theorem own_d5_71 : decode prog_100_method_3_code 71 = .ok (.getfield 22, 3) := by decide +kernel
theorem own_d5_74 : decode prog_100_method_3_code 74 = .ok (.iconst 1, 1) := by decide +kernel
theorem own_d5_75 : decode prog_100_method_3_code 75 = .ok (.isub, 1) := by decide +kernel
theorem own_d5_76 : decode prog_100_method_3_code 76 = .ok (.putfield 22, 3) := by decide +kernel
theorem own_d5_79 : decode prog_100_method_3_code 79 = .ok (.iconst 0, 1) := by decide +kernel
theorem own_d5_80 : decode prog_100_method_3_code 80 = .ok (.istore_n 2, 1) := by decide +kernel
theorem own_d5_81 : decode prog_100_method_3_code 81 = .ok (.iload_n 2, 1) := by decide +kernel
theorem own_d5_82 : decode prog_100_method_3_code 82 = .ok (.aload_n 0, 1) := by decide +kernel
theorem own_d5_83 : decode prog_100_method_3_code 83 = .ok (.getfield 34, 3) := by decide +kernel
theorem own_d5_86 : decode prog_100_method_3_code 86 = .ok (.if_icmp .ge 19, 3) := by decide +kernel
theorem own_d5_89 : decode prog_100_method_3_code 89 = .ok (.aload_n 0, 1) := by decide +kernel
theorem own_d5_90 : decode prog_100_method_3_code 90 = .ok (.aload_n 0, 1) := by decide +kernel
theorem own_d5_91 : decode prog_100_method_3_code 91 = .ok (.getfield 7, 3) := by decide +kernel
theorem own_d5_94 : decode prog_100_method_3_code 94 = .ok (.iload_n 2, 1) := by decide +kernel
theorem own_d5_95 : decode prog_100_method_3_code 95 = .ok (.iaload, 1) := by decide +kernel
theorem own_d5_96 : decode prog_100_method_3_code 96 = .ok (.invokevirtual 43, 3) := by decide +kernel
theorem own_d5_99 : decode prog_100_method_3_code 99 = .ok (.iinc 2 1, 3) := by decide +kernel
theorem own_d5_102 : decode prog_100_method_3_code 102 = .ok (.goto (-21), 3) := by decide +kernel
theorem own_d5_105 : decode prog_100_method_3_code 105 = .ok (.aload_n 0, 1) := by decide +kernel
theorem own_d5_106 : decode prog_100_method_3_code 106 = .ok (.getfield 7, 3) := by decide +kernel
theorem own_d5_109 : decode prog_100_method_3_code 109 = .ok (.aload_n 0, 1) := by decide +kernel
theorem own_d5_110 : decode prog_100_method_3_code 110 = .ok (.dup, 1) := by decide +kernel
theorem own_d5_111 : decode prog_100_method_3_code 111 = .ok (.getfield 34, 3) := by decide +kernel
theorem own_d5_114 : decode prog_100_method_3_code 114 = .ok (.dup_x1, 1) := by decide +kernel
theorem own_d5_115 : decode prog_100_method_3_code 115 = .ok (.iconst 1, 1) := by decide +kernel
theorem own_d5_116 : decode prog_100_method_3_code 116 = .ok (.iadd, 1) := by decide +kernel
theorem own_d5_117 : decode prog_100_method_3_code 117 = .ok (.putfield 34, 3) := by decide +kernel
theorem own_d5_120 : decode prog_100_method_3_code 120 = .ok (.iload_n 1, 1) := by decide +kernel
theorem own_d5_121 : decode prog_100_method_3_code 121 = .ok (.iastore, 1) := by decide +kernel
theorem own_d5_122 : decode prog_100_method_3_code 122 = .ok (.aload_n 0, 1) := by decide +kernel
theorem own_d5_123 : decode prog_100_method_3_code 123 = .ok (.iload_n 1, 1) := by decide +kernel
theorem own_d5_124 : decode prog_100_method_3_code 124 = .ok (.invokevirtual 43, 3) := by decide +kernel
theorem own_d5_127 : decode prog_100_method_3_code 127 = .ok (.iconst 1, 1) := by decide +kernel
theorem own_d5_128 : decode prog_100_method_3_code 128 = .ok (.ireturn, 1) := by decide +kernel
theorem own_pn5 : plainName "com/example/entail/entail/tableau/ConceptSet" = true := by first | (simp [plainName, overriddenIn]; done) | decide +kernel
theorem own_pd4 : parseMethodDescriptor "(I)Z" = some ⟨[.int], some .boolean⟩ := by decide +kernel
theorem own_pd5 : parseMethodDescriptor "(I)V" = some ⟨[.int], none⟩ := by decide +kernel
theorem own_pd6 : parseMethodDescriptor "([II)[I" = some ⟨[(.array .int), .int], some (.array .int)⟩ := by decide +kernel
set_option maxRecDepth 65536 in
set_option maxHeartbeats 40000000 in
theorem own_cadd (l : Launch) (Z : State) (a0 : Array Value) (hw : ∀ d ∈ tables_1, d.before a0 Z = true) (o : Addr) (xe : Int32) (h0 : Heap) (n0 : Nat) (k : Nat) (P : Int32 → Prop) (hk5 : k ≤ 4) (hx1 : xe ≠ -1) (B : own_OB Z h0 n0 o k P) :
    Con l Z (⟨"com/example/entail/entail/tableau/ConceptSet", "add", "(I)Z"⟩ : MethodName) prog_100_method_3_code 3 (some .boolean) ({ frames := 2, cells := 2, slots := 24, locals := 45 } : Room) n0 h0 #[(.ref o), (.int xe)] (fun v h => ∃ r : Int32, v = some (.int r) ∧ ∃ k', k' ≤ k + 1 ∧ own_OB Z h n0 o k' (fun y => P y ∨ y = xe)) := by
  refine Con.intro (plainFor_of_name own_pn5) (Ls := #[.val (.ref o), .val (.int xe), .unset]) (fun m => by first | (simp [entryFrame, mkF, argsToLocals, Value.category]; done) | rfl) ?_
  intro p e s m below meth c s₁ hx hby hml hown hnm hret hlk hZ S0
  have A0 := S0.here
  obtain ⟨a, t, sh, al, tb, N, ⟨E0, Fa, Ft, Fs, Fk, Va, Vt⟩, ⟨n1, n2, n3⟩, ⟨go, ga, gt⟩, T⟩ := B
  have hla := own_len32 Va.len
  have hlt := own_len32 Vt.len
  have htl : tb.length = N := T.2.1.2.1
  have hlast := T.2.2.2.2.2
  refine k_aloadN A0 hx (hb hby own_d5_0) rfl rfl (pc' := 1) rfl ?_
  refine k_iloadN A0 hx (hb hby own_d5_1) rfl (pc' := 2) rfl ?_
  refine k_call_virtual S0 hx hZ hown E0 (hw _ (List.mem_of_getElem? (i := 29) rfl)) (hw _ (List.mem_of_getElem? (i := 30) rfl)) (hw _ (List.mem_of_getElem? (i := 32) rfl)) (hw _ (List.mem_of_getElem? (i := 31) rfl)) (hw _ (List.mem_of_getElem? (i := 3) rfl)) (hw _ (List.mem_of_getElem? (i := 33) rfl)) (by decide) (own_ccon l Z a0 hw o xe h0 n0 t sh tb N P E0 Ft Fs Vt T.1 T.2.1 (own_ST_em T) hx1) 0 (argsL := [(.int xe)]) (rest := []) (by decide) (by decide) (by rw [hml]; rfl) (lenOf own_pd4 rfl) rfl rfl (Nat.le_refl 0) (hb hby own_d5_2) (pc' := 5) rfl (by decide) (by decide) ?_
  rintro v1 T1 h1 ⟨hres1, q1⟩ S1
  rw [q1] at S1
  obtain ⟨r1, rfl, hr⟩ := own_res hres1
  have A1 := S1.here
  show Done p e below _ (T1.setTop (mkF m 5 #[.val (.ref o), .val (.int xe), .unset] [(.int r1)]))
  refine k_if_eq A1 hx (hb hby own_d5_5) (pcY := 10) (by decide) (pc' := 8) rfl (fun hc5 => ?_) (fun hc5 => ?_)
  · have hn1 : ¬ P xe := own_r0 hr hc5
    have J105_2 : ∀ (T2 : State) (h2 : Heap), ∀ (a2 : Addr), ∀ (t2 : Addr), ∀ (sh2 : Int32), ∀ (al2 : List Int32), ∀ (tb2 : List Int32), ∀ (N2 : Nat), ∀ (s2 : Slot), St p l e ({ frames := 2, cells := 2, slots := 24, locals := 45 } : Room) s m #[(.ref o), (.int xe)] below meth c n0 T2 h2 2 24 → (Exa Z h2 o "com/example/entail/entail/tableau/ConceptSet") → (Fld Z h2 o "com/example/entail/entail/tableau/ConceptSet" "added" "[I" (.ref a2)) → (Fld Z h2 o "com/example/entail/entail/tableau/ConceptSet" "table" "[I" (.ref t2)) → (Fld Z h2 o "com/example/entail/entail/tableau/ConceptSet" "shift" "I" (.int sh2)) → (Fld Z h2 o "com/example/entail/entail/tableau/ConceptSet" "size" "I" (.int k.toInt32)) → (IV Z h2 a2 al2) → (IV Z h2 t2 tb2) → (o ≠ a2) → (o ≠ t2) → (a2 ≠ t2) → (n0 ≤ a2) → (n0 ≤ t2) → (own_PR al2 tb2 k N2 sh2 P) → Done p e below (OEnd s ({ frames := 2, cells := 2, slots := 24, locals := 45 } : Room) n0 (fun v h => ∃ r : Int32, v = some (.int r) ∧ ∃ k', k' ≤ k + 1 ∧ own_OB Z h n0 o k' (fun y => P y ∨ y = xe))) (T2.setTop (mkF m 105 #[.val (.ref o), .val (.int xe), s2] [])) := by
      intro T2 h2 a2 t2 sh2 al2 tb2 N2 s2 S2 E5 Fa5 Ft5 Fs5 Fk5 Va5 Vt5 m1 m2 m3 ga5 gt5 PR
      have A2 := S2.here
      refine k_aloadN A2 hx (hb hby own_d5_105) rfl rfl (pc' := 106) rfl ?_
      refine k_getfield S2 hx hZ hown (hw _ (List.mem_of_getElem? (i := 11) rfl)) Fa5 (hb hby own_d5_106) (pc' := 109) rfl ?_
      intro T3 S3
      have A3 := S3.here
      refine k_aloadN A3 hx (hb hby own_d5_109) rfl rfl (pc' := 110) rfl ?_
      refine k_dup A3 hx (hb hby own_d5_110) rfl (pc' := 111) rfl ?_
      refine k_getfield S3 hx hZ hown (hw _ (List.mem_of_getElem? (i := 39) rfl)) Fk5 (hb hby own_d5_111) (pc' := 114) rfl ?_
      intro T4 S4
      have A4 := S4.here
      refine k_dupX1 A4 hx (hb hby own_d5_114) rfl rfl (pc' := 115) rfl ?_
      refine k_iconst A4 hx (hb hby own_d5_115) (v := 1) rfl (pc' := 116) rfl ?_
      refine k_iadd A4 hx (hb hby own_d5_116) (pc' := 117) rfl ?_
      refine k_putfield S4 hx hZ hown (hw _ (List.mem_of_getElem? (i := 39) rfl)) Fk5 E5 (Or.inl (hw _ (List.mem_of_getElem? (i := 40) rfl))) (hw _ (List.mem_of_getElem? (i := 2) rfl)) (ty := .int) (by decide) rfl rfl go (hb hby own_d5_117) (pc' := 120) rfl ?_
      intro T5 h5 W5 S5
      have A5 := S5.here
      have f6 := E5.wr W5
      have f7 := Va5.other W5 (Ne.symm m1)
      have f8 := Vt5.other W5 (Ne.symm m2)
      have f9 := Fa5.other W5 (Or.inr (slot_ne (Or.inl (hw _ (List.mem_of_getElem? (i := 12) rfl))) (Or.inl (hw _ (List.mem_of_getElem? (i := 40) rfl))) (by decide) (t := (.array .int)) (t' := .int) (by decide) (by decide)))
      have f10 := Ft5.other W5 (Or.inr (slot_ne (Or.inl (hw _ (List.mem_of_getElem? (i := 21) rfl))) (Or.inl (hw _ (List.mem_of_getElem? (i := 40) rfl))) (by decide) (t := (.array .int)) (t' := .int) (by decide) (by decide)))
      have f11 := Fs5.other W5 (Or.inr (slot_ne (Or.inl (hw _ (List.mem_of_getElem? (i := 23) rfl))) (Or.inl (hw _ (List.mem_of_getElem? (i := 40) rfl))) (by decide) (t := .int) (t' := .int) (by decide) (by decide)))
      have f12 := Fk5.same W5
      refine k_iloadN A5 hx (hb hby own_d5_120) rfl (pc' := 121) rfl ?_
      refine k_iastore S5 hx hZ f7 (hb hby own_d5_121) (by rw [own_kk (by omega)]; omega) (by rw [own_kk (by omega)]; have q := PR.2.2.2.2.2; omega) ga5 (pc' := 122) rfl ?_
      intro T13 h13 W13 V13 S13
      have A13 := S13.here
      have f14 := f6.wr W13
      have f16 := f8.other W13 (Ne.symm m3)
      have f17 := f9.other W13 (Or.inl m1)
      have f18 := f10.other W13 (Or.inl m1)
      have f19 := f11.other W13 (Or.inl m1)
      have f20 := f12.other W13 (Or.inl m1)
      refine k_aloadN A13 hx (hb hby own_d5_122) rfl rfl (pc' := 123) rfl ?_
      refine k_iloadN A13 hx (hb hby own_d5_123) rfl (pc' := 124) rfl ?_
      refine k_call_priv S13 hx hZ hown f14 (y2 := (⟨"com/example/entail/entail/tableau/ConceptSet", "add", "(I)Z"⟩ : MethodName)) (hw _ (List.mem_of_getElem? (i := 41) rfl)) (hw _ (List.mem_of_getElem? (i := 42) rfl)) (hw _ (List.mem_of_getElem? (i := 27) rfl)) rfl (hw _ (List.mem_of_getElem? (i := 43) rfl)) (hw _ (List.mem_of_getElem? (i := 3) rfl)) (hw _ (List.mem_of_getElem? (i := 44) rfl)) (by decide) (own_cput l Z a0 hw o xe h13 n0 t2 sh2 tb2 N2 P f14 f18 f19 f16 PR.1 PR.2.1 (own_PR_em PR) hx1 gt5 m2 hn1) 0 (argsL := [(.int xe)]) (rest := []) (by decide) (by decide) (by rw [hml]; rfl) (lenOf own_pd5 rfl) rfl rfl (Nat.le_refl 0) (hb hby own_d5_124) (pc' := 127) rfl (by decide) (by decide) ?_
      rintro v21 T21 h21 ⟨rfl, K21, tb21, V21, TT21, CC21⟩ S21
      have f22 := f14.keep K21
      have f24 := f17.keep K21 (ninS m2 nin0)
      have f25 := f18.keep K21 (ninS m2 nin0)
      have f26 := f19.keep K21 (ninS m2 nin0)
      have f27 := f20.keep K21 (ninS m2 nin0)
      have f28 := V13.keep K21 (ninS m3 nin0)
      have A21 := S21.here
      show Done p e below _ (T21.setTop (mkF m 127 #[.val (.ref o), .val (.int xe), s2] []))
      refine k_iconst A21 hx (hb hby own_d5_127) (v := 1) rfl (pc' := 128) rfl ?_
      refine k_ret_nar S21 hx (t := .boolean) hret (by simp) hlk (hb hby own_d5_128) (z' := (1 : Int32)) rfl (by decide) (by decide) ?_
      have Fk9 := f27
      rw [own_k1 hk5] at Fk9
      have Va9 := f28
      rw [own_kn (show k ≤ 5 by omega)] at Va9
      exact ⟨1, rfl, k + 1, Nat.le_refl _, a2, t2, sh2, al2.set k xe, tb21, N2, ⟨f22, f24, f25, f26, Fk9, Va9, V21⟩, ⟨m1, m2, m3⟩, ⟨go, ga5, gt5⟩, own_PR_st PR hn1 TT21 CC21⟩
    by_cases hk4 : k < 4
    · have hal : al.length = 4 := by omega
      have hN : N = 8 := by omega
      refine k_aloadN A1 hx (hb hby own_d5_10) rfl rfl (pc' := 11) rfl ?_
      refine k_getfield S1 hx hZ hown (hw _ (List.mem_of_getElem? (i := 39) rfl)) Fk (hb hby own_d5_11) (pc' := 14) rfl ?_
      intro T29 S29
      have A29 := S29.here
      refine k_aloadN A29 hx (hb hby own_d5_14) rfl rfl (pc' := 15) rfl ?_
      refine k_getfield S29 hx hZ hown (hw _ (List.mem_of_getElem? (i := 11) rfl)) Fa (hb hby own_d5_15) (pc' := 18) rfl ?_
      intro T30 S30
      have A30 := S30.here
      refine k_arraylength S30 hx hZ Va (hb hby own_d5_18) (z := (al.length.toInt32)) (by rw [List.length_map]) (pc' := 19) rfl ?_
      refine k_icmp_ne A30 hx (hb hby own_d5_19) (pcY := 39) (by decide) (pc' := 22) rfl (fun hc19 => ?_) (fun hc19 => by exfalso; rw [← Int32.toInt_inj, own_kk (by omega), hla] at hc19; omega)
      refine k_iconst A30 hx (hb hby own_d5_39) (v := 2) rfl (pc' := 40) rfl ?_
      refine k_aloadN A30 hx (hb hby own_d5_40) rfl rfl (pc' := 41) rfl ?_
      refine k_getfield S30 hx hZ hown (hw _ (List.mem_of_getElem? (i := 39) rfl)) Fk (hb hby own_d5_41) (pc' := 44) rfl ?_
      intro T31 S31
      have A31 := S31.here
      refine k_iconst A31 hx (hb hby own_d5_44) (v := 1) rfl (pc' := 45) rfl ?_
      refine k_iadd A31 hx (hb hby own_d5_45) (pc' := 46) rfl ?_
      refine k_imul A31 hx (hb hby own_d5_46) (pc' := 47) rfl ?_
      refine k_aloadN A31 hx (hb hby own_d5_47) rfl rfl (pc' := 48) rfl ?_
      refine k_getfield S31 hx hZ hown (hw _ (List.mem_of_getElem? (i := 20) rfl)) Ft (hb hby own_d5_48) (pc' := 51) rfl ?_
      intro T32 S32
      have A32 := S32.here
      refine k_arraylength S32 hx hZ Vt (hb hby own_d5_51) (z := (tb.length.toInt32)) (by rw [List.length_map]) (pc' := 52) rfl ?_
      refine k_icmp_le A32 hx (hb hby own_d5_52) (pcY := 105) (by decide) (pc' := 55) rfl (fun hc52 => ?_) (fun hc52 => by exfalso; rw [own_lt, hlt, own_2k hk5] at hc52; omega)
      exact J105_2 T32 h0 a t sh al tb N .unset (S32.more (by decide) (by decide)) E0 Fa Ft Fs Fk Va Vt n1 n2 n3 ga gt (own_ST_pr T hk4)
    · have hk4' : k = 4 := by omega
      have hal : al.length = 4 := by omega
      have hN : N = 8 := by omega
      have hsh : sh = 29 := by
        have q := T.1
        rcases q with ⟨_, q⟩ | ⟨q, _⟩
        · exact q
        · omega
      refine k_aloadN A1 hx (hb hby own_d5_10) rfl rfl (pc' := 11) rfl ?_
      refine k_getfield S1 hx hZ hown (hw _ (List.mem_of_getElem? (i := 39) rfl)) Fk (hb hby own_d5_11) (pc' := 14) rfl ?_
      intro T33 S33
      have A33 := S33.here
      refine k_aloadN A33 hx (hb hby own_d5_14) rfl rfl (pc' := 15) rfl ?_
      refine k_getfield S33 hx hZ hown (hw _ (List.mem_of_getElem? (i := 11) rfl)) Fa (hb hby own_d5_15) (pc' := 18) rfl ?_
      intro T34 S34
      have A34 := S34.here
      refine k_arraylength S34 hx hZ Va (hb hby own_d5_18) (z := (al.length.toInt32)) (by rw [List.length_map]) (pc' := 19) rfl ?_
      refine k_icmp_ne A34 hx (hb hby own_d5_19) (pcY := 39) (by decide) (pc' := 22) rfl (fun hc19 => absurd (by rw [hk4', hal]) hc19) (fun hc19 => ?_)
      refine k_aloadN A34 hx (hb hby own_d5_22) rfl rfl (pc' := 23) rfl ?_
      refine k_aloadN A34 hx (hb hby own_d5_23) rfl rfl (pc' := 24) rfl ?_
      refine k_getfield S34 hx hZ hown (hw _ (List.mem_of_getElem? (i := 11) rfl)) Fa (hb hby own_d5_24) (pc' := 27) rfl ?_
      intro T35 S35
      have A35 := S35.here
      refine k_iconst A35 hx (hb hby own_d5_27) (v := 2) rfl (pc' := 28) rfl ?_
      refine k_aloadN A35 hx (hb hby own_d5_28) rfl rfl (pc' := 29) rfl ?_
      refine k_getfield S35 hx hZ hown (hw _ (List.mem_of_getElem? (i := 39) rfl)) Fk (hb hby own_d5_29) (pc' := 32) rfl ?_
      intro T36 S36
      have A36 := S36.here
      refine k_imul A36 hx (hb hby own_d5_32) (pc' := 33) rfl ?_
      rw [show ((2 : Int32) * k.toInt32) = (8 : Int32) from by rw [hk4']; decide]
      refine k_call_static S36 hx hZ hown (hw _ (List.mem_of_getElem? (i := 55) rfl)) (hw _ (List.mem_of_getElem? (i := 56) rfl)) (hw _ (List.mem_of_getElem? (i := 18) rfl)) (hw _ (List.mem_of_getElem? (i := 57) rfl)) (by decide) (own_copyOf l Z a0 hw a (8 : Int32) h0 n0 al (Nat.le_trans go (Nat.le_of_lt E0.lt)) Va ⟨by decide, by decide⟩ (by rw [hal]; decide)) 1 (argsL := [(.ref a), (.int (8 : Int32))]) (rest := [(.ref o)]) (by decide) (by decide) (by rw [hml]; rfl) (lenOf own_pd6 rfl) rfl rfl (Nat.le_refl 1) (hb hby own_d5_33) (pc' := 36) rfl (by decide) (by decide) ?_
      rintro v37 T37 h37 ⟨b37, rfl, g37, K37, V37⟩ S37
      have ne38 : o ≠ b37 := Nat.ne_of_lt (Nat.lt_of_lt_of_le E0.lt g37)
      have ne39 : a ≠ b37 := Nat.ne_of_lt (Nat.lt_of_lt_of_le Va.lt g37)
      have ne40 : t ≠ b37 := Nat.ne_of_lt (Nat.lt_of_lt_of_le Vt.lt g37)
      have ge41 : n0 ≤ b37 := Nat.le_trans (Nat.le_trans go (Nat.le_of_lt E0.lt)) g37
      have f42 := E0.keep K37
      have f43 := Va.keep K37 nin0
      have f44 := Vt.keep K37 nin0
      have f45 := Fa.keep K37 nin0
      have f46 := Ft.keep K37 nin0
      have f47 := Fs.keep K37 nin0
      have f48 := Fk.keep K37 nin0
      rw [show (own_min al.length.toInt32 8).toInt.toNat = 4 from by rw [hal]; decide, show (8 : Int32).toInt.toNat = 8 from by decide] at V37
      obtain ⟨bl, hbl⟩ : ∃ bl : List Int32, bl = al.take 4 ++ (List.replicate 8 0).drop 4 := ⟨_, rfl⟩
      rw [← hbl] at V37
      have hcp := own_cp8 hal hbl
      have A37 := S37.here
      show Done p e below _ (T37.setTop (mkF m 36 #[.val (.ref o), .val (.int xe), .unset] [(.ref b37), (.ref o)]))
      refine k_putfield S37 hx hZ hown (hw _ (List.mem_of_getElem? (i := 11) rfl)) f45 f42 (Or.inl (hw _ (List.mem_of_getElem? (i := 12) rfl))) (hw _ (List.mem_of_getElem? (i := 2) rfl)) (ty := (.array .int)) (by decide) rfl rfl go (hb hby own_d5_36) (pc' := 39) rfl ?_
      intro T49 h49 W49 S49
      have A49 := S49.here
      have f50 := f42.wr W49
      have f51 := f43.other W49 (Ne.symm n1)
      have f52 := f44.other W49 (Ne.symm n2)
      have f53 := f45.same W49
      have f54 := f46.other W49 (Or.inr (slot_ne (Or.inl (hw _ (List.mem_of_getElem? (i := 21) rfl))) (Or.inl (hw _ (List.mem_of_getElem? (i := 12) rfl))) (by decide) (t := (.array .int)) (t' := (.array .int)) (by decide) (by decide)))
      have f55 := f47.other W49 (Or.inr (slot_ne (Or.inl (hw _ (List.mem_of_getElem? (i := 23) rfl))) (Or.inl (hw _ (List.mem_of_getElem? (i := 12) rfl))) (by decide) (t := .int) (t' := (.array .int)) (by decide) (by decide)))
      have f56 := f48.other W49 (Or.inr (slot_ne (Or.inl (hw _ (List.mem_of_getElem? (i := 40) rfl))) (Or.inl (hw _ (List.mem_of_getElem? (i := 12) rfl))) (by decide) (t := .int) (t' := (.array .int)) (by decide) (by decide)))
      have f57 := V37.other W49 (Ne.symm ne38)
      refine k_iconst A49 hx (hb hby own_d5_39) (v := 2) rfl (pc' := 40) rfl ?_
      refine k_aloadN A49 hx (hb hby own_d5_40) rfl rfl (pc' := 41) rfl ?_
      refine k_getfield S49 hx hZ hown (hw _ (List.mem_of_getElem? (i := 39) rfl)) f56 (hb hby own_d5_41) (pc' := 44) rfl ?_
      intro T58 S58
      have A58 := S58.here
      refine k_iconst A58 hx (hb hby own_d5_44) (v := 1) rfl (pc' := 45) rfl ?_
      refine k_iadd A58 hx (hb hby own_d5_45) (pc' := 46) rfl ?_
      refine k_imul A58 hx (hb hby own_d5_46) (pc' := 47) rfl ?_
      refine k_aloadN A58 hx (hb hby own_d5_47) rfl rfl (pc' := 48) rfl ?_
      refine k_getfield S58 hx hZ hown (hw _ (List.mem_of_getElem? (i := 20) rfl)) f54 (hb hby own_d5_48) (pc' := 51) rfl ?_
      intro T59 S59
      have A59 := S59.here
      refine k_arraylength S59 hx hZ f52 (hb hby own_d5_51) (z := (tb.length.toInt32)) (by rw [List.length_map]) (pc' := 52) rfl ?_
      refine k_icmp_le A59 hx (hb hby own_d5_52) (pcY := 105) (by decide) (pc' := 55) rfl (fun hc52 => absurd (by rw [own_lt, hlt, own_2k hk5]; omega) hc52) (fun hc52 => ?_)
      refine k_aloadN A59 hx (hb hby own_d5_55) rfl rfl (pc' := 56) rfl ?_
      refine k_iconst A59 hx (hb hby own_d5_56) (v := 2) rfl (pc' := 57) rfl ?_
      refine k_aloadN A59 hx (hb hby own_d5_57) rfl rfl (pc' := 58) rfl ?_
      refine k_getfield S59 hx hZ hown (hw _ (List.mem_of_getElem? (i := 20) rfl)) f54 (hb hby own_d5_58) (pc' := 61) rfl ?_
      intro T60 S60
      have A60 := S60.here
      refine k_arraylength S60 hx hZ f52 (hb hby own_d5_61) (z := (tb.length.toInt32)) (by rw [List.length_map]) (pc' := 62) rfl ?_
      refine k_imul A60 hx (hb hby own_d5_62) (pc' := 63) rfl ?_
      rw [show ((2 : Int32) * (tb.length.toInt32)) = (16 : Int32) from by rw [htl, hN]; decide]
      refine k_call_static S60 hx hZ hown (hw _ (List.mem_of_getElem? (i := 13) rfl)) (hw _ (List.mem_of_getElem? (i := 14) rfl)) (hw _ (List.mem_of_getElem? (i := 3) rfl)) (hw _ (List.mem_of_getElem? (i := 15) rfl)) (by decide) (own_cet l Z a0 hw (16 : Int32) h49 n0 (Nat.le_trans go (Nat.le_of_lt f50.lt)) (Or.inr rfl)) 1 (argsL := [(.int (16 : Int32))]) (rest := [(.ref o)]) (by decide) (by decide) (by rw [hml]; rfl) (lenOf own_pd3 rfl) rfl rfl (Nat.le_refl 1) (hb hby own_d5_63) (pc' := 66) rfl (by decide) (by decide) ?_
      rintro v61 T61 h61 ⟨b61, rfl, g61, K61, V61⟩ S61
      have ne62 : o ≠ b61 := Nat.ne_of_lt (Nat.lt_of_lt_of_le f50.lt g61)
      have ne63 : a ≠ b61 := Nat.ne_of_lt (Nat.lt_of_lt_of_le f51.lt g61)
      have ne64 : t ≠ b61 := Nat.ne_of_lt (Nat.lt_of_lt_of_le f52.lt g61)
      have ne65 : b37 ≠ b61 := Nat.ne_of_lt (Nat.lt_of_lt_of_le f57.lt g61)
      have ge66 : n0 ≤ b61 := Nat.le_trans (Nat.le_trans go (Nat.le_of_lt f50.lt)) g61
      have f67 := f50.keep K61
      have f68 := f51.keep K61 nin0
      have f69 := f52.keep K61 nin0
      have f70 := f53.keep K61 nin0
      have f71 := f54.keep K61 nin0
      have f72 := f55.keep K61 nin0
      have f73 := f56.keep K61 nin0
      have f74 := f57.keep K61 nin0
      rw [show (16 : Int32).toInt.toNat = 16 from by decide] at V61
      have A61 := S61.here
      show Done p e below _ (T61.setTop (mkF m 66 #[.val (.ref o), .val (.int xe), .unset] [(.ref b61), (.ref o)]))
      refine k_putfield S61 hx hZ hown (hw _ (List.mem_of_getElem? (i := 20) rfl)) f71 f67 (Or.inl (hw _ (List.mem_of_getElem? (i := 21) rfl))) (hw _ (List.mem_of_getElem? (i := 2) rfl)) (ty := (.array .int)) (by decide) rfl rfl go (hb hby own_d5_66) (pc' := 69) rfl ?_
      intro T75 h75 W75 S75
      have A75 := S75.here
      have f76 := f67.wr W75
      have f77 := f68.other W75 (Ne.symm n1)
      have f78 := f69.other W75 (Ne.symm n2)
      have f79 := f70.other W75 (Or.inr (slot_ne (Or.inl (hw _ (List.mem_of_getElem? (i := 12) rfl))) (Or.inl (hw _ (List.mem_of_getElem? (i := 21) rfl))) (by decide) (t := (.array .int)) (t' := (.array .int)) (by decide) (by decide)))
      have f80 := f71.same W75
      have f81 := f72.other W75 (Or.inr (slot_ne (Or.inl (hw _ (List.mem_of_getElem? (i := 23) rfl))) (Or.inl (hw _ (List.mem_of_getElem? (i := 21) rfl))) (by decide) (t := .int) (t' := (.array .int)) (by decide) (by decide)))
      have f82 := f73.other W75 (Or.inr (slot_ne (Or.inl (hw _ (List.mem_of_getElem? (i := 40) rfl))) (Or.inl (hw _ (List.mem_of_getElem? (i := 21) rfl))) (by decide) (t := .int) (t' := (.array .int)) (by decide) (by decide)))
      have f83 := f74.other W75 (Ne.symm ne38)
      have f84 := V61.other W75 (Ne.symm ne62)
      refine k_aloadN A75 hx (hb hby own_d5_69) rfl rfl (pc' := 70) rfl ?_
      refine k_dup A75 hx (hb hby own_d5_70) rfl (pc' := 71) rfl ?_
      refine k_getfield S75 hx hZ hown (hw _ (List.mem_of_getElem? (i := 22) rfl)) f81 (hb hby own_d5_71) (pc' := 74) rfl ?_
      intro T85 S85
      have A85 := S85.here
      refine k_iconst A85 hx (hb hby own_d5_74) (v := 1) rfl (pc' := 75) rfl ?_
      refine k_isub A85 hx (hb hby own_d5_75) (pc' := 76) rfl ?_
      rw [show (sh - (1 : Int32)) = (28 : Int32) from by rw [hsh]; decide]
      refine k_putfield S85 hx hZ hown (hw _ (List.mem_of_getElem? (i := 22) rfl)) f81 f76 (Or.inl (hw _ (List.mem_of_getElem? (i := 23) rfl))) (hw _ (List.mem_of_getElem? (i := 2) rfl)) (ty := .int) (by decide) rfl rfl go (hb hby own_d5_76) (pc' := 79) rfl ?_
      intro T86 h86 W86 S86
      have A86 := S86.here
      have f87 := f76.wr W86
      have f88 := f77.other W86 (Ne.symm n1)
      have f89 := f78.other W86 (Ne.symm n2)
      have f90 := f79.other W86 (Or.inr (slot_ne (Or.inl (hw _ (List.mem_of_getElem? (i := 12) rfl))) (Or.inl (hw _ (List.mem_of_getElem? (i := 23) rfl))) (by decide) (t := (.array .int)) (t' := .int) (by decide) (by decide)))
      have f91 := f80.other W86 (Or.inr (slot_ne (Or.inl (hw _ (List.mem_of_getElem? (i := 21) rfl))) (Or.inl (hw _ (List.mem_of_getElem? (i := 23) rfl))) (by decide) (t := (.array .int)) (t' := .int) (by decide) (by decide)))
      have f92 := f81.same W86
      have f93 := f82.other W86 (Or.inr (slot_ne (Or.inl (hw _ (List.mem_of_getElem? (i := 40) rfl))) (Or.inl (hw _ (List.mem_of_getElem? (i := 23) rfl))) (by decide) (t := .int) (t' := .int) (by decide) (by decide)))
      have f94 := f83.other W86 (Ne.symm ne38)
      have f95 := f84.other W86 (Ne.symm ne62)
      refine k_iconst A86 hx (hb hby own_d5_79) (v := 0) rfl (pc' := 80) rfl ?_
      refine k_istoreN A86 hx (hb hby own_d5_80) (Ls' := #[.val (.ref o), .val (.int xe), .val (.int (0 : Int32))]) rfl (pc' := 81) rfl ?_
      have L81_96 : ∀ (f : Nat) (T96 : State) (h96 : Heap), ∀ (i : Int32), ∀ (tb3 : List Int32), St p l e ({ frames := 2, cells := 2, slots := 24, locals := 45 } : Room) s m #[(.ref o), (.int xe)] below meth c n0 T96 h96 ((0 + 1) + 1) ((0 + 8) + 16) → (4 - i.toInt < (f : Int)) → (Exa Z h96 o "com/example/entail/entail/tableau/ConceptSet") → (Fld Z h96 o "com/example/entail/entail/tableau/ConceptSet" "added" "[I" (.ref b37)) → (Fld Z h96 o "com/example/entail/entail/tableau/ConceptSet" "table" "[I" (.ref b61)) → (Fld Z h96 o "com/example/entail/entail/tableau/ConceptSet" "shift" "I" (.int (28 : Int32))) → (Fld Z h96 o "com/example/entail/entail/tableau/ConceptSet" "size" "I" (.int k.toInt32)) → (IV Z h96 b37 bl) → (IV Z h96 b61 tb3) → (0 ≤ i.toInt ∧ i.toInt ≤ 4) → (own_RH bl tb3 i.toInt.toNat) → Done p e below (OEnd s ({ frames := 2, cells := 2, slots := 24, locals := 45 } : Room) n0 (fun v h => ∃ r : Int32, v = some (.int r) ∧ ∃ k', k' ≤ k + 1 ∧ own_OB Z h n0 o k' (fun y => P y ∨ y = xe))) (T96.setTop (mkF m 81 #[.val (.ref o), .val (.int xe), .val (.int i)] [])) := by
        intro f
        induction f with
        | zero =>
          intro T96 h96 i tb3 S96 hms E6 Fa6 Ft6 Fs6 Fk6 Va6 Vt6 hi0 RH
          exfalso
          omega
        | succ f ih96 =>
          intro T96 h96 i tb3 S96 hms E6 Fa6 Ft6 Fs6 Fk6 Va6 Vt6 hi0 RH
          have A96 := S96.here
          refine k_iloadN A96 hx (hb hby own_d5_81) rfl (pc' := 82) rfl ?_
          refine k_aloadN A96 hx (hb hby own_d5_82) rfl rfl (pc' := 83) rfl ?_
          refine k_getfield S96 hx hZ hown (hw _ (List.mem_of_getElem? (i := 39) rfl)) Fk6 (hb hby own_d5_83) (pc' := 86) rfl ?_
          intro T97 S97
          have A97 := S97.here
          refine k_icmp_ge A97 hx (hb hby own_d5_86) (pcY := 105) (by decide) (pc' := 89) rfl (fun hc86 => ?_) (fun hc86 => ?_)
          · exact J105_2 T97 h96 b37 b61 (28 : Int32) bl tb3 16 (.val (.int i)) (S97.more (by decide) (by decide)) E6 Fa6 Ft6 Fs6 Fk6 Va6 Vt6 ne38 ne62 ne65 ge41 ge66 (by rw [hk4']; exact own_ST_grow (hk4' ▸ T) hcp (by have e8 : i.toInt.toNat = 4 := (by rw [own_lt, own_kk (by omega)] at hc86; omega); rw [← e8]; exact RH))
          · have hil : i.toInt < 4 := by rw [own_lt, own_kk (by omega)] at hc86; omega
            have hgz := own_gz (hk4' ▸ T) hcp (i := i.toInt.toNat) (by omega)
            refine k_aloadN A97 hx (hb hby own_d5_89) rfl rfl (pc' := 90) rfl ?_
            refine k_aloadN A97 hx (hb hby own_d5_90) rfl rfl (pc' := 91) rfl ?_
            refine k_getfield S97 hx hZ hown (hw _ (List.mem_of_getElem? (i := 11) rfl)) Fa6 (hb hby own_d5_91) (pc' := 94) rfl ?_
            intro T98 S98
            have A98 := S98.here
            refine k_iloadN A98 hx (hb hby own_d5_94) rfl (pc' := 95) rfl ?_
            refine k_iaload S98 hx hZ Va6 (hb hby own_d5_95) hi0.1 (by rw [hcp.1]; omega) rfl (pc' := 96) rfl ?_
            refine k_call_priv S98 hx hZ hown E6 (y2 := (⟨"com/example/entail/entail/tableau/ConceptSet", "add", "(I)Z"⟩ : MethodName)) (hw _ (List.mem_of_getElem? (i := 41) rfl)) (hw _ (List.mem_of_getElem? (i := 42) rfl)) (hw _ (List.mem_of_getElem? (i := 27) rfl)) rfl (hw _ (List.mem_of_getElem? (i := 43) rfl)) (hw _ (List.mem_of_getElem? (i := 3) rfl)) (hw _ (List.mem_of_getElem? (i := 44) rfl)) (by decide) (own_cput l Z a0 hw o (bl.getD i.toInt.toNat 0) h96 n0 b61 (28 : Int32) tb3 16 (fun y => ∃ q, q < i.toInt.toNat ∧ bl.getD q 0 = y) E6 Ft6 Fs6 Vt6 own_geo16 RH.1 (own_em_of RH.1.2.1 (by rw [RH.2]; omega)) hgz.1 ge66 ne62 hgz.2) 0 (argsL := [(.int (bl.getD i.toInt.toNat 0))]) (rest := []) (by decide) (by decide) (by rw [hml]; rfl) (lenOf own_pd5 rfl) rfl rfl (Nat.le_refl 0) (hb hby own_d5_96) (pc' := 99) rfl (by decide) (by decide) ?_
            rintro v99 T99 h99 ⟨rfl, K99, tb99, V99, TT99, CC99⟩ S99
            have f100 := E6.keep K99
            have f101 := Va6.keep K99 (ninS ne65 nin0)
            have f103 := Fa6.keep K99 (ninS ne62 nin0)
            have f104 := Ft6.keep K99 (ninS ne62 nin0)
            have f105 := Fs6.keep K99 (ninS ne62 nin0)
            have f106 := Fk6.keep K99 (ninS ne62 nin0)
            have A99 := S99.here
            show Done p e below _ (T99.setTop (mkF m 99 #[.val (.ref o), .val (.int xe), .val (.int i)] []))
            refine k_iinc A99 hx (hb hby own_d5_99) rfl (Ls' := #[.val (.ref o), .val (.int xe), .val (.int (i + (1 : Int32)))]) rfl (pc' := 102) rfl ?_
            refine k_goto A99 hx (hb hby own_d5_102) (pc' := 81) (by decide) ?_
            exact ih96 T99 h99 (i + 1) tb99 (S99.more (by decide) (by decide)) (by rw [own_inc9 hi0.1 (by omega)]; omega) f100 f103 f104 f105 f106 f101 V99 (by rw [own_inc9 hi0.1 (by omega)]; omega) (by rw [own_incN hi0.1 (by omega)]; exact own_RH1 RH TT99 CC99)
      exact L81_96 5 T86 h86 (0 : Int32) (List.replicate 16 (-1)) (S86.more (by decide) (by decide)) (by have e0 : (0 : Int32).toInt = 0 := rfl; omega) f87 f90 f91 f92 f93 f94 f95 (by have e0 : (0 : Int32).toInt = 0 := rfl; omega) (own_RH0 bl)
  · refine k_iconst A1 hx (hb hby own_d5_8) (v := 0) rfl (pc' := 9) rfl ?_
    refine k_ret_nar S1 hx (t := .boolean) hret (by simp) hlk (hb hby own_d5_9) (z' := (0 : Int32)) rfl (by decide) (by decide) ?_
    exact ⟨0, rfl, k, Nat.le_succ k, a, t, sh, al, tb, N, ⟨E0, Fa, Ft, Fs, Fk, Va, Vt⟩, ⟨n1, n2, n3⟩, ⟨go, ga, gt⟩, own_ST_iff (fun y => ⟨Or.inl, fun z => z.elim id (fun e => e.symm ▸ own_r1 hr hc5)⟩) T⟩
theorem own_d9_0 : decode prog_100_method_4_code 0 = .ok (.aload_n 0, 1) := by decide +kernel
theorem own_d9_1 : decode prog_100_method_4_code 1 = .ok (.getfield 34, 3) := by decide +kernel
theorem own_d9_4 : decode prog_100_method_4_code 4 = .ok (.iconst 1, 1) := by decide +kernel
theorem own_d9_5 : decode prog_100_method_4_code 5 = .ok (.isub, 1) := by decide +kernel
theorem own_d9_6 : decode prog_100_method_4_code 6 = .ok (.istore_n 2, 1) := by decide +kernel
theorem own_d9_7 : decode prog_100_method_4_code 7 = .ok (.aload_n 0, 1) := by decide +kernel
theorem own_d9_8 : decode prog_100_method_4_code 8 = .ok (.getfield 7, 3) := by decide +kernel
theorem own_d9_11 : decode prog_100_method_4_code 11 = .ok (.iload_n 2, 1) := by decide +kernel
theorem own_d9_12 : decode prog_100_method_4_code 12 = .ok (.iaload, 1) := by decide +kernel
theorem own_d9_13 : decode prog_100_method_4_code 13 = .ok (.iload_n 1, 1) := by decide +kernel
theorem own_d9_14 : decode prog_100_method_4_code 14 = .ok (.if_icmp .eq 9, 3) := by decide +kernel
theorem own_d9_17 : decode prog_100_method_4_code 17 = .ok (.iinc 2 (-1), 3) := by decide +kernel
theorem own_d9_20 : decode prog_100_method_4_code 20 = .ok (.goto (-13), 3) := by decide +kernel
theorem own_d9_23 : decode prog_100_method_4_code 23 = .ok (.aload_n 0, 1) := by decide +kernel
theorem own_d9_24 : decode prog_100_method_4_code 24 = .ok (.getfield 7, 3) := by decide +kernel
theorem own_d9_27 : decode prog_100_method_4_code 27 = .ok (.iload_n 2, 1) := by decide +kernel
theorem own_d9_28 : decode prog_100_method_4_code 28 = .ok (.iconst 1, 1) := by decide +kernel
theorem own_d9_29 : decode prog_100_method_4_code 29 = .ok (.iadd, 1) := by decide +kernel
theorem own_d9_30 : decode prog_100_method_4_code 30 = .ok (.aload_n 0, 1) := by decide +kernel
theorem own_d9_31 : decode prog_100_method_4_code 31 = .ok (.getfield 7, 3) := by decide +kernel
theorem own_d9_34 : decode prog_100_method_4_code 34 = .ok (.iload_n 2, 1) := by decide +kernel
theorem own_d9_35 : decode prog_100_method_4_code 35 = .ok (.aload_n 0, 1) := by decide +kernel
theorem own_d9_36 : decode prog_100_method_4_code 36 = .ok (.getfield 34, 3) := by decide +kernel
theorem own_d9_39 : decode prog_100_method_4_code 39 = .ok (.iload_n 2, 1) := by decide +kernel
theorem own_d9_40 : decode prog_100_method_4_code 40 = .ok (.isub, 1) := by decide +kernel
theorem own_d9_41 : decode prog_100_method_4_code 41 = .ok (.iconst 1, 1) := by decide +kernel
theorem own_d9_42 : decode prog_100_method_4_code 42 = .ok (.isub, 1) := by decide +kernel
theorem own_d9_43 : decode prog_100_method_4_code 43 = .ok (.invokestatic 47, 3) := by decide +kernel
theorem own_d9_46 : decode prog_100_method_4_code 46 = .ok (.aload_n 0, 1) := by decide +kernel
theorem own_d9_47 : decode prog_100_method_4_code 47 = .ok (.dup, 1) := by decide +kernel
theorem own_d9_48 : decode prog_100_method_4_code 48 = .ok (.getfield 34, 3) := by decide +kernel
theorem own_d9_51 : decode prog_100_method_4_code 51 = .ok (.iconst 1, 1) := by decide +kernel
theorem own_d9_52 : decode prog_100_method_4_code 52 = .ok (.isub, 1) := by decide +kernel
theorem own_d9_53 : decode prog_100_method_4_code 53 = .ok (.putfield 34, 3) := by decide +kernel
theorem own_d9_56 : decode prog_100_method_4_code 56 = .ok (.aload_n 0, 1) := by decide +kernel
theorem own_d9_57 : decode prog_100_method_4_code 57 = .ok (.getfield 17, 3) := by decide +kernel
theorem own_d9_60 : decode prog_100_method_4_code 60 = .ok (.arraylength, 1) := by decide +kernel
theorem own_d9_61 : decode prog_100_method_4_code 61 = .ok (.iconst 1, 1) := by decide +kernel
theorem own_d9_62 : decode prog_100_method_4_code 62 = .ok (.isub, 1) := by decide +kernel
theorem own_d9_63 : decode prog_100_method_4_code 63 = .ok (.istore_n 3, 1) := by decide +kernel
theorem own_d9_64 : decode prog_100_method_4_code 64 = .ok (.aload_n 0, 1) := by decide +kernel
theorem own_d9_65 : decode prog_100_method_4_code 65 = .ok (.iload_n 1, 1) := by decide +kernel
theorem own_d9_66 : decode prog_100_method_4_code 66 = .ok (.invokevirtual 26, 3) := by decide +kernel
theorem own_d9_69 : decode prog_100_method_4_code 69 = .ok (.istore 4, 2) := by decide +kernel
theorem own_d9_71 : decode prog_100_method_4_code 71 = .ok (.aload_n 0, 1) := by decide +kernel
theorem own_d9_72 : decode prog_100_method_4_code 72 = .ok (.getfield 17, 3) := by decide +kernel
theorem own_d9_75 : decode prog_100_method_4_code 75 = .ok (.iload 4, 2) := by decide +kernel
theorem own_d9_77 : decode prog_100_method_4_code 77 = .ok (.iaload, 1) := by decide +kernel
theorem own_d9_78 : decode prog_100_method_4_code 78 = .ok (.iload_n 1, 1) := by decide +kernel
theorem own_d9_79 : decode prog_100_method_4_code 79 = .ok (.if_icmp .eq 14, 3) := by decide +kernel
theorem own_d9_82 : decode prog_100_method_4_code 82 = .ok (.iload 4, 2) := by decide +kernel
theorem own_d9_84 : decode prog_100_method_4_code 84 = .ok (.iconst 1, 1) := by decide +kernel
theorem own_d9_85 : decode prog_100_method_4_code 85 = .ok (.iadd, 1) := by decide +kernel
theorem own_d9_86 : decode prog_100_method_4_code 86 = .ok (.iload_n 3, 1) := by decide +kernel
theorem own_d9_87 : decode prog_100_method_4_code 87 = .ok (.iand, 1) := by decide +kernel
theorem own_d9_88 : decode prog_100_method_4_code 88 = .ok (.istore 4, 2) := by decide +kernel
theorem own_d9_90 : decode prog_100_method_4_code 90 = .ok (.goto (-19), 3) := by decide +kernel
theorem own_d9_93 : decode prog_100_method_4_code 93 = .ok (.iload 4, 2) := by decide +kernel
theorem own_d9_95 : decode prog_100_method_4_code 95 = .ok (.iconst 1, 1) := by decide +kernel
theorem own_d9_96 : decode prog_100_method_4_code 96 = .ok (.iadd, 1) := by decide +kernel
theorem own_d9_97 : decode prog_100_method_4_code 97 = .ok (.iload_n 3, 1) := by decide +kernel
theorem own_d9_98 : decode prog_100_method_4_code 98 = .ok (.iand, 1) := by decide +kernel
theorem own_d9_99 : decode prog_100_method_4_code 99 = .ok (.istore 5, 2) := by decide +kernel
theorem own_d9_101 : decode prog_100_method_4_code 101 = .ok (.aload_n 0, 1) := by decide +kernel
theorem own_d9_102 : decode prog_100_method_4_code 102 = .ok (.getfield 17, 3) := by decide +kernel
theorem own_d9_105 : decode prog_100_method_4_code 105 = .ok (.iload 5, 2) := by decide +kernel
theorem own_d9_107 : decode prog_100_method_4_code 107 = .ok (.iaload, 1) := by decide +kernel
theorem own_d9_108 : decode prog_100_method_4_code 108 = .ok (.iconst (-1), 1) := by decide +kernel
theorem own_d9_109 : decode prog_100_method_4_code 109 = .ok (.if_icmp .eq 62, 3) := by decide +kernel
theorem own_d9_112 : decode prog_100_method_4_code 112 = .ok (.aload_n 0, 1) := by decide +kernel
theorem own_d9_113 : decode prog_100_method_4_code 113 = .ok (.aload_n 0, 1) := by decide +kernel
theorem own_d9_114 : decode prog_100_method_4_code 114 = .ok (.getfield 17, 3) := by decide +kernel
theorem own_d9_117 : decode prog_100_method_4_code 117 = .ok (.iload 5, 2) := by decide +kernel
theorem own_d9_119 : decode prog_100_method_4_code 119 = .ok (.iaload, 1) := by decide +kernel
theorem own_d9_120 : decode prog_100_method_4_code 120 = .ok (.invokevirtual 26, 3) := by decide +kernel
theorem own_d9_123 : decode prog_100_method_4_code 123 = .ok (.istore 6, 2) := by decide +kernel
theorem own_d9_125 : decode prog_100_method_4_code 125 = .ok (.iload 5, 2) := by decide +kernel
theorem own_d9_127 : decode prog_100_method_4_code 127 = .ok (.iload 6, 2) := by decide +kernel
theorem own_d9_129 : decode prog_100_method_4_code 129 = .ok (.isub, 1) := by decide +kernel
theorem own_d9_130 : decode prog_100_method_4_code 130 = .ok (.iload_n 3, 1) := by decide +kernel
theorem own_d9_131 : decode prog_100_method_4_code 131 = .ok (.iand, 1) := by decide +kernel
theorem own_d9_132 : decode prog_100_method_4_code 132 = .ok (.iload 5, 2) := by decide +kernel
theorem own_d9_134 : decode prog_100_method_4_code 134 = .ok (.iload 4, 2) := by decide +kernel
theorem own_d9_136 : decode prog_100_method_4_code 136 = .ok (.isub, 1) := by decide +kernel
theorem own_d9_137 : decode prog_100_method_4_code 137 = .ok (.iload_n 3, 1) := by decide +kernel
theorem own_d9_138 : decode prog_100_method_4_code 138 = .ok (.iand, 1) := by decide +kernel
theorem own_d9_139 : decode prog_100_method_4_code 139 = .ok (.if_icmp .lt 21, 3) := by decide +kernel
theorem own_d9_142 : decode prog_100_method_4_code 142 = .ok (.aload_n 0, 1) := by decide +kernel
theorem own_d9_143 : decode prog_100_method_4_code 143 = .ok (.getfield 17, 3) := by decide +kernel
theorem own_d9_146 : decode prog_100_method_4_code 146 = .ok (.iload 4, 2) := by decide +kernel
theorem own_d9_148 : decode prog_100_method_4_code 148 = .ok (.aload_n 0, 1) := by decide +kernel
theorem own_d9_149 : decode prog_100_method_4_code 149 = .ok (.getfield 17, 3) := by decide +kernel
theorem own_d9_152 : decode prog_100_method_4_code 152 = .ok (.iload 5, 2) := by decide +kernel
theorem own_d9_154 : decode prog_100_method_4_code 154 = .ok (.iaload, 1) := by decide +kernel
theorem own_d9_155 : decode prog_100_method_4_code 155 = .ok (.iastore, 1) := by decide +kernel
theorem own_d9_156 : decode prog_100_method_4_code 156 = .ok (.iload 5, 2) := by decide +kernel
theorem own_d9_158 : decode prog_100_method_4_code 158 = .ok (.istore 4, 2) := by decide +kernel
theorem own_d9_160 : decode prog_100_method_4_code 160 = .ok (.iload 5, 2) := by decide +kernel
theorem own_d9_162 : decode prog_100_method_4_code 162 = .ok (.iconst 1, 1) := by decide +kernel
theorem own_d9_163 : decode prog_100_method_4_code 163 = .ok (.iadd, 1) := by decide +kernel
theorem own_d9_164 : decode prog_100_method_4_code 164 = .ok (.iload_n 3, 1) := by decide +kernel
theorem own_d9_165 : decode prog_100_method_4_code 165 = .ok (.iand, 1) := by decide +kernel
theorem own_d9_166 : decode prog_100_method_4_code 166 = .ok (.istore 5, 2) := by decide +kernel
theorem own_d9_168 : decode prog_100_method_4_code 168 = .ok (.goto (-67), 3) := by decide +kernel
theorem own_d9_171 : decode prog_100_method_4_code 171 = .ok (.aload_n 0, 1) := by decide +kernel
theorem own_d9_172 : decode prog_100_method_4_code 172 = .ok (.getfield 17, 3) := by decide +kernel
theorem own_d9_175 : decode prog_100_method_4_code 175 = .ok (.iload 4, 2) := by decide +kernel
theorem own_d9_177 : decode prog_100_method_4_code 177 = .ok (.iconst (-1), 1) := by decide +kernel
theorem own_d9_178 : decode prog_100_method_4_code 178 = .ok (.iastore, 1) := by decide +kernel
theorem own_d9_179 : decode prog_100_method_4_code 179 = .ok (.return_, 1) := by decide +kernel
theorem own_pn9 : plainName "com/example/entail/entail/tableau/ConceptSet" = true := by first | (simp [plainName, overriddenIn]; done) | decide +kernel
set_option maxRecDepth 65536 in
set_option maxHeartbeats 40000000 in
theorem own_crem (l : Launch) (Z : State) (a0 : Array Value) (hw : ∀ d ∈ tables_1, d.before a0 Z = true) (o : Addr) (xe : Int32) (h0 : Heap) (n0 : Nat) (k : Nat) (P : Int32 → Prop) (hk5 : k ≤ 5) (hx1 : xe ≠ -1) (hP : P xe) (B : own_OB Z h0 n0 o k P) :
    Con l Z (⟨"com/example/entail/entail/tableau/ConceptSet", "remove", "(I)V"⟩ : MethodName) prog_100_method_4_code 7 none ({ frames := 1, cells := 0, slots := 0, locals := 20 } : Room) n0 h0 #[(.ref o), (.int xe)] (fun v h => v = none ∧ own_OC Z h n0 o (fun y => P y ∧ y ≠ xe)) := by
  refine Con.intro (plainFor_of_name own_pn9) (Ls := #[.val (.ref o), .val (.int xe), .unset, .unset, .unset, .unset, .unset]) (fun m => by first | (simp [entryFrame, mkF, argsToLocals, Value.category]; done) | rfl) ?_
  intro p e s m below meth c s₁ hx hby hml hown hnm hret hlk hZ S0
  have A0 := S0.here
  obtain ⟨a, t, sh, al, tb, N, ⟨E0, Fa, Ft, Fs, Fk, Va, Vt⟩, ⟨n1, n2, n3⟩, ⟨go, ga, gt⟩, T⟩ := B
  have TB := T.2.1
  have g := T.1
  have htl : tb.length = N := TB.2.1
  have hlast := T.2.2.2.2.2
  have hkl : k ≤ al.length := by omega
  obtain ⟨qa0, hqa0, hqx0⟩ := (T.2.2.2.1 xe).mp hP
  obtain ⟨hxm, j0, hj0, hjx, hjb⟩ := TB.2.2.2.2.1 xe hP
  refine k_aloadN A0 hx (hb hby own_d9_0) rfl rfl (pc' := 1) rfl ?_
  refine k_getfield S0 hx hZ hown (hw _ (List.mem_of_getElem? (i := 39) rfl)) Fk (hb hby own_d9_1) (pc' := 4) rfl ?_
  intro T1 S1
  have A1 := S1.here
  refine k_iconst A1 hx (hb hby own_d9_4) (v := 1) rfl (pc' := 5) rfl ?_
  refine k_isub A1 hx (hb hby own_d9_5) (pc' := 6) rfl ?_
  refine k_istoreN A1 hx (hb hby own_d9_6) (Ls' := #[.val (.ref o), .val (.int xe), .val (.int (k.toInt32 - (1 : Int32))), .unset, .unset, .unset, .unset]) rfl (pc' := 7) rfl ?_
  have L7_2 : ∀ (f : Nat) (T2 : State), ∀ (i : Int32), St p l e ({ frames := 1, cells := 0, slots := 0, locals := 20 } : Room) s m #[(.ref o), (.int xe)] below meth c n0 T2 h0 0 0 → (i.toInt < (f : Int)) → (i.toInt < (k : Int)) → (∃ q : Nat, (q : Int) ≤ i.toInt ∧ al.getD q 0 = xe) → Done p e below (OEnd s ({ frames := 1, cells := 0, slots := 0, locals := 20 } : Room) n0 (fun v h => v = none ∧ own_OC Z h n0 o (fun y => P y ∧ y ≠ xe))) (T2.setTop (mkF m 7 #[.val (.ref o), .val (.int xe), .val (.int i), .unset, .unset, .unset, .unset] [])) := by
    intro f
    induction f with
    | zero =>
      intro T2 i S2 hms hi hq
      exfalso
      obtain ⟨qa, h1, -⟩ := hq; omega
    | succ f ih2 =>
      intro T2 i S2 hms hi hq
      have A2 := S2.here
      obtain ⟨qa, hqa, hqx⟩ := hq
      refine k_aloadN A2 hx (hb hby own_d9_7) rfl rfl (pc' := 8) rfl ?_
      refine k_getfield S2 hx hZ hown (hw _ (List.mem_of_getElem? (i := 11) rfl)) Fa (hb hby own_d9_8) (pc' := 11) rfl ?_
      intro T3 S3
      have A3 := S3.here
      refine k_iloadN A3 hx (hb hby own_d9_11) rfl (pc' := 12) rfl ?_
      refine k_iaload S3 hx hZ Va (hb hby own_d9_12) (by omega) (by omega) rfl (pc' := 13) rfl ?_
      refine k_iloadN A3 hx (hb hby own_d9_13) rfl (pc' := 14) rfl ?_
      refine k_icmp_eq A3 hx (hb hby own_d9_14) (pcY := 23) (by decide) (pc' := 17) rfl (fun hc14 => ?_) (fun hc14 => ?_)
      · refine k_aloadN A3 hx (hb hby own_d9_23) rfl rfl (pc' := 24) rfl ?_
        refine k_getfield S3 hx hZ hown (hw _ (List.mem_of_getElem? (i := 11) rfl)) Fa (hb hby own_d9_24) (pc' := 27) rfl ?_
        intro T4 S4
        have A4 := S4.here
        refine k_iloadN A4 hx (hb hby own_d9_27) rfl (pc' := 28) rfl ?_
        refine k_iconst A4 hx (hb hby own_d9_28) (v := 1) rfl (pc' := 29) rfl ?_
        refine k_iadd A4 hx (hb hby own_d9_29) (pc' := 30) rfl ?_
        refine k_aloadN A4 hx (hb hby own_d9_30) rfl rfl (pc' := 31) rfl ?_
        refine k_getfield S4 hx hZ hown (hw _ (List.mem_of_getElem? (i := 11) rfl)) Fa (hb hby own_d9_31) (pc' := 34) rfl ?_
        intro T5 S5
        have A5 := S5.here
        refine k_iloadN A5 hx (hb hby own_d9_34) rfl (pc' := 35) rfl ?_
        refine k_aloadN A5 hx (hb hby own_d9_35) rfl rfl (pc' := 36) rfl ?_
        refine k_getfield S5 hx hZ hown (hw _ (List.mem_of_getElem? (i := 39) rfl)) Fk (hb hby own_d9_36) (pc' := 39) rfl ?_
        intro T6 S6
        have A6 := S6.here
        refine k_iloadN A6 hx (hb hby own_d9_39) rfl (pc' := 40) rfl ?_
        refine k_isub A6 hx (hb hby own_d9_40) (pc' := 41) rfl ?_
        refine k_iconst A6 hx (hb hby own_d9_41) (v := 1) rfl (pc' := 42) rfl ?_
        refine k_isub A6 hx (hb hby own_d9_42) (pc' := 43) rfl ?_
        have hs1 := own_inc9 (d := i) (by omega) (by omega)
        have hs2 := own_km hk5 (i := i) (by omega) hi
        refine k_arraycopyK S6 hx hZ hown (hw _ (List.mem_of_getElem? (i := 51) rfl)) (hw _ (List.mem_of_getElem? (i := 54) rfl)) (hw _ (List.mem_of_getElem? (i := 52) rfl)) (hw _ (List.mem_of_getElem? (i := 53) rfl)) Va Va (by omega) (by omega) (by omega) (by omega) (by omega) ga (by rw [hml]; rfl) (hb hby own_d9_43) (by decide) 0 (Nat.le_refl _) (by decide) (pc' := 46) rfl ?_
        intro T7 h7 K7 S7
        have A7 := S7.here
        have f8 := E0.keep K7
        have f10 := Vt.keep K7 (ninS (Ne.symm n3) nin0)
        have f11 := Fa.keep K7 (ninS n1 nin0)
        have f12 := Ft.keep K7 (ninS n1 nin0)
        have f13 := Fs.keep K7 (ninS n1 nin0)
        have f14 := Fk.keep K7 (ninS n1 nin0)
        refine k_aloadN A7 hx (hb hby own_d9_46) rfl rfl (pc' := 47) rfl ?_
        refine k_dup A7 hx (hb hby own_d9_47) rfl (pc' := 48) rfl ?_
        refine k_getfield S7 hx hZ hown (hw _ (List.mem_of_getElem? (i := 39) rfl)) f14 (hb hby own_d9_48) (pc' := 51) rfl ?_
        intro T15 S15
        have A15 := S15.here
        refine k_iconst A15 hx (hb hby own_d9_51) (v := 1) rfl (pc' := 52) rfl ?_
        refine k_isub A15 hx (hb hby own_d9_52) (pc' := 53) rfl ?_
        refine k_putfield S15 hx hZ hown (hw _ (List.mem_of_getElem? (i := 39) rfl)) f14 f8 (Or.inl (hw _ (List.mem_of_getElem? (i := 40) rfl))) (hw _ (List.mem_of_getElem? (i := 2) rfl)) (ty := .int) (by decide) rfl rfl go (hb hby own_d9_53) (pc' := 56) rfl ?_
        intro T16 h16 W16 S16
        have A16 := S16.here
        have f17 := f8.wr W16
        have f18 := f10.other W16 (Ne.symm n2)
        have f19 := f11.other W16 (Or.inr (slot_ne (Or.inl (hw _ (List.mem_of_getElem? (i := 12) rfl))) (Or.inl (hw _ (List.mem_of_getElem? (i := 40) rfl))) (by decide) (t := (.array .int)) (t' := .int) (by decide) (by decide)))
        have f20 := f12.other W16 (Or.inr (slot_ne (Or.inl (hw _ (List.mem_of_getElem? (i := 21) rfl))) (Or.inl (hw _ (List.mem_of_getElem? (i := 40) rfl))) (by decide) (t := (.array .int)) (t' := .int) (by decide) (by decide)))
        have f21 := f13.other W16 (Or.inr (slot_ne (Or.inl (hw _ (List.mem_of_getElem? (i := 23) rfl))) (Or.inl (hw _ (List.mem_of_getElem? (i := 40) rfl))) (by decide) (t := .int) (t' := .int) (by decide) (by decide)))
        have f22 := f14.same W16
        refine k_aloadN A16 hx (hb hby own_d9_56) rfl rfl (pc' := 57) rfl ?_
        refine k_getfield S16 hx hZ hown (hw _ (List.mem_of_getElem? (i := 20) rfl)) f20 (hb hby own_d9_57) (pc' := 60) rfl ?_
        intro T23 S23
        have A23 := S23.here
        refine k_arraylength S23 hx hZ f18 (hb hby own_d9_60) (z := (tb.length.toInt32)) (by rw [List.length_map]) (pc' := 61) rfl ?_
        refine k_iconst A23 hx (hb hby own_d9_61) (v := 1) rfl (pc' := 62) rfl ?_
        refine k_isub A23 hx (hb hby own_d9_62) (pc' := 63) rfl ?_
        generalize q_mk : ((tb.length.toInt32) - (1 : Int32)) = mk
        have hmk : own_MK N mk := by rw [← q_mk]; exact own_mk g TB.2.1
        refine k_istoreN A23 hx (hb hby own_d9_63) (Ls' := #[.val (.ref o), .val (.int xe), .val (.int i), .val (.int mk), .unset, .unset, .unset]) rfl (pc' := 64) rfl ?_
        refine k_aloadN A23 hx (hb hby own_d9_64) rfl rfl (pc' := 65) rfl ?_
        refine k_iloadN A23 hx (hb hby own_d9_65) rfl (pc' := 66) rfl ?_
        refine k_call_priv S23 hx hZ hown f17 (y2 := (⟨"com/example/entail/entail/tableau/ConceptSet", "add", "(I)Z"⟩ : MethodName)) (hw _ (List.mem_of_getElem? (i := 34) rfl)) (hw _ (List.mem_of_getElem? (i := 35) rfl)) (hw _ (List.mem_of_getElem? (i := 27) rfl)) rfl (hw _ (List.mem_of_getElem? (i := 36) rfl)) (hw _ (List.mem_of_getElem? (i := 3) rfl)) (hw _ (List.mem_of_getElem? (i := 37) rfl)) (by decide) (own_cslot l Z a0 hw o xe h16 n0 sh f21) 0 (argsL := [(.int xe)]) (rest := []) (by decide) (by decide) (by rw [hml]; rfl) (lenOf own_pd1 rfl) rfl rfl (Nat.le_refl 0) (hb hby own_d9_66) (pc' := 69) rfl (by decide) (by decide) ?_
        rintro v24 T24 h24 ⟨rfl, q24⟩ S24
        rw [q24] at S24
        have A24 := S24.here
        show Done p e below _ (T24.setTop (mkF m 69 #[.val (.ref o), .val (.int xe), .val (.int i), .val (.int mk), .unset, .unset, .unset] [(.int (own_slot xe sh))]))
        refine k_istore A24 hx (hb hby own_d9_69) (Ls' := #[.val (.ref o), .val (.int xe), .val (.int i), .val (.int mk), .val (.int (own_slot xe sh)), .unset, .unset]) rfl (pc' := 71) rfl ?_
        have L71_25 : ∀ (f : Nat) (T25 : State), ∀ (po : Int32), ∀ (j : Nat), St p l e ({ frames := 1, cells := 0, slots := 0, locals := 20 } : Room) s m #[(.ref o), (.int xe)] below meth c n0 T25 h16 0 0 → ((j0 : Int) - (j : Int) < (f : Int)) → (po.toInt = (((own_H sh xe + j) % N : Nat) : Int)) → (j ≤ j0) → Done p e below (OEnd s ({ frames := 1, cells := 0, slots := 0, locals := 20 } : Room) n0 (fun v h => v = none ∧ own_OC Z h n0 o (fun y => P y ∧ y ≠ xe))) (T25.setTop (mkF m 71 #[.val (.ref o), .val (.int xe), .val (.int i), .val (.int mk), .val (.int po), .unset, .unset] [])) := by
          intro f
          induction f with
          | zero =>
            intro T25 po j S25 hms hp hj
            exfalso
            omega
          | succ f ih25 =>
            intro T25 po j S25 hms hp hj
            have A25 := S25.here
            obtain ⟨q, hqe⟩ : ∃ q, (own_H sh xe + j) % N = q := ⟨_, rfl⟩
            rw [hqe] at hp
            have hqN : q < N := by rw [← hqe]; exact Nat.mod_lt _ (by have q3 := own_H_lt g xe; omega)
            have hpn : po.toInt.toNat = q := by omega
            refine k_aloadN A25 hx (hb hby own_d9_71) rfl rfl (pc' := 72) rfl ?_
            refine k_getfield S25 hx hZ hown (hw _ (List.mem_of_getElem? (i := 20) rfl)) f20 (hb hby own_d9_72) (pc' := 75) rfl ?_
            intro T26 S26
            have A26 := S26.here
            refine k_iload A26 hx (hb hby own_d9_75) rfl (pc' := 77) rfl ?_
            refine k_iaload S26 hx hZ f18 (hb hby own_d9_77) (by omega) (by omega) rfl (pc' := 78) rfl ?_
            refine k_iloadN A26 hx (hb hby own_d9_78) rfl (pc' := 79) rfl ?_
            refine k_icmp_eq A26 hx (hb hby own_d9_79) (pcY := 93) (by decide) (pc' := 82) rfl (fun hc79 => ?_) (fun hc79 => ?_)
            · obtain ⟨pe, hpe, hpx⟩ := own_ST_em T
              have D0 := own_D_start TB hqN (by rw [← hpn]; exact hc79) hx1 hpe hpx
              refine k_iload A26 hx (hb hby own_d9_93) rfl (pc' := 95) rfl ?_
              refine k_iconst A26 hx (hb hby own_d9_95) (v := 1) rfl (pc' := 96) rfl ?_
              refine k_iadd A26 hx (hb hby own_d9_96) (pc' := 97) rfl ?_
              refine k_iloadN A26 hx (hb hby own_d9_97) rfl (pc' := 98) rfl ?_
              refine k_iand A26 hx (hb hby own_d9_98) (pc' := 99) rfl ?_
              refine k_istore A26 hx (hb hby own_d9_99) (Ls' := #[.val (.ref o), .val (.int xe), .val (.int i), .val (.int mk), .val (.int po), .val (.int ((po + (1 : Int32)) &&& mk)), .unset]) rfl (pc' := 101) rfl ?_
              have L101_27 : ∀ (f : Nat) (T27 : State) (h27 : Heap), ∀ (po2 : Int32), ∀ (nx : Int32), ∀ (s6 : Slot), ∀ (tb2 : List Int32), ∀ (q2 : Nat), ∀ (mm : Nat), ∀ (y : Nat), St p l e ({ frames := 1, cells := 0, slots := 0, locals := 20 } : Room) s m #[(.ref o), (.int xe)] below meth c n0 T27 h27 0 0 → ((((pe + N - y) % N : Nat) : Int) < (f : Int)) → (Exa Z h27 o "com/example/entail/entail/tableau/ConceptSet") → (Fld Z h27 o "com/example/entail/entail/tableau/ConceptSet" "table" "[I" (.ref t)) → (Fld Z h27 o "com/example/entail/entail/tableau/ConceptSet" "shift" "I" (.int sh)) → (IV Z h27 t tb2) → (po2.toInt = (q2 : Int)) → (nx.toInt = (y : Int)) → ((q2 + mm) % N = y) → (own_DL tb2 N (own_H sh) (fun z => P z ∧ z ≠ xe) q2 mm pe) → (One s6) → Done p e below (OEnd s ({ frames := 1, cells := 0, slots := 0, locals := 20 } : Room) n0 (fun v h => v = none ∧ own_OC Z h n0 o (fun y => P y ∧ y ≠ xe))) (T27.setTop (mkF m 101 #[.val (.ref o), .val (.int xe), .val (.int i), .val (.int mk), .val (.int po2), .val (.int nx), s6] [])) := by
                intro f
                induction f with
                | zero =>
                  intro T27 h27 po2 nx s6 tb2 q2 mm y S27 hms E7 Ft7 Fs7 Vt7 hp2 hnx hy D hs6
                  exfalso
                  generalize (pe + N - y) % N = w9 at hms; omega
                | succ f ih27 =>
                  intro T27 h27 po2 nx s6 tb2 q2 mm y S27 hms E7 Ft7 Fs7 Vt7 hp2 hnx hy D hs6
                  have A27 := S27.here
                  have htl2 : tb2.length = N := D.1.2.1
                  have hq2N : q2 < N := D.2.1.1
                  have hmN : mm < N := D.2.1.2.2.1
                  have hyN : y < N := by rw [← hy]; exact Nat.mod_lt _ (by omega)
                  have hyn : nx.toInt.toNat = y := by omega
                  have hp2n : po2.toInt.toNat = q2 := by omega
                  refine k_aloadN A27 hx (hb hby own_d9_101) rfl rfl (pc' := 102) rfl ?_
                  refine k_getfield S27 hx hZ hown (hw _ (List.mem_of_getElem? (i := 20) rfl)) Ft7 (hb hby own_d9_102) (pc' := 105) rfl ?_
                  intro T28 S28
                  have A28 := S28.here
                  refine k_iload A28 hx (hb hby own_d9_105) rfl (pc' := 107) rfl ?_
                  refine k_iaload S28 hx hZ Vt7 (hb hby own_d9_107) (by omega) (by omega) rfl (pc' := 108) rfl ?_
                  refine k_iconst A28 hx (hb hby own_d9_108) (v := (-1)) rfl (pc' := 109) rfl ?_
                  refine k_icmp_eq A28 hx (hb hby own_d9_109) (pcY := 171) (by decide) (pc' := 112) rfl (fun hc109 => ?_) (fun hc109 => ?_)
                  · refine k_aloadN A28 hx (hb hby own_d9_171) rfl rfl (pc' := 172) rfl ?_
                    refine k_getfield S28 hx hZ hown (hw _ (List.mem_of_getElem? (i := 20) rfl)) Ft7 (hb hby own_d9_172) (pc' := 175) rfl ?_
                    intro T29 S29
                    have A29 := S29.here
                    refine k_iload A29 hx (hb hby own_d9_175) rfl (pc' := 177) rfl ?_
                    refine k_iconst A29 hx (hb hby own_d9_177) (v := (-1)) rfl (pc' := 178) rfl ?_
                    refine k_iastore S29 hx hZ Vt7 (hb hby own_d9_178) (by omega) (by omega) gt (pc' := 179) rfl ?_
                    intro T30 h30 W30 V30 S30
                    have A30 := S30.here
                    have f31 := E7.wr W30
                    have f33 := Ft7.other W30 (Or.inl n2)
                    have f34 := Fs7.other W30 (Or.inl n2)
                    refine k_ret_void S30 hx hret hlk (hb hby own_d9_179) (by decide) (by decide) ?_
                    have DE := own_D_end D (by rw [hy, ← hyn]; exact hc109)
                    have V9 := V30
                    rw [hp2n] at V9
                    exact ⟨rfl, t, sh, _, N, ⟨f31, f33, f34, V9⟩, go, g, DE.1, DE.2⟩
                  · have hype : y ≠ pe := fun z9 => hc109 (by rw [hyn, z9]; exact D.2.1.2.2.2.2.2)
                    refine k_aloadN A28 hx (hb hby own_d9_112) rfl rfl (pc' := 113) rfl ?_
                    refine k_aloadN A28 hx (hb hby own_d9_113) rfl rfl (pc' := 114) rfl ?_
                    refine k_getfield S28 hx hZ hown (hw _ (List.mem_of_getElem? (i := 20) rfl)) Ft7 (hb hby own_d9_114) (pc' := 117) rfl ?_
                    intro T35 S35
                    have A35 := S35.here
                    refine k_iload A35 hx (hb hby own_d9_117) rfl (pc' := 119) rfl ?_
                    refine k_iaload S35 hx hZ Vt7 (hb hby own_d9_119) (by omega) (by omega) rfl (pc' := 120) rfl ?_
                    generalize q_z : (tb2.getD nx.toInt.toNat 0) = z
                    have hz : tb2.getD ((q2 + mm) % N) 0 = z := by rw [hy, ← hyn]; exact q_z
                    have hz1 : z ≠ -1 := by rw [← q_z]; exact hc109
                    refine k_call_priv S35 hx hZ hown E7 (y2 := (⟨"com/example/entail/entail/tableau/ConceptSet", "add", "(I)Z"⟩ : MethodName)) (hw _ (List.mem_of_getElem? (i := 34) rfl)) (hw _ (List.mem_of_getElem? (i := 35) rfl)) (hw _ (List.mem_of_getElem? (i := 27) rfl)) rfl (hw _ (List.mem_of_getElem? (i := 36) rfl)) (hw _ (List.mem_of_getElem? (i := 3) rfl)) (hw _ (List.mem_of_getElem? (i := 37) rfl)) (by decide) (own_cslot l Z a0 hw o z h27 n0 sh Fs7) 0 (argsL := [(.int z)]) (rest := []) (by decide) (by decide) (by rw [hml]; rfl) (lenOf own_pd1 rfl) rfl rfl (Nat.le_refl 0) (hb hby own_d9_120) (pc' := 123) rfl (by decide) (by decide) ?_
                    rintro v36 T36 h36 ⟨rfl, q36⟩ S36
                    rw [q36] at S36
                    have A36 := S36.here
                    show Done p e below _ (T36.setTop (mkF m 123 #[.val (.ref o), .val (.int xe), .val (.int i), .val (.int mk), .val (.int po2), .val (.int nx), s6] [(.int (own_slot z sh))]))
                    refine k_istore A36 hx (hb hby own_d9_123) (Ls' := #[.val (.ref o), .val (.int xe), .val (.int i), .val (.int mk), .val (.int po2), .val (.int nx), .val (.int (own_slot z sh))]) (store1 rfl hs6 rfl) (pc' := 125) rfl ?_
                    refine k_iload A36 hx (hb hby own_d9_125) rfl (pc' := 127) rfl ?_
                    refine k_iload A36 hx (hb hby own_d9_127) rfl (pc' := 129) rfl ?_
                    refine k_isub A36 hx (hb hby own_d9_129) (pc' := 130) rfl ?_
                    refine k_iloadN A36 hx (hb hby own_d9_130) rfl (pc' := 131) rfl ?_
                    refine k_iand A36 hx (hb hby own_d9_131) (pc' := 132) rfl ?_
                    refine k_iload A36 hx (hb hby own_d9_132) rfl (pc' := 134) rfl ?_
                    refine k_iload A36 hx (hb hby own_d9_134) rfl (pc' := 136) rfl ?_
                    refine k_isub A36 hx (hb hby own_d9_136) (pc' := 137) rfl ?_
                    refine k_iloadN A36 hx (hb hby own_d9_137) rfl (pc' := 138) rfl ?_
                    refine k_iand A36 hx (hb hby own_d9_138) (pc' := 139) rfl ?_
                    refine k_icmp_lt A36 hx (hb hby own_d9_139) (pcY := 160) (by decide) (pc' := 142) rfl (fun hc139 => ?_) (fun hc139 => ?_)
                    · refine k_iload A36 hx (hb hby own_d9_160) rfl (pc' := 162) rfl ?_
                      refine k_iconst A36 hx (hb hby own_d9_162) (v := 1) rfl (pc' := 163) rfl ?_
                      refine k_iadd A36 hx (hb hby own_d9_163) (pc' := 164) rfl ?_
                      refine k_iloadN A36 hx (hb hby own_d9_164) rfl (pc' := 165) rfl ?_
                      refine k_iand A36 hx (hb hby own_d9_165) (pc' := 166) rfl ?_
                      refine k_istore A36 hx (hb hby own_d9_166) (Ls' := #[.val (.ref o), .val (.int xe), .val (.int i), .val (.int mk), .val (.int po2), .val (.int ((nx + (1 : Int32)) &&& mk)), .val (.int (own_slot z sh))]) rfl (pc' := 168) rfl ?_
                      refine k_goto A36 hx (hb hby own_d9_168) (pc' := 101) (by decide) ?_
                      exact ih27 T36 h27 po2 ((nx + (1 : Int32)) &&& mk) (.val (.int (own_slot z sh))) tb2 q2 (mm + 1) ((y + 1) % N) (S36.more (by decide) (by decide)) (own_msd TB.1 hyN hpe hype hms) E7 Ft7 Fs7 Vt7 hp2 (own_nxt hmk hnx hyN) (by rw [← hy, Nat.mod_add_mod, Nat.add_assoc]) (own_D_stay D hz hz1 ((own_cmp g hmk hnx hp2 hyN hq2N hmN hy).mp hc139)) (One.val rfl)
                    · have DM := own_D_move D hz hz1 (fun z9 => hc139 ((own_cmp g hmk hnx hp2 hyN hq2N hmN hy).mpr z9))
                      rw [hy] at DM
                      refine k_aloadN A36 hx (hb hby own_d9_142) rfl rfl (pc' := 143) rfl ?_
                      refine k_getfield S36 hx hZ hown (hw _ (List.mem_of_getElem? (i := 20) rfl)) Ft7 (hb hby own_d9_143) (pc' := 146) rfl ?_
                      intro T37 S37
                      have A37 := S37.here
                      refine k_iload A37 hx (hb hby own_d9_146) rfl (pc' := 148) rfl ?_
                      refine k_aloadN A37 hx (hb hby own_d9_148) rfl rfl (pc' := 149) rfl ?_
                      refine k_getfield S37 hx hZ hown (hw _ (List.mem_of_getElem? (i := 20) rfl)) Ft7 (hb hby own_d9_149) (pc' := 152) rfl ?_
                      intro T38 S38
                      have A38 := S38.here
                      refine k_iload A38 hx (hb hby own_d9_152) rfl (pc' := 154) rfl ?_
                      refine k_iaload S38 hx hZ Vt7 (hb hby own_d9_154) (by omega) (by omega) rfl (pc' := 155) rfl ?_
                      refine k_iastore S38 hx hZ Vt7 (hb hby own_d9_155) (by omega) (by omega) gt (pc' := 156) rfl ?_
                      intro T39 h39 W39 V39 S39
                      have A39 := S39.here
                      have f40 := E7.wr W39
                      have f42 := Ft7.other W39 (Or.inl n2)
                      have f43 := Fs7.other W39 (Or.inl n2)
                      refine k_iload A39 hx (hb hby own_d9_156) rfl (pc' := 158) rfl ?_
                      refine k_istore A39 hx (hb hby own_d9_158) (Ls' := #[.val (.ref o), .val (.int xe), .val (.int i), .val (.int mk), .val (.int nx), .val (.int nx), .val (.int (own_slot z sh))]) rfl (pc' := 160) rfl ?_
                      refine k_iload A39 hx (hb hby own_d9_160) rfl (pc' := 162) rfl ?_
                      refine k_iconst A39 hx (hb hby own_d9_162) (v := 1) rfl (pc' := 163) rfl ?_
                      refine k_iadd A39 hx (hb hby own_d9_163) (pc' := 164) rfl ?_
                      refine k_iloadN A39 hx (hb hby own_d9_164) rfl (pc' := 165) rfl ?_
                      refine k_iand A39 hx (hb hby own_d9_165) (pc' := 166) rfl ?_
                      refine k_istore A39 hx (hb hby own_d9_166) (Ls' := #[.val (.ref o), .val (.int xe), .val (.int i), .val (.int mk), .val (.int nx), .val (.int ((nx + (1 : Int32)) &&& mk)), .val (.int (own_slot z sh))]) rfl (pc' := 168) rfl ?_
                      refine k_goto A39 hx (hb hby own_d9_168) (pc' := 101) (by decide) ?_
                      exact ih27 T39 h39 nx ((nx + (1 : Int32)) &&& mk) (.val (.int (own_slot z sh))) (tb2.set q2 z) y 1 ((y + 1) % N) (S39.more (by decide) (by decide)) (own_msd TB.1 hyN hpe hype hms) f40 f42 f43 (by have V9 := V39; rw [hp2n, q_z] at V9; exact V9) hnx (own_nxt hmk hnx hyN) rfl DM (One.val rfl)
              exact L101_27 17 T26 h16 po ((po + (1 : Int32)) &&& mk) .unset tb q 1 ((q + 1) % N) (S26.more (by decide) (by decide)) (own_mlt TB.1) f17 f20 f21 f18 hp (own_nxt hmk hp hqN) rfl D0 One.u
            · have hnj : j ≠ j0 := fun z => hc79 (by rw [hpn, ← hqe, z]; exact hjx)
              refine k_iload A26 hx (hb hby own_d9_82) rfl (pc' := 84) rfl ?_
              refine k_iconst A26 hx (hb hby own_d9_84) (v := 1) rfl (pc' := 85) rfl ?_
              refine k_iadd A26 hx (hb hby own_d9_85) (pc' := 86) rfl ?_
              refine k_iloadN A26 hx (hb hby own_d9_86) rfl (pc' := 87) rfl ?_
              refine k_iand A26 hx (hb hby own_d9_87) (pc' := 88) rfl ?_
              refine k_istore A26 hx (hb hby own_d9_88) (Ls' := #[.val (.ref o), .val (.int xe), .val (.int i), .val (.int mk), .val (.int ((po + (1 : Int32)) &&& mk)), .unset, .unset]) rfl (pc' := 90) rfl ?_
              refine k_goto A26 hx (hb hby own_d9_90) (pc' := 71) (by decide) ?_
              exact ih25 T26 ((po + (1 : Int32)) &&& mk) (j + 1) (S26.more (by decide) (by decide)) (by omega) (own_pn hmk hp hqe hqN) (by omega)
        exact L71_25 17 T24 (own_slot xe sh) 0 (S24.more (by decide) (by decide)) (by have q4 := TB.1; omega) (own_p0 g xe) (Nat.zero_le _)
      · have hqi : (qa : Int) ≠ i.toInt := fun z => hc14 (by rw [show i.toInt.toNat = qa by omega]; exact hqx)
        refine k_iinc A3 hx (hb hby own_d9_17) rfl (Ls' := #[.val (.ref o), .val (.int xe), .val (.int (i + (-1 : Int32))), .unset, .unset, .unset, .unset]) rfl (pc' := 20) rfl ?_
        refine k_goto A3 hx (hb hby own_d9_20) (pc' := 7) (by decide) ?_
        exact ih2 T3 (i + (-1 : Int32)) (S3.more (by decide) (by decide)) (by rw [own_dec9 (by omega) (by omega)]; omega) (by rw [own_dec9 (by omega) (by omega)]; omega) ⟨qa, by rw [own_dec9 (by omega) (by omega)]; omega, hqx⟩
  exact L7_2 6 T1 (k.toInt32 - (1 : Int32)) (S1.more (by decide) (by decide)) (by rw [own_km1 hk5 (by omega)]; omega) (by rw [own_km1 hk5 (by omega)]; omega) ⟨qa0, by rw [own_km1 hk5 (by omega)]; omega, hqx0⟩
theorem own_pn0 : plainName "com/example/entail/entail/tableau/ConceptSetContainsPinLaw" = true := by first | (simp [plainName, overriddenIn]; done) | decide +kernel
theorem own_pd7 : parseMethodDescriptor "()V" = some ⟨[], none⟩ := by decide +kernel
set_option maxRecDepth 65536 in
set_option maxHeartbeats 40000000 in
theorem own_law (l : Launch) (Z : State) (a0 : Array Value) (hw : ∀ d ∈ tables_1, d.before a0 Z = true) (xa xb xc xd xg sd : Int32) (h0 : Heap) (n0 : Nat) (Z0 : n0 ≤ h0.size) :
    Con l Z x code maxLocals ret room_1 n0 h0 #[(.int xa), (.int xb), (.int xc), (.int xd), (.int xg), (.int sd)] (fun v h => v = some (.int 1)) := by
  refine Con.intro (plainFor_of_name own_pn0) (Ls := #[.val (.int xa), .val (.int xb), .val (.int xc), .val (.int xd), .val (.int xg), .val (.int sd), .unset, .unset, .unset, .unset, .unset, .unset, .unset, .unset, .unset, .unset, .unset, .unset]) (fun m => by first | (simp [entryFrame, mkF, argsToLocals, Value.category, maxLocals]; done) | rfl) ?_
  intro p e s m below meth c s₁ hx hby hml hown hnm hret hlk hZ S0
  have A0 := S0.here
  have K1 := Keep.refl h0 []
  have J17_2 : ∀ (T2 : State), ∀ (mk : Int32), St p l e room_1 s m #[(.int xa), (.int xb), (.int xc), (.int xd), (.int xg), (.int sd)] below meth c n0 T2 h0 0 0 → (∀ z : Int32, (z &&& mk) ≠ -1) → Done p e below (OEnd s room_1 n0 (fun v h => v = some (.int 1))) (T2.setTop (mkF m 17 #[.val (.int xa), .val (.int xb), .val (.int xc), .val (.int xd), .val (.int xg), .val (.int sd), .unset, .unset, .unset, .unset, .unset, .unset, .unset, .unset, .unset, .unset, .unset, .unset] [(.int mk)])) := by
    intro T2 mk S2 hm
    have A2 := S2.here
    refine k_istore A2 hx (hb hby at_17) (Ls' := #[.val (.int xa), .val (.int xb), .val (.int xc), .val (.int xd), .val (.int xg), .val (.int sd), .val (.int mk), .unset, .unset, .unset, .unset, .unset, .unset, .unset, .unset, .unset, .unset, .unset]) rfl (pc' := 19) rfl ?_
    refine k_iloadN A2 hx (hb hby at_19) rfl (pc' := 20) rfl ?_
    refine k_iload A2 hx (hb hby at_20) rfl (pc' := 22) rfl ?_
    refine k_iand A2 hx (hb hby at_22) (pc' := 23) rfl ?_
    generalize q_c0 : (xa &&& mk) = c0
    have nc0 : c0 ≠ -1 := by rw [← q_c0]; exact hm _
    refine k_istore A2 hx (hb hby at_23) (Ls' := #[.val (.int xa), .val (.int xb), .val (.int xc), .val (.int xd), .val (.int xg), .val (.int sd), .val (.int mk), .val (.int c0), .unset, .unset, .unset, .unset, .unset, .unset, .unset, .unset, .unset, .unset]) rfl (pc' := 25) rfl ?_
    refine k_iloadN A2 hx (hb hby at_25) rfl (pc' := 26) rfl ?_
    refine k_iload A2 hx (hb hby at_26) rfl (pc' := 28) rfl ?_
    refine k_iand A2 hx (hb hby at_28) (pc' := 29) rfl ?_
    generalize q_c1 : (xb &&& mk) = c1
    have nc1 : c1 ≠ -1 := by rw [← q_c1]; exact hm _
    refine k_istore A2 hx (hb hby at_29) (Ls' := #[.val (.int xa), .val (.int xb), .val (.int xc), .val (.int xd), .val (.int xg), .val (.int sd), .val (.int mk), .val (.int c0), .val (.int c1), .unset, .unset, .unset, .unset, .unset, .unset, .unset, .unset, .unset]) rfl (pc' := 31) rfl ?_
    refine k_iloadN A2 hx (hb hby at_31) rfl (pc' := 32) rfl ?_
    refine k_iload A2 hx (hb hby at_32) rfl (pc' := 34) rfl ?_
    refine k_iand A2 hx (hb hby at_34) (pc' := 35) rfl ?_
    generalize q_c2 : (xc &&& mk) = c2
    have nc2 : c2 ≠ -1 := by rw [← q_c2]; exact hm _
    refine k_istore A2 hx (hb hby at_35) (Ls' := #[.val (.int xa), .val (.int xb), .val (.int xc), .val (.int xd), .val (.int xg), .val (.int sd), .val (.int mk), .val (.int c0), .val (.int c1), .val (.int c2), .unset, .unset, .unset, .unset, .unset, .unset, .unset, .unset]) rfl (pc' := 37) rfl ?_
    refine k_iloadN A2 hx (hb hby at_37) rfl (pc' := 38) rfl ?_
    refine k_iload A2 hx (hb hby at_38) rfl (pc' := 40) rfl ?_
    refine k_iand A2 hx (hb hby at_40) (pc' := 41) rfl ?_
    generalize q_c3 : (xd &&& mk) = c3
    have nc3 : c3 ≠ -1 := by rw [← q_c3]; exact hm _
    refine k_istore A2 hx (hb hby at_41) (Ls' := #[.val (.int xa), .val (.int xb), .val (.int xc), .val (.int xd), .val (.int xg), .val (.int sd), .val (.int mk), .val (.int c0), .val (.int c1), .val (.int c2), .val (.int c3), .unset, .unset, .unset, .unset, .unset, .unset, .unset]) rfl (pc' := 43) rfl ?_
    refine k_iload A2 hx (hb hby at_43) rfl (pc' := 45) rfl ?_
    refine k_iload A2 hx (hb hby at_45) rfl (pc' := 47) rfl ?_
    refine k_iand A2 hx (hb hby at_47) (pc' := 48) rfl ?_
    generalize q_c4 : (xg &&& mk) = c4
    have nc4 : c4 ≠ -1 := by rw [← q_c4]; exact hm _
    refine k_istore A2 hx (hb hby at_48) (Ls' := #[.val (.int xa), .val (.int xb), .val (.int xc), .val (.int xd), .val (.int xg), .val (.int sd), .val (.int mk), .val (.int c0), .val (.int c1), .val (.int c2), .val (.int c3), .val (.int c4), .unset, .unset, .unset, .unset, .unset, .unset]) rfl (pc' := 50) rfl ?_
    refine k_iload A2 hx (hb hby at_50) rfl (pc' := 52) rfl ?_
    refine k_bipush A2 hx (hb hby at_52) (v := 7) rfl (pc' := 54) rfl ?_
    refine k_iand A2 hx (hb hby at_54) (pc' := 55) rfl ?_
    refine k_bipush A2 hx (hb hby at_55) (v := 6) rfl (pc' := 57) rfl ?_
    refine k_irem A2 hx (hb hby at_57) (by decide) (pc' := 58) rfl ?_
    generalize q_nn : ((sd &&& (7 : Int32)) % (6 : Int32)) = nn
    refine k_istore A2 hx (hb hby at_58) (Ls' := #[.val (.int xa), .val (.int xb), .val (.int xc), .val (.int xd), .val (.int xg), .val (.int sd), .val (.int mk), .val (.int c0), .val (.int c1), .val (.int c2), .val (.int c3), .val (.int c4), .val (.int nn), .unset, .unset, .unset, .unset, .unset]) rfl (pc' := 60) rfl ?_
    refine k_new S2 hx hZ hown (hw _ (List.mem_of_getElem? (i := 1) rfl)) (hw _ (List.mem_of_getElem? (i := 2) rfl)) (hw _ (List.mem_of_getElem? (i := 3) rfl)) (hb hby at_60) (pc' := 63) rfl (by decide) (by decide) ?_
    intro T3 h3 b3 g3 E3 X3 D3 S3
    have bo4 : h0.size ≤ b3 := Nat.le_trans K1.1 (Nat.le_of_eq g3.symm)
    have ge4 : n0 ≤ b3 := Nat.le_trans Z0 bo4
    have A3 := S3.here
    have K5 := K1.ext E3
    have F6 : Fld Z h3 b3 "com/example/entail/entail/tableau/ConceptSet" "added" "[I" .null := D3 (Or.inl (hw _ (List.mem_of_getElem? (i := 12) rfl))) (ty := (.array .int)) (by decide)
    have F7 : Fld Z h3 b3 "com/example/entail/entail/tableau/ConceptSet" "table" "[I" .null := D3 (Or.inl (hw _ (List.mem_of_getElem? (i := 21) rfl))) (ty := (.array .int)) (by decide)
    have F8 : Fld Z h3 b3 "com/example/entail/entail/tableau/ConceptSet" "shift" "I" (.int (0 : Int32)) := D3 (Or.inl (hw _ (List.mem_of_getElem? (i := 23) rfl))) (ty := .int) (by decide)
    have F9 : Fld Z h3 b3 "com/example/entail/entail/tableau/ConceptSet" "size" "I" (.int (0 : Int32)) := D3 (Or.inl (hw _ (List.mem_of_getElem? (i := 40) rfl))) (ty := .int) (by decide)
    refine k_dup A3 hx (hb hby at_63) rfl (pc' := 64) rfl ?_
    refine k_call_init S3 hx hZ hown rfl (hw _ (List.mem_of_getElem? (i := 4) rfl)) (hw _ (List.mem_of_getElem? (i := 5) rfl)) (hw _ (List.mem_of_getElem? (i := 3) rfl)) (hw _ (List.mem_of_getElem? (i := 6) rfl)) (by decide) (own_cinit l Z a0 hw b3 h3 n0 ge4 X3 F6 F7 F8 F9) 1 (argsL := []) (rest := [(.ref b3)]) (by decide) (by decide) (by rw [hml]; rfl) (lenOf own_pd7 rfl) rfl rfl (Nat.le_refl 1) (hb hby at_64) (pc' := 67) rfl (by decide) (by decide) ?_
    rintro v10 T10 h10 ⟨rfl, B10⟩ S10
    have A10 := S10.here
    show Done p e below _ (T10.setTop (mkF m 67 #[.val (.int xa), .val (.int xb), .val (.int xc), .val (.int xd), .val (.int xg), .val (.int sd), .val (.int mk), .val (.int c0), .val (.int c1), .val (.int c2), .val (.int c3), .val (.int c4), .val (.int nn), .unset, .unset, .unset, .unset, .unset] [(.ref b3)]))
    refine k_astore A10 hx (hb hby at_67) rfl (Ls' := #[.val (.int xa), .val (.int xb), .val (.int xc), .val (.int xd), .val (.int xg), .val (.int sd), .val (.int mk), .val (.int c0), .val (.int c1), .val (.int c2), .val (.int c3), .val (.int c4), .val (.int nn), .val (.ref b3), .unset, .unset, .unset, .unset]) rfl (pc' := 69) rfl ?_
    have J82_11 : ∀ (T11 : State) (h11 : Heap), ∀ (k1 : Nat), St p l e room_1 s m #[(.int xa), (.int xb), (.int xc), (.int xd), (.int xg), (.int sd)] below meth c n0 T11 h11 (((0 + 1) + 2) + 2) (((0 + 4) + 20) + 24) → (own_OB Z h11 n0 b3 k1 (own_Q nn (0 : Int32) c0 (fun _ => False))) → (k1 ≤ 1) → Done p e below (OEnd s room_1 n0 (fun v h => v = some (.int 1))) (T11.setTop (mkF m 82 #[.val (.int xa), .val (.int xb), .val (.int xc), .val (.int xd), .val (.int xg), .val (.int sd), .val (.int mk), .val (.int c0), .val (.int c1), .val (.int c2), .val (.int c3), .val (.int c4), .val (.int nn), .val (.ref b3), .unset, .unset, .unset, .unset] [])) := by
      intro T11 h11 k1 S11 BJ1 hk1
      have A11 := S11.here
      have J96_12 : ∀ (T12 : State) (h12 : Heap), ∀ (k2 : Nat), St p l e room_1 s m #[(.int xa), (.int xb), (.int xc), (.int xd), (.int xg), (.int sd)] below meth c n0 T12 h12 ((((0 + 1) + 2) + 2) + 2) ((((0 + 4) + 20) + 24) + 24) → (own_OB Z h12 n0 b3 k2 (own_Q nn (1 : Int32) c1 (own_Q nn (0 : Int32) c0 (fun _ => False)))) → (k2 ≤ 2) → Done p e below (OEnd s room_1 n0 (fun v h => v = some (.int 1))) (T12.setTop (mkF m 96 #[.val (.int xa), .val (.int xb), .val (.int xc), .val (.int xd), .val (.int xg), .val (.int sd), .val (.int mk), .val (.int c0), .val (.int c1), .val (.int c2), .val (.int c3), .val (.int c4), .val (.int nn), .val (.ref b3), .unset, .unset, .unset, .unset] [])) := by
        intro T12 h12 k2 S12 BJ2 hk2
        have A12 := S12.here
        have J110_13 : ∀ (T13 : State) (h13 : Heap), ∀ (k3 : Nat), St p l e room_1 s m #[(.int xa), (.int xb), (.int xc), (.int xd), (.int xg), (.int sd)] below meth c n0 T13 h13 (((((0 + 1) + 2) + 2) + 2) + 2) (((((0 + 4) + 20) + 24) + 24) + 24) → (own_OB Z h13 n0 b3 k3 (own_Q nn (2 : Int32) c2 (own_Q nn (1 : Int32) c1 (own_Q nn (0 : Int32) c0 (fun _ => False))))) → (k3 ≤ 3) → Done p e below (OEnd s room_1 n0 (fun v h => v = some (.int 1))) (T13.setTop (mkF m 110 #[.val (.int xa), .val (.int xb), .val (.int xc), .val (.int xd), .val (.int xg), .val (.int sd), .val (.int mk), .val (.int c0), .val (.int c1), .val (.int c2), .val (.int c3), .val (.int c4), .val (.int nn), .val (.ref b3), .unset, .unset, .unset, .unset] [])) := by
          intro T13 h13 k3 S13 BJ3 hk3
          have A13 := S13.here
          have J124_14 : ∀ (T14 : State) (h14 : Heap), ∀ (k4 : Nat), St p l e room_1 s m #[(.int xa), (.int xb), (.int xc), (.int xd), (.int xg), (.int sd)] below meth c n0 T14 h14 ((((((0 + 1) + 2) + 2) + 2) + 2) + 2) ((((((0 + 4) + 20) + 24) + 24) + 24) + 24) → (own_OB Z h14 n0 b3 k4 (own_Q nn (3 : Int32) c3 (own_Q nn (2 : Int32) c2 (own_Q nn (1 : Int32) c1 (own_Q nn (0 : Int32) c0 (fun _ => False)))))) → (k4 ≤ 4) → Done p e below (OEnd s room_1 n0 (fun v h => v = some (.int 1))) (T14.setTop (mkF m 124 #[.val (.int xa), .val (.int xb), .val (.int xc), .val (.int xd), .val (.int xg), .val (.int sd), .val (.int mk), .val (.int c0), .val (.int c1), .val (.int c2), .val (.int c3), .val (.int c4), .val (.int nn), .val (.ref b3), .unset, .unset, .unset, .unset] [])) := by
            intro T14 h14 k4 S14 BJ4 hk4
            have A14 := S14.here
            have J138_15 : ∀ (T15 : State) (h15 : Heap), ∀ (k5 : Nat), St p l e room_1 s m #[(.int xa), (.int xb), (.int xc), (.int xd), (.int xg), (.int sd)] below meth c n0 T15 h15 (((((((0 + 1) + 2) + 2) + 2) + 2) + 2) + 2) (((((((0 + 4) + 20) + 24) + 24) + 24) + 24) + 24) → (own_OB Z h15 n0 b3 k5 (own_Q nn (4 : Int32) c4 (own_Q nn (3 : Int32) c3 (own_Q nn (2 : Int32) c2 (own_Q nn (1 : Int32) c1 (own_Q nn (0 : Int32) c0 (fun _ => False))))))) → (k5 ≤ 5) → Done p e below (OEnd s room_1 n0 (fun v h => v = some (.int 1))) (T15.setTop (mkF m 138 #[.val (.int xa), .val (.int xb), .val (.int xc), .val (.int xd), .val (.int xg), .val (.int sd), .val (.int mk), .val (.int c0), .val (.int c1), .val (.int c2), .val (.int c3), .val (.int c4), .val (.int nn), .val (.ref b3), .unset, .unset, .unset, .unset] [])) := by
              intro T15 h15 k5 S15 BJ5 hk5
              have A15 := S15.here
              have J158_16 : ∀ (T16 : State), ∀ (rm : Int32), St p l e room_1 s m #[(.int xa), (.int xb), (.int xc), (.int xd), (.int xg), (.int sd)] below meth c n0 T16 h15 (((((((0 + 1) + 2) + 2) + 2) + 2) + 2) + 2) (((((((0 + 4) + 20) + 24) + 24) + 24) + 24) + 24) → (rm = 0 ∨ (rm = 1 ∧ 0 < nn)) → Done p e below (OEnd s room_1 n0 (fun v h => v = some (.int 1))) (T16.setTop (mkF m 158 #[.val (.int xa), .val (.int xb), .val (.int xc), .val (.int xd), .val (.int xg), .val (.int sd), .val (.int mk), .val (.int c0), .val (.int c1), .val (.int c2), .val (.int c3), .val (.int c4), .val (.int nn), .val (.ref b3), .unset, .unset, .unset, .unset] [(.int rm)])) := by
                intro T16 rm S16 hrm
                have A16 := S16.here
                refine k_istore A16 hx (hb hby at_158) (Ls' := #[.val (.int xa), .val (.int xb), .val (.int xc), .val (.int xd), .val (.int xg), .val (.int sd), .val (.int mk), .val (.int c0), .val (.int c1), .val (.int c2), .val (.int c3), .val (.int c4), .val (.int nn), .val (.ref b3), .val (.int rm), .unset, .unset, .unset]) rfl (pc' := 160) rfl ?_
                have J172_17 : ∀ (T17 : State) (h17 : Heap), St p l e room_1 s m #[(.int xa), (.int xb), (.int xc), (.int xd), (.int xg), (.int sd)] below meth c n0 T17 h17 (((((((0 + 1) + 2) + 2) + 2) + 2) + 2) + 2) (((((((0 + 4) + 20) + 24) + 24) + 24) + 24) + 24) → (own_OC Z h17 n0 b3 (fun y => (own_Q nn (4 : Int32) c4 (own_Q nn (3 : Int32) c3 (own_Q nn (2 : Int32) c2 (own_Q nn (1 : Int32) c1 (own_Q nn (0 : Int32) c0 (fun _ => False)))))) y ∧ ¬ (rm ≠ 0 ∧ y = c0))) → Done p e below (OEnd s room_1 n0 (fun v h => v = some (.int 1))) (T17.setTop (mkF m 172 #[.val (.int xa), .val (.int xb), .val (.int xc), .val (.int xd), .val (.int xg), .val (.int sd), .val (.int mk), .val (.int c0), .val (.int c1), .val (.int c2), .val (.int c3), .val (.int c4), .val (.int nn), .val (.ref b3), .val (.int rm), .unset, .unset, .unset] [])) := by
                  intro T17 h17 S17 OC
                  have A17 := S17.here
                  refine k_iload A17 hx (hb hby at_172) rfl (pc' := 174) rfl ?_
                  refine k_iconst A17 hx (hb hby at_174) (v := 3) rfl (pc' := 175) rfl ?_
                  refine k_iushr A17 hx (hb hby at_175) (pc' := 176) rfl ?_
                  refine k_bipush A17 hx (hb hby at_176) (v := 7) rfl (pc' := 178) rfl ?_
                  refine k_iand A17 hx (hb hby at_178) (pc' := 179) rfl ?_
                  refine k_istore A17 hx (hb hby at_179) (Ls' := #[.val (.int xa), .val (.int xb), .val (.int xc), .val (.int xd), .val (.int xg), .val (.int sd), .val (.int mk), .val (.int c0), .val (.int c1), .val (.int c2), .val (.int c3), .val (.int c4), .val (.int nn), .val (.ref b3), .val (.int rm), .val (.int (((sd.toUInt32 >>> ((3 : Int32) &&& 31).toUInt32).toInt32) &&& (7 : Int32))), .unset, .unset]) rfl (pc' := 181) rfl ?_
                  have J255_18 : ∀ (T18 : State), ∀ (qv : Int32), St p l e room_1 s m #[(.int xa), (.int xb), (.int xc), (.int xd), (.int xg), (.int sd)] below meth c n0 T18 h17 (((((((0 + 1) + 2) + 2) + 2) + 2) + 2) + 2) (((((((0 + 4) + 20) + 24) + 24) + 24) + 24) + 24) → (qv ≠ -1) → Done p e below (OEnd s room_1 n0 (fun v h => v = some (.int 1))) (T18.setTop (mkF m 255 #[.val (.int xa), .val (.int xb), .val (.int xc), .val (.int xd), .val (.int xg), .val (.int sd), .val (.int mk), .val (.int c0), .val (.int c1), .val (.int c2), .val (.int c3), .val (.int c4), .val (.int nn), .val (.ref b3), .val (.int rm), .val (.int (((sd.toUInt32 >>> ((3 : Int32) &&& 31).toUInt32).toInt32) &&& (7 : Int32))), .val (.int qv), .unset] [])) := by
                    intro T18 qv S18 nq
                    have A18 := S18.here
                    have J324_19 : ∀ (T19 : State), ∀ (ev : Int32), St p l e room_1 s m #[(.int xa), (.int xb), (.int xc), (.int xd), (.int xg), (.int sd)] below meth c n0 T19 h17 (((((((0 + 1) + 2) + 2) + 2) + 2) + 2) + 2) (((((((0 + 4) + 20) + 24) + 24) + 24) + 24) + 24) → ((ev = 1 ∧ (own_Q nn (4 : Int32) c4 (own_Q nn (3 : Int32) c3 (own_Q nn (2 : Int32) c2 (own_Q nn (1 : Int32) c1 (own_Q nn (0 : Int32) c0 (fun _ => False)))))) qv) ∨ (ev = 0 ∧ ¬ (own_Q nn (4 : Int32) c4 (own_Q nn (3 : Int32) c3 (own_Q nn (2 : Int32) c2 (own_Q nn (1 : Int32) c1 (own_Q nn (0 : Int32) c0 (fun _ => False)))))) qv)) → Done p e below (OEnd s room_1 n0 (fun v h => v = some (.int 1))) (T19.setTop (mkF m 324 #[.val (.int xa), .val (.int xb), .val (.int xc), .val (.int xd), .val (.int xg), .val (.int sd), .val (.int mk), .val (.int c0), .val (.int c1), .val (.int c2), .val (.int c3), .val (.int c4), .val (.int nn), .val (.ref b3), .val (.int rm), .val (.int (((sd.toUInt32 >>> ((3 : Int32) &&& 31).toUInt32).toInt32) &&& (7 : Int32))), .val (.int qv), .unset] [(.int ev)])) := by
                      intro T19 ev S19 hev
                      have A19 := S19.here
                      refine k_istore A19 hx (hb hby at_324) (Ls' := #[.val (.int xa), .val (.int xb), .val (.int xc), .val (.int xd), .val (.int xg), .val (.int sd), .val (.int mk), .val (.int c0), .val (.int c1), .val (.int c2), .val (.int c3), .val (.int c4), .val (.int nn), .val (.ref b3), .val (.int rm), .val (.int (((sd.toUInt32 >>> ((3 : Int32) &&& 31).toUInt32).toInt32) &&& (7 : Int32))), .val (.int qv), .val (.int ev)]) rfl (pc' := 326) rfl ?_
                      have J341_20 : ∀ (T20 : State), ∀ (ew : Int32), St p l e room_1 s m #[(.int xa), (.int xb), (.int xc), (.int xd), (.int xg), (.int sd)] below meth c n0 T20 h17 (((((((0 + 1) + 2) + 2) + 2) + 2) + 2) + 2) (((((((0 + 4) + 20) + 24) + 24) + 24) + 24) + 24) → ((ew = 1 ∧ ((own_Q nn (4 : Int32) c4 (own_Q nn (3 : Int32) c3 (own_Q nn (2 : Int32) c2 (own_Q nn (1 : Int32) c1 (own_Q nn (0 : Int32) c0 (fun _ => False)))))) qv ∧ ¬ (rm ≠ 0 ∧ qv = c0))) ∨ (ew = 0 ∧ ¬ ((own_Q nn (4 : Int32) c4 (own_Q nn (3 : Int32) c3 (own_Q nn (2 : Int32) c2 (own_Q nn (1 : Int32) c1 (own_Q nn (0 : Int32) c0 (fun _ => False)))))) qv ∧ ¬ (rm ≠ 0 ∧ qv = c0)))) → Done p e below (OEnd s room_1 n0 (fun v h => v = some (.int 1))) (T20.setTop (mkF m 341 #[.val (.int xa), .val (.int xb), .val (.int xc), .val (.int xd), .val (.int xg), .val (.int sd), .val (.int mk), .val (.int c0), .val (.int c1), .val (.int c2), .val (.int c3), .val (.int c4), .val (.int nn), .val (.ref b3), .val (.int rm), .val (.int (((sd.toUInt32 >>> ((3 : Int32) &&& 31).toUInt32).toInt32) &&& (7 : Int32))), .val (.int qv), .val (.int ew)] [])) := by
                        intro T20 ew S20 hew
                        have A20 := S20.here
                        obtain ⟨t, sh, tb, N, ⟨E8, Ft8, Fs8, Vt8⟩, go8, g8, TB8, em8⟩ := OC
                        refine k_aload A20 hx (hb hby at_341) rfl rfl (pc' := 343) rfl ?_
                        refine k_iload A20 hx (hb hby at_343) rfl (pc' := 345) rfl ?_
                        refine k_call_virtual S20 hx hZ hown E8 (hw _ (List.mem_of_getElem? (i := 45) rfl)) (hw _ (List.mem_of_getElem? (i := 30) rfl)) (hw _ (List.mem_of_getElem? (i := 32) rfl)) (hw _ (List.mem_of_getElem? (i := 31) rfl)) (hw _ (List.mem_of_getElem? (i := 3) rfl)) (hw _ (List.mem_of_getElem? (i := 33) rfl)) (by decide) (own_ccon l Z a0 hw b3 qv h17 n0 t sh tb N _ E8 Ft8 Fs8 Vt8 g8 TB8 em8 nq) 0 (argsL := [(.int qv)]) (rest := []) (by decide) (by decide) (by rw [hml]; rfl) (lenOf own_pd4 rfl) rfl rfl (Nat.le_refl 0) (hb hby at_345) (pc' := 348) rfl (by decide) (by decide) ?_
                        rintro v21 T21 h21 ⟨hres21, q21⟩ S21
                        rw [q21] at S21
                        obtain ⟨r21, rfl, hr⟩ := own_res hres21
                        have A21 := S21.here
                        show Done p e below _ (T21.setTop (mkF m 348 #[.val (.int xa), .val (.int xb), .val (.int xc), .val (.int xd), .val (.int xg), .val (.int sd), .val (.int mk), .val (.int c0), .val (.int c1), .val (.int c2), .val (.int c3), .val (.int c4), .val (.int nn), .val (.ref b3), .val (.int rm), .val (.int (((sd.toUInt32 >>> ((3 : Int32) &&& 31).toUInt32).toInt32) &&& (7 : Int32))), .val (.int qv), .val (.int ew)] [(.int r21)]))
                        refine k_iload A21 hx (hb hby at_348) rfl (pc' := 350) rfl ?_
                        refine k_icmp_ne A21 hx (hb hby at_350) (pcY := 357) (by decide) (pc' := 353) rfl (fun hc350 => absurd (own_same hr hew) hc350) (fun hc350 => ?_)
                        refine k_iconst A21 hx (hb hby at_353) (v := 1) rfl (pc' := 354) rfl ?_
                        refine k_goto A21 hx (hb hby at_354) (pc' := 358) (by decide) ?_
                        refine k_ret_nar S21 hx (t := .boolean) hret (by simp) hlk (hb hby at_358) (z' := (1 : Int32)) rfl (by decide) (by decide) ?_
                        exact rfl
                      refine k_iload A19 hx (hb hby at_326) rfl (pc' := 328) rfl ?_
                      refine k_if_eq A19 hx (hb hby at_328) (pcY := 341) (by decide) (pc' := 331) rfl (fun hc328 => ?_) (fun hc328 => ?_)
                      · exact J341_20 T19 ev (S19.more (by decide) (by decide)) (own_ev hev (fun u => u.1 hc328))
                      · refine k_iload A19 hx (hb hby at_331) rfl (pc' := 333) rfl ?_
                        refine k_iload A19 hx (hb hby at_333) rfl (pc' := 335) rfl ?_
                        refine k_icmp_ne A19 hx (hb hby at_335) (pcY := 341) (by decide) (pc' := 338) rfl (fun hc335 => ?_) (fun hc335 => ?_)
                        · exact J341_20 T19 ev (S19.more (by decide) (by decide)) (own_ev hev (fun u => hc335 u.2))
                        · refine k_iconst A19 hx (hb hby at_338) (v := 0) rfl (pc' := 339) rfl ?_
                          refine k_istore A19 hx (hb hby at_339) (Ls' := #[.val (.int xa), .val (.int xb), .val (.int xc), .val (.int xd), .val (.int xg), .val (.int sd), .val (.int mk), .val (.int c0), .val (.int c1), .val (.int c2), .val (.int c3), .val (.int c4), .val (.int nn), .val (.ref b3), .val (.int rm), .val (.int (((sd.toUInt32 >>> ((3 : Int32) &&& 31).toUInt32).toInt32) &&& (7 : Int32))), .val (.int qv), .val (.int (0 : Int32))]) rfl (pc' := 341) rfl ?_
                          exact J341_20 T19 (0 : Int32) (S19.more (by decide) (by decide)) (Or.inr ⟨rfl, fun u => u.2 ⟨hc328, hc335⟩⟩)
                    have J319_22 : ∀ (T22 : State), St p l e room_1 s m #[(.int xa), (.int xb), (.int xc), (.int xd), (.int xg), (.int sd)] below meth c n0 T22 h17 (((((((0 + 1) + 2) + 2) + 2) + 2) + 2) + 2) (((((((0 + 4) + 20) + 24) + 24) + 24) + 24) + 24) → ((own_Q nn (4 : Int32) c4 (own_Q nn (3 : Int32) c3 (own_Q nn (2 : Int32) c2 (own_Q nn (1 : Int32) c1 (own_Q nn (0 : Int32) c0 (fun _ => False)))))) qv) → Done p e below (OEnd s room_1 n0 (fun v h => v = some (.int 1))) (T22.setTop (mkF m 319 #[.val (.int xa), .val (.int xb), .val (.int xc), .val (.int xd), .val (.int xg), .val (.int sd), .val (.int mk), .val (.int c0), .val (.int c1), .val (.int c2), .val (.int c3), .val (.int c4), .val (.int nn), .val (.ref b3), .val (.int rm), .val (.int (((sd.toUInt32 >>> ((3 : Int32) &&& 31).toUInt32).toInt32) &&& (7 : Int32))), .val (.int qv), .unset] [])) := by
                      intro T22 S22 h319
                      have A22 := S22.here
                      refine k_iconst A22 hx (hb hby at_319) (v := 1) rfl (pc' := 320) rfl ?_
                      refine k_goto A22 hx (hb hby at_320) (pc' := 324) (by decide) ?_
                      exact J324_19 T22 (1 : Int32) (S22.more (by decide) (by decide)) (Or.inl ⟨rfl, h319⟩)
                    have J323_23 : ∀ (T23 : State), St p l e room_1 s m #[(.int xa), (.int xb), (.int xc), (.int xd), (.int xg), (.int sd)] below meth c n0 T23 h17 (((((((0 + 1) + 2) + 2) + 2) + 2) + 2) + 2) (((((((0 + 4) + 20) + 24) + 24) + 24) + 24) + 24) → (¬ (own_Q nn (4 : Int32) c4 (own_Q nn (3 : Int32) c3 (own_Q nn (2 : Int32) c2 (own_Q nn (1 : Int32) c1 (own_Q nn (0 : Int32) c0 (fun _ => False)))))) qv) → Done p e below (OEnd s room_1 n0 (fun v h => v = some (.int 1))) (T23.setTop (mkF m 323 #[.val (.int xa), .val (.int xb), .val (.int xc), .val (.int xd), .val (.int xg), .val (.int sd), .val (.int mk), .val (.int c0), .val (.int c1), .val (.int c2), .val (.int c3), .val (.int c4), .val (.int nn), .val (.ref b3), .val (.int rm), .val (.int (((sd.toUInt32 >>> ((3 : Int32) &&& 31).toUInt32).toInt32) &&& (7 : Int32))), .val (.int qv), .unset] [])) := by
                      intro T23 S23 h323
                      have A23 := S23.here
                      refine k_iconst A23 hx (hb hby at_323) (v := 0) rfl (pc' := 324) rfl ?_
                      exact J324_19 T23 (0 : Int32) (S23.more (by decide) (by decide)) (Or.inr ⟨rfl, h323⟩)
                    have J306_24 : ∀ (T24 : State), St p l e room_1 s m #[(.int xa), (.int xb), (.int xc), (.int xd), (.int xg), (.int sd)] below meth c n0 T24 h17 (((((((0 + 1) + 2) + 2) + 2) + 2) + 2) + 2) (((((((0 + 4) + 20) + 24) + 24) + 24) + 24) + 24) → (¬ (own_Q nn (3 : Int32) c3 (own_Q nn (2 : Int32) c2 (own_Q nn (1 : Int32) c1 (own_Q nn (0 : Int32) c0 (fun _ => False))))) qv) → Done p e below (OEnd s room_1 n0 (fun v h => v = some (.int 1))) (T24.setTop (mkF m 306 #[.val (.int xa), .val (.int xb), .val (.int xc), .val (.int xd), .val (.int xg), .val (.int sd), .val (.int mk), .val (.int c0), .val (.int c1), .val (.int c2), .val (.int c3), .val (.int c4), .val (.int nn), .val (.ref b3), .val (.int rm), .val (.int (((sd.toUInt32 >>> ((3 : Int32) &&& 31).toUInt32).toInt32) &&& (7 : Int32))), .val (.int qv), .unset] [])) := by
                      intro T24 S24 h306
                      have A24 := S24.here
                      refine k_iload A24 hx (hb hby at_306) rfl (pc' := 308) rfl ?_
                      refine k_iconst A24 hx (hb hby at_308) (v := 4) rfl (pc' := 309) rfl ?_
                      refine k_icmp_le A24 hx (hb hby at_309) (pcY := 323) (by decide) (pc' := 312) rfl (fun hc309 => ?_) (fun hc309 => ?_)
                      · exact J323_23 T24  (S24.more (by decide) (by decide)) (own_Q1 h306 hc309)
                      · refine k_iload A24 hx (hb hby at_312) rfl (pc' := 314) rfl ?_
                        refine k_iload A24 hx (hb hby at_314) rfl (pc' := 316) rfl ?_
                        refine k_icmp_ne A24 hx (hb hby at_316) (pcY := 323) (by decide) (pc' := 319) rfl (fun hc316 => ?_) (fun hc316 => ?_)
                        · exact J323_23 T24  (S24.more (by decide) (by decide)) (own_Q2 h306 hc316)
                        · exact J319_22 T24  (S24.more (by decide) (by decide)) (Or.inr ⟨hc309, hc316⟩)
                    have J293_25 : ∀ (T25 : State), St p l e room_1 s m #[(.int xa), (.int xb), (.int xc), (.int xd), (.int xg), (.int sd)] below meth c n0 T25 h17 (((((((0 + 1) + 2) + 2) + 2) + 2) + 2) + 2) (((((((0 + 4) + 20) + 24) + 24) + 24) + 24) + 24) → (¬ (own_Q nn (2 : Int32) c2 (own_Q nn (1 : Int32) c1 (own_Q nn (0 : Int32) c0 (fun _ => False)))) qv) → Done p e below (OEnd s room_1 n0 (fun v h => v = some (.int 1))) (T25.setTop (mkF m 293 #[.val (.int xa), .val (.int xb), .val (.int xc), .val (.int xd), .val (.int xg), .val (.int sd), .val (.int mk), .val (.int c0), .val (.int c1), .val (.int c2), .val (.int c3), .val (.int c4), .val (.int nn), .val (.ref b3), .val (.int rm), .val (.int (((sd.toUInt32 >>> ((3 : Int32) &&& 31).toUInt32).toInt32) &&& (7 : Int32))), .val (.int qv), .unset] [])) := by
                      intro T25 S25 h293
                      have A25 := S25.here
                      refine k_iload A25 hx (hb hby at_293) rfl (pc' := 295) rfl ?_
                      refine k_iconst A25 hx (hb hby at_295) (v := 3) rfl (pc' := 296) rfl ?_
                      refine k_icmp_le A25 hx (hb hby at_296) (pcY := 306) (by decide) (pc' := 299) rfl (fun hc296 => ?_) (fun hc296 => ?_)
                      · exact J306_24 T25  (S25.more (by decide) (by decide)) (own_Q1 h293 hc296)
                      · refine k_iload A25 hx (hb hby at_299) rfl (pc' := 301) rfl ?_
                        refine k_iload A25 hx (hb hby at_301) rfl (pc' := 303) rfl ?_
                        refine k_icmp_eq A25 hx (hb hby at_303) (pcY := 319) (by decide) (pc' := 306) rfl (fun hc303 => ?_) (fun hc303 => ?_)
                        · exact J319_22 T25  (S25.more (by decide) (by decide)) (Or.inl (Or.inr ⟨hc296, hc303⟩))
                        · exact J306_24 T25  (S25.more (by decide) (by decide)) (own_Q2 h293 hc303)
                    have J280_26 : ∀ (T26 : State), St p l e room_1 s m #[(.int xa), (.int xb), (.int xc), (.int xd), (.int xg), (.int sd)] below meth c n0 T26 h17 (((((((0 + 1) + 2) + 2) + 2) + 2) + 2) + 2) (((((((0 + 4) + 20) + 24) + 24) + 24) + 24) + 24) → (¬ (own_Q nn (1 : Int32) c1 (own_Q nn (0 : Int32) c0 (fun _ => False))) qv) → Done p e below (OEnd s room_1 n0 (fun v h => v = some (.int 1))) (T26.setTop (mkF m 280 #[.val (.int xa), .val (.int xb), .val (.int xc), .val (.int xd), .val (.int xg), .val (.int sd), .val (.int mk), .val (.int c0), .val (.int c1), .val (.int c2), .val (.int c3), .val (.int c4), .val (.int nn), .val (.ref b3), .val (.int rm), .val (.int (((sd.toUInt32 >>> ((3 : Int32) &&& 31).toUInt32).toInt32) &&& (7 : Int32))), .val (.int qv), .unset] [])) := by
                      intro T26 S26 h280
                      have A26 := S26.here
                      refine k_iload A26 hx (hb hby at_280) rfl (pc' := 282) rfl ?_
                      refine k_iconst A26 hx (hb hby at_282) (v := 2) rfl (pc' := 283) rfl ?_
                      refine k_icmp_le A26 hx (hb hby at_283) (pcY := 293) (by decide) (pc' := 286) rfl (fun hc283 => ?_) (fun hc283 => ?_)
                      · exact J293_25 T26  (S26.more (by decide) (by decide)) (own_Q1 h280 hc283)
                      · refine k_iload A26 hx (hb hby at_286) rfl (pc' := 288) rfl ?_
                        refine k_iload A26 hx (hb hby at_288) rfl (pc' := 290) rfl ?_
                        refine k_icmp_eq A26 hx (hb hby at_290) (pcY := 319) (by decide) (pc' := 293) rfl (fun hc290 => ?_) (fun hc290 => ?_)
                        · exact J319_22 T26  (S26.more (by decide) (by decide)) (Or.inl (Or.inl (Or.inr ⟨hc283, hc290⟩)))
                        · exact J293_25 T26  (S26.more (by decide) (by decide)) (own_Q2 h280 hc290)
                    have J267_27 : ∀ (T27 : State), St p l e room_1 s m #[(.int xa), (.int xb), (.int xc), (.int xd), (.int xg), (.int sd)] below meth c n0 T27 h17 (((((((0 + 1) + 2) + 2) + 2) + 2) + 2) + 2) (((((((0 + 4) + 20) + 24) + 24) + 24) + 24) + 24) → (¬ (own_Q nn (0 : Int32) c0 (fun _ => False)) qv) → Done p e below (OEnd s room_1 n0 (fun v h => v = some (.int 1))) (T27.setTop (mkF m 267 #[.val (.int xa), .val (.int xb), .val (.int xc), .val (.int xd), .val (.int xg), .val (.int sd), .val (.int mk), .val (.int c0), .val (.int c1), .val (.int c2), .val (.int c3), .val (.int c4), .val (.int nn), .val (.ref b3), .val (.int rm), .val (.int (((sd.toUInt32 >>> ((3 : Int32) &&& 31).toUInt32).toInt32) &&& (7 : Int32))), .val (.int qv), .unset] [])) := by
                      intro T27 S27 h267
                      have A27 := S27.here
                      refine k_iload A27 hx (hb hby at_267) rfl (pc' := 269) rfl ?_
                      refine k_iconst A27 hx (hb hby at_269) (v := 1) rfl (pc' := 270) rfl ?_
                      refine k_icmp_le A27 hx (hb hby at_270) (pcY := 280) (by decide) (pc' := 273) rfl (fun hc270 => ?_) (fun hc270 => ?_)
                      · exact J280_26 T27  (S27.more (by decide) (by decide)) (own_Q1 h267 hc270)
                      · refine k_iload A27 hx (hb hby at_273) rfl (pc' := 275) rfl ?_
                        refine k_iload A27 hx (hb hby at_275) rfl (pc' := 277) rfl ?_
                        refine k_icmp_eq A27 hx (hb hby at_277) (pcY := 319) (by decide) (pc' := 280) rfl (fun hc277 => ?_) (fun hc277 => ?_)
                        · exact J319_22 T27  (S27.more (by decide) (by decide)) (Or.inl (Or.inl (Or.inl (Or.inr ⟨hc270, hc277⟩))))
                        · exact J280_26 T27  (S27.more (by decide) (by decide)) (own_Q2 h267 hc277)
                    refine k_iload A18 hx (hb hby at_255) rfl (pc' := 257) rfl ?_
                    refine k_if_le A18 hx (hb hby at_257) (pcY := 267) (by decide) (pc' := 260) rfl (fun hc257 => ?_) (fun hc257 => ?_)
                    · exact J267_27 T18  (S18.more (by decide) (by decide)) (own_Q1 id hc257)
                    · refine k_iload A18 hx (hb hby at_260) rfl (pc' := 262) rfl ?_
                      refine k_iload A18 hx (hb hby at_262) rfl (pc' := 264) rfl ?_
                      refine k_icmp_eq A18 hx (hb hby at_264) (pcY := 319) (by decide) (pc' := 267) rfl (fun hc264 => ?_) (fun hc264 => ?_)
                      · exact J319_22 T18  (S18.more (by decide) (by decide)) (Or.inl (Or.inl (Or.inl (Or.inl (Or.inr ⟨hc257, hc264⟩)))))
                      · exact J267_27 T18  (S18.more (by decide) (by decide)) (own_Q2 id hc264)
                  refine k_iload A17 hx (hb hby at_181) rfl (pc' := 183) rfl ?_
                  refine k_if_ne A17 hx (hb hby at_183) (pcY := 193) (by decide) (pc' := 186) rfl (fun hc183 => ?_) (fun hc183 => ?_)
                  · refine k_iload A17 hx (hb hby at_193) rfl (pc' := 195) rfl ?_
                    refine k_iconst A17 hx (hb hby at_195) (v := 1) rfl (pc' := 196) rfl ?_
                    refine k_icmp_ne A17 hx (hb hby at_196) (pcY := 206) (by decide) (pc' := 199) rfl (fun hc196 => ?_) (fun hc196 => ?_)
                    · refine k_iload A17 hx (hb hby at_206) rfl (pc' := 208) rfl ?_
                      refine k_iconst A17 hx (hb hby at_208) (v := 2) rfl (pc' := 209) rfl ?_
                      refine k_icmp_ne A17 hx (hb hby at_209) (pcY := 219) (by decide) (pc' := 212) rfl (fun hc209 => ?_) (fun hc209 => ?_)
                      · refine k_iload A17 hx (hb hby at_219) rfl (pc' := 221) rfl ?_
                        refine k_iconst A17 hx (hb hby at_221) (v := 3) rfl (pc' := 222) rfl ?_
                        refine k_icmp_ne A17 hx (hb hby at_222) (pcY := 232) (by decide) (pc' := 225) rfl (fun hc222 => ?_) (fun hc222 => ?_)
                        · refine k_iload A17 hx (hb hby at_232) rfl (pc' := 234) rfl ?_
                          refine k_iconst A17 hx (hb hby at_234) (v := 4) rfl (pc' := 235) rfl ?_
                          refine k_icmp_ne A17 hx (hb hby at_235) (pcY := 245) (by decide) (pc' := 238) rfl (fun hc235 => ?_) (fun hc235 => ?_)
                          · refine k_iload A17 hx (hb hby at_245) rfl (pc' := 247) rfl ?_
                            refine k_bipush A17 hx (hb hby at_247) (v := 8) rfl (pc' := 249) rfl ?_
                            refine k_iushr A17 hx (hb hby at_249) (pc' := 250) rfl ?_
                            refine k_iload A17 hx (hb hby at_250) rfl (pc' := 252) rfl ?_
                            refine k_iand A17 hx (hb hby at_252) (pc' := 253) rfl ?_
                            refine k_istore A17 hx (hb hby at_253) (Ls' := #[.val (.int xa), .val (.int xb), .val (.int xc), .val (.int xd), .val (.int xg), .val (.int sd), .val (.int mk), .val (.int c0), .val (.int c1), .val (.int c2), .val (.int c3), .val (.int c4), .val (.int nn), .val (.ref b3), .val (.int rm), .val (.int (((sd.toUInt32 >>> ((3 : Int32) &&& 31).toUInt32).toInt32) &&& (7 : Int32))), .val (.int (((sd.toUInt32 >>> ((8 : Int32) &&& 31).toUInt32).toInt32) &&& mk)), .unset]) rfl (pc' := 255) rfl ?_
                            exact J255_18 T17 (((sd.toUInt32 >>> ((8 : Int32) &&& 31).toUInt32).toInt32) &&& mk) (S17.more (by decide) (by decide)) (hm _)
                          · refine k_iload A17 hx (hb hby at_238) rfl (pc' := 240) rfl ?_
                            refine k_istore A17 hx (hb hby at_240) (Ls' := #[.val (.int xa), .val (.int xb), .val (.int xc), .val (.int xd), .val (.int xg), .val (.int sd), .val (.int mk), .val (.int c0), .val (.int c1), .val (.int c2), .val (.int c3), .val (.int c4), .val (.int nn), .val (.ref b3), .val (.int rm), .val (.int (((sd.toUInt32 >>> ((3 : Int32) &&& 31).toUInt32).toInt32) &&& (7 : Int32))), .val (.int c4), .unset]) rfl (pc' := 242) rfl ?_
                            refine k_goto A17 hx (hb hby at_242) (pc' := 255) (by decide) ?_
                            exact J255_18 T17 c4 (S17.more (by decide) (by decide)) nc4
                        · refine k_iload A17 hx (hb hby at_225) rfl (pc' := 227) rfl ?_
                          refine k_istore A17 hx (hb hby at_227) (Ls' := #[.val (.int xa), .val (.int xb), .val (.int xc), .val (.int xd), .val (.int xg), .val (.int sd), .val (.int mk), .val (.int c0), .val (.int c1), .val (.int c2), .val (.int c3), .val (.int c4), .val (.int nn), .val (.ref b3), .val (.int rm), .val (.int (((sd.toUInt32 >>> ((3 : Int32) &&& 31).toUInt32).toInt32) &&& (7 : Int32))), .val (.int c3), .unset]) rfl (pc' := 229) rfl ?_
                          refine k_goto A17 hx (hb hby at_229) (pc' := 255) (by decide) ?_
                          exact J255_18 T17 c3 (S17.more (by decide) (by decide)) nc3
                      · refine k_iload A17 hx (hb hby at_212) rfl (pc' := 214) rfl ?_
                        refine k_istore A17 hx (hb hby at_214) (Ls' := #[.val (.int xa), .val (.int xb), .val (.int xc), .val (.int xd), .val (.int xg), .val (.int sd), .val (.int mk), .val (.int c0), .val (.int c1), .val (.int c2), .val (.int c3), .val (.int c4), .val (.int nn), .val (.ref b3), .val (.int rm), .val (.int (((sd.toUInt32 >>> ((3 : Int32) &&& 31).toUInt32).toInt32) &&& (7 : Int32))), .val (.int c2), .unset]) rfl (pc' := 216) rfl ?_
                        refine k_goto A17 hx (hb hby at_216) (pc' := 255) (by decide) ?_
                        exact J255_18 T17 c2 (S17.more (by decide) (by decide)) nc2
                    · refine k_iload A17 hx (hb hby at_199) rfl (pc' := 201) rfl ?_
                      refine k_istore A17 hx (hb hby at_201) (Ls' := #[.val (.int xa), .val (.int xb), .val (.int xc), .val (.int xd), .val (.int xg), .val (.int sd), .val (.int mk), .val (.int c0), .val (.int c1), .val (.int c2), .val (.int c3), .val (.int c4), .val (.int nn), .val (.ref b3), .val (.int rm), .val (.int (((sd.toUInt32 >>> ((3 : Int32) &&& 31).toUInt32).toInt32) &&& (7 : Int32))), .val (.int c1), .unset]) rfl (pc' := 203) rfl ?_
                      refine k_goto A17 hx (hb hby at_203) (pc' := 255) (by decide) ?_
                      exact J255_18 T17 c1 (S17.more (by decide) (by decide)) nc1
                  · refine k_iload A17 hx (hb hby at_186) rfl (pc' := 188) rfl ?_
                    refine k_istore A17 hx (hb hby at_188) (Ls' := #[.val (.int xa), .val (.int xb), .val (.int xc), .val (.int xd), .val (.int xg), .val (.int sd), .val (.int mk), .val (.int c0), .val (.int c1), .val (.int c2), .val (.int c3), .val (.int c4), .val (.int nn), .val (.ref b3), .val (.int rm), .val (.int (((sd.toUInt32 >>> ((3 : Int32) &&& 31).toUInt32).toInt32) &&& (7 : Int32))), .val (.int c0), .unset]) rfl (pc' := 190) rfl ?_
                    refine k_goto A17 hx (hb hby at_190) (pc' := 255) (by decide) ?_
                    exact J255_18 T17 c0 (S17.more (by decide) (by decide)) nc0
                refine k_iload A16 hx (hb hby at_160) rfl (pc' := 162) rfl ?_
                refine k_if_eq A16 hx (hb hby at_162) (pcY := 172) (by decide) (pc' := 165) rfl (fun hc162 => ?_) (fun hc162 => ?_)
                · exact J172_17 T16 h15  (S16.more (by decide) (by decide)) (own_OC_iff (fun y => ⟨fun z => ⟨z, fun u => u.1 hc162⟩, fun z => z.1⟩) (own_OC_of BJ5))
                · refine k_aload A16 hx (hb hby at_165) rfl rfl (pc' := 167) rfl ?_
                  refine k_iload A16 hx (hb hby at_167) rfl (pc' := 169) rfl ?_
                  refine k_call_virtual S16 hx hZ hown (own_OB_E BJ5) (hw _ (List.mem_of_getElem? (i := 46) rfl)) (hw _ (List.mem_of_getElem? (i := 47) rfl)) (hw _ (List.mem_of_getElem? (i := 49) rfl)) (hw _ (List.mem_of_getElem? (i := 48) rfl)) (hw _ (List.mem_of_getElem? (i := 3) rfl)) (hw _ (List.mem_of_getElem? (i := 50) rfl)) (by decide) (own_crem l Z a0 hw b3 c0 h15 n0 k5 (own_Q nn (4 : Int32) c4 (own_Q nn (3 : Int32) c3 (own_Q nn (2 : Int32) c2 (own_Q nn (1 : Int32) c1 (own_Q nn (0 : Int32) c0 (fun _ => False)))))) (by omega) nc0 (Or.inl (Or.inl (Or.inl (Or.inl (Or.inr ⟨hrm.elim (fun z => absurd z hc162) (fun z => z.2), rfl⟩))))) BJ5) 0 (argsL := [(.int c0)]) (rest := []) (by decide) (by decide) (by rw [hml]; rfl) (lenOf own_pd5 rfl) rfl rfl (Nat.le_refl 0) (hb hby at_169) (pc' := 172) rfl (by decide) (by decide) ?_
                  rintro v28 T28 h28 ⟨rfl, OC28⟩ S28
                  have A28 := S28.here
                  show Done p e below _ (T28.setTop (mkF m 172 #[.val (.int xa), .val (.int xb), .val (.int xc), .val (.int xd), .val (.int xg), .val (.int sd), .val (.int mk), .val (.int c0), .val (.int c1), .val (.int c2), .val (.int c3), .val (.int c4), .val (.int nn), .val (.ref b3), .val (.int rm), .unset, .unset, .unset] []))
                  exact J172_17 T28 h28  (S28.more (by decide) (by decide)) (own_OC_iff (fun y => ⟨fun z => ⟨z.1, fun u => z.2 u.2⟩, fun z => ⟨z.1, fun u => z.2 ⟨hc162, u⟩⟩⟩) OC28)
              refine k_iload A15 hx (hb hby at_138) rfl (pc' := 140) rfl ?_
              refine k_if_le A15 hx (hb hby at_140) (pcY := 157) (by decide) (pc' := 143) rfl (fun hc140 => ?_) (fun hc140 => ?_)
              · refine k_iconst A15 hx (hb hby at_157) (v := 0) rfl (pc' := 158) rfl ?_
                exact J158_16 T15 (0 : Int32) (S15.more (by decide) (by decide)) (Or.inl rfl)
              · refine k_iload A15 hx (hb hby at_143) rfl (pc' := 145) rfl ?_
                refine k_bipush A15 hx (hb hby at_145) (v := 6) rfl (pc' := 147) rfl ?_
                refine k_iushr A15 hx (hb hby at_147) (pc' := 148) rfl ?_
                refine k_iconst A15 hx (hb hby at_148) (v := 1) rfl (pc' := 149) rfl ?_
                refine k_iand A15 hx (hb hby at_149) (pc' := 150) rfl ?_
                refine k_if_eq A15 hx (hb hby at_150) (pcY := 157) (by decide) (pc' := 153) rfl (fun hc150 => ?_) (fun hc150 => ?_)
                · refine k_iconst A15 hx (hb hby at_157) (v := 0) rfl (pc' := 158) rfl ?_
                  exact J158_16 T15 (0 : Int32) (S15.more (by decide) (by decide)) (Or.inl rfl)
                · refine k_iconst A15 hx (hb hby at_153) (v := 1) rfl (pc' := 154) rfl ?_
                  refine k_goto A15 hx (hb hby at_154) (pc' := 158) (by decide) ?_
                  exact J158_16 T15 (1 : Int32) (S15.more (by decide) (by decide)) (Or.inr ⟨rfl, hc140⟩)
            refine k_iload A14 hx (hb hby at_124) rfl (pc' := 126) rfl ?_
            refine k_iconst A14 hx (hb hby at_126) (v := 4) rfl (pc' := 127) rfl ?_
            refine k_icmp_le A14 hx (hb hby at_127) (pcY := 138) (by decide) (pc' := 130) rfl (fun hc127 => ?_) (fun hc127 => ?_)
            · exact J138_15 T14 h14 k4 (S14.more (by decide) (by decide)) (own_OB_iff (own_Qn hc127) BJ4) (by omega)
            · refine k_aload A14 hx (hb hby at_130) rfl rfl (pc' := 132) rfl ?_
              refine k_iload A14 hx (hb hby at_132) rfl (pc' := 134) rfl ?_
              refine k_call_virtual S14 hx hZ hown (own_OB_E BJ4) (hw _ (List.mem_of_getElem? (i := 24) rfl)) (hw _ (List.mem_of_getElem? (i := 25) rfl)) (hw _ (List.mem_of_getElem? (i := 27) rfl)) (hw _ (List.mem_of_getElem? (i := 26) rfl)) (hw _ (List.mem_of_getElem? (i := 3) rfl)) (hw _ (List.mem_of_getElem? (i := 28) rfl)) (by decide) (own_cadd l Z a0 hw b3 c4 h14 n0 k4 (own_Q nn (3 : Int32) c3 (own_Q nn (2 : Int32) c2 (own_Q nn (1 : Int32) c1 (own_Q nn (0 : Int32) c0 (fun _ => False))))) (by omega) nc4 BJ4) 0 (argsL := [(.int c4)]) (rest := []) (by decide) (by decide) (by rw [hml]; rfl) (lenOf own_pd4 rfl) rfl rfl (Nat.le_refl 0) (hb hby at_134) (pc' := 137) rfl (by decide) (by decide) ?_
              rintro v29 T29 h29 ⟨r29, rfl, ka29, hka29, B29⟩ S29
              have A29 := S29.here
              show Done p e below _ (T29.setTop (mkF m 137 #[.val (.int xa), .val (.int xb), .val (.int xc), .val (.int xd), .val (.int xg), .val (.int sd), .val (.int mk), .val (.int c0), .val (.int c1), .val (.int c2), .val (.int c3), .val (.int c4), .val (.int nn), .val (.ref b3), .unset, .unset, .unset, .unset] [(.int r29)]))
              refine k_pop A29 hx (hb hby at_137) rfl (pc' := 138) rfl ?_
              exact J138_15 T29 h29 ka29 (S29.more (by decide) (by decide)) (own_OB_iff (own_Qy hc127) B29) (by omega)
          refine k_iload A13 hx (hb hby at_110) rfl (pc' := 112) rfl ?_
          refine k_iconst A13 hx (hb hby at_112) (v := 3) rfl (pc' := 113) rfl ?_
          refine k_icmp_le A13 hx (hb hby at_113) (pcY := 124) (by decide) (pc' := 116) rfl (fun hc113 => ?_) (fun hc113 => ?_)
          · exact J124_14 T13 h13 k3 (S13.more (by decide) (by decide)) (own_OB_iff (own_Qn hc113) BJ3) (by omega)
          · refine k_aload A13 hx (hb hby at_116) rfl rfl (pc' := 118) rfl ?_
            refine k_iload A13 hx (hb hby at_118) rfl (pc' := 120) rfl ?_
            refine k_call_virtual S13 hx hZ hown (own_OB_E BJ3) (hw _ (List.mem_of_getElem? (i := 24) rfl)) (hw _ (List.mem_of_getElem? (i := 25) rfl)) (hw _ (List.mem_of_getElem? (i := 27) rfl)) (hw _ (List.mem_of_getElem? (i := 26) rfl)) (hw _ (List.mem_of_getElem? (i := 3) rfl)) (hw _ (List.mem_of_getElem? (i := 28) rfl)) (by decide) (own_cadd l Z a0 hw b3 c3 h13 n0 k3 (own_Q nn (2 : Int32) c2 (own_Q nn (1 : Int32) c1 (own_Q nn (0 : Int32) c0 (fun _ => False)))) (by omega) nc3 BJ3) 0 (argsL := [(.int c3)]) (rest := []) (by decide) (by decide) (by rw [hml]; rfl) (lenOf own_pd4 rfl) rfl rfl (Nat.le_refl 0) (hb hby at_120) (pc' := 123) rfl (by decide) (by decide) ?_
            rintro v30 T30 h30 ⟨r30, rfl, ka30, hka30, B30⟩ S30
            have A30 := S30.here
            show Done p e below _ (T30.setTop (mkF m 123 #[.val (.int xa), .val (.int xb), .val (.int xc), .val (.int xd), .val (.int xg), .val (.int sd), .val (.int mk), .val (.int c0), .val (.int c1), .val (.int c2), .val (.int c3), .val (.int c4), .val (.int nn), .val (.ref b3), .unset, .unset, .unset, .unset] [(.int r30)]))
            refine k_pop A30 hx (hb hby at_123) rfl (pc' := 124) rfl ?_
            exact J124_14 T30 h30 ka30 (S30.more (by decide) (by decide)) (own_OB_iff (own_Qy hc113) B30) (by omega)
        refine k_iload A12 hx (hb hby at_96) rfl (pc' := 98) rfl ?_
        refine k_iconst A12 hx (hb hby at_98) (v := 2) rfl (pc' := 99) rfl ?_
        refine k_icmp_le A12 hx (hb hby at_99) (pcY := 110) (by decide) (pc' := 102) rfl (fun hc99 => ?_) (fun hc99 => ?_)
        · exact J110_13 T12 h12 k2 (S12.more (by decide) (by decide)) (own_OB_iff (own_Qn hc99) BJ2) (by omega)
        · refine k_aload A12 hx (hb hby at_102) rfl rfl (pc' := 104) rfl ?_
          refine k_iload A12 hx (hb hby at_104) rfl (pc' := 106) rfl ?_
          refine k_call_virtual S12 hx hZ hown (own_OB_E BJ2) (hw _ (List.mem_of_getElem? (i := 24) rfl)) (hw _ (List.mem_of_getElem? (i := 25) rfl)) (hw _ (List.mem_of_getElem? (i := 27) rfl)) (hw _ (List.mem_of_getElem? (i := 26) rfl)) (hw _ (List.mem_of_getElem? (i := 3) rfl)) (hw _ (List.mem_of_getElem? (i := 28) rfl)) (by decide) (own_cadd l Z a0 hw b3 c2 h12 n0 k2 (own_Q nn (1 : Int32) c1 (own_Q nn (0 : Int32) c0 (fun _ => False))) (by omega) nc2 BJ2) 0 (argsL := [(.int c2)]) (rest := []) (by decide) (by decide) (by rw [hml]; rfl) (lenOf own_pd4 rfl) rfl rfl (Nat.le_refl 0) (hb hby at_106) (pc' := 109) rfl (by decide) (by decide) ?_
          rintro v31 T31 h31 ⟨r31, rfl, ka31, hka31, B31⟩ S31
          have A31 := S31.here
          show Done p e below _ (T31.setTop (mkF m 109 #[.val (.int xa), .val (.int xb), .val (.int xc), .val (.int xd), .val (.int xg), .val (.int sd), .val (.int mk), .val (.int c0), .val (.int c1), .val (.int c2), .val (.int c3), .val (.int c4), .val (.int nn), .val (.ref b3), .unset, .unset, .unset, .unset] [(.int r31)]))
          refine k_pop A31 hx (hb hby at_109) rfl (pc' := 110) rfl ?_
          exact J110_13 T31 h31 ka31 (S31.more (by decide) (by decide)) (own_OB_iff (own_Qy hc99) B31) (by omega)
      refine k_iload A11 hx (hb hby at_82) rfl (pc' := 84) rfl ?_
      refine k_iconst A11 hx (hb hby at_84) (v := 1) rfl (pc' := 85) rfl ?_
      refine k_icmp_le A11 hx (hb hby at_85) (pcY := 96) (by decide) (pc' := 88) rfl (fun hc85 => ?_) (fun hc85 => ?_)
      · exact J96_12 T11 h11 k1 (S11.more (by decide) (by decide)) (own_OB_iff (own_Qn hc85) BJ1) (by omega)
      · refine k_aload A11 hx (hb hby at_88) rfl rfl (pc' := 90) rfl ?_
        refine k_iload A11 hx (hb hby at_90) rfl (pc' := 92) rfl ?_
        refine k_call_virtual S11 hx hZ hown (own_OB_E BJ1) (hw _ (List.mem_of_getElem? (i := 24) rfl)) (hw _ (List.mem_of_getElem? (i := 25) rfl)) (hw _ (List.mem_of_getElem? (i := 27) rfl)) (hw _ (List.mem_of_getElem? (i := 26) rfl)) (hw _ (List.mem_of_getElem? (i := 3) rfl)) (hw _ (List.mem_of_getElem? (i := 28) rfl)) (by decide) (own_cadd l Z a0 hw b3 c1 h11 n0 k1 (own_Q nn (0 : Int32) c0 (fun _ => False)) (by omega) nc1 BJ1) 0 (argsL := [(.int c1)]) (rest := []) (by decide) (by decide) (by rw [hml]; rfl) (lenOf own_pd4 rfl) rfl rfl (Nat.le_refl 0) (hb hby at_92) (pc' := 95) rfl (by decide) (by decide) ?_
        rintro v32 T32 h32 ⟨r32, rfl, ka32, hka32, B32⟩ S32
        have A32 := S32.here
        show Done p e below _ (T32.setTop (mkF m 95 #[.val (.int xa), .val (.int xb), .val (.int xc), .val (.int xd), .val (.int xg), .val (.int sd), .val (.int mk), .val (.int c0), .val (.int c1), .val (.int c2), .val (.int c3), .val (.int c4), .val (.int nn), .val (.ref b3), .unset, .unset, .unset, .unset] [(.int r32)]))
        refine k_pop A32 hx (hb hby at_95) rfl (pc' := 96) rfl ?_
        exact J96_12 T32 h32 ka32 (S32.more (by decide) (by decide)) (own_OB_iff (own_Qy hc85) B32) (by omega)
    refine k_iload A10 hx (hb hby at_69) rfl (pc' := 71) rfl ?_
    refine k_if_le A10 hx (hb hby at_71) (pcY := 82) (by decide) (pc' := 74) rfl (fun hc71 => ?_) (fun hc71 => ?_)
    · exact J82_11 T10 h10 0 (S10.more (by decide) (by decide)) (own_OB_iff (own_Qn hc71) B10) (by omega)
    · refine k_aload A10 hx (hb hby at_74) rfl rfl (pc' := 76) rfl ?_
      refine k_iload A10 hx (hb hby at_76) rfl (pc' := 78) rfl ?_
      refine k_call_virtual S10 hx hZ hown (own_OB_E B10) (hw _ (List.mem_of_getElem? (i := 24) rfl)) (hw _ (List.mem_of_getElem? (i := 25) rfl)) (hw _ (List.mem_of_getElem? (i := 27) rfl)) (hw _ (List.mem_of_getElem? (i := 26) rfl)) (hw _ (List.mem_of_getElem? (i := 3) rfl)) (hw _ (List.mem_of_getElem? (i := 28) rfl)) (by decide) (own_cadd l Z a0 hw b3 c0 h10 n0 0 (fun _ => False) (by omega) nc0 B10) 0 (argsL := [(.int c0)]) (rest := []) (by decide) (by decide) (by rw [hml]; rfl) (lenOf own_pd4 rfl) rfl rfl (Nat.le_refl 0) (hb hby at_78) (pc' := 81) rfl (by decide) (by decide) ?_
      rintro v33 T33 h33 ⟨r33, rfl, ka33, hka33, B33⟩ S33
      have A33 := S33.here
      show Done p e below _ (T33.setTop (mkF m 81 #[.val (.int xa), .val (.int xb), .val (.int xc), .val (.int xd), .val (.int xg), .val (.int sd), .val (.int mk), .val (.int c0), .val (.int c1), .val (.int c2), .val (.int c3), .val (.int c4), .val (.int nn), .val (.ref b3), .unset, .unset, .unset, .unset] [(.int r33)]))
      refine k_pop A33 hx (hb hby at_81) rfl (pc' := 82) rfl ?_
      exact J82_11 T33 h33 ka33 (S33.more (by decide) (by decide)) (own_OB_iff (own_Qy hc71) B33) (by omega)
  refine k_iload A0 hx (hb hby at_0) rfl (pc' := 2) rfl ?_
  refine k_bipush A0 hx (hb hby at_2) (v := 7) rfl (pc' := 4) rfl ?_
  refine k_iushr A0 hx (hb hby at_4) (pc' := 5) rfl ?_
  refine k_iconst A0 hx (hb hby at_5) (v := 1) rfl (pc' := 6) rfl ?_
  refine k_iand A0 hx (hb hby at_6) (pc' := 7) rfl ?_
  refine k_if_eq A0 hx (hb hby at_7) (pcY := 15) (by decide) (pc' := 10) rfl (fun hc7 => ?_) (fun hc7 => ?_)
  · refine k_ldcInt S0 hx hZ hown (hw _ (List.mem_of_getElem? (i := 0) rfl)) (hb hby at_15) (pc' := 17) rfl ?_
    exact J17_2 s₁ (2147483647 : Int32) (S0.more (by decide) (by decide)) own_m31
  · refine k_bipush A0 hx (hb hby at_10) (v := 15) rfl (pc' := 12) rfl ?_
    refine k_goto A0 hx (hb hby at_12) (pc' := 17) (by decide) ?_
    exact J17_2 s₁ (15 : Int32) (S0.more (by decide) (by decide)) own_m15
set_option maxRecDepth 65536 in
set_option maxHeartbeats 40000000 in
theorem comes_1 {Post : Tables → Env → Array Value → State → Outcome → State → Prop} (hpost : ∀ tb e args s v u, (limb_1_1.after args s (.returned v) u = true ∧ limb_1_2.after args s (.returned v) u = true ∧ True) → FrameEnd s (.returned v) u (Jvm.fieldLocs frame_1_writes args s ++ Jvm.arrayLocs frame_1_arrays args s ++ Jvm.staticLocs frame_1_statics s) 24 192 → Post tb e args s (.returned v) u) :
    ArmFor flags0 classFile x code maxLocals ret World_1 tables_1 room_1 Calls_1 rest_1 Pre_1 Post := by
  intro l hfl _ _ p e ha hc hk s m args below hf hA hF happ hP
  obtain ⟨hcalls, hrest, hpre⟩ := hP
  obtain ⟨-, -, -, hnamed, -, -, -, hat⟩ := (Spec.applies_iff hf).mp happ
  obtain ⟨hg, hn⟩ := and_e (Cond.before_iff.mp (show (Jvm.Cond.and given_1 narrow_1).before args s = true from hpre))
  obtain ⟨g1, g2⟩ := and_e hg
  obtain ⟨g3, g4⟩ := and_e g2
  obtain ⟨g5, g6⟩ := and_e g4
  obtain ⟨g7, g8⟩ := and_e g6
  obtain ⟨g9, g10⟩ := and_e g8
  obtain ⟨g11, g12⟩ := and_e g10
  obtain ⟨w0, w1, w2, w3, w4, w5, rfl⟩ : ∃ w0 w1 w2 w3 w4 w5 : Value, args = #[w0, w1, w2, w3, w4, w5] := by
    have hs : args.size = 6 := by simpa [Cond.value, given_1] using g1
    obtain ⟨L⟩ := args
    match L, hs with
    | [w0, w1, w2, w3, w4, w5], _ => exact ⟨w0, w1, w2, w3, w4, w5, rfl⟩
  have hw := fun d (hd : d ∈ tables_1) => atoms_spec (ws := Jvm.Cond.code x code maxLocals ret :: tables_1) hat d (List.mem_cons_of_mem _ hd)
  obtain ⟨i0, ei0⟩ := is_v g3
  obtain rfl : w0 = (.int i0) := Option.some.inj ei0
  obtain ⟨i1, ei1⟩ := is_v g5
  obtain rfl : w1 = (.int i1) := Option.some.inj ei1
  obtain ⟨i2, ei2⟩ := is_v g7
  obtain rfl : w2 = (.int i2) := Option.some.inj ei2
  obtain ⟨i3, ei3⟩ := is_v g9
  obtain rfl : w3 = (.int i3) := Option.some.inj ei3
  obtain ⟨i4, ei4⟩ := is_v g11
  obtain rfl : w4 = (.int i4) := Option.some.inj ei4
  obtain ⟨i5, ei5⟩ := is_v g12
  obtain rfl : w5 = (.int i5) := Option.some.inj ei5
  obtain ⟨n, o, h1, h2, h3, _, L, rfl, ⟨rfl, N⟩, hq⟩ := own_law l s _ hw i0 i1 i2 i3 i4 i5 s.heap s.heap.size (Nat.le_refl _) tables_1 p e ha hc hk s m _ below hf ((Spec.applies_iff_loose hf).mp happ).1 ⟨rfl, State.Warmed39.refl s, rfl⟩ trivial
  refine ⟨n, _, h1, h2, h3, hpost _ _ _ _ _ _ ⟨Cond.after_iff.mpr rfl, Cond.after_iff.mpr (eq_i res_at (Term.int_eval (1)) rfl), trivial⟩ ⟨hq.1, hq.2.1, (hq.2.2.sift fun y hy => Or.inr (N y hy)).mono (by decide) (by decide)⟩⟩
theorem main_1_1 : Claimed_1_1 := comes_1 fun _ _ _ _ _ _ h hF => ⟨h.1, hF⟩
theorem main_1_2 : Claimed_1_2 := comes_1 fun _ _ _ _ _ _ h hF => ⟨h.2.1, hF⟩
end Jvm.Pilot.@@N@@
namespace Jvm.Pilot.@@N@@
open Jvm Jvm.ClassFile Sem Op Lib Jvm.Free Jvm.Stand Jvm.Pilot.@@N@@.Jvm.D
/-! MADE BY PROGRAM (witnessworld.py) out of the Statement's table words and the real class files: 12 classes; the members and pool entries that the words name. The judged class is class 1, her method 1. -/
namespace start1
open Jvm.ClassFile
def u (s : String) : CpInfo := .utf8 (stringToUtf16 s)
/-- a pool by its gaps: so many unusable entries, then the entry; so many at the end -/
def gap : Nat → List CpInfo → List CpInfo
  | 0, r => r
  | n + 1, r => .unusable :: gap n r
def poolList (es : List (Nat × CpInfo)) (last : Nat) : List CpInfo := es.foldr (fun e r => gap e.1 (e.2 :: r)) (gap last [])
def pool (es : List (Nat × CpInfo)) (last : Nat) : Array CpInfo := ⟨poolList es last⟩
def fileOf (pool : Array CpInfo) (this : Nat) (attrs : Array Attribute := #[]) (ms : Array MethodInfo := #[]) (fl : Nat := 33) (sup : Nat := 0) (ifs : Array Nat := #[]) (fds : Array FieldInfo := #[]) : ClassFile where
  minorVersion := 0
  majorVersion := 65
  constantPool := pool
  accessFlags := fl
  thisClass := this
  superClass := sup
  interfaces := ifs
  fields := fds
  methods := ms
  attributes := attrs
def plain (name : String) (sup : Option ClassId) : Class where
  name := name
  kind := .ordinary
  loader := none
  accessFlags := 33
  super := sup
  interfaces := #[]
  cf := none
  fields := #[]
  methods := #[]
  instanceTypes := #[]
  staticTypes := #[]
  resolved := #[]
  callSites := []
  init := .initialized
  statics := none
  mirror := none

def pool0 : Array CpInfo := pool [(5, u "<init>"), (0, u "()V"), (1, .class_ 10), (1, u "java/lang/Object")] 113

def k0c0 : Code := { maxStack := 0, maxLocals := 1, code := object_method_1_code, exceptionTable := #[], attributes := #[] }
def k0m0 : Method := { name := "<init>", desc := "()V", sig := { parameters := [], returnType := none }, accessFlags := 1, code := some k0c0 }
/-- java/lang/Object -/
def k0 : Class := { plain "java/lang/Object" none with
  accessFlags := 33
  interfaces := #[]
  cf := some (fileOf pool0 8 #[] #[{ accessFlags := 1, nameIndex := 5, descriptorIndex := 6, attributes := #[] }] 33 0 #[] #[])
  fields := #[]
  methods := #[k0m0]
  instanceTypes := #[]
  staticTypes := #[]
  resolved := Array.replicate 124 none
  statics := none }

def pool1 : Array CpInfo := pool [(2, .class_ 4), (0, .nameAndType 5 6), (0, u "java/lang/Object"), (0, u "<init>"), (0, u "()V"), (0, .integer 2147483647), (0, .class_ 9), (0, u "com/example/entail/entail/tableau/ConceptSet"), (0, .methodref 8 3), (0, .methodref 8 12), (0, .nameAndType 13 14), (0, u "add"), (0, u "(I)Z"), (0, .methodref 8 16), (0, .nameAndType 17 18), (0, u "remove"), (0, u "(I)V"), (0, .methodref 8 20), (0, .nameAndType 21 14), (0, u "contains"), (0, .class_ 23), (0, u "com/example/entail/entail/tableau/ConceptSetContainsPinLaw"), (2, u "law"), (0, u "(IIIIII)Z")] 3

def k1m0 : Method := { name := "<init>", desc := "()V", sig := { parameters := [], returnType := none }, accessFlags := 1, code := none }
def k1c1 : Code := { maxStack := 2, maxLocals := 18, code := code, exceptionTable := #[], attributes := #[] }
def k1m1 : Method := { name := "law", desc := "(IIIIII)Z", sig := { parameters := [.int, .int, .int, .int, .int, .int], returnType := some .boolean }, accessFlags := 9, code := some k1c1 }
/-- com/example/entail/entail/tableau/ConceptSetContainsPinLaw -/
def k1 : Class := { plain "com/example/entail/entail/tableau/ConceptSetContainsPinLaw" (some 0) with
  accessFlags := 49
  interfaces := #[]
  cf := some (fileOf pool1 22 #[] #[{ accessFlags := 1, nameIndex := 5, descriptorIndex := 6, attributes := #[] }, { accessFlags := 9, nameIndex := 26, descriptorIndex := 27, attributes := #[] }] 49 2 #[] #[])
  fields := #[]
  methods := #[k1m0, k1m1]
  instanceTypes := #[]
  staticTypes := #[]
  resolved := Array.replicate 31 none
  statics := none }

def pool2 : Array CpInfo := pool [(1, .methodref 2 3), (0, .class_ 4), (0, .nameAndType 5 6), (0, u "java/lang/Object"), (0, u "<init>"), (0, u "()V"), (0, .fieldref 8 9), (0, .class_ 10), (0, .nameAndType 11 12), (0, u "com/example/entail/entail/tableau/ConceptSet"), (0, u "added"), (0, u "[I"), (0, .methodref 8 14), (0, .nameAndType 15 16), (0, u "emptyTable"), (0, u "(I)[I"), (0, .fieldref 8 18), (0, .nameAndType 19 12), (0, u "table"), (2, .fieldref 8 23), (0, .nameAndType 24 25), (0, u "shift"), (0, u "I"), (0, .methodref 8 27), (0, .nameAndType 28 29), (0, u "slot"), (0, u "(I)I"), (0, .methodref 8 31), (0, .nameAndType 32 33), (0, u "contains"), (0, u "(I)Z"), (0, .fieldref 8 35), (0, .nameAndType 36 25), (0, u "size"), (0, .methodref 38 39), (0, .class_ 40), (0, .nameAndType 41 42), (0, u "java/util/Arrays"), (0, u "copyOf"), (0, u "([II)[I"), (0, .methodref 8 44), (0, .nameAndType 45 46), (0, u "put"), (0, u "(I)V"), (0, .methodref 48 49), (0, .class_ 50), (0, .nameAndType 51 52), (0, u "java/lang/System"), (0, u "arraycopy"), (0, u "(Ljava/lang/Object;ILjava/lang/Object;II)V"), (10, .integer 2654435769), (0, .methodref 38 65), (0, .nameAndType 66 67), (0, u "fill"), (0, u "([II)V"), (0, u "EMPTY"), (5, u "add"), (0, u "remove")] 8

def k2c0 : Code := { maxStack := 2, maxLocals := 1, code := prog_100_method_1_code, exceptionTable := #[], attributes := #[] }
def k2m0 : Method := { name := "<init>", desc := "()V", sig := { parameters := [], returnType := none }, accessFlags := 0, code := some k2c0 }
def k2c1 : Code := { maxStack := 2, maxLocals := 5, code := prog_100_method_2_code, exceptionTable := #[], attributes := #[] }
def k2m1 : Method := { name := "contains", desc := "(I)Z", sig := { parameters := [.int], returnType := some .boolean }, accessFlags := 0, code := some k2c1 }
def k2c2 : Code := { maxStack := 5, maxLocals := 3, code := prog_100_method_3_code, exceptionTable := #[], attributes := #[] }
def k2m2 : Method := { name := "add", desc := "(I)Z", sig := { parameters := [.int], returnType := some .boolean }, accessFlags := 0, code := some k2c2 }
def k2c3 : Code := { maxStack := 6, maxLocals := 7, code := prog_100_method_4_code, exceptionTable := #[], attributes := #[] }
def k2m3 : Method := { name := "remove", desc := "(I)V", sig := { parameters := [.int], returnType := none }, accessFlags := 0, code := some k2c3 }
def k2c4 : Code := { maxStack := 3, maxLocals := 4, code := prog_100_method_9_code, exceptionTable := #[], attributes := #[] }
def k2m4 : Method := { name := "put", desc := "(I)V", sig := { parameters := [.int], returnType := none }, accessFlags := 2, code := some k2c4 }
def k2c5 : Code := { maxStack := 2, maxLocals := 2, code := prog_100_method_10_code, exceptionTable := #[], attributes := #[] }
def k2m5 : Method := { name := "slot", desc := "(I)I", sig := { parameters := [.int], returnType := some .int }, accessFlags := 2, code := some k2c5 }
def k2c6 : Code := { maxStack := 2, maxLocals := 2, code := prog_100_method_11_code, exceptionTable := #[], attributes := #[] }
def k2m6 : Method := { name := "emptyTable", desc := "(I)[I", sig := { parameters := [.int], returnType := some (.array .int) }, accessFlags := 10, code := some k2c6 }
/-- com/example/entail/entail/tableau/ConceptSet -/
def k2 : Class := { plain "com/example/entail/entail/tableau/ConceptSet" (some 0) with
  accessFlags := 32
  interfaces := #[]
  cf := some (fileOf pool2 8 #[] #[{ accessFlags := 0, nameIndex := 5, descriptorIndex := 6, attributes := #[] }, { accessFlags := 0, nameIndex := 32, descriptorIndex := 33, attributes := #[] }, { accessFlags := 0, nameIndex := 74, descriptorIndex := 33, attributes := #[] }, { accessFlags := 0, nameIndex := 75, descriptorIndex := 46, attributes := #[] }, { accessFlags := 2, nameIndex := 45, descriptorIndex := 46, attributes := #[] }, { accessFlags := 2, nameIndex := 28, descriptorIndex := 29, attributes := #[] }, { accessFlags := 10, nameIndex := 15, descriptorIndex := 16, attributes := #[] }] 32 2 #[] #[{ accessFlags := 26, nameIndex := 68, descriptorIndex := 25, attributes := #[] }, { accessFlags := 2, nameIndex := 11, descriptorIndex := 12, attributes := #[] }, { accessFlags := 2, nameIndex := 36, descriptorIndex := 25, attributes := #[] }, { accessFlags := 2, nameIndex := 19, descriptorIndex := 12, attributes := #[] }, { accessFlags := 2, nameIndex := 24, descriptorIndex := 25, attributes := #[] }])
  fields := #[{ name := "EMPTY", type := .int, accessFlags := 26, slot := 0, constantValue := 0 }, { name := "added", type := (.array .int), accessFlags := 2, slot := 0, constantValue := 0 }, { name := "size", type := .int, accessFlags := 2, slot := 1, constantValue := 0 }, { name := "table", type := (.array .int), accessFlags := 2, slot := 2, constantValue := 0 }, { name := "shift", type := .int, accessFlags := 2, slot := 3, constantValue := 0 }]
  methods := #[k2m0, k2m1, k2m2, k2m3, k2m4, k2m5, k2m6]
  instanceTypes := #[(.array .int), .int, (.array .int), .int]
  staticTypes := #[.int]
  resolved := Array.replicate 84 none
  statics := none }

def pool3 : Array CpInfo := pool [(2, .class_ 4), (1, u "java/lang/Object"), (0, u "<init>"), (0, u "()V"), (7, .class_ 16), (1, u "java/util/Arrays"), (57, .class_ 76), (1, u "java/util/Arrays$NaturalOrder"), (36, .class_ 115), (1, u "java/util/Arrays$LegacyMergeSort"), (1, u "Z"), (32, .methodref 151 152), (0, .class_ 153), (0, .nameAndType 154 155), (0, u "java/lang/System"), (0, u "arraycopy"), (0, u "(Ljava/lang/Object;ILjava/lang/Object;II)V"), (146, u "copyOf"), (1, .methodref 305 306), (0, .class_ 307), (0, .nameAndType 308 309), (0, u "java/lang/Math"), (0, u "min"), (0, u "(II)I"), (65, .class_ 376), (0, u "java/util/Arrays$ArrayList"), (68, u "$assertionsDisabled"), (269, u "MIN_ARRAY_SORT_GRAN"), (0, u "I"), (2, u "INSERTIONSORT_THRESHOLD"), (120, u "fill"), (4, u "([II)V"), (25, u "([II)[I"), (103, .class_ 976), (0, u "java/util/Arrays$ArrayItr")] 52

def k3m0 : Method := { name := "<init>", desc := "()V", sig := { parameters := [], returnType := none }, accessFlags := 2, code := none }
def k3c1 : Code := { maxStack := 3, maxLocals := 4, code := jdk_65_method_103_code, exceptionTable := #[], attributes := #[] }
def k3m1 : Method := { name := "fill", desc := "([II)V", sig := { parameters := [(.array .int), .int], returnType := none }, accessFlags := 9, code := some k3c1 }
def k3c2 : Code := { maxStack := 6, maxLocals := 3, code := jdk_65_method_123_code, exceptionTable := #[], attributes := #[] }
def k3m2 : Method := { name := "copyOf", desc := "([II)[I", sig := { parameters := [(.array .int), .int], returnType := some (.array .int) }, accessFlags := 9, code := some k3c2 }
/-- java/util/Arrays -/
def k3 : Class := { plain "java/util/Arrays" (some 0) with
  accessFlags := 49
  interfaces := #[]
  cf := some (fileOf pool3 14 #[.nestMembers #[975, 375, 113, 74]] #[{ accessFlags := 2, nameIndex := 5, descriptorIndex := 6, attributes := #[] }, { accessFlags := 9, nameIndex := 840, descriptorIndex := 845, attributes := #[] }, { accessFlags := 9, nameIndex := 302, descriptorIndex := 871, attributes := #[] }] 49 2 #[] #[{ accessFlags := 26, nameIndex := 715, descriptorIndex := 716, attributes := #[] }, { accessFlags := 26, nameIndex := 719, descriptorIndex := 716, attributes := #[] }, { accessFlags := 4120, nameIndex := 445, descriptorIndex := 117, attributes := #[] }])
  fields := #[{ name := "MIN_ARRAY_SORT_GRAN", type := .int, accessFlags := 26, slot := 0, constantValue := 0 }, { name := "INSERTIONSORT_THRESHOLD", type := .int, accessFlags := 26, slot := 1, constantValue := 0 }, { name := "$assertionsDisabled", type := .boolean, accessFlags := 4120, slot := 2, constantValue := 0 }]
  methods := #[k3m0, k3m1, k3m2]
  instanceTypes := #[]
  staticTypes := #[.int, .int, .boolean]
  resolved := Array.replicate 1029 none
  statics := none }

def pool4 : Array CpInfo := pool [(2, .class_ 4), (1, u "java/lang/Object"), (0, u "<init>"), (0, u "()V"), (1, .class_ 10), (1, u "java/lang/System"), (0, u "allowSecurityManager"), (0, u "I"), (16, u "cons"), (0, u "Ljava/io/Console;"), (77, .class_ 110), (1, u "java/lang/System$CallersHolder"), (43, u "initialErrStream"), (0, u "Ljava/io/PrintStream;"), (19, u "security"), (0, u "Ljava/lang/SecurityManager;"), (31, .class_ 209), (0, u "java/lang/System$1"), (7, u "props"), (0, u "Ljava/util/Properties;"), (2, u "lineSeparator"), (0, u "Ljava/lang/String;"), (96, .class_ 321), (1, u "java/lang/System$LoggerFinder"), (5, .class_ 328), (0, u "java/lang/System$Logger"), (67, u "err"), (2, u "out"), (91, u "notSupportedJnuEncoding"), (15, u "in"), (17, u "initialIn"), (0, u "Ljava/io/InputStream;"), (35, u "bootLayer"), (0, u "Ljava/lang/ModuleLayer;"), (99, .class_ 664), (0, u "java/lang/System$2"), (9, u "NEVER"), (2, u "MAYBE"), (49, u "arraycopy"), (0, u "(Ljava/lang/Object;ILjava/lang/Object;II)V"), (72, .class_ 802), (0, u "java/lang/System$Logger$Level")] 31

def k4m0 : Method := { name := "<init>", desc := "()V", sig := { parameters := [], returnType := none }, accessFlags := 2, code := none }
def k4m1 : Method := { name := "arraycopy", desc := "(Ljava/lang/Object;ILjava/lang/Object;II)V", sig := { parameters := [(.object "java/lang/Object"), .int, (.object "java/lang/Object"), .int, .int], returnType := none }, accessFlags := 265, code := none }
/-- java/lang/System -/
def k4 : Class := { plain "java/lang/System" (some 0) with
  accessFlags := 49
  interfaces := #[]
  cf := some (fileOf pool4 8 #[.nestMembers #[319, 327, 801, 108, 663, 208]] #[{ accessFlags := 2, nameIndex := 5, descriptorIndex := 6, attributes := #[] }, { accessFlags := 265, nameIndex := 727, descriptorIndex := 728, attributes := #[] }] 49 2 #[] #[{ accessFlags := 25, nameIndex := 507, descriptorIndex := 526, attributes := #[] }, { accessFlags := 25, nameIndex := 399, descriptorIndex := 155, attributes := #[] }, { accessFlags := 25, nameIndex := 396, descriptorIndex := 155, attributes := #[] }, { accessFlags := 10, nameIndex := 525, descriptorIndex := 526, attributes := #[] }, { accessFlags := 26, nameIndex := 674, descriptorIndex := 12, attributes := #[] }, { accessFlags := 26, nameIndex := 677, descriptorIndex := 12, attributes := #[] }, { accessFlags := 10, nameIndex := 11, descriptorIndex := 12, attributes := #[] }, { accessFlags := 74, nameIndex := 175, descriptorIndex := 176, attributes := #[] }, { accessFlags := 10, nameIndex := 491, descriptorIndex := 222, attributes := #[] }, { accessFlags := 74, nameIndex := 29, descriptorIndex := 30, attributes := #[] }, { accessFlags := 74, nameIndex := 154, descriptorIndex := 155, attributes := #[] }, { accessFlags := 10, nameIndex := 217, descriptorIndex := 218, attributes := #[] }, { accessFlags := 10, nameIndex := 221, descriptorIndex := 222, attributes := #[] }, { accessFlags := 8, nameIndex := 562, descriptorIndex := 563, attributes := #[] }])
  fields := #[{ name := "in", type := (.object "java/io/InputStream"), accessFlags := 25, slot := 0, constantValue := 0 }, { name := "out", type := (.object "java/io/PrintStream"), accessFlags := 25, slot := 1, constantValue := 0 }, { name := "err", type := (.object "java/io/PrintStream"), accessFlags := 25, slot := 2, constantValue := 0 }, { name := "initialIn", type := (.object "java/io/InputStream"), accessFlags := 10, slot := 3, constantValue := 0 }, { name := "NEVER", type := .int, accessFlags := 26, slot := 4, constantValue := 0 }, { name := "MAYBE", type := .int, accessFlags := 26, slot := 5, constantValue := 0 }, { name := "allowSecurityManager", type := .int, accessFlags := 10, slot := 6, constantValue := 0 }, { name := "security", type := (.object "java/lang/SecurityManager"), accessFlags := 74, slot := 7, constantValue := 0 }, { name := "notSupportedJnuEncoding", type := (.object "java/lang/String"), accessFlags := 10, slot := 8, constantValue := 0 }, { name := "cons", type := (.object "java/io/Console"), accessFlags := 74, slot := 9, constantValue := 0 }, { name := "initialErrStream", type := (.object "java/io/PrintStream"), accessFlags := 74, slot := 10, constantValue := 0 }, { name := "props", type := (.object "java/util/Properties"), accessFlags := 10, slot := 11, constantValue := 0 }, { name := "lineSeparator", type := (.object "java/lang/String"), accessFlags := 10, slot := 12, constantValue := 0 }, { name := "bootLayer", type := (.object "java/lang/ModuleLayer"), accessFlags := 8, slot := 13, constantValue := 0 }]
  methods := #[k4m0, k4m1]
  instanceTypes := #[]
  staticTypes := #[(.object "java/io/InputStream"), (.object "java/io/PrintStream"), (.object "java/io/PrintStream"), (.object "java/io/InputStream"), .int, .int, .int, (.object "java/lang/SecurityManager"), (.object "java/lang/String"), (.object "java/io/Console"), (.object "java/io/PrintStream"), (.object "java/util/Properties"), (.object "java/lang/String"), (.object "java/lang/ModuleLayer")]
  resolved := Array.replicate 834 none
  statics := none }

def pool5 : Array CpInfo := pool [(1, .class_ 2), (0, u "java/lang/Math"), (1, .class_ 6), (1, u "java/lang/Object"), (0, u "<init>"), (0, u "()V"), (89, .class_ 100), (1, u "java/lang/Math$RandomNumberGeneratorHolder"), (71, u "negativeZeroFloatBits"), (0, u "J"), (2, u "negativeZeroDoubleBits"), (24, u "min"), (43, u "$assertionsDisabled"), (0, u "Z"), (88, u "(II)I"), (2, u "twoToTheDoubleScaleDown"), (0, u "D"), (4, u "twoToTheDoubleScaleUp"), (9, u "E"), (3, u "PI"), (2, u "TAU"), (2, u "DEGREES_TO_RADIANS"), (0, u "RADIANS_TO_DEGREES")] 94

def k5m0 : Method := { name := "<init>", desc := "()V", sig := { parameters := [], returnType := none }, accessFlags := 2, code := none }
def k5c1 : Code := { maxStack := 2, maxLocals := 2, code := jdk_29_method_69_code, exceptionTable := #[], attributes := #[] }
def k5m1 : Method := { name := "min", desc := "(II)I", sig := { parameters := [.int, .int], returnType := some .int }, accessFlags := 9, code := some k5c1 }
/-- java/lang/Math -/
def k5 : Class := { plain "java/lang/Math" (some 0) with
  accessFlags := 49
  interfaces := #[]
  cf := some (fileOf pool5 1 #[.nestMembers #[98]] #[{ accessFlags := 2, nameIndex := 7, descriptorIndex := 8, attributes := #[] }, { accessFlags := 9, nameIndex := 201, descriptorIndex := 335, attributes := #[] }] 49 4 #[] #[{ accessFlags := 25, nameIndex := 354, descriptorIndex := 339, attributes := #[] }, { accessFlags := 25, nameIndex := 358, descriptorIndex := 339, attributes := #[] }, { accessFlags := 25, nameIndex := 361, descriptorIndex := 339, attributes := #[] }, { accessFlags := 26, nameIndex := 364, descriptorIndex := 339, attributes := #[] }, { accessFlags := 26, nameIndex := 365, descriptorIndex := 339, attributes := #[] }, { accessFlags := 26, nameIndex := 172, descriptorIndex := 173, attributes := #[] }, { accessFlags := 26, nameIndex := 176, descriptorIndex := 173, attributes := #[] }, { accessFlags := 8, nameIndex := 344, descriptorIndex := 339, attributes := #[] }, { accessFlags := 8, nameIndex := 338, descriptorIndex := 339, attributes := #[] }, { accessFlags := 4120, nameIndex := 245, descriptorIndex := 246, attributes := #[] }])
  fields := #[{ name := "E", type := .double, accessFlags := 25, slot := 0, constantValue := 0 }, { name := "PI", type := .double, accessFlags := 25, slot := 1, constantValue := 0 }, { name := "TAU", type := .double, accessFlags := 25, slot := 2, constantValue := 0 }, { name := "DEGREES_TO_RADIANS", type := .double, accessFlags := 26, slot := 3, constantValue := 0 }, { name := "RADIANS_TO_DEGREES", type := .double, accessFlags := 26, slot := 4, constantValue := 0 }, { name := "negativeZeroFloatBits", type := .long, accessFlags := 26, slot := 5, constantValue := 0 }, { name := "negativeZeroDoubleBits", type := .long, accessFlags := 26, slot := 6, constantValue := 0 }, { name := "twoToTheDoubleScaleUp", type := .double, accessFlags := 8, slot := 7, constantValue := 0 }, { name := "twoToTheDoubleScaleDown", type := .double, accessFlags := 8, slot := 8, constantValue := 0 }, { name := "$assertionsDisabled", type := .boolean, accessFlags := 4120, slot := 9, constantValue := 0 }]
  methods := #[k5m0, k5m1]
  instanceTypes := #[]
  staticTypes := #[.double, .double, .double, .double, .double, .long, .long, .double, .double, .boolean]
  resolved := Array.replicate 460 none
  statics := none }

def pool6 : Array CpInfo := pool [(1, u "java/lang/Cloneable"), (0, .class_ 1), (0, u "java/lang/Object"), (0, .class_ 3)] 3

/-- java/lang/Cloneable -/
def k6 : Class := { plain "java/lang/Cloneable" (some 0) with
  accessFlags := 1537
  interfaces := #[]
  cf := some (fileOf pool6 2 #[] #[] 1537 4 #[] #[])
  fields := #[]
  methods := #[]
  instanceTypes := #[]
  staticTypes := #[]
  resolved := Array.replicate 8 none
  statics := none }

def pool7 : Array CpInfo := pool [(1, u "java/io/Serializable"), (0, .class_ 1), (0, u "java/lang/Object"), (0, .class_ 3)] 3

/-- java/io/Serializable -/
def k7 : Class := { plain "java/io/Serializable" (some 0) with
  accessFlags := 1537
  interfaces := #[]
  cf := some (fileOf pool7 2 #[] #[] 1537 4 #[] #[])
  fields := #[]
  methods := #[]
  instanceTypes := #[]
  staticTypes := #[]
  resolved := Array.replicate 8 none
  statics := none }

/-- the primitive byte -/
def k8 : Class := { plain "byte" none with kind := .primitive 'B', accessFlags := 0x411 }
/-- [B -/
def k9 : Class := { plain "[B" (some 0) with kind := .array 8 .byte, interfaces := #[6, 7], accessFlags := 1041 }

/-- the primitive int -/
def k10 : Class := { plain "int" none with kind := .primitive 'I', accessFlags := 0x411 }
/-- [I -/
def k11 : Class := { plain "[I" (some 0) with kind := .array 10 .int, interfaces := #[6, 7], accessFlags := 1041 }

def heap : Heap := #[]
def classes : Array Class := #[k0, k1, k2, k3, k4, k5, k6, k7, k8, k9, k10, k11]
def interned : List (Array UInt16 × Addr) := []
def slotsUsed : Nat := 0
def theMethod : MethodId := ⟨1, 1⟩
def args0 : Array Value := #[.int 1, .int 2, .int 3, .int 4, .int 5, .int 5]
def aboutOver (below : List Frame) : State where
  vm := { classes := classes, interned := interned.toArray }
  heap := heap
  slotsUsed := slotsUsed
  threads := #[{ frames := .invoking theMethod args0 :: below }]
def below0 : List Frame := [.native { method := ⟨0, 0⟩, args := #[] }]
def about1 : State := aboutOver below0
def p0 : Program := .bare "" "" ""
def e0 : Env := launch0.env 0 0 0
theorem w_frames : about1.frames = Frame.invoking theMethod args0 :: below0 := rfl
set_option maxRecDepth 65536 in
theorem w_args : argsFit about1.vm theMethod args0 = true := by decide +kernel
set_option maxRecDepth 65536 in
theorem w_heap : heapFits about1 = true := by decide +kernel
set_option maxRecDepth 65536 in
theorem w_runnable : about1.curStatus? = some .runnable := by decide +kernel
set_option maxRecDepth 65536 in
theorem w_alone : about1.alone = true := by decide +kernel
set_option maxRecDepth 65536 in
theorem w_named : about1.methodNamed? x = some theMethod := by decide +kernel
set_option maxRecDepth 65536 in
theorem w_hears : about1.hears theMethod below0 = true := by decide +kernel
set_option maxRecDepth 65536 in
theorem w_ripe : about1.ripe theMethod args0 below0 = true := by decide +kernel
theorem w_running : about1.status = .running := rfl
set_option maxRecDepth 65536 in
theorem w_room : about1.hasRoom e0.platform room_1 = true :=
  launch0.hasRoom_least _ room_1 (by decide +kernel) (by decide +kernel) (by decide +kernel) (by decide +kernel) (by decide +kernel) (by decide +kernel)
theorem allAtoms_all (ts : List Jvm.Cond) (a : Array Jvm.Value) (st : Jvm.State) : (allAtoms ts).before a st = ts.all (fun c => c.before a st) := by
  induction ts with
  | nil => rfl
  | cons c t ih =>
    show (Jvm.Cond.and c (allAtoms t)).before a st = _
    rw [Jvm.Cond.before_and, ih, List.all_cons]
def words1 : List Jvm.Cond := Jvm.Cond.code x code maxLocals ret :: tables_1
/-- a 'code' word, met by the world's own term for the bytes: nothing is compared byte by byte -/
theorem code_word {y : MethodName} {bytes : ByteArray} {mx : Nat} {rt : Option FieldType} {a : Array Value} {s : State} {m : MethodId} {meth : Method} {c : Code} (h1 : s.methodNamed? y = some m) (h2 : s.vm.method? m = some meth) (h3 : meth.code = some c) (h4 : c.code = bytes)
    (h5 : (c.maxLocals == mx && c.exceptionTable.isEmpty && decide (c.maxStack ≤ mostOperands) && decide (meth.sig.returnType = rt) && !meth.locks && decide (parseMethodDescriptor y.desc = some meth.sig)) = true) : (Jvm.Cond.code y bytes mx rt).before a s = true := by
  simp only [Bool.and_eq_true, beq_iff_eq, Bool.not_eq_true', decide_eq_true_eq] at h5
  obtain ⟨⟨⟨⟨⟨g1, g2⟩, g3⟩, g4⟩, g5⟩, g6⟩ := h5
  simp [Cond.before, Cond.holds, Cond.value, h1, h2, h3, h4, g1, g2, g3, g4, g5, g6]
def isCode : Jvm.Cond → Bool
  | .code _ _ _ _ => true
  | _ => false
theorem all_split {L : List Jvm.Cond} {P : Jvm.Cond → Bool} (h1 : L.all (fun c => isCode c || P c) = true) (h2 : ∀ c ∈ L.filter isCode, P c = true) : L.all P = true := by
  refine List.all_eq_true.mpr fun c hc => ?_
  have h := List.all_eq_true.mp h1 c hc
  rcases Bool.eq_false_or_eq_true (isCode c) with hi | hi
  · exact h2 c (List.mem_filter.mpr ⟨hc, hi⟩)
  · simpa [hi] using h
set_option maxRecDepth 65536 in
theorem w_c0 : (Jvm.Cond.code x code maxLocals ret).before args0 about1 = true := code_word (m := ⟨1, 1⟩) (meth := k1m1) (c := k1c1) (by decide +kernel) rfl rfl rfl (by decide +kernel)
set_option maxRecDepth 65536 in
theorem w_c1 : (Jvm.Cond.code ({ cls := "com/example/entail/entail/tableau/ConceptSet", name := "<init>", desc := "()V" } : Jvm.MethodName) prog_100_method_1_code (1 : Nat) (Option.none : Option Jvm.ClassFile.FieldType)).before args0 about1 = true := code_word (m := ⟨2, 0⟩) (meth := k2m0) (c := k2c0) (by decide +kernel) rfl rfl rfl (by decide +kernel)
set_option maxRecDepth 65536 in
theorem w_c2 : (Jvm.Cond.code ({ cls := "java/lang/Object", name := "<init>", desc := "()V" } : Jvm.MethodName) object_method_1_code (1 : Nat) (Option.none : Option Jvm.ClassFile.FieldType)).before args0 about1 = true := code_word (m := ⟨0, 0⟩) (meth := k0m0) (c := k0c0) (by decide +kernel) rfl rfl rfl (by decide +kernel)
set_option maxRecDepth 65536 in
theorem w_c3 : (Jvm.Cond.code ({ cls := "com/example/entail/entail/tableau/ConceptSet", name := "emptyTable", desc := "(I)[I" } : Jvm.MethodName) prog_100_method_11_code (2 : Nat) (Option.some (Jvm.ClassFile.FieldType.array Jvm.ClassFile.FieldType.int))).before args0 about1 = true := code_word (m := ⟨2, 6⟩) (meth := k2m6) (c := k2c6) (by decide +kernel) rfl rfl rfl (by decide +kernel)
set_option maxRecDepth 65536 in
theorem w_c4 : (Jvm.Cond.code ({ cls := "java/util/Arrays", name := "fill", desc := "([II)V" } : Jvm.MethodName) jdk_65_method_103_code (4 : Nat) (Option.none : Option Jvm.ClassFile.FieldType)).before args0 about1 = true := code_word (m := ⟨3, 1⟩) (meth := k3m1) (c := k3c1) (by decide +kernel) rfl rfl rfl (by decide +kernel)
set_option maxRecDepth 65536 in
theorem w_c5 : (Jvm.Cond.code ({ cls := "com/example/entail/entail/tableau/ConceptSet", name := "add", desc := "(I)Z" } : Jvm.MethodName) prog_100_method_3_code (3 : Nat) (Option.some Jvm.ClassFile.FieldType.boolean)).before args0 about1 = true := code_word (m := ⟨2, 2⟩) (meth := k2m2) (c := k2c2) (by decide +kernel) rfl rfl rfl (by decide +kernel)
set_option maxRecDepth 65536 in
theorem w_c6 : (Jvm.Cond.code ({ cls := "com/example/entail/entail/tableau/ConceptSet", name := "contains", desc := "(I)Z" } : Jvm.MethodName) prog_100_method_2_code (5 : Nat) (Option.some Jvm.ClassFile.FieldType.boolean)).before args0 about1 = true := code_word (m := ⟨2, 1⟩) (meth := k2m1) (c := k2c1) (by decide +kernel) rfl rfl rfl (by decide +kernel)
set_option maxRecDepth 65536 in
theorem w_c7 : (Jvm.Cond.code ({ cls := "com/example/entail/entail/tableau/ConceptSet", name := "slot", desc := "(I)I" } : Jvm.MethodName) prog_100_method_10_code (2 : Nat) (Option.some Jvm.ClassFile.FieldType.int)).before args0 about1 = true := code_word (m := ⟨2, 5⟩) (meth := k2m5) (c := k2c5) (by decide +kernel) rfl rfl rfl (by decide +kernel)
set_option maxRecDepth 65536 in
theorem w_c8 : (Jvm.Cond.code ({ cls := "com/example/entail/entail/tableau/ConceptSet", name := "put", desc := "(I)V" } : Jvm.MethodName) prog_100_method_9_code (4 : Nat) (Option.none : Option Jvm.ClassFile.FieldType)).before args0 about1 = true := code_word (m := ⟨2, 4⟩) (meth := k2m4) (c := k2c4) (by decide +kernel) rfl rfl rfl (by decide +kernel)
set_option maxRecDepth 65536 in
theorem w_c9 : (Jvm.Cond.code ({ cls := "com/example/entail/entail/tableau/ConceptSet", name := "remove", desc := "(I)V" } : Jvm.MethodName) prog_100_method_4_code (7 : Nat) (Option.none : Option Jvm.ClassFile.FieldType)).before args0 about1 = true := code_word (m := ⟨2, 3⟩) (meth := k2m3) (c := k2c3) (by decide +kernel) rfl rfl rfl (by decide +kernel)
set_option maxRecDepth 65536 in
theorem w_c10 : (Jvm.Cond.code ({ cls := "java/util/Arrays", name := "copyOf", desc := "([II)[I" } : Jvm.MethodName) jdk_65_method_123_code (3 : Nat) (Option.some (Jvm.ClassFile.FieldType.array Jvm.ClassFile.FieldType.int))).before args0 about1 = true := code_word (m := ⟨3, 2⟩) (meth := k3m2) (c := k3c2) (by decide +kernel) rfl rfl rfl (by decide +kernel)
set_option maxRecDepth 65536 in
theorem w_c11 : (Jvm.Cond.code ({ cls := "java/lang/Math", name := "min", desc := "(II)I" } : Jvm.MethodName) jdk_29_method_69_code (2 : Nat) (Option.some Jvm.ClassFile.FieldType.int)).before args0 about1 = true := code_word (m := ⟨5, 1⟩) (meth := k5m1) (c := k5c1) (by decide +kernel) rfl rfl rfl (by decide +kernel)
def codes1 : List Jvm.Cond := [Jvm.Cond.code x code maxLocals ret, Jvm.Cond.code ({ cls := "com/example/entail/entail/tableau/ConceptSet", name := "<init>", desc := "()V" } : Jvm.MethodName) prog_100_method_1_code (1 : Nat) (Option.none : Option Jvm.ClassFile.FieldType), Jvm.Cond.code ({ cls := "java/lang/Object", name := "<init>", desc := "()V" } : Jvm.MethodName) object_method_1_code (1 : Nat) (Option.none : Option Jvm.ClassFile.FieldType), Jvm.Cond.code ({ cls := "com/example/entail/entail/tableau/ConceptSet", name := "emptyTable", desc := "(I)[I" } : Jvm.MethodName) prog_100_method_11_code (2 : Nat) (Option.some (Jvm.ClassFile.FieldType.array Jvm.ClassFile.FieldType.int)), Jvm.Cond.code ({ cls := "java/util/Arrays", name := "fill", desc := "([II)V" } : Jvm.MethodName) jdk_65_method_103_code (4 : Nat) (Option.none : Option Jvm.ClassFile.FieldType), Jvm.Cond.code ({ cls := "com/example/entail/entail/tableau/ConceptSet", name := "add", desc := "(I)Z" } : Jvm.MethodName) prog_100_method_3_code (3 : Nat) (Option.some Jvm.ClassFile.FieldType.boolean), Jvm.Cond.code ({ cls := "com/example/entail/entail/tableau/ConceptSet", name := "contains", desc := "(I)Z" } : Jvm.MethodName) prog_100_method_2_code (5 : Nat) (Option.some Jvm.ClassFile.FieldType.boolean), Jvm.Cond.code ({ cls := "com/example/entail/entail/tableau/ConceptSet", name := "slot", desc := "(I)I" } : Jvm.MethodName) prog_100_method_10_code (2 : Nat) (Option.some Jvm.ClassFile.FieldType.int), Jvm.Cond.code ({ cls := "com/example/entail/entail/tableau/ConceptSet", name := "put", desc := "(I)V" } : Jvm.MethodName) prog_100_method_9_code (4 : Nat) (Option.none : Option Jvm.ClassFile.FieldType), Jvm.Cond.code ({ cls := "com/example/entail/entail/tableau/ConceptSet", name := "remove", desc := "(I)V" } : Jvm.MethodName) prog_100_method_4_code (7 : Nat) (Option.none : Option Jvm.ClassFile.FieldType), Jvm.Cond.code ({ cls := "java/util/Arrays", name := "copyOf", desc := "([II)[I" } : Jvm.MethodName) jdk_65_method_123_code (3 : Nat) (Option.some (Jvm.ClassFile.FieldType.array Jvm.ClassFile.FieldType.int)), Jvm.Cond.code ({ cls := "java/lang/Math", name := "min", desc := "(II)I" } : Jvm.MethodName) jdk_29_method_69_code (2 : Nat) (Option.some Jvm.ClassFile.FieldType.int)]
set_option maxRecDepth 65536 in
theorem codes_eq : words1.filter isCode = codes1 := rfl
theorem w_codes : ∀ c ∈ words1.filter isCode, c.before args0 about1 = true := by
  rw [codes_eq]
  intro c hc
  simp only [codes1, List.mem_cons, List.not_mem_nil, or_false] at hc
  rcases hc with rfl | rfl | rfl | rfl | rfl | rfl | rfl | rfl | rfl | rfl | rfl | rfl
  · exact w_c0
  · exact w_c1
  · exact w_c2
  · exact w_c3
  · exact w_c4
  · exact w_c5
  · exact w_c6
  · exact w_c7
  · exact w_c8
  · exact w_c9
  · exact w_c10
  · exact w_c11
set_option maxRecDepth 65536 in
theorem w_t1 : (words1.take 24).all (fun c => isCode c || c.before args0 about1) = true := by decide +kernel
set_option maxRecDepth 65536 in
theorem w_t2 : ((words1.drop 24).take 24).all (fun c => isCode c || c.before args0 about1) = true := by decide +kernel
set_option maxRecDepth 65536 in
theorem w_t3 : ((words1.drop 24).drop 24).all (fun c => isCode c || c.before args0 about1) = true := by decide +kernel
theorem w_tables : (allAtoms (Jvm.Cond.code x code maxLocals ret :: tables_1)).before args0 about1 = true := by
  rw [allAtoms_all]
  show words1.all (fun c => c.before args0 about1) = true
  refine all_split ?_ w_codes
  rw [← List.take_append_drop 24 words1, List.all_append, w_t1, ← List.take_append_drop 24 (words1.drop 24), List.all_append, w_t2, w_t3]
  rfl
set_option maxRecDepth 65536 in
theorem w_case : (Jvm.Cond.and given_1 narrow_1).before args0 about1 = true := by decide +kernel
theorem w_applies : (headSpec (Jvm.Cond.code x code maxLocals ret :: tables_1) room_1).applies x e0.platform about1 = true :=
  (Spec.applies_iff w_frames).mpr ⟨w_running, w_runnable, w_alone, w_named, w_hears, w_ripe, w_room, w_tables⟩
theorem atStart : AtStart classFile x code maxLocals ret World_1 tables_1 room_1 Calls_1 rest_1 Pre_1 launch0 p0 e0 about1 theMethod args0 below0 :=
  ⟨lists_1, trivial, launch0.admits_env _ _ _, launch0.least_env, fairChoices_fair.cas, fairChoices_fair.clock, w_frames, w_args, w_heap, w_applies, trivial, trivial, w_case⟩
end start1
theorem witness_1 : WitnessClaimed_1 := ⟨start1.p0, start1.e0, start1.about1, start1.theMethod, start1.args0, start1.below0, start1.atStart⟩
end Jvm.Pilot.@@N@@
