import JvmDerived
import JvmDerived.Pilot.@@N@@Statement
import JvmDerived.Pilot.@@N@@Code
set_option linter.unusedVariables false
set_option linter.unusedSimpArgs false
namespace Jvm.OwnKit
open Sem ClassFile Op Lib Jvm.Stand Jvm.Free Jvm.LawKit Jvm.RoadKit
/-! My own layer: a walk forward. Done G S: from the state S the invocation comes to its end, and G holds there. -/
def Done (p : Program) (e : Env) (below : List Frame) (G : Outcome → State → Prop) (S : State) : Prop :=
  ∃ s₂ o, Steps p.tables e below S s₂ ∧ s₂.status = .running ∧ Ended s₂ below o ∧ G o s₂
/-- what a contract promises at the end: the value, the heap; all that was written lies at or above n0 -/
def OEnd (s : State) (R : Room) (n0 : Nat) (Q : Option Value → Heap → Prop) (o : Outcome) (U : State) : Prop :=
  ∃ v L, o = .returned v ∧ (Q v U.heap ∧ Fr n0 L) ∧ FrameEnd s o U L R.cells R.slots
/-- where the walk stands: a Stand whose writes lie at or above n0, and its heap -/
def St (p : Program) (l : Launch) (e : Env) (R : Room) (s : State) (m : MethodId) (args : Array Value) (below : List Frame) (meth : Method) (c : Code) (n0 : Nat) (T : State) (h : Heap) (k n : Nat) : Prop :=
  ∃ locs, Stand p l e R s m args below meth c T locs k n ∧ Fr n0 locs ∧ T.heap = h
/-- a contract of a body -/
def Con (l : Launch) (Z : State) (y : MethodName) (bytes : ByteArray) (maxL : Nat) (ret : Option FieldType) (rm : Room) (n0 : Nat) (h0 : Heap) (as' : Array Value) (Q : Option Value → Heap → Prop) : Prop :=
  ∀ ws : List Jvm.Cond, MetFree l y (head1 (Jvm.Cond.code y bytes maxL ret :: ws) rm) (fun a U => a = as' ∧ Z.Warmed39 U.vm ∧ U.heap = h0) (fun _ _ _ _ _ => True) (fun _ U o U' => OEnd U rm n0 Q o U')
section Walk
variable {p : Program} {l : Launch} {e : Env} {R : Room} {s : State} {m : MethodId} {args : Array Value} {below : List Frame} {meth : Method} {c : Code} {n0 : Nat} {T : State} {h : Heap} {k n : Nat} {Z : State} {a0 : Array Value}
variable {G : Outcome → State → Prop} {pc pc' : Nat} {Ls Ls' : Array Slot} {st : List Value}
theorem Done.go {S S' : State} (f : ∀ t, Steps p.tables e below S' t → Steps p.tables e below S t) (d : Done p e below G S') : Done p e below G S := by
  obtain ⟨s₂, o, h1, h2⟩ := d
  exact ⟨s₂, o, f _ h1, h2⟩
theorem St.here (S : St p l e R s m args below meth c n0 T h k n) : At T m c below := by
  obtain ⟨_, X, _⟩ := S
  exact X.here
theorem St.heap (S : St p l e R s m args below meth c n0 T h k n) : T.heap = h := by
  obtain ⟨_, _, _, q⟩ := S
  exact q
theorem St.more {k' n' : Nat} (S : St p l e R s m args below meth c n0 T h k n) (hk : k ≤ k') (hn : n ≤ n') : St p l e R s m args below meth c n0 T h k' n' := by
  obtain ⟨L, X, N, q⟩ := S
  exact ⟨L, X.more hk hn, N, q⟩
theorem Con.intro {y : MethodName} {bytes : ByteArray} {maxL : Nat} {ret : Option FieldType} {rm : Room} {h0 : Heap} {as' : Array Value} {Q : Option Value → Heap → Prop}
    (hp : plainFor y = true) (hef : ∀ m, entryFrame m as' maxL = mkF m 0 Ls [])
    (body : ∀ (p : Program) (e : Env) (s : State) (m : MethodId) (below : List Frame) (meth : Method) (c : Code) (s₁ : State), p.tables.exec = Jvm.exec → c.code = bytes → c.maxLocals = maxL → s.vm.findClass y.cls = some m.cls → meth.name = y.name →
      meth.sig.returnType = ret → meth.locks = false → Z.Warmed39 s.vm → St p l e rm s m as' below meth c n0 s₁ h0 0 0 → Done p e below (OEnd s rm n0 Q) (s₁.setTop (mkF m 0 Ls []))) :
    Con l Z y bytes maxL ret rm n0 h0 as' Q := by
  intro ws
  refine MetFree.of_bodySF hp hisR ?_
  intro p e s m args below meth c s₁ Bd hml0 hP hK
  obtain ⟨rfl, hZ, hh⟩ := hP
  have hr := body p e s m below meth c s₁ Bd.exec Bd.bytes hml0 (findClass_of_methodNamed Bd.named) (name_of_methodNamed Bd.named Bd.method).1 Bd.returns Bd.notSynchronized hZ ⟨[], Stand.of_body Bd, Fr.nil n0, by rw [← hh, Bd.state]; rfl⟩
  rw [← hef m] at hr
  exact hr
/-! ### single steps -/
theorem k_iload (A : At T m c below) (hx : p.tables.exec = Jvm.exec) {i : Nat} {v : Int32} (hd : decode c.code pc = .ok (.iload i, 2)) (hl : Ls[i]? = some (.val (.int v))) (hp : pc + 2 = pc')
    (K : Done p e below G (T.setTop (mkF m pc' Ls (.int v :: st)))) : Done p e below G (T.setTop (mkF m pc Ls st)) := by
  subst hp; exact Done.go (fun t q => XS.iload A hx rfl hd hl q) K
theorem k_iloadN (A : At T m c below) (hx : p.tables.exec = Jvm.exec) {i : Fin 4} {v : Int32} (hd : decode c.code pc = .ok (.iload_n i, 1)) (hl : Ls[i.val]? = some (.val (.int v))) (hp : pc + 1 = pc')
    (K : Done p e below G (T.setTop (mkF m pc' Ls (.int v :: st)))) : Done p e below G (T.setTop (mkF m pc Ls st)) := by
  subst hp; exact Done.go (fun t q => XS.iloadN A hx rfl hd hl q) K
theorem k_istore (A : At T m c below) (hx : p.tables.exec = Jvm.exec) {i : Nat} {v : Int32} (hd : decode c.code pc = .ok (.istore i, 2)) (hl : storeLocals Ls i (.int v) = some Ls') (hp : pc + 2 = pc')
    (K : Done p e below G (T.setTop (mkF m pc' Ls' st))) : Done p e below G (T.setTop (mkF m pc Ls (.int v :: st))) := by
  subst hp; exact Done.go (fun t q => XS.istore A hx rfl hd rfl hl q) K
theorem k_istoreN (A : At T m c below) (hx : p.tables.exec = Jvm.exec) {i : Fin 4} {v : Int32} (hd : decode c.code pc = .ok (.istore_n i, 1)) (hl : storeLocals Ls i.val (.int v) = some Ls') (hp : pc + 1 = pc')
    (K : Done p e below G (T.setTop (mkF m pc' Ls' st))) : Done p e below G (T.setTop (mkF m pc Ls (.int v :: st))) := by
  subst hp; exact Done.go (fun t q => XS.istoreN A hx rfl hd rfl hl q) K
theorem k_lload (A : At T m c below) (hx : p.tables.exec = Jvm.exec) {i : Nat} {v : Int64} (hd : decode c.code pc = .ok (.lload i, 2)) (hl : Ls[i]? = some (.val (.long v))) (hp : pc + 2 = pc')
    (K : Done p e below G (T.setTop (mkF m pc' Ls (.long v :: st)))) : Done p e below G (T.setTop (mkF m pc Ls st)) := by
  subst hp; exact Done.go (fun t q => XS.lload A hx rfl hd hl q) K
theorem k_lloadN (A : At T m c below) (hx : p.tables.exec = Jvm.exec) {i : Fin 4} {v : Int64} (hd : decode c.code pc = .ok (.lload_n i, 1)) (hl : Ls[i.val]? = some (.val (.long v))) (hp : pc + 1 = pc')
    (K : Done p e below G (T.setTop (mkF m pc' Ls (.long v :: st)))) : Done p e below G (T.setTop (mkF m pc Ls st)) := by
  subst hp; exact Done.go (fun t q => XS.lloadN A hx rfl hd hl q) K
theorem k_lstore (A : At T m c below) (hx : p.tables.exec = Jvm.exec) {i : Nat} {v : Int64} (hd : decode c.code pc = .ok (.lstore i, 2)) (hl : storeLocals Ls i (.long v) = some Ls') (hp : pc + 2 = pc')
    (K : Done p e below G (T.setTop (mkF m pc' Ls' st))) : Done p e below G (T.setTop (mkF m pc Ls (.long v :: st))) := by
  subst hp; exact Done.go (fun t q => XS.lstore A hx rfl hd rfl hl q) K
theorem k_lstoreN (A : At T m c below) (hx : p.tables.exec = Jvm.exec) {i : Fin 4} {v : Int64} (hd : decode c.code pc = .ok (.lstore_n i, 1)) (hl : storeLocals Ls i.val (.long v) = some Ls') (hp : pc + 1 = pc')
    (K : Done p e below G (T.setTop (mkF m pc' Ls' st))) : Done p e below G (T.setTop (mkF m pc Ls (.long v :: st))) := by
  subst hp; exact Done.go (fun t q => XS.lstoreN A hx rfl hd rfl hl q) K
theorem k_aload (A : At T m c below) (hx : p.tables.exec = Jvm.exec) {i : Nat} {v : Value} (hd : decode c.code pc = .ok (.aload i, 2)) (hl : Ls[i]? = some (.val v)) (hv : v.isRef = true) (hp : pc + 2 = pc')
    (K : Done p e below G (T.setTop (mkF m pc' Ls (v :: st)))) : Done p e below G (T.setTop (mkF m pc Ls st)) := by
  subst hp; exact Done.go (fun t q => XS.aload A hx rfl hd hl hv q) K
theorem k_aloadN (A : At T m c below) (hx : p.tables.exec = Jvm.exec) {i : Fin 4} {v : Value} (hd : decode c.code pc = .ok (.aload_n i, 1)) (hl : Ls[i.val]? = some (.val v)) (hv : v.isRef = true) (hp : pc + 1 = pc')
    (K : Done p e below G (T.setTop (mkF m pc' Ls (v :: st)))) : Done p e below G (T.setTop (mkF m pc Ls st)) := by
  subst hp; exact Done.go (fun t q => XS.aloadN A hx rfl hd hl hv q) K
theorem k_astore (A : At T m c below) (hx : p.tables.exec = Jvm.exec) {i : Nat} {v : Value} (hd : decode c.code pc = .ok (.astore i, 2)) (hv : v.isRef = true) (hl : storeLocals Ls i v = some Ls') (hp : pc + 2 = pc')
    (K : Done p e below G (T.setTop (mkF m pc' Ls' st))) : Done p e below G (T.setTop (mkF m pc Ls (v :: st))) := by
  subst hp; exact Done.go (fun t q => XS.astore A hx rfl hd rfl hv hl q) K
theorem k_astoreN (A : At T m c below) (hx : p.tables.exec = Jvm.exec) {i : Fin 4} {v : Value} (hd : decode c.code pc = .ok (.astore_n i, 1)) (hv : v.isRef = true) (hl : storeLocals Ls i.val v = some Ls') (hp : pc + 1 = pc')
    (K : Done p e below G (T.setTop (mkF m pc' Ls' st))) : Done p e below G (T.setTop (mkF m pc Ls (v :: st))) := by
  subst hp; exact Done.go (fun t q => XS.astoreN A hx rfl hd rfl hv hl q) K
theorem k_iconst (A : At T m c below) (hx : p.tables.exec = Jvm.exec) {i : Int} {v : Int32} (hd : decode c.code pc = .ok (.iconst i, 1)) (hv : Int32.ofInt i = v) (hp : pc + 1 = pc')
    (K : Done p e below G (T.setTop (mkF m pc' Ls (.int v :: st)))) : Done p e below G (T.setTop (mkF m pc Ls st)) := by
  subst hp hv; exact Done.go (fun t q => XS.iconst A hx rfl hd q) K
theorem k_bipush (A : At T m c below) (hx : p.tables.exec = Jvm.exec) {i : Int} {v : Int32} (hd : decode c.code pc = .ok (.bipush i, 2)) (hv : (Int8.ofInt i).toInt32 = v) (hp : pc + 2 = pc')
    (K : Done p e below G (T.setTop (mkF m pc' Ls (.int v :: st)))) : Done p e below G (T.setTop (mkF m pc Ls st)) := by
  subst hp hv; exact Done.go (fun t q => XS.bipush A hx rfl hd q) K
theorem k_sipush (A : At T m c below) (hx : p.tables.exec = Jvm.exec) {i : Int} {v : Int32} (hd : decode c.code pc = .ok (.sipush i, 3)) (hv : (Int16.ofInt i).toInt32 = v) (hp : pc + 3 = pc')
    (K : Done p e below G (T.setTop (mkF m pc' Ls (.int v :: st)))) : Done p e below G (T.setTop (mkF m pc Ls st)) := by
  subst hp hv; exact Done.go (fun t q => XS.sipush A hx rfl hd q) K
theorem k_lconst (A : At T m c below) (hx : p.tables.exec = Jvm.exec) {i : Fin 2} {v : Int64} (hd : decode c.code pc = .ok (.lconst i, 1)) (hv : Int64.ofNat i = v) (hp : pc + 1 = pc')
    (K : Done p e below G (T.setTop (mkF m pc' Ls (.long v :: st)))) : Done p e below G (T.setTop (mkF m pc Ls st)) := by
  subst hp hv; exact Done.go (fun t q => XS.lconst A hx rfl hd q) K
theorem k_aconstNull (A : At T m c below) (hx : p.tables.exec = Jvm.exec)  (hd : decode c.code pc = .ok (.aconst_null, 1)) (hp : pc + 1 = pc')
    (K : Done p e below G (T.setTop (mkF m pc' Ls (.null :: st)))) : Done p e below G (T.setTop (mkF m pc Ls st)) := by
  subst hp; exact Done.go (fun t q => XS.aconstNull A hx rfl hd q) K
theorem k_dup (A : At T m c below) (hx : p.tables.exec = Jvm.exec) {v : Value} (hd : decode c.code pc = .ok (.dup, 1)) (hv : v.category = 1) (hp : pc + 1 = pc')
    (K : Done p e below G (T.setTop (mkF m pc' Ls (v :: v :: st)))) : Done p e below G (T.setTop (mkF m pc Ls (v :: st))) := by
  subst hp; exact Done.go (fun t q => XS.dup A hx rfl hd rfl hv q) K
theorem k_pop (A : At T m c below) (hx : p.tables.exec = Jvm.exec) {v : Value} (hd : decode c.code pc = .ok (.pop, 1)) (hv : v.category = 1) (hp : pc + 1 = pc')
    (K : Done p e below G (T.setTop (mkF m pc' Ls st))) : Done p e below G (T.setTop (mkF m pc Ls (v :: st))) := by
  subst hp; exact Done.go (fun t q => XS.pop A hx rfl hd rfl hv q) K
theorem k_dupX1 (A : At T m c below) (hx : p.tables.exec = Jvm.exec) {v w : Value} (hd : decode c.code pc = .ok (.dup_x1, 1)) (hv : v.category = 1) (hw : w.category = 1) (hp : pc + 1 = pc')
    (K : Done p e below G (T.setTop (mkF m pc' Ls (v :: w :: v :: st)))) : Done p e below G (T.setTop (mkF m pc Ls (v :: w :: st))) := by
  subst hp; exact Done.go (fun t q => XS.dupX1 A hx rfl hd rfl hv hw q) K
theorem k_iadd (A : At T m c below) (hx : p.tables.exec = Jvm.exec) {x y : Int32} (hd : decode c.code pc = .ok (.iadd, 1)) (hp : pc + 1 = pc')
    (K : Done p e below G (T.setTop (mkF m pc' Ls (.int (x + y) :: st)))) : Done p e below G (T.setTop (mkF m pc Ls (.int y :: .int x :: st))) := by
  subst hp; exact Done.go (fun t q => XS.iadd A hx rfl hd rfl q) K
theorem k_isub (A : At T m c below) (hx : p.tables.exec = Jvm.exec) {x y : Int32} (hd : decode c.code pc = .ok (.isub, 1)) (hp : pc + 1 = pc')
    (K : Done p e below G (T.setTop (mkF m pc' Ls (.int (x - y) :: st)))) : Done p e below G (T.setTop (mkF m pc Ls (.int y :: .int x :: st))) := by
  subst hp; exact Done.go (fun t q => XS.isub A hx rfl hd rfl q) K
theorem k_imul (A : At T m c below) (hx : p.tables.exec = Jvm.exec) {x y : Int32} (hd : decode c.code pc = .ok (.imul, 1)) (hp : pc + 1 = pc')
    (K : Done p e below G (T.setTop (mkF m pc' Ls (.int (x * y) :: st)))) : Done p e below G (T.setTop (mkF m pc Ls (.int y :: .int x :: st))) := by
  subst hp; exact Done.go (fun t q => XS.imul A hx rfl hd rfl q) K
theorem k_iand (A : At T m c below) (hx : p.tables.exec = Jvm.exec) {x y : Int32} (hd : decode c.code pc = .ok (.iand, 1)) (hp : pc + 1 = pc')
    (K : Done p e below G (T.setTop (mkF m pc' Ls (.int (x &&& y) :: st)))) : Done p e below G (T.setTop (mkF m pc Ls (.int y :: .int x :: st))) := by
  subst hp; exact Done.go (fun t q => XS.iand A hx rfl hd rfl q) K
theorem k_ior (A : At T m c below) (hx : p.tables.exec = Jvm.exec) {x y : Int32} (hd : decode c.code pc = .ok (.ior, 1)) (hp : pc + 1 = pc')
    (K : Done p e below G (T.setTop (mkF m pc' Ls (.int (x ||| y) :: st)))) : Done p e below G (T.setTop (mkF m pc Ls (.int y :: .int x :: st))) := by
  subst hp; exact Done.go (fun t q => XS.ior A hx rfl hd rfl q) K
theorem k_ixor (A : At T m c below) (hx : p.tables.exec = Jvm.exec) {x y : Int32} (hd : decode c.code pc = .ok (.ixor, 1)) (hp : pc + 1 = pc')
    (K : Done p e below G (T.setTop (mkF m pc' Ls (.int (x ^^^ y) :: st)))) : Done p e below G (T.setTop (mkF m pc Ls (.int y :: .int x :: st))) := by
  subst hp; exact Done.go (fun t q => XS.ixor A hx rfl hd rfl q) K
theorem k_ishl (A : At T m c below) (hx : p.tables.exec = Jvm.exec) {x y : Int32} (hd : decode c.code pc = .ok (.ishl, 1)) (hp : pc + 1 = pc')
    (K : Done p e below G (T.setTop (mkF m pc' Ls (.int (x <<< (y &&& 31)) :: st)))) : Done p e below G (T.setTop (mkF m pc Ls (.int y :: .int x :: st))) := by
  subst hp; exact Done.go (fun t q => XS.ishl A hx rfl hd rfl q) K
theorem k_ishr (A : At T m c below) (hx : p.tables.exec = Jvm.exec) {x y : Int32} (hd : decode c.code pc = .ok (.ishr, 1)) (hp : pc + 1 = pc')
    (K : Done p e below G (T.setTop (mkF m pc' Ls (.int (x >>> (y &&& 31)) :: st)))) : Done p e below G (T.setTop (mkF m pc Ls (.int y :: .int x :: st))) := by
  subst hp; exact Done.go (fun t q => XS.ishr A hx rfl hd rfl q) K
theorem k_iushr (A : At T m c below) (hx : p.tables.exec = Jvm.exec) {x y : Int32} (hd : decode c.code pc = .ok (.iushr, 1)) (hp : pc + 1 = pc')
    (K : Done p e below G (T.setTop (mkF m pc' Ls (.int ((x.toUInt32 >>> (y &&& 31).toUInt32).toInt32) :: st)))) : Done p e below G (T.setTop (mkF m pc Ls (.int y :: .int x :: st))) := by
  subst hp; exact Done.go (fun t q => XS.iushr A hx rfl hd rfl q) K
theorem k_ladd (A : At T m c below) (hx : p.tables.exec = Jvm.exec) {x y : Int64} (hd : decode c.code pc = .ok (.ladd, 1)) (hp : pc + 1 = pc')
    (K : Done p e below G (T.setTop (mkF m pc' Ls (.long (x + y) :: st)))) : Done p e below G (T.setTop (mkF m pc Ls (.long y :: .long x :: st))) := by
  subst hp; exact Done.go (fun t q => XS.ladd A hx rfl hd rfl q) K
theorem k_lsub (A : At T m c below) (hx : p.tables.exec = Jvm.exec) {x y : Int64} (hd : decode c.code pc = .ok (.lsub, 1)) (hp : pc + 1 = pc')
    (K : Done p e below G (T.setTop (mkF m pc' Ls (.long (x - y) :: st)))) : Done p e below G (T.setTop (mkF m pc Ls (.long y :: .long x :: st))) := by
  subst hp; exact Done.go (fun t q => XS.lsub A hx rfl hd rfl q) K
theorem k_lmul (A : At T m c below) (hx : p.tables.exec = Jvm.exec) {x y : Int64} (hd : decode c.code pc = .ok (.lmul, 1)) (hp : pc + 1 = pc')
    (K : Done p e below G (T.setTop (mkF m pc' Ls (.long (x * y) :: st)))) : Done p e below G (T.setTop (mkF m pc Ls (.long y :: .long x :: st))) := by
  subst hp; exact Done.go (fun t q => XS.lmul A hx rfl hd rfl q) K
theorem k_land (A : At T m c below) (hx : p.tables.exec = Jvm.exec) {x y : Int64} (hd : decode c.code pc = .ok (.land, 1)) (hp : pc + 1 = pc')
    (K : Done p e below G (T.setTop (mkF m pc' Ls (.long (x &&& y) :: st)))) : Done p e below G (T.setTop (mkF m pc Ls (.long y :: .long x :: st))) := by
  subst hp; exact Done.go (fun t q => XS.land A hx rfl hd rfl q) K
theorem k_lor (A : At T m c below) (hx : p.tables.exec = Jvm.exec) {x y : Int64} (hd : decode c.code pc = .ok (.lor, 1)) (hp : pc + 1 = pc')
    (K : Done p e below G (T.setTop (mkF m pc' Ls (.long (x ||| y) :: st)))) : Done p e below G (T.setTop (mkF m pc Ls (.long y :: .long x :: st))) := by
  subst hp; exact Done.go (fun t q => XS.lor A hx rfl hd rfl q) K
theorem k_lxor (A : At T m c below) (hx : p.tables.exec = Jvm.exec) {x y : Int64} (hd : decode c.code pc = .ok (.lxor, 1)) (hp : pc + 1 = pc')
    (K : Done p e below G (T.setTop (mkF m pc' Ls (.long (x ^^^ y) :: st)))) : Done p e below G (T.setTop (mkF m pc Ls (.long y :: .long x :: st))) := by
  subst hp; exact Done.go (fun t q => XS.lxor A hx rfl hd rfl q) K
theorem k_lshl (A : At T m c below) (hx : p.tables.exec = Jvm.exec) {x : Int64} {y : Int32} (hd : decode c.code pc = .ok (.lshl, 1)) (hp : pc + 1 = pc')
    (K : Done p e below G (T.setTop (mkF m pc' Ls (.long (x <<< (y &&& 0x3f).toInt64) :: st)))) : Done p e below G (T.setTop (mkF m pc Ls (.int y :: .long x :: st))) := by
  subst hp; exact Done.go (fun t q => XS.lshl A hx rfl hd rfl q) K
theorem k_lshr (A : At T m c below) (hx : p.tables.exec = Jvm.exec) {x : Int64} {y : Int32} (hd : decode c.code pc = .ok (.lshr, 1)) (hp : pc + 1 = pc')
    (K : Done p e below G (T.setTop (mkF m pc' Ls (.long (x >>> (y &&& 0x3f).toInt64) :: st)))) : Done p e below G (T.setTop (mkF m pc Ls (.int y :: .long x :: st))) := by
  subst hp; exact Done.go (fun t q => XS.lshr A hx rfl hd rfl q) K
theorem k_lushr (A : At T m c below) (hx : p.tables.exec = Jvm.exec) {x : Int64} {y : Int32} (hd : decode c.code pc = .ok (.lushr, 1)) (hp : pc + 1 = pc')
    (K : Done p e below G (T.setTop (mkF m pc' Ls (.long ((x.toUInt64 >>> (y &&& 0x3f).toInt64.toUInt64).toInt64) :: st)))) : Done p e below G (T.setTop (mkF m pc Ls (.int y :: .long x :: st))) := by
  subst hp; exact Done.go (fun t q => XS.lushr A hx rfl hd rfl q) K
theorem k_idiv (A : At T m c below) (hx : p.tables.exec = Jvm.exec) {x y : Int32} (hd : decode c.code pc = .ok (.idiv, 1)) (hy : y ≠ 0) (hp : pc + 1 = pc')
    (K : Done p e below G (T.setTop (mkF m pc' Ls (.int (x / y) :: st)))) : Done p e below G (T.setTop (mkF m pc Ls (.int y :: .int x :: st))) := by
  subst hp; exact Done.go (fun t q => XS.idiv A hx rfl hd rfl hy q) K
theorem k_ldiv (A : At T m c below) (hx : p.tables.exec = Jvm.exec) {x y : Int64} (hd : decode c.code pc = .ok (.ldiv, 1)) (hy : y ≠ 0) (hp : pc + 1 = pc')
    (K : Done p e below G (T.setTop (mkF m pc' Ls (.long (x / y) :: st)))) : Done p e below G (T.setTop (mkF m pc Ls (.long y :: .long x :: st))) := by
  subst hp; exact Done.go (fun t q => XS.ldiv A hx rfl hd rfl hy q) K
theorem k_irem (A : At T m c below) (hx : p.tables.exec = Jvm.exec) {x y : Int32} (hd : decode c.code pc = .ok (.irem, 1)) (hy : y ≠ 0) (hp : pc + 1 = pc')
    (K : Done p e below G (T.setTop (mkF m pc' Ls (.int (x % y) :: st)))) : Done p e below G (T.setTop (mkF m pc Ls (.int y :: .int x :: st))) := by
  subst hp; have q0 : x - x / y * y = x % y := irem_eq_mod x y
  rw [← q0] at K
  exact Done.go (fun t q => XS.irem A hx rfl hd rfl hy q) K
theorem k_lrem (A : At T m c below) (hx : p.tables.exec = Jvm.exec) {x y : Int64} (hd : decode c.code pc = .ok (.lrem, 1)) (hy : y ≠ 0) (hp : pc + 1 = pc')
    (K : Done p e below G (T.setTop (mkF m pc' Ls (.long (x % y) :: st)))) : Done p e below G (T.setTop (mkF m pc Ls (.long y :: .long x :: st))) := by
  subst hp
  rw [← lrem_mod x y] at K
  exact Done.go (fun t q => XS.lrem A hx rfl hd rfl hy q) K
theorem k_lcmp (A : At T m c below) (hx : p.tables.exec = Jvm.exec) {x y : Int64} (hd : decode c.code pc = .ok (.lcmp, 1)) (hp : pc + 1 = pc')
    (K : Done p e below G (T.setTop (mkF m pc' Ls (.int (lcmpW x y) :: st)))) : Done p e below G (T.setTop (mkF m pc Ls (.long y :: .long x :: st))) := by
  subst hp; exact Done.go (fun t q => XS.lcmp A hx rfl hd rfl q) K
theorem k_ineg (A : At T m c below) (hx : p.tables.exec = Jvm.exec) {x : Int32} (hd : decode c.code pc = .ok (.ineg, 1)) (hp : pc + 1 = pc')
    (K : Done p e below G (T.setTop (mkF m pc' Ls (.int (-x) :: st)))) : Done p e below G (T.setTop (mkF m pc Ls (.int x :: st))) := by
  subst hp; exact Done.go (fun t q => XS.ineg A hx rfl hd rfl q) K
theorem k_lneg (A : At T m c below) (hx : p.tables.exec = Jvm.exec) {x : Int64} (hd : decode c.code pc = .ok (.lneg, 1)) (hp : pc + 1 = pc')
    (K : Done p e below G (T.setTop (mkF m pc' Ls (.long (-x) :: st)))) : Done p e below G (T.setTop (mkF m pc Ls (.long x :: st))) := by
  subst hp; exact Done.go (fun t q => XS.lneg A hx rfl hd rfl q) K
theorem k_i2l (A : At T m c below) (hx : p.tables.exec = Jvm.exec) {x : Int32} (hd : decode c.code pc = .ok (.i2l, 1)) (hp : pc + 1 = pc')
    (K : Done p e below G (T.setTop (mkF m pc' Ls (.long (x.toInt64) :: st)))) : Done p e below G (T.setTop (mkF m pc Ls (.int x :: st))) := by
  subst hp; exact Done.go (fun t q => XS.i2l A hx rfl hd rfl q) K
theorem k_l2i (A : At T m c below) (hx : p.tables.exec = Jvm.exec) {x : Int64} (hd : decode c.code pc = .ok (.l2i, 1)) (hp : pc + 1 = pc')
    (K : Done p e below G (T.setTop (mkF m pc' Ls (.int (x.toInt32) :: st)))) : Done p e below G (T.setTop (mkF m pc Ls (.long x :: st))) := by
  subst hp; exact Done.go (fun t q => XS.l2i A hx rfl hd rfl q) K
theorem k_i2b (A : At T m c below) (hx : p.tables.exec = Jvm.exec) {x : Int32} (hd : decode c.code pc = .ok (.i2b, 1)) (hp : pc + 1 = pc')
    (K : Done p e below G (T.setTop (mkF m pc' Ls (.int (x.toInt8.toInt32) :: st)))) : Done p e below G (T.setTop (mkF m pc Ls (.int x :: st))) := by
  subst hp; exact Done.go (fun t q => XS.i2b A hx rfl hd rfl q) K
theorem k_i2c (A : At T m c below) (hx : p.tables.exec = Jvm.exec) {x : Int32} (hd : decode c.code pc = .ok (.i2c, 1)) (hp : pc + 1 = pc')
    (K : Done p e below G (T.setTop (mkF m pc' Ls (.int (x.toUInt32.toUInt16.toUInt32.toInt32) :: st)))) : Done p e below G (T.setTop (mkF m pc Ls (.int x :: st))) := by
  subst hp; exact Done.go (fun t q => XS.i2c A hx rfl hd rfl q) K
theorem k_i2s (A : At T m c below) (hx : p.tables.exec = Jvm.exec) {x : Int32} (hd : decode c.code pc = .ok (.i2s, 1)) (hp : pc + 1 = pc')
    (K : Done p e below G (T.setTop (mkF m pc' Ls (.int (x.toInt16.toInt32) :: st)))) : Done p e below G (T.setTop (mkF m pc Ls (.int x :: st))) := by
  subst hp; exact Done.go (fun t q => XS.i2s A hx rfl hd rfl q) K
theorem k_iinc (A : At T m c below) (hx : p.tables.exec = Jvm.exec) {i : Nat} {cst : Int} {v : Int32} (hd : decode c.code pc = .ok (.iinc i cst, 3)) (hl : Ls[i]? = some (.val (.int v))) (hs : storeLocals Ls i (.int (v + Int32.ofInt cst)) = some Ls') (hp : pc + 3 = pc')
    (K : Done p e below G (T.setTop (mkF m pc' Ls' st))) : Done p e below G (T.setTop (mkF m pc Ls st)) := by
  subst hp; exact Done.go (fun t q => XS.iinc A hx rfl hd hl hs q) K
theorem k_goto (A : At T m c below) (hx : p.tables.exec = Jvm.exec) {o : Int} (hd : decode c.code pc = .ok (.goto o, 3)) (hp : (pc : Int) + o = (pc' : Int))
    (K : Done p e below G (T.setTop (mkF m pc' Ls st))) : Done p e below G (T.setTop (mkF m pc Ls st)) :=
  Done.go (fun t q => XS.goto A hx rfl (pc0 := pc) (pc' := pc') rfl hd (by omega) (by omega) q) K
theorem k_ifnullYes (A : At T m c below) (hx : p.tables.exec = Jvm.exec) {o : Int} (hd : decode c.code pc = .ok (.ifnull o, 3)) (hp : (pc : Int) + o = (pc' : Int))
    (K : Done p e below G (T.setTop (mkF m pc' Ls st))) : Done p e below G (T.setTop (mkF m pc Ls (.null :: st))) :=
  Done.go (fun t q => XS.ifnullYes A hx rfl (pc0 := pc) (pc' := pc') rfl hd rfl (by omega) (by omega) q) K
theorem k_ifnonnullYes (A : At T m c below) (hx : p.tables.exec = Jvm.exec) {o : Int} {b : Addr} (hd : decode c.code pc = .ok (.ifnonnull o, 3)) (hp : (pc : Int) + o = (pc' : Int))
    (K : Done p e below G (T.setTop (mkF m pc' Ls st))) : Done p e below G (T.setTop (mkF m pc Ls (.ref b :: st))) :=
  Done.go (fun t q => XS.ifnonnullYes A hx rfl (pc0 := pc) (pc' := pc') rfl hd rfl (by omega) (by omega) q) K
theorem k_ifnullNo (A : At T m c below) (hx : p.tables.exec = Jvm.exec) {o : Int} {b : Addr} (hd : decode c.code pc = .ok (.ifnull o, 3)) (hp : pc + 3 = pc')
    (K : Done p e below G (T.setTop (mkF m pc' Ls st))) : Done p e below G (T.setTop (mkF m pc Ls (.ref b :: st))) := by
  subst hp; exact Done.go (fun t q => XS.ifnullNo A hx rfl hd rfl q) K
theorem k_ifnonnullNo (A : At T m c below) (hx : p.tables.exec = Jvm.exec) {o : Int} (hd : decode c.code pc = .ok (.ifnonnull o, 3)) (hp : pc + 3 = pc')
    (K : Done p e below G (T.setTop (mkF m pc' Ls st))) : Done p e below G (T.setTop (mkF m pc Ls (.null :: st))) := by
  subst hp; exact Done.go (fun t q => XS.ifnonnullNo A hx rfl hd rfl q) K
theorem k_icmp_lt (A : At T m c below) (hx : p.tables.exec = Jvm.exec) {x y : Int32} {o : Int} {pcY : Nat} (hd : decode c.code pc = .ok (.if_icmp .lt o, 3)) (hY : (pc : Int) + o = (pcY : Int)) (hp : pc + 3 = pc')
    (KY : x < y → Done p e below G (T.setTop (mkF m pcY Ls st))) (KN : ¬ x < y → Done p e below G (T.setTop (mkF m pc' Ls st))) : Done p e below G (T.setTop (mkF m pc Ls (.int y :: .int x :: st))) := by
  subst hp
  by_cases hc : x < y
  · exact Done.go (fun t q => XS.icmpYes A hx rfl (pc0 := pc) (pc' := pcY) rfl hd rfl (tlt hc).1 (by omega) (by omega) q) (KY hc)
  · exact Done.go (fun t q => XS.icmpNo A hx rfl hd rfl (flt hc).1 q) (KN hc)
theorem k_if_lt (A : At T m c below) (hx : p.tables.exec = Jvm.exec) {x : Int32} {o : Int} {pcY : Nat} (hd : decode c.code pc = .ok (.ifCond .lt o, 3)) (hY : (pc : Int) + o = (pcY : Int)) (hp : pc + 3 = pc')
    (KY : x < 0 → Done p e below G (T.setTop (mkF m pcY Ls st))) (KN : ¬ x < 0 → Done p e below G (T.setTop (mkF m pc' Ls st))) : Done p e below G (T.setTop (mkF m pc Ls (.int x :: st))) := by
  subst hp
  by_cases hc : x < 0
  · exact Done.go (fun t q => XS.ifYes A hx rfl (pc0 := pc) (pc' := pcY) rfl hd rfl ((if0 _ _).trans (tlt hc).1) (by omega) (by omega) q) (KY hc)
  · exact Done.go (fun t q => XS.ifNo A hx rfl hd rfl ((if0 _ _).trans (flt hc).1) q) (KN hc)
theorem k_icmp_ge (A : At T m c below) (hx : p.tables.exec = Jvm.exec) {x y : Int32} {o : Int} {pcY : Nat} (hd : decode c.code pc = .ok (.if_icmp .ge o, 3)) (hY : (pc : Int) + o = (pcY : Int)) (hp : pc + 3 = pc')
    (KY : ¬ x < y → Done p e below G (T.setTop (mkF m pcY Ls st))) (KN : x < y → Done p e below G (T.setTop (mkF m pc' Ls st))) : Done p e below G (T.setTop (mkF m pc Ls (.int y :: .int x :: st))) := by
  subst hp
  by_cases hc : x < y
  · exact Done.go (fun t q => XS.icmpNo A hx rfl hd rfl (tlt hc).2.1 q) (KN hc)
  · exact Done.go (fun t q => XS.icmpYes A hx rfl (pc0 := pc) (pc' := pcY) rfl hd rfl (flt hc).2.1 (by omega) (by omega) q) (KY hc)
theorem k_if_ge (A : At T m c below) (hx : p.tables.exec = Jvm.exec) {x : Int32} {o : Int} {pcY : Nat} (hd : decode c.code pc = .ok (.ifCond .ge o, 3)) (hY : (pc : Int) + o = (pcY : Int)) (hp : pc + 3 = pc')
    (KY : ¬ x < 0 → Done p e below G (T.setTop (mkF m pcY Ls st))) (KN : x < 0 → Done p e below G (T.setTop (mkF m pc' Ls st))) : Done p e below G (T.setTop (mkF m pc Ls (.int x :: st))) := by
  subst hp
  by_cases hc : x < 0
  · exact Done.go (fun t q => XS.ifNo A hx rfl hd rfl ((if0 _ _).trans (tlt hc).2.1) q) (KN hc)
  · exact Done.go (fun t q => XS.ifYes A hx rfl (pc0 := pc) (pc' := pcY) rfl hd rfl ((if0 _ _).trans (flt hc).2.1) (by omega) (by omega) q) (KY hc)
theorem k_icmp_gt (A : At T m c below) (hx : p.tables.exec = Jvm.exec) {x y : Int32} {o : Int} {pcY : Nat} (hd : decode c.code pc = .ok (.if_icmp .gt o, 3)) (hY : (pc : Int) + o = (pcY : Int)) (hp : pc + 3 = pc')
    (KY : y < x → Done p e below G (T.setTop (mkF m pcY Ls st))) (KN : ¬ y < x → Done p e below G (T.setTop (mkF m pc' Ls st))) : Done p e below G (T.setTop (mkF m pc Ls (.int y :: .int x :: st))) := by
  subst hp
  by_cases hc : y < x
  · exact Done.go (fun t q => XS.icmpYes A hx rfl (pc0 := pc) (pc' := pcY) rfl hd rfl (tlt hc).2.2.1 (by omega) (by omega) q) (KY hc)
  · exact Done.go (fun t q => XS.icmpNo A hx rfl hd rfl (flt hc).2.2.1 q) (KN hc)
theorem k_if_gt (A : At T m c below) (hx : p.tables.exec = Jvm.exec) {x : Int32} {o : Int} {pcY : Nat} (hd : decode c.code pc = .ok (.ifCond .gt o, 3)) (hY : (pc : Int) + o = (pcY : Int)) (hp : pc + 3 = pc')
    (KY : 0 < x → Done p e below G (T.setTop (mkF m pcY Ls st))) (KN : ¬ 0 < x → Done p e below G (T.setTop (mkF m pc' Ls st))) : Done p e below G (T.setTop (mkF m pc Ls (.int x :: st))) := by
  subst hp
  by_cases hc : 0 < x
  · exact Done.go (fun t q => XS.ifYes A hx rfl (pc0 := pc) (pc' := pcY) rfl hd rfl ((if0 _ _).trans (tlt hc).2.2.1) (by omega) (by omega) q) (KY hc)
  · exact Done.go (fun t q => XS.ifNo A hx rfl hd rfl ((if0 _ _).trans (flt hc).2.2.1) q) (KN hc)
theorem k_icmp_le (A : At T m c below) (hx : p.tables.exec = Jvm.exec) {x y : Int32} {o : Int} {pcY : Nat} (hd : decode c.code pc = .ok (.if_icmp .le o, 3)) (hY : (pc : Int) + o = (pcY : Int)) (hp : pc + 3 = pc')
    (KY : ¬ y < x → Done p e below G (T.setTop (mkF m pcY Ls st))) (KN : y < x → Done p e below G (T.setTop (mkF m pc' Ls st))) : Done p e below G (T.setTop (mkF m pc Ls (.int y :: .int x :: st))) := by
  subst hp
  by_cases hc : y < x
  · exact Done.go (fun t q => XS.icmpNo A hx rfl hd rfl (tlt hc).2.2.2 q) (KN hc)
  · exact Done.go (fun t q => XS.icmpYes A hx rfl (pc0 := pc) (pc' := pcY) rfl hd rfl (flt hc).2.2.2 (by omega) (by omega) q) (KY hc)
theorem k_if_le (A : At T m c below) (hx : p.tables.exec = Jvm.exec) {x : Int32} {o : Int} {pcY : Nat} (hd : decode c.code pc = .ok (.ifCond .le o, 3)) (hY : (pc : Int) + o = (pcY : Int)) (hp : pc + 3 = pc')
    (KY : ¬ 0 < x → Done p e below G (T.setTop (mkF m pcY Ls st))) (KN : 0 < x → Done p e below G (T.setTop (mkF m pc' Ls st))) : Done p e below G (T.setTop (mkF m pc Ls (.int x :: st))) := by
  subst hp
  by_cases hc : 0 < x
  · exact Done.go (fun t q => XS.ifNo A hx rfl hd rfl ((if0 _ _).trans (tlt hc).2.2.2) q) (KN hc)
  · exact Done.go (fun t q => XS.ifYes A hx rfl (pc0 := pc) (pc' := pcY) rfl hd rfl ((if0 _ _).trans (flt hc).2.2.2) (by omega) (by omega) q) (KY hc)
theorem k_icmp_eq (A : At T m c below) (hx : p.tables.exec = Jvm.exec) {x y : Int32} {o : Int} {pcY : Nat} (hd : decode c.code pc = .ok (.if_icmp .eq o, 3)) (hY : (pc : Int) + o = (pcY : Int)) (hp : pc + 3 = pc')
    (KY : x = y → Done p e below G (T.setTop (mkF m pcY Ls st))) (KN : ¬ x = y → Done p e below G (T.setTop (mkF m pc' Ls st))) : Done p e below G (T.setTop (mkF m pc Ls (.int y :: .int x :: st))) := by
  subst hp
  by_cases hc : x = y
  · exact Done.go (fun t q => XS.icmpYes A hx rfl (pc0 := pc) (pc' := pcY) rfl hd rfl (teq hc).1 (by omega) (by omega) q) (KY hc)
  · exact Done.go (fun t q => XS.icmpNo A hx rfl hd rfl (feq hc).1 q) (KN hc)
theorem k_if_eq (A : At T m c below) (hx : p.tables.exec = Jvm.exec) {x : Int32} {o : Int} {pcY : Nat} (hd : decode c.code pc = .ok (.ifCond .eq o, 3)) (hY : (pc : Int) + o = (pcY : Int)) (hp : pc + 3 = pc')
    (KY : x = 0 → Done p e below G (T.setTop (mkF m pcY Ls st))) (KN : ¬ x = 0 → Done p e below G (T.setTop (mkF m pc' Ls st))) : Done p e below G (T.setTop (mkF m pc Ls (.int x :: st))) := by
  subst hp
  by_cases hc : x = 0
  · exact Done.go (fun t q => XS.ifYes A hx rfl (pc0 := pc) (pc' := pcY) rfl hd rfl ((if0 _ _).trans (teq hc).1) (by omega) (by omega) q) (KY hc)
  · exact Done.go (fun t q => XS.ifNo A hx rfl hd rfl ((if0 _ _).trans (feq hc).1) q) (KN hc)
theorem k_icmp_ne (A : At T m c below) (hx : p.tables.exec = Jvm.exec) {x y : Int32} {o : Int} {pcY : Nat} (hd : decode c.code pc = .ok (.if_icmp .ne o, 3)) (hY : (pc : Int) + o = (pcY : Int)) (hp : pc + 3 = pc')
    (KY : ¬ x = y → Done p e below G (T.setTop (mkF m pcY Ls st))) (KN : x = y → Done p e below G (T.setTop (mkF m pc' Ls st))) : Done p e below G (T.setTop (mkF m pc Ls (.int y :: .int x :: st))) := by
  subst hp
  by_cases hc : x = y
  · exact Done.go (fun t q => XS.icmpNo A hx rfl hd rfl (teq hc).2 q) (KN hc)
  · exact Done.go (fun t q => XS.icmpYes A hx rfl (pc0 := pc) (pc' := pcY) rfl hd rfl (feq hc).2 (by omega) (by omega) q) (KY hc)
theorem k_if_ne (A : At T m c below) (hx : p.tables.exec = Jvm.exec) {x : Int32} {o : Int} {pcY : Nat} (hd : decode c.code pc = .ok (.ifCond .ne o, 3)) (hY : (pc : Int) + o = (pcY : Int)) (hp : pc + 3 = pc')
    (KY : ¬ x = 0 → Done p e below G (T.setTop (mkF m pcY Ls st))) (KN : x = 0 → Done p e below G (T.setTop (mkF m pc' Ls st))) : Done p e below G (T.setTop (mkF m pc Ls (.int x :: st))) := by
  subst hp
  by_cases hc : x = 0
  · exact Done.go (fun t q => XS.ifNo A hx rfl hd rfl ((if0 _ _).trans (teq hc).2) q) (KN hc)
  · exact Done.go (fun t q => XS.ifYes A hx rfl (pc0 := pc) (pc' := pcY) rfl hd rfl ((if0 _ _).trans (feq hc).2) (by omega) (by omega) q) (KY hc)
theorem k_lcmp_lt (A : At T m c below) (hx : p.tables.exec = Jvm.exec) {x y : Int64} {o : Int} {pcY : Nat} (hd : decode c.code pc = .ok (.lcmp, 1)) (hd2 : decode c.code (pc + 1) = .ok (.ifCond .lt o, 3)) (hY : ((pc + 1 : Nat) : Int) + o = (pcY : Int)) (hp : pc + 1 + 3 = pc')
    (KY : x < y → Done p e below G (T.setTop (mkF m pcY Ls st))) (KN : ¬ x < y → Done p e below G (T.setTop (mkF m pc' Ls st))) : Done p e below G (T.setTop (mkF m pc Ls (.long y :: .long x :: st))) := by
  subst hp
  by_cases hc : x < y
  · exact Done.go (fun t q => XS.lcmp A hx rfl hd rfl (XS.ifYes A hx rfl (pc0 := pc + 1) (pc' := pcY) rfl hd2 rfl ((if0 _ _).trans (tlt ((lw_lt x y).mpr hc)).1) (by omega) (by omega) q)) (KY hc)
  · exact Done.go (fun t q => XS.lcmp A hx rfl hd rfl (XS.ifNo A hx rfl hd2 rfl ((if0 _ _).trans (flt (fun z => hc ((lw_lt x y).mp z))).1) q)) (KN hc)
theorem k_lcmp_ge (A : At T m c below) (hx : p.tables.exec = Jvm.exec) {x y : Int64} {o : Int} {pcY : Nat} (hd : decode c.code pc = .ok (.lcmp, 1)) (hd2 : decode c.code (pc + 1) = .ok (.ifCond .ge o, 3)) (hY : ((pc + 1 : Nat) : Int) + o = (pcY : Int)) (hp : pc + 1 + 3 = pc')
    (KY : ¬ x < y → Done p e below G (T.setTop (mkF m pcY Ls st))) (KN : x < y → Done p e below G (T.setTop (mkF m pc' Ls st))) : Done p e below G (T.setTop (mkF m pc Ls (.long y :: .long x :: st))) := by
  subst hp
  by_cases hc : x < y
  · exact Done.go (fun t q => XS.lcmp A hx rfl hd rfl (XS.ifNo A hx rfl hd2 rfl ((if0 _ _).trans (tlt ((lw_lt x y).mpr hc)).2.1) q)) (KN hc)
  · exact Done.go (fun t q => XS.lcmp A hx rfl hd rfl (XS.ifYes A hx rfl (pc0 := pc + 1) (pc' := pcY) rfl hd2 rfl ((if0 _ _).trans (flt (fun z => hc ((lw_lt x y).mp z))).2.1) (by omega) (by omega) q)) (KY hc)
theorem k_lcmp_gt (A : At T m c below) (hx : p.tables.exec = Jvm.exec) {x y : Int64} {o : Int} {pcY : Nat} (hd : decode c.code pc = .ok (.lcmp, 1)) (hd2 : decode c.code (pc + 1) = .ok (.ifCond .gt o, 3)) (hY : ((pc + 1 : Nat) : Int) + o = (pcY : Int)) (hp : pc + 1 + 3 = pc')
    (KY : y < x → Done p e below G (T.setTop (mkF m pcY Ls st))) (KN : ¬ y < x → Done p e below G (T.setTop (mkF m pc' Ls st))) : Done p e below G (T.setTop (mkF m pc Ls (.long y :: .long x :: st))) := by
  subst hp
  by_cases hc : y < x
  · exact Done.go (fun t q => XS.lcmp A hx rfl hd rfl (XS.ifYes A hx rfl (pc0 := pc + 1) (pc' := pcY) rfl hd2 rfl ((if0 _ _).trans (tlt ((lw_gt x y).mpr hc)).2.2.1) (by omega) (by omega) q)) (KY hc)
  · exact Done.go (fun t q => XS.lcmp A hx rfl hd rfl (XS.ifNo A hx rfl hd2 rfl ((if0 _ _).trans (flt (fun z => hc ((lw_gt x y).mp z))).2.2.1) q)) (KN hc)
theorem k_lcmp_le (A : At T m c below) (hx : p.tables.exec = Jvm.exec) {x y : Int64} {o : Int} {pcY : Nat} (hd : decode c.code pc = .ok (.lcmp, 1)) (hd2 : decode c.code (pc + 1) = .ok (.ifCond .le o, 3)) (hY : ((pc + 1 : Nat) : Int) + o = (pcY : Int)) (hp : pc + 1 + 3 = pc')
    (KY : ¬ y < x → Done p e below G (T.setTop (mkF m pcY Ls st))) (KN : y < x → Done p e below G (T.setTop (mkF m pc' Ls st))) : Done p e below G (T.setTop (mkF m pc Ls (.long y :: .long x :: st))) := by
  subst hp
  by_cases hc : y < x
  · exact Done.go (fun t q => XS.lcmp A hx rfl hd rfl (XS.ifNo A hx rfl hd2 rfl ((if0 _ _).trans (tlt ((lw_gt x y).mpr hc)).2.2.2) q)) (KN hc)
  · exact Done.go (fun t q => XS.lcmp A hx rfl hd rfl (XS.ifYes A hx rfl (pc0 := pc + 1) (pc' := pcY) rfl hd2 rfl ((if0 _ _).trans (flt (fun z => hc ((lw_gt x y).mp z))).2.2.2) (by omega) (by omega) q)) (KY hc)
theorem k_lcmp_eq (A : At T m c below) (hx : p.tables.exec = Jvm.exec) {x y : Int64} {o : Int} {pcY : Nat} (hd : decode c.code pc = .ok (.lcmp, 1)) (hd2 : decode c.code (pc + 1) = .ok (.ifCond .eq o, 3)) (hY : ((pc + 1 : Nat) : Int) + o = (pcY : Int)) (hp : pc + 1 + 3 = pc')
    (KY : x = y → Done p e below G (T.setTop (mkF m pcY Ls st))) (KN : ¬ x = y → Done p e below G (T.setTop (mkF m pc' Ls st))) : Done p e below G (T.setTop (mkF m pc Ls (.long y :: .long x :: st))) := by
  subst hp
  by_cases hc : x = y
  · exact Done.go (fun t q => XS.lcmp A hx rfl hd rfl (XS.ifYes A hx rfl (pc0 := pc + 1) (pc' := pcY) rfl hd2 rfl ((if0 _ _).trans (teq ((lw_eq x y).mpr hc)).1) (by omega) (by omega) q)) (KY hc)
  · exact Done.go (fun t q => XS.lcmp A hx rfl hd rfl (XS.ifNo A hx rfl hd2 rfl ((if0 _ _).trans (feq (fun z => hc ((lw_eq x y).mp z))).1) q)) (KN hc)
theorem k_lcmp_ne (A : At T m c below) (hx : p.tables.exec = Jvm.exec) {x y : Int64} {o : Int} {pcY : Nat} (hd : decode c.code pc = .ok (.lcmp, 1)) (hd2 : decode c.code (pc + 1) = .ok (.ifCond .ne o, 3)) (hY : ((pc + 1 : Nat) : Int) + o = (pcY : Int)) (hp : pc + 1 + 3 = pc')
    (KY : ¬ x = y → Done p e below G (T.setTop (mkF m pcY Ls st))) (KN : x = y → Done p e below G (T.setTop (mkF m pc' Ls st))) : Done p e below G (T.setTop (mkF m pc Ls (.long y :: .long x :: st))) := by
  subst hp
  by_cases hc : x = y
  · exact Done.go (fun t q => XS.lcmp A hx rfl hd rfl (XS.ifNo A hx rfl hd2 rfl ((if0 _ _).trans (teq ((lw_eq x y).mpr hc)).2) q)) (KN hc)
  · exact Done.go (fun t q => XS.lcmp A hx rfl hd rfl (XS.ifYes A hx rfl (pc0 := pc + 1) (pc' := pcY) rfl hd2 rfl ((if0 _ _).trans (feq (fun z => hc ((lw_eq x y).mp z))).2) (by omega) (by omega) q)) (KY hc)
/-! ### a store into a slot of which only its one word is known -/
theorem store_eq (L : Array Slot) (i : Nat) (v : Value) : storeLocals L i v = (L[i]?).bind fun o => match o with
    | .second => (setAt L (i - 1) .unset).bind fun l => storeSelf l i v
    | .val old => if old.category = 2 then ((setAt L (i + 1) .unset).bind fun l => storeSelf l i v) else storeSelf L i v
    | .unset => storeSelf L i v := rfl
theorem store1 {L L' : Array Slot} {i : Nat} {o : Slot} {v : Value} (h : L[i]? = some o) (H : One o) (hs : storeSelf L i v = some L') : storeLocals L i v = some L' := by
  rw [store_eq, h]
  rcases H with rfl | ⟨w, rfl, q⟩
  · exact hs
  · show (if w.category = 2 then _ else storeSelf L i v) = _
    rw [if_neg (by omega)]; exact hs
/-! ### constants of the pool -/
theorem k_ldcInt (S : St p l e R s m args below meth c n0 T h k n) (hx : p.tables.exec = Jvm.exec) (hZ : Z.Warmed39 s.vm) {own : String} {index : Nat} {v : Int32} (hown : s.vm.findClass own = some m.cls) (w : (Jvm.Cond.constant own index v).before a0 Z = true)
    (hd : decode c.code pc = .ok (.ldc index, 2)) (hp : pc + 2 = pc') (K : Done p e below G (T.setTop (mkF m pc' Ls (.int v :: st)))) : Done p e below G (T.setTop (mkF m pc Ls st)) := by
  subst hp
  obtain ⟨_, X, -, -⟩ := S
  exact Done.go (X.ldcInt hx hown (mvT hZ w) (g := mkF m pc Ls st) rfl hd) K
theorem k_ldcwInt (S : St p l e R s m args below meth c n0 T h k n) (hx : p.tables.exec = Jvm.exec) (hZ : Z.Warmed39 s.vm) {own : String} {index : Nat} {v : Int32} (hown : s.vm.findClass own = some m.cls) (w : (Jvm.Cond.constant own index v).before a0 Z = true)
    (hd : decode c.code pc = .ok (.ldc_w index, 3)) (hp : pc + 3 = pc') (K : Done p e below G (T.setTop (mkF m pc' Ls (.int v :: st)))) : Done p e below G (T.setTop (mkF m pc Ls st)) := by
  subst hp
  obtain ⟨_, X, -, -⟩ := S
  exact Done.go (X.ldcwInt hx hown (mvT hZ w) (g := mkF m pc Ls st) rfl hd) K
theorem k_ldc2Long (S : St p l e R s m args below meth c n0 T h k n) (hx : p.tables.exec = Jvm.exec) (hZ : Z.Warmed39 s.vm) {own : String} {index : Nat} {v : Int64} (hown : s.vm.findClass own = some m.cls) (w : (Jvm.Cond.constantLong own index v).before a0 Z = true)
    (hd : decode c.code pc = .ok (.ldc2_w index, 3)) (hp : pc + 3 = pc') (K : Done p e below G (T.setTop (mkF m pc' Ls (.long v :: st)))) : Done p e below G (T.setTop (mkF m pc Ls st)) := by
  subst hp
  obtain ⟨_, X, -, -⟩ := S
  exact Done.go (X.ldc2Long hx hown (mvT hZ w) (g := mkF m pc Ls st) rfl hd) K
/-! ### returns -/
variable {Q : Option Value → Heap → Prop}
theorem k_ret_val {w : Value} {t : FieldType} {i : Instr} (S : St p l e R s m args below meth c n0 T h k n) (hx : p.tables.exec = Jvm.exec) (hret : meth.sig.returnType = some t) (hlk : meth.locks = false) (hd : decode c.code pc = .ok (i, 1)) (hn' : narrow t w = w)
    (hi : (i = .ireturn ∧ (t = .int ∨ t = .boolean ∨ t = .byte ∨ t = .char ∨ t = .short) ∧ ∃ z, w = .int z) ∨ (i = .lreturn ∧ t = .long ∧ ∃ z, w = .long z) ∨ (i = .dreturn ∧ t = .double ∧ ∃ z, w = .double z) ∨ (i = .freturn ∧ t = .float ∧ ∃ z, w = .float z) ∨ (i = .areturn ∧ t.isReference = true ∧ w.isRef = true))
    (hk : k ≤ R.cells) (hn : n ≤ R.slots) (q : Q (some w) h) : Done p e below (OEnd s R n0 Q) (T.setTop (mkF m pc Ls (w :: st))) := by
  obtain ⟨locs, X, N, eT⟩ := S
  obtain ⟨fs, hr, hrun, hended, hW, hsame⟩ := X.leave (v := some w) (fun h => by rw [hret] at h; cases h) hlk
  refine ⟨_, _, retOut X hx hret hn' hi hd hr, hrun, hended, _, locs, rfl, ⟨?_, N⟩, ⟨_, rfl⟩, hW, hsame.mono hk hn⟩
  show Q _ T.heap
  rw [eT]; exact q
theorem k_ret_int {z : Int32} (S : St p l e R s m args below meth c n0 T h k n) (hx : p.tables.exec = Jvm.exec) (hret : meth.sig.returnType = some .int) (hlk : meth.locks = false) (hd : decode c.code pc = .ok (.ireturn, 1))
    (hk : k ≤ R.cells) (hn : n ≤ R.slots) (q : Q (some (.int z)) h) : Done p e below (OEnd s R n0 Q) (T.setTop (mkF m pc Ls (.int z :: st))) :=
  k_ret_val S hx hret hlk hd rfl (Or.inl ⟨rfl, Or.inl rfl, z, rfl⟩) hk hn q
theorem k_ret_long {z : Int64} (S : St p l e R s m args below meth c n0 T h k n) (hx : p.tables.exec = Jvm.exec) (hret : meth.sig.returnType = some .long) (hlk : meth.locks = false) (hd : decode c.code pc = .ok (.lreturn, 1))
    (hk : k ≤ R.cells) (hn : n ≤ R.slots) (q : Q (some (.long z)) h) : Done p e below (OEnd s R n0 Q) (T.setTop (mkF m pc Ls (.long z :: st))) :=
  k_ret_val S hx hret hlk hd rfl (Or.inr (Or.inl ⟨rfl, rfl, z, rfl⟩)) hk hn q
theorem k_ret_ref {a : Addr} {t : FieldType} (S : St p l e R s m args below meth c n0 T h k n) (hx : p.tables.exec = Jvm.exec) (hret : meth.sig.returnType = some t) (ht : t.isReference = true) (hlk : meth.locks = false) (hd : decode c.code pc = .ok (.areturn, 1))
    (hk : k ≤ R.cells) (hn : n ≤ R.slots) (q : Q (some (.ref a)) h) : Done p e below (OEnd s R n0 Q) (T.setTop (mkF m pc Ls (.ref a :: st))) :=
  k_ret_val S hx hret hlk hd (by cases t <;> first | rfl | (cases ht; done)) (Or.inr (Or.inr (Or.inr (Or.inr ⟨rfl, ht, rfl⟩)))) hk hn q
theorem k_ret_nar {z z' : Int32} {t : FieldType} (S : St p l e R s m args below meth c n0 T h k n) (hx : p.tables.exec = Jvm.exec) (hret : meth.sig.returnType = some t) (ht : t = .boolean ∨ t = .byte ∨ t = .char ∨ t = .short) (hlk : meth.locks = false) (hd : decode c.code pc = .ok (.ireturn, 1)) (hz : nar t z = z')
    (hk : k ≤ R.cells) (hn : n ≤ R.slots) (q : Q (some (.int z')) h) : Done p e below (OEnd s R n0 Q) (T.setTop (mkF m pc Ls (.int z :: st))) := by
  obtain ⟨locs, X, N, eT⟩ := S
  subst hz
  obtain ⟨fs, hr, hrun, hended, hW, hsame⟩ := X.leave (v := some (.int (nar t z))) (fun h => by rw [hret] at h; cases h) hlk
  refine ⟨_, _, retN X hx hret ht hd hr, hrun, hended, _, locs, rfl, ⟨?_, N⟩, ⟨_, rfl⟩, hW, hsame.mono hk hn⟩
  show Q _ T.heap
  rw [eT]; exact q
theorem k_ret_void (S : St p l e R s m args below meth c n0 T h k n) (hx : p.tables.exec = Jvm.exec) (hret : meth.sig.returnType = none) (hlk : meth.locks = false) (hd : decode c.code pc = .ok (.return_, 1))
    (hk : k ≤ R.cells) (hn : n ≤ R.slots) (q : Q none h) : Done p e below (OEnd s R n0 Q) (T.setTop (mkF m pc Ls [])) := by
  obtain ⟨locs, X, N, eT⟩ := S
  obtain ⟨fs, hr, hrun, hended, hW, hsame⟩ := X.leave (v := none) (fun _ => rfl) hlk
  refine ⟨_, _, X.returnOut hx hret hd hr, hrun, hended, _, locs, rfl, ⟨?_, N⟩, ⟨_, rfl⟩, hW, hsame.mono hk hn⟩
  show Q _ T.heap
  rw [eT]; exact q
/-! ### calls by a contract -/
theorem k_call_static (S : St p l e R s m args below meth c n0 T h k n) (hx : p.tables.exec = Jvm.exec) (hZ : Z.Warmed39 s.vm) {own : String} {index : Nat} {y : MethodName} {bytes : ByteArray} {maxL : Nat} {ret : Option FieldType} (hown : s.vm.findClass own = some m.cls)
    (w1 : (Jvm.Cond.methodLink own index y).before a0 Z = true) (w2 : (Jvm.Cond.static y).before a0 Z = true) (w3 : (Jvm.Cond.initialized y.cls).before a0 Z = true) (w4 : (Jvm.Cond.code y bytes maxL ret).before a0 Z = true)
    (hy : y.cls ≠ "java/lang/invoke/MethodHandle" ∧ y.cls ≠ "java/lang/invoke/VarHandle") {rm : Room} {as' : Array Value} (C : Con l Z y bytes maxL ret rm n0 h as' Q) (W : Nat) {argsL rest : List Value}
    (hf : rm.frames + 1 ≤ R.frames) (hl : W + (maxL + 11) + rm.locals ≤ R.locals) (hml : Ls.size = c.maxLocals) (hlen : ∀ sig, parseMethodDescriptor y.desc = some sig → argsL.length = sig.parameters.length) (has : argsL.toArray = as')
    (hst : st = argsL.reverse ++ rest) (hW : (rest.map fun v => v.category).sum ≤ W) (hd : decode c.code pc = .ok (.invokestatic index, 3)) (hp : pc + 3 = pc') (hk : k + rm.cells ≤ R.cells) (hn : n + rm.slots ≤ R.slots)
    (K : ∀ v T' h', Q v h' → St p l e R s m args below meth c n0 T' h' (k + rm.cells) (n + rm.slots) → Done p e below G (T'.setTop (mkF m pc' Ls (v.toList ++ rest)))) :
    Done p e below G (T.setTop (mkF m pc Ls st)) := by
  subst hp
  obtain ⟨locs, X, N, eT⟩ := S
  obtain ⟨v, vm₁, ⟨T', L', k', n'⟩, -, X', ⟨L, ⟨hQ, NL⟩, e1, e2, e3⟩, step⟩ := Jvm.LawKit.callS X hx (y := y) hown (mvT hZ w1) (mvT hZ w2) (mvT hZ w3) (mvT hZ w4) hy
    (backOf (W := W) (Q := fun v h L => Q v h ∧ Fr n0 L) (C []) hZ w4 w3 hf hl) (g := mkF m pc Ls st) rfl hml (argsL := argsL) (rest := rest) hlen hst (by show 2 * 0 + _ ≤ _; omega) hd
    (fun _ _ => ⟨has, eT, hk, hn⟩)
  dsimp only [Pt.U, Pt.locs, Pt.cells, Pt.slots] at X' hQ e1 e2 e3 step
  subst e1 e2 e3
  exact Done.go step (K v T' T'.heap hQ ⟨_, X', Fr.app N NL, rfl⟩)
theorem k_call_init (S : St p l e R s m args below meth c n0 T h k n) (hx : p.tables.exec = Jvm.exec) (hZ : Z.Warmed39 s.vm) {own : String} {index : Nat} {y : MethodName} {bytes : ByteArray} {maxL : Nat} (hown : s.vm.findClass own = some m.cls) (hy1 : y.name = "<init>")
    (w1 : (Jvm.Cond.methodLink own index y).before a0 Z = true) (w2 : (Jvm.Cond.instanceMethod y).before a0 Z = true) (w3 : (Jvm.Cond.initialized y.cls).before a0 Z = true) (w4 : (Jvm.Cond.code y bytes maxL none).before a0 Z = true)
    (hy : y.cls ≠ "java/lang/invoke/MethodHandle" ∧ y.cls ≠ "java/lang/invoke/VarHandle") {rm : Room} {as' : Array Value} (C : Con l Z y bytes maxL none rm n0 h as' Q) (W : Nat) {a : Addr} {argsL rest : List Value}
    (hf : rm.frames + 1 ≤ R.frames) (hl : W + (maxL + 11) + rm.locals ≤ R.locals) (hml : Ls.size = c.maxLocals) (hlen : ∀ sig, parseMethodDescriptor y.desc = some sig → argsL.length = sig.parameters.length) (has : (.ref a :: argsL).toArray = as')
    (hst : st = argsL.reverse ++ .ref a :: rest) (hW : (rest.map fun v => v.category).sum ≤ W) (hd : decode c.code pc = .ok (.invokespecial index, 3)) (hp : pc + 3 = pc') (hk : k + rm.cells ≤ R.cells) (hn : n + rm.slots ≤ R.slots)
    (K : ∀ v T' h', Q v h' → St p l e R s m args below meth c n0 T' h' (k + rm.cells) (n + rm.slots) → Done p e below G (T'.setTop (mkF m pc' Ls (v.toList ++ rest)))) :
    Done p e below G (T.setTop (mkF m pc Ls st)) := by
  subst hp
  obtain ⟨locs, X, N, eT⟩ := S
  obtain ⟨v, vm₁, ⟨T', L', k', n'⟩, -, X', ⟨L, ⟨hQ, NL⟩, e1, e2, e3⟩, step⟩ := X.specialBack hx (y := y) hy1 hown (mvT hZ w1) (mvT hZ w2) (mvT hZ w4) hy
    (backOf (W := W) (Q := fun v h L => Q v h ∧ Fr n0 L) (C []) hZ w4 w3 hf hl) (g := mkF m pc Ls st) rfl hml (Steps.refl _) (a := a) (argsL := argsL) (rest := rest) hlen hst (by show 2 * 0 + _ ≤ _; omega) hd
    (fun _ _ => ⟨has, eT, hk, hn⟩)
  dsimp only [Pt.U, Pt.locs, Pt.cells, Pt.slots] at X' hQ e1 e2 e3 step
  subst e1 e2 e3
  exact Done.go (fun t q => step.trans q) (K v T' T'.heap hQ ⟨_, X', Fr.app N NL, rfl⟩)
theorem k_call_virtual (S : St p l e R s m args below meth c n0 T h k n) (hx : p.tables.exec = Jvm.exec) (hZ : Z.Warmed39 s.vm) {own : String} {index : Nat} {y : MethodName} {bytes : ByteArray} {maxL : Nat} {ret : Option FieldType} (hown : s.vm.findClass own = some m.cls) {a : Addr} (E : Exa Z h a y.cls)
    (w1 : (Jvm.Cond.methodLink own index y).before a0 Z = true) (w2 : (Jvm.Cond.declares y).before a0 Z = true) (w5 : (Jvm.Cond.selects y.cls y y).before a0 Z = true) (w6 : (Jvm.Cond.instanceMethod y).before a0 Z = true) (w3 : (Jvm.Cond.initialized y.cls).before a0 Z = true) (w4 : (Jvm.Cond.code y bytes maxL ret).before a0 Z = true)
    (hy : y.cls ≠ "java/lang/invoke/MethodHandle" ∧ y.cls ≠ "java/lang/invoke/VarHandle") {rm : Room} {as' : Array Value} (C : Con l Z y bytes maxL ret rm n0 h as' Q) (W : Nat) {argsL rest : List Value}
    (hf : rm.frames + 1 ≤ R.frames) (hl : W + (maxL + 11) + rm.locals ≤ R.locals) (hml : Ls.size = c.maxLocals) (hlen : ∀ sig, parseMethodDescriptor y.desc = some sig → argsL.length = sig.parameters.length) (has : (.ref a :: argsL).toArray = as')
    (hst : st = argsL.reverse ++ .ref a :: rest) (hW : (rest.map fun v => v.category).sum ≤ W) (hd : decode c.code pc = .ok (.invokevirtual index, 3)) (hp : pc + 3 = pc') (hk : k + rm.cells ≤ R.cells) (hn : n + rm.slots ≤ R.slots)
    (K : ∀ v T' h', Q v h' → St p l e R s m args below meth c n0 T' h' (k + rm.cells) (n + rm.slots) → Done p e below G (T'.setTop (mkF m pc' Ls (v.toList ++ rest)))) :
    Done p e below G (T.setTop (mkF m pc Ls st)) := by
  subst hp
  obtain ⟨locs, X, N, eT⟩ := S
  obtain ⟨cq, kq, qa, qb, qc⟩ := isOf hZ eT E
  obtain ⟨v, vm₁, ⟨T', L', k', n'⟩, -, X', ⟨L, ⟨hQ, NL⟩, e1, e2, e3⟩, step⟩ := X.virtualBack hx (y := y) (z := y) hown (mvT hZ w1) (mvT hZ w2) (notFace_of_selects (args := #[]) (mvT hZ w5)) (mvT hZ w5) (mvT hZ w6) hy
    (backOf (W := W) (Q := fun v h L => Q v h ∧ Fr n0 L) (C []) hZ w4 w3 hf hl) qa qc (g := mkF m pc Ls st) rfl hml (Steps.refl _) (argsL := argsL) (rest := rest) hlen hst (by show 2 * 0 + _ ≤ _; omega) hd
    (fun _ _ => ⟨has, eT, hk, hn⟩)
  dsimp only [Pt.U, Pt.locs, Pt.cells, Pt.slots] at X' hQ e1 e2 e3 step
  subst e1 e2 e3
  exact Done.go (fun t q => step.trans q) (K v T' T'.heap hQ ⟨_, X', Fr.app N NL, rfl⟩)
theorem k_call_private (S : St p l e R s m args below meth c n0 T h k n) (hx : p.tables.exec = Jvm.exec) (hZ : Z.Warmed39 s.vm) {own : String} {index : Nat} {y : MethodName} {bytes : ByteArray} {maxL : Nat} {ret : Option FieldType} (hown : s.vm.findClass own = some m.cls) {a : Addr} (E : Exa Z h a y.cls)
    (w1 : (Jvm.Cond.methodLink own index y).before a0 Z = true) (w6 : (Jvm.Cond.instanceMethod y).before a0 Z = true) (w5 : (Jvm.Cond.selects y.cls y y).before a0 Z = true) (w7 : (Jvm.Cond.privateMethod y).before a0 Z = true) (w3 : (Jvm.Cond.initialized y.cls).before a0 Z = true) (w4 : (Jvm.Cond.code y bytes maxL ret).before a0 Z = true)
    (hy : y.cls ≠ "java/lang/invoke/MethodHandle" ∧ y.cls ≠ "java/lang/invoke/VarHandle") {rm : Room} {as' : Array Value} (C : Con l Z y bytes maxL ret rm n0 h as' Q) (W : Nat) {argsL rest : List Value}
    (hf : rm.frames + 1 ≤ R.frames) (hl : W + (maxL + 11) + rm.locals ≤ R.locals) (hml : Ls.size = c.maxLocals) (hlen : ∀ sig, parseMethodDescriptor y.desc = some sig → argsL.length = sig.parameters.length) (has : (.ref a :: argsL).toArray = as')
    (hst : st = argsL.reverse ++ .ref a :: rest) (hW : (rest.map fun v => v.category).sum ≤ W) (hd : decode c.code pc = .ok (.invokevirtual index, 3)) (hp : pc + 3 = pc') (hk : k + rm.cells ≤ R.cells) (hn : n + rm.slots ≤ R.slots)
    (K : ∀ v T' h', Q v h' → St p l e R s m args below meth c n0 T' h' (k + rm.cells) (n + rm.slots) → Done p e below G (T'.setTop (mkF m pc' Ls (v.toList ++ rest)))) :
    Done p e below G (T.setTop (mkF m pc Ls st)) := by
  subst hp
  obtain ⟨locs, X, N, eT⟩ := S
  obtain ⟨cq, q1, q2⟩ := E.cell
  obtain ⟨v, vm₁, ⟨T', L', k', n'⟩, -, X', ⟨L, ⟨hQ, NL⟩, e1, e2, e3⟩, step⟩ := X.privateBack hx (y := y) hown (mvT hZ w1) (mvT hZ w6) (mvT hZ w5) (Cond.privateMethod_at (mvP hZ w7 (args := #[]))) (mvT hZ w4) hy
    (backOf (W := W) (Q := fun v h L => Q v h ∧ Fr n0 L) (C []) hZ w4 w3 hf hl) (g := mkF m pc Ls st) rfl hml (Steps.refl _) (a := a) (by rw [eT]; exact q1) q2 (argsL := argsL) (rest := rest) hlen hst (by show 2 * 0 + _ ≤ _; omega) hd
    (fun _ _ => ⟨has, eT, hk, hn⟩)
  dsimp only [Pt.U, Pt.locs, Pt.cells, Pt.slots] at X' hQ e1 e2 e3 step
  subst e1 e2 e3
  exact Done.go (fun t q => step.trans q) (K v T' T'.heap hQ ⟨_, X', Fr.app N NL, rfl⟩)
/-- any one step of the library's that leaves the heap and the room as they are -/
theorem k_via {f f' : JFrame} (S : St p l e R s m args below meth c n0 T h k n) (I : ∀ locs, Stand p l e R s m args below meth c T locs k n → T.heap = h → ∃ T', Stand p l e R s m args below meth c T' locs k n ∧ T'.heap = h ∧ ∀ target, Steps p.tables e below (T'.setTop f') target → Steps p.tables e below (T.setTop f) target)
    (K : ∀ T', St p l e R s m args below meth c n0 T' h k n → Done p e below G (T'.setTop f')) : Done p e below G (T.setTop f) := by
  obtain ⟨locs, X, N, eT⟩ := S
  obtain ⟨T', X', eT', step⟩ := I locs X eT
  exact Done.go step (K T' ⟨_, X', N, eT'⟩)
/-! ### the heap: objects and fields -/
theorem k_getfield (S : St p l e R s m args below meth c n0 T h k n) (hx : p.tables.exec = Jvm.exec) (hZ : Z.Warmed39 s.vm) {own O f d : String} {index : Nat} (hown : s.vm.findClass own = some m.cls) (w : (Jvm.Cond.fieldLink own index O f d).before a0 Z = true)
    {a : Addr} {v : Value} (F : Fld Z h a O f d v) (hd : decode c.code pc = .ok (.getfield index, 3)) (hp : pc + 3 = pc')
    (K : ∀ T', St p l e R s m args below meth c n0 T' h k n → Done p e below G (T'.setTop (mkF m pc' Ls (v :: st)))) : Done p e below G (T.setTop (mkF m pc Ls (.ref a :: st))) := by
  subst hp
  obtain ⟨locs, X, N, eT⟩ := S
  obtain ⟨T', X', eT', step⟩ := getF X hx hZ hown (host := "") (Or.inl w) Via.refl eT F (g := mkF m pc Ls (.ref a :: st)) rfl rfl hd
  exact Done.go step (K T' ⟨_, X', N, eT'⟩)
theorem k_putfield (S : St p l e R s m args below meth c n0 T h k n) (hx : p.tables.exec = Jvm.exec) (hZ : Z.Warmed39 s.vm) {own O f d C : String} {index kk : Nat} {ty : FieldType} (hown : s.vm.findClass own = some m.cls) (w : (Jvm.Cond.fieldLink own index O f d).before a0 Z = true)
    {a : Addr} {v old : Value} (F : Fld Z h a O f d old) (E : Exa Z h a C) (L : (Jvm.Cond.lays C O f d).before a0 Z = true ∨ ((Jvm.Cond.laysFinal C O f d).before a0 Z = true ∧ own = O ∧ meth.name = "<init>")) (wi : (Jvm.Cond.instantiable C kk).before a0 Z = true)
    (hty : parseFieldDescriptor d = some ty) (hn' : narrow ty v = v) (hf : fits ty v = true) (ha : n0 ≤ a) (hd : decode c.code pc = .ok (.putfield index, 3)) (hp : pc + 3 = pc')
    (K : ∀ T' h', Wr h h' a (Jvm.RoadKit.slotOf Z O f d) v → St p l e R s m args below meth c n0 T' h' k n → Done p e below G (T'.setTop (mkF m pc' Ls st))) : Done p e below G (T.setTop (mkF m pc Ls (v :: .ref a :: st))) := by
  subst hp
  obtain ⟨locs, X, N, eT⟩ := S
  obtain ⟨T', h', X', eT', W, step⟩ := putF X hx hZ hown (host := "") (Or.inl w) Via.refl eT F E L wi hty hn' hf (g := mkF m pc Ls (v :: .ref a :: st)) rfl rfl hd
  exact Done.go step (K T' h' W ⟨_, X', Fr.snoc X' N ha, eT'⟩)
theorem k_new (S : St p l e R s m args below meth c n0 T h k n) (hx : p.tables.exec = Jvm.exec) (hZ : Z.Warmed39 s.vm) {own C : String} {index f : Nat} (hown : s.vm.findClass own = some m.cls) (w : (Jvm.Cond.classLink own index C).before a0 Z = true) (wi : (Jvm.Cond.instantiable C f).before a0 Z = true) (wz : (Jvm.Cond.initialized C).before a0 Z = true)
    (hd : decode c.code pc = .ok (.new index, 3)) (hp : pc + 3 = pc') (hk : k + 1 ≤ R.cells) (hn : n + f ≤ R.slots)
    (K : ∀ T' h' b, b = h.size → Ext h h' → Exa Z h' b C → (∀ {O nm d : String} {ty : FieldType}, Laid Z a0 C O nm d → parseFieldDescriptor d = some ty → Fld Z h' b O nm d (defaultValue ty)) → St p l e R s m args below meth c n0 T' h' (k + 1) (n + f) → Done p e below G (T'.setTop (mkF m pc' Ls (.ref b :: st)))) :
    Done p e below G (T.setTop (mkF m pc Ls st)) := by
  subst hp
  obtain ⟨locs, X, N, eT⟩ := S
  obtain ⟨T', h', X', eT', E, A, D, -, step⟩ := newO X hx hZ hown w wi wz eT (g := mkF m pc Ls st) rfl hd hk hn
  exact Done.go step (K T' h' _ rfl E A D ⟨_, X', N, eT'⟩)
end Walk
end Jvm.OwnKit

namespace Jvm.Pilot.@@N@@
open Jvm Jvm.ClassFile Sem Op Lib Jvm.Free Jvm.Stand Jvm.LawKit Jvm.RoadKit Jvm.OwnKit Bundle Jvm.Pilot.@@N@@.Jvm.D
abbrev own_U (x : Int64) (q : Int32) : Int64 := (x.toUInt64 >>> (q &&& 0x3f).toInt64.toUInt64).toInt64
/-- the bit at k -/
abbrev own_b (x : Int64) (k : Nat) : Bool := x.toBitVec.getLsbD k
theorem own_Ub (x : Int64) (q : Int32) (n : Nat) (hn : ((q &&& 0x3f).toInt64.toBitVec.toNat) % 64 = n) (k : Nat) : own_b (own_U x q) k = own_b x (k + n) := by
  have h : (own_U x q).toBitVec = x.toBitVec >>> n := by
    show x.toBitVec >>> ((q &&& 0x3f).toInt64.toBitVec % 64) = _
    rw [BitVec.ushiftRight_eq', BitVec.toNat_umod]
    have : (64 : BitVec 64).toNat = 64 := rfl
    rw [this, hn]
  simp [own_b, h, BitVec.getLsbD_ushiftRight, Nat.add_comm]
theorem own_one (x : Int64) : (¬ (x &&& 1) = 0) ↔ own_b x 0 = true := by
  rw [← Int64.toBitVec_inj]
  simp only [own_b, Int64.toBitVec_and]
  have : (x.toBitVec &&& 1#64 = 0#64) ↔ x.toBitVec.getLsbD 0 = false := by
    constructor
    · intro h
      have := congrArg (fun z => z.getLsbD 0) h
      simpa using this
    · intro h
      ext i hi
      simp only [BitVec.getElem_and, BitVec.getElem_one, BitVec.getElem_zero]
      by_cases hi0 : i = 0
      · subst hi0; simp [← BitVec.getLsbD_eq_getElem, h]
      · simp [hi0]
  show ¬ (x.toBitVec &&& 1#64 = 0#64) ↔ _
  rw [this]; simp
def own_on (x : Int64) (i : Int32) : Int32 := if i < 64 ∧ ¬ (own_U x i &&& 1) = 0 then 1 else 0
theorem own_on_iff (x : Int64) (i : Int32) (n : Nat) (hi : i.toInt = (n : Int)) : own_on x i = if own_b x n = true then 1 else 0 := by
  unfold own_on
  simp only [own_one]
  by_cases h : n < 64
  · have hq : ((i &&& 0x3f).toInt64.toBitVec.toNat) % 64 = n := by
      have : i = Int32.ofInt n := by rw [← hi]; simp
      subst this
      revert n; decide
    rw [own_Ub x i n hq]
    have : i < 64 := by simp only [Int32.lt_iff_toInt_lt, Int32.reduceToInt]; omega
    simp [this]
  · have : ¬ i < 64 := by simp only [Int32.lt_iff_toInt_lt, Int32.reduceToInt]; omega
    have h2 : own_b x n = false := BitVec.getLsbD_of_ge _ _ (by omega)
    simp [this, h2]

def own_dn (f o P : Int64) (q : Int32) : Int64 :=
  (((o &&& own_U f q) ||| (o &&& own_U (o &&& own_U f q) q)) ||| (P &&& own_U ((o &&& own_U f q) ||| (o &&& own_U (o &&& own_U f q) q)) (q + q))) ||| (P &&& own_U (((o &&& own_U f q) ||| (o &&& own_U (o &&& own_U f q) q)) ||| (P &&& own_U ((o &&& own_U f q) ||| (o &&& own_U (o &&& own_U f q) q)) (q + q))) (q + q))
theorem own_b_and (x y : Int64) (k : Nat) : own_b (x &&& y) k = (own_b x k && own_b y k) := by simp [own_b]
theorem own_b_or (x y : Int64) (k : Nat) : own_b (x ||| y) k = (own_b x k || own_b y k) := by simp [own_b]
theorem own_bits (f o : Int64) (q : Int32) (n k : Nat) (h1 : ((q &&& 0x3f).toInt64.toBitVec.toNat) % 64 = n) (h2 : (((q + q) &&& 0x3f).toInt64.toBitVec.toNat) % 64 = 2 * n) :
    own_b (own_dn f o (o &&& own_U o q) q) k = (own_b o k && (own_b f (k + n) || own_b o (k + n) && (own_b f (k + 2 * n) || own_b o (k + 2 * n) && (own_b f (k + 3 * n) || own_b o (k + 3 * n) && (own_b f (k + 4 * n) || own_b o (k + 4 * n) && (own_b f (k + 5 * n) || own_b o (k + 5 * n) && own_b f (k + 6 * n))))))) := by
  unfold own_dn
  simp only [own_b_or, own_b_and, own_Ub _ q n h1, own_Ub _ (q + q) (2 * n) h2]
  have e2 : k + n + n = k + 2 * n := by omega
  have e3 : k + 2 * n + n = k + 3 * n := by omega
  have e4 : k + 2 * n + 2 * n = k + 4 * n := by omega
  have e4b : k + 3 * n + n = k + 4 * n := by omega
  have e5 : k + 4 * n + n = k + 5 * n := by omega
  have e6 : k + 5 * n + n = k + 6 * n := by omega
  simp only [e2, e3, e4, e4b, e5, e6]
  generalize own_b o k = o0; generalize own_b f (k + n) = f1; generalize own_b o (k + n) = o1
  cases o0 <;> simp only [Bool.false_and, Bool.true_and, Bool.or_false, Bool.false_or]
  cases f1 <;> simp only [Bool.true_or, Bool.false_or, Bool.and_false, Bool.and_true, Bool.or_true, Bool.or_false]
  cases o1 <;> simp only [Bool.false_and, Bool.true_and, Bool.or_false, Bool.false_or]
  generalize own_b f (k + 2 * n) = f2; generalize own_b o (k + 2 * n) = o2; generalize own_b f (k + 3 * n) = f3; generalize own_b o (k + 3 * n) = o3; generalize own_b f (k + 4 * n) = f4; generalize own_b o (k + 4 * n) = o4; generalize own_b f (k + 5 * n) = f5; generalize own_b o (k + 5 * n) = o5; generalize own_b f (k + 6 * n) = f6
  revert f2 o2 f3 o3 f4 o4 f5 o5 f6; decide
def own_E (f o : Int64) (q k : Int32) : Int32 :=
  if own_on o k = 0 then 0 else if ¬ own_on f (k + q) = 0 then 1 else if own_on o (k + q) = 0 then 0 else if ¬ own_on f (k + 2 * q) = 0 then 1 else if own_on o (k + 2 * q) = 0 then 0 else
  if ¬ own_on f (k + 3 * q) = 0 then 1 else if own_on o (k + 3 * q) = 0 then 0 else if ¬ own_on f (k + 4 * q) = 0 then 1 else if own_on o (k + 4 * q) = 0 then 0 else
  if ¬ own_on f (k + 5 * q) = 0 then 1 else if own_on o (k + 5 * q) = 0 then 0 else if own_on f (k + 6 * q) = 0 then 0 else 1
theorem own_toI (k q : Int32) (a b : Int) (ha : k.toInt = a) (hb : q.toInt = b) (h1 : 0 ≤ a) (h2 : 0 ≤ b) (h3 : a + b < 1000) : (k + q).toInt = a + b := by
  rw [Int32.toInt_add, ha, hb, Int.bmod_eq_of_le (by omega) (by omega)]
theorem own_plain1 (f o : Int64) (q k : Int32) (n kn : Nat) (hk : k.toInt = (kn : Int)) (hkn : kn < 64) (h1 : ((q &&& 0x3f).toInt64.toBitVec.toNat) % 64 = n) (h2 : (((q + q) &&& 0x3f).toInt64.toBitVec.toNat) % 64 = 2 * n) (hn : n < 10)
    (p1 : q.toInt = n) (p2 : (2 * q).toInt = 2 * n) (p3 : (3 * q).toInt = 3 * n) (p4 : (4 * q).toInt = 4 * n) (p5 : (5 * q).toInt = 5 * n) (p6 : (6 * q).toInt = 6 * n) :
    own_E f o q k = if own_b (own_dn f o (o &&& own_U o q) q) kn = true then 1 else 0 := by
  rw [own_bits f o q n kn h1 h2]
  unfold own_E
  have z (x : Int64) (i : Int32) (n : Nat) (hi : i.toInt = (n : Int)) : own_on x i = 0 ↔ own_b x n = false := by
    rw [own_on_iff x i n hi]; cases own_b x n <;> simp
  simp only [z o k kn hk, z f (k + q) (kn + n) (own_toI _ _ _ _ hk p1 (by omega) (by omega) (by omega)), z o (k + q) (kn + n) (own_toI _ _ _ _ hk p1 (by omega) (by omega) (by omega)),
    z f (k + 2 * q) (kn + 2 * n) (own_toI _ _ _ _ hk p2 (by omega) (by omega) (by omega)), z o (k + 2 * q) (kn + 2 * n) (own_toI _ _ _ _ hk p2 (by omega) (by omega) (by omega)),
    z f (k + 3 * q) (kn + 3 * n) (own_toI _ _ _ _ hk p3 (by omega) (by omega) (by omega)), z o (k + 3 * q) (kn + 3 * n) (own_toI _ _ _ _ hk p3 (by omega) (by omega) (by omega)),
    z f (k + 4 * q) (kn + 4 * n) (own_toI _ _ _ _ hk p4 (by omega) (by omega) (by omega)), z o (k + 4 * q) (kn + 4 * n) (own_toI _ _ _ _ hk p4 (by omega) (by omega) (by omega)),
    z f (k + 5 * q) (kn + 5 * n) (own_toI _ _ _ _ hk p5 (by omega) (by omega) (by omega)), z o (k + 5 * q) (kn + 5 * n) (own_toI _ _ _ _ hk p5 (by omega) (by omega) (by omega)),
    z f (k + 6 * q) (kn + 6 * n) (own_toI _ _ _ _ hk p6 (by omega) (by omega) (by omega))]
  generalize own_b o kn = o0; generalize own_b f (kn + n) = f1; generalize own_b o (kn + n) = o1
  generalize own_b f (kn + 2 * n) = f2; generalize own_b o (kn + 2 * n) = o2; generalize own_b f (kn + 3 * n) = f3; generalize own_b o (kn + 3 * n) = o3; generalize own_b f (kn + 4 * n) = f4; generalize own_b o (kn + 4 * n) = o4; generalize own_b f (kn + 5 * n) = f5; generalize own_b o (kn + 5 * n) = o5; generalize own_b f (kn + 6 * n) = f6
  cases o0 <;> simp
  cases f1 <;> simp
  cases o1 <;> simp
  cases f2 <;> simp
  cases o2 <;> simp
  cases f3 <;> simp
  cases o3 <;> simp
  cases f4 <;> simp
  cases o4 <;> simp
  cases f5 <;> simp
  cases o5 <;> simp
  cases f6 <;> simp
theorem own_plain (f o : Int64) (q k : Int32) (hq : q = 1 ∨ q = 7 ∨ q = 8 ∨ q = 9) (kn : Nat) (hk : k.toInt = (kn : Int)) (hkn : kn < 64) :
    own_E f o q k = if ¬ (own_U (own_dn f o (o &&& own_U o q) q) k &&& 1) = 0 then 1 else 0 := by
  have e : (if ¬ (own_U (own_dn f o (o &&& own_U o q) q) k &&& 1) = 0 then (1 : Int32) else 0) = if own_b (own_dn f o (o &&& own_U o q) q) kn = true then 1 else 0 := by
    rw [← own_on_iff _ k kn hk]
    unfold own_on
    have : k < 64 := by simp only [Int32.lt_iff_toInt_lt, Int32.reduceToInt]; omega
    simp [this]
  rw [e]
  rcases hq with rfl | rfl | rfl | rfl
  · exact own_plain1 f o _ k 1 kn hk hkn (by decide) (by decide) (by decide) (by decide) (by decide) (by decide) (by decide) (by decide) (by decide)
  · exact own_plain1 f o _ k 7 kn hk hkn (by decide) (by decide) (by decide) (by decide) (by decide) (by decide) (by decide) (by decide) (by decide)
  · exact own_plain1 f o _ k 8 kn hk hkn (by decide) (by decide) (by decide) (by decide) (by decide) (by decide) (by decide) (by decide) (by decide)
  · exact own_plain1 f o _ k 9 kn hk hkn (by decide) (by decide) (by decide) (by decide) (by decide) (by decide) (by decide) (by decide) (by decide)

def own_pick (i : Int32) : Int32 := if i = 0 then 1 else if i = 1 then 7 else if i = 2 then 8 else 9
theorem own_k63 (x : Int32) : ∃ kn : Nat, (x &&& 63).toInt = (kn : Int) ∧ kn < 64 := by
  have q := c_mask x 63 6 (by decide) (by decide)
  refine ⟨(x.toInt % 64).toNat, ?_, ?_⟩
  · rw [q]; show x.toInt % 64 = _; omega
  · omega
theorem own_d1_0 : decode prog_34_method_5_code 0 = .ok (.lload_n 2, 1) := by decide +kernel
theorem own_d1_1 : decode prog_34_method_5_code 1 = .ok (.lload_n 0, 1) := by decide +kernel
theorem own_d1_2 : decode prog_34_method_5_code 2 = .ok (.iload 6, 2) := by decide +kernel
theorem own_d1_4 : decode prog_34_method_5_code 4 = .ok (.lushr, 1) := by decide +kernel
theorem own_d1_5 : decode prog_34_method_5_code 5 = .ok (.land, 1) := by decide +kernel
theorem own_d1_6 : decode prog_34_method_5_code 6 = .ok (.lstore 7, 2) := by decide +kernel
theorem own_d1_8 : decode prog_34_method_5_code 8 = .ok (.lload 7, 2) := by decide +kernel
theorem own_d1_10 : decode prog_34_method_5_code 10 = .ok (.lload_n 2, 1) := by decide +kernel
theorem own_d1_11 : decode prog_34_method_5_code 11 = .ok (.lload 7, 2) := by decide +kernel
theorem own_d1_13 : decode prog_34_method_5_code 13 = .ok (.iload 6, 2) := by decide +kernel
theorem own_d1_15 : decode prog_34_method_5_code 15 = .ok (.lushr, 1) := by decide +kernel
theorem own_d1_16 : decode prog_34_method_5_code 16 = .ok (.land, 1) := by decide +kernel
theorem own_d1_17 : decode prog_34_method_5_code 17 = .ok (.lor, 1) := by decide +kernel
theorem own_d1_18 : decode prog_34_method_5_code 18 = .ok (.lstore 7, 2) := by decide +kernel
theorem own_d1_20 : decode prog_34_method_5_code 20 = .ok (.lload 7, 2) := by decide +kernel
theorem own_d1_22 : decode prog_34_method_5_code 22 = .ok (.lload 4, 2) := by decide +kernel
theorem own_d1_24 : decode prog_34_method_5_code 24 = .ok (.lload 7, 2) := by decide +kernel
theorem own_d1_26 : decode prog_34_method_5_code 26 = .ok (.iload 6, 2) := by decide +kernel
theorem own_d1_28 : decode prog_34_method_5_code 28 = .ok (.iload 6, 2) := by decide +kernel
theorem own_d1_30 : decode prog_34_method_5_code 30 = .ok (.iadd, 1) := by decide +kernel
theorem own_d1_31 : decode prog_34_method_5_code 31 = .ok (.lushr, 1) := by decide +kernel
theorem own_d1_32 : decode prog_34_method_5_code 32 = .ok (.land, 1) := by decide +kernel
theorem own_d1_33 : decode prog_34_method_5_code 33 = .ok (.lor, 1) := by decide +kernel
theorem own_d1_34 : decode prog_34_method_5_code 34 = .ok (.lstore 7, 2) := by decide +kernel
theorem own_d1_36 : decode prog_34_method_5_code 36 = .ok (.lload 7, 2) := by decide +kernel
theorem own_d1_38 : decode prog_34_method_5_code 38 = .ok (.lload 4, 2) := by decide +kernel
theorem own_d1_40 : decode prog_34_method_5_code 40 = .ok (.lload 7, 2) := by decide +kernel
theorem own_d1_42 : decode prog_34_method_5_code 42 = .ok (.iload 6, 2) := by decide +kernel
theorem own_d1_44 : decode prog_34_method_5_code 44 = .ok (.iload 6, 2) := by decide +kernel
theorem own_d1_46 : decode prog_34_method_5_code 46 = .ok (.iadd, 1) := by decide +kernel
theorem own_d1_47 : decode prog_34_method_5_code 47 = .ok (.lushr, 1) := by decide +kernel
theorem own_d1_48 : decode prog_34_method_5_code 48 = .ok (.land, 1) := by decide +kernel
theorem own_d1_49 : decode prog_34_method_5_code 49 = .ok (.lor, 1) := by decide +kernel
theorem own_d1_50 : decode prog_34_method_5_code 50 = .ok (.lreturn, 1) := by decide +kernel
theorem own_pn1 : plainName "com/example/flankline/flankline/rules/Moves" = true := by first | (simp [plainName, overriddenIn]; done) | decide +kernel
set_option maxRecDepth 65536 in
set_option maxHeartbeats 40000000 in
theorem own_cd (l : Launch) (Z : State) (a0 : Array Value) (hw : ∀ d ∈ tables_1, d.before a0 Z = true) (f o P : Int64) (q : Int32) (h0 : Heap) (n0 : Nat) :
    Con l Z (⟨"com/example/flankline/flankline/rules/Moves", "lineDown", "(JJJI)J"⟩ : MethodName) prog_34_method_5_code 9 (some .long) ({ frames := 0, cells := 0, slots := 0, locals := 0 } : Room) n0 h0 #[(.long f), (.long o), (.long P), (.int q)] (fun v h => v = some (.long (own_dn f o P q)) ∧ h = h0) := by
  refine Con.intro (plainFor_of_name own_pn1) (Ls := #[.val (.long f), .second, .val (.long o), .second, .val (.long P), .second, .val (.int q), .unset, .unset]) (fun m => by first | (simp [entryFrame, mkF, argsToLocals, Value.category]; done) | rfl) ?_
  intro p e s m below meth c s₁ hx hby hml hown hnm hret hlk hZ S0
  have A0 := S0.here
  refine k_lloadN A0 hx (hb hby own_d1_0) rfl (pc' := 1) rfl ?_
  refine k_lloadN A0 hx (hb hby own_d1_1) rfl (pc' := 2) rfl ?_
  refine k_iload A0 hx (hb hby own_d1_2) rfl (pc' := 4) rfl ?_
  refine k_lushr A0 hx (hb hby own_d1_4) (pc' := 5) rfl ?_
  refine k_land A0 hx (hb hby own_d1_5) (pc' := 6) rfl ?_
  refine k_lstore A0 hx (hb hby own_d1_6) (Ls' := #[.val (.long f), .second, .val (.long o), .second, .val (.long P), .second, .val (.int q), .val (.long (o &&& ((f.toUInt64 >>> (q &&& 0x3f).toInt64.toUInt64).toInt64))), .second]) rfl (pc' := 8) rfl ?_
  refine k_lload A0 hx (hb hby own_d1_8) rfl (pc' := 10) rfl ?_
  refine k_lloadN A0 hx (hb hby own_d1_10) rfl (pc' := 11) rfl ?_
  refine k_lload A0 hx (hb hby own_d1_11) rfl (pc' := 13) rfl ?_
  refine k_iload A0 hx (hb hby own_d1_13) rfl (pc' := 15) rfl ?_
  refine k_lushr A0 hx (hb hby own_d1_15) (pc' := 16) rfl ?_
  refine k_land A0 hx (hb hby own_d1_16) (pc' := 17) rfl ?_
  refine k_lor A0 hx (hb hby own_d1_17) (pc' := 18) rfl ?_
  refine k_lstore A0 hx (hb hby own_d1_18) (Ls' := #[.val (.long f), .second, .val (.long o), .second, .val (.long P), .second, .val (.int q), .val (.long ((o &&& ((f.toUInt64 >>> (q &&& 0x3f).toInt64.toUInt64).toInt64)) ||| (o &&& (((o &&& ((f.toUInt64 >>> (q &&& 0x3f).toInt64.toUInt64).toInt64)).toUInt64 >>> (q &&& 0x3f).toInt64.toUInt64).toInt64)))), .second]) rfl (pc' := 20) rfl ?_
  refine k_lload A0 hx (hb hby own_d1_20) rfl (pc' := 22) rfl ?_
  refine k_lload A0 hx (hb hby own_d1_22) rfl (pc' := 24) rfl ?_
  refine k_lload A0 hx (hb hby own_d1_24) rfl (pc' := 26) rfl ?_
  refine k_iload A0 hx (hb hby own_d1_26) rfl (pc' := 28) rfl ?_
  refine k_iload A0 hx (hb hby own_d1_28) rfl (pc' := 30) rfl ?_
  refine k_iadd A0 hx (hb hby own_d1_30) (pc' := 31) rfl ?_
  refine k_lushr A0 hx (hb hby own_d1_31) (pc' := 32) rfl ?_
  refine k_land A0 hx (hb hby own_d1_32) (pc' := 33) rfl ?_
  refine k_lor A0 hx (hb hby own_d1_33) (pc' := 34) rfl ?_
  refine k_lstore A0 hx (hb hby own_d1_34) (Ls' := #[.val (.long f), .second, .val (.long o), .second, .val (.long P), .second, .val (.int q), .val (.long (((o &&& ((f.toUInt64 >>> (q &&& 0x3f).toInt64.toUInt64).toInt64)) ||| (o &&& (((o &&& ((f.toUInt64 >>> (q &&& 0x3f).toInt64.toUInt64).toInt64)).toUInt64 >>> (q &&& 0x3f).toInt64.toUInt64).toInt64))) ||| (P &&& ((((o &&& ((f.toUInt64 >>> (q &&& 0x3f).toInt64.toUInt64).toInt64)) ||| (o &&& (((o &&& ((f.toUInt64 >>> (q &&& 0x3f).toInt64.toUInt64).toInt64)).toUInt64 >>> (q &&& 0x3f).toInt64.toUInt64).toInt64))).toUInt64 >>> ((q + q) &&& 0x3f).toInt64.toUInt64).toInt64)))), .second]) rfl (pc' := 36) rfl ?_
  refine k_lload A0 hx (hb hby own_d1_36) rfl (pc' := 38) rfl ?_
  refine k_lload A0 hx (hb hby own_d1_38) rfl (pc' := 40) rfl ?_
  refine k_lload A0 hx (hb hby own_d1_40) rfl (pc' := 42) rfl ?_
  refine k_iload A0 hx (hb hby own_d1_42) rfl (pc' := 44) rfl ?_
  refine k_iload A0 hx (hb hby own_d1_44) rfl (pc' := 46) rfl ?_
  refine k_iadd A0 hx (hb hby own_d1_46) (pc' := 47) rfl ?_
  refine k_lushr A0 hx (hb hby own_d1_47) (pc' := 48) rfl ?_
  refine k_land A0 hx (hb hby own_d1_48) (pc' := 49) rfl ?_
  refine k_lor A0 hx (hb hby own_d1_49) (pc' := 50) rfl ?_
  refine k_ret_long S0 hx hret hlk (hb hby own_d1_50) (by decide) (by decide) ?_
  exact ⟨rfl, rfl⟩
theorem own_d2_0 : decode method_2_code 0 = .ok (.iload_n 2, 1) := by decide +kernel
theorem own_d2_1 : decode method_2_code 1 = .ok (.bipush 64, 2) := by decide +kernel
theorem own_d2_3 : decode method_2_code 3 = .ok (.if_icmp .ge 17, 3) := by decide +kernel
theorem own_d2_6 : decode method_2_code 6 = .ok (.lload_n 0, 1) := by decide +kernel
theorem own_d2_7 : decode method_2_code 7 = .ok (.iload_n 2, 1) := by decide +kernel
theorem own_d2_8 : decode method_2_code 8 = .ok (.lushr, 1) := by decide +kernel
theorem own_d2_9 : decode method_2_code 9 = .ok (.lconst 1, 1) := by decide +kernel
theorem own_d2_10 : decode method_2_code 10 = .ok (.land, 1) := by decide +kernel
theorem own_d2_11 : decode method_2_code 11 = .ok (.lconst 0, 1) := by decide +kernel
theorem own_d2_12 : decode method_2_code 12 = .ok (.lcmp, 1) := by decide +kernel
theorem own_d2_13 : decode method_2_code 13 = .ok (.ifCond .eq 7, 3) := by decide +kernel
theorem own_d2_16 : decode method_2_code 16 = .ok (.iconst 1, 1) := by decide +kernel
theorem own_d2_17 : decode method_2_code 17 = .ok (.goto 4, 3) := by decide +kernel
theorem own_d2_20 : decode method_2_code 20 = .ok (.iconst 0, 1) := by decide +kernel
theorem own_d2_21 : decode method_2_code 21 = .ok (.ireturn, 1) := by decide +kernel
theorem own_pn2 : plainName "com/example/flankline/flankline/rules/MovesLineDownPinLaw" = true := by first | (simp [plainName, overriddenIn]; done) | decide +kernel
set_option maxRecDepth 65536 in
set_option maxHeartbeats 40000000 in
theorem own_co (l : Launch) (Z : State) (a0 : Array Value) (hw : ∀ d ∈ tables_1, d.before a0 Z = true) (u : Int64) (i : Int32) (h0 : Heap) (n0 : Nat) :
    Con l Z (⟨"com/example/flankline/flankline/rules/MovesLineDownPinLaw", "on", "(JI)Z"⟩ : MethodName) method_2_code 3 (some .boolean) ({ frames := 0, cells := 0, slots := 0, locals := 0 } : Room) n0 h0 #[(.long u), (.int i)] (fun v h => v = some (.int (own_on u i)) ∧ h = h0) := by
  refine Con.intro (plainFor_of_name own_pn2) (Ls := #[.val (.long u), .second, .val (.int i)]) (fun m => by first | (simp [entryFrame, mkF, argsToLocals, Value.category]; done) | rfl) ?_
  intro p e s m below meth c s₁ hx hby hml hown hnm hret hlk hZ S0
  have A0 := S0.here
  refine k_iloadN A0 hx (hb hby own_d2_0) rfl (pc' := 1) rfl ?_
  refine k_bipush A0 hx (hb hby own_d2_1) (v := 64) rfl (pc' := 3) rfl ?_
  refine k_icmp_ge A0 hx (hb hby own_d2_3) (pcY := 20) (by decide) (pc' := 6) rfl (fun hc3 => ?_) (fun hc3 => ?_)
  · refine k_iconst A0 hx (hb hby own_d2_20) (v := 0) rfl (pc' := 21) rfl ?_
    refine k_ret_nar S0 hx (t := .boolean) hret (by simp) hlk (hb hby own_d2_21) (z' := (0 : Int32)) rfl (by decide) (by decide) ?_
    exact ⟨by simp only [own_on, own_U, hc3]; simp, rfl⟩
  · refine k_lloadN A0 hx (hb hby own_d2_6) rfl (pc' := 7) rfl ?_
    refine k_iloadN A0 hx (hb hby own_d2_7) rfl (pc' := 8) rfl ?_
    refine k_lushr A0 hx (hb hby own_d2_8) (pc' := 9) rfl ?_
    refine k_lconst A0 hx (hb hby own_d2_9) (v := 1) rfl (pc' := 10) rfl ?_
    refine k_land A0 hx (hb hby own_d2_10) (pc' := 11) rfl ?_
    refine k_lconst A0 hx (hb hby own_d2_11) (v := 0) rfl (pc' := 12) rfl ?_
    refine k_lcmp_eq A0 hx (hb hby own_d2_12) (hb hby own_d2_13) (pcY := 20) (by decide) (pc' := 16) rfl (fun hc12 => ?_) (fun hc12 => ?_)
    · refine k_iconst A0 hx (hb hby own_d2_20) (v := 0) rfl (pc' := 21) rfl ?_
      refine k_ret_nar S0 hx (t := .boolean) hret (by simp) hlk (hb hby own_d2_21) (z' := (0 : Int32)) rfl (by decide) (by decide) ?_
      exact ⟨by simp only [own_on, own_U, hc3, hc12]; simp, rfl⟩
    · refine k_iconst A0 hx (hb hby own_d2_16) (v := 1) rfl (pc' := 17) rfl ?_
      refine k_goto A0 hx (hb hby own_d2_17) (pc' := 21) (by decide) ?_
      refine k_ret_nar S0 hx (t := .boolean) hret (by simp) hlk (hb hby own_d2_21) (z' := (1 : Int32)) rfl (by decide) (by decide) ?_
      exact ⟨by simp only [own_on, own_U, hc3, hc12]; simp, rfl⟩
theorem own_pn0 : plainName "com/example/flankline/flankline/rules/MovesLineDownPinLaw" = true := by first | (simp [plainName, overriddenIn]; done) | decide +kernel
theorem own_pd0 : parseMethodDescriptor "(JJJI)J" = some ⟨[.long, .long, .long, .int], some .long⟩ := by decide +kernel
theorem own_pd1 : parseMethodDescriptor "(JI)Z" = some ⟨[.long, .int], some .boolean⟩ := by decide +kernel
set_option maxRecDepth 65536 in
set_option maxHeartbeats 40000000 in
theorem own_law (l : Launch) (Z : State) (a0 : Array Value) (hw : ∀ d ∈ tables_1, d.before a0 Z = true) (f o : Int64) (sp sq : Int32) (h0 : Heap) (n0 : Nat) (Z0 : n0 ≤ h0.size) :
    Con l Z x code maxLocals ret room_1 n0 h0 #[(.long f), (.long o), (.int sp), (.int sq)] (fun v h => v = some (.int 1)) := by
  refine Con.intro (plainFor_of_name own_pn0) (Ls := #[.val (.long f), .second, .val (.long o), .second, .val (.int sp), .val (.int sq), .unset, .unset, .unset, .unset, .unset, .unset, .unset, .unset, .unset]) (fun m => by first | (simp [entryFrame, mkF, argsToLocals, Value.category, maxLocals]; done) | rfl) ?_
  intro p e s m below meth c s₁ hx hby hml hown hnm hret hlk hZ S0
  have A0 := S0.here
  have J39_1 : ∀ (T1 : State), ∀ (q : Int32), St p l e room_1 s m #[(.long f), (.long o), (.int sp), (.int sq)] below meth c n0 T1 h0 0 0 → (q = 1 ∨ q = 7 ∨ q = 8 ∨ q = 9) → Done p e below (OEnd s room_1 n0 (fun v h => v = some (.int 1))) (T1.setTop (mkF m 39 #[.val (.long f), .second, .val (.long o), .second, .val (.int sp), .val (.int sq), .val (.int (sp &&& (3 : Int32))), .unset, .unset, .unset, .unset, .unset, .unset, .unset, .unset] [(.int q)])) := by
    intro T1 q S1 hq
    have A1 := S1.here
    refine k_istore A1 hx (hb hby at_39) (Ls' := #[.val (.long f), .second, .val (.long o), .second, .val (.int sp), .val (.int sq), .val (.int (sp &&& (3 : Int32))), .val (.int q), .unset, .unset, .unset, .unset, .unset, .unset, .unset]) rfl (pc' := 41) rfl ?_
    refine k_iload A1 hx (hb hby at_41) rfl (pc' := 43) rfl ?_
    refine k_bipush A1 hx (hb hby at_43) (v := 63) rfl (pc' := 45) rfl ?_
    refine k_iand A1 hx (hb hby at_45) (pc' := 46) rfl ?_
    obtain ⟨kn, hkn⟩ := own_k63 sq
    generalize q_k : (sq &&& (63 : Int32)) = k at hkn ⊢
    refine k_istore A1 hx (hb hby at_46) (Ls' := #[.val (.long f), .second, .val (.long o), .second, .val (.int sp), .val (.int sq), .val (.int (sp &&& (3 : Int32))), .val (.int q), .val (.int k), .unset, .unset, .unset, .unset, .unset, .unset]) rfl (pc' := 48) rfl ?_
    refine k_lloadN A1 hx (hb hby at_48) rfl (pc' := 49) rfl ?_
    refine k_lloadN A1 hx (hb hby at_49) rfl (pc' := 50) rfl ?_
    refine k_iload A1 hx (hb hby at_50) rfl (pc' := 52) rfl ?_
    refine k_lushr A1 hx (hb hby at_52) (pc' := 53) rfl ?_
    refine k_land A1 hx (hb hby at_53) (pc' := 54) rfl ?_
    refine k_lstore A1 hx (hb hby at_54) (Ls' := #[.val (.long f), .second, .val (.long o), .second, .val (.int sp), .val (.int sq), .val (.int (sp &&& (3 : Int32))), .val (.int q), .val (.int k), .val (.long (o &&& ((o.toUInt64 >>> (q &&& 0x3f).toInt64.toUInt64).toInt64))), .second, .unset, .unset, .unset, .unset]) rfl (pc' := 56) rfl ?_
    refine k_lloadN A1 hx (hb hby at_56) rfl (pc' := 57) rfl ?_
    refine k_lloadN A1 hx (hb hby at_57) rfl (pc' := 58) rfl ?_
    refine k_lload A1 hx (hb hby at_58) rfl (pc' := 60) rfl ?_
    refine k_iload A1 hx (hb hby at_60) rfl (pc' := 62) rfl ?_
    refine k_call_static S1 hx hZ hown (hw _ (List.mem_of_getElem? (i := 0) rfl)) (hw _ (List.mem_of_getElem? (i := 1) rfl)) (hw _ (List.mem_of_getElem? (i := 2) rfl)) (hw _ (List.mem_of_getElem? (i := 3) rfl)) (by decide) (own_cd l Z a0 hw f o (o &&& ((o.toUInt64 >>> (q &&& 0x3f).toInt64.toUInt64).toInt64)) q h0 n0) 0 (argsL := [(.long f), (.long o), (.long (o &&& ((o.toUInt64 >>> (q &&& 0x3f).toInt64.toUInt64).toInt64))), (.int q)]) (rest := []) (by decide) (by decide) (by rw [hml]; rfl) (lenOf own_pd0 rfl) rfl rfl (Nat.le_refl 0) (hb hby at_62) (pc' := 65) rfl (by decide) (by decide) ?_
    rintro v2 T2 h2 ⟨rfl, q2⟩ S2
    rw [q2] at S2
    have A2 := S2.here
    show Done p e below _ (T2.setTop (mkF m 65 #[.val (.long f), .second, .val (.long o), .second, .val (.int sp), .val (.int sq), .val (.int (sp &&& (3 : Int32))), .val (.int q), .val (.int k), .val (.long (o &&& ((o.toUInt64 >>> (q &&& 0x3f).toInt64.toUInt64).toInt64))), .second, .unset, .unset, .unset, .unset] [(.long (own_dn f o (o &&& ((o.toUInt64 >>> (q &&& 0x3f).toInt64.toUInt64).toInt64)) q))]))
    refine k_lstore A2 hx (hb hby at_65) (Ls' := #[.val (.long f), .second, .val (.long o), .second, .val (.int sp), .val (.int sq), .val (.int (sp &&& (3 : Int32))), .val (.int q), .val (.int k), .val (.long (o &&& ((o.toUInt64 >>> (q &&& 0x3f).toInt64.toUInt64).toInt64))), .second, .val (.long (own_dn f o (o &&& ((o.toUInt64 >>> (q &&& 0x3f).toInt64.toUInt64).toInt64)) q)), .second, .unset, .unset]) rfl (pc' := 67) rfl ?_
    have J84_3 : ∀ (T3 : State), ∀ (ba : Int32), St p l e room_1 s m #[(.long f), (.long o), (.int sp), (.int sq)] below meth c n0 T3 h0 0 0 → (ba = if ¬ (own_U (own_dn f o (o &&& own_U o q) q) k &&& 1) = 0 then 1 else 0) → Done p e below (OEnd s room_1 n0 (fun v h => v = some (.int 1))) (T3.setTop (mkF m 84 #[.val (.long f), .second, .val (.long o), .second, .val (.int sp), .val (.int sq), .val (.int (sp &&& (3 : Int32))), .val (.int q), .val (.int k), .val (.long (o &&& ((o.toUInt64 >>> (q &&& 0x3f).toInt64.toUInt64).toInt64))), .second, .val (.long (own_dn f o (o &&& ((o.toUInt64 >>> (q &&& 0x3f).toInt64.toUInt64).toInt64)) q)), .second, .unset, .unset] [(.int ba)])) := by
      intro T3 ba S3 hba
      have A3 := S3.here
      refine k_istore A3 hx (hb hby at_84) (Ls' := #[.val (.long f), .second, .val (.long o), .second, .val (.int sp), .val (.int sq), .val (.int (sp &&& (3 : Int32))), .val (.int q), .val (.int k), .val (.long (o &&& ((o.toUInt64 >>> (q &&& 0x3f).toInt64.toUInt64).toInt64))), .second, .val (.long (own_dn f o (o &&& ((o.toUInt64 >>> (q &&& 0x3f).toInt64.toUInt64).toInt64)) q)), .second, .val (.int ba), .unset]) rfl (pc' := 86) rfl ?_
      have J251_4 : ∀ (T4 : State), ∀ (be : Int32), St p l e room_1 s m #[(.long f), (.long o), (.int sp), (.int sq)] below meth c n0 T4 h0 0 0 → (be = own_E f o q k) → Done p e below (OEnd s room_1 n0 (fun v h => v = some (.int 1))) (T4.setTop (mkF m 251 #[.val (.long f), .second, .val (.long o), .second, .val (.int sp), .val (.int sq), .val (.int (sp &&& (3 : Int32))), .val (.int q), .val (.int k), .val (.long (o &&& ((o.toUInt64 >>> (q &&& 0x3f).toInt64.toUInt64).toInt64))), .second, .val (.long (own_dn f o (o &&& ((o.toUInt64 >>> (q &&& 0x3f).toInt64.toUInt64).toInt64)) q)), .second, .val (.int ba), .unset] [(.int be)])) := by
        intro T4 be S4 hbe
        have A4 := S4.here
        refine k_istore A4 hx (hb hby at_251) (Ls' := #[.val (.long f), .second, .val (.long o), .second, .val (.int sp), .val (.int sq), .val (.int (sp &&& (3 : Int32))), .val (.int q), .val (.int k), .val (.long (o &&& ((o.toUInt64 >>> (q &&& 0x3f).toInt64.toUInt64).toInt64))), .second, .val (.long (own_dn f o (o &&& ((o.toUInt64 >>> (q &&& 0x3f).toInt64.toUInt64).toInt64)) q)), .second, .val (.int ba), .val (.int be)]) rfl (pc' := 253) rfl ?_
        refine k_iload A4 hx (hb hby at_253) rfl (pc' := 255) rfl ?_
        refine k_iload A4 hx (hb hby at_255) rfl (pc' := 257) rfl ?_
        refine k_icmp_ne A4 hx (hb hby at_257) (pcY := 264) (by decide) (pc' := 260) rfl (fun hc257 => ?_) (fun hc257 => ?_)
        · refine k_iconst A4 hx (hb hby at_264) (v := 0) rfl (pc' := 265) rfl ?_
          refine k_ret_nar S4 hx (t := .boolean) hret (by simp) hlk (hb hby at_265) (z' := (0 : Int32)) rfl (by decide) (by decide) ?_
          exact absurd (hba.trans ((own_plain f o q k hq kn hkn.1 hkn.2).symm.trans hbe.symm)) hc257
        · refine k_iconst A4 hx (hb hby at_260) (v := 1) rfl (pc' := 261) rfl ?_
          refine k_goto A4 hx (hb hby at_261) (pc' := 265) (by decide) ?_
          refine k_ret_nar S4 hx (t := .boolean) hret (by simp) hlk (hb hby at_265) (z' := (1 : Int32)) rfl (by decide) (by decide) ?_
          exact rfl
      refine k_lloadN A3 hx (hb hby at_86) rfl (pc' := 87) rfl ?_
      refine k_iload A3 hx (hb hby at_87) rfl (pc' := 89) rfl ?_
      refine k_call_static S3 hx hZ hown (hw _ (List.mem_of_getElem? (i := 4) rfl)) (hw _ (List.mem_of_getElem? (i := 5) rfl)) (hw _ (List.mem_of_getElem? (i := 6) rfl)) (hw _ (List.mem_of_getElem? (i := 7) rfl)) (by decide) (own_co l Z a0 hw o k h0 n0) 0 (argsL := [(.long o), (.int k)]) (rest := []) (by decide) (by decide) (by rw [hml]; rfl) (lenOf own_pd1 rfl) rfl rfl (Nat.le_refl 0) (hb hby at_89) (pc' := 92) rfl (by decide) (by decide) ?_
      rintro v5 T5 h5 ⟨rfl, q5⟩ S5
      rw [q5] at S5
      have A5 := S5.here
      show Done p e below _ (T5.setTop (mkF m 92 #[.val (.long f), .second, .val (.long o), .second, .val (.int sp), .val (.int sq), .val (.int (sp &&& (3 : Int32))), .val (.int q), .val (.int k), .val (.long (o &&& ((o.toUInt64 >>> (q &&& 0x3f).toInt64.toUInt64).toInt64))), .second, .val (.long (own_dn f o (o &&& ((o.toUInt64 >>> (q &&& 0x3f).toInt64.toUInt64).toInt64)) q)), .second, .val (.int ba), .unset] [(.int (own_on o k))]))
      refine k_if_eq A5 hx (hb hby at_92) (pcY := 250) (by decide) (pc' := 95) rfl (fun hc92 => ?_) (fun hc92 => ?_)
      · refine k_iconst A5 hx (hb hby at_250) (v := 0) rfl (pc' := 251) rfl ?_
        exact J251_4 T5 (0 : Int32) (S5.more (by decide) (by decide)) (by unfold own_E; simp only [hc92, if_true, if_false, not_true_eq_false, not_false_eq_true])
      · refine k_lloadN A5 hx (hb hby at_95) rfl (pc' := 96) rfl ?_
        refine k_iload A5 hx (hb hby at_96) rfl (pc' := 98) rfl ?_
        refine k_iload A5 hx (hb hby at_98) rfl (pc' := 100) rfl ?_
        refine k_iadd A5 hx (hb hby at_100) (pc' := 101) rfl ?_
        refine k_call_static S5 hx hZ hown (hw _ (List.mem_of_getElem? (i := 4) rfl)) (hw _ (List.mem_of_getElem? (i := 5) rfl)) (hw _ (List.mem_of_getElem? (i := 6) rfl)) (hw _ (List.mem_of_getElem? (i := 7) rfl)) (by decide) (own_co l Z a0 hw f (k + q) h0 n0) 0 (argsL := [(.long f), (.int (k + q))]) (rest := []) (by decide) (by decide) (by rw [hml]; rfl) (lenOf own_pd1 rfl) rfl rfl (Nat.le_refl 0) (hb hby at_101) (pc' := 104) rfl (by decide) (by decide) ?_
        rintro v6 T6 h6 ⟨rfl, q6⟩ S6
        rw [q6] at S6
        have A6 := S6.here
        show Done p e below _ (T6.setTop (mkF m 104 #[.val (.long f), .second, .val (.long o), .second, .val (.int sp), .val (.int sq), .val (.int (sp &&& (3 : Int32))), .val (.int q), .val (.int k), .val (.long (o &&& ((o.toUInt64 >>> (q &&& 0x3f).toInt64.toUInt64).toInt64))), .second, .val (.long (own_dn f o (o &&& ((o.toUInt64 >>> (q &&& 0x3f).toInt64.toUInt64).toInt64)) q)), .second, .val (.int ba), .unset] [(.int (own_on f (k + q)))]))
        refine k_if_ne A6 hx (hb hby at_104) (pcY := 246) (by decide) (pc' := 107) rfl (fun hc104 => ?_) (fun hc104 => ?_)
        · refine k_iconst A6 hx (hb hby at_246) (v := 1) rfl (pc' := 247) rfl ?_
          refine k_goto A6 hx (hb hby at_247) (pc' := 251) (by decide) ?_
          exact J251_4 T6 (1 : Int32) (S6.more (by decide) (by decide)) (by unfold own_E; simp only [hc92, hc104, if_true, if_false, not_true_eq_false, not_false_eq_true])
        · refine k_lloadN A6 hx (hb hby at_107) rfl (pc' := 108) rfl ?_
          refine k_iload A6 hx (hb hby at_108) rfl (pc' := 110) rfl ?_
          refine k_iload A6 hx (hb hby at_110) rfl (pc' := 112) rfl ?_
          refine k_iadd A6 hx (hb hby at_112) (pc' := 113) rfl ?_
          refine k_call_static S6 hx hZ hown (hw _ (List.mem_of_getElem? (i := 4) rfl)) (hw _ (List.mem_of_getElem? (i := 5) rfl)) (hw _ (List.mem_of_getElem? (i := 6) rfl)) (hw _ (List.mem_of_getElem? (i := 7) rfl)) (by decide) (own_co l Z a0 hw o (k + q) h0 n0) 0 (argsL := [(.long o), (.int (k + q))]) (rest := []) (by decide) (by decide) (by rw [hml]; rfl) (lenOf own_pd1 rfl) rfl rfl (Nat.le_refl 0) (hb hby at_113) (pc' := 116) rfl (by decide) (by decide) ?_
          rintro v7 T7 h7 ⟨rfl, q7⟩ S7
          rw [q7] at S7
          have A7 := S7.here
          show Done p e below _ (T7.setTop (mkF m 116 #[.val (.long f), .second, .val (.long o), .second, .val (.int sp), .val (.int sq), .val (.int (sp &&& (3 : Int32))), .val (.int q), .val (.int k), .val (.long (o &&& ((o.toUInt64 >>> (q &&& 0x3f).toInt64.toUInt64).toInt64))), .second, .val (.long (own_dn f o (o &&& ((o.toUInt64 >>> (q &&& 0x3f).toInt64.toUInt64).toInt64)) q)), .second, .val (.int ba), .unset] [(.int (own_on o (k + q)))]))
          refine k_if_eq A7 hx (hb hby at_116) (pcY := 250) (by decide) (pc' := 119) rfl (fun hc116 => ?_) (fun hc116 => ?_)
          · refine k_iconst A7 hx (hb hby at_250) (v := 0) rfl (pc' := 251) rfl ?_
            exact J251_4 T7 (0 : Int32) (S7.more (by decide) (by decide)) (by unfold own_E; simp only [hc92, hc104, hc116, if_true, if_false, not_true_eq_false, not_false_eq_true])
          · refine k_lloadN A7 hx (hb hby at_119) rfl (pc' := 120) rfl ?_
            refine k_iload A7 hx (hb hby at_120) rfl (pc' := 122) rfl ?_
            refine k_iconst A7 hx (hb hby at_122) (v := 2) rfl (pc' := 123) rfl ?_
            refine k_iload A7 hx (hb hby at_123) rfl (pc' := 125) rfl ?_
            refine k_imul A7 hx (hb hby at_125) (pc' := 126) rfl ?_
            refine k_iadd A7 hx (hb hby at_126) (pc' := 127) rfl ?_
            refine k_call_static S7 hx hZ hown (hw _ (List.mem_of_getElem? (i := 4) rfl)) (hw _ (List.mem_of_getElem? (i := 5) rfl)) (hw _ (List.mem_of_getElem? (i := 6) rfl)) (hw _ (List.mem_of_getElem? (i := 7) rfl)) (by decide) (own_co l Z a0 hw f (k + ((2 : Int32) * q)) h0 n0) 0 (argsL := [(.long f), (.int (k + ((2 : Int32) * q)))]) (rest := []) (by decide) (by decide) (by rw [hml]; rfl) (lenOf own_pd1 rfl) rfl rfl (Nat.le_refl 0) (hb hby at_127) (pc' := 130) rfl (by decide) (by decide) ?_
            rintro v8 T8 h8 ⟨rfl, q8⟩ S8
            rw [q8] at S8
            have A8 := S8.here
            show Done p e below _ (T8.setTop (mkF m 130 #[.val (.long f), .second, .val (.long o), .second, .val (.int sp), .val (.int sq), .val (.int (sp &&& (3 : Int32))), .val (.int q), .val (.int k), .val (.long (o &&& ((o.toUInt64 >>> (q &&& 0x3f).toInt64.toUInt64).toInt64))), .second, .val (.long (own_dn f o (o &&& ((o.toUInt64 >>> (q &&& 0x3f).toInt64.toUInt64).toInt64)) q)), .second, .val (.int ba), .unset] [(.int (own_on f (k + ((2 : Int32) * q))))]))
            refine k_if_ne A8 hx (hb hby at_130) (pcY := 246) (by decide) (pc' := 133) rfl (fun hc130 => ?_) (fun hc130 => ?_)
            · refine k_iconst A8 hx (hb hby at_246) (v := 1) rfl (pc' := 247) rfl ?_
              refine k_goto A8 hx (hb hby at_247) (pc' := 251) (by decide) ?_
              exact J251_4 T8 (1 : Int32) (S8.more (by decide) (by decide)) (by unfold own_E; simp only [hc92, hc104, hc116, hc130, if_true, if_false, not_true_eq_false, not_false_eq_true])
            · refine k_lloadN A8 hx (hb hby at_133) rfl (pc' := 134) rfl ?_
              refine k_iload A8 hx (hb hby at_134) rfl (pc' := 136) rfl ?_
              refine k_iconst A8 hx (hb hby at_136) (v := 2) rfl (pc' := 137) rfl ?_
              refine k_iload A8 hx (hb hby at_137) rfl (pc' := 139) rfl ?_
              refine k_imul A8 hx (hb hby at_139) (pc' := 140) rfl ?_
              refine k_iadd A8 hx (hb hby at_140) (pc' := 141) rfl ?_
              refine k_call_static S8 hx hZ hown (hw _ (List.mem_of_getElem? (i := 4) rfl)) (hw _ (List.mem_of_getElem? (i := 5) rfl)) (hw _ (List.mem_of_getElem? (i := 6) rfl)) (hw _ (List.mem_of_getElem? (i := 7) rfl)) (by decide) (own_co l Z a0 hw o (k + ((2 : Int32) * q)) h0 n0) 0 (argsL := [(.long o), (.int (k + ((2 : Int32) * q)))]) (rest := []) (by decide) (by decide) (by rw [hml]; rfl) (lenOf own_pd1 rfl) rfl rfl (Nat.le_refl 0) (hb hby at_141) (pc' := 144) rfl (by decide) (by decide) ?_
              rintro v9 T9 h9 ⟨rfl, q9⟩ S9
              rw [q9] at S9
              have A9 := S9.here
              show Done p e below _ (T9.setTop (mkF m 144 #[.val (.long f), .second, .val (.long o), .second, .val (.int sp), .val (.int sq), .val (.int (sp &&& (3 : Int32))), .val (.int q), .val (.int k), .val (.long (o &&& ((o.toUInt64 >>> (q &&& 0x3f).toInt64.toUInt64).toInt64))), .second, .val (.long (own_dn f o (o &&& ((o.toUInt64 >>> (q &&& 0x3f).toInt64.toUInt64).toInt64)) q)), .second, .val (.int ba), .unset] [(.int (own_on o (k + ((2 : Int32) * q))))]))
              refine k_if_eq A9 hx (hb hby at_144) (pcY := 250) (by decide) (pc' := 147) rfl (fun hc144 => ?_) (fun hc144 => ?_)
              · refine k_iconst A9 hx (hb hby at_250) (v := 0) rfl (pc' := 251) rfl ?_
                exact J251_4 T9 (0 : Int32) (S9.more (by decide) (by decide)) (by unfold own_E; simp only [hc92, hc104, hc116, hc130, hc144, if_true, if_false, not_true_eq_false, not_false_eq_true])
              · refine k_lloadN A9 hx (hb hby at_147) rfl (pc' := 148) rfl ?_
                refine k_iload A9 hx (hb hby at_148) rfl (pc' := 150) rfl ?_
                refine k_iconst A9 hx (hb hby at_150) (v := 3) rfl (pc' := 151) rfl ?_
                refine k_iload A9 hx (hb hby at_151) rfl (pc' := 153) rfl ?_
                refine k_imul A9 hx (hb hby at_153) (pc' := 154) rfl ?_
                refine k_iadd A9 hx (hb hby at_154) (pc' := 155) rfl ?_
                refine k_call_static S9 hx hZ hown (hw _ (List.mem_of_getElem? (i := 4) rfl)) (hw _ (List.mem_of_getElem? (i := 5) rfl)) (hw _ (List.mem_of_getElem? (i := 6) rfl)) (hw _ (List.mem_of_getElem? (i := 7) rfl)) (by decide) (own_co l Z a0 hw f (k + ((3 : Int32) * q)) h0 n0) 0 (argsL := [(.long f), (.int (k + ((3 : Int32) * q)))]) (rest := []) (by decide) (by decide) (by rw [hml]; rfl) (lenOf own_pd1 rfl) rfl rfl (Nat.le_refl 0) (hb hby at_155) (pc' := 158) rfl (by decide) (by decide) ?_
                rintro v10 T10 h10 ⟨rfl, q10⟩ S10
                rw [q10] at S10
                have A10 := S10.here
                show Done p e below _ (T10.setTop (mkF m 158 #[.val (.long f), .second, .val (.long o), .second, .val (.int sp), .val (.int sq), .val (.int (sp &&& (3 : Int32))), .val (.int q), .val (.int k), .val (.long (o &&& ((o.toUInt64 >>> (q &&& 0x3f).toInt64.toUInt64).toInt64))), .second, .val (.long (own_dn f o (o &&& ((o.toUInt64 >>> (q &&& 0x3f).toInt64.toUInt64).toInt64)) q)), .second, .val (.int ba), .unset] [(.int (own_on f (k + ((3 : Int32) * q))))]))
                refine k_if_ne A10 hx (hb hby at_158) (pcY := 246) (by decide) (pc' := 161) rfl (fun hc158 => ?_) (fun hc158 => ?_)
                · refine k_iconst A10 hx (hb hby at_246) (v := 1) rfl (pc' := 247) rfl ?_
                  refine k_goto A10 hx (hb hby at_247) (pc' := 251) (by decide) ?_
                  exact J251_4 T10 (1 : Int32) (S10.more (by decide) (by decide)) (by unfold own_E; simp only [hc92, hc104, hc116, hc130, hc144, hc158, if_true, if_false, not_true_eq_false, not_false_eq_true])
                · refine k_lloadN A10 hx (hb hby at_161) rfl (pc' := 162) rfl ?_
                  refine k_iload A10 hx (hb hby at_162) rfl (pc' := 164) rfl ?_
                  refine k_iconst A10 hx (hb hby at_164) (v := 3) rfl (pc' := 165) rfl ?_
                  refine k_iload A10 hx (hb hby at_165) rfl (pc' := 167) rfl ?_
                  refine k_imul A10 hx (hb hby at_167) (pc' := 168) rfl ?_
                  refine k_iadd A10 hx (hb hby at_168) (pc' := 169) rfl ?_
                  refine k_call_static S10 hx hZ hown (hw _ (List.mem_of_getElem? (i := 4) rfl)) (hw _ (List.mem_of_getElem? (i := 5) rfl)) (hw _ (List.mem_of_getElem? (i := 6) rfl)) (hw _ (List.mem_of_getElem? (i := 7) rfl)) (by decide) (own_co l Z a0 hw o (k + ((3 : Int32) * q)) h0 n0) 0 (argsL := [(.long o), (.int (k + ((3 : Int32) * q)))]) (rest := []) (by decide) (by decide) (by rw [hml]; rfl) (lenOf own_pd1 rfl) rfl rfl (Nat.le_refl 0) (hb hby at_169) (pc' := 172) rfl (by decide) (by decide) ?_
                  rintro v11 T11 h11 ⟨rfl, q11⟩ S11
                  rw [q11] at S11
                  have A11 := S11.here
                  show Done p e below _ (T11.setTop (mkF m 172 #[.val (.long f), .second, .val (.long o), .second, .val (.int sp), .val (.int sq), .val (.int (sp &&& (3 : Int32))), .val (.int q), .val (.int k), .val (.long (o &&& ((o.toUInt64 >>> (q &&& 0x3f).toInt64.toUInt64).toInt64))), .second, .val (.long (own_dn f o (o &&& ((o.toUInt64 >>> (q &&& 0x3f).toInt64.toUInt64).toInt64)) q)), .second, .val (.int ba), .unset] [(.int (own_on o (k + ((3 : Int32) * q))))]))
                  refine k_if_eq A11 hx (hb hby at_172) (pcY := 250) (by decide) (pc' := 175) rfl (fun hc172 => ?_) (fun hc172 => ?_)
                  · refine k_iconst A11 hx (hb hby at_250) (v := 0) rfl (pc' := 251) rfl ?_
                    exact J251_4 T11 (0 : Int32) (S11.more (by decide) (by decide)) (by unfold own_E; simp only [hc92, hc104, hc116, hc130, hc144, hc158, hc172, if_true, if_false, not_true_eq_false, not_false_eq_true])
                  · refine k_lloadN A11 hx (hb hby at_175) rfl (pc' := 176) rfl ?_
                    refine k_iload A11 hx (hb hby at_176) rfl (pc' := 178) rfl ?_
                    refine k_iconst A11 hx (hb hby at_178) (v := 4) rfl (pc' := 179) rfl ?_
                    refine k_iload A11 hx (hb hby at_179) rfl (pc' := 181) rfl ?_
                    refine k_imul A11 hx (hb hby at_181) (pc' := 182) rfl ?_
                    refine k_iadd A11 hx (hb hby at_182) (pc' := 183) rfl ?_
                    refine k_call_static S11 hx hZ hown (hw _ (List.mem_of_getElem? (i := 4) rfl)) (hw _ (List.mem_of_getElem? (i := 5) rfl)) (hw _ (List.mem_of_getElem? (i := 6) rfl)) (hw _ (List.mem_of_getElem? (i := 7) rfl)) (by decide) (own_co l Z a0 hw f (k + ((4 : Int32) * q)) h0 n0) 0 (argsL := [(.long f), (.int (k + ((4 : Int32) * q)))]) (rest := []) (by decide) (by decide) (by rw [hml]; rfl) (lenOf own_pd1 rfl) rfl rfl (Nat.le_refl 0) (hb hby at_183) (pc' := 186) rfl (by decide) (by decide) ?_
                    rintro v12 T12 h12 ⟨rfl, q12⟩ S12
                    rw [q12] at S12
                    have A12 := S12.here
                    show Done p e below _ (T12.setTop (mkF m 186 #[.val (.long f), .second, .val (.long o), .second, .val (.int sp), .val (.int sq), .val (.int (sp &&& (3 : Int32))), .val (.int q), .val (.int k), .val (.long (o &&& ((o.toUInt64 >>> (q &&& 0x3f).toInt64.toUInt64).toInt64))), .second, .val (.long (own_dn f o (o &&& ((o.toUInt64 >>> (q &&& 0x3f).toInt64.toUInt64).toInt64)) q)), .second, .val (.int ba), .unset] [(.int (own_on f (k + ((4 : Int32) * q))))]))
                    refine k_if_ne A12 hx (hb hby at_186) (pcY := 246) (by decide) (pc' := 189) rfl (fun hc186 => ?_) (fun hc186 => ?_)
                    · refine k_iconst A12 hx (hb hby at_246) (v := 1) rfl (pc' := 247) rfl ?_
                      refine k_goto A12 hx (hb hby at_247) (pc' := 251) (by decide) ?_
                      exact J251_4 T12 (1 : Int32) (S12.more (by decide) (by decide)) (by unfold own_E; simp only [hc92, hc104, hc116, hc130, hc144, hc158, hc172, hc186, if_true, if_false, not_true_eq_false, not_false_eq_true])
                    · refine k_lloadN A12 hx (hb hby at_189) rfl (pc' := 190) rfl ?_
                      refine k_iload A12 hx (hb hby at_190) rfl (pc' := 192) rfl ?_
                      refine k_iconst A12 hx (hb hby at_192) (v := 4) rfl (pc' := 193) rfl ?_
                      refine k_iload A12 hx (hb hby at_193) rfl (pc' := 195) rfl ?_
                      refine k_imul A12 hx (hb hby at_195) (pc' := 196) rfl ?_
                      refine k_iadd A12 hx (hb hby at_196) (pc' := 197) rfl ?_
                      refine k_call_static S12 hx hZ hown (hw _ (List.mem_of_getElem? (i := 4) rfl)) (hw _ (List.mem_of_getElem? (i := 5) rfl)) (hw _ (List.mem_of_getElem? (i := 6) rfl)) (hw _ (List.mem_of_getElem? (i := 7) rfl)) (by decide) (own_co l Z a0 hw o (k + ((4 : Int32) * q)) h0 n0) 0 (argsL := [(.long o), (.int (k + ((4 : Int32) * q)))]) (rest := []) (by decide) (by decide) (by rw [hml]; rfl) (lenOf own_pd1 rfl) rfl rfl (Nat.le_refl 0) (hb hby at_197) (pc' := 200) rfl (by decide) (by decide) ?_
                      rintro v13 T13 h13 ⟨rfl, q13⟩ S13
                      rw [q13] at S13
                      have A13 := S13.here
                      show Done p e below _ (T13.setTop (mkF m 200 #[.val (.long f), .second, .val (.long o), .second, .val (.int sp), .val (.int sq), .val (.int (sp &&& (3 : Int32))), .val (.int q), .val (.int k), .val (.long (o &&& ((o.toUInt64 >>> (q &&& 0x3f).toInt64.toUInt64).toInt64))), .second, .val (.long (own_dn f o (o &&& ((o.toUInt64 >>> (q &&& 0x3f).toInt64.toUInt64).toInt64)) q)), .second, .val (.int ba), .unset] [(.int (own_on o (k + ((4 : Int32) * q))))]))
                      refine k_if_eq A13 hx (hb hby at_200) (pcY := 250) (by decide) (pc' := 203) rfl (fun hc200 => ?_) (fun hc200 => ?_)
                      · refine k_iconst A13 hx (hb hby at_250) (v := 0) rfl (pc' := 251) rfl ?_
                        exact J251_4 T13 (0 : Int32) (S13.more (by decide) (by decide)) (by unfold own_E; simp only [hc92, hc104, hc116, hc130, hc144, hc158, hc172, hc186, hc200, if_true, if_false, not_true_eq_false, not_false_eq_true])
                      · refine k_lloadN A13 hx (hb hby at_203) rfl (pc' := 204) rfl ?_
                        refine k_iload A13 hx (hb hby at_204) rfl (pc' := 206) rfl ?_
                        refine k_iconst A13 hx (hb hby at_206) (v := 5) rfl (pc' := 207) rfl ?_
                        refine k_iload A13 hx (hb hby at_207) rfl (pc' := 209) rfl ?_
                        refine k_imul A13 hx (hb hby at_209) (pc' := 210) rfl ?_
                        refine k_iadd A13 hx (hb hby at_210) (pc' := 211) rfl ?_
                        refine k_call_static S13 hx hZ hown (hw _ (List.mem_of_getElem? (i := 4) rfl)) (hw _ (List.mem_of_getElem? (i := 5) rfl)) (hw _ (List.mem_of_getElem? (i := 6) rfl)) (hw _ (List.mem_of_getElem? (i := 7) rfl)) (by decide) (own_co l Z a0 hw f (k + ((5 : Int32) * q)) h0 n0) 0 (argsL := [(.long f), (.int (k + ((5 : Int32) * q)))]) (rest := []) (by decide) (by decide) (by rw [hml]; rfl) (lenOf own_pd1 rfl) rfl rfl (Nat.le_refl 0) (hb hby at_211) (pc' := 214) rfl (by decide) (by decide) ?_
                        rintro v14 T14 h14 ⟨rfl, q14⟩ S14
                        rw [q14] at S14
                        have A14 := S14.here
                        show Done p e below _ (T14.setTop (mkF m 214 #[.val (.long f), .second, .val (.long o), .second, .val (.int sp), .val (.int sq), .val (.int (sp &&& (3 : Int32))), .val (.int q), .val (.int k), .val (.long (o &&& ((o.toUInt64 >>> (q &&& 0x3f).toInt64.toUInt64).toInt64))), .second, .val (.long (own_dn f o (o &&& ((o.toUInt64 >>> (q &&& 0x3f).toInt64.toUInt64).toInt64)) q)), .second, .val (.int ba), .unset] [(.int (own_on f (k + ((5 : Int32) * q))))]))
                        refine k_if_ne A14 hx (hb hby at_214) (pcY := 246) (by decide) (pc' := 217) rfl (fun hc214 => ?_) (fun hc214 => ?_)
                        · refine k_iconst A14 hx (hb hby at_246) (v := 1) rfl (pc' := 247) rfl ?_
                          refine k_goto A14 hx (hb hby at_247) (pc' := 251) (by decide) ?_
                          exact J251_4 T14 (1 : Int32) (S14.more (by decide) (by decide)) (by unfold own_E; simp only [hc92, hc104, hc116, hc130, hc144, hc158, hc172, hc186, hc200, hc214, if_true, if_false, not_true_eq_false, not_false_eq_true])
                        · refine k_lloadN A14 hx (hb hby at_217) rfl (pc' := 218) rfl ?_
                          refine k_iload A14 hx (hb hby at_218) rfl (pc' := 220) rfl ?_
                          refine k_iconst A14 hx (hb hby at_220) (v := 5) rfl (pc' := 221) rfl ?_
                          refine k_iload A14 hx (hb hby at_221) rfl (pc' := 223) rfl ?_
                          refine k_imul A14 hx (hb hby at_223) (pc' := 224) rfl ?_
                          refine k_iadd A14 hx (hb hby at_224) (pc' := 225) rfl ?_
                          refine k_call_static S14 hx hZ hown (hw _ (List.mem_of_getElem? (i := 4) rfl)) (hw _ (List.mem_of_getElem? (i := 5) rfl)) (hw _ (List.mem_of_getElem? (i := 6) rfl)) (hw _ (List.mem_of_getElem? (i := 7) rfl)) (by decide) (own_co l Z a0 hw o (k + ((5 : Int32) * q)) h0 n0) 0 (argsL := [(.long o), (.int (k + ((5 : Int32) * q)))]) (rest := []) (by decide) (by decide) (by rw [hml]; rfl) (lenOf own_pd1 rfl) rfl rfl (Nat.le_refl 0) (hb hby at_225) (pc' := 228) rfl (by decide) (by decide) ?_
                          rintro v15 T15 h15 ⟨rfl, q15⟩ S15
                          rw [q15] at S15
                          have A15 := S15.here
                          show Done p e below _ (T15.setTop (mkF m 228 #[.val (.long f), .second, .val (.long o), .second, .val (.int sp), .val (.int sq), .val (.int (sp &&& (3 : Int32))), .val (.int q), .val (.int k), .val (.long (o &&& ((o.toUInt64 >>> (q &&& 0x3f).toInt64.toUInt64).toInt64))), .second, .val (.long (own_dn f o (o &&& ((o.toUInt64 >>> (q &&& 0x3f).toInt64.toUInt64).toInt64)) q)), .second, .val (.int ba), .unset] [(.int (own_on o (k + ((5 : Int32) * q))))]))
                          refine k_if_eq A15 hx (hb hby at_228) (pcY := 250) (by decide) (pc' := 231) rfl (fun hc228 => ?_) (fun hc228 => ?_)
                          · refine k_iconst A15 hx (hb hby at_250) (v := 0) rfl (pc' := 251) rfl ?_
                            exact J251_4 T15 (0 : Int32) (S15.more (by decide) (by decide)) (by unfold own_E; simp only [hc92, hc104, hc116, hc130, hc144, hc158, hc172, hc186, hc200, hc214, hc228, if_true, if_false, not_true_eq_false, not_false_eq_true])
                          · refine k_lloadN A15 hx (hb hby at_231) rfl (pc' := 232) rfl ?_
                            refine k_iload A15 hx (hb hby at_232) rfl (pc' := 234) rfl ?_
                            refine k_bipush A15 hx (hb hby at_234) (v := 6) rfl (pc' := 236) rfl ?_
                            refine k_iload A15 hx (hb hby at_236) rfl (pc' := 238) rfl ?_
                            refine k_imul A15 hx (hb hby at_238) (pc' := 239) rfl ?_
                            refine k_iadd A15 hx (hb hby at_239) (pc' := 240) rfl ?_
                            refine k_call_static S15 hx hZ hown (hw _ (List.mem_of_getElem? (i := 4) rfl)) (hw _ (List.mem_of_getElem? (i := 5) rfl)) (hw _ (List.mem_of_getElem? (i := 6) rfl)) (hw _ (List.mem_of_getElem? (i := 7) rfl)) (by decide) (own_co l Z a0 hw f (k + ((6 : Int32) * q)) h0 n0) 0 (argsL := [(.long f), (.int (k + ((6 : Int32) * q)))]) (rest := []) (by decide) (by decide) (by rw [hml]; rfl) (lenOf own_pd1 rfl) rfl rfl (Nat.le_refl 0) (hb hby at_240) (pc' := 243) rfl (by decide) (by decide) ?_
                            rintro v16 T16 h16 ⟨rfl, q16⟩ S16
                            rw [q16] at S16
                            have A16 := S16.here
                            show Done p e below _ (T16.setTop (mkF m 243 #[.val (.long f), .second, .val (.long o), .second, .val (.int sp), .val (.int sq), .val (.int (sp &&& (3 : Int32))), .val (.int q), .val (.int k), .val (.long (o &&& ((o.toUInt64 >>> (q &&& 0x3f).toInt64.toUInt64).toInt64))), .second, .val (.long (own_dn f o (o &&& ((o.toUInt64 >>> (q &&& 0x3f).toInt64.toUInt64).toInt64)) q)), .second, .val (.int ba), .unset] [(.int (own_on f (k + ((6 : Int32) * q))))]))
                            refine k_if_eq A16 hx (hb hby at_243) (pcY := 250) (by decide) (pc' := 246) rfl (fun hc243 => ?_) (fun hc243 => ?_)
                            · refine k_iconst A16 hx (hb hby at_250) (v := 0) rfl (pc' := 251) rfl ?_
                              exact J251_4 T16 (0 : Int32) (S16.more (by decide) (by decide)) (by unfold own_E; simp only [hc92, hc104, hc116, hc130, hc144, hc158, hc172, hc186, hc200, hc214, hc228, hc243, if_true, if_false, not_true_eq_false, not_false_eq_true])
                            · refine k_iconst A16 hx (hb hby at_246) (v := 1) rfl (pc' := 247) rfl ?_
                              refine k_goto A16 hx (hb hby at_247) (pc' := 251) (by decide) ?_
                              exact J251_4 T16 (1 : Int32) (S16.more (by decide) (by decide)) (by unfold own_E; simp only [hc92, hc104, hc116, hc130, hc144, hc158, hc172, hc186, hc200, hc214, hc228, hc243, if_true, if_false, not_true_eq_false, not_false_eq_true])
    refine k_lload A2 hx (hb hby at_67) rfl (pc' := 69) rfl ?_
    refine k_iload A2 hx (hb hby at_69) rfl (pc' := 71) rfl ?_
    refine k_lushr A2 hx (hb hby at_71) (pc' := 72) rfl ?_
    refine k_lconst A2 hx (hb hby at_72) (v := 1) rfl (pc' := 73) rfl ?_
    refine k_land A2 hx (hb hby at_73) (pc' := 74) rfl ?_
    refine k_lconst A2 hx (hb hby at_74) (v := 0) rfl (pc' := 75) rfl ?_
    refine k_lcmp_eq A2 hx (hb hby at_75) (hb hby at_76) (pcY := 83) (by decide) (pc' := 79) rfl (fun hc75 => ?_) (fun hc75 => ?_)
    · refine k_iconst A2 hx (hb hby at_83) (v := 0) rfl (pc' := 84) rfl ?_
      exact J84_3 T2 (0 : Int32) (S2.more (by decide) (by decide)) (if_neg (fun z => z hc75)).symm
    · refine k_iconst A2 hx (hb hby at_79) (v := 1) rfl (pc' := 80) rfl ?_
      refine k_goto A2 hx (hb hby at_80) (pc' := 84) (by decide) ?_
      exact J84_3 T2 (1 : Int32) (S2.more (by decide) (by decide)) (if_pos hc75).symm
  refine k_iload A0 hx (hb hby at_0) rfl (pc' := 2) rfl ?_
  refine k_iconst A0 hx (hb hby at_2) (v := 3) rfl (pc' := 3) rfl ?_
  refine k_iand A0 hx (hb hby at_3) (pc' := 4) rfl ?_
  refine k_istore A0 hx (hb hby at_4) (Ls' := #[.val (.long f), .second, .val (.long o), .second, .val (.int sp), .val (.int sq), .val (.int (sp &&& (3 : Int32))), .unset, .unset, .unset, .unset, .unset, .unset, .unset, .unset]) rfl (pc' := 6) rfl ?_
  refine k_iload A0 hx (hb hby at_6) rfl (pc' := 8) rfl ?_
  refine k_if_ne A0 hx (hb hby at_8) (pcY := 15) (by decide) (pc' := 11) rfl (fun hc8 => ?_) (fun hc8 => ?_)
  · refine k_iload A0 hx (hb hby at_15) rfl (pc' := 17) rfl ?_
    refine k_iconst A0 hx (hb hby at_17) (v := 1) rfl (pc' := 18) rfl ?_
    refine k_icmp_ne A0 hx (hb hby at_18) (pcY := 26) (by decide) (pc' := 21) rfl (fun hc18 => ?_) (fun hc18 => ?_)
    · refine k_iload A0 hx (hb hby at_26) rfl (pc' := 28) rfl ?_
      refine k_iconst A0 hx (hb hby at_28) (v := 2) rfl (pc' := 29) rfl ?_
      refine k_icmp_ne A0 hx (hb hby at_29) (pcY := 37) (by decide) (pc' := 32) rfl (fun hc29 => ?_) (fun hc29 => ?_)
      · refine k_bipush A0 hx (hb hby at_37) (v := 9) rfl (pc' := 39) rfl ?_
        exact J39_1 s₁ (9 : Int32) (S0.more (by decide) (by decide)) (by decide)
      · refine k_bipush A0 hx (hb hby at_32) (v := 8) rfl (pc' := 34) rfl ?_
        refine k_goto A0 hx (hb hby at_34) (pc' := 39) (by decide) ?_
        exact J39_1 s₁ (8 : Int32) (S0.more (by decide) (by decide)) (by decide)
    · refine k_bipush A0 hx (hb hby at_21) (v := 7) rfl (pc' := 23) rfl ?_
      refine k_goto A0 hx (hb hby at_23) (pc' := 39) (by decide) ?_
      exact J39_1 s₁ (7 : Int32) (S0.more (by decide) (by decide)) (by decide)
  · refine k_iconst A0 hx (hb hby at_11) (v := 1) rfl (pc' := 12) rfl ?_
    refine k_goto A0 hx (hb hby at_12) (pc' := 39) (by decide) ?_
    exact J39_1 s₁ (1 : Int32) (S0.more (by decide) (by decide)) (by decide)
set_option maxRecDepth 65536 in
set_option maxHeartbeats 40000000 in
theorem comes_1 {Post : Tables → Env → Array Value → State → Outcome → State → Prop} (hpost : ∀ tb e args s v u, (limb_1_1.after args s (.returned v) u = true ∧ limb_1_2.after args s (.returned v) u = true ∧ True) → FrameEnd s (.returned v) u (Jvm.fieldLocs frame_1_writes args s ++ Jvm.arrayLocs frame_1_arrays args s ++ Jvm.staticLocs frame_1_statics s) 0 0 → Post tb e args s (.returned v) u) :
    ArmFor flags0 classFile x code maxLocals ret World_1 tables_1 room_1 Calls_1 rest_1 Pre_1 Post := by
  intro l hfl _ _ p e ha hc hk s m args below hf hA hF happ hP
  obtain ⟨hcalls, hrest, hpre⟩ := hP
  obtain ⟨-, -, -, hnamed, -, -, -, hat⟩ := (Spec.applies_iff hf).mp happ
  obtain ⟨hg, hn⟩ := and_e (Cond.before_iff.mp (show (Jvm.Cond.and given_1 narrow_1).before args s = true from hpre))
  obtain ⟨g1, g2⟩ := and_e hg
  obtain ⟨g3, g4⟩ := and_e g2
  obtain ⟨g5, g6⟩ := and_e g4
  obtain ⟨g7, g8⟩ := and_e g6
  obtain ⟨w0, w1, w2, w3, rfl⟩ : ∃ w0 w1 w2 w3 : Value, args = #[w0, w1, w2, w3] := by
    have hs : args.size = 4 := by simpa [Cond.value, given_1] using g1
    obtain ⟨L⟩ := args
    match L, hs with
    | [w0, w1, w2, w3], _ => exact ⟨w0, w1, w2, w3, rfl⟩
  have hw := fun d (hd : d ∈ tables_1) => atoms_spec (ws := Jvm.Cond.code x code maxLocals ret :: tables_1) hat d (List.mem_cons_of_mem _ hd)
  obtain ⟨i0, ei0⟩ := isL_v g3
  obtain rfl : w0 = (.long i0) := Option.some.inj ei0
  obtain ⟨i1, ei1⟩ := isL_v g5
  obtain rfl : w1 = (.long i1) := Option.some.inj ei1
  obtain ⟨i2, ei2⟩ := is_v g7
  obtain rfl : w2 = (.int i2) := Option.some.inj ei2
  obtain ⟨i3, ei3⟩ := is_v g8
  obtain rfl : w3 = (.int i3) := Option.some.inj ei3
  obtain ⟨n, o, h1, h2, h3, _, L, rfl, ⟨rfl, N⟩, hq⟩ := own_law l s _ hw i0 i1 i2 i3 s.heap s.heap.size (Nat.le_refl _) tables_1 p e ha hc hk s m _ below hf ((Spec.applies_iff_loose hf).mp happ).1 ⟨rfl, State.Warmed39.refl s, rfl⟩ trivial
  refine ⟨n, _, h1, h2, h3, hpost _ _ _ _ _ _ ⟨Cond.after_iff.mpr rfl, Cond.after_iff.mpr (eq_i res_at (Term.int_eval (1)) rfl), trivial⟩ ⟨hq.1, hq.2.1, (hq.2.2.sift fun y hy => Or.inr (N y hy)).mono (by decide) (by decide)⟩⟩
theorem main_1_1 : Claimed_1_1 := comes_1 fun _ _ _ _ _ _ h hF => ⟨h.1, hF⟩
theorem main_1_2 : Claimed_1_2 := comes_1 fun _ _ _ _ _ _ h hF => ⟨h.2.1, hF⟩
end Jvm.Pilot.@@N@@
namespace Jvm.Pilot.@@N@@
open Jvm Jvm.ClassFile Sem Op Lib Jvm.Free Jvm.Stand Jvm.Pilot.@@N@@.Jvm.D
/-! MADE BY PROGRAM (witnessworld.py) out of the Statement's table words and the real class files: 9 classes; the members and pool entries that the words name. The judged class is class 1, her method 2. -/
namespace start1
open Jvm.ClassFile
def u (s : String) : CpInfo := .utf8 (stringToUtf16 s)
/-- a pool by its gaps: so many unusable entries, then the entry; so many at the end -/
def gap : Nat → List CpInfo → List CpInfo
  | 0, r => r
  | n + 1, r => .unusable :: gap n r
def poolList (es : List (Nat × CpInfo)) (last : Nat) : List CpInfo := es.foldr (fun e r => gap e.1 (e.2 :: r)) (gap last [])
def pool (es : List (Nat × CpInfo)) (last : Nat) : Array CpInfo := ⟨poolList es last⟩
def fileOf (pool : Array CpInfo) (this : Nat) (attrs : Array Attribute := #[]) (ms : Array MethodInfo := #[]) (fl : Nat := 33) (sup : Nat := 0) (ifs : Array Nat := #[]) (fds : Array FieldInfo := #[]) : ClassFile where
  minorVersion := 0
  majorVersion := 65
  constantPool := pool
  accessFlags := fl
  thisClass := this
  superClass := sup
  interfaces := ifs
  fields := fds
  methods := ms
  attributes := attrs
def plain (name : String) (sup : Option ClassId) : Class where
  name := name
  kind := .ordinary
  loader := none
  accessFlags := 33
  super := sup
  interfaces := #[]
  cf := none
  fields := #[]
  methods := #[]
  instanceTypes := #[]
  staticTypes := #[]
  resolved := #[]
  callSites := []
  init := .initialized
  statics := none
  mirror := none

def pool0 : Array CpInfo := pool [(5, u "<init>"), (0, u "()V"), (1, .class_ 10), (1, u "java/lang/Object")] 113

def k0m0 : Method := { name := "<init>", desc := "()V", sig := { parameters := [], returnType := none }, accessFlags := 1, code := none }
/-- java/lang/Object -/
def k0 : Class := { plain "java/lang/Object" none with
  accessFlags := 33
  interfaces := #[]
  cf := some (fileOf pool0 8 #[] #[{ accessFlags := 1, nameIndex := 5, descriptorIndex := 6, attributes := #[] }] 33 0 #[] #[])
  fields := #[]
  methods := #[k0m0]
  instanceTypes := #[]
  staticTypes := #[]
  resolved := Array.replicate 124 none
  statics := none }

def pool1 : Array CpInfo := pool [(2, .class_ 4), (1, u "java/lang/Object"), (0, u "<init>"), (0, u "()V"), (0, .methodref 8 9), (0, .class_ 10), (0, .nameAndType 11 12), (0, u "com/example/flankline/flankline/rules/Moves"), (0, u "lineDown"), (0, u "(JJJI)J"), (0, .methodref 14 15), (0, .class_ 16), (0, .nameAndType 17 18), (0, u "com/example/flankline/flankline/rules/MovesLineDownPinLaw"), (0, u "on"), (0, u "(JI)Z"), (3, u "law"), (0, u "(JJII)Z")] 2

def k1m0 : Method := { name := "<init>", desc := "()V", sig := { parameters := [], returnType := none }, accessFlags := 2, code := none }
def k1c1 : Code := { maxStack := 4, maxLocals := 3, code := method_2_code, exceptionTable := #[], attributes := #[] }
def k1m1 : Method := { name := "on", desc := "(JI)Z", sig := { parameters := [.long, .int], returnType := some .boolean }, accessFlags := 10, code := some k1c1 }
def k1c2 : Code := { maxStack := 7, maxLocals := 15, code := code, exceptionTable := #[], attributes := #[] }
def k1m2 : Method := { name := "law", desc := "(JJII)Z", sig := { parameters := [.long, .long, .int, .int], returnType := some .boolean }, accessFlags := 9, code := some k1c2 }
/-- com/example/flankline/flankline/rules/MovesLineDownPinLaw -/
def k1 : Class := { plain "com/example/flankline/flankline/rules/MovesLineDownPinLaw" (some 0) with
  accessFlags := 49
  interfaces := #[]
  cf := some (fileOf pool1 14 #[] #[{ accessFlags := 2, nameIndex := 5, descriptorIndex := 6, attributes := #[] }, { accessFlags := 10, nameIndex := 17, descriptorIndex := 18, attributes := #[] }, { accessFlags := 9, nameIndex := 22, descriptorIndex := 23, attributes := #[] }] 49 2 #[] #[])
  fields := #[]
  methods := #[k1m0, k1m1, k1m2]
  instanceTypes := #[]
  staticTypes := #[]
  resolved := Array.replicate 26 none
  statics := none }

def pool2 : Array CpInfo := pool [(2, .class_ 4), (1, u "java/lang/Object"), (0, u "<init>"), (0, u "()V"), (0, .class_ 8), (0, u "com/example/flankline/flankline/rules/Moves"), (11, u "(JJJI)J"), (2, u "lineDown"), (10, u "DIRECTIONS"), (0, u "I"), (2, u "RAYS"), (0, u "[J"), (18, u "COLUMN_STEPS"), (0, u "[I"), (2, u "ROW_STEPS"), (4, u "INNER_COLUMNS"), (0, u "J")] 12

def k2m0 : Method := { name := "<init>", desc := "()V", sig := { parameters := [], returnType := none }, accessFlags := 2, code := none }
def k2c1 : Code := { maxStack := 8, maxLocals := 9, code := prog_34_method_5_code, exceptionTable := #[], attributes := #[] }
def k2m1 : Method := { name := "lineDown", desc := "(JJJI)J", sig := { parameters := [.long, .long, .long, .int], returnType := some .long }, accessFlags := 8, code := some k2c1 }
/-- com/example/flankline/flankline/rules/Moves -/
def k2 : Class := { plain "com/example/flankline/flankline/rules/Moves" (some 0) with
  accessFlags := 49
  interfaces := #[]
  cf := some (fileOf pool2 7 #[] #[{ accessFlags := 2, nameIndex := 5, descriptorIndex := 6, attributes := #[] }, { accessFlags := 8, nameIndex := 23, descriptorIndex := 20, attributes := #[] }] 49 2 #[] #[{ accessFlags := 24, nameIndex := 67, descriptorIndex := 68, attributes := #[] }, { accessFlags := 26, nameIndex := 58, descriptorIndex := 59, attributes := #[] }, { accessFlags := 26, nameIndex := 62, descriptorIndex := 59, attributes := #[] }, { accessFlags := 26, nameIndex := 34, descriptorIndex := 35, attributes := #[] }, { accessFlags := 26, nameIndex := 38, descriptorIndex := 39, attributes := #[] }])
  fields := #[{ name := "INNER_COLUMNS", type := .long, accessFlags := 24, slot := 0, constantValue := 0 }, { name := "COLUMN_STEPS", type := (.array .int), accessFlags := 26, slot := 1, constantValue := 0 }, { name := "ROW_STEPS", type := (.array .int), accessFlags := 26, slot := 2, constantValue := 0 }, { name := "DIRECTIONS", type := .int, accessFlags := 26, slot := 3, constantValue := 0 }, { name := "RAYS", type := (.array .long), accessFlags := 26, slot := 4, constantValue := 0 }]
  methods := #[k2m0, k2m1]
  instanceTypes := #[]
  staticTypes := #[.long, (.array .int), (.array .int), .int, (.array .long)]
  resolved := Array.replicate 81 none
  statics := none }

def pool3 : Array CpInfo := pool [(1, u "java/lang/Cloneable"), (0, .class_ 1), (0, u "java/lang/Object"), (0, .class_ 3)] 3

/-- java/lang/Cloneable -/
def k3 : Class := { plain "java/lang/Cloneable" (some 0) with
  accessFlags := 1537
  interfaces := #[]
  cf := some (fileOf pool3 2 #[] #[] 1537 4 #[] #[])
  fields := #[]
  methods := #[]
  instanceTypes := #[]
  staticTypes := #[]
  resolved := Array.replicate 8 none
  statics := none }

def pool4 : Array CpInfo := pool [(1, u "java/io/Serializable"), (0, .class_ 1), (0, u "java/lang/Object"), (0, .class_ 3)] 3

/-- java/io/Serializable -/
def k4 : Class := { plain "java/io/Serializable" (some 0) with
  accessFlags := 1537
  interfaces := #[]
  cf := some (fileOf pool4 2 #[] #[] 1537 4 #[] #[])
  fields := #[]
  methods := #[]
  instanceTypes := #[]
  staticTypes := #[]
  resolved := Array.replicate 8 none
  statics := none }

/-- the primitive byte -/
def k5 : Class := { plain "byte" none with kind := .primitive 'B', accessFlags := 0x411 }
/-- [B -/
def k6 : Class := { plain "[B" (some 0) with kind := .array 5 .byte, interfaces := #[3, 4], accessFlags := 1041 }

/-- the primitive int -/
def k7 : Class := { plain "int" none with kind := .primitive 'I', accessFlags := 0x411 }
/-- [I -/
def k8 : Class := { plain "[I" (some 0) with kind := .array 7 .int, interfaces := #[3, 4], accessFlags := 1041 }

def heap : Heap := #[]
def classes : Array Class := #[k0, k1, k2, k3, k4, k5, k6, k7, k8]
def interned : List (Array UInt16 × Addr) := []
def slotsUsed : Nat := 0
def theMethod : MethodId := ⟨1, 2⟩
def args0 : Array Value := #[.long 1, .long 2, .int 0, .int 3]
def aboutOver (below : List Frame) : State where
  vm := { classes := classes, interned := interned.toArray }
  heap := heap
  slotsUsed := slotsUsed
  threads := #[{ frames := .invoking theMethod args0 :: below }]
def below0 : List Frame := [.native { method := ⟨0, 0⟩, args := #[] }]
def about1 : State := aboutOver below0
def p0 : Program := .bare "" "" ""
def e0 : Env := launch0.env 0 0 0
theorem w_frames : about1.frames = Frame.invoking theMethod args0 :: below0 := rfl
set_option maxRecDepth 65536 in
theorem w_args : argsFit about1.vm theMethod args0 = true := by decide +kernel
set_option maxRecDepth 65536 in
theorem w_heap : heapFits about1 = true := by decide +kernel
set_option maxRecDepth 65536 in
theorem w_runnable : about1.curStatus? = some .runnable := by decide +kernel
set_option maxRecDepth 65536 in
theorem w_alone : about1.alone = true := by decide +kernel
set_option maxRecDepth 65536 in
theorem w_named : about1.methodNamed? x = some theMethod := by decide +kernel
set_option maxRecDepth 65536 in
theorem w_hears : about1.hears theMethod below0 = true := by decide +kernel
set_option maxRecDepth 65536 in
theorem w_ripe : about1.ripe theMethod args0 below0 = true := by decide +kernel
theorem w_running : about1.status = .running := rfl
set_option maxRecDepth 65536 in
theorem w_room : about1.hasRoom e0.platform room_1 = true :=
  launch0.hasRoom_least _ room_1 (by decide +kernel) (by decide +kernel) (by decide +kernel) (by decide +kernel) (by decide +kernel) (by decide +kernel)
theorem allAtoms_all (ts : List Jvm.Cond) (a : Array Jvm.Value) (st : Jvm.State) : (allAtoms ts).before a st = ts.all (fun c => c.before a st) := by
  induction ts with
  | nil => rfl
  | cons c t ih =>
    show (Jvm.Cond.and c (allAtoms t)).before a st = _
    rw [Jvm.Cond.before_and, ih, List.all_cons]
def words1 : List Jvm.Cond := Jvm.Cond.code x code maxLocals ret :: tables_1
/-- a 'code' word, met by the world's own term for the bytes: nothing is compared byte by byte -/
theorem code_word {y : MethodName} {bytes : ByteArray} {mx : Nat} {rt : Option FieldType} {a : Array Value} {s : State} {m : MethodId} {meth : Method} {c : Code} (h1 : s.methodNamed? y = some m) (h2 : s.vm.method? m = some meth) (h3 : meth.code = some c) (h4 : c.code = bytes)
    (h5 : (c.maxLocals == mx && c.exceptionTable.isEmpty && decide (c.maxStack ≤ mostOperands) && decide (meth.sig.returnType = rt) && !meth.locks && decide (parseMethodDescriptor y.desc = some meth.sig)) = true) : (Jvm.Cond.code y bytes mx rt).before a s = true := by
  simp only [Bool.and_eq_true, beq_iff_eq, Bool.not_eq_true', decide_eq_true_eq] at h5
  obtain ⟨⟨⟨⟨⟨g1, g2⟩, g3⟩, g4⟩, g5⟩, g6⟩ := h5
  simp [Cond.before, Cond.holds, Cond.value, h1, h2, h3, h4, g1, g2, g3, g4, g5, g6]
def isCode : Jvm.Cond → Bool
  | .code _ _ _ _ => true
  | _ => false
theorem all_split {L : List Jvm.Cond} {P : Jvm.Cond → Bool} (h1 : L.all (fun c => isCode c || P c) = true) (h2 : ∀ c ∈ L.filter isCode, P c = true) : L.all P = true := by
  refine List.all_eq_true.mpr fun c hc => ?_
  have h := List.all_eq_true.mp h1 c hc
  rcases Bool.eq_false_or_eq_true (isCode c) with hi | hi
  · exact h2 c (List.mem_filter.mpr ⟨hc, hi⟩)
  · simpa [hi] using h
set_option maxRecDepth 65536 in
theorem w_c0 : (Jvm.Cond.code x code maxLocals ret).before args0 about1 = true := code_word (m := ⟨1, 2⟩) (meth := k1m2) (c := k1c2) (by decide +kernel) rfl rfl rfl (by decide +kernel)
set_option maxRecDepth 65536 in
theorem w_c1 : (Jvm.Cond.code ({ cls := "com/example/flankline/flankline/rules/Moves", name := "lineDown", desc := "(JJJI)J" } : Jvm.MethodName) prog_34_method_5_code (9 : Nat) (Option.some Jvm.ClassFile.FieldType.long)).before args0 about1 = true := code_word (m := ⟨2, 1⟩) (meth := k2m1) (c := k2c1) (by decide +kernel) rfl rfl rfl (by decide +kernel)
set_option maxRecDepth 65536 in
theorem w_c2 : (Jvm.Cond.code ({ cls := "com/example/flankline/flankline/rules/MovesLineDownPinLaw", name := "on", desc := "(JI)Z" } : Jvm.MethodName) method_2_code (3 : Nat) (Option.some Jvm.ClassFile.FieldType.boolean)).before args0 about1 = true := code_word (m := ⟨1, 1⟩) (meth := k1m1) (c := k1c1) (by decide +kernel) rfl rfl rfl (by decide +kernel)
def codes1 : List Jvm.Cond := [Jvm.Cond.code x code maxLocals ret, Jvm.Cond.code ({ cls := "com/example/flankline/flankline/rules/Moves", name := "lineDown", desc := "(JJJI)J" } : Jvm.MethodName) prog_34_method_5_code (9 : Nat) (Option.some Jvm.ClassFile.FieldType.long), Jvm.Cond.code ({ cls := "com/example/flankline/flankline/rules/MovesLineDownPinLaw", name := "on", desc := "(JI)Z" } : Jvm.MethodName) method_2_code (3 : Nat) (Option.some Jvm.ClassFile.FieldType.boolean)]
set_option maxRecDepth 65536 in
theorem codes_eq : words1.filter isCode = codes1 := rfl
theorem w_codes : ∀ c ∈ words1.filter isCode, c.before args0 about1 = true := by
  rw [codes_eq]
  intro c hc
  simp only [codes1, List.mem_cons, List.not_mem_nil, or_false] at hc
  rcases hc with rfl | rfl | rfl
  · exact w_c0
  · exact w_c1
  · exact w_c2
set_option maxRecDepth 65536 in
theorem w_t1 : words1.all (fun c => isCode c || c.before args0 about1) = true := by decide +kernel
theorem w_tables : (allAtoms (Jvm.Cond.code x code maxLocals ret :: tables_1)).before args0 about1 = true := by
  rw [allAtoms_all]
  show words1.all (fun c => c.before args0 about1) = true
  refine all_split ?_ w_codes
  rw [w_t1]
set_option maxRecDepth 65536 in
theorem w_case : (Jvm.Cond.and given_1 narrow_1).before args0 about1 = true := by decide +kernel
theorem w_applies : (headSpec (Jvm.Cond.code x code maxLocals ret :: tables_1) room_1).applies x e0.platform about1 = true :=
  (Spec.applies_iff w_frames).mpr ⟨w_running, w_runnable, w_alone, w_named, w_hears, w_ripe, w_room, w_tables⟩
theorem atStart : AtStart classFile x code maxLocals ret World_1 tables_1 room_1 Calls_1 rest_1 Pre_1 launch0 p0 e0 about1 theMethod args0 below0 :=
  ⟨lists_1, trivial, launch0.admits_env _ _ _, launch0.least_env, fairChoices_fair.cas, fairChoices_fair.clock, w_frames, w_args, w_heap, w_applies, trivial, trivial, w_case⟩
end start1
theorem witness_1 : WitnessClaimed_1 := ⟨start1.p0, start1.e0, start1.about1, start1.theMethod, start1.args0, start1.below0, start1.atStart⟩
end Jvm.Pilot.@@N@@
