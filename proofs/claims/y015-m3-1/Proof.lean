import JvmDerived
import JvmDerived.Pilot.@@N@@Statement
import JvmDerived.Pilot.@@N@@Code
set_option linter.unusedVariables false
set_option linter.unusedSimpArgs false
namespace Jvm.OwnKit
open Sem ClassFile Op Lib Jvm.Stand Jvm.Free Jvm.LawKit Jvm.RoadKit
/-! My own layer: a walk forward. Done G S: from the state S the invocation comes to its end, and G holds there. -/
def Done (p : Program) (e : Env) (below : List Frame) (G : Outcome → State → Prop) (S : State) : Prop :=
  ∃ s₂ o, Steps p.tables e below S s₂ ∧ s₂.status = .running ∧ Ended s₂ below o ∧ G o s₂
/-- what a contract promises at the end: the value, the heap; all that was written lies at or above n0 -/
def OEnd (s : State) (R : Room) (n0 : Nat) (Q : Option Value → Heap → Prop) (o : Outcome) (U : State) : Prop :=
  ∃ v L, o = .returned v ∧ (Q v U.heap ∧ Fr n0 L) ∧ FrameEnd s o U L R.cells R.slots
/-- where the walk stands: a Stand whose writes lie at or above n0, and its heap -/
def St (p : Program) (l : Launch) (e : Env) (R : Room) (s : State) (m : MethodId) (args : Array Value) (below : List Frame) (meth : Method) (c : Code) (n0 : Nat) (T : State) (h : Heap) (k n : Nat) : Prop :=
  ∃ locs, Stand p l e R s m args below meth c T locs k n ∧ Fr n0 locs ∧ T.heap = h
/-- a contract of a body -/
def Con (l : Launch) (Z : State) (y : MethodName) (bytes : ByteArray) (maxL : Nat) (ret : Option FieldType) (rm : Room) (n0 : Nat) (h0 : Heap) (as' : Array Value) (Q : Option Value → Heap → Prop) : Prop :=
  ∀ ws : List Jvm.Cond, MetFree l y (head1 (Jvm.Cond.code y bytes maxL ret :: ws) rm) (fun a U => a = as' ∧ Z.Warmed39 U.vm ∧ U.heap = h0) (fun _ _ _ _ _ => True) (fun _ U o U' => OEnd U rm n0 Q o U')
section Walk
variable {p : Program} {l : Launch} {e : Env} {R : Room} {s : State} {m : MethodId} {args : Array Value} {below : List Frame} {meth : Method} {c : Code} {n0 : Nat} {T : State} {h : Heap} {k n : Nat} {Z : State} {a0 : Array Value}
variable {G : Outcome → State → Prop} {pc pc' : Nat} {Ls Ls' : Array Slot} {st : List Value}
theorem Done.go {S S' : State} (f : ∀ t, Steps p.tables e below S' t → Steps p.tables e below S t) (d : Done p e below G S') : Done p e below G S := by
  obtain ⟨s₂, o, h1, h2⟩ := d
  exact ⟨s₂, o, f _ h1, h2⟩
theorem St.here (S : St p l e R s m args below meth c n0 T h k n) : At T m c below := by
  obtain ⟨_, X, _⟩ := S
  exact X.here
theorem St.heap (S : St p l e R s m args below meth c n0 T h k n) : T.heap = h := by
  obtain ⟨_, _, _, q⟩ := S
  exact q
theorem St.more {k' n' : Nat} (S : St p l e R s m args below meth c n0 T h k n) (hk : k ≤ k') (hn : n ≤ n') : St p l e R s m args below meth c n0 T h k' n' := by
  obtain ⟨L, X, N, q⟩ := S
  exact ⟨L, X.more hk hn, N, q⟩
theorem Con.intro {y : MethodName} {bytes : ByteArray} {maxL : Nat} {ret : Option FieldType} {rm : Room} {h0 : Heap} {as' : Array Value} {Q : Option Value → Heap → Prop}
    (hp : plainFor y = true) (hef : ∀ m, entryFrame m as' maxL = mkF m 0 Ls [])
    (body : ∀ (p : Program) (e : Env) (s : State) (m : MethodId) (below : List Frame) (meth : Method) (c : Code) (s₁ : State), p.tables.exec = Jvm.exec → c.code = bytes → c.maxLocals = maxL → s.vm.findClass y.cls = some m.cls → meth.name = y.name →
      meth.sig.returnType = ret → meth.locks = false → Z.Warmed39 s.vm → St p l e rm s m as' below meth c n0 s₁ h0 0 0 → Done p e below (OEnd s rm n0 Q) (s₁.setTop (mkF m 0 Ls []))) :
    Con l Z y bytes maxL ret rm n0 h0 as' Q := by
  intro ws
  refine MetFree.of_bodySF hp hisR ?_
  intro p e s m args below meth c s₁ Bd hml0 hP hK
  obtain ⟨rfl, hZ, hh⟩ := hP
  have hr := body p e s m below meth c s₁ Bd.exec Bd.bytes hml0 (findClass_of_methodNamed Bd.named) (name_of_methodNamed Bd.named Bd.method).1 Bd.returns Bd.notSynchronized hZ ⟨[], Stand.of_body Bd, Fr.nil n0, by rw [← hh, Bd.state]; rfl⟩
  rw [← hef m] at hr
  exact hr
/-! ### single steps -/
theorem k_iload (A : At T m c below) (hx : p.tables.exec = Jvm.exec) {i : Nat} {v : Int32} (hd : decode c.code pc = .ok (.iload i, 2)) (hl : Ls[i]? = some (.val (.int v))) (hp : pc + 2 = pc')
    (K : Done p e below G (T.setTop (mkF m pc' Ls (.int v :: st)))) : Done p e below G (T.setTop (mkF m pc Ls st)) := by
  subst hp; exact Done.go (fun t q => XS.iload A hx rfl hd hl q) K
theorem k_iloadN (A : At T m c below) (hx : p.tables.exec = Jvm.exec) {i : Fin 4} {v : Int32} (hd : decode c.code pc = .ok (.iload_n i, 1)) (hl : Ls[i.val]? = some (.val (.int v))) (hp : pc + 1 = pc')
    (K : Done p e below G (T.setTop (mkF m pc' Ls (.int v :: st)))) : Done p e below G (T.setTop (mkF m pc Ls st)) := by
  subst hp; exact Done.go (fun t q => XS.iloadN A hx rfl hd hl q) K
theorem k_istore (A : At T m c below) (hx : p.tables.exec = Jvm.exec) {i : Nat} {v : Int32} (hd : decode c.code pc = .ok (.istore i, 2)) (hl : storeLocals Ls i (.int v) = some Ls') (hp : pc + 2 = pc')
    (K : Done p e below G (T.setTop (mkF m pc' Ls' st))) : Done p e below G (T.setTop (mkF m pc Ls (.int v :: st))) := by
  subst hp; exact Done.go (fun t q => XS.istore A hx rfl hd rfl hl q) K
theorem k_istoreN (A : At T m c below) (hx : p.tables.exec = Jvm.exec) {i : Fin 4} {v : Int32} (hd : decode c.code pc = .ok (.istore_n i, 1)) (hl : storeLocals Ls i.val (.int v) = some Ls') (hp : pc + 1 = pc')
    (K : Done p e below G (T.setTop (mkF m pc' Ls' st))) : Done p e below G (T.setTop (mkF m pc Ls (.int v :: st))) := by
  subst hp; exact Done.go (fun t q => XS.istoreN A hx rfl hd rfl hl q) K
theorem k_lload (A : At T m c below) (hx : p.tables.exec = Jvm.exec) {i : Nat} {v : Int64} (hd : decode c.code pc = .ok (.lload i, 2)) (hl : Ls[i]? = some (.val (.long v))) (hp : pc + 2 = pc')
    (K : Done p e below G (T.setTop (mkF m pc' Ls (.long v :: st)))) : Done p e below G (T.setTop (mkF m pc Ls st)) := by
  subst hp; exact Done.go (fun t q => XS.lload A hx rfl hd hl q) K
theorem k_lloadN (A : At T m c below) (hx : p.tables.exec = Jvm.exec) {i : Fin 4} {v : Int64} (hd : decode c.code pc = .ok (.lload_n i, 1)) (hl : Ls[i.val]? = some (.val (.long v))) (hp : pc + 1 = pc')
    (K : Done p e below G (T.setTop (mkF m pc' Ls (.long v :: st)))) : Done p e below G (T.setTop (mkF m pc Ls st)) := by
  subst hp; exact Done.go (fun t q => XS.lloadN A hx rfl hd hl q) K
theorem k_lstore (A : At T m c below) (hx : p.tables.exec = Jvm.exec) {i : Nat} {v : Int64} (hd : decode c.code pc = .ok (.lstore i, 2)) (hl : storeLocals Ls i (.long v) = some Ls') (hp : pc + 2 = pc')
    (K : Done p e below G (T.setTop (mkF m pc' Ls' st))) : Done p e below G (T.setTop (mkF m pc Ls (.long v :: st))) := by
  subst hp; exact Done.go (fun t q => XS.lstore A hx rfl hd rfl hl q) K
theorem k_lstoreN (A : At T m c below) (hx : p.tables.exec = Jvm.exec) {i : Fin 4} {v : Int64} (hd : decode c.code pc = .ok (.lstore_n i, 1)) (hl : storeLocals Ls i.val (.long v) = some Ls') (hp : pc + 1 = pc')
    (K : Done p e below G (T.setTop (mkF m pc' Ls' st))) : Done p e below G (T.setTop (mkF m pc Ls (.long v :: st))) := by
  subst hp; exact Done.go (fun t q => XS.lstoreN A hx rfl hd rfl hl q) K
theorem k_aload (A : At T m c below) (hx : p.tables.exec = Jvm.exec) {i : Nat} {v : Value} (hd : decode c.code pc = .ok (.aload i, 2)) (hl : Ls[i]? = some (.val v)) (hv : v.isRef = true) (hp : pc + 2 = pc')
    (K : Done p e below G (T.setTop (mkF m pc' Ls (v :: st)))) : Done p e below G (T.setTop (mkF m pc Ls st)) := by
  subst hp; exact Done.go (fun t q => XS.aload A hx rfl hd hl hv q) K
theorem k_aloadN (A : At T m c below) (hx : p.tables.exec = Jvm.exec) {i : Fin 4} {v : Value} (hd : decode c.code pc = .ok (.aload_n i, 1)) (hl : Ls[i.val]? = some (.val v)) (hv : v.isRef = true) (hp : pc + 1 = pc')
    (K : Done p e below G (T.setTop (mkF m pc' Ls (v :: st)))) : Done p e below G (T.setTop (mkF m pc Ls st)) := by
  subst hp; exact Done.go (fun t q => XS.aloadN A hx rfl hd hl hv q) K
theorem k_astore (A : At T m c below) (hx : p.tables.exec = Jvm.exec) {i : Nat} {v : Value} (hd : decode c.code pc = .ok (.astore i, 2)) (hv : v.isRef = true) (hl : storeLocals Ls i v = some Ls') (hp : pc + 2 = pc')
    (K : Done p e below G (T.setTop (mkF m pc' Ls' st))) : Done p e below G (T.setTop (mkF m pc Ls (v :: st))) := by
  subst hp; exact Done.go (fun t q => XS.astore A hx rfl hd rfl hv hl q) K
theorem k_astoreN (A : At T m c below) (hx : p.tables.exec = Jvm.exec) {i : Fin 4} {v : Value} (hd : decode c.code pc = .ok (.astore_n i, 1)) (hv : v.isRef = true) (hl : storeLocals Ls i.val v = some Ls') (hp : pc + 1 = pc')
    (K : Done p e below G (T.setTop (mkF m pc' Ls' st))) : Done p e below G (T.setTop (mkF m pc Ls (v :: st))) := by
  subst hp; exact Done.go (fun t q => XS.astoreN A hx rfl hd rfl hv hl q) K
theorem k_iconst (A : At T m c below) (hx : p.tables.exec = Jvm.exec) {i : Int} {v : Int32} (hd : decode c.code pc = .ok (.iconst i, 1)) (hv : Int32.ofInt i = v) (hp : pc + 1 = pc')
    (K : Done p e below G (T.setTop (mkF m pc' Ls (.int v :: st)))) : Done p e below G (T.setTop (mkF m pc Ls st)) := by
  subst hp hv; exact Done.go (fun t q => XS.iconst A hx rfl hd q) K
theorem k_bipush (A : At T m c below) (hx : p.tables.exec = Jvm.exec) {i : Int} {v : Int32} (hd : decode c.code pc = .ok (.bipush i, 2)) (hv : (Int8.ofInt i).toInt32 = v) (hp : pc + 2 = pc')
    (K : Done p e below G (T.setTop (mkF m pc' Ls (.int v :: st)))) : Done p e below G (T.setTop (mkF m pc Ls st)) := by
  subst hp hv; exact Done.go (fun t q => XS.bipush A hx rfl hd q) K
theorem k_sipush (A : At T m c below) (hx : p.tables.exec = Jvm.exec) {i : Int} {v : Int32} (hd : decode c.code pc = .ok (.sipush i, 3)) (hv : (Int16.ofInt i).toInt32 = v) (hp : pc + 3 = pc')
    (K : Done p e below G (T.setTop (mkF m pc' Ls (.int v :: st)))) : Done p e below G (T.setTop (mkF m pc Ls st)) := by
  subst hp hv; exact Done.go (fun t q => XS.sipush A hx rfl hd q) K
theorem k_lconst (A : At T m c below) (hx : p.tables.exec = Jvm.exec) {i : Fin 2} {v : Int64} (hd : decode c.code pc = .ok (.lconst i, 1)) (hv : Int64.ofNat i = v) (hp : pc + 1 = pc')
    (K : Done p e below G (T.setTop (mkF m pc' Ls (.long v :: st)))) : Done p e below G (T.setTop (mkF m pc Ls st)) := by
  subst hp hv; exact Done.go (fun t q => XS.lconst A hx rfl hd q) K
theorem k_aconstNull (A : At T m c below) (hx : p.tables.exec = Jvm.exec)  (hd : decode c.code pc = .ok (.aconst_null, 1)) (hp : pc + 1 = pc')
    (K : Done p e below G (T.setTop (mkF m pc' Ls (.null :: st)))) : Done p e below G (T.setTop (mkF m pc Ls st)) := by
  subst hp; exact Done.go (fun t q => XS.aconstNull A hx rfl hd q) K
theorem k_dup (A : At T m c below) (hx : p.tables.exec = Jvm.exec) {v : Value} (hd : decode c.code pc = .ok (.dup, 1)) (hv : v.category = 1) (hp : pc + 1 = pc')
    (K : Done p e below G (T.setTop (mkF m pc' Ls (v :: v :: st)))) : Done p e below G (T.setTop (mkF m pc Ls (v :: st))) := by
  subst hp; exact Done.go (fun t q => XS.dup A hx rfl hd rfl hv q) K
theorem k_pop (A : At T m c below) (hx : p.tables.exec = Jvm.exec) {v : Value} (hd : decode c.code pc = .ok (.pop, 1)) (hv : v.category = 1) (hp : pc + 1 = pc')
    (K : Done p e below G (T.setTop (mkF m pc' Ls st))) : Done p e below G (T.setTop (mkF m pc Ls (v :: st))) := by
  subst hp; exact Done.go (fun t q => XS.pop A hx rfl hd rfl hv q) K
theorem k_dupX1 (A : At T m c below) (hx : p.tables.exec = Jvm.exec) {v w : Value} (hd : decode c.code pc = .ok (.dup_x1, 1)) (hv : v.category = 1) (hw : w.category = 1) (hp : pc + 1 = pc')
    (K : Done p e below G (T.setTop (mkF m pc' Ls (v :: w :: v :: st)))) : Done p e below G (T.setTop (mkF m pc Ls (v :: w :: st))) := by
  subst hp; exact Done.go (fun t q => XS.dupX1 A hx rfl hd rfl hv hw q) K
theorem k_iadd (A : At T m c below) (hx : p.tables.exec = Jvm.exec) {x y : Int32} (hd : decode c.code pc = .ok (.iadd, 1)) (hp : pc + 1 = pc')
    (K : Done p e below G (T.setTop (mkF m pc' Ls (.int (x + y) :: st)))) : Done p e below G (T.setTop (mkF m pc Ls (.int y :: .int x :: st))) := by
  subst hp; exact Done.go (fun t q => XS.iadd A hx rfl hd rfl q) K
theorem k_isub (A : At T m c below) (hx : p.tables.exec = Jvm.exec) {x y : Int32} (hd : decode c.code pc = .ok (.isub, 1)) (hp : pc + 1 = pc')
    (K : Done p e below G (T.setTop (mkF m pc' Ls (.int (x - y) :: st)))) : Done p e below G (T.setTop (mkF m pc Ls (.int y :: .int x :: st))) := by
  subst hp; exact Done.go (fun t q => XS.isub A hx rfl hd rfl q) K
theorem k_imul (A : At T m c below) (hx : p.tables.exec = Jvm.exec) {x y : Int32} (hd : decode c.code pc = .ok (.imul, 1)) (hp : pc + 1 = pc')
    (K : Done p e below G (T.setTop (mkF m pc' Ls (.int (x * y) :: st)))) : Done p e below G (T.setTop (mkF m pc Ls (.int y :: .int x :: st))) := by
  subst hp; exact Done.go (fun t q => XS.imul A hx rfl hd rfl q) K
theorem k_iand (A : At T m c below) (hx : p.tables.exec = Jvm.exec) {x y : Int32} (hd : decode c.code pc = .ok (.iand, 1)) (hp : pc + 1 = pc')
    (K : Done p e below G (T.setTop (mkF m pc' Ls (.int (x &&& y) :: st)))) : Done p e below G (T.setTop (mkF m pc Ls (.int y :: .int x :: st))) := by
  subst hp; exact Done.go (fun t q => XS.iand A hx rfl hd rfl q) K
theorem k_ior (A : At T m c below) (hx : p.tables.exec = Jvm.exec) {x y : Int32} (hd : decode c.code pc = .ok (.ior, 1)) (hp : pc + 1 = pc')
    (K : Done p e below G (T.setTop (mkF m pc' Ls (.int (x ||| y) :: st)))) : Done p e below G (T.setTop (mkF m pc Ls (.int y :: .int x :: st))) := by
  subst hp; exact Done.go (fun t q => XS.ior A hx rfl hd rfl q) K
theorem k_ixor (A : At T m c below) (hx : p.tables.exec = Jvm.exec) {x y : Int32} (hd : decode c.code pc = .ok (.ixor, 1)) (hp : pc + 1 = pc')
    (K : Done p e below G (T.setTop (mkF m pc' Ls (.int (x ^^^ y) :: st)))) : Done p e below G (T.setTop (mkF m pc Ls (.int y :: .int x :: st))) := by
  subst hp; exact Done.go (fun t q => XS.ixor A hx rfl hd rfl q) K
theorem k_ishl (A : At T m c below) (hx : p.tables.exec = Jvm.exec) {x y : Int32} (hd : decode c.code pc = .ok (.ishl, 1)) (hp : pc + 1 = pc')
    (K : Done p e below G (T.setTop (mkF m pc' Ls (.int (x <<< (y &&& 31)) :: st)))) : Done p e below G (T.setTop (mkF m pc Ls (.int y :: .int x :: st))) := by
  subst hp; exact Done.go (fun t q => XS.ishl A hx rfl hd rfl q) K
theorem k_ishr (A : At T m c below) (hx : p.tables.exec = Jvm.exec) {x y : Int32} (hd : decode c.code pc = .ok (.ishr, 1)) (hp : pc + 1 = pc')
    (K : Done p e below G (T.setTop (mkF m pc' Ls (.int (x >>> (y &&& 31)) :: st)))) : Done p e below G (T.setTop (mkF m pc Ls (.int y :: .int x :: st))) := by
  subst hp; exact Done.go (fun t q => XS.ishr A hx rfl hd rfl q) K
theorem k_iushr (A : At T m c below) (hx : p.tables.exec = Jvm.exec) {x y : Int32} (hd : decode c.code pc = .ok (.iushr, 1)) (hp : pc + 1 = pc')
    (K : Done p e below G (T.setTop (mkF m pc' Ls (.int ((x.toUInt32 >>> (y &&& 31).toUInt32).toInt32) :: st)))) : Done p e below G (T.setTop (mkF m pc Ls (.int y :: .int x :: st))) := by
  subst hp; exact Done.go (fun t q => XS.iushr A hx rfl hd rfl q) K
theorem k_ladd (A : At T m c below) (hx : p.tables.exec = Jvm.exec) {x y : Int64} (hd : decode c.code pc = .ok (.ladd, 1)) (hp : pc + 1 = pc')
    (K : Done p e below G (T.setTop (mkF m pc' Ls (.long (x + y) :: st)))) : Done p e below G (T.setTop (mkF m pc Ls (.long y :: .long x :: st))) := by
  subst hp; exact Done.go (fun t q => XS.ladd A hx rfl hd rfl q) K
theorem k_lsub (A : At T m c below) (hx : p.tables.exec = Jvm.exec) {x y : Int64} (hd : decode c.code pc = .ok (.lsub, 1)) (hp : pc + 1 = pc')
    (K : Done p e below G (T.setTop (mkF m pc' Ls (.long (x - y) :: st)))) : Done p e below G (T.setTop (mkF m pc Ls (.long y :: .long x :: st))) := by
  subst hp; exact Done.go (fun t q => XS.lsub A hx rfl hd rfl q) K
theorem k_lmul (A : At T m c below) (hx : p.tables.exec = Jvm.exec) {x y : Int64} (hd : decode c.code pc = .ok (.lmul, 1)) (hp : pc + 1 = pc')
    (K : Done p e below G (T.setTop (mkF m pc' Ls (.long (x * y) :: st)))) : Done p e below G (T.setTop (mkF m pc Ls (.long y :: .long x :: st))) := by
  subst hp; exact Done.go (fun t q => XS.lmul A hx rfl hd rfl q) K
theorem k_land (A : At T m c below) (hx : p.tables.exec = Jvm.exec) {x y : Int64} (hd : decode c.code pc = .ok (.land, 1)) (hp : pc + 1 = pc')
    (K : Done p e below G (T.setTop (mkF m pc' Ls (.long (x &&& y) :: st)))) : Done p e below G (T.setTop (mkF m pc Ls (.long y :: .long x :: st))) := by
  subst hp; exact Done.go (fun t q => XS.land A hx rfl hd rfl q) K
theorem k_lor (A : At T m c below) (hx : p.tables.exec = Jvm.exec) {x y : Int64} (hd : decode c.code pc = .ok (.lor, 1)) (hp : pc + 1 = pc')
    (K : Done p e below G (T.setTop (mkF m pc' Ls (.long (x ||| y) :: st)))) : Done p e below G (T.setTop (mkF m pc Ls (.long y :: .long x :: st))) := by
  subst hp; exact Done.go (fun t q => XS.lor A hx rfl hd rfl q) K
theorem k_lxor (A : At T m c below) (hx : p.tables.exec = Jvm.exec) {x y : Int64} (hd : decode c.code pc = .ok (.lxor, 1)) (hp : pc + 1 = pc')
    (K : Done p e below G (T.setTop (mkF m pc' Ls (.long (x ^^^ y) :: st)))) : Done p e below G (T.setTop (mkF m pc Ls (.long y :: .long x :: st))) := by
  subst hp; exact Done.go (fun t q => XS.lxor A hx rfl hd rfl q) K
theorem k_lshl (A : At T m c below) (hx : p.tables.exec = Jvm.exec) {x : Int64} {y : Int32} (hd : decode c.code pc = .ok (.lshl, 1)) (hp : pc + 1 = pc')
    (K : Done p e below G (T.setTop (mkF m pc' Ls (.long (x <<< (y &&& 0x3f).toInt64) :: st)))) : Done p e below G (T.setTop (mkF m pc Ls (.int y :: .long x :: st))) := by
  subst hp; exact Done.go (fun t q => XS.lshl A hx rfl hd rfl q) K
theorem k_lshr (A : At T m c below) (hx : p.tables.exec = Jvm.exec) {x : Int64} {y : Int32} (hd : decode c.code pc = .ok (.lshr, 1)) (hp : pc + 1 = pc')
    (K : Done p e below G (T.setTop (mkF m pc' Ls (.long (x >>> (y &&& 0x3f).toInt64) :: st)))) : Done p e below G (T.setTop (mkF m pc Ls (.int y :: .long x :: st))) := by
  subst hp; exact Done.go (fun t q => XS.lshr A hx rfl hd rfl q) K
theorem k_lushr (A : At T m c below) (hx : p.tables.exec = Jvm.exec) {x : Int64} {y : Int32} (hd : decode c.code pc = .ok (.lushr, 1)) (hp : pc + 1 = pc')
    (K : Done p e below G (T.setTop (mkF m pc' Ls (.long ((x.toUInt64 >>> (y &&& 0x3f).toInt64.toUInt64).toInt64) :: st)))) : Done p e below G (T.setTop (mkF m pc Ls (.int y :: .long x :: st))) := by
  subst hp; exact Done.go (fun t q => XS.lushr A hx rfl hd rfl q) K
theorem k_idiv (A : At T m c below) (hx : p.tables.exec = Jvm.exec) {x y : Int32} (hd : decode c.code pc = .ok (.idiv, 1)) (hy : y ≠ 0) (hp : pc + 1 = pc')
    (K : Done p e below G (T.setTop (mkF m pc' Ls (.int (x / y) :: st)))) : Done p e below G (T.setTop (mkF m pc Ls (.int y :: .int x :: st))) := by
  subst hp; exact Done.go (fun t q => XS.idiv A hx rfl hd rfl hy q) K
theorem k_ldiv (A : At T m c below) (hx : p.tables.exec = Jvm.exec) {x y : Int64} (hd : decode c.code pc = .ok (.ldiv, 1)) (hy : y ≠ 0) (hp : pc + 1 = pc')
    (K : Done p e below G (T.setTop (mkF m pc' Ls (.long (x / y) :: st)))) : Done p e below G (T.setTop (mkF m pc Ls (.long y :: .long x :: st))) := by
  subst hp; exact Done.go (fun t q => XS.ldiv A hx rfl hd rfl hy q) K
theorem k_irem (A : At T m c below) (hx : p.tables.exec = Jvm.exec) {x y : Int32} (hd : decode c.code pc = .ok (.irem, 1)) (hy : y ≠ 0) (hp : pc + 1 = pc')
    (K : Done p e below G (T.setTop (mkF m pc' Ls (.int (x % y) :: st)))) : Done p e below G (T.setTop (mkF m pc Ls (.int y :: .int x :: st))) := by
  subst hp; have q0 : x - x / y * y = x % y := irem_eq_mod x y
  rw [← q0] at K
  exact Done.go (fun t q => XS.irem A hx rfl hd rfl hy q) K
theorem k_lrem (A : At T m c below) (hx : p.tables.exec = Jvm.exec) {x y : Int64} (hd : decode c.code pc = .ok (.lrem, 1)) (hy : y ≠ 0) (hp : pc + 1 = pc')
    (K : Done p e below G (T.setTop (mkF m pc' Ls (.long (x % y) :: st)))) : Done p e below G (T.setTop (mkF m pc Ls (.long y :: .long x :: st))) := by
  subst hp
  rw [← lrem_mod x y] at K
  exact Done.go (fun t q => XS.lrem A hx rfl hd rfl hy q) K
theorem k_lcmp (A : At T m c below) (hx : p.tables.exec = Jvm.exec) {x y : Int64} (hd : decode c.code pc = .ok (.lcmp, 1)) (hp : pc + 1 = pc')
    (K : Done p e below G (T.setTop (mkF m pc' Ls (.int (lcmpW x y) :: st)))) : Done p e below G (T.setTop (mkF m pc Ls (.long y :: .long x :: st))) := by
  subst hp; exact Done.go (fun t q => XS.lcmp A hx rfl hd rfl q) K
theorem k_ineg (A : At T m c below) (hx : p.tables.exec = Jvm.exec) {x : Int32} (hd : decode c.code pc = .ok (.ineg, 1)) (hp : pc + 1 = pc')
    (K : Done p e below G (T.setTop (mkF m pc' Ls (.int (-x) :: st)))) : Done p e below G (T.setTop (mkF m pc Ls (.int x :: st))) := by
  subst hp; exact Done.go (fun t q => XS.ineg A hx rfl hd rfl q) K
theorem k_lneg (A : At T m c below) (hx : p.tables.exec = Jvm.exec) {x : Int64} (hd : decode c.code pc = .ok (.lneg, 1)) (hp : pc + 1 = pc')
    (K : Done p e below G (T.setTop (mkF m pc' Ls (.long (-x) :: st)))) : Done p e below G (T.setTop (mkF m pc Ls (.long x :: st))) := by
  subst hp; exact Done.go (fun t q => XS.lneg A hx rfl hd rfl q) K
theorem k_i2l (A : At T m c below) (hx : p.tables.exec = Jvm.exec) {x : Int32} (hd : decode c.code pc = .ok (.i2l, 1)) (hp : pc + 1 = pc')
    (K : Done p e below G (T.setTop (mkF m pc' Ls (.long (x.toInt64) :: st)))) : Done p e below G (T.setTop (mkF m pc Ls (.int x :: st))) := by
  subst hp; exact Done.go (fun t q => XS.i2l A hx rfl hd rfl q) K
theorem k_l2i (A : At T m c below) (hx : p.tables.exec = Jvm.exec) {x : Int64} (hd : decode c.code pc = .ok (.l2i, 1)) (hp : pc + 1 = pc')
    (K : Done p e below G (T.setTop (mkF m pc' Ls (.int (x.toInt32) :: st)))) : Done p e below G (T.setTop (mkF m pc Ls (.long x :: st))) := by
  subst hp; exact Done.go (fun t q => XS.l2i A hx rfl hd rfl q) K
theorem k_i2b (A : At T m c below) (hx : p.tables.exec = Jvm.exec) {x : Int32} (hd : decode c.code pc = .ok (.i2b, 1)) (hp : pc + 1 = pc')
    (K : Done p e below G (T.setTop (mkF m pc' Ls (.int (x.toInt8.toInt32) :: st)))) : Done p e below G (T.setTop (mkF m pc Ls (.int x :: st))) := by
  subst hp; exact Done.go (fun t q => XS.i2b A hx rfl hd rfl q) K
theorem k_i2c (A : At T m c below) (hx : p.tables.exec = Jvm.exec) {x : Int32} (hd : decode c.code pc = .ok (.i2c, 1)) (hp : pc + 1 = pc')
    (K : Done p e below G (T.setTop (mkF m pc' Ls (.int (x.toUInt32.toUInt16.toUInt32.toInt32) :: st)))) : Done p e below G (T.setTop (mkF m pc Ls (.int x :: st))) := by
  subst hp; exact Done.go (fun t q => XS.i2c A hx rfl hd rfl q) K
theorem k_i2s (A : At T m c below) (hx : p.tables.exec = Jvm.exec) {x : Int32} (hd : decode c.code pc = .ok (.i2s, 1)) (hp : pc + 1 = pc')
    (K : Done p e below G (T.setTop (mkF m pc' Ls (.int (x.toInt16.toInt32) :: st)))) : Done p e below G (T.setTop (mkF m pc Ls (.int x :: st))) := by
  subst hp; exact Done.go (fun t q => XS.i2s A hx rfl hd rfl q) K
theorem k_iinc (A : At T m c below) (hx : p.tables.exec = Jvm.exec) {i : Nat} {cst : Int} {v : Int32} (hd : decode c.code pc = .ok (.iinc i cst, 3)) (hl : Ls[i]? = some (.val (.int v))) (hs : storeLocals Ls i (.int (v + Int32.ofInt cst)) = some Ls') (hp : pc + 3 = pc')
    (K : Done p e below G (T.setTop (mkF m pc' Ls' st))) : Done p e below G (T.setTop (mkF m pc Ls st)) := by
  subst hp; exact Done.go (fun t q => XS.iinc A hx rfl hd hl hs q) K
theorem k_goto (A : At T m c below) (hx : p.tables.exec = Jvm.exec) {o : Int} (hd : decode c.code pc = .ok (.goto o, 3)) (hp : (pc : Int) + o = (pc' : Int))
    (K : Done p e below G (T.setTop (mkF m pc' Ls st))) : Done p e below G (T.setTop (mkF m pc Ls st)) :=
  Done.go (fun t q => XS.goto A hx rfl (pc0 := pc) (pc' := pc') rfl hd (by omega) (by omega) q) K
theorem k_ifnullYes (A : At T m c below) (hx : p.tables.exec = Jvm.exec) {o : Int} (hd : decode c.code pc = .ok (.ifnull o, 3)) (hp : (pc : Int) + o = (pc' : Int))
    (K : Done p e below G (T.setTop (mkF m pc' Ls st))) : Done p e below G (T.setTop (mkF m pc Ls (.null :: st))) :=
  Done.go (fun t q => XS.ifnullYes A hx rfl (pc0 := pc) (pc' := pc') rfl hd rfl (by omega) (by omega) q) K
theorem k_ifnonnullYes (A : At T m c below) (hx : p.tables.exec = Jvm.exec) {o : Int} {b : Addr} (hd : decode c.code pc = .ok (.ifnonnull o, 3)) (hp : (pc : Int) + o = (pc' : Int))
    (K : Done p e below G (T.setTop (mkF m pc' Ls st))) : Done p e below G (T.setTop (mkF m pc Ls (.ref b :: st))) :=
  Done.go (fun t q => XS.ifnonnullYes A hx rfl (pc0 := pc) (pc' := pc') rfl hd rfl (by omega) (by omega) q) K
theorem k_ifnullNo (A : At T m c below) (hx : p.tables.exec = Jvm.exec) {o : Int} {b : Addr} (hd : decode c.code pc = .ok (.ifnull o, 3)) (hp : pc + 3 = pc')
    (K : Done p e below G (T.setTop (mkF m pc' Ls st))) : Done p e below G (T.setTop (mkF m pc Ls (.ref b :: st))) := by
  subst hp; exact Done.go (fun t q => XS.ifnullNo A hx rfl hd rfl q) K
theorem k_ifnonnullNo (A : At T m c below) (hx : p.tables.exec = Jvm.exec) {o : Int} (hd : decode c.code pc = .ok (.ifnonnull o, 3)) (hp : pc + 3 = pc')
    (K : Done p e below G (T.setTop (mkF m pc' Ls st))) : Done p e below G (T.setTop (mkF m pc Ls (.null :: st))) := by
  subst hp; exact Done.go (fun t q => XS.ifnonnullNo A hx rfl hd rfl q) K
theorem k_icmp_lt (A : At T m c below) (hx : p.tables.exec = Jvm.exec) {x y : Int32} {o : Int} {pcY : Nat} (hd : decode c.code pc = .ok (.if_icmp .lt o, 3)) (hY : (pc : Int) + o = (pcY : Int)) (hp : pc + 3 = pc')
    (KY : x < y → Done p e below G (T.setTop (mkF m pcY Ls st))) (KN : ¬ x < y → Done p e below G (T.setTop (mkF m pc' Ls st))) : Done p e below G (T.setTop (mkF m pc Ls (.int y :: .int x :: st))) := by
  subst hp
  by_cases hc : x < y
  · exact Done.go (fun t q => XS.icmpYes A hx rfl (pc0 := pc) (pc' := pcY) rfl hd rfl (tlt hc).1 (by omega) (by omega) q) (KY hc)
  · exact Done.go (fun t q => XS.icmpNo A hx rfl hd rfl (flt hc).1 q) (KN hc)
theorem k_if_lt (A : At T m c below) (hx : p.tables.exec = Jvm.exec) {x : Int32} {o : Int} {pcY : Nat} (hd : decode c.code pc = .ok (.ifCond .lt o, 3)) (hY : (pc : Int) + o = (pcY : Int)) (hp : pc + 3 = pc')
    (KY : x < 0 → Done p e below G (T.setTop (mkF m pcY Ls st))) (KN : ¬ x < 0 → Done p e below G (T.setTop (mkF m pc' Ls st))) : Done p e below G (T.setTop (mkF m pc Ls (.int x :: st))) := by
  subst hp
  by_cases hc : x < 0
  · exact Done.go (fun t q => XS.ifYes A hx rfl (pc0 := pc) (pc' := pcY) rfl hd rfl ((if0 _ _).trans (tlt hc).1) (by omega) (by omega) q) (KY hc)
  · exact Done.go (fun t q => XS.ifNo A hx rfl hd rfl ((if0 _ _).trans (flt hc).1) q) (KN hc)
theorem k_icmp_ge (A : At T m c below) (hx : p.tables.exec = Jvm.exec) {x y : Int32} {o : Int} {pcY : Nat} (hd : decode c.code pc = .ok (.if_icmp .ge o, 3)) (hY : (pc : Int) + o = (pcY : Int)) (hp : pc + 3 = pc')
    (KY : ¬ x < y → Done p e below G (T.setTop (mkF m pcY Ls st))) (KN : x < y → Done p e below G (T.setTop (mkF m pc' Ls st))) : Done p e below G (T.setTop (mkF m pc Ls (.int y :: .int x :: st))) := by
  subst hp
  by_cases hc : x < y
  · exact Done.go (fun t q => XS.icmpNo A hx rfl hd rfl (tlt hc).2.1 q) (KN hc)
  · exact Done.go (fun t q => XS.icmpYes A hx rfl (pc0 := pc) (pc' := pcY) rfl hd rfl (flt hc).2.1 (by omega) (by omega) q) (KY hc)
theorem k_if_ge (A : At T m c below) (hx : p.tables.exec = Jvm.exec) {x : Int32} {o : Int} {pcY : Nat} (hd : decode c.code pc = .ok (.ifCond .ge o, 3)) (hY : (pc : Int) + o = (pcY : Int)) (hp : pc + 3 = pc')
    (KY : ¬ x < 0 → Done p e below G (T.setTop (mkF m pcY Ls st))) (KN : x < 0 → Done p e below G (T.setTop (mkF m pc' Ls st))) : Done p e below G (T.setTop (mkF m pc Ls (.int x :: st))) := by
  subst hp
  by_cases hc : x < 0
  · exact Done.go (fun t q => XS.ifNo A hx rfl hd rfl ((if0 _ _).trans (tlt hc).2.1) q) (KN hc)
  · exact Done.go (fun t q => XS.ifYes A hx rfl (pc0 := pc) (pc' := pcY) rfl hd rfl ((if0 _ _).trans (flt hc).2.1) (by omega) (by omega) q) (KY hc)
theorem k_icmp_gt (A : At T m c below) (hx : p.tables.exec = Jvm.exec) {x y : Int32} {o : Int} {pcY : Nat} (hd : decode c.code pc = .ok (.if_icmp .gt o, 3)) (hY : (pc : Int) + o = (pcY : Int)) (hp : pc + 3 = pc')
    (KY : y < x → Done p e below G (T.setTop (mkF m pcY Ls st))) (KN : ¬ y < x → Done p e below G (T.setTop (mkF m pc' Ls st))) : Done p e below G (T.setTop (mkF m pc Ls (.int y :: .int x :: st))) := by
  subst hp
  by_cases hc : y < x
  · exact Done.go (fun t q => XS.icmpYes A hx rfl (pc0 := pc) (pc' := pcY) rfl hd rfl (tlt hc).2.2.1 (by omega) (by omega) q) (KY hc)
  · exact Done.go (fun t q => XS.icmpNo A hx rfl hd rfl (flt hc).2.2.1 q) (KN hc)
theorem k_if_gt (A : At T m c below) (hx : p.tables.exec = Jvm.exec) {x : Int32} {o : Int} {pcY : Nat} (hd : decode c.code pc = .ok (.ifCond .gt o, 3)) (hY : (pc : Int) + o = (pcY : Int)) (hp : pc + 3 = pc')
    (KY : 0 < x → Done p e below G (T.setTop (mkF m pcY Ls st))) (KN : ¬ 0 < x → Done p e below G (T.setTop (mkF m pc' Ls st))) : Done p e below G (T.setTop (mkF m pc Ls (.int x :: st))) := by
  subst hp
  by_cases hc : 0 < x
  · exact Done.go (fun t q => XS.ifYes A hx rfl (pc0 := pc) (pc' := pcY) rfl hd rfl ((if0 _ _).trans (tlt hc).2.2.1) (by omega) (by omega) q) (KY hc)
  · exact Done.go (fun t q => XS.ifNo A hx rfl hd rfl ((if0 _ _).trans (flt hc).2.2.1) q) (KN hc)
theorem k_icmp_le (A : At T m c below) (hx : p.tables.exec = Jvm.exec) {x y : Int32} {o : Int} {pcY : Nat} (hd : decode c.code pc = .ok (.if_icmp .le o, 3)) (hY : (pc : Int) + o = (pcY : Int)) (hp : pc + 3 = pc')
    (KY : ¬ y < x → Done p e below G (T.setTop (mkF m pcY Ls st))) (KN : y < x → Done p e below G (T.setTop (mkF m pc' Ls st))) : Done p e below G (T.setTop (mkF m pc Ls (.int y :: .int x :: st))) := by
  subst hp
  by_cases hc : y < x
  · exact Done.go (fun t q => XS.icmpNo A hx rfl hd rfl (tlt hc).2.2.2 q) (KN hc)
  · exact Done.go (fun t q => XS.icmpYes A hx rfl (pc0 := pc) (pc' := pcY) rfl hd rfl (flt hc).2.2.2 (by omega) (by omega) q) (KY hc)
theorem k_if_le (A : At T m c below) (hx : p.tables.exec = Jvm.exec) {x : Int32} {o : Int} {pcY : Nat} (hd : decode c.code pc = .ok (.ifCond .le o, 3)) (hY : (pc : Int) + o = (pcY : Int)) (hp : pc + 3 = pc')
    (KY : ¬ 0 < x → Done p e below G (T.setTop (mkF m pcY Ls st))) (KN : 0 < x → Done p e below G (T.setTop (mkF m pc' Ls st))) : Done p e below G (T.setTop (mkF m pc Ls (.int x :: st))) := by
  subst hp
  by_cases hc : 0 < x
  · exact Done.go (fun t q => XS.ifNo A hx rfl hd rfl ((if0 _ _).trans (tlt hc).2.2.2) q) (KN hc)
  · exact Done.go (fun t q => XS.ifYes A hx rfl (pc0 := pc) (pc' := pcY) rfl hd rfl ((if0 _ _).trans (flt hc).2.2.2) (by omega) (by omega) q) (KY hc)
theorem k_icmp_eq (A : At T m c below) (hx : p.tables.exec = Jvm.exec) {x y : Int32} {o : Int} {pcY : Nat} (hd : decode c.code pc = .ok (.if_icmp .eq o, 3)) (hY : (pc : Int) + o = (pcY : Int)) (hp : pc + 3 = pc')
    (KY : x = y → Done p e below G (T.setTop (mkF m pcY Ls st))) (KN : ¬ x = y → Done p e below G (T.setTop (mkF m pc' Ls st))) : Done p e below G (T.setTop (mkF m pc Ls (.int y :: .int x :: st))) := by
  subst hp
  by_cases hc : x = y
  · exact Done.go (fun t q => XS.icmpYes A hx rfl (pc0 := pc) (pc' := pcY) rfl hd rfl (teq hc).1 (by omega) (by omega) q) (KY hc)
  · exact Done.go (fun t q => XS.icmpNo A hx rfl hd rfl (feq hc).1 q) (KN hc)
theorem k_if_eq (A : At T m c below) (hx : p.tables.exec = Jvm.exec) {x : Int32} {o : Int} {pcY : Nat} (hd : decode c.code pc = .ok (.ifCond .eq o, 3)) (hY : (pc : Int) + o = (pcY : Int)) (hp : pc + 3 = pc')
    (KY : x = 0 → Done p e below G (T.setTop (mkF m pcY Ls st))) (KN : ¬ x = 0 → Done p e below G (T.setTop (mkF m pc' Ls st))) : Done p e below G (T.setTop (mkF m pc Ls (.int x :: st))) := by
  subst hp
  by_cases hc : x = 0
  · exact Done.go (fun t q => XS.ifYes A hx rfl (pc0 := pc) (pc' := pcY) rfl hd rfl ((if0 _ _).trans (teq hc).1) (by omega) (by omega) q) (KY hc)
  · exact Done.go (fun t q => XS.ifNo A hx rfl hd rfl ((if0 _ _).trans (feq hc).1) q) (KN hc)
theorem k_icmp_ne (A : At T m c below) (hx : p.tables.exec = Jvm.exec) {x y : Int32} {o : Int} {pcY : Nat} (hd : decode c.code pc = .ok (.if_icmp .ne o, 3)) (hY : (pc : Int) + o = (pcY : Int)) (hp : pc + 3 = pc')
    (KY : ¬ x = y → Done p e below G (T.setTop (mkF m pcY Ls st))) (KN : x = y → Done p e below G (T.setTop (mkF m pc' Ls st))) : Done p e below G (T.setTop (mkF m pc Ls (.int y :: .int x :: st))) := by
  subst hp
  by_cases hc : x = y
  · exact Done.go (fun t q => XS.icmpNo A hx rfl hd rfl (teq hc).2 q) (KN hc)
  · exact Done.go (fun t q => XS.icmpYes A hx rfl (pc0 := pc) (pc' := pcY) rfl hd rfl (feq hc).2 (by omega) (by omega) q) (KY hc)
theorem k_if_ne (A : At T m c below) (hx : p.tables.exec = Jvm.exec) {x : Int32} {o : Int} {pcY : Nat} (hd : decode c.code pc = .ok (.ifCond .ne o, 3)) (hY : (pc : Int) + o = (pcY : Int)) (hp : pc + 3 = pc')
    (KY : ¬ x = 0 → Done p e below G (T.setTop (mkF m pcY Ls st))) (KN : x = 0 → Done p e below G (T.setTop (mkF m pc' Ls st))) : Done p e below G (T.setTop (mkF m pc Ls (.int x :: st))) := by
  subst hp
  by_cases hc : x = 0
  · exact Done.go (fun t q => XS.ifNo A hx rfl hd rfl ((if0 _ _).trans (teq hc).2) q) (KN hc)
  · exact Done.go (fun t q => XS.ifYes A hx rfl (pc0 := pc) (pc' := pcY) rfl hd rfl ((if0 _ _).trans (feq hc).2) (by omega) (by omega) q) (KY hc)
theorem k_lcmp_lt (A : At T m c below) (hx : p.tables.exec = Jvm.exec) {x y : Int64} {o : Int} {pcY : Nat} (hd : decode c.code pc = .ok (.lcmp, 1)) (hd2 : decode c.code (pc + 1) = .ok (.ifCond .lt o, 3)) (hY : ((pc + 1 : Nat) : Int) + o = (pcY : Int)) (hp : pc + 1 + 3 = pc')
    (KY : x < y → Done p e below G (T.setTop (mkF m pcY Ls st))) (KN : ¬ x < y → Done p e below G (T.setTop (mkF m pc' Ls st))) : Done p e below G (T.setTop (mkF m pc Ls (.long y :: .long x :: st))) := by
  subst hp
  by_cases hc : x < y
  · exact Done.go (fun t q => XS.lcmp A hx rfl hd rfl (XS.ifYes A hx rfl (pc0 := pc + 1) (pc' := pcY) rfl hd2 rfl ((if0 _ _).trans (tlt ((lw_lt x y).mpr hc)).1) (by omega) (by omega) q)) (KY hc)
  · exact Done.go (fun t q => XS.lcmp A hx rfl hd rfl (XS.ifNo A hx rfl hd2 rfl ((if0 _ _).trans (flt (fun z => hc ((lw_lt x y).mp z))).1) q)) (KN hc)
theorem k_lcmp_ge (A : At T m c below) (hx : p.tables.exec = Jvm.exec) {x y : Int64} {o : Int} {pcY : Nat} (hd : decode c.code pc = .ok (.lcmp, 1)) (hd2 : decode c.code (pc + 1) = .ok (.ifCond .ge o, 3)) (hY : ((pc + 1 : Nat) : Int) + o = (pcY : Int)) (hp : pc + 1 + 3 = pc')
    (KY : ¬ x < y → Done p e below G (T.setTop (mkF m pcY Ls st))) (KN : x < y → Done p e below G (T.setTop (mkF m pc' Ls st))) : Done p e below G (T.setTop (mkF m pc Ls (.long y :: .long x :: st))) := by
  subst hp
  by_cases hc : x < y
  · exact Done.go (fun t q => XS.lcmp A hx rfl hd rfl (XS.ifNo A hx rfl hd2 rfl ((if0 _ _).trans (tlt ((lw_lt x y).mpr hc)).2.1) q)) (KN hc)
  · exact Done.go (fun t q => XS.lcmp A hx rfl hd rfl (XS.ifYes A hx rfl (pc0 := pc + 1) (pc' := pcY) rfl hd2 rfl ((if0 _ _).trans (flt (fun z => hc ((lw_lt x y).mp z))).2.1) (by omega) (by omega) q)) (KY hc)
theorem k_lcmp_gt (A : At T m c below) (hx : p.tables.exec = Jvm.exec) {x y : Int64} {o : Int} {pcY : Nat} (hd : decode c.code pc = .ok (.lcmp, 1)) (hd2 : decode c.code (pc + 1) = .ok (.ifCond .gt o, 3)) (hY : ((pc + 1 : Nat) : Int) + o = (pcY : Int)) (hp : pc + 1 + 3 = pc')
    (KY : y < x → Done p e below G (T.setTop (mkF m pcY Ls st))) (KN : ¬ y < x → Done p e below G (T.setTop (mkF m pc' Ls st))) : Done p e below G (T.setTop (mkF m pc Ls (.long y :: .long x :: st))) := by
  subst hp
  by_cases hc : y < x
  · exact Done.go (fun t q => XS.lcmp A hx rfl hd rfl (XS.ifYes A hx rfl (pc0 := pc + 1) (pc' := pcY) rfl hd2 rfl ((if0 _ _).trans (tlt ((lw_gt x y).mpr hc)).2.2.1) (by omega) (by omega) q)) (KY hc)
  · exact Done.go (fun t q => XS.lcmp A hx rfl hd rfl (XS.ifNo A hx rfl hd2 rfl ((if0 _ _).trans (flt (fun z => hc ((lw_gt x y).mp z))).2.2.1) q)) (KN hc)
theorem k_lcmp_le (A : At T m c below) (hx : p.tables.exec = Jvm.exec) {x y : Int64} {o : Int} {pcY : Nat} (hd : decode c.code pc = .ok (.lcmp, 1)) (hd2 : decode c.code (pc + 1) = .ok (.ifCond .le o, 3)) (hY : ((pc + 1 : Nat) : Int) + o = (pcY : Int)) (hp : pc + 1 + 3 = pc')
    (KY : ¬ y < x → Done p e below G (T.setTop (mkF m pcY Ls st))) (KN : y < x → Done p e below G (T.setTop (mkF m pc' Ls st))) : Done p e below G (T.setTop (mkF m pc Ls (.long y :: .long x :: st))) := by
  subst hp
  by_cases hc : y < x
  · exact Done.go (fun t q => XS.lcmp A hx rfl hd rfl (XS.ifNo A hx rfl hd2 rfl ((if0 _ _).trans (tlt ((lw_gt x y).mpr hc)).2.2.2) q)) (KN hc)
  · exact Done.go (fun t q => XS.lcmp A hx rfl hd rfl (XS.ifYes A hx rfl (pc0 := pc + 1) (pc' := pcY) rfl hd2 rfl ((if0 _ _).trans (flt (fun z => hc ((lw_gt x y).mp z))).2.2.2) (by omega) (by omega) q)) (KY hc)
theorem k_lcmp_eq (A : At T m c below) (hx : p.tables.exec = Jvm.exec) {x y : Int64} {o : Int} {pcY : Nat} (hd : decode c.code pc = .ok (.lcmp, 1)) (hd2 : decode c.code (pc + 1) = .ok (.ifCond .eq o, 3)) (hY : ((pc + 1 : Nat) : Int) + o = (pcY : Int)) (hp : pc + 1 + 3 = pc')
    (KY : x = y → Done p e below G (T.setTop (mkF m pcY Ls st))) (KN : ¬ x = y → Done p e below G (T.setTop (mkF m pc' Ls st))) : Done p e below G (T.setTop (mkF m pc Ls (.long y :: .long x :: st))) := by
  subst hp
  by_cases hc : x = y
  · exact Done.go (fun t q => XS.lcmp A hx rfl hd rfl (XS.ifYes A hx rfl (pc0 := pc + 1) (pc' := pcY) rfl hd2 rfl ((if0 _ _).trans (teq ((lw_eq x y).mpr hc)).1) (by omega) (by omega) q)) (KY hc)
  · exact Done.go (fun t q => XS.lcmp A hx rfl hd rfl (XS.ifNo A hx rfl hd2 rfl ((if0 _ _).trans (feq (fun z => hc ((lw_eq x y).mp z))).1) q)) (KN hc)
theorem k_lcmp_ne (A : At T m c below) (hx : p.tables.exec = Jvm.exec) {x y : Int64} {o : Int} {pcY : Nat} (hd : decode c.code pc = .ok (.lcmp, 1)) (hd2 : decode c.code (pc + 1) = .ok (.ifCond .ne o, 3)) (hY : ((pc + 1 : Nat) : Int) + o = (pcY : Int)) (hp : pc + 1 + 3 = pc')
    (KY : ¬ x = y → Done p e below G (T.setTop (mkF m pcY Ls st))) (KN : x = y → Done p e below G (T.setTop (mkF m pc' Ls st))) : Done p e below G (T.setTop (mkF m pc Ls (.long y :: .long x :: st))) := by
  subst hp
  by_cases hc : x = y
  · exact Done.go (fun t q => XS.lcmp A hx rfl hd rfl (XS.ifNo A hx rfl hd2 rfl ((if0 _ _).trans (teq ((lw_eq x y).mpr hc)).2) q)) (KN hc)
  · exact Done.go (fun t q => XS.lcmp A hx rfl hd rfl (XS.ifYes A hx rfl (pc0 := pc + 1) (pc' := pcY) rfl hd2 rfl ((if0 _ _).trans (feq (fun z => hc ((lw_eq x y).mp z))).2) (by omega) (by omega) q)) (KY hc)
/-! ### a store into a slot of which only its one word is known -/
theorem store_eq (L : Array Slot) (i : Nat) (v : Value) : storeLocals L i v = (L[i]?).bind fun o => match o with
    | .second => (setAt L (i - 1) .unset).bind fun l => storeSelf l i v
    | .val old => if old.category = 2 then ((setAt L (i + 1) .unset).bind fun l => storeSelf l i v) else storeSelf L i v
    | .unset => storeSelf L i v := rfl
theorem store1 {L L' : Array Slot} {i : Nat} {o : Slot} {v : Value} (h : L[i]? = some o) (H : One o) (hs : storeSelf L i v = some L') : storeLocals L i v = some L' := by
  rw [store_eq, h]
  rcases H with rfl | ⟨w, rfl, q⟩
  · exact hs
  · show (if w.category = 2 then _ else storeSelf L i v) = _
    rw [if_neg (by omega)]; exact hs
/-! ### constants of the pool -/
theorem k_ldcInt (S : St p l e R s m args below meth c n0 T h k n) (hx : p.tables.exec = Jvm.exec) (hZ : Z.Warmed39 s.vm) {own : String} {index : Nat} {v : Int32} (hown : s.vm.findClass own = some m.cls) (w : (Jvm.Cond.constant own index v).before a0 Z = true)
    (hd : decode c.code pc = .ok (.ldc index, 2)) (hp : pc + 2 = pc') (K : Done p e below G (T.setTop (mkF m pc' Ls (.int v :: st)))) : Done p e below G (T.setTop (mkF m pc Ls st)) := by
  subst hp
  obtain ⟨_, X, -, -⟩ := S
  exact Done.go (X.ldcInt hx hown (mvT hZ w) (g := mkF m pc Ls st) rfl hd) K
theorem k_ldcwInt (S : St p l e R s m args below meth c n0 T h k n) (hx : p.tables.exec = Jvm.exec) (hZ : Z.Warmed39 s.vm) {own : String} {index : Nat} {v : Int32} (hown : s.vm.findClass own = some m.cls) (w : (Jvm.Cond.constant own index v).before a0 Z = true)
    (hd : decode c.code pc = .ok (.ldc_w index, 3)) (hp : pc + 3 = pc') (K : Done p e below G (T.setTop (mkF m pc' Ls (.int v :: st)))) : Done p e below G (T.setTop (mkF m pc Ls st)) := by
  subst hp
  obtain ⟨_, X, -, -⟩ := S
  exact Done.go (X.ldcwInt hx hown (mvT hZ w) (g := mkF m pc Ls st) rfl hd) K
theorem k_ldc2Long (S : St p l e R s m args below meth c n0 T h k n) (hx : p.tables.exec = Jvm.exec) (hZ : Z.Warmed39 s.vm) {own : String} {index : Nat} {v : Int64} (hown : s.vm.findClass own = some m.cls) (w : (Jvm.Cond.constantLong own index v).before a0 Z = true)
    (hd : decode c.code pc = .ok (.ldc2_w index, 3)) (hp : pc + 3 = pc') (K : Done p e below G (T.setTop (mkF m pc' Ls (.long v :: st)))) : Done p e below G (T.setTop (mkF m pc Ls st)) := by
  subst hp
  obtain ⟨_, X, -, -⟩ := S
  exact Done.go (X.ldc2Long hx hown (mvT hZ w) (g := mkF m pc Ls st) rfl hd) K
/-! ### returns -/
variable {Q : Option Value → Heap → Prop}
theorem k_ret_val {w : Value} {t : FieldType} {i : Instr} (S : St p l e R s m args below meth c n0 T h k n) (hx : p.tables.exec = Jvm.exec) (hret : meth.sig.returnType = some t) (hlk : meth.locks = false) (hd : decode c.code pc = .ok (i, 1)) (hn' : narrow t w = w)
    (hi : (i = .ireturn ∧ (t = .int ∨ t = .boolean ∨ t = .byte ∨ t = .char ∨ t = .short) ∧ ∃ z, w = .int z) ∨ (i = .lreturn ∧ t = .long ∧ ∃ z, w = .long z) ∨ (i = .dreturn ∧ t = .double ∧ ∃ z, w = .double z) ∨ (i = .freturn ∧ t = .float ∧ ∃ z, w = .float z) ∨ (i = .areturn ∧ t.isReference = true ∧ w.isRef = true))
    (hk : k ≤ R.cells) (hn : n ≤ R.slots) (q : Q (some w) h) : Done p e below (OEnd s R n0 Q) (T.setTop (mkF m pc Ls (w :: st))) := by
  obtain ⟨locs, X, N, eT⟩ := S
  obtain ⟨fs, hr, hrun, hended, hW, hsame⟩ := X.leave (v := some w) (fun h => by rw [hret] at h; cases h) hlk
  refine ⟨_, _, retOut X hx hret hn' hi hd hr, hrun, hended, _, locs, rfl, ⟨?_, N⟩, ⟨_, rfl⟩, hW, hsame.mono hk hn⟩
  show Q _ T.heap
  rw [eT]; exact q
theorem k_ret_int {z : Int32} (S : St p l e R s m args below meth c n0 T h k n) (hx : p.tables.exec = Jvm.exec) (hret : meth.sig.returnType = some .int) (hlk : meth.locks = false) (hd : decode c.code pc = .ok (.ireturn, 1))
    (hk : k ≤ R.cells) (hn : n ≤ R.slots) (q : Q (some (.int z)) h) : Done p e below (OEnd s R n0 Q) (T.setTop (mkF m pc Ls (.int z :: st))) :=
  k_ret_val S hx hret hlk hd rfl (Or.inl ⟨rfl, Or.inl rfl, z, rfl⟩) hk hn q
theorem k_ret_long {z : Int64} (S : St p l e R s m args below meth c n0 T h k n) (hx : p.tables.exec = Jvm.exec) (hret : meth.sig.returnType = some .long) (hlk : meth.locks = false) (hd : decode c.code pc = .ok (.lreturn, 1))
    (hk : k ≤ R.cells) (hn : n ≤ R.slots) (q : Q (some (.long z)) h) : Done p e below (OEnd s R n0 Q) (T.setTop (mkF m pc Ls (.long z :: st))) :=
  k_ret_val S hx hret hlk hd rfl (Or.inr (Or.inl ⟨rfl, rfl, z, rfl⟩)) hk hn q
theorem k_ret_ref {a : Addr} {t : FieldType} (S : St p l e R s m args below meth c n0 T h k n) (hx : p.tables.exec = Jvm.exec) (hret : meth.sig.returnType = some t) (ht : t.isReference = true) (hlk : meth.locks = false) (hd : decode c.code pc = .ok (.areturn, 1))
    (hk : k ≤ R.cells) (hn : n ≤ R.slots) (q : Q (some (.ref a)) h) : Done p e below (OEnd s R n0 Q) (T.setTop (mkF m pc Ls (.ref a :: st))) :=
  k_ret_val S hx hret hlk hd (by cases t <;> first | rfl | (cases ht; done)) (Or.inr (Or.inr (Or.inr (Or.inr ⟨rfl, ht, rfl⟩)))) hk hn q
theorem k_ret_nar {z z' : Int32} {t : FieldType} (S : St p l e R s m args below meth c n0 T h k n) (hx : p.tables.exec = Jvm.exec) (hret : meth.sig.returnType = some t) (ht : t = .boolean ∨ t = .byte ∨ t = .char ∨ t = .short) (hlk : meth.locks = false) (hd : decode c.code pc = .ok (.ireturn, 1)) (hz : nar t z = z')
    (hk : k ≤ R.cells) (hn : n ≤ R.slots) (q : Q (some (.int z')) h) : Done p e below (OEnd s R n0 Q) (T.setTop (mkF m pc Ls (.int z :: st))) := by
  obtain ⟨locs, X, N, eT⟩ := S
  subst hz
  obtain ⟨fs, hr, hrun, hended, hW, hsame⟩ := X.leave (v := some (.int (nar t z))) (fun h => by rw [hret] at h; cases h) hlk
  refine ⟨_, _, retN X hx hret ht hd hr, hrun, hended, _, locs, rfl, ⟨?_, N⟩, ⟨_, rfl⟩, hW, hsame.mono hk hn⟩
  show Q _ T.heap
  rw [eT]; exact q
theorem k_ret_void (S : St p l e R s m args below meth c n0 T h k n) (hx : p.tables.exec = Jvm.exec) (hret : meth.sig.returnType = none) (hlk : meth.locks = false) (hd : decode c.code pc = .ok (.return_, 1))
    (hk : k ≤ R.cells) (hn : n ≤ R.slots) (q : Q none h) : Done p e below (OEnd s R n0 Q) (T.setTop (mkF m pc Ls [])) := by
  obtain ⟨locs, X, N, eT⟩ := S
  obtain ⟨fs, hr, hrun, hended, hW, hsame⟩ := X.leave (v := none) (fun _ => rfl) hlk
  refine ⟨_, _, X.returnOut hx hret hd hr, hrun, hended, _, locs, rfl, ⟨?_, N⟩, ⟨_, rfl⟩, hW, hsame.mono hk hn⟩
  show Q _ T.heap
  rw [eT]; exact q
/-! ### calls by a contract -/
theorem k_call_static (S : St p l e R s m args below meth c n0 T h k n) (hx : p.tables.exec = Jvm.exec) (hZ : Z.Warmed39 s.vm) {own : String} {index : Nat} {y : MethodName} {bytes : ByteArray} {maxL : Nat} {ret : Option FieldType} (hown : s.vm.findClass own = some m.cls)
    (w1 : (Jvm.Cond.methodLink own index y).before a0 Z = true) (w2 : (Jvm.Cond.static y).before a0 Z = true) (w3 : (Jvm.Cond.initialized y.cls).before a0 Z = true) (w4 : (Jvm.Cond.code y bytes maxL ret).before a0 Z = true)
    (hy : y.cls ≠ "java/lang/invoke/MethodHandle" ∧ y.cls ≠ "java/lang/invoke/VarHandle") {rm : Room} {as' : Array Value} (C : Con l Z y bytes maxL ret rm n0 h as' Q) (W : Nat) {argsL rest : List Value}
    (hf : rm.frames + 1 ≤ R.frames) (hl : W + (maxL + 11) + rm.locals ≤ R.locals) (hml : Ls.size = c.maxLocals) (hlen : ∀ sig, parseMethodDescriptor y.desc = some sig → argsL.length = sig.parameters.length) (has : argsL.toArray = as')
    (hst : st = argsL.reverse ++ rest) (hW : (rest.map fun v => v.category).sum ≤ W) (hd : decode c.code pc = .ok (.invokestatic index, 3)) (hp : pc + 3 = pc') (hk : k + rm.cells ≤ R.cells) (hn : n + rm.slots ≤ R.slots)
    (K : ∀ v T' h', Q v h' → St p l e R s m args below meth c n0 T' h' (k + rm.cells) (n + rm.slots) → Done p e below G (T'.setTop (mkF m pc' Ls (v.toList ++ rest)))) :
    Done p e below G (T.setTop (mkF m pc Ls st)) := by
  subst hp
  obtain ⟨locs, X, N, eT⟩ := S
  obtain ⟨v, vm₁, ⟨T', L', k', n'⟩, -, X', ⟨L, ⟨hQ, NL⟩, e1, e2, e3⟩, step⟩ := Jvm.LawKit.callS X hx (y := y) hown (mvT hZ w1) (mvT hZ w2) (mvT hZ w3) (mvT hZ w4) hy
    (backOf (W := W) (Q := fun v h L => Q v h ∧ Fr n0 L) (C []) hZ w4 w3 hf hl) (g := mkF m pc Ls st) rfl hml (argsL := argsL) (rest := rest) hlen hst (by show 2 * 0 + _ ≤ _; omega) hd
    (fun _ _ => ⟨has, eT, hk, hn⟩)
  dsimp only [Pt.U, Pt.locs, Pt.cells, Pt.slots] at X' hQ e1 e2 e3 step
  subst e1 e2 e3
  exact Done.go step (K v T' T'.heap hQ ⟨_, X', Fr.app N NL, rfl⟩)
theorem k_call_init (S : St p l e R s m args below meth c n0 T h k n) (hx : p.tables.exec = Jvm.exec) (hZ : Z.Warmed39 s.vm) {own : String} {index : Nat} {y : MethodName} {bytes : ByteArray} {maxL : Nat} (hown : s.vm.findClass own = some m.cls) (hy1 : y.name = "<init>")
    (w1 : (Jvm.Cond.methodLink own index y).before a0 Z = true) (w2 : (Jvm.Cond.instanceMethod y).before a0 Z = true) (w3 : (Jvm.Cond.initialized y.cls).before a0 Z = true) (w4 : (Jvm.Cond.code y bytes maxL none).before a0 Z = true)
    (hy : y.cls ≠ "java/lang/invoke/MethodHandle" ∧ y.cls ≠ "java/lang/invoke/VarHandle") {rm : Room} {as' : Array Value} (C : Con l Z y bytes maxL none rm n0 h as' Q) (W : Nat) {a : Addr} {argsL rest : List Value}
    (hf : rm.frames + 1 ≤ R.frames) (hl : W + (maxL + 11) + rm.locals ≤ R.locals) (hml : Ls.size = c.maxLocals) (hlen : ∀ sig, parseMethodDescriptor y.desc = some sig → argsL.length = sig.parameters.length) (has : (.ref a :: argsL).toArray = as')
    (hst : st = argsL.reverse ++ .ref a :: rest) (hW : (rest.map fun v => v.category).sum ≤ W) (hd : decode c.code pc = .ok (.invokespecial index, 3)) (hp : pc + 3 = pc') (hk : k + rm.cells ≤ R.cells) (hn : n + rm.slots ≤ R.slots)
    (K : ∀ v T' h', Q v h' → St p l e R s m args below meth c n0 T' h' (k + rm.cells) (n + rm.slots) → Done p e below G (T'.setTop (mkF m pc' Ls (v.toList ++ rest)))) :
    Done p e below G (T.setTop (mkF m pc Ls st)) := by
  subst hp
  obtain ⟨locs, X, N, eT⟩ := S
  obtain ⟨v, vm₁, ⟨T', L', k', n'⟩, -, X', ⟨L, ⟨hQ, NL⟩, e1, e2, e3⟩, step⟩ := X.specialBack hx (y := y) hy1 hown (mvT hZ w1) (mvT hZ w2) (mvT hZ w4) hy
    (backOf (W := W) (Q := fun v h L => Q v h ∧ Fr n0 L) (C []) hZ w4 w3 hf hl) (g := mkF m pc Ls st) rfl hml (Steps.refl _) (a := a) (argsL := argsL) (rest := rest) hlen hst (by show 2 * 0 + _ ≤ _; omega) hd
    (fun _ _ => ⟨has, eT, hk, hn⟩)
  dsimp only [Pt.U, Pt.locs, Pt.cells, Pt.slots] at X' hQ e1 e2 e3 step
  subst e1 e2 e3
  exact Done.go (fun t q => step.trans q) (K v T' T'.heap hQ ⟨_, X', Fr.app N NL, rfl⟩)
theorem k_call_virtual (S : St p l e R s m args below meth c n0 T h k n) (hx : p.tables.exec = Jvm.exec) (hZ : Z.Warmed39 s.vm) {own : String} {index : Nat} {y : MethodName} {bytes : ByteArray} {maxL : Nat} {ret : Option FieldType} (hown : s.vm.findClass own = some m.cls) {a : Addr} (E : Exa Z h a y.cls)
    (w1 : (Jvm.Cond.methodLink own index y).before a0 Z = true) (w2 : (Jvm.Cond.declares y).before a0 Z = true) (w5 : (Jvm.Cond.selects y.cls y y).before a0 Z = true) (w6 : (Jvm.Cond.instanceMethod y).before a0 Z = true) (w3 : (Jvm.Cond.initialized y.cls).before a0 Z = true) (w4 : (Jvm.Cond.code y bytes maxL ret).before a0 Z = true)
    (hy : y.cls ≠ "java/lang/invoke/MethodHandle" ∧ y.cls ≠ "java/lang/invoke/VarHandle") {rm : Room} {as' : Array Value} (C : Con l Z y bytes maxL ret rm n0 h as' Q) (W : Nat) {argsL rest : List Value}
    (hf : rm.frames + 1 ≤ R.frames) (hl : W + (maxL + 11) + rm.locals ≤ R.locals) (hml : Ls.size = c.maxLocals) (hlen : ∀ sig, parseMethodDescriptor y.desc = some sig → argsL.length = sig.parameters.length) (has : (.ref a :: argsL).toArray = as')
    (hst : st = argsL.reverse ++ .ref a :: rest) (hW : (rest.map fun v => v.category).sum ≤ W) (hd : decode c.code pc = .ok (.invokevirtual index, 3)) (hp : pc + 3 = pc') (hk : k + rm.cells ≤ R.cells) (hn : n + rm.slots ≤ R.slots)
    (K : ∀ v T' h', Q v h' → St p l e R s m args below meth c n0 T' h' (k + rm.cells) (n + rm.slots) → Done p e below G (T'.setTop (mkF m pc' Ls (v.toList ++ rest)))) :
    Done p e below G (T.setTop (mkF m pc Ls st)) := by
  subst hp
  obtain ⟨locs, X, N, eT⟩ := S
  obtain ⟨cq, kq, qa, qb, qc⟩ := isOf hZ eT E
  obtain ⟨v, vm₁, ⟨T', L', k', n'⟩, -, X', ⟨L, ⟨hQ, NL⟩, e1, e2, e3⟩, step⟩ := X.virtualBack hx (y := y) (z := y) hown (mvT hZ w1) (mvT hZ w2) (notFace_of_selects (args := #[]) (mvT hZ w5)) (mvT hZ w5) (mvT hZ w6) hy
    (backOf (W := W) (Q := fun v h L => Q v h ∧ Fr n0 L) (C []) hZ w4 w3 hf hl) qa qc (g := mkF m pc Ls st) rfl hml (Steps.refl _) (argsL := argsL) (rest := rest) hlen hst (by show 2 * 0 + _ ≤ _; omega) hd
    (fun _ _ => ⟨has, eT, hk, hn⟩)
  dsimp only [Pt.U, Pt.locs, Pt.cells, Pt.slots] at X' hQ e1 e2 e3 step
  subst e1 e2 e3
  exact Done.go (fun t q => step.trans q) (K v T' T'.heap hQ ⟨_, X', Fr.app N NL, rfl⟩)
theorem k_call_private (S : St p l e R s m args below meth c n0 T h k n) (hx : p.tables.exec = Jvm.exec) (hZ : Z.Warmed39 s.vm) {own : String} {index : Nat} {y : MethodName} {bytes : ByteArray} {maxL : Nat} {ret : Option FieldType} (hown : s.vm.findClass own = some m.cls) {a : Addr} (E : Exa Z h a y.cls)
    (w1 : (Jvm.Cond.methodLink own index y).before a0 Z = true) (w6 : (Jvm.Cond.instanceMethod y).before a0 Z = true) (w5 : (Jvm.Cond.selects y.cls y y).before a0 Z = true) (w7 : (Jvm.Cond.privateMethod y).before a0 Z = true) (w3 : (Jvm.Cond.initialized y.cls).before a0 Z = true) (w4 : (Jvm.Cond.code y bytes maxL ret).before a0 Z = true)
    (hy : y.cls ≠ "java/lang/invoke/MethodHandle" ∧ y.cls ≠ "java/lang/invoke/VarHandle") {rm : Room} {as' : Array Value} (C : Con l Z y bytes maxL ret rm n0 h as' Q) (W : Nat) {argsL rest : List Value}
    (hf : rm.frames + 1 ≤ R.frames) (hl : W + (maxL + 11) + rm.locals ≤ R.locals) (hml : Ls.size = c.maxLocals) (hlen : ∀ sig, parseMethodDescriptor y.desc = some sig → argsL.length = sig.parameters.length) (has : (.ref a :: argsL).toArray = as')
    (hst : st = argsL.reverse ++ .ref a :: rest) (hW : (rest.map fun v => v.category).sum ≤ W) (hd : decode c.code pc = .ok (.invokevirtual index, 3)) (hp : pc + 3 = pc') (hk : k + rm.cells ≤ R.cells) (hn : n + rm.slots ≤ R.slots)
    (K : ∀ v T' h', Q v h' → St p l e R s m args below meth c n0 T' h' (k + rm.cells) (n + rm.slots) → Done p e below G (T'.setTop (mkF m pc' Ls (v.toList ++ rest)))) :
    Done p e below G (T.setTop (mkF m pc Ls st)) := by
  subst hp
  obtain ⟨locs, X, N, eT⟩ := S
  obtain ⟨cq, q1, q2⟩ := E.cell
  obtain ⟨v, vm₁, ⟨T', L', k', n'⟩, -, X', ⟨L, ⟨hQ, NL⟩, e1, e2, e3⟩, step⟩ := X.privateBack hx (y := y) hown (mvT hZ w1) (mvT hZ w6) (mvT hZ w5) (Cond.privateMethod_at (mvP hZ w7 (args := #[]))) (mvT hZ w4) hy
    (backOf (W := W) (Q := fun v h L => Q v h ∧ Fr n0 L) (C []) hZ w4 w3 hf hl) (g := mkF m pc Ls st) rfl hml (Steps.refl _) (a := a) (by rw [eT]; exact q1) q2 (argsL := argsL) (rest := rest) hlen hst (by show 2 * 0 + _ ≤ _; omega) hd
    (fun _ _ => ⟨has, eT, hk, hn⟩)
  dsimp only [Pt.U, Pt.locs, Pt.cells, Pt.slots] at X' hQ e1 e2 e3 step
  subst e1 e2 e3
  exact Done.go (fun t q => step.trans q) (K v T' T'.heap hQ ⟨_, X', Fr.app N NL, rfl⟩)
/-- any one step of the library's that leaves the heap and the room as they are -/
theorem k_via {f f' : JFrame} (S : St p l e R s m args below meth c n0 T h k n) (I : ∀ locs, Stand p l e R s m args below meth c T locs k n → T.heap = h → ∃ T', Stand p l e R s m args below meth c T' locs k n ∧ T'.heap = h ∧ ∀ target, Steps p.tables e below (T'.setTop f') target → Steps p.tables e below (T.setTop f) target)
    (K : ∀ T', St p l e R s m args below meth c n0 T' h k n → Done p e below G (T'.setTop f')) : Done p e below G (T.setTop f) := by
  obtain ⟨locs, X, N, eT⟩ := S
  obtain ⟨T', X', eT', step⟩ := I locs X eT
  exact Done.go step (K T' ⟨_, X', N, eT'⟩)
/-! ### the heap: objects and fields -/
theorem k_getfield (S : St p l e R s m args below meth c n0 T h k n) (hx : p.tables.exec = Jvm.exec) (hZ : Z.Warmed39 s.vm) {own O f d : String} {index : Nat} (hown : s.vm.findClass own = some m.cls) (w : (Jvm.Cond.fieldLink own index O f d).before a0 Z = true)
    {a : Addr} {v : Value} (F : Fld Z h a O f d v) (hd : decode c.code pc = .ok (.getfield index, 3)) (hp : pc + 3 = pc')
    (K : ∀ T', St p l e R s m args below meth c n0 T' h k n → Done p e below G (T'.setTop (mkF m pc' Ls (v :: st)))) : Done p e below G (T.setTop (mkF m pc Ls (.ref a :: st))) := by
  subst hp
  obtain ⟨locs, X, N, eT⟩ := S
  obtain ⟨T', X', eT', step⟩ := getF X hx hZ hown (host := "") (Or.inl w) Via.refl eT F (g := mkF m pc Ls (.ref a :: st)) rfl rfl hd
  exact Done.go step (K T' ⟨_, X', N, eT'⟩)
theorem k_putfield (S : St p l e R s m args below meth c n0 T h k n) (hx : p.tables.exec = Jvm.exec) (hZ : Z.Warmed39 s.vm) {own O f d C : String} {index kk : Nat} {ty : FieldType} (hown : s.vm.findClass own = some m.cls) (w : (Jvm.Cond.fieldLink own index O f d).before a0 Z = true)
    {a : Addr} {v old : Value} (F : Fld Z h a O f d old) (E : Exa Z h a C) (L : (Jvm.Cond.lays C O f d).before a0 Z = true ∨ ((Jvm.Cond.laysFinal C O f d).before a0 Z = true ∧ own = O ∧ meth.name = "<init>")) (wi : (Jvm.Cond.instantiable C kk).before a0 Z = true)
    (hty : parseFieldDescriptor d = some ty) (hn' : narrow ty v = v) (hf : fits ty v = true) (ha : n0 ≤ a) (hd : decode c.code pc = .ok (.putfield index, 3)) (hp : pc + 3 = pc')
    (K : ∀ T' h', Wr h h' a (Jvm.RoadKit.slotOf Z O f d) v → St p l e R s m args below meth c n0 T' h' k n → Done p e below G (T'.setTop (mkF m pc' Ls st))) : Done p e below G (T.setTop (mkF m pc Ls (v :: .ref a :: st))) := by
  subst hp
  obtain ⟨locs, X, N, eT⟩ := S
  obtain ⟨T', h', X', eT', W, step⟩ := putF X hx hZ hown (host := "") (Or.inl w) Via.refl eT F E L wi hty hn' hf (g := mkF m pc Ls (v :: .ref a :: st)) rfl rfl hd
  exact Done.go step (K T' h' W ⟨_, X', Fr.snoc X' N ha, eT'⟩)
theorem k_new (S : St p l e R s m args below meth c n0 T h k n) (hx : p.tables.exec = Jvm.exec) (hZ : Z.Warmed39 s.vm) {own C : String} {index f : Nat} (hown : s.vm.findClass own = some m.cls) (w : (Jvm.Cond.classLink own index C).before a0 Z = true) (wi : (Jvm.Cond.instantiable C f).before a0 Z = true) (wz : (Jvm.Cond.initialized C).before a0 Z = true)
    (hd : decode c.code pc = .ok (.new index, 3)) (hp : pc + 3 = pc') (hk : k + 1 ≤ R.cells) (hn : n + f ≤ R.slots)
    (K : ∀ T' h' b, b = h.size → Ext h h' → Exa Z h' b C → (∀ {O nm d : String} {ty : FieldType}, Laid Z a0 C O nm d → parseFieldDescriptor d = some ty → Fld Z h' b O nm d (defaultValue ty)) → St p l e R s m args below meth c n0 T' h' (k + 1) (n + f) → Done p e below G (T'.setTop (mkF m pc' Ls (.ref b :: st)))) :
    Done p e below G (T.setTop (mkF m pc Ls st)) := by
  subst hp
  obtain ⟨locs, X, N, eT⟩ := S
  obtain ⟨T', h', X', eT', E, A, D, -, step⟩ := newO X hx hZ hown w wi wz eT (g := mkF m pc Ls st) rfl hd hk hn
  exact Done.go step (K T' h' _ rfl E A D ⟨_, X', N, eT'⟩)
end Walk
end Jvm.OwnKit

namespace Jvm.Pilot.@@N@@
open Jvm Jvm.ClassFile Sem Op Lib Jvm.Free Jvm.Stand Jvm.LawKit Jvm.RoadKit Jvm.OwnKit Bundle Jvm.Pilot.@@N@@.Jvm.D
abbrev own_S (x : Int64) (q : Int32) : Int64 := x <<< (q &&& 0x3f).toInt64
theorem own_S_or (x y : Int64) (q : Int32) : own_S (x ||| y) q = own_S x q ||| own_S y q := by
  apply Int64.toBitVec_inj.mp
  simp [own_S, BitVec.shiftLeft_or_distrib]
theorem own_S_and (x y : Int64) (q : Int32) : own_S (x &&& y) q = own_S x q &&& own_S y q := by
  apply Int64.toBitVec_inj.mp
  simp [own_S, BitVec.shiftLeft_and_distrib]
theorem own_sh (x : Int64) (q : Int32) (n : Nat) (hn : ((q &&& 0x3f).toInt64.toBitVec.smod 64).toNat = n) : (own_S x q).toBitVec = x.toBitVec <<< n := by
  simp only [own_S, Int64.toBitVec_shiftLeft, BitVec.shiftLeft_eq', hn]
theorem own_SS (x : Int64) (q : Int32) (h : q = 1 ∨ q = 7 ∨ q = 8 ∨ q = 9) : own_S x (q + q) = own_S (own_S x q) q := by
  apply Int64.toBitVec_inj.mp
  rcases h with rfl | rfl | rfl | rfl
  · rw [own_sh _ _ 2 (by decide), own_sh _ 1 1 (by decide), own_sh _ _ 1 (by decide), ← BitVec.shiftLeft_add]
  · rw [own_sh _ _ 14 (by decide), own_sh _ 7 7 (by decide), own_sh _ _ 7 (by decide), ← BitVec.shiftLeft_add]
  · rw [own_sh _ _ 16 (by decide), own_sh _ 8 8 (by decide), own_sh _ _ 8 (by decide), ← BitVec.shiftLeft_add]
  · rw [own_sh _ _ 18 (by decide), own_sh _ 9 9 (by decide), own_sh _ _ 9 (by decide), ← BitVec.shiftLeft_add]
def own_up (f o P : Int64) (q : Int32) : Int64 :=
  (((o &&& own_S f q) ||| (o &&& own_S (o &&& own_S f q) q)) ||| (P &&& own_S ((o &&& own_S f q) ||| (o &&& own_S (o &&& own_S f q) q)) (q + q))) ||| (P &&& own_S (((o &&& own_S f q) ||| (o &&& own_S (o &&& own_S f q) q)) ||| (P &&& own_S ((o &&& own_S f q) ||| (o &&& own_S (o &&& own_S f q) q)) (q + q))) (q + q))
theorem own_P (o x : Int64) (q : Int32) (h : q = 1 ∨ q = 7 ∨ q = 8 ∨ q = 9) : (o &&& own_S o q) &&& own_S x (q + q) = o &&& own_S (o &&& own_S x q) q := by
  rw [own_SS _ _ h, own_S_and, Int64.and_assoc]
theorem own_D (a b c : Int64) : a &&& (b ||| c) = (a &&& b) ||| (a &&& c) := by
  apply Int64.toBitVec_inj.mp; simp [BitVec.and_or_distrib_left]
theorem own_ors (d1 d2 d3 d4 d5 d6 : Int64) : ((d1 ||| d2) ||| (d3 ||| d4)) ||| ((d3 ||| d4) ||| (d5 ||| d6)) = (((((d1 ||| d2) ||| d3) ||| d4) ||| d5) ||| d6) := by
  apply Int64.toBitVec_inj.mp
  ext i hi
  simp only [Int64.toBitVec_or, BitVec.getElem_or]
  generalize d1.toBitVec[i] = b1; generalize d2.toBitVec[i] = b2; generalize d3.toBitVec[i] = b3; generalize d4.toBitVec[i] = b4; generalize d5.toBitVec[i] = b5; generalize d6.toBitVec[i] = b6
  revert b1 b2 b3 b4 b5 b6; decide
theorem own_plain (f o : Int64) (q : Int32) (h : q = 1 ∨ q = 7 ∨ q = 8 ∨ q = 9) (d1 d2 d3 d4 d5 d6 : Int64) (h1 : d1 = o &&& own_S f q) (h2 : d2 = o &&& own_S d1 q) (h3 : d3 = o &&& own_S d2 q) (h4 : d4 = o &&& own_S d3 q)
    (h5 : d5 = o &&& own_S d4 q) (h6 : d6 = o &&& own_S d5 q) : own_up f o (o &&& own_S o q) q = (((((d1 ||| d2) ||| d3) ||| d4) ||| d5) ||| d6) := by
  have E (x y : Int64) : o &&& own_S (o &&& own_S (x ||| y) q) q = (o &&& own_S (o &&& own_S x q) q) ||| (o &&& own_S (o &&& own_S y q) q) := by
    rw [own_S_or, own_D, own_S_or, own_D]
  unfold own_up
  simp only [own_P _ _ _ h, E, ← h1, ← h2, ← h3, ← h4, ← h5, ← h6]
  exact own_ors d1 d2 d3 d4 d5 d6

def own_pick (i : Int32) : Int32 := if i = 0 then 1 else if i = 1 then 7 else if i = 2 then 8 else 9
theorem own_pick4 (i : Int32) : own_pick i = 1 ∨ own_pick i = 7 ∨ own_pick i = 8 ∨ own_pick i = 9 := by
  unfold own_pick; split
  · simp
  · split
    · simp
    · split <;> simp
theorem own_d1_0 : decode method_3_code 0 = .ok (.iload_n 0, 1) := by decide +kernel
theorem own_d1_1 : decode method_3_code 1 = .ok (.ifCond .ne 5, 3) := by decide +kernel
theorem own_d1_4 : decode method_3_code 4 = .ok (.iconst 1, 1) := by decide +kernel
theorem own_d1_5 : decode method_3_code 5 = .ok (.ireturn, 1) := by decide +kernel
theorem own_d1_6 : decode method_3_code 6 = .ok (.iload_n 0, 1) := by decide +kernel
theorem own_d1_7 : decode method_3_code 7 = .ok (.iconst 1, 1) := by decide +kernel
theorem own_d1_8 : decode method_3_code 8 = .ok (.if_icmp .ne 6, 3) := by decide +kernel
theorem own_d1_11 : decode method_3_code 11 = .ok (.bipush 7, 2) := by decide +kernel
theorem own_d1_13 : decode method_3_code 13 = .ok (.ireturn, 1) := by decide +kernel
theorem own_d1_14 : decode method_3_code 14 = .ok (.iload_n 0, 1) := by decide +kernel
theorem own_d1_15 : decode method_3_code 15 = .ok (.iconst 2, 1) := by decide +kernel
theorem own_d1_16 : decode method_3_code 16 = .ok (.if_icmp .ne 6, 3) := by decide +kernel
theorem own_d1_19 : decode method_3_code 19 = .ok (.bipush 8, 2) := by decide +kernel
theorem own_d1_21 : decode method_3_code 21 = .ok (.ireturn, 1) := by decide +kernel
theorem own_d1_22 : decode method_3_code 22 = .ok (.bipush 9, 2) := by decide +kernel
theorem own_d1_24 : decode method_3_code 24 = .ok (.ireturn, 1) := by decide +kernel
theorem own_pn1 : plainName "com/example/flankline/flankline/rules/MovesLineUpPinLaw" = true := by first | (simp [plainName, overriddenIn]; done) | decide +kernel
set_option maxRecDepth 65536 in
set_option maxHeartbeats 40000000 in
theorem own_c1 (l : Launch) (Z : State) (a0 : Array Value) (hw : ∀ d ∈ tables_1, d.before a0 Z = true) (i : Int32) (h0 : Heap) (n0 : Nat) :
    Con l Z (⟨"com/example/flankline/flankline/rules/MovesLineUpPinLaw", "pick", "(I)I"⟩ : MethodName) method_3_code 1 (some .int) ({ frames := 0, cells := 0, slots := 0, locals := 0 } : Room) n0 h0 #[(.int i)] (fun v h => v = some (.int (own_pick i)) ∧ h = h0) := by
  refine Con.intro (plainFor_of_name own_pn1) (Ls := #[.val (.int i)]) (fun m => by first | (simp [entryFrame, mkF, argsToLocals, Value.category]; done) | rfl) ?_
  intro p e s m below meth c s₁ hx hby hml hown hnm hret hlk hZ S0
  have A0 := S0.here
  refine k_iloadN A0 hx (hb hby own_d1_0) rfl (pc' := 1) rfl ?_
  refine k_if_ne A0 hx (hb hby own_d1_1) (pcY := 6) (by decide) (pc' := 4) rfl (fun hc1 => ?_) (fun hc1 => ?_)
  · refine k_iloadN A0 hx (hb hby own_d1_6) rfl (pc' := 7) rfl ?_
    refine k_iconst A0 hx (hb hby own_d1_7) (v := 1) rfl (pc' := 8) rfl ?_
    refine k_icmp_ne A0 hx (hb hby own_d1_8) (pcY := 14) (by decide) (pc' := 11) rfl (fun hc8 => ?_) (fun hc8 => ?_)
    · refine k_iloadN A0 hx (hb hby own_d1_14) rfl (pc' := 15) rfl ?_
      refine k_iconst A0 hx (hb hby own_d1_15) (v := 2) rfl (pc' := 16) rfl ?_
      refine k_icmp_ne A0 hx (hb hby own_d1_16) (pcY := 22) (by decide) (pc' := 19) rfl (fun hc16 => ?_) (fun hc16 => ?_)
      · refine k_bipush A0 hx (hb hby own_d1_22) (v := 9) rfl (pc' := 24) rfl ?_
        refine k_ret_int S0 hx hret hlk (hb hby own_d1_24) (by decide) (by decide) ?_
        exact ⟨by simp [own_pick, hc1, hc8, hc16], rfl⟩
      · refine k_bipush A0 hx (hb hby own_d1_19) (v := 8) rfl (pc' := 21) rfl ?_
        refine k_ret_int S0 hx hret hlk (hb hby own_d1_21) (by decide) (by decide) ?_
        exact ⟨by simp [own_pick, hc1, hc8, hc16], rfl⟩
    · refine k_bipush A0 hx (hb hby own_d1_11) (v := 7) rfl (pc' := 13) rfl ?_
      refine k_ret_int S0 hx hret hlk (hb hby own_d1_13) (by decide) (by decide) ?_
      exact ⟨by simp [own_pick, hc1, hc8], rfl⟩
  · refine k_iconst A0 hx (hb hby own_d1_4) (v := 1) rfl (pc' := 5) rfl ?_
    refine k_ret_int S0 hx hret hlk (hb hby own_d1_5) (by decide) (by decide) ?_
    exact ⟨by simp [own_pick, hc1], rfl⟩
theorem own_d2_0 : decode prog_34_method_4_code 0 = .ok (.lload_n 2, 1) := by decide +kernel
theorem own_d2_1 : decode prog_34_method_4_code 1 = .ok (.lload_n 0, 1) := by decide +kernel
theorem own_d2_2 : decode prog_34_method_4_code 2 = .ok (.iload 6, 2) := by decide +kernel
theorem own_d2_4 : decode prog_34_method_4_code 4 = .ok (.lshl, 1) := by decide +kernel
theorem own_d2_5 : decode prog_34_method_4_code 5 = .ok (.land, 1) := by decide +kernel
theorem own_d2_6 : decode prog_34_method_4_code 6 = .ok (.lstore 7, 2) := by decide +kernel
theorem own_d2_8 : decode prog_34_method_4_code 8 = .ok (.lload 7, 2) := by decide +kernel
theorem own_d2_10 : decode prog_34_method_4_code 10 = .ok (.lload_n 2, 1) := by decide +kernel
theorem own_d2_11 : decode prog_34_method_4_code 11 = .ok (.lload 7, 2) := by decide +kernel
theorem own_d2_13 : decode prog_34_method_4_code 13 = .ok (.iload 6, 2) := by decide +kernel
theorem own_d2_15 : decode prog_34_method_4_code 15 = .ok (.lshl, 1) := by decide +kernel
theorem own_d2_16 : decode prog_34_method_4_code 16 = .ok (.land, 1) := by decide +kernel
theorem own_d2_17 : decode prog_34_method_4_code 17 = .ok (.lor, 1) := by decide +kernel
theorem own_d2_18 : decode prog_34_method_4_code 18 = .ok (.lstore 7, 2) := by decide +kernel
theorem own_d2_20 : decode prog_34_method_4_code 20 = .ok (.lload 7, 2) := by decide +kernel
theorem own_d2_22 : decode prog_34_method_4_code 22 = .ok (.lload 4, 2) := by decide +kernel
theorem own_d2_24 : decode prog_34_method_4_code 24 = .ok (.lload 7, 2) := by decide +kernel
theorem own_d2_26 : decode prog_34_method_4_code 26 = .ok (.iload 6, 2) := by decide +kernel
theorem own_d2_28 : decode prog_34_method_4_code 28 = .ok (.iload 6, 2) := by decide +kernel
theorem own_d2_30 : decode prog_34_method_4_code 30 = .ok (.iadd, 1) := by decide +kernel
theorem own_d2_31 : decode prog_34_method_4_code 31 = .ok (.lshl, 1) := by decide +kernel
theorem own_d2_32 : decode prog_34_method_4_code 32 = .ok (.land, 1) := by decide +kernel
theorem own_d2_33 : decode prog_34_method_4_code 33 = .ok (.lor, 1) := by decide +kernel
theorem own_d2_34 : decode prog_34_method_4_code 34 = .ok (.lstore 7, 2) := by decide +kernel
theorem own_d2_36 : decode prog_34_method_4_code 36 = .ok (.lload 7, 2) := by decide +kernel
theorem own_d2_38 : decode prog_34_method_4_code 38 = .ok (.lload 4, 2) := by decide +kernel
theorem own_d2_40 : decode prog_34_method_4_code 40 = .ok (.lload 7, 2) := by decide +kernel
theorem own_d2_42 : decode prog_34_method_4_code 42 = .ok (.iload 6, 2) := by decide +kernel
theorem own_d2_44 : decode prog_34_method_4_code 44 = .ok (.iload 6, 2) := by decide +kernel
theorem own_d2_46 : decode prog_34_method_4_code 46 = .ok (.iadd, 1) := by decide +kernel
theorem own_d2_47 : decode prog_34_method_4_code 47 = .ok (.lshl, 1) := by decide +kernel
theorem own_d2_48 : decode prog_34_method_4_code 48 = .ok (.land, 1) := by decide +kernel
theorem own_d2_49 : decode prog_34_method_4_code 49 = .ok (.lor, 1) := by decide +kernel
theorem own_d2_50 : decode prog_34_method_4_code 50 = .ok (.lreturn, 1) := by decide +kernel
theorem own_pn2 : plainName "com/example/flankline/flankline/rules/Moves" = true := by first | (simp [plainName, overriddenIn]; done) | decide +kernel
set_option maxRecDepth 65536 in
set_option maxHeartbeats 40000000 in
theorem own_c2 (l : Launch) (Z : State) (a0 : Array Value) (hw : ∀ d ∈ tables_1, d.before a0 Z = true) (f o P : Int64) (q : Int32) (h0 : Heap) (n0 : Nat) :
    Con l Z (⟨"com/example/flankline/flankline/rules/Moves", "lineUp", "(JJJI)J"⟩ : MethodName) prog_34_method_4_code 9 (some .long) ({ frames := 0, cells := 0, slots := 0, locals := 0 } : Room) n0 h0 #[(.long f), (.long o), (.long P), (.int q)] (fun v h => v = some (.long (own_up f o P q)) ∧ h = h0) := by
  refine Con.intro (plainFor_of_name own_pn2) (Ls := #[.val (.long f), .second, .val (.long o), .second, .val (.long P), .second, .val (.int q), .unset, .unset]) (fun m => by first | (simp [entryFrame, mkF, argsToLocals, Value.category]; done) | rfl) ?_
  intro p e s m below meth c s₁ hx hby hml hown hnm hret hlk hZ S0
  have A0 := S0.here
  refine k_lloadN A0 hx (hb hby own_d2_0) rfl (pc' := 1) rfl ?_
  refine k_lloadN A0 hx (hb hby own_d2_1) rfl (pc' := 2) rfl ?_
  refine k_iload A0 hx (hb hby own_d2_2) rfl (pc' := 4) rfl ?_
  refine k_lshl A0 hx (hb hby own_d2_4) (pc' := 5) rfl ?_
  refine k_land A0 hx (hb hby own_d2_5) (pc' := 6) rfl ?_
  refine k_lstore A0 hx (hb hby own_d2_6) (Ls' := #[.val (.long f), .second, .val (.long o), .second, .val (.long P), .second, .val (.int q), .val (.long (o &&& (f <<< (q &&& 0x3f).toInt64))), .second]) rfl (pc' := 8) rfl ?_
  refine k_lload A0 hx (hb hby own_d2_8) rfl (pc' := 10) rfl ?_
  refine k_lloadN A0 hx (hb hby own_d2_10) rfl (pc' := 11) rfl ?_
  refine k_lload A0 hx (hb hby own_d2_11) rfl (pc' := 13) rfl ?_
  refine k_iload A0 hx (hb hby own_d2_13) rfl (pc' := 15) rfl ?_
  refine k_lshl A0 hx (hb hby own_d2_15) (pc' := 16) rfl ?_
  refine k_land A0 hx (hb hby own_d2_16) (pc' := 17) rfl ?_
  refine k_lor A0 hx (hb hby own_d2_17) (pc' := 18) rfl ?_
  refine k_lstore A0 hx (hb hby own_d2_18) (Ls' := #[.val (.long f), .second, .val (.long o), .second, .val (.long P), .second, .val (.int q), .val (.long ((o &&& (f <<< (q &&& 0x3f).toInt64)) ||| (o &&& ((o &&& (f <<< (q &&& 0x3f).toInt64)) <<< (q &&& 0x3f).toInt64)))), .second]) rfl (pc' := 20) rfl ?_
  refine k_lload A0 hx (hb hby own_d2_20) rfl (pc' := 22) rfl ?_
  refine k_lload A0 hx (hb hby own_d2_22) rfl (pc' := 24) rfl ?_
  refine k_lload A0 hx (hb hby own_d2_24) rfl (pc' := 26) rfl ?_
  refine k_iload A0 hx (hb hby own_d2_26) rfl (pc' := 28) rfl ?_
  refine k_iload A0 hx (hb hby own_d2_28) rfl (pc' := 30) rfl ?_
  refine k_iadd A0 hx (hb hby own_d2_30) (pc' := 31) rfl ?_
  refine k_lshl A0 hx (hb hby own_d2_31) (pc' := 32) rfl ?_
  refine k_land A0 hx (hb hby own_d2_32) (pc' := 33) rfl ?_
  refine k_lor A0 hx (hb hby own_d2_33) (pc' := 34) rfl ?_
  refine k_lstore A0 hx (hb hby own_d2_34) (Ls' := #[.val (.long f), .second, .val (.long o), .second, .val (.long P), .second, .val (.int q), .val (.long (((o &&& (f <<< (q &&& 0x3f).toInt64)) ||| (o &&& ((o &&& (f <<< (q &&& 0x3f).toInt64)) <<< (q &&& 0x3f).toInt64))) ||| (P &&& (((o &&& (f <<< (q &&& 0x3f).toInt64)) ||| (o &&& ((o &&& (f <<< (q &&& 0x3f).toInt64)) <<< (q &&& 0x3f).toInt64))) <<< ((q + q) &&& 0x3f).toInt64)))), .second]) rfl (pc' := 36) rfl ?_
  refine k_lload A0 hx (hb hby own_d2_36) rfl (pc' := 38) rfl ?_
  refine k_lload A0 hx (hb hby own_d2_38) rfl (pc' := 40) rfl ?_
  refine k_lload A0 hx (hb hby own_d2_40) rfl (pc' := 42) rfl ?_
  refine k_iload A0 hx (hb hby own_d2_42) rfl (pc' := 44) rfl ?_
  refine k_iload A0 hx (hb hby own_d2_44) rfl (pc' := 46) rfl ?_
  refine k_iadd A0 hx (hb hby own_d2_46) (pc' := 47) rfl ?_
  refine k_lshl A0 hx (hb hby own_d2_47) (pc' := 48) rfl ?_
  refine k_land A0 hx (hb hby own_d2_48) (pc' := 49) rfl ?_
  refine k_lor A0 hx (hb hby own_d2_49) (pc' := 50) rfl ?_
  refine k_ret_long S0 hx hret hlk (hb hby own_d2_50) (by decide) (by decide) ?_
  exact ⟨rfl, rfl⟩
theorem own_pn0 : plainName "com/example/flankline/flankline/rules/MovesLineUpPinLaw" = true := by first | (simp [plainName, overriddenIn]; done) | decide +kernel
theorem own_pd0 : parseMethodDescriptor "(I)I" = some ⟨[.int], some .int⟩ := by decide +kernel
theorem own_pd1 : parseMethodDescriptor "(JJJI)J" = some ⟨[.long, .long, .long, .int], some .long⟩ := by decide +kernel
set_option maxRecDepth 65536 in
set_option maxHeartbeats 40000000 in
theorem own_law (l : Launch) (Z : State) (a0 : Array Value) (hw : ∀ d ∈ tables_1, d.before a0 Z = true) (f o : Int64) (k : Int32) (h0 : Heap) (n0 : Nat) (Z0 : n0 ≤ h0.size) :
    Con l Z x code maxLocals ret room_1 n0 h0 #[(.long f), (.long o), (.int k)] (fun v h => v = some (.int 1)) := by
  refine Con.intro (plainFor_of_name own_pn0) (Ls := #[.val (.long f), .second, .val (.long o), .second, .val (.int k), .unset, .unset, .unset, .unset, .unset, .unset, .unset, .unset, .unset, .unset, .unset, .unset, .unset, .unset, .unset, .unset, .unset, .unset, .unset, .unset, .unset]) (fun m => by first | (simp [entryFrame, mkF, argsToLocals, Value.category, maxLocals]; done) | rfl) ?_
  intro p e s m below meth c s₁ hx hby hml hown hnm hret hlk hZ S0
  have A0 := S0.here
  refine k_iload A0 hx (hb hby at_0) rfl (pc' := 2) rfl ?_
  refine k_iconst A0 hx (hb hby at_2) (v := 3) rfl (pc' := 3) rfl ?_
  refine k_iand A0 hx (hb hby at_3) (pc' := 4) rfl ?_
  refine k_call_static S0 hx hZ hown (hw _ (List.mem_of_getElem? (i := 0) rfl)) (hw _ (List.mem_of_getElem? (i := 1) rfl)) (hw _ (List.mem_of_getElem? (i := 2) rfl)) (hw _ (List.mem_of_getElem? (i := 3) rfl)) (by decide) (own_c1 l Z a0 hw (k &&& (3 : Int32)) h0 n0) 0 (argsL := [(.int (k &&& (3 : Int32)))]) (rest := []) (by decide) (by decide) (by rw [hml]; rfl) (lenOf own_pd0 rfl) rfl rfl (Nat.le_refl 0) (hb hby at_4) (pc' := 7) rfl (by decide) (by decide) ?_
  rintro v1 T1 h1 ⟨rfl, q1⟩ S1
  rw [q1] at S1
  have A1 := S1.here
  show Done p e below _ (T1.setTop (mkF m 7 #[.val (.long f), .second, .val (.long o), .second, .val (.int k), .unset, .unset, .unset, .unset, .unset, .unset, .unset, .unset, .unset, .unset, .unset, .unset, .unset, .unset, .unset, .unset, .unset, .unset, .unset, .unset, .unset] [(.int (own_pick (k &&& (3 : Int32))))]))
  generalize q_sh : (own_pick (k &&& (3 : Int32))) = sh
  refine k_istore A1 hx (hb hby at_7) (Ls' := #[.val (.long f), .second, .val (.long o), .second, .val (.int k), .val (.int sh), .unset, .unset, .unset, .unset, .unset, .unset, .unset, .unset, .unset, .unset, .unset, .unset, .unset, .unset, .unset, .unset, .unset, .unset, .unset, .unset]) rfl (pc' := 9) rfl ?_
  refine k_lloadN A1 hx (hb hby at_9) rfl (pc' := 10) rfl ?_
  refine k_lloadN A1 hx (hb hby at_10) rfl (pc' := 11) rfl ?_
  refine k_ldc2Long S1 hx hZ hown (hw _ (List.mem_of_getElem? (i := 4) rfl)) (hb hby at_11) (pc' := 14) rfl ?_
  refine k_lxor A1 hx (hb hby at_14) (pc' := 15) rfl ?_
  refine k_land A1 hx (hb hby at_15) (pc' := 16) rfl ?_
  generalize q_mv : (f &&& (o ^^^ (-1 : Int64))) = mv
  refine k_lstore A1 hx (hb hby at_16) (Ls' := #[.val (.long f), .second, .val (.long o), .second, .val (.int k), .val (.int sh), .val (.long mv), .second, .unset, .unset, .unset, .unset, .unset, .unset, .unset, .unset, .unset, .unset, .unset, .unset, .unset, .unset, .unset, .unset, .unset, .unset]) rfl (pc' := 18) rfl ?_
  refine k_lloadN A1 hx (hb hby at_18) rfl (pc' := 19) rfl ?_
  refine k_lloadN A1 hx (hb hby at_19) rfl (pc' := 20) rfl ?_
  refine k_iload A1 hx (hb hby at_20) rfl (pc' := 22) rfl ?_
  refine k_lshl A1 hx (hb hby at_22) (pc' := 23) rfl ?_
  refine k_land A1 hx (hb hby at_23) (pc' := 24) rfl ?_
  generalize q_pr : (o &&& (o <<< (sh &&& 0x3f).toInt64)) = pr
  refine k_lstore A1 hx (hb hby at_24) (Ls' := #[.val (.long f), .second, .val (.long o), .second, .val (.int k), .val (.int sh), .val (.long mv), .second, .val (.long pr), .second, .unset, .unset, .unset, .unset, .unset, .unset, .unset, .unset, .unset, .unset, .unset, .unset, .unset, .unset, .unset, .unset]) rfl (pc' := 26) rfl ?_
  refine k_lload A1 hx (hb hby at_26) rfl (pc' := 28) rfl ?_
  refine k_lloadN A1 hx (hb hby at_28) rfl (pc' := 29) rfl ?_
  refine k_lload A1 hx (hb hby at_29) rfl (pc' := 31) rfl ?_
  refine k_iload A1 hx (hb hby at_31) rfl (pc' := 33) rfl ?_
  refine k_call_static S1 hx hZ hown (hw _ (List.mem_of_getElem? (i := 5) rfl)) (hw _ (List.mem_of_getElem? (i := 6) rfl)) (hw _ (List.mem_of_getElem? (i := 7) rfl)) (hw _ (List.mem_of_getElem? (i := 8) rfl)) (by decide) (own_c2 l Z a0 hw mv o pr sh h0 n0) 0 (argsL := [(.long mv), (.long o), (.long pr), (.int sh)]) (rest := []) (by decide) (by decide) (by rw [hml]; rfl) (lenOf own_pd1 rfl) rfl rfl (Nat.le_refl 0) (hb hby at_33) (pc' := 36) rfl (by decide) (by decide) ?_
  rintro v2 T2 h2 ⟨rfl, q2⟩ S2
  rw [q2] at S2
  have A2 := S2.here
  show Done p e below _ (T2.setTop (mkF m 36 #[.val (.long f), .second, .val (.long o), .second, .val (.int k), .val (.int sh), .val (.long mv), .second, .val (.long pr), .second, .unset, .unset, .unset, .unset, .unset, .unset, .unset, .unset, .unset, .unset, .unset, .unset, .unset, .unset, .unset, .unset] [(.long (own_up mv o pr sh))]))
  generalize q_got : (own_up mv o pr sh) = got
  refine k_lstore A2 hx (hb hby at_36) (Ls' := #[.val (.long f), .second, .val (.long o), .second, .val (.int k), .val (.int sh), .val (.long mv), .second, .val (.long pr), .second, .val (.long got), .second, .unset, .unset, .unset, .unset, .unset, .unset, .unset, .unset, .unset, .unset, .unset, .unset, .unset, .unset]) rfl (pc' := 38) rfl ?_
  refine k_lloadN A2 hx (hb hby at_38) rfl (pc' := 39) rfl ?_
  refine k_lload A2 hx (hb hby at_39) rfl (pc' := 41) rfl ?_
  refine k_iload A2 hx (hb hby at_41) rfl (pc' := 43) rfl ?_
  refine k_lshl A2 hx (hb hby at_43) (pc' := 44) rfl ?_
  refine k_land A2 hx (hb hby at_44) (pc' := 45) rfl ?_
  generalize q_d1 : (o &&& (mv <<< (sh &&& 0x3f).toInt64)) = d1
  refine k_lstore A2 hx (hb hby at_45) (Ls' := #[.val (.long f), .second, .val (.long o), .second, .val (.int k), .val (.int sh), .val (.long mv), .second, .val (.long pr), .second, .val (.long got), .second, .val (.long d1), .second, .unset, .unset, .unset, .unset, .unset, .unset, .unset, .unset, .unset, .unset, .unset, .unset]) rfl (pc' := 47) rfl ?_
  refine k_lloadN A2 hx (hb hby at_47) rfl (pc' := 48) rfl ?_
  refine k_lload A2 hx (hb hby at_48) rfl (pc' := 50) rfl ?_
  refine k_iload A2 hx (hb hby at_50) rfl (pc' := 52) rfl ?_
  refine k_lshl A2 hx (hb hby at_52) (pc' := 53) rfl ?_
  refine k_land A2 hx (hb hby at_53) (pc' := 54) rfl ?_
  generalize q_d2 : (o &&& (d1 <<< (sh &&& 0x3f).toInt64)) = d2
  refine k_lstore A2 hx (hb hby at_54) (Ls' := #[.val (.long f), .second, .val (.long o), .second, .val (.int k), .val (.int sh), .val (.long mv), .second, .val (.long pr), .second, .val (.long got), .second, .val (.long d1), .second, .val (.long d2), .second, .unset, .unset, .unset, .unset, .unset, .unset, .unset, .unset, .unset, .unset]) rfl (pc' := 56) rfl ?_
  refine k_lloadN A2 hx (hb hby at_56) rfl (pc' := 57) rfl ?_
  refine k_lload A2 hx (hb hby at_57) rfl (pc' := 59) rfl ?_
  refine k_iload A2 hx (hb hby at_59) rfl (pc' := 61) rfl ?_
  refine k_lshl A2 hx (hb hby at_61) (pc' := 62) rfl ?_
  refine k_land A2 hx (hb hby at_62) (pc' := 63) rfl ?_
  generalize q_d3 : (o &&& (d2 <<< (sh &&& 0x3f).toInt64)) = d3
  refine k_lstore A2 hx (hb hby at_63) (Ls' := #[.val (.long f), .second, .val (.long o), .second, .val (.int k), .val (.int sh), .val (.long mv), .second, .val (.long pr), .second, .val (.long got), .second, .val (.long d1), .second, .val (.long d2), .second, .val (.long d3), .second, .unset, .unset, .unset, .unset, .unset, .unset, .unset, .unset]) rfl (pc' := 65) rfl ?_
  refine k_lloadN A2 hx (hb hby at_65) rfl (pc' := 66) rfl ?_
  refine k_lload A2 hx (hb hby at_66) rfl (pc' := 68) rfl ?_
  refine k_iload A2 hx (hb hby at_68) rfl (pc' := 70) rfl ?_
  refine k_lshl A2 hx (hb hby at_70) (pc' := 71) rfl ?_
  refine k_land A2 hx (hb hby at_71) (pc' := 72) rfl ?_
  generalize q_d4 : (o &&& (d3 <<< (sh &&& 0x3f).toInt64)) = d4
  refine k_lstore A2 hx (hb hby at_72) (Ls' := #[.val (.long f), .second, .val (.long o), .second, .val (.int k), .val (.int sh), .val (.long mv), .second, .val (.long pr), .second, .val (.long got), .second, .val (.long d1), .second, .val (.long d2), .second, .val (.long d3), .second, .val (.long d4), .second, .unset, .unset, .unset, .unset, .unset, .unset]) rfl (pc' := 74) rfl ?_
  refine k_lloadN A2 hx (hb hby at_74) rfl (pc' := 75) rfl ?_
  refine k_lload A2 hx (hb hby at_75) rfl (pc' := 77) rfl ?_
  refine k_iload A2 hx (hb hby at_77) rfl (pc' := 79) rfl ?_
  refine k_lshl A2 hx (hb hby at_79) (pc' := 80) rfl ?_
  refine k_land A2 hx (hb hby at_80) (pc' := 81) rfl ?_
  generalize q_d5 : (o &&& (d4 <<< (sh &&& 0x3f).toInt64)) = d5
  refine k_lstore A2 hx (hb hby at_81) (Ls' := #[.val (.long f), .second, .val (.long o), .second, .val (.int k), .val (.int sh), .val (.long mv), .second, .val (.long pr), .second, .val (.long got), .second, .val (.long d1), .second, .val (.long d2), .second, .val (.long d3), .second, .val (.long d4), .second, .val (.long d5), .second, .unset, .unset, .unset, .unset]) rfl (pc' := 83) rfl ?_
  refine k_lloadN A2 hx (hb hby at_83) rfl (pc' := 84) rfl ?_
  refine k_lload A2 hx (hb hby at_84) rfl (pc' := 86) rfl ?_
  refine k_iload A2 hx (hb hby at_86) rfl (pc' := 88) rfl ?_
  refine k_lshl A2 hx (hb hby at_88) (pc' := 89) rfl ?_
  refine k_land A2 hx (hb hby at_89) (pc' := 90) rfl ?_
  generalize q_d6 : (o &&& (d5 <<< (sh &&& 0x3f).toInt64)) = d6
  refine k_lstore A2 hx (hb hby at_90) (Ls' := #[.val (.long f), .second, .val (.long o), .second, .val (.int k), .val (.int sh), .val (.long mv), .second, .val (.long pr), .second, .val (.long got), .second, .val (.long d1), .second, .val (.long d2), .second, .val (.long d3), .second, .val (.long d4), .second, .val (.long d5), .second, .val (.long d6), .second, .unset, .unset]) rfl (pc' := 92) rfl ?_
  refine k_lload A2 hx (hb hby at_92) rfl (pc' := 94) rfl ?_
  refine k_lload A2 hx (hb hby at_94) rfl (pc' := 96) rfl ?_
  refine k_lor A2 hx (hb hby at_96) (pc' := 97) rfl ?_
  refine k_lload A2 hx (hb hby at_97) rfl (pc' := 99) rfl ?_
  refine k_lor A2 hx (hb hby at_99) (pc' := 100) rfl ?_
  refine k_lload A2 hx (hb hby at_100) rfl (pc' := 102) rfl ?_
  refine k_lor A2 hx (hb hby at_102) (pc' := 103) rfl ?_
  refine k_lload A2 hx (hb hby at_103) rfl (pc' := 105) rfl ?_
  refine k_lor A2 hx (hb hby at_105) (pc' := 106) rfl ?_
  refine k_lload A2 hx (hb hby at_106) rfl (pc' := 108) rfl ?_
  refine k_lor A2 hx (hb hby at_108) (pc' := 109) rfl ?_
  generalize q_ex : (((((d1 ||| d2) ||| d3) ||| d4) ||| d5) ||| d6) = ex
  refine k_lstore A2 hx (hb hby at_109) (Ls' := #[.val (.long f), .second, .val (.long o), .second, .val (.int k), .val (.int sh), .val (.long mv), .second, .val (.long pr), .second, .val (.long got), .second, .val (.long d1), .second, .val (.long d2), .second, .val (.long d3), .second, .val (.long d4), .second, .val (.long d5), .second, .val (.long d6), .second, .val (.long ex), .second]) rfl (pc' := 111) rfl ?_
  refine k_lload A2 hx (hb hby at_111) rfl (pc' := 113) rfl ?_
  refine k_lload A2 hx (hb hby at_113) rfl (pc' := 115) rfl ?_
  refine k_lcmp_ne A2 hx (hb hby at_115) (hb hby at_116) (pcY := 123) (by decide) (pc' := 119) rfl (fun hc115 => ?_) (fun hc115 => ?_)
  · refine k_iconst A2 hx (hb hby at_123) (v := 0) rfl (pc' := 124) rfl ?_
    refine k_ret_nar S2 hx (t := .boolean) hret (by simp) hlk (hb hby at_124) (z' := (0 : Int32)) rfl (by decide) (by decide) ?_
    exact absurd (by rw [← q_got, ← q_pr, ← q_ex]; exact own_plain mv o sh (q_sh ▸ own_pick4 _) d1 d2 d3 d4 d5 d6 q_d1.symm q_d2.symm q_d3.symm q_d4.symm q_d5.symm q_d6.symm) hc115
  · refine k_iconst A2 hx (hb hby at_119) (v := 1) rfl (pc' := 120) rfl ?_
    refine k_goto A2 hx (hb hby at_120) (pc' := 124) (by decide) ?_
    refine k_ret_nar S2 hx (t := .boolean) hret (by simp) hlk (hb hby at_124) (z' := (1 : Int32)) rfl (by decide) (by decide) ?_
    exact rfl
set_option maxRecDepth 65536 in
set_option maxHeartbeats 40000000 in
theorem comes_1 {Post : Tables → Env → Array Value → State → Outcome → State → Prop} (hpost : ∀ tb e args s v u, (limb_1_1.after args s (.returned v) u = true ∧ limb_1_2.after args s (.returned v) u = true ∧ True) → FrameEnd s (.returned v) u (Jvm.fieldLocs frame_1_writes args s ++ Jvm.arrayLocs frame_1_arrays args s ++ Jvm.staticLocs frame_1_statics s) 0 0 → Post tb e args s (.returned v) u) :
    ArmFor flags0 classFile x code maxLocals ret World_1 tables_1 room_1 Calls_1 rest_1 Pre_1 Post := by
  intro l hfl _ _ p e ha hc hk s m args below hf hA hF happ hP
  obtain ⟨hcalls, hrest, hpre⟩ := hP
  obtain ⟨-, -, -, hnamed, -, -, -, hat⟩ := (Spec.applies_iff hf).mp happ
  obtain ⟨hg, hn⟩ := and_e (Cond.before_iff.mp (show (Jvm.Cond.and given_1 narrow_1).before args s = true from hpre))
  obtain ⟨g1, g2⟩ := and_e hg
  obtain ⟨g3, g4⟩ := and_e g2
  obtain ⟨g5, g6⟩ := and_e g4
  obtain ⟨w0, w1, w2, rfl⟩ : ∃ w0 w1 w2 : Value, args = #[w0, w1, w2] := by
    have hs : args.size = 3 := by simpa [Cond.value, given_1] using g1
    obtain ⟨L⟩ := args
    match L, hs with
    | [w0, w1, w2], _ => exact ⟨w0, w1, w2, rfl⟩
  have hw := fun d (hd : d ∈ tables_1) => atoms_spec (ws := Jvm.Cond.code x code maxLocals ret :: tables_1) hat d (List.mem_cons_of_mem _ hd)
  obtain ⟨i0, ei0⟩ := isL_v g3
  obtain rfl : w0 = (.long i0) := Option.some.inj ei0
  obtain ⟨i1, ei1⟩ := isL_v g5
  obtain rfl : w1 = (.long i1) := Option.some.inj ei1
  obtain ⟨i2, ei2⟩ := is_v g6
  obtain rfl : w2 = (.int i2) := Option.some.inj ei2
  obtain ⟨n, o, h1, h2, h3, _, L, rfl, ⟨rfl, N⟩, hq⟩ := own_law l s _ hw i0 i1 i2 s.heap s.heap.size (Nat.le_refl _) tables_1 p e ha hc hk s m _ below hf ((Spec.applies_iff_loose hf).mp happ).1 ⟨rfl, State.Warmed39.refl s, rfl⟩ trivial
  refine ⟨n, _, h1, h2, h3, hpost _ _ _ _ _ _ ⟨Cond.after_iff.mpr rfl, Cond.after_iff.mpr (eq_i res_at (Term.int_eval (1)) rfl), trivial⟩ ⟨hq.1, hq.2.1, (hq.2.2.sift fun y hy => Or.inr (N y hy)).mono (by decide) (by decide)⟩⟩
theorem main_1_1 : Claimed_1_1 := comes_1 fun _ _ _ _ _ _ h hF => ⟨h.1, hF⟩
theorem main_1_2 : Claimed_1_2 := comes_1 fun _ _ _ _ _ _ h hF => ⟨h.2.1, hF⟩
end Jvm.Pilot.@@N@@
namespace Jvm.Pilot.@@N@@
open Jvm Jvm.ClassFile Sem Op Lib Jvm.Free Jvm.Stand Jvm.Pilot.@@N@@.Jvm.D
/-! MADE BY PROGRAM (witnessworld.py) out of the Statement's table words and the real class files: 9 classes; the members and pool entries that the words name. The judged class is class 1, her method 1. -/
namespace start1
open Jvm.ClassFile
def u (s : String) : CpInfo := .utf8 (stringToUtf16 s)
/-- a pool by its gaps: so many unusable entries, then the entry; so many at the end -/
def gap : Nat → List CpInfo → List CpInfo
  | 0, r => r
  | n + 1, r => .unusable :: gap n r
def poolList (es : List (Nat × CpInfo)) (last : Nat) : List CpInfo := es.foldr (fun e r => gap e.1 (e.2 :: r)) (gap last [])
def pool (es : List (Nat × CpInfo)) (last : Nat) : Array CpInfo := ⟨poolList es last⟩
def fileOf (pool : Array CpInfo) (this : Nat) (attrs : Array Attribute := #[]) (ms : Array MethodInfo := #[]) (fl : Nat := 33) (sup : Nat := 0) (ifs : Array Nat := #[]) (fds : Array FieldInfo := #[]) : ClassFile where
  minorVersion := 0
  majorVersion := 65
  constantPool := pool
  accessFlags := fl
  thisClass := this
  superClass := sup
  interfaces := ifs
  fields := fds
  methods := ms
  attributes := attrs
def plain (name : String) (sup : Option ClassId) : Class where
  name := name
  kind := .ordinary
  loader := none
  accessFlags := 33
  super := sup
  interfaces := #[]
  cf := none
  fields := #[]
  methods := #[]
  instanceTypes := #[]
  staticTypes := #[]
  resolved := #[]
  callSites := []
  init := .initialized
  statics := none
  mirror := none

def pool0 : Array CpInfo := pool [(5, u "<init>"), (0, u "()V"), (1, .class_ 10), (1, u "java/lang/Object")] 113

def k0m0 : Method := { name := "<init>", desc := "()V", sig := { parameters := [], returnType := none }, accessFlags := 1, code := none }
/-- java/lang/Object -/
def k0 : Class := { plain "java/lang/Object" none with
  accessFlags := 33
  interfaces := #[]
  cf := some (fileOf pool0 8 #[] #[{ accessFlags := 1, nameIndex := 5, descriptorIndex := 6, attributes := #[] }] 33 0 #[] #[])
  fields := #[]
  methods := #[k0m0]
  instanceTypes := #[]
  staticTypes := #[]
  resolved := Array.replicate 124 none
  statics := none }

def pool1 : Array CpInfo := pool [(2, .class_ 4), (1, u "java/lang/Object"), (0, u "<init>"), (0, u "()V"), (0, .methodref 8 9), (0, .class_ 10), (0, .nameAndType 11 12), (0, u "com/example/flankline/flankline/rules/MovesLineUpPinLaw"), (0, u "pick"), (0, u "(I)I"), (0, .long 18446744073709551615), (1, .methodref 16 17), (0, .class_ 18), (0, .nameAndType 19 20), (0, u "com/example/flankline/flankline/rules/Moves"), (0, u "lineUp"), (0, u "(JJJI)J"), (2, u "law"), (0, u "(JJI)Z")] 3

def k1m0 : Method := { name := "<init>", desc := "()V", sig := { parameters := [], returnType := none }, accessFlags := 1, code := none }
def k1c1 : Code := { maxStack := 7, maxLocals := 26, code := code, exceptionTable := #[], attributes := #[] }
def k1m1 : Method := { name := "law", desc := "(JJI)Z", sig := { parameters := [.long, .long, .int], returnType := some .boolean }, accessFlags := 9, code := some k1c1 }
def k1c2 : Code := { maxStack := 2, maxLocals := 1, code := method_3_code, exceptionTable := #[], attributes := #[] }
def k1m2 : Method := { name := "pick", desc := "(I)I", sig := { parameters := [.int], returnType := some .int }, accessFlags := 10, code := some k1c2 }
/-- com/example/flankline/flankline/rules/MovesLineUpPinLaw -/
def k1 : Class := { plain "com/example/flankline/flankline/rules/MovesLineUpPinLaw" (some 0) with
  accessFlags := 49
  interfaces := #[]
  cf := some (fileOf pool1 8 #[] #[{ accessFlags := 1, nameIndex := 5, descriptorIndex := 6, attributes := #[] }, { accessFlags := 9, nameIndex := 23, descriptorIndex := 24, attributes := #[] }, { accessFlags := 10, nameIndex := 11, descriptorIndex := 12, attributes := #[] }] 49 2 #[] #[])
  fields := #[]
  methods := #[k1m0, k1m1, k1m2]
  instanceTypes := #[]
  staticTypes := #[]
  resolved := Array.replicate 28 none
  statics := none }

def pool2 : Array CpInfo := pool [(2, .class_ 4), (1, u "java/lang/Object"), (0, u "<init>"), (0, u "()V"), (0, .class_ 8), (0, u "com/example/flankline/flankline/rules/Moves"), (10, u "lineUp"), (0, u "(JJJI)J"), (13, u "DIRECTIONS"), (0, u "I"), (2, u "RAYS"), (0, u "[J"), (18, u "COLUMN_STEPS"), (0, u "[I"), (2, u "ROW_STEPS"), (4, u "INNER_COLUMNS"), (0, u "J")] 12

def k2m0 : Method := { name := "<init>", desc := "()V", sig := { parameters := [], returnType := none }, accessFlags := 2, code := none }
def k2c1 : Code := { maxStack := 8, maxLocals := 9, code := prog_34_method_4_code, exceptionTable := #[], attributes := #[] }
def k2m1 : Method := { name := "lineUp", desc := "(JJJI)J", sig := { parameters := [.long, .long, .long, .int], returnType := some .long }, accessFlags := 8, code := some k2c1 }
/-- com/example/flankline/flankline/rules/Moves -/
def k2 : Class := { plain "com/example/flankline/flankline/rules/Moves" (some 0) with
  accessFlags := 49
  interfaces := #[]
  cf := some (fileOf pool2 7 #[] #[{ accessFlags := 2, nameIndex := 5, descriptorIndex := 6, attributes := #[] }, { accessFlags := 8, nameIndex := 19, descriptorIndex := 20, attributes := #[] }] 49 2 #[] #[{ accessFlags := 24, nameIndex := 67, descriptorIndex := 68, attributes := #[] }, { accessFlags := 26, nameIndex := 58, descriptorIndex := 59, attributes := #[] }, { accessFlags := 26, nameIndex := 62, descriptorIndex := 59, attributes := #[] }, { accessFlags := 26, nameIndex := 34, descriptorIndex := 35, attributes := #[] }, { accessFlags := 26, nameIndex := 38, descriptorIndex := 39, attributes := #[] }])
  fields := #[{ name := "INNER_COLUMNS", type := .long, accessFlags := 24, slot := 0, constantValue := 0 }, { name := "COLUMN_STEPS", type := (.array .int), accessFlags := 26, slot := 1, constantValue := 0 }, { name := "ROW_STEPS", type := (.array .int), accessFlags := 26, slot := 2, constantValue := 0 }, { name := "DIRECTIONS", type := .int, accessFlags := 26, slot := 3, constantValue := 0 }, { name := "RAYS", type := (.array .long), accessFlags := 26, slot := 4, constantValue := 0 }]
  methods := #[k2m0, k2m1]
  instanceTypes := #[]
  staticTypes := #[.long, (.array .int), (.array .int), .int, (.array .long)]
  resolved := Array.replicate 81 none
  statics := none }

def pool3 : Array CpInfo := pool [(1, u "java/lang/Cloneable"), (0, .class_ 1), (0, u "java/lang/Object"), (0, .class_ 3)] 3

/-- java/lang/Cloneable -/
def k3 : Class := { plain "java/lang/Cloneable" (some 0) with
  accessFlags := 1537
  interfaces := #[]
  cf := some (fileOf pool3 2 #[] #[] 1537 4 #[] #[])
  fields := #[]
  methods := #[]
  instanceTypes := #[]
  staticTypes := #[]
  resolved := Array.replicate 8 none
  statics := none }

def pool4 : Array CpInfo := pool [(1, u "java/io/Serializable"), (0, .class_ 1), (0, u "java/lang/Object"), (0, .class_ 3)] 3

/-- java/io/Serializable -/
def k4 : Class := { plain "java/io/Serializable" (some 0) with
  accessFlags := 1537
  interfaces := #[]
  cf := some (fileOf pool4 2 #[] #[] 1537 4 #[] #[])
  fields := #[]
  methods := #[]
  instanceTypes := #[]
  staticTypes := #[]
  resolved := Array.replicate 8 none
  statics := none }

/-- the primitive byte -/
def k5 : Class := { plain "byte" none with kind := .primitive 'B', accessFlags := 0x411 }
/-- [B -/
def k6 : Class := { plain "[B" (some 0) with kind := .array 5 .byte, interfaces := #[3, 4], accessFlags := 1041 }

/-- the primitive int -/
def k7 : Class := { plain "int" none with kind := .primitive 'I', accessFlags := 0x411 }
/-- [I -/
def k8 : Class := { plain "[I" (some 0) with kind := .array 7 .int, interfaces := #[3, 4], accessFlags := 1041 }

def heap : Heap := #[]
def classes : Array Class := #[k0, k1, k2, k3, k4, k5, k6, k7, k8]
def interned : List (Array UInt16 × Addr) := []
def slotsUsed : Nat := 0
def theMethod : MethodId := ⟨1, 1⟩
def args0 : Array Value := #[.long 1, .long 2, .int 0]
def aboutOver (below : List Frame) : State where
  vm := { classes := classes, interned := interned.toArray }
  heap := heap
  slotsUsed := slotsUsed
  threads := #[{ frames := .invoking theMethod args0 :: below }]
def below0 : List Frame := [.native { method := ⟨0, 0⟩, args := #[] }]
def about1 : State := aboutOver below0
def p0 : Program := .bare "" "" ""
def e0 : Env := launch0.env 0 0 0
theorem w_frames : about1.frames = Frame.invoking theMethod args0 :: below0 := rfl
set_option maxRecDepth 65536 in
theorem w_args : argsFit about1.vm theMethod args0 = true := by decide +kernel
set_option maxRecDepth 65536 in
theorem w_heap : heapFits about1 = true := by decide +kernel
set_option maxRecDepth 65536 in
theorem w_runnable : about1.curStatus? = some .runnable := by decide +kernel
set_option maxRecDepth 65536 in
theorem w_alone : about1.alone = true := by decide +kernel
set_option maxRecDepth 65536 in
theorem w_named : about1.methodNamed? x = some theMethod := by decide +kernel
set_option maxRecDepth 65536 in
theorem w_hears : about1.hears theMethod below0 = true := by decide +kernel
set_option maxRecDepth 65536 in
theorem w_ripe : about1.ripe theMethod args0 below0 = true := by decide +kernel
theorem w_running : about1.status = .running := rfl
set_option maxRecDepth 65536 in
theorem w_room : about1.hasRoom e0.platform room_1 = true :=
  launch0.hasRoom_least _ room_1 (by decide +kernel) (by decide +kernel) (by decide +kernel) (by decide +kernel) (by decide +kernel) (by decide +kernel)
theorem allAtoms_all (ts : List Jvm.Cond) (a : Array Jvm.Value) (st : Jvm.State) : (allAtoms ts).before a st = ts.all (fun c => c.before a st) := by
  induction ts with
  | nil => rfl
  | cons c t ih =>
    show (Jvm.Cond.and c (allAtoms t)).before a st = _
    rw [Jvm.Cond.before_and, ih, List.all_cons]
def words1 : List Jvm.Cond := Jvm.Cond.code x code maxLocals ret :: tables_1
/-- a 'code' word, met by the world's own term for the bytes: nothing is compared byte by byte -/
theorem code_word {y : MethodName} {bytes : ByteArray} {mx : Nat} {rt : Option FieldType} {a : Array Value} {s : State} {m : MethodId} {meth : Method} {c : Code} (h1 : s.methodNamed? y = some m) (h2 : s.vm.method? m = some meth) (h3 : meth.code = some c) (h4 : c.code = bytes)
    (h5 : (c.maxLocals == mx && c.exceptionTable.isEmpty && decide (c.maxStack ≤ mostOperands) && decide (meth.sig.returnType = rt) && !meth.locks && decide (parseMethodDescriptor y.desc = some meth.sig)) = true) : (Jvm.Cond.code y bytes mx rt).before a s = true := by
  simp only [Bool.and_eq_true, beq_iff_eq, Bool.not_eq_true', decide_eq_true_eq] at h5
  obtain ⟨⟨⟨⟨⟨g1, g2⟩, g3⟩, g4⟩, g5⟩, g6⟩ := h5
  simp [Cond.before, Cond.holds, Cond.value, h1, h2, h3, h4, g1, g2, g3, g4, g5, g6]
def isCode : Jvm.Cond → Bool
  | .code _ _ _ _ => true
  | _ => false
theorem all_split {L : List Jvm.Cond} {P : Jvm.Cond → Bool} (h1 : L.all (fun c => isCode c || P c) = true) (h2 : ∀ c ∈ L.filter isCode, P c = true) : L.all P = true := by
  refine List.all_eq_true.mpr fun c hc => ?_
  have h := List.all_eq_true.mp h1 c hc
  rcases Bool.eq_false_or_eq_true (isCode c) with hi | hi
  · exact h2 c (List.mem_filter.mpr ⟨hc, hi⟩)
  · simpa [hi] using h
set_option maxRecDepth 65536 in
theorem w_c0 : (Jvm.Cond.code x code maxLocals ret).before args0 about1 = true := code_word (m := ⟨1, 1⟩) (meth := k1m1) (c := k1c1) (by decide +kernel) rfl rfl rfl (by decide +kernel)
set_option maxRecDepth 65536 in
theorem w_c1 : (Jvm.Cond.code ({ cls := "com/example/flankline/flankline/rules/MovesLineUpPinLaw", name := "pick", desc := "(I)I" } : Jvm.MethodName) method_3_code (1 : Nat) (Option.some Jvm.ClassFile.FieldType.int)).before args0 about1 = true := code_word (m := ⟨1, 2⟩) (meth := k1m2) (c := k1c2) (by decide +kernel) rfl rfl rfl (by decide +kernel)
set_option maxRecDepth 65536 in
theorem w_c2 : (Jvm.Cond.code ({ cls := "com/example/flankline/flankline/rules/Moves", name := "lineUp", desc := "(JJJI)J" } : Jvm.MethodName) prog_34_method_4_code (9 : Nat) (Option.some Jvm.ClassFile.FieldType.long)).before args0 about1 = true := code_word (m := ⟨2, 1⟩) (meth := k2m1) (c := k2c1) (by decide +kernel) rfl rfl rfl (by decide +kernel)
def codes1 : List Jvm.Cond := [Jvm.Cond.code x code maxLocals ret, Jvm.Cond.code ({ cls := "com/example/flankline/flankline/rules/MovesLineUpPinLaw", name := "pick", desc := "(I)I" } : Jvm.MethodName) method_3_code (1 : Nat) (Option.some Jvm.ClassFile.FieldType.int), Jvm.Cond.code ({ cls := "com/example/flankline/flankline/rules/Moves", name := "lineUp", desc := "(JJJI)J" } : Jvm.MethodName) prog_34_method_4_code (9 : Nat) (Option.some Jvm.ClassFile.FieldType.long)]
set_option maxRecDepth 65536 in
theorem codes_eq : words1.filter isCode = codes1 := rfl
theorem w_codes : ∀ c ∈ words1.filter isCode, c.before args0 about1 = true := by
  rw [codes_eq]
  intro c hc
  simp only [codes1, List.mem_cons, List.not_mem_nil, or_false] at hc
  rcases hc with rfl | rfl | rfl
  · exact w_c0
  · exact w_c1
  · exact w_c2
set_option maxRecDepth 65536 in
theorem w_t1 : words1.all (fun c => isCode c || c.before args0 about1) = true := by decide +kernel
theorem w_tables : (allAtoms (Jvm.Cond.code x code maxLocals ret :: tables_1)).before args0 about1 = true := by
  rw [allAtoms_all]
  show words1.all (fun c => c.before args0 about1) = true
  refine all_split ?_ w_codes
  rw [w_t1]
set_option maxRecDepth 65536 in
theorem w_case : (Jvm.Cond.and given_1 narrow_1).before args0 about1 = true := by decide +kernel
theorem w_applies : (headSpec (Jvm.Cond.code x code maxLocals ret :: tables_1) room_1).applies x e0.platform about1 = true :=
  (Spec.applies_iff w_frames).mpr ⟨w_running, w_runnable, w_alone, w_named, w_hears, w_ripe, w_room, w_tables⟩
theorem atStart : AtStart classFile x code maxLocals ret World_1 tables_1 room_1 Calls_1 rest_1 Pre_1 launch0 p0 e0 about1 theMethod args0 below0 :=
  ⟨lists_1, trivial, launch0.admits_env _ _ _, launch0.least_env, fairChoices_fair.cas, fairChoices_fair.clock, w_frames, w_args, w_heap, w_applies, trivial, trivial, w_case⟩
end start1
theorem witness_1 : WitnessClaimed_1 := ⟨start1.p0, start1.e0, start1.about1, start1.theMethod, start1.args0, start1.below0, start1.atStart⟩
end Jvm.Pilot.@@N@@
