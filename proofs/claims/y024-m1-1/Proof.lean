import JvmDerived
import JvmDerived.Pilot.@@N@@Statement
import JvmDerived.Pilot.@@N@@Code
set_option linter.unusedVariables false
set_option linter.unusedSimpArgs false
namespace Jvm.OwnKit
open Sem ClassFile Op Lib Jvm.Stand Jvm.Free Jvm.LawKit Jvm.RoadKit
/-! My own layer: a walk forward. Done G S: from the state S the invocation comes to its end, and G holds there. -/
def Done (p : Program) (e : Env) (below : List Frame) (G : Outcome → State → Prop) (S : State) : Prop :=
  ∃ s₂ o, Steps p.tables e below S s₂ ∧ s₂.status = .running ∧ Ended s₂ below o ∧ G o s₂
/-- what a contract promises at the end: the value, the heap; all that was written lies at or above n0 -/
def OEnd (s : State) (R : Room) (n0 : Nat) (Q : Option Value → Heap → Prop) (o : Outcome) (U : State) : Prop :=
  ∃ v L, o = .returned v ∧ (Q v U.heap ∧ Fr n0 L) ∧ FrameEnd s o U L R.cells R.slots
/-- where the walk stands: a Stand whose writes lie at or above n0, and its heap -/
def St (p : Program) (l : Launch) (e : Env) (R : Room) (s : State) (m : MethodId) (args : Array Value) (below : List Frame) (meth : Method) (c : Code) (n0 : Nat) (T : State) (h : Heap) (k n : Nat) : Prop :=
  ∃ locs, Stand p l e R s m args below meth c T locs k n ∧ Fr n0 locs ∧ T.heap = h
/-- a contract of a body -/
def Con (l : Launch) (Z : State) (y : MethodName) (bytes : ByteArray) (maxL : Nat) (ret : Option FieldType) (rm : Room) (n0 : Nat) (h0 : Heap) (as' : Array Value) (Q : Option Value → Heap → Prop) : Prop :=
  ∀ ws : List Jvm.Cond, MetFree l y (head1 (Jvm.Cond.code y bytes maxL ret :: ws) rm) (fun a U => a = as' ∧ Z.Warmed39 U.vm ∧ U.heap = h0) (fun _ _ _ _ _ => True) (fun _ U o U' => OEnd U rm n0 Q o U')
section Walk
variable {p : Program} {l : Launch} {e : Env} {R : Room} {s : State} {m : MethodId} {args : Array Value} {below : List Frame} {meth : Method} {c : Code} {n0 : Nat} {T : State} {h : Heap} {k n : Nat} {Z : State} {a0 : Array Value}
variable {G : Outcome → State → Prop} {pc pc' : Nat} {Ls Ls' : Array Slot} {st : List Value}
theorem Done.go {S S' : State} (f : ∀ t, Steps p.tables e below S' t → Steps p.tables e below S t) (d : Done p e below G S') : Done p e below G S := by
  obtain ⟨s₂, o, h1, h2⟩ := d
  exact ⟨s₂, o, f _ h1, h2⟩
theorem St.here (S : St p l e R s m args below meth c n0 T h k n) : At T m c below := by
  obtain ⟨_, X, _⟩ := S
  exact X.here
theorem St.heap (S : St p l e R s m args below meth c n0 T h k n) : T.heap = h := by
  obtain ⟨_, _, _, q⟩ := S
  exact q
theorem St.more {k' n' : Nat} (S : St p l e R s m args below meth c n0 T h k n) (hk : k ≤ k') (hn : n ≤ n') : St p l e R s m args below meth c n0 T h k' n' := by
  obtain ⟨L, X, N, q⟩ := S
  exact ⟨L, X.more hk hn, N, q⟩
theorem Con.intro {y : MethodName} {bytes : ByteArray} {maxL : Nat} {ret : Option FieldType} {rm : Room} {h0 : Heap} {as' : Array Value} {Q : Option Value → Heap → Prop}
    (hp : plainFor y = true) (hef : ∀ m, entryFrame m as' maxL = mkF m 0 Ls [])
    (body : ∀ (p : Program) (e : Env) (s : State) (m : MethodId) (below : List Frame) (meth : Method) (c : Code) (s₁ : State), p.tables.exec = Jvm.exec → c.code = bytes → c.maxLocals = maxL → s.vm.findClass y.cls = some m.cls → meth.name = y.name →
      meth.sig.returnType = ret → meth.locks = false → Z.Warmed39 s.vm → St p l e rm s m as' below meth c n0 s₁ h0 0 0 → Done p e below (OEnd s rm n0 Q) (s₁.setTop (mkF m 0 Ls []))) :
    Con l Z y bytes maxL ret rm n0 h0 as' Q := by
  intro ws
  refine MetFree.of_bodySF hp hisR ?_
  intro p e s m args below meth c s₁ Bd hml0 hP hK
  obtain ⟨rfl, hZ, hh⟩ := hP
  have hr := body p e s m below meth c s₁ Bd.exec Bd.bytes hml0 (findClass_of_methodNamed Bd.named) (name_of_methodNamed Bd.named Bd.method).1 Bd.returns Bd.notSynchronized hZ ⟨[], Stand.of_body Bd, Fr.nil n0, by rw [← hh, Bd.state]; rfl⟩
  rw [← hef m] at hr
  exact hr
/-! ### single steps -/
theorem k_iload (A : At T m c below) (hx : p.tables.exec = Jvm.exec) {i : Nat} {v : Int32} (hd : decode c.code pc = .ok (.iload i, 2)) (hl : Ls[i]? = some (.val (.int v))) (hp : pc + 2 = pc')
    (K : Done p e below G (T.setTop (mkF m pc' Ls (.int v :: st)))) : Done p e below G (T.setTop (mkF m pc Ls st)) := by
  subst hp; exact Done.go (fun t q => XS.iload A hx rfl hd hl q) K
theorem k_iloadN (A : At T m c below) (hx : p.tables.exec = Jvm.exec) {i : Fin 4} {v : Int32} (hd : decode c.code pc = .ok (.iload_n i, 1)) (hl : Ls[i.val]? = some (.val (.int v))) (hp : pc + 1 = pc')
    (K : Done p e below G (T.setTop (mkF m pc' Ls (.int v :: st)))) : Done p e below G (T.setTop (mkF m pc Ls st)) := by
  subst hp; exact Done.go (fun t q => XS.iloadN A hx rfl hd hl q) K
theorem k_istore (A : At T m c below) (hx : p.tables.exec = Jvm.exec) {i : Nat} {v : Int32} (hd : decode c.code pc = .ok (.istore i, 2)) (hl : storeLocals Ls i (.int v) = some Ls') (hp : pc + 2 = pc')
    (K : Done p e below G (T.setTop (mkF m pc' Ls' st))) : Done p e below G (T.setTop (mkF m pc Ls (.int v :: st))) := by
  subst hp; exact Done.go (fun t q => XS.istore A hx rfl hd rfl hl q) K
theorem k_istoreN (A : At T m c below) (hx : p.tables.exec = Jvm.exec) {i : Fin 4} {v : Int32} (hd : decode c.code pc = .ok (.istore_n i, 1)) (hl : storeLocals Ls i.val (.int v) = some Ls') (hp : pc + 1 = pc')
    (K : Done p e below G (T.setTop (mkF m pc' Ls' st))) : Done p e below G (T.setTop (mkF m pc Ls (.int v :: st))) := by
  subst hp; exact Done.go (fun t q => XS.istoreN A hx rfl hd rfl hl q) K
theorem k_lload (A : At T m c below) (hx : p.tables.exec = Jvm.exec) {i : Nat} {v : Int64} (hd : decode c.code pc = .ok (.lload i, 2)) (hl : Ls[i]? = some (.val (.long v))) (hp : pc + 2 = pc')
    (K : Done p e below G (T.setTop (mkF m pc' Ls (.long v :: st)))) : Done p e below G (T.setTop (mkF m pc Ls st)) := by
  subst hp; exact Done.go (fun t q => XS.lload A hx rfl hd hl q) K
theorem k_lloadN (A : At T m c below) (hx : p.tables.exec = Jvm.exec) {i : Fin 4} {v : Int64} (hd : decode c.code pc = .ok (.lload_n i, 1)) (hl : Ls[i.val]? = some (.val (.long v))) (hp : pc + 1 = pc')
    (K : Done p e below G (T.setTop (mkF m pc' Ls (.long v :: st)))) : Done p e below G (T.setTop (mkF m pc Ls st)) := by
  subst hp; exact Done.go (fun t q => XS.lloadN A hx rfl hd hl q) K
theorem k_lstore (A : At T m c below) (hx : p.tables.exec = Jvm.exec) {i : Nat} {v : Int64} (hd : decode c.code pc = .ok (.lstore i, 2)) (hl : storeLocals Ls i (.long v) = some Ls') (hp : pc + 2 = pc')
    (K : Done p e below G (T.setTop (mkF m pc' Ls' st))) : Done p e below G (T.setTop (mkF m pc Ls (.long v :: st))) := by
  subst hp; exact Done.go (fun t q => XS.lstore A hx rfl hd rfl hl q) K
theorem k_lstoreN (A : At T m c below) (hx : p.tables.exec = Jvm.exec) {i : Fin 4} {v : Int64} (hd : decode c.code pc = .ok (.lstore_n i, 1)) (hl : storeLocals Ls i.val (.long v) = some Ls') (hp : pc + 1 = pc')
    (K : Done p e below G (T.setTop (mkF m pc' Ls' st))) : Done p e below G (T.setTop (mkF m pc Ls (.long v :: st))) := by
  subst hp; exact Done.go (fun t q => XS.lstoreN A hx rfl hd rfl hl q) K
theorem k_aload (A : At T m c below) (hx : p.tables.exec = Jvm.exec) {i : Nat} {v : Value} (hd : decode c.code pc = .ok (.aload i, 2)) (hl : Ls[i]? = some (.val v)) (hv : v.isRef = true) (hp : pc + 2 = pc')
    (K : Done p e below G (T.setTop (mkF m pc' Ls (v :: st)))) : Done p e below G (T.setTop (mkF m pc Ls st)) := by
  subst hp; exact Done.go (fun t q => XS.aload A hx rfl hd hl hv q) K
theorem k_aloadN (A : At T m c below) (hx : p.tables.exec = Jvm.exec) {i : Fin 4} {v : Value} (hd : decode c.code pc = .ok (.aload_n i, 1)) (hl : Ls[i.val]? = some (.val v)) (hv : v.isRef = true) (hp : pc + 1 = pc')
    (K : Done p e below G (T.setTop (mkF m pc' Ls (v :: st)))) : Done p e below G (T.setTop (mkF m pc Ls st)) := by
  subst hp; exact Done.go (fun t q => XS.aloadN A hx rfl hd hl hv q) K
theorem k_astore (A : At T m c below) (hx : p.tables.exec = Jvm.exec) {i : Nat} {v : Value} (hd : decode c.code pc = .ok (.astore i, 2)) (hv : v.isRef = true) (hl : storeLocals Ls i v = some Ls') (hp : pc + 2 = pc')
    (K : Done p e below G (T.setTop (mkF m pc' Ls' st))) : Done p e below G (T.setTop (mkF m pc Ls (v :: st))) := by
  subst hp; exact Done.go (fun t q => XS.astore A hx rfl hd rfl hv hl q) K
theorem k_astoreN (A : At T m c below) (hx : p.tables.exec = Jvm.exec) {i : Fin 4} {v : Value} (hd : decode c.code pc = .ok (.astore_n i, 1)) (hv : v.isRef = true) (hl : storeLocals Ls i.val v = some Ls') (hp : pc + 1 = pc')
    (K : Done p e below G (T.setTop (mkF m pc' Ls' st))) : Done p e below G (T.setTop (mkF m pc Ls (v :: st))) := by
  subst hp; exact Done.go (fun t q => XS.astoreN A hx rfl hd rfl hv hl q) K
theorem k_iconst (A : At T m c below) (hx : p.tables.exec = Jvm.exec) {i : Int} {v : Int32} (hd : decode c.code pc = .ok (.iconst i, 1)) (hv : Int32.ofInt i = v) (hp : pc + 1 = pc')
    (K : Done p e below G (T.setTop (mkF m pc' Ls (.int v :: st)))) : Done p e below G (T.setTop (mkF m pc Ls st)) := by
  subst hp hv; exact Done.go (fun t q => XS.iconst A hx rfl hd q) K
theorem k_bipush (A : At T m c below) (hx : p.tables.exec = Jvm.exec) {i : Int} {v : Int32} (hd : decode c.code pc = .ok (.bipush i, 2)) (hv : (Int8.ofInt i).toInt32 = v) (hp : pc + 2 = pc')
    (K : Done p e below G (T.setTop (mkF m pc' Ls (.int v :: st)))) : Done p e below G (T.setTop (mkF m pc Ls st)) := by
  subst hp hv; exact Done.go (fun t q => XS.bipush A hx rfl hd q) K
theorem k_sipush (A : At T m c below) (hx : p.tables.exec = Jvm.exec) {i : Int} {v : Int32} (hd : decode c.code pc = .ok (.sipush i, 3)) (hv : (Int16.ofInt i).toInt32 = v) (hp : pc + 3 = pc')
    (K : Done p e below G (T.setTop (mkF m pc' Ls (.int v :: st)))) : Done p e below G (T.setTop (mkF m pc Ls st)) := by
  subst hp hv; exact Done.go (fun t q => XS.sipush A hx rfl hd q) K
theorem k_lconst (A : At T m c below) (hx : p.tables.exec = Jvm.exec) {i : Fin 2} {v : Int64} (hd : decode c.code pc = .ok (.lconst i, 1)) (hv : Int64.ofNat i = v) (hp : pc + 1 = pc')
    (K : Done p e below G (T.setTop (mkF m pc' Ls (.long v :: st)))) : Done p e below G (T.setTop (mkF m pc Ls st)) := by
  subst hp hv; exact Done.go (fun t q => XS.lconst A hx rfl hd q) K
theorem k_aconstNull (A : At T m c below) (hx : p.tables.exec = Jvm.exec)  (hd : decode c.code pc = .ok (.aconst_null, 1)) (hp : pc + 1 = pc')
    (K : Done p e below G (T.setTop (mkF m pc' Ls (.null :: st)))) : Done p e below G (T.setTop (mkF m pc Ls st)) := by
  subst hp; exact Done.go (fun t q => XS.aconstNull A hx rfl hd q) K
theorem k_dup (A : At T m c below) (hx : p.tables.exec = Jvm.exec) {v : Value} (hd : decode c.code pc = .ok (.dup, 1)) (hv : v.category = 1) (hp : pc + 1 = pc')
    (K : Done p e below G (T.setTop (mkF m pc' Ls (v :: v :: st)))) : Done p e below G (T.setTop (mkF m pc Ls (v :: st))) := by
  subst hp; exact Done.go (fun t q => XS.dup A hx rfl hd rfl hv q) K
theorem k_pop (A : At T m c below) (hx : p.tables.exec = Jvm.exec) {v : Value} (hd : decode c.code pc = .ok (.pop, 1)) (hv : v.category = 1) (hp : pc + 1 = pc')
    (K : Done p e below G (T.setTop (mkF m pc' Ls st))) : Done p e below G (T.setTop (mkF m pc Ls (v :: st))) := by
  subst hp; exact Done.go (fun t q => XS.pop A hx rfl hd rfl hv q) K
theorem k_dupX1 (A : At T m c below) (hx : p.tables.exec = Jvm.exec) {v w : Value} (hd : decode c.code pc = .ok (.dup_x1, 1)) (hv : v.category = 1) (hw : w.category = 1) (hp : pc + 1 = pc')
    (K : Done p e below G (T.setTop (mkF m pc' Ls (v :: w :: v :: st)))) : Done p e below G (T.setTop (mkF m pc Ls (v :: w :: st))) := by
  subst hp; exact Done.go (fun t q => XS.dupX1 A hx rfl hd rfl hv hw q) K
theorem k_iadd (A : At T m c below) (hx : p.tables.exec = Jvm.exec) {x y : Int32} (hd : decode c.code pc = .ok (.iadd, 1)) (hp : pc + 1 = pc')
    (K : Done p e below G (T.setTop (mkF m pc' Ls (.int (x + y) :: st)))) : Done p e below G (T.setTop (mkF m pc Ls (.int y :: .int x :: st))) := by
  subst hp; exact Done.go (fun t q => XS.iadd A hx rfl hd rfl q) K
theorem k_isub (A : At T m c below) (hx : p.tables.exec = Jvm.exec) {x y : Int32} (hd : decode c.code pc = .ok (.isub, 1)) (hp : pc + 1 = pc')
    (K : Done p e below G (T.setTop (mkF m pc' Ls (.int (x - y) :: st)))) : Done p e below G (T.setTop (mkF m pc Ls (.int y :: .int x :: st))) := by
  subst hp; exact Done.go (fun t q => XS.isub A hx rfl hd rfl q) K
theorem k_imul (A : At T m c below) (hx : p.tables.exec = Jvm.exec) {x y : Int32} (hd : decode c.code pc = .ok (.imul, 1)) (hp : pc + 1 = pc')
    (K : Done p e below G (T.setTop (mkF m pc' Ls (.int (x * y) :: st)))) : Done p e below G (T.setTop (mkF m pc Ls (.int y :: .int x :: st))) := by
  subst hp; exact Done.go (fun t q => XS.imul A hx rfl hd rfl q) K
theorem k_iand (A : At T m c below) (hx : p.tables.exec = Jvm.exec) {x y : Int32} (hd : decode c.code pc = .ok (.iand, 1)) (hp : pc + 1 = pc')
    (K : Done p e below G (T.setTop (mkF m pc' Ls (.int (x &&& y) :: st)))) : Done p e below G (T.setTop (mkF m pc Ls (.int y :: .int x :: st))) := by
  subst hp; exact Done.go (fun t q => XS.iand A hx rfl hd rfl q) K
theorem k_ior (A : At T m c below) (hx : p.tables.exec = Jvm.exec) {x y : Int32} (hd : decode c.code pc = .ok (.ior, 1)) (hp : pc + 1 = pc')
    (K : Done p e below G (T.setTop (mkF m pc' Ls (.int (x ||| y) :: st)))) : Done p e below G (T.setTop (mkF m pc Ls (.int y :: .int x :: st))) := by
  subst hp; exact Done.go (fun t q => XS.ior A hx rfl hd rfl q) K
theorem k_ixor (A : At T m c below) (hx : p.tables.exec = Jvm.exec) {x y : Int32} (hd : decode c.code pc = .ok (.ixor, 1)) (hp : pc + 1 = pc')
    (K : Done p e below G (T.setTop (mkF m pc' Ls (.int (x ^^^ y) :: st)))) : Done p e below G (T.setTop (mkF m pc Ls (.int y :: .int x :: st))) := by
  subst hp; exact Done.go (fun t q => XS.ixor A hx rfl hd rfl q) K
theorem k_ishl (A : At T m c below) (hx : p.tables.exec = Jvm.exec) {x y : Int32} (hd : decode c.code pc = .ok (.ishl, 1)) (hp : pc + 1 = pc')
    (K : Done p e below G (T.setTop (mkF m pc' Ls (.int (x <<< (y &&& 31)) :: st)))) : Done p e below G (T.setTop (mkF m pc Ls (.int y :: .int x :: st))) := by
  subst hp; exact Done.go (fun t q => XS.ishl A hx rfl hd rfl q) K
theorem k_ishr (A : At T m c below) (hx : p.tables.exec = Jvm.exec) {x y : Int32} (hd : decode c.code pc = .ok (.ishr, 1)) (hp : pc + 1 = pc')
    (K : Done p e below G (T.setTop (mkF m pc' Ls (.int (x >>> (y &&& 31)) :: st)))) : Done p e below G (T.setTop (mkF m pc Ls (.int y :: .int x :: st))) := by
  subst hp; exact Done.go (fun t q => XS.ishr A hx rfl hd rfl q) K
theorem k_iushr (A : At T m c below) (hx : p.tables.exec = Jvm.exec) {x y : Int32} (hd : decode c.code pc = .ok (.iushr, 1)) (hp : pc + 1 = pc')
    (K : Done p e below G (T.setTop (mkF m pc' Ls (.int ((x.toUInt32 >>> (y &&& 31).toUInt32).toInt32) :: st)))) : Done p e below G (T.setTop (mkF m pc Ls (.int y :: .int x :: st))) := by
  subst hp; exact Done.go (fun t q => XS.iushr A hx rfl hd rfl q) K
theorem k_ladd (A : At T m c below) (hx : p.tables.exec = Jvm.exec) {x y : Int64} (hd : decode c.code pc = .ok (.ladd, 1)) (hp : pc + 1 = pc')
    (K : Done p e below G (T.setTop (mkF m pc' Ls (.long (x + y) :: st)))) : Done p e below G (T.setTop (mkF m pc Ls (.long y :: .long x :: st))) := by
  subst hp; exact Done.go (fun t q => XS.ladd A hx rfl hd rfl q) K
theorem k_lsub (A : At T m c below) (hx : p.tables.exec = Jvm.exec) {x y : Int64} (hd : decode c.code pc = .ok (.lsub, 1)) (hp : pc + 1 = pc')
    (K : Done p e below G (T.setTop (mkF m pc' Ls (.long (x - y) :: st)))) : Done p e below G (T.setTop (mkF m pc Ls (.long y :: .long x :: st))) := by
  subst hp; exact Done.go (fun t q => XS.lsub A hx rfl hd rfl q) K
theorem k_lmul (A : At T m c below) (hx : p.tables.exec = Jvm.exec) {x y : Int64} (hd : decode c.code pc = .ok (.lmul, 1)) (hp : pc + 1 = pc')
    (K : Done p e below G (T.setTop (mkF m pc' Ls (.long (x * y) :: st)))) : Done p e below G (T.setTop (mkF m pc Ls (.long y :: .long x :: st))) := by
  subst hp; exact Done.go (fun t q => XS.lmul A hx rfl hd rfl q) K
theorem k_land (A : At T m c below) (hx : p.tables.exec = Jvm.exec) {x y : Int64} (hd : decode c.code pc = .ok (.land, 1)) (hp : pc + 1 = pc')
    (K : Done p e below G (T.setTop (mkF m pc' Ls (.long (x &&& y) :: st)))) : Done p e below G (T.setTop (mkF m pc Ls (.long y :: .long x :: st))) := by
  subst hp; exact Done.go (fun t q => XS.land A hx rfl hd rfl q) K
theorem k_lor (A : At T m c below) (hx : p.tables.exec = Jvm.exec) {x y : Int64} (hd : decode c.code pc = .ok (.lor, 1)) (hp : pc + 1 = pc')
    (K : Done p e below G (T.setTop (mkF m pc' Ls (.long (x ||| y) :: st)))) : Done p e below G (T.setTop (mkF m pc Ls (.long y :: .long x :: st))) := by
  subst hp; exact Done.go (fun t q => XS.lor A hx rfl hd rfl q) K
theorem k_lxor (A : At T m c below) (hx : p.tables.exec = Jvm.exec) {x y : Int64} (hd : decode c.code pc = .ok (.lxor, 1)) (hp : pc + 1 = pc')
    (K : Done p e below G (T.setTop (mkF m pc' Ls (.long (x ^^^ y) :: st)))) : Done p e below G (T.setTop (mkF m pc Ls (.long y :: .long x :: st))) := by
  subst hp; exact Done.go (fun t q => XS.lxor A hx rfl hd rfl q) K
theorem k_lshl (A : At T m c below) (hx : p.tables.exec = Jvm.exec) {x : Int64} {y : Int32} (hd : decode c.code pc = .ok (.lshl, 1)) (hp : pc + 1 = pc')
    (K : Done p e below G (T.setTop (mkF m pc' Ls (.long (x <<< (y &&& 0x3f).toInt64) :: st)))) : Done p e below G (T.setTop (mkF m pc Ls (.int y :: .long x :: st))) := by
  subst hp; exact Done.go (fun t q => XS.lshl A hx rfl hd rfl q) K
theorem k_lshr (A : At T m c below) (hx : p.tables.exec = Jvm.exec) {x : Int64} {y : Int32} (hd : decode c.code pc = .ok (.lshr, 1)) (hp : pc + 1 = pc')
    (K : Done p e below G (T.setTop (mkF m pc' Ls (.long (x >>> (y &&& 0x3f).toInt64) :: st)))) : Done p e below G (T.setTop (mkF m pc Ls (.int y :: .long x :: st))) := by
  subst hp; exact Done.go (fun t q => XS.lshr A hx rfl hd rfl q) K
theorem k_lushr (A : At T m c below) (hx : p.tables.exec = Jvm.exec) {x : Int64} {y : Int32} (hd : decode c.code pc = .ok (.lushr, 1)) (hp : pc + 1 = pc')
    (K : Done p e below G (T.setTop (mkF m pc' Ls (.long ((x.toUInt64 >>> (y &&& 0x3f).toInt64.toUInt64).toInt64) :: st)))) : Done p e below G (T.setTop (mkF m pc Ls (.int y :: .long x :: st))) := by
  subst hp; exact Done.go (fun t q => XS.lushr A hx rfl hd rfl q) K
theorem k_idiv (A : At T m c below) (hx : p.tables.exec = Jvm.exec) {x y : Int32} (hd : decode c.code pc = .ok (.idiv, 1)) (hy : y ≠ 0) (hp : pc + 1 = pc')
    (K : Done p e below G (T.setTop (mkF m pc' Ls (.int (x / y) :: st)))) : Done p e below G (T.setTop (mkF m pc Ls (.int y :: .int x :: st))) := by
  subst hp; exact Done.go (fun t q => XS.idiv A hx rfl hd rfl hy q) K
theorem k_ldiv (A : At T m c below) (hx : p.tables.exec = Jvm.exec) {x y : Int64} (hd : decode c.code pc = .ok (.ldiv, 1)) (hy : y ≠ 0) (hp : pc + 1 = pc')
    (K : Done p e below G (T.setTop (mkF m pc' Ls (.long (x / y) :: st)))) : Done p e below G (T.setTop (mkF m pc Ls (.long y :: .long x :: st))) := by
  subst hp; exact Done.go (fun t q => XS.ldiv A hx rfl hd rfl hy q) K
theorem k_irem (A : At T m c below) (hx : p.tables.exec = Jvm.exec) {x y : Int32} (hd : decode c.code pc = .ok (.irem, 1)) (hy : y ≠ 0) (hp : pc + 1 = pc')
    (K : Done p e below G (T.setTop (mkF m pc' Ls (.int (x % y) :: st)))) : Done p e below G (T.setTop (mkF m pc Ls (.int y :: .int x :: st))) := by
  subst hp; have q0 : x - x / y * y = x % y := irem_eq_mod x y
  rw [← q0] at K
  exact Done.go (fun t q => XS.irem A hx rfl hd rfl hy q) K
theorem k_lrem (A : At T m c below) (hx : p.tables.exec = Jvm.exec) {x y : Int64} (hd : decode c.code pc = .ok (.lrem, 1)) (hy : y ≠ 0) (hp : pc + 1 = pc')
    (K : Done p e below G (T.setTop (mkF m pc' Ls (.long (x % y) :: st)))) : Done p e below G (T.setTop (mkF m pc Ls (.long y :: .long x :: st))) := by
  subst hp
  rw [← lrem_mod x y] at K
  exact Done.go (fun t q => XS.lrem A hx rfl hd rfl hy q) K
theorem k_lcmp (A : At T m c below) (hx : p.tables.exec = Jvm.exec) {x y : Int64} (hd : decode c.code pc = .ok (.lcmp, 1)) (hp : pc + 1 = pc')
    (K : Done p e below G (T.setTop (mkF m pc' Ls (.int (lcmpW x y) :: st)))) : Done p e below G (T.setTop (mkF m pc Ls (.long y :: .long x :: st))) := by
  subst hp; exact Done.go (fun t q => XS.lcmp A hx rfl hd rfl q) K
theorem k_ineg (A : At T m c below) (hx : p.tables.exec = Jvm.exec) {x : Int32} (hd : decode c.code pc = .ok (.ineg, 1)) (hp : pc + 1 = pc')
    (K : Done p e below G (T.setTop (mkF m pc' Ls (.int (-x) :: st)))) : Done p e below G (T.setTop (mkF m pc Ls (.int x :: st))) := by
  subst hp; exact Done.go (fun t q => XS.ineg A hx rfl hd rfl q) K
theorem k_lneg (A : At T m c below) (hx : p.tables.exec = Jvm.exec) {x : Int64} (hd : decode c.code pc = .ok (.lneg, 1)) (hp : pc + 1 = pc')
    (K : Done p e below G (T.setTop (mkF m pc' Ls (.long (-x) :: st)))) : Done p e below G (T.setTop (mkF m pc Ls (.long x :: st))) := by
  subst hp; exact Done.go (fun t q => XS.lneg A hx rfl hd rfl q) K
theorem k_i2l (A : At T m c below) (hx : p.tables.exec = Jvm.exec) {x : Int32} (hd : decode c.code pc = .ok (.i2l, 1)) (hp : pc + 1 = pc')
    (K : Done p e below G (T.setTop (mkF m pc' Ls (.long (x.toInt64) :: st)))) : Done p e below G (T.setTop (mkF m pc Ls (.int x :: st))) := by
  subst hp; exact Done.go (fun t q => XS.i2l A hx rfl hd rfl q) K
theorem k_l2i (A : At T m c below) (hx : p.tables.exec = Jvm.exec) {x : Int64} (hd : decode c.code pc = .ok (.l2i, 1)) (hp : pc + 1 = pc')
    (K : Done p e below G (T.setTop (mkF m pc' Ls (.int (x.toInt32) :: st)))) : Done p e below G (T.setTop (mkF m pc Ls (.long x :: st))) := by
  subst hp; exact Done.go (fun t q => XS.l2i A hx rfl hd rfl q) K
theorem k_i2b (A : At T m c below) (hx : p.tables.exec = Jvm.exec) {x : Int32} (hd : decode c.code pc = .ok (.i2b, 1)) (hp : pc + 1 = pc')
    (K : Done p e below G (T.setTop (mkF m pc' Ls (.int (x.toInt8.toInt32) :: st)))) : Done p e below G (T.setTop (mkF m pc Ls (.int x :: st))) := by
  subst hp; exact Done.go (fun t q => XS.i2b A hx rfl hd rfl q) K
theorem k_i2c (A : At T m c below) (hx : p.tables.exec = Jvm.exec) {x : Int32} (hd : decode c.code pc = .ok (.i2c, 1)) (hp : pc + 1 = pc')
    (K : Done p e below G (T.setTop (mkF m pc' Ls (.int (x.toUInt32.toUInt16.toUInt32.toInt32) :: st)))) : Done p e below G (T.setTop (mkF m pc Ls (.int x :: st))) := by
  subst hp; exact Done.go (fun t q => XS.i2c A hx rfl hd rfl q) K
theorem k_i2s (A : At T m c below) (hx : p.tables.exec = Jvm.exec) {x : Int32} (hd : decode c.code pc = .ok (.i2s, 1)) (hp : pc + 1 = pc')
    (K : Done p e below G (T.setTop (mkF m pc' Ls (.int (x.toInt16.toInt32) :: st)))) : Done p e below G (T.setTop (mkF m pc Ls (.int x :: st))) := by
  subst hp; exact Done.go (fun t q => XS.i2s A hx rfl hd rfl q) K
theorem k_iinc (A : At T m c below) (hx : p.tables.exec = Jvm.exec) {i : Nat} {cst : Int} {v : Int32} (hd : decode c.code pc = .ok (.iinc i cst, 3)) (hl : Ls[i]? = some (.val (.int v))) (hs : storeLocals Ls i (.int (v + Int32.ofInt cst)) = some Ls') (hp : pc + 3 = pc')
    (K : Done p e below G (T.setTop (mkF m pc' Ls' st))) : Done p e below G (T.setTop (mkF m pc Ls st)) := by
  subst hp; exact Done.go (fun t q => XS.iinc A hx rfl hd hl hs q) K
theorem k_goto (A : At T m c below) (hx : p.tables.exec = Jvm.exec) {o : Int} (hd : decode c.code pc = .ok (.goto o, 3)) (hp : (pc : Int) + o = (pc' : Int))
    (K : Done p e below G (T.setTop (mkF m pc' Ls st))) : Done p e below G (T.setTop (mkF m pc Ls st)) :=
  Done.go (fun t q => XS.goto A hx rfl (pc0 := pc) (pc' := pc') rfl hd (by omega) (by omega) q) K
theorem k_ifnullYes (A : At T m c below) (hx : p.tables.exec = Jvm.exec) {o : Int} (hd : decode c.code pc = .ok (.ifnull o, 3)) (hp : (pc : Int) + o = (pc' : Int))
    (K : Done p e below G (T.setTop (mkF m pc' Ls st))) : Done p e below G (T.setTop (mkF m pc Ls (.null :: st))) :=
  Done.go (fun t q => XS.ifnullYes A hx rfl (pc0 := pc) (pc' := pc') rfl hd rfl (by omega) (by omega) q) K
theorem k_ifnonnullYes (A : At T m c below) (hx : p.tables.exec = Jvm.exec) {o : Int} {b : Addr} (hd : decode c.code pc = .ok (.ifnonnull o, 3)) (hp : (pc : Int) + o = (pc' : Int))
    (K : Done p e below G (T.setTop (mkF m pc' Ls st))) : Done p e below G (T.setTop (mkF m pc Ls (.ref b :: st))) :=
  Done.go (fun t q => XS.ifnonnullYes A hx rfl (pc0 := pc) (pc' := pc') rfl hd rfl (by omega) (by omega) q) K
theorem k_ifnullNo (A : At T m c below) (hx : p.tables.exec = Jvm.exec) {o : Int} {b : Addr} (hd : decode c.code pc = .ok (.ifnull o, 3)) (hp : pc + 3 = pc')
    (K : Done p e below G (T.setTop (mkF m pc' Ls st))) : Done p e below G (T.setTop (mkF m pc Ls (.ref b :: st))) := by
  subst hp; exact Done.go (fun t q => XS.ifnullNo A hx rfl hd rfl q) K
theorem k_ifnonnullNo (A : At T m c below) (hx : p.tables.exec = Jvm.exec) {o : Int} (hd : decode c.code pc = .ok (.ifnonnull o, 3)) (hp : pc + 3 = pc')
    (K : Done p e below G (T.setTop (mkF m pc' Ls st))) : Done p e below G (T.setTop (mkF m pc Ls (.null :: st))) := by
  subst hp; exact Done.go (fun t q => XS.ifnonnullNo A hx rfl hd rfl q) K
theorem k_icmp_lt (A : At T m c below) (hx : p.tables.exec = Jvm.exec) {x y : Int32} {o : Int} {pcY : Nat} (hd : decode c.code pc = .ok (.if_icmp .lt o, 3)) (hY : (pc : Int) + o = (pcY : Int)) (hp : pc + 3 = pc')
    (KY : x < y → Done p e below G (T.setTop (mkF m pcY Ls st))) (KN : ¬ x < y → Done p e below G (T.setTop (mkF m pc' Ls st))) : Done p e below G (T.setTop (mkF m pc Ls (.int y :: .int x :: st))) := by
  subst hp
  by_cases hc : x < y
  · exact Done.go (fun t q => XS.icmpYes A hx rfl (pc0 := pc) (pc' := pcY) rfl hd rfl (tlt hc).1 (by omega) (by omega) q) (KY hc)
  · exact Done.go (fun t q => XS.icmpNo A hx rfl hd rfl (flt hc).1 q) (KN hc)
theorem k_if_lt (A : At T m c below) (hx : p.tables.exec = Jvm.exec) {x : Int32} {o : Int} {pcY : Nat} (hd : decode c.code pc = .ok (.ifCond .lt o, 3)) (hY : (pc : Int) + o = (pcY : Int)) (hp : pc + 3 = pc')
    (KY : x < 0 → Done p e below G (T.setTop (mkF m pcY Ls st))) (KN : ¬ x < 0 → Done p e below G (T.setTop (mkF m pc' Ls st))) : Done p e below G (T.setTop (mkF m pc Ls (.int x :: st))) := by
  subst hp
  by_cases hc : x < 0
  · exact Done.go (fun t q => XS.ifYes A hx rfl (pc0 := pc) (pc' := pcY) rfl hd rfl ((if0 _ _).trans (tlt hc).1) (by omega) (by omega) q) (KY hc)
  · exact Done.go (fun t q => XS.ifNo A hx rfl hd rfl ((if0 _ _).trans (flt hc).1) q) (KN hc)
theorem k_icmp_ge (A : At T m c below) (hx : p.tables.exec = Jvm.exec) {x y : Int32} {o : Int} {pcY : Nat} (hd : decode c.code pc = .ok (.if_icmp .ge o, 3)) (hY : (pc : Int) + o = (pcY : Int)) (hp : pc + 3 = pc')
    (KY : ¬ x < y → Done p e below G (T.setTop (mkF m pcY Ls st))) (KN : x < y → Done p e below G (T.setTop (mkF m pc' Ls st))) : Done p e below G (T.setTop (mkF m pc Ls (.int y :: .int x :: st))) := by
  subst hp
  by_cases hc : x < y
  · exact Done.go (fun t q => XS.icmpNo A hx rfl hd rfl (tlt hc).2.1 q) (KN hc)
  · exact Done.go (fun t q => XS.icmpYes A hx rfl (pc0 := pc) (pc' := pcY) rfl hd rfl (flt hc).2.1 (by omega) (by omega) q) (KY hc)
theorem k_if_ge (A : At T m c below) (hx : p.tables.exec = Jvm.exec) {x : Int32} {o : Int} {pcY : Nat} (hd : decode c.code pc = .ok (.ifCond .ge o, 3)) (hY : (pc : Int) + o = (pcY : Int)) (hp : pc + 3 = pc')
    (KY : ¬ x < 0 → Done p e below G (T.setTop (mkF m pcY Ls st))) (KN : x < 0 → Done p e below G (T.setTop (mkF m pc' Ls st))) : Done p e below G (T.setTop (mkF m pc Ls (.int x :: st))) := by
  subst hp
  by_cases hc : x < 0
  · exact Done.go (fun t q => XS.ifNo A hx rfl hd rfl ((if0 _ _).trans (tlt hc).2.1) q) (KN hc)
  · exact Done.go (fun t q => XS.ifYes A hx rfl (pc0 := pc) (pc' := pcY) rfl hd rfl ((if0 _ _).trans (flt hc).2.1) (by omega) (by omega) q) (KY hc)
theorem k_icmp_gt (A : At T m c below) (hx : p.tables.exec = Jvm.exec) {x y : Int32} {o : Int} {pcY : Nat} (hd : decode c.code pc = .ok (.if_icmp .gt o, 3)) (hY : (pc : Int) + o = (pcY : Int)) (hp : pc + 3 = pc')
    (KY : y < x → Done p e below G (T.setTop (mkF m pcY Ls st))) (KN : ¬ y < x → Done p e below G (T.setTop (mkF m pc' Ls st))) : Done p e below G (T.setTop (mkF m pc Ls (.int y :: .int x :: st))) := by
  subst hp
  by_cases hc : y < x
  · exact Done.go (fun t q => XS.icmpYes A hx rfl (pc0 := pc) (pc' := pcY) rfl hd rfl (tlt hc).2.2.1 (by omega) (by omega) q) (KY hc)
  · exact Done.go (fun t q => XS.icmpNo A hx rfl hd rfl (flt hc).2.2.1 q) (KN hc)
theorem k_if_gt (A : At T m c below) (hx : p.tables.exec = Jvm.exec) {x : Int32} {o : Int} {pcY : Nat} (hd : decode c.code pc = .ok (.ifCond .gt o, 3)) (hY : (pc : Int) + o = (pcY : Int)) (hp : pc + 3 = pc')
    (KY : 0 < x → Done p e below G (T.setTop (mkF m pcY Ls st))) (KN : ¬ 0 < x → Done p e below G (T.setTop (mkF m pc' Ls st))) : Done p e below G (T.setTop (mkF m pc Ls (.int x :: st))) := by
  subst hp
  by_cases hc : 0 < x
  · exact Done.go (fun t q => XS.ifYes A hx rfl (pc0 := pc) (pc' := pcY) rfl hd rfl ((if0 _ _).trans (tlt hc).2.2.1) (by omega) (by omega) q) (KY hc)
  · exact Done.go (fun t q => XS.ifNo A hx rfl hd rfl ((if0 _ _).trans (flt hc).2.2.1) q) (KN hc)
theorem k_icmp_le (A : At T m c below) (hx : p.tables.exec = Jvm.exec) {x y : Int32} {o : Int} {pcY : Nat} (hd : decode c.code pc = .ok (.if_icmp .le o, 3)) (hY : (pc : Int) + o = (pcY : Int)) (hp : pc + 3 = pc')
    (KY : ¬ y < x → Done p e below G (T.setTop (mkF m pcY Ls st))) (KN : y < x → Done p e below G (T.setTop (mkF m pc' Ls st))) : Done p e below G (T.setTop (mkF m pc Ls (.int y :: .int x :: st))) := by
  subst hp
  by_cases hc : y < x
  · exact Done.go (fun t q => XS.icmpNo A hx rfl hd rfl (tlt hc).2.2.2 q) (KN hc)
  · exact Done.go (fun t q => XS.icmpYes A hx rfl (pc0 := pc) (pc' := pcY) rfl hd rfl (flt hc).2.2.2 (by omega) (by omega) q) (KY hc)
theorem k_if_le (A : At T m c below) (hx : p.tables.exec = Jvm.exec) {x : Int32} {o : Int} {pcY : Nat} (hd : decode c.code pc = .ok (.ifCond .le o, 3)) (hY : (pc : Int) + o = (pcY : Int)) (hp : pc + 3 = pc')
    (KY : ¬ 0 < x → Done p e below G (T.setTop (mkF m pcY Ls st))) (KN : 0 < x → Done p e below G (T.setTop (mkF m pc' Ls st))) : Done p e below G (T.setTop (mkF m pc Ls (.int x :: st))) := by
  subst hp
  by_cases hc : 0 < x
  · exact Done.go (fun t q => XS.ifNo A hx rfl hd rfl ((if0 _ _).trans (tlt hc).2.2.2) q) (KN hc)
  · exact Done.go (fun t q => XS.ifYes A hx rfl (pc0 := pc) (pc' := pcY) rfl hd rfl ((if0 _ _).trans (flt hc).2.2.2) (by omega) (by omega) q) (KY hc)
theorem k_icmp_eq (A : At T m c below) (hx : p.tables.exec = Jvm.exec) {x y : Int32} {o : Int} {pcY : Nat} (hd : decode c.code pc = .ok (.if_icmp .eq o, 3)) (hY : (pc : Int) + o = (pcY : Int)) (hp : pc + 3 = pc')
    (KY : x = y → Done p e below G (T.setTop (mkF m pcY Ls st))) (KN : ¬ x = y → Done p e below G (T.setTop (mkF m pc' Ls st))) : Done p e below G (T.setTop (mkF m pc Ls (.int y :: .int x :: st))) := by
  subst hp
  by_cases hc : x = y
  · exact Done.go (fun t q => XS.icmpYes A hx rfl (pc0 := pc) (pc' := pcY) rfl hd rfl (teq hc).1 (by omega) (by omega) q) (KY hc)
  · exact Done.go (fun t q => XS.icmpNo A hx rfl hd rfl (feq hc).1 q) (KN hc)
theorem k_if_eq (A : At T m c below) (hx : p.tables.exec = Jvm.exec) {x : Int32} {o : Int} {pcY : Nat} (hd : decode c.code pc = .ok (.ifCond .eq o, 3)) (hY : (pc : Int) + o = (pcY : Int)) (hp : pc + 3 = pc')
    (KY : x = 0 → Done p e below G (T.setTop (mkF m pcY Ls st))) (KN : ¬ x = 0 → Done p e below G (T.setTop (mkF m pc' Ls st))) : Done p e below G (T.setTop (mkF m pc Ls (.int x :: st))) := by
  subst hp
  by_cases hc : x = 0
  · exact Done.go (fun t q => XS.ifYes A hx rfl (pc0 := pc) (pc' := pcY) rfl hd rfl ((if0 _ _).trans (teq hc).1) (by omega) (by omega) q) (KY hc)
  · exact Done.go (fun t q => XS.ifNo A hx rfl hd rfl ((if0 _ _).trans (feq hc).1) q) (KN hc)
theorem k_icmp_ne (A : At T m c below) (hx : p.tables.exec = Jvm.exec) {x y : Int32} {o : Int} {pcY : Nat} (hd : decode c.code pc = .ok (.if_icmp .ne o, 3)) (hY : (pc : Int) + o = (pcY : Int)) (hp : pc + 3 = pc')
    (KY : ¬ x = y → Done p e below G (T.setTop (mkF m pcY Ls st))) (KN : x = y → Done p e below G (T.setTop (mkF m pc' Ls st))) : Done p e below G (T.setTop (mkF m pc Ls (.int y :: .int x :: st))) := by
  subst hp
  by_cases hc : x = y
  · exact Done.go (fun t q => XS.icmpNo A hx rfl hd rfl (teq hc).2 q) (KN hc)
  · exact Done.go (fun t q => XS.icmpYes A hx rfl (pc0 := pc) (pc' := pcY) rfl hd rfl (feq hc).2 (by omega) (by omega) q) (KY hc)
theorem k_if_ne (A : At T m c below) (hx : p.tables.exec = Jvm.exec) {x : Int32} {o : Int} {pcY : Nat} (hd : decode c.code pc = .ok (.ifCond .ne o, 3)) (hY : (pc : Int) + o = (pcY : Int)) (hp : pc + 3 = pc')
    (KY : ¬ x = 0 → Done p e below G (T.setTop (mkF m pcY Ls st))) (KN : x = 0 → Done p e below G (T.setTop (mkF m pc' Ls st))) : Done p e below G (T.setTop (mkF m pc Ls (.int x :: st))) := by
  subst hp
  by_cases hc : x = 0
  · exact Done.go (fun t q => XS.ifNo A hx rfl hd rfl ((if0 _ _).trans (teq hc).2) q) (KN hc)
  · exact Done.go (fun t q => XS.ifYes A hx rfl (pc0 := pc) (pc' := pcY) rfl hd rfl ((if0 _ _).trans (feq hc).2) (by omega) (by omega) q) (KY hc)
theorem k_lcmp_lt (A : At T m c below) (hx : p.tables.exec = Jvm.exec) {x y : Int64} {o : Int} {pcY : Nat} (hd : decode c.code pc = .ok (.lcmp, 1)) (hd2 : decode c.code (pc + 1) = .ok (.ifCond .lt o, 3)) (hY : ((pc + 1 : Nat) : Int) + o = (pcY : Int)) (hp : pc + 1 + 3 = pc')
    (KY : x < y → Done p e below G (T.setTop (mkF m pcY Ls st))) (KN : ¬ x < y → Done p e below G (T.setTop (mkF m pc' Ls st))) : Done p e below G (T.setTop (mkF m pc Ls (.long y :: .long x :: st))) := by
  subst hp
  by_cases hc : x < y
  · exact Done.go (fun t q => XS.lcmp A hx rfl hd rfl (XS.ifYes A hx rfl (pc0 := pc + 1) (pc' := pcY) rfl hd2 rfl ((if0 _ _).trans (tlt ((lw_lt x y).mpr hc)).1) (by omega) (by omega) q)) (KY hc)
  · exact Done.go (fun t q => XS.lcmp A hx rfl hd rfl (XS.ifNo A hx rfl hd2 rfl ((if0 _ _).trans (flt (fun z => hc ((lw_lt x y).mp z))).1) q)) (KN hc)
theorem k_lcmp_ge (A : At T m c below) (hx : p.tables.exec = Jvm.exec) {x y : Int64} {o : Int} {pcY : Nat} (hd : decode c.code pc = .ok (.lcmp, 1)) (hd2 : decode c.code (pc + 1) = .ok (.ifCond .ge o, 3)) (hY : ((pc + 1 : Nat) : Int) + o = (pcY : Int)) (hp : pc + 1 + 3 = pc')
    (KY : ¬ x < y → Done p e below G (T.setTop (mkF m pcY Ls st))) (KN : x < y → Done p e below G (T.setTop (mkF m pc' Ls st))) : Done p e below G (T.setTop (mkF m pc Ls (.long y :: .long x :: st))) := by
  subst hp
  by_cases hc : x < y
  · exact Done.go (fun t q => XS.lcmp A hx rfl hd rfl (XS.ifNo A hx rfl hd2 rfl ((if0 _ _).trans (tlt ((lw_lt x y).mpr hc)).2.1) q)) (KN hc)
  · exact Done.go (fun t q => XS.lcmp A hx rfl hd rfl (XS.ifYes A hx rfl (pc0 := pc + 1) (pc' := pcY) rfl hd2 rfl ((if0 _ _).trans (flt (fun z => hc ((lw_lt x y).mp z))).2.1) (by omega) (by omega) q)) (KY hc)
theorem k_lcmp_gt (A : At T m c below) (hx : p.tables.exec = Jvm.exec) {x y : Int64} {o : Int} {pcY : Nat} (hd : decode c.code pc = .ok (.lcmp, 1)) (hd2 : decode c.code (pc + 1) = .ok (.ifCond .gt o, 3)) (hY : ((pc + 1 : Nat) : Int) + o = (pcY : Int)) (hp : pc + 1 + 3 = pc')
    (KY : y < x → Done p e below G (T.setTop (mkF m pcY Ls st))) (KN : ¬ y < x → Done p e below G (T.setTop (mkF m pc' Ls st))) : Done p e below G (T.setTop (mkF m pc Ls (.long y :: .long x :: st))) := by
  subst hp
  by_cases hc : y < x
  · exact Done.go (fun t q => XS.lcmp A hx rfl hd rfl (XS.ifYes A hx rfl (pc0 := pc + 1) (pc' := pcY) rfl hd2 rfl ((if0 _ _).trans (tlt ((lw_gt x y).mpr hc)).2.2.1) (by omega) (by omega) q)) (KY hc)
  · exact Done.go (fun t q => XS.lcmp A hx rfl hd rfl (XS.ifNo A hx rfl hd2 rfl ((if0 _ _).trans (flt (fun z => hc ((lw_gt x y).mp z))).2.2.1) q)) (KN hc)
theorem k_lcmp_le (A : At T m c below) (hx : p.tables.exec = Jvm.exec) {x y : Int64} {o : Int} {pcY : Nat} (hd : decode c.code pc = .ok (.lcmp, 1)) (hd2 : decode c.code (pc + 1) = .ok (.ifCond .le o, 3)) (hY : ((pc + 1 : Nat) : Int) + o = (pcY : Int)) (hp : pc + 1 + 3 = pc')
    (KY : ¬ y < x → Done p e below G (T.setTop (mkF m pcY Ls st))) (KN : y < x → Done p e below G (T.setTop (mkF m pc' Ls st))) : Done p e below G (T.setTop (mkF m pc Ls (.long y :: .long x :: st))) := by
  subst hp
  by_cases hc : y < x
  · exact Done.go (fun t q => XS.lcmp A hx rfl hd rfl (XS.ifNo A hx rfl hd2 rfl ((if0 _ _).trans (tlt ((lw_gt x y).mpr hc)).2.2.2) q)) (KN hc)
  · exact Done.go (fun t q => XS.lcmp A hx rfl hd rfl (XS.ifYes A hx rfl (pc0 := pc + 1) (pc' := pcY) rfl hd2 rfl ((if0 _ _).trans (flt (fun z => hc ((lw_gt x y).mp z))).2.2.2) (by omega) (by omega) q)) (KY hc)
theorem k_lcmp_eq (A : At T m c below) (hx : p.tables.exec = Jvm.exec) {x y : Int64} {o : Int} {pcY : Nat} (hd : decode c.code pc = .ok (.lcmp, 1)) (hd2 : decode c.code (pc + 1) = .ok (.ifCond .eq o, 3)) (hY : ((pc + 1 : Nat) : Int) + o = (pcY : Int)) (hp : pc + 1 + 3 = pc')
    (KY : x = y → Done p e below G (T.setTop (mkF m pcY Ls st))) (KN : ¬ x = y → Done p e below G (T.setTop (mkF m pc' Ls st))) : Done p e below G (T.setTop (mkF m pc Ls (.long y :: .long x :: st))) := by
  subst hp
  by_cases hc : x = y
  · exact Done.go (fun t q => XS.lcmp A hx rfl hd rfl (XS.ifYes A hx rfl (pc0 := pc + 1) (pc' := pcY) rfl hd2 rfl ((if0 _ _).trans (teq ((lw_eq x y).mpr hc)).1) (by omega) (by omega) q)) (KY hc)
  · exact Done.go (fun t q => XS.lcmp A hx rfl hd rfl (XS.ifNo A hx rfl hd2 rfl ((if0 _ _).trans (feq (fun z => hc ((lw_eq x y).mp z))).1) q)) (KN hc)
theorem k_lcmp_ne (A : At T m c below) (hx : p.tables.exec = Jvm.exec) {x y : Int64} {o : Int} {pcY : Nat} (hd : decode c.code pc = .ok (.lcmp, 1)) (hd2 : decode c.code (pc + 1) = .ok (.ifCond .ne o, 3)) (hY : ((pc + 1 : Nat) : Int) + o = (pcY : Int)) (hp : pc + 1 + 3 = pc')
    (KY : ¬ x = y → Done p e below G (T.setTop (mkF m pcY Ls st))) (KN : x = y → Done p e below G (T.setTop (mkF m pc' Ls st))) : Done p e below G (T.setTop (mkF m pc Ls (.long y :: .long x :: st))) := by
  subst hp
  by_cases hc : x = y
  · exact Done.go (fun t q => XS.lcmp A hx rfl hd rfl (XS.ifNo A hx rfl hd2 rfl ((if0 _ _).trans (teq ((lw_eq x y).mpr hc)).2) q)) (KN hc)
  · exact Done.go (fun t q => XS.lcmp A hx rfl hd rfl (XS.ifYes A hx rfl (pc0 := pc + 1) (pc' := pcY) rfl hd2 rfl ((if0 _ _).trans (feq (fun z => hc ((lw_eq x y).mp z))).2) (by omega) (by omega) q)) (KY hc)
/-! ### a store into a slot of which only its one word is known -/
theorem store_eq (L : Array Slot) (i : Nat) (v : Value) : storeLocals L i v = (L[i]?).bind fun o => match o with
    | .second => (setAt L (i - 1) .unset).bind fun l => storeSelf l i v
    | .val old => if old.category = 2 then ((setAt L (i + 1) .unset).bind fun l => storeSelf l i v) else storeSelf L i v
    | .unset => storeSelf L i v := rfl
theorem store1 {L L' : Array Slot} {i : Nat} {o : Slot} {v : Value} (h : L[i]? = some o) (H : One o) (hs : storeSelf L i v = some L') : storeLocals L i v = some L' := by
  rw [store_eq, h]
  rcases H with rfl | ⟨w, rfl, q⟩
  · exact hs
  · show (if w.category = 2 then _ else storeSelf L i v) = _
    rw [if_neg (by omega)]; exact hs
/-! ### constants of the pool -/
theorem k_ldcInt (S : St p l e R s m args below meth c n0 T h k n) (hx : p.tables.exec = Jvm.exec) (hZ : Z.Warmed39 s.vm) {own : String} {index : Nat} {v : Int32} (hown : s.vm.findClass own = some m.cls) (w : (Jvm.Cond.constant own index v).before a0 Z = true)
    (hd : decode c.code pc = .ok (.ldc index, 2)) (hp : pc + 2 = pc') (K : Done p e below G (T.setTop (mkF m pc' Ls (.int v :: st)))) : Done p e below G (T.setTop (mkF m pc Ls st)) := by
  subst hp
  obtain ⟨_, X, -, -⟩ := S
  exact Done.go (X.ldcInt hx hown (mvT hZ w) (g := mkF m pc Ls st) rfl hd) K
theorem k_ldcwInt (S : St p l e R s m args below meth c n0 T h k n) (hx : p.tables.exec = Jvm.exec) (hZ : Z.Warmed39 s.vm) {own : String} {index : Nat} {v : Int32} (hown : s.vm.findClass own = some m.cls) (w : (Jvm.Cond.constant own index v).before a0 Z = true)
    (hd : decode c.code pc = .ok (.ldc_w index, 3)) (hp : pc + 3 = pc') (K : Done p e below G (T.setTop (mkF m pc' Ls (.int v :: st)))) : Done p e below G (T.setTop (mkF m pc Ls st)) := by
  subst hp
  obtain ⟨_, X, -, -⟩ := S
  exact Done.go (X.ldcwInt hx hown (mvT hZ w) (g := mkF m pc Ls st) rfl hd) K
theorem k_ldc2Long (S : St p l e R s m args below meth c n0 T h k n) (hx : p.tables.exec = Jvm.exec) (hZ : Z.Warmed39 s.vm) {own : String} {index : Nat} {v : Int64} (hown : s.vm.findClass own = some m.cls) (w : (Jvm.Cond.constantLong own index v).before a0 Z = true)
    (hd : decode c.code pc = .ok (.ldc2_w index, 3)) (hp : pc + 3 = pc') (K : Done p e below G (T.setTop (mkF m pc' Ls (.long v :: st)))) : Done p e below G (T.setTop (mkF m pc Ls st)) := by
  subst hp
  obtain ⟨_, X, -, -⟩ := S
  exact Done.go (X.ldc2Long hx hown (mvT hZ w) (g := mkF m pc Ls st) rfl hd) K
/-! ### returns -/
variable {Q : Option Value → Heap → Prop}
theorem k_ret_val {w : Value} {t : FieldType} {i : Instr} (S : St p l e R s m args below meth c n0 T h k n) (hx : p.tables.exec = Jvm.exec) (hret : meth.sig.returnType = some t) (hlk : meth.locks = false) (hd : decode c.code pc = .ok (i, 1)) (hn' : narrow t w = w)
    (hi : (i = .ireturn ∧ (t = .int ∨ t = .boolean ∨ t = .byte ∨ t = .char ∨ t = .short) ∧ ∃ z, w = .int z) ∨ (i = .lreturn ∧ t = .long ∧ ∃ z, w = .long z) ∨ (i = .dreturn ∧ t = .double ∧ ∃ z, w = .double z) ∨ (i = .freturn ∧ t = .float ∧ ∃ z, w = .float z) ∨ (i = .areturn ∧ t.isReference = true ∧ w.isRef = true))
    (hk : k ≤ R.cells) (hn : n ≤ R.slots) (q : Q (some w) h) : Done p e below (OEnd s R n0 Q) (T.setTop (mkF m pc Ls (w :: st))) := by
  obtain ⟨locs, X, N, eT⟩ := S
  obtain ⟨fs, hr, hrun, hended, hW, hsame⟩ := X.leave (v := some w) (fun h => by rw [hret] at h; cases h) hlk
  refine ⟨_, _, retOut X hx hret hn' hi hd hr, hrun, hended, _, locs, rfl, ⟨?_, N⟩, ⟨_, rfl⟩, hW, hsame.mono hk hn⟩
  show Q _ T.heap
  rw [eT]; exact q
theorem k_ret_int {z : Int32} (S : St p l e R s m args below meth c n0 T h k n) (hx : p.tables.exec = Jvm.exec) (hret : meth.sig.returnType = some .int) (hlk : meth.locks = false) (hd : decode c.code pc = .ok (.ireturn, 1))
    (hk : k ≤ R.cells) (hn : n ≤ R.slots) (q : Q (some (.int z)) h) : Done p e below (OEnd s R n0 Q) (T.setTop (mkF m pc Ls (.int z :: st))) :=
  k_ret_val S hx hret hlk hd rfl (Or.inl ⟨rfl, Or.inl rfl, z, rfl⟩) hk hn q
theorem k_ret_long {z : Int64} (S : St p l e R s m args below meth c n0 T h k n) (hx : p.tables.exec = Jvm.exec) (hret : meth.sig.returnType = some .long) (hlk : meth.locks = false) (hd : decode c.code pc = .ok (.lreturn, 1))
    (hk : k ≤ R.cells) (hn : n ≤ R.slots) (q : Q (some (.long z)) h) : Done p e below (OEnd s R n0 Q) (T.setTop (mkF m pc Ls (.long z :: st))) :=
  k_ret_val S hx hret hlk hd rfl (Or.inr (Or.inl ⟨rfl, rfl, z, rfl⟩)) hk hn q
theorem k_ret_ref {a : Addr} {t : FieldType} (S : St p l e R s m args below meth c n0 T h k n) (hx : p.tables.exec = Jvm.exec) (hret : meth.sig.returnType = some t) (ht : t.isReference = true) (hlk : meth.locks = false) (hd : decode c.code pc = .ok (.areturn, 1))
    (hk : k ≤ R.cells) (hn : n ≤ R.slots) (q : Q (some (.ref a)) h) : Done p e below (OEnd s R n0 Q) (T.setTop (mkF m pc Ls (.ref a :: st))) :=
  k_ret_val S hx hret hlk hd (by cases t <;> first | rfl | (cases ht; done)) (Or.inr (Or.inr (Or.inr (Or.inr ⟨rfl, ht, rfl⟩)))) hk hn q
theorem k_ret_nar {z z' : Int32} {t : FieldType} (S : St p l e R s m args below meth c n0 T h k n) (hx : p.tables.exec = Jvm.exec) (hret : meth.sig.returnType = some t) (ht : t = .boolean ∨ t = .byte ∨ t = .char ∨ t = .short) (hlk : meth.locks = false) (hd : decode c.code pc = .ok (.ireturn, 1)) (hz : nar t z = z')
    (hk : k ≤ R.cells) (hn : n ≤ R.slots) (q : Q (some (.int z')) h) : Done p e below (OEnd s R n0 Q) (T.setTop (mkF m pc Ls (.int z :: st))) := by
  obtain ⟨locs, X, N, eT⟩ := S
  subst hz
  obtain ⟨fs, hr, hrun, hended, hW, hsame⟩ := X.leave (v := some (.int (nar t z))) (fun h => by rw [hret] at h; cases h) hlk
  refine ⟨_, _, retN X hx hret ht hd hr, hrun, hended, _, locs, rfl, ⟨?_, N⟩, ⟨_, rfl⟩, hW, hsame.mono hk hn⟩
  show Q _ T.heap
  rw [eT]; exact q
theorem k_ret_void (S : St p l e R s m args below meth c n0 T h k n) (hx : p.tables.exec = Jvm.exec) (hret : meth.sig.returnType = none) (hlk : meth.locks = false) (hd : decode c.code pc = .ok (.return_, 1))
    (hk : k ≤ R.cells) (hn : n ≤ R.slots) (q : Q none h) : Done p e below (OEnd s R n0 Q) (T.setTop (mkF m pc Ls [])) := by
  obtain ⟨locs, X, N, eT⟩ := S
  obtain ⟨fs, hr, hrun, hended, hW, hsame⟩ := X.leave (v := none) (fun _ => rfl) hlk
  refine ⟨_, _, X.returnOut hx hret hd hr, hrun, hended, _, locs, rfl, ⟨?_, N⟩, ⟨_, rfl⟩, hW, hsame.mono hk hn⟩
  show Q _ T.heap
  rw [eT]; exact q
/-! ### calls by a contract -/
theorem k_call_static (S : St p l e R s m args below meth c n0 T h k n) (hx : p.tables.exec = Jvm.exec) (hZ : Z.Warmed39 s.vm) {own : String} {index : Nat} {y : MethodName} {bytes : ByteArray} {maxL : Nat} {ret : Option FieldType} (hown : s.vm.findClass own = some m.cls)
    (w1 : (Jvm.Cond.methodLink own index y).before a0 Z = true) (w2 : (Jvm.Cond.static y).before a0 Z = true) (w3 : (Jvm.Cond.initialized y.cls).before a0 Z = true) (w4 : (Jvm.Cond.code y bytes maxL ret).before a0 Z = true)
    (hy : y.cls ≠ "java/lang/invoke/MethodHandle" ∧ y.cls ≠ "java/lang/invoke/VarHandle") {rm : Room} {as' : Array Value} (C : Con l Z y bytes maxL ret rm n0 h as' Q) (W : Nat) {argsL rest : List Value}
    (hf : rm.frames + 1 ≤ R.frames) (hl : W + (maxL + 11) + rm.locals ≤ R.locals) (hml : Ls.size = c.maxLocals) (hlen : ∀ sig, parseMethodDescriptor y.desc = some sig → argsL.length = sig.parameters.length) (has : argsL.toArray = as')
    (hst : st = argsL.reverse ++ rest) (hW : (rest.map fun v => v.category).sum ≤ W) (hd : decode c.code pc = .ok (.invokestatic index, 3)) (hp : pc + 3 = pc') (hk : k + rm.cells ≤ R.cells) (hn : n + rm.slots ≤ R.slots)
    (K : ∀ v T' h', Q v h' → St p l e R s m args below meth c n0 T' h' (k + rm.cells) (n + rm.slots) → Done p e below G (T'.setTop (mkF m pc' Ls (v.toList ++ rest)))) :
    Done p e below G (T.setTop (mkF m pc Ls st)) := by
  subst hp
  obtain ⟨locs, X, N, eT⟩ := S
  obtain ⟨v, vm₁, ⟨T', L', k', n'⟩, -, X', ⟨L, ⟨hQ, NL⟩, e1, e2, e3⟩, step⟩ := Jvm.LawKit.callS X hx (y := y) hown (mvT hZ w1) (mvT hZ w2) (mvT hZ w3) (mvT hZ w4) hy
    (backOf (W := W) (Q := fun v h L => Q v h ∧ Fr n0 L) (C []) hZ w4 w3 hf hl) (g := mkF m pc Ls st) rfl hml (argsL := argsL) (rest := rest) hlen hst (by show 2 * 0 + _ ≤ _; omega) hd
    (fun _ _ => ⟨has, eT, hk, hn⟩)
  dsimp only [Pt.U, Pt.locs, Pt.cells, Pt.slots] at X' hQ e1 e2 e3 step
  subst e1 e2 e3
  exact Done.go step (K v T' T'.heap hQ ⟨_, X', Fr.app N NL, rfl⟩)
theorem k_call_init (S : St p l e R s m args below meth c n0 T h k n) (hx : p.tables.exec = Jvm.exec) (hZ : Z.Warmed39 s.vm) {own : String} {index : Nat} {y : MethodName} {bytes : ByteArray} {maxL : Nat} (hown : s.vm.findClass own = some m.cls) (hy1 : y.name = "<init>")
    (w1 : (Jvm.Cond.methodLink own index y).before a0 Z = true) (w2 : (Jvm.Cond.instanceMethod y).before a0 Z = true) (w3 : (Jvm.Cond.initialized y.cls).before a0 Z = true) (w4 : (Jvm.Cond.code y bytes maxL none).before a0 Z = true)
    (hy : y.cls ≠ "java/lang/invoke/MethodHandle" ∧ y.cls ≠ "java/lang/invoke/VarHandle") {rm : Room} {as' : Array Value} (C : Con l Z y bytes maxL none rm n0 h as' Q) (W : Nat) {a : Addr} {argsL rest : List Value}
    (hf : rm.frames + 1 ≤ R.frames) (hl : W + (maxL + 11) + rm.locals ≤ R.locals) (hml : Ls.size = c.maxLocals) (hlen : ∀ sig, parseMethodDescriptor y.desc = some sig → argsL.length = sig.parameters.length) (has : (.ref a :: argsL).toArray = as')
    (hst : st = argsL.reverse ++ .ref a :: rest) (hW : (rest.map fun v => v.category).sum ≤ W) (hd : decode c.code pc = .ok (.invokespecial index, 3)) (hp : pc + 3 = pc') (hk : k + rm.cells ≤ R.cells) (hn : n + rm.slots ≤ R.slots)
    (K : ∀ v T' h', Q v h' → St p l e R s m args below meth c n0 T' h' (k + rm.cells) (n + rm.slots) → Done p e below G (T'.setTop (mkF m pc' Ls (v.toList ++ rest)))) :
    Done p e below G (T.setTop (mkF m pc Ls st)) := by
  subst hp
  obtain ⟨locs, X, N, eT⟩ := S
  obtain ⟨v, vm₁, ⟨T', L', k', n'⟩, -, X', ⟨L, ⟨hQ, NL⟩, e1, e2, e3⟩, step⟩ := X.specialBack hx (y := y) hy1 hown (mvT hZ w1) (mvT hZ w2) (mvT hZ w4) hy
    (backOf (W := W) (Q := fun v h L => Q v h ∧ Fr n0 L) (C []) hZ w4 w3 hf hl) (g := mkF m pc Ls st) rfl hml (Steps.refl _) (a := a) (argsL := argsL) (rest := rest) hlen hst (by show 2 * 0 + _ ≤ _; omega) hd
    (fun _ _ => ⟨has, eT, hk, hn⟩)
  dsimp only [Pt.U, Pt.locs, Pt.cells, Pt.slots] at X' hQ e1 e2 e3 step
  subst e1 e2 e3
  exact Done.go (fun t q => step.trans q) (K v T' T'.heap hQ ⟨_, X', Fr.app N NL, rfl⟩)
theorem k_call_virtual (S : St p l e R s m args below meth c n0 T h k n) (hx : p.tables.exec = Jvm.exec) (hZ : Z.Warmed39 s.vm) {own : String} {index : Nat} {y : MethodName} {bytes : ByteArray} {maxL : Nat} {ret : Option FieldType} (hown : s.vm.findClass own = some m.cls) {a : Addr} (E : Exa Z h a y.cls)
    (w1 : (Jvm.Cond.methodLink own index y).before a0 Z = true) (w2 : (Jvm.Cond.declares y).before a0 Z = true) (w5 : (Jvm.Cond.selects y.cls y y).before a0 Z = true) (w6 : (Jvm.Cond.instanceMethod y).before a0 Z = true) (w3 : (Jvm.Cond.initialized y.cls).before a0 Z = true) (w4 : (Jvm.Cond.code y bytes maxL ret).before a0 Z = true)
    (hy : y.cls ≠ "java/lang/invoke/MethodHandle" ∧ y.cls ≠ "java/lang/invoke/VarHandle") {rm : Room} {as' : Array Value} (C : Con l Z y bytes maxL ret rm n0 h as' Q) (W : Nat) {argsL rest : List Value}
    (hf : rm.frames + 1 ≤ R.frames) (hl : W + (maxL + 11) + rm.locals ≤ R.locals) (hml : Ls.size = c.maxLocals) (hlen : ∀ sig, parseMethodDescriptor y.desc = some sig → argsL.length = sig.parameters.length) (has : (.ref a :: argsL).toArray = as')
    (hst : st = argsL.reverse ++ .ref a :: rest) (hW : (rest.map fun v => v.category).sum ≤ W) (hd : decode c.code pc = .ok (.invokevirtual index, 3)) (hp : pc + 3 = pc') (hk : k + rm.cells ≤ R.cells) (hn : n + rm.slots ≤ R.slots)
    (K : ∀ v T' h', Q v h' → St p l e R s m args below meth c n0 T' h' (k + rm.cells) (n + rm.slots) → Done p e below G (T'.setTop (mkF m pc' Ls (v.toList ++ rest)))) :
    Done p e below G (T.setTop (mkF m pc Ls st)) := by
  subst hp
  obtain ⟨locs, X, N, eT⟩ := S
  obtain ⟨cq, kq, qa, qb, qc⟩ := isOf hZ eT E
  obtain ⟨v, vm₁, ⟨T', L', k', n'⟩, -, X', ⟨L, ⟨hQ, NL⟩, e1, e2, e3⟩, step⟩ := X.virtualBack hx (y := y) (z := y) hown (mvT hZ w1) (mvT hZ w2) (notFace_of_selects (args := #[]) (mvT hZ w5)) (mvT hZ w5) (mvT hZ w6) hy
    (backOf (W := W) (Q := fun v h L => Q v h ∧ Fr n0 L) (C []) hZ w4 w3 hf hl) qa qc (g := mkF m pc Ls st) rfl hml (Steps.refl _) (argsL := argsL) (rest := rest) hlen hst (by show 2 * 0 + _ ≤ _; omega) hd
    (fun _ _ => ⟨has, eT, hk, hn⟩)
  dsimp only [Pt.U, Pt.locs, Pt.cells, Pt.slots] at X' hQ e1 e2 e3 step
  subst e1 e2 e3
  exact Done.go (fun t q => step.trans q) (K v T' T'.heap hQ ⟨_, X', Fr.app N NL, rfl⟩)
theorem k_call_private (S : St p l e R s m args below meth c n0 T h k n) (hx : p.tables.exec = Jvm.exec) (hZ : Z.Warmed39 s.vm) {own : String} {index : Nat} {y : MethodName} {bytes : ByteArray} {maxL : Nat} {ret : Option FieldType} (hown : s.vm.findClass own = some m.cls) {a : Addr} (E : Exa Z h a y.cls)
    (w1 : (Jvm.Cond.methodLink own index y).before a0 Z = true) (w6 : (Jvm.Cond.instanceMethod y).before a0 Z = true) (w5 : (Jvm.Cond.selects y.cls y y).before a0 Z = true) (w7 : (Jvm.Cond.privateMethod y).before a0 Z = true) (w3 : (Jvm.Cond.initialized y.cls).before a0 Z = true) (w4 : (Jvm.Cond.code y bytes maxL ret).before a0 Z = true)
    (hy : y.cls ≠ "java/lang/invoke/MethodHandle" ∧ y.cls ≠ "java/lang/invoke/VarHandle") {rm : Room} {as' : Array Value} (C : Con l Z y bytes maxL ret rm n0 h as' Q) (W : Nat) {argsL rest : List Value}
    (hf : rm.frames + 1 ≤ R.frames) (hl : W + (maxL + 11) + rm.locals ≤ R.locals) (hml : Ls.size = c.maxLocals) (hlen : ∀ sig, parseMethodDescriptor y.desc = some sig → argsL.length = sig.parameters.length) (has : (.ref a :: argsL).toArray = as')
    (hst : st = argsL.reverse ++ .ref a :: rest) (hW : (rest.map fun v => v.category).sum ≤ W) (hd : decode c.code pc = .ok (.invokevirtual index, 3)) (hp : pc + 3 = pc') (hk : k + rm.cells ≤ R.cells) (hn : n + rm.slots ≤ R.slots)
    (K : ∀ v T' h', Q v h' → St p l e R s m args below meth c n0 T' h' (k + rm.cells) (n + rm.slots) → Done p e below G (T'.setTop (mkF m pc' Ls (v.toList ++ rest)))) :
    Done p e below G (T.setTop (mkF m pc Ls st)) := by
  subst hp
  obtain ⟨locs, X, N, eT⟩ := S
  obtain ⟨cq, q1, q2⟩ := E.cell
  obtain ⟨v, vm₁, ⟨T', L', k', n'⟩, -, X', ⟨L, ⟨hQ, NL⟩, e1, e2, e3⟩, step⟩ := X.privateBack hx (y := y) hown (mvT hZ w1) (mvT hZ w6) (mvT hZ w5) (Cond.privateMethod_at (mvP hZ w7 (args := #[]))) (mvT hZ w4) hy
    (backOf (W := W) (Q := fun v h L => Q v h ∧ Fr n0 L) (C []) hZ w4 w3 hf hl) (g := mkF m pc Ls st) rfl hml (Steps.refl _) (a := a) (by rw [eT]; exact q1) q2 (argsL := argsL) (rest := rest) hlen hst (by show 2 * 0 + _ ≤ _; omega) hd
    (fun _ _ => ⟨has, eT, hk, hn⟩)
  dsimp only [Pt.U, Pt.locs, Pt.cells, Pt.slots] at X' hQ e1 e2 e3 step
  subst e1 e2 e3
  exact Done.go (fun t q => step.trans q) (K v T' T'.heap hQ ⟨_, X', Fr.app N NL, rfl⟩)
/-- any one step of the library's that leaves the heap and the room as they are -/
theorem k_via {f f' : JFrame} (S : St p l e R s m args below meth c n0 T h k n) (I : ∀ locs, Stand p l e R s m args below meth c T locs k n → T.heap = h → ∃ T', Stand p l e R s m args below meth c T' locs k n ∧ T'.heap = h ∧ ∀ target, Steps p.tables e below (T'.setTop f') target → Steps p.tables e below (T.setTop f) target)
    (K : ∀ T', St p l e R s m args below meth c n0 T' h k n → Done p e below G (T'.setTop f')) : Done p e below G (T.setTop f) := by
  obtain ⟨locs, X, N, eT⟩ := S
  obtain ⟨T', X', eT', step⟩ := I locs X eT
  exact Done.go step (K T' ⟨_, X', N, eT'⟩)
/-! ### the heap: objects and fields -/
theorem k_getfield (S : St p l e R s m args below meth c n0 T h k n) (hx : p.tables.exec = Jvm.exec) (hZ : Z.Warmed39 s.vm) {own O f d : String} {index : Nat} (hown : s.vm.findClass own = some m.cls) (w : (Jvm.Cond.fieldLink own index O f d).before a0 Z = true)
    {a : Addr} {v : Value} (F : Fld Z h a O f d v) (hd : decode c.code pc = .ok (.getfield index, 3)) (hp : pc + 3 = pc')
    (K : ∀ T', St p l e R s m args below meth c n0 T' h k n → Done p e below G (T'.setTop (mkF m pc' Ls (v :: st)))) : Done p e below G (T.setTop (mkF m pc Ls (.ref a :: st))) := by
  subst hp
  obtain ⟨locs, X, N, eT⟩ := S
  obtain ⟨T', X', eT', step⟩ := getF X hx hZ hown (host := "") (Or.inl w) Via.refl eT F (g := mkF m pc Ls (.ref a :: st)) rfl rfl hd
  exact Done.go step (K T' ⟨_, X', N, eT'⟩)
theorem k_putfield (S : St p l e R s m args below meth c n0 T h k n) (hx : p.tables.exec = Jvm.exec) (hZ : Z.Warmed39 s.vm) {own O f d C : String} {index kk : Nat} {ty : FieldType} (hown : s.vm.findClass own = some m.cls) (w : (Jvm.Cond.fieldLink own index O f d).before a0 Z = true)
    {a : Addr} {v old : Value} (F : Fld Z h a O f d old) (E : Exa Z h a C) (L : (Jvm.Cond.lays C O f d).before a0 Z = true ∨ ((Jvm.Cond.laysFinal C O f d).before a0 Z = true ∧ own = O ∧ meth.name = "<init>")) (wi : (Jvm.Cond.instantiable C kk).before a0 Z = true)
    (hty : parseFieldDescriptor d = some ty) (hn' : narrow ty v = v) (hf : fits ty v = true) (ha : n0 ≤ a) (hd : decode c.code pc = .ok (.putfield index, 3)) (hp : pc + 3 = pc')
    (K : ∀ T' h', Wr h h' a (Jvm.RoadKit.slotOf Z O f d) v → St p l e R s m args below meth c n0 T' h' k n → Done p e below G (T'.setTop (mkF m pc' Ls st))) : Done p e below G (T.setTop (mkF m pc Ls (v :: .ref a :: st))) := by
  subst hp
  obtain ⟨locs, X, N, eT⟩ := S
  obtain ⟨T', h', X', eT', W, step⟩ := putF X hx hZ hown (host := "") (Or.inl w) Via.refl eT F E L wi hty hn' hf (g := mkF m pc Ls (v :: .ref a :: st)) rfl rfl hd
  exact Done.go step (K T' h' W ⟨_, X', Fr.snoc X' N ha, eT'⟩)
theorem k_new (S : St p l e R s m args below meth c n0 T h k n) (hx : p.tables.exec = Jvm.exec) (hZ : Z.Warmed39 s.vm) {own C : String} {index f : Nat} (hown : s.vm.findClass own = some m.cls) (w : (Jvm.Cond.classLink own index C).before a0 Z = true) (wi : (Jvm.Cond.instantiable C f).before a0 Z = true) (wz : (Jvm.Cond.initialized C).before a0 Z = true)
    (hd : decode c.code pc = .ok (.new index, 3)) (hp : pc + 3 = pc') (hk : k + 1 ≤ R.cells) (hn : n + f ≤ R.slots)
    (K : ∀ T' h' b, b = h.size → Ext h h' → Exa Z h' b C → (∀ {O nm d : String} {ty : FieldType}, Laid Z a0 C O nm d → parseFieldDescriptor d = some ty → Fld Z h' b O nm d (defaultValue ty)) → St p l e R s m args below meth c n0 T' h' (k + 1) (n + f) → Done p e below G (T'.setTop (mkF m pc' Ls (.ref b :: st)))) :
    Done p e below G (T.setTop (mkF m pc Ls st)) := by
  subst hp
  obtain ⟨locs, X, N, eT⟩ := S
  obtain ⟨T', h', X', eT', E, A, D, -, step⟩ := newO X hx hZ hown w wi wz eT (g := mkF m pc Ls st) rfl hd hk hn
  exact Done.go step (K T' h' _ rfl E A D ⟨_, X', N, eT'⟩)
end Walk
end Jvm.OwnKit

namespace Jvm.OwnKit
open Sem ClassFile Op Lib Jvm.Stand Jvm.Free Jvm.LawKit Jvm.RoadKit
/-! My own layer: arrays as lists. -/
/-- at a lies an array of ty that holds vs -/
def Vec (Z : State) (h : Heap) (a : Addr) (ty : FieldType) (vs : List Value) : Prop := ∃ c : Cell, Arr Z h a c ty ∧ c.slots.toList = vs ∧ vs.length < 2 ^ 31
/-- an int[] | a byte[] that holds xs -/
def IV (Z : State) (h : Heap) (a : Addr) (xs : List Int32) : Prop := Vec Z h a .int (xs.map Value.int)
def BV (Z : State) (h : Heap) (a : Addr) (xs : List Int32) : Prop := Vec Z h a .byte (xs.map Value.int)
/-- a long[] that holds xs -/
def LV (Z : State) (h : Heap) (a : Addr) (xs : List Int64) : Prop := Vec Z h a .long (xs.map Value.long)
theorem Keep.ext0 {h h' : Heap} (K : Keep h h' []) : Ext h h' := ⟨K.1, fun x c q => K.2.1 x c q nin0⟩
theorem Keep.of_ext {h h' : Heap} (E : Ext h h') (ws : List Addr) : Keep h h' ws := (Keep.refl h ws).ext E
section Arrays
variable {p : Program} {l : Launch} {e : Env} {R : Room} {s : State} {m : MethodId} {args : Array Value} {below : List Frame} {meth : Method} {c : Code} {n0 : Nat} {T : State} {h h' : Heap} {k n : Nat} {Z : State} {a0 : Array Value}
variable {G : Outcome → State → Prop} {pc pc' : Nat} {Ls Ls' : Array Slot} {st : List Value} {a b : Addr} {ty : FieldType} {vs : List Value} {xs : List Int32} {ys : List Int64} {ws : List Addr} {sl : Nat} {v : Value}
theorem Vec.lt (F : Vec Z h a ty vs) : a < h.size := by obtain ⟨c, A, -⟩ := F; exact A.lt
theorem Vec.ext (F : Vec Z h a ty vs) (E : Ext h h') : Vec Z h' a ty vs := by obtain ⟨c, A, r⟩ := F; exact ⟨c, A.ext E, r⟩
theorem Vec.other (F : Vec Z h b ty vs) (W : Wr h h' a sl v) (q : b ≠ a) : Vec Z h' b ty vs := by obtain ⟨c, A, r⟩ := F; exact ⟨c, A.other W q, r⟩
theorem Vec.keep (F : Vec Z h a ty vs) (K : Keep h h' ws) (q : a ∉ ws) : Vec Z h' a ty vs := by obtain ⟨c, A, r⟩ := F; exact ⟨c, ⟨K.2.1 a c A.1 q, A.2⟩, r⟩
theorem Vec.put (F : Vec Z h a ty vs) (W : Wr h h' a sl v) : Vec Z h' a ty (vs.set sl v) := by
  obtain ⟨c, A, q, r⟩ := F
  exact ⟨_, A.same W, by simp [Cell.setSlot, q], by simpa using r⟩
theorem Vec.mk {x : Int32} (A : Arr Z h a (newA k ty x) ty) : Vec Z h a ty (List.replicate x.toInt.toNat (defaultValue ty)) := ⟨_, A, by
  show (Array.replicate x.toInt.toNat (defaultValue ty)).toList = _
  rw [Array.toList_replicate], by
  have := x.toInt_lt
  rw [List.length_replicate]; omega⟩
theorem IV.lt (F : IV Z h a xs) : a < h.size := Vec.lt F
theorem IV.ext (F : IV Z h a xs) (E : Ext h h') : IV Z h' a xs := Vec.ext F E
theorem IV.other (F : IV Z h b xs) (W : Wr h h' a sl v) (q : b ≠ a) : IV Z h' b xs := Vec.other F W q
theorem IV.keep (F : IV Z h a xs) (K : Keep h h' ws) (q : a ∉ ws) : IV Z h' a xs := Vec.keep F K q
theorem IV.put {x : Int32} (F : IV Z h a xs) (W : Wr h h' a sl (.int x)) : IV Z h' a (xs.set sl x) := by
  have q := Vec.put F W
  rw [← List.map_set] at q; exact q
theorem IV.len (F : IV Z h a xs) : xs.length < 2 ^ 31 := by obtain ⟨_, _, _, q⟩ := F; simpa using q
theorem BV.lt (F : BV Z h a xs) : a < h.size := Vec.lt F
theorem BV.ext (F : BV Z h a xs) (E : Ext h h') : BV Z h' a xs := Vec.ext F E
theorem BV.other (F : BV Z h b xs) (W : Wr h h' a sl v) (q : b ≠ a) : BV Z h' b xs := Vec.other F W q
theorem BV.keep (F : BV Z h a xs) (K : Keep h h' ws) (q : a ∉ ws) : BV Z h' a xs := Vec.keep F K q
theorem BV.put {x : Int32} (F : BV Z h a xs) (W : Wr h h' a sl (.int x)) : BV Z h' a (xs.set sl x) := by
  have q := Vec.put F W
  rw [← List.map_set] at q; exact q
theorem BV.len (F : BV Z h a xs) : xs.length < 2 ^ 31 := by obtain ⟨_, _, _, q⟩ := F; simpa using q
theorem LV.lt (F : LV Z h a ys) : a < h.size := Vec.lt F
theorem LV.ext (F : LV Z h a ys) (E : Ext h h') : LV Z h' a ys := Vec.ext F E
theorem LV.other (F : LV Z h b ys) (W : Wr h h' a sl v) (q : b ≠ a) : LV Z h' b ys := Vec.other F W q
theorem LV.keep (F : LV Z h a ys) (K : Keep h h' ws) (q : a ∉ ws) : LV Z h' a ys := Vec.keep F K q
theorem LV.put {x : Int64} (F : LV Z h a ys) (W : Wr h h' a sl (.long x)) : LV Z h' a (ys.set sl x) := by
  have q := Vec.put F W
  rw [← List.map_set] at q; exact q
theorem LV.len (F : LV Z h a ys) : ys.length < 2 ^ 31 := by obtain ⟨_, _, _, q⟩ := F; simpa using q
theorem inb {c : Cell} {j : Int32} (q : c.slots.toList = vs) (h1 : 0 ≤ j.toInt) (h2 : j.toInt < vs.length) : ¬ (j < 0 ∨ c.slots.size ≤ j.toNatClampNeg) := by
  subst q
  rw [Int32.lt_iff_toInt_lt]
  have e0 : (0 : Int32).toInt = 0 := rfl
  have e1 : j.toNatClampNeg = j.toInt.toNat := rfl
  have e2 : c.slots.toList.length = c.slots.size := by simp
  omega
theorem k_arraylength {z : Int32} (S : St p l e R s m args below meth c n0 T h k n) (hx : p.tables.exec = Jvm.exec) (hZ : Z.Warmed39 s.vm) (V : Vec Z h a ty vs) (hd : decode c.code pc = .ok (.arraylength, 1)) (hz : vs.length.toInt32 = z) (hp : pc + 1 = pc')
    (K : Done p e below G (T.setTop (mkF m pc' Ls (.int z :: st)))) : Done p e below G (T.setTop (mkF m pc Ls (.ref a :: st))) := by
  subst hp hz
  obtain ⟨_, X, -, eT⟩ := S
  obtain ⟨cl, A, q, r⟩ := V
  have e2 : vs.length = cl.slots.size := by rw [← q]; simp
  rw [e2] at K
  exact Done.go (fun t z => X.arraylength hx (by rw [eT]; exact A.1) (State.isArrayOf_alike hZ.alike A.2.1) (g := mkF m pc Ls (.ref a :: st)) rfl rfl hd _ z) K
theorem k_iaload {j w : Int32} (S : St p l e R s m args below meth c n0 T h k n) (hx : p.tables.exec = Jvm.exec) (hZ : Z.Warmed39 s.vm) (V : IV Z h a xs) (hd : decode c.code pc = .ok (.iaload, 1)) (h1 : 0 ≤ j.toInt) (h2 : j.toInt < xs.length) (hv : xs.getD j.toInt.toNat 0 = w) (hp : pc + 1 = pc')
    (K : Done p e below G (T.setTop (mkF m pc' Ls (.int w :: st)))) : Done p e below G (T.setTop (mkF m pc Ls (.int j :: .ref a :: st))) := by
  subst hp hv
  obtain ⟨_, X, -, eT⟩ := S
  obtain ⟨cl, A, q, r⟩ := V
  have hl : j.toInt.toNat < xs.length := by omega
  have hv : cl.slots[j.toNatClampNeg]? = some (.int (xs.getD j.toInt.toNat 0)) := by
    show cl.slots[j.toInt.toNat]? = _
    rw [← Array.getElem?_toList, q, List.getElem?_map, List.getElem?_eq_getElem hl]
    rw [List.getD_eq_getElem?_getD, List.getElem?_eq_getElem hl]; rfl
  exact Done.go (fun t z => X.iaload hx (by rw [eT]; exact A.1) (State.isArrayOf_alike hZ.alike A.2.1) A.2.2 (inb q h1 (by simpa using h2)) hv (g := mkF m pc Ls (.int j :: .ref a :: st)) rfl rfl hd _ z) K
theorem k_baload {j w : Int32} (S : St p l e R s m args below meth c n0 T h k n) (hx : p.tables.exec = Jvm.exec) (hZ : Z.Warmed39 s.vm) (V : BV Z h a xs) (hd : decode c.code pc = .ok (.baload, 1)) (h1 : 0 ≤ j.toInt) (h2 : j.toInt < xs.length) (hv : xs.getD j.toInt.toNat 0 = w) (hp : pc + 1 = pc')
    (K : Done p e below G (T.setTop (mkF m pc' Ls (.int w :: st)))) : Done p e below G (T.setTop (mkF m pc Ls (.int j :: .ref a :: st))) := by
  subst hp hv
  obtain ⟨_, X, -, eT⟩ := S
  obtain ⟨cl, A, q, r⟩ := V
  have hl : j.toInt.toNat < xs.length := by omega
  have hv : cl.slots[j.toNatClampNeg]? = some (.int (xs.getD j.toInt.toNat 0)) := by
    show cl.slots[j.toInt.toNat]? = _
    rw [← Array.getElem?_toList, q, List.getElem?_map, List.getElem?_eq_getElem hl]
    rw [List.getD_eq_getElem?_getD, List.getElem?_eq_getElem hl]; rfl
  exact Done.go (fun t z => X.baloadBytes hx (by rw [eT]; exact A.1) (State.isArrayOf_alike hZ.alike A.2.1) A.2.2 (inb q h1 (by simpa using h2)) hv (g := mkF m pc Ls (.int j :: .ref a :: st)) rfl rfl hd _ z) K
theorem k_laload {j : Int32} {w : Int64} (S : St p l e R s m args below meth c n0 T h k n) (hx : p.tables.exec = Jvm.exec) (hZ : Z.Warmed39 s.vm) (V : LV Z h a ys) (hd : decode c.code pc = .ok (.laload, 1)) (h1 : 0 ≤ j.toInt) (h2 : j.toInt < ys.length) (hv : ys.getD j.toInt.toNat 0 = w) (hp : pc + 1 = pc')
    (K : Done p e below G (T.setTop (mkF m pc' Ls (.long w :: st)))) : Done p e below G (T.setTop (mkF m pc Ls (.int j :: .ref a :: st))) := by
  subst hp hv
  obtain ⟨_, X, -, eT⟩ := S
  obtain ⟨cl, A, q, r⟩ := V
  have hl : j.toInt.toNat < ys.length := by omega
  have hv : cl.slots[j.toNatClampNeg]? = some (.long (ys.getD j.toInt.toNat 0)) := by
    show cl.slots[j.toInt.toNat]? = _
    rw [← Array.getElem?_toList, q, List.getElem?_map, List.getElem?_eq_getElem hl]
    rw [List.getD_eq_getElem?_getD, List.getElem?_eq_getElem hl]; rfl
  exact Done.go (fun t z => X.laload hx (by rw [eT]; exact A.1) (State.isArrayOf_alike hZ.alike A.2.1) A.2.2 (inb q h1 (by simpa using h2)) hv (g := mkF m pc Ls (.int j :: .ref a :: st)) rfl rfl hd _ z) K
theorem k_iastore {j x : Int32} (S : St p l e R s m args below meth c n0 T h k n) (hx : p.tables.exec = Jvm.exec) (hZ : Z.Warmed39 s.vm) (V : IV Z h a xs) (hd : decode c.code pc = .ok (.iastore, 1)) (h1 : 0 ≤ j.toInt) (h2 : j.toInt < xs.length) (ha : n0 ≤ a) (hp : pc + 1 = pc')
    (K : ∀ T' h', Wr h h' a j.toInt.toNat (.int x) → IV Z h' a (xs.set j.toInt.toNat x) → St p l e R s m args below meth c n0 T' h' k n → Done p e below G (T'.setTop (mkF m pc' Ls st))) : Done p e below G (T.setTop (mkF m pc Ls (.int x :: .int j :: .ref a :: st))) := by
  subst hp
  obtain ⟨_, X, N, eT⟩ := S
  have V0 := V
  obtain ⟨cl, A, q, r⟩ := V
  obtain ⟨T', h', X', eT', W, step⟩ := stI X hx hZ eT A (j := j) (inb q h1 (by simpa using h2)) (g := mkF m pc Ls (.int x :: .int j :: .ref a :: st)) rfl rfl hd
  exact Done.go step (K T' h' W (V0.put W) ⟨_, X', Fr.snoc X' N ha, eT'⟩)
theorem k_bastore {j x : Int32} (S : St p l e R s m args below meth c n0 T h k n) (hx : p.tables.exec = Jvm.exec) (hZ : Z.Warmed39 s.vm) (V : BV Z h a xs) (hd : decode c.code pc = .ok (.bastore, 1)) (h1 : 0 ≤ j.toInt) (h2 : j.toInt < xs.length) (ha : n0 ≤ a) (hp : pc + 1 = pc')
    (K : ∀ T' h', Wr h h' a j.toInt.toNat (.int (nar .byte x)) → BV Z h' a (xs.set j.toInt.toNat (nar .byte x)) → St p l e R s m args below meth c n0 T' h' k n → Done p e below G (T'.setTop (mkF m pc' Ls st))) : Done p e below G (T.setTop (mkF m pc Ls (.int x :: .int j :: .ref a :: st))) := by
  subst hp
  obtain ⟨_, X, N, eT⟩ := S
  have V0 := V
  obtain ⟨cl, A, q, r⟩ := V
  obtain ⟨T', h', X', eT', W, step⟩ := stB X hx hZ eT A (j := j) (inb q h1 (by simpa using h2)) (g := mkF m pc Ls (.int x :: .int j :: .ref a :: st)) rfl rfl hd
  exact Done.go step (K T' h' W (V0.put W) ⟨_, X', Fr.snoc X' N ha, eT'⟩)
theorem k_lastore {j : Int32} {x : Int64} (S : St p l e R s m args below meth c n0 T h k n) (hx : p.tables.exec = Jvm.exec) (hZ : Z.Warmed39 s.vm) (V : LV Z h a ys) (hd : decode c.code pc = .ok (.lastore, 1)) (h1 : 0 ≤ j.toInt) (h2 : j.toInt < ys.length) (ha : n0 ≤ a) (hp : pc + 1 = pc')
    (K : ∀ T' h', Wr h h' a j.toInt.toNat (.long x) → LV Z h' a (ys.set j.toInt.toNat x) → St p l e R s m args below meth c n0 T' h' k n → Done p e below G (T'.setTop (mkF m pc' Ls st))) : Done p e below G (T.setTop (mkF m pc Ls (.long x :: .int j :: .ref a :: st))) := by
  subst hp
  obtain ⟨_, X, N, eT⟩ := S
  have V0 := V
  obtain ⟨cl, A, q, r⟩ := V
  obtain ⟨T', h', X', eT', W, step⟩ := stJ X hx hZ eT A (j := j) (inb q h1 (by simpa using h2)) (g := mkF m pc Ls (.long x :: .int j :: .ref a :: st)) rfl rfl hd
  exact Done.go step (K T' h' W (V0.put W) ⟨_, X', Fr.snoc X' N ha, eT'⟩)
theorem k_newint {x : Int32} (S : St p l e R s m args below meth c n0 T h k n) (hx : p.tables.exec = Jvm.exec) (hZ : Z.Warmed39 s.vm) (w : (Jvm.Cond.arrayClass .int).before a0 Z = true) (hd : decode c.code pc = .ok (.newarray .int, 2)) (h1 : 0 ≤ x.toInt) (cap : Nat) (h2 : x.toInt ≤ cap) (h3 : cap * 8 ≤ 536870912) (hk : k + 1 ≤ R.cells) (hn : n + cap ≤ R.slots) (hp : pc + 2 = pc')
    (K : ∀ T' h' b, b = h.size → Ext h h' → IV Z h' b (List.replicate x.toInt.toNat 0) → St p l e R s m args below meth c n0 T' h' (k + 1) (n + cap) → Done p e below G (T'.setTop (mkF m pc' Ls (.ref b :: st)))) : Done p e below G (T.setTop (mkF m pc Ls (.int x :: st))) := by
  subst hp
  obtain ⟨_, X, N, eT⟩ := S
  obtain ⟨T', h', cA, X', eT', E, A, step⟩ := newP X hx hZ (aty := .int) w eT (g := mkF m pc Ls (.int x :: st)) rfl hd rfl (by rw [Int32.lt_iff_toInt_lt]; show ¬ x.toInt < 0; omega) (cap := cap) (by show x.toInt.toNat ≤ cap; omega) h3 hk hn
  have V := Vec.mk A
  refine Done.go step (K T' h' _ rfl E ?_ ⟨_, X', N, eT'⟩)
  show Vec Z h' h.size .int _
  rw [List.map_replicate]; exact V
theorem k_newbyte {x : Int32} (S : St p l e R s m args below meth c n0 T h k n) (hx : p.tables.exec = Jvm.exec) (hZ : Z.Warmed39 s.vm) (w : (Jvm.Cond.arrayClass .byte).before a0 Z = true) (hd : decode c.code pc = .ok (.newarray .byte, 2)) (h1 : 0 ≤ x.toInt) (cap : Nat) (h2 : x.toInt ≤ cap) (h3 : cap * 8 ≤ 536870912) (hk : k + 1 ≤ R.cells) (hn : n + cap ≤ R.slots) (hp : pc + 2 = pc')
    (K : ∀ T' h' b, b = h.size → Ext h h' → BV Z h' b (List.replicate x.toInt.toNat 0) → St p l e R s m args below meth c n0 T' h' (k + 1) (n + cap) → Done p e below G (T'.setTop (mkF m pc' Ls (.ref b :: st)))) : Done p e below G (T.setTop (mkF m pc Ls (.int x :: st))) := by
  subst hp
  obtain ⟨_, X, N, eT⟩ := S
  obtain ⟨T', h', cA, X', eT', E, A, step⟩ := newP X hx hZ (aty := .byte) w eT (g := mkF m pc Ls (.int x :: st)) rfl hd rfl (by rw [Int32.lt_iff_toInt_lt]; show ¬ x.toInt < 0; omega) (cap := cap) (by show x.toInt.toNat ≤ cap; omega) h3 hk hn
  have V := Vec.mk A
  refine Done.go step (K T' h' _ rfl E ?_ ⟨_, X', N, eT'⟩)
  show Vec Z h' h.size .byte _
  rw [List.map_replicate]; exact V
theorem k_newlong {x : Int32} (S : St p l e R s m args below meth c n0 T h k n) (hx : p.tables.exec = Jvm.exec) (hZ : Z.Warmed39 s.vm) (w : (Jvm.Cond.arrayClass .long).before a0 Z = true) (hd : decode c.code pc = .ok (.newarray .long, 2)) (h1 : 0 ≤ x.toInt) (cap : Nat) (h2 : x.toInt ≤ cap) (h3 : cap * 8 ≤ 536870912) (hk : k + 1 ≤ R.cells) (hn : n + cap ≤ R.slots) (hp : pc + 2 = pc')
    (K : ∀ T' h' b, b = h.size → Ext h h' → LV Z h' b (List.replicate x.toInt.toNat 0) → St p l e R s m args below meth c n0 T' h' (k + 1) (n + cap) → Done p e below G (T'.setTop (mkF m pc' Ls (.ref b :: st)))) : Done p e below G (T.setTop (mkF m pc Ls (.int x :: st))) := by
  subst hp
  obtain ⟨_, X, N, eT⟩ := S
  obtain ⟨T', h', cA, X', eT', E, A, step⟩ := newP X hx hZ (aty := .long) w eT (g := mkF m pc Ls (.int x :: st)) rfl hd rfl (by rw [Int32.lt_iff_toInt_lt]; show ¬ x.toInt < 0; omega) (cap := cap) (by show x.toInt.toNat ≤ cap; omega) h3 hk hn
  have V := Vec.mk A
  refine Done.go step (K T' h' _ rfl E ?_ ⟨_, X', N, eT'⟩)
  show Vec Z h' h.size .long _
  rw [List.map_replicate]; exact V
theorem k_getstatic (S : St p l e R s m args below meth c n0 T h k n) (hx : p.tables.exec = Jvm.exec) (hZ : Z.Warmed39 s.vm) {own O f d : String} {index : Nat} (hown : s.vm.findClass own = some m.cls) (w : (Jvm.Cond.fieldLink own index O f d).before a0 Z = true)
    (F : Sta Z h O f d v) (hd : decode c.code pc = .ok (.getstatic index, 3)) (hp : pc + 3 = pc')
    (K : ∀ T', St p l e R s m args below meth c n0 T' h k n → Done p e below G (T'.setTop (mkF m pc' Ls (v :: st)))) : Done p e below G (T.setTop (mkF m pc Ls st)) := by
  subst hp
  obtain ⟨locs, X, N, eT⟩ := S
  obtain ⟨T', X', eT', step⟩ := getS2 X hx hZ hown (host := "") (Or.inl w) Via.refl eT F (g := mkF m pc Ls st) rfl hd
  exact Done.go step (K T' ⟨_, X', N, eT'⟩)
theorem IV.arv (F : IV Z h a xs) : ∃ k, Arv Z h a k .int xs.length.toInt32 (xs.map Value.int) (.int 0) := by
  obtain ⟨c, A, q, r⟩ := F
  have hl : xs.length < 2 ^ 31 := by simpa using r
  have e0 : xs.length.toInt32.toInt = (xs.length : Int) := by
    show (Int32.ofNat xs.length).toInt = _
    exact Int32.toInt_ofNat_of_lt hl
  have hs : c.slots.size = xs.length := by have := congrArg List.length q; simpa using this
  refine ⟨c.cls, c, A, rfl, ?_, ?_, ?_, ?_⟩
  · show c.slots.size = xs.length.toInt32.toInt.toNat
    rw [e0, hs]; simp
  · rw [Int32.lt_iff_toInt_lt, e0]; show ¬ (xs.length : Int) < 0; omega
  · intro i hi
    rw [← Array.getElem?_toList, q, List.getD_eq_getElem?_getD]
    have : i < (xs.map Value.int).length := by simpa [← hs] using hi
    rw [List.getElem?_eq_getElem this]; rfl
  · intro i hi
    have : i < (xs.map Value.int).length := by simpa [← hs] using hi
    rw [List.getD_eq_getElem?_getD, List.getElem?_eq_getElem this]
    simp [fits]
theorem IV.of_arv {k : ClassId} {z : Int32} (F : Arv Z h a k .int z (xs.map Value.int) (.int 0)) (hz : z.toInt = (xs.length : Int)) : IV Z h a xs := by
  obtain ⟨c, A, -, hs, -, H, -⟩ := F
  have hs' : c.slots.size = xs.length := by rw [hs]; show z.toInt.toNat = _; omega
  refine ⟨c, A, ?_, by have := z.toInt_lt; simp; omega⟩
  refine List.ext_getElem? fun i => ?_
  by_cases hi : i < c.slots.size
  · rw [Array.getElem?_toList, H i hi, List.getD_eq_getElem?_getD]
    have : i < (xs.map Value.int).length := by simpa [← hs'] using hi
    rw [List.getElem?_eq_getElem this]; rfl
  · rw [List.getElem?_eq_none (by simpa using hi), List.getElem?_eq_none (by simp; omega)]
theorem k_arraycopy {nn : Int32} {xs' : List Int32} (S : St p l e R s m args below meth c n0 T h k n) (hx : p.tables.exec = Jvm.exec) (hZ : Z.Warmed39 s.vm) {own : String} {index : Nat} (hown : s.vm.findClass own = some m.cls)
    (w1 : (Jvm.Cond.methodLink own index Jvm.Stand.acN).before a0 Z = true) (w2 : (Jvm.Cond.native Jvm.Stand.acN).before a0 Z = true) (w3 : (Jvm.Cond.static Jvm.Stand.acN).before a0 Z = true) (w4 : (Jvm.Cond.initialized "java/lang/System").before a0 Z = true)
    (A : IV Z h a xs) (B : IV Z h b xs') (h1 : 0 ≤ nn.toInt) (h2 : nn.toInt ≤ xs.length) (h3 : nn.toInt ≤ xs'.length) (ge : n0 ≤ b) (hml : Ls.size = c.maxLocals) (hd : decode c.code pc = .ok (.invokestatic index, 3)) (hf : 1 ≤ R.frames) (W : Nat) (hW : (st.map fun v => v.category).sum ≤ W) (hlo : W + 18 ≤ R.locals) (hp : pc + 3 = pc')
    (K : ∀ T' h', Keep h h' [b] → IV Z h' b (xs.take nn.toInt.toNat ++ xs'.drop nn.toInt.toNat) → St p l e R s m args below meth c n0 T' h' k n → Done p e below G (T'.setTop (mkF m pc' Ls st))) :
    Done p e below G (T.setTop (mkF m pc Ls (.int nn :: .int 0 :: .ref b :: .int 0 :: .ref a :: st))) := by
  subst hp
  obtain ⟨_, X, N, eT⟩ := S
  have la := A.len
  have lb := B.len
  obtain ⟨ka, Aa⟩ := A.arv
  obtain ⟨kb, Bb⟩ := B.arv
  have ea : xs.length.toInt32.toInt = (xs.length : Int) := Int32.toInt_ofNat_of_lt la
  have eb : xs'.length.toInt32.toInt = (xs'.length : Int) := Int32.toInt_ofNat_of_lt lb
  have z0 : (0 : Int32).toNatClampNeg = 0 := rfl
  obtain ⟨T', h', L, X', eT', N', Kp, V, step⟩ := cpA X hx hZ hown w1 w2 w3 w4 eT (sp := 0) (dp := 0) (nn := nn) (us := (xs.take nn.toInt.toNat).map Value.int) Aa Bb (Or.inl ⟨rfl, rfl⟩) (by decide) (by decide) (by rw [Int32.lt_iff_toInt_lt]; show ¬ nn.toInt < 0; omega)
    (by rw [z0]; show 0 + nn.toInt.toNat ≤ xs.length.toInt32.toInt.toNat; omega) (by rw [z0]; show 0 + nn.toInt.toNat ≤ xs'.length.toInt32.toInt.toNat; omega)
    (by
      refine List.ext_getElem (by show _ = (List.map _ (List.range nn.toInt.toNat)).length; rw [List.length_map, List.length_take, List.length_map, List.length_range]; omega) fun i g1 g2 => ?_
      have g3 : i < nn.toInt.toNat := by have := g1; rw [List.length_map, List.length_take] at this; omega
      simp only [List.getElem_map, List.getElem_take, List.getElem_range, z0, Nat.zero_add]
      rw [List.getD_eq_getElem?_getD, List.getElem?_map, List.getElem?_eq_getElem (by omega)]; rfl)
    (by rw [z0]; show 0 + nn.toInt.toNat ≤ _; rw [List.length_map]; omega) N ge (g := mkF m pc Ls (.int nn :: .int 0 :: .ref b :: .int 0 :: .ref a :: st)) rfl hml rfl hd hf (W := W) (by show 2 * 0 + _ ≤ _; omega) (by show W + 18 ≤ _; exact hlo)
  refine Done.go step (K T' h' Kp ?_ ⟨_, X', N', eT'⟩)
  refine IV.of_arv (k := kb) (z := xs'.length.toInt32) ?_ (by rw [eb, List.length_append, List.length_take, List.length_drop]; omega)
  have e : (List.map Value.int xs').take (0 : Int32).toNatClampNeg ++ (xs.take nn.toInt.toNat).map Value.int ++ (List.map Value.int xs').drop ((0 : Int32).toNatClampNeg + nn.toNatClampNeg) = (xs.take nn.toInt.toNat ++ xs'.drop nn.toInt.toNat).map Value.int := by
    rw [z0]; show List.take 0 _ ++ _ ++ List.drop (0 + nn.toInt.toNat) _ = _
    simp
  rw [← e]; exact V
theorem k_arraycopyD {nn dp : Int32} {xs' : List Int32} (S : St p l e R s m args below meth c n0 T h k n) (hx : p.tables.exec = Jvm.exec) (hZ : Z.Warmed39 s.vm) {own : String} {index : Nat} (hown : s.vm.findClass own = some m.cls)
    (w1 : (Jvm.Cond.methodLink own index Jvm.Stand.acN).before a0 Z = true) (w2 : (Jvm.Cond.native Jvm.Stand.acN).before a0 Z = true) (w3 : (Jvm.Cond.static Jvm.Stand.acN).before a0 Z = true) (w4 : (Jvm.Cond.initialized "java/lang/System").before a0 Z = true)
    (A : IV Z h a xs) (B : IV Z h b xs') (h1 : 0 ≤ nn.toInt) (h2 : nn.toInt ≤ xs.length) (h4 : 0 ≤ dp.toInt) (h3 : dp.toInt + nn.toInt ≤ xs'.length) (ge : n0 ≤ b) (hml : Ls.size = c.maxLocals) (hd : decode c.code pc = .ok (.invokestatic index, 3)) (hf : 1 ≤ R.frames) (W : Nat) (hW : (st.map fun v => v.category).sum ≤ W) (hlo : W + 18 ≤ R.locals) (hp : pc + 3 = pc')
    (K : ∀ T' h', Keep h h' [b] → IV Z h' b (xs'.take dp.toInt.toNat ++ xs.take nn.toInt.toNat ++ xs'.drop (dp.toInt.toNat + nn.toInt.toNat)) → St p l e R s m args below meth c n0 T' h' k n → Done p e below G (T'.setTop (mkF m pc' Ls st))) :
    Done p e below G (T.setTop (mkF m pc Ls (.int nn :: .int dp :: .ref b :: .int 0 :: .ref a :: st))) := by
  subst hp
  obtain ⟨_, X, N, eT⟩ := S
  have la := A.len
  have lb := B.len
  obtain ⟨ka, Aa⟩ := A.arv
  obtain ⟨kb, Bb⟩ := B.arv
  have ea : xs.length.toInt32.toInt = (xs.length : Int) := Int32.toInt_ofNat_of_lt la
  have eb : xs'.length.toInt32.toInt = (xs'.length : Int) := Int32.toInt_ofNat_of_lt lb
  have z0 : (0 : Int32).toNatClampNeg = 0 := rfl
  obtain ⟨T', h', L, X', eT', N', Kp, V, step⟩ := cpA X hx hZ hown w1 w2 w3 w4 eT (sp := 0) (dp := dp) (nn := nn) (us := (xs.take nn.toInt.toNat).map Value.int) Aa Bb (Or.inl ⟨rfl, rfl⟩) (by decide) (by rw [Int32.lt_iff_toInt_lt]; show ¬ dp.toInt < 0; omega) (by rw [Int32.lt_iff_toInt_lt]; show ¬ nn.toInt < 0; omega)
    (by rw [z0]; show 0 + nn.toInt.toNat ≤ xs.length.toInt32.toInt.toNat; omega) (by show dp.toInt.toNat + nn.toInt.toNat ≤ xs'.length.toInt32.toInt.toNat; omega)
    (by
      refine List.ext_getElem (by show _ = (List.map _ (List.range nn.toInt.toNat)).length; rw [List.length_map, List.length_take, List.length_map, List.length_range]; omega) fun i g1 g2 => ?_
      have g3 : i < nn.toInt.toNat := by have := g1; rw [List.length_map, List.length_take] at this; omega
      simp only [List.getElem_map, List.getElem_take, List.getElem_range, z0, Nat.zero_add]
      rw [List.getD_eq_getElem?_getD, List.getElem?_map, List.getElem?_eq_getElem (by omega)]; rfl)
    (by show dp.toInt.toNat + nn.toInt.toNat ≤ _; rw [List.length_map]; omega) N ge (g := mkF m pc Ls (.int nn :: .int dp :: .ref b :: .int 0 :: .ref a :: st)) rfl hml rfl hd hf (W := W) (by show 2 * 0 + _ ≤ _; omega) (by show W + 18 ≤ _; exact hlo)
  refine Done.go step (K T' h' Kp ?_ ⟨_, X', N', eT'⟩)
  refine IV.of_arv (k := kb) (z := xs'.length.toInt32) ?_ (by rw [eb, List.length_append, List.length_append, List.length_take, List.length_take, List.length_drop]; omega)
  have e : (List.map Value.int xs').take dp.toNatClampNeg ++ (xs.take nn.toInt.toNat).map Value.int ++ (List.map Value.int xs').drop (dp.toNatClampNeg + nn.toNatClampNeg) = (xs'.take dp.toInt.toNat ++ xs.take nn.toInt.toNat ++ xs'.drop (dp.toInt.toNat + nn.toInt.toNat)).map Value.int := by
    show List.take dp.toInt.toNat _ ++ _ ++ List.drop (dp.toInt.toNat + nn.toInt.toNat) _ = _
    simp
  rw [← e]; exact V
theorem k_newintE {x : Int32} (S : St p l e R s m args below meth c n0 T h k n) (hx : p.tables.exec = Jvm.exec) (hZ : Z.Warmed39 s.vm) (w : (Jvm.Cond.arrayClass .int).before a0 Z = true) (hd : decode c.code pc = .ok (.newarray .int, 2)) (h1 : 0 ≤ x.toInt) (cap : Nat) (h2 : x.toInt ≤ cap) (h3 : cap * 8 ≤ 536870912) (hk : k + 1 ≤ R.cells) (hn : n + cap ≤ R.slots) (hp : pc + 2 = pc')
    (K : ∀ T' h' b, b = h.size → Ext h h' → IV Z h' b (List.replicate x.toInt.toNat 0) → Exa Z h' b "[I" → St p l e R s m args below meth c n0 T' h' (k + 1) (n + cap) → Done p e below G (T'.setTop (mkF m pc' Ls (.ref b :: st)))) : Done p e below G (T.setTop (mkF m pc Ls (.int x :: st))) := by
  subst hp
  obtain ⟨_, X, N, eT⟩ := S
  obtain ⟨T', h', cA, X', eT', E, A, EX, step⟩ := newPE X hx hZ (aty := .int) w eT (g := mkF m pc Ls (.int x :: st)) rfl hd rfl (by rw [Int32.lt_iff_toInt_lt]; show ¬ x.toInt < 0; omega) (cap := cap) (by show x.toInt.toNat ≤ cap; omega) h3 hk hn (ad := "[I") (by decide)
  have V := Vec.mk A
  refine Done.go step (K T' h' _ rfl E ?_ EX ⟨_, X', N, eT'⟩)
  show Vec Z h' h.size .int _
  rw [List.map_replicate]; exact V
theorem k_clone (S : St p l e R s m args below meth c n0 T h k n) (hx : p.tables.exec = Jvm.exec) (hZ : Z.Warmed39 s.vm) {own : String} {index : Nat} (hown : s.vm.findClass own = some m.cls)
    (w1 : (Jvm.Cond.methodLink own index ⟨"[I", "clone", "()Ljava/lang/Object;"⟩).before a0 Z = true) (w2 : (Jvm.Cond.sameMethod "[I" "java/lang/Object" "clone" "()Ljava/lang/Object;").before a0 Z = true) (w3 : (Jvm.Cond.native ⟨"java/lang/Object", "clone", "()Ljava/lang/Object;"⟩).before a0 Z = true)
    (w4 : (Jvm.Cond.instanceMethod ⟨"java/lang/Object", "clone", "()Ljava/lang/Object;"⟩).before a0 Z = true) (w5 : (Jvm.Cond.selects "[I" ⟨"[I", "clone", "()Ljava/lang/Object;"⟩ ⟨"java/lang/Object", "clone", "()Ljava/lang/Object;"⟩).before a0 Z = true) (w6 : (Jvm.Cond.castable "[I" "java/lang/Cloneable").before a0 Z = true)
    (V : IV Z h a xs) (E : Exa Z h a "[I") (hml : Ls.size = c.maxLocals) (hd : decode c.code pc = .ok (.invokevirtual index, 3)) (hf : 1 ≤ R.frames) (W : Nat) (hW : (st.map fun v => v.category).sum ≤ W) (hlo : W + 14 ≤ R.locals) (cap : Nat) (hcap : xs.length ≤ cap) (hk : k + 1 ≤ R.cells) (hn : n + cap ≤ R.slots) (hp : pc + 3 = pc')
    (K : ∀ T' h' b, b = h.size → Ext h h' → IV Z h' b xs → Exa Z h' b "[I" → St p l e R s m args below meth c n0 T' h' (k + 1) (n + cap) → Done p e below G (T'.setTop (mkF m pc' Ls (.ref b :: st)))) :
    Done p e below G (T.setTop (mkF m pc Ls (.ref a :: st))) := by
  subst hp
  obtain ⟨_, X, N, eT⟩ := S
  obtain ⟨cl, A, q, r⟩ := V
  have hsz : cl.slots.size = xs.length := by have := congrArg List.length q; simpa using this
  have F : FitC Z cl := fitC_of A fun i hi v hv => by
    rw [← Array.getElem?_toList, q, List.getElem?_map] at hv
    cases e : xs[i]? with
    | none => rw [e] at hv; cases hv
    | some z => rw [e] at hv; cases hv; rfl
  obtain ⟨T', h', X', eT', ex, A', E', step⟩ := cloneA X hx hZ hown w1 w2 w3 w4 w5 w6 eT A E F (g := mkF m pc Ls (.ref a :: st)) rfl hml rfl hd hf (W := W) (by show 2 * 0 + _ ≤ _; omega) hlo (cap := cap) (by omega) hk hn
  exact Done.go step (K T' h' _ rfl ex ⟨cloneOf cl, A', q, r⟩ E' ⟨_, X', N, eT'⟩)
theorem k_checkcast (S : St p l e R s m args below meth c n0 T h k n) (hx : p.tables.exec = Jvm.exec) (hZ : Z.Warmed39 s.vm) {own C : String} {index : Nat} (hown : s.vm.findClass own = some m.cls) (w : (Jvm.Cond.classLink own index C).before a0 Z = true)
    (F : Ins Z h a C true) (hd : decode c.code pc = .ok (.checkcast index, 3)) (hp : pc + 3 = pc')
    (K : ∀ T', St p l e R s m args below meth c n0 T' h k n → Done p e below G (T'.setTop (mkF m pc' Ls (.ref a :: st)))) : Done p e below G (T.setTop (mkF m pc Ls (.ref a :: st))) := by
  subst hp
  obtain ⟨locs, X, N, eT⟩ := S
  obtain ⟨T', X', eT', step⟩ := castY X hx hZ hown w eT F (g := mkF m pc Ls (.ref a :: st)) rfl rfl hd
  exact Done.go step (K T' ⟨_, X', N, eT'⟩)
end Arrays
end Jvm.OwnKit
namespace Jvm.Pilot.@@N@@
open Jvm Jvm.ClassFile Sem Op Lib Jvm.Free Jvm.Stand Jvm.LawKit Jvm.RoadKit Jvm.OwnKit Bundle Jvm.Pilot.@@N@@.Jvm.D
theorem own_bm32 (x : Int) : (x.bmod (2 ^ 32) - x) % 4294967296 = 0 := by have := Int.bmod_emod (x := x) (m := 2 ^ 32); omega
theorem own_bm64 (x : Int) : (x.bmod (2 ^ 64) - x) % 18446744073709551616 = 0 := by have := Int.bmod_emod (x := x) (m := 2 ^ 64); omega
def own_pows : List Int64 := [1, 10, 100, 1000, 10000, 100000, 1000000, 10000000, 100000000, 1000000000, 10000000000, 100000000000, 1000000000000, 10000000000000, 100000000000000, 1000000000000000, 10000000000000000, 100000000000000000, 1000000000000000000]
def own_pow (i : Int32) : Int64 := own_pows.getD i.toInt.toNat 0
theorem own_pow_val (i : Int32) (h1 : 0 ≤ i.toInt) (h2 : i.toInt ≤ 18) : (own_pow i).toInt = 10 ^ i.toInt.toNat := by
  unfold own_pow
  have h : i.toInt.toNat < 19 := by omega
  generalize i.toInt.toNat = k at h
  revert k; decide
theorem own_pow10 (k : Nat) (h : k ≤ 18) : 1 ≤ (10 : Int) ^ k ∧ (10 : Int) ^ k ≤ 1000000000000000000 := by
  have h : k < 19 := by omega
  revert k; decide
def own_neg (n : Int64) : Int64 := if n < 0 then n else -n
def own_ln (n : Int64) (d : Int32) : Int32 := if n < 0 then d + 1 else d
/-- d is the number of digits of n -/
def own_PL (n : Int64) (d : Int32) : Prop := 1 ≤ d.toInt ∧ d.toInt ≤ 19 ∧ (d.toInt < 19 → -(10 : Int) ^ d.toInt.toNat < (own_neg n).toInt) ∧ (1 < d.toInt → (own_neg n).toInt ≤ -(10 : Int) ^ (d.toInt.toNat - 1))
/-- the loop's invariant -/
def own_IL (n : Int64) (d : Int32) (b : Int64) : Prop := 1 ≤ d.toInt ∧ d.toInt ≤ 19 ∧ (d.toInt < 19 → b.toInt = -(10 : Int) ^ d.toInt.toNat) ∧ (1 < d.toInt → (own_neg n).toInt ≤ -(10 : Int) ^ (d.toInt.toNat - 1))
theorem own_IL0 (n : Int64) : own_IL n 1 (-10) := ⟨by decide, by decide, fun _ => by decide, fun h => absurd h (by decide)⟩
theorem own_IL1 {n : Int64} {d : Int32} {b : Int64} (H : own_IL n d b) (h1 : ¬ (19 : Int32) ≤ d) (h2 : ¬ b < own_neg n) : own_IL n (d + 1) (b * 10) ∧ (d + 1).toInt = d.toInt + 1 := by
  obtain ⟨a1, a2, a3, a4⟩ := H
  simp only [Int32.le_iff_toInt_le, Int64.lt_iff_toInt_lt, Int32.reduceToInt] at h1 h2
  have e : (d + 1).toInt = d.toInt + 1 := by
    rw [Int32.toInt_add]; show (d.toInt + 1).bmod _ = _; exact Int.bmod_eq_of_le (by omega) (by omega)
  refine ⟨⟨by omega, by omega, fun h => ?_, fun _ => ?_⟩, e⟩
  · have q := a3 (by omega)
    have e2 : (d + 1).toInt.toNat = d.toInt.toNat + 1 := by omega
    rw [e2, Int64.toInt_mul, q]
    have q3 := own_pow10 (d.toInt.toNat + 1) (by omega)
    rw [Int.pow_succ] at q3 ⊢
    show ((-10 ^ d.toInt.toNat) * 10 : Int).bmod _ = _
    rw [Int.bmod_eq_of_le (by omega) (by omega)]; omega
  · have q := a3 (by omega)
    have e2 : (d + 1).toInt.toNat - 1 = d.toInt.toNat := by omega
    rw [e2]; omega
theorem own_IL2 {n : Int64} {d : Int32} {b : Int64} (H : own_IL n d b) (h : (19 : Int32) ≤ d ∨ b < own_neg n) : own_PL n d := by
  obtain ⟨a1, a2, a3, a4⟩ := H
  simp only [Int32.le_iff_toInt_le, Int64.lt_iff_toInt_lt, Int32.reduceToInt] at h
  refine ⟨a1, a2, fun q => ?_, a4⟩
  have := a3 q; omega
theorem own_lnsub (n : Int64) (d sg : Int32) (h : sg = if n < 0 then 1 else 0) : own_ln n d - sg = d := by
  subst h; unfold own_ln; split
  · apply Int32.toInt_inj.mp
    rw [Int32.toInt_sub, Int32.toInt_add]
    have := d.toInt_lt; have := d.le_toInt
    have q := own_bm32 (d.toInt + (1 : Int32).toInt)
    have q2 := own_bm32 ((d.toInt + (1 : Int32).toInt).bmod (2 ^ 32) - (1 : Int32).toInt)
    have e1 : (1 : Int32).toInt = 1 := rfl
    rw [e1] at q q2 ⊢
    have r1 := Int.bmod_lt (x := (d.toInt + 1).bmod (2 ^ 32) - 1) (m := 2 ^ 32) (by decide)
    have r2 := Int.le_bmod (x := (d.toInt + 1).bmod (2 ^ 32) - 1) (m := 2 ^ 32) (by decide)
    omega
  · apply Int32.toInt_inj.mp
    rw [Int32.toInt_sub]
    have := d.toInt_lt; have := d.le_toInt
    show (d.toInt - 0).bmod _ = _
    rw [Int.sub_zero]; exact Int.bmod_eq_of_le (by omega) (by omega)
theorem own_npow (i : Int32) (h1 : 0 ≤ i.toInt) (h2 : i.toInt ≤ 18) : (-own_pow i).toInt = -(10 : Int) ^ i.toInt.toNat := by
  have q := own_pow_val i h1 h2
  have q3 := own_pow10 i.toInt.toNat (by omega)
  rw [Int64.toInt_neg, q, Int.bmod_eq_of_le (by omega) (by omega)]
theorem own_pl1 {n : Int64} {d : Int32} (H : own_PL n d) (h : d.toInt < 19) : -own_pow d < own_neg n := by
  rw [Int64.lt_iff_toInt_lt, own_npow d (by have := H.1; omega) (by omega)]; exact H.2.2.1 h
theorem own_pl2 {n : Int64} {d e : Int32} (H : own_PL n d) (h : 1 < d.toInt) (he : e.toInt = d.toInt - 1) : ¬ (-own_pow e < own_neg n) := by
  rw [Int64.lt_iff_toInt_lt, own_npow e (by omega) (by have := H.2.1; omega)]
  have q := H.2.2.2 h
  have e2 : e.toInt.toNat = d.toInt.toNat - 1 := by omega
  rw [e2]; omega
theorem own_sub1 {d : Int32} (h : 1 ≤ d.toInt) : (d - 1).toInt = d.toInt - 1 := by
  rw [Int32.toInt_sub]
  have := d.toInt_lt
  show (d.toInt - 1).bmod _ = _
  exact Int.bmod_eq_of_le (by omega) (by omega)
theorem own_pownz (i : Int32) (h1 : 0 ≤ i.toInt) (h2 : i.toInt ≤ 18) : own_pow i ≠ 0 := by
  intro z
  have q := own_pow_val i h1 h2
  have q3 := own_pow10 i.toInt.toNat (by omega)
  rw [z] at q
  have : (0 : Int64).toInt = 0 := rfl
  omega
theorem own_le_of {d : Int32} (h : d < (19 : Int32)) : ¬ (19 : Int32) ≤ d := Int32.not_le.mpr h
theorem own_le_of' {d : Int32} (h : ¬ d < (19 : Int32)) : (19 : Int32) ≤ d := Int32.not_lt.mp h
theorem own_kk (x : Int32) : 0 ≤ ((x &&& 2147483647) % 19).toInt ∧ ((x &&& 2147483647) % 19).toInt ≤ 18 := by
  have q := (c_and x 2147483647 (by decide)).1
  have r := (c_irem (x &&& 2147483647) 19 19 (by decide)).1 q
  omega
theorem own_d2_0 : decode prog_2_method_7_code 0 = .ok (.lload_n 0, 1) := by decide +kernel
theorem own_d2_1 : decode prog_2_method_7_code 1 = .ok (.lconst 0, 1) := by decide +kernel
theorem own_d2_2 : decode prog_2_method_7_code 2 = .ok (.lcmp, 1) := by decide +kernel
theorem own_d2_3 : decode prog_2_method_7_code 3 = .ok (.ifCond .ge 7, 3) := by decide +kernel
theorem own_d2_6 : decode prog_2_method_7_code 6 = .ok (.lload_n 0, 1) := by decide +kernel
theorem own_d2_7 : decode prog_2_method_7_code 7 = .ok (.goto 5, 3) := by decide +kernel
theorem own_d2_10 : decode prog_2_method_7_code 10 = .ok (.lload_n 0, 1) := by decide +kernel
theorem own_d2_11 : decode prog_2_method_7_code 11 = .ok (.lneg, 1) := by decide +kernel
theorem own_d2_12 : decode prog_2_method_7_code 12 = .ok (.lstore_n 2, 1) := by decide +kernel
theorem own_d2_13 : decode prog_2_method_7_code 13 = .ok (.iconst 1, 1) := by decide +kernel
theorem own_d2_14 : decode prog_2_method_7_code 14 = .ok (.istore 4, 2) := by decide +kernel
theorem own_d2_16 : decode prog_2_method_7_code 16 = .ok (.ldc2_w 65, 3) := by decide +kernel
theorem own_d2_19 : decode prog_2_method_7_code 19 = .ok (.lstore 5, 2) := by decide +kernel
theorem own_d2_21 : decode prog_2_method_7_code 21 = .ok (.iload 4, 2) := by decide +kernel
theorem own_d2_23 : decode prog_2_method_7_code 23 = .ok (.bipush 19, 2) := by decide +kernel
theorem own_d2_25 : decode prog_2_method_7_code 25 = .ok (.if_icmp .ge 24, 3) := by decide +kernel
theorem own_d2_28 : decode prog_2_method_7_code 28 = .ok (.lload_n 2, 1) := by decide +kernel
theorem own_d2_29 : decode prog_2_method_7_code 29 = .ok (.lload 5, 2) := by decide +kernel
theorem own_d2_31 : decode prog_2_method_7_code 31 = .ok (.lcmp, 1) := by decide +kernel
theorem own_d2_32 : decode prog_2_method_7_code 32 = .ok (.ifCond .gt 17, 3) := by decide +kernel
theorem own_d2_35 : decode prog_2_method_7_code 35 = .ok (.iinc 4 1, 3) := by decide +kernel
theorem own_d2_38 : decode prog_2_method_7_code 38 = .ok (.lload 5, 2) := by decide +kernel
theorem own_d2_40 : decode prog_2_method_7_code 40 = .ok (.ldc2_w 19, 3) := by decide +kernel
theorem own_d2_43 : decode prog_2_method_7_code 43 = .ok (.lmul, 1) := by decide +kernel
theorem own_d2_44 : decode prog_2_method_7_code 44 = .ok (.lstore 5, 2) := by decide +kernel
theorem own_d2_46 : decode prog_2_method_7_code 46 = .ok (.goto (-25), 3) := by decide +kernel
theorem own_d2_49 : decode prog_2_method_7_code 49 = .ok (.lload_n 0, 1) := by decide +kernel
theorem own_d2_50 : decode prog_2_method_7_code 50 = .ok (.lconst 0, 1) := by decide +kernel
theorem own_d2_51 : decode prog_2_method_7_code 51 = .ok (.lcmp, 1) := by decide +kernel
theorem own_d2_52 : decode prog_2_method_7_code 52 = .ok (.ifCond .ge 10, 3) := by decide +kernel
theorem own_d2_55 : decode prog_2_method_7_code 55 = .ok (.iload 4, 2) := by decide +kernel
theorem own_d2_57 : decode prog_2_method_7_code 57 = .ok (.iconst 1, 1) := by decide +kernel
theorem own_d2_58 : decode prog_2_method_7_code 58 = .ok (.iadd, 1) := by decide +kernel
theorem own_d2_59 : decode prog_2_method_7_code 59 = .ok (.goto 5, 3) := by decide +kernel
theorem own_d2_62 : decode prog_2_method_7_code 62 = .ok (.iload 4, 2) := by decide +kernel
theorem own_d2_64 : decode prog_2_method_7_code 64 = .ok (.ireturn, 1) := by decide +kernel
theorem own_pn2 : plainName "com/example/fold/fold/Decimal" = true := by first | (simp [plainName, overriddenIn]; done) | decide +kernel
set_option maxRecDepth 65536 in
set_option maxHeartbeats 40000000 in
theorem own_clen (l : Launch) (Z : State) (a0 : Array Value) (hw : ∀ d ∈ tables_1, d.before a0 Z = true) (u : Int64) (h0 : Heap) (n0 : Nat) :
    Con l Z (⟨"com/example/fold/fold/Decimal", "length", "(J)I"⟩ : MethodName) prog_2_method_7_code 7 (some .int) ({ frames := 0, cells := 0, slots := 0, locals := 0 } : Room) n0 h0 #[(.long u)] (fun v h => (∃ d, v = some (.int (own_ln u d)) ∧ own_PL u d) ∧ h = h0) := by
  refine Con.intro (plainFor_of_name own_pn2) (Ls := #[.val (.long u), .second, .unset, .unset, .unset, .unset, .unset]) (fun m => by first | (simp [entryFrame, mkF, argsToLocals, Value.category]; done) | rfl) ?_
  intro p e s m below meth c s₁ hx hby hml hown hnm hret hlk hZ S0
  have A0 := S0.here
  have J12_1 : ∀ (T1 : State), ∀ (ng : Int64), St p l e ({ frames := 0, cells := 0, slots := 0, locals := 0 } : Room) s m #[(.long u)] below meth c n0 T1 h0 0 0 → (ng = own_neg u) → Done p e below (OEnd s ({ frames := 0, cells := 0, slots := 0, locals := 0 } : Room) n0 (fun v h => (∃ d, v = some (.int (own_ln u d)) ∧ own_PL u d) ∧ h = h0)) (T1.setTop (mkF m 12 #[.val (.long u), .second, .unset, .unset, .unset, .unset, .unset] [(.long ng)])) := by
    intro T1 ng S1 hng
    have A1 := S1.here
    refine k_lstoreN A1 hx (hb hby own_d2_12) (Ls' := #[.val (.long u), .second, .val (.long ng), .second, .unset, .unset, .unset]) rfl (pc' := 13) rfl ?_
    refine k_iconst A1 hx (hb hby own_d2_13) (v := 1) rfl (pc' := 14) rfl ?_
    refine k_istore A1 hx (hb hby own_d2_14) (Ls' := #[.val (.long u), .second, .val (.long ng), .second, .val (.int (1 : Int32)), .unset, .unset]) rfl (pc' := 16) rfl ?_
    refine k_ldc2Long S1 hx hZ hown (hw _ (List.mem_of_getElem? (i := 28) rfl)) (hb hby own_d2_16) (pc' := 19) rfl ?_
    refine k_lstore A1 hx (hb hby own_d2_19) (Ls' := #[.val (.long u), .second, .val (.long ng), .second, .val (.int (1 : Int32)), .val (.long (-10 : Int64)), .second]) rfl (pc' := 21) rfl ?_
    have L21_2 : ∀ (f : Nat) (T2 : State), ∀ (d : Int32), ∀ (bd : Int64), St p l e ({ frames := 0, cells := 0, slots := 0, locals := 0 } : Room) s m #[(.long u)] below meth c n0 T2 h0 0 0 → (19 - d.toInt < (f : Int)) → (own_IL u d bd) → Done p e below (OEnd s ({ frames := 0, cells := 0, slots := 0, locals := 0 } : Room) n0 (fun v h => (∃ d, v = some (.int (own_ln u d)) ∧ own_PL u d) ∧ h = h0)) (T2.setTop (mkF m 21 #[.val (.long u), .second, .val (.long ng), .second, .val (.int d), .val (.long bd), .second] [])) := by
      intro f
      induction f with
      | zero =>
        intro T2 d bd S2 hms hI
        exfalso
        have q := hI.2.1; omega
      | succ f ih2 =>
        intro T2 d bd S2 hms hI
        have A2 := S2.here
        refine k_iload A2 hx (hb hby own_d2_21) rfl (pc' := 23) rfl ?_
        refine k_bipush A2 hx (hb hby own_d2_23) (v := 19) rfl (pc' := 25) rfl ?_
        refine k_icmp_ge A2 hx (hb hby own_d2_25) (pcY := 49) (by decide) (pc' := 28) rfl (fun hc25 => ?_) (fun hc25 => ?_)
        · refine k_lloadN A2 hx (hb hby own_d2_49) rfl (pc' := 50) rfl ?_
          refine k_lconst A2 hx (hb hby own_d2_50) (v := 0) rfl (pc' := 51) rfl ?_
          refine k_lcmp_ge A2 hx (hb hby own_d2_51) (hb hby own_d2_52) (pcY := 62) (by decide) (pc' := 55) rfl (fun hc51 => ?_) (fun hc51 => ?_)
          · refine k_iload A2 hx (hb hby own_d2_62) rfl (pc' := 64) rfl ?_
            refine k_ret_int S2 hx hret hlk (hb hby own_d2_64) (by decide) (by decide) ?_
            exact ⟨⟨d, by simp [own_ln, hc51], own_IL2 hI (Or.inl (own_le_of' hc25))⟩, rfl⟩
          · refine k_iload A2 hx (hb hby own_d2_55) rfl (pc' := 57) rfl ?_
            refine k_iconst A2 hx (hb hby own_d2_57) (v := 1) rfl (pc' := 58) rfl ?_
            refine k_iadd A2 hx (hb hby own_d2_58) (pc' := 59) rfl ?_
            refine k_goto A2 hx (hb hby own_d2_59) (pc' := 64) (by decide) ?_
            refine k_ret_int S2 hx hret hlk (hb hby own_d2_64) (by decide) (by decide) ?_
            exact ⟨⟨d, by simp [own_ln, hc51], own_IL2 hI (Or.inl (own_le_of' hc25))⟩, rfl⟩
        · refine k_lloadN A2 hx (hb hby own_d2_28) rfl (pc' := 29) rfl ?_
          refine k_lload A2 hx (hb hby own_d2_29) rfl (pc' := 31) rfl ?_
          refine k_lcmp_gt A2 hx (hb hby own_d2_31) (hb hby own_d2_32) (pcY := 49) (by decide) (pc' := 35) rfl (fun hc31 => ?_) (fun hc31 => ?_)
          · refine k_lloadN A2 hx (hb hby own_d2_49) rfl (pc' := 50) rfl ?_
            refine k_lconst A2 hx (hb hby own_d2_50) (v := 0) rfl (pc' := 51) rfl ?_
            refine k_lcmp_ge A2 hx (hb hby own_d2_51) (hb hby own_d2_52) (pcY := 62) (by decide) (pc' := 55) rfl (fun hc51 => ?_) (fun hc51 => ?_)
            · refine k_iload A2 hx (hb hby own_d2_62) rfl (pc' := 64) rfl ?_
              refine k_ret_int S2 hx hret hlk (hb hby own_d2_64) (by decide) (by decide) ?_
              exact ⟨⟨d, by simp [own_ln, hc51], own_IL2 hI (Or.inr (hng ▸ hc31))⟩, rfl⟩
            · refine k_iload A2 hx (hb hby own_d2_55) rfl (pc' := 57) rfl ?_
              refine k_iconst A2 hx (hb hby own_d2_57) (v := 1) rfl (pc' := 58) rfl ?_
              refine k_iadd A2 hx (hb hby own_d2_58) (pc' := 59) rfl ?_
              refine k_goto A2 hx (hb hby own_d2_59) (pc' := 64) (by decide) ?_
              refine k_ret_int S2 hx hret hlk (hb hby own_d2_64) (by decide) (by decide) ?_
              exact ⟨⟨d, by simp [own_ln, hc51], own_IL2 hI (Or.inr (hng ▸ hc31))⟩, rfl⟩
          · refine k_iinc A2 hx (hb hby own_d2_35) rfl (Ls' := #[.val (.long u), .second, .val (.long ng), .second, .val (.int (d + (1 : Int32))), .val (.long bd), .second]) rfl (pc' := 38) rfl ?_
            refine k_lload A2 hx (hb hby own_d2_38) rfl (pc' := 40) rfl ?_
            refine k_ldc2Long S2 hx hZ hown (hw _ (List.mem_of_getElem? (i := 29) rfl)) (hb hby own_d2_40) (pc' := 43) rfl ?_
            refine k_lmul A2 hx (hb hby own_d2_43) (pc' := 44) rfl ?_
            refine k_lstore A2 hx (hb hby own_d2_44) (Ls' := #[.val (.long u), .second, .val (.long ng), .second, .val (.int (d + (1 : Int32))), .val (.long (bd * (10 : Int64))), .second]) rfl (pc' := 46) rfl ?_
            refine k_goto A2 hx (hb hby own_d2_46) (pc' := 21) (by decide) ?_
            exact ih2 T2 (d + (1 : Int32)) (bd * (10 : Int64)) (S2.more (by decide) (by decide)) (by rw [(own_IL1 hI (own_le_of hc25) (hng ▸ hc31)).2]; omega) (own_IL1 hI (own_le_of hc25) (hng ▸ hc31)).1
    exact L21_2 19 T1 (1 : Int32) (-10 : Int64) (S1.more (by decide) (by decide)) (by decide) (own_IL0 u)
  refine k_lloadN A0 hx (hb hby own_d2_0) rfl (pc' := 1) rfl ?_
  refine k_lconst A0 hx (hb hby own_d2_1) (v := 0) rfl (pc' := 2) rfl ?_
  refine k_lcmp_ge A0 hx (hb hby own_d2_2) (hb hby own_d2_3) (pcY := 10) (by decide) (pc' := 6) rfl (fun hc2 => ?_) (fun hc2 => ?_)
  · refine k_lloadN A0 hx (hb hby own_d2_10) rfl (pc' := 11) rfl ?_
    refine k_lneg A0 hx (hb hby own_d2_11) (pc' := 12) rfl ?_
    exact J12_1 s₁ (-u) (S0.more (by decide) (by decide)) (if_neg hc2).symm
  · refine k_lloadN A0 hx (hb hby own_d2_6) rfl (pc' := 7) rfl ?_
    refine k_goto A0 hx (hb hby own_d2_7) (pc' := 12) (by decide) ?_
    exact J12_1 s₁ u (S0.more (by decide) (by decide)) (if_pos hc2).symm
theorem own_d1_0 : decode method_2_code 0 = .ok (.bipush 19, 2) := by decide +kernel
theorem own_d1_2 : decode method_2_code 2 = .ok (.newarray .long, 2) := by decide +kernel
theorem own_d1_4 : decode method_2_code 4 = .ok (.dup, 1) := by decide +kernel
theorem own_d1_5 : decode method_2_code 5 = .ok (.iconst 0, 1) := by decide +kernel
theorem own_d1_6 : decode method_2_code 6 = .ok (.lconst 1, 1) := by decide +kernel
theorem own_d1_7 : decode method_2_code 7 = .ok (.lastore, 1) := by decide +kernel
theorem own_d1_8 : decode method_2_code 8 = .ok (.dup, 1) := by decide +kernel
theorem own_d1_9 : decode method_2_code 9 = .ok (.iconst 1, 1) := by decide +kernel
theorem own_d1_10 : decode method_2_code 10 = .ok (.ldc2_w 7, 3) := by decide +kernel
theorem own_d1_13 : decode method_2_code 13 = .ok (.lastore, 1) := by decide +kernel
theorem own_d1_14 : decode method_2_code 14 = .ok (.dup, 1) := by decide +kernel
theorem own_d1_15 : decode method_2_code 15 = .ok (.iconst 2, 1) := by decide +kernel
theorem own_d1_16 : decode method_2_code 16 = .ok (.ldc2_w 9, 3) := by decide +kernel
theorem own_d1_19 : decode method_2_code 19 = .ok (.lastore, 1) := by decide +kernel
theorem own_d1_20 : decode method_2_code 20 = .ok (.dup, 1) := by decide +kernel
theorem own_d1_21 : decode method_2_code 21 = .ok (.iconst 3, 1) := by decide +kernel
theorem own_d1_22 : decode method_2_code 22 = .ok (.ldc2_w 11, 3) := by decide +kernel
theorem own_d1_25 : decode method_2_code 25 = .ok (.lastore, 1) := by decide +kernel
theorem own_d1_26 : decode method_2_code 26 = .ok (.dup, 1) := by decide +kernel
theorem own_d1_27 : decode method_2_code 27 = .ok (.iconst 4, 1) := by decide +kernel
theorem own_d1_28 : decode method_2_code 28 = .ok (.ldc2_w 13, 3) := by decide +kernel
theorem own_d1_31 : decode method_2_code 31 = .ok (.lastore, 1) := by decide +kernel
theorem own_d1_32 : decode method_2_code 32 = .ok (.dup, 1) := by decide +kernel
theorem own_d1_33 : decode method_2_code 33 = .ok (.iconst 5, 1) := by decide +kernel
theorem own_d1_34 : decode method_2_code 34 = .ok (.ldc2_w 15, 3) := by decide +kernel
theorem own_d1_37 : decode method_2_code 37 = .ok (.lastore, 1) := by decide +kernel
theorem own_d1_38 : decode method_2_code 38 = .ok (.dup, 1) := by decide +kernel
theorem own_d1_39 : decode method_2_code 39 = .ok (.bipush 6, 2) := by decide +kernel
theorem own_d1_41 : decode method_2_code 41 = .ok (.ldc2_w 17, 3) := by decide +kernel
theorem own_d1_44 : decode method_2_code 44 = .ok (.lastore, 1) := by decide +kernel
theorem own_d1_45 : decode method_2_code 45 = .ok (.dup, 1) := by decide +kernel
theorem own_d1_46 : decode method_2_code 46 = .ok (.bipush 7, 2) := by decide +kernel
theorem own_d1_48 : decode method_2_code 48 = .ok (.ldc2_w 19, 3) := by decide +kernel
theorem own_d1_51 : decode method_2_code 51 = .ok (.lastore, 1) := by decide +kernel
theorem own_d1_52 : decode method_2_code 52 = .ok (.dup, 1) := by decide +kernel
theorem own_d1_53 : decode method_2_code 53 = .ok (.bipush 8, 2) := by decide +kernel
theorem own_d1_55 : decode method_2_code 55 = .ok (.ldc2_w 21, 3) := by decide +kernel
theorem own_d1_58 : decode method_2_code 58 = .ok (.lastore, 1) := by decide +kernel
theorem own_d1_59 : decode method_2_code 59 = .ok (.dup, 1) := by decide +kernel
theorem own_d1_60 : decode method_2_code 60 = .ok (.bipush 9, 2) := by decide +kernel
theorem own_d1_62 : decode method_2_code 62 = .ok (.ldc2_w 23, 3) := by decide +kernel
theorem own_d1_65 : decode method_2_code 65 = .ok (.lastore, 1) := by decide +kernel
theorem own_d1_66 : decode method_2_code 66 = .ok (.dup, 1) := by decide +kernel
theorem own_d1_67 : decode method_2_code 67 = .ok (.bipush 10, 2) := by decide +kernel
theorem own_d1_69 : decode method_2_code 69 = .ok (.ldc2_w 25, 3) := by decide +kernel
theorem own_d1_72 : decode method_2_code 72 = .ok (.lastore, 1) := by decide +kernel
theorem own_d1_73 : decode method_2_code 73 = .ok (.dup, 1) := by decide +kernel
theorem own_d1_74 : decode method_2_code 74 = .ok (.bipush 11, 2) := by decide +kernel
theorem own_d1_76 : decode method_2_code 76 = .ok (.ldc2_w 27, 3) := by decide +kernel
theorem own_d1_79 : decode method_2_code 79 = .ok (.lastore, 1) := by decide +kernel
theorem own_d1_80 : decode method_2_code 80 = .ok (.dup, 1) := by decide +kernel
theorem own_d1_81 : decode method_2_code 81 = .ok (.bipush 12, 2) := by decide +kernel
theorem own_d1_83 : decode method_2_code 83 = .ok (.ldc2_w 29, 3) := by decide +kernel
theorem own_d1_86 : decode method_2_code 86 = .ok (.lastore, 1) := by decide +kernel
theorem own_d1_87 : decode method_2_code 87 = .ok (.dup, 1) := by decide +kernel
theorem own_d1_88 : decode method_2_code 88 = .ok (.bipush 13, 2) := by decide +kernel
theorem own_d1_90 : decode method_2_code 90 = .ok (.ldc2_w 31, 3) := by decide +kernel
theorem own_d1_93 : decode method_2_code 93 = .ok (.lastore, 1) := by decide +kernel
theorem own_d1_94 : decode method_2_code 94 = .ok (.dup, 1) := by decide +kernel
theorem own_d1_95 : decode method_2_code 95 = .ok (.bipush 14, 2) := by decide +kernel
theorem own_d1_97 : decode method_2_code 97 = .ok (.ldc2_w 33, 3) := by decide +kernel
theorem own_d1_100 : decode method_2_code 100 = .ok (.lastore, 1) := by decide +kernel
theorem own_d1_101 : decode method_2_code 101 = .ok (.dup, 1) := by decide +kernel
theorem own_d1_102 : decode method_2_code 102 = .ok (.bipush 15, 2) := by decide +kernel
theorem own_d1_104 : decode method_2_code 104 = .ok (.ldc2_w 35, 3) := by decide +kernel
theorem own_d1_107 : decode method_2_code 107 = .ok (.lastore, 1) := by decide +kernel
theorem own_d1_108 : decode method_2_code 108 = .ok (.dup, 1) := by decide +kernel
theorem own_d1_109 : decode method_2_code 109 = .ok (.bipush 16, 2) := by decide +kernel
theorem own_d1_111 : decode method_2_code 111 = .ok (.ldc2_w 37, 3) := by decide +kernel
theorem own_d1_114 : decode method_2_code 114 = .ok (.lastore, 1) := by decide +kernel
theorem own_d1_115 : decode method_2_code 115 = .ok (.dup, 1) := by decide +kernel
theorem own_d1_116 : decode method_2_code 116 = .ok (.bipush 17, 2) := by decide +kernel
theorem own_d1_118 : decode method_2_code 118 = .ok (.ldc2_w 39, 3) := by decide +kernel
theorem own_d1_121 : decode method_2_code 121 = .ok (.lastore, 1) := by decide +kernel
theorem own_d1_122 : decode method_2_code 122 = .ok (.dup, 1) := by decide +kernel
theorem own_d1_123 : decode method_2_code 123 = .ok (.bipush 18, 2) := by decide +kernel
theorem own_d1_125 : decode method_2_code 125 = .ok (.ldc2_w 41, 3) := by decide +kernel
theorem own_d1_128 : decode method_2_code 128 = .ok (.lastore, 1) := by decide +kernel
theorem own_d1_129 : decode method_2_code 129 = .ok (.astore_n 1, 1) := by decide +kernel
theorem own_d1_130 : decode method_2_code 130 = .ok (.aload_n 1, 1) := by decide +kernel
theorem own_d1_131 : decode method_2_code 131 = .ok (.iload_n 0, 1) := by decide +kernel
theorem own_d1_132 : decode method_2_code 132 = .ok (.laload, 1) := by decide +kernel
theorem own_d1_133 : decode method_2_code 133 = .ok (.lreturn, 1) := by decide +kernel
theorem own_pn1 : plainName "com/example/fold/fold/DecimalLengthPinLaw" = true := by first | (simp [plainName, overriddenIn]; done) | decide +kernel
set_option maxRecDepth 65536 in
set_option maxHeartbeats 40000000 in
theorem own_cpow (l : Launch) (Z : State) (a0 : Array Value) (hw : ∀ d ∈ tables_1, d.before a0 Z = true) (i : Int32) (h0 : Heap) (n0 : Nat) (Z0 : n0 ≤ h0.size) (hi : 0 ≤ i.toInt ∧ i.toInt ≤ 18) :
    Con l Z (⟨"com/example/fold/fold/DecimalLengthPinLaw", "pow", "(I)J"⟩ : MethodName) method_2_code 2 (some .long) ({ frames := 0, cells := 1, slots := 19, locals := 0 } : Room) n0 h0 #[(.int i)] (fun v h => v = some (.long (own_pow i)) ∧ Keep h0 h []) := by
  refine Con.intro (plainFor_of_name own_pn1) (Ls := #[.val (.int i), .unset]) (fun m => by first | (simp [entryFrame, mkF, argsToLocals, Value.category]; done) | rfl) ?_
  intro p e s m below meth c s₁ hx hby hml hown hnm hret hlk hZ S0
  have A0 := S0.here
  have K1 := Keep.refl h0 []
  refine k_bipush A0 hx (hb hby own_d1_0) (v := 19) rfl (pc' := 2) rfl ?_
  refine k_newlong S0 hx hZ (hw _ (List.mem_of_getElem? (i := 5) rfl)) (hb hby own_d1_2) (by decide) 19 (by decide) (by decide) (by decide) (by decide) (pc' := 4) rfl ?_
  intro T2 h2 b2 g2 E2 V2 S2
  have bo3 : h0.size ≤ b2 := Nat.le_trans K1.1 (Nat.le_of_eq g2.symm)
  have ge3 : n0 ≤ b2 := Nat.le_trans Z0 bo3
  have A2 := S2.here
  have K4 := K1.ext E2
  have V2 : LV Z h2 b2 [(0 : Int64), (0 : Int64), (0 : Int64), (0 : Int64), (0 : Int64), (0 : Int64), (0 : Int64), (0 : Int64), (0 : Int64), (0 : Int64), (0 : Int64), (0 : Int64), (0 : Int64), (0 : Int64), (0 : Int64), (0 : Int64), (0 : Int64), (0 : Int64), (0 : Int64)] := V2
  refine k_dup A2 hx (hb hby own_d1_4) rfl (pc' := 5) rfl ?_
  refine k_iconst A2 hx (hb hby own_d1_5) (v := 0) rfl (pc' := 6) rfl ?_
  refine k_lconst A2 hx (hb hby own_d1_6) (v := 1) rfl (pc' := 7) rfl ?_
  refine k_lastore S2 hx hZ V2 (hb hby own_d1_7) (by decide) (by first | decide | (simp; done)) ge3 (pc' := 8) rfl ?_
  intro T5 h5 W5 V5 S5
  have A5 := S5.here
  have K7 := K4.wr W5 (Or.inr bo3)
  have V5 : LV Z h5 b2 [(1 : Int64), (0 : Int64), (0 : Int64), (0 : Int64), (0 : Int64), (0 : Int64), (0 : Int64), (0 : Int64), (0 : Int64), (0 : Int64), (0 : Int64), (0 : Int64), (0 : Int64), (0 : Int64), (0 : Int64), (0 : Int64), (0 : Int64), (0 : Int64), (0 : Int64)] := V5
  refine k_dup A5 hx (hb hby own_d1_8) rfl (pc' := 9) rfl ?_
  refine k_iconst A5 hx (hb hby own_d1_9) (v := 1) rfl (pc' := 10) rfl ?_
  refine k_ldc2Long S5 hx hZ hown (hw _ (List.mem_of_getElem? (i := 6) rfl)) (hb hby own_d1_10) (pc' := 13) rfl ?_
  refine k_lastore S5 hx hZ V5 (hb hby own_d1_13) (by decide) (by first | decide | (simp; done)) ge3 (pc' := 14) rfl ?_
  intro T8 h8 W8 V8 S8
  have A8 := S8.here
  have K10 := K7.wr W8 (Or.inr bo3)
  have V8 : LV Z h8 b2 [(1 : Int64), (10 : Int64), (0 : Int64), (0 : Int64), (0 : Int64), (0 : Int64), (0 : Int64), (0 : Int64), (0 : Int64), (0 : Int64), (0 : Int64), (0 : Int64), (0 : Int64), (0 : Int64), (0 : Int64), (0 : Int64), (0 : Int64), (0 : Int64), (0 : Int64)] := V8
  refine k_dup A8 hx (hb hby own_d1_14) rfl (pc' := 15) rfl ?_
  refine k_iconst A8 hx (hb hby own_d1_15) (v := 2) rfl (pc' := 16) rfl ?_
  refine k_ldc2Long S8 hx hZ hown (hw _ (List.mem_of_getElem? (i := 7) rfl)) (hb hby own_d1_16) (pc' := 19) rfl ?_
  refine k_lastore S8 hx hZ V8 (hb hby own_d1_19) (by decide) (by first | decide | (simp; done)) ge3 (pc' := 20) rfl ?_
  intro T11 h11 W11 V11 S11
  have A11 := S11.here
  have K13 := K10.wr W11 (Or.inr bo3)
  have V11 : LV Z h11 b2 [(1 : Int64), (10 : Int64), (100 : Int64), (0 : Int64), (0 : Int64), (0 : Int64), (0 : Int64), (0 : Int64), (0 : Int64), (0 : Int64), (0 : Int64), (0 : Int64), (0 : Int64), (0 : Int64), (0 : Int64), (0 : Int64), (0 : Int64), (0 : Int64), (0 : Int64)] := V11
  refine k_dup A11 hx (hb hby own_d1_20) rfl (pc' := 21) rfl ?_
  refine k_iconst A11 hx (hb hby own_d1_21) (v := 3) rfl (pc' := 22) rfl ?_
  refine k_ldc2Long S11 hx hZ hown (hw _ (List.mem_of_getElem? (i := 8) rfl)) (hb hby own_d1_22) (pc' := 25) rfl ?_
  refine k_lastore S11 hx hZ V11 (hb hby own_d1_25) (by decide) (by first | decide | (simp; done)) ge3 (pc' := 26) rfl ?_
  intro T14 h14 W14 V14 S14
  have A14 := S14.here
  have K16 := K13.wr W14 (Or.inr bo3)
  have V14 : LV Z h14 b2 [(1 : Int64), (10 : Int64), (100 : Int64), (1000 : Int64), (0 : Int64), (0 : Int64), (0 : Int64), (0 : Int64), (0 : Int64), (0 : Int64), (0 : Int64), (0 : Int64), (0 : Int64), (0 : Int64), (0 : Int64), (0 : Int64), (0 : Int64), (0 : Int64), (0 : Int64)] := V14
  refine k_dup A14 hx (hb hby own_d1_26) rfl (pc' := 27) rfl ?_
  refine k_iconst A14 hx (hb hby own_d1_27) (v := 4) rfl (pc' := 28) rfl ?_
  refine k_ldc2Long S14 hx hZ hown (hw _ (List.mem_of_getElem? (i := 9) rfl)) (hb hby own_d1_28) (pc' := 31) rfl ?_
  refine k_lastore S14 hx hZ V14 (hb hby own_d1_31) (by decide) (by first | decide | (simp; done)) ge3 (pc' := 32) rfl ?_
  intro T17 h17 W17 V17 S17
  have A17 := S17.here
  have K19 := K16.wr W17 (Or.inr bo3)
  have V17 : LV Z h17 b2 [(1 : Int64), (10 : Int64), (100 : Int64), (1000 : Int64), (10000 : Int64), (0 : Int64), (0 : Int64), (0 : Int64), (0 : Int64), (0 : Int64), (0 : Int64), (0 : Int64), (0 : Int64), (0 : Int64), (0 : Int64), (0 : Int64), (0 : Int64), (0 : Int64), (0 : Int64)] := V17
  refine k_dup A17 hx (hb hby own_d1_32) rfl (pc' := 33) rfl ?_
  refine k_iconst A17 hx (hb hby own_d1_33) (v := 5) rfl (pc' := 34) rfl ?_
  refine k_ldc2Long S17 hx hZ hown (hw _ (List.mem_of_getElem? (i := 10) rfl)) (hb hby own_d1_34) (pc' := 37) rfl ?_
  refine k_lastore S17 hx hZ V17 (hb hby own_d1_37) (by decide) (by first | decide | (simp; done)) ge3 (pc' := 38) rfl ?_
  intro T20 h20 W20 V20 S20
  have A20 := S20.here
  have K22 := K19.wr W20 (Or.inr bo3)
  have V20 : LV Z h20 b2 [(1 : Int64), (10 : Int64), (100 : Int64), (1000 : Int64), (10000 : Int64), (100000 : Int64), (0 : Int64), (0 : Int64), (0 : Int64), (0 : Int64), (0 : Int64), (0 : Int64), (0 : Int64), (0 : Int64), (0 : Int64), (0 : Int64), (0 : Int64), (0 : Int64), (0 : Int64)] := V20
  refine k_dup A20 hx (hb hby own_d1_38) rfl (pc' := 39) rfl ?_
  refine k_bipush A20 hx (hb hby own_d1_39) (v := 6) rfl (pc' := 41) rfl ?_
  refine k_ldc2Long S20 hx hZ hown (hw _ (List.mem_of_getElem? (i := 11) rfl)) (hb hby own_d1_41) (pc' := 44) rfl ?_
  refine k_lastore S20 hx hZ V20 (hb hby own_d1_44) (by decide) (by first | decide | (simp; done)) ge3 (pc' := 45) rfl ?_
  intro T23 h23 W23 V23 S23
  have A23 := S23.here
  have K25 := K22.wr W23 (Or.inr bo3)
  have V23 : LV Z h23 b2 [(1 : Int64), (10 : Int64), (100 : Int64), (1000 : Int64), (10000 : Int64), (100000 : Int64), (1000000 : Int64), (0 : Int64), (0 : Int64), (0 : Int64), (0 : Int64), (0 : Int64), (0 : Int64), (0 : Int64), (0 : Int64), (0 : Int64), (0 : Int64), (0 : Int64), (0 : Int64)] := V23
  refine k_dup A23 hx (hb hby own_d1_45) rfl (pc' := 46) rfl ?_
  refine k_bipush A23 hx (hb hby own_d1_46) (v := 7) rfl (pc' := 48) rfl ?_
  refine k_ldc2Long S23 hx hZ hown (hw _ (List.mem_of_getElem? (i := 12) rfl)) (hb hby own_d1_48) (pc' := 51) rfl ?_
  refine k_lastore S23 hx hZ V23 (hb hby own_d1_51) (by decide) (by first | decide | (simp; done)) ge3 (pc' := 52) rfl ?_
  intro T26 h26 W26 V26 S26
  have A26 := S26.here
  have K28 := K25.wr W26 (Or.inr bo3)
  have V26 : LV Z h26 b2 [(1 : Int64), (10 : Int64), (100 : Int64), (1000 : Int64), (10000 : Int64), (100000 : Int64), (1000000 : Int64), (10000000 : Int64), (0 : Int64), (0 : Int64), (0 : Int64), (0 : Int64), (0 : Int64), (0 : Int64), (0 : Int64), (0 : Int64), (0 : Int64), (0 : Int64), (0 : Int64)] := V26
  refine k_dup A26 hx (hb hby own_d1_52) rfl (pc' := 53) rfl ?_
  refine k_bipush A26 hx (hb hby own_d1_53) (v := 8) rfl (pc' := 55) rfl ?_
  refine k_ldc2Long S26 hx hZ hown (hw _ (List.mem_of_getElem? (i := 13) rfl)) (hb hby own_d1_55) (pc' := 58) rfl ?_
  refine k_lastore S26 hx hZ V26 (hb hby own_d1_58) (by decide) (by first | decide | (simp; done)) ge3 (pc' := 59) rfl ?_
  intro T29 h29 W29 V29 S29
  have A29 := S29.here
  have K31 := K28.wr W29 (Or.inr bo3)
  have V29 : LV Z h29 b2 [(1 : Int64), (10 : Int64), (100 : Int64), (1000 : Int64), (10000 : Int64), (100000 : Int64), (1000000 : Int64), (10000000 : Int64), (100000000 : Int64), (0 : Int64), (0 : Int64), (0 : Int64), (0 : Int64), (0 : Int64), (0 : Int64), (0 : Int64), (0 : Int64), (0 : Int64), (0 : Int64)] := V29
  refine k_dup A29 hx (hb hby own_d1_59) rfl (pc' := 60) rfl ?_
  refine k_bipush A29 hx (hb hby own_d1_60) (v := 9) rfl (pc' := 62) rfl ?_
  refine k_ldc2Long S29 hx hZ hown (hw _ (List.mem_of_getElem? (i := 14) rfl)) (hb hby own_d1_62) (pc' := 65) rfl ?_
  refine k_lastore S29 hx hZ V29 (hb hby own_d1_65) (by decide) (by first | decide | (simp; done)) ge3 (pc' := 66) rfl ?_
  intro T32 h32 W32 V32 S32
  have A32 := S32.here
  have K34 := K31.wr W32 (Or.inr bo3)
  have V32 : LV Z h32 b2 [(1 : Int64), (10 : Int64), (100 : Int64), (1000 : Int64), (10000 : Int64), (100000 : Int64), (1000000 : Int64), (10000000 : Int64), (100000000 : Int64), (1000000000 : Int64), (0 : Int64), (0 : Int64), (0 : Int64), (0 : Int64), (0 : Int64), (0 : Int64), (0 : Int64), (0 : Int64), (0 : Int64)] := V32
  refine k_dup A32 hx (hb hby own_d1_66) rfl (pc' := 67) rfl ?_
  refine k_bipush A32 hx (hb hby own_d1_67) (v := 10) rfl (pc' := 69) rfl ?_
  refine k_ldc2Long S32 hx hZ hown (hw _ (List.mem_of_getElem? (i := 15) rfl)) (hb hby own_d1_69) (pc' := 72) rfl ?_
  refine k_lastore S32 hx hZ V32 (hb hby own_d1_72) (by decide) (by first | decide | (simp; done)) ge3 (pc' := 73) rfl ?_
  intro T35 h35 W35 V35 S35
  have A35 := S35.here
  have K37 := K34.wr W35 (Or.inr bo3)
  have V35 : LV Z h35 b2 [(1 : Int64), (10 : Int64), (100 : Int64), (1000 : Int64), (10000 : Int64), (100000 : Int64), (1000000 : Int64), (10000000 : Int64), (100000000 : Int64), (1000000000 : Int64), (10000000000 : Int64), (0 : Int64), (0 : Int64), (0 : Int64), (0 : Int64), (0 : Int64), (0 : Int64), (0 : Int64), (0 : Int64)] := V35
  refine k_dup A35 hx (hb hby own_d1_73) rfl (pc' := 74) rfl ?_
  refine k_bipush A35 hx (hb hby own_d1_74) (v := 11) rfl (pc' := 76) rfl ?_
  refine k_ldc2Long S35 hx hZ hown (hw _ (List.mem_of_getElem? (i := 16) rfl)) (hb hby own_d1_76) (pc' := 79) rfl ?_
  refine k_lastore S35 hx hZ V35 (hb hby own_d1_79) (by decide) (by first | decide | (simp; done)) ge3 (pc' := 80) rfl ?_
  intro T38 h38 W38 V38 S38
  have A38 := S38.here
  have K40 := K37.wr W38 (Or.inr bo3)
  have V38 : LV Z h38 b2 [(1 : Int64), (10 : Int64), (100 : Int64), (1000 : Int64), (10000 : Int64), (100000 : Int64), (1000000 : Int64), (10000000 : Int64), (100000000 : Int64), (1000000000 : Int64), (10000000000 : Int64), (100000000000 : Int64), (0 : Int64), (0 : Int64), (0 : Int64), (0 : Int64), (0 : Int64), (0 : Int64), (0 : Int64)] := V38
  refine k_dup A38 hx (hb hby own_d1_80) rfl (pc' := 81) rfl ?_
  refine k_bipush A38 hx (hb hby own_d1_81) (v := 12) rfl (pc' := 83) rfl ?_
  refine k_ldc2Long S38 hx hZ hown (hw _ (List.mem_of_getElem? (i := 17) rfl)) (hb hby own_d1_83) (pc' := 86) rfl ?_
  refine k_lastore S38 hx hZ V38 (hb hby own_d1_86) (by decide) (by first | decide | (simp; done)) ge3 (pc' := 87) rfl ?_
  intro T41 h41 W41 V41 S41
  have A41 := S41.here
  have K43 := K40.wr W41 (Or.inr bo3)
  have V41 : LV Z h41 b2 [(1 : Int64), (10 : Int64), (100 : Int64), (1000 : Int64), (10000 : Int64), (100000 : Int64), (1000000 : Int64), (10000000 : Int64), (100000000 : Int64), (1000000000 : Int64), (10000000000 : Int64), (100000000000 : Int64), (1000000000000 : Int64), (0 : Int64), (0 : Int64), (0 : Int64), (0 : Int64), (0 : Int64), (0 : Int64)] := V41
  refine k_dup A41 hx (hb hby own_d1_87) rfl (pc' := 88) rfl ?_
  refine k_bipush A41 hx (hb hby own_d1_88) (v := 13) rfl (pc' := 90) rfl ?_
  refine k_ldc2Long S41 hx hZ hown (hw _ (List.mem_of_getElem? (i := 18) rfl)) (hb hby own_d1_90) (pc' := 93) rfl ?_
  refine k_lastore S41 hx hZ V41 (hb hby own_d1_93) (by decide) (by first | decide | (simp; done)) ge3 (pc' := 94) rfl ?_
  intro T44 h44 W44 V44 S44
  have A44 := S44.here
  have K46 := K43.wr W44 (Or.inr bo3)
  have V44 : LV Z h44 b2 [(1 : Int64), (10 : Int64), (100 : Int64), (1000 : Int64), (10000 : Int64), (100000 : Int64), (1000000 : Int64), (10000000 : Int64), (100000000 : Int64), (1000000000 : Int64), (10000000000 : Int64), (100000000000 : Int64), (1000000000000 : Int64), (10000000000000 : Int64), (0 : Int64), (0 : Int64), (0 : Int64), (0 : Int64), (0 : Int64)] := V44
  refine k_dup A44 hx (hb hby own_d1_94) rfl (pc' := 95) rfl ?_
  refine k_bipush A44 hx (hb hby own_d1_95) (v := 14) rfl (pc' := 97) rfl ?_
  refine k_ldc2Long S44 hx hZ hown (hw _ (List.mem_of_getElem? (i := 19) rfl)) (hb hby own_d1_97) (pc' := 100) rfl ?_
  refine k_lastore S44 hx hZ V44 (hb hby own_d1_100) (by decide) (by first | decide | (simp; done)) ge3 (pc' := 101) rfl ?_
  intro T47 h47 W47 V47 S47
  have A47 := S47.here
  have K49 := K46.wr W47 (Or.inr bo3)
  have V47 : LV Z h47 b2 [(1 : Int64), (10 : Int64), (100 : Int64), (1000 : Int64), (10000 : Int64), (100000 : Int64), (1000000 : Int64), (10000000 : Int64), (100000000 : Int64), (1000000000 : Int64), (10000000000 : Int64), (100000000000 : Int64), (1000000000000 : Int64), (10000000000000 : Int64), (100000000000000 : Int64), (0 : Int64), (0 : Int64), (0 : Int64), (0 : Int64)] := V47
  refine k_dup A47 hx (hb hby own_d1_101) rfl (pc' := 102) rfl ?_
  refine k_bipush A47 hx (hb hby own_d1_102) (v := 15) rfl (pc' := 104) rfl ?_
  refine k_ldc2Long S47 hx hZ hown (hw _ (List.mem_of_getElem? (i := 20) rfl)) (hb hby own_d1_104) (pc' := 107) rfl ?_
  refine k_lastore S47 hx hZ V47 (hb hby own_d1_107) (by decide) (by first | decide | (simp; done)) ge3 (pc' := 108) rfl ?_
  intro T50 h50 W50 V50 S50
  have A50 := S50.here
  have K52 := K49.wr W50 (Or.inr bo3)
  have V50 : LV Z h50 b2 [(1 : Int64), (10 : Int64), (100 : Int64), (1000 : Int64), (10000 : Int64), (100000 : Int64), (1000000 : Int64), (10000000 : Int64), (100000000 : Int64), (1000000000 : Int64), (10000000000 : Int64), (100000000000 : Int64), (1000000000000 : Int64), (10000000000000 : Int64), (100000000000000 : Int64), (1000000000000000 : Int64), (0 : Int64), (0 : Int64), (0 : Int64)] := V50
  refine k_dup A50 hx (hb hby own_d1_108) rfl (pc' := 109) rfl ?_
  refine k_bipush A50 hx (hb hby own_d1_109) (v := 16) rfl (pc' := 111) rfl ?_
  refine k_ldc2Long S50 hx hZ hown (hw _ (List.mem_of_getElem? (i := 21) rfl)) (hb hby own_d1_111) (pc' := 114) rfl ?_
  refine k_lastore S50 hx hZ V50 (hb hby own_d1_114) (by decide) (by first | decide | (simp; done)) ge3 (pc' := 115) rfl ?_
  intro T53 h53 W53 V53 S53
  have A53 := S53.here
  have K55 := K52.wr W53 (Or.inr bo3)
  have V53 : LV Z h53 b2 [(1 : Int64), (10 : Int64), (100 : Int64), (1000 : Int64), (10000 : Int64), (100000 : Int64), (1000000 : Int64), (10000000 : Int64), (100000000 : Int64), (1000000000 : Int64), (10000000000 : Int64), (100000000000 : Int64), (1000000000000 : Int64), (10000000000000 : Int64), (100000000000000 : Int64), (1000000000000000 : Int64), (10000000000000000 : Int64), (0 : Int64), (0 : Int64)] := V53
  refine k_dup A53 hx (hb hby own_d1_115) rfl (pc' := 116) rfl ?_
  refine k_bipush A53 hx (hb hby own_d1_116) (v := 17) rfl (pc' := 118) rfl ?_
  refine k_ldc2Long S53 hx hZ hown (hw _ (List.mem_of_getElem? (i := 22) rfl)) (hb hby own_d1_118) (pc' := 121) rfl ?_
  refine k_lastore S53 hx hZ V53 (hb hby own_d1_121) (by decide) (by first | decide | (simp; done)) ge3 (pc' := 122) rfl ?_
  intro T56 h56 W56 V56 S56
  have A56 := S56.here
  have K58 := K55.wr W56 (Or.inr bo3)
  have V56 : LV Z h56 b2 [(1 : Int64), (10 : Int64), (100 : Int64), (1000 : Int64), (10000 : Int64), (100000 : Int64), (1000000 : Int64), (10000000 : Int64), (100000000 : Int64), (1000000000 : Int64), (10000000000 : Int64), (100000000000 : Int64), (1000000000000 : Int64), (10000000000000 : Int64), (100000000000000 : Int64), (1000000000000000 : Int64), (10000000000000000 : Int64), (100000000000000000 : Int64), (0 : Int64)] := V56
  refine k_dup A56 hx (hb hby own_d1_122) rfl (pc' := 123) rfl ?_
  refine k_bipush A56 hx (hb hby own_d1_123) (v := 18) rfl (pc' := 125) rfl ?_
  refine k_ldc2Long S56 hx hZ hown (hw _ (List.mem_of_getElem? (i := 23) rfl)) (hb hby own_d1_125) (pc' := 128) rfl ?_
  refine k_lastore S56 hx hZ V56 (hb hby own_d1_128) (by decide) (by first | decide | (simp; done)) ge3 (pc' := 129) rfl ?_
  intro T59 h59 W59 V59 S59
  have A59 := S59.here
  have K61 := K58.wr W59 (Or.inr bo3)
  have V59 : LV Z h59 b2 [(1 : Int64), (10 : Int64), (100 : Int64), (1000 : Int64), (10000 : Int64), (100000 : Int64), (1000000 : Int64), (10000000 : Int64), (100000000 : Int64), (1000000000 : Int64), (10000000000 : Int64), (100000000000 : Int64), (1000000000000 : Int64), (10000000000000 : Int64), (100000000000000 : Int64), (1000000000000000 : Int64), (10000000000000000 : Int64), (100000000000000000 : Int64), (1000000000000000000 : Int64)] := V59
  refine k_astoreN A59 hx (hb hby own_d1_129) rfl (Ls' := #[.val (.int i), .val (.ref b2)]) rfl (pc' := 130) rfl ?_
  refine k_aloadN A59 hx (hb hby own_d1_130) rfl rfl (pc' := 131) rfl ?_
  refine k_iloadN A59 hx (hb hby own_d1_131) rfl (pc' := 132) rfl ?_
  refine k_laload S59 hx hZ V59 (hb hby own_d1_132) hi.1 (by have q := hi.2; show i.toInt < 19; omega) rfl (pc' := 133) rfl ?_
  refine k_ret_long S59 hx hret hlk (hb hby own_d1_133) (by decide) (by decide) ?_
  exact ⟨rfl, K61⟩
theorem own_pn0 : plainName "com/example/fold/fold/DecimalLengthPinLaw" = true := by first | (simp [plainName, overriddenIn]; done) | decide +kernel
theorem own_pd0 : parseMethodDescriptor "(J)I" = some ⟨[.long], some .int⟩ := by decide +kernel
theorem own_pd1 : parseMethodDescriptor "(I)J" = some ⟨[.int], some .long⟩ := by decide +kernel
set_option maxRecDepth 65536 in
set_option maxHeartbeats 40000000 in
theorem own_law (l : Launch) (Z : State) (a0 : Array Value) (hw : ∀ d ∈ tables_1, d.before a0 Z = true) (x0 : Int64) (kr mo : Int32) (h0 : Heap) (n0 : Nat) (Z0 : n0 ≤ h0.size) :
    Con l Z x code maxLocals ret room_1 n0 h0 #[(.long x0), (.int kr), (.int mo)] (fun v h => v = some (.int 1)) := by
  refine Con.intro (plainFor_of_name own_pn0) (Ls := #[.val (.long x0), .second, .val (.int kr), .val (.int mo), .unset, .unset, .unset, .unset, .unset, .unset, .unset, .unset, .unset, .unset, .unset]) (fun m => by first | (simp [entryFrame, mkF, argsToLocals, Value.category, maxLocals]; done) | rfl) ?_
  intro p e s m below meth c s₁ hx hby hml hown hnm hret hlk hZ S0
  have A0 := S0.here
  have K1 := Keep.refl h0 []
  refine k_iloadN A0 hx (hb hby at_0) rfl (pc' := 1) rfl ?_
  refine k_ldcInt S0 hx hZ hown (hw _ (List.mem_of_getElem? (i := 0) rfl)) (hb hby at_1) (pc' := 3) rfl ?_
  refine k_iand A0 hx (hb hby at_3) (pc' := 4) rfl ?_
  refine k_bipush A0 hx (hb hby at_4) (v := 19) rfl (pc' := 6) rfl ?_
  refine k_irem A0 hx (hb hby at_6) (by decide) (pc' := 7) rfl ?_
  have hkk := own_kk kr
  generalize q_kk : ((kr &&& (2147483647 : Int32)) % (19 : Int32)) = kk at hkk ⊢
  refine k_istore A0 hx (hb hby at_7) (Ls' := #[.val (.long x0), .second, .val (.int kr), .val (.int mo), .val (.int kk), .unset, .unset, .unset, .unset, .unset, .unset, .unset, .unset, .unset, .unset]) rfl (pc' := 9) rfl ?_
  refine k_iloadN A0 hx (hb hby at_9) rfl (pc' := 10) rfl ?_
  refine k_iconst A0 hx (hb hby at_10) (v := 3) rfl (pc' := 11) rfl ?_
  refine k_iand A0 hx (hb hby at_11) (pc' := 12) rfl ?_
  refine k_istore A0 hx (hb hby at_12) (Ls' := #[.val (.long x0), .second, .val (.int kr), .val (.int mo), .val (.int kk), .val (.int (mo &&& (3 : Int32))), .unset, .unset, .unset, .unset, .unset, .unset, .unset, .unset, .unset]) rfl (pc' := 14) rfl ?_
  have J25_2 : ∀ (T2 : State), ∀ (fl : Int32), St p l e room_1 s m #[(.long x0), (.int kr), (.int mo)] below meth c n0 T2 h0 0 0 → Done p e below (OEnd s room_1 n0 (fun v h => v = some (.int 1))) (T2.setTop (mkF m 25 #[.val (.long x0), .second, .val (.int kr), .val (.int mo), .val (.int kk), .val (.int (mo &&& (3 : Int32))), .unset, .unset, .unset, .unset, .unset, .unset, .unset, .unset, .unset] [(.int fl)])) := by
    intro T2 fl S2
    have A2 := S2.here
    refine k_istore A2 hx (hb hby at_25) (Ls' := #[.val (.long x0), .second, .val (.int kr), .val (.int mo), .val (.int kk), .val (.int (mo &&& (3 : Int32))), .val (.int fl), .unset, .unset, .unset, .unset, .unset, .unset, .unset, .unset]) rfl (pc' := 27) rfl ?_
    have J81_3 : ∀ (T3 : State) (h3 : Heap), ∀ (n : Int64), St p l e room_1 s m #[(.long x0), (.int kr), (.int mo)] below meth c n0 T3 h3 1 19 → (Keep h0 h3 []) → Done p e below (OEnd s room_1 n0 (fun v h => v = some (.int 1))) (T3.setTop (mkF m 81 #[.val (.long x0), .second, .val (.int kr), .val (.int mo), .val (.int kk), .val (.int (mo &&& (3 : Int32))), .val (.int fl), .val (.long n), .second, .unset, .unset, .unset, .unset, .unset, .unset] [])) := by
      intro T3 h3 n S3 KJ
      have A3 := S3.here
      have J91_4 : ∀ (T4 : State), ∀ (n : Int64), St p l e room_1 s m #[(.long x0), (.int kr), (.int mo)] below meth c n0 T4 h3 1 19 → Done p e below (OEnd s room_1 n0 (fun v h => v = some (.int 1))) (T4.setTop (mkF m 91 #[.val (.long x0), .second, .val (.int kr), .val (.int mo), .val (.int kk), .val (.int (mo &&& (3 : Int32))), .val (.int fl), .val (.long n), .second, .unset, .unset, .unset, .unset, .unset, .unset] [])) := by
        intro T4 n S4
        have A4 := S4.here
        refine k_lload A4 hx (hb hby at_91) rfl (pc' := 93) rfl ?_
        refine k_call_static S4 hx hZ hown (hw _ (List.mem_of_getElem? (i := 24) rfl)) (hw _ (List.mem_of_getElem? (i := 25) rfl)) (hw _ (List.mem_of_getElem? (i := 26) rfl)) (hw _ (List.mem_of_getElem? (i := 27) rfl)) (by decide) (own_clen l Z a0 hw n h3 n0) 0 (argsL := [(.long n)]) (rest := []) (by decide) (by decide) (by rw [hml]; rfl) (lenOf own_pd0 rfl) rfl rfl (Nat.le_refl 0) (hb hby at_93) (pc' := 96) rfl (by decide) (by decide) ?_
        rintro v5 T5 h5 ⟨⟨d, rfl, hPL⟩, q5⟩ S5
        rw [q5] at S5
        have A5 := S5.here
        show Done p e below _ (T5.setTop (mkF m 96 #[.val (.long x0), .second, .val (.int kr), .val (.int mo), .val (.int kk), .val (.int (mo &&& (3 : Int32))), .val (.int fl), .val (.long n), .second, .unset, .unset, .unset, .unset, .unset, .unset] [(.int (own_ln n d))]))
        refine k_istore A5 hx (hb hby at_96) (Ls' := #[.val (.long x0), .second, .val (.int kr), .val (.int mo), .val (.int kk), .val (.int (mo &&& (3 : Int32))), .val (.int fl), .val (.long n), .second, .val (.int (own_ln n d)), .unset, .unset, .unset, .unset, .unset]) rfl (pc' := 98) rfl ?_
        have J110_6 : ∀ (T6 : State), ∀ (sg : Int32), St p l e room_1 s m #[(.long x0), (.int kr), (.int mo)] below meth c n0 T6 h3 1 19 → (sg = if n < 0 then 1 else 0) → Done p e below (OEnd s room_1 n0 (fun v h => v = some (.int 1))) (T6.setTop (mkF m 110 #[.val (.long x0), .second, .val (.int kr), .val (.int mo), .val (.int kk), .val (.int (mo &&& (3 : Int32))), .val (.int fl), .val (.long n), .second, .val (.int (own_ln n d)), .unset, .unset, .unset, .unset, .unset] [(.int sg)])) := by
          intro T6 sg S6 hsg
          have A6 := S6.here
          refine k_istore A6 hx (hb hby at_110) (Ls' := #[.val (.long x0), .second, .val (.int kr), .val (.int mo), .val (.int kk), .val (.int (mo &&& (3 : Int32))), .val (.int fl), .val (.long n), .second, .val (.int (own_ln n d)), .val (.int sg), .unset, .unset, .unset, .unset]) rfl (pc' := 112) rfl ?_
          refine k_iload A6 hx (hb hby at_112) rfl (pc' := 114) rfl ?_
          refine k_iload A6 hx (hb hby at_114) rfl (pc' := 116) rfl ?_
          refine k_isub A6 hx (hb hby at_116) (pc' := 117) rfl ?_
          rw [own_lnsub n d sg hsg]
          refine k_istore A6 hx (hb hby at_117) (Ls' := #[.val (.long x0), .second, .val (.int kr), .val (.int mo), .val (.int kk), .val (.int (mo &&& (3 : Int32))), .val (.int fl), .val (.long n), .second, .val (.int (own_ln n d)), .val (.int sg), .val (.int d), .unset, .unset, .unset]) rfl (pc' := 119) rfl ?_
          refine k_iload A6 hx (hb hby at_119) rfl (pc' := 121) rfl ?_
          refine k_iconst A6 hx (hb hby at_121) (v := 1) rfl (pc' := 122) rfl ?_
          refine k_icmp_lt A6 hx (hb hby at_122) (pcY := 132) (by decide) (pc' := 125) rfl (fun hc122 => by have q := hPL.1; simp only [Int32.lt_iff_toInt_lt, Int32.reduceToInt] at hc122; omega) (fun hc122 => ?_)
          refine k_iload A6 hx (hb hby at_125) rfl (pc' := 127) rfl ?_
          refine k_bipush A6 hx (hb hby at_127) (v := 19) rfl (pc' := 129) rfl ?_
          refine k_icmp_le A6 hx (hb hby at_129) (pcY := 134) (by decide) (pc' := 132) rfl (fun hc129 => ?_) (fun hc129 => by have q := hPL.2.1; simp only [Int32.lt_iff_toInt_lt, Int32.reduceToInt] at hc129; omega)
          have J149_7 : ∀ (T7 : State), ∀ (ng : Int64), St p l e room_1 s m #[(.long x0), (.int kr), (.int mo)] below meth c n0 T7 h3 1 19 → (ng = own_neg n) → Done p e below (OEnd s room_1 n0 (fun v h => v = some (.int 1))) (T7.setTop (mkF m 149 #[.val (.long x0), .second, .val (.int kr), .val (.int mo), .val (.int kk), .val (.int (mo &&& (3 : Int32))), .val (.int fl), .val (.long n), .second, .val (.int (own_ln n d)), .val (.int sg), .val (.int d), .unset, .unset, .unset] [(.long ng)])) := by
            intro T7 ng S7 hng
            have A7 := S7.here
            refine k_lstore A7 hx (hb hby at_149) (Ls' := #[.val (.long x0), .second, .val (.int kr), .val (.int mo), .val (.int kk), .val (.int (mo &&& (3 : Int32))), .val (.int fl), .val (.long n), .second, .val (.int (own_ln n d)), .val (.int sg), .val (.int d), .val (.long ng), .second, .unset]) rfl (pc' := 151) rfl ?_
            refine k_iconst A7 hx (hb hby at_151) (v := 1) rfl (pc' := 152) rfl ?_
            refine k_istore A7 hx (hb hby at_152) (Ls' := #[.val (.long x0), .second, .val (.int kr), .val (.int mo), .val (.int kk), .val (.int (mo &&& (3 : Int32))), .val (.int fl), .val (.long n), .second, .val (.int (own_ln n d)), .val (.int sg), .val (.int d), .val (.long ng), .second, .val (.int (1 : Int32))]) rfl (pc' := 154) rfl ?_
            have J185_8 : ∀ (T8 : State) (h8 : Heap), St p l e room_1 s m #[(.long x0), (.int kr), (.int mo)] below meth c n0 T8 h8 2 38 → (Keep h0 h8 []) → Done p e below (OEnd s room_1 n0 (fun v h => v = some (.int 1))) (T8.setTop (mkF m 185 #[.val (.long x0), .second, .val (.int kr), .val (.int mo), .val (.int kk), .val (.int (mo &&& (3 : Int32))), .val (.int fl), .val (.long n), .second, .val (.int (own_ln n d)), .val (.int sg), .val (.int d), .val (.long ng), .second, .val (.int (1 : Int32))] [])) := by
              intro T8 h8 S8 KJ
              have A8 := S8.here
              refine k_iload A8 hx (hb hby at_185) rfl (pc' := 187) rfl ?_
              refine k_iconst A8 hx (hb hby at_187) (v := 1) rfl (pc' := 188) rfl ?_
              refine k_icmp_le A8 hx (hb hby at_188) (pcY := 217) (by decide) (pc' := 191) rfl (fun hc188 => ?_) (fun hc188 => ?_)
              · refine k_iload A8 hx (hb hby at_217) rfl (pc' := 219) rfl ?_
                refine k_ret_nar S8 hx (t := .boolean) hret (by simp) hlk (hb hby at_219) (z' := (1 : Int32)) rfl (by decide) (by decide) ?_
                exact rfl
              · refine k_iload A8 hx (hb hby at_191) rfl (pc' := 193) rfl ?_
                refine k_if_eq A8 hx (hb hby at_193) (pcY := 214) (by decide) (pc' := 196) rfl (fun hc193 => absurd hc193 (by decide)) (fun hc193 => ?_)
                refine k_lload A8 hx (hb hby at_196) rfl (pc' := 198) rfl ?_
                refine k_iload A8 hx (hb hby at_198) rfl (pc' := 200) rfl ?_
                refine k_iconst A8 hx (hb hby at_200) (v := 1) rfl (pc' := 201) rfl ?_
                refine k_isub A8 hx (hb hby at_201) (pc' := 202) rfl ?_
                refine k_call_static S8 hx hZ hown (hw _ (List.mem_of_getElem? (i := 1) rfl)) (hw _ (List.mem_of_getElem? (i := 2) rfl)) (hw _ (List.mem_of_getElem? (i := 3) rfl)) (hw _ (List.mem_of_getElem? (i := 4) rfl)) (by decide) (own_cpow l Z a0 hw (d - (1 : Int32)) h8 n0 (Nat.le_trans Z0 KJ.1) ⟨by rw [own_sub1 hPL.1]; have q := hPL.1; omega, by rw [own_sub1 hPL.1]; have q := hPL.2.1; omega⟩) 2 (argsL := [(.int (d - (1 : Int32)))]) (rest := [(.long ng)]) (by decide) (by decide) (by rw [hml]; rfl) (lenOf own_pd1 rfl) rfl rfl (Nat.le_refl 2) (hb hby at_202) (pc' := 205) rfl (by decide) (by decide) ?_
                rintro v9 T9 h9 ⟨rfl, K9⟩ S9
                have K10 := KJ.trans K9 all0
                have A9 := S9.here
                show Done p e below _ (T9.setTop (mkF m 205 #[.val (.long x0), .second, .val (.int kr), .val (.int mo), .val (.int kk), .val (.int (mo &&& (3 : Int32))), .val (.int fl), .val (.long n), .second, .val (.int (own_ln n d)), .val (.int sg), .val (.int d), .val (.long ng), .second, .val (.int (1 : Int32))] [(.long (own_pow (d - (1 : Int32)))), (.long ng)]))
                refine k_lneg A9 hx (hb hby at_205) (pc' := 206) rfl ?_
                refine k_lcmp_gt A9 hx (hb hby at_206) (hb hby at_207) (pcY := 214) (by decide) (pc' := 210) rfl (fun hc206 => absurd hc206 (hng ▸ own_pl2 hPL (by simpa only [Int32.lt_iff_toInt_lt, Int32.reduceToInt] using hc188) (own_sub1 hPL.1))) (fun hc206 => ?_)
                refine k_iconst A9 hx (hb hby at_210) (v := 1) rfl (pc' := 211) rfl ?_
                refine k_goto A9 hx (hb hby at_211) (pc' := 215) (by decide) ?_
                refine k_istore A9 hx (hb hby at_215) (Ls' := #[.val (.long x0), .second, .val (.int kr), .val (.int mo), .val (.int kk), .val (.int (mo &&& (3 : Int32))), .val (.int fl), .val (.long n), .second, .val (.int (own_ln n d)), .val (.int sg), .val (.int d), .val (.long ng), .second, .val (.int (1 : Int32))]) rfl (pc' := 217) rfl ?_
                refine k_iload A9 hx (hb hby at_217) rfl (pc' := 219) rfl ?_
                refine k_ret_nar S9 hx (t := .boolean) hret (by simp) hlk (hb hby at_219) (z' := (1 : Int32)) rfl (by decide) (by decide) ?_
                exact rfl
            refine k_iload A7 hx (hb hby at_154) rfl (pc' := 156) rfl ?_
            refine k_bipush A7 hx (hb hby at_156) (v := 19) rfl (pc' := 158) rfl ?_
            refine k_icmp_ge A7 hx (hb hby at_158) (pcY := 185) (by decide) (pc' := 161) rfl (fun hc158 => ?_) (fun hc158 => ?_)
            · exact J185_8 T7 h3  (S7.more (by decide) (by decide)) KJ
            · refine k_iload A7 hx (hb hby at_161) rfl (pc' := 163) rfl ?_
              refine k_if_eq A7 hx (hb hby at_163) (pcY := 182) (by decide) (pc' := 166) rfl (fun hc163 => absurd hc163 (by decide)) (fun hc163 => ?_)
              refine k_lload A7 hx (hb hby at_166) rfl (pc' := 168) rfl ?_
              refine k_iload A7 hx (hb hby at_168) rfl (pc' := 170) rfl ?_
              refine k_call_static S7 hx hZ hown (hw _ (List.mem_of_getElem? (i := 1) rfl)) (hw _ (List.mem_of_getElem? (i := 2) rfl)) (hw _ (List.mem_of_getElem? (i := 3) rfl)) (hw _ (List.mem_of_getElem? (i := 4) rfl)) (by decide) (own_cpow l Z a0 hw d h3 n0 (Nat.le_trans Z0 KJ.1) ⟨by have q := hPL.1; omega, by have q := hPL.2.1; simp only [Int32.lt_iff_toInt_lt, Int32.reduceToInt] at hc158; omega⟩) 2 (argsL := [(.int d)]) (rest := [(.long ng)]) (by decide) (by decide) (by rw [hml]; rfl) (lenOf own_pd1 rfl) rfl rfl (Nat.le_refl 2) (hb hby at_170) (pc' := 173) rfl (by decide) (by decide) ?_
              rintro v11 T11 h11 ⟨rfl, K11⟩ S11
              have K12 := KJ.trans K11 all0
              have A11 := S11.here
              show Done p e below _ (T11.setTop (mkF m 173 #[.val (.long x0), .second, .val (.int kr), .val (.int mo), .val (.int kk), .val (.int (mo &&& (3 : Int32))), .val (.int fl), .val (.long n), .second, .val (.int (own_ln n d)), .val (.int sg), .val (.int d), .val (.long ng), .second, .val (.int (1 : Int32))] [(.long (own_pow d)), (.long ng)]))
              refine k_lneg A11 hx (hb hby at_173) (pc' := 174) rfl ?_
              refine k_lcmp_le A11 hx (hb hby at_174) (hb hby at_175) (pcY := 182) (by decide) (pc' := 178) rfl (fun hc174 => absurd (hng ▸ own_pl1 hPL (by simpa only [Int32.lt_iff_toInt_lt, Int32.reduceToInt] using hc158)) hc174) (fun hc174 => ?_)
              refine k_iconst A11 hx (hb hby at_178) (v := 1) rfl (pc' := 179) rfl ?_
              refine k_goto A11 hx (hb hby at_179) (pc' := 183) (by decide) ?_
              refine k_istore A11 hx (hb hby at_183) (Ls' := #[.val (.long x0), .second, .val (.int kr), .val (.int mo), .val (.int kk), .val (.int (mo &&& (3 : Int32))), .val (.int fl), .val (.long n), .second, .val (.int (own_ln n d)), .val (.int sg), .val (.int d), .val (.long ng), .second, .val (.int (1 : Int32))]) rfl (pc' := 185) rfl ?_
              exact J185_8 T11 h11  (S11.more (by decide) (by decide)) K12
          refine k_lload A6 hx (hb hby at_134) rfl (pc' := 136) rfl ?_
          refine k_lconst A6 hx (hb hby at_136) (v := 0) rfl (pc' := 137) rfl ?_
          refine k_lcmp_ge A6 hx (hb hby at_137) (hb hby at_138) (pcY := 146) (by decide) (pc' := 141) rfl (fun hc137 => ?_) (fun hc137 => ?_)
          · refine k_lload A6 hx (hb hby at_146) rfl (pc' := 148) rfl ?_
            refine k_lneg A6 hx (hb hby at_148) (pc' := 149) rfl ?_
            exact J149_7 T6 (-n) (S6.more (by decide) (by decide)) (if_neg hc137).symm
          · refine k_lload A6 hx (hb hby at_141) rfl (pc' := 143) rfl ?_
            refine k_goto A6 hx (hb hby at_143) (pc' := 149) (by decide) ?_
            exact J149_7 T6 n (S6.more (by decide) (by decide)) (if_pos hc137).symm
        refine k_lload A5 hx (hb hby at_98) rfl (pc' := 100) rfl ?_
        refine k_lconst A5 hx (hb hby at_100) (v := 0) rfl (pc' := 101) rfl ?_
        refine k_lcmp_ge A5 hx (hb hby at_101) (hb hby at_102) (pcY := 109) (by decide) (pc' := 105) rfl (fun hc101 => ?_) (fun hc101 => ?_)
        · refine k_iconst A5 hx (hb hby at_109) (v := 0) rfl (pc' := 110) rfl ?_
          exact J110_6 T5 (0 : Int32) (S5.more (by decide) (by decide)) (if_neg hc101).symm
        · refine k_iconst A5 hx (hb hby at_105) (v := 1) rfl (pc' := 106) rfl ?_
          refine k_goto A5 hx (hb hby at_106) (pc' := 110) (by decide) ?_
          exact J110_6 T5 (1 : Int32) (S5.more (by decide) (by decide)) (if_pos hc101).symm
      refine k_iload A3 hx (hb hby at_81) rfl (pc' := 83) rfl ?_
      refine k_if_eq A3 hx (hb hby at_83) (pcY := 91) (by decide) (pc' := 86) rfl (fun hc83 => ?_) (fun hc83 => ?_)
      · exact J91_4 T3 n (S3.more (by decide) (by decide)) 
      · refine k_lload A3 hx (hb hby at_86) rfl (pc' := 88) rfl ?_
        refine k_lneg A3 hx (hb hby at_88) (pc' := 89) rfl ?_
        refine k_lstore A3 hx (hb hby at_89) (Ls' := #[.val (.long x0), .second, .val (.int kr), .val (.int mo), .val (.int kk), .val (.int (mo &&& (3 : Int32))), .val (.int fl), .val (.long (-n)), .second, .unset, .unset, .unset, .unset, .unset, .unset]) rfl (pc' := 91) rfl ?_
        exact J91_4 T3 (-n) (S3.more (by decide) (by decide)) 
    refine k_iload A2 hx (hb hby at_27) rfl (pc' := 29) rfl ?_
    refine k_if_ne A2 hx (hb hby at_29) (pcY := 38) (by decide) (pc' := 32) rfl (fun hc29 => ?_) (fun hc29 => ?_)
    · refine k_iload A2 hx (hb hby at_38) rfl (pc' := 40) rfl ?_
      refine k_iconst A2 hx (hb hby at_40) (v := 1) rfl (pc' := 41) rfl ?_
      refine k_icmp_ne A2 hx (hb hby at_41) (pcY := 56) (by decide) (pc' := 44) rfl (fun hc41 => ?_) (fun hc41 => ?_)
      · refine k_iload A2 hx (hb hby at_56) rfl (pc' := 58) rfl ?_
        refine k_iconst A2 hx (hb hby at_58) (v := 2) rfl (pc' := 59) rfl ?_
        refine k_icmp_ne A2 hx (hb hby at_59) (pcY := 72) (by decide) (pc' := 62) rfl (fun hc59 => ?_) (fun hc59 => ?_)
        · refine k_iload A2 hx (hb hby at_72) rfl (pc' := 74) rfl ?_
          refine k_call_static S2 hx hZ hown (hw _ (List.mem_of_getElem? (i := 1) rfl)) (hw _ (List.mem_of_getElem? (i := 2) rfl)) (hw _ (List.mem_of_getElem? (i := 3) rfl)) (hw _ (List.mem_of_getElem? (i := 4) rfl)) (by decide) (own_cpow l Z a0 hw kk h0 n0 (Nat.le_trans Z0 K1.1) hkk) 0 (argsL := [(.int kk)]) (rest := []) (by decide) (by decide) (by rw [hml]; rfl) (lenOf own_pd1 rfl) rfl rfl (Nat.le_refl 0) (hb hby at_74) (pc' := 77) rfl (by decide) (by decide) ?_
          rintro v13 T13 h13 ⟨rfl, K13⟩ S13
          have K14 := K1.trans K13 all0
          have A13 := S13.here
          show Done p e below _ (T13.setTop (mkF m 77 #[.val (.long x0), .second, .val (.int kr), .val (.int mo), .val (.int kk), .val (.int (mo &&& (3 : Int32))), .val (.int fl), .unset, .unset, .unset, .unset, .unset, .unset, .unset, .unset] [(.long (own_pow kk))]))
          refine k_lconst A13 hx (hb hby at_77) (v := 1) rfl (pc' := 78) rfl ?_
          refine k_lsub A13 hx (hb hby at_78) (pc' := 79) rfl ?_
          refine k_lstore A13 hx (hb hby at_79) (Ls' := #[.val (.long x0), .second, .val (.int kr), .val (.int mo), .val (.int kk), .val (.int (mo &&& (3 : Int32))), .val (.int fl), .val (.long ((own_pow kk) - (1 : Int64))), .second, .unset, .unset, .unset, .unset, .unset, .unset]) rfl (pc' := 81) rfl ?_
          exact J81_3 T13 h13 ((own_pow kk) - (1 : Int64)) (S13.more (by decide) (by decide)) K14
        · refine k_iload A2 hx (hb hby at_62) rfl (pc' := 64) rfl ?_
          refine k_call_static S2 hx hZ hown (hw _ (List.mem_of_getElem? (i := 1) rfl)) (hw _ (List.mem_of_getElem? (i := 2) rfl)) (hw _ (List.mem_of_getElem? (i := 3) rfl)) (hw _ (List.mem_of_getElem? (i := 4) rfl)) (by decide) (own_cpow l Z a0 hw kk h0 n0 (Nat.le_trans Z0 K1.1) hkk) 0 (argsL := [(.int kk)]) (rest := []) (by decide) (by decide) (by rw [hml]; rfl) (lenOf own_pd1 rfl) rfl rfl (Nat.le_refl 0) (hb hby at_64) (pc' := 67) rfl (by decide) (by decide) ?_
          rintro v15 T15 h15 ⟨rfl, K15⟩ S15
          have K16 := K1.trans K15 all0
          have A15 := S15.here
          show Done p e below _ (T15.setTop (mkF m 67 #[.val (.long x0), .second, .val (.int kr), .val (.int mo), .val (.int kk), .val (.int (mo &&& (3 : Int32))), .val (.int fl), .unset, .unset, .unset, .unset, .unset, .unset, .unset, .unset] [(.long (own_pow kk))]))
          refine k_lstore A15 hx (hb hby at_67) (Ls' := #[.val (.long x0), .second, .val (.int kr), .val (.int mo), .val (.int kk), .val (.int (mo &&& (3 : Int32))), .val (.int fl), .val (.long (own_pow kk)), .second, .unset, .unset, .unset, .unset, .unset, .unset]) rfl (pc' := 69) rfl ?_
          refine k_goto A15 hx (hb hby at_69) (pc' := 81) (by decide) ?_
          exact J81_3 T15 h15 (own_pow kk) (S15.more (by decide) (by decide)) K16
      · refine k_lloadN A2 hx (hb hby at_44) rfl (pc' := 45) rfl ?_
        refine k_iload A2 hx (hb hby at_45) rfl (pc' := 47) rfl ?_
        refine k_call_static S2 hx hZ hown (hw _ (List.mem_of_getElem? (i := 1) rfl)) (hw _ (List.mem_of_getElem? (i := 2) rfl)) (hw _ (List.mem_of_getElem? (i := 3) rfl)) (hw _ (List.mem_of_getElem? (i := 4) rfl)) (by decide) (own_cpow l Z a0 hw kk h0 n0 (Nat.le_trans Z0 K1.1) hkk) 2 (argsL := [(.int kk)]) (rest := [(.long x0)]) (by decide) (by decide) (by rw [hml]; rfl) (lenOf own_pd1 rfl) rfl rfl (Nat.le_refl 2) (hb hby at_47) (pc' := 50) rfl (by decide) (by decide) ?_
        rintro v17 T17 h17 ⟨rfl, K17⟩ S17
        have K18 := K1.trans K17 all0
        have A17 := S17.here
        show Done p e below _ (T17.setTop (mkF m 50 #[.val (.long x0), .second, .val (.int kr), .val (.int mo), .val (.int kk), .val (.int (mo &&& (3 : Int32))), .val (.int fl), .unset, .unset, .unset, .unset, .unset, .unset, .unset, .unset] [(.long (own_pow kk)), (.long x0)]))
        refine k_ldiv A17 hx (hb hby at_50) (own_pownz kk hkk.1 hkk.2) (pc' := 51) rfl ?_
        refine k_lstore A17 hx (hb hby at_51) (Ls' := #[.val (.long x0), .second, .val (.int kr), .val (.int mo), .val (.int kk), .val (.int (mo &&& (3 : Int32))), .val (.int fl), .val (.long (x0 / (own_pow kk))), .second, .unset, .unset, .unset, .unset, .unset, .unset]) rfl (pc' := 53) rfl ?_
        refine k_goto A17 hx (hb hby at_53) (pc' := 81) (by decide) ?_
        exact J81_3 T17 h17 (x0 / (own_pow kk)) (S17.more (by decide) (by decide)) K18
    · refine k_lloadN A2 hx (hb hby at_32) rfl (pc' := 33) rfl ?_
      refine k_lstore A2 hx (hb hby at_33) (Ls' := #[.val (.long x0), .second, .val (.int kr), .val (.int mo), .val (.int kk), .val (.int (mo &&& (3 : Int32))), .val (.int fl), .val (.long x0), .second, .unset, .unset, .unset, .unset, .unset, .unset]) rfl (pc' := 35) rfl ?_
      refine k_goto A2 hx (hb hby at_35) (pc' := 81) (by decide) ?_
      exact J81_3 T2 h0 x0 (S2.more (by decide) (by decide)) K1
  refine k_iloadN A0 hx (hb hby at_14) rfl (pc' := 15) rfl ?_
  refine k_iconst A0 hx (hb hby at_15) (v := 4) rfl (pc' := 16) rfl ?_
  refine k_iand A0 hx (hb hby at_16) (pc' := 17) rfl ?_
  refine k_if_eq A0 hx (hb hby at_17) (pcY := 24) (by decide) (pc' := 20) rfl (fun hc17 => ?_) (fun hc17 => ?_)
  · refine k_iconst A0 hx (hb hby at_24) (v := 0) rfl (pc' := 25) rfl ?_
    exact J25_2 s₁ (0 : Int32) (S0.more (by decide) (by decide)) 
  · refine k_iconst A0 hx (hb hby at_20) (v := 1) rfl (pc' := 21) rfl ?_
    refine k_goto A0 hx (hb hby at_21) (pc' := 25) (by decide) ?_
    exact J25_2 s₁ (1 : Int32) (S0.more (by decide) (by decide)) 
set_option maxRecDepth 65536 in
set_option maxHeartbeats 40000000 in
theorem comes_1 {Post : Tables → Env → Array Value → State → Outcome → State → Prop} (hpost : ∀ tb e args s v u, (limb_1_1.after args s (.returned v) u = true ∧ limb_1_2.after args s (.returned v) u = true ∧ True) → FrameEnd s (.returned v) u (Jvm.fieldLocs frame_1_writes args s ++ Jvm.arrayLocs frame_1_arrays args s ++ Jvm.staticLocs frame_1_statics s) 16 192 → Post tb e args s (.returned v) u) :
    ArmFor flags0 classFile x code maxLocals ret World_1 tables_1 room_1 Calls_1 rest_1 Pre_1 Post := by
  intro l hfl _ _ p e ha hc hk s m args below hf hA hF happ hP
  obtain ⟨hcalls, hrest, hpre⟩ := hP
  obtain ⟨-, -, -, hnamed, -, -, -, hat⟩ := (Spec.applies_iff hf).mp happ
  obtain ⟨hg, hn⟩ := and_e (Cond.before_iff.mp (show (Jvm.Cond.and given_1 narrow_1).before args s = true from hpre))
  obtain ⟨g1, g2⟩ := and_e hg
  obtain ⟨g3, g4⟩ := and_e g2
  obtain ⟨g5, g6⟩ := and_e g4
  obtain ⟨w0, w1, w2, rfl⟩ : ∃ w0 w1 w2 : Value, args = #[w0, w1, w2] := by
    have hs : args.size = 3 := by simpa [Cond.value, given_1] using g1
    obtain ⟨L⟩ := args
    match L, hs with
    | [w0, w1, w2], _ => exact ⟨w0, w1, w2, rfl⟩
  have hw := fun d (hd : d ∈ tables_1) => atoms_spec (ws := Jvm.Cond.code x code maxLocals ret :: tables_1) hat d (List.mem_cons_of_mem _ hd)
  obtain ⟨i0, ei0⟩ := isL_v g3
  obtain rfl : w0 = (.long i0) := Option.some.inj ei0
  obtain ⟨i1, ei1⟩ := is_v g5
  obtain rfl : w1 = (.int i1) := Option.some.inj ei1
  obtain ⟨i2, ei2⟩ := is_v g6
  obtain rfl : w2 = (.int i2) := Option.some.inj ei2
  obtain ⟨n, o, h1, h2, h3, _, L, rfl, ⟨rfl, N⟩, hq⟩ := own_law l s _ hw i0 i1 i2 s.heap s.heap.size (Nat.le_refl _) tables_1 p e ha hc hk s m _ below hf ((Spec.applies_iff_loose hf).mp happ).1 ⟨rfl, State.Warmed39.refl s, rfl⟩ trivial
  refine ⟨n, _, h1, h2, h3, hpost _ _ _ _ _ _ ⟨Cond.after_iff.mpr rfl, Cond.after_iff.mpr (eq_i res_at (Term.int_eval (1)) rfl), trivial⟩ ⟨hq.1, hq.2.1, (hq.2.2.sift fun y hy => Or.inr (N y hy)).mono (by decide) (by decide)⟩⟩
theorem main_1_1 : Claimed_1_1 := comes_1 fun _ _ _ _ _ _ h hF => ⟨h.1, hF⟩
theorem main_1_2 : Claimed_1_2 := comes_1 fun _ _ _ _ _ _ h hF => ⟨h.2.1, hF⟩
end Jvm.Pilot.@@N@@
namespace Jvm.Pilot.@@N@@
open Jvm Jvm.ClassFile Sem Op Lib Jvm.Free Jvm.Stand Jvm.Pilot.@@N@@.Jvm.D
/-! MADE BY PROGRAM (witnessworld.py) out of the Statement's table words and the real class files: 11 classes; the members and pool entries that the words name. The judged class is class 1, her method 2. -/
namespace start1
open Jvm.ClassFile
def u (s : String) : CpInfo := .utf8 (stringToUtf16 s)
/-- a pool by its gaps: so many unusable entries, then the entry; so many at the end -/
def gap : Nat → List CpInfo → List CpInfo
  | 0, r => r
  | n + 1, r => .unusable :: gap n r
def poolList (es : List (Nat × CpInfo)) (last : Nat) : List CpInfo := es.foldr (fun e r => gap e.1 (e.2 :: r)) (gap last [])
def pool (es : List (Nat × CpInfo)) (last : Nat) : Array CpInfo := ⟨poolList es last⟩
def fileOf (pool : Array CpInfo) (this : Nat) (attrs : Array Attribute := #[]) (ms : Array MethodInfo := #[]) (fl : Nat := 33) (sup : Nat := 0) (ifs : Array Nat := #[]) (fds : Array FieldInfo := #[]) : ClassFile where
  minorVersion := 0
  majorVersion := 65
  constantPool := pool
  accessFlags := fl
  thisClass := this
  superClass := sup
  interfaces := ifs
  fields := fds
  methods := ms
  attributes := attrs
def plain (name : String) (sup : Option ClassId) : Class where
  name := name
  kind := .ordinary
  loader := none
  accessFlags := 33
  super := sup
  interfaces := #[]
  cf := none
  fields := #[]
  methods := #[]
  instanceTypes := #[]
  staticTypes := #[]
  resolved := #[]
  callSites := []
  init := .initialized
  statics := none
  mirror := none

def pool0 : Array CpInfo := pool [(5, u "<init>"), (0, u "()V"), (1, .class_ 10), (1, u "java/lang/Object")] 113

def k0m0 : Method := { name := "<init>", desc := "()V", sig := { parameters := [], returnType := none }, accessFlags := 1, code := none }
/-- java/lang/Object -/
def k0 : Class := { plain "java/lang/Object" none with
  accessFlags := 33
  interfaces := #[]
  cf := some (fileOf pool0 8 #[] #[{ accessFlags := 1, nameIndex := 5, descriptorIndex := 6, attributes := #[] }] 33 0 #[] #[])
  fields := #[]
  methods := #[k0m0]
  instanceTypes := #[]
  staticTypes := #[]
  resolved := Array.replicate 124 none
  statics := none }

def pool1 : Array CpInfo := pool [(2, .class_ 4), (1, u "java/lang/Object"), (0, u "<init>"), (0, u "()V"), (0, .long 10), (1, .long 100), (1, .long 1000), (1, .long 10000), (1, .long 100000), (1, .long 1000000), (1, .long 10000000), (1, .long 100000000), (1, .long 1000000000), (1, .long 10000000000), (1, .long 100000000000), (1, .long 1000000000000), (1, .long 10000000000000), (1, .long 100000000000000), (1, .long 1000000000000000), (1, .long 10000000000000000), (1, .long 100000000000000000), (1, .long 1000000000000000000), (1, .integer 2147483647), (0, .methodref 45 46), (0, .class_ 47), (0, .nameAndType 48 49), (0, u "com/example/fold/fold/DecimalLengthPinLaw"), (0, u "pow"), (0, u "(I)J"), (0, .methodref 51 52), (0, .class_ 53), (0, .nameAndType 54 55), (0, u "com/example/fold/fold/Decimal"), (0, u "length"), (0, u "(J)I"), (2, u "law"), (0, u "(JII)Z")] 3

def k1m0 : Method := { name := "<init>", desc := "()V", sig := { parameters := [], returnType := none }, accessFlags := 1, code := none }
def k1c1 : Code := { maxStack := 5, maxLocals := 2, code := method_2_code, exceptionTable := #[], attributes := #[] }
def k1m1 : Method := { name := "pow", desc := "(I)J", sig := { parameters := [.int], returnType := some .long }, accessFlags := 10, code := some k1c1 }
def k1c2 : Code := { maxStack := 4, maxLocals := 15, code := code, exceptionTable := #[], attributes := #[] }
def k1m2 : Method := { name := "law", desc := "(JII)Z", sig := { parameters := [.long, .int, .int], returnType := some .boolean }, accessFlags := 9, code := some k1c2 }
/-- com/example/fold/fold/DecimalLengthPinLaw -/
def k1 : Class := { plain "com/example/fold/fold/DecimalLengthPinLaw" (some 0) with
  accessFlags := 49
  interfaces := #[]
  cf := some (fileOf pool1 45 #[] #[{ accessFlags := 1, nameIndex := 5, descriptorIndex := 6, attributes := #[] }, { accessFlags := 10, nameIndex := 48, descriptorIndex := 49, attributes := #[] }, { accessFlags := 9, nameIndex := 58, descriptorIndex := 59, attributes := #[] }] 49 2 #[] #[])
  fields := #[]
  methods := #[k1m0, k1m1, k1m2]
  instanceTypes := #[]
  staticTypes := #[]
  resolved := Array.replicate 63 none
  statics := none }

def pool2 : Array CpInfo := pool [(2, .class_ 4), (1, u "java/lang/Object"), (0, u "<init>"), (0, u "()V"), (1, .class_ 10), (1, u "com/example/fold/fold/Decimal"), (0, u "length"), (0, u "(J)I"), (6, .long 10), (45, .long 18446744073709551606), (25, u "MAX_DIGITS"), (0, u "I")] 11

def k2m0 : Method := { name := "<init>", desc := "()V", sig := { parameters := [], returnType := none }, accessFlags := 2, code := none }
def k2c1 : Code := { maxStack := 4, maxLocals := 7, code := prog_2_method_7_code, exceptionTable := #[], attributes := #[] }
def k2m1 : Method := { name := "length", desc := "(J)I", sig := { parameters := [.long], returnType := some .int }, accessFlags := 8, code := some k2c1 }
/-- com/example/fold/fold/Decimal -/
def k2 : Class := { plain "com/example/fold/fold/Decimal" (some 0) with
  accessFlags := 32
  interfaces := #[]
  cf := some (fileOf pool2 8 #[] #[{ accessFlags := 2, nameIndex := 5, descriptorIndex := 6, attributes := #[] }, { accessFlags := 8, nameIndex := 11, descriptorIndex := 12, attributes := #[] }] 32 2 #[] #[{ accessFlags := 26, nameIndex := 91, descriptorIndex := 92, attributes := #[] }])
  fields := #[{ name := "MAX_DIGITS", type := .int, accessFlags := 26, slot := 0, constantValue := 0 }]
  methods := #[k2m0, k2m1]
  instanceTypes := #[]
  staticTypes := #[.int]
  resolved := Array.replicate 104 none
  statics := none }

def pool3 : Array CpInfo := pool [(1, u "java/lang/Cloneable"), (0, .class_ 1), (0, u "java/lang/Object"), (0, .class_ 3)] 3

/-- java/lang/Cloneable -/
def k3 : Class := { plain "java/lang/Cloneable" (some 0) with
  accessFlags := 1537
  interfaces := #[]
  cf := some (fileOf pool3 2 #[] #[] 1537 4 #[] #[])
  fields := #[]
  methods := #[]
  instanceTypes := #[]
  staticTypes := #[]
  resolved := Array.replicate 8 none
  statics := none }

def pool4 : Array CpInfo := pool [(1, u "java/io/Serializable"), (0, .class_ 1), (0, u "java/lang/Object"), (0, .class_ 3)] 3

/-- java/io/Serializable -/
def k4 : Class := { plain "java/io/Serializable" (some 0) with
  accessFlags := 1537
  interfaces := #[]
  cf := some (fileOf pool4 2 #[] #[] 1537 4 #[] #[])
  fields := #[]
  methods := #[]
  instanceTypes := #[]
  staticTypes := #[]
  resolved := Array.replicate 8 none
  statics := none }

/-- the primitive byte -/
def k5 : Class := { plain "byte" none with kind := .primitive 'B', accessFlags := 0x411 }
/-- [B -/
def k6 : Class := { plain "[B" (some 0) with kind := .array 5 .byte, interfaces := #[3, 4], accessFlags := 1041 }

/-- the primitive int -/
def k7 : Class := { plain "int" none with kind := .primitive 'I', accessFlags := 0x411 }
/-- [I -/
def k8 : Class := { plain "[I" (some 0) with kind := .array 7 .int, interfaces := #[3, 4], accessFlags := 1041 }

/-- the primitive long -/
def k9 : Class := { plain "long" none with kind := .primitive 'J', accessFlags := 0x411 }
/-- [J -/
def k10 : Class := { plain "[J" (some 0) with kind := .array 9 .long, interfaces := #[3, 4], accessFlags := 1041 }

def heap : Heap := #[]
def classes : Array Class := #[k0, k1, k2, k3, k4, k5, k6, k7, k8, k9, k10]
def interned : List (Array UInt16 × Addr) := []
def slotsUsed : Nat := 0
def theMethod : MethodId := ⟨1, 2⟩
def args0 : Array Value := #[.long 5, .int 3, .int 1]
def aboutOver (below : List Frame) : State where
  vm := { classes := classes, interned := interned.toArray }
  heap := heap
  slotsUsed := slotsUsed
  threads := #[{ frames := .invoking theMethod args0 :: below }]
def below0 : List Frame := [.native { method := ⟨0, 0⟩, args := #[] }]
def about1 : State := aboutOver below0
def p0 : Program := .bare "" "" ""
def e0 : Env := launch0.env 0 0 0
theorem w_frames : about1.frames = Frame.invoking theMethod args0 :: below0 := rfl
set_option maxRecDepth 65536 in
theorem w_args : argsFit about1.vm theMethod args0 = true := by decide +kernel
set_option maxRecDepth 65536 in
theorem w_heap : heapFits about1 = true := by decide +kernel
set_option maxRecDepth 65536 in
theorem w_runnable : about1.curStatus? = some .runnable := by decide +kernel
set_option maxRecDepth 65536 in
theorem w_alone : about1.alone = true := by decide +kernel
set_option maxRecDepth 65536 in
theorem w_named : about1.methodNamed? x = some theMethod := by decide +kernel
set_option maxRecDepth 65536 in
theorem w_hears : about1.hears theMethod below0 = true := by decide +kernel
set_option maxRecDepth 65536 in
theorem w_ripe : about1.ripe theMethod args0 below0 = true := by decide +kernel
theorem w_running : about1.status = .running := rfl
set_option maxRecDepth 65536 in
theorem w_room : about1.hasRoom e0.platform room_1 = true :=
  launch0.hasRoom_least _ room_1 (by decide +kernel) (by decide +kernel) (by decide +kernel) (by decide +kernel) (by decide +kernel) (by decide +kernel)
theorem allAtoms_all (ts : List Jvm.Cond) (a : Array Jvm.Value) (st : Jvm.State) : (allAtoms ts).before a st = ts.all (fun c => c.before a st) := by
  induction ts with
  | nil => rfl
  | cons c t ih =>
    show (Jvm.Cond.and c (allAtoms t)).before a st = _
    rw [Jvm.Cond.before_and, ih, List.all_cons]
def words1 : List Jvm.Cond := Jvm.Cond.code x code maxLocals ret :: tables_1
/-- a 'code' word, met by the world's own term for the bytes: nothing is compared byte by byte -/
theorem code_word {y : MethodName} {bytes : ByteArray} {mx : Nat} {rt : Option FieldType} {a : Array Value} {s : State} {m : MethodId} {meth : Method} {c : Code} (h1 : s.methodNamed? y = some m) (h2 : s.vm.method? m = some meth) (h3 : meth.code = some c) (h4 : c.code = bytes)
    (h5 : (c.maxLocals == mx && c.exceptionTable.isEmpty && decide (c.maxStack ≤ mostOperands) && decide (meth.sig.returnType = rt) && !meth.locks && decide (parseMethodDescriptor y.desc = some meth.sig)) = true) : (Jvm.Cond.code y bytes mx rt).before a s = true := by
  simp only [Bool.and_eq_true, beq_iff_eq, Bool.not_eq_true', decide_eq_true_eq] at h5
  obtain ⟨⟨⟨⟨⟨g1, g2⟩, g3⟩, g4⟩, g5⟩, g6⟩ := h5
  simp [Cond.before, Cond.holds, Cond.value, h1, h2, h3, h4, g1, g2, g3, g4, g5, g6]
def isCode : Jvm.Cond → Bool
  | .code _ _ _ _ => true
  | _ => false
theorem all_split {L : List Jvm.Cond} {P : Jvm.Cond → Bool} (h1 : L.all (fun c => isCode c || P c) = true) (h2 : ∀ c ∈ L.filter isCode, P c = true) : L.all P = true := by
  refine List.all_eq_true.mpr fun c hc => ?_
  have h := List.all_eq_true.mp h1 c hc
  rcases Bool.eq_false_or_eq_true (isCode c) with hi | hi
  · exact h2 c (List.mem_filter.mpr ⟨hc, hi⟩)
  · simpa [hi] using h
set_option maxRecDepth 65536 in
theorem w_c0 : (Jvm.Cond.code x code maxLocals ret).before args0 about1 = true := code_word (m := ⟨1, 2⟩) (meth := k1m2) (c := k1c2) (by decide +kernel) rfl rfl rfl (by decide +kernel)
set_option maxRecDepth 65536 in
theorem w_c1 : (Jvm.Cond.code ({ cls := "com/example/fold/fold/DecimalLengthPinLaw", name := "pow", desc := "(I)J" } : Jvm.MethodName) method_2_code (2 : Nat) (Option.some Jvm.ClassFile.FieldType.long)).before args0 about1 = true := code_word (m := ⟨1, 1⟩) (meth := k1m1) (c := k1c1) (by decide +kernel) rfl rfl rfl (by decide +kernel)
set_option maxRecDepth 65536 in
theorem w_c2 : (Jvm.Cond.code ({ cls := "com/example/fold/fold/Decimal", name := "length", desc := "(J)I" } : Jvm.MethodName) prog_2_method_7_code (7 : Nat) (Option.some Jvm.ClassFile.FieldType.int)).before args0 about1 = true := code_word (m := ⟨2, 1⟩) (meth := k2m1) (c := k2c1) (by decide +kernel) rfl rfl rfl (by decide +kernel)
def codes1 : List Jvm.Cond := [Jvm.Cond.code x code maxLocals ret, Jvm.Cond.code ({ cls := "com/example/fold/fold/DecimalLengthPinLaw", name := "pow", desc := "(I)J" } : Jvm.MethodName) method_2_code (2 : Nat) (Option.some Jvm.ClassFile.FieldType.long), Jvm.Cond.code ({ cls := "com/example/fold/fold/Decimal", name := "length", desc := "(J)I" } : Jvm.MethodName) prog_2_method_7_code (7 : Nat) (Option.some Jvm.ClassFile.FieldType.int)]
set_option maxRecDepth 65536 in
theorem codes_eq : words1.filter isCode = codes1 := rfl
theorem w_codes : ∀ c ∈ words1.filter isCode, c.before args0 about1 = true := by
  rw [codes_eq]
  intro c hc
  simp only [codes1, List.mem_cons, List.not_mem_nil, or_false] at hc
  rcases hc with rfl | rfl | rfl
  · exact w_c0
  · exact w_c1
  · exact w_c2
set_option maxRecDepth 65536 in
theorem w_t1 : (words1.take 24).all (fun c => isCode c || c.before args0 about1) = true := by decide +kernel
set_option maxRecDepth 65536 in
theorem w_t2 : (words1.drop 24).all (fun c => isCode c || c.before args0 about1) = true := by decide +kernel
theorem w_tables : (allAtoms (Jvm.Cond.code x code maxLocals ret :: tables_1)).before args0 about1 = true := by
  rw [allAtoms_all]
  show words1.all (fun c => c.before args0 about1) = true
  refine all_split ?_ w_codes
  rw [← List.take_append_drop 24 words1, List.all_append, w_t1, w_t2]
  rfl
set_option maxRecDepth 65536 in
theorem w_case : (Jvm.Cond.and given_1 narrow_1).before args0 about1 = true := by decide +kernel
theorem w_applies : (headSpec (Jvm.Cond.code x code maxLocals ret :: tables_1) room_1).applies x e0.platform about1 = true :=
  (Spec.applies_iff w_frames).mpr ⟨w_running, w_runnable, w_alone, w_named, w_hears, w_ripe, w_room, w_tables⟩
theorem atStart : AtStart classFile x code maxLocals ret World_1 tables_1 room_1 Calls_1 rest_1 Pre_1 launch0 p0 e0 about1 theMethod args0 below0 :=
  ⟨lists_1, trivial, launch0.admits_env _ _ _, launch0.least_env, fairChoices_fair.cas, fairChoices_fair.clock, w_frames, w_args, w_heap, w_applies, trivial, trivial, w_case⟩
end start1
theorem witness_1 : WitnessClaimed_1 := ⟨start1.p0, start1.e0, start1.about1, start1.theMethod, start1.args0, start1.below0, start1.atStart⟩
end Jvm.Pilot.@@N@@
