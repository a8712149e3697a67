import JvmDerived
import JvmDerived.Pilot.@@N@@Statement
import JvmDerived.Pilot.@@N@@Code
set_option linter.unusedVariables false
set_option linter.unusedSimpArgs false
namespace Jvm.OwnKit
open Sem ClassFile Op Lib Jvm.Stand Jvm.Free Jvm.LawKit Jvm.RoadKit
/-! My own layer: a walk forward. Done G S: from the state S the invocation comes to its end, and G holds there. -/
def Done (p : Program) (e : Env) (below : List Frame) (G : Outcome → State → Prop) (S : State) : Prop :=
  ∃ s₂ o, Steps p.tables e below S s₂ ∧ s₂.status = .running ∧ Ended s₂ below o ∧ G o s₂
/-- what a contract promises at the end: the value, the heap; all that was written lies at or above n0 -/
def OEnd (s : State) (R : Room) (n0 : Nat) (Q : Option Value → Heap → Prop) (o : Outcome) (U : State) : Prop :=
  ∃ v L, o = .returned v ∧ (Q v U.heap ∧ Fr n0 L) ∧ FrameEnd s o U L R.cells R.slots
/-- where the walk stands: a Stand whose writes lie at or above n0, and its heap -/
def St (p : Program) (l : Launch) (e : Env) (R : Room) (s : State) (m : MethodId) (args : Array Value) (below : List Frame) (meth : Method) (c : Code) (n0 : Nat) (T : State) (h : Heap) (k n : Nat) : Prop :=
  ∃ locs, Stand p l e R s m args below meth c T locs k n ∧ Fr n0 locs ∧ T.heap = h
/-- a contract of a body -/
def Con (l : Launch) (Z : State) (y : MethodName) (bytes : ByteArray) (maxL : Nat) (ret : Option FieldType) (rm : Room) (n0 : Nat) (h0 : Heap) (as' : Array Value) (Q : Option Value → Heap → Prop) : Prop :=
  ∀ ws : List Jvm.Cond, MetFree l y (head1 (Jvm.Cond.code y bytes maxL ret :: ws) rm) (fun a U => a = as' ∧ Z.Warmed39 U.vm ∧ U.heap = h0) (fun _ _ _ _ _ => True) (fun _ U o U' => OEnd U rm n0 Q o U')
section Walk
variable {p : Program} {l : Launch} {e : Env} {R : Room} {s : State} {m : MethodId} {args : Array Value} {below : List Frame} {meth : Method} {c : Code} {n0 : Nat} {T : State} {h : Heap} {k n : Nat} {Z : State} {a0 : Array Value}
variable {G : Outcome → State → Prop} {pc pc' : Nat} {Ls Ls' : Array Slot} {st : List Value}
theorem Done.go {S S' : State} (f : ∀ t, Steps p.tables e below S' t → Steps p.tables e below S t) (d : Done p e below G S') : Done p e below G S := by
  obtain ⟨s₂, o, h1, h2⟩ := d
  exact ⟨s₂, o, f _ h1, h2⟩
theorem St.here (S : St p l e R s m args below meth c n0 T h k n) : At T m c below := by
  obtain ⟨_, X, _⟩ := S
  exact X.here
theorem St.heap (S : St p l e R s m args below meth c n0 T h k n) : T.heap = h := by
  obtain ⟨_, _, _, q⟩ := S
  exact q
theorem St.more {k' n' : Nat} (S : St p l e R s m args below meth c n0 T h k n) (hk : k ≤ k') (hn : n ≤ n') : St p l e R s m args below meth c n0 T h k' n' := by
  obtain ⟨L, X, N, q⟩ := S
  exact ⟨L, X.more hk hn, N, q⟩
theorem Con.intro {y : MethodName} {bytes : ByteArray} {maxL : Nat} {ret : Option FieldType} {rm : Room} {h0 : Heap} {as' : Array Value} {Q : Option Value → Heap → Prop}
    (hp : plainFor y = true) (hef : ∀ m, entryFrame m as' maxL = mkF m 0 Ls [])
    (body : ∀ (p : Program) (e : Env) (s : State) (m : MethodId) (below : List Frame) (meth : Method) (c : Code) (s₁ : State), p.tables.exec = Jvm.exec → c.code = bytes → c.maxLocals = maxL → s.vm.findClass y.cls = some m.cls → meth.name = y.name →
      meth.sig.returnType = ret → meth.locks = false → Z.Warmed39 s.vm → St p l e rm s m as' below meth c n0 s₁ h0 0 0 → Done p e below (OEnd s rm n0 Q) (s₁.setTop (mkF m 0 Ls []))) :
    Con l Z y bytes maxL ret rm n0 h0 as' Q := by
  intro ws
  refine MetFree.of_bodySF hp hisR ?_
  intro p e s m args below meth c s₁ Bd hml0 hP hK
  obtain ⟨rfl, hZ, hh⟩ := hP
  have hr := body p e s m below meth c s₁ Bd.exec Bd.bytes hml0 (findClass_of_methodNamed Bd.named) (name_of_methodNamed Bd.named Bd.method).1 Bd.returns Bd.notSynchronized hZ ⟨[], Stand.of_body Bd, Fr.nil n0, by rw [← hh, Bd.state]; rfl⟩
  rw [← hef m] at hr
  exact hr
/-! ### single steps -/
theorem k_iload (A : At T m c below) (hx : p.tables.exec = Jvm.exec) {i : Nat} {v : Int32} (hd : decode c.code pc = .ok (.iload i, 2)) (hl : Ls[i]? = some (.val (.int v))) (hp : pc + 2 = pc')
    (K : Done p e below G (T.setTop (mkF m pc' Ls (.int v :: st)))) : Done p e below G (T.setTop (mkF m pc Ls st)) := by
  subst hp; exact Done.go (fun t q => XS.iload A hx rfl hd hl q) K
theorem k_iloadN (A : At T m c below) (hx : p.tables.exec = Jvm.exec) {i : Fin 4} {v : Int32} (hd : decode c.code pc = .ok (.iload_n i, 1)) (hl : Ls[i.val]? = some (.val (.int v))) (hp : pc + 1 = pc')
    (K : Done p e below G (T.setTop (mkF m pc' Ls (.int v :: st)))) : Done p e below G (T.setTop (mkF m pc Ls st)) := by
  subst hp; exact Done.go (fun t q => XS.iloadN A hx rfl hd hl q) K
theorem k_istore (A : At T m c below) (hx : p.tables.exec = Jvm.exec) {i : Nat} {v : Int32} (hd : decode c.code pc = .ok (.istore i, 2)) (hl : storeLocals Ls i (.int v) = some Ls') (hp : pc + 2 = pc')
    (K : Done p e below G (T.setTop (mkF m pc' Ls' st))) : Done p e below G (T.setTop (mkF m pc Ls (.int v :: st))) := by
  subst hp; exact Done.go (fun t q => XS.istore A hx rfl hd rfl hl q) K
theorem k_istoreN (A : At T m c below) (hx : p.tables.exec = Jvm.exec) {i : Fin 4} {v : Int32} (hd : decode c.code pc = .ok (.istore_n i, 1)) (hl : storeLocals Ls i.val (.int v) = some Ls') (hp : pc + 1 = pc')
    (K : Done p e below G (T.setTop (mkF m pc' Ls' st))) : Done p e below G (T.setTop (mkF m pc Ls (.int v :: st))) := by
  subst hp; exact Done.go (fun t q => XS.istoreN A hx rfl hd rfl hl q) K
theorem k_lload (A : At T m c below) (hx : p.tables.exec = Jvm.exec) {i : Nat} {v : Int64} (hd : decode c.code pc = .ok (.lload i, 2)) (hl : Ls[i]? = some (.val (.long v))) (hp : pc + 2 = pc')
    (K : Done p e below G (T.setTop (mkF m pc' Ls (.long v :: st)))) : Done p e below G (T.setTop (mkF m pc Ls st)) := by
  subst hp; exact Done.go (fun t q => XS.lload A hx rfl hd hl q) K
theorem k_lloadN (A : At T m c below) (hx : p.tables.exec = Jvm.exec) {i : Fin 4} {v : Int64} (hd : decode c.code pc = .ok (.lload_n i, 1)) (hl : Ls[i.val]? = some (.val (.long v))) (hp : pc + 1 = pc')
    (K : Done p e below G (T.setTop (mkF m pc' Ls (.long v :: st)))) : Done p e below G (T.setTop (mkF m pc Ls st)) := by
  subst hp; exact Done.go (fun t q => XS.lloadN A hx rfl hd hl q) K
theorem k_lstore (A : At T m c below) (hx : p.tables.exec = Jvm.exec) {i : Nat} {v : Int64} (hd : decode c.code pc = .ok (.lstore i, 2)) (hl : storeLocals Ls i (.long v) = some Ls') (hp : pc + 2 = pc')
    (K : Done p e below G (T.setTop (mkF m pc' Ls' st))) : Done p e below G (T.setTop (mkF m pc Ls (.long v :: st))) := by
  subst hp; exact Done.go (fun t q => XS.lstore A hx rfl hd rfl hl q) K
theorem k_lstoreN (A : At T m c below) (hx : p.tables.exec = Jvm.exec) {i : Fin 4} {v : Int64} (hd : decode c.code pc = .ok (.lstore_n i, 1)) (hl : storeLocals Ls i.val (.long v) = some Ls') (hp : pc + 1 = pc')
    (K : Done p e below G (T.setTop (mkF m pc' Ls' st))) : Done p e below G (T.setTop (mkF m pc Ls (.long v :: st))) := by
  subst hp; exact Done.go (fun t q => XS.lstoreN A hx rfl hd rfl hl q) K
theorem k_aload (A : At T m c below) (hx : p.tables.exec = Jvm.exec) {i : Nat} {v : Value} (hd : decode c.code pc = .ok (.aload i, 2)) (hl : Ls[i]? = some (.val v)) (hv : v.isRef = true) (hp : pc + 2 = pc')
    (K : Done p e below G (T.setTop (mkF m pc' Ls (v :: st)))) : Done p e below G (T.setTop (mkF m pc Ls st)) := by
  subst hp; exact Done.go (fun t q => XS.aload A hx rfl hd hl hv q) K
theorem k_aloadN (A : At T m c below) (hx : p.tables.exec = Jvm.exec) {i : Fin 4} {v : Value} (hd : decode c.code pc = .ok (.aload_n i, 1)) (hl : Ls[i.val]? = some (.val v)) (hv : v.isRef = true) (hp : pc + 1 = pc')
    (K : Done p e below G (T.setTop (mkF m pc' Ls (v :: st)))) : Done p e below G (T.setTop (mkF m pc Ls st)) := by
  subst hp; exact Done.go (fun t q => XS.aloadN A hx rfl hd hl hv q) K
theorem k_astore (A : At T m c below) (hx : p.tables.exec = Jvm.exec) {i : Nat} {v : Value} (hd : decode c.code pc = .ok (.astore i, 2)) (hv : v.isRef = true) (hl : storeLocals Ls i v = some Ls') (hp : pc + 2 = pc')
    (K : Done p e below G (T.setTop (mkF m pc' Ls' st))) : Done p e below G (T.setTop (mkF m pc Ls (v :: st))) := by
  subst hp; exact Done.go (fun t q => XS.astore A hx rfl hd rfl hv hl q) K
theorem k_astoreN (A : At T m c below) (hx : p.tables.exec = Jvm.exec) {i : Fin 4} {v : Value} (hd : decode c.code pc = .ok (.astore_n i, 1)) (hv : v.isRef = true) (hl : storeLocals Ls i.val v = some Ls') (hp : pc + 1 = pc')
    (K : Done p e below G (T.setTop (mkF m pc' Ls' st))) : Done p e below G (T.setTop (mkF m pc Ls (v :: st))) := by
  subst hp; exact Done.go (fun t q => XS.astoreN A hx rfl hd rfl hv hl q) K
theorem k_iconst (A : At T m c below) (hx : p.tables.exec = Jvm.exec) {i : Int} {v : Int32} (hd : decode c.code pc = .ok (.iconst i, 1)) (hv : Int32.ofInt i = v) (hp : pc + 1 = pc')
    (K : Done p e below G (T.setTop (mkF m pc' Ls (.int v :: st)))) : Done p e below G (T.setTop (mkF m pc Ls st)) := by
  subst hp hv; exact Done.go (fun t q => XS.iconst A hx rfl hd q) K
theorem k_bipush (A : At T m c below) (hx : p.tables.exec = Jvm.exec) {i : Int} {v : Int32} (hd : decode c.code pc = .ok (.bipush i, 2)) (hv : (Int8.ofInt i).toInt32 = v) (hp : pc + 2 = pc')
    (K : Done p e below G (T.setTop (mkF m pc' Ls (.int v :: st)))) : Done p e below G (T.setTop (mkF m pc Ls st)) := by
  subst hp hv; exact Done.go (fun t q => XS.bipush A hx rfl hd q) K
theorem k_sipush (A : At T m c below) (hx : p.tables.exec = Jvm.exec) {i : Int} {v : Int32} (hd : decode c.code pc = .ok (.sipush i, 3)) (hv : (Int16.ofInt i).toInt32 = v) (hp : pc + 3 = pc')
    (K : Done p e below G (T.setTop (mkF m pc' Ls (.int v :: st)))) : Done p e below G (T.setTop (mkF m pc Ls st)) := by
  subst hp hv; exact Done.go (fun t q => XS.sipush A hx rfl hd q) K
theorem k_lconst (A : At T m c below) (hx : p.tables.exec = Jvm.exec) {i : Fin 2} {v : Int64} (hd : decode c.code pc = .ok (.lconst i, 1)) (hv : Int64.ofNat i = v) (hp : pc + 1 = pc')
    (K : Done p e below G (T.setTop (mkF m pc' Ls (.long v :: st)))) : Done p e below G (T.setTop (mkF m pc Ls st)) := by
  subst hp hv; exact Done.go (fun t q => XS.lconst A hx rfl hd q) K
theorem k_aconstNull (A : At T m c below) (hx : p.tables.exec = Jvm.exec)  (hd : decode c.code pc = .ok (.aconst_null, 1)) (hp : pc + 1 = pc')
    (K : Done p e below G (T.setTop (mkF m pc' Ls (.null :: st)))) : Done p e below G (T.setTop (mkF m pc Ls st)) := by
  subst hp; exact Done.go (fun t q => XS.aconstNull A hx rfl hd q) K
theorem k_dup (A : At T m c below) (hx : p.tables.exec = Jvm.exec) {v : Value} (hd : decode c.code pc = .ok (.dup, 1)) (hv : v.category = 1) (hp : pc + 1 = pc')
    (K : Done p e below G (T.setTop (mkF m pc' Ls (v :: v :: st)))) : Done p e below G (T.setTop (mkF m pc Ls (v :: st))) := by
  subst hp; exact Done.go (fun t q => XS.dup A hx rfl hd rfl hv q) K
theorem k_pop (A : At T m c below) (hx : p.tables.exec = Jvm.exec) {v : Value} (hd : decode c.code pc = .ok (.pop, 1)) (hv : v.category = 1) (hp : pc + 1 = pc')
    (K : Done p e below G (T.setTop (mkF m pc' Ls st))) : Done p e below G (T.setTop (mkF m pc Ls (v :: st))) := by
  subst hp; exact Done.go (fun t q => XS.pop A hx rfl hd rfl hv q) K
theorem k_dupX1 (A : At T m c below) (hx : p.tables.exec = Jvm.exec) {v w : Value} (hd : decode c.code pc = .ok (.dup_x1, 1)) (hv : v.category = 1) (hw : w.category = 1) (hp : pc + 1 = pc')
    (K : Done p e below G (T.setTop (mkF m pc' Ls (v :: w :: v :: st)))) : Done p e below G (T.setTop (mkF m pc Ls (v :: w :: st))) := by
  subst hp; exact Done.go (fun t q => XS.dupX1 A hx rfl hd rfl hv hw q) K
theorem k_iadd (A : At T m c below) (hx : p.tables.exec = Jvm.exec) {x y : Int32} (hd : decode c.code pc = .ok (.iadd, 1)) (hp : pc + 1 = pc')
    (K : Done p e below G (T.setTop (mkF m pc' Ls (.int (x + y) :: st)))) : Done p e below G (T.setTop (mkF m pc Ls (.int y :: .int x :: st))) := by
  subst hp; exact Done.go (fun t q => XS.iadd A hx rfl hd rfl q) K
theorem k_isub (A : At T m c below) (hx : p.tables.exec = Jvm.exec) {x y : Int32} (hd : decode c.code pc = .ok (.isub, 1)) (hp : pc + 1 = pc')
    (K : Done p e below G (T.setTop (mkF m pc' Ls (.int (x - y) :: st)))) : Done p e below G (T.setTop (mkF m pc Ls (.int y :: .int x :: st))) := by
  subst hp; exact Done.go (fun t q => XS.isub A hx rfl hd rfl q) K
theorem k_imul (A : At T m c below) (hx : p.tables.exec = Jvm.exec) {x y : Int32} (hd : decode c.code pc = .ok (.imul, 1)) (hp : pc + 1 = pc')
    (K : Done p e below G (T.setTop (mkF m pc' Ls (.int (x * y) :: st)))) : Done p e below G (T.setTop (mkF m pc Ls (.int y :: .int x :: st))) := by
  subst hp; exact Done.go (fun t q => XS.imul A hx rfl hd rfl q) K
theorem k_iand (A : At T m c below) (hx : p.tables.exec = Jvm.exec) {x y : Int32} (hd : decode c.code pc = .ok (.iand, 1)) (hp : pc + 1 = pc')
    (K : Done p e below G (T.setTop (mkF m pc' Ls (.int (x &&& y) :: st)))) : Done p e below G (T.setTop (mkF m pc Ls (.int y :: .int x :: st))) := by
  subst hp; exact Done.go (fun t q => XS.iand A hx rfl hd rfl q) K
theorem k_ior (A : At T m c below) (hx : p.tables.exec = Jvm.exec) {x y : Int32} (hd : decode c.code pc = .ok (.ior, 1)) (hp : pc + 1 = pc')
    (K : Done p e below G (T.setTop (mkF m pc' Ls (.int (x ||| y) :: st)))) : Done p e below G (T.setTop (mkF m pc Ls (.int y :: .int x :: st))) := by
  subst hp; exact Done.go (fun t q => XS.ior A hx rfl hd rfl q) K
theorem k_ixor (A : At T m c below) (hx : p.tables.exec = Jvm.exec) {x y : Int32} (hd : decode c.code pc = .ok (.ixor, 1)) (hp : pc + 1 = pc')
    (K : Done p e below G (T.setTop (mkF m pc' Ls (.int (x ^^^ y) :: st)))) : Done p e below G (T.setTop (mkF m pc Ls (.int y :: .int x :: st))) := by
  subst hp; exact Done.go (fun t q => XS.ixor A hx rfl hd rfl q) K
theorem k_ishl (A : At T m c below) (hx : p.tables.exec = Jvm.exec) {x y : Int32} (hd : decode c.code pc = .ok (.ishl, 1)) (hp : pc + 1 = pc')
    (K : Done p e below G (T.setTop (mkF m pc' Ls (.int (x <<< (y &&& 31)) :: st)))) : Done p e below G (T.setTop (mkF m pc Ls (.int y :: .int x :: st))) := by
  subst hp; exact Done.go (fun t q => XS.ishl A hx rfl hd rfl q) K
theorem k_ishr (A : At T m c below) (hx : p.tables.exec = Jvm.exec) {x y : Int32} (hd : decode c.code pc = .ok (.ishr, 1)) (hp : pc + 1 = pc')
    (K : Done p e below G (T.setTop (mkF m pc' Ls (.int (x >>> (y &&& 31)) :: st)))) : Done p e below G (T.setTop (mkF m pc Ls (.int y :: .int x :: st))) := by
  subst hp; exact Done.go (fun t q => XS.ishr A hx rfl hd rfl q) K
theorem k_iushr (A : At T m c below) (hx : p.tables.exec = Jvm.exec) {x y : Int32} (hd : decode c.code pc = .ok (.iushr, 1)) (hp : pc + 1 = pc')
    (K : Done p e below G (T.setTop (mkF m pc' Ls (.int ((x.toUInt32 >>> (y &&& 31).toUInt32).toInt32) :: st)))) : Done p e below G (T.setTop (mkF m pc Ls (.int y :: .int x :: st))) := by
  subst hp; exact Done.go (fun t q => XS.iushr A hx rfl hd rfl q) K
theorem k_ladd (A : At T m c below) (hx : p.tables.exec = Jvm.exec) {x y : Int64} (hd : decode c.code pc = .ok (.ladd, 1)) (hp : pc + 1 = pc')
    (K : Done p e below G (T.setTop (mkF m pc' Ls (.long (x + y) :: st)))) : Done p e below G (T.setTop (mkF m pc Ls (.long y :: .long x :: st))) := by
  subst hp; exact Done.go (fun t q => XS.ladd A hx rfl hd rfl q) K
theorem k_lsub (A : At T m c below) (hx : p.tables.exec = Jvm.exec) {x y : Int64} (hd : decode c.code pc = .ok (.lsub, 1)) (hp : pc + 1 = pc')
    (K : Done p e below G (T.setTop (mkF m pc' Ls (.long (x - y) :: st)))) : Done p e below G (T.setTop (mkF m pc Ls (.long y :: .long x :: st))) := by
  subst hp; exact Done.go (fun t q => XS.lsub A hx rfl hd rfl q) K
theorem k_lmul (A : At T m c below) (hx : p.tables.exec = Jvm.exec) {x y : Int64} (hd : decode c.code pc = .ok (.lmul, 1)) (hp : pc + 1 = pc')
    (K : Done p e below G (T.setTop (mkF m pc' Ls (.long (x * y) :: st)))) : Done p e below G (T.setTop (mkF m pc Ls (.long y :: .long x :: st))) := by
  subst hp; exact Done.go (fun t q => XS.lmul A hx rfl hd rfl q) K
theorem k_land (A : At T m c below) (hx : p.tables.exec = Jvm.exec) {x y : Int64} (hd : decode c.code pc = .ok (.land, 1)) (hp : pc + 1 = pc')
    (K : Done p e below G (T.setTop (mkF m pc' Ls (.long (x &&& y) :: st)))) : Done p e below G (T.setTop (mkF m pc Ls (.long y :: .long x :: st))) := by
  subst hp; exact Done.go (fun t q => XS.land A hx rfl hd rfl q) K
theorem k_lor (A : At T m c below) (hx : p.tables.exec = Jvm.exec) {x y : Int64} (hd : decode c.code pc = .ok (.lor, 1)) (hp : pc + 1 = pc')
    (K : Done p e below G (T.setTop (mkF m pc' Ls (.long (x ||| y) :: st)))) : Done p e below G (T.setTop (mkF m pc Ls (.long y :: .long x :: st))) := by
  subst hp; exact Done.go (fun t q => XS.lor A hx rfl hd rfl q) K
theorem k_lxor (A : At T m c below) (hx : p.tables.exec = Jvm.exec) {x y : Int64} (hd : decode c.code pc = .ok (.lxor, 1)) (hp : pc + 1 = pc')
    (K : Done p e below G (T.setTop (mkF m pc' Ls (.long (x ^^^ y) :: st)))) : Done p e below G (T.setTop (mkF m pc Ls (.long y :: .long x :: st))) := by
  subst hp; exact Done.go (fun t q => XS.lxor A hx rfl hd rfl q) K
theorem k_lshl (A : At T m c below) (hx : p.tables.exec = Jvm.exec) {x : Int64} {y : Int32} (hd : decode c.code pc = .ok (.lshl, 1)) (hp : pc + 1 = pc')
    (K : Done p e below G (T.setTop (mkF m pc' Ls (.long (x <<< (y &&& 0x3f).toInt64) :: st)))) : Done p e below G (T.setTop (mkF m pc Ls (.int y :: .long x :: st))) := by
  subst hp; exact Done.go (fun t q => XS.lshl A hx rfl hd rfl q) K
theorem k_lshr (A : At T m c below) (hx : p.tables.exec = Jvm.exec) {x : Int64} {y : Int32} (hd : decode c.code pc = .ok (.lshr, 1)) (hp : pc + 1 = pc')
    (K : Done p e below G (T.setTop (mkF m pc' Ls (.long (x >>> (y &&& 0x3f).toInt64) :: st)))) : Done p e below G (T.setTop (mkF m pc Ls (.int y :: .long x :: st))) := by
  subst hp; exact Done.go (fun t q => XS.lshr A hx rfl hd rfl q) K
theorem k_lushr (A : At T m c below) (hx : p.tables.exec = Jvm.exec) {x : Int64} {y : Int32} (hd : decode c.code pc = .ok (.lushr, 1)) (hp : pc + 1 = pc')
    (K : Done p e below G (T.setTop (mkF m pc' Ls (.long ((x.toUInt64 >>> (y &&& 0x3f).toInt64.toUInt64).toInt64) :: st)))) : Done p e below G (T.setTop (mkF m pc Ls (.int y :: .long x :: st))) := by
  subst hp; exact Done.go (fun t q => XS.lushr A hx rfl hd rfl q) K
theorem k_idiv (A : At T m c below) (hx : p.tables.exec = Jvm.exec) {x y : Int32} (hd : decode c.code pc = .ok (.idiv, 1)) (hy : y ≠ 0) (hp : pc + 1 = pc')
    (K : Done p e below G (T.setTop (mkF m pc' Ls (.int (x / y) :: st)))) : Done p e below G (T.setTop (mkF m pc Ls (.int y :: .int x :: st))) := by
  subst hp; exact Done.go (fun t q => XS.idiv A hx rfl hd rfl hy q) K
theorem k_ldiv (A : At T m c below) (hx : p.tables.exec = Jvm.exec) {x y : Int64} (hd : decode c.code pc = .ok (.ldiv, 1)) (hy : y ≠ 0) (hp : pc + 1 = pc')
    (K : Done p e below G (T.setTop (mkF m pc' Ls (.long (x / y) :: st)))) : Done p e below G (T.setTop (mkF m pc Ls (.long y :: .long x :: st))) := by
  subst hp; exact Done.go (fun t q => XS.ldiv A hx rfl hd rfl hy q) K
theorem k_irem (A : At T m c below) (hx : p.tables.exec = Jvm.exec) {x y : Int32} (hd : decode c.code pc = .ok (.irem, 1)) (hy : y ≠ 0) (hp : pc + 1 = pc')
    (K : Done p e below G (T.setTop (mkF m pc' Ls (.int (x % y) :: st)))) : Done p e below G (T.setTop (mkF m pc Ls (.int y :: .int x :: st))) := by
  subst hp; have q0 : x - x / y * y = x % y := irem_eq_mod x y
  rw [← q0] at K
  exact Done.go (fun t q => XS.irem A hx rfl hd rfl hy q) K
theorem k_lrem (A : At T m c below) (hx : p.tables.exec = Jvm.exec) {x y : Int64} (hd : decode c.code pc = .ok (.lrem, 1)) (hy : y ≠ 0) (hp : pc + 1 = pc')
    (K : Done p e below G (T.setTop (mkF m pc' Ls (.long (x % y) :: st)))) : Done p e below G (T.setTop (mkF m pc Ls (.long y :: .long x :: st))) := by
  subst hp
  rw [← lrem_mod x y] at K
  exact Done.go (fun t q => XS.lrem A hx rfl hd rfl hy q) K
theorem k_lcmp (A : At T m c below) (hx : p.tables.exec = Jvm.exec) {x y : Int64} (hd : decode c.code pc = .ok (.lcmp, 1)) (hp : pc + 1 = pc')
    (K : Done p e below G (T.setTop (mkF m pc' Ls (.int (lcmpW x y) :: st)))) : Done p e below G (T.setTop (mkF m pc Ls (.long y :: .long x :: st))) := by
  subst hp; exact Done.go (fun t q => XS.lcmp A hx rfl hd rfl q) K
theorem k_ineg (A : At T m c below) (hx : p.tables.exec = Jvm.exec) {x : Int32} (hd : decode c.code pc = .ok (.ineg, 1)) (hp : pc + 1 = pc')
    (K : Done p e below G (T.setTop (mkF m pc' Ls (.int (-x) :: st)))) : Done p e below G (T.setTop (mkF m pc Ls (.int x :: st))) := by
  subst hp; exact Done.go (fun t q => XS.ineg A hx rfl hd rfl q) K
theorem k_lneg (A : At T m c below) (hx : p.tables.exec = Jvm.exec) {x : Int64} (hd : decode c.code pc = .ok (.lneg, 1)) (hp : pc + 1 = pc')
    (K : Done p e below G (T.setTop (mkF m pc' Ls (.long (-x) :: st)))) : Done p e below G (T.setTop (mkF m pc Ls (.long x :: st))) := by
  subst hp; exact Done.go (fun t q => XS.lneg A hx rfl hd rfl q) K
theorem k_i2l (A : At T m c below) (hx : p.tables.exec = Jvm.exec) {x : Int32} (hd : decode c.code pc = .ok (.i2l, 1)) (hp : pc + 1 = pc')
    (K : Done p e below G (T.setTop (mkF m pc' Ls (.long (x.toInt64) :: st)))) : Done p e below G (T.setTop (mkF m pc Ls (.int x :: st))) := by
  subst hp; exact Done.go (fun t q => XS.i2l A hx rfl hd rfl q) K
theorem k_l2i (A : At T m c below) (hx : p.tables.exec = Jvm.exec) {x : Int64} (hd : decode c.code pc = .ok (.l2i, 1)) (hp : pc + 1 = pc')
    (K : Done p e below G (T.setTop (mkF m pc' Ls (.int (x.toInt32) :: st)))) : Done p e below G (T.setTop (mkF m pc Ls (.long x :: st))) := by
  subst hp; exact Done.go (fun t q => XS.l2i A hx rfl hd rfl q) K
theorem k_i2b (A : At T m c below) (hx : p.tables.exec = Jvm.exec) {x : Int32} (hd : decode c.code pc = .ok (.i2b, 1)) (hp : pc + 1 = pc')
    (K : Done p e below G (T.setTop (mkF m pc' Ls (.int (x.toInt8.toInt32) :: st)))) : Done p e below G (T.setTop (mkF m pc Ls (.int x :: st))) := by
  subst hp; exact Done.go (fun t q => XS.i2b A hx rfl hd rfl q) K
theorem k_i2c (A : At T m c below) (hx : p.tables.exec = Jvm.exec) {x : Int32} (hd : decode c.code pc = .ok (.i2c, 1)) (hp : pc + 1 = pc')
    (K : Done p e below G (T.setTop (mkF m pc' Ls (.int (x.toUInt32.toUInt16.toUInt32.toInt32) :: st)))) : Done p e below G (T.setTop (mkF m pc Ls (.int x :: st))) := by
  subst hp; exact Done.go (fun t q => XS.i2c A hx rfl hd rfl q) K
theorem k_i2s (A : At T m c below) (hx : p.tables.exec = Jvm.exec) {x : Int32} (hd : decode c.code pc = .ok (.i2s, 1)) (hp : pc + 1 = pc')
    (K : Done p e below G (T.setTop (mkF m pc' Ls (.int (x.toInt16.toInt32) :: st)))) : Done p e below G (T.setTop (mkF m pc Ls (.int x :: st))) := by
  subst hp; exact Done.go (fun t q => XS.i2s A hx rfl hd rfl q) K
theorem k_iinc (A : At T m c below) (hx : p.tables.exec = Jvm.exec) {i : Nat} {cst : Int} {v : Int32} (hd : decode c.code pc = .ok (.iinc i cst, 3)) (hl : Ls[i]? = some (.val (.int v))) (hs : storeLocals Ls i (.int (v + Int32.ofInt cst)) = some Ls') (hp : pc + 3 = pc')
    (K : Done p e below G (T.setTop (mkF m pc' Ls' st))) : Done p e below G (T.setTop (mkF m pc Ls st)) := by
  subst hp; exact Done.go (fun t q => XS.iinc A hx rfl hd hl hs q) K
theorem k_goto (A : At T m c below) (hx : p.tables.exec = Jvm.exec) {o : Int} (hd : decode c.code pc = .ok (.goto o, 3)) (hp : (pc : Int) + o = (pc' : Int))
    (K : Done p e below G (T.setTop (mkF m pc' Ls st))) : Done p e below G (T.setTop (mkF m pc Ls st)) :=
  Done.go (fun t q => XS.goto A hx rfl (pc0 := pc) (pc' := pc') rfl hd (by omega) (by omega) q) K
theorem k_ifnullYes (A : At T m c below) (hx : p.tables.exec = Jvm.exec) {o : Int} (hd : decode c.code pc = .ok (.ifnull o, 3)) (hp : (pc : Int) + o = (pc' : Int))
    (K : Done p e below G (T.setTop (mkF m pc' Ls st))) : Done p e below G (T.setTop (mkF m pc Ls (.null :: st))) :=
  Done.go (fun t q => XS.ifnullYes A hx rfl (pc0 := pc) (pc' := pc') rfl hd rfl (by omega) (by omega) q) K
theorem k_ifnonnullYes (A : At T m c below) (hx : p.tables.exec = Jvm.exec) {o : Int} {b : Addr} (hd : decode c.code pc = .ok (.ifnonnull o, 3)) (hp : (pc : Int) + o = (pc' : Int))
    (K : Done p e below G (T.setTop (mkF m pc' Ls st))) : Done p e below G (T.setTop (mkF m pc Ls (.ref b :: st))) :=
  Done.go (fun t q => XS.ifnonnullYes A hx rfl (pc0 := pc) (pc' := pc') rfl hd rfl (by omega) (by omega) q) K
theorem k_ifnullNo (A : At T m c below) (hx : p.tables.exec = Jvm.exec) {o : Int} {b : Addr} (hd : decode c.code pc = .ok (.ifnull o, 3)) (hp : pc + 3 = pc')
    (K : Done p e below G (T.setTop (mkF m pc' Ls st))) : Done p e below G (T.setTop (mkF m pc Ls (.ref b :: st))) := by
  subst hp; exact Done.go (fun t q => XS.ifnullNo A hx rfl hd rfl q) K
theorem k_ifnonnullNo (A : At T m c below) (hx : p.tables.exec = Jvm.exec) {o : Int} (hd : decode c.code pc = .ok (.ifnonnull o, 3)) (hp : pc + 3 = pc')
    (K : Done p e below G (T.setTop (mkF m pc' Ls st))) : Done p e below G (T.setTop (mkF m pc Ls (.null :: st))) := by
  subst hp; exact Done.go (fun t q => XS.ifnonnullNo A hx rfl hd rfl q) K
theorem k_icmp_lt (A : At T m c below) (hx : p.tables.exec = Jvm.exec) {x y : Int32} {o : Int} {pcY : Nat} (hd : decode c.code pc = .ok (.if_icmp .lt o, 3)) (hY : (pc : Int) + o = (pcY : Int)) (hp : pc + 3 = pc')
    (KY : x < y → Done p e below G (T.setTop (mkF m pcY Ls st))) (KN : ¬ x < y → Done p e below G (T.setTop (mkF m pc' Ls st))) : Done p e below G (T.setTop (mkF m pc Ls (.int y :: .int x :: st))) := by
  subst hp
  by_cases hc : x < y
  · exact Done.go (fun t q => XS.icmpYes A hx rfl (pc0 := pc) (pc' := pcY) rfl hd rfl (tlt hc).1 (by omega) (by omega) q) (KY hc)
  · exact Done.go (fun t q => XS.icmpNo A hx rfl hd rfl (flt hc).1 q) (KN hc)
theorem k_if_lt (A : At T m c below) (hx : p.tables.exec = Jvm.exec) {x : Int32} {o : Int} {pcY : Nat} (hd : decode c.code pc = .ok (.ifCond .lt o, 3)) (hY : (pc : Int) + o = (pcY : Int)) (hp : pc + 3 = pc')
    (KY : x < 0 → Done p e below G (T.setTop (mkF m pcY Ls st))) (KN : ¬ x < 0 → Done p e below G (T.setTop (mkF m pc' Ls st))) : Done p e below G (T.setTop (mkF m pc Ls (.int x :: st))) := by
  subst hp
  by_cases hc : x < 0
  · exact Done.go (fun t q => XS.ifYes A hx rfl (pc0 := pc) (pc' := pcY) rfl hd rfl ((if0 _ _).trans (tlt hc).1) (by omega) (by omega) q) (KY hc)
  · exact Done.go (fun t q => XS.ifNo A hx rfl hd rfl ((if0 _ _).trans (flt hc).1) q) (KN hc)
theorem k_icmp_ge (A : At T m c below) (hx : p.tables.exec = Jvm.exec) {x y : Int32} {o : Int} {pcY : Nat} (hd : decode c.code pc = .ok (.if_icmp .ge o, 3)) (hY : (pc : Int) + o = (pcY : Int)) (hp : pc + 3 = pc')
    (KY : ¬ x < y → Done p e below G (T.setTop (mkF m pcY Ls st))) (KN : x < y → Done p e below G (T.setTop (mkF m pc' Ls st))) : Done p e below G (T.setTop (mkF m pc Ls (.int y :: .int x :: st))) := by
  subst hp
  by_cases hc : x < y
  · exact Done.go (fun t q => XS.icmpNo A hx rfl hd rfl (tlt hc).2.1 q) (KN hc)
  · exact Done.go (fun t q => XS.icmpYes A hx rfl (pc0 := pc) (pc' := pcY) rfl hd rfl (flt hc).2.1 (by omega) (by omega) q) (KY hc)
theorem k_if_ge (A : At T m c below) (hx : p.tables.exec = Jvm.exec) {x : Int32} {o : Int} {pcY : Nat} (hd : decode c.code pc = .ok (.ifCond .ge o, 3)) (hY : (pc : Int) + o = (pcY : Int)) (hp : pc + 3 = pc')
    (KY : ¬ x < 0 → Done p e below G (T.setTop (mkF m pcY Ls st))) (KN : x < 0 → Done p e below G (T.setTop (mkF m pc' Ls st))) : Done p e below G (T.setTop (mkF m pc Ls (.int x :: st))) := by
  subst hp
  by_cases hc : x < 0
  · exact Done.go (fun t q => XS.ifNo A hx rfl hd rfl ((if0 _ _).trans (tlt hc).2.1) q) (KN hc)
  · exact Done.go (fun t q => XS.ifYes A hx rfl (pc0 := pc) (pc' := pcY) rfl hd rfl ((if0 _ _).trans (flt hc).2.1) (by omega) (by omega) q) (KY hc)
theorem k_icmp_gt (A : At T m c below) (hx : p.tables.exec = Jvm.exec) {x y : Int32} {o : Int} {pcY : Nat} (hd : decode c.code pc = .ok (.if_icmp .gt o, 3)) (hY : (pc : Int) + o = (pcY : Int)) (hp : pc + 3 = pc')
    (KY : y < x → Done p e below G (T.setTop (mkF m pcY Ls st))) (KN : ¬ y < x → Done p e below G (T.setTop (mkF m pc' Ls st))) : Done p e below G (T.setTop (mkF m pc Ls (.int y :: .int x :: st))) := by
  subst hp
  by_cases hc : y < x
  · exact Done.go (fun t q => XS.icmpYes A hx rfl (pc0 := pc) (pc' := pcY) rfl hd rfl (tlt hc).2.2.1 (by omega) (by omega) q) (KY hc)
  · exact Done.go (fun t q => XS.icmpNo A hx rfl hd rfl (flt hc).2.2.1 q) (KN hc)
theorem k_if_gt (A : At T m c below) (hx : p.tables.exec = Jvm.exec) {x : Int32} {o : Int} {pcY : Nat} (hd : decode c.code pc = .ok (.ifCond .gt o, 3)) (hY : (pc : Int) + o = (pcY : Int)) (hp : pc + 3 = pc')
    (KY : 0 < x → Done p e below G (T.setTop (mkF m pcY Ls st))) (KN : ¬ 0 < x → Done p e below G (T.setTop (mkF m pc' Ls st))) : Done p e below G (T.setTop (mkF m pc Ls (.int x :: st))) := by
  subst hp
  by_cases hc : 0 < x
  · exact Done.go (fun t q => XS.ifYes A hx rfl (pc0 := pc) (pc' := pcY) rfl hd rfl ((if0 _ _).trans (tlt hc).2.2.1) (by omega) (by omega) q) (KY hc)
  · exact Done.go (fun t q => XS.ifNo A hx rfl hd rfl ((if0 _ _).trans (flt hc).2.2.1) q) (KN hc)
theorem k_icmp_le (A : At T m c below) (hx : p.tables.exec = Jvm.exec) {x y : Int32} {o : Int} {pcY : Nat} (hd : decode c.code pc = .ok (.if_icmp .le o, 3)) (hY : (pc : Int) + o = (pcY : Int)) (hp : pc + 3 = pc')
    (KY : ¬ y < x → Done p e below G (T.setTop (mkF m pcY Ls st))) (KN : y < x → Done p e below G (T.setTop (mkF m pc' Ls st))) : Done p e below G (T.setTop (mkF m pc Ls (.int y :: .int x :: st))) := by
  subst hp
  by_cases hc : y < x
  · exact Done.go (fun t q => XS.icmpNo A hx rfl hd rfl (tlt hc).2.2.2 q) (KN hc)
  · exact Done.go (fun t q => XS.icmpYes A hx rfl (pc0 := pc) (pc' := pcY) rfl hd rfl (flt hc).2.2.2 (by omega) (by omega) q) (KY hc)
theorem k_if_le (A : At T m c below) (hx : p.tables.exec = Jvm.exec) {x : Int32} {o : Int} {pcY : Nat} (hd : decode c.code pc = .ok (.ifCond .le o, 3)) (hY : (pc : Int) + o = (pcY : Int)) (hp : pc + 3 = pc')
    (KY : ¬ 0 < x → Done p e below G (T.setTop (mkF m pcY Ls st))) (KN : 0 < x → Done p e below G (T.setTop (mkF m pc' Ls st))) : Done p e below G (T.setTop (mkF m pc Ls (.int x :: st))) := by
  subst hp
  by_cases hc : 0 < x
  · exact Done.go (fun t q => XS.ifNo A hx rfl hd rfl ((if0 _ _).trans (tlt hc).2.2.2) q) (KN hc)
  · exact Done.go (fun t q => XS.ifYes A hx rfl (pc0 := pc) (pc' := pcY) rfl hd rfl ((if0 _ _).trans (flt hc).2.2.2) (by omega) (by omega) q) (KY hc)
theorem k_icmp_eq (A : At T m c below) (hx : p.tables.exec = Jvm.exec) {x y : Int32} {o : Int} {pcY : Nat} (hd : decode c.code pc = .ok (.if_icmp .eq o, 3)) (hY : (pc : Int) + o = (pcY : Int)) (hp : pc + 3 = pc')
    (KY : x = y → Done p e below G (T.setTop (mkF m pcY Ls st))) (KN : ¬ x = y → Done p e below G (T.setTop (mkF m pc' Ls st))) : Done p e below G (T.setTop (mkF m pc Ls (.int y :: .int x :: st))) := by
  subst hp
  by_cases hc : x = y
  · exact Done.go (fun t q => XS.icmpYes A hx rfl (pc0 := pc) (pc' := pcY) rfl hd rfl (teq hc).1 (by omega) (by omega) q) (KY hc)
  · exact Done.go (fun t q => XS.icmpNo A hx rfl hd rfl (feq hc).1 q) (KN hc)
theorem k_if_eq (A : At T m c below) (hx : p.tables.exec = Jvm.exec) {x : Int32} {o : Int} {pcY : Nat} (hd : decode c.code pc = .ok (.ifCond .eq o, 3)) (hY : (pc : Int) + o = (pcY : Int)) (hp : pc + 3 = pc')
    (KY : x = 0 → Done p e below G (T.setTop (mkF m pcY Ls st))) (KN : ¬ x = 0 → Done p e below G (T.setTop (mkF m pc' Ls st))) : Done p e below G (T.setTop (mkF m pc Ls (.int x :: st))) := by
  subst hp
  by_cases hc : x = 0
  · exact Done.go (fun t q => XS.ifYes A hx rfl (pc0 := pc) (pc' := pcY) rfl hd rfl ((if0 _ _).trans (teq hc).1) (by omega) (by omega) q) (KY hc)
  · exact Done.go (fun t q => XS.ifNo A hx rfl hd rfl ((if0 _ _).trans (feq hc).1) q) (KN hc)
theorem k_icmp_ne (A : At T m c below) (hx : p.tables.exec = Jvm.exec) {x y : Int32} {o : Int} {pcY : Nat} (hd : decode c.code pc = .ok (.if_icmp .ne o, 3)) (hY : (pc : Int) + o = (pcY : Int)) (hp : pc + 3 = pc')
    (KY : ¬ x = y → Done p e below G (T.setTop (mkF m pcY Ls st))) (KN : x = y → Done p e below G (T.setTop (mkF m pc' Ls st))) : Done p e below G (T.setTop (mkF m pc Ls (.int y :: .int x :: st))) := by
  subst hp
  by_cases hc : x = y
  · exact Done.go (fun t q => XS.icmpNo A hx rfl hd rfl (teq hc).2 q) (KN hc)
  · exact Done.go (fun t q => XS.icmpYes A hx rfl (pc0 := pc) (pc' := pcY) rfl hd rfl (feq hc).2 (by omega) (by omega) q) (KY hc)
theorem k_if_ne (A : At T m c below) (hx : p.tables.exec = Jvm.exec) {x : Int32} {o : Int} {pcY : Nat} (hd : decode c.code pc = .ok (.ifCond .ne o, 3)) (hY : (pc : Int) + o = (pcY : Int)) (hp : pc + 3 = pc')
    (KY : ¬ x = 0 → Done p e below G (T.setTop (mkF m pcY Ls st))) (KN : x = 0 → Done p e below G (T.setTop (mkF m pc' Ls st))) : Done p e below G (T.setTop (mkF m pc Ls (.int x :: st))) := by
  subst hp
  by_cases hc : x = 0
  · exact Done.go (fun t q => XS.ifNo A hx rfl hd rfl ((if0 _ _).trans (teq hc).2) q) (KN hc)
  · exact Done.go (fun t q => XS.ifYes A hx rfl (pc0 := pc) (pc' := pcY) rfl hd rfl ((if0 _ _).trans (feq hc).2) (by omega) (by omega) q) (KY hc)
theorem k_lcmp_lt (A : At T m c below) (hx : p.tables.exec = Jvm.exec) {x y : Int64} {o : Int} {pcY : Nat} (hd : decode c.code pc = .ok (.lcmp, 1)) (hd2 : decode c.code (pc + 1) = .ok (.ifCond .lt o, 3)) (hY : ((pc + 1 : Nat) : Int) + o = (pcY : Int)) (hp : pc + 1 + 3 = pc')
    (KY : x < y → Done p e below G (T.setTop (mkF m pcY Ls st))) (KN : ¬ x < y → Done p e below G (T.setTop (mkF m pc' Ls st))) : Done p e below G (T.setTop (mkF m pc Ls (.long y :: .long x :: st))) := by
  subst hp
  by_cases hc : x < y
  · exact Done.go (fun t q => XS.lcmp A hx rfl hd rfl (XS.ifYes A hx rfl (pc0 := pc + 1) (pc' := pcY) rfl hd2 rfl ((if0 _ _).trans (tlt ((lw_lt x y).mpr hc)).1) (by omega) (by omega) q)) (KY hc)
  · exact Done.go (fun t q => XS.lcmp A hx rfl hd rfl (XS.ifNo A hx rfl hd2 rfl ((if0 _ _).trans (flt (fun z => hc ((lw_lt x y).mp z))).1) q)) (KN hc)
theorem k_lcmp_ge (A : At T m c below) (hx : p.tables.exec = Jvm.exec) {x y : Int64} {o : Int} {pcY : Nat} (hd : decode c.code pc = .ok (.lcmp, 1)) (hd2 : decode c.code (pc + 1) = .ok (.ifCond .ge o, 3)) (hY : ((pc + 1 : Nat) : Int) + o = (pcY : Int)) (hp : pc + 1 + 3 = pc')
    (KY : ¬ x < y → Done p e below G (T.setTop (mkF m pcY Ls st))) (KN : x < y → Done p e below G (T.setTop (mkF m pc' Ls st))) : Done p e below G (T.setTop (mkF m pc Ls (.long y :: .long x :: st))) := by
  subst hp
  by_cases hc : x < y
  · exact Done.go (fun t q => XS.lcmp A hx rfl hd rfl (XS.ifNo A hx rfl hd2 rfl ((if0 _ _).trans (tlt ((lw_lt x y).mpr hc)).2.1) q)) (KN hc)
  · exact Done.go (fun t q => XS.lcmp A hx rfl hd rfl (XS.ifYes A hx rfl (pc0 := pc + 1) (pc' := pcY) rfl hd2 rfl ((if0 _ _).trans (flt (fun z => hc ((lw_lt x y).mp z))).2.1) (by omega) (by omega) q)) (KY hc)
theorem k_lcmp_gt (A : At T m c below) (hx : p.tables.exec = Jvm.exec) {x y : Int64} {o : Int} {pcY : Nat} (hd : decode c.code pc = .ok (.lcmp, 1)) (hd2 : decode c.code (pc + 1) = .ok (.ifCond .gt o, 3)) (hY : ((pc + 1 : Nat) : Int) + o = (pcY : Int)) (hp : pc + 1 + 3 = pc')
    (KY : y < x → Done p e below G (T.setTop (mkF m pcY Ls st))) (KN : ¬ y < x → Done p e below G (T.setTop (mkF m pc' Ls st))) : Done p e below G (T.setTop (mkF m pc Ls (.long y :: .long x :: st))) := by
  subst hp
  by_cases hc : y < x
  · exact Done.go (fun t q => XS.lcmp A hx rfl hd rfl (XS.ifYes A hx rfl (pc0 := pc + 1) (pc' := pcY) rfl hd2 rfl ((if0 _ _).trans (tlt ((lw_gt x y).mpr hc)).2.2.1) (by omega) (by omega) q)) (KY hc)
  · exact Done.go (fun t q => XS.lcmp A hx rfl hd rfl (XS.ifNo A hx rfl hd2 rfl ((if0 _ _).trans (flt (fun z => hc ((lw_gt x y).mp z))).2.2.1) q)) (KN hc)
theorem k_lcmp_le (A : At T m c below) (hx : p.tables.exec = Jvm.exec) {x y : Int64} {o : Int} {pcY : Nat} (hd : decode c.code pc = .ok (.lcmp, 1)) (hd2 : decode c.code (pc + 1) = .ok (.ifCond .le o, 3)) (hY : ((pc + 1 : Nat) : Int) + o = (pcY : Int)) (hp : pc + 1 + 3 = pc')
    (KY : ¬ y < x → Done p e below G (T.setTop (mkF m pcY Ls st))) (KN : y < x → Done p e below G (T.setTop (mkF m pc' Ls st))) : Done p e below G (T.setTop (mkF m pc Ls (.long y :: .long x :: st))) := by
  subst hp
  by_cases hc : y < x
  · exact Done.go (fun t q => XS.lcmp A hx rfl hd rfl (XS.ifNo A hx rfl hd2 rfl ((if0 _ _).trans (tlt ((lw_gt x y).mpr hc)).2.2.2) q)) (KN hc)
  · exact Done.go (fun t q => XS.lcmp A hx rfl hd rfl (XS.ifYes A hx rfl (pc0 := pc + 1) (pc' := pcY) rfl hd2 rfl ((if0 _ _).trans (flt (fun z => hc ((lw_gt x y).mp z))).2.2.2) (by omega) (by omega) q)) (KY hc)
theorem k_lcmp_eq (A : At T m c below) (hx : p.tables.exec = Jvm.exec) {x y : Int64} {o : Int} {pcY : Nat} (hd : decode c.code pc = .ok (.lcmp, 1)) (hd2 : decode c.code (pc + 1) = .ok (.ifCond .eq o, 3)) (hY : ((pc + 1 : Nat) : Int) + o = (pcY : Int)) (hp : pc + 1 + 3 = pc')
    (KY : x = y → Done p e below G (T.setTop (mkF m pcY Ls st))) (KN : ¬ x = y → Done p e below G (T.setTop (mkF m pc' Ls st))) : Done p e below G (T.setTop (mkF m pc Ls (.long y :: .long x :: st))) := by
  subst hp
  by_cases hc : x = y
  · exact Done.go (fun t q => XS.lcmp A hx rfl hd rfl (XS.ifYes A hx rfl (pc0 := pc + 1) (pc' := pcY) rfl hd2 rfl ((if0 _ _).trans (teq ((lw_eq x y).mpr hc)).1) (by omega) (by omega) q)) (KY hc)
  · exact Done.go (fun t q => XS.lcmp A hx rfl hd rfl (XS.ifNo A hx rfl hd2 rfl ((if0 _ _).trans (feq (fun z => hc ((lw_eq x y).mp z))).1) q)) (KN hc)
theorem k_lcmp_ne (A : At T m c below) (hx : p.tables.exec = Jvm.exec) {x y : Int64} {o : Int} {pcY : Nat} (hd : decode c.code pc = .ok (.lcmp, 1)) (hd2 : decode c.code (pc + 1) = .ok (.ifCond .ne o, 3)) (hY : ((pc + 1 : Nat) : Int) + o = (pcY : Int)) (hp : pc + 1 + 3 = pc')
    (KY : ¬ x = y → Done p e below G (T.setTop (mkF m pcY Ls st))) (KN : x = y → Done p e below G (T.setTop (mkF m pc' Ls st))) : Done p e below G (T.setTop (mkF m pc Ls (.long y :: .long x :: st))) := by
  subst hp
  by_cases hc : x = y
  · exact Done.go (fun t q => XS.lcmp A hx rfl hd rfl (XS.ifNo A hx rfl hd2 rfl ((if0 _ _).trans (teq ((lw_eq x y).mpr hc)).2) q)) (KN hc)
  · exact Done.go (fun t q => XS.lcmp A hx rfl hd rfl (XS.ifYes A hx rfl (pc0 := pc + 1) (pc' := pcY) rfl hd2 rfl ((if0 _ _).trans (feq (fun z => hc ((lw_eq x y).mp z))).2) (by omega) (by omega) q)) (KY hc)
/-! ### a store into a slot of which only its one word is known -/
theorem store_eq (L : Array Slot) (i : Nat) (v : Value) : storeLocals L i v = (L[i]?).bind fun o => match o with
    | .second => (setAt L (i - 1) .unset).bind fun l => storeSelf l i v
    | .val old => if old.category = 2 then ((setAt L (i + 1) .unset).bind fun l => storeSelf l i v) else storeSelf L i v
    | .unset => storeSelf L i v := rfl
theorem store1 {L L' : Array Slot} {i : Nat} {o : Slot} {v : Value} (h : L[i]? = some o) (H : One o) (hs : storeSelf L i v = some L') : storeLocals L i v = some L' := by
  rw [store_eq, h]
  rcases H with rfl | ⟨w, rfl, q⟩
  · exact hs
  · show (if w.category = 2 then _ else storeSelf L i v) = _
    rw [if_neg (by omega)]; exact hs
/-! ### constants of the pool -/
theorem k_ldcInt (S : St p l e R s m args below meth c n0 T h k n) (hx : p.tables.exec = Jvm.exec) (hZ : Z.Warmed39 s.vm) {own : String} {index : Nat} {v : Int32} (hown : s.vm.findClass own = some m.cls) (w : (Jvm.Cond.constant own index v).before a0 Z = true)
    (hd : decode c.code pc = .ok (.ldc index, 2)) (hp : pc + 2 = pc') (K : Done p e below G (T.setTop (mkF m pc' Ls (.int v :: st)))) : Done p e below G (T.setTop (mkF m pc Ls st)) := by
  subst hp
  obtain ⟨_, X, -, -⟩ := S
  exact Done.go (X.ldcInt hx hown (mvT hZ w) (g := mkF m pc Ls st) rfl hd) K
theorem k_ldcwInt (S : St p l e R s m args below meth c n0 T h k n) (hx : p.tables.exec = Jvm.exec) (hZ : Z.Warmed39 s.vm) {own : String} {index : Nat} {v : Int32} (hown : s.vm.findClass own = some m.cls) (w : (Jvm.Cond.constant own index v).before a0 Z = true)
    (hd : decode c.code pc = .ok (.ldc_w index, 3)) (hp : pc + 3 = pc') (K : Done p e below G (T.setTop (mkF m pc' Ls (.int v :: st)))) : Done p e below G (T.setTop (mkF m pc Ls st)) := by
  subst hp
  obtain ⟨_, X, -, -⟩ := S
  exact Done.go (X.ldcwInt hx hown (mvT hZ w) (g := mkF m pc Ls st) rfl hd) K
theorem k_ldc2Long (S : St p l e R s m args below meth c n0 T h k n) (hx : p.tables.exec = Jvm.exec) (hZ : Z.Warmed39 s.vm) {own : String} {index : Nat} {v : Int64} (hown : s.vm.findClass own = some m.cls) (w : (Jvm.Cond.constantLong own index v).before a0 Z = true)
    (hd : decode c.code pc = .ok (.ldc2_w index, 3)) (hp : pc + 3 = pc') (K : Done p e below G (T.setTop (mkF m pc' Ls (.long v :: st)))) : Done p e below G (T.setTop (mkF m pc Ls st)) := by
  subst hp
  obtain ⟨_, X, -, -⟩ := S
  exact Done.go (X.ldc2Long hx hown (mvT hZ w) (g := mkF m pc Ls st) rfl hd) K
/-! ### returns -/
variable {Q : Option Value → Heap → Prop}
theorem k_ret_val {w : Value} {t : FieldType} {i : Instr} (S : St p l e R s m args below meth c n0 T h k n) (hx : p.tables.exec = Jvm.exec) (hret : meth.sig.returnType = some t) (hlk : meth.locks = false) (hd : decode c.code pc = .ok (i, 1)) (hn' : narrow t w = w)
    (hi : (i = .ireturn ∧ (t = .int ∨ t = .boolean ∨ t = .byte ∨ t = .char ∨ t = .short) ∧ ∃ z, w = .int z) ∨ (i = .lreturn ∧ t = .long ∧ ∃ z, w = .long z) ∨ (i = .dreturn ∧ t = .double ∧ ∃ z, w = .double z) ∨ (i = .freturn ∧ t = .float ∧ ∃ z, w = .float z) ∨ (i = .areturn ∧ t.isReference = true ∧ w.isRef = true))
    (hk : k ≤ R.cells) (hn : n ≤ R.slots) (q : Q (some w) h) : Done p e below (OEnd s R n0 Q) (T.setTop (mkF m pc Ls (w :: st))) := by
  obtain ⟨locs, X, N, eT⟩ := S
  obtain ⟨fs, hr, hrun, hended, hW, hsame⟩ := X.leave (v := some w) (fun h => by rw [hret] at h; cases h) hlk
  refine ⟨_, _, retOut X hx hret hn' hi hd hr, hrun, hended, _, locs, rfl, ⟨?_, N⟩, ⟨_, rfl⟩, hW, hsame.mono hk hn⟩
  show Q _ T.heap
  rw [eT]; exact q
theorem k_ret_int {z : Int32} (S : St p l e R s m args below meth c n0 T h k n) (hx : p.tables.exec = Jvm.exec) (hret : meth.sig.returnType = some .int) (hlk : meth.locks = false) (hd : decode c.code pc = .ok (.ireturn, 1))
    (hk : k ≤ R.cells) (hn : n ≤ R.slots) (q : Q (some (.int z)) h) : Done p e below (OEnd s R n0 Q) (T.setTop (mkF m pc Ls (.int z :: st))) :=
  k_ret_val S hx hret hlk hd rfl (Or.inl ⟨rfl, Or.inl rfl, z, rfl⟩) hk hn q
theorem k_ret_long {z : Int64} (S : St p l e R s m args below meth c n0 T h k n) (hx : p.tables.exec = Jvm.exec) (hret : meth.sig.returnType = some .long) (hlk : meth.locks = false) (hd : decode c.code pc = .ok (.lreturn, 1))
    (hk : k ≤ R.cells) (hn : n ≤ R.slots) (q : Q (some (.long z)) h) : Done p e below (OEnd s R n0 Q) (T.setTop (mkF m pc Ls (.long z :: st))) :=
  k_ret_val S hx hret hlk hd rfl (Or.inr (Or.inl ⟨rfl, rfl, z, rfl⟩)) hk hn q
theorem k_ret_ref {a : Addr} {t : FieldType} (S : St p l e R s m args below meth c n0 T h k n) (hx : p.tables.exec = Jvm.exec) (hret : meth.sig.returnType = some t) (ht : t.isReference = true) (hlk : meth.locks = false) (hd : decode c.code pc = .ok (.areturn, 1))
    (hk : k ≤ R.cells) (hn : n ≤ R.slots) (q : Q (some (.ref a)) h) : Done p e below (OEnd s R n0 Q) (T.setTop (mkF m pc Ls (.ref a :: st))) :=
  k_ret_val S hx hret hlk hd (by cases t <;> first | rfl | (cases ht; done)) (Or.inr (Or.inr (Or.inr (Or.inr ⟨rfl, ht, rfl⟩)))) hk hn q
theorem k_ret_nar {z z' : Int32} {t : FieldType} (S : St p l e R s m args below meth c n0 T h k n) (hx : p.tables.exec = Jvm.exec) (hret : meth.sig.returnType = some t) (ht : t = .boolean ∨ t = .byte ∨ t = .char ∨ t = .short) (hlk : meth.locks = false) (hd : decode c.code pc = .ok (.ireturn, 1)) (hz : nar t z = z')
    (hk : k ≤ R.cells) (hn : n ≤ R.slots) (q : Q (some (.int z')) h) : Done p e below (OEnd s R n0 Q) (T.setTop (mkF m pc Ls (.int z :: st))) := by
  obtain ⟨locs, X, N, eT⟩ := S
  subst hz
  obtain ⟨fs, hr, hrun, hended, hW, hsame⟩ := X.leave (v := some (.int (nar t z))) (fun h => by rw [hret] at h; cases h) hlk
  refine ⟨_, _, retN X hx hret ht hd hr, hrun, hended, _, locs, rfl, ⟨?_, N⟩, ⟨_, rfl⟩, hW, hsame.mono hk hn⟩
  show Q _ T.heap
  rw [eT]; exact q
theorem k_ret_void (S : St p l e R s m args below meth c n0 T h k n) (hx : p.tables.exec = Jvm.exec) (hret : meth.sig.returnType = none) (hlk : meth.locks = false) (hd : decode c.code pc = .ok (.return_, 1))
    (hk : k ≤ R.cells) (hn : n ≤ R.slots) (q : Q none h) : Done p e below (OEnd s R n0 Q) (T.setTop (mkF m pc Ls [])) := by
  obtain ⟨locs, X, N, eT⟩ := S
  obtain ⟨fs, hr, hrun, hended, hW, hsame⟩ := X.leave (v := none) (fun _ => rfl) hlk
  refine ⟨_, _, X.returnOut hx hret hd hr, hrun, hended, _, locs, rfl, ⟨?_, N⟩, ⟨_, rfl⟩, hW, hsame.mono hk hn⟩
  show Q _ T.heap
  rw [eT]; exact q
/-! ### calls by a contract -/
theorem k_call_static (S : St p l e R s m args below meth c n0 T h k n) (hx : p.tables.exec = Jvm.exec) (hZ : Z.Warmed39 s.vm) {own : String} {index : Nat} {y : MethodName} {bytes : ByteArray} {maxL : Nat} {ret : Option FieldType} (hown : s.vm.findClass own = some m.cls)
    (w1 : (Jvm.Cond.methodLink own index y).before a0 Z = true) (w2 : (Jvm.Cond.static y).before a0 Z = true) (w3 : (Jvm.Cond.initialized y.cls).before a0 Z = true) (w4 : (Jvm.Cond.code y bytes maxL ret).before a0 Z = true)
    (hy : y.cls ≠ "java/lang/invoke/MethodHandle" ∧ y.cls ≠ "java/lang/invoke/VarHandle") {rm : Room} {as' : Array Value} (C : Con l Z y bytes maxL ret rm n0 h as' Q) (W : Nat) {argsL rest : List Value}
    (hf : rm.frames + 1 ≤ R.frames) (hl : W + (maxL + 11) + rm.locals ≤ R.locals) (hml : Ls.size = c.maxLocals) (hlen : ∀ sig, parseMethodDescriptor y.desc = some sig → argsL.length = sig.parameters.length) (has : argsL.toArray = as')
    (hst : st = argsL.reverse ++ rest) (hW : (rest.map fun v => v.category).sum ≤ W) (hd : decode c.code pc = .ok (.invokestatic index, 3)) (hp : pc + 3 = pc') (hk : k + rm.cells ≤ R.cells) (hn : n + rm.slots ≤ R.slots)
    (K : ∀ v T' h', Q v h' → St p l e R s m args below meth c n0 T' h' (k + rm.cells) (n + rm.slots) → Done p e below G (T'.setTop (mkF m pc' Ls (v.toList ++ rest)))) :
    Done p e below G (T.setTop (mkF m pc Ls st)) := by
  subst hp
  obtain ⟨locs, X, N, eT⟩ := S
  obtain ⟨v, vm₁, ⟨T', L', k', n'⟩, -, X', ⟨L, ⟨hQ, NL⟩, e1, e2, e3⟩, step⟩ := Jvm.LawKit.callS X hx (y := y) hown (mvT hZ w1) (mvT hZ w2) (mvT hZ w3) (mvT hZ w4) hy
    (backOf (W := W) (Q := fun v h L => Q v h ∧ Fr n0 L) (C []) hZ w4 w3 hf hl) (g := mkF m pc Ls st) rfl hml (argsL := argsL) (rest := rest) hlen hst (by show 2 * 0 + _ ≤ _; omega) hd
    (fun _ _ => ⟨has, eT, hk, hn⟩)
  dsimp only [Pt.U, Pt.locs, Pt.cells, Pt.slots] at X' hQ e1 e2 e3 step
  subst e1 e2 e3
  exact Done.go step (K v T' T'.heap hQ ⟨_, X', Fr.app N NL, rfl⟩)
theorem k_call_init (S : St p l e R s m args below meth c n0 T h k n) (hx : p.tables.exec = Jvm.exec) (hZ : Z.Warmed39 s.vm) {own : String} {index : Nat} {y : MethodName} {bytes : ByteArray} {maxL : Nat} (hown : s.vm.findClass own = some m.cls) (hy1 : y.name = "<init>")
    (w1 : (Jvm.Cond.methodLink own index y).before a0 Z = true) (w2 : (Jvm.Cond.instanceMethod y).before a0 Z = true) (w3 : (Jvm.Cond.initialized y.cls).before a0 Z = true) (w4 : (Jvm.Cond.code y bytes maxL none).before a0 Z = true)
    (hy : y.cls ≠ "java/lang/invoke/MethodHandle" ∧ y.cls ≠ "java/lang/invoke/VarHandle") {rm : Room} {as' : Array Value} (C : Con l Z y bytes maxL none rm n0 h as' Q) (W : Nat) {a : Addr} {argsL rest : List Value}
    (hf : rm.frames + 1 ≤ R.frames) (hl : W + (maxL + 11) + rm.locals ≤ R.locals) (hml : Ls.size = c.maxLocals) (hlen : ∀ sig, parseMethodDescriptor y.desc = some sig → argsL.length = sig.parameters.length) (has : (.ref a :: argsL).toArray = as')
    (hst : st = argsL.reverse ++ .ref a :: rest) (hW : (rest.map fun v => v.category).sum ≤ W) (hd : decode c.code pc = .ok (.invokespecial index, 3)) (hp : pc + 3 = pc') (hk : k + rm.cells ≤ R.cells) (hn : n + rm.slots ≤ R.slots)
    (K : ∀ v T' h', Q v h' → St p l e R s m args below meth c n0 T' h' (k + rm.cells) (n + rm.slots) → Done p e below G (T'.setTop (mkF m pc' Ls (v.toList ++ rest)))) :
    Done p e below G (T.setTop (mkF m pc Ls st)) := by
  subst hp
  obtain ⟨locs, X, N, eT⟩ := S
  obtain ⟨v, vm₁, ⟨T', L', k', n'⟩, -, X', ⟨L, ⟨hQ, NL⟩, e1, e2, e3⟩, step⟩ := X.specialBack hx (y := y) hy1 hown (mvT hZ w1) (mvT hZ w2) (mvT hZ w4) hy
    (backOf (W := W) (Q := fun v h L => Q v h ∧ Fr n0 L) (C []) hZ w4 w3 hf hl) (g := mkF m pc Ls st) rfl hml (Steps.refl _) (a := a) (argsL := argsL) (rest := rest) hlen hst (by show 2 * 0 + _ ≤ _; omega) hd
    (fun _ _ => ⟨has, eT, hk, hn⟩)
  dsimp only [Pt.U, Pt.locs, Pt.cells, Pt.slots] at X' hQ e1 e2 e3 step
  subst e1 e2 e3
  exact Done.go (fun t q => step.trans q) (K v T' T'.heap hQ ⟨_, X', Fr.app N NL, rfl⟩)
theorem k_call_virtual (S : St p l e R s m args below meth c n0 T h k n) (hx : p.tables.exec = Jvm.exec) (hZ : Z.Warmed39 s.vm) {own : String} {index : Nat} {y : MethodName} {bytes : ByteArray} {maxL : Nat} {ret : Option FieldType} (hown : s.vm.findClass own = some m.cls) {a : Addr} (E : Exa Z h a y.cls)
    (w1 : (Jvm.Cond.methodLink own index y).before a0 Z = true) (w2 : (Jvm.Cond.declares y).before a0 Z = true) (w5 : (Jvm.Cond.selects y.cls y y).before a0 Z = true) (w6 : (Jvm.Cond.instanceMethod y).before a0 Z = true) (w3 : (Jvm.Cond.initialized y.cls).before a0 Z = true) (w4 : (Jvm.Cond.code y bytes maxL ret).before a0 Z = true)
    (hy : y.cls ≠ "java/lang/invoke/MethodHandle" ∧ y.cls ≠ "java/lang/invoke/VarHandle") {rm : Room} {as' : Array Value} (C : Con l Z y bytes maxL ret rm n0 h as' Q) (W : Nat) {argsL rest : List Value}
    (hf : rm.frames + 1 ≤ R.frames) (hl : W + (maxL + 11) + rm.locals ≤ R.locals) (hml : Ls.size = c.maxLocals) (hlen : ∀ sig, parseMethodDescriptor y.desc = some sig → argsL.length = sig.parameters.length) (has : (.ref a :: argsL).toArray = as')
    (hst : st = argsL.reverse ++ .ref a :: rest) (hW : (rest.map fun v => v.category).sum ≤ W) (hd : decode c.code pc = .ok (.invokevirtual index, 3)) (hp : pc + 3 = pc') (hk : k + rm.cells ≤ R.cells) (hn : n + rm.slots ≤ R.slots)
    (K : ∀ v T' h', Q v h' → St p l e R s m args below meth c n0 T' h' (k + rm.cells) (n + rm.slots) → Done p e below G (T'.setTop (mkF m pc' Ls (v.toList ++ rest)))) :
    Done p e below G (T.setTop (mkF m pc Ls st)) := by
  subst hp
  obtain ⟨locs, X, N, eT⟩ := S
  obtain ⟨cq, kq, qa, qb, qc⟩ := isOf hZ eT E
  obtain ⟨v, vm₁, ⟨T', L', k', n'⟩, -, X', ⟨L, ⟨hQ, NL⟩, e1, e2, e3⟩, step⟩ := X.virtualBack hx (y := y) (z := y) hown (mvT hZ w1) (mvT hZ w2) (notFace_of_selects (args := #[]) (mvT hZ w5)) (mvT hZ w5) (mvT hZ w6) hy
    (backOf (W := W) (Q := fun v h L => Q v h ∧ Fr n0 L) (C []) hZ w4 w3 hf hl) qa qc (g := mkF m pc Ls st) rfl hml (Steps.refl _) (argsL := argsL) (rest := rest) hlen hst (by show 2 * 0 + _ ≤ _; omega) hd
    (fun _ _ => ⟨has, eT, hk, hn⟩)
  dsimp only [Pt.U, Pt.locs, Pt.cells, Pt.slots] at X' hQ e1 e2 e3 step
  subst e1 e2 e3
  exact Done.go (fun t q => step.trans q) (K v T' T'.heap hQ ⟨_, X', Fr.app N NL, rfl⟩)
theorem k_call_private (S : St p l e R s m args below meth c n0 T h k n) (hx : p.tables.exec = Jvm.exec) (hZ : Z.Warmed39 s.vm) {own : String} {index : Nat} {y : MethodName} {bytes : ByteArray} {maxL : Nat} {ret : Option FieldType} (hown : s.vm.findClass own = some m.cls) {a : Addr} (E : Exa Z h a y.cls)
    (w1 : (Jvm.Cond.methodLink own index y).before a0 Z = true) (w6 : (Jvm.Cond.instanceMethod y).before a0 Z = true) (w5 : (Jvm.Cond.selects y.cls y y).before a0 Z = true) (w7 : (Jvm.Cond.privateMethod y).before a0 Z = true) (w3 : (Jvm.Cond.initialized y.cls).before a0 Z = true) (w4 : (Jvm.Cond.code y bytes maxL ret).before a0 Z = true)
    (hy : y.cls ≠ "java/lang/invoke/MethodHandle" ∧ y.cls ≠ "java/lang/invoke/VarHandle") {rm : Room} {as' : Array Value} (C : Con l Z y bytes maxL ret rm n0 h as' Q) (W : Nat) {argsL rest : List Value}
    (hf : rm.frames + 1 ≤ R.frames) (hl : W + (maxL + 11) + rm.locals ≤ R.locals) (hml : Ls.size = c.maxLocals) (hlen : ∀ sig, parseMethodDescriptor y.desc = some sig → argsL.length = sig.parameters.length) (has : (.ref a :: argsL).toArray = as')
    (hst : st = argsL.reverse ++ .ref a :: rest) (hW : (rest.map fun v => v.category).sum ≤ W) (hd : decode c.code pc = .ok (.invokevirtual index, 3)) (hp : pc + 3 = pc') (hk : k + rm.cells ≤ R.cells) (hn : n + rm.slots ≤ R.slots)
    (K : ∀ v T' h', Q v h' → St p l e R s m args below meth c n0 T' h' (k + rm.cells) (n + rm.slots) → Done p e below G (T'.setTop (mkF m pc' Ls (v.toList ++ rest)))) :
    Done p e below G (T.setTop (mkF m pc Ls st)) := by
  subst hp
  obtain ⟨locs, X, N, eT⟩ := S
  obtain ⟨cq, q1, q2⟩ := E.cell
  obtain ⟨v, vm₁, ⟨T', L', k', n'⟩, -, X', ⟨L, ⟨hQ, NL⟩, e1, e2, e3⟩, step⟩ := X.privateBack hx (y := y) hown (mvT hZ w1) (mvT hZ w6) (mvT hZ w5) (Cond.privateMethod_at (mvP hZ w7 (args := #[]))) (mvT hZ w4) hy
    (backOf (W := W) (Q := fun v h L => Q v h ∧ Fr n0 L) (C []) hZ w4 w3 hf hl) (g := mkF m pc Ls st) rfl hml (Steps.refl _) (a := a) (by rw [eT]; exact q1) q2 (argsL := argsL) (rest := rest) hlen hst (by show 2 * 0 + _ ≤ _; omega) hd
    (fun _ _ => ⟨has, eT, hk, hn⟩)
  dsimp only [Pt.U, Pt.locs, Pt.cells, Pt.slots] at X' hQ e1 e2 e3 step
  subst e1 e2 e3
  exact Done.go (fun t q => step.trans q) (K v T' T'.heap hQ ⟨_, X', Fr.app N NL, rfl⟩)
/-- any one step of the library's that leaves the heap and the room as they are -/
theorem k_via {f f' : JFrame} (S : St p l e R s m args below meth c n0 T h k n) (I : ∀ locs, Stand p l e R s m args below meth c T locs k n → T.heap = h → ∃ T', Stand p l e R s m args below meth c T' locs k n ∧ T'.heap = h ∧ ∀ target, Steps p.tables e below (T'.setTop f') target → Steps p.tables e below (T.setTop f) target)
    (K : ∀ T', St p l e R s m args below meth c n0 T' h k n → Done p e below G (T'.setTop f')) : Done p e below G (T.setTop f) := by
  obtain ⟨locs, X, N, eT⟩ := S
  obtain ⟨T', X', eT', step⟩ := I locs X eT
  exact Done.go step (K T' ⟨_, X', N, eT'⟩)
/-! ### the heap: objects and fields -/
theorem k_getfield (S : St p l e R s m args below meth c n0 T h k n) (hx : p.tables.exec = Jvm.exec) (hZ : Z.Warmed39 s.vm) {own O f d : String} {index : Nat} (hown : s.vm.findClass own = some m.cls) (w : (Jvm.Cond.fieldLink own index O f d).before a0 Z = true)
    {a : Addr} {v : Value} (F : Fld Z h a O f d v) (hd : decode c.code pc = .ok (.getfield index, 3)) (hp : pc + 3 = pc')
    (K : ∀ T', St p l e R s m args below meth c n0 T' h k n → Done p e below G (T'.setTop (mkF m pc' Ls (v :: st)))) : Done p e below G (T.setTop (mkF m pc Ls (.ref a :: st))) := by
  subst hp
  obtain ⟨locs, X, N, eT⟩ := S
  obtain ⟨T', X', eT', step⟩ := getF X hx hZ hown (host := "") (Or.inl w) Via.refl eT F (g := mkF m pc Ls (.ref a :: st)) rfl rfl hd
  exact Done.go step (K T' ⟨_, X', N, eT'⟩)
theorem k_putfield (S : St p l e R s m args below meth c n0 T h k n) (hx : p.tables.exec = Jvm.exec) (hZ : Z.Warmed39 s.vm) {own O f d C : String} {index kk : Nat} {ty : FieldType} (hown : s.vm.findClass own = some m.cls) (w : (Jvm.Cond.fieldLink own index O f d).before a0 Z = true)
    {a : Addr} {v old : Value} (F : Fld Z h a O f d old) (E : Exa Z h a C) (L : (Jvm.Cond.lays C O f d).before a0 Z = true ∨ ((Jvm.Cond.laysFinal C O f d).before a0 Z = true ∧ own = O ∧ meth.name = "<init>")) (wi : (Jvm.Cond.instantiable C kk).before a0 Z = true)
    (hty : parseFieldDescriptor d = some ty) (hn' : narrow ty v = v) (hf : fits ty v = true) (ha : n0 ≤ a) (hd : decode c.code pc = .ok (.putfield index, 3)) (hp : pc + 3 = pc')
    (K : ∀ T' h', Wr h h' a (Jvm.RoadKit.slotOf Z O f d) v → St p l e R s m args below meth c n0 T' h' k n → Done p e below G (T'.setTop (mkF m pc' Ls st))) : Done p e below G (T.setTop (mkF m pc Ls (v :: .ref a :: st))) := by
  subst hp
  obtain ⟨locs, X, N, eT⟩ := S
  obtain ⟨T', h', X', eT', W, step⟩ := putF X hx hZ hown (host := "") (Or.inl w) Via.refl eT F E L wi hty hn' hf (g := mkF m pc Ls (v :: .ref a :: st)) rfl rfl hd
  exact Done.go step (K T' h' W ⟨_, X', Fr.snoc X' N ha, eT'⟩)
theorem k_new (S : St p l e R s m args below meth c n0 T h k n) (hx : p.tables.exec = Jvm.exec) (hZ : Z.Warmed39 s.vm) {own C : String} {index f : Nat} (hown : s.vm.findClass own = some m.cls) (w : (Jvm.Cond.classLink own index C).before a0 Z = true) (wi : (Jvm.Cond.instantiable C f).before a0 Z = true) (wz : (Jvm.Cond.initialized C).before a0 Z = true)
    (hd : decode c.code pc = .ok (.new index, 3)) (hp : pc + 3 = pc') (hk : k + 1 ≤ R.cells) (hn : n + f ≤ R.slots)
    (K : ∀ T' h' b, b = h.size → Ext h h' → Exa Z h' b C → (∀ {O nm d : String} {ty : FieldType}, Laid Z a0 C O nm d → parseFieldDescriptor d = some ty → Fld Z h' b O nm d (defaultValue ty)) → St p l e R s m args below meth c n0 T' h' (k + 1) (n + f) → Done p e below G (T'.setTop (mkF m pc' Ls (.ref b :: st)))) :
    Done p e below G (T.setTop (mkF m pc Ls st)) := by
  subst hp
  obtain ⟨locs, X, N, eT⟩ := S
  obtain ⟨T', h', X', eT', E, A, D, -, step⟩ := newO X hx hZ hown w wi wz eT (g := mkF m pc Ls st) rfl hd hk hn
  exact Done.go step (K T' h' _ rfl E A D ⟨_, X', N, eT'⟩)
end Walk
end Jvm.OwnKit

namespace Jvm.OwnKit
open Sem ClassFile Op Lib Jvm.Stand Jvm.Free Jvm.LawKit Jvm.RoadKit
/-! My own layer: arrays as lists. -/
/-- at a lies an array of ty that holds vs -/
def Vec (Z : State) (h : Heap) (a : Addr) (ty : FieldType) (vs : List Value) : Prop := ∃ c : Cell, Arr Z h a c ty ∧ c.slots.toList = vs ∧ vs.length < 2 ^ 31
/-- an int[] | a byte[] that holds xs -/
def IV (Z : State) (h : Heap) (a : Addr) (xs : List Int32) : Prop := Vec Z h a .int (xs.map Value.int)
def BV (Z : State) (h : Heap) (a : Addr) (xs : List Int32) : Prop := Vec Z h a .byte (xs.map Value.int)
/-- a long[] that holds xs -/
def LV (Z : State) (h : Heap) (a : Addr) (xs : List Int64) : Prop := Vec Z h a .long (xs.map Value.long)
theorem Keep.ext0 {h h' : Heap} (K : Keep h h' []) : Ext h h' := ⟨K.1, fun x c q => K.2.1 x c q nin0⟩
theorem Keep.of_ext {h h' : Heap} (E : Ext h h') (ws : List Addr) : Keep h h' ws := (Keep.refl h ws).ext E
section Arrays
variable {p : Program} {l : Launch} {e : Env} {R : Room} {s : State} {m : MethodId} {args : Array Value} {below : List Frame} {meth : Method} {c : Code} {n0 : Nat} {T : State} {h h' : Heap} {k n : Nat} {Z : State} {a0 : Array Value}
variable {G : Outcome → State → Prop} {pc pc' : Nat} {Ls Ls' : Array Slot} {st : List Value} {a b : Addr} {ty : FieldType} {vs : List Value} {xs : List Int32} {ys : List Int64} {ws : List Addr} {sl : Nat} {v : Value}
theorem Vec.lt (F : Vec Z h a ty vs) : a < h.size := by obtain ⟨c, A, -⟩ := F; exact A.lt
theorem Vec.ext (F : Vec Z h a ty vs) (E : Ext h h') : Vec Z h' a ty vs := by obtain ⟨c, A, r⟩ := F; exact ⟨c, A.ext E, r⟩
theorem Vec.other (F : Vec Z h b ty vs) (W : Wr h h' a sl v) (q : b ≠ a) : Vec Z h' b ty vs := by obtain ⟨c, A, r⟩ := F; exact ⟨c, A.other W q, r⟩
theorem Vec.keep (F : Vec Z h a ty vs) (K : Keep h h' ws) (q : a ∉ ws) : Vec Z h' a ty vs := by obtain ⟨c, A, r⟩ := F; exact ⟨c, ⟨K.2.1 a c A.1 q, A.2⟩, r⟩
theorem Vec.put (F : Vec Z h a ty vs) (W : Wr h h' a sl v) : Vec Z h' a ty (vs.set sl v) := by
  obtain ⟨c, A, q, r⟩ := F
  exact ⟨_, A.same W, by simp [Cell.setSlot, q], by simpa using r⟩
theorem Vec.mk {x : Int32} (A : Arr Z h a (newA k ty x) ty) : Vec Z h a ty (List.replicate x.toInt.toNat (defaultValue ty)) := ⟨_, A, by
  show (Array.replicate x.toInt.toNat (defaultValue ty)).toList = _
  rw [Array.toList_replicate], by
  have := x.toInt_lt
  rw [List.length_replicate]; omega⟩
theorem IV.lt (F : IV Z h a xs) : a < h.size := Vec.lt F
theorem IV.ext (F : IV Z h a xs) (E : Ext h h') : IV Z h' a xs := Vec.ext F E
theorem IV.other (F : IV Z h b xs) (W : Wr h h' a sl v) (q : b ≠ a) : IV Z h' b xs := Vec.other F W q
theorem IV.keep (F : IV Z h a xs) (K : Keep h h' ws) (q : a ∉ ws) : IV Z h' a xs := Vec.keep F K q
theorem IV.put {x : Int32} (F : IV Z h a xs) (W : Wr h h' a sl (.int x)) : IV Z h' a (xs.set sl x) := by
  have q := Vec.put F W
  rw [← List.map_set] at q; exact q
theorem IV.len (F : IV Z h a xs) : xs.length < 2 ^ 31 := by obtain ⟨_, _, _, q⟩ := F; simpa using q
theorem BV.lt (F : BV Z h a xs) : a < h.size := Vec.lt F
theorem BV.ext (F : BV Z h a xs) (E : Ext h h') : BV Z h' a xs := Vec.ext F E
theorem BV.other (F : BV Z h b xs) (W : Wr h h' a sl v) (q : b ≠ a) : BV Z h' b xs := Vec.other F W q
theorem BV.keep (F : BV Z h a xs) (K : Keep h h' ws) (q : a ∉ ws) : BV Z h' a xs := Vec.keep F K q
theorem BV.put {x : Int32} (F : BV Z h a xs) (W : Wr h h' a sl (.int x)) : BV Z h' a (xs.set sl x) := by
  have q := Vec.put F W
  rw [← List.map_set] at q; exact q
theorem BV.len (F : BV Z h a xs) : xs.length < 2 ^ 31 := by obtain ⟨_, _, _, q⟩ := F; simpa using q
theorem LV.lt (F : LV Z h a ys) : a < h.size := Vec.lt F
theorem LV.ext (F : LV Z h a ys) (E : Ext h h') : LV Z h' a ys := Vec.ext F E
theorem LV.other (F : LV Z h b ys) (W : Wr h h' a sl v) (q : b ≠ a) : LV Z h' b ys := Vec.other F W q
theorem LV.keep (F : LV Z h a ys) (K : Keep h h' ws) (q : a ∉ ws) : LV Z h' a ys := Vec.keep F K q
theorem LV.put {x : Int64} (F : LV Z h a ys) (W : Wr h h' a sl (.long x)) : LV Z h' a (ys.set sl x) := by
  have q := Vec.put F W
  rw [← List.map_set] at q; exact q
theorem LV.len (F : LV Z h a ys) : ys.length < 2 ^ 31 := by obtain ⟨_, _, _, q⟩ := F; simpa using q
theorem inb {c : Cell} {j : Int32} (q : c.slots.toList = vs) (h1 : 0 ≤ j.toInt) (h2 : j.toInt < vs.length) : ¬ (j < 0 ∨ c.slots.size ≤ j.toNatClampNeg) := by
  subst q
  rw [Int32.lt_iff_toInt_lt]
  have e0 : (0 : Int32).toInt = 0 := rfl
  have e1 : j.toNatClampNeg = j.toInt.toNat := rfl
  have e2 : c.slots.toList.length = c.slots.size := by simp
  omega
theorem k_arraylength {z : Int32} (S : St p l e R s m args below meth c n0 T h k n) (hx : p.tables.exec = Jvm.exec) (hZ : Z.Warmed39 s.vm) (V : Vec Z h a ty vs) (hd : decode c.code pc = .ok (.arraylength, 1)) (hz : vs.length.toInt32 = z) (hp : pc + 1 = pc')
    (K : Done p e below G (T.setTop (mkF m pc' Ls (.int z :: st)))) : Done p e below G (T.setTop (mkF m pc Ls (.ref a :: st))) := by
  subst hp hz
  obtain ⟨_, X, -, eT⟩ := S
  obtain ⟨cl, A, q, r⟩ := V
  have e2 : vs.length = cl.slots.size := by rw [← q]; simp
  rw [e2] at K
  exact Done.go (fun t z => X.arraylength hx (by rw [eT]; exact A.1) (State.isArrayOf_alike hZ.alike A.2.1) (g := mkF m pc Ls (.ref a :: st)) rfl rfl hd _ z) K
theorem k_iaload {j w : Int32} (S : St p l e R s m args below meth c n0 T h k n) (hx : p.tables.exec = Jvm.exec) (hZ : Z.Warmed39 s.vm) (V : IV Z h a xs) (hd : decode c.code pc = .ok (.iaload, 1)) (h1 : 0 ≤ j.toInt) (h2 : j.toInt < xs.length) (hv : xs.getD j.toInt.toNat 0 = w) (hp : pc + 1 = pc')
    (K : Done p e below G (T.setTop (mkF m pc' Ls (.int w :: st)))) : Done p e below G (T.setTop (mkF m pc Ls (.int j :: .ref a :: st))) := by
  subst hp hv
  obtain ⟨_, X, -, eT⟩ := S
  obtain ⟨cl, A, q, r⟩ := V
  have hl : j.toInt.toNat < xs.length := by omega
  have hv : cl.slots[j.toNatClampNeg]? = some (.int (xs.getD j.toInt.toNat 0)) := by
    show cl.slots[j.toInt.toNat]? = _
    rw [← Array.getElem?_toList, q, List.getElem?_map, List.getElem?_eq_getElem hl]
    rw [List.getD_eq_getElem?_getD, List.getElem?_eq_getElem hl]; rfl
  exact Done.go (fun t z => X.iaload hx (by rw [eT]; exact A.1) (State.isArrayOf_alike hZ.alike A.2.1) A.2.2 (inb q h1 (by simpa using h2)) hv (g := mkF m pc Ls (.int j :: .ref a :: st)) rfl rfl hd _ z) K
theorem k_baload {j w : Int32} (S : St p l e R s m args below meth c n0 T h k n) (hx : p.tables.exec = Jvm.exec) (hZ : Z.Warmed39 s.vm) (V : BV Z h a xs) (hd : decode c.code pc = .ok (.baload, 1)) (h1 : 0 ≤ j.toInt) (h2 : j.toInt < xs.length) (hv : xs.getD j.toInt.toNat 0 = w) (hp : pc + 1 = pc')
    (K : Done p e below G (T.setTop (mkF m pc' Ls (.int w :: st)))) : Done p e below G (T.setTop (mkF m pc Ls (.int j :: .ref a :: st))) := by
  subst hp hv
  obtain ⟨_, X, -, eT⟩ := S
  obtain ⟨cl, A, q, r⟩ := V
  have hl : j.toInt.toNat < xs.length := by omega
  have hv : cl.slots[j.toNatClampNeg]? = some (.int (xs.getD j.toInt.toNat 0)) := by
    show cl.slots[j.toInt.toNat]? = _
    rw [← Array.getElem?_toList, q, List.getElem?_map, List.getElem?_eq_getElem hl]
    rw [List.getD_eq_getElem?_getD, List.getElem?_eq_getElem hl]; rfl
  exact Done.go (fun t z => X.baloadBytes hx (by rw [eT]; exact A.1) (State.isArrayOf_alike hZ.alike A.2.1) A.2.2 (inb q h1 (by simpa using h2)) hv (g := mkF m pc Ls (.int j :: .ref a :: st)) rfl rfl hd _ z) K
theorem k_laload {j : Int32} {w : Int64} (S : St p l e R s m args below meth c n0 T h k n) (hx : p.tables.exec = Jvm.exec) (hZ : Z.Warmed39 s.vm) (V : LV Z h a ys) (hd : decode c.code pc = .ok (.laload, 1)) (h1 : 0 ≤ j.toInt) (h2 : j.toInt < ys.length) (hv : ys.getD j.toInt.toNat 0 = w) (hp : pc + 1 = pc')
    (K : Done p e below G (T.setTop (mkF m pc' Ls (.long w :: st)))) : Done p e below G (T.setTop (mkF m pc Ls (.int j :: .ref a :: st))) := by
  subst hp hv
  obtain ⟨_, X, -, eT⟩ := S
  obtain ⟨cl, A, q, r⟩ := V
  have hl : j.toInt.toNat < ys.length := by omega
  have hv : cl.slots[j.toNatClampNeg]? = some (.long (ys.getD j.toInt.toNat 0)) := by
    show cl.slots[j.toInt.toNat]? = _
    rw [← Array.getElem?_toList, q, List.getElem?_map, List.getElem?_eq_getElem hl]
    rw [List.getD_eq_getElem?_getD, List.getElem?_eq_getElem hl]; rfl
  exact Done.go (fun t z => X.laload hx (by rw [eT]; exact A.1) (State.isArrayOf_alike hZ.alike A.2.1) A.2.2 (inb q h1 (by simpa using h2)) hv (g := mkF m pc Ls (.int j :: .ref a :: st)) rfl rfl hd _ z) K
theorem k_iastore {j x : Int32} (S : St p l e R s m args below meth c n0 T h k n) (hx : p.tables.exec = Jvm.exec) (hZ : Z.Warmed39 s.vm) (V : IV Z h a xs) (hd : decode c.code pc = .ok (.iastore, 1)) (h1 : 0 ≤ j.toInt) (h2 : j.toInt < xs.length) (ha : n0 ≤ a) (hp : pc + 1 = pc')
    (K : ∀ T' h', Wr h h' a j.toInt.toNat (.int x) → IV Z h' a (xs.set j.toInt.toNat x) → St p l e R s m args below meth c n0 T' h' k n → Done p e below G (T'.setTop (mkF m pc' Ls st))) : Done p e below G (T.setTop (mkF m pc Ls (.int x :: .int j :: .ref a :: st))) := by
  subst hp
  obtain ⟨_, X, N, eT⟩ := S
  have V0 := V
  obtain ⟨cl, A, q, r⟩ := V
  obtain ⟨T', h', X', eT', W, step⟩ := stI X hx hZ eT A (j := j) (inb q h1 (by simpa using h2)) (g := mkF m pc Ls (.int x :: .int j :: .ref a :: st)) rfl rfl hd
  exact Done.go step (K T' h' W (V0.put W) ⟨_, X', Fr.snoc X' N ha, eT'⟩)
theorem k_bastore {j x : Int32} (S : St p l e R s m args below meth c n0 T h k n) (hx : p.tables.exec = Jvm.exec) (hZ : Z.Warmed39 s.vm) (V : BV Z h a xs) (hd : decode c.code pc = .ok (.bastore, 1)) (h1 : 0 ≤ j.toInt) (h2 : j.toInt < xs.length) (ha : n0 ≤ a) (hp : pc + 1 = pc')
    (K : ∀ T' h', Wr h h' a j.toInt.toNat (.int (nar .byte x)) → BV Z h' a (xs.set j.toInt.toNat (nar .byte x)) → St p l e R s m args below meth c n0 T' h' k n → Done p e below G (T'.setTop (mkF m pc' Ls st))) : Done p e below G (T.setTop (mkF m pc Ls (.int x :: .int j :: .ref a :: st))) := by
  subst hp
  obtain ⟨_, X, N, eT⟩ := S
  have V0 := V
  obtain ⟨cl, A, q, r⟩ := V
  obtain ⟨T', h', X', eT', W, step⟩ := stB X hx hZ eT A (j := j) (inb q h1 (by simpa using h2)) (g := mkF m pc Ls (.int x :: .int j :: .ref a :: st)) rfl rfl hd
  exact Done.go step (K T' h' W (V0.put W) ⟨_, X', Fr.snoc X' N ha, eT'⟩)
theorem k_lastore {j : Int32} {x : Int64} (S : St p l e R s m args below meth c n0 T h k n) (hx : p.tables.exec = Jvm.exec) (hZ : Z.Warmed39 s.vm) (V : LV Z h a ys) (hd : decode c.code pc = .ok (.lastore, 1)) (h1 : 0 ≤ j.toInt) (h2 : j.toInt < ys.length) (ha : n0 ≤ a) (hp : pc + 1 = pc')
    (K : ∀ T' h', Wr h h' a j.toInt.toNat (.long x) → LV Z h' a (ys.set j.toInt.toNat x) → St p l e R s m args below meth c n0 T' h' k n → Done p e below G (T'.setTop (mkF m pc' Ls st))) : Done p e below G (T.setTop (mkF m pc Ls (.long x :: .int j :: .ref a :: st))) := by
  subst hp
  obtain ⟨_, X, N, eT⟩ := S
  have V0 := V
  obtain ⟨cl, A, q, r⟩ := V
  obtain ⟨T', h', X', eT', W, step⟩ := stJ X hx hZ eT A (j := j) (inb q h1 (by simpa using h2)) (g := mkF m pc Ls (.long x :: .int j :: .ref a :: st)) rfl rfl hd
  exact Done.go step (K T' h' W (V0.put W) ⟨_, X', Fr.snoc X' N ha, eT'⟩)
theorem k_newint {x : Int32} (S : St p l e R s m args below meth c n0 T h k n) (hx : p.tables.exec = Jvm.exec) (hZ : Z.Warmed39 s.vm) (w : (Jvm.Cond.arrayClass .int).before a0 Z = true) (hd : decode c.code pc = .ok (.newarray .int, 2)) (h1 : 0 ≤ x.toInt) (cap : Nat) (h2 : x.toInt ≤ cap) (h3 : cap * 8 ≤ 536870912) (hk : k + 1 ≤ R.cells) (hn : n + cap ≤ R.slots) (hp : pc + 2 = pc')
    (K : ∀ T' h' b, b = h.size → Ext h h' → IV Z h' b (List.replicate x.toInt.toNat 0) → St p l e R s m args below meth c n0 T' h' (k + 1) (n + cap) → Done p e below G (T'.setTop (mkF m pc' Ls (.ref b :: st)))) : Done p e below G (T.setTop (mkF m pc Ls (.int x :: st))) := by
  subst hp
  obtain ⟨_, X, N, eT⟩ := S
  obtain ⟨T', h', cA, X', eT', E, A, step⟩ := newP X hx hZ (aty := .int) w eT (g := mkF m pc Ls (.int x :: st)) rfl hd rfl (by rw [Int32.lt_iff_toInt_lt]; show ¬ x.toInt < 0; omega) (cap := cap) (by show x.toInt.toNat ≤ cap; omega) h3 hk hn
  have V := Vec.mk A
  refine Done.go step (K T' h' _ rfl E ?_ ⟨_, X', N, eT'⟩)
  show Vec Z h' h.size .int _
  rw [List.map_replicate]; exact V
theorem k_newbyte {x : Int32} (S : St p l e R s m args below meth c n0 T h k n) (hx : p.tables.exec = Jvm.exec) (hZ : Z.Warmed39 s.vm) (w : (Jvm.Cond.arrayClass .byte).before a0 Z = true) (hd : decode c.code pc = .ok (.newarray .byte, 2)) (h1 : 0 ≤ x.toInt) (cap : Nat) (h2 : x.toInt ≤ cap) (h3 : cap * 8 ≤ 536870912) (hk : k + 1 ≤ R.cells) (hn : n + cap ≤ R.slots) (hp : pc + 2 = pc')
    (K : ∀ T' h' b, b = h.size → Ext h h' → BV Z h' b (List.replicate x.toInt.toNat 0) → St p l e R s m args below meth c n0 T' h' (k + 1) (n + cap) → Done p e below G (T'.setTop (mkF m pc' Ls (.ref b :: st)))) : Done p e below G (T.setTop (mkF m pc Ls (.int x :: st))) := by
  subst hp
  obtain ⟨_, X, N, eT⟩ := S
  obtain ⟨T', h', cA, X', eT', E, A, step⟩ := newP X hx hZ (aty := .byte) w eT (g := mkF m pc Ls (.int x :: st)) rfl hd rfl (by rw [Int32.lt_iff_toInt_lt]; show ¬ x.toInt < 0; omega) (cap := cap) (by show x.toInt.toNat ≤ cap; omega) h3 hk hn
  have V := Vec.mk A
  refine Done.go step (K T' h' _ rfl E ?_ ⟨_, X', N, eT'⟩)
  show Vec Z h' h.size .byte _
  rw [List.map_replicate]; exact V
theorem k_newlong {x : Int32} (S : St p l e R s m args below meth c n0 T h k n) (hx : p.tables.exec = Jvm.exec) (hZ : Z.Warmed39 s.vm) (w : (Jvm.Cond.arrayClass .long).before a0 Z = true) (hd : decode c.code pc = .ok (.newarray .long, 2)) (h1 : 0 ≤ x.toInt) (cap : Nat) (h2 : x.toInt ≤ cap) (h3 : cap * 8 ≤ 536870912) (hk : k + 1 ≤ R.cells) (hn : n + cap ≤ R.slots) (hp : pc + 2 = pc')
    (K : ∀ T' h' b, b = h.size → Ext h h' → LV Z h' b (List.replicate x.toInt.toNat 0) → St p l e R s m args below meth c n0 T' h' (k + 1) (n + cap) → Done p e below G (T'.setTop (mkF m pc' Ls (.ref b :: st)))) : Done p e below G (T.setTop (mkF m pc Ls (.int x :: st))) := by
  subst hp
  obtain ⟨_, X, N, eT⟩ := S
  obtain ⟨T', h', cA, X', eT', E, A, step⟩ := newP X hx hZ (aty := .long) w eT (g := mkF m pc Ls (.int x :: st)) rfl hd rfl (by rw [Int32.lt_iff_toInt_lt]; show ¬ x.toInt < 0; omega) (cap := cap) (by show x.toInt.toNat ≤ cap; omega) h3 hk hn
  have V := Vec.mk A
  refine Done.go step (K T' h' _ rfl E ?_ ⟨_, X', N, eT'⟩)
  show Vec Z h' h.size .long _
  rw [List.map_replicate]; exact V
theorem k_getstatic (S : St p l e R s m args below meth c n0 T h k n) (hx : p.tables.exec = Jvm.exec) (hZ : Z.Warmed39 s.vm) {own O f d : String} {index : Nat} (hown : s.vm.findClass own = some m.cls) (w : (Jvm.Cond.fieldLink own index O f d).before a0 Z = true)
    (F : Sta Z h O f d v) (hd : decode c.code pc = .ok (.getstatic index, 3)) (hp : pc + 3 = pc')
    (K : ∀ T', St p l e R s m args below meth c n0 T' h k n → Done p e below G (T'.setTop (mkF m pc' Ls (v :: st)))) : Done p e below G (T.setTop (mkF m pc Ls st)) := by
  subst hp
  obtain ⟨locs, X, N, eT⟩ := S
  obtain ⟨T', X', eT', step⟩ := getS2 X hx hZ hown (host := "") (Or.inl w) Via.refl eT F (g := mkF m pc Ls st) rfl hd
  exact Done.go step (K T' ⟨_, X', N, eT'⟩)
theorem IV.arv (F : IV Z h a xs) : ∃ k, Arv Z h a k .int xs.length.toInt32 (xs.map Value.int) (.int 0) := by
  obtain ⟨c, A, q, r⟩ := F
  have hl : xs.length < 2 ^ 31 := by simpa using r
  have e0 : xs.length.toInt32.toInt = (xs.length : Int) := by
    show (Int32.ofNat xs.length).toInt = _
    exact Int32.toInt_ofNat_of_lt hl
  have hs : c.slots.size = xs.length := by have := congrArg List.length q; simpa using this
  refine ⟨c.cls, c, A, rfl, ?_, ?_, ?_, ?_⟩
  · show c.slots.size = xs.length.toInt32.toInt.toNat
    rw [e0, hs]; simp
  · rw [Int32.lt_iff_toInt_lt, e0]; show ¬ (xs.length : Int) < 0; omega
  · intro i hi
    rw [← Array.getElem?_toList, q, List.getD_eq_getElem?_getD]
    have : i < (xs.map Value.int).length := by simpa [← hs] using hi
    rw [List.getElem?_eq_getElem this]; rfl
  · intro i hi
    have : i < (xs.map Value.int).length := by simpa [← hs] using hi
    rw [List.getD_eq_getElem?_getD, List.getElem?_eq_getElem this]
    simp [fits]
theorem IV.of_arv {k : ClassId} {z : Int32} (F : Arv Z h a k .int z (xs.map Value.int) (.int 0)) (hz : z.toInt = (xs.length : Int)) : IV Z h a xs := by
  obtain ⟨c, A, -, hs, -, H, -⟩ := F
  have hs' : c.slots.size = xs.length := by rw [hs]; show z.toInt.toNat = _; omega
  refine ⟨c, A, ?_, by have := z.toInt_lt; simp; omega⟩
  refine List.ext_getElem? fun i => ?_
  by_cases hi : i < c.slots.size
  · rw [Array.getElem?_toList, H i hi, List.getD_eq_getElem?_getD]
    have : i < (xs.map Value.int).length := by simpa [← hs'] using hi
    rw [List.getElem?_eq_getElem this]; rfl
  · rw [List.getElem?_eq_none (by simpa using hi), List.getElem?_eq_none (by simp; omega)]
theorem k_arraycopy {nn : Int32} {xs' : List Int32} (S : St p l e R s m args below meth c n0 T h k n) (hx : p.tables.exec = Jvm.exec) (hZ : Z.Warmed39 s.vm) {own : String} {index : Nat} (hown : s.vm.findClass own = some m.cls)
    (w1 : (Jvm.Cond.methodLink own index Jvm.Stand.acN).before a0 Z = true) (w2 : (Jvm.Cond.native Jvm.Stand.acN).before a0 Z = true) (w3 : (Jvm.Cond.static Jvm.Stand.acN).before a0 Z = true) (w4 : (Jvm.Cond.initialized "java/lang/System").before a0 Z = true)
    (A : IV Z h a xs) (B : IV Z h b xs') (h1 : 0 ≤ nn.toInt) (h2 : nn.toInt ≤ xs.length) (h3 : nn.toInt ≤ xs'.length) (ge : n0 ≤ b) (hml : Ls.size = c.maxLocals) (hd : decode c.code pc = .ok (.invokestatic index, 3)) (hf : 1 ≤ R.frames) (W : Nat) (hW : (st.map fun v => v.category).sum ≤ W) (hlo : W + 18 ≤ R.locals) (hp : pc + 3 = pc')
    (K : ∀ T' h', Keep h h' [b] → IV Z h' b (xs.take nn.toInt.toNat ++ xs'.drop nn.toInt.toNat) → St p l e R s m args below meth c n0 T' h' k n → Done p e below G (T'.setTop (mkF m pc' Ls st))) :
    Done p e below G (T.setTop (mkF m pc Ls (.int nn :: .int 0 :: .ref b :: .int 0 :: .ref a :: st))) := by
  subst hp
  obtain ⟨_, X, N, eT⟩ := S
  have la := A.len
  have lb := B.len
  obtain ⟨ka, Aa⟩ := A.arv
  obtain ⟨kb, Bb⟩ := B.arv
  have ea : xs.length.toInt32.toInt = (xs.length : Int) := Int32.toInt_ofNat_of_lt la
  have eb : xs'.length.toInt32.toInt = (xs'.length : Int) := Int32.toInt_ofNat_of_lt lb
  have z0 : (0 : Int32).toNatClampNeg = 0 := rfl
  obtain ⟨T', h', L, X', eT', N', Kp, V, step⟩ := cpA X hx hZ hown w1 w2 w3 w4 eT (sp := 0) (dp := 0) (nn := nn) (us := (xs.take nn.toInt.toNat).map Value.int) Aa Bb (Or.inl ⟨rfl, rfl⟩) (by decide) (by decide) (by rw [Int32.lt_iff_toInt_lt]; show ¬ nn.toInt < 0; omega)
    (by rw [z0]; show 0 + nn.toInt.toNat ≤ xs.length.toInt32.toInt.toNat; omega) (by rw [z0]; show 0 + nn.toInt.toNat ≤ xs'.length.toInt32.toInt.toNat; omega)
    (by
      refine List.ext_getElem (by show _ = (List.map _ (List.range nn.toInt.toNat)).length; rw [List.length_map, List.length_take, List.length_map, List.length_range]; omega) fun i g1 g2 => ?_
      have g3 : i < nn.toInt.toNat := by have := g1; rw [List.length_map, List.length_take] at this; omega
      simp only [List.getElem_map, List.getElem_take, List.getElem_range, z0, Nat.zero_add]
      rw [List.getD_eq_getElem?_getD, List.getElem?_map, List.getElem?_eq_getElem (by omega)]; rfl)
    (by rw [z0]; show 0 + nn.toInt.toNat ≤ _; rw [List.length_map]; omega) N ge (g := mkF m pc Ls (.int nn :: .int 0 :: .ref b :: .int 0 :: .ref a :: st)) rfl hml rfl hd hf (W := W) (by show 2 * 0 + _ ≤ _; omega) (by show W + 18 ≤ _; exact hlo)
  refine Done.go step (K T' h' Kp ?_ ⟨_, X', N', eT'⟩)
  refine IV.of_arv (k := kb) (z := xs'.length.toInt32) ?_ (by rw [eb, List.length_append, List.length_take, List.length_drop]; omega)
  have e : (List.map Value.int xs').take (0 : Int32).toNatClampNeg ++ (xs.take nn.toInt.toNat).map Value.int ++ (List.map Value.int xs').drop ((0 : Int32).toNatClampNeg + nn.toNatClampNeg) = (xs.take nn.toInt.toNat ++ xs'.drop nn.toInt.toNat).map Value.int := by
    rw [z0]; show List.take 0 _ ++ _ ++ List.drop (0 + nn.toInt.toNat) _ = _
    simp
  rw [← e]; exact V
theorem k_arraycopyD {nn dp : Int32} {xs' : List Int32} (S : St p l e R s m args below meth c n0 T h k n) (hx : p.tables.exec = Jvm.exec) (hZ : Z.Warmed39 s.vm) {own : String} {index : Nat} (hown : s.vm.findClass own = some m.cls)
    (w1 : (Jvm.Cond.methodLink own index Jvm.Stand.acN).before a0 Z = true) (w2 : (Jvm.Cond.native Jvm.Stand.acN).before a0 Z = true) (w3 : (Jvm.Cond.static Jvm.Stand.acN).before a0 Z = true) (w4 : (Jvm.Cond.initialized "java/lang/System").before a0 Z = true)
    (A : IV Z h a xs) (B : IV Z h b xs') (h1 : 0 ≤ nn.toInt) (h2 : nn.toInt ≤ xs.length) (h4 : 0 ≤ dp.toInt) (h3 : dp.toInt + nn.toInt ≤ xs'.length) (ge : n0 ≤ b) (hml : Ls.size = c.maxLocals) (hd : decode c.code pc = .ok (.invokestatic index, 3)) (hf : 1 ≤ R.frames) (W : Nat) (hW : (st.map fun v => v.category).sum ≤ W) (hlo : W + 18 ≤ R.locals) (hp : pc + 3 = pc')
    (K : ∀ T' h', Keep h h' [b] → IV Z h' b (xs'.take dp.toInt.toNat ++ xs.take nn.toInt.toNat ++ xs'.drop (dp.toInt.toNat + nn.toInt.toNat)) → St p l e R s m args below meth c n0 T' h' k n → Done p e below G (T'.setTop (mkF m pc' Ls st))) :
    Done p e below G (T.setTop (mkF m pc Ls (.int nn :: .int dp :: .ref b :: .int 0 :: .ref a :: st))) := by
  subst hp
  obtain ⟨_, X, N, eT⟩ := S
  have la := A.len
  have lb := B.len
  obtain ⟨ka, Aa⟩ := A.arv
  obtain ⟨kb, Bb⟩ := B.arv
  have ea : xs.length.toInt32.toInt = (xs.length : Int) := Int32.toInt_ofNat_of_lt la
  have eb : xs'.length.toInt32.toInt = (xs'.length : Int) := Int32.toInt_ofNat_of_lt lb
  have z0 : (0 : Int32).toNatClampNeg = 0 := rfl
  obtain ⟨T', h', L, X', eT', N', Kp, V, step⟩ := cpA X hx hZ hown w1 w2 w3 w4 eT (sp := 0) (dp := dp) (nn := nn) (us := (xs.take nn.toInt.toNat).map Value.int) Aa Bb (Or.inl ⟨rfl, rfl⟩) (by decide) (by rw [Int32.lt_iff_toInt_lt]; show ¬ dp.toInt < 0; omega) (by rw [Int32.lt_iff_toInt_lt]; show ¬ nn.toInt < 0; omega)
    (by rw [z0]; show 0 + nn.toInt.toNat ≤ xs.length.toInt32.toInt.toNat; omega) (by show dp.toInt.toNat + nn.toInt.toNat ≤ xs'.length.toInt32.toInt.toNat; omega)
    (by
      refine List.ext_getElem (by show _ = (List.map _ (List.range nn.toInt.toNat)).length; rw [List.length_map, List.length_take, List.length_map, List.length_range]; omega) fun i g1 g2 => ?_
      have g3 : i < nn.toInt.toNat := by have := g1; rw [List.length_map, List.length_take] at this; omega
      simp only [List.getElem_map, List.getElem_take, List.getElem_range, z0, Nat.zero_add]
      rw [List.getD_eq_getElem?_getD, List.getElem?_map, List.getElem?_eq_getElem (by omega)]; rfl)
    (by show dp.toInt.toNat + nn.toInt.toNat ≤ _; rw [List.length_map]; omega) N ge (g := mkF m pc Ls (.int nn :: .int dp :: .ref b :: .int 0 :: .ref a :: st)) rfl hml rfl hd hf (W := W) (by show 2 * 0 + _ ≤ _; omega) (by show W + 18 ≤ _; exact hlo)
  refine Done.go step (K T' h' Kp ?_ ⟨_, X', N', eT'⟩)
  refine IV.of_arv (k := kb) (z := xs'.length.toInt32) ?_ (by rw [eb, List.length_append, List.length_append, List.length_take, List.length_take, List.length_drop]; omega)
  have e : (List.map Value.int xs').take dp.toNatClampNeg ++ (xs.take nn.toInt.toNat).map Value.int ++ (List.map Value.int xs').drop (dp.toNatClampNeg + nn.toNatClampNeg) = (xs'.take dp.toInt.toNat ++ xs.take nn.toInt.toNat ++ xs'.drop (dp.toInt.toNat + nn.toInt.toNat)).map Value.int := by
    show List.take dp.toInt.toNat _ ++ _ ++ List.drop (dp.toInt.toNat + nn.toInt.toNat) _ = _
    simp
  rw [← e]; exact V
theorem k_newintE {x : Int32} (S : St p l e R s m args below meth c n0 T h k n) (hx : p.tables.exec = Jvm.exec) (hZ : Z.Warmed39 s.vm) (w : (Jvm.Cond.arrayClass .int).before a0 Z = true) (hd : decode c.code pc = .ok (.newarray .int, 2)) (h1 : 0 ≤ x.toInt) (cap : Nat) (h2 : x.toInt ≤ cap) (h3 : cap * 8 ≤ 536870912) (hk : k + 1 ≤ R.cells) (hn : n + cap ≤ R.slots) (hp : pc + 2 = pc')
    (K : ∀ T' h' b, b = h.size → Ext h h' → IV Z h' b (List.replicate x.toInt.toNat 0) → Exa Z h' b "[I" → St p l e R s m args below meth c n0 T' h' (k + 1) (n + cap) → Done p e below G (T'.setTop (mkF m pc' Ls (.ref b :: st)))) : Done p e below G (T.setTop (mkF m pc Ls (.int x :: st))) := by
  subst hp
  obtain ⟨_, X, N, eT⟩ := S
  obtain ⟨T', h', cA, X', eT', E, A, EX, step⟩ := newPE X hx hZ (aty := .int) w eT (g := mkF m pc Ls (.int x :: st)) rfl hd rfl (by rw [Int32.lt_iff_toInt_lt]; show ¬ x.toInt < 0; omega) (cap := cap) (by show x.toInt.toNat ≤ cap; omega) h3 hk hn (ad := "[I") (by decide)
  have V := Vec.mk A
  refine Done.go step (K T' h' _ rfl E ?_ EX ⟨_, X', N, eT'⟩)
  show Vec Z h' h.size .int _
  rw [List.map_replicate]; exact V
theorem k_clone (S : St p l e R s m args below meth c n0 T h k n) (hx : p.tables.exec = Jvm.exec) (hZ : Z.Warmed39 s.vm) {own : String} {index : Nat} (hown : s.vm.findClass own = some m.cls)
    (w1 : (Jvm.Cond.methodLink own index ⟨"[I", "clone", "()Ljava/lang/Object;"⟩).before a0 Z = true) (w2 : (Jvm.Cond.sameMethod "[I" "java/lang/Object" "clone" "()Ljava/lang/Object;").before a0 Z = true) (w3 : (Jvm.Cond.native ⟨"java/lang/Object", "clone", "()Ljava/lang/Object;"⟩).before a0 Z = true)
    (w4 : (Jvm.Cond.instanceMethod ⟨"java/lang/Object", "clone", "()Ljava/lang/Object;"⟩).before a0 Z = true) (w5 : (Jvm.Cond.selects "[I" ⟨"[I", "clone", "()Ljava/lang/Object;"⟩ ⟨"java/lang/Object", "clone", "()Ljava/lang/Object;"⟩).before a0 Z = true) (w6 : (Jvm.Cond.castable "[I" "java/lang/Cloneable").before a0 Z = true)
    (V : IV Z h a xs) (E : Exa Z h a "[I") (hml : Ls.size = c.maxLocals) (hd : decode c.code pc = .ok (.invokevirtual index, 3)) (hf : 1 ≤ R.frames) (W : Nat) (hW : (st.map fun v => v.category).sum ≤ W) (hlo : W + 14 ≤ R.locals) (cap : Nat) (hcap : xs.length ≤ cap) (hk : k + 1 ≤ R.cells) (hn : n + cap ≤ R.slots) (hp : pc + 3 = pc')
    (K : ∀ T' h' b, b = h.size → Ext h h' → IV Z h' b xs → Exa Z h' b "[I" → St p l e R s m args below meth c n0 T' h' (k + 1) (n + cap) → Done p e below G (T'.setTop (mkF m pc' Ls (.ref b :: st)))) :
    Done p e below G (T.setTop (mkF m pc Ls (.ref a :: st))) := by
  subst hp
  obtain ⟨_, X, N, eT⟩ := S
  obtain ⟨cl, A, q, r⟩ := V
  have hsz : cl.slots.size = xs.length := by have := congrArg List.length q; simpa using this
  have F : FitC Z cl := fitC_of A fun i hi v hv => by
    rw [← Array.getElem?_toList, q, List.getElem?_map] at hv
    cases e : xs[i]? with
    | none => rw [e] at hv; cases hv
    | some z => rw [e] at hv; cases hv; rfl
  obtain ⟨T', h', X', eT', ex, A', E', step⟩ := cloneA X hx hZ hown w1 w2 w3 w4 w5 w6 eT A E F (g := mkF m pc Ls (.ref a :: st)) rfl hml rfl hd hf (W := W) (by show 2 * 0 + _ ≤ _; omega) hlo (cap := cap) (by omega) hk hn
  exact Done.go step (K T' h' _ rfl ex ⟨cloneOf cl, A', q, r⟩ E' ⟨_, X', N, eT'⟩)
theorem k_checkcast (S : St p l e R s m args below meth c n0 T h k n) (hx : p.tables.exec = Jvm.exec) (hZ : Z.Warmed39 s.vm) {own C : String} {index : Nat} (hown : s.vm.findClass own = some m.cls) (w : (Jvm.Cond.classLink own index C).before a0 Z = true)
    (F : Ins Z h a C true) (hd : decode c.code pc = .ok (.checkcast index, 3)) (hp : pc + 3 = pc')
    (K : ∀ T', St p l e R s m args below meth c n0 T' h k n → Done p e below G (T'.setTop (mkF m pc' Ls (.ref a :: st)))) : Done p e below G (T.setTop (mkF m pc Ls (.ref a :: st))) := by
  subst hp
  obtain ⟨locs, X, N, eT⟩ := S
  obtain ⟨T', X', eT', step⟩ := castY X hx hZ hown w eT F (g := mkF m pc Ls (.ref a :: st)) rfl rfl hd
  exact Done.go step (K T' ⟨_, X', N, eT'⟩)
end Arrays
end Jvm.OwnKit
namespace Jvm.Pilot.@@N@@
open Jvm Jvm.ClassFile Sem Op Lib Jvm.Free Jvm.Stand Jvm.LawKit Jvm.RoadKit Jvm.OwnKit Bundle Jvm.Pilot.@@N@@.Jvm.D
theorem own_bm32 (x : Int) : (x.bmod (2 ^ 32) - x) % 4294967296 = 0 := by have := Int.bmod_emod (x := x) (m := 2 ^ 32); omega
theorem own_bm64 (x : Int) : (x.bmod (2 ^ 64) - x) % 18446744073709551616 = 0 := by have := Int.bmod_emod (x := x) (m := 2 ^ 64); omega
def own_pows : List Int64 := [1, 10, 100, 1000, 10000, 100000, 1000000, 10000000, 100000000, 1000000000, 10000000000, 100000000000, 1000000000000, 10000000000000, 100000000000000, 1000000000000000, 10000000000000000, 100000000000000000, 1000000000000000000]
def own_pow (i : Int32) : Int64 := own_pows.getD i.toInt.toNat 0
theorem own_pow_val (i : Int32) (h1 : 0 ≤ i.toInt) (h2 : i.toInt ≤ 18) : (own_pow i).toInt = 10 ^ i.toInt.toNat := by
  unfold own_pow
  have h : i.toInt.toNat < 19 := by omega
  generalize i.toInt.toNat = k at h
  revert k; decide
theorem own_pow10 (k : Nat) (h : k ≤ 18) : 1 ≤ (10 : Int) ^ k ∧ (10 : Int) ^ k ≤ 1000000000000000000 := by
  have h : k < 19 := by omega
  revert k; decide
def own_neg (n : Int64) : Int64 := if n < 0 then n else -n
def own_ln (n : Int64) (d : Int32) : Int32 := if n < 0 then d + 1 else d
/-- d is the number of digits of n -/
def own_PL (n : Int64) (d : Int32) : Prop := 1 ≤ d.toInt ∧ d.toInt ≤ 19 ∧ (d.toInt < 19 → -(10 : Int) ^ d.toInt.toNat < (own_neg n).toInt) ∧ (1 < d.toInt → (own_neg n).toInt ≤ -(10 : Int) ^ (d.toInt.toNat - 1))
/-- the loop's invariant -/
def own_IL (n : Int64) (d : Int32) (b : Int64) : Prop := 1 ≤ d.toInt ∧ d.toInt ≤ 19 ∧ (d.toInt < 19 → b.toInt = -(10 : Int) ^ d.toInt.toNat) ∧ (1 < d.toInt → (own_neg n).toInt ≤ -(10 : Int) ^ (d.toInt.toNat - 1))
theorem own_IL0 (n : Int64) : own_IL n 1 (-10) := ⟨by decide, by decide, fun _ => by decide, fun h => absurd h (by decide)⟩
theorem own_IL1 {n : Int64} {d : Int32} {b : Int64} (H : own_IL n d b) (h1 : ¬ (19 : Int32) ≤ d) (h2 : ¬ b < own_neg n) : own_IL n (d + 1) (b * 10) ∧ (d + 1).toInt = d.toInt + 1 := by
  obtain ⟨a1, a2, a3, a4⟩ := H
  simp only [Int32.le_iff_toInt_le, Int64.lt_iff_toInt_lt, Int32.reduceToInt] at h1 h2
  have e : (d + 1).toInt = d.toInt + 1 := by
    rw [Int32.toInt_add]; show (d.toInt + 1).bmod _ = _; exact Int.bmod_eq_of_le (by omega) (by omega)
  refine ⟨⟨by omega, by omega, fun h => ?_, fun _ => ?_⟩, e⟩
  · have q := a3 (by omega)
    have e2 : (d + 1).toInt.toNat = d.toInt.toNat + 1 := by omega
    rw [e2, Int64.toInt_mul, q]
    have q3 := own_pow10 (d.toInt.toNat + 1) (by omega)
    rw [Int.pow_succ] at q3 ⊢
    show ((-10 ^ d.toInt.toNat) * 10 : Int).bmod _ = _
    rw [Int.bmod_eq_of_le (by omega) (by omega)]; omega
  · have q := a3 (by omega)
    have e2 : (d + 1).toInt.toNat - 1 = d.toInt.toNat := by omega
    rw [e2]; omega
theorem own_IL2 {n : Int64} {d : Int32} {b : Int64} (H : own_IL n d b) (h : (19 : Int32) ≤ d ∨ b < own_neg n) : own_PL n d := by
  obtain ⟨a1, a2, a3, a4⟩ := H
  simp only [Int32.le_iff_toInt_le, Int64.lt_iff_toInt_lt, Int32.reduceToInt] at h
  refine ⟨a1, a2, fun q => ?_, a4⟩
  have := a3 q; omega
theorem own_lnsub (n : Int64) (d sg : Int32) (h : sg = if n < 0 then 1 else 0) : own_ln n d - sg = d := by
  subst h; unfold own_ln; split
  · apply Int32.toInt_inj.mp
    rw [Int32.toInt_sub, Int32.toInt_add]
    have := d.toInt_lt; have := d.le_toInt
    have q := own_bm32 (d.toInt + (1 : Int32).toInt)
    have q2 := own_bm32 ((d.toInt + (1 : Int32).toInt).bmod (2 ^ 32) - (1 : Int32).toInt)
    have e1 : (1 : Int32).toInt = 1 := rfl
    rw [e1] at q q2 ⊢
    have r1 := Int.bmod_lt (x := (d.toInt + 1).bmod (2 ^ 32) - 1) (m := 2 ^ 32) (by decide)
    have r2 := Int.le_bmod (x := (d.toInt + 1).bmod (2 ^ 32) - 1) (m := 2 ^ 32) (by decide)
    omega
  · apply Int32.toInt_inj.mp
    rw [Int32.toInt_sub]
    have := d.toInt_lt; have := d.le_toInt
    show (d.toInt - 0).bmod _ = _
    rw [Int.sub_zero]; exact Int.bmod_eq_of_le (by omega) (by omega)
theorem own_npow (i : Int32) (h1 : 0 ≤ i.toInt) (h2 : i.toInt ≤ 18) : (-own_pow i).toInt = -(10 : Int) ^ i.toInt.toNat := by
  have q := own_pow_val i h1 h2
  have q3 := own_pow10 i.toInt.toNat (by omega)
  rw [Int64.toInt_neg, q, Int.bmod_eq_of_le (by omega) (by omega)]
theorem own_pl1 {n : Int64} {d : Int32} (H : own_PL n d) (h : d.toInt < 19) : -own_pow d < own_neg n := by
  rw [Int64.lt_iff_toInt_lt, own_npow d (by have := H.1; omega) (by omega)]; exact H.2.2.1 h
theorem own_pl2 {n : Int64} {d e : Int32} (H : own_PL n d) (h : 1 < d.toInt) (he : e.toInt = d.toInt - 1) : ¬ (-own_pow e < own_neg n) := by
  rw [Int64.lt_iff_toInt_lt, own_npow e (by omega) (by have := H.2.1; omega)]
  have q := H.2.2.2 h
  have e2 : e.toInt.toNat = d.toInt.toNat - 1 := by omega
  rw [e2]; omega
theorem own_sub1 {d : Int32} (h : 1 ≤ d.toInt) : (d - 1).toInt = d.toInt - 1 := by
  rw [Int32.toInt_sub]
  have := d.toInt_lt
  show (d.toInt - 1).bmod _ = _
  exact Int.bmod_eq_of_le (by omega) (by omega)
theorem own_pownz (i : Int32) (h1 : 0 ≤ i.toInt) (h2 : i.toInt ≤ 18) : own_pow i ≠ 0 := by
  intro z
  have q := own_pow_val i h1 h2
  have q3 := own_pow10 i.toInt.toNat (by omega)
  rw [z] at q
  have : (0 : Int64).toInt = 0 := rfl
  omega
/-- the magnitude of n -/
def own_N (n : Int64) : Nat := (own_neg n).toInt.natAbs
theorem own_negN (n : Int64) : (own_neg n).toInt = -(own_N n : Int) := by
  have h : (own_neg n).toInt ≤ 0 := by
    unfold own_neg; split
    · next h => rw [Int64.lt_iff_toInt_lt] at h; have e : (0 : Int64).toInt = 0 := rfl; omega
    · next h =>
      rw [Int64.lt_iff_toInt_lt] at h; have e : (0 : Int64).toInt = 0 := rfl
      have := n.toInt_lt
      rw [Int64.toInt_neg, Int.bmod_eq_of_le (by omega) (by omega)]; omega
  unfold own_N; omega
theorem own_nN (n : Int64) : n.toInt = if n < 0 then -(own_N n : Int) else (own_N n : Int) := by
  have q := own_negN n
  unfold own_neg at q
  by_cases h : n < 0
  · rw [if_pos h] at q ⊢; exact q
  · rw [if_neg h] at q ⊢
    rw [Int64.lt_iff_toInt_lt] at h; have e : (0 : Int64).toInt = 0 := rfl
    have := n.toInt_lt
    rw [Int64.toInt_neg, Int.bmod_eq_of_le (by omega) (by omega)] at q; omega
theorem own_Nlt (n : Int64) : own_N n ≤ 9223372036854775808 := by have q := own_negN n; have := (own_neg n).le_toInt; omega
def own_dg (n : Int64) (k : Nat) : Nat := own_N n / 10 ^ k % 10
theorem own_dg_lt (n : Int64) (k : Nat) : own_dg n k < 10 := Nat.mod_lt _ (by decide)
/-- PL in terms of the magnitude -/
theorem own_PLN {n : Int64} {d : Int32} (H : own_PL n d) : (1 < d.toInt → 10 ^ (d.toInt.toNat - 1) ≤ own_N n) ∧ own_N n < 10 ^ d.toInt.toNat := by
  obtain ⟨a1, a2, a3, a4⟩ := H
  rw [own_negN n] at a3 a4
  constructor
  · intro h; have q := a4 h
    have e : ((10 ^ (d.toInt.toNat - 1) : Nat) : Int) = (10 : Int) ^ (d.toInt.toNat - 1) := by simp
    omega
  · by_cases h : d.toInt < 19
    · have q := a3 h
      have e : ((10 ^ d.toInt.toNat : Nat) : Int) = (10 : Int) ^ d.toInt.toNat := by simp
      omega
    · have : d.toInt.toNat = 19 := by omega
      rw [this]; have := own_Nlt n; omega
theorem own_quo {n : Int64} {d : Int32} (H : own_PL n d) {j : Nat} (h0 : 0 < j) : (j < d.toInt.toNat → 0 < own_N n / 10 ^ j) ∧ (j = d.toInt.toNat → own_N n / 10 ^ j = 0) := by
  obtain ⟨p1, p2⟩ := own_PLN H
  constructor
  · intro h
    have q := p1 (by omega)
    have : 10 ^ j ≤ own_N n := Nat.le_trans (Nat.pow_le_pow_right (by decide) (by omega)) q
    exact Nat.div_pos this (Nat.pow_pos (by decide))
  · rintro rfl; exact Nat.div_eq_of_lt p2
/-- one step of the rest -/
theorem own_rest {n r : Int64} {j : Nat} (h : r.toInt = -((own_N n / 10 ^ j : Nat) : Int)) : (r / 10).toInt = -((own_N n / 10 ^ (j + 1) : Nat) : Int) ∧ (48 - r % 10).toInt = 48 + (own_dg n j : Int) := by
  have e10 : (10 : Int64).toInt = 10 := rfl
  constructor
  · rw [Int64.toInt_div_of_ne_right r 10 (by decide), h, e10, Int.neg_tdiv, Int.tdiv_eq_ediv_of_nonneg (Int.natCast_nonneg _), Nat.pow_succ, ← Nat.div_div_eq_div_mul]
    omega
  · have hm : (r % 10).toInt = -(own_dg n j : Int) := by
      rw [Int64.toInt_mod, h, e10, Int.neg_tmod, Int.tmod_eq_emod_of_nonneg (Int.natCast_nonneg _)]
      unfold own_dg; omega
    have hd := own_dg_lt n j
    rw [Int64.toInt_sub, hm]
    show ((48 : Int) - -(own_dg n j : Int)).bmod _ = _
    rw [Int.bmod_eq_of_le (by omega) (by omega)]; omega
theorem own_byte {x : Int64} {v : Int} (h : x.toInt = v) (h1 : 0 ≤ v) (h2 : v < 100) : x.toInt32.toInt8.toInt32.toInt = v := by
  have e1 : x.toInt32.toInt = v := by rw [Int64.toInt_toInt32, h]; exact Int.bmod_eq_of_le (by omega) (by omega)
  rw [Int8.toInt_toInt32, Int32.toInt_toInt8, e1]; exact Int.bmod_eq_of_le (by omega) (by omega)
def own_abs (x : Int64) : Int64 := if x < 0 then -x else x
/-- what the law wants at i -/
def own_w (n : Int64) (at_ en i : Int32) : Int32 := if i < at_ ∨ ¬ i < en then 0 else if n < 0 ∧ i = at_ then 45 else 48 + (own_abs ((n / own_pow (en - 1 - i)) % 10)).toInt32
theorem own_wdig (n : Int64) (k : Int32) (h1 : 0 ≤ k.toInt) (h2 : k.toInt ≤ 18) : ((48 : Int32) + (own_abs ((n / own_pow k) % 10)).toInt32).toInt = 48 + (own_dg n k.toInt.toNat : Int) := by
  have hp := own_pow_val k h1 h2
  have hN := own_nN n
  have hd := own_dg_lt n k.toInt.toNat
  have hp10 := own_pow10 k.toInt.toNat (by omega)
  have hne : own_pow k ≠ -1 := fun z => by rw [z] at hp; have e : (-1 : Int64).toInt = -1 := rfl; omega
  have e10 : (10 : Int64).toInt = 10 := rfl
  have ecast : ((10 ^ k.toInt.toNat : Nat) : Int) = (10 : Int) ^ k.toInt.toNat := by simp
  have hq : ((n / own_pow k) % 10).toInt = if n < 0 then -(own_dg n k.toInt.toNat : Int) else (own_dg n k.toInt.toNat : Int) := by
    rw [Int64.toInt_mod, Int64.toInt_div_of_ne_right n _ hne, hp, e10, hN, ← ecast]
    by_cases h : n < 0
    · rw [if_pos h, if_pos h, Int.neg_tdiv, Int.neg_tmod, Int.tdiv_eq_ediv_of_nonneg (Int.natCast_nonneg _), ← Int.natCast_ediv, Int.tmod_eq_emod_of_nonneg (Int.natCast_nonneg _)]
      unfold own_dg; omega
    · rw [if_neg h, if_neg h, Int.tdiv_eq_ediv_of_nonneg (Int.natCast_nonneg _), ← Int.natCast_ediv, Int.tmod_eq_emod_of_nonneg (Int.natCast_nonneg _)]
      unfold own_dg; omega
  have ha : (own_abs ((n / own_pow k) % 10)).toInt = own_dg n k.toInt.toNat := by
    unfold own_abs
    have e0 : (0 : Int64).toInt = 0 := rfl
    by_cases g : (n / own_pow k) % 10 < 0
    · rw [if_pos g]
      rw [Int64.lt_iff_toInt_lt, hq, e0] at g
      have hn : n < 0 := Classical.byContradiction fun z => by rw [if_neg z] at g; omega
      rw [if_pos hn] at hq
      rw [Int64.toInt_neg, hq, Int.bmod_eq_of_le (by omega) (by omega)]; omega
    · rw [if_neg g]
      rw [Int64.lt_iff_toInt_lt, hq, e0] at g
      rw [hq]
      by_cases hn : n < 0
      · rw [if_pos hn] at g ⊢; omega
      · rw [if_neg hn]
  have h32 : ((own_abs ((n / own_pow k) % 10)).toInt32).toInt = own_dg n k.toInt.toNat := by
    rw [Int64.toInt_toInt32, ha]; exact Int.bmod_eq_of_le (by omega) (by omega)
  rw [Int32.toInt_add, h32]
  show ((48 : Int) + (own_dg n k.toInt.toNat : Int)).bmod _ = _
  exact Int.bmod_eq_of_le (by omega) (by omega)
/-- the bytes after j digits -/
def own_B (bs : List Int32) (n : Int64) (at_ en : Int32) (j : Nat) : Prop := bs.length = 24 ∧ ∀ q : Nat, q < 24 → (bs.getD q 0).toInt = if en.toInt - j ≤ q ∧ (q : Int) < en.toInt then 48 + (own_dg n (en.toInt.toNat - 1 - q) : Int) else if n < 0 ∧ (q : Int) = at_.toInt then 45 else 0
theorem own_set_eq {cs : List Int32} {p : Nat} {v : Int32} (h : p < cs.length) : (cs.set p v).getD p 0 = v := by
  simp [List.getD_eq_getElem?_getD, h]
theorem own_set_ne {cs : List Int32} {p q : Nat} {v : Int32} (h : p ≠ q) : (cs.set p v).getD q 0 = cs.getD q 0 := by
  simp [List.getD_eq_getElem?_getD, List.getElem?_set_ne h]
theorem own_B1 {bs : List Int32} {n : Int64} {at_ en p v : Int32} {j : Nat} (H : own_B bs n at_ en j) (hp : p.toInt = en.toInt - j - 1) (h0 : 0 ≤ p.toInt) (h1 : en.toInt ≤ 24) (hv : v.toInt = 48 + (own_dg n j : Int)) : own_B (bs.set p.toInt.toNat v) n at_ en (j + 1) := by
  obtain ⟨hl, hb⟩ := H
  refine ⟨by simpa using hl, fun q hq => ?_⟩
  by_cases e : p.toInt.toNat = q
  · subst e
    rw [own_set_eq (by omega), if_pos (by omega), hv, show en.toInt.toNat - 1 - p.toInt.toNat = j by omega]
  · rw [own_set_ne e, hb q hq]
    by_cases g : en.toInt - j ≤ q ∧ (q : Int) < en.toInt
    · rw [if_pos g, if_pos (by omega)]
    · rw [if_neg g]
      rw [if_neg (show ¬ (en.toInt - ((j + 1 : Nat) : Int) ≤ q ∧ (q : Int) < en.toInt) by omega)]
theorem own_sub2 {en i : Int32} (h1 : 0 ≤ i.toInt) (h2 : i.toInt < en.toInt) (h3 : en.toInt ≤ 24) : (en - 1 - i).toInt = en.toInt - 1 - i.toInt := by
  have e1 : (1 : Int32).toInt = 1 := rfl
  rw [Int32.toInt_sub, Int32.toInt_sub, e1, Int.bmod_eq_of_le (n := en.toInt - 1) (by omega) (by omega), Int.bmod_eq_of_le (by omega) (by omega)]
theorem own_Bend {bs : List Int32} {n : Int64} {at_ en d : Int32} (H : own_B bs n at_ en d.toInt.toNat) (hd : 1 ≤ d.toInt ∧ d.toInt ≤ 19) (ha : 0 ≤ at_.toInt) (he : en.toInt = at_.toInt + (if n < 0 then d.toInt + 1 else d.toInt)) (h24 : en.toInt ≤ 24) (i : Int32) (h1 : 0 ≤ i.toInt) (h2 : i.toInt < 24) : bs.getD i.toInt.toNat 0 = own_w n at_ en i := by
  have q := H.2 i.toInt.toNat (by omega)
  rw [← Int32.toInt_inj, q]
  unfold own_w
  have l1 : i < at_ ↔ i.toInt < at_.toInt := Int32.lt_iff_toInt_lt
  have l2 : i < en ↔ i.toInt < en.toInt := Int32.lt_iff_toInt_lt
  have l3 : i = at_ ↔ i.toInt = at_.toInt := Int32.toInt_inj.symm
  have ei : ((i.toInt.toNat : Nat) : Int) = i.toInt := by omega
  have ed : ((d.toInt.toNat : Nat) : Int) = d.toInt := by omega
  rw [ei, ed]
  by_cases c1 : i < at_ ∨ ¬ i < en
  · rw [if_pos c1]
    rw [l1, l2] at c1
    by_cases hn : n < 0
    · rw [if_pos hn] at he; rw [if_neg (by omega), if_neg (by omega)]; rfl
    · rw [if_neg hn] at he; rw [if_neg (by omega), if_neg (fun z => hn z.1)]; rfl
  · rw [if_neg c1]
    rw [l1, l2] at c1
    by_cases c2 : n < 0 ∧ i = at_
    · rw [if_pos c2]
      rw [if_pos c2.1] at he
      rw [l3] at c2
      rw [if_neg (by omega), if_pos c2]; rfl
    · rw [if_neg c2]
      rw [l3] at c2
      have e2 := own_sub2 h1 (show i.toInt < en.toInt by omega) h24
      have hlo : en.toInt - d.toInt ≤ i.toInt := by
        by_cases hn : n < 0
        · rw [if_pos hn] at he
          have : ¬ i.toInt = at_.toInt := fun z => c2 ⟨hn, z⟩
          omega
        · rw [if_neg hn] at he; omega
      rw [own_wdig n (en - 1 - i) (by omega) (by omega), e2]
      rw [if_pos (by omega), show (en.toInt - 1 - i.toInt).toNat = en.toInt.toNat - 1 - i.toInt.toNat by omega]
theorem own_rep (m q : Nat) : (List.replicate m (0 : Int32)).getD q 0 = 0 := by
  rw [List.getD_eq_getElem?_getD, List.getElem?_replicate]; split <;> rfl
theorem own_B0 (n : Int64) (at_ en : Int32) (hn : ¬ n < 0) : own_B (List.replicate 24 0) n at_ en 0 := by
  refine ⟨by rw [List.length_replicate], fun q hq => ?_⟩
  rw [if_neg (by omega), if_neg (fun z => hn z.1)]
  rw [own_rep]; rfl
theorem own_B0m (n : Int64) (at_ en : Int32) (hn : n < 0) (h1 : 0 ≤ at_.toInt) (h2 : at_.toInt < 24) : own_B ((List.replicate 24 0).set at_.toInt.toNat 45) n at_ en 0 := by
  refine ⟨by rw [List.length_set, List.length_replicate], fun q hq => ?_⟩
  rw [if_neg (by omega)]
  by_cases e : at_.toInt.toNat = q
  · subst e; rw [own_set_eq (by rw [List.length_replicate]; exact hq), if_pos ⟨hn, by omega⟩]; rfl
  · rw [own_set_ne e, if_neg (by omega)]
    rw [own_rep]; rfl
/-- the law's own count -/
def own_ge (m : Int64) (k : Int32) : Int32 := if -own_pow k < m then 0 else 1
theorem own_ge_lt {n : Int64} {d : Int32} (H : own_PL n d) (k : Int32) (h1 : 1 ≤ k.toInt) (h2 : k.toInt ≤ 18) : own_ge (own_neg n) k = if k.toInt < d.toInt then 1 else 0 := by
  unfold own_ge
  obtain ⟨p1, p2⟩ := own_PLN H
  have q := own_npow k (by omega) h2
  have hN := own_negN n
  have ecast : ((10 ^ k.toInt.toNat : Nat) : Int) = (10 : Int) ^ k.toInt.toNat := by simp
  have l : -own_pow k < own_neg n ↔ own_N n < 10 ^ k.toInt.toNat := by rw [Int64.lt_iff_toInt_lt, q, hN]; omega
  by_cases g : k.toInt < d.toInt
  · rw [if_pos g]
    have : 10 ^ k.toInt.toNat ≤ own_N n := Nat.le_trans (Nat.pow_le_pow_right (by decide) (by omega)) (p1 (by omega))
    rw [if_neg (fun z => by rw [l] at z; omega)]
  · rw [if_neg g]
    have : own_N n < 10 ^ k.toInt.toNat := Nat.lt_of_lt_of_le p2 (Nat.pow_le_pow_right (by decide) (by omega))
    rw [if_pos (l.mpr this)]
theorem own_sum {n : Int64} {d : Int32} (H : own_PL n d) : (((((((((((((((((((1 : Int32) + own_ge (own_neg n) 1) + own_ge (own_neg n) 2) + own_ge (own_neg n) 3) + own_ge (own_neg n) 4) + own_ge (own_neg n) 5) + own_ge (own_neg n) 6) + own_ge (own_neg n) 7) + own_ge (own_neg n) 8) + own_ge (own_neg n) 9) + own_ge (own_neg n) 10) + own_ge (own_neg n) 11) + own_ge (own_neg n) 12) + own_ge (own_neg n) 13) + own_ge (own_neg n) 14) + own_ge (own_neg n) 15) + own_ge (own_neg n) 16) + own_ge (own_neg n) 17) + own_ge (own_neg n) 18) = d := by
  rw [own_ge_lt H 1 (by decide) (by decide), own_ge_lt H 2 (by decide) (by decide), own_ge_lt H 3 (by decide) (by decide), own_ge_lt H 4 (by decide) (by decide), own_ge_lt H 5 (by decide) (by decide), own_ge_lt H 6 (by decide) (by decide), own_ge_lt H 7 (by decide) (by decide), own_ge_lt H 8 (by decide) (by decide), own_ge_lt H 9 (by decide) (by decide), own_ge_lt H 10 (by decide) (by decide), own_ge_lt H 11 (by decide) (by decide), own_ge_lt H 12 (by decide) (by decide), own_ge_lt H 13 (by decide) (by decide), own_ge_lt H 14 (by decide) (by decide), own_ge_lt H 15 (by decide) (by decide), own_ge_lt H 16 (by decide) (by decide), own_ge_lt H 17 (by decide) (by decide), own_ge_lt H 18 (by decide) (by decide)]
  have h1 := H.1
  have h2 := H.2.1
  rw [← Int32.toInt_inj]
  generalize d.toInt = z at h1 h2
  rcases (by omega : z = 1 ∨ z = 2 ∨ z = 3 ∨ z = 4 ∨ z = 5 ∨ z = 6 ∨ z = 7 ∨ z = 8 ∨ z = 9 ∨ z = 10 ∨ z = 11 ∨ z = 12 ∨ z = 13 ∨ z = 14 ∨ z = 15 ∨ z = 16 ∨ z = 17 ∨ z = 18 ∨ z = 19) with rfl | rfl | rfl | rfl | rfl | rfl | rfl | rfl | rfl | rfl | rfl | rfl | rfl | rfl | rfl | rfl | rfl | rfl | rfl <;> decide
theorem own_le_of {d : Int32} (h : d < (19 : Int32)) : ¬ (19 : Int32) ≤ d := Int32.not_le.mpr h
theorem own_le_of' {d : Int32} (h : ¬ d < (19 : Int32)) : (19 : Int32) ≤ d := Int32.not_lt.mp h
theorem own_at3 (x : Int32) : 0 ≤ (x &&& 3).toInt ∧ (x &&& 3).toInt ≤ 3 := by
  have q := c_and x 3 (by decide)
  have e : (3 : Int32).toInt = 3 := rfl
  omega
theorem own_ens {n : Int64} {d at_ : Int32} (H : own_PL n d) (ha : 0 ≤ at_.toInt ∧ at_.toInt ≤ 3) : (at_ + own_ln n d).toInt = at_.toInt + (if n < 0 then d.toInt + 1 else d.toInt) ∧ (at_ + own_ln n d).toInt ≤ 24 ∧ (if n < 0 then at_.toInt + 1 else at_.toInt) + d.toInt = (at_ + own_ln n d).toInt := by
  have h1 := H.1
  have h2 := H.2.1
  have e1 : (1 : Int32).toInt = 1 := rfl
  unfold own_ln
  by_cases hn : n < 0
  · rw [if_pos hn, if_pos hn, if_pos hn]
    have q := c_iadd d 1
    have r := rng32 (d + 1)
    have q2 := c_iadd at_ (d + 1)
    have r2 := rng32 (at_ + (d + 1))
    omega
  · rw [if_neg hn, if_neg hn, if_neg hn]
    have q2 := c_iadd at_ d
    have r2 := rng32 (at_ + d)
    omega
theorem own_dec {p : Int32} (h : 1 ≤ p.toInt) : (p + (-1)).toInt = p.toInt - 1 := by
  have q := c_iadd p (-1)
  have r := rng32 (p + (-1))
  have r2 := rng32 p
  have e : (-1 : Int32).toInt = -1 := rfl
  omega
theorem own_bytev {n r : Int64} {j : Nat} (h : r.toInt = -((own_N n / 10 ^ j : Nat) : Int)) : (nar .byte ((48 - r % 10).toInt32.toInt8.toInt32)).toInt = 48 + (own_dg n j : Int) := by
  have q := (own_rest h).2
  have d := own_dg_lt n j
  have e := own_byte q (by omega) (by omega)
  show (((48 - r % 10).toInt32.toInt8.toInt32).toInt8.toInt32).toInt = _
  rw [Int8.toInt_toInt32, Int32.toInt_toInt8, e]; exact Int.bmod_eq_of_le (by omega) (by omega)
theorem own_rest0 (n : Int64) : (own_neg n).toInt = -((own_N n / 10 ^ 0 : Nat) : Int) := by rw [own_negN]; simp
theorem own_more {n : Int64} {d : Int32} (H : own_PL n d) {r : Int64} {j : Nat} (hj : j < d.toInt.toNat) (h : r.toInt = -((own_N n / 10 ^ (j + 1) : Nat) : Int)) (hr : r < 0) : j + 1 < d.toInt.toNat := by
  rw [Int64.lt_iff_toInt_lt, h] at hr
  have e : (0 : Int64).toInt = 0 := rfl
  have q := (own_quo H (j := j + 1) (by omega)).2
  omega
theorem own_stop {n : Int64} {d : Int32} (H : own_PL n d) {r : Int64} {j : Nat} (hj : j < d.toInt.toNat) (h : r.toInt = -((own_N n / 10 ^ (j + 1) : Nat) : Int)) (hr : ¬ r < 0) : j + 1 = d.toInt.toNat := by
  rw [Int64.lt_iff_toInt_lt, h] at hr
  have e : (0 : Int64).toInt = 0 := rfl
  have q := (own_quo H (j := j + 1) (by omega)).1
  omega
theorem own_okb {n : Int64} {d at_ en i ng : Int32} (H : own_PL n d) (ha : 0 ≤ at_.toInt ∧ at_.toInt ≤ 3) (he : en = at_ + own_ln n d) (hg : ng = if n < 0 then 1 else 0) (hi : 0 ≤ i.toInt) (h1 : ¬ i < at_) (h2 : i < en) (h3 : ng = 0 ∨ ¬ i = at_) : 0 ≤ (en - 1 - i).toInt ∧ (en - 1 - i).toInt ≤ 18 := by
  have q := own_ens H ha
  rw [← he] at q
  have d2 := H.2.1
  rw [Int32.lt_iff_toInt_lt] at h1 h2
  rw [own_sub2 hi h2 q.2.1]
  by_cases hn : n < 0
  · rw [if_pos hn] at q hg
    rcases h3 with h3 | h3
    · rw [h3] at hg; exact absurd hg (by decide)
    · rw [← Int32.toInt_inj] at h3; rw [if_pos hn] at q; omega
  · rw [if_neg hn] at q; rw [if_neg hn] at q; omega
theorem own_endeq {n : Int64} {d dS at_ sg ng : Int32} (hd : dS = d) (hg : ng = if n < 0 then 1 else 0) (hs : sg = if ng = 0 then 0 else 1) : at_ + own_ln n d = (at_ + sg) + dS := by
  subst hd hs hg
  unfold own_ln
  by_cases hn : n < 0
  · rw [if_pos hn, if_pos hn, if_neg (by decide), Int32.add_assoc, Int32.add_comm 1 dS]
  · rw [if_neg hn, if_neg hn, if_pos rfl, Int32.add_zero]
theorem own_ngv {n : Int64} {ng : Int32} (hg : ng = if n < 0 then 1 else 0) (h : ¬ ng = 0) : n < 0 := Classical.byContradiction fun z => h (by rw [hg, if_neg z])
theorem own_ngv0 {n : Int64} {ng : Int32} (hg : ng = if n < 0 then 1 else 0) (h : ng = 0) : ¬ n < 0 := fun z => by rw [hg, if_pos z] at h; exact absurd h (by decide)
theorem own_d3_0 : decode prog_2_method_7_code 0 = .ok (.lload_n 0, 1) := by decide +kernel
theorem own_d3_1 : decode prog_2_method_7_code 1 = .ok (.lconst 0, 1) := by decide +kernel
theorem own_d3_2 : decode prog_2_method_7_code 2 = .ok (.lcmp, 1) := by decide +kernel
theorem own_d3_3 : decode prog_2_method_7_code 3 = .ok (.ifCond .ge 7, 3) := by decide +kernel
theorem own_d3_6 : decode prog_2_method_7_code 6 = .ok (.lload_n 0, 1) := by decide +kernel
theorem own_d3_7 : decode prog_2_method_7_code 7 = .ok (.goto 5, 3) := by decide +kernel
theorem own_d3_10 : decode prog_2_method_7_code 10 = .ok (.lload_n 0, 1) := by decide +kernel
theorem own_d3_11 : decode prog_2_method_7_code 11 = .ok (.lneg, 1) := by decide +kernel
theorem own_d3_12 : decode prog_2_method_7_code 12 = .ok (.lstore_n 2, 1) := by decide +kernel
theorem own_d3_13 : decode prog_2_method_7_code 13 = .ok (.iconst 1, 1) := by decide +kernel
theorem own_d3_14 : decode prog_2_method_7_code 14 = .ok (.istore 4, 2) := by decide +kernel
theorem own_d3_16 : decode prog_2_method_7_code 16 = .ok (.ldc2_w 65, 3) := by decide +kernel
theorem own_d3_19 : decode prog_2_method_7_code 19 = .ok (.lstore 5, 2) := by decide +kernel
theorem own_d3_21 : decode prog_2_method_7_code 21 = .ok (.iload 4, 2) := by decide +kernel
theorem own_d3_23 : decode prog_2_method_7_code 23 = .ok (.bipush 19, 2) := by decide +kernel
theorem own_d3_25 : decode prog_2_method_7_code 25 = .ok (.if_icmp .ge 24, 3) := by decide +kernel
theorem own_d3_28 : decode prog_2_method_7_code 28 = .ok (.lload_n 2, 1) := by decide +kernel
theorem own_d3_29 : decode prog_2_method_7_code 29 = .ok (.lload 5, 2) := by decide +kernel
theorem own_d3_31 : decode prog_2_method_7_code 31 = .ok (.lcmp, 1) := by decide +kernel
theorem own_d3_32 : decode prog_2_method_7_code 32 = .ok (.ifCond .gt 17, 3) := by decide +kernel
theorem own_d3_35 : decode prog_2_method_7_code 35 = .ok (.iinc 4 1, 3) := by decide +kernel
theorem own_d3_38 : decode prog_2_method_7_code 38 = .ok (.lload 5, 2) := by decide +kernel
theorem own_d3_40 : decode prog_2_method_7_code 40 = .ok (.ldc2_w 19, 3) := by decide +kernel
theorem own_d3_43 : decode prog_2_method_7_code 43 = .ok (.lmul, 1) := by decide +kernel
theorem own_d3_44 : decode prog_2_method_7_code 44 = .ok (.lstore 5, 2) := by decide +kernel
theorem own_d3_46 : decode prog_2_method_7_code 46 = .ok (.goto (-25), 3) := by decide +kernel
theorem own_d3_49 : decode prog_2_method_7_code 49 = .ok (.lload_n 0, 1) := by decide +kernel
theorem own_d3_50 : decode prog_2_method_7_code 50 = .ok (.lconst 0, 1) := by decide +kernel
theorem own_d3_51 : decode prog_2_method_7_code 51 = .ok (.lcmp, 1) := by decide +kernel
theorem own_d3_52 : decode prog_2_method_7_code 52 = .ok (.ifCond .ge 10, 3) := by decide +kernel
theorem own_d3_55 : decode prog_2_method_7_code 55 = .ok (.iload 4, 2) := by decide +kernel
theorem own_d3_57 : decode prog_2_method_7_code 57 = .ok (.iconst 1, 1) := by decide +kernel
theorem own_d3_58 : decode prog_2_method_7_code 58 = .ok (.iadd, 1) := by decide +kernel
theorem own_d3_59 : decode prog_2_method_7_code 59 = .ok (.goto 5, 3) := by decide +kernel
theorem own_d3_62 : decode prog_2_method_7_code 62 = .ok (.iload 4, 2) := by decide +kernel
theorem own_d3_64 : decode prog_2_method_7_code 64 = .ok (.ireturn, 1) := by decide +kernel
theorem own_pn3 : plainName "com/example/fold/fold/Decimal" = true := by first | (simp [plainName, overriddenIn]; done) | decide +kernel
set_option maxRecDepth 65536 in
set_option maxHeartbeats 40000000 in
theorem own_clen (l : Launch) (Z : State) (a0 : Array Value) (hw : ∀ d ∈ tables_1, d.before a0 Z = true) (u : Int64) (h0 : Heap) (n0 : Nat) :
    Con l Z (⟨"com/example/fold/fold/Decimal", "length", "(J)I"⟩ : MethodName) prog_2_method_7_code 7 (some .int) ({ frames := 0, cells := 0, slots := 0, locals := 0 } : Room) n0 h0 #[(.long u)] (fun v h => (∃ d, v = some (.int (own_ln u d)) ∧ own_PL u d) ∧ h = h0) := by
  refine Con.intro (plainFor_of_name own_pn3) (Ls := #[.val (.long u), .second, .unset, .unset, .unset, .unset, .unset]) (fun m => by first | (simp [entryFrame, mkF, argsToLocals, Value.category]; done) | rfl) ?_
  intro p e s m below meth c s₁ hx hby hml hown hnm hret hlk hZ S0
  have A0 := S0.here
  have J12_1 : ∀ (T1 : State), ∀ (ng : Int64), St p l e ({ frames := 0, cells := 0, slots := 0, locals := 0 } : Room) s m #[(.long u)] below meth c n0 T1 h0 0 0 → (ng = own_neg u) → Done p e below (OEnd s ({ frames := 0, cells := 0, slots := 0, locals := 0 } : Room) n0 (fun v h => (∃ d, v = some (.int (own_ln u d)) ∧ own_PL u d) ∧ h = h0)) (T1.setTop (mkF m 12 #[.val (.long u), .second, .unset, .unset, .unset, .unset, .unset] [(.long ng)])) := by
    intro T1 ng S1 hng
    have A1 := S1.here
    refine k_lstoreN A1 hx (hb hby own_d3_12) (Ls' := #[.val (.long u), .second, .val (.long ng), .second, .unset, .unset, .unset]) rfl (pc' := 13) rfl ?_
    refine k_iconst A1 hx (hb hby own_d3_13) (v := 1) rfl (pc' := 14) rfl ?_
    refine k_istore A1 hx (hb hby own_d3_14) (Ls' := #[.val (.long u), .second, .val (.long ng), .second, .val (.int (1 : Int32)), .unset, .unset]) rfl (pc' := 16) rfl ?_
    refine k_ldc2Long S1 hx hZ hown (hw _ (List.mem_of_getElem? (i := 31) rfl)) (hb hby own_d3_16) (pc' := 19) rfl ?_
    refine k_lstore A1 hx (hb hby own_d3_19) (Ls' := #[.val (.long u), .second, .val (.long ng), .second, .val (.int (1 : Int32)), .val (.long (-10 : Int64)), .second]) rfl (pc' := 21) rfl ?_
    have L21_2 : ∀ (f : Nat) (T2 : State), ∀ (d : Int32), ∀ (bd : Int64), St p l e ({ frames := 0, cells := 0, slots := 0, locals := 0 } : Room) s m #[(.long u)] below meth c n0 T2 h0 0 0 → (19 - d.toInt < (f : Int)) → (own_IL u d bd) → Done p e below (OEnd s ({ frames := 0, cells := 0, slots := 0, locals := 0 } : Room) n0 (fun v h => (∃ d, v = some (.int (own_ln u d)) ∧ own_PL u d) ∧ h = h0)) (T2.setTop (mkF m 21 #[.val (.long u), .second, .val (.long ng), .second, .val (.int d), .val (.long bd), .second] [])) := by
      intro f
      induction f with
      | zero =>
        intro T2 d bd S2 hms hI
        exfalso
        have q := hI.2.1; omega
      | succ f ih2 =>
        intro T2 d bd S2 hms hI
        have A2 := S2.here
        refine k_iload A2 hx (hb hby own_d3_21) rfl (pc' := 23) rfl ?_
        refine k_bipush A2 hx (hb hby own_d3_23) (v := 19) rfl (pc' := 25) rfl ?_
        refine k_icmp_ge A2 hx (hb hby own_d3_25) (pcY := 49) (by decide) (pc' := 28) rfl (fun hc25 => ?_) (fun hc25 => ?_)
        · refine k_lloadN A2 hx (hb hby own_d3_49) rfl (pc' := 50) rfl ?_
          refine k_lconst A2 hx (hb hby own_d3_50) (v := 0) rfl (pc' := 51) rfl ?_
          refine k_lcmp_ge A2 hx (hb hby own_d3_51) (hb hby own_d3_52) (pcY := 62) (by decide) (pc' := 55) rfl (fun hc51 => ?_) (fun hc51 => ?_)
          · refine k_iload A2 hx (hb hby own_d3_62) rfl (pc' := 64) rfl ?_
            refine k_ret_int S2 hx hret hlk (hb hby own_d3_64) (by decide) (by decide) ?_
            exact ⟨⟨d, by simp [own_ln, hc51], own_IL2 hI (Or.inl (own_le_of' hc25))⟩, rfl⟩
          · refine k_iload A2 hx (hb hby own_d3_55) rfl (pc' := 57) rfl ?_
            refine k_iconst A2 hx (hb hby own_d3_57) (v := 1) rfl (pc' := 58) rfl ?_
            refine k_iadd A2 hx (hb hby own_d3_58) (pc' := 59) rfl ?_
            refine k_goto A2 hx (hb hby own_d3_59) (pc' := 64) (by decide) ?_
            refine k_ret_int S2 hx hret hlk (hb hby own_d3_64) (by decide) (by decide) ?_
            exact ⟨⟨d, by simp [own_ln, hc51], own_IL2 hI (Or.inl (own_le_of' hc25))⟩, rfl⟩
        · refine k_lloadN A2 hx (hb hby own_d3_28) rfl (pc' := 29) rfl ?_
          refine k_lload A2 hx (hb hby own_d3_29) rfl (pc' := 31) rfl ?_
          refine k_lcmp_gt A2 hx (hb hby own_d3_31) (hb hby own_d3_32) (pcY := 49) (by decide) (pc' := 35) rfl (fun hc31 => ?_) (fun hc31 => ?_)
          · refine k_lloadN A2 hx (hb hby own_d3_49) rfl (pc' := 50) rfl ?_
            refine k_lconst A2 hx (hb hby own_d3_50) (v := 0) rfl (pc' := 51) rfl ?_
            refine k_lcmp_ge A2 hx (hb hby own_d3_51) (hb hby own_d3_52) (pcY := 62) (by decide) (pc' := 55) rfl (fun hc51 => ?_) (fun hc51 => ?_)
            · refine k_iload A2 hx (hb hby own_d3_62) rfl (pc' := 64) rfl ?_
              refine k_ret_int S2 hx hret hlk (hb hby own_d3_64) (by decide) (by decide) ?_
              exact ⟨⟨d, by simp [own_ln, hc51], own_IL2 hI (Or.inr (hng ▸ hc31))⟩, rfl⟩
            · refine k_iload A2 hx (hb hby own_d3_55) rfl (pc' := 57) rfl ?_
              refine k_iconst A2 hx (hb hby own_d3_57) (v := 1) rfl (pc' := 58) rfl ?_
              refine k_iadd A2 hx (hb hby own_d3_58) (pc' := 59) rfl ?_
              refine k_goto A2 hx (hb hby own_d3_59) (pc' := 64) (by decide) ?_
              refine k_ret_int S2 hx hret hlk (hb hby own_d3_64) (by decide) (by decide) ?_
              exact ⟨⟨d, by simp [own_ln, hc51], own_IL2 hI (Or.inr (hng ▸ hc31))⟩, rfl⟩
          · refine k_iinc A2 hx (hb hby own_d3_35) rfl (Ls' := #[.val (.long u), .second, .val (.long ng), .second, .val (.int (d + (1 : Int32))), .val (.long bd), .second]) rfl (pc' := 38) rfl ?_
            refine k_lload A2 hx (hb hby own_d3_38) rfl (pc' := 40) rfl ?_
            refine k_ldc2Long S2 hx hZ hown (hw _ (List.mem_of_getElem? (i := 33) rfl)) (hb hby own_d3_40) (pc' := 43) rfl ?_
            refine k_lmul A2 hx (hb hby own_d3_43) (pc' := 44) rfl ?_
            refine k_lstore A2 hx (hb hby own_d3_44) (Ls' := #[.val (.long u), .second, .val (.long ng), .second, .val (.int (d + (1 : Int32))), .val (.long (bd * (10 : Int64))), .second]) rfl (pc' := 46) rfl ?_
            refine k_goto A2 hx (hb hby own_d3_46) (pc' := 21) (by decide) ?_
            exact ih2 T2 (d + (1 : Int32)) (bd * (10 : Int64)) (S2.more (by decide) (by decide)) (by rw [(own_IL1 hI (own_le_of hc25) (hng ▸ hc31)).2]; omega) (own_IL1 hI (own_le_of hc25) (hng ▸ hc31)).1
    exact L21_2 19 T1 (1 : Int32) (-10 : Int64) (S1.more (by decide) (by decide)) (by decide) (own_IL0 u)
  refine k_lloadN A0 hx (hb hby own_d3_0) rfl (pc' := 1) rfl ?_
  refine k_lconst A0 hx (hb hby own_d3_1) (v := 0) rfl (pc' := 2) rfl ?_
  refine k_lcmp_ge A0 hx (hb hby own_d3_2) (hb hby own_d3_3) (pcY := 10) (by decide) (pc' := 6) rfl (fun hc2 => ?_) (fun hc2 => ?_)
  · refine k_lloadN A0 hx (hb hby own_d3_10) rfl (pc' := 11) rfl ?_
    refine k_lneg A0 hx (hb hby own_d3_11) (pc' := 12) rfl ?_
    exact J12_1 s₁ (-u) (S0.more (by decide) (by decide)) (if_neg hc2).symm
  · refine k_lloadN A0 hx (hb hby own_d3_6) rfl (pc' := 7) rfl ?_
    refine k_goto A0 hx (hb hby own_d3_7) (pc' := 12) (by decide) ?_
    exact J12_1 s₁ u (S0.more (by decide) (by decide)) (if_pos hc2).symm
theorem own_d1_0 : decode method_3_code 0 = .ok (.lload_n 0, 1) := by decide +kernel
theorem own_d1_1 : decode method_3_code 1 = .ok (.aload_n 2, 1) := by decide +kernel
theorem own_d1_2 : decode method_3_code 2 = .ok (.iload_n 3, 1) := by decide +kernel
theorem own_d1_3 : decode method_3_code 3 = .ok (.laload, 1) := by decide +kernel
theorem own_d1_4 : decode method_3_code 4 = .ok (.lneg, 1) := by decide +kernel
theorem own_d1_5 : decode method_3_code 5 = .ok (.lcmp, 1) := by decide +kernel
theorem own_d1_6 : decode method_3_code 6 = .ok (.ifCond .gt 7, 3) := by decide +kernel
theorem own_d1_9 : decode method_3_code 9 = .ok (.iconst 1, 1) := by decide +kernel
theorem own_d1_10 : decode method_3_code 10 = .ok (.goto 4, 3) := by decide +kernel
theorem own_d1_13 : decode method_3_code 13 = .ok (.iconst 0, 1) := by decide +kernel
theorem own_d1_14 : decode method_3_code 14 = .ok (.ireturn, 1) := by decide +kernel
theorem own_pn1 : plainName "com/example/fold/fold/DecimalPutPinLaw" = true := by first | (simp [plainName, overriddenIn]; done) | decide +kernel
set_option maxRecDepth 65536 in
set_option maxHeartbeats 40000000 in
theorem own_cge (l : Launch) (Z : State) (a0 : Array Value) (hw : ∀ d ∈ tables_1, d.before a0 Z = true) (u : Int64) (pa : Addr) (k : Int32) (h0 : Heap) (n0 : Nat) (Vp : LV Z h0 pa own_pows) (hk : 0 ≤ k.toInt ∧ k.toInt ≤ 18) :
    Con l Z (⟨"com/example/fold/fold/DecimalPutPinLaw", "ge", "(J[JI)I"⟩ : MethodName) method_3_code 4 (some .int) ({ frames := 0, cells := 0, slots := 0, locals := 0 } : Room) n0 h0 #[(.long u), (.ref pa), (.int k)] (fun v h => v = some (.int (own_ge u k)) ∧ h = h0) := by
  refine Con.intro (plainFor_of_name own_pn1) (Ls := #[.val (.long u), .second, .val (.ref pa), .val (.int k)]) (fun m => by first | (simp [entryFrame, mkF, argsToLocals, Value.category]; done) | rfl) ?_
  intro p e s m below meth c s₁ hx hby hml hown hnm hret hlk hZ S0
  have A0 := S0.here
  refine k_lloadN A0 hx (hb hby own_d1_0) rfl (pc' := 1) rfl ?_
  refine k_aloadN A0 hx (hb hby own_d1_1) rfl rfl (pc' := 2) rfl ?_
  refine k_iloadN A0 hx (hb hby own_d1_2) rfl (pc' := 3) rfl ?_
  refine k_laload S0 hx hZ Vp (hb hby own_d1_3) hk.1 (by show k.toInt < 19; omega) rfl (pc' := 4) rfl ?_
  refine k_lneg A0 hx (hb hby own_d1_4) (pc' := 5) rfl ?_
  refine k_lcmp_gt A0 hx (hb hby own_d1_5) (hb hby own_d1_6) (pcY := 13) (by decide) (pc' := 9) rfl (fun hc5 => ?_) (fun hc5 => ?_)
  · refine k_iconst A0 hx (hb hby own_d1_13) (v := 0) rfl (pc' := 14) rfl ?_
    refine k_ret_int S0 hx hret hlk (hb hby own_d1_14) (by decide) (by decide) ?_
    exact ⟨congrArg (fun z => some (Value.int z)) (if_pos hc5).symm, rfl⟩
  · refine k_iconst A0 hx (hb hby own_d1_9) (v := 1) rfl (pc' := 10) rfl ?_
    refine k_goto A0 hx (hb hby own_d1_10) (pc' := 14) (by decide) ?_
    refine k_ret_int S0 hx hret hlk (hb hby own_d1_14) (by decide) (by decide) ?_
    exact ⟨congrArg (fun z => some (Value.int z)) (if_neg hc5).symm, rfl⟩
theorem own_d5_0 : decode jdk_29_method_61_code 0 = .ok (.lload_n 0, 1) := by decide +kernel
theorem own_d5_1 : decode jdk_29_method_61_code 1 = .ok (.lconst 0, 1) := by decide +kernel
theorem own_d5_2 : decode jdk_29_method_61_code 2 = .ok (.lcmp, 1) := by decide +kernel
theorem own_d5_3 : decode jdk_29_method_61_code 3 = .ok (.ifCond .ge 8, 3) := by decide +kernel
theorem own_d5_6 : decode jdk_29_method_61_code 6 = .ok (.lload_n 0, 1) := by decide +kernel
theorem own_d5_7 : decode jdk_29_method_61_code 7 = .ok (.lneg, 1) := by decide +kernel
theorem own_d5_8 : decode jdk_29_method_61_code 8 = .ok (.goto 4, 3) := by decide +kernel
theorem own_d5_11 : decode jdk_29_method_61_code 11 = .ok (.lload_n 0, 1) := by decide +kernel
theorem own_d5_12 : decode jdk_29_method_61_code 12 = .ok (.lreturn, 1) := by decide +kernel
set_option maxRecDepth 65536 in
set_option maxHeartbeats 40000000 in
theorem own_cabs (l : Launch) (Z : State) (a0 : Array Value) (hw : ∀ d ∈ tables_1, d.before a0 Z = true) (u : Int64) (h0 : Heap) (n0 : Nat) :
    Con l Z (⟨"java/lang/Math", "abs", "(J)J"⟩ : MethodName) jdk_29_method_61_code 2 (some .long) ({ frames := 0, cells := 0, slots := 0, locals := 0 } : Room) n0 h0 #[(.long u)] (fun v h => v = some (.long (own_abs u)) ∧ h = h0) := by
  refine Con.intro (Jvm.Free.JP.mathPlain rfl (by decide +kernel)) (Ls := #[.val (.long u), .second]) (fun m => by first | (simp [entryFrame, mkF, argsToLocals, Value.category]; done) | rfl) ?_
  intro p e s m below meth c s₁ hx hby hml hown hnm hret hlk hZ S0
  have A0 := S0.here
  refine k_lloadN A0 hx (hb hby own_d5_0) rfl (pc' := 1) rfl ?_
  refine k_lconst A0 hx (hb hby own_d5_1) (v := 0) rfl (pc' := 2) rfl ?_
  refine k_lcmp_ge A0 hx (hb hby own_d5_2) (hb hby own_d5_3) (pcY := 11) (by decide) (pc' := 6) rfl (fun hc2 => ?_) (fun hc2 => ?_)
  · refine k_lloadN A0 hx (hb hby own_d5_11) rfl (pc' := 12) rfl ?_
    refine k_ret_long S0 hx hret hlk (hb hby own_d5_12) (by decide) (by decide) ?_
    exact ⟨by simp [own_abs, hc2], rfl⟩
  · refine k_lloadN A0 hx (hb hby own_d5_6) rfl (pc' := 7) rfl ?_
    refine k_lneg A0 hx (hb hby own_d5_7) (pc' := 8) rfl ?_
    refine k_goto A0 hx (hb hby own_d5_8) (pc' := 12) (by decide) ?_
    refine k_ret_long S0 hx hret hlk (hb hby own_d5_12) (by decide) (by decide) ?_
    exact ⟨by simp [own_abs, hc2], rfl⟩
theorem own_d2_0 : decode prog_2_method_3_code 0 = .ok (.iload_n 3, 1) := by decide +kernel
theorem own_d2_1 : decode prog_2_method_3_code 1 = .ok (.lload_n 0, 1) := by decide +kernel
theorem own_d2_2 : decode prog_2_method_3_code 2 = .ok (.invokestatic 7, 3) := by decide +kernel
theorem own_d2_5 : decode prog_2_method_3_code 5 = .ok (.iadd, 1) := by decide +kernel
theorem own_d2_6 : decode prog_2_method_3_code 6 = .ok (.istore 4, 2) := by decide +kernel
theorem own_d2_8 : decode prog_2_method_3_code 8 = .ok (.lload_n 0, 1) := by decide +kernel
theorem own_d2_9 : decode prog_2_method_3_code 9 = .ok (.lconst 0, 1) := by decide +kernel
theorem own_d2_10 : decode prog_2_method_3_code 10 = .ok (.lcmp, 1) := by decide +kernel
theorem own_d2_11 : decode prog_2_method_3_code 11 = .ok (.ifCond .ge 8, 3) := by decide +kernel
theorem own_d2_14 : decode prog_2_method_3_code 14 = .ok (.aload_n 2, 1) := by decide +kernel
theorem own_d2_15 : decode prog_2_method_3_code 15 = .ok (.iload_n 3, 1) := by decide +kernel
theorem own_d2_16 : decode prog_2_method_3_code 16 = .ok (.bipush 45, 2) := by decide +kernel
theorem own_d2_18 : decode prog_2_method_3_code 18 = .ok (.bastore, 1) := by decide +kernel
theorem own_d2_19 : decode prog_2_method_3_code 19 = .ok (.lload_n 0, 1) := by decide +kernel
theorem own_d2_20 : decode prog_2_method_3_code 20 = .ok (.lconst 0, 1) := by decide +kernel
theorem own_d2_21 : decode prog_2_method_3_code 21 = .ok (.lcmp, 1) := by decide +kernel
theorem own_d2_22 : decode prog_2_method_3_code 22 = .ok (.ifCond .ge 7, 3) := by decide +kernel
theorem own_d2_25 : decode prog_2_method_3_code 25 = .ok (.lload_n 0, 1) := by decide +kernel
theorem own_d2_26 : decode prog_2_method_3_code 26 = .ok (.goto 5, 3) := by decide +kernel
theorem own_d2_29 : decode prog_2_method_3_code 29 = .ok (.lload_n 0, 1) := by decide +kernel
theorem own_d2_30 : decode prog_2_method_3_code 30 = .ok (.lneg, 1) := by decide +kernel
theorem own_d2_31 : decode prog_2_method_3_code 31 = .ok (.lstore 5, 2) := by decide +kernel
theorem own_d2_33 : decode prog_2_method_3_code 33 = .ok (.iload 4, 2) := by decide +kernel
theorem own_d2_35 : decode prog_2_method_3_code 35 = .ok (.istore 7, 2) := by decide +kernel
theorem own_d2_37 : decode prog_2_method_3_code 37 = .ok (.iinc 7 (-1), 3) := by decide +kernel
theorem own_d2_40 : decode prog_2_method_3_code 40 = .ok (.aload_n 2, 1) := by decide +kernel
theorem own_d2_41 : decode prog_2_method_3_code 41 = .ok (.iload 7, 2) := by decide +kernel
theorem own_d2_43 : decode prog_2_method_3_code 43 = .ok (.ldc2_w 17, 3) := by decide +kernel
theorem own_d2_46 : decode prog_2_method_3_code 46 = .ok (.lload 5, 2) := by decide +kernel
theorem own_d2_48 : decode prog_2_method_3_code 48 = .ok (.ldc2_w 19, 3) := by decide +kernel
theorem own_d2_51 : decode prog_2_method_3_code 51 = .ok (.lrem, 1) := by decide +kernel
theorem own_d2_52 : decode prog_2_method_3_code 52 = .ok (.lsub, 1) := by decide +kernel
theorem own_d2_53 : decode prog_2_method_3_code 53 = .ok (.l2i, 1) := by decide +kernel
theorem own_d2_54 : decode prog_2_method_3_code 54 = .ok (.i2b, 1) := by decide +kernel
theorem own_d2_55 : decode prog_2_method_3_code 55 = .ok (.bastore, 1) := by decide +kernel
theorem own_d2_56 : decode prog_2_method_3_code 56 = .ok (.lload 5, 2) := by decide +kernel
theorem own_d2_58 : decode prog_2_method_3_code 58 = .ok (.ldc2_w 19, 3) := by decide +kernel
theorem own_d2_61 : decode prog_2_method_3_code 61 = .ok (.ldiv, 1) := by decide +kernel
theorem own_d2_62 : decode prog_2_method_3_code 62 = .ok (.lstore 5, 2) := by decide +kernel
theorem own_d2_64 : decode prog_2_method_3_code 64 = .ok (.lload 5, 2) := by decide +kernel
theorem own_d2_66 : decode prog_2_method_3_code 66 = .ok (.lconst 0, 1) := by decide +kernel
theorem own_d2_67 : decode prog_2_method_3_code 67 = .ok (.lcmp, 1) := by decide +kernel
theorem own_d2_68 : decode prog_2_method_3_code 68 = .ok (.ifCond .lt (-31), 3) := by decide +kernel
theorem own_d2_71 : decode prog_2_method_3_code 71 = .ok (.iload 4, 2) := by decide +kernel
theorem own_d2_73 : decode prog_2_method_3_code 73 = .ok (.ireturn, 1) := by decide +kernel
theorem own_pn2 : plainName "com/example/fold/fold/Decimal" = true := by first | (simp [plainName, overriddenIn]; done) | decide +kernel
theorem own_pd0 : parseMethodDescriptor "(J)I" = some ⟨[.long], some .int⟩ := by decide +kernel
set_option maxRecDepth 65536 in
set_option maxHeartbeats 40000000 in
theorem own_cput (l : Launch) (Z : State) (a0 : Array Value) (hw : ∀ d ∈ tables_1, d.before a0 Z = true) (u : Int64) (a : Addr) (at_ : Int32) (h0 : Heap) (n0 : Nat) (Z0 : n0 ≤ h0.size) (ga : n0 ≤ a) (Va : BV Z h0 a (List.replicate 24 0)) (hat : 0 ≤ at_.toInt ∧ at_.toInt ≤ 3) :
    Con l Z (⟨"com/example/fold/fold/Decimal", "put", "(J[BI)I"⟩ : MethodName) prog_2_method_3_code 8 (some .int) ({ frames := 1, cells := 0, slots := 0, locals := 24 } : Room) n0 h0 #[(.long u), (.ref a), (.int at_)] (fun v h => ∃ d bs, v = some (.int (at_ + own_ln u d)) ∧ own_PL u d ∧ Keep h0 h [a] ∧ BV Z h a bs ∧ bs.length = 24 ∧ ∀ i : Int32, 0 ≤ i.toInt → i.toInt < 24 → bs.getD i.toInt.toNat 0 = own_w u at_ (at_ + own_ln u d) i) := by
  refine Con.intro (plainFor_of_name own_pn2) (Ls := #[.val (.long u), .second, .val (.ref a), .val (.int at_), .unset, .unset, .unset, .unset]) (fun m => by first | (simp [entryFrame, mkF, argsToLocals, Value.category]; done) | rfl) ?_
  intro p e s m below meth c s₁ hx hby hml hown hnm hret hlk hZ S0
  have A0 := S0.here
  have K1 := Keep.refl h0 [a]
  refine k_iloadN A0 hx (hb hby own_d2_0) rfl (pc' := 1) rfl ?_
  refine k_lloadN A0 hx (hb hby own_d2_1) rfl (pc' := 2) rfl ?_
  refine k_call_static S0 hx hZ hown (hw _ (List.mem_of_getElem? (i := 28) rfl)) (hw _ (List.mem_of_getElem? (i := 29) rfl)) (hw _ (List.mem_of_getElem? (i := 26) rfl)) (hw _ (List.mem_of_getElem? (i := 30) rfl)) (by decide) (own_clen l Z a0 hw u h0 n0) 1 (argsL := [(.long u)]) (rest := [(.int at_)]) (by decide) (by decide) (by rw [hml]; rfl) (lenOf own_pd0 rfl) rfl rfl (Nat.le_refl 1) (hb hby own_d2_2) (pc' := 5) rfl (by decide) (by decide) ?_
  rintro v2 T2 h2 ⟨⟨d, rfl, hPL⟩, q2⟩ S2
  rw [q2] at S2
  have A2 := S2.here
  show Done p e below _ (T2.setTop (mkF m 5 #[.val (.long u), .second, .val (.ref a), .val (.int at_), .unset, .unset, .unset, .unset] [(.int (own_ln u d)), (.int at_)]))
  refine k_iadd A2 hx (hb hby own_d2_5) (pc' := 6) rfl ?_
  have hen := own_ens hPL hat
  have hd1 := hPL.1
  have hd2 := hPL.2.1
  obtain ⟨en, q_en⟩ : ∃ z, z = at_ + own_ln u d := ⟨_, rfl⟩
  rw [← q_en] at hen ⊢
  refine k_istore A2 hx (hb hby own_d2_6) (Ls' := #[.val (.long u), .second, .val (.ref a), .val (.int at_), .val (.int en), .unset, .unset, .unset]) rfl (pc' := 8) rfl ?_
  have J19_3 : ∀ (T3 : State) (h3 : Heap), ∀ (bs : List Int32), St p l e ({ frames := 1, cells := 0, slots := 0, locals := 24 } : Room) s m #[(.long u), (.ref a), (.int at_)] below meth c n0 T3 h3 0 0 → (BV Z h3 a bs) → (Keep h0 h3 [a]) → (own_B bs u at_ en 0) → Done p e below (OEnd s ({ frames := 1, cells := 0, slots := 0, locals := 24 } : Room) n0 (fun v h => ∃ d bs, v = some (.int (at_ + own_ln u d)) ∧ own_PL u d ∧ Keep h0 h [a] ∧ BV Z h a bs ∧ bs.length = 24 ∧ ∀ i : Int32, 0 ≤ i.toInt → i.toInt < 24 → bs.getD i.toInt.toNat 0 = own_w u at_ (at_ + own_ln u d) i)) (T3.setTop (mkF m 19 #[.val (.long u), .second, .val (.ref a), .val (.int at_), .val (.int en), .unset, .unset, .unset] [])) := by
    intro T3 h3 bs S3 Vj KJ hB0
    have A3 := S3.here
    have J31_4 : ∀ (T4 : State), ∀ (r0 : Int64), St p l e ({ frames := 1, cells := 0, slots := 0, locals := 24 } : Room) s m #[(.long u), (.ref a), (.int at_)] below meth c n0 T4 h3 0 0 → (r0 = own_neg u) → Done p e below (OEnd s ({ frames := 1, cells := 0, slots := 0, locals := 24 } : Room) n0 (fun v h => ∃ d bs, v = some (.int (at_ + own_ln u d)) ∧ own_PL u d ∧ Keep h0 h [a] ∧ BV Z h a bs ∧ bs.length = 24 ∧ ∀ i : Int32, 0 ≤ i.toInt → i.toInt < 24 → bs.getD i.toInt.toNat 0 = own_w u at_ (at_ + own_ln u d) i)) (T4.setTop (mkF m 31 #[.val (.long u), .second, .val (.ref a), .val (.int at_), .val (.int en), .unset, .unset, .unset] [(.long r0)])) := by
      intro T4 r0 S4 hr0
      have A4 := S4.here
      refine k_lstore A4 hx (hb hby own_d2_31) (Ls' := #[.val (.long u), .second, .val (.ref a), .val (.int at_), .val (.int en), .val (.long r0), .second, .unset]) rfl (pc' := 33) rfl ?_
      refine k_iload A4 hx (hb hby own_d2_33) rfl (pc' := 35) rfl ?_
      refine k_istore A4 hx (hb hby own_d2_35) (Ls' := #[.val (.long u), .second, .val (.ref a), .val (.int at_), .val (.int en), .val (.long r0), .second, .val (.int en)]) rfl (pc' := 37) rfl ?_
      have L37_5 : ∀ (f : Nat) (T5 : State) (h5 : Heap), ∀ (j : Nat), ∀ (p' : Int32), ∀ (r : Int64), ∀ (cs : List Int32), St p l e ({ frames := 1, cells := 0, slots := 0, locals := 24 } : Room) s m #[(.long u), (.ref a), (.int at_)] below meth c n0 T5 h5 0 0 → (d.toInt - j < (f : Int)) → (BV Z h5 a cs) → (Keep h0 h5 [a]) → (p'.toInt = en.toInt - j) → (r.toInt = -((own_N u / 10 ^ j : Nat) : Int)) → (own_B cs u at_ en j) → (j < d.toInt.toNat) → Done p e below (OEnd s ({ frames := 1, cells := 0, slots := 0, locals := 24 } : Room) n0 (fun v h => ∃ d bs, v = some (.int (at_ + own_ln u d)) ∧ own_PL u d ∧ Keep h0 h [a] ∧ BV Z h a bs ∧ bs.length = 24 ∧ ∀ i : Int32, 0 ≤ i.toInt → i.toInt < 24 → bs.getD i.toInt.toNat 0 = own_w u at_ (at_ + own_ln u d) i)) (T5.setTop (mkF m 37 #[.val (.long u), .second, .val (.ref a), .val (.int at_), .val (.int en), .val (.long r), .second, .val (.int p')] [])) := by
        intro f
        induction f with
        | zero =>
          intro T5 h5 j p' r cs S5 hms Wa KL hp' hr hB hj
          exfalso
          omega
        | succ f ih5 =>
          intro T5 h5 j p' r cs S5 hms Wa KL hp' hr hB hj
          have A5 := S5.here
          have hlo : 0 ≤ p'.toInt - 1 := by
            have q := hen.2.2
            split at q <;> omega
          have h24 := hen.2.1
          refine k_iinc A5 hx (hb hby own_d2_37) rfl (Ls' := #[.val (.long u), .second, .val (.ref a), .val (.int at_), .val (.int en), .val (.long r), .second, .val (.int (p' + (-1 : Int32)))]) rfl (pc' := 40) rfl ?_
          refine k_aloadN A5 hx (hb hby own_d2_40) rfl rfl (pc' := 41) rfl ?_
          refine k_iload A5 hx (hb hby own_d2_41) rfl (pc' := 43) rfl ?_
          refine k_ldc2Long S5 hx hZ hown (hw _ (List.mem_of_getElem? (i := 32) rfl)) (hb hby own_d2_43) (pc' := 46) rfl ?_
          refine k_lload A5 hx (hb hby own_d2_46) rfl (pc' := 48) rfl ?_
          refine k_ldc2Long S5 hx hZ hown (hw _ (List.mem_of_getElem? (i := 33) rfl)) (hb hby own_d2_48) (pc' := 51) rfl ?_
          refine k_lrem A5 hx (hb hby own_d2_51) (by decide) (pc' := 52) rfl ?_
          refine k_lsub A5 hx (hb hby own_d2_52) (pc' := 53) rfl ?_
          refine k_l2i A5 hx (hb hby own_d2_53) (pc' := 54) rfl ?_
          refine k_i2b A5 hx (hb hby own_d2_54) (pc' := 55) rfl ?_
          refine k_bastore S5 hx hZ Wa (hb hby own_d2_55) (by rw [own_dec (by omega)]; omega) (by rw [own_dec (by omega), hB.1]; omega) ga (pc' := 56) rfl ?_
          intro T6 h6 W6 V6 S6
          have A6 := S6.here
          have K8 := KL.wr W6 (Or.inl (List.mem_of_getElem? (i := 0) rfl))
          refine k_lload A6 hx (hb hby own_d2_56) rfl (pc' := 58) rfl ?_
          refine k_ldc2Long S6 hx hZ hown (hw _ (List.mem_of_getElem? (i := 33) rfl)) (hb hby own_d2_58) (pc' := 61) rfl ?_
          refine k_ldiv A6 hx (hb hby own_d2_61) (by decide) (pc' := 62) rfl ?_
          refine k_lstore A6 hx (hb hby own_d2_62) (Ls' := #[.val (.long u), .second, .val (.ref a), .val (.int at_), .val (.int en), .val (.long (r / (10 : Int64))), .second, .val (.int (p' + (-1 : Int32)))]) rfl (pc' := 64) rfl ?_
          refine k_lload A6 hx (hb hby own_d2_64) rfl (pc' := 66) rfl ?_
          refine k_lconst A6 hx (hb hby own_d2_66) (v := 0) rfl (pc' := 67) rfl ?_
          refine k_lcmp_lt A6 hx (hb hby own_d2_67) (hb hby own_d2_68) (pcY := 37) (by decide) (pc' := 71) rfl (fun hc67 => ?_) (fun hc67 => ?_)
          · exact ih5 T6 h6 (j + 1) (p' + (-1)) (r / 10) (cs.set (p' + (-1 : Int32)).toInt.toNat (nar .byte (((48 : Int64) - (r % (10 : Int64))).toInt32.toInt8.toInt32))) (S6.more (by decide) (by decide)) (by omega) V6 K8 (by rw [own_dec (by omega)]; omega) (own_rest hr).1 (own_B1 hB (by rw [own_dec (by omega)]; omega) (by rw [own_dec (by omega)]; omega) hen.2.1 (own_bytev hr)) (own_more hPL hj (own_rest hr).1 hc67)
          · refine k_iload A6 hx (hb hby own_d2_71) rfl (pc' := 73) rfl ?_
            refine k_ret_int S6 hx hret hlk (hb hby own_d2_73) (by decide) (by decide) ?_
            exact ⟨d, _, by rw [q_en], hPL, K8, V6, by rw [List.length_set]; exact hB.1, fun i h1 h2 => by rw [← q_en]; exact own_Bend (d := d) (by rw [← own_stop hPL hj (own_rest hr).1 hc67]; exact own_B1 hB (by rw [own_dec (by omega)]; omega) (by rw [own_dec (by omega)]; omega) hen.2.1 (own_bytev hr)) ⟨hd1, hd2⟩ hat.1 hen.1 hen.2.1 i h1 h2⟩
      exact L37_5 (d.toInt.toNat + 1) T4 h3 0 en r0 bs (S4.more (by decide) (by decide)) (by omega) Vj KJ (by omega) (by rw [hr0]; exact own_rest0 u) hB0 (by omega)
    refine k_lloadN A3 hx (hb hby own_d2_19) rfl (pc' := 20) rfl ?_
    refine k_lconst A3 hx (hb hby own_d2_20) (v := 0) rfl (pc' := 21) rfl ?_
    refine k_lcmp_ge A3 hx (hb hby own_d2_21) (hb hby own_d2_22) (pcY := 29) (by decide) (pc' := 25) rfl (fun hc21 => ?_) (fun hc21 => ?_)
    · refine k_lloadN A3 hx (hb hby own_d2_29) rfl (pc' := 30) rfl ?_
      refine k_lneg A3 hx (hb hby own_d2_30) (pc' := 31) rfl ?_
      exact J31_4 T3 (-u) (S3.more (by decide) (by decide)) (if_neg hc21).symm
    · refine k_lloadN A3 hx (hb hby own_d2_25) rfl (pc' := 26) rfl ?_
      refine k_goto A3 hx (hb hby own_d2_26) (pc' := 31) (by decide) ?_
      exact J31_4 T3 u (S3.more (by decide) (by decide)) (if_pos hc21).symm
  refine k_lloadN A2 hx (hb hby own_d2_8) rfl (pc' := 9) rfl ?_
  refine k_lconst A2 hx (hb hby own_d2_9) (v := 0) rfl (pc' := 10) rfl ?_
  refine k_lcmp_ge A2 hx (hb hby own_d2_10) (hb hby own_d2_11) (pcY := 19) (by decide) (pc' := 14) rfl (fun hc10 => ?_) (fun hc10 => ?_)
  · exact J19_3 T2 h0 (List.replicate 24 0) (S2.more (by decide) (by decide)) Va K1 (own_B0 u at_ en hc10)
  · refine k_aloadN A2 hx (hb hby own_d2_14) rfl rfl (pc' := 15) rfl ?_
    refine k_iloadN A2 hx (hb hby own_d2_15) rfl (pc' := 16) rfl ?_
    refine k_bipush A2 hx (hb hby own_d2_16) (v := 45) rfl (pc' := 18) rfl ?_
    refine k_bastore S2 hx hZ Va (hb hby own_d2_18) hat.1 (by rw [List.length_replicate]; omega) ga (pc' := 19) rfl ?_
    intro T9 h9 W9 V9 S9
    have A9 := S9.here
    have K11 := K1.wr W9 (Or.inl (List.mem_of_getElem? (i := 0) rfl))
    exact J19_3 T9 h9 ((List.replicate 24 0).set at_.toInt.toNat 45) (S9.more (by decide) (by decide)) V9 K11 (own_B0m u at_ en hc10 hat.1 (by omega))
theorem own_d4_0 : decode method_4_code 0 = .ok (.iload_n 1, 1) := by decide +kernel
theorem own_d4_1 : decode method_4_code 1 = .ok (.iload 5, 2) := by decide +kernel
theorem own_d4_3 : decode method_4_code 3 = .ok (.if_icmp .lt 9, 3) := by decide +kernel
theorem own_d4_6 : decode method_4_code 6 = .ok (.iload_n 1, 1) := by decide +kernel
theorem own_d4_7 : decode method_4_code 7 = .ok (.iload 6, 2) := by decide +kernel
theorem own_d4_9 : decode method_4_code 9 = .ok (.if_icmp .lt 9, 3) := by decide +kernel
theorem own_d4_12 : decode method_4_code 12 = .ok (.iconst 0, 1) := by decide +kernel
theorem own_d4_13 : decode method_4_code 13 = .ok (.istore 8, 2) := by decide +kernel
theorem own_d4_15 : decode method_4_code 15 = .ok (.goto 45, 3) := by decide +kernel
theorem own_d4_18 : decode method_4_code 18 = .ok (.iload 7, 2) := by decide +kernel
theorem own_d4_20 : decode method_4_code 20 = .ok (.ifCond .eq 16, 3) := by decide +kernel
theorem own_d4_23 : decode method_4_code 23 = .ok (.iload_n 1, 1) := by decide +kernel
theorem own_d4_24 : decode method_4_code 24 = .ok (.iload 5, 2) := by decide +kernel
theorem own_d4_26 : decode method_4_code 26 = .ok (.if_icmp .ne 10, 3) := by decide +kernel
theorem own_d4_29 : decode method_4_code 29 = .ok (.bipush 45, 2) := by decide +kernel
theorem own_d4_31 : decode method_4_code 31 = .ok (.istore 8, 2) := by decide +kernel
theorem own_d4_33 : decode method_4_code 33 = .ok (.goto 27, 3) := by decide +kernel
theorem own_d4_36 : decode method_4_code 36 = .ok (.bipush 48, 2) := by decide +kernel
theorem own_d4_38 : decode method_4_code 38 = .ok (.lload_n 2, 1) := by decide +kernel
theorem own_d4_39 : decode method_4_code 39 = .ok (.aload 4, 2) := by decide +kernel
theorem own_d4_41 : decode method_4_code 41 = .ok (.iload 6, 2) := by decide +kernel
theorem own_d4_43 : decode method_4_code 43 = .ok (.iconst 1, 1) := by decide +kernel
theorem own_d4_44 : decode method_4_code 44 = .ok (.isub, 1) := by decide +kernel
theorem own_d4_45 : decode method_4_code 45 = .ok (.iload_n 1, 1) := by decide +kernel
theorem own_d4_46 : decode method_4_code 46 = .ok (.isub, 1) := by decide +kernel
theorem own_d4_47 : decode method_4_code 47 = .ok (.laload, 1) := by decide +kernel
theorem own_d4_48 : decode method_4_code 48 = .ok (.ldiv, 1) := by decide +kernel
theorem own_d4_49 : decode method_4_code 49 = .ok (.ldc2_w 7, 3) := by decide +kernel
theorem own_d4_52 : decode method_4_code 52 = .ok (.lrem, 1) := by decide +kernel
theorem own_d4_53 : decode method_4_code 53 = .ok (.invokestatic 59, 3) := by decide +kernel
theorem own_d4_56 : decode method_4_code 56 = .ok (.l2i, 1) := by decide +kernel
theorem own_d4_57 : decode method_4_code 57 = .ok (.iadd, 1) := by decide +kernel
theorem own_d4_58 : decode method_4_code 58 = .ok (.istore 8, 2) := by decide +kernel
theorem own_d4_60 : decode method_4_code 60 = .ok (.aload_n 0, 1) := by decide +kernel
theorem own_d4_61 : decode method_4_code 61 = .ok (.iload_n 1, 1) := by decide +kernel
theorem own_d4_62 : decode method_4_code 62 = .ok (.baload, 1) := by decide +kernel
theorem own_d4_63 : decode method_4_code 63 = .ok (.iload 8, 2) := by decide +kernel
theorem own_d4_65 : decode method_4_code 65 = .ok (.if_icmp .ne 7, 3) := by decide +kernel
theorem own_d4_68 : decode method_4_code 68 = .ok (.iconst 1, 1) := by decide +kernel
theorem own_d4_69 : decode method_4_code 69 = .ok (.goto 4, 3) := by decide +kernel
theorem own_d4_72 : decode method_4_code 72 = .ok (.iconst 0, 1) := by decide +kernel
theorem own_d4_73 : decode method_4_code 73 = .ok (.ireturn, 1) := by decide +kernel
theorem own_pn4 : plainName "com/example/fold/fold/DecimalPutPinLaw" = true := by first | (simp [plainName, overriddenIn]; done) | decide +kernel
theorem own_pd1 : parseMethodDescriptor "(J)J" = some ⟨[.long], some .long⟩ := by decide +kernel
set_option maxRecDepth 65536 in
set_option maxHeartbeats 40000000 in
theorem own_cok (l : Launch) (Z : State) (a0 : Array Value) (hw : ∀ d ∈ tables_1, d.before a0 Z = true) (a : Addr) (i : Int32) (u : Int64) (pa : Addr) (at_ en ng : Int32) (h0 : Heap) (n0 : Nat) (bs : List Int32) (d : Int32) (Va : BV Z h0 a bs) (Vp : LV Z h0 pa own_pows) (hPL : own_PL u d) (hat : 0 ≤ at_.toInt ∧ at_.toInt ≤ 3) (hen : en = at_ + own_ln u d) (hng : ng = if u < 0 then 1 else 0) (hi : 0 ≤ i.toInt ∧ i.toInt < bs.length) (hwt : bs.getD i.toInt.toNat 0 = own_w u at_ en i) :
    Con l Z (⟨"com/example/fold/fold/DecimalPutPinLaw", "ok", "([BIJ[JIIZ)Z"⟩ : MethodName) method_4_code 9 (some .boolean) ({ frames := 1, cells := 0, slots := 0, locals := 24 } : Room) n0 h0 #[(.ref a), (.int i), (.long u), (.ref pa), (.int at_), (.int en), (.int ng)] (fun v h => v = some (.int 1) ∧ h = h0) := by
  refine Con.intro (plainFor_of_name own_pn4) (Ls := #[.val (.ref a), .val (.int i), .val (.long u), .second, .val (.ref pa), .val (.int at_), .val (.int en), .val (.int ng), .unset]) (fun m => by first | (simp [entryFrame, mkF, argsToLocals, Value.category]; done) | rfl) ?_
  intro p e s m below meth c s₁ hx hby hml hown hnm hret hlk hZ S0
  have A0 := S0.here
  have J60_1 : ∀ (T1 : State), ∀ (wt : Int32), St p l e ({ frames := 1, cells := 0, slots := 0, locals := 24 } : Room) s m #[(.ref a), (.int i), (.long u), (.ref pa), (.int at_), (.int en), (.int ng)] below meth c n0 T1 h0 0 0 → (wt = own_w u at_ en i) → Done p e below (OEnd s ({ frames := 1, cells := 0, slots := 0, locals := 24 } : Room) n0 (fun v h => v = some (.int 1) ∧ h = h0)) (T1.setTop (mkF m 60 #[.val (.ref a), .val (.int i), .val (.long u), .second, .val (.ref pa), .val (.int at_), .val (.int en), .val (.int ng), .val (.int wt)] [])) := by
    intro T1 wt S1 hw60
    have A1 := S1.here
    refine k_aloadN A1 hx (hb hby own_d4_60) rfl rfl (pc' := 61) rfl ?_
    refine k_iloadN A1 hx (hb hby own_d4_61) rfl (pc' := 62) rfl ?_
    refine k_baload S1 hx hZ Va (hb hby own_d4_62) hi.1 hi.2 rfl (pc' := 63) rfl ?_
    refine k_iload A1 hx (hb hby own_d4_63) rfl (pc' := 65) rfl ?_
    refine k_icmp_ne A1 hx (hb hby own_d4_65) (pcY := 72) (by decide) (pc' := 68) rfl (fun hc65 => absurd (hwt.trans hw60.symm) hc65) (fun hc65 => ?_)
    refine k_iconst A1 hx (hb hby own_d4_68) (v := 1) rfl (pc' := 69) rfl ?_
    refine k_goto A1 hx (hb hby own_d4_69) (pc' := 73) (by decide) ?_
    refine k_ret_nar S1 hx (t := .boolean) hret (by simp) hlk (hb hby own_d4_73) (z' := (1 : Int32)) rfl (by decide) (by decide) ?_
    exact ⟨rfl, rfl⟩
  refine k_iloadN A0 hx (hb hby own_d4_0) rfl (pc' := 1) rfl ?_
  refine k_iload A0 hx (hb hby own_d4_1) rfl (pc' := 3) rfl ?_
  refine k_icmp_lt A0 hx (hb hby own_d4_3) (pcY := 12) (by decide) (pc' := 6) rfl (fun hc3 => ?_) (fun hc3 => ?_)
  · refine k_iconst A0 hx (hb hby own_d4_12) (v := 0) rfl (pc' := 13) rfl ?_
    refine k_istore A0 hx (hb hby own_d4_13) (Ls' := #[.val (.ref a), .val (.int i), .val (.long u), .second, .val (.ref pa), .val (.int at_), .val (.int en), .val (.int ng), .val (.int (0 : Int32))]) rfl (pc' := 15) rfl ?_
    refine k_goto A0 hx (hb hby own_d4_15) (pc' := 60) (by decide) ?_
    exact J60_1 s₁ (0 : Int32) (S0.more (by decide) (by decide)) (if_pos (Or.inl hc3)).symm
  · refine k_iloadN A0 hx (hb hby own_d4_6) rfl (pc' := 7) rfl ?_
    refine k_iload A0 hx (hb hby own_d4_7) rfl (pc' := 9) rfl ?_
    refine k_icmp_lt A0 hx (hb hby own_d4_9) (pcY := 18) (by decide) (pc' := 12) rfl (fun hc9 => ?_) (fun hc9 => ?_)
    · refine k_iload A0 hx (hb hby own_d4_18) rfl (pc' := 20) rfl ?_
      refine k_if_eq A0 hx (hb hby own_d4_20) (pcY := 36) (by decide) (pc' := 23) rfl (fun hc20 => ?_) (fun hc20 => ?_)
      · have hkb := own_okb hPL hat hen hng hi.1 hc3 hc9 (Or.inl hc20)
        refine k_bipush A0 hx (hb hby own_d4_36) (v := 48) rfl (pc' := 38) rfl ?_
        refine k_lloadN A0 hx (hb hby own_d4_38) rfl (pc' := 39) rfl ?_
        refine k_aload A0 hx (hb hby own_d4_39) rfl rfl (pc' := 41) rfl ?_
        refine k_iload A0 hx (hb hby own_d4_41) rfl (pc' := 43) rfl ?_
        refine k_iconst A0 hx (hb hby own_d4_43) (v := 1) rfl (pc' := 44) rfl ?_
        refine k_isub A0 hx (hb hby own_d4_44) (pc' := 45) rfl ?_
        refine k_iloadN A0 hx (hb hby own_d4_45) rfl (pc' := 46) rfl ?_
        refine k_isub A0 hx (hb hby own_d4_46) (pc' := 47) rfl ?_
        refine k_laload S0 hx hZ Vp (hb hby own_d4_47) hkb.1 (by show (en - 1 - i).toInt < 19; omega) rfl (pc' := 48) rfl ?_
        refine k_ldiv A0 hx (hb hby own_d4_48) (own_pownz _ hkb.1 hkb.2) (pc' := 49) rfl ?_
        refine k_ldc2Long S0 hx hZ hown (hw _ (List.mem_of_getElem? (i := 1) rfl)) (hb hby own_d4_49) (pc' := 52) rfl ?_
        refine k_lrem A0 hx (hb hby own_d4_52) (by decide) (pc' := 53) rfl ?_
        refine k_call_static S0 hx hZ hown (hw _ (List.mem_of_getElem? (i := 37) rfl)) (hw _ (List.mem_of_getElem? (i := 38) rfl)) (hw _ (List.mem_of_getElem? (i := 39) rfl)) (hw _ (List.mem_of_getElem? (i := 40) rfl)) (by decide) (own_cabs l Z a0 hw ((u / (own_pows.getD ((en - (1 : Int32)) - i).toInt.toNat 0)) % (10 : Int64)) h0 n0) 1 (argsL := [(.long ((u / (own_pows.getD ((en - (1 : Int32)) - i).toInt.toNat 0)) % (10 : Int64)))]) (rest := [(.int (48 : Int32))]) (by decide) (by decide) (by rw [hml]; rfl) (lenOf own_pd1 rfl) rfl rfl (Nat.le_refl 1) (hb hby own_d4_53) (pc' := 56) rfl (by decide) (by decide) ?_
        rintro v2 T2 h2 ⟨rfl, q2⟩ S2
        rw [q2] at S2
        have A2 := S2.here
        show Done p e below _ (T2.setTop (mkF m 56 #[.val (.ref a), .val (.int i), .val (.long u), .second, .val (.ref pa), .val (.int at_), .val (.int en), .val (.int ng), .unset] [(.long (own_abs ((u / (own_pows.getD ((en - (1 : Int32)) - i).toInt.toNat 0)) % (10 : Int64)))), (.int (48 : Int32))]))
        refine k_l2i A2 hx (hb hby own_d4_56) (pc' := 57) rfl ?_
        refine k_iadd A2 hx (hb hby own_d4_57) (pc' := 58) rfl ?_
        refine k_istore A2 hx (hb hby own_d4_58) (Ls' := #[.val (.ref a), .val (.int i), .val (.long u), .second, .val (.ref pa), .val (.int at_), .val (.int en), .val (.int ng), .val (.int ((48 : Int32) + (own_abs ((u / (own_pows.getD ((en - (1 : Int32)) - i).toInt.toNat 0)) % (10 : Int64))).toInt32))]) rfl (pc' := 60) rfl ?_
        exact J60_1 T2 ((48 : Int32) + (own_abs ((u / (own_pows.getD ((en - (1 : Int32)) - i).toInt.toNat 0)) % (10 : Int64))).toInt32) (S2.more (by decide) (by decide)) ((if_neg (fun z => z.elim hc3 (fun y => y hc9))).trans (if_neg (fun z => own_ngv0 hng hc20 z.1))).symm
      · refine k_iloadN A0 hx (hb hby own_d4_23) rfl (pc' := 24) rfl ?_
        refine k_iload A0 hx (hb hby own_d4_24) rfl (pc' := 26) rfl ?_
        refine k_icmp_ne A0 hx (hb hby own_d4_26) (pcY := 36) (by decide) (pc' := 29) rfl (fun hc26 => ?_) (fun hc26 => ?_)
        · have hkb := own_okb hPL hat hen hng hi.1 hc3 hc9 (Or.inr hc26)
          refine k_bipush A0 hx (hb hby own_d4_36) (v := 48) rfl (pc' := 38) rfl ?_
          refine k_lloadN A0 hx (hb hby own_d4_38) rfl (pc' := 39) rfl ?_
          refine k_aload A0 hx (hb hby own_d4_39) rfl rfl (pc' := 41) rfl ?_
          refine k_iload A0 hx (hb hby own_d4_41) rfl (pc' := 43) rfl ?_
          refine k_iconst A0 hx (hb hby own_d4_43) (v := 1) rfl (pc' := 44) rfl ?_
          refine k_isub A0 hx (hb hby own_d4_44) (pc' := 45) rfl ?_
          refine k_iloadN A0 hx (hb hby own_d4_45) rfl (pc' := 46) rfl ?_
          refine k_isub A0 hx (hb hby own_d4_46) (pc' := 47) rfl ?_
          refine k_laload S0 hx hZ Vp (hb hby own_d4_47) hkb.1 (by show (en - 1 - i).toInt < 19; omega) rfl (pc' := 48) rfl ?_
          refine k_ldiv A0 hx (hb hby own_d4_48) (own_pownz _ hkb.1 hkb.2) (pc' := 49) rfl ?_
          refine k_ldc2Long S0 hx hZ hown (hw _ (List.mem_of_getElem? (i := 1) rfl)) (hb hby own_d4_49) (pc' := 52) rfl ?_
          refine k_lrem A0 hx (hb hby own_d4_52) (by decide) (pc' := 53) rfl ?_
          refine k_call_static S0 hx hZ hown (hw _ (List.mem_of_getElem? (i := 37) rfl)) (hw _ (List.mem_of_getElem? (i := 38) rfl)) (hw _ (List.mem_of_getElem? (i := 39) rfl)) (hw _ (List.mem_of_getElem? (i := 40) rfl)) (by decide) (own_cabs l Z a0 hw ((u / (own_pows.getD ((en - (1 : Int32)) - i).toInt.toNat 0)) % (10 : Int64)) h0 n0) 1 (argsL := [(.long ((u / (own_pows.getD ((en - (1 : Int32)) - i).toInt.toNat 0)) % (10 : Int64)))]) (rest := [(.int (48 : Int32))]) (by decide) (by decide) (by rw [hml]; rfl) (lenOf own_pd1 rfl) rfl rfl (Nat.le_refl 1) (hb hby own_d4_53) (pc' := 56) rfl (by decide) (by decide) ?_
          rintro v3 T3 h3 ⟨rfl, q3⟩ S3
          rw [q3] at S3
          have A3 := S3.here
          show Done p e below _ (T3.setTop (mkF m 56 #[.val (.ref a), .val (.int i), .val (.long u), .second, .val (.ref pa), .val (.int at_), .val (.int en), .val (.int ng), .unset] [(.long (own_abs ((u / (own_pows.getD ((en - (1 : Int32)) - i).toInt.toNat 0)) % (10 : Int64)))), (.int (48 : Int32))]))
          refine k_l2i A3 hx (hb hby own_d4_56) (pc' := 57) rfl ?_
          refine k_iadd A3 hx (hb hby own_d4_57) (pc' := 58) rfl ?_
          refine k_istore A3 hx (hb hby own_d4_58) (Ls' := #[.val (.ref a), .val (.int i), .val (.long u), .second, .val (.ref pa), .val (.int at_), .val (.int en), .val (.int ng), .val (.int ((48 : Int32) + (own_abs ((u / (own_pows.getD ((en - (1 : Int32)) - i).toInt.toNat 0)) % (10 : Int64))).toInt32))]) rfl (pc' := 60) rfl ?_
          exact J60_1 T3 ((48 : Int32) + (own_abs ((u / (own_pows.getD ((en - (1 : Int32)) - i).toInt.toNat 0)) % (10 : Int64))).toInt32) (S3.more (by decide) (by decide)) ((if_neg (fun z => z.elim hc3 (fun y => y hc9))).trans (if_neg (fun z => hc26 z.2))).symm
        · refine k_bipush A0 hx (hb hby own_d4_29) (v := 45) rfl (pc' := 31) rfl ?_
          refine k_istore A0 hx (hb hby own_d4_31) (Ls' := #[.val (.ref a), .val (.int i), .val (.long u), .second, .val (.ref pa), .val (.int at_), .val (.int en), .val (.int ng), .val (.int (45 : Int32))]) rfl (pc' := 33) rfl ?_
          refine k_goto A0 hx (hb hby own_d4_33) (pc' := 60) (by decide) ?_
          exact J60_1 s₁ (45 : Int32) (S0.more (by decide) (by decide)) ((if_neg (fun z => z.elim hc3 (fun y => y hc9))).trans (if_pos ⟨own_ngv hng hc20, hc26⟩)).symm
    · refine k_iconst A0 hx (hb hby own_d4_12) (v := 0) rfl (pc' := 13) rfl ?_
      refine k_istore A0 hx (hb hby own_d4_13) (Ls' := #[.val (.ref a), .val (.int i), .val (.long u), .second, .val (.ref pa), .val (.int at_), .val (.int en), .val (.int ng), .val (.int (0 : Int32))]) rfl (pc' := 15) rfl ?_
      refine k_goto A0 hx (hb hby own_d4_15) (pc' := 60) (by decide) ?_
      exact J60_1 s₁ (0 : Int32) (S0.more (by decide) (by decide)) (if_pos (Or.inr hc9)).symm
theorem own_pn0 : plainName "com/example/fold/fold/DecimalPutPinLaw" = true := by first | (simp [plainName, overriddenIn]; done) | decide +kernel
theorem own_pd2 : parseMethodDescriptor "(J[JI)I" = some ⟨[.long, (.array .long), .int], some .int⟩ := by decide +kernel
theorem own_pd3 : parseMethodDescriptor "(J[BI)I" = some ⟨[.long, (.array .byte), .int], some .int⟩ := by decide +kernel
theorem own_pd4 : parseMethodDescriptor "([BIJ[JIIZ)Z" = some ⟨[(.array .byte), .int, .long, (.array .long), .int, .int, .boolean], some .boolean⟩ := by decide +kernel
set_option maxRecDepth 65536 in
set_option maxHeartbeats 40000000 in
theorem own_law (l : Launch) (Z : State) (a0 : Array Value) (hw : ∀ d ∈ tables_1, d.before a0 Z = true) (x0 : Int64) (sh of : Int32) (h0 : Heap) (n0 : Nat) (Z0 : n0 ≤ h0.size) :
    Con l Z x code maxLocals ret room_1 n0 h0 #[(.long x0), (.int sh), (.int of)] (fun v h => v = some (.int 1)) := by
  refine Con.intro (plainFor_of_name own_pn0) (Ls := #[.val (.long x0), .second, .val (.int sh), .val (.int of), .unset, .unset, .unset, .unset, .unset, .unset, .unset, .unset, .unset, .unset, .unset]) (fun m => by first | (simp [entryFrame, mkF, argsToLocals, Value.category, maxLocals]; done) | rfl) ?_
  intro p e s m below meth c s₁ hx hby hml hown hnm hret hlk hZ S0
  have A0 := S0.here
  have K1 := Keep.refl h0 []
  refine k_lloadN A0 hx (hb hby at_0) rfl (pc' := 1) rfl ?_
  refine k_iloadN A0 hx (hb hby at_1) rfl (pc' := 2) rfl ?_
  refine k_bipush A0 hx (hb hby at_2) (v := 63) rfl (pc' := 4) rfl ?_
  refine k_iand A0 hx (hb hby at_4) (pc' := 5) rfl ?_
  refine k_lshr A0 hx (hb hby at_5) (pc' := 6) rfl ?_
  generalize q_n : (x0 >>> ((sh &&& (63 : Int32)) &&& 0x3f).toInt64) = n
  refine k_lstore A0 hx (hb hby at_6) (Ls' := #[.val (.long x0), .second, .val (.int sh), .val (.int of), .val (.long n), .second, .unset, .unset, .unset, .unset, .unset, .unset, .unset, .unset, .unset]) rfl (pc' := 8) rfl ?_
  refine k_iloadN A0 hx (hb hby at_8) rfl (pc' := 9) rfl ?_
  refine k_iconst A0 hx (hb hby at_9) (v := 3) rfl (pc' := 10) rfl ?_
  refine k_iand A0 hx (hb hby at_10) (pc' := 11) rfl ?_
  have hat := own_at3 of
  generalize q_at : (of &&& (3 : Int32)) = at_ at hat ⊢
  refine k_istore A0 hx (hb hby at_11) (Ls' := #[.val (.long x0), .second, .val (.int sh), .val (.int of), .val (.long n), .second, .val (.int at_), .unset, .unset, .unset, .unset, .unset, .unset, .unset, .unset]) rfl (pc' := 13) rfl ?_
  refine k_bipush A0 hx (hb hby at_13) (v := 19) rfl (pc' := 15) rfl ?_
  refine k_newlong S0 hx hZ (hw _ (List.mem_of_getElem? (i := 0) rfl)) (hb hby at_15) (by decide) 19 (by decide) (by decide) (by decide) (by decide) (pc' := 17) rfl ?_
  intro T2 h2 b2 g2 E2 V2 S2
  have bo3 : h0.size ≤ b2 := Nat.le_trans K1.1 (Nat.le_of_eq g2.symm)
  have ge3 : n0 ≤ b2 := Nat.le_trans Z0 bo3
  have A2 := S2.here
  have K4 := K1.ext E2
  have V2 : LV Z h2 b2 [(0 : Int64), (0 : Int64), (0 : Int64), (0 : Int64), (0 : Int64), (0 : Int64), (0 : Int64), (0 : Int64), (0 : Int64), (0 : Int64), (0 : Int64), (0 : Int64), (0 : Int64), (0 : Int64), (0 : Int64), (0 : Int64), (0 : Int64), (0 : Int64), (0 : Int64)] := V2
  refine k_dup A2 hx (hb hby at_17) rfl (pc' := 18) rfl ?_
  refine k_iconst A2 hx (hb hby at_18) (v := 0) rfl (pc' := 19) rfl ?_
  refine k_lconst A2 hx (hb hby at_19) (v := 1) rfl (pc' := 20) rfl ?_
  refine k_lastore S2 hx hZ V2 (hb hby at_20) (by decide) (by first | decide | (simp; done)) ge3 (pc' := 21) rfl ?_
  intro T5 h5 W5 V5 S5
  have A5 := S5.here
  have K7 := K4.wr W5 (Or.inr bo3)
  have V5 : LV Z h5 b2 [(1 : Int64), (0 : Int64), (0 : Int64), (0 : Int64), (0 : Int64), (0 : Int64), (0 : Int64), (0 : Int64), (0 : Int64), (0 : Int64), (0 : Int64), (0 : Int64), (0 : Int64), (0 : Int64), (0 : Int64), (0 : Int64), (0 : Int64), (0 : Int64), (0 : Int64)] := V5
  refine k_dup A5 hx (hb hby at_21) rfl (pc' := 22) rfl ?_
  refine k_iconst A5 hx (hb hby at_22) (v := 1) rfl (pc' := 23) rfl ?_
  refine k_ldc2Long S5 hx hZ hown (hw _ (List.mem_of_getElem? (i := 1) rfl)) (hb hby at_23) (pc' := 26) rfl ?_
  refine k_lastore S5 hx hZ V5 (hb hby at_26) (by decide) (by first | decide | (simp; done)) ge3 (pc' := 27) rfl ?_
  intro T8 h8 W8 V8 S8
  have A8 := S8.here
  have K10 := K7.wr W8 (Or.inr bo3)
  have V8 : LV Z h8 b2 [(1 : Int64), (10 : Int64), (0 : Int64), (0 : Int64), (0 : Int64), (0 : Int64), (0 : Int64), (0 : Int64), (0 : Int64), (0 : Int64), (0 : Int64), (0 : Int64), (0 : Int64), (0 : Int64), (0 : Int64), (0 : Int64), (0 : Int64), (0 : Int64), (0 : Int64)] := V8
  refine k_dup A8 hx (hb hby at_27) rfl (pc' := 28) rfl ?_
  refine k_iconst A8 hx (hb hby at_28) (v := 2) rfl (pc' := 29) rfl ?_
  refine k_ldc2Long S8 hx hZ hown (hw _ (List.mem_of_getElem? (i := 2) rfl)) (hb hby at_29) (pc' := 32) rfl ?_
  refine k_lastore S8 hx hZ V8 (hb hby at_32) (by decide) (by first | decide | (simp; done)) ge3 (pc' := 33) rfl ?_
  intro T11 h11 W11 V11 S11
  have A11 := S11.here
  have K13 := K10.wr W11 (Or.inr bo3)
  have V11 : LV Z h11 b2 [(1 : Int64), (10 : Int64), (100 : Int64), (0 : Int64), (0 : Int64), (0 : Int64), (0 : Int64), (0 : Int64), (0 : Int64), (0 : Int64), (0 : Int64), (0 : Int64), (0 : Int64), (0 : Int64), (0 : Int64), (0 : Int64), (0 : Int64), (0 : Int64), (0 : Int64)] := V11
  refine k_dup A11 hx (hb hby at_33) rfl (pc' := 34) rfl ?_
  refine k_iconst A11 hx (hb hby at_34) (v := 3) rfl (pc' := 35) rfl ?_
  refine k_ldc2Long S11 hx hZ hown (hw _ (List.mem_of_getElem? (i := 3) rfl)) (hb hby at_35) (pc' := 38) rfl ?_
  refine k_lastore S11 hx hZ V11 (hb hby at_38) (by decide) (by first | decide | (simp; done)) ge3 (pc' := 39) rfl ?_
  intro T14 h14 W14 V14 S14
  have A14 := S14.here
  have K16 := K13.wr W14 (Or.inr bo3)
  have V14 : LV Z h14 b2 [(1 : Int64), (10 : Int64), (100 : Int64), (1000 : Int64), (0 : Int64), (0 : Int64), (0 : Int64), (0 : Int64), (0 : Int64), (0 : Int64), (0 : Int64), (0 : Int64), (0 : Int64), (0 : Int64), (0 : Int64), (0 : Int64), (0 : Int64), (0 : Int64), (0 : Int64)] := V14
  refine k_dup A14 hx (hb hby at_39) rfl (pc' := 40) rfl ?_
  refine k_iconst A14 hx (hb hby at_40) (v := 4) rfl (pc' := 41) rfl ?_
  refine k_ldc2Long S14 hx hZ hown (hw _ (List.mem_of_getElem? (i := 4) rfl)) (hb hby at_41) (pc' := 44) rfl ?_
  refine k_lastore S14 hx hZ V14 (hb hby at_44) (by decide) (by first | decide | (simp; done)) ge3 (pc' := 45) rfl ?_
  intro T17 h17 W17 V17 S17
  have A17 := S17.here
  have K19 := K16.wr W17 (Or.inr bo3)
  have V17 : LV Z h17 b2 [(1 : Int64), (10 : Int64), (100 : Int64), (1000 : Int64), (10000 : Int64), (0 : Int64), (0 : Int64), (0 : Int64), (0 : Int64), (0 : Int64), (0 : Int64), (0 : Int64), (0 : Int64), (0 : Int64), (0 : Int64), (0 : Int64), (0 : Int64), (0 : Int64), (0 : Int64)] := V17
  refine k_dup A17 hx (hb hby at_45) rfl (pc' := 46) rfl ?_
  refine k_iconst A17 hx (hb hby at_46) (v := 5) rfl (pc' := 47) rfl ?_
  refine k_ldc2Long S17 hx hZ hown (hw _ (List.mem_of_getElem? (i := 5) rfl)) (hb hby at_47) (pc' := 50) rfl ?_
  refine k_lastore S17 hx hZ V17 (hb hby at_50) (by decide) (by first | decide | (simp; done)) ge3 (pc' := 51) rfl ?_
  intro T20 h20 W20 V20 S20
  have A20 := S20.here
  have K22 := K19.wr W20 (Or.inr bo3)
  have V20 : LV Z h20 b2 [(1 : Int64), (10 : Int64), (100 : Int64), (1000 : Int64), (10000 : Int64), (100000 : Int64), (0 : Int64), (0 : Int64), (0 : Int64), (0 : Int64), (0 : Int64), (0 : Int64), (0 : Int64), (0 : Int64), (0 : Int64), (0 : Int64), (0 : Int64), (0 : Int64), (0 : Int64)] := V20
  refine k_dup A20 hx (hb hby at_51) rfl (pc' := 52) rfl ?_
  refine k_bipush A20 hx (hb hby at_52) (v := 6) rfl (pc' := 54) rfl ?_
  refine k_ldc2Long S20 hx hZ hown (hw _ (List.mem_of_getElem? (i := 6) rfl)) (hb hby at_54) (pc' := 57) rfl ?_
  refine k_lastore S20 hx hZ V20 (hb hby at_57) (by decide) (by first | decide | (simp; done)) ge3 (pc' := 58) rfl ?_
  intro T23 h23 W23 V23 S23
  have A23 := S23.here
  have K25 := K22.wr W23 (Or.inr bo3)
  have V23 : LV Z h23 b2 [(1 : Int64), (10 : Int64), (100 : Int64), (1000 : Int64), (10000 : Int64), (100000 : Int64), (1000000 : Int64), (0 : Int64), (0 : Int64), (0 : Int64), (0 : Int64), (0 : Int64), (0 : Int64), (0 : Int64), (0 : Int64), (0 : Int64), (0 : Int64), (0 : Int64), (0 : Int64)] := V23
  refine k_dup A23 hx (hb hby at_58) rfl (pc' := 59) rfl ?_
  refine k_bipush A23 hx (hb hby at_59) (v := 7) rfl (pc' := 61) rfl ?_
  refine k_ldc2Long S23 hx hZ hown (hw _ (List.mem_of_getElem? (i := 7) rfl)) (hb hby at_61) (pc' := 64) rfl ?_
  refine k_lastore S23 hx hZ V23 (hb hby at_64) (by decide) (by first | decide | (simp; done)) ge3 (pc' := 65) rfl ?_
  intro T26 h26 W26 V26 S26
  have A26 := S26.here
  have K28 := K25.wr W26 (Or.inr bo3)
  have V26 : LV Z h26 b2 [(1 : Int64), (10 : Int64), (100 : Int64), (1000 : Int64), (10000 : Int64), (100000 : Int64), (1000000 : Int64), (10000000 : Int64), (0 : Int64), (0 : Int64), (0 : Int64), (0 : Int64), (0 : Int64), (0 : Int64), (0 : Int64), (0 : Int64), (0 : Int64), (0 : Int64), (0 : Int64)] := V26
  refine k_dup A26 hx (hb hby at_65) rfl (pc' := 66) rfl ?_
  refine k_bipush A26 hx (hb hby at_66) (v := 8) rfl (pc' := 68) rfl ?_
  refine k_ldc2Long S26 hx hZ hown (hw _ (List.mem_of_getElem? (i := 8) rfl)) (hb hby at_68) (pc' := 71) rfl ?_
  refine k_lastore S26 hx hZ V26 (hb hby at_71) (by decide) (by first | decide | (simp; done)) ge3 (pc' := 72) rfl ?_
  intro T29 h29 W29 V29 S29
  have A29 := S29.here
  have K31 := K28.wr W29 (Or.inr bo3)
  have V29 : LV Z h29 b2 [(1 : Int64), (10 : Int64), (100 : Int64), (1000 : Int64), (10000 : Int64), (100000 : Int64), (1000000 : Int64), (10000000 : Int64), (100000000 : Int64), (0 : Int64), (0 : Int64), (0 : Int64), (0 : Int64), (0 : Int64), (0 : Int64), (0 : Int64), (0 : Int64), (0 : Int64), (0 : Int64)] := V29
  refine k_dup A29 hx (hb hby at_72) rfl (pc' := 73) rfl ?_
  refine k_bipush A29 hx (hb hby at_73) (v := 9) rfl (pc' := 75) rfl ?_
  refine k_ldc2Long S29 hx hZ hown (hw _ (List.mem_of_getElem? (i := 9) rfl)) (hb hby at_75) (pc' := 78) rfl ?_
  refine k_lastore S29 hx hZ V29 (hb hby at_78) (by decide) (by first | decide | (simp; done)) ge3 (pc' := 79) rfl ?_
  intro T32 h32 W32 V32 S32
  have A32 := S32.here
  have K34 := K31.wr W32 (Or.inr bo3)
  have V32 : LV Z h32 b2 [(1 : Int64), (10 : Int64), (100 : Int64), (1000 : Int64), (10000 : Int64), (100000 : Int64), (1000000 : Int64), (10000000 : Int64), (100000000 : Int64), (1000000000 : Int64), (0 : Int64), (0 : Int64), (0 : Int64), (0 : Int64), (0 : Int64), (0 : Int64), (0 : Int64), (0 : Int64), (0 : Int64)] := V32
  refine k_dup A32 hx (hb hby at_79) rfl (pc' := 80) rfl ?_
  refine k_bipush A32 hx (hb hby at_80) (v := 10) rfl (pc' := 82) rfl ?_
  refine k_ldc2Long S32 hx hZ hown (hw _ (List.mem_of_getElem? (i := 10) rfl)) (hb hby at_82) (pc' := 85) rfl ?_
  refine k_lastore S32 hx hZ V32 (hb hby at_85) (by decide) (by first | decide | (simp; done)) ge3 (pc' := 86) rfl ?_
  intro T35 h35 W35 V35 S35
  have A35 := S35.here
  have K37 := K34.wr W35 (Or.inr bo3)
  have V35 : LV Z h35 b2 [(1 : Int64), (10 : Int64), (100 : Int64), (1000 : Int64), (10000 : Int64), (100000 : Int64), (1000000 : Int64), (10000000 : Int64), (100000000 : Int64), (1000000000 : Int64), (10000000000 : Int64), (0 : Int64), (0 : Int64), (0 : Int64), (0 : Int64), (0 : Int64), (0 : Int64), (0 : Int64), (0 : Int64)] := V35
  refine k_dup A35 hx (hb hby at_86) rfl (pc' := 87) rfl ?_
  refine k_bipush A35 hx (hb hby at_87) (v := 11) rfl (pc' := 89) rfl ?_
  refine k_ldc2Long S35 hx hZ hown (hw _ (List.mem_of_getElem? (i := 11) rfl)) (hb hby at_89) (pc' := 92) rfl ?_
  refine k_lastore S35 hx hZ V35 (hb hby at_92) (by decide) (by first | decide | (simp; done)) ge3 (pc' := 93) rfl ?_
  intro T38 h38 W38 V38 S38
  have A38 := S38.here
  have K40 := K37.wr W38 (Or.inr bo3)
  have V38 : LV Z h38 b2 [(1 : Int64), (10 : Int64), (100 : Int64), (1000 : Int64), (10000 : Int64), (100000 : Int64), (1000000 : Int64), (10000000 : Int64), (100000000 : Int64), (1000000000 : Int64), (10000000000 : Int64), (100000000000 : Int64), (0 : Int64), (0 : Int64), (0 : Int64), (0 : Int64), (0 : Int64), (0 : Int64), (0 : Int64)] := V38
  refine k_dup A38 hx (hb hby at_93) rfl (pc' := 94) rfl ?_
  refine k_bipush A38 hx (hb hby at_94) (v := 12) rfl (pc' := 96) rfl ?_
  refine k_ldc2Long S38 hx hZ hown (hw _ (List.mem_of_getElem? (i := 12) rfl)) (hb hby at_96) (pc' := 99) rfl ?_
  refine k_lastore S38 hx hZ V38 (hb hby at_99) (by decide) (by first | decide | (simp; done)) ge3 (pc' := 100) rfl ?_
  intro T41 h41 W41 V41 S41
  have A41 := S41.here
  have K43 := K40.wr W41 (Or.inr bo3)
  have V41 : LV Z h41 b2 [(1 : Int64), (10 : Int64), (100 : Int64), (1000 : Int64), (10000 : Int64), (100000 : Int64), (1000000 : Int64), (10000000 : Int64), (100000000 : Int64), (1000000000 : Int64), (10000000000 : Int64), (100000000000 : Int64), (1000000000000 : Int64), (0 : Int64), (0 : Int64), (0 : Int64), (0 : Int64), (0 : Int64), (0 : Int64)] := V41
  refine k_dup A41 hx (hb hby at_100) rfl (pc' := 101) rfl ?_
  refine k_bipush A41 hx (hb hby at_101) (v := 13) rfl (pc' := 103) rfl ?_
  refine k_ldc2Long S41 hx hZ hown (hw _ (List.mem_of_getElem? (i := 13) rfl)) (hb hby at_103) (pc' := 106) rfl ?_
  refine k_lastore S41 hx hZ V41 (hb hby at_106) (by decide) (by first | decide | (simp; done)) ge3 (pc' := 107) rfl ?_
  intro T44 h44 W44 V44 S44
  have A44 := S44.here
  have K46 := K43.wr W44 (Or.inr bo3)
  have V44 : LV Z h44 b2 [(1 : Int64), (10 : Int64), (100 : Int64), (1000 : Int64), (10000 : Int64), (100000 : Int64), (1000000 : Int64), (10000000 : Int64), (100000000 : Int64), (1000000000 : Int64), (10000000000 : Int64), (100000000000 : Int64), (1000000000000 : Int64), (10000000000000 : Int64), (0 : Int64), (0 : Int64), (0 : Int64), (0 : Int64), (0 : Int64)] := V44
  refine k_dup A44 hx (hb hby at_107) rfl (pc' := 108) rfl ?_
  refine k_bipush A44 hx (hb hby at_108) (v := 14) rfl (pc' := 110) rfl ?_
  refine k_ldc2Long S44 hx hZ hown (hw _ (List.mem_of_getElem? (i := 14) rfl)) (hb hby at_110) (pc' := 113) rfl ?_
  refine k_lastore S44 hx hZ V44 (hb hby at_113) (by decide) (by first | decide | (simp; done)) ge3 (pc' := 114) rfl ?_
  intro T47 h47 W47 V47 S47
  have A47 := S47.here
  have K49 := K46.wr W47 (Or.inr bo3)
  have V47 : LV Z h47 b2 [(1 : Int64), (10 : Int64), (100 : Int64), (1000 : Int64), (10000 : Int64), (100000 : Int64), (1000000 : Int64), (10000000 : Int64), (100000000 : Int64), (1000000000 : Int64), (10000000000 : Int64), (100000000000 : Int64), (1000000000000 : Int64), (10000000000000 : Int64), (100000000000000 : Int64), (0 : Int64), (0 : Int64), (0 : Int64), (0 : Int64)] := V47
  refine k_dup A47 hx (hb hby at_114) rfl (pc' := 115) rfl ?_
  refine k_bipush A47 hx (hb hby at_115) (v := 15) rfl (pc' := 117) rfl ?_
  refine k_ldc2Long S47 hx hZ hown (hw _ (List.mem_of_getElem? (i := 15) rfl)) (hb hby at_117) (pc' := 120) rfl ?_
  refine k_lastore S47 hx hZ V47 (hb hby at_120) (by decide) (by first | decide | (simp; done)) ge3 (pc' := 121) rfl ?_
  intro T50 h50 W50 V50 S50
  have A50 := S50.here
  have K52 := K49.wr W50 (Or.inr bo3)
  have V50 : LV Z h50 b2 [(1 : Int64), (10 : Int64), (100 : Int64), (1000 : Int64), (10000 : Int64), (100000 : Int64), (1000000 : Int64), (10000000 : Int64), (100000000 : Int64), (1000000000 : Int64), (10000000000 : Int64), (100000000000 : Int64), (1000000000000 : Int64), (10000000000000 : Int64), (100000000000000 : Int64), (1000000000000000 : Int64), (0 : Int64), (0 : Int64), (0 : Int64)] := V50
  refine k_dup A50 hx (hb hby at_121) rfl (pc' := 122) rfl ?_
  refine k_bipush A50 hx (hb hby at_122) (v := 16) rfl (pc' := 124) rfl ?_
  refine k_ldc2Long S50 hx hZ hown (hw _ (List.mem_of_getElem? (i := 16) rfl)) (hb hby at_124) (pc' := 127) rfl ?_
  refine k_lastore S50 hx hZ V50 (hb hby at_127) (by decide) (by first | decide | (simp; done)) ge3 (pc' := 128) rfl ?_
  intro T53 h53 W53 V53 S53
  have A53 := S53.here
  have K55 := K52.wr W53 (Or.inr bo3)
  have V53 : LV Z h53 b2 [(1 : Int64), (10 : Int64), (100 : Int64), (1000 : Int64), (10000 : Int64), (100000 : Int64), (1000000 : Int64), (10000000 : Int64), (100000000 : Int64), (1000000000 : Int64), (10000000000 : Int64), (100000000000 : Int64), (1000000000000 : Int64), (10000000000000 : Int64), (100000000000000 : Int64), (1000000000000000 : Int64), (10000000000000000 : Int64), (0 : Int64), (0 : Int64)] := V53
  refine k_dup A53 hx (hb hby at_128) rfl (pc' := 129) rfl ?_
  refine k_bipush A53 hx (hb hby at_129) (v := 17) rfl (pc' := 131) rfl ?_
  refine k_ldc2Long S53 hx hZ hown (hw _ (List.mem_of_getElem? (i := 17) rfl)) (hb hby at_131) (pc' := 134) rfl ?_
  refine k_lastore S53 hx hZ V53 (hb hby at_134) (by decide) (by first | decide | (simp; done)) ge3 (pc' := 135) rfl ?_
  intro T56 h56 W56 V56 S56
  have A56 := S56.here
  have K58 := K55.wr W56 (Or.inr bo3)
  have V56 : LV Z h56 b2 [(1 : Int64), (10 : Int64), (100 : Int64), (1000 : Int64), (10000 : Int64), (100000 : Int64), (1000000 : Int64), (10000000 : Int64), (100000000 : Int64), (1000000000 : Int64), (10000000000 : Int64), (100000000000 : Int64), (1000000000000 : Int64), (10000000000000 : Int64), (100000000000000 : Int64), (1000000000000000 : Int64), (10000000000000000 : Int64), (100000000000000000 : Int64), (0 : Int64)] := V56
  refine k_dup A56 hx (hb hby at_135) rfl (pc' := 136) rfl ?_
  refine k_bipush A56 hx (hb hby at_136) (v := 18) rfl (pc' := 138) rfl ?_
  refine k_ldc2Long S56 hx hZ hown (hw _ (List.mem_of_getElem? (i := 18) rfl)) (hb hby at_138) (pc' := 141) rfl ?_
  refine k_lastore S56 hx hZ V56 (hb hby at_141) (by decide) (by first | decide | (simp; done)) ge3 (pc' := 142) rfl ?_
  intro T59 h59 W59 V59 S59
  have A59 := S59.here
  have K61 := K58.wr W59 (Or.inr bo3)
  have V59 : LV Z h59 b2 [(1 : Int64), (10 : Int64), (100 : Int64), (1000 : Int64), (10000 : Int64), (100000 : Int64), (1000000 : Int64), (10000000 : Int64), (100000000 : Int64), (1000000000 : Int64), (10000000000 : Int64), (100000000000 : Int64), (1000000000000 : Int64), (10000000000000 : Int64), (100000000000000 : Int64), (1000000000000000 : Int64), (10000000000000000 : Int64), (100000000000000000 : Int64), (1000000000000000000 : Int64)] := V59
  have Vpw : LV Z h59 b2 own_pows := V59
  refine k_astore A59 hx (hb hby at_142) rfl (Ls' := #[.val (.long x0), .second, .val (.int sh), .val (.int of), .val (.long n), .second, .val (.int at_), .val (.ref b2), .unset, .unset, .unset, .unset, .unset, .unset, .unset]) rfl (pc' := 144) rfl ?_
  refine k_bipush A59 hx (hb hby at_144) (v := 24) rfl (pc' := 146) rfl ?_
  refine k_newbyte S59 hx hZ (hw _ (List.mem_of_getElem? (i := 19) rfl)) (hb hby at_146) (by decide) 24 (by decide) (by decide) (by decide) (by decide) (pc' := 148) rfl ?_
  intro T62 h62 b62 g62 E62 V62 S62
  have ne63 : b2 ≠ b62 := by rw [g62]; exact Nat.ne_of_lt Vpw.lt
  have bo64 : h0.size ≤ b62 := Nat.le_trans K61.1 (Nat.le_of_eq g62.symm)
  have ge64 : n0 ≤ b62 := Nat.le_trans Z0 bo64
  have A62 := S62.here
  have f65 := Vpw.ext E62
  have K66 := K61.ext E62
  have V62 : BV Z h62 b62 [(0 : Int32), (0 : Int32), (0 : Int32), (0 : Int32), (0 : Int32), (0 : Int32), (0 : Int32), (0 : Int32), (0 : Int32), (0 : Int32), (0 : Int32), (0 : Int32), (0 : Int32), (0 : Int32), (0 : Int32), (0 : Int32), (0 : Int32), (0 : Int32), (0 : Int32), (0 : Int32), (0 : Int32), (0 : Int32), (0 : Int32), (0 : Int32)] := V62
  have Vin : BV Z h62 b62 (List.replicate 24 0) := V62
  refine k_astore A62 hx (hb hby at_148) rfl (Ls' := #[.val (.long x0), .second, .val (.int sh), .val (.int of), .val (.long n), .second, .val (.int at_), .val (.ref b2), .val (.ref b62), .unset, .unset, .unset, .unset, .unset, .unset]) rfl (pc' := 150) rfl ?_
  have J165_67 : ∀ (T67 : State), ∀ (mm : Int64), St p l e room_1 s m #[(.long x0), (.int sh), (.int of)] below meth c n0 T67 h62 ((0 + 1) + 1) ((0 + 19) + 24) → (mm = own_neg n) → Done p e below (OEnd s room_1 n0 (fun v h => v = some (.int 1))) (T67.setTop (mkF m 165 #[.val (.long x0), .second, .val (.int sh), .val (.int of), .val (.long n), .second, .val (.int at_), .val (.ref b2), .val (.ref b62), .unset, .unset, .unset, .unset, .unset, .unset] [(.long mm)])) := by
    intro T67 mm S67 hmm
    have A67 := S67.here
    refine k_lstore A67 hx (hb hby at_165) (Ls' := #[.val (.long x0), .second, .val (.int sh), .val (.int of), .val (.long n), .second, .val (.int at_), .val (.ref b2), .val (.ref b62), .val (.long mm), .second, .unset, .unset, .unset, .unset]) rfl (pc' := 167) rfl ?_
    subst hmm
    refine k_iconst A67 hx (hb hby at_167) (v := 1) rfl (pc' := 168) rfl ?_
    refine k_lload A67 hx (hb hby at_168) rfl (pc' := 170) rfl ?_
    refine k_aload A67 hx (hb hby at_170) rfl rfl (pc' := 172) rfl ?_
    refine k_iconst A67 hx (hb hby at_172) (v := 1) rfl (pc' := 173) rfl ?_
    refine k_call_static S67 hx hZ hown (hw _ (List.mem_of_getElem? (i := 20) rfl)) (hw _ (List.mem_of_getElem? (i := 21) rfl)) (hw _ (List.mem_of_getElem? (i := 22) rfl)) (hw _ (List.mem_of_getElem? (i := 23) rfl)) (by decide) (own_cge l Z a0 hw (own_neg n) b2 (1 : Int32) h62 n0 f65 (by decide)) 1 (argsL := [(.long (own_neg n)), (.ref b2), (.int (1 : Int32))]) (rest := [(.int (1 : Int32))]) (by decide) (by decide) (by rw [hml]; rfl) (lenOf own_pd2 rfl) rfl rfl (Nat.le_refl 1) (hb hby at_173) (pc' := 176) rfl (by decide) (by decide) ?_
    rintro v68 T68 h68 ⟨rfl, q68⟩ S68
    rw [q68] at S68
    have A68 := S68.here
    show Done p e below _ (T68.setTop (mkF m 176 #[.val (.long x0), .second, .val (.int sh), .val (.int of), .val (.long n), .second, .val (.int at_), .val (.ref b2), .val (.ref b62), .val (.long (own_neg n)), .second, .unset, .unset, .unset, .unset] [(.int (own_ge (own_neg n) (1 : Int32))), (.int (1 : Int32))]))
    refine k_iadd A68 hx (hb hby at_176) (pc' := 177) rfl ?_
    refine k_lload A68 hx (hb hby at_177) rfl (pc' := 179) rfl ?_
    refine k_aload A68 hx (hb hby at_179) rfl rfl (pc' := 181) rfl ?_
    refine k_iconst A68 hx (hb hby at_181) (v := 2) rfl (pc' := 182) rfl ?_
    refine k_call_static S68 hx hZ hown (hw _ (List.mem_of_getElem? (i := 20) rfl)) (hw _ (List.mem_of_getElem? (i := 21) rfl)) (hw _ (List.mem_of_getElem? (i := 22) rfl)) (hw _ (List.mem_of_getElem? (i := 23) rfl)) (by decide) (own_cge l Z a0 hw (own_neg n) b2 (2 : Int32) h62 n0 f65 (by decide)) 1 (argsL := [(.long (own_neg n)), (.ref b2), (.int (2 : Int32))]) (rest := [(.int ((1 : Int32) + (own_ge (own_neg n) (1 : Int32))))]) (by decide) (by decide) (by rw [hml]; rfl) (lenOf own_pd2 rfl) rfl rfl (Nat.le_refl 1) (hb hby at_182) (pc' := 185) rfl (by decide) (by decide) ?_
    rintro v69 T69 h69 ⟨rfl, q69⟩ S69
    rw [q69] at S69
    have A69 := S69.here
    show Done p e below _ (T69.setTop (mkF m 185 #[.val (.long x0), .second, .val (.int sh), .val (.int of), .val (.long n), .second, .val (.int at_), .val (.ref b2), .val (.ref b62), .val (.long (own_neg n)), .second, .unset, .unset, .unset, .unset] [(.int (own_ge (own_neg n) (2 : Int32))), (.int ((1 : Int32) + (own_ge (own_neg n) (1 : Int32))))]))
    refine k_iadd A69 hx (hb hby at_185) (pc' := 186) rfl ?_
    refine k_lload A69 hx (hb hby at_186) rfl (pc' := 188) rfl ?_
    refine k_aload A69 hx (hb hby at_188) rfl rfl (pc' := 190) rfl ?_
    refine k_iconst A69 hx (hb hby at_190) (v := 3) rfl (pc' := 191) rfl ?_
    refine k_call_static S69 hx hZ hown (hw _ (List.mem_of_getElem? (i := 20) rfl)) (hw _ (List.mem_of_getElem? (i := 21) rfl)) (hw _ (List.mem_of_getElem? (i := 22) rfl)) (hw _ (List.mem_of_getElem? (i := 23) rfl)) (by decide) (own_cge l Z a0 hw (own_neg n) b2 (3 : Int32) h62 n0 f65 (by decide)) 1 (argsL := [(.long (own_neg n)), (.ref b2), (.int (3 : Int32))]) (rest := [(.int (((1 : Int32) + (own_ge (own_neg n) (1 : Int32))) + (own_ge (own_neg n) (2 : Int32))))]) (by decide) (by decide) (by rw [hml]; rfl) (lenOf own_pd2 rfl) rfl rfl (Nat.le_refl 1) (hb hby at_191) (pc' := 194) rfl (by decide) (by decide) ?_
    rintro v70 T70 h70 ⟨rfl, q70⟩ S70
    rw [q70] at S70
    have A70 := S70.here
    show Done p e below _ (T70.setTop (mkF m 194 #[.val (.long x0), .second, .val (.int sh), .val (.int of), .val (.long n), .second, .val (.int at_), .val (.ref b2), .val (.ref b62), .val (.long (own_neg n)), .second, .unset, .unset, .unset, .unset] [(.int (own_ge (own_neg n) (3 : Int32))), (.int (((1 : Int32) + (own_ge (own_neg n) (1 : Int32))) + (own_ge (own_neg n) (2 : Int32))))]))
    refine k_iadd A70 hx (hb hby at_194) (pc' := 195) rfl ?_
    refine k_lload A70 hx (hb hby at_195) rfl (pc' := 197) rfl ?_
    refine k_aload A70 hx (hb hby at_197) rfl rfl (pc' := 199) rfl ?_
    refine k_iconst A70 hx (hb hby at_199) (v := 4) rfl (pc' := 200) rfl ?_
    refine k_call_static S70 hx hZ hown (hw _ (List.mem_of_getElem? (i := 20) rfl)) (hw _ (List.mem_of_getElem? (i := 21) rfl)) (hw _ (List.mem_of_getElem? (i := 22) rfl)) (hw _ (List.mem_of_getElem? (i := 23) rfl)) (by decide) (own_cge l Z a0 hw (own_neg n) b2 (4 : Int32) h62 n0 f65 (by decide)) 1 (argsL := [(.long (own_neg n)), (.ref b2), (.int (4 : Int32))]) (rest := [(.int ((((1 : Int32) + (own_ge (own_neg n) (1 : Int32))) + (own_ge (own_neg n) (2 : Int32))) + (own_ge (own_neg n) (3 : Int32))))]) (by decide) (by decide) (by rw [hml]; rfl) (lenOf own_pd2 rfl) rfl rfl (Nat.le_refl 1) (hb hby at_200) (pc' := 203) rfl (by decide) (by decide) ?_
    rintro v71 T71 h71 ⟨rfl, q71⟩ S71
    rw [q71] at S71
    have A71 := S71.here
    show Done p e below _ (T71.setTop (mkF m 203 #[.val (.long x0), .second, .val (.int sh), .val (.int of), .val (.long n), .second, .val (.int at_), .val (.ref b2), .val (.ref b62), .val (.long (own_neg n)), .second, .unset, .unset, .unset, .unset] [(.int (own_ge (own_neg n) (4 : Int32))), (.int ((((1 : Int32) + (own_ge (own_neg n) (1 : Int32))) + (own_ge (own_neg n) (2 : Int32))) + (own_ge (own_neg n) (3 : Int32))))]))
    refine k_iadd A71 hx (hb hby at_203) (pc' := 204) rfl ?_
    refine k_lload A71 hx (hb hby at_204) rfl (pc' := 206) rfl ?_
    refine k_aload A71 hx (hb hby at_206) rfl rfl (pc' := 208) rfl ?_
    refine k_iconst A71 hx (hb hby at_208) (v := 5) rfl (pc' := 209) rfl ?_
    refine k_call_static S71 hx hZ hown (hw _ (List.mem_of_getElem? (i := 20) rfl)) (hw _ (List.mem_of_getElem? (i := 21) rfl)) (hw _ (List.mem_of_getElem? (i := 22) rfl)) (hw _ (List.mem_of_getElem? (i := 23) rfl)) (by decide) (own_cge l Z a0 hw (own_neg n) b2 (5 : Int32) h62 n0 f65 (by decide)) 1 (argsL := [(.long (own_neg n)), (.ref b2), (.int (5 : Int32))]) (rest := [(.int (((((1 : Int32) + (own_ge (own_neg n) (1 : Int32))) + (own_ge (own_neg n) (2 : Int32))) + (own_ge (own_neg n) (3 : Int32))) + (own_ge (own_neg n) (4 : Int32))))]) (by decide) (by decide) (by rw [hml]; rfl) (lenOf own_pd2 rfl) rfl rfl (Nat.le_refl 1) (hb hby at_209) (pc' := 212) rfl (by decide) (by decide) ?_
    rintro v72 T72 h72 ⟨rfl, q72⟩ S72
    rw [q72] at S72
    have A72 := S72.here
    show Done p e below _ (T72.setTop (mkF m 212 #[.val (.long x0), .second, .val (.int sh), .val (.int of), .val (.long n), .second, .val (.int at_), .val (.ref b2), .val (.ref b62), .val (.long (own_neg n)), .second, .unset, .unset, .unset, .unset] [(.int (own_ge (own_neg n) (5 : Int32))), (.int (((((1 : Int32) + (own_ge (own_neg n) (1 : Int32))) + (own_ge (own_neg n) (2 : Int32))) + (own_ge (own_neg n) (3 : Int32))) + (own_ge (own_neg n) (4 : Int32))))]))
    refine k_iadd A72 hx (hb hby at_212) (pc' := 213) rfl ?_
    refine k_lload A72 hx (hb hby at_213) rfl (pc' := 215) rfl ?_
    refine k_aload A72 hx (hb hby at_215) rfl rfl (pc' := 217) rfl ?_
    refine k_bipush A72 hx (hb hby at_217) (v := 6) rfl (pc' := 219) rfl ?_
    refine k_call_static S72 hx hZ hown (hw _ (List.mem_of_getElem? (i := 20) rfl)) (hw _ (List.mem_of_getElem? (i := 21) rfl)) (hw _ (List.mem_of_getElem? (i := 22) rfl)) (hw _ (List.mem_of_getElem? (i := 23) rfl)) (by decide) (own_cge l Z a0 hw (own_neg n) b2 (6 : Int32) h62 n0 f65 (by decide)) 1 (argsL := [(.long (own_neg n)), (.ref b2), (.int (6 : Int32))]) (rest := [(.int ((((((1 : Int32) + (own_ge (own_neg n) (1 : Int32))) + (own_ge (own_neg n) (2 : Int32))) + (own_ge (own_neg n) (3 : Int32))) + (own_ge (own_neg n) (4 : Int32))) + (own_ge (own_neg n) (5 : Int32))))]) (by decide) (by decide) (by rw [hml]; rfl) (lenOf own_pd2 rfl) rfl rfl (Nat.le_refl 1) (hb hby at_219) (pc' := 222) rfl (by decide) (by decide) ?_
    rintro v73 T73 h73 ⟨rfl, q73⟩ S73
    rw [q73] at S73
    have A73 := S73.here
    show Done p e below _ (T73.setTop (mkF m 222 #[.val (.long x0), .second, .val (.int sh), .val (.int of), .val (.long n), .second, .val (.int at_), .val (.ref b2), .val (.ref b62), .val (.long (own_neg n)), .second, .unset, .unset, .unset, .unset] [(.int (own_ge (own_neg n) (6 : Int32))), (.int ((((((1 : Int32) + (own_ge (own_neg n) (1 : Int32))) + (own_ge (own_neg n) (2 : Int32))) + (own_ge (own_neg n) (3 : Int32))) + (own_ge (own_neg n) (4 : Int32))) + (own_ge (own_neg n) (5 : Int32))))]))
    refine k_iadd A73 hx (hb hby at_222) (pc' := 223) rfl ?_
    refine k_lload A73 hx (hb hby at_223) rfl (pc' := 225) rfl ?_
    refine k_aload A73 hx (hb hby at_225) rfl rfl (pc' := 227) rfl ?_
    refine k_bipush A73 hx (hb hby at_227) (v := 7) rfl (pc' := 229) rfl ?_
    refine k_call_static S73 hx hZ hown (hw _ (List.mem_of_getElem? (i := 20) rfl)) (hw _ (List.mem_of_getElem? (i := 21) rfl)) (hw _ (List.mem_of_getElem? (i := 22) rfl)) (hw _ (List.mem_of_getElem? (i := 23) rfl)) (by decide) (own_cge l Z a0 hw (own_neg n) b2 (7 : Int32) h62 n0 f65 (by decide)) 1 (argsL := [(.long (own_neg n)), (.ref b2), (.int (7 : Int32))]) (rest := [(.int (((((((1 : Int32) + (own_ge (own_neg n) (1 : Int32))) + (own_ge (own_neg n) (2 : Int32))) + (own_ge (own_neg n) (3 : Int32))) + (own_ge (own_neg n) (4 : Int32))) + (own_ge (own_neg n) (5 : Int32))) + (own_ge (own_neg n) (6 : Int32))))]) (by decide) (by decide) (by rw [hml]; rfl) (lenOf own_pd2 rfl) rfl rfl (Nat.le_refl 1) (hb hby at_229) (pc' := 232) rfl (by decide) (by decide) ?_
    rintro v74 T74 h74 ⟨rfl, q74⟩ S74
    rw [q74] at S74
    have A74 := S74.here
    show Done p e below _ (T74.setTop (mkF m 232 #[.val (.long x0), .second, .val (.int sh), .val (.int of), .val (.long n), .second, .val (.int at_), .val (.ref b2), .val (.ref b62), .val (.long (own_neg n)), .second, .unset, .unset, .unset, .unset] [(.int (own_ge (own_neg n) (7 : Int32))), (.int (((((((1 : Int32) + (own_ge (own_neg n) (1 : Int32))) + (own_ge (own_neg n) (2 : Int32))) + (own_ge (own_neg n) (3 : Int32))) + (own_ge (own_neg n) (4 : Int32))) + (own_ge (own_neg n) (5 : Int32))) + (own_ge (own_neg n) (6 : Int32))))]))
    refine k_iadd A74 hx (hb hby at_232) (pc' := 233) rfl ?_
    refine k_lload A74 hx (hb hby at_233) rfl (pc' := 235) rfl ?_
    refine k_aload A74 hx (hb hby at_235) rfl rfl (pc' := 237) rfl ?_
    refine k_bipush A74 hx (hb hby at_237) (v := 8) rfl (pc' := 239) rfl ?_
    refine k_call_static S74 hx hZ hown (hw _ (List.mem_of_getElem? (i := 20) rfl)) (hw _ (List.mem_of_getElem? (i := 21) rfl)) (hw _ (List.mem_of_getElem? (i := 22) rfl)) (hw _ (List.mem_of_getElem? (i := 23) rfl)) (by decide) (own_cge l Z a0 hw (own_neg n) b2 (8 : Int32) h62 n0 f65 (by decide)) 1 (argsL := [(.long (own_neg n)), (.ref b2), (.int (8 : Int32))]) (rest := [(.int ((((((((1 : Int32) + (own_ge (own_neg n) (1 : Int32))) + (own_ge (own_neg n) (2 : Int32))) + (own_ge (own_neg n) (3 : Int32))) + (own_ge (own_neg n) (4 : Int32))) + (own_ge (own_neg n) (5 : Int32))) + (own_ge (own_neg n) (6 : Int32))) + (own_ge (own_neg n) (7 : Int32))))]) (by decide) (by decide) (by rw [hml]; rfl) (lenOf own_pd2 rfl) rfl rfl (Nat.le_refl 1) (hb hby at_239) (pc' := 242) rfl (by decide) (by decide) ?_
    rintro v75 T75 h75 ⟨rfl, q75⟩ S75
    rw [q75] at S75
    have A75 := S75.here
    show Done p e below _ (T75.setTop (mkF m 242 #[.val (.long x0), .second, .val (.int sh), .val (.int of), .val (.long n), .second, .val (.int at_), .val (.ref b2), .val (.ref b62), .val (.long (own_neg n)), .second, .unset, .unset, .unset, .unset] [(.int (own_ge (own_neg n) (8 : Int32))), (.int ((((((((1 : Int32) + (own_ge (own_neg n) (1 : Int32))) + (own_ge (own_neg n) (2 : Int32))) + (own_ge (own_neg n) (3 : Int32))) + (own_ge (own_neg n) (4 : Int32))) + (own_ge (own_neg n) (5 : Int32))) + (own_ge (own_neg n) (6 : Int32))) + (own_ge (own_neg n) (7 : Int32))))]))
    refine k_iadd A75 hx (hb hby at_242) (pc' := 243) rfl ?_
    refine k_lload A75 hx (hb hby at_243) rfl (pc' := 245) rfl ?_
    refine k_aload A75 hx (hb hby at_245) rfl rfl (pc' := 247) rfl ?_
    refine k_bipush A75 hx (hb hby at_247) (v := 9) rfl (pc' := 249) rfl ?_
    refine k_call_static S75 hx hZ hown (hw _ (List.mem_of_getElem? (i := 20) rfl)) (hw _ (List.mem_of_getElem? (i := 21) rfl)) (hw _ (List.mem_of_getElem? (i := 22) rfl)) (hw _ (List.mem_of_getElem? (i := 23) rfl)) (by decide) (own_cge l Z a0 hw (own_neg n) b2 (9 : Int32) h62 n0 f65 (by decide)) 1 (argsL := [(.long (own_neg n)), (.ref b2), (.int (9 : Int32))]) (rest := [(.int (((((((((1 : Int32) + (own_ge (own_neg n) (1 : Int32))) + (own_ge (own_neg n) (2 : Int32))) + (own_ge (own_neg n) (3 : Int32))) + (own_ge (own_neg n) (4 : Int32))) + (own_ge (own_neg n) (5 : Int32))) + (own_ge (own_neg n) (6 : Int32))) + (own_ge (own_neg n) (7 : Int32))) + (own_ge (own_neg n) (8 : Int32))))]) (by decide) (by decide) (by rw [hml]; rfl) (lenOf own_pd2 rfl) rfl rfl (Nat.le_refl 1) (hb hby at_249) (pc' := 252) rfl (by decide) (by decide) ?_
    rintro v76 T76 h76 ⟨rfl, q76⟩ S76
    rw [q76] at S76
    have A76 := S76.here
    show Done p e below _ (T76.setTop (mkF m 252 #[.val (.long x0), .second, .val (.int sh), .val (.int of), .val (.long n), .second, .val (.int at_), .val (.ref b2), .val (.ref b62), .val (.long (own_neg n)), .second, .unset, .unset, .unset, .unset] [(.int (own_ge (own_neg n) (9 : Int32))), (.int (((((((((1 : Int32) + (own_ge (own_neg n) (1 : Int32))) + (own_ge (own_neg n) (2 : Int32))) + (own_ge (own_neg n) (3 : Int32))) + (own_ge (own_neg n) (4 : Int32))) + (own_ge (own_neg n) (5 : Int32))) + (own_ge (own_neg n) (6 : Int32))) + (own_ge (own_neg n) (7 : Int32))) + (own_ge (own_neg n) (8 : Int32))))]))
    refine k_iadd A76 hx (hb hby at_252) (pc' := 253) rfl ?_
    refine k_lload A76 hx (hb hby at_253) rfl (pc' := 255) rfl ?_
    refine k_aload A76 hx (hb hby at_255) rfl rfl (pc' := 257) rfl ?_
    refine k_bipush A76 hx (hb hby at_257) (v := 10) rfl (pc' := 259) rfl ?_
    refine k_call_static S76 hx hZ hown (hw _ (List.mem_of_getElem? (i := 20) rfl)) (hw _ (List.mem_of_getElem? (i := 21) rfl)) (hw _ (List.mem_of_getElem? (i := 22) rfl)) (hw _ (List.mem_of_getElem? (i := 23) rfl)) (by decide) (own_cge l Z a0 hw (own_neg n) b2 (10 : Int32) h62 n0 f65 (by decide)) 1 (argsL := [(.long (own_neg n)), (.ref b2), (.int (10 : Int32))]) (rest := [(.int ((((((((((1 : Int32) + (own_ge (own_neg n) (1 : Int32))) + (own_ge (own_neg n) (2 : Int32))) + (own_ge (own_neg n) (3 : Int32))) + (own_ge (own_neg n) (4 : Int32))) + (own_ge (own_neg n) (5 : Int32))) + (own_ge (own_neg n) (6 : Int32))) + (own_ge (own_neg n) (7 : Int32))) + (own_ge (own_neg n) (8 : Int32))) + (own_ge (own_neg n) (9 : Int32))))]) (by decide) (by decide) (by rw [hml]; rfl) (lenOf own_pd2 rfl) rfl rfl (Nat.le_refl 1) (hb hby at_259) (pc' := 262) rfl (by decide) (by decide) ?_
    rintro v77 T77 h77 ⟨rfl, q77⟩ S77
    rw [q77] at S77
    have A77 := S77.here
    show Done p e below _ (T77.setTop (mkF m 262 #[.val (.long x0), .second, .val (.int sh), .val (.int of), .val (.long n), .second, .val (.int at_), .val (.ref b2), .val (.ref b62), .val (.long (own_neg n)), .second, .unset, .unset, .unset, .unset] [(.int (own_ge (own_neg n) (10 : Int32))), (.int ((((((((((1 : Int32) + (own_ge (own_neg n) (1 : Int32))) + (own_ge (own_neg n) (2 : Int32))) + (own_ge (own_neg n) (3 : Int32))) + (own_ge (own_neg n) (4 : Int32))) + (own_ge (own_neg n) (5 : Int32))) + (own_ge (own_neg n) (6 : Int32))) + (own_ge (own_neg n) (7 : Int32))) + (own_ge (own_neg n) (8 : Int32))) + (own_ge (own_neg n) (9 : Int32))))]))
    refine k_iadd A77 hx (hb hby at_262) (pc' := 263) rfl ?_
    refine k_lload A77 hx (hb hby at_263) rfl (pc' := 265) rfl ?_
    refine k_aload A77 hx (hb hby at_265) rfl rfl (pc' := 267) rfl ?_
    refine k_bipush A77 hx (hb hby at_267) (v := 11) rfl (pc' := 269) rfl ?_
    refine k_call_static S77 hx hZ hown (hw _ (List.mem_of_getElem? (i := 20) rfl)) (hw _ (List.mem_of_getElem? (i := 21) rfl)) (hw _ (List.mem_of_getElem? (i := 22) rfl)) (hw _ (List.mem_of_getElem? (i := 23) rfl)) (by decide) (own_cge l Z a0 hw (own_neg n) b2 (11 : Int32) h62 n0 f65 (by decide)) 1 (argsL := [(.long (own_neg n)), (.ref b2), (.int (11 : Int32))]) (rest := [(.int (((((((((((1 : Int32) + (own_ge (own_neg n) (1 : Int32))) + (own_ge (own_neg n) (2 : Int32))) + (own_ge (own_neg n) (3 : Int32))) + (own_ge (own_neg n) (4 : Int32))) + (own_ge (own_neg n) (5 : Int32))) + (own_ge (own_neg n) (6 : Int32))) + (own_ge (own_neg n) (7 : Int32))) + (own_ge (own_neg n) (8 : Int32))) + (own_ge (own_neg n) (9 : Int32))) + (own_ge (own_neg n) (10 : Int32))))]) (by decide) (by decide) (by rw [hml]; rfl) (lenOf own_pd2 rfl) rfl rfl (Nat.le_refl 1) (hb hby at_269) (pc' := 272) rfl (by decide) (by decide) ?_
    rintro v78 T78 h78 ⟨rfl, q78⟩ S78
    rw [q78] at S78
    have A78 := S78.here
    show Done p e below _ (T78.setTop (mkF m 272 #[.val (.long x0), .second, .val (.int sh), .val (.int of), .val (.long n), .second, .val (.int at_), .val (.ref b2), .val (.ref b62), .val (.long (own_neg n)), .second, .unset, .unset, .unset, .unset] [(.int (own_ge (own_neg n) (11 : Int32))), (.int (((((((((((1 : Int32) + (own_ge (own_neg n) (1 : Int32))) + (own_ge (own_neg n) (2 : Int32))) + (own_ge (own_neg n) (3 : Int32))) + (own_ge (own_neg n) (4 : Int32))) + (own_ge (own_neg n) (5 : Int32))) + (own_ge (own_neg n) (6 : Int32))) + (own_ge (own_neg n) (7 : Int32))) + (own_ge (own_neg n) (8 : Int32))) + (own_ge (own_neg n) (9 : Int32))) + (own_ge (own_neg n) (10 : Int32))))]))
    refine k_iadd A78 hx (hb hby at_272) (pc' := 273) rfl ?_
    refine k_lload A78 hx (hb hby at_273) rfl (pc' := 275) rfl ?_
    refine k_aload A78 hx (hb hby at_275) rfl rfl (pc' := 277) rfl ?_
    refine k_bipush A78 hx (hb hby at_277) (v := 12) rfl (pc' := 279) rfl ?_
    refine k_call_static S78 hx hZ hown (hw _ (List.mem_of_getElem? (i := 20) rfl)) (hw _ (List.mem_of_getElem? (i := 21) rfl)) (hw _ (List.mem_of_getElem? (i := 22) rfl)) (hw _ (List.mem_of_getElem? (i := 23) rfl)) (by decide) (own_cge l Z a0 hw (own_neg n) b2 (12 : Int32) h62 n0 f65 (by decide)) 1 (argsL := [(.long (own_neg n)), (.ref b2), (.int (12 : Int32))]) (rest := [(.int ((((((((((((1 : Int32) + (own_ge (own_neg n) (1 : Int32))) + (own_ge (own_neg n) (2 : Int32))) + (own_ge (own_neg n) (3 : Int32))) + (own_ge (own_neg n) (4 : Int32))) + (own_ge (own_neg n) (5 : Int32))) + (own_ge (own_neg n) (6 : Int32))) + (own_ge (own_neg n) (7 : Int32))) + (own_ge (own_neg n) (8 : Int32))) + (own_ge (own_neg n) (9 : Int32))) + (own_ge (own_neg n) (10 : Int32))) + (own_ge (own_neg n) (11 : Int32))))]) (by decide) (by decide) (by rw [hml]; rfl) (lenOf own_pd2 rfl) rfl rfl (Nat.le_refl 1) (hb hby at_279) (pc' := 282) rfl (by decide) (by decide) ?_
    rintro v79 T79 h79 ⟨rfl, q79⟩ S79
    rw [q79] at S79
    have A79 := S79.here
    show Done p e below _ (T79.setTop (mkF m 282 #[.val (.long x0), .second, .val (.int sh), .val (.int of), .val (.long n), .second, .val (.int at_), .val (.ref b2), .val (.ref b62), .val (.long (own_neg n)), .second, .unset, .unset, .unset, .unset] [(.int (own_ge (own_neg n) (12 : Int32))), (.int ((((((((((((1 : Int32) + (own_ge (own_neg n) (1 : Int32))) + (own_ge (own_neg n) (2 : Int32))) + (own_ge (own_neg n) (3 : Int32))) + (own_ge (own_neg n) (4 : Int32))) + (own_ge (own_neg n) (5 : Int32))) + (own_ge (own_neg n) (6 : Int32))) + (own_ge (own_neg n) (7 : Int32))) + (own_ge (own_neg n) (8 : Int32))) + (own_ge (own_neg n) (9 : Int32))) + (own_ge (own_neg n) (10 : Int32))) + (own_ge (own_neg n) (11 : Int32))))]))
    refine k_iadd A79 hx (hb hby at_282) (pc' := 283) rfl ?_
    refine k_lload A79 hx (hb hby at_283) rfl (pc' := 285) rfl ?_
    refine k_aload A79 hx (hb hby at_285) rfl rfl (pc' := 287) rfl ?_
    refine k_bipush A79 hx (hb hby at_287) (v := 13) rfl (pc' := 289) rfl ?_
    refine k_call_static S79 hx hZ hown (hw _ (List.mem_of_getElem? (i := 20) rfl)) (hw _ (List.mem_of_getElem? (i := 21) rfl)) (hw _ (List.mem_of_getElem? (i := 22) rfl)) (hw _ (List.mem_of_getElem? (i := 23) rfl)) (by decide) (own_cge l Z a0 hw (own_neg n) b2 (13 : Int32) h62 n0 f65 (by decide)) 1 (argsL := [(.long (own_neg n)), (.ref b2), (.int (13 : Int32))]) (rest := [(.int (((((((((((((1 : Int32) + (own_ge (own_neg n) (1 : Int32))) + (own_ge (own_neg n) (2 : Int32))) + (own_ge (own_neg n) (3 : Int32))) + (own_ge (own_neg n) (4 : Int32))) + (own_ge (own_neg n) (5 : Int32))) + (own_ge (own_neg n) (6 : Int32))) + (own_ge (own_neg n) (7 : Int32))) + (own_ge (own_neg n) (8 : Int32))) + (own_ge (own_neg n) (9 : Int32))) + (own_ge (own_neg n) (10 : Int32))) + (own_ge (own_neg n) (11 : Int32))) + (own_ge (own_neg n) (12 : Int32))))]) (by decide) (by decide) (by rw [hml]; rfl) (lenOf own_pd2 rfl) rfl rfl (Nat.le_refl 1) (hb hby at_289) (pc' := 292) rfl (by decide) (by decide) ?_
    rintro v80 T80 h80 ⟨rfl, q80⟩ S80
    rw [q80] at S80
    have A80 := S80.here
    show Done p e below _ (T80.setTop (mkF m 292 #[.val (.long x0), .second, .val (.int sh), .val (.int of), .val (.long n), .second, .val (.int at_), .val (.ref b2), .val (.ref b62), .val (.long (own_neg n)), .second, .unset, .unset, .unset, .unset] [(.int (own_ge (own_neg n) (13 : Int32))), (.int (((((((((((((1 : Int32) + (own_ge (own_neg n) (1 : Int32))) + (own_ge (own_neg n) (2 : Int32))) + (own_ge (own_neg n) (3 : Int32))) + (own_ge (own_neg n) (4 : Int32))) + (own_ge (own_neg n) (5 : Int32))) + (own_ge (own_neg n) (6 : Int32))) + (own_ge (own_neg n) (7 : Int32))) + (own_ge (own_neg n) (8 : Int32))) + (own_ge (own_neg n) (9 : Int32))) + (own_ge (own_neg n) (10 : Int32))) + (own_ge (own_neg n) (11 : Int32))) + (own_ge (own_neg n) (12 : Int32))))]))
    refine k_iadd A80 hx (hb hby at_292) (pc' := 293) rfl ?_
    refine k_lload A80 hx (hb hby at_293) rfl (pc' := 295) rfl ?_
    refine k_aload A80 hx (hb hby at_295) rfl rfl (pc' := 297) rfl ?_
    refine k_bipush A80 hx (hb hby at_297) (v := 14) rfl (pc' := 299) rfl ?_
    refine k_call_static S80 hx hZ hown (hw _ (List.mem_of_getElem? (i := 20) rfl)) (hw _ (List.mem_of_getElem? (i := 21) rfl)) (hw _ (List.mem_of_getElem? (i := 22) rfl)) (hw _ (List.mem_of_getElem? (i := 23) rfl)) (by decide) (own_cge l Z a0 hw (own_neg n) b2 (14 : Int32) h62 n0 f65 (by decide)) 1 (argsL := [(.long (own_neg n)), (.ref b2), (.int (14 : Int32))]) (rest := [(.int ((((((((((((((1 : Int32) + (own_ge (own_neg n) (1 : Int32))) + (own_ge (own_neg n) (2 : Int32))) + (own_ge (own_neg n) (3 : Int32))) + (own_ge (own_neg n) (4 : Int32))) + (own_ge (own_neg n) (5 : Int32))) + (own_ge (own_neg n) (6 : Int32))) + (own_ge (own_neg n) (7 : Int32))) + (own_ge (own_neg n) (8 : Int32))) + (own_ge (own_neg n) (9 : Int32))) + (own_ge (own_neg n) (10 : Int32))) + (own_ge (own_neg n) (11 : Int32))) + (own_ge (own_neg n) (12 : Int32))) + (own_ge (own_neg n) (13 : Int32))))]) (by decide) (by decide) (by rw [hml]; rfl) (lenOf own_pd2 rfl) rfl rfl (Nat.le_refl 1) (hb hby at_299) (pc' := 302) rfl (by decide) (by decide) ?_
    rintro v81 T81 h81 ⟨rfl, q81⟩ S81
    rw [q81] at S81
    have A81 := S81.here
    show Done p e below _ (T81.setTop (mkF m 302 #[.val (.long x0), .second, .val (.int sh), .val (.int of), .val (.long n), .second, .val (.int at_), .val (.ref b2), .val (.ref b62), .val (.long (own_neg n)), .second, .unset, .unset, .unset, .unset] [(.int (own_ge (own_neg n) (14 : Int32))), (.int ((((((((((((((1 : Int32) + (own_ge (own_neg n) (1 : Int32))) + (own_ge (own_neg n) (2 : Int32))) + (own_ge (own_neg n) (3 : Int32))) + (own_ge (own_neg n) (4 : Int32))) + (own_ge (own_neg n) (5 : Int32))) + (own_ge (own_neg n) (6 : Int32))) + (own_ge (own_neg n) (7 : Int32))) + (own_ge (own_neg n) (8 : Int32))) + (own_ge (own_neg n) (9 : Int32))) + (own_ge (own_neg n) (10 : Int32))) + (own_ge (own_neg n) (11 : Int32))) + (own_ge (own_neg n) (12 : Int32))) + (own_ge (own_neg n) (13 : Int32))))]))
    refine k_iadd A81 hx (hb hby at_302) (pc' := 303) rfl ?_
    refine k_lload A81 hx (hb hby at_303) rfl (pc' := 305) rfl ?_
    refine k_aload A81 hx (hb hby at_305) rfl rfl (pc' := 307) rfl ?_
    refine k_bipush A81 hx (hb hby at_307) (v := 15) rfl (pc' := 309) rfl ?_
    refine k_call_static S81 hx hZ hown (hw _ (List.mem_of_getElem? (i := 20) rfl)) (hw _ (List.mem_of_getElem? (i := 21) rfl)) (hw _ (List.mem_of_getElem? (i := 22) rfl)) (hw _ (List.mem_of_getElem? (i := 23) rfl)) (by decide) (own_cge l Z a0 hw (own_neg n) b2 (15 : Int32) h62 n0 f65 (by decide)) 1 (argsL := [(.long (own_neg n)), (.ref b2), (.int (15 : Int32))]) (rest := [(.int (((((((((((((((1 : Int32) + (own_ge (own_neg n) (1 : Int32))) + (own_ge (own_neg n) (2 : Int32))) + (own_ge (own_neg n) (3 : Int32))) + (own_ge (own_neg n) (4 : Int32))) + (own_ge (own_neg n) (5 : Int32))) + (own_ge (own_neg n) (6 : Int32))) + (own_ge (own_neg n) (7 : Int32))) + (own_ge (own_neg n) (8 : Int32))) + (own_ge (own_neg n) (9 : Int32))) + (own_ge (own_neg n) (10 : Int32))) + (own_ge (own_neg n) (11 : Int32))) + (own_ge (own_neg n) (12 : Int32))) + (own_ge (own_neg n) (13 : Int32))) + (own_ge (own_neg n) (14 : Int32))))]) (by decide) (by decide) (by rw [hml]; rfl) (lenOf own_pd2 rfl) rfl rfl (Nat.le_refl 1) (hb hby at_309) (pc' := 312) rfl (by decide) (by decide) ?_
    rintro v82 T82 h82 ⟨rfl, q82⟩ S82
    rw [q82] at S82
    have A82 := S82.here
    show Done p e below _ (T82.setTop (mkF m 312 #[.val (.long x0), .second, .val (.int sh), .val (.int of), .val (.long n), .second, .val (.int at_), .val (.ref b2), .val (.ref b62), .val (.long (own_neg n)), .second, .unset, .unset, .unset, .unset] [(.int (own_ge (own_neg n) (15 : Int32))), (.int (((((((((((((((1 : Int32) + (own_ge (own_neg n) (1 : Int32))) + (own_ge (own_neg n) (2 : Int32))) + (own_ge (own_neg n) (3 : Int32))) + (own_ge (own_neg n) (4 : Int32))) + (own_ge (own_neg n) (5 : Int32))) + (own_ge (own_neg n) (6 : Int32))) + (own_ge (own_neg n) (7 : Int32))) + (own_ge (own_neg n) (8 : Int32))) + (own_ge (own_neg n) (9 : Int32))) + (own_ge (own_neg n) (10 : Int32))) + (own_ge (own_neg n) (11 : Int32))) + (own_ge (own_neg n) (12 : Int32))) + (own_ge (own_neg n) (13 : Int32))) + (own_ge (own_neg n) (14 : Int32))))]))
    refine k_iadd A82 hx (hb hby at_312) (pc' := 313) rfl ?_
    refine k_lload A82 hx (hb hby at_313) rfl (pc' := 315) rfl ?_
    refine k_aload A82 hx (hb hby at_315) rfl rfl (pc' := 317) rfl ?_
    refine k_bipush A82 hx (hb hby at_317) (v := 16) rfl (pc' := 319) rfl ?_
    refine k_call_static S82 hx hZ hown (hw _ (List.mem_of_getElem? (i := 20) rfl)) (hw _ (List.mem_of_getElem? (i := 21) rfl)) (hw _ (List.mem_of_getElem? (i := 22) rfl)) (hw _ (List.mem_of_getElem? (i := 23) rfl)) (by decide) (own_cge l Z a0 hw (own_neg n) b2 (16 : Int32) h62 n0 f65 (by decide)) 1 (argsL := [(.long (own_neg n)), (.ref b2), (.int (16 : Int32))]) (rest := [(.int ((((((((((((((((1 : Int32) + (own_ge (own_neg n) (1 : Int32))) + (own_ge (own_neg n) (2 : Int32))) + (own_ge (own_neg n) (3 : Int32))) + (own_ge (own_neg n) (4 : Int32))) + (own_ge (own_neg n) (5 : Int32))) + (own_ge (own_neg n) (6 : Int32))) + (own_ge (own_neg n) (7 : Int32))) + (own_ge (own_neg n) (8 : Int32))) + (own_ge (own_neg n) (9 : Int32))) + (own_ge (own_neg n) (10 : Int32))) + (own_ge (own_neg n) (11 : Int32))) + (own_ge (own_neg n) (12 : Int32))) + (own_ge (own_neg n) (13 : Int32))) + (own_ge (own_neg n) (14 : Int32))) + (own_ge (own_neg n) (15 : Int32))))]) (by decide) (by decide) (by rw [hml]; rfl) (lenOf own_pd2 rfl) rfl rfl (Nat.le_refl 1) (hb hby at_319) (pc' := 322) rfl (by decide) (by decide) ?_
    rintro v83 T83 h83 ⟨rfl, q83⟩ S83
    rw [q83] at S83
    have A83 := S83.here
    show Done p e below _ (T83.setTop (mkF m 322 #[.val (.long x0), .second, .val (.int sh), .val (.int of), .val (.long n), .second, .val (.int at_), .val (.ref b2), .val (.ref b62), .val (.long (own_neg n)), .second, .unset, .unset, .unset, .unset] [(.int (own_ge (own_neg n) (16 : Int32))), (.int ((((((((((((((((1 : Int32) + (own_ge (own_neg n) (1 : Int32))) + (own_ge (own_neg n) (2 : Int32))) + (own_ge (own_neg n) (3 : Int32))) + (own_ge (own_neg n) (4 : Int32))) + (own_ge (own_neg n) (5 : Int32))) + (own_ge (own_neg n) (6 : Int32))) + (own_ge (own_neg n) (7 : Int32))) + (own_ge (own_neg n) (8 : Int32))) + (own_ge (own_neg n) (9 : Int32))) + (own_ge (own_neg n) (10 : Int32))) + (own_ge (own_neg n) (11 : Int32))) + (own_ge (own_neg n) (12 : Int32))) + (own_ge (own_neg n) (13 : Int32))) + (own_ge (own_neg n) (14 : Int32))) + (own_ge (own_neg n) (15 : Int32))))]))
    refine k_iadd A83 hx (hb hby at_322) (pc' := 323) rfl ?_
    refine k_lload A83 hx (hb hby at_323) rfl (pc' := 325) rfl ?_
    refine k_aload A83 hx (hb hby at_325) rfl rfl (pc' := 327) rfl ?_
    refine k_bipush A83 hx (hb hby at_327) (v := 17) rfl (pc' := 329) rfl ?_
    refine k_call_static S83 hx hZ hown (hw _ (List.mem_of_getElem? (i := 20) rfl)) (hw _ (List.mem_of_getElem? (i := 21) rfl)) (hw _ (List.mem_of_getElem? (i := 22) rfl)) (hw _ (List.mem_of_getElem? (i := 23) rfl)) (by decide) (own_cge l Z a0 hw (own_neg n) b2 (17 : Int32) h62 n0 f65 (by decide)) 1 (argsL := [(.long (own_neg n)), (.ref b2), (.int (17 : Int32))]) (rest := [(.int (((((((((((((((((1 : Int32) + (own_ge (own_neg n) (1 : Int32))) + (own_ge (own_neg n) (2 : Int32))) + (own_ge (own_neg n) (3 : Int32))) + (own_ge (own_neg n) (4 : Int32))) + (own_ge (own_neg n) (5 : Int32))) + (own_ge (own_neg n) (6 : Int32))) + (own_ge (own_neg n) (7 : Int32))) + (own_ge (own_neg n) (8 : Int32))) + (own_ge (own_neg n) (9 : Int32))) + (own_ge (own_neg n) (10 : Int32))) + (own_ge (own_neg n) (11 : Int32))) + (own_ge (own_neg n) (12 : Int32))) + (own_ge (own_neg n) (13 : Int32))) + (own_ge (own_neg n) (14 : Int32))) + (own_ge (own_neg n) (15 : Int32))) + (own_ge (own_neg n) (16 : Int32))))]) (by decide) (by decide) (by rw [hml]; rfl) (lenOf own_pd2 rfl) rfl rfl (Nat.le_refl 1) (hb hby at_329) (pc' := 332) rfl (by decide) (by decide) ?_
    rintro v84 T84 h84 ⟨rfl, q84⟩ S84
    rw [q84] at S84
    have A84 := S84.here
    show Done p e below _ (T84.setTop (mkF m 332 #[.val (.long x0), .second, .val (.int sh), .val (.int of), .val (.long n), .second, .val (.int at_), .val (.ref b2), .val (.ref b62), .val (.long (own_neg n)), .second, .unset, .unset, .unset, .unset] [(.int (own_ge (own_neg n) (17 : Int32))), (.int (((((((((((((((((1 : Int32) + (own_ge (own_neg n) (1 : Int32))) + (own_ge (own_neg n) (2 : Int32))) + (own_ge (own_neg n) (3 : Int32))) + (own_ge (own_neg n) (4 : Int32))) + (own_ge (own_neg n) (5 : Int32))) + (own_ge (own_neg n) (6 : Int32))) + (own_ge (own_neg n) (7 : Int32))) + (own_ge (own_neg n) (8 : Int32))) + (own_ge (own_neg n) (9 : Int32))) + (own_ge (own_neg n) (10 : Int32))) + (own_ge (own_neg n) (11 : Int32))) + (own_ge (own_neg n) (12 : Int32))) + (own_ge (own_neg n) (13 : Int32))) + (own_ge (own_neg n) (14 : Int32))) + (own_ge (own_neg n) (15 : Int32))) + (own_ge (own_neg n) (16 : Int32))))]))
    refine k_iadd A84 hx (hb hby at_332) (pc' := 333) rfl ?_
    refine k_lload A84 hx (hb hby at_333) rfl (pc' := 335) rfl ?_
    refine k_aload A84 hx (hb hby at_335) rfl rfl (pc' := 337) rfl ?_
    refine k_bipush A84 hx (hb hby at_337) (v := 18) rfl (pc' := 339) rfl ?_
    refine k_call_static S84 hx hZ hown (hw _ (List.mem_of_getElem? (i := 20) rfl)) (hw _ (List.mem_of_getElem? (i := 21) rfl)) (hw _ (List.mem_of_getElem? (i := 22) rfl)) (hw _ (List.mem_of_getElem? (i := 23) rfl)) (by decide) (own_cge l Z a0 hw (own_neg n) b2 (18 : Int32) h62 n0 f65 (by decide)) 1 (argsL := [(.long (own_neg n)), (.ref b2), (.int (18 : Int32))]) (rest := [(.int ((((((((((((((((((1 : Int32) + (own_ge (own_neg n) (1 : Int32))) + (own_ge (own_neg n) (2 : Int32))) + (own_ge (own_neg n) (3 : Int32))) + (own_ge (own_neg n) (4 : Int32))) + (own_ge (own_neg n) (5 : Int32))) + (own_ge (own_neg n) (6 : Int32))) + (own_ge (own_neg n) (7 : Int32))) + (own_ge (own_neg n) (8 : Int32))) + (own_ge (own_neg n) (9 : Int32))) + (own_ge (own_neg n) (10 : Int32))) + (own_ge (own_neg n) (11 : Int32))) + (own_ge (own_neg n) (12 : Int32))) + (own_ge (own_neg n) (13 : Int32))) + (own_ge (own_neg n) (14 : Int32))) + (own_ge (own_neg n) (15 : Int32))) + (own_ge (own_neg n) (16 : Int32))) + (own_ge (own_neg n) (17 : Int32))))]) (by decide) (by decide) (by rw [hml]; rfl) (lenOf own_pd2 rfl) rfl rfl (Nat.le_refl 1) (hb hby at_339) (pc' := 342) rfl (by decide) (by decide) ?_
    rintro v85 T85 h85 ⟨rfl, q85⟩ S85
    rw [q85] at S85
    have A85 := S85.here
    show Done p e below _ (T85.setTop (mkF m 342 #[.val (.long x0), .second, .val (.int sh), .val (.int of), .val (.long n), .second, .val (.int at_), .val (.ref b2), .val (.ref b62), .val (.long (own_neg n)), .second, .unset, .unset, .unset, .unset] [(.int (own_ge (own_neg n) (18 : Int32))), (.int ((((((((((((((((((1 : Int32) + (own_ge (own_neg n) (1 : Int32))) + (own_ge (own_neg n) (2 : Int32))) + (own_ge (own_neg n) (3 : Int32))) + (own_ge (own_neg n) (4 : Int32))) + (own_ge (own_neg n) (5 : Int32))) + (own_ge (own_neg n) (6 : Int32))) + (own_ge (own_neg n) (7 : Int32))) + (own_ge (own_neg n) (8 : Int32))) + (own_ge (own_neg n) (9 : Int32))) + (own_ge (own_neg n) (10 : Int32))) + (own_ge (own_neg n) (11 : Int32))) + (own_ge (own_neg n) (12 : Int32))) + (own_ge (own_neg n) (13 : Int32))) + (own_ge (own_neg n) (14 : Int32))) + (own_ge (own_neg n) (15 : Int32))) + (own_ge (own_neg n) (16 : Int32))) + (own_ge (own_neg n) (17 : Int32))))]))
    refine k_iadd A85 hx (hb hby at_342) (pc' := 343) rfl ?_
    generalize q_dS : (((((((((((((((((((1 : Int32) + (own_ge (own_neg n) (1 : Int32))) + (own_ge (own_neg n) (2 : Int32))) + (own_ge (own_neg n) (3 : Int32))) + (own_ge (own_neg n) (4 : Int32))) + (own_ge (own_neg n) (5 : Int32))) + (own_ge (own_neg n) (6 : Int32))) + (own_ge (own_neg n) (7 : Int32))) + (own_ge (own_neg n) (8 : Int32))) + (own_ge (own_neg n) (9 : Int32))) + (own_ge (own_neg n) (10 : Int32))) + (own_ge (own_neg n) (11 : Int32))) + (own_ge (own_neg n) (12 : Int32))) + (own_ge (own_neg n) (13 : Int32))) + (own_ge (own_neg n) (14 : Int32))) + (own_ge (own_neg n) (15 : Int32))) + (own_ge (own_neg n) (16 : Int32))) + (own_ge (own_neg n) (17 : Int32))) + (own_ge (own_neg n) (18 : Int32))) = dS
    refine k_istore A85 hx (hb hby at_343) (Ls' := #[.val (.long x0), .second, .val (.int sh), .val (.int of), .val (.long n), .second, .val (.int at_), .val (.ref b2), .val (.ref b62), .val (.long (own_neg n)), .second, .val (.int dS), .unset, .unset, .unset]) rfl (pc' := 345) rfl ?_
    have J357_86 : ∀ (T86 : State), ∀ (ng : Int32), St p l e room_1 s m #[(.long x0), (.int sh), (.int of)] below meth c n0 T86 h62 ((0 + 1) + 1) ((0 + 19) + 24) → (ng = if n < 0 then 1 else 0) → Done p e below (OEnd s room_1 n0 (fun v h => v = some (.int 1))) (T86.setTop (mkF m 357 #[.val (.long x0), .second, .val (.int sh), .val (.int of), .val (.long n), .second, .val (.int at_), .val (.ref b2), .val (.ref b62), .val (.long (own_neg n)), .second, .val (.int dS), .unset, .unset, .unset] [(.int ng)])) := by
      intro T86 ng S86 hng
      have A86 := S86.here
      refine k_istore A86 hx (hb hby at_357) (Ls' := #[.val (.long x0), .second, .val (.int sh), .val (.int of), .val (.long n), .second, .val (.int at_), .val (.ref b2), .val (.ref b62), .val (.long (own_neg n)), .second, .val (.int dS), .val (.int ng), .unset, .unset]) rfl (pc' := 359) rfl ?_
      refine k_iload A86 hx (hb hby at_359) rfl (pc' := 361) rfl ?_
      have J371_87 : ∀ (T87 : State), ∀ (sg : Int32), St p l e room_1 s m #[(.long x0), (.int sh), (.int of)] below meth c n0 T87 h62 ((0 + 1) + 1) ((0 + 19) + 24) → (sg = if ng = 0 then 0 else 1) → Done p e below (OEnd s room_1 n0 (fun v h => v = some (.int 1))) (T87.setTop (mkF m 371 #[.val (.long x0), .second, .val (.int sh), .val (.int of), .val (.long n), .second, .val (.int at_), .val (.ref b2), .val (.ref b62), .val (.long (own_neg n)), .second, .val (.int dS), .val (.int ng), .unset, .unset] [(.int sg), (.int at_)])) := by
        intro T87 sg S87 hsg
        have A87 := S87.here
        refine k_iadd A87 hx (hb hby at_371) (pc' := 372) rfl ?_
        refine k_iload A87 hx (hb hby at_372) rfl (pc' := 374) rfl ?_
        refine k_iadd A87 hx (hb hby at_374) (pc' := 375) rfl ?_
        generalize q_en : ((at_ + sg) + dS) = en
        refine k_istore A87 hx (hb hby at_375) (Ls' := #[.val (.long x0), .second, .val (.int sh), .val (.int of), .val (.long n), .second, .val (.int at_), .val (.ref b2), .val (.ref b62), .val (.long (own_neg n)), .second, .val (.int dS), .val (.int ng), .val (.int en), .unset]) rfl (pc' := 377) rfl ?_
        refine k_lload A87 hx (hb hby at_377) rfl (pc' := 379) rfl ?_
        refine k_aload A87 hx (hb hby at_379) rfl rfl (pc' := 381) rfl ?_
        refine k_iload A87 hx (hb hby at_381) rfl (pc' := 383) rfl ?_
        refine k_call_static S87 hx hZ hown (hw _ (List.mem_of_getElem? (i := 24) rfl)) (hw _ (List.mem_of_getElem? (i := 25) rfl)) (hw _ (List.mem_of_getElem? (i := 26) rfl)) (hw _ (List.mem_of_getElem? (i := 27) rfl)) (by decide) (own_cput l Z a0 hw n b62 at_ h62 n0 (Nat.le_trans Z0 K66.1) ge64 Vin hat) 0 (argsL := [(.long n), (.ref b62), (.int at_)]) (rest := []) (by decide) (by decide) (by rw [hml]; rfl) (lenOf own_pd3 rfl) rfl rfl (Nat.le_refl 0) (hb hby at_383) (pc' := 386) rfl (by decide) (by decide) ?_
        rintro v88 T88 h88 ⟨d, bs, rfl, hPL, K88, V88, hbl, hbs⟩ S88
        have f89 := f65.keep K88 (ninS ne63 nin0)
        have K91 := K66.trans K88 (allS (Or.inr bo64) all0)
        have hee : at_ + own_ln n d = en := (own_endeq (q_dS.symm.trans (own_sum hPL)) hng hsg).trans q_en
        rw [hee] at hbs
        have A88 := S88.here
        show Done p e below _ (T88.setTop (mkF m 386 #[.val (.long x0), .second, .val (.int sh), .val (.int of), .val (.long n), .second, .val (.int at_), .val (.ref b2), .val (.ref b62), .val (.long (own_neg n)), .second, .val (.int dS), .val (.int ng), .val (.int en), .unset] [(.int (at_ + own_ln n d))]))
        refine k_istore A88 hx (hb hby at_386) (Ls' := #[.val (.long x0), .second, .val (.int sh), .val (.int of), .val (.long n), .second, .val (.int at_), .val (.ref b2), .val (.ref b62), .val (.long (own_neg n)), .second, .val (.int dS), .val (.int ng), .val (.int en), .val (.int (at_ + own_ln n d))]) rfl (pc' := 388) rfl ?_
        refine k_iload A88 hx (hb hby at_388) rfl (pc' := 390) rfl ?_
        refine k_iload A88 hx (hb hby at_390) rfl (pc' := 392) rfl ?_
        refine k_icmp_ne A88 hx (hb hby at_392) (pcY := 873) (by decide) (pc' := 395) rfl (fun hc392 => absurd hee hc392) (fun hc392 => ?_)
        refine k_aload A88 hx (hb hby at_395) rfl rfl (pc' := 397) rfl ?_
        refine k_iconst A88 hx (hb hby at_397) (v := 0) rfl (pc' := 398) rfl ?_
        refine k_lload A88 hx (hb hby at_398) rfl (pc' := 400) rfl ?_
        refine k_aload A88 hx (hb hby at_400) rfl rfl (pc' := 402) rfl ?_
        refine k_iload A88 hx (hb hby at_402) rfl (pc' := 404) rfl ?_
        refine k_iload A88 hx (hb hby at_404) rfl (pc' := 406) rfl ?_
        refine k_iload A88 hx (hb hby at_406) rfl (pc' := 408) rfl ?_
        refine k_call_static S88 hx hZ hown (hw _ (List.mem_of_getElem? (i := 34) rfl)) (hw _ (List.mem_of_getElem? (i := 35) rfl)) (hw _ (List.mem_of_getElem? (i := 22) rfl)) (hw _ (List.mem_of_getElem? (i := 36) rfl)) (by decide) (own_cok l Z a0 hw b62 (0 : Int32) n b2 at_ en ng h88 n0 bs d V88 f89 hPL hat hee.symm hng ⟨by decide, by rw [hbl]; decide⟩ (hbs _ (by decide) (by decide))) 0 (argsL := [(.ref b62), (.int (0 : Int32)), (.long n), (.ref b2), (.int at_), (.int en), (.int ng)]) (rest := []) (by decide) (by decide) (by rw [hml]; rfl) (lenOf own_pd4 rfl) rfl rfl (Nat.le_refl 0) (hb hby at_408) (pc' := 411) rfl (by decide) (by decide) ?_
        rintro v92 T92 h92 ⟨rfl, q92⟩ S92
        rw [q92] at S92
        have A92 := S92.here
        show Done p e below _ (T92.setTop (mkF m 411 #[.val (.long x0), .second, .val (.int sh), .val (.int of), .val (.long n), .second, .val (.int at_), .val (.ref b2), .val (.ref b62), .val (.long (own_neg n)), .second, .val (.int dS), .val (.int ng), .val (.int en), .val (.int (at_ + own_ln n d))] [(.int (1 : Int32))]))
        refine k_if_eq A92 hx (hb hby at_411) (pcY := 873) (by decide) (pc' := 414) rfl (fun hc411 => absurd hc411 (by decide)) (fun hc411 => ?_)
        refine k_aload A92 hx (hb hby at_414) rfl rfl (pc' := 416) rfl ?_
        refine k_iconst A92 hx (hb hby at_416) (v := 1) rfl (pc' := 417) rfl ?_
        refine k_lload A92 hx (hb hby at_417) rfl (pc' := 419) rfl ?_
        refine k_aload A92 hx (hb hby at_419) rfl rfl (pc' := 421) rfl ?_
        refine k_iload A92 hx (hb hby at_421) rfl (pc' := 423) rfl ?_
        refine k_iload A92 hx (hb hby at_423) rfl (pc' := 425) rfl ?_
        refine k_iload A92 hx (hb hby at_425) rfl (pc' := 427) rfl ?_
        refine k_call_static S92 hx hZ hown (hw _ (List.mem_of_getElem? (i := 34) rfl)) (hw _ (List.mem_of_getElem? (i := 35) rfl)) (hw _ (List.mem_of_getElem? (i := 22) rfl)) (hw _ (List.mem_of_getElem? (i := 36) rfl)) (by decide) (own_cok l Z a0 hw b62 (1 : Int32) n b2 at_ en ng h88 n0 bs d V88 f89 hPL hat hee.symm hng ⟨by decide, by rw [hbl]; decide⟩ (hbs _ (by decide) (by decide))) 0 (argsL := [(.ref b62), (.int (1 : Int32)), (.long n), (.ref b2), (.int at_), (.int en), (.int ng)]) (rest := []) (by decide) (by decide) (by rw [hml]; rfl) (lenOf own_pd4 rfl) rfl rfl (Nat.le_refl 0) (hb hby at_427) (pc' := 430) rfl (by decide) (by decide) ?_
        rintro v93 T93 h93 ⟨rfl, q93⟩ S93
        rw [q93] at S93
        have A93 := S93.here
        show Done p e below _ (T93.setTop (mkF m 430 #[.val (.long x0), .second, .val (.int sh), .val (.int of), .val (.long n), .second, .val (.int at_), .val (.ref b2), .val (.ref b62), .val (.long (own_neg n)), .second, .val (.int dS), .val (.int ng), .val (.int en), .val (.int (at_ + own_ln n d))] [(.int (1 : Int32))]))
        refine k_if_eq A93 hx (hb hby at_430) (pcY := 873) (by decide) (pc' := 433) rfl (fun hc430 => absurd hc430 (by decide)) (fun hc430 => ?_)
        refine k_aload A93 hx (hb hby at_433) rfl rfl (pc' := 435) rfl ?_
        refine k_iconst A93 hx (hb hby at_435) (v := 2) rfl (pc' := 436) rfl ?_
        refine k_lload A93 hx (hb hby at_436) rfl (pc' := 438) rfl ?_
        refine k_aload A93 hx (hb hby at_438) rfl rfl (pc' := 440) rfl ?_
        refine k_iload A93 hx (hb hby at_440) rfl (pc' := 442) rfl ?_
        refine k_iload A93 hx (hb hby at_442) rfl (pc' := 444) rfl ?_
        refine k_iload A93 hx (hb hby at_444) rfl (pc' := 446) rfl ?_
        refine k_call_static S93 hx hZ hown (hw _ (List.mem_of_getElem? (i := 34) rfl)) (hw _ (List.mem_of_getElem? (i := 35) rfl)) (hw _ (List.mem_of_getElem? (i := 22) rfl)) (hw _ (List.mem_of_getElem? (i := 36) rfl)) (by decide) (own_cok l Z a0 hw b62 (2 : Int32) n b2 at_ en ng h88 n0 bs d V88 f89 hPL hat hee.symm hng ⟨by decide, by rw [hbl]; decide⟩ (hbs _ (by decide) (by decide))) 0 (argsL := [(.ref b62), (.int (2 : Int32)), (.long n), (.ref b2), (.int at_), (.int en), (.int ng)]) (rest := []) (by decide) (by decide) (by rw [hml]; rfl) (lenOf own_pd4 rfl) rfl rfl (Nat.le_refl 0) (hb hby at_446) (pc' := 449) rfl (by decide) (by decide) ?_
        rintro v94 T94 h94 ⟨rfl, q94⟩ S94
        rw [q94] at S94
        have A94 := S94.here
        show Done p e below _ (T94.setTop (mkF m 449 #[.val (.long x0), .second, .val (.int sh), .val (.int of), .val (.long n), .second, .val (.int at_), .val (.ref b2), .val (.ref b62), .val (.long (own_neg n)), .second, .val (.int dS), .val (.int ng), .val (.int en), .val (.int (at_ + own_ln n d))] [(.int (1 : Int32))]))
        refine k_if_eq A94 hx (hb hby at_449) (pcY := 873) (by decide) (pc' := 452) rfl (fun hc449 => absurd hc449 (by decide)) (fun hc449 => ?_)
        refine k_aload A94 hx (hb hby at_452) rfl rfl (pc' := 454) rfl ?_
        refine k_iconst A94 hx (hb hby at_454) (v := 3) rfl (pc' := 455) rfl ?_
        refine k_lload A94 hx (hb hby at_455) rfl (pc' := 457) rfl ?_
        refine k_aload A94 hx (hb hby at_457) rfl rfl (pc' := 459) rfl ?_
        refine k_iload A94 hx (hb hby at_459) rfl (pc' := 461) rfl ?_
        refine k_iload A94 hx (hb hby at_461) rfl (pc' := 463) rfl ?_
        refine k_iload A94 hx (hb hby at_463) rfl (pc' := 465) rfl ?_
        refine k_call_static S94 hx hZ hown (hw _ (List.mem_of_getElem? (i := 34) rfl)) (hw _ (List.mem_of_getElem? (i := 35) rfl)) (hw _ (List.mem_of_getElem? (i := 22) rfl)) (hw _ (List.mem_of_getElem? (i := 36) rfl)) (by decide) (own_cok l Z a0 hw b62 (3 : Int32) n b2 at_ en ng h88 n0 bs d V88 f89 hPL hat hee.symm hng ⟨by decide, by rw [hbl]; decide⟩ (hbs _ (by decide) (by decide))) 0 (argsL := [(.ref b62), (.int (3 : Int32)), (.long n), (.ref b2), (.int at_), (.int en), (.int ng)]) (rest := []) (by decide) (by decide) (by rw [hml]; rfl) (lenOf own_pd4 rfl) rfl rfl (Nat.le_refl 0) (hb hby at_465) (pc' := 468) rfl (by decide) (by decide) ?_
        rintro v95 T95 h95 ⟨rfl, q95⟩ S95
        rw [q95] at S95
        have A95 := S95.here
        show Done p e below _ (T95.setTop (mkF m 468 #[.val (.long x0), .second, .val (.int sh), .val (.int of), .val (.long n), .second, .val (.int at_), .val (.ref b2), .val (.ref b62), .val (.long (own_neg n)), .second, .val (.int dS), .val (.int ng), .val (.int en), .val (.int (at_ + own_ln n d))] [(.int (1 : Int32))]))
        refine k_if_eq A95 hx (hb hby at_468) (pcY := 873) (by decide) (pc' := 471) rfl (fun hc468 => absurd hc468 (by decide)) (fun hc468 => ?_)
        refine k_aload A95 hx (hb hby at_471) rfl rfl (pc' := 473) rfl ?_
        refine k_iconst A95 hx (hb hby at_473) (v := 4) rfl (pc' := 474) rfl ?_
        refine k_lload A95 hx (hb hby at_474) rfl (pc' := 476) rfl ?_
        refine k_aload A95 hx (hb hby at_476) rfl rfl (pc' := 478) rfl ?_
        refine k_iload A95 hx (hb hby at_478) rfl (pc' := 480) rfl ?_
        refine k_iload A95 hx (hb hby at_480) rfl (pc' := 482) rfl ?_
        refine k_iload A95 hx (hb hby at_482) rfl (pc' := 484) rfl ?_
        refine k_call_static S95 hx hZ hown (hw _ (List.mem_of_getElem? (i := 34) rfl)) (hw _ (List.mem_of_getElem? (i := 35) rfl)) (hw _ (List.mem_of_getElem? (i := 22) rfl)) (hw _ (List.mem_of_getElem? (i := 36) rfl)) (by decide) (own_cok l Z a0 hw b62 (4 : Int32) n b2 at_ en ng h88 n0 bs d V88 f89 hPL hat hee.symm hng ⟨by decide, by rw [hbl]; decide⟩ (hbs _ (by decide) (by decide))) 0 (argsL := [(.ref b62), (.int (4 : Int32)), (.long n), (.ref b2), (.int at_), (.int en), (.int ng)]) (rest := []) (by decide) (by decide) (by rw [hml]; rfl) (lenOf own_pd4 rfl) rfl rfl (Nat.le_refl 0) (hb hby at_484) (pc' := 487) rfl (by decide) (by decide) ?_
        rintro v96 T96 h96 ⟨rfl, q96⟩ S96
        rw [q96] at S96
        have A96 := S96.here
        show Done p e below _ (T96.setTop (mkF m 487 #[.val (.long x0), .second, .val (.int sh), .val (.int of), .val (.long n), .second, .val (.int at_), .val (.ref b2), .val (.ref b62), .val (.long (own_neg n)), .second, .val (.int dS), .val (.int ng), .val (.int en), .val (.int (at_ + own_ln n d))] [(.int (1 : Int32))]))
        refine k_if_eq A96 hx (hb hby at_487) (pcY := 873) (by decide) (pc' := 490) rfl (fun hc487 => absurd hc487 (by decide)) (fun hc487 => ?_)
        refine k_aload A96 hx (hb hby at_490) rfl rfl (pc' := 492) rfl ?_
        refine k_iconst A96 hx (hb hby at_492) (v := 5) rfl (pc' := 493) rfl ?_
        refine k_lload A96 hx (hb hby at_493) rfl (pc' := 495) rfl ?_
        refine k_aload A96 hx (hb hby at_495) rfl rfl (pc' := 497) rfl ?_
        refine k_iload A96 hx (hb hby at_497) rfl (pc' := 499) rfl ?_
        refine k_iload A96 hx (hb hby at_499) rfl (pc' := 501) rfl ?_
        refine k_iload A96 hx (hb hby at_501) rfl (pc' := 503) rfl ?_
        refine k_call_static S96 hx hZ hown (hw _ (List.mem_of_getElem? (i := 34) rfl)) (hw _ (List.mem_of_getElem? (i := 35) rfl)) (hw _ (List.mem_of_getElem? (i := 22) rfl)) (hw _ (List.mem_of_getElem? (i := 36) rfl)) (by decide) (own_cok l Z a0 hw b62 (5 : Int32) n b2 at_ en ng h88 n0 bs d V88 f89 hPL hat hee.symm hng ⟨by decide, by rw [hbl]; decide⟩ (hbs _ (by decide) (by decide))) 0 (argsL := [(.ref b62), (.int (5 : Int32)), (.long n), (.ref b2), (.int at_), (.int en), (.int ng)]) (rest := []) (by decide) (by decide) (by rw [hml]; rfl) (lenOf own_pd4 rfl) rfl rfl (Nat.le_refl 0) (hb hby at_503) (pc' := 506) rfl (by decide) (by decide) ?_
        rintro v97 T97 h97 ⟨rfl, q97⟩ S97
        rw [q97] at S97
        have A97 := S97.here
        show Done p e below _ (T97.setTop (mkF m 506 #[.val (.long x0), .second, .val (.int sh), .val (.int of), .val (.long n), .second, .val (.int at_), .val (.ref b2), .val (.ref b62), .val (.long (own_neg n)), .second, .val (.int dS), .val (.int ng), .val (.int en), .val (.int (at_ + own_ln n d))] [(.int (1 : Int32))]))
        refine k_if_eq A97 hx (hb hby at_506) (pcY := 873) (by decide) (pc' := 509) rfl (fun hc506 => absurd hc506 (by decide)) (fun hc506 => ?_)
        refine k_aload A97 hx (hb hby at_509) rfl rfl (pc' := 511) rfl ?_
        refine k_bipush A97 hx (hb hby at_511) (v := 6) rfl (pc' := 513) rfl ?_
        refine k_lload A97 hx (hb hby at_513) rfl (pc' := 515) rfl ?_
        refine k_aload A97 hx (hb hby at_515) rfl rfl (pc' := 517) rfl ?_
        refine k_iload A97 hx (hb hby at_517) rfl (pc' := 519) rfl ?_
        refine k_iload A97 hx (hb hby at_519) rfl (pc' := 521) rfl ?_
        refine k_iload A97 hx (hb hby at_521) rfl (pc' := 523) rfl ?_
        refine k_call_static S97 hx hZ hown (hw _ (List.mem_of_getElem? (i := 34) rfl)) (hw _ (List.mem_of_getElem? (i := 35) rfl)) (hw _ (List.mem_of_getElem? (i := 22) rfl)) (hw _ (List.mem_of_getElem? (i := 36) rfl)) (by decide) (own_cok l Z a0 hw b62 (6 : Int32) n b2 at_ en ng h88 n0 bs d V88 f89 hPL hat hee.symm hng ⟨by decide, by rw [hbl]; decide⟩ (hbs _ (by decide) (by decide))) 0 (argsL := [(.ref b62), (.int (6 : Int32)), (.long n), (.ref b2), (.int at_), (.int en), (.int ng)]) (rest := []) (by decide) (by decide) (by rw [hml]; rfl) (lenOf own_pd4 rfl) rfl rfl (Nat.le_refl 0) (hb hby at_523) (pc' := 526) rfl (by decide) (by decide) ?_
        rintro v98 T98 h98 ⟨rfl, q98⟩ S98
        rw [q98] at S98
        have A98 := S98.here
        show Done p e below _ (T98.setTop (mkF m 526 #[.val (.long x0), .second, .val (.int sh), .val (.int of), .val (.long n), .second, .val (.int at_), .val (.ref b2), .val (.ref b62), .val (.long (own_neg n)), .second, .val (.int dS), .val (.int ng), .val (.int en), .val (.int (at_ + own_ln n d))] [(.int (1 : Int32))]))
        refine k_if_eq A98 hx (hb hby at_526) (pcY := 873) (by decide) (pc' := 529) rfl (fun hc526 => absurd hc526 (by decide)) (fun hc526 => ?_)
        refine k_aload A98 hx (hb hby at_529) rfl rfl (pc' := 531) rfl ?_
        refine k_bipush A98 hx (hb hby at_531) (v := 7) rfl (pc' := 533) rfl ?_
        refine k_lload A98 hx (hb hby at_533) rfl (pc' := 535) rfl ?_
        refine k_aload A98 hx (hb hby at_535) rfl rfl (pc' := 537) rfl ?_
        refine k_iload A98 hx (hb hby at_537) rfl (pc' := 539) rfl ?_
        refine k_iload A98 hx (hb hby at_539) rfl (pc' := 541) rfl ?_
        refine k_iload A98 hx (hb hby at_541) rfl (pc' := 543) rfl ?_
        refine k_call_static S98 hx hZ hown (hw _ (List.mem_of_getElem? (i := 34) rfl)) (hw _ (List.mem_of_getElem? (i := 35) rfl)) (hw _ (List.mem_of_getElem? (i := 22) rfl)) (hw _ (List.mem_of_getElem? (i := 36) rfl)) (by decide) (own_cok l Z a0 hw b62 (7 : Int32) n b2 at_ en ng h88 n0 bs d V88 f89 hPL hat hee.symm hng ⟨by decide, by rw [hbl]; decide⟩ (hbs _ (by decide) (by decide))) 0 (argsL := [(.ref b62), (.int (7 : Int32)), (.long n), (.ref b2), (.int at_), (.int en), (.int ng)]) (rest := []) (by decide) (by decide) (by rw [hml]; rfl) (lenOf own_pd4 rfl) rfl rfl (Nat.le_refl 0) (hb hby at_543) (pc' := 546) rfl (by decide) (by decide) ?_
        rintro v99 T99 h99 ⟨rfl, q99⟩ S99
        rw [q99] at S99
        have A99 := S99.here
        show Done p e below _ (T99.setTop (mkF m 546 #[.val (.long x0), .second, .val (.int sh), .val (.int of), .val (.long n), .second, .val (.int at_), .val (.ref b2), .val (.ref b62), .val (.long (own_neg n)), .second, .val (.int dS), .val (.int ng), .val (.int en), .val (.int (at_ + own_ln n d))] [(.int (1 : Int32))]))
        refine k_if_eq A99 hx (hb hby at_546) (pcY := 873) (by decide) (pc' := 549) rfl (fun hc546 => absurd hc546 (by decide)) (fun hc546 => ?_)
        refine k_aload A99 hx (hb hby at_549) rfl rfl (pc' := 551) rfl ?_
        refine k_bipush A99 hx (hb hby at_551) (v := 8) rfl (pc' := 553) rfl ?_
        refine k_lload A99 hx (hb hby at_553) rfl (pc' := 555) rfl ?_
        refine k_aload A99 hx (hb hby at_555) rfl rfl (pc' := 557) rfl ?_
        refine k_iload A99 hx (hb hby at_557) rfl (pc' := 559) rfl ?_
        refine k_iload A99 hx (hb hby at_559) rfl (pc' := 561) rfl ?_
        refine k_iload A99 hx (hb hby at_561) rfl (pc' := 563) rfl ?_
        refine k_call_static S99 hx hZ hown (hw _ (List.mem_of_getElem? (i := 34) rfl)) (hw _ (List.mem_of_getElem? (i := 35) rfl)) (hw _ (List.mem_of_getElem? (i := 22) rfl)) (hw _ (List.mem_of_getElem? (i := 36) rfl)) (by decide) (own_cok l Z a0 hw b62 (8 : Int32) n b2 at_ en ng h88 n0 bs d V88 f89 hPL hat hee.symm hng ⟨by decide, by rw [hbl]; decide⟩ (hbs _ (by decide) (by decide))) 0 (argsL := [(.ref b62), (.int (8 : Int32)), (.long n), (.ref b2), (.int at_), (.int en), (.int ng)]) (rest := []) (by decide) (by decide) (by rw [hml]; rfl) (lenOf own_pd4 rfl) rfl rfl (Nat.le_refl 0) (hb hby at_563) (pc' := 566) rfl (by decide) (by decide) ?_
        rintro v100 T100 h100 ⟨rfl, q100⟩ S100
        rw [q100] at S100
        have A100 := S100.here
        show Done p e below _ (T100.setTop (mkF m 566 #[.val (.long x0), .second, .val (.int sh), .val (.int of), .val (.long n), .second, .val (.int at_), .val (.ref b2), .val (.ref b62), .val (.long (own_neg n)), .second, .val (.int dS), .val (.int ng), .val (.int en), .val (.int (at_ + own_ln n d))] [(.int (1 : Int32))]))
        refine k_if_eq A100 hx (hb hby at_566) (pcY := 873) (by decide) (pc' := 569) rfl (fun hc566 => absurd hc566 (by decide)) (fun hc566 => ?_)
        refine k_aload A100 hx (hb hby at_569) rfl rfl (pc' := 571) rfl ?_
        refine k_bipush A100 hx (hb hby at_571) (v := 9) rfl (pc' := 573) rfl ?_
        refine k_lload A100 hx (hb hby at_573) rfl (pc' := 575) rfl ?_
        refine k_aload A100 hx (hb hby at_575) rfl rfl (pc' := 577) rfl ?_
        refine k_iload A100 hx (hb hby at_577) rfl (pc' := 579) rfl ?_
        refine k_iload A100 hx (hb hby at_579) rfl (pc' := 581) rfl ?_
        refine k_iload A100 hx (hb hby at_581) rfl (pc' := 583) rfl ?_
        refine k_call_static S100 hx hZ hown (hw _ (List.mem_of_getElem? (i := 34) rfl)) (hw _ (List.mem_of_getElem? (i := 35) rfl)) (hw _ (List.mem_of_getElem? (i := 22) rfl)) (hw _ (List.mem_of_getElem? (i := 36) rfl)) (by decide) (own_cok l Z a0 hw b62 (9 : Int32) n b2 at_ en ng h88 n0 bs d V88 f89 hPL hat hee.symm hng ⟨by decide, by rw [hbl]; decide⟩ (hbs _ (by decide) (by decide))) 0 (argsL := [(.ref b62), (.int (9 : Int32)), (.long n), (.ref b2), (.int at_), (.int en), (.int ng)]) (rest := []) (by decide) (by decide) (by rw [hml]; rfl) (lenOf own_pd4 rfl) rfl rfl (Nat.le_refl 0) (hb hby at_583) (pc' := 586) rfl (by decide) (by decide) ?_
        rintro v101 T101 h101 ⟨rfl, q101⟩ S101
        rw [q101] at S101
        have A101 := S101.here
        show Done p e below _ (T101.setTop (mkF m 586 #[.val (.long x0), .second, .val (.int sh), .val (.int of), .val (.long n), .second, .val (.int at_), .val (.ref b2), .val (.ref b62), .val (.long (own_neg n)), .second, .val (.int dS), .val (.int ng), .val (.int en), .val (.int (at_ + own_ln n d))] [(.int (1 : Int32))]))
        refine k_if_eq A101 hx (hb hby at_586) (pcY := 873) (by decide) (pc' := 589) rfl (fun hc586 => absurd hc586 (by decide)) (fun hc586 => ?_)
        refine k_aload A101 hx (hb hby at_589) rfl rfl (pc' := 591) rfl ?_
        refine k_bipush A101 hx (hb hby at_591) (v := 10) rfl (pc' := 593) rfl ?_
        refine k_lload A101 hx (hb hby at_593) rfl (pc' := 595) rfl ?_
        refine k_aload A101 hx (hb hby at_595) rfl rfl (pc' := 597) rfl ?_
        refine k_iload A101 hx (hb hby at_597) rfl (pc' := 599) rfl ?_
        refine k_iload A101 hx (hb hby at_599) rfl (pc' := 601) rfl ?_
        refine k_iload A101 hx (hb hby at_601) rfl (pc' := 603) rfl ?_
        refine k_call_static S101 hx hZ hown (hw _ (List.mem_of_getElem? (i := 34) rfl)) (hw _ (List.mem_of_getElem? (i := 35) rfl)) (hw _ (List.mem_of_getElem? (i := 22) rfl)) (hw _ (List.mem_of_getElem? (i := 36) rfl)) (by decide) (own_cok l Z a0 hw b62 (10 : Int32) n b2 at_ en ng h88 n0 bs d V88 f89 hPL hat hee.symm hng ⟨by decide, by rw [hbl]; decide⟩ (hbs _ (by decide) (by decide))) 0 (argsL := [(.ref b62), (.int (10 : Int32)), (.long n), (.ref b2), (.int at_), (.int en), (.int ng)]) (rest := []) (by decide) (by decide) (by rw [hml]; rfl) (lenOf own_pd4 rfl) rfl rfl (Nat.le_refl 0) (hb hby at_603) (pc' := 606) rfl (by decide) (by decide) ?_
        rintro v102 T102 h102 ⟨rfl, q102⟩ S102
        rw [q102] at S102
        have A102 := S102.here
        show Done p e below _ (T102.setTop (mkF m 606 #[.val (.long x0), .second, .val (.int sh), .val (.int of), .val (.long n), .second, .val (.int at_), .val (.ref b2), .val (.ref b62), .val (.long (own_neg n)), .second, .val (.int dS), .val (.int ng), .val (.int en), .val (.int (at_ + own_ln n d))] [(.int (1 : Int32))]))
        refine k_if_eq A102 hx (hb hby at_606) (pcY := 873) (by decide) (pc' := 609) rfl (fun hc606 => absurd hc606 (by decide)) (fun hc606 => ?_)
        refine k_aload A102 hx (hb hby at_609) rfl rfl (pc' := 611) rfl ?_
        refine k_bipush A102 hx (hb hby at_611) (v := 11) rfl (pc' := 613) rfl ?_
        refine k_lload A102 hx (hb hby at_613) rfl (pc' := 615) rfl ?_
        refine k_aload A102 hx (hb hby at_615) rfl rfl (pc' := 617) rfl ?_
        refine k_iload A102 hx (hb hby at_617) rfl (pc' := 619) rfl ?_
        refine k_iload A102 hx (hb hby at_619) rfl (pc' := 621) rfl ?_
        refine k_iload A102 hx (hb hby at_621) rfl (pc' := 623) rfl ?_
        refine k_call_static S102 hx hZ hown (hw _ (List.mem_of_getElem? (i := 34) rfl)) (hw _ (List.mem_of_getElem? (i := 35) rfl)) (hw _ (List.mem_of_getElem? (i := 22) rfl)) (hw _ (List.mem_of_getElem? (i := 36) rfl)) (by decide) (own_cok l Z a0 hw b62 (11 : Int32) n b2 at_ en ng h88 n0 bs d V88 f89 hPL hat hee.symm hng ⟨by decide, by rw [hbl]; decide⟩ (hbs _ (by decide) (by decide))) 0 (argsL := [(.ref b62), (.int (11 : Int32)), (.long n), (.ref b2), (.int at_), (.int en), (.int ng)]) (rest := []) (by decide) (by decide) (by rw [hml]; rfl) (lenOf own_pd4 rfl) rfl rfl (Nat.le_refl 0) (hb hby at_623) (pc' := 626) rfl (by decide) (by decide) ?_
        rintro v103 T103 h103 ⟨rfl, q103⟩ S103
        rw [q103] at S103
        have A103 := S103.here
        show Done p e below _ (T103.setTop (mkF m 626 #[.val (.long x0), .second, .val (.int sh), .val (.int of), .val (.long n), .second, .val (.int at_), .val (.ref b2), .val (.ref b62), .val (.long (own_neg n)), .second, .val (.int dS), .val (.int ng), .val (.int en), .val (.int (at_ + own_ln n d))] [(.int (1 : Int32))]))
        refine k_if_eq A103 hx (hb hby at_626) (pcY := 873) (by decide) (pc' := 629) rfl (fun hc626 => absurd hc626 (by decide)) (fun hc626 => ?_)
        refine k_aload A103 hx (hb hby at_629) rfl rfl (pc' := 631) rfl ?_
        refine k_bipush A103 hx (hb hby at_631) (v := 12) rfl (pc' := 633) rfl ?_
        refine k_lload A103 hx (hb hby at_633) rfl (pc' := 635) rfl ?_
        refine k_aload A103 hx (hb hby at_635) rfl rfl (pc' := 637) rfl ?_
        refine k_iload A103 hx (hb hby at_637) rfl (pc' := 639) rfl ?_
        refine k_iload A103 hx (hb hby at_639) rfl (pc' := 641) rfl ?_
        refine k_iload A103 hx (hb hby at_641) rfl (pc' := 643) rfl ?_
        refine k_call_static S103 hx hZ hown (hw _ (List.mem_of_getElem? (i := 34) rfl)) (hw _ (List.mem_of_getElem? (i := 35) rfl)) (hw _ (List.mem_of_getElem? (i := 22) rfl)) (hw _ (List.mem_of_getElem? (i := 36) rfl)) (by decide) (own_cok l Z a0 hw b62 (12 : Int32) n b2 at_ en ng h88 n0 bs d V88 f89 hPL hat hee.symm hng ⟨by decide, by rw [hbl]; decide⟩ (hbs _ (by decide) (by decide))) 0 (argsL := [(.ref b62), (.int (12 : Int32)), (.long n), (.ref b2), (.int at_), (.int en), (.int ng)]) (rest := []) (by decide) (by decide) (by rw [hml]; rfl) (lenOf own_pd4 rfl) rfl rfl (Nat.le_refl 0) (hb hby at_643) (pc' := 646) rfl (by decide) (by decide) ?_
        rintro v104 T104 h104 ⟨rfl, q104⟩ S104
        rw [q104] at S104
        have A104 := S104.here
        show Done p e below _ (T104.setTop (mkF m 646 #[.val (.long x0), .second, .val (.int sh), .val (.int of), .val (.long n), .second, .val (.int at_), .val (.ref b2), .val (.ref b62), .val (.long (own_neg n)), .second, .val (.int dS), .val (.int ng), .val (.int en), .val (.int (at_ + own_ln n d))] [(.int (1 : Int32))]))
        refine k_if_eq A104 hx (hb hby at_646) (pcY := 873) (by decide) (pc' := 649) rfl (fun hc646 => absurd hc646 (by decide)) (fun hc646 => ?_)
        refine k_aload A104 hx (hb hby at_649) rfl rfl (pc' := 651) rfl ?_
        refine k_bipush A104 hx (hb hby at_651) (v := 13) rfl (pc' := 653) rfl ?_
        refine k_lload A104 hx (hb hby at_653) rfl (pc' := 655) rfl ?_
        refine k_aload A104 hx (hb hby at_655) rfl rfl (pc' := 657) rfl ?_
        refine k_iload A104 hx (hb hby at_657) rfl (pc' := 659) rfl ?_
        refine k_iload A104 hx (hb hby at_659) rfl (pc' := 661) rfl ?_
        refine k_iload A104 hx (hb hby at_661) rfl (pc' := 663) rfl ?_
        refine k_call_static S104 hx hZ hown (hw _ (List.mem_of_getElem? (i := 34) rfl)) (hw _ (List.mem_of_getElem? (i := 35) rfl)) (hw _ (List.mem_of_getElem? (i := 22) rfl)) (hw _ (List.mem_of_getElem? (i := 36) rfl)) (by decide) (own_cok l Z a0 hw b62 (13 : Int32) n b2 at_ en ng h88 n0 bs d V88 f89 hPL hat hee.symm hng ⟨by decide, by rw [hbl]; decide⟩ (hbs _ (by decide) (by decide))) 0 (argsL := [(.ref b62), (.int (13 : Int32)), (.long n), (.ref b2), (.int at_), (.int en), (.int ng)]) (rest := []) (by decide) (by decide) (by rw [hml]; rfl) (lenOf own_pd4 rfl) rfl rfl (Nat.le_refl 0) (hb hby at_663) (pc' := 666) rfl (by decide) (by decide) ?_
        rintro v105 T105 h105 ⟨rfl, q105⟩ S105
        rw [q105] at S105
        have A105 := S105.here
        show Done p e below _ (T105.setTop (mkF m 666 #[.val (.long x0), .second, .val (.int sh), .val (.int of), .val (.long n), .second, .val (.int at_), .val (.ref b2), .val (.ref b62), .val (.long (own_neg n)), .second, .val (.int dS), .val (.int ng), .val (.int en), .val (.int (at_ + own_ln n d))] [(.int (1 : Int32))]))
        refine k_if_eq A105 hx (hb hby at_666) (pcY := 873) (by decide) (pc' := 669) rfl (fun hc666 => absurd hc666 (by decide)) (fun hc666 => ?_)
        refine k_aload A105 hx (hb hby at_669) rfl rfl (pc' := 671) rfl ?_
        refine k_bipush A105 hx (hb hby at_671) (v := 14) rfl (pc' := 673) rfl ?_
        refine k_lload A105 hx (hb hby at_673) rfl (pc' := 675) rfl ?_
        refine k_aload A105 hx (hb hby at_675) rfl rfl (pc' := 677) rfl ?_
        refine k_iload A105 hx (hb hby at_677) rfl (pc' := 679) rfl ?_
        refine k_iload A105 hx (hb hby at_679) rfl (pc' := 681) rfl ?_
        refine k_iload A105 hx (hb hby at_681) rfl (pc' := 683) rfl ?_
        refine k_call_static S105 hx hZ hown (hw _ (List.mem_of_getElem? (i := 34) rfl)) (hw _ (List.mem_of_getElem? (i := 35) rfl)) (hw _ (List.mem_of_getElem? (i := 22) rfl)) (hw _ (List.mem_of_getElem? (i := 36) rfl)) (by decide) (own_cok l Z a0 hw b62 (14 : Int32) n b2 at_ en ng h88 n0 bs d V88 f89 hPL hat hee.symm hng ⟨by decide, by rw [hbl]; decide⟩ (hbs _ (by decide) (by decide))) 0 (argsL := [(.ref b62), (.int (14 : Int32)), (.long n), (.ref b2), (.int at_), (.int en), (.int ng)]) (rest := []) (by decide) (by decide) (by rw [hml]; rfl) (lenOf own_pd4 rfl) rfl rfl (Nat.le_refl 0) (hb hby at_683) (pc' := 686) rfl (by decide) (by decide) ?_
        rintro v106 T106 h106 ⟨rfl, q106⟩ S106
        rw [q106] at S106
        have A106 := S106.here
        show Done p e below _ (T106.setTop (mkF m 686 #[.val (.long x0), .second, .val (.int sh), .val (.int of), .val (.long n), .second, .val (.int at_), .val (.ref b2), .val (.ref b62), .val (.long (own_neg n)), .second, .val (.int dS), .val (.int ng), .val (.int en), .val (.int (at_ + own_ln n d))] [(.int (1 : Int32))]))
        refine k_if_eq A106 hx (hb hby at_686) (pcY := 873) (by decide) (pc' := 689) rfl (fun hc686 => absurd hc686 (by decide)) (fun hc686 => ?_)
        refine k_aload A106 hx (hb hby at_689) rfl rfl (pc' := 691) rfl ?_
        refine k_bipush A106 hx (hb hby at_691) (v := 15) rfl (pc' := 693) rfl ?_
        refine k_lload A106 hx (hb hby at_693) rfl (pc' := 695) rfl ?_
        refine k_aload A106 hx (hb hby at_695) rfl rfl (pc' := 697) rfl ?_
        refine k_iload A106 hx (hb hby at_697) rfl (pc' := 699) rfl ?_
        refine k_iload A106 hx (hb hby at_699) rfl (pc' := 701) rfl ?_
        refine k_iload A106 hx (hb hby at_701) rfl (pc' := 703) rfl ?_
        refine k_call_static S106 hx hZ hown (hw _ (List.mem_of_getElem? (i := 34) rfl)) (hw _ (List.mem_of_getElem? (i := 35) rfl)) (hw _ (List.mem_of_getElem? (i := 22) rfl)) (hw _ (List.mem_of_getElem? (i := 36) rfl)) (by decide) (own_cok l Z a0 hw b62 (15 : Int32) n b2 at_ en ng h88 n0 bs d V88 f89 hPL hat hee.symm hng ⟨by decide, by rw [hbl]; decide⟩ (hbs _ (by decide) (by decide))) 0 (argsL := [(.ref b62), (.int (15 : Int32)), (.long n), (.ref b2), (.int at_), (.int en), (.int ng)]) (rest := []) (by decide) (by decide) (by rw [hml]; rfl) (lenOf own_pd4 rfl) rfl rfl (Nat.le_refl 0) (hb hby at_703) (pc' := 706) rfl (by decide) (by decide) ?_
        rintro v107 T107 h107 ⟨rfl, q107⟩ S107
        rw [q107] at S107
        have A107 := S107.here
        show Done p e below _ (T107.setTop (mkF m 706 #[.val (.long x0), .second, .val (.int sh), .val (.int of), .val (.long n), .second, .val (.int at_), .val (.ref b2), .val (.ref b62), .val (.long (own_neg n)), .second, .val (.int dS), .val (.int ng), .val (.int en), .val (.int (at_ + own_ln n d))] [(.int (1 : Int32))]))
        refine k_if_eq A107 hx (hb hby at_706) (pcY := 873) (by decide) (pc' := 709) rfl (fun hc706 => absurd hc706 (by decide)) (fun hc706 => ?_)
        refine k_aload A107 hx (hb hby at_709) rfl rfl (pc' := 711) rfl ?_
        refine k_bipush A107 hx (hb hby at_711) (v := 16) rfl (pc' := 713) rfl ?_
        refine k_lload A107 hx (hb hby at_713) rfl (pc' := 715) rfl ?_
        refine k_aload A107 hx (hb hby at_715) rfl rfl (pc' := 717) rfl ?_
        refine k_iload A107 hx (hb hby at_717) rfl (pc' := 719) rfl ?_
        refine k_iload A107 hx (hb hby at_719) rfl (pc' := 721) rfl ?_
        refine k_iload A107 hx (hb hby at_721) rfl (pc' := 723) rfl ?_
        refine k_call_static S107 hx hZ hown (hw _ (List.mem_of_getElem? (i := 34) rfl)) (hw _ (List.mem_of_getElem? (i := 35) rfl)) (hw _ (List.mem_of_getElem? (i := 22) rfl)) (hw _ (List.mem_of_getElem? (i := 36) rfl)) (by decide) (own_cok l Z a0 hw b62 (16 : Int32) n b2 at_ en ng h88 n0 bs d V88 f89 hPL hat hee.symm hng ⟨by decide, by rw [hbl]; decide⟩ (hbs _ (by decide) (by decide))) 0 (argsL := [(.ref b62), (.int (16 : Int32)), (.long n), (.ref b2), (.int at_), (.int en), (.int ng)]) (rest := []) (by decide) (by decide) (by rw [hml]; rfl) (lenOf own_pd4 rfl) rfl rfl (Nat.le_refl 0) (hb hby at_723) (pc' := 726) rfl (by decide) (by decide) ?_
        rintro v108 T108 h108 ⟨rfl, q108⟩ S108
        rw [q108] at S108
        have A108 := S108.here
        show Done p e below _ (T108.setTop (mkF m 726 #[.val (.long x0), .second, .val (.int sh), .val (.int of), .val (.long n), .second, .val (.int at_), .val (.ref b2), .val (.ref b62), .val (.long (own_neg n)), .second, .val (.int dS), .val (.int ng), .val (.int en), .val (.int (at_ + own_ln n d))] [(.int (1 : Int32))]))
        refine k_if_eq A108 hx (hb hby at_726) (pcY := 873) (by decide) (pc' := 729) rfl (fun hc726 => absurd hc726 (by decide)) (fun hc726 => ?_)
        refine k_aload A108 hx (hb hby at_729) rfl rfl (pc' := 731) rfl ?_
        refine k_bipush A108 hx (hb hby at_731) (v := 17) rfl (pc' := 733) rfl ?_
        refine k_lload A108 hx (hb hby at_733) rfl (pc' := 735) rfl ?_
        refine k_aload A108 hx (hb hby at_735) rfl rfl (pc' := 737) rfl ?_
        refine k_iload A108 hx (hb hby at_737) rfl (pc' := 739) rfl ?_
        refine k_iload A108 hx (hb hby at_739) rfl (pc' := 741) rfl ?_
        refine k_iload A108 hx (hb hby at_741) rfl (pc' := 743) rfl ?_
        refine k_call_static S108 hx hZ hown (hw _ (List.mem_of_getElem? (i := 34) rfl)) (hw _ (List.mem_of_getElem? (i := 35) rfl)) (hw _ (List.mem_of_getElem? (i := 22) rfl)) (hw _ (List.mem_of_getElem? (i := 36) rfl)) (by decide) (own_cok l Z a0 hw b62 (17 : Int32) n b2 at_ en ng h88 n0 bs d V88 f89 hPL hat hee.symm hng ⟨by decide, by rw [hbl]; decide⟩ (hbs _ (by decide) (by decide))) 0 (argsL := [(.ref b62), (.int (17 : Int32)), (.long n), (.ref b2), (.int at_), (.int en), (.int ng)]) (rest := []) (by decide) (by decide) (by rw [hml]; rfl) (lenOf own_pd4 rfl) rfl rfl (Nat.le_refl 0) (hb hby at_743) (pc' := 746) rfl (by decide) (by decide) ?_
        rintro v109 T109 h109 ⟨rfl, q109⟩ S109
        rw [q109] at S109
        have A109 := S109.here
        show Done p e below _ (T109.setTop (mkF m 746 #[.val (.long x0), .second, .val (.int sh), .val (.int of), .val (.long n), .second, .val (.int at_), .val (.ref b2), .val (.ref b62), .val (.long (own_neg n)), .second, .val (.int dS), .val (.int ng), .val (.int en), .val (.int (at_ + own_ln n d))] [(.int (1 : Int32))]))
        refine k_if_eq A109 hx (hb hby at_746) (pcY := 873) (by decide) (pc' := 749) rfl (fun hc746 => absurd hc746 (by decide)) (fun hc746 => ?_)
        refine k_aload A109 hx (hb hby at_749) rfl rfl (pc' := 751) rfl ?_
        refine k_bipush A109 hx (hb hby at_751) (v := 18) rfl (pc' := 753) rfl ?_
        refine k_lload A109 hx (hb hby at_753) rfl (pc' := 755) rfl ?_
        refine k_aload A109 hx (hb hby at_755) rfl rfl (pc' := 757) rfl ?_
        refine k_iload A109 hx (hb hby at_757) rfl (pc' := 759) rfl ?_
        refine k_iload A109 hx (hb hby at_759) rfl (pc' := 761) rfl ?_
        refine k_iload A109 hx (hb hby at_761) rfl (pc' := 763) rfl ?_
        refine k_call_static S109 hx hZ hown (hw _ (List.mem_of_getElem? (i := 34) rfl)) (hw _ (List.mem_of_getElem? (i := 35) rfl)) (hw _ (List.mem_of_getElem? (i := 22) rfl)) (hw _ (List.mem_of_getElem? (i := 36) rfl)) (by decide) (own_cok l Z a0 hw b62 (18 : Int32) n b2 at_ en ng h88 n0 bs d V88 f89 hPL hat hee.symm hng ⟨by decide, by rw [hbl]; decide⟩ (hbs _ (by decide) (by decide))) 0 (argsL := [(.ref b62), (.int (18 : Int32)), (.long n), (.ref b2), (.int at_), (.int en), (.int ng)]) (rest := []) (by decide) (by decide) (by rw [hml]; rfl) (lenOf own_pd4 rfl) rfl rfl (Nat.le_refl 0) (hb hby at_763) (pc' := 766) rfl (by decide) (by decide) ?_
        rintro v110 T110 h110 ⟨rfl, q110⟩ S110
        rw [q110] at S110
        have A110 := S110.here
        show Done p e below _ (T110.setTop (mkF m 766 #[.val (.long x0), .second, .val (.int sh), .val (.int of), .val (.long n), .second, .val (.int at_), .val (.ref b2), .val (.ref b62), .val (.long (own_neg n)), .second, .val (.int dS), .val (.int ng), .val (.int en), .val (.int (at_ + own_ln n d))] [(.int (1 : Int32))]))
        refine k_if_eq A110 hx (hb hby at_766) (pcY := 873) (by decide) (pc' := 769) rfl (fun hc766 => absurd hc766 (by decide)) (fun hc766 => ?_)
        refine k_aload A110 hx (hb hby at_769) rfl rfl (pc' := 771) rfl ?_
        refine k_bipush A110 hx (hb hby at_771) (v := 19) rfl (pc' := 773) rfl ?_
        refine k_lload A110 hx (hb hby at_773) rfl (pc' := 775) rfl ?_
        refine k_aload A110 hx (hb hby at_775) rfl rfl (pc' := 777) rfl ?_
        refine k_iload A110 hx (hb hby at_777) rfl (pc' := 779) rfl ?_
        refine k_iload A110 hx (hb hby at_779) rfl (pc' := 781) rfl ?_
        refine k_iload A110 hx (hb hby at_781) rfl (pc' := 783) rfl ?_
        refine k_call_static S110 hx hZ hown (hw _ (List.mem_of_getElem? (i := 34) rfl)) (hw _ (List.mem_of_getElem? (i := 35) rfl)) (hw _ (List.mem_of_getElem? (i := 22) rfl)) (hw _ (List.mem_of_getElem? (i := 36) rfl)) (by decide) (own_cok l Z a0 hw b62 (19 : Int32) n b2 at_ en ng h88 n0 bs d V88 f89 hPL hat hee.symm hng ⟨by decide, by rw [hbl]; decide⟩ (hbs _ (by decide) (by decide))) 0 (argsL := [(.ref b62), (.int (19 : Int32)), (.long n), (.ref b2), (.int at_), (.int en), (.int ng)]) (rest := []) (by decide) (by decide) (by rw [hml]; rfl) (lenOf own_pd4 rfl) rfl rfl (Nat.le_refl 0) (hb hby at_783) (pc' := 786) rfl (by decide) (by decide) ?_
        rintro v111 T111 h111 ⟨rfl, q111⟩ S111
        rw [q111] at S111
        have A111 := S111.here
        show Done p e below _ (T111.setTop (mkF m 786 #[.val (.long x0), .second, .val (.int sh), .val (.int of), .val (.long n), .second, .val (.int at_), .val (.ref b2), .val (.ref b62), .val (.long (own_neg n)), .second, .val (.int dS), .val (.int ng), .val (.int en), .val (.int (at_ + own_ln n d))] [(.int (1 : Int32))]))
        refine k_if_eq A111 hx (hb hby at_786) (pcY := 873) (by decide) (pc' := 789) rfl (fun hc786 => absurd hc786 (by decide)) (fun hc786 => ?_)
        refine k_aload A111 hx (hb hby at_789) rfl rfl (pc' := 791) rfl ?_
        refine k_bipush A111 hx (hb hby at_791) (v := 20) rfl (pc' := 793) rfl ?_
        refine k_lload A111 hx (hb hby at_793) rfl (pc' := 795) rfl ?_
        refine k_aload A111 hx (hb hby at_795) rfl rfl (pc' := 797) rfl ?_
        refine k_iload A111 hx (hb hby at_797) rfl (pc' := 799) rfl ?_
        refine k_iload A111 hx (hb hby at_799) rfl (pc' := 801) rfl ?_
        refine k_iload A111 hx (hb hby at_801) rfl (pc' := 803) rfl ?_
        refine k_call_static S111 hx hZ hown (hw _ (List.mem_of_getElem? (i := 34) rfl)) (hw _ (List.mem_of_getElem? (i := 35) rfl)) (hw _ (List.mem_of_getElem? (i := 22) rfl)) (hw _ (List.mem_of_getElem? (i := 36) rfl)) (by decide) (own_cok l Z a0 hw b62 (20 : Int32) n b2 at_ en ng h88 n0 bs d V88 f89 hPL hat hee.symm hng ⟨by decide, by rw [hbl]; decide⟩ (hbs _ (by decide) (by decide))) 0 (argsL := [(.ref b62), (.int (20 : Int32)), (.long n), (.ref b2), (.int at_), (.int en), (.int ng)]) (rest := []) (by decide) (by decide) (by rw [hml]; rfl) (lenOf own_pd4 rfl) rfl rfl (Nat.le_refl 0) (hb hby at_803) (pc' := 806) rfl (by decide) (by decide) ?_
        rintro v112 T112 h112 ⟨rfl, q112⟩ S112
        rw [q112] at S112
        have A112 := S112.here
        show Done p e below _ (T112.setTop (mkF m 806 #[.val (.long x0), .second, .val (.int sh), .val (.int of), .val (.long n), .second, .val (.int at_), .val (.ref b2), .val (.ref b62), .val (.long (own_neg n)), .second, .val (.int dS), .val (.int ng), .val (.int en), .val (.int (at_ + own_ln n d))] [(.int (1 : Int32))]))
        refine k_if_eq A112 hx (hb hby at_806) (pcY := 873) (by decide) (pc' := 809) rfl (fun hc806 => absurd hc806 (by decide)) (fun hc806 => ?_)
        refine k_aload A112 hx (hb hby at_809) rfl rfl (pc' := 811) rfl ?_
        refine k_bipush A112 hx (hb hby at_811) (v := 21) rfl (pc' := 813) rfl ?_
        refine k_lload A112 hx (hb hby at_813) rfl (pc' := 815) rfl ?_
        refine k_aload A112 hx (hb hby at_815) rfl rfl (pc' := 817) rfl ?_
        refine k_iload A112 hx (hb hby at_817) rfl (pc' := 819) rfl ?_
        refine k_iload A112 hx (hb hby at_819) rfl (pc' := 821) rfl ?_
        refine k_iload A112 hx (hb hby at_821) rfl (pc' := 823) rfl ?_
        refine k_call_static S112 hx hZ hown (hw _ (List.mem_of_getElem? (i := 34) rfl)) (hw _ (List.mem_of_getElem? (i := 35) rfl)) (hw _ (List.mem_of_getElem? (i := 22) rfl)) (hw _ (List.mem_of_getElem? (i := 36) rfl)) (by decide) (own_cok l Z a0 hw b62 (21 : Int32) n b2 at_ en ng h88 n0 bs d V88 f89 hPL hat hee.symm hng ⟨by decide, by rw [hbl]; decide⟩ (hbs _ (by decide) (by decide))) 0 (argsL := [(.ref b62), (.int (21 : Int32)), (.long n), (.ref b2), (.int at_), (.int en), (.int ng)]) (rest := []) (by decide) (by decide) (by rw [hml]; rfl) (lenOf own_pd4 rfl) rfl rfl (Nat.le_refl 0) (hb hby at_823) (pc' := 826) rfl (by decide) (by decide) ?_
        rintro v113 T113 h113 ⟨rfl, q113⟩ S113
        rw [q113] at S113
        have A113 := S113.here
        show Done p e below _ (T113.setTop (mkF m 826 #[.val (.long x0), .second, .val (.int sh), .val (.int of), .val (.long n), .second, .val (.int at_), .val (.ref b2), .val (.ref b62), .val (.long (own_neg n)), .second, .val (.int dS), .val (.int ng), .val (.int en), .val (.int (at_ + own_ln n d))] [(.int (1 : Int32))]))
        refine k_if_eq A113 hx (hb hby at_826) (pcY := 873) (by decide) (pc' := 829) rfl (fun hc826 => absurd hc826 (by decide)) (fun hc826 => ?_)
        refine k_aload A113 hx (hb hby at_829) rfl rfl (pc' := 831) rfl ?_
        refine k_bipush A113 hx (hb hby at_831) (v := 22) rfl (pc' := 833) rfl ?_
        refine k_lload A113 hx (hb hby at_833) rfl (pc' := 835) rfl ?_
        refine k_aload A113 hx (hb hby at_835) rfl rfl (pc' := 837) rfl ?_
        refine k_iload A113 hx (hb hby at_837) rfl (pc' := 839) rfl ?_
        refine k_iload A113 hx (hb hby at_839) rfl (pc' := 841) rfl ?_
        refine k_iload A113 hx (hb hby at_841) rfl (pc' := 843) rfl ?_
        refine k_call_static S113 hx hZ hown (hw _ (List.mem_of_getElem? (i := 34) rfl)) (hw _ (List.mem_of_getElem? (i := 35) rfl)) (hw _ (List.mem_of_getElem? (i := 22) rfl)) (hw _ (List.mem_of_getElem? (i := 36) rfl)) (by decide) (own_cok l Z a0 hw b62 (22 : Int32) n b2 at_ en ng h88 n0 bs d V88 f89 hPL hat hee.symm hng ⟨by decide, by rw [hbl]; decide⟩ (hbs _ (by decide) (by decide))) 0 (argsL := [(.ref b62), (.int (22 : Int32)), (.long n), (.ref b2), (.int at_), (.int en), (.int ng)]) (rest := []) (by decide) (by decide) (by rw [hml]; rfl) (lenOf own_pd4 rfl) rfl rfl (Nat.le_refl 0) (hb hby at_843) (pc' := 846) rfl (by decide) (by decide) ?_
        rintro v114 T114 h114 ⟨rfl, q114⟩ S114
        rw [q114] at S114
        have A114 := S114.here
        show Done p e below _ (T114.setTop (mkF m 846 #[.val (.long x0), .second, .val (.int sh), .val (.int of), .val (.long n), .second, .val (.int at_), .val (.ref b2), .val (.ref b62), .val (.long (own_neg n)), .second, .val (.int dS), .val (.int ng), .val (.int en), .val (.int (at_ + own_ln n d))] [(.int (1 : Int32))]))
        refine k_if_eq A114 hx (hb hby at_846) (pcY := 873) (by decide) (pc' := 849) rfl (fun hc846 => absurd hc846 (by decide)) (fun hc846 => ?_)
        refine k_aload A114 hx (hb hby at_849) rfl rfl (pc' := 851) rfl ?_
        refine k_bipush A114 hx (hb hby at_851) (v := 23) rfl (pc' := 853) rfl ?_
        refine k_lload A114 hx (hb hby at_853) rfl (pc' := 855) rfl ?_
        refine k_aload A114 hx (hb hby at_855) rfl rfl (pc' := 857) rfl ?_
        refine k_iload A114 hx (hb hby at_857) rfl (pc' := 859) rfl ?_
        refine k_iload A114 hx (hb hby at_859) rfl (pc' := 861) rfl ?_
        refine k_iload A114 hx (hb hby at_861) rfl (pc' := 863) rfl ?_
        refine k_call_static S114 hx hZ hown (hw _ (List.mem_of_getElem? (i := 34) rfl)) (hw _ (List.mem_of_getElem? (i := 35) rfl)) (hw _ (List.mem_of_getElem? (i := 22) rfl)) (hw _ (List.mem_of_getElem? (i := 36) rfl)) (by decide) (own_cok l Z a0 hw b62 (23 : Int32) n b2 at_ en ng h88 n0 bs d V88 f89 hPL hat hee.symm hng ⟨by decide, by rw [hbl]; decide⟩ (hbs _ (by decide) (by decide))) 0 (argsL := [(.ref b62), (.int (23 : Int32)), (.long n), (.ref b2), (.int at_), (.int en), (.int ng)]) (rest := []) (by decide) (by decide) (by rw [hml]; rfl) (lenOf own_pd4 rfl) rfl rfl (Nat.le_refl 0) (hb hby at_863) (pc' := 866) rfl (by decide) (by decide) ?_
        rintro v115 T115 h115 ⟨rfl, q115⟩ S115
        rw [q115] at S115
        have A115 := S115.here
        show Done p e below _ (T115.setTop (mkF m 866 #[.val (.long x0), .second, .val (.int sh), .val (.int of), .val (.long n), .second, .val (.int at_), .val (.ref b2), .val (.ref b62), .val (.long (own_neg n)), .second, .val (.int dS), .val (.int ng), .val (.int en), .val (.int (at_ + own_ln n d))] [(.int (1 : Int32))]))
        refine k_if_eq A115 hx (hb hby at_866) (pcY := 873) (by decide) (pc' := 869) rfl (fun hc866 => absurd hc866 (by decide)) (fun hc866 => ?_)
        refine k_iconst A115 hx (hb hby at_869) (v := 1) rfl (pc' := 870) rfl ?_
        refine k_goto A115 hx (hb hby at_870) (pc' := 874) (by decide) ?_
        refine k_ret_nar S115 hx (t := .boolean) hret (by simp) hlk (hb hby at_874) (z' := (1 : Int32)) rfl (by decide) (by decide) ?_
        exact rfl
      refine k_iload A86 hx (hb hby at_361) rfl (pc' := 363) rfl ?_
      refine k_if_eq A86 hx (hb hby at_363) (pcY := 370) (by decide) (pc' := 366) rfl (fun hc363 => ?_) (fun hc363 => ?_)
      · refine k_iconst A86 hx (hb hby at_370) (v := 0) rfl (pc' := 371) rfl ?_
        exact J371_87 T86 (0 : Int32) (S86.more (by decide) (by decide)) (if_pos hc363).symm
      · refine k_iconst A86 hx (hb hby at_366) (v := 1) rfl (pc' := 367) rfl ?_
        refine k_goto A86 hx (hb hby at_367) (pc' := 371) (by decide) ?_
        exact J371_87 T86 (1 : Int32) (S86.more (by decide) (by decide)) (if_neg hc363).symm
    refine k_lload A85 hx (hb hby at_345) rfl (pc' := 347) rfl ?_
    refine k_lconst A85 hx (hb hby at_347) (v := 0) rfl (pc' := 348) rfl ?_
    refine k_lcmp_ge A85 hx (hb hby at_348) (hb hby at_349) (pcY := 356) (by decide) (pc' := 352) rfl (fun hc348 => ?_) (fun hc348 => ?_)
    · refine k_iconst A85 hx (hb hby at_356) (v := 0) rfl (pc' := 357) rfl ?_
      exact J357_86 T85 (0 : Int32) (S85.more (by decide) (by decide)) (if_neg hc348).symm
    · refine k_iconst A85 hx (hb hby at_352) (v := 1) rfl (pc' := 353) rfl ?_
      refine k_goto A85 hx (hb hby at_353) (pc' := 357) (by decide) ?_
      exact J357_86 T85 (1 : Int32) (S85.more (by decide) (by decide)) (if_pos hc348).symm
  refine k_lload A62 hx (hb hby at_150) rfl (pc' := 152) rfl ?_
  refine k_lconst A62 hx (hb hby at_152) (v := 0) rfl (pc' := 153) rfl ?_
  refine k_lcmp_ge A62 hx (hb hby at_153) (hb hby at_154) (pcY := 162) (by decide) (pc' := 157) rfl (fun hc153 => ?_) (fun hc153 => ?_)
  · refine k_lload A62 hx (hb hby at_162) rfl (pc' := 164) rfl ?_
    refine k_lneg A62 hx (hb hby at_164) (pc' := 165) rfl ?_
    exact J165_67 T62 (-n) (S62.more (by decide) (by decide)) (if_neg hc153).symm
  · refine k_lload A62 hx (hb hby at_157) rfl (pc' := 159) rfl ?_
    refine k_goto A62 hx (hb hby at_159) (pc' := 165) (by decide) ?_
    exact J165_67 T62 n (S62.more (by decide) (by decide)) (if_pos hc153).symm
set_option maxRecDepth 65536 in
set_option maxHeartbeats 40000000 in
theorem comes_1 {Post : Tables → Env → Array Value → State → Outcome → State → Prop} (hpost : ∀ tb e args s v u, (limb_1_1.after args s (.returned v) u = true ∧ limb_1_2.after args s (.returned v) u = true ∧ True) → FrameEnd s (.returned v) u (Jvm.fieldLocs frame_1_writes args s ++ Jvm.arrayLocs frame_1_arrays args s ++ Jvm.staticLocs frame_1_statics s) 16 192 → Post tb e args s (.returned v) u) :
    ArmFor flags0 classFile x code maxLocals ret World_1 tables_1 room_1 Calls_1 rest_1 Pre_1 Post := by
  intro l hfl _ _ p e ha hc hk s m args below hf hA hF happ hP
  obtain ⟨hcalls, hrest, hpre⟩ := hP
  obtain ⟨-, -, -, hnamed, -, -, -, hat⟩ := (Spec.applies_iff hf).mp happ
  obtain ⟨hg, hn⟩ := and_e (Cond.before_iff.mp (show (Jvm.Cond.and given_1 narrow_1).before args s = true from hpre))
  obtain ⟨g1, g2⟩ := and_e hg
  obtain ⟨g3, g4⟩ := and_e g2
  obtain ⟨g5, g6⟩ := and_e g4
  obtain ⟨w0, w1, w2, rfl⟩ : ∃ w0 w1 w2 : Value, args = #[w0, w1, w2] := by
    have hs : args.size = 3 := by simpa [Cond.value, given_1] using g1
    obtain ⟨L⟩ := args
    match L, hs with
    | [w0, w1, w2], _ => exact ⟨w0, w1, w2, rfl⟩
  have hw := fun d (hd : d ∈ tables_1) => atoms_spec (ws := Jvm.Cond.code x code maxLocals ret :: tables_1) hat d (List.mem_cons_of_mem _ hd)
  obtain ⟨i0, ei0⟩ := isL_v g3
  obtain rfl : w0 = (.long i0) := Option.some.inj ei0
  obtain ⟨i1, ei1⟩ := is_v g5
  obtain rfl : w1 = (.int i1) := Option.some.inj ei1
  obtain ⟨i2, ei2⟩ := is_v g6
  obtain rfl : w2 = (.int i2) := Option.some.inj ei2
  obtain ⟨n, o, h1, h2, h3, _, L, rfl, ⟨rfl, N⟩, hq⟩ := own_law l s _ hw i0 i1 i2 s.heap s.heap.size (Nat.le_refl _) tables_1 p e ha hc hk s m _ below hf ((Spec.applies_iff_loose hf).mp happ).1 ⟨rfl, State.Warmed39.refl s, rfl⟩ trivial
  refine ⟨n, _, h1, h2, h3, hpost _ _ _ _ _ _ ⟨Cond.after_iff.mpr rfl, Cond.after_iff.mpr (eq_i res_at (Term.int_eval (1)) rfl), trivial⟩ ⟨hq.1, hq.2.1, (hq.2.2.sift fun y hy => Or.inr (N y hy)).mono (by decide) (by decide)⟩⟩
theorem main_1_1 : Claimed_1_1 := comes_1 fun _ _ _ _ _ _ h hF => ⟨h.1, hF⟩
theorem main_1_2 : Claimed_1_2 := comes_1 fun _ _ _ _ _ _ h hF => ⟨h.2.1, hF⟩
end Jvm.Pilot.@@N@@
namespace Jvm.Pilot.@@N@@
open Jvm Jvm.ClassFile Sem Op Lib Jvm.Free Jvm.Stand Jvm.Pilot.@@N@@.Jvm.D
/-! MADE BY PROGRAM (witnessworld.py) out of the Statement's table words and the real class files: 12 classes; the members and pool entries that the words name. The judged class is class 1, her method 1. -/
namespace start1
open Jvm.ClassFile
def u (s : String) : CpInfo := .utf8 (stringToUtf16 s)
/-- a pool by its gaps: so many unusable entries, then the entry; so many at the end -/
def gap : Nat → List CpInfo → List CpInfo
  | 0, r => r
  | n + 1, r => .unusable :: gap n r
def poolList (es : List (Nat × CpInfo)) (last : Nat) : List CpInfo := es.foldr (fun e r => gap e.1 (e.2 :: r)) (gap last [])
def pool (es : List (Nat × CpInfo)) (last : Nat) : Array CpInfo := ⟨poolList es last⟩
def fileOf (pool : Array CpInfo) (this : Nat) (attrs : Array Attribute := #[]) (ms : Array MethodInfo := #[]) (fl : Nat := 33) (sup : Nat := 0) (ifs : Array Nat := #[]) (fds : Array FieldInfo := #[]) : ClassFile where
  minorVersion := 0
  majorVersion := 65
  constantPool := pool
  accessFlags := fl
  thisClass := this
  superClass := sup
  interfaces := ifs
  fields := fds
  methods := ms
  attributes := attrs
def plain (name : String) (sup : Option ClassId) : Class where
  name := name
  kind := .ordinary
  loader := none
  accessFlags := 33
  super := sup
  interfaces := #[]
  cf := none
  fields := #[]
  methods := #[]
  instanceTypes := #[]
  staticTypes := #[]
  resolved := #[]
  callSites := []
  init := .initialized
  statics := none
  mirror := none

def pool0 : Array CpInfo := pool [(5, u "<init>"), (0, u "()V"), (1, .class_ 10), (1, u "java/lang/Object")] 113

def k0m0 : Method := { name := "<init>", desc := "()V", sig := { parameters := [], returnType := none }, accessFlags := 1, code := none }
/-- java/lang/Object -/
def k0 : Class := { plain "java/lang/Object" none with
  accessFlags := 33
  interfaces := #[]
  cf := some (fileOf pool0 8 #[] #[{ accessFlags := 1, nameIndex := 5, descriptorIndex := 6, attributes := #[] }] 33 0 #[] #[])
  fields := #[]
  methods := #[k0m0]
  instanceTypes := #[]
  staticTypes := #[]
  resolved := Array.replicate 124 none
  statics := none }

def pool1 : Array CpInfo := pool [(2, .class_ 4), (1, u "java/lang/Object"), (0, u "<init>"), (0, u "()V"), (0, .long 10), (1, .long 100), (1, .long 1000), (1, .long 10000), (1, .long 100000), (1, .long 1000000), (1, .long 10000000), (1, .long 100000000), (1, .long 1000000000), (1, .long 10000000000), (1, .long 100000000000), (1, .long 1000000000000), (1, .long 10000000000000), (1, .long 100000000000000), (1, .long 1000000000000000), (1, .long 10000000000000000), (1, .long 100000000000000000), (1, .long 1000000000000000000), (1, .methodref 44 45), (0, .class_ 46), (0, .nameAndType 47 48), (0, u "com/example/fold/fold/DecimalPutPinLaw"), (0, u "ge"), (0, u "(J[JI)I"), (0, .methodref 50 51), (0, .class_ 52), (0, .nameAndType 53 54), (0, u "com/example/fold/fold/Decimal"), (0, u "put"), (0, u "(J[BI)I"), (0, .methodref 44 56), (0, .nameAndType 57 58), (0, u "ok"), (0, u "([BIJ[JIIZ)Z"), (0, .methodref 60 61), (0, .class_ 62), (0, .nameAndType 63 64), (0, u "java/lang/Math"), (0, u "abs"), (0, u "(J)J"), (2, u "law"), (0, u "(JII)Z")] 7

def k1m0 : Method := { name := "<init>", desc := "()V", sig := { parameters := [], returnType := none }, accessFlags := 2, code := none }
def k1c1 : Code := { maxStack := 8, maxLocals := 15, code := code, exceptionTable := #[], attributes := #[] }
def k1m1 : Method := { name := "law", desc := "(JII)Z", sig := { parameters := [.long, .int, .int], returnType := some .boolean }, accessFlags := 9, code := some k1c1 }
def k1c2 : Code := { maxStack := 4, maxLocals := 4, code := method_3_code, exceptionTable := #[], attributes := #[] }
def k1m2 : Method := { name := "ge", desc := "(J[JI)I", sig := { parameters := [.long, (.array .long), .int], returnType := some .int }, accessFlags := 10, code := some k1c2 }
def k1c3 : Code := { maxStack := 6, maxLocals := 9, code := method_4_code, exceptionTable := #[], attributes := #[] }
def k1m3 : Method := { name := "ok", desc := "([BIJ[JIIZ)Z", sig := { parameters := [(.array .byte), .int, .long, (.array .long), .int, .int, .boolean], returnType := some .boolean }, accessFlags := 10, code := some k1c3 }
/-- com/example/fold/fold/DecimalPutPinLaw -/
def k1 : Class := { plain "com/example/fold/fold/DecimalPutPinLaw" (some 0) with
  accessFlags := 49
  interfaces := #[]
  cf := some (fileOf pool1 44 #[] #[{ accessFlags := 2, nameIndex := 5, descriptorIndex := 6, attributes := #[] }, { accessFlags := 9, nameIndex := 67, descriptorIndex := 68, attributes := #[] }, { accessFlags := 10, nameIndex := 47, descriptorIndex := 48, attributes := #[] }, { accessFlags := 10, nameIndex := 57, descriptorIndex := 58, attributes := #[] }] 49 2 #[] #[])
  fields := #[]
  methods := #[k1m0, k1m1, k1m2, k1m3]
  instanceTypes := #[]
  staticTypes := #[]
  resolved := Array.replicate 76 none
  statics := none }

def pool2 : Array CpInfo := pool [(2, .class_ 4), (1, u "java/lang/Object"), (0, u "<init>"), (0, u "()V"), (0, .methodref 8 9), (0, .class_ 10), (0, .nameAndType 11 12), (0, u "com/example/fold/fold/Decimal"), (0, u "length"), (0, u "(J)I"), (2, u "put"), (0, u "(J[BI)I"), (0, .long 48), (1, .long 10), (45, .long 18446744073709551606), (25, u "MAX_DIGITS"), (0, u "I")] 11

def k2m0 : Method := { name := "<init>", desc := "()V", sig := { parameters := [], returnType := none }, accessFlags := 2, code := none }
def k2c1 : Code := { maxStack := 8, maxLocals := 8, code := prog_2_method_3_code, exceptionTable := #[], attributes := #[] }
def k2m1 : Method := { name := "put", desc := "(J[BI)I", sig := { parameters := [.long, (.array .byte), .int], returnType := some .int }, accessFlags := 8, code := some k2c1 }
def k2c2 : Code := { maxStack := 4, maxLocals := 7, code := prog_2_method_7_code, exceptionTable := #[], attributes := #[] }
def k2m2 : Method := { name := "length", desc := "(J)I", sig := { parameters := [.long], returnType := some .int }, accessFlags := 8, code := some k2c2 }
/-- com/example/fold/fold/Decimal -/
def k2 : Class := { plain "com/example/fold/fold/Decimal" (some 0) with
  accessFlags := 32
  interfaces := #[]
  cf := some (fileOf pool2 8 #[] #[{ accessFlags := 2, nameIndex := 5, descriptorIndex := 6, attributes := #[] }, { accessFlags := 8, nameIndex := 15, descriptorIndex := 16, attributes := #[] }, { accessFlags := 8, nameIndex := 11, descriptorIndex := 12, attributes := #[] }] 32 2 #[] #[{ accessFlags := 26, nameIndex := 91, descriptorIndex := 92, attributes := #[] }])
  fields := #[{ name := "MAX_DIGITS", type := .int, accessFlags := 26, slot := 0, constantValue := 0 }]
  methods := #[k2m0, k2m1, k2m2]
  instanceTypes := #[]
  staticTypes := #[.int]
  resolved := Array.replicate 104 none
  statics := none }

def pool3 : Array CpInfo := pool [(1, .class_ 2), (0, u "java/lang/Math"), (1, .class_ 6), (1, u "java/lang/Object"), (0, u "<init>"), (0, u "()V"), (89, .class_ 100), (1, u "java/lang/Math$RandomNumberGeneratorHolder"), (23, u "abs"), (0, u "(J)J"), (46, u "negativeZeroFloatBits"), (0, u "J"), (2, u "negativeZeroDoubleBits"), (68, u "$assertionsDisabled"), (0, u "Z"), (91, u "twoToTheDoubleScaleDown"), (0, u "D"), (4, u "twoToTheDoubleScaleUp"), (9, u "E"), (3, u "PI"), (2, u "TAU"), (2, u "DEGREES_TO_RADIANS"), (0, u "RADIANS_TO_DEGREES")] 94

def k3m0 : Method := { name := "<init>", desc := "()V", sig := { parameters := [], returnType := none }, accessFlags := 2, code := none }
def k3c1 : Code := { maxStack := 4, maxLocals := 2, code := jdk_29_method_61_code, exceptionTable := #[], attributes := #[] }
def k3m1 : Method := { name := "abs", desc := "(J)J", sig := { parameters := [.long], returnType := some .long }, accessFlags := 9, code := some k3c1 }
/-- java/lang/Math -/
def k3 : Class := { plain "java/lang/Math" (some 0) with
  accessFlags := 49
  interfaces := #[]
  cf := some (fileOf pool3 1 #[.nestMembers #[98]] #[{ accessFlags := 2, nameIndex := 7, descriptorIndex := 8, attributes := #[] }, { accessFlags := 9, nameIndex := 124, descriptorIndex := 125, attributes := #[] }] 49 4 #[] #[{ accessFlags := 25, nameIndex := 354, descriptorIndex := 339, attributes := #[] }, { accessFlags := 25, nameIndex := 358, descriptorIndex := 339, attributes := #[] }, { accessFlags := 25, nameIndex := 361, descriptorIndex := 339, attributes := #[] }, { accessFlags := 26, nameIndex := 364, descriptorIndex := 339, attributes := #[] }, { accessFlags := 26, nameIndex := 365, descriptorIndex := 339, attributes := #[] }, { accessFlags := 26, nameIndex := 172, descriptorIndex := 173, attributes := #[] }, { accessFlags := 26, nameIndex := 176, descriptorIndex := 173, attributes := #[] }, { accessFlags := 8, nameIndex := 344, descriptorIndex := 339, attributes := #[] }, { accessFlags := 8, nameIndex := 338, descriptorIndex := 339, attributes := #[] }, { accessFlags := 4120, nameIndex := 245, descriptorIndex := 246, attributes := #[] }])
  fields := #[{ name := "E", type := .double, accessFlags := 25, slot := 0, constantValue := 0 }, { name := "PI", type := .double, accessFlags := 25, slot := 1, constantValue := 0 }, { name := "TAU", type := .double, accessFlags := 25, slot := 2, constantValue := 0 }, { name := "DEGREES_TO_RADIANS", type := .double, accessFlags := 26, slot := 3, constantValue := 0 }, { name := "RADIANS_TO_DEGREES", type := .double, accessFlags := 26, slot := 4, constantValue := 0 }, { name := "negativeZeroFloatBits", type := .long, accessFlags := 26, slot := 5, constantValue := 0 }, { name := "negativeZeroDoubleBits", type := .long, accessFlags := 26, slot := 6, constantValue := 0 }, { name := "twoToTheDoubleScaleUp", type := .double, accessFlags := 8, slot := 7, constantValue := 0 }, { name := "twoToTheDoubleScaleDown", type := .double, accessFlags := 8, slot := 8, constantValue := 0 }, { name := "$assertionsDisabled", type := .boolean, accessFlags := 4120, slot := 9, constantValue := 0 }]
  methods := #[k3m0, k3m1]
  instanceTypes := #[]
  staticTypes := #[.double, .double, .double, .double, .double, .long, .long, .double, .double, .boolean]
  resolved := Array.replicate 460 none
  statics := none }

def pool4 : Array CpInfo := pool [(1, u "java/lang/Cloneable"), (0, .class_ 1), (0, u "java/lang/Object"), (0, .class_ 3)] 3

/-- java/lang/Cloneable -/
def k4 : Class := { plain "java/lang/Cloneable" (some 0) with
  accessFlags := 1537
  interfaces := #[]
  cf := some (fileOf pool4 2 #[] #[] 1537 4 #[] #[])
  fields := #[]
  methods := #[]
  instanceTypes := #[]
  staticTypes := #[]
  resolved := Array.replicate 8 none
  statics := none }

def pool5 : Array CpInfo := pool [(1, u "java/io/Serializable"), (0, .class_ 1), (0, u "java/lang/Object"), (0, .class_ 3)] 3

/-- java/io/Serializable -/
def k5 : Class := { plain "java/io/Serializable" (some 0) with
  accessFlags := 1537
  interfaces := #[]
  cf := some (fileOf pool5 2 #[] #[] 1537 4 #[] #[])
  fields := #[]
  methods := #[]
  instanceTypes := #[]
  staticTypes := #[]
  resolved := Array.replicate 8 none
  statics := none }

/-- the primitive byte -/
def k6 : Class := { plain "byte" none with kind := .primitive 'B', accessFlags := 0x411 }
/-- [B -/
def k7 : Class := { plain "[B" (some 0) with kind := .array 6 .byte, interfaces := #[4, 5], accessFlags := 1041 }

/-- the primitive int -/
def k8 : Class := { plain "int" none with kind := .primitive 'I', accessFlags := 0x411 }
/-- [I -/
def k9 : Class := { plain "[I" (some 0) with kind := .array 8 .int, interfaces := #[4, 5], accessFlags := 1041 }

/-- the primitive long -/
def k10 : Class := { plain "long" none with kind := .primitive 'J', accessFlags := 0x411 }
/-- [J -/
def k11 : Class := { plain "[J" (some 0) with kind := .array 10 .long, interfaces := #[4, 5], accessFlags := 1041 }

def heap : Heap := #[]
def classes : Array Class := #[k0, k1, k2, k3, k4, k5, k6, k7, k8, k9, k10, k11]
def interned : List (Array UInt16 × Addr) := []
def slotsUsed : Nat := 0
def theMethod : MethodId := ⟨1, 1⟩
def args0 : Array Value := #[.long 5, .int 3, .int 1]
def aboutOver (below : List Frame) : State where
  vm := { classes := classes, interned := interned.toArray }
  heap := heap
  slotsUsed := slotsUsed
  threads := #[{ frames := .invoking theMethod args0 :: below }]
def below0 : List Frame := [.native { method := ⟨0, 0⟩, args := #[] }]
def about1 : State := aboutOver below0
def p0 : Program := .bare "" "" ""
def e0 : Env := launch0.env 0 0 0
theorem w_frames : about1.frames = Frame.invoking theMethod args0 :: below0 := rfl
set_option maxRecDepth 65536 in
theorem w_args : argsFit about1.vm theMethod args0 = true := by decide +kernel
set_option maxRecDepth 65536 in
theorem w_heap : heapFits about1 = true := by decide +kernel
set_option maxRecDepth 65536 in
theorem w_runnable : about1.curStatus? = some .runnable := by decide +kernel
set_option maxRecDepth 65536 in
theorem w_alone : about1.alone = true := by decide +kernel
set_option maxRecDepth 65536 in
theorem w_named : about1.methodNamed? x = some theMethod := by decide +kernel
set_option maxRecDepth 65536 in
theorem w_hears : about1.hears theMethod below0 = true := by decide +kernel
set_option maxRecDepth 65536 in
theorem w_ripe : about1.ripe theMethod args0 below0 = true := by decide +kernel
theorem w_running : about1.status = .running := rfl
set_option maxRecDepth 65536 in
theorem w_room : about1.hasRoom e0.platform room_1 = true :=
  launch0.hasRoom_least _ room_1 (by decide +kernel) (by decide +kernel) (by decide +kernel) (by decide +kernel) (by decide +kernel) (by decide +kernel)
theorem allAtoms_all (ts : List Jvm.Cond) (a : Array Jvm.Value) (st : Jvm.State) : (allAtoms ts).before a st = ts.all (fun c => c.before a st) := by
  induction ts with
  | nil => rfl
  | cons c t ih =>
    show (Jvm.Cond.and c (allAtoms t)).before a st = _
    rw [Jvm.Cond.before_and, ih, List.all_cons]
def words1 : List Jvm.Cond := Jvm.Cond.code x code maxLocals ret :: tables_1
/-- a 'code' word, met by the world's own term for the bytes: nothing is compared byte by byte -/
theorem code_word {y : MethodName} {bytes : ByteArray} {mx : Nat} {rt : Option FieldType} {a : Array Value} {s : State} {m : MethodId} {meth : Method} {c : Code} (h1 : s.methodNamed? y = some m) (h2 : s.vm.method? m = some meth) (h3 : meth.code = some c) (h4 : c.code = bytes)
    (h5 : (c.maxLocals == mx && c.exceptionTable.isEmpty && decide (c.maxStack ≤ mostOperands) && decide (meth.sig.returnType = rt) && !meth.locks && decide (parseMethodDescriptor y.desc = some meth.sig)) = true) : (Jvm.Cond.code y bytes mx rt).before a s = true := by
  simp only [Bool.and_eq_true, beq_iff_eq, Bool.not_eq_true', decide_eq_true_eq] at h5
  obtain ⟨⟨⟨⟨⟨g1, g2⟩, g3⟩, g4⟩, g5⟩, g6⟩ := h5
  simp [Cond.before, Cond.holds, Cond.value, h1, h2, h3, h4, g1, g2, g3, g4, g5, g6]
def isCode : Jvm.Cond → Bool
  | .code _ _ _ _ => true
  | _ => false
theorem all_split {L : List Jvm.Cond} {P : Jvm.Cond → Bool} (h1 : L.all (fun c => isCode c || P c) = true) (h2 : ∀ c ∈ L.filter isCode, P c = true) : L.all P = true := by
  refine List.all_eq_true.mpr fun c hc => ?_
  have h := List.all_eq_true.mp h1 c hc
  rcases Bool.eq_false_or_eq_true (isCode c) with hi | hi
  · exact h2 c (List.mem_filter.mpr ⟨hc, hi⟩)
  · simpa [hi] using h
set_option maxRecDepth 65536 in
theorem w_c0 : (Jvm.Cond.code x code maxLocals ret).before args0 about1 = true := code_word (m := ⟨1, 1⟩) (meth := k1m1) (c := k1c1) (by decide +kernel) rfl rfl rfl (by decide +kernel)
set_option maxRecDepth 65536 in
theorem w_c1 : (Jvm.Cond.code ({ cls := "com/example/fold/fold/DecimalPutPinLaw", name := "ge", desc := "(J[JI)I" } : Jvm.MethodName) method_3_code (4 : Nat) (Option.some Jvm.ClassFile.FieldType.int)).before args0 about1 = true := code_word (m := ⟨1, 2⟩) (meth := k1m2) (c := k1c2) (by decide +kernel) rfl rfl rfl (by decide +kernel)
set_option maxRecDepth 65536 in
theorem w_c2 : (Jvm.Cond.code ({ cls := "com/example/fold/fold/Decimal", name := "put", desc := "(J[BI)I" } : Jvm.MethodName) prog_2_method_3_code (8 : Nat) (Option.some Jvm.ClassFile.FieldType.int)).before args0 about1 = true := code_word (m := ⟨2, 1⟩) (meth := k2m1) (c := k2c1) (by decide +kernel) rfl rfl rfl (by decide +kernel)
set_option maxRecDepth 65536 in
theorem w_c3 : (Jvm.Cond.code ({ cls := "com/example/fold/fold/Decimal", name := "length", desc := "(J)I" } : Jvm.MethodName) prog_2_method_7_code (7 : Nat) (Option.some Jvm.ClassFile.FieldType.int)).before args0 about1 = true := code_word (m := ⟨2, 2⟩) (meth := k2m2) (c := k2c2) (by decide +kernel) rfl rfl rfl (by decide +kernel)
set_option maxRecDepth 65536 in
theorem w_c4 : (Jvm.Cond.code ({ cls := "com/example/fold/fold/DecimalPutPinLaw", name := "ok", desc := "([BIJ[JIIZ)Z" } : Jvm.MethodName) method_4_code (9 : Nat) (Option.some Jvm.ClassFile.FieldType.boolean)).before args0 about1 = true := code_word (m := ⟨1, 3⟩) (meth := k1m3) (c := k1c3) (by decide +kernel) rfl rfl rfl (by decide +kernel)
set_option maxRecDepth 65536 in
theorem w_c5 : (Jvm.Cond.code ({ cls := "java/lang/Math", name := "abs", desc := "(J)J" } : Jvm.MethodName) jdk_29_method_61_code (2 : Nat) (Option.some Jvm.ClassFile.FieldType.long)).before args0 about1 = true := code_word (m := ⟨3, 1⟩) (meth := k3m1) (c := k3c1) (by decide +kernel) rfl rfl rfl (by decide +kernel)
def codes1 : List Jvm.Cond := [Jvm.Cond.code x code maxLocals ret, Jvm.Cond.code ({ cls := "com/example/fold/fold/DecimalPutPinLaw", name := "ge", desc := "(J[JI)I" } : Jvm.MethodName) method_3_code (4 : Nat) (Option.some Jvm.ClassFile.FieldType.int), Jvm.Cond.code ({ cls := "com/example/fold/fold/Decimal", name := "put", desc := "(J[BI)I" } : Jvm.MethodName) prog_2_method_3_code (8 : Nat) (Option.some Jvm.ClassFile.FieldType.int), Jvm.Cond.code ({ cls := "com/example/fold/fold/Decimal", name := "length", desc := "(J)I" } : Jvm.MethodName) prog_2_method_7_code (7 : Nat) (Option.some Jvm.ClassFile.FieldType.int), Jvm.Cond.code ({ cls := "com/example/fold/fold/DecimalPutPinLaw", name := "ok", desc := "([BIJ[JIIZ)Z" } : Jvm.MethodName) method_4_code (9 : Nat) (Option.some Jvm.ClassFile.FieldType.boolean), Jvm.Cond.code ({ cls := "java/lang/Math", name := "abs", desc := "(J)J" } : Jvm.MethodName) jdk_29_method_61_code (2 : Nat) (Option.some Jvm.ClassFile.FieldType.long)]
set_option maxRecDepth 65536 in
theorem codes_eq : words1.filter isCode = codes1 := rfl
theorem w_codes : ∀ c ∈ words1.filter isCode, c.before args0 about1 = true := by
  rw [codes_eq]
  intro c hc
  simp only [codes1, List.mem_cons, List.not_mem_nil, or_false] at hc
  rcases hc with rfl | rfl | rfl | rfl | rfl | rfl
  · exact w_c0
  · exact w_c1
  · exact w_c2
  · exact w_c3
  · exact w_c4
  · exact w_c5
set_option maxRecDepth 65536 in
theorem w_t1 : (words1.take 24).all (fun c => isCode c || c.before args0 about1) = true := by decide +kernel
set_option maxRecDepth 65536 in
theorem w_t2 : (words1.drop 24).all (fun c => isCode c || c.before args0 about1) = true := by decide +kernel
theorem w_tables : (allAtoms (Jvm.Cond.code x code maxLocals ret :: tables_1)).before args0 about1 = true := by
  rw [allAtoms_all]
  show words1.all (fun c => c.before args0 about1) = true
  refine all_split ?_ w_codes
  rw [← List.take_append_drop 24 words1, List.all_append, w_t1, w_t2]
  rfl
set_option maxRecDepth 65536 in
theorem w_case : (Jvm.Cond.and given_1 narrow_1).before args0 about1 = true := by decide +kernel
theorem w_applies : (headSpec (Jvm.Cond.code x code maxLocals ret :: tables_1) room_1).applies x e0.platform about1 = true :=
  (Spec.applies_iff w_frames).mpr ⟨w_running, w_runnable, w_alone, w_named, w_hears, w_ripe, w_room, w_tables⟩
theorem atStart : AtStart classFile x code maxLocals ret World_1 tables_1 room_1 Calls_1 rest_1 Pre_1 launch0 p0 e0 about1 theMethod args0 below0 :=
  ⟨lists_1, trivial, launch0.admits_env _ _ _, launch0.least_env, fairChoices_fair.cas, fairChoices_fair.clock, w_frames, w_args, w_heap, w_applies, trivial, trivial, w_case⟩
end start1
theorem witness_1 : WitnessClaimed_1 := ⟨start1.p0, start1.e0, start1.about1, start1.theMethod, start1.args0, start1.below0, start1.atStart⟩
end Jvm.Pilot.@@N@@
