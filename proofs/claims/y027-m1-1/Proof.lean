import JvmDerived
import JvmDerived.Pilot.@@N@@Statement
import JvmDerived.Pilot.@@N@@Code
set_option linter.unusedVariables false
set_option linter.unusedSimpArgs false
namespace Jvm.OwnKit
open Sem ClassFile Op Lib Jvm.Stand Jvm.Free Jvm.LawKit Jvm.RoadKit
/-! My own layer: a walk forward. Done G S: from the state S the invocation comes to its end, and G holds there. -/
def Done (p : Program) (e : Env) (below : List Frame) (G : Outcome → State → Prop) (S : State) : Prop :=
  ∃ s₂ o, Steps p.tables e below S s₂ ∧ s₂.status = .running ∧ Ended s₂ below o ∧ G o s₂
/-- what a contract promises at the end: the value, the heap; all that was written lies at or above n0 -/
def OEnd (s : State) (R : Room) (n0 : Nat) (Q : Option Value → Heap → Prop) (o : Outcome) (U : State) : Prop :=
  ∃ v L, o = .returned v ∧ (Q v U.heap ∧ Fr n0 L) ∧ FrameEnd s o U L R.cells R.slots
/-- where the walk stands: a Stand whose writes lie at or above n0, and its heap -/
def St (p : Program) (l : Launch) (e : Env) (R : Room) (s : State) (m : MethodId) (args : Array Value) (below : List Frame) (meth : Method) (c : Code) (n0 : Nat) (T : State) (h : Heap) (k n : Nat) : Prop :=
  ∃ locs, Stand p l e R s m args below meth c T locs k n ∧ Fr n0 locs ∧ T.heap = h
/-- a contract of a body -/
def Con (l : Launch) (Z : State) (y : MethodName) (bytes : ByteArray) (maxL : Nat) (ret : Option FieldType) (rm : Room) (n0 : Nat) (h0 : Heap) (as' : Array Value) (Q : Option Value → Heap → Prop) : Prop :=
  ∀ ws : List Jvm.Cond, MetFree l y (head1 (Jvm.Cond.code y bytes maxL ret :: ws) rm) (fun a U => a = as' ∧ Z.Warmed39 U.vm ∧ U.heap = h0) (fun _ _ _ _ _ => True) (fun _ U o U' => OEnd U rm n0 Q o U')
section Walk
variable {p : Program} {l : Launch} {e : Env} {R : Room} {s : State} {m : MethodId} {args : Array Value} {below : List Frame} {meth : Method} {c : Code} {n0 : Nat} {T : State} {h : Heap} {k n : Nat} {Z : State} {a0 : Array Value}
variable {G : Outcome → State → Prop} {pc pc' : Nat} {Ls Ls' : Array Slot} {st : List Value}
theorem Done.go {S S' : State} (f : ∀ t, Steps p.tables e below S' t → Steps p.tables e below S t) (d : Done p e below G S') : Done p e below G S := by
  obtain ⟨s₂, o, h1, h2⟩ := d
  exact ⟨s₂, o, f _ h1, h2⟩
theorem St.here (S : St p l e R s m args below meth c n0 T h k n) : At T m c below := by
  obtain ⟨_, X, _⟩ := S
  exact X.here
theorem St.heap (S : St p l e R s m args below meth c n0 T h k n) : T.heap = h := by
  obtain ⟨_, _, _, q⟩ := S
  exact q
theorem St.more {k' n' : Nat} (S : St p l e R s m args below meth c n0 T h k n) (hk : k ≤ k') (hn : n ≤ n') : St p l e R s m args below meth c n0 T h k' n' := by
  obtain ⟨L, X, N, q⟩ := S
  exact ⟨L, X.more hk hn, N, q⟩
theorem Con.intro {y : MethodName} {bytes : ByteArray} {maxL : Nat} {ret : Option FieldType} {rm : Room} {h0 : Heap} {as' : Array Value} {Q : Option Value → Heap → Prop}
    (hp : plainFor y = true) (hef : ∀ m, entryFrame m as' maxL = mkF m 0 Ls [])
    (body : ∀ (p : Program) (e : Env) (s : State) (m : MethodId) (below : List Frame) (meth : Method) (c : Code) (s₁ : State), p.tables.exec = Jvm.exec → c.code = bytes → c.maxLocals = maxL → s.vm.findClass y.cls = some m.cls → meth.name = y.name →
      meth.sig.returnType = ret → meth.locks = false → Z.Warmed39 s.vm → St p l e rm s m as' below meth c n0 s₁ h0 0 0 → Done p e below (OEnd s rm n0 Q) (s₁.setTop (mkF m 0 Ls []))) :
    Con l Z y bytes maxL ret rm n0 h0 as' Q := by
  intro ws
  refine MetFree.of_bodySF hp hisR ?_
  intro p e s m args below meth c s₁ Bd hml0 hP hK
  obtain ⟨rfl, hZ, hh⟩ := hP
  have hr := body p e s m below meth c s₁ Bd.exec Bd.bytes hml0 (findClass_of_methodNamed Bd.named) (name_of_methodNamed Bd.named Bd.method).1 Bd.returns Bd.notSynchronized hZ ⟨[], Stand.of_body Bd, Fr.nil n0, by rw [← hh, Bd.state]; rfl⟩
  rw [← hef m] at hr
  exact hr
/-! ### single steps -/
theorem k_iload (A : At T m c below) (hx : p.tables.exec = Jvm.exec) {i : Nat} {v : Int32} (hd : decode c.code pc = .ok (.iload i, 2)) (hl : Ls[i]? = some (.val (.int v))) (hp : pc + 2 = pc')
    (K : Done p e below G (T.setTop (mkF m pc' Ls (.int v :: st)))) : Done p e below G (T.setTop (mkF m pc Ls st)) := by
  subst hp; exact Done.go (fun t q => XS.iload A hx rfl hd hl q) K
theorem k_iloadN (A : At T m c below) (hx : p.tables.exec = Jvm.exec) {i : Fin 4} {v : Int32} (hd : decode c.code pc = .ok (.iload_n i, 1)) (hl : Ls[i.val]? = some (.val (.int v))) (hp : pc + 1 = pc')
    (K : Done p e below G (T.setTop (mkF m pc' Ls (.int v :: st)))) : Done p e below G (T.setTop (mkF m pc Ls st)) := by
  subst hp; exact Done.go (fun t q => XS.iloadN A hx rfl hd hl q) K
theorem k_istore (A : At T m c below) (hx : p.tables.exec = Jvm.exec) {i : Nat} {v : Int32} (hd : decode c.code pc = .ok (.istore i, 2)) (hl : storeLocals Ls i (.int v) = some Ls') (hp : pc + 2 = pc')
    (K : Done p e below G (T.setTop (mkF m pc' Ls' st))) : Done p e below G (T.setTop (mkF m pc Ls (.int v :: st))) := by
  subst hp; exact Done.go (fun t q => XS.istore A hx rfl hd rfl hl q) K
theorem k_istoreN (A : At T m c below) (hx : p.tables.exec = Jvm.exec) {i : Fin 4} {v : Int32} (hd : decode c.code pc = .ok (.istore_n i, 1)) (hl : storeLocals Ls i.val (.int v) = some Ls') (hp : pc + 1 = pc')
    (K : Done p e below G (T.setTop (mkF m pc' Ls' st))) : Done p e below G (T.setTop (mkF m pc Ls (.int v :: st))) := by
  subst hp; exact Done.go (fun t q => XS.istoreN A hx rfl hd rfl hl q) K
theorem k_lload (A : At T m c below) (hx : p.tables.exec = Jvm.exec) {i : Nat} {v : Int64} (hd : decode c.code pc = .ok (.lload i, 2)) (hl : Ls[i]? = some (.val (.long v))) (hp : pc + 2 = pc')
    (K : Done p e below G (T.setTop (mkF m pc' Ls (.long v :: st)))) : Done p e below G (T.setTop (mkF m pc Ls st)) := by
  subst hp; exact Done.go (fun t q => XS.lload A hx rfl hd hl q) K
theorem k_lloadN (A : At T m c below) (hx : p.tables.exec = Jvm.exec) {i : Fin 4} {v : Int64} (hd : decode c.code pc = .ok (.lload_n i, 1)) (hl : Ls[i.val]? = some (.val (.long v))) (hp : pc + 1 = pc')
    (K : Done p e below G (T.setTop (mkF m pc' Ls (.long v :: st)))) : Done p e below G (T.setTop (mkF m pc Ls st)) := by
  subst hp; exact Done.go (fun t q => XS.lloadN A hx rfl hd hl q) K
theorem k_lstore (A : At T m c below) (hx : p.tables.exec = Jvm.exec) {i : Nat} {v : Int64} (hd : decode c.code pc = .ok (.lstore i, 2)) (hl : storeLocals Ls i (.long v) = some Ls') (hp : pc + 2 = pc')
    (K : Done p e below G (T.setTop (mkF m pc' Ls' st))) : Done p e below G (T.setTop (mkF m pc Ls (.long v :: st))) := by
  subst hp; exact Done.go (fun t q => XS.lstore A hx rfl hd rfl hl q) K
theorem k_lstoreN (A : At T m c below) (hx : p.tables.exec = Jvm.exec) {i : Fin 4} {v : Int64} (hd : decode c.code pc = .ok (.lstore_n i, 1)) (hl : storeLocals Ls i.val (.long v) = some Ls') (hp : pc + 1 = pc')
    (K : Done p e below G (T.setTop (mkF m pc' Ls' st))) : Done p e below G (T.setTop (mkF m pc Ls (.long v :: st))) := by
  subst hp; exact Done.go (fun t q => XS.lstoreN A hx rfl hd rfl hl q) K
theorem k_aload (A : At T m c below) (hx : p.tables.exec = Jvm.exec) {i : Nat} {v : Value} (hd : decode c.code pc = .ok (.aload i, 2)) (hl : Ls[i]? = some (.val v)) (hv : v.isRef = true) (hp : pc + 2 = pc')
    (K : Done p e below G (T.setTop (mkF m pc' Ls (v :: st)))) : Done p e below G (T.setTop (mkF m pc Ls st)) := by
  subst hp; exact Done.go (fun t q => XS.aload A hx rfl hd hl hv q) K
theorem k_aloadN (A : At T m c below) (hx : p.tables.exec = Jvm.exec) {i : Fin 4} {v : Value} (hd : decode c.code pc = .ok (.aload_n i, 1)) (hl : Ls[i.val]? = some (.val v)) (hv : v.isRef = true) (hp : pc + 1 = pc')
    (K : Done p e below G (T.setTop (mkF m pc' Ls (v :: st)))) : Done p e below G (T.setTop (mkF m pc Ls st)) := by
  subst hp; exact Done.go (fun t q => XS.aloadN A hx rfl hd hl hv q) K
theorem k_astore (A : At T m c below) (hx : p.tables.exec = Jvm.exec) {i : Nat} {v : Value} (hd : decode c.code pc = .ok (.astore i, 2)) (hv : v.isRef = true) (hl : storeLocals Ls i v = some Ls') (hp : pc + 2 = pc')
    (K : Done p e below G (T.setTop (mkF m pc' Ls' st))) : Done p e below G (T.setTop (mkF m pc Ls (v :: st))) := by
  subst hp; exact Done.go (fun t q => XS.astore A hx rfl hd rfl hv hl q) K
theorem k_astoreN (A : At T m c below) (hx : p.tables.exec = Jvm.exec) {i : Fin 4} {v : Value} (hd : decode c.code pc = .ok (.astore_n i, 1)) (hv : v.isRef = true) (hl : storeLocals Ls i.val v = some Ls') (hp : pc + 1 = pc')
    (K : Done p e below G (T.setTop (mkF m pc' Ls' st))) : Done p e below G (T.setTop (mkF m pc Ls (v :: st))) := by
  subst hp; exact Done.go (fun t q => XS.astoreN A hx rfl hd rfl hv hl q) K
theorem k_iconst (A : At T m c below) (hx : p.tables.exec = Jvm.exec) {i : Int} {v : Int32} (hd : decode c.code pc = .ok (.iconst i, 1)) (hv : Int32.ofInt i = v) (hp : pc + 1 = pc')
    (K : Done p e below G (T.setTop (mkF m pc' Ls (.int v :: st)))) : Done p e below G (T.setTop (mkF m pc Ls st)) := by
  subst hp hv; exact Done.go (fun t q => XS.iconst A hx rfl hd q) K
theorem k_bipush (A : At T m c below) (hx : p.tables.exec = Jvm.exec) {i : Int} {v : Int32} (hd : decode c.code pc = .ok (.bipush i, 2)) (hv : (Int8.ofInt i).toInt32 = v) (hp : pc + 2 = pc')
    (K : Done p e below G (T.setTop (mkF m pc' Ls (.int v :: st)))) : Done p e below G (T.setTop (mkF m pc Ls st)) := by
  subst hp hv; exact Done.go (fun t q => XS.bipush A hx rfl hd q) K
theorem k_sipush (A : At T m c below) (hx : p.tables.exec = Jvm.exec) {i : Int} {v : Int32} (hd : decode c.code pc = .ok (.sipush i, 3)) (hv : (Int16.ofInt i).toInt32 = v) (hp : pc + 3 = pc')
    (K : Done p e below G (T.setTop (mkF m pc' Ls (.int v :: st)))) : Done p e below G (T.setTop (mkF m pc Ls st)) := by
  subst hp hv; exact Done.go (fun t q => XS.sipush A hx rfl hd q) K
theorem k_lconst (A : At T m c below) (hx : p.tables.exec = Jvm.exec) {i : Fin 2} {v : Int64} (hd : decode c.code pc = .ok (.lconst i, 1)) (hv : Int64.ofNat i = v) (hp : pc + 1 = pc')
    (K : Done p e below G (T.setTop (mkF m pc' Ls (.long v :: st)))) : Done p e below G (T.setTop (mkF m pc Ls st)) := by
  subst hp hv; exact Done.go (fun t q => XS.lconst A hx rfl hd q) K
theorem k_aconstNull (A : At T m c below) (hx : p.tables.exec = Jvm.exec)  (hd : decode c.code pc = .ok (.aconst_null, 1)) (hp : pc + 1 = pc')
    (K : Done p e below G (T.setTop (mkF m pc' Ls (.null :: st)))) : Done p e below G (T.setTop (mkF m pc Ls st)) := by
  subst hp; exact Done.go (fun t q => XS.aconstNull A hx rfl hd q) K
theorem k_dup (A : At T m c below) (hx : p.tables.exec = Jvm.exec) {v : Value} (hd : decode c.code pc = .ok (.dup, 1)) (hv : v.category = 1) (hp : pc + 1 = pc')
    (K : Done p e below G (T.setTop (mkF m pc' Ls (v :: v :: st)))) : Done p e below G (T.setTop (mkF m pc Ls (v :: st))) := by
  subst hp; exact Done.go (fun t q => XS.dup A hx rfl hd rfl hv q) K
theorem k_pop (A : At T m c below) (hx : p.tables.exec = Jvm.exec) {v : Value} (hd : decode c.code pc = .ok (.pop, 1)) (hv : v.category = 1) (hp : pc + 1 = pc')
    (K : Done p e below G (T.setTop (mkF m pc' Ls st))) : Done p e below G (T.setTop (mkF m pc Ls (v :: st))) := by
  subst hp; exact Done.go (fun t q => XS.pop A hx rfl hd rfl hv q) K
theorem k_dupX1 (A : At T m c below) (hx : p.tables.exec = Jvm.exec) {v w : Value} (hd : decode c.code pc = .ok (.dup_x1, 1)) (hv : v.category = 1) (hw : w.category = 1) (hp : pc + 1 = pc')
    (K : Done p e below G (T.setTop (mkF m pc' Ls (v :: w :: v :: st)))) : Done p e below G (T.setTop (mkF m pc Ls (v :: w :: st))) := by
  subst hp; exact Done.go (fun t q => XS.dupX1 A hx rfl hd rfl hv hw q) K
theorem k_iadd (A : At T m c below) (hx : p.tables.exec = Jvm.exec) {x y : Int32} (hd : decode c.code pc = .ok (.iadd, 1)) (hp : pc + 1 = pc')
    (K : Done p e below G (T.setTop (mkF m pc' Ls (.int (x + y) :: st)))) : Done p e below G (T.setTop (mkF m pc Ls (.int y :: .int x :: st))) := by
  subst hp; exact Done.go (fun t q => XS.iadd A hx rfl hd rfl q) K
theorem k_isub (A : At T m c below) (hx : p.tables.exec = Jvm.exec) {x y : Int32} (hd : decode c.code pc = .ok (.isub, 1)) (hp : pc + 1 = pc')
    (K : Done p e below G (T.setTop (mkF m pc' Ls (.int (x - y) :: st)))) : Done p e below G (T.setTop (mkF m pc Ls (.int y :: .int x :: st))) := by
  subst hp; exact Done.go (fun t q => XS.isub A hx rfl hd rfl q) K
theorem k_imul (A : At T m c below) (hx : p.tables.exec = Jvm.exec) {x y : Int32} (hd : decode c.code pc = .ok (.imul, 1)) (hp : pc + 1 = pc')
    (K : Done p e below G (T.setTop (mkF m pc' Ls (.int (x * y) :: st)))) : Done p e below G (T.setTop (mkF m pc Ls (.int y :: .int x :: st))) := by
  subst hp; exact Done.go (fun t q => XS.imul A hx rfl hd rfl q) K
theorem k_iand (A : At T m c below) (hx : p.tables.exec = Jvm.exec) {x y : Int32} (hd : decode c.code pc = .ok (.iand, 1)) (hp : pc + 1 = pc')
    (K : Done p e below G (T.setTop (mkF m pc' Ls (.int (x &&& y) :: st)))) : Done p e below G (T.setTop (mkF m pc Ls (.int y :: .int x :: st))) := by
  subst hp; exact Done.go (fun t q => XS.iand A hx rfl hd rfl q) K
theorem k_ior (A : At T m c below) (hx : p.tables.exec = Jvm.exec) {x y : Int32} (hd : decode c.code pc = .ok (.ior, 1)) (hp : pc + 1 = pc')
    (K : Done p e below G (T.setTop (mkF m pc' Ls (.int (x ||| y) :: st)))) : Done p e below G (T.setTop (mkF m pc Ls (.int y :: .int x :: st))) := by
  subst hp; exact Done.go (fun t q => XS.ior A hx rfl hd rfl q) K
theorem k_ixor (A : At T m c below) (hx : p.tables.exec = Jvm.exec) {x y : Int32} (hd : decode c.code pc = .ok (.ixor, 1)) (hp : pc + 1 = pc')
    (K : Done p e below G (T.setTop (mkF m pc' Ls (.int (x ^^^ y) :: st)))) : Done p e below G (T.setTop (mkF m pc Ls (.int y :: .int x :: st))) := by
  subst hp; exact Done.go (fun t q => XS.ixor A hx rfl hd rfl q) K
theorem k_ishl (A : At T m c below) (hx : p.tables.exec = Jvm.exec) {x y : Int32} (hd : decode c.code pc = .ok (.ishl, 1)) (hp : pc + 1 = pc')
    (K : Done p e below G (T.setTop (mkF m pc' Ls (.int (x <<< (y &&& 31)) :: st)))) : Done p e below G (T.setTop (mkF m pc Ls (.int y :: .int x :: st))) := by
  subst hp; exact Done.go (fun t q => XS.ishl A hx rfl hd rfl q) K
theorem k_ishr (A : At T m c below) (hx : p.tables.exec = Jvm.exec) {x y : Int32} (hd : decode c.code pc = .ok (.ishr, 1)) (hp : pc + 1 = pc')
    (K : Done p e below G (T.setTop (mkF m pc' Ls (.int (x >>> (y &&& 31)) :: st)))) : Done p e below G (T.setTop (mkF m pc Ls (.int y :: .int x :: st))) := by
  subst hp; exact Done.go (fun t q => XS.ishr A hx rfl hd rfl q) K
theorem k_iushr (A : At T m c below) (hx : p.tables.exec = Jvm.exec) {x y : Int32} (hd : decode c.code pc = .ok (.iushr, 1)) (hp : pc + 1 = pc')
    (K : Done p e below G (T.setTop (mkF m pc' Ls (.int ((x.toUInt32 >>> (y &&& 31).toUInt32).toInt32) :: st)))) : Done p e below G (T.setTop (mkF m pc Ls (.int y :: .int x :: st))) := by
  subst hp; exact Done.go (fun t q => XS.iushr A hx rfl hd rfl q) K
theorem k_ladd (A : At T m c below) (hx : p.tables.exec = Jvm.exec) {x y : Int64} (hd : decode c.code pc = .ok (.ladd, 1)) (hp : pc + 1 = pc')
    (K : Done p e below G (T.setTop (mkF m pc' Ls (.long (x + y) :: st)))) : Done p e below G (T.setTop (mkF m pc Ls (.long y :: .long x :: st))) := by
  subst hp; exact Done.go (fun t q => XS.ladd A hx rfl hd rfl q) K
theorem k_lsub (A : At T m c below) (hx : p.tables.exec = Jvm.exec) {x y : Int64} (hd : decode c.code pc = .ok (.lsub, 1)) (hp : pc + 1 = pc')
    (K : Done p e below G (T.setTop (mkF m pc' Ls (.long (x - y) :: st)))) : Done p e below G (T.setTop (mkF m pc Ls (.long y :: .long x :: st))) := by
  subst hp; exact Done.go (fun t q => XS.lsub A hx rfl hd rfl q) K
theorem k_lmul (A : At T m c below) (hx : p.tables.exec = Jvm.exec) {x y : Int64} (hd : decode c.code pc = .ok (.lmul, 1)) (hp : pc + 1 = pc')
    (K : Done p e below G (T.setTop (mkF m pc' Ls (.long (x * y) :: st)))) : Done p e below G (T.setTop (mkF m pc Ls (.long y :: .long x :: st))) := by
  subst hp; exact Done.go (fun t q => XS.lmul A hx rfl hd rfl q) K
theorem k_land (A : At T m c below) (hx : p.tables.exec = Jvm.exec) {x y : Int64} (hd : decode c.code pc = .ok (.land, 1)) (hp : pc + 1 = pc')
    (K : Done p e below G (T.setTop (mkF m pc' Ls (.long (x &&& y) :: st)))) : Done p e below G (T.setTop (mkF m pc Ls (.long y :: .long x :: st))) := by
  subst hp; exact Done.go (fun t q => XS.land A hx rfl hd rfl q) K
theorem k_lor (A : At T m c below) (hx : p.tables.exec = Jvm.exec) {x y : Int64} (hd : decode c.code pc = .ok (.lor, 1)) (hp : pc + 1 = pc')
    (K : Done p e below G (T.setTop (mkF m pc' Ls (.long (x ||| y) :: st)))) : Done p e below G (T.setTop (mkF m pc Ls (.long y :: .long x :: st))) := by
  subst hp; exact Done.go (fun t q => XS.lor A hx rfl hd rfl q) K
theorem k_lxor (A : At T m c below) (hx : p.tables.exec = Jvm.exec) {x y : Int64} (hd : decode c.code pc = .ok (.lxor, 1)) (hp : pc + 1 = pc')
    (K : Done p e below G (T.setTop (mkF m pc' Ls (.long (x ^^^ y) :: st)))) : Done p e below G (T.setTop (mkF m pc Ls (.long y :: .long x :: st))) := by
  subst hp; exact Done.go (fun t q => XS.lxor A hx rfl hd rfl q) K
theorem k_lshl (A : At T m c below) (hx : p.tables.exec = Jvm.exec) {x : Int64} {y : Int32} (hd : decode c.code pc = .ok (.lshl, 1)) (hp : pc + 1 = pc')
    (K : Done p e below G (T.setTop (mkF m pc' Ls (.long (x <<< (y &&& 0x3f).toInt64) :: st)))) : Done p e below G (T.setTop (mkF m pc Ls (.int y :: .long x :: st))) := by
  subst hp; exact Done.go (fun t q => XS.lshl A hx rfl hd rfl q) K
theorem k_lshr (A : At T m c below) (hx : p.tables.exec = Jvm.exec) {x : Int64} {y : Int32} (hd : decode c.code pc = .ok (.lshr, 1)) (hp : pc + 1 = pc')
    (K : Done p e below G (T.setTop (mkF m pc' Ls (.long (x >>> (y &&& 0x3f).toInt64) :: st)))) : Done p e below G (T.setTop (mkF m pc Ls (.int y :: .long x :: st))) := by
  subst hp; exact Done.go (fun t q => XS.lshr A hx rfl hd rfl q) K
theorem k_lushr (A : At T m c below) (hx : p.tables.exec = Jvm.exec) {x : Int64} {y : Int32} (hd : decode c.code pc = .ok (.lushr, 1)) (hp : pc + 1 = pc')
    (K : Done p e below G (T.setTop (mkF m pc' Ls (.long ((x.toUInt64 >>> (y &&& 0x3f).toInt64.toUInt64).toInt64) :: st)))) : Done p e below G (T.setTop (mkF m pc Ls (.int y :: .long x :: st))) := by
  subst hp; exact Done.go (fun t q => XS.lushr A hx rfl hd rfl q) K
theorem k_idiv (A : At T m c below) (hx : p.tables.exec = Jvm.exec) {x y : Int32} (hd : decode c.code pc = .ok (.idiv, 1)) (hy : y ≠ 0) (hp : pc + 1 = pc')
    (K : Done p e below G (T.setTop (mkF m pc' Ls (.int (x / y) :: st)))) : Done p e below G (T.setTop (mkF m pc Ls (.int y :: .int x :: st))) := by
  subst hp; exact Done.go (fun t q => XS.idiv A hx rfl hd rfl hy q) K
theorem k_ldiv (A : At T m c below) (hx : p.tables.exec = Jvm.exec) {x y : Int64} (hd : decode c.code pc = .ok (.ldiv, 1)) (hy : y ≠ 0) (hp : pc + 1 = pc')
    (K : Done p e below G (T.setTop (mkF m pc' Ls (.long (x / y) :: st)))) : Done p e below G (T.setTop (mkF m pc Ls (.long y :: .long x :: st))) := by
  subst hp; exact Done.go (fun t q => XS.ldiv A hx rfl hd rfl hy q) K
theorem k_irem (A : At T m c below) (hx : p.tables.exec = Jvm.exec) {x y : Int32} (hd : decode c.code pc = .ok (.irem, 1)) (hy : y ≠ 0) (hp : pc + 1 = pc')
    (K : Done p e below G (T.setTop (mkF m pc' Ls (.int (x % y) :: st)))) : Done p e below G (T.setTop (mkF m pc Ls (.int y :: .int x :: st))) := by
  subst hp; have q0 : x - x / y * y = x % y := irem_eq_mod x y
  rw [← q0] at K
  exact Done.go (fun t q => XS.irem A hx rfl hd rfl hy q) K
theorem k_lrem (A : At T m c below) (hx : p.tables.exec = Jvm.exec) {x y : Int64} (hd : decode c.code pc = .ok (.lrem, 1)) (hy : y ≠ 0) (hp : pc + 1 = pc')
    (K : Done p e below G (T.setTop (mkF m pc' Ls (.long (x % y) :: st)))) : Done p e below G (T.setTop (mkF m pc Ls (.long y :: .long x :: st))) := by
  subst hp
  rw [← lrem_mod x y] at K
  exact Done.go (fun t q => XS.lrem A hx rfl hd rfl hy q) K
theorem k_lcmp (A : At T m c below) (hx : p.tables.exec = Jvm.exec) {x y : Int64} (hd : decode c.code pc = .ok (.lcmp, 1)) (hp : pc + 1 = pc')
    (K : Done p e below G (T.setTop (mkF m pc' Ls (.int (lcmpW x y) :: st)))) : Done p e below G (T.setTop (mkF m pc Ls (.long y :: .long x :: st))) := by
  subst hp; exact Done.go (fun t q => XS.lcmp A hx rfl hd rfl q) K
theorem k_ineg (A : At T m c below) (hx : p.tables.exec = Jvm.exec) {x : Int32} (hd : decode c.code pc = .ok (.ineg, 1)) (hp : pc + 1 = pc')
    (K : Done p e below G (T.setTop (mkF m pc' Ls (.int (-x) :: st)))) : Done p e below G (T.setTop (mkF m pc Ls (.int x :: st))) := by
  subst hp; exact Done.go (fun t q => XS.ineg A hx rfl hd rfl q) K
theorem k_lneg (A : At T m c below) (hx : p.tables.exec = Jvm.exec) {x : Int64} (hd : decode c.code pc = .ok (.lneg, 1)) (hp : pc + 1 = pc')
    (K : Done p e below G (T.setTop (mkF m pc' Ls (.long (-x) :: st)))) : Done p e below G (T.setTop (mkF m pc Ls (.long x :: st))) := by
  subst hp; exact Done.go (fun t q => XS.lneg A hx rfl hd rfl q) K
theorem k_i2l (A : At T m c below) (hx : p.tables.exec = Jvm.exec) {x : Int32} (hd : decode c.code pc = .ok (.i2l, 1)) (hp : pc + 1 = pc')
    (K : Done p e below G (T.setTop (mkF m pc' Ls (.long (x.toInt64) :: st)))) : Done p e below G (T.setTop (mkF m pc Ls (.int x :: st))) := by
  subst hp; exact Done.go (fun t q => XS.i2l A hx rfl hd rfl q) K
theorem k_l2i (A : At T m c below) (hx : p.tables.exec = Jvm.exec) {x : Int64} (hd : decode c.code pc = .ok (.l2i, 1)) (hp : pc + 1 = pc')
    (K : Done p e below G (T.setTop (mkF m pc' Ls (.int (x.toInt32) :: st)))) : Done p e below G (T.setTop (mkF m pc Ls (.long x :: st))) := by
  subst hp; exact Done.go (fun t q => XS.l2i A hx rfl hd rfl q) K
theorem k_i2b (A : At T m c below) (hx : p.tables.exec = Jvm.exec) {x : Int32} (hd : decode c.code pc = .ok (.i2b, 1)) (hp : pc + 1 = pc')
    (K : Done p e below G (T.setTop (mkF m pc' Ls (.int (x.toInt8.toInt32) :: st)))) : Done p e below G (T.setTop (mkF m pc Ls (.int x :: st))) := by
  subst hp; exact Done.go (fun t q => XS.i2b A hx rfl hd rfl q) K
theorem k_i2c (A : At T m c below) (hx : p.tables.exec = Jvm.exec) {x : Int32} (hd : decode c.code pc = .ok (.i2c, 1)) (hp : pc + 1 = pc')
    (K : Done p e below G (T.setTop (mkF m pc' Ls (.int (x.toUInt32.toUInt16.toUInt32.toInt32) :: st)))) : Done p e below G (T.setTop (mkF m pc Ls (.int x :: st))) := by
  subst hp; exact Done.go (fun t q => XS.i2c A hx rfl hd rfl q) K
theorem k_i2s (A : At T m c below) (hx : p.tables.exec = Jvm.exec) {x : Int32} (hd : decode c.code pc = .ok (.i2s, 1)) (hp : pc + 1 = pc')
    (K : Done p e below G (T.setTop (mkF m pc' Ls (.int (x.toInt16.toInt32) :: st)))) : Done p e below G (T.setTop (mkF m pc Ls (.int x :: st))) := by
  subst hp; exact Done.go (fun t q => XS.i2s A hx rfl hd rfl q) K
theorem k_iinc (A : At T m c below) (hx : p.tables.exec = Jvm.exec) {i : Nat} {cst : Int} {v : Int32} (hd : decode c.code pc = .ok (.iinc i cst, 3)) (hl : Ls[i]? = some (.val (.int v))) (hs : storeLocals Ls i (.int (v + Int32.ofInt cst)) = some Ls') (hp : pc + 3 = pc')
    (K : Done p e below G (T.setTop (mkF m pc' Ls' st))) : Done p e below G (T.setTop (mkF m pc Ls st)) := by
  subst hp; exact Done.go (fun t q => XS.iinc A hx rfl hd hl hs q) K
theorem k_goto (A : At T m c below) (hx : p.tables.exec = Jvm.exec) {o : Int} (hd : decode c.code pc = .ok (.goto o, 3)) (hp : (pc : Int) + o = (pc' : Int))
    (K : Done p e below G (T.setTop (mkF m pc' Ls st))) : Done p e below G (T.setTop (mkF m pc Ls st)) :=
  Done.go (fun t q => XS.goto A hx rfl (pc0 := pc) (pc' := pc') rfl hd (by omega) (by omega) q) K
theorem k_ifnullYes (A : At T m c below) (hx : p.tables.exec = Jvm.exec) {o : Int} (hd : decode c.code pc = .ok (.ifnull o, 3)) (hp : (pc : Int) + o = (pc' : Int))
    (K : Done p e below G (T.setTop (mkF m pc' Ls st))) : Done p e below G (T.setTop (mkF m pc Ls (.null :: st))) :=
  Done.go (fun t q => XS.ifnullYes A hx rfl (pc0 := pc) (pc' := pc') rfl hd rfl (by omega) (by omega) q) K
theorem k_ifnonnullYes (A : At T m c below) (hx : p.tables.exec = Jvm.exec) {o : Int} {b : Addr} (hd : decode c.code pc = .ok (.ifnonnull o, 3)) (hp : (pc : Int) + o = (pc' : Int))
    (K : Done p e below G (T.setTop (mkF m pc' Ls st))) : Done p e below G (T.setTop (mkF m pc Ls (.ref b :: st))) :=
  Done.go (fun t q => XS.ifnonnullYes A hx rfl (pc0 := pc) (pc' := pc') rfl hd rfl (by omega) (by omega) q) K
theorem k_ifnullNo (A : At T m c below) (hx : p.tables.exec = Jvm.exec) {o : Int} {b : Addr} (hd : decode c.code pc = .ok (.ifnull o, 3)) (hp : pc + 3 = pc')
    (K : Done p e below G (T.setTop (mkF m pc' Ls st))) : Done p e below G (T.setTop (mkF m pc Ls (.ref b :: st))) := by
  subst hp; exact Done.go (fun t q => XS.ifnullNo A hx rfl hd rfl q) K
theorem k_ifnonnullNo (A : At T m c below) (hx : p.tables.exec = Jvm.exec) {o : Int} (hd : decode c.code pc = .ok (.ifnonnull o, 3)) (hp : pc + 3 = pc')
    (K : Done p e below G (T.setTop (mkF m pc' Ls st))) : Done p e below G (T.setTop (mkF m pc Ls (.null :: st))) := by
  subst hp; exact Done.go (fun t q => XS.ifnonnullNo A hx rfl hd rfl q) K
theorem k_icmp_lt (A : At T m c below) (hx : p.tables.exec = Jvm.exec) {x y : Int32} {o : Int} {pcY : Nat} (hd : decode c.code pc = .ok (.if_icmp .lt o, 3)) (hY : (pc : Int) + o = (pcY : Int)) (hp : pc + 3 = pc')
    (KY : x < y → Done p e below G (T.setTop (mkF m pcY Ls st))) (KN : ¬ x < y → Done p e below G (T.setTop (mkF m pc' Ls st))) : Done p e below G (T.setTop (mkF m pc Ls (.int y :: .int x :: st))) := by
  subst hp
  by_cases hc : x < y
  · exact Done.go (fun t q => XS.icmpYes A hx rfl (pc0 := pc) (pc' := pcY) rfl hd rfl (tlt hc).1 (by omega) (by omega) q) (KY hc)
  · exact Done.go (fun t q => XS.icmpNo A hx rfl hd rfl (flt hc).1 q) (KN hc)
theorem k_if_lt (A : At T m c below) (hx : p.tables.exec = Jvm.exec) {x : Int32} {o : Int} {pcY : Nat} (hd : decode c.code pc = .ok (.ifCond .lt o, 3)) (hY : (pc : Int) + o = (pcY : Int)) (hp : pc + 3 = pc')
    (KY : x < 0 → Done p e below G (T.setTop (mkF m pcY Ls st))) (KN : ¬ x < 0 → Done p e below G (T.setTop (mkF m pc' Ls st))) : Done p e below G (T.setTop (mkF m pc Ls (.int x :: st))) := by
  subst hp
  by_cases hc : x < 0
  · exact Done.go (fun t q => XS.ifYes A hx rfl (pc0 := pc) (pc' := pcY) rfl hd rfl ((if0 _ _).trans (tlt hc).1) (by omega) (by omega) q) (KY hc)
  · exact Done.go (fun t q => XS.ifNo A hx rfl hd rfl ((if0 _ _).trans (flt hc).1) q) (KN hc)
theorem k_icmp_ge (A : At T m c below) (hx : p.tables.exec = Jvm.exec) {x y : Int32} {o : Int} {pcY : Nat} (hd : decode c.code pc = .ok (.if_icmp .ge o, 3)) (hY : (pc : Int) + o = (pcY : Int)) (hp : pc + 3 = pc')
    (KY : ¬ x < y → Done p e below G (T.setTop (mkF m pcY Ls st))) (KN : x < y → Done p e below G (T.setTop (mkF m pc' Ls st))) : Done p e below G (T.setTop (mkF m pc Ls (.int y :: .int x :: st))) := by
  subst hp
  by_cases hc : x < y
  · exact Done.go (fun t q => XS.icmpNo A hx rfl hd rfl (tlt hc).2.1 q) (KN hc)
  · exact Done.go (fun t q => XS.icmpYes A hx rfl (pc0 := pc) (pc' := pcY) rfl hd rfl (flt hc).2.1 (by omega) (by omega) q) (KY hc)
theorem k_if_ge (A : At T m c below) (hx : p.tables.exec = Jvm.exec) {x : Int32} {o : Int} {pcY : Nat} (hd : decode c.code pc = .ok (.ifCond .ge o, 3)) (hY : (pc : Int) + o = (pcY : Int)) (hp : pc + 3 = pc')
    (KY : ¬ x < 0 → Done p e below G (T.setTop (mkF m pcY Ls st))) (KN : x < 0 → Done p e below G (T.setTop (mkF m pc' Ls st))) : Done p e below G (T.setTop (mkF m pc Ls (.int x :: st))) := by
  subst hp
  by_cases hc : x < 0
  · exact Done.go (fun t q => XS.ifNo A hx rfl hd rfl ((if0 _ _).trans (tlt hc).2.1) q) (KN hc)
  · exact Done.go (fun t q => XS.ifYes A hx rfl (pc0 := pc) (pc' := pcY) rfl hd rfl ((if0 _ _).trans (flt hc).2.1) (by omega) (by omega) q) (KY hc)
theorem k_icmp_gt (A : At T m c below) (hx : p.tables.exec = Jvm.exec) {x y : Int32} {o : Int} {pcY : Nat} (hd : decode c.code pc = .ok (.if_icmp .gt o, 3)) (hY : (pc : Int) + o = (pcY : Int)) (hp : pc + 3 = pc')
    (KY : y < x → Done p e below G (T.setTop (mkF m pcY Ls st))) (KN : ¬ y < x → Done p e below G (T.setTop (mkF m pc' Ls st))) : Done p e below G (T.setTop (mkF m pc Ls (.int y :: .int x :: st))) := by
  subst hp
  by_cases hc : y < x
  · exact Done.go (fun t q => XS.icmpYes A hx rfl (pc0 := pc) (pc' := pcY) rfl hd rfl (tlt hc).2.2.1 (by omega) (by omega) q) (KY hc)
  · exact Done.go (fun t q => XS.icmpNo A hx rfl hd rfl (flt hc).2.2.1 q) (KN hc)
theorem k_if_gt (A : At T m c below) (hx : p.tables.exec = Jvm.exec) {x : Int32} {o : Int} {pcY : Nat} (hd : decode c.code pc = .ok (.ifCond .gt o, 3)) (hY : (pc : Int) + o = (pcY : Int)) (hp : pc + 3 = pc')
    (KY : 0 < x → Done p e below G (T.setTop (mkF m pcY Ls st))) (KN : ¬ 0 < x → Done p e below G (T.setTop (mkF m pc' Ls st))) : Done p e below G (T.setTop (mkF m pc Ls (.int x :: st))) := by
  subst hp
  by_cases hc : 0 < x
  · exact Done.go (fun t q => XS.ifYes A hx rfl (pc0 := pc) (pc' := pcY) rfl hd rfl ((if0 _ _).trans (tlt hc).2.2.1) (by omega) (by omega) q) (KY hc)
  · exact Done.go (fun t q => XS.ifNo A hx rfl hd rfl ((if0 _ _).trans (flt hc).2.2.1) q) (KN hc)
theorem k_icmp_le (A : At T m c below) (hx : p.tables.exec = Jvm.exec) {x y : Int32} {o : Int} {pcY : Nat} (hd : decode c.code pc = .ok (.if_icmp .le o, 3)) (hY : (pc : Int) + o = (pcY : Int)) (hp : pc + 3 = pc')
    (KY : ¬ y < x → Done p e below G (T.setTop (mkF m pcY Ls st))) (KN : y < x → Done p e below G (T.setTop (mkF m pc' Ls st))) : Done p e below G (T.setTop (mkF m pc Ls (.int y :: .int x :: st))) := by
  subst hp
  by_cases hc : y < x
  · exact Done.go (fun t q => XS.icmpNo A hx rfl hd rfl (tlt hc).2.2.2 q) (KN hc)
  · exact Done.go (fun t q => XS.icmpYes A hx rfl (pc0 := pc) (pc' := pcY) rfl hd rfl (flt hc).2.2.2 (by omega) (by omega) q) (KY hc)
theorem k_if_le (A : At T m c below) (hx : p.tables.exec = Jvm.exec) {x : Int32} {o : Int} {pcY : Nat} (hd : decode c.code pc = .ok (.ifCond .le o, 3)) (hY : (pc : Int) + o = (pcY : Int)) (hp : pc + 3 = pc')
    (KY : ¬ 0 < x → Done p e below G (T.setTop (mkF m pcY Ls st))) (KN : 0 < x → Done p e below G (T.setTop (mkF m pc' Ls st))) : Done p e below G (T.setTop (mkF m pc Ls (.int x :: st))) := by
  subst hp
  by_cases hc : 0 < x
  · exact Done.go (fun t q => XS.ifNo A hx rfl hd rfl ((if0 _ _).trans (tlt hc).2.2.2) q) (KN hc)
  · exact Done.go (fun t q => XS.ifYes A hx rfl (pc0 := pc) (pc' := pcY) rfl hd rfl ((if0 _ _).trans (flt hc).2.2.2) (by omega) (by omega) q) (KY hc)
theorem k_icmp_eq (A : At T m c below) (hx : p.tables.exec = Jvm.exec) {x y : Int32} {o : Int} {pcY : Nat} (hd : decode c.code pc = .ok (.if_icmp .eq o, 3)) (hY : (pc : Int) + o = (pcY : Int)) (hp : pc + 3 = pc')
    (KY : x = y → Done p e below G (T.setTop (mkF m pcY Ls st))) (KN : ¬ x = y → Done p e below G (T.setTop (mkF m pc' Ls st))) : Done p e below G (T.setTop (mkF m pc Ls (.int y :: .int x :: st))) := by
  subst hp
  by_cases hc : x = y
  · exact Done.go (fun t q => XS.icmpYes A hx rfl (pc0 := pc) (pc' := pcY) rfl hd rfl (teq hc).1 (by omega) (by omega) q) (KY hc)
  · exact Done.go (fun t q => XS.icmpNo A hx rfl hd rfl (feq hc).1 q) (KN hc)
theorem k_if_eq (A : At T m c below) (hx : p.tables.exec = Jvm.exec) {x : Int32} {o : Int} {pcY : Nat} (hd : decode c.code pc = .ok (.ifCond .eq o, 3)) (hY : (pc : Int) + o = (pcY : Int)) (hp : pc + 3 = pc')
    (KY : x = 0 → Done p e below G (T.setTop (mkF m pcY Ls st))) (KN : ¬ x = 0 → Done p e below G (T.setTop (mkF m pc' Ls st))) : Done p e below G (T.setTop (mkF m pc Ls (.int x :: st))) := by
  subst hp
  by_cases hc : x = 0
  · exact Done.go (fun t q => XS.ifYes A hx rfl (pc0 := pc) (pc' := pcY) rfl hd rfl ((if0 _ _).trans (teq hc).1) (by omega) (by omega) q) (KY hc)
  · exact Done.go (fun t q => XS.ifNo A hx rfl hd rfl ((if0 _ _).trans (feq hc).1) q) (KN hc)
theorem k_icmp_ne (A : At T m c below) (hx : p.tables.exec = Jvm.exec) {x y : Int32} {o : Int} {pcY : Nat} (hd : decode c.code pc = .ok (.if_icmp .ne o, 3)) (hY : (pc : Int) + o = (pcY : Int)) (hp : pc + 3 = pc')
    (KY : ¬ x = y → Done p e below G (T.setTop (mkF m pcY Ls st))) (KN : x = y → Done p e below G (T.setTop (mkF m pc' Ls st))) : Done p e below G (T.setTop (mkF m pc Ls (.int y :: .int x :: st))) := by
  subst hp
  by_cases hc : x = y
  · exact Done.go (fun t q => XS.icmpNo A hx rfl hd rfl (teq hc).2 q) (KN hc)
  · exact Done.go (fun t q => XS.icmpYes A hx rfl (pc0 := pc) (pc' := pcY) rfl hd rfl (feq hc).2 (by omega) (by omega) q) (KY hc)
theorem k_if_ne (A : At T m c below) (hx : p.tables.exec = Jvm.exec) {x : Int32} {o : Int} {pcY : Nat} (hd : decode c.code pc = .ok (.ifCond .ne o, 3)) (hY : (pc : Int) + o = (pcY : Int)) (hp : pc + 3 = pc')
    (KY : ¬ x = 0 → Done p e below G (T.setTop (mkF m pcY Ls st))) (KN : x = 0 → Done p e below G (T.setTop (mkF m pc' Ls st))) : Done p e below G (T.setTop (mkF m pc Ls (.int x :: st))) := by
  subst hp
  by_cases hc : x = 0
  · exact Done.go (fun t q => XS.ifNo A hx rfl hd rfl ((if0 _ _).trans (teq hc).2) q) (KN hc)
  · exact Done.go (fun t q => XS.ifYes A hx rfl (pc0 := pc) (pc' := pcY) rfl hd rfl ((if0 _ _).trans (feq hc).2) (by omega) (by omega) q) (KY hc)
theorem k_lcmp_lt (A : At T m c below) (hx : p.tables.exec = Jvm.exec) {x y : Int64} {o : Int} {pcY : Nat} (hd : decode c.code pc = .ok (.lcmp, 1)) (hd2 : decode c.code (pc + 1) = .ok (.ifCond .lt o, 3)) (hY : ((pc + 1 : Nat) : Int) + o = (pcY : Int)) (hp : pc + 1 + 3 = pc')
    (KY : x < y → Done p e below G (T.setTop (mkF m pcY Ls st))) (KN : ¬ x < y → Done p e below G (T.setTop (mkF m pc' Ls st))) : Done p e below G (T.setTop (mkF m pc Ls (.long y :: .long x :: st))) := by
  subst hp
  by_cases hc : x < y
  · exact Done.go (fun t q => XS.lcmp A hx rfl hd rfl (XS.ifYes A hx rfl (pc0 := pc + 1) (pc' := pcY) rfl hd2 rfl ((if0 _ _).trans (tlt ((lw_lt x y).mpr hc)).1) (by omega) (by omega) q)) (KY hc)
  · exact Done.go (fun t q => XS.lcmp A hx rfl hd rfl (XS.ifNo A hx rfl hd2 rfl ((if0 _ _).trans (flt (fun z => hc ((lw_lt x y).mp z))).1) q)) (KN hc)
theorem k_lcmp_ge (A : At T m c below) (hx : p.tables.exec = Jvm.exec) {x y : Int64} {o : Int} {pcY : Nat} (hd : decode c.code pc = .ok (.lcmp, 1)) (hd2 : decode c.code (pc + 1) = .ok (.ifCond .ge o, 3)) (hY : ((pc + 1 : Nat) : Int) + o = (pcY : Int)) (hp : pc + 1 + 3 = pc')
    (KY : ¬ x < y → Done p e below G (T.setTop (mkF m pcY Ls st))) (KN : x < y → Done p e below G (T.setTop (mkF m pc' Ls st))) : Done p e below G (T.setTop (mkF m pc Ls (.long y :: .long x :: st))) := by
  subst hp
  by_cases hc : x < y
  · exact Done.go (fun t q => XS.lcmp A hx rfl hd rfl (XS.ifNo A hx rfl hd2 rfl ((if0 _ _).trans (tlt ((lw_lt x y).mpr hc)).2.1) q)) (KN hc)
  · exact Done.go (fun t q => XS.lcmp A hx rfl hd rfl (XS.ifYes A hx rfl (pc0 := pc + 1) (pc' := pcY) rfl hd2 rfl ((if0 _ _).trans (flt (fun z => hc ((lw_lt x y).mp z))).2.1) (by omega) (by omega) q)) (KY hc)
theorem k_lcmp_gt (A : At T m c below) (hx : p.tables.exec = Jvm.exec) {x y : Int64} {o : Int} {pcY : Nat} (hd : decode c.code pc = .ok (.lcmp, 1)) (hd2 : decode c.code (pc + 1) = .ok (.ifCond .gt o, 3)) (hY : ((pc + 1 : Nat) : Int) + o = (pcY : Int)) (hp : pc + 1 + 3 = pc')
    (KY : y < x → Done p e below G (T.setTop (mkF m pcY Ls st))) (KN : ¬ y < x → Done p e below G (T.setTop (mkF m pc' Ls st))) : Done p e below G (T.setTop (mkF m pc Ls (.long y :: .long x :: st))) := by
  subst hp
  by_cases hc : y < x
  · exact Done.go (fun t q => XS.lcmp A hx rfl hd rfl (XS.ifYes A hx rfl (pc0 := pc + 1) (pc' := pcY) rfl hd2 rfl ((if0 _ _).trans (tlt ((lw_gt x y).mpr hc)).2.2.1) (by omega) (by omega) q)) (KY hc)
  · exact Done.go (fun t q => XS.lcmp A hx rfl hd rfl (XS.ifNo A hx rfl hd2 rfl ((if0 _ _).trans (flt (fun z => hc ((lw_gt x y).mp z))).2.2.1) q)) (KN hc)
theorem k_lcmp_le (A : At T m c below) (hx : p.tables.exec = Jvm.exec) {x y : Int64} {o : Int} {pcY : Nat} (hd : decode c.code pc = .ok (.lcmp, 1)) (hd2 : decode c.code (pc + 1) = .ok (.ifCond .le o, 3)) (hY : ((pc + 1 : Nat) : Int) + o = (pcY : Int)) (hp : pc + 1 + 3 = pc')
    (KY : ¬ y < x → Done p e below G (T.setTop (mkF m pcY Ls st))) (KN : y < x → Done p e below G (T.setTop (mkF m pc' Ls st))) : Done p e below G (T.setTop (mkF m pc Ls (.long y :: .long x :: st))) := by
  subst hp
  by_cases hc : y < x
  · exact Done.go (fun t q => XS.lcmp A hx rfl hd rfl (XS.ifNo A hx rfl hd2 rfl ((if0 _ _).trans (tlt ((lw_gt x y).mpr hc)).2.2.2) q)) (KN hc)
  · exact Done.go (fun t q => XS.lcmp A hx rfl hd rfl (XS.ifYes A hx rfl (pc0 := pc + 1) (pc' := pcY) rfl hd2 rfl ((if0 _ _).trans (flt (fun z => hc ((lw_gt x y).mp z))).2.2.2) (by omega) (by omega) q)) (KY hc)
theorem k_lcmp_eq (A : At T m c below) (hx : p.tables.exec = Jvm.exec) {x y : Int64} {o : Int} {pcY : Nat} (hd : decode c.code pc = .ok (.lcmp, 1)) (hd2 : decode c.code (pc + 1) = .ok (.ifCond .eq o, 3)) (hY : ((pc + 1 : Nat) : Int) + o = (pcY : Int)) (hp : pc + 1 + 3 = pc')
    (KY : x = y → Done p e below G (T.setTop (mkF m pcY Ls st))) (KN : ¬ x = y → Done p e below G (T.setTop (mkF m pc' Ls st))) : Done p e below G (T.setTop (mkF m pc Ls (.long y :: .long x :: st))) := by
  subst hp
  by_cases hc : x = y
  · exact Done.go (fun t q => XS.lcmp A hx rfl hd rfl (XS.ifYes A hx rfl (pc0 := pc + 1) (pc' := pcY) rfl hd2 rfl ((if0 _ _).trans (teq ((lw_eq x y).mpr hc)).1) (by omega) (by omega) q)) (KY hc)
  · exact Done.go (fun t q => XS.lcmp A hx rfl hd rfl (XS.ifNo A hx rfl hd2 rfl ((if0 _ _).trans (feq (fun z => hc ((lw_eq x y).mp z))).1) q)) (KN hc)
theorem k_lcmp_ne (A : At T m c below) (hx : p.tables.exec = Jvm.exec) {x y : Int64} {o : Int} {pcY : Nat} (hd : decode c.code pc = .ok (.lcmp, 1)) (hd2 : decode c.code (pc + 1) = .ok (.ifCond .ne o, 3)) (hY : ((pc + 1 : Nat) : Int) + o = (pcY : Int)) (hp : pc + 1 + 3 = pc')
    (KY : ¬ x = y → Done p e below G (T.setTop (mkF m pcY Ls st))) (KN : x = y → Done p e below G (T.setTop (mkF m pc' Ls st))) : Done p e below G (T.setTop (mkF m pc Ls (.long y :: .long x :: st))) := by
  subst hp
  by_cases hc : x = y
  · exact Done.go (fun t q => XS.lcmp A hx rfl hd rfl (XS.ifNo A hx rfl hd2 rfl ((if0 _ _).trans (teq ((lw_eq x y).mpr hc)).2) q)) (KN hc)
  · exact Done.go (fun t q => XS.lcmp A hx rfl hd rfl (XS.ifYes A hx rfl (pc0 := pc + 1) (pc' := pcY) rfl hd2 rfl ((if0 _ _).trans (feq (fun z => hc ((lw_eq x y).mp z))).2) (by omega) (by omega) q)) (KY hc)
/-! ### a store into a slot of which only its one word is known -/
theorem store_eq (L : Array Slot) (i : Nat) (v : Value) : storeLocals L i v = (L[i]?).bind fun o => match o with
    | .second => (setAt L (i - 1) .unset).bind fun l => storeSelf l i v
    | .val old => if old.category = 2 then ((setAt L (i + 1) .unset).bind fun l => storeSelf l i v) else storeSelf L i v
    | .unset => storeSelf L i v := rfl
theorem store1 {L L' : Array Slot} {i : Nat} {o : Slot} {v : Value} (h : L[i]? = some o) (H : One o) (hs : storeSelf L i v = some L') : storeLocals L i v = some L' := by
  rw [store_eq, h]
  rcases H with rfl | ⟨w, rfl, q⟩
  · exact hs
  · show (if w.category = 2 then _ else storeSelf L i v) = _
    rw [if_neg (by omega)]; exact hs
/-! ### constants of the pool -/
theorem k_ldcInt (S : St p l e R s m args below meth c n0 T h k n) (hx : p.tables.exec = Jvm.exec) (hZ : Z.Warmed39 s.vm) {own : String} {index : Nat} {v : Int32} (hown : s.vm.findClass own = some m.cls) (w : (Jvm.Cond.constant own index v).before a0 Z = true)
    (hd : decode c.code pc = .ok (.ldc index, 2)) (hp : pc + 2 = pc') (K : Done p e below G (T.setTop (mkF m pc' Ls (.int v :: st)))) : Done p e below G (T.setTop (mkF m pc Ls st)) := by
  subst hp
  obtain ⟨_, X, -, -⟩ := S
  exact Done.go (X.ldcInt hx hown (mvT hZ w) (g := mkF m pc Ls st) rfl hd) K
theorem k_ldcwInt (S : St p l e R s m args below meth c n0 T h k n) (hx : p.tables.exec = Jvm.exec) (hZ : Z.Warmed39 s.vm) {own : String} {index : Nat} {v : Int32} (hown : s.vm.findClass own = some m.cls) (w : (Jvm.Cond.constant own index v).before a0 Z = true)
    (hd : decode c.code pc = .ok (.ldc_w index, 3)) (hp : pc + 3 = pc') (K : Done p e below G (T.setTop (mkF m pc' Ls (.int v :: st)))) : Done p e below G (T.setTop (mkF m pc Ls st)) := by
  subst hp
  obtain ⟨_, X, -, -⟩ := S
  exact Done.go (X.ldcwInt hx hown (mvT hZ w) (g := mkF m pc Ls st) rfl hd) K
theorem k_ldc2Long (S : St p l e R s m args below meth c n0 T h k n) (hx : p.tables.exec = Jvm.exec) (hZ : Z.Warmed39 s.vm) {own : String} {index : Nat} {v : Int64} (hown : s.vm.findClass own = some m.cls) (w : (Jvm.Cond.constantLong own index v).before a0 Z = true)
    (hd : decode c.code pc = .ok (.ldc2_w index, 3)) (hp : pc + 3 = pc') (K : Done p e below G (T.setTop (mkF m pc' Ls (.long v :: st)))) : Done p e below G (T.setTop (mkF m pc Ls st)) := by
  subst hp
  obtain ⟨_, X, -, -⟩ := S
  exact Done.go (X.ldc2Long hx hown (mvT hZ w) (g := mkF m pc Ls st) rfl hd) K
/-! ### returns -/
variable {Q : Option Value → Heap → Prop}
theorem k_ret_val {w : Value} {t : FieldType} {i : Instr} (S : St p l e R s m args below meth c n0 T h k n) (hx : p.tables.exec = Jvm.exec) (hret : meth.sig.returnType = some t) (hlk : meth.locks = false) (hd : decode c.code pc = .ok (i, 1)) (hn' : narrow t w = w)
    (hi : (i = .ireturn ∧ (t = .int ∨ t = .boolean ∨ t = .byte ∨ t = .char ∨ t = .short) ∧ ∃ z, w = .int z) ∨ (i = .lreturn ∧ t = .long ∧ ∃ z, w = .long z) ∨ (i = .dreturn ∧ t = .double ∧ ∃ z, w = .double z) ∨ (i = .freturn ∧ t = .float ∧ ∃ z, w = .float z) ∨ (i = .areturn ∧ t.isReference = true ∧ w.isRef = true))
    (hk : k ≤ R.cells) (hn : n ≤ R.slots) (q : Q (some w) h) : Done p e below (OEnd s R n0 Q) (T.setTop (mkF m pc Ls (w :: st))) := by
  obtain ⟨locs, X, N, eT⟩ := S
  obtain ⟨fs, hr, hrun, hended, hW, hsame⟩ := X.leave (v := some w) (fun h => by rw [hret] at h; cases h) hlk
  refine ⟨_, _, retOut X hx hret hn' hi hd hr, hrun, hended, _, locs, rfl, ⟨?_, N⟩, ⟨_, rfl⟩, hW, hsame.mono hk hn⟩
  show Q _ T.heap
  rw [eT]; exact q
theorem k_ret_int {z : Int32} (S : St p l e R s m args below meth c n0 T h k n) (hx : p.tables.exec = Jvm.exec) (hret : meth.sig.returnType = some .int) (hlk : meth.locks = false) (hd : decode c.code pc = .ok (.ireturn, 1))
    (hk : k ≤ R.cells) (hn : n ≤ R.slots) (q : Q (some (.int z)) h) : Done p e below (OEnd s R n0 Q) (T.setTop (mkF m pc Ls (.int z :: st))) :=
  k_ret_val S hx hret hlk hd rfl (Or.inl ⟨rfl, Or.inl rfl, z, rfl⟩) hk hn q
theorem k_ret_long {z : Int64} (S : St p l e R s m args below meth c n0 T h k n) (hx : p.tables.exec = Jvm.exec) (hret : meth.sig.returnType = some .long) (hlk : meth.locks = false) (hd : decode c.code pc = .ok (.lreturn, 1))
    (hk : k ≤ R.cells) (hn : n ≤ R.slots) (q : Q (some (.long z)) h) : Done p e below (OEnd s R n0 Q) (T.setTop (mkF m pc Ls (.long z :: st))) :=
  k_ret_val S hx hret hlk hd rfl (Or.inr (Or.inl ⟨rfl, rfl, z, rfl⟩)) hk hn q
theorem k_ret_ref {a : Addr} {t : FieldType} (S : St p l e R s m args below meth c n0 T h k n) (hx : p.tables.exec = Jvm.exec) (hret : meth.sig.returnType = some t) (ht : t.isReference = true) (hlk : meth.locks = false) (hd : decode c.code pc = .ok (.areturn, 1))
    (hk : k ≤ R.cells) (hn : n ≤ R.slots) (q : Q (some (.ref a)) h) : Done p e below (OEnd s R n0 Q) (T.setTop (mkF m pc Ls (.ref a :: st))) :=
  k_ret_val S hx hret hlk hd (by cases t <;> first | rfl | (cases ht; done)) (Or.inr (Or.inr (Or.inr (Or.inr ⟨rfl, ht, rfl⟩)))) hk hn q
theorem k_ret_nar {z z' : Int32} {t : FieldType} (S : St p l e R s m args below meth c n0 T h k n) (hx : p.tables.exec = Jvm.exec) (hret : meth.sig.returnType = some t) (ht : t = .boolean ∨ t = .byte ∨ t = .char ∨ t = .short) (hlk : meth.locks = false) (hd : decode c.code pc = .ok (.ireturn, 1)) (hz : nar t z = z')
    (hk : k ≤ R.cells) (hn : n ≤ R.slots) (q : Q (some (.int z')) h) : Done p e below (OEnd s R n0 Q) (T.setTop (mkF m pc Ls (.int z :: st))) := by
  obtain ⟨locs, X, N, eT⟩ := S
  subst hz
  obtain ⟨fs, hr, hrun, hended, hW, hsame⟩ := X.leave (v := some (.int (nar t z))) (fun h => by rw [hret] at h; cases h) hlk
  refine ⟨_, _, retN X hx hret ht hd hr, hrun, hended, _, locs, rfl, ⟨?_, N⟩, ⟨_, rfl⟩, hW, hsame.mono hk hn⟩
  show Q _ T.heap
  rw [eT]; exact q
theorem k_ret_void (S : St p l e R s m args below meth c n0 T h k n) (hx : p.tables.exec = Jvm.exec) (hret : meth.sig.returnType = none) (hlk : meth.locks = false) (hd : decode c.code pc = .ok (.return_, 1))
    (hk : k ≤ R.cells) (hn : n ≤ R.slots) (q : Q none h) : Done p e below (OEnd s R n0 Q) (T.setTop (mkF m pc Ls [])) := by
  obtain ⟨locs, X, N, eT⟩ := S
  obtain ⟨fs, hr, hrun, hended, hW, hsame⟩ := X.leave (v := none) (fun _ => rfl) hlk
  refine ⟨_, _, X.returnOut hx hret hd hr, hrun, hended, _, locs, rfl, ⟨?_, N⟩, ⟨_, rfl⟩, hW, hsame.mono hk hn⟩
  show Q _ T.heap
  rw [eT]; exact q
/-! ### calls by a contract -/
theorem k_call_static (S : St p l e R s m args below meth c n0 T h k n) (hx : p.tables.exec = Jvm.exec) (hZ : Z.Warmed39 s.vm) {own : String} {index : Nat} {y : MethodName} {bytes : ByteArray} {maxL : Nat} {ret : Option FieldType} (hown : s.vm.findClass own = some m.cls)
    (w1 : (Jvm.Cond.methodLink own index y).before a0 Z = true) (w2 : (Jvm.Cond.static y).before a0 Z = true) (w3 : (Jvm.Cond.initialized y.cls).before a0 Z = true) (w4 : (Jvm.Cond.code y bytes maxL ret).before a0 Z = true)
    (hy : y.cls ≠ "java/lang/invoke/MethodHandle" ∧ y.cls ≠ "java/lang/invoke/VarHandle") {rm : Room} {as' : Array Value} (C : Con l Z y bytes maxL ret rm n0 h as' Q) (W : Nat) {argsL rest : List Value}
    (hf : rm.frames + 1 ≤ R.frames) (hl : W + (maxL + 11) + rm.locals ≤ R.locals) (hml : Ls.size = c.maxLocals) (hlen : ∀ sig, parseMethodDescriptor y.desc = some sig → argsL.length = sig.parameters.length) (has : argsL.toArray = as')
    (hst : st = argsL.reverse ++ rest) (hW : (rest.map fun v => v.category).sum ≤ W) (hd : decode c.code pc = .ok (.invokestatic index, 3)) (hp : pc + 3 = pc') (hk : k + rm.cells ≤ R.cells) (hn : n + rm.slots ≤ R.slots)
    (K : ∀ v T' h', Q v h' → St p l e R s m args below meth c n0 T' h' (k + rm.cells) (n + rm.slots) → Done p e below G (T'.setTop (mkF m pc' Ls (v.toList ++ rest)))) :
    Done p e below G (T.setTop (mkF m pc Ls st)) := by
  subst hp
  obtain ⟨locs, X, N, eT⟩ := S
  obtain ⟨v, vm₁, ⟨T', L', k', n'⟩, -, X', ⟨L, ⟨hQ, NL⟩, e1, e2, e3⟩, step⟩ := Jvm.LawKit.callS X hx (y := y) hown (mvT hZ w1) (mvT hZ w2) (mvT hZ w3) (mvT hZ w4) hy
    (backOf (W := W) (Q := fun v h L => Q v h ∧ Fr n0 L) (C []) hZ w4 w3 hf hl) (g := mkF m pc Ls st) rfl hml (argsL := argsL) (rest := rest) hlen hst (by show 2 * 0 + _ ≤ _; omega) hd
    (fun _ _ => ⟨has, eT, hk, hn⟩)
  dsimp only [Pt.U, Pt.locs, Pt.cells, Pt.slots] at X' hQ e1 e2 e3 step
  subst e1 e2 e3
  exact Done.go step (K v T' T'.heap hQ ⟨_, X', Fr.app N NL, rfl⟩)
theorem k_call_init (S : St p l e R s m args below meth c n0 T h k n) (hx : p.tables.exec = Jvm.exec) (hZ : Z.Warmed39 s.vm) {own : String} {index : Nat} {y : MethodName} {bytes : ByteArray} {maxL : Nat} (hown : s.vm.findClass own = some m.cls) (hy1 : y.name = "<init>")
    (w1 : (Jvm.Cond.methodLink own index y).before a0 Z = true) (w2 : (Jvm.Cond.instanceMethod y).before a0 Z = true) (w3 : (Jvm.Cond.initialized y.cls).before a0 Z = true) (w4 : (Jvm.Cond.code y bytes maxL none).before a0 Z = true)
    (hy : y.cls ≠ "java/lang/invoke/MethodHandle" ∧ y.cls ≠ "java/lang/invoke/VarHandle") {rm : Room} {as' : Array Value} (C : Con l Z y bytes maxL none rm n0 h as' Q) (W : Nat) {a : Addr} {argsL rest : List Value}
    (hf : rm.frames + 1 ≤ R.frames) (hl : W + (maxL + 11) + rm.locals ≤ R.locals) (hml : Ls.size = c.maxLocals) (hlen : ∀ sig, parseMethodDescriptor y.desc = some sig → argsL.length = sig.parameters.length) (has : (.ref a :: argsL).toArray = as')
    (hst : st = argsL.reverse ++ .ref a :: rest) (hW : (rest.map fun v => v.category).sum ≤ W) (hd : decode c.code pc = .ok (.invokespecial index, 3)) (hp : pc + 3 = pc') (hk : k + rm.cells ≤ R.cells) (hn : n + rm.slots ≤ R.slots)
    (K : ∀ v T' h', Q v h' → St p l e R s m args below meth c n0 T' h' (k + rm.cells) (n + rm.slots) → Done p e below G (T'.setTop (mkF m pc' Ls (v.toList ++ rest)))) :
    Done p e below G (T.setTop (mkF m pc Ls st)) := by
  subst hp
  obtain ⟨locs, X, N, eT⟩ := S
  obtain ⟨v, vm₁, ⟨T', L', k', n'⟩, -, X', ⟨L, ⟨hQ, NL⟩, e1, e2, e3⟩, step⟩ := X.specialBack hx (y := y) hy1 hown (mvT hZ w1) (mvT hZ w2) (mvT hZ w4) hy
    (backOf (W := W) (Q := fun v h L => Q v h ∧ Fr n0 L) (C []) hZ w4 w3 hf hl) (g := mkF m pc Ls st) rfl hml (Steps.refl _) (a := a) (argsL := argsL) (rest := rest) hlen hst (by show 2 * 0 + _ ≤ _; omega) hd
    (fun _ _ => ⟨has, eT, hk, hn⟩)
  dsimp only [Pt.U, Pt.locs, Pt.cells, Pt.slots] at X' hQ e1 e2 e3 step
  subst e1 e2 e3
  exact Done.go (fun t q => step.trans q) (K v T' T'.heap hQ ⟨_, X', Fr.app N NL, rfl⟩)
theorem k_call_virtual (S : St p l e R s m args below meth c n0 T h k n) (hx : p.tables.exec = Jvm.exec) (hZ : Z.Warmed39 s.vm) {own : String} {index : Nat} {y : MethodName} {bytes : ByteArray} {maxL : Nat} {ret : Option FieldType} (hown : s.vm.findClass own = some m.cls) {a : Addr} (E : Exa Z h a y.cls)
    (w1 : (Jvm.Cond.methodLink own index y).before a0 Z = true) (w2 : (Jvm.Cond.declares y).before a0 Z = true) (w5 : (Jvm.Cond.selects y.cls y y).before a0 Z = true) (w6 : (Jvm.Cond.instanceMethod y).before a0 Z = true) (w3 : (Jvm.Cond.initialized y.cls).before a0 Z = true) (w4 : (Jvm.Cond.code y bytes maxL ret).before a0 Z = true)
    (hy : y.cls ≠ "java/lang/invoke/MethodHandle" ∧ y.cls ≠ "java/lang/invoke/VarHandle") {rm : Room} {as' : Array Value} (C : Con l Z y bytes maxL ret rm n0 h as' Q) (W : Nat) {argsL rest : List Value}
    (hf : rm.frames + 1 ≤ R.frames) (hl : W + (maxL + 11) + rm.locals ≤ R.locals) (hml : Ls.size = c.maxLocals) (hlen : ∀ sig, parseMethodDescriptor y.desc = some sig → argsL.length = sig.parameters.length) (has : (.ref a :: argsL).toArray = as')
    (hst : st = argsL.reverse ++ .ref a :: rest) (hW : (rest.map fun v => v.category).sum ≤ W) (hd : decode c.code pc = .ok (.invokevirtual index, 3)) (hp : pc + 3 = pc') (hk : k + rm.cells ≤ R.cells) (hn : n + rm.slots ≤ R.slots)
    (K : ∀ v T' h', Q v h' → St p l e R s m args below meth c n0 T' h' (k + rm.cells) (n + rm.slots) → Done p e below G (T'.setTop (mkF m pc' Ls (v.toList ++ rest)))) :
    Done p e below G (T.setTop (mkF m pc Ls st)) := by
  subst hp
  obtain ⟨locs, X, N, eT⟩ := S
  obtain ⟨cq, kq, qa, qb, qc⟩ := isOf hZ eT E
  obtain ⟨v, vm₁, ⟨T', L', k', n'⟩, -, X', ⟨L, ⟨hQ, NL⟩, e1, e2, e3⟩, step⟩ := X.virtualBack hx (y := y) (z := y) hown (mvT hZ w1) (mvT hZ w2) (notFace_of_selects (args := #[]) (mvT hZ w5)) (mvT hZ w5) (mvT hZ w6) hy
    (backOf (W := W) (Q := fun v h L => Q v h ∧ Fr n0 L) (C []) hZ w4 w3 hf hl) qa qc (g := mkF m pc Ls st) rfl hml (Steps.refl _) (argsL := argsL) (rest := rest) hlen hst (by show 2 * 0 + _ ≤ _; omega) hd
    (fun _ _ => ⟨has, eT, hk, hn⟩)
  dsimp only [Pt.U, Pt.locs, Pt.cells, Pt.slots] at X' hQ e1 e2 e3 step
  subst e1 e2 e3
  exact Done.go (fun t q => step.trans q) (K v T' T'.heap hQ ⟨_, X', Fr.app N NL, rfl⟩)
theorem k_call_private (S : St p l e R s m args below meth c n0 T h k n) (hx : p.tables.exec = Jvm.exec) (hZ : Z.Warmed39 s.vm) {own : String} {index : Nat} {y : MethodName} {bytes : ByteArray} {maxL : Nat} {ret : Option FieldType} (hown : s.vm.findClass own = some m.cls) {a : Addr} (E : Exa Z h a y.cls)
    (w1 : (Jvm.Cond.methodLink own index y).before a0 Z = true) (w6 : (Jvm.Cond.instanceMethod y).before a0 Z = true) (w5 : (Jvm.Cond.selects y.cls y y).before a0 Z = true) (w7 : (Jvm.Cond.privateMethod y).before a0 Z = true) (w3 : (Jvm.Cond.initialized y.cls).before a0 Z = true) (w4 : (Jvm.Cond.code y bytes maxL ret).before a0 Z = true)
    (hy : y.cls ≠ "java/lang/invoke/MethodHandle" ∧ y.cls ≠ "java/lang/invoke/VarHandle") {rm : Room} {as' : Array Value} (C : Con l Z y bytes maxL ret rm n0 h as' Q) (W : Nat) {argsL rest : List Value}
    (hf : rm.frames + 1 ≤ R.frames) (hl : W + (maxL + 11) + rm.locals ≤ R.locals) (hml : Ls.size = c.maxLocals) (hlen : ∀ sig, parseMethodDescriptor y.desc = some sig → argsL.length = sig.parameters.length) (has : (.ref a :: argsL).toArray = as')
    (hst : st = argsL.reverse ++ .ref a :: rest) (hW : (rest.map fun v => v.category).sum ≤ W) (hd : decode c.code pc = .ok (.invokevirtual index, 3)) (hp : pc + 3 = pc') (hk : k + rm.cells ≤ R.cells) (hn : n + rm.slots ≤ R.slots)
    (K : ∀ v T' h', Q v h' → St p l e R s m args below meth c n0 T' h' (k + rm.cells) (n + rm.slots) → Done p e below G (T'.setTop (mkF m pc' Ls (v.toList ++ rest)))) :
    Done p e below G (T.setTop (mkF m pc Ls st)) := by
  subst hp
  obtain ⟨locs, X, N, eT⟩ := S
  obtain ⟨cq, q1, q2⟩ := E.cell
  obtain ⟨v, vm₁, ⟨T', L', k', n'⟩, -, X', ⟨L, ⟨hQ, NL⟩, e1, e2, e3⟩, step⟩ := X.privateBack hx (y := y) hown (mvT hZ w1) (mvT hZ w6) (mvT hZ w5) (Cond.privateMethod_at (mvP hZ w7 (args := #[]))) (mvT hZ w4) hy
    (backOf (W := W) (Q := fun v h L => Q v h ∧ Fr n0 L) (C []) hZ w4 w3 hf hl) (g := mkF m pc Ls st) rfl hml (Steps.refl _) (a := a) (by rw [eT]; exact q1) q2 (argsL := argsL) (rest := rest) hlen hst (by show 2 * 0 + _ ≤ _; omega) hd
    (fun _ _ => ⟨has, eT, hk, hn⟩)
  dsimp only [Pt.U, Pt.locs, Pt.cells, Pt.slots] at X' hQ e1 e2 e3 step
  subst e1 e2 e3
  exact Done.go (fun t q => step.trans q) (K v T' T'.heap hQ ⟨_, X', Fr.app N NL, rfl⟩)
/-- any one step of the library's that leaves the heap and the room as they are -/
theorem k_via {f f' : JFrame} (S : St p l e R s m args below meth c n0 T h k n) (I : ∀ locs, Stand p l e R s m args below meth c T locs k n → T.heap = h → ∃ T', Stand p l e R s m args below meth c T' locs k n ∧ T'.heap = h ∧ ∀ target, Steps p.tables e below (T'.setTop f') target → Steps p.tables e below (T.setTop f) target)
    (K : ∀ T', St p l e R s m args below meth c n0 T' h k n → Done p e below G (T'.setTop f')) : Done p e below G (T.setTop f) := by
  obtain ⟨locs, X, N, eT⟩ := S
  obtain ⟨T', X', eT', step⟩ := I locs X eT
  exact Done.go step (K T' ⟨_, X', N, eT'⟩)
/-! ### the heap: objects and fields -/
theorem k_getfield (S : St p l e R s m args below meth c n0 T h k n) (hx : p.tables.exec = Jvm.exec) (hZ : Z.Warmed39 s.vm) {own O f d : String} {index : Nat} (hown : s.vm.findClass own = some m.cls) (w : (Jvm.Cond.fieldLink own index O f d).before a0 Z = true)
    {a : Addr} {v : Value} (F : Fld Z h a O f d v) (hd : decode c.code pc = .ok (.getfield index, 3)) (hp : pc + 3 = pc')
    (K : ∀ T', St p l e R s m args below meth c n0 T' h k n → Done p e below G (T'.setTop (mkF m pc' Ls (v :: st)))) : Done p e below G (T.setTop (mkF m pc Ls (.ref a :: st))) := by
  subst hp
  obtain ⟨locs, X, N, eT⟩ := S
  obtain ⟨T', X', eT', step⟩ := getF X hx hZ hown (host := "") (Or.inl w) Via.refl eT F (g := mkF m pc Ls (.ref a :: st)) rfl rfl hd
  exact Done.go step (K T' ⟨_, X', N, eT'⟩)
theorem k_putfield (S : St p l e R s m args below meth c n0 T h k n) (hx : p.tables.exec = Jvm.exec) (hZ : Z.Warmed39 s.vm) {own O f d C : String} {index kk : Nat} {ty : FieldType} (hown : s.vm.findClass own = some m.cls) (w : (Jvm.Cond.fieldLink own index O f d).before a0 Z = true)
    {a : Addr} {v old : Value} (F : Fld Z h a O f d old) (E : Exa Z h a C) (L : (Jvm.Cond.lays C O f d).before a0 Z = true ∨ ((Jvm.Cond.laysFinal C O f d).before a0 Z = true ∧ own = O ∧ meth.name = "<init>")) (wi : (Jvm.Cond.instantiable C kk).before a0 Z = true)
    (hty : parseFieldDescriptor d = some ty) (hn' : narrow ty v = v) (hf : fits ty v = true) (ha : n0 ≤ a) (hd : decode c.code pc = .ok (.putfield index, 3)) (hp : pc + 3 = pc')
    (K : ∀ T' h', Wr h h' a (Jvm.RoadKit.slotOf Z O f d) v → St p l e R s m args below meth c n0 T' h' k n → Done p e below G (T'.setTop (mkF m pc' Ls st))) : Done p e below G (T.setTop (mkF m pc Ls (v :: .ref a :: st))) := by
  subst hp
  obtain ⟨locs, X, N, eT⟩ := S
  obtain ⟨T', h', X', eT', W, step⟩ := putF X hx hZ hown (host := "") (Or.inl w) Via.refl eT F E L wi hty hn' hf (g := mkF m pc Ls (v :: .ref a :: st)) rfl rfl hd
  exact Done.go step (K T' h' W ⟨_, X', Fr.snoc X' N ha, eT'⟩)
theorem k_new (S : St p l e R s m args below meth c n0 T h k n) (hx : p.tables.exec = Jvm.exec) (hZ : Z.Warmed39 s.vm) {own C : String} {index f : Nat} (hown : s.vm.findClass own = some m.cls) (w : (Jvm.Cond.classLink own index C).before a0 Z = true) (wi : (Jvm.Cond.instantiable C f).before a0 Z = true) (wz : (Jvm.Cond.initialized C).before a0 Z = true)
    (hd : decode c.code pc = .ok (.new index, 3)) (hp : pc + 3 = pc') (hk : k + 1 ≤ R.cells) (hn : n + f ≤ R.slots)
    (K : ∀ T' h' b, b = h.size → Ext h h' → Exa Z h' b C → (∀ {O nm d : String} {ty : FieldType}, Laid Z a0 C O nm d → parseFieldDescriptor d = some ty → Fld Z h' b O nm d (defaultValue ty)) → St p l e R s m args below meth c n0 T' h' (k + 1) (n + f) → Done p e below G (T'.setTop (mkF m pc' Ls (.ref b :: st)))) :
    Done p e below G (T.setTop (mkF m pc Ls st)) := by
  subst hp
  obtain ⟨locs, X, N, eT⟩ := S
  obtain ⟨T', h', X', eT', E, A, D, -, step⟩ := newO X hx hZ hown w wi wz eT (g := mkF m pc Ls st) rfl hd hk hn
  exact Done.go step (K T' h' _ rfl E A D ⟨_, X', N, eT'⟩)
end Walk
end Jvm.OwnKit

namespace Jvm.Pilot.@@N@@
open Jvm Jvm.ClassFile Sem Op Lib Jvm.Free Jvm.Stand Jvm.LawKit Jvm.RoadKit Jvm.OwnKit Bundle Jvm.Pilot.@@N@@.Jvm.D
def own_ctl (c : Int32) : Int32 := if (c < 32 ∧ ¬ c = 9) ∨ c = 127 then 1 else 0
theorem own_m1 (x : Int32) : ¬ (x &&& 255) < 0 := by
  have q := (c_and x 255 (by decide)).1
  simp only [Int32.lt_iff_toInt_lt, Int32.reduceToInt] at q ⊢; omega
theorem own_m2 (x : Int32) : ¬ (x &&& 2147483647) < 0 := by
  have q := (c_and x 2147483647 (by decide)).1
  simp only [Int32.lt_iff_toInt_lt, Int32.reduceToInt] at q ⊢; omega
theorem own_d1_0 : decode prog_19_method_13_code 0 = .ok (.iload_n 0, 1) := by decide +kernel
theorem own_d1_1 : decode prog_19_method_13_code 1 = .ok (.bipush 32, 2) := by decide +kernel
theorem own_d1_3 : decode prog_19_method_13_code 3 = .ok (.if_icmp .ge 9, 3) := by decide +kernel
theorem own_d1_6 : decode prog_19_method_13_code 6 = .ok (.iload_n 0, 1) := by decide +kernel
theorem own_d1_7 : decode prog_19_method_13_code 7 = .ok (.bipush 9, 2) := by decide +kernel
theorem own_d1_9 : decode prog_19_method_13_code 9 = .ok (.if_icmp .ne 9, 3) := by decide +kernel
theorem own_d1_12 : decode prog_19_method_13_code 12 = .ok (.iload_n 0, 1) := by decide +kernel
theorem own_d1_13 : decode prog_19_method_13_code 13 = .ok (.bipush 127, 2) := by decide +kernel
theorem own_d1_15 : decode prog_19_method_13_code 15 = .ok (.if_icmp .ne 7, 3) := by decide +kernel
theorem own_d1_18 : decode prog_19_method_13_code 18 = .ok (.iconst 1, 1) := by decide +kernel
theorem own_d1_19 : decode prog_19_method_13_code 19 = .ok (.goto 4, 3) := by decide +kernel
theorem own_d1_22 : decode prog_19_method_13_code 22 = .ok (.iconst 0, 1) := by decide +kernel
theorem own_d1_23 : decode prog_19_method_13_code 23 = .ok (.ireturn, 1) := by decide +kernel
theorem own_pn1 : plainName "com/example/vouchlet/vouchlet/HeaderField" = true := by first | (simp [plainName, overriddenIn]; done) | decide +kernel
set_option maxRecDepth 65536 in
set_option maxHeartbeats 40000000 in
theorem own_c1 (l : Launch) (Z : State) (a0 : Array Value) (hw : ∀ d ∈ tables_1, d.before a0 Z = true) (u : Int32) (h0 : Heap) (n0 : Nat) :
    Con l Z (⟨"com/example/vouchlet/vouchlet/HeaderField", "isAsciiControlCharacter", "(I)Z"⟩ : MethodName) prog_19_method_13_code 1 (some .boolean) ({ frames := 0, cells := 0, slots := 0, locals := 0 } : Room) n0 h0 #[(.int u)] (fun v h => v = some (.int (own_ctl u)) ∧ h = h0) := by
  refine Con.intro (plainFor_of_name own_pn1) (Ls := #[.val (.int u)]) (fun m => by first | (simp [entryFrame, mkF, argsToLocals, Value.category]; done) | rfl) ?_
  intro p e s m below meth c s₁ hx hby hml hown hnm hret hlk hZ S0
  have A0 := S0.here
  refine k_iloadN A0 hx (hb hby own_d1_0) rfl (pc' := 1) rfl ?_
  refine k_bipush A0 hx (hb hby own_d1_1) (v := 32) rfl (pc' := 3) rfl ?_
  refine k_icmp_ge A0 hx (hb hby own_d1_3) (pcY := 12) (by decide) (pc' := 6) rfl (fun hc3 => ?_) (fun hc3 => ?_)
  · refine k_iloadN A0 hx (hb hby own_d1_12) rfl (pc' := 13) rfl ?_
    refine k_bipush A0 hx (hb hby own_d1_13) (v := 127) rfl (pc' := 15) rfl ?_
    refine k_icmp_ne A0 hx (hb hby own_d1_15) (pcY := 22) (by decide) (pc' := 18) rfl (fun hc15 => ?_) (fun hc15 => ?_)
    · refine k_iconst A0 hx (hb hby own_d1_22) (v := 0) rfl (pc' := 23) rfl ?_
      refine k_ret_nar S0 hx (t := .boolean) hret (by simp) hlk (hb hby own_d1_23) (z' := (0 : Int32)) rfl (by decide) (by decide) ?_
      exact ⟨by first | (simp [own_ctl, hc3, hc15]; done) | (simp_all; done), rfl⟩
    · refine k_iconst A0 hx (hb hby own_d1_18) (v := 1) rfl (pc' := 19) rfl ?_
      refine k_goto A0 hx (hb hby own_d1_19) (pc' := 23) (by decide) ?_
      refine k_ret_nar S0 hx (t := .boolean) hret (by simp) hlk (hb hby own_d1_23) (z' := (1 : Int32)) rfl (by decide) (by decide) ?_
      exact ⟨by first | (simp [own_ctl, hc3, hc15]; done) | (simp_all; done), rfl⟩
  · refine k_iloadN A0 hx (hb hby own_d1_6) rfl (pc' := 7) rfl ?_
    refine k_bipush A0 hx (hb hby own_d1_7) (v := 9) rfl (pc' := 9) rfl ?_
    refine k_icmp_ne A0 hx (hb hby own_d1_9) (pcY := 18) (by decide) (pc' := 12) rfl (fun hc9 => ?_) (fun hc9 => ?_)
    · refine k_iconst A0 hx (hb hby own_d1_18) (v := 1) rfl (pc' := 19) rfl ?_
      refine k_goto A0 hx (hb hby own_d1_19) (pc' := 23) (by decide) ?_
      refine k_ret_nar S0 hx (t := .boolean) hret (by simp) hlk (hb hby own_d1_23) (z' := (1 : Int32)) rfl (by decide) (by decide) ?_
      exact ⟨by first | (simp [own_ctl, hc3, hc9]; done) | (simp_all; done), rfl⟩
    · refine k_iloadN A0 hx (hb hby own_d1_12) rfl (pc' := 13) rfl ?_
      refine k_bipush A0 hx (hb hby own_d1_13) (v := 127) rfl (pc' := 15) rfl ?_
      refine k_icmp_ne A0 hx (hb hby own_d1_15) (pcY := 22) (by decide) (pc' := 18) rfl (fun hc15 => ?_) (fun hc15 => ?_)
      · refine k_iconst A0 hx (hb hby own_d1_22) (v := 0) rfl (pc' := 23) rfl ?_
        refine k_ret_nar S0 hx (t := .boolean) hret (by simp) hlk (hb hby own_d1_23) (z' := (0 : Int32)) rfl (by decide) (by decide) ?_
        exact ⟨by first | (simp [own_ctl, hc3, hc9, hc15]; done) | (simp_all; done), rfl⟩
      · refine k_iconst A0 hx (hb hby own_d1_18) (v := 1) rfl (pc' := 19) rfl ?_
        refine k_goto A0 hx (hb hby own_d1_19) (pc' := 23) (by decide) ?_
        refine k_ret_nar S0 hx (t := .boolean) hret (by simp) hlk (hb hby own_d1_23) (z' := (1 : Int32)) rfl (by decide) (by decide) ?_
        exact ⟨by first | (simp [own_ctl, hc3, hc9, hc15]; done) | (simp_all; done), rfl⟩
theorem own_pn0 : plainName "com/example/vouchlet/vouchlet/HeaderFieldIsAsciiControlCharacterPinLaw" = true := by first | (simp [plainName, overriddenIn]; done) | decide +kernel
theorem own_pd0 : parseMethodDescriptor "(I)Z" = some ⟨[.int], some .boolean⟩ := by decide +kernel
set_option maxRecDepth 65536 in
set_option maxHeartbeats 40000000 in
theorem own_law (l : Launch) (Z : State) (a0 : Array Value) (hw : ∀ d ∈ tables_1, d.before a0 Z = true) (x0 x1 : Int32) (h0 : Heap) (n0 : Nat) (Z0 : n0 ≤ h0.size) :
    Con l Z x code maxLocals ret room_1 n0 h0 #[(.int x0), (.int x1)] (fun v h => v = some (.int 1)) := by
  refine Con.intro (plainFor_of_name own_pn0) (Ls := #[.val (.int x0), .val (.int x1), .unset, .unset]) (fun m => by first | (simp [entryFrame, mkF, argsToLocals, Value.category, maxLocals]; done) | rfl) ?_
  intro p e s m below meth c s₁ hx hby hml hown hnm hret hlk hZ S0
  have A0 := S0.here
  have J18_1 : ∀ (T1 : State), ∀ (v : Int32), St p l e room_1 s m #[(.int x0), (.int x1)] below meth c n0 T1 h0 0 0 → (¬ v < 0) → Done p e below (OEnd s room_1 n0 (fun v h => v = some (.int 1))) (T1.setTop (mkF m 18 #[.val (.int x0), .val (.int x1), .unset, .unset] [(.int v)])) := by
    intro T1 v S1 hv
    have A1 := S1.here
    refine k_istoreN A1 hx (hb hby at_18) (Ls' := #[.val (.int x0), .val (.int x1), .val (.int v), .unset]) rfl (pc' := 19) rfl ?_
    have J48_2 : ∀ (T2 : State), ∀ (b : Int32), St p l e room_1 s m #[(.int x0), (.int x1)] below meth c n0 T2 h0 0 0 → (b = own_ctl v) → Done p e below (OEnd s room_1 n0 (fun v h => v = some (.int 1))) (T2.setTop (mkF m 48 #[.val (.int x0), .val (.int x1), .val (.int v), .unset] [(.int b)])) := by
      intro T2 b S2 hb48
      have A2 := S2.here
      refine k_istoreN A2 hx (hb hby at_48) (Ls' := #[.val (.int x0), .val (.int x1), .val (.int v), .val (.int b)]) rfl (pc' := 49) rfl ?_
      refine k_iloadN A2 hx (hb hby at_49) rfl (pc' := 50) rfl ?_
      refine k_call_static S2 hx hZ hown (hw _ (List.mem_of_getElem? (i := 0) rfl)) (hw _ (List.mem_of_getElem? (i := 1) rfl)) (hw _ (List.mem_of_getElem? (i := 2) rfl)) (hw _ (List.mem_of_getElem? (i := 3) rfl)) (by decide) (own_c1 l Z a0 hw v h0 n0) 0 (argsL := [(.int v)]) (rest := []) (by decide) (by decide) (by rw [hml]; rfl) (lenOf own_pd0 rfl) rfl rfl (Nat.le_refl 0) (hb hby at_50) (pc' := 53) rfl (by decide) (by decide) ?_
      rintro v3 T3 h3 ⟨rfl, q3⟩ S3
      rw [q3] at S3
      have A3 := S3.here
      show Done p e below _ (T3.setTop (mkF m 53 #[.val (.int x0), .val (.int x1), .val (.int v), .val (.int b)] [(.int (own_ctl v))]))
      refine k_iloadN A3 hx (hb hby at_53) rfl (pc' := 54) rfl ?_
      refine k_icmp_ne A3 hx (hb hby at_54) (pcY := 61) (by decide) (pc' := 57) rfl (fun hc54 => ?_) (fun hc54 => ?_)
      · refine k_iconst A3 hx (hb hby at_61) (v := 0) rfl (pc' := 62) rfl ?_
        refine k_ret_nar S3 hx (t := .boolean) hret (by simp) hlk (hb hby at_62) (z' := (0 : Int32)) rfl (by decide) (by decide) ?_
        exact absurd hb48.symm hc54
      · refine k_iconst A3 hx (hb hby at_57) (v := 1) rfl (pc' := 58) rfl ?_
        refine k_goto A3 hx (hb hby at_58) (pc' := 62) (by decide) ?_
        refine k_ret_nar S3 hx (t := .boolean) hret (by simp) hlk (hb hby at_62) (z' := (1 : Int32)) rfl (by decide) (by decide) ?_
        exact rfl
    refine k_iloadN A1 hx (hb hby at_19) rfl (pc' := 20) rfl ?_
    refine k_bipush A1 hx (hb hby at_20) (v := 8) rfl (pc' := 22) rfl ?_
    refine k_icmp_le A1 hx (hb hby at_22) (pcY := 43) (by decide) (pc' := 25) rfl (fun hc22 => ?_) (fun hc22 => ?_)
    · refine k_iconst A1 hx (hb hby at_43) (v := 1) rfl (pc' := 44) rfl ?_
      refine k_goto A1 hx (hb hby at_44) (pc' := 48) (by decide) ?_
      exact J48_2 T1 (1 : Int32) (S1.more (by decide) (by decide)) (if_pos (by simp only [Int32.lt_iff_toInt_lt, ← Int32.toInt_inj, Int32.reduceToInt] at hv hc22 ⊢; omega)).symm
    · refine k_iloadN A1 hx (hb hby at_25) rfl (pc' := 26) rfl ?_
      refine k_bipush A1 hx (hb hby at_26) (v := 10) rfl (pc' := 28) rfl ?_
      refine k_icmp_lt A1 hx (hb hby at_28) (pcY := 37) (by decide) (pc' := 31) rfl (fun hc28 => ?_) (fun hc28 => ?_)
      · refine k_iloadN A1 hx (hb hby at_37) rfl (pc' := 38) rfl ?_
        refine k_bipush A1 hx (hb hby at_38) (v := 127) rfl (pc' := 40) rfl ?_
        refine k_icmp_ne A1 hx (hb hby at_40) (pcY := 47) (by decide) (pc' := 43) rfl (fun hc40 => ?_) (fun hc40 => ?_)
        · refine k_iconst A1 hx (hb hby at_47) (v := 0) rfl (pc' := 48) rfl ?_
          exact J48_2 T1 (0 : Int32) (S1.more (by decide) (by decide)) (if_neg (by simp only [Int32.lt_iff_toInt_lt, ← Int32.toInt_inj, Int32.reduceToInt] at hv hc22 hc28 hc40 ⊢; omega)).symm
        · refine k_iconst A1 hx (hb hby at_43) (v := 1) rfl (pc' := 44) rfl ?_
          refine k_goto A1 hx (hb hby at_44) (pc' := 48) (by decide) ?_
          exact J48_2 T1 (1 : Int32) (S1.more (by decide) (by decide)) (if_pos (by simp only [Int32.lt_iff_toInt_lt, ← Int32.toInt_inj, Int32.reduceToInt] at hv hc22 hc28 hc40 ⊢; omega)).symm
      · refine k_iloadN A1 hx (hb hby at_31) rfl (pc' := 32) rfl ?_
        refine k_bipush A1 hx (hb hby at_32) (v := 31) rfl (pc' := 34) rfl ?_
        refine k_icmp_le A1 hx (hb hby at_34) (pcY := 43) (by decide) (pc' := 37) rfl (fun hc34 => ?_) (fun hc34 => ?_)
        · refine k_iconst A1 hx (hb hby at_43) (v := 1) rfl (pc' := 44) rfl ?_
          refine k_goto A1 hx (hb hby at_44) (pc' := 48) (by decide) ?_
          exact J48_2 T1 (1 : Int32) (S1.more (by decide) (by decide)) (if_pos (by simp only [Int32.lt_iff_toInt_lt, ← Int32.toInt_inj, Int32.reduceToInt] at hv hc22 hc28 hc34 ⊢; omega)).symm
        · refine k_iloadN A1 hx (hb hby at_37) rfl (pc' := 38) rfl ?_
          refine k_bipush A1 hx (hb hby at_38) (v := 127) rfl (pc' := 40) rfl ?_
          refine k_icmp_ne A1 hx (hb hby at_40) (pcY := 47) (by decide) (pc' := 43) rfl (fun hc40 => ?_) (fun hc40 => ?_)
          · refine k_iconst A1 hx (hb hby at_47) (v := 0) rfl (pc' := 48) rfl ?_
            exact J48_2 T1 (0 : Int32) (S1.more (by decide) (by decide)) (if_neg (by simp only [Int32.lt_iff_toInt_lt, ← Int32.toInt_inj, Int32.reduceToInt] at hv hc22 hc28 hc34 hc40 ⊢; omega)).symm
          · refine k_iconst A1 hx (hb hby at_43) (v := 1) rfl (pc' := 44) rfl ?_
            refine k_goto A1 hx (hb hby at_44) (pc' := 48) (by decide) ?_
            exact J48_2 T1 (1 : Int32) (S1.more (by decide) (by decide)) (if_pos (by simp only [Int32.lt_iff_toInt_lt, ← Int32.toInt_inj, Int32.reduceToInt] at hv hc22 hc28 hc34 hc40 ⊢; omega)).symm
  refine k_iloadN A0 hx (hb hby at_0) rfl (pc' := 1) rfl ?_
  refine k_iconst A0 hx (hb hby at_1) (v := 1) rfl (pc' := 2) rfl ?_
  refine k_iand A0 hx (hb hby at_2) (pc' := 3) rfl ?_
  refine k_if_eq A0 hx (hb hby at_3) (pcY := 14) (by decide) (pc' := 6) rfl (fun hc3 => ?_) (fun hc3 => ?_)
  · refine k_iloadN A0 hx (hb hby at_14) rfl (pc' := 15) rfl ?_
    refine k_ldcInt S0 hx hZ hown (hw _ (List.mem_of_getElem? (i := 4) rfl)) (hb hby at_15) (pc' := 17) rfl ?_
    refine k_iand A0 hx (hb hby at_17) (pc' := 18) rfl ?_
    exact J18_1 s₁ _ (S0.more (by decide) (by decide)) (own_m2 x0)
  · refine k_iloadN A0 hx (hb hby at_6) rfl (pc' := 7) rfl ?_
    refine k_sipush A0 hx (hb hby at_7) (v := 255) rfl (pc' := 10) rfl ?_
    refine k_iand A0 hx (hb hby at_10) (pc' := 11) rfl ?_
    refine k_goto A0 hx (hb hby at_11) (pc' := 18) (by decide) ?_
    exact J18_1 s₁ _ (S0.more (by decide) (by decide)) (own_m1 x0)
set_option maxRecDepth 65536 in
set_option maxHeartbeats 40000000 in
theorem comes_1 {Post : Tables → Env → Array Value → State → Outcome → State → Prop} (hpost : ∀ tb e args s v u, (limb_1_1.after args s (.returned v) u = true ∧ limb_1_2.after args s (.returned v) u = true ∧ True) → FrameEnd s (.returned v) u (Jvm.fieldLocs frame_1_writes args s ++ Jvm.arrayLocs frame_1_arrays args s ++ Jvm.staticLocs frame_1_statics s) 0 0 → Post tb e args s (.returned v) u) :
    ArmFor flags0 classFile x code maxLocals ret World_1 tables_1 room_1 Calls_1 rest_1 Pre_1 Post := by
  intro l hfl _ _ p e ha hc hk s m args below hf hA hF happ hP
  obtain ⟨hcalls, hrest, hpre⟩ := hP
  obtain ⟨-, -, -, hnamed, -, -, -, hat⟩ := (Spec.applies_iff hf).mp happ
  obtain ⟨hg, hn⟩ := and_e (Cond.before_iff.mp (show (Jvm.Cond.and given_1 narrow_1).before args s = true from hpre))
  obtain ⟨g1, g2⟩ := and_e hg
  obtain ⟨g3, g4⟩ := and_e g2
  obtain ⟨w0, w1, rfl⟩ : ∃ w0 w1 : Value, args = #[w0, w1] := by
    have hs : args.size = 2 := by simpa [Cond.value, given_1] using g1
    obtain ⟨L⟩ := args
    match L, hs with
    | [w0, w1], _ => exact ⟨w0, w1, rfl⟩
  have hw := fun d (hd : d ∈ tables_1) => atoms_spec (ws := Jvm.Cond.code x code maxLocals ret :: tables_1) hat d (List.mem_cons_of_mem _ hd)
  obtain ⟨i0, ei0⟩ := is_v g3
  obtain rfl : w0 = (.int i0) := Option.some.inj ei0
  obtain ⟨i1, ei1⟩ := is_v g4
  obtain rfl : w1 = (.int i1) := Option.some.inj ei1
  obtain ⟨n, o, h1, h2, h3, _, L, rfl, ⟨rfl, N⟩, hq⟩ := own_law l s _ hw i0 i1 s.heap s.heap.size (Nat.le_refl _) tables_1 p e ha hc hk s m _ below hf ((Spec.applies_iff_loose hf).mp happ).1 ⟨rfl, State.Warmed39.refl s, rfl⟩ trivial
  refine ⟨n, _, h1, h2, h3, hpost _ _ _ _ _ _ ⟨Cond.after_iff.mpr rfl, Cond.after_iff.mpr (eq_i res_at (Term.int_eval (1)) rfl), trivial⟩ ⟨hq.1, hq.2.1, (hq.2.2.sift fun y hy => Or.inr (N y hy)).mono (by decide) (by decide)⟩⟩
theorem main_1_1 : Claimed_1_1 := comes_1 fun _ _ _ _ _ _ h hF => ⟨h.1, hF⟩
theorem main_1_2 : Claimed_1_2 := comes_1 fun _ _ _ _ _ _ h hF => ⟨h.2.1, hF⟩
end Jvm.Pilot.@@N@@
namespace Jvm.Pilot.@@N@@
open Jvm Jvm.ClassFile Sem Op Lib Jvm.Free Jvm.Stand Jvm.Pilot.@@N@@.Jvm.D
/-! MADE BY PROGRAM (witnessworld.py) out of the Statement's table words and the real class files: 10 classes; the members and pool entries that the words name. The judged class is class 1, her method 1. -/
namespace start1
open Jvm.ClassFile
def u (s : String) : CpInfo := .utf8 (stringToUtf16 s)
/-- a pool by its gaps: so many unusable entries, then the entry; so many at the end -/
def gap : Nat → List CpInfo → List CpInfo
  | 0, r => r
  | n + 1, r => .unusable :: gap n r
def poolList (es : List (Nat × CpInfo)) (last : Nat) : List CpInfo := es.foldr (fun e r => gap e.1 (e.2 :: r)) (gap last [])
def pool (es : List (Nat × CpInfo)) (last : Nat) : Array CpInfo := ⟨poolList es last⟩
def fileOf (pool : Array CpInfo) (this : Nat) (attrs : Array Attribute := #[]) (ms : Array MethodInfo := #[]) (fl : Nat := 33) (sup : Nat := 0) (ifs : Array Nat := #[]) (fds : Array FieldInfo := #[]) : ClassFile where
  minorVersion := 0
  majorVersion := 65
  constantPool := pool
  accessFlags := fl
  thisClass := this
  superClass := sup
  interfaces := ifs
  fields := fds
  methods := ms
  attributes := attrs
def plain (name : String) (sup : Option ClassId) : Class where
  name := name
  kind := .ordinary
  loader := none
  accessFlags := 33
  super := sup
  interfaces := #[]
  cf := none
  fields := #[]
  methods := #[]
  instanceTypes := #[]
  staticTypes := #[]
  resolved := #[]
  callSites := []
  init := .initialized
  statics := none
  mirror := none

def pool0 : Array CpInfo := pool [(5, u "<init>"), (0, u "()V"), (1, .class_ 10), (1, u "java/lang/Object")] 113

def k0m0 : Method := { name := "<init>", desc := "()V", sig := { parameters := [], returnType := none }, accessFlags := 1, code := none }
/-- java/lang/Object -/
def k0 : Class := { plain "java/lang/Object" none with
  accessFlags := 33
  interfaces := #[]
  cf := some (fileOf pool0 8 #[] #[{ accessFlags := 1, nameIndex := 5, descriptorIndex := 6, attributes := #[] }] 33 0 #[] #[])
  fields := #[]
  methods := #[k0m0]
  instanceTypes := #[]
  staticTypes := #[]
  resolved := Array.replicate 124 none
  statics := none }

def pool1 : Array CpInfo := pool [(2, .class_ 4), (1, u "java/lang/Object"), (0, u "<init>"), (0, u "()V"), (0, .integer 2147483647), (0, .methodref 9 10), (0, .class_ 11), (0, .nameAndType 12 13), (0, u "com/example/vouchlet/vouchlet/HeaderField"), (0, u "isAsciiControlCharacter"), (0, u "(I)Z"), (0, .class_ 15), (0, u "com/example/vouchlet/vouchlet/HeaderFieldIsAsciiControlCharacterPinLaw"), (2, u "law"), (0, u "(II)Z")] 3

def k1m0 : Method := { name := "<init>", desc := "()V", sig := { parameters := [], returnType := none }, accessFlags := 1, code := none }
def k1c1 : Code := { maxStack := 2, maxLocals := 4, code := code, exceptionTable := #[], attributes := #[] }
def k1m1 : Method := { name := "law", desc := "(II)Z", sig := { parameters := [.int, .int], returnType := some .boolean }, accessFlags := 9, code := some k1c1 }
/-- com/example/vouchlet/vouchlet/HeaderFieldIsAsciiControlCharacterPinLaw -/
def k1 : Class := { plain "com/example/vouchlet/vouchlet/HeaderFieldIsAsciiControlCharacterPinLaw" (some 0) with
  accessFlags := 49
  interfaces := #[]
  cf := some (fileOf pool1 14 #[] #[{ accessFlags := 1, nameIndex := 5, descriptorIndex := 6, attributes := #[] }, { accessFlags := 9, nameIndex := 18, descriptorIndex := 19, attributes := #[] }] 49 2 #[] #[])
  fields := #[]
  methods := #[k1m0, k1m1]
  instanceTypes := #[]
  staticTypes := #[]
  resolved := Array.replicate 23 none
  statics := none }

def pool2 : Array CpInfo := pool [(2, .class_ 4), (1, u "java/lang/Object"), (0, u "<init>"), (0, u "()V"), (0, .class_ 8), (0, u "java/lang/Record")] 13

def k2m0 : Method := { name := "<init>", desc := "()V", sig := { parameters := [], returnType := none }, accessFlags := 4, code := none }
/-- java/lang/Record -/
def k2 : Class := { plain "java/lang/Record" (some 0) with
  accessFlags := 1057
  interfaces := #[]
  cf := some (fileOf pool2 7 #[] #[{ accessFlags := 4, nameIndex := 5, descriptorIndex := 6, attributes := #[] }] 1057 2 #[] #[])
  fields := #[]
  methods := #[k2m0]
  instanceTypes := #[]
  staticTypes := #[]
  resolved := Array.replicate 22 none
  statics := none }

def pool3 : Array CpInfo := pool [(2, .class_ 4), (1, u "java/lang/Record"), (3, u "name"), (7, u "value"), (1, .class_ 20), (1, u "com/example/vouchlet/vouchlet/HeaderField"), (0, u "Ljava/lang/String;"), (37, u "isAsciiControlCharacter"), (0, u "(I)Z"), (12, .class_ 74), (0, u "com/example/vouchlet/vouchlet/HeaderField$Text"), (47, u "TOKEN_SYMBOLS")] 43

def k3c0 : Code := { maxStack := 2, maxLocals := 1, code := prog_19_method_13_code, exceptionTable := #[], attributes := #[] }
def k3m0 : Method := { name := "isAsciiControlCharacter", desc := "(I)Z", sig := { parameters := [.int], returnType := some .boolean }, accessFlags := 8, code := some k3c0 }
/-- com/example/vouchlet/vouchlet/HeaderField -/
def k3 : Class := { plain "com/example/vouchlet/vouchlet/HeaderField" (some 2) with
  accessFlags := 49
  interfaces := #[]
  cf := some (fileOf pool3 18 #[.nestMembers #[73]] #[{ accessFlags := 8, nameIndex := 59, descriptorIndex := 60, attributes := #[] }] 49 2 #[] #[{ accessFlags := 18, nameIndex := 8, descriptorIndex := 21, attributes := #[] }, { accessFlags := 18, nameIndex := 16, descriptorIndex := 21, attributes := #[] }, { accessFlags := 26, nameIndex := 122, descriptorIndex := 21, attributes := #[] }])
  fields := #[{ name := "name", type := (.object "java/lang/String"), accessFlags := 18, slot := 0, constantValue := 0 }, { name := "value", type := (.object "java/lang/String"), accessFlags := 18, slot := 1, constantValue := 0 }, { name := "TOKEN_SYMBOLS", type := (.object "java/lang/String"), accessFlags := 26, slot := 0, constantValue := 0 }]
  methods := #[k3m0]
  instanceTypes := #[(.object "java/lang/String"), (.object "java/lang/String")]
  staticTypes := #[(.object "java/lang/String")]
  resolved := Array.replicate 166 none
  statics := none }

def pool4 : Array CpInfo := pool [(1, u "java/lang/Cloneable"), (0, .class_ 1), (0, u "java/lang/Object"), (0, .class_ 3)] 3

/-- java/lang/Cloneable -/
def k4 : Class := { plain "java/lang/Cloneable" (some 0) with
  accessFlags := 1537
  interfaces := #[]
  cf := some (fileOf pool4 2 #[] #[] 1537 4 #[] #[])
  fields := #[]
  methods := #[]
  instanceTypes := #[]
  staticTypes := #[]
  resolved := Array.replicate 8 none
  statics := none }

def pool5 : Array CpInfo := pool [(1, u "java/io/Serializable"), (0, .class_ 1), (0, u "java/lang/Object"), (0, .class_ 3)] 3

/-- java/io/Serializable -/
def k5 : Class := { plain "java/io/Serializable" (some 0) with
  accessFlags := 1537
  interfaces := #[]
  cf := some (fileOf pool5 2 #[] #[] 1537 4 #[] #[])
  fields := #[]
  methods := #[]
  instanceTypes := #[]
  staticTypes := #[]
  resolved := Array.replicate 8 none
  statics := none }

/-- the primitive byte -/
def k6 : Class := { plain "byte" none with kind := .primitive 'B', accessFlags := 0x411 }
/-- [B -/
def k7 : Class := { plain "[B" (some 0) with kind := .array 6 .byte, interfaces := #[4, 5], accessFlags := 1041 }

/-- the primitive int -/
def k8 : Class := { plain "int" none with kind := .primitive 'I', accessFlags := 0x411 }
/-- [I -/
def k9 : Class := { plain "[I" (some 0) with kind := .array 8 .int, interfaces := #[4, 5], accessFlags := 1041 }

def heap : Heap := #[]
def classes : Array Class := #[k0, k1, k2, k3, k4, k5, k6, k7, k8, k9]
def interned : List (Array UInt16 × Addr) := []
def slotsUsed : Nat := 0
def theMethod : MethodId := ⟨1, 1⟩
def args0 : Array Value := #[.int 65, .int 1]
def aboutOver (below : List Frame) : State where
  vm := { classes := classes, interned := interned.toArray }
  heap := heap
  slotsUsed := slotsUsed
  threads := #[{ frames := .invoking theMethod args0 :: below }]
def below0 : List Frame := [.native { method := ⟨0, 0⟩, args := #[] }]
def about1 : State := aboutOver below0
def p0 : Program := .bare "" "" ""
def e0 : Env := launch0.env 0 0 0
theorem w_frames : about1.frames = Frame.invoking theMethod args0 :: below0 := rfl
set_option maxRecDepth 65536 in
theorem w_args : argsFit about1.vm theMethod args0 = true := by decide +kernel
set_option maxRecDepth 65536 in
theorem w_heap : heapFits about1 = true := by decide +kernel
set_option maxRecDepth 65536 in
theorem w_runnable : about1.curStatus? = some .runnable := by decide +kernel
set_option maxRecDepth 65536 in
theorem w_alone : about1.alone = true := by decide +kernel
set_option maxRecDepth 65536 in
theorem w_named : about1.methodNamed? x = some theMethod := by decide +kernel
set_option maxRecDepth 65536 in
theorem w_hears : about1.hears theMethod below0 = true := by decide +kernel
set_option maxRecDepth 65536 in
theorem w_ripe : about1.ripe theMethod args0 below0 = true := by decide +kernel
theorem w_running : about1.status = .running := rfl
set_option maxRecDepth 65536 in
theorem w_room : about1.hasRoom e0.platform room_1 = true :=
  launch0.hasRoom_least _ room_1 (by decide +kernel) (by decide +kernel) (by decide +kernel) (by decide +kernel) (by decide +kernel) (by decide +kernel)
theorem allAtoms_all (ts : List Jvm.Cond) (a : Array Jvm.Value) (st : Jvm.State) : (allAtoms ts).before a st = ts.all (fun c => c.before a st) := by
  induction ts with
  | nil => rfl
  | cons c t ih =>
    show (Jvm.Cond.and c (allAtoms t)).before a st = _
    rw [Jvm.Cond.before_and, ih, List.all_cons]
def words1 : List Jvm.Cond := Jvm.Cond.code x code maxLocals ret :: tables_1
/-- a 'code' word, met by the world's own term for the bytes: nothing is compared byte by byte -/
theorem code_word {y : MethodName} {bytes : ByteArray} {mx : Nat} {rt : Option FieldType} {a : Array Value} {s : State} {m : MethodId} {meth : Method} {c : Code} (h1 : s.methodNamed? y = some m) (h2 : s.vm.method? m = some meth) (h3 : meth.code = some c) (h4 : c.code = bytes)
    (h5 : (c.maxLocals == mx && c.exceptionTable.isEmpty && decide (c.maxStack ≤ mostOperands) && decide (meth.sig.returnType = rt) && !meth.locks && decide (parseMethodDescriptor y.desc = some meth.sig)) = true) : (Jvm.Cond.code y bytes mx rt).before a s = true := by
  simp only [Bool.and_eq_true, beq_iff_eq, Bool.not_eq_true', decide_eq_true_eq] at h5
  obtain ⟨⟨⟨⟨⟨g1, g2⟩, g3⟩, g4⟩, g5⟩, g6⟩ := h5
  simp [Cond.before, Cond.holds, Cond.value, h1, h2, h3, h4, g1, g2, g3, g4, g5, g6]
def isCode : Jvm.Cond → Bool
  | .code _ _ _ _ => true
  | _ => false
theorem all_split {L : List Jvm.Cond} {P : Jvm.Cond → Bool} (h1 : L.all (fun c => isCode c || P c) = true) (h2 : ∀ c ∈ L.filter isCode, P c = true) : L.all P = true := by
  refine List.all_eq_true.mpr fun c hc => ?_
  have h := List.all_eq_true.mp h1 c hc
  rcases Bool.eq_false_or_eq_true (isCode c) with hi | hi
  · exact h2 c (List.mem_filter.mpr ⟨hc, hi⟩)
  · simpa [hi] using h
set_option maxRecDepth 65536 in
theorem w_c0 : (Jvm.Cond.code x code maxLocals ret).before args0 about1 = true := code_word (m := ⟨1, 1⟩) (meth := k1m1) (c := k1c1) (by decide +kernel) rfl rfl rfl (by decide +kernel)
set_option maxRecDepth 65536 in
theorem w_c1 : (Jvm.Cond.code ({ cls := "com/example/vouchlet/vouchlet/HeaderField", name := "isAsciiControlCharacter", desc := "(I)Z" } : Jvm.MethodName) prog_19_method_13_code (1 : Nat) (Option.some Jvm.ClassFile.FieldType.boolean)).before args0 about1 = true := code_word (m := ⟨3, 0⟩) (meth := k3m0) (c := k3c0) (by decide +kernel) rfl rfl rfl (by decide +kernel)
def codes1 : List Jvm.Cond := [Jvm.Cond.code x code maxLocals ret, Jvm.Cond.code ({ cls := "com/example/vouchlet/vouchlet/HeaderField", name := "isAsciiControlCharacter", desc := "(I)Z" } : Jvm.MethodName) prog_19_method_13_code (1 : Nat) (Option.some Jvm.ClassFile.FieldType.boolean)]
set_option maxRecDepth 65536 in
theorem codes_eq : words1.filter isCode = codes1 := rfl
theorem w_codes : ∀ c ∈ words1.filter isCode, c.before args0 about1 = true := by
  rw [codes_eq]
  intro c hc
  simp only [codes1, List.mem_cons, List.not_mem_nil, or_false] at hc
  rcases hc with rfl | rfl
  · exact w_c0
  · exact w_c1
set_option maxRecDepth 65536 in
theorem w_t1 : words1.all (fun c => isCode c || c.before args0 about1) = true := by decide +kernel
theorem w_tables : (allAtoms (Jvm.Cond.code x code maxLocals ret :: tables_1)).before args0 about1 = true := by
  rw [allAtoms_all]
  show words1.all (fun c => c.before args0 about1) = true
  refine all_split ?_ w_codes
  rw [w_t1]
set_option maxRecDepth 65536 in
theorem w_case : (Jvm.Cond.and given_1 narrow_1).before args0 about1 = true := by decide +kernel
theorem w_applies : (headSpec (Jvm.Cond.code x code maxLocals ret :: tables_1) room_1).applies x e0.platform about1 = true :=
  (Spec.applies_iff w_frames).mpr ⟨w_running, w_runnable, w_alone, w_named, w_hears, w_ripe, w_room, w_tables⟩
theorem atStart : AtStart classFile x code maxLocals ret World_1 tables_1 room_1 Calls_1 rest_1 Pre_1 launch0 p0 e0 about1 theMethod args0 below0 :=
  ⟨lists_1, trivial, launch0.admits_env _ _ _, launch0.least_env, fairChoices_fair.cas, fairChoices_fair.clock, w_frames, w_args, w_heap, w_applies, trivial, trivial, w_case⟩
end start1
theorem witness_1 : WitnessClaimed_1 := ⟨start1.p0, start1.e0, start1.about1, start1.theMethod, start1.args0, start1.below0, start1.atStart⟩
end Jvm.Pilot.@@N@@
