import JvmDerived
import JvmDerived.Pilot.@@N@@Statement
import JvmDerived.Pilot.@@N@@Code
set_option linter.unusedVariables false
set_option linter.unusedSimpArgs false
namespace Jvm.OwnKit
open Sem ClassFile Op Lib Jvm.Stand Jvm.Free Jvm.LawKit Jvm.RoadKit
/-! My own layer: a walk forward. Done G S: from the state S the invocation comes to its end, and G holds there. -/
def Done (p : Program) (e : Env) (below : List Frame) (G : Outcome → State → Prop) (S : State) : Prop :=
  ∃ s₂ o, Steps p.tables e below S s₂ ∧ s₂.status = .running ∧ Ended s₂ below o ∧ G o s₂
/-- what a contract promises at the end: the value, the heap; all that was written lies at or above n0 -/
def OEnd (s : State) (R : Room) (n0 : Nat) (Q : Option Value → Heap → Prop) (o : Outcome) (U : State) : Prop :=
  ∃ v L, o = .returned v ∧ (Q v U.heap ∧ Fr n0 L) ∧ FrameEnd s o U L R.cells R.slots
/-- where the walk stands: a Stand whose writes lie at or above n0, and its heap -/
def St (p : Program) (l : Launch) (e : Env) (R : Room) (s : State) (m : MethodId) (args : Array Value) (below : List Frame) (meth : Method) (c : Code) (n0 : Nat) (T : State) (h : Heap) (k n : Nat) : Prop :=
  ∃ locs, Stand p l e R s m args below meth c T locs k n ∧ Fr n0 locs ∧ T.heap = h
/-- a contract of a body -/
def Con (l : Launch) (Z : State) (y : MethodName) (bytes : ByteArray) (maxL : Nat) (ret : Option FieldType) (rm : Room) (n0 : Nat) (h0 : Heap) (as' : Array Value) (Q : Option Value → Heap → Prop) : Prop :=
  ∀ ws : List Jvm.Cond, MetFree l y (head1 (Jvm.Cond.code y bytes maxL ret :: ws) rm) (fun a U => a = as' ∧ Z.Warmed39 U.vm ∧ U.heap = h0) (fun _ _ _ _ _ => True) (fun _ U o U' => OEnd U rm n0 Q o U')
section Walk
variable {p : Program} {l : Launch} {e : Env} {R : Room} {s : State} {m : MethodId} {args : Array Value} {below : List Frame} {meth : Method} {c : Code} {n0 : Nat} {T : State} {h : Heap} {k n : Nat} {Z : State} {a0 : Array Value}
variable {G : Outcome → State → Prop} {pc pc' : Nat} {Ls Ls' : Array Slot} {st : List Value}
theorem Done.go {S S' : State} (f : ∀ t, Steps p.tables e below S' t → Steps p.tables e below S t) (d : Done p e below G S') : Done p e below G S := by
  obtain ⟨s₂, o, h1, h2⟩ := d
  exact ⟨s₂, o, f _ h1, h2⟩
theorem St.here (S : St p l e R s m args below meth c n0 T h k n) : At T m c below := by
  obtain ⟨_, X, _⟩ := S
  exact X.here
theorem St.heap (S : St p l e R s m args below meth c n0 T h k n) : T.heap = h := by
  obtain ⟨_, _, _, q⟩ := S
  exact q
theorem St.more {k' n' : Nat} (S : St p l e R s m args below meth c n0 T h k n) (hk : k ≤ k') (hn : n ≤ n') : St p l e R s m args below meth c n0 T h k' n' := by
  obtain ⟨L, X, N, q⟩ := S
  exact ⟨L, X.more hk hn, N, q⟩
theorem Con.intro {y : MethodName} {bytes : ByteArray} {maxL : Nat} {ret : Option FieldType} {rm : Room} {h0 : Heap} {as' : Array Value} {Q : Option Value → Heap → Prop}
    (hp : plainFor y = true) (hef : ∀ m, entryFrame m as' maxL = mkF m 0 Ls [])
    (body : ∀ (p : Program) (e : Env) (s : State) (m : MethodId) (below : List Frame) (meth : Method) (c : Code) (s₁ : State), p.tables.exec = Jvm.exec → c.code = bytes → c.maxLocals = maxL → s.vm.findClass y.cls = some m.cls → meth.name = y.name →
      meth.sig.returnType = ret → meth.locks = false → Z.Warmed39 s.vm → St p l e rm s m as' below meth c n0 s₁ h0 0 0 → Done p e below (OEnd s rm n0 Q) (s₁.setTop (mkF m 0 Ls []))) :
    Con l Z y bytes maxL ret rm n0 h0 as' Q := by
  intro ws
  refine MetFree.of_bodySF hp hisR ?_
  intro p e s m args below meth c s₁ Bd hml0 hP hK
  obtain ⟨rfl, hZ, hh⟩ := hP
  have hr := body p e s m below meth c s₁ Bd.exec Bd.bytes hml0 (findClass_of_methodNamed Bd.named) (name_of_methodNamed Bd.named Bd.method).1 Bd.returns Bd.notSynchronized hZ ⟨[], Stand.of_body Bd, Fr.nil n0, by rw [← hh, Bd.state]; rfl⟩
  rw [← hef m] at hr
  exact hr
/-! ### single steps -/
theorem k_iload (A : At T m c below) (hx : p.tables.exec = Jvm.exec) {i : Nat} {v : Int32} (hd : decode c.code pc = .ok (.iload i, 2)) (hl : Ls[i]? = some (.val (.int v))) (hp : pc + 2 = pc')
    (K : Done p e below G (T.setTop (mkF m pc' Ls (.int v :: st)))) : Done p e below G (T.setTop (mkF m pc Ls st)) := by
  subst hp; exact Done.go (fun t q => XS.iload A hx rfl hd hl q) K
theorem k_iloadN (A : At T m c below) (hx : p.tables.exec = Jvm.exec) {i : Fin 4} {v : Int32} (hd : decode c.code pc = .ok (.iload_n i, 1)) (hl : Ls[i.val]? = some (.val (.int v))) (hp : pc + 1 = pc')
    (K : Done p e below G (T.setTop (mkF m pc' Ls (.int v :: st)))) : Done p e below G (T.setTop (mkF m pc Ls st)) := by
  subst hp; exact Done.go (fun t q => XS.iloadN A hx rfl hd hl q) K
theorem k_istore (A : At T m c below) (hx : p.tables.exec = Jvm.exec) {i : Nat} {v : Int32} (hd : decode c.code pc = .ok (.istore i, 2)) (hl : storeLocals Ls i (.int v) = some Ls') (hp : pc + 2 = pc')
    (K : Done p e below G (T.setTop (mkF m pc' Ls' st))) : Done p e below G (T.setTop (mkF m pc Ls (.int v :: st))) := by
  subst hp; exact Done.go (fun t q => XS.istore A hx rfl hd rfl hl q) K
theorem k_istoreN (A : At T m c below) (hx : p.tables.exec = Jvm.exec) {i : Fin 4} {v : Int32} (hd : decode c.code pc = .ok (.istore_n i, 1)) (hl : storeLocals Ls i.val (.int v) = some Ls') (hp : pc + 1 = pc')
    (K : Done p e below G (T.setTop (mkF m pc' Ls' st))) : Done p e below G (T.setTop (mkF m pc Ls (.int v :: st))) := by
  subst hp; exact Done.go (fun t q => XS.istoreN A hx rfl hd rfl hl q) K
theorem k_lload (A : At T m c below) (hx : p.tables.exec = Jvm.exec) {i : Nat} {v : Int64} (hd : decode c.code pc = .ok (.lload i, 2)) (hl : Ls[i]? = some (.val (.long v))) (hp : pc + 2 = pc')
    (K : Done p e below G (T.setTop (mkF m pc' Ls (.long v :: st)))) : Done p e below G (T.setTop (mkF m pc Ls st)) := by
  subst hp; exact Done.go (fun t q => XS.lload A hx rfl hd hl q) K
theorem k_lloadN (A : At T m c below) (hx : p.tables.exec = Jvm.exec) {i : Fin 4} {v : Int64} (hd : decode c.code pc = .ok (.lload_n i, 1)) (hl : Ls[i.val]? = some (.val (.long v))) (hp : pc + 1 = pc')
    (K : Done p e below G (T.setTop (mkF m pc' Ls (.long v :: st)))) : Done p e below G (T.setTop (mkF m pc Ls st)) := by
  subst hp; exact Done.go (fun t q => XS.lloadN A hx rfl hd hl q) K
theorem k_lstore (A : At T m c below) (hx : p.tables.exec = Jvm.exec) {i : Nat} {v : Int64} (hd : decode c.code pc = .ok (.lstore i, 2)) (hl : storeLocals Ls i (.long v) = some Ls') (hp : pc + 2 = pc')
    (K : Done p e below G (T.setTop (mkF m pc' Ls' st))) : Done p e below G (T.setTop (mkF m pc Ls (.long v :: st))) := by
  subst hp; exact Done.go (fun t q => XS.lstore A hx rfl hd rfl hl q) K
theorem k_lstoreN (A : At T m c below) (hx : p.tables.exec = Jvm.exec) {i : Fin 4} {v : Int64} (hd : decode c.code pc = .ok (.lstore_n i, 1)) (hl : storeLocals Ls i.val (.long v) = some Ls') (hp : pc + 1 = pc')
    (K : Done p e below G (T.setTop (mkF m pc' Ls' st))) : Done p e below G (T.setTop (mkF m pc Ls (.long v :: st))) := by
  subst hp; exact Done.go (fun t q => XS.lstoreN A hx rfl hd rfl hl q) K
theorem k_aload (A : At T m c below) (hx : p.tables.exec = Jvm.exec) {i : Nat} {v : Value} (hd : decode c.code pc = .ok (.aload i, 2)) (hl : Ls[i]? = some (.val v)) (hv : v.isRef = true) (hp : pc + 2 = pc')
    (K : Done p e below G (T.setTop (mkF m pc' Ls (v :: st)))) : Done p e below G (T.setTop (mkF m pc Ls st)) := by
  subst hp; exact Done.go (fun t q => XS.aload A hx rfl hd hl hv q) K
theorem k_aloadN (A : At T m c below) (hx : p.tables.exec = Jvm.exec) {i : Fin 4} {v : Value} (hd : decode c.code pc = .ok (.aload_n i, 1)) (hl : Ls[i.val]? = some (.val v)) (hv : v.isRef = true) (hp : pc + 1 = pc')
    (K : Done p e below G (T.setTop (mkF m pc' Ls (v :: st)))) : Done p e below G (T.setTop (mkF m pc Ls st)) := by
  subst hp; exact Done.go (fun t q => XS.aloadN A hx rfl hd hl hv q) K
theorem k_astore (A : At T m c below) (hx : p.tables.exec = Jvm.exec) {i : Nat} {v : Value} (hd : decode c.code pc = .ok (.astore i, 2)) (hv : v.isRef = true) (hl : storeLocals Ls i v = some Ls') (hp : pc + 2 = pc')
    (K : Done p e below G (T.setTop (mkF m pc' Ls' st))) : Done p e below G (T.setTop (mkF m pc Ls (v :: st))) := by
  subst hp; exact Done.go (fun t q => XS.astore A hx rfl hd rfl hv hl q) K
theorem k_astoreN (A : At T m c below) (hx : p.tables.exec = Jvm.exec) {i : Fin 4} {v : Value} (hd : decode c.code pc = .ok (.astore_n i, 1)) (hv : v.isRef = true) (hl : storeLocals Ls i.val v = some Ls') (hp : pc + 1 = pc')
    (K : Done p e below G (T.setTop (mkF m pc' Ls' st))) : Done p e below G (T.setTop (mkF m pc Ls (v :: st))) := by
  subst hp; exact Done.go (fun t q => XS.astoreN A hx rfl hd rfl hv hl q) K
theorem k_iconst (A : At T m c below) (hx : p.tables.exec = Jvm.exec) {i : Int} {v : Int32} (hd : decode c.code pc = .ok (.iconst i, 1)) (hv : Int32.ofInt i = v) (hp : pc + 1 = pc')
    (K : Done p e below G (T.setTop (mkF m pc' Ls (.int v :: st)))) : Done p e below G (T.setTop (mkF m pc Ls st)) := by
  subst hp hv; exact Done.go (fun t q => XS.iconst A hx rfl hd q) K
theorem k_bipush (A : At T m c below) (hx : p.tables.exec = Jvm.exec) {i : Int} {v : Int32} (hd : decode c.code pc = .ok (.bipush i, 2)) (hv : (Int8.ofInt i).toInt32 = v) (hp : pc + 2 = pc')
    (K : Done p e below G (T.setTop (mkF m pc' Ls (.int v :: st)))) : Done p e below G (T.setTop (mkF m pc Ls st)) := by
  subst hp hv; exact Done.go (fun t q => XS.bipush A hx rfl hd q) K
theorem k_sipush (A : At T m c below) (hx : p.tables.exec = Jvm.exec) {i : Int} {v : Int32} (hd : decode c.code pc = .ok (.sipush i, 3)) (hv : (Int16.ofInt i).toInt32 = v) (hp : pc + 3 = pc')
    (K : Done p e below G (T.setTop (mkF m pc' Ls (.int v :: st)))) : Done p e below G (T.setTop (mkF m pc Ls st)) := by
  subst hp hv; exact Done.go (fun t q => XS.sipush A hx rfl hd q) K
theorem k_lconst (A : At T m c below) (hx : p.tables.exec = Jvm.exec) {i : Fin 2} {v : Int64} (hd : decode c.code pc = .ok (.lconst i, 1)) (hv : Int64.ofNat i = v) (hp : pc + 1 = pc')
    (K : Done p e below G (T.setTop (mkF m pc' Ls (.long v :: st)))) : Done p e below G (T.setTop (mkF m pc Ls st)) := by
  subst hp hv; exact Done.go (fun t q => XS.lconst A hx rfl hd q) K
theorem k_aconstNull (A : At T m c below) (hx : p.tables.exec = Jvm.exec)  (hd : decode c.code pc = .ok (.aconst_null, 1)) (hp : pc + 1 = pc')
    (K : Done p e below G (T.setTop (mkF m pc' Ls (.null :: st)))) : Done p e below G (T.setTop (mkF m pc Ls st)) := by
  subst hp; exact Done.go (fun t q => XS.aconstNull A hx rfl hd q) K
theorem k_dup (A : At T m c below) (hx : p.tables.exec = Jvm.exec) {v : Value} (hd : decode c.code pc = .ok (.dup, 1)) (hv : v.category = 1) (hp : pc + 1 = pc')
    (K : Done p e below G (T.setTop (mkF m pc' Ls (v :: v :: st)))) : Done p e below G (T.setTop (mkF m pc Ls (v :: st))) := by
  subst hp; exact Done.go (fun t q => XS.dup A hx rfl hd rfl hv q) K
theorem k_pop (A : At T m c below) (hx : p.tables.exec = Jvm.exec) {v : Value} (hd : decode c.code pc = .ok (.pop, 1)) (hv : v.category = 1) (hp : pc + 1 = pc')
    (K : Done p e below G (T.setTop (mkF m pc' Ls st))) : Done p e below G (T.setTop (mkF m pc Ls (v :: st))) := by
  subst hp; exact Done.go (fun t q => XS.pop A hx rfl hd rfl hv q) K
theorem k_dupX1 (A : At T m c below) (hx : p.tables.exec = Jvm.exec) {v w : Value} (hd : decode c.code pc = .ok (.dup_x1, 1)) (hv : v.category = 1) (hw : w.category = 1) (hp : pc + 1 = pc')
    (K : Done p e below G (T.setTop (mkF m pc' Ls (v :: w :: v :: st)))) : Done p e below G (T.setTop (mkF m pc Ls (v :: w :: st))) := by
  subst hp; exact Done.go (fun t q => XS.dupX1 A hx rfl hd rfl hv hw q) K
theorem k_iadd (A : At T m c below) (hx : p.tables.exec = Jvm.exec) {x y : Int32} (hd : decode c.code pc = .ok (.iadd, 1)) (hp : pc + 1 = pc')
    (K : Done p e below G (T.setTop (mkF m pc' Ls (.int (x + y) :: st)))) : Done p e below G (T.setTop (mkF m pc Ls (.int y :: .int x :: st))) := by
  subst hp; exact Done.go (fun t q => XS.iadd A hx rfl hd rfl q) K
theorem k_isub (A : At T m c below) (hx : p.tables.exec = Jvm.exec) {x y : Int32} (hd : decode c.code pc = .ok (.isub, 1)) (hp : pc + 1 = pc')
    (K : Done p e below G (T.setTop (mkF m pc' Ls (.int (x - y) :: st)))) : Done p e below G (T.setTop (mkF m pc Ls (.int y :: .int x :: st))) := by
  subst hp; exact Done.go (fun t q => XS.isub A hx rfl hd rfl q) K
theorem k_imul (A : At T m c below) (hx : p.tables.exec = Jvm.exec) {x y : Int32} (hd : decode c.code pc = .ok (.imul, 1)) (hp : pc + 1 = pc')
    (K : Done p e below G (T.setTop (mkF m pc' Ls (.int (x * y) :: st)))) : Done p e below G (T.setTop (mkF m pc Ls (.int y :: .int x :: st))) := by
  subst hp; exact Done.go (fun t q => XS.imul A hx rfl hd rfl q) K
theorem k_iand (A : At T m c below) (hx : p.tables.exec = Jvm.exec) {x y : Int32} (hd : decode c.code pc = .ok (.iand, 1)) (hp : pc + 1 = pc')
    (K : Done p e below G (T.setTop (mkF m pc' Ls (.int (x &&& y) :: st)))) : Done p e below G (T.setTop (mkF m pc Ls (.int y :: .int x :: st))) := by
  subst hp; exact Done.go (fun t q => XS.iand A hx rfl hd rfl q) K
theorem k_ior (A : At T m c below) (hx : p.tables.exec = Jvm.exec) {x y : Int32} (hd : decode c.code pc = .ok (.ior, 1)) (hp : pc + 1 = pc')
    (K : Done p e below G (T.setTop (mkF m pc' Ls (.int (x ||| y) :: st)))) : Done p e below G (T.setTop (mkF m pc Ls (.int y :: .int x :: st))) := by
  subst hp; exact Done.go (fun t q => XS.ior A hx rfl hd rfl q) K
theorem k_ixor (A : At T m c below) (hx : p.tables.exec = Jvm.exec) {x y : Int32} (hd : decode c.code pc = .ok (.ixor, 1)) (hp : pc + 1 = pc')
    (K : Done p e below G (T.setTop (mkF m pc' Ls (.int (x ^^^ y) :: st)))) : Done p e below G (T.setTop (mkF m pc Ls (.int y :: .int x :: st))) := by
  subst hp; exact Done.go (fun t q => XS.ixor A hx rfl hd rfl q) K
theorem k_ishl (A : At T m c below) (hx : p.tables.exec = Jvm.exec) {x y : Int32} (hd : decode c.code pc = .ok (.ishl, 1)) (hp : pc + 1 = pc')
    (K : Done p e below G (T.setTop (mkF m pc' Ls (.int (x <<< (y &&& 31)) :: st)))) : Done p e below G (T.setTop (mkF m pc Ls (.int y :: .int x :: st))) := by
  subst hp; exact Done.go (fun t q => XS.ishl A hx rfl hd rfl q) K
theorem k_ishr (A : At T m c below) (hx : p.tables.exec = Jvm.exec) {x y : Int32} (hd : decode c.code pc = .ok (.ishr, 1)) (hp : pc + 1 = pc')
    (K : Done p e below G (T.setTop (mkF m pc' Ls (.int (x >>> (y &&& 31)) :: st)))) : Done p e below G (T.setTop (mkF m pc Ls (.int y :: .int x :: st))) := by
  subst hp; exact Done.go (fun t q => XS.ishr A hx rfl hd rfl q) K
theorem k_iushr (A : At T m c below) (hx : p.tables.exec = Jvm.exec) {x y : Int32} (hd : decode c.code pc = .ok (.iushr, 1)) (hp : pc + 1 = pc')
    (K : Done p e below G (T.setTop (mkF m pc' Ls (.int ((x.toUInt32 >>> (y &&& 31).toUInt32).toInt32) :: st)))) : Done p e below G (T.setTop (mkF m pc Ls (.int y :: .int x :: st))) := by
  subst hp; exact Done.go (fun t q => XS.iushr A hx rfl hd rfl q) K
theorem k_ladd (A : At T m c below) (hx : p.tables.exec = Jvm.exec) {x y : Int64} (hd : decode c.code pc = .ok (.ladd, 1)) (hp : pc + 1 = pc')
    (K : Done p e below G (T.setTop (mkF m pc' Ls (.long (x + y) :: st)))) : Done p e below G (T.setTop (mkF m pc Ls (.long y :: .long x :: st))) := by
  subst hp; exact Done.go (fun t q => XS.ladd A hx rfl hd rfl q) K
theorem k_lsub (A : At T m c below) (hx : p.tables.exec = Jvm.exec) {x y : Int64} (hd : decode c.code pc = .ok (.lsub, 1)) (hp : pc + 1 = pc')
    (K : Done p e below G (T.setTop (mkF m pc' Ls (.long (x - y) :: st)))) : Done p e below G (T.setTop (mkF m pc Ls (.long y :: .long x :: st))) := by
  subst hp; exact Done.go (fun t q => XS.lsub A hx rfl hd rfl q) K
theorem k_lmul (A : At T m c below) (hx : p.tables.exec = Jvm.exec) {x y : Int64} (hd : decode c.code pc = .ok (.lmul, 1)) (hp : pc + 1 = pc')
    (K : Done p e below G (T.setTop (mkF m pc' Ls (.long (x * y) :: st)))) : Done p e below G (T.setTop (mkF m pc Ls (.long y :: .long x :: st))) := by
  subst hp; exact Done.go (fun t q => XS.lmul A hx rfl hd rfl q) K
theorem k_land (A : At T m c below) (hx : p.tables.exec = Jvm.exec) {x y : Int64} (hd : decode c.code pc = .ok (.land, 1)) (hp : pc + 1 = pc')
    (K : Done p e below G (T.setTop (mkF m pc' Ls (.long (x &&& y) :: st)))) : Done p e below G (T.setTop (mkF m pc Ls (.long y :: .long x :: st))) := by
  subst hp; exact Done.go (fun t q => XS.land A hx rfl hd rfl q) K
theorem k_lor (A : At T m c below) (hx : p.tables.exec = Jvm.exec) {x y : Int64} (hd : decode c.code pc = .ok (.lor, 1)) (hp : pc + 1 = pc')
    (K : Done p e below G (T.setTop (mkF m pc' Ls (.long (x ||| y) :: st)))) : Done p e below G (T.setTop (mkF m pc Ls (.long y :: .long x :: st))) := by
  subst hp; exact Done.go (fun t q => XS.lor A hx rfl hd rfl q) K
theorem k_lxor (A : At T m c below) (hx : p.tables.exec = Jvm.exec) {x y : Int64} (hd : decode c.code pc = .ok (.lxor, 1)) (hp : pc + 1 = pc')
    (K : Done p e below G (T.setTop (mkF m pc' Ls (.long (x ^^^ y) :: st)))) : Done p e below G (T.setTop (mkF m pc Ls (.long y :: .long x :: st))) := by
  subst hp; exact Done.go (fun t q => XS.lxor A hx rfl hd rfl q) K
theorem k_lshl (A : At T m c below) (hx : p.tables.exec = Jvm.exec) {x : Int64} {y : Int32} (hd : decode c.code pc = .ok (.lshl, 1)) (hp : pc + 1 = pc')
    (K : Done p e below G (T.setTop (mkF m pc' Ls (.long (x <<< (y &&& 0x3f).toInt64) :: st)))) : Done p e below G (T.setTop (mkF m pc Ls (.int y :: .long x :: st))) := by
  subst hp; exact Done.go (fun t q => XS.lshl A hx rfl hd rfl q) K
theorem k_lshr (A : At T m c below) (hx : p.tables.exec = Jvm.exec) {x : Int64} {y : Int32} (hd : decode c.code pc = .ok (.lshr, 1)) (hp : pc + 1 = pc')
    (K : Done p e below G (T.setTop (mkF m pc' Ls (.long (x >>> (y &&& 0x3f).toInt64) :: st)))) : Done p e below G (T.setTop (mkF m pc Ls (.int y :: .long x :: st))) := by
  subst hp; exact Done.go (fun t q => XS.lshr A hx rfl hd rfl q) K
theorem k_lushr (A : At T m c below) (hx : p.tables.exec = Jvm.exec) {x : Int64} {y : Int32} (hd : decode c.code pc = .ok (.lushr, 1)) (hp : pc + 1 = pc')
    (K : Done p e below G (T.setTop (mkF m pc' Ls (.long ((x.toUInt64 >>> (y &&& 0x3f).toInt64.toUInt64).toInt64) :: st)))) : Done p e below G (T.setTop (mkF m pc Ls (.int y :: .long x :: st))) := by
  subst hp; exact Done.go (fun t q => XS.lushr A hx rfl hd rfl q) K
theorem k_idiv (A : At T m c below) (hx : p.tables.exec = Jvm.exec) {x y : Int32} (hd : decode c.code pc = .ok (.idiv, 1)) (hy : y ≠ 0) (hp : pc + 1 = pc')
    (K : Done p e below G (T.setTop (mkF m pc' Ls (.int (x / y) :: st)))) : Done p e below G (T.setTop (mkF m pc Ls (.int y :: .int x :: st))) := by
  subst hp; exact Done.go (fun t q => XS.idiv A hx rfl hd rfl hy q) K
theorem k_ldiv (A : At T m c below) (hx : p.tables.exec = Jvm.exec) {x y : Int64} (hd : decode c.code pc = .ok (.ldiv, 1)) (hy : y ≠ 0) (hp : pc + 1 = pc')
    (K : Done p e below G (T.setTop (mkF m pc' Ls (.long (x / y) :: st)))) : Done p e below G (T.setTop (mkF m pc Ls (.long y :: .long x :: st))) := by
  subst hp; exact Done.go (fun t q => XS.ldiv A hx rfl hd rfl hy q) K
theorem k_irem (A : At T m c below) (hx : p.tables.exec = Jvm.exec) {x y : Int32} (hd : decode c.code pc = .ok (.irem, 1)) (hy : y ≠ 0) (hp : pc + 1 = pc')
    (K : Done p e below G (T.setTop (mkF m pc' Ls (.int (x % y) :: st)))) : Done p e below G (T.setTop (mkF m pc Ls (.int y :: .int x :: st))) := by
  subst hp; have q0 : x - x / y * y = x % y := irem_eq_mod x y
  rw [← q0] at K
  exact Done.go (fun t q => XS.irem A hx rfl hd rfl hy q) K
theorem k_lrem (A : At T m c below) (hx : p.tables.exec = Jvm.exec) {x y : Int64} (hd : decode c.code pc = .ok (.lrem, 1)) (hy : y ≠ 0) (hp : pc + 1 = pc')
    (K : Done p e below G (T.setTop (mkF m pc' Ls (.long (x % y) :: st)))) : Done p e below G (T.setTop (mkF m pc Ls (.long y :: .long x :: st))) := by
  subst hp
  rw [← lrem_mod x y] at K
  exact Done.go (fun t q => XS.lrem A hx rfl hd rfl hy q) K
theorem k_lcmp (A : At T m c below) (hx : p.tables.exec = Jvm.exec) {x y : Int64} (hd : decode c.code pc = .ok (.lcmp, 1)) (hp : pc + 1 = pc')
    (K : Done p e below G (T.setTop (mkF m pc' Ls (.int (lcmpW x y) :: st)))) : Done p e below G (T.setTop (mkF m pc Ls (.long y :: .long x :: st))) := by
  subst hp; exact Done.go (fun t q => XS.lcmp A hx rfl hd rfl q) K
theorem k_ineg (A : At T m c below) (hx : p.tables.exec = Jvm.exec) {x : Int32} (hd : decode c.code pc = .ok (.ineg, 1)) (hp : pc + 1 = pc')
    (K : Done p e below G (T.setTop (mkF m pc' Ls (.int (-x) :: st)))) : Done p e below G (T.setTop (mkF m pc Ls (.int x :: st))) := by
  subst hp; exact Done.go (fun t q => XS.ineg A hx rfl hd rfl q) K
theorem k_lneg (A : At T m c below) (hx : p.tables.exec = Jvm.exec) {x : Int64} (hd : decode c.code pc = .ok (.lneg, 1)) (hp : pc + 1 = pc')
    (K : Done p e below G (T.setTop (mkF m pc' Ls (.long (-x) :: st)))) : Done p e below G (T.setTop (mkF m pc Ls (.long x :: st))) := by
  subst hp; exact Done.go (fun t q => XS.lneg A hx rfl hd rfl q) K
theorem k_i2l (A : At T m c below) (hx : p.tables.exec = Jvm.exec) {x : Int32} (hd : decode c.code pc = .ok (.i2l, 1)) (hp : pc + 1 = pc')
    (K : Done p e below G (T.setTop (mkF m pc' Ls (.long (x.toInt64) :: st)))) : Done p e below G (T.setTop (mkF m pc Ls (.int x :: st))) := by
  subst hp; exact Done.go (fun t q => XS.i2l A hx rfl hd rfl q) K
theorem k_l2i (A : At T m c below) (hx : p.tables.exec = Jvm.exec) {x : Int64} (hd : decode c.code pc = .ok (.l2i, 1)) (hp : pc + 1 = pc')
    (K : Done p e below G (T.setTop (mkF m pc' Ls (.int (x.toInt32) :: st)))) : Done p e below G (T.setTop (mkF m pc Ls (.long x :: st))) := by
  subst hp; exact Done.go (fun t q => XS.l2i A hx rfl hd rfl q) K
theorem k_i2b (A : At T m c below) (hx : p.tables.exec = Jvm.exec) {x : Int32} (hd : decode c.code pc = .ok (.i2b, 1)) (hp : pc + 1 = pc')
    (K : Done p e below G (T.setTop (mkF m pc' Ls (.int (x.toInt8.toInt32) :: st)))) : Done p e below G (T.setTop (mkF m pc Ls (.int x :: st))) := by
  subst hp; exact Done.go (fun t q => XS.i2b A hx rfl hd rfl q) K
theorem k_i2c (A : At T m c below) (hx : p.tables.exec = Jvm.exec) {x : Int32} (hd : decode c.code pc = .ok (.i2c, 1)) (hp : pc + 1 = pc')
    (K : Done p e below G (T.setTop (mkF m pc' Ls (.int (x.toUInt32.toUInt16.toUInt32.toInt32) :: st)))) : Done p e below G (T.setTop (mkF m pc Ls (.int x :: st))) := by
  subst hp; exact Done.go (fun t q => XS.i2c A hx rfl hd rfl q) K
theorem k_i2s (A : At T m c below) (hx : p.tables.exec = Jvm.exec) {x : Int32} (hd : decode c.code pc = .ok (.i2s, 1)) (hp : pc + 1 = pc')
    (K : Done p e below G (T.setTop (mkF m pc' Ls (.int (x.toInt16.toInt32) :: st)))) : Done p e below G (T.setTop (mkF m pc Ls (.int x :: st))) := by
  subst hp; exact Done.go (fun t q => XS.i2s A hx rfl hd rfl q) K
theorem k_iinc (A : At T m c below) (hx : p.tables.exec = Jvm.exec) {i : Nat} {cst : Int} {v : Int32} (hd : decode c.code pc = .ok (.iinc i cst, 3)) (hl : Ls[i]? = some (.val (.int v))) (hs : storeLocals Ls i (.int (v + Int32.ofInt cst)) = some Ls') (hp : pc + 3 = pc')
    (K : Done p e below G (T.setTop (mkF m pc' Ls' st))) : Done p e below G (T.setTop (mkF m pc Ls st)) := by
  subst hp; exact Done.go (fun t q => XS.iinc A hx rfl hd hl hs q) K
theorem k_goto (A : At T m c below) (hx : p.tables.exec = Jvm.exec) {o : Int} (hd : decode c.code pc = .ok (.goto o, 3)) (hp : (pc : Int) + o = (pc' : Int))
    (K : Done p e below G (T.setTop (mkF m pc' Ls st))) : Done p e below G (T.setTop (mkF m pc Ls st)) :=
  Done.go (fun t q => XS.goto A hx rfl (pc0 := pc) (pc' := pc') rfl hd (by omega) (by omega) q) K
theorem k_ifnullYes (A : At T m c below) (hx : p.tables.exec = Jvm.exec) {o : Int} (hd : decode c.code pc = .ok (.ifnull o, 3)) (hp : (pc : Int) + o = (pc' : Int))
    (K : Done p e below G (T.setTop (mkF m pc' Ls st))) : Done p e below G (T.setTop (mkF m pc Ls (.null :: st))) :=
  Done.go (fun t q => XS.ifnullYes A hx rfl (pc0 := pc) (pc' := pc') rfl hd rfl (by omega) (by omega) q) K
theorem k_ifnonnullYes (A : At T m c below) (hx : p.tables.exec = Jvm.exec) {o : Int} {b : Addr} (hd : decode c.code pc = .ok (.ifnonnull o, 3)) (hp : (pc : Int) + o = (pc' : Int))
    (K : Done p e below G (T.setTop (mkF m pc' Ls st))) : Done p e below G (T.setTop (mkF m pc Ls (.ref b :: st))) :=
  Done.go (fun t q => XS.ifnonnullYes A hx rfl (pc0 := pc) (pc' := pc') rfl hd rfl (by omega) (by omega) q) K
theorem k_ifnullNo (A : At T m c below) (hx : p.tables.exec = Jvm.exec) {o : Int} {b : Addr} (hd : decode c.code pc = .ok (.ifnull o, 3)) (hp : pc + 3 = pc')
    (K : Done p e below G (T.setTop (mkF m pc' Ls st))) : Done p e below G (T.setTop (mkF m pc Ls (.ref b :: st))) := by
  subst hp; exact Done.go (fun t q => XS.ifnullNo A hx rfl hd rfl q) K
theorem k_ifnonnullNo (A : At T m c below) (hx : p.tables.exec = Jvm.exec) {o : Int} (hd : decode c.code pc = .ok (.ifnonnull o, 3)) (hp : pc + 3 = pc')
    (K : Done p e below G (T.setTop (mkF m pc' Ls st))) : Done p e below G (T.setTop (mkF m pc Ls (.null :: st))) := by
  subst hp; exact Done.go (fun t q => XS.ifnonnullNo A hx rfl hd rfl q) K
theorem k_icmp_lt (A : At T m c below) (hx : p.tables.exec = Jvm.exec) {x y : Int32} {o : Int} {pcY : Nat} (hd : decode c.code pc = .ok (.if_icmp .lt o, 3)) (hY : (pc : Int) + o = (pcY : Int)) (hp : pc + 3 = pc')
    (KY : x < y → Done p e below G (T.setTop (mkF m pcY Ls st))) (KN : ¬ x < y → Done p e below G (T.setTop (mkF m pc' Ls st))) : Done p e below G (T.setTop (mkF m pc Ls (.int y :: .int x :: st))) := by
  subst hp
  by_cases hc : x < y
  · exact Done.go (fun t q => XS.icmpYes A hx rfl (pc0 := pc) (pc' := pcY) rfl hd rfl (tlt hc).1 (by omega) (by omega) q) (KY hc)
  · exact Done.go (fun t q => XS.icmpNo A hx rfl hd rfl (flt hc).1 q) (KN hc)
theorem k_if_lt (A : At T m c below) (hx : p.tables.exec = Jvm.exec) {x : Int32} {o : Int} {pcY : Nat} (hd : decode c.code pc = .ok (.ifCond .lt o, 3)) (hY : (pc : Int) + o = (pcY : Int)) (hp : pc + 3 = pc')
    (KY : x < 0 → Done p e below G (T.setTop (mkF m pcY Ls st))) (KN : ¬ x < 0 → Done p e below G (T.setTop (mkF m pc' Ls st))) : Done p e below G (T.setTop (mkF m pc Ls (.int x :: st))) := by
  subst hp
  by_cases hc : x < 0
  · exact Done.go (fun t q => XS.ifYes A hx rfl (pc0 := pc) (pc' := pcY) rfl hd rfl ((if0 _ _).trans (tlt hc).1) (by omega) (by omega) q) (KY hc)
  · exact Done.go (fun t q => XS.ifNo A hx rfl hd rfl ((if0 _ _).trans (flt hc).1) q) (KN hc)
theorem k_icmp_ge (A : At T m c below) (hx : p.tables.exec = Jvm.exec) {x y : Int32} {o : Int} {pcY : Nat} (hd : decode c.code pc = .ok (.if_icmp .ge o, 3)) (hY : (pc : Int) + o = (pcY : Int)) (hp : pc + 3 = pc')
    (KY : ¬ x < y → Done p e below G (T.setTop (mkF m pcY Ls st))) (KN : x < y → Done p e below G (T.setTop (mkF m pc' Ls st))) : Done p e below G (T.setTop (mkF m pc Ls (.int y :: .int x :: st))) := by
  subst hp
  by_cases hc : x < y
  · exact Done.go (fun t q => XS.icmpNo A hx rfl hd rfl (tlt hc).2.1 q) (KN hc)
  · exact Done.go (fun t q => XS.icmpYes A hx rfl (pc0 := pc) (pc' := pcY) rfl hd rfl (flt hc).2.1 (by omega) (by omega) q) (KY hc)
theorem k_if_ge (A : At T m c below) (hx : p.tables.exec = Jvm.exec) {x : Int32} {o : Int} {pcY : Nat} (hd : decode c.code pc = .ok (.ifCond .ge o, 3)) (hY : (pc : Int) + o = (pcY : Int)) (hp : pc + 3 = pc')
    (KY : ¬ x < 0 → Done p e below G (T.setTop (mkF m pcY Ls st))) (KN : x < 0 → Done p e below G (T.setTop (mkF m pc' Ls st))) : Done p e below G (T.setTop (mkF m pc Ls (.int x :: st))) := by
  subst hp
  by_cases hc : x < 0
  · exact Done.go (fun t q => XS.ifNo A hx rfl hd rfl ((if0 _ _).trans (tlt hc).2.1) q) (KN hc)
  · exact Done.go (fun t q => XS.ifYes A hx rfl (pc0 := pc) (pc' := pcY) rfl hd rfl ((if0 _ _).trans (flt hc).2.1) (by omega) (by omega) q) (KY hc)
theorem k_icmp_gt (A : At T m c below) (hx : p.tables.exec = Jvm.exec) {x y : Int32} {o : Int} {pcY : Nat} (hd : decode c.code pc = .ok (.if_icmp .gt o, 3)) (hY : (pc : Int) + o = (pcY : Int)) (hp : pc + 3 = pc')
    (KY : y < x → Done p e below G (T.setTop (mkF m pcY Ls st))) (KN : ¬ y < x → Done p e below G (T.setTop (mkF m pc' Ls st))) : Done p e below G (T.setTop (mkF m pc Ls (.int y :: .int x :: st))) := by
  subst hp
  by_cases hc : y < x
  · exact Done.go (fun t q => XS.icmpYes A hx rfl (pc0 := pc) (pc' := pcY) rfl hd rfl (tlt hc).2.2.1 (by omega) (by omega) q) (KY hc)
  · exact Done.go (fun t q => XS.icmpNo A hx rfl hd rfl (flt hc).2.2.1 q) (KN hc)
theorem k_if_gt (A : At T m c below) (hx : p.tables.exec = Jvm.exec) {x : Int32} {o : Int} {pcY : Nat} (hd : decode c.code pc = .ok (.ifCond .gt o, 3)) (hY : (pc : Int) + o = (pcY : Int)) (hp : pc + 3 = pc')
    (KY : 0 < x → Done p e below G (T.setTop (mkF m pcY Ls st))) (KN : ¬ 0 < x → Done p e below G (T.setTop (mkF m pc' Ls st))) : Done p e below G (T.setTop (mkF m pc Ls (.int x :: st))) := by
  subst hp
  by_cases hc : 0 < x
  · exact Done.go (fun t q => XS.ifYes A hx rfl (pc0 := pc) (pc' := pcY) rfl hd rfl ((if0 _ _).trans (tlt hc).2.2.1) (by omega) (by omega) q) (KY hc)
  · exact Done.go (fun t q => XS.ifNo A hx rfl hd rfl ((if0 _ _).trans (flt hc).2.2.1) q) (KN hc)
theorem k_icmp_le (A : At T m c below) (hx : p.tables.exec = Jvm.exec) {x y : Int32} {o : Int} {pcY : Nat} (hd : decode c.code pc = .ok (.if_icmp .le o, 3)) (hY : (pc : Int) + o = (pcY : Int)) (hp : pc + 3 = pc')
    (KY : ¬ y < x → Done p e below G (T.setTop (mkF m pcY Ls st))) (KN : y < x → Done p e below G (T.setTop (mkF m pc' Ls st))) : Done p e below G (T.setTop (mkF m pc Ls (.int y :: .int x :: st))) := by
  subst hp
  by_cases hc : y < x
  · exact Done.go (fun t q => XS.icmpNo A hx rfl hd rfl (tlt hc).2.2.2 q) (KN hc)
  · exact Done.go (fun t q => XS.icmpYes A hx rfl (pc0 := pc) (pc' := pcY) rfl hd rfl (flt hc).2.2.2 (by omega) (by omega) q) (KY hc)
theorem k_if_le (A : At T m c below) (hx : p.tables.exec = Jvm.exec) {x : Int32} {o : Int} {pcY : Nat} (hd : decode c.code pc = .ok (.ifCond .le o, 3)) (hY : (pc : Int) + o = (pcY : Int)) (hp : pc + 3 = pc')
    (KY : ¬ 0 < x → Done p e below G (T.setTop (mkF m pcY Ls st))) (KN : 0 < x → Done p e below G (T.setTop (mkF m pc' Ls st))) : Done p e below G (T.setTop (mkF m pc Ls (.int x :: st))) := by
  subst hp
  by_cases hc : 0 < x
  · exact Done.go (fun t q => XS.ifNo A hx rfl hd rfl ((if0 _ _).trans (tlt hc).2.2.2) q) (KN hc)
  · exact Done.go (fun t q => XS.ifYes A hx rfl (pc0 := pc) (pc' := pcY) rfl hd rfl ((if0 _ _).trans (flt hc).2.2.2) (by omega) (by omega) q) (KY hc)
theorem k_icmp_eq (A : At T m c below) (hx : p.tables.exec = Jvm.exec) {x y : Int32} {o : Int} {pcY : Nat} (hd : decode c.code pc = .ok (.if_icmp .eq o, 3)) (hY : (pc : Int) + o = (pcY : Int)) (hp : pc + 3 = pc')
    (KY : x = y → Done p e below G (T.setTop (mkF m pcY Ls st))) (KN : ¬ x = y → Done p e below G (T.setTop (mkF m pc' Ls st))) : Done p e below G (T.setTop (mkF m pc Ls (.int y :: .int x :: st))) := by
  subst hp
  by_cases hc : x = y
  · exact Done.go (fun t q => XS.icmpYes A hx rfl (pc0 := pc) (pc' := pcY) rfl hd rfl (teq hc).1 (by omega) (by omega) q) (KY hc)
  · exact Done.go (fun t q => XS.icmpNo A hx rfl hd rfl (feq hc).1 q) (KN hc)
theorem k_if_eq (A : At T m c below) (hx : p.tables.exec = Jvm.exec) {x : Int32} {o : Int} {pcY : Nat} (hd : decode c.code pc = .ok (.ifCond .eq o, 3)) (hY : (pc : Int) + o = (pcY : Int)) (hp : pc + 3 = pc')
    (KY : x = 0 → Done p e below G (T.setTop (mkF m pcY Ls st))) (KN : ¬ x = 0 → Done p e below G (T.setTop (mkF m pc' Ls st))) : Done p e below G (T.setTop (mkF m pc Ls (.int x :: st))) := by
  subst hp
  by_cases hc : x = 0
  · exact Done.go (fun t q => XS.ifYes A hx rfl (pc0 := pc) (pc' := pcY) rfl hd rfl ((if0 _ _).trans (teq hc).1) (by omega) (by omega) q) (KY hc)
  · exact Done.go (fun t q => XS.ifNo A hx rfl hd rfl ((if0 _ _).trans (feq hc).1) q) (KN hc)
theorem k_icmp_ne (A : At T m c below) (hx : p.tables.exec = Jvm.exec) {x y : Int32} {o : Int} {pcY : Nat} (hd : decode c.code pc = .ok (.if_icmp .ne o, 3)) (hY : (pc : Int) + o = (pcY : Int)) (hp : pc + 3 = pc')
    (KY : ¬ x = y → Done p e below G (T.setTop (mkF m pcY Ls st))) (KN : x = y → Done p e below G (T.setTop (mkF m pc' Ls st))) : Done p e below G (T.setTop (mkF m pc Ls (.int y :: .int x :: st))) := by
  subst hp
  by_cases hc : x = y
  · exact Done.go (fun t q => XS.icmpNo A hx rfl hd rfl (teq hc).2 q) (KN hc)
  · exact Done.go (fun t q => XS.icmpYes A hx rfl (pc0 := pc) (pc' := pcY) rfl hd rfl (feq hc).2 (by omega) (by omega) q) (KY hc)
theorem k_if_ne (A : At T m c below) (hx : p.tables.exec = Jvm.exec) {x : Int32} {o : Int} {pcY : Nat} (hd : decode c.code pc = .ok (.ifCond .ne o, 3)) (hY : (pc : Int) + o = (pcY : Int)) (hp : pc + 3 = pc')
    (KY : ¬ x = 0 → Done p e below G (T.setTop (mkF m pcY Ls st))) (KN : x = 0 → Done p e below G (T.setTop (mkF m pc' Ls st))) : Done p e below G (T.setTop (mkF m pc Ls (.int x :: st))) := by
  subst hp
  by_cases hc : x = 0
  · exact Done.go (fun t q => XS.ifNo A hx rfl hd rfl ((if0 _ _).trans (teq hc).2) q) (KN hc)
  · exact Done.go (fun t q => XS.ifYes A hx rfl (pc0 := pc) (pc' := pcY) rfl hd rfl ((if0 _ _).trans (feq hc).2) (by omega) (by omega) q) (KY hc)
theorem k_lcmp_lt (A : At T m c below) (hx : p.tables.exec = Jvm.exec) {x y : Int64} {o : Int} {pcY : Nat} (hd : decode c.code pc = .ok (.lcmp, 1)) (hd2 : decode c.code (pc + 1) = .ok (.ifCond .lt o, 3)) (hY : ((pc + 1 : Nat) : Int) + o = (pcY : Int)) (hp : pc + 1 + 3 = pc')
    (KY : x < y → Done p e below G (T.setTop (mkF m pcY Ls st))) (KN : ¬ x < y → Done p e below G (T.setTop (mkF m pc' Ls st))) : Done p e below G (T.setTop (mkF m pc Ls (.long y :: .long x :: st))) := by
  subst hp
  by_cases hc : x < y
  · exact Done.go (fun t q => XS.lcmp A hx rfl hd rfl (XS.ifYes A hx rfl (pc0 := pc + 1) (pc' := pcY) rfl hd2 rfl ((if0 _ _).trans (tlt ((lw_lt x y).mpr hc)).1) (by omega) (by omega) q)) (KY hc)
  · exact Done.go (fun t q => XS.lcmp A hx rfl hd rfl (XS.ifNo A hx rfl hd2 rfl ((if0 _ _).trans (flt (fun z => hc ((lw_lt x y).mp z))).1) q)) (KN hc)
theorem k_lcmp_ge (A : At T m c below) (hx : p.tables.exec = Jvm.exec) {x y : Int64} {o : Int} {pcY : Nat} (hd : decode c.code pc = .ok (.lcmp, 1)) (hd2 : decode c.code (pc + 1) = .ok (.ifCond .ge o, 3)) (hY : ((pc + 1 : Nat) : Int) + o = (pcY : Int)) (hp : pc + 1 + 3 = pc')
    (KY : ¬ x < y → Done p e below G (T.setTop (mkF m pcY Ls st))) (KN : x < y → Done p e below G (T.setTop (mkF m pc' Ls st))) : Done p e below G (T.setTop (mkF m pc Ls (.long y :: .long x :: st))) := by
  subst hp
  by_cases hc : x < y
  · exact Done.go (fun t q => XS.lcmp A hx rfl hd rfl (XS.ifNo A hx rfl hd2 rfl ((if0 _ _).trans (tlt ((lw_lt x y).mpr hc)).2.1) q)) (KN hc)
  · exact Done.go (fun t q => XS.lcmp A hx rfl hd rfl (XS.ifYes A hx rfl (pc0 := pc + 1) (pc' := pcY) rfl hd2 rfl ((if0 _ _).trans (flt (fun z => hc ((lw_lt x y).mp z))).2.1) (by omega) (by omega) q)) (KY hc)
theorem k_lcmp_gt (A : At T m c below) (hx : p.tables.exec = Jvm.exec) {x y : Int64} {o : Int} {pcY : Nat} (hd : decode c.code pc = .ok (.lcmp, 1)) (hd2 : decode c.code (pc + 1) = .ok (.ifCond .gt o, 3)) (hY : ((pc + 1 : Nat) : Int) + o = (pcY : Int)) (hp : pc + 1 + 3 = pc')
    (KY : y < x → Done p e below G (T.setTop (mkF m pcY Ls st))) (KN : ¬ y < x → Done p e below G (T.setTop (mkF m pc' Ls st))) : Done p e below G (T.setTop (mkF m pc Ls (.long y :: .long x :: st))) := by
  subst hp
  by_cases hc : y < x
  · exact Done.go (fun t q => XS.lcmp A hx rfl hd rfl (XS.ifYes A hx rfl (pc0 := pc + 1) (pc' := pcY) rfl hd2 rfl ((if0 _ _).trans (tlt ((lw_gt x y).mpr hc)).2.2.1) (by omega) (by omega) q)) (KY hc)
  · exact Done.go (fun t q => XS.lcmp A hx rfl hd rfl (XS.ifNo A hx rfl hd2 rfl ((if0 _ _).trans (flt (fun z => hc ((lw_gt x y).mp z))).2.2.1) q)) (KN hc)
theorem k_lcmp_le (A : At T m c below) (hx : p.tables.exec = Jvm.exec) {x y : Int64} {o : Int} {pcY : Nat} (hd : decode c.code pc = .ok (.lcmp, 1)) (hd2 : decode c.code (pc + 1) = .ok (.ifCond .le o, 3)) (hY : ((pc + 1 : Nat) : Int) + o = (pcY : Int)) (hp : pc + 1 + 3 = pc')
    (KY : ¬ y < x → Done p e below G (T.setTop (mkF m pcY Ls st))) (KN : y < x → Done p e below G (T.setTop (mkF m pc' Ls st))) : Done p e below G (T.setTop (mkF m pc Ls (.long y :: .long x :: st))) := by
  subst hp
  by_cases hc : y < x
  · exact Done.go (fun t q => XS.lcmp A hx rfl hd rfl (XS.ifNo A hx rfl hd2 rfl ((if0 _ _).trans (tlt ((lw_gt x y).mpr hc)).2.2.2) q)) (KN hc)
  · exact Done.go (fun t q => XS.lcmp A hx rfl hd rfl (XS.ifYes A hx rfl (pc0 := pc + 1) (pc' := pcY) rfl hd2 rfl ((if0 _ _).trans (flt (fun z => hc ((lw_gt x y).mp z))).2.2.2) (by omega) (by omega) q)) (KY hc)
theorem k_lcmp_eq (A : At T m c below) (hx : p.tables.exec = Jvm.exec) {x y : Int64} {o : Int} {pcY : Nat} (hd : decode c.code pc = .ok (.lcmp, 1)) (hd2 : decode c.code (pc + 1) = .ok (.ifCond .eq o, 3)) (hY : ((pc + 1 : Nat) : Int) + o = (pcY : Int)) (hp : pc + 1 + 3 = pc')
    (KY : x = y → Done p e below G (T.setTop (mkF m pcY Ls st))) (KN : ¬ x = y → Done p e below G (T.setTop (mkF m pc' Ls st))) : Done p e below G (T.setTop (mkF m pc Ls (.long y :: .long x :: st))) := by
  subst hp
  by_cases hc : x = y
  · exact Done.go (fun t q => XS.lcmp A hx rfl hd rfl (XS.ifYes A hx rfl (pc0 := pc + 1) (pc' := pcY) rfl hd2 rfl ((if0 _ _).trans (teq ((lw_eq x y).mpr hc)).1) (by omega) (by omega) q)) (KY hc)
  · exact Done.go (fun t q => XS.lcmp A hx rfl hd rfl (XS.ifNo A hx rfl hd2 rfl ((if0 _ _).trans (feq (fun z => hc ((lw_eq x y).mp z))).1) q)) (KN hc)
theorem k_lcmp_ne (A : At T m c below) (hx : p.tables.exec = Jvm.exec) {x y : Int64} {o : Int} {pcY : Nat} (hd : decode c.code pc = .ok (.lcmp, 1)) (hd2 : decode c.code (pc + 1) = .ok (.ifCond .ne o, 3)) (hY : ((pc + 1 : Nat) : Int) + o = (pcY : Int)) (hp : pc + 1 + 3 = pc')
    (KY : ¬ x = y → Done p e below G (T.setTop (mkF m pcY Ls st))) (KN : x = y → Done p e below G (T.setTop (mkF m pc' Ls st))) : Done p e below G (T.setTop (mkF m pc Ls (.long y :: .long x :: st))) := by
  subst hp
  by_cases hc : x = y
  · exact Done.go (fun t q => XS.lcmp A hx rfl hd rfl (XS.ifNo A hx rfl hd2 rfl ((if0 _ _).trans (teq ((lw_eq x y).mpr hc)).2) q)) (KN hc)
  · exact Done.go (fun t q => XS.lcmp A hx rfl hd rfl (XS.ifYes A hx rfl (pc0 := pc + 1) (pc' := pcY) rfl hd2 rfl ((if0 _ _).trans (feq (fun z => hc ((lw_eq x y).mp z))).2) (by omega) (by omega) q)) (KY hc)
/-! ### a store into a slot of which only its one word is known -/
theorem store_eq (L : Array Slot) (i : Nat) (v : Value) : storeLocals L i v = (L[i]?).bind fun o => match o with
    | .second => (setAt L (i - 1) .unset).bind fun l => storeSelf l i v
    | .val old => if old.category = 2 then ((setAt L (i + 1) .unset).bind fun l => storeSelf l i v) else storeSelf L i v
    | .unset => storeSelf L i v := rfl
theorem store1 {L L' : Array Slot} {i : Nat} {o : Slot} {v : Value} (h : L[i]? = some o) (H : One o) (hs : storeSelf L i v = some L') : storeLocals L i v = some L' := by
  rw [store_eq, h]
  rcases H with rfl | ⟨w, rfl, q⟩
  · exact hs
  · show (if w.category = 2 then _ else storeSelf L i v) = _
    rw [if_neg (by omega)]; exact hs
/-! ### constants of the pool -/
theorem k_ldcInt (S : St p l e R s m args below meth c n0 T h k n) (hx : p.tables.exec = Jvm.exec) (hZ : Z.Warmed39 s.vm) {own : String} {index : Nat} {v : Int32} (hown : s.vm.findClass own = some m.cls) (w : (Jvm.Cond.constant own index v).before a0 Z = true)
    (hd : decode c.code pc = .ok (.ldc index, 2)) (hp : pc + 2 = pc') (K : Done p e below G (T.setTop (mkF m pc' Ls (.int v :: st)))) : Done p e below G (T.setTop (mkF m pc Ls st)) := by
  subst hp
  obtain ⟨_, X, -, -⟩ := S
  exact Done.go (X.ldcInt hx hown (mvT hZ w) (g := mkF m pc Ls st) rfl hd) K
theorem k_ldcwInt (S : St p l e R s m args below meth c n0 T h k n) (hx : p.tables.exec = Jvm.exec) (hZ : Z.Warmed39 s.vm) {own : String} {index : Nat} {v : Int32} (hown : s.vm.findClass own = some m.cls) (w : (Jvm.Cond.constant own index v).before a0 Z = true)
    (hd : decode c.code pc = .ok (.ldc_w index, 3)) (hp : pc + 3 = pc') (K : Done p e below G (T.setTop (mkF m pc' Ls (.int v :: st)))) : Done p e below G (T.setTop (mkF m pc Ls st)) := by
  subst hp
  obtain ⟨_, X, -, -⟩ := S
  exact Done.go (X.ldcwInt hx hown (mvT hZ w) (g := mkF m pc Ls st) rfl hd) K
theorem k_ldc2Long (S : St p l e R s m args below meth c n0 T h k n) (hx : p.tables.exec = Jvm.exec) (hZ : Z.Warmed39 s.vm) {own : String} {index : Nat} {v : Int64} (hown : s.vm.findClass own = some m.cls) (w : (Jvm.Cond.constantLong own index v).before a0 Z = true)
    (hd : decode c.code pc = .ok (.ldc2_w index, 3)) (hp : pc + 3 = pc') (K : Done p e below G (T.setTop (mkF m pc' Ls (.long v :: st)))) : Done p e below G (T.setTop (mkF m pc Ls st)) := by
  subst hp
  obtain ⟨_, X, -, -⟩ := S
  exact Done.go (X.ldc2Long hx hown (mvT hZ w) (g := mkF m pc Ls st) rfl hd) K
/-! ### returns -/
variable {Q : Option Value → Heap → Prop}
theorem k_ret_val {w : Value} {t : FieldType} {i : Instr} (S : St p l e R s m args below meth c n0 T h k n) (hx : p.tables.exec = Jvm.exec) (hret : meth.sig.returnType = some t) (hlk : meth.locks = false) (hd : decode c.code pc = .ok (i, 1)) (hn' : narrow t w = w)
    (hi : (i = .ireturn ∧ (t = .int ∨ t = .boolean ∨ t = .byte ∨ t = .char ∨ t = .short) ∧ ∃ z, w = .int z) ∨ (i = .lreturn ∧ t = .long ∧ ∃ z, w = .long z) ∨ (i = .dreturn ∧ t = .double ∧ ∃ z, w = .double z) ∨ (i = .freturn ∧ t = .float ∧ ∃ z, w = .float z) ∨ (i = .areturn ∧ t.isReference = true ∧ w.isRef = true))
    (hk : k ≤ R.cells) (hn : n ≤ R.slots) (q : Q (some w) h) : Done p e below (OEnd s R n0 Q) (T.setTop (mkF m pc Ls (w :: st))) := by
  obtain ⟨locs, X, N, eT⟩ := S
  obtain ⟨fs, hr, hrun, hended, hW, hsame⟩ := X.leave (v := some w) (fun h => by rw [hret] at h; cases h) hlk
  refine ⟨_, _, retOut X hx hret hn' hi hd hr, hrun, hended, _, locs, rfl, ⟨?_, N⟩, ⟨_, rfl⟩, hW, hsame.mono hk hn⟩
  show Q _ T.heap
  rw [eT]; exact q
theorem k_ret_int {z : Int32} (S : St p l e R s m args below meth c n0 T h k n) (hx : p.tables.exec = Jvm.exec) (hret : meth.sig.returnType = some .int) (hlk : meth.locks = false) (hd : decode c.code pc = .ok (.ireturn, 1))
    (hk : k ≤ R.cells) (hn : n ≤ R.slots) (q : Q (some (.int z)) h) : Done p e below (OEnd s R n0 Q) (T.setTop (mkF m pc Ls (.int z :: st))) :=
  k_ret_val S hx hret hlk hd rfl (Or.inl ⟨rfl, Or.inl rfl, z, rfl⟩) hk hn q
theorem k_ret_long {z : Int64} (S : St p l e R s m args below meth c n0 T h k n) (hx : p.tables.exec = Jvm.exec) (hret : meth.sig.returnType = some .long) (hlk : meth.locks = false) (hd : decode c.code pc = .ok (.lreturn, 1))
    (hk : k ≤ R.cells) (hn : n ≤ R.slots) (q : Q (some (.long z)) h) : Done p e below (OEnd s R n0 Q) (T.setTop (mkF m pc Ls (.long z :: st))) :=
  k_ret_val S hx hret hlk hd rfl (Or.inr (Or.inl ⟨rfl, rfl, z, rfl⟩)) hk hn q
theorem k_ret_ref {a : Addr} {t : FieldType} (S : St p l e R s m args below meth c n0 T h k n) (hx : p.tables.exec = Jvm.exec) (hret : meth.sig.returnType = some t) (ht : t.isReference = true) (hlk : meth.locks = false) (hd : decode c.code pc = .ok (.areturn, 1))
    (hk : k ≤ R.cells) (hn : n ≤ R.slots) (q : Q (some (.ref a)) h) : Done p e below (OEnd s R n0 Q) (T.setTop (mkF m pc Ls (.ref a :: st))) :=
  k_ret_val S hx hret hlk hd (by cases t <;> first | rfl | (cases ht; done)) (Or.inr (Or.inr (Or.inr (Or.inr ⟨rfl, ht, rfl⟩)))) hk hn q
theorem k_ret_nar {z z' : Int32} {t : FieldType} (S : St p l e R s m args below meth c n0 T h k n) (hx : p.tables.exec = Jvm.exec) (hret : meth.sig.returnType = some t) (ht : t = .boolean ∨ t = .byte ∨ t = .char ∨ t = .short) (hlk : meth.locks = false) (hd : decode c.code pc = .ok (.ireturn, 1)) (hz : nar t z = z')
    (hk : k ≤ R.cells) (hn : n ≤ R.slots) (q : Q (some (.int z')) h) : Done p e below (OEnd s R n0 Q) (T.setTop (mkF m pc Ls (.int z :: st))) := by
  obtain ⟨locs, X, N, eT⟩ := S
  subst hz
  obtain ⟨fs, hr, hrun, hended, hW, hsame⟩ := X.leave (v := some (.int (nar t z))) (fun h => by rw [hret] at h; cases h) hlk
  refine ⟨_, _, retN X hx hret ht hd hr, hrun, hended, _, locs, rfl, ⟨?_, N⟩, ⟨_, rfl⟩, hW, hsame.mono hk hn⟩
  show Q _ T.heap
  rw [eT]; exact q
theorem k_ret_void (S : St p l e R s m args below meth c n0 T h k n) (hx : p.tables.exec = Jvm.exec) (hret : meth.sig.returnType = none) (hlk : meth.locks = false) (hd : decode c.code pc = .ok (.return_, 1))
    (hk : k ≤ R.cells) (hn : n ≤ R.slots) (q : Q none h) : Done p e below (OEnd s R n0 Q) (T.setTop (mkF m pc Ls [])) := by
  obtain ⟨locs, X, N, eT⟩ := S
  obtain ⟨fs, hr, hrun, hended, hW, hsame⟩ := X.leave (v := none) (fun _ => rfl) hlk
  refine ⟨_, _, X.returnOut hx hret hd hr, hrun, hended, _, locs, rfl, ⟨?_, N⟩, ⟨_, rfl⟩, hW, hsame.mono hk hn⟩
  show Q _ T.heap
  rw [eT]; exact q
/-! ### calls by a contract -/
theorem k_call_static (S : St p l e R s m args below meth c n0 T h k n) (hx : p.tables.exec = Jvm.exec) (hZ : Z.Warmed39 s.vm) {own : String} {index : Nat} {y : MethodName} {bytes : ByteArray} {maxL : Nat} {ret : Option FieldType} (hown : s.vm.findClass own = some m.cls)
    (w1 : (Jvm.Cond.methodLink own index y).before a0 Z = true) (w2 : (Jvm.Cond.static y).before a0 Z = true) (w3 : (Jvm.Cond.initialized y.cls).before a0 Z = true) (w4 : (Jvm.Cond.code y bytes maxL ret).before a0 Z = true)
    (hy : y.cls ≠ "java/lang/invoke/MethodHandle" ∧ y.cls ≠ "java/lang/invoke/VarHandle") {rm : Room} {as' : Array Value} (C : Con l Z y bytes maxL ret rm n0 h as' Q) (W : Nat) {argsL rest : List Value}
    (hf : rm.frames + 1 ≤ R.frames) (hl : W + (maxL + 11) + rm.locals ≤ R.locals) (hml : Ls.size = c.maxLocals) (hlen : ∀ sig, parseMethodDescriptor y.desc = some sig → argsL.length = sig.parameters.length) (has : argsL.toArray = as')
    (hst : st = argsL.reverse ++ rest) (hW : (rest.map fun v => v.category).sum ≤ W) (hd : decode c.code pc = .ok (.invokestatic index, 3)) (hp : pc + 3 = pc') (hk : k + rm.cells ≤ R.cells) (hn : n + rm.slots ≤ R.slots)
    (K : ∀ v T' h', Q v h' → St p l e R s m args below meth c n0 T' h' (k + rm.cells) (n + rm.slots) → Done p e below G (T'.setTop (mkF m pc' Ls (v.toList ++ rest)))) :
    Done p e below G (T.setTop (mkF m pc Ls st)) := by
  subst hp
  obtain ⟨locs, X, N, eT⟩ := S
  obtain ⟨v, vm₁, ⟨T', L', k', n'⟩, -, X', ⟨L, ⟨hQ, NL⟩, e1, e2, e3⟩, step⟩ := Jvm.LawKit.callS X hx (y := y) hown (mvT hZ w1) (mvT hZ w2) (mvT hZ w3) (mvT hZ w4) hy
    (backOf (W := W) (Q := fun v h L => Q v h ∧ Fr n0 L) (C []) hZ w4 w3 hf hl) (g := mkF m pc Ls st) rfl hml (argsL := argsL) (rest := rest) hlen hst (by show 2 * 0 + _ ≤ _; omega) hd
    (fun _ _ => ⟨has, eT, hk, hn⟩)
  dsimp only [Pt.U, Pt.locs, Pt.cells, Pt.slots] at X' hQ e1 e2 e3 step
  subst e1 e2 e3
  exact Done.go step (K v T' T'.heap hQ ⟨_, X', Fr.app N NL, rfl⟩)
theorem k_call_init (S : St p l e R s m args below meth c n0 T h k n) (hx : p.tables.exec = Jvm.exec) (hZ : Z.Warmed39 s.vm) {own : String} {index : Nat} {y : MethodName} {bytes : ByteArray} {maxL : Nat} (hown : s.vm.findClass own = some m.cls) (hy1 : y.name = "<init>")
    (w1 : (Jvm.Cond.methodLink own index y).before a0 Z = true) (w2 : (Jvm.Cond.instanceMethod y).before a0 Z = true) (w3 : (Jvm.Cond.initialized y.cls).before a0 Z = true) (w4 : (Jvm.Cond.code y bytes maxL none).before a0 Z = true)
    (hy : y.cls ≠ "java/lang/invoke/MethodHandle" ∧ y.cls ≠ "java/lang/invoke/VarHandle") {rm : Room} {as' : Array Value} (C : Con l Z y bytes maxL none rm n0 h as' Q) (W : Nat) {a : Addr} {argsL rest : List Value}
    (hf : rm.frames + 1 ≤ R.frames) (hl : W + (maxL + 11) + rm.locals ≤ R.locals) (hml : Ls.size = c.maxLocals) (hlen : ∀ sig, parseMethodDescriptor y.desc = some sig → argsL.length = sig.parameters.length) (has : (.ref a :: argsL).toArray = as')
    (hst : st = argsL.reverse ++ .ref a :: rest) (hW : (rest.map fun v => v.category).sum ≤ W) (hd : decode c.code pc = .ok (.invokespecial index, 3)) (hp : pc + 3 = pc') (hk : k + rm.cells ≤ R.cells) (hn : n + rm.slots ≤ R.slots)
    (K : ∀ v T' h', Q v h' → St p l e R s m args below meth c n0 T' h' (k + rm.cells) (n + rm.slots) → Done p e below G (T'.setTop (mkF m pc' Ls (v.toList ++ rest)))) :
    Done p e below G (T.setTop (mkF m pc Ls st)) := by
  subst hp
  obtain ⟨locs, X, N, eT⟩ := S
  obtain ⟨v, vm₁, ⟨T', L', k', n'⟩, -, X', ⟨L, ⟨hQ, NL⟩, e1, e2, e3⟩, step⟩ := X.specialBack hx (y := y) hy1 hown (mvT hZ w1) (mvT hZ w2) (mvT hZ w4) hy
    (backOf (W := W) (Q := fun v h L => Q v h ∧ Fr n0 L) (C []) hZ w4 w3 hf hl) (g := mkF m pc Ls st) rfl hml (Steps.refl _) (a := a) (argsL := argsL) (rest := rest) hlen hst (by show 2 * 0 + _ ≤ _; omega) hd
    (fun _ _ => ⟨has, eT, hk, hn⟩)
  dsimp only [Pt.U, Pt.locs, Pt.cells, Pt.slots] at X' hQ e1 e2 e3 step
  subst e1 e2 e3
  exact Done.go (fun t q => step.trans q) (K v T' T'.heap hQ ⟨_, X', Fr.app N NL, rfl⟩)
theorem k_call_virtual (S : St p l e R s m args below meth c n0 T h k n) (hx : p.tables.exec = Jvm.exec) (hZ : Z.Warmed39 s.vm) {own : String} {index : Nat} {y : MethodName} {bytes : ByteArray} {maxL : Nat} {ret : Option FieldType} (hown : s.vm.findClass own = some m.cls) {a : Addr} (E : Exa Z h a y.cls)
    (w1 : (Jvm.Cond.methodLink own index y).before a0 Z = true) (w2 : (Jvm.Cond.declares y).before a0 Z = true) (w5 : (Jvm.Cond.selects y.cls y y).before a0 Z = true) (w6 : (Jvm.Cond.instanceMethod y).before a0 Z = true) (w3 : (Jvm.Cond.initialized y.cls).before a0 Z = true) (w4 : (Jvm.Cond.code y bytes maxL ret).before a0 Z = true)
    (hy : y.cls ≠ "java/lang/invoke/MethodHandle" ∧ y.cls ≠ "java/lang/invoke/VarHandle") {rm : Room} {as' : Array Value} (C : Con l Z y bytes maxL ret rm n0 h as' Q) (W : Nat) {argsL rest : List Value}
    (hf : rm.frames + 1 ≤ R.frames) (hl : W + (maxL + 11) + rm.locals ≤ R.locals) (hml : Ls.size = c.maxLocals) (hlen : ∀ sig, parseMethodDescriptor y.desc = some sig → argsL.length = sig.parameters.length) (has : (.ref a :: argsL).toArray = as')
    (hst : st = argsL.reverse ++ .ref a :: rest) (hW : (rest.map fun v => v.category).sum ≤ W) (hd : decode c.code pc = .ok (.invokevirtual index, 3)) (hp : pc + 3 = pc') (hk : k + rm.cells ≤ R.cells) (hn : n + rm.slots ≤ R.slots)
    (K : ∀ v T' h', Q v h' → St p l e R s m args below meth c n0 T' h' (k + rm.cells) (n + rm.slots) → Done p e below G (T'.setTop (mkF m pc' Ls (v.toList ++ rest)))) :
    Done p e below G (T.setTop (mkF m pc Ls st)) := by
  subst hp
  obtain ⟨locs, X, N, eT⟩ := S
  obtain ⟨cq, kq, qa, qb, qc⟩ := isOf hZ eT E
  obtain ⟨v, vm₁, ⟨T', L', k', n'⟩, -, X', ⟨L, ⟨hQ, NL⟩, e1, e2, e3⟩, step⟩ := X.virtualBack hx (y := y) (z := y) hown (mvT hZ w1) (mvT hZ w2) (notFace_of_selects (args := #[]) (mvT hZ w5)) (mvT hZ w5) (mvT hZ w6) hy
    (backOf (W := W) (Q := fun v h L => Q v h ∧ Fr n0 L) (C []) hZ w4 w3 hf hl) qa qc (g := mkF m pc Ls st) rfl hml (Steps.refl _) (argsL := argsL) (rest := rest) hlen hst (by show 2 * 0 + _ ≤ _; omega) hd
    (fun _ _ => ⟨has, eT, hk, hn⟩)
  dsimp only [Pt.U, Pt.locs, Pt.cells, Pt.slots] at X' hQ e1 e2 e3 step
  subst e1 e2 e3
  exact Done.go (fun t q => step.trans q) (K v T' T'.heap hQ ⟨_, X', Fr.app N NL, rfl⟩)
theorem k_call_private (S : St p l e R s m args below meth c n0 T h k n) (hx : p.tables.exec = Jvm.exec) (hZ : Z.Warmed39 s.vm) {own : String} {index : Nat} {y : MethodName} {bytes : ByteArray} {maxL : Nat} {ret : Option FieldType} (hown : s.vm.findClass own = some m.cls) {a : Addr} (E : Exa Z h a y.cls)
    (w1 : (Jvm.Cond.methodLink own index y).before a0 Z = true) (w6 : (Jvm.Cond.instanceMethod y).before a0 Z = true) (w5 : (Jvm.Cond.selects y.cls y y).before a0 Z = true) (w7 : (Jvm.Cond.privateMethod y).before a0 Z = true) (w3 : (Jvm.Cond.initialized y.cls).before a0 Z = true) (w4 : (Jvm.Cond.code y bytes maxL ret).before a0 Z = true)
    (hy : y.cls ≠ "java/lang/invoke/MethodHandle" ∧ y.cls ≠ "java/lang/invoke/VarHandle") {rm : Room} {as' : Array Value} (C : Con l Z y bytes maxL ret rm n0 h as' Q) (W : Nat) {argsL rest : List Value}
    (hf : rm.frames + 1 ≤ R.frames) (hl : W + (maxL + 11) + rm.locals ≤ R.locals) (hml : Ls.size = c.maxLocals) (hlen : ∀ sig, parseMethodDescriptor y.desc = some sig → argsL.length = sig.parameters.length) (has : (.ref a :: argsL).toArray = as')
    (hst : st = argsL.reverse ++ .ref a :: rest) (hW : (rest.map fun v => v.category).sum ≤ W) (hd : decode c.code pc = .ok (.invokevirtual index, 3)) (hp : pc + 3 = pc') (hk : k + rm.cells ≤ R.cells) (hn : n + rm.slots ≤ R.slots)
    (K : ∀ v T' h', Q v h' → St p l e R s m args below meth c n0 T' h' (k + rm.cells) (n + rm.slots) → Done p e below G (T'.setTop (mkF m pc' Ls (v.toList ++ rest)))) :
    Done p e below G (T.setTop (mkF m pc Ls st)) := by
  subst hp
  obtain ⟨locs, X, N, eT⟩ := S
  obtain ⟨cq, q1, q2⟩ := E.cell
  obtain ⟨v, vm₁, ⟨T', L', k', n'⟩, -, X', ⟨L, ⟨hQ, NL⟩, e1, e2, e3⟩, step⟩ := X.privateBack hx (y := y) hown (mvT hZ w1) (mvT hZ w6) (mvT hZ w5) (Cond.privateMethod_at (mvP hZ w7 (args := #[]))) (mvT hZ w4) hy
    (backOf (W := W) (Q := fun v h L => Q v h ∧ Fr n0 L) (C []) hZ w4 w3 hf hl) (g := mkF m pc Ls st) rfl hml (Steps.refl _) (a := a) (by rw [eT]; exact q1) q2 (argsL := argsL) (rest := rest) hlen hst (by show 2 * 0 + _ ≤ _; omega) hd
    (fun _ _ => ⟨has, eT, hk, hn⟩)
  dsimp only [Pt.U, Pt.locs, Pt.cells, Pt.slots] at X' hQ e1 e2 e3 step
  subst e1 e2 e3
  exact Done.go (fun t q => step.trans q) (K v T' T'.heap hQ ⟨_, X', Fr.app N NL, rfl⟩)
/-- any one step of the library's that leaves the heap and the room as they are -/
theorem k_via {f f' : JFrame} (S : St p l e R s m args below meth c n0 T h k n) (I : ∀ locs, Stand p l e R s m args below meth c T locs k n → T.heap = h → ∃ T', Stand p l e R s m args below meth c T' locs k n ∧ T'.heap = h ∧ ∀ target, Steps p.tables e below (T'.setTop f') target → Steps p.tables e below (T.setTop f) target)
    (K : ∀ T', St p l e R s m args below meth c n0 T' h k n → Done p e below G (T'.setTop f')) : Done p e below G (T.setTop f) := by
  obtain ⟨locs, X, N, eT⟩ := S
  obtain ⟨T', X', eT', step⟩ := I locs X eT
  exact Done.go step (K T' ⟨_, X', N, eT'⟩)
/-! ### the heap: objects and fields -/
theorem k_getfield (S : St p l e R s m args below meth c n0 T h k n) (hx : p.tables.exec = Jvm.exec) (hZ : Z.Warmed39 s.vm) {own O f d : String} {index : Nat} (hown : s.vm.findClass own = some m.cls) (w : (Jvm.Cond.fieldLink own index O f d).before a0 Z = true)
    {a : Addr} {v : Value} (F : Fld Z h a O f d v) (hd : decode c.code pc = .ok (.getfield index, 3)) (hp : pc + 3 = pc')
    (K : ∀ T', St p l e R s m args below meth c n0 T' h k n → Done p e below G (T'.setTop (mkF m pc' Ls (v :: st)))) : Done p e below G (T.setTop (mkF m pc Ls (.ref a :: st))) := by
  subst hp
  obtain ⟨locs, X, N, eT⟩ := S
  obtain ⟨T', X', eT', step⟩ := getF X hx hZ hown (host := "") (Or.inl w) Via.refl eT F (g := mkF m pc Ls (.ref a :: st)) rfl rfl hd
  exact Done.go step (K T' ⟨_, X', N, eT'⟩)
theorem k_putfield (S : St p l e R s m args below meth c n0 T h k n) (hx : p.tables.exec = Jvm.exec) (hZ : Z.Warmed39 s.vm) {own O f d C : String} {index kk : Nat} {ty : FieldType} (hown : s.vm.findClass own = some m.cls) (w : (Jvm.Cond.fieldLink own index O f d).before a0 Z = true)
    {a : Addr} {v old : Value} (F : Fld Z h a O f d old) (E : Exa Z h a C) (L : (Jvm.Cond.lays C O f d).before a0 Z = true ∨ ((Jvm.Cond.laysFinal C O f d).before a0 Z = true ∧ own = O ∧ meth.name = "<init>")) (wi : (Jvm.Cond.instantiable C kk).before a0 Z = true)
    (hty : parseFieldDescriptor d = some ty) (hn' : narrow ty v = v) (hf : fits ty v = true) (ha : n0 ≤ a) (hd : decode c.code pc = .ok (.putfield index, 3)) (hp : pc + 3 = pc')
    (K : ∀ T' h', Wr h h' a (Jvm.RoadKit.slotOf Z O f d) v → St p l e R s m args below meth c n0 T' h' k n → Done p e below G (T'.setTop (mkF m pc' Ls st))) : Done p e below G (T.setTop (mkF m pc Ls (v :: .ref a :: st))) := by
  subst hp
  obtain ⟨locs, X, N, eT⟩ := S
  obtain ⟨T', h', X', eT', W, step⟩ := putF X hx hZ hown (host := "") (Or.inl w) Via.refl eT F E L wi hty hn' hf (g := mkF m pc Ls (v :: .ref a :: st)) rfl rfl hd
  exact Done.go step (K T' h' W ⟨_, X', Fr.snoc X' N ha, eT'⟩)
theorem k_new (S : St p l e R s m args below meth c n0 T h k n) (hx : p.tables.exec = Jvm.exec) (hZ : Z.Warmed39 s.vm) {own C : String} {index f : Nat} (hown : s.vm.findClass own = some m.cls) (w : (Jvm.Cond.classLink own index C).before a0 Z = true) (wi : (Jvm.Cond.instantiable C f).before a0 Z = true) (wz : (Jvm.Cond.initialized C).before a0 Z = true)
    (hd : decode c.code pc = .ok (.new index, 3)) (hp : pc + 3 = pc') (hk : k + 1 ≤ R.cells) (hn : n + f ≤ R.slots)
    (K : ∀ T' h' b, b = h.size → Ext h h' → Exa Z h' b C → (∀ {O nm d : String} {ty : FieldType}, Laid Z a0 C O nm d → parseFieldDescriptor d = some ty → Fld Z h' b O nm d (defaultValue ty)) → St p l e R s m args below meth c n0 T' h' (k + 1) (n + f) → Done p e below G (T'.setTop (mkF m pc' Ls (.ref b :: st)))) :
    Done p e below G (T.setTop (mkF m pc Ls st)) := by
  subst hp
  obtain ⟨locs, X, N, eT⟩ := S
  obtain ⟨T', h', X', eT', E, A, D, -, step⟩ := newO X hx hZ hown w wi wz eT (g := mkF m pc Ls st) rfl hd hk hn
  exact Done.go step (K T' h' _ rfl E A D ⟨_, X', N, eT'⟩)
end Walk
end Jvm.OwnKit

namespace Jvm.OwnKit
open Sem ClassFile Op Lib Jvm.Stand Jvm.Free Jvm.LawKit Jvm.RoadKit
/-! My own layer: arrays as lists. -/
/-- at a lies an array of ty that holds vs -/
def Vec (Z : State) (h : Heap) (a : Addr) (ty : FieldType) (vs : List Value) : Prop := ∃ c : Cell, Arr Z h a c ty ∧ c.slots.toList = vs ∧ vs.length < 2 ^ 31
/-- an int[] | a byte[] that holds xs -/
def IV (Z : State) (h : Heap) (a : Addr) (xs : List Int32) : Prop := Vec Z h a .int (xs.map Value.int)
def BV (Z : State) (h : Heap) (a : Addr) (xs : List Int32) : Prop := Vec Z h a .byte (xs.map Value.int)
/-- a long[] that holds xs -/
def LV (Z : State) (h : Heap) (a : Addr) (xs : List Int64) : Prop := Vec Z h a .long (xs.map Value.long)
theorem Keep.ext0 {h h' : Heap} (K : Keep h h' []) : Ext h h' := ⟨K.1, fun x c q => K.2.1 x c q nin0⟩
theorem Keep.of_ext {h h' : Heap} (E : Ext h h') (ws : List Addr) : Keep h h' ws := (Keep.refl h ws).ext E
section Arrays
variable {p : Program} {l : Launch} {e : Env} {R : Room} {s : State} {m : MethodId} {args : Array Value} {below : List Frame} {meth : Method} {c : Code} {n0 : Nat} {T : State} {h h' : Heap} {k n : Nat} {Z : State} {a0 : Array Value}
variable {G : Outcome → State → Prop} {pc pc' : Nat} {Ls Ls' : Array Slot} {st : List Value} {a b : Addr} {ty : FieldType} {vs : List Value} {xs : List Int32} {ys : List Int64} {ws : List Addr} {sl : Nat} {v : Value}
theorem Vec.lt (F : Vec Z h a ty vs) : a < h.size := by obtain ⟨c, A, -⟩ := F; exact A.lt
theorem Vec.ext (F : Vec Z h a ty vs) (E : Ext h h') : Vec Z h' a ty vs := by obtain ⟨c, A, r⟩ := F; exact ⟨c, A.ext E, r⟩
theorem Vec.other (F : Vec Z h b ty vs) (W : Wr h h' a sl v) (q : b ≠ a) : Vec Z h' b ty vs := by obtain ⟨c, A, r⟩ := F; exact ⟨c, A.other W q, r⟩
theorem Vec.keep (F : Vec Z h a ty vs) (K : Keep h h' ws) (q : a ∉ ws) : Vec Z h' a ty vs := by obtain ⟨c, A, r⟩ := F; exact ⟨c, ⟨K.2.1 a c A.1 q, A.2⟩, r⟩
theorem Vec.put (F : Vec Z h a ty vs) (W : Wr h h' a sl v) : Vec Z h' a ty (vs.set sl v) := by
  obtain ⟨c, A, q, r⟩ := F
  exact ⟨_, A.same W, by simp [Cell.setSlot, q], by simpa using r⟩
theorem Vec.mk {x : Int32} (A : Arr Z h a (newA k ty x) ty) : Vec Z h a ty (List.replicate x.toInt.toNat (defaultValue ty)) := ⟨_, A, by
  show (Array.replicate x.toInt.toNat (defaultValue ty)).toList = _
  rw [Array.toList_replicate], by
  have := x.toInt_lt
  rw [List.length_replicate]; omega⟩
theorem IV.lt (F : IV Z h a xs) : a < h.size := Vec.lt F
theorem IV.ext (F : IV Z h a xs) (E : Ext h h') : IV Z h' a xs := Vec.ext F E
theorem IV.other (F : IV Z h b xs) (W : Wr h h' a sl v) (q : b ≠ a) : IV Z h' b xs := Vec.other F W q
theorem IV.keep (F : IV Z h a xs) (K : Keep h h' ws) (q : a ∉ ws) : IV Z h' a xs := Vec.keep F K q
theorem IV.put {x : Int32} (F : IV Z h a xs) (W : Wr h h' a sl (.int x)) : IV Z h' a (xs.set sl x) := by
  have q := Vec.put F W
  rw [← List.map_set] at q; exact q
theorem IV.len (F : IV Z h a xs) : xs.length < 2 ^ 31 := by obtain ⟨_, _, _, q⟩ := F; simpa using q
theorem BV.lt (F : BV Z h a xs) : a < h.size := Vec.lt F
theorem BV.ext (F : BV Z h a xs) (E : Ext h h') : BV Z h' a xs := Vec.ext F E
theorem BV.other (F : BV Z h b xs) (W : Wr h h' a sl v) (q : b ≠ a) : BV Z h' b xs := Vec.other F W q
theorem BV.keep (F : BV Z h a xs) (K : Keep h h' ws) (q : a ∉ ws) : BV Z h' a xs := Vec.keep F K q
theorem BV.put {x : Int32} (F : BV Z h a xs) (W : Wr h h' a sl (.int x)) : BV Z h' a (xs.set sl x) := by
  have q := Vec.put F W
  rw [← List.map_set] at q; exact q
theorem BV.len (F : BV Z h a xs) : xs.length < 2 ^ 31 := by obtain ⟨_, _, _, q⟩ := F; simpa using q
theorem LV.lt (F : LV Z h a ys) : a < h.size := Vec.lt F
theorem LV.ext (F : LV Z h a ys) (E : Ext h h') : LV Z h' a ys := Vec.ext F E
theorem LV.other (F : LV Z h b ys) (W : Wr h h' a sl v) (q : b ≠ a) : LV Z h' b ys := Vec.other F W q
theorem LV.keep (F : LV Z h a ys) (K : Keep h h' ws) (q : a ∉ ws) : LV Z h' a ys := Vec.keep F K q
theorem LV.put {x : Int64} (F : LV Z h a ys) (W : Wr h h' a sl (.long x)) : LV Z h' a (ys.set sl x) := by
  have q := Vec.put F W
  rw [← List.map_set] at q; exact q
theorem LV.len (F : LV Z h a ys) : ys.length < 2 ^ 31 := by obtain ⟨_, _, _, q⟩ := F; simpa using q
theorem inb {c : Cell} {j : Int32} (q : c.slots.toList = vs) (h1 : 0 ≤ j.toInt) (h2 : j.toInt < vs.length) : ¬ (j < 0 ∨ c.slots.size ≤ j.toNatClampNeg) := by
  subst q
  rw [Int32.lt_iff_toInt_lt]
  have e0 : (0 : Int32).toInt = 0 := rfl
  have e1 : j.toNatClampNeg = j.toInt.toNat := rfl
  have e2 : c.slots.toList.length = c.slots.size := by simp
  omega
theorem k_arraylength {z : Int32} (S : St p l e R s m args below meth c n0 T h k n) (hx : p.tables.exec = Jvm.exec) (hZ : Z.Warmed39 s.vm) (V : Vec Z h a ty vs) (hd : decode c.code pc = .ok (.arraylength, 1)) (hz : vs.length.toInt32 = z) (hp : pc + 1 = pc')
    (K : Done p e below G (T.setTop (mkF m pc' Ls (.int z :: st)))) : Done p e below G (T.setTop (mkF m pc Ls (.ref a :: st))) := by
  subst hp hz
  obtain ⟨_, X, -, eT⟩ := S
  obtain ⟨cl, A, q, r⟩ := V
  have e2 : vs.length = cl.slots.size := by rw [← q]; simp
  rw [e2] at K
  exact Done.go (fun t z => X.arraylength hx (by rw [eT]; exact A.1) (State.isArrayOf_alike hZ.alike A.2.1) (g := mkF m pc Ls (.ref a :: st)) rfl rfl hd _ z) K
theorem k_iaload {j w : Int32} (S : St p l e R s m args below meth c n0 T h k n) (hx : p.tables.exec = Jvm.exec) (hZ : Z.Warmed39 s.vm) (V : IV Z h a xs) (hd : decode c.code pc = .ok (.iaload, 1)) (h1 : 0 ≤ j.toInt) (h2 : j.toInt < xs.length) (hv : xs.getD j.toInt.toNat 0 = w) (hp : pc + 1 = pc')
    (K : Done p e below G (T.setTop (mkF m pc' Ls (.int w :: st)))) : Done p e below G (T.setTop (mkF m pc Ls (.int j :: .ref a :: st))) := by
  subst hp hv
  obtain ⟨_, X, -, eT⟩ := S
  obtain ⟨cl, A, q, r⟩ := V
  have hl : j.toInt.toNat < xs.length := by omega
  have hv : cl.slots[j.toNatClampNeg]? = some (.int (xs.getD j.toInt.toNat 0)) := by
    show cl.slots[j.toInt.toNat]? = _
    rw [← Array.getElem?_toList, q, List.getElem?_map, List.getElem?_eq_getElem hl]
    rw [List.getD_eq_getElem?_getD, List.getElem?_eq_getElem hl]; rfl
  exact Done.go (fun t z => X.iaload hx (by rw [eT]; exact A.1) (State.isArrayOf_alike hZ.alike A.2.1) A.2.2 (inb q h1 (by simpa using h2)) hv (g := mkF m pc Ls (.int j :: .ref a :: st)) rfl rfl hd _ z) K
theorem k_baload {j w : Int32} (S : St p l e R s m args below meth c n0 T h k n) (hx : p.tables.exec = Jvm.exec) (hZ : Z.Warmed39 s.vm) (V : BV Z h a xs) (hd : decode c.code pc = .ok (.baload, 1)) (h1 : 0 ≤ j.toInt) (h2 : j.toInt < xs.length) (hv : xs.getD j.toInt.toNat 0 = w) (hp : pc + 1 = pc')
    (K : Done p e below G (T.setTop (mkF m pc' Ls (.int w :: st)))) : Done p e below G (T.setTop (mkF m pc Ls (.int j :: .ref a :: st))) := by
  subst hp hv
  obtain ⟨_, X, -, eT⟩ := S
  obtain ⟨cl, A, q, r⟩ := V
  have hl : j.toInt.toNat < xs.length := by omega
  have hv : cl.slots[j.toNatClampNeg]? = some (.int (xs.getD j.toInt.toNat 0)) := by
    show cl.slots[j.toInt.toNat]? = _
    rw [← Array.getElem?_toList, q, List.getElem?_map, List.getElem?_eq_getElem hl]
    rw [List.getD_eq_getElem?_getD, List.getElem?_eq_getElem hl]; rfl
  exact Done.go (fun t z => X.baloadBytes hx (by rw [eT]; exact A.1) (State.isArrayOf_alike hZ.alike A.2.1) A.2.2 (inb q h1 (by simpa using h2)) hv (g := mkF m pc Ls (.int j :: .ref a :: st)) rfl rfl hd _ z) K
theorem k_laload {j : Int32} {w : Int64} (S : St p l e R s m args below meth c n0 T h k n) (hx : p.tables.exec = Jvm.exec) (hZ : Z.Warmed39 s.vm) (V : LV Z h a ys) (hd : decode c.code pc = .ok (.laload, 1)) (h1 : 0 ≤ j.toInt) (h2 : j.toInt < ys.length) (hv : ys.getD j.toInt.toNat 0 = w) (hp : pc + 1 = pc')
    (K : Done p e below G (T.setTop (mkF m pc' Ls (.long w :: st)))) : Done p e below G (T.setTop (mkF m pc Ls (.int j :: .ref a :: st))) := by
  subst hp hv
  obtain ⟨_, X, -, eT⟩ := S
  obtain ⟨cl, A, q, r⟩ := V
  have hl : j.toInt.toNat < ys.length := by omega
  have hv : cl.slots[j.toNatClampNeg]? = some (.long (ys.getD j.toInt.toNat 0)) := by
    show cl.slots[j.toInt.toNat]? = _
    rw [← Array.getElem?_toList, q, List.getElem?_map, List.getElem?_eq_getElem hl]
    rw [List.getD_eq_getElem?_getD, List.getElem?_eq_getElem hl]; rfl
  exact Done.go (fun t z => X.laload hx (by rw [eT]; exact A.1) (State.isArrayOf_alike hZ.alike A.2.1) A.2.2 (inb q h1 (by simpa using h2)) hv (g := mkF m pc Ls (.int j :: .ref a :: st)) rfl rfl hd _ z) K
theorem k_iastore {j x : Int32} (S : St p l e R s m args below meth c n0 T h k n) (hx : p.tables.exec = Jvm.exec) (hZ : Z.Warmed39 s.vm) (V : IV Z h a xs) (hd : decode c.code pc = .ok (.iastore, 1)) (h1 : 0 ≤ j.toInt) (h2 : j.toInt < xs.length) (ha : n0 ≤ a) (hp : pc + 1 = pc')
    (K : ∀ T' h', Wr h h' a j.toInt.toNat (.int x) → IV Z h' a (xs.set j.toInt.toNat x) → St p l e R s m args below meth c n0 T' h' k n → Done p e below G (T'.setTop (mkF m pc' Ls st))) : Done p e below G (T.setTop (mkF m pc Ls (.int x :: .int j :: .ref a :: st))) := by
  subst hp
  obtain ⟨_, X, N, eT⟩ := S
  have V0 := V
  obtain ⟨cl, A, q, r⟩ := V
  obtain ⟨T', h', X', eT', W, step⟩ := stI X hx hZ eT A (j := j) (inb q h1 (by simpa using h2)) (g := mkF m pc Ls (.int x :: .int j :: .ref a :: st)) rfl rfl hd
  exact Done.go step (K T' h' W (V0.put W) ⟨_, X', Fr.snoc X' N ha, eT'⟩)
theorem k_bastore {j x : Int32} (S : St p l e R s m args below meth c n0 T h k n) (hx : p.tables.exec = Jvm.exec) (hZ : Z.Warmed39 s.vm) (V : BV Z h a xs) (hd : decode c.code pc = .ok (.bastore, 1)) (h1 : 0 ≤ j.toInt) (h2 : j.toInt < xs.length) (ha : n0 ≤ a) (hp : pc + 1 = pc')
    (K : ∀ T' h', Wr h h' a j.toInt.toNat (.int (nar .byte x)) → BV Z h' a (xs.set j.toInt.toNat (nar .byte x)) → St p l e R s m args below meth c n0 T' h' k n → Done p e below G (T'.setTop (mkF m pc' Ls st))) : Done p e below G (T.setTop (mkF m pc Ls (.int x :: .int j :: .ref a :: st))) := by
  subst hp
  obtain ⟨_, X, N, eT⟩ := S
  have V0 := V
  obtain ⟨cl, A, q, r⟩ := V
  obtain ⟨T', h', X', eT', W, step⟩ := stB X hx hZ eT A (j := j) (inb q h1 (by simpa using h2)) (g := mkF m pc Ls (.int x :: .int j :: .ref a :: st)) rfl rfl hd
  exact Done.go step (K T' h' W (V0.put W) ⟨_, X', Fr.snoc X' N ha, eT'⟩)
theorem k_lastore {j : Int32} {x : Int64} (S : St p l e R s m args below meth c n0 T h k n) (hx : p.tables.exec = Jvm.exec) (hZ : Z.Warmed39 s.vm) (V : LV Z h a ys) (hd : decode c.code pc = .ok (.lastore, 1)) (h1 : 0 ≤ j.toInt) (h2 : j.toInt < ys.length) (ha : n0 ≤ a) (hp : pc + 1 = pc')
    (K : ∀ T' h', Wr h h' a j.toInt.toNat (.long x) → LV Z h' a (ys.set j.toInt.toNat x) → St p l e R s m args below meth c n0 T' h' k n → Done p e below G (T'.setTop (mkF m pc' Ls st))) : Done p e below G (T.setTop (mkF m pc Ls (.long x :: .int j :: .ref a :: st))) := by
  subst hp
  obtain ⟨_, X, N, eT⟩ := S
  have V0 := V
  obtain ⟨cl, A, q, r⟩ := V
  obtain ⟨T', h', X', eT', W, step⟩ := stJ X hx hZ eT A (j := j) (inb q h1 (by simpa using h2)) (g := mkF m pc Ls (.long x :: .int j :: .ref a :: st)) rfl rfl hd
  exact Done.go step (K T' h' W (V0.put W) ⟨_, X', Fr.snoc X' N ha, eT'⟩)
theorem k_newint {x : Int32} (S : St p l e R s m args below meth c n0 T h k n) (hx : p.tables.exec = Jvm.exec) (hZ : Z.Warmed39 s.vm) (w : (Jvm.Cond.arrayClass .int).before a0 Z = true) (hd : decode c.code pc = .ok (.newarray .int, 2)) (h1 : 0 ≤ x.toInt) (cap : Nat) (h2 : x.toInt ≤ cap) (h3 : cap * 8 ≤ 536870912) (hk : k + 1 ≤ R.cells) (hn : n + cap ≤ R.slots) (hp : pc + 2 = pc')
    (K : ∀ T' h' b, b = h.size → Ext h h' → IV Z h' b (List.replicate x.toInt.toNat 0) → St p l e R s m args below meth c n0 T' h' (k + 1) (n + cap) → Done p e below G (T'.setTop (mkF m pc' Ls (.ref b :: st)))) : Done p e below G (T.setTop (mkF m pc Ls (.int x :: st))) := by
  subst hp
  obtain ⟨_, X, N, eT⟩ := S
  obtain ⟨T', h', cA, X', eT', E, A, step⟩ := newP X hx hZ (aty := .int) w eT (g := mkF m pc Ls (.int x :: st)) rfl hd rfl (by rw [Int32.lt_iff_toInt_lt]; show ¬ x.toInt < 0; omega) (cap := cap) (by show x.toInt.toNat ≤ cap; omega) h3 hk hn
  have V := Vec.mk A
  refine Done.go step (K T' h' _ rfl E ?_ ⟨_, X', N, eT'⟩)
  show Vec Z h' h.size .int _
  rw [List.map_replicate]; exact V
theorem k_newbyte {x : Int32} (S : St p l e R s m args below meth c n0 T h k n) (hx : p.tables.exec = Jvm.exec) (hZ : Z.Warmed39 s.vm) (w : (Jvm.Cond.arrayClass .byte).before a0 Z = true) (hd : decode c.code pc = .ok (.newarray .byte, 2)) (h1 : 0 ≤ x.toInt) (cap : Nat) (h2 : x.toInt ≤ cap) (h3 : cap * 8 ≤ 536870912) (hk : k + 1 ≤ R.cells) (hn : n + cap ≤ R.slots) (hp : pc + 2 = pc')
    (K : ∀ T' h' b, b = h.size → Ext h h' → BV Z h' b (List.replicate x.toInt.toNat 0) → St p l e R s m args below meth c n0 T' h' (k + 1) (n + cap) → Done p e below G (T'.setTop (mkF m pc' Ls (.ref b :: st)))) : Done p e below G (T.setTop (mkF m pc Ls (.int x :: st))) := by
  subst hp
  obtain ⟨_, X, N, eT⟩ := S
  obtain ⟨T', h', cA, X', eT', E, A, step⟩ := newP X hx hZ (aty := .byte) w eT (g := mkF m pc Ls (.int x :: st)) rfl hd rfl (by rw [Int32.lt_iff_toInt_lt]; show ¬ x.toInt < 0; omega) (cap := cap) (by show x.toInt.toNat ≤ cap; omega) h3 hk hn
  have V := Vec.mk A
  refine Done.go step (K T' h' _ rfl E ?_ ⟨_, X', N, eT'⟩)
  show Vec Z h' h.size .byte _
  rw [List.map_replicate]; exact V
theorem k_newlong {x : Int32} (S : St p l e R s m args below meth c n0 T h k n) (hx : p.tables.exec = Jvm.exec) (hZ : Z.Warmed39 s.vm) (w : (Jvm.Cond.arrayClass .long).before a0 Z = true) (hd : decode c.code pc = .ok (.newarray .long, 2)) (h1 : 0 ≤ x.toInt) (cap : Nat) (h2 : x.toInt ≤ cap) (h3 : cap * 8 ≤ 536870912) (hk : k + 1 ≤ R.cells) (hn : n + cap ≤ R.slots) (hp : pc + 2 = pc')
    (K : ∀ T' h' b, b = h.size → Ext h h' → LV Z h' b (List.replicate x.toInt.toNat 0) → St p l e R s m args below meth c n0 T' h' (k + 1) (n + cap) → Done p e below G (T'.setTop (mkF m pc' Ls (.ref b :: st)))) : Done p e below G (T.setTop (mkF m pc Ls (.int x :: st))) := by
  subst hp
  obtain ⟨_, X, N, eT⟩ := S
  obtain ⟨T', h', cA, X', eT', E, A, step⟩ := newP X hx hZ (aty := .long) w eT (g := mkF m pc Ls (.int x :: st)) rfl hd rfl (by rw [Int32.lt_iff_toInt_lt]; show ¬ x.toInt < 0; omega) (cap := cap) (by show x.toInt.toNat ≤ cap; omega) h3 hk hn
  have V := Vec.mk A
  refine Done.go step (K T' h' _ rfl E ?_ ⟨_, X', N, eT'⟩)
  show Vec Z h' h.size .long _
  rw [List.map_replicate]; exact V
theorem k_getstatic (S : St p l e R s m args below meth c n0 T h k n) (hx : p.tables.exec = Jvm.exec) (hZ : Z.Warmed39 s.vm) {own O f d : String} {index : Nat} (hown : s.vm.findClass own = some m.cls) (w : (Jvm.Cond.fieldLink own index O f d).before a0 Z = true)
    (F : Sta Z h O f d v) (hd : decode c.code pc = .ok (.getstatic index, 3)) (hp : pc + 3 = pc')
    (K : ∀ T', St p l e R s m args below meth c n0 T' h k n → Done p e below G (T'.setTop (mkF m pc' Ls (v :: st)))) : Done p e below G (T.setTop (mkF m pc Ls st)) := by
  subst hp
  obtain ⟨locs, X, N, eT⟩ := S
  obtain ⟨T', X', eT', step⟩ := getS2 X hx hZ hown (host := "") (Or.inl w) Via.refl eT F (g := mkF m pc Ls st) rfl hd
  exact Done.go step (K T' ⟨_, X', N, eT'⟩)
theorem IV.arv (F : IV Z h a xs) : ∃ k, Arv Z h a k .int xs.length.toInt32 (xs.map Value.int) (.int 0) := by
  obtain ⟨c, A, q, r⟩ := F
  have hl : xs.length < 2 ^ 31 := by simpa using r
  have e0 : xs.length.toInt32.toInt = (xs.length : Int) := by
    show (Int32.ofNat xs.length).toInt = _
    exact Int32.toInt_ofNat_of_lt hl
  have hs : c.slots.size = xs.length := by have := congrArg List.length q; simpa using this
  refine ⟨c.cls, c, A, rfl, ?_, ?_, ?_, ?_⟩
  · show c.slots.size = xs.length.toInt32.toInt.toNat
    rw [e0, hs]; simp
  · rw [Int32.lt_iff_toInt_lt, e0]; show ¬ (xs.length : Int) < 0; omega
  · intro i hi
    rw [← Array.getElem?_toList, q, List.getD_eq_getElem?_getD]
    have : i < (xs.map Value.int).length := by simpa [← hs] using hi
    rw [List.getElem?_eq_getElem this]; rfl
  · intro i hi
    have : i < (xs.map Value.int).length := by simpa [← hs] using hi
    rw [List.getD_eq_getElem?_getD, List.getElem?_eq_getElem this]
    simp [fits]
theorem IV.of_arv {k : ClassId} {z : Int32} (F : Arv Z h a k .int z (xs.map Value.int) (.int 0)) (hz : z.toInt = (xs.length : Int)) : IV Z h a xs := by
  obtain ⟨c, A, -, hs, -, H, -⟩ := F
  have hs' : c.slots.size = xs.length := by rw [hs]; show z.toInt.toNat = _; omega
  refine ⟨c, A, ?_, by have := z.toInt_lt; simp; omega⟩
  refine List.ext_getElem? fun i => ?_
  by_cases hi : i < c.slots.size
  · rw [Array.getElem?_toList, H i hi, List.getD_eq_getElem?_getD]
    have : i < (xs.map Value.int).length := by simpa [← hs'] using hi
    rw [List.getElem?_eq_getElem this]; rfl
  · rw [List.getElem?_eq_none (by simpa using hi), List.getElem?_eq_none (by simp; omega)]
theorem k_arraycopy {nn : Int32} {xs' : List Int32} (S : St p l e R s m args below meth c n0 T h k n) (hx : p.tables.exec = Jvm.exec) (hZ : Z.Warmed39 s.vm) {own : String} {index : Nat} (hown : s.vm.findClass own = some m.cls)
    (w1 : (Jvm.Cond.methodLink own index Jvm.Stand.acN).before a0 Z = true) (w2 : (Jvm.Cond.native Jvm.Stand.acN).before a0 Z = true) (w3 : (Jvm.Cond.static Jvm.Stand.acN).before a0 Z = true) (w4 : (Jvm.Cond.initialized "java/lang/System").before a0 Z = true)
    (A : IV Z h a xs) (B : IV Z h b xs') (h1 : 0 ≤ nn.toInt) (h2 : nn.toInt ≤ xs.length) (h3 : nn.toInt ≤ xs'.length) (ge : n0 ≤ b) (hml : Ls.size = c.maxLocals) (hd : decode c.code pc = .ok (.invokestatic index, 3)) (hf : 1 ≤ R.frames) (W : Nat) (hW : (st.map fun v => v.category).sum ≤ W) (hlo : W + 18 ≤ R.locals) (hp : pc + 3 = pc')
    (K : ∀ T' h', Keep h h' [b] → IV Z h' b (xs.take nn.toInt.toNat ++ xs'.drop nn.toInt.toNat) → St p l e R s m args below meth c n0 T' h' k n → Done p e below G (T'.setTop (mkF m pc' Ls st))) :
    Done p e below G (T.setTop (mkF m pc Ls (.int nn :: .int 0 :: .ref b :: .int 0 :: .ref a :: st))) := by
  subst hp
  obtain ⟨_, X, N, eT⟩ := S
  have la := A.len
  have lb := B.len
  obtain ⟨ka, Aa⟩ := A.arv
  obtain ⟨kb, Bb⟩ := B.arv
  have ea : xs.length.toInt32.toInt = (xs.length : Int) := Int32.toInt_ofNat_of_lt la
  have eb : xs'.length.toInt32.toInt = (xs'.length : Int) := Int32.toInt_ofNat_of_lt lb
  have z0 : (0 : Int32).toNatClampNeg = 0 := rfl
  obtain ⟨T', h', L, X', eT', N', Kp, V, step⟩ := cpA X hx hZ hown w1 w2 w3 w4 eT (sp := 0) (dp := 0) (nn := nn) (us := (xs.take nn.toInt.toNat).map Value.int) Aa Bb (Or.inl ⟨rfl, rfl⟩) (by decide) (by decide) (by rw [Int32.lt_iff_toInt_lt]; show ¬ nn.toInt < 0; omega)
    (by rw [z0]; show 0 + nn.toInt.toNat ≤ xs.length.toInt32.toInt.toNat; omega) (by rw [z0]; show 0 + nn.toInt.toNat ≤ xs'.length.toInt32.toInt.toNat; omega)
    (by
      refine List.ext_getElem (by show _ = (List.map _ (List.range nn.toInt.toNat)).length; rw [List.length_map, List.length_take, List.length_map, List.length_range]; omega) fun i g1 g2 => ?_
      have g3 : i < nn.toInt.toNat := by have := g1; rw [List.length_map, List.length_take] at this; omega
      simp only [List.getElem_map, List.getElem_take, List.getElem_range, z0, Nat.zero_add]
      rw [List.getD_eq_getElem?_getD, List.getElem?_map, List.getElem?_eq_getElem (by omega)]; rfl)
    (by rw [z0]; show 0 + nn.toInt.toNat ≤ _; rw [List.length_map]; omega) N ge (g := mkF m pc Ls (.int nn :: .int 0 :: .ref b :: .int 0 :: .ref a :: st)) rfl hml rfl hd hf (W := W) (by show 2 * 0 + _ ≤ _; omega) (by show W + 18 ≤ _; exact hlo)
  refine Done.go step (K T' h' Kp ?_ ⟨_, X', N', eT'⟩)
  refine IV.of_arv (k := kb) (z := xs'.length.toInt32) ?_ (by rw [eb, List.length_append, List.length_take, List.length_drop]; omega)
  have e : (List.map Value.int xs').take (0 : Int32).toNatClampNeg ++ (xs.take nn.toInt.toNat).map Value.int ++ (List.map Value.int xs').drop ((0 : Int32).toNatClampNeg + nn.toNatClampNeg) = (xs.take nn.toInt.toNat ++ xs'.drop nn.toInt.toNat).map Value.int := by
    rw [z0]; show List.take 0 _ ++ _ ++ List.drop (0 + nn.toInt.toNat) _ = _
    simp
  rw [← e]; exact V
theorem k_arraycopyD {nn dp : Int32} {xs' : List Int32} (S : St p l e R s m args below meth c n0 T h k n) (hx : p.tables.exec = Jvm.exec) (hZ : Z.Warmed39 s.vm) {own : String} {index : Nat} (hown : s.vm.findClass own = some m.cls)
    (w1 : (Jvm.Cond.methodLink own index Jvm.Stand.acN).before a0 Z = true) (w2 : (Jvm.Cond.native Jvm.Stand.acN).before a0 Z = true) (w3 : (Jvm.Cond.static Jvm.Stand.acN).before a0 Z = true) (w4 : (Jvm.Cond.initialized "java/lang/System").before a0 Z = true)
    (A : IV Z h a xs) (B : IV Z h b xs') (h1 : 0 ≤ nn.toInt) (h2 : nn.toInt ≤ xs.length) (h4 : 0 ≤ dp.toInt) (h3 : dp.toInt + nn.toInt ≤ xs'.length) (ge : n0 ≤ b) (hml : Ls.size = c.maxLocals) (hd : decode c.code pc = .ok (.invokestatic index, 3)) (hf : 1 ≤ R.frames) (W : Nat) (hW : (st.map fun v => v.category).sum ≤ W) (hlo : W + 18 ≤ R.locals) (hp : pc + 3 = pc')
    (K : ∀ T' h', Keep h h' [b] → IV Z h' b (xs'.take dp.toInt.toNat ++ xs.take nn.toInt.toNat ++ xs'.drop (dp.toInt.toNat + nn.toInt.toNat)) → St p l e R s m args below meth c n0 T' h' k n → Done p e below G (T'.setTop (mkF m pc' Ls st))) :
    Done p e below G (T.setTop (mkF m pc Ls (.int nn :: .int dp :: .ref b :: .int 0 :: .ref a :: st))) := by
  subst hp
  obtain ⟨_, X, N, eT⟩ := S
  have la := A.len
  have lb := B.len
  obtain ⟨ka, Aa⟩ := A.arv
  obtain ⟨kb, Bb⟩ := B.arv
  have ea : xs.length.toInt32.toInt = (xs.length : Int) := Int32.toInt_ofNat_of_lt la
  have eb : xs'.length.toInt32.toInt = (xs'.length : Int) := Int32.toInt_ofNat_of_lt lb
  have z0 : (0 : Int32).toNatClampNeg = 0 := rfl
  obtain ⟨T', h', L, X', eT', N', Kp, V, step⟩ := cpA X hx hZ hown w1 w2 w3 w4 eT (sp := 0) (dp := dp) (nn := nn) (us := (xs.take nn.toInt.toNat).map Value.int) Aa Bb (Or.inl ⟨rfl, rfl⟩) (by decide) (by rw [Int32.lt_iff_toInt_lt]; show ¬ dp.toInt < 0; omega) (by rw [Int32.lt_iff_toInt_lt]; show ¬ nn.toInt < 0; omega)
    (by rw [z0]; show 0 + nn.toInt.toNat ≤ xs.length.toInt32.toInt.toNat; omega) (by show dp.toInt.toNat + nn.toInt.toNat ≤ xs'.length.toInt32.toInt.toNat; omega)
    (by
      refine List.ext_getElem (by show _ = (List.map _ (List.range nn.toInt.toNat)).length; rw [List.length_map, List.length_take, List.length_map, List.length_range]; omega) fun i g1 g2 => ?_
      have g3 : i < nn.toInt.toNat := by have := g1; rw [List.length_map, List.length_take] at this; omega
      simp only [List.getElem_map, List.getElem_take, List.getElem_range, z0, Nat.zero_add]
      rw [List.getD_eq_getElem?_getD, List.getElem?_map, List.getElem?_eq_getElem (by omega)]; rfl)
    (by show dp.toInt.toNat + nn.toInt.toNat ≤ _; rw [List.length_map]; omega) N ge (g := mkF m pc Ls (.int nn :: .int dp :: .ref b :: .int 0 :: .ref a :: st)) rfl hml rfl hd hf (W := W) (by show 2 * 0 + _ ≤ _; omega) (by show W + 18 ≤ _; exact hlo)
  refine Done.go step (K T' h' Kp ?_ ⟨_, X', N', eT'⟩)
  refine IV.of_arv (k := kb) (z := xs'.length.toInt32) ?_ (by rw [eb, List.length_append, List.length_append, List.length_take, List.length_take, List.length_drop]; omega)
  have e : (List.map Value.int xs').take dp.toNatClampNeg ++ (xs.take nn.toInt.toNat).map Value.int ++ (List.map Value.int xs').drop (dp.toNatClampNeg + nn.toNatClampNeg) = (xs'.take dp.toInt.toNat ++ xs.take nn.toInt.toNat ++ xs'.drop (dp.toInt.toNat + nn.toInt.toNat)).map Value.int := by
    show List.take dp.toInt.toNat _ ++ _ ++ List.drop (dp.toInt.toNat + nn.toInt.toNat) _ = _
    simp
  rw [← e]; exact V
theorem k_newintE {x : Int32} (S : St p l e R s m args below meth c n0 T h k n) (hx : p.tables.exec = Jvm.exec) (hZ : Z.Warmed39 s.vm) (w : (Jvm.Cond.arrayClass .int).before a0 Z = true) (hd : decode c.code pc = .ok (.newarray .int, 2)) (h1 : 0 ≤ x.toInt) (cap : Nat) (h2 : x.toInt ≤ cap) (h3 : cap * 8 ≤ 536870912) (hk : k + 1 ≤ R.cells) (hn : n + cap ≤ R.slots) (hp : pc + 2 = pc')
    (K : ∀ T' h' b, b = h.size → Ext h h' → IV Z h' b (List.replicate x.toInt.toNat 0) → Exa Z h' b "[I" → St p l e R s m args below meth c n0 T' h' (k + 1) (n + cap) → Done p e below G (T'.setTop (mkF m pc' Ls (.ref b :: st)))) : Done p e below G (T.setTop (mkF m pc Ls (.int x :: st))) := by
  subst hp
  obtain ⟨_, X, N, eT⟩ := S
  obtain ⟨T', h', cA, X', eT', E, A, EX, step⟩ := newPE X hx hZ (aty := .int) w eT (g := mkF m pc Ls (.int x :: st)) rfl hd rfl (by rw [Int32.lt_iff_toInt_lt]; show ¬ x.toInt < 0; omega) (cap := cap) (by show x.toInt.toNat ≤ cap; omega) h3 hk hn (ad := "[I") (by decide)
  have V := Vec.mk A
  refine Done.go step (K T' h' _ rfl E ?_ EX ⟨_, X', N, eT'⟩)
  show Vec Z h' h.size .int _
  rw [List.map_replicate]; exact V
theorem k_clone (S : St p l e R s m args below meth c n0 T h k n) (hx : p.tables.exec = Jvm.exec) (hZ : Z.Warmed39 s.vm) {own : String} {index : Nat} (hown : s.vm.findClass own = some m.cls)
    (w1 : (Jvm.Cond.methodLink own index ⟨"[I", "clone", "()Ljava/lang/Object;"⟩).before a0 Z = true) (w2 : (Jvm.Cond.sameMethod "[I" "java/lang/Object" "clone" "()Ljava/lang/Object;").before a0 Z = true) (w3 : (Jvm.Cond.native ⟨"java/lang/Object", "clone", "()Ljava/lang/Object;"⟩).before a0 Z = true)
    (w4 : (Jvm.Cond.instanceMethod ⟨"java/lang/Object", "clone", "()Ljava/lang/Object;"⟩).before a0 Z = true) (w5 : (Jvm.Cond.selects "[I" ⟨"[I", "clone", "()Ljava/lang/Object;"⟩ ⟨"java/lang/Object", "clone", "()Ljava/lang/Object;"⟩).before a0 Z = true) (w6 : (Jvm.Cond.castable "[I" "java/lang/Cloneable").before a0 Z = true)
    (V : IV Z h a xs) (E : Exa Z h a "[I") (hml : Ls.size = c.maxLocals) (hd : decode c.code pc = .ok (.invokevirtual index, 3)) (hf : 1 ≤ R.frames) (W : Nat) (hW : (st.map fun v => v.category).sum ≤ W) (hlo : W + 14 ≤ R.locals) (cap : Nat) (hcap : xs.length ≤ cap) (hk : k + 1 ≤ R.cells) (hn : n + cap ≤ R.slots) (hp : pc + 3 = pc')
    (K : ∀ T' h' b, b = h.size → Ext h h' → IV Z h' b xs → Exa Z h' b "[I" → St p l e R s m args below meth c n0 T' h' (k + 1) (n + cap) → Done p e below G (T'.setTop (mkF m pc' Ls (.ref b :: st)))) :
    Done p e below G (T.setTop (mkF m pc Ls (.ref a :: st))) := by
  subst hp
  obtain ⟨_, X, N, eT⟩ := S
  obtain ⟨cl, A, q, r⟩ := V
  have hsz : cl.slots.size = xs.length := by have := congrArg List.length q; simpa using this
  have F : FitC Z cl := fitC_of A fun i hi v hv => by
    rw [← Array.getElem?_toList, q, List.getElem?_map] at hv
    cases e : xs[i]? with
    | none => rw [e] at hv; cases hv
    | some z => rw [e] at hv; cases hv; rfl
  obtain ⟨T', h', X', eT', ex, A', E', step⟩ := cloneA X hx hZ hown w1 w2 w3 w4 w5 w6 eT A E F (g := mkF m pc Ls (.ref a :: st)) rfl hml rfl hd hf (W := W) (by show 2 * 0 + _ ≤ _; omega) hlo (cap := cap) (by omega) hk hn
  exact Done.go step (K T' h' _ rfl ex ⟨cloneOf cl, A', q, r⟩ E' ⟨_, X', N, eT'⟩)
theorem k_checkcast (S : St p l e R s m args below meth c n0 T h k n) (hx : p.tables.exec = Jvm.exec) (hZ : Z.Warmed39 s.vm) {own C : String} {index : Nat} (hown : s.vm.findClass own = some m.cls) (w : (Jvm.Cond.classLink own index C).before a0 Z = true)
    (F : Ins Z h a C true) (hd : decode c.code pc = .ok (.checkcast index, 3)) (hp : pc + 3 = pc')
    (K : ∀ T', St p l e R s m args below meth c n0 T' h k n → Done p e below G (T'.setTop (mkF m pc' Ls (.ref a :: st)))) : Done p e below G (T.setTop (mkF m pc Ls (.ref a :: st))) := by
  subst hp
  obtain ⟨locs, X, N, eT⟩ := S
  obtain ⟨T', X', eT', step⟩ := castY X hx hZ hown w eT F (g := mkF m pc Ls (.ref a :: st)) rfl rfl hd
  exact Done.go step (K T' ⟨_, X', N, eT'⟩)
end Arrays
end Jvm.OwnKit
namespace Jvm.Pilot.@@N@@
open Jvm Jvm.ClassFile Sem Op Lib Jvm.Free Jvm.Stand Jvm.LawKit Jvm.RoadKit Jvm.OwnKit Bundle Jvm.Pilot.@@N@@.Jvm.D
theorem own_lt {x y : Int32} : x < y ↔ x.toInt < y.toInt := Int32.lt_iff_toInt_lt
def own_inc (xs : List Int32) : Prop := ∀ i j : Nat, i < j → j < xs.length → (xs.getD i 0).toInt < (xs.getD j 0).toInt
/-- the walk through both: the first i members are found, all of xs below at lies below what is left -/
def own_I (xs ys : List Int32) (i at_ : Int) : Prop := 0 ≤ i ∧ i ≤ ys.length ∧ 0 ≤ at_ ∧ at_ ≤ xs.length ∧ (∀ j : Nat, (j : Int) < i → ∃ k : Nat, k < xs.length ∧ xs.getD k 0 = ys.getD j 0) ∧ (∀ k j : Nat, (k : Int) < at_ → i ≤ (j : Int) → j < ys.length → (xs.getD k 0).toInt < (ys.getD j 0).toInt)
def own_Sub (xs ys : List Int32) : Prop := ∀ j : Nat, j < ys.length → ∃ k : Nat, k < xs.length ∧ xs.getD k 0 = ys.getD j 0
theorem own_I0 (xs ys : List Int32) : own_I xs ys 0 0 := ⟨by omega, by omega, by omega, by omega, fun j h => by omega, fun k j h => by omega⟩
theorem own_Iat {xs ys : List Int32} {i at_ : Int} {p q : Nat} (H : own_I xs ys i at_) (hy : own_inc ys) (hp : (p : Int) = at_) (hq : (q : Int) = i) (h1 : at_ < xs.length) (h2 : i < ys.length) (h : xs.getD p 0 < ys.getD q 0) : own_I xs ys i (at_ + 1) := by
  obtain ⟨a1, a2, a3, a4, a5, a6⟩ := H
  refine ⟨a1, a2, by omega, by omega, a5, fun k j hk hj hl => ?_⟩
  by_cases e : (k : Int) < at_
  · exact a6 k j e hj hl
  · have : k = p := by omega
    subst this
    rw [own_lt] at h
    by_cases e2 : q = j
    · subst e2; exact h
    · have := hy q j (by omega) hl; omega
theorem own_Ii {xs ys : List Int32} {i at_ : Int} {p q : Nat} (H : own_I xs ys i at_) (hp : (p : Int) = at_) (hq : (q : Int) = i) (h1 : at_ < xs.length) (h2 : i < ys.length) (h : xs.getD p 0 = ys.getD q 0) : own_I xs ys (i + 1) at_ := by
  obtain ⟨a1, a2, a3, a4, a5, a6⟩ := H
  refine ⟨by omega, by omega, a3, a4, fun j hj => ?_, fun k j hk hj hl => a6 k j hk (by omega) hl⟩
  by_cases e : (j : Int) < i
  · exact a5 j e
  · have : j = q := by omega
    subst this; exact ⟨p, by omega, h⟩
theorem own_Iend {xs ys : List Int32} {i at_ : Int} (H : own_I xs ys i at_) (h : ¬ i < ys.length) : own_Sub xs ys := fun j hj => H.2.2.2.2.1 j (by omega)
theorem own_Ino {xs ys : List Int32} {i at_ : Int} {q : Nat} (H : own_I xs ys i at_) (hq : (q : Int) = i) (h2 : i < ys.length) (h : at_ = xs.length) : ¬ own_Sub xs ys := fun z => by
  obtain ⟨k, k1, k2⟩ := z q (by omega)
  have := H.2.2.2.2.2 k q (by omega) (by omega) (by omega)
  rw [k2] at this; omega
theorem own_Ino2 {xs ys : List Int32} {i at_ : Int} {p q : Nat} (H : own_I xs ys i at_) (hx : own_inc xs) (hp : (p : Int) = at_) (hq : (q : Int) = i) (h1 : at_ < xs.length) (h2 : i < ys.length) (h : ¬ xs.getD p 0 < ys.getD q 0) (hne : ¬ xs.getD p 0 = ys.getD q 0) : ¬ own_Sub xs ys := fun z => by
  obtain ⟨k, k1, k2⟩ := z q (by omega)
  rw [own_lt] at h
  rw [← Int32.toInt_inj] at hne
  by_cases e : (k : Int) < at_
  · have := H.2.2.2.2.2 k q e (by omega) (by omega)
    rw [k2] at this; omega
  · by_cases e2 : k = p
    · subst e2; rw [k2] at hne; omega
    · have := hx p k (by omega) k1
      rw [k2] at this; omega
def own_subl (m v0 v1 v2 v3 : Int32) : List Int32 := (if m &&& 1 = 0 then [] else [v0]) ++ ((if m &&& 2 = 0 then [] else [v1]) ++ ((if m &&& 4 = 0 then [] else [v2]) ++ (if m &&& 8 = 0 then [] else [v3])))
theorem own_inc_of {xs : List Int32} (h : xs.Pairwise (fun a b => a.toInt < b.toInt)) : own_inc xs := fun i j hij hj => by
  have := List.pairwise_iff_getElem.mp h i j (by omega) hj hij
  simpa [List.getD_eq_getElem?_getD, List.getElem?_eq_getElem hj, List.getElem?_eq_getElem (show i < xs.length by omega)] using this
theorem own_subl_inc (m v0 v1 v2 v3 : Int32) (h1 : v0.toInt < v1.toInt) (h2 : v1.toInt < v2.toInt) (h3 : v2.toInt < v3.toInt) : own_inc (own_subl m v0 v1 v2 v3) := by
  apply own_inc_of
  unfold own_subl
  split <;> split <;> split <;> split <;> simp <;> omega
theorem own_mem_getD {xs : List Int32} {y : Int32} : (∃ k : Nat, k < xs.length ∧ xs.getD k 0 = y) ↔ y ∈ xs := by
  constructor
  · rintro ⟨k, h, rfl⟩
    rw [List.getD_eq_getElem?_getD, List.getElem?_eq_getElem h]; exact List.getElem_mem h
  · intro h
    obtain ⟨k, hk, rfl⟩ := List.getElem_of_mem h
    exact ⟨k, hk, by simp [List.getD_eq_getElem?_getD, List.getElem?_eq_getElem hk]⟩
theorem own_Sub_iff (xs ys : List Int32) : own_Sub xs ys ↔ ∀ y ∈ ys, y ∈ xs := by
  constructor
  · intro h y hy
    obtain ⟨j, hj, rfl⟩ := own_mem_getD.mpr hy
    exact own_mem_getD.mp (h j hj)
  · intro h j hj
    exact own_mem_getD.mpr (h _ (own_mem_getD.mp ⟨j, hj, rfl⟩))
theorem own_mem_subl (m v0 v1 v2 v3 y : Int32) : y ∈ own_subl m v0 v1 v2 v3 ↔ (¬ m &&& 1 = 0 ∧ y = v0) ∨ (¬ m &&& 2 = 0 ∧ y = v1) ∨ (¬ m &&& 4 = 0 ∧ y = v2) ∨ (¬ m &&& 8 = 0 ∧ y = v3) := by
  unfold own_subl
  simp only [List.mem_append]
  split <;> split <;> split <;> split <;> simp_all
theorem own_m16 (m : Int32) (h1 : 0 ≤ m.toInt) (h2 : m.toInt < 16) : ∃ k : Nat, k < 16 ∧ m = Int32.ofNat k := ⟨m.toInt.toNat, by omega, by
  rw [← Int32.toInt_inj, Int32.toInt_ofNat_of_lt (by omega)]; omega⟩
theorem own_bits (m s : Int32) (hm1 : 0 ≤ m.toInt) (hm2 : m.toInt < 16) (hs1 : 0 ≤ s.toInt) (hs2 : s.toInt < 16) : ((m &&& (s ^^^ (-1))) &&& 15 = 0) ↔ ((¬ m &&& 1 = 0 → ¬ s &&& 1 = 0) ∧ (¬ m &&& 2 = 0 → ¬ s &&& 2 = 0) ∧ (¬ m &&& 4 = 0 → ¬ s &&& 4 = 0) ∧ (¬ m &&& 8 = 0 → ¬ s &&& 8 = 0)) := by
  obtain ⟨a, ha, rfl⟩ := own_m16 m hm1 hm2
  obtain ⟨b, hb, rfl⟩ := own_m16 s hs1 hs2
  have key : ∀ a b : Fin 16, ((Int32.ofNat a.val &&& (Int32.ofNat b.val ^^^ (-1))) &&& 15 == 0) = (((Int32.ofNat a.val &&& 1 == 0) || !(Int32.ofNat b.val &&& 1 == 0)) && (((Int32.ofNat a.val &&& 2 == 0) || !(Int32.ofNat b.val &&& 2 == 0)) && (((Int32.ofNat a.val &&& 4 == 0) || !(Int32.ofNat b.val &&& 4 == 0)) && ((Int32.ofNat a.val &&& 8 == 0) || !(Int32.ofNat b.val &&& 8 == 0))))) := by decide +kernel
  have q := key ⟨a, ha⟩ ⟨b, hb⟩
  rw [← beq_iff_eq (a := Int32.ofNat a &&& (Int32.ofNat b ^^^ (-1)) &&& 15), q]
  simp only [Bool.and_eq_true, Bool.or_eq_true, beq_iff_eq, Bool.not_eq_true', beq_eq_false_iff_ne, ne_eq, Decidable.not_imp_not, Decidable.imp_iff_not_or, Decidable.not_not]
theorem own_law0 (m s v0 v1 v2 v3 : Int32) (hm1 : 0 ≤ m.toInt) (hm2 : m.toInt < 16) (hs1 : 0 ≤ s.toInt) (hs2 : s.toInt < 16) (h1 : v0.toInt < v1.toInt) (h2 : v1.toInt < v2.toInt) (h3 : v2.toInt < v3.toInt) :
    own_Sub (own_subl s v0 v1 v2 v3) (own_subl m v0 v1 v2 v3) ↔ ((m &&& (s ^^^ (-1))) &&& 15 = 0) := by
  rw [own_Sub_iff, own_bits m s hm1 hm2 hs1 hs2]
  simp only [own_mem_subl]
  have n01 : v0 ≠ v1 := fun z => by rw [z] at h1; omega
  have n02 : v0 ≠ v2 := fun z => by rw [z] at h1; omega
  have n03 : v0 ≠ v3 := fun z => by rw [z] at h1; omega
  have n12 : v1 ≠ v2 := fun z => by rw [z] at h2; omega
  have n13 : v1 ≠ v3 := fun z => by rw [z] at h2; omega
  have n23 : v2 ≠ v3 := fun z => by rw [z] at h3; omega
  constructor
  · intro H
    refine ⟨fun q => ?_, fun q => ?_, fun q => ?_, fun q => ?_⟩
    · have := H v0 (Or.inl ⟨q, rfl⟩); simpa [n01, n02, n03] using this
    · have := H v1 (Or.inr (Or.inl ⟨q, rfl⟩)); simpa [n01.symm, n12, n13] using this
    · have := H v2 (Or.inr (Or.inr (Or.inl ⟨q, rfl⟩))); simpa [n02.symm, n12.symm, n23] using this
    · have := H v3 (Or.inr (Or.inr (Or.inr ⟨q, rfl⟩))); simpa [n03.symm, n13.symm, n23.symm] using this
  · rintro ⟨a, b, c, d⟩ y (⟨q, rfl⟩ | ⟨q, rfl⟩ | ⟨q, rfl⟩ | ⟨q, rfl⟩)
    · exact Or.inl ⟨a q, rfl⟩
    · exact Or.inr (Or.inl ⟨b q, rfl⟩)
    · exact Or.inr (Or.inr (Or.inl ⟨c q, rfl⟩))
    · exact Or.inr (Or.inr (Or.inr ⟨d q, rfl⟩))
def own_min (x y : Int32) : Int32 := if y < x then y else x
def own_max (x y : Int32) : Int32 := if x < y then y else x
theorem own_min_t (x y : Int32) : ((own_min x y).toInt = x.toInt ∨ (own_min x y).toInt = y.toInt) ∧ (own_min x y).toInt ≤ x.toInt ∧ (own_min x y).toInt ≤ y.toInt := by
  unfold own_min; split <;> (rename_i h; rw [own_lt] at h) <;> omega
theorem own_max_t (x y : Int32) : ((own_max x y).toInt = x.toInt ∨ (own_max x y).toInt = y.toInt) ∧ x.toInt ≤ (own_max x y).toInt ∧ y.toInt ≤ (own_max x y).toInt := by
  unfold own_max; split <;> (rename_i h; rw [own_lt] at h) <;> omega
theorem own_len32 {xs : List Int32} (h : xs.length < 2 ^ 31) : xs.length.toInt32.toInt = (xs.length : Int) := Int32.toInt_ofNat_of_lt h
theorem own_mask (x : Int32) : 0 ≤ (x &&& 15).toInt ∧ (x &&& 15).toInt < 16 := by
  have q := c_and x 15 (by decide)
  have e : (15 : Int32).toInt = 15 := rfl
  omega
theorem own_subl_len (m v0 v1 v2 v3 : Int32) : (own_subl m v0 v1 v2 v3).length ≤ 4 := by
  unfold own_subl; split <;> split <;> split <;> split <;> first | decide | (simp; done)
theorem own_inc1 {d : Int32} {k : Nat} (h : 0 ≤ d.toInt) (h2 : d.toInt < k) (h3 : k < 2 ^ 31) : (d + 1).toInt = d.toInt + 1 := by
  have q := c_iadd d 1
  have r := rng32 (d + 1)
  have r2 := rng32 d
  have e : (1 : Int32).toInt = 1 := rfl
  omega
theorem own_m16' (m : Int32) (h : 0 ≤ m.toInt ∧ m.toInt < 16) : m = 0 ∨ m = 1 ∨ m = 2 ∨ m = 3 ∨ m = 4 ∨ m = 5 ∨ m = 6 ∨ m = 7 ∨ m = 8 ∨ m = 9 ∨ m = 10 ∨ m = 11 ∨ m = 12 ∨ m = 13 ∨ m = 14 ∨ m = 15 := by
  simp only [← Int32.toInt_inj, Int32.reduceToInt]; omega
theorem own_sort4 {a b c d x0 x1 x2 x3 a1 b1 c1 d1 a2 c2 b2 d2 b3 c3 : Int32} (h1 : a1 = own_min x0 x1) (h2 : b1 = own_max x0 x1) (h3 : c1 = own_min x2 x3) (h4 : d1 = own_max x2 x3) (h5 : a2 = own_min a1 c1) (h6 : c2 = own_max a1 c1) (h7 : b2 = own_min b1 d1) (h8 : d2 = own_max b1 d1) (h9 : b3 = own_min b2 c2) (h10 : c3 = own_max b2 c2)
    (g1 : ¬ a2 = b3) (g2 : ¬ b3 = c3) (g3 : ¬ c3 = d2) : a2.toInt < b3.toInt ∧ b3.toInt < c3.toInt ∧ c3.toInt < d2.toInt := by
  have := own_min_t x0 x1; have := own_max_t x0 x1; have := own_min_t x2 x3; have := own_max_t x2 x3
  have := own_min_t a1 c1; have := own_max_t a1 c1; have := own_min_t b1 d1; have := own_max_t b1 d1; have := own_min_t b2 c2; have := own_max_t b2 c2
  simp only [← Int32.toInt_inj] at g1 g2 g3
  rw [← h1, ← h2, ← h3, ← h4, ← h5, ← h6, ← h7, ← h8, ← h9, ← h10] at *
  omega
theorem own_res {v : Option Value} {P : Prop} (h : (v = some (.int 1) ∧ P) ∨ (v = some (.int 0) ∧ ¬ P)) : ∃ r : Int32, v = some (.int r) ∧ ((r = 1 ∧ P) ∨ (r = 0 ∧ ¬ P)) := by
  rcases h with ⟨h, p⟩ | ⟨h, p⟩
  · exact ⟨1, h, Or.inl ⟨rfl, p⟩⟩
  · exact ⟨0, h, Or.inr ⟨rfl, p⟩⟩
theorem own_fin {P Q : Prop} [Decidable Q] {r b : Int32} (h : (r = 1 ∧ P) ∨ (r = 0 ∧ ¬ P)) (hb : b = if Q then 1 else 0) (hpq : P ↔ Q) : r = b := by
  subst hb
  rcases h with ⟨rfl, p⟩ | ⟨rfl, p⟩
  · rw [if_pos (hpq.mp p)]
  · rw [if_neg fun z => p (hpq.mpr z)]
theorem own_d1_0 : decode jdk_29_method_69_code 0 = .ok (.iload_n 0, 1) := by decide +kernel
theorem own_d1_1 : decode jdk_29_method_69_code 1 = .ok (.iload_n 1, 1) := by decide +kernel
theorem own_d1_2 : decode jdk_29_method_69_code 2 = .ok (.if_icmp .gt 7, 3) := by decide +kernel
theorem own_d1_5 : decode jdk_29_method_69_code 5 = .ok (.iload_n 0, 1) := by decide +kernel
theorem own_d1_6 : decode jdk_29_method_69_code 6 = .ok (.goto 4, 3) := by decide +kernel
theorem own_d1_9 : decode jdk_29_method_69_code 9 = .ok (.iload_n 1, 1) := by decide +kernel
theorem own_d1_10 : decode jdk_29_method_69_code 10 = .ok (.ireturn, 1) := by decide +kernel
set_option maxRecDepth 65536 in
set_option maxHeartbeats 40000000 in
theorem own_cmin (l : Launch) (Z : State) (a0 : Array Value) (hw : ∀ d ∈ tables_1, d.before a0 Z = true) (u t : Int32) (h0 : Heap) (n0 : Nat) :
    Con l Z (⟨"java/lang/Math", "min", "(II)I"⟩ : MethodName) jdk_29_method_69_code 2 (some .int) ({ frames := 0, cells := 0, slots := 0, locals := 0 } : Room) n0 h0 #[(.int u), (.int t)] (fun v h => v = some (.int (own_min u t)) ∧ h = h0) := by
  refine Con.intro (Jvm.Free.JP.mathPlain rfl (by decide +kernel)) (Ls := #[.val (.int u), .val (.int t)]) (fun m => by first | (simp [entryFrame, mkF, argsToLocals, Value.category]; done) | rfl) ?_
  intro p e s m below meth c s₁ hx hby hml hown hnm hret hlk hZ S0
  have A0 := S0.here
  refine k_iloadN A0 hx (hb hby own_d1_0) rfl (pc' := 1) rfl ?_
  refine k_iloadN A0 hx (hb hby own_d1_1) rfl (pc' := 2) rfl ?_
  refine k_icmp_gt A0 hx (hb hby own_d1_2) (pcY := 9) (by decide) (pc' := 5) rfl (fun hc2 => ?_) (fun hc2 => ?_)
  · refine k_iloadN A0 hx (hb hby own_d1_9) rfl (pc' := 10) rfl ?_
    refine k_ret_int S0 hx hret hlk (hb hby own_d1_10) (by decide) (by decide) ?_
    exact ⟨by simp [own_min, hc2], rfl⟩
  · refine k_iloadN A0 hx (hb hby own_d1_5) rfl (pc' := 6) rfl ?_
    refine k_goto A0 hx (hb hby own_d1_6) (pc' := 10) (by decide) ?_
    refine k_ret_int S0 hx hret hlk (hb hby own_d1_10) (by decide) (by decide) ?_
    exact ⟨by simp [own_min, hc2], rfl⟩
theorem own_d2_0 : decode jdk_29_method_65_code 0 = .ok (.iload_n 0, 1) := by decide +kernel
theorem own_d2_1 : decode jdk_29_method_65_code 1 = .ok (.iload_n 1, 1) := by decide +kernel
theorem own_d2_2 : decode jdk_29_method_65_code 2 = .ok (.if_icmp .lt 7, 3) := by decide +kernel
theorem own_d2_5 : decode jdk_29_method_65_code 5 = .ok (.iload_n 0, 1) := by decide +kernel
theorem own_d2_6 : decode jdk_29_method_65_code 6 = .ok (.goto 4, 3) := by decide +kernel
theorem own_d2_9 : decode jdk_29_method_65_code 9 = .ok (.iload_n 1, 1) := by decide +kernel
theorem own_d2_10 : decode jdk_29_method_65_code 10 = .ok (.ireturn, 1) := by decide +kernel
set_option maxRecDepth 65536 in
set_option maxHeartbeats 40000000 in
theorem own_cmax (l : Launch) (Z : State) (a0 : Array Value) (hw : ∀ d ∈ tables_1, d.before a0 Z = true) (u t : Int32) (h0 : Heap) (n0 : Nat) :
    Con l Z (⟨"java/lang/Math", "max", "(II)I"⟩ : MethodName) jdk_29_method_65_code 2 (some .int) ({ frames := 0, cells := 0, slots := 0, locals := 0 } : Room) n0 h0 #[(.int u), (.int t)] (fun v h => v = some (.int (own_max u t)) ∧ h = h0) := by
  refine Con.intro (Jvm.Free.JP.mathPlain rfl (by decide +kernel)) (Ls := #[.val (.int u), .val (.int t)]) (fun m => by first | (simp [entryFrame, mkF, argsToLocals, Value.category]; done) | rfl) ?_
  intro p e s m below meth c s₁ hx hby hml hown hnm hret hlk hZ S0
  have A0 := S0.here
  refine k_iloadN A0 hx (hb hby own_d2_0) rfl (pc' := 1) rfl ?_
  refine k_iloadN A0 hx (hb hby own_d2_1) rfl (pc' := 2) rfl ?_
  refine k_icmp_lt A0 hx (hb hby own_d2_2) (pcY := 9) (by decide) (pc' := 5) rfl (fun hc2 => ?_) (fun hc2 => ?_)
  · refine k_iloadN A0 hx (hb hby own_d2_9) rfl (pc' := 10) rfl ?_
    refine k_ret_int S0 hx hret hlk (hb hby own_d2_10) (by decide) (by decide) ?_
    exact ⟨by simp [own_max, hc2], rfl⟩
  · refine k_iloadN A0 hx (hb hby own_d2_5) rfl (pc' := 6) rfl ?_
    refine k_goto A0 hx (hb hby own_d2_6) (pc' := 10) (by decide) ?_
    refine k_ret_int S0 hx hret hlk (hb hby own_d2_10) (by decide) (by decide) ?_
    exact ⟨by simp [own_max, hc2], rfl⟩
theorem own_d3_0 : decode method_2_code 0 = .ok (.iload_n 0, 1) := by decide +kernel
theorem own_d3_1 : decode method_2_code 1 = .ok (.iconst 1, 1) := by decide +kernel
theorem own_d3_2 : decode method_2_code 2 = .ok (.iand, 1) := by decide +kernel
theorem own_d3_3 : decode method_2_code 3 = .ok (.iload_n 0, 1) := by decide +kernel
theorem own_d3_4 : decode method_2_code 4 = .ok (.iconst 1, 1) := by decide +kernel
theorem own_d3_5 : decode method_2_code 5 = .ok (.ishr, 1) := by decide +kernel
theorem own_d3_6 : decode method_2_code 6 = .ok (.iconst 1, 1) := by decide +kernel
theorem own_d3_7 : decode method_2_code 7 = .ok (.iand, 1) := by decide +kernel
theorem own_d3_8 : decode method_2_code 8 = .ok (.iadd, 1) := by decide +kernel
theorem own_d3_9 : decode method_2_code 9 = .ok (.iload_n 0, 1) := by decide +kernel
theorem own_d3_10 : decode method_2_code 10 = .ok (.iconst 2, 1) := by decide +kernel
theorem own_d3_11 : decode method_2_code 11 = .ok (.ishr, 1) := by decide +kernel
theorem own_d3_12 : decode method_2_code 12 = .ok (.iconst 1, 1) := by decide +kernel
theorem own_d3_13 : decode method_2_code 13 = .ok (.iand, 1) := by decide +kernel
theorem own_d3_14 : decode method_2_code 14 = .ok (.iadd, 1) := by decide +kernel
theorem own_d3_15 : decode method_2_code 15 = .ok (.iload_n 0, 1) := by decide +kernel
theorem own_d3_16 : decode method_2_code 16 = .ok (.iconst 3, 1) := by decide +kernel
theorem own_d3_17 : decode method_2_code 17 = .ok (.ishr, 1) := by decide +kernel
theorem own_d3_18 : decode method_2_code 18 = .ok (.iconst 1, 1) := by decide +kernel
theorem own_d3_19 : decode method_2_code 19 = .ok (.iand, 1) := by decide +kernel
theorem own_d3_20 : decode method_2_code 20 = .ok (.iadd, 1) := by decide +kernel
theorem own_d3_21 : decode method_2_code 21 = .ok (.istore 5, 2) := by decide +kernel
theorem own_d3_23 : decode method_2_code 23 = .ok (.iload 5, 2) := by decide +kernel
theorem own_d3_25 : decode method_2_code 25 = .ok (.newarray .int, 2) := by decide +kernel
theorem own_d3_27 : decode method_2_code 27 = .ok (.astore 6, 2) := by decide +kernel
theorem own_d3_29 : decode method_2_code 29 = .ok (.iconst 0, 1) := by decide +kernel
theorem own_d3_30 : decode method_2_code 30 = .ok (.istore 7, 2) := by decide +kernel
theorem own_d3_32 : decode method_2_code 32 = .ok (.iload_n 0, 1) := by decide +kernel
theorem own_d3_33 : decode method_2_code 33 = .ok (.iconst 1, 1) := by decide +kernel
theorem own_d3_34 : decode method_2_code 34 = .ok (.iand, 1) := by decide +kernel
theorem own_d3_35 : decode method_2_code 35 = .ok (.ifCond .eq 15, 3) := by decide +kernel
theorem own_d3_38 : decode method_2_code 38 = .ok (.aload 6, 2) := by decide +kernel
theorem own_d3_40 : decode method_2_code 40 = .ok (.iload 7, 2) := by decide +kernel
theorem own_d3_42 : decode method_2_code 42 = .ok (.iload_n 1, 1) := by decide +kernel
theorem own_d3_43 : decode method_2_code 43 = .ok (.iastore, 1) := by decide +kernel
theorem own_d3_44 : decode method_2_code 44 = .ok (.iload 7, 2) := by decide +kernel
theorem own_d3_46 : decode method_2_code 46 = .ok (.iconst 1, 1) := by decide +kernel
theorem own_d3_47 : decode method_2_code 47 = .ok (.iadd, 1) := by decide +kernel
theorem own_d3_48 : decode method_2_code 48 = .ok (.istore 7, 2) := by decide +kernel
theorem own_d3_50 : decode method_2_code 50 = .ok (.iload_n 0, 1) := by decide +kernel
theorem own_d3_51 : decode method_2_code 51 = .ok (.iconst 2, 1) := by decide +kernel
theorem own_d3_52 : decode method_2_code 52 = .ok (.iand, 1) := by decide +kernel
theorem own_d3_53 : decode method_2_code 53 = .ok (.ifCond .eq 15, 3) := by decide +kernel
theorem own_d3_56 : decode method_2_code 56 = .ok (.aload 6, 2) := by decide +kernel
theorem own_d3_58 : decode method_2_code 58 = .ok (.iload 7, 2) := by decide +kernel
theorem own_d3_60 : decode method_2_code 60 = .ok (.iload_n 2, 1) := by decide +kernel
theorem own_d3_61 : decode method_2_code 61 = .ok (.iastore, 1) := by decide +kernel
theorem own_d3_62 : decode method_2_code 62 = .ok (.iload 7, 2) := by decide +kernel
theorem own_d3_64 : decode method_2_code 64 = .ok (.iconst 1, 1) := by decide +kernel
theorem own_d3_65 : decode method_2_code 65 = .ok (.iadd, 1) := by decide +kernel
theorem own_d3_66 : decode method_2_code 66 = .ok (.istore 7, 2) := by decide +kernel
theorem own_d3_68 : decode method_2_code 68 = .ok (.iload_n 0, 1) := by decide +kernel
theorem own_d3_69 : decode method_2_code 69 = .ok (.iconst 4, 1) := by decide +kernel
theorem own_d3_70 : decode method_2_code 70 = .ok (.iand, 1) := by decide +kernel
theorem own_d3_71 : decode method_2_code 71 = .ok (.ifCond .eq 15, 3) := by decide +kernel
theorem own_d3_74 : decode method_2_code 74 = .ok (.aload 6, 2) := by decide +kernel
theorem own_d3_76 : decode method_2_code 76 = .ok (.iload 7, 2) := by decide +kernel
theorem own_d3_78 : decode method_2_code 78 = .ok (.iload_n 3, 1) := by decide +kernel
theorem own_d3_79 : decode method_2_code 79 = .ok (.iastore, 1) := by decide +kernel
theorem own_d3_80 : decode method_2_code 80 = .ok (.iload 7, 2) := by decide +kernel
theorem own_d3_82 : decode method_2_code 82 = .ok (.iconst 1, 1) := by decide +kernel
theorem own_d3_83 : decode method_2_code 83 = .ok (.iadd, 1) := by decide +kernel
theorem own_d3_84 : decode method_2_code 84 = .ok (.istore 7, 2) := by decide +kernel
theorem own_d3_86 : decode method_2_code 86 = .ok (.iload_n 0, 1) := by decide +kernel
theorem own_d3_87 : decode method_2_code 87 = .ok (.bipush 8, 2) := by decide +kernel
theorem own_d3_89 : decode method_2_code 89 = .ok (.iand, 1) := by decide +kernel
theorem own_d3_90 : decode method_2_code 90 = .ok (.ifCond .eq 16, 3) := by decide +kernel
theorem own_d3_93 : decode method_2_code 93 = .ok (.aload 6, 2) := by decide +kernel
theorem own_d3_95 : decode method_2_code 95 = .ok (.iload 7, 2) := by decide +kernel
theorem own_d3_97 : decode method_2_code 97 = .ok (.iload 4, 2) := by decide +kernel
theorem own_d3_99 : decode method_2_code 99 = .ok (.iastore, 1) := by decide +kernel
theorem own_d3_100 : decode method_2_code 100 = .ok (.iload 7, 2) := by decide +kernel
theorem own_d3_102 : decode method_2_code 102 = .ok (.iconst 1, 1) := by decide +kernel
theorem own_d3_103 : decode method_2_code 103 = .ok (.iadd, 1) := by decide +kernel
theorem own_d3_104 : decode method_2_code 104 = .ok (.istore 7, 2) := by decide +kernel
theorem own_d3_106 : decode method_2_code 106 = .ok (.aload 6, 2) := by decide +kernel
theorem own_d3_108 : decode method_2_code 108 = .ok (.areturn, 1) := by decide +kernel
theorem own_pn3 : plainName "com/example/vestigium/vestigium/semantics/SortedSetsContainsAllPinLaw" = true := by first | (simp [plainName, overriddenIn]; done) | decide +kernel
set_option maxRecDepth 65536 in
set_option maxHeartbeats 40000000 in
theorem own_sub0 (l : Launch) (Z : State) (a0 : Array Value) (hw : ∀ d ∈ tables_1, d.before a0 Z = true) (v0 v1 v2 v3 : Int32) (h0 : Heap) (n0 : Nat) (Z0 : n0 ≤ h0.size) :
    Con l Z (⟨"com/example/vestigium/vestigium/semantics/SortedSetsContainsAllPinLaw", "subset", "(IIIII)[I"⟩ : MethodName) method_2_code 8 (some (.array .int)) ({ frames := 0, cells := 1, slots := 4, locals := 0 } : Room) n0 h0 #[(.int (0 : Int32)), (.int v0), (.int v1), (.int v2), (.int v3)] (fun v h => ∃ b, v = some (.ref b) ∧ h0.size ≤ b ∧ Keep h0 h [] ∧ IV Z h b (own_subl (0 : Int32) v0 v1 v2 v3)) := by
  refine Con.intro (plainFor_of_name own_pn3) (Ls := #[.val (.int (0 : Int32)), .val (.int v0), .val (.int v1), .val (.int v2), .val (.int v3), .unset, .unset, .unset]) (fun m => by first | (simp [entryFrame, mkF, argsToLocals, Value.category]; done) | rfl) ?_
  intro p e s m below meth c s₁ hx hby hml hown hnm hret hlk hZ S0
  have A0 := S0.here
  have K1 := Keep.refl h0 []
  refine k_iloadN A0 hx (hb hby own_d3_0) rfl (pc' := 1) rfl ?_
  refine k_iconst A0 hx (hb hby own_d3_1) (v := 1) rfl (pc' := 2) rfl ?_
  refine k_iand A0 hx (hb hby own_d3_2) (pc' := 3) rfl ?_
  refine k_iloadN A0 hx (hb hby own_d3_3) rfl (pc' := 4) rfl ?_
  refine k_iconst A0 hx (hb hby own_d3_4) (v := 1) rfl (pc' := 5) rfl ?_
  refine k_ishr A0 hx (hb hby own_d3_5) (pc' := 6) rfl ?_
  refine k_iconst A0 hx (hb hby own_d3_6) (v := 1) rfl (pc' := 7) rfl ?_
  refine k_iand A0 hx (hb hby own_d3_7) (pc' := 8) rfl ?_
  refine k_iadd A0 hx (hb hby own_d3_8) (pc' := 9) rfl ?_
  refine k_iloadN A0 hx (hb hby own_d3_9) rfl (pc' := 10) rfl ?_
  refine k_iconst A0 hx (hb hby own_d3_10) (v := 2) rfl (pc' := 11) rfl ?_
  refine k_ishr A0 hx (hb hby own_d3_11) (pc' := 12) rfl ?_
  refine k_iconst A0 hx (hb hby own_d3_12) (v := 1) rfl (pc' := 13) rfl ?_
  refine k_iand A0 hx (hb hby own_d3_13) (pc' := 14) rfl ?_
  refine k_iadd A0 hx (hb hby own_d3_14) (pc' := 15) rfl ?_
  refine k_iloadN A0 hx (hb hby own_d3_15) rfl (pc' := 16) rfl ?_
  refine k_iconst A0 hx (hb hby own_d3_16) (v := 3) rfl (pc' := 17) rfl ?_
  refine k_ishr A0 hx (hb hby own_d3_17) (pc' := 18) rfl ?_
  refine k_iconst A0 hx (hb hby own_d3_18) (v := 1) rfl (pc' := 19) rfl ?_
  refine k_iand A0 hx (hb hby own_d3_19) (pc' := 20) rfl ?_
  refine k_iadd A0 hx (hb hby own_d3_20) (pc' := 21) rfl ?_
  rw [show (((((0 : Int32) &&& (1 : Int32)) + (((0 : Int32) >>> ((1 : Int32) &&& 31)) &&& (1 : Int32))) + (((0 : Int32) >>> ((2 : Int32) &&& 31)) &&& (1 : Int32))) + (((0 : Int32) >>> ((3 : Int32) &&& 31)) &&& (1 : Int32))) = (0 : Int32) from by decide]
  refine k_istore A0 hx (hb hby own_d3_21) (Ls' := #[.val (.int (0 : Int32)), .val (.int v0), .val (.int v1), .val (.int v2), .val (.int v3), .val (.int (0 : Int32)), .unset, .unset]) rfl (pc' := 23) rfl ?_
  refine k_iload A0 hx (hb hby own_d3_23) rfl (pc' := 25) rfl ?_
  refine k_newint S0 hx hZ (hw _ (List.mem_of_getElem? (i := 11) rfl)) (hb hby own_d3_25) (by decide) 0 (by decide) (by decide) (by decide) (by decide) (pc' := 27) rfl ?_
  intro T2 h2 b2 g2 E2 V2 S2
  have bo3 : h0.size ≤ b2 := Nat.le_trans K1.1 (Nat.le_of_eq g2.symm)
  have ge3 : n0 ≤ b2 := Nat.le_trans Z0 bo3
  have A2 := S2.here
  have K4 := K1.ext E2
  have V2 : IV Z h2 b2 [] := V2
  refine k_astore A2 hx (hb hby own_d3_27) rfl (Ls' := #[.val (.int (0 : Int32)), .val (.int v0), .val (.int v1), .val (.int v2), .val (.int v3), .val (.int (0 : Int32)), .val (.ref b2), .unset]) rfl (pc' := 29) rfl ?_
  refine k_iconst A2 hx (hb hby own_d3_29) (v := 0) rfl (pc' := 30) rfl ?_
  refine k_istore A2 hx (hb hby own_d3_30) (Ls' := #[.val (.int (0 : Int32)), .val (.int v0), .val (.int v1), .val (.int v2), .val (.int v3), .val (.int (0 : Int32)), .val (.ref b2), .val (.int (0 : Int32))]) rfl (pc' := 32) rfl ?_
  refine k_iloadN A2 hx (hb hby own_d3_32) rfl (pc' := 33) rfl ?_
  refine k_iconst A2 hx (hb hby own_d3_33) (v := 1) rfl (pc' := 34) rfl ?_
  refine k_iand A2 hx (hb hby own_d3_34) (pc' := 35) rfl ?_
  refine k_if_eq A2 hx (hb hby own_d3_35) (pcY := 50) (by decide) (pc' := 38) rfl (fun hc35 => ?_) (fun hc35 => absurd (by decide) hc35)
  refine k_iloadN A2 hx (hb hby own_d3_50) rfl (pc' := 51) rfl ?_
  refine k_iconst A2 hx (hb hby own_d3_51) (v := 2) rfl (pc' := 52) rfl ?_
  refine k_iand A2 hx (hb hby own_d3_52) (pc' := 53) rfl ?_
  refine k_if_eq A2 hx (hb hby own_d3_53) (pcY := 68) (by decide) (pc' := 56) rfl (fun hc53 => ?_) (fun hc53 => absurd (by decide) hc53)
  refine k_iloadN A2 hx (hb hby own_d3_68) rfl (pc' := 69) rfl ?_
  refine k_iconst A2 hx (hb hby own_d3_69) (v := 4) rfl (pc' := 70) rfl ?_
  refine k_iand A2 hx (hb hby own_d3_70) (pc' := 71) rfl ?_
  refine k_if_eq A2 hx (hb hby own_d3_71) (pcY := 86) (by decide) (pc' := 74) rfl (fun hc71 => ?_) (fun hc71 => absurd (by decide) hc71)
  refine k_iloadN A2 hx (hb hby own_d3_86) rfl (pc' := 87) rfl ?_
  refine k_bipush A2 hx (hb hby own_d3_87) (v := 8) rfl (pc' := 89) rfl ?_
  refine k_iand A2 hx (hb hby own_d3_89) (pc' := 90) rfl ?_
  refine k_if_eq A2 hx (hb hby own_d3_90) (pcY := 106) (by decide) (pc' := 93) rfl (fun hc90 => ?_) (fun hc90 => absurd (by decide) hc90)
  refine k_aload A2 hx (hb hby own_d3_106) rfl rfl (pc' := 108) rfl ?_
  refine k_ret_ref S2 hx hret rfl hlk (hb hby own_d3_108) (by decide) (by decide) ?_
  exact ⟨b2, rfl, bo3, K4, V2⟩
set_option maxRecDepth 65536 in
set_option maxHeartbeats 40000000 in
theorem own_sub1 (l : Launch) (Z : State) (a0 : Array Value) (hw : ∀ d ∈ tables_1, d.before a0 Z = true) (v0 v1 v2 v3 : Int32) (h0 : Heap) (n0 : Nat) (Z0 : n0 ≤ h0.size) :
    Con l Z (⟨"com/example/vestigium/vestigium/semantics/SortedSetsContainsAllPinLaw", "subset", "(IIIII)[I"⟩ : MethodName) method_2_code 8 (some (.array .int)) ({ frames := 0, cells := 1, slots := 4, locals := 0 } : Room) n0 h0 #[(.int (1 : Int32)), (.int v0), (.int v1), (.int v2), (.int v3)] (fun v h => ∃ b, v = some (.ref b) ∧ h0.size ≤ b ∧ Keep h0 h [] ∧ IV Z h b (own_subl (1 : Int32) v0 v1 v2 v3)) := by
  refine Con.intro (plainFor_of_name own_pn3) (Ls := #[.val (.int (1 : Int32)), .val (.int v0), .val (.int v1), .val (.int v2), .val (.int v3), .unset, .unset, .unset]) (fun m => by first | (simp [entryFrame, mkF, argsToLocals, Value.category]; done) | rfl) ?_
  intro p e s m below meth c s₁ hx hby hml hown hnm hret hlk hZ S0
  have A0 := S0.here
  have K1 := Keep.refl h0 []
  refine k_iloadN A0 hx (hb hby own_d3_0) rfl (pc' := 1) rfl ?_
  refine k_iconst A0 hx (hb hby own_d3_1) (v := 1) rfl (pc' := 2) rfl ?_
  refine k_iand A0 hx (hb hby own_d3_2) (pc' := 3) rfl ?_
  refine k_iloadN A0 hx (hb hby own_d3_3) rfl (pc' := 4) rfl ?_
  refine k_iconst A0 hx (hb hby own_d3_4) (v := 1) rfl (pc' := 5) rfl ?_
  refine k_ishr A0 hx (hb hby own_d3_5) (pc' := 6) rfl ?_
  refine k_iconst A0 hx (hb hby own_d3_6) (v := 1) rfl (pc' := 7) rfl ?_
  refine k_iand A0 hx (hb hby own_d3_7) (pc' := 8) rfl ?_
  refine k_iadd A0 hx (hb hby own_d3_8) (pc' := 9) rfl ?_
  refine k_iloadN A0 hx (hb hby own_d3_9) rfl (pc' := 10) rfl ?_
  refine k_iconst A0 hx (hb hby own_d3_10) (v := 2) rfl (pc' := 11) rfl ?_
  refine k_ishr A0 hx (hb hby own_d3_11) (pc' := 12) rfl ?_
  refine k_iconst A0 hx (hb hby own_d3_12) (v := 1) rfl (pc' := 13) rfl ?_
  refine k_iand A0 hx (hb hby own_d3_13) (pc' := 14) rfl ?_
  refine k_iadd A0 hx (hb hby own_d3_14) (pc' := 15) rfl ?_
  refine k_iloadN A0 hx (hb hby own_d3_15) rfl (pc' := 16) rfl ?_
  refine k_iconst A0 hx (hb hby own_d3_16) (v := 3) rfl (pc' := 17) rfl ?_
  refine k_ishr A0 hx (hb hby own_d3_17) (pc' := 18) rfl ?_
  refine k_iconst A0 hx (hb hby own_d3_18) (v := 1) rfl (pc' := 19) rfl ?_
  refine k_iand A0 hx (hb hby own_d3_19) (pc' := 20) rfl ?_
  refine k_iadd A0 hx (hb hby own_d3_20) (pc' := 21) rfl ?_
  rw [show (((((1 : Int32) &&& (1 : Int32)) + (((1 : Int32) >>> ((1 : Int32) &&& 31)) &&& (1 : Int32))) + (((1 : Int32) >>> ((2 : Int32) &&& 31)) &&& (1 : Int32))) + (((1 : Int32) >>> ((3 : Int32) &&& 31)) &&& (1 : Int32))) = (1 : Int32) from by decide]
  refine k_istore A0 hx (hb hby own_d3_21) (Ls' := #[.val (.int (1 : Int32)), .val (.int v0), .val (.int v1), .val (.int v2), .val (.int v3), .val (.int (1 : Int32)), .unset, .unset]) rfl (pc' := 23) rfl ?_
  refine k_iload A0 hx (hb hby own_d3_23) rfl (pc' := 25) rfl ?_
  refine k_newint S0 hx hZ (hw _ (List.mem_of_getElem? (i := 11) rfl)) (hb hby own_d3_25) (by decide) 1 (by decide) (by decide) (by decide) (by decide) (pc' := 27) rfl ?_
  intro T2 h2 b2 g2 E2 V2 S2
  have bo3 : h0.size ≤ b2 := Nat.le_trans K1.1 (Nat.le_of_eq g2.symm)
  have ge3 : n0 ≤ b2 := Nat.le_trans Z0 bo3
  have A2 := S2.here
  have K4 := K1.ext E2
  have V2 : IV Z h2 b2 [(0 : Int32)] := V2
  refine k_astore A2 hx (hb hby own_d3_27) rfl (Ls' := #[.val (.int (1 : Int32)), .val (.int v0), .val (.int v1), .val (.int v2), .val (.int v3), .val (.int (1 : Int32)), .val (.ref b2), .unset]) rfl (pc' := 29) rfl ?_
  refine k_iconst A2 hx (hb hby own_d3_29) (v := 0) rfl (pc' := 30) rfl ?_
  refine k_istore A2 hx (hb hby own_d3_30) (Ls' := #[.val (.int (1 : Int32)), .val (.int v0), .val (.int v1), .val (.int v2), .val (.int v3), .val (.int (1 : Int32)), .val (.ref b2), .val (.int (0 : Int32))]) rfl (pc' := 32) rfl ?_
  refine k_iloadN A2 hx (hb hby own_d3_32) rfl (pc' := 33) rfl ?_
  refine k_iconst A2 hx (hb hby own_d3_33) (v := 1) rfl (pc' := 34) rfl ?_
  refine k_iand A2 hx (hb hby own_d3_34) (pc' := 35) rfl ?_
  refine k_if_eq A2 hx (hb hby own_d3_35) (pcY := 50) (by decide) (pc' := 38) rfl (fun hc35 => absurd hc35 (by decide)) (fun hc35 => ?_)
  refine k_aload A2 hx (hb hby own_d3_38) rfl rfl (pc' := 40) rfl ?_
  refine k_iload A2 hx (hb hby own_d3_40) rfl (pc' := 42) rfl ?_
  refine k_iloadN A2 hx (hb hby own_d3_42) rfl (pc' := 43) rfl ?_
  refine k_iastore S2 hx hZ V2 (hb hby own_d3_43) (by decide) (by first | decide | (simp; done)) ge3 (pc' := 44) rfl ?_
  intro T5 h5 W5 V5 S5
  have A5 := S5.here
  have K7 := K4.wr W5 (Or.inr bo3)
  have V5 : IV Z h5 b2 [v0] := V5
  refine k_iload A5 hx (hb hby own_d3_44) rfl (pc' := 46) rfl ?_
  refine k_iconst A5 hx (hb hby own_d3_46) (v := 1) rfl (pc' := 47) rfl ?_
  refine k_iadd A5 hx (hb hby own_d3_47) (pc' := 48) rfl ?_
  rw [show ((0 : Int32) + (1 : Int32)) = (1 : Int32) from by decide]
  refine k_istore A5 hx (hb hby own_d3_48) (Ls' := #[.val (.int (1 : Int32)), .val (.int v0), .val (.int v1), .val (.int v2), .val (.int v3), .val (.int (1 : Int32)), .val (.ref b2), .val (.int (1 : Int32))]) rfl (pc' := 50) rfl ?_
  refine k_iloadN A5 hx (hb hby own_d3_50) rfl (pc' := 51) rfl ?_
  refine k_iconst A5 hx (hb hby own_d3_51) (v := 2) rfl (pc' := 52) rfl ?_
  refine k_iand A5 hx (hb hby own_d3_52) (pc' := 53) rfl ?_
  refine k_if_eq A5 hx (hb hby own_d3_53) (pcY := 68) (by decide) (pc' := 56) rfl (fun hc53 => ?_) (fun hc53 => absurd (by decide) hc53)
  refine k_iloadN A5 hx (hb hby own_d3_68) rfl (pc' := 69) rfl ?_
  refine k_iconst A5 hx (hb hby own_d3_69) (v := 4) rfl (pc' := 70) rfl ?_
  refine k_iand A5 hx (hb hby own_d3_70) (pc' := 71) rfl ?_
  refine k_if_eq A5 hx (hb hby own_d3_71) (pcY := 86) (by decide) (pc' := 74) rfl (fun hc71 => ?_) (fun hc71 => absurd (by decide) hc71)
  refine k_iloadN A5 hx (hb hby own_d3_86) rfl (pc' := 87) rfl ?_
  refine k_bipush A5 hx (hb hby own_d3_87) (v := 8) rfl (pc' := 89) rfl ?_
  refine k_iand A5 hx (hb hby own_d3_89) (pc' := 90) rfl ?_
  refine k_if_eq A5 hx (hb hby own_d3_90) (pcY := 106) (by decide) (pc' := 93) rfl (fun hc90 => ?_) (fun hc90 => absurd (by decide) hc90)
  refine k_aload A5 hx (hb hby own_d3_106) rfl rfl (pc' := 108) rfl ?_
  refine k_ret_ref S5 hx hret rfl hlk (hb hby own_d3_108) (by decide) (by decide) ?_
  exact ⟨b2, rfl, bo3, K7, V5⟩
set_option maxRecDepth 65536 in
set_option maxHeartbeats 40000000 in
theorem own_sub2 (l : Launch) (Z : State) (a0 : Array Value) (hw : ∀ d ∈ tables_1, d.before a0 Z = true) (v0 v1 v2 v3 : Int32) (h0 : Heap) (n0 : Nat) (Z0 : n0 ≤ h0.size) :
    Con l Z (⟨"com/example/vestigium/vestigium/semantics/SortedSetsContainsAllPinLaw", "subset", "(IIIII)[I"⟩ : MethodName) method_2_code 8 (some (.array .int)) ({ frames := 0, cells := 1, slots := 4, locals := 0 } : Room) n0 h0 #[(.int (2 : Int32)), (.int v0), (.int v1), (.int v2), (.int v3)] (fun v h => ∃ b, v = some (.ref b) ∧ h0.size ≤ b ∧ Keep h0 h [] ∧ IV Z h b (own_subl (2 : Int32) v0 v1 v2 v3)) := by
  refine Con.intro (plainFor_of_name own_pn3) (Ls := #[.val (.int (2 : Int32)), .val (.int v0), .val (.int v1), .val (.int v2), .val (.int v3), .unset, .unset, .unset]) (fun m => by first | (simp [entryFrame, mkF, argsToLocals, Value.category]; done) | rfl) ?_
  intro p e s m below meth c s₁ hx hby hml hown hnm hret hlk hZ S0
  have A0 := S0.here
  have K1 := Keep.refl h0 []
  refine k_iloadN A0 hx (hb hby own_d3_0) rfl (pc' := 1) rfl ?_
  refine k_iconst A0 hx (hb hby own_d3_1) (v := 1) rfl (pc' := 2) rfl ?_
  refine k_iand A0 hx (hb hby own_d3_2) (pc' := 3) rfl ?_
  refine k_iloadN A0 hx (hb hby own_d3_3) rfl (pc' := 4) rfl ?_
  refine k_iconst A0 hx (hb hby own_d3_4) (v := 1) rfl (pc' := 5) rfl ?_
  refine k_ishr A0 hx (hb hby own_d3_5) (pc' := 6) rfl ?_
  refine k_iconst A0 hx (hb hby own_d3_6) (v := 1) rfl (pc' := 7) rfl ?_
  refine k_iand A0 hx (hb hby own_d3_7) (pc' := 8) rfl ?_
  refine k_iadd A0 hx (hb hby own_d3_8) (pc' := 9) rfl ?_
  refine k_iloadN A0 hx (hb hby own_d3_9) rfl (pc' := 10) rfl ?_
  refine k_iconst A0 hx (hb hby own_d3_10) (v := 2) rfl (pc' := 11) rfl ?_
  refine k_ishr A0 hx (hb hby own_d3_11) (pc' := 12) rfl ?_
  refine k_iconst A0 hx (hb hby own_d3_12) (v := 1) rfl (pc' := 13) rfl ?_
  refine k_iand A0 hx (hb hby own_d3_13) (pc' := 14) rfl ?_
  refine k_iadd A0 hx (hb hby own_d3_14) (pc' := 15) rfl ?_
  refine k_iloadN A0 hx (hb hby own_d3_15) rfl (pc' := 16) rfl ?_
  refine k_iconst A0 hx (hb hby own_d3_16) (v := 3) rfl (pc' := 17) rfl ?_
  refine k_ishr A0 hx (hb hby own_d3_17) (pc' := 18) rfl ?_
  refine k_iconst A0 hx (hb hby own_d3_18) (v := 1) rfl (pc' := 19) rfl ?_
  refine k_iand A0 hx (hb hby own_d3_19) (pc' := 20) rfl ?_
  refine k_iadd A0 hx (hb hby own_d3_20) (pc' := 21) rfl ?_
  rw [show (((((2 : Int32) &&& (1 : Int32)) + (((2 : Int32) >>> ((1 : Int32) &&& 31)) &&& (1 : Int32))) + (((2 : Int32) >>> ((2 : Int32) &&& 31)) &&& (1 : Int32))) + (((2 : Int32) >>> ((3 : Int32) &&& 31)) &&& (1 : Int32))) = (1 : Int32) from by decide]
  refine k_istore A0 hx (hb hby own_d3_21) (Ls' := #[.val (.int (2 : Int32)), .val (.int v0), .val (.int v1), .val (.int v2), .val (.int v3), .val (.int (1 : Int32)), .unset, .unset]) rfl (pc' := 23) rfl ?_
  refine k_iload A0 hx (hb hby own_d3_23) rfl (pc' := 25) rfl ?_
  refine k_newint S0 hx hZ (hw _ (List.mem_of_getElem? (i := 11) rfl)) (hb hby own_d3_25) (by decide) 1 (by decide) (by decide) (by decide) (by decide) (pc' := 27) rfl ?_
  intro T2 h2 b2 g2 E2 V2 S2
  have bo3 : h0.size ≤ b2 := Nat.le_trans K1.1 (Nat.le_of_eq g2.symm)
  have ge3 : n0 ≤ b2 := Nat.le_trans Z0 bo3
  have A2 := S2.here
  have K4 := K1.ext E2
  have V2 : IV Z h2 b2 [(0 : Int32)] := V2
  refine k_astore A2 hx (hb hby own_d3_27) rfl (Ls' := #[.val (.int (2 : Int32)), .val (.int v0), .val (.int v1), .val (.int v2), .val (.int v3), .val (.int (1 : Int32)), .val (.ref b2), .unset]) rfl (pc' := 29) rfl ?_
  refine k_iconst A2 hx (hb hby own_d3_29) (v := 0) rfl (pc' := 30) rfl ?_
  refine k_istore A2 hx (hb hby own_d3_30) (Ls' := #[.val (.int (2 : Int32)), .val (.int v0), .val (.int v1), .val (.int v2), .val (.int v3), .val (.int (1 : Int32)), .val (.ref b2), .val (.int (0 : Int32))]) rfl (pc' := 32) rfl ?_
  refine k_iloadN A2 hx (hb hby own_d3_32) rfl (pc' := 33) rfl ?_
  refine k_iconst A2 hx (hb hby own_d3_33) (v := 1) rfl (pc' := 34) rfl ?_
  refine k_iand A2 hx (hb hby own_d3_34) (pc' := 35) rfl ?_
  refine k_if_eq A2 hx (hb hby own_d3_35) (pcY := 50) (by decide) (pc' := 38) rfl (fun hc35 => ?_) (fun hc35 => absurd (by decide) hc35)
  refine k_iloadN A2 hx (hb hby own_d3_50) rfl (pc' := 51) rfl ?_
  refine k_iconst A2 hx (hb hby own_d3_51) (v := 2) rfl (pc' := 52) rfl ?_
  refine k_iand A2 hx (hb hby own_d3_52) (pc' := 53) rfl ?_
  refine k_if_eq A2 hx (hb hby own_d3_53) (pcY := 68) (by decide) (pc' := 56) rfl (fun hc53 => absurd hc53 (by decide)) (fun hc53 => ?_)
  refine k_aload A2 hx (hb hby own_d3_56) rfl rfl (pc' := 58) rfl ?_
  refine k_iload A2 hx (hb hby own_d3_58) rfl (pc' := 60) rfl ?_
  refine k_iloadN A2 hx (hb hby own_d3_60) rfl (pc' := 61) rfl ?_
  refine k_iastore S2 hx hZ V2 (hb hby own_d3_61) (by decide) (by first | decide | (simp; done)) ge3 (pc' := 62) rfl ?_
  intro T5 h5 W5 V5 S5
  have A5 := S5.here
  have K7 := K4.wr W5 (Or.inr bo3)
  have V5 : IV Z h5 b2 [v1] := V5
  refine k_iload A5 hx (hb hby own_d3_62) rfl (pc' := 64) rfl ?_
  refine k_iconst A5 hx (hb hby own_d3_64) (v := 1) rfl (pc' := 65) rfl ?_
  refine k_iadd A5 hx (hb hby own_d3_65) (pc' := 66) rfl ?_
  rw [show ((0 : Int32) + (1 : Int32)) = (1 : Int32) from by decide]
  refine k_istore A5 hx (hb hby own_d3_66) (Ls' := #[.val (.int (2 : Int32)), .val (.int v0), .val (.int v1), .val (.int v2), .val (.int v3), .val (.int (1 : Int32)), .val (.ref b2), .val (.int (1 : Int32))]) rfl (pc' := 68) rfl ?_
  refine k_iloadN A5 hx (hb hby own_d3_68) rfl (pc' := 69) rfl ?_
  refine k_iconst A5 hx (hb hby own_d3_69) (v := 4) rfl (pc' := 70) rfl ?_
  refine k_iand A5 hx (hb hby own_d3_70) (pc' := 71) rfl ?_
  refine k_if_eq A5 hx (hb hby own_d3_71) (pcY := 86) (by decide) (pc' := 74) rfl (fun hc71 => ?_) (fun hc71 => absurd (by decide) hc71)
  refine k_iloadN A5 hx (hb hby own_d3_86) rfl (pc' := 87) rfl ?_
  refine k_bipush A5 hx (hb hby own_d3_87) (v := 8) rfl (pc' := 89) rfl ?_
  refine k_iand A5 hx (hb hby own_d3_89) (pc' := 90) rfl ?_
  refine k_if_eq A5 hx (hb hby own_d3_90) (pcY := 106) (by decide) (pc' := 93) rfl (fun hc90 => ?_) (fun hc90 => absurd (by decide) hc90)
  refine k_aload A5 hx (hb hby own_d3_106) rfl rfl (pc' := 108) rfl ?_
  refine k_ret_ref S5 hx hret rfl hlk (hb hby own_d3_108) (by decide) (by decide) ?_
  exact ⟨b2, rfl, bo3, K7, V5⟩
set_option maxRecDepth 65536 in
set_option maxHeartbeats 40000000 in
theorem own_sub3 (l : Launch) (Z : State) (a0 : Array Value) (hw : ∀ d ∈ tables_1, d.before a0 Z = true) (v0 v1 v2 v3 : Int32) (h0 : Heap) (n0 : Nat) (Z0 : n0 ≤ h0.size) :
    Con l Z (⟨"com/example/vestigium/vestigium/semantics/SortedSetsContainsAllPinLaw", "subset", "(IIIII)[I"⟩ : MethodName) method_2_code 8 (some (.array .int)) ({ frames := 0, cells := 1, slots := 4, locals := 0 } : Room) n0 h0 #[(.int (3 : Int32)), (.int v0), (.int v1), (.int v2), (.int v3)] (fun v h => ∃ b, v = some (.ref b) ∧ h0.size ≤ b ∧ Keep h0 h [] ∧ IV Z h b (own_subl (3 : Int32) v0 v1 v2 v3)) := by
  refine Con.intro (plainFor_of_name own_pn3) (Ls := #[.val (.int (3 : Int32)), .val (.int v0), .val (.int v1), .val (.int v2), .val (.int v3), .unset, .unset, .unset]) (fun m => by first | (simp [entryFrame, mkF, argsToLocals, Value.category]; done) | rfl) ?_
  intro p e s m below meth c s₁ hx hby hml hown hnm hret hlk hZ S0
  have A0 := S0.here
  have K1 := Keep.refl h0 []
  refine k_iloadN A0 hx (hb hby own_d3_0) rfl (pc' := 1) rfl ?_
  refine k_iconst A0 hx (hb hby own_d3_1) (v := 1) rfl (pc' := 2) rfl ?_
  refine k_iand A0 hx (hb hby own_d3_2) (pc' := 3) rfl ?_
  refine k_iloadN A0 hx (hb hby own_d3_3) rfl (pc' := 4) rfl ?_
  refine k_iconst A0 hx (hb hby own_d3_4) (v := 1) rfl (pc' := 5) rfl ?_
  refine k_ishr A0 hx (hb hby own_d3_5) (pc' := 6) rfl ?_
  refine k_iconst A0 hx (hb hby own_d3_6) (v := 1) rfl (pc' := 7) rfl ?_
  refine k_iand A0 hx (hb hby own_d3_7) (pc' := 8) rfl ?_
  refine k_iadd A0 hx (hb hby own_d3_8) (pc' := 9) rfl ?_
  refine k_iloadN A0 hx (hb hby own_d3_9) rfl (pc' := 10) rfl ?_
  refine k_iconst A0 hx (hb hby own_d3_10) (v := 2) rfl (pc' := 11) rfl ?_
  refine k_ishr A0 hx (hb hby own_d3_11) (pc' := 12) rfl ?_
  refine k_iconst A0 hx (hb hby own_d3_12) (v := 1) rfl (pc' := 13) rfl ?_
  refine k_iand A0 hx (hb hby own_d3_13) (pc' := 14) rfl ?_
  refine k_iadd A0 hx (hb hby own_d3_14) (pc' := 15) rfl ?_
  refine k_iloadN A0 hx (hb hby own_d3_15) rfl (pc' := 16) rfl ?_
  refine k_iconst A0 hx (hb hby own_d3_16) (v := 3) rfl (pc' := 17) rfl ?_
  refine k_ishr A0 hx (hb hby own_d3_17) (pc' := 18) rfl ?_
  refine k_iconst A0 hx (hb hby own_d3_18) (v := 1) rfl (pc' := 19) rfl ?_
  refine k_iand A0 hx (hb hby own_d3_19) (pc' := 20) rfl ?_
  refine k_iadd A0 hx (hb hby own_d3_20) (pc' := 21) rfl ?_
  rw [show (((((3 : Int32) &&& (1 : Int32)) + (((3 : Int32) >>> ((1 : Int32) &&& 31)) &&& (1 : Int32))) + (((3 : Int32) >>> ((2 : Int32) &&& 31)) &&& (1 : Int32))) + (((3 : Int32) >>> ((3 : Int32) &&& 31)) &&& (1 : Int32))) = (2 : Int32) from by decide]
  refine k_istore A0 hx (hb hby own_d3_21) (Ls' := #[.val (.int (3 : Int32)), .val (.int v0), .val (.int v1), .val (.int v2), .val (.int v3), .val (.int (2 : Int32)), .unset, .unset]) rfl (pc' := 23) rfl ?_
  refine k_iload A0 hx (hb hby own_d3_23) rfl (pc' := 25) rfl ?_
  refine k_newint S0 hx hZ (hw _ (List.mem_of_getElem? (i := 11) rfl)) (hb hby own_d3_25) (by decide) 2 (by decide) (by decide) (by decide) (by decide) (pc' := 27) rfl ?_
  intro T2 h2 b2 g2 E2 V2 S2
  have bo3 : h0.size ≤ b2 := Nat.le_trans K1.1 (Nat.le_of_eq g2.symm)
  have ge3 : n0 ≤ b2 := Nat.le_trans Z0 bo3
  have A2 := S2.here
  have K4 := K1.ext E2
  have V2 : IV Z h2 b2 [(0 : Int32), (0 : Int32)] := V2
  refine k_astore A2 hx (hb hby own_d3_27) rfl (Ls' := #[.val (.int (3 : Int32)), .val (.int v0), .val (.int v1), .val (.int v2), .val (.int v3), .val (.int (2 : Int32)), .val (.ref b2), .unset]) rfl (pc' := 29) rfl ?_
  refine k_iconst A2 hx (hb hby own_d3_29) (v := 0) rfl (pc' := 30) rfl ?_
  refine k_istore A2 hx (hb hby own_d3_30) (Ls' := #[.val (.int (3 : Int32)), .val (.int v0), .val (.int v1), .val (.int v2), .val (.int v3), .val (.int (2 : Int32)), .val (.ref b2), .val (.int (0 : Int32))]) rfl (pc' := 32) rfl ?_
  refine k_iloadN A2 hx (hb hby own_d3_32) rfl (pc' := 33) rfl ?_
  refine k_iconst A2 hx (hb hby own_d3_33) (v := 1) rfl (pc' := 34) rfl ?_
  refine k_iand A2 hx (hb hby own_d3_34) (pc' := 35) rfl ?_
  refine k_if_eq A2 hx (hb hby own_d3_35) (pcY := 50) (by decide) (pc' := 38) rfl (fun hc35 => absurd hc35 (by decide)) (fun hc35 => ?_)
  refine k_aload A2 hx (hb hby own_d3_38) rfl rfl (pc' := 40) rfl ?_
  refine k_iload A2 hx (hb hby own_d3_40) rfl (pc' := 42) rfl ?_
  refine k_iloadN A2 hx (hb hby own_d3_42) rfl (pc' := 43) rfl ?_
  refine k_iastore S2 hx hZ V2 (hb hby own_d3_43) (by decide) (by first | decide | (simp; done)) ge3 (pc' := 44) rfl ?_
  intro T5 h5 W5 V5 S5
  have A5 := S5.here
  have K7 := K4.wr W5 (Or.inr bo3)
  have V5 : IV Z h5 b2 [v0, (0 : Int32)] := V5
  refine k_iload A5 hx (hb hby own_d3_44) rfl (pc' := 46) rfl ?_
  refine k_iconst A5 hx (hb hby own_d3_46) (v := 1) rfl (pc' := 47) rfl ?_
  refine k_iadd A5 hx (hb hby own_d3_47) (pc' := 48) rfl ?_
  rw [show ((0 : Int32) + (1 : Int32)) = (1 : Int32) from by decide]
  refine k_istore A5 hx (hb hby own_d3_48) (Ls' := #[.val (.int (3 : Int32)), .val (.int v0), .val (.int v1), .val (.int v2), .val (.int v3), .val (.int (2 : Int32)), .val (.ref b2), .val (.int (1 : Int32))]) rfl (pc' := 50) rfl ?_
  refine k_iloadN A5 hx (hb hby own_d3_50) rfl (pc' := 51) rfl ?_
  refine k_iconst A5 hx (hb hby own_d3_51) (v := 2) rfl (pc' := 52) rfl ?_
  refine k_iand A5 hx (hb hby own_d3_52) (pc' := 53) rfl ?_
  refine k_if_eq A5 hx (hb hby own_d3_53) (pcY := 68) (by decide) (pc' := 56) rfl (fun hc53 => absurd hc53 (by decide)) (fun hc53 => ?_)
  refine k_aload A5 hx (hb hby own_d3_56) rfl rfl (pc' := 58) rfl ?_
  refine k_iload A5 hx (hb hby own_d3_58) rfl (pc' := 60) rfl ?_
  refine k_iloadN A5 hx (hb hby own_d3_60) rfl (pc' := 61) rfl ?_
  refine k_iastore S5 hx hZ V5 (hb hby own_d3_61) (by decide) (by first | decide | (simp; done)) ge3 (pc' := 62) rfl ?_
  intro T8 h8 W8 V8 S8
  have A8 := S8.here
  have K10 := K7.wr W8 (Or.inr bo3)
  have V8 : IV Z h8 b2 [v0, v1] := V8
  refine k_iload A8 hx (hb hby own_d3_62) rfl (pc' := 64) rfl ?_
  refine k_iconst A8 hx (hb hby own_d3_64) (v := 1) rfl (pc' := 65) rfl ?_
  refine k_iadd A8 hx (hb hby own_d3_65) (pc' := 66) rfl ?_
  rw [show ((1 : Int32) + (1 : Int32)) = (2 : Int32) from by decide]
  refine k_istore A8 hx (hb hby own_d3_66) (Ls' := #[.val (.int (3 : Int32)), .val (.int v0), .val (.int v1), .val (.int v2), .val (.int v3), .val (.int (2 : Int32)), .val (.ref b2), .val (.int (2 : Int32))]) rfl (pc' := 68) rfl ?_
  refine k_iloadN A8 hx (hb hby own_d3_68) rfl (pc' := 69) rfl ?_
  refine k_iconst A8 hx (hb hby own_d3_69) (v := 4) rfl (pc' := 70) rfl ?_
  refine k_iand A8 hx (hb hby own_d3_70) (pc' := 71) rfl ?_
  refine k_if_eq A8 hx (hb hby own_d3_71) (pcY := 86) (by decide) (pc' := 74) rfl (fun hc71 => ?_) (fun hc71 => absurd (by decide) hc71)
  refine k_iloadN A8 hx (hb hby own_d3_86) rfl (pc' := 87) rfl ?_
  refine k_bipush A8 hx (hb hby own_d3_87) (v := 8) rfl (pc' := 89) rfl ?_
  refine k_iand A8 hx (hb hby own_d3_89) (pc' := 90) rfl ?_
  refine k_if_eq A8 hx (hb hby own_d3_90) (pcY := 106) (by decide) (pc' := 93) rfl (fun hc90 => ?_) (fun hc90 => absurd (by decide) hc90)
  refine k_aload A8 hx (hb hby own_d3_106) rfl rfl (pc' := 108) rfl ?_
  refine k_ret_ref S8 hx hret rfl hlk (hb hby own_d3_108) (by decide) (by decide) ?_
  exact ⟨b2, rfl, bo3, K10, V8⟩
set_option maxRecDepth 65536 in
set_option maxHeartbeats 40000000 in
theorem own_sub4 (l : Launch) (Z : State) (a0 : Array Value) (hw : ∀ d ∈ tables_1, d.before a0 Z = true) (v0 v1 v2 v3 : Int32) (h0 : Heap) (n0 : Nat) (Z0 : n0 ≤ h0.size) :
    Con l Z (⟨"com/example/vestigium/vestigium/semantics/SortedSetsContainsAllPinLaw", "subset", "(IIIII)[I"⟩ : MethodName) method_2_code 8 (some (.array .int)) ({ frames := 0, cells := 1, slots := 4, locals := 0 } : Room) n0 h0 #[(.int (4 : Int32)), (.int v0), (.int v1), (.int v2), (.int v3)] (fun v h => ∃ b, v = some (.ref b) ∧ h0.size ≤ b ∧ Keep h0 h [] ∧ IV Z h b (own_subl (4 : Int32) v0 v1 v2 v3)) := by
  refine Con.intro (plainFor_of_name own_pn3) (Ls := #[.val (.int (4 : Int32)), .val (.int v0), .val (.int v1), .val (.int v2), .val (.int v3), .unset, .unset, .unset]) (fun m => by first | (simp [entryFrame, mkF, argsToLocals, Value.category]; done) | rfl) ?_
  intro p e s m below meth c s₁ hx hby hml hown hnm hret hlk hZ S0
  have A0 := S0.here
  have K1 := Keep.refl h0 []
  refine k_iloadN A0 hx (hb hby own_d3_0) rfl (pc' := 1) rfl ?_
  refine k_iconst A0 hx (hb hby own_d3_1) (v := 1) rfl (pc' := 2) rfl ?_
  refine k_iand A0 hx (hb hby own_d3_2) (pc' := 3) rfl ?_
  refine k_iloadN A0 hx (hb hby own_d3_3) rfl (pc' := 4) rfl ?_
  refine k_iconst A0 hx (hb hby own_d3_4) (v := 1) rfl (pc' := 5) rfl ?_
  refine k_ishr A0 hx (hb hby own_d3_5) (pc' := 6) rfl ?_
  refine k_iconst A0 hx (hb hby own_d3_6) (v := 1) rfl (pc' := 7) rfl ?_
  refine k_iand A0 hx (hb hby own_d3_7) (pc' := 8) rfl ?_
  refine k_iadd A0 hx (hb hby own_d3_8) (pc' := 9) rfl ?_
  refine k_iloadN A0 hx (hb hby own_d3_9) rfl (pc' := 10) rfl ?_
  refine k_iconst A0 hx (hb hby own_d3_10) (v := 2) rfl (pc' := 11) rfl ?_
  refine k_ishr A0 hx (hb hby own_d3_11) (pc' := 12) rfl ?_
  refine k_iconst A0 hx (hb hby own_d3_12) (v := 1) rfl (pc' := 13) rfl ?_
  refine k_iand A0 hx (hb hby own_d3_13) (pc' := 14) rfl ?_
  refine k_iadd A0 hx (hb hby own_d3_14) (pc' := 15) rfl ?_
  refine k_iloadN A0 hx (hb hby own_d3_15) rfl (pc' := 16) rfl ?_
  refine k_iconst A0 hx (hb hby own_d3_16) (v := 3) rfl (pc' := 17) rfl ?_
  refine k_ishr A0 hx (hb hby own_d3_17) (pc' := 18) rfl ?_
  refine k_iconst A0 hx (hb hby own_d3_18) (v := 1) rfl (pc' := 19) rfl ?_
  refine k_iand A0 hx (hb hby own_d3_19) (pc' := 20) rfl ?_
  refine k_iadd A0 hx (hb hby own_d3_20) (pc' := 21) rfl ?_
  rw [show (((((4 : Int32) &&& (1 : Int32)) + (((4 : Int32) >>> ((1 : Int32) &&& 31)) &&& (1 : Int32))) + (((4 : Int32) >>> ((2 : Int32) &&& 31)) &&& (1 : Int32))) + (((4 : Int32) >>> ((3 : Int32) &&& 31)) &&& (1 : Int32))) = (1 : Int32) from by decide]
  refine k_istore A0 hx (hb hby own_d3_21) (Ls' := #[.val (.int (4 : Int32)), .val (.int v0), .val (.int v1), .val (.int v2), .val (.int v3), .val (.int (1 : Int32)), .unset, .unset]) rfl (pc' := 23) rfl ?_
  refine k_iload A0 hx (hb hby own_d3_23) rfl (pc' := 25) rfl ?_
  refine k_newint S0 hx hZ (hw _ (List.mem_of_getElem? (i := 11) rfl)) (hb hby own_d3_25) (by decide) 1 (by decide) (by decide) (by decide) (by decide) (pc' := 27) rfl ?_
  intro T2 h2 b2 g2 E2 V2 S2
  have bo3 : h0.size ≤ b2 := Nat.le_trans K1.1 (Nat.le_of_eq g2.symm)
  have ge3 : n0 ≤ b2 := Nat.le_trans Z0 bo3
  have A2 := S2.here
  have K4 := K1.ext E2
  have V2 : IV Z h2 b2 [(0 : Int32)] := V2
  refine k_astore A2 hx (hb hby own_d3_27) rfl (Ls' := #[.val (.int (4 : Int32)), .val (.int v0), .val (.int v1), .val (.int v2), .val (.int v3), .val (.int (1 : Int32)), .val (.ref b2), .unset]) rfl (pc' := 29) rfl ?_
  refine k_iconst A2 hx (hb hby own_d3_29) (v := 0) rfl (pc' := 30) rfl ?_
  refine k_istore A2 hx (hb hby own_d3_30) (Ls' := #[.val (.int (4 : Int32)), .val (.int v0), .val (.int v1), .val (.int v2), .val (.int v3), .val (.int (1 : Int32)), .val (.ref b2), .val (.int (0 : Int32))]) rfl (pc' := 32) rfl ?_
  refine k_iloadN A2 hx (hb hby own_d3_32) rfl (pc' := 33) rfl ?_
  refine k_iconst A2 hx (hb hby own_d3_33) (v := 1) rfl (pc' := 34) rfl ?_
  refine k_iand A2 hx (hb hby own_d3_34) (pc' := 35) rfl ?_
  refine k_if_eq A2 hx (hb hby own_d3_35) (pcY := 50) (by decide) (pc' := 38) rfl (fun hc35 => ?_) (fun hc35 => absurd (by decide) hc35)
  refine k_iloadN A2 hx (hb hby own_d3_50) rfl (pc' := 51) rfl ?_
  refine k_iconst A2 hx (hb hby own_d3_51) (v := 2) rfl (pc' := 52) rfl ?_
  refine k_iand A2 hx (hb hby own_d3_52) (pc' := 53) rfl ?_
  refine k_if_eq A2 hx (hb hby own_d3_53) (pcY := 68) (by decide) (pc' := 56) rfl (fun hc53 => ?_) (fun hc53 => absurd (by decide) hc53)
  refine k_iloadN A2 hx (hb hby own_d3_68) rfl (pc' := 69) rfl ?_
  refine k_iconst A2 hx (hb hby own_d3_69) (v := 4) rfl (pc' := 70) rfl ?_
  refine k_iand A2 hx (hb hby own_d3_70) (pc' := 71) rfl ?_
  refine k_if_eq A2 hx (hb hby own_d3_71) (pcY := 86) (by decide) (pc' := 74) rfl (fun hc71 => absurd hc71 (by decide)) (fun hc71 => ?_)
  refine k_aload A2 hx (hb hby own_d3_74) rfl rfl (pc' := 76) rfl ?_
  refine k_iload A2 hx (hb hby own_d3_76) rfl (pc' := 78) rfl ?_
  refine k_iloadN A2 hx (hb hby own_d3_78) rfl (pc' := 79) rfl ?_
  refine k_iastore S2 hx hZ V2 (hb hby own_d3_79) (by decide) (by first | decide | (simp; done)) ge3 (pc' := 80) rfl ?_
  intro T5 h5 W5 V5 S5
  have A5 := S5.here
  have K7 := K4.wr W5 (Or.inr bo3)
  have V5 : IV Z h5 b2 [v2] := V5
  refine k_iload A5 hx (hb hby own_d3_80) rfl (pc' := 82) rfl ?_
  refine k_iconst A5 hx (hb hby own_d3_82) (v := 1) rfl (pc' := 83) rfl ?_
  refine k_iadd A5 hx (hb hby own_d3_83) (pc' := 84) rfl ?_
  rw [show ((0 : Int32) + (1 : Int32)) = (1 : Int32) from by decide]
  refine k_istore A5 hx (hb hby own_d3_84) (Ls' := #[.val (.int (4 : Int32)), .val (.int v0), .val (.int v1), .val (.int v2), .val (.int v3), .val (.int (1 : Int32)), .val (.ref b2), .val (.int (1 : Int32))]) rfl (pc' := 86) rfl ?_
  refine k_iloadN A5 hx (hb hby own_d3_86) rfl (pc' := 87) rfl ?_
  refine k_bipush A5 hx (hb hby own_d3_87) (v := 8) rfl (pc' := 89) rfl ?_
  refine k_iand A5 hx (hb hby own_d3_89) (pc' := 90) rfl ?_
  refine k_if_eq A5 hx (hb hby own_d3_90) (pcY := 106) (by decide) (pc' := 93) rfl (fun hc90 => ?_) (fun hc90 => absurd (by decide) hc90)
  refine k_aload A5 hx (hb hby own_d3_106) rfl rfl (pc' := 108) rfl ?_
  refine k_ret_ref S5 hx hret rfl hlk (hb hby own_d3_108) (by decide) (by decide) ?_
  exact ⟨b2, rfl, bo3, K7, V5⟩
set_option maxRecDepth 65536 in
set_option maxHeartbeats 40000000 in
theorem own_sub5 (l : Launch) (Z : State) (a0 : Array Value) (hw : ∀ d ∈ tables_1, d.before a0 Z = true) (v0 v1 v2 v3 : Int32) (h0 : Heap) (n0 : Nat) (Z0 : n0 ≤ h0.size) :
    Con l Z (⟨"com/example/vestigium/vestigium/semantics/SortedSetsContainsAllPinLaw", "subset", "(IIIII)[I"⟩ : MethodName) method_2_code 8 (some (.array .int)) ({ frames := 0, cells := 1, slots := 4, locals := 0 } : Room) n0 h0 #[(.int (5 : Int32)), (.int v0), (.int v1), (.int v2), (.int v3)] (fun v h => ∃ b, v = some (.ref b) ∧ h0.size ≤ b ∧ Keep h0 h [] ∧ IV Z h b (own_subl (5 : Int32) v0 v1 v2 v3)) := by
  refine Con.intro (plainFor_of_name own_pn3) (Ls := #[.val (.int (5 : Int32)), .val (.int v0), .val (.int v1), .val (.int v2), .val (.int v3), .unset, .unset, .unset]) (fun m => by first | (simp [entryFrame, mkF, argsToLocals, Value.category]; done) | rfl) ?_
  intro p e s m below meth c s₁ hx hby hml hown hnm hret hlk hZ S0
  have A0 := S0.here
  have K1 := Keep.refl h0 []
  refine k_iloadN A0 hx (hb hby own_d3_0) rfl (pc' := 1) rfl ?_
  refine k_iconst A0 hx (hb hby own_d3_1) (v := 1) rfl (pc' := 2) rfl ?_
  refine k_iand A0 hx (hb hby own_d3_2) (pc' := 3) rfl ?_
  refine k_iloadN A0 hx (hb hby own_d3_3) rfl (pc' := 4) rfl ?_
  refine k_iconst A0 hx (hb hby own_d3_4) (v := 1) rfl (pc' := 5) rfl ?_
  refine k_ishr A0 hx (hb hby own_d3_5) (pc' := 6) rfl ?_
  refine k_iconst A0 hx (hb hby own_d3_6) (v := 1) rfl (pc' := 7) rfl ?_
  refine k_iand A0 hx (hb hby own_d3_7) (pc' := 8) rfl ?_
  refine k_iadd A0 hx (hb hby own_d3_8) (pc' := 9) rfl ?_
  refine k_iloadN A0 hx (hb hby own_d3_9) rfl (pc' := 10) rfl ?_
  refine k_iconst A0 hx (hb hby own_d3_10) (v := 2) rfl (pc' := 11) rfl ?_
  refine k_ishr A0 hx (hb hby own_d3_11) (pc' := 12) rfl ?_
  refine k_iconst A0 hx (hb hby own_d3_12) (v := 1) rfl (pc' := 13) rfl ?_
  refine k_iand A0 hx (hb hby own_d3_13) (pc' := 14) rfl ?_
  refine k_iadd A0 hx (hb hby own_d3_14) (pc' := 15) rfl ?_
  refine k_iloadN A0 hx (hb hby own_d3_15) rfl (pc' := 16) rfl ?_
  refine k_iconst A0 hx (hb hby own_d3_16) (v := 3) rfl (pc' := 17) rfl ?_
  refine k_ishr A0 hx (hb hby own_d3_17) (pc' := 18) rfl ?_
  refine k_iconst A0 hx (hb hby own_d3_18) (v := 1) rfl (pc' := 19) rfl ?_
  refine k_iand A0 hx (hb hby own_d3_19) (pc' := 20) rfl ?_
  refine k_iadd A0 hx (hb hby own_d3_20) (pc' := 21) rfl ?_
  rw [show (((((5 : Int32) &&& (1 : Int32)) + (((5 : Int32) >>> ((1 : Int32) &&& 31)) &&& (1 : Int32))) + (((5 : Int32) >>> ((2 : Int32) &&& 31)) &&& (1 : Int32))) + (((5 : Int32) >>> ((3 : Int32) &&& 31)) &&& (1 : Int32))) = (2 : Int32) from by decide]
  refine k_istore A0 hx (hb hby own_d3_21) (Ls' := #[.val (.int (5 : Int32)), .val (.int v0), .val (.int v1), .val (.int v2), .val (.int v3), .val (.int (2 : Int32)), .unset, .unset]) rfl (pc' := 23) rfl ?_
  refine k_iload A0 hx (hb hby own_d3_23) rfl (pc' := 25) rfl ?_
  refine k_newint S0 hx hZ (hw _ (List.mem_of_getElem? (i := 11) rfl)) (hb hby own_d3_25) (by decide) 2 (by decide) (by decide) (by decide) (by decide) (pc' := 27) rfl ?_
  intro T2 h2 b2 g2 E2 V2 S2
  have bo3 : h0.size ≤ b2 := Nat.le_trans K1.1 (Nat.le_of_eq g2.symm)
  have ge3 : n0 ≤ b2 := Nat.le_trans Z0 bo3
  have A2 := S2.here
  have K4 := K1.ext E2
  have V2 : IV Z h2 b2 [(0 : Int32), (0 : Int32)] := V2
  refine k_astore A2 hx (hb hby own_d3_27) rfl (Ls' := #[.val (.int (5 : Int32)), .val (.int v0), .val (.int v1), .val (.int v2), .val (.int v3), .val (.int (2 : Int32)), .val (.ref b2), .unset]) rfl (pc' := 29) rfl ?_
  refine k_iconst A2 hx (hb hby own_d3_29) (v := 0) rfl (pc' := 30) rfl ?_
  refine k_istore A2 hx (hb hby own_d3_30) (Ls' := #[.val (.int (5 : Int32)), .val (.int v0), .val (.int v1), .val (.int v2), .val (.int v3), .val (.int (2 : Int32)), .val (.ref b2), .val (.int (0 : Int32))]) rfl (pc' := 32) rfl ?_
  refine k_iloadN A2 hx (hb hby own_d3_32) rfl (pc' := 33) rfl ?_
  refine k_iconst A2 hx (hb hby own_d3_33) (v := 1) rfl (pc' := 34) rfl ?_
  refine k_iand A2 hx (hb hby own_d3_34) (pc' := 35) rfl ?_
  refine k_if_eq A2 hx (hb hby own_d3_35) (pcY := 50) (by decide) (pc' := 38) rfl (fun hc35 => absurd hc35 (by decide)) (fun hc35 => ?_)
  refine k_aload A2 hx (hb hby own_d3_38) rfl rfl (pc' := 40) rfl ?_
  refine k_iload A2 hx (hb hby own_d3_40) rfl (pc' := 42) rfl ?_
  refine k_iloadN A2 hx (hb hby own_d3_42) rfl (pc' := 43) rfl ?_
  refine k_iastore S2 hx hZ V2 (hb hby own_d3_43) (by decide) (by first | decide | (simp; done)) ge3 (pc' := 44) rfl ?_
  intro T5 h5 W5 V5 S5
  have A5 := S5.here
  have K7 := K4.wr W5 (Or.inr bo3)
  have V5 : IV Z h5 b2 [v0, (0 : Int32)] := V5
  refine k_iload A5 hx (hb hby own_d3_44) rfl (pc' := 46) rfl ?_
  refine k_iconst A5 hx (hb hby own_d3_46) (v := 1) rfl (pc' := 47) rfl ?_
  refine k_iadd A5 hx (hb hby own_d3_47) (pc' := 48) rfl ?_
  rw [show ((0 : Int32) + (1 : Int32)) = (1 : Int32) from by decide]
  refine k_istore A5 hx (hb hby own_d3_48) (Ls' := #[.val (.int (5 : Int32)), .val (.int v0), .val (.int v1), .val (.int v2), .val (.int v3), .val (.int (2 : Int32)), .val (.ref b2), .val (.int (1 : Int32))]) rfl (pc' := 50) rfl ?_
  refine k_iloadN A5 hx (hb hby own_d3_50) rfl (pc' := 51) rfl ?_
  refine k_iconst A5 hx (hb hby own_d3_51) (v := 2) rfl (pc' := 52) rfl ?_
  refine k_iand A5 hx (hb hby own_d3_52) (pc' := 53) rfl ?_
  refine k_if_eq A5 hx (hb hby own_d3_53) (pcY := 68) (by decide) (pc' := 56) rfl (fun hc53 => ?_) (fun hc53 => absurd (by decide) hc53)
  refine k_iloadN A5 hx (hb hby own_d3_68) rfl (pc' := 69) rfl ?_
  refine k_iconst A5 hx (hb hby own_d3_69) (v := 4) rfl (pc' := 70) rfl ?_
  refine k_iand A5 hx (hb hby own_d3_70) (pc' := 71) rfl ?_
  refine k_if_eq A5 hx (hb hby own_d3_71) (pcY := 86) (by decide) (pc' := 74) rfl (fun hc71 => absurd hc71 (by decide)) (fun hc71 => ?_)
  refine k_aload A5 hx (hb hby own_d3_74) rfl rfl (pc' := 76) rfl ?_
  refine k_iload A5 hx (hb hby own_d3_76) rfl (pc' := 78) rfl ?_
  refine k_iloadN A5 hx (hb hby own_d3_78) rfl (pc' := 79) rfl ?_
  refine k_iastore S5 hx hZ V5 (hb hby own_d3_79) (by decide) (by first | decide | (simp; done)) ge3 (pc' := 80) rfl ?_
  intro T8 h8 W8 V8 S8
  have A8 := S8.here
  have K10 := K7.wr W8 (Or.inr bo3)
  have V8 : IV Z h8 b2 [v0, v2] := V8
  refine k_iload A8 hx (hb hby own_d3_80) rfl (pc' := 82) rfl ?_
  refine k_iconst A8 hx (hb hby own_d3_82) (v := 1) rfl (pc' := 83) rfl ?_
  refine k_iadd A8 hx (hb hby own_d3_83) (pc' := 84) rfl ?_
  rw [show ((1 : Int32) + (1 : Int32)) = (2 : Int32) from by decide]
  refine k_istore A8 hx (hb hby own_d3_84) (Ls' := #[.val (.int (5 : Int32)), .val (.int v0), .val (.int v1), .val (.int v2), .val (.int v3), .val (.int (2 : Int32)), .val (.ref b2), .val (.int (2 : Int32))]) rfl (pc' := 86) rfl ?_
  refine k_iloadN A8 hx (hb hby own_d3_86) rfl (pc' := 87) rfl ?_
  refine k_bipush A8 hx (hb hby own_d3_87) (v := 8) rfl (pc' := 89) rfl ?_
  refine k_iand A8 hx (hb hby own_d3_89) (pc' := 90) rfl ?_
  refine k_if_eq A8 hx (hb hby own_d3_90) (pcY := 106) (by decide) (pc' := 93) rfl (fun hc90 => ?_) (fun hc90 => absurd (by decide) hc90)
  refine k_aload A8 hx (hb hby own_d3_106) rfl rfl (pc' := 108) rfl ?_
  refine k_ret_ref S8 hx hret rfl hlk (hb hby own_d3_108) (by decide) (by decide) ?_
  exact ⟨b2, rfl, bo3, K10, V8⟩
set_option maxRecDepth 65536 in
set_option maxHeartbeats 40000000 in
theorem own_sub6 (l : Launch) (Z : State) (a0 : Array Value) (hw : ∀ d ∈ tables_1, d.before a0 Z = true) (v0 v1 v2 v3 : Int32) (h0 : Heap) (n0 : Nat) (Z0 : n0 ≤ h0.size) :
    Con l Z (⟨"com/example/vestigium/vestigium/semantics/SortedSetsContainsAllPinLaw", "subset", "(IIIII)[I"⟩ : MethodName) method_2_code 8 (some (.array .int)) ({ frames := 0, cells := 1, slots := 4, locals := 0 } : Room) n0 h0 #[(.int (6 : Int32)), (.int v0), (.int v1), (.int v2), (.int v3)] (fun v h => ∃ b, v = some (.ref b) ∧ h0.size ≤ b ∧ Keep h0 h [] ∧ IV Z h b (own_subl (6 : Int32) v0 v1 v2 v3)) := by
  refine Con.intro (plainFor_of_name own_pn3) (Ls := #[.val (.int (6 : Int32)), .val (.int v0), .val (.int v1), .val (.int v2), .val (.int v3), .unset, .unset, .unset]) (fun m => by first | (simp [entryFrame, mkF, argsToLocals, Value.category]; done) | rfl) ?_
  intro p e s m below meth c s₁ hx hby hml hown hnm hret hlk hZ S0
  have A0 := S0.here
  have K1 := Keep.refl h0 []
  refine k_iloadN A0 hx (hb hby own_d3_0) rfl (pc' := 1) rfl ?_
  refine k_iconst A0 hx (hb hby own_d3_1) (v := 1) rfl (pc' := 2) rfl ?_
  refine k_iand A0 hx (hb hby own_d3_2) (pc' := 3) rfl ?_
  refine k_iloadN A0 hx (hb hby own_d3_3) rfl (pc' := 4) rfl ?_
  refine k_iconst A0 hx (hb hby own_d3_4) (v := 1) rfl (pc' := 5) rfl ?_
  refine k_ishr A0 hx (hb hby own_d3_5) (pc' := 6) rfl ?_
  refine k_iconst A0 hx (hb hby own_d3_6) (v := 1) rfl (pc' := 7) rfl ?_
  refine k_iand A0 hx (hb hby own_d3_7) (pc' := 8) rfl ?_
  refine k_iadd A0 hx (hb hby own_d3_8) (pc' := 9) rfl ?_
  refine k_iloadN A0 hx (hb hby own_d3_9) rfl (pc' := 10) rfl ?_
  refine k_iconst A0 hx (hb hby own_d3_10) (v := 2) rfl (pc' := 11) rfl ?_
  refine k_ishr A0 hx (hb hby own_d3_11) (pc' := 12) rfl ?_
  refine k_iconst A0 hx (hb hby own_d3_12) (v := 1) rfl (pc' := 13) rfl ?_
  refine k_iand A0 hx (hb hby own_d3_13) (pc' := 14) rfl ?_
  refine k_iadd A0 hx (hb hby own_d3_14) (pc' := 15) rfl ?_
  refine k_iloadN A0 hx (hb hby own_d3_15) rfl (pc' := 16) rfl ?_
  refine k_iconst A0 hx (hb hby own_d3_16) (v := 3) rfl (pc' := 17) rfl ?_
  refine k_ishr A0 hx (hb hby own_d3_17) (pc' := 18) rfl ?_
  refine k_iconst A0 hx (hb hby own_d3_18) (v := 1) rfl (pc' := 19) rfl ?_
  refine k_iand A0 hx (hb hby own_d3_19) (pc' := 20) rfl ?_
  refine k_iadd A0 hx (hb hby own_d3_20) (pc' := 21) rfl ?_
  rw [show (((((6 : Int32) &&& (1 : Int32)) + (((6 : Int32) >>> ((1 : Int32) &&& 31)) &&& (1 : Int32))) + (((6 : Int32) >>> ((2 : Int32) &&& 31)) &&& (1 : Int32))) + (((6 : Int32) >>> ((3 : Int32) &&& 31)) &&& (1 : Int32))) = (2 : Int32) from by decide]
  refine k_istore A0 hx (hb hby own_d3_21) (Ls' := #[.val (.int (6 : Int32)), .val (.int v0), .val (.int v1), .val (.int v2), .val (.int v3), .val (.int (2 : Int32)), .unset, .unset]) rfl (pc' := 23) rfl ?_
  refine k_iload A0 hx (hb hby own_d3_23) rfl (pc' := 25) rfl ?_
  refine k_newint S0 hx hZ (hw _ (List.mem_of_getElem? (i := 11) rfl)) (hb hby own_d3_25) (by decide) 2 (by decide) (by decide) (by decide) (by decide) (pc' := 27) rfl ?_
  intro T2 h2 b2 g2 E2 V2 S2
  have bo3 : h0.size ≤ b2 := Nat.le_trans K1.1 (Nat.le_of_eq g2.symm)
  have ge3 : n0 ≤ b2 := Nat.le_trans Z0 bo3
  have A2 := S2.here
  have K4 := K1.ext E2
  have V2 : IV Z h2 b2 [(0 : Int32), (0 : Int32)] := V2
  refine k_astore A2 hx (hb hby own_d3_27) rfl (Ls' := #[.val (.int (6 : Int32)), .val (.int v0), .val (.int v1), .val (.int v2), .val (.int v3), .val (.int (2 : Int32)), .val (.ref b2), .unset]) rfl (pc' := 29) rfl ?_
  refine k_iconst A2 hx (hb hby own_d3_29) (v := 0) rfl (pc' := 30) rfl ?_
  refine k_istore A2 hx (hb hby own_d3_30) (Ls' := #[.val (.int (6 : Int32)), .val (.int v0), .val (.int v1), .val (.int v2), .val (.int v3), .val (.int (2 : Int32)), .val (.ref b2), .val (.int (0 : Int32))]) rfl (pc' := 32) rfl ?_
  refine k_iloadN A2 hx (hb hby own_d3_32) rfl (pc' := 33) rfl ?_
  refine k_iconst A2 hx (hb hby own_d3_33) (v := 1) rfl (pc' := 34) rfl ?_
  refine k_iand A2 hx (hb hby own_d3_34) (pc' := 35) rfl ?_
  refine k_if_eq A2 hx (hb hby own_d3_35) (pcY := 50) (by decide) (pc' := 38) rfl (fun hc35 => ?_) (fun hc35 => absurd (by decide) hc35)
  refine k_iloadN A2 hx (hb hby own_d3_50) rfl (pc' := 51) rfl ?_
  refine k_iconst A2 hx (hb hby own_d3_51) (v := 2) rfl (pc' := 52) rfl ?_
  refine k_iand A2 hx (hb hby own_d3_52) (pc' := 53) rfl ?_
  refine k_if_eq A2 hx (hb hby own_d3_53) (pcY := 68) (by decide) (pc' := 56) rfl (fun hc53 => absurd hc53 (by decide)) (fun hc53 => ?_)
  refine k_aload A2 hx (hb hby own_d3_56) rfl rfl (pc' := 58) rfl ?_
  refine k_iload A2 hx (hb hby own_d3_58) rfl (pc' := 60) rfl ?_
  refine k_iloadN A2 hx (hb hby own_d3_60) rfl (pc' := 61) rfl ?_
  refine k_iastore S2 hx hZ V2 (hb hby own_d3_61) (by decide) (by first | decide | (simp; done)) ge3 (pc' := 62) rfl ?_
  intro T5 h5 W5 V5 S5
  have A5 := S5.here
  have K7 := K4.wr W5 (Or.inr bo3)
  have V5 : IV Z h5 b2 [v1, (0 : Int32)] := V5
  refine k_iload A5 hx (hb hby own_d3_62) rfl (pc' := 64) rfl ?_
  refine k_iconst A5 hx (hb hby own_d3_64) (v := 1) rfl (pc' := 65) rfl ?_
  refine k_iadd A5 hx (hb hby own_d3_65) (pc' := 66) rfl ?_
  rw [show ((0 : Int32) + (1 : Int32)) = (1 : Int32) from by decide]
  refine k_istore A5 hx (hb hby own_d3_66) (Ls' := #[.val (.int (6 : Int32)), .val (.int v0), .val (.int v1), .val (.int v2), .val (.int v3), .val (.int (2 : Int32)), .val (.ref b2), .val (.int (1 : Int32))]) rfl (pc' := 68) rfl ?_
  refine k_iloadN A5 hx (hb hby own_d3_68) rfl (pc' := 69) rfl ?_
  refine k_iconst A5 hx (hb hby own_d3_69) (v := 4) rfl (pc' := 70) rfl ?_
  refine k_iand A5 hx (hb hby own_d3_70) (pc' := 71) rfl ?_
  refine k_if_eq A5 hx (hb hby own_d3_71) (pcY := 86) (by decide) (pc' := 74) rfl (fun hc71 => absurd hc71 (by decide)) (fun hc71 => ?_)
  refine k_aload A5 hx (hb hby own_d3_74) rfl rfl (pc' := 76) rfl ?_
  refine k_iload A5 hx (hb hby own_d3_76) rfl (pc' := 78) rfl ?_
  refine k_iloadN A5 hx (hb hby own_d3_78) rfl (pc' := 79) rfl ?_
  refine k_iastore S5 hx hZ V5 (hb hby own_d3_79) (by decide) (by first | decide | (simp; done)) ge3 (pc' := 80) rfl ?_
  intro T8 h8 W8 V8 S8
  have A8 := S8.here
  have K10 := K7.wr W8 (Or.inr bo3)
  have V8 : IV Z h8 b2 [v1, v2] := V8
  refine k_iload A8 hx (hb hby own_d3_80) rfl (pc' := 82) rfl ?_
  refine k_iconst A8 hx (hb hby own_d3_82) (v := 1) rfl (pc' := 83) rfl ?_
  refine k_iadd A8 hx (hb hby own_d3_83) (pc' := 84) rfl ?_
  rw [show ((1 : Int32) + (1 : Int32)) = (2 : Int32) from by decide]
  refine k_istore A8 hx (hb hby own_d3_84) (Ls' := #[.val (.int (6 : Int32)), .val (.int v0), .val (.int v1), .val (.int v2), .val (.int v3), .val (.int (2 : Int32)), .val (.ref b2), .val (.int (2 : Int32))]) rfl (pc' := 86) rfl ?_
  refine k_iloadN A8 hx (hb hby own_d3_86) rfl (pc' := 87) rfl ?_
  refine k_bipush A8 hx (hb hby own_d3_87) (v := 8) rfl (pc' := 89) rfl ?_
  refine k_iand A8 hx (hb hby own_d3_89) (pc' := 90) rfl ?_
  refine k_if_eq A8 hx (hb hby own_d3_90) (pcY := 106) (by decide) (pc' := 93) rfl (fun hc90 => ?_) (fun hc90 => absurd (by decide) hc90)
  refine k_aload A8 hx (hb hby own_d3_106) rfl rfl (pc' := 108) rfl ?_
  refine k_ret_ref S8 hx hret rfl hlk (hb hby own_d3_108) (by decide) (by decide) ?_
  exact ⟨b2, rfl, bo3, K10, V8⟩
set_option maxRecDepth 65536 in
set_option maxHeartbeats 40000000 in
theorem own_sub7 (l : Launch) (Z : State) (a0 : Array Value) (hw : ∀ d ∈ tables_1, d.before a0 Z = true) (v0 v1 v2 v3 : Int32) (h0 : Heap) (n0 : Nat) (Z0 : n0 ≤ h0.size) :
    Con l Z (⟨"com/example/vestigium/vestigium/semantics/SortedSetsContainsAllPinLaw", "subset", "(IIIII)[I"⟩ : MethodName) method_2_code 8 (some (.array .int)) ({ frames := 0, cells := 1, slots := 4, locals := 0 } : Room) n0 h0 #[(.int (7 : Int32)), (.int v0), (.int v1), (.int v2), (.int v3)] (fun v h => ∃ b, v = some (.ref b) ∧ h0.size ≤ b ∧ Keep h0 h [] ∧ IV Z h b (own_subl (7 : Int32) v0 v1 v2 v3)) := by
  refine Con.intro (plainFor_of_name own_pn3) (Ls := #[.val (.int (7 : Int32)), .val (.int v0), .val (.int v1), .val (.int v2), .val (.int v3), .unset, .unset, .unset]) (fun m => by first | (simp [entryFrame, mkF, argsToLocals, Value.category]; done) | rfl) ?_
  intro p e s m below meth c s₁ hx hby hml hown hnm hret hlk hZ S0
  have A0 := S0.here
  have K1 := Keep.refl h0 []
  refine k_iloadN A0 hx (hb hby own_d3_0) rfl (pc' := 1) rfl ?_
  refine k_iconst A0 hx (hb hby own_d3_1) (v := 1) rfl (pc' := 2) rfl ?_
  refine k_iand A0 hx (hb hby own_d3_2) (pc' := 3) rfl ?_
  refine k_iloadN A0 hx (hb hby own_d3_3) rfl (pc' := 4) rfl ?_
  refine k_iconst A0 hx (hb hby own_d3_4) (v := 1) rfl (pc' := 5) rfl ?_
  refine k_ishr A0 hx (hb hby own_d3_5) (pc' := 6) rfl ?_
  refine k_iconst A0 hx (hb hby own_d3_6) (v := 1) rfl (pc' := 7) rfl ?_
  refine k_iand A0 hx (hb hby own_d3_7) (pc' := 8) rfl ?_
  refine k_iadd A0 hx (hb hby own_d3_8) (pc' := 9) rfl ?_
  refine k_iloadN A0 hx (hb hby own_d3_9) rfl (pc' := 10) rfl ?_
  refine k_iconst A0 hx (hb hby own_d3_10) (v := 2) rfl (pc' := 11) rfl ?_
  refine k_ishr A0 hx (hb hby own_d3_11) (pc' := 12) rfl ?_
  refine k_iconst A0 hx (hb hby own_d3_12) (v := 1) rfl (pc' := 13) rfl ?_
  refine k_iand A0 hx (hb hby own_d3_13) (pc' := 14) rfl ?_
  refine k_iadd A0 hx (hb hby own_d3_14) (pc' := 15) rfl ?_
  refine k_iloadN A0 hx (hb hby own_d3_15) rfl (pc' := 16) rfl ?_
  refine k_iconst A0 hx (hb hby own_d3_16) (v := 3) rfl (pc' := 17) rfl ?_
  refine k_ishr A0 hx (hb hby own_d3_17) (pc' := 18) rfl ?_
  refine k_iconst A0 hx (hb hby own_d3_18) (v := 1) rfl (pc' := 19) rfl ?_
  refine k_iand A0 hx (hb hby own_d3_19) (pc' := 20) rfl ?_
  refine k_iadd A0 hx (hb hby own_d3_20) (pc' := 21) rfl ?_
  rw [show (((((7 : Int32) &&& (1 : Int32)) + (((7 : Int32) >>> ((1 : Int32) &&& 31)) &&& (1 : Int32))) + (((7 : Int32) >>> ((2 : Int32) &&& 31)) &&& (1 : Int32))) + (((7 : Int32) >>> ((3 : Int32) &&& 31)) &&& (1 : Int32))) = (3 : Int32) from by decide]
  refine k_istore A0 hx (hb hby own_d3_21) (Ls' := #[.val (.int (7 : Int32)), .val (.int v0), .val (.int v1), .val (.int v2), .val (.int v3), .val (.int (3 : Int32)), .unset, .unset]) rfl (pc' := 23) rfl ?_
  refine k_iload A0 hx (hb hby own_d3_23) rfl (pc' := 25) rfl ?_
  refine k_newint S0 hx hZ (hw _ (List.mem_of_getElem? (i := 11) rfl)) (hb hby own_d3_25) (by decide) 3 (by decide) (by decide) (by decide) (by decide) (pc' := 27) rfl ?_
  intro T2 h2 b2 g2 E2 V2 S2
  have bo3 : h0.size ≤ b2 := Nat.le_trans K1.1 (Nat.le_of_eq g2.symm)
  have ge3 : n0 ≤ b2 := Nat.le_trans Z0 bo3
  have A2 := S2.here
  have K4 := K1.ext E2
  have V2 : IV Z h2 b2 [(0 : Int32), (0 : Int32), (0 : Int32)] := V2
  refine k_astore A2 hx (hb hby own_d3_27) rfl (Ls' := #[.val (.int (7 : Int32)), .val (.int v0), .val (.int v1), .val (.int v2), .val (.int v3), .val (.int (3 : Int32)), .val (.ref b2), .unset]) rfl (pc' := 29) rfl ?_
  refine k_iconst A2 hx (hb hby own_d3_29) (v := 0) rfl (pc' := 30) rfl ?_
  refine k_istore A2 hx (hb hby own_d3_30) (Ls' := #[.val (.int (7 : Int32)), .val (.int v0), .val (.int v1), .val (.int v2), .val (.int v3), .val (.int (3 : Int32)), .val (.ref b2), .val (.int (0 : Int32))]) rfl (pc' := 32) rfl ?_
  refine k_iloadN A2 hx (hb hby own_d3_32) rfl (pc' := 33) rfl ?_
  refine k_iconst A2 hx (hb hby own_d3_33) (v := 1) rfl (pc' := 34) rfl ?_
  refine k_iand A2 hx (hb hby own_d3_34) (pc' := 35) rfl ?_
  refine k_if_eq A2 hx (hb hby own_d3_35) (pcY := 50) (by decide) (pc' := 38) rfl (fun hc35 => absurd hc35 (by decide)) (fun hc35 => ?_)
  refine k_aload A2 hx (hb hby own_d3_38) rfl rfl (pc' := 40) rfl ?_
  refine k_iload A2 hx (hb hby own_d3_40) rfl (pc' := 42) rfl ?_
  refine k_iloadN A2 hx (hb hby own_d3_42) rfl (pc' := 43) rfl ?_
  refine k_iastore S2 hx hZ V2 (hb hby own_d3_43) (by decide) (by first | decide | (simp; done)) ge3 (pc' := 44) rfl ?_
  intro T5 h5 W5 V5 S5
  have A5 := S5.here
  have K7 := K4.wr W5 (Or.inr bo3)
  have V5 : IV Z h5 b2 [v0, (0 : Int32), (0 : Int32)] := V5
  refine k_iload A5 hx (hb hby own_d3_44) rfl (pc' := 46) rfl ?_
  refine k_iconst A5 hx (hb hby own_d3_46) (v := 1) rfl (pc' := 47) rfl ?_
  refine k_iadd A5 hx (hb hby own_d3_47) (pc' := 48) rfl ?_
  rw [show ((0 : Int32) + (1 : Int32)) = (1 : Int32) from by decide]
  refine k_istore A5 hx (hb hby own_d3_48) (Ls' := #[.val (.int (7 : Int32)), .val (.int v0), .val (.int v1), .val (.int v2), .val (.int v3), .val (.int (3 : Int32)), .val (.ref b2), .val (.int (1 : Int32))]) rfl (pc' := 50) rfl ?_
  refine k_iloadN A5 hx (hb hby own_d3_50) rfl (pc' := 51) rfl ?_
  refine k_iconst A5 hx (hb hby own_d3_51) (v := 2) rfl (pc' := 52) rfl ?_
  refine k_iand A5 hx (hb hby own_d3_52) (pc' := 53) rfl ?_
  refine k_if_eq A5 hx (hb hby own_d3_53) (pcY := 68) (by decide) (pc' := 56) rfl (fun hc53 => absurd hc53 (by decide)) (fun hc53 => ?_)
  refine k_aload A5 hx (hb hby own_d3_56) rfl rfl (pc' := 58) rfl ?_
  refine k_iload A5 hx (hb hby own_d3_58) rfl (pc' := 60) rfl ?_
  refine k_iloadN A5 hx (hb hby own_d3_60) rfl (pc' := 61) rfl ?_
  refine k_iastore S5 hx hZ V5 (hb hby own_d3_61) (by decide) (by first | decide | (simp; done)) ge3 (pc' := 62) rfl ?_
  intro T8 h8 W8 V8 S8
  have A8 := S8.here
  have K10 := K7.wr W8 (Or.inr bo3)
  have V8 : IV Z h8 b2 [v0, v1, (0 : Int32)] := V8
  refine k_iload A8 hx (hb hby own_d3_62) rfl (pc' := 64) rfl ?_
  refine k_iconst A8 hx (hb hby own_d3_64) (v := 1) rfl (pc' := 65) rfl ?_
  refine k_iadd A8 hx (hb hby own_d3_65) (pc' := 66) rfl ?_
  rw [show ((1 : Int32) + (1 : Int32)) = (2 : Int32) from by decide]
  refine k_istore A8 hx (hb hby own_d3_66) (Ls' := #[.val (.int (7 : Int32)), .val (.int v0), .val (.int v1), .val (.int v2), .val (.int v3), .val (.int (3 : Int32)), .val (.ref b2), .val (.int (2 : Int32))]) rfl (pc' := 68) rfl ?_
  refine k_iloadN A8 hx (hb hby own_d3_68) rfl (pc' := 69) rfl ?_
  refine k_iconst A8 hx (hb hby own_d3_69) (v := 4) rfl (pc' := 70) rfl ?_
  refine k_iand A8 hx (hb hby own_d3_70) (pc' := 71) rfl ?_
  refine k_if_eq A8 hx (hb hby own_d3_71) (pcY := 86) (by decide) (pc' := 74) rfl (fun hc71 => absurd hc71 (by decide)) (fun hc71 => ?_)
  refine k_aload A8 hx (hb hby own_d3_74) rfl rfl (pc' := 76) rfl ?_
  refine k_iload A8 hx (hb hby own_d3_76) rfl (pc' := 78) rfl ?_
  refine k_iloadN A8 hx (hb hby own_d3_78) rfl (pc' := 79) rfl ?_
  refine k_iastore S8 hx hZ V8 (hb hby own_d3_79) (by decide) (by first | decide | (simp; done)) ge3 (pc' := 80) rfl ?_
  intro T11 h11 W11 V11 S11
  have A11 := S11.here
  have K13 := K10.wr W11 (Or.inr bo3)
  have V11 : IV Z h11 b2 [v0, v1, v2] := V11
  refine k_iload A11 hx (hb hby own_d3_80) rfl (pc' := 82) rfl ?_
  refine k_iconst A11 hx (hb hby own_d3_82) (v := 1) rfl (pc' := 83) rfl ?_
  refine k_iadd A11 hx (hb hby own_d3_83) (pc' := 84) rfl ?_
  rw [show ((2 : Int32) + (1 : Int32)) = (3 : Int32) from by decide]
  refine k_istore A11 hx (hb hby own_d3_84) (Ls' := #[.val (.int (7 : Int32)), .val (.int v0), .val (.int v1), .val (.int v2), .val (.int v3), .val (.int (3 : Int32)), .val (.ref b2), .val (.int (3 : Int32))]) rfl (pc' := 86) rfl ?_
  refine k_iloadN A11 hx (hb hby own_d3_86) rfl (pc' := 87) rfl ?_
  refine k_bipush A11 hx (hb hby own_d3_87) (v := 8) rfl (pc' := 89) rfl ?_
  refine k_iand A11 hx (hb hby own_d3_89) (pc' := 90) rfl ?_
  refine k_if_eq A11 hx (hb hby own_d3_90) (pcY := 106) (by decide) (pc' := 93) rfl (fun hc90 => ?_) (fun hc90 => absurd (by decide) hc90)
  refine k_aload A11 hx (hb hby own_d3_106) rfl rfl (pc' := 108) rfl ?_
  refine k_ret_ref S11 hx hret rfl hlk (hb hby own_d3_108) (by decide) (by decide) ?_
  exact ⟨b2, rfl, bo3, K13, V11⟩
set_option maxRecDepth 65536 in
set_option maxHeartbeats 40000000 in
theorem own_sub8 (l : Launch) (Z : State) (a0 : Array Value) (hw : ∀ d ∈ tables_1, d.before a0 Z = true) (v0 v1 v2 v3 : Int32) (h0 : Heap) (n0 : Nat) (Z0 : n0 ≤ h0.size) :
    Con l Z (⟨"com/example/vestigium/vestigium/semantics/SortedSetsContainsAllPinLaw", "subset", "(IIIII)[I"⟩ : MethodName) method_2_code 8 (some (.array .int)) ({ frames := 0, cells := 1, slots := 4, locals := 0 } : Room) n0 h0 #[(.int (8 : Int32)), (.int v0), (.int v1), (.int v2), (.int v3)] (fun v h => ∃ b, v = some (.ref b) ∧ h0.size ≤ b ∧ Keep h0 h [] ∧ IV Z h b (own_subl (8 : Int32) v0 v1 v2 v3)) := by
  refine Con.intro (plainFor_of_name own_pn3) (Ls := #[.val (.int (8 : Int32)), .val (.int v0), .val (.int v1), .val (.int v2), .val (.int v3), .unset, .unset, .unset]) (fun m => by first | (simp [entryFrame, mkF, argsToLocals, Value.category]; done) | rfl) ?_
  intro p e s m below meth c s₁ hx hby hml hown hnm hret hlk hZ S0
  have A0 := S0.here
  have K1 := Keep.refl h0 []
  refine k_iloadN A0 hx (hb hby own_d3_0) rfl (pc' := 1) rfl ?_
  refine k_iconst A0 hx (hb hby own_d3_1) (v := 1) rfl (pc' := 2) rfl ?_
  refine k_iand A0 hx (hb hby own_d3_2) (pc' := 3) rfl ?_
  refine k_iloadN A0 hx (hb hby own_d3_3) rfl (pc' := 4) rfl ?_
  refine k_iconst A0 hx (hb hby own_d3_4) (v := 1) rfl (pc' := 5) rfl ?_
  refine k_ishr A0 hx (hb hby own_d3_5) (pc' := 6) rfl ?_
  refine k_iconst A0 hx (hb hby own_d3_6) (v := 1) rfl (pc' := 7) rfl ?_
  refine k_iand A0 hx (hb hby own_d3_7) (pc' := 8) rfl ?_
  refine k_iadd A0 hx (hb hby own_d3_8) (pc' := 9) rfl ?_
  refine k_iloadN A0 hx (hb hby own_d3_9) rfl (pc' := 10) rfl ?_
  refine k_iconst A0 hx (hb hby own_d3_10) (v := 2) rfl (pc' := 11) rfl ?_
  refine k_ishr A0 hx (hb hby own_d3_11) (pc' := 12) rfl ?_
  refine k_iconst A0 hx (hb hby own_d3_12) (v := 1) rfl (pc' := 13) rfl ?_
  refine k_iand A0 hx (hb hby own_d3_13) (pc' := 14) rfl ?_
  refine k_iadd A0 hx (hb hby own_d3_14) (pc' := 15) rfl ?_
  refine k_iloadN A0 hx (hb hby own_d3_15) rfl (pc' := 16) rfl ?_
  refine k_iconst A0 hx (hb hby own_d3_16) (v := 3) rfl (pc' := 17) rfl ?_
  refine k_ishr A0 hx (hb hby own_d3_17) (pc' := 18) rfl ?_
  refine k_iconst A0 hx (hb hby own_d3_18) (v := 1) rfl (pc' := 19) rfl ?_
  refine k_iand A0 hx (hb hby own_d3_19) (pc' := 20) rfl ?_
  refine k_iadd A0 hx (hb hby own_d3_20) (pc' := 21) rfl ?_
  rw [show (((((8 : Int32) &&& (1 : Int32)) + (((8 : Int32) >>> ((1 : Int32) &&& 31)) &&& (1 : Int32))) + (((8 : Int32) >>> ((2 : Int32) &&& 31)) &&& (1 : Int32))) + (((8 : Int32) >>> ((3 : Int32) &&& 31)) &&& (1 : Int32))) = (1 : Int32) from by decide]
  refine k_istore A0 hx (hb hby own_d3_21) (Ls' := #[.val (.int (8 : Int32)), .val (.int v0), .val (.int v1), .val (.int v2), .val (.int v3), .val (.int (1 : Int32)), .unset, .unset]) rfl (pc' := 23) rfl ?_
  refine k_iload A0 hx (hb hby own_d3_23) rfl (pc' := 25) rfl ?_
  refine k_newint S0 hx hZ (hw _ (List.mem_of_getElem? (i := 11) rfl)) (hb hby own_d3_25) (by decide) 1 (by decide) (by decide) (by decide) (by decide) (pc' := 27) rfl ?_
  intro T2 h2 b2 g2 E2 V2 S2
  have bo3 : h0.size ≤ b2 := Nat.le_trans K1.1 (Nat.le_of_eq g2.symm)
  have ge3 : n0 ≤ b2 := Nat.le_trans Z0 bo3
  have A2 := S2.here
  have K4 := K1.ext E2
  have V2 : IV Z h2 b2 [(0 : Int32)] := V2
  refine k_astore A2 hx (hb hby own_d3_27) rfl (Ls' := #[.val (.int (8 : Int32)), .val (.int v0), .val (.int v1), .val (.int v2), .val (.int v3), .val (.int (1 : Int32)), .val (.ref b2), .unset]) rfl (pc' := 29) rfl ?_
  refine k_iconst A2 hx (hb hby own_d3_29) (v := 0) rfl (pc' := 30) rfl ?_
  refine k_istore A2 hx (hb hby own_d3_30) (Ls' := #[.val (.int (8 : Int32)), .val (.int v0), .val (.int v1), .val (.int v2), .val (.int v3), .val (.int (1 : Int32)), .val (.ref b2), .val (.int (0 : Int32))]) rfl (pc' := 32) rfl ?_
  refine k_iloadN A2 hx (hb hby own_d3_32) rfl (pc' := 33) rfl ?_
  refine k_iconst A2 hx (hb hby own_d3_33) (v := 1) rfl (pc' := 34) rfl ?_
  refine k_iand A2 hx (hb hby own_d3_34) (pc' := 35) rfl ?_
  refine k_if_eq A2 hx (hb hby own_d3_35) (pcY := 50) (by decide) (pc' := 38) rfl (fun hc35 => ?_) (fun hc35 => absurd (by decide) hc35)
  refine k_iloadN A2 hx (hb hby own_d3_50) rfl (pc' := 51) rfl ?_
  refine k_iconst A2 hx (hb hby own_d3_51) (v := 2) rfl (pc' := 52) rfl ?_
  refine k_iand A2 hx (hb hby own_d3_52) (pc' := 53) rfl ?_
  refine k_if_eq A2 hx (hb hby own_d3_53) (pcY := 68) (by decide) (pc' := 56) rfl (fun hc53 => ?_) (fun hc53 => absurd (by decide) hc53)
  refine k_iloadN A2 hx (hb hby own_d3_68) rfl (pc' := 69) rfl ?_
  refine k_iconst A2 hx (hb hby own_d3_69) (v := 4) rfl (pc' := 70) rfl ?_
  refine k_iand A2 hx (hb hby own_d3_70) (pc' := 71) rfl ?_
  refine k_if_eq A2 hx (hb hby own_d3_71) (pcY := 86) (by decide) (pc' := 74) rfl (fun hc71 => ?_) (fun hc71 => absurd (by decide) hc71)
  refine k_iloadN A2 hx (hb hby own_d3_86) rfl (pc' := 87) rfl ?_
  refine k_bipush A2 hx (hb hby own_d3_87) (v := 8) rfl (pc' := 89) rfl ?_
  refine k_iand A2 hx (hb hby own_d3_89) (pc' := 90) rfl ?_
  refine k_if_eq A2 hx (hb hby own_d3_90) (pcY := 106) (by decide) (pc' := 93) rfl (fun hc90 => absurd hc90 (by decide)) (fun hc90 => ?_)
  refine k_aload A2 hx (hb hby own_d3_93) rfl rfl (pc' := 95) rfl ?_
  refine k_iload A2 hx (hb hby own_d3_95) rfl (pc' := 97) rfl ?_
  refine k_iload A2 hx (hb hby own_d3_97) rfl (pc' := 99) rfl ?_
  refine k_iastore S2 hx hZ V2 (hb hby own_d3_99) (by decide) (by first | decide | (simp; done)) ge3 (pc' := 100) rfl ?_
  intro T5 h5 W5 V5 S5
  have A5 := S5.here
  have K7 := K4.wr W5 (Or.inr bo3)
  have V5 : IV Z h5 b2 [v3] := V5
  refine k_iload A5 hx (hb hby own_d3_100) rfl (pc' := 102) rfl ?_
  refine k_iconst A5 hx (hb hby own_d3_102) (v := 1) rfl (pc' := 103) rfl ?_
  refine k_iadd A5 hx (hb hby own_d3_103) (pc' := 104) rfl ?_
  rw [show ((0 : Int32) + (1 : Int32)) = (1 : Int32) from by decide]
  refine k_istore A5 hx (hb hby own_d3_104) (Ls' := #[.val (.int (8 : Int32)), .val (.int v0), .val (.int v1), .val (.int v2), .val (.int v3), .val (.int (1 : Int32)), .val (.ref b2), .val (.int (1 : Int32))]) rfl (pc' := 106) rfl ?_
  refine k_aload A5 hx (hb hby own_d3_106) rfl rfl (pc' := 108) rfl ?_
  refine k_ret_ref S5 hx hret rfl hlk (hb hby own_d3_108) (by decide) (by decide) ?_
  exact ⟨b2, rfl, bo3, K7, V5⟩
set_option maxRecDepth 65536 in
set_option maxHeartbeats 40000000 in
theorem own_sub9 (l : Launch) (Z : State) (a0 : Array Value) (hw : ∀ d ∈ tables_1, d.before a0 Z = true) (v0 v1 v2 v3 : Int32) (h0 : Heap) (n0 : Nat) (Z0 : n0 ≤ h0.size) :
    Con l Z (⟨"com/example/vestigium/vestigium/semantics/SortedSetsContainsAllPinLaw", "subset", "(IIIII)[I"⟩ : MethodName) method_2_code 8 (some (.array .int)) ({ frames := 0, cells := 1, slots := 4, locals := 0 } : Room) n0 h0 #[(.int (9 : Int32)), (.int v0), (.int v1), (.int v2), (.int v3)] (fun v h => ∃ b, v = some (.ref b) ∧ h0.size ≤ b ∧ Keep h0 h [] ∧ IV Z h b (own_subl (9 : Int32) v0 v1 v2 v3)) := by
  refine Con.intro (plainFor_of_name own_pn3) (Ls := #[.val (.int (9 : Int32)), .val (.int v0), .val (.int v1), .val (.int v2), .val (.int v3), .unset, .unset, .unset]) (fun m => by first | (simp [entryFrame, mkF, argsToLocals, Value.category]; done) | rfl) ?_
  intro p e s m below meth c s₁ hx hby hml hown hnm hret hlk hZ S0
  have A0 := S0.here
  have K1 := Keep.refl h0 []
  refine k_iloadN A0 hx (hb hby own_d3_0) rfl (pc' := 1) rfl ?_
  refine k_iconst A0 hx (hb hby own_d3_1) (v := 1) rfl (pc' := 2) rfl ?_
  refine k_iand A0 hx (hb hby own_d3_2) (pc' := 3) rfl ?_
  refine k_iloadN A0 hx (hb hby own_d3_3) rfl (pc' := 4) rfl ?_
  refine k_iconst A0 hx (hb hby own_d3_4) (v := 1) rfl (pc' := 5) rfl ?_
  refine k_ishr A0 hx (hb hby own_d3_5) (pc' := 6) rfl ?_
  refine k_iconst A0 hx (hb hby own_d3_6) (v := 1) rfl (pc' := 7) rfl ?_
  refine k_iand A0 hx (hb hby own_d3_7) (pc' := 8) rfl ?_
  refine k_iadd A0 hx (hb hby own_d3_8) (pc' := 9) rfl ?_
  refine k_iloadN A0 hx (hb hby own_d3_9) rfl (pc' := 10) rfl ?_
  refine k_iconst A0 hx (hb hby own_d3_10) (v := 2) rfl (pc' := 11) rfl ?_
  refine k_ishr A0 hx (hb hby own_d3_11) (pc' := 12) rfl ?_
  refine k_iconst A0 hx (hb hby own_d3_12) (v := 1) rfl (pc' := 13) rfl ?_
  refine k_iand A0 hx (hb hby own_d3_13) (pc' := 14) rfl ?_
  refine k_iadd A0 hx (hb hby own_d3_14) (pc' := 15) rfl ?_
  refine k_iloadN A0 hx (hb hby own_d3_15) rfl (pc' := 16) rfl ?_
  refine k_iconst A0 hx (hb hby own_d3_16) (v := 3) rfl (pc' := 17) rfl ?_
  refine k_ishr A0 hx (hb hby own_d3_17) (pc' := 18) rfl ?_
  refine k_iconst A0 hx (hb hby own_d3_18) (v := 1) rfl (pc' := 19) rfl ?_
  refine k_iand A0 hx (hb hby own_d3_19) (pc' := 20) rfl ?_
  refine k_iadd A0 hx (hb hby own_d3_20) (pc' := 21) rfl ?_
  rw [show (((((9 : Int32) &&& (1 : Int32)) + (((9 : Int32) >>> ((1 : Int32) &&& 31)) &&& (1 : Int32))) + (((9 : Int32) >>> ((2 : Int32) &&& 31)) &&& (1 : Int32))) + (((9 : Int32) >>> ((3 : Int32) &&& 31)) &&& (1 : Int32))) = (2 : Int32) from by decide]
  refine k_istore A0 hx (hb hby own_d3_21) (Ls' := #[.val (.int (9 : Int32)), .val (.int v0), .val (.int v1), .val (.int v2), .val (.int v3), .val (.int (2 : Int32)), .unset, .unset]) rfl (pc' := 23) rfl ?_
  refine k_iload A0 hx (hb hby own_d3_23) rfl (pc' := 25) rfl ?_
  refine k_newint S0 hx hZ (hw _ (List.mem_of_getElem? (i := 11) rfl)) (hb hby own_d3_25) (by decide) 2 (by decide) (by decide) (by decide) (by decide) (pc' := 27) rfl ?_
  intro T2 h2 b2 g2 E2 V2 S2
  have bo3 : h0.size ≤ b2 := Nat.le_trans K1.1 (Nat.le_of_eq g2.symm)
  have ge3 : n0 ≤ b2 := Nat.le_trans Z0 bo3
  have A2 := S2.here
  have K4 := K1.ext E2
  have V2 : IV Z h2 b2 [(0 : Int32), (0 : Int32)] := V2
  refine k_astore A2 hx (hb hby own_d3_27) rfl (Ls' := #[.val (.int (9 : Int32)), .val (.int v0), .val (.int v1), .val (.int v2), .val (.int v3), .val (.int (2 : Int32)), .val (.ref b2), .unset]) rfl (pc' := 29) rfl ?_
  refine k_iconst A2 hx (hb hby own_d3_29) (v := 0) rfl (pc' := 30) rfl ?_
  refine k_istore A2 hx (hb hby own_d3_30) (Ls' := #[.val (.int (9 : Int32)), .val (.int v0), .val (.int v1), .val (.int v2), .val (.int v3), .val (.int (2 : Int32)), .val (.ref b2), .val (.int (0 : Int32))]) rfl (pc' := 32) rfl ?_
  refine k_iloadN A2 hx (hb hby own_d3_32) rfl (pc' := 33) rfl ?_
  refine k_iconst A2 hx (hb hby own_d3_33) (v := 1) rfl (pc' := 34) rfl ?_
  refine k_iand A2 hx (hb hby own_d3_34) (pc' := 35) rfl ?_
  refine k_if_eq A2 hx (hb hby own_d3_35) (pcY := 50) (by decide) (pc' := 38) rfl (fun hc35 => absurd hc35 (by decide)) (fun hc35 => ?_)
  refine k_aload A2 hx (hb hby own_d3_38) rfl rfl (pc' := 40) rfl ?_
  refine k_iload A2 hx (hb hby own_d3_40) rfl (pc' := 42) rfl ?_
  refine k_iloadN A2 hx (hb hby own_d3_42) rfl (pc' := 43) rfl ?_
  refine k_iastore S2 hx hZ V2 (hb hby own_d3_43) (by decide) (by first | decide | (simp; done)) ge3 (pc' := 44) rfl ?_
  intro T5 h5 W5 V5 S5
  have A5 := S5.here
  have K7 := K4.wr W5 (Or.inr bo3)
  have V5 : IV Z h5 b2 [v0, (0 : Int32)] := V5
  refine k_iload A5 hx (hb hby own_d3_44) rfl (pc' := 46) rfl ?_
  refine k_iconst A5 hx (hb hby own_d3_46) (v := 1) rfl (pc' := 47) rfl ?_
  refine k_iadd A5 hx (hb hby own_d3_47) (pc' := 48) rfl ?_
  rw [show ((0 : Int32) + (1 : Int32)) = (1 : Int32) from by decide]
  refine k_istore A5 hx (hb hby own_d3_48) (Ls' := #[.val (.int (9 : Int32)), .val (.int v0), .val (.int v1), .val (.int v2), .val (.int v3), .val (.int (2 : Int32)), .val (.ref b2), .val (.int (1 : Int32))]) rfl (pc' := 50) rfl ?_
  refine k_iloadN A5 hx (hb hby own_d3_50) rfl (pc' := 51) rfl ?_
  refine k_iconst A5 hx (hb hby own_d3_51) (v := 2) rfl (pc' := 52) rfl ?_
  refine k_iand A5 hx (hb hby own_d3_52) (pc' := 53) rfl ?_
  refine k_if_eq A5 hx (hb hby own_d3_53) (pcY := 68) (by decide) (pc' := 56) rfl (fun hc53 => ?_) (fun hc53 => absurd (by decide) hc53)
  refine k_iloadN A5 hx (hb hby own_d3_68) rfl (pc' := 69) rfl ?_
  refine k_iconst A5 hx (hb hby own_d3_69) (v := 4) rfl (pc' := 70) rfl ?_
  refine k_iand A5 hx (hb hby own_d3_70) (pc' := 71) rfl ?_
  refine k_if_eq A5 hx (hb hby own_d3_71) (pcY := 86) (by decide) (pc' := 74) rfl (fun hc71 => ?_) (fun hc71 => absurd (by decide) hc71)
  refine k_iloadN A5 hx (hb hby own_d3_86) rfl (pc' := 87) rfl ?_
  refine k_bipush A5 hx (hb hby own_d3_87) (v := 8) rfl (pc' := 89) rfl ?_
  refine k_iand A5 hx (hb hby own_d3_89) (pc' := 90) rfl ?_
  refine k_if_eq A5 hx (hb hby own_d3_90) (pcY := 106) (by decide) (pc' := 93) rfl (fun hc90 => absurd hc90 (by decide)) (fun hc90 => ?_)
  refine k_aload A5 hx (hb hby own_d3_93) rfl rfl (pc' := 95) rfl ?_
  refine k_iload A5 hx (hb hby own_d3_95) rfl (pc' := 97) rfl ?_
  refine k_iload A5 hx (hb hby own_d3_97) rfl (pc' := 99) rfl ?_
  refine k_iastore S5 hx hZ V5 (hb hby own_d3_99) (by decide) (by first | decide | (simp; done)) ge3 (pc' := 100) rfl ?_
  intro T8 h8 W8 V8 S8
  have A8 := S8.here
  have K10 := K7.wr W8 (Or.inr bo3)
  have V8 : IV Z h8 b2 [v0, v3] := V8
  refine k_iload A8 hx (hb hby own_d3_100) rfl (pc' := 102) rfl ?_
  refine k_iconst A8 hx (hb hby own_d3_102) (v := 1) rfl (pc' := 103) rfl ?_
  refine k_iadd A8 hx (hb hby own_d3_103) (pc' := 104) rfl ?_
  rw [show ((1 : Int32) + (1 : Int32)) = (2 : Int32) from by decide]
  refine k_istore A8 hx (hb hby own_d3_104) (Ls' := #[.val (.int (9 : Int32)), .val (.int v0), .val (.int v1), .val (.int v2), .val (.int v3), .val (.int (2 : Int32)), .val (.ref b2), .val (.int (2 : Int32))]) rfl (pc' := 106) rfl ?_
  refine k_aload A8 hx (hb hby own_d3_106) rfl rfl (pc' := 108) rfl ?_
  refine k_ret_ref S8 hx hret rfl hlk (hb hby own_d3_108) (by decide) (by decide) ?_
  exact ⟨b2, rfl, bo3, K10, V8⟩
set_option maxRecDepth 65536 in
set_option maxHeartbeats 40000000 in
theorem own_sub10 (l : Launch) (Z : State) (a0 : Array Value) (hw : ∀ d ∈ tables_1, d.before a0 Z = true) (v0 v1 v2 v3 : Int32) (h0 : Heap) (n0 : Nat) (Z0 : n0 ≤ h0.size) :
    Con l Z (⟨"com/example/vestigium/vestigium/semantics/SortedSetsContainsAllPinLaw", "subset", "(IIIII)[I"⟩ : MethodName) method_2_code 8 (some (.array .int)) ({ frames := 0, cells := 1, slots := 4, locals := 0 } : Room) n0 h0 #[(.int (10 : Int32)), (.int v0), (.int v1), (.int v2), (.int v3)] (fun v h => ∃ b, v = some (.ref b) ∧ h0.size ≤ b ∧ Keep h0 h [] ∧ IV Z h b (own_subl (10 : Int32) v0 v1 v2 v3)) := by
  refine Con.intro (plainFor_of_name own_pn3) (Ls := #[.val (.int (10 : Int32)), .val (.int v0), .val (.int v1), .val (.int v2), .val (.int v3), .unset, .unset, .unset]) (fun m => by first | (simp [entryFrame, mkF, argsToLocals, Value.category]; done) | rfl) ?_
  intro p e s m below meth c s₁ hx hby hml hown hnm hret hlk hZ S0
  have A0 := S0.here
  have K1 := Keep.refl h0 []
  refine k_iloadN A0 hx (hb hby own_d3_0) rfl (pc' := 1) rfl ?_
  refine k_iconst A0 hx (hb hby own_d3_1) (v := 1) rfl (pc' := 2) rfl ?_
  refine k_iand A0 hx (hb hby own_d3_2) (pc' := 3) rfl ?_
  refine k_iloadN A0 hx (hb hby own_d3_3) rfl (pc' := 4) rfl ?_
  refine k_iconst A0 hx (hb hby own_d3_4) (v := 1) rfl (pc' := 5) rfl ?_
  refine k_ishr A0 hx (hb hby own_d3_5) (pc' := 6) rfl ?_
  refine k_iconst A0 hx (hb hby own_d3_6) (v := 1) rfl (pc' := 7) rfl ?_
  refine k_iand A0 hx (hb hby own_d3_7) (pc' := 8) rfl ?_
  refine k_iadd A0 hx (hb hby own_d3_8) (pc' := 9) rfl ?_
  refine k_iloadN A0 hx (hb hby own_d3_9) rfl (pc' := 10) rfl ?_
  refine k_iconst A0 hx (hb hby own_d3_10) (v := 2) rfl (pc' := 11) rfl ?_
  refine k_ishr A0 hx (hb hby own_d3_11) (pc' := 12) rfl ?_
  refine k_iconst A0 hx (hb hby own_d3_12) (v := 1) rfl (pc' := 13) rfl ?_
  refine k_iand A0 hx (hb hby own_d3_13) (pc' := 14) rfl ?_
  refine k_iadd A0 hx (hb hby own_d3_14) (pc' := 15) rfl ?_
  refine k_iloadN A0 hx (hb hby own_d3_15) rfl (pc' := 16) rfl ?_
  refine k_iconst A0 hx (hb hby own_d3_16) (v := 3) rfl (pc' := 17) rfl ?_
  refine k_ishr A0 hx (hb hby own_d3_17) (pc' := 18) rfl ?_
  refine k_iconst A0 hx (hb hby own_d3_18) (v := 1) rfl (pc' := 19) rfl ?_
  refine k_iand A0 hx (hb hby own_d3_19) (pc' := 20) rfl ?_
  refine k_iadd A0 hx (hb hby own_d3_20) (pc' := 21) rfl ?_
  rw [show (((((10 : Int32) &&& (1 : Int32)) + (((10 : Int32) >>> ((1 : Int32) &&& 31)) &&& (1 : Int32))) + (((10 : Int32) >>> ((2 : Int32) &&& 31)) &&& (1 : Int32))) + (((10 : Int32) >>> ((3 : Int32) &&& 31)) &&& (1 : Int32))) = (2 : Int32) from by decide]
  refine k_istore A0 hx (hb hby own_d3_21) (Ls' := #[.val (.int (10 : Int32)), .val (.int v0), .val (.int v1), .val (.int v2), .val (.int v3), .val (.int (2 : Int32)), .unset, .unset]) rfl (pc' := 23) rfl ?_
  refine k_iload A0 hx (hb hby own_d3_23) rfl (pc' := 25) rfl ?_
  refine k_newint S0 hx hZ (hw _ (List.mem_of_getElem? (i := 11) rfl)) (hb hby own_d3_25) (by decide) 2 (by decide) (by decide) (by decide) (by decide) (pc' := 27) rfl ?_
  intro T2 h2 b2 g2 E2 V2 S2
  have bo3 : h0.size ≤ b2 := Nat.le_trans K1.1 (Nat.le_of_eq g2.symm)
  have ge3 : n0 ≤ b2 := Nat.le_trans Z0 bo3
  have A2 := S2.here
  have K4 := K1.ext E2
  have V2 : IV Z h2 b2 [(0 : Int32), (0 : Int32)] := V2
  refine k_astore A2 hx (hb hby own_d3_27) rfl (Ls' := #[.val (.int (10 : Int32)), .val (.int v0), .val (.int v1), .val (.int v2), .val (.int v3), .val (.int (2 : Int32)), .val (.ref b2), .unset]) rfl (pc' := 29) rfl ?_
  refine k_iconst A2 hx (hb hby own_d3_29) (v := 0) rfl (pc' := 30) rfl ?_
  refine k_istore A2 hx (hb hby own_d3_30) (Ls' := #[.val (.int (10 : Int32)), .val (.int v0), .val (.int v1), .val (.int v2), .val (.int v3), .val (.int (2 : Int32)), .val (.ref b2), .val (.int (0 : Int32))]) rfl (pc' := 32) rfl ?_
  refine k_iloadN A2 hx (hb hby own_d3_32) rfl (pc' := 33) rfl ?_
  refine k_iconst A2 hx (hb hby own_d3_33) (v := 1) rfl (pc' := 34) rfl ?_
  refine k_iand A2 hx (hb hby own_d3_34) (pc' := 35) rfl ?_
  refine k_if_eq A2 hx (hb hby own_d3_35) (pcY := 50) (by decide) (pc' := 38) rfl (fun hc35 => ?_) (fun hc35 => absurd (by decide) hc35)
  refine k_iloadN A2 hx (hb hby own_d3_50) rfl (pc' := 51) rfl ?_
  refine k_iconst A2 hx (hb hby own_d3_51) (v := 2) rfl (pc' := 52) rfl ?_
  refine k_iand A2 hx (hb hby own_d3_52) (pc' := 53) rfl ?_
  refine k_if_eq A2 hx (hb hby own_d3_53) (pcY := 68) (by decide) (pc' := 56) rfl (fun hc53 => absurd hc53 (by decide)) (fun hc53 => ?_)
  refine k_aload A2 hx (hb hby own_d3_56) rfl rfl (pc' := 58) rfl ?_
  refine k_iload A2 hx (hb hby own_d3_58) rfl (pc' := 60) rfl ?_
  refine k_iloadN A2 hx (hb hby own_d3_60) rfl (pc' := 61) rfl ?_
  refine k_iastore S2 hx hZ V2 (hb hby own_d3_61) (by decide) (by first | decide | (simp; done)) ge3 (pc' := 62) rfl ?_
  intro T5 h5 W5 V5 S5
  have A5 := S5.here
  have K7 := K4.wr W5 (Or.inr bo3)
  have V5 : IV Z h5 b2 [v1, (0 : Int32)] := V5
  refine k_iload A5 hx (hb hby own_d3_62) rfl (pc' := 64) rfl ?_
  refine k_iconst A5 hx (hb hby own_d3_64) (v := 1) rfl (pc' := 65) rfl ?_
  refine k_iadd A5 hx (hb hby own_d3_65) (pc' := 66) rfl ?_
  rw [show ((0 : Int32) + (1 : Int32)) = (1 : Int32) from by decide]
  refine k_istore A5 hx (hb hby own_d3_66) (Ls' := #[.val (.int (10 : Int32)), .val (.int v0), .val (.int v1), .val (.int v2), .val (.int v3), .val (.int (2 : Int32)), .val (.ref b2), .val (.int (1 : Int32))]) rfl (pc' := 68) rfl ?_
  refine k_iloadN A5 hx (hb hby own_d3_68) rfl (pc' := 69) rfl ?_
  refine k_iconst A5 hx (hb hby own_d3_69) (v := 4) rfl (pc' := 70) rfl ?_
  refine k_iand A5 hx (hb hby own_d3_70) (pc' := 71) rfl ?_
  refine k_if_eq A5 hx (hb hby own_d3_71) (pcY := 86) (by decide) (pc' := 74) rfl (fun hc71 => ?_) (fun hc71 => absurd (by decide) hc71)
  refine k_iloadN A5 hx (hb hby own_d3_86) rfl (pc' := 87) rfl ?_
  refine k_bipush A5 hx (hb hby own_d3_87) (v := 8) rfl (pc' := 89) rfl ?_
  refine k_iand A5 hx (hb hby own_d3_89) (pc' := 90) rfl ?_
  refine k_if_eq A5 hx (hb hby own_d3_90) (pcY := 106) (by decide) (pc' := 93) rfl (fun hc90 => absurd hc90 (by decide)) (fun hc90 => ?_)
  refine k_aload A5 hx (hb hby own_d3_93) rfl rfl (pc' := 95) rfl ?_
  refine k_iload A5 hx (hb hby own_d3_95) rfl (pc' := 97) rfl ?_
  refine k_iload A5 hx (hb hby own_d3_97) rfl (pc' := 99) rfl ?_
  refine k_iastore S5 hx hZ V5 (hb hby own_d3_99) (by decide) (by first | decide | (simp; done)) ge3 (pc' := 100) rfl ?_
  intro T8 h8 W8 V8 S8
  have A8 := S8.here
  have K10 := K7.wr W8 (Or.inr bo3)
  have V8 : IV Z h8 b2 [v1, v3] := V8
  refine k_iload A8 hx (hb hby own_d3_100) rfl (pc' := 102) rfl ?_
  refine k_iconst A8 hx (hb hby own_d3_102) (v := 1) rfl (pc' := 103) rfl ?_
  refine k_iadd A8 hx (hb hby own_d3_103) (pc' := 104) rfl ?_
  rw [show ((1 : Int32) + (1 : Int32)) = (2 : Int32) from by decide]
  refine k_istore A8 hx (hb hby own_d3_104) (Ls' := #[.val (.int (10 : Int32)), .val (.int v0), .val (.int v1), .val (.int v2), .val (.int v3), .val (.int (2 : Int32)), .val (.ref b2), .val (.int (2 : Int32))]) rfl (pc' := 106) rfl ?_
  refine k_aload A8 hx (hb hby own_d3_106) rfl rfl (pc' := 108) rfl ?_
  refine k_ret_ref S8 hx hret rfl hlk (hb hby own_d3_108) (by decide) (by decide) ?_
  exact ⟨b2, rfl, bo3, K10, V8⟩
set_option maxRecDepth 65536 in
set_option maxHeartbeats 40000000 in
theorem own_sub11 (l : Launch) (Z : State) (a0 : Array Value) (hw : ∀ d ∈ tables_1, d.before a0 Z = true) (v0 v1 v2 v3 : Int32) (h0 : Heap) (n0 : Nat) (Z0 : n0 ≤ h0.size) :
    Con l Z (⟨"com/example/vestigium/vestigium/semantics/SortedSetsContainsAllPinLaw", "subset", "(IIIII)[I"⟩ : MethodName) method_2_code 8 (some (.array .int)) ({ frames := 0, cells := 1, slots := 4, locals := 0 } : Room) n0 h0 #[(.int (11 : Int32)), (.int v0), (.int v1), (.int v2), (.int v3)] (fun v h => ∃ b, v = some (.ref b) ∧ h0.size ≤ b ∧ Keep h0 h [] ∧ IV Z h b (own_subl (11 : Int32) v0 v1 v2 v3)) := by
  refine Con.intro (plainFor_of_name own_pn3) (Ls := #[.val (.int (11 : Int32)), .val (.int v0), .val (.int v1), .val (.int v2), .val (.int v3), .unset, .unset, .unset]) (fun m => by first | (simp [entryFrame, mkF, argsToLocals, Value.category]; done) | rfl) ?_
  intro p e s m below meth c s₁ hx hby hml hown hnm hret hlk hZ S0
  have A0 := S0.here
  have K1 := Keep.refl h0 []
  refine k_iloadN A0 hx (hb hby own_d3_0) rfl (pc' := 1) rfl ?_
  refine k_iconst A0 hx (hb hby own_d3_1) (v := 1) rfl (pc' := 2) rfl ?_
  refine k_iand A0 hx (hb hby own_d3_2) (pc' := 3) rfl ?_
  refine k_iloadN A0 hx (hb hby own_d3_3) rfl (pc' := 4) rfl ?_
  refine k_iconst A0 hx (hb hby own_d3_4) (v := 1) rfl (pc' := 5) rfl ?_
  refine k_ishr A0 hx (hb hby own_d3_5) (pc' := 6) rfl ?_
  refine k_iconst A0 hx (hb hby own_d3_6) (v := 1) rfl (pc' := 7) rfl ?_
  refine k_iand A0 hx (hb hby own_d3_7) (pc' := 8) rfl ?_
  refine k_iadd A0 hx (hb hby own_d3_8) (pc' := 9) rfl ?_
  refine k_iloadN A0 hx (hb hby own_d3_9) rfl (pc' := 10) rfl ?_
  refine k_iconst A0 hx (hb hby own_d3_10) (v := 2) rfl (pc' := 11) rfl ?_
  refine k_ishr A0 hx (hb hby own_d3_11) (pc' := 12) rfl ?_
  refine k_iconst A0 hx (hb hby own_d3_12) (v := 1) rfl (pc' := 13) rfl ?_
  refine k_iand A0 hx (hb hby own_d3_13) (pc' := 14) rfl ?_
  refine k_iadd A0 hx (hb hby own_d3_14) (pc' := 15) rfl ?_
  refine k_iloadN A0 hx (hb hby own_d3_15) rfl (pc' := 16) rfl ?_
  refine k_iconst A0 hx (hb hby own_d3_16) (v := 3) rfl (pc' := 17) rfl ?_
  refine k_ishr A0 hx (hb hby own_d3_17) (pc' := 18) rfl ?_
  refine k_iconst A0 hx (hb hby own_d3_18) (v := 1) rfl (pc' := 19) rfl ?_
  refine k_iand A0 hx (hb hby own_d3_19) (pc' := 20) rfl ?_
  refine k_iadd A0 hx (hb hby own_d3_20) (pc' := 21) rfl ?_
  rw [show (((((11 : Int32) &&& (1 : Int32)) + (((11 : Int32) >>> ((1 : Int32) &&& 31)) &&& (1 : Int32))) + (((11 : Int32) >>> ((2 : Int32) &&& 31)) &&& (1 : Int32))) + (((11 : Int32) >>> ((3 : Int32) &&& 31)) &&& (1 : Int32))) = (3 : Int32) from by decide]
  refine k_istore A0 hx (hb hby own_d3_21) (Ls' := #[.val (.int (11 : Int32)), .val (.int v0), .val (.int v1), .val (.int v2), .val (.int v3), .val (.int (3 : Int32)), .unset, .unset]) rfl (pc' := 23) rfl ?_
  refine k_iload A0 hx (hb hby own_d3_23) rfl (pc' := 25) rfl ?_
  refine k_newint S0 hx hZ (hw _ (List.mem_of_getElem? (i := 11) rfl)) (hb hby own_d3_25) (by decide) 3 (by decide) (by decide) (by decide) (by decide) (pc' := 27) rfl ?_
  intro T2 h2 b2 g2 E2 V2 S2
  have bo3 : h0.size ≤ b2 := Nat.le_trans K1.1 (Nat.le_of_eq g2.symm)
  have ge3 : n0 ≤ b2 := Nat.le_trans Z0 bo3
  have A2 := S2.here
  have K4 := K1.ext E2
  have V2 : IV Z h2 b2 [(0 : Int32), (0 : Int32), (0 : Int32)] := V2
  refine k_astore A2 hx (hb hby own_d3_27) rfl (Ls' := #[.val (.int (11 : Int32)), .val (.int v0), .val (.int v1), .val (.int v2), .val (.int v3), .val (.int (3 : Int32)), .val (.ref b2), .unset]) rfl (pc' := 29) rfl ?_
  refine k_iconst A2 hx (hb hby own_d3_29) (v := 0) rfl (pc' := 30) rfl ?_
  refine k_istore A2 hx (hb hby own_d3_30) (Ls' := #[.val (.int (11 : Int32)), .val (.int v0), .val (.int v1), .val (.int v2), .val (.int v3), .val (.int (3 : Int32)), .val (.ref b2), .val (.int (0 : Int32))]) rfl (pc' := 32) rfl ?_
  refine k_iloadN A2 hx (hb hby own_d3_32) rfl (pc' := 33) rfl ?_
  refine k_iconst A2 hx (hb hby own_d3_33) (v := 1) rfl (pc' := 34) rfl ?_
  refine k_iand A2 hx (hb hby own_d3_34) (pc' := 35) rfl ?_
  refine k_if_eq A2 hx (hb hby own_d3_35) (pcY := 50) (by decide) (pc' := 38) rfl (fun hc35 => absurd hc35 (by decide)) (fun hc35 => ?_)
  refine k_aload A2 hx (hb hby own_d3_38) rfl rfl (pc' := 40) rfl ?_
  refine k_iload A2 hx (hb hby own_d3_40) rfl (pc' := 42) rfl ?_
  refine k_iloadN A2 hx (hb hby own_d3_42) rfl (pc' := 43) rfl ?_
  refine k_iastore S2 hx hZ V2 (hb hby own_d3_43) (by decide) (by first | decide | (simp; done)) ge3 (pc' := 44) rfl ?_
  intro T5 h5 W5 V5 S5
  have A5 := S5.here
  have K7 := K4.wr W5 (Or.inr bo3)
  have V5 : IV Z h5 b2 [v0, (0 : Int32), (0 : Int32)] := V5
  refine k_iload A5 hx (hb hby own_d3_44) rfl (pc' := 46) rfl ?_
  refine k_iconst A5 hx (hb hby own_d3_46) (v := 1) rfl (pc' := 47) rfl ?_
  refine k_iadd A5 hx (hb hby own_d3_47) (pc' := 48) rfl ?_
  rw [show ((0 : Int32) + (1 : Int32)) = (1 : Int32) from by decide]
  refine k_istore A5 hx (hb hby own_d3_48) (Ls' := #[.val (.int (11 : Int32)), .val (.int v0), .val (.int v1), .val (.int v2), .val (.int v3), .val (.int (3 : Int32)), .val (.ref b2), .val (.int (1 : Int32))]) rfl (pc' := 50) rfl ?_
  refine k_iloadN A5 hx (hb hby own_d3_50) rfl (pc' := 51) rfl ?_
  refine k_iconst A5 hx (hb hby own_d3_51) (v := 2) rfl (pc' := 52) rfl ?_
  refine k_iand A5 hx (hb hby own_d3_52) (pc' := 53) rfl ?_
  refine k_if_eq A5 hx (hb hby own_d3_53) (pcY := 68) (by decide) (pc' := 56) rfl (fun hc53 => absurd hc53 (by decide)) (fun hc53 => ?_)
  refine k_aload A5 hx (hb hby own_d3_56) rfl rfl (pc' := 58) rfl ?_
  refine k_iload A5 hx (hb hby own_d3_58) rfl (pc' := 60) rfl ?_
  refine k_iloadN A5 hx (hb hby own_d3_60) rfl (pc' := 61) rfl ?_
  refine k_iastore S5 hx hZ V5 (hb hby own_d3_61) (by decide) (by first | decide | (simp; done)) ge3 (pc' := 62) rfl ?_
  intro T8 h8 W8 V8 S8
  have A8 := S8.here
  have K10 := K7.wr W8 (Or.inr bo3)
  have V8 : IV Z h8 b2 [v0, v1, (0 : Int32)] := V8
  refine k_iload A8 hx (hb hby own_d3_62) rfl (pc' := 64) rfl ?_
  refine k_iconst A8 hx (hb hby own_d3_64) (v := 1) rfl (pc' := 65) rfl ?_
  refine k_iadd A8 hx (hb hby own_d3_65) (pc' := 66) rfl ?_
  rw [show ((1 : Int32) + (1 : Int32)) = (2 : Int32) from by decide]
  refine k_istore A8 hx (hb hby own_d3_66) (Ls' := #[.val (.int (11 : Int32)), .val (.int v0), .val (.int v1), .val (.int v2), .val (.int v3), .val (.int (3 : Int32)), .val (.ref b2), .val (.int (2 : Int32))]) rfl (pc' := 68) rfl ?_
  refine k_iloadN A8 hx (hb hby own_d3_68) rfl (pc' := 69) rfl ?_
  refine k_iconst A8 hx (hb hby own_d3_69) (v := 4) rfl (pc' := 70) rfl ?_
  refine k_iand A8 hx (hb hby own_d3_70) (pc' := 71) rfl ?_
  refine k_if_eq A8 hx (hb hby own_d3_71) (pcY := 86) (by decide) (pc' := 74) rfl (fun hc71 => ?_) (fun hc71 => absurd (by decide) hc71)
  refine k_iloadN A8 hx (hb hby own_d3_86) rfl (pc' := 87) rfl ?_
  refine k_bipush A8 hx (hb hby own_d3_87) (v := 8) rfl (pc' := 89) rfl ?_
  refine k_iand A8 hx (hb hby own_d3_89) (pc' := 90) rfl ?_
  refine k_if_eq A8 hx (hb hby own_d3_90) (pcY := 106) (by decide) (pc' := 93) rfl (fun hc90 => absurd hc90 (by decide)) (fun hc90 => ?_)
  refine k_aload A8 hx (hb hby own_d3_93) rfl rfl (pc' := 95) rfl ?_
  refine k_iload A8 hx (hb hby own_d3_95) rfl (pc' := 97) rfl ?_
  refine k_iload A8 hx (hb hby own_d3_97) rfl (pc' := 99) rfl ?_
  refine k_iastore S8 hx hZ V8 (hb hby own_d3_99) (by decide) (by first | decide | (simp; done)) ge3 (pc' := 100) rfl ?_
  intro T11 h11 W11 V11 S11
  have A11 := S11.here
  have K13 := K10.wr W11 (Or.inr bo3)
  have V11 : IV Z h11 b2 [v0, v1, v3] := V11
  refine k_iload A11 hx (hb hby own_d3_100) rfl (pc' := 102) rfl ?_
  refine k_iconst A11 hx (hb hby own_d3_102) (v := 1) rfl (pc' := 103) rfl ?_
  refine k_iadd A11 hx (hb hby own_d3_103) (pc' := 104) rfl ?_
  rw [show ((2 : Int32) + (1 : Int32)) = (3 : Int32) from by decide]
  refine k_istore A11 hx (hb hby own_d3_104) (Ls' := #[.val (.int (11 : Int32)), .val (.int v0), .val (.int v1), .val (.int v2), .val (.int v3), .val (.int (3 : Int32)), .val (.ref b2), .val (.int (3 : Int32))]) rfl (pc' := 106) rfl ?_
  refine k_aload A11 hx (hb hby own_d3_106) rfl rfl (pc' := 108) rfl ?_
  refine k_ret_ref S11 hx hret rfl hlk (hb hby own_d3_108) (by decide) (by decide) ?_
  exact ⟨b2, rfl, bo3, K13, V11⟩
set_option maxRecDepth 65536 in
set_option maxHeartbeats 40000000 in
theorem own_sub12 (l : Launch) (Z : State) (a0 : Array Value) (hw : ∀ d ∈ tables_1, d.before a0 Z = true) (v0 v1 v2 v3 : Int32) (h0 : Heap) (n0 : Nat) (Z0 : n0 ≤ h0.size) :
    Con l Z (⟨"com/example/vestigium/vestigium/semantics/SortedSetsContainsAllPinLaw", "subset", "(IIIII)[I"⟩ : MethodName) method_2_code 8 (some (.array .int)) ({ frames := 0, cells := 1, slots := 4, locals := 0 } : Room) n0 h0 #[(.int (12 : Int32)), (.int v0), (.int v1), (.int v2), (.int v3)] (fun v h => ∃ b, v = some (.ref b) ∧ h0.size ≤ b ∧ Keep h0 h [] ∧ IV Z h b (own_subl (12 : Int32) v0 v1 v2 v3)) := by
  refine Con.intro (plainFor_of_name own_pn3) (Ls := #[.val (.int (12 : Int32)), .val (.int v0), .val (.int v1), .val (.int v2), .val (.int v3), .unset, .unset, .unset]) (fun m => by first | (simp [entryFrame, mkF, argsToLocals, Value.category]; done) | rfl) ?_
  intro p e s m below meth c s₁ hx hby hml hown hnm hret hlk hZ S0
  have A0 := S0.here
  have K1 := Keep.refl h0 []
  refine k_iloadN A0 hx (hb hby own_d3_0) rfl (pc' := 1) rfl ?_
  refine k_iconst A0 hx (hb hby own_d3_1) (v := 1) rfl (pc' := 2) rfl ?_
  refine k_iand A0 hx (hb hby own_d3_2) (pc' := 3) rfl ?_
  refine k_iloadN A0 hx (hb hby own_d3_3) rfl (pc' := 4) rfl ?_
  refine k_iconst A0 hx (hb hby own_d3_4) (v := 1) rfl (pc' := 5) rfl ?_
  refine k_ishr A0 hx (hb hby own_d3_5) (pc' := 6) rfl ?_
  refine k_iconst A0 hx (hb hby own_d3_6) (v := 1) rfl (pc' := 7) rfl ?_
  refine k_iand A0 hx (hb hby own_d3_7) (pc' := 8) rfl ?_
  refine k_iadd A0 hx (hb hby own_d3_8) (pc' := 9) rfl ?_
  refine k_iloadN A0 hx (hb hby own_d3_9) rfl (pc' := 10) rfl ?_
  refine k_iconst A0 hx (hb hby own_d3_10) (v := 2) rfl (pc' := 11) rfl ?_
  refine k_ishr A0 hx (hb hby own_d3_11) (pc' := 12) rfl ?_
  refine k_iconst A0 hx (hb hby own_d3_12) (v := 1) rfl (pc' := 13) rfl ?_
  refine k_iand A0 hx (hb hby own_d3_13) (pc' := 14) rfl ?_
  refine k_iadd A0 hx (hb hby own_d3_14) (pc' := 15) rfl ?_
  refine k_iloadN A0 hx (hb hby own_d3_15) rfl (pc' := 16) rfl ?_
  refine k_iconst A0 hx (hb hby own_d3_16) (v := 3) rfl (pc' := 17) rfl ?_
  refine k_ishr A0 hx (hb hby own_d3_17) (pc' := 18) rfl ?_
  refine k_iconst A0 hx (hb hby own_d3_18) (v := 1) rfl (pc' := 19) rfl ?_
  refine k_iand A0 hx (hb hby own_d3_19) (pc' := 20) rfl ?_
  refine k_iadd A0 hx (hb hby own_d3_20) (pc' := 21) rfl ?_
  rw [show (((((12 : Int32) &&& (1 : Int32)) + (((12 : Int32) >>> ((1 : Int32) &&& 31)) &&& (1 : Int32))) + (((12 : Int32) >>> ((2 : Int32) &&& 31)) &&& (1 : Int32))) + (((12 : Int32) >>> ((3 : Int32) &&& 31)) &&& (1 : Int32))) = (2 : Int32) from by decide]
  refine k_istore A0 hx (hb hby own_d3_21) (Ls' := #[.val (.int (12 : Int32)), .val (.int v0), .val (.int v1), .val (.int v2), .val (.int v3), .val (.int (2 : Int32)), .unset, .unset]) rfl (pc' := 23) rfl ?_
  refine k_iload A0 hx (hb hby own_d3_23) rfl (pc' := 25) rfl ?_
  refine k_newint S0 hx hZ (hw _ (List.mem_of_getElem? (i := 11) rfl)) (hb hby own_d3_25) (by decide) 2 (by decide) (by decide) (by decide) (by decide) (pc' := 27) rfl ?_
  intro T2 h2 b2 g2 E2 V2 S2
  have bo3 : h0.size ≤ b2 := Nat.le_trans K1.1 (Nat.le_of_eq g2.symm)
  have ge3 : n0 ≤ b2 := Nat.le_trans Z0 bo3
  have A2 := S2.here
  have K4 := K1.ext E2
  have V2 : IV Z h2 b2 [(0 : Int32), (0 : Int32)] := V2
  refine k_astore A2 hx (hb hby own_d3_27) rfl (Ls' := #[.val (.int (12 : Int32)), .val (.int v0), .val (.int v1), .val (.int v2), .val (.int v3), .val (.int (2 : Int32)), .val (.ref b2), .unset]) rfl (pc' := 29) rfl ?_
  refine k_iconst A2 hx (hb hby own_d3_29) (v := 0) rfl (pc' := 30) rfl ?_
  refine k_istore A2 hx (hb hby own_d3_30) (Ls' := #[.val (.int (12 : Int32)), .val (.int v0), .val (.int v1), .val (.int v2), .val (.int v3), .val (.int (2 : Int32)), .val (.ref b2), .val (.int (0 : Int32))]) rfl (pc' := 32) rfl ?_
  refine k_iloadN A2 hx (hb hby own_d3_32) rfl (pc' := 33) rfl ?_
  refine k_iconst A2 hx (hb hby own_d3_33) (v := 1) rfl (pc' := 34) rfl ?_
  refine k_iand A2 hx (hb hby own_d3_34) (pc' := 35) rfl ?_
  refine k_if_eq A2 hx (hb hby own_d3_35) (pcY := 50) (by decide) (pc' := 38) rfl (fun hc35 => ?_) (fun hc35 => absurd (by decide) hc35)
  refine k_iloadN A2 hx (hb hby own_d3_50) rfl (pc' := 51) rfl ?_
  refine k_iconst A2 hx (hb hby own_d3_51) (v := 2) rfl (pc' := 52) rfl ?_
  refine k_iand A2 hx (hb hby own_d3_52) (pc' := 53) rfl ?_
  refine k_if_eq A2 hx (hb hby own_d3_53) (pcY := 68) (by decide) (pc' := 56) rfl (fun hc53 => ?_) (fun hc53 => absurd (by decide) hc53)
  refine k_iloadN A2 hx (hb hby own_d3_68) rfl (pc' := 69) rfl ?_
  refine k_iconst A2 hx (hb hby own_d3_69) (v := 4) rfl (pc' := 70) rfl ?_
  refine k_iand A2 hx (hb hby own_d3_70) (pc' := 71) rfl ?_
  refine k_if_eq A2 hx (hb hby own_d3_71) (pcY := 86) (by decide) (pc' := 74) rfl (fun hc71 => absurd hc71 (by decide)) (fun hc71 => ?_)
  refine k_aload A2 hx (hb hby own_d3_74) rfl rfl (pc' := 76) rfl ?_
  refine k_iload A2 hx (hb hby own_d3_76) rfl (pc' := 78) rfl ?_
  refine k_iloadN A2 hx (hb hby own_d3_78) rfl (pc' := 79) rfl ?_
  refine k_iastore S2 hx hZ V2 (hb hby own_d3_79) (by decide) (by first | decide | (simp; done)) ge3 (pc' := 80) rfl ?_
  intro T5 h5 W5 V5 S5
  have A5 := S5.here
  have K7 := K4.wr W5 (Or.inr bo3)
  have V5 : IV Z h5 b2 [v2, (0 : Int32)] := V5
  refine k_iload A5 hx (hb hby own_d3_80) rfl (pc' := 82) rfl ?_
  refine k_iconst A5 hx (hb hby own_d3_82) (v := 1) rfl (pc' := 83) rfl ?_
  refine k_iadd A5 hx (hb hby own_d3_83) (pc' := 84) rfl ?_
  rw [show ((0 : Int32) + (1 : Int32)) = (1 : Int32) from by decide]
  refine k_istore A5 hx (hb hby own_d3_84) (Ls' := #[.val (.int (12 : Int32)), .val (.int v0), .val (.int v1), .val (.int v2), .val (.int v3), .val (.int (2 : Int32)), .val (.ref b2), .val (.int (1 : Int32))]) rfl (pc' := 86) rfl ?_
  refine k_iloadN A5 hx (hb hby own_d3_86) rfl (pc' := 87) rfl ?_
  refine k_bipush A5 hx (hb hby own_d3_87) (v := 8) rfl (pc' := 89) rfl ?_
  refine k_iand A5 hx (hb hby own_d3_89) (pc' := 90) rfl ?_
  refine k_if_eq A5 hx (hb hby own_d3_90) (pcY := 106) (by decide) (pc' := 93) rfl (fun hc90 => absurd hc90 (by decide)) (fun hc90 => ?_)
  refine k_aload A5 hx (hb hby own_d3_93) rfl rfl (pc' := 95) rfl ?_
  refine k_iload A5 hx (hb hby own_d3_95) rfl (pc' := 97) rfl ?_
  refine k_iload A5 hx (hb hby own_d3_97) rfl (pc' := 99) rfl ?_
  refine k_iastore S5 hx hZ V5 (hb hby own_d3_99) (by decide) (by first | decide | (simp; done)) ge3 (pc' := 100) rfl ?_
  intro T8 h8 W8 V8 S8
  have A8 := S8.here
  have K10 := K7.wr W8 (Or.inr bo3)
  have V8 : IV Z h8 b2 [v2, v3] := V8
  refine k_iload A8 hx (hb hby own_d3_100) rfl (pc' := 102) rfl ?_
  refine k_iconst A8 hx (hb hby own_d3_102) (v := 1) rfl (pc' := 103) rfl ?_
  refine k_iadd A8 hx (hb hby own_d3_103) (pc' := 104) rfl ?_
  rw [show ((1 : Int32) + (1 : Int32)) = (2 : Int32) from by decide]
  refine k_istore A8 hx (hb hby own_d3_104) (Ls' := #[.val (.int (12 : Int32)), .val (.int v0), .val (.int v1), .val (.int v2), .val (.int v3), .val (.int (2 : Int32)), .val (.ref b2), .val (.int (2 : Int32))]) rfl (pc' := 106) rfl ?_
  refine k_aload A8 hx (hb hby own_d3_106) rfl rfl (pc' := 108) rfl ?_
  refine k_ret_ref S8 hx hret rfl hlk (hb hby own_d3_108) (by decide) (by decide) ?_
  exact ⟨b2, rfl, bo3, K10, V8⟩
set_option maxRecDepth 65536 in
set_option maxHeartbeats 40000000 in
theorem own_sub13 (l : Launch) (Z : State) (a0 : Array Value) (hw : ∀ d ∈ tables_1, d.before a0 Z = true) (v0 v1 v2 v3 : Int32) (h0 : Heap) (n0 : Nat) (Z0 : n0 ≤ h0.size) :
    Con l Z (⟨"com/example/vestigium/vestigium/semantics/SortedSetsContainsAllPinLaw", "subset", "(IIIII)[I"⟩ : MethodName) method_2_code 8 (some (.array .int)) ({ frames := 0, cells := 1, slots := 4, locals := 0 } : Room) n0 h0 #[(.int (13 : Int32)), (.int v0), (.int v1), (.int v2), (.int v3)] (fun v h => ∃ b, v = some (.ref b) ∧ h0.size ≤ b ∧ Keep h0 h [] ∧ IV Z h b (own_subl (13 : Int32) v0 v1 v2 v3)) := by
  refine Con.intro (plainFor_of_name own_pn3) (Ls := #[.val (.int (13 : Int32)), .val (.int v0), .val (.int v1), .val (.int v2), .val (.int v3), .unset, .unset, .unset]) (fun m => by first | (simp [entryFrame, mkF, argsToLocals, Value.category]; done) | rfl) ?_
  intro p e s m below meth c s₁ hx hby hml hown hnm hret hlk hZ S0
  have A0 := S0.here
  have K1 := Keep.refl h0 []
  refine k_iloadN A0 hx (hb hby own_d3_0) rfl (pc' := 1) rfl ?_
  refine k_iconst A0 hx (hb hby own_d3_1) (v := 1) rfl (pc' := 2) rfl ?_
  refine k_iand A0 hx (hb hby own_d3_2) (pc' := 3) rfl ?_
  refine k_iloadN A0 hx (hb hby own_d3_3) rfl (pc' := 4) rfl ?_
  refine k_iconst A0 hx (hb hby own_d3_4) (v := 1) rfl (pc' := 5) rfl ?_
  refine k_ishr A0 hx (hb hby own_d3_5) (pc' := 6) rfl ?_
  refine k_iconst A0 hx (hb hby own_d3_6) (v := 1) rfl (pc' := 7) rfl ?_
  refine k_iand A0 hx (hb hby own_d3_7) (pc' := 8) rfl ?_
  refine k_iadd A0 hx (hb hby own_d3_8) (pc' := 9) rfl ?_
  refine k_iloadN A0 hx (hb hby own_d3_9) rfl (pc' := 10) rfl ?_
  refine k_iconst A0 hx (hb hby own_d3_10) (v := 2) rfl (pc' := 11) rfl ?_
  refine k_ishr A0 hx (hb hby own_d3_11) (pc' := 12) rfl ?_
  refine k_iconst A0 hx (hb hby own_d3_12) (v := 1) rfl (pc' := 13) rfl ?_
  refine k_iand A0 hx (hb hby own_d3_13) (pc' := 14) rfl ?_
  refine k_iadd A0 hx (hb hby own_d3_14) (pc' := 15) rfl ?_
  refine k_iloadN A0 hx (hb hby own_d3_15) rfl (pc' := 16) rfl ?_
  refine k_iconst A0 hx (hb hby own_d3_16) (v := 3) rfl (pc' := 17) rfl ?_
  refine k_ishr A0 hx (hb hby own_d3_17) (pc' := 18) rfl ?_
  refine k_iconst A0 hx (hb hby own_d3_18) (v := 1) rfl (pc' := 19) rfl ?_
  refine k_iand A0 hx (hb hby own_d3_19) (pc' := 20) rfl ?_
  refine k_iadd A0 hx (hb hby own_d3_20) (pc' := 21) rfl ?_
  rw [show (((((13 : Int32) &&& (1 : Int32)) + (((13 : Int32) >>> ((1 : Int32) &&& 31)) &&& (1 : Int32))) + (((13 : Int32) >>> ((2 : Int32) &&& 31)) &&& (1 : Int32))) + (((13 : Int32) >>> ((3 : Int32) &&& 31)) &&& (1 : Int32))) = (3 : Int32) from by decide]
  refine k_istore A0 hx (hb hby own_d3_21) (Ls' := #[.val (.int (13 : Int32)), .val (.int v0), .val (.int v1), .val (.int v2), .val (.int v3), .val (.int (3 : Int32)), .unset, .unset]) rfl (pc' := 23) rfl ?_
  refine k_iload A0 hx (hb hby own_d3_23) rfl (pc' := 25) rfl ?_
  refine k_newint S0 hx hZ (hw _ (List.mem_of_getElem? (i := 11) rfl)) (hb hby own_d3_25) (by decide) 3 (by decide) (by decide) (by decide) (by decide) (pc' := 27) rfl ?_
  intro T2 h2 b2 g2 E2 V2 S2
  have bo3 : h0.size ≤ b2 := Nat.le_trans K1.1 (Nat.le_of_eq g2.symm)
  have ge3 : n0 ≤ b2 := Nat.le_trans Z0 bo3
  have A2 := S2.here
  have K4 := K1.ext E2
  have V2 : IV Z h2 b2 [(0 : Int32), (0 : Int32), (0 : Int32)] := V2
  refine k_astore A2 hx (hb hby own_d3_27) rfl (Ls' := #[.val (.int (13 : Int32)), .val (.int v0), .val (.int v1), .val (.int v2), .val (.int v3), .val (.int (3 : Int32)), .val (.ref b2), .unset]) rfl (pc' := 29) rfl ?_
  refine k_iconst A2 hx (hb hby own_d3_29) (v := 0) rfl (pc' := 30) rfl ?_
  refine k_istore A2 hx (hb hby own_d3_30) (Ls' := #[.val (.int (13 : Int32)), .val (.int v0), .val (.int v1), .val (.int v2), .val (.int v3), .val (.int (3 : Int32)), .val (.ref b2), .val (.int (0 : Int32))]) rfl (pc' := 32) rfl ?_
  refine k_iloadN A2 hx (hb hby own_d3_32) rfl (pc' := 33) rfl ?_
  refine k_iconst A2 hx (hb hby own_d3_33) (v := 1) rfl (pc' := 34) rfl ?_
  refine k_iand A2 hx (hb hby own_d3_34) (pc' := 35) rfl ?_
  refine k_if_eq A2 hx (hb hby own_d3_35) (pcY := 50) (by decide) (pc' := 38) rfl (fun hc35 => absurd hc35 (by decide)) (fun hc35 => ?_)
  refine k_aload A2 hx (hb hby own_d3_38) rfl rfl (pc' := 40) rfl ?_
  refine k_iload A2 hx (hb hby own_d3_40) rfl (pc' := 42) rfl ?_
  refine k_iloadN A2 hx (hb hby own_d3_42) rfl (pc' := 43) rfl ?_
  refine k_iastore S2 hx hZ V2 (hb hby own_d3_43) (by decide) (by first | decide | (simp; done)) ge3 (pc' := 44) rfl ?_
  intro T5 h5 W5 V5 S5
  have A5 := S5.here
  have K7 := K4.wr W5 (Or.inr bo3)
  have V5 : IV Z h5 b2 [v0, (0 : Int32), (0 : Int32)] := V5
  refine k_iload A5 hx (hb hby own_d3_44) rfl (pc' := 46) rfl ?_
  refine k_iconst A5 hx (hb hby own_d3_46) (v := 1) rfl (pc' := 47) rfl ?_
  refine k_iadd A5 hx (hb hby own_d3_47) (pc' := 48) rfl ?_
  rw [show ((0 : Int32) + (1 : Int32)) = (1 : Int32) from by decide]
  refine k_istore A5 hx (hb hby own_d3_48) (Ls' := #[.val (.int (13 : Int32)), .val (.int v0), .val (.int v1), .val (.int v2), .val (.int v3), .val (.int (3 : Int32)), .val (.ref b2), .val (.int (1 : Int32))]) rfl (pc' := 50) rfl ?_
  refine k_iloadN A5 hx (hb hby own_d3_50) rfl (pc' := 51) rfl ?_
  refine k_iconst A5 hx (hb hby own_d3_51) (v := 2) rfl (pc' := 52) rfl ?_
  refine k_iand A5 hx (hb hby own_d3_52) (pc' := 53) rfl ?_
  refine k_if_eq A5 hx (hb hby own_d3_53) (pcY := 68) (by decide) (pc' := 56) rfl (fun hc53 => ?_) (fun hc53 => absurd (by decide) hc53)
  refine k_iloadN A5 hx (hb hby own_d3_68) rfl (pc' := 69) rfl ?_
  refine k_iconst A5 hx (hb hby own_d3_69) (v := 4) rfl (pc' := 70) rfl ?_
  refine k_iand A5 hx (hb hby own_d3_70) (pc' := 71) rfl ?_
  refine k_if_eq A5 hx (hb hby own_d3_71) (pcY := 86) (by decide) (pc' := 74) rfl (fun hc71 => absurd hc71 (by decide)) (fun hc71 => ?_)
  refine k_aload A5 hx (hb hby own_d3_74) rfl rfl (pc' := 76) rfl ?_
  refine k_iload A5 hx (hb hby own_d3_76) rfl (pc' := 78) rfl ?_
  refine k_iloadN A5 hx (hb hby own_d3_78) rfl (pc' := 79) rfl ?_
  refine k_iastore S5 hx hZ V5 (hb hby own_d3_79) (by decide) (by first | decide | (simp; done)) ge3 (pc' := 80) rfl ?_
  intro T8 h8 W8 V8 S8
  have A8 := S8.here
  have K10 := K7.wr W8 (Or.inr bo3)
  have V8 : IV Z h8 b2 [v0, v2, (0 : Int32)] := V8
  refine k_iload A8 hx (hb hby own_d3_80) rfl (pc' := 82) rfl ?_
  refine k_iconst A8 hx (hb hby own_d3_82) (v := 1) rfl (pc' := 83) rfl ?_
  refine k_iadd A8 hx (hb hby own_d3_83) (pc' := 84) rfl ?_
  rw [show ((1 : Int32) + (1 : Int32)) = (2 : Int32) from by decide]
  refine k_istore A8 hx (hb hby own_d3_84) (Ls' := #[.val (.int (13 : Int32)), .val (.int v0), .val (.int v1), .val (.int v2), .val (.int v3), .val (.int (3 : Int32)), .val (.ref b2), .val (.int (2 : Int32))]) rfl (pc' := 86) rfl ?_
  refine k_iloadN A8 hx (hb hby own_d3_86) rfl (pc' := 87) rfl ?_
  refine k_bipush A8 hx (hb hby own_d3_87) (v := 8) rfl (pc' := 89) rfl ?_
  refine k_iand A8 hx (hb hby own_d3_89) (pc' := 90) rfl ?_
  refine k_if_eq A8 hx (hb hby own_d3_90) (pcY := 106) (by decide) (pc' := 93) rfl (fun hc90 => absurd hc90 (by decide)) (fun hc90 => ?_)
  refine k_aload A8 hx (hb hby own_d3_93) rfl rfl (pc' := 95) rfl ?_
  refine k_iload A8 hx (hb hby own_d3_95) rfl (pc' := 97) rfl ?_
  refine k_iload A8 hx (hb hby own_d3_97) rfl (pc' := 99) rfl ?_
  refine k_iastore S8 hx hZ V8 (hb hby own_d3_99) (by decide) (by first | decide | (simp; done)) ge3 (pc' := 100) rfl ?_
  intro T11 h11 W11 V11 S11
  have A11 := S11.here
  have K13 := K10.wr W11 (Or.inr bo3)
  have V11 : IV Z h11 b2 [v0, v2, v3] := V11
  refine k_iload A11 hx (hb hby own_d3_100) rfl (pc' := 102) rfl ?_
  refine k_iconst A11 hx (hb hby own_d3_102) (v := 1) rfl (pc' := 103) rfl ?_
  refine k_iadd A11 hx (hb hby own_d3_103) (pc' := 104) rfl ?_
  rw [show ((2 : Int32) + (1 : Int32)) = (3 : Int32) from by decide]
  refine k_istore A11 hx (hb hby own_d3_104) (Ls' := #[.val (.int (13 : Int32)), .val (.int v0), .val (.int v1), .val (.int v2), .val (.int v3), .val (.int (3 : Int32)), .val (.ref b2), .val (.int (3 : Int32))]) rfl (pc' := 106) rfl ?_
  refine k_aload A11 hx (hb hby own_d3_106) rfl rfl (pc' := 108) rfl ?_
  refine k_ret_ref S11 hx hret rfl hlk (hb hby own_d3_108) (by decide) (by decide) ?_
  exact ⟨b2, rfl, bo3, K13, V11⟩
set_option maxRecDepth 65536 in
set_option maxHeartbeats 40000000 in
theorem own_sub14 (l : Launch) (Z : State) (a0 : Array Value) (hw : ∀ d ∈ tables_1, d.before a0 Z = true) (v0 v1 v2 v3 : Int32) (h0 : Heap) (n0 : Nat) (Z0 : n0 ≤ h0.size) :
    Con l Z (⟨"com/example/vestigium/vestigium/semantics/SortedSetsContainsAllPinLaw", "subset", "(IIIII)[I"⟩ : MethodName) method_2_code 8 (some (.array .int)) ({ frames := 0, cells := 1, slots := 4, locals := 0 } : Room) n0 h0 #[(.int (14 : Int32)), (.int v0), (.int v1), (.int v2), (.int v3)] (fun v h => ∃ b, v = some (.ref b) ∧ h0.size ≤ b ∧ Keep h0 h [] ∧ IV Z h b (own_subl (14 : Int32) v0 v1 v2 v3)) := by
  refine Con.intro (plainFor_of_name own_pn3) (Ls := #[.val (.int (14 : Int32)), .val (.int v0), .val (.int v1), .val (.int v2), .val (.int v3), .unset, .unset, .unset]) (fun m => by first | (simp [entryFrame, mkF, argsToLocals, Value.category]; done) | rfl) ?_
  intro p e s m below meth c s₁ hx hby hml hown hnm hret hlk hZ S0
  have A0 := S0.here
  have K1 := Keep.refl h0 []
  refine k_iloadN A0 hx (hb hby own_d3_0) rfl (pc' := 1) rfl ?_
  refine k_iconst A0 hx (hb hby own_d3_1) (v := 1) rfl (pc' := 2) rfl ?_
  refine k_iand A0 hx (hb hby own_d3_2) (pc' := 3) rfl ?_
  refine k_iloadN A0 hx (hb hby own_d3_3) rfl (pc' := 4) rfl ?_
  refine k_iconst A0 hx (hb hby own_d3_4) (v := 1) rfl (pc' := 5) rfl ?_
  refine k_ishr A0 hx (hb hby own_d3_5) (pc' := 6) rfl ?_
  refine k_iconst A0 hx (hb hby own_d3_6) (v := 1) rfl (pc' := 7) rfl ?_
  refine k_iand A0 hx (hb hby own_d3_7) (pc' := 8) rfl ?_
  refine k_iadd A0 hx (hb hby own_d3_8) (pc' := 9) rfl ?_
  refine k_iloadN A0 hx (hb hby own_d3_9) rfl (pc' := 10) rfl ?_
  refine k_iconst A0 hx (hb hby own_d3_10) (v := 2) rfl (pc' := 11) rfl ?_
  refine k_ishr A0 hx (hb hby own_d3_11) (pc' := 12) rfl ?_
  refine k_iconst A0 hx (hb hby own_d3_12) (v := 1) rfl (pc' := 13) rfl ?_
  refine k_iand A0 hx (hb hby own_d3_13) (pc' := 14) rfl ?_
  refine k_iadd A0 hx (hb hby own_d3_14) (pc' := 15) rfl ?_
  refine k_iloadN A0 hx (hb hby own_d3_15) rfl (pc' := 16) rfl ?_
  refine k_iconst A0 hx (hb hby own_d3_16) (v := 3) rfl (pc' := 17) rfl ?_
  refine k_ishr A0 hx (hb hby own_d3_17) (pc' := 18) rfl ?_
  refine k_iconst A0 hx (hb hby own_d3_18) (v := 1) rfl (pc' := 19) rfl ?_
  refine k_iand A0 hx (hb hby own_d3_19) (pc' := 20) rfl ?_
  refine k_iadd A0 hx (hb hby own_d3_20) (pc' := 21) rfl ?_
  rw [show (((((14 : Int32) &&& (1 : Int32)) + (((14 : Int32) >>> ((1 : Int32) &&& 31)) &&& (1 : Int32))) + (((14 : Int32) >>> ((2 : Int32) &&& 31)) &&& (1 : Int32))) + (((14 : Int32) >>> ((3 : Int32) &&& 31)) &&& (1 : Int32))) = (3 : Int32) from by decide]
  refine k_istore A0 hx (hb hby own_d3_21) (Ls' := #[.val (.int (14 : Int32)), .val (.int v0), .val (.int v1), .val (.int v2), .val (.int v3), .val (.int (3 : Int32)), .unset, .unset]) rfl (pc' := 23) rfl ?_
  refine k_iload A0 hx (hb hby own_d3_23) rfl (pc' := 25) rfl ?_
  refine k_newint S0 hx hZ (hw _ (List.mem_of_getElem? (i := 11) rfl)) (hb hby own_d3_25) (by decide) 3 (by decide) (by decide) (by decide) (by decide) (pc' := 27) rfl ?_
  intro T2 h2 b2 g2 E2 V2 S2
  have bo3 : h0.size ≤ b2 := Nat.le_trans K1.1 (Nat.le_of_eq g2.symm)
  have ge3 : n0 ≤ b2 := Nat.le_trans Z0 bo3
  have A2 := S2.here
  have K4 := K1.ext E2
  have V2 : IV Z h2 b2 [(0 : Int32), (0 : Int32), (0 : Int32)] := V2
  refine k_astore A2 hx (hb hby own_d3_27) rfl (Ls' := #[.val (.int (14 : Int32)), .val (.int v0), .val (.int v1), .val (.int v2), .val (.int v3), .val (.int (3 : Int32)), .val (.ref b2), .unset]) rfl (pc' := 29) rfl ?_
  refine k_iconst A2 hx (hb hby own_d3_29) (v := 0) rfl (pc' := 30) rfl ?_
  refine k_istore A2 hx (hb hby own_d3_30) (Ls' := #[.val (.int (14 : Int32)), .val (.int v0), .val (.int v1), .val (.int v2), .val (.int v3), .val (.int (3 : Int32)), .val (.ref b2), .val (.int (0 : Int32))]) rfl (pc' := 32) rfl ?_
  refine k_iloadN A2 hx (hb hby own_d3_32) rfl (pc' := 33) rfl ?_
  refine k_iconst A2 hx (hb hby own_d3_33) (v := 1) rfl (pc' := 34) rfl ?_
  refine k_iand A2 hx (hb hby own_d3_34) (pc' := 35) rfl ?_
  refine k_if_eq A2 hx (hb hby own_d3_35) (pcY := 50) (by decide) (pc' := 38) rfl (fun hc35 => ?_) (fun hc35 => absurd (by decide) hc35)
  refine k_iloadN A2 hx (hb hby own_d3_50) rfl (pc' := 51) rfl ?_
  refine k_iconst A2 hx (hb hby own_d3_51) (v := 2) rfl (pc' := 52) rfl ?_
  refine k_iand A2 hx (hb hby own_d3_52) (pc' := 53) rfl ?_
  refine k_if_eq A2 hx (hb hby own_d3_53) (pcY := 68) (by decide) (pc' := 56) rfl (fun hc53 => absurd hc53 (by decide)) (fun hc53 => ?_)
  refine k_aload A2 hx (hb hby own_d3_56) rfl rfl (pc' := 58) rfl ?_
  refine k_iload A2 hx (hb hby own_d3_58) rfl (pc' := 60) rfl ?_
  refine k_iloadN A2 hx (hb hby own_d3_60) rfl (pc' := 61) rfl ?_
  refine k_iastore S2 hx hZ V2 (hb hby own_d3_61) (by decide) (by first | decide | (simp; done)) ge3 (pc' := 62) rfl ?_
  intro T5 h5 W5 V5 S5
  have A5 := S5.here
  have K7 := K4.wr W5 (Or.inr bo3)
  have V5 : IV Z h5 b2 [v1, (0 : Int32), (0 : Int32)] := V5
  refine k_iload A5 hx (hb hby own_d3_62) rfl (pc' := 64) rfl ?_
  refine k_iconst A5 hx (hb hby own_d3_64) (v := 1) rfl (pc' := 65) rfl ?_
  refine k_iadd A5 hx (hb hby own_d3_65) (pc' := 66) rfl ?_
  rw [show ((0 : Int32) + (1 : Int32)) = (1 : Int32) from by decide]
  refine k_istore A5 hx (hb hby own_d3_66) (Ls' := #[.val (.int (14 : Int32)), .val (.int v0), .val (.int v1), .val (.int v2), .val (.int v3), .val (.int (3 : Int32)), .val (.ref b2), .val (.int (1 : Int32))]) rfl (pc' := 68) rfl ?_
  refine k_iloadN A5 hx (hb hby own_d3_68) rfl (pc' := 69) rfl ?_
  refine k_iconst A5 hx (hb hby own_d3_69) (v := 4) rfl (pc' := 70) rfl ?_
  refine k_iand A5 hx (hb hby own_d3_70) (pc' := 71) rfl ?_
  refine k_if_eq A5 hx (hb hby own_d3_71) (pcY := 86) (by decide) (pc' := 74) rfl (fun hc71 => absurd hc71 (by decide)) (fun hc71 => ?_)
  refine k_aload A5 hx (hb hby own_d3_74) rfl rfl (pc' := 76) rfl ?_
  refine k_iload A5 hx (hb hby own_d3_76) rfl (pc' := 78) rfl ?_
  refine k_iloadN A5 hx (hb hby own_d3_78) rfl (pc' := 79) rfl ?_
  refine k_iastore S5 hx hZ V5 (hb hby own_d3_79) (by decide) (by first | decide | (simp; done)) ge3 (pc' := 80) rfl ?_
  intro T8 h8 W8 V8 S8
  have A8 := S8.here
  have K10 := K7.wr W8 (Or.inr bo3)
  have V8 : IV Z h8 b2 [v1, v2, (0 : Int32)] := V8
  refine k_iload A8 hx (hb hby own_d3_80) rfl (pc' := 82) rfl ?_
  refine k_iconst A8 hx (hb hby own_d3_82) (v := 1) rfl (pc' := 83) rfl ?_
  refine k_iadd A8 hx (hb hby own_d3_83) (pc' := 84) rfl ?_
  rw [show ((1 : Int32) + (1 : Int32)) = (2 : Int32) from by decide]
  refine k_istore A8 hx (hb hby own_d3_84) (Ls' := #[.val (.int (14 : Int32)), .val (.int v0), .val (.int v1), .val (.int v2), .val (.int v3), .val (.int (3 : Int32)), .val (.ref b2), .val (.int (2 : Int32))]) rfl (pc' := 86) rfl ?_
  refine k_iloadN A8 hx (hb hby own_d3_86) rfl (pc' := 87) rfl ?_
  refine k_bipush A8 hx (hb hby own_d3_87) (v := 8) rfl (pc' := 89) rfl ?_
  refine k_iand A8 hx (hb hby own_d3_89) (pc' := 90) rfl ?_
  refine k_if_eq A8 hx (hb hby own_d3_90) (pcY := 106) (by decide) (pc' := 93) rfl (fun hc90 => absurd hc90 (by decide)) (fun hc90 => ?_)
  refine k_aload A8 hx (hb hby own_d3_93) rfl rfl (pc' := 95) rfl ?_
  refine k_iload A8 hx (hb hby own_d3_95) rfl (pc' := 97) rfl ?_
  refine k_iload A8 hx (hb hby own_d3_97) rfl (pc' := 99) rfl ?_
  refine k_iastore S8 hx hZ V8 (hb hby own_d3_99) (by decide) (by first | decide | (simp; done)) ge3 (pc' := 100) rfl ?_
  intro T11 h11 W11 V11 S11
  have A11 := S11.here
  have K13 := K10.wr W11 (Or.inr bo3)
  have V11 : IV Z h11 b2 [v1, v2, v3] := V11
  refine k_iload A11 hx (hb hby own_d3_100) rfl (pc' := 102) rfl ?_
  refine k_iconst A11 hx (hb hby own_d3_102) (v := 1) rfl (pc' := 103) rfl ?_
  refine k_iadd A11 hx (hb hby own_d3_103) (pc' := 104) rfl ?_
  rw [show ((2 : Int32) + (1 : Int32)) = (3 : Int32) from by decide]
  refine k_istore A11 hx (hb hby own_d3_104) (Ls' := #[.val (.int (14 : Int32)), .val (.int v0), .val (.int v1), .val (.int v2), .val (.int v3), .val (.int (3 : Int32)), .val (.ref b2), .val (.int (3 : Int32))]) rfl (pc' := 106) rfl ?_
  refine k_aload A11 hx (hb hby own_d3_106) rfl rfl (pc' := 108) rfl ?_
  refine k_ret_ref S11 hx hret rfl hlk (hb hby own_d3_108) (by decide) (by decide) ?_
  exact ⟨b2, rfl, bo3, K13, V11⟩
set_option maxRecDepth 65536 in
set_option maxHeartbeats 40000000 in
theorem own_sub15 (l : Launch) (Z : State) (a0 : Array Value) (hw : ∀ d ∈ tables_1, d.before a0 Z = true) (v0 v1 v2 v3 : Int32) (h0 : Heap) (n0 : Nat) (Z0 : n0 ≤ h0.size) :
    Con l Z (⟨"com/example/vestigium/vestigium/semantics/SortedSetsContainsAllPinLaw", "subset", "(IIIII)[I"⟩ : MethodName) method_2_code 8 (some (.array .int)) ({ frames := 0, cells := 1, slots := 4, locals := 0 } : Room) n0 h0 #[(.int (15 : Int32)), (.int v0), (.int v1), (.int v2), (.int v3)] (fun v h => ∃ b, v = some (.ref b) ∧ h0.size ≤ b ∧ Keep h0 h [] ∧ IV Z h b (own_subl (15 : Int32) v0 v1 v2 v3)) := by
  refine Con.intro (plainFor_of_name own_pn3) (Ls := #[.val (.int (15 : Int32)), .val (.int v0), .val (.int v1), .val (.int v2), .val (.int v3), .unset, .unset, .unset]) (fun m => by first | (simp [entryFrame, mkF, argsToLocals, Value.category]; done) | rfl) ?_
  intro p e s m below meth c s₁ hx hby hml hown hnm hret hlk hZ S0
  have A0 := S0.here
  have K1 := Keep.refl h0 []
  refine k_iloadN A0 hx (hb hby own_d3_0) rfl (pc' := 1) rfl ?_
  refine k_iconst A0 hx (hb hby own_d3_1) (v := 1) rfl (pc' := 2) rfl ?_
  refine k_iand A0 hx (hb hby own_d3_2) (pc' := 3) rfl ?_
  refine k_iloadN A0 hx (hb hby own_d3_3) rfl (pc' := 4) rfl ?_
  refine k_iconst A0 hx (hb hby own_d3_4) (v := 1) rfl (pc' := 5) rfl ?_
  refine k_ishr A0 hx (hb hby own_d3_5) (pc' := 6) rfl ?_
  refine k_iconst A0 hx (hb hby own_d3_6) (v := 1) rfl (pc' := 7) rfl ?_
  refine k_iand A0 hx (hb hby own_d3_7) (pc' := 8) rfl ?_
  refine k_iadd A0 hx (hb hby own_d3_8) (pc' := 9) rfl ?_
  refine k_iloadN A0 hx (hb hby own_d3_9) rfl (pc' := 10) rfl ?_
  refine k_iconst A0 hx (hb hby own_d3_10) (v := 2) rfl (pc' := 11) rfl ?_
  refine k_ishr A0 hx (hb hby own_d3_11) (pc' := 12) rfl ?_
  refine k_iconst A0 hx (hb hby own_d3_12) (v := 1) rfl (pc' := 13) rfl ?_
  refine k_iand A0 hx (hb hby own_d3_13) (pc' := 14) rfl ?_
  refine k_iadd A0 hx (hb hby own_d3_14) (pc' := 15) rfl ?_
  refine k_iloadN A0 hx (hb hby own_d3_15) rfl (pc' := 16) rfl ?_
  refine k_iconst A0 hx (hb hby own_d3_16) (v := 3) rfl (pc' := 17) rfl ?_
  refine k_ishr A0 hx (hb hby own_d3_17) (pc' := 18) rfl ?_
  refine k_iconst A0 hx (hb hby own_d3_18) (v := 1) rfl (pc' := 19) rfl ?_
  refine k_iand A0 hx (hb hby own_d3_19) (pc' := 20) rfl ?_
  refine k_iadd A0 hx (hb hby own_d3_20) (pc' := 21) rfl ?_
  rw [show (((((15 : Int32) &&& (1 : Int32)) + (((15 : Int32) >>> ((1 : Int32) &&& 31)) &&& (1 : Int32))) + (((15 : Int32) >>> ((2 : Int32) &&& 31)) &&& (1 : Int32))) + (((15 : Int32) >>> ((3 : Int32) &&& 31)) &&& (1 : Int32))) = (4 : Int32) from by decide]
  refine k_istore A0 hx (hb hby own_d3_21) (Ls' := #[.val (.int (15 : Int32)), .val (.int v0), .val (.int v1), .val (.int v2), .val (.int v3), .val (.int (4 : Int32)), .unset, .unset]) rfl (pc' := 23) rfl ?_
  refine k_iload A0 hx (hb hby own_d3_23) rfl (pc' := 25) rfl ?_
  refine k_newint S0 hx hZ (hw _ (List.mem_of_getElem? (i := 11) rfl)) (hb hby own_d3_25) (by decide) 4 (by decide) (by decide) (by decide) (by decide) (pc' := 27) rfl ?_
  intro T2 h2 b2 g2 E2 V2 S2
  have bo3 : h0.size ≤ b2 := Nat.le_trans K1.1 (Nat.le_of_eq g2.symm)
  have ge3 : n0 ≤ b2 := Nat.le_trans Z0 bo3
  have A2 := S2.here
  have K4 := K1.ext E2
  have V2 : IV Z h2 b2 [(0 : Int32), (0 : Int32), (0 : Int32), (0 : Int32)] := V2
  refine k_astore A2 hx (hb hby own_d3_27) rfl (Ls' := #[.val (.int (15 : Int32)), .val (.int v0), .val (.int v1), .val (.int v2), .val (.int v3), .val (.int (4 : Int32)), .val (.ref b2), .unset]) rfl (pc' := 29) rfl ?_
  refine k_iconst A2 hx (hb hby own_d3_29) (v := 0) rfl (pc' := 30) rfl ?_
  refine k_istore A2 hx (hb hby own_d3_30) (Ls' := #[.val (.int (15 : Int32)), .val (.int v0), .val (.int v1), .val (.int v2), .val (.int v3), .val (.int (4 : Int32)), .val (.ref b2), .val (.int (0 : Int32))]) rfl (pc' := 32) rfl ?_
  refine k_iloadN A2 hx (hb hby own_d3_32) rfl (pc' := 33) rfl ?_
  refine k_iconst A2 hx (hb hby own_d3_33) (v := 1) rfl (pc' := 34) rfl ?_
  refine k_iand A2 hx (hb hby own_d3_34) (pc' := 35) rfl ?_
  refine k_if_eq A2 hx (hb hby own_d3_35) (pcY := 50) (by decide) (pc' := 38) rfl (fun hc35 => absurd hc35 (by decide)) (fun hc35 => ?_)
  refine k_aload A2 hx (hb hby own_d3_38) rfl rfl (pc' := 40) rfl ?_
  refine k_iload A2 hx (hb hby own_d3_40) rfl (pc' := 42) rfl ?_
  refine k_iloadN A2 hx (hb hby own_d3_42) rfl (pc' := 43) rfl ?_
  refine k_iastore S2 hx hZ V2 (hb hby own_d3_43) (by decide) (by first | decide | (simp; done)) ge3 (pc' := 44) rfl ?_
  intro T5 h5 W5 V5 S5
  have A5 := S5.here
  have K7 := K4.wr W5 (Or.inr bo3)
  have V5 : IV Z h5 b2 [v0, (0 : Int32), (0 : Int32), (0 : Int32)] := V5
  refine k_iload A5 hx (hb hby own_d3_44) rfl (pc' := 46) rfl ?_
  refine k_iconst A5 hx (hb hby own_d3_46) (v := 1) rfl (pc' := 47) rfl ?_
  refine k_iadd A5 hx (hb hby own_d3_47) (pc' := 48) rfl ?_
  rw [show ((0 : Int32) + (1 : Int32)) = (1 : Int32) from by decide]
  refine k_istore A5 hx (hb hby own_d3_48) (Ls' := #[.val (.int (15 : Int32)), .val (.int v0), .val (.int v1), .val (.int v2), .val (.int v3), .val (.int (4 : Int32)), .val (.ref b2), .val (.int (1 : Int32))]) rfl (pc' := 50) rfl ?_
  refine k_iloadN A5 hx (hb hby own_d3_50) rfl (pc' := 51) rfl ?_
  refine k_iconst A5 hx (hb hby own_d3_51) (v := 2) rfl (pc' := 52) rfl ?_
  refine k_iand A5 hx (hb hby own_d3_52) (pc' := 53) rfl ?_
  refine k_if_eq A5 hx (hb hby own_d3_53) (pcY := 68) (by decide) (pc' := 56) rfl (fun hc53 => absurd hc53 (by decide)) (fun hc53 => ?_)
  refine k_aload A5 hx (hb hby own_d3_56) rfl rfl (pc' := 58) rfl ?_
  refine k_iload A5 hx (hb hby own_d3_58) rfl (pc' := 60) rfl ?_
  refine k_iloadN A5 hx (hb hby own_d3_60) rfl (pc' := 61) rfl ?_
  refine k_iastore S5 hx hZ V5 (hb hby own_d3_61) (by decide) (by first | decide | (simp; done)) ge3 (pc' := 62) rfl ?_
  intro T8 h8 W8 V8 S8
  have A8 := S8.here
  have K10 := K7.wr W8 (Or.inr bo3)
  have V8 : IV Z h8 b2 [v0, v1, (0 : Int32), (0 : Int32)] := V8
  refine k_iload A8 hx (hb hby own_d3_62) rfl (pc' := 64) rfl ?_
  refine k_iconst A8 hx (hb hby own_d3_64) (v := 1) rfl (pc' := 65) rfl ?_
  refine k_iadd A8 hx (hb hby own_d3_65) (pc' := 66) rfl ?_
  rw [show ((1 : Int32) + (1 : Int32)) = (2 : Int32) from by decide]
  refine k_istore A8 hx (hb hby own_d3_66) (Ls' := #[.val (.int (15 : Int32)), .val (.int v0), .val (.int v1), .val (.int v2), .val (.int v3), .val (.int (4 : Int32)), .val (.ref b2), .val (.int (2 : Int32))]) rfl (pc' := 68) rfl ?_
  refine k_iloadN A8 hx (hb hby own_d3_68) rfl (pc' := 69) rfl ?_
  refine k_iconst A8 hx (hb hby own_d3_69) (v := 4) rfl (pc' := 70) rfl ?_
  refine k_iand A8 hx (hb hby own_d3_70) (pc' := 71) rfl ?_
  refine k_if_eq A8 hx (hb hby own_d3_71) (pcY := 86) (by decide) (pc' := 74) rfl (fun hc71 => absurd hc71 (by decide)) (fun hc71 => ?_)
  refine k_aload A8 hx (hb hby own_d3_74) rfl rfl (pc' := 76) rfl ?_
  refine k_iload A8 hx (hb hby own_d3_76) rfl (pc' := 78) rfl ?_
  refine k_iloadN A8 hx (hb hby own_d3_78) rfl (pc' := 79) rfl ?_
  refine k_iastore S8 hx hZ V8 (hb hby own_d3_79) (by decide) (by first | decide | (simp; done)) ge3 (pc' := 80) rfl ?_
  intro T11 h11 W11 V11 S11
  have A11 := S11.here
  have K13 := K10.wr W11 (Or.inr bo3)
  have V11 : IV Z h11 b2 [v0, v1, v2, (0 : Int32)] := V11
  refine k_iload A11 hx (hb hby own_d3_80) rfl (pc' := 82) rfl ?_
  refine k_iconst A11 hx (hb hby own_d3_82) (v := 1) rfl (pc' := 83) rfl ?_
  refine k_iadd A11 hx (hb hby own_d3_83) (pc' := 84) rfl ?_
  rw [show ((2 : Int32) + (1 : Int32)) = (3 : Int32) from by decide]
  refine k_istore A11 hx (hb hby own_d3_84) (Ls' := #[.val (.int (15 : Int32)), .val (.int v0), .val (.int v1), .val (.int v2), .val (.int v3), .val (.int (4 : Int32)), .val (.ref b2), .val (.int (3 : Int32))]) rfl (pc' := 86) rfl ?_
  refine k_iloadN A11 hx (hb hby own_d3_86) rfl (pc' := 87) rfl ?_
  refine k_bipush A11 hx (hb hby own_d3_87) (v := 8) rfl (pc' := 89) rfl ?_
  refine k_iand A11 hx (hb hby own_d3_89) (pc' := 90) rfl ?_
  refine k_if_eq A11 hx (hb hby own_d3_90) (pcY := 106) (by decide) (pc' := 93) rfl (fun hc90 => absurd hc90 (by decide)) (fun hc90 => ?_)
  refine k_aload A11 hx (hb hby own_d3_93) rfl rfl (pc' := 95) rfl ?_
  refine k_iload A11 hx (hb hby own_d3_95) rfl (pc' := 97) rfl ?_
  refine k_iload A11 hx (hb hby own_d3_97) rfl (pc' := 99) rfl ?_
  refine k_iastore S11 hx hZ V11 (hb hby own_d3_99) (by decide) (by first | decide | (simp; done)) ge3 (pc' := 100) rfl ?_
  intro T14 h14 W14 V14 S14
  have A14 := S14.here
  have K16 := K13.wr W14 (Or.inr bo3)
  have V14 : IV Z h14 b2 [v0, v1, v2, v3] := V14
  refine k_iload A14 hx (hb hby own_d3_100) rfl (pc' := 102) rfl ?_
  refine k_iconst A14 hx (hb hby own_d3_102) (v := 1) rfl (pc' := 103) rfl ?_
  refine k_iadd A14 hx (hb hby own_d3_103) (pc' := 104) rfl ?_
  rw [show ((3 : Int32) + (1 : Int32)) = (4 : Int32) from by decide]
  refine k_istore A14 hx (hb hby own_d3_104) (Ls' := #[.val (.int (15 : Int32)), .val (.int v0), .val (.int v1), .val (.int v2), .val (.int v3), .val (.int (4 : Int32)), .val (.ref b2), .val (.int (4 : Int32))]) rfl (pc' := 106) rfl ?_
  refine k_aload A14 hx (hb hby own_d3_106) rfl rfl (pc' := 108) rfl ?_
  refine k_ret_ref S14 hx hret rfl hlk (hb hby own_d3_108) (by decide) (by decide) ?_
  exact ⟨b2, rfl, bo3, K16, V14⟩
theorem own_sub (l : Launch) (Z : State) (a0 : Array Value) (hw : ∀ d ∈ tables_1, d.before a0 Z = true) (m v0 v1 v2 v3 : Int32) (h0 : Heap) (n0 : Nat) (Z0 : n0 ≤ h0.size) (hm : 0 ≤ m.toInt ∧ m.toInt < 16) :
    Con l Z (⟨"com/example/vestigium/vestigium/semantics/SortedSetsContainsAllPinLaw", "subset", "(IIIII)[I"⟩ : MethodName) method_2_code 8 (some (.array .int)) ({ frames := 0, cells := 1, slots := 4, locals := 0 } : Room) n0 h0 #[.int m, .int v0, .int v1, .int v2, .int v3] (fun v h => ∃ b, v = some (.ref b) ∧ h0.size ≤ b ∧ Keep h0 h [] ∧ IV Z h b (own_subl m v0 v1 v2 v3)) := by
  rcases own_m16' m hm with rfl | rfl | rfl | rfl | rfl | rfl | rfl | rfl | rfl | rfl | rfl | rfl | rfl | rfl | rfl | rfl
  · exact own_sub0 l Z a0 hw v0 v1 v2 v3 h0 n0 Z0
  · exact own_sub1 l Z a0 hw v0 v1 v2 v3 h0 n0 Z0
  · exact own_sub2 l Z a0 hw v0 v1 v2 v3 h0 n0 Z0
  · exact own_sub3 l Z a0 hw v0 v1 v2 v3 h0 n0 Z0
  · exact own_sub4 l Z a0 hw v0 v1 v2 v3 h0 n0 Z0
  · exact own_sub5 l Z a0 hw v0 v1 v2 v3 h0 n0 Z0
  · exact own_sub6 l Z a0 hw v0 v1 v2 v3 h0 n0 Z0
  · exact own_sub7 l Z a0 hw v0 v1 v2 v3 h0 n0 Z0
  · exact own_sub8 l Z a0 hw v0 v1 v2 v3 h0 n0 Z0
  · exact own_sub9 l Z a0 hw v0 v1 v2 v3 h0 n0 Z0
  · exact own_sub10 l Z a0 hw v0 v1 v2 v3 h0 n0 Z0
  · exact own_sub11 l Z a0 hw v0 v1 v2 v3 h0 n0 Z0
  · exact own_sub12 l Z a0 hw v0 v1 v2 v3 h0 n0 Z0
  · exact own_sub13 l Z a0 hw v0 v1 v2 v3 h0 n0 Z0
  · exact own_sub14 l Z a0 hw v0 v1 v2 v3 h0 n0 Z0
  · exact own_sub15 l Z a0 hw v0 v1 v2 v3 h0 n0 Z0
theorem own_d4_0 : decode prog_68_method_4_code 0 = .ok (.iconst 0, 1) := by decide +kernel
theorem own_d4_1 : decode prog_68_method_4_code 1 = .ok (.istore_n 2, 1) := by decide +kernel
theorem own_d4_2 : decode prog_68_method_4_code 2 = .ok (.aload_n 1, 1) := by decide +kernel
theorem own_d4_3 : decode prog_68_method_4_code 3 = .ok (.astore_n 3, 1) := by decide +kernel
theorem own_d4_4 : decode prog_68_method_4_code 4 = .ok (.aload_n 3, 1) := by decide +kernel
theorem own_d4_5 : decode prog_68_method_4_code 5 = .ok (.arraylength, 1) := by decide +kernel
theorem own_d4_6 : decode prog_68_method_4_code 6 = .ok (.istore 4, 2) := by decide +kernel
theorem own_d4_8 : decode prog_68_method_4_code 8 = .ok (.iconst 0, 1) := by decide +kernel
theorem own_d4_9 : decode prog_68_method_4_code 9 = .ok (.istore 5, 2) := by decide +kernel
theorem own_d4_11 : decode prog_68_method_4_code 11 = .ok (.iload 5, 2) := by decide +kernel
theorem own_d4_13 : decode prog_68_method_4_code 13 = .ok (.iload 4, 2) := by decide +kernel
theorem own_d4_15 : decode prog_68_method_4_code 15 = .ok (.if_icmp .ge 51, 3) := by decide +kernel
theorem own_d4_18 : decode prog_68_method_4_code 18 = .ok (.aload_n 3, 1) := by decide +kernel
theorem own_d4_19 : decode prog_68_method_4_code 19 = .ok (.iload 5, 2) := by decide +kernel
theorem own_d4_21 : decode prog_68_method_4_code 21 = .ok (.iaload, 1) := by decide +kernel
theorem own_d4_22 : decode prog_68_method_4_code 22 = .ok (.istore 6, 2) := by decide +kernel
theorem own_d4_24 : decode prog_68_method_4_code 24 = .ok (.iload_n 2, 1) := by decide +kernel
theorem own_d4_25 : decode prog_68_method_4_code 25 = .ok (.aload_n 0, 1) := by decide +kernel
theorem own_d4_26 : decode prog_68_method_4_code 26 = .ok (.arraylength, 1) := by decide +kernel
theorem own_d4_27 : decode prog_68_method_4_code 27 = .ok (.if_icmp .ge 17, 3) := by decide +kernel
theorem own_d4_30 : decode prog_68_method_4_code 30 = .ok (.aload_n 0, 1) := by decide +kernel
theorem own_d4_31 : decode prog_68_method_4_code 31 = .ok (.iload_n 2, 1) := by decide +kernel
theorem own_d4_32 : decode prog_68_method_4_code 32 = .ok (.iaload, 1) := by decide +kernel
theorem own_d4_33 : decode prog_68_method_4_code 33 = .ok (.iload 6, 2) := by decide +kernel
theorem own_d4_35 : decode prog_68_method_4_code 35 = .ok (.if_icmp .ge 9, 3) := by decide +kernel
theorem own_d4_38 : decode prog_68_method_4_code 38 = .ok (.iinc 2 1, 3) := by decide +kernel
theorem own_d4_41 : decode prog_68_method_4_code 41 = .ok (.goto (-17), 3) := by decide +kernel
theorem own_d4_44 : decode prog_68_method_4_code 44 = .ok (.iload_n 2, 1) := by decide +kernel
theorem own_d4_45 : decode prog_68_method_4_code 45 = .ok (.aload_n 0, 1) := by decide +kernel
theorem own_d4_46 : decode prog_68_method_4_code 46 = .ok (.arraylength, 1) := by decide +kernel
theorem own_d4_47 : decode prog_68_method_4_code 47 = .ok (.if_icmp .eq 11, 3) := by decide +kernel
theorem own_d4_50 : decode prog_68_method_4_code 50 = .ok (.aload_n 0, 1) := by decide +kernel
theorem own_d4_51 : decode prog_68_method_4_code 51 = .ok (.iload_n 2, 1) := by decide +kernel
theorem own_d4_52 : decode prog_68_method_4_code 52 = .ok (.iaload, 1) := by decide +kernel
theorem own_d4_53 : decode prog_68_method_4_code 53 = .ok (.iload 6, 2) := by decide +kernel
theorem own_d4_55 : decode prog_68_method_4_code 55 = .ok (.if_icmp .eq 5, 3) := by decide +kernel
theorem own_d4_58 : decode prog_68_method_4_code 58 = .ok (.iconst 0, 1) := by decide +kernel
theorem own_d4_59 : decode prog_68_method_4_code 59 = .ok (.ireturn, 1) := by decide +kernel
theorem own_d4_60 : decode prog_68_method_4_code 60 = .ok (.iinc 5 1, 3) := by decide +kernel
theorem own_d4_63 : decode prog_68_method_4_code 63 = .ok (.goto (-52), 3) := by decide +kernel
theorem own_d4_66 : decode prog_68_method_4_code 66 = .ok (.iconst 1, 1) := by decide +kernel
theorem own_d4_67 : decode prog_68_method_4_code 67 = .ok (.ireturn, 1) := by decide +kernel
theorem own_pn4 : plainName "com/example/vestigium/vestigium/semantics/SortedSets" = true := by first | (simp [plainName, overriddenIn]; done) | decide +kernel
set_option maxRecDepth 65536 in
set_option maxHeartbeats 40000000 in
theorem own_ccon (l : Launch) (Z : State) (a0 : Array Value) (hw : ∀ d ∈ tables_1, d.before a0 Z = true) (a b : Addr) (h0 : Heap) (n0 : Nat) (xs ys : List Int32) (Va : IV Z h0 a xs) (Vb : IV Z h0 b ys) (hx' : own_inc xs) (hy' : own_inc ys) :
    Con l Z (⟨"com/example/vestigium/vestigium/semantics/SortedSets", "containsAll", "([I[I)Z"⟩ : MethodName) prog_68_method_4_code 7 (some .boolean) ({ frames := 0, cells := 0, slots := 0, locals := 0 } : Room) n0 h0 #[(.ref a), (.ref b)] (fun v h => ((v = some (.int 1) ∧ own_Sub xs ys) ∨ (v = some (.int 0) ∧ ¬ own_Sub xs ys)) ∧ h = h0) := by
  refine Con.intro (plainFor_of_name own_pn4) (Ls := #[.val (.ref a), .val (.ref b), .unset, .unset, .unset, .unset, .unset]) (fun m => by first | (simp [entryFrame, mkF, argsToLocals, Value.category]; done) | rfl) ?_
  intro p e s m below meth c s₁ hx hby hml hown hnm hret hlk hZ S0
  have A0 := S0.here
  have hlx := own_len32 Va.len
  have hly := own_len32 Vb.len
  have hnx := Va.len
  have hny := Vb.len
  refine k_iconst A0 hx (hb hby own_d4_0) (v := 0) rfl (pc' := 1) rfl ?_
  refine k_istoreN A0 hx (hb hby own_d4_1) (Ls' := #[.val (.ref a), .val (.ref b), .val (.int (0 : Int32)), .unset, .unset, .unset, .unset]) rfl (pc' := 2) rfl ?_
  refine k_aloadN A0 hx (hb hby own_d4_2) rfl rfl (pc' := 3) rfl ?_
  refine k_astoreN A0 hx (hb hby own_d4_3) rfl (Ls' := #[.val (.ref a), .val (.ref b), .val (.int (0 : Int32)), .val (.ref b), .unset, .unset, .unset]) rfl (pc' := 4) rfl ?_
  refine k_aloadN A0 hx (hb hby own_d4_4) rfl rfl (pc' := 5) rfl ?_
  refine k_arraylength S0 hx hZ Vb (hb hby own_d4_5) (z := (ys.length.toInt32)) (by rw [List.length_map]) (pc' := 6) rfl ?_
  refine k_istore A0 hx (hb hby own_d4_6) (Ls' := #[.val (.ref a), .val (.ref b), .val (.int (0 : Int32)), .val (.ref b), .val (.int (ys.length.toInt32)), .unset, .unset]) rfl (pc' := 8) rfl ?_
  refine k_iconst A0 hx (hb hby own_d4_8) (v := 0) rfl (pc' := 9) rfl ?_
  refine k_istore A0 hx (hb hby own_d4_9) (Ls' := #[.val (.ref a), .val (.ref b), .val (.int (0 : Int32)), .val (.ref b), .val (.int (ys.length.toInt32)), .val (.int (0 : Int32)), .unset]) rfl (pc' := 11) rfl ?_
  have L11_1 : ∀ (f : Nat) (T1 : State), ∀ (at_ : Int32), ∀ (i : Int32), ∀ (s6 : Slot), St p l e ({ frames := 0, cells := 0, slots := 0, locals := 0 } : Room) s m #[(.ref a), (.ref b)] below meth c n0 T1 h0 0 0 → ((ys.length : Int) - i.toInt < (f : Int)) → (own_I xs ys i.toInt at_.toInt) → (One s6) → Done p e below (OEnd s ({ frames := 0, cells := 0, slots := 0, locals := 0 } : Room) n0 (fun v h => ((v = some (.int 1) ∧ own_Sub xs ys) ∨ (v = some (.int 0) ∧ ¬ own_Sub xs ys)) ∧ h = h0)) (T1.setTop (mkF m 11 #[.val (.ref a), .val (.ref b), .val (.int at_), .val (.ref b), .val (.int (ys.length.toInt32)), .val (.int i), s6] [])) := by
    intro f
    induction f with
    | zero =>
      intro T1 at_ i s6 S1 hms hI hs6
      exfalso
      have q := hI.2.1; omega
    | succ f ih1 =>
      intro T1 at_ i s6 S1 hms hI hs6
      have A1 := S1.here
      refine k_iload A1 hx (hb hby own_d4_11) rfl (pc' := 13) rfl ?_
      refine k_iload A1 hx (hb hby own_d4_13) rfl (pc' := 15) rfl ?_
      refine k_icmp_ge A1 hx (hb hby own_d4_15) (pcY := 66) (by decide) (pc' := 18) rfl (fun hc15 => ?_) (fun hc15 => ?_)
      · refine k_iconst A1 hx (hb hby own_d4_66) (v := 1) rfl (pc' := 67) rfl ?_
        refine k_ret_nar S1 hx (t := .boolean) hret (by simp) hlk (hb hby own_d4_67) (z' := (1 : Int32)) rfl (by decide) (by decide) ?_
        exact ⟨Or.inl ⟨rfl, own_Iend hI (by simpa only [Int32.lt_iff_toInt_lt, hly] using hc15)⟩, rfl⟩
      · have hil : i.toInt < ys.length := by simpa only [Int32.lt_iff_toInt_lt, hly] using hc15
        have hq := hI
        refine k_aloadN A1 hx (hb hby own_d4_18) rfl rfl (pc' := 19) rfl ?_
        refine k_iload A1 hx (hb hby own_d4_19) rfl (pc' := 21) rfl ?_
        refine k_iaload S1 hx hZ Vb (hb hby own_d4_21) hI.1 hil rfl (pc' := 22) rfl ?_
        generalize hq_y : (ys.getD i.toInt.toNat 0) = y
        refine k_istore A1 hx (hb hby own_d4_22) (Ls' := #[.val (.ref a), .val (.ref b), .val (.int at_), .val (.ref b), .val (.int (ys.length.toInt32)), .val (.int i), .val (.int y)]) (store1 rfl hs6 rfl) (pc' := 24) rfl ?_
        have L24_2 : ∀ (f : Nat) (T2 : State), ∀ (at2 : Int32), St p l e ({ frames := 0, cells := 0, slots := 0, locals := 0 } : Room) s m #[(.ref a), (.ref b)] below meth c n0 T2 h0 0 0 → ((xs.length : Int) - at2.toInt < (f : Int)) → (own_I xs ys i.toInt at2.toInt) → Done p e below (OEnd s ({ frames := 0, cells := 0, slots := 0, locals := 0 } : Room) n0 (fun v h => ((v = some (.int 1) ∧ own_Sub xs ys) ∨ (v = some (.int 0) ∧ ¬ own_Sub xs ys)) ∧ h = h0)) (T2.setTop (mkF m 24 #[.val (.ref a), .val (.ref b), .val (.int at2), .val (.ref b), .val (.int (ys.length.toInt32)), .val (.int i), .val (.int y)] [])) := by
          intro f
          induction f with
          | zero =>
            intro T2 at2 S2 hms hC
            exfalso
            have q := hC.2.2.2.1; omega
          | succ f ih2 =>
            intro T2 at2 S2 hms hC
            have A2 := S2.here
            refine k_iloadN A2 hx (hb hby own_d4_24) rfl (pc' := 25) rfl ?_
            refine k_aloadN A2 hx (hb hby own_d4_25) rfl rfl (pc' := 26) rfl ?_
            refine k_arraylength S2 hx hZ Va (hb hby own_d4_26) (z := (xs.length.toInt32)) (by rw [List.length_map]) (pc' := 27) rfl ?_
            refine k_icmp_ge A2 hx (hb hby own_d4_27) (pcY := 44) (by decide) (pc' := 30) rfl (fun hc27 => ?_) (fun hc27 => ?_)
            · have hal' : at2.toInt = xs.length := by
                have q : ¬ at2.toInt < xs.length := by simpa only [Int32.lt_iff_toInt_lt, hlx] using hc27
                have r := hC.2.2.2.1
                omega
              refine k_iloadN A2 hx (hb hby own_d4_44) rfl (pc' := 45) rfl ?_
              refine k_aloadN A2 hx (hb hby own_d4_45) rfl rfl (pc' := 46) rfl ?_
              refine k_arraylength S2 hx hZ Va (hb hby own_d4_46) (z := (xs.length.toInt32)) (by rw [List.length_map]) (pc' := 47) rfl ?_
              refine k_icmp_eq A2 hx (hb hby own_d4_47) (pcY := 58) (by decide) (pc' := 50) rfl (fun hc47 => ?_) (fun hc47 => absurd (by rw [← Int32.toInt_inj, hlx]; exact hal') hc47)
              refine k_iconst A2 hx (hb hby own_d4_58) (v := 0) rfl (pc' := 59) rfl ?_
              refine k_ret_nar S2 hx (t := .boolean) hret (by simp) hlk (hb hby own_d4_59) (z' := (0 : Int32)) rfl (by decide) (by decide) ?_
              exact ⟨Or.inr ⟨rfl, own_Ino hC (q := i.toInt.toNat) (by have q := hI.1; omega) hil hal'⟩, rfl⟩
            · have hal : at2.toInt < xs.length := by simpa only [Int32.lt_iff_toInt_lt, hlx] using hc27
              refine k_aloadN A2 hx (hb hby own_d4_30) rfl rfl (pc' := 31) rfl ?_
              refine k_iloadN A2 hx (hb hby own_d4_31) rfl (pc' := 32) rfl ?_
              refine k_iaload S2 hx hZ Va (hb hby own_d4_32) hC.2.2.1 hal rfl (pc' := 33) rfl ?_
              refine k_iload A2 hx (hb hby own_d4_33) rfl (pc' := 35) rfl ?_
              refine k_icmp_ge A2 hx (hb hby own_d4_35) (pcY := 44) (by decide) (pc' := 38) rfl (fun hc35 => ?_) (fun hc35 => ?_)
              · refine k_iloadN A2 hx (hb hby own_d4_44) rfl (pc' := 45) rfl ?_
                refine k_aloadN A2 hx (hb hby own_d4_45) rfl rfl (pc' := 46) rfl ?_
                refine k_arraylength S2 hx hZ Va (hb hby own_d4_46) (z := (xs.length.toInt32)) (by rw [List.length_map]) (pc' := 47) rfl ?_
                refine k_icmp_eq A2 hx (hb hby own_d4_47) (pcY := 58) (by decide) (pc' := 50) rfl (fun hc47 => by rw [← Int32.toInt_inj, hlx] at hc47; omega) (fun hc47 => ?_)
                refine k_aloadN A2 hx (hb hby own_d4_50) rfl rfl (pc' := 51) rfl ?_
                refine k_iloadN A2 hx (hb hby own_d4_51) rfl (pc' := 52) rfl ?_
                refine k_iaload S2 hx hZ Va (hb hby own_d4_52) hC.2.2.1 hal rfl (pc' := 53) rfl ?_
                refine k_iload A2 hx (hb hby own_d4_53) rfl (pc' := 55) rfl ?_
                refine k_icmp_eq A2 hx (hb hby own_d4_55) (pcY := 60) (by decide) (pc' := 58) rfl (fun hc55 => ?_) (fun hc55 => ?_)
                · refine k_iinc A2 hx (hb hby own_d4_60) rfl (Ls' := #[.val (.ref a), .val (.ref b), .val (.int at2), .val (.ref b), .val (.int (ys.length.toInt32)), .val (.int (i + (1 : Int32))), .val (.int y)]) rfl (pc' := 63) rfl ?_
                  refine k_goto A2 hx (hb hby own_d4_63) (pc' := 11) (by decide) ?_
                  exact ih1 T2 at2 (i + (1 : Int32)) (.val (.int y)) (S2.more (by decide) (by decide)) (by rw [own_inc1 hq.1 hil Vb.len]; omega) (by rw [own_inc1 hq.1 hil Vb.len]; exact own_Ii hC (p := at2.toInt.toNat) (q := i.toInt.toNat) (by have r1 := hC.1; have r2 := hC.2.2.1; omega) (by have r1 := hC.1; have r2 := hC.2.2.1; omega) hal hil (hq_y ▸ hc55)) (One.val rfl)
                · refine k_iconst A2 hx (hb hby own_d4_58) (v := 0) rfl (pc' := 59) rfl ?_
                  refine k_ret_nar S2 hx (t := .boolean) hret (by simp) hlk (hb hby own_d4_59) (z' := (0 : Int32)) rfl (by decide) (by decide) ?_
                  exact ⟨Or.inr ⟨rfl, own_Ino2 hC hx' (p := at2.toInt.toNat) (q := i.toInt.toNat) (by have q := hC.2.2.1; omega) (by have q := hI.1; omega) hal hil (hq_y ▸ hc35) (hq_y ▸ hc55)⟩, rfl⟩
              · refine k_iinc A2 hx (hb hby own_d4_38) rfl (Ls' := #[.val (.ref a), .val (.ref b), .val (.int (at2 + (1 : Int32))), .val (.ref b), .val (.int (ys.length.toInt32)), .val (.int i), .val (.int y)]) rfl (pc' := 41) rfl ?_
                refine k_goto A2 hx (hb hby own_d4_41) (pc' := 24) (by decide) ?_
                exact ih2 T2 (at2 + (1 : Int32)) (S2.more (by decide) (by decide)) (by rw [own_inc1 hC.2.2.1 hal Va.len]; omega) (by rw [own_inc1 hC.2.2.1 hal Va.len]; exact own_Iat hC hy' (p := at2.toInt.toNat) (q := i.toInt.toNat) (by have r1 := hC.1; have r2 := hC.2.2.1; omega) (by have r1 := hC.1; have r2 := hC.2.2.1; omega) hal hil (hq_y ▸ hc35))
        exact L24_2 (xs.length + 1) T1 at_ (S1.more (by decide) (by decide)) (by have q := hI.2.2.1; omega) hI
  exact L11_1 (ys.length + 1) s₁ (0 : Int32) (0 : Int32) .unset (S0.more (by decide) (by decide)) (by show (ys.length : Int) - 0 < _; omega) (own_I0 xs ys) One.u
theorem own_pn0 : plainName "com/example/vestigium/vestigium/semantics/SortedSetsContainsAllPinLaw" = true := by first | (simp [plainName, overriddenIn]; done) | decide +kernel
theorem own_pd0 : parseMethodDescriptor "(II)I" = some ⟨[.int, .int], some .int⟩ := by decide +kernel
theorem own_pd1 : parseMethodDescriptor "(IIIII)[I" = some ⟨[.int, .int, .int, .int, .int], some (.array .int)⟩ := by decide +kernel
theorem own_pd2 : parseMethodDescriptor "([I[I)Z" = some ⟨[(.array .int), (.array .int)], some .boolean⟩ := by decide +kernel
set_option maxRecDepth 65536 in
set_option maxHeartbeats 40000000 in
theorem own_law (l : Launch) (Z : State) (a0 : Array Value) (hw : ∀ d ∈ tables_1, d.before a0 Z = true) (x0 x1 x2 x3 ma : Int32) (h0 : Heap) (n0 : Nat) (Z0 : n0 ≤ h0.size) :
    Con l Z x code maxLocals ret room_1 n0 h0 #[(.int x0), (.int x1), (.int x2), (.int x3), (.int ma)] (fun v h => v = some (.int 1)) := by
  refine Con.intro (plainFor_of_name own_pn0) (Ls := #[.val (.int x0), .val (.int x1), .val (.int x2), .val (.int x3), .val (.int ma), .unset, .unset, .unset, .unset, .unset, .unset, .unset, .unset, .unset, .unset]) (fun m => by first | (simp [entryFrame, mkF, argsToLocals, Value.category, maxLocals]; done) | rfl) ?_
  intro p e s m below meth c s₁ hx hby hml hown hnm hret hlk hZ S0
  have A0 := S0.here
  have K1 := Keep.refl h0 []
  refine k_iloadN A0 hx (hb hby at_0) rfl (pc' := 1) rfl ?_
  refine k_istore A0 hx (hb hby at_1) (Ls' := #[.val (.int x0), .val (.int x1), .val (.int x2), .val (.int x3), .val (.int ma), .val (.int x0), .unset, .unset, .unset, .unset, .unset, .unset, .unset, .unset, .unset]) rfl (pc' := 3) rfl ?_
  refine k_iloadN A0 hx (hb hby at_3) rfl (pc' := 4) rfl ?_
  refine k_istore A0 hx (hb hby at_4) (Ls' := #[.val (.int x0), .val (.int x1), .val (.int x2), .val (.int x3), .val (.int ma), .val (.int x0), .val (.int x1), .unset, .unset, .unset, .unset, .unset, .unset, .unset, .unset]) rfl (pc' := 6) rfl ?_
  refine k_iloadN A0 hx (hb hby at_6) rfl (pc' := 7) rfl ?_
  refine k_istore A0 hx (hb hby at_7) (Ls' := #[.val (.int x0), .val (.int x1), .val (.int x2), .val (.int x3), .val (.int ma), .val (.int x0), .val (.int x1), .val (.int x2), .unset, .unset, .unset, .unset, .unset, .unset, .unset]) rfl (pc' := 9) rfl ?_
  refine k_iloadN A0 hx (hb hby at_9) rfl (pc' := 10) rfl ?_
  refine k_istore A0 hx (hb hby at_10) (Ls' := #[.val (.int x0), .val (.int x1), .val (.int x2), .val (.int x3), .val (.int ma), .val (.int x0), .val (.int x1), .val (.int x2), .val (.int x3), .unset, .unset, .unset, .unset, .unset, .unset]) rfl (pc' := 12) rfl ?_
  refine k_iload A0 hx (hb hby at_12) rfl (pc' := 14) rfl ?_
  refine k_iload A0 hx (hb hby at_14) rfl (pc' := 16) rfl ?_
  refine k_call_static S0 hx hZ hown (hw _ (List.mem_of_getElem? (i := 0) rfl)) (hw _ (List.mem_of_getElem? (i := 1) rfl)) (hw _ (List.mem_of_getElem? (i := 2) rfl)) (hw _ (List.mem_of_getElem? (i := 3) rfl)) (by decide) (own_cmin l Z a0 hw x0 x1 h0 n0) 0 (argsL := [(.int x0), (.int x1)]) (rest := []) (by decide) (by decide) (by rw [hml]; rfl) (lenOf own_pd0 rfl) rfl rfl (Nat.le_refl 0) (hb hby at_16) (pc' := 19) rfl (by decide) (by decide) ?_
  rintro v2 T2 h2 ⟨rfl, q2⟩ S2
  rw [q2] at S2
  have A2 := S2.here
  show Done p e below _ (T2.setTop (mkF m 19 #[.val (.int x0), .val (.int x1), .val (.int x2), .val (.int x3), .val (.int ma), .val (.int x0), .val (.int x1), .val (.int x2), .val (.int x3), .unset, .unset, .unset, .unset, .unset, .unset] [(.int (own_min x0 x1))]))
  generalize q_a1 : (own_min x0 x1) = a1
  refine k_istore A2 hx (hb hby at_19) (Ls' := #[.val (.int x0), .val (.int x1), .val (.int x2), .val (.int x3), .val (.int ma), .val (.int x0), .val (.int x1), .val (.int x2), .val (.int x3), .val (.int a1), .unset, .unset, .unset, .unset, .unset]) rfl (pc' := 21) rfl ?_
  refine k_iload A2 hx (hb hby at_21) rfl (pc' := 23) rfl ?_
  refine k_iload A2 hx (hb hby at_23) rfl (pc' := 25) rfl ?_
  refine k_call_static S2 hx hZ hown (hw _ (List.mem_of_getElem? (i := 4) rfl)) (hw _ (List.mem_of_getElem? (i := 5) rfl)) (hw _ (List.mem_of_getElem? (i := 2) rfl)) (hw _ (List.mem_of_getElem? (i := 6) rfl)) (by decide) (own_cmax l Z a0 hw x0 x1 h0 n0) 0 (argsL := [(.int x0), (.int x1)]) (rest := []) (by decide) (by decide) (by rw [hml]; rfl) (lenOf own_pd0 rfl) rfl rfl (Nat.le_refl 0) (hb hby at_25) (pc' := 28) rfl (by decide) (by decide) ?_
  rintro v3 T3 h3 ⟨rfl, q3⟩ S3
  rw [q3] at S3
  have A3 := S3.here
  show Done p e below _ (T3.setTop (mkF m 28 #[.val (.int x0), .val (.int x1), .val (.int x2), .val (.int x3), .val (.int ma), .val (.int x0), .val (.int x1), .val (.int x2), .val (.int x3), .val (.int a1), .unset, .unset, .unset, .unset, .unset] [(.int (own_max x0 x1))]))
  generalize q_b1 : (own_max x0 x1) = b1
  refine k_istore A3 hx (hb hby at_28) (Ls' := #[.val (.int x0), .val (.int x1), .val (.int x2), .val (.int x3), .val (.int ma), .val (.int x0), .val (.int b1), .val (.int x2), .val (.int x3), .val (.int a1), .unset, .unset, .unset, .unset, .unset]) rfl (pc' := 30) rfl ?_
  refine k_iload A3 hx (hb hby at_30) rfl (pc' := 32) rfl ?_
  refine k_istore A3 hx (hb hby at_32) (Ls' := #[.val (.int x0), .val (.int x1), .val (.int x2), .val (.int x3), .val (.int ma), .val (.int a1), .val (.int b1), .val (.int x2), .val (.int x3), .val (.int a1), .unset, .unset, .unset, .unset, .unset]) rfl (pc' := 34) rfl ?_
  refine k_iload A3 hx (hb hby at_34) rfl (pc' := 36) rfl ?_
  refine k_iload A3 hx (hb hby at_36) rfl (pc' := 38) rfl ?_
  refine k_call_static S3 hx hZ hown (hw _ (List.mem_of_getElem? (i := 0) rfl)) (hw _ (List.mem_of_getElem? (i := 1) rfl)) (hw _ (List.mem_of_getElem? (i := 2) rfl)) (hw _ (List.mem_of_getElem? (i := 3) rfl)) (by decide) (own_cmin l Z a0 hw x2 x3 h0 n0) 0 (argsL := [(.int x2), (.int x3)]) (rest := []) (by decide) (by decide) (by rw [hml]; rfl) (lenOf own_pd0 rfl) rfl rfl (Nat.le_refl 0) (hb hby at_38) (pc' := 41) rfl (by decide) (by decide) ?_
  rintro v4 T4 h4 ⟨rfl, q4⟩ S4
  rw [q4] at S4
  have A4 := S4.here
  show Done p e below _ (T4.setTop (mkF m 41 #[.val (.int x0), .val (.int x1), .val (.int x2), .val (.int x3), .val (.int ma), .val (.int a1), .val (.int b1), .val (.int x2), .val (.int x3), .val (.int a1), .unset, .unset, .unset, .unset, .unset] [(.int (own_min x2 x3))]))
  generalize q_c1 : (own_min x2 x3) = c1
  refine k_istore A4 hx (hb hby at_41) (Ls' := #[.val (.int x0), .val (.int x1), .val (.int x2), .val (.int x3), .val (.int ma), .val (.int a1), .val (.int b1), .val (.int x2), .val (.int x3), .val (.int c1), .unset, .unset, .unset, .unset, .unset]) rfl (pc' := 43) rfl ?_
  refine k_iload A4 hx (hb hby at_43) rfl (pc' := 45) rfl ?_
  refine k_iload A4 hx (hb hby at_45) rfl (pc' := 47) rfl ?_
  refine k_call_static S4 hx hZ hown (hw _ (List.mem_of_getElem? (i := 4) rfl)) (hw _ (List.mem_of_getElem? (i := 5) rfl)) (hw _ (List.mem_of_getElem? (i := 2) rfl)) (hw _ (List.mem_of_getElem? (i := 6) rfl)) (by decide) (own_cmax l Z a0 hw x2 x3 h0 n0) 0 (argsL := [(.int x2), (.int x3)]) (rest := []) (by decide) (by decide) (by rw [hml]; rfl) (lenOf own_pd0 rfl) rfl rfl (Nat.le_refl 0) (hb hby at_47) (pc' := 50) rfl (by decide) (by decide) ?_
  rintro v5 T5 h5 ⟨rfl, q5⟩ S5
  rw [q5] at S5
  have A5 := S5.here
  show Done p e below _ (T5.setTop (mkF m 50 #[.val (.int x0), .val (.int x1), .val (.int x2), .val (.int x3), .val (.int ma), .val (.int a1), .val (.int b1), .val (.int x2), .val (.int x3), .val (.int c1), .unset, .unset, .unset, .unset, .unset] [(.int (own_max x2 x3))]))
  generalize q_d1 : (own_max x2 x3) = d1
  refine k_istore A5 hx (hb hby at_50) (Ls' := #[.val (.int x0), .val (.int x1), .val (.int x2), .val (.int x3), .val (.int ma), .val (.int a1), .val (.int b1), .val (.int x2), .val (.int d1), .val (.int c1), .unset, .unset, .unset, .unset, .unset]) rfl (pc' := 52) rfl ?_
  refine k_iload A5 hx (hb hby at_52) rfl (pc' := 54) rfl ?_
  refine k_istore A5 hx (hb hby at_54) (Ls' := #[.val (.int x0), .val (.int x1), .val (.int x2), .val (.int x3), .val (.int ma), .val (.int a1), .val (.int b1), .val (.int c1), .val (.int d1), .val (.int c1), .unset, .unset, .unset, .unset, .unset]) rfl (pc' := 56) rfl ?_
  refine k_iload A5 hx (hb hby at_56) rfl (pc' := 58) rfl ?_
  refine k_iload A5 hx (hb hby at_58) rfl (pc' := 60) rfl ?_
  refine k_call_static S5 hx hZ hown (hw _ (List.mem_of_getElem? (i := 0) rfl)) (hw _ (List.mem_of_getElem? (i := 1) rfl)) (hw _ (List.mem_of_getElem? (i := 2) rfl)) (hw _ (List.mem_of_getElem? (i := 3) rfl)) (by decide) (own_cmin l Z a0 hw a1 c1 h0 n0) 0 (argsL := [(.int a1), (.int c1)]) (rest := []) (by decide) (by decide) (by rw [hml]; rfl) (lenOf own_pd0 rfl) rfl rfl (Nat.le_refl 0) (hb hby at_60) (pc' := 63) rfl (by decide) (by decide) ?_
  rintro v6 T6 h6 ⟨rfl, q6⟩ S6
  rw [q6] at S6
  have A6 := S6.here
  show Done p e below _ (T6.setTop (mkF m 63 #[.val (.int x0), .val (.int x1), .val (.int x2), .val (.int x3), .val (.int ma), .val (.int a1), .val (.int b1), .val (.int c1), .val (.int d1), .val (.int c1), .unset, .unset, .unset, .unset, .unset] [(.int (own_min a1 c1))]))
  generalize q_a2 : (own_min a1 c1) = a2
  refine k_istore A6 hx (hb hby at_63) (Ls' := #[.val (.int x0), .val (.int x1), .val (.int x2), .val (.int x3), .val (.int ma), .val (.int a1), .val (.int b1), .val (.int c1), .val (.int d1), .val (.int a2), .unset, .unset, .unset, .unset, .unset]) rfl (pc' := 65) rfl ?_
  refine k_iload A6 hx (hb hby at_65) rfl (pc' := 67) rfl ?_
  refine k_iload A6 hx (hb hby at_67) rfl (pc' := 69) rfl ?_
  refine k_call_static S6 hx hZ hown (hw _ (List.mem_of_getElem? (i := 4) rfl)) (hw _ (List.mem_of_getElem? (i := 5) rfl)) (hw _ (List.mem_of_getElem? (i := 2) rfl)) (hw _ (List.mem_of_getElem? (i := 6) rfl)) (by decide) (own_cmax l Z a0 hw a1 c1 h0 n0) 0 (argsL := [(.int a1), (.int c1)]) (rest := []) (by decide) (by decide) (by rw [hml]; rfl) (lenOf own_pd0 rfl) rfl rfl (Nat.le_refl 0) (hb hby at_69) (pc' := 72) rfl (by decide) (by decide) ?_
  rintro v7 T7 h7 ⟨rfl, q7⟩ S7
  rw [q7] at S7
  have A7 := S7.here
  show Done p e below _ (T7.setTop (mkF m 72 #[.val (.int x0), .val (.int x1), .val (.int x2), .val (.int x3), .val (.int ma), .val (.int a1), .val (.int b1), .val (.int c1), .val (.int d1), .val (.int a2), .unset, .unset, .unset, .unset, .unset] [(.int (own_max a1 c1))]))
  generalize q_c2 : (own_max a1 c1) = c2
  refine k_istore A7 hx (hb hby at_72) (Ls' := #[.val (.int x0), .val (.int x1), .val (.int x2), .val (.int x3), .val (.int ma), .val (.int a1), .val (.int b1), .val (.int c2), .val (.int d1), .val (.int a2), .unset, .unset, .unset, .unset, .unset]) rfl (pc' := 74) rfl ?_
  refine k_iload A7 hx (hb hby at_74) rfl (pc' := 76) rfl ?_
  refine k_istore A7 hx (hb hby at_76) (Ls' := #[.val (.int x0), .val (.int x1), .val (.int x2), .val (.int x3), .val (.int ma), .val (.int a2), .val (.int b1), .val (.int c2), .val (.int d1), .val (.int a2), .unset, .unset, .unset, .unset, .unset]) rfl (pc' := 78) rfl ?_
  refine k_iload A7 hx (hb hby at_78) rfl (pc' := 80) rfl ?_
  refine k_iload A7 hx (hb hby at_80) rfl (pc' := 82) rfl ?_
  refine k_call_static S7 hx hZ hown (hw _ (List.mem_of_getElem? (i := 0) rfl)) (hw _ (List.mem_of_getElem? (i := 1) rfl)) (hw _ (List.mem_of_getElem? (i := 2) rfl)) (hw _ (List.mem_of_getElem? (i := 3) rfl)) (by decide) (own_cmin l Z a0 hw b1 d1 h0 n0) 0 (argsL := [(.int b1), (.int d1)]) (rest := []) (by decide) (by decide) (by rw [hml]; rfl) (lenOf own_pd0 rfl) rfl rfl (Nat.le_refl 0) (hb hby at_82) (pc' := 85) rfl (by decide) (by decide) ?_
  rintro v8 T8 h8 ⟨rfl, q8⟩ S8
  rw [q8] at S8
  have A8 := S8.here
  show Done p e below _ (T8.setTop (mkF m 85 #[.val (.int x0), .val (.int x1), .val (.int x2), .val (.int x3), .val (.int ma), .val (.int a2), .val (.int b1), .val (.int c2), .val (.int d1), .val (.int a2), .unset, .unset, .unset, .unset, .unset] [(.int (own_min b1 d1))]))
  generalize q_b2 : (own_min b1 d1) = b2
  refine k_istore A8 hx (hb hby at_85) (Ls' := #[.val (.int x0), .val (.int x1), .val (.int x2), .val (.int x3), .val (.int ma), .val (.int a2), .val (.int b1), .val (.int c2), .val (.int d1), .val (.int b2), .unset, .unset, .unset, .unset, .unset]) rfl (pc' := 87) rfl ?_
  refine k_iload A8 hx (hb hby at_87) rfl (pc' := 89) rfl ?_
  refine k_iload A8 hx (hb hby at_89) rfl (pc' := 91) rfl ?_
  refine k_call_static S8 hx hZ hown (hw _ (List.mem_of_getElem? (i := 4) rfl)) (hw _ (List.mem_of_getElem? (i := 5) rfl)) (hw _ (List.mem_of_getElem? (i := 2) rfl)) (hw _ (List.mem_of_getElem? (i := 6) rfl)) (by decide) (own_cmax l Z a0 hw b1 d1 h0 n0) 0 (argsL := [(.int b1), (.int d1)]) (rest := []) (by decide) (by decide) (by rw [hml]; rfl) (lenOf own_pd0 rfl) rfl rfl (Nat.le_refl 0) (hb hby at_91) (pc' := 94) rfl (by decide) (by decide) ?_
  rintro v9 T9 h9 ⟨rfl, q9⟩ S9
  rw [q9] at S9
  have A9 := S9.here
  show Done p e below _ (T9.setTop (mkF m 94 #[.val (.int x0), .val (.int x1), .val (.int x2), .val (.int x3), .val (.int ma), .val (.int a2), .val (.int b1), .val (.int c2), .val (.int d1), .val (.int b2), .unset, .unset, .unset, .unset, .unset] [(.int (own_max b1 d1))]))
  generalize q_d2 : (own_max b1 d1) = d2
  refine k_istore A9 hx (hb hby at_94) (Ls' := #[.val (.int x0), .val (.int x1), .val (.int x2), .val (.int x3), .val (.int ma), .val (.int a2), .val (.int b1), .val (.int c2), .val (.int d2), .val (.int b2), .unset, .unset, .unset, .unset, .unset]) rfl (pc' := 96) rfl ?_
  refine k_iload A9 hx (hb hby at_96) rfl (pc' := 98) rfl ?_
  refine k_istore A9 hx (hb hby at_98) (Ls' := #[.val (.int x0), .val (.int x1), .val (.int x2), .val (.int x3), .val (.int ma), .val (.int a2), .val (.int b2), .val (.int c2), .val (.int d2), .val (.int b2), .unset, .unset, .unset, .unset, .unset]) rfl (pc' := 100) rfl ?_
  refine k_iload A9 hx (hb hby at_100) rfl (pc' := 102) rfl ?_
  refine k_iload A9 hx (hb hby at_102) rfl (pc' := 104) rfl ?_
  refine k_call_static S9 hx hZ hown (hw _ (List.mem_of_getElem? (i := 0) rfl)) (hw _ (List.mem_of_getElem? (i := 1) rfl)) (hw _ (List.mem_of_getElem? (i := 2) rfl)) (hw _ (List.mem_of_getElem? (i := 3) rfl)) (by decide) (own_cmin l Z a0 hw b2 c2 h0 n0) 0 (argsL := [(.int b2), (.int c2)]) (rest := []) (by decide) (by decide) (by rw [hml]; rfl) (lenOf own_pd0 rfl) rfl rfl (Nat.le_refl 0) (hb hby at_104) (pc' := 107) rfl (by decide) (by decide) ?_
  rintro v10 T10 h10 ⟨rfl, q10⟩ S10
  rw [q10] at S10
  have A10 := S10.here
  show Done p e below _ (T10.setTop (mkF m 107 #[.val (.int x0), .val (.int x1), .val (.int x2), .val (.int x3), .val (.int ma), .val (.int a2), .val (.int b2), .val (.int c2), .val (.int d2), .val (.int b2), .unset, .unset, .unset, .unset, .unset] [(.int (own_min b2 c2))]))
  generalize q_b3 : (own_min b2 c2) = b3
  refine k_istore A10 hx (hb hby at_107) (Ls' := #[.val (.int x0), .val (.int x1), .val (.int x2), .val (.int x3), .val (.int ma), .val (.int a2), .val (.int b2), .val (.int c2), .val (.int d2), .val (.int b3), .unset, .unset, .unset, .unset, .unset]) rfl (pc' := 109) rfl ?_
  refine k_iload A10 hx (hb hby at_109) rfl (pc' := 111) rfl ?_
  refine k_iload A10 hx (hb hby at_111) rfl (pc' := 113) rfl ?_
  refine k_call_static S10 hx hZ hown (hw _ (List.mem_of_getElem? (i := 4) rfl)) (hw _ (List.mem_of_getElem? (i := 5) rfl)) (hw _ (List.mem_of_getElem? (i := 2) rfl)) (hw _ (List.mem_of_getElem? (i := 6) rfl)) (by decide) (own_cmax l Z a0 hw b2 c2 h0 n0) 0 (argsL := [(.int b2), (.int c2)]) (rest := []) (by decide) (by decide) (by rw [hml]; rfl) (lenOf own_pd0 rfl) rfl rfl (Nat.le_refl 0) (hb hby at_113) (pc' := 116) rfl (by decide) (by decide) ?_
  rintro v11 T11 h11 ⟨rfl, q11⟩ S11
  rw [q11] at S11
  have A11 := S11.here
  show Done p e below _ (T11.setTop (mkF m 116 #[.val (.int x0), .val (.int x1), .val (.int x2), .val (.int x3), .val (.int ma), .val (.int a2), .val (.int b2), .val (.int c2), .val (.int d2), .val (.int b3), .unset, .unset, .unset, .unset, .unset] [(.int (own_max b2 c2))]))
  generalize q_c3 : (own_max b2 c2) = c3
  refine k_istore A11 hx (hb hby at_116) (Ls' := #[.val (.int x0), .val (.int x1), .val (.int x2), .val (.int x3), .val (.int ma), .val (.int a2), .val (.int b2), .val (.int c3), .val (.int d2), .val (.int b3), .unset, .unset, .unset, .unset, .unset]) rfl (pc' := 118) rfl ?_
  refine k_iload A11 hx (hb hby at_118) rfl (pc' := 120) rfl ?_
  refine k_istore A11 hx (hb hby at_120) (Ls' := #[.val (.int x0), .val (.int x1), .val (.int x2), .val (.int x3), .val (.int ma), .val (.int a2), .val (.int b3), .val (.int c3), .val (.int d2), .val (.int b3), .unset, .unset, .unset, .unset, .unset]) rfl (pc' := 122) rfl ?_
  refine k_iload A11 hx (hb hby at_122) rfl (pc' := 124) rfl ?_
  refine k_iload A11 hx (hb hby at_124) rfl (pc' := 126) rfl ?_
  refine k_icmp_eq A11 hx (hb hby at_126) (pcY := 143) (by decide) (pc' := 129) rfl (fun hc126 => ?_) (fun hc126 => ?_)
  · refine k_iconst A11 hx (hb hby at_143) (v := 1) rfl (pc' := 144) rfl ?_
    refine k_ret_nar S11 hx (t := .boolean) hret (by simp) hlk (hb hby at_144) (z' := (1 : Int32)) rfl (by decide) (by decide) ?_
    exact rfl
  · refine k_iload A11 hx (hb hby at_129) rfl (pc' := 131) rfl ?_
    refine k_iload A11 hx (hb hby at_131) rfl (pc' := 133) rfl ?_
    refine k_icmp_eq A11 hx (hb hby at_133) (pcY := 143) (by decide) (pc' := 136) rfl (fun hc133 => ?_) (fun hc133 => ?_)
    · refine k_iconst A11 hx (hb hby at_143) (v := 1) rfl (pc' := 144) rfl ?_
      refine k_ret_nar S11 hx (t := .boolean) hret (by simp) hlk (hb hby at_144) (z' := (1 : Int32)) rfl (by decide) (by decide) ?_
      exact rfl
    · refine k_iload A11 hx (hb hby at_136) rfl (pc' := 138) rfl ?_
      refine k_iload A11 hx (hb hby at_138) rfl (pc' := 140) rfl ?_
      refine k_icmp_ne A11 hx (hb hby at_140) (pcY := 145) (by decide) (pc' := 143) rfl (fun hc140 => ?_) (fun hc140 => ?_)
      · have hst := own_sort4 (a := x0) (b := x0) (c := x0) (d := x0) q_a1.symm q_b1.symm q_c1.symm q_d1.symm q_a2.symm q_c2.symm q_b2.symm q_d2.symm q_b3.symm q_c3.symm hc126 hc133 hc140
        refine k_iload A11 hx (hb hby at_145) rfl (pc' := 147) rfl ?_
        refine k_bipush A11 hx (hb hby at_147) (v := 15) rfl (pc' := 149) rfl ?_
        refine k_iand A11 hx (hb hby at_149) (pc' := 150) rfl ?_
        have hsm := own_mask ma
        generalize q_sm : (ma &&& (15 : Int32)) = sm at hsm ⊢
        refine k_istore A11 hx (hb hby at_150) (Ls' := #[.val (.int x0), .val (.int x1), .val (.int x2), .val (.int x3), .val (.int ma), .val (.int a2), .val (.int b3), .val (.int c3), .val (.int d2), .val (.int b3), .val (.int sm), .unset, .unset, .unset, .unset]) rfl (pc' := 152) rfl ?_
        refine k_iload A11 hx (hb hby at_152) rfl (pc' := 154) rfl ?_
        refine k_iconst A11 hx (hb hby at_154) (v := 4) rfl (pc' := 155) rfl ?_
        refine k_ishr A11 hx (hb hby at_155) (pc' := 156) rfl ?_
        refine k_bipush A11 hx (hb hby at_156) (v := 15) rfl (pc' := 158) rfl ?_
        refine k_iand A11 hx (hb hby at_158) (pc' := 159) rfl ?_
        have hmm := own_mask (ma >>> ((4 : Int32) &&& 31))
        generalize q_mm : ((ma >>> ((4 : Int32) &&& 31)) &&& (15 : Int32)) = mm at hmm ⊢
        refine k_istore A11 hx (hb hby at_159) (Ls' := #[.val (.int x0), .val (.int x1), .val (.int x2), .val (.int x3), .val (.int ma), .val (.int a2), .val (.int b3), .val (.int c3), .val (.int d2), .val (.int b3), .val (.int sm), .val (.int mm), .unset, .unset, .unset]) rfl (pc' := 161) rfl ?_
        refine k_iload A11 hx (hb hby at_161) rfl (pc' := 163) rfl ?_
        refine k_iload A11 hx (hb hby at_163) rfl (pc' := 165) rfl ?_
        refine k_iload A11 hx (hb hby at_165) rfl (pc' := 167) rfl ?_
        refine k_iload A11 hx (hb hby at_167) rfl (pc' := 169) rfl ?_
        refine k_iload A11 hx (hb hby at_169) rfl (pc' := 171) rfl ?_
        refine k_call_static S11 hx hZ hown (hw _ (List.mem_of_getElem? (i := 7) rfl)) (hw _ (List.mem_of_getElem? (i := 8) rfl)) (hw _ (List.mem_of_getElem? (i := 9) rfl)) (hw _ (List.mem_of_getElem? (i := 10) rfl)) (by decide) (own_sub l Z a0 hw sm a2 b3 c3 d2 h0 n0 (Nat.le_trans Z0 K1.1) hsm) 0 (argsL := [(.int sm), (.int a2), (.int b3), (.int c3), (.int d2)]) (rest := []) (by decide) (by decide) (by rw [hml]; rfl) (lenOf own_pd1 rfl) rfl rfl (Nat.le_refl 0) (hb hby at_171) (pc' := 174) rfl (by decide) (by decide) ?_
        rintro v12 T12 h12 ⟨b12, rfl, g12, K12, V12⟩ S12
        have K13 := K1.trans K12 all0
        have A12 := S12.here
        show Done p e below _ (T12.setTop (mkF m 174 #[.val (.int x0), .val (.int x1), .val (.int x2), .val (.int x3), .val (.int ma), .val (.int a2), .val (.int b3), .val (.int c3), .val (.int d2), .val (.int b3), .val (.int sm), .val (.int mm), .unset, .unset, .unset] [(.ref b12)]))
        refine k_astore A12 hx (hb hby at_174) rfl (Ls' := #[.val (.int x0), .val (.int x1), .val (.int x2), .val (.int x3), .val (.int ma), .val (.int a2), .val (.int b3), .val (.int c3), .val (.int d2), .val (.int b3), .val (.int sm), .val (.int mm), .val (.ref b12), .unset, .unset]) rfl (pc' := 176) rfl ?_
        refine k_iload A12 hx (hb hby at_176) rfl (pc' := 178) rfl ?_
        refine k_iload A12 hx (hb hby at_178) rfl (pc' := 180) rfl ?_
        refine k_iload A12 hx (hb hby at_180) rfl (pc' := 182) rfl ?_
        refine k_iload A12 hx (hb hby at_182) rfl (pc' := 184) rfl ?_
        refine k_iload A12 hx (hb hby at_184) rfl (pc' := 186) rfl ?_
        refine k_call_static S12 hx hZ hown (hw _ (List.mem_of_getElem? (i := 7) rfl)) (hw _ (List.mem_of_getElem? (i := 8) rfl)) (hw _ (List.mem_of_getElem? (i := 9) rfl)) (hw _ (List.mem_of_getElem? (i := 10) rfl)) (by decide) (own_sub l Z a0 hw mm a2 b3 c3 d2 h12 n0 (Nat.le_trans Z0 K13.1) hmm) 0 (argsL := [(.int mm), (.int a2), (.int b3), (.int c3), (.int d2)]) (rest := []) (by decide) (by decide) (by rw [hml]; rfl) (lenOf own_pd1 rfl) rfl rfl (Nat.le_refl 0) (hb hby at_186) (pc' := 189) rfl (by decide) (by decide) ?_
        rintro v14 T14 h14 ⟨b14, rfl, g14, K14, V14⟩ S14
        have f15 := V12.keep K14 nin0
        have K16 := K13.trans K14 all0
        have A14 := S14.here
        show Done p e below _ (T14.setTop (mkF m 189 #[.val (.int x0), .val (.int x1), .val (.int x2), .val (.int x3), .val (.int ma), .val (.int a2), .val (.int b3), .val (.int c3), .val (.int d2), .val (.int b3), .val (.int sm), .val (.int mm), .val (.ref b12), .unset, .unset] [(.ref b14)]))
        refine k_astore A14 hx (hb hby at_189) rfl (Ls' := #[.val (.int x0), .val (.int x1), .val (.int x2), .val (.int x3), .val (.int ma), .val (.int a2), .val (.int b3), .val (.int c3), .val (.int d2), .val (.int b3), .val (.int sm), .val (.int mm), .val (.ref b12), .val (.ref b14), .unset]) rfl (pc' := 191) rfl ?_
        have J209_17 : ∀ (T17 : State), ∀ (be : Int32), St p l e room_1 s m #[(.int x0), (.int x1), (.int x2), (.int x3), (.int ma)] below meth c n0 T17 h14 ((0 + 1) + 1) ((0 + 4) + 4) → (be = if ((mm &&& (sm ^^^ (-1))) &&& 15 = 0) then 1 else 0) → Done p e below (OEnd s room_1 n0 (fun v h => v = some (.int 1))) (T17.setTop (mkF m 209 #[.val (.int x0), .val (.int x1), .val (.int x2), .val (.int x3), .val (.int ma), .val (.int a2), .val (.int b3), .val (.int c3), .val (.int d2), .val (.int b3), .val (.int sm), .val (.int mm), .val (.ref b12), .val (.ref b14), .unset] [(.int be)])) := by
          intro T17 be S17 hbe
          have A17 := S17.here
          refine k_istore A17 hx (hb hby at_209) (Ls' := #[.val (.int x0), .val (.int x1), .val (.int x2), .val (.int x3), .val (.int ma), .val (.int a2), .val (.int b3), .val (.int c3), .val (.int d2), .val (.int b3), .val (.int sm), .val (.int mm), .val (.ref b12), .val (.ref b14), .val (.int be)]) rfl (pc' := 211) rfl ?_
          refine k_aload A17 hx (hb hby at_211) rfl rfl (pc' := 213) rfl ?_
          refine k_aload A17 hx (hb hby at_213) rfl rfl (pc' := 215) rfl ?_
          refine k_call_static S17 hx hZ hown (hw _ (List.mem_of_getElem? (i := 12) rfl)) (hw _ (List.mem_of_getElem? (i := 13) rfl)) (hw _ (List.mem_of_getElem? (i := 14) rfl)) (hw _ (List.mem_of_getElem? (i := 15) rfl)) (by decide) (own_ccon l Z a0 hw b12 b14 h14 n0 (own_subl sm a2 b3 c3 d2) (own_subl mm a2 b3 c3 d2) f15 V14 (own_subl_inc _ _ _ _ _ hst.1 hst.2.1 hst.2.2) (own_subl_inc _ _ _ _ _ hst.1 hst.2.1 hst.2.2)) 0 (argsL := [(.ref b12), (.ref b14)]) (rest := []) (by decide) (by decide) (by rw [hml]; rfl) (lenOf own_pd2 rfl) rfl rfl (Nat.le_refl 0) (hb hby at_215) (pc' := 218) rfl (by decide) (by decide) ?_
          rintro v18 T18 h18 ⟨hres, q18⟩ S18
          rw [q18] at S18
          obtain ⟨r, rfl, hr⟩ := own_res hres
          have A18 := S18.here
          show Done p e below _ (T18.setTop (mkF m 218 #[.val (.int x0), .val (.int x1), .val (.int x2), .val (.int x3), .val (.int ma), .val (.int a2), .val (.int b3), .val (.int c3), .val (.int d2), .val (.int b3), .val (.int sm), .val (.int mm), .val (.ref b12), .val (.ref b14), .val (.int be)] [(.int r)]))
          refine k_iload A18 hx (hb hby at_218) rfl (pc' := 220) rfl ?_
          refine k_icmp_ne A18 hx (hb hby at_220) (pcY := 227) (by decide) (pc' := 223) rfl (fun hc220 => ?_) (fun hc220 => ?_)
          · refine k_iconst A18 hx (hb hby at_227) (v := 0) rfl (pc' := 228) rfl ?_
            refine k_ret_nar S18 hx (t := .boolean) hret (by simp) hlk (hb hby at_228) (z' := (0 : Int32)) rfl (by decide) (by decide) ?_
            exact absurd (own_fin hr hbe (own_law0 mm sm _ _ _ _ hmm.1 hmm.2 hsm.1 hsm.2 hst.1 hst.2.1 hst.2.2)) hc220
          · refine k_iconst A18 hx (hb hby at_223) (v := 1) rfl (pc' := 224) rfl ?_
            refine k_goto A18 hx (hb hby at_224) (pc' := 228) (by decide) ?_
            refine k_ret_nar S18 hx (t := .boolean) hret (by simp) hlk (hb hby at_228) (z' := (1 : Int32)) rfl (by decide) (by decide) ?_
            exact rfl
        refine k_iload A14 hx (hb hby at_191) rfl (pc' := 193) rfl ?_
        refine k_iload A14 hx (hb hby at_193) rfl (pc' := 195) rfl ?_
        refine k_iconst A14 hx (hb hby at_195) (v := (-1)) rfl (pc' := 196) rfl ?_
        refine k_ixor A14 hx (hb hby at_196) (pc' := 197) rfl ?_
        refine k_iand A14 hx (hb hby at_197) (pc' := 198) rfl ?_
        refine k_bipush A14 hx (hb hby at_198) (v := 15) rfl (pc' := 200) rfl ?_
        refine k_iand A14 hx (hb hby at_200) (pc' := 201) rfl ?_
        refine k_if_ne A14 hx (hb hby at_201) (pcY := 208) (by decide) (pc' := 204) rfl (fun hc201 => ?_) (fun hc201 => ?_)
        · refine k_iconst A14 hx (hb hby at_208) (v := 0) rfl (pc' := 209) rfl ?_
          exact J209_17 T14 (0 : Int32) (S14.more (by decide) (by decide)) (if_neg hc201).symm
        · refine k_iconst A14 hx (hb hby at_204) (v := 1) rfl (pc' := 205) rfl ?_
          refine k_goto A14 hx (hb hby at_205) (pc' := 209) (by decide) ?_
          exact J209_17 T14 (1 : Int32) (S14.more (by decide) (by decide)) (if_pos hc201).symm
      · refine k_iconst A11 hx (hb hby at_143) (v := 1) rfl (pc' := 144) rfl ?_
        refine k_ret_nar S11 hx (t := .boolean) hret (by simp) hlk (hb hby at_144) (z' := (1 : Int32)) rfl (by decide) (by decide) ?_
        exact rfl
set_option maxRecDepth 65536 in
set_option maxHeartbeats 40000000 in
theorem comes_1 {Post : Tables → Env → Array Value → State → Outcome → State → Prop} (hpost : ∀ tb e args s v u, (limb_1_1.after args s (.returned v) u = true ∧ limb_1_2.after args s (.returned v) u = true ∧ True) → FrameEnd s (.returned v) u (Jvm.fieldLocs frame_1_writes args s ++ Jvm.arrayLocs frame_1_arrays args s ++ Jvm.staticLocs frame_1_statics s) 16 128 → Post tb e args s (.returned v) u) :
    ArmFor flags0 classFile x code maxLocals ret World_1 tables_1 room_1 Calls_1 rest_1 Pre_1 Post := by
  intro l hfl _ _ p e ha hc hk s m args below hf hA hF happ hP
  obtain ⟨hcalls, hrest, hpre⟩ := hP
  obtain ⟨-, -, -, hnamed, -, -, -, hat⟩ := (Spec.applies_iff hf).mp happ
  obtain ⟨hg, hn⟩ := and_e (Cond.before_iff.mp (show (Jvm.Cond.and given_1 narrow_1).before args s = true from hpre))
  obtain ⟨g1, g2⟩ := and_e hg
  obtain ⟨g3, g4⟩ := and_e g2
  obtain ⟨g5, g6⟩ := and_e g4
  obtain ⟨g7, g8⟩ := and_e g6
  obtain ⟨g9, g10⟩ := and_e g8
  obtain ⟨w0, w1, w2, w3, w4, rfl⟩ : ∃ w0 w1 w2 w3 w4 : Value, args = #[w0, w1, w2, w3, w4] := by
    have hs : args.size = 5 := by simpa [Cond.value, given_1] using g1
    obtain ⟨L⟩ := args
    match L, hs with
    | [w0, w1, w2, w3, w4], _ => exact ⟨w0, w1, w2, w3, w4, rfl⟩
  have hw := fun d (hd : d ∈ tables_1) => atoms_spec (ws := Jvm.Cond.code x code maxLocals ret :: tables_1) hat d (List.mem_cons_of_mem _ hd)
  obtain ⟨i0, ei0⟩ := is_v g3
  obtain rfl : w0 = (.int i0) := Option.some.inj ei0
  obtain ⟨i1, ei1⟩ := is_v g5
  obtain rfl : w1 = (.int i1) := Option.some.inj ei1
  obtain ⟨i2, ei2⟩ := is_v g7
  obtain rfl : w2 = (.int i2) := Option.some.inj ei2
  obtain ⟨i3, ei3⟩ := is_v g9
  obtain rfl : w3 = (.int i3) := Option.some.inj ei3
  obtain ⟨i4, ei4⟩ := is_v g10
  obtain rfl : w4 = (.int i4) := Option.some.inj ei4
  obtain ⟨n, o, h1, h2, h3, _, L, rfl, ⟨rfl, N⟩, hq⟩ := own_law l s _ hw i0 i1 i2 i3 i4 s.heap s.heap.size (Nat.le_refl _) tables_1 p e ha hc hk s m _ below hf ((Spec.applies_iff_loose hf).mp happ).1 ⟨rfl, State.Warmed39.refl s, rfl⟩ trivial
  refine ⟨n, _, h1, h2, h3, hpost _ _ _ _ _ _ ⟨Cond.after_iff.mpr rfl, Cond.after_iff.mpr (eq_i res_at (Term.int_eval (1)) rfl), trivial⟩ ⟨hq.1, hq.2.1, (hq.2.2.sift fun y hy => Or.inr (N y hy)).mono (by decide) (by decide)⟩⟩
theorem main_1_1 : Claimed_1_1 := comes_1 fun _ _ _ _ _ _ h hF => ⟨h.1, hF⟩
theorem main_1_2 : Claimed_1_2 := comes_1 fun _ _ _ _ _ _ h hF => ⟨h.2.1, hF⟩
end Jvm.Pilot.@@N@@
namespace Jvm.Pilot.@@N@@
open Jvm Jvm.ClassFile Sem Op Lib Jvm.Free Jvm.Stand Jvm.Pilot.@@N@@.Jvm.D
/-! MADE BY PROGRAM (witnessworld.py) out of the Statement's table words and the real class files: 10 classes; the members and pool entries that the words name. The judged class is class 1, her method 2. -/
namespace start1
open Jvm.ClassFile
def u (s : String) : CpInfo := .utf8 (stringToUtf16 s)
/-- a pool by its gaps: so many unusable entries, then the entry; so many at the end -/
def gap : Nat → List CpInfo → List CpInfo
  | 0, r => r
  | n + 1, r => .unusable :: gap n r
def poolList (es : List (Nat × CpInfo)) (last : Nat) : List CpInfo := es.foldr (fun e r => gap e.1 (e.2 :: r)) (gap last [])
def pool (es : List (Nat × CpInfo)) (last : Nat) : Array CpInfo := ⟨poolList es last⟩
def fileOf (pool : Array CpInfo) (this : Nat) (attrs : Array Attribute := #[]) (ms : Array MethodInfo := #[]) (fl : Nat := 33) (sup : Nat := 0) (ifs : Array Nat := #[]) (fds : Array FieldInfo := #[]) : ClassFile where
  minorVersion := 0
  majorVersion := 65
  constantPool := pool
  accessFlags := fl
  thisClass := this
  superClass := sup
  interfaces := ifs
  fields := fds
  methods := ms
  attributes := attrs
def plain (name : String) (sup : Option ClassId) : Class where
  name := name
  kind := .ordinary
  loader := none
  accessFlags := 33
  super := sup
  interfaces := #[]
  cf := none
  fields := #[]
  methods := #[]
  instanceTypes := #[]
  staticTypes := #[]
  resolved := #[]
  callSites := []
  init := .initialized
  statics := none
  mirror := none

def pool0 : Array CpInfo := pool [(5, u "<init>"), (0, u "()V"), (1, .class_ 10), (1, u "java/lang/Object")] 113

def k0m0 : Method := { name := "<init>", desc := "()V", sig := { parameters := [], returnType := none }, accessFlags := 1, code := none }
/-- java/lang/Object -/
def k0 : Class := { plain "java/lang/Object" none with
  accessFlags := 33
  interfaces := #[]
  cf := some (fileOf pool0 8 #[] #[{ accessFlags := 1, nameIndex := 5, descriptorIndex := 6, attributes := #[] }] 33 0 #[] #[])
  fields := #[]
  methods := #[k0m0]
  instanceTypes := #[]
  staticTypes := #[]
  resolved := Array.replicate 124 none
  statics := none }

def pool1 : Array CpInfo := pool [(2, .class_ 4), (1, u "java/lang/Object"), (0, u "<init>"), (0, u "()V"), (0, .methodref 8 9), (0, .class_ 10), (0, .nameAndType 11 12), (0, u "java/lang/Math"), (0, u "min"), (0, u "(II)I"), (0, .methodref 8 14), (0, .nameAndType 15 12), (0, u "max"), (0, .methodref 17 18), (0, .class_ 19), (0, .nameAndType 20 21), (0, u "com/example/vestigium/vestigium/semantics/SortedSetsContainsAllPinLaw"), (0, u "subset"), (0, u "(IIIII)[I"), (0, .methodref 23 24), (0, .class_ 25), (0, .nameAndType 26 27), (0, u "com/example/vestigium/vestigium/semantics/SortedSets"), (0, u "containsAll"), (0, u "([I[I)Z"), (5, u "law"), (0, u "(IIIII)Z")] 2

def k1m0 : Method := { name := "<init>", desc := "()V", sig := { parameters := [], returnType := none }, accessFlags := 2, code := none }
def k1c1 : Code := { maxStack := 3, maxLocals := 8, code := method_2_code, exceptionTable := #[], attributes := #[] }
def k1m1 : Method := { name := "subset", desc := "(IIIII)[I", sig := { parameters := [.int, .int, .int, .int, .int], returnType := some (.array .int) }, accessFlags := 10, code := some k1c1 }
def k1c2 : Code := { maxStack := 5, maxLocals := 15, code := code, exceptionTable := #[], attributes := #[] }
def k1m2 : Method := { name := "law", desc := "(IIIII)Z", sig := { parameters := [.int, .int, .int, .int, .int], returnType := some .boolean }, accessFlags := 9, code := some k1c2 }
/-- com/example/vestigium/vestigium/semantics/SortedSetsContainsAllPinLaw -/
def k1 : Class := { plain "com/example/vestigium/vestigium/semantics/SortedSetsContainsAllPinLaw" (some 0) with
  accessFlags := 49
  interfaces := #[]
  cf := some (fileOf pool1 17 #[] #[{ accessFlags := 2, nameIndex := 5, descriptorIndex := 6, attributes := #[] }, { accessFlags := 10, nameIndex := 20, descriptorIndex := 21, attributes := #[] }, { accessFlags := 9, nameIndex := 33, descriptorIndex := 34, attributes := #[] }] 49 2 #[] #[])
  fields := #[]
  methods := #[k1m0, k1m1, k1m2]
  instanceTypes := #[]
  staticTypes := #[]
  resolved := Array.replicate 37 none
  statics := none }

def pool2 : Array CpInfo := pool [(1, .class_ 2), (0, u "java/lang/Math"), (1, .class_ 6), (1, u "java/lang/Object"), (0, u "<init>"), (0, u "()V"), (89, .class_ 100), (1, u "java/lang/Math$RandomNumberGeneratorHolder"), (71, u "negativeZeroFloatBits"), (0, u "J"), (2, u "negativeZeroDoubleBits"), (21, u "max"), (2, u "min"), (43, u "$assertionsDisabled"), (0, u "Z"), (88, u "(II)I"), (2, u "twoToTheDoubleScaleDown"), (0, u "D"), (4, u "twoToTheDoubleScaleUp"), (9, u "E"), (3, u "PI"), (2, u "TAU"), (2, u "DEGREES_TO_RADIANS"), (0, u "RADIANS_TO_DEGREES")] 94

def k2m0 : Method := { name := "<init>", desc := "()V", sig := { parameters := [], returnType := none }, accessFlags := 2, code := none }
def k2c1 : Code := { maxStack := 2, maxLocals := 2, code := jdk_29_method_65_code, exceptionTable := #[], attributes := #[] }
def k2m1 : Method := { name := "max", desc := "(II)I", sig := { parameters := [.int, .int], returnType := some .int }, accessFlags := 9, code := some k2c1 }
def k2c2 : Code := { maxStack := 2, maxLocals := 2, code := jdk_29_method_69_code, exceptionTable := #[], attributes := #[] }
def k2m2 : Method := { name := "min", desc := "(II)I", sig := { parameters := [.int, .int], returnType := some .int }, accessFlags := 9, code := some k2c2 }
/-- java/lang/Math -/
def k2 : Class := { plain "java/lang/Math" (some 0) with
  accessFlags := 49
  interfaces := #[]
  cf := some (fileOf pool2 1 #[.nestMembers #[98]] #[{ accessFlags := 2, nameIndex := 7, descriptorIndex := 8, attributes := #[] }, { accessFlags := 9, nameIndex := 198, descriptorIndex := 335, attributes := #[] }, { accessFlags := 9, nameIndex := 201, descriptorIndex := 335, attributes := #[] }] 49 4 #[] #[{ accessFlags := 25, nameIndex := 354, descriptorIndex := 339, attributes := #[] }, { accessFlags := 25, nameIndex := 358, descriptorIndex := 339, attributes := #[] }, { accessFlags := 25, nameIndex := 361, descriptorIndex := 339, attributes := #[] }, { accessFlags := 26, nameIndex := 364, descriptorIndex := 339, attributes := #[] }, { accessFlags := 26, nameIndex := 365, descriptorIndex := 339, attributes := #[] }, { accessFlags := 26, nameIndex := 172, descriptorIndex := 173, attributes := #[] }, { accessFlags := 26, nameIndex := 176, descriptorIndex := 173, attributes := #[] }, { accessFlags := 8, nameIndex := 344, descriptorIndex := 339, attributes := #[] }, { accessFlags := 8, nameIndex := 338, descriptorIndex := 339, attributes := #[] }, { accessFlags := 4120, nameIndex := 245, descriptorIndex := 246, attributes := #[] }])
  fields := #[{ name := "E", type := .double, accessFlags := 25, slot := 0, constantValue := 0 }, { name := "PI", type := .double, accessFlags := 25, slot := 1, constantValue := 0 }, { name := "TAU", type := .double, accessFlags := 25, slot := 2, constantValue := 0 }, { name := "DEGREES_TO_RADIANS", type := .double, accessFlags := 26, slot := 3, constantValue := 0 }, { name := "RADIANS_TO_DEGREES", type := .double, accessFlags := 26, slot := 4, constantValue := 0 }, { name := "negativeZeroFloatBits", type := .long, accessFlags := 26, slot := 5, constantValue := 0 }, { name := "negativeZeroDoubleBits", type := .long, accessFlags := 26, slot := 6, constantValue := 0 }, { name := "twoToTheDoubleScaleUp", type := .double, accessFlags := 8, slot := 7, constantValue := 0 }, { name := "twoToTheDoubleScaleDown", type := .double, accessFlags := 8, slot := 8, constantValue := 0 }, { name := "$assertionsDisabled", type := .boolean, accessFlags := 4120, slot := 9, constantValue := 0 }]
  methods := #[k2m0, k2m1, k2m2]
  instanceTypes := #[]
  staticTypes := #[.double, .double, .double, .double, .double, .long, .long, .double, .double, .boolean]
  resolved := Array.replicate 460 none
  statics := none }

def pool3 : Array CpInfo := pool [(2, .class_ 4), (1, u "java/lang/Object"), (0, u "<init>"), (0, u "()V"), (16, .class_ 24), (0, u "com/example/vestigium/vestigium/semantics/SortedSets"), (8, u "containsAll"), (0, u "([I[I)Z")] 3

def k3m0 : Method := { name := "<init>", desc := "()V", sig := { parameters := [], returnType := none }, accessFlags := 2, code := none }
def k3c1 : Code := { maxStack := 2, maxLocals := 7, code := prog_68_method_4_code, exceptionTable := #[], attributes := #[] }
def k3m1 : Method := { name := "containsAll", desc := "([I[I)Z", sig := { parameters := [(.array .int), (.array .int)], returnType := some .boolean }, accessFlags := 8, code := some k3c1 }
/-- com/example/vestigium/vestigium/semantics/SortedSets -/
def k3 : Class := { plain "com/example/vestigium/vestigium/semantics/SortedSets" (some 0) with
  accessFlags := 32
  interfaces := #[]
  cf := some (fileOf pool3 23 #[] #[{ accessFlags := 2, nameIndex := 5, descriptorIndex := 6, attributes := #[] }, { accessFlags := 8, nameIndex := 33, descriptorIndex := 34, attributes := #[] }] 32 2 #[] #[])
  fields := #[]
  methods := #[k3m0, k3m1]
  instanceTypes := #[]
  staticTypes := #[]
  resolved := Array.replicate 38 none
  statics := none }

def pool4 : Array CpInfo := pool [(1, u "java/lang/Cloneable"), (0, .class_ 1), (0, u "java/lang/Object"), (0, .class_ 3)] 3

/-- java/lang/Cloneable -/
def k4 : Class := { plain "java/lang/Cloneable" (some 0) with
  accessFlags := 1537
  interfaces := #[]
  cf := some (fileOf pool4 2 #[] #[] 1537 4 #[] #[])
  fields := #[]
  methods := #[]
  instanceTypes := #[]
  staticTypes := #[]
  resolved := Array.replicate 8 none
  statics := none }

def pool5 : Array CpInfo := pool [(1, u "java/io/Serializable"), (0, .class_ 1), (0, u "java/lang/Object"), (0, .class_ 3)] 3

/-- java/io/Serializable -/
def k5 : Class := { plain "java/io/Serializable" (some 0) with
  accessFlags := 1537
  interfaces := #[]
  cf := some (fileOf pool5 2 #[] #[] 1537 4 #[] #[])
  fields := #[]
  methods := #[]
  instanceTypes := #[]
  staticTypes := #[]
  resolved := Array.replicate 8 none
  statics := none }

/-- the primitive byte -/
def k6 : Class := { plain "byte" none with kind := .primitive 'B', accessFlags := 0x411 }
/-- [B -/
def k7 : Class := { plain "[B" (some 0) with kind := .array 6 .byte, interfaces := #[4, 5], accessFlags := 1041 }

/-- the primitive int -/
def k8 : Class := { plain "int" none with kind := .primitive 'I', accessFlags := 0x411 }
/-- [I -/
def k9 : Class := { plain "[I" (some 0) with kind := .array 8 .int, interfaces := #[4, 5], accessFlags := 1041 }

def heap : Heap := #[]
def classes : Array Class := #[k0, k1, k2, k3, k4, k5, k6, k7, k8, k9]
def interned : List (Array UInt16 × Addr) := []
def slotsUsed : Nat := 0
def theMethod : MethodId := ⟨1, 2⟩
def args0 : Array Value := #[.int 1, .int 2, .int 3, .int 4, .int 37]
def aboutOver (below : List Frame) : State where
  vm := { classes := classes, interned := interned.toArray }
  heap := heap
  slotsUsed := slotsUsed
  threads := #[{ frames := .invoking theMethod args0 :: below }]
def below0 : List Frame := [.native { method := ⟨0, 0⟩, args := #[] }]
def about1 : State := aboutOver below0
def p0 : Program := .bare "" "" ""
def e0 : Env := launch0.env 0 0 0
theorem w_frames : about1.frames = Frame.invoking theMethod args0 :: below0 := rfl
set_option maxRecDepth 65536 in
theorem w_args : argsFit about1.vm theMethod args0 = true := by decide +kernel
set_option maxRecDepth 65536 in
theorem w_heap : heapFits about1 = true := by decide +kernel
set_option maxRecDepth 65536 in
theorem w_runnable : about1.curStatus? = some .runnable := by decide +kernel
set_option maxRecDepth 65536 in
theorem w_alone : about1.alone = true := by decide +kernel
set_option maxRecDepth 65536 in
theorem w_named : about1.methodNamed? x = some theMethod := by decide +kernel
set_option maxRecDepth 65536 in
theorem w_hears : about1.hears theMethod below0 = true := by decide +kernel
set_option maxRecDepth 65536 in
theorem w_ripe : about1.ripe theMethod args0 below0 = true := by decide +kernel
theorem w_running : about1.status = .running := rfl
set_option maxRecDepth 65536 in
theorem w_room : about1.hasRoom e0.platform room_1 = true :=
  launch0.hasRoom_least _ room_1 (by decide +kernel) (by decide +kernel) (by decide +kernel) (by decide +kernel) (by decide +kernel) (by decide +kernel)
theorem allAtoms_all (ts : List Jvm.Cond) (a : Array Jvm.Value) (st : Jvm.State) : (allAtoms ts).before a st = ts.all (fun c => c.before a st) := by
  induction ts with
  | nil => rfl
  | cons c t ih =>
    show (Jvm.Cond.and c (allAtoms t)).before a st = _
    rw [Jvm.Cond.before_and, ih, List.all_cons]
def words1 : List Jvm.Cond := Jvm.Cond.code x code maxLocals ret :: tables_1
/-- a 'code' word, met by the world's own term for the bytes: nothing is compared byte by byte -/
theorem code_word {y : MethodName} {bytes : ByteArray} {mx : Nat} {rt : Option FieldType} {a : Array Value} {s : State} {m : MethodId} {meth : Method} {c : Code} (h1 : s.methodNamed? y = some m) (h2 : s.vm.method? m = some meth) (h3 : meth.code = some c) (h4 : c.code = bytes)
    (h5 : (c.maxLocals == mx && c.exceptionTable.isEmpty && decide (c.maxStack ≤ mostOperands) && decide (meth.sig.returnType = rt) && !meth.locks && decide (parseMethodDescriptor y.desc = some meth.sig)) = true) : (Jvm.Cond.code y bytes mx rt).before a s = true := by
  simp only [Bool.and_eq_true, beq_iff_eq, Bool.not_eq_true', decide_eq_true_eq] at h5
  obtain ⟨⟨⟨⟨⟨g1, g2⟩, g3⟩, g4⟩, g5⟩, g6⟩ := h5
  simp [Cond.before, Cond.holds, Cond.value, h1, h2, h3, h4, g1, g2, g3, g4, g5, g6]
def isCode : Jvm.Cond → Bool
  | .code _ _ _ _ => true
  | _ => false
theorem all_split {L : List Jvm.Cond} {P : Jvm.Cond → Bool} (h1 : L.all (fun c => isCode c || P c) = true) (h2 : ∀ c ∈ L.filter isCode, P c = true) : L.all P = true := by
  refine List.all_eq_true.mpr fun c hc => ?_
  have h := List.all_eq_true.mp h1 c hc
  rcases Bool.eq_false_or_eq_true (isCode c) with hi | hi
  · exact h2 c (List.mem_filter.mpr ⟨hc, hi⟩)
  · simpa [hi] using h
set_option maxRecDepth 65536 in
theorem w_c0 : (Jvm.Cond.code x code maxLocals ret).before args0 about1 = true := code_word (m := ⟨1, 2⟩) (meth := k1m2) (c := k1c2) (by decide +kernel) rfl rfl rfl (by decide +kernel)
set_option maxRecDepth 65536 in
theorem w_c1 : (Jvm.Cond.code ({ cls := "java/lang/Math", name := "min", desc := "(II)I" } : Jvm.MethodName) jdk_29_method_69_code (2 : Nat) (Option.some Jvm.ClassFile.FieldType.int)).before args0 about1 = true := code_word (m := ⟨2, 2⟩) (meth := k2m2) (c := k2c2) (by decide +kernel) rfl rfl rfl (by decide +kernel)
set_option maxRecDepth 65536 in
theorem w_c2 : (Jvm.Cond.code ({ cls := "java/lang/Math", name := "max", desc := "(II)I" } : Jvm.MethodName) jdk_29_method_65_code (2 : Nat) (Option.some Jvm.ClassFile.FieldType.int)).before args0 about1 = true := code_word (m := ⟨2, 1⟩) (meth := k2m1) (c := k2c1) (by decide +kernel) rfl rfl rfl (by decide +kernel)
set_option maxRecDepth 65536 in
theorem w_c3 : (Jvm.Cond.code ({ cls := "com/example/vestigium/vestigium/semantics/SortedSetsContainsAllPinLaw", name := "subset", desc := "(IIIII)[I" } : Jvm.MethodName) method_2_code (8 : Nat) (Option.some (Jvm.ClassFile.FieldType.array Jvm.ClassFile.FieldType.int))).before args0 about1 = true := code_word (m := ⟨1, 1⟩) (meth := k1m1) (c := k1c1) (by decide +kernel) rfl rfl rfl (by decide +kernel)
set_option maxRecDepth 65536 in
theorem w_c4 : (Jvm.Cond.code ({ cls := "com/example/vestigium/vestigium/semantics/SortedSets", name := "containsAll", desc := "([I[I)Z" } : Jvm.MethodName) prog_68_method_4_code (7 : Nat) (Option.some Jvm.ClassFile.FieldType.boolean)).before args0 about1 = true := code_word (m := ⟨3, 1⟩) (meth := k3m1) (c := k3c1) (by decide +kernel) rfl rfl rfl (by decide +kernel)
def codes1 : List Jvm.Cond := [Jvm.Cond.code x code maxLocals ret, Jvm.Cond.code ({ cls := "java/lang/Math", name := "min", desc := "(II)I" } : Jvm.MethodName) jdk_29_method_69_code (2 : Nat) (Option.some Jvm.ClassFile.FieldType.int), Jvm.Cond.code ({ cls := "java/lang/Math", name := "max", desc := "(II)I" } : Jvm.MethodName) jdk_29_method_65_code (2 : Nat) (Option.some Jvm.ClassFile.FieldType.int), Jvm.Cond.code ({ cls := "com/example/vestigium/vestigium/semantics/SortedSetsContainsAllPinLaw", name := "subset", desc := "(IIIII)[I" } : Jvm.MethodName) method_2_code (8 : Nat) (Option.some (Jvm.ClassFile.FieldType.array Jvm.ClassFile.FieldType.int)), Jvm.Cond.code ({ cls := "com/example/vestigium/vestigium/semantics/SortedSets", name := "containsAll", desc := "([I[I)Z" } : Jvm.MethodName) prog_68_method_4_code (7 : Nat) (Option.some Jvm.ClassFile.FieldType.boolean)]
set_option maxRecDepth 65536 in
theorem codes_eq : words1.filter isCode = codes1 := rfl
theorem w_codes : ∀ c ∈ words1.filter isCode, c.before args0 about1 = true := by
  rw [codes_eq]
  intro c hc
  simp only [codes1, List.mem_cons, List.not_mem_nil, or_false] at hc
  rcases hc with rfl | rfl | rfl | rfl | rfl
  · exact w_c0
  · exact w_c1
  · exact w_c2
  · exact w_c3
  · exact w_c4
set_option maxRecDepth 65536 in
theorem w_t1 : words1.all (fun c => isCode c || c.before args0 about1) = true := by decide +kernel
theorem w_tables : (allAtoms (Jvm.Cond.code x code maxLocals ret :: tables_1)).before args0 about1 = true := by
  rw [allAtoms_all]
  show words1.all (fun c => c.before args0 about1) = true
  refine all_split ?_ w_codes
  rw [w_t1]
set_option maxRecDepth 65536 in
theorem w_case : (Jvm.Cond.and given_1 narrow_1).before args0 about1 = true := by decide +kernel
theorem w_applies : (headSpec (Jvm.Cond.code x code maxLocals ret :: tables_1) room_1).applies x e0.platform about1 = true :=
  (Spec.applies_iff w_frames).mpr ⟨w_running, w_runnable, w_alone, w_named, w_hears, w_ripe, w_room, w_tables⟩
theorem atStart : AtStart classFile x code maxLocals ret World_1 tables_1 room_1 Calls_1 rest_1 Pre_1 launch0 p0 e0 about1 theMethod args0 below0 :=
  ⟨lists_1, trivial, launch0.admits_env _ _ _, launch0.least_env, fairChoices_fair.cas, fairChoices_fair.clock, w_frames, w_args, w_heap, w_applies, trivial, trivial, w_case⟩
end start1
theorem witness_1 : WitnessClaimed_1 := ⟨start1.p0, start1.e0, start1.about1, start1.theMethod, start1.args0, start1.below0, start1.atStart⟩
end Jvm.Pilot.@@N@@
