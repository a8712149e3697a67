import JvmDerived
import JvmDerived.Pilot.@@N@@Statement
import JvmDerived.Pilot.@@N@@Code
set_option linter.unusedVariables false
set_option linter.unusedSimpArgs false
namespace Jvm.OwnKit
open Sem ClassFile Op Lib Jvm.Stand Jvm.Free Jvm.LawKit Jvm.RoadKit
/-! My own layer: a walk forward. Done G S: from the state S the invocation comes to its end, and G holds there. -/
def Done (p : Program) (e : Env) (below : List Frame) (G : Outcome → State → Prop) (S : State) : Prop :=
  ∃ s₂ o, Steps p.tables e below S s₂ ∧ s₂.status = .running ∧ Ended s₂ below o ∧ G o s₂
/-- what a contract promises at the end: the value, the heap; all that was written lies at or above n0 -/
def OEnd (s : State) (R : Room) (n0 : Nat) (Q : Option Value → Heap → Prop) (o : Outcome) (U : State) : Prop :=
  ∃ v L, o = .returned v ∧ (Q v U.heap ∧ Fr n0 L) ∧ FrameEnd s o U L R.cells R.slots
/-- where the walk stands: a Stand whose writes lie at or above n0, and its heap -/
def St (p : Program) (l : Launch) (e : Env) (R : Room) (s : State) (m : MethodId) (args : Array Value) (below : List Frame) (meth : Method) (c : Code) (n0 : Nat) (T : State) (h : Heap) (k n : Nat) : Prop :=
  ∃ locs, Stand p l e R s m args below meth c T locs k n ∧ Fr n0 locs ∧ T.heap = h
/-- a contract of a body -/
def Con (l : Launch) (Z : State) (y : MethodName) (bytes : ByteArray) (maxL : Nat) (ret : Option FieldType) (rm : Room) (n0 : Nat) (h0 : Heap) (as' : Array Value) (Q : Option Value → Heap → Prop) : Prop :=
  ∀ ws : List Jvm.Cond, MetFree l y (head1 (Jvm.Cond.code y bytes maxL ret :: ws) rm) (fun a U => a = as' ∧ Z.Warmed39 U.vm ∧ U.heap = h0) (fun _ _ _ _ _ => True) (fun _ U o U' => OEnd U rm n0 Q o U')
section Walk
variable {p : Program} {l : Launch} {e : Env} {R : Room} {s : State} {m : MethodId} {args : Array Value} {below : List Frame} {meth : Method} {c : Code} {n0 : Nat} {T : State} {h : Heap} {k n : Nat} {Z : State} {a0 : Array Value}
variable {G : Outcome → State → Prop} {pc pc' : Nat} {Ls Ls' : Array Slot} {st : List Value}
theorem Done.go {S S' : State} (f : ∀ t, Steps p.tables e below S' t → Steps p.tables e below S t) (d : Done p e below G S') : Done p e below G S := by
  obtain ⟨s₂, o, h1, h2⟩ := d
  exact ⟨s₂, o, f _ h1, h2⟩
theorem St.here (S : St p l e R s m args below meth c n0 T h k n) : At T m c below := by
  obtain ⟨_, X, _⟩ := S
  exact X.here
theorem St.heap (S : St p l e R s m args below meth c n0 T h k n) : T.heap = h := by
  obtain ⟨_, _, _, q⟩ := S
  exact q
theorem St.more {k' n' : Nat} (S : St p l e R s m args below meth c n0 T h k n) (hk : k ≤ k') (hn : n ≤ n') : St p l e R s m args below meth c n0 T h k' n' := by
  obtain ⟨L, X, N, q⟩ := S
  exact ⟨L, X.more hk hn, N, q⟩
theorem Con.intro {y : MethodName} {bytes : ByteArray} {maxL : Nat} {ret : Option FieldType} {rm : Room} {h0 : Heap} {as' : Array Value} {Q : Option Value → Heap → Prop}
    (hp : plainFor y = true) (hef : ∀ m, entryFrame m as' maxL = mkF m 0 Ls [])
    (body : ∀ (p : Program) (e : Env) (s : State) (m : MethodId) (below : List Frame) (meth : Method) (c : Code) (s₁ : State), p.tables.exec = Jvm.exec → c.code = bytes → c.maxLocals = maxL → s.vm.findClass y.cls = some m.cls → meth.name = y.name →
      meth.sig.returnType = ret → meth.locks = false → Z.Warmed39 s.vm → St p l e rm s m as' below meth c n0 s₁ h0 0 0 → Done p e below (OEnd s rm n0 Q) (s₁.setTop (mkF m 0 Ls []))) :
    Con l Z y bytes maxL ret rm n0 h0 as' Q := by
  intro ws
  refine MetFree.of_bodySF hp hisR ?_
  intro p e s m args below meth c s₁ Bd hml0 hP hK
  obtain ⟨rfl, hZ, hh⟩ := hP
  have hr := body p e s m below meth c s₁ Bd.exec Bd.bytes hml0 (findClass_of_methodNamed Bd.named) (name_of_methodNamed Bd.named Bd.method).1 Bd.returns Bd.notSynchronized hZ ⟨[], Stand.of_body Bd, Fr.nil n0, by rw [← hh, Bd.state]; rfl⟩
  rw [← hef m] at hr
  exact hr
/-! ### single steps -/
theorem k_iload (A : At T m c below) (hx : p.tables.exec = Jvm.exec) {i : Nat} {v : Int32} (hd : decode c.code pc = .ok (.iload i, 2)) (hl : Ls[i]? = some (.val (.int v))) (hp : pc + 2 = pc')
    (K : Done p e below G (T.setTop (mkF m pc' Ls (.int v :: st)))) : Done p e below G (T.setTop (mkF m pc Ls st)) := by
  subst hp; exact Done.go (fun t q => XS.iload A hx rfl hd hl q) K
theorem k_iloadN (A : At T m c below) (hx : p.tables.exec = Jvm.exec) {i : Fin 4} {v : Int32} (hd : decode c.code pc = .ok (.iload_n i, 1)) (hl : Ls[i.val]? = some (.val (.int v))) (hp : pc + 1 = pc')
    (K : Done p e below G (T.setTop (mkF m pc' Ls (.int v :: st)))) : Done p e below G (T.setTop (mkF m pc Ls st)) := by
  subst hp; exact Done.go (fun t q => XS.iloadN A hx rfl hd hl q) K
theorem k_istore (A : At T m c below) (hx : p.tables.exec = Jvm.exec) {i : Nat} {v : Int32} (hd : decode c.code pc = .ok (.istore i, 2)) (hl : storeLocals Ls i (.int v) = some Ls') (hp : pc + 2 = pc')
    (K : Done p e below G (T.setTop (mkF m pc' Ls' st))) : Done p e below G (T.setTop (mkF m pc Ls (.int v :: st))) := by
  subst hp; exact Done.go (fun t q => XS.istore A hx rfl hd rfl hl q) K
theorem k_istoreN (A : At T m c below) (hx : p.tables.exec = Jvm.exec) {i : Fin 4} {v : Int32} (hd : decode c.code pc = .ok (.istore_n i, 1)) (hl : storeLocals Ls i.val (.int v) = some Ls') (hp : pc + 1 = pc')
    (K : Done p e below G (T.setTop (mkF m pc' Ls' st))) : Done p e below G (T.setTop (mkF m pc Ls (.int v :: st))) := by
  subst hp; exact Done.go (fun t q => XS.istoreN A hx rfl hd rfl hl q) K
theorem k_lload (A : At T m c below) (hx : p.tables.exec = Jvm.exec) {i : Nat} {v : Int64} (hd : decode c.code pc = .ok (.lload i, 2)) (hl : Ls[i]? = some (.val (.long v))) (hp : pc + 2 = pc')
    (K : Done p e below G (T.setTop (mkF m pc' Ls (.long v :: st)))) : Done p e below G (T.setTop (mkF m pc Ls st)) := by
  subst hp; exact Done.go (fun t q => XS.lload A hx rfl hd hl q) K
theorem k_lloadN (A : At T m c below) (hx : p.tables.exec = Jvm.exec) {i : Fin 4} {v : Int64} (hd : decode c.code pc = .ok (.lload_n i, 1)) (hl : Ls[i.val]? = some (.val (.long v))) (hp : pc + 1 = pc')
    (K : Done p e below G (T.setTop (mkF m pc' Ls (.long v :: st)))) : Done p e below G (T.setTop (mkF m pc Ls st)) := by
  subst hp; exact Done.go (fun t q => XS.lloadN A hx rfl hd hl q) K
theorem k_lstore (A : At T m c below) (hx : p.tables.exec = Jvm.exec) {i : Nat} {v : Int64} (hd : decode c.code pc = .ok (.lstore i, 2)) (hl : storeLocals Ls i (.long v) = some Ls') (hp : pc + 2 = pc')
    (K : Done p e below G (T.setTop (mkF m pc' Ls' st))) : Done p e below G (T.setTop (mkF m pc Ls (.long v :: st))) := by
  subst hp; exact Done.go (fun t q => XS.lstore A hx rfl hd rfl hl q) K
theorem k_lstoreN (A : At T m c below) (hx : p.tables.exec = Jvm.exec) {i : Fin 4} {v : Int64} (hd : decode c.code pc = .ok (.lstore_n i, 1)) (hl : storeLocals Ls i.val (.long v) = some Ls') (hp : pc + 1 = pc')
    (K : Done p e below G (T.setTop (mkF m pc' Ls' st))) : Done p e below G (T.setTop (mkF m pc Ls (.long v :: st))) := by
  subst hp; exact Done.go (fun t q => XS.lstoreN A hx rfl hd rfl hl q) K
theorem k_aload (A : At T m c below) (hx : p.tables.exec = Jvm.exec) {i : Nat} {v : Value} (hd : decode c.code pc = .ok (.aload i, 2)) (hl : Ls[i]? = some (.val v)) (hv : v.isRef = true) (hp : pc + 2 = pc')
    (K : Done p e below G (T.setTop (mkF m pc' Ls (v :: st)))) : Done p e below G (T.setTop (mkF m pc Ls st)) := by
  subst hp; exact Done.go (fun t q => XS.aload A hx rfl hd hl hv q) K
theorem k_aloadN (A : At T m c below) (hx : p.tables.exec = Jvm.exec) {i : Fin 4} {v : Value} (hd : decode c.code pc = .ok (.aload_n i, 1)) (hl : Ls[i.val]? = some (.val v)) (hv : v.isRef = true) (hp : pc + 1 = pc')
    (K : Done p e below G (T.setTop (mkF m pc' Ls (v :: st)))) : Done p e below G (T.setTop (mkF m pc Ls st)) := by
  subst hp; exact Done.go (fun t q => XS.aloadN A hx rfl hd hl hv q) K
theorem k_astore (A : At T m c below) (hx : p.tables.exec = Jvm.exec) {i : Nat} {v : Value} (hd : decode c.code pc = .ok (.astore i, 2)) (hv : v.isRef = true) (hl : storeLocals Ls i v = some Ls') (hp : pc + 2 = pc')
    (K : Done p e below G (T.setTop (mkF m pc' Ls' st))) : Done p e below G (T.setTop (mkF m pc Ls (v :: st))) := by
  subst hp; exact Done.go (fun t q => XS.astore A hx rfl hd rfl hv hl q) K
theorem k_astoreN (A : At T m c below) (hx : p.tables.exec = Jvm.exec) {i : Fin 4} {v : Value} (hd : decode c.code pc = .ok (.astore_n i, 1)) (hv : v.isRef = true) (hl : storeLocals Ls i.val v = some Ls') (hp : pc + 1 = pc')
    (K : Done p e below G (T.setTop (mkF m pc' Ls' st))) : Done p e below G (T.setTop (mkF m pc Ls (v :: st))) := by
  subst hp; exact Done.go (fun t q => XS.astoreN A hx rfl hd rfl hv hl q) K
theorem k_iconst (A : At T m c below) (hx : p.tables.exec = Jvm.exec) {i : Int} {v : Int32} (hd : decode c.code pc = .ok (.iconst i, 1)) (hv : Int32.ofInt i = v) (hp : pc + 1 = pc')
    (K : Done p e below G (T.setTop (mkF m pc' Ls (.int v :: st)))) : Done p e below G (T.setTop (mkF m pc Ls st)) := by
  subst hp hv; exact Done.go (fun t q => XS.iconst A hx rfl hd q) K
theorem k_bipush (A : At T m c below) (hx : p.tables.exec = Jvm.exec) {i : Int} {v : Int32} (hd : decode c.code pc = .ok (.bipush i, 2)) (hv : (Int8.ofInt i).toInt32 = v) (hp : pc + 2 = pc')
    (K : Done p e below G (T.setTop (mkF m pc' Ls (.int v :: st)))) : Done p e below G (T.setTop (mkF m pc Ls st)) := by
  subst hp hv; exact Done.go (fun t q => XS.bipush A hx rfl hd q) K
theorem k_sipush (A : At T m c below) (hx : p.tables.exec = Jvm.exec) {i : Int} {v : Int32} (hd : decode c.code pc = .ok (.sipush i, 3)) (hv : (Int16.ofInt i).toInt32 = v) (hp : pc + 3 = pc')
    (K : Done p e below G (T.setTop (mkF m pc' Ls (.int v :: st)))) : Done p e below G (T.setTop (mkF m pc Ls st)) := by
  subst hp hv; exact Done.go (fun t q => XS.sipush A hx rfl hd q) K
theorem k_lconst (A : At T m c below) (hx : p.tables.exec = Jvm.exec) {i : Fin 2} {v : Int64} (hd : decode c.code pc = .ok (.lconst i, 1)) (hv : Int64.ofNat i = v) (hp : pc + 1 = pc')
    (K : Done p e below G (T.setTop (mkF m pc' Ls (.long v :: st)))) : Done p e below G (T.setTop (mkF m pc Ls st)) := by
  subst hp hv; exact Done.go (fun t q => XS.lconst A hx rfl hd q) K
theorem k_aconstNull (A : At T m c below) (hx : p.tables.exec = Jvm.exec)  (hd : decode c.code pc = .ok (.aconst_null, 1)) (hp : pc + 1 = pc')
    (K : Done p e below G (T.setTop (mkF m pc' Ls (.null :: st)))) : Done p e below G (T.setTop (mkF m pc Ls st)) := by
  subst hp; exact Done.go (fun t q => XS.aconstNull A hx rfl hd q) K
theorem k_dup (A : At T m c below) (hx : p.tables.exec = Jvm.exec) {v : Value} (hd : decode c.code pc = .ok (.dup, 1)) (hv : v.category = 1) (hp : pc + 1 = pc')
    (K : Done p e below G (T.setTop (mkF m pc' Ls (v :: v :: st)))) : Done p e below G (T.setTop (mkF m pc Ls (v :: st))) := by
  subst hp; exact Done.go (fun t q => XS.dup A hx rfl hd rfl hv q) K
theorem k_pop (A : At T m c below) (hx : p.tables.exec = Jvm.exec) {v : Value} (hd : decode c.code pc = .ok (.pop, 1)) (hv : v.category = 1) (hp : pc + 1 = pc')
    (K : Done p e below G (T.setTop (mkF m pc' Ls st))) : Done p e below G (T.setTop (mkF m pc Ls (v :: st))) := by
  subst hp; exact Done.go (fun t q => XS.pop A hx rfl hd rfl hv q) K
theorem k_dupX1 (A : At T m c below) (hx : p.tables.exec = Jvm.exec) {v w : Value} (hd : decode c.code pc = .ok (.dup_x1, 1)) (hv : v.category = 1) (hw : w.category = 1) (hp : pc + 1 = pc')
    (K : Done p e below G (T.setTop (mkF m pc' Ls (v :: w :: v :: st)))) : Done p e below G (T.setTop (mkF m pc Ls (v :: w :: st))) := by
  subst hp; exact Done.go (fun t q => XS.dupX1 A hx rfl hd rfl hv hw q) K
theorem k_iadd (A : At T m c below) (hx : p.tables.exec = Jvm.exec) {x y : Int32} (hd : decode c.code pc = .ok (.iadd, 1)) (hp : pc + 1 = pc')
    (K : Done p e below G (T.setTop (mkF m pc' Ls (.int (x + y) :: st)))) : Done p e below G (T.setTop (mkF m pc Ls (.int y :: .int x :: st))) := by
  subst hp; exact Done.go (fun t q => XS.iadd A hx rfl hd rfl q) K
theorem k_isub (A : At T m c below) (hx : p.tables.exec = Jvm.exec) {x y : Int32} (hd : decode c.code pc = .ok (.isub, 1)) (hp : pc + 1 = pc')
    (K : Done p e below G (T.setTop (mkF m pc' Ls (.int (x - y) :: st)))) : Done p e below G (T.setTop (mkF m pc Ls (.int y :: .int x :: st))) := by
  subst hp; exact Done.go (fun t q => XS.isub A hx rfl hd rfl q) K
theorem k_imul (A : At T m c below) (hx : p.tables.exec = Jvm.exec) {x y : Int32} (hd : decode c.code pc = .ok (.imul, 1)) (hp : pc + 1 = pc')
    (K : Done p e below G (T.setTop (mkF m pc' Ls (.int (x * y) :: st)))) : Done p e below G (T.setTop (mkF m pc Ls (.int y :: .int x :: st))) := by
  subst hp; exact Done.go (fun t q => XS.imul A hx rfl hd rfl q) K
theorem k_iand (A : At T m c below) (hx : p.tables.exec = Jvm.exec) {x y : Int32} (hd : decode c.code pc = .ok (.iand, 1)) (hp : pc + 1 = pc')
    (K : Done p e below G (T.setTop (mkF m pc' Ls (.int (x &&& y) :: st)))) : Done p e below G (T.setTop (mkF m pc Ls (.int y :: .int x :: st))) := by
  subst hp; exact Done.go (fun t q => XS.iand A hx rfl hd rfl q) K
theorem k_ior (A : At T m c below) (hx : p.tables.exec = Jvm.exec) {x y : Int32} (hd : decode c.code pc = .ok (.ior, 1)) (hp : pc + 1 = pc')
    (K : Done p e below G (T.setTop (mkF m pc' Ls (.int (x ||| y) :: st)))) : Done p e below G (T.setTop (mkF m pc Ls (.int y :: .int x :: st))) := by
  subst hp; exact Done.go (fun t q => XS.ior A hx rfl hd rfl q) K
theorem k_ixor (A : At T m c below) (hx : p.tables.exec = Jvm.exec) {x y : Int32} (hd : decode c.code pc = .ok (.ixor, 1)) (hp : pc + 1 = pc')
    (K : Done p e below G (T.setTop (mkF m pc' Ls (.int (x ^^^ y) :: st)))) : Done p e below G (T.setTop (mkF m pc Ls (.int y :: .int x :: st))) := by
  subst hp; exact Done.go (fun t q => XS.ixor A hx rfl hd rfl q) K
theorem k_ishl (A : At T m c below) (hx : p.tables.exec = Jvm.exec) {x y : Int32} (hd : decode c.code pc = .ok (.ishl, 1)) (hp : pc + 1 = pc')
    (K : Done p e below G (T.setTop (mkF m pc' Ls (.int (x <<< (y &&& 31)) :: st)))) : Done p e below G (T.setTop (mkF m pc Ls (.int y :: .int x :: st))) := by
  subst hp; exact Done.go (fun t q => XS.ishl A hx rfl hd rfl q) K
theorem k_ishr (A : At T m c below) (hx : p.tables.exec = Jvm.exec) {x y : Int32} (hd : decode c.code pc = .ok (.ishr, 1)) (hp : pc + 1 = pc')
    (K : Done p e below G (T.setTop (mkF m pc' Ls (.int (x >>> (y &&& 31)) :: st)))) : Done p e below G (T.setTop (mkF m pc Ls (.int y :: .int x :: st))) := by
  subst hp; exact Done.go (fun t q => XS.ishr A hx rfl hd rfl q) K
theorem k_iushr (A : At T m c below) (hx : p.tables.exec = Jvm.exec) {x y : Int32} (hd : decode c.code pc = .ok (.iushr, 1)) (hp : pc + 1 = pc')
    (K : Done p e below G (T.setTop (mkF m pc' Ls (.int ((x.toUInt32 >>> (y &&& 31).toUInt32).toInt32) :: st)))) : Done p e below G (T.setTop (mkF m pc Ls (.int y :: .int x :: st))) := by
  subst hp; exact Done.go (fun t q => XS.iushr A hx rfl hd rfl q) K
theorem k_ladd (A : At T m c below) (hx : p.tables.exec = Jvm.exec) {x y : Int64} (hd : decode c.code pc = .ok (.ladd, 1)) (hp : pc + 1 = pc')
    (K : Done p e below G (T.setTop (mkF m pc' Ls (.long (x + y) :: st)))) : Done p e below G (T.setTop (mkF m pc Ls (.long y :: .long x :: st))) := by
  subst hp; exact Done.go (fun t q => XS.ladd A hx rfl hd rfl q) K
theorem k_lsub (A : At T m c below) (hx : p.tables.exec = Jvm.exec) {x y : Int64} (hd : decode c.code pc = .ok (.lsub, 1)) (hp : pc + 1 = pc')
    (K : Done p e below G (T.setTop (mkF m pc' Ls (.long (x - y) :: st)))) : Done p e below G (T.setTop (mkF m pc Ls (.long y :: .long x :: st))) := by
  subst hp; exact Done.go (fun t q => XS.lsub A hx rfl hd rfl q) K
theorem k_lmul (A : At T m c below) (hx : p.tables.exec = Jvm.exec) {x y : Int64} (hd : decode c.code pc = .ok (.lmul, 1)) (hp : pc + 1 = pc')
    (K : Done p e below G (T.setTop (mkF m pc' Ls (.long (x * y) :: st)))) : Done p e below G (T.setTop (mkF m pc Ls (.long y :: .long x :: st))) := by
  subst hp; exact Done.go (fun t q => XS.lmul A hx rfl hd rfl q) K
theorem k_land (A : At T m c below) (hx : p.tables.exec = Jvm.exec) {x y : Int64} (hd : decode c.code pc = .ok (.land, 1)) (hp : pc + 1 = pc')
    (K : Done p e below G (T.setTop (mkF m pc' Ls (.long (x &&& y) :: st)))) : Done p e below G (T.setTop (mkF m pc Ls (.long y :: .long x :: st))) := by
  subst hp; exact Done.go (fun t q => XS.land A hx rfl hd rfl q) K
theorem k_lor (A : At T m c below) (hx : p.tables.exec = Jvm.exec) {x y : Int64} (hd : decode c.code pc = .ok (.lor, 1)) (hp : pc + 1 = pc')
    (K : Done p e below G (T.setTop (mkF m pc' Ls (.long (x ||| y) :: st)))) : Done p e below G (T.setTop (mkF m pc Ls (.long y :: .long x :: st))) := by
  subst hp; exact Done.go (fun t q => XS.lor A hx rfl hd rfl q) K
theorem k_lxor (A : At T m c below) (hx : p.tables.exec = Jvm.exec) {x y : Int64} (hd : decode c.code pc = .ok (.lxor, 1)) (hp : pc + 1 = pc')
    (K : Done p e below G (T.setTop (mkF m pc' Ls (.long (x ^^^ y) :: st)))) : Done p e below G (T.setTop (mkF m pc Ls (.long y :: .long x :: st))) := by
  subst hp; exact Done.go (fun t q => XS.lxor A hx rfl hd rfl q) K
theorem k_lshl (A : At T m c below) (hx : p.tables.exec = Jvm.exec) {x : Int64} {y : Int32} (hd : decode c.code pc = .ok (.lshl, 1)) (hp : pc + 1 = pc')
    (K : Done p e below G (T.setTop (mkF m pc' Ls (.long (x <<< (y &&& 0x3f).toInt64) :: st)))) : Done p e below G (T.setTop (mkF m pc Ls (.int y :: .long x :: st))) := by
  subst hp; exact Done.go (fun t q => XS.lshl A hx rfl hd rfl q) K
theorem k_lshr (A : At T m c below) (hx : p.tables.exec = Jvm.exec) {x : Int64} {y : Int32} (hd : decode c.code pc = .ok (.lshr, 1)) (hp : pc + 1 = pc')
    (K : Done p e below G (T.setTop (mkF m pc' Ls (.long (x >>> (y &&& 0x3f).toInt64) :: st)))) : Done p e below G (T.setTop (mkF m pc Ls (.int y :: .long x :: st))) := by
  subst hp; exact Done.go (fun t q => XS.lshr A hx rfl hd rfl q) K
theorem k_lushr (A : At T m c below) (hx : p.tables.exec = Jvm.exec) {x : Int64} {y : Int32} (hd : decode c.code pc = .ok (.lushr, 1)) (hp : pc + 1 = pc')
    (K : Done p e below G (T.setTop (mkF m pc' Ls (.long ((x.toUInt64 >>> (y &&& 0x3f).toInt64.toUInt64).toInt64) :: st)))) : Done p e below G (T.setTop (mkF m pc Ls (.int y :: .long x :: st))) := by
  subst hp; exact Done.go (fun t q => XS.lushr A hx rfl hd rfl q) K
theorem k_idiv (A : At T m c below) (hx : p.tables.exec = Jvm.exec) {x y : Int32} (hd : decode c.code pc = .ok (.idiv, 1)) (hy : y ≠ 0) (hp : pc + 1 = pc')
    (K : Done p e below G (T.setTop (mkF m pc' Ls (.int (x / y) :: st)))) : Done p e below G (T.setTop (mkF m pc Ls (.int y :: .int x :: st))) := by
  subst hp; exact Done.go (fun t q => XS.idiv A hx rfl hd rfl hy q) K
theorem k_ldiv (A : At T m c below) (hx : p.tables.exec = Jvm.exec) {x y : Int64} (hd : decode c.code pc = .ok (.ldiv, 1)) (hy : y ≠ 0) (hp : pc + 1 = pc')
    (K : Done p e below G (T.setTop (mkF m pc' Ls (.long (x / y) :: st)))) : Done p e below G (T.setTop (mkF m pc Ls (.long y :: .long x :: st))) := by
  subst hp; exact Done.go (fun t q => XS.ldiv A hx rfl hd rfl hy q) K
theorem k_irem (A : At T m c below) (hx : p.tables.exec = Jvm.exec) {x y : Int32} (hd : decode c.code pc = .ok (.irem, 1)) (hy : y ≠ 0) (hp : pc + 1 = pc')
    (K : Done p e below G (T.setTop (mkF m pc' Ls (.int (x % y) :: st)))) : Done p e below G (T.setTop (mkF m pc Ls (.int y :: .int x :: st))) := by
  subst hp; have q0 : x - x / y * y = x % y := irem_eq_mod x y
  rw [← q0] at K
  exact Done.go (fun t q => XS.irem A hx rfl hd rfl hy q) K
theorem k_lrem (A : At T m c below) (hx : p.tables.exec = Jvm.exec) {x y : Int64} (hd : decode c.code pc = .ok (.lrem, 1)) (hy : y ≠ 0) (hp : pc + 1 = pc')
    (K : Done p e below G (T.setTop (mkF m pc' Ls (.long (x % y) :: st)))) : Done p e below G (T.setTop (mkF m pc Ls (.long y :: .long x :: st))) := by
  subst hp
  rw [← lrem_mod x y] at K
  exact Done.go (fun t q => XS.lrem A hx rfl hd rfl hy q) K
theorem k_lcmp (A : At T m c below) (hx : p.tables.exec = Jvm.exec) {x y : Int64} (hd : decode c.code pc = .ok (.lcmp, 1)) (hp : pc + 1 = pc')
    (K : Done p e below G (T.setTop (mkF m pc' Ls (.int (lcmpW x y) :: st)))) : Done p e below G (T.setTop (mkF m pc Ls (.long y :: .long x :: st))) := by
  subst hp; exact Done.go (fun t q => XS.lcmp A hx rfl hd rfl q) K
theorem k_ineg (A : At T m c below) (hx : p.tables.exec = Jvm.exec) {x : Int32} (hd : decode c.code pc = .ok (.ineg, 1)) (hp : pc + 1 = pc')
    (K : Done p e below G (T.setTop (mkF m pc' Ls (.int (-x) :: st)))) : Done p e below G (T.setTop (mkF m pc Ls (.int x :: st))) := by
  subst hp; exact Done.go (fun t q => XS.ineg A hx rfl hd rfl q) K
theorem k_lneg (A : At T m c below) (hx : p.tables.exec = Jvm.exec) {x : Int64} (hd : decode c.code pc = .ok (.lneg, 1)) (hp : pc + 1 = pc')
    (K : Done p e below G (T.setTop (mkF m pc' Ls (.long (-x) :: st)))) : Done p e below G (T.setTop (mkF m pc Ls (.long x :: st))) := by
  subst hp; exact Done.go (fun t q => XS.lneg A hx rfl hd rfl q) K
theorem k_i2l (A : At T m c below) (hx : p.tables.exec = Jvm.exec) {x : Int32} (hd : decode c.code pc = .ok (.i2l, 1)) (hp : pc + 1 = pc')
    (K : Done p e below G (T.setTop (mkF m pc' Ls (.long (x.toInt64) :: st)))) : Done p e below G (T.setTop (mkF m pc Ls (.int x :: st))) := by
  subst hp; exact Done.go (fun t q => XS.i2l A hx rfl hd rfl q) K
theorem k_l2i (A : At T m c below) (hx : p.tables.exec = Jvm.exec) {x : Int64} (hd : decode c.code pc = .ok (.l2i, 1)) (hp : pc + 1 = pc')
    (K : Done p e below G (T.setTop (mkF m pc' Ls (.int (x.toInt32) :: st)))) : Done p e below G (T.setTop (mkF m pc Ls (.long x :: st))) := by
  subst hp; exact Done.go (fun t q => XS.l2i A hx rfl hd rfl q) K
theorem k_i2b (A : At T m c below) (hx : p.tables.exec = Jvm.exec) {x : Int32} (hd : decode c.code pc = .ok (.i2b, 1)) (hp : pc + 1 = pc')
    (K : Done p e below G (T.setTop (mkF m pc' Ls (.int (x.toInt8.toInt32) :: st)))) : Done p e below G (T.setTop (mkF m pc Ls (.int x :: st))) := by
  subst hp; exact Done.go (fun t q => XS.i2b A hx rfl hd rfl q) K
theorem k_i2c (A : At T m c below) (hx : p.tables.exec = Jvm.exec) {x : Int32} (hd : decode c.code pc = .ok (.i2c, 1)) (hp : pc + 1 = pc')
    (K : Done p e below G (T.setTop (mkF m pc' Ls (.int (x.toUInt32.toUInt16.toUInt32.toInt32) :: st)))) : Done p e below G (T.setTop (mkF m pc Ls (.int x :: st))) := by
  subst hp; exact Done.go (fun t q => XS.i2c A hx rfl hd rfl q) K
theorem k_i2s (A : At T m c below) (hx : p.tables.exec = Jvm.exec) {x : Int32} (hd : decode c.code pc = .ok (.i2s, 1)) (hp : pc + 1 = pc')
    (K : Done p e below G (T.setTop (mkF m pc' Ls (.int (x.toInt16.toInt32) :: st)))) : Done p e below G (T.setTop (mkF m pc Ls (.int x :: st))) := by
  subst hp; exact Done.go (fun t q => XS.i2s A hx rfl hd rfl q) K
theorem k_iinc (A : At T m c below) (hx : p.tables.exec = Jvm.exec) {i : Nat} {cst : Int} {v : Int32} (hd : decode c.code pc = .ok (.iinc i cst, 3)) (hl : Ls[i]? = some (.val (.int v))) (hs : storeLocals Ls i (.int (v + Int32.ofInt cst)) = some Ls') (hp : pc + 3 = pc')
    (K : Done p e below G (T.setTop (mkF m pc' Ls' st))) : Done p e below G (T.setTop (mkF m pc Ls st)) := by
  subst hp; exact Done.go (fun t q => XS.iinc A hx rfl hd hl hs q) K
theorem k_goto (A : At T m c below) (hx : p.tables.exec = Jvm.exec) {o : Int} (hd : decode c.code pc = .ok (.goto o, 3)) (hp : (pc : Int) + o = (pc' : Int))
    (K : Done p e below G (T.setTop (mkF m pc' Ls st))) : Done p e below G (T.setTop (mkF m pc Ls st)) :=
  Done.go (fun t q => XS.goto A hx rfl (pc0 := pc) (pc' := pc') rfl hd (by omega) (by omega) q) K
theorem k_ifnullYes (A : At T m c below) (hx : p.tables.exec = Jvm.exec) {o : Int} (hd : decode c.code pc = .ok (.ifnull o, 3)) (hp : (pc : Int) + o = (pc' : Int))
    (K : Done p e below G (T.setTop (mkF m pc' Ls st))) : Done p e below G (T.setTop (mkF m pc Ls (.null :: st))) :=
  Done.go (fun t q => XS.ifnullYes A hx rfl (pc0 := pc) (pc' := pc') rfl hd rfl (by omega) (by omega) q) K
theorem k_ifnonnullYes (A : At T m c below) (hx : p.tables.exec = Jvm.exec) {o : Int} {b : Addr} (hd : decode c.code pc = .ok (.ifnonnull o, 3)) (hp : (pc : Int) + o = (pc' : Int))
    (K : Done p e below G (T.setTop (mkF m pc' Ls st))) : Done p e below G (T.setTop (mkF m pc Ls (.ref b :: st))) :=
  Done.go (fun t q => XS.ifnonnullYes A hx rfl (pc0 := pc) (pc' := pc') rfl hd rfl (by omega) (by omega) q) K
theorem k_ifnullNo (A : At T m c below) (hx : p.tables.exec = Jvm.exec) {o : Int} {b : Addr} (hd : decode c.code pc = .ok (.ifnull o, 3)) (hp : pc + 3 = pc')
    (K : Done p e below G (T.setTop (mkF m pc' Ls st))) : Done p e below G (T.setTop (mkF m pc Ls (.ref b :: st))) := by
  subst hp; exact Done.go (fun t q => XS.ifnullNo A hx rfl hd rfl q) K
theorem k_ifnonnullNo (A : At T m c below) (hx : p.tables.exec = Jvm.exec) {o : Int} (hd : decode c.code pc = .ok (.ifnonnull o, 3)) (hp : pc + 3 = pc')
    (K : Done p e below G (T.setTop (mkF m pc' Ls st))) : Done p e below G (T.setTop (mkF m pc Ls (.null :: st))) := by
  subst hp; exact Done.go (fun t q => XS.ifnonnullNo A hx rfl hd rfl q) K
theorem k_icmp_lt (A : At T m c below) (hx : p.tables.exec = Jvm.exec) {x y : Int32} {o : Int} {pcY : Nat} (hd : decode c.code pc = .ok (.if_icmp .lt o, 3)) (hY : (pc : Int) + o = (pcY : Int)) (hp : pc + 3 = pc')
    (KY : x < y → Done p e below G (T.setTop (mkF m pcY Ls st))) (KN : ¬ x < y → Done p e below G (T.setTop (mkF m pc' Ls st))) : Done p e below G (T.setTop (mkF m pc Ls (.int y :: .int x :: st))) := by
  subst hp
  by_cases hc : x < y
  · exact Done.go (fun t q => XS.icmpYes A hx rfl (pc0 := pc) (pc' := pcY) rfl hd rfl (tlt hc).1 (by omega) (by omega) q) (KY hc)
  · exact Done.go (fun t q => XS.icmpNo A hx rfl hd rfl (flt hc).1 q) (KN hc)
theorem k_if_lt (A : At T m c below) (hx : p.tables.exec = Jvm.exec) {x : Int32} {o : Int} {pcY : Nat} (hd : decode c.code pc = .ok (.ifCond .lt o, 3)) (hY : (pc : Int) + o = (pcY : Int)) (hp : pc + 3 = pc')
    (KY : x < 0 → Done p e below G (T.setTop (mkF m pcY Ls st))) (KN : ¬ x < 0 → Done p e below G (T.setTop (mkF m pc' Ls st))) : Done p e below G (T.setTop (mkF m pc Ls (.int x :: st))) := by
  subst hp
  by_cases hc : x < 0
  · exact Done.go (fun t q => XS.ifYes A hx rfl (pc0 := pc) (pc' := pcY) rfl hd rfl ((if0 _ _).trans (tlt hc).1) (by omega) (by omega) q) (KY hc)
  · exact Done.go (fun t q => XS.ifNo A hx rfl hd rfl ((if0 _ _).trans (flt hc).1) q) (KN hc)
theorem k_icmp_ge (A : At T m c below) (hx : p.tables.exec = Jvm.exec) {x y : Int32} {o : Int} {pcY : Nat} (hd : decode c.code pc = .ok (.if_icmp .ge o, 3)) (hY : (pc : Int) + o = (pcY : Int)) (hp : pc + 3 = pc')
    (KY : ¬ x < y → Done p e below G (T.setTop (mkF m pcY Ls st))) (KN : x < y → Done p e below G (T.setTop (mkF m pc' Ls st))) : Done p e below G (T.setTop (mkF m pc Ls (.int y :: .int x :: st))) := by
  subst hp
  by_cases hc : x < y
  · exact Done.go (fun t q => XS.icmpNo A hx rfl hd rfl (tlt hc).2.1 q) (KN hc)
  · exact Done.go (fun t q => XS.icmpYes A hx rfl (pc0 := pc) (pc' := pcY) rfl hd rfl (flt hc).2.1 (by omega) (by omega) q) (KY hc)
theorem k_if_ge (A : At T m c below) (hx : p.tables.exec = Jvm.exec) {x : Int32} {o : Int} {pcY : Nat} (hd : decode c.code pc = .ok (.ifCond .ge o, 3)) (hY : (pc : Int) + o = (pcY : Int)) (hp : pc + 3 = pc')
    (KY : ¬ x < 0 → Done p e below G (T.setTop (mkF m pcY Ls st))) (KN : x < 0 → Done p e below G (T.setTop (mkF m pc' Ls st))) : Done p e below G (T.setTop (mkF m pc Ls (.int x :: st))) := by
  subst hp
  by_cases hc : x < 0
  · exact Done.go (fun t q => XS.ifNo A hx rfl hd rfl ((if0 _ _).trans (tlt hc).2.1) q) (KN hc)
  · exact Done.go (fun t q => XS.ifYes A hx rfl (pc0 := pc) (pc' := pcY) rfl hd rfl ((if0 _ _).trans (flt hc).2.1) (by omega) (by omega) q) (KY hc)
theorem k_icmp_gt (A : At T m c below) (hx : p.tables.exec = Jvm.exec) {x y : Int32} {o : Int} {pcY : Nat} (hd : decode c.code pc = .ok (.if_icmp .gt o, 3)) (hY : (pc : Int) + o = (pcY : Int)) (hp : pc + 3 = pc')
    (KY : y < x → Done p e below G (T.setTop (mkF m pcY Ls st))) (KN : ¬ y < x → Done p e below G (T.setTop (mkF m pc' Ls st))) : Done p e below G (T.setTop (mkF m pc Ls (.int y :: .int x :: st))) := by
  subst hp
  by_cases hc : y < x
  · exact Done.go (fun t q => XS.icmpYes A hx rfl (pc0 := pc) (pc' := pcY) rfl hd rfl (tlt hc).2.2.1 (by omega) (by omega) q) (KY hc)
  · exact Done.go (fun t q => XS.icmpNo A hx rfl hd rfl (flt hc).2.2.1 q) (KN hc)
theorem k_if_gt (A : At T m c below) (hx : p.tables.exec = Jvm.exec) {x : Int32} {o : Int} {pcY : Nat} (hd : decode c.code pc = .ok (.ifCond .gt o, 3)) (hY : (pc : Int) + o = (pcY : Int)) (hp : pc + 3 = pc')
    (KY : 0 < x → Done p e below G (T.setTop (mkF m pcY Ls st))) (KN : ¬ 0 < x → Done p e below G (T.setTop (mkF m pc' Ls st))) : Done p e below G (T.setTop (mkF m pc Ls (.int x :: st))) := by
  subst hp
  by_cases hc : 0 < x
  · exact Done.go (fun t q => XS.ifYes A hx rfl (pc0 := pc) (pc' := pcY) rfl hd rfl ((if0 _ _).trans (tlt hc).2.2.1) (by omega) (by omega) q) (KY hc)
  · exact Done.go (fun t q => XS.ifNo A hx rfl hd rfl ((if0 _ _).trans (flt hc).2.2.1) q) (KN hc)
theorem k_icmp_le (A : At T m c below) (hx : p.tables.exec = Jvm.exec) {x y : Int32} {o : Int} {pcY : Nat} (hd : decode c.code pc = .ok (.if_icmp .le o, 3)) (hY : (pc : Int) + o = (pcY : Int)) (hp : pc + 3 = pc')
    (KY : ¬ y < x → Done p e below G (T.setTop (mkF m pcY Ls st))) (KN : y < x → Done p e below G (T.setTop (mkF m pc' Ls st))) : Done p e below G (T.setTop (mkF m pc Ls (.int y :: .int x :: st))) := by
  subst hp
  by_cases hc : y < x
  · exact Done.go (fun t q => XS.icmpNo A hx rfl hd rfl (tlt hc).2.2.2 q) (KN hc)
  · exact Done.go (fun t q => XS.icmpYes A hx rfl (pc0 := pc) (pc' := pcY) rfl hd rfl (flt hc).2.2.2 (by omega) (by omega) q) (KY hc)
theorem k_if_le (A : At T m c below) (hx : p.tables.exec = Jvm.exec) {x : Int32} {o : Int} {pcY : Nat} (hd : decode c.code pc = .ok (.ifCond .le o, 3)) (hY : (pc : Int) + o = (pcY : Int)) (hp : pc + 3 = pc')
    (KY : ¬ 0 < x → Done p e below G (T.setTop (mkF m pcY Ls st))) (KN : 0 < x → Done p e below G (T.setTop (mkF m pc' Ls st))) : Done p e below G (T.setTop (mkF m pc Ls (.int x :: st))) := by
  subst hp
  by_cases hc : 0 < x
  · exact Done.go (fun t q => XS.ifNo A hx rfl hd rfl ((if0 _ _).trans (tlt hc).2.2.2) q) (KN hc)
  · exact Done.go (fun t q => XS.ifYes A hx rfl (pc0 := pc) (pc' := pcY) rfl hd rfl ((if0 _ _).trans (flt hc).2.2.2) (by omega) (by omega) q) (KY hc)
theorem k_icmp_eq (A : At T m c below) (hx : p.tables.exec = Jvm.exec) {x y : Int32} {o : Int} {pcY : Nat} (hd : decode c.code pc = .ok (.if_icmp .eq o, 3)) (hY : (pc : Int) + o = (pcY : Int)) (hp : pc + 3 = pc')
    (KY : x = y → Done p e below G (T.setTop (mkF m pcY Ls st))) (KN : ¬ x = y → Done p e below G (T.setTop (mkF m pc' Ls st))) : Done p e below G (T.setTop (mkF m pc Ls (.int y :: .int x :: st))) := by
  subst hp
  by_cases hc : x = y
  · exact Done.go (fun t q => XS.icmpYes A hx rfl (pc0 := pc) (pc' := pcY) rfl hd rfl (teq hc).1 (by omega) (by omega) q) (KY hc)
  · exact Done.go (fun t q => XS.icmpNo A hx rfl hd rfl (feq hc).1 q) (KN hc)
theorem k_if_eq (A : At T m c below) (hx : p.tables.exec = Jvm.exec) {x : Int32} {o : Int} {pcY : Nat} (hd : decode c.code pc = .ok (.ifCond .eq o, 3)) (hY : (pc : Int) + o = (pcY : Int)) (hp : pc + 3 = pc')
    (KY : x = 0 → Done p e below G (T.setTop (mkF m pcY Ls st))) (KN : ¬ x = 0 → Done p e below G (T.setTop (mkF m pc' Ls st))) : Done p e below G (T.setTop (mkF m pc Ls (.int x :: st))) := by
  subst hp
  by_cases hc : x = 0
  · exact Done.go (fun t q => XS.ifYes A hx rfl (pc0 := pc) (pc' := pcY) rfl hd rfl ((if0 _ _).trans (teq hc).1) (by omega) (by omega) q) (KY hc)
  · exact Done.go (fun t q => XS.ifNo A hx rfl hd rfl ((if0 _ _).trans (feq hc).1) q) (KN hc)
theorem k_icmp_ne (A : At T m c below) (hx : p.tables.exec = Jvm.exec) {x y : Int32} {o : Int} {pcY : Nat} (hd : decode c.code pc = .ok (.if_icmp .ne o, 3)) (hY : (pc : Int) + o = (pcY : Int)) (hp : pc + 3 = pc')
    (KY : ¬ x = y → Done p e below G (T.setTop (mkF m pcY Ls st))) (KN : x = y → Done p e below G (T.setTop (mkF m pc' Ls st))) : Done p e below G (T.setTop (mkF m pc Ls (.int y :: .int x :: st))) := by
  subst hp
  by_cases hc : x = y
  · exact Done.go (fun t q => XS.icmpNo A hx rfl hd rfl (teq hc).2 q) (KN hc)
  · exact Done.go (fun t q => XS.icmpYes A hx rfl (pc0 := pc) (pc' := pcY) rfl hd rfl (feq hc).2 (by omega) (by omega) q) (KY hc)
theorem k_if_ne (A : At T m c below) (hx : p.tables.exec = Jvm.exec) {x : Int32} {o : Int} {pcY : Nat} (hd : decode c.code pc = .ok (.ifCond .ne o, 3)) (hY : (pc : Int) + o = (pcY : Int)) (hp : pc + 3 = pc')
    (KY : ¬ x = 0 → Done p e below G (T.setTop (mkF m pcY Ls st))) (KN : x = 0 → Done p e below G (T.setTop (mkF m pc' Ls st))) : Done p e below G (T.setTop (mkF m pc Ls (.int x :: st))) := by
  subst hp
  by_cases hc : x = 0
  · exact Done.go (fun t q => XS.ifNo A hx rfl hd rfl ((if0 _ _).trans (teq hc).2) q) (KN hc)
  · exact Done.go (fun t q => XS.ifYes A hx rfl (pc0 := pc) (pc' := pcY) rfl hd rfl ((if0 _ _).trans (feq hc).2) (by omega) (by omega) q) (KY hc)
theorem k_lcmp_lt (A : At T m c below) (hx : p.tables.exec = Jvm.exec) {x y : Int64} {o : Int} {pcY : Nat} (hd : decode c.code pc = .ok (.lcmp, 1)) (hd2 : decode c.code (pc + 1) = .ok (.ifCond .lt o, 3)) (hY : ((pc + 1 : Nat) : Int) + o = (pcY : Int)) (hp : pc + 1 + 3 = pc')
    (KY : x < y → Done p e below G (T.setTop (mkF m pcY Ls st))) (KN : ¬ x < y → Done p e below G (T.setTop (mkF m pc' Ls st))) : Done p e below G (T.setTop (mkF m pc Ls (.long y :: .long x :: st))) := by
  subst hp
  by_cases hc : x < y
  · exact Done.go (fun t q => XS.lcmp A hx rfl hd rfl (XS.ifYes A hx rfl (pc0 := pc + 1) (pc' := pcY) rfl hd2 rfl ((if0 _ _).trans (tlt ((lw_lt x y).mpr hc)).1) (by omega) (by omega) q)) (KY hc)
  · exact Done.go (fun t q => XS.lcmp A hx rfl hd rfl (XS.ifNo A hx rfl hd2 rfl ((if0 _ _).trans (flt (fun z => hc ((lw_lt x y).mp z))).1) q)) (KN hc)
theorem k_lcmp_ge (A : At T m c below) (hx : p.tables.exec = Jvm.exec) {x y : Int64} {o : Int} {pcY : Nat} (hd : decode c.code pc = .ok (.lcmp, 1)) (hd2 : decode c.code (pc + 1) = .ok (.ifCond .ge o, 3)) (hY : ((pc + 1 : Nat) : Int) + o = (pcY : Int)) (hp : pc + 1 + 3 = pc')
    (KY : ¬ x < y → Done p e below G (T.setTop (mkF m pcY Ls st))) (KN : x < y → Done p e below G (T.setTop (mkF m pc' Ls st))) : Done p e below G (T.setTop (mkF m pc Ls (.long y :: .long x :: st))) := by
  subst hp
  by_cases hc : x < y
  · exact Done.go (fun t q => XS.lcmp A hx rfl hd rfl (XS.ifNo A hx rfl hd2 rfl ((if0 _ _).trans (tlt ((lw_lt x y).mpr hc)).2.1) q)) (KN hc)
  · exact Done.go (fun t q => XS.lcmp A hx rfl hd rfl (XS.ifYes A hx rfl (pc0 := pc + 1) (pc' := pcY) rfl hd2 rfl ((if0 _ _).trans (flt (fun z => hc ((lw_lt x y).mp z))).2.1) (by omega) (by omega) q)) (KY hc)
theorem k_lcmp_gt (A : At T m c below) (hx : p.tables.exec = Jvm.exec) {x y : Int64} {o : Int} {pcY : Nat} (hd : decode c.code pc = .ok (.lcmp, 1)) (hd2 : decode c.code (pc + 1) = .ok (.ifCond .gt o, 3)) (hY : ((pc + 1 : Nat) : Int) + o = (pcY : Int)) (hp : pc + 1 + 3 = pc')
    (KY : y < x → Done p e below G (T.setTop (mkF m pcY Ls st))) (KN : ¬ y < x → Done p e below G (T.setTop (mkF m pc' Ls st))) : Done p e below G (T.setTop (mkF m pc Ls (.long y :: .long x :: st))) := by
  subst hp
  by_cases hc : y < x
  · exact Done.go (fun t q => XS.lcmp A hx rfl hd rfl (XS.ifYes A hx rfl (pc0 := pc + 1) (pc' := pcY) rfl hd2 rfl ((if0 _ _).trans (tlt ((lw_gt x y).mpr hc)).2.2.1) (by omega) (by omega) q)) (KY hc)
  · exact Done.go (fun t q => XS.lcmp A hx rfl hd rfl (XS.ifNo A hx rfl hd2 rfl ((if0 _ _).trans (flt (fun z => hc ((lw_gt x y).mp z))).2.2.1) q)) (KN hc)
theorem k_lcmp_le (A : At T m c below) (hx : p.tables.exec = Jvm.exec) {x y : Int64} {o : Int} {pcY : Nat} (hd : decode c.code pc = .ok (.lcmp, 1)) (hd2 : decode c.code (pc + 1) = .ok (.ifCond .le o, 3)) (hY : ((pc + 1 : Nat) : Int) + o = (pcY : Int)) (hp : pc + 1 + 3 = pc')
    (KY : ¬ y < x → Done p e below G (T.setTop (mkF m pcY Ls st))) (KN : y < x → Done p e below G (T.setTop (mkF m pc' Ls st))) : Done p e below G (T.setTop (mkF m pc Ls (.long y :: .long x :: st))) := by
  subst hp
  by_cases hc : y < x
  · exact Done.go (fun t q => XS.lcmp A hx rfl hd rfl (XS.ifNo A hx rfl hd2 rfl ((if0 _ _).trans (tlt ((lw_gt x y).mpr hc)).2.2.2) q)) (KN hc)
  · exact Done.go (fun t q => XS.lcmp A hx rfl hd rfl (XS.ifYes A hx rfl (pc0 := pc + 1) (pc' := pcY) rfl hd2 rfl ((if0 _ _).trans (flt (fun z => hc ((lw_gt x y).mp z))).2.2.2) (by omega) (by omega) q)) (KY hc)
theorem k_lcmp_eq (A : At T m c below) (hx : p.tables.exec = Jvm.exec) {x y : Int64} {o : Int} {pcY : Nat} (hd : decode c.code pc = .ok (.lcmp, 1)) (hd2 : decode c.code (pc + 1) = .ok (.ifCond .eq o, 3)) (hY : ((pc + 1 : Nat) : Int) + o = (pcY : Int)) (hp : pc + 1 + 3 = pc')
    (KY : x = y → Done p e below G (T.setTop (mkF m pcY Ls st))) (KN : ¬ x = y → Done p e below G (T.setTop (mkF m pc' Ls st))) : Done p e below G (T.setTop (mkF m pc Ls (.long y :: .long x :: st))) := by
  subst hp
  by_cases hc : x = y
  · exact Done.go (fun t q => XS.lcmp A hx rfl hd rfl (XS.ifYes A hx rfl (pc0 := pc + 1) (pc' := pcY) rfl hd2 rfl ((if0 _ _).trans (teq ((lw_eq x y).mpr hc)).1) (by omega) (by omega) q)) (KY hc)
  · exact Done.go (fun t q => XS.lcmp A hx rfl hd rfl (XS.ifNo A hx rfl hd2 rfl ((if0 _ _).trans (feq (fun z => hc ((lw_eq x y).mp z))).1) q)) (KN hc)
theorem k_lcmp_ne (A : At T m c below) (hx : p.tables.exec = Jvm.exec) {x y : Int64} {o : Int} {pcY : Nat} (hd : decode c.code pc = .ok (.lcmp, 1)) (hd2 : decode c.code (pc + 1) = .ok (.ifCond .ne o, 3)) (hY : ((pc + 1 : Nat) : Int) + o = (pcY : Int)) (hp : pc + 1 + 3 = pc')
    (KY : ¬ x = y → Done p e below G (T.setTop (mkF m pcY Ls st))) (KN : x = y → Done p e below G (T.setTop (mkF m pc' Ls st))) : Done p e below G (T.setTop (mkF m pc Ls (.long y :: .long x :: st))) := by
  subst hp
  by_cases hc : x = y
  · exact Done.go (fun t q => XS.lcmp A hx rfl hd rfl (XS.ifNo A hx rfl hd2 rfl ((if0 _ _).trans (teq ((lw_eq x y).mpr hc)).2) q)) (KN hc)
  · exact Done.go (fun t q => XS.lcmp A hx rfl hd rfl (XS.ifYes A hx rfl (pc0 := pc + 1) (pc' := pcY) rfl hd2 rfl ((if0 _ _).trans (feq (fun z => hc ((lw_eq x y).mp z))).2) (by omega) (by omega) q)) (KY hc)
/-! ### a store into a slot of which only its one word is known -/
theorem store_eq (L : Array Slot) (i : Nat) (v : Value) : storeLocals L i v = (L[i]?).bind fun o => match o with
    | .second => (setAt L (i - 1) .unset).bind fun l => storeSelf l i v
    | .val old => if old.category = 2 then ((setAt L (i + 1) .unset).bind fun l => storeSelf l i v) else storeSelf L i v
    | .unset => storeSelf L i v := rfl
theorem store1 {L L' : Array Slot} {i : Nat} {o : Slot} {v : Value} (h : L[i]? = some o) (H : One o) (hs : storeSelf L i v = some L') : storeLocals L i v = some L' := by
  rw [store_eq, h]
  rcases H with rfl | ⟨w, rfl, q⟩
  · exact hs
  · show (if w.category = 2 then _ else storeSelf L i v) = _
    rw [if_neg (by omega)]; exact hs
/-! ### constants of the pool -/
theorem k_ldcInt (S : St p l e R s m args below meth c n0 T h k n) (hx : p.tables.exec = Jvm.exec) (hZ : Z.Warmed39 s.vm) {own : String} {index : Nat} {v : Int32} (hown : s.vm.findClass own = some m.cls) (w : (Jvm.Cond.constant own index v).before a0 Z = true)
    (hd : decode c.code pc = .ok (.ldc index, 2)) (hp : pc + 2 = pc') (K : Done p e below G (T.setTop (mkF m pc' Ls (.int v :: st)))) : Done p e below G (T.setTop (mkF m pc Ls st)) := by
  subst hp
  obtain ⟨_, X, -, -⟩ := S
  exact Done.go (X.ldcInt hx hown (mvT hZ w) (g := mkF m pc Ls st) rfl hd) K
theorem k_ldcwInt (S : St p l e R s m args below meth c n0 T h k n) (hx : p.tables.exec = Jvm.exec) (hZ : Z.Warmed39 s.vm) {own : String} {index : Nat} {v : Int32} (hown : s.vm.findClass own = some m.cls) (w : (Jvm.Cond.constant own index v).before a0 Z = true)
    (hd : decode c.code pc = .ok (.ldc_w index, 3)) (hp : pc + 3 = pc') (K : Done p e below G (T.setTop (mkF m pc' Ls (.int v :: st)))) : Done p e below G (T.setTop (mkF m pc Ls st)) := by
  subst hp
  obtain ⟨_, X, -, -⟩ := S
  exact Done.go (X.ldcwInt hx hown (mvT hZ w) (g := mkF m pc Ls st) rfl hd) K
theorem k_ldc2Long (S : St p l e R s m args below meth c n0 T h k n) (hx : p.tables.exec = Jvm.exec) (hZ : Z.Warmed39 s.vm) {own : String} {index : Nat} {v : Int64} (hown : s.vm.findClass own = some m.cls) (w : (Jvm.Cond.constantLong own index v).before a0 Z = true)
    (hd : decode c.code pc = .ok (.ldc2_w index, 3)) (hp : pc + 3 = pc') (K : Done p e below G (T.setTop (mkF m pc' Ls (.long v :: st)))) : Done p e below G (T.setTop (mkF m pc Ls st)) := by
  subst hp
  obtain ⟨_, X, -, -⟩ := S
  exact Done.go (X.ldc2Long hx hown (mvT hZ w) (g := mkF m pc Ls st) rfl hd) K
/-! ### returns -/
variable {Q : Option Value → Heap → Prop}
theorem k_ret_val {w : Value} {t : FieldType} {i : Instr} (S : St p l e R s m args below meth c n0 T h k n) (hx : p.tables.exec = Jvm.exec) (hret : meth.sig.returnType = some t) (hlk : meth.locks = false) (hd : decode c.code pc = .ok (i, 1)) (hn' : narrow t w = w)
    (hi : (i = .ireturn ∧ (t = .int ∨ t = .boolean ∨ t = .byte ∨ t = .char ∨ t = .short) ∧ ∃ z, w = .int z) ∨ (i = .lreturn ∧ t = .long ∧ ∃ z, w = .long z) ∨ (i = .dreturn ∧ t = .double ∧ ∃ z, w = .double z) ∨ (i = .freturn ∧ t = .float ∧ ∃ z, w = .float z) ∨ (i = .areturn ∧ t.isReference = true ∧ w.isRef = true))
    (hk : k ≤ R.cells) (hn : n ≤ R.slots) (q : Q (some w) h) : Done p e below (OEnd s R n0 Q) (T.setTop (mkF m pc Ls (w :: st))) := by
  obtain ⟨locs, X, N, eT⟩ := S
  obtain ⟨fs, hr, hrun, hended, hW, hsame⟩ := X.leave (v := some w) (fun h => by rw [hret] at h; cases h) hlk
  refine ⟨_, _, retOut X hx hret hn' hi hd hr, hrun, hended, _, locs, rfl, ⟨?_, N⟩, ⟨_, rfl⟩, hW, hsame.mono hk hn⟩
  show Q _ T.heap
  rw [eT]; exact q
theorem k_ret_int {z : Int32} (S : St p l e R s m args below meth c n0 T h k n) (hx : p.tables.exec = Jvm.exec) (hret : meth.sig.returnType = some .int) (hlk : meth.locks = false) (hd : decode c.code pc = .ok (.ireturn, 1))
    (hk : k ≤ R.cells) (hn : n ≤ R.slots) (q : Q (some (.int z)) h) : Done p e below (OEnd s R n0 Q) (T.setTop (mkF m pc Ls (.int z :: st))) :=
  k_ret_val S hx hret hlk hd rfl (Or.inl ⟨rfl, Or.inl rfl, z, rfl⟩) hk hn q
theorem k_ret_long {z : Int64} (S : St p l e R s m args below meth c n0 T h k n) (hx : p.tables.exec = Jvm.exec) (hret : meth.sig.returnType = some .long) (hlk : meth.locks = false) (hd : decode c.code pc = .ok (.lreturn, 1))
    (hk : k ≤ R.cells) (hn : n ≤ R.slots) (q : Q (some (.long z)) h) : Done p e below (OEnd s R n0 Q) (T.setTop (mkF m pc Ls (.long z :: st))) :=
  k_ret_val S hx hret hlk hd rfl (Or.inr (Or.inl ⟨rfl, rfl, z, rfl⟩)) hk hn q
theorem k_ret_ref {a : Addr} {t : FieldType} (S : St p l e R s m args below meth c n0 T h k n) (hx : p.tables.exec = Jvm.exec) (hret : meth.sig.returnType = some t) (ht : t.isReference = true) (hlk : meth.locks = false) (hd : decode c.code pc = .ok (.areturn, 1))
    (hk : k ≤ R.cells) (hn : n ≤ R.slots) (q : Q (some (.ref a)) h) : Done p e below (OEnd s R n0 Q) (T.setTop (mkF m pc Ls (.ref a :: st))) :=
  k_ret_val S hx hret hlk hd (by cases t <;> first | rfl | (cases ht; done)) (Or.inr (Or.inr (Or.inr (Or.inr ⟨rfl, ht, rfl⟩)))) hk hn q
theorem k_ret_nar {z z' : Int32} {t : FieldType} (S : St p l e R s m args below meth c n0 T h k n) (hx : p.tables.exec = Jvm.exec) (hret : meth.sig.returnType = some t) (ht : t = .boolean ∨ t = .byte ∨ t = .char ∨ t = .short) (hlk : meth.locks = false) (hd : decode c.code pc = .ok (.ireturn, 1)) (hz : nar t z = z')
    (hk : k ≤ R.cells) (hn : n ≤ R.slots) (q : Q (some (.int z')) h) : Done p e below (OEnd s R n0 Q) (T.setTop (mkF m pc Ls (.int z :: st))) := by
  obtain ⟨locs, X, N, eT⟩ := S
  subst hz
  obtain ⟨fs, hr, hrun, hended, hW, hsame⟩ := X.leave (v := some (.int (nar t z))) (fun h => by rw [hret] at h; cases h) hlk
  refine ⟨_, _, retN X hx hret ht hd hr, hrun, hended, _, locs, rfl, ⟨?_, N⟩, ⟨_, rfl⟩, hW, hsame.mono hk hn⟩
  show Q _ T.heap
  rw [eT]; exact q
theorem k_ret_void (S : St p l e R s m args below meth c n0 T h k n) (hx : p.tables.exec = Jvm.exec) (hret : meth.sig.returnType = none) (hlk : meth.locks = false) (hd : decode c.code pc = .ok (.return_, 1))
    (hk : k ≤ R.cells) (hn : n ≤ R.slots) (q : Q none h) : Done p e below (OEnd s R n0 Q) (T.setTop (mkF m pc Ls [])) := by
  obtain ⟨locs, X, N, eT⟩ := S
  obtain ⟨fs, hr, hrun, hended, hW, hsame⟩ := X.leave (v := none) (fun _ => rfl) hlk
  refine ⟨_, _, X.returnOut hx hret hd hr, hrun, hended, _, locs, rfl, ⟨?_, N⟩, ⟨_, rfl⟩, hW, hsame.mono hk hn⟩
  show Q _ T.heap
  rw [eT]; exact q
/-! ### calls by a contract -/
theorem k_call_static (S : St p l e R s m args below meth c n0 T h k n) (hx : p.tables.exec = Jvm.exec) (hZ : Z.Warmed39 s.vm) {own : String} {index : Nat} {y : MethodName} {bytes : ByteArray} {maxL : Nat} {ret : Option FieldType} (hown : s.vm.findClass own = some m.cls)
    (w1 : (Jvm.Cond.methodLink own index y).before a0 Z = true) (w2 : (Jvm.Cond.static y).before a0 Z = true) (w3 : (Jvm.Cond.initialized y.cls).before a0 Z = true) (w4 : (Jvm.Cond.code y bytes maxL ret).before a0 Z = true)
    (hy : y.cls ≠ "java/lang/invoke/MethodHandle" ∧ y.cls ≠ "java/lang/invoke/VarHandle") {rm : Room} {as' : Array Value} (C : Con l Z y bytes maxL ret rm n0 h as' Q) (W : Nat) {argsL rest : List Value}
    (hf : rm.frames + 1 ≤ R.frames) (hl : W + (maxL + 11) + rm.locals ≤ R.locals) (hml : Ls.size = c.maxLocals) (hlen : ∀ sig, parseMethodDescriptor y.desc = some sig → argsL.length = sig.parameters.length) (has : argsL.toArray = as')
    (hst : st = argsL.reverse ++ rest) (hW : (rest.map fun v => v.category).sum ≤ W) (hd : decode c.code pc = .ok (.invokestatic index, 3)) (hp : pc + 3 = pc') (hk : k + rm.cells ≤ R.cells) (hn : n + rm.slots ≤ R.slots)
    (K : ∀ v T' h', Q v h' → St p l e R s m args below meth c n0 T' h' (k + rm.cells) (n + rm.slots) → Done p e below G (T'.setTop (mkF m pc' Ls (v.toList ++ rest)))) :
    Done p e below G (T.setTop (mkF m pc Ls st)) := by
  subst hp
  obtain ⟨locs, X, N, eT⟩ := S
  obtain ⟨v, vm₁, ⟨T', L', k', n'⟩, -, X', ⟨L, ⟨hQ, NL⟩, e1, e2, e3⟩, step⟩ := Jvm.LawKit.callS X hx (y := y) hown (mvT hZ w1) (mvT hZ w2) (mvT hZ w3) (mvT hZ w4) hy
    (backOf (W := W) (Q := fun v h L => Q v h ∧ Fr n0 L) (C []) hZ w4 w3 hf hl) (g := mkF m pc Ls st) rfl hml (argsL := argsL) (rest := rest) hlen hst (by show 2 * 0 + _ ≤ _; omega) hd
    (fun _ _ => ⟨has, eT, hk, hn⟩)
  dsimp only [Pt.U, Pt.locs, Pt.cells, Pt.slots] at X' hQ e1 e2 e3 step
  subst e1 e2 e3
  exact Done.go step (K v T' T'.heap hQ ⟨_, X', Fr.app N NL, rfl⟩)
theorem k_call_init (S : St p l e R s m args below meth c n0 T h k n) (hx : p.tables.exec = Jvm.exec) (hZ : Z.Warmed39 s.vm) {own : String} {index : Nat} {y : MethodName} {bytes : ByteArray} {maxL : Nat} (hown : s.vm.findClass own = some m.cls) (hy1 : y.name = "<init>")
    (w1 : (Jvm.Cond.methodLink own index y).before a0 Z = true) (w2 : (Jvm.Cond.instanceMethod y).before a0 Z = true) (w3 : (Jvm.Cond.initialized y.cls).before a0 Z = true) (w4 : (Jvm.Cond.code y bytes maxL none).before a0 Z = true)
    (hy : y.cls ≠ "java/lang/invoke/MethodHandle" ∧ y.cls ≠ "java/lang/invoke/VarHandle") {rm : Room} {as' : Array Value} (C : Con l Z y bytes maxL none rm n0 h as' Q) (W : Nat) {a : Addr} {argsL rest : List Value}
    (hf : rm.frames + 1 ≤ R.frames) (hl : W + (maxL + 11) + rm.locals ≤ R.locals) (hml : Ls.size = c.maxLocals) (hlen : ∀ sig, parseMethodDescriptor y.desc = some sig → argsL.length = sig.parameters.length) (has : (.ref a :: argsL).toArray = as')
    (hst : st = argsL.reverse ++ .ref a :: rest) (hW : (rest.map fun v => v.category).sum ≤ W) (hd : decode c.code pc = .ok (.invokespecial index, 3)) (hp : pc + 3 = pc') (hk : k + rm.cells ≤ R.cells) (hn : n + rm.slots ≤ R.slots)
    (K : ∀ v T' h', Q v h' → St p l e R s m args below meth c n0 T' h' (k + rm.cells) (n + rm.slots) → Done p e below G (T'.setTop (mkF m pc' Ls (v.toList ++ rest)))) :
    Done p e below G (T.setTop (mkF m pc Ls st)) := by
  subst hp
  obtain ⟨locs, X, N, eT⟩ := S
  obtain ⟨v, vm₁, ⟨T', L', k', n'⟩, -, X', ⟨L, ⟨hQ, NL⟩, e1, e2, e3⟩, step⟩ := X.specialBack hx (y := y) hy1 hown (mvT hZ w1) (mvT hZ w2) (mvT hZ w4) hy
    (backOf (W := W) (Q := fun v h L => Q v h ∧ Fr n0 L) (C []) hZ w4 w3 hf hl) (g := mkF m pc Ls st) rfl hml (Steps.refl _) (a := a) (argsL := argsL) (rest := rest) hlen hst (by show 2 * 0 + _ ≤ _; omega) hd
    (fun _ _ => ⟨has, eT, hk, hn⟩)
  dsimp only [Pt.U, Pt.locs, Pt.cells, Pt.slots] at X' hQ e1 e2 e3 step
  subst e1 e2 e3
  exact Done.go (fun t q => step.trans q) (K v T' T'.heap hQ ⟨_, X', Fr.app N NL, rfl⟩)
theorem k_call_virtual (S : St p l e R s m args below meth c n0 T h k n) (hx : p.tables.exec = Jvm.exec) (hZ : Z.Warmed39 s.vm) {own : String} {index : Nat} {y : MethodName} {bytes : ByteArray} {maxL : Nat} {ret : Option FieldType} (hown : s.vm.findClass own = some m.cls) {a : Addr} (E : Exa Z h a y.cls)
    (w1 : (Jvm.Cond.methodLink own index y).before a0 Z = true) (w2 : (Jvm.Cond.declares y).before a0 Z = true) (w5 : (Jvm.Cond.selects y.cls y y).before a0 Z = true) (w6 : (Jvm.Cond.instanceMethod y).before a0 Z = true) (w3 : (Jvm.Cond.initialized y.cls).before a0 Z = true) (w4 : (Jvm.Cond.code y bytes maxL ret).before a0 Z = true)
    (hy : y.cls ≠ "java/lang/invoke/MethodHandle" ∧ y.cls ≠ "java/lang/invoke/VarHandle") {rm : Room} {as' : Array Value} (C : Con l Z y bytes maxL ret rm n0 h as' Q) (W : Nat) {argsL rest : List Value}
    (hf : rm.frames + 1 ≤ R.frames) (hl : W + (maxL + 11) + rm.locals ≤ R.locals) (hml : Ls.size = c.maxLocals) (hlen : ∀ sig, parseMethodDescriptor y.desc = some sig → argsL.length = sig.parameters.length) (has : (.ref a :: argsL).toArray = as')
    (hst : st = argsL.reverse ++ .ref a :: rest) (hW : (rest.map fun v => v.category).sum ≤ W) (hd : decode c.code pc = .ok (.invokevirtual index, 3)) (hp : pc + 3 = pc') (hk : k + rm.cells ≤ R.cells) (hn : n + rm.slots ≤ R.slots)
    (K : ∀ v T' h', Q v h' → St p l e R s m args below meth c n0 T' h' (k + rm.cells) (n + rm.slots) → Done p e below G (T'.setTop (mkF m pc' Ls (v.toList ++ rest)))) :
    Done p e below G (T.setTop (mkF m pc Ls st)) := by
  subst hp
  obtain ⟨locs, X, N, eT⟩ := S
  obtain ⟨cq, kq, qa, qb, qc⟩ := isOf hZ eT E
  obtain ⟨v, vm₁, ⟨T', L', k', n'⟩, -, X', ⟨L, ⟨hQ, NL⟩, e1, e2, e3⟩, step⟩ := X.virtualBack hx (y := y) (z := y) hown (mvT hZ w1) (mvT hZ w2) (notFace_of_selects (args := #[]) (mvT hZ w5)) (mvT hZ w5) (mvT hZ w6) hy
    (backOf (W := W) (Q := fun v h L => Q v h ∧ Fr n0 L) (C []) hZ w4 w3 hf hl) qa qc (g := mkF m pc Ls st) rfl hml (Steps.refl _) (argsL := argsL) (rest := rest) hlen hst (by show 2 * 0 + _ ≤ _; omega) hd
    (fun _ _ => ⟨has, eT, hk, hn⟩)
  dsimp only [Pt.U, Pt.locs, Pt.cells, Pt.slots] at X' hQ e1 e2 e3 step
  subst e1 e2 e3
  exact Done.go (fun t q => step.trans q) (K v T' T'.heap hQ ⟨_, X', Fr.app N NL, rfl⟩)
theorem k_call_private (S : St p l e R s m args below meth c n0 T h k n) (hx : p.tables.exec = Jvm.exec) (hZ : Z.Warmed39 s.vm) {own : String} {index : Nat} {y : MethodName} {bytes : ByteArray} {maxL : Nat} {ret : Option FieldType} (hown : s.vm.findClass own = some m.cls) {a : Addr} (E : Exa Z h a y.cls)
    (w1 : (Jvm.Cond.methodLink own index y).before a0 Z = true) (w6 : (Jvm.Cond.instanceMethod y).before a0 Z = true) (w5 : (Jvm.Cond.selects y.cls y y).before a0 Z = true) (w7 : (Jvm.Cond.privateMethod y).before a0 Z = true) (w3 : (Jvm.Cond.initialized y.cls).before a0 Z = true) (w4 : (Jvm.Cond.code y bytes maxL ret).before a0 Z = true)
    (hy : y.cls ≠ "java/lang/invoke/MethodHandle" ∧ y.cls ≠ "java/lang/invoke/VarHandle") {rm : Room} {as' : Array Value} (C : Con l Z y bytes maxL ret rm n0 h as' Q) (W : Nat) {argsL rest : List Value}
    (hf : rm.frames + 1 ≤ R.frames) (hl : W + (maxL + 11) + rm.locals ≤ R.locals) (hml : Ls.size = c.maxLocals) (hlen : ∀ sig, parseMethodDescriptor y.desc = some sig → argsL.length = sig.parameters.length) (has : (.ref a :: argsL).toArray = as')
    (hst : st = argsL.reverse ++ .ref a :: rest) (hW : (rest.map fun v => v.category).sum ≤ W) (hd : decode c.code pc = .ok (.invokevirtual index, 3)) (hp : pc + 3 = pc') (hk : k + rm.cells ≤ R.cells) (hn : n + rm.slots ≤ R.slots)
    (K : ∀ v T' h', Q v h' → St p l e R s m args below meth c n0 T' h' (k + rm.cells) (n + rm.slots) → Done p e below G (T'.setTop (mkF m pc' Ls (v.toList ++ rest)))) :
    Done p e below G (T.setTop (mkF m pc Ls st)) := by
  subst hp
  obtain ⟨locs, X, N, eT⟩ := S
  obtain ⟨cq, q1, q2⟩ := E.cell
  obtain ⟨v, vm₁, ⟨T', L', k', n'⟩, -, X', ⟨L, ⟨hQ, NL⟩, e1, e2, e3⟩, step⟩ := X.privateBack hx (y := y) hown (mvT hZ w1) (mvT hZ w6) (mvT hZ w5) (Cond.privateMethod_at (mvP hZ w7 (args := #[]))) (mvT hZ w4) hy
    (backOf (W := W) (Q := fun v h L => Q v h ∧ Fr n0 L) (C []) hZ w4 w3 hf hl) (g := mkF m pc Ls st) rfl hml (Steps.refl _) (a := a) (by rw [eT]; exact q1) q2 (argsL := argsL) (rest := rest) hlen hst (by show 2 * 0 + _ ≤ _; omega) hd
    (fun _ _ => ⟨has, eT, hk, hn⟩)
  dsimp only [Pt.U, Pt.locs, Pt.cells, Pt.slots] at X' hQ e1 e2 e3 step
  subst e1 e2 e3
  exact Done.go (fun t q => step.trans q) (K v T' T'.heap hQ ⟨_, X', Fr.app N NL, rfl⟩)
/-- any one step of the library's that leaves the heap and the room as they are -/
theorem k_via {f f' : JFrame} (S : St p l e R s m args below meth c n0 T h k n) (I : ∀ locs, Stand p l e R s m args below meth c T locs k n → T.heap = h → ∃ T', Stand p l e R s m args below meth c T' locs k n ∧ T'.heap = h ∧ ∀ target, Steps p.tables e below (T'.setTop f') target → Steps p.tables e below (T.setTop f) target)
    (K : ∀ T', St p l e R s m args below meth c n0 T' h k n → Done p e below G (T'.setTop f')) : Done p e below G (T.setTop f) := by
  obtain ⟨locs, X, N, eT⟩ := S
  obtain ⟨T', X', eT', step⟩ := I locs X eT
  exact Done.go step (K T' ⟨_, X', N, eT'⟩)
/-! ### the heap: objects and fields -/
theorem k_getfield (S : St p l e R s m args below meth c n0 T h k n) (hx : p.tables.exec = Jvm.exec) (hZ : Z.Warmed39 s.vm) {own O f d : String} {index : Nat} (hown : s.vm.findClass own = some m.cls) (w : (Jvm.Cond.fieldLink own index O f d).before a0 Z = true)
    {a : Addr} {v : Value} (F : Fld Z h a O f d v) (hd : decode c.code pc = .ok (.getfield index, 3)) (hp : pc + 3 = pc')
    (K : ∀ T', St p l e R s m args below meth c n0 T' h k n → Done p e below G (T'.setTop (mkF m pc' Ls (v :: st)))) : Done p e below G (T.setTop (mkF m pc Ls (.ref a :: st))) := by
  subst hp
  obtain ⟨locs, X, N, eT⟩ := S
  obtain ⟨T', X', eT', step⟩ := getF X hx hZ hown (host := "") (Or.inl w) Via.refl eT F (g := mkF m pc Ls (.ref a :: st)) rfl rfl hd
  exact Done.go step (K T' ⟨_, X', N, eT'⟩)
theorem k_putfield (S : St p l e R s m args below meth c n0 T h k n) (hx : p.tables.exec = Jvm.exec) (hZ : Z.Warmed39 s.vm) {own O f d C : String} {index kk : Nat} {ty : FieldType} (hown : s.vm.findClass own = some m.cls) (w : (Jvm.Cond.fieldLink own index O f d).before a0 Z = true)
    {a : Addr} {v old : Value} (F : Fld Z h a O f d old) (E : Exa Z h a C) (L : (Jvm.Cond.lays C O f d).before a0 Z = true ∨ ((Jvm.Cond.laysFinal C O f d).before a0 Z = true ∧ own = O ∧ meth.name = "<init>")) (wi : (Jvm.Cond.instantiable C kk).before a0 Z = true)
    (hty : parseFieldDescriptor d = some ty) (hn' : narrow ty v = v) (hf : fits ty v = true) (ha : n0 ≤ a) (hd : decode c.code pc = .ok (.putfield index, 3)) (hp : pc + 3 = pc')
    (K : ∀ T' h', Wr h h' a (Jvm.RoadKit.slotOf Z O f d) v → St p l e R s m args below meth c n0 T' h' k n → Done p e below G (T'.setTop (mkF m pc' Ls st))) : Done p e below G (T.setTop (mkF m pc Ls (v :: .ref a :: st))) := by
  subst hp
  obtain ⟨locs, X, N, eT⟩ := S
  obtain ⟨T', h', X', eT', W, step⟩ := putF X hx hZ hown (host := "") (Or.inl w) Via.refl eT F E L wi hty hn' hf (g := mkF m pc Ls (v :: .ref a :: st)) rfl rfl hd
  exact Done.go step (K T' h' W ⟨_, X', Fr.snoc X' N ha, eT'⟩)
theorem k_new (S : St p l e R s m args below meth c n0 T h k n) (hx : p.tables.exec = Jvm.exec) (hZ : Z.Warmed39 s.vm) {own C : String} {index f : Nat} (hown : s.vm.findClass own = some m.cls) (w : (Jvm.Cond.classLink own index C).before a0 Z = true) (wi : (Jvm.Cond.instantiable C f).before a0 Z = true) (wz : (Jvm.Cond.initialized C).before a0 Z = true)
    (hd : decode c.code pc = .ok (.new index, 3)) (hp : pc + 3 = pc') (hk : k + 1 ≤ R.cells) (hn : n + f ≤ R.slots)
    (K : ∀ T' h' b, b = h.size → Ext h h' → Exa Z h' b C → (∀ {O nm d : String} {ty : FieldType}, Laid Z a0 C O nm d → parseFieldDescriptor d = some ty → Fld Z h' b O nm d (defaultValue ty)) → St p l e R s m args below meth c n0 T' h' (k + 1) (n + f) → Done p e below G (T'.setTop (mkF m pc' Ls (.ref b :: st)))) :
    Done p e below G (T.setTop (mkF m pc Ls st)) := by
  subst hp
  obtain ⟨locs, X, N, eT⟩ := S
  obtain ⟨T', h', X', eT', E, A, D, -, step⟩ := newO X hx hZ hown w wi wz eT (g := mkF m pc Ls st) rfl hd hk hn
  exact Done.go step (K T' h' _ rfl E A D ⟨_, X', N, eT'⟩)
end Walk
end Jvm.OwnKit

namespace Jvm.OwnKit
open Sem ClassFile Op Lib Jvm.Stand Jvm.Free Jvm.LawKit Jvm.RoadKit
/-! My own layer: arrays as lists. -/
/-- at a lies an array of ty that holds vs -/
def Vec (Z : State) (h : Heap) (a : Addr) (ty : FieldType) (vs : List Value) : Prop := ∃ c : Cell, Arr Z h a c ty ∧ c.slots.toList = vs ∧ vs.length < 2 ^ 31
/-- an int[] | a byte[] that holds xs -/
def IV (Z : State) (h : Heap) (a : Addr) (xs : List Int32) : Prop := Vec Z h a .int (xs.map Value.int)
def BV (Z : State) (h : Heap) (a : Addr) (xs : List Int32) : Prop := Vec Z h a .byte (xs.map Value.int)
/-- a long[] that holds xs -/
def LV (Z : State) (h : Heap) (a : Addr) (xs : List Int64) : Prop := Vec Z h a .long (xs.map Value.long)
theorem Keep.ext0 {h h' : Heap} (K : Keep h h' []) : Ext h h' := ⟨K.1, fun x c q => K.2.1 x c q nin0⟩
theorem Keep.of_ext {h h' : Heap} (E : Ext h h') (ws : List Addr) : Keep h h' ws := (Keep.refl h ws).ext E
section Arrays
variable {p : Program} {l : Launch} {e : Env} {R : Room} {s : State} {m : MethodId} {args : Array Value} {below : List Frame} {meth : Method} {c : Code} {n0 : Nat} {T : State} {h h' : Heap} {k n : Nat} {Z : State} {a0 : Array Value}
variable {G : Outcome → State → Prop} {pc pc' : Nat} {Ls Ls' : Array Slot} {st : List Value} {a b : Addr} {ty : FieldType} {vs : List Value} {xs : List Int32} {ys : List Int64} {ws : List Addr} {sl : Nat} {v : Value}
theorem Vec.lt (F : Vec Z h a ty vs) : a < h.size := by obtain ⟨c, A, -⟩ := F; exact A.lt
theorem Vec.ext (F : Vec Z h a ty vs) (E : Ext h h') : Vec Z h' a ty vs := by obtain ⟨c, A, r⟩ := F; exact ⟨c, A.ext E, r⟩
theorem Vec.other (F : Vec Z h b ty vs) (W : Wr h h' a sl v) (q : b ≠ a) : Vec Z h' b ty vs := by obtain ⟨c, A, r⟩ := F; exact ⟨c, A.other W q, r⟩
theorem Vec.keep (F : Vec Z h a ty vs) (K : Keep h h' ws) (q : a ∉ ws) : Vec Z h' a ty vs := by obtain ⟨c, A, r⟩ := F; exact ⟨c, ⟨K.2.1 a c A.1 q, A.2⟩, r⟩
theorem Vec.put (F : Vec Z h a ty vs) (W : Wr h h' a sl v) : Vec Z h' a ty (vs.set sl v) := by
  obtain ⟨c, A, q, r⟩ := F
  exact ⟨_, A.same W, by simp [Cell.setSlot, q], by simpa using r⟩
theorem Vec.mk {x : Int32} (A : Arr Z h a (newA k ty x) ty) : Vec Z h a ty (List.replicate x.toInt.toNat (defaultValue ty)) := ⟨_, A, by
  show (Array.replicate x.toInt.toNat (defaultValue ty)).toList = _
  rw [Array.toList_replicate], by
  have := x.toInt_lt
  rw [List.length_replicate]; omega⟩
theorem IV.lt (F : IV Z h a xs) : a < h.size := Vec.lt F
theorem IV.ext (F : IV Z h a xs) (E : Ext h h') : IV Z h' a xs := Vec.ext F E
theorem IV.other (F : IV Z h b xs) (W : Wr h h' a sl v) (q : b ≠ a) : IV Z h' b xs := Vec.other F W q
theorem IV.keep (F : IV Z h a xs) (K : Keep h h' ws) (q : a ∉ ws) : IV Z h' a xs := Vec.keep F K q
theorem IV.put {x : Int32} (F : IV Z h a xs) (W : Wr h h' a sl (.int x)) : IV Z h' a (xs.set sl x) := by
  have q := Vec.put F W
  rw [← List.map_set] at q; exact q
theorem IV.len (F : IV Z h a xs) : xs.length < 2 ^ 31 := by obtain ⟨_, _, _, q⟩ := F; simpa using q
theorem BV.lt (F : BV Z h a xs) : a < h.size := Vec.lt F
theorem BV.ext (F : BV Z h a xs) (E : Ext h h') : BV Z h' a xs := Vec.ext F E
theorem BV.other (F : BV Z h b xs) (W : Wr h h' a sl v) (q : b ≠ a) : BV Z h' b xs := Vec.other F W q
theorem BV.keep (F : BV Z h a xs) (K : Keep h h' ws) (q : a ∉ ws) : BV Z h' a xs := Vec.keep F K q
theorem BV.put {x : Int32} (F : BV Z h a xs) (W : Wr h h' a sl (.int x)) : BV Z h' a (xs.set sl x) := by
  have q := Vec.put F W
  rw [← List.map_set] at q; exact q
theorem BV.len (F : BV Z h a xs) : xs.length < 2 ^ 31 := by obtain ⟨_, _, _, q⟩ := F; simpa using q
theorem LV.lt (F : LV Z h a ys) : a < h.size := Vec.lt F
theorem LV.ext (F : LV Z h a ys) (E : Ext h h') : LV Z h' a ys := Vec.ext F E
theorem LV.other (F : LV Z h b ys) (W : Wr h h' a sl v) (q : b ≠ a) : LV Z h' b ys := Vec.other F W q
theorem LV.keep (F : LV Z h a ys) (K : Keep h h' ws) (q : a ∉ ws) : LV Z h' a ys := Vec.keep F K q
theorem LV.put {x : Int64} (F : LV Z h a ys) (W : Wr h h' a sl (.long x)) : LV Z h' a (ys.set sl x) := by
  have q := Vec.put F W
  rw [← List.map_set] at q; exact q
theorem LV.len (F : LV Z h a ys) : ys.length < 2 ^ 31 := by obtain ⟨_, _, _, q⟩ := F; simpa using q
theorem inb {c : Cell} {j : Int32} (q : c.slots.toList = vs) (h1 : 0 ≤ j.toInt) (h2 : j.toInt < vs.length) : ¬ (j < 0 ∨ c.slots.size ≤ j.toNatClampNeg) := by
  subst q
  rw [Int32.lt_iff_toInt_lt]
  have e0 : (0 : Int32).toInt = 0 := rfl
  have e1 : j.toNatClampNeg = j.toInt.toNat := rfl
  have e2 : c.slots.toList.length = c.slots.size := by simp
  omega
theorem k_arraylength {z : Int32} (S : St p l e R s m args below meth c n0 T h k n) (hx : p.tables.exec = Jvm.exec) (hZ : Z.Warmed39 s.vm) (V : Vec Z h a ty vs) (hd : decode c.code pc = .ok (.arraylength, 1)) (hz : vs.length.toInt32 = z) (hp : pc + 1 = pc')
    (K : Done p e below G (T.setTop (mkF m pc' Ls (.int z :: st)))) : Done p e below G (T.setTop (mkF m pc Ls (.ref a :: st))) := by
  subst hp hz
  obtain ⟨_, X, -, eT⟩ := S
  obtain ⟨cl, A, q, r⟩ := V
  have e2 : vs.length = cl.slots.size := by rw [← q]; simp
  rw [e2] at K
  exact Done.go (fun t z => X.arraylength hx (by rw [eT]; exact A.1) (State.isArrayOf_alike hZ.alike A.2.1) (g := mkF m pc Ls (.ref a :: st)) rfl rfl hd _ z) K
theorem k_iaload {j w : Int32} (S : St p l e R s m args below meth c n0 T h k n) (hx : p.tables.exec = Jvm.exec) (hZ : Z.Warmed39 s.vm) (V : IV Z h a xs) (hd : decode c.code pc = .ok (.iaload, 1)) (h1 : 0 ≤ j.toInt) (h2 : j.toInt < xs.length) (hv : xs.getD j.toInt.toNat 0 = w) (hp : pc + 1 = pc')
    (K : Done p e below G (T.setTop (mkF m pc' Ls (.int w :: st)))) : Done p e below G (T.setTop (mkF m pc Ls (.int j :: .ref a :: st))) := by
  subst hp hv
  obtain ⟨_, X, -, eT⟩ := S
  obtain ⟨cl, A, q, r⟩ := V
  have hl : j.toInt.toNat < xs.length := by omega
  have hv : cl.slots[j.toNatClampNeg]? = some (.int (xs.getD j.toInt.toNat 0)) := by
    show cl.slots[j.toInt.toNat]? = _
    rw [← Array.getElem?_toList, q, List.getElem?_map, List.getElem?_eq_getElem hl]
    rw [List.getD_eq_getElem?_getD, List.getElem?_eq_getElem hl]; rfl
  exact Done.go (fun t z => X.iaload hx (by rw [eT]; exact A.1) (State.isArrayOf_alike hZ.alike A.2.1) A.2.2 (inb q h1 (by simpa using h2)) hv (g := mkF m pc Ls (.int j :: .ref a :: st)) rfl rfl hd _ z) K
theorem k_baload {j w : Int32} (S : St p l e R s m args below meth c n0 T h k n) (hx : p.tables.exec = Jvm.exec) (hZ : Z.Warmed39 s.vm) (V : BV Z h a xs) (hd : decode c.code pc = .ok (.baload, 1)) (h1 : 0 ≤ j.toInt) (h2 : j.toInt < xs.length) (hv : xs.getD j.toInt.toNat 0 = w) (hp : pc + 1 = pc')
    (K : Done p e below G (T.setTop (mkF m pc' Ls (.int w :: st)))) : Done p e below G (T.setTop (mkF m pc Ls (.int j :: .ref a :: st))) := by
  subst hp hv
  obtain ⟨_, X, -, eT⟩ := S
  obtain ⟨cl, A, q, r⟩ := V
  have hl : j.toInt.toNat < xs.length := by omega
  have hv : cl.slots[j.toNatClampNeg]? = some (.int (xs.getD j.toInt.toNat 0)) := by
    show cl.slots[j.toInt.toNat]? = _
    rw [← Array.getElem?_toList, q, List.getElem?_map, List.getElem?_eq_getElem hl]
    rw [List.getD_eq_getElem?_getD, List.getElem?_eq_getElem hl]; rfl
  exact Done.go (fun t z => X.baloadBytes hx (by rw [eT]; exact A.1) (State.isArrayOf_alike hZ.alike A.2.1) A.2.2 (inb q h1 (by simpa using h2)) hv (g := mkF m pc Ls (.int j :: .ref a :: st)) rfl rfl hd _ z) K
theorem k_laload {j : Int32} {w : Int64} (S : St p l e R s m args below meth c n0 T h k n) (hx : p.tables.exec = Jvm.exec) (hZ : Z.Warmed39 s.vm) (V : LV Z h a ys) (hd : decode c.code pc = .ok (.laload, 1)) (h1 : 0 ≤ j.toInt) (h2 : j.toInt < ys.length) (hv : ys.getD j.toInt.toNat 0 = w) (hp : pc + 1 = pc')
    (K : Done p e below G (T.setTop (mkF m pc' Ls (.long w :: st)))) : Done p e below G (T.setTop (mkF m pc Ls (.int j :: .ref a :: st))) := by
  subst hp hv
  obtain ⟨_, X, -, eT⟩ := S
  obtain ⟨cl, A, q, r⟩ := V
  have hl : j.toInt.toNat < ys.length := by omega
  have hv : cl.slots[j.toNatClampNeg]? = some (.long (ys.getD j.toInt.toNat 0)) := by
    show cl.slots[j.toInt.toNat]? = _
    rw [← Array.getElem?_toList, q, List.getElem?_map, List.getElem?_eq_getElem hl]
    rw [List.getD_eq_getElem?_getD, List.getElem?_eq_getElem hl]; rfl
  exact Done.go (fun t z => X.laload hx (by rw [eT]; exact A.1) (State.isArrayOf_alike hZ.alike A.2.1) A.2.2 (inb q h1 (by simpa using h2)) hv (g := mkF m pc Ls (.int j :: .ref a :: st)) rfl rfl hd _ z) K
theorem k_iastore {j x : Int32} (S : St p l e R s m args below meth c n0 T h k n) (hx : p.tables.exec = Jvm.exec) (hZ : Z.Warmed39 s.vm) (V : IV Z h a xs) (hd : decode c.code pc = .ok (.iastore, 1)) (h1 : 0 ≤ j.toInt) (h2 : j.toInt < xs.length) (ha : n0 ≤ a) (hp : pc + 1 = pc')
    (K : ∀ T' h', Wr h h' a j.toInt.toNat (.int x) → IV Z h' a (xs.set j.toInt.toNat x) → St p l e R s m args below meth c n0 T' h' k n → Done p e below G (T'.setTop (mkF m pc' Ls st))) : Done p e below G (T.setTop (mkF m pc Ls (.int x :: .int j :: .ref a :: st))) := by
  subst hp
  obtain ⟨_, X, N, eT⟩ := S
  have V0 := V
  obtain ⟨cl, A, q, r⟩ := V
  obtain ⟨T', h', X', eT', W, step⟩ := stI X hx hZ eT A (j := j) (inb q h1 (by simpa using h2)) (g := mkF m pc Ls (.int x :: .int j :: .ref a :: st)) rfl rfl hd
  exact Done.go step (K T' h' W (V0.put W) ⟨_, X', Fr.snoc X' N ha, eT'⟩)
theorem k_bastore {j x : Int32} (S : St p l e R s m args below meth c n0 T h k n) (hx : p.tables.exec = Jvm.exec) (hZ : Z.Warmed39 s.vm) (V : BV Z h a xs) (hd : decode c.code pc = .ok (.bastore, 1)) (h1 : 0 ≤ j.toInt) (h2 : j.toInt < xs.length) (ha : n0 ≤ a) (hp : pc + 1 = pc')
    (K : ∀ T' h', Wr h h' a j.toInt.toNat (.int (nar .byte x)) → BV Z h' a (xs.set j.toInt.toNat (nar .byte x)) → St p l e R s m args below meth c n0 T' h' k n → Done p e below G (T'.setTop (mkF m pc' Ls st))) : Done p e below G (T.setTop (mkF m pc Ls (.int x :: .int j :: .ref a :: st))) := by
  subst hp
  obtain ⟨_, X, N, eT⟩ := S
  have V0 := V
  obtain ⟨cl, A, q, r⟩ := V
  obtain ⟨T', h', X', eT', W, step⟩ := stB X hx hZ eT A (j := j) (inb q h1 (by simpa using h2)) (g := mkF m pc Ls (.int x :: .int j :: .ref a :: st)) rfl rfl hd
  exact Done.go step (K T' h' W (V0.put W) ⟨_, X', Fr.snoc X' N ha, eT'⟩)
theorem k_lastore {j : Int32} {x : Int64} (S : St p l e R s m args below meth c n0 T h k n) (hx : p.tables.exec = Jvm.exec) (hZ : Z.Warmed39 s.vm) (V : LV Z h a ys) (hd : decode c.code pc = .ok (.lastore, 1)) (h1 : 0 ≤ j.toInt) (h2 : j.toInt < ys.length) (ha : n0 ≤ a) (hp : pc + 1 = pc')
    (K : ∀ T' h', Wr h h' a j.toInt.toNat (.long x) → LV Z h' a (ys.set j.toInt.toNat x) → St p l e R s m args below meth c n0 T' h' k n → Done p e below G (T'.setTop (mkF m pc' Ls st))) : Done p e below G (T.setTop (mkF m pc Ls (.long x :: .int j :: .ref a :: st))) := by
  subst hp
  obtain ⟨_, X, N, eT⟩ := S
  have V0 := V
  obtain ⟨cl, A, q, r⟩ := V
  obtain ⟨T', h', X', eT', W, step⟩ := stJ X hx hZ eT A (j := j) (inb q h1 (by simpa using h2)) (g := mkF m pc Ls (.long x :: .int j :: .ref a :: st)) rfl rfl hd
  exact Done.go step (K T' h' W (V0.put W) ⟨_, X', Fr.snoc X' N ha, eT'⟩)
theorem k_newint {x : Int32} (S : St p l e R s m args below meth c n0 T h k n) (hx : p.tables.exec = Jvm.exec) (hZ : Z.Warmed39 s.vm) (w : (Jvm.Cond.arrayClass .int).before a0 Z = true) (hd : decode c.code pc = .ok (.newarray .int, 2)) (h1 : 0 ≤ x.toInt) (cap : Nat) (h2 : x.toInt ≤ cap) (h3 : cap * 8 ≤ 536870912) (hk : k + 1 ≤ R.cells) (hn : n + cap ≤ R.slots) (hp : pc + 2 = pc')
    (K : ∀ T' h' b, b = h.size → Ext h h' → IV Z h' b (List.replicate x.toInt.toNat 0) → St p l e R s m args below meth c n0 T' h' (k + 1) (n + cap) → Done p e below G (T'.setTop (mkF m pc' Ls (.ref b :: st)))) : Done p e below G (T.setTop (mkF m pc Ls (.int x :: st))) := by
  subst hp
  obtain ⟨_, X, N, eT⟩ := S
  obtain ⟨T', h', cA, X', eT', E, A, step⟩ := newP X hx hZ (aty := .int) w eT (g := mkF m pc Ls (.int x :: st)) rfl hd rfl (by rw [Int32.lt_iff_toInt_lt]; show ¬ x.toInt < 0; omega) (cap := cap) (by show x.toInt.toNat ≤ cap; omega) h3 hk hn
  have V := Vec.mk A
  refine Done.go step (K T' h' _ rfl E ?_ ⟨_, X', N, eT'⟩)
  show Vec Z h' h.size .int _
  rw [List.map_replicate]; exact V
theorem k_newbyte {x : Int32} (S : St p l e R s m args below meth c n0 T h k n) (hx : p.tables.exec = Jvm.exec) (hZ : Z.Warmed39 s.vm) (w : (Jvm.Cond.arrayClass .byte).before a0 Z = true) (hd : decode c.code pc = .ok (.newarray .byte, 2)) (h1 : 0 ≤ x.toInt) (cap : Nat) (h2 : x.toInt ≤ cap) (h3 : cap * 8 ≤ 536870912) (hk : k + 1 ≤ R.cells) (hn : n + cap ≤ R.slots) (hp : pc + 2 = pc')
    (K : ∀ T' h' b, b = h.size → Ext h h' → BV Z h' b (List.replicate x.toInt.toNat 0) → St p l e R s m args below meth c n0 T' h' (k + 1) (n + cap) → Done p e below G (T'.setTop (mkF m pc' Ls (.ref b :: st)))) : Done p e below G (T.setTop (mkF m pc Ls (.int x :: st))) := by
  subst hp
  obtain ⟨_, X, N, eT⟩ := S
  obtain ⟨T', h', cA, X', eT', E, A, step⟩ := newP X hx hZ (aty := .byte) w eT (g := mkF m pc Ls (.int x :: st)) rfl hd rfl (by rw [Int32.lt_iff_toInt_lt]; show ¬ x.toInt < 0; omega) (cap := cap) (by show x.toInt.toNat ≤ cap; omega) h3 hk hn
  have V := Vec.mk A
  refine Done.go step (K T' h' _ rfl E ?_ ⟨_, X', N, eT'⟩)
  show Vec Z h' h.size .byte _
  rw [List.map_replicate]; exact V
theorem k_newlong {x : Int32} (S : St p l e R s m args below meth c n0 T h k n) (hx : p.tables.exec = Jvm.exec) (hZ : Z.Warmed39 s.vm) (w : (Jvm.Cond.arrayClass .long).before a0 Z = true) (hd : decode c.code pc = .ok (.newarray .long, 2)) (h1 : 0 ≤ x.toInt) (cap : Nat) (h2 : x.toInt ≤ cap) (h3 : cap * 8 ≤ 536870912) (hk : k + 1 ≤ R.cells) (hn : n + cap ≤ R.slots) (hp : pc + 2 = pc')
    (K : ∀ T' h' b, b = h.size → Ext h h' → LV Z h' b (List.replicate x.toInt.toNat 0) → St p l e R s m args below meth c n0 T' h' (k + 1) (n + cap) → Done p e below G (T'.setTop (mkF m pc' Ls (.ref b :: st)))) : Done p e below G (T.setTop (mkF m pc Ls (.int x :: st))) := by
  subst hp
  obtain ⟨_, X, N, eT⟩ := S
  obtain ⟨T', h', cA, X', eT', E, A, step⟩ := newP X hx hZ (aty := .long) w eT (g := mkF m pc Ls (.int x :: st)) rfl hd rfl (by rw [Int32.lt_iff_toInt_lt]; show ¬ x.toInt < 0; omega) (cap := cap) (by show x.toInt.toNat ≤ cap; omega) h3 hk hn
  have V := Vec.mk A
  refine Done.go step (K T' h' _ rfl E ?_ ⟨_, X', N, eT'⟩)
  show Vec Z h' h.size .long _
  rw [List.map_replicate]; exact V
theorem k_getstatic (S : St p l e R s m args below meth c n0 T h k n) (hx : p.tables.exec = Jvm.exec) (hZ : Z.Warmed39 s.vm) {own O f d : String} {index : Nat} (hown : s.vm.findClass own = some m.cls) (w : (Jvm.Cond.fieldLink own index O f d).before a0 Z = true)
    (F : Sta Z h O f d v) (hd : decode c.code pc = .ok (.getstatic index, 3)) (hp : pc + 3 = pc')
    (K : ∀ T', St p l e R s m args below meth c n0 T' h k n → Done p e below G (T'.setTop (mkF m pc' Ls (v :: st)))) : Done p e below G (T.setTop (mkF m pc Ls st)) := by
  subst hp
  obtain ⟨locs, X, N, eT⟩ := S
  obtain ⟨T', X', eT', step⟩ := getS2 X hx hZ hown (host := "") (Or.inl w) Via.refl eT F (g := mkF m pc Ls st) rfl hd
  exact Done.go step (K T' ⟨_, X', N, eT'⟩)
theorem IV.arv (F : IV Z h a xs) : ∃ k, Arv Z h a k .int xs.length.toInt32 (xs.map Value.int) (.int 0) := by
  obtain ⟨c, A, q, r⟩ := F
  have hl : xs.length < 2 ^ 31 := by simpa using r
  have e0 : xs.length.toInt32.toInt = (xs.length : Int) := by
    show (Int32.ofNat xs.length).toInt = _
    exact Int32.toInt_ofNat_of_lt hl
  have hs : c.slots.size = xs.length := by have := congrArg List.length q; simpa using this
  refine ⟨c.cls, c, A, rfl, ?_, ?_, ?_, ?_⟩
  · show c.slots.size = xs.length.toInt32.toInt.toNat
    rw [e0, hs]; simp
  · rw [Int32.lt_iff_toInt_lt, e0]; show ¬ (xs.length : Int) < 0; omega
  · intro i hi
    rw [← Array.getElem?_toList, q, List.getD_eq_getElem?_getD]
    have : i < (xs.map Value.int).length := by simpa [← hs] using hi
    rw [List.getElem?_eq_getElem this]; rfl
  · intro i hi
    have : i < (xs.map Value.int).length := by simpa [← hs] using hi
    rw [List.getD_eq_getElem?_getD, List.getElem?_eq_getElem this]
    simp [fits]
theorem IV.of_arv {k : ClassId} {z : Int32} (F : Arv Z h a k .int z (xs.map Value.int) (.int 0)) (hz : z.toInt = (xs.length : Int)) : IV Z h a xs := by
  obtain ⟨c, A, -, hs, -, H, -⟩ := F
  have hs' : c.slots.size = xs.length := by rw [hs]; show z.toInt.toNat = _; omega
  refine ⟨c, A, ?_, by have := z.toInt_lt; simp; omega⟩
  refine List.ext_getElem? fun i => ?_
  by_cases hi : i < c.slots.size
  · rw [Array.getElem?_toList, H i hi, List.getD_eq_getElem?_getD]
    have : i < (xs.map Value.int).length := by simpa [← hs'] using hi
    rw [List.getElem?_eq_getElem this]; rfl
  · rw [List.getElem?_eq_none (by simpa using hi), List.getElem?_eq_none (by simp; omega)]
theorem k_arraycopy {nn : Int32} {xs' : List Int32} (S : St p l e R s m args below meth c n0 T h k n) (hx : p.tables.exec = Jvm.exec) (hZ : Z.Warmed39 s.vm) {own : String} {index : Nat} (hown : s.vm.findClass own = some m.cls)
    (w1 : (Jvm.Cond.methodLink own index Jvm.Stand.acN).before a0 Z = true) (w2 : (Jvm.Cond.native Jvm.Stand.acN).before a0 Z = true) (w3 : (Jvm.Cond.static Jvm.Stand.acN).before a0 Z = true) (w4 : (Jvm.Cond.initialized "java/lang/System").before a0 Z = true)
    (A : IV Z h a xs) (B : IV Z h b xs') (h1 : 0 ≤ nn.toInt) (h2 : nn.toInt ≤ xs.length) (h3 : nn.toInt ≤ xs'.length) (ge : n0 ≤ b) (hml : Ls.size = c.maxLocals) (hd : decode c.code pc = .ok (.invokestatic index, 3)) (hf : 1 ≤ R.frames) (W : Nat) (hW : (st.map fun v => v.category).sum ≤ W) (hlo : W + 18 ≤ R.locals) (hp : pc + 3 = pc')
    (K : ∀ T' h', Keep h h' [b] → IV Z h' b (xs.take nn.toInt.toNat ++ xs'.drop nn.toInt.toNat) → St p l e R s m args below meth c n0 T' h' k n → Done p e below G (T'.setTop (mkF m pc' Ls st))) :
    Done p e below G (T.setTop (mkF m pc Ls (.int nn :: .int 0 :: .ref b :: .int 0 :: .ref a :: st))) := by
  subst hp
  obtain ⟨_, X, N, eT⟩ := S
  have la := A.len
  have lb := B.len
  obtain ⟨ka, Aa⟩ := A.arv
  obtain ⟨kb, Bb⟩ := B.arv
  have ea : xs.length.toInt32.toInt = (xs.length : Int) := Int32.toInt_ofNat_of_lt la
  have eb : xs'.length.toInt32.toInt = (xs'.length : Int) := Int32.toInt_ofNat_of_lt lb
  have z0 : (0 : Int32).toNatClampNeg = 0 := rfl
  obtain ⟨T', h', L, X', eT', N', Kp, V, step⟩ := cpA X hx hZ hown w1 w2 w3 w4 eT (sp := 0) (dp := 0) (nn := nn) (us := (xs.take nn.toInt.toNat).map Value.int) Aa Bb (Or.inl ⟨rfl, rfl⟩) (by decide) (by decide) (by rw [Int32.lt_iff_toInt_lt]; show ¬ nn.toInt < 0; omega)
    (by rw [z0]; show 0 + nn.toInt.toNat ≤ xs.length.toInt32.toInt.toNat; omega) (by rw [z0]; show 0 + nn.toInt.toNat ≤ xs'.length.toInt32.toInt.toNat; omega)
    (by
      refine List.ext_getElem (by show _ = (List.map _ (List.range nn.toInt.toNat)).length; rw [List.length_map, List.length_take, List.length_map, List.length_range]; omega) fun i g1 g2 => ?_
      have g3 : i < nn.toInt.toNat := by have := g1; rw [List.length_map, List.length_take] at this; omega
      simp only [List.getElem_map, List.getElem_take, List.getElem_range, z0, Nat.zero_add]
      rw [List.getD_eq_getElem?_getD, List.getElem?_map, List.getElem?_eq_getElem (by omega)]; rfl)
    (by rw [z0]; show 0 + nn.toInt.toNat ≤ _; rw [List.length_map]; omega) N ge (g := mkF m pc Ls (.int nn :: .int 0 :: .ref b :: .int 0 :: .ref a :: st)) rfl hml rfl hd hf (W := W) (by show 2 * 0 + _ ≤ _; omega) (by show W + 18 ≤ _; exact hlo)
  refine Done.go step (K T' h' Kp ?_ ⟨_, X', N', eT'⟩)
  refine IV.of_arv (k := kb) (z := xs'.length.toInt32) ?_ (by rw [eb, List.length_append, List.length_take, List.length_drop]; omega)
  have e : (List.map Value.int xs').take (0 : Int32).toNatClampNeg ++ (xs.take nn.toInt.toNat).map Value.int ++ (List.map Value.int xs').drop ((0 : Int32).toNatClampNeg + nn.toNatClampNeg) = (xs.take nn.toInt.toNat ++ xs'.drop nn.toInt.toNat).map Value.int := by
    rw [z0]; show List.take 0 _ ++ _ ++ List.drop (0 + nn.toInt.toNat) _ = _
    simp
  rw [← e]; exact V
theorem k_arraycopyD {nn dp : Int32} {xs' : List Int32} (S : St p l e R s m args below meth c n0 T h k n) (hx : p.tables.exec = Jvm.exec) (hZ : Z.Warmed39 s.vm) {own : String} {index : Nat} (hown : s.vm.findClass own = some m.cls)
    (w1 : (Jvm.Cond.methodLink own index Jvm.Stand.acN).before a0 Z = true) (w2 : (Jvm.Cond.native Jvm.Stand.acN).before a0 Z = true) (w3 : (Jvm.Cond.static Jvm.Stand.acN).before a0 Z = true) (w4 : (Jvm.Cond.initialized "java/lang/System").before a0 Z = true)
    (A : IV Z h a xs) (B : IV Z h b xs') (h1 : 0 ≤ nn.toInt) (h2 : nn.toInt ≤ xs.length) (h4 : 0 ≤ dp.toInt) (h3 : dp.toInt + nn.toInt ≤ xs'.length) (ge : n0 ≤ b) (hml : Ls.size = c.maxLocals) (hd : decode c.code pc = .ok (.invokestatic index, 3)) (hf : 1 ≤ R.frames) (W : Nat) (hW : (st.map fun v => v.category).sum ≤ W) (hlo : W + 18 ≤ R.locals) (hp : pc + 3 = pc')
    (K : ∀ T' h', Keep h h' [b] → IV Z h' b (xs'.take dp.toInt.toNat ++ xs.take nn.toInt.toNat ++ xs'.drop (dp.toInt.toNat + nn.toInt.toNat)) → St p l e R s m args below meth c n0 T' h' k n → Done p e below G (T'.setTop (mkF m pc' Ls st))) :
    Done p e below G (T.setTop (mkF m pc Ls (.int nn :: .int dp :: .ref b :: .int 0 :: .ref a :: st))) := by
  subst hp
  obtain ⟨_, X, N, eT⟩ := S
  have la := A.len
  have lb := B.len
  obtain ⟨ka, Aa⟩ := A.arv
  obtain ⟨kb, Bb⟩ := B.arv
  have ea : xs.length.toInt32.toInt = (xs.length : Int) := Int32.toInt_ofNat_of_lt la
  have eb : xs'.length.toInt32.toInt = (xs'.length : Int) := Int32.toInt_ofNat_of_lt lb
  have z0 : (0 : Int32).toNatClampNeg = 0 := rfl
  obtain ⟨T', h', L, X', eT', N', Kp, V, step⟩ := cpA X hx hZ hown w1 w2 w3 w4 eT (sp := 0) (dp := dp) (nn := nn) (us := (xs.take nn.toInt.toNat).map Value.int) Aa Bb (Or.inl ⟨rfl, rfl⟩) (by decide) (by rw [Int32.lt_iff_toInt_lt]; show ¬ dp.toInt < 0; omega) (by rw [Int32.lt_iff_toInt_lt]; show ¬ nn.toInt < 0; omega)
    (by rw [z0]; show 0 + nn.toInt.toNat ≤ xs.length.toInt32.toInt.toNat; omega) (by show dp.toInt.toNat + nn.toInt.toNat ≤ xs'.length.toInt32.toInt.toNat; omega)
    (by
      refine List.ext_getElem (by show _ = (List.map _ (List.range nn.toInt.toNat)).length; rw [List.length_map, List.length_take, List.length_map, List.length_range]; omega) fun i g1 g2 => ?_
      have g3 : i < nn.toInt.toNat := by have := g1; rw [List.length_map, List.length_take] at this; omega
      simp only [List.getElem_map, List.getElem_take, List.getElem_range, z0, Nat.zero_add]
      rw [List.getD_eq_getElem?_getD, List.getElem?_map, List.getElem?_eq_getElem (by omega)]; rfl)
    (by show dp.toInt.toNat + nn.toInt.toNat ≤ _; rw [List.length_map]; omega) N ge (g := mkF m pc Ls (.int nn :: .int dp :: .ref b :: .int 0 :: .ref a :: st)) rfl hml rfl hd hf (W := W) (by show 2 * 0 + _ ≤ _; omega) (by show W + 18 ≤ _; exact hlo)
  refine Done.go step (K T' h' Kp ?_ ⟨_, X', N', eT'⟩)
  refine IV.of_arv (k := kb) (z := xs'.length.toInt32) ?_ (by rw [eb, List.length_append, List.length_append, List.length_take, List.length_take, List.length_drop]; omega)
  have e : (List.map Value.int xs').take dp.toNatClampNeg ++ (xs.take nn.toInt.toNat).map Value.int ++ (List.map Value.int xs').drop (dp.toNatClampNeg + nn.toNatClampNeg) = (xs'.take dp.toInt.toNat ++ xs.take nn.toInt.toNat ++ xs'.drop (dp.toInt.toNat + nn.toInt.toNat)).map Value.int := by
    show List.take dp.toInt.toNat _ ++ _ ++ List.drop (dp.toInt.toNat + nn.toInt.toNat) _ = _
    simp
  rw [← e]; exact V
theorem k_newintE {x : Int32} (S : St p l e R s m args below meth c n0 T h k n) (hx : p.tables.exec = Jvm.exec) (hZ : Z.Warmed39 s.vm) (w : (Jvm.Cond.arrayClass .int).before a0 Z = true) (hd : decode c.code pc = .ok (.newarray .int, 2)) (h1 : 0 ≤ x.toInt) (cap : Nat) (h2 : x.toInt ≤ cap) (h3 : cap * 8 ≤ 536870912) (hk : k + 1 ≤ R.cells) (hn : n + cap ≤ R.slots) (hp : pc + 2 = pc')
    (K : ∀ T' h' b, b = h.size → Ext h h' → IV Z h' b (List.replicate x.toInt.toNat 0) → Exa Z h' b "[I" → St p l e R s m args below meth c n0 T' h' (k + 1) (n + cap) → Done p e below G (T'.setTop (mkF m pc' Ls (.ref b :: st)))) : Done p e below G (T.setTop (mkF m pc Ls (.int x :: st))) := by
  subst hp
  obtain ⟨_, X, N, eT⟩ := S
  obtain ⟨T', h', cA, X', eT', E, A, EX, step⟩ := newPE X hx hZ (aty := .int) w eT (g := mkF m pc Ls (.int x :: st)) rfl hd rfl (by rw [Int32.lt_iff_toInt_lt]; show ¬ x.toInt < 0; omega) (cap := cap) (by show x.toInt.toNat ≤ cap; omega) h3 hk hn (ad := "[I") (by decide)
  have V := Vec.mk A
  refine Done.go step (K T' h' _ rfl E ?_ EX ⟨_, X', N, eT'⟩)
  show Vec Z h' h.size .int _
  rw [List.map_replicate]; exact V
theorem k_clone (S : St p l e R s m args below meth c n0 T h k n) (hx : p.tables.exec = Jvm.exec) (hZ : Z.Warmed39 s.vm) {own : String} {index : Nat} (hown : s.vm.findClass own = some m.cls)
    (w1 : (Jvm.Cond.methodLink own index ⟨"[I", "clone", "()Ljava/lang/Object;"⟩).before a0 Z = true) (w2 : (Jvm.Cond.sameMethod "[I" "java/lang/Object" "clone" "()Ljava/lang/Object;").before a0 Z = true) (w3 : (Jvm.Cond.native ⟨"java/lang/Object", "clone", "()Ljava/lang/Object;"⟩).before a0 Z = true)
    (w4 : (Jvm.Cond.instanceMethod ⟨"java/lang/Object", "clone", "()Ljava/lang/Object;"⟩).before a0 Z = true) (w5 : (Jvm.Cond.selects "[I" ⟨"[I", "clone", "()Ljava/lang/Object;"⟩ ⟨"java/lang/Object", "clone", "()Ljava/lang/Object;"⟩).before a0 Z = true) (w6 : (Jvm.Cond.castable "[I" "java/lang/Cloneable").before a0 Z = true)
    (V : IV Z h a xs) (E : Exa Z h a "[I") (hml : Ls.size = c.maxLocals) (hd : decode c.code pc = .ok (.invokevirtual index, 3)) (hf : 1 ≤ R.frames) (W : Nat) (hW : (st.map fun v => v.category).sum ≤ W) (hlo : W + 14 ≤ R.locals) (cap : Nat) (hcap : xs.length ≤ cap) (hk : k + 1 ≤ R.cells) (hn : n + cap ≤ R.slots) (hp : pc + 3 = pc')
    (K : ∀ T' h' b, b = h.size → Ext h h' → IV Z h' b xs → Exa Z h' b "[I" → St p l e R s m args below meth c n0 T' h' (k + 1) (n + cap) → Done p e below G (T'.setTop (mkF m pc' Ls (.ref b :: st)))) :
    Done p e below G (T.setTop (mkF m pc Ls (.ref a :: st))) := by
  subst hp
  obtain ⟨_, X, N, eT⟩ := S
  obtain ⟨cl, A, q, r⟩ := V
  have hsz : cl.slots.size = xs.length := by have := congrArg List.length q; simpa using this
  have F : FitC Z cl := fitC_of A fun i hi v hv => by
    rw [← Array.getElem?_toList, q, List.getElem?_map] at hv
    cases e : xs[i]? with
    | none => rw [e] at hv; cases hv
    | some z => rw [e] at hv; cases hv; rfl
  obtain ⟨T', h', X', eT', ex, A', E', step⟩ := cloneA X hx hZ hown w1 w2 w3 w4 w5 w6 eT A E F (g := mkF m pc Ls (.ref a :: st)) rfl hml rfl hd hf (W := W) (by show 2 * 0 + _ ≤ _; omega) hlo (cap := cap) (by omega) hk hn
  exact Done.go step (K T' h' _ rfl ex ⟨cloneOf cl, A', q, r⟩ E' ⟨_, X', N, eT'⟩)
theorem k_checkcast (S : St p l e R s m args below meth c n0 T h k n) (hx : p.tables.exec = Jvm.exec) (hZ : Z.Warmed39 s.vm) {own C : String} {index : Nat} (hown : s.vm.findClass own = some m.cls) (w : (Jvm.Cond.classLink own index C).before a0 Z = true)
    (F : Ins Z h a C true) (hd : decode c.code pc = .ok (.checkcast index, 3)) (hp : pc + 3 = pc')
    (K : ∀ T', St p l e R s m args below meth c n0 T' h k n → Done p e below G (T'.setTop (mkF m pc' Ls (.ref a :: st)))) : Done p e below G (T.setTop (mkF m pc Ls (.ref a :: st))) := by
  subst hp
  obtain ⟨locs, X, N, eT⟩ := S
  obtain ⟨T', X', eT', step⟩ := castY X hx hZ hown w eT F (g := mkF m pc Ls (.ref a :: st)) rfl rfl hd
  exact Done.go step (K T' ⟨_, X', N, eT'⟩)
end Arrays
end Jvm.OwnKit
namespace Jvm.Pilot.@@N@@
open Jvm Jvm.ClassFile Sem Op Lib Jvm.Free Jvm.Stand Jvm.LawKit Jvm.RoadKit Jvm.OwnKit Bundle Jvm.Pilot.@@N@@.Jvm.D
theorem own_lt {x y : Int32} : x < y ↔ x.toInt < y.toInt := Int32.lt_iff_toInt_lt
def own_inc (xs : List Int32) : Prop := ∀ i j : Nat, i < j → j < xs.length → (xs.getD i 0).toInt < (xs.getD j 0).toInt
/-- z is one of xs -/
def own_in (z : Int32) (xs : List Int32) : Prop := ∃ k : Nat, k < xs.length ∧ xs.getD k 0 = z
/-- the merge so far: n written out of the first i of xs and the first j of ys -/
def own_M (xs ys cs : List Int32) (n i j : Int) : Prop := (0 ≤ i ∧ i ≤ xs.length ∧ 0 ≤ j ∧ j ≤ ys.length ∧ 0 ≤ n ∧ n ≤ i + j ∧ cs.length = xs.length + ys.length) ∧
  (∀ p q : Nat, p < q → (q : Int) < n → (cs.getD p 0).toInt < (cs.getD q 0).toInt) ∧ (∀ p : Nat, (p : Int) < n → own_in (cs.getD p 0) xs ∨ own_in (cs.getD p 0) ys) ∧
  (∀ k : Nat, (k : Int) < i → ∃ p : Nat, (p : Int) < n ∧ cs.getD p 0 = xs.getD k 0) ∧ (∀ k : Nat, (k : Int) < j → ∃ p : Nat, (p : Int) < n ∧ cs.getD p 0 = ys.getD k 0) ∧
  (∀ p k : Nat, (p : Int) < n → i ≤ (k : Int) → k < xs.length → (cs.getD p 0).toInt < (xs.getD k 0).toInt) ∧ (∀ p k : Nat, (p : Int) < n → j ≤ (k : Int) → k < ys.length → (cs.getD p 0).toInt < (ys.getD k 0).toInt)
theorem own_M0 (xs ys : List Int32) : own_M xs ys (List.replicate (xs.length + ys.length) 0) 0 0 0 :=
  ⟨⟨by omega, by omega, by omega, by omega, by omega, by omega, by simp⟩, fun _ _ _ h => by omega, fun _ h => by omega, fun _ h => by omega, fun _ h => by omega, fun _ _ h => by omega, fun _ _ h => by omega⟩
theorem own_set_eq {cs : List Int32} {p : Nat} {v : Int32} (h : p < cs.length) : (cs.set p v).getD p 0 = v := by
  simp [List.getD_eq_getElem?_getD, h]
theorem own_set_ne {cs : List Int32} {p q : Nat} {v : Int32} (h : p ≠ q) : (cs.set p v).getD q 0 = cs.getD q 0 := by
  simp [List.getD_eq_getElem?_getD, List.getElem?_set_ne h]
theorem own_Mstep {xs ys cs : List Int32} {n i j i' j' : Int} {v : Int32} {pn pi pj : Nat} (H : own_M xs ys cs n i j) (en : (pn : Int) = n) (ei : (pi : Int) = i) (ej : (pj : Int) = j)
    (hv : (i < xs.length ∧ v = xs.getD pi 0) ∨ (j < ys.length ∧ v = ys.getD pj 0)) (hi : i' = i ∨ (i' = i + 1 ∧ i < xs.length ∧ v = xs.getD pi 0)) (hj : j' = j ∨ (j' = j + 1 ∧ j < ys.length ∧ v = ys.getD pj 0))
    (lx : ∀ k : Nat, i' ≤ (k : Int) → k < xs.length → v.toInt < (xs.getD k 0).toInt) (ly : ∀ k : Nat, j' ≤ (k : Int) → k < ys.length → v.toInt < (ys.getD k 0).toInt) (hij : i + j < i' + j') : own_M xs ys (cs.set pn v) (n + 1) i' j' := by
  obtain ⟨⟨a1, a2, a3, a4, a5, a6, a7⟩, b1, b2, b3, b4, b5, b6⟩ := H
  have hb : i' + j' ≤ (xs.length : Int) + ys.length := by omega
  have hn : pn < cs.length := by omega
  have low : ∀ p : Nat, (p : Int) < n → (cs.getD p 0).toInt < v.toInt := fun p hp => by
    rcases hv with ⟨h, rfl⟩ | ⟨h, rfl⟩
    · exact b5 p pi hp (by omega) (by omega)
    · exact b6 p pj hp (by omega) (by omega)
  have old : ∀ p : Nat, (p : Int) < n → (cs.set pn v).getD p 0 = cs.getD p 0 := fun p hp => own_set_ne (by omega)
  have new : (cs.set pn v).getD pn 0 = v := own_set_eq hn
  refine ⟨⟨by omega, by omega, by omega, by omega, by omega, by omega, by simpa using a7⟩, fun p q hpq hq => ?_, fun p hp => ?_, fun k hk => ?_, fun k hk => ?_, fun p k hp hk hl => ?_, fun p k hp hk hl => ?_⟩
  · by_cases e : (q : Int) < n
    · rw [old p (by omega), old q e]; exact b1 p q hpq e
    · have : q = pn := by omega
      subst this; rw [old p (by omega), new]; exact low p (by omega)
  · by_cases e : (p : Int) < n
    · rw [old p e]; exact b2 p e
    · have : p = pn := by omega
      subst this; rw [new]
      rcases hv with ⟨h, rfl⟩ | ⟨h, rfl⟩
      · exact Or.inl ⟨pi, by omega, rfl⟩
      · exact Or.inr ⟨pj, by omega, rfl⟩
  · by_cases e : (k : Int) < i
    · obtain ⟨p, hp, q⟩ := b3 k e; exact ⟨p, by omega, by rw [old p hp]; exact q⟩
    · rcases hi with rfl | ⟨rfl, _, hv'⟩
      · omega
      · have : k = pi := by omega
        subst this; exact ⟨pn, by omega, by rw [new, hv']⟩
  · by_cases e : (k : Int) < j
    · obtain ⟨p, hp, q⟩ := b4 k e; exact ⟨p, by omega, by rw [old p hp]; exact q⟩
    · rcases hj with rfl | ⟨rfl, _, hv'⟩
      · omega
      · have : k = pj := by omega
        subst this; exact ⟨pn, by omega, by rw [new, hv']⟩
  · by_cases e : (p : Int) < n
    · rw [old p e]; exact b5 p k e (by omega) hl
    · have : p = pn := by omega
      subst this; rw [new]; exact lx k hk hl
  · by_cases e : (p : Int) < n
    · rw [old p e]; exact b6 p k e (by omega) hl
    · have : p = pn := by omega
      subst this; rw [new]; exact ly k hk hl
theorem own_inc_le {xs : List Int32} (hx : own_inc xs) {p k : Nat} (h : p ≤ k) (hk : k < xs.length) : (xs.getD p 0).toInt ≤ (xs.getD k 0).toInt := by
  by_cases e : p = k
  · subst e; omega
  · have := hx p k (by omega) hk; omega
/-- take from xs -/
theorem own_MX {xs ys cs : List Int32} {n i j : Int} {pn pi pj : Nat} (H : own_M xs ys cs n i j) (hx : own_inc xs) (hy : own_inc ys) (en : (pn : Int) = n) (ei : (pi : Int) = i) (ej : (pj : Int) = j) (hi : i < xs.length) (h : j = ys.length ∨ (j < ys.length ∧ xs.getD pi 0 < ys.getD pj 0)) :
    own_M xs ys (cs.set pn (xs.getD pi 0)) (n + 1) (i + 1) j :=
  own_Mstep H en ei ej (Or.inl ⟨hi, rfl⟩) (Or.inr ⟨rfl, hi, rfl⟩) (Or.inl rfl) (fun k hk hl => hx pi k (by omega) hl) (fun k hk hl => by
    rcases h with h | ⟨h1, h2⟩
    · omega
    · rw [own_lt] at h2; have := own_inc_le hy (show pj ≤ k by omega) hl; omega) (by omega)
/-- take from ys -/
theorem own_MY {xs ys cs : List Int32} {n i j : Int} {pn pi pj : Nat} (H : own_M xs ys cs n i j) (hx : own_inc xs) (hy : own_inc ys) (en : (pn : Int) = n) (ei : (pi : Int) = i) (ej : (pj : Int) = j) (hj : j < ys.length) (h : i = xs.length ∨ (i < xs.length ∧ ys.getD pj 0 < xs.getD pi 0)) :
    own_M xs ys (cs.set pn (ys.getD pj 0)) (n + 1) i (j + 1) :=
  own_Mstep H en ei ej (Or.inr ⟨hj, rfl⟩) (Or.inl rfl) (Or.inr ⟨rfl, hj, rfl⟩) (fun k hk hl => by
    rcases h with h | ⟨h1, h2⟩
    · omega
    · rw [own_lt] at h2; have := own_inc_le hx (show pi ≤ k by omega) hl; omega) (fun k hk hl => hy pj k (by omega) hl) (by omega)
/-- take from both -/
theorem own_MB {xs ys cs : List Int32} {n i j : Int} {pn pi pj : Nat} (H : own_M xs ys cs n i j) (hx : own_inc xs) (hy : own_inc ys) (en : (pn : Int) = n) (ei : (pi : Int) = i) (ej : (pj : Int) = j) (hi : i < xs.length) (hj : j < ys.length) (h1 : ¬ xs.getD pi 0 < ys.getD pj 0) (h2 : ¬ ys.getD pj 0 < xs.getD pi 0) :
    own_M xs ys (cs.set pn (xs.getD pi 0)) (n + 1) (i + 1) (j + 1) := by
  have e : xs.getD pi 0 = ys.getD pj 0 := by rw [own_lt] at h1 h2; rw [← Int32.toInt_inj]; omega
  exact own_Mstep H en ei ej (Or.inl ⟨hi, rfl⟩) (Or.inr ⟨rfl, hi, rfl⟩) (Or.inr ⟨rfl, hj, e⟩) (fun k hk hl => hx pi k (by omega) hl) (fun k hk hl => by rw [e]; exact hy pj k (by omega) hl) (by omega)
/-- zs is the union -/
def own_U (xs ys zs : List Int32) : Prop := zs.length ≤ xs.length + ys.length ∧ own_inc zs ∧ (∀ k : Nat, k < zs.length → own_in (zs.getD k 0) xs ∨ own_in (zs.getD k 0) ys) ∧ (∀ k : Nat, k < xs.length → own_in (xs.getD k 0) zs) ∧ (∀ k : Nat, k < ys.length → own_in (ys.getD k 0) zs)
theorem own_take {cs : List Int32} {n p : Nat} (h : p < n) : (cs.take n).getD p 0 = cs.getD p 0 := by
  simp [List.getD_eq_getElem?_getD, List.getElem?_take_of_lt h]
theorem own_Mend {xs ys cs : List Int32} {n i j : Int} {pn : Nat} (H : own_M xs ys cs n i j) (en : (pn : Int) = n) (hi : i = xs.length) (hj : j = ys.length) : own_U xs ys (cs.take pn) := by
  obtain ⟨⟨a1, a2, a3, a4, a5, a6, a7⟩, b1, b2, b3, b4, b5, b6⟩ := H
  have hl : (cs.take pn).length = pn := by rw [List.length_take]; omega
  refine ⟨by omega, fun p q hpq hq => ?_, fun k hk => ?_, fun k hk => ?_, fun k hk => ?_⟩
  · rw [own_take (by omega), own_take (by omega)]; exact b1 p q hpq (by omega)
  · rw [own_take (by omega)]; exact b2 k (by omega)
  · obtain ⟨p, hp, q⟩ := b3 k (by omega); exact ⟨p, by omega, by rw [own_take (by omega)]; exact q⟩
  · obtain ⟨p, hp, q⟩ := b4 k (by omega); exact ⟨p, by omega, by rw [own_take (by omega)]; exact q⟩
theorem own_in0 {zs : List Int32} {x : Int32} (hl : zs.length ≤ 4) (h0 : ¬ (0 : Int) < zs.length ∨ ¬ zs.getD 0 0 = x) (h1 : ¬ (1 : Int) < zs.length ∨ ¬ zs.getD 1 0 = x) (h2 : ¬ (2 : Int) < zs.length ∨ ¬ zs.getD 2 0 = x) (h3 : ¬ (3 : Int) < zs.length ∨ ¬ zs.getD 3 0 = x) : ¬ own_in x zs := by
  rintro ⟨k, hk, e⟩
  rcases (by omega : k = 0 ∨ k = 1 ∨ k = 2 ∨ k = 3) with rfl | rfl | rfl | rfl
  · rcases h0 with h | h; omega; exact h e
  · rcases h1 with h | h; omega; exact h e
  · rcases h2 with h | h; omega; exact h e
  · rcases h3 with h | h; omega; exact h e
def own_min (x y : Int32) : Int32 := if y < x then y else x
def own_max (x y : Int32) : Int32 := if x < y then y else x
theorem own_min_t (x y : Int32) : ((own_min x y).toInt = x.toInt ∨ (own_min x y).toInt = y.toInt) ∧ (own_min x y).toInt ≤ x.toInt ∧ (own_min x y).toInt ≤ y.toInt := by
  unfold own_min; split <;> (rename_i h; rw [own_lt] at h) <;> omega
theorem own_max_t (x y : Int32) : ((own_max x y).toInt = x.toInt ∨ (own_max x y).toInt = y.toInt) ∧ x.toInt ≤ (own_max x y).toInt ∧ y.toInt ≤ (own_max x y).toInt := by
  unfold own_max; split <;> (rename_i h; rw [own_lt] at h) <;> omega
theorem own_len32 {xs : List Int32} (h : xs.length < 2 ^ 31) : xs.length.toInt32.toInt = (xs.length : Int) := Int32.toInt_ofNat_of_lt h
theorem own_mn0 {xs : List Int32} {nl : Int32} (h : xs.length < 2 ^ 31) (h1 : 0 ≤ nl.toInt) : 0 ≤ (own_min xs.length.toInt32 nl).toInt ∧ (own_min xs.length.toInt32 nl).toInt ≤ xs.length ∧ (own_min xs.length.toInt32 nl).toInt ≤ nl.toInt.toNat := by
  have q := own_min_t xs.length.toInt32 nl
  have e := own_len32 h
  omega
theorem own_nlen {xs : List Int32} {n : Int32} (h : xs.length < 2 ^ 31) (h1 : n.toInt < xs.length) : ¬ n = xs.length.toInt32 := fun z => by
  have e := own_len32 h
  rw [← z] at e; omega
theorem own_add2 {x y : Int32} (h1 : 0 ≤ x.toInt) (h2 : x.toInt ≤ 1000) (h3 : 0 ≤ y.toInt) (h4 : y.toInt ≤ 1000) : (x + y).toInt = x.toInt + y.toInt := by
  have q := c_iadd x y
  have r := rng32 (x + y)
  omega
theorem own_inc1 {d : Int32} (h : 0 ≤ d.toInt) (h2 : d.toInt < 1000) : (d + 1).toInt = d.toInt + 1 := by
  have q := c_iadd d 1
  have r := rng32 (d + 1)
  have e : (1 : Int32).toInt = 1 := rfl
  omega
theorem own_copy_take {cs : List Int32} {n : Int32} (hl : cs.length < 2 ^ 31) (h0 : 0 ≤ n.toInt) (h1 : n.toInt ≤ cs.length) : cs.take (own_min cs.length.toInt32 n).toInt.toNat ++ (List.replicate n.toInt.toNat 0).drop (own_min cs.length.toInt32 n).toInt.toNat = cs.take n.toInt.toNat := by
  have q := own_min_t cs.length.toInt32 n
  have e := own_len32 hl
  have e2 : (own_min cs.length.toInt32 n).toInt = n.toInt := by omega
  rw [e2]; simp
/-- a set of at most two -/
def own_S (xs : List Int32) : Prop := xs.length ≤ 2 ∧ own_inc xs
theorem own_S0 : own_S [] := ⟨by decide, fun i j _ h => by simp at h⟩
theorem own_S1 (x : Int32) : own_S [x] := ⟨by simp, fun i j _ h => by simp at h; omega⟩
theorem own_S2 {x y : Int32} (h : x.toInt < y.toInt) : own_S [x, y] := ⟨by simp, fun i j q h' => by
  simp at h'
  rcases (by omega : i = 0 ∧ j = 1) with ⟨rfl, rfl⟩
  exact h⟩
theorem own_res {v : Option Value} {P : Prop} (h : (v = some (.int 1) ∧ P) ∨ (v = some (.int 0) ∧ ¬ P)) : ∃ r : Int32, v = some (.int r) ∧ ((r = 1 ∧ P) ∨ (r = 0 ∧ ¬ P)) := by
  rcases h with ⟨h, p⟩ | ⟨h, p⟩
  · exact ⟨1, h, Or.inl ⟨rfl, p⟩⟩
  · exact ⟨0, h, Or.inr ⟨rfl, p⟩⟩
theorem own_r1 {P : Prop} {r : Int32} (h : (r = 1 ∧ P) ∨ (r = 0 ∧ ¬ P)) (p : P) : ¬ r = 0 := by
  rcases h with ⟨rfl, _⟩ | ⟨_, q⟩
  · decide
  · exact absurd p q
theorem own_r0 {P : Prop} {r : Int32} (h : (r = 1 ∧ P) ∨ (r = 0 ∧ ¬ P)) (p : r = 0) : ¬ P := by
  rcases h with ⟨rfl, _⟩ | ⟨_, q⟩
  · exact absurd p (by decide)
  · exact q
theorem own_d7_0 : decode jdk_29_method_69_code 0 = .ok (.iload_n 0, 1) := by decide +kernel
theorem own_d7_1 : decode jdk_29_method_69_code 1 = .ok (.iload_n 1, 1) := by decide +kernel
theorem own_d7_2 : decode jdk_29_method_69_code 2 = .ok (.if_icmp .gt 7, 3) := by decide +kernel
theorem own_d7_5 : decode jdk_29_method_69_code 5 = .ok (.iload_n 0, 1) := by decide +kernel
theorem own_d7_6 : decode jdk_29_method_69_code 6 = .ok (.goto 4, 3) := by decide +kernel
theorem own_d7_9 : decode jdk_29_method_69_code 9 = .ok (.iload_n 1, 1) := by decide +kernel
theorem own_d7_10 : decode jdk_29_method_69_code 10 = .ok (.ireturn, 1) := by decide +kernel
set_option maxRecDepth 65536 in
set_option maxHeartbeats 40000000 in
theorem own_cmin (l : Launch) (Z : State) (a0 : Array Value) (hw : ∀ d ∈ tables_1, d.before a0 Z = true) (u t : Int32) (h0 : Heap) (n0 : Nat) :
    Con l Z (⟨"java/lang/Math", "min", "(II)I"⟩ : MethodName) jdk_29_method_69_code 2 (some .int) ({ frames := 0, cells := 0, slots := 0, locals := 0 } : Room) n0 h0 #[(.int u), (.int t)] (fun v h => v = some (.int (own_min u t)) ∧ h = h0) := by
  refine Con.intro (Jvm.Free.JP.mathPlain rfl (by decide +kernel)) (Ls := #[.val (.int u), .val (.int t)]) (fun m => by first | (simp [entryFrame, mkF, argsToLocals, Value.category]; done) | rfl) ?_
  intro p e s m below meth c s₁ hx hby hml hown hnm hret hlk hZ S0
  have A0 := S0.here
  refine k_iloadN A0 hx (hb hby own_d7_0) rfl (pc' := 1) rfl ?_
  refine k_iloadN A0 hx (hb hby own_d7_1) rfl (pc' := 2) rfl ?_
  refine k_icmp_gt A0 hx (hb hby own_d7_2) (pcY := 9) (by decide) (pc' := 5) rfl (fun hc2 => ?_) (fun hc2 => ?_)
  · refine k_iloadN A0 hx (hb hby own_d7_9) rfl (pc' := 10) rfl ?_
    refine k_ret_int S0 hx hret hlk (hb hby own_d7_10) (by decide) (by decide) ?_
    exact ⟨by simp [own_min, hc2], rfl⟩
  · refine k_iloadN A0 hx (hb hby own_d7_5) rfl (pc' := 6) rfl ?_
    refine k_goto A0 hx (hb hby own_d7_6) (pc' := 10) (by decide) ?_
    refine k_ret_int S0 hx hret hlk (hb hby own_d7_10) (by decide) (by decide) ?_
    exact ⟨by simp [own_min, hc2], rfl⟩
theorem own_d8_0 : decode jdk_29_method_65_code 0 = .ok (.iload_n 0, 1) := by decide +kernel
theorem own_d8_1 : decode jdk_29_method_65_code 1 = .ok (.iload_n 1, 1) := by decide +kernel
theorem own_d8_2 : decode jdk_29_method_65_code 2 = .ok (.if_icmp .lt 7, 3) := by decide +kernel
theorem own_d8_5 : decode jdk_29_method_65_code 5 = .ok (.iload_n 0, 1) := by decide +kernel
theorem own_d8_6 : decode jdk_29_method_65_code 6 = .ok (.goto 4, 3) := by decide +kernel
theorem own_d8_9 : decode jdk_29_method_65_code 9 = .ok (.iload_n 1, 1) := by decide +kernel
theorem own_d8_10 : decode jdk_29_method_65_code 10 = .ok (.ireturn, 1) := by decide +kernel
set_option maxRecDepth 65536 in
set_option maxHeartbeats 40000000 in
theorem own_cmax (l : Launch) (Z : State) (a0 : Array Value) (hw : ∀ d ∈ tables_1, d.before a0 Z = true) (u t : Int32) (h0 : Heap) (n0 : Nat) :
    Con l Z (⟨"java/lang/Math", "max", "(II)I"⟩ : MethodName) jdk_29_method_65_code 2 (some .int) ({ frames := 0, cells := 0, slots := 0, locals := 0 } : Room) n0 h0 #[(.int u), (.int t)] (fun v h => v = some (.int (own_max u t)) ∧ h = h0) := by
  refine Con.intro (Jvm.Free.JP.mathPlain rfl (by decide +kernel)) (Ls := #[.val (.int u), .val (.int t)]) (fun m => by first | (simp [entryFrame, mkF, argsToLocals, Value.category]; done) | rfl) ?_
  intro p e s m below meth c s₁ hx hby hml hown hnm hret hlk hZ S0
  have A0 := S0.here
  refine k_iloadN A0 hx (hb hby own_d8_0) rfl (pc' := 1) rfl ?_
  refine k_iloadN A0 hx (hb hby own_d8_1) rfl (pc' := 2) rfl ?_
  refine k_icmp_lt A0 hx (hb hby own_d8_2) (pcY := 9) (by decide) (pc' := 5) rfl (fun hc2 => ?_) (fun hc2 => ?_)
  · refine k_iloadN A0 hx (hb hby own_d8_9) rfl (pc' := 10) rfl ?_
    refine k_ret_int S0 hx hret hlk (hb hby own_d8_10) (by decide) (by decide) ?_
    exact ⟨by simp [own_max, hc2], rfl⟩
  · refine k_iloadN A0 hx (hb hby own_d8_5) rfl (pc' := 6) rfl ?_
    refine k_goto A0 hx (hb hby own_d8_6) (pc' := 10) (by decide) ?_
    refine k_ret_int S0 hx hret hlk (hb hby own_d8_10) (by decide) (by decide) ?_
    exact ⟨by simp [own_max, hc2], rfl⟩
theorem own_d3_0 : decode jdk_65_method_123_code 0 = .ok (.iload_n 1, 1) := by decide +kernel
theorem own_d3_1 : decode jdk_65_method_123_code 1 = .ok (.aload_n 0, 1) := by decide +kernel
theorem own_d3_2 : decode jdk_65_method_123_code 2 = .ok (.arraylength, 1) := by decide +kernel
theorem own_d3_3 : decode jdk_65_method_123_code 3 = .ok (.if_icmp .ne 11, 3) := by decide +kernel
theorem own_d3_6 : decode jdk_65_method_123_code 6 = .ok (.aload_n 0, 1) := by decide +kernel
theorem own_d3_7 : decode jdk_65_method_123_code 7 = .ok (.invokevirtual 316, 3) := by decide +kernel
theorem own_d3_10 : decode jdk_65_method_123_code 10 = .ok (.checkcast 317, 3) := by decide +kernel
theorem own_d3_13 : decode jdk_65_method_123_code 13 = .ok (.areturn, 1) := by decide +kernel
theorem own_d3_14 : decode jdk_65_method_123_code 14 = .ok (.iload_n 1, 1) := by decide +kernel
theorem own_d3_15 : decode jdk_65_method_123_code 15 = .ok (.newarray .int, 2) := by decide +kernel
theorem own_d3_17 : decode jdk_65_method_123_code 17 = .ok (.astore_n 2, 1) := by decide +kernel
theorem own_d3_18 : decode jdk_65_method_123_code 18 = .ok (.aload_n 0, 1) := by decide +kernel
theorem own_d3_19 : decode jdk_65_method_123_code 19 = .ok (.iconst 0, 1) := by decide +kernel
theorem own_d3_20 : decode jdk_65_method_123_code 20 = .ok (.aload_n 2, 1) := by decide +kernel
theorem own_d3_21 : decode jdk_65_method_123_code 21 = .ok (.iconst 0, 1) := by decide +kernel
theorem own_d3_22 : decode jdk_65_method_123_code 22 = .ok (.aload_n 0, 1) := by decide +kernel
theorem own_d3_23 : decode jdk_65_method_123_code 23 = .ok (.arraylength, 1) := by decide +kernel
theorem own_d3_24 : decode jdk_65_method_123_code 24 = .ok (.iload_n 1, 1) := by decide +kernel
theorem own_d3_25 : decode jdk_65_method_123_code 25 = .ok (.invokestatic 304, 3) := by decide +kernel
theorem own_d3_28 : decode jdk_65_method_123_code 28 = .ok (.invokestatic 150, 3) := by decide +kernel
theorem own_d3_31 : decode jdk_65_method_123_code 31 = .ok (.aload_n 2, 1) := by decide +kernel
theorem own_d3_32 : decode jdk_65_method_123_code 32 = .ok (.areturn, 1) := by decide +kernel
theorem own_pn3 : plainName "java/util/Arrays" = true := by first | (simp [plainName, overriddenIn]; done) | decide +kernel
theorem own_pd0 : parseMethodDescriptor "(II)I" = some ⟨[.int, .int], some .int⟩ := by decide +kernel
set_option maxRecDepth 65536 in
set_option maxHeartbeats 40000000 in
theorem own_copyOf (l : Launch) (Z : State) (a0 : Array Value) (hw : ∀ d ∈ tables_1, d.before a0 Z = true) (a : Addr) (nl : Int32) (h0 : Heap) (n0 : Nat) (xs : List Int32) (Z0 : n0 ≤ h0.size) (Va : IV Z h0 a xs) (hnl : 0 ≤ nl.toInt ∧ nl.toInt ≤ 4) (hne : ¬ nl = xs.length.toInt32) :
    Con l Z (⟨"java/util/Arrays", "copyOf", "([II)[I"⟩ : MethodName) jdk_65_method_123_code 3 (some (.array .int)) ({ frames := 1, cells := 1, slots := 4, locals := 18 } : Room) n0 h0 #[(.ref a), (.int nl)] (fun v h => ∃ b, v = some (.ref b) ∧ h0.size ≤ b ∧ Keep h0 h [] ∧ IV Z h b (xs.take (own_min xs.length.toInt32 nl).toInt.toNat ++ (List.replicate nl.toInt.toNat 0).drop (own_min xs.length.toInt32 nl).toInt.toNat)) := by
  refine Con.intro (plainFor_of_name own_pn3) (Ls := #[.val (.ref a), .val (.int nl), .unset]) (fun m => by first | (simp [entryFrame, mkF, argsToLocals, Value.category]; done) | rfl) ?_
  intro p e s m below meth c s₁ hx hby hml hown hnm hret hlk hZ S0
  have A0 := S0.here
  have K1 := Keep.refl h0 []
  refine k_iloadN A0 hx (hb hby own_d3_0) rfl (pc' := 1) rfl ?_
  refine k_aloadN A0 hx (hb hby own_d3_1) rfl rfl (pc' := 2) rfl ?_
  refine k_arraylength S0 hx hZ Va (hb hby own_d3_2) (z := (xs.length.toInt32)) (by rw [List.length_map]) (pc' := 3) rfl ?_
  refine k_icmp_ne A0 hx (hb hby own_d3_3) (pcY := 14) (by decide) (pc' := 6) rfl (fun hc3 => ?_) (fun hc3 => absurd hc3 hne)
  refine k_iloadN A0 hx (hb hby own_d3_14) rfl (pc' := 15) rfl ?_
  refine k_newint S0 hx hZ (hw _ (List.mem_of_getElem? (i := 4) rfl)) (hb hby own_d3_15) hnl.1 4 hnl.2 (by decide) (by decide) (by decide) (pc' := 17) rfl ?_
  intro T2 h2 b2 g2 E2 V2 S2
  have ne3 : a ≠ b2 := by rw [g2]; exact Nat.ne_of_lt Va.lt
  have bo4 : h0.size ≤ b2 := Nat.le_trans K1.1 (Nat.le_of_eq g2.symm)
  have ge4 : n0 ≤ b2 := Nat.le_trans Z0 bo4
  have A2 := S2.here
  have f5 := Va.ext E2
  have K6 := K1.ext E2
  refine k_astoreN A2 hx (hb hby own_d3_17) rfl (Ls' := #[.val (.ref a), .val (.int nl), .val (.ref b2)]) rfl (pc' := 18) rfl ?_
  refine k_aloadN A2 hx (hb hby own_d3_18) rfl rfl (pc' := 19) rfl ?_
  refine k_iconst A2 hx (hb hby own_d3_19) (v := 0) rfl (pc' := 20) rfl ?_
  refine k_aloadN A2 hx (hb hby own_d3_20) rfl rfl (pc' := 21) rfl ?_
  refine k_iconst A2 hx (hb hby own_d3_21) (v := 0) rfl (pc' := 22) rfl ?_
  refine k_aloadN A2 hx (hb hby own_d3_22) rfl rfl (pc' := 23) rfl ?_
  refine k_arraylength S2 hx hZ f5 (hb hby own_d3_23) (z := (xs.length.toInt32)) (by rw [List.length_map]) (pc' := 24) rfl ?_
  refine k_iloadN A2 hx (hb hby own_d3_24) rfl (pc' := 25) rfl ?_
  refine k_call_static S2 hx hZ hown (hw _ (List.mem_of_getElem? (i := 41) rfl)) (hw _ (List.mem_of_getElem? (i := 32) rfl)) (hw _ (List.mem_of_getElem? (i := 33) rfl)) (hw _ (List.mem_of_getElem? (i := 34) rfl)) (by decide) (own_cmin l Z a0 hw (xs.length.toInt32) nl h2 n0) 4 (argsL := [(.int (xs.length.toInt32)), (.int nl)]) (rest := [(.int (0 : Int32)), (.ref b2), (.int (0 : Int32)), (.ref a)]) (by decide) (by decide) (by rw [hml]; rfl) (lenOf own_pd0 rfl) rfl rfl (Nat.le_refl 4) (hb hby own_d3_25) (pc' := 28) rfl (by decide) (by decide) ?_
  rintro v7 T7 h7 ⟨rfl, q7⟩ S7
  rw [q7] at S7
  have A7 := S7.here
  show Done p e below _ (T7.setTop (mkF m 28 #[.val (.ref a), .val (.int nl), .val (.ref b2)] [(.int (own_min (xs.length.toInt32) nl)), (.int (0 : Int32)), (.ref b2), (.int (0 : Int32)), (.ref a)]))
  refine k_arraycopy S7 hx hZ hown (hw _ (List.mem_of_getElem? (i := 42) rfl)) (hw _ (List.mem_of_getElem? (i := 45) rfl)) (hw _ (List.mem_of_getElem? (i := 43) rfl)) (hw _ (List.mem_of_getElem? (i := 44) rfl)) f5 V2 (own_mn0 Va.len hnl.1).1 (own_mn0 Va.len hnl.1).2.1 (by rw [List.length_replicate]; exact (own_mn0 Va.len hnl.1).2.2) ge4 (by rw [hml]; rfl) (hb hby own_d3_28) (by decide) 0 (Nat.le_refl _) (by decide) (pc' := 31) rfl ?_
  intro T8 h8 K8 V8 S8
  have A8 := S8.here
  have f9 := f5.keep K8 (ninS ne3 nin0)
  have K11 := K6.trans K8 (allS (Or.inr bo4) all0)
  refine k_aloadN A8 hx (hb hby own_d3_31) rfl rfl (pc' := 32) rfl ?_
  refine k_ret_ref S8 hx hret rfl hlk (hb hby own_d3_32) (by decide) (by decide) ?_
  exact ⟨b2, rfl, bo4, K11, V8⟩
set_option maxRecDepth 65536 in
set_option maxHeartbeats 40000000 in
theorem own_copyEq (l : Launch) (Z : State) (a0 : Array Value) (hw : ∀ d ∈ tables_1, d.before a0 Z = true) (a : Addr) (nl : Int32) (h0 : Heap) (n0 : Nat) (xs : List Int32) (Z0 : n0 ≤ h0.size) (Va : IV Z h0 a xs) (Ea : Exa Z h0 a "[I") (hl : xs.length ≤ 4) (heq : nl = xs.length.toInt32) :
    Con l Z (⟨"java/util/Arrays", "copyOf", "([II)[I"⟩ : MethodName) jdk_65_method_123_code 3 (some (.array .int)) ({ frames := 1, cells := 1, slots := 4, locals := 18 } : Room) n0 h0 #[(.ref a), (.int nl)] (fun v h => ∃ b, v = some (.ref b) ∧ h0.size ≤ b ∧ Keep h0 h [] ∧ IV Z h b xs) := by
  refine Con.intro (plainFor_of_name own_pn3) (Ls := #[.val (.ref a), .val (.int nl), .unset]) (fun m => by first | (simp [entryFrame, mkF, argsToLocals, Value.category]; done) | rfl) ?_
  intro p e s m below meth c s₁ hx hby hml hown hnm hret hlk hZ S0
  have A0 := S0.here
  have K1 := Keep.refl h0 []
  refine k_iloadN A0 hx (hb hby own_d3_0) rfl (pc' := 1) rfl ?_
  refine k_aloadN A0 hx (hb hby own_d3_1) rfl rfl (pc' := 2) rfl ?_
  refine k_arraylength S0 hx hZ Va (hb hby own_d3_2) (z := (xs.length.toInt32)) (by rw [List.length_map]) (pc' := 3) rfl ?_
  refine k_icmp_ne A0 hx (hb hby own_d3_3) (pcY := 14) (by decide) (pc' := 6) rfl (fun hc3 => absurd heq hc3) (fun hc3 => ?_)
  refine k_aloadN A0 hx (hb hby own_d3_6) rfl rfl (pc' := 7) rfl ?_
  refine k_clone S0 hx hZ hown (hw _ (List.mem_of_getElem? (i := 13) rfl)) (hw _ (List.mem_of_getElem? (i := 14) rfl)) (hw _ (List.mem_of_getElem? (i := 18) rfl)) (hw _ (List.mem_of_getElem? (i := 16) rfl)) (hw _ (List.mem_of_getElem? (i := 17) rfl)) (hw _ (List.mem_of_getElem? (i := 19) rfl)) Va Ea (by rw [hml]; rfl) (hb hby own_d3_7) (by decide) 0 (Nat.le_refl _) (by decide) 4 hl (by decide) (by decide) (pc' := 10) rfl ?_
  intro T2 h2 b2 g2 E2 V2 EX2 S2
  have ne3 : a ≠ b2 := by rw [g2]; exact Nat.ne_of_lt Va.lt
  have bo4 : h0.size ≤ b2 := Nat.le_trans K1.1 (Nat.le_of_eq g2.symm)
  have ge4 : n0 ≤ b2 := Nat.le_trans Z0 bo4
  have A2 := S2.here
  have f5 := Va.ext E2
  have f6 := Ea.ext E2
  have K7 := K1.ext E2
  refine k_checkcast S2 hx hZ hown (hw _ (List.mem_of_getElem? (i := 20) rfl)) (Ins.self EX2) (hb hby own_d3_10) (pc' := 13) rfl ?_
  intro T8 S8
  have A8 := S8.here
  refine k_ret_ref S8 hx hret rfl hlk (hb hby own_d3_13) (by decide) (by decide) ?_
  exact ⟨b2, rfl, bo4, K7, V2⟩
theorem own_d1_0 : decode method_2_code 0 = .ok (.iload_n 0, 1) := by decide +kernel
theorem own_d1_1 : decode method_2_code 1 = .ok (.ifCond .ne 7, 3) := by decide +kernel
theorem own_d1_4 : decode method_2_code 4 = .ok (.iconst 0, 1) := by decide +kernel
theorem own_d1_5 : decode method_2_code 5 = .ok (.newarray .int, 2) := by decide +kernel
theorem own_d1_7 : decode method_2_code 7 = .ok (.areturn, 1) := by decide +kernel
theorem own_d1_8 : decode method_2_code 8 = .ok (.iload_n 1, 1) := by decide +kernel
theorem own_d1_9 : decode method_2_code 9 = .ok (.iload_n 2, 1) := by decide +kernel
theorem own_d1_10 : decode method_2_code 10 = .ok (.invokestatic 7, 3) := by decide +kernel
theorem own_d1_13 : decode method_2_code 13 = .ok (.istore_n 3, 1) := by decide +kernel
theorem own_d1_14 : decode method_2_code 14 = .ok (.iload_n 1, 1) := by decide +kernel
theorem own_d1_15 : decode method_2_code 15 = .ok (.iload_n 2, 1) := by decide +kernel
theorem own_d1_16 : decode method_2_code 16 = .ok (.invokestatic 13, 3) := by decide +kernel
theorem own_d1_19 : decode method_2_code 19 = .ok (.istore 4, 2) := by decide +kernel
theorem own_d1_21 : decode method_2_code 21 = .ok (.iload_n 0, 1) := by decide +kernel
theorem own_d1_22 : decode method_2_code 22 = .ok (.iconst 1, 1) := by decide +kernel
theorem own_d1_23 : decode method_2_code 23 = .ok (.if_icmp .eq 9, 3) := by decide +kernel
theorem own_d1_26 : decode method_2_code 26 = .ok (.iload_n 3, 1) := by decide +kernel
theorem own_d1_27 : decode method_2_code 27 = .ok (.iload 4, 2) := by decide +kernel
theorem own_d1_29 : decode method_2_code 29 = .ok (.if_icmp .ne 11, 3) := by decide +kernel
theorem own_d1_32 : decode method_2_code 32 = .ok (.iconst 1, 1) := by decide +kernel
theorem own_d1_33 : decode method_2_code 33 = .ok (.newarray .int, 2) := by decide +kernel
theorem own_d1_35 : decode method_2_code 35 = .ok (.dup, 1) := by decide +kernel
theorem own_d1_36 : decode method_2_code 36 = .ok (.iconst 0, 1) := by decide +kernel
theorem own_d1_37 : decode method_2_code 37 = .ok (.iload_n 3, 1) := by decide +kernel
theorem own_d1_38 : decode method_2_code 38 = .ok (.iastore, 1) := by decide +kernel
theorem own_d1_39 : decode method_2_code 39 = .ok (.areturn, 1) := by decide +kernel
theorem own_d1_40 : decode method_2_code 40 = .ok (.iconst 2, 1) := by decide +kernel
theorem own_d1_41 : decode method_2_code 41 = .ok (.newarray .int, 2) := by decide +kernel
theorem own_d1_43 : decode method_2_code 43 = .ok (.dup, 1) := by decide +kernel
theorem own_d1_44 : decode method_2_code 44 = .ok (.iconst 0, 1) := by decide +kernel
theorem own_d1_45 : decode method_2_code 45 = .ok (.iload_n 3, 1) := by decide +kernel
theorem own_d1_46 : decode method_2_code 46 = .ok (.iastore, 1) := by decide +kernel
theorem own_d1_47 : decode method_2_code 47 = .ok (.dup, 1) := by decide +kernel
theorem own_d1_48 : decode method_2_code 48 = .ok (.iconst 1, 1) := by decide +kernel
theorem own_d1_49 : decode method_2_code 49 = .ok (.iload 4, 2) := by decide +kernel
theorem own_d1_51 : decode method_2_code 51 = .ok (.iastore, 1) := by decide +kernel
theorem own_d1_52 : decode method_2_code 52 = .ok (.areturn, 1) := by decide +kernel
theorem own_pn1 : plainName "com/example/vestigium/vestigium/semantics/SortedSetsUnionPinLaw" = true := by first | (simp [plainName, overriddenIn]; done) | decide +kernel
set_option maxRecDepth 65536 in
set_option maxHeartbeats 40000000 in
theorem own_cmk (l : Launch) (Z : State) (a0 : Array Value) (hw : ∀ d ∈ tables_1, d.before a0 Z = true) (n u t : Int32) (h0 : Heap) (n0 : Nat) (Z0 : n0 ≤ h0.size) :
    Con l Z (⟨"com/example/vestigium/vestigium/semantics/SortedSetsUnionPinLaw", "mk", "(III)[I"⟩ : MethodName) method_2_code 5 (some (.array .int)) ({ frames := 1, cells := 1, slots := 2, locals := 30 } : Room) n0 h0 #[(.int n), (.int u), (.int t)] (fun v h => ∃ b xs, v = some (.ref b) ∧ Keep h0 h [] ∧ IV Z h b xs ∧ own_S xs) := by
  refine Con.intro (plainFor_of_name own_pn1) (Ls := #[.val (.int n), .val (.int u), .val (.int t), .unset, .unset]) (fun m => by first | (simp [entryFrame, mkF, argsToLocals, Value.category]; done) | rfl) ?_
  intro p e s m below meth c s₁ hx hby hml hown hnm hret hlk hZ S0
  have A0 := S0.here
  have K1 := Keep.refl h0 []
  refine k_iloadN A0 hx (hb hby own_d1_0) rfl (pc' := 1) rfl ?_
  refine k_if_ne A0 hx (hb hby own_d1_1) (pcY := 8) (by decide) (pc' := 4) rfl (fun hc1 => ?_) (fun hc1 => ?_)
  · refine k_iloadN A0 hx (hb hby own_d1_8) rfl (pc' := 9) rfl ?_
    refine k_iloadN A0 hx (hb hby own_d1_9) rfl (pc' := 10) rfl ?_
    refine k_call_static S0 hx hZ hown (hw _ (List.mem_of_getElem? (i := 31) rfl)) (hw _ (List.mem_of_getElem? (i := 32) rfl)) (hw _ (List.mem_of_getElem? (i := 33) rfl)) (hw _ (List.mem_of_getElem? (i := 34) rfl)) (by decide) (own_cmin l Z a0 hw u t h0 n0) 0 (argsL := [(.int u), (.int t)]) (rest := []) (by decide) (by decide) (by rw [hml]; rfl) (lenOf own_pd0 rfl) rfl rfl (Nat.le_refl 0) (hb hby own_d1_10) (pc' := 13) rfl (by decide) (by decide) ?_
    rintro v2 T2 h2 ⟨rfl, q2⟩ S2
    rw [q2] at S2
    have A2 := S2.here
    show Done p e below _ (T2.setTop (mkF m 13 #[.val (.int n), .val (.int u), .val (.int t), .unset, .unset] [(.int (own_min u t))]))
    refine k_istoreN A2 hx (hb hby own_d1_13) (Ls' := #[.val (.int n), .val (.int u), .val (.int t), .val (.int (own_min u t)), .unset]) rfl (pc' := 14) rfl ?_
    refine k_iloadN A2 hx (hb hby own_d1_14) rfl (pc' := 15) rfl ?_
    refine k_iloadN A2 hx (hb hby own_d1_15) rfl (pc' := 16) rfl ?_
    refine k_call_static S2 hx hZ hown (hw _ (List.mem_of_getElem? (i := 35) rfl)) (hw _ (List.mem_of_getElem? (i := 36) rfl)) (hw _ (List.mem_of_getElem? (i := 33) rfl)) (hw _ (List.mem_of_getElem? (i := 37) rfl)) (by decide) (own_cmax l Z a0 hw u t h0 n0) 0 (argsL := [(.int u), (.int t)]) (rest := []) (by decide) (by decide) (by rw [hml]; rfl) (lenOf own_pd0 rfl) rfl rfl (Nat.le_refl 0) (hb hby own_d1_16) (pc' := 19) rfl (by decide) (by decide) ?_
    rintro v3 T3 h3 ⟨rfl, q3⟩ S3
    rw [q3] at S3
    have A3 := S3.here
    show Done p e below _ (T3.setTop (mkF m 19 #[.val (.int n), .val (.int u), .val (.int t), .val (.int (own_min u t)), .unset] [(.int (own_max u t))]))
    refine k_istore A3 hx (hb hby own_d1_19) (Ls' := #[.val (.int n), .val (.int u), .val (.int t), .val (.int (own_min u t)), .val (.int (own_max u t))]) rfl (pc' := 21) rfl ?_
    refine k_iloadN A3 hx (hb hby own_d1_21) rfl (pc' := 22) rfl ?_
    refine k_iconst A3 hx (hb hby own_d1_22) (v := 1) rfl (pc' := 23) rfl ?_
    refine k_icmp_eq A3 hx (hb hby own_d1_23) (pcY := 32) (by decide) (pc' := 26) rfl (fun hc23 => ?_) (fun hc23 => ?_)
    · refine k_iconst A3 hx (hb hby own_d1_32) (v := 1) rfl (pc' := 33) rfl ?_
      refine k_newint S3 hx hZ (hw _ (List.mem_of_getElem? (i := 4) rfl)) (hb hby own_d1_33) (by decide) 1 (by decide) (by decide) (by decide) (by decide) (pc' := 35) rfl ?_
      intro T4 h4 b4 g4 E4 V4 S4
      have bo5 : h0.size ≤ b4 := Nat.le_trans K1.1 (Nat.le_of_eq g4.symm)
      have ge5 : n0 ≤ b4 := Nat.le_trans Z0 bo5
      have A4 := S4.here
      have K6 := K1.ext E4
      have V4 : IV Z h4 b4 [(0 : Int32)] := V4
      refine k_dup A4 hx (hb hby own_d1_35) rfl (pc' := 36) rfl ?_
      refine k_iconst A4 hx (hb hby own_d1_36) (v := 0) rfl (pc' := 37) rfl ?_
      refine k_iloadN A4 hx (hb hby own_d1_37) rfl (pc' := 38) rfl ?_
      refine k_iastore S4 hx hZ V4 (hb hby own_d1_38) (by decide) (by first | decide | (simp; done)) ge5 (pc' := 39) rfl ?_
      intro T7 h7 W7 V7 S7
      have A7 := S7.here
      have K9 := K6.wr W7 (Or.inr bo5)
      have V7 : IV Z h7 b4 [(own_min u t)] := V7
      refine k_ret_ref S7 hx hret rfl hlk (hb hby own_d1_39) (by decide) (by decide) ?_
      exact ⟨b4, [(own_min u t)], rfl, K9, V7, (own_S1 _)⟩
    · refine k_iloadN A3 hx (hb hby own_d1_26) rfl (pc' := 27) rfl ?_
      refine k_iload A3 hx (hb hby own_d1_27) rfl (pc' := 29) rfl ?_
      refine k_icmp_ne A3 hx (hb hby own_d1_29) (pcY := 40) (by decide) (pc' := 32) rfl (fun hc29 => ?_) (fun hc29 => ?_)
      · refine k_iconst A3 hx (hb hby own_d1_40) (v := 2) rfl (pc' := 41) rfl ?_
        refine k_newint S3 hx hZ (hw _ (List.mem_of_getElem? (i := 4) rfl)) (hb hby own_d1_41) (by decide) 2 (by decide) (by decide) (by decide) (by decide) (pc' := 43) rfl ?_
        intro T10 h10 b10 g10 E10 V10 S10
        have bo11 : h0.size ≤ b10 := Nat.le_trans K1.1 (Nat.le_of_eq g10.symm)
        have ge11 : n0 ≤ b10 := Nat.le_trans Z0 bo11
        have A10 := S10.here
        have K12 := K1.ext E10
        have V10 : IV Z h10 b10 [(0 : Int32), (0 : Int32)] := V10
        refine k_dup A10 hx (hb hby own_d1_43) rfl (pc' := 44) rfl ?_
        refine k_iconst A10 hx (hb hby own_d1_44) (v := 0) rfl (pc' := 45) rfl ?_
        refine k_iloadN A10 hx (hb hby own_d1_45) rfl (pc' := 46) rfl ?_
        refine k_iastore S10 hx hZ V10 (hb hby own_d1_46) (by decide) (by first | decide | (simp; done)) ge11 (pc' := 47) rfl ?_
        intro T13 h13 W13 V13 S13
        have A13 := S13.here
        have K15 := K12.wr W13 (Or.inr bo11)
        have V13 : IV Z h13 b10 [(own_min u t), (0 : Int32)] := V13
        refine k_dup A13 hx (hb hby own_d1_47) rfl (pc' := 48) rfl ?_
        refine k_iconst A13 hx (hb hby own_d1_48) (v := 1) rfl (pc' := 49) rfl ?_
        refine k_iload A13 hx (hb hby own_d1_49) rfl (pc' := 51) rfl ?_
        refine k_iastore S13 hx hZ V13 (hb hby own_d1_51) (by decide) (by first | decide | (simp; done)) ge11 (pc' := 52) rfl ?_
        intro T16 h16 W16 V16 S16
        have A16 := S16.here
        have K18 := K15.wr W16 (Or.inr bo11)
        have V16 : IV Z h16 b10 [(own_min u t), (own_max u t)] := V16
        refine k_ret_ref S16 hx hret rfl hlk (hb hby own_d1_52) (by decide) (by decide) ?_
        exact ⟨b10, [(own_min u t), (own_max u t)], rfl, K18, V16, (own_S2 (by have q := own_min_t u t; have r := own_max_t u t; rw [← Int32.toInt_inj] at hc29; omega))⟩
      · refine k_iconst A3 hx (hb hby own_d1_32) (v := 1) rfl (pc' := 33) rfl ?_
        refine k_newint S3 hx hZ (hw _ (List.mem_of_getElem? (i := 4) rfl)) (hb hby own_d1_33) (by decide) 1 (by decide) (by decide) (by decide) (by decide) (pc' := 35) rfl ?_
        intro T19 h19 b19 g19 E19 V19 S19
        have bo20 : h0.size ≤ b19 := Nat.le_trans K1.1 (Nat.le_of_eq g19.symm)
        have ge20 : n0 ≤ b19 := Nat.le_trans Z0 bo20
        have A19 := S19.here
        have K21 := K1.ext E19
        have V19 : IV Z h19 b19 [(0 : Int32)] := V19
        refine k_dup A19 hx (hb hby own_d1_35) rfl (pc' := 36) rfl ?_
        refine k_iconst A19 hx (hb hby own_d1_36) (v := 0) rfl (pc' := 37) rfl ?_
        refine k_iloadN A19 hx (hb hby own_d1_37) rfl (pc' := 38) rfl ?_
        refine k_iastore S19 hx hZ V19 (hb hby own_d1_38) (by decide) (by first | decide | (simp; done)) ge20 (pc' := 39) rfl ?_
        intro T22 h22 W22 V22 S22
        have A22 := S22.here
        have K24 := K21.wr W22 (Or.inr bo20)
        have V22 : IV Z h22 b19 [(own_min u t)] := V22
        refine k_ret_ref S22 hx hret rfl hlk (hb hby own_d1_39) (by decide) (by decide) ?_
        exact ⟨b19, [(own_min u t)], rfl, K24, V22, (own_S1 _)⟩
  · refine k_iconst A0 hx (hb hby own_d1_4) (v := 0) rfl (pc' := 5) rfl ?_
    refine k_newint S0 hx hZ (hw _ (List.mem_of_getElem? (i := 4) rfl)) (hb hby own_d1_5) (by decide) 0 (by decide) (by decide) (by decide) (by decide) (pc' := 7) rfl ?_
    intro T25 h25 b25 g25 E25 V25 S25
    have bo26 : h0.size ≤ b25 := Nat.le_trans K1.1 (Nat.le_of_eq g25.symm)
    have ge26 : n0 ≤ b25 := Nat.le_trans Z0 bo26
    have A25 := S25.here
    have K27 := K1.ext E25
    have V25 : IV Z h25 b25 [] := V25
    refine k_ret_ref S25 hx hret rfl hlk (hb hby own_d1_7) (by decide) (by decide) ?_
    exact ⟨b25, [], rfl, K27, V25, own_S0⟩
theorem own_d2_0 : decode prog_68_method_2_code 0 = .ok (.aload_n 0, 1) := by decide +kernel
theorem own_d2_1 : decode prog_68_method_2_code 1 = .ok (.arraylength, 1) := by decide +kernel
theorem own_d2_2 : decode prog_68_method_2_code 2 = .ok (.aload_n 1, 1) := by decide +kernel
theorem own_d2_3 : decode prog_68_method_2_code 3 = .ok (.arraylength, 1) := by decide +kernel
theorem own_d2_4 : decode prog_68_method_2_code 4 = .ok (.iadd, 1) := by decide +kernel
theorem own_d2_5 : decode prog_68_method_2_code 5 = .ok (.newarray .int, 2) := by decide +kernel
theorem own_d2_7 : decode prog_68_method_2_code 7 = .ok (.astore_n 2, 1) := by decide +kernel
theorem own_d2_8 : decode prog_68_method_2_code 8 = .ok (.iconst 0, 1) := by decide +kernel
theorem own_d2_9 : decode prog_68_method_2_code 9 = .ok (.istore_n 3, 1) := by decide +kernel
theorem own_d2_10 : decode prog_68_method_2_code 10 = .ok (.iconst 0, 1) := by decide +kernel
theorem own_d2_11 : decode prog_68_method_2_code 11 = .ok (.istore 4, 2) := by decide +kernel
theorem own_d2_13 : decode prog_68_method_2_code 13 = .ok (.iconst 0, 1) := by decide +kernel
theorem own_d2_14 : decode prog_68_method_2_code 14 = .ok (.istore 5, 2) := by decide +kernel
theorem own_d2_16 : decode prog_68_method_2_code 16 = .ok (.iload 4, 2) := by decide +kernel
theorem own_d2_18 : decode prog_68_method_2_code 18 = .ok (.aload_n 0, 1) := by decide +kernel
theorem own_d2_19 : decode prog_68_method_2_code 19 = .ok (.arraylength, 1) := by decide +kernel
theorem own_d2_20 : decode prog_68_method_2_code 20 = .ok (.if_icmp .lt 10, 3) := by decide +kernel
theorem own_d2_23 : decode prog_68_method_2_code 23 = .ok (.iload 5, 2) := by decide +kernel
theorem own_d2_25 : decode prog_68_method_2_code 25 = .ok (.aload_n 1, 1) := by decide +kernel
theorem own_d2_26 : decode prog_68_method_2_code 26 = .ok (.arraylength, 1) := by decide +kernel
theorem own_d2_27 : decode prog_68_method_2_code 27 = .ok (.if_icmp .ge 93, 3) := by decide +kernel
theorem own_d2_30 : decode prog_68_method_2_code 30 = .ok (.iload 5, 2) := by decide +kernel
theorem own_d2_32 : decode prog_68_method_2_code 32 = .ok (.aload_n 1, 1) := by decide +kernel
theorem own_d2_33 : decode prog_68_method_2_code 33 = .ok (.arraylength, 1) := by decide +kernel
theorem own_d2_34 : decode prog_68_method_2_code 34 = .ok (.if_icmp .eq 21, 3) := by decide +kernel
theorem own_d2_37 : decode prog_68_method_2_code 37 = .ok (.iload 4, 2) := by decide +kernel
theorem own_d2_39 : decode prog_68_method_2_code 39 = .ok (.aload_n 0, 1) := by decide +kernel
theorem own_d2_40 : decode prog_68_method_2_code 40 = .ok (.arraylength, 1) := by decide +kernel
theorem own_d2_41 : decode prog_68_method_2_code 41 = .ok (.if_icmp .ge 26, 3) := by decide +kernel
theorem own_d2_44 : decode prog_68_method_2_code 44 = .ok (.aload_n 0, 1) := by decide +kernel
theorem own_d2_45 : decode prog_68_method_2_code 45 = .ok (.iload 4, 2) := by decide +kernel
theorem own_d2_47 : decode prog_68_method_2_code 47 = .ok (.iaload, 1) := by decide +kernel
theorem own_d2_48 : decode prog_68_method_2_code 48 = .ok (.aload_n 1, 1) := by decide +kernel
theorem own_d2_49 : decode prog_68_method_2_code 49 = .ok (.iload 5, 2) := by decide +kernel
theorem own_d2_51 : decode prog_68_method_2_code 51 = .ok (.iaload, 1) := by decide +kernel
theorem own_d2_52 : decode prog_68_method_2_code 52 = .ok (.if_icmp .ge 15, 3) := by decide +kernel
theorem own_d2_55 : decode prog_68_method_2_code 55 = .ok (.aload_n 0, 1) := by decide +kernel
theorem own_d2_56 : decode prog_68_method_2_code 56 = .ok (.iload 4, 2) := by decide +kernel
theorem own_d2_58 : decode prog_68_method_2_code 58 = .ok (.iinc 4 1, 3) := by decide +kernel
theorem own_d2_61 : decode prog_68_method_2_code 61 = .ok (.iaload, 1) := by decide +kernel
theorem own_d2_62 : decode prog_68_method_2_code 62 = .ok (.istore 6, 2) := by decide +kernel
theorem own_d2_64 : decode prog_68_method_2_code 64 = .ok (.goto 45, 3) := by decide +kernel
theorem own_d2_67 : decode prog_68_method_2_code 67 = .ok (.iload 4, 2) := by decide +kernel
theorem own_d2_69 : decode prog_68_method_2_code 69 = .ok (.aload_n 0, 1) := by decide +kernel
theorem own_d2_70 : decode prog_68_method_2_code 70 = .ok (.arraylength, 1) := by decide +kernel
theorem own_d2_71 : decode prog_68_method_2_code 71 = .ok (.if_icmp .eq 14, 3) := by decide +kernel
theorem own_d2_74 : decode prog_68_method_2_code 74 = .ok (.aload_n 1, 1) := by decide +kernel
theorem own_d2_75 : decode prog_68_method_2_code 75 = .ok (.iload 5, 2) := by decide +kernel
theorem own_d2_77 : decode prog_68_method_2_code 77 = .ok (.iaload, 1) := by decide +kernel
theorem own_d2_78 : decode prog_68_method_2_code 78 = .ok (.aload_n 0, 1) := by decide +kernel
theorem own_d2_79 : decode prog_68_method_2_code 79 = .ok (.iload 4, 2) := by decide +kernel
theorem own_d2_81 : decode prog_68_method_2_code 81 = .ok (.iaload, 1) := by decide +kernel
theorem own_d2_82 : decode prog_68_method_2_code 82 = .ok (.if_icmp .ge 15, 3) := by decide +kernel
theorem own_d2_85 : decode prog_68_method_2_code 85 = .ok (.aload_n 1, 1) := by decide +kernel
theorem own_d2_86 : decode prog_68_method_2_code 86 = .ok (.iload 5, 2) := by decide +kernel
theorem own_d2_88 : decode prog_68_method_2_code 88 = .ok (.iinc 5 1, 3) := by decide +kernel
theorem own_d2_91 : decode prog_68_method_2_code 91 = .ok (.iaload, 1) := by decide +kernel
theorem own_d2_92 : decode prog_68_method_2_code 92 = .ok (.istore 6, 2) := by decide +kernel
theorem own_d2_94 : decode prog_68_method_2_code 94 = .ok (.goto 15, 3) := by decide +kernel
theorem own_d2_97 : decode prog_68_method_2_code 97 = .ok (.aload_n 0, 1) := by decide +kernel
theorem own_d2_98 : decode prog_68_method_2_code 98 = .ok (.iload 4, 2) := by decide +kernel
theorem own_d2_100 : decode prog_68_method_2_code 100 = .ok (.iinc 4 1, 3) := by decide +kernel
theorem own_d2_103 : decode prog_68_method_2_code 103 = .ok (.iaload, 1) := by decide +kernel
theorem own_d2_104 : decode prog_68_method_2_code 104 = .ok (.istore 6, 2) := by decide +kernel
theorem own_d2_106 : decode prog_68_method_2_code 106 = .ok (.iinc 5 1, 3) := by decide +kernel
theorem own_d2_109 : decode prog_68_method_2_code 109 = .ok (.aload_n 2, 1) := by decide +kernel
theorem own_d2_110 : decode prog_68_method_2_code 110 = .ok (.iload_n 3, 1) := by decide +kernel
theorem own_d2_111 : decode prog_68_method_2_code 111 = .ok (.iinc 3 1, 3) := by decide +kernel
theorem own_d2_114 : decode prog_68_method_2_code 114 = .ok (.iload 6, 2) := by decide +kernel
theorem own_d2_116 : decode prog_68_method_2_code 116 = .ok (.iastore, 1) := by decide +kernel
theorem own_d2_117 : decode prog_68_method_2_code 117 = .ok (.goto (-101), 3) := by decide +kernel
theorem own_d2_120 : decode prog_68_method_2_code 120 = .ok (.aload_n 2, 1) := by decide +kernel
theorem own_d2_121 : decode prog_68_method_2_code 121 = .ok (.iload_n 3, 1) := by decide +kernel
theorem own_d2_122 : decode prog_68_method_2_code 122 = .ok (.invokestatic 7, 3) := by decide +kernel
theorem own_d2_125 : decode prog_68_method_2_code 125 = .ok (.areturn, 1) := by decide +kernel
theorem own_pn2 : plainName "com/example/vestigium/vestigium/semantics/SortedSets" = true := by first | (simp [plainName, overriddenIn]; done) | decide +kernel
theorem own_pd1 : parseMethodDescriptor "([II)[I" = some ⟨[(.array .int), .int], some (.array .int)⟩ := by decide +kernel
set_option maxRecDepth 65536 in
set_option maxHeartbeats 40000000 in
theorem own_cun (l : Launch) (Z : State) (a0 : Array Value) (hw : ∀ d ∈ tables_1, d.before a0 Z = true) (a b : Addr) (h0 : Heap) (n0 : Nat) (xs ys : List Int32) (Z0 : n0 ≤ h0.size) (Va : IV Z h0 a xs) (Vb : IV Z h0 b ys) (hX : own_S xs) (hY : own_S ys) :
    Con l Z (⟨"com/example/vestigium/vestigium/semantics/SortedSets", "union", "([I[I)[I"⟩ : MethodName) prog_68_method_2_code 7 (some (.array .int)) ({ frames := 2, cells := 2, slots := 8, locals := 40 } : Room) n0 h0 #[(.ref a), (.ref b)] (fun v h => ∃ r zs, v = some (.ref r) ∧ Keep h0 h [] ∧ IV Z h r zs ∧ own_U xs ys zs) := by
  refine Con.intro (plainFor_of_name own_pn2) (Ls := #[.val (.ref a), .val (.ref b), .unset, .unset, .unset, .unset, .unset]) (fun m => by first | (simp [entryFrame, mkF, argsToLocals, Value.category]; done) | rfl) ?_
  intro p e s m below meth c s₁ hx hby hml hown hnm hret hlk hZ S0
  have A0 := S0.here
  have K1 := Keep.refl h0 []
  have hlx := own_len32 Va.len
  have hly := own_len32 Vb.len
  have hx2 := hX.1
  have hy2 := hY.1
  have hsum := own_add2 (x := xs.length.toInt32) (y := ys.length.toInt32) (by omega) (by omega) (by omega) (by omega)
  refine k_aloadN A0 hx (hb hby own_d2_0) rfl rfl (pc' := 1) rfl ?_
  refine k_arraylength S0 hx hZ Va (hb hby own_d2_1) (z := (xs.length.toInt32)) (by rw [List.length_map]) (pc' := 2) rfl ?_
  refine k_aloadN A0 hx (hb hby own_d2_2) rfl rfl (pc' := 3) rfl ?_
  refine k_arraylength S0 hx hZ Vb (hb hby own_d2_3) (z := (ys.length.toInt32)) (by rw [List.length_map]) (pc' := 4) rfl ?_
  refine k_iadd A0 hx (hb hby own_d2_4) (pc' := 5) rfl ?_
  refine k_newintE S0 hx hZ (hw _ (List.mem_of_getElem? (i := 4) rfl)) (hb hby own_d2_5) (by omega) 4 (by omega) (by decide) (by decide) (by decide) (pc' := 7) rfl ?_
  intro T2 h2 b2 g2 E2 V2 EX2 S2
  have ne3 : a ≠ b2 := by rw [g2]; exact Nat.ne_of_lt Va.lt
  have ne4 : b ≠ b2 := by rw [g2]; exact Nat.ne_of_lt Vb.lt
  have bo5 : h0.size ≤ b2 := Nat.le_trans K1.1 (Nat.le_of_eq g2.symm)
  have ge5 : n0 ≤ b2 := Nat.le_trans Z0 bo5
  have A2 := S2.here
  have f6 := Va.ext E2
  have f7 := Vb.ext E2
  have K8 := K1.ext E2
  have V9 : IV Z h2 b2 (List.replicate (xs.length + ys.length) 0) := by rw [show xs.length + ys.length = (xs.length.toInt32 + ys.length.toInt32).toInt.toNat by omega]; exact V2
  refine k_astoreN A2 hx (hb hby own_d2_7) rfl (Ls' := #[.val (.ref a), .val (.ref b), .val (.ref b2), .unset, .unset, .unset, .unset]) rfl (pc' := 8) rfl ?_
  refine k_iconst A2 hx (hb hby own_d2_8) (v := 0) rfl (pc' := 9) rfl ?_
  refine k_istoreN A2 hx (hb hby own_d2_9) (Ls' := #[.val (.ref a), .val (.ref b), .val (.ref b2), .val (.int (0 : Int32)), .unset, .unset, .unset]) rfl (pc' := 10) rfl ?_
  refine k_iconst A2 hx (hb hby own_d2_10) (v := 0) rfl (pc' := 11) rfl ?_
  refine k_istore A2 hx (hb hby own_d2_11) (Ls' := #[.val (.ref a), .val (.ref b), .val (.ref b2), .val (.int (0 : Int32)), .val (.int (0 : Int32)), .unset, .unset]) rfl (pc' := 13) rfl ?_
  refine k_iconst A2 hx (hb hby own_d2_13) (v := 0) rfl (pc' := 14) rfl ?_
  refine k_istore A2 hx (hb hby own_d2_14) (Ls' := #[.val (.ref a), .val (.ref b), .val (.ref b2), .val (.int (0 : Int32)), .val (.int (0 : Int32)), .val (.int (0 : Int32)), .unset]) rfl (pc' := 16) rfl ?_
  have L16_10 : ∀ (f : Nat) (T10 : State) (h10 : Heap), ∀ (n : Int32), ∀ (i : Int32), ∀ (j : Int32), ∀ (s6 : Slot), ∀ (cs : List Int32), St p l e ({ frames := 2, cells := 2, slots := 8, locals := 40 } : Room) s m #[(.ref a), (.ref b)] below meth c n0 T10 h10 (0 + 1) (0 + 4) → ((xs.length : Int) + ys.length - i.toInt - j.toInt < (f : Int)) → (IV Z h10 a xs) → (IV Z h10 b ys) → (IV Z h10 b2 cs) → (Exa Z h10 b2 "[I") → (Keep h0 h10 []) → (own_M xs ys cs n.toInt i.toInt j.toInt) → (One s6) → Done p e below (OEnd s ({ frames := 2, cells := 2, slots := 8, locals := 40 } : Room) n0 (fun v h => ∃ r zs, v = some (.ref r) ∧ Keep h0 h [] ∧ IV Z h r zs ∧ own_U xs ys zs)) (T10.setTop (mkF m 16 #[.val (.ref a), .val (.ref b), .val (.ref b2), .val (.int n), .val (.int i), .val (.int j), s6] [])) := by
    intro f
    induction f with
    | zero =>
      intro T10 h10 n i j s6 cs S10 hms Wa Wb Wr Wx KL hM hs6
      exfalso
      have q := hM.1; omega
    | succ f ih10 =>
      intro T10 h10 n i j s6 cs S10 hms Wa Wb Wr Wx KL hM hs6
      have A10 := S10.here
      have hb := hM.1
      obtain ⟨hi0, hi1, hj0, hj1, hn0, hn1, hcl⟩ := hb
      refine k_iload A10 hx (hb hby own_d2_16) rfl (pc' := 18) rfl ?_
      refine k_aloadN A10 hx (hb hby own_d2_18) rfl rfl (pc' := 19) rfl ?_
      refine k_arraylength S10 hx hZ Wa (hb hby own_d2_19) (z := (xs.length.toInt32)) (by rw [List.length_map]) (pc' := 20) rfl ?_
      have J30_11 : ∀ (T11 : State), St p l e ({ frames := 2, cells := 2, slots := 8, locals := 40 } : Room) s m #[(.ref a), (.ref b)] below meth c n0 T11 h10 (0 + 1) (0 + 4) → (i.toInt < xs.length ∨ j.toInt < ys.length) → Done p e below (OEnd s ({ frames := 2, cells := 2, slots := 8, locals := 40 } : Room) n0 (fun v h => ∃ r zs, v = some (.ref r) ∧ Keep h0 h [] ∧ IV Z h r zs ∧ own_U xs ys zs)) (T11.setTop (mkF m 30 #[.val (.ref a), .val (.ref b), .val (.ref b2), .val (.int n), .val (.int i), .val (.int j), s6] [])) := by
        intro T11 S11 h30
        have A11 := S11.here
        have J109_12 : ∀ (T12 : State), ∀ (i2 : Int32), ∀ (j2 : Int32), ∀ (v : Int32), St p l e ({ frames := 2, cells := 2, slots := 8, locals := 40 } : Room) s m #[(.ref a), (.ref b)] below meth c n0 T12 h10 (0 + 1) (0 + 4) → (own_M xs ys (cs.set n.toInt.toNat v) (n.toInt + 1) i2.toInt j2.toInt) → ((xs.length : Int) + ys.length - i2.toInt - j2.toInt < (xs.length : Int) + ys.length - i.toInt - j.toInt) → Done p e below (OEnd s ({ frames := 2, cells := 2, slots := 8, locals := 40 } : Room) n0 (fun v h => ∃ r zs, v = some (.ref r) ∧ Keep h0 h [] ∧ IV Z h r zs ∧ own_U xs ys zs)) (T12.setTop (mkF m 109 #[.val (.ref a), .val (.ref b), .val (.ref b2), .val (.int n), .val (.int i2), .val (.int j2), .val (.int v)] [])) := by
          intro T12 i2 j2 v S12 hM2 hms2
          have A12 := S12.here
          refine k_aloadN A12 hx (hb hby own_d2_109) rfl rfl (pc' := 110) rfl ?_
          refine k_iloadN A12 hx (hb hby own_d2_110) rfl (pc' := 111) rfl ?_
          refine k_iinc A12 hx (hb hby own_d2_111) rfl (Ls' := #[.val (.ref a), .val (.ref b), .val (.ref b2), .val (.int (n + (1 : Int32))), .val (.int i2), .val (.int j2), .val (.int v)]) rfl (pc' := 114) rfl ?_
          refine k_iload A12 hx (hb hby own_d2_114) rfl (pc' := 116) rfl ?_
          refine k_iastore S12 hx hZ Wr (hb hby own_d2_116) (by omega) (by have q := hM2.1; omega) ge5 (pc' := 117) rfl ?_
          intro T13 h13 W13 V13 S13
          have A13 := S13.here
          have f14 := Wa.other W13 ne3
          have f15 := Wb.other W13 ne4
          have f17 := Wx.wr W13
          have K18 := KL.wr W13 (Or.inr bo5)
          refine k_goto A13 hx (hb hby own_d2_117) (pc' := 16) (by decide) ?_
          exact ih10 T13 h13 (n + (1 : Int32)) i2 j2 (.val (.int v)) (cs.set n.toInt.toNat v) (S13.more (by decide) (by decide)) (by omega) f14 f15 V13 f17 K18 (by rw [own_inc1 (by omega) (by omega)]; exact hM2) (One.val rfl)
        refine k_iload A11 hx (hb hby own_d2_30) rfl (pc' := 32) rfl ?_
        refine k_aloadN A11 hx (hb hby own_d2_32) rfl rfl (pc' := 33) rfl ?_
        refine k_arraylength S11 hx hZ Wb (hb hby own_d2_33) (z := (ys.length.toInt32)) (by rw [List.length_map]) (pc' := 34) rfl ?_
        have J67_19 : ∀ (T19 : State), St p l e ({ frames := 2, cells := 2, slots := 8, locals := 40 } : Room) s m #[(.ref a), (.ref b)] below meth c n0 T19 h10 (0 + 1) (0 + 4) → (j.toInt < ys.length) → (i.toInt = xs.length ∨ (i.toInt < xs.length ∧ ¬ xs.getD i.toInt.toNat 0 < ys.getD j.toInt.toNat 0)) → Done p e below (OEnd s ({ frames := 2, cells := 2, slots := 8, locals := 40 } : Room) n0 (fun v h => ∃ r zs, v = some (.ref r) ∧ Keep h0 h [] ∧ IV Z h r zs ∧ own_U xs ys zs)) (T19.setTop (mkF m 67 #[.val (.ref a), .val (.ref b), .val (.ref b2), .val (.int n), .val (.int i), .val (.int j), s6] [])) := by
          intro T19 S19 hjl h67
          have A19 := S19.here
          refine k_iload A19 hx (hb hby own_d2_67) rfl (pc' := 69) rfl ?_
          refine k_aloadN A19 hx (hb hby own_d2_69) rfl rfl (pc' := 70) rfl ?_
          refine k_arraylength S19 hx hZ Wa (hb hby own_d2_70) (z := (xs.length.toInt32)) (by rw [List.length_map]) (pc' := 71) rfl ?_
          refine k_icmp_eq A19 hx (hb hby own_d2_71) (pcY := 85) (by decide) (pc' := 74) rfl (fun hc71 => ?_) (fun hc71 => ?_)
          · have hie : i.toInt = xs.length := by rw [hc71]; exact hlx
            refine k_aloadN A19 hx (hb hby own_d2_85) rfl rfl (pc' := 86) rfl ?_
            refine k_iload A19 hx (hb hby own_d2_86) rfl (pc' := 88) rfl ?_
            refine k_iinc A19 hx (hb hby own_d2_88) rfl (Ls' := #[.val (.ref a), .val (.ref b), .val (.ref b2), .val (.int n), .val (.int i), .val (.int (j + (1 : Int32))), s6]) rfl (pc' := 91) rfl ?_
            refine k_iaload S19 hx hZ Wb (hb hby own_d2_91) (by omega) (by omega) rfl (pc' := 92) rfl ?_
            refine k_istore A19 hx (hb hby own_d2_92) (Ls' := #[.val (.ref a), .val (.ref b), .val (.ref b2), .val (.int n), .val (.int i), .val (.int (j + (1 : Int32))), .val (.int (ys.getD j.toInt.toNat 0))]) (store1 rfl hs6 rfl) (pc' := 94) rfl ?_
            refine k_goto A19 hx (hb hby own_d2_94) (pc' := 109) (by decide) ?_
            exact J109_12 T19 i (j + (1 : Int32)) (ys.getD j.toInt.toNat 0) (S19.more (by decide) (by decide)) (by rw [own_inc1 (d := j) (by omega) (by omega)]; exact own_MY hM hX.2 hY.2 (pn := n.toInt.toNat) (pi := i.toInt.toNat) (pj := j.toInt.toNat) (by omega) (by omega) (by omega) hjl (Or.inl hie)) (by rw [own_inc1 (d := j) (by omega) (by omega)]; omega)
          · have hil : i.toInt < xs.length := by
              have q : ¬ i.toInt = xs.length := by rw [← Int32.toInt_inj, hlx] at hc71; exact hc71
              omega
            have hnl : ¬ xs.getD i.toInt.toNat 0 < ys.getD j.toInt.toNat 0 := by
              rcases h67 with q | q
              · omega
              · exact q.2
            refine k_aloadN A19 hx (hb hby own_d2_74) rfl rfl (pc' := 75) rfl ?_
            refine k_iload A19 hx (hb hby own_d2_75) rfl (pc' := 77) rfl ?_
            refine k_iaload S19 hx hZ Wb (hb hby own_d2_77) (by omega) (by omega) rfl (pc' := 78) rfl ?_
            refine k_aloadN A19 hx (hb hby own_d2_78) rfl rfl (pc' := 79) rfl ?_
            refine k_iload A19 hx (hb hby own_d2_79) rfl (pc' := 81) rfl ?_
            refine k_iaload S19 hx hZ Wa (hb hby own_d2_81) (by omega) (by omega) rfl (pc' := 82) rfl ?_
            refine k_icmp_ge A19 hx (hb hby own_d2_82) (pcY := 97) (by decide) (pc' := 85) rfl (fun hc82 => ?_) (fun hc82 => ?_)
            · refine k_aloadN A19 hx (hb hby own_d2_97) rfl rfl (pc' := 98) rfl ?_
              refine k_iload A19 hx (hb hby own_d2_98) rfl (pc' := 100) rfl ?_
              refine k_iinc A19 hx (hb hby own_d2_100) rfl (Ls' := #[.val (.ref a), .val (.ref b), .val (.ref b2), .val (.int n), .val (.int (i + (1 : Int32))), .val (.int j), s6]) rfl (pc' := 103) rfl ?_
              refine k_iaload S19 hx hZ Wa (hb hby own_d2_103) (by omega) (by omega) rfl (pc' := 104) rfl ?_
              refine k_istore A19 hx (hb hby own_d2_104) (Ls' := #[.val (.ref a), .val (.ref b), .val (.ref b2), .val (.int n), .val (.int (i + (1 : Int32))), .val (.int j), .val (.int (xs.getD i.toInt.toNat 0))]) (store1 rfl hs6 rfl) (pc' := 106) rfl ?_
              refine k_iinc A19 hx (hb hby own_d2_106) rfl (Ls' := #[.val (.ref a), .val (.ref b), .val (.ref b2), .val (.int n), .val (.int (i + (1 : Int32))), .val (.int (j + (1 : Int32))), .val (.int (xs.getD i.toInt.toNat 0))]) rfl (pc' := 109) rfl ?_
              exact J109_12 T19 (i + (1 : Int32)) (j + (1 : Int32)) (xs.getD i.toInt.toNat 0) (S19.more (by decide) (by decide)) (by rw [own_inc1 (d := i) (by omega) (by omega), own_inc1 (d := j) (by omega) (by omega)]; exact own_MB hM hX.2 hY.2 (pn := n.toInt.toNat) (pi := i.toInt.toNat) (pj := j.toInt.toNat) (by omega) (by omega) (by omega) hil hjl hnl hc82) (by rw [own_inc1 (d := i) (by omega) (by omega), own_inc1 (d := j) (by omega) (by omega)]; omega)
            · refine k_aloadN A19 hx (hb hby own_d2_85) rfl rfl (pc' := 86) rfl ?_
              refine k_iload A19 hx (hb hby own_d2_86) rfl (pc' := 88) rfl ?_
              refine k_iinc A19 hx (hb hby own_d2_88) rfl (Ls' := #[.val (.ref a), .val (.ref b), .val (.ref b2), .val (.int n), .val (.int i), .val (.int (j + (1 : Int32))), s6]) rfl (pc' := 91) rfl ?_
              refine k_iaload S19 hx hZ Wb (hb hby own_d2_91) (by omega) (by omega) rfl (pc' := 92) rfl ?_
              refine k_istore A19 hx (hb hby own_d2_92) (Ls' := #[.val (.ref a), .val (.ref b), .val (.ref b2), .val (.int n), .val (.int i), .val (.int (j + (1 : Int32))), .val (.int (ys.getD j.toInt.toNat 0))]) (store1 rfl hs6 rfl) (pc' := 94) rfl ?_
              refine k_goto A19 hx (hb hby own_d2_94) (pc' := 109) (by decide) ?_
              exact J109_12 T19 i (j + (1 : Int32)) (ys.getD j.toInt.toNat 0) (S19.more (by decide) (by decide)) (by rw [own_inc1 (d := j) (by omega) (by omega)]; exact own_MY hM hX.2 hY.2 (pn := n.toInt.toNat) (pi := i.toInt.toNat) (pj := j.toInt.toNat) (by omega) (by omega) (by omega) hjl (Or.inr ⟨hil, hc82⟩)) (by rw [own_inc1 (d := j) (by omega) (by omega)]; omega)
        refine k_icmp_eq A11 hx (hb hby own_d2_34) (pcY := 55) (by decide) (pc' := 37) rfl (fun hc34 => ?_) (fun hc34 => ?_)
        · have hje : j.toInt = ys.length := by rw [hc34]; exact hly
          have hil : i.toInt < xs.length := by omega
          refine k_aloadN A11 hx (hb hby own_d2_55) rfl rfl (pc' := 56) rfl ?_
          refine k_iload A11 hx (hb hby own_d2_56) rfl (pc' := 58) rfl ?_
          refine k_iinc A11 hx (hb hby own_d2_58) rfl (Ls' := #[.val (.ref a), .val (.ref b), .val (.ref b2), .val (.int n), .val (.int (i + (1 : Int32))), .val (.int j), s6]) rfl (pc' := 61) rfl ?_
          refine k_iaload S11 hx hZ Wa (hb hby own_d2_61) (by omega) (by omega) rfl (pc' := 62) rfl ?_
          refine k_istore A11 hx (hb hby own_d2_62) (Ls' := #[.val (.ref a), .val (.ref b), .val (.ref b2), .val (.int n), .val (.int (i + (1 : Int32))), .val (.int j), .val (.int (xs.getD i.toInt.toNat 0))]) (store1 rfl hs6 rfl) (pc' := 64) rfl ?_
          refine k_goto A11 hx (hb hby own_d2_64) (pc' := 109) (by decide) ?_
          exact J109_12 T11 (i + (1 : Int32)) j (xs.getD i.toInt.toNat 0) (S11.more (by decide) (by decide)) (by rw [own_inc1 (d := i) (by omega) (by omega)]; exact own_MX hM hX.2 hY.2 (pn := n.toInt.toNat) (pi := i.toInt.toNat) (pj := j.toInt.toNat) (by omega) (by omega) (by omega) hil (Or.inl hje)) (by rw [own_inc1 (d := i) (by omega) (by omega)]; omega)
        · have hjl : j.toInt < ys.length := by
            have q : ¬ j.toInt = ys.length := by rw [← Int32.toInt_inj, hly] at hc34; exact hc34
            omega
          refine k_iload A11 hx (hb hby own_d2_37) rfl (pc' := 39) rfl ?_
          refine k_aloadN A11 hx (hb hby own_d2_39) rfl rfl (pc' := 40) rfl ?_
          refine k_arraylength S11 hx hZ Wa (hb hby own_d2_40) (z := (xs.length.toInt32)) (by rw [List.length_map]) (pc' := 41) rfl ?_
          refine k_icmp_ge A11 hx (hb hby own_d2_41) (pcY := 67) (by decide) (pc' := 44) rfl (fun hc41 => ?_) (fun hc41 => ?_)
          · have hie : i.toInt = xs.length := by
              have q : ¬ i.toInt < xs.length := by simpa only [Int32.lt_iff_toInt_lt, hlx] using hc41
              omega
            exact J67_19 T11  (S11.more (by decide) (by decide)) hjl (Or.inl hie)
          · have hil : i.toInt < xs.length := by simpa only [Int32.lt_iff_toInt_lt, hlx] using hc41
            refine k_aloadN A11 hx (hb hby own_d2_44) rfl rfl (pc' := 45) rfl ?_
            refine k_iload A11 hx (hb hby own_d2_45) rfl (pc' := 47) rfl ?_
            refine k_iaload S11 hx hZ Wa (hb hby own_d2_47) (by omega) (by omega) rfl (pc' := 48) rfl ?_
            refine k_aloadN A11 hx (hb hby own_d2_48) rfl rfl (pc' := 49) rfl ?_
            refine k_iload A11 hx (hb hby own_d2_49) rfl (pc' := 51) rfl ?_
            refine k_iaload S11 hx hZ Wb (hb hby own_d2_51) (by omega) (by omega) rfl (pc' := 52) rfl ?_
            refine k_icmp_ge A11 hx (hb hby own_d2_52) (pcY := 67) (by decide) (pc' := 55) rfl (fun hc52 => ?_) (fun hc52 => ?_)
            · exact J67_19 T11  (S11.more (by decide) (by decide)) hjl (Or.inr ⟨hil, hc52⟩)
            · refine k_aloadN A11 hx (hb hby own_d2_55) rfl rfl (pc' := 56) rfl ?_
              refine k_iload A11 hx (hb hby own_d2_56) rfl (pc' := 58) rfl ?_
              refine k_iinc A11 hx (hb hby own_d2_58) rfl (Ls' := #[.val (.ref a), .val (.ref b), .val (.ref b2), .val (.int n), .val (.int (i + (1 : Int32))), .val (.int j), s6]) rfl (pc' := 61) rfl ?_
              refine k_iaload S11 hx hZ Wa (hb hby own_d2_61) (by omega) (by omega) rfl (pc' := 62) rfl ?_
              refine k_istore A11 hx (hb hby own_d2_62) (Ls' := #[.val (.ref a), .val (.ref b), .val (.ref b2), .val (.int n), .val (.int (i + (1 : Int32))), .val (.int j), .val (.int (xs.getD i.toInt.toNat 0))]) (store1 rfl hs6 rfl) (pc' := 64) rfl ?_
              refine k_goto A11 hx (hb hby own_d2_64) (pc' := 109) (by decide) ?_
              exact J109_12 T11 (i + (1 : Int32)) j (xs.getD i.toInt.toNat 0) (S11.more (by decide) (by decide)) (by rw [own_inc1 (d := i) (by omega) (by omega)]; exact own_MX hM hX.2 hY.2 (pn := n.toInt.toNat) (pi := i.toInt.toNat) (pj := j.toInt.toNat) (by omega) (by omega) (by omega) hil (Or.inr ⟨hjl, hc52⟩)) (by rw [own_inc1 (d := i) (by omega) (by omega)]; omega)
      refine k_icmp_lt A10 hx (hb hby own_d2_20) (pcY := 30) (by decide) (pc' := 23) rfl (fun hc20 => ?_) (fun hc20 => ?_)
      · exact J30_11 T10  (S10.more (by decide) (by decide)) (Or.inl (by simpa only [Int32.lt_iff_toInt_lt, hlx] using hc20))
      · refine k_iload A10 hx (hb hby own_d2_23) rfl (pc' := 25) rfl ?_
        refine k_aloadN A10 hx (hb hby own_d2_25) rfl rfl (pc' := 26) rfl ?_
        refine k_arraylength S10 hx hZ Wb (hb hby own_d2_26) (z := (ys.length.toInt32)) (by rw [List.length_map]) (pc' := 27) rfl ?_
        refine k_icmp_ge A10 hx (hb hby own_d2_27) (pcY := 120) (by decide) (pc' := 30) rfl (fun hc27 => ?_) (fun hc27 => ?_)
        · have hie : i.toInt = xs.length := by
            have q : ¬ i.toInt < xs.length := by simpa only [Int32.lt_iff_toInt_lt, hlx] using hc20
            omega
          have hje : j.toInt = ys.length := by
            have q : ¬ j.toInt < ys.length := by simpa only [Int32.lt_iff_toInt_lt, hly] using hc27
            omega
          have hU := own_Mend hM (pn := n.toInt.toNat) (by omega) hie hje
          have hcs := own_len32 Wr.len
          refine k_aloadN A10 hx (hb hby own_d2_120) rfl rfl (pc' := 121) rfl ?_
          refine k_iloadN A10 hx (hb hby own_d2_121) rfl (pc' := 122) rfl ?_
          by_cases hce : n = cs.length.toInt32
          · refine k_call_static S10 hx hZ hown (hw _ (List.mem_of_getElem? (i := 9) rfl)) (hw _ (List.mem_of_getElem? (i := 10) rfl)) (hw _ (List.mem_of_getElem? (i := 11) rfl)) (hw _ (List.mem_of_getElem? (i := 12) rfl)) (by decide) (own_copyEq l Z a0 hw b2 n h10 n0 cs (Nat.le_trans Z0 KL.1) Wr Wx (by omega) hce) 0 (argsL := [(.ref b2), (.int n)]) (rest := []) (by decide) (by decide) (by rw [hml]; rfl) (lenOf own_pd1 rfl) rfl rfl (Nat.le_refl 0) (hb hby own_d2_122) (pc' := 125) rfl (by decide) (by decide) ?_
            rintro v20 T20 h20 ⟨b20, rfl, g20, K20, V20⟩ S20
            have K21 := KL.trans K20 all0
            have W20 : IV Z h20 b20 (cs.take n.toInt.toNat) := by rw [List.take_of_length_le (by rw [hce, hcs]; omega)]; exact V20
            have A20 := S20.here
            show Done p e below _ (T20.setTop (mkF m 125 #[.val (.ref a), .val (.ref b), .val (.ref b2), .val (.int n), .val (.int i), .val (.int j), s6] [(.ref b20)]))
            refine k_ret_ref S20 hx hret rfl hlk (hb hby own_d2_125) (by decide) (by decide) ?_
            exact ⟨_, _, rfl, K21, W20, hU⟩
          · refine k_call_static S10 hx hZ hown (hw _ (List.mem_of_getElem? (i := 9) rfl)) (hw _ (List.mem_of_getElem? (i := 10) rfl)) (hw _ (List.mem_of_getElem? (i := 11) rfl)) (hw _ (List.mem_of_getElem? (i := 12) rfl)) (by decide) (own_copyOf l Z a0 hw b2 n h10 n0 cs (Nat.le_trans Z0 KL.1) Wr ⟨by omega, by omega⟩ hce) 0 (argsL := [(.ref b2), (.int n)]) (rest := []) (by decide) (by decide) (by rw [hml]; rfl) (lenOf own_pd1 rfl) rfl rfl (Nat.le_refl 0) (hb hby own_d2_122) (pc' := 125) rfl (by decide) (by decide) ?_
            rintro v22 T22 h22 ⟨b22, rfl, g22, K22, V22⟩ S22
            have K23 := KL.trans K22 all0
            have W22 : IV Z h22 b22 (cs.take n.toInt.toNat) := by rw [← own_copy_take Wr.len (by omega) (by omega)]; exact V22
            have A22 := S22.here
            show Done p e below _ (T22.setTop (mkF m 125 #[.val (.ref a), .val (.ref b), .val (.ref b2), .val (.int n), .val (.int i), .val (.int j), s6] [(.ref b22)]))
            refine k_ret_ref S22 hx hret rfl hlk (hb hby own_d2_125) (by decide) (by decide) ?_
            exact ⟨_, _, rfl, K23, W22, hU⟩
        · exact J30_11 T10  (S10.more (by decide) (by decide)) (Or.inr (by simpa only [Int32.lt_iff_toInt_lt, hly] using hc27))
  exact L16_10 5 T2 h2 (0 : Int32) (0 : Int32) (0 : Int32) .unset (List.replicate (xs.length + ys.length) 0) (S2.more (by decide) (by decide)) (by show (xs.length : Int) + ys.length - 0 - 0 < 5; omega) f6 f7 V9 EX2 K8 (own_M0 xs ys) One.u
theorem own_d9_0 : decode method_3_code 0 = .ok (.aload_n 0, 1) := by decide +kernel
theorem own_d9_1 : decode method_3_code 1 = .ok (.arraylength, 1) := by decide +kernel
theorem own_d9_2 : decode method_3_code 2 = .ok (.ifCond .le 10, 3) := by decide +kernel
theorem own_d9_5 : decode method_3_code 5 = .ok (.aload_n 0, 1) := by decide +kernel
theorem own_d9_6 : decode method_3_code 6 = .ok (.iconst 0, 1) := by decide +kernel
theorem own_d9_7 : decode method_3_code 7 = .ok (.iaload, 1) := by decide +kernel
theorem own_d9_8 : decode method_3_code 8 = .ok (.iload_n 1, 1) := by decide +kernel
theorem own_d9_9 : decode method_3_code 9 = .ok (.if_icmp .eq 42, 3) := by decide +kernel
theorem own_d9_12 : decode method_3_code 12 = .ok (.aload_n 0, 1) := by decide +kernel
theorem own_d9_13 : decode method_3_code 13 = .ok (.arraylength, 1) := by decide +kernel
theorem own_d9_14 : decode method_3_code 14 = .ok (.iconst 1, 1) := by decide +kernel
theorem own_d9_15 : decode method_3_code 15 = .ok (.if_icmp .le 10, 3) := by decide +kernel
theorem own_d9_18 : decode method_3_code 18 = .ok (.aload_n 0, 1) := by decide +kernel
theorem own_d9_19 : decode method_3_code 19 = .ok (.iconst 1, 1) := by decide +kernel
theorem own_d9_20 : decode method_3_code 20 = .ok (.iaload, 1) := by decide +kernel
theorem own_d9_21 : decode method_3_code 21 = .ok (.iload_n 1, 1) := by decide +kernel
theorem own_d9_22 : decode method_3_code 22 = .ok (.if_icmp .eq 29, 3) := by decide +kernel
theorem own_d9_25 : decode method_3_code 25 = .ok (.aload_n 0, 1) := by decide +kernel
theorem own_d9_26 : decode method_3_code 26 = .ok (.arraylength, 1) := by decide +kernel
theorem own_d9_27 : decode method_3_code 27 = .ok (.iconst 2, 1) := by decide +kernel
theorem own_d9_28 : decode method_3_code 28 = .ok (.if_icmp .le 10, 3) := by decide +kernel
theorem own_d9_31 : decode method_3_code 31 = .ok (.aload_n 0, 1) := by decide +kernel
theorem own_d9_32 : decode method_3_code 32 = .ok (.iconst 2, 1) := by decide +kernel
theorem own_d9_33 : decode method_3_code 33 = .ok (.iaload, 1) := by decide +kernel
theorem own_d9_34 : decode method_3_code 34 = .ok (.iload_n 1, 1) := by decide +kernel
theorem own_d9_35 : decode method_3_code 35 = .ok (.if_icmp .eq 16, 3) := by decide +kernel
theorem own_d9_38 : decode method_3_code 38 = .ok (.aload_n 0, 1) := by decide +kernel
theorem own_d9_39 : decode method_3_code 39 = .ok (.arraylength, 1) := by decide +kernel
theorem own_d9_40 : decode method_3_code 40 = .ok (.iconst 3, 1) := by decide +kernel
theorem own_d9_41 : decode method_3_code 41 = .ok (.if_icmp .le 14, 3) := by decide +kernel
theorem own_d9_44 : decode method_3_code 44 = .ok (.aload_n 0, 1) := by decide +kernel
theorem own_d9_45 : decode method_3_code 45 = .ok (.iconst 3, 1) := by decide +kernel
theorem own_d9_46 : decode method_3_code 46 = .ok (.iaload, 1) := by decide +kernel
theorem own_d9_47 : decode method_3_code 47 = .ok (.iload_n 1, 1) := by decide +kernel
theorem own_d9_48 : decode method_3_code 48 = .ok (.if_icmp .ne 7, 3) := by decide +kernel
theorem own_d9_51 : decode method_3_code 51 = .ok (.iconst 1, 1) := by decide +kernel
theorem own_d9_52 : decode method_3_code 52 = .ok (.goto 4, 3) := by decide +kernel
theorem own_d9_55 : decode method_3_code 55 = .ok (.iconst 0, 1) := by decide +kernel
theorem own_d9_56 : decode method_3_code 56 = .ok (.ireturn, 1) := by decide +kernel
theorem own_pn9 : plainName "com/example/vestigium/vestigium/semantics/SortedSetsUnionPinLaw" = true := by first | (simp [plainName, overriddenIn]; done) | decide +kernel
set_option maxRecDepth 65536 in
set_option maxHeartbeats 40000000 in
theorem own_chas (l : Launch) (Z : State) (a0 : Array Value) (hw : ∀ d ∈ tables_1, d.before a0 Z = true) (a : Addr) (t : Int32) (h0 : Heap) (n0 : Nat) (zs : List Int32) (Va : IV Z h0 a zs) (hl : zs.length ≤ 4) :
    Con l Z (⟨"com/example/vestigium/vestigium/semantics/SortedSetsUnionPinLaw", "has", "([II)Z"⟩ : MethodName) method_3_code 2 (some .boolean) ({ frames := 0, cells := 0, slots := 0, locals := 0 } : Room) n0 h0 #[(.ref a), (.int t)] (fun v h => ((v = some (.int 1) ∧ own_in t zs) ∨ (v = some (.int 0) ∧ ¬ own_in t zs)) ∧ h = h0) := by
  refine Con.intro (plainFor_of_name own_pn9) (Ls := #[.val (.ref a), .val (.int t)]) (fun m => by first | (simp [entryFrame, mkF, argsToLocals, Value.category]; done) | rfl) ?_
  intro p e s m below meth c s₁ hx hby hml hown hnm hret hlk hZ S0
  have A0 := S0.here
  have hz := own_len32 Va.len
  refine k_aloadN A0 hx (hb hby own_d9_0) rfl rfl (pc' := 1) rfl ?_
  refine k_arraylength S0 hx hZ Va (hb hby own_d9_1) (z := (zs.length.toInt32)) (by rw [List.length_map]) (pc' := 2) rfl ?_
  refine k_if_le A0 hx (hb hby own_d9_2) (pcY := 12) (by decide) (pc' := 5) rfl (fun hc2 => ?_) (fun hc2 => ?_)
  · refine k_aloadN A0 hx (hb hby own_d9_12) rfl rfl (pc' := 13) rfl ?_
    refine k_arraylength S0 hx hZ Va (hb hby own_d9_13) (z := (zs.length.toInt32)) (by rw [List.length_map]) (pc' := 14) rfl ?_
    refine k_iconst A0 hx (hb hby own_d9_14) (v := 1) rfl (pc' := 15) rfl ?_
    refine k_icmp_le A0 hx (hb hby own_d9_15) (pcY := 25) (by decide) (pc' := 18) rfl (fun hc15 => ?_) (fun hc15 => ?_)
    · refine k_aloadN A0 hx (hb hby own_d9_25) rfl rfl (pc' := 26) rfl ?_
      refine k_arraylength S0 hx hZ Va (hb hby own_d9_26) (z := (zs.length.toInt32)) (by rw [List.length_map]) (pc' := 27) rfl ?_
      refine k_iconst A0 hx (hb hby own_d9_27) (v := 2) rfl (pc' := 28) rfl ?_
      refine k_icmp_le A0 hx (hb hby own_d9_28) (pcY := 38) (by decide) (pc' := 31) rfl (fun hc28 => ?_) (fun hc28 => ?_)
      · refine k_aloadN A0 hx (hb hby own_d9_38) rfl rfl (pc' := 39) rfl ?_
        refine k_arraylength S0 hx hZ Va (hb hby own_d9_39) (z := (zs.length.toInt32)) (by rw [List.length_map]) (pc' := 40) rfl ?_
        refine k_iconst A0 hx (hb hby own_d9_40) (v := 3) rfl (pc' := 41) rfl ?_
        refine k_icmp_le A0 hx (hb hby own_d9_41) (pcY := 55) (by decide) (pc' := 44) rfl (fun hc41 => ?_) (fun hc41 => ?_)
        · refine k_iconst A0 hx (hb hby own_d9_55) (v := 0) rfl (pc' := 56) rfl ?_
          refine k_ret_nar S0 hx (t := .boolean) hret (by simp) hlk (hb hby own_d9_56) (z' := (0 : Int32)) rfl (by decide) (by decide) ?_
          exact ⟨Or.inr ⟨rfl, own_in0 hl (Or.inl (by simp only [Int32.lt_iff_toInt_lt, Int32.reduceToInt] at hc2 ⊢; omega)) (Or.inl (by simp only [Int32.lt_iff_toInt_lt, Int32.reduceToInt] at hc15 ⊢; omega)) (Or.inl (by simp only [Int32.lt_iff_toInt_lt, Int32.reduceToInt] at hc28 ⊢; omega)) (Or.inl (by simp only [Int32.lt_iff_toInt_lt, Int32.reduceToInt] at hc41 ⊢; omega))⟩, rfl⟩
        · refine k_aloadN A0 hx (hb hby own_d9_44) rfl rfl (pc' := 45) rfl ?_
          refine k_iconst A0 hx (hb hby own_d9_45) (v := 3) rfl (pc' := 46) rfl ?_
          refine k_iaload S0 hx hZ Va (hb hby own_d9_46) (by decide) (by simp only [Int32.lt_iff_toInt_lt, Int32.reduceToInt] at hc41 ⊢; omega) rfl (pc' := 47) rfl ?_
          refine k_iloadN A0 hx (hb hby own_d9_47) rfl (pc' := 48) rfl ?_
          refine k_icmp_ne A0 hx (hb hby own_d9_48) (pcY := 55) (by decide) (pc' := 51) rfl (fun hc48 => ?_) (fun hc48 => ?_)
          · refine k_iconst A0 hx (hb hby own_d9_55) (v := 0) rfl (pc' := 56) rfl ?_
            refine k_ret_nar S0 hx (t := .boolean) hret (by simp) hlk (hb hby own_d9_56) (z' := (0 : Int32)) rfl (by decide) (by decide) ?_
            exact ⟨Or.inr ⟨rfl, own_in0 hl (Or.inl (by simp only [Int32.lt_iff_toInt_lt, Int32.reduceToInt] at hc2 ⊢; omega)) (Or.inl (by simp only [Int32.lt_iff_toInt_lt, Int32.reduceToInt] at hc15 ⊢; omega)) (Or.inl (by simp only [Int32.lt_iff_toInt_lt, Int32.reduceToInt] at hc28 ⊢; omega)) (Or.inr hc48)⟩, rfl⟩
          · refine k_iconst A0 hx (hb hby own_d9_51) (v := 1) rfl (pc' := 52) rfl ?_
            refine k_goto A0 hx (hb hby own_d9_52) (pc' := 56) (by decide) ?_
            refine k_ret_nar S0 hx (t := .boolean) hret (by simp) hlk (hb hby own_d9_56) (z' := (1 : Int32)) rfl (by decide) (by decide) ?_
            exact ⟨Or.inl ⟨rfl, 3, by simp only [Int32.lt_iff_toInt_lt, Int32.reduceToInt] at hc41 ⊢; omega, hc48⟩, rfl⟩
      · refine k_aloadN A0 hx (hb hby own_d9_31) rfl rfl (pc' := 32) rfl ?_
        refine k_iconst A0 hx (hb hby own_d9_32) (v := 2) rfl (pc' := 33) rfl ?_
        refine k_iaload S0 hx hZ Va (hb hby own_d9_33) (by decide) (by simp only [Int32.lt_iff_toInt_lt, Int32.reduceToInt] at hc28 ⊢; omega) rfl (pc' := 34) rfl ?_
        refine k_iloadN A0 hx (hb hby own_d9_34) rfl (pc' := 35) rfl ?_
        refine k_icmp_eq A0 hx (hb hby own_d9_35) (pcY := 51) (by decide) (pc' := 38) rfl (fun hc35 => ?_) (fun hc35 => ?_)
        · refine k_iconst A0 hx (hb hby own_d9_51) (v := 1) rfl (pc' := 52) rfl ?_
          refine k_goto A0 hx (hb hby own_d9_52) (pc' := 56) (by decide) ?_
          refine k_ret_nar S0 hx (t := .boolean) hret (by simp) hlk (hb hby own_d9_56) (z' := (1 : Int32)) rfl (by decide) (by decide) ?_
          exact ⟨Or.inl ⟨rfl, 2, by simp only [Int32.lt_iff_toInt_lt, Int32.reduceToInt] at hc28 ⊢; omega, hc35⟩, rfl⟩
        · refine k_aloadN A0 hx (hb hby own_d9_38) rfl rfl (pc' := 39) rfl ?_
          refine k_arraylength S0 hx hZ Va (hb hby own_d9_39) (z := (zs.length.toInt32)) (by rw [List.length_map]) (pc' := 40) rfl ?_
          refine k_iconst A0 hx (hb hby own_d9_40) (v := 3) rfl (pc' := 41) rfl ?_
          refine k_icmp_le A0 hx (hb hby own_d9_41) (pcY := 55) (by decide) (pc' := 44) rfl (fun hc41 => ?_) (fun hc41 => ?_)
          · refine k_iconst A0 hx (hb hby own_d9_55) (v := 0) rfl (pc' := 56) rfl ?_
            refine k_ret_nar S0 hx (t := .boolean) hret (by simp) hlk (hb hby own_d9_56) (z' := (0 : Int32)) rfl (by decide) (by decide) ?_
            exact ⟨Or.inr ⟨rfl, own_in0 hl (Or.inl (by simp only [Int32.lt_iff_toInt_lt, Int32.reduceToInt] at hc2 ⊢; omega)) (Or.inl (by simp only [Int32.lt_iff_toInt_lt, Int32.reduceToInt] at hc15 ⊢; omega)) (Or.inr hc35) (Or.inl (by simp only [Int32.lt_iff_toInt_lt, Int32.reduceToInt] at hc41 ⊢; omega))⟩, rfl⟩
          · refine k_aloadN A0 hx (hb hby own_d9_44) rfl rfl (pc' := 45) rfl ?_
            refine k_iconst A0 hx (hb hby own_d9_45) (v := 3) rfl (pc' := 46) rfl ?_
            refine k_iaload S0 hx hZ Va (hb hby own_d9_46) (by decide) (by simp only [Int32.lt_iff_toInt_lt, Int32.reduceToInt] at hc41 ⊢; omega) rfl (pc' := 47) rfl ?_
            refine k_iloadN A0 hx (hb hby own_d9_47) rfl (pc' := 48) rfl ?_
            refine k_icmp_ne A0 hx (hb hby own_d9_48) (pcY := 55) (by decide) (pc' := 51) rfl (fun hc48 => ?_) (fun hc48 => ?_)
            · refine k_iconst A0 hx (hb hby own_d9_55) (v := 0) rfl (pc' := 56) rfl ?_
              refine k_ret_nar S0 hx (t := .boolean) hret (by simp) hlk (hb hby own_d9_56) (z' := (0 : Int32)) rfl (by decide) (by decide) ?_
              exact ⟨Or.inr ⟨rfl, own_in0 hl (Or.inl (by simp only [Int32.lt_iff_toInt_lt, Int32.reduceToInt] at hc2 ⊢; omega)) (Or.inl (by simp only [Int32.lt_iff_toInt_lt, Int32.reduceToInt] at hc15 ⊢; omega)) (Or.inr hc35) (Or.inr hc48)⟩, rfl⟩
            · refine k_iconst A0 hx (hb hby own_d9_51) (v := 1) rfl (pc' := 52) rfl ?_
              refine k_goto A0 hx (hb hby own_d9_52) (pc' := 56) (by decide) ?_
              refine k_ret_nar S0 hx (t := .boolean) hret (by simp) hlk (hb hby own_d9_56) (z' := (1 : Int32)) rfl (by decide) (by decide) ?_
              exact ⟨Or.inl ⟨rfl, 3, by simp only [Int32.lt_iff_toInt_lt, Int32.reduceToInt] at hc41 ⊢; omega, hc48⟩, rfl⟩
    · refine k_aloadN A0 hx (hb hby own_d9_18) rfl rfl (pc' := 19) rfl ?_
      refine k_iconst A0 hx (hb hby own_d9_19) (v := 1) rfl (pc' := 20) rfl ?_
      refine k_iaload S0 hx hZ Va (hb hby own_d9_20) (by decide) (by simp only [Int32.lt_iff_toInt_lt, Int32.reduceToInt] at hc15 ⊢; omega) rfl (pc' := 21) rfl ?_
      refine k_iloadN A0 hx (hb hby own_d9_21) rfl (pc' := 22) rfl ?_
      refine k_icmp_eq A0 hx (hb hby own_d9_22) (pcY := 51) (by decide) (pc' := 25) rfl (fun hc22 => ?_) (fun hc22 => ?_)
      · refine k_iconst A0 hx (hb hby own_d9_51) (v := 1) rfl (pc' := 52) rfl ?_
        refine k_goto A0 hx (hb hby own_d9_52) (pc' := 56) (by decide) ?_
        refine k_ret_nar S0 hx (t := .boolean) hret (by simp) hlk (hb hby own_d9_56) (z' := (1 : Int32)) rfl (by decide) (by decide) ?_
        exact ⟨Or.inl ⟨rfl, 1, by simp only [Int32.lt_iff_toInt_lt, Int32.reduceToInt] at hc15 ⊢; omega, hc22⟩, rfl⟩
      · refine k_aloadN A0 hx (hb hby own_d9_25) rfl rfl (pc' := 26) rfl ?_
        refine k_arraylength S0 hx hZ Va (hb hby own_d9_26) (z := (zs.length.toInt32)) (by rw [List.length_map]) (pc' := 27) rfl ?_
        refine k_iconst A0 hx (hb hby own_d9_27) (v := 2) rfl (pc' := 28) rfl ?_
        refine k_icmp_le A0 hx (hb hby own_d9_28) (pcY := 38) (by decide) (pc' := 31) rfl (fun hc28 => ?_) (fun hc28 => ?_)
        · refine k_aloadN A0 hx (hb hby own_d9_38) rfl rfl (pc' := 39) rfl ?_
          refine k_arraylength S0 hx hZ Va (hb hby own_d9_39) (z := (zs.length.toInt32)) (by rw [List.length_map]) (pc' := 40) rfl ?_
          refine k_iconst A0 hx (hb hby own_d9_40) (v := 3) rfl (pc' := 41) rfl ?_
          refine k_icmp_le A0 hx (hb hby own_d9_41) (pcY := 55) (by decide) (pc' := 44) rfl (fun hc41 => ?_) (fun hc41 => ?_)
          · refine k_iconst A0 hx (hb hby own_d9_55) (v := 0) rfl (pc' := 56) rfl ?_
            refine k_ret_nar S0 hx (t := .boolean) hret (by simp) hlk (hb hby own_d9_56) (z' := (0 : Int32)) rfl (by decide) (by decide) ?_
            exact ⟨Or.inr ⟨rfl, own_in0 hl (Or.inl (by simp only [Int32.lt_iff_toInt_lt, Int32.reduceToInt] at hc2 ⊢; omega)) (Or.inr hc22) (Or.inl (by simp only [Int32.lt_iff_toInt_lt, Int32.reduceToInt] at hc28 ⊢; omega)) (Or.inl (by simp only [Int32.lt_iff_toInt_lt, Int32.reduceToInt] at hc41 ⊢; omega))⟩, rfl⟩
          · refine k_aloadN A0 hx (hb hby own_d9_44) rfl rfl (pc' := 45) rfl ?_
            refine k_iconst A0 hx (hb hby own_d9_45) (v := 3) rfl (pc' := 46) rfl ?_
            refine k_iaload S0 hx hZ Va (hb hby own_d9_46) (by decide) (by simp only [Int32.lt_iff_toInt_lt, Int32.reduceToInt] at hc41 ⊢; omega) rfl (pc' := 47) rfl ?_
            refine k_iloadN A0 hx (hb hby own_d9_47) rfl (pc' := 48) rfl ?_
            refine k_icmp_ne A0 hx (hb hby own_d9_48) (pcY := 55) (by decide) (pc' := 51) rfl (fun hc48 => ?_) (fun hc48 => ?_)
            · refine k_iconst A0 hx (hb hby own_d9_55) (v := 0) rfl (pc' := 56) rfl ?_
              refine k_ret_nar S0 hx (t := .boolean) hret (by simp) hlk (hb hby own_d9_56) (z' := (0 : Int32)) rfl (by decide) (by decide) ?_
              exact ⟨Or.inr ⟨rfl, own_in0 hl (Or.inl (by simp only [Int32.lt_iff_toInt_lt, Int32.reduceToInt] at hc2 ⊢; omega)) (Or.inr hc22) (Or.inl (by simp only [Int32.lt_iff_toInt_lt, Int32.reduceToInt] at hc28 ⊢; omega)) (Or.inr hc48)⟩, rfl⟩
            · refine k_iconst A0 hx (hb hby own_d9_51) (v := 1) rfl (pc' := 52) rfl ?_
              refine k_goto A0 hx (hb hby own_d9_52) (pc' := 56) (by decide) ?_
              refine k_ret_nar S0 hx (t := .boolean) hret (by simp) hlk (hb hby own_d9_56) (z' := (1 : Int32)) rfl (by decide) (by decide) ?_
              exact ⟨Or.inl ⟨rfl, 3, by simp only [Int32.lt_iff_toInt_lt, Int32.reduceToInt] at hc41 ⊢; omega, hc48⟩, rfl⟩
        · refine k_aloadN A0 hx (hb hby own_d9_31) rfl rfl (pc' := 32) rfl ?_
          refine k_iconst A0 hx (hb hby own_d9_32) (v := 2) rfl (pc' := 33) rfl ?_
          refine k_iaload S0 hx hZ Va (hb hby own_d9_33) (by decide) (by simp only [Int32.lt_iff_toInt_lt, Int32.reduceToInt] at hc28 ⊢; omega) rfl (pc' := 34) rfl ?_
          refine k_iloadN A0 hx (hb hby own_d9_34) rfl (pc' := 35) rfl ?_
          refine k_icmp_eq A0 hx (hb hby own_d9_35) (pcY := 51) (by decide) (pc' := 38) rfl (fun hc35 => ?_) (fun hc35 => ?_)
          · refine k_iconst A0 hx (hb hby own_d9_51) (v := 1) rfl (pc' := 52) rfl ?_
            refine k_goto A0 hx (hb hby own_d9_52) (pc' := 56) (by decide) ?_
            refine k_ret_nar S0 hx (t := .boolean) hret (by simp) hlk (hb hby own_d9_56) (z' := (1 : Int32)) rfl (by decide) (by decide) ?_
            exact ⟨Or.inl ⟨rfl, 2, by simp only [Int32.lt_iff_toInt_lt, Int32.reduceToInt] at hc28 ⊢; omega, hc35⟩, rfl⟩
          · refine k_aloadN A0 hx (hb hby own_d9_38) rfl rfl (pc' := 39) rfl ?_
            refine k_arraylength S0 hx hZ Va (hb hby own_d9_39) (z := (zs.length.toInt32)) (by rw [List.length_map]) (pc' := 40) rfl ?_
            refine k_iconst A0 hx (hb hby own_d9_40) (v := 3) rfl (pc' := 41) rfl ?_
            refine k_icmp_le A0 hx (hb hby own_d9_41) (pcY := 55) (by decide) (pc' := 44) rfl (fun hc41 => ?_) (fun hc41 => ?_)
            · refine k_iconst A0 hx (hb hby own_d9_55) (v := 0) rfl (pc' := 56) rfl ?_
              refine k_ret_nar S0 hx (t := .boolean) hret (by simp) hlk (hb hby own_d9_56) (z' := (0 : Int32)) rfl (by decide) (by decide) ?_
              exact ⟨Or.inr ⟨rfl, own_in0 hl (Or.inl (by simp only [Int32.lt_iff_toInt_lt, Int32.reduceToInt] at hc2 ⊢; omega)) (Or.inr hc22) (Or.inr hc35) (Or.inl (by simp only [Int32.lt_iff_toInt_lt, Int32.reduceToInt] at hc41 ⊢; omega))⟩, rfl⟩
            · refine k_aloadN A0 hx (hb hby own_d9_44) rfl rfl (pc' := 45) rfl ?_
              refine k_iconst A0 hx (hb hby own_d9_45) (v := 3) rfl (pc' := 46) rfl ?_
              refine k_iaload S0 hx hZ Va (hb hby own_d9_46) (by decide) (by simp only [Int32.lt_iff_toInt_lt, Int32.reduceToInt] at hc41 ⊢; omega) rfl (pc' := 47) rfl ?_
              refine k_iloadN A0 hx (hb hby own_d9_47) rfl (pc' := 48) rfl ?_
              refine k_icmp_ne A0 hx (hb hby own_d9_48) (pcY := 55) (by decide) (pc' := 51) rfl (fun hc48 => ?_) (fun hc48 => ?_)
              · refine k_iconst A0 hx (hb hby own_d9_55) (v := 0) rfl (pc' := 56) rfl ?_
                refine k_ret_nar S0 hx (t := .boolean) hret (by simp) hlk (hb hby own_d9_56) (z' := (0 : Int32)) rfl (by decide) (by decide) ?_
                exact ⟨Or.inr ⟨rfl, own_in0 hl (Or.inl (by simp only [Int32.lt_iff_toInt_lt, Int32.reduceToInt] at hc2 ⊢; omega)) (Or.inr hc22) (Or.inr hc35) (Or.inr hc48)⟩, rfl⟩
              · refine k_iconst A0 hx (hb hby own_d9_51) (v := 1) rfl (pc' := 52) rfl ?_
                refine k_goto A0 hx (hb hby own_d9_52) (pc' := 56) (by decide) ?_
                refine k_ret_nar S0 hx (t := .boolean) hret (by simp) hlk (hb hby own_d9_56) (z' := (1 : Int32)) rfl (by decide) (by decide) ?_
                exact ⟨Or.inl ⟨rfl, 3, by simp only [Int32.lt_iff_toInt_lt, Int32.reduceToInt] at hc41 ⊢; omega, hc48⟩, rfl⟩
  · refine k_aloadN A0 hx (hb hby own_d9_5) rfl rfl (pc' := 6) rfl ?_
    refine k_iconst A0 hx (hb hby own_d9_6) (v := 0) rfl (pc' := 7) rfl ?_
    refine k_iaload S0 hx hZ Va (hb hby own_d9_7) (by decide) (by simp only [Int32.lt_iff_toInt_lt, Int32.reduceToInt] at hc2 ⊢; omega) rfl (pc' := 8) rfl ?_
    refine k_iloadN A0 hx (hb hby own_d9_8) rfl (pc' := 9) rfl ?_
    refine k_icmp_eq A0 hx (hb hby own_d9_9) (pcY := 51) (by decide) (pc' := 12) rfl (fun hc9 => ?_) (fun hc9 => ?_)
    · refine k_iconst A0 hx (hb hby own_d9_51) (v := 1) rfl (pc' := 52) rfl ?_
      refine k_goto A0 hx (hb hby own_d9_52) (pc' := 56) (by decide) ?_
      refine k_ret_nar S0 hx (t := .boolean) hret (by simp) hlk (hb hby own_d9_56) (z' := (1 : Int32)) rfl (by decide) (by decide) ?_
      exact ⟨Or.inl ⟨rfl, 0, by simp only [Int32.lt_iff_toInt_lt, Int32.reduceToInt] at hc2 ⊢; omega, hc9⟩, rfl⟩
    · refine k_aloadN A0 hx (hb hby own_d9_12) rfl rfl (pc' := 13) rfl ?_
      refine k_arraylength S0 hx hZ Va (hb hby own_d9_13) (z := (zs.length.toInt32)) (by rw [List.length_map]) (pc' := 14) rfl ?_
      refine k_iconst A0 hx (hb hby own_d9_14) (v := 1) rfl (pc' := 15) rfl ?_
      refine k_icmp_le A0 hx (hb hby own_d9_15) (pcY := 25) (by decide) (pc' := 18) rfl (fun hc15 => ?_) (fun hc15 => ?_)
      · refine k_aloadN A0 hx (hb hby own_d9_25) rfl rfl (pc' := 26) rfl ?_
        refine k_arraylength S0 hx hZ Va (hb hby own_d9_26) (z := (zs.length.toInt32)) (by rw [List.length_map]) (pc' := 27) rfl ?_
        refine k_iconst A0 hx (hb hby own_d9_27) (v := 2) rfl (pc' := 28) rfl ?_
        refine k_icmp_le A0 hx (hb hby own_d9_28) (pcY := 38) (by decide) (pc' := 31) rfl (fun hc28 => ?_) (fun hc28 => ?_)
        · refine k_aloadN A0 hx (hb hby own_d9_38) rfl rfl (pc' := 39) rfl ?_
          refine k_arraylength S0 hx hZ Va (hb hby own_d9_39) (z := (zs.length.toInt32)) (by rw [List.length_map]) (pc' := 40) rfl ?_
          refine k_iconst A0 hx (hb hby own_d9_40) (v := 3) rfl (pc' := 41) rfl ?_
          refine k_icmp_le A0 hx (hb hby own_d9_41) (pcY := 55) (by decide) (pc' := 44) rfl (fun hc41 => ?_) (fun hc41 => ?_)
          · refine k_iconst A0 hx (hb hby own_d9_55) (v := 0) rfl (pc' := 56) rfl ?_
            refine k_ret_nar S0 hx (t := .boolean) hret (by simp) hlk (hb hby own_d9_56) (z' := (0 : Int32)) rfl (by decide) (by decide) ?_
            exact ⟨Or.inr ⟨rfl, own_in0 hl (Or.inr hc9) (Or.inl (by simp only [Int32.lt_iff_toInt_lt, Int32.reduceToInt] at hc15 ⊢; omega)) (Or.inl (by simp only [Int32.lt_iff_toInt_lt, Int32.reduceToInt] at hc28 ⊢; omega)) (Or.inl (by simp only [Int32.lt_iff_toInt_lt, Int32.reduceToInt] at hc41 ⊢; omega))⟩, rfl⟩
          · refine k_aloadN A0 hx (hb hby own_d9_44) rfl rfl (pc' := 45) rfl ?_
            refine k_iconst A0 hx (hb hby own_d9_45) (v := 3) rfl (pc' := 46) rfl ?_
            refine k_iaload S0 hx hZ Va (hb hby own_d9_46) (by decide) (by simp only [Int32.lt_iff_toInt_lt, Int32.reduceToInt] at hc41 ⊢; omega) rfl (pc' := 47) rfl ?_
            refine k_iloadN A0 hx (hb hby own_d9_47) rfl (pc' := 48) rfl ?_
            refine k_icmp_ne A0 hx (hb hby own_d9_48) (pcY := 55) (by decide) (pc' := 51) rfl (fun hc48 => ?_) (fun hc48 => ?_)
            · refine k_iconst A0 hx (hb hby own_d9_55) (v := 0) rfl (pc' := 56) rfl ?_
              refine k_ret_nar S0 hx (t := .boolean) hret (by simp) hlk (hb hby own_d9_56) (z' := (0 : Int32)) rfl (by decide) (by decide) ?_
              exact ⟨Or.inr ⟨rfl, own_in0 hl (Or.inr hc9) (Or.inl (by simp only [Int32.lt_iff_toInt_lt, Int32.reduceToInt] at hc15 ⊢; omega)) (Or.inl (by simp only [Int32.lt_iff_toInt_lt, Int32.reduceToInt] at hc28 ⊢; omega)) (Or.inr hc48)⟩, rfl⟩
            · refine k_iconst A0 hx (hb hby own_d9_51) (v := 1) rfl (pc' := 52) rfl ?_
              refine k_goto A0 hx (hb hby own_d9_52) (pc' := 56) (by decide) ?_
              refine k_ret_nar S0 hx (t := .boolean) hret (by simp) hlk (hb hby own_d9_56) (z' := (1 : Int32)) rfl (by decide) (by decide) ?_
              exact ⟨Or.inl ⟨rfl, 3, by simp only [Int32.lt_iff_toInt_lt, Int32.reduceToInt] at hc41 ⊢; omega, hc48⟩, rfl⟩
        · refine k_aloadN A0 hx (hb hby own_d9_31) rfl rfl (pc' := 32) rfl ?_
          refine k_iconst A0 hx (hb hby own_d9_32) (v := 2) rfl (pc' := 33) rfl ?_
          refine k_iaload S0 hx hZ Va (hb hby own_d9_33) (by decide) (by simp only [Int32.lt_iff_toInt_lt, Int32.reduceToInt] at hc28 ⊢; omega) rfl (pc' := 34) rfl ?_
          refine k_iloadN A0 hx (hb hby own_d9_34) rfl (pc' := 35) rfl ?_
          refine k_icmp_eq A0 hx (hb hby own_d9_35) (pcY := 51) (by decide) (pc' := 38) rfl (fun hc35 => ?_) (fun hc35 => ?_)
          · refine k_iconst A0 hx (hb hby own_d9_51) (v := 1) rfl (pc' := 52) rfl ?_
            refine k_goto A0 hx (hb hby own_d9_52) (pc' := 56) (by decide) ?_
            refine k_ret_nar S0 hx (t := .boolean) hret (by simp) hlk (hb hby own_d9_56) (z' := (1 : Int32)) rfl (by decide) (by decide) ?_
            exact ⟨Or.inl ⟨rfl, 2, by simp only [Int32.lt_iff_toInt_lt, Int32.reduceToInt] at hc28 ⊢; omega, hc35⟩, rfl⟩
          · refine k_aloadN A0 hx (hb hby own_d9_38) rfl rfl (pc' := 39) rfl ?_
            refine k_arraylength S0 hx hZ Va (hb hby own_d9_39) (z := (zs.length.toInt32)) (by rw [List.length_map]) (pc' := 40) rfl ?_
            refine k_iconst A0 hx (hb hby own_d9_40) (v := 3) rfl (pc' := 41) rfl ?_
            refine k_icmp_le A0 hx (hb hby own_d9_41) (pcY := 55) (by decide) (pc' := 44) rfl (fun hc41 => ?_) (fun hc41 => ?_)
            · refine k_iconst A0 hx (hb hby own_d9_55) (v := 0) rfl (pc' := 56) rfl ?_
              refine k_ret_nar S0 hx (t := .boolean) hret (by simp) hlk (hb hby own_d9_56) (z' := (0 : Int32)) rfl (by decide) (by decide) ?_
              exact ⟨Or.inr ⟨rfl, own_in0 hl (Or.inr hc9) (Or.inl (by simp only [Int32.lt_iff_toInt_lt, Int32.reduceToInt] at hc15 ⊢; omega)) (Or.inr hc35) (Or.inl (by simp only [Int32.lt_iff_toInt_lt, Int32.reduceToInt] at hc41 ⊢; omega))⟩, rfl⟩
            · refine k_aloadN A0 hx (hb hby own_d9_44) rfl rfl (pc' := 45) rfl ?_
              refine k_iconst A0 hx (hb hby own_d9_45) (v := 3) rfl (pc' := 46) rfl ?_
              refine k_iaload S0 hx hZ Va (hb hby own_d9_46) (by decide) (by simp only [Int32.lt_iff_toInt_lt, Int32.reduceToInt] at hc41 ⊢; omega) rfl (pc' := 47) rfl ?_
              refine k_iloadN A0 hx (hb hby own_d9_47) rfl (pc' := 48) rfl ?_
              refine k_icmp_ne A0 hx (hb hby own_d9_48) (pcY := 55) (by decide) (pc' := 51) rfl (fun hc48 => ?_) (fun hc48 => ?_)
              · refine k_iconst A0 hx (hb hby own_d9_55) (v := 0) rfl (pc' := 56) rfl ?_
                refine k_ret_nar S0 hx (t := .boolean) hret (by simp) hlk (hb hby own_d9_56) (z' := (0 : Int32)) rfl (by decide) (by decide) ?_
                exact ⟨Or.inr ⟨rfl, own_in0 hl (Or.inr hc9) (Or.inl (by simp only [Int32.lt_iff_toInt_lt, Int32.reduceToInt] at hc15 ⊢; omega)) (Or.inr hc35) (Or.inr hc48)⟩, rfl⟩
              · refine k_iconst A0 hx (hb hby own_d9_51) (v := 1) rfl (pc' := 52) rfl ?_
                refine k_goto A0 hx (hb hby own_d9_52) (pc' := 56) (by decide) ?_
                refine k_ret_nar S0 hx (t := .boolean) hret (by simp) hlk (hb hby own_d9_56) (z' := (1 : Int32)) rfl (by decide) (by decide) ?_
                exact ⟨Or.inl ⟨rfl, 3, by simp only [Int32.lt_iff_toInt_lt, Int32.reduceToInt] at hc41 ⊢; omega, hc48⟩, rfl⟩
      · refine k_aloadN A0 hx (hb hby own_d9_18) rfl rfl (pc' := 19) rfl ?_
        refine k_iconst A0 hx (hb hby own_d9_19) (v := 1) rfl (pc' := 20) rfl ?_
        refine k_iaload S0 hx hZ Va (hb hby own_d9_20) (by decide) (by simp only [Int32.lt_iff_toInt_lt, Int32.reduceToInt] at hc15 ⊢; omega) rfl (pc' := 21) rfl ?_
        refine k_iloadN A0 hx (hb hby own_d9_21) rfl (pc' := 22) rfl ?_
        refine k_icmp_eq A0 hx (hb hby own_d9_22) (pcY := 51) (by decide) (pc' := 25) rfl (fun hc22 => ?_) (fun hc22 => ?_)
        · refine k_iconst A0 hx (hb hby own_d9_51) (v := 1) rfl (pc' := 52) rfl ?_
          refine k_goto A0 hx (hb hby own_d9_52) (pc' := 56) (by decide) ?_
          refine k_ret_nar S0 hx (t := .boolean) hret (by simp) hlk (hb hby own_d9_56) (z' := (1 : Int32)) rfl (by decide) (by decide) ?_
          exact ⟨Or.inl ⟨rfl, 1, by simp only [Int32.lt_iff_toInt_lt, Int32.reduceToInt] at hc15 ⊢; omega, hc22⟩, rfl⟩
        · refine k_aloadN A0 hx (hb hby own_d9_25) rfl rfl (pc' := 26) rfl ?_
          refine k_arraylength S0 hx hZ Va (hb hby own_d9_26) (z := (zs.length.toInt32)) (by rw [List.length_map]) (pc' := 27) rfl ?_
          refine k_iconst A0 hx (hb hby own_d9_27) (v := 2) rfl (pc' := 28) rfl ?_
          refine k_icmp_le A0 hx (hb hby own_d9_28) (pcY := 38) (by decide) (pc' := 31) rfl (fun hc28 => ?_) (fun hc28 => ?_)
          · refine k_aloadN A0 hx (hb hby own_d9_38) rfl rfl (pc' := 39) rfl ?_
            refine k_arraylength S0 hx hZ Va (hb hby own_d9_39) (z := (zs.length.toInt32)) (by rw [List.length_map]) (pc' := 40) rfl ?_
            refine k_iconst A0 hx (hb hby own_d9_40) (v := 3) rfl (pc' := 41) rfl ?_
            refine k_icmp_le A0 hx (hb hby own_d9_41) (pcY := 55) (by decide) (pc' := 44) rfl (fun hc41 => ?_) (fun hc41 => ?_)
            · refine k_iconst A0 hx (hb hby own_d9_55) (v := 0) rfl (pc' := 56) rfl ?_
              refine k_ret_nar S0 hx (t := .boolean) hret (by simp) hlk (hb hby own_d9_56) (z' := (0 : Int32)) rfl (by decide) (by decide) ?_
              exact ⟨Or.inr ⟨rfl, own_in0 hl (Or.inr hc9) (Or.inr hc22) (Or.inl (by simp only [Int32.lt_iff_toInt_lt, Int32.reduceToInt] at hc28 ⊢; omega)) (Or.inl (by simp only [Int32.lt_iff_toInt_lt, Int32.reduceToInt] at hc41 ⊢; omega))⟩, rfl⟩
            · refine k_aloadN A0 hx (hb hby own_d9_44) rfl rfl (pc' := 45) rfl ?_
              refine k_iconst A0 hx (hb hby own_d9_45) (v := 3) rfl (pc' := 46) rfl ?_
              refine k_iaload S0 hx hZ Va (hb hby own_d9_46) (by decide) (by simp only [Int32.lt_iff_toInt_lt, Int32.reduceToInt] at hc41 ⊢; omega) rfl (pc' := 47) rfl ?_
              refine k_iloadN A0 hx (hb hby own_d9_47) rfl (pc' := 48) rfl ?_
              refine k_icmp_ne A0 hx (hb hby own_d9_48) (pcY := 55) (by decide) (pc' := 51) rfl (fun hc48 => ?_) (fun hc48 => ?_)
              · refine k_iconst A0 hx (hb hby own_d9_55) (v := 0) rfl (pc' := 56) rfl ?_
                refine k_ret_nar S0 hx (t := .boolean) hret (by simp) hlk (hb hby own_d9_56) (z' := (0 : Int32)) rfl (by decide) (by decide) ?_
                exact ⟨Or.inr ⟨rfl, own_in0 hl (Or.inr hc9) (Or.inr hc22) (Or.inl (by simp only [Int32.lt_iff_toInt_lt, Int32.reduceToInt] at hc28 ⊢; omega)) (Or.inr hc48)⟩, rfl⟩
              · refine k_iconst A0 hx (hb hby own_d9_51) (v := 1) rfl (pc' := 52) rfl ?_
                refine k_goto A0 hx (hb hby own_d9_52) (pc' := 56) (by decide) ?_
                refine k_ret_nar S0 hx (t := .boolean) hret (by simp) hlk (hb hby own_d9_56) (z' := (1 : Int32)) rfl (by decide) (by decide) ?_
                exact ⟨Or.inl ⟨rfl, 3, by simp only [Int32.lt_iff_toInt_lt, Int32.reduceToInt] at hc41 ⊢; omega, hc48⟩, rfl⟩
          · refine k_aloadN A0 hx (hb hby own_d9_31) rfl rfl (pc' := 32) rfl ?_
            refine k_iconst A0 hx (hb hby own_d9_32) (v := 2) rfl (pc' := 33) rfl ?_
            refine k_iaload S0 hx hZ Va (hb hby own_d9_33) (by decide) (by simp only [Int32.lt_iff_toInt_lt, Int32.reduceToInt] at hc28 ⊢; omega) rfl (pc' := 34) rfl ?_
            refine k_iloadN A0 hx (hb hby own_d9_34) rfl (pc' := 35) rfl ?_
            refine k_icmp_eq A0 hx (hb hby own_d9_35) (pcY := 51) (by decide) (pc' := 38) rfl (fun hc35 => ?_) (fun hc35 => ?_)
            · refine k_iconst A0 hx (hb hby own_d9_51) (v := 1) rfl (pc' := 52) rfl ?_
              refine k_goto A0 hx (hb hby own_d9_52) (pc' := 56) (by decide) ?_
              refine k_ret_nar S0 hx (t := .boolean) hret (by simp) hlk (hb hby own_d9_56) (z' := (1 : Int32)) rfl (by decide) (by decide) ?_
              exact ⟨Or.inl ⟨rfl, 2, by simp only [Int32.lt_iff_toInt_lt, Int32.reduceToInt] at hc28 ⊢; omega, hc35⟩, rfl⟩
            · refine k_aloadN A0 hx (hb hby own_d9_38) rfl rfl (pc' := 39) rfl ?_
              refine k_arraylength S0 hx hZ Va (hb hby own_d9_39) (z := (zs.length.toInt32)) (by rw [List.length_map]) (pc' := 40) rfl ?_
              refine k_iconst A0 hx (hb hby own_d9_40) (v := 3) rfl (pc' := 41) rfl ?_
              refine k_icmp_le A0 hx (hb hby own_d9_41) (pcY := 55) (by decide) (pc' := 44) rfl (fun hc41 => ?_) (fun hc41 => ?_)
              · refine k_iconst A0 hx (hb hby own_d9_55) (v := 0) rfl (pc' := 56) rfl ?_
                refine k_ret_nar S0 hx (t := .boolean) hret (by simp) hlk (hb hby own_d9_56) (z' := (0 : Int32)) rfl (by decide) (by decide) ?_
                exact ⟨Or.inr ⟨rfl, own_in0 hl (Or.inr hc9) (Or.inr hc22) (Or.inr hc35) (Or.inl (by simp only [Int32.lt_iff_toInt_lt, Int32.reduceToInt] at hc41 ⊢; omega))⟩, rfl⟩
              · refine k_aloadN A0 hx (hb hby own_d9_44) rfl rfl (pc' := 45) rfl ?_
                refine k_iconst A0 hx (hb hby own_d9_45) (v := 3) rfl (pc' := 46) rfl ?_
                refine k_iaload S0 hx hZ Va (hb hby own_d9_46) (by decide) (by simp only [Int32.lt_iff_toInt_lt, Int32.reduceToInt] at hc41 ⊢; omega) rfl (pc' := 47) rfl ?_
                refine k_iloadN A0 hx (hb hby own_d9_47) rfl (pc' := 48) rfl ?_
                refine k_icmp_ne A0 hx (hb hby own_d9_48) (pcY := 55) (by decide) (pc' := 51) rfl (fun hc48 => ?_) (fun hc48 => ?_)
                · refine k_iconst A0 hx (hb hby own_d9_55) (v := 0) rfl (pc' := 56) rfl ?_
                  refine k_ret_nar S0 hx (t := .boolean) hret (by simp) hlk (hb hby own_d9_56) (z' := (0 : Int32)) rfl (by decide) (by decide) ?_
                  exact ⟨Or.inr ⟨rfl, own_in0 hl (Or.inr hc9) (Or.inr hc22) (Or.inr hc35) (Or.inr hc48)⟩, rfl⟩
                · refine k_iconst A0 hx (hb hby own_d9_51) (v := 1) rfl (pc' := 52) rfl ?_
                  refine k_goto A0 hx (hb hby own_d9_52) (pc' := 56) (by decide) ?_
                  refine k_ret_nar S0 hx (t := .boolean) hret (by simp) hlk (hb hby own_d9_56) (z' := (1 : Int32)) rfl (by decide) (by decide) ?_
                  exact ⟨Or.inl ⟨rfl, 3, by simp only [Int32.lt_iff_toInt_lt, Int32.reduceToInt] at hc41 ⊢; omega, hc48⟩, rfl⟩
theorem own_d4_0 : decode method_4_code 0 = .ok (.aload_n 0, 1) := by decide +kernel
theorem own_d4_1 : decode method_4_code 1 = .ok (.arraylength, 1) := by decide +kernel
theorem own_d4_2 : decode method_4_code 2 = .ok (.iconst 2, 1) := by decide +kernel
theorem own_d4_3 : decode method_4_code 3 = .ok (.if_icmp .lt 12, 3) := by decide +kernel
theorem own_d4_6 : decode method_4_code 6 = .ok (.aload_n 0, 1) := by decide +kernel
theorem own_d4_7 : decode method_4_code 7 = .ok (.iconst 0, 1) := by decide +kernel
theorem own_d4_8 : decode method_4_code 8 = .ok (.iaload, 1) := by decide +kernel
theorem own_d4_9 : decode method_4_code 9 = .ok (.aload_n 0, 1) := by decide +kernel
theorem own_d4_10 : decode method_4_code 10 = .ok (.iconst 1, 1) := by decide +kernel
theorem own_d4_11 : decode method_4_code 11 = .ok (.iaload, 1) := by decide +kernel
theorem own_d4_12 : decode method_4_code 12 = .ok (.if_icmp .ge 37, 3) := by decide +kernel
theorem own_d4_15 : decode method_4_code 15 = .ok (.aload_n 0, 1) := by decide +kernel
theorem own_d4_16 : decode method_4_code 16 = .ok (.arraylength, 1) := by decide +kernel
theorem own_d4_17 : decode method_4_code 17 = .ok (.iconst 3, 1) := by decide +kernel
theorem own_d4_18 : decode method_4_code 18 = .ok (.if_icmp .lt 12, 3) := by decide +kernel
theorem own_d4_21 : decode method_4_code 21 = .ok (.aload_n 0, 1) := by decide +kernel
theorem own_d4_22 : decode method_4_code 22 = .ok (.iconst 1, 1) := by decide +kernel
theorem own_d4_23 : decode method_4_code 23 = .ok (.iaload, 1) := by decide +kernel
theorem own_d4_24 : decode method_4_code 24 = .ok (.aload_n 0, 1) := by decide +kernel
theorem own_d4_25 : decode method_4_code 25 = .ok (.iconst 2, 1) := by decide +kernel
theorem own_d4_26 : decode method_4_code 26 = .ok (.iaload, 1) := by decide +kernel
theorem own_d4_27 : decode method_4_code 27 = .ok (.if_icmp .ge 22, 3) := by decide +kernel
theorem own_d4_30 : decode method_4_code 30 = .ok (.aload_n 0, 1) := by decide +kernel
theorem own_d4_31 : decode method_4_code 31 = .ok (.arraylength, 1) := by decide +kernel
theorem own_d4_32 : decode method_4_code 32 = .ok (.iconst 4, 1) := by decide +kernel
theorem own_d4_33 : decode method_4_code 33 = .ok (.if_icmp .lt 12, 3) := by decide +kernel
theorem own_d4_36 : decode method_4_code 36 = .ok (.aload_n 0, 1) := by decide +kernel
theorem own_d4_37 : decode method_4_code 37 = .ok (.iconst 2, 1) := by decide +kernel
theorem own_d4_38 : decode method_4_code 38 = .ok (.iaload, 1) := by decide +kernel
theorem own_d4_39 : decode method_4_code 39 = .ok (.aload_n 0, 1) := by decide +kernel
theorem own_d4_40 : decode method_4_code 40 = .ok (.iconst 3, 1) := by decide +kernel
theorem own_d4_41 : decode method_4_code 41 = .ok (.iaload, 1) := by decide +kernel
theorem own_d4_42 : decode method_4_code 42 = .ok (.if_icmp .ge 7, 3) := by decide +kernel
theorem own_d4_45 : decode method_4_code 45 = .ok (.iconst 1, 1) := by decide +kernel
theorem own_d4_46 : decode method_4_code 46 = .ok (.goto 4, 3) := by decide +kernel
theorem own_d4_49 : decode method_4_code 49 = .ok (.iconst 0, 1) := by decide +kernel
theorem own_d4_50 : decode method_4_code 50 = .ok (.ireturn, 1) := by decide +kernel
theorem own_pn4 : plainName "com/example/vestigium/vestigium/semantics/SortedSetsUnionPinLaw" = true := by first | (simp [plainName, overriddenIn]; done) | decide +kernel
set_option maxRecDepth 65536 in
set_option maxHeartbeats 40000000 in
theorem own_cinc (l : Launch) (Z : State) (a0 : Array Value) (hw : ∀ d ∈ tables_1, d.before a0 Z = true) (a : Addr) (h0 : Heap) (n0 : Nat) (zs : List Int32) (Va : IV Z h0 a zs) (hi : own_inc zs) :
    Con l Z (⟨"com/example/vestigium/vestigium/semantics/SortedSetsUnionPinLaw", "inc", "([I)Z"⟩ : MethodName) method_4_code 1 (some .boolean) ({ frames := 0, cells := 0, slots := 0, locals := 0 } : Room) n0 h0 #[(.ref a)] (fun v h => v = some (.int 1) ∧ h = h0) := by
  refine Con.intro (plainFor_of_name own_pn4) (Ls := #[.val (.ref a)]) (fun m => by first | (simp [entryFrame, mkF, argsToLocals, Value.category]; done) | rfl) ?_
  intro p e s m below meth c s₁ hx hby hml hown hnm hret hlk hZ S0
  have A0 := S0.here
  have hz := own_len32 Va.len
  refine k_aloadN A0 hx (hb hby own_d4_0) rfl rfl (pc' := 1) rfl ?_
  refine k_arraylength S0 hx hZ Va (hb hby own_d4_1) (z := (zs.length.toInt32)) (by rw [List.length_map]) (pc' := 2) rfl ?_
  refine k_iconst A0 hx (hb hby own_d4_2) (v := 2) rfl (pc' := 3) rfl ?_
  refine k_icmp_lt A0 hx (hb hby own_d4_3) (pcY := 15) (by decide) (pc' := 6) rfl (fun hc3 => ?_) (fun hc3 => ?_)
  · refine k_aloadN A0 hx (hb hby own_d4_15) rfl rfl (pc' := 16) rfl ?_
    refine k_arraylength S0 hx hZ Va (hb hby own_d4_16) (z := (zs.length.toInt32)) (by rw [List.length_map]) (pc' := 17) rfl ?_
    refine k_iconst A0 hx (hb hby own_d4_17) (v := 3) rfl (pc' := 18) rfl ?_
    refine k_icmp_lt A0 hx (hb hby own_d4_18) (pcY := 30) (by decide) (pc' := 21) rfl (fun hc18 => ?_) (fun hc18 => ?_)
    · refine k_aloadN A0 hx (hb hby own_d4_30) rfl rfl (pc' := 31) rfl ?_
      refine k_arraylength S0 hx hZ Va (hb hby own_d4_31) (z := (zs.length.toInt32)) (by rw [List.length_map]) (pc' := 32) rfl ?_
      refine k_iconst A0 hx (hb hby own_d4_32) (v := 4) rfl (pc' := 33) rfl ?_
      refine k_icmp_lt A0 hx (hb hby own_d4_33) (pcY := 45) (by decide) (pc' := 36) rfl (fun hc33 => ?_) (fun hc33 => ?_)
      · refine k_iconst A0 hx (hb hby own_d4_45) (v := 1) rfl (pc' := 46) rfl ?_
        refine k_goto A0 hx (hb hby own_d4_46) (pc' := 50) (by decide) ?_
        refine k_ret_nar S0 hx (t := .boolean) hret (by simp) hlk (hb hby own_d4_50) (z' := (1 : Int32)) rfl (by decide) (by decide) ?_
        exact ⟨rfl, rfl⟩
      · refine k_aloadN A0 hx (hb hby own_d4_36) rfl rfl (pc' := 37) rfl ?_
        refine k_iconst A0 hx (hb hby own_d4_37) (v := 2) rfl (pc' := 38) rfl ?_
        refine k_iaload S0 hx hZ Va (hb hby own_d4_38) (by decide) (by simp only [Int32.lt_iff_toInt_lt, Int32.reduceToInt] at hc33 ⊢; omega) rfl (pc' := 39) rfl ?_
        refine k_aloadN A0 hx (hb hby own_d4_39) rfl rfl (pc' := 40) rfl ?_
        refine k_iconst A0 hx (hb hby own_d4_40) (v := 3) rfl (pc' := 41) rfl ?_
        refine k_iaload S0 hx hZ Va (hb hby own_d4_41) (by decide) (by simp only [Int32.lt_iff_toInt_lt, Int32.reduceToInt] at hc33 ⊢; omega) rfl (pc' := 42) rfl ?_
        refine k_icmp_ge A0 hx (hb hby own_d4_42) (pcY := 49) (by decide) (pc' := 45) rfl (fun hc42 => absurd (own_lt.mpr (hi 2 3 (by decide) (by simp only [Int32.lt_iff_toInt_lt, Int32.reduceToInt] at hc33; omega))) hc42) (fun hc42 => ?_)
        refine k_iconst A0 hx (hb hby own_d4_45) (v := 1) rfl (pc' := 46) rfl ?_
        refine k_goto A0 hx (hb hby own_d4_46) (pc' := 50) (by decide) ?_
        refine k_ret_nar S0 hx (t := .boolean) hret (by simp) hlk (hb hby own_d4_50) (z' := (1 : Int32)) rfl (by decide) (by decide) ?_
        exact ⟨rfl, rfl⟩
    · refine k_aloadN A0 hx (hb hby own_d4_21) rfl rfl (pc' := 22) rfl ?_
      refine k_iconst A0 hx (hb hby own_d4_22) (v := 1) rfl (pc' := 23) rfl ?_
      refine k_iaload S0 hx hZ Va (hb hby own_d4_23) (by decide) (by simp only [Int32.lt_iff_toInt_lt, Int32.reduceToInt] at hc18 ⊢; omega) rfl (pc' := 24) rfl ?_
      refine k_aloadN A0 hx (hb hby own_d4_24) rfl rfl (pc' := 25) rfl ?_
      refine k_iconst A0 hx (hb hby own_d4_25) (v := 2) rfl (pc' := 26) rfl ?_
      refine k_iaload S0 hx hZ Va (hb hby own_d4_26) (by decide) (by simp only [Int32.lt_iff_toInt_lt, Int32.reduceToInt] at hc18 ⊢; omega) rfl (pc' := 27) rfl ?_
      refine k_icmp_ge A0 hx (hb hby own_d4_27) (pcY := 49) (by decide) (pc' := 30) rfl (fun hc27 => absurd (own_lt.mpr (hi 1 2 (by decide) (by simp only [Int32.lt_iff_toInt_lt, Int32.reduceToInt] at hc18; omega))) hc27) (fun hc27 => ?_)
      refine k_aloadN A0 hx (hb hby own_d4_30) rfl rfl (pc' := 31) rfl ?_
      refine k_arraylength S0 hx hZ Va (hb hby own_d4_31) (z := (zs.length.toInt32)) (by rw [List.length_map]) (pc' := 32) rfl ?_
      refine k_iconst A0 hx (hb hby own_d4_32) (v := 4) rfl (pc' := 33) rfl ?_
      refine k_icmp_lt A0 hx (hb hby own_d4_33) (pcY := 45) (by decide) (pc' := 36) rfl (fun hc33 => ?_) (fun hc33 => ?_)
      · refine k_iconst A0 hx (hb hby own_d4_45) (v := 1) rfl (pc' := 46) rfl ?_
        refine k_goto A0 hx (hb hby own_d4_46) (pc' := 50) (by decide) ?_
        refine k_ret_nar S0 hx (t := .boolean) hret (by simp) hlk (hb hby own_d4_50) (z' := (1 : Int32)) rfl (by decide) (by decide) ?_
        exact ⟨rfl, rfl⟩
      · refine k_aloadN A0 hx (hb hby own_d4_36) rfl rfl (pc' := 37) rfl ?_
        refine k_iconst A0 hx (hb hby own_d4_37) (v := 2) rfl (pc' := 38) rfl ?_
        refine k_iaload S0 hx hZ Va (hb hby own_d4_38) (by decide) (by simp only [Int32.lt_iff_toInt_lt, Int32.reduceToInt] at hc33 ⊢; omega) rfl (pc' := 39) rfl ?_
        refine k_aloadN A0 hx (hb hby own_d4_39) rfl rfl (pc' := 40) rfl ?_
        refine k_iconst A0 hx (hb hby own_d4_40) (v := 3) rfl (pc' := 41) rfl ?_
        refine k_iaload S0 hx hZ Va (hb hby own_d4_41) (by decide) (by simp only [Int32.lt_iff_toInt_lt, Int32.reduceToInt] at hc33 ⊢; omega) rfl (pc' := 42) rfl ?_
        refine k_icmp_ge A0 hx (hb hby own_d4_42) (pcY := 49) (by decide) (pc' := 45) rfl (fun hc42 => absurd (own_lt.mpr (hi 2 3 (by decide) (by simp only [Int32.lt_iff_toInt_lt, Int32.reduceToInt] at hc33; omega))) hc42) (fun hc42 => ?_)
        refine k_iconst A0 hx (hb hby own_d4_45) (v := 1) rfl (pc' := 46) rfl ?_
        refine k_goto A0 hx (hb hby own_d4_46) (pc' := 50) (by decide) ?_
        refine k_ret_nar S0 hx (t := .boolean) hret (by simp) hlk (hb hby own_d4_50) (z' := (1 : Int32)) rfl (by decide) (by decide) ?_
        exact ⟨rfl, rfl⟩
  · refine k_aloadN A0 hx (hb hby own_d4_6) rfl rfl (pc' := 7) rfl ?_
    refine k_iconst A0 hx (hb hby own_d4_7) (v := 0) rfl (pc' := 8) rfl ?_
    refine k_iaload S0 hx hZ Va (hb hby own_d4_8) (by decide) (by simp only [Int32.lt_iff_toInt_lt, Int32.reduceToInt] at hc3 ⊢; omega) rfl (pc' := 9) rfl ?_
    refine k_aloadN A0 hx (hb hby own_d4_9) rfl rfl (pc' := 10) rfl ?_
    refine k_iconst A0 hx (hb hby own_d4_10) (v := 1) rfl (pc' := 11) rfl ?_
    refine k_iaload S0 hx hZ Va (hb hby own_d4_11) (by decide) (by simp only [Int32.lt_iff_toInt_lt, Int32.reduceToInt] at hc3 ⊢; omega) rfl (pc' := 12) rfl ?_
    refine k_icmp_ge A0 hx (hb hby own_d4_12) (pcY := 49) (by decide) (pc' := 15) rfl (fun hc12 => absurd (own_lt.mpr (hi 0 1 (by decide) (by simp only [Int32.lt_iff_toInt_lt, Int32.reduceToInt] at hc3; omega))) hc12) (fun hc12 => ?_)
    refine k_aloadN A0 hx (hb hby own_d4_15) rfl rfl (pc' := 16) rfl ?_
    refine k_arraylength S0 hx hZ Va (hb hby own_d4_16) (z := (zs.length.toInt32)) (by rw [List.length_map]) (pc' := 17) rfl ?_
    refine k_iconst A0 hx (hb hby own_d4_17) (v := 3) rfl (pc' := 18) rfl ?_
    refine k_icmp_lt A0 hx (hb hby own_d4_18) (pcY := 30) (by decide) (pc' := 21) rfl (fun hc18 => ?_) (fun hc18 => ?_)
    · refine k_aloadN A0 hx (hb hby own_d4_30) rfl rfl (pc' := 31) rfl ?_
      refine k_arraylength S0 hx hZ Va (hb hby own_d4_31) (z := (zs.length.toInt32)) (by rw [List.length_map]) (pc' := 32) rfl ?_
      refine k_iconst A0 hx (hb hby own_d4_32) (v := 4) rfl (pc' := 33) rfl ?_
      refine k_icmp_lt A0 hx (hb hby own_d4_33) (pcY := 45) (by decide) (pc' := 36) rfl (fun hc33 => ?_) (fun hc33 => ?_)
      · refine k_iconst A0 hx (hb hby own_d4_45) (v := 1) rfl (pc' := 46) rfl ?_
        refine k_goto A0 hx (hb hby own_d4_46) (pc' := 50) (by decide) ?_
        refine k_ret_nar S0 hx (t := .boolean) hret (by simp) hlk (hb hby own_d4_50) (z' := (1 : Int32)) rfl (by decide) (by decide) ?_
        exact ⟨rfl, rfl⟩
      · refine k_aloadN A0 hx (hb hby own_d4_36) rfl rfl (pc' := 37) rfl ?_
        refine k_iconst A0 hx (hb hby own_d4_37) (v := 2) rfl (pc' := 38) rfl ?_
        refine k_iaload S0 hx hZ Va (hb hby own_d4_38) (by decide) (by simp only [Int32.lt_iff_toInt_lt, Int32.reduceToInt] at hc33 ⊢; omega) rfl (pc' := 39) rfl ?_
        refine k_aloadN A0 hx (hb hby own_d4_39) rfl rfl (pc' := 40) rfl ?_
        refine k_iconst A0 hx (hb hby own_d4_40) (v := 3) rfl (pc' := 41) rfl ?_
        refine k_iaload S0 hx hZ Va (hb hby own_d4_41) (by decide) (by simp only [Int32.lt_iff_toInt_lt, Int32.reduceToInt] at hc33 ⊢; omega) rfl (pc' := 42) rfl ?_
        refine k_icmp_ge A0 hx (hb hby own_d4_42) (pcY := 49) (by decide) (pc' := 45) rfl (fun hc42 => absurd (own_lt.mpr (hi 2 3 (by decide) (by simp only [Int32.lt_iff_toInt_lt, Int32.reduceToInt] at hc33; omega))) hc42) (fun hc42 => ?_)
        refine k_iconst A0 hx (hb hby own_d4_45) (v := 1) rfl (pc' := 46) rfl ?_
        refine k_goto A0 hx (hb hby own_d4_46) (pc' := 50) (by decide) ?_
        refine k_ret_nar S0 hx (t := .boolean) hret (by simp) hlk (hb hby own_d4_50) (z' := (1 : Int32)) rfl (by decide) (by decide) ?_
        exact ⟨rfl, rfl⟩
    · refine k_aloadN A0 hx (hb hby own_d4_21) rfl rfl (pc' := 22) rfl ?_
      refine k_iconst A0 hx (hb hby own_d4_22) (v := 1) rfl (pc' := 23) rfl ?_
      refine k_iaload S0 hx hZ Va (hb hby own_d4_23) (by decide) (by simp only [Int32.lt_iff_toInt_lt, Int32.reduceToInt] at hc18 ⊢; omega) rfl (pc' := 24) rfl ?_
      refine k_aloadN A0 hx (hb hby own_d4_24) rfl rfl (pc' := 25) rfl ?_
      refine k_iconst A0 hx (hb hby own_d4_25) (v := 2) rfl (pc' := 26) rfl ?_
      refine k_iaload S0 hx hZ Va (hb hby own_d4_26) (by decide) (by simp only [Int32.lt_iff_toInt_lt, Int32.reduceToInt] at hc18 ⊢; omega) rfl (pc' := 27) rfl ?_
      refine k_icmp_ge A0 hx (hb hby own_d4_27) (pcY := 49) (by decide) (pc' := 30) rfl (fun hc27 => absurd (own_lt.mpr (hi 1 2 (by decide) (by simp only [Int32.lt_iff_toInt_lt, Int32.reduceToInt] at hc18; omega))) hc27) (fun hc27 => ?_)
      refine k_aloadN A0 hx (hb hby own_d4_30) rfl rfl (pc' := 31) rfl ?_
      refine k_arraylength S0 hx hZ Va (hb hby own_d4_31) (z := (zs.length.toInt32)) (by rw [List.length_map]) (pc' := 32) rfl ?_
      refine k_iconst A0 hx (hb hby own_d4_32) (v := 4) rfl (pc' := 33) rfl ?_
      refine k_icmp_lt A0 hx (hb hby own_d4_33) (pcY := 45) (by decide) (pc' := 36) rfl (fun hc33 => ?_) (fun hc33 => ?_)
      · refine k_iconst A0 hx (hb hby own_d4_45) (v := 1) rfl (pc' := 46) rfl ?_
        refine k_goto A0 hx (hb hby own_d4_46) (pc' := 50) (by decide) ?_
        refine k_ret_nar S0 hx (t := .boolean) hret (by simp) hlk (hb hby own_d4_50) (z' := (1 : Int32)) rfl (by decide) (by decide) ?_
        exact ⟨rfl, rfl⟩
      · refine k_aloadN A0 hx (hb hby own_d4_36) rfl rfl (pc' := 37) rfl ?_
        refine k_iconst A0 hx (hb hby own_d4_37) (v := 2) rfl (pc' := 38) rfl ?_
        refine k_iaload S0 hx hZ Va (hb hby own_d4_38) (by decide) (by simp only [Int32.lt_iff_toInt_lt, Int32.reduceToInt] at hc33 ⊢; omega) rfl (pc' := 39) rfl ?_
        refine k_aloadN A0 hx (hb hby own_d4_39) rfl rfl (pc' := 40) rfl ?_
        refine k_iconst A0 hx (hb hby own_d4_40) (v := 3) rfl (pc' := 41) rfl ?_
        refine k_iaload S0 hx hZ Va (hb hby own_d4_41) (by decide) (by simp only [Int32.lt_iff_toInt_lt, Int32.reduceToInt] at hc33 ⊢; omega) rfl (pc' := 42) rfl ?_
        refine k_icmp_ge A0 hx (hb hby own_d4_42) (pcY := 49) (by decide) (pc' := 45) rfl (fun hc42 => absurd (own_lt.mpr (hi 2 3 (by decide) (by simp only [Int32.lt_iff_toInt_lt, Int32.reduceToInt] at hc33; omega))) hc42) (fun hc42 => ?_)
        refine k_iconst A0 hx (hb hby own_d4_45) (v := 1) rfl (pc' := 46) rfl ?_
        refine k_goto A0 hx (hb hby own_d4_46) (pc' := 50) (by decide) ?_
        refine k_ret_nar S0 hx (t := .boolean) hret (by simp) hlk (hb hby own_d4_50) (z' := (1 : Int32)) rfl (by decide) (by decide) ?_
        exact ⟨rfl, rfl⟩
theorem own_d5_0 : decode method_6_code 0 = .ok (.aload_n 0, 1) := by decide +kernel
theorem own_d5_1 : decode method_6_code 1 = .ok (.arraylength, 1) := by decide +kernel
theorem own_d5_2 : decode method_6_code 2 = .ok (.iconst 1, 1) := by decide +kernel
theorem own_d5_3 : decode method_6_code 3 = .ok (.if_icmp .lt 13, 3) := by decide +kernel
theorem own_d5_6 : decode method_6_code 6 = .ok (.aload_n 1, 1) := by decide +kernel
theorem own_d5_7 : decode method_6_code 7 = .ok (.aload_n 0, 1) := by decide +kernel
theorem own_d5_8 : decode method_6_code 8 = .ok (.iconst 0, 1) := by decide +kernel
theorem own_d5_9 : decode method_6_code 9 = .ok (.iaload, 1) := by decide +kernel
theorem own_d5_10 : decode method_6_code 10 = .ok (.invokestatic 16, 3) := by decide +kernel
theorem own_d5_13 : decode method_6_code 13 = .ok (.ifCond .eq 23, 3) := by decide +kernel
theorem own_d5_16 : decode method_6_code 16 = .ok (.aload_n 0, 1) := by decide +kernel
theorem own_d5_17 : decode method_6_code 17 = .ok (.arraylength, 1) := by decide +kernel
theorem own_d5_18 : decode method_6_code 18 = .ok (.iconst 2, 1) := by decide +kernel
theorem own_d5_19 : decode method_6_code 19 = .ok (.if_icmp .lt 13, 3) := by decide +kernel
theorem own_d5_22 : decode method_6_code 22 = .ok (.aload_n 1, 1) := by decide +kernel
theorem own_d5_23 : decode method_6_code 23 = .ok (.aload_n 0, 1) := by decide +kernel
theorem own_d5_24 : decode method_6_code 24 = .ok (.iconst 1, 1) := by decide +kernel
theorem own_d5_25 : decode method_6_code 25 = .ok (.iaload, 1) := by decide +kernel
theorem own_d5_26 : decode method_6_code 26 = .ok (.invokestatic 16, 3) := by decide +kernel
theorem own_d5_29 : decode method_6_code 29 = .ok (.ifCond .eq 7, 3) := by decide +kernel
theorem own_d5_32 : decode method_6_code 32 = .ok (.iconst 1, 1) := by decide +kernel
theorem own_d5_33 : decode method_6_code 33 = .ok (.goto 4, 3) := by decide +kernel
theorem own_d5_36 : decode method_6_code 36 = .ok (.iconst 0, 1) := by decide +kernel
theorem own_d5_37 : decode method_6_code 37 = .ok (.ireturn, 1) := by decide +kernel
theorem own_pn5 : plainName "com/example/vestigium/vestigium/semantics/SortedSetsUnionPinLaw" = true := by first | (simp [plainName, overriddenIn]; done) | decide +kernel
theorem own_pd2 : parseMethodDescriptor "([II)Z" = some ⟨[(.array .int), .int], some .boolean⟩ := by decide +kernel
set_option maxRecDepth 65536 in
set_option maxHeartbeats 40000000 in
theorem own_call (l : Launch) (Z : State) (a0 : Array Value) (hw : ∀ d ∈ tables_1, d.before a0 Z = true) (a b : Addr) (h0 : Heap) (n0 : Nat) (xs zs : List Int32) (Va : IV Z h0 a xs) (Vb : IV Z h0 b zs) (hl : zs.length ≤ 4) (hin : ∀ k : Nat, k < xs.length → own_in (xs.getD k 0) zs) :
    Con l Z (⟨"com/example/vestigium/vestigium/semantics/SortedSetsUnionPinLaw", "allIn", "([I[I)Z"⟩ : MethodName) method_6_code 2 (some .boolean) ({ frames := 1, cells := 0, slots := 0, locals := 20 } : Room) n0 h0 #[(.ref a), (.ref b)] (fun v h => v = some (.int 1) ∧ h = h0) := by
  refine Con.intro (plainFor_of_name own_pn5) (Ls := #[.val (.ref a), .val (.ref b)]) (fun m => by first | (simp [entryFrame, mkF, argsToLocals, Value.category]; done) | rfl) ?_
  intro p e s m below meth c s₁ hx hby hml hown hnm hret hlk hZ S0
  have A0 := S0.here
  have hz := own_len32 Va.len
  refine k_aloadN A0 hx (hb hby own_d5_0) rfl rfl (pc' := 1) rfl ?_
  refine k_arraylength S0 hx hZ Va (hb hby own_d5_1) (z := (xs.length.toInt32)) (by rw [List.length_map]) (pc' := 2) rfl ?_
  refine k_iconst A0 hx (hb hby own_d5_2) (v := 1) rfl (pc' := 3) rfl ?_
  refine k_icmp_lt A0 hx (hb hby own_d5_3) (pcY := 16) (by decide) (pc' := 6) rfl (fun hc3 => ?_) (fun hc3 => ?_)
  · refine k_aloadN A0 hx (hb hby own_d5_16) rfl rfl (pc' := 17) rfl ?_
    refine k_arraylength S0 hx hZ Va (hb hby own_d5_17) (z := (xs.length.toInt32)) (by rw [List.length_map]) (pc' := 18) rfl ?_
    refine k_iconst A0 hx (hb hby own_d5_18) (v := 2) rfl (pc' := 19) rfl ?_
    refine k_icmp_lt A0 hx (hb hby own_d5_19) (pcY := 32) (by decide) (pc' := 22) rfl (fun hc19 => ?_) (fun hc19 => ?_)
    · refine k_iconst A0 hx (hb hby own_d5_32) (v := 1) rfl (pc' := 33) rfl ?_
      refine k_goto A0 hx (hb hby own_d5_33) (pc' := 37) (by decide) ?_
      refine k_ret_nar S0 hx (t := .boolean) hret (by simp) hlk (hb hby own_d5_37) (z' := (1 : Int32)) rfl (by decide) (by decide) ?_
      exact ⟨rfl, rfl⟩
    · refine k_aloadN A0 hx (hb hby own_d5_22) rfl rfl (pc' := 23) rfl ?_
      refine k_aloadN A0 hx (hb hby own_d5_23) rfl rfl (pc' := 24) rfl ?_
      refine k_iconst A0 hx (hb hby own_d5_24) (v := 1) rfl (pc' := 25) rfl ?_
      refine k_iaload S0 hx hZ Va (hb hby own_d5_25) (by decide) (by simp only [Int32.lt_iff_toInt_lt, Int32.reduceToInt] at hc19 ⊢; omega) rfl (pc' := 26) rfl ?_
      refine k_call_static S0 hx hZ hown (hw _ (List.mem_of_getElem? (i := 38) rfl)) (hw _ (List.mem_of_getElem? (i := 39) rfl)) (hw _ (List.mem_of_getElem? (i := 2) rfl)) (hw _ (List.mem_of_getElem? (i := 40) rfl)) (by decide) (own_chas l Z a0 hw b (xs.getD (1 : Int32).toInt.toNat 0) h0 n0 zs Vb hl) 0 (argsL := [(.ref b), (.int (xs.getD (1 : Int32).toInt.toNat 0))]) (rest := []) (by decide) (by decide) (by rw [hml]; rfl) (lenOf own_pd2 rfl) rfl rfl (Nat.le_refl 0) (hb hby own_d5_26) (pc' := 29) rfl (by decide) (by decide) ?_
      rintro v1 T1 h1 ⟨hres1, q1⟩ S1
      rw [q1] at S1
      obtain ⟨r1, rfl, hr1⟩ := own_res hres1
      have A1 := S1.here
      show Done p e below _ (T1.setTop (mkF m 29 #[.val (.ref a), .val (.ref b)] [(.int r1)]))
      refine k_if_eq A1 hx (hb hby own_d5_29) (pcY := 36) (by decide) (pc' := 32) rfl (fun hc29 => absurd hc29 (own_r1 hr1 (hin 1 (by simp only [Int32.lt_iff_toInt_lt, Int32.reduceToInt] at hc19; omega)))) (fun hc29 => ?_)
      refine k_iconst A1 hx (hb hby own_d5_32) (v := 1) rfl (pc' := 33) rfl ?_
      refine k_goto A1 hx (hb hby own_d5_33) (pc' := 37) (by decide) ?_
      refine k_ret_nar S1 hx (t := .boolean) hret (by simp) hlk (hb hby own_d5_37) (z' := (1 : Int32)) rfl (by decide) (by decide) ?_
      exact ⟨rfl, rfl⟩
  · refine k_aloadN A0 hx (hb hby own_d5_6) rfl rfl (pc' := 7) rfl ?_
    refine k_aloadN A0 hx (hb hby own_d5_7) rfl rfl (pc' := 8) rfl ?_
    refine k_iconst A0 hx (hb hby own_d5_8) (v := 0) rfl (pc' := 9) rfl ?_
    refine k_iaload S0 hx hZ Va (hb hby own_d5_9) (by decide) (by simp only [Int32.lt_iff_toInt_lt, Int32.reduceToInt] at hc3 ⊢; omega) rfl (pc' := 10) rfl ?_
    refine k_call_static S0 hx hZ hown (hw _ (List.mem_of_getElem? (i := 38) rfl)) (hw _ (List.mem_of_getElem? (i := 39) rfl)) (hw _ (List.mem_of_getElem? (i := 2) rfl)) (hw _ (List.mem_of_getElem? (i := 40) rfl)) (by decide) (own_chas l Z a0 hw b (xs.getD (0 : Int32).toInt.toNat 0) h0 n0 zs Vb hl) 0 (argsL := [(.ref b), (.int (xs.getD (0 : Int32).toInt.toNat 0))]) (rest := []) (by decide) (by decide) (by rw [hml]; rfl) (lenOf own_pd2 rfl) rfl rfl (Nat.le_refl 0) (hb hby own_d5_10) (pc' := 13) rfl (by decide) (by decide) ?_
    rintro v2 T2 h2 ⟨hres2, q2⟩ S2
    rw [q2] at S2
    obtain ⟨r2, rfl, hr2⟩ := own_res hres2
    have A2 := S2.here
    show Done p e below _ (T2.setTop (mkF m 13 #[.val (.ref a), .val (.ref b)] [(.int r2)]))
    refine k_if_eq A2 hx (hb hby own_d5_13) (pcY := 36) (by decide) (pc' := 16) rfl (fun hc13 => absurd hc13 (own_r1 hr2 (hin 0 (by simp only [Int32.lt_iff_toInt_lt, Int32.reduceToInt] at hc3; omega)))) (fun hc13 => ?_)
    refine k_aloadN A2 hx (hb hby own_d5_16) rfl rfl (pc' := 17) rfl ?_
    refine k_arraylength S2 hx hZ Va (hb hby own_d5_17) (z := (xs.length.toInt32)) (by rw [List.length_map]) (pc' := 18) rfl ?_
    refine k_iconst A2 hx (hb hby own_d5_18) (v := 2) rfl (pc' := 19) rfl ?_
    refine k_icmp_lt A2 hx (hb hby own_d5_19) (pcY := 32) (by decide) (pc' := 22) rfl (fun hc19 => ?_) (fun hc19 => ?_)
    · refine k_iconst A2 hx (hb hby own_d5_32) (v := 1) rfl (pc' := 33) rfl ?_
      refine k_goto A2 hx (hb hby own_d5_33) (pc' := 37) (by decide) ?_
      refine k_ret_nar S2 hx (t := .boolean) hret (by simp) hlk (hb hby own_d5_37) (z' := (1 : Int32)) rfl (by decide) (by decide) ?_
      exact ⟨rfl, rfl⟩
    · refine k_aloadN A2 hx (hb hby own_d5_22) rfl rfl (pc' := 23) rfl ?_
      refine k_aloadN A2 hx (hb hby own_d5_23) rfl rfl (pc' := 24) rfl ?_
      refine k_iconst A2 hx (hb hby own_d5_24) (v := 1) rfl (pc' := 25) rfl ?_
      refine k_iaload S2 hx hZ Va (hb hby own_d5_25) (by decide) (by simp only [Int32.lt_iff_toInt_lt, Int32.reduceToInt] at hc19 ⊢; omega) rfl (pc' := 26) rfl ?_
      refine k_call_static S2 hx hZ hown (hw _ (List.mem_of_getElem? (i := 38) rfl)) (hw _ (List.mem_of_getElem? (i := 39) rfl)) (hw _ (List.mem_of_getElem? (i := 2) rfl)) (hw _ (List.mem_of_getElem? (i := 40) rfl)) (by decide) (own_chas l Z a0 hw b (xs.getD (1 : Int32).toInt.toNat 0) h0 n0 zs Vb hl) 0 (argsL := [(.ref b), (.int (xs.getD (1 : Int32).toInt.toNat 0))]) (rest := []) (by decide) (by decide) (by rw [hml]; rfl) (lenOf own_pd2 rfl) rfl rfl (Nat.le_refl 0) (hb hby own_d5_26) (pc' := 29) rfl (by decide) (by decide) ?_
      rintro v3 T3 h3 ⟨hres3, q3⟩ S3
      rw [q3] at S3
      obtain ⟨r3, rfl, hr3⟩ := own_res hres3
      have A3 := S3.here
      show Done p e below _ (T3.setTop (mkF m 29 #[.val (.ref a), .val (.ref b)] [(.int r3)]))
      refine k_if_eq A3 hx (hb hby own_d5_29) (pcY := 36) (by decide) (pc' := 32) rfl (fun hc29 => absurd hc29 (own_r1 hr3 (hin 1 (by simp only [Int32.lt_iff_toInt_lt, Int32.reduceToInt] at hc19; omega)))) (fun hc29 => ?_)
      refine k_iconst A3 hx (hb hby own_d5_32) (v := 1) rfl (pc' := 33) rfl ?_
      refine k_goto A3 hx (hb hby own_d5_33) (pc' := 37) (by decide) ?_
      refine k_ret_nar S3 hx (t := .boolean) hret (by simp) hlk (hb hby own_d5_37) (z' := (1 : Int32)) rfl (by decide) (by decide) ?_
      exact ⟨rfl, rfl⟩
theorem own_d6_0 : decode method_5_code 0 = .ok (.iload_n 1, 1) := by decide +kernel
theorem own_d6_1 : decode method_5_code 1 = .ok (.aload_n 0, 1) := by decide +kernel
theorem own_d6_2 : decode method_5_code 2 = .ok (.arraylength, 1) := by decide +kernel
theorem own_d6_3 : decode method_5_code 3 = .ok (.if_icmp .ge 23, 3) := by decide +kernel
theorem own_d6_6 : decode method_5_code 6 = .ok (.aload_n 2, 1) := by decide +kernel
theorem own_d6_7 : decode method_5_code 7 = .ok (.aload_n 0, 1) := by decide +kernel
theorem own_d6_8 : decode method_5_code 8 = .ok (.iload_n 1, 1) := by decide +kernel
theorem own_d6_9 : decode method_5_code 9 = .ok (.iaload, 1) := by decide +kernel
theorem own_d6_10 : decode method_5_code 10 = .ok (.invokestatic 16, 3) := by decide +kernel
theorem own_d6_13 : decode method_5_code 13 = .ok (.ifCond .ne 13, 3) := by decide +kernel
theorem own_d6_16 : decode method_5_code 16 = .ok (.aload_n 3, 1) := by decide +kernel
theorem own_d6_17 : decode method_5_code 17 = .ok (.aload_n 0, 1) := by decide +kernel
theorem own_d6_18 : decode method_5_code 18 = .ok (.iload_n 1, 1) := by decide +kernel
theorem own_d6_19 : decode method_5_code 19 = .ok (.iaload, 1) := by decide +kernel
theorem own_d6_20 : decode method_5_code 20 = .ok (.invokestatic 16, 3) := by decide +kernel
theorem own_d6_23 : decode method_5_code 23 = .ok (.ifCond .eq 7, 3) := by decide +kernel
theorem own_d6_26 : decode method_5_code 26 = .ok (.iconst 1, 1) := by decide +kernel
theorem own_d6_27 : decode method_5_code 27 = .ok (.goto 4, 3) := by decide +kernel
theorem own_d6_30 : decode method_5_code 30 = .ok (.iconst 0, 1) := by decide +kernel
theorem own_d6_31 : decode method_5_code 31 = .ok (.ireturn, 1) := by decide +kernel
theorem own_pn6 : plainName "com/example/vestigium/vestigium/semantics/SortedSetsUnionPinLaw" = true := by first | (simp [plainName, overriddenIn]; done) | decide +kernel
set_option maxRecDepth 65536 in
set_option maxHeartbeats 40000000 in
theorem own_cfe (l : Launch) (Z : State) (a0 : Array Value) (hw : ∀ d ∈ tables_1, d.before a0 Z = true) (r : Addr) (k : Int32) (a b : Addr) (h0 : Heap) (n0 : Nat) (zs xs ys : List Int32) (Vr : IV Z h0 r zs) (Va : IV Z h0 a xs) (Vb : IV Z h0 b ys) (hx4 : xs.length ≤ 4) (hy4 : ys.length ≤ 4) (hk : 0 ≤ k.toInt) (hfr : ∀ i : Nat, i < zs.length → own_in (zs.getD i 0) xs ∨ own_in (zs.getD i 0) ys) :
    Con l Z (⟨"com/example/vestigium/vestigium/semantics/SortedSetsUnionPinLaw", "fromEither", "([II[I[I)Z"⟩ : MethodName) method_5_code 4 (some .boolean) ({ frames := 1, cells := 0, slots := 0, locals := 20 } : Room) n0 h0 #[(.ref r), (.int k), (.ref a), (.ref b)] (fun v h => v = some (.int 1) ∧ h = h0) := by
  refine Con.intro (plainFor_of_name own_pn6) (Ls := #[.val (.ref r), .val (.int k), .val (.ref a), .val (.ref b)]) (fun m => by first | (simp [entryFrame, mkF, argsToLocals, Value.category]; done) | rfl) ?_
  intro p e s m below meth c s₁ hx hby hml hown hnm hret hlk hZ S0
  have A0 := S0.here
  have hz := own_len32 Vr.len
  refine k_iloadN A0 hx (hb hby own_d6_0) rfl (pc' := 1) rfl ?_
  refine k_aloadN A0 hx (hb hby own_d6_1) rfl rfl (pc' := 2) rfl ?_
  refine k_arraylength S0 hx hZ Vr (hb hby own_d6_2) (z := (zs.length.toInt32)) (by rw [List.length_map]) (pc' := 3) rfl ?_
  refine k_icmp_ge A0 hx (hb hby own_d6_3) (pcY := 26) (by decide) (pc' := 6) rfl (fun hc3 => ?_) (fun hc3 => ?_)
  · refine k_iconst A0 hx (hb hby own_d6_26) (v := 1) rfl (pc' := 27) rfl ?_
    refine k_goto A0 hx (hb hby own_d6_27) (pc' := 31) (by decide) ?_
    refine k_ret_nar S0 hx (t := .boolean) hret (by simp) hlk (hb hby own_d6_31) (z' := (1 : Int32)) rfl (by decide) (by decide) ?_
    exact ⟨rfl, rfl⟩
  · refine k_aloadN A0 hx (hb hby own_d6_6) rfl rfl (pc' := 7) rfl ?_
    refine k_aloadN A0 hx (hb hby own_d6_7) rfl rfl (pc' := 8) rfl ?_
    refine k_iloadN A0 hx (hb hby own_d6_8) rfl (pc' := 9) rfl ?_
    refine k_iaload S0 hx hZ Vr (hb hby own_d6_9) hk (by simp only [Int32.lt_iff_toInt_lt, Int32.reduceToInt] at hc3 ⊢; omega) rfl (pc' := 10) rfl ?_
    refine k_call_static S0 hx hZ hown (hw _ (List.mem_of_getElem? (i := 38) rfl)) (hw _ (List.mem_of_getElem? (i := 39) rfl)) (hw _ (List.mem_of_getElem? (i := 2) rfl)) (hw _ (List.mem_of_getElem? (i := 40) rfl)) (by decide) (own_chas l Z a0 hw a (zs.getD k.toInt.toNat 0) h0 n0 xs Va hx4) 0 (argsL := [(.ref a), (.int (zs.getD k.toInt.toNat 0))]) (rest := []) (by decide) (by decide) (by rw [hml]; rfl) (lenOf own_pd2 rfl) rfl rfl (Nat.le_refl 0) (hb hby own_d6_10) (pc' := 13) rfl (by decide) (by decide) ?_
    rintro v1 T1 h1 ⟨hres1, q1⟩ S1
    rw [q1] at S1
    obtain ⟨r1, rfl, hr1⟩ := own_res hres1
    have A1 := S1.here
    show Done p e below _ (T1.setTop (mkF m 13 #[.val (.ref r), .val (.int k), .val (.ref a), .val (.ref b)] [(.int r1)]))
    refine k_if_ne A1 hx (hb hby own_d6_13) (pcY := 26) (by decide) (pc' := 16) rfl (fun hc13 => ?_) (fun hc13 => ?_)
    · refine k_iconst A1 hx (hb hby own_d6_26) (v := 1) rfl (pc' := 27) rfl ?_
      refine k_goto A1 hx (hb hby own_d6_27) (pc' := 31) (by decide) ?_
      refine k_ret_nar S1 hx (t := .boolean) hret (by simp) hlk (hb hby own_d6_31) (z' := (1 : Int32)) rfl (by decide) (by decide) ?_
      exact ⟨rfl, rfl⟩
    · refine k_aloadN A1 hx (hb hby own_d6_16) rfl rfl (pc' := 17) rfl ?_
      refine k_aloadN A1 hx (hb hby own_d6_17) rfl rfl (pc' := 18) rfl ?_
      refine k_iloadN A1 hx (hb hby own_d6_18) rfl (pc' := 19) rfl ?_
      refine k_iaload S1 hx hZ Vr (hb hby own_d6_19) hk (by simp only [Int32.lt_iff_toInt_lt, Int32.reduceToInt] at hc3 ⊢; omega) rfl (pc' := 20) rfl ?_
      refine k_call_static S1 hx hZ hown (hw _ (List.mem_of_getElem? (i := 38) rfl)) (hw _ (List.mem_of_getElem? (i := 39) rfl)) (hw _ (List.mem_of_getElem? (i := 2) rfl)) (hw _ (List.mem_of_getElem? (i := 40) rfl)) (by decide) (own_chas l Z a0 hw b (zs.getD k.toInt.toNat 0) h0 n0 ys Vb hy4) 0 (argsL := [(.ref b), (.int (zs.getD k.toInt.toNat 0))]) (rest := []) (by decide) (by decide) (by rw [hml]; rfl) (lenOf own_pd2 rfl) rfl rfl (Nat.le_refl 0) (hb hby own_d6_20) (pc' := 23) rfl (by decide) (by decide) ?_
      rintro v2 T2 h2 ⟨hres2, q2⟩ S2
      rw [q2] at S2
      obtain ⟨r2, rfl, hr2⟩ := own_res hres2
      have A2 := S2.here
      show Done p e below _ (T2.setTop (mkF m 23 #[.val (.ref r), .val (.int k), .val (.ref a), .val (.ref b)] [(.int r2)]))
      refine k_if_eq A2 hx (hb hby own_d6_23) (pcY := 30) (by decide) (pc' := 26) rfl (fun hc23 => absurd hc23 (own_r1 hr2 (Or.resolve_left (hfr k.toInt.toNat (by simp only [Int32.lt_iff_toInt_lt, Int32.reduceToInt] at hc3; omega)) (own_r0 hr1 hc13)))) (fun hc23 => ?_)
      refine k_iconst A2 hx (hb hby own_d6_26) (v := 1) rfl (pc' := 27) rfl ?_
      refine k_goto A2 hx (hb hby own_d6_27) (pc' := 31) (by decide) ?_
      refine k_ret_nar S2 hx (t := .boolean) hret (by simp) hlk (hb hby own_d6_31) (z' := (1 : Int32)) rfl (by decide) (by decide) ?_
      exact ⟨rfl, rfl⟩
theorem own_pn0 : plainName "com/example/vestigium/vestigium/semantics/SortedSetsUnionPinLaw" = true := by first | (simp [plainName, overriddenIn]; done) | decide +kernel
theorem own_pd3 : parseMethodDescriptor "(III)[I" = some ⟨[.int, .int, .int], some (.array .int)⟩ := by decide +kernel
theorem own_pd4 : parseMethodDescriptor "([I[I)[I" = some ⟨[(.array .int), (.array .int)], some (.array .int)⟩ := by decide +kernel
theorem own_pd5 : parseMethodDescriptor "([I)Z" = some ⟨[(.array .int)], some .boolean⟩ := by decide +kernel
theorem own_pd6 : parseMethodDescriptor "([I[I)Z" = some ⟨[(.array .int), (.array .int)], some .boolean⟩ := by decide +kernel
theorem own_pd7 : parseMethodDescriptor "([II[I[I)Z" = some ⟨[(.array .int), .int, (.array .int), (.array .int)], some .boolean⟩ := by decide +kernel
set_option maxRecDepth 65536 in
set_option maxHeartbeats 40000000 in
theorem own_law (l : Launch) (Z : State) (a0 : Array Value) (hw : ∀ d ∈ tables_1, d.before a0 Z = true) (x0 x1 y0 y1 sz : Int32) (h0 : Heap) (n0 : Nat) (Z0 : n0 ≤ h0.size) :
    Con l Z x code maxLocals ret room_1 n0 h0 #[(.int x0), (.int x1), (.int y0), (.int y1), (.int sz)] (fun v h => v = some (.int 1)) := by
  refine Con.intro (plainFor_of_name own_pn0) (Ls := #[.val (.int x0), .val (.int x1), .val (.int y0), .val (.int y1), .val (.int sz), .unset, .unset, .unset, .unset, .unset]) (fun m => by first | (simp [entryFrame, mkF, argsToLocals, Value.category, maxLocals]; done) | rfl) ?_
  intro p e s m below meth c s₁ hx hby hml hown hnm hret hlk hZ S0
  have A0 := S0.here
  have K1 := Keep.refl h0 []
  refine k_iload A0 hx (hb hby at_0) rfl (pc' := 2) rfl ?_
  refine k_iconst A0 hx (hb hby at_2) (v := 3) rfl (pc' := 3) rfl ?_
  refine k_iand A0 hx (hb hby at_3) (pc' := 4) rfl ?_
  refine k_iconst A0 hx (hb hby at_4) (v := 3) rfl (pc' := 5) rfl ?_
  refine k_irem A0 hx (hb hby at_5) (by decide) (pc' := 6) rfl ?_
  refine k_istore A0 hx (hb hby at_6) (Ls' := #[.val (.int x0), .val (.int x1), .val (.int y0), .val (.int y1), .val (.int sz), .val (.int ((sz &&& (3 : Int32)) % (3 : Int32))), .unset, .unset, .unset, .unset]) rfl (pc' := 8) rfl ?_
  refine k_iload A0 hx (hb hby at_8) rfl (pc' := 10) rfl ?_
  refine k_iconst A0 hx (hb hby at_10) (v := 2) rfl (pc' := 11) rfl ?_
  refine k_iushr A0 hx (hb hby at_11) (pc' := 12) rfl ?_
  refine k_iconst A0 hx (hb hby at_12) (v := 3) rfl (pc' := 13) rfl ?_
  refine k_iand A0 hx (hb hby at_13) (pc' := 14) rfl ?_
  refine k_iconst A0 hx (hb hby at_14) (v := 3) rfl (pc' := 15) rfl ?_
  refine k_irem A0 hx (hb hby at_15) (by decide) (pc' := 16) rfl ?_
  refine k_istore A0 hx (hb hby at_16) (Ls' := #[.val (.int x0), .val (.int x1), .val (.int y0), .val (.int y1), .val (.int sz), .val (.int ((sz &&& (3 : Int32)) % (3 : Int32))), .val (.int ((((sz.toUInt32 >>> ((2 : Int32) &&& 31).toUInt32).toInt32) &&& (3 : Int32)) % (3 : Int32))), .unset, .unset, .unset]) rfl (pc' := 18) rfl ?_
  have J29_2 : ∀ (T2 : State), ∀ (y0' : Int32), St p l e room_1 s m #[(.int x0), (.int x1), (.int y0), (.int y1), (.int sz)] below meth c n0 T2 h0 0 0 → Done p e below (OEnd s room_1 n0 (fun v h => v = some (.int 1))) (T2.setTop (mkF m 29 #[.val (.int x0), .val (.int x1), .val (.int y0'), .val (.int y1), .val (.int sz), .val (.int ((sz &&& (3 : Int32)) % (3 : Int32))), .val (.int ((((sz.toUInt32 >>> ((2 : Int32) &&& 31).toUInt32).toInt32) &&& (3 : Int32)) % (3 : Int32))), .unset, .unset, .unset] [])) := by
    intro T2 y0' S2
    have A2 := S2.here
    have J40_3 : ∀ (T3 : State), ∀ (y1' : Int32), St p l e room_1 s m #[(.int x0), (.int x1), (.int y0), (.int y1), (.int sz)] below meth c n0 T3 h0 0 0 → Done p e below (OEnd s room_1 n0 (fun v h => v = some (.int 1))) (T3.setTop (mkF m 40 #[.val (.int x0), .val (.int x1), .val (.int y0'), .val (.int y1'), .val (.int sz), .val (.int ((sz &&& (3 : Int32)) % (3 : Int32))), .val (.int ((((sz.toUInt32 >>> ((2 : Int32) &&& 31).toUInt32).toInt32) &&& (3 : Int32)) % (3 : Int32))), .unset, .unset, .unset] [])) := by
      intro T3 y1' S3
      have A3 := S3.here
      refine k_iload A3 hx (hb hby at_40) rfl (pc' := 42) rfl ?_
      refine k_iloadN A3 hx (hb hby at_42) rfl (pc' := 43) rfl ?_
      refine k_iloadN A3 hx (hb hby at_43) rfl (pc' := 44) rfl ?_
      refine k_call_static S3 hx hZ hown (hw _ (List.mem_of_getElem? (i := 0) rfl)) (hw _ (List.mem_of_getElem? (i := 1) rfl)) (hw _ (List.mem_of_getElem? (i := 2) rfl)) (hw _ (List.mem_of_getElem? (i := 3) rfl)) (by decide) (own_cmk l Z a0 hw ((sz &&& (3 : Int32)) % (3 : Int32)) x0 x1 h0 n0 (Nat.le_trans Z0 K1.1)) 0 (argsL := [(.int ((sz &&& (3 : Int32)) % (3 : Int32))), (.int x0), (.int x1)]) (rest := []) (by decide) (by decide) (by rw [hml]; rfl) (lenOf own_pd3 rfl) rfl rfl (Nat.le_refl 0) (hb hby at_44) (pc' := 47) rfl (by decide) (by decide) ?_
      rintro v4 T4 h4 ⟨b4, xs4, rfl, K4, V4, hS4⟩ S4
      have K5 := K1.trans K4 all0
      have A4 := S4.here
      show Done p e below _ (T4.setTop (mkF m 47 #[.val (.int x0), .val (.int x1), .val (.int y0'), .val (.int y1'), .val (.int sz), .val (.int ((sz &&& (3 : Int32)) % (3 : Int32))), .val (.int ((((sz.toUInt32 >>> ((2 : Int32) &&& 31).toUInt32).toInt32) &&& (3 : Int32)) % (3 : Int32))), .unset, .unset, .unset] [(.ref b4)]))
      refine k_astore A4 hx (hb hby at_47) rfl (Ls' := #[.val (.int x0), .val (.int x1), .val (.int y0'), .val (.int y1'), .val (.int sz), .val (.int ((sz &&& (3 : Int32)) % (3 : Int32))), .val (.int ((((sz.toUInt32 >>> ((2 : Int32) &&& 31).toUInt32).toInt32) &&& (3 : Int32)) % (3 : Int32))), .val (.ref b4), .unset, .unset]) rfl (pc' := 49) rfl ?_
      refine k_iload A4 hx (hb hby at_49) rfl (pc' := 51) rfl ?_
      refine k_iloadN A4 hx (hb hby at_51) rfl (pc' := 52) rfl ?_
      refine k_iloadN A4 hx (hb hby at_52) rfl (pc' := 53) rfl ?_
      refine k_call_static S4 hx hZ hown (hw _ (List.mem_of_getElem? (i := 0) rfl)) (hw _ (List.mem_of_getElem? (i := 1) rfl)) (hw _ (List.mem_of_getElem? (i := 2) rfl)) (hw _ (List.mem_of_getElem? (i := 3) rfl)) (by decide) (own_cmk l Z a0 hw ((((sz.toUInt32 >>> ((2 : Int32) &&& 31).toUInt32).toInt32) &&& (3 : Int32)) % (3 : Int32)) y0' y1' h4 n0 (Nat.le_trans Z0 K5.1)) 0 (argsL := [(.int ((((sz.toUInt32 >>> ((2 : Int32) &&& 31).toUInt32).toInt32) &&& (3 : Int32)) % (3 : Int32))), (.int y0'), (.int y1')]) (rest := []) (by decide) (by decide) (by rw [hml]; rfl) (lenOf own_pd3 rfl) rfl rfl (Nat.le_refl 0) (hb hby at_53) (pc' := 56) rfl (by decide) (by decide) ?_
      rintro v6 T6 h6 ⟨b6, xs6, rfl, K6, V6, hS6⟩ S6
      have f7 := V4.keep K6 nin0
      have K8 := K5.trans K6 all0
      have A6 := S6.here
      show Done p e below _ (T6.setTop (mkF m 56 #[.val (.int x0), .val (.int x1), .val (.int y0'), .val (.int y1'), .val (.int sz), .val (.int ((sz &&& (3 : Int32)) % (3 : Int32))), .val (.int ((((sz.toUInt32 >>> ((2 : Int32) &&& 31).toUInt32).toInt32) &&& (3 : Int32)) % (3 : Int32))), .val (.ref b4), .unset, .unset] [(.ref b6)]))
      refine k_astore A6 hx (hb hby at_56) rfl (Ls' := #[.val (.int x0), .val (.int x1), .val (.int y0'), .val (.int y1'), .val (.int sz), .val (.int ((sz &&& (3 : Int32)) % (3 : Int32))), .val (.int ((((sz.toUInt32 >>> ((2 : Int32) &&& 31).toUInt32).toInt32) &&& (3 : Int32)) % (3 : Int32))), .val (.ref b4), .val (.ref b6), .unset]) rfl (pc' := 58) rfl ?_
      refine k_aload A6 hx (hb hby at_58) rfl rfl (pc' := 60) rfl ?_
      refine k_aload A6 hx (hb hby at_60) rfl rfl (pc' := 62) rfl ?_
      refine k_call_static S6 hx hZ hown (hw _ (List.mem_of_getElem? (i := 5) rfl)) (hw _ (List.mem_of_getElem? (i := 6) rfl)) (hw _ (List.mem_of_getElem? (i := 7) rfl)) (hw _ (List.mem_of_getElem? (i := 8) rfl)) (by decide) (own_cun l Z a0 hw b4 b6 h6 n0 xs4 xs6 (Nat.le_trans Z0 K8.1) f7 V6 hS4 hS6) 0 (argsL := [(.ref b4), (.ref b6)]) (rest := []) (by decide) (by decide) (by rw [hml]; rfl) (lenOf own_pd4 rfl) rfl rfl (Nat.le_refl 0) (hb hby at_62) (pc' := 65) rfl (by decide) (by decide) ?_
      rintro v9 T9 h9 ⟨b9, zs, rfl, K9, V9, hU⟩ S9
      have f10 := f7.keep K9 nin0
      have f11 := V6.keep K9 nin0
      have K12 := K8.trans K9 all0
      have hz4 : zs.length ≤ 4 := by have q := hU.1; have q1 := hS4.1; have q2 := hS6.1; omega
      have hz32 := own_len32 V9.len
      have A9 := S9.here
      show Done p e below _ (T9.setTop (mkF m 65 #[.val (.int x0), .val (.int x1), .val (.int y0'), .val (.int y1'), .val (.int sz), .val (.int ((sz &&& (3 : Int32)) % (3 : Int32))), .val (.int ((((sz.toUInt32 >>> ((2 : Int32) &&& 31).toUInt32).toInt32) &&& (3 : Int32)) % (3 : Int32))), .val (.ref b4), .val (.ref b6), .unset] [(.ref b9)]))
      refine k_astore A9 hx (hb hby at_65) rfl (Ls' := #[.val (.int x0), .val (.int x1), .val (.int y0'), .val (.int y1'), .val (.int sz), .val (.int ((sz &&& (3 : Int32)) % (3 : Int32))), .val (.int ((((sz.toUInt32 >>> ((2 : Int32) &&& 31).toUInt32).toInt32) &&& (3 : Int32)) % (3 : Int32))), .val (.ref b4), .val (.ref b6), .val (.ref b9)]) rfl (pc' := 67) rfl ?_
      refine k_aload A9 hx (hb hby at_67) rfl rfl (pc' := 69) rfl ?_
      refine k_ifnullNo A9 hx (hb hby at_69) (pc' := 72) rfl ?_
      refine k_aload A9 hx (hb hby at_72) rfl rfl (pc' := 74) rfl ?_
      refine k_arraylength S9 hx hZ V9 (hb hby at_74) (z := (zs.length.toInt32)) (by rw [List.length_map]) (pc' := 75) rfl ?_
      refine k_iconst A9 hx (hb hby at_75) (v := 4) rfl (pc' := 76) rfl ?_
      refine k_icmp_le A9 hx (hb hby at_76) (pcY := 81) (by decide) (pc' := 79) rfl (fun hc76 => ?_) (fun hc76 => by simp only [Int32.lt_iff_toInt_lt, Int32.reduceToInt] at hc76; omega)
      refine k_aload A9 hx (hb hby at_81) rfl rfl (pc' := 83) rfl ?_
      refine k_call_static S9 hx hZ hown (hw _ (List.mem_of_getElem? (i := 22) rfl)) (hw _ (List.mem_of_getElem? (i := 23) rfl)) (hw _ (List.mem_of_getElem? (i := 2) rfl)) (hw _ (List.mem_of_getElem? (i := 24) rfl)) (by decide) (own_cinc l Z a0 hw b9 h9 n0 zs V9 hU.2.1) 0 (argsL := [(.ref b9)]) (rest := []) (by decide) (by decide) (by rw [hml]; rfl) (lenOf own_pd5 rfl) rfl rfl (Nat.le_refl 0) (hb hby at_83) (pc' := 86) rfl (by decide) (by decide) ?_
      rintro v13 T13 h13 ⟨rfl, q13⟩ S13
      rw [q13] at S13
      have A13 := S13.here
      show Done p e below _ (T13.setTop (mkF m 86 #[.val (.int x0), .val (.int x1), .val (.int y0'), .val (.int y1'), .val (.int sz), .val (.int ((sz &&& (3 : Int32)) % (3 : Int32))), .val (.int ((((sz.toUInt32 >>> ((2 : Int32) &&& 31).toUInt32).toInt32) &&& (3 : Int32)) % (3 : Int32))), .val (.ref b4), .val (.ref b6), .val (.ref b9)] [(.int (1 : Int32))]))
      refine k_if_eq A13 hx (hb hby at_86) (pcY := 165) (by decide) (pc' := 89) rfl (fun hc86 => absurd hc86 (by decide)) (fun hc86 => ?_)
      refine k_aload A13 hx (hb hby at_89) rfl rfl (pc' := 91) rfl ?_
      refine k_aload A13 hx (hb hby at_91) rfl rfl (pc' := 93) rfl ?_
      refine k_call_static S13 hx hZ hown (hw _ (List.mem_of_getElem? (i := 25) rfl)) (hw _ (List.mem_of_getElem? (i := 26) rfl)) (hw _ (List.mem_of_getElem? (i := 2) rfl)) (hw _ (List.mem_of_getElem? (i := 27) rfl)) (by decide) (own_call l Z a0 hw b4 b9 h9 n0 xs4 zs f10 V9 hz4 hU.2.2.2.1) 0 (argsL := [(.ref b4), (.ref b9)]) (rest := []) (by decide) (by decide) (by rw [hml]; rfl) (lenOf own_pd6 rfl) rfl rfl (Nat.le_refl 0) (hb hby at_93) (pc' := 96) rfl (by decide) (by decide) ?_
      rintro v14 T14 h14 ⟨rfl, q14⟩ S14
      rw [q14] at S14
      have A14 := S14.here
      show Done p e below _ (T14.setTop (mkF m 96 #[.val (.int x0), .val (.int x1), .val (.int y0'), .val (.int y1'), .val (.int sz), .val (.int ((sz &&& (3 : Int32)) % (3 : Int32))), .val (.int ((((sz.toUInt32 >>> ((2 : Int32) &&& 31).toUInt32).toInt32) &&& (3 : Int32)) % (3 : Int32))), .val (.ref b4), .val (.ref b6), .val (.ref b9)] [(.int (1 : Int32))]))
      refine k_if_eq A14 hx (hb hby at_96) (pcY := 165) (by decide) (pc' := 99) rfl (fun hc96 => absurd hc96 (by decide)) (fun hc96 => ?_)
      refine k_aload A14 hx (hb hby at_99) rfl rfl (pc' := 101) rfl ?_
      refine k_aload A14 hx (hb hby at_101) rfl rfl (pc' := 103) rfl ?_
      refine k_call_static S14 hx hZ hown (hw _ (List.mem_of_getElem? (i := 25) rfl)) (hw _ (List.mem_of_getElem? (i := 26) rfl)) (hw _ (List.mem_of_getElem? (i := 2) rfl)) (hw _ (List.mem_of_getElem? (i := 27) rfl)) (by decide) (own_call l Z a0 hw b6 b9 h9 n0 xs6 zs f11 V9 hz4 hU.2.2.2.2) 0 (argsL := [(.ref b6), (.ref b9)]) (rest := []) (by decide) (by decide) (by rw [hml]; rfl) (lenOf own_pd6 rfl) rfl rfl (Nat.le_refl 0) (hb hby at_103) (pc' := 106) rfl (by decide) (by decide) ?_
      rintro v15 T15 h15 ⟨rfl, q15⟩ S15
      rw [q15] at S15
      have A15 := S15.here
      show Done p e below _ (T15.setTop (mkF m 106 #[.val (.int x0), .val (.int x1), .val (.int y0'), .val (.int y1'), .val (.int sz), .val (.int ((sz &&& (3 : Int32)) % (3 : Int32))), .val (.int ((((sz.toUInt32 >>> ((2 : Int32) &&& 31).toUInt32).toInt32) &&& (3 : Int32)) % (3 : Int32))), .val (.ref b4), .val (.ref b6), .val (.ref b9)] [(.int (1 : Int32))]))
      refine k_if_eq A15 hx (hb hby at_106) (pcY := 165) (by decide) (pc' := 109) rfl (fun hc106 => absurd hc106 (by decide)) (fun hc106 => ?_)
      refine k_aload A15 hx (hb hby at_109) rfl rfl (pc' := 111) rfl ?_
      refine k_iconst A15 hx (hb hby at_111) (v := 0) rfl (pc' := 112) rfl ?_
      refine k_aload A15 hx (hb hby at_112) rfl rfl (pc' := 114) rfl ?_
      refine k_aload A15 hx (hb hby at_114) rfl rfl (pc' := 116) rfl ?_
      refine k_call_static S15 hx hZ hown (hw _ (List.mem_of_getElem? (i := 28) rfl)) (hw _ (List.mem_of_getElem? (i := 29) rfl)) (hw _ (List.mem_of_getElem? (i := 2) rfl)) (hw _ (List.mem_of_getElem? (i := 30) rfl)) (by decide) (own_cfe l Z a0 hw b9 (0 : Int32) b4 b6 h9 n0 zs xs4 xs6 V9 f10 f11 (by have q := hS4.1; omega) (by have q := hS6.1; omega) (by decide) hU.2.2.1) 0 (argsL := [(.ref b9), (.int (0 : Int32)), (.ref b4), (.ref b6)]) (rest := []) (by decide) (by decide) (by rw [hml]; rfl) (lenOf own_pd7 rfl) rfl rfl (Nat.le_refl 0) (hb hby at_116) (pc' := 119) rfl (by decide) (by decide) ?_
      rintro v16 T16 h16 ⟨rfl, q16⟩ S16
      rw [q16] at S16
      have A16 := S16.here
      show Done p e below _ (T16.setTop (mkF m 119 #[.val (.int x0), .val (.int x1), .val (.int y0'), .val (.int y1'), .val (.int sz), .val (.int ((sz &&& (3 : Int32)) % (3 : Int32))), .val (.int ((((sz.toUInt32 >>> ((2 : Int32) &&& 31).toUInt32).toInt32) &&& (3 : Int32)) % (3 : Int32))), .val (.ref b4), .val (.ref b6), .val (.ref b9)] [(.int (1 : Int32))]))
      refine k_if_eq A16 hx (hb hby at_119) (pcY := 165) (by decide) (pc' := 122) rfl (fun hc119 => absurd hc119 (by decide)) (fun hc119 => ?_)
      refine k_aload A16 hx (hb hby at_122) rfl rfl (pc' := 124) rfl ?_
      refine k_iconst A16 hx (hb hby at_124) (v := 1) rfl (pc' := 125) rfl ?_
      refine k_aload A16 hx (hb hby at_125) rfl rfl (pc' := 127) rfl ?_
      refine k_aload A16 hx (hb hby at_127) rfl rfl (pc' := 129) rfl ?_
      refine k_call_static S16 hx hZ hown (hw _ (List.mem_of_getElem? (i := 28) rfl)) (hw _ (List.mem_of_getElem? (i := 29) rfl)) (hw _ (List.mem_of_getElem? (i := 2) rfl)) (hw _ (List.mem_of_getElem? (i := 30) rfl)) (by decide) (own_cfe l Z a0 hw b9 (1 : Int32) b4 b6 h9 n0 zs xs4 xs6 V9 f10 f11 (by have q := hS4.1; omega) (by have q := hS6.1; omega) (by decide) hU.2.2.1) 0 (argsL := [(.ref b9), (.int (1 : Int32)), (.ref b4), (.ref b6)]) (rest := []) (by decide) (by decide) (by rw [hml]; rfl) (lenOf own_pd7 rfl) rfl rfl (Nat.le_refl 0) (hb hby at_129) (pc' := 132) rfl (by decide) (by decide) ?_
      rintro v17 T17 h17 ⟨rfl, q17⟩ S17
      rw [q17] at S17
      have A17 := S17.here
      show Done p e below _ (T17.setTop (mkF m 132 #[.val (.int x0), .val (.int x1), .val (.int y0'), .val (.int y1'), .val (.int sz), .val (.int ((sz &&& (3 : Int32)) % (3 : Int32))), .val (.int ((((sz.toUInt32 >>> ((2 : Int32) &&& 31).toUInt32).toInt32) &&& (3 : Int32)) % (3 : Int32))), .val (.ref b4), .val (.ref b6), .val (.ref b9)] [(.int (1 : Int32))]))
      refine k_if_eq A17 hx (hb hby at_132) (pcY := 165) (by decide) (pc' := 135) rfl (fun hc132 => absurd hc132 (by decide)) (fun hc132 => ?_)
      refine k_aload A17 hx (hb hby at_135) rfl rfl (pc' := 137) rfl ?_
      refine k_iconst A17 hx (hb hby at_137) (v := 2) rfl (pc' := 138) rfl ?_
      refine k_aload A17 hx (hb hby at_138) rfl rfl (pc' := 140) rfl ?_
      refine k_aload A17 hx (hb hby at_140) rfl rfl (pc' := 142) rfl ?_
      refine k_call_static S17 hx hZ hown (hw _ (List.mem_of_getElem? (i := 28) rfl)) (hw _ (List.mem_of_getElem? (i := 29) rfl)) (hw _ (List.mem_of_getElem? (i := 2) rfl)) (hw _ (List.mem_of_getElem? (i := 30) rfl)) (by decide) (own_cfe l Z a0 hw b9 (2 : Int32) b4 b6 h9 n0 zs xs4 xs6 V9 f10 f11 (by have q := hS4.1; omega) (by have q := hS6.1; omega) (by decide) hU.2.2.1) 0 (argsL := [(.ref b9), (.int (2 : Int32)), (.ref b4), (.ref b6)]) (rest := []) (by decide) (by decide) (by rw [hml]; rfl) (lenOf own_pd7 rfl) rfl rfl (Nat.le_refl 0) (hb hby at_142) (pc' := 145) rfl (by decide) (by decide) ?_
      rintro v18 T18 h18 ⟨rfl, q18⟩ S18
      rw [q18] at S18
      have A18 := S18.here
      show Done p e below _ (T18.setTop (mkF m 145 #[.val (.int x0), .val (.int x1), .val (.int y0'), .val (.int y1'), .val (.int sz), .val (.int ((sz &&& (3 : Int32)) % (3 : Int32))), .val (.int ((((sz.toUInt32 >>> ((2 : Int32) &&& 31).toUInt32).toInt32) &&& (3 : Int32)) % (3 : Int32))), .val (.ref b4), .val (.ref b6), .val (.ref b9)] [(.int (1 : Int32))]))
      refine k_if_eq A18 hx (hb hby at_145) (pcY := 165) (by decide) (pc' := 148) rfl (fun hc145 => absurd hc145 (by decide)) (fun hc145 => ?_)
      refine k_aload A18 hx (hb hby at_148) rfl rfl (pc' := 150) rfl ?_
      refine k_iconst A18 hx (hb hby at_150) (v := 3) rfl (pc' := 151) rfl ?_
      refine k_aload A18 hx (hb hby at_151) rfl rfl (pc' := 153) rfl ?_
      refine k_aload A18 hx (hb hby at_153) rfl rfl (pc' := 155) rfl ?_
      refine k_call_static S18 hx hZ hown (hw _ (List.mem_of_getElem? (i := 28) rfl)) (hw _ (List.mem_of_getElem? (i := 29) rfl)) (hw _ (List.mem_of_getElem? (i := 2) rfl)) (hw _ (List.mem_of_getElem? (i := 30) rfl)) (by decide) (own_cfe l Z a0 hw b9 (3 : Int32) b4 b6 h9 n0 zs xs4 xs6 V9 f10 f11 (by have q := hS4.1; omega) (by have q := hS6.1; omega) (by decide) hU.2.2.1) 0 (argsL := [(.ref b9), (.int (3 : Int32)), (.ref b4), (.ref b6)]) (rest := []) (by decide) (by decide) (by rw [hml]; rfl) (lenOf own_pd7 rfl) rfl rfl (Nat.le_refl 0) (hb hby at_155) (pc' := 158) rfl (by decide) (by decide) ?_
      rintro v19 T19 h19 ⟨rfl, q19⟩ S19
      rw [q19] at S19
      have A19 := S19.here
      show Done p e below _ (T19.setTop (mkF m 158 #[.val (.int x0), .val (.int x1), .val (.int y0'), .val (.int y1'), .val (.int sz), .val (.int ((sz &&& (3 : Int32)) % (3 : Int32))), .val (.int ((((sz.toUInt32 >>> ((2 : Int32) &&& 31).toUInt32).toInt32) &&& (3 : Int32)) % (3 : Int32))), .val (.ref b4), .val (.ref b6), .val (.ref b9)] [(.int (1 : Int32))]))
      refine k_if_eq A19 hx (hb hby at_158) (pcY := 165) (by decide) (pc' := 161) rfl (fun hc158 => absurd hc158 (by decide)) (fun hc158 => ?_)
      refine k_iconst A19 hx (hb hby at_161) (v := 1) rfl (pc' := 162) rfl ?_
      refine k_goto A19 hx (hb hby at_162) (pc' := 166) (by decide) ?_
      refine k_ret_nar S19 hx (t := .boolean) hret (by simp) hlk (hb hby at_166) (z' := (1 : Int32)) rfl (by decide) (by decide) ?_
      exact rfl
    refine k_iload A2 hx (hb hby at_29) rfl (pc' := 31) rfl ?_
    refine k_iconst A2 hx (hb hby at_31) (v := 5) rfl (pc' := 32) rfl ?_
    refine k_iushr A2 hx (hb hby at_32) (pc' := 33) rfl ?_
    refine k_iconst A2 hx (hb hby at_33) (v := 1) rfl (pc' := 34) rfl ?_
    refine k_iand A2 hx (hb hby at_34) (pc' := 35) rfl ?_
    refine k_if_eq A2 hx (hb hby at_35) (pcY := 40) (by decide) (pc' := 38) rfl (fun hc35 => ?_) (fun hc35 => ?_)
    · exact J40_3 T2 y1 (S2.more (by decide) (by decide)) 
    · refine k_iloadN A2 hx (hb hby at_38) rfl (pc' := 39) rfl ?_
      refine k_istoreN A2 hx (hb hby at_39) (Ls' := #[.val (.int x0), .val (.int x1), .val (.int y0'), .val (.int x1), .val (.int sz), .val (.int ((sz &&& (3 : Int32)) % (3 : Int32))), .val (.int ((((sz.toUInt32 >>> ((2 : Int32) &&& 31).toUInt32).toInt32) &&& (3 : Int32)) % (3 : Int32))), .unset, .unset, .unset]) rfl (pc' := 40) rfl ?_
      exact J40_3 T2 x1 (S2.more (by decide) (by decide)) 
  refine k_iload A0 hx (hb hby at_18) rfl (pc' := 20) rfl ?_
  refine k_iconst A0 hx (hb hby at_20) (v := 4) rfl (pc' := 21) rfl ?_
  refine k_iushr A0 hx (hb hby at_21) (pc' := 22) rfl ?_
  refine k_iconst A0 hx (hb hby at_22) (v := 1) rfl (pc' := 23) rfl ?_
  refine k_iand A0 hx (hb hby at_23) (pc' := 24) rfl ?_
  refine k_if_eq A0 hx (hb hby at_24) (pcY := 29) (by decide) (pc' := 27) rfl (fun hc24 => ?_) (fun hc24 => ?_)
  · exact J29_2 s₁ y0 (S0.more (by decide) (by decide)) 
  · refine k_iloadN A0 hx (hb hby at_27) rfl (pc' := 28) rfl ?_
    refine k_istoreN A0 hx (hb hby at_28) (Ls' := #[.val (.int x0), .val (.int x1), .val (.int x0), .val (.int y1), .val (.int sz), .val (.int ((sz &&& (3 : Int32)) % (3 : Int32))), .val (.int ((((sz.toUInt32 >>> ((2 : Int32) &&& 31).toUInt32).toInt32) &&& (3 : Int32)) % (3 : Int32))), .unset, .unset, .unset]) rfl (pc' := 29) rfl ?_
    exact J29_2 s₁ x0 (S0.more (by decide) (by decide)) 
set_option maxRecDepth 65536 in
set_option maxHeartbeats 40000000 in
theorem comes_1 {Post : Tables → Env → Array Value → State → Outcome → State → Prop} (hpost : ∀ tb e args s v u, (limb_1_1.after args s (.returned v) u = true ∧ limb_1_2.after args s (.returned v) u = true ∧ True) → FrameEnd s (.returned v) u (Jvm.fieldLocs frame_1_writes args s ++ Jvm.arrayLocs frame_1_arrays args s ++ Jvm.staticLocs frame_1_statics s) 16 128 → Post tb e args s (.returned v) u) :
    ArmFor flags0 classFile x code maxLocals ret World_1 tables_1 room_1 Calls_1 rest_1 Pre_1 Post := by
  intro l hfl _ _ p e ha hc hk s m args below hf hA hF happ hP
  obtain ⟨hcalls, hrest, hpre⟩ := hP
  obtain ⟨-, -, -, hnamed, -, -, -, hat⟩ := (Spec.applies_iff hf).mp happ
  obtain ⟨hg, hn⟩ := and_e (Cond.before_iff.mp (show (Jvm.Cond.and given_1 narrow_1).before args s = true from hpre))
  obtain ⟨g1, g2⟩ := and_e hg
  obtain ⟨g3, g4⟩ := and_e g2
  obtain ⟨g5, g6⟩ := and_e g4
  obtain ⟨g7, g8⟩ := and_e g6
  obtain ⟨g9, g10⟩ := and_e g8
  obtain ⟨w0, w1, w2, w3, w4, rfl⟩ : ∃ w0 w1 w2 w3 w4 : Value, args = #[w0, w1, w2, w3, w4] := by
    have hs : args.size = 5 := by simpa [Cond.value, given_1] using g1
    obtain ⟨L⟩ := args
    match L, hs with
    | [w0, w1, w2, w3, w4], _ => exact ⟨w0, w1, w2, w3, w4, rfl⟩
  have hw := fun d (hd : d ∈ tables_1) => atoms_spec (ws := Jvm.Cond.code x code maxLocals ret :: tables_1) hat d (List.mem_cons_of_mem _ hd)
  obtain ⟨i0, ei0⟩ := is_v g3
  obtain rfl : w0 = (.int i0) := Option.some.inj ei0
  obtain ⟨i1, ei1⟩ := is_v g5
  obtain rfl : w1 = (.int i1) := Option.some.inj ei1
  obtain ⟨i2, ei2⟩ := is_v g7
  obtain rfl : w2 = (.int i2) := Option.some.inj ei2
  obtain ⟨i3, ei3⟩ := is_v g9
  obtain rfl : w3 = (.int i3) := Option.some.inj ei3
  obtain ⟨i4, ei4⟩ := is_v g10
  obtain rfl : w4 = (.int i4) := Option.some.inj ei4
  obtain ⟨n, o, h1, h2, h3, _, L, rfl, ⟨rfl, N⟩, hq⟩ := own_law l s _ hw i0 i1 i2 i3 i4 s.heap s.heap.size (Nat.le_refl _) tables_1 p e ha hc hk s m _ below hf ((Spec.applies_iff_loose hf).mp happ).1 ⟨rfl, State.Warmed39.refl s, rfl⟩ trivial
  refine ⟨n, _, h1, h2, h3, hpost _ _ _ _ _ _ ⟨Cond.after_iff.mpr rfl, Cond.after_iff.mpr (eq_i res_at (Term.int_eval (1)) rfl), trivial⟩ ⟨hq.1, hq.2.1, (hq.2.2.sift fun y hy => Or.inr (N y hy)).mono (by decide) (by decide)⟩⟩
theorem main_1_1 : Claimed_1_1 := comes_1 fun _ _ _ _ _ _ h hF => ⟨h.1, hF⟩
theorem main_1_2 : Claimed_1_2 := comes_1 fun _ _ _ _ _ _ h hF => ⟨h.2.1, hF⟩
end Jvm.Pilot.@@N@@
namespace Jvm.Pilot.@@N@@
open Jvm Jvm.ClassFile Sem Op Lib Jvm.Free Jvm.Stand Jvm.Pilot.@@N@@.Jvm.D
/-! MADE BY PROGRAM (witnessworld.py) out of the Statement's table words and the real class files: 12 classes; the members and pool entries that the words name. The judged class is class 1, her method 6. -/
namespace start1
open Jvm.ClassFile
def u (s : String) : CpInfo := .utf8 (stringToUtf16 s)
/-- a pool by its gaps: so many unusable entries, then the entry; so many at the end -/
def gap : Nat → List CpInfo → List CpInfo
  | 0, r => r
  | n + 1, r => .unusable :: gap n r
def poolList (es : List (Nat × CpInfo)) (last : Nat) : List CpInfo := es.foldr (fun e r => gap e.1 (e.2 :: r)) (gap last [])
def pool (es : List (Nat × CpInfo)) (last : Nat) : Array CpInfo := ⟨poolList es last⟩
def fileOf (pool : Array CpInfo) (this : Nat) (attrs : Array Attribute := #[]) (ms : Array MethodInfo := #[]) (fl : Nat := 33) (sup : Nat := 0) (ifs : Array Nat := #[]) (fds : Array FieldInfo := #[]) : ClassFile where
  minorVersion := 0
  majorVersion := 65
  constantPool := pool
  accessFlags := fl
  thisClass := this
  superClass := sup
  interfaces := ifs
  fields := fds
  methods := ms
  attributes := attrs
def plain (name : String) (sup : Option ClassId) : Class where
  name := name
  kind := .ordinary
  loader := none
  accessFlags := 33
  super := sup
  interfaces := #[]
  cf := none
  fields := #[]
  methods := #[]
  instanceTypes := #[]
  staticTypes := #[]
  resolved := #[]
  callSites := []
  init := .initialized
  statics := none
  mirror := none

def pool0 : Array CpInfo := pool [(5, u "<init>"), (0, u "()V"), (1, .class_ 10), (1, u "java/lang/Object"), (85, u "clone"), (0, u "()Ljava/lang/Object;")] 26

def k0m0 : Method := { name := "<init>", desc := "()V", sig := { parameters := [], returnType := none }, accessFlags := 1, code := none }
def k0m1 : Method := { name := "clone", desc := "()Ljava/lang/Object;", sig := { parameters := [], returnType := some (.object "java/lang/Object") }, accessFlags := 260, code := none }
/-- java/lang/Object -/
def k0 : Class := { plain "java/lang/Object" none with
  accessFlags := 33
  interfaces := #[]
  cf := some (fileOf pool0 8 #[] #[{ accessFlags := 1, nameIndex := 5, descriptorIndex := 6, attributes := #[] }, { accessFlags := 260, nameIndex := 96, descriptorIndex := 97, attributes := #[] }] 33 0 #[] #[])
  fields := #[]
  methods := #[k0m0, k0m1]
  instanceTypes := #[]
  staticTypes := #[]
  resolved := Array.replicate 124 none
  statics := none }

def pool1 : Array CpInfo := pool [(2, .class_ 4), (1, u "java/lang/Object"), (0, u "<init>"), (0, u "()V"), (0, .methodref 8 9), (0, .class_ 10), (0, .nameAndType 11 12), (0, u "java/lang/Math"), (0, u "min"), (0, u "(II)I"), (0, .methodref 8 14), (0, .nameAndType 15 12), (0, u "max"), (0, .methodref 17 18), (0, .class_ 19), (0, .nameAndType 20 21), (0, u "com/example/vestigium/vestigium/semantics/SortedSetsUnionPinLaw"), (0, u "has"), (0, u "([II)Z"), (0, .methodref 17 23), (0, .nameAndType 24 25), (0, u "mk"), (0, u "(III)[I"), (0, .methodref 27 28), (0, .class_ 29), (0, .nameAndType 30 31), (0, u "com/example/vestigium/vestigium/semantics/SortedSets"), (0, u "union"), (0, u "([I[I)[I"), (0, .methodref 17 33), (0, .nameAndType 34 35), (0, u "inc"), (0, u "([I)Z"), (0, .methodref 17 37), (0, .nameAndType 38 39), (0, u "allIn"), (0, u "([I[I)Z"), (0, .methodref 17 41), (0, .nameAndType 42 43), (0, u "fromEither"), (0, u "([II[I[I)Z"), (3, u "law"), (0, u "(IIIII)Z")] 4

def k1m0 : Method := { name := "<init>", desc := "()V", sig := { parameters := [], returnType := none }, accessFlags := 2, code := none }
def k1c1 : Code := { maxStack := 4, maxLocals := 5, code := method_2_code, exceptionTable := #[], attributes := #[] }
def k1m1 : Method := { name := "mk", desc := "(III)[I", sig := { parameters := [.int, .int, .int], returnType := some (.array .int) }, accessFlags := 10, code := some k1c1 }
def k1c2 : Code := { maxStack := 2, maxLocals := 2, code := method_3_code, exceptionTable := #[], attributes := #[] }
def k1m2 : Method := { name := "has", desc := "([II)Z", sig := { parameters := [(.array .int), .int], returnType := some .boolean }, accessFlags := 10, code := some k1c2 }
def k1c3 : Code := { maxStack := 3, maxLocals := 1, code := method_4_code, exceptionTable := #[], attributes := #[] }
def k1m3 : Method := { name := "inc", desc := "([I)Z", sig := { parameters := [(.array .int)], returnType := some .boolean }, accessFlags := 10, code := some k1c3 }
def k1c4 : Code := { maxStack := 3, maxLocals := 4, code := method_5_code, exceptionTable := #[], attributes := #[] }
def k1m4 : Method := { name := "fromEither", desc := "([II[I[I)Z", sig := { parameters := [(.array .int), .int, (.array .int), (.array .int)], returnType := some .boolean }, accessFlags := 10, code := some k1c4 }
def k1c5 : Code := { maxStack := 3, maxLocals := 2, code := method_6_code, exceptionTable := #[], attributes := #[] }
def k1m5 : Method := { name := "allIn", desc := "([I[I)Z", sig := { parameters := [(.array .int), (.array .int)], returnType := some .boolean }, accessFlags := 10, code := some k1c5 }
def k1c6 : Code := { maxStack := 4, maxLocals := 10, code := code, exceptionTable := #[], attributes := #[] }
def k1m6 : Method := { name := "law", desc := "(IIIII)Z", sig := { parameters := [.int, .int, .int, .int, .int], returnType := some .boolean }, accessFlags := 9, code := some k1c6 }
/-- com/example/vestigium/vestigium/semantics/SortedSetsUnionPinLaw -/
def k1 : Class := { plain "com/example/vestigium/vestigium/semantics/SortedSetsUnionPinLaw" (some 0) with
  accessFlags := 49
  interfaces := #[]
  cf := some (fileOf pool1 17 #[] #[{ accessFlags := 2, nameIndex := 5, descriptorIndex := 6, attributes := #[] }, { accessFlags := 10, nameIndex := 24, descriptorIndex := 25, attributes := #[] }, { accessFlags := 10, nameIndex := 20, descriptorIndex := 21, attributes := #[] }, { accessFlags := 10, nameIndex := 34, descriptorIndex := 35, attributes := #[] }, { accessFlags := 10, nameIndex := 42, descriptorIndex := 43, attributes := #[] }, { accessFlags := 10, nameIndex := 38, descriptorIndex := 39, attributes := #[] }, { accessFlags := 9, nameIndex := 47, descriptorIndex := 48, attributes := #[] }] 49 2 #[] #[])
  fields := #[]
  methods := #[k1m0, k1m1, k1m2, k1m3, k1m4, k1m5, k1m6]
  instanceTypes := #[]
  staticTypes := #[]
  resolved := Array.replicate 53 none
  statics := none }

def pool2 : Array CpInfo := pool [(2, .class_ 4), (1, u "java/lang/Object"), (0, u "<init>"), (0, u "()V"), (0, .methodref 8 9), (0, .class_ 10), (0, .nameAndType 11 12), (0, u "java/util/Arrays"), (0, u "copyOf"), (0, u "([II)[I"), (10, .class_ 24), (0, u "com/example/vestigium/vestigium/semantics/SortedSets"), (2, u "union"), (0, u "([I[I)[I")] 9

def k2m0 : Method := { name := "<init>", desc := "()V", sig := { parameters := [], returnType := none }, accessFlags := 2, code := none }
def k2c1 : Code := { maxStack := 3, maxLocals := 7, code := prog_68_method_2_code, exceptionTable := #[], attributes := #[] }
def k2m1 : Method := { name := "union", desc := "([I[I)[I", sig := { parameters := [(.array .int), (.array .int)], returnType := some (.array .int) }, accessFlags := 8, code := some k2c1 }
/-- com/example/vestigium/vestigium/semantics/SortedSets -/
def k2 : Class := { plain "com/example/vestigium/vestigium/semantics/SortedSets" (some 0) with
  accessFlags := 32
  interfaces := #[]
  cf := some (fileOf pool2 23 #[] #[{ accessFlags := 2, nameIndex := 5, descriptorIndex := 6, attributes := #[] }, { accessFlags := 8, nameIndex := 27, descriptorIndex := 28, attributes := #[] }] 32 2 #[] #[])
  fields := #[]
  methods := #[k2m0, k2m1]
  instanceTypes := #[]
  staticTypes := #[]
  resolved := Array.replicate 38 none
  statics := none }

def pool3 : Array CpInfo := pool [(2, .class_ 4), (1, u "java/lang/Object"), (0, u "<init>"), (0, u "()V"), (7, .class_ 16), (1, u "java/util/Arrays"), (57, .class_ 76), (1, u "java/util/Arrays$NaturalOrder"), (32, u "()Ljava/lang/Object;"), (3, .class_ 115), (1, u "java/util/Arrays$LegacyMergeSort"), (1, u "Z"), (10, .nameAndType 129 109), (0, u "clone"), (20, .methodref 151 152), (0, .class_ 153), (0, .nameAndType 154 155), (0, u "java/lang/System"), (0, u "arraycopy"), (0, u "(Ljava/lang/Object;ILjava/lang/Object;II)V"), (146, u "copyOf"), (1, .methodref 305 306), (0, .class_ 307), (0, .nameAndType 308 309), (0, u "java/lang/Math"), (0, u "min"), (0, u "(II)I"), (6, .methodref 317 128), (0, .class_ 318), (0, u "[I"), (56, .class_ 376), (0, u "java/util/Arrays$ArrayList"), (68, u "$assertionsDisabled"), (269, u "MIN_ARRAY_SORT_GRAN"), (0, u "I"), (2, u "INSERTIONSORT_THRESHOLD"), (151, u "([II)[I"), (103, .class_ 976), (0, u "java/util/Arrays$ArrayItr")] 52

def k3m0 : Method := { name := "<init>", desc := "()V", sig := { parameters := [], returnType := none }, accessFlags := 2, code := none }
def k3c1 : Code := { maxStack := 6, maxLocals := 3, code := jdk_65_method_123_code, exceptionTable := #[], attributes := #[] }
def k3m1 : Method := { name := "copyOf", desc := "([II)[I", sig := { parameters := [(.array .int), .int], returnType := some (.array .int) }, accessFlags := 9, code := some k3c1 }
/-- java/util/Arrays -/
def k3 : Class := { plain "java/util/Arrays" (some 0) with
  accessFlags := 49
  interfaces := #[]
  cf := some (fileOf pool3 14 #[.nestMembers #[975, 375, 113, 74]] #[{ accessFlags := 2, nameIndex := 5, descriptorIndex := 6, attributes := #[] }, { accessFlags := 9, nameIndex := 302, descriptorIndex := 871, attributes := #[] }] 49 2 #[] #[{ accessFlags := 26, nameIndex := 715, descriptorIndex := 716, attributes := #[] }, { accessFlags := 26, nameIndex := 719, descriptorIndex := 716, attributes := #[] }, { accessFlags := 4120, nameIndex := 445, descriptorIndex := 117, attributes := #[] }])
  fields := #[{ name := "MIN_ARRAY_SORT_GRAN", type := .int, accessFlags := 26, slot := 0, constantValue := 0 }, { name := "INSERTIONSORT_THRESHOLD", type := .int, accessFlags := 26, slot := 1, constantValue := 0 }, { name := "$assertionsDisabled", type := .boolean, accessFlags := 4120, slot := 2, constantValue := 0 }]
  methods := #[k3m0, k3m1]
  instanceTypes := #[]
  staticTypes := #[.int, .int, .boolean]
  resolved := Array.replicate 1029 none
  statics := none }

def pool4 : Array CpInfo := pool [(1, .class_ 2), (0, u "java/lang/Cloneable"), (0, .class_ 4), (0, u "java/lang/Object")] 2

/-- java/lang/Cloneable -/
def k4 : Class := { plain "java/lang/Cloneable" (some 0) with
  accessFlags := 1537
  interfaces := #[]
  cf := some (fileOf pool4 1 #[] #[] 1537 3 #[] #[])
  fields := #[]
  methods := #[]
  instanceTypes := #[]
  staticTypes := #[]
  resolved := Array.replicate 7 none
  statics := none }

def pool5 : Array CpInfo := pool [(1, .class_ 2), (0, u "java/lang/Math"), (1, .class_ 6), (1, u "java/lang/Object"), (0, u "<init>"), (0, u "()V"), (89, .class_ 100), (1, u "java/lang/Math$RandomNumberGeneratorHolder"), (71, u "negativeZeroFloatBits"), (0, u "J"), (2, u "negativeZeroDoubleBits"), (21, u "max"), (2, u "min"), (43, u "$assertionsDisabled"), (0, u "Z"), (88, u "(II)I"), (2, u "twoToTheDoubleScaleDown"), (0, u "D"), (4, u "twoToTheDoubleScaleUp"), (9, u "E"), (3, u "PI"), (2, u "TAU"), (2, u "DEGREES_TO_RADIANS"), (0, u "RADIANS_TO_DEGREES")] 94

def k5m0 : Method := { name := "<init>", desc := "()V", sig := { parameters := [], returnType := none }, accessFlags := 2, code := none }
def k5c1 : Code := { maxStack := 2, maxLocals := 2, code := jdk_29_method_65_code, exceptionTable := #[], attributes := #[] }
def k5m1 : Method := { name := "max", desc := "(II)I", sig := { parameters := [.int, .int], returnType := some .int }, accessFlags := 9, code := some k5c1 }
def k5c2 : Code := { maxStack := 2, maxLocals := 2, code := jdk_29_method_69_code, exceptionTable := #[], attributes := #[] }
def k5m2 : Method := { name := "min", desc := "(II)I", sig := { parameters := [.int, .int], returnType := some .int }, accessFlags := 9, code := some k5c2 }
/-- java/lang/Math -/
def k5 : Class := { plain "java/lang/Math" (some 0) with
  accessFlags := 49
  interfaces := #[]
  cf := some (fileOf pool5 1 #[.nestMembers #[98]] #[{ accessFlags := 2, nameIndex := 7, descriptorIndex := 8, attributes := #[] }, { accessFlags := 9, nameIndex := 198, descriptorIndex := 335, attributes := #[] }, { accessFlags := 9, nameIndex := 201, descriptorIndex := 335, attributes := #[] }] 49 4 #[] #[{ accessFlags := 25, nameIndex := 354, descriptorIndex := 339, attributes := #[] }, { accessFlags := 25, nameIndex := 358, descriptorIndex := 339, attributes := #[] }, { accessFlags := 25, nameIndex := 361, descriptorIndex := 339, attributes := #[] }, { accessFlags := 26, nameIndex := 364, descriptorIndex := 339, attributes := #[] }, { accessFlags := 26, nameIndex := 365, descriptorIndex := 339, attributes := #[] }, { accessFlags := 26, nameIndex := 172, descriptorIndex := 173, attributes := #[] }, { accessFlags := 26, nameIndex := 176, descriptorIndex := 173, attributes := #[] }, { accessFlags := 8, nameIndex := 344, descriptorIndex := 339, attributes := #[] }, { accessFlags := 8, nameIndex := 338, descriptorIndex := 339, attributes := #[] }, { accessFlags := 4120, nameIndex := 245, descriptorIndex := 246, attributes := #[] }])
  fields := #[{ name := "E", type := .double, accessFlags := 25, slot := 0, constantValue := 0 }, { name := "PI", type := .double, accessFlags := 25, slot := 1, constantValue := 0 }, { name := "TAU", type := .double, accessFlags := 25, slot := 2, constantValue := 0 }, { name := "DEGREES_TO_RADIANS", type := .double, accessFlags := 26, slot := 3, constantValue := 0 }, { name := "RADIANS_TO_DEGREES", type := .double, accessFlags := 26, slot := 4, constantValue := 0 }, { name := "negativeZeroFloatBits", type := .long, accessFlags := 26, slot := 5, constantValue := 0 }, { name := "negativeZeroDoubleBits", type := .long, accessFlags := 26, slot := 6, constantValue := 0 }, { name := "twoToTheDoubleScaleUp", type := .double, accessFlags := 8, slot := 7, constantValue := 0 }, { name := "twoToTheDoubleScaleDown", type := .double, accessFlags := 8, slot := 8, constantValue := 0 }, { name := "$assertionsDisabled", type := .boolean, accessFlags := 4120, slot := 9, constantValue := 0 }]
  methods := #[k5m0, k5m1, k5m2]
  instanceTypes := #[]
  staticTypes := #[.double, .double, .double, .double, .double, .long, .long, .double, .double, .boolean]
  resolved := Array.replicate 460 none
  statics := none }

def pool6 : Array CpInfo := pool [(2, .class_ 4), (1, u "java/lang/Object"), (0, u "<init>"), (0, u "()V"), (1, .class_ 10), (1, u "java/lang/System"), (0, u "allowSecurityManager"), (0, u "I"), (16, u "cons"), (0, u "Ljava/io/Console;"), (77, .class_ 110), (1, u "java/lang/System$CallersHolder"), (43, u "initialErrStream"), (0, u "Ljava/io/PrintStream;"), (19, u "security"), (0, u "Ljava/lang/SecurityManager;"), (31, .class_ 209), (0, u "java/lang/System$1"), (7, u "props"), (0, u "Ljava/util/Properties;"), (2, u "lineSeparator"), (0, u "Ljava/lang/String;"), (96, .class_ 321), (1, u "java/lang/System$LoggerFinder"), (5, .class_ 328), (0, u "java/lang/System$Logger"), (67, u "err"), (2, u "out"), (91, u "notSupportedJnuEncoding"), (15, u "in"), (17, u "initialIn"), (0, u "Ljava/io/InputStream;"), (35, u "bootLayer"), (0, u "Ljava/lang/ModuleLayer;"), (99, .class_ 664), (0, u "java/lang/System$2"), (9, u "NEVER"), (2, u "MAYBE"), (49, u "arraycopy"), (0, u "(Ljava/lang/Object;ILjava/lang/Object;II)V"), (72, .class_ 802), (0, u "java/lang/System$Logger$Level")] 31

def k6m0 : Method := { name := "<init>", desc := "()V", sig := { parameters := [], returnType := none }, accessFlags := 2, code := none }
def k6m1 : Method := { name := "arraycopy", desc := "(Ljava/lang/Object;ILjava/lang/Object;II)V", sig := { parameters := [(.object "java/lang/Object"), .int, (.object "java/lang/Object"), .int, .int], returnType := none }, accessFlags := 265, code := none }
/-- java/lang/System -/
def k6 : Class := { plain "java/lang/System" (some 0) with
  accessFlags := 49
  interfaces := #[]
  cf := some (fileOf pool6 8 #[.nestMembers #[319, 327, 801, 108, 663, 208]] #[{ accessFlags := 2, nameIndex := 5, descriptorIndex := 6, attributes := #[] }, { accessFlags := 265, nameIndex := 727, descriptorIndex := 728, attributes := #[] }] 49 2 #[] #[{ accessFlags := 25, nameIndex := 507, descriptorIndex := 526, attributes := #[] }, { accessFlags := 25, nameIndex := 399, descriptorIndex := 155, attributes := #[] }, { accessFlags := 25, nameIndex := 396, descriptorIndex := 155, attributes := #[] }, { accessFlags := 10, nameIndex := 525, descriptorIndex := 526, attributes := #[] }, { accessFlags := 26, nameIndex := 674, descriptorIndex := 12, attributes := #[] }, { accessFlags := 26, nameIndex := 677, descriptorIndex := 12, attributes := #[] }, { accessFlags := 10, nameIndex := 11, descriptorIndex := 12, attributes := #[] }, { accessFlags := 74, nameIndex := 175, descriptorIndex := 176, attributes := #[] }, { accessFlags := 10, nameIndex := 491, descriptorIndex := 222, attributes := #[] }, { accessFlags := 74, nameIndex := 29, descriptorIndex := 30, attributes := #[] }, { accessFlags := 74, nameIndex := 154, descriptorIndex := 155, attributes := #[] }, { accessFlags := 10, nameIndex := 217, descriptorIndex := 218, attributes := #[] }, { accessFlags := 10, nameIndex := 221, descriptorIndex := 222, attributes := #[] }, { accessFlags := 8, nameIndex := 562, descriptorIndex := 563, attributes := #[] }])
  fields := #[{ name := "in", type := (.object "java/io/InputStream"), accessFlags := 25, slot := 0, constantValue := 0 }, { name := "out", type := (.object "java/io/PrintStream"), accessFlags := 25, slot := 1, constantValue := 0 }, { name := "err", type := (.object "java/io/PrintStream"), accessFlags := 25, slot := 2, constantValue := 0 }, { name := "initialIn", type := (.object "java/io/InputStream"), accessFlags := 10, slot := 3, constantValue := 0 }, { name := "NEVER", type := .int, accessFlags := 26, slot := 4, constantValue := 0 }, { name := "MAYBE", type := .int, accessFlags := 26, slot := 5, constantValue := 0 }, { name := "allowSecurityManager", type := .int, accessFlags := 10, slot := 6, constantValue := 0 }, { name := "security", type := (.object "java/lang/SecurityManager"), accessFlags := 74, slot := 7, constantValue := 0 }, { name := "notSupportedJnuEncoding", type := (.object "java/lang/String"), accessFlags := 10, slot := 8, constantValue := 0 }, { name := "cons", type := (.object "java/io/Console"), accessFlags := 74, slot := 9, constantValue := 0 }, { name := "initialErrStream", type := (.object "java/io/PrintStream"), accessFlags := 74, slot := 10, constantValue := 0 }, { name := "props", type := (.object "java/util/Properties"), accessFlags := 10, slot := 11, constantValue := 0 }, { name := "lineSeparator", type := (.object "java/lang/String"), accessFlags := 10, slot := 12, constantValue := 0 }, { name := "bootLayer", type := (.object "java/lang/ModuleLayer"), accessFlags := 8, slot := 13, constantValue := 0 }]
  methods := #[k6m0, k6m1]
  instanceTypes := #[]
  staticTypes := #[(.object "java/io/InputStream"), (.object "java/io/PrintStream"), (.object "java/io/PrintStream"), (.object "java/io/InputStream"), .int, .int, .int, (.object "java/lang/SecurityManager"), (.object "java/lang/String"), (.object "java/io/Console"), (.object "java/io/PrintStream"), (.object "java/util/Properties"), (.object "java/lang/String"), (.object "java/lang/ModuleLayer")]
  resolved := Array.replicate 834 none
  statics := none }

def pool7 : Array CpInfo := pool [(1, u "java/io/Serializable"), (0, .class_ 1), (0, u "java/lang/Object"), (0, .class_ 3)] 3

/-- java/io/Serializable -/
def k7 : Class := { plain "java/io/Serializable" (some 0) with
  accessFlags := 1537
  interfaces := #[]
  cf := some (fileOf pool7 2 #[] #[] 1537 4 #[] #[])
  fields := #[]
  methods := #[]
  instanceTypes := #[]
  staticTypes := #[]
  resolved := Array.replicate 8 none
  statics := none }

/-- the primitive byte -/
def k8 : Class := { plain "byte" none with kind := .primitive 'B', accessFlags := 0x411 }
/-- [B -/
def k9 : Class := { plain "[B" (some 0) with kind := .array 8 .byte, interfaces := #[4, 7], accessFlags := 1041 }

/-- the primitive int -/
def k10 : Class := { plain "int" none with kind := .primitive 'I', accessFlags := 0x411 }
/-- [I -/
def k11 : Class := { plain "[I" (some 0) with kind := .array 10 .int, interfaces := #[4, 7], accessFlags := 1041 }

def heap : Heap := #[]
def classes : Array Class := #[k0, k1, k2, k3, k4, k5, k6, k7, k8, k9, k10, k11]
def interned : List (Array UInt16 × Addr) := []
def slotsUsed : Nat := 0
def theMethod : MethodId := ⟨1, 6⟩
def args0 : Array Value := #[.int 1, .int 2, .int 3, .int 4, .int 37]
def aboutOver (below : List Frame) : State where
  vm := { classes := classes, interned := interned.toArray }
  heap := heap
  slotsUsed := slotsUsed
  threads := #[{ frames := .invoking theMethod args0 :: below }]
def below0 : List Frame := [.native { method := ⟨0, 0⟩, args := #[] }]
def about1 : State := aboutOver below0
def p0 : Program := .bare "" "" ""
def e0 : Env := launch0.env 0 0 0
theorem w_frames : about1.frames = Frame.invoking theMethod args0 :: below0 := rfl
set_option maxRecDepth 65536 in
theorem w_args : argsFit about1.vm theMethod args0 = true := by decide +kernel
set_option maxRecDepth 65536 in
theorem w_heap : heapFits about1 = true := by decide +kernel
set_option maxRecDepth 65536 in
theorem w_runnable : about1.curStatus? = some .runnable := by decide +kernel
set_option maxRecDepth 65536 in
theorem w_alone : about1.alone = true := by decide +kernel
set_option maxRecDepth 65536 in
theorem w_named : about1.methodNamed? x = some theMethod := by decide +kernel
set_option maxRecDepth 65536 in
theorem w_hears : about1.hears theMethod below0 = true := by decide +kernel
set_option maxRecDepth 65536 in
theorem w_ripe : about1.ripe theMethod args0 below0 = true := by decide +kernel
theorem w_running : about1.status = .running := rfl
set_option maxRecDepth 65536 in
theorem w_room : about1.hasRoom e0.platform room_1 = true :=
  launch0.hasRoom_least _ room_1 (by decide +kernel) (by decide +kernel) (by decide +kernel) (by decide +kernel) (by decide +kernel) (by decide +kernel)
theorem allAtoms_all (ts : List Jvm.Cond) (a : Array Jvm.Value) (st : Jvm.State) : (allAtoms ts).before a st = ts.all (fun c => c.before a st) := by
  induction ts with
  | nil => rfl
  | cons c t ih =>
    show (Jvm.Cond.and c (allAtoms t)).before a st = _
    rw [Jvm.Cond.before_and, ih, List.all_cons]
def words1 : List Jvm.Cond := Jvm.Cond.code x code maxLocals ret :: tables_1
/-- a 'code' word, met by the world's own term for the bytes: nothing is compared byte by byte -/
theorem code_word {y : MethodName} {bytes : ByteArray} {mx : Nat} {rt : Option FieldType} {a : Array Value} {s : State} {m : MethodId} {meth : Method} {c : Code} (h1 : s.methodNamed? y = some m) (h2 : s.vm.method? m = some meth) (h3 : meth.code = some c) (h4 : c.code = bytes)
    (h5 : (c.maxLocals == mx && c.exceptionTable.isEmpty && decide (c.maxStack ≤ mostOperands) && decide (meth.sig.returnType = rt) && !meth.locks && decide (parseMethodDescriptor y.desc = some meth.sig)) = true) : (Jvm.Cond.code y bytes mx rt).before a s = true := by
  simp only [Bool.and_eq_true, beq_iff_eq, Bool.not_eq_true', decide_eq_true_eq] at h5
  obtain ⟨⟨⟨⟨⟨g1, g2⟩, g3⟩, g4⟩, g5⟩, g6⟩ := h5
  simp [Cond.before, Cond.holds, Cond.value, h1, h2, h3, h4, g1, g2, g3, g4, g5, g6]
def isCode : Jvm.Cond → Bool
  | .code _ _ _ _ => true
  | _ => false
theorem all_split {L : List Jvm.Cond} {P : Jvm.Cond → Bool} (h1 : L.all (fun c => isCode c || P c) = true) (h2 : ∀ c ∈ L.filter isCode, P c = true) : L.all P = true := by
  refine List.all_eq_true.mpr fun c hc => ?_
  have h := List.all_eq_true.mp h1 c hc
  rcases Bool.eq_false_or_eq_true (isCode c) with hi | hi
  · exact h2 c (List.mem_filter.mpr ⟨hc, hi⟩)
  · simpa [hi] using h
set_option maxRecDepth 65536 in
theorem w_c0 : (Jvm.Cond.code x code maxLocals ret).before args0 about1 = true := code_word (m := ⟨1, 6⟩) (meth := k1m6) (c := k1c6) (by decide +kernel) rfl rfl rfl (by decide +kernel)
set_option maxRecDepth 65536 in
theorem w_c1 : (Jvm.Cond.code ({ cls := "com/example/vestigium/vestigium/semantics/SortedSetsUnionPinLaw", name := "mk", desc := "(III)[I" } : Jvm.MethodName) method_2_code (5 : Nat) (Option.some (Jvm.ClassFile.FieldType.array Jvm.ClassFile.FieldType.int))).before args0 about1 = true := code_word (m := ⟨1, 1⟩) (meth := k1m1) (c := k1c1) (by decide +kernel) rfl rfl rfl (by decide +kernel)
set_option maxRecDepth 65536 in
theorem w_c2 : (Jvm.Cond.code ({ cls := "com/example/vestigium/vestigium/semantics/SortedSets", name := "union", desc := "([I[I)[I" } : Jvm.MethodName) prog_68_method_2_code (7 : Nat) (Option.some (Jvm.ClassFile.FieldType.array Jvm.ClassFile.FieldType.int))).before args0 about1 = true := code_word (m := ⟨2, 1⟩) (meth := k2m1) (c := k2c1) (by decide +kernel) rfl rfl rfl (by decide +kernel)
set_option maxRecDepth 65536 in
theorem w_c3 : (Jvm.Cond.code ({ cls := "java/util/Arrays", name := "copyOf", desc := "([II)[I" } : Jvm.MethodName) jdk_65_method_123_code (3 : Nat) (Option.some (Jvm.ClassFile.FieldType.array Jvm.ClassFile.FieldType.int))).before args0 about1 = true := code_word (m := ⟨3, 1⟩) (meth := k3m1) (c := k3c1) (by decide +kernel) rfl rfl rfl (by decide +kernel)
set_option maxRecDepth 65536 in
theorem w_c4 : (Jvm.Cond.code ({ cls := "com/example/vestigium/vestigium/semantics/SortedSetsUnionPinLaw", name := "inc", desc := "([I)Z" } : Jvm.MethodName) method_4_code (1 : Nat) (Option.some Jvm.ClassFile.FieldType.boolean)).before args0 about1 = true := code_word (m := ⟨1, 3⟩) (meth := k1m3) (c := k1c3) (by decide +kernel) rfl rfl rfl (by decide +kernel)
set_option maxRecDepth 65536 in
theorem w_c5 : (Jvm.Cond.code ({ cls := "com/example/vestigium/vestigium/semantics/SortedSetsUnionPinLaw", name := "allIn", desc := "([I[I)Z" } : Jvm.MethodName) method_6_code (2 : Nat) (Option.some Jvm.ClassFile.FieldType.boolean)).before args0 about1 = true := code_word (m := ⟨1, 5⟩) (meth := k1m5) (c := k1c5) (by decide +kernel) rfl rfl rfl (by decide +kernel)
set_option maxRecDepth 65536 in
theorem w_c6 : (Jvm.Cond.code ({ cls := "com/example/vestigium/vestigium/semantics/SortedSetsUnionPinLaw", name := "fromEither", desc := "([II[I[I)Z" } : Jvm.MethodName) method_5_code (4 : Nat) (Option.some Jvm.ClassFile.FieldType.boolean)).before args0 about1 = true := code_word (m := ⟨1, 4⟩) (meth := k1m4) (c := k1c4) (by decide +kernel) rfl rfl rfl (by decide +kernel)
set_option maxRecDepth 65536 in
theorem w_c7 : (Jvm.Cond.code ({ cls := "java/lang/Math", name := "min", desc := "(II)I" } : Jvm.MethodName) jdk_29_method_69_code (2 : Nat) (Option.some Jvm.ClassFile.FieldType.int)).before args0 about1 = true := code_word (m := ⟨5, 2⟩) (meth := k5m2) (c := k5c2) (by decide +kernel) rfl rfl rfl (by decide +kernel)
set_option maxRecDepth 65536 in
theorem w_c8 : (Jvm.Cond.code ({ cls := "java/lang/Math", name := "max", desc := "(II)I" } : Jvm.MethodName) jdk_29_method_65_code (2 : Nat) (Option.some Jvm.ClassFile.FieldType.int)).before args0 about1 = true := code_word (m := ⟨5, 1⟩) (meth := k5m1) (c := k5c1) (by decide +kernel) rfl rfl rfl (by decide +kernel)
set_option maxRecDepth 65536 in
theorem w_c9 : (Jvm.Cond.code ({ cls := "com/example/vestigium/vestigium/semantics/SortedSetsUnionPinLaw", name := "has", desc := "([II)Z" } : Jvm.MethodName) method_3_code (2 : Nat) (Option.some Jvm.ClassFile.FieldType.boolean)).before args0 about1 = true := code_word (m := ⟨1, 2⟩) (meth := k1m2) (c := k1c2) (by decide +kernel) rfl rfl rfl (by decide +kernel)
def codes1 : List Jvm.Cond := [Jvm.Cond.code x code maxLocals ret, Jvm.Cond.code ({ cls := "com/example/vestigium/vestigium/semantics/SortedSetsUnionPinLaw", name := "mk", desc := "(III)[I" } : Jvm.MethodName) method_2_code (5 : Nat) (Option.some (Jvm.ClassFile.FieldType.array Jvm.ClassFile.FieldType.int)), Jvm.Cond.code ({ cls := "com/example/vestigium/vestigium/semantics/SortedSets", name := "union", desc := "([I[I)[I" } : Jvm.MethodName) prog_68_method_2_code (7 : Nat) (Option.some (Jvm.ClassFile.FieldType.array Jvm.ClassFile.FieldType.int)), Jvm.Cond.code ({ cls := "java/util/Arrays", name := "copyOf", desc := "([II)[I" } : Jvm.MethodName) jdk_65_method_123_code (3 : Nat) (Option.some (Jvm.ClassFile.FieldType.array Jvm.ClassFile.FieldType.int)), Jvm.Cond.code ({ cls := "com/example/vestigium/vestigium/semantics/SortedSetsUnionPinLaw", name := "inc", desc := "([I)Z" } : Jvm.MethodName) method_4_code (1 : Nat) (Option.some Jvm.ClassFile.FieldType.boolean), Jvm.Cond.code ({ cls := "com/example/vestigium/vestigium/semantics/SortedSetsUnionPinLaw", name := "allIn", desc := "([I[I)Z" } : Jvm.MethodName) method_6_code (2 : Nat) (Option.some Jvm.ClassFile.FieldType.boolean), Jvm.Cond.code ({ cls := "com/example/vestigium/vestigium/semantics/SortedSetsUnionPinLaw", name := "fromEither", desc := "([II[I[I)Z" } : Jvm.MethodName) method_5_code (4 : Nat) (Option.some Jvm.ClassFile.FieldType.boolean), Jvm.Cond.code ({ cls := "java/lang/Math", name := "min", desc := "(II)I" } : Jvm.MethodName) jdk_29_method_69_code (2 : Nat) (Option.some Jvm.ClassFile.FieldType.int), Jvm.Cond.code ({ cls := "java/lang/Math", name := "max", desc := "(II)I" } : Jvm.MethodName) jdk_29_method_65_code (2 : Nat) (Option.some Jvm.ClassFile.FieldType.int), Jvm.Cond.code ({ cls := "com/example/vestigium/vestigium/semantics/SortedSetsUnionPinLaw", name := "has", desc := "([II)Z" } : Jvm.MethodName) method_3_code (2 : Nat) (Option.some Jvm.ClassFile.FieldType.boolean)]
set_option maxRecDepth 65536 in
theorem codes_eq : words1.filter isCode = codes1 := rfl
theorem w_codes : ∀ c ∈ words1.filter isCode, c.before args0 about1 = true := by
  rw [codes_eq]
  intro c hc
  simp only [codes1, List.mem_cons, List.not_mem_nil, or_false] at hc
  rcases hc with rfl | rfl | rfl | rfl | rfl | rfl | rfl | rfl | rfl | rfl
  · exact w_c0
  · exact w_c1
  · exact w_c2
  · exact w_c3
  · exact w_c4
  · exact w_c5
  · exact w_c6
  · exact w_c7
  · exact w_c8
  · exact w_c9
set_option maxRecDepth 65536 in
theorem w_t1 : (words1.take 24).all (fun c => isCode c || c.before args0 about1) = true := by decide +kernel
set_option maxRecDepth 65536 in
theorem w_t2 : (words1.drop 24).all (fun c => isCode c || c.before args0 about1) = true := by decide +kernel
theorem w_tables : (allAtoms (Jvm.Cond.code x code maxLocals ret :: tables_1)).before args0 about1 = true := by
  rw [allAtoms_all]
  show words1.all (fun c => c.before args0 about1) = true
  refine all_split ?_ w_codes
  rw [← List.take_append_drop 24 words1, List.all_append, w_t1, w_t2]
  rfl
set_option maxRecDepth 65536 in
theorem w_case : (Jvm.Cond.and given_1 narrow_1).before args0 about1 = true := by decide +kernel
theorem w_applies : (headSpec (Jvm.Cond.code x code maxLocals ret :: tables_1) room_1).applies x e0.platform about1 = true :=
  (Spec.applies_iff w_frames).mpr ⟨w_running, w_runnable, w_alone, w_named, w_hears, w_ripe, w_room, w_tables⟩
theorem atStart : AtStart classFile x code maxLocals ret World_1 tables_1 room_1 Calls_1 rest_1 Pre_1 launch0 p0 e0 about1 theMethod args0 below0 :=
  ⟨lists_1, trivial, launch0.admits_env _ _ _, launch0.least_env, fairChoices_fair.cas, fairChoices_fair.clock, w_frames, w_args, w_heap, w_applies, trivial, trivial, w_case⟩
end start1
theorem witness_1 : WitnessClaimed_1 := ⟨start1.p0, start1.e0, start1.about1, start1.theMethod, start1.args0, start1.below0, start1.atStart⟩
end Jvm.Pilot.@@N@@
