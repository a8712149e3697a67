import JvmDerived
import JvmDerived.Pilot.@@N@@Statement
import JvmDerived.Pilot.@@N@@Code
set_option linter.unusedVariables false
set_option linter.unusedSimpArgs false
namespace Jvm.OwnKit
open Sem ClassFile Op Lib Jvm.Stand Jvm.Free Jvm.LawKit Jvm.RoadKit
/-! My own layer: a walk forward. Done G S: from the state S the invocation comes to its end, and G holds there. -/
def Done (p : Program) (e : Env) (below : List Frame) (G : Outcome → State → Prop) (S : State) : Prop :=
  ∃ s₂ o, Steps p.tables e below S s₂ ∧ s₂.status = .running ∧ Ended s₂ below o ∧ G o s₂
/-- what a contract promises at the end: the value, the heap; all that was written lies at or above n0 -/
def OEnd (s : State) (R : Room) (n0 : Nat) (Q : Option Value → Heap → Prop) (o : Outcome) (U : State) : Prop :=
  ∃ v L, o = .returned v ∧ (Q v U.heap ∧ Fr n0 L) ∧ FrameEnd s o U L R.cells R.slots
/-- where the walk stands: a Stand whose writes lie at or above n0, and its heap -/
def St (p : Program) (l : Launch) (e : Env) (R : Room) (s : State) (m : MethodId) (args : Array Value) (below : List Frame) (meth : Method) (c : Code) (n0 : Nat) (T : State) (h : Heap) (k n : Nat) : Prop :=
  ∃ locs, Stand p l e R s m args below meth c T locs k n ∧ Fr n0 locs ∧ T.heap = h
/-- a contract of a body -/
def Con (l : Launch) (Z : State) (y : MethodName) (bytes : ByteArray) (maxL : Nat) (ret : Option FieldType) (rm : Room) (n0 : Nat) (h0 : Heap) (as' : Array Value) (Q : Option Value → Heap → Prop) : Prop :=
  ∀ ws : List Jvm.Cond, MetFree l y (head1 (Jvm.Cond.code y bytes maxL ret :: ws) rm) (fun a U => a = as' ∧ Z.Warmed39 U.vm ∧ U.heap = h0) (fun _ _ _ _ _ => True) (fun _ U o U' => OEnd U rm n0 Q o U')
section Walk
variable {p : Program} {l : Launch} {e : Env} {R : Room} {s : State} {m : MethodId} {args : Array Value} {below : List Frame} {meth : Method} {c : Code} {n0 : Nat} {T : State} {h : Heap} {k n : Nat} {Z : State} {a0 : Array Value}
variable {G : Outcome → State → Prop} {pc pc' : Nat} {Ls Ls' : Array Slot} {st : List Value}
theorem Done.go {S S' : State} (f : ∀ t, Steps p.tables e below S' t → Steps p.tables e below S t) (d : Done p e below G S') : Done p e below G S := by
  obtain ⟨s₂, o, h1, h2⟩ := d
  exact ⟨s₂, o, f _ h1, h2⟩
theorem St.here (S : St p l e R s m args below meth c n0 T h k n) : At T m c below := by
  obtain ⟨_, X, _⟩ := S
  exact X.here
theorem St.heap (S : St p l e R s m args below meth c n0 T h k n) : T.heap = h := by
  obtain ⟨_, _, _, q⟩ := S
  exact q
theorem St.more {k' n' : Nat} (S : St p l e R s m args below meth c n0 T h k n) (hk : k ≤ k') (hn : n ≤ n') : St p l e R s m args below meth c n0 T h k' n' := by
  obtain ⟨L, X, N, q⟩ := S
  exact ⟨L, X.more hk hn, N, q⟩
theorem Con.intro {y : MethodName} {bytes : ByteArray} {maxL : Nat} {ret : Option FieldType} {rm : Room} {h0 : Heap} {as' : Array Value} {Q : Option Value → Heap → Prop}
    (hp : plainFor y = true) (hef : ∀ m, entryFrame m as' maxL = mkF m 0 Ls [])
    (body : ∀ (p : Program) (e : Env) (s : State) (m : MethodId) (below : List Frame) (meth : Method) (c : Code) (s₁ : State), p.tables.exec = Jvm.exec → c.code = bytes → c.maxLocals = maxL → s.vm.findClass y.cls = some m.cls → meth.name = y.name →
      meth.sig.returnType = ret → meth.locks = false → Z.Warmed39 s.vm → St p l e rm s m as' below meth c n0 s₁ h0 0 0 → Done p e below (OEnd s rm n0 Q) (s₁.setTop (mkF m 0 Ls []))) :
    Con l Z y bytes maxL ret rm n0 h0 as' Q := by
  intro ws
  refine MetFree.of_bodySF hp hisR ?_
  intro p e s m args below meth c s₁ Bd hml0 hP hK
  obtain ⟨rfl, hZ, hh⟩ := hP
  have hr := body p e s m below meth c s₁ Bd.exec Bd.bytes hml0 (findClass_of_methodNamed Bd.named) (name_of_methodNamed Bd.named Bd.method).1 Bd.returns Bd.notSynchronized hZ ⟨[], Stand.of_body Bd, Fr.nil n0, by rw [← hh, Bd.state]; rfl⟩
  rw [← hef m] at hr
  exact hr
/-! ### single steps -/
theorem k_iload (A : At T m c below) (hx : p.tables.exec = Jvm.exec) {i : Nat} {v : Int32} (hd : decode c.code pc = .ok (.iload i, 2)) (hl : Ls[i]? = some (.val (.int v))) (hp : pc + 2 = pc')
    (K : Done p e below G (T.setTop (mkF m pc' Ls (.int v :: st)))) : Done p e below G (T.setTop (mkF m pc Ls st)) := by
  subst hp; exact Done.go (fun t q => XS.iload A hx rfl hd hl q) K
theorem k_iloadN (A : At T m c below) (hx : p.tables.exec = Jvm.exec) {i : Fin 4} {v : Int32} (hd : decode c.code pc = .ok (.iload_n i, 1)) (hl : Ls[i.val]? = some (.val (.int v))) (hp : pc + 1 = pc')
    (K : Done p e below G (T.setTop (mkF m pc' Ls (.int v :: st)))) : Done p e below G (T.setTop (mkF m pc Ls st)) := by
  subst hp; exact Done.go (fun t q => XS.iloadN A hx rfl hd hl q) K
theorem k_istore (A : At T m c below) (hx : p.tables.exec = Jvm.exec) {i : Nat} {v : Int32} (hd : decode c.code pc = .ok (.istore i, 2)) (hl : storeLocals Ls i (.int v) = some Ls') (hp : pc + 2 = pc')
    (K : Done p e below G (T.setTop (mkF m pc' Ls' st))) : Done p e below G (T.setTop (mkF m pc Ls (.int v :: st))) := by
  subst hp; exact Done.go (fun t q => XS.istore A hx rfl hd rfl hl q) K
theorem k_istoreN (A : At T m c below) (hx : p.tables.exec = Jvm.exec) {i : Fin 4} {v : Int32} (hd : decode c.code pc = .ok (.istore_n i, 1)) (hl : storeLocals Ls i.val (.int v) = some Ls') (hp : pc + 1 = pc')
    (K : Done p e below G (T.setTop (mkF m pc' Ls' st))) : Done p e below G (T.setTop (mkF m pc Ls (.int v :: st))) := by
  subst hp; exact Done.go (fun t q => XS.istoreN A hx rfl hd rfl hl q) K
theorem k_lload (A : At T m c below) (hx : p.tables.exec = Jvm.exec) {i : Nat} {v : Int64} (hd : decode c.code pc = .ok (.lload i, 2)) (hl : Ls[i]? = some (.val (.long v))) (hp : pc + 2 = pc')
    (K : Done p e below G (T.setTop (mkF m pc' Ls (.long v :: st)))) : Done p e below G (T.setTop (mkF m pc Ls st)) := by
  subst hp; exact Done.go (fun t q => XS.lload A hx rfl hd hl q) K
theorem k_lloadN (A : At T m c below) (hx : p.tables.exec = Jvm.exec) {i : Fin 4} {v : Int64} (hd : decode c.code pc = .ok (.lload_n i, 1)) (hl : Ls[i.val]? = some (.val (.long v))) (hp : pc + 1 = pc')
    (K : Done p e below G (T.setTop (mkF m pc' Ls (.long v :: st)))) : Done p e below G (T.setTop (mkF m pc Ls st)) := by
  subst hp; exact Done.go (fun t q => XS.lloadN A hx rfl hd hl q) K
theorem k_lstore (A : At T m c below) (hx : p.tables.exec = Jvm.exec) {i : Nat} {v : Int64} (hd : decode c.code pc = .ok (.lstore i, 2)) (hl : storeLocals Ls i (.long v) = some Ls') (hp : pc + 2 = pc')
    (K : Done p e below G (T.setTop (mkF m pc' Ls' st))) : Done p e below G (T.setTop (mkF m pc Ls (.long v :: st))) := by
  subst hp; exact Done.go (fun t q => XS.lstore A hx rfl hd rfl hl q) K
theorem k_lstoreN (A : At T m c below) (hx : p.tables.exec = Jvm.exec) {i : Fin 4} {v : Int64} (hd : decode c.code pc = .ok (.lstore_n i, 1)) (hl : storeLocals Ls i.val (.long v) = some Ls') (hp : pc + 1 = pc')
    (K : Done p e below G (T.setTop (mkF m pc' Ls' st))) : Done p e below G (T.setTop (mkF m pc Ls (.long v :: st))) := by
  subst hp; exact Done.go (fun t q => XS.lstoreN A hx rfl hd rfl hl q) K
theorem k_aload (A : At T m c below) (hx : p.tables.exec = Jvm.exec) {i : Nat} {v : Value} (hd : decode c.code pc = .ok (.aload i, 2)) (hl : Ls[i]? = some (.val v)) (hv : v.isRef = true) (hp : pc + 2 = pc')
    (K : Done p e below G (T.setTop (mkF m pc' Ls (v :: st)))) : Done p e below G (T.setTop (mkF m pc Ls st)) := by
  subst hp; exact Done.go (fun t q => XS.aload A hx rfl hd hl hv q) K
theorem k_aloadN (A : At T m c below) (hx : p.tables.exec = Jvm.exec) {i : Fin 4} {v : Value} (hd : decode c.code pc = .ok (.aload_n i, 1)) (hl : Ls[i.val]? = some (.val v)) (hv : v.isRef = true) (hp : pc + 1 = pc')
    (K : Done p e below G (T.setTop (mkF m pc' Ls (v :: st)))) : Done p e below G (T.setTop (mkF m pc Ls st)) := by
  subst hp; exact Done.go (fun t q => XS.aloadN A hx rfl hd hl hv q) K
theorem k_astore (A : At T m c below) (hx : p.tables.exec = Jvm.exec) {i : Nat} {v : Value} (hd : decode c.code pc = .ok (.astore i, 2)) (hv : v.isRef = true) (hl : storeLocals Ls i v = some Ls') (hp : pc + 2 = pc')
    (K : Done p e below G (T.setTop (mkF m pc' Ls' st))) : Done p e below G (T.setTop (mkF m pc Ls (v :: st))) := by
  subst hp; exact Done.go (fun t q => XS.astore A hx rfl hd rfl hv hl q) K
theorem k_astoreN (A : At T m c below) (hx : p.tables.exec = Jvm.exec) {i : Fin 4} {v : Value} (hd : decode c.code pc = .ok (.astore_n i, 1)) (hv : v.isRef = true) (hl : storeLocals Ls i.val v = some Ls') (hp : pc + 1 = pc')
    (K : Done p e below G (T.setTop (mkF m pc' Ls' st))) : Done p e below G (T.setTop (mkF m pc Ls (v :: st))) := by
  subst hp; exact Done.go (fun t q => XS.astoreN A hx rfl hd rfl hv hl q) K
theorem k_iconst (A : At T m c below) (hx : p.tables.exec = Jvm.exec) {i : Int} {v : Int32} (hd : decode c.code pc = .ok (.iconst i, 1)) (hv : Int32.ofInt i = v) (hp : pc + 1 = pc')
    (K : Done p e below G (T.setTop (mkF m pc' Ls (.int v :: st)))) : Done p e below G (T.setTop (mkF m pc Ls st)) := by
  subst hp hv; exact Done.go (fun t q => XS.iconst A hx rfl hd q) K
theorem k_bipush (A : At T m c below) (hx : p.tables.exec = Jvm.exec) {i : Int} {v : Int32} (hd : decode c.code pc = .ok (.bipush i, 2)) (hv : (Int8.ofInt i).toInt32 = v) (hp : pc + 2 = pc')
    (K : Done p e below G (T.setTop (mkF m pc' Ls (.int v :: st)))) : Done p e below G (T.setTop (mkF m pc Ls st)) := by
  subst hp hv; exact Done.go (fun t q => XS.bipush A hx rfl hd q) K
theorem k_sipush (A : At T m c below) (hx : p.tables.exec = Jvm.exec) {i : Int} {v : Int32} (hd : decode c.code pc = .ok (.sipush i, 3)) (hv : (Int16.ofInt i).toInt32 = v) (hp : pc + 3 = pc')
    (K : Done p e below G (T.setTop (mkF m pc' Ls (.int v :: st)))) : Done p e below G (T.setTop (mkF m pc Ls st)) := by
  subst hp hv; exact Done.go (fun t q => XS.sipush A hx rfl hd q) K
theorem k_lconst (A : At T m c below) (hx : p.tables.exec = Jvm.exec) {i : Fin 2} {v : Int64} (hd : decode c.code pc = .ok (.lconst i, 1)) (hv : Int64.ofNat i = v) (hp : pc + 1 = pc')
    (K : Done p e below G (T.setTop (mkF m pc' Ls (.long v :: st)))) : Done p e below G (T.setTop (mkF m pc Ls st)) := by
  subst hp hv; exact Done.go (fun t q => XS.lconst A hx rfl hd q) K
theorem k_aconstNull (A : At T m c below) (hx : p.tables.exec = Jvm.exec)  (hd : decode c.code pc = .ok (.aconst_null, 1)) (hp : pc + 1 = pc')
    (K : Done p e below G (T.setTop (mkF m pc' Ls (.null :: st)))) : Done p e below G (T.setTop (mkF m pc Ls st)) := by
  subst hp; exact Done.go (fun t q => XS.aconstNull A hx rfl hd q) K
theorem k_dup (A : At T m c below) (hx : p.tables.exec = Jvm.exec) {v : Value} (hd : decode c.code pc = .ok (.dup, 1)) (hv : v.category = 1) (hp : pc + 1 = pc')
    (K : Done p e below G (T.setTop (mkF m pc' Ls (v :: v :: st)))) : Done p e below G (T.setTop (mkF m pc Ls (v :: st))) := by
  subst hp; exact Done.go (fun t q => XS.dup A hx rfl hd rfl hv q) K
theorem k_pop (A : At T m c below) (hx : p.tables.exec = Jvm.exec) {v : Value} (hd : decode c.code pc = .ok (.pop, 1)) (hv : v.category = 1) (hp : pc + 1 = pc')
    (K : Done p e below G (T.setTop (mkF m pc' Ls st))) : Done p e below G (T.setTop (mkF m pc Ls (v :: st))) := by
  subst hp; exact Done.go (fun t q => XS.pop A hx rfl hd rfl hv q) K
theorem k_dupX1 (A : At T m c below) (hx : p.tables.exec = Jvm.exec) {v w : Value} (hd : decode c.code pc = .ok (.dup_x1, 1)) (hv : v.category = 1) (hw : w.category = 1) (hp : pc + 1 = pc')
    (K : Done p e below G (T.setTop (mkF m pc' Ls (v :: w :: v :: st)))) : Done p e below G (T.setTop (mkF m pc Ls (v :: w :: st))) := by
  subst hp; exact Done.go (fun t q => XS.dupX1 A hx rfl hd rfl hv hw q) K
theorem k_iadd (A : At T m c below) (hx : p.tables.exec = Jvm.exec) {x y : Int32} (hd : decode c.code pc = .ok (.iadd, 1)) (hp : pc + 1 = pc')
    (K : Done p e below G (T.setTop (mkF m pc' Ls (.int (x + y) :: st)))) : Done p e below G (T.setTop (mkF m pc Ls (.int y :: .int x :: st))) := by
  subst hp; exact Done.go (fun t q => XS.iadd A hx rfl hd rfl q) K
theorem k_isub (A : At T m c below) (hx : p.tables.exec = Jvm.exec) {x y : Int32} (hd : decode c.code pc = .ok (.isub, 1)) (hp : pc + 1 = pc')
    (K : Done p e below G (T.setTop (mkF m pc' Ls (.int (x - y) :: st)))) : Done p e below G (T.setTop (mkF m pc Ls (.int y :: .int x :: st))) := by
  subst hp; exact Done.go (fun t q => XS.isub A hx rfl hd rfl q) K
theorem k_imul (A : At T m c below) (hx : p.tables.exec = Jvm.exec) {x y : Int32} (hd : decode c.code pc = .ok (.imul, 1)) (hp : pc + 1 = pc')
    (K : Done p e below G (T.setTop (mkF m pc' Ls (.int (x * y) :: st)))) : Done p e below G (T.setTop (mkF m pc Ls (.int y :: .int x :: st))) := by
  subst hp; exact Done.go (fun t q => XS.imul A hx rfl hd rfl q) K
theorem k_iand (A : At T m c below) (hx : p.tables.exec = Jvm.exec) {x y : Int32} (hd : decode c.code pc = .ok (.iand, 1)) (hp : pc + 1 = pc')
    (K : Done p e below G (T.setTop (mkF m pc' Ls (.int (x &&& y) :: st)))) : Done p e below G (T.setTop (mkF m pc Ls (.int y :: .int x :: st))) := by
  subst hp; exact Done.go (fun t q => XS.iand A hx rfl hd rfl q) K
theorem k_ior (A : At T m c below) (hx : p.tables.exec = Jvm.exec) {x y : Int32} (hd : decode c.code pc = .ok (.ior, 1)) (hp : pc + 1 = pc')
    (K : Done p e below G (T.setTop (mkF m pc' Ls (.int (x ||| y) :: st)))) : Done p e below G (T.setTop (mkF m pc Ls (.int y :: .int x :: st))) := by
  subst hp; exact Done.go (fun t q => XS.ior A hx rfl hd rfl q) K
theorem k_ixor (A : At T m c below) (hx : p.tables.exec = Jvm.exec) {x y : Int32} (hd : decode c.code pc = .ok (.ixor, 1)) (hp : pc + 1 = pc')
    (K : Done p e below G (T.setTop (mkF m pc' Ls (.int (x ^^^ y) :: st)))) : Done p e below G (T.setTop (mkF m pc Ls (.int y :: .int x :: st))) := by
  subst hp; exact Done.go (fun t q => XS.ixor A hx rfl hd rfl q) K
theorem k_ishl (A : At T m c below) (hx : p.tables.exec = Jvm.exec) {x y : Int32} (hd : decode c.code pc = .ok (.ishl, 1)) (hp : pc + 1 = pc')
    (K : Done p e below G (T.setTop (mkF m pc' Ls (.int (x <<< (y &&& 31)) :: st)))) : Done p e below G (T.setTop (mkF m pc Ls (.int y :: .int x :: st))) := by
  subst hp; exact Done.go (fun t q => XS.ishl A hx rfl hd rfl q) K
theorem k_ishr (A : At T m c below) (hx : p.tables.exec = Jvm.exec) {x y : Int32} (hd : decode c.code pc = .ok (.ishr, 1)) (hp : pc + 1 = pc')
    (K : Done p e below G (T.setTop (mkF m pc' Ls (.int (x >>> (y &&& 31)) :: st)))) : Done p e below G (T.setTop (mkF m pc Ls (.int y :: .int x :: st))) := by
  subst hp; exact Done.go (fun t q => XS.ishr A hx rfl hd rfl q) K
theorem k_iushr (A : At T m c below) (hx : p.tables.exec = Jvm.exec) {x y : Int32} (hd : decode c.code pc = .ok (.iushr, 1)) (hp : pc + 1 = pc')
    (K : Done p e below G (T.setTop (mkF m pc' Ls (.int ((x.toUInt32 >>> (y &&& 31).toUInt32).toInt32) :: st)))) : Done p e below G (T.setTop (mkF m pc Ls (.int y :: .int x :: st))) := by
  subst hp; exact Done.go (fun t q => XS.iushr A hx rfl hd rfl q) K
theorem k_ladd (A : At T m c below) (hx : p.tables.exec = Jvm.exec) {x y : Int64} (hd : decode c.code pc = .ok (.ladd, 1)) (hp : pc + 1 = pc')
    (K : Done p e below G (T.setTop (mkF m pc' Ls (.long (x + y) :: st)))) : Done p e below G (T.setTop (mkF m pc Ls (.long y :: .long x :: st))) := by
  subst hp; exact Done.go (fun t q => XS.ladd A hx rfl hd rfl q) K
theorem k_lsub (A : At T m c below) (hx : p.tables.exec = Jvm.exec) {x y : Int64} (hd : decode c.code pc = .ok (.lsub, 1)) (hp : pc + 1 = pc')
    (K : Done p e below G (T.setTop (mkF m pc' Ls (.long (x - y) :: st)))) : Done p e below G (T.setTop (mkF m pc Ls (.long y :: .long x :: st))) := by
  subst hp; exact Done.go (fun t q => XS.lsub A hx rfl hd rfl q) K
theorem k_lmul (A : At T m c below) (hx : p.tables.exec = Jvm.exec) {x y : Int64} (hd : decode c.code pc = .ok (.lmul, 1)) (hp : pc + 1 = pc')
    (K : Done p e below G (T.setTop (mkF m pc' Ls (.long (x * y) :: st)))) : Done p e below G (T.setTop (mkF m pc Ls (.long y :: .long x :: st))) := by
  subst hp; exact Done.go (fun t q => XS.lmul A hx rfl hd rfl q) K
theorem k_land (A : At T m c below) (hx : p.tables.exec = Jvm.exec) {x y : Int64} (hd : decode c.code pc = .ok (.land, 1)) (hp : pc + 1 = pc')
    (K : Done p e below G (T.setTop (mkF m pc' Ls (.long (x &&& y) :: st)))) : Done p e below G (T.setTop (mkF m pc Ls (.long y :: .long x :: st))) := by
  subst hp; exact Done.go (fun t q => XS.land A hx rfl hd rfl q) K
theorem k_lor (A : At T m c below) (hx : p.tables.exec = Jvm.exec) {x y : Int64} (hd : decode c.code pc = .ok (.lor, 1)) (hp : pc + 1 = pc')
    (K : Done p e below G (T.setTop (mkF m pc' Ls (.long (x ||| y) :: st)))) : Done p e below G (T.setTop (mkF m pc Ls (.long y :: .long x :: st))) := by
  subst hp; exact Done.go (fun t q => XS.lor A hx rfl hd rfl q) K
theorem k_lxor (A : At T m c below) (hx : p.tables.exec = Jvm.exec) {x y : Int64} (hd : decode c.code pc = .ok (.lxor, 1)) (hp : pc + 1 = pc')
    (K : Done p e below G (T.setTop (mkF m pc' Ls (.long (x ^^^ y) :: st)))) : Done p e below G (T.setTop (mkF m pc Ls (.long y :: .long x :: st))) := by
  subst hp; exact Done.go (fun t q => XS.lxor A hx rfl hd rfl q) K
theorem k_lshl (A : At T m c below) (hx : p.tables.exec = Jvm.exec) {x : Int64} {y : Int32} (hd : decode c.code pc = .ok (.lshl, 1)) (hp : pc + 1 = pc')
    (K : Done p e below G (T.setTop (mkF m pc' Ls (.long (x <<< (y &&& 0x3f).toInt64) :: st)))) : Done p e below G (T.setTop (mkF m pc Ls (.int y :: .long x :: st))) := by
  subst hp; exact Done.go (fun t q => XS.lshl A hx rfl hd rfl q) K
theorem k_lshr (A : At T m c below) (hx : p.tables.exec = Jvm.exec) {x : Int64} {y : Int32} (hd : decode c.code pc = .ok (.lshr, 1)) (hp : pc + 1 = pc')
    (K : Done p e below G (T.setTop (mkF m pc' Ls (.long (x >>> (y &&& 0x3f).toInt64) :: st)))) : Done p e below G (T.setTop (mkF m pc Ls (.int y :: .long x :: st))) := by
  subst hp; exact Done.go (fun t q => XS.lshr A hx rfl hd rfl q) K
theorem k_lushr (A : At T m c below) (hx : p.tables.exec = Jvm.exec) {x : Int64} {y : Int32} (hd : decode c.code pc = .ok (.lushr, 1)) (hp : pc + 1 = pc')
    (K : Done p e below G (T.setTop (mkF m pc' Ls (.long ((x.toUInt64 >>> (y &&& 0x3f).toInt64.toUInt64).toInt64) :: st)))) : Done p e below G (T.setTop (mkF m pc Ls (.int y :: .long x :: st))) := by
  subst hp; exact Done.go (fun t q => XS.lushr A hx rfl hd rfl q) K
theorem k_idiv (A : At T m c below) (hx : p.tables.exec = Jvm.exec) {x y : Int32} (hd : decode c.code pc = .ok (.idiv, 1)) (hy : y ≠ 0) (hp : pc + 1 = pc')
    (K : Done p e below G (T.setTop (mkF m pc' Ls (.int (x / y) :: st)))) : Done p e below G (T.setTop (mkF m pc Ls (.int y :: .int x :: st))) := by
  subst hp; exact Done.go (fun t q => XS.idiv A hx rfl hd rfl hy q) K
theorem k_ldiv (A : At T m c below) (hx : p.tables.exec = Jvm.exec) {x y : Int64} (hd : decode c.code pc = .ok (.ldiv, 1)) (hy : y ≠ 0) (hp : pc + 1 = pc')
    (K : Done p e below G (T.setTop (mkF m pc' Ls (.long (x / y) :: st)))) : Done p e below G (T.setTop (mkF m pc Ls (.long y :: .long x :: st))) := by
  subst hp; exact Done.go (fun t q => XS.ldiv A hx rfl hd rfl hy q) K
theorem k_irem (A : At T m c below) (hx : p.tables.exec = Jvm.exec) {x y : Int32} (hd : decode c.code pc = .ok (.irem, 1)) (hy : y ≠ 0) (hp : pc + 1 = pc')
    (K : Done p e below G (T.setTop (mkF m pc' Ls (.int (x % y) :: st)))) : Done p e below G (T.setTop (mkF m pc Ls (.int y :: .int x :: st))) := by
  subst hp; have q0 : x - x / y * y = x % y := irem_eq_mod x y
  rw [← q0] at K
  exact Done.go (fun t q => XS.irem A hx rfl hd rfl hy q) K
theorem k_lrem (A : At T m c below) (hx : p.tables.exec = Jvm.exec) {x y : Int64} (hd : decode c.code pc = .ok (.lrem, 1)) (hy : y ≠ 0) (hp : pc + 1 = pc')
    (K : Done p e below G (T.setTop (mkF m pc' Ls (.long (x % y) :: st)))) : Done p e below G (T.setTop (mkF m pc Ls (.long y :: .long x :: st))) := by
  subst hp
  rw [← lrem_mod x y] at K
  exact Done.go (fun t q => XS.lrem A hx rfl hd rfl hy q) K
theorem k_lcmp (A : At T m c below) (hx : p.tables.exec = Jvm.exec) {x y : Int64} (hd : decode c.code pc = .ok (.lcmp, 1)) (hp : pc + 1 = pc')
    (K : Done p e below G (T.setTop (mkF m pc' Ls (.int (lcmpW x y) :: st)))) : Done p e below G (T.setTop (mkF m pc Ls (.long y :: .long x :: st))) := by
  subst hp; exact Done.go (fun t q => XS.lcmp A hx rfl hd rfl q) K
theorem k_ineg (A : At T m c below) (hx : p.tables.exec = Jvm.exec) {x : Int32} (hd : decode c.code pc = .ok (.ineg, 1)) (hp : pc + 1 = pc')
    (K : Done p e below G (T.setTop (mkF m pc' Ls (.int (-x) :: st)))) : Done p e below G (T.setTop (mkF m pc Ls (.int x :: st))) := by
  subst hp; exact Done.go (fun t q => XS.ineg A hx rfl hd rfl q) K
theorem k_lneg (A : At T m c below) (hx : p.tables.exec = Jvm.exec) {x : Int64} (hd : decode c.code pc = .ok (.lneg, 1)) (hp : pc + 1 = pc')
    (K : Done p e below G (T.setTop (mkF m pc' Ls (.long (-x) :: st)))) : Done p e below G (T.setTop (mkF m pc Ls (.long x :: st))) := by
  subst hp; exact Done.go (fun t q => XS.lneg A hx rfl hd rfl q) K
theorem k_i2l (A : At T m c below) (hx : p.tables.exec = Jvm.exec) {x : Int32} (hd : decode c.code pc = .ok (.i2l, 1)) (hp : pc + 1 = pc')
    (K : Done p e below G (T.setTop (mkF m pc' Ls (.long (x.toInt64) :: st)))) : Done p e below G (T.setTop (mkF m pc Ls (.int x :: st))) := by
  subst hp; exact Done.go (fun t q => XS.i2l A hx rfl hd rfl q) K
theorem k_l2i (A : At T m c below) (hx : p.tables.exec = Jvm.exec) {x : Int64} (hd : decode c.code pc = .ok (.l2i, 1)) (hp : pc + 1 = pc')
    (K : Done p e below G (T.setTop (mkF m pc' Ls (.int (x.toInt32) :: st)))) : Done p e below G (T.setTop (mkF m pc Ls (.long x :: st))) := by
  subst hp; exact Done.go (fun t q => XS.l2i A hx rfl hd rfl q) K
theorem k_i2b (A : At T m c below) (hx : p.tables.exec = Jvm.exec) {x : Int32} (hd : decode c.code pc = .ok (.i2b, 1)) (hp : pc + 1 = pc')
    (K : Done p e below G (T.setTop (mkF m pc' Ls (.int (x.toInt8.toInt32) :: st)))) : Done p e below G (T.setTop (mkF m pc Ls (.int x :: st))) := by
  subst hp; exact Done.go (fun t q => XS.i2b A hx rfl hd rfl q) K
theorem k_i2c (A : At T m c below) (hx : p.tables.exec = Jvm.exec) {x : Int32} (hd : decode c.code pc = .ok (.i2c, 1)) (hp : pc + 1 = pc')
    (K : Done p e below G (T.setTop (mkF m pc' Ls (.int (x.toUInt32.toUInt16.toUInt32.toInt32) :: st)))) : Done p e below G (T.setTop (mkF m pc Ls (.int x :: st))) := by
  subst hp; exact Done.go (fun t q => XS.i2c A hx rfl hd rfl q) K
theorem k_i2s (A : At T m c below) (hx : p.tables.exec = Jvm.exec) {x : Int32} (hd : decode c.code pc = .ok (.i2s, 1)) (hp : pc + 1 = pc')
    (K : Done p e below G (T.setTop (mkF m pc' Ls (.int (x.toInt16.toInt32) :: st)))) : Done p e below G (T.setTop (mkF m pc Ls (.int x :: st))) := by
  subst hp; exact Done.go (fun t q => XS.i2s A hx rfl hd rfl q) K
theorem k_iinc (A : At T m c below) (hx : p.tables.exec = Jvm.exec) {i : Nat} {cst : Int} {v : Int32} (hd : decode c.code pc = .ok (.iinc i cst, 3)) (hl : Ls[i]? = some (.val (.int v))) (hs : storeLocals Ls i (.int (v + Int32.ofInt cst)) = some Ls') (hp : pc + 3 = pc')
    (K : Done p e below G (T.setTop (mkF m pc' Ls' st))) : Done p e below G (T.setTop (mkF m pc Ls st)) := by
  subst hp; exact Done.go (fun t q => XS.iinc A hx rfl hd hl hs q) K
theorem k_goto (A : At T m c below) (hx : p.tables.exec = Jvm.exec) {o : Int} (hd : decode c.code pc = .ok (.goto o, 3)) (hp : (pc : Int) + o = (pc' : Int))
    (K : Done p e below G (T.setTop (mkF m pc' Ls st))) : Done p e below G (T.setTop (mkF m pc Ls st)) :=
  Done.go (fun t q => XS.goto A hx rfl (pc0 := pc) (pc' := pc') rfl hd (by omega) (by omega) q) K
theorem k_ifnullYes (A : At T m c below) (hx : p.tables.exec = Jvm.exec) {o : Int} (hd : decode c.code pc = .ok (.ifnull o, 3)) (hp : (pc : Int) + o = (pc' : Int))
    (K : Done p e below G (T.setTop (mkF m pc' Ls st))) : Done p e below G (T.setTop (mkF m pc Ls (.null :: st))) :=
  Done.go (fun t q => XS.ifnullYes A hx rfl (pc0 := pc) (pc' := pc') rfl hd rfl (by omega) (by omega) q) K
theorem k_ifnonnullYes (A : At T m c below) (hx : p.tables.exec = Jvm.exec) {o : Int} {b : Addr} (hd : decode c.code pc = .ok (.ifnonnull o, 3)) (hp : (pc : Int) + o = (pc' : Int))
    (K : Done p e below G (T.setTop (mkF m pc' Ls st))) : Done p e below G (T.setTop (mkF m pc Ls (.ref b :: st))) :=
  Done.go (fun t q => XS.ifnonnullYes A hx rfl (pc0 := pc) (pc' := pc') rfl hd rfl (by omega) (by omega) q) K
theorem k_ifnullNo (A : At T m c below) (hx : p.tables.exec = Jvm.exec) {o : Int} {b : Addr} (hd : decode c.code pc = .ok (.ifnull o, 3)) (hp : pc + 3 = pc')
    (K : Done p e below G (T.setTop (mkF m pc' Ls st))) : Done p e below G (T.setTop (mkF m pc Ls (.ref b :: st))) := by
  subst hp; exact Done.go (fun t q => XS.ifnullNo A hx rfl hd rfl q) K
theorem k_ifnonnullNo (A : At T m c below) (hx : p.tables.exec = Jvm.exec) {o : Int} (hd : decode c.code pc = .ok (.ifnonnull o, 3)) (hp : pc + 3 = pc')
    (K : Done p e below G (T.setTop (mkF m pc' Ls st))) : Done p e below G (T.setTop (mkF m pc Ls (.null :: st))) := by
  subst hp; exact Done.go (fun t q => XS.ifnonnullNo A hx rfl hd rfl q) K
theorem k_icmp_lt (A : At T m c below) (hx : p.tables.exec = Jvm.exec) {x y : Int32} {o : Int} {pcY : Nat} (hd : decode c.code pc = .ok (.if_icmp .lt o, 3)) (hY : (pc : Int) + o = (pcY : Int)) (hp : pc + 3 = pc')
    (KY : x < y → Done p e below G (T.setTop (mkF m pcY Ls st))) (KN : ¬ x < y → Done p e below G (T.setTop (mkF m pc' Ls st))) : Done p e below G (T.setTop (mkF m pc Ls (.int y :: .int x :: st))) := by
  subst hp
  by_cases hc : x < y
  · exact Done.go (fun t q => XS.icmpYes A hx rfl (pc0 := pc) (pc' := pcY) rfl hd rfl (tlt hc).1 (by omega) (by omega) q) (KY hc)
  · exact Done.go (fun t q => XS.icmpNo A hx rfl hd rfl (flt hc).1 q) (KN hc)
theorem k_if_lt (A : At T m c below) (hx : p.tables.exec = Jvm.exec) {x : Int32} {o : Int} {pcY : Nat} (hd : decode c.code pc = .ok (.ifCond .lt o, 3)) (hY : (pc : Int) + o = (pcY : Int)) (hp : pc + 3 = pc')
    (KY : x < 0 → Done p e below G (T.setTop (mkF m pcY Ls st))) (KN : ¬ x < 0 → Done p e below G (T.setTop (mkF m pc' Ls st))) : Done p e below G (T.setTop (mkF m pc Ls (.int x :: st))) := by
  subst hp
  by_cases hc : x < 0
  · exact Done.go (fun t q => XS.ifYes A hx rfl (pc0 := pc) (pc' := pcY) rfl hd rfl ((if0 _ _).trans (tlt hc).1) (by omega) (by omega) q) (KY hc)
  · exact Done.go (fun t q => XS.ifNo A hx rfl hd rfl ((if0 _ _).trans (flt hc).1) q) (KN hc)
theorem k_icmp_ge (A : At T m c below) (hx : p.tables.exec = Jvm.exec) {x y : Int32} {o : Int} {pcY : Nat} (hd : decode c.code pc = .ok (.if_icmp .ge o, 3)) (hY : (pc : Int) + o = (pcY : Int)) (hp : pc + 3 = pc')
    (KY : ¬ x < y → Done p e below G (T.setTop (mkF m pcY Ls st))) (KN : x < y → Done p e below G (T.setTop (mkF m pc' Ls st))) : Done p e below G (T.setTop (mkF m pc Ls (.int y :: .int x :: st))) := by
  subst hp
  by_cases hc : x < y
  · exact Done.go (fun t q => XS.icmpNo A hx rfl hd rfl (tlt hc).2.1 q) (KN hc)
  · exact Done.go (fun t q => XS.icmpYes A hx rfl (pc0 := pc) (pc' := pcY) rfl hd rfl (flt hc).2.1 (by omega) (by omega) q) (KY hc)
theorem k_if_ge (A : At T m c below) (hx : p.tables.exec = Jvm.exec) {x : Int32} {o : Int} {pcY : Nat} (hd : decode c.code pc = .ok (.ifCond .ge o, 3)) (hY : (pc : Int) + o = (pcY : Int)) (hp : pc + 3 = pc')
    (KY : ¬ x < 0 → Done p e below G (T.setTop (mkF m pcY Ls st))) (KN : x < 0 → Done p e below G (T.setTop (mkF m pc' Ls st))) : Done p e below G (T.setTop (mkF m pc Ls (.int x :: st))) := by
  subst hp
  by_cases hc : x < 0
  · exact Done.go (fun t q => XS.ifNo A hx rfl hd rfl ((if0 _ _).trans (tlt hc).2.1) q) (KN hc)
  · exact Done.go (fun t q => XS.ifYes A hx rfl (pc0 := pc) (pc' := pcY) rfl hd rfl ((if0 _ _).trans (flt hc).2.1) (by omega) (by omega) q) (KY hc)
theorem k_icmp_gt (A : At T m c below) (hx : p.tables.exec = Jvm.exec) {x y : Int32} {o : Int} {pcY : Nat} (hd : decode c.code pc = .ok (.if_icmp .gt o, 3)) (hY : (pc : Int) + o = (pcY : Int)) (hp : pc + 3 = pc')
    (KY : y < x → Done p e below G (T.setTop (mkF m pcY Ls st))) (KN : ¬ y < x → Done p e below G (T.setTop (mkF m pc' Ls st))) : Done p e below G (T.setTop (mkF m pc Ls (.int y :: .int x :: st))) := by
  subst hp
  by_cases hc : y < x
  · exact Done.go (fun t q => XS.icmpYes A hx rfl (pc0 := pc) (pc' := pcY) rfl hd rfl (tlt hc).2.2.1 (by omega) (by omega) q) (KY hc)
  · exact Done.go (fun t q => XS.icmpNo A hx rfl hd rfl (flt hc).2.2.1 q) (KN hc)
theorem k_if_gt (A : At T m c below) (hx : p.tables.exec = Jvm.exec) {x : Int32} {o : Int} {pcY : Nat} (hd : decode c.code pc = .ok (.ifCond .gt o, 3)) (hY : (pc : Int) + o = (pcY : Int)) (hp : pc + 3 = pc')
    (KY : 0 < x → Done p e below G (T.setTop (mkF m pcY Ls st))) (KN : ¬ 0 < x → Done p e below G (T.setTop (mkF m pc' Ls st))) : Done p e below G (T.setTop (mkF m pc Ls (.int x :: st))) := by
  subst hp
  by_cases hc : 0 < x
  · exact Done.go (fun t q => XS.ifYes A hx rfl (pc0 := pc) (pc' := pcY) rfl hd rfl ((if0 _ _).trans (tlt hc).2.2.1) (by omega) (by omega) q) (KY hc)
  · exact Done.go (fun t q => XS.ifNo A hx rfl hd rfl ((if0 _ _).trans (flt hc).2.2.1) q) (KN hc)
theorem k_icmp_le (A : At T m c below) (hx : p.tables.exec = Jvm.exec) {x y : Int32} {o : Int} {pcY : Nat} (hd : decode c.code pc = .ok (.if_icmp .le o, 3)) (hY : (pc : Int) + o = (pcY : Int)) (hp : pc + 3 = pc')
    (KY : ¬ y < x → Done p e below G (T.setTop (mkF m pcY Ls st))) (KN : y < x → Done p e below G (T.setTop (mkF m pc' Ls st))) : Done p e below G (T.setTop (mkF m pc Ls (.int y :: .int x :: st))) := by
  subst hp
  by_cases hc : y < x
  · exact Done.go (fun t q => XS.icmpNo A hx rfl hd rfl (tlt hc).2.2.2 q) (KN hc)
  · exact Done.go (fun t q => XS.icmpYes A hx rfl (pc0 := pc) (pc' := pcY) rfl hd rfl (flt hc).2.2.2 (by omega) (by omega) q) (KY hc)
theorem k_if_le (A : At T m c below) (hx : p.tables.exec = Jvm.exec) {x : Int32} {o : Int} {pcY : Nat} (hd : decode c.code pc = .ok (.ifCond .le o, 3)) (hY : (pc : Int) + o = (pcY : Int)) (hp : pc + 3 = pc')
    (KY : ¬ 0 < x → Done p e below G (T.setTop (mkF m pcY Ls st))) (KN : 0 < x → Done p e below G (T.setTop (mkF m pc' Ls st))) : Done p e below G (T.setTop (mkF m pc Ls (.int x :: st))) := by
  subst hp
  by_cases hc : 0 < x
  · exact Done.go (fun t q => XS.ifNo A hx rfl hd rfl ((if0 _ _).trans (tlt hc).2.2.2) q) (KN hc)
  · exact Done.go (fun t q => XS.ifYes A hx rfl (pc0 := pc) (pc' := pcY) rfl hd rfl ((if0 _ _).trans (flt hc).2.2.2) (by omega) (by omega) q) (KY hc)
theorem k_icmp_eq (A : At T m c below) (hx : p.tables.exec = Jvm.exec) {x y : Int32} {o : Int} {pcY : Nat} (hd : decode c.code pc = .ok (.if_icmp .eq o, 3)) (hY : (pc : Int) + o = (pcY : Int)) (hp : pc + 3 = pc')
    (KY : x = y → Done p e below G (T.setTop (mkF m pcY Ls st))) (KN : ¬ x = y → Done p e below G (T.setTop (mkF m pc' Ls st))) : Done p e below G (T.setTop (mkF m pc Ls (.int y :: .int x :: st))) := by
  subst hp
  by_cases hc : x = y
  · exact Done.go (fun t q => XS.icmpYes A hx rfl (pc0 := pc) (pc' := pcY) rfl hd rfl (teq hc).1 (by omega) (by omega) q) (KY hc)
  · exact Done.go (fun t q => XS.icmpNo A hx rfl hd rfl (feq hc).1 q) (KN hc)
theorem k_if_eq (A : At T m c below) (hx : p.tables.exec = Jvm.exec) {x : Int32} {o : Int} {pcY : Nat} (hd : decode c.code pc = .ok (.ifCond .eq o, 3)) (hY : (pc : Int) + o = (pcY : Int)) (hp : pc + 3 = pc')
    (KY : x = 0 → Done p e below G (T.setTop (mkF m pcY Ls st))) (KN : ¬ x = 0 → Done p e below G (T.setTop (mkF m pc' Ls st))) : Done p e below G (T.setTop (mkF m pc Ls (.int x :: st))) := by
  subst hp
  by_cases hc : x = 0
  · exact Done.go (fun t q => XS.ifYes A hx rfl (pc0 := pc) (pc' := pcY) rfl hd rfl ((if0 _ _).trans (teq hc).1) (by omega) (by omega) q) (KY hc)
  · exact Done.go (fun t q => XS.ifNo A hx rfl hd rfl ((if0 _ _).trans (feq hc).1) q) (KN hc)
theorem k_icmp_ne (A : At T m c below) (hx : p.tables.exec = Jvm.exec) {x y : Int32} {o : Int} {pcY : Nat} (hd : decode c.code pc = .ok (.if_icmp .ne o, 3)) (hY : (pc : Int) + o = (pcY : Int)) (hp : pc + 3 = pc')
    (KY : ¬ x = y → Done p e below G (T.setTop (mkF m pcY Ls st))) (KN : x = y → Done p e below G (T.setTop (mkF m pc' Ls st))) : Done p e below G (T.setTop (mkF m pc Ls (.int y :: .int x :: st))) := by
  subst hp
  by_cases hc : x = y
  · exact Done.go (fun t q => XS.icmpNo A hx rfl hd rfl (teq hc).2 q) (KN hc)
  · exact Done.go (fun t q => XS.icmpYes A hx rfl (pc0 := pc) (pc' := pcY) rfl hd rfl (feq hc).2 (by omega) (by omega) q) (KY hc)
theorem k_if_ne (A : At T m c below) (hx : p.tables.exec = Jvm.exec) {x : Int32} {o : Int} {pcY : Nat} (hd : decode c.code pc = .ok (.ifCond .ne o, 3)) (hY : (pc : Int) + o = (pcY : Int)) (hp : pc + 3 = pc')
    (KY : ¬ x = 0 → Done p e below G (T.setTop (mkF m pcY Ls st))) (KN : x = 0 → Done p e below G (T.setTop (mkF m pc' Ls st))) : Done p e below G (T.setTop (mkF m pc Ls (.int x :: st))) := by
  subst hp
  by_cases hc : x = 0
  · exact Done.go (fun t q => XS.ifNo A hx rfl hd rfl ((if0 _ _).trans (teq hc).2) q) (KN hc)
  · exact Done.go (fun t q => XS.ifYes A hx rfl (pc0 := pc) (pc' := pcY) rfl hd rfl ((if0 _ _).trans (feq hc).2) (by omega) (by omega) q) (KY hc)
theorem k_lcmp_lt (A : At T m c below) (hx : p.tables.exec = Jvm.exec) {x y : Int64} {o : Int} {pcY : Nat} (hd : decode c.code pc = .ok (.lcmp, 1)) (hd2 : decode c.code (pc + 1) = .ok (.ifCond .lt o, 3)) (hY : ((pc + 1 : Nat) : Int) + o = (pcY : Int)) (hp : pc + 1 + 3 = pc')
    (KY : x < y → Done p e below G (T.setTop (mkF m pcY Ls st))) (KN : ¬ x < y → Done p e below G (T.setTop (mkF m pc' Ls st))) : Done p e below G (T.setTop (mkF m pc Ls (.long y :: .long x :: st))) := by
  subst hp
  by_cases hc : x < y
  · exact Done.go (fun t q => XS.lcmp A hx rfl hd rfl (XS.ifYes A hx rfl (pc0 := pc + 1) (pc' := pcY) rfl hd2 rfl ((if0 _ _).trans (tlt ((lw_lt x y).mpr hc)).1) (by omega) (by omega) q)) (KY hc)
  · exact Done.go (fun t q => XS.lcmp A hx rfl hd rfl (XS.ifNo A hx rfl hd2 rfl ((if0 _ _).trans (flt (fun z => hc ((lw_lt x y).mp z))).1) q)) (KN hc)
theorem k_lcmp_ge (A : At T m c below) (hx : p.tables.exec = Jvm.exec) {x y : Int64} {o : Int} {pcY : Nat} (hd : decode c.code pc = .ok (.lcmp, 1)) (hd2 : decode c.code (pc + 1) = .ok (.ifCond .ge o, 3)) (hY : ((pc + 1 : Nat) : Int) + o = (pcY : Int)) (hp : pc + 1 + 3 = pc')
    (KY : ¬ x < y → Done p e below G (T.setTop (mkF m pcY Ls st))) (KN : x < y → Done p e below G (T.setTop (mkF m pc' Ls st))) : Done p e below G (T.setTop (mkF m pc Ls (.long y :: .long x :: st))) := by
  subst hp
  by_cases hc : x < y
  · exact Done.go (fun t q => XS.lcmp A hx rfl hd rfl (XS.ifNo A hx rfl hd2 rfl ((if0 _ _).trans (tlt ((lw_lt x y).mpr hc)).2.1) q)) (KN hc)
  · exact Done.go (fun t q => XS.lcmp A hx rfl hd rfl (XS.ifYes A hx rfl (pc0 := pc + 1) (pc' := pcY) rfl hd2 rfl ((if0 _ _).trans (flt (fun z => hc ((lw_lt x y).mp z))).2.1) (by omega) (by omega) q)) (KY hc)
theorem k_lcmp_gt (A : At T m c below) (hx : p.tables.exec = Jvm.exec) {x y : Int64} {o : Int} {pcY : Nat} (hd : decode c.code pc = .ok (.lcmp, 1)) (hd2 : decode c.code (pc + 1) = .ok (.ifCond .gt o, 3)) (hY : ((pc + 1 : Nat) : Int) + o = (pcY : Int)) (hp : pc + 1 + 3 = pc')
    (KY : y < x → Done p e below G (T.setTop (mkF m pcY Ls st))) (KN : ¬ y < x → Done p e below G (T.setTop (mkF m pc' Ls st))) : Done p e below G (T.setTop (mkF m pc Ls (.long y :: .long x :: st))) := by
  subst hp
  by_cases hc : y < x
  · exact Done.go (fun t q => XS.lcmp A hx rfl hd rfl (XS.ifYes A hx rfl (pc0 := pc + 1) (pc' := pcY) rfl hd2 rfl ((if0 _ _).trans (tlt ((lw_gt x y).mpr hc)).2.2.1) (by omega) (by omega) q)) (KY hc)
  · exact Done.go (fun t q => XS.lcmp A hx rfl hd rfl (XS.ifNo A hx rfl hd2 rfl ((if0 _ _).trans (flt (fun z => hc ((lw_gt x y).mp z))).2.2.1) q)) (KN hc)
theorem k_lcmp_le (A : At T m c below) (hx : p.tables.exec = Jvm.exec) {x y : Int64} {o : Int} {pcY : Nat} (hd : decode c.code pc = .ok (.lcmp, 1)) (hd2 : decode c.code (pc + 1) = .ok (.ifCond .le o, 3)) (hY : ((pc + 1 : Nat) : Int) + o = (pcY : Int)) (hp : pc + 1 + 3 = pc')
    (KY : ¬ y < x → Done p e below G (T.setTop (mkF m pcY Ls st))) (KN : y < x → Done p e below G (T.setTop (mkF m pc' Ls st))) : Done p e below G (T.setTop (mkF m pc Ls (.long y :: .long x :: st))) := by
  subst hp
  by_cases hc : y < x
  · exact Done.go (fun t q => XS.lcmp A hx rfl hd rfl (XS.ifNo A hx rfl hd2 rfl ((if0 _ _).trans (tlt ((lw_gt x y).mpr hc)).2.2.2) q)) (KN hc)
  · exact Done.go (fun t q => XS.lcmp A hx rfl hd rfl (XS.ifYes A hx rfl (pc0 := pc + 1) (pc' := pcY) rfl hd2 rfl ((if0 _ _).trans (flt (fun z => hc ((lw_gt x y).mp z))).2.2.2) (by omega) (by omega) q)) (KY hc)
theorem k_lcmp_eq (A : At T m c below) (hx : p.tables.exec = Jvm.exec) {x y : Int64} {o : Int} {pcY : Nat} (hd : decode c.code pc = .ok (.lcmp, 1)) (hd2 : decode c.code (pc + 1) = .ok (.ifCond .eq o, 3)) (hY : ((pc + 1 : Nat) : Int) + o = (pcY : Int)) (hp : pc + 1 + 3 = pc')
    (KY : x = y → Done p e below G (T.setTop (mkF m pcY Ls st))) (KN : ¬ x = y → Done p e below G (T.setTop (mkF m pc' Ls st))) : Done p e below G (T.setTop (mkF m pc Ls (.long y :: .long x :: st))) := by
  subst hp
  by_cases hc : x = y
  · exact Done.go (fun t q => XS.lcmp A hx rfl hd rfl (XS.ifYes A hx rfl (pc0 := pc + 1) (pc' := pcY) rfl hd2 rfl ((if0 _ _).trans (teq ((lw_eq x y).mpr hc)).1) (by omega) (by omega) q)) (KY hc)
  · exact Done.go (fun t q => XS.lcmp A hx rfl hd rfl (XS.ifNo A hx rfl hd2 rfl ((if0 _ _).trans (feq (fun z => hc ((lw_eq x y).mp z))).1) q)) (KN hc)
theorem k_lcmp_ne (A : At T m c below) (hx : p.tables.exec = Jvm.exec) {x y : Int64} {o : Int} {pcY : Nat} (hd : decode c.code pc = .ok (.lcmp, 1)) (hd2 : decode c.code (pc + 1) = .ok (.ifCond .ne o, 3)) (hY : ((pc + 1 : Nat) : Int) + o = (pcY : Int)) (hp : pc + 1 + 3 = pc')
    (KY : ¬ x = y → Done p e below G (T.setTop (mkF m pcY Ls st))) (KN : x = y → Done p e below G (T.setTop (mkF m pc' Ls st))) : Done p e below G (T.setTop (mkF m pc Ls (.long y :: .long x :: st))) := by
  subst hp
  by_cases hc : x = y
  · exact Done.go (fun t q => XS.lcmp A hx rfl hd rfl (XS.ifNo A hx rfl hd2 rfl ((if0 _ _).trans (teq ((lw_eq x y).mpr hc)).2) q)) (KN hc)
  · exact Done.go (fun t q => XS.lcmp A hx rfl hd rfl (XS.ifYes A hx rfl (pc0 := pc + 1) (pc' := pcY) rfl hd2 rfl ((if0 _ _).trans (feq (fun z => hc ((lw_eq x y).mp z))).2) (by omega) (by omega) q)) (KY hc)
/-! ### a store into a slot of which only its one word is known -/
theorem store_eq (L : Array Slot) (i : Nat) (v : Value) : storeLocals L i v = (L[i]?).bind fun o => match o with
    | .second => (setAt L (i - 1) .unset).bind fun l => storeSelf l i v
    | .val old => if old.category = 2 then ((setAt L (i + 1) .unset).bind fun l => storeSelf l i v) else storeSelf L i v
    | .unset => storeSelf L i v := rfl
theorem store1 {L L' : Array Slot} {i : Nat} {o : Slot} {v : Value} (h : L[i]? = some o) (H : One o) (hs : storeSelf L i v = some L') : storeLocals L i v = some L' := by
  rw [store_eq, h]
  rcases H with rfl | ⟨w, rfl, q⟩
  · exact hs
  · show (if w.category = 2 then _ else storeSelf L i v) = _
    rw [if_neg (by omega)]; exact hs
/-! ### constants of the pool -/
theorem k_ldcInt (S : St p l e R s m args below meth c n0 T h k n) (hx : p.tables.exec = Jvm.exec) (hZ : Z.Warmed39 s.vm) {own : String} {index : Nat} {v : Int32} (hown : s.vm.findClass own = some m.cls) (w : (Jvm.Cond.constant own index v).before a0 Z = true)
    (hd : decode c.code pc = .ok (.ldc index, 2)) (hp : pc + 2 = pc') (K : Done p e below G (T.setTop (mkF m pc' Ls (.int v :: st)))) : Done p e below G (T.setTop (mkF m pc Ls st)) := by
  subst hp
  obtain ⟨_, X, -, -⟩ := S
  exact Done.go (X.ldcInt hx hown (mvT hZ w) (g := mkF m pc Ls st) rfl hd) K
theorem k_ldcwInt (S : St p l e R s m args below meth c n0 T h k n) (hx : p.tables.exec = Jvm.exec) (hZ : Z.Warmed39 s.vm) {own : String} {index : Nat} {v : Int32} (hown : s.vm.findClass own = some m.cls) (w : (Jvm.Cond.constant own index v).before a0 Z = true)
    (hd : decode c.code pc = .ok (.ldc_w index, 3)) (hp : pc + 3 = pc') (K : Done p e below G (T.setTop (mkF m pc' Ls (.int v :: st)))) : Done p e below G (T.setTop (mkF m pc Ls st)) := by
  subst hp
  obtain ⟨_, X, -, -⟩ := S
  exact Done.go (X.ldcwInt hx hown (mvT hZ w) (g := mkF m pc Ls st) rfl hd) K
theorem k_ldc2Long (S : St p l e R s m args below meth c n0 T h k n) (hx : p.tables.exec = Jvm.exec) (hZ : Z.Warmed39 s.vm) {own : String} {index : Nat} {v : Int64} (hown : s.vm.findClass own = some m.cls) (w : (Jvm.Cond.constantLong own index v).before a0 Z = true)
    (hd : decode c.code pc = .ok (.ldc2_w index, 3)) (hp : pc + 3 = pc') (K : Done p e below G (T.setTop (mkF m pc' Ls (.long v :: st)))) : Done p e below G (T.setTop (mkF m pc Ls st)) := by
  subst hp
  obtain ⟨_, X, -, -⟩ := S
  exact Done.go (X.ldc2Long hx hown (mvT hZ w) (g := mkF m pc Ls st) rfl hd) K
/-! ### returns -/
variable {Q : Option Value → Heap → Prop}
theorem k_ret_val {w : Value} {t : FieldType} {i : Instr} (S : St p l e R s m args below meth c n0 T h k n) (hx : p.tables.exec = Jvm.exec) (hret : meth.sig.returnType = some t) (hlk : meth.locks = false) (hd : decode c.code pc = .ok (i, 1)) (hn' : narrow t w = w)
    (hi : (i = .ireturn ∧ (t = .int ∨ t = .boolean ∨ t = .byte ∨ t = .char ∨ t = .short) ∧ ∃ z, w = .int z) ∨ (i = .lreturn ∧ t = .long ∧ ∃ z, w = .long z) ∨ (i = .dreturn ∧ t = .double ∧ ∃ z, w = .double z) ∨ (i = .freturn ∧ t = .float ∧ ∃ z, w = .float z) ∨ (i = .areturn ∧ t.isReference = true ∧ w.isRef = true))
    (hk : k ≤ R.cells) (hn : n ≤ R.slots) (q : Q (some w) h) : Done p e below (OEnd s R n0 Q) (T.setTop (mkF m pc Ls (w :: st))) := by
  obtain ⟨locs, X, N, eT⟩ := S
  obtain ⟨fs, hr, hrun, hended, hW, hsame⟩ := X.leave (v := some w) (fun h => by rw [hret] at h; cases h) hlk
  refine ⟨_, _, retOut X hx hret hn' hi hd hr, hrun, hended, _, locs, rfl, ⟨?_, N⟩, ⟨_, rfl⟩, hW, hsame.mono hk hn⟩
  show Q _ T.heap
  rw [eT]; exact q
theorem k_ret_int {z : Int32} (S : St p l e R s m args below meth c n0 T h k n) (hx : p.tables.exec = Jvm.exec) (hret : meth.sig.returnType = some .int) (hlk : meth.locks = false) (hd : decode c.code pc = .ok (.ireturn, 1))
    (hk : k ≤ R.cells) (hn : n ≤ R.slots) (q : Q (some (.int z)) h) : Done p e below (OEnd s R n0 Q) (T.setTop (mkF m pc Ls (.int z :: st))) :=
  k_ret_val S hx hret hlk hd rfl (Or.inl ⟨rfl, Or.inl rfl, z, rfl⟩) hk hn q
theorem k_ret_long {z : Int64} (S : St p l e R s m args below meth c n0 T h k n) (hx : p.tables.exec = Jvm.exec) (hret : meth.sig.returnType = some .long) (hlk : meth.locks = false) (hd : decode c.code pc = .ok (.lreturn, 1))
    (hk : k ≤ R.cells) (hn : n ≤ R.slots) (q : Q (some (.long z)) h) : Done p e below (OEnd s R n0 Q) (T.setTop (mkF m pc Ls (.long z :: st))) :=
  k_ret_val S hx hret hlk hd rfl (Or.inr (Or.inl ⟨rfl, rfl, z, rfl⟩)) hk hn q
theorem k_ret_ref {a : Addr} {t : FieldType} (S : St p l e R s m args below meth c n0 T h k n) (hx : p.tables.exec = Jvm.exec) (hret : meth.sig.returnType = some t) (ht : t.isReference = true) (hlk : meth.locks = false) (hd : decode c.code pc = .ok (.areturn, 1))
    (hk : k ≤ R.cells) (hn : n ≤ R.slots) (q : Q (some (.ref a)) h) : Done p e below (OEnd s R n0 Q) (T.setTop (mkF m pc Ls (.ref a :: st))) :=
  k_ret_val S hx hret hlk hd (by cases t <;> first | rfl | (cases ht; done)) (Or.inr (Or.inr (Or.inr (Or.inr ⟨rfl, ht, rfl⟩)))) hk hn q
theorem k_ret_nar {z z' : Int32} {t : FieldType} (S : St p l e R s m args below meth c n0 T h k n) (hx : p.tables.exec = Jvm.exec) (hret : meth.sig.returnType = some t) (ht : t = .boolean ∨ t = .byte ∨ t = .char ∨ t = .short) (hlk : meth.locks = false) (hd : decode c.code pc = .ok (.ireturn, 1)) (hz : nar t z = z')
    (hk : k ≤ R.cells) (hn : n ≤ R.slots) (q : Q (some (.int z')) h) : Done p e below (OEnd s R n0 Q) (T.setTop (mkF m pc Ls (.int z :: st))) := by
  obtain ⟨locs, X, N, eT⟩ := S
  subst hz
  obtain ⟨fs, hr, hrun, hended, hW, hsame⟩ := X.leave (v := some (.int (nar t z))) (fun h => by rw [hret] at h; cases h) hlk
  refine ⟨_, _, retN X hx hret ht hd hr, hrun, hended, _, locs, rfl, ⟨?_, N⟩, ⟨_, rfl⟩, hW, hsame.mono hk hn⟩
  show Q _ T.heap
  rw [eT]; exact q
theorem k_ret_void (S : St p l e R s m args below meth c n0 T h k n) (hx : p.tables.exec = Jvm.exec) (hret : meth.sig.returnType = none) (hlk : meth.locks = false) (hd : decode c.code pc = .ok (.return_, 1))
    (hk : k ≤ R.cells) (hn : n ≤ R.slots) (q : Q none h) : Done p e below (OEnd s R n0 Q) (T.setTop (mkF m pc Ls [])) := by
  obtain ⟨locs, X, N, eT⟩ := S
  obtain ⟨fs, hr, hrun, hended, hW, hsame⟩ := X.leave (v := none) (fun _ => rfl) hlk
  refine ⟨_, _, X.returnOut hx hret hd hr, hrun, hended, _, locs, rfl, ⟨?_, N⟩, ⟨_, rfl⟩, hW, hsame.mono hk hn⟩
  show Q _ T.heap
  rw [eT]; exact q
/-! ### calls by a contract -/
theorem k_call_static (S : St p l e R s m args below meth c n0 T h k n) (hx : p.tables.exec = Jvm.exec) (hZ : Z.Warmed39 s.vm) {own : String} {index : Nat} {y : MethodName} {bytes : ByteArray} {maxL : Nat} {ret : Option FieldType} (hown : s.vm.findClass own = some m.cls)
    (w1 : (Jvm.Cond.methodLink own index y).before a0 Z = true) (w2 : (Jvm.Cond.static y).before a0 Z = true) (w3 : (Jvm.Cond.initialized y.cls).before a0 Z = true) (w4 : (Jvm.Cond.code y bytes maxL ret).before a0 Z = true)
    (hy : y.cls ≠ "java/lang/invoke/MethodHandle" ∧ y.cls ≠ "java/lang/invoke/VarHandle") {rm : Room} {as' : Array Value} (C : Con l Z y bytes maxL ret rm n0 h as' Q) (W : Nat) {argsL rest : List Value}
    (hf : rm.frames + 1 ≤ R.frames) (hl : W + (maxL + 11) + rm.locals ≤ R.locals) (hml : Ls.size = c.maxLocals) (hlen : ∀ sig, parseMethodDescriptor y.desc = some sig → argsL.length = sig.parameters.length) (has : argsL.toArray = as')
    (hst : st = argsL.reverse ++ rest) (hW : (rest.map fun v => v.category).sum ≤ W) (hd : decode c.code pc = .ok (.invokestatic index, 3)) (hp : pc + 3 = pc') (hk : k + rm.cells ≤ R.cells) (hn : n + rm.slots ≤ R.slots)
    (K : ∀ v T' h', Q v h' → St p l e R s m args below meth c n0 T' h' (k + rm.cells) (n + rm.slots) → Done p e below G (T'.setTop (mkF m pc' Ls (v.toList ++ rest)))) :
    Done p e below G (T.setTop (mkF m pc Ls st)) := by
  subst hp
  obtain ⟨locs, X, N, eT⟩ := S
  obtain ⟨v, vm₁, ⟨T', L', k', n'⟩, -, X', ⟨L, ⟨hQ, NL⟩, e1, e2, e3⟩, step⟩ := Jvm.LawKit.callS X hx (y := y) hown (mvT hZ w1) (mvT hZ w2) (mvT hZ w3) (mvT hZ w4) hy
    (backOf (W := W) (Q := fun v h L => Q v h ∧ Fr n0 L) (C []) hZ w4 w3 hf hl) (g := mkF m pc Ls st) rfl hml (argsL := argsL) (rest := rest) hlen hst (by show 2 * 0 + _ ≤ _; omega) hd
    (fun _ _ => ⟨has, eT, hk, hn⟩)
  dsimp only [Pt.U, Pt.locs, Pt.cells, Pt.slots] at X' hQ e1 e2 e3 step
  subst e1 e2 e3
  exact Done.go step (K v T' T'.heap hQ ⟨_, X', Fr.app N NL, rfl⟩)
theorem k_call_init (S : St p l e R s m args below meth c n0 T h k n) (hx : p.tables.exec = Jvm.exec) (hZ : Z.Warmed39 s.vm) {own : String} {index : Nat} {y : MethodName} {bytes : ByteArray} {maxL : Nat} (hown : s.vm.findClass own = some m.cls) (hy1 : y.name = "<init>")
    (w1 : (Jvm.Cond.methodLink own index y).before a0 Z = true) (w2 : (Jvm.Cond.instanceMethod y).before a0 Z = true) (w3 : (Jvm.Cond.initialized y.cls).before a0 Z = true) (w4 : (Jvm.Cond.code y bytes maxL none).before a0 Z = true)
    (hy : y.cls ≠ "java/lang/invoke/MethodHandle" ∧ y.cls ≠ "java/lang/invoke/VarHandle") {rm : Room} {as' : Array Value} (C : Con l Z y bytes maxL none rm n0 h as' Q) (W : Nat) {a : Addr} {argsL rest : List Value}
    (hf : rm.frames + 1 ≤ R.frames) (hl : W + (maxL + 11) + rm.locals ≤ R.locals) (hml : Ls.size = c.maxLocals) (hlen : ∀ sig, parseMethodDescriptor y.desc = some sig → argsL.length = sig.parameters.length) (has : (.ref a :: argsL).toArray = as')
    (hst : st = argsL.reverse ++ .ref a :: rest) (hW : (rest.map fun v => v.category).sum ≤ W) (hd : decode c.code pc = .ok (.invokespecial index, 3)) (hp : pc + 3 = pc') (hk : k + rm.cells ≤ R.cells) (hn : n + rm.slots ≤ R.slots)
    (K : ∀ v T' h', Q v h' → St p l e R s m args below meth c n0 T' h' (k + rm.cells) (n + rm.slots) → Done p e below G (T'.setTop (mkF m pc' Ls (v.toList ++ rest)))) :
    Done p e below G (T.setTop (mkF m pc Ls st)) := by
  subst hp
  obtain ⟨locs, X, N, eT⟩ := S
  obtain ⟨v, vm₁, ⟨T', L', k', n'⟩, -, X', ⟨L, ⟨hQ, NL⟩, e1, e2, e3⟩, step⟩ := X.specialBack hx (y := y) hy1 hown (mvT hZ w1) (mvT hZ w2) (mvT hZ w4) hy
    (backOf (W := W) (Q := fun v h L => Q v h ∧ Fr n0 L) (C []) hZ w4 w3 hf hl) (g := mkF m pc Ls st) rfl hml (Steps.refl _) (a := a) (argsL := argsL) (rest := rest) hlen hst (by show 2 * 0 + _ ≤ _; omega) hd
    (fun _ _ => ⟨has, eT, hk, hn⟩)
  dsimp only [Pt.U, Pt.locs, Pt.cells, Pt.slots] at X' hQ e1 e2 e3 step
  subst e1 e2 e3
  exact Done.go (fun t q => step.trans q) (K v T' T'.heap hQ ⟨_, X', Fr.app N NL, rfl⟩)
theorem k_call_virtual (S : St p l e R s m args below meth c n0 T h k n) (hx : p.tables.exec = Jvm.exec) (hZ : Z.Warmed39 s.vm) {own : String} {index : Nat} {y : MethodName} {bytes : ByteArray} {maxL : Nat} {ret : Option FieldType} (hown : s.vm.findClass own = some m.cls) {a : Addr} (E : Exa Z h a y.cls)
    (w1 : (Jvm.Cond.methodLink own index y).before a0 Z = true) (w2 : (Jvm.Cond.declares y).before a0 Z = true) (w5 : (Jvm.Cond.selects y.cls y y).before a0 Z = true) (w6 : (Jvm.Cond.instanceMethod y).before a0 Z = true) (w3 : (Jvm.Cond.initialized y.cls).before a0 Z = true) (w4 : (Jvm.Cond.code y bytes maxL ret).before a0 Z = true)
    (hy : y.cls ≠ "java/lang/invoke/MethodHandle" ∧ y.cls ≠ "java/lang/invoke/VarHandle") {rm : Room} {as' : Array Value} (C : Con l Z y bytes maxL ret rm n0 h as' Q) (W : Nat) {argsL rest : List Value}
    (hf : rm.frames + 1 ≤ R.frames) (hl : W + (maxL + 11) + rm.locals ≤ R.locals) (hml : Ls.size = c.maxLocals) (hlen : ∀ sig, parseMethodDescriptor y.desc = some sig → argsL.length = sig.parameters.length) (has : (.ref a :: argsL).toArray = as')
    (hst : st = argsL.reverse ++ .ref a :: rest) (hW : (rest.map fun v => v.category).sum ≤ W) (hd : decode c.code pc = .ok (.invokevirtual index, 3)) (hp : pc + 3 = pc') (hk : k + rm.cells ≤ R.cells) (hn : n + rm.slots ≤ R.slots)
    (K : ∀ v T' h', Q v h' → St p l e R s m args below meth c n0 T' h' (k + rm.cells) (n + rm.slots) → Done p e below G (T'.setTop (mkF m pc' Ls (v.toList ++ rest)))) :
    Done p e below G (T.setTop (mkF m pc Ls st)) := by
  subst hp
  obtain ⟨locs, X, N, eT⟩ := S
  obtain ⟨cq, kq, qa, qb, qc⟩ := isOf hZ eT E
  obtain ⟨v, vm₁, ⟨T', L', k', n'⟩, -, X', ⟨L, ⟨hQ, NL⟩, e1, e2, e3⟩, step⟩ := X.virtualBack hx (y := y) (z := y) hown (mvT hZ w1) (mvT hZ w2) (notFace_of_selects (args := #[]) (mvT hZ w5)) (mvT hZ w5) (mvT hZ w6) hy
    (backOf (W := W) (Q := fun v h L => Q v h ∧ Fr n0 L) (C []) hZ w4 w3 hf hl) qa qc (g := mkF m pc Ls st) rfl hml (Steps.refl _) (argsL := argsL) (rest := rest) hlen hst (by show 2 * 0 + _ ≤ _; omega) hd
    (fun _ _ => ⟨has, eT, hk, hn⟩)
  dsimp only [Pt.U, Pt.locs, Pt.cells, Pt.slots] at X' hQ e1 e2 e3 step
  subst e1 e2 e3
  exact Done.go (fun t q => step.trans q) (K v T' T'.heap hQ ⟨_, X', Fr.app N NL, rfl⟩)
theorem k_call_private (S : St p l e R s m args below meth c n0 T h k n) (hx : p.tables.exec = Jvm.exec) (hZ : Z.Warmed39 s.vm) {own : String} {index : Nat} {y : MethodName} {bytes : ByteArray} {maxL : Nat} {ret : Option FieldType} (hown : s.vm.findClass own = some m.cls) {a : Addr} (E : Exa Z h a y.cls)
    (w1 : (Jvm.Cond.methodLink own index y).before a0 Z = true) (w6 : (Jvm.Cond.instanceMethod y).before a0 Z = true) (w5 : (Jvm.Cond.selects y.cls y y).before a0 Z = true) (w7 : (Jvm.Cond.privateMethod y).before a0 Z = true) (w3 : (Jvm.Cond.initialized y.cls).before a0 Z = true) (w4 : (Jvm.Cond.code y bytes maxL ret).before a0 Z = true)
    (hy : y.cls ≠ "java/lang/invoke/MethodHandle" ∧ y.cls ≠ "java/lang/invoke/VarHandle") {rm : Room} {as' : Array Value} (C : Con l Z y bytes maxL ret rm n0 h as' Q) (W : Nat) {argsL rest : List Value}
    (hf : rm.frames + 1 ≤ R.frames) (hl : W + (maxL + 11) + rm.locals ≤ R.locals) (hml : Ls.size = c.maxLocals) (hlen : ∀ sig, parseMethodDescriptor y.desc = some sig → argsL.length = sig.parameters.length) (has : (.ref a :: argsL).toArray = as')
    (hst : st = argsL.reverse ++ .ref a :: rest) (hW : (rest.map fun v => v.category).sum ≤ W) (hd : decode c.code pc = .ok (.invokevirtual index, 3)) (hp : pc + 3 = pc') (hk : k + rm.cells ≤ R.cells) (hn : n + rm.slots ≤ R.slots)
    (K : ∀ v T' h', Q v h' → St p l e R s m args below meth c n0 T' h' (k + rm.cells) (n + rm.slots) → Done p e below G (T'.setTop (mkF m pc' Ls (v.toList ++ rest)))) :
    Done p e below G (T.setTop (mkF m pc Ls st)) := by
  subst hp
  obtain ⟨locs, X, N, eT⟩ := S
  obtain ⟨cq, q1, q2⟩ := E.cell
  obtain ⟨v, vm₁, ⟨T', L', k', n'⟩, -, X', ⟨L, ⟨hQ, NL⟩, e1, e2, e3⟩, step⟩ := X.privateBack hx (y := y) hown (mvT hZ w1) (mvT hZ w6) (mvT hZ w5) (Cond.privateMethod_at (mvP hZ w7 (args := #[]))) (mvT hZ w4) hy
    (backOf (W := W) (Q := fun v h L => Q v h ∧ Fr n0 L) (C []) hZ w4 w3 hf hl) (g := mkF m pc Ls st) rfl hml (Steps.refl _) (a := a) (by rw [eT]; exact q1) q2 (argsL := argsL) (rest := rest) hlen hst (by show 2 * 0 + _ ≤ _; omega) hd
    (fun _ _ => ⟨has, eT, hk, hn⟩)
  dsimp only [Pt.U, Pt.locs, Pt.cells, Pt.slots] at X' hQ e1 e2 e3 step
  subst e1 e2 e3
  exact Done.go (fun t q => step.trans q) (K v T' T'.heap hQ ⟨_, X', Fr.app N NL, rfl⟩)
/-- any one step of the library's that leaves the heap and the room as they are -/
theorem k_via {f f' : JFrame} (S : St p l e R s m args below meth c n0 T h k n) (I : ∀ locs, Stand p l e R s m args below meth c T locs k n → T.heap = h → ∃ T', Stand p l e R s m args below meth c T' locs k n ∧ T'.heap = h ∧ ∀ target, Steps p.tables e below (T'.setTop f') target → Steps p.tables e below (T.setTop f) target)
    (K : ∀ T', St p l e R s m args below meth c n0 T' h k n → Done p e below G (T'.setTop f')) : Done p e below G (T.setTop f) := by
  obtain ⟨locs, X, N, eT⟩ := S
  obtain ⟨T', X', eT', step⟩ := I locs X eT
  exact Done.go step (K T' ⟨_, X', N, eT'⟩)
/-! ### the heap: objects and fields -/
theorem k_getfield (S : St p l e R s m args below meth c n0 T h k n) (hx : p.tables.exec = Jvm.exec) (hZ : Z.Warmed39 s.vm) {own O f d : String} {index : Nat} (hown : s.vm.findClass own = some m.cls) (w : (Jvm.Cond.fieldLink own index O f d).before a0 Z = true)
    {a : Addr} {v : Value} (F : Fld Z h a O f d v) (hd : decode c.code pc = .ok (.getfield index, 3)) (hp : pc + 3 = pc')
    (K : ∀ T', St p l e R s m args below meth c n0 T' h k n → Done p e below G (T'.setTop (mkF m pc' Ls (v :: st)))) : Done p e below G (T.setTop (mkF m pc Ls (.ref a :: st))) := by
  subst hp
  obtain ⟨locs, X, N, eT⟩ := S
  obtain ⟨T', X', eT', step⟩ := getF X hx hZ hown (host := "") (Or.inl w) Via.refl eT F (g := mkF m pc Ls (.ref a :: st)) rfl rfl hd
  exact Done.go step (K T' ⟨_, X', N, eT'⟩)
theorem k_putfield (S : St p l e R s m args below meth c n0 T h k n) (hx : p.tables.exec = Jvm.exec) (hZ : Z.Warmed39 s.vm) {own O f d C : String} {index kk : Nat} {ty : FieldType} (hown : s.vm.findClass own = some m.cls) (w : (Jvm.Cond.fieldLink own index O f d).before a0 Z = true)
    {a : Addr} {v old : Value} (F : Fld Z h a O f d old) (E : Exa Z h a C) (L : (Jvm.Cond.lays C O f d).before a0 Z = true ∨ ((Jvm.Cond.laysFinal C O f d).before a0 Z = true ∧ own = O ∧ meth.name = "<init>")) (wi : (Jvm.Cond.instantiable C kk).before a0 Z = true)
    (hty : parseFieldDescriptor d = some ty) (hn' : narrow ty v = v) (hf : fits ty v = true) (ha : n0 ≤ a) (hd : decode c.code pc = .ok (.putfield index, 3)) (hp : pc + 3 = pc')
    (K : ∀ T' h', Wr h h' a (Jvm.RoadKit.slotOf Z O f d) v → St p l e R s m args below meth c n0 T' h' k n → Done p e below G (T'.setTop (mkF m pc' Ls st))) : Done p e below G (T.setTop (mkF m pc Ls (v :: .ref a :: st))) := by
  subst hp
  obtain ⟨locs, X, N, eT⟩ := S
  obtain ⟨T', h', X', eT', W, step⟩ := putF X hx hZ hown (host := "") (Or.inl w) Via.refl eT F E L wi hty hn' hf (g := mkF m pc Ls (v :: .ref a :: st)) rfl rfl hd
  exact Done.go step (K T' h' W ⟨_, X', Fr.snoc X' N ha, eT'⟩)
theorem k_new (S : St p l e R s m args below meth c n0 T h k n) (hx : p.tables.exec = Jvm.exec) (hZ : Z.Warmed39 s.vm) {own C : String} {index f : Nat} (hown : s.vm.findClass own = some m.cls) (w : (Jvm.Cond.classLink own index C).before a0 Z = true) (wi : (Jvm.Cond.instantiable C f).before a0 Z = true) (wz : (Jvm.Cond.initialized C).before a0 Z = true)
    (hd : decode c.code pc = .ok (.new index, 3)) (hp : pc + 3 = pc') (hk : k + 1 ≤ R.cells) (hn : n + f ≤ R.slots)
    (K : ∀ T' h' b, b = h.size → Ext h h' → Exa Z h' b C → (∀ {O nm d : String} {ty : FieldType}, Laid Z a0 C O nm d → parseFieldDescriptor d = some ty → Fld Z h' b O nm d (defaultValue ty)) → St p l e R s m args below meth c n0 T' h' (k + 1) (n + f) → Done p e below G (T'.setTop (mkF m pc' Ls (.ref b :: st)))) :
    Done p e below G (T.setTop (mkF m pc Ls st)) := by
  subst hp
  obtain ⟨locs, X, N, eT⟩ := S
  obtain ⟨T', h', X', eT', E, A, D, -, step⟩ := newO X hx hZ hown w wi wz eT (g := mkF m pc Ls st) rfl hd hk hn
  exact Done.go step (K T' h' _ rfl E A D ⟨_, X', N, eT'⟩)
end Walk
end Jvm.OwnKit

namespace Jvm.OwnKit
open Sem ClassFile Op Lib Jvm.Stand Jvm.Free Jvm.LawKit Jvm.RoadKit
/-! My own layer: arrays as lists. -/
/-- at a lies an array of ty that holds vs -/
def Vec (Z : State) (h : Heap) (a : Addr) (ty : FieldType) (vs : List Value) : Prop := ∃ c : Cell, Arr Z h a c ty ∧ c.slots.toList = vs ∧ vs.length < 2 ^ 31
/-- an int[] | a byte[] that holds xs -/
def IV (Z : State) (h : Heap) (a : Addr) (xs : List Int32) : Prop := Vec Z h a .int (xs.map Value.int)
def BV (Z : State) (h : Heap) (a : Addr) (xs : List Int32) : Prop := Vec Z h a .byte (xs.map Value.int)
/-- a long[] that holds xs -/
def LV (Z : State) (h : Heap) (a : Addr) (xs : List Int64) : Prop := Vec Z h a .long (xs.map Value.long)
theorem Keep.ext0 {h h' : Heap} (K : Keep h h' []) : Ext h h' := ⟨K.1, fun x c q => K.2.1 x c q nin0⟩
theorem Keep.of_ext {h h' : Heap} (E : Ext h h') (ws : List Addr) : Keep h h' ws := (Keep.refl h ws).ext E
section Arrays
variable {p : Program} {l : Launch} {e : Env} {R : Room} {s : State} {m : MethodId} {args : Array Value} {below : List Frame} {meth : Method} {c : Code} {n0 : Nat} {T : State} {h h' : Heap} {k n : Nat} {Z : State} {a0 : Array Value}
variable {G : Outcome → State → Prop} {pc pc' : Nat} {Ls Ls' : Array Slot} {st : List Value} {a b : Addr} {ty : FieldType} {vs : List Value} {xs : List Int32} {ys : List Int64} {ws : List Addr} {sl : Nat} {v : Value}
theorem Vec.lt (F : Vec Z h a ty vs) : a < h.size := by obtain ⟨c, A, -⟩ := F; exact A.lt
theorem Vec.ext (F : Vec Z h a ty vs) (E : Ext h h') : Vec Z h' a ty vs := by obtain ⟨c, A, r⟩ := F; exact ⟨c, A.ext E, r⟩
theorem Vec.other (F : Vec Z h b ty vs) (W : Wr h h' a sl v) (q : b ≠ a) : Vec Z h' b ty vs := by obtain ⟨c, A, r⟩ := F; exact ⟨c, A.other W q, r⟩
theorem Vec.keep (F : Vec Z h a ty vs) (K : Keep h h' ws) (q : a ∉ ws) : Vec Z h' a ty vs := by obtain ⟨c, A, r⟩ := F; exact ⟨c, ⟨K.2.1 a c A.1 q, A.2⟩, r⟩
theorem Vec.put (F : Vec Z h a ty vs) (W : Wr h h' a sl v) : Vec Z h' a ty (vs.set sl v) := by
  obtain ⟨c, A, q, r⟩ := F
  exact ⟨_, A.same W, by simp [Cell.setSlot, q], by simpa using r⟩
theorem Vec.mk {x : Int32} (A : Arr Z h a (newA k ty x) ty) : Vec Z h a ty (List.replicate x.toInt.toNat (defaultValue ty)) := ⟨_, A, by
  show (Array.replicate x.toInt.toNat (defaultValue ty)).toList = _
  rw [Array.toList_replicate], by
  have := x.toInt_lt
  rw [List.length_replicate]; omega⟩
theorem IV.lt (F : IV Z h a xs) : a < h.size := Vec.lt F
theorem IV.ext (F : IV Z h a xs) (E : Ext h h') : IV Z h' a xs := Vec.ext F E
theorem IV.other (F : IV Z h b xs) (W : Wr h h' a sl v) (q : b ≠ a) : IV Z h' b xs := Vec.other F W q
theorem IV.keep (F : IV Z h a xs) (K : Keep h h' ws) (q : a ∉ ws) : IV Z h' a xs := Vec.keep F K q
theorem IV.put {x : Int32} (F : IV Z h a xs) (W : Wr h h' a sl (.int x)) : IV Z h' a (xs.set sl x) := by
  have q := Vec.put F W
  rw [← List.map_set] at q; exact q
theorem IV.len (F : IV Z h a xs) : xs.length < 2 ^ 31 := by obtain ⟨_, _, _, q⟩ := F; simpa using q
theorem BV.lt (F : BV Z h a xs) : a < h.size := Vec.lt F
theorem BV.ext (F : BV Z h a xs) (E : Ext h h') : BV Z h' a xs := Vec.ext F E
theorem BV.other (F : BV Z h b xs) (W : Wr h h' a sl v) (q : b ≠ a) : BV Z h' b xs := Vec.other F W q
theorem BV.keep (F : BV Z h a xs) (K : Keep h h' ws) (q : a ∉ ws) : BV Z h' a xs := Vec.keep F K q
theorem BV.put {x : Int32} (F : BV Z h a xs) (W : Wr h h' a sl (.int x)) : BV Z h' a (xs.set sl x) := by
  have q := Vec.put F W
  rw [← List.map_set] at q; exact q
theorem BV.len (F : BV Z h a xs) : xs.length < 2 ^ 31 := by obtain ⟨_, _, _, q⟩ := F; simpa using q
theorem LV.lt (F : LV Z h a ys) : a < h.size := Vec.lt F
theorem LV.ext (F : LV Z h a ys) (E : Ext h h') : LV Z h' a ys := Vec.ext F E
theorem LV.other (F : LV Z h b ys) (W : Wr h h' a sl v) (q : b ≠ a) : LV Z h' b ys := Vec.other F W q
theorem LV.keep (F : LV Z h a ys) (K : Keep h h' ws) (q : a ∉ ws) : LV Z h' a ys := Vec.keep F K q
theorem LV.put {x : Int64} (F : LV Z h a ys) (W : Wr h h' a sl (.long x)) : LV Z h' a (ys.set sl x) := by
  have q := Vec.put F W
  rw [← List.map_set] at q; exact q
theorem LV.len (F : LV Z h a ys) : ys.length < 2 ^ 31 := by obtain ⟨_, _, _, q⟩ := F; simpa using q
theorem inb {c : Cell} {j : Int32} (q : c.slots.toList = vs) (h1 : 0 ≤ j.toInt) (h2 : j.toInt < vs.length) : ¬ (j < 0 ∨ c.slots.size ≤ j.toNatClampNeg) := by
  subst q
  rw [Int32.lt_iff_toInt_lt]
  have e0 : (0 : Int32).toInt = 0 := rfl
  have e1 : j.toNatClampNeg = j.toInt.toNat := rfl
  have e2 : c.slots.toList.length = c.slots.size := by simp
  omega
theorem k_arraylength {z : Int32} (S : St p l e R s m args below meth c n0 T h k n) (hx : p.tables.exec = Jvm.exec) (hZ : Z.Warmed39 s.vm) (V : Vec Z h a ty vs) (hd : decode c.code pc = .ok (.arraylength, 1)) (hz : vs.length.toInt32 = z) (hp : pc + 1 = pc')
    (K : Done p e below G (T.setTop (mkF m pc' Ls (.int z :: st)))) : Done p e below G (T.setTop (mkF m pc Ls (.ref a :: st))) := by
  subst hp hz
  obtain ⟨_, X, -, eT⟩ := S
  obtain ⟨cl, A, q, r⟩ := V
  have e2 : vs.length = cl.slots.size := by rw [← q]; simp
  rw [e2] at K
  exact Done.go (fun t z => X.arraylength hx (by rw [eT]; exact A.1) (State.isArrayOf_alike hZ.alike A.2.1) (g := mkF m pc Ls (.ref a :: st)) rfl rfl hd _ z) K
theorem k_iaload {j w : Int32} (S : St p l e R s m args below meth c n0 T h k n) (hx : p.tables.exec = Jvm.exec) (hZ : Z.Warmed39 s.vm) (V : IV Z h a xs) (hd : decode c.code pc = .ok (.iaload, 1)) (h1 : 0 ≤ j.toInt) (h2 : j.toInt < xs.length) (hv : xs.getD j.toInt.toNat 0 = w) (hp : pc + 1 = pc')
    (K : Done p e below G (T.setTop (mkF m pc' Ls (.int w :: st)))) : Done p e below G (T.setTop (mkF m pc Ls (.int j :: .ref a :: st))) := by
  subst hp hv
  obtain ⟨_, X, -, eT⟩ := S
  obtain ⟨cl, A, q, r⟩ := V
  have hl : j.toInt.toNat < xs.length := by omega
  have hv : cl.slots[j.toNatClampNeg]? = some (.int (xs.getD j.toInt.toNat 0)) := by
    show cl.slots[j.toInt.toNat]? = _
    rw [← Array.getElem?_toList, q, List.getElem?_map, List.getElem?_eq_getElem hl]
    rw [List.getD_eq_getElem?_getD, List.getElem?_eq_getElem hl]; rfl
  exact Done.go (fun t z => X.iaload hx (by rw [eT]; exact A.1) (State.isArrayOf_alike hZ.alike A.2.1) A.2.2 (inb q h1 (by simpa using h2)) hv (g := mkF m pc Ls (.int j :: .ref a :: st)) rfl rfl hd _ z) K
theorem k_baload {j w : Int32} (S : St p l e R s m args below meth c n0 T h k n) (hx : p.tables.exec = Jvm.exec) (hZ : Z.Warmed39 s.vm) (V : BV Z h a xs) (hd : decode c.code pc = .ok (.baload, 1)) (h1 : 0 ≤ j.toInt) (h2 : j.toInt < xs.length) (hv : xs.getD j.toInt.toNat 0 = w) (hp : pc + 1 = pc')
    (K : Done p e below G (T.setTop (mkF m pc' Ls (.int w :: st)))) : Done p e below G (T.setTop (mkF m pc Ls (.int j :: .ref a :: st))) := by
  subst hp hv
  obtain ⟨_, X, -, eT⟩ := S
  obtain ⟨cl, A, q, r⟩ := V
  have hl : j.toInt.toNat < xs.length := by omega
  have hv : cl.slots[j.toNatClampNeg]? = some (.int (xs.getD j.toInt.toNat 0)) := by
    show cl.slots[j.toInt.toNat]? = _
    rw [← Array.getElem?_toList, q, List.getElem?_map, List.getElem?_eq_getElem hl]
    rw [List.getD_eq_getElem?_getD, List.getElem?_eq_getElem hl]; rfl
  exact Done.go (fun t z => X.baloadBytes hx (by rw [eT]; exact A.1) (State.isArrayOf_alike hZ.alike A.2.1) A.2.2 (inb q h1 (by simpa using h2)) hv (g := mkF m pc Ls (.int j :: .ref a :: st)) rfl rfl hd _ z) K
theorem k_laload {j : Int32} {w : Int64} (S : St p l e R s m args below meth c n0 T h k n) (hx : p.tables.exec = Jvm.exec) (hZ : Z.Warmed39 s.vm) (V : LV Z h a ys) (hd : decode c.code pc = .ok (.laload, 1)) (h1 : 0 ≤ j.toInt) (h2 : j.toInt < ys.length) (hv : ys.getD j.toInt.toNat 0 = w) (hp : pc + 1 = pc')
    (K : Done p e below G (T.setTop (mkF m pc' Ls (.long w :: st)))) : Done p e below G (T.setTop (mkF m pc Ls (.int j :: .ref a :: st))) := by
  subst hp hv
  obtain ⟨_, X, -, eT⟩ := S
  obtain ⟨cl, A, q, r⟩ := V
  have hl : j.toInt.toNat < ys.length := by omega
  have hv : cl.slots[j.toNatClampNeg]? = some (.long (ys.getD j.toInt.toNat 0)) := by
    show cl.slots[j.toInt.toNat]? = _
    rw [← Array.getElem?_toList, q, List.getElem?_map, List.getElem?_eq_getElem hl]
    rw [List.getD_eq_getElem?_getD, List.getElem?_eq_getElem hl]; rfl
  exact Done.go (fun t z => X.laload hx (by rw [eT]; exact A.1) (State.isArrayOf_alike hZ.alike A.2.1) A.2.2 (inb q h1 (by simpa using h2)) hv (g := mkF m pc Ls (.int j :: .ref a :: st)) rfl rfl hd _ z) K
theorem k_iastore {j x : Int32} (S : St p l e R s m args below meth c n0 T h k n) (hx : p.tables.exec = Jvm.exec) (hZ : Z.Warmed39 s.vm) (V : IV Z h a xs) (hd : decode c.code pc = .ok (.iastore, 1)) (h1 : 0 ≤ j.toInt) (h2 : j.toInt < xs.length) (ha : n0 ≤ a) (hp : pc + 1 = pc')
    (K : ∀ T' h', Wr h h' a j.toInt.toNat (.int x) → IV Z h' a (xs.set j.toInt.toNat x) → St p l e R s m args below meth c n0 T' h' k n → Done p e below G (T'.setTop (mkF m pc' Ls st))) : Done p e below G (T.setTop (mkF m pc Ls (.int x :: .int j :: .ref a :: st))) := by
  subst hp
  obtain ⟨_, X, N, eT⟩ := S
  have V0 := V
  obtain ⟨cl, A, q, r⟩ := V
  obtain ⟨T', h', X', eT', W, step⟩ := stI X hx hZ eT A (j := j) (inb q h1 (by simpa using h2)) (g := mkF m pc Ls (.int x :: .int j :: .ref a :: st)) rfl rfl hd
  exact Done.go step (K T' h' W (V0.put W) ⟨_, X', Fr.snoc X' N ha, eT'⟩)
theorem k_bastore {j x : Int32} (S : St p l e R s m args below meth c n0 T h k n) (hx : p.tables.exec = Jvm.exec) (hZ : Z.Warmed39 s.vm) (V : BV Z h a xs) (hd : decode c.code pc = .ok (.bastore, 1)) (h1 : 0 ≤ j.toInt) (h2 : j.toInt < xs.length) (ha : n0 ≤ a) (hp : pc + 1 = pc')
    (K : ∀ T' h', Wr h h' a j.toInt.toNat (.int (nar .byte x)) → BV Z h' a (xs.set j.toInt.toNat (nar .byte x)) → St p l e R s m args below meth c n0 T' h' k n → Done p e below G (T'.setTop (mkF m pc' Ls st))) : Done p e below G (T.setTop (mkF m pc Ls (.int x :: .int j :: .ref a :: st))) := by
  subst hp
  obtain ⟨_, X, N, eT⟩ := S
  have V0 := V
  obtain ⟨cl, A, q, r⟩ := V
  obtain ⟨T', h', X', eT', W, step⟩ := stB X hx hZ eT A (j := j) (inb q h1 (by simpa using h2)) (g := mkF m pc Ls (.int x :: .int j :: .ref a :: st)) rfl rfl hd
  exact Done.go step (K T' h' W (V0.put W) ⟨_, X', Fr.snoc X' N ha, eT'⟩)
theorem k_lastore {j : Int32} {x : Int64} (S : St p l e R s m args below meth c n0 T h k n) (hx : p.tables.exec = Jvm.exec) (hZ : Z.Warmed39 s.vm) (V : LV Z h a ys) (hd : decode c.code pc = .ok (.lastore, 1)) (h1 : 0 ≤ j.toInt) (h2 : j.toInt < ys.length) (ha : n0 ≤ a) (hp : pc + 1 = pc')
    (K : ∀ T' h', Wr h h' a j.toInt.toNat (.long x) → LV Z h' a (ys.set j.toInt.toNat x) → St p l e R s m args below meth c n0 T' h' k n → Done p e below G (T'.setTop (mkF m pc' Ls st))) : Done p e below G (T.setTop (mkF m pc Ls (.long x :: .int j :: .ref a :: st))) := by
  subst hp
  obtain ⟨_, X, N, eT⟩ := S
  have V0 := V
  obtain ⟨cl, A, q, r⟩ := V
  obtain ⟨T', h', X', eT', W, step⟩ := stJ X hx hZ eT A (j := j) (inb q h1 (by simpa using h2)) (g := mkF m pc Ls (.long x :: .int j :: .ref a :: st)) rfl rfl hd
  exact Done.go step (K T' h' W (V0.put W) ⟨_, X', Fr.snoc X' N ha, eT'⟩)
theorem k_newint {x : Int32} (S : St p l e R s m args below meth c n0 T h k n) (hx : p.tables.exec = Jvm.exec) (hZ : Z.Warmed39 s.vm) (w : (Jvm.Cond.arrayClass .int).before a0 Z = true) (hd : decode c.code pc = .ok (.newarray .int, 2)) (h1 : 0 ≤ x.toInt) (cap : Nat) (h2 : x.toInt ≤ cap) (h3 : cap * 8 ≤ 536870912) (hk : k + 1 ≤ R.cells) (hn : n + cap ≤ R.slots) (hp : pc + 2 = pc')
    (K : ∀ T' h' b, b = h.size → Ext h h' → IV Z h' b (List.replicate x.toInt.toNat 0) → St p l e R s m args below meth c n0 T' h' (k + 1) (n + cap) → Done p e below G (T'.setTop (mkF m pc' Ls (.ref b :: st)))) : Done p e below G (T.setTop (mkF m pc Ls (.int x :: st))) := by
  subst hp
  obtain ⟨_, X, N, eT⟩ := S
  obtain ⟨T', h', cA, X', eT', E, A, step⟩ := newP X hx hZ (aty := .int) w eT (g := mkF m pc Ls (.int x :: st)) rfl hd rfl (by rw [Int32.lt_iff_toInt_lt]; show ¬ x.toInt < 0; omega) (cap := cap) (by show x.toInt.toNat ≤ cap; omega) h3 hk hn
  have V := Vec.mk A
  refine Done.go step (K T' h' _ rfl E ?_ ⟨_, X', N, eT'⟩)
  show Vec Z h' h.size .int _
  rw [List.map_replicate]; exact V
theorem k_newbyte {x : Int32} (S : St p l e R s m args below meth c n0 T h k n) (hx : p.tables.exec = Jvm.exec) (hZ : Z.Warmed39 s.vm) (w : (Jvm.Cond.arrayClass .byte).before a0 Z = true) (hd : decode c.code pc = .ok (.newarray .byte, 2)) (h1 : 0 ≤ x.toInt) (cap : Nat) (h2 : x.toInt ≤ cap) (h3 : cap * 8 ≤ 536870912) (hk : k + 1 ≤ R.cells) (hn : n + cap ≤ R.slots) (hp : pc + 2 = pc')
    (K : ∀ T' h' b, b = h.size → Ext h h' → BV Z h' b (List.replicate x.toInt.toNat 0) → St p l e R s m args below meth c n0 T' h' (k + 1) (n + cap) → Done p e below G (T'.setTop (mkF m pc' Ls (.ref b :: st)))) : Done p e below G (T.setTop (mkF m pc Ls (.int x :: st))) := by
  subst hp
  obtain ⟨_, X, N, eT⟩ := S
  obtain ⟨T', h', cA, X', eT', E, A, step⟩ := newP X hx hZ (aty := .byte) w eT (g := mkF m pc Ls (.int x :: st)) rfl hd rfl (by rw [Int32.lt_iff_toInt_lt]; show ¬ x.toInt < 0; omega) (cap := cap) (by show x.toInt.toNat ≤ cap; omega) h3 hk hn
  have V := Vec.mk A
  refine Done.go step (K T' h' _ rfl E ?_ ⟨_, X', N, eT'⟩)
  show Vec Z h' h.size .byte _
  rw [List.map_replicate]; exact V
theorem k_newlong {x : Int32} (S : St p l e R s m args below meth c n0 T h k n) (hx : p.tables.exec = Jvm.exec) (hZ : Z.Warmed39 s.vm) (w : (Jvm.Cond.arrayClass .long).before a0 Z = true) (hd : decode c.code pc = .ok (.newarray .long, 2)) (h1 : 0 ≤ x.toInt) (cap : Nat) (h2 : x.toInt ≤ cap) (h3 : cap * 8 ≤ 536870912) (hk : k + 1 ≤ R.cells) (hn : n + cap ≤ R.slots) (hp : pc + 2 = pc')
    (K : ∀ T' h' b, b = h.size → Ext h h' → LV Z h' b (List.replicate x.toInt.toNat 0) → St p l e R s m args below meth c n0 T' h' (k + 1) (n + cap) → Done p e below G (T'.setTop (mkF m pc' Ls (.ref b :: st)))) : Done p e below G (T.setTop (mkF m pc Ls (.int x :: st))) := by
  subst hp
  obtain ⟨_, X, N, eT⟩ := S
  obtain ⟨T', h', cA, X', eT', E, A, step⟩ := newP X hx hZ (aty := .long) w eT (g := mkF m pc Ls (.int x :: st)) rfl hd rfl (by rw [Int32.lt_iff_toInt_lt]; show ¬ x.toInt < 0; omega) (cap := cap) (by show x.toInt.toNat ≤ cap; omega) h3 hk hn
  have V := Vec.mk A
  refine Done.go step (K T' h' _ rfl E ?_ ⟨_, X', N, eT'⟩)
  show Vec Z h' h.size .long _
  rw [List.map_replicate]; exact V
theorem k_getstatic (S : St p l e R s m args below meth c n0 T h k n) (hx : p.tables.exec = Jvm.exec) (hZ : Z.Warmed39 s.vm) {own O f d : String} {index : Nat} (hown : s.vm.findClass own = some m.cls) (w : (Jvm.Cond.fieldLink own index O f d).before a0 Z = true)
    (F : Sta Z h O f d v) (hd : decode c.code pc = .ok (.getstatic index, 3)) (hp : pc + 3 = pc')
    (K : ∀ T', St p l e R s m args below meth c n0 T' h k n → Done p e below G (T'.setTop (mkF m pc' Ls (v :: st)))) : Done p e below G (T.setTop (mkF m pc Ls st)) := by
  subst hp
  obtain ⟨locs, X, N, eT⟩ := S
  obtain ⟨T', X', eT', step⟩ := getS2 X hx hZ hown (host := "") (Or.inl w) Via.refl eT F (g := mkF m pc Ls st) rfl hd
  exact Done.go step (K T' ⟨_, X', N, eT'⟩)
theorem IV.arv (F : IV Z h a xs) : ∃ k, Arv Z h a k .int xs.length.toInt32 (xs.map Value.int) (.int 0) := by
  obtain ⟨c, A, q, r⟩ := F
  have hl : xs.length < 2 ^ 31 := by simpa using r
  have e0 : xs.length.toInt32.toInt = (xs.length : Int) := by
    show (Int32.ofNat xs.length).toInt = _
    exact Int32.toInt_ofNat_of_lt hl
  have hs : c.slots.size = xs.length := by have := congrArg List.length q; simpa using this
  refine ⟨c.cls, c, A, rfl, ?_, ?_, ?_, ?_⟩
  · show c.slots.size = xs.length.toInt32.toInt.toNat
    rw [e0, hs]; simp
  · rw [Int32.lt_iff_toInt_lt, e0]; show ¬ (xs.length : Int) < 0; omega
  · intro i hi
    rw [← Array.getElem?_toList, q, List.getD_eq_getElem?_getD]
    have : i < (xs.map Value.int).length := by simpa [← hs] using hi
    rw [List.getElem?_eq_getElem this]; rfl
  · intro i hi
    have : i < (xs.map Value.int).length := by simpa [← hs] using hi
    rw [List.getD_eq_getElem?_getD, List.getElem?_eq_getElem this]
    simp [fits]
theorem IV.of_arv {k : ClassId} {z : Int32} (F : Arv Z h a k .int z (xs.map Value.int) (.int 0)) (hz : z.toInt = (xs.length : Int)) : IV Z h a xs := by
  obtain ⟨c, A, -, hs, -, H, -⟩ := F
  have hs' : c.slots.size = xs.length := by rw [hs]; show z.toInt.toNat = _; omega
  refine ⟨c, A, ?_, by have := z.toInt_lt; simp; omega⟩
  refine List.ext_getElem? fun i => ?_
  by_cases hi : i < c.slots.size
  · rw [Array.getElem?_toList, H i hi, List.getD_eq_getElem?_getD]
    have : i < (xs.map Value.int).length := by simpa [← hs'] using hi
    rw [List.getElem?_eq_getElem this]; rfl
  · rw [List.getElem?_eq_none (by simpa using hi), List.getElem?_eq_none (by simp; omega)]
theorem k_arraycopy {nn : Int32} {xs' : List Int32} (S : St p l e R s m args below meth c n0 T h k n) (hx : p.tables.exec = Jvm.exec) (hZ : Z.Warmed39 s.vm) {own : String} {index : Nat} (hown : s.vm.findClass own = some m.cls)
    (w1 : (Jvm.Cond.methodLink own index Jvm.Stand.acN).before a0 Z = true) (w2 : (Jvm.Cond.native Jvm.Stand.acN).before a0 Z = true) (w3 : (Jvm.Cond.static Jvm.Stand.acN).before a0 Z = true) (w4 : (Jvm.Cond.initialized "java/lang/System").before a0 Z = true)
    (A : IV Z h a xs) (B : IV Z h b xs') (h1 : 0 ≤ nn.toInt) (h2 : nn.toInt ≤ xs.length) (h3 : nn.toInt ≤ xs'.length) (ge : n0 ≤ b) (hml : Ls.size = c.maxLocals) (hd : decode c.code pc = .ok (.invokestatic index, 3)) (hf : 1 ≤ R.frames) (W : Nat) (hW : (st.map fun v => v.category).sum ≤ W) (hlo : W + 18 ≤ R.locals) (hp : pc + 3 = pc')
    (K : ∀ T' h', Keep h h' [b] → IV Z h' b (xs.take nn.toInt.toNat ++ xs'.drop nn.toInt.toNat) → St p l e R s m args below meth c n0 T' h' k n → Done p e below G (T'.setTop (mkF m pc' Ls st))) :
    Done p e below G (T.setTop (mkF m pc Ls (.int nn :: .int 0 :: .ref b :: .int 0 :: .ref a :: st))) := by
  subst hp
  obtain ⟨_, X, N, eT⟩ := S
  have la := A.len
  have lb := B.len
  obtain ⟨ka, Aa⟩ := A.arv
  obtain ⟨kb, Bb⟩ := B.arv
  have ea : xs.length.toInt32.toInt = (xs.length : Int) := Int32.toInt_ofNat_of_lt la
  have eb : xs'.length.toInt32.toInt = (xs'.length : Int) := Int32.toInt_ofNat_of_lt lb
  have z0 : (0 : Int32).toNatClampNeg = 0 := rfl
  obtain ⟨T', h', L, X', eT', N', Kp, V, step⟩ := cpA X hx hZ hown w1 w2 w3 w4 eT (sp := 0) (dp := 0) (nn := nn) (us := (xs.take nn.toInt.toNat).map Value.int) Aa Bb (Or.inl ⟨rfl, rfl⟩) (by decide) (by decide) (by rw [Int32.lt_iff_toInt_lt]; show ¬ nn.toInt < 0; omega)
    (by rw [z0]; show 0 + nn.toInt.toNat ≤ xs.length.toInt32.toInt.toNat; omega) (by rw [z0]; show 0 + nn.toInt.toNat ≤ xs'.length.toInt32.toInt.toNat; omega)
    (by
      refine List.ext_getElem (by show _ = (List.map _ (List.range nn.toInt.toNat)).length; rw [List.length_map, List.length_take, List.length_map, List.length_range]; omega) fun i g1 g2 => ?_
      have g3 : i < nn.toInt.toNat := by have := g1; rw [List.length_map, List.length_take] at this; omega
      simp only [List.getElem_map, List.getElem_take, List.getElem_range, z0, Nat.zero_add]
      rw [List.getD_eq_getElem?_getD, List.getElem?_map, List.getElem?_eq_getElem (by omega)]; rfl)
    (by rw [z0]; show 0 + nn.toInt.toNat ≤ _; rw [List.length_map]; omega) N ge (g := mkF m pc Ls (.int nn :: .int 0 :: .ref b :: .int 0 :: .ref a :: st)) rfl hml rfl hd hf (W := W) (by show 2 * 0 + _ ≤ _; omega) (by show W + 18 ≤ _; exact hlo)
  refine Done.go step (K T' h' Kp ?_ ⟨_, X', N', eT'⟩)
  refine IV.of_arv (k := kb) (z := xs'.length.toInt32) ?_ (by rw [eb, List.length_append, List.length_take, List.length_drop]; omega)
  have e : (List.map Value.int xs').take (0 : Int32).toNatClampNeg ++ (xs.take nn.toInt.toNat).map Value.int ++ (List.map Value.int xs').drop ((0 : Int32).toNatClampNeg + nn.toNatClampNeg) = (xs.take nn.toInt.toNat ++ xs'.drop nn.toInt.toNat).map Value.int := by
    rw [z0]; show List.take 0 _ ++ _ ++ List.drop (0 + nn.toInt.toNat) _ = _
    simp
  rw [← e]; exact V
theorem k_arraycopyD {nn dp : Int32} {xs' : List Int32} (S : St p l e R s m args below meth c n0 T h k n) (hx : p.tables.exec = Jvm.exec) (hZ : Z.Warmed39 s.vm) {own : String} {index : Nat} (hown : s.vm.findClass own = some m.cls)
    (w1 : (Jvm.Cond.methodLink own index Jvm.Stand.acN).before a0 Z = true) (w2 : (Jvm.Cond.native Jvm.Stand.acN).before a0 Z = true) (w3 : (Jvm.Cond.static Jvm.Stand.acN).before a0 Z = true) (w4 : (Jvm.Cond.initialized "java/lang/System").before a0 Z = true)
    (A : IV Z h a xs) (B : IV Z h b xs') (h1 : 0 ≤ nn.toInt) (h2 : nn.toInt ≤ xs.length) (h4 : 0 ≤ dp.toInt) (h3 : dp.toInt + nn.toInt ≤ xs'.length) (ge : n0 ≤ b) (hml : Ls.size = c.maxLocals) (hd : decode c.code pc = .ok (.invokestatic index, 3)) (hf : 1 ≤ R.frames) (W : Nat) (hW : (st.map fun v => v.category).sum ≤ W) (hlo : W + 18 ≤ R.locals) (hp : pc + 3 = pc')
    (K : ∀ T' h', Keep h h' [b] → IV Z h' b (xs'.take dp.toInt.toNat ++ xs.take nn.toInt.toNat ++ xs'.drop (dp.toInt.toNat + nn.toInt.toNat)) → St p l e R s m args below meth c n0 T' h' k n → Done p e below G (T'.setTop (mkF m pc' Ls st))) :
    Done p e below G (T.setTop (mkF m pc Ls (.int nn :: .int dp :: .ref b :: .int 0 :: .ref a :: st))) := by
  subst hp
  obtain ⟨_, X, N, eT⟩ := S
  have la := A.len
  have lb := B.len
  obtain ⟨ka, Aa⟩ := A.arv
  obtain ⟨kb, Bb⟩ := B.arv
  have ea : xs.length.toInt32.toInt = (xs.length : Int) := Int32.toInt_ofNat_of_lt la
  have eb : xs'.length.toInt32.toInt = (xs'.length : Int) := Int32.toInt_ofNat_of_lt lb
  have z0 : (0 : Int32).toNatClampNeg = 0 := rfl
  obtain ⟨T', h', L, X', eT', N', Kp, V, step⟩ := cpA X hx hZ hown w1 w2 w3 w4 eT (sp := 0) (dp := dp) (nn := nn) (us := (xs.take nn.toInt.toNat).map Value.int) Aa Bb (Or.inl ⟨rfl, rfl⟩) (by decide) (by rw [Int32.lt_iff_toInt_lt]; show ¬ dp.toInt < 0; omega) (by rw [Int32.lt_iff_toInt_lt]; show ¬ nn.toInt < 0; omega)
    (by rw [z0]; show 0 + nn.toInt.toNat ≤ xs.length.toInt32.toInt.toNat; omega) (by show dp.toInt.toNat + nn.toInt.toNat ≤ xs'.length.toInt32.toInt.toNat; omega)
    (by
      refine List.ext_getElem (by show _ = (List.map _ (List.range nn.toInt.toNat)).length; rw [List.length_map, List.length_take, List.length_map, List.length_range]; omega) fun i g1 g2 => ?_
      have g3 : i < nn.toInt.toNat := by have := g1; rw [List.length_map, List.length_take] at this; omega
      simp only [List.getElem_map, List.getElem_take, List.getElem_range, z0, Nat.zero_add]
      rw [List.getD_eq_getElem?_getD, List.getElem?_map, List.getElem?_eq_getElem (by omega)]; rfl)
    (by show dp.toInt.toNat + nn.toInt.toNat ≤ _; rw [List.length_map]; omega) N ge (g := mkF m pc Ls (.int nn :: .int dp :: .ref b :: .int 0 :: .ref a :: st)) rfl hml rfl hd hf (W := W) (by show 2 * 0 + _ ≤ _; omega) (by show W + 18 ≤ _; exact hlo)
  refine Done.go step (K T' h' Kp ?_ ⟨_, X', N', eT'⟩)
  refine IV.of_arv (k := kb) (z := xs'.length.toInt32) ?_ (by rw [eb, List.length_append, List.length_append, List.length_take, List.length_take, List.length_drop]; omega)
  have e : (List.map Value.int xs').take dp.toNatClampNeg ++ (xs.take nn.toInt.toNat).map Value.int ++ (List.map Value.int xs').drop (dp.toNatClampNeg + nn.toNatClampNeg) = (xs'.take dp.toInt.toNat ++ xs.take nn.toInt.toNat ++ xs'.drop (dp.toInt.toNat + nn.toInt.toNat)).map Value.int := by
    show List.take dp.toInt.toNat _ ++ _ ++ List.drop (dp.toInt.toNat + nn.toInt.toNat) _ = _
    simp
  rw [← e]; exact V
theorem k_newintE {x : Int32} (S : St p l e R s m args below meth c n0 T h k n) (hx : p.tables.exec = Jvm.exec) (hZ : Z.Warmed39 s.vm) (w : (Jvm.Cond.arrayClass .int).before a0 Z = true) (hd : decode c.code pc = .ok (.newarray .int, 2)) (h1 : 0 ≤ x.toInt) (cap : Nat) (h2 : x.toInt ≤ cap) (h3 : cap * 8 ≤ 536870912) (hk : k + 1 ≤ R.cells) (hn : n + cap ≤ R.slots) (hp : pc + 2 = pc')
    (K : ∀ T' h' b, b = h.size → Ext h h' → IV Z h' b (List.replicate x.toInt.toNat 0) → Exa Z h' b "[I" → St p l e R s m args below meth c n0 T' h' (k + 1) (n + cap) → Done p e below G (T'.setTop (mkF m pc' Ls (.ref b :: st)))) : Done p e below G (T.setTop (mkF m pc Ls (.int x :: st))) := by
  subst hp
  obtain ⟨_, X, N, eT⟩ := S
  obtain ⟨T', h', cA, X', eT', E, A, EX, step⟩ := newPE X hx hZ (aty := .int) w eT (g := mkF m pc Ls (.int x :: st)) rfl hd rfl (by rw [Int32.lt_iff_toInt_lt]; show ¬ x.toInt < 0; omega) (cap := cap) (by show x.toInt.toNat ≤ cap; omega) h3 hk hn (ad := "[I") (by decide)
  have V := Vec.mk A
  refine Done.go step (K T' h' _ rfl E ?_ EX ⟨_, X', N, eT'⟩)
  show Vec Z h' h.size .int _
  rw [List.map_replicate]; exact V
theorem k_clone (S : St p l e R s m args below meth c n0 T h k n) (hx : p.tables.exec = Jvm.exec) (hZ : Z.Warmed39 s.vm) {own : String} {index : Nat} (hown : s.vm.findClass own = some m.cls)
    (w1 : (Jvm.Cond.methodLink own index ⟨"[I", "clone", "()Ljava/lang/Object;"⟩).before a0 Z = true) (w2 : (Jvm.Cond.sameMethod "[I" "java/lang/Object" "clone" "()Ljava/lang/Object;").before a0 Z = true) (w3 : (Jvm.Cond.native ⟨"java/lang/Object", "clone", "()Ljava/lang/Object;"⟩).before a0 Z = true)
    (w4 : (Jvm.Cond.instanceMethod ⟨"java/lang/Object", "clone", "()Ljava/lang/Object;"⟩).before a0 Z = true) (w5 : (Jvm.Cond.selects "[I" ⟨"[I", "clone", "()Ljava/lang/Object;"⟩ ⟨"java/lang/Object", "clone", "()Ljava/lang/Object;"⟩).before a0 Z = true) (w6 : (Jvm.Cond.castable "[I" "java/lang/Cloneable").before a0 Z = true)
    (V : IV Z h a xs) (E : Exa Z h a "[I") (hml : Ls.size = c.maxLocals) (hd : decode c.code pc = .ok (.invokevirtual index, 3)) (hf : 1 ≤ R.frames) (W : Nat) (hW : (st.map fun v => v.category).sum ≤ W) (hlo : W + 14 ≤ R.locals) (cap : Nat) (hcap : xs.length ≤ cap) (hk : k + 1 ≤ R.cells) (hn : n + cap ≤ R.slots) (hp : pc + 3 = pc')
    (K : ∀ T' h' b, b = h.size → Ext h h' → IV Z h' b xs → Exa Z h' b "[I" → St p l e R s m args below meth c n0 T' h' (k + 1) (n + cap) → Done p e below G (T'.setTop (mkF m pc' Ls (.ref b :: st)))) :
    Done p e below G (T.setTop (mkF m pc Ls (.ref a :: st))) := by
  subst hp
  obtain ⟨_, X, N, eT⟩ := S
  obtain ⟨cl, A, q, r⟩ := V
  have hsz : cl.slots.size = xs.length := by have := congrArg List.length q; simpa using this
  have F : FitC Z cl := fitC_of A fun i hi v hv => by
    rw [← Array.getElem?_toList, q, List.getElem?_map] at hv
    cases e : xs[i]? with
    | none => rw [e] at hv; cases hv
    | some z => rw [e] at hv; cases hv; rfl
  obtain ⟨T', h', X', eT', ex, A', E', step⟩ := cloneA X hx hZ hown w1 w2 w3 w4 w5 w6 eT A E F (g := mkF m pc Ls (.ref a :: st)) rfl hml rfl hd hf (W := W) (by show 2 * 0 + _ ≤ _; omega) hlo (cap := cap) (by omega) hk hn
  exact Done.go step (K T' h' _ rfl ex ⟨cloneOf cl, A', q, r⟩ E' ⟨_, X', N, eT'⟩)
theorem k_checkcast (S : St p l e R s m args below meth c n0 T h k n) (hx : p.tables.exec = Jvm.exec) (hZ : Z.Warmed39 s.vm) {own C : String} {index : Nat} (hown : s.vm.findClass own = some m.cls) (w : (Jvm.Cond.classLink own index C).before a0 Z = true)
    (F : Ins Z h a C true) (hd : decode c.code pc = .ok (.checkcast index, 3)) (hp : pc + 3 = pc')
    (K : ∀ T', St p l e R s m args below meth c n0 T' h k n → Done p e below G (T'.setTop (mkF m pc' Ls (.ref a :: st)))) : Done p e below G (T.setTop (mkF m pc Ls (.ref a :: st))) := by
  subst hp
  obtain ⟨locs, X, N, eT⟩ := S
  obtain ⟨T', X', eT', step⟩ := castY X hx hZ hown w eT F (g := mkF m pc Ls (.ref a :: st)) rfl rfl hd
  exact Done.go step (K T' ⟨_, X', N, eT'⟩)
end Arrays
end Jvm.OwnKit
namespace Jvm.Pilot.@@N@@
open Jvm Jvm.ClassFile Sem Op Lib Jvm.Free Jvm.Stand Jvm.LawKit Jvm.RoadKit Jvm.OwnKit Bundle Jvm.Pilot.@@N@@.Jvm.D
theorem own_lt {x y : Int32} : x < y ↔ x.toInt < y.toInt := Int32.lt_iff_toInt_lt
/-- the search: below lo all are below bd, from hi on none is -/
def own_CB (xs : List Int32) (n : Int) (bd : Int32) (lo hi : Int) : Prop := 0 ≤ lo ∧ lo ≤ hi ∧ hi ≤ n ∧ (∀ i : Nat, (i : Int) < lo → xs.getD i 0 < bd) ∧ (∀ i : Nat, hi ≤ (i : Int) → (i : Int) < n → ¬ xs.getD i 0 < bd)
def own_SO (xs : List Int32) (n : Int) : Prop := ∀ i j : Nat, i ≤ j → (j : Int) < n → (xs.getD i 0).toInt ≤ (xs.getD j 0).toInt
theorem own_CB0 (xs : List Int32) (n : Int) (bd : Int32) (h : 0 ≤ n) : own_CB xs n bd 0 n := ⟨by omega, h, by omega, fun i h => by omega, fun i h1 h2 => by omega⟩
theorem own_CBn {xs : List Int32} {n : Int} {bd : Int32} {j : Nat} (hs : own_SO xs n) (h : 0 < n) (hj : (j : Int) = n - 1) (hl : xs.getD j 0 < bd) : own_CB xs n bd n n :=
  ⟨by omega, by omega, by omega, fun i hi => by have := hs i j (by omega) (by omega); rw [own_lt] at *; omega, fun i h1 h2 => by omega⟩
theorem own_CBl {xs : List Int32} {n : Int} {bd : Int32} {lo hi : Int} {j : Nat} (hs : own_SO xs n) (H : own_CB xs n bd lo hi) (h1 : lo ≤ j) (h2 : (j : Int) < hi) (hl : xs.getD j 0 < bd) : own_CB xs n bd (j + 1) hi :=
  ⟨by have := H.1; omega, by omega, H.2.2.1, fun i h => by have q := hs i j (by omega) (by have := H.2.2.1; omega); rw [own_lt] at *; omega, H.2.2.2.2⟩
theorem own_CBh {xs : List Int32} {n : Int} {bd : Int32} {lo hi : Int} {j : Nat} (hs : own_SO xs n) (H : own_CB xs n bd lo hi) (h1 : lo ≤ j) (h2 : (j : Int) < hi) (hl : ¬ xs.getD j 0 < bd) : own_CB xs n bd lo j :=
  ⟨H.1, h1, by have := H.2.2.1; omega, H.2.2.2.1, fun i g1 g2 => by have q := hs j i (by omega) g2; rw [own_lt] at *; omega⟩
def own_min (x y : Int32) : Int32 := if y < x then y else x
def own_max (x y : Int32) : Int32 := if x < y then y else x
theorem own_min_t (x y : Int32) : ((own_min x y).toInt = x.toInt ∨ (own_min x y).toInt = y.toInt) ∧ (own_min x y).toInt ≤ x.toInt ∧ (own_min x y).toInt ≤ y.toInt := by
  unfold own_min; split <;> (rename_i h; rw [own_lt] at h) <;> omega
theorem own_max_t (x y : Int32) : ((own_max x y).toInt = x.toInt ∨ (own_max x y).toInt = y.toInt) ∧ x.toInt ≤ (own_max x y).toInt ∧ y.toInt ≤ (own_max x y).toInt := by
  unfold own_max; split <;> (rename_i h; rw [own_lt] at h) <;> omega
def own_below (b v bd : Int32) : Int32 := if ¬ b = 0 ∧ v < bd then 1 else 0
theorem own_sorted (x0 x1 x2 x3 : Int32) : ∀ a b c d s0 s2 s1 s3 m1 m2 : Int32, a = own_min x0 x1 → b = own_max x0 x1 → c = own_min x2 x3 → d = own_max x2 x3 → s0 = own_min a c → s2 = own_max a c → s1 = own_min b d → s3 = own_max b d → m1 = own_min s1 s2 → m2 = own_max s1 s2 →
    s0.toInt ≤ m1.toInt ∧ m1.toInt ≤ m2.toInt ∧ m2.toInt ≤ s3.toInt := by
  intro a b c d s0 s2 s1 s3 m1 m2 h1 h2 h3 h4 h5 h6 h7 h8 h9 h10
  have := own_min_t x0 x1; have := own_max_t x0 x1; have := own_min_t x2 x3; have := own_max_t x2 x3
  have := own_min_t a c; have := own_max_t a c; have := own_min_t b d; have := own_max_t b d; have := own_min_t s1 s2; have := own_max_t s1 s2
  subst h10 h9; rw [← h1, ← h2, ← h3, ← h4, ← h5, ← h6, ← h7, ← h8] at *
  omega
/-- what the list holds after the adds -/
def own_L (n : Int32) (s0 m1 m2 s3 : Int32) (xs : List Int32) : Prop := 0 ≤ n.toInt ∧ n.toInt ≤ 4 ∧ n.toInt ≤ xs.length ∧ xs.length < 1000 ∧ ∀ i : Nat, (i : Int) < n.toInt → xs.getD i 0 = [s0, m1, m2, s3].getD i 0
theorem own_L_so {n s0 m1 m2 s3 : Int32} {xs : List Int32} (H : own_L n s0 m1 m2 s3 xs) (hs : s0.toInt ≤ m1.toInt ∧ m1.toInt ≤ m2.toInt ∧ m2.toInt ≤ s3.toInt) : own_SO xs n.toInt := by
  intro i j hij hj
  rw [H.2.2.2.2 i (by omega), H.2.2.2.2 j hj]
  have h4 := H.2.1
  have hj4 : j < 4 := by omega
  rcases (by omega : i = 0 ∨ i = 1 ∨ i = 2 ∨ i = 3) with rfl | rfl | rfl | rfl <;> rcases (by omega : j = 0 ∨ j = 1 ∨ j = 2 ∨ j = 3) with rfl | rfl | rfl | rfl <;> simp <;> omega
/-- the count is what the law expects -/
theorem own_count {n s0 m1 m2 s3 : Int32} {xs : List Int32} {bd r : Int32} (H : own_L n s0 m1 m2 s3 xs) (hs : s0.toInt ≤ m1.toInt ∧ m1.toInt ≤ m2.toInt ∧ m2.toInt ≤ s3.toInt) (C : own_CB xs n.toInt bd r.toInt r.toInt)
    {b0 b1 b2 b3 : Int32} (e0 : b0 = if (0 : Int32) < n then 1 else 0) (e1 : b1 = if (1 : Int32) < n then 1 else 0) (e2 : b2 = if (2 : Int32) < n then 1 else 0) (e3 : b3 = if (3 : Int32) < n then 1 else 0) :
    r = own_below b0 s0 bd + own_below b1 m1 bd + own_below b2 m2 bd + own_below b3 s3 bd := by
  have key (k : Int32) (kn : Nat) (hk : k.toInt = kn) (b v : Int32) (eb : b = if k < n then 1 else 0) (hv : (kn : Int) < n.toInt → xs.getD kn 0 = v) : own_below b v bd = if (kn : Int) < r.toInt then 1 else 0 := by
    subst eb; unfold own_below
    by_cases h : k < n
    · rw [if_pos h]
      rw [own_lt, hk] at h
      by_cases g : (kn : Int) < r.toInt
      · have q := C.2.2.2.1 kn g
        rw [hv h] at q; rw [if_pos g, if_pos ⟨by decide, q⟩]
      · have q := C.2.2.2.2 kn (by omega) h
        rw [hv h] at q; rw [if_neg g, if_neg fun z => q z.2]
    · rw [if_neg h, if_neg (by simp)]
      rw [own_lt, hk] at h
      have := C.2.2.1
      rw [if_neg (by omega)]
  rw [key 0 0 rfl b0 s0 e0 (fun h => H.2.2.2.2 0 h), key 1 1 rfl b1 m1 e1 (fun h => H.2.2.2.2 1 h), key 2 2 rfl b2 m2 e2 (fun h => H.2.2.2.2 2 h), key 3 3 rfl b3 s3 e3 (fun h => H.2.2.2.2 3 h)]
  have a1 := C.1
  have a2 := C.2.2.1
  have a3 := H.2.1
  have : r.toInt = 0 ∨ r.toInt = 1 ∨ r.toInt = 2 ∨ r.toInt = 3 ∨ r.toInt = 4 := by omega
  rw [← Int32.toInt_inj]
  rcases this with h | h | h | h | h <;> rw [h] <;> decide
theorem own_len32 {xs : List Int32} (h : xs.length < 2 ^ 31) : xs.length.toInt32.toInt = (xs.length : Int) := Int32.toInt_ofNat_of_lt h
theorem own_mn0 {xs : List Int32} {nl : Int32} (h : xs.length < 2 ^ 31) (h1 : 0 ≤ nl.toInt) : 0 ≤ (own_min xs.length.toInt32 nl).toInt ∧ (own_min xs.length.toInt32 nl).toInt ≤ xs.length ∧ (own_min xs.length.toInt32 nl).toInt ≤ nl.toInt.toNat := by
  have q := own_min_t xs.length.toInt32 nl
  have e := own_len32 h
  omega
theorem own_nlen {xs : List Int32} {n : Int32} (h : xs.length < 2 ^ 31) (h1 : n.toInt < xs.length) : ¬ n = xs.length.toInt32 := fun z => by
  have e := own_len32 h
  rw [← z] at e; omega

theorem own_n5 (x : Int32) : 0 ≤ ((x &&& 2147483647) % 5).toInt ∧ ((x &&& 2147483647) % 5).toInt ≤ 4 := by
  have q := (c_and x 2147483647 (by decide)).1
  have r := (c_irem (x &&& 2147483647) 5 5 (by decide)).1 q
  omega
theorem own_sub1 {d : Int32} (h : 1 ≤ d.toInt) : (d - 1).toInt = d.toInt - 1 := by
  have q := c_isub d 1
  have r := rng32 (d - 1)
  have r2 := rng32 d
  have e : (1 : Int32).toInt = 1 := rfl
  omega
theorem own_mid {lo hi : Int32} (h1 : 0 ≤ lo.toInt) (h2 : lo.toInt ≤ hi.toInt) (h3 : hi.toInt < 1000) : (((lo + hi).toUInt32 >>> ((1 : Int32) &&& 31).toUInt32).toInt32).toInt = (lo.toInt + hi.toInt) / 2 := by
  rw [c_iushr (lo + hi) 1 1 (by decide) (by decide)]
  have q := c_iadd lo hi
  have r := rng32 (lo + hi)
  have e : (lo + hi).toInt = lo.toInt + hi.toInt := by omega
  rw [e]; omega
theorem own_add1 {d : Int32} (h : 0 ≤ d.toInt) (h2 : d.toInt < 1000) : (d + 1).toInt = d.toInt + 1 := by
  have q := c_iadd d 1
  have r := rng32 (d + 1)
  have e : (1 : Int32).toInt = 1 := rfl
  omega
theorem own_Lk0 (s0 m1 m2 s3 : Int32) : own_L 0 s0 m1 m2 s3 [0, 0] := ⟨by decide, by decide, by decide, by decide, fun i h => by have q : (0 : Int32).toInt = 0 := rfl; omega⟩
theorem own_Lk1 (s0 m1 m2 s3 : Int32) : own_L 1 s0 m1 m2 s3 [s0, 0] := ⟨by first | decide | (simp; done), by first | decide | (simp; done), by first | decide | (simp; done), by first | decide | (simp; done), fun i h => by have q : (1 : Int32).toInt = 1 := rfl; rcases (by omega : i = 0) with rfl; rfl⟩
theorem own_Lk2 (s0 m1 m2 s3 : Int32) : own_L 2 s0 m1 m2 s3 [s0, m1] := ⟨by first | decide | (simp; done), by first | decide | (simp; done), by first | decide | (simp; done), by first | decide | (simp; done), fun i h => by have q : (2 : Int32).toInt = 2 := rfl; rcases (by omega : i = 0 ∨ i = 1) with rfl | rfl <;> rfl⟩
theorem own_Lk3 (s0 m1 m2 s3 : Int32) : own_L 3 s0 m1 m2 s3 [s0, m1, m2, 0] := ⟨by first | decide | (simp; done), by first | decide | (simp; done), by first | decide | (simp; done), by first | decide | (simp; done), fun i h => by have q : (3 : Int32).toInt = 3 := rfl; rcases (by omega : i = 0 ∨ i = 1 ∨ i = 2) with rfl | rfl | rfl <;> rfl⟩
theorem own_Lk4 (s0 m1 m2 s3 : Int32) : own_L 4 s0 m1 m2 s3 [s0, m1, m2, s3] := ⟨by first | decide | (simp; done), by first | decide | (simp; done), by first | decide | (simp; done), by first | decide | (simp; done), fun i h => by have q : (4 : Int32).toInt = 4 := rfl; rcases (by omega : i = 0 ∨ i = 1 ∨ i = 2 ∨ i = 3) with rfl | rfl | rfl | rfl <;> rfl⟩
theorem own_d1_0 : decode jdk_29_method_69_code 0 = .ok (.iload_n 0, 1) := by decide +kernel
theorem own_d1_1 : decode jdk_29_method_69_code 1 = .ok (.iload_n 1, 1) := by decide +kernel
theorem own_d1_2 : decode jdk_29_method_69_code 2 = .ok (.if_icmp .gt 7, 3) := by decide +kernel
theorem own_d1_5 : decode jdk_29_method_69_code 5 = .ok (.iload_n 0, 1) := by decide +kernel
theorem own_d1_6 : decode jdk_29_method_69_code 6 = .ok (.goto 4, 3) := by decide +kernel
theorem own_d1_9 : decode jdk_29_method_69_code 9 = .ok (.iload_n 1, 1) := by decide +kernel
theorem own_d1_10 : decode jdk_29_method_69_code 10 = .ok (.ireturn, 1) := by decide +kernel
set_option maxRecDepth 65536 in
set_option maxHeartbeats 40000000 in
theorem own_cmin (l : Launch) (Z : State) (a0 : Array Value) (hw : ∀ d ∈ tables_1, d.before a0 Z = true) (u t : Int32) (h0 : Heap) (n0 : Nat) :
    Con l Z (⟨"java/lang/Math", "min", "(II)I"⟩ : MethodName) jdk_29_method_69_code 2 (some .int) ({ frames := 0, cells := 0, slots := 0, locals := 0 } : Room) n0 h0 #[(.int u), (.int t)] (fun v h => v = some (.int (own_min u t)) ∧ h = h0) := by
  refine Con.intro (Jvm.Free.JP.mathPlain rfl (by decide +kernel)) (Ls := #[.val (.int u), .val (.int t)]) (fun m => by first | (simp [entryFrame, mkF, argsToLocals, Value.category]; done) | rfl) ?_
  intro p e s m below meth c s₁ hx hby hml hown hnm hret hlk hZ S0
  have A0 := S0.here
  refine k_iloadN A0 hx (hb hby own_d1_0) rfl (pc' := 1) rfl ?_
  refine k_iloadN A0 hx (hb hby own_d1_1) rfl (pc' := 2) rfl ?_
  refine k_icmp_gt A0 hx (hb hby own_d1_2) (pcY := 9) (by decide) (pc' := 5) rfl (fun hc2 => ?_) (fun hc2 => ?_)
  · refine k_iloadN A0 hx (hb hby own_d1_9) rfl (pc' := 10) rfl ?_
    refine k_ret_int S0 hx hret hlk (hb hby own_d1_10) (by decide) (by decide) ?_
    exact ⟨by simp [own_min, hc2], rfl⟩
  · refine k_iloadN A0 hx (hb hby own_d1_5) rfl (pc' := 6) rfl ?_
    refine k_goto A0 hx (hb hby own_d1_6) (pc' := 10) (by decide) ?_
    refine k_ret_int S0 hx hret hlk (hb hby own_d1_10) (by decide) (by decide) ?_
    exact ⟨by simp [own_min, hc2], rfl⟩
theorem own_d2_0 : decode jdk_29_method_65_code 0 = .ok (.iload_n 0, 1) := by decide +kernel
theorem own_d2_1 : decode jdk_29_method_65_code 1 = .ok (.iload_n 1, 1) := by decide +kernel
theorem own_d2_2 : decode jdk_29_method_65_code 2 = .ok (.if_icmp .lt 7, 3) := by decide +kernel
theorem own_d2_5 : decode jdk_29_method_65_code 5 = .ok (.iload_n 0, 1) := by decide +kernel
theorem own_d2_6 : decode jdk_29_method_65_code 6 = .ok (.goto 4, 3) := by decide +kernel
theorem own_d2_9 : decode jdk_29_method_65_code 9 = .ok (.iload_n 1, 1) := by decide +kernel
theorem own_d2_10 : decode jdk_29_method_65_code 10 = .ok (.ireturn, 1) := by decide +kernel
set_option maxRecDepth 65536 in
set_option maxHeartbeats 40000000 in
theorem own_cmax (l : Launch) (Z : State) (a0 : Array Value) (hw : ∀ d ∈ tables_1, d.before a0 Z = true) (u t : Int32) (h0 : Heap) (n0 : Nat) :
    Con l Z (⟨"java/lang/Math", "max", "(II)I"⟩ : MethodName) jdk_29_method_65_code 2 (some .int) ({ frames := 0, cells := 0, slots := 0, locals := 0 } : Room) n0 h0 #[(.int u), (.int t)] (fun v h => v = some (.int (own_max u t)) ∧ h = h0) := by
  refine Con.intro (Jvm.Free.JP.mathPlain rfl (by decide +kernel)) (Ls := #[.val (.int u), .val (.int t)]) (fun m => by first | (simp [entryFrame, mkF, argsToLocals, Value.category]; done) | rfl) ?_
  intro p e s m below meth c s₁ hx hby hml hown hnm hret hlk hZ S0
  have A0 := S0.here
  refine k_iloadN A0 hx (hb hby own_d2_0) rfl (pc' := 1) rfl ?_
  refine k_iloadN A0 hx (hb hby own_d2_1) rfl (pc' := 2) rfl ?_
  refine k_icmp_lt A0 hx (hb hby own_d2_2) (pcY := 9) (by decide) (pc' := 5) rfl (fun hc2 => ?_) (fun hc2 => ?_)
  · refine k_iloadN A0 hx (hb hby own_d2_9) rfl (pc' := 10) rfl ?_
    refine k_ret_int S0 hx hret hlk (hb hby own_d2_10) (by decide) (by decide) ?_
    exact ⟨by simp [own_max, hc2], rfl⟩
  · refine k_iloadN A0 hx (hb hby own_d2_5) rfl (pc' := 6) rfl ?_
    refine k_goto A0 hx (hb hby own_d2_6) (pc' := 10) (by decide) ?_
    refine k_ret_int S0 hx hret hlk (hb hby own_d2_10) (by decide) (by decide) ?_
    exact ⟨by simp [own_max, hc2], rfl⟩
theorem own_d8_0 : decode jdk_65_method_123_code 0 = .ok (.iload_n 1, 1) := by decide +kernel
theorem own_d8_1 : decode jdk_65_method_123_code 1 = .ok (.aload_n 0, 1) := by decide +kernel
theorem own_d8_2 : decode jdk_65_method_123_code 2 = .ok (.arraylength, 1) := by decide +kernel
theorem own_d8_3 : decode jdk_65_method_123_code 3 = .ok (.if_icmp .ne 11, 3) := by decide +kernel
theorem own_d8_6 : decode jdk_65_method_123_code 6 = .ok (.aload_n 0, 1) := by decide +kernel
theorem own_d8_7 : decode jdk_65_method_123_code 7 = .ok (.invokevirtual 316, 3) := by decide +kernel
theorem own_d8_10 : decode jdk_65_method_123_code 10 = .ok (.checkcast 317, 3) := by decide +kernel
theorem own_d8_13 : decode jdk_65_method_123_code 13 = .ok (.areturn, 1) := by decide +kernel
theorem own_d8_14 : decode jdk_65_method_123_code 14 = .ok (.iload_n 1, 1) := by decide +kernel
theorem own_d8_15 : decode jdk_65_method_123_code 15 = .ok (.newarray .int, 2) := by decide +kernel
theorem own_d8_17 : decode jdk_65_method_123_code 17 = .ok (.astore_n 2, 1) := by decide +kernel
theorem own_d8_18 : decode jdk_65_method_123_code 18 = .ok (.aload_n 0, 1) := by decide +kernel
theorem own_d8_19 : decode jdk_65_method_123_code 19 = .ok (.iconst 0, 1) := by decide +kernel
theorem own_d8_20 : decode jdk_65_method_123_code 20 = .ok (.aload_n 2, 1) := by decide +kernel
theorem own_d8_21 : decode jdk_65_method_123_code 21 = .ok (.iconst 0, 1) := by decide +kernel
theorem own_d8_22 : decode jdk_65_method_123_code 22 = .ok (.aload_n 0, 1) := by decide +kernel
theorem own_d8_23 : decode jdk_65_method_123_code 23 = .ok (.arraylength, 1) := by decide +kernel
theorem own_d8_24 : decode jdk_65_method_123_code 24 = .ok (.iload_n 1, 1) := by decide +kernel
theorem own_d8_25 : decode jdk_65_method_123_code 25 = .ok (.invokestatic 304, 3) := by decide +kernel
theorem own_d8_28 : decode jdk_65_method_123_code 28 = .ok (.invokestatic 150, 3) := by decide +kernel
theorem own_d8_31 : decode jdk_65_method_123_code 31 = .ok (.aload_n 2, 1) := by decide +kernel
theorem own_d8_32 : decode jdk_65_method_123_code 32 = .ok (.areturn, 1) := by decide +kernel
theorem own_pn8 : plainName "java/util/Arrays" = true := by first | (simp [plainName, overriddenIn]; done) | decide +kernel
theorem own_pd0 : parseMethodDescriptor "(II)I" = some ⟨[.int, .int], some .int⟩ := by decide +kernel
set_option maxRecDepth 65536 in
set_option maxHeartbeats 40000000 in
theorem own_copyOf (l : Launch) (Z : State) (a0 : Array Value) (hw : ∀ d ∈ tables_1, d.before a0 Z = true) (a : Addr) (nl : Int32) (h0 : Heap) (n0 : Nat) (xs : List Int32) (Z0 : n0 ≤ h0.size) (Va : IV Z h0 a xs) (hnl : 0 ≤ nl.toInt ∧ nl.toInt ≤ 4) (hne : ¬ nl = xs.length.toInt32) :
    Con l Z (⟨"java/util/Arrays", "copyOf", "([II)[I"⟩ : MethodName) jdk_65_method_123_code 3 (some (.array .int)) ({ frames := 1, cells := 1, slots := 4, locals := 18 } : Room) n0 h0 #[(.ref a), (.int nl)] (fun v h => ∃ b, v = some (.ref b) ∧ h0.size ≤ b ∧ Keep h0 h [] ∧ IV Z h b (xs.take (own_min xs.length.toInt32 nl).toInt.toNat ++ (List.replicate nl.toInt.toNat 0).drop (own_min xs.length.toInt32 nl).toInt.toNat)) := by
  refine Con.intro (plainFor_of_name own_pn8) (Ls := #[.val (.ref a), .val (.int nl), .unset]) (fun m => by first | (simp [entryFrame, mkF, argsToLocals, Value.category]; done) | rfl) ?_
  intro p e s m below meth c s₁ hx hby hml hown hnm hret hlk hZ S0
  have A0 := S0.here
  have K1 := Keep.refl h0 []
  refine k_iloadN A0 hx (hb hby own_d8_0) rfl (pc' := 1) rfl ?_
  refine k_aloadN A0 hx (hb hby own_d8_1) rfl rfl (pc' := 2) rfl ?_
  refine k_arraylength S0 hx hZ Va (hb hby own_d8_2) (z := (xs.length.toInt32)) (by rw [List.length_map]) (pc' := 3) rfl ?_
  refine k_icmp_ne A0 hx (hb hby own_d8_3) (pcY := 14) (by decide) (pc' := 6) rfl (fun hc3 => ?_) (fun hc3 => absurd hc3 hne)
  refine k_iloadN A0 hx (hb hby own_d8_14) rfl (pc' := 15) rfl ?_
  refine k_newint S0 hx hZ (hw _ (List.mem_of_getElem? (i := 17) rfl)) (hb hby own_d8_15) hnl.1 4 hnl.2 (by decide) (by decide) (by decide) (pc' := 17) rfl ?_
  intro T2 h2 b2 g2 E2 V2 S2
  have ne3 : a ≠ b2 := by rw [g2]; exact Nat.ne_of_lt Va.lt
  have bo4 : h0.size ≤ b2 := Nat.le_trans K1.1 (Nat.le_of_eq g2.symm)
  have ge4 : n0 ≤ b2 := Nat.le_trans Z0 bo4
  have A2 := S2.here
  have f5 := Va.ext E2
  have K6 := K1.ext E2
  refine k_astoreN A2 hx (hb hby own_d8_17) rfl (Ls' := #[.val (.ref a), .val (.int nl), .val (.ref b2)]) rfl (pc' := 18) rfl ?_
  refine k_aloadN A2 hx (hb hby own_d8_18) rfl rfl (pc' := 19) rfl ?_
  refine k_iconst A2 hx (hb hby own_d8_19) (v := 0) rfl (pc' := 20) rfl ?_
  refine k_aloadN A2 hx (hb hby own_d8_20) rfl rfl (pc' := 21) rfl ?_
  refine k_iconst A2 hx (hb hby own_d8_21) (v := 0) rfl (pc' := 22) rfl ?_
  refine k_aloadN A2 hx (hb hby own_d8_22) rfl rfl (pc' := 23) rfl ?_
  refine k_arraylength S2 hx hZ f5 (hb hby own_d8_23) (z := (xs.length.toInt32)) (by rw [List.length_map]) (pc' := 24) rfl ?_
  refine k_iloadN A2 hx (hb hby own_d8_24) rfl (pc' := 25) rfl ?_
  refine k_call_static S2 hx hZ hown (hw _ (List.mem_of_getElem? (i := 40) rfl)) (hw _ (List.mem_of_getElem? (i := 2) rfl)) (hw _ (List.mem_of_getElem? (i := 3) rfl)) (hw _ (List.mem_of_getElem? (i := 4) rfl)) (by decide) (own_cmin l Z a0 hw (xs.length.toInt32) nl h2 n0) 4 (argsL := [(.int (xs.length.toInt32)), (.int nl)]) (rest := [(.int (0 : Int32)), (.ref b2), (.int (0 : Int32)), (.ref a)]) (by decide) (by decide) (by rw [hml]; rfl) (lenOf own_pd0 rfl) rfl rfl (Nat.le_refl 4) (hb hby own_d8_25) (pc' := 28) rfl (by decide) (by decide) ?_
  rintro v7 T7 h7 ⟨rfl, q7⟩ S7
  rw [q7] at S7
  have A7 := S7.here
  show Done p e below _ (T7.setTop (mkF m 28 #[.val (.ref a), .val (.int nl), .val (.ref b2)] [(.int (own_min (xs.length.toInt32) nl)), (.int (0 : Int32)), (.ref b2), (.int (0 : Int32)), (.ref a)]))
  refine k_arraycopy S7 hx hZ hown (hw _ (List.mem_of_getElem? (i := 41) rfl)) (hw _ (List.mem_of_getElem? (i := 44) rfl)) (hw _ (List.mem_of_getElem? (i := 42) rfl)) (hw _ (List.mem_of_getElem? (i := 43) rfl)) f5 V2 (own_mn0 Va.len hnl.1).1 (own_mn0 Va.len hnl.1).2.1 (by rw [List.length_replicate]; exact (own_mn0 Va.len hnl.1).2.2) ge4 (by rw [hml]; rfl) (hb hby own_d8_28) (by decide) 0 (Nat.le_refl _) (by decide) (pc' := 31) rfl ?_
  intro T8 h8 K8 V8 S8
  have A8 := S8.here
  have f9 := f5.keep K8 (ninS ne3 nin0)
  have K11 := K6.trans K8 (allS (Or.inr bo4) all0)
  refine k_aloadN A8 hx (hb hby own_d8_31) rfl rfl (pc' := 32) rfl ?_
  refine k_ret_ref S8 hx hret rfl hlk (hb hby own_d8_32) (by decide) (by decide) ?_
  exact ⟨b2, rfl, bo4, K11, V8⟩
theorem own_d3_0 : decode prog_131_method_1_code 0 = .ok (.aload_n 0, 1) := by decide +kernel
theorem own_d3_1 : decode prog_131_method_1_code 1 = .ok (.invokespecial 1, 3) := by decide +kernel
theorem own_d3_4 : decode prog_131_method_1_code 4 = .ok (.aload_n 0, 1) := by decide +kernel
theorem own_d3_5 : decode prog_131_method_1_code 5 = .ok (.iconst 2, 1) := by decide +kernel
theorem own_d3_6 : decode prog_131_method_1_code 6 = .ok (.newarray .int, 2) := by decide +kernel
theorem own_d3_8 : decode prog_131_method_1_code 8 = .ok (.putfield 7, 3) := by decide +kernel
theorem own_d3_11 : decode prog_131_method_1_code 11 = .ok (.return_, 1) := by decide +kernel
theorem own_pn3 : plainName "com/example/libchase/libchase/core/store/IntList" = true := by first | (simp [plainName, overriddenIn]; done) | decide +kernel
set_option maxRecDepth 65536 in
set_option maxHeartbeats 40000000 in
theorem own_ilinit (l : Launch) (Z : State) (a0 : Array Value) (hw : ∀ d ∈ tables_1, d.before a0 Z = true) (a : Addr) (h0 : Heap) (n0 : Nat) (Z0 : n0 ≤ h0.size) (ga : n0 ≤ a) (Ea : Exa Z h0 a "com/example/libchase/libchase/core/store/IntList") (F1 : Fld Z h0 a "com/example/libchase/libchase/core/store/IntList" "values" "[I" .null) (F2 : Fld Z h0 a "com/example/libchase/libchase/core/store/IntList" "size" "I" (.int (0 : Int32))) :
    Con l Z (⟨"com/example/libchase/libchase/core/store/IntList", "<init>", "()V"⟩ : MethodName) prog_131_method_1_code 1 none ({ frames := 1, cells := 1, slots := 2, locals := 12 } : Room) n0 h0 #[(.ref a)] (fun v h => v = none ∧ ∃ b, h0.size ≤ b ∧ Keep h0 h [a] ∧ Fld Z h a "com/example/libchase/libchase/core/store/IntList" "values" "[I" (.ref b) ∧ Fld Z h a "com/example/libchase/libchase/core/store/IntList" "size" "I" (.int (0 : Int32)) ∧ IV Z h b [0, 0] ∧ a ≠ b) := by
  refine Con.intro (plainFor_of_name own_pn3) (Ls := #[.val (.ref a)]) (fun m => by first | (simp [entryFrame, mkF, argsToLocals, Value.category]; done) | rfl) ?_
  intro p e s m below meth c s₁ hx hby hml hown hnm hret hlk hZ S0
  have A0 := S0.here
  have K1 := Keep.refl h0 [a]
  refine k_aloadN A0 hx (hb hby own_d3_0) rfl rfl (pc' := 1) rfl ?_
  refine k_via S0 (f := (mkF m 1 #[.val (.ref a)] [(.ref a)])) (f' := (mkF m 4 #[.val (.ref a)] [])) (fun _ X eT => initO X hx hZ hown (hw _ (List.mem_of_getElem? (i := 14) rfl)) (hw _ (List.mem_of_getElem? (i := 15) rfl)) (hw _ (List.mem_of_getElem? (i := 16) rfl)) eT (g := (mkF m 1 #[.val (.ref a)] [(.ref a)])) rfl (by rw [hml]; rfl) rfl (hb hby own_d3_1) (by decide) (W := 0) (Nat.le_of_eq rfl) (by decide)) ?_
  intro T2 S2
  have A2 := S2.here
  refine k_aloadN A2 hx (hb hby own_d3_4) rfl rfl (pc' := 5) rfl ?_
  refine k_iconst A2 hx (hb hby own_d3_5) (v := 2) rfl (pc' := 6) rfl ?_
  refine k_newint S2 hx hZ (hw _ (List.mem_of_getElem? (i := 17) rfl)) (hb hby own_d3_6) (by decide) 2 (by decide) (by decide) (by decide) (by decide) (pc' := 8) rfl ?_
  intro T3 h3 b3 g3 E3 V3 S3
  have ne4 : a ≠ b3 := by rw [g3]; exact Nat.ne_of_lt Ea.lt
  have bo5 : h0.size ≤ b3 := Nat.le_trans K1.1 (Nat.le_of_eq g3.symm)
  have ge5 : n0 ≤ b3 := Nat.le_trans Z0 bo5
  have A3 := S3.here
  have f6 := Ea.ext E3
  have f7 := F1.ext E3
  have f8 := F2.ext E3
  have K9 := K1.ext E3
  have V3 : IV Z h3 b3 [(0 : Int32), (0 : Int32)] := V3
  refine k_putfield S3 hx hZ hown (hw _ (List.mem_of_getElem? (i := 18) rfl)) f7 f6 (Or.inl (hw _ (List.mem_of_getElem? (i := 19) rfl))) (hw _ (List.mem_of_getElem? (i := 9) rfl)) (ty := (.array .int)) (by decide) rfl rfl ga (hb hby own_d3_8) (pc' := 11) rfl ?_
  intro T10 h10 W10 S10
  have A10 := S10.here
  have f11 := f6.wr W10
  have f12 := f7.same W10
  have f13 := f8.other W10 (Or.inr (slot_ne (Or.inl (hw _ (List.mem_of_getElem? (i := 30) rfl))) (Or.inl (hw _ (List.mem_of_getElem? (i := 19) rfl))) (by decide) (t := .int) (t' := (.array .int)) (by decide) (by decide)))
  have f14 := V3.other W10 (Ne.symm ne4)
  have K15 := K9.wr W10 (Or.inl (List.mem_of_getElem? (i := 0) rfl))
  refine k_ret_void S10 hx hret hlk (hb hby own_d3_11) (by decide) (by decide) ?_
  exact ⟨rfl, b3, bo5, K15, f12, f13, f14, ne4⟩
theorem own_d5_0 : decode method_2_code 0 = .ok (.iload_n 0, 1) := by decide +kernel
theorem own_d5_1 : decode method_2_code 1 = .ok (.ifCond .eq 10, 3) := by decide +kernel
theorem own_d5_4 : decode method_2_code 4 = .ok (.iload_n 1, 1) := by decide +kernel
theorem own_d5_5 : decode method_2_code 5 = .ok (.iload_n 2, 1) := by decide +kernel
theorem own_d5_6 : decode method_2_code 6 = .ok (.if_icmp .ge 5, 3) := by decide +kernel
theorem own_d5_9 : decode method_2_code 9 = .ok (.iconst 1, 1) := by decide +kernel
theorem own_d5_10 : decode method_2_code 10 = .ok (.ireturn, 1) := by decide +kernel
theorem own_d5_11 : decode method_2_code 11 = .ok (.iconst 0, 1) := by decide +kernel
theorem own_d5_12 : decode method_2_code 12 = .ok (.ireturn, 1) := by decide +kernel
theorem own_pn5 : plainName "com/example/libchase/libchase/core/store/IntListCountBelowPinLaw" = true := by first | (simp [plainName, overriddenIn]; done) | decide +kernel
set_option maxRecDepth 65536 in
set_option maxHeartbeats 40000000 in
theorem own_cbel (l : Launch) (Z : State) (a0 : Array Value) (hw : ∀ d ∈ tables_1, d.before a0 Z = true) (b v1 bd : Int32) (h0 : Heap) (n0 : Nat) :
    Con l Z (⟨"com/example/libchase/libchase/core/store/IntListCountBelowPinLaw", "below", "(ZII)I"⟩ : MethodName) method_2_code 3 (some .int) ({ frames := 0, cells := 0, slots := 0, locals := 0 } : Room) n0 h0 #[(.int b), (.int v1), (.int bd)] (fun v h => v = some (.int (own_below b v1 bd)) ∧ h = h0) := by
  refine Con.intro (plainFor_of_name own_pn5) (Ls := #[.val (.int b), .val (.int v1), .val (.int bd)]) (fun m => by first | (simp [entryFrame, mkF, argsToLocals, Value.category]; done) | rfl) ?_
  intro p e s m below meth c s₁ hx hby hml hown hnm hret hlk hZ S0
  have A0 := S0.here
  refine k_iloadN A0 hx (hb hby own_d5_0) rfl (pc' := 1) rfl ?_
  refine k_if_eq A0 hx (hb hby own_d5_1) (pcY := 11) (by decide) (pc' := 4) rfl (fun hc1 => ?_) (fun hc1 => ?_)
  · refine k_iconst A0 hx (hb hby own_d5_11) (v := 0) rfl (pc' := 12) rfl ?_
    refine k_ret_int S0 hx hret hlk (hb hby own_d5_12) (by decide) (by decide) ?_
    exact ⟨by simp [own_below, hc1], rfl⟩
  · refine k_iloadN A0 hx (hb hby own_d5_4) rfl (pc' := 5) rfl ?_
    refine k_iloadN A0 hx (hb hby own_d5_5) rfl (pc' := 6) rfl ?_
    refine k_icmp_ge A0 hx (hb hby own_d5_6) (pcY := 11) (by decide) (pc' := 9) rfl (fun hc6 => ?_) (fun hc6 => ?_)
    · refine k_iconst A0 hx (hb hby own_d5_11) (v := 0) rfl (pc' := 12) rfl ?_
      refine k_ret_int S0 hx hret hlk (hb hby own_d5_12) (by decide) (by decide) ?_
      exact ⟨by simp [own_below, hc1, hc6], rfl⟩
    · refine k_iconst A0 hx (hb hby own_d5_9) (v := 1) rfl (pc' := 10) rfl ?_
      refine k_ret_int S0 hx hret hlk (hb hby own_d5_10) (by decide) (by decide) ?_
      exact ⟨by simp [own_below, hc1, hc6], rfl⟩
theorem own_d7_0 : decode prog_131_method_3_code 0 = .ok (.aload_n 0, 1) := by decide +kernel
theorem own_d7_1 : decode prog_131_method_3_code 1 = .ok (.getfield 19, 3) := by decide +kernel
theorem own_d7_4 : decode prog_131_method_3_code 4 = .ok (.aload_n 0, 1) := by decide +kernel
theorem own_d7_5 : decode prog_131_method_3_code 5 = .ok (.getfield 7, 3) := by decide +kernel
theorem own_d7_8 : decode prog_131_method_3_code 8 = .ok (.arraylength, 1) := by decide +kernel
theorem own_d7_9 : decode prog_131_method_3_code 9 = .ok (.if_icmp .ne 20, 3) := by decide +kernel
theorem own_d7_12 : decode prog_131_method_3_code 12 = .ok (.aload_n 0, 1) := by decide +kernel
theorem own_d7_13 : decode prog_131_method_3_code 13 = .ok (.aload_n 0, 1) := by decide +kernel
theorem own_d7_14 : decode prog_131_method_3_code 14 = .ok (.getfield 7, 3) := by decide +kernel
theorem own_d7_17 : decode prog_131_method_3_code 17 = .ok (.aload_n 0, 1) := by decide +kernel
theorem own_d7_18 : decode prog_131_method_3_code 18 = .ok (.getfield 19, 3) := by decide +kernel
theorem own_d7_21 : decode prog_131_method_3_code 21 = .ok (.iconst 2, 1) := by decide +kernel
theorem own_d7_22 : decode prog_131_method_3_code 22 = .ok (.imul, 1) := by decide +kernel
theorem own_d7_23 : decode prog_131_method_3_code 23 = .ok (.invokestatic 13, 3) := by decide +kernel
theorem own_d7_26 : decode prog_131_method_3_code 26 = .ok (.putfield 7, 3) := by decide +kernel
theorem own_d7_29 : decode prog_131_method_3_code 29 = .ok (.aload_n 0, 1) := by decide +kernel
theorem own_d7_30 : decode prog_131_method_3_code 30 = .ok (.getfield 7, 3) := by decide +kernel
theorem own_d7_33 : decode prog_131_method_3_code 33 = .ok (.aload_n 0, 1) := by decide +kernel
theorem own_d7_34 : decode prog_131_method_3_code 34 = .ok (.dup, 1) := by decide +kernel
theorem own_d7_35 : decode prog_131_method_3_code 35 = .ok (.getfield 19, 3) := by decide +kernel
theorem own_d7_38 : decode prog_131_method_3_code 38 = .ok (.dup_x1, 1) := by decide +kernel
theorem own_d7_39 : decode prog_131_method_3_code 39 = .ok (.iconst 1, 1) := by decide +kernel
theorem own_d7_40 : decode prog_131_method_3_code 40 = .ok (.iadd, 1) := by decide +kernel
theorem own_d7_41 : decode prog_131_method_3_code 41 = .ok (.putfield 19, 3) := by decide +kernel
theorem own_d7_44 : decode prog_131_method_3_code 44 = .ok (.iload_n 1, 1) := by decide +kernel
theorem own_d7_45 : decode prog_131_method_3_code 45 = .ok (.iastore, 1) := by decide +kernel
theorem own_d7_46 : decode prog_131_method_3_code 46 = .ok (.return_, 1) := by decide +kernel
theorem own_pn7 : plainName "com/example/libchase/libchase/core/store/IntList" = true := by first | (simp [plainName, overriddenIn]; done) | decide +kernel
set_option maxRecDepth 65536 in
set_option maxHeartbeats 40000000 in
theorem own_add_fit (l : Launch) (Z : State) (a0 : Array Value) (hw : ∀ d ∈ tables_1, d.before a0 Z = true) (o : Addr) (x1 : Int32) (h0 : Heap) (n0 : Nat) (xs : List Int32) (n n1 : Int32) (a : Addr) (Z0 : n0 ≤ h0.size) (go : n0 ≤ o) (ga : n0 ≤ a) (hne : o ≠ a) (Eo : Exa Z h0 o "com/example/libchase/libchase/core/store/IntList") (F1 : Fld Z h0 o "com/example/libchase/libchase/core/store/IntList" "values" "[I" (.ref a)) (F2 : Fld Z h0 o "com/example/libchase/libchase/core/store/IntList" "size" "I" (.int n)) (Va : IV Z h0 a xs) (hn1 : n + 1 = n1) (hn : 0 ≤ n.toInt ∧ n.toInt < xs.length) :
    Con l Z (⟨"com/example/libchase/libchase/core/store/IntList", "add", "(I)V"⟩ : MethodName) prog_131_method_3_code 2 none ({ frames := 2, cells := 1, slots := 4, locals := 50 } : Room) n0 h0 #[(.ref o), (.int x1)] (fun v h => v = none ∧ Keep h0 h [o, a] ∧ Fld Z h o "com/example/libchase/libchase/core/store/IntList" "values" "[I" (.ref a) ∧ Fld Z h o "com/example/libchase/libchase/core/store/IntList" "size" "I" (.int n1) ∧ IV Z h a (xs.set n.toInt.toNat x1)) := by
  refine Con.intro (plainFor_of_name own_pn7) (Ls := #[.val (.ref o), .val (.int x1)]) (fun m => by first | (simp [entryFrame, mkF, argsToLocals, Value.category]; done) | rfl) ?_
  intro p e s m below meth c s₁ hx hby hml hown hnm hret hlk hZ S0
  have A0 := S0.here
  have K1 := Keep.refl h0 [o, a]
  refine k_aloadN A0 hx (hb hby own_d7_0) rfl rfl (pc' := 1) rfl ?_
  refine k_getfield S0 hx hZ hown (hw _ (List.mem_of_getElem? (i := 29) rfl)) F2 (hb hby own_d7_1) (pc' := 4) rfl ?_
  intro T2 S2
  have A2 := S2.here
  refine k_aloadN A2 hx (hb hby own_d7_4) rfl rfl (pc' := 5) rfl ?_
  refine k_getfield S2 hx hZ hown (hw _ (List.mem_of_getElem? (i := 18) rfl)) F1 (hb hby own_d7_5) (pc' := 8) rfl ?_
  intro T3 S3
  have A3 := S3.here
  refine k_arraylength S3 hx hZ Va (hb hby own_d7_8) (z := (xs.length.toInt32)) (by rw [List.length_map]) (pc' := 9) rfl ?_
  refine k_icmp_ne A3 hx (hb hby own_d7_9) (pcY := 29) (by decide) (pc' := 12) rfl (fun hc9 => ?_) (fun hc9 => absurd hc9 (own_nlen Va.len hn.2))
  refine k_aloadN A3 hx (hb hby own_d7_29) rfl rfl (pc' := 30) rfl ?_
  refine k_getfield S3 hx hZ hown (hw _ (List.mem_of_getElem? (i := 18) rfl)) F1 (hb hby own_d7_30) (pc' := 33) rfl ?_
  intro T4 S4
  have A4 := S4.here
  refine k_aloadN A4 hx (hb hby own_d7_33) rfl rfl (pc' := 34) rfl ?_
  refine k_dup A4 hx (hb hby own_d7_34) rfl (pc' := 35) rfl ?_
  refine k_getfield S4 hx hZ hown (hw _ (List.mem_of_getElem? (i := 29) rfl)) F2 (hb hby own_d7_35) (pc' := 38) rfl ?_
  intro T5 S5
  have A5 := S5.here
  refine k_dupX1 A5 hx (hb hby own_d7_38) rfl rfl (pc' := 39) rfl ?_
  refine k_iconst A5 hx (hb hby own_d7_39) (v := 1) rfl (pc' := 40) rfl ?_
  refine k_iadd A5 hx (hb hby own_d7_40) (pc' := 41) rfl ?_
  rw [hn1]
  refine k_putfield S5 hx hZ hown (hw _ (List.mem_of_getElem? (i := 29) rfl)) F2 Eo (Or.inl (hw _ (List.mem_of_getElem? (i := 30) rfl))) (hw _ (List.mem_of_getElem? (i := 9) rfl)) (ty := .int) (by decide) rfl rfl go (hb hby own_d7_41) (pc' := 44) rfl ?_
  intro T6 h6 W6 S6
  have A6 := S6.here
  have f7 := Eo.wr W6
  have f8 := F1.other W6 (Or.inr (slot_ne (Or.inl (hw _ (List.mem_of_getElem? (i := 19) rfl))) (Or.inl (hw _ (List.mem_of_getElem? (i := 30) rfl))) (by decide) (t := (.array .int)) (t' := .int) (by decide) (by decide)))
  have f9 := F2.same W6
  have f10 := Va.other W6 (Ne.symm hne)
  have K11 := K1.wr W6 (Or.inl (List.mem_of_getElem? (i := 0) rfl))
  refine k_iloadN A6 hx (hb hby own_d7_44) rfl (pc' := 45) rfl ?_
  refine k_iastore S6 hx hZ f10 (hb hby own_d7_45) hn.1 hn.2 ga (pc' := 46) rfl ?_
  intro T12 h12 W12 V12 S12
  have A12 := S12.here
  have f13 := f7.wr W12
  have f14 := f8.other W12 (Or.inl hne)
  have f15 := f9.other W12 (Or.inl hne)
  have K17 := K11.wr W12 (Or.inl (List.mem_of_getElem? (i := 1) rfl))
  refine k_ret_void S12 hx hret hlk (hb hby own_d7_46) (by decide) (by decide) ?_
  exact ⟨rfl, K17, f14, f15, V12⟩
theorem own_pd1 : parseMethodDescriptor "([II)[I" = some ⟨[(.array .int), .int], some (.array .int)⟩ := by decide +kernel
set_option maxRecDepth 65536 in
set_option maxHeartbeats 40000000 in
theorem own_add_grow (l : Launch) (Z : State) (a0 : Array Value) (hw : ∀ d ∈ tables_1, d.before a0 Z = true) (o : Addr) (x1 : Int32) (h0 : Heap) (n0 : Nat) (y0 y1 : Int32) (a : Addr) (Z0 : n0 ≤ h0.size) (go : n0 ≤ o) (ga : n0 ≤ a) (hne : o ≠ a) (Eo : Exa Z h0 o "com/example/libchase/libchase/core/store/IntList") (F1 : Fld Z h0 o "com/example/libchase/libchase/core/store/IntList" "values" "[I" (.ref a)) (F2 : Fld Z h0 o "com/example/libchase/libchase/core/store/IntList" "size" "I" (.int (2 : Int32))) (Va : IV Z h0 a [y0, y1]) :
    Con l Z (⟨"com/example/libchase/libchase/core/store/IntList", "add", "(I)V"⟩ : MethodName) prog_131_method_3_code 2 none ({ frames := 2, cells := 1, slots := 4, locals := 50 } : Room) n0 h0 #[(.ref o), (.int x1)] (fun v h => v = none ∧ ∃ b, h0.size ≤ b ∧ o ≠ b ∧ Keep h0 h [o] ∧ Fld Z h o "com/example/libchase/libchase/core/store/IntList" "values" "[I" (.ref b) ∧ Fld Z h o "com/example/libchase/libchase/core/store/IntList" "size" "I" (.int (3 : Int32)) ∧ IV Z h b [y0, y1, x1, 0]) := by
  refine Con.intro (plainFor_of_name own_pn7) (Ls := #[.val (.ref o), .val (.int x1)]) (fun m => by first | (simp [entryFrame, mkF, argsToLocals, Value.category]; done) | rfl) ?_
  intro p e s m below meth c s₁ hx hby hml hown hnm hret hlk hZ S0
  have A0 := S0.here
  have K1 := Keep.refl h0 [o]
  refine k_aloadN A0 hx (hb hby own_d7_0) rfl rfl (pc' := 1) rfl ?_
  refine k_getfield S0 hx hZ hown (hw _ (List.mem_of_getElem? (i := 29) rfl)) F2 (hb hby own_d7_1) (pc' := 4) rfl ?_
  intro T2 S2
  have A2 := S2.here
  refine k_aloadN A2 hx (hb hby own_d7_4) rfl rfl (pc' := 5) rfl ?_
  refine k_getfield S2 hx hZ hown (hw _ (List.mem_of_getElem? (i := 18) rfl)) F1 (hb hby own_d7_5) (pc' := 8) rfl ?_
  intro T3 S3
  have A3 := S3.here
  refine k_arraylength S3 hx hZ Va (hb hby own_d7_8) (z := (2 : Int32)) rfl (pc' := 9) rfl ?_
  refine k_icmp_ne A3 hx (hb hby own_d7_9) (pcY := 29) (by decide) (pc' := 12) rfl (fun hc9 => absurd rfl hc9) (fun hc9 => ?_)
  refine k_aloadN A3 hx (hb hby own_d7_12) rfl rfl (pc' := 13) rfl ?_
  refine k_aloadN A3 hx (hb hby own_d7_13) rfl rfl (pc' := 14) rfl ?_
  refine k_getfield S3 hx hZ hown (hw _ (List.mem_of_getElem? (i := 18) rfl)) F1 (hb hby own_d7_14) (pc' := 17) rfl ?_
  intro T4 S4
  have A4 := S4.here
  refine k_aloadN A4 hx (hb hby own_d7_17) rfl rfl (pc' := 18) rfl ?_
  refine k_getfield S4 hx hZ hown (hw _ (List.mem_of_getElem? (i := 29) rfl)) F2 (hb hby own_d7_18) (pc' := 21) rfl ?_
  intro T5 S5
  have A5 := S5.here
  refine k_iconst A5 hx (hb hby own_d7_21) (v := 2) rfl (pc' := 22) rfl ?_
  refine k_imul A5 hx (hb hby own_d7_22) (pc' := 23) rfl ?_
  rw [show ((2 : Int32) * (2 : Int32)) = (4 : Int32) from rfl]
  refine k_call_static S5 hx hZ hown (hw _ (List.mem_of_getElem? (i := 36) rfl)) (hw _ (List.mem_of_getElem? (i := 37) rfl)) (hw _ (List.mem_of_getElem? (i := 38) rfl)) (hw _ (List.mem_of_getElem? (i := 39) rfl)) (by decide) (own_copyOf l Z a0 hw a (4 : Int32) h0 n0 ([y0, y1]) (Nat.le_trans Z0 K1.1) Va (by decide) (show ¬ (4 : Int32) = Nat.toInt32 2 by decide)) 1 (argsL := [(.ref a), (.int (4 : Int32))]) (rest := [(.ref o)]) (by decide) (by decide) (by rw [hml]; rfl) (lenOf own_pd1 rfl) rfl rfl (Nat.le_refl 1) (hb hby own_d7_23) (pc' := 26) rfl (by decide) (by decide) ?_
  rintro v6 T6 h6 ⟨b6, rfl, g6, K6, V6⟩ S6
  have ne6o : o ≠ b6 := Nat.ne_of_lt (Nat.lt_of_lt_of_le F1.lt g6)
  have ne6a : a ≠ b6 := Nat.ne_of_lt (Nat.lt_of_lt_of_le Va.lt g6)
  have f7 := Eo.keep K6
  have f8 := F1.keep K6 nin0
  have f9 := F2.keep K6 nin0
  have f10 := Va.keep K6 nin0
  have K11 := K1.trans K6 all0
  have V6 : IV Z h6 b6 [y0, y1, 0, 0] := V6
  have ge6 : n0 ≤ b6 := Nat.le_trans Z0 g6
  have A6 := S6.here
  show Done p e below _ (T6.setTop (mkF m 26 #[.val (.ref o), .val (.int x1)] [(.ref b6), (.ref o)]))
  refine k_putfield S6 hx hZ hown (hw _ (List.mem_of_getElem? (i := 18) rfl)) f8 f7 (Or.inl (hw _ (List.mem_of_getElem? (i := 19) rfl))) (hw _ (List.mem_of_getElem? (i := 9) rfl)) (ty := (.array .int)) (by decide) rfl rfl go (hb hby own_d7_26) (pc' := 29) rfl ?_
  intro T12 h12 W12 S12
  have A12 := S12.here
  have f13 := f7.wr W12
  have f14 := f8.same W12
  have f15 := f9.other W12 (Or.inr (slot_ne (Or.inl (hw _ (List.mem_of_getElem? (i := 30) rfl))) (Or.inl (hw _ (List.mem_of_getElem? (i := 19) rfl))) (by decide) (t := .int) (t' := (.array .int)) (by decide) (by decide)))
  have f16 := f10.other W12 (Ne.symm hne)
  have f17 := V6.other W12 (Ne.symm ne6o)
  have K18 := K11.wr W12 (Or.inl (List.mem_of_getElem? (i := 0) rfl))
  refine k_aloadN A12 hx (hb hby own_d7_29) rfl rfl (pc' := 30) rfl ?_
  refine k_getfield S12 hx hZ hown (hw _ (List.mem_of_getElem? (i := 18) rfl)) f14 (hb hby own_d7_30) (pc' := 33) rfl ?_
  intro T19 S19
  have A19 := S19.here
  refine k_aloadN A19 hx (hb hby own_d7_33) rfl rfl (pc' := 34) rfl ?_
  refine k_dup A19 hx (hb hby own_d7_34) rfl (pc' := 35) rfl ?_
  refine k_getfield S19 hx hZ hown (hw _ (List.mem_of_getElem? (i := 29) rfl)) f15 (hb hby own_d7_35) (pc' := 38) rfl ?_
  intro T20 S20
  have A20 := S20.here
  refine k_dupX1 A20 hx (hb hby own_d7_38) rfl rfl (pc' := 39) rfl ?_
  refine k_iconst A20 hx (hb hby own_d7_39) (v := 1) rfl (pc' := 40) rfl ?_
  refine k_iadd A20 hx (hb hby own_d7_40) (pc' := 41) rfl ?_
  rw [show ((2 : Int32) + (1 : Int32)) = (3 : Int32) from rfl]
  refine k_putfield S20 hx hZ hown (hw _ (List.mem_of_getElem? (i := 29) rfl)) f15 f13 (Or.inl (hw _ (List.mem_of_getElem? (i := 30) rfl))) (hw _ (List.mem_of_getElem? (i := 9) rfl)) (ty := .int) (by decide) rfl rfl go (hb hby own_d7_41) (pc' := 44) rfl ?_
  intro T21 h21 W21 S21
  have A21 := S21.here
  have f22 := f13.wr W21
  have f23 := f14.other W21 (Or.inr (slot_ne (Or.inl (hw _ (List.mem_of_getElem? (i := 19) rfl))) (Or.inl (hw _ (List.mem_of_getElem? (i := 30) rfl))) (by decide) (t := (.array .int)) (t' := .int) (by decide) (by decide)))
  have f24 := f15.same W21
  have f25 := f16.other W21 (Ne.symm hne)
  have f26 := f17.other W21 (Ne.symm ne6o)
  have K27 := K18.wr W21 (Or.inl (List.mem_of_getElem? (i := 0) rfl))
  refine k_iloadN A21 hx (hb hby own_d7_44) rfl (pc' := 45) rfl ?_
  refine k_iastore S21 hx hZ f26 (hb hby own_d7_45) (by decide) (by first | decide | (simp; done)) ge6 (pc' := 46) rfl ?_
  intro T28 h28 W28 V28 S28
  have A28 := S28.here
  have f29 := f22.wr W28
  have f30 := f23.other W28 (Or.inl ne6o)
  have f31 := f24.other W28 (Or.inl ne6o)
  have f32 := f25.other W28 ne6a
  have K34 := K27.wr W28 (Or.inr g6)
  have V28 : IV Z h28 b6 [y0, y1, x1, (0 : Int32)] := V28
  refine k_ret_void S28 hx hret hlk (hb hby own_d7_46) (by decide) (by decide) ?_
  exact ⟨rfl, b6, g6, ne6o, K34, f30, f31, V28⟩
theorem own_d6_0 : decode prog_131_method_8_code 0 = .ok (.iconst 0, 1) := by decide +kernel
theorem own_d6_1 : decode prog_131_method_8_code 1 = .ok (.istore_n 2, 1) := by decide +kernel
theorem own_d6_2 : decode prog_131_method_8_code 2 = .ok (.aload_n 0, 1) := by decide +kernel
theorem own_d6_3 : decode prog_131_method_8_code 3 = .ok (.getfield 19, 3) := by decide +kernel
theorem own_d6_6 : decode prog_131_method_8_code 6 = .ok (.istore_n 3, 1) := by decide +kernel
theorem own_d6_7 : decode prog_131_method_8_code 7 = .ok (.aload_n 0, 1) := by decide +kernel
theorem own_d6_8 : decode prog_131_method_8_code 8 = .ok (.getfield 19, 3) := by decide +kernel
theorem own_d6_11 : decode prog_131_method_8_code 11 = .ok (.ifCond .le 23, 3) := by decide +kernel
theorem own_d6_14 : decode prog_131_method_8_code 14 = .ok (.aload_n 0, 1) := by decide +kernel
theorem own_d6_15 : decode prog_131_method_8_code 15 = .ok (.getfield 7, 3) := by decide +kernel
theorem own_d6_18 : decode prog_131_method_8_code 18 = .ok (.aload_n 0, 1) := by decide +kernel
theorem own_d6_19 : decode prog_131_method_8_code 19 = .ok (.getfield 19, 3) := by decide +kernel
theorem own_d6_22 : decode prog_131_method_8_code 22 = .ok (.iconst 1, 1) := by decide +kernel
theorem own_d6_23 : decode prog_131_method_8_code 23 = .ok (.isub, 1) := by decide +kernel
theorem own_d6_24 : decode prog_131_method_8_code 24 = .ok (.iaload, 1) := by decide +kernel
theorem own_d6_25 : decode prog_131_method_8_code 25 = .ok (.iload_n 1, 1) := by decide +kernel
theorem own_d6_26 : decode prog_131_method_8_code 26 = .ok (.if_icmp .ge 8, 3) := by decide +kernel
theorem own_d6_29 : decode prog_131_method_8_code 29 = .ok (.aload_n 0, 1) := by decide +kernel
theorem own_d6_30 : decode prog_131_method_8_code 30 = .ok (.getfield 19, 3) := by decide +kernel
theorem own_d6_33 : decode prog_131_method_8_code 33 = .ok (.istore_n 2, 1) := by decide +kernel
theorem own_d6_34 : decode prog_131_method_8_code 34 = .ok (.iload_n 2, 1) := by decide +kernel
theorem own_d6_35 : decode prog_131_method_8_code 35 = .ok (.iload_n 3, 1) := by decide +kernel
theorem own_d6_36 : decode prog_131_method_8_code 36 = .ok (.if_icmp .ge 35, 3) := by decide +kernel
theorem own_d6_39 : decode prog_131_method_8_code 39 = .ok (.iload_n 2, 1) := by decide +kernel
theorem own_d6_40 : decode prog_131_method_8_code 40 = .ok (.iload_n 3, 1) := by decide +kernel
theorem own_d6_41 : decode prog_131_method_8_code 41 = .ok (.iadd, 1) := by decide +kernel
theorem own_d6_42 : decode prog_131_method_8_code 42 = .ok (.iconst 1, 1) := by decide +kernel
theorem own_d6_43 : decode prog_131_method_8_code 43 = .ok (.iushr, 1) := by decide +kernel
theorem own_d6_44 : decode prog_131_method_8_code 44 = .ok (.istore 4, 2) := by decide +kernel
theorem own_d6_46 : decode prog_131_method_8_code 46 = .ok (.aload_n 0, 1) := by decide +kernel
theorem own_d6_47 : decode prog_131_method_8_code 47 = .ok (.getfield 7, 3) := by decide +kernel
theorem own_d6_50 : decode prog_131_method_8_code 50 = .ok (.iload 4, 2) := by decide +kernel
theorem own_d6_52 : decode prog_131_method_8_code 52 = .ok (.iaload, 1) := by decide +kernel
theorem own_d6_53 : decode prog_131_method_8_code 53 = .ok (.iload_n 1, 1) := by decide +kernel
theorem own_d6_54 : decode prog_131_method_8_code 54 = .ok (.if_icmp .ge 11, 3) := by decide +kernel
theorem own_d6_57 : decode prog_131_method_8_code 57 = .ok (.iload 4, 2) := by decide +kernel
theorem own_d6_59 : decode prog_131_method_8_code 59 = .ok (.iconst 1, 1) := by decide +kernel
theorem own_d6_60 : decode prog_131_method_8_code 60 = .ok (.iadd, 1) := by decide +kernel
theorem own_d6_61 : decode prog_131_method_8_code 61 = .ok (.istore_n 2, 1) := by decide +kernel
theorem own_d6_62 : decode prog_131_method_8_code 62 = .ok (.goto 6, 3) := by decide +kernel
theorem own_d6_65 : decode prog_131_method_8_code 65 = .ok (.iload 4, 2) := by decide +kernel
theorem own_d6_67 : decode prog_131_method_8_code 67 = .ok (.istore_n 3, 1) := by decide +kernel
theorem own_d6_68 : decode prog_131_method_8_code 68 = .ok (.goto (-34), 3) := by decide +kernel
theorem own_d6_71 : decode prog_131_method_8_code 71 = .ok (.iload_n 2, 1) := by decide +kernel
theorem own_d6_72 : decode prog_131_method_8_code 72 = .ok (.ireturn, 1) := by decide +kernel
theorem own_pn6 : plainName "com/example/libchase/libchase/core/store/IntList" = true := by first | (simp [plainName, overriddenIn]; done) | decide +kernel
set_option maxRecDepth 65536 in
set_option maxHeartbeats 40000000 in
theorem own_ccb (l : Launch) (Z : State) (a0 : Array Value) (hw : ∀ d ∈ tables_1, d.before a0 Z = true) (o : Addr) (bd : Int32) (h0 : Heap) (n0 : Nat) (a : Addr) (xs : List Int32) (n : Int32) (F1 : Fld Z h0 o "com/example/libchase/libchase/core/store/IntList" "values" "[I" (.ref a)) (F2 : Fld Z h0 o "com/example/libchase/libchase/core/store/IntList" "size" "I" (.int n)) (Va : IV Z h0 a xs) (hn : 0 ≤ n.toInt ∧ n.toInt ≤ xs.length ∧ xs.length < 1000) (hs : own_SO xs n.toInt) :
    Con l Z (⟨"com/example/libchase/libchase/core/store/IntList", "countBelow", "(I)I"⟩ : MethodName) prog_131_method_8_code 5 (some .int) ({ frames := 0, cells := 0, slots := 0, locals := 0 } : Room) n0 h0 #[(.ref o), (.int bd)] (fun v h => (∃ r, v = some (.int r) ∧ own_CB xs n.toInt bd r.toInt r.toInt) ∧ h = h0) := by
  refine Con.intro (plainFor_of_name own_pn6) (Ls := #[.val (.ref o), .val (.int bd), .unset, .unset, .unset]) (fun m => by first | (simp [entryFrame, mkF, argsToLocals, Value.category]; done) | rfl) ?_
  intro p e s m below meth c s₁ hx hby hml hown hnm hret hlk hZ S0
  have A0 := S0.here
  refine k_iconst A0 hx (hb hby own_d6_0) (v := 0) rfl (pc' := 1) rfl ?_
  refine k_istoreN A0 hx (hb hby own_d6_1) (Ls' := #[.val (.ref o), .val (.int bd), .val (.int (0 : Int32)), .unset, .unset]) rfl (pc' := 2) rfl ?_
  refine k_aloadN A0 hx (hb hby own_d6_2) rfl rfl (pc' := 3) rfl ?_
  refine k_getfield S0 hx hZ hown (hw _ (List.mem_of_getElem? (i := 29) rfl)) F2 (hb hby own_d6_3) (pc' := 6) rfl ?_
  intro T1 S1
  have A1 := S1.here
  refine k_istoreN A1 hx (hb hby own_d6_6) (Ls' := #[.val (.ref o), .val (.int bd), .val (.int (0 : Int32)), .val (.int n), .unset]) rfl (pc' := 7) rfl ?_
  have L34_2 : ∀ (f : Nat) (T2 : State), ∀ (lo : Int32), ∀ (hi : Int32), ∀ (s4 : Slot), St p l e ({ frames := 0, cells := 0, slots := 0, locals := 0 } : Room) s m #[(.ref o), (.int bd)] below meth c n0 T2 h0 0 0 → (hi.toInt - lo.toInt < (f : Int)) → (own_CB xs n.toInt bd lo.toInt hi.toInt) → (One s4) → Done p e below (OEnd s ({ frames := 0, cells := 0, slots := 0, locals := 0 } : Room) n0 (fun v h => (∃ r, v = some (.int r) ∧ own_CB xs n.toInt bd r.toInt r.toInt) ∧ h = h0)) (T2.setTop (mkF m 34 #[.val (.ref o), .val (.int bd), .val (.int lo), .val (.int hi), s4] [])) := by
    intro f
    induction f with
    | zero =>
      intro T2 lo hi s4 S2 hms hC hs4
      exfalso
      have q := hC.2.1; omega
    | succ f ih2 =>
      intro T2 lo hi s4 S2 hms hC hs4
      have A2 := S2.here
      refine k_iloadN A2 hx (hb hby own_d6_34) rfl (pc' := 35) rfl ?_
      refine k_iloadN A2 hx (hb hby own_d6_35) rfl (pc' := 36) rfl ?_
      refine k_icmp_ge A2 hx (hb hby own_d6_36) (pcY := 71) (by decide) (pc' := 39) rfl (fun hc36 => ?_) (fun hc36 => ?_)
      · refine k_iloadN A2 hx (hb hby own_d6_71) rfl (pc' := 72) rfl ?_
        refine k_ret_int S2 hx hret hlk (hb hby own_d6_72) (by decide) (by decide) ?_
        exact ⟨⟨lo, rfl, by have q := hC.2.1; have r : ¬ lo.toInt < hi.toInt := (by simpa only [Int32.lt_iff_toInt_lt] using hc36); have e : hi.toInt = lo.toInt := (by omega); rw [e] at hC; exact hC⟩, rfl⟩
      · refine k_iloadN A2 hx (hb hby own_d6_39) rfl (pc' := 40) rfl ?_
        refine k_iloadN A2 hx (hb hby own_d6_40) rfl (pc' := 41) rfl ?_
        refine k_iadd A2 hx (hb hby own_d6_41) (pc' := 42) rfl ?_
        refine k_iconst A2 hx (hb hby own_d6_42) (v := 1) rfl (pc' := 43) rfl ?_
        refine k_iushr A2 hx (hb hby own_d6_43) (pc' := 44) rfl ?_
        have hlh : lo.toInt < hi.toInt := by simpa only [Int32.lt_iff_toInt_lt] using hc36
        have hq1 := hC.1
        have hq2 := hC.2.2.1
        have hmd := own_mid (lo := lo) (hi := hi) hC.1 hC.2.1 (by omega)
        generalize q_md : (((lo + hi).toUInt32 >>> ((1 : Int32) &&& 31).toUInt32).toInt32) = md at hmd ⊢
        refine k_istore A2 hx (hb hby own_d6_44) (Ls' := #[.val (.ref o), .val (.int bd), .val (.int lo), .val (.int hi), .val (.int md)]) (store1 rfl hs4 rfl) (pc' := 46) rfl ?_
        refine k_aloadN A2 hx (hb hby own_d6_46) rfl rfl (pc' := 47) rfl ?_
        refine k_getfield S2 hx hZ hown (hw _ (List.mem_of_getElem? (i := 18) rfl)) F1 (hb hby own_d6_47) (pc' := 50) rfl ?_
        intro T3 S3
        have A3 := S3.here
        refine k_iload A3 hx (hb hby own_d6_50) rfl (pc' := 52) rfl ?_
        refine k_iaload S3 hx hZ Va (hb hby own_d6_52) (by omega) (by omega) rfl (pc' := 53) rfl ?_
        refine k_iloadN A3 hx (hb hby own_d6_53) rfl (pc' := 54) rfl ?_
        refine k_icmp_ge A3 hx (hb hby own_d6_54) (pcY := 65) (by decide) (pc' := 57) rfl (fun hc54 => ?_) (fun hc54 => ?_)
        · refine k_iload A3 hx (hb hby own_d6_65) rfl (pc' := 67) rfl ?_
          refine k_istoreN A3 hx (hb hby own_d6_67) (Ls' := #[.val (.ref o), .val (.int bd), .val (.int lo), .val (.int md), .val (.int md)]) rfl (pc' := 68) rfl ?_
          refine k_goto A3 hx (hb hby own_d6_68) (pc' := 34) (by decide) ?_
          exact ih2 T3 lo md (.val (.int md)) (S3.more (by decide) (by decide)) (by omega) (by have q := own_CBh hs hC (j := md.toInt.toNat) (by omega) (by omega) hc54; rw [show ((md.toInt.toNat : Nat) : Int) = md.toInt by omega] at q; exact q) (One.val rfl)
        · refine k_iload A3 hx (hb hby own_d6_57) rfl (pc' := 59) rfl ?_
          refine k_iconst A3 hx (hb hby own_d6_59) (v := 1) rfl (pc' := 60) rfl ?_
          refine k_iadd A3 hx (hb hby own_d6_60) (pc' := 61) rfl ?_
          refine k_istoreN A3 hx (hb hby own_d6_61) (Ls' := #[.val (.ref o), .val (.int bd), .val (.int (md + (1 : Int32))), .val (.int hi), .val (.int md)]) rfl (pc' := 62) rfl ?_
          refine k_goto A3 hx (hb hby own_d6_62) (pc' := 68) (by decide) ?_
          refine k_goto A3 hx (hb hby own_d6_68) (pc' := 34) (by decide) ?_
          exact ih2 T3 (md + (1 : Int32)) hi (.val (.int md)) (S3.more (by decide) (by decide)) (by rw [own_add1 (by omega) (by omega)]; omega) (by rw [own_add1 (by omega) (by omega)]; have q := own_CBl hs hC (j := md.toInt.toNat) (by omega) (by omega) hc54; rw [show ((md.toInt.toNat : Nat) : Int) = md.toInt by omega] at q; exact q) (One.val rfl)
  refine k_aloadN A1 hx (hb hby own_d6_7) rfl rfl (pc' := 8) rfl ?_
  refine k_getfield S1 hx hZ hown (hw _ (List.mem_of_getElem? (i := 29) rfl)) F2 (hb hby own_d6_8) (pc' := 11) rfl ?_
  intro T4 S4
  have A4 := S4.here
  refine k_if_le A4 hx (hb hby own_d6_11) (pcY := 34) (by decide) (pc' := 14) rfl (fun hc11 => ?_) (fun hc11 => ?_)
  · exact L34_2 1000 T4 (0 : Int32) n .unset (S4.more (by decide) (by decide)) (by have q : (0 : Int32).toInt = 0 := rfl; omega) (own_CB0 xs n.toInt bd hn.1) One.u
  · refine k_aloadN A4 hx (hb hby own_d6_14) rfl rfl (pc' := 15) rfl ?_
    refine k_getfield S4 hx hZ hown (hw _ (List.mem_of_getElem? (i := 18) rfl)) F1 (hb hby own_d6_15) (pc' := 18) rfl ?_
    intro T5 S5
    have A5 := S5.here
    refine k_aloadN A5 hx (hb hby own_d6_18) rfl rfl (pc' := 19) rfl ?_
    refine k_getfield S5 hx hZ hown (hw _ (List.mem_of_getElem? (i := 29) rfl)) F2 (hb hby own_d6_19) (pc' := 22) rfl ?_
    intro T6 S6
    have A6 := S6.here
    refine k_iconst A6 hx (hb hby own_d6_22) (v := 1) rfl (pc' := 23) rfl ?_
    refine k_isub A6 hx (hb hby own_d6_23) (pc' := 24) rfl ?_
    refine k_iaload S6 hx hZ Va (hb hby own_d6_24) (by rw [own_sub1 (by simp only [Int32.lt_iff_toInt_lt, Int32.reduceToInt] at hc11; omega)]; simp only [Int32.lt_iff_toInt_lt, Int32.reduceToInt] at hc11; omega) (by rw [own_sub1 (by simp only [Int32.lt_iff_toInt_lt, Int32.reduceToInt] at hc11; omega)]; omega) rfl (pc' := 25) rfl ?_
    refine k_iloadN A6 hx (hb hby own_d6_25) rfl (pc' := 26) rfl ?_
    refine k_icmp_ge A6 hx (hb hby own_d6_26) (pcY := 34) (by decide) (pc' := 29) rfl (fun hc26 => ?_) (fun hc26 => ?_)
    · exact L34_2 1000 T6 (0 : Int32) n .unset (S6.more (by decide) (by decide)) (by have q : (0 : Int32).toInt = 0 := rfl; omega) (own_CB0 xs n.toInt bd hn.1) One.u
    · refine k_aloadN A6 hx (hb hby own_d6_29) rfl rfl (pc' := 30) rfl ?_
      refine k_getfield S6 hx hZ hown (hw _ (List.mem_of_getElem? (i := 29) rfl)) F2 (hb hby own_d6_30) (pc' := 33) rfl ?_
      intro T7 S7
      have A7 := S7.here
      refine k_istoreN A7 hx (hb hby own_d6_33) (Ls' := #[.val (.ref o), .val (.int bd), .val (.int n), .val (.int n), .unset]) rfl (pc' := 34) rfl ?_
      exact L34_2 1 T7 n n .unset (S7.more (by decide) (by decide)) (by omega) (own_CBn hs (by simp only [Int32.lt_iff_toInt_lt, Int32.reduceToInt] at hc11; omega) (j := (n - 1).toInt.toNat) (by rw [own_sub1 (by simp only [Int32.lt_iff_toInt_lt, Int32.reduceToInt] at hc11; omega)]; simp only [Int32.lt_iff_toInt_lt, Int32.reduceToInt] at hc11; omega) hc26) One.u
theorem own_pn0 : plainName "com/example/libchase/libchase/core/store/IntListCountBelowPinLaw" = true := by first | (simp [plainName, overriddenIn]; done) | decide +kernel
theorem own_pd2 : parseMethodDescriptor "()V" = some ⟨[], none⟩ := by decide +kernel
theorem own_pd3 : parseMethodDescriptor "(ZII)I" = some ⟨[.boolean, .int, .int], some .int⟩ := by decide +kernel
theorem own_pd4 : parseMethodDescriptor "(I)I" = some ⟨[.int], some .int⟩ := by decide +kernel
theorem own_pd5 : parseMethodDescriptor "(I)V" = some ⟨[.int], none⟩ := by decide +kernel
set_option maxRecDepth 65536 in
set_option maxHeartbeats 40000000 in
theorem own_law (l : Launch) (Z : State) (a0 : Array Value) (hw : ∀ d ∈ tables_1, d.before a0 Z = true) (cn x0 x1 x2 x3 bd : Int32) (h0 : Heap) (n0 : Nat) (Z0 : n0 ≤ h0.size) :
    Con l Z x code maxLocals ret room_1 n0 h0 #[(.int cn), (.int x0), (.int x1), (.int x2), (.int x3), (.int bd)] (fun v h => v = some (.int 1)) := by
  refine Con.intro (plainFor_of_name own_pn0) (Ls := #[.val (.int cn), .val (.int x0), .val (.int x1), .val (.int x2), .val (.int x3), .val (.int bd), .unset, .unset, .unset, .unset, .unset, .unset, .unset, .unset, .unset, .unset, .unset, .unset, .unset]) (fun m => by first | (simp [entryFrame, mkF, argsToLocals, Value.category, maxLocals]; done) | rfl) ?_
  intro p e s m below meth c s₁ hx hby hml hown hnm hret hlk hZ S0
  have A0 := S0.here
  have K1 := Keep.refl h0 []
  refine k_iloadN A0 hx (hb hby at_0) rfl (pc' := 1) rfl ?_
  refine k_ldcInt S0 hx hZ hown (hw _ (List.mem_of_getElem? (i := 0) rfl)) (hb hby at_1) (pc' := 3) rfl ?_
  refine k_iand A0 hx (hb hby at_3) (pc' := 4) rfl ?_
  refine k_iconst A0 hx (hb hby at_4) (v := 5) rfl (pc' := 5) rfl ?_
  refine k_irem A0 hx (hb hby at_5) (by decide) (pc' := 6) rfl ?_
  have hnn := own_n5 cn
  generalize q_nn : ((cn &&& (2147483647 : Int32)) % (5 : Int32)) = nn at hnn ⊢
  refine k_istore A0 hx (hb hby at_6) (Ls' := #[.val (.int cn), .val (.int x0), .val (.int x1), .val (.int x2), .val (.int x3), .val (.int bd), .val (.int nn), .unset, .unset, .unset, .unset, .unset, .unset, .unset, .unset, .unset, .unset, .unset, .unset]) rfl (pc' := 8) rfl ?_
  refine k_iloadN A0 hx (hb hby at_8) rfl (pc' := 9) rfl ?_
  refine k_iloadN A0 hx (hb hby at_9) rfl (pc' := 10) rfl ?_
  refine k_call_static S0 hx hZ hown (hw _ (List.mem_of_getElem? (i := 1) rfl)) (hw _ (List.mem_of_getElem? (i := 2) rfl)) (hw _ (List.mem_of_getElem? (i := 3) rfl)) (hw _ (List.mem_of_getElem? (i := 4) rfl)) (by decide) (own_cmin l Z a0 hw x0 x1 h0 n0) 0 (argsL := [(.int x0), (.int x1)]) (rest := []) (by decide) (by decide) (by rw [hml]; rfl) (lenOf own_pd0 rfl) rfl rfl (Nat.le_refl 0) (hb hby at_10) (pc' := 13) rfl (by decide) (by decide) ?_
  rintro v2 T2 h2 ⟨rfl, q2⟩ S2
  rw [q2] at S2
  have A2 := S2.here
  show Done p e below _ (T2.setTop (mkF m 13 #[.val (.int cn), .val (.int x0), .val (.int x1), .val (.int x2), .val (.int x3), .val (.int bd), .val (.int nn), .unset, .unset, .unset, .unset, .unset, .unset, .unset, .unset, .unset, .unset, .unset, .unset] [(.int (own_min x0 x1))]))
  generalize q_va : (own_min x0 x1) = va
  refine k_istore A2 hx (hb hby at_13) (Ls' := #[.val (.int cn), .val (.int x0), .val (.int x1), .val (.int x2), .val (.int x3), .val (.int bd), .val (.int nn), .val (.int va), .unset, .unset, .unset, .unset, .unset, .unset, .unset, .unset, .unset, .unset, .unset]) rfl (pc' := 15) rfl ?_
  refine k_iloadN A2 hx (hb hby at_15) rfl (pc' := 16) rfl ?_
  refine k_iloadN A2 hx (hb hby at_16) rfl (pc' := 17) rfl ?_
  refine k_call_static S2 hx hZ hown (hw _ (List.mem_of_getElem? (i := 5) rfl)) (hw _ (List.mem_of_getElem? (i := 6) rfl)) (hw _ (List.mem_of_getElem? (i := 3) rfl)) (hw _ (List.mem_of_getElem? (i := 7) rfl)) (by decide) (own_cmax l Z a0 hw x0 x1 h0 n0) 0 (argsL := [(.int x0), (.int x1)]) (rest := []) (by decide) (by decide) (by rw [hml]; rfl) (lenOf own_pd0 rfl) rfl rfl (Nat.le_refl 0) (hb hby at_17) (pc' := 20) rfl (by decide) (by decide) ?_
  rintro v3 T3 h3 ⟨rfl, q3⟩ S3
  rw [q3] at S3
  have A3 := S3.here
  show Done p e below _ (T3.setTop (mkF m 20 #[.val (.int cn), .val (.int x0), .val (.int x1), .val (.int x2), .val (.int x3), .val (.int bd), .val (.int nn), .val (.int va), .unset, .unset, .unset, .unset, .unset, .unset, .unset, .unset, .unset, .unset, .unset] [(.int (own_max x0 x1))]))
  generalize q_vb : (own_max x0 x1) = vb
  refine k_istore A3 hx (hb hby at_20) (Ls' := #[.val (.int cn), .val (.int x0), .val (.int x1), .val (.int x2), .val (.int x3), .val (.int bd), .val (.int nn), .val (.int va), .val (.int vb), .unset, .unset, .unset, .unset, .unset, .unset, .unset, .unset, .unset, .unset]) rfl (pc' := 22) rfl ?_
  refine k_iloadN A3 hx (hb hby at_22) rfl (pc' := 23) rfl ?_
  refine k_iload A3 hx (hb hby at_23) rfl (pc' := 25) rfl ?_
  refine k_call_static S3 hx hZ hown (hw _ (List.mem_of_getElem? (i := 1) rfl)) (hw _ (List.mem_of_getElem? (i := 2) rfl)) (hw _ (List.mem_of_getElem? (i := 3) rfl)) (hw _ (List.mem_of_getElem? (i := 4) rfl)) (by decide) (own_cmin l Z a0 hw x2 x3 h0 n0) 0 (argsL := [(.int x2), (.int x3)]) (rest := []) (by decide) (by decide) (by rw [hml]; rfl) (lenOf own_pd0 rfl) rfl rfl (Nat.le_refl 0) (hb hby at_25) (pc' := 28) rfl (by decide) (by decide) ?_
  rintro v4 T4 h4 ⟨rfl, q4⟩ S4
  rw [q4] at S4
  have A4 := S4.here
  show Done p e below _ (T4.setTop (mkF m 28 #[.val (.int cn), .val (.int x0), .val (.int x1), .val (.int x2), .val (.int x3), .val (.int bd), .val (.int nn), .val (.int va), .val (.int vb), .unset, .unset, .unset, .unset, .unset, .unset, .unset, .unset, .unset, .unset] [(.int (own_min x2 x3))]))
  generalize q_vc : (own_min x2 x3) = vc
  refine k_istore A4 hx (hb hby at_28) (Ls' := #[.val (.int cn), .val (.int x0), .val (.int x1), .val (.int x2), .val (.int x3), .val (.int bd), .val (.int nn), .val (.int va), .val (.int vb), .val (.int vc), .unset, .unset, .unset, .unset, .unset, .unset, .unset, .unset, .unset]) rfl (pc' := 30) rfl ?_
  refine k_iloadN A4 hx (hb hby at_30) rfl (pc' := 31) rfl ?_
  refine k_iload A4 hx (hb hby at_31) rfl (pc' := 33) rfl ?_
  refine k_call_static S4 hx hZ hown (hw _ (List.mem_of_getElem? (i := 5) rfl)) (hw _ (List.mem_of_getElem? (i := 6) rfl)) (hw _ (List.mem_of_getElem? (i := 3) rfl)) (hw _ (List.mem_of_getElem? (i := 7) rfl)) (by decide) (own_cmax l Z a0 hw x2 x3 h0 n0) 0 (argsL := [(.int x2), (.int x3)]) (rest := []) (by decide) (by decide) (by rw [hml]; rfl) (lenOf own_pd0 rfl) rfl rfl (Nat.le_refl 0) (hb hby at_33) (pc' := 36) rfl (by decide) (by decide) ?_
  rintro v5 T5 h5 ⟨rfl, q5⟩ S5
  rw [q5] at S5
  have A5 := S5.here
  show Done p e below _ (T5.setTop (mkF m 36 #[.val (.int cn), .val (.int x0), .val (.int x1), .val (.int x2), .val (.int x3), .val (.int bd), .val (.int nn), .val (.int va), .val (.int vb), .val (.int vc), .unset, .unset, .unset, .unset, .unset, .unset, .unset, .unset, .unset] [(.int (own_max x2 x3))]))
  generalize q_vd : (own_max x2 x3) = vd
  refine k_istore A5 hx (hb hby at_36) (Ls' := #[.val (.int cn), .val (.int x0), .val (.int x1), .val (.int x2), .val (.int x3), .val (.int bd), .val (.int nn), .val (.int va), .val (.int vb), .val (.int vc), .val (.int vd), .unset, .unset, .unset, .unset, .unset, .unset, .unset, .unset]) rfl (pc' := 38) rfl ?_
  refine k_iload A5 hx (hb hby at_38) rfl (pc' := 40) rfl ?_
  refine k_iload A5 hx (hb hby at_40) rfl (pc' := 42) rfl ?_
  refine k_call_static S5 hx hZ hown (hw _ (List.mem_of_getElem? (i := 1) rfl)) (hw _ (List.mem_of_getElem? (i := 2) rfl)) (hw _ (List.mem_of_getElem? (i := 3) rfl)) (hw _ (List.mem_of_getElem? (i := 4) rfl)) (by decide) (own_cmin l Z a0 hw va vc h0 n0) 0 (argsL := [(.int va), (.int vc)]) (rest := []) (by decide) (by decide) (by rw [hml]; rfl) (lenOf own_pd0 rfl) rfl rfl (Nat.le_refl 0) (hb hby at_42) (pc' := 45) rfl (by decide) (by decide) ?_
  rintro v6 T6 h6 ⟨rfl, q6⟩ S6
  rw [q6] at S6
  have A6 := S6.here
  show Done p e below _ (T6.setTop (mkF m 45 #[.val (.int cn), .val (.int x0), .val (.int x1), .val (.int x2), .val (.int x3), .val (.int bd), .val (.int nn), .val (.int va), .val (.int vb), .val (.int vc), .val (.int vd), .unset, .unset, .unset, .unset, .unset, .unset, .unset, .unset] [(.int (own_min va vc))]))
  generalize q_s0 : (own_min va vc) = s0
  refine k_istore A6 hx (hb hby at_45) (Ls' := #[.val (.int cn), .val (.int x0), .val (.int x1), .val (.int x2), .val (.int x3), .val (.int bd), .val (.int nn), .val (.int va), .val (.int vb), .val (.int vc), .val (.int vd), .val (.int s0), .unset, .unset, .unset, .unset, .unset, .unset, .unset]) rfl (pc' := 47) rfl ?_
  refine k_iload A6 hx (hb hby at_47) rfl (pc' := 49) rfl ?_
  refine k_iload A6 hx (hb hby at_49) rfl (pc' := 51) rfl ?_
  refine k_call_static S6 hx hZ hown (hw _ (List.mem_of_getElem? (i := 5) rfl)) (hw _ (List.mem_of_getElem? (i := 6) rfl)) (hw _ (List.mem_of_getElem? (i := 3) rfl)) (hw _ (List.mem_of_getElem? (i := 7) rfl)) (by decide) (own_cmax l Z a0 hw va vc h0 n0) 0 (argsL := [(.int va), (.int vc)]) (rest := []) (by decide) (by decide) (by rw [hml]; rfl) (lenOf own_pd0 rfl) rfl rfl (Nat.le_refl 0) (hb hby at_51) (pc' := 54) rfl (by decide) (by decide) ?_
  rintro v7 T7 h7 ⟨rfl, q7⟩ S7
  rw [q7] at S7
  have A7 := S7.here
  show Done p e below _ (T7.setTop (mkF m 54 #[.val (.int cn), .val (.int x0), .val (.int x1), .val (.int x2), .val (.int x3), .val (.int bd), .val (.int nn), .val (.int va), .val (.int vb), .val (.int vc), .val (.int vd), .val (.int s0), .unset, .unset, .unset, .unset, .unset, .unset, .unset] [(.int (own_max va vc))]))
  generalize q_s2 : (own_max va vc) = s2
  refine k_istore A7 hx (hb hby at_54) (Ls' := #[.val (.int cn), .val (.int x0), .val (.int x1), .val (.int x2), .val (.int x3), .val (.int bd), .val (.int nn), .val (.int va), .val (.int vb), .val (.int vc), .val (.int vd), .val (.int s0), .val (.int s2), .unset, .unset, .unset, .unset, .unset, .unset]) rfl (pc' := 56) rfl ?_
  refine k_iload A7 hx (hb hby at_56) rfl (pc' := 58) rfl ?_
  refine k_iload A7 hx (hb hby at_58) rfl (pc' := 60) rfl ?_
  refine k_call_static S7 hx hZ hown (hw _ (List.mem_of_getElem? (i := 1) rfl)) (hw _ (List.mem_of_getElem? (i := 2) rfl)) (hw _ (List.mem_of_getElem? (i := 3) rfl)) (hw _ (List.mem_of_getElem? (i := 4) rfl)) (by decide) (own_cmin l Z a0 hw vb vd h0 n0) 0 (argsL := [(.int vb), (.int vd)]) (rest := []) (by decide) (by decide) (by rw [hml]; rfl) (lenOf own_pd0 rfl) rfl rfl (Nat.le_refl 0) (hb hby at_60) (pc' := 63) rfl (by decide) (by decide) ?_
  rintro v8 T8 h8 ⟨rfl, q8⟩ S8
  rw [q8] at S8
  have A8 := S8.here
  show Done p e below _ (T8.setTop (mkF m 63 #[.val (.int cn), .val (.int x0), .val (.int x1), .val (.int x2), .val (.int x3), .val (.int bd), .val (.int nn), .val (.int va), .val (.int vb), .val (.int vc), .val (.int vd), .val (.int s0), .val (.int s2), .unset, .unset, .unset, .unset, .unset, .unset] [(.int (own_min vb vd))]))
  generalize q_s1 : (own_min vb vd) = s1
  refine k_istore A8 hx (hb hby at_63) (Ls' := #[.val (.int cn), .val (.int x0), .val (.int x1), .val (.int x2), .val (.int x3), .val (.int bd), .val (.int nn), .val (.int va), .val (.int vb), .val (.int vc), .val (.int vd), .val (.int s0), .val (.int s2), .val (.int s1), .unset, .unset, .unset, .unset, .unset]) rfl (pc' := 65) rfl ?_
  refine k_iload A8 hx (hb hby at_65) rfl (pc' := 67) rfl ?_
  refine k_iload A8 hx (hb hby at_67) rfl (pc' := 69) rfl ?_
  refine k_call_static S8 hx hZ hown (hw _ (List.mem_of_getElem? (i := 5) rfl)) (hw _ (List.mem_of_getElem? (i := 6) rfl)) (hw _ (List.mem_of_getElem? (i := 3) rfl)) (hw _ (List.mem_of_getElem? (i := 7) rfl)) (by decide) (own_cmax l Z a0 hw vb vd h0 n0) 0 (argsL := [(.int vb), (.int vd)]) (rest := []) (by decide) (by decide) (by rw [hml]; rfl) (lenOf own_pd0 rfl) rfl rfl (Nat.le_refl 0) (hb hby at_69) (pc' := 72) rfl (by decide) (by decide) ?_
  rintro v9 T9 h9 ⟨rfl, q9⟩ S9
  rw [q9] at S9
  have A9 := S9.here
  show Done p e below _ (T9.setTop (mkF m 72 #[.val (.int cn), .val (.int x0), .val (.int x1), .val (.int x2), .val (.int x3), .val (.int bd), .val (.int nn), .val (.int va), .val (.int vb), .val (.int vc), .val (.int vd), .val (.int s0), .val (.int s2), .val (.int s1), .unset, .unset, .unset, .unset, .unset] [(.int (own_max vb vd))]))
  generalize q_s3 : (own_max vb vd) = s3
  refine k_istore A9 hx (hb hby at_72) (Ls' := #[.val (.int cn), .val (.int x0), .val (.int x1), .val (.int x2), .val (.int x3), .val (.int bd), .val (.int nn), .val (.int va), .val (.int vb), .val (.int vc), .val (.int vd), .val (.int s0), .val (.int s2), .val (.int s1), .val (.int s3), .unset, .unset, .unset, .unset]) rfl (pc' := 74) rfl ?_
  refine k_iload A9 hx (hb hby at_74) rfl (pc' := 76) rfl ?_
  refine k_iload A9 hx (hb hby at_76) rfl (pc' := 78) rfl ?_
  refine k_call_static S9 hx hZ hown (hw _ (List.mem_of_getElem? (i := 1) rfl)) (hw _ (List.mem_of_getElem? (i := 2) rfl)) (hw _ (List.mem_of_getElem? (i := 3) rfl)) (hw _ (List.mem_of_getElem? (i := 4) rfl)) (by decide) (own_cmin l Z a0 hw s1 s2 h0 n0) 0 (argsL := [(.int s1), (.int s2)]) (rest := []) (by decide) (by decide) (by rw [hml]; rfl) (lenOf own_pd0 rfl) rfl rfl (Nat.le_refl 0) (hb hby at_78) (pc' := 81) rfl (by decide) (by decide) ?_
  rintro v10 T10 h10 ⟨rfl, q10⟩ S10
  rw [q10] at S10
  have A10 := S10.here
  show Done p e below _ (T10.setTop (mkF m 81 #[.val (.int cn), .val (.int x0), .val (.int x1), .val (.int x2), .val (.int x3), .val (.int bd), .val (.int nn), .val (.int va), .val (.int vb), .val (.int vc), .val (.int vd), .val (.int s0), .val (.int s2), .val (.int s1), .val (.int s3), .unset, .unset, .unset, .unset] [(.int (own_min s1 s2))]))
  generalize q_m1 : (own_min s1 s2) = m1
  refine k_istore A10 hx (hb hby at_81) (Ls' := #[.val (.int cn), .val (.int x0), .val (.int x1), .val (.int x2), .val (.int x3), .val (.int bd), .val (.int nn), .val (.int va), .val (.int vb), .val (.int vc), .val (.int vd), .val (.int s0), .val (.int s2), .val (.int s1), .val (.int s3), .val (.int m1), .unset, .unset, .unset]) rfl (pc' := 83) rfl ?_
  refine k_iload A10 hx (hb hby at_83) rfl (pc' := 85) rfl ?_
  refine k_iload A10 hx (hb hby at_85) rfl (pc' := 87) rfl ?_
  refine k_call_static S10 hx hZ hown (hw _ (List.mem_of_getElem? (i := 5) rfl)) (hw _ (List.mem_of_getElem? (i := 6) rfl)) (hw _ (List.mem_of_getElem? (i := 3) rfl)) (hw _ (List.mem_of_getElem? (i := 7) rfl)) (by decide) (own_cmax l Z a0 hw s1 s2 h0 n0) 0 (argsL := [(.int s1), (.int s2)]) (rest := []) (by decide) (by decide) (by rw [hml]; rfl) (lenOf own_pd0 rfl) rfl rfl (Nat.le_refl 0) (hb hby at_87) (pc' := 90) rfl (by decide) (by decide) ?_
  rintro v11 T11 h11 ⟨rfl, q11⟩ S11
  rw [q11] at S11
  have A11 := S11.here
  show Done p e below _ (T11.setTop (mkF m 90 #[.val (.int cn), .val (.int x0), .val (.int x1), .val (.int x2), .val (.int x3), .val (.int bd), .val (.int nn), .val (.int va), .val (.int vb), .val (.int vc), .val (.int vd), .val (.int s0), .val (.int s2), .val (.int s1), .val (.int s3), .val (.int m1), .unset, .unset, .unset] [(.int (own_max s1 s2))]))
  generalize q_m2 : (own_max s1 s2) = m2
  refine k_istore A11 hx (hb hby at_90) (Ls' := #[.val (.int cn), .val (.int x0), .val (.int x1), .val (.int x2), .val (.int x3), .val (.int bd), .val (.int nn), .val (.int va), .val (.int vb), .val (.int vc), .val (.int vd), .val (.int s0), .val (.int s2), .val (.int s1), .val (.int s3), .val (.int m1), .val (.int m2), .unset, .unset]) rfl (pc' := 92) rfl ?_
  refine k_new S11 hx hZ hown (hw _ (List.mem_of_getElem? (i := 8) rfl)) (hw _ (List.mem_of_getElem? (i := 9) rfl)) (hw _ (List.mem_of_getElem? (i := 10) rfl)) (hb hby at_92) (pc' := 95) rfl (by decide) (by decide) ?_
  intro T12 h12 b12 g12 E12 X12 D12 S12
  have bo13 : h0.size ≤ b12 := Nat.le_trans K1.1 (Nat.le_of_eq g12.symm)
  have ge13 : n0 ≤ b12 := Nat.le_trans Z0 bo13
  have A12 := S12.here
  have K14 := K1.ext E12
  have F15 : Fld Z h12 b12 "com/example/libchase/libchase/core/store/IntList" "values" "[I" .null := D12 (Or.inl (hw _ (List.mem_of_getElem? (i := 19) rfl))) (ty := (.array .int)) (by decide)
  have F16 : Fld Z h12 b12 "com/example/libchase/libchase/core/store/IntList" "size" "I" (.int (0 : Int32)) := D12 (Or.inl (hw _ (List.mem_of_getElem? (i := 30) rfl))) (ty := .int) (by decide)
  refine k_dup A12 hx (hb hby at_95) rfl (pc' := 96) rfl ?_
  refine k_call_init S12 hx hZ hown rfl (hw _ (List.mem_of_getElem? (i := 11) rfl)) (hw _ (List.mem_of_getElem? (i := 12) rfl)) (hw _ (List.mem_of_getElem? (i := 10) rfl)) (hw _ (List.mem_of_getElem? (i := 13) rfl)) (by decide) (own_ilinit l Z a0 hw b12 h12 n0 (Nat.le_trans Z0 K14.1) ge13 X12 F15 F16) 1 (argsL := []) (rest := [(.ref b12)]) (by decide) (by decide) (by rw [hml]; rfl) (lenOf own_pd2 rfl) rfl rfl (Nat.le_refl 1) (hb hby at_96) (pc' := 99) rfl (by decide) (by decide) ?_
  rintro v17 T17 h17 ⟨rfl, b17, g17, K17, F17a, F17b, V17, ne17⟩ S17
  have f18 := X12.keep K17
  have K21 := K14.trans K17 (allS (Or.inr bo13) all0)
  have ge17 : n0 ≤ b17 := Nat.le_trans (Nat.le_trans Z0 K14.1) g17
  have A17 := S17.here
  show Done p e below _ (T17.setTop (mkF m 99 #[.val (.int cn), .val (.int x0), .val (.int x1), .val (.int x2), .val (.int x3), .val (.int bd), .val (.int nn), .val (.int va), .val (.int vb), .val (.int vc), .val (.int vd), .val (.int s0), .val (.int s2), .val (.int s1), .val (.int s3), .val (.int m1), .val (.int m2), .unset, .unset] [(.ref b12)]))
  refine k_astore A17 hx (hb hby at_99) rfl (Ls' := #[.val (.int cn), .val (.int x0), .val (.int x1), .val (.int x2), .val (.int x3), .val (.int bd), .val (.int nn), .val (.int va), .val (.int vb), .val (.int vc), .val (.int vd), .val (.int s0), .val (.int s2), .val (.int s1), .val (.int s3), .val (.int m1), .val (.int m2), .val (.ref b12), .unset]) rfl (pc' := 101) rfl ?_
  have hso := own_sorted x0 x1 x2 x3 va vb vc vd s0 s2 s1 s3 m1 m2 q_va.symm q_vb.symm q_vc.symm q_vd.symm q_s0.symm q_s2.symm q_s1.symm q_s3.symm q_m1.symm q_m2.symm
  have J152_22 : ∀ (T22 : State) (h22 : Heap), ∀ (av : Addr), ∀ (xs : List Int32), St p l e room_1 s m #[(.int cn), (.int x0), (.int x1), (.int x2), (.int x3), (.int bd)] below meth c n0 T22 h22 6 20 → (Exa Z h22 b12 "com/example/libchase/libchase/core/store/IntList") → (Fld Z h22 b12 "com/example/libchase/libchase/core/store/IntList" "values" "[I" (.ref av)) → (Fld Z h22 b12 "com/example/libchase/libchase/core/store/IntList" "size" "I" (.int nn)) → (IV Z h22 av xs) → (own_L nn s0 m1 m2 s3 xs) → Done p e below (OEnd s room_1 n0 (fun v h => v = some (.int 1))) (T22.setTop (mkF m 152 #[.val (.int cn), .val (.int x0), .val (.int x1), .val (.int x2), .val (.int x3), .val (.int bd), .val (.int nn), .val (.int va), .val (.int vb), .val (.int vc), .val (.int vd), .val (.int s0), .val (.int s2), .val (.int s1), .val (.int s3), .val (.int m1), .val (.int m2), .val (.ref b12), .unset] [])) := by
    intro T22 h22 av xs S22 Eo Fv Fs Vv hL
    have A22 := S22.here
    have J162_23 : ∀ (T23 : State), ∀ (b0 : Int32), St p l e room_1 s m #[(.int cn), (.int x0), (.int x1), (.int x2), (.int x3), (.int bd)] below meth c n0 T23 h22 6 20 → (b0 = if (0 : Int32) < nn then 1 else 0) → Done p e below (OEnd s room_1 n0 (fun v h => v = some (.int 1))) (T23.setTop (mkF m 162 #[.val (.int cn), .val (.int x0), .val (.int x1), .val (.int x2), .val (.int x3), .val (.int bd), .val (.int nn), .val (.int va), .val (.int vb), .val (.int vc), .val (.int vd), .val (.int s0), .val (.int s2), .val (.int s1), .val (.int s3), .val (.int m1), .val (.int m2), .val (.ref b12), .unset] [(.int b0)])) := by
      intro T23 b0 S23 eb0
      have A23 := S23.here
      refine k_iload A23 hx (hb hby at_162) rfl (pc' := 164) rfl ?_
      refine k_iload A23 hx (hb hby at_164) rfl (pc' := 166) rfl ?_
      refine k_call_static S23 hx hZ hown (hw _ (List.mem_of_getElem? (i := 20) rfl)) (hw _ (List.mem_of_getElem? (i := 21) rfl)) (hw _ (List.mem_of_getElem? (i := 22) rfl)) (hw _ (List.mem_of_getElem? (i := 23) rfl)) (by decide) (own_cbel l Z a0 hw b0 s0 bd h22 n0) 0 (argsL := [(.int b0), (.int s0), (.int bd)]) (rest := []) (by decide) (by decide) (by rw [hml]; rfl) (lenOf own_pd3 rfl) rfl rfl (Nat.le_refl 0) (hb hby at_166) (pc' := 169) rfl (by decide) (by decide) ?_
      rintro v24 T24 h24 ⟨rfl, q24⟩ S24
      rw [q24] at S24
      have A24 := S24.here
      show Done p e below _ (T24.setTop (mkF m 169 #[.val (.int cn), .val (.int x0), .val (.int x1), .val (.int x2), .val (.int x3), .val (.int bd), .val (.int nn), .val (.int va), .val (.int vb), .val (.int vc), .val (.int vd), .val (.int s0), .val (.int s2), .val (.int s1), .val (.int s3), .val (.int m1), .val (.int m2), .val (.ref b12), .unset] [(.int (own_below b0 s0 bd))]))
      have J180_25 : ∀ (T25 : State), ∀ (b1 : Int32), St p l e room_1 s m #[(.int cn), (.int x0), (.int x1), (.int x2), (.int x3), (.int bd)] below meth c n0 T25 h22 6 20 → (b1 = if (1 : Int32) < nn then 1 else 0) → Done p e below (OEnd s room_1 n0 (fun v h => v = some (.int 1))) (T25.setTop (mkF m 180 #[.val (.int cn), .val (.int x0), .val (.int x1), .val (.int x2), .val (.int x3), .val (.int bd), .val (.int nn), .val (.int va), .val (.int vb), .val (.int vc), .val (.int vd), .val (.int s0), .val (.int s2), .val (.int s1), .val (.int s3), .val (.int m1), .val (.int m2), .val (.ref b12), .unset] [(.int b1), (.int (own_below b0 s0 bd))])) := by
        intro T25 b1 S25 eb1
        have A25 := S25.here
        refine k_iload A25 hx (hb hby at_180) rfl (pc' := 182) rfl ?_
        refine k_iload A25 hx (hb hby at_182) rfl (pc' := 184) rfl ?_
        refine k_call_static S25 hx hZ hown (hw _ (List.mem_of_getElem? (i := 20) rfl)) (hw _ (List.mem_of_getElem? (i := 21) rfl)) (hw _ (List.mem_of_getElem? (i := 22) rfl)) (hw _ (List.mem_of_getElem? (i := 23) rfl)) (by decide) (own_cbel l Z a0 hw b1 m1 bd h22 n0) 1 (argsL := [(.int b1), (.int m1), (.int bd)]) (rest := [(.int (own_below b0 s0 bd))]) (by decide) (by decide) (by rw [hml]; rfl) (lenOf own_pd3 rfl) rfl rfl (Nat.le_refl 1) (hb hby at_184) (pc' := 187) rfl (by decide) (by decide) ?_
        rintro v26 T26 h26 ⟨rfl, q26⟩ S26
        rw [q26] at S26
        have A26 := S26.here
        show Done p e below _ (T26.setTop (mkF m 187 #[.val (.int cn), .val (.int x0), .val (.int x1), .val (.int x2), .val (.int x3), .val (.int bd), .val (.int nn), .val (.int va), .val (.int vb), .val (.int vc), .val (.int vd), .val (.int s0), .val (.int s2), .val (.int s1), .val (.int s3), .val (.int m1), .val (.int m2), .val (.ref b12), .unset] [(.int (own_below b1 m1 bd)), (.int (own_below b0 s0 bd))]))
        refine k_iadd A26 hx (hb hby at_187) (pc' := 188) rfl ?_
        have J199_27 : ∀ (T27 : State), ∀ (b2 : Int32), St p l e room_1 s m #[(.int cn), (.int x0), (.int x1), (.int x2), (.int x3), (.int bd)] below meth c n0 T27 h22 6 20 → (b2 = if (2 : Int32) < nn then 1 else 0) → Done p e below (OEnd s room_1 n0 (fun v h => v = some (.int 1))) (T27.setTop (mkF m 199 #[.val (.int cn), .val (.int x0), .val (.int x1), .val (.int x2), .val (.int x3), .val (.int bd), .val (.int nn), .val (.int va), .val (.int vb), .val (.int vc), .val (.int vd), .val (.int s0), .val (.int s2), .val (.int s1), .val (.int s3), .val (.int m1), .val (.int m2), .val (.ref b12), .unset] [(.int b2), (.int ((own_below b0 s0 bd) + (own_below b1 m1 bd)))])) := by
          intro T27 b2 S27 eb2
          have A27 := S27.here
          refine k_iload A27 hx (hb hby at_199) rfl (pc' := 201) rfl ?_
          refine k_iload A27 hx (hb hby at_201) rfl (pc' := 203) rfl ?_
          refine k_call_static S27 hx hZ hown (hw _ (List.mem_of_getElem? (i := 20) rfl)) (hw _ (List.mem_of_getElem? (i := 21) rfl)) (hw _ (List.mem_of_getElem? (i := 22) rfl)) (hw _ (List.mem_of_getElem? (i := 23) rfl)) (by decide) (own_cbel l Z a0 hw b2 m2 bd h22 n0) 1 (argsL := [(.int b2), (.int m2), (.int bd)]) (rest := [(.int ((own_below b0 s0 bd) + (own_below b1 m1 bd)))]) (by decide) (by decide) (by rw [hml]; rfl) (lenOf own_pd3 rfl) rfl rfl (Nat.le_refl 1) (hb hby at_203) (pc' := 206) rfl (by decide) (by decide) ?_
          rintro v28 T28 h28 ⟨rfl, q28⟩ S28
          rw [q28] at S28
          have A28 := S28.here
          show Done p e below _ (T28.setTop (mkF m 206 #[.val (.int cn), .val (.int x0), .val (.int x1), .val (.int x2), .val (.int x3), .val (.int bd), .val (.int nn), .val (.int va), .val (.int vb), .val (.int vc), .val (.int vd), .val (.int s0), .val (.int s2), .val (.int s1), .val (.int s3), .val (.int m1), .val (.int m2), .val (.ref b12), .unset] [(.int (own_below b2 m2 bd)), (.int ((own_below b0 s0 bd) + (own_below b1 m1 bd)))]))
          refine k_iadd A28 hx (hb hby at_206) (pc' := 207) rfl ?_
          have J218_29 : ∀ (T29 : State), ∀ (b3 : Int32), St p l e room_1 s m #[(.int cn), (.int x0), (.int x1), (.int x2), (.int x3), (.int bd)] below meth c n0 T29 h22 6 20 → (b3 = if (3 : Int32) < nn then 1 else 0) → Done p e below (OEnd s room_1 n0 (fun v h => v = some (.int 1))) (T29.setTop (mkF m 218 #[.val (.int cn), .val (.int x0), .val (.int x1), .val (.int x2), .val (.int x3), .val (.int bd), .val (.int nn), .val (.int va), .val (.int vb), .val (.int vc), .val (.int vd), .val (.int s0), .val (.int s2), .val (.int s1), .val (.int s3), .val (.int m1), .val (.int m2), .val (.ref b12), .unset] [(.int b3), (.int (((own_below b0 s0 bd) + (own_below b1 m1 bd)) + (own_below b2 m2 bd)))])) := by
            intro T29 b3 S29 eb3
            have A29 := S29.here
            refine k_iload A29 hx (hb hby at_218) rfl (pc' := 220) rfl ?_
            refine k_iload A29 hx (hb hby at_220) rfl (pc' := 222) rfl ?_
            refine k_call_static S29 hx hZ hown (hw _ (List.mem_of_getElem? (i := 20) rfl)) (hw _ (List.mem_of_getElem? (i := 21) rfl)) (hw _ (List.mem_of_getElem? (i := 22) rfl)) (hw _ (List.mem_of_getElem? (i := 23) rfl)) (by decide) (own_cbel l Z a0 hw b3 s3 bd h22 n0) 1 (argsL := [(.int b3), (.int s3), (.int bd)]) (rest := [(.int (((own_below b0 s0 bd) + (own_below b1 m1 bd)) + (own_below b2 m2 bd)))]) (by decide) (by decide) (by rw [hml]; rfl) (lenOf own_pd3 rfl) rfl rfl (Nat.le_refl 1) (hb hby at_222) (pc' := 225) rfl (by decide) (by decide) ?_
            rintro v30 T30 h30 ⟨rfl, q30⟩ S30
            rw [q30] at S30
            have A30 := S30.here
            show Done p e below _ (T30.setTop (mkF m 225 #[.val (.int cn), .val (.int x0), .val (.int x1), .val (.int x2), .val (.int x3), .val (.int bd), .val (.int nn), .val (.int va), .val (.int vb), .val (.int vc), .val (.int vd), .val (.int s0), .val (.int s2), .val (.int s1), .val (.int s3), .val (.int m1), .val (.int m2), .val (.ref b12), .unset] [(.int (own_below b3 s3 bd)), (.int (((own_below b0 s0 bd) + (own_below b1 m1 bd)) + (own_below b2 m2 bd)))]))
            refine k_iadd A30 hx (hb hby at_225) (pc' := 226) rfl ?_
            refine k_istore A30 hx (hb hby at_226) (Ls' := #[.val (.int cn), .val (.int x0), .val (.int x1), .val (.int x2), .val (.int x3), .val (.int bd), .val (.int nn), .val (.int va), .val (.int vb), .val (.int vc), .val (.int vd), .val (.int s0), .val (.int s2), .val (.int s1), .val (.int s3), .val (.int m1), .val (.int m2), .val (.ref b12), .val (.int ((((own_below b0 s0 bd) + (own_below b1 m1 bd)) + (own_below b2 m2 bd)) + (own_below b3 s3 bd)))]) rfl (pc' := 228) rfl ?_
            refine k_aload A30 hx (hb hby at_228) rfl rfl (pc' := 230) rfl ?_
            refine k_iload A30 hx (hb hby at_230) rfl (pc' := 232) rfl ?_
            refine k_call_virtual S30 hx hZ hown Eo (hw _ (List.mem_of_getElem? (i := 24) rfl)) (hw _ (List.mem_of_getElem? (i := 25) rfl)) (hw _ (List.mem_of_getElem? (i := 27) rfl)) (hw _ (List.mem_of_getElem? (i := 26) rfl)) (hw _ (List.mem_of_getElem? (i := 10) rfl)) (hw _ (List.mem_of_getElem? (i := 28) rfl)) (by decide) (own_ccb l Z a0 hw b12 bd h22 n0 av xs nn Fv Fs Vv ⟨hL.1, hL.2.2.1, hL.2.2.2.1⟩ (own_L_so hL hso)) 0 (argsL := [(.int bd)]) (rest := []) (by decide) (by decide) (by rw [hml]; rfl) (lenOf own_pd4 rfl) rfl rfl (Nat.le_refl 0) (hb hby at_232) (pc' := 235) rfl (by decide) (by decide) ?_
            rintro v31 T31 h31 ⟨⟨r, rfl, hr⟩, q31⟩ S31
            rw [q31] at S31
            have A31 := S31.here
            show Done p e below _ (T31.setTop (mkF m 235 #[.val (.int cn), .val (.int x0), .val (.int x1), .val (.int x2), .val (.int x3), .val (.int bd), .val (.int nn), .val (.int va), .val (.int vb), .val (.int vc), .val (.int vd), .val (.int s0), .val (.int s2), .val (.int s1), .val (.int s3), .val (.int m1), .val (.int m2), .val (.ref b12), .val (.int ((((own_below b0 s0 bd) + (own_below b1 m1 bd)) + (own_below b2 m2 bd)) + (own_below b3 s3 bd)))] [(.int r)]))
            refine k_iload A31 hx (hb hby at_235) rfl (pc' := 237) rfl ?_
            refine k_icmp_ne A31 hx (hb hby at_237) (pcY := 244) (by decide) (pc' := 240) rfl (fun hc237 => ?_) (fun hc237 => ?_)
            · refine k_iconst A31 hx (hb hby at_244) (v := 0) rfl (pc' := 245) rfl ?_
              refine k_ret_nar S31 hx (t := .boolean) hret (by simp) hlk (hb hby at_245) (z' := (0 : Int32)) rfl (by decide) (by decide) ?_
              exact absurd (own_count hL hso hr eb0 eb1 eb2 eb3) hc237
            · refine k_iconst A31 hx (hb hby at_240) (v := 1) rfl (pc' := 241) rfl ?_
              refine k_goto A31 hx (hb hby at_241) (pc' := 245) (by decide) ?_
              refine k_ret_nar S31 hx (t := .boolean) hret (by simp) hlk (hb hby at_245) (z' := (1 : Int32)) rfl (by decide) (by decide) ?_
              exact rfl
          refine k_iload A28 hx (hb hby at_207) rfl (pc' := 209) rfl ?_
          refine k_iconst A28 hx (hb hby at_209) (v := 3) rfl (pc' := 210) rfl ?_
          refine k_icmp_le A28 hx (hb hby at_210) (pcY := 217) (by decide) (pc' := 213) rfl (fun hc210 => ?_) (fun hc210 => ?_)
          · refine k_iconst A28 hx (hb hby at_217) (v := 0) rfl (pc' := 218) rfl ?_
            exact J218_29 T28 (0 : Int32) (S28.more (by decide) (by decide)) (if_neg hc210).symm
          · refine k_iconst A28 hx (hb hby at_213) (v := 1) rfl (pc' := 214) rfl ?_
            refine k_goto A28 hx (hb hby at_214) (pc' := 218) (by decide) ?_
            exact J218_29 T28 (1 : Int32) (S28.more (by decide) (by decide)) (if_pos hc210).symm
        refine k_iload A26 hx (hb hby at_188) rfl (pc' := 190) rfl ?_
        refine k_iconst A26 hx (hb hby at_190) (v := 2) rfl (pc' := 191) rfl ?_
        refine k_icmp_le A26 hx (hb hby at_191) (pcY := 198) (by decide) (pc' := 194) rfl (fun hc191 => ?_) (fun hc191 => ?_)
        · refine k_iconst A26 hx (hb hby at_198) (v := 0) rfl (pc' := 199) rfl ?_
          exact J199_27 T26 (0 : Int32) (S26.more (by decide) (by decide)) (if_neg hc191).symm
        · refine k_iconst A26 hx (hb hby at_194) (v := 1) rfl (pc' := 195) rfl ?_
          refine k_goto A26 hx (hb hby at_195) (pc' := 199) (by decide) ?_
          exact J199_27 T26 (1 : Int32) (S26.more (by decide) (by decide)) (if_pos hc191).symm
      refine k_iload A24 hx (hb hby at_169) rfl (pc' := 171) rfl ?_
      refine k_iconst A24 hx (hb hby at_171) (v := 1) rfl (pc' := 172) rfl ?_
      refine k_icmp_le A24 hx (hb hby at_172) (pcY := 179) (by decide) (pc' := 175) rfl (fun hc172 => ?_) (fun hc172 => ?_)
      · refine k_iconst A24 hx (hb hby at_179) (v := 0) rfl (pc' := 180) rfl ?_
        exact J180_25 T24 (0 : Int32) (S24.more (by decide) (by decide)) (if_neg hc172).symm
      · refine k_iconst A24 hx (hb hby at_175) (v := 1) rfl (pc' := 176) rfl ?_
        refine k_goto A24 hx (hb hby at_176) (pc' := 180) (by decide) ?_
        exact J180_25 T24 (1 : Int32) (S24.more (by decide) (by decide)) (if_pos hc172).symm
    refine k_iload A22 hx (hb hby at_152) rfl (pc' := 154) rfl ?_
    refine k_if_le A22 hx (hb hby at_154) (pcY := 161) (by decide) (pc' := 157) rfl (fun hc154 => ?_) (fun hc154 => ?_)
    · refine k_iconst A22 hx (hb hby at_161) (v := 0) rfl (pc' := 162) rfl ?_
      exact J162_23 T22 (0 : Int32) (S22.more (by decide) (by decide)) (if_neg hc154).symm
    · refine k_iconst A22 hx (hb hby at_157) (v := 1) rfl (pc' := 158) rfl ?_
      refine k_goto A22 hx (hb hby at_158) (pc' := 162) (by decide) ?_
      exact J162_23 T22 (1 : Int32) (S22.more (by decide) (by decide)) (if_pos hc154).symm
  refine k_iload A17 hx (hb hby at_101) rfl (pc' := 103) rfl ?_
  refine k_if_le A17 hx (hb hby at_103) (pcY := 113) (by decide) (pc' := 106) rfl (fun hc103 => ?_) (fun hc103 => ?_)
  · refine k_iload A17 hx (hb hby at_113) rfl (pc' := 115) rfl ?_
    refine k_iconst A17 hx (hb hby at_115) (v := 1) rfl (pc' := 116) rfl ?_
    refine k_icmp_le A17 hx (hb hby at_116) (pcY := 126) (by decide) (pc' := 119) rfl (fun hc116 => ?_) (fun hc116 => by simp only [Int32.lt_iff_toInt_lt, Int32.reduceToInt] at hc103 hc116; omega)
    refine k_iload A17 hx (hb hby at_126) rfl (pc' := 128) rfl ?_
    refine k_iconst A17 hx (hb hby at_128) (v := 2) rfl (pc' := 129) rfl ?_
    refine k_icmp_le A17 hx (hb hby at_129) (pcY := 139) (by decide) (pc' := 132) rfl (fun hc129 => ?_) (fun hc129 => by simp only [Int32.lt_iff_toInt_lt, Int32.reduceToInt] at hc103 hc129; omega)
    refine k_iload A17 hx (hb hby at_139) rfl (pc' := 141) rfl ?_
    refine k_iconst A17 hx (hb hby at_141) (v := 3) rfl (pc' := 142) rfl ?_
    refine k_icmp_le A17 hx (hb hby at_142) (pcY := 152) (by decide) (pc' := 145) rfl (fun hc142 => ?_) (fun hc142 => by simp only [Int32.lt_iff_toInt_lt, Int32.reduceToInt] at hc103 hc142; omega)
    exact J152_22 T17 h17 b17 [(0 : Int32), (0 : Int32)] (S17.more (by decide) (by decide)) f18 F17a (by rw [(show nn = 0 by rw [← Int32.toInt_inj]; simp only [Int32.lt_iff_toInt_lt, Int32.reduceToInt] at hc103 hc116 hc129 hc142 ⊢; omega)]; exact F17b) V17 (by rw [(show nn = 0 by rw [← Int32.toInt_inj]; simp only [Int32.lt_iff_toInt_lt, Int32.reduceToInt] at hc103 hc116 hc129 hc142 ⊢; omega)]; exact own_Lk0 _ _ _ _ )
  · refine k_aload A17 hx (hb hby at_106) rfl rfl (pc' := 108) rfl ?_
    refine k_iload A17 hx (hb hby at_108) rfl (pc' := 110) rfl ?_
    refine k_call_virtual S17 hx hZ hown f18 (hw _ (List.mem_of_getElem? (i := 31) rfl)) (hw _ (List.mem_of_getElem? (i := 32) rfl)) (hw _ (List.mem_of_getElem? (i := 34) rfl)) (hw _ (List.mem_of_getElem? (i := 33) rfl)) (hw _ (List.mem_of_getElem? (i := 10) rfl)) (hw _ (List.mem_of_getElem? (i := 35) rfl)) (by decide) (own_add_fit l Z a0 hw b12 s0 h17 n0 [(0 : Int32), (0 : Int32)] (0 : Int32) (1 : Int32) b17 (Nat.le_trans ge13 (Nat.le_of_lt f18.lt)) ge13 ge17 ne17 f18 F17a F17b V17 rfl ⟨by decide, by first | decide | (simp; done)⟩) 0 (argsL := [(.int s0)]) (rest := []) (by decide) (by decide) (by rw [hml]; rfl) (lenOf own_pd5 rfl) rfl rfl (Nat.le_refl 0) (hb hby at_110) (pc' := 113) rfl (by decide) (by decide) ?_
    rintro v32 T32 h32 ⟨rfl, K32, F32a, F32b, V32⟩ S32
    have f33 := f18.keep K32
    have V32 : IV Z h32 b17 [s0, (0 : Int32)] := V32
    have A32 := S32.here
    show Done p e below _ (T32.setTop (mkF m 113 #[.val (.int cn), .val (.int x0), .val (.int x1), .val (.int x2), .val (.int x3), .val (.int bd), .val (.int nn), .val (.int va), .val (.int vb), .val (.int vc), .val (.int vd), .val (.int s0), .val (.int s2), .val (.int s1), .val (.int s3), .val (.int m1), .val (.int m2), .val (.ref b12), .unset] []))
    refine k_iload A32 hx (hb hby at_113) rfl (pc' := 115) rfl ?_
    refine k_iconst A32 hx (hb hby at_115) (v := 1) rfl (pc' := 116) rfl ?_
    refine k_icmp_le A32 hx (hb hby at_116) (pcY := 126) (by decide) (pc' := 119) rfl (fun hc116 => ?_) (fun hc116 => ?_)
    · refine k_iload A32 hx (hb hby at_126) rfl (pc' := 128) rfl ?_
      refine k_iconst A32 hx (hb hby at_128) (v := 2) rfl (pc' := 129) rfl ?_
      refine k_icmp_le A32 hx (hb hby at_129) (pcY := 139) (by decide) (pc' := 132) rfl (fun hc129 => ?_) (fun hc129 => by simp only [Int32.lt_iff_toInt_lt, Int32.reduceToInt] at hc116 hc129; omega)
      refine k_iload A32 hx (hb hby at_139) rfl (pc' := 141) rfl ?_
      refine k_iconst A32 hx (hb hby at_141) (v := 3) rfl (pc' := 142) rfl ?_
      refine k_icmp_le A32 hx (hb hby at_142) (pcY := 152) (by decide) (pc' := 145) rfl (fun hc142 => ?_) (fun hc142 => by simp only [Int32.lt_iff_toInt_lt, Int32.reduceToInt] at hc116 hc142; omega)
      exact J152_22 T32 h32 b17 [s0, (0 : Int32)] (S32.more (by decide) (by decide)) f33 F32a (by rw [(show nn = 1 by rw [← Int32.toInt_inj]; simp only [Int32.lt_iff_toInt_lt, Int32.reduceToInt] at hc103 hc116 hc129 hc142 ⊢; omega)]; exact F32b) V32 (by rw [(show nn = 1 by rw [← Int32.toInt_inj]; simp only [Int32.lt_iff_toInt_lt, Int32.reduceToInt] at hc103 hc116 hc129 hc142 ⊢; omega)]; exact own_Lk1 _ _ _ _ )
    · refine k_aload A32 hx (hb hby at_119) rfl rfl (pc' := 121) rfl ?_
      refine k_iload A32 hx (hb hby at_121) rfl (pc' := 123) rfl ?_
      refine k_call_virtual S32 hx hZ hown f33 (hw _ (List.mem_of_getElem? (i := 31) rfl)) (hw _ (List.mem_of_getElem? (i := 32) rfl)) (hw _ (List.mem_of_getElem? (i := 34) rfl)) (hw _ (List.mem_of_getElem? (i := 33) rfl)) (hw _ (List.mem_of_getElem? (i := 10) rfl)) (hw _ (List.mem_of_getElem? (i := 35) rfl)) (by decide) (own_add_fit l Z a0 hw b12 m1 h32 n0 [s0, (0 : Int32)] (1 : Int32) (2 : Int32) b17 (Nat.le_trans ge13 (Nat.le_of_lt f33.lt)) ge13 ge17 ne17 f33 F32a F32b V32 rfl ⟨by decide, by first | decide | (simp; done)⟩) 0 (argsL := [(.int m1)]) (rest := []) (by decide) (by decide) (by rw [hml]; rfl) (lenOf own_pd5 rfl) rfl rfl (Nat.le_refl 0) (hb hby at_123) (pc' := 126) rfl (by decide) (by decide) ?_
      rintro v37 T37 h37 ⟨rfl, K37, F37a, F37b, V37⟩ S37
      have f38 := f33.keep K37
      have V37 : IV Z h37 b17 [s0, m1] := V37
      have A37 := S37.here
      show Done p e below _ (T37.setTop (mkF m 126 #[.val (.int cn), .val (.int x0), .val (.int x1), .val (.int x2), .val (.int x3), .val (.int bd), .val (.int nn), .val (.int va), .val (.int vb), .val (.int vc), .val (.int vd), .val (.int s0), .val (.int s2), .val (.int s1), .val (.int s3), .val (.int m1), .val (.int m2), .val (.ref b12), .unset] []))
      refine k_iload A37 hx (hb hby at_126) rfl (pc' := 128) rfl ?_
      refine k_iconst A37 hx (hb hby at_128) (v := 2) rfl (pc' := 129) rfl ?_
      refine k_icmp_le A37 hx (hb hby at_129) (pcY := 139) (by decide) (pc' := 132) rfl (fun hc129 => ?_) (fun hc129 => ?_)
      · refine k_iload A37 hx (hb hby at_139) rfl (pc' := 141) rfl ?_
        refine k_iconst A37 hx (hb hby at_141) (v := 3) rfl (pc' := 142) rfl ?_
        refine k_icmp_le A37 hx (hb hby at_142) (pcY := 152) (by decide) (pc' := 145) rfl (fun hc142 => ?_) (fun hc142 => by simp only [Int32.lt_iff_toInt_lt, Int32.reduceToInt] at hc129 hc142; omega)
        exact J152_22 T37 h37 b17 [s0, m1] (S37.more (by decide) (by decide)) f38 F37a (by rw [(show nn = 2 by rw [← Int32.toInt_inj]; simp only [Int32.lt_iff_toInt_lt, Int32.reduceToInt] at hc103 hc116 hc129 hc142 ⊢; omega)]; exact F37b) V37 (by rw [(show nn = 2 by rw [← Int32.toInt_inj]; simp only [Int32.lt_iff_toInt_lt, Int32.reduceToInt] at hc103 hc116 hc129 hc142 ⊢; omega)]; exact own_Lk2 _ _ _ _ )
      · refine k_aload A37 hx (hb hby at_132) rfl rfl (pc' := 134) rfl ?_
        refine k_iload A37 hx (hb hby at_134) rfl (pc' := 136) rfl ?_
        have hsz42 : n0 ≤ h37.size := Nat.le_trans ge13 (Nat.le_of_lt f38.lt)
        refine k_call_virtual S37 hx hZ hown f38 (hw _ (List.mem_of_getElem? (i := 31) rfl)) (hw _ (List.mem_of_getElem? (i := 32) rfl)) (hw _ (List.mem_of_getElem? (i := 34) rfl)) (hw _ (List.mem_of_getElem? (i := 33) rfl)) (hw _ (List.mem_of_getElem? (i := 10) rfl)) (hw _ (List.mem_of_getElem? (i := 35) rfl)) (by decide) (own_add_grow l Z a0 hw b12 m2 h37 n0 s0 m1 b17 hsz42 ge13 ge17 ne17 f38 F37a F37b V37) 0 (argsL := [(.int m2)]) (rest := []) (by decide) (by decide) (by rw [hml]; rfl) (lenOf own_pd5 rfl) rfl rfl (Nat.le_refl 0) (hb hby at_136) (pc' := 139) rfl (by decide) (by decide) ?_
        rintro v42 T42 h42 ⟨rfl, b42, g42, ne42, K42, F42a, F42b, V42⟩ S42
        have f43 := f38.keep K42
        have ge42 : n0 ≤ b42 := Nat.le_trans hsz42 g42
        have A42 := S42.here
        show Done p e below _ (T42.setTop (mkF m 139 #[.val (.int cn), .val (.int x0), .val (.int x1), .val (.int x2), .val (.int x3), .val (.int bd), .val (.int nn), .val (.int va), .val (.int vb), .val (.int vc), .val (.int vd), .val (.int s0), .val (.int s2), .val (.int s1), .val (.int s3), .val (.int m1), .val (.int m2), .val (.ref b12), .unset] []))
        refine k_iload A42 hx (hb hby at_139) rfl (pc' := 141) rfl ?_
        refine k_iconst A42 hx (hb hby at_141) (v := 3) rfl (pc' := 142) rfl ?_
        refine k_icmp_le A42 hx (hb hby at_142) (pcY := 152) (by decide) (pc' := 145) rfl (fun hc142 => ?_) (fun hc142 => ?_)
        · exact J152_22 T42 h42 b42 [s0, m1, m2, (0 : Int32)] (S42.more (by decide) (by decide)) f43 F42a (by rw [(show nn = 3 by rw [← Int32.toInt_inj]; simp only [Int32.lt_iff_toInt_lt, Int32.reduceToInt] at hc103 hc116 hc129 hc142 ⊢; omega)]; exact F42b) V42 (by rw [(show nn = 3 by rw [← Int32.toInt_inj]; simp only [Int32.lt_iff_toInt_lt, Int32.reduceToInt] at hc103 hc116 hc129 hc142 ⊢; omega)]; exact own_Lk3 _ _ _ _ )
        · refine k_aload A42 hx (hb hby at_145) rfl rfl (pc' := 147) rfl ?_
          refine k_iload A42 hx (hb hby at_147) rfl (pc' := 149) rfl ?_
          refine k_call_virtual S42 hx hZ hown f43 (hw _ (List.mem_of_getElem? (i := 31) rfl)) (hw _ (List.mem_of_getElem? (i := 32) rfl)) (hw _ (List.mem_of_getElem? (i := 34) rfl)) (hw _ (List.mem_of_getElem? (i := 33) rfl)) (hw _ (List.mem_of_getElem? (i := 10) rfl)) (hw _ (List.mem_of_getElem? (i := 35) rfl)) (by decide) (own_add_fit l Z a0 hw b12 s3 h42 n0 [s0, m1, m2, (0 : Int32)] (3 : Int32) (4 : Int32) b42 (Nat.le_trans ge13 (Nat.le_of_lt f43.lt)) ge13 ge42 ne42 f43 F42a F42b V42 rfl ⟨by decide, by first | decide | (simp; done)⟩) 0 (argsL := [(.int s3)]) (rest := []) (by decide) (by decide) (by rw [hml]; rfl) (lenOf own_pd5 rfl) rfl rfl (Nat.le_refl 0) (hb hby at_149) (pc' := 152) rfl (by decide) (by decide) ?_
          rintro v46 T46 h46 ⟨rfl, K46, F46a, F46b, V46⟩ S46
          have f47 := f43.keep K46
          have V46 : IV Z h46 b42 [s0, m1, m2, s3] := V46
          have A46 := S46.here
          show Done p e below _ (T46.setTop (mkF m 152 #[.val (.int cn), .val (.int x0), .val (.int x1), .val (.int x2), .val (.int x3), .val (.int bd), .val (.int nn), .val (.int va), .val (.int vb), .val (.int vc), .val (.int vd), .val (.int s0), .val (.int s2), .val (.int s1), .val (.int s3), .val (.int m1), .val (.int m2), .val (.ref b12), .unset] []))
          exact J152_22 T46 h46 b42 [s0, m1, m2, s3] (S46.more (by decide) (by decide)) f47 F46a (by rw [(show nn = 4 by rw [← Int32.toInt_inj]; simp only [Int32.lt_iff_toInt_lt, Int32.reduceToInt] at hc103 hc116 hc129 hc142 ⊢; omega)]; exact F46b) V46 (by rw [(show nn = 4 by rw [← Int32.toInt_inj]; simp only [Int32.lt_iff_toInt_lt, Int32.reduceToInt] at hc103 hc116 hc129 hc142 ⊢; omega)]; exact own_Lk4 _ _ _ _ )
set_option maxRecDepth 65536 in
set_option maxHeartbeats 40000000 in
theorem comes_1 {Post : Tables → Env → Array Value → State → Outcome → State → Prop} (hpost : ∀ tb e args s v u, (limb_1_1.after args s (.returned v) u = true ∧ limb_1_2.after args s (.returned v) u = true ∧ True) → FrameEnd s (.returned v) u (Jvm.fieldLocs frame_1_writes args s ++ Jvm.arrayLocs frame_1_arrays args s ++ Jvm.staticLocs frame_1_statics s) 16 128 → Post tb e args s (.returned v) u) :
    ArmFor flags0 classFile x code maxLocals ret World_1 tables_1 room_1 Calls_1 rest_1 Pre_1 Post := by
  intro l hfl _ _ p e ha hc hk s m args below hf hA hF happ hP
  obtain ⟨hcalls, hrest, hpre⟩ := hP
  obtain ⟨-, -, -, hnamed, -, -, -, hat⟩ := (Spec.applies_iff hf).mp happ
  obtain ⟨hg, hn⟩ := and_e (Cond.before_iff.mp (show (Jvm.Cond.and given_1 narrow_1).before args s = true from hpre))
  obtain ⟨g1, g2⟩ := and_e hg
  obtain ⟨g3, g4⟩ := and_e g2
  obtain ⟨g5, g6⟩ := and_e g4
  obtain ⟨g7, g8⟩ := and_e g6
  obtain ⟨g9, g10⟩ := and_e g8
  obtain ⟨g11, g12⟩ := and_e g10
  obtain ⟨w0, w1, w2, w3, w4, w5, rfl⟩ : ∃ w0 w1 w2 w3 w4 w5 : Value, args = #[w0, w1, w2, w3, w4, w5] := by
    have hs : args.size = 6 := by simpa [Cond.value, given_1] using g1
    obtain ⟨L⟩ := args
    match L, hs with
    | [w0, w1, w2, w3, w4, w5], _ => exact ⟨w0, w1, w2, w3, w4, w5, rfl⟩
  have hw := fun d (hd : d ∈ tables_1) => atoms_spec (ws := Jvm.Cond.code x code maxLocals ret :: tables_1) hat d (List.mem_cons_of_mem _ hd)
  obtain ⟨i0, ei0⟩ := is_v g3
  obtain rfl : w0 = (.int i0) := Option.some.inj ei0
  obtain ⟨i1, ei1⟩ := is_v g5
  obtain rfl : w1 = (.int i1) := Option.some.inj ei1
  obtain ⟨i2, ei2⟩ := is_v g7
  obtain rfl : w2 = (.int i2) := Option.some.inj ei2
  obtain ⟨i3, ei3⟩ := is_v g9
  obtain rfl : w3 = (.int i3) := Option.some.inj ei3
  obtain ⟨i4, ei4⟩ := is_v g11
  obtain rfl : w4 = (.int i4) := Option.some.inj ei4
  obtain ⟨i5, ei5⟩ := is_v g12
  obtain rfl : w5 = (.int i5) := Option.some.inj ei5
  obtain ⟨n, o, h1, h2, h3, _, L, rfl, ⟨rfl, N⟩, hq⟩ := own_law l s _ hw i0 i1 i2 i3 i4 i5 s.heap s.heap.size (Nat.le_refl _) tables_1 p e ha hc hk s m _ below hf ((Spec.applies_iff_loose hf).mp happ).1 ⟨rfl, State.Warmed39.refl s, rfl⟩ trivial
  refine ⟨n, _, h1, h2, h3, hpost _ _ _ _ _ _ ⟨Cond.after_iff.mpr rfl, Cond.after_iff.mpr (eq_i res_at (Term.int_eval (1)) rfl), trivial⟩ ⟨hq.1, hq.2.1, (hq.2.2.sift fun y hy => Or.inr (N y hy)).mono (by decide) (by decide)⟩⟩
theorem main_1_1 : Claimed_1_1 := comes_1 fun _ _ _ _ _ _ h hF => ⟨h.1, hF⟩
theorem main_1_2 : Claimed_1_2 := comes_1 fun _ _ _ _ _ _ h hF => ⟨h.2.1, hF⟩
end Jvm.Pilot.@@N@@
namespace Jvm.Pilot.@@N@@
open Jvm Jvm.ClassFile Sem Op Lib Jvm.Free Jvm.Stand Jvm.Pilot.@@N@@.Jvm.D
/-! MADE BY PROGRAM (witnessworld.py) out of the Statement's table words and the real class files: 12 classes; the members and pool entries that the words name. The judged class is class 1, her method 2. -/
namespace start1
open Jvm.ClassFile
def u (s : String) : CpInfo := .utf8 (stringToUtf16 s)
/-- a pool by its gaps: so many unusable entries, then the entry; so many at the end -/
def gap : Nat → List CpInfo → List CpInfo
  | 0, r => r
  | n + 1, r => .unusable :: gap n r
def poolList (es : List (Nat × CpInfo)) (last : Nat) : List CpInfo := es.foldr (fun e r => gap e.1 (e.2 :: r)) (gap last [])
def pool (es : List (Nat × CpInfo)) (last : Nat) : Array CpInfo := ⟨poolList es last⟩
def fileOf (pool : Array CpInfo) (this : Nat) (attrs : Array Attribute := #[]) (ms : Array MethodInfo := #[]) (fl : Nat := 33) (sup : Nat := 0) (ifs : Array Nat := #[]) (fds : Array FieldInfo := #[]) : ClassFile where
  minorVersion := 0
  majorVersion := 65
  constantPool := pool
  accessFlags := fl
  thisClass := this
  superClass := sup
  interfaces := ifs
  fields := fds
  methods := ms
  attributes := attrs
def plain (name : String) (sup : Option ClassId) : Class where
  name := name
  kind := .ordinary
  loader := none
  accessFlags := 33
  super := sup
  interfaces := #[]
  cf := none
  fields := #[]
  methods := #[]
  instanceTypes := #[]
  staticTypes := #[]
  resolved := #[]
  callSites := []
  init := .initialized
  statics := none
  mirror := none

def pool0 : Array CpInfo := pool [(5, u "<init>"), (0, u "()V"), (1, .class_ 10), (1, u "java/lang/Object")] 113

def k0c0 : Code := { maxStack := 0, maxLocals := 1, code := object_method_1_code, exceptionTable := #[], attributes := #[] }
def k0m0 : Method := { name := "<init>", desc := "()V", sig := { parameters := [], returnType := none }, accessFlags := 1, code := some k0c0 }
/-- java/lang/Object -/
def k0 : Class := { plain "java/lang/Object" none with
  accessFlags := 33
  interfaces := #[]
  cf := some (fileOf pool0 8 #[] #[{ accessFlags := 1, nameIndex := 5, descriptorIndex := 6, attributes := #[] }] 33 0 #[] #[])
  fields := #[]
  methods := #[k0m0]
  instanceTypes := #[]
  staticTypes := #[]
  resolved := Array.replicate 124 none
  statics := none }

def pool1 : Array CpInfo := pool [(2, .class_ 4), (0, .nameAndType 5 6), (0, u "java/lang/Object"), (0, u "<init>"), (0, u "()V"), (0, .integer 2147483647), (0, .methodref 9 10), (0, .class_ 11), (0, .nameAndType 12 13), (0, u "java/lang/Math"), (0, u "min"), (0, u "(II)I"), (0, .methodref 9 15), (0, .nameAndType 16 13), (0, u "max"), (0, .class_ 18), (0, u "com/example/libchase/libchase/core/store/IntList"), (0, .methodref 17 3), (0, .methodref 17 21), (0, .nameAndType 22 23), (0, u "add"), (0, u "(I)V"), (0, .methodref 25 26), (0, .class_ 27), (0, .nameAndType 28 29), (0, u "com/example/libchase/libchase/core/store/IntListCountBelowPinLaw"), (0, u "below"), (0, u "(ZII)I"), (0, .methodref 17 31), (0, .nameAndType 32 33), (0, u "countBelow"), (0, u "(I)I"), (3, u "law"), (0, u "(IIIIII)Z")] 2

def k1m0 : Method := { name := "<init>", desc := "()V", sig := { parameters := [], returnType := none }, accessFlags := 1, code := none }
def k1c1 : Code := { maxStack := 2, maxLocals := 3, code := method_2_code, exceptionTable := #[], attributes := #[] }
def k1m1 : Method := { name := "below", desc := "(ZII)I", sig := { parameters := [.boolean, .int, .int], returnType := some .int }, accessFlags := 10, code := some k1c1 }
def k1c2 : Code := { maxStack := 4, maxLocals := 19, code := code, exceptionTable := #[], attributes := #[] }
def k1m2 : Method := { name := "law", desc := "(IIIIII)Z", sig := { parameters := [.int, .int, .int, .int, .int, .int], returnType := some .boolean }, accessFlags := 9, code := some k1c2 }
/-- com/example/libchase/libchase/core/store/IntListCountBelowPinLaw -/
def k1 : Class := { plain "com/example/libchase/libchase/core/store/IntListCountBelowPinLaw" (some 0) with
  accessFlags := 49
  interfaces := #[]
  cf := some (fileOf pool1 25 #[] #[{ accessFlags := 1, nameIndex := 5, descriptorIndex := 6, attributes := #[] }, { accessFlags := 10, nameIndex := 28, descriptorIndex := 29, attributes := #[] }, { accessFlags := 9, nameIndex := 37, descriptorIndex := 38, attributes := #[] }] 49 2 #[] #[])
  fields := #[]
  methods := #[k1m0, k1m1, k1m2]
  instanceTypes := #[]
  staticTypes := #[]
  resolved := Array.replicate 41 none
  statics := none }

def pool2 : Array CpInfo := pool [(1, .class_ 2), (0, u "java/lang/Math"), (1, .class_ 6), (1, u "java/lang/Object"), (0, u "<init>"), (0, u "()V"), (89, .class_ 100), (1, u "java/lang/Math$RandomNumberGeneratorHolder"), (71, u "negativeZeroFloatBits"), (0, u "J"), (2, u "negativeZeroDoubleBits"), (21, u "max"), (2, u "min"), (43, u "$assertionsDisabled"), (0, u "Z"), (88, u "(II)I"), (2, u "twoToTheDoubleScaleDown"), (0, u "D"), (4, u "twoToTheDoubleScaleUp"), (9, u "E"), (3, u "PI"), (2, u "TAU"), (2, u "DEGREES_TO_RADIANS"), (0, u "RADIANS_TO_DEGREES")] 94

def k2m0 : Method := { name := "<init>", desc := "()V", sig := { parameters := [], returnType := none }, accessFlags := 2, code := none }
def k2c1 : Code := { maxStack := 2, maxLocals := 2, code := jdk_29_method_65_code, exceptionTable := #[], attributes := #[] }
def k2m1 : Method := { name := "max", desc := "(II)I", sig := { parameters := [.int, .int], returnType := some .int }, accessFlags := 9, code := some k2c1 }
def k2c2 : Code := { maxStack := 2, maxLocals := 2, code := jdk_29_method_69_code, exceptionTable := #[], attributes := #[] }
def k2m2 : Method := { name := "min", desc := "(II)I", sig := { parameters := [.int, .int], returnType := some .int }, accessFlags := 9, code := some k2c2 }
/-- java/lang/Math -/
def k2 : Class := { plain "java/lang/Math" (some 0) with
  accessFlags := 49
  interfaces := #[]
  cf := some (fileOf pool2 1 #[.nestMembers #[98]] #[{ accessFlags := 2, nameIndex := 7, descriptorIndex := 8, attributes := #[] }, { accessFlags := 9, nameIndex := 198, descriptorIndex := 335, attributes := #[] }, { accessFlags := 9, nameIndex := 201, descriptorIndex := 335, attributes := #[] }] 49 4 #[] #[{ accessFlags := 25, nameIndex := 354, descriptorIndex := 339, attributes := #[] }, { accessFlags := 25, nameIndex := 358, descriptorIndex := 339, attributes := #[] }, { accessFlags := 25, nameIndex := 361, descriptorIndex := 339, attributes := #[] }, { accessFlags := 26, nameIndex := 364, descriptorIndex := 339, attributes := #[] }, { accessFlags := 26, nameIndex := 365, descriptorIndex := 339, attributes := #[] }, { accessFlags := 26, nameIndex := 172, descriptorIndex := 173, attributes := #[] }, { accessFlags := 26, nameIndex := 176, descriptorIndex := 173, attributes := #[] }, { accessFlags := 8, nameIndex := 344, descriptorIndex := 339, attributes := #[] }, { accessFlags := 8, nameIndex := 338, descriptorIndex := 339, attributes := #[] }, { accessFlags := 4120, nameIndex := 245, descriptorIndex := 246, attributes := #[] }])
  fields := #[{ name := "E", type := .double, accessFlags := 25, slot := 0, constantValue := 0 }, { name := "PI", type := .double, accessFlags := 25, slot := 1, constantValue := 0 }, { name := "TAU", type := .double, accessFlags := 25, slot := 2, constantValue := 0 }, { name := "DEGREES_TO_RADIANS", type := .double, accessFlags := 26, slot := 3, constantValue := 0 }, { name := "RADIANS_TO_DEGREES", type := .double, accessFlags := 26, slot := 4, constantValue := 0 }, { name := "negativeZeroFloatBits", type := .long, accessFlags := 26, slot := 5, constantValue := 0 }, { name := "negativeZeroDoubleBits", type := .long, accessFlags := 26, slot := 6, constantValue := 0 }, { name := "twoToTheDoubleScaleUp", type := .double, accessFlags := 8, slot := 7, constantValue := 0 }, { name := "twoToTheDoubleScaleDown", type := .double, accessFlags := 8, slot := 8, constantValue := 0 }, { name := "$assertionsDisabled", type := .boolean, accessFlags := 4120, slot := 9, constantValue := 0 }]
  methods := #[k2m0, k2m1, k2m2]
  instanceTypes := #[]
  staticTypes := #[.double, .double, .double, .double, .double, .long, .long, .double, .double, .boolean]
  resolved := Array.replicate 460 none
  statics := none }

def pool3 : Array CpInfo := pool [(1, .methodref 2 3), (0, .class_ 4), (0, .nameAndType 5 6), (0, u "java/lang/Object"), (0, u "<init>"), (0, u "()V"), (0, .fieldref 8 9), (0, .class_ 10), (0, .nameAndType 11 12), (0, u "com/example/libchase/libchase/core/store/IntList"), (0, u "values"), (0, u "[I"), (0, .methodref 14 15), (0, .class_ 16), (0, .nameAndType 17 18), (0, u "java/util/Arrays"), (0, u "copyOf"), (0, u "([II)[I"), (0, .fieldref 8 20), (0, .nameAndType 21 22), (0, u "size"), (0, u "I"), (3, u "EMPTY"), (0, u "Lcom/example/libchase/libchase/core/store/IntList;"), (5, u "add"), (0, u "(I)V"), (4, u "(I)I"), (1, u "countBelow")] 3

def k3c0 : Code := { maxStack := 2, maxLocals := 1, code := prog_131_method_1_code, exceptionTable := #[], attributes := #[] }
def k3m0 : Method := { name := "<init>", desc := "()V", sig := { parameters := [], returnType := none }, accessFlags := 0, code := some k3c0 }
def k3c1 : Code := { maxStack := 5, maxLocals := 2, code := prog_131_method_3_code, exceptionTable := #[], attributes := #[] }
def k3m1 : Method := { name := "add", desc := "(I)V", sig := { parameters := [.int], returnType := none }, accessFlags := 0, code := some k3c1 }
def k3c2 : Code := { maxStack := 3, maxLocals := 5, code := prog_131_method_8_code, exceptionTable := #[], attributes := #[] }
def k3m2 : Method := { name := "countBelow", desc := "(I)I", sig := { parameters := [.int], returnType := some .int }, accessFlags := 0, code := some k3c2 }
/-- com/example/libchase/libchase/core/store/IntList -/
def k3 : Class := { plain "com/example/libchase/libchase/core/store/IntList" (some 0) with
  accessFlags := 48
  interfaces := #[]
  cf := some (fileOf pool3 8 #[] #[{ accessFlags := 0, nameIndex := 5, descriptorIndex := 6, attributes := #[] }, { accessFlags := 0, nameIndex := 33, descriptorIndex := 34, attributes := #[] }, { accessFlags := 0, nameIndex := 41, descriptorIndex := 39, attributes := #[] }] 48 2 #[] #[{ accessFlags := 24, nameIndex := 26, descriptorIndex := 27, attributes := #[] }, { accessFlags := 2, nameIndex := 11, descriptorIndex := 12, attributes := #[] }, { accessFlags := 2, nameIndex := 21, descriptorIndex := 22, attributes := #[] }])
  fields := #[{ name := "EMPTY", type := (.object "com/example/libchase/libchase/core/store/IntList"), accessFlags := 24, slot := 0, constantValue := 0 }, { name := "values", type := (.array .int), accessFlags := 2, slot := 0, constantValue := 0 }, { name := "size", type := .int, accessFlags := 2, slot := 1, constantValue := 0 }]
  methods := #[k3m0, k3m1, k3m2]
  instanceTypes := #[(.array .int), .int]
  staticTypes := #[(.object "com/example/libchase/libchase/core/store/IntList")]
  resolved := Array.replicate 45 none
  statics := none }

def pool4 : Array CpInfo := pool [(2, .class_ 4), (1, u "java/lang/Object"), (0, u "<init>"), (0, u "()V"), (7, .class_ 16), (1, u "java/util/Arrays"), (57, .class_ 76), (1, u "java/util/Arrays$NaturalOrder"), (36, .class_ 115), (1, u "java/util/Arrays$LegacyMergeSort"), (1, u "Z"), (32, .methodref 151 152), (0, .class_ 153), (0, .nameAndType 154 155), (0, u "java/lang/System"), (0, u "arraycopy"), (0, u "(Ljava/lang/Object;ILjava/lang/Object;II)V"), (146, u "copyOf"), (1, .methodref 305 306), (0, .class_ 307), (0, .nameAndType 308 309), (0, u "java/lang/Math"), (0, u "min"), (0, u "(II)I"), (65, .class_ 376), (0, u "java/util/Arrays$ArrayList"), (68, u "$assertionsDisabled"), (269, u "MIN_ARRAY_SORT_GRAN"), (0, u "I"), (2, u "INSERTIONSORT_THRESHOLD"), (151, u "([II)[I"), (103, .class_ 976), (0, u "java/util/Arrays$ArrayItr")] 52

def k4m0 : Method := { name := "<init>", desc := "()V", sig := { parameters := [], returnType := none }, accessFlags := 2, code := none }
def k4c1 : Code := { maxStack := 6, maxLocals := 3, code := jdk_65_method_123_code, exceptionTable := #[], attributes := #[] }
def k4m1 : Method := { name := "copyOf", desc := "([II)[I", sig := { parameters := [(.array .int), .int], returnType := some (.array .int) }, accessFlags := 9, code := some k4c1 }
/-- java/util/Arrays -/
def k4 : Class := { plain "java/util/Arrays" (some 0) with
  accessFlags := 49
  interfaces := #[]
  cf := some (fileOf pool4 14 #[.nestMembers #[975, 375, 113, 74]] #[{ accessFlags := 2, nameIndex := 5, descriptorIndex := 6, attributes := #[] }, { accessFlags := 9, nameIndex := 302, descriptorIndex := 871, attributes := #[] }] 49 2 #[] #[{ accessFlags := 26, nameIndex := 715, descriptorIndex := 716, attributes := #[] }, { accessFlags := 26, nameIndex := 719, descriptorIndex := 716, attributes := #[] }, { accessFlags := 4120, nameIndex := 445, descriptorIndex := 117, attributes := #[] }])
  fields := #[{ name := "MIN_ARRAY_SORT_GRAN", type := .int, accessFlags := 26, slot := 0, constantValue := 0 }, { name := "INSERTIONSORT_THRESHOLD", type := .int, accessFlags := 26, slot := 1, constantValue := 0 }, { name := "$assertionsDisabled", type := .boolean, accessFlags := 4120, slot := 2, constantValue := 0 }]
  methods := #[k4m0, k4m1]
  instanceTypes := #[]
  staticTypes := #[.int, .int, .boolean]
  resolved := Array.replicate 1029 none
  statics := none }

def pool5 : Array CpInfo := pool [(2, .class_ 4), (1, u "java/lang/Object"), (0, u "<init>"), (0, u "()V"), (1, .class_ 10), (1, u "java/lang/System"), (0, u "allowSecurityManager"), (0, u "I"), (16, u "cons"), (0, u "Ljava/io/Console;"), (77, .class_ 110), (1, u "java/lang/System$CallersHolder"), (43, u "initialErrStream"), (0, u "Ljava/io/PrintStream;"), (19, u "security"), (0, u "Ljava/lang/SecurityManager;"), (31, .class_ 209), (0, u "java/lang/System$1"), (7, u "props"), (0, u "Ljava/util/Properties;"), (2, u "lineSeparator"), (0, u "Ljava/lang/String;"), (96, .class_ 321), (1, u "java/lang/System$LoggerFinder"), (5, .class_ 328), (0, u "java/lang/System$Logger"), (67, u "err"), (2, u "out"), (91, u "notSupportedJnuEncoding"), (15, u "in"), (17, u "initialIn"), (0, u "Ljava/io/InputStream;"), (35, u "bootLayer"), (0, u "Ljava/lang/ModuleLayer;"), (99, .class_ 664), (0, u "java/lang/System$2"), (9, u "NEVER"), (2, u "MAYBE"), (49, u "arraycopy"), (0, u "(Ljava/lang/Object;ILjava/lang/Object;II)V"), (72, .class_ 802), (0, u "java/lang/System$Logger$Level")] 31

def k5m0 : Method := { name := "<init>", desc := "()V", sig := { parameters := [], returnType := none }, accessFlags := 2, code := none }
def k5m1 : Method := { name := "arraycopy", desc := "(Ljava/lang/Object;ILjava/lang/Object;II)V", sig := { parameters := [(.object "java/lang/Object"), .int, (.object "java/lang/Object"), .int, .int], returnType := none }, accessFlags := 265, code := none }
/-- java/lang/System -/
def k5 : Class := { plain "java/lang/System" (some 0) with
  accessFlags := 49
  interfaces := #[]
  cf := some (fileOf pool5 8 #[.nestMembers #[319, 327, 801, 108, 663, 208]] #[{ accessFlags := 2, nameIndex := 5, descriptorIndex := 6, attributes := #[] }, { accessFlags := 265, nameIndex := 727, descriptorIndex := 728, attributes := #[] }] 49 2 #[] #[{ accessFlags := 25, nameIndex := 507, descriptorIndex := 526, attributes := #[] }, { accessFlags := 25, nameIndex := 399, descriptorIndex := 155, attributes := #[] }, { accessFlags := 25, nameIndex := 396, descriptorIndex := 155, attributes := #[] }, { accessFlags := 10, nameIndex := 525, descriptorIndex := 526, attributes := #[] }, { accessFlags := 26, nameIndex := 674, descriptorIndex := 12, attributes := #[] }, { accessFlags := 26, nameIndex := 677, descriptorIndex := 12, attributes := #[] }, { accessFlags := 10, nameIndex := 11, descriptorIndex := 12, attributes := #[] }, { accessFlags := 74, nameIndex := 175, descriptorIndex := 176, attributes := #[] }, { accessFlags := 10, nameIndex := 491, descriptorIndex := 222, attributes := #[] }, { accessFlags := 74, nameIndex := 29, descriptorIndex := 30, attributes := #[] }, { accessFlags := 74, nameIndex := 154, descriptorIndex := 155, attributes := #[] }, { accessFlags := 10, nameIndex := 217, descriptorIndex := 218, attributes := #[] }, { accessFlags := 10, nameIndex := 221, descriptorIndex := 222, attributes := #[] }, { accessFlags := 8, nameIndex := 562, descriptorIndex := 563, attributes := #[] }])
  fields := #[{ name := "in", type := (.object "java/io/InputStream"), accessFlags := 25, slot := 0, constantValue := 0 }, { name := "out", type := (.object "java/io/PrintStream"), accessFlags := 25, slot := 1, constantValue := 0 }, { name := "err", type := (.object "java/io/PrintStream"), accessFlags := 25, slot := 2, constantValue := 0 }, { name := "initialIn", type := (.object "java/io/InputStream"), accessFlags := 10, slot := 3, constantValue := 0 }, { name := "NEVER", type := .int, accessFlags := 26, slot := 4, constantValue := 0 }, { name := "MAYBE", type := .int, accessFlags := 26, slot := 5, constantValue := 0 }, { name := "allowSecurityManager", type := .int, accessFlags := 10, slot := 6, constantValue := 0 }, { name := "security", type := (.object "java/lang/SecurityManager"), accessFlags := 74, slot := 7, constantValue := 0 }, { name := "notSupportedJnuEncoding", type := (.object "java/lang/String"), accessFlags := 10, slot := 8, constantValue := 0 }, { name := "cons", type := (.object "java/io/Console"), accessFlags := 74, slot := 9, constantValue := 0 }, { name := "initialErrStream", type := (.object "java/io/PrintStream"), accessFlags := 74, slot := 10, constantValue := 0 }, { name := "props", type := (.object "java/util/Properties"), accessFlags := 10, slot := 11, constantValue := 0 }, { name := "lineSeparator", type := (.object "java/lang/String"), accessFlags := 10, slot := 12, constantValue := 0 }, { name := "bootLayer", type := (.object "java/lang/ModuleLayer"), accessFlags := 8, slot := 13, constantValue := 0 }]
  methods := #[k5m0, k5m1]
  instanceTypes := #[]
  staticTypes := #[(.object "java/io/InputStream"), (.object "java/io/PrintStream"), (.object "java/io/PrintStream"), (.object "java/io/InputStream"), .int, .int, .int, (.object "java/lang/SecurityManager"), (.object "java/lang/String"), (.object "java/io/Console"), (.object "java/io/PrintStream"), (.object "java/util/Properties"), (.object "java/lang/String"), (.object "java/lang/ModuleLayer")]
  resolved := Array.replicate 834 none
  statics := none }

def pool6 : Array CpInfo := pool [(1, u "java/lang/Cloneable"), (0, .class_ 1), (0, u "java/lang/Object"), (0, .class_ 3)] 3

/-- java/lang/Cloneable -/
def k6 : Class := { plain "java/lang/Cloneable" (some 0) with
  accessFlags := 1537
  interfaces := #[]
  cf := some (fileOf pool6 2 #[] #[] 1537 4 #[] #[])
  fields := #[]
  methods := #[]
  instanceTypes := #[]
  staticTypes := #[]
  resolved := Array.replicate 8 none
  statics := none }

def pool7 : Array CpInfo := pool [(1, u "java/io/Serializable"), (0, .class_ 1), (0, u "java/lang/Object"), (0, .class_ 3)] 3

/-- java/io/Serializable -/
def k7 : Class := { plain "java/io/Serializable" (some 0) with
  accessFlags := 1537
  interfaces := #[]
  cf := some (fileOf pool7 2 #[] #[] 1537 4 #[] #[])
  fields := #[]
  methods := #[]
  instanceTypes := #[]
  staticTypes := #[]
  resolved := Array.replicate 8 none
  statics := none }

/-- the primitive byte -/
def k8 : Class := { plain "byte" none with kind := .primitive 'B', accessFlags := 0x411 }
/-- [B -/
def k9 : Class := { plain "[B" (some 0) with kind := .array 8 .byte, interfaces := #[6, 7], accessFlags := 1041 }

/-- the primitive int -/
def k10 : Class := { plain "int" none with kind := .primitive 'I', accessFlags := 0x411 }
/-- [I -/
def k11 : Class := { plain "[I" (some 0) with kind := .array 10 .int, interfaces := #[6, 7], accessFlags := 1041 }

def heap : Heap := #[]
def classes : Array Class := #[k0, k1, k2, k3, k4, k5, k6, k7, k8, k9, k10, k11]
def interned : List (Array UInt16 × Addr) := []
def slotsUsed : Nat := 0
def theMethod : MethodId := ⟨1, 2⟩
def args0 : Array Value := #[.int 3, .int 1, .int 2, .int 3, .int 4, .int 3]
def aboutOver (below : List Frame) : State where
  vm := { classes := classes, interned := interned.toArray }
  heap := heap
  slotsUsed := slotsUsed
  threads := #[{ frames := .invoking theMethod args0 :: below }]
def below0 : List Frame := [.native { method := ⟨0, 0⟩, args := #[] }]
def about1 : State := aboutOver below0
def p0 : Program := .bare "" "" ""
def e0 : Env := launch0.env 0 0 0
theorem w_frames : about1.frames = Frame.invoking theMethod args0 :: below0 := rfl
set_option maxRecDepth 65536 in
theorem w_args : argsFit about1.vm theMethod args0 = true := by decide +kernel
set_option maxRecDepth 65536 in
theorem w_heap : heapFits about1 = true := by decide +kernel
set_option maxRecDepth 65536 in
theorem w_runnable : about1.curStatus? = some .runnable := by decide +kernel
set_option maxRecDepth 65536 in
theorem w_alone : about1.alone = true := by decide +kernel
set_option maxRecDepth 65536 in
theorem w_named : about1.methodNamed? x = some theMethod := by decide +kernel
set_option maxRecDepth 65536 in
theorem w_hears : about1.hears theMethod below0 = true := by decide +kernel
set_option maxRecDepth 65536 in
theorem w_ripe : about1.ripe theMethod args0 below0 = true := by decide +kernel
theorem w_running : about1.status = .running := rfl
set_option maxRecDepth 65536 in
theorem w_room : about1.hasRoom e0.platform room_1 = true :=
  launch0.hasRoom_least _ room_1 (by decide +kernel) (by decide +kernel) (by decide +kernel) (by decide +kernel) (by decide +kernel) (by decide +kernel)
theorem allAtoms_all (ts : List Jvm.Cond) (a : Array Jvm.Value) (st : Jvm.State) : (allAtoms ts).before a st = ts.all (fun c => c.before a st) := by
  induction ts with
  | nil => rfl
  | cons c t ih =>
    show (Jvm.Cond.and c (allAtoms t)).before a st = _
    rw [Jvm.Cond.before_and, ih, List.all_cons]
def words1 : List Jvm.Cond := Jvm.Cond.code x code maxLocals ret :: tables_1
/-- a 'code' word, met by the world's own term for the bytes: nothing is compared byte by byte -/
theorem code_word {y : MethodName} {bytes : ByteArray} {mx : Nat} {rt : Option FieldType} {a : Array Value} {s : State} {m : MethodId} {meth : Method} {c : Code} (h1 : s.methodNamed? y = some m) (h2 : s.vm.method? m = some meth) (h3 : meth.code = some c) (h4 : c.code = bytes)
    (h5 : (c.maxLocals == mx && c.exceptionTable.isEmpty && decide (c.maxStack ≤ mostOperands) && decide (meth.sig.returnType = rt) && !meth.locks && decide (parseMethodDescriptor y.desc = some meth.sig)) = true) : (Jvm.Cond.code y bytes mx rt).before a s = true := by
  simp only [Bool.and_eq_true, beq_iff_eq, Bool.not_eq_true', decide_eq_true_eq] at h5
  obtain ⟨⟨⟨⟨⟨g1, g2⟩, g3⟩, g4⟩, g5⟩, g6⟩ := h5
  simp [Cond.before, Cond.holds, Cond.value, h1, h2, h3, h4, g1, g2, g3, g4, g5, g6]
def isCode : Jvm.Cond → Bool
  | .code _ _ _ _ => true
  | _ => false
theorem all_split {L : List Jvm.Cond} {P : Jvm.Cond → Bool} (h1 : L.all (fun c => isCode c || P c) = true) (h2 : ∀ c ∈ L.filter isCode, P c = true) : L.all P = true := by
  refine List.all_eq_true.mpr fun c hc => ?_
  have h := List.all_eq_true.mp h1 c hc
  rcases Bool.eq_false_or_eq_true (isCode c) with hi | hi
  · exact h2 c (List.mem_filter.mpr ⟨hc, hi⟩)
  · simpa [hi] using h
set_option maxRecDepth 65536 in
theorem w_c0 : (Jvm.Cond.code x code maxLocals ret).before args0 about1 = true := code_word (m := ⟨1, 2⟩) (meth := k1m2) (c := k1c2) (by decide +kernel) rfl rfl rfl (by decide +kernel)
set_option maxRecDepth 65536 in
theorem w_c1 : (Jvm.Cond.code ({ cls := "java/lang/Math", name := "min", desc := "(II)I" } : Jvm.MethodName) jdk_29_method_69_code (2 : Nat) (Option.some Jvm.ClassFile.FieldType.int)).before args0 about1 = true := code_word (m := ⟨2, 2⟩) (meth := k2m2) (c := k2c2) (by decide +kernel) rfl rfl rfl (by decide +kernel)
set_option maxRecDepth 65536 in
theorem w_c2 : (Jvm.Cond.code ({ cls := "java/lang/Math", name := "max", desc := "(II)I" } : Jvm.MethodName) jdk_29_method_65_code (2 : Nat) (Option.some Jvm.ClassFile.FieldType.int)).before args0 about1 = true := code_word (m := ⟨2, 1⟩) (meth := k2m1) (c := k2c1) (by decide +kernel) rfl rfl rfl (by decide +kernel)
set_option maxRecDepth 65536 in
theorem w_c3 : (Jvm.Cond.code ({ cls := "com/example/libchase/libchase/core/store/IntList", name := "<init>", desc := "()V" } : Jvm.MethodName) prog_131_method_1_code (1 : Nat) (Option.none : Option Jvm.ClassFile.FieldType)).before args0 about1 = true := code_word (m := ⟨3, 0⟩) (meth := k3m0) (c := k3c0) (by decide +kernel) rfl rfl rfl (by decide +kernel)
set_option maxRecDepth 65536 in
theorem w_c4 : (Jvm.Cond.code ({ cls := "java/lang/Object", name := "<init>", desc := "()V" } : Jvm.MethodName) object_method_1_code (1 : Nat) (Option.none : Option Jvm.ClassFile.FieldType)).before args0 about1 = true := code_word (m := ⟨0, 0⟩) (meth := k0m0) (c := k0c0) (by decide +kernel) rfl rfl rfl (by decide +kernel)
set_option maxRecDepth 65536 in
theorem w_c5 : (Jvm.Cond.code ({ cls := "com/example/libchase/libchase/core/store/IntListCountBelowPinLaw", name := "below", desc := "(ZII)I" } : Jvm.MethodName) method_2_code (3 : Nat) (Option.some Jvm.ClassFile.FieldType.int)).before args0 about1 = true := code_word (m := ⟨1, 1⟩) (meth := k1m1) (c := k1c1) (by decide +kernel) rfl rfl rfl (by decide +kernel)
set_option maxRecDepth 65536 in
theorem w_c6 : (Jvm.Cond.code ({ cls := "com/example/libchase/libchase/core/store/IntList", name := "countBelow", desc := "(I)I" } : Jvm.MethodName) prog_131_method_8_code (5 : Nat) (Option.some Jvm.ClassFile.FieldType.int)).before args0 about1 = true := code_word (m := ⟨3, 2⟩) (meth := k3m2) (c := k3c2) (by decide +kernel) rfl rfl rfl (by decide +kernel)
set_option maxRecDepth 65536 in
theorem w_c7 : (Jvm.Cond.code ({ cls := "com/example/libchase/libchase/core/store/IntList", name := "add", desc := "(I)V" } : Jvm.MethodName) prog_131_method_3_code (2 : Nat) (Option.none : Option Jvm.ClassFile.FieldType)).before args0 about1 = true := code_word (m := ⟨3, 1⟩) (meth := k3m1) (c := k3c1) (by decide +kernel) rfl rfl rfl (by decide +kernel)
set_option maxRecDepth 65536 in
theorem w_c8 : (Jvm.Cond.code ({ cls := "java/util/Arrays", name := "copyOf", desc := "([II)[I" } : Jvm.MethodName) jdk_65_method_123_code (3 : Nat) (Option.some (Jvm.ClassFile.FieldType.array Jvm.ClassFile.FieldType.int))).before args0 about1 = true := code_word (m := ⟨4, 1⟩) (meth := k4m1) (c := k4c1) (by decide +kernel) rfl rfl rfl (by decide +kernel)
def codes1 : List Jvm.Cond := [Jvm.Cond.code x code maxLocals ret, Jvm.Cond.code ({ cls := "java/lang/Math", name := "min", desc := "(II)I" } : Jvm.MethodName) jdk_29_method_69_code (2 : Nat) (Option.some Jvm.ClassFile.FieldType.int), Jvm.Cond.code ({ cls := "java/lang/Math", name := "max", desc := "(II)I" } : Jvm.MethodName) jdk_29_method_65_code (2 : Nat) (Option.some Jvm.ClassFile.FieldType.int), Jvm.Cond.code ({ cls := "com/example/libchase/libchase/core/store/IntList", name := "<init>", desc := "()V" } : Jvm.MethodName) prog_131_method_1_code (1 : Nat) (Option.none : Option Jvm.ClassFile.FieldType), Jvm.Cond.code ({ cls := "java/lang/Object", name := "<init>", desc := "()V" } : Jvm.MethodName) object_method_1_code (1 : Nat) (Option.none : Option Jvm.ClassFile.FieldType), Jvm.Cond.code ({ cls := "com/example/libchase/libchase/core/store/IntListCountBelowPinLaw", name := "below", desc := "(ZII)I" } : Jvm.MethodName) method_2_code (3 : Nat) (Option.some Jvm.ClassFile.FieldType.int), Jvm.Cond.code ({ cls := "com/example/libchase/libchase/core/store/IntList", name := "countBelow", desc := "(I)I" } : Jvm.MethodName) prog_131_method_8_code (5 : Nat) (Option.some Jvm.ClassFile.FieldType.int), Jvm.Cond.code ({ cls := "com/example/libchase/libchase/core/store/IntList", name := "add", desc := "(I)V" } : Jvm.MethodName) prog_131_method_3_code (2 : Nat) (Option.none : Option Jvm.ClassFile.FieldType), Jvm.Cond.code ({ cls := "java/util/Arrays", name := "copyOf", desc := "([II)[I" } : Jvm.MethodName) jdk_65_method_123_code (3 : Nat) (Option.some (Jvm.ClassFile.FieldType.array Jvm.ClassFile.FieldType.int))]
set_option maxRecDepth 65536 in
theorem codes_eq : words1.filter isCode = codes1 := rfl
theorem w_codes : ∀ c ∈ words1.filter isCode, c.before args0 about1 = true := by
  rw [codes_eq]
  intro c hc
  simp only [codes1, List.mem_cons, List.not_mem_nil, or_false] at hc
  rcases hc with rfl | rfl | rfl | rfl | rfl | rfl | rfl | rfl | rfl
  · exact w_c0
  · exact w_c1
  · exact w_c2
  · exact w_c3
  · exact w_c4
  · exact w_c5
  · exact w_c6
  · exact w_c7
  · exact w_c8
set_option maxRecDepth 65536 in
theorem w_t1 : (words1.take 24).all (fun c => isCode c || c.before args0 about1) = true := by decide +kernel
set_option maxRecDepth 65536 in
theorem w_t2 : (words1.drop 24).all (fun c => isCode c || c.before args0 about1) = true := by decide +kernel
theorem w_tables : (allAtoms (Jvm.Cond.code x code maxLocals ret :: tables_1)).before args0 about1 = true := by
  rw [allAtoms_all]
  show words1.all (fun c => c.before args0 about1) = true
  refine all_split ?_ w_codes
  rw [← List.take_append_drop 24 words1, List.all_append, w_t1, w_t2]
  rfl
set_option maxRecDepth 65536 in
theorem w_case : (Jvm.Cond.and given_1 narrow_1).before args0 about1 = true := by decide +kernel
theorem w_applies : (headSpec (Jvm.Cond.code x code maxLocals ret :: tables_1) room_1).applies x e0.platform about1 = true :=
  (Spec.applies_iff w_frames).mpr ⟨w_running, w_runnable, w_alone, w_named, w_hears, w_ripe, w_room, w_tables⟩
theorem atStart : AtStart classFile x code maxLocals ret World_1 tables_1 room_1 Calls_1 rest_1 Pre_1 launch0 p0 e0 about1 theMethod args0 below0 :=
  ⟨lists_1, trivial, launch0.admits_env _ _ _, launch0.least_env, fairChoices_fair.cas, fairChoices_fair.clock, w_frames, w_args, w_heap, w_applies, trivial, trivial, w_case⟩
end start1
theorem witness_1 : WitnessClaimed_1 := ⟨start1.p0, start1.e0, start1.about1, start1.theMethod, start1.args0, start1.below0, start1.atStart⟩
end Jvm.Pilot.@@N@@
