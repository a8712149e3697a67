import JvmDerived
import JvmDerived.Pilot.@@N@@Statement
import JvmDerived.Pilot.@@N@@Code
set_option linter.unusedVariables false
set_option linter.unusedSimpArgs false
namespace Jvm.OwnKit
open Sem ClassFile Op Lib Jvm.Stand Jvm.Free Jvm.LawKit Jvm.RoadKit
/-! My own layer: a walk forward. Done G S: from the state S the invocation comes to its end, and G holds there. -/
def Done (p : Program) (e : Env) (below : List Frame) (G : Outcome → State → Prop) (S : State) : Prop :=
  ∃ s₂ o, Steps p.tables e below S s₂ ∧ s₂.status = .running ∧ Ended s₂ below o ∧ G o s₂
/-- what a contract promises at the end: the value, the heap; all that was written lies at or above n0 -/
def OEnd (s : State) (R : Room) (n0 : Nat) (Q : Option Value → Heap → Prop) (o : Outcome) (U : State) : Prop :=
  ∃ v L, o = .returned v ∧ (Q v U.heap ∧ Fr n0 L) ∧ FrameEnd s o U L R.cells R.slots
/-- where the walk stands: a Stand whose writes lie at or above n0, and its heap -/
def St (p : Program) (l : Launch) (e : Env) (R : Room) (s : State) (m : MethodId) (args : Array Value) (below : List Frame) (meth : Method) (c : Code) (n0 : Nat) (T : State) (h : Heap) (k n : Nat) : Prop :=
  ∃ locs, Stand p l e R s m args below meth c T locs k n ∧ Fr n0 locs ∧ T.heap = h
/-- a contract of a body -/
def Con (l : Launch) (Z : State) (y : MethodName) (bytes : ByteArray) (maxL : Nat) (ret : Option FieldType) (rm : Room) (n0 : Nat) (h0 : Heap) (as' : Array Value) (Q : Option Value → Heap → Prop) : Prop :=
  ∀ ws : List Jvm.Cond, MetFree l y (head1 (Jvm.Cond.code y bytes maxL ret :: ws) rm) (fun a U => a = as' ∧ Z.Warmed39 U.vm ∧ U.heap = h0) (fun _ _ _ _ _ => True) (fun _ U o U' => OEnd U rm n0 Q o U')
section Walk
variable {p : Program} {l : Launch} {e : Env} {R : Room} {s : State} {m : MethodId} {args : Array Value} {below : List Frame} {meth : Method} {c : Code} {n0 : Nat} {T : State} {h : Heap} {k n : Nat} {Z : State} {a0 : Array Value}
variable {G : Outcome → State → Prop} {pc pc' : Nat} {Ls Ls' : Array Slot} {st : List Value}
theorem Done.go {S S' : State} (f : ∀ t, Steps p.tables e below S' t → Steps p.tables e below S t) (d : Done p e below G S') : Done p e below G S := by
  obtain ⟨s₂, o, h1, h2⟩ := d
  exact ⟨s₂, o, f _ h1, h2⟩
theorem St.here (S : St p l e R s m args below meth c n0 T h k n) : At T m c below := by
  obtain ⟨_, X, _⟩ := S
  exact X.here
theorem St.heap (S : St p l e R s m args below meth c n0 T h k n) : T.heap = h := by
  obtain ⟨_, _, _, q⟩ := S
  exact q
theorem St.more {k' n' : Nat} (S : St p l e R s m args below meth c n0 T h k n) (hk : k ≤ k') (hn : n ≤ n') : St p l e R s m args below meth c n0 T h k' n' := by
  obtain ⟨L, X, N, q⟩ := S
  exact ⟨L, X.more hk hn, N, q⟩
theorem Con.intro {y : MethodName} {bytes : ByteArray} {maxL : Nat} {ret : Option FieldType} {rm : Room} {h0 : Heap} {as' : Array Value} {Q : Option Value → Heap → Prop}
    (hp : plainFor y = true) (hef : ∀ m, entryFrame m as' maxL = mkF m 0 Ls [])
    (body : ∀ (p : Program) (e : Env) (s : State) (m : MethodId) (below : List Frame) (meth : Method) (c : Code) (s₁ : State), p.tables.exec = Jvm.exec → c.code = bytes → c.maxLocals = maxL → s.vm.findClass y.cls = some m.cls → meth.name = y.name →
      meth.sig.returnType = ret → meth.locks = false → Z.Warmed39 s.vm → St p l e rm s m as' below meth c n0 s₁ h0 0 0 → Done p e below (OEnd s rm n0 Q) (s₁.setTop (mkF m 0 Ls []))) :
    Con l Z y bytes maxL ret rm n0 h0 as' Q := by
  intro ws
  refine MetFree.of_bodySF hp hisR ?_
  intro p e s m args below meth c s₁ Bd hml0 hP hK
  obtain ⟨rfl, hZ, hh⟩ := hP
  have hr := body p e s m below meth c s₁ Bd.exec Bd.bytes hml0 (findClass_of_methodNamed Bd.named) (name_of_methodNamed Bd.named Bd.method).1 Bd.returns Bd.notSynchronized hZ ⟨[], Stand.of_body Bd, Fr.nil n0, by rw [← hh, Bd.state]; rfl⟩
  rw [← hef m] at hr
  exact hr
/-! ### single steps -/
theorem k_iload (A : At T m c below) (hx : p.tables.exec = Jvm.exec) {i : Nat} {v : Int32} (hd : decode c.code pc = .ok (.iload i, 2)) (hl : Ls[i]? = some (.val (.int v))) (hp : pc + 2 = pc')
    (K : Done p e below G (T.setTop (mkF m pc' Ls (.int v :: st)))) : Done p e below G (T.setTop (mkF m pc Ls st)) := by
  subst hp; exact Done.go (fun t q => XS.iload A hx rfl hd hl q) K
theorem k_iloadN (A : At T m c below) (hx : p.tables.exec = Jvm.exec) {i : Fin 4} {v : Int32} (hd : decode c.code pc = .ok (.iload_n i, 1)) (hl : Ls[i.val]? = some (.val (.int v))) (hp : pc + 1 = pc')
    (K : Done p e below G (T.setTop (mkF m pc' Ls (.int v :: st)))) : Done p e below G (T.setTop (mkF m pc Ls st)) := by
  subst hp; exact Done.go (fun t q => XS.iloadN A hx rfl hd hl q) K
theorem k_istore (A : At T m c below) (hx : p.tables.exec = Jvm.exec) {i : Nat} {v : Int32} (hd : decode c.code pc = .ok (.istore i, 2)) (hl : storeLocals Ls i (.int v) = some Ls') (hp : pc + 2 = pc')
    (K : Done p e below G (T.setTop (mkF m pc' Ls' st))) : Done p e below G (T.setTop (mkF m pc Ls (.int v :: st))) := by
  subst hp; exact Done.go (fun t q => XS.istore A hx rfl hd rfl hl q) K
theorem k_istoreN (A : At T m c below) (hx : p.tables.exec = Jvm.exec) {i : Fin 4} {v : Int32} (hd : decode c.code pc = .ok (.istore_n i, 1)) (hl : storeLocals Ls i.val (.int v) = some Ls') (hp : pc + 1 = pc')
    (K : Done p e below G (T.setTop (mkF m pc' Ls' st))) : Done p e below G (T.setTop (mkF m pc Ls (.int v :: st))) := by
  subst hp; exact Done.go (fun t q => XS.istoreN A hx rfl hd rfl hl q) K
theorem k_lload (A : At T m c below) (hx : p.tables.exec = Jvm.exec) {i : Nat} {v : Int64} (hd : decode c.code pc = .ok (.lload i, 2)) (hl : Ls[i]? = some (.val (.long v))) (hp : pc + 2 = pc')
    (K : Done p e below G (T.setTop (mkF m pc' Ls (.long v :: st)))) : Done p e below G (T.setTop (mkF m pc Ls st)) := by
  subst hp; exact Done.go (fun t q => XS.lload A hx rfl hd hl q) K
theorem k_lloadN (A : At T m c below) (hx : p.tables.exec = Jvm.exec) {i : Fin 4} {v : Int64} (hd : decode c.code pc = .ok (.lload_n i, 1)) (hl : Ls[i.val]? = some (.val (.long v))) (hp : pc + 1 = pc')
    (K : Done p e below G (T.setTop (mkF m pc' Ls (.long v :: st)))) : Done p e below G (T.setTop (mkF m pc Ls st)) := by
  subst hp; exact Done.go (fun t q => XS.lloadN A hx rfl hd hl q) K
theorem k_lstore (A : At T m c below) (hx : p.tables.exec = Jvm.exec) {i : Nat} {v : Int64} (hd : decode c.code pc = .ok (.lstore i, 2)) (hl : storeLocals Ls i (.long v) = some Ls') (hp : pc + 2 = pc')
    (K : Done p e below G (T.setTop (mkF m pc' Ls' st))) : Done p e below G (T.setTop (mkF m pc Ls (.long v :: st))) := by
  subst hp; exact Done.go (fun t q => XS.lstore A hx rfl hd rfl hl q) K
theorem k_lstoreN (A : At T m c below) (hx : p.tables.exec = Jvm.exec) {i : Fin 4} {v : Int64} (hd : decode c.code pc = .ok (.lstore_n i, 1)) (hl : storeLocals Ls i.val (.long v) = some Ls') (hp : pc + 1 = pc')
    (K : Done p e below G (T.setTop (mkF m pc' Ls' st))) : Done p e below G (T.setTop (mkF m pc Ls (.long v :: st))) := by
  subst hp; exact Done.go (fun t q => XS.lstoreN A hx rfl hd rfl hl q) K
theorem k_aload (A : At T m c below) (hx : p.tables.exec = Jvm.exec) {i : Nat} {v : Value} (hd : decode c.code pc = .ok (.aload i, 2)) (hl : Ls[i]? = some (.val v)) (hv : v.isRef = true) (hp : pc + 2 = pc')
    (K : Done p e below G (T.setTop (mkF m pc' Ls (v :: st)))) : Done p e below G (T.setTop (mkF m pc Ls st)) := by
  subst hp; exact Done.go (fun t q => XS.aload A hx rfl hd hl hv q) K
theorem k_aloadN (A : At T m c below) (hx : p.tables.exec = Jvm.exec) {i : Fin 4} {v : Value} (hd : decode c.code pc = .ok (.aload_n i, 1)) (hl : Ls[i.val]? = some (.val v)) (hv : v.isRef = true) (hp : pc + 1 = pc')
    (K : Done p e below G (T.setTop (mkF m pc' Ls (v :: st)))) : Done p e below G (T.setTop (mkF m pc Ls st)) := by
  subst hp; exact Done.go (fun t q => XS.aloadN A hx rfl hd hl hv q) K
theorem k_astore (A : At T m c below) (hx : p.tables.exec = Jvm.exec) {i : Nat} {v : Value} (hd : decode c.code pc = .ok (.astore i, 2)) (hv : v.isRef = true) (hl : storeLocals Ls i v = some Ls') (hp : pc + 2 = pc')
    (K : Done p e below G (T.setTop (mkF m pc' Ls' st))) : Done p e below G (T.setTop (mkF m pc Ls (v :: st))) := by
  subst hp; exact Done.go (fun t q => XS.astore A hx rfl hd rfl hv hl q) K
theorem k_astoreN (A : At T m c below) (hx : p.tables.exec = Jvm.exec) {i : Fin 4} {v : Value} (hd : decode c.code pc = .ok (.astore_n i, 1)) (hv : v.isRef = true) (hl : storeLocals Ls i.val v = some Ls') (hp : pc + 1 = pc')
    (K : Done p e below G (T.setTop (mkF m pc' Ls' st))) : Done p e below G (T.setTop (mkF m pc Ls (v :: st))) := by
  subst hp; exact Done.go (fun t q => XS.astoreN A hx rfl hd rfl hv hl q) K
theorem k_iconst (A : At T m c below) (hx : p.tables.exec = Jvm.exec) {i : Int} {v : Int32} (hd : decode c.code pc = .ok (.iconst i, 1)) (hv : Int32.ofInt i = v) (hp : pc + 1 = pc')
    (K : Done p e below G (T.setTop (mkF m pc' Ls (.int v :: st)))) : Done p e below G (T.setTop (mkF m pc Ls st)) := by
  subst hp hv; exact Done.go (fun t q => XS.iconst A hx rfl hd q) K
theorem k_bipush (A : At T m c below) (hx : p.tables.exec = Jvm.exec) {i : Int} {v : Int32} (hd : decode c.code pc = .ok (.bipush i, 2)) (hv : (Int8.ofInt i).toInt32 = v) (hp : pc + 2 = pc')
    (K : Done p e below G (T.setTop (mkF m pc' Ls (.int v :: st)))) : Done p e below G (T.setTop (mkF m pc Ls st)) := by
  subst hp hv; exact Done.go (fun t q => XS.bipush A hx rfl hd q) K
theorem k_sipush (A : At T m c below) (hx : p.tables.exec = Jvm.exec) {i : Int} {v : Int32} (hd : decode c.code pc = .ok (.sipush i, 3)) (hv : (Int16.ofInt i).toInt32 = v) (hp : pc + 3 = pc')
    (K : Done p e below G (T.setTop (mkF m pc' Ls (.int v :: st)))) : Done p e below G (T.setTop (mkF m pc Ls st)) := by
  subst hp hv; exact Done.go (fun t q => XS.sipush A hx rfl hd q) K
theorem k_lconst (A : At T m c below) (hx : p.tables.exec = Jvm.exec) {i : Fin 2} {v : Int64} (hd : decode c.code pc = .ok (.lconst i, 1)) (hv : Int64.ofNat i = v) (hp : pc + 1 = pc')
    (K : Done p e below G (T.setTop (mkF m pc' Ls (.long v :: st)))) : Done p e below G (T.setTop (mkF m pc Ls st)) := by
  subst hp hv; exact Done.go (fun t q => XS.lconst A hx rfl hd q) K
theorem k_aconstNull (A : At T m c below) (hx : p.tables.exec = Jvm.exec)  (hd : decode c.code pc = .ok (.aconst_null, 1)) (hp : pc + 1 = pc')
    (K : Done p e below G (T.setTop (mkF m pc' Ls (.null :: st)))) : Done p e below G (T.setTop (mkF m pc Ls st)) := by
  subst hp; exact Done.go (fun t q => XS.aconstNull A hx rfl hd q) K
theorem k_dup (A : At T m c below) (hx : p.tables.exec = Jvm.exec) {v : Value} (hd : decode c.code pc = .ok (.dup, 1)) (hv : v.category = 1) (hp : pc + 1 = pc')
    (K : Done p e below G (T.setTop (mkF m pc' Ls (v :: v :: st)))) : Done p e below G (T.setTop (mkF m pc Ls (v :: st))) := by
  subst hp; exact Done.go (fun t q => XS.dup A hx rfl hd rfl hv q) K
theorem k_pop (A : At T m c below) (hx : p.tables.exec = Jvm.exec) {v : Value} (hd : decode c.code pc = .ok (.pop, 1)) (hv : v.category = 1) (hp : pc + 1 = pc')
    (K : Done p e below G (T.setTop (mkF m pc' Ls st))) : Done p e below G (T.setTop (mkF m pc Ls (v :: st))) := by
  subst hp; exact Done.go (fun t q => XS.pop A hx rfl hd rfl hv q) K
theorem k_dupX1 (A : At T m c below) (hx : p.tables.exec = Jvm.exec) {v w : Value} (hd : decode c.code pc = .ok (.dup_x1, 1)) (hv : v.category = 1) (hw : w.category = 1) (hp : pc + 1 = pc')
    (K : Done p e below G (T.setTop (mkF m pc' Ls (v :: w :: v :: st)))) : Done p e below G (T.setTop (mkF m pc Ls (v :: w :: st))) := by
  subst hp; exact Done.go (fun t q => XS.dupX1 A hx rfl hd rfl hv hw q) K
theorem k_iadd (A : At T m c below) (hx : p.tables.exec = Jvm.exec) {x y : Int32} (hd : decode c.code pc = .ok (.iadd, 1)) (hp : pc + 1 = pc')
    (K : Done p e below G (T.setTop (mkF m pc' Ls (.int (x + y) :: st)))) : Done p e below G (T.setTop (mkF m pc Ls (.int y :: .int x :: st))) := by
  subst hp; exact Done.go (fun t q => XS.iadd A hx rfl hd rfl q) K
theorem k_isub (A : At T m c below) (hx : p.tables.exec = Jvm.exec) {x y : Int32} (hd : decode c.code pc = .ok (.isub, 1)) (hp : pc + 1 = pc')
    (K : Done p e below G (T.setTop (mkF m pc' Ls (.int (x - y) :: st)))) : Done p e below G (T.setTop (mkF m pc Ls (.int y :: .int x :: st))) := by
  subst hp; exact Done.go (fun t q => XS.isub A hx rfl hd rfl q) K
theorem k_imul (A : At T m c below) (hx : p.tables.exec = Jvm.exec) {x y : Int32} (hd : decode c.code pc = .ok (.imul, 1)) (hp : pc + 1 = pc')
    (K : Done p e below G (T.setTop (mkF m pc' Ls (.int (x * y) :: st)))) : Done p e below G (T.setTop (mkF m pc Ls (.int y :: .int x :: st))) := by
  subst hp; exact Done.go (fun t q => XS.imul A hx rfl hd rfl q) K
theorem k_iand (A : At T m c below) (hx : p.tables.exec = Jvm.exec) {x y : Int32} (hd : decode c.code pc = .ok (.iand, 1)) (hp : pc + 1 = pc')
    (K : Done p e below G (T.setTop (mkF m pc' Ls (.int (x &&& y) :: st)))) : Done p e below G (T.setTop (mkF m pc Ls (.int y :: .int x :: st))) := by
  subst hp; exact Done.go (fun t q => XS.iand A hx rfl hd rfl q) K
theorem k_ior (A : At T m c below) (hx : p.tables.exec = Jvm.exec) {x y : Int32} (hd : decode c.code pc = .ok (.ior, 1)) (hp : pc + 1 = pc')
    (K : Done p e below G (T.setTop (mkF m pc' Ls (.int (x ||| y) :: st)))) : Done p e below G (T.setTop (mkF m pc Ls (.int y :: .int x :: st))) := by
  subst hp; exact Done.go (fun t q => XS.ior A hx rfl hd rfl q) K
theorem k_ixor (A : At T m c below) (hx : p.tables.exec = Jvm.exec) {x y : Int32} (hd : decode c.code pc = .ok (.ixor, 1)) (hp : pc + 1 = pc')
    (K : Done p e below G (T.setTop (mkF m pc' Ls (.int (x ^^^ y) :: st)))) : Done p e below G (T.setTop (mkF m pc Ls (.int y :: .int x :: st))) := by
  subst hp; exact Done.go (fun t q => XS.ixor A hx rfl hd rfl q) K
theorem k_ishl (A : At T m c below) (hx : p.tables.exec = Jvm.exec) {x y : Int32} (hd : decode c.code pc = .ok (.ishl, 1)) (hp : pc + 1 = pc')
    (K : Done p e below G (T.setTop (mkF m pc' Ls (.int (x <<< (y &&& 31)) :: st)))) : Done p e below G (T.setTop (mkF m pc Ls (.int y :: .int x :: st))) := by
  subst hp; exact Done.go (fun t q => XS.ishl A hx rfl hd rfl q) K
theorem k_ishr (A : At T m c below) (hx : p.tables.exec = Jvm.exec) {x y : Int32} (hd : decode c.code pc = .ok (.ishr, 1)) (hp : pc + 1 = pc')
    (K : Done p e below G (T.setTop (mkF m pc' Ls (.int (x >>> (y &&& 31)) :: st)))) : Done p e below G (T.setTop (mkF m pc Ls (.int y :: .int x :: st))) := by
  subst hp; exact Done.go (fun t q => XS.ishr A hx rfl hd rfl q) K
theorem k_iushr (A : At T m c below) (hx : p.tables.exec = Jvm.exec) {x y : Int32} (hd : decode c.code pc = .ok (.iushr, 1)) (hp : pc + 1 = pc')
    (K : Done p e below G (T.setTop (mkF m pc' Ls (.int ((x.toUInt32 >>> (y &&& 31).toUInt32).toInt32) :: st)))) : Done p e below G (T.setTop (mkF m pc Ls (.int y :: .int x :: st))) := by
  subst hp; exact Done.go (fun t q => XS.iushr A hx rfl hd rfl q) K
theorem k_ladd (A : At T m c below) (hx : p.tables.exec = Jvm.exec) {x y : Int64} (hd : decode c.code pc = .ok (.ladd, 1)) (hp : pc + 1 = pc')
    (K : Done p e below G (T.setTop (mkF m pc' Ls (.long (x + y) :: st)))) : Done p e below G (T.setTop (mkF m pc Ls (.long y :: .long x :: st))) := by
  subst hp; exact Done.go (fun t q => XS.ladd A hx rfl hd rfl q) K
theorem k_lsub (A : At T m c below) (hx : p.tables.exec = Jvm.exec) {x y : Int64} (hd : decode c.code pc = .ok (.lsub, 1)) (hp : pc + 1 = pc')
    (K : Done p e below G (T.setTop (mkF m pc' Ls (.long (x - y) :: st)))) : Done p e below G (T.setTop (mkF m pc Ls (.long y :: .long x :: st))) := by
  subst hp; exact Done.go (fun t q => XS.lsub A hx rfl hd rfl q) K
theorem k_lmul (A : At T m c below) (hx : p.tables.exec = Jvm.exec) {x y : Int64} (hd : decode c.code pc = .ok (.lmul, 1)) (hp : pc + 1 = pc')
    (K : Done p e below G (T.setTop (mkF m pc' Ls (.long (x * y) :: st)))) : Done p e below G (T.setTop (mkF m pc Ls (.long y :: .long x :: st))) := by
  subst hp; exact Done.go (fun t q => XS.lmul A hx rfl hd rfl q) K
theorem k_land (A : At T m c below) (hx : p.tables.exec = Jvm.exec) {x y : Int64} (hd : decode c.code pc = .ok (.land, 1)) (hp : pc + 1 = pc')
    (K : Done p e below G (T.setTop (mkF m pc' Ls (.long (x &&& y) :: st)))) : Done p e below G (T.setTop (mkF m pc Ls (.long y :: .long x :: st))) := by
  subst hp; exact Done.go (fun t q => XS.land A hx rfl hd rfl q) K
theorem k_lor (A : At T m c below) (hx : p.tables.exec = Jvm.exec) {x y : Int64} (hd : decode c.code pc = .ok (.lor, 1)) (hp : pc + 1 = pc')
    (K : Done p e below G (T.setTop (mkF m pc' Ls (.long (x ||| y) :: st)))) : Done p e below G (T.setTop (mkF m pc Ls (.long y :: .long x :: st))) := by
  subst hp; exact Done.go (fun t q => XS.lor A hx rfl hd rfl q) K
theorem k_lxor (A : At T m c below) (hx : p.tables.exec = Jvm.exec) {x y : Int64} (hd : decode c.code pc = .ok (.lxor, 1)) (hp : pc + 1 = pc')
    (K : Done p e below G (T.setTop (mkF m pc' Ls (.long (x ^^^ y) :: st)))) : Done p e below G (T.setTop (mkF m pc Ls (.long y :: .long x :: st))) := by
  subst hp; exact Done.go (fun t q => XS.lxor A hx rfl hd rfl q) K
theorem k_lshl (A : At T m c below) (hx : p.tables.exec = Jvm.exec) {x : Int64} {y : Int32} (hd : decode c.code pc = .ok (.lshl, 1)) (hp : pc + 1 = pc')
    (K : Done p e below G (T.setTop (mkF m pc' Ls (.long (x <<< (y &&& 0x3f).toInt64) :: st)))) : Done p e below G (T.setTop (mkF m pc Ls (.int y :: .long x :: st))) := by
  subst hp; exact Done.go (fun t q => XS.lshl A hx rfl hd rfl q) K
theorem k_lshr (A : At T m c below) (hx : p.tables.exec = Jvm.exec) {x : Int64} {y : Int32} (hd : decode c.code pc = .ok (.lshr, 1)) (hp : pc + 1 = pc')
    (K : Done p e below G (T.setTop (mkF m pc' Ls (.long (x >>> (y &&& 0x3f).toInt64) :: st)))) : Done p e below G (T.setTop (mkF m pc Ls (.int y :: .long x :: st))) := by
  subst hp; exact Done.go (fun t q => XS.lshr A hx rfl hd rfl q) K
theorem k_lushr (A : At T m c below) (hx : p.tables.exec = Jvm.exec) {x : Int64} {y : Int32} (hd : decode c.code pc = .ok (.lushr, 1)) (hp : pc + 1 = pc')
    (K : Done p e below G (T.setTop (mkF m pc' Ls (.long ((x.toUInt64 >>> (y &&& 0x3f).toInt64.toUInt64).toInt64) :: st)))) : Done p e below G (T.setTop (mkF m pc Ls (.int y :: .long x :: st))) := by
  subst hp; exact Done.go (fun t q => XS.lushr A hx rfl hd rfl q) K
theorem k_idiv (A : At T m c below) (hx : p.tables.exec = Jvm.exec) {x y : Int32} (hd : decode c.code pc = .ok (.idiv, 1)) (hy : y ≠ 0) (hp : pc + 1 = pc')
    (K : Done p e below G (T.setTop (mkF m pc' Ls (.int (x / y) :: st)))) : Done p e below G (T.setTop (mkF m pc Ls (.int y :: .int x :: st))) := by
  subst hp; exact Done.go (fun t q => XS.idiv A hx rfl hd rfl hy q) K
theorem k_ldiv (A : At T m c below) (hx : p.tables.exec = Jvm.exec) {x y : Int64} (hd : decode c.code pc = .ok (.ldiv, 1)) (hy : y ≠ 0) (hp : pc + 1 = pc')
    (K : Done p e below G (T.setTop (mkF m pc' Ls (.long (x / y) :: st)))) : Done p e below G (T.setTop (mkF m pc Ls (.long y :: .long x :: st))) := by
  subst hp; exact Done.go (fun t q => XS.ldiv A hx rfl hd rfl hy q) K
theorem k_irem (A : At T m c below) (hx : p.tables.exec = Jvm.exec) {x y : Int32} (hd : decode c.code pc = .ok (.irem, 1)) (hy : y ≠ 0) (hp : pc + 1 = pc')
    (K : Done p e below G (T.setTop (mkF m pc' Ls (.int (x % y) :: st)))) : Done p e below G (T.setTop (mkF m pc Ls (.int y :: .int x :: st))) := by
  subst hp; have q0 : x - x / y * y = x % y := irem_eq_mod x y
  rw [← q0] at K
  exact Done.go (fun t q => XS.irem A hx rfl hd rfl hy q) K
theorem k_lrem (A : At T m c below) (hx : p.tables.exec = Jvm.exec) {x y : Int64} (hd : decode c.code pc = .ok (.lrem, 1)) (hy : y ≠ 0) (hp : pc + 1 = pc')
    (K : Done p e below G (T.setTop (mkF m pc' Ls (.long (x % y) :: st)))) : Done p e below G (T.setTop (mkF m pc Ls (.long y :: .long x :: st))) := by
  subst hp
  rw [← lrem_mod x y] at K
  exact Done.go (fun t q => XS.lrem A hx rfl hd rfl hy q) K
theorem k_lcmp (A : At T m c below) (hx : p.tables.exec = Jvm.exec) {x y : Int64} (hd : decode c.code pc = .ok (.lcmp, 1)) (hp : pc + 1 = pc')
    (K : Done p e below G (T.setTop (mkF m pc' Ls (.int (lcmpW x y) :: st)))) : Done p e below G (T.setTop (mkF m pc Ls (.long y :: .long x :: st))) := by
  subst hp; exact Done.go (fun t q => XS.lcmp A hx rfl hd rfl q) K
theorem k_ineg (A : At T m c below) (hx : p.tables.exec = Jvm.exec) {x : Int32} (hd : decode c.code pc = .ok (.ineg, 1)) (hp : pc + 1 = pc')
    (K : Done p e below G (T.setTop (mkF m pc' Ls (.int (-x) :: st)))) : Done p e below G (T.setTop (mkF m pc Ls (.int x :: st))) := by
  subst hp; exact Done.go (fun t q => XS.ineg A hx rfl hd rfl q) K
theorem k_lneg (A : At T m c below) (hx : p.tables.exec = Jvm.exec) {x : Int64} (hd : decode c.code pc = .ok (.lneg, 1)) (hp : pc + 1 = pc')
    (K : Done p e below G (T.setTop (mkF m pc' Ls (.long (-x) :: st)))) : Done p e below G (T.setTop (mkF m pc Ls (.long x :: st))) := by
  subst hp; exact Done.go (fun t q => XS.lneg A hx rfl hd rfl q) K
theorem k_i2l (A : At T m c below) (hx : p.tables.exec = Jvm.exec) {x : Int32} (hd : decode c.code pc = .ok (.i2l, 1)) (hp : pc + 1 = pc')
    (K : Done p e below G (T.setTop (mkF m pc' Ls (.long (x.toInt64) :: st)))) : Done p e below G (T.setTop (mkF m pc Ls (.int x :: st))) := by
  subst hp; exact Done.go (fun t q => XS.i2l A hx rfl hd rfl q) K
theorem k_l2i (A : At T m c below) (hx : p.tables.exec = Jvm.exec) {x : Int64} (hd : decode c.code pc = .ok (.l2i, 1)) (hp : pc + 1 = pc')
    (K : Done p e below G (T.setTop (mkF m pc' Ls (.int (x.toInt32) :: st)))) : Done p e below G (T.setTop (mkF m pc Ls (.long x :: st))) := by
  subst hp; exact Done.go (fun t q => XS.l2i A hx rfl hd rfl q) K
theorem k_i2b (A : At T m c below) (hx : p.tables.exec = Jvm.exec) {x : Int32} (hd : decode c.code pc = .ok (.i2b, 1)) (hp : pc + 1 = pc')
    (K : Done p e below G (T.setTop (mkF m pc' Ls (.int (x.toInt8.toInt32) :: st)))) : Done p e below G (T.setTop (mkF m pc Ls (.int x :: st))) := by
  subst hp; exact Done.go (fun t q => XS.i2b A hx rfl hd rfl q) K
theorem k_i2c (A : At T m c below) (hx : p.tables.exec = Jvm.exec) {x : Int32} (hd : decode c.code pc = .ok (.i2c, 1)) (hp : pc + 1 = pc')
    (K : Done p e below G (T.setTop (mkF m pc' Ls (.int (x.toUInt32.toUInt16.toUInt32.toInt32) :: st)))) : Done p e below G (T.setTop (mkF m pc Ls (.int x :: st))) := by
  subst hp; exact Done.go (fun t q => XS.i2c A hx rfl hd rfl q) K
theorem k_i2s (A : At T m c below) (hx : p.tables.exec = Jvm.exec) {x : Int32} (hd : decode c.code pc = .ok (.i2s, 1)) (hp : pc + 1 = pc')
    (K : Done p e below G (T.setTop (mkF m pc' Ls (.int (x.toInt16.toInt32) :: st)))) : Done p e below G (T.setTop (mkF m pc Ls (.int x :: st))) := by
  subst hp; exact Done.go (fun t q => XS.i2s A hx rfl hd rfl q) K
theorem k_iinc (A : At T m c below) (hx : p.tables.exec = Jvm.exec) {i : Nat} {cst : Int} {v : Int32} (hd : decode c.code pc = .ok (.iinc i cst, 3)) (hl : Ls[i]? = some (.val (.int v))) (hs : storeLocals Ls i (.int (v + Int32.ofInt cst)) = some Ls') (hp : pc + 3 = pc')
    (K : Done p e below G (T.setTop (mkF m pc' Ls' st))) : Done p e below G (T.setTop (mkF m pc Ls st)) := by
  subst hp; exact Done.go (fun t q => XS.iinc A hx rfl hd hl hs q) K
theorem k_goto (A : At T m c below) (hx : p.tables.exec = Jvm.exec) {o : Int} (hd : decode c.code pc = .ok (.goto o, 3)) (hp : (pc : Int) + o = (pc' : Int))
    (K : Done p e below G (T.setTop (mkF m pc' Ls st))) : Done p e below G (T.setTop (mkF m pc Ls st)) :=
  Done.go (fun t q => XS.goto A hx rfl (pc0 := pc) (pc' := pc') rfl hd (by omega) (by omega) q) K
theorem k_ifnullYes (A : At T m c below) (hx : p.tables.exec = Jvm.exec) {o : Int} (hd : decode c.code pc = .ok (.ifnull o, 3)) (hp : (pc : Int) + o = (pc' : Int))
    (K : Done p e below G (T.setTop (mkF m pc' Ls st))) : Done p e below G (T.setTop (mkF m pc Ls (.null :: st))) :=
  Done.go (fun t q => XS.ifnullYes A hx rfl (pc0 := pc) (pc' := pc') rfl hd rfl (by omega) (by omega) q) K
theorem k_ifnonnullYes (A : At T m c below) (hx : p.tables.exec = Jvm.exec) {o : Int} {b : Addr} (hd : decode c.code pc = .ok (.ifnonnull o, 3)) (hp : (pc : Int) + o = (pc' : Int))
    (K : Done p e below G (T.setTop (mkF m pc' Ls st))) : Done p e below G (T.setTop (mkF m pc Ls (.ref b :: st))) :=
  Done.go (fun t q => XS.ifnonnullYes A hx rfl (pc0 := pc) (pc' := pc') rfl hd rfl (by omega) (by omega) q) K
theorem k_ifnullNo (A : At T m c below) (hx : p.tables.exec = Jvm.exec) {o : Int} {b : Addr} (hd : decode c.code pc = .ok (.ifnull o, 3)) (hp : pc + 3 = pc')
    (K : Done p e below G (T.setTop (mkF m pc' Ls st))) : Done p e below G (T.setTop (mkF m pc Ls (.ref b :: st))) := by
  subst hp; exact Done.go (fun t q => XS.ifnullNo A hx rfl hd rfl q) K
theorem k_ifnonnullNo (A : At T m c below) (hx : p.tables.exec = Jvm.exec) {o : Int} (hd : decode c.code pc = .ok (.ifnonnull o, 3)) (hp : pc + 3 = pc')
    (K : Done p e below G (T.setTop (mkF m pc' Ls st))) : Done p e below G (T.setTop (mkF m pc Ls (.null :: st))) := by
  subst hp; exact Done.go (fun t q => XS.ifnonnullNo A hx rfl hd rfl q) K
theorem k_icmp_lt (A : At T m c below) (hx : p.tables.exec = Jvm.exec) {x y : Int32} {o : Int} {pcY : Nat} (hd : decode c.code pc = .ok (.if_icmp .lt o, 3)) (hY : (pc : Int) + o = (pcY : Int)) (hp : pc + 3 = pc')
    (KY : x < y → Done p e below G (T.setTop (mkF m pcY Ls st))) (KN : ¬ x < y → Done p e below G (T.setTop (mkF m pc' Ls st))) : Done p e below G (T.setTop (mkF m pc Ls (.int y :: .int x :: st))) := by
  subst hp
  by_cases hc : x < y
  · exact Done.go (fun t q => XS.icmpYes A hx rfl (pc0 := pc) (pc' := pcY) rfl hd rfl (tlt hc).1 (by omega) (by omega) q) (KY hc)
  · exact Done.go (fun t q => XS.icmpNo A hx rfl hd rfl (flt hc).1 q) (KN hc)
theorem k_if_lt (A : At T m c below) (hx : p.tables.exec = Jvm.exec) {x : Int32} {o : Int} {pcY : Nat} (hd : decode c.code pc = .ok (.ifCond .lt o, 3)) (hY : (pc : Int) + o = (pcY : Int)) (hp : pc + 3 = pc')
    (KY : x < 0 → Done p e below G (T.setTop (mkF m pcY Ls st))) (KN : ¬ x < 0 → Done p e below G (T.setTop (mkF m pc' Ls st))) : Done p e below G (T.setTop (mkF m pc Ls (.int x :: st))) := by
  subst hp
  by_cases hc : x < 0
  · exact Done.go (fun t q => XS.ifYes A hx rfl (pc0 := pc) (pc' := pcY) rfl hd rfl ((if0 _ _).trans (tlt hc).1) (by omega) (by omega) q) (KY hc)
  · exact Done.go (fun t q => XS.ifNo A hx rfl hd rfl ((if0 _ _).trans (flt hc).1) q) (KN hc)
theorem k_icmp_ge (A : At T m c below) (hx : p.tables.exec = Jvm.exec) {x y : Int32} {o : Int} {pcY : Nat} (hd : decode c.code pc = .ok (.if_icmp .ge o, 3)) (hY : (pc : Int) + o = (pcY : Int)) (hp : pc + 3 = pc')
    (KY : ¬ x < y → Done p e below G (T.setTop (mkF m pcY Ls st))) (KN : x < y → Done p e below G (T.setTop (mkF m pc' Ls st))) : Done p e below G (T.setTop (mkF m pc Ls (.int y :: .int x :: st))) := by
  subst hp
  by_cases hc : x < y
  · exact Done.go (fun t q => XS.icmpNo A hx rfl hd rfl (tlt hc).2.1 q) (KN hc)
  · exact Done.go (fun t q => XS.icmpYes A hx rfl (pc0 := pc) (pc' := pcY) rfl hd rfl (flt hc).2.1 (by omega) (by omega) q) (KY hc)
theorem k_if_ge (A : At T m c below) (hx : p.tables.exec = Jvm.exec) {x : Int32} {o : Int} {pcY : Nat} (hd : decode c.code pc = .ok (.ifCond .ge o, 3)) (hY : (pc : Int) + o = (pcY : Int)) (hp : pc + 3 = pc')
    (KY : ¬ x < 0 → Done p e below G (T.setTop (mkF m pcY Ls st))) (KN : x < 0 → Done p e below G (T.setTop (mkF m pc' Ls st))) : Done p e below G (T.setTop (mkF m pc Ls (.int x :: st))) := by
  subst hp
  by_cases hc : x < 0
  · exact Done.go (fun t q => XS.ifNo A hx rfl hd rfl ((if0 _ _).trans (tlt hc).2.1) q) (KN hc)
  · exact Done.go (fun t q => XS.ifYes A hx rfl (pc0 := pc) (pc' := pcY) rfl hd rfl ((if0 _ _).trans (flt hc).2.1) (by omega) (by omega) q) (KY hc)
theorem k_icmp_gt (A : At T m c below) (hx : p.tables.exec = Jvm.exec) {x y : Int32} {o : Int} {pcY : Nat} (hd : decode c.code pc = .ok (.if_icmp .gt o, 3)) (hY : (pc : Int) + o = (pcY : Int)) (hp : pc + 3 = pc')
    (KY : y < x → Done p e below G (T.setTop (mkF m pcY Ls st))) (KN : ¬ y < x → Done p e below G (T.setTop (mkF m pc' Ls st))) : Done p e below G (T.setTop (mkF m pc Ls (.int y :: .int x :: st))) := by
  subst hp
  by_cases hc : y < x
  · exact Done.go (fun t q => XS.icmpYes A hx rfl (pc0 := pc) (pc' := pcY) rfl hd rfl (tlt hc).2.2.1 (by omega) (by omega) q) (KY hc)
  · exact Done.go (fun t q => XS.icmpNo A hx rfl hd rfl (flt hc).2.2.1 q) (KN hc)
theorem k_if_gt (A : At T m c below) (hx : p.tables.exec = Jvm.exec) {x : Int32} {o : Int} {pcY : Nat} (hd : decode c.code pc = .ok (.ifCond .gt o, 3)) (hY : (pc : Int) + o = (pcY : Int)) (hp : pc + 3 = pc')
    (KY : 0 < x → Done p e below G (T.setTop (mkF m pcY Ls st))) (KN : ¬ 0 < x → Done p e below G (T.setTop (mkF m pc' Ls st))) : Done p e below G (T.setTop (mkF m pc Ls (.int x :: st))) := by
  subst hp
  by_cases hc : 0 < x
  · exact Done.go (fun t q => XS.ifYes A hx rfl (pc0 := pc) (pc' := pcY) rfl hd rfl ((if0 _ _).trans (tlt hc).2.2.1) (by omega) (by omega) q) (KY hc)
  · exact Done.go (fun t q => XS.ifNo A hx rfl hd rfl ((if0 _ _).trans (flt hc).2.2.1) q) (KN hc)
theorem k_icmp_le (A : At T m c below) (hx : p.tables.exec = Jvm.exec) {x y : Int32} {o : Int} {pcY : Nat} (hd : decode c.code pc = .ok (.if_icmp .le o, 3)) (hY : (pc : Int) + o = (pcY : Int)) (hp : pc + 3 = pc')
    (KY : ¬ y < x → Done p e below G (T.setTop (mkF m pcY Ls st))) (KN : y < x → Done p e below G (T.setTop (mkF m pc' Ls st))) : Done p e below G (T.setTop (mkF m pc Ls (.int y :: .int x :: st))) := by
  subst hp
  by_cases hc : y < x
  · exact Done.go (fun t q => XS.icmpNo A hx rfl hd rfl (tlt hc).2.2.2 q) (KN hc)
  · exact Done.go (fun t q => XS.icmpYes A hx rfl (pc0 := pc) (pc' := pcY) rfl hd rfl (flt hc).2.2.2 (by omega) (by omega) q) (KY hc)
theorem k_if_le (A : At T m c below) (hx : p.tables.exec = Jvm.exec) {x : Int32} {o : Int} {pcY : Nat} (hd : decode c.code pc = .ok (.ifCond .le o, 3)) (hY : (pc : Int) + o = (pcY : Int)) (hp : pc + 3 = pc')
    (KY : ¬ 0 < x → Done p e below G (T.setTop (mkF m pcY Ls st))) (KN : 0 < x → Done p e below G (T.setTop (mkF m pc' Ls st))) : Done p e below G (T.setTop (mkF m pc Ls (.int x :: st))) := by
  subst hp
  by_cases hc : 0 < x
  · exact Done.go (fun t q => XS.ifNo A hx rfl hd rfl ((if0 _ _).trans (tlt hc).2.2.2) q) (KN hc)
  · exact Done.go (fun t q => XS.ifYes A hx rfl (pc0 := pc) (pc' := pcY) rfl hd rfl ((if0 _ _).trans (flt hc).2.2.2) (by omega) (by omega) q) (KY hc)
theorem k_icmp_eq (A : At T m c below) (hx : p.tables.exec = Jvm.exec) {x y : Int32} {o : Int} {pcY : Nat} (hd : decode c.code pc = .ok (.if_icmp .eq o, 3)) (hY : (pc : Int) + o = (pcY : Int)) (hp : pc + 3 = pc')
    (KY : x = y → Done p e below G (T.setTop (mkF m pcY Ls st))) (KN : ¬ x = y → Done p e below G (T.setTop (mkF m pc' Ls st))) : Done p e below G (T.setTop (mkF m pc Ls (.int y :: .int x :: st))) := by
  subst hp
  by_cases hc : x = y
  · exact Done.go (fun t q => XS.icmpYes A hx rfl (pc0 := pc) (pc' := pcY) rfl hd rfl (teq hc).1 (by omega) (by omega) q) (KY hc)
  · exact Done.go (fun t q => XS.icmpNo A hx rfl hd rfl (feq hc).1 q) (KN hc)
theorem k_if_eq (A : At T m c below) (hx : p.tables.exec = Jvm.exec) {x : Int32} {o : Int} {pcY : Nat} (hd : decode c.code pc = .ok (.ifCond .eq o, 3)) (hY : (pc : Int) + o = (pcY : Int)) (hp : pc + 3 = pc')
    (KY : x = 0 → Done p e below G (T.setTop (mkF m pcY Ls st))) (KN : ¬ x = 0 → Done p e below G (T.setTop (mkF m pc' Ls st))) : Done p e below G (T.setTop (mkF m pc Ls (.int x :: st))) := by
  subst hp
  by_cases hc : x = 0
  · exact Done.go (fun t q => XS.ifYes A hx rfl (pc0 := pc) (pc' := pcY) rfl hd rfl ((if0 _ _).trans (teq hc).1) (by omega) (by omega) q) (KY hc)
  · exact Done.go (fun t q => XS.ifNo A hx rfl hd rfl ((if0 _ _).trans (feq hc).1) q) (KN hc)
theorem k_icmp_ne (A : At T m c below) (hx : p.tables.exec = Jvm.exec) {x y : Int32} {o : Int} {pcY : Nat} (hd : decode c.code pc = .ok (.if_icmp .ne o, 3)) (hY : (pc : Int) + o = (pcY : Int)) (hp : pc + 3 = pc')
    (KY : ¬ x = y → Done p e below G (T.setTop (mkF m pcY Ls st))) (KN : x = y → Done p e below G (T.setTop (mkF m pc' Ls st))) : Done p e below G (T.setTop (mkF m pc Ls (.int y :: .int x :: st))) := by
  subst hp
  by_cases hc : x = y
  · exact Done.go (fun t q => XS.icmpNo A hx rfl hd rfl (teq hc).2 q) (KN hc)
  · exact Done.go (fun t q => XS.icmpYes A hx rfl (pc0 := pc) (pc' := pcY) rfl hd rfl (feq hc).2 (by omega) (by omega) q) (KY hc)
theorem k_if_ne (A : At T m c below) (hx : p.tables.exec = Jvm.exec) {x : Int32} {o : Int} {pcY : Nat} (hd : decode c.code pc = .ok (.ifCond .ne o, 3)) (hY : (pc : Int) + o = (pcY : Int)) (hp : pc + 3 = pc')
    (KY : ¬ x = 0 → Done p e below G (T.setTop (mkF m pcY Ls st))) (KN : x = 0 → Done p e below G (T.setTop (mkF m pc' Ls st))) : Done p e below G (T.setTop (mkF m pc Ls (.int x :: st))) := by
  subst hp
  by_cases hc : x = 0
  · exact Done.go (fun t q => XS.ifNo A hx rfl hd rfl ((if0 _ _).trans (teq hc).2) q) (KN hc)
  · exact Done.go (fun t q => XS.ifYes A hx rfl (pc0 := pc) (pc' := pcY) rfl hd rfl ((if0 _ _).trans (feq hc).2) (by omega) (by omega) q) (KY hc)
theorem k_lcmp_lt (A : At T m c below) (hx : p.tables.exec = Jvm.exec) {x y : Int64} {o : Int} {pcY : Nat} (hd : decode c.code pc = .ok (.lcmp, 1)) (hd2 : decode c.code (pc + 1) = .ok (.ifCond .lt o, 3)) (hY : ((pc + 1 : Nat) : Int) + o = (pcY : Int)) (hp : pc + 1 + 3 = pc')
    (KY : x < y → Done p e below G (T.setTop (mkF m pcY Ls st))) (KN : ¬ x < y → Done p e below G (T.setTop (mkF m pc' Ls st))) : Done p e below G (T.setTop (mkF m pc Ls (.long y :: .long x :: st))) := by
  subst hp
  by_cases hc : x < y
  · exact Done.go (fun t q => XS.lcmp A hx rfl hd rfl (XS.ifYes A hx rfl (pc0 := pc + 1) (pc' := pcY) rfl hd2 rfl ((if0 _ _).trans (tlt ((lw_lt x y).mpr hc)).1) (by omega) (by omega) q)) (KY hc)
  · exact Done.go (fun t q => XS.lcmp A hx rfl hd rfl (XS.ifNo A hx rfl hd2 rfl ((if0 _ _).trans (flt (fun z => hc ((lw_lt x y).mp z))).1) q)) (KN hc)
theorem k_lcmp_ge (A : At T m c below) (hx : p.tables.exec = Jvm.exec) {x y : Int64} {o : Int} {pcY : Nat} (hd : decode c.code pc = .ok (.lcmp, 1)) (hd2 : decode c.code (pc + 1) = .ok (.ifCond .ge o, 3)) (hY : ((pc + 1 : Nat) : Int) + o = (pcY : Int)) (hp : pc + 1 + 3 = pc')
    (KY : ¬ x < y → Done p e below G (T.setTop (mkF m pcY Ls st))) (KN : x < y → Done p e below G (T.setTop (mkF m pc' Ls st))) : Done p e below G (T.setTop (mkF m pc Ls (.long y :: .long x :: st))) := by
  subst hp
  by_cases hc : x < y
  · exact Done.go (fun t q => XS.lcmp A hx rfl hd rfl (XS.ifNo A hx rfl hd2 rfl ((if0 _ _).trans (tlt ((lw_lt x y).mpr hc)).2.1) q)) (KN hc)
  · exact Done.go (fun t q => XS.lcmp A hx rfl hd rfl (XS.ifYes A hx rfl (pc0 := pc + 1) (pc' := pcY) rfl hd2 rfl ((if0 _ _).trans (flt (fun z => hc ((lw_lt x y).mp z))).2.1) (by omega) (by omega) q)) (KY hc)
theorem k_lcmp_gt (A : At T m c below) (hx : p.tables.exec = Jvm.exec) {x y : Int64} {o : Int} {pcY : Nat} (hd : decode c.code pc = .ok (.lcmp, 1)) (hd2 : decode c.code (pc + 1) = .ok (.ifCond .gt o, 3)) (hY : ((pc + 1 : Nat) : Int) + o = (pcY : Int)) (hp : pc + 1 + 3 = pc')
    (KY : y < x → Done p e below G (T.setTop (mkF m pcY Ls st))) (KN : ¬ y < x → Done p e below G (T.setTop (mkF m pc' Ls st))) : Done p e below G (T.setTop (mkF m pc Ls (.long y :: .long x :: st))) := by
  subst hp
  by_cases hc : y < x
  · exact Done.go (fun t q => XS.lcmp A hx rfl hd rfl (XS.ifYes A hx rfl (pc0 := pc + 1) (pc' := pcY) rfl hd2 rfl ((if0 _ _).trans (tlt ((lw_gt x y).mpr hc)).2.2.1) (by omega) (by omega) q)) (KY hc)
  · exact Done.go (fun t q => XS.lcmp A hx rfl hd rfl (XS.ifNo A hx rfl hd2 rfl ((if0 _ _).trans (flt (fun z => hc ((lw_gt x y).mp z))).2.2.1) q)) (KN hc)
theorem k_lcmp_le (A : At T m c below) (hx : p.tables.exec = Jvm.exec) {x y : Int64} {o : Int} {pcY : Nat} (hd : decode c.code pc = .ok (.lcmp, 1)) (hd2 : decode c.code (pc + 1) = .ok (.ifCond .le o, 3)) (hY : ((pc + 1 : Nat) : Int) + o = (pcY : Int)) (hp : pc + 1 + 3 = pc')
    (KY : ¬ y < x → Done p e below G (T.setTop (mkF m pcY Ls st))) (KN : y < x → Done p e below G (T.setTop (mkF m pc' Ls st))) : Done p e below G (T.setTop (mkF m pc Ls (.long y :: .long x :: st))) := by
  subst hp
  by_cases hc : y < x
  · exact Done.go (fun t q => XS.lcmp A hx rfl hd rfl (XS.ifNo A hx rfl hd2 rfl ((if0 _ _).trans (tlt ((lw_gt x y).mpr hc)).2.2.2) q)) (KN hc)
  · exact Done.go (fun t q => XS.lcmp A hx rfl hd rfl (XS.ifYes A hx rfl (pc0 := pc + 1) (pc' := pcY) rfl hd2 rfl ((if0 _ _).trans (flt (fun z => hc ((lw_gt x y).mp z))).2.2.2) (by omega) (by omega) q)) (KY hc)
theorem k_lcmp_eq (A : At T m c below) (hx : p.tables.exec = Jvm.exec) {x y : Int64} {o : Int} {pcY : Nat} (hd : decode c.code pc = .ok (.lcmp, 1)) (hd2 : decode c.code (pc + 1) = .ok (.ifCond .eq o, 3)) (hY : ((pc + 1 : Nat) : Int) + o = (pcY : Int)) (hp : pc + 1 + 3 = pc')
    (KY : x = y → Done p e below G (T.setTop (mkF m pcY Ls st))) (KN : ¬ x = y → Done p e below G (T.setTop (mkF m pc' Ls st))) : Done p e below G (T.setTop (mkF m pc Ls (.long y :: .long x :: st))) := by
  subst hp
  by_cases hc : x = y
  · exact Done.go (fun t q => XS.lcmp A hx rfl hd rfl (XS.ifYes A hx rfl (pc0 := pc + 1) (pc' := pcY) rfl hd2 rfl ((if0 _ _).trans (teq ((lw_eq x y).mpr hc)).1) (by omega) (by omega) q)) (KY hc)
  · exact Done.go (fun t q => XS.lcmp A hx rfl hd rfl (XS.ifNo A hx rfl hd2 rfl ((if0 _ _).trans (feq (fun z => hc ((lw_eq x y).mp z))).1) q)) (KN hc)
theorem k_lcmp_ne (A : At T m c below) (hx : p.tables.exec = Jvm.exec) {x y : Int64} {o : Int} {pcY : Nat} (hd : decode c.code pc = .ok (.lcmp, 1)) (hd2 : decode c.code (pc + 1) = .ok (.ifCond .ne o, 3)) (hY : ((pc + 1 : Nat) : Int) + o = (pcY : Int)) (hp : pc + 1 + 3 = pc')
    (KY : ¬ x = y → Done p e below G (T.setTop (mkF m pcY Ls st))) (KN : x = y → Done p e below G (T.setTop (mkF m pc' Ls st))) : Done p e below G (T.setTop (mkF m pc Ls (.long y :: .long x :: st))) := by
  subst hp
  by_cases hc : x = y
  · exact Done.go (fun t q => XS.lcmp A hx rfl hd rfl (XS.ifNo A hx rfl hd2 rfl ((if0 _ _).trans (teq ((lw_eq x y).mpr hc)).2) q)) (KN hc)
  · exact Done.go (fun t q => XS.lcmp A hx rfl hd rfl (XS.ifYes A hx rfl (pc0 := pc + 1) (pc' := pcY) rfl hd2 rfl ((if0 _ _).trans (feq (fun z => hc ((lw_eq x y).mp z))).2) (by omega) (by omega) q)) (KY hc)
/-! ### a store into a slot of which only its one word is known -/
theorem store_eq (L : Array Slot) (i : Nat) (v : Value) : storeLocals L i v = (L[i]?).bind fun o => match o with
    | .second => (setAt L (i - 1) .unset).bind fun l => storeSelf l i v
    | .val old => if old.category = 2 then ((setAt L (i + 1) .unset).bind fun l => storeSelf l i v) else storeSelf L i v
    | .unset => storeSelf L i v := rfl
theorem store1 {L L' : Array Slot} {i : Nat} {o : Slot} {v : Value} (h : L[i]? = some o) (H : One o) (hs : storeSelf L i v = some L') : storeLocals L i v = some L' := by
  rw [store_eq, h]
  rcases H with rfl | ⟨w, rfl, q⟩
  · exact hs
  · show (if w.category = 2 then _ else storeSelf L i v) = _
    rw [if_neg (by omega)]; exact hs
/-! ### constants of the pool -/
theorem k_ldcInt (S : St p l e R s m args below meth c n0 T h k n) (hx : p.tables.exec = Jvm.exec) (hZ : Z.Warmed39 s.vm) {own : String} {index : Nat} {v : Int32} (hown : s.vm.findClass own = some m.cls) (w : (Jvm.Cond.constant own index v).before a0 Z = true)
    (hd : decode c.code pc = .ok (.ldc index, 2)) (hp : pc + 2 = pc') (K : Done p e below G (T.setTop (mkF m pc' Ls (.int v :: st)))) : Done p e below G (T.setTop (mkF m pc Ls st)) := by
  subst hp
  obtain ⟨_, X, -, -⟩ := S
  exact Done.go (X.ldcInt hx hown (mvT hZ w) (g := mkF m pc Ls st) rfl hd) K
theorem k_ldcwInt (S : St p l e R s m args below meth c n0 T h k n) (hx : p.tables.exec = Jvm.exec) (hZ : Z.Warmed39 s.vm) {own : String} {index : Nat} {v : Int32} (hown : s.vm.findClass own = some m.cls) (w : (Jvm.Cond.constant own index v).before a0 Z = true)
    (hd : decode c.code pc = .ok (.ldc_w index, 3)) (hp : pc + 3 = pc') (K : Done p e below G (T.setTop (mkF m pc' Ls (.int v :: st)))) : Done p e below G (T.setTop (mkF m pc Ls st)) := by
  subst hp
  obtain ⟨_, X, -, -⟩ := S
  exact Done.go (X.ldcwInt hx hown (mvT hZ w) (g := mkF m pc Ls st) rfl hd) K
theorem k_ldc2Long (S : St p l e R s m args below meth c n0 T h k n) (hx : p.tables.exec = Jvm.exec) (hZ : Z.Warmed39 s.vm) {own : String} {index : Nat} {v : Int64} (hown : s.vm.findClass own = some m.cls) (w : (Jvm.Cond.constantLong own index v).before a0 Z = true)
    (hd : decode c.code pc = .ok (.ldc2_w index, 3)) (hp : pc + 3 = pc') (K : Done p e below G (T.setTop (mkF m pc' Ls (.long v :: st)))) : Done p e below G (T.setTop (mkF m pc Ls st)) := by
  subst hp
  obtain ⟨_, X, -, -⟩ := S
  exact Done.go (X.ldc2Long hx hown (mvT hZ w) (g := mkF m pc Ls st) rfl hd) K
/-! ### returns -/
variable {Q : Option Value → Heap → Prop}
theorem k_ret_val {w : Value} {t : FieldType} {i : Instr} (S : St p l e R s m args below meth c n0 T h k n) (hx : p.tables.exec = Jvm.exec) (hret : meth.sig.returnType = some t) (hlk : meth.locks = false) (hd : decode c.code pc = .ok (i, 1)) (hn' : narrow t w = w)
    (hi : (i = .ireturn ∧ (t = .int ∨ t = .boolean ∨ t = .byte ∨ t = .char ∨ t = .short) ∧ ∃ z, w = .int z) ∨ (i = .lreturn ∧ t = .long ∧ ∃ z, w = .long z) ∨ (i = .dreturn ∧ t = .double ∧ ∃ z, w = .double z) ∨ (i = .freturn ∧ t = .float ∧ ∃ z, w = .float z) ∨ (i = .areturn ∧ t.isReference = true ∧ w.isRef = true))
    (hk : k ≤ R.cells) (hn : n ≤ R.slots) (q : Q (some w) h) : Done p e below (OEnd s R n0 Q) (T.setTop (mkF m pc Ls (w :: st))) := by
  obtain ⟨locs, X, N, eT⟩ := S
  obtain ⟨fs, hr, hrun, hended, hW, hsame⟩ := X.leave (v := some w) (fun h => by rw [hret] at h; cases h) hlk
  refine ⟨_, _, retOut X hx hret hn' hi hd hr, hrun, hended, _, locs, rfl, ⟨?_, N⟩, ⟨_, rfl⟩, hW, hsame.mono hk hn⟩
  show Q _ T.heap
  rw [eT]; exact q
theorem k_ret_int {z : Int32} (S : St p l e R s m args below meth c n0 T h k n) (hx : p.tables.exec = Jvm.exec) (hret : meth.sig.returnType = some .int) (hlk : meth.locks = false) (hd : decode c.code pc = .ok (.ireturn, 1))
    (hk : k ≤ R.cells) (hn : n ≤ R.slots) (q : Q (some (.int z)) h) : Done p e below (OEnd s R n0 Q) (T.setTop (mkF m pc Ls (.int z :: st))) :=
  k_ret_val S hx hret hlk hd rfl (Or.inl ⟨rfl, Or.inl rfl, z, rfl⟩) hk hn q
theorem k_ret_long {z : Int64} (S : St p l e R s m args below meth c n0 T h k n) (hx : p.tables.exec = Jvm.exec) (hret : meth.sig.returnType = some .long) (hlk : meth.locks = false) (hd : decode c.code pc = .ok (.lreturn, 1))
    (hk : k ≤ R.cells) (hn : n ≤ R.slots) (q : Q (some (.long z)) h) : Done p e below (OEnd s R n0 Q) (T.setTop (mkF m pc Ls (.long z :: st))) :=
  k_ret_val S hx hret hlk hd rfl (Or.inr (Or.inl ⟨rfl, rfl, z, rfl⟩)) hk hn q
theorem k_ret_ref {a : Addr} {t : FieldType} (S : St p l e R s m args below meth c n0 T h k n) (hx : p.tables.exec = Jvm.exec) (hret : meth.sig.returnType = some t) (ht : t.isReference = true) (hlk : meth.locks = false) (hd : decode c.code pc = .ok (.areturn, 1))
    (hk : k ≤ R.cells) (hn : n ≤ R.slots) (q : Q (some (.ref a)) h) : Done p e below (OEnd s R n0 Q) (T.setTop (mkF m pc Ls (.ref a :: st))) :=
  k_ret_val S hx hret hlk hd (by cases t <;> first | rfl | (cases ht; done)) (Or.inr (Or.inr (Or.inr (Or.inr ⟨rfl, ht, rfl⟩)))) hk hn q
theorem k_ret_nar {z z' : Int32} {t : FieldType} (S : St p l e R s m args below meth c n0 T h k n) (hx : p.tables.exec = Jvm.exec) (hret : meth.sig.returnType = some t) (ht : t = .boolean ∨ t = .byte ∨ t = .char ∨ t = .short) (hlk : meth.locks = false) (hd : decode c.code pc = .ok (.ireturn, 1)) (hz : nar t z = z')
    (hk : k ≤ R.cells) (hn : n ≤ R.slots) (q : Q (some (.int z')) h) : Done p e below (OEnd s R n0 Q) (T.setTop (mkF m pc Ls (.int z :: st))) := by
  obtain ⟨locs, X, N, eT⟩ := S
  subst hz
  obtain ⟨fs, hr, hrun, hended, hW, hsame⟩ := X.leave (v := some (.int (nar t z))) (fun h => by rw [hret] at h; cases h) hlk
  refine ⟨_, _, retN X hx hret ht hd hr, hrun, hended, _, locs, rfl, ⟨?_, N⟩, ⟨_, rfl⟩, hW, hsame.mono hk hn⟩
  show Q _ T.heap
  rw [eT]; exact q
theorem k_ret_void (S : St p l e R s m args below meth c n0 T h k n) (hx : p.tables.exec = Jvm.exec) (hret : meth.sig.returnType = none) (hlk : meth.locks = false) (hd : decode c.code pc = .ok (.return_, 1))
    (hk : k ≤ R.cells) (hn : n ≤ R.slots) (q : Q none h) : Done p e below (OEnd s R n0 Q) (T.setTop (mkF m pc Ls [])) := by
  obtain ⟨locs, X, N, eT⟩ := S
  obtain ⟨fs, hr, hrun, hended, hW, hsame⟩ := X.leave (v := none) (fun _ => rfl) hlk
  refine ⟨_, _, X.returnOut hx hret hd hr, hrun, hended, _, locs, rfl, ⟨?_, N⟩, ⟨_, rfl⟩, hW, hsame.mono hk hn⟩
  show Q _ T.heap
  rw [eT]; exact q
/-! ### calls by a contract -/
theorem k_call_static (S : St p l e R s m args below meth c n0 T h k n) (hx : p.tables.exec = Jvm.exec) (hZ : Z.Warmed39 s.vm) {own : String} {index : Nat} {y : MethodName} {bytes : ByteArray} {maxL : Nat} {ret : Option FieldType} (hown : s.vm.findClass own = some m.cls)
    (w1 : (Jvm.Cond.methodLink own index y).before a0 Z = true) (w2 : (Jvm.Cond.static y).before a0 Z = true) (w3 : (Jvm.Cond.initialized y.cls).before a0 Z = true) (w4 : (Jvm.Cond.code y bytes maxL ret).before a0 Z = true)
    (hy : y.cls ≠ "java/lang/invoke/MethodHandle" ∧ y.cls ≠ "java/lang/invoke/VarHandle") {rm : Room} {as' : Array Value} (C : Con l Z y bytes maxL ret rm n0 h as' Q) (W : Nat) {argsL rest : List Value}
    (hf : rm.frames + 1 ≤ R.frames) (hl : W + (maxL + 11) + rm.locals ≤ R.locals) (hml : Ls.size = c.maxLocals) (hlen : ∀ sig, parseMethodDescriptor y.desc = some sig → argsL.length = sig.parameters.length) (has : argsL.toArray = as')
    (hst : st = argsL.reverse ++ rest) (hW : (rest.map fun v => v.category).sum ≤ W) (hd : decode c.code pc = .ok (.invokestatic index, 3)) (hp : pc + 3 = pc') (hk : k + rm.cells ≤ R.cells) (hn : n + rm.slots ≤ R.slots)
    (K : ∀ v T' h', Q v h' → St p l e R s m args below meth c n0 T' h' (k + rm.cells) (n + rm.slots) → Done p e below G (T'.setTop (mkF m pc' Ls (v.toList ++ rest)))) :
    Done p e below G (T.setTop (mkF m pc Ls st)) := by
  subst hp
  obtain ⟨locs, X, N, eT⟩ := S
  obtain ⟨v, vm₁, ⟨T', L', k', n'⟩, -, X', ⟨L, ⟨hQ, NL⟩, e1, e2, e3⟩, step⟩ := Jvm.LawKit.callS X hx (y := y) hown (mvT hZ w1) (mvT hZ w2) (mvT hZ w3) (mvT hZ w4) hy
    (backOf (W := W) (Q := fun v h L => Q v h ∧ Fr n0 L) (C []) hZ w4 w3 hf hl) (g := mkF m pc Ls st) rfl hml (argsL := argsL) (rest := rest) hlen hst (by show 2 * 0 + _ ≤ _; omega) hd
    (fun _ _ => ⟨has, eT, hk, hn⟩)
  dsimp only [Pt.U, Pt.locs, Pt.cells, Pt.slots] at X' hQ e1 e2 e3 step
  subst e1 e2 e3
  exact Done.go step (K v T' T'.heap hQ ⟨_, X', Fr.app N NL, rfl⟩)
theorem k_call_init (S : St p l e R s m args below meth c n0 T h k n) (hx : p.tables.exec = Jvm.exec) (hZ : Z.Warmed39 s.vm) {own : String} {index : Nat} {y : MethodName} {bytes : ByteArray} {maxL : Nat} (hown : s.vm.findClass own = some m.cls) (hy1 : y.name = "<init>")
    (w1 : (Jvm.Cond.methodLink own index y).before a0 Z = true) (w2 : (Jvm.Cond.instanceMethod y).before a0 Z = true) (w3 : (Jvm.Cond.initialized y.cls).before a0 Z = true) (w4 : (Jvm.Cond.code y bytes maxL none).before a0 Z = true)
    (hy : y.cls ≠ "java/lang/invoke/MethodHandle" ∧ y.cls ≠ "java/lang/invoke/VarHandle") {rm : Room} {as' : Array Value} (C : Con l Z y bytes maxL none rm n0 h as' Q) (W : Nat) {a : Addr} {argsL rest : List Value}
    (hf : rm.frames + 1 ≤ R.frames) (hl : W + (maxL + 11) + rm.locals ≤ R.locals) (hml : Ls.size = c.maxLocals) (hlen : ∀ sig, parseMethodDescriptor y.desc = some sig → argsL.length = sig.parameters.length) (has : (.ref a :: argsL).toArray = as')
    (hst : st = argsL.reverse ++ .ref a :: rest) (hW : (rest.map fun v => v.category).sum ≤ W) (hd : decode c.code pc = .ok (.invokespecial index, 3)) (hp : pc + 3 = pc') (hk : k + rm.cells ≤ R.cells) (hn : n + rm.slots ≤ R.slots)
    (K : ∀ v T' h', Q v h' → St p l e R s m args below meth c n0 T' h' (k + rm.cells) (n + rm.slots) → Done p e below G (T'.setTop (mkF m pc' Ls (v.toList ++ rest)))) :
    Done p e below G (T.setTop (mkF m pc Ls st)) := by
  subst hp
  obtain ⟨locs, X, N, eT⟩ := S
  obtain ⟨v, vm₁, ⟨T', L', k', n'⟩, -, X', ⟨L, ⟨hQ, NL⟩, e1, e2, e3⟩, step⟩ := X.specialBack hx (y := y) hy1 hown (mvT hZ w1) (mvT hZ w2) (mvT hZ w4) hy
    (backOf (W := W) (Q := fun v h L => Q v h ∧ Fr n0 L) (C []) hZ w4 w3 hf hl) (g := mkF m pc Ls st) rfl hml (Steps.refl _) (a := a) (argsL := argsL) (rest := rest) hlen hst (by show 2 * 0 + _ ≤ _; omega) hd
    (fun _ _ => ⟨has, eT, hk, hn⟩)
  dsimp only [Pt.U, Pt.locs, Pt.cells, Pt.slots] at X' hQ e1 e2 e3 step
  subst e1 e2 e3
  exact Done.go (fun t q => step.trans q) (K v T' T'.heap hQ ⟨_, X', Fr.app N NL, rfl⟩)
theorem k_call_virtual (S : St p l e R s m args below meth c n0 T h k n) (hx : p.tables.exec = Jvm.exec) (hZ : Z.Warmed39 s.vm) {own : String} {index : Nat} {y : MethodName} {bytes : ByteArray} {maxL : Nat} {ret : Option FieldType} (hown : s.vm.findClass own = some m.cls) {a : Addr} (E : Exa Z h a y.cls)
    (w1 : (Jvm.Cond.methodLink own index y).before a0 Z = true) (w2 : (Jvm.Cond.declares y).before a0 Z = true) (w5 : (Jvm.Cond.selects y.cls y y).before a0 Z = true) (w6 : (Jvm.Cond.instanceMethod y).before a0 Z = true) (w3 : (Jvm.Cond.initialized y.cls).before a0 Z = true) (w4 : (Jvm.Cond.code y bytes maxL ret).before a0 Z = true)
    (hy : y.cls ≠ "java/lang/invoke/MethodHandle" ∧ y.cls ≠ "java/lang/invoke/VarHandle") {rm : Room} {as' : Array Value} (C : Con l Z y bytes maxL ret rm n0 h as' Q) (W : Nat) {argsL rest : List Value}
    (hf : rm.frames + 1 ≤ R.frames) (hl : W + (maxL + 11) + rm.locals ≤ R.locals) (hml : Ls.size = c.maxLocals) (hlen : ∀ sig, parseMethodDescriptor y.desc = some sig → argsL.length = sig.parameters.length) (has : (.ref a :: argsL).toArray = as')
    (hst : st = argsL.reverse ++ .ref a :: rest) (hW : (rest.map fun v => v.category).sum ≤ W) (hd : decode c.code pc = .ok (.invokevirtual index, 3)) (hp : pc + 3 = pc') (hk : k + rm.cells ≤ R.cells) (hn : n + rm.slots ≤ R.slots)
    (K : ∀ v T' h', Q v h' → St p l e R s m args below meth c n0 T' h' (k + rm.cells) (n + rm.slots) → Done p e below G (T'.setTop (mkF m pc' Ls (v.toList ++ rest)))) :
    Done p e below G (T.setTop (mkF m pc Ls st)) := by
  subst hp
  obtain ⟨locs, X, N, eT⟩ := S
  obtain ⟨cq, kq, qa, qb, qc⟩ := isOf hZ eT E
  obtain ⟨v, vm₁, ⟨T', L', k', n'⟩, -, X', ⟨L, ⟨hQ, NL⟩, e1, e2, e3⟩, step⟩ := X.virtualBack hx (y := y) (z := y) hown (mvT hZ w1) (mvT hZ w2) (notFace_of_selects (args := #[]) (mvT hZ w5)) (mvT hZ w5) (mvT hZ w6) hy
    (backOf (W := W) (Q := fun v h L => Q v h ∧ Fr n0 L) (C []) hZ w4 w3 hf hl) qa qc (g := mkF m pc Ls st) rfl hml (Steps.refl _) (argsL := argsL) (rest := rest) hlen hst (by show 2 * 0 + _ ≤ _; omega) hd
    (fun _ _ => ⟨has, eT, hk, hn⟩)
  dsimp only [Pt.U, Pt.locs, Pt.cells, Pt.slots] at X' hQ e1 e2 e3 step
  subst e1 e2 e3
  exact Done.go (fun t q => step.trans q) (K v T' T'.heap hQ ⟨_, X', Fr.app N NL, rfl⟩)
theorem k_call_private (S : St p l e R s m args below meth c n0 T h k n) (hx : p.tables.exec = Jvm.exec) (hZ : Z.Warmed39 s.vm) {own : String} {index : Nat} {y : MethodName} {bytes : ByteArray} {maxL : Nat} {ret : Option FieldType} (hown : s.vm.findClass own = some m.cls) {a : Addr} (E : Exa Z h a y.cls)
    (w1 : (Jvm.Cond.methodLink own index y).before a0 Z = true) (w6 : (Jvm.Cond.instanceMethod y).before a0 Z = true) (w5 : (Jvm.Cond.selects y.cls y y).before a0 Z = true) (w7 : (Jvm.Cond.privateMethod y).before a0 Z = true) (w3 : (Jvm.Cond.initialized y.cls).before a0 Z = true) (w4 : (Jvm.Cond.code y bytes maxL ret).before a0 Z = true)
    (hy : y.cls ≠ "java/lang/invoke/MethodHandle" ∧ y.cls ≠ "java/lang/invoke/VarHandle") {rm : Room} {as' : Array Value} (C : Con l Z y bytes maxL ret rm n0 h as' Q) (W : Nat) {argsL rest : List Value}
    (hf : rm.frames + 1 ≤ R.frames) (hl : W + (maxL + 11) + rm.locals ≤ R.locals) (hml : Ls.size = c.maxLocals) (hlen : ∀ sig, parseMethodDescriptor y.desc = some sig → argsL.length = sig.parameters.length) (has : (.ref a :: argsL).toArray = as')
    (hst : st = argsL.reverse ++ .ref a :: rest) (hW : (rest.map fun v => v.category).sum ≤ W) (hd : decode c.code pc = .ok (.invokevirtual index, 3)) (hp : pc + 3 = pc') (hk : k + rm.cells ≤ R.cells) (hn : n + rm.slots ≤ R.slots)
    (K : ∀ v T' h', Q v h' → St p l e R s m args below meth c n0 T' h' (k + rm.cells) (n + rm.slots) → Done p e below G (T'.setTop (mkF m pc' Ls (v.toList ++ rest)))) :
    Done p e below G (T.setTop (mkF m pc Ls st)) := by
  subst hp
  obtain ⟨locs, X, N, eT⟩ := S
  obtain ⟨cq, q1, q2⟩ := E.cell
  obtain ⟨v, vm₁, ⟨T', L', k', n'⟩, -, X', ⟨L, ⟨hQ, NL⟩, e1, e2, e3⟩, step⟩ := X.privateBack hx (y := y) hown (mvT hZ w1) (mvT hZ w6) (mvT hZ w5) (Cond.privateMethod_at (mvP hZ w7 (args := #[]))) (mvT hZ w4) hy
    (backOf (W := W) (Q := fun v h L => Q v h ∧ Fr n0 L) (C []) hZ w4 w3 hf hl) (g := mkF m pc Ls st) rfl hml (Steps.refl _) (a := a) (by rw [eT]; exact q1) q2 (argsL := argsL) (rest := rest) hlen hst (by show 2 * 0 + _ ≤ _; omega) hd
    (fun _ _ => ⟨has, eT, hk, hn⟩)
  dsimp only [Pt.U, Pt.locs, Pt.cells, Pt.slots] at X' hQ e1 e2 e3 step
  subst e1 e2 e3
  exact Done.go (fun t q => step.trans q) (K v T' T'.heap hQ ⟨_, X', Fr.app N NL, rfl⟩)
/-- any one step of the library's that leaves the heap and the room as they are -/
theorem k_via {f f' : JFrame} (S : St p l e R s m args below meth c n0 T h k n) (I : ∀ locs, Stand p l e R s m args below meth c T locs k n → T.heap = h → ∃ T', Stand p l e R s m args below meth c T' locs k n ∧ T'.heap = h ∧ ∀ target, Steps p.tables e below (T'.setTop f') target → Steps p.tables e below (T.setTop f) target)
    (K : ∀ T', St p l e R s m args below meth c n0 T' h k n → Done p e below G (T'.setTop f')) : Done p e below G (T.setTop f) := by
  obtain ⟨locs, X, N, eT⟩ := S
  obtain ⟨T', X', eT', step⟩ := I locs X eT
  exact Done.go step (K T' ⟨_, X', N, eT'⟩)
/-! ### the heap: objects and fields -/
theorem k_getfield (S : St p l e R s m args below meth c n0 T h k n) (hx : p.tables.exec = Jvm.exec) (hZ : Z.Warmed39 s.vm) {own O f d : String} {index : Nat} (hown : s.vm.findClass own = some m.cls) (w : (Jvm.Cond.fieldLink own index O f d).before a0 Z = true)
    {a : Addr} {v : Value} (F : Fld Z h a O f d v) (hd : decode c.code pc = .ok (.getfield index, 3)) (hp : pc + 3 = pc')
    (K : ∀ T', St p l e R s m args below meth c n0 T' h k n → Done p e below G (T'.setTop (mkF m pc' Ls (v :: st)))) : Done p e below G (T.setTop (mkF m pc Ls (.ref a :: st))) := by
  subst hp
  obtain ⟨locs, X, N, eT⟩ := S
  obtain ⟨T', X', eT', step⟩ := getF X hx hZ hown (host := "") (Or.inl w) Via.refl eT F (g := mkF m pc Ls (.ref a :: st)) rfl rfl hd
  exact Done.go step (K T' ⟨_, X', N, eT'⟩)
theorem k_putfield (S : St p l e R s m args below meth c n0 T h k n) (hx : p.tables.exec = Jvm.exec) (hZ : Z.Warmed39 s.vm) {own O f d C : String} {index kk : Nat} {ty : FieldType} (hown : s.vm.findClass own = some m.cls) (w : (Jvm.Cond.fieldLink own index O f d).before a0 Z = true)
    {a : Addr} {v old : Value} (F : Fld Z h a O f d old) (E : Exa Z h a C) (L : (Jvm.Cond.lays C O f d).before a0 Z = true ∨ ((Jvm.Cond.laysFinal C O f d).before a0 Z = true ∧ own = O ∧ meth.name = "<init>")) (wi : (Jvm.Cond.instantiable C kk).before a0 Z = true)
    (hty : parseFieldDescriptor d = some ty) (hn' : narrow ty v = v) (hf : fits ty v = true) (ha : n0 ≤ a) (hd : decode c.code pc = .ok (.putfield index, 3)) (hp : pc + 3 = pc')
    (K : ∀ T' h', Wr h h' a (Jvm.RoadKit.slotOf Z O f d) v → St p l e R s m args below meth c n0 T' h' k n → Done p e below G (T'.setTop (mkF m pc' Ls st))) : Done p e below G (T.setTop (mkF m pc Ls (v :: .ref a :: st))) := by
  subst hp
  obtain ⟨locs, X, N, eT⟩ := S
  obtain ⟨T', h', X', eT', W, step⟩ := putF X hx hZ hown (host := "") (Or.inl w) Via.refl eT F E L wi hty hn' hf (g := mkF m pc Ls (v :: .ref a :: st)) rfl rfl hd
  exact Done.go step (K T' h' W ⟨_, X', Fr.snoc X' N ha, eT'⟩)
theorem k_new (S : St p l e R s m args below meth c n0 T h k n) (hx : p.tables.exec = Jvm.exec) (hZ : Z.Warmed39 s.vm) {own C : String} {index f : Nat} (hown : s.vm.findClass own = some m.cls) (w : (Jvm.Cond.classLink own index C).before a0 Z = true) (wi : (Jvm.Cond.instantiable C f).before a0 Z = true) (wz : (Jvm.Cond.initialized C).before a0 Z = true)
    (hd : decode c.code pc = .ok (.new index, 3)) (hp : pc + 3 = pc') (hk : k + 1 ≤ R.cells) (hn : n + f ≤ R.slots)
    (K : ∀ T' h' b, b = h.size → Ext h h' → Exa Z h' b C → (∀ {O nm d : String} {ty : FieldType}, Laid Z a0 C O nm d → parseFieldDescriptor d = some ty → Fld Z h' b O nm d (defaultValue ty)) → St p l e R s m args below meth c n0 T' h' (k + 1) (n + f) → Done p e below G (T'.setTop (mkF m pc' Ls (.ref b :: st)))) :
    Done p e below G (T.setTop (mkF m pc Ls st)) := by
  subst hp
  obtain ⟨locs, X, N, eT⟩ := S
  obtain ⟨T', h', X', eT', E, A, D, -, step⟩ := newO X hx hZ hown w wi wz eT (g := mkF m pc Ls st) rfl hd hk hn
  exact Done.go step (K T' h' _ rfl E A D ⟨_, X', N, eT'⟩)
end Walk
end Jvm.OwnKit

namespace Jvm.OwnKit
open Sem ClassFile Op Lib Jvm.Stand Jvm.Free Jvm.LawKit Jvm.RoadKit
/-! My own layer: arrays as lists. -/
/-- at a lies an array of ty that holds vs -/
def Vec (Z : State) (h : Heap) (a : Addr) (ty : FieldType) (vs : List Value) : Prop := ∃ c : Cell, Arr Z h a c ty ∧ c.slots.toList = vs ∧ vs.length < 2 ^ 31
/-- an int[] | a byte[] that holds xs -/
def IV (Z : State) (h : Heap) (a : Addr) (xs : List Int32) : Prop := Vec Z h a .int (xs.map Value.int)
def BV (Z : State) (h : Heap) (a : Addr) (xs : List Int32) : Prop := Vec Z h a .byte (xs.map Value.int)
/-- a long[] that holds xs -/
def LV (Z : State) (h : Heap) (a : Addr) (xs : List Int64) : Prop := Vec Z h a .long (xs.map Value.long)
theorem Keep.ext0 {h h' : Heap} (K : Keep h h' []) : Ext h h' := ⟨K.1, fun x c q => K.2.1 x c q nin0⟩
theorem Keep.of_ext {h h' : Heap} (E : Ext h h') (ws : List Addr) : Keep h h' ws := (Keep.refl h ws).ext E
section Arrays
variable {p : Program} {l : Launch} {e : Env} {R : Room} {s : State} {m : MethodId} {args : Array Value} {below : List Frame} {meth : Method} {c : Code} {n0 : Nat} {T : State} {h h' : Heap} {k n : Nat} {Z : State} {a0 : Array Value}
variable {G : Outcome → State → Prop} {pc pc' : Nat} {Ls Ls' : Array Slot} {st : List Value} {a b : Addr} {ty : FieldType} {vs : List Value} {xs : List Int32} {ys : List Int64} {ws : List Addr} {sl : Nat} {v : Value}
theorem Vec.lt (F : Vec Z h a ty vs) : a < h.size := by obtain ⟨c, A, -⟩ := F; exact A.lt
theorem Vec.ext (F : Vec Z h a ty vs) (E : Ext h h') : Vec Z h' a ty vs := by obtain ⟨c, A, r⟩ := F; exact ⟨c, A.ext E, r⟩
theorem Vec.other (F : Vec Z h b ty vs) (W : Wr h h' a sl v) (q : b ≠ a) : Vec Z h' b ty vs := by obtain ⟨c, A, r⟩ := F; exact ⟨c, A.other W q, r⟩
theorem Vec.keep (F : Vec Z h a ty vs) (K : Keep h h' ws) (q : a ∉ ws) : Vec Z h' a ty vs := by obtain ⟨c, A, r⟩ := F; exact ⟨c, ⟨K.2.1 a c A.1 q, A.2⟩, r⟩
theorem Vec.put (F : Vec Z h a ty vs) (W : Wr h h' a sl v) : Vec Z h' a ty (vs.set sl v) := by
  obtain ⟨c, A, q, r⟩ := F
  exact ⟨_, A.same W, by simp [Cell.setSlot, q], by simpa using r⟩
theorem Vec.mk {x : Int32} (A : Arr Z h a (newA k ty x) ty) : Vec Z h a ty (List.replicate x.toInt.toNat (defaultValue ty)) := ⟨_, A, by
  show (Array.replicate x.toInt.toNat (defaultValue ty)).toList = _
  rw [Array.toList_replicate], by
  have := x.toInt_lt
  rw [List.length_replicate]; omega⟩
theorem IV.lt (F : IV Z h a xs) : a < h.size := Vec.lt F
theorem IV.ext (F : IV Z h a xs) (E : Ext h h') : IV Z h' a xs := Vec.ext F E
theorem IV.other (F : IV Z h b xs) (W : Wr h h' a sl v) (q : b ≠ a) : IV Z h' b xs := Vec.other F W q
theorem IV.keep (F : IV Z h a xs) (K : Keep h h' ws) (q : a ∉ ws) : IV Z h' a xs := Vec.keep F K q
theorem IV.put {x : Int32} (F : IV Z h a xs) (W : Wr h h' a sl (.int x)) : IV Z h' a (xs.set sl x) := by
  have q := Vec.put F W
  rw [← List.map_set] at q; exact q
theorem IV.len (F : IV Z h a xs) : xs.length < 2 ^ 31 := by obtain ⟨_, _, _, q⟩ := F; simpa using q
theorem BV.lt (F : BV Z h a xs) : a < h.size := Vec.lt F
theorem BV.ext (F : BV Z h a xs) (E : Ext h h') : BV Z h' a xs := Vec.ext F E
theorem BV.other (F : BV Z h b xs) (W : Wr h h' a sl v) (q : b ≠ a) : BV Z h' b xs := Vec.other F W q
theorem BV.keep (F : BV Z h a xs) (K : Keep h h' ws) (q : a ∉ ws) : BV Z h' a xs := Vec.keep F K q
theorem BV.put {x : Int32} (F : BV Z h a xs) (W : Wr h h' a sl (.int x)) : BV Z h' a (xs.set sl x) := by
  have q := Vec.put F W
  rw [← List.map_set] at q; exact q
theorem BV.len (F : BV Z h a xs) : xs.length < 2 ^ 31 := by obtain ⟨_, _, _, q⟩ := F; simpa using q
theorem LV.lt (F : LV Z h a ys) : a < h.size := Vec.lt F
theorem LV.ext (F : LV Z h a ys) (E : Ext h h') : LV Z h' a ys := Vec.ext F E
theorem LV.other (F : LV Z h b ys) (W : Wr h h' a sl v) (q : b ≠ a) : LV Z h' b ys := Vec.other F W q
theorem LV.keep (F : LV Z h a ys) (K : Keep h h' ws) (q : a ∉ ws) : LV Z h' a ys := Vec.keep F K q
theorem LV.put {x : Int64} (F : LV Z h a ys) (W : Wr h h' a sl (.long x)) : LV Z h' a (ys.set sl x) := by
  have q := Vec.put F W
  rw [← List.map_set] at q; exact q
theorem LV.len (F : LV Z h a ys) : ys.length < 2 ^ 31 := by obtain ⟨_, _, _, q⟩ := F; simpa using q
theorem inb {c : Cell} {j : Int32} (q : c.slots.toList = vs) (h1 : 0 ≤ j.toInt) (h2 : j.toInt < vs.length) : ¬ (j < 0 ∨ c.slots.size ≤ j.toNatClampNeg) := by
  subst q
  rw [Int32.lt_iff_toInt_lt]
  have e0 : (0 : Int32).toInt = 0 := rfl
  have e1 : j.toNatClampNeg = j.toInt.toNat := rfl
  have e2 : c.slots.toList.length = c.slots.size := by simp
  omega
theorem k_arraylength {z : Int32} (S : St p l e R s m args below meth c n0 T h k n) (hx : p.tables.exec = Jvm.exec) (hZ : Z.Warmed39 s.vm) (V : Vec Z h a ty vs) (hd : decode c.code pc = .ok (.arraylength, 1)) (hz : vs.length.toInt32 = z) (hp : pc + 1 = pc')
    (K : Done p e below G (T.setTop (mkF m pc' Ls (.int z :: st)))) : Done p e below G (T.setTop (mkF m pc Ls (.ref a :: st))) := by
  subst hp hz
  obtain ⟨_, X, -, eT⟩ := S
  obtain ⟨cl, A, q, r⟩ := V
  have e2 : vs.length = cl.slots.size := by rw [← q]; simp
  rw [e2] at K
  exact Done.go (fun t z => X.arraylength hx (by rw [eT]; exact A.1) (State.isArrayOf_alike hZ.alike A.2.1) (g := mkF m pc Ls (.ref a :: st)) rfl rfl hd _ z) K
theorem k_iaload {j w : Int32} (S : St p l e R s m args below meth c n0 T h k n) (hx : p.tables.exec = Jvm.exec) (hZ : Z.Warmed39 s.vm) (V : IV Z h a xs) (hd : decode c.code pc = .ok (.iaload, 1)) (h1 : 0 ≤ j.toInt) (h2 : j.toInt < xs.length) (hv : xs.getD j.toInt.toNat 0 = w) (hp : pc + 1 = pc')
    (K : Done p e below G (T.setTop (mkF m pc' Ls (.int w :: st)))) : Done p e below G (T.setTop (mkF m pc Ls (.int j :: .ref a :: st))) := by
  subst hp hv
  obtain ⟨_, X, -, eT⟩ := S
  obtain ⟨cl, A, q, r⟩ := V
  have hl : j.toInt.toNat < xs.length := by omega
  have hv : cl.slots[j.toNatClampNeg]? = some (.int (xs.getD j.toInt.toNat 0)) := by
    show cl.slots[j.toInt.toNat]? = _
    rw [← Array.getElem?_toList, q, List.getElem?_map, List.getElem?_eq_getElem hl]
    rw [List.getD_eq_getElem?_getD, List.getElem?_eq_getElem hl]; rfl
  exact Done.go (fun t z => X.iaload hx (by rw [eT]; exact A.1) (State.isArrayOf_alike hZ.alike A.2.1) A.2.2 (inb q h1 (by simpa using h2)) hv (g := mkF m pc Ls (.int j :: .ref a :: st)) rfl rfl hd _ z) K
theorem k_baload {j w : Int32} (S : St p l e R s m args below meth c n0 T h k n) (hx : p.tables.exec = Jvm.exec) (hZ : Z.Warmed39 s.vm) (V : BV Z h a xs) (hd : decode c.code pc = .ok (.baload, 1)) (h1 : 0 ≤ j.toInt) (h2 : j.toInt < xs.length) (hv : xs.getD j.toInt.toNat 0 = w) (hp : pc + 1 = pc')
    (K : Done p e below G (T.setTop (mkF m pc' Ls (.int w :: st)))) : Done p e below G (T.setTop (mkF m pc Ls (.int j :: .ref a :: st))) := by
  subst hp hv
  obtain ⟨_, X, -, eT⟩ := S
  obtain ⟨cl, A, q, r⟩ := V
  have hl : j.toInt.toNat < xs.length := by omega
  have hv : cl.slots[j.toNatClampNeg]? = some (.int (xs.getD j.toInt.toNat 0)) := by
    show cl.slots[j.toInt.toNat]? = _
    rw [← Array.getElem?_toList, q, List.getElem?_map, List.getElem?_eq_getElem hl]
    rw [List.getD_eq_getElem?_getD, List.getElem?_eq_getElem hl]; rfl
  exact Done.go (fun t z => X.baloadBytes hx (by rw [eT]; exact A.1) (State.isArrayOf_alike hZ.alike A.2.1) A.2.2 (inb q h1 (by simpa using h2)) hv (g := mkF m pc Ls (.int j :: .ref a :: st)) rfl rfl hd _ z) K
theorem k_laload {j : Int32} {w : Int64} (S : St p l e R s m args below meth c n0 T h k n) (hx : p.tables.exec = Jvm.exec) (hZ : Z.Warmed39 s.vm) (V : LV Z h a ys) (hd : decode c.code pc = .ok (.laload, 1)) (h1 : 0 ≤ j.toInt) (h2 : j.toInt < ys.length) (hv : ys.getD j.toInt.toNat 0 = w) (hp : pc + 1 = pc')
    (K : Done p e below G (T.setTop (mkF m pc' Ls (.long w :: st)))) : Done p e below G (T.setTop (mkF m pc Ls (.int j :: .ref a :: st))) := by
  subst hp hv
  obtain ⟨_, X, -, eT⟩ := S
  obtain ⟨cl, A, q, r⟩ := V
  have hl : j.toInt.toNat < ys.length := by omega
  have hv : cl.slots[j.toNatClampNeg]? = some (.long (ys.getD j.toInt.toNat 0)) := by
    show cl.slots[j.toInt.toNat]? = _
    rw [← Array.getElem?_toList, q, List.getElem?_map, List.getElem?_eq_getElem hl]
    rw [List.getD_eq_getElem?_getD, List.getElem?_eq_getElem hl]; rfl
  exact Done.go (fun t z => X.laload hx (by rw [eT]; exact A.1) (State.isArrayOf_alike hZ.alike A.2.1) A.2.2 (inb q h1 (by simpa using h2)) hv (g := mkF m pc Ls (.int j :: .ref a :: st)) rfl rfl hd _ z) K
theorem k_iastore {j x : Int32} (S : St p l e R s m args below meth c n0 T h k n) (hx : p.tables.exec = Jvm.exec) (hZ : Z.Warmed39 s.vm) (V : IV Z h a xs) (hd : decode c.code pc = .ok (.iastore, 1)) (h1 : 0 ≤ j.toInt) (h2 : j.toInt < xs.length) (ha : n0 ≤ a) (hp : pc + 1 = pc')
    (K : ∀ T' h', Wr h h' a j.toInt.toNat (.int x) → IV Z h' a (xs.set j.toInt.toNat x) → St p l e R s m args below meth c n0 T' h' k n → Done p e below G (T'.setTop (mkF m pc' Ls st))) : Done p e below G (T.setTop (mkF m pc Ls (.int x :: .int j :: .ref a :: st))) := by
  subst hp
  obtain ⟨_, X, N, eT⟩ := S
  have V0 := V
  obtain ⟨cl, A, q, r⟩ := V
  obtain ⟨T', h', X', eT', W, step⟩ := stI X hx hZ eT A (j := j) (inb q h1 (by simpa using h2)) (g := mkF m pc Ls (.int x :: .int j :: .ref a :: st)) rfl rfl hd
  exact Done.go step (K T' h' W (V0.put W) ⟨_, X', Fr.snoc X' N ha, eT'⟩)
theorem k_bastore {j x : Int32} (S : St p l e R s m args below meth c n0 T h k n) (hx : p.tables.exec = Jvm.exec) (hZ : Z.Warmed39 s.vm) (V : BV Z h a xs) (hd : decode c.code pc = .ok (.bastore, 1)) (h1 : 0 ≤ j.toInt) (h2 : j.toInt < xs.length) (ha : n0 ≤ a) (hp : pc + 1 = pc')
    (K : ∀ T' h', Wr h h' a j.toInt.toNat (.int (nar .byte x)) → BV Z h' a (xs.set j.toInt.toNat (nar .byte x)) → St p l e R s m args below meth c n0 T' h' k n → Done p e below G (T'.setTop (mkF m pc' Ls st))) : Done p e below G (T.setTop (mkF m pc Ls (.int x :: .int j :: .ref a :: st))) := by
  subst hp
  obtain ⟨_, X, N, eT⟩ := S
  have V0 := V
  obtain ⟨cl, A, q, r⟩ := V
  obtain ⟨T', h', X', eT', W, step⟩ := stB X hx hZ eT A (j := j) (inb q h1 (by simpa using h2)) (g := mkF m pc Ls (.int x :: .int j :: .ref a :: st)) rfl rfl hd
  exact Done.go step (K T' h' W (V0.put W) ⟨_, X', Fr.snoc X' N ha, eT'⟩)
theorem k_lastore {j : Int32} {x : Int64} (S : St p l e R s m args below meth c n0 T h k n) (hx : p.tables.exec = Jvm.exec) (hZ : Z.Warmed39 s.vm) (V : LV Z h a ys) (hd : decode c.code pc = .ok (.lastore, 1)) (h1 : 0 ≤ j.toInt) (h2 : j.toInt < ys.length) (ha : n0 ≤ a) (hp : pc + 1 = pc')
    (K : ∀ T' h', Wr h h' a j.toInt.toNat (.long x) → LV Z h' a (ys.set j.toInt.toNat x) → St p l e R s m args below meth c n0 T' h' k n → Done p e below G (T'.setTop (mkF m pc' Ls st))) : Done p e below G (T.setTop (mkF m pc Ls (.long x :: .int j :: .ref a :: st))) := by
  subst hp
  obtain ⟨_, X, N, eT⟩ := S
  have V0 := V
  obtain ⟨cl, A, q, r⟩ := V
  obtain ⟨T', h', X', eT', W, step⟩ := stJ X hx hZ eT A (j := j) (inb q h1 (by simpa using h2)) (g := mkF m pc Ls (.long x :: .int j :: .ref a :: st)) rfl rfl hd
  exact Done.go step (K T' h' W (V0.put W) ⟨_, X', Fr.snoc X' N ha, eT'⟩)
theorem k_newint {x : Int32} (S : St p l e R s m args below meth c n0 T h k n) (hx : p.tables.exec = Jvm.exec) (hZ : Z.Warmed39 s.vm) (w : (Jvm.Cond.arrayClass .int).before a0 Z = true) (hd : decode c.code pc = .ok (.newarray .int, 2)) (h1 : 0 ≤ x.toInt) (cap : Nat) (h2 : x.toInt ≤ cap) (h3 : cap * 8 ≤ 536870912) (hk : k + 1 ≤ R.cells) (hn : n + cap ≤ R.slots) (hp : pc + 2 = pc')
    (K : ∀ T' h' b, b = h.size → Ext h h' → IV Z h' b (List.replicate x.toInt.toNat 0) → St p l e R s m args below meth c n0 T' h' (k + 1) (n + cap) → Done p e below G (T'.setTop (mkF m pc' Ls (.ref b :: st)))) : Done p e below G (T.setTop (mkF m pc Ls (.int x :: st))) := by
  subst hp
  obtain ⟨_, X, N, eT⟩ := S
  obtain ⟨T', h', cA, X', eT', E, A, step⟩ := newP X hx hZ (aty := .int) w eT (g := mkF m pc Ls (.int x :: st)) rfl hd rfl (by rw [Int32.lt_iff_toInt_lt]; show ¬ x.toInt < 0; omega) (cap := cap) (by show x.toInt.toNat ≤ cap; omega) h3 hk hn
  have V := Vec.mk A
  refine Done.go step (K T' h' _ rfl E ?_ ⟨_, X', N, eT'⟩)
  show Vec Z h' h.size .int _
  rw [List.map_replicate]; exact V
theorem k_newbyte {x : Int32} (S : St p l e R s m args below meth c n0 T h k n) (hx : p.tables.exec = Jvm.exec) (hZ : Z.Warmed39 s.vm) (w : (Jvm.Cond.arrayClass .byte).before a0 Z = true) (hd : decode c.code pc = .ok (.newarray .byte, 2)) (h1 : 0 ≤ x.toInt) (cap : Nat) (h2 : x.toInt ≤ cap) (h3 : cap * 8 ≤ 536870912) (hk : k + 1 ≤ R.cells) (hn : n + cap ≤ R.slots) (hp : pc + 2 = pc')
    (K : ∀ T' h' b, b = h.size → Ext h h' → BV Z h' b (List.replicate x.toInt.toNat 0) → St p l e R s m args below meth c n0 T' h' (k + 1) (n + cap) → Done p e below G (T'.setTop (mkF m pc' Ls (.ref b :: st)))) : Done p e below G (T.setTop (mkF m pc Ls (.int x :: st))) := by
  subst hp
  obtain ⟨_, X, N, eT⟩ := S
  obtain ⟨T', h', cA, X', eT', E, A, step⟩ := newP X hx hZ (aty := .byte) w eT (g := mkF m pc Ls (.int x :: st)) rfl hd rfl (by rw [Int32.lt_iff_toInt_lt]; show ¬ x.toInt < 0; omega) (cap := cap) (by show x.toInt.toNat ≤ cap; omega) h3 hk hn
  have V := Vec.mk A
  refine Done.go step (K T' h' _ rfl E ?_ ⟨_, X', N, eT'⟩)
  show Vec Z h' h.size .byte _
  rw [List.map_replicate]; exact V
theorem k_newlong {x : Int32} (S : St p l e R s m args below meth c n0 T h k n) (hx : p.tables.exec = Jvm.exec) (hZ : Z.Warmed39 s.vm) (w : (Jvm.Cond.arrayClass .long).before a0 Z = true) (hd : decode c.code pc = .ok (.newarray .long, 2)) (h1 : 0 ≤ x.toInt) (cap : Nat) (h2 : x.toInt ≤ cap) (h3 : cap * 8 ≤ 536870912) (hk : k + 1 ≤ R.cells) (hn : n + cap ≤ R.slots) (hp : pc + 2 = pc')
    (K : ∀ T' h' b, b = h.size → Ext h h' → LV Z h' b (List.replicate x.toInt.toNat 0) → St p l e R s m args below meth c n0 T' h' (k + 1) (n + cap) → Done p e below G (T'.setTop (mkF m pc' Ls (.ref b :: st)))) : Done p e below G (T.setTop (mkF m pc Ls (.int x :: st))) := by
  subst hp
  obtain ⟨_, X, N, eT⟩ := S
  obtain ⟨T', h', cA, X', eT', E, A, step⟩ := newP X hx hZ (aty := .long) w eT (g := mkF m pc Ls (.int x :: st)) rfl hd rfl (by rw [Int32.lt_iff_toInt_lt]; show ¬ x.toInt < 0; omega) (cap := cap) (by show x.toInt.toNat ≤ cap; omega) h3 hk hn
  have V := Vec.mk A
  refine Done.go step (K T' h' _ rfl E ?_ ⟨_, X', N, eT'⟩)
  show Vec Z h' h.size .long _
  rw [List.map_replicate]; exact V
theorem k_getstatic (S : St p l e R s m args below meth c n0 T h k n) (hx : p.tables.exec = Jvm.exec) (hZ : Z.Warmed39 s.vm) {own O f d : String} {index : Nat} (hown : s.vm.findClass own = some m.cls) (w : (Jvm.Cond.fieldLink own index O f d).before a0 Z = true)
    (F : Sta Z h O f d v) (hd : decode c.code pc = .ok (.getstatic index, 3)) (hp : pc + 3 = pc')
    (K : ∀ T', St p l e R s m args below meth c n0 T' h k n → Done p e below G (T'.setTop (mkF m pc' Ls (v :: st)))) : Done p e below G (T.setTop (mkF m pc Ls st)) := by
  subst hp
  obtain ⟨locs, X, N, eT⟩ := S
  obtain ⟨T', X', eT', step⟩ := getS2 X hx hZ hown (host := "") (Or.inl w) Via.refl eT F (g := mkF m pc Ls st) rfl hd
  exact Done.go step (K T' ⟨_, X', N, eT'⟩)
theorem IV.arv (F : IV Z h a xs) : ∃ k, Arv Z h a k .int xs.length.toInt32 (xs.map Value.int) (.int 0) := by
  obtain ⟨c, A, q, r⟩ := F
  have hl : xs.length < 2 ^ 31 := by simpa using r
  have e0 : xs.length.toInt32.toInt = (xs.length : Int) := by
    show (Int32.ofNat xs.length).toInt = _
    exact Int32.toInt_ofNat_of_lt hl
  have hs : c.slots.size = xs.length := by have := congrArg List.length q; simpa using this
  refine ⟨c.cls, c, A, rfl, ?_, ?_, ?_, ?_⟩
  · show c.slots.size = xs.length.toInt32.toInt.toNat
    rw [e0, hs]; simp
  · rw [Int32.lt_iff_toInt_lt, e0]; show ¬ (xs.length : Int) < 0; omega
  · intro i hi
    rw [← Array.getElem?_toList, q, List.getD_eq_getElem?_getD]
    have : i < (xs.map Value.int).length := by simpa [← hs] using hi
    rw [List.getElem?_eq_getElem this]; rfl
  · intro i hi
    have : i < (xs.map Value.int).length := by simpa [← hs] using hi
    rw [List.getD_eq_getElem?_getD, List.getElem?_eq_getElem this]
    simp [fits]
theorem IV.of_arv {k : ClassId} {z : Int32} (F : Arv Z h a k .int z (xs.map Value.int) (.int 0)) (hz : z.toInt = (xs.length : Int)) : IV Z h a xs := by
  obtain ⟨c, A, -, hs, -, H, -⟩ := F
  have hs' : c.slots.size = xs.length := by rw [hs]; show z.toInt.toNat = _; omega
  refine ⟨c, A, ?_, by have := z.toInt_lt; simp; omega⟩
  refine List.ext_getElem? fun i => ?_
  by_cases hi : i < c.slots.size
  · rw [Array.getElem?_toList, H i hi, List.getD_eq_getElem?_getD]
    have : i < (xs.map Value.int).length := by simpa [← hs'] using hi
    rw [List.getElem?_eq_getElem this]; rfl
  · rw [List.getElem?_eq_none (by simpa using hi), List.getElem?_eq_none (by simp; omega)]
theorem k_arraycopy {nn : Int32} {xs' : List Int32} (S : St p l e R s m args below meth c n0 T h k n) (hx : p.tables.exec = Jvm.exec) (hZ : Z.Warmed39 s.vm) {own : String} {index : Nat} (hown : s.vm.findClass own = some m.cls)
    (w1 : (Jvm.Cond.methodLink own index Jvm.Stand.acN).before a0 Z = true) (w2 : (Jvm.Cond.native Jvm.Stand.acN).before a0 Z = true) (w3 : (Jvm.Cond.static Jvm.Stand.acN).before a0 Z = true) (w4 : (Jvm.Cond.initialized "java/lang/System").before a0 Z = true)
    (A : IV Z h a xs) (B : IV Z h b xs') (h1 : 0 ≤ nn.toInt) (h2 : nn.toInt ≤ xs.length) (h3 : nn.toInt ≤ xs'.length) (ge : n0 ≤ b) (hml : Ls.size = c.maxLocals) (hd : decode c.code pc = .ok (.invokestatic index, 3)) (hf : 1 ≤ R.frames) (W : Nat) (hW : (st.map fun v => v.category).sum ≤ W) (hlo : W + 18 ≤ R.locals) (hp : pc + 3 = pc')
    (K : ∀ T' h', Keep h h' [b] → IV Z h' b (xs.take nn.toInt.toNat ++ xs'.drop nn.toInt.toNat) → St p l e R s m args below meth c n0 T' h' k n → Done p e below G (T'.setTop (mkF m pc' Ls st))) :
    Done p e below G (T.setTop (mkF m pc Ls (.int nn :: .int 0 :: .ref b :: .int 0 :: .ref a :: st))) := by
  subst hp
  obtain ⟨_, X, N, eT⟩ := S
  have la := A.len
  have lb := B.len
  obtain ⟨ka, Aa⟩ := A.arv
  obtain ⟨kb, Bb⟩ := B.arv
  have ea : xs.length.toInt32.toInt = (xs.length : Int) := Int32.toInt_ofNat_of_lt la
  have eb : xs'.length.toInt32.toInt = (xs'.length : Int) := Int32.toInt_ofNat_of_lt lb
  have z0 : (0 : Int32).toNatClampNeg = 0 := rfl
  obtain ⟨T', h', L, X', eT', N', Kp, V, step⟩ := cpA X hx hZ hown w1 w2 w3 w4 eT (sp := 0) (dp := 0) (nn := nn) (us := (xs.take nn.toInt.toNat).map Value.int) Aa Bb (Or.inl ⟨rfl, rfl⟩) (by decide) (by decide) (by rw [Int32.lt_iff_toInt_lt]; show ¬ nn.toInt < 0; omega)
    (by rw [z0]; show 0 + nn.toInt.toNat ≤ xs.length.toInt32.toInt.toNat; omega) (by rw [z0]; show 0 + nn.toInt.toNat ≤ xs'.length.toInt32.toInt.toNat; omega)
    (by
      refine List.ext_getElem (by show _ = (List.map _ (List.range nn.toInt.toNat)).length; rw [List.length_map, List.length_take, List.length_map, List.length_range]; omega) fun i g1 g2 => ?_
      have g3 : i < nn.toInt.toNat := by have := g1; rw [List.length_map, List.length_take] at this; omega
      simp only [List.getElem_map, List.getElem_take, List.getElem_range, z0, Nat.zero_add]
      rw [List.getD_eq_getElem?_getD, List.getElem?_map, List.getElem?_eq_getElem (by omega)]; rfl)
    (by rw [z0]; show 0 + nn.toInt.toNat ≤ _; rw [List.length_map]; omega) N ge (g := mkF m pc Ls (.int nn :: .int 0 :: .ref b :: .int 0 :: .ref a :: st)) rfl hml rfl hd hf (W := W) (by show 2 * 0 + _ ≤ _; omega) (by show W + 18 ≤ _; exact hlo)
  refine Done.go step (K T' h' Kp ?_ ⟨_, X', N', eT'⟩)
  refine IV.of_arv (k := kb) (z := xs'.length.toInt32) ?_ (by rw [eb, List.length_append, List.length_take, List.length_drop]; omega)
  have e : (List.map Value.int xs').take (0 : Int32).toNatClampNeg ++ (xs.take nn.toInt.toNat).map Value.int ++ (List.map Value.int xs').drop ((0 : Int32).toNatClampNeg + nn.toNatClampNeg) = (xs.take nn.toInt.toNat ++ xs'.drop nn.toInt.toNat).map Value.int := by
    rw [z0]; show List.take 0 _ ++ _ ++ List.drop (0 + nn.toInt.toNat) _ = _
    simp
  rw [← e]; exact V
theorem k_arraycopyD {nn dp : Int32} {xs' : List Int32} (S : St p l e R s m args below meth c n0 T h k n) (hx : p.tables.exec = Jvm.exec) (hZ : Z.Warmed39 s.vm) {own : String} {index : Nat} (hown : s.vm.findClass own = some m.cls)
    (w1 : (Jvm.Cond.methodLink own index Jvm.Stand.acN).before a0 Z = true) (w2 : (Jvm.Cond.native Jvm.Stand.acN).before a0 Z = true) (w3 : (Jvm.Cond.static Jvm.Stand.acN).before a0 Z = true) (w4 : (Jvm.Cond.initialized "java/lang/System").before a0 Z = true)
    (A : IV Z h a xs) (B : IV Z h b xs') (h1 : 0 ≤ nn.toInt) (h2 : nn.toInt ≤ xs.length) (h4 : 0 ≤ dp.toInt) (h3 : dp.toInt + nn.toInt ≤ xs'.length) (ge : n0 ≤ b) (hml : Ls.size = c.maxLocals) (hd : decode c.code pc = .ok (.invokestatic index, 3)) (hf : 1 ≤ R.frames) (W : Nat) (hW : (st.map fun v => v.category).sum ≤ W) (hlo : W + 18 ≤ R.locals) (hp : pc + 3 = pc')
    (K : ∀ T' h', Keep h h' [b] → IV Z h' b (xs'.take dp.toInt.toNat ++ xs.take nn.toInt.toNat ++ xs'.drop (dp.toInt.toNat + nn.toInt.toNat)) → St p l e R s m args below meth c n0 T' h' k n → Done p e below G (T'.setTop (mkF m pc' Ls st))) :
    Done p e below G (T.setTop (mkF m pc Ls (.int nn :: .int dp :: .ref b :: .int 0 :: .ref a :: st))) := by
  subst hp
  obtain ⟨_, X, N, eT⟩ := S
  have la := A.len
  have lb := B.len
  obtain ⟨ka, Aa⟩ := A.arv
  obtain ⟨kb, Bb⟩ := B.arv
  have ea : xs.length.toInt32.toInt = (xs.length : Int) := Int32.toInt_ofNat_of_lt la
  have eb : xs'.length.toInt32.toInt = (xs'.length : Int) := Int32.toInt_ofNat_of_lt lb
  have z0 : (0 : Int32).toNatClampNeg = 0 := rfl
  obtain ⟨T', h', L, X', eT', N', Kp, V, step⟩ := cpA X hx hZ hown w1 w2 w3 w4 eT (sp := 0) (dp := dp) (nn := nn) (us := (xs.take nn.toInt.toNat).map Value.int) Aa Bb (Or.inl ⟨rfl, rfl⟩) (by decide) (by rw [Int32.lt_iff_toInt_lt]; show ¬ dp.toInt < 0; omega) (by rw [Int32.lt_iff_toInt_lt]; show ¬ nn.toInt < 0; omega)
    (by rw [z0]; show 0 + nn.toInt.toNat ≤ xs.length.toInt32.toInt.toNat; omega) (by show dp.toInt.toNat + nn.toInt.toNat ≤ xs'.length.toInt32.toInt.toNat; omega)
    (by
      refine List.ext_getElem (by show _ = (List.map _ (List.range nn.toInt.toNat)).length; rw [List.length_map, List.length_take, List.length_map, List.length_range]; omega) fun i g1 g2 => ?_
      have g3 : i < nn.toInt.toNat := by have := g1; rw [List.length_map, List.length_take] at this; omega
      simp only [List.getElem_map, List.getElem_take, List.getElem_range, z0, Nat.zero_add]
      rw [List.getD_eq_getElem?_getD, List.getElem?_map, List.getElem?_eq_getElem (by omega)]; rfl)
    (by show dp.toInt.toNat + nn.toInt.toNat ≤ _; rw [List.length_map]; omega) N ge (g := mkF m pc Ls (.int nn :: .int dp :: .ref b :: .int 0 :: .ref a :: st)) rfl hml rfl hd hf (W := W) (by show 2 * 0 + _ ≤ _; omega) (by show W + 18 ≤ _; exact hlo)
  refine Done.go step (K T' h' Kp ?_ ⟨_, X', N', eT'⟩)
  refine IV.of_arv (k := kb) (z := xs'.length.toInt32) ?_ (by rw [eb, List.length_append, List.length_append, List.length_take, List.length_take, List.length_drop]; omega)
  have e : (List.map Value.int xs').take dp.toNatClampNeg ++ (xs.take nn.toInt.toNat).map Value.int ++ (List.map Value.int xs').drop (dp.toNatClampNeg + nn.toNatClampNeg) = (xs'.take dp.toInt.toNat ++ xs.take nn.toInt.toNat ++ xs'.drop (dp.toInt.toNat + nn.toInt.toNat)).map Value.int := by
    show List.take dp.toInt.toNat _ ++ _ ++ List.drop (dp.toInt.toNat + nn.toInt.toNat) _ = _
    simp
  rw [← e]; exact V
theorem k_newintE {x : Int32} (S : St p l e R s m args below meth c n0 T h k n) (hx : p.tables.exec = Jvm.exec) (hZ : Z.Warmed39 s.vm) (w : (Jvm.Cond.arrayClass .int).before a0 Z = true) (hd : decode c.code pc = .ok (.newarray .int, 2)) (h1 : 0 ≤ x.toInt) (cap : Nat) (h2 : x.toInt ≤ cap) (h3 : cap * 8 ≤ 536870912) (hk : k + 1 ≤ R.cells) (hn : n + cap ≤ R.slots) (hp : pc + 2 = pc')
    (K : ∀ T' h' b, b = h.size → Ext h h' → IV Z h' b (List.replicate x.toInt.toNat 0) → Exa Z h' b "[I" → St p l e R s m args below meth c n0 T' h' (k + 1) (n + cap) → Done p e below G (T'.setTop (mkF m pc' Ls (.ref b :: st)))) : Done p e below G (T.setTop (mkF m pc Ls (.int x :: st))) := by
  subst hp
  obtain ⟨_, X, N, eT⟩ := S
  obtain ⟨T', h', cA, X', eT', E, A, EX, step⟩ := newPE X hx hZ (aty := .int) w eT (g := mkF m pc Ls (.int x :: st)) rfl hd rfl (by rw [Int32.lt_iff_toInt_lt]; show ¬ x.toInt < 0; omega) (cap := cap) (by show x.toInt.toNat ≤ cap; omega) h3 hk hn (ad := "[I") (by decide)
  have V := Vec.mk A
  refine Done.go step (K T' h' _ rfl E ?_ EX ⟨_, X', N, eT'⟩)
  show Vec Z h' h.size .int _
  rw [List.map_replicate]; exact V
theorem k_clone (S : St p l e R s m args below meth c n0 T h k n) (hx : p.tables.exec = Jvm.exec) (hZ : Z.Warmed39 s.vm) {own : String} {index : Nat} (hown : s.vm.findClass own = some m.cls)
    (w1 : (Jvm.Cond.methodLink own index ⟨"[I", "clone", "()Ljava/lang/Object;"⟩).before a0 Z = true) (w2 : (Jvm.Cond.sameMethod "[I" "java/lang/Object" "clone" "()Ljava/lang/Object;").before a0 Z = true) (w3 : (Jvm.Cond.native ⟨"java/lang/Object", "clone", "()Ljava/lang/Object;"⟩).before a0 Z = true)
    (w4 : (Jvm.Cond.instanceMethod ⟨"java/lang/Object", "clone", "()Ljava/lang/Object;"⟩).before a0 Z = true) (w5 : (Jvm.Cond.selects "[I" ⟨"[I", "clone", "()Ljava/lang/Object;"⟩ ⟨"java/lang/Object", "clone", "()Ljava/lang/Object;"⟩).before a0 Z = true) (w6 : (Jvm.Cond.castable "[I" "java/lang/Cloneable").before a0 Z = true)
    (V : IV Z h a xs) (E : Exa Z h a "[I") (hml : Ls.size = c.maxLocals) (hd : decode c.code pc = .ok (.invokevirtual index, 3)) (hf : 1 ≤ R.frames) (W : Nat) (hW : (st.map fun v => v.category).sum ≤ W) (hlo : W + 14 ≤ R.locals) (cap : Nat) (hcap : xs.length ≤ cap) (hk : k + 1 ≤ R.cells) (hn : n + cap ≤ R.slots) (hp : pc + 3 = pc')
    (K : ∀ T' h' b, b = h.size → Ext h h' → IV Z h' b xs → Exa Z h' b "[I" → St p l e R s m args below meth c n0 T' h' (k + 1) (n + cap) → Done p e below G (T'.setTop (mkF m pc' Ls (.ref b :: st)))) :
    Done p e below G (T.setTop (mkF m pc Ls (.ref a :: st))) := by
  subst hp
  obtain ⟨_, X, N, eT⟩ := S
  obtain ⟨cl, A, q, r⟩ := V
  have hsz : cl.slots.size = xs.length := by have := congrArg List.length q; simpa using this
  have F : FitC Z cl := fitC_of A fun i hi v hv => by
    rw [← Array.getElem?_toList, q, List.getElem?_map] at hv
    cases e : xs[i]? with
    | none => rw [e] at hv; cases hv
    | some z => rw [e] at hv; cases hv; rfl
  obtain ⟨T', h', X', eT', ex, A', E', step⟩ := cloneA X hx hZ hown w1 w2 w3 w4 w5 w6 eT A E F (g := mkF m pc Ls (.ref a :: st)) rfl hml rfl hd hf (W := W) (by show 2 * 0 + _ ≤ _; omega) hlo (cap := cap) (by omega) hk hn
  exact Done.go step (K T' h' _ rfl ex ⟨cloneOf cl, A', q, r⟩ E' ⟨_, X', N, eT'⟩)
theorem k_checkcast (S : St p l e R s m args below meth c n0 T h k n) (hx : p.tables.exec = Jvm.exec) (hZ : Z.Warmed39 s.vm) {own C : String} {index : Nat} (hown : s.vm.findClass own = some m.cls) (w : (Jvm.Cond.classLink own index C).before a0 Z = true)
    (F : Ins Z h a C true) (hd : decode c.code pc = .ok (.checkcast index, 3)) (hp : pc + 3 = pc')
    (K : ∀ T', St p l e R s m args below meth c n0 T' h k n → Done p e below G (T'.setTop (mkF m pc' Ls (.ref a :: st)))) : Done p e below G (T.setTop (mkF m pc Ls (.ref a :: st))) := by
  subst hp
  obtain ⟨locs, X, N, eT⟩ := S
  obtain ⟨T', X', eT', step⟩ := castY X hx hZ hown w eT F (g := mkF m pc Ls (.ref a :: st)) rfl rfl hd
  exact Done.go step (K T' ⟨_, X', N, eT'⟩)
end Arrays
end Jvm.OwnKit
namespace Jvm.Pilot.@@N@@
open Jvm Jvm.ClassFile Sem Op Lib Jvm.Free Jvm.Stand Jvm.LawKit Jvm.RoadKit Jvm.OwnKit Bundle Jvm.Pilot.@@N@@.Jvm.D
theorem own_lt {x y : Int32} : x < y ↔ x.toInt < y.toInt := Int32.lt_iff_toInt_lt
/-- the first ar terms agree -/
def own_P (tl rl : List Int32) (s off ar : Int32) : Prop := ∀ j : Nat, (j : Int) < ar.toInt → tl.getD (s.toInt.toNat + j) 0 = rl.getD (off.toInt.toNat + j) 0
def own_J (tl rl : List Int32) (s off : Int32) (i : Int) : Prop := ∀ j : Nat, (j : Int) < i → tl.getD (s.toInt.toNat + j) 0 = rl.getD (off.toInt.toNat + j) 0
def own_ex (rl : List Int32) (off ar t0 t1 t2 : Int32) : Int32 :=
  if (ar < 1 ∨ rl.getD off.toInt.toNat 0 = t0) ∧ (ar < 2 ∨ rl.getD (off + 1).toInt.toNat 0 = t1) ∧ (ar < 3 ∨ rl.getD (off + 2).toInt.toNat 0 = t2) then 1 else 0
theorem own_eqv (tl rl : List Int32) (s off ar t0 t1 t2 : Int32) (h1 : (off + 1).toInt = off.toInt + 1) (h2 : (off + 2).toInt = off.toInt + 2) (h0 : 0 ≤ off.toInt) (ha : 0 ≤ ar.toInt) (hb : ar.toInt ≤ 3)
    (e0 : tl.getD s.toInt.toNat 0 = t0) (e1 : tl.getD (s.toInt.toNat + 1) 0 = t1) (e2 : ¬ ar < 3 → tl.getD (s.toInt.toNat + 2) 0 = t2) :
    own_P tl rl s off ar ↔ ((ar < 1 ∨ rl.getD off.toInt.toNat 0 = t0) ∧ (ar < 2 ∨ rl.getD (off + 1).toInt.toNat 0 = t1) ∧ (ar < 3 ∨ rl.getD (off + 2).toInt.toNat 0 = t2)) := by
  have n1 : (off + 1).toInt.toNat = off.toInt.toNat + 1 := by omega
  have n2 : (off + 2).toInt.toNat = off.toInt.toNat + 2 := by omega
  rw [n1, n2]
  have l1 : ar < 1 ↔ ar.toInt < 1 := own_lt
  have l2 : ar < 2 ↔ ar.toInt < 2 := own_lt
  have l3 : ar < 3 ↔ ar.toInt < 3 := own_lt
  rw [l3] at e2
  rw [l1, l2, l3]
  constructor
  · intro H
    refine ⟨?_, ?_, ?_⟩
    · by_cases q : ar.toInt < 1
      · exact Or.inl q
      · exact Or.inr (by rw [← e0]; exact (H 0 (by omega)).symm)
    · by_cases q : ar.toInt < 2
      · exact Or.inl q
      · exact Or.inr (by rw [← e1]; exact (H 1 (by omega)).symm)
    · by_cases q : ar.toInt < 3
      · exact Or.inl q
      · exact Or.inr (by rw [← e2 q]; exact (H 2 (by omega)).symm)
  · rintro ⟨a, b, c⟩ j hj
    rcases (by omega : j = 0 ∨ j = 1 ∨ j = 2) with rfl | rfl | rfl
    · rcases a with q | q
      · omega
      · exact e0.trans q.symm
    · rcases b with q | q
      · omega
      · exact e1.trans q.symm
    · rcases c with q | q
      · omega
      · exact (e2 (by omega)).trans q.symm
theorem own_J0 (tl rl : List Int32) (s off : Int32) : own_J tl rl s off 0 := fun j h => by omega
theorem own_J1 {tl rl : List Int32} {s off i si oi : Int32} (H : own_J tl rl s off i.toInt) (hs : si.toInt = s.toInt + i.toInt) (ho : oi.toInt = off.toInt + i.toInt) (h0 : 0 ≤ i.toInt) (h1 : 0 ≤ s.toInt) (h2 : 0 ≤ off.toInt) (h : tl.getD si.toInt.toNat 0 = rl.getD oi.toInt.toNat 0) : own_J tl rl s off (i.toInt + 1) := fun j hj => by
  by_cases e : (j : Int) < i.toInt
  · exact H j e
  · rw [show s.toInt.toNat + j = si.toInt.toNat by omega, show off.toInt.toNat + j = oi.toInt.toNat by omega]; exact h
theorem own_JP {tl rl : List Int32} {s off ar i : Int32} (H : own_J tl rl s off i.toInt) (h : ¬ i.toInt < ar.toInt) : own_P tl rl s off ar := fun j hj => H j (by omega)
theorem own_JN {tl rl : List Int32} {s off ar i si oi : Int32} (hs : si.toInt = s.toInt + i.toInt) (ho : oi.toInt = off.toInt + i.toInt) (h0 : 0 ≤ i.toInt) (h1 : 0 ≤ s.toInt) (h2 : 0 ≤ off.toInt) (hi : i.toInt < ar.toInt) (h : ¬ tl.getD si.toInt.toNat 0 = rl.getD oi.toInt.toNat 0) : ¬ own_P tl rl s off ar := fun H => by
  have q := H i.toInt.toNat (by omega)
  rw [show s.toInt.toNat + i.toInt.toNat = si.toInt.toNat by omega, show off.toInt.toNat + i.toInt.toNat = oi.toInt.toNat by omega] at q
  exact h q
theorem own_add2 {x y : Int32} (h1 : 0 ≤ x.toInt) (h2 : x.toInt ≤ 1000) (h3 : 0 ≤ y.toInt) (h4 : y.toInt ≤ 1000) : (x + y).toInt = x.toInt + y.toInt := by
  have q := c_iadd x y
  have r := rng32 (x + y)
  omega
theorem own_rem (x y : Int32) (h1 : 0 ≤ x.toInt) (h2 : 0 < y.toInt) : 0 ≤ (x % y).toInt ∧ (x % y).toInt < y.toInt := by
  have q := (c_iremV x y).1 h1 h2
  omega
theorem own_m3 (x : Int32) : 0 ≤ (x &&& 3).toInt := (c_and x 3 (by decide)).1
theorem own_res {v : Option Value} {P : Prop} (h : (v = some (.int 1) ∧ P) ∨ (v = some (.int 0) ∧ ¬ P)) : ∃ r : Int32, v = some (.int r) ∧ ((r = 1 ∧ P) ∨ (r = 0 ∧ ¬ P)) := by
  rcases h with ⟨h, p⟩ | ⟨h, p⟩
  · exact ⟨1, h, Or.inl ⟨rfl, p⟩⟩
  · exact ⟨0, h, Or.inr ⟨rfl, p⟩⟩
theorem own_fin {P Q : Prop} [Decidable Q] {r b : Int32} (h : (r = 1 ∧ P) ∨ (r = 0 ∧ ¬ P)) (hb : b = if Q then 1 else 0) (hpq : P ↔ Q) : r = b := by
  subst hb
  rcases h with ⟨rfl, p⟩ | ⟨rfl, p⟩
  · rw [if_pos (hpq.mp p)]
  · rw [if_neg fun z => p (hpq.mpr z)]
theorem own_aa {a b : Int32} (h : a = 0 ∨ a = 1) (hb : b = if a = 0 then 2 else 3) : (b.toInt = 2 ∧ a = 0 ∨ b.toInt = 3 ∧ a = 1) ∧ (b + 1).toInt = b.toInt + 1 := by
  rcases h with rfl | rfl <;> subst hb <;> decide
theorem own_nz {b : Int32} (h : (b + 1).toInt = b.toInt + 1) {P Q : Prop} (hb : b.toInt = 2 ∧ P ∨ b.toInt = 3 ∧ Q) : b + 1 ≠ 0 := fun z => by
  rw [z] at h; have e : (0 : Int32).toInt = 0 := rfl
  omega
theorem own_off1 {o : Int32} (h : 0 ≤ o.toInt ∧ o.toInt < (3 : Int32).toInt) : (o + 1).toInt = o.toInt + 1 := by
  have e : (3 : Int32).toInt = 3 := rfl
  exact own_add2 (by omega) (by omega) (by decide) (by decide)
theorem own_off2 {o : Int32} (h : 0 ≤ o.toInt ∧ o.toInt < (3 : Int32).toInt) : (o + 2).toInt = o.toInt + 2 := by
  have e : (3 : Int32).toInt = 3 := rfl
  exact own_add2 (by omega) (by omega) (by decide) (by decide)
theorem own_at {a : Int32} (h : a = 0 ∨ a = 1) : 0 ≤ a.toInt ∧ a.toInt < ([0, 2, 5, 0, 0, 0, 0, 0, 0] : List Int32).length := by rcases h with rfl | rfl <;> decide
theorem own_fl {a : Int32} (h : a = 0 ∨ a = 1) : ([0, 2, 5, 0, 0, 0, 0, 0, 0] : List Int32).getD a.toInt.toNat 0 = if a = 0 then 0 else 2 := by rcases h with rfl | rfl <;> decide
theorem own_bd {a off ar aa c d a' b : Int32} {rl : List Int32} (h : a = 0 ∨ a = 1) (ho : 0 ≤ off.toInt ∧ off.toInt < (3 : Int32).toInt) (ha : 0 ≤ ar.toInt ∧ ar.toInt < aa.toInt + 1) {P : Prop} (hb : (aa.toInt = 2 ∧ a = 0 ∨ aa.toInt = 3 ∧ a = 1) ∧ P) (hl : rl.length = 5) :
    0 ≤ (if a = 0 then (0 : Int32) else 2).toInt ∧ 0 ≤ off.toInt ∧ 0 ≤ ar.toInt ∧ (if a = 0 then (0 : Int32) else 2).toInt + ar.toInt ≤ ([c, d, a', b, c, 0, 0, 0, 0, 0, 0, 0, 0, 0, 0, 0] : List Int32).length ∧ off.toInt + ar.toInt ≤ rl.length ∧ ([c, d, a', b, c, 0, 0, 0, 0, 0, 0, 0, 0, 0, 0, 0] : List Int32).length < 500 ∧ rl.length < 500 := by
  have e : (3 : Int32).toInt = 3 := rfl
  have hb := hb.1
  have q : ([c, d, a', b, c, 0, 0, 0, 0, 0, 0, 0, 0, 0, 0, 0] : List Int32).length = 16 := rfl
  have e2 : (if a = 0 then (0 : Int32) else 2).toInt = 0 ∨ (if a = 0 then (0 : Int32) else 2).toInt = 2 := by rcases h with rfl | rfl <;> decide
  rw [q]; omega
theorem own_t0 {a t c d a' b : Int32} (h : a = 0 ∨ a = 1) (e : t = if a = 0 then c else a') : ([c, d, a', b, c, 0, 0, 0, 0, 0, 0, 0, 0, 0, 0, 0] : List Int32).getD (if a = 0 then (0 : Int32) else 2).toInt.toNat 0 = t := by rcases h with rfl | rfl <;> subst e <;> rfl
theorem own_t1 {a t c d a' b : Int32} (h : a = 0 ∨ a = 1) (e : t = if a = 0 then d else b) : ([c, d, a', b, c, 0, 0, 0, 0, 0, 0, 0, 0, 0, 0, 0] : List Int32).getD ((if a = 0 then (0 : Int32) else 2).toInt.toNat + 1) 0 = t := by rcases h with rfl | rfl <;> subst e <;> rfl
theorem own_t2 {a ar aa c d a' b : Int32} (h : a = 0 ∨ a = 1) (ha : 0 ≤ ar.toInt ∧ ar.toInt < aa.toInt + 1) {P : Prop} (hb : (aa.toInt = 2 ∧ a = 0 ∨ aa.toInt = 3 ∧ a = 1) ∧ P) : ¬ ar < 3 → ([c, d, a', b, c, 0, 0, 0, 0, 0, 0, 0, 0, 0, 0, 0] : List Int32).getD ((if a = 0 then (0 : Int32) else 2).toInt.toNat + 2) 0 = c := fun z => by
  rw [own_lt] at z
  have e : (3 : Int32).toInt = 3 := rfl
  rcases hb.1 with q | q
  · omega
  · rw [q.2]; rfl
theorem own_d1_0 : decode prog_123_method_1_code 0 = .ok (.aload_n 0, 1) := by decide +kernel
theorem own_d1_1 : decode prog_123_method_1_code 1 = .ok (.invokespecial 1, 3) := by decide +kernel
theorem own_d1_4 : decode prog_123_method_1_code 4 = .ok (.aload_n 0, 1) := by decide +kernel
theorem own_d1_5 : decode prog_123_method_1_code 5 = .ok (.bipush 8, 2) := by decide +kernel
theorem own_d1_7 : decode prog_123_method_1_code 7 = .ok (.newarray .int, 2) := by decide +kernel
theorem own_d1_9 : decode prog_123_method_1_code 9 = .ok (.putfield 7, 3) := by decide +kernel
theorem own_d1_12 : decode prog_123_method_1_code 12 = .ok (.aload_n 0, 1) := by decide +kernel
theorem own_d1_13 : decode prog_123_method_1_code 13 = .ok (.bipush 9, 2) := by decide +kernel
theorem own_d1_15 : decode prog_123_method_1_code 15 = .ok (.newarray .int, 2) := by decide +kernel
theorem own_d1_17 : decode prog_123_method_1_code 17 = .ok (.putfield 13, 3) := by decide +kernel
theorem own_d1_20 : decode prog_123_method_1_code 20 = .ok (.aload_n 0, 1) := by decide +kernel
theorem own_d1_21 : decode prog_123_method_1_code 21 = .ok (.bipush 16, 2) := by decide +kernel
theorem own_d1_23 : decode prog_123_method_1_code 23 = .ok (.newarray .int, 2) := by decide +kernel
theorem own_d1_25 : decode prog_123_method_1_code 25 = .ok (.putfield 16, 3) := by decide +kernel
theorem own_d1_28 : decode prog_123_method_1_code 28 = .ok (.return_, 1) := by decide +kernel
theorem own_pn1 : plainName "com/example/libchase/libchase/core/store/AtomTable" = true := by first | (simp [plainName, overriddenIn]; done) | decide +kernel
set_option maxRecDepth 65536 in
set_option maxHeartbeats 40000000 in
theorem own_init (l : Launch) (Z : State) (a0 : Array Value) (hw : ∀ d ∈ tables_1, d.before a0 Z = true) (o : Addr) (h0 : Heap) (n0 : Nat) (Z0 : n0 ≤ h0.size) (go : n0 ≤ o) (Eo : Exa Z h0 o "com/example/libchase/libchase/core/store/AtomTable") (F1 : Fld Z h0 o "com/example/libchase/libchase/core/store/AtomTable" "predicateOf" "[I" .null) (F2 : Fld Z h0 o "com/example/libchase/libchase/core/store/AtomTable" "firstTerm" "[I" .null) (F3 : Fld Z h0 o "com/example/libchase/libchase/core/store/AtomTable" "terms" "[I" .null) (F4 : Fld Z h0 o "com/example/libchase/libchase/core/store/AtomTable" "size" "I" (.int (0 : Int32))) :
    Con l Z (⟨"com/example/libchase/libchase/core/store/AtomTable", "<init>", "()V"⟩ : MethodName) prog_123_method_1_code 1 none ({ frames := 1, cells := 3, slots := 33, locals := 12 } : Room) n0 h0 #[(.ref o)] (fun v h => v = none ∧ ∃ pa f t, (h0.size ≤ pa ∧ h0.size ≤ f ∧ h0.size ≤ t) ∧ (o ≠ pa ∧ o ≠ f ∧ o ≠ t ∧ pa ≠ f ∧ pa ≠ t ∧ f ≠ t) ∧ Keep h0 h [o] ∧ Fld Z h o "com/example/libchase/libchase/core/store/AtomTable" "predicateOf" "[I" (.ref pa) ∧ Fld Z h o "com/example/libchase/libchase/core/store/AtomTable" "firstTerm" "[I" (.ref f) ∧ Fld Z h o "com/example/libchase/libchase/core/store/AtomTable" "terms" "[I" (.ref t) ∧ Fld Z h o "com/example/libchase/libchase/core/store/AtomTable" "size" "I" (.int (0 : Int32)) ∧ IV Z h pa [(0 : Int32), (0 : Int32), (0 : Int32), (0 : Int32), (0 : Int32), (0 : Int32), (0 : Int32), (0 : Int32)] ∧ IV Z h f [(0 : Int32), (0 : Int32), (0 : Int32), (0 : Int32), (0 : Int32), (0 : Int32), (0 : Int32), (0 : Int32), (0 : Int32)] ∧ IV Z h t [(0 : Int32), (0 : Int32), (0 : Int32), (0 : Int32), (0 : Int32), (0 : Int32), (0 : Int32), (0 : Int32), (0 : Int32), (0 : Int32), (0 : Int32), (0 : Int32), (0 : Int32), (0 : Int32), (0 : Int32), (0 : Int32)]) := by
  refine Con.intro (plainFor_of_name own_pn1) (Ls := #[.val (.ref o)]) (fun m => by first | (simp [entryFrame, mkF, argsToLocals, Value.category]; done) | rfl) ?_
  intro p e s m below meth c s₁ hx hby hml hown hnm hret hlk hZ S0
  have A0 := S0.here
  have K1 := Keep.refl h0 [o]
  refine k_aloadN A0 hx (hb hby own_d1_0) rfl rfl (pc' := 1) rfl ?_
  refine k_via S0 (f := (mkF m 1 #[.val (.ref o)] [(.ref o)])) (f' := (mkF m 4 #[.val (.ref o)] [])) (fun _ X eT => initO X hx hZ hown (hw _ (List.mem_of_getElem? (i := 6) rfl)) (hw _ (List.mem_of_getElem? (i := 7) rfl)) (hw _ (List.mem_of_getElem? (i := 8) rfl)) eT (g := (mkF m 1 #[.val (.ref o)] [(.ref o)])) rfl (by rw [hml]; rfl) rfl (hb hby own_d1_1) (by decide) (W := 0) (Nat.le_of_eq rfl) (by decide)) ?_
  intro T2 S2
  have A2 := S2.here
  refine k_aloadN A2 hx (hb hby own_d1_4) rfl rfl (pc' := 5) rfl ?_
  refine k_bipush A2 hx (hb hby own_d1_5) (v := 8) rfl (pc' := 7) rfl ?_
  refine k_newint S2 hx hZ (hw _ (List.mem_of_getElem? (i := 9) rfl)) (hb hby own_d1_7) (by decide) 8 (by decide) (by decide) (by decide) (by decide) (pc' := 9) rfl ?_
  intro T3 h3 b3 g3 E3 V3 S3
  have ne4 : o ≠ b3 := by rw [g3]; exact Nat.ne_of_lt Eo.lt
  have bo5 : h0.size ≤ b3 := Nat.le_trans K1.1 (Nat.le_of_eq g3.symm)
  have ge5 : n0 ≤ b3 := Nat.le_trans Z0 bo5
  have A3 := S3.here
  have f6 := Eo.ext E3
  have f7 := F1.ext E3
  have f8 := F2.ext E3
  have f9 := F3.ext E3
  have f10 := F4.ext E3
  have K11 := K1.ext E3
  have V3 : IV Z h3 b3 [(0 : Int32), (0 : Int32), (0 : Int32), (0 : Int32), (0 : Int32), (0 : Int32), (0 : Int32), (0 : Int32)] := V3
  refine k_putfield S3 hx hZ hown (hw _ (List.mem_of_getElem? (i := 10) rfl)) f7 f6 (Or.inl (hw _ (List.mem_of_getElem? (i := 11) rfl))) (hw _ (List.mem_of_getElem? (i := 1) rfl)) (ty := (.array .int)) (by decide) rfl rfl go (hb hby own_d1_9) (pc' := 12) rfl ?_
  intro T12 h12 W12 S12
  have A12 := S12.here
  have f13 := f6.wr W12
  have f14 := f7.same W12
  have f15 := f8.other W12 (Or.inr (slot_ne (Or.inl (hw _ (List.mem_of_getElem? (i := 13) rfl))) (Or.inl (hw _ (List.mem_of_getElem? (i := 11) rfl))) (by decide) (t := (.array .int)) (t' := (.array .int)) (by decide) (by decide)))
  have f16 := f9.other W12 (Or.inr (slot_ne (Or.inl (hw _ (List.mem_of_getElem? (i := 15) rfl))) (Or.inl (hw _ (List.mem_of_getElem? (i := 11) rfl))) (by decide) (t := (.array .int)) (t' := (.array .int)) (by decide) (by decide)))
  have f17 := f10.other W12 (Or.inr (slot_ne (Or.inl (hw _ (List.mem_of_getElem? (i := 22) rfl))) (Or.inl (hw _ (List.mem_of_getElem? (i := 11) rfl))) (by decide) (t := .int) (t' := (.array .int)) (by decide) (by decide)))
  have f18 := V3.other W12 (Ne.symm ne4)
  have K19 := K11.wr W12 (Or.inl (List.mem_of_getElem? (i := 0) rfl))
  refine k_aloadN A12 hx (hb hby own_d1_12) rfl rfl (pc' := 13) rfl ?_
  refine k_bipush A12 hx (hb hby own_d1_13) (v := 9) rfl (pc' := 15) rfl ?_
  refine k_newint S12 hx hZ (hw _ (List.mem_of_getElem? (i := 9) rfl)) (hb hby own_d1_15) (by decide) 9 (by decide) (by decide) (by decide) (by decide) (pc' := 17) rfl ?_
  intro T20 h20 b20 g20 E20 V20 S20
  have ne21 : o ≠ b20 := by rw [g20]; exact Nat.ne_of_lt f13.lt
  have ne22 : b3 ≠ b20 := by rw [g20]; exact Nat.ne_of_lt f18.lt
  have bo23 : h0.size ≤ b20 := Nat.le_trans K19.1 (Nat.le_of_eq g20.symm)
  have ge23 : n0 ≤ b20 := Nat.le_trans Z0 bo23
  have A20 := S20.here
  have f24 := f13.ext E20
  have f25 := f14.ext E20
  have f26 := f15.ext E20
  have f27 := f16.ext E20
  have f28 := f17.ext E20
  have f29 := f18.ext E20
  have K30 := K19.ext E20
  have V20 : IV Z h20 b20 [(0 : Int32), (0 : Int32), (0 : Int32), (0 : Int32), (0 : Int32), (0 : Int32), (0 : Int32), (0 : Int32), (0 : Int32)] := V20
  refine k_putfield S20 hx hZ hown (hw _ (List.mem_of_getElem? (i := 12) rfl)) f26 f24 (Or.inl (hw _ (List.mem_of_getElem? (i := 13) rfl))) (hw _ (List.mem_of_getElem? (i := 1) rfl)) (ty := (.array .int)) (by decide) rfl rfl go (hb hby own_d1_17) (pc' := 20) rfl ?_
  intro T31 h31 W31 S31
  have A31 := S31.here
  have f32 := f24.wr W31
  have f33 := f25.other W31 (Or.inr (slot_ne (Or.inl (hw _ (List.mem_of_getElem? (i := 11) rfl))) (Or.inl (hw _ (List.mem_of_getElem? (i := 13) rfl))) (by decide) (t := (.array .int)) (t' := (.array .int)) (by decide) (by decide)))
  have f34 := f26.same W31
  have f35 := f27.other W31 (Or.inr (slot_ne (Or.inl (hw _ (List.mem_of_getElem? (i := 15) rfl))) (Or.inl (hw _ (List.mem_of_getElem? (i := 13) rfl))) (by decide) (t := (.array .int)) (t' := (.array .int)) (by decide) (by decide)))
  have f36 := f28.other W31 (Or.inr (slot_ne (Or.inl (hw _ (List.mem_of_getElem? (i := 22) rfl))) (Or.inl (hw _ (List.mem_of_getElem? (i := 13) rfl))) (by decide) (t := .int) (t' := (.array .int)) (by decide) (by decide)))
  have f37 := f29.other W31 (Ne.symm ne4)
  have f38 := V20.other W31 (Ne.symm ne21)
  have K39 := K30.wr W31 (Or.inl (List.mem_of_getElem? (i := 0) rfl))
  refine k_aloadN A31 hx (hb hby own_d1_20) rfl rfl (pc' := 21) rfl ?_
  refine k_bipush A31 hx (hb hby own_d1_21) (v := 16) rfl (pc' := 23) rfl ?_
  refine k_newint S31 hx hZ (hw _ (List.mem_of_getElem? (i := 9) rfl)) (hb hby own_d1_23) (by decide) 16 (by decide) (by decide) (by decide) (by decide) (pc' := 25) rfl ?_
  intro T40 h40 b40 g40 E40 V40 S40
  have ne41 : o ≠ b40 := by rw [g40]; exact Nat.ne_of_lt f32.lt
  have ne42 : b3 ≠ b40 := by rw [g40]; exact Nat.ne_of_lt f37.lt
  have ne43 : b20 ≠ b40 := by rw [g40]; exact Nat.ne_of_lt f38.lt
  have bo44 : h0.size ≤ b40 := Nat.le_trans K39.1 (Nat.le_of_eq g40.symm)
  have ge44 : n0 ≤ b40 := Nat.le_trans Z0 bo44
  have A40 := S40.here
  have f45 := f32.ext E40
  have f46 := f33.ext E40
  have f47 := f34.ext E40
  have f48 := f35.ext E40
  have f49 := f36.ext E40
  have f50 := f37.ext E40
  have f51 := f38.ext E40
  have K52 := K39.ext E40
  have V40 : IV Z h40 b40 [(0 : Int32), (0 : Int32), (0 : Int32), (0 : Int32), (0 : Int32), (0 : Int32), (0 : Int32), (0 : Int32), (0 : Int32), (0 : Int32), (0 : Int32), (0 : Int32), (0 : Int32), (0 : Int32), (0 : Int32), (0 : Int32)] := V40
  refine k_putfield S40 hx hZ hown (hw _ (List.mem_of_getElem? (i := 14) rfl)) f48 f45 (Or.inl (hw _ (List.mem_of_getElem? (i := 15) rfl))) (hw _ (List.mem_of_getElem? (i := 1) rfl)) (ty := (.array .int)) (by decide) rfl rfl go (hb hby own_d1_25) (pc' := 28) rfl ?_
  intro T53 h53 W53 S53
  have A53 := S53.here
  have f54 := f45.wr W53
  have f55 := f46.other W53 (Or.inr (slot_ne (Or.inl (hw _ (List.mem_of_getElem? (i := 11) rfl))) (Or.inl (hw _ (List.mem_of_getElem? (i := 15) rfl))) (by decide) (t := (.array .int)) (t' := (.array .int)) (by decide) (by decide)))
  have f56 := f47.other W53 (Or.inr (slot_ne (Or.inl (hw _ (List.mem_of_getElem? (i := 13) rfl))) (Or.inl (hw _ (List.mem_of_getElem? (i := 15) rfl))) (by decide) (t := (.array .int)) (t' := (.array .int)) (by decide) (by decide)))
  have f57 := f48.same W53
  have f58 := f49.other W53 (Or.inr (slot_ne (Or.inl (hw _ (List.mem_of_getElem? (i := 22) rfl))) (Or.inl (hw _ (List.mem_of_getElem? (i := 15) rfl))) (by decide) (t := .int) (t' := (.array .int)) (by decide) (by decide)))
  have f59 := f50.other W53 (Ne.symm ne4)
  have f60 := f51.other W53 (Ne.symm ne21)
  have f61 := V40.other W53 (Ne.symm ne41)
  have K62 := K52.wr W53 (Or.inl (List.mem_of_getElem? (i := 0) rfl))
  refine k_ret_void S53 hx hret hlk (hb hby own_d1_28) (by decide) (by decide) ?_
  exact ⟨rfl, b3, b20, b40, ⟨bo5, bo23, bo44⟩, ⟨ne4, ne21, ne41, ne22, ne42, ne43⟩, K62, f55, f56, f57, f58, f59, f60, f61⟩
theorem own_d3_0 : decode prog_123_method_8_code 0 = .ok (.aload_n 0, 1) := by decide +kernel
theorem own_d3_1 : decode prog_123_method_8_code 1 = .ok (.getfield 19, 3) := by decide +kernel
theorem own_d3_4 : decode prog_123_method_8_code 4 = .ok (.aload_n 0, 1) := by decide +kernel
theorem own_d3_5 : decode prog_123_method_8_code 5 = .ok (.getfield 7, 3) := by decide +kernel
theorem own_d3_8 : decode prog_123_method_8_code 8 = .ok (.arraylength, 1) := by decide +kernel
theorem own_d3_9 : decode prog_123_method_8_code 9 = .ok (.if_icmp .ne 39, 3) := by decide +kernel
theorem own_d3_12 : decode prog_123_method_8_code 12 = .ok (.aload_n 0, 1) := by decide +kernel
theorem own_d3_13 : decode prog_123_method_8_code 13 = .ok (.aload_n 0, 1) := by decide +kernel
theorem own_d3_14 : decode prog_123_method_8_code 14 = .ok (.getfield 7, 3) := by decide +kernel
theorem own_d3_17 : decode prog_123_method_8_code 17 = .ok (.iconst 2, 1) := by decide +kernel
theorem own_d3_18 : decode prog_123_method_8_code 18 = .ok (.aload_n 0, 1) := by decide +kernel
theorem own_d3_19 : decode prog_123_method_8_code 19 = .ok (.getfield 19, 3) := by decide +kernel
theorem own_d3_22 : decode prog_123_method_8_code 22 = .ok (.imul, 1) := by decide +kernel
theorem own_d3_23 : decode prog_123_method_8_code 23 = .ok (.invokestatic 23, 3) := by decide +kernel
theorem own_d3_26 : decode prog_123_method_8_code 26 = .ok (.putfield 7, 3) := by decide +kernel
theorem own_d3_29 : decode prog_123_method_8_code 29 = .ok (.aload_n 0, 1) := by decide +kernel
theorem own_d3_30 : decode prog_123_method_8_code 30 = .ok (.aload_n 0, 1) := by decide +kernel
theorem own_d3_31 : decode prog_123_method_8_code 31 = .ok (.getfield 13, 3) := by decide +kernel
theorem own_d3_34 : decode prog_123_method_8_code 34 = .ok (.iconst 2, 1) := by decide +kernel
theorem own_d3_35 : decode prog_123_method_8_code 35 = .ok (.aload_n 0, 1) := by decide +kernel
theorem own_d3_36 : decode prog_123_method_8_code 36 = .ok (.getfield 19, 3) := by decide +kernel
theorem own_d3_39 : decode prog_123_method_8_code 39 = .ok (.imul, 1) := by decide +kernel
theorem own_d3_40 : decode prog_123_method_8_code 40 = .ok (.iconst 1, 1) := by decide +kernel
theorem own_d3_41 : decode prog_123_method_8_code 41 = .ok (.iadd, 1) := by decide +kernel
theorem own_d3_42 : decode prog_123_method_8_code 42 = .ok (.invokestatic 23, 3) := by decide +kernel
theorem own_d3_45 : decode prog_123_method_8_code 45 = .ok (.putfield 13, 3) := by decide +kernel
theorem own_d3_48 : decode prog_123_method_8_code 48 = .ok (.aload_n 0, 1) := by decide +kernel
theorem own_d3_49 : decode prog_123_method_8_code 49 = .ok (.getfield 13, 3) := by decide +kernel
theorem own_d3_52 : decode prog_123_method_8_code 52 = .ok (.aload_n 0, 1) := by decide +kernel
theorem own_d3_53 : decode prog_123_method_8_code 53 = .ok (.getfield 19, 3) := by decide +kernel
theorem own_d3_56 : decode prog_123_method_8_code 56 = .ok (.iaload, 1) := by decide +kernel
theorem own_d3_57 : decode prog_123_method_8_code 57 = .ok (.istore_n 3, 1) := by decide +kernel
theorem own_d3_58 : decode prog_123_method_8_code 58 = .ok (.iload_n 3, 1) := by decide +kernel
theorem own_d3_59 : decode prog_123_method_8_code 59 = .ok (.aload_n 2, 1) := by decide +kernel
theorem own_d3_60 : decode prog_123_method_8_code 60 = .ok (.arraylength, 1) := by decide +kernel
theorem own_d3_61 : decode prog_123_method_8_code 61 = .ok (.iadd, 1) := by decide +kernel
theorem own_d3_62 : decode prog_123_method_8_code 62 = .ok (.aload_n 0, 1) := by decide +kernel
theorem own_d3_63 : decode prog_123_method_8_code 63 = .ok (.getfield 16, 3) := by decide +kernel
theorem own_d3_66 : decode prog_123_method_8_code 66 = .ok (.arraylength, 1) := by decide +kernel
theorem own_d3_67 : decode prog_123_method_8_code 67 = .ok (.if_icmp .le 28, 3) := by decide +kernel
theorem own_d3_70 : decode prog_123_method_8_code 70 = .ok (.aload_n 0, 1) := by decide +kernel
theorem own_d3_71 : decode prog_123_method_8_code 71 = .ok (.aload_n 0, 1) := by decide +kernel
theorem own_d3_72 : decode prog_123_method_8_code 72 = .ok (.getfield 16, 3) := by decide +kernel
theorem own_d3_75 : decode prog_123_method_8_code 75 = .ok (.iconst 2, 1) := by decide +kernel
theorem own_d3_76 : decode prog_123_method_8_code 76 = .ok (.aload_n 0, 1) := by decide +kernel
theorem own_d3_77 : decode prog_123_method_8_code 77 = .ok (.getfield 16, 3) := by decide +kernel
theorem own_d3_80 : decode prog_123_method_8_code 80 = .ok (.arraylength, 1) := by decide +kernel
theorem own_d3_81 : decode prog_123_method_8_code 81 = .ok (.imul, 1) := by decide +kernel
theorem own_d3_82 : decode prog_123_method_8_code 82 = .ok (.iload_n 3, 1) := by decide +kernel
theorem own_d3_83 : decode prog_123_method_8_code 83 = .ok (.aload_n 2, 1) := by decide +kernel
theorem own_d3_84 : decode prog_123_method_8_code 84 = .ok (.arraylength, 1) := by decide +kernel
theorem own_d3_85 : decode prog_123_method_8_code 85 = .ok (.iadd, 1) := by decide +kernel
theorem own_d3_86 : decode prog_123_method_8_code 86 = .ok (.invokestatic 29, 3) := by decide +kernel
theorem own_d3_89 : decode prog_123_method_8_code 89 = .ok (.invokestatic 23, 3) := by decide +kernel
theorem own_d3_92 : decode prog_123_method_8_code 92 = .ok (.putfield 16, 3) := by decide +kernel
theorem own_d3_95 : decode prog_123_method_8_code 95 = .ok (.aload_n 0, 1) := by decide +kernel
theorem own_d3_96 : decode prog_123_method_8_code 96 = .ok (.getfield 19, 3) := by decide +kernel
theorem own_d3_99 : decode prog_123_method_8_code 99 = .ok (.istore 4, 2) := by decide +kernel
theorem own_d3_101 : decode prog_123_method_8_code 101 = .ok (.aload_n 0, 1) := by decide +kernel
theorem own_d3_102 : decode prog_123_method_8_code 102 = .ok (.getfield 7, 3) := by decide +kernel
theorem own_d3_105 : decode prog_123_method_8_code 105 = .ok (.iload 4, 2) := by decide +kernel
theorem own_d3_107 : decode prog_123_method_8_code 107 = .ok (.iload_n 1, 1) := by decide +kernel
theorem own_d3_108 : decode prog_123_method_8_code 108 = .ok (.iastore, 1) := by decide +kernel
theorem own_d3_109 : decode prog_123_method_8_code 109 = .ok (.aload_n 2, 1) := by decide +kernel
theorem own_d3_110 : decode prog_123_method_8_code 110 = .ok (.iconst 0, 1) := by decide +kernel
theorem own_d3_111 : decode prog_123_method_8_code 111 = .ok (.aload_n 0, 1) := by decide +kernel
theorem own_d3_112 : decode prog_123_method_8_code 112 = .ok (.getfield 16, 3) := by decide +kernel
theorem own_d3_115 : decode prog_123_method_8_code 115 = .ok (.iload_n 3, 1) := by decide +kernel
theorem own_d3_116 : decode prog_123_method_8_code 116 = .ok (.aload_n 2, 1) := by decide +kernel
theorem own_d3_117 : decode prog_123_method_8_code 117 = .ok (.arraylength, 1) := by decide +kernel
theorem own_d3_118 : decode prog_123_method_8_code 118 = .ok (.invokestatic 35, 3) := by decide +kernel
theorem own_d3_121 : decode prog_123_method_8_code 121 = .ok (.aload_n 0, 1) := by decide +kernel
theorem own_d3_122 : decode prog_123_method_8_code 122 = .ok (.getfield 13, 3) := by decide +kernel
theorem own_d3_125 : decode prog_123_method_8_code 125 = .ok (.iload 4, 2) := by decide +kernel
theorem own_d3_127 : decode prog_123_method_8_code 127 = .ok (.iconst 1, 1) := by decide +kernel
theorem own_d3_128 : decode prog_123_method_8_code 128 = .ok (.iadd, 1) := by decide +kernel
theorem own_d3_129 : decode prog_123_method_8_code 129 = .ok (.iload_n 3, 1) := by decide +kernel
theorem own_d3_130 : decode prog_123_method_8_code 130 = .ok (.aload_n 2, 1) := by decide +kernel
theorem own_d3_131 : decode prog_123_method_8_code 131 = .ok (.arraylength, 1) := by decide +kernel
theorem own_d3_132 : decode prog_123_method_8_code 132 = .ok (.iadd, 1) := by decide +kernel
theorem own_d3_133 : decode prog_123_method_8_code 133 = .ok (.iastore, 1) := by decide +kernel
theorem own_d3_134 : decode prog_123_method_8_code 134 = .ok (.aload_n 0, 1) := by decide +kernel
theorem own_d3_135 : decode prog_123_method_8_code 135 = .ok (.dup, 1) := by decide +kernel
theorem own_d3_136 : decode prog_123_method_8_code 136 = .ok (.getfield 19, 3) := by decide +kernel
theorem own_d3_139 : decode prog_123_method_8_code 139 = .ok (.iconst 1, 1) := by decide +kernel
theorem own_d3_140 : decode prog_123_method_8_code 140 = .ok (.iadd, 1) := by decide +kernel
theorem own_d3_141 : decode prog_123_method_8_code 141 = .ok (.putfield 19, 3) := by decide +kernel
theorem own_d3_144 : decode prog_123_method_8_code 144 = .ok (.iload 4, 2) := by decide +kernel
theorem own_d3_146 : decode prog_123_method_8_code 146 = .ok (.ireturn, 1) := by decide +kernel
theorem own_pn3 : plainName "com/example/libchase/libchase/core/store/AtomTable" = true := by first | (simp [plainName, overriddenIn]; done) | decide +kernel
set_option maxRecDepth 65536 in
set_option maxHeartbeats 40000000 in
theorem own_cad1 (l : Launch) (Z : State) (a0 : Array Value) (hw : ∀ d ∈ tables_1, d.before a0 Z = true) (o : Addr) (kp : Int32) (x : Addr) (h0 : Heap) (n0 : Nat) (u0 u1 : Int32) (pa f t : Addr) (Z0 : n0 ≤ h0.size) (go : n0 ≤ o) (gp : n0 ≤ pa) (gf : n0 ≤ f) (gt : n0 ≤ t) (hne : (o ≠ pa ∧ o ≠ f ∧ o ≠ t ∧ pa ≠ f ∧ pa ≠ t ∧ f ≠ t)) (hxo : o ≠ x) (hxp : pa ≠ x) (hxf : f ≠ x) (hxt : t ≠ x) (Eo : Exa Z h0 o "com/example/libchase/libchase/core/store/AtomTable") (F1 : Fld Z h0 o "com/example/libchase/libchase/core/store/AtomTable" "predicateOf" "[I" (.ref pa)) (F2 : Fld Z h0 o "com/example/libchase/libchase/core/store/AtomTable" "firstTerm" "[I" (.ref f)) (F3 : Fld Z h0 o "com/example/libchase/libchase/core/store/AtomTable" "terms" "[I" (.ref t)) (F4 : Fld Z h0 o "com/example/libchase/libchase/core/store/AtomTable" "size" "I" (.int (0 : Int32))) (Vp : IV Z h0 pa [(0 : Int32), (0 : Int32), (0 : Int32), (0 : Int32), (0 : Int32), (0 : Int32), (0 : Int32), (0 : Int32)]) (Vf : IV Z h0 f [(0 : Int32), (0 : Int32), (0 : Int32), (0 : Int32), (0 : Int32), (0 : Int32), (0 : Int32), (0 : Int32), (0 : Int32)]) (Vt : IV Z h0 t [(0 : Int32), (0 : Int32), (0 : Int32), (0 : Int32), (0 : Int32), (0 : Int32), (0 : Int32), (0 : Int32), (0 : Int32), (0 : Int32), (0 : Int32), (0 : Int32), (0 : Int32), (0 : Int32), (0 : Int32), (0 : Int32)]) (Vx : IV Z h0 x [u0, u1]) :
    Con l Z (⟨"com/example/libchase/libchase/core/store/AtomTable", "add", "(I[I)I"⟩ : MethodName) prog_123_method_8_code 5 (some .int) ({ frames := 1, cells := 0, slots := 0, locals := 20 } : Room) n0 h0 #[(.ref o), (.int kp), (.ref x)] (fun v h => v = some (.int (0 : Int32)) ∧ Keep h0 h [o, pa, f, t] ∧ Fld Z h o "com/example/libchase/libchase/core/store/AtomTable" "predicateOf" "[I" (.ref pa) ∧ Fld Z h o "com/example/libchase/libchase/core/store/AtomTable" "firstTerm" "[I" (.ref f) ∧ Fld Z h o "com/example/libchase/libchase/core/store/AtomTable" "terms" "[I" (.ref t) ∧ Fld Z h o "com/example/libchase/libchase/core/store/AtomTable" "size" "I" (.int (1 : Int32)) ∧ IV Z h pa [kp, (0 : Int32), (0 : Int32), (0 : Int32), (0 : Int32), (0 : Int32), (0 : Int32), (0 : Int32)] ∧ IV Z h f [(0 : Int32), (2 : Int32), (0 : Int32), (0 : Int32), (0 : Int32), (0 : Int32), (0 : Int32), (0 : Int32), (0 : Int32)] ∧ IV Z h t [u0, u1, (0 : Int32), (0 : Int32), (0 : Int32), (0 : Int32), (0 : Int32), (0 : Int32), (0 : Int32), (0 : Int32), (0 : Int32), (0 : Int32), (0 : Int32), (0 : Int32), (0 : Int32), (0 : Int32)]) := by
  refine Con.intro (plainFor_of_name own_pn3) (Ls := #[.val (.ref o), .val (.int kp), .val (.ref x), .unset, .unset]) (fun m => by first | (simp [entryFrame, mkF, argsToLocals, Value.category]; done) | rfl) ?_
  intro p e s m below meth c s₁ hx hby hml hown hnm hret hlk hZ S0
  have A0 := S0.here
  have K1 := Keep.refl h0 [o, pa, f, t]
  refine k_aloadN A0 hx (hb hby own_d3_0) rfl rfl (pc' := 1) rfl ?_
  refine k_getfield S0 hx hZ hown (hw _ (List.mem_of_getElem? (i := 21) rfl)) F4 (hb hby own_d3_1) (pc' := 4) rfl ?_
  intro T2 S2
  have A2 := S2.here
  refine k_aloadN A2 hx (hb hby own_d3_4) rfl rfl (pc' := 5) rfl ?_
  refine k_getfield S2 hx hZ hown (hw _ (List.mem_of_getElem? (i := 10) rfl)) F1 (hb hby own_d3_5) (pc' := 8) rfl ?_
  intro T3 S3
  have A3 := S3.here
  refine k_arraylength S3 hx hZ Vp (hb hby own_d3_8) (z := (8 : Int32)) rfl (pc' := 9) rfl ?_
  refine k_icmp_ne A3 hx (hb hby own_d3_9) (pcY := 48) (by decide) (pc' := 12) rfl (fun hc9 => ?_) (fun hc9 => absurd hc9 (by decide))
  refine k_aloadN A3 hx (hb hby own_d3_48) rfl rfl (pc' := 49) rfl ?_
  refine k_getfield S3 hx hZ hown (hw _ (List.mem_of_getElem? (i := 12) rfl)) F2 (hb hby own_d3_49) (pc' := 52) rfl ?_
  intro T4 S4
  have A4 := S4.here
  refine k_aloadN A4 hx (hb hby own_d3_52) rfl rfl (pc' := 53) rfl ?_
  refine k_getfield S4 hx hZ hown (hw _ (List.mem_of_getElem? (i := 21) rfl)) F4 (hb hby own_d3_53) (pc' := 56) rfl ?_
  intro T5 S5
  have A5 := S5.here
  refine k_iaload S5 hx hZ Vf (hb hby own_d3_56) (by decide) (by first | decide | (simp; done)) (w := (0 : Int32)) rfl (pc' := 57) rfl ?_
  refine k_istoreN A5 hx (hb hby own_d3_57) (Ls' := #[.val (.ref o), .val (.int kp), .val (.ref x), .val (.int (0 : Int32)), .unset]) rfl (pc' := 58) rfl ?_
  refine k_iloadN A5 hx (hb hby own_d3_58) rfl (pc' := 59) rfl ?_
  refine k_aloadN A5 hx (hb hby own_d3_59) rfl rfl (pc' := 60) rfl ?_
  refine k_arraylength S5 hx hZ Vx (hb hby own_d3_60) (z := (2 : Int32)) rfl (pc' := 61) rfl ?_
  refine k_iadd A5 hx (hb hby own_d3_61) (pc' := 62) rfl ?_
  rw [show ((0 : Int32) + (2 : Int32)) = (2 : Int32) from by decide]
  refine k_aloadN A5 hx (hb hby own_d3_62) rfl rfl (pc' := 63) rfl ?_
  refine k_getfield S5 hx hZ hown (hw _ (List.mem_of_getElem? (i := 14) rfl)) F3 (hb hby own_d3_63) (pc' := 66) rfl ?_
  intro T6 S6
  have A6 := S6.here
  refine k_arraylength S6 hx hZ Vt (hb hby own_d3_66) (z := (16 : Int32)) rfl (pc' := 67) rfl ?_
  refine k_icmp_le A6 hx (hb hby own_d3_67) (pcY := 95) (by decide) (pc' := 70) rfl (fun hc67 => ?_) (fun hc67 => absurd hc67 (by decide))
  refine k_aloadN A6 hx (hb hby own_d3_95) rfl rfl (pc' := 96) rfl ?_
  refine k_getfield S6 hx hZ hown (hw _ (List.mem_of_getElem? (i := 21) rfl)) F4 (hb hby own_d3_96) (pc' := 99) rfl ?_
  intro T7 S7
  have A7 := S7.here
  refine k_istore A7 hx (hb hby own_d3_99) (Ls' := #[.val (.ref o), .val (.int kp), .val (.ref x), .val (.int (0 : Int32)), .val (.int (0 : Int32))]) rfl (pc' := 101) rfl ?_
  refine k_aloadN A7 hx (hb hby own_d3_101) rfl rfl (pc' := 102) rfl ?_
  refine k_getfield S7 hx hZ hown (hw _ (List.mem_of_getElem? (i := 10) rfl)) F1 (hb hby own_d3_102) (pc' := 105) rfl ?_
  intro T8 S8
  have A8 := S8.here
  refine k_iload A8 hx (hb hby own_d3_105) rfl (pc' := 107) rfl ?_
  refine k_iloadN A8 hx (hb hby own_d3_107) rfl (pc' := 108) rfl ?_
  refine k_iastore S8 hx hZ Vp (hb hby own_d3_108) (by decide) (by first | decide | (simp; done)) gp (pc' := 109) rfl ?_
  intro T9 h9 W9 V9 S9
  have A9 := S9.here
  have f10 := Eo.wr W9
  have f11 := F1.other W9 (Or.inl hne.1)
  have f12 := F2.other W9 (Or.inl hne.1)
  have f13 := F3.other W9 (Or.inl hne.1)
  have f14 := F4.other W9 (Or.inl hne.1)
  have f16 := Vf.other W9 (Ne.symm hne.2.2.2.1)
  have f17 := Vt.other W9 (Ne.symm hne.2.2.2.2.1)
  have f18 := Vx.other W9 (Ne.symm hxp)
  have K19 := K1.wr W9 (Or.inl (List.mem_of_getElem? (i := 1) rfl))
  have V9 : IV Z h9 pa [kp, (0 : Int32), (0 : Int32), (0 : Int32), (0 : Int32), (0 : Int32), (0 : Int32), (0 : Int32)] := V9
  refine k_aloadN A9 hx (hb hby own_d3_109) rfl rfl (pc' := 110) rfl ?_
  refine k_iconst A9 hx (hb hby own_d3_110) (v := 0) rfl (pc' := 111) rfl ?_
  refine k_aloadN A9 hx (hb hby own_d3_111) rfl rfl (pc' := 112) rfl ?_
  refine k_getfield S9 hx hZ hown (hw _ (List.mem_of_getElem? (i := 14) rfl)) f13 (hb hby own_d3_112) (pc' := 115) rfl ?_
  intro T20 S20
  have A20 := S20.here
  refine k_iloadN A20 hx (hb hby own_d3_115) rfl (pc' := 116) rfl ?_
  refine k_aloadN A20 hx (hb hby own_d3_116) rfl rfl (pc' := 117) rfl ?_
  refine k_arraylength S20 hx hZ f18 (hb hby own_d3_117) (z := (2 : Int32)) rfl (pc' := 118) rfl ?_
  refine k_arraycopyD S20 hx hZ hown (hw _ (List.mem_of_getElem? (i := 23) rfl)) (hw _ (List.mem_of_getElem? (i := 26) rfl)) (hw _ (List.mem_of_getElem? (i := 24) rfl)) (hw _ (List.mem_of_getElem? (i := 25) rfl)) f18 f17 (by decide) (by first | decide | (simp; done)) (by decide) (by first | decide | (simp; done)) gt (by rw [hml]; rfl) (hb hby own_d3_118) (by decide) 0 (Nat.le_refl _) (by decide) (pc' := 121) rfl ?_
  intro T21 h21 K21 V21 S21
  have A21 := S21.here
  have f22 := f10.keep K21
  have f23 := f11.keep K21 (ninS hne.2.2.1 nin0)
  have f24 := f12.keep K21 (ninS hne.2.2.1 nin0)
  have f25 := f13.keep K21 (ninS hne.2.2.1 nin0)
  have f26 := f14.keep K21 (ninS hne.2.2.1 nin0)
  have f27 := f16.keep K21 (ninS hne.2.2.2.2.2 nin0)
  have f29 := f18.keep K21 (ninS (Ne.symm hxt) nin0)
  have f30 := V9.keep K21 (ninS hne.2.2.2.2.1 nin0)
  have K31 := K19.trans K21 (allS (Or.inl (List.mem_of_getElem? (i := 3) rfl)) all0)
  have V21 : IV Z h21 t [u0, u1, (0 : Int32), (0 : Int32), (0 : Int32), (0 : Int32), (0 : Int32), (0 : Int32), (0 : Int32), (0 : Int32), (0 : Int32), (0 : Int32), (0 : Int32), (0 : Int32), (0 : Int32), (0 : Int32)] := V21
  refine k_aloadN A21 hx (hb hby own_d3_121) rfl rfl (pc' := 122) rfl ?_
  refine k_getfield S21 hx hZ hown (hw _ (List.mem_of_getElem? (i := 12) rfl)) f24 (hb hby own_d3_122) (pc' := 125) rfl ?_
  intro T32 S32
  have A32 := S32.here
  refine k_iload A32 hx (hb hby own_d3_125) rfl (pc' := 127) rfl ?_
  refine k_iconst A32 hx (hb hby own_d3_127) (v := 1) rfl (pc' := 128) rfl ?_
  refine k_iadd A32 hx (hb hby own_d3_128) (pc' := 129) rfl ?_
  rw [show ((0 : Int32) + (1 : Int32)) = (1 : Int32) from by decide]
  refine k_iloadN A32 hx (hb hby own_d3_129) rfl (pc' := 130) rfl ?_
  refine k_aloadN A32 hx (hb hby own_d3_130) rfl rfl (pc' := 131) rfl ?_
  refine k_arraylength S32 hx hZ f29 (hb hby own_d3_131) (z := (2 : Int32)) rfl (pc' := 132) rfl ?_
  refine k_iadd A32 hx (hb hby own_d3_132) (pc' := 133) rfl ?_
  rw [show ((0 : Int32) + (2 : Int32)) = (2 : Int32) from by decide]
  refine k_iastore S32 hx hZ f27 (hb hby own_d3_133) (by decide) (by first | decide | (simp; done)) gf (pc' := 134) rfl ?_
  intro T33 h33 W33 V33 S33
  have A33 := S33.here
  have f34 := f22.wr W33
  have f35 := f23.other W33 (Or.inl hne.2.1)
  have f36 := f24.other W33 (Or.inl hne.2.1)
  have f37 := f25.other W33 (Or.inl hne.2.1)
  have f38 := f26.other W33 (Or.inl hne.2.1)
  have f40 := f29.other W33 (Ne.symm hxf)
  have f41 := f30.other W33 hne.2.2.2.1
  have f42 := V21.other W33 (Ne.symm hne.2.2.2.2.2)
  have K43 := K31.wr W33 (Or.inl (List.mem_of_getElem? (i := 2) rfl))
  have V33 : IV Z h33 f [(0 : Int32), (2 : Int32), (0 : Int32), (0 : Int32), (0 : Int32), (0 : Int32), (0 : Int32), (0 : Int32), (0 : Int32)] := V33
  refine k_aloadN A33 hx (hb hby own_d3_134) rfl rfl (pc' := 135) rfl ?_
  refine k_dup A33 hx (hb hby own_d3_135) rfl (pc' := 136) rfl ?_
  refine k_getfield S33 hx hZ hown (hw _ (List.mem_of_getElem? (i := 21) rfl)) f38 (hb hby own_d3_136) (pc' := 139) rfl ?_
  intro T44 S44
  have A44 := S44.here
  refine k_iconst A44 hx (hb hby own_d3_139) (v := 1) rfl (pc' := 140) rfl ?_
  refine k_iadd A44 hx (hb hby own_d3_140) (pc' := 141) rfl ?_
  rw [show ((0 : Int32) + (1 : Int32)) = (1 : Int32) from by decide]
  refine k_putfield S44 hx hZ hown (hw _ (List.mem_of_getElem? (i := 21) rfl)) f38 f34 (Or.inl (hw _ (List.mem_of_getElem? (i := 22) rfl))) (hw _ (List.mem_of_getElem? (i := 1) rfl)) (ty := .int) (by decide) rfl rfl go (hb hby own_d3_141) (pc' := 144) rfl ?_
  intro T45 h45 W45 S45
  have A45 := S45.here
  have f46 := f34.wr W45
  have f47 := f35.other W45 (Or.inr (slot_ne (Or.inl (hw _ (List.mem_of_getElem? (i := 11) rfl))) (Or.inl (hw _ (List.mem_of_getElem? (i := 22) rfl))) (by decide) (t := (.array .int)) (t' := .int) (by decide) (by decide)))
  have f48 := f36.other W45 (Or.inr (slot_ne (Or.inl (hw _ (List.mem_of_getElem? (i := 13) rfl))) (Or.inl (hw _ (List.mem_of_getElem? (i := 22) rfl))) (by decide) (t := (.array .int)) (t' := .int) (by decide) (by decide)))
  have f49 := f37.other W45 (Or.inr (slot_ne (Or.inl (hw _ (List.mem_of_getElem? (i := 15) rfl))) (Or.inl (hw _ (List.mem_of_getElem? (i := 22) rfl))) (by decide) (t := (.array .int)) (t' := .int) (by decide) (by decide)))
  have f50 := f38.same W45
  have f51 := f40.other W45 (Ne.symm hxo)
  have f52 := f41.other W45 (Ne.symm hne.1)
  have f53 := f42.other W45 (Ne.symm hne.2.2.1)
  have f54 := V33.other W45 (Ne.symm hne.2.1)
  have K55 := K43.wr W45 (Or.inl (List.mem_of_getElem? (i := 0) rfl))
  refine k_iload A45 hx (hb hby own_d3_144) rfl (pc' := 146) rfl ?_
  refine k_ret_int S45 hx hret hlk (hb hby own_d3_146) (by decide) (by decide) ?_
  exact ⟨rfl, K55, f47, f48, f49, f50, f52, f54, f53⟩
set_option maxRecDepth 65536 in
set_option maxHeartbeats 40000000 in
theorem own_cad2 (l : Launch) (Z : State) (a0 : Array Value) (hw : ∀ d ∈ tables_1, d.before a0 Z = true) (o : Addr) (kp : Int32) (x : Addr) (h0 : Heap) (n0 : Nat) (k1 u0 u1 w0 w1 w2 : Int32) (pa f t : Addr) (Z0 : n0 ≤ h0.size) (go : n0 ≤ o) (gp : n0 ≤ pa) (gf : n0 ≤ f) (gt : n0 ≤ t) (hne : (o ≠ pa ∧ o ≠ f ∧ o ≠ t ∧ pa ≠ f ∧ pa ≠ t ∧ f ≠ t)) (hxo : o ≠ x) (hxp : pa ≠ x) (hxf : f ≠ x) (hxt : t ≠ x) (Eo : Exa Z h0 o "com/example/libchase/libchase/core/store/AtomTable") (F1 : Fld Z h0 o "com/example/libchase/libchase/core/store/AtomTable" "predicateOf" "[I" (.ref pa)) (F2 : Fld Z h0 o "com/example/libchase/libchase/core/store/AtomTable" "firstTerm" "[I" (.ref f)) (F3 : Fld Z h0 o "com/example/libchase/libchase/core/store/AtomTable" "terms" "[I" (.ref t)) (F4 : Fld Z h0 o "com/example/libchase/libchase/core/store/AtomTable" "size" "I" (.int (1 : Int32))) (Vp : IV Z h0 pa [k1, (0 : Int32), (0 : Int32), (0 : Int32), (0 : Int32), (0 : Int32), (0 : Int32), (0 : Int32)]) (Vf : IV Z h0 f [(0 : Int32), (2 : Int32), (0 : Int32), (0 : Int32), (0 : Int32), (0 : Int32), (0 : Int32), (0 : Int32), (0 : Int32)]) (Vt : IV Z h0 t [u0, u1, (0 : Int32), (0 : Int32), (0 : Int32), (0 : Int32), (0 : Int32), (0 : Int32), (0 : Int32), (0 : Int32), (0 : Int32), (0 : Int32), (0 : Int32), (0 : Int32), (0 : Int32), (0 : Int32)]) (Vx : IV Z h0 x [w0, w1, w2]) :
    Con l Z (⟨"com/example/libchase/libchase/core/store/AtomTable", "add", "(I[I)I"⟩ : MethodName) prog_123_method_8_code 5 (some .int) ({ frames := 1, cells := 0, slots := 0, locals := 20 } : Room) n0 h0 #[(.ref o), (.int kp), (.ref x)] (fun v h => v = some (.int (1 : Int32)) ∧ Keep h0 h [o, pa, f, t] ∧ Fld Z h o "com/example/libchase/libchase/core/store/AtomTable" "predicateOf" "[I" (.ref pa) ∧ Fld Z h o "com/example/libchase/libchase/core/store/AtomTable" "firstTerm" "[I" (.ref f) ∧ Fld Z h o "com/example/libchase/libchase/core/store/AtomTable" "terms" "[I" (.ref t) ∧ Fld Z h o "com/example/libchase/libchase/core/store/AtomTable" "size" "I" (.int (2 : Int32)) ∧ IV Z h pa [k1, kp, (0 : Int32), (0 : Int32), (0 : Int32), (0 : Int32), (0 : Int32), (0 : Int32)] ∧ IV Z h f [(0 : Int32), (2 : Int32), (5 : Int32), (0 : Int32), (0 : Int32), (0 : Int32), (0 : Int32), (0 : Int32), (0 : Int32)] ∧ IV Z h t [u0, u1, w0, w1, w2, (0 : Int32), (0 : Int32), (0 : Int32), (0 : Int32), (0 : Int32), (0 : Int32), (0 : Int32), (0 : Int32), (0 : Int32), (0 : Int32), (0 : Int32)]) := by
  refine Con.intro (plainFor_of_name own_pn3) (Ls := #[.val (.ref o), .val (.int kp), .val (.ref x), .unset, .unset]) (fun m => by first | (simp [entryFrame, mkF, argsToLocals, Value.category]; done) | rfl) ?_
  intro p e s m below meth c s₁ hx hby hml hown hnm hret hlk hZ S0
  have A0 := S0.here
  have K1 := Keep.refl h0 [o, pa, f, t]
  refine k_aloadN A0 hx (hb hby own_d3_0) rfl rfl (pc' := 1) rfl ?_
  refine k_getfield S0 hx hZ hown (hw _ (List.mem_of_getElem? (i := 21) rfl)) F4 (hb hby own_d3_1) (pc' := 4) rfl ?_
  intro T2 S2
  have A2 := S2.here
  refine k_aloadN A2 hx (hb hby own_d3_4) rfl rfl (pc' := 5) rfl ?_
  refine k_getfield S2 hx hZ hown (hw _ (List.mem_of_getElem? (i := 10) rfl)) F1 (hb hby own_d3_5) (pc' := 8) rfl ?_
  intro T3 S3
  have A3 := S3.here
  refine k_arraylength S3 hx hZ Vp (hb hby own_d3_8) (z := (8 : Int32)) rfl (pc' := 9) rfl ?_
  refine k_icmp_ne A3 hx (hb hby own_d3_9) (pcY := 48) (by decide) (pc' := 12) rfl (fun hc9 => ?_) (fun hc9 => absurd hc9 (by decide))
  refine k_aloadN A3 hx (hb hby own_d3_48) rfl rfl (pc' := 49) rfl ?_
  refine k_getfield S3 hx hZ hown (hw _ (List.mem_of_getElem? (i := 12) rfl)) F2 (hb hby own_d3_49) (pc' := 52) rfl ?_
  intro T4 S4
  have A4 := S4.here
  refine k_aloadN A4 hx (hb hby own_d3_52) rfl rfl (pc' := 53) rfl ?_
  refine k_getfield S4 hx hZ hown (hw _ (List.mem_of_getElem? (i := 21) rfl)) F4 (hb hby own_d3_53) (pc' := 56) rfl ?_
  intro T5 S5
  have A5 := S5.here
  refine k_iaload S5 hx hZ Vf (hb hby own_d3_56) (by decide) (by first | decide | (simp; done)) (w := (2 : Int32)) rfl (pc' := 57) rfl ?_
  refine k_istoreN A5 hx (hb hby own_d3_57) (Ls' := #[.val (.ref o), .val (.int kp), .val (.ref x), .val (.int (2 : Int32)), .unset]) rfl (pc' := 58) rfl ?_
  refine k_iloadN A5 hx (hb hby own_d3_58) rfl (pc' := 59) rfl ?_
  refine k_aloadN A5 hx (hb hby own_d3_59) rfl rfl (pc' := 60) rfl ?_
  refine k_arraylength S5 hx hZ Vx (hb hby own_d3_60) (z := (3 : Int32)) rfl (pc' := 61) rfl ?_
  refine k_iadd A5 hx (hb hby own_d3_61) (pc' := 62) rfl ?_
  rw [show ((2 : Int32) + (3 : Int32)) = (5 : Int32) from by decide]
  refine k_aloadN A5 hx (hb hby own_d3_62) rfl rfl (pc' := 63) rfl ?_
  refine k_getfield S5 hx hZ hown (hw _ (List.mem_of_getElem? (i := 14) rfl)) F3 (hb hby own_d3_63) (pc' := 66) rfl ?_
  intro T6 S6
  have A6 := S6.here
  refine k_arraylength S6 hx hZ Vt (hb hby own_d3_66) (z := (16 : Int32)) rfl (pc' := 67) rfl ?_
  refine k_icmp_le A6 hx (hb hby own_d3_67) (pcY := 95) (by decide) (pc' := 70) rfl (fun hc67 => ?_) (fun hc67 => absurd hc67 (by decide))
  refine k_aloadN A6 hx (hb hby own_d3_95) rfl rfl (pc' := 96) rfl ?_
  refine k_getfield S6 hx hZ hown (hw _ (List.mem_of_getElem? (i := 21) rfl)) F4 (hb hby own_d3_96) (pc' := 99) rfl ?_
  intro T7 S7
  have A7 := S7.here
  refine k_istore A7 hx (hb hby own_d3_99) (Ls' := #[.val (.ref o), .val (.int kp), .val (.ref x), .val (.int (2 : Int32)), .val (.int (1 : Int32))]) rfl (pc' := 101) rfl ?_
  refine k_aloadN A7 hx (hb hby own_d3_101) rfl rfl (pc' := 102) rfl ?_
  refine k_getfield S7 hx hZ hown (hw _ (List.mem_of_getElem? (i := 10) rfl)) F1 (hb hby own_d3_102) (pc' := 105) rfl ?_
  intro T8 S8
  have A8 := S8.here
  refine k_iload A8 hx (hb hby own_d3_105) rfl (pc' := 107) rfl ?_
  refine k_iloadN A8 hx (hb hby own_d3_107) rfl (pc' := 108) rfl ?_
  refine k_iastore S8 hx hZ Vp (hb hby own_d3_108) (by decide) (by first | decide | (simp; done)) gp (pc' := 109) rfl ?_
  intro T9 h9 W9 V9 S9
  have A9 := S9.here
  have f10 := Eo.wr W9
  have f11 := F1.other W9 (Or.inl hne.1)
  have f12 := F2.other W9 (Or.inl hne.1)
  have f13 := F3.other W9 (Or.inl hne.1)
  have f14 := F4.other W9 (Or.inl hne.1)
  have f16 := Vf.other W9 (Ne.symm hne.2.2.2.1)
  have f17 := Vt.other W9 (Ne.symm hne.2.2.2.2.1)
  have f18 := Vx.other W9 (Ne.symm hxp)
  have K19 := K1.wr W9 (Or.inl (List.mem_of_getElem? (i := 1) rfl))
  have V9 : IV Z h9 pa [k1, kp, (0 : Int32), (0 : Int32), (0 : Int32), (0 : Int32), (0 : Int32), (0 : Int32)] := V9
  refine k_aloadN A9 hx (hb hby own_d3_109) rfl rfl (pc' := 110) rfl ?_
  refine k_iconst A9 hx (hb hby own_d3_110) (v := 0) rfl (pc' := 111) rfl ?_
  refine k_aloadN A9 hx (hb hby own_d3_111) rfl rfl (pc' := 112) rfl ?_
  refine k_getfield S9 hx hZ hown (hw _ (List.mem_of_getElem? (i := 14) rfl)) f13 (hb hby own_d3_112) (pc' := 115) rfl ?_
  intro T20 S20
  have A20 := S20.here
  refine k_iloadN A20 hx (hb hby own_d3_115) rfl (pc' := 116) rfl ?_
  refine k_aloadN A20 hx (hb hby own_d3_116) rfl rfl (pc' := 117) rfl ?_
  refine k_arraylength S20 hx hZ f18 (hb hby own_d3_117) (z := (3 : Int32)) rfl (pc' := 118) rfl ?_
  refine k_arraycopyD S20 hx hZ hown (hw _ (List.mem_of_getElem? (i := 23) rfl)) (hw _ (List.mem_of_getElem? (i := 26) rfl)) (hw _ (List.mem_of_getElem? (i := 24) rfl)) (hw _ (List.mem_of_getElem? (i := 25) rfl)) f18 f17 (by decide) (by first | decide | (simp; done)) (by decide) (by first | decide | (simp; done)) gt (by rw [hml]; rfl) (hb hby own_d3_118) (by decide) 0 (Nat.le_refl _) (by decide) (pc' := 121) rfl ?_
  intro T21 h21 K21 V21 S21
  have A21 := S21.here
  have f22 := f10.keep K21
  have f23 := f11.keep K21 (ninS hne.2.2.1 nin0)
  have f24 := f12.keep K21 (ninS hne.2.2.1 nin0)
  have f25 := f13.keep K21 (ninS hne.2.2.1 nin0)
  have f26 := f14.keep K21 (ninS hne.2.2.1 nin0)
  have f27 := f16.keep K21 (ninS hne.2.2.2.2.2 nin0)
  have f29 := f18.keep K21 (ninS (Ne.symm hxt) nin0)
  have f30 := V9.keep K21 (ninS hne.2.2.2.2.1 nin0)
  have K31 := K19.trans K21 (allS (Or.inl (List.mem_of_getElem? (i := 3) rfl)) all0)
  have V21 : IV Z h21 t [u0, u1, w0, w1, w2, (0 : Int32), (0 : Int32), (0 : Int32), (0 : Int32), (0 : Int32), (0 : Int32), (0 : Int32), (0 : Int32), (0 : Int32), (0 : Int32), (0 : Int32)] := V21
  refine k_aloadN A21 hx (hb hby own_d3_121) rfl rfl (pc' := 122) rfl ?_
  refine k_getfield S21 hx hZ hown (hw _ (List.mem_of_getElem? (i := 12) rfl)) f24 (hb hby own_d3_122) (pc' := 125) rfl ?_
  intro T32 S32
  have A32 := S32.here
  refine k_iload A32 hx (hb hby own_d3_125) rfl (pc' := 127) rfl ?_
  refine k_iconst A32 hx (hb hby own_d3_127) (v := 1) rfl (pc' := 128) rfl ?_
  refine k_iadd A32 hx (hb hby own_d3_128) (pc' := 129) rfl ?_
  rw [show ((1 : Int32) + (1 : Int32)) = (2 : Int32) from by decide]
  refine k_iloadN A32 hx (hb hby own_d3_129) rfl (pc' := 130) rfl ?_
  refine k_aloadN A32 hx (hb hby own_d3_130) rfl rfl (pc' := 131) rfl ?_
  refine k_arraylength S32 hx hZ f29 (hb hby own_d3_131) (z := (3 : Int32)) rfl (pc' := 132) rfl ?_
  refine k_iadd A32 hx (hb hby own_d3_132) (pc' := 133) rfl ?_
  rw [show ((2 : Int32) + (3 : Int32)) = (5 : Int32) from by decide]
  refine k_iastore S32 hx hZ f27 (hb hby own_d3_133) (by decide) (by first | decide | (simp; done)) gf (pc' := 134) rfl ?_
  intro T33 h33 W33 V33 S33
  have A33 := S33.here
  have f34 := f22.wr W33
  have f35 := f23.other W33 (Or.inl hne.2.1)
  have f36 := f24.other W33 (Or.inl hne.2.1)
  have f37 := f25.other W33 (Or.inl hne.2.1)
  have f38 := f26.other W33 (Or.inl hne.2.1)
  have f40 := f29.other W33 (Ne.symm hxf)
  have f41 := f30.other W33 hne.2.2.2.1
  have f42 := V21.other W33 (Ne.symm hne.2.2.2.2.2)
  have K43 := K31.wr W33 (Or.inl (List.mem_of_getElem? (i := 2) rfl))
  have V33 : IV Z h33 f [(0 : Int32), (2 : Int32), (5 : Int32), (0 : Int32), (0 : Int32), (0 : Int32), (0 : Int32), (0 : Int32), (0 : Int32)] := V33
  refine k_aloadN A33 hx (hb hby own_d3_134) rfl rfl (pc' := 135) rfl ?_
  refine k_dup A33 hx (hb hby own_d3_135) rfl (pc' := 136) rfl ?_
  refine k_getfield S33 hx hZ hown (hw _ (List.mem_of_getElem? (i := 21) rfl)) f38 (hb hby own_d3_136) (pc' := 139) rfl ?_
  intro T44 S44
  have A44 := S44.here
  refine k_iconst A44 hx (hb hby own_d3_139) (v := 1) rfl (pc' := 140) rfl ?_
  refine k_iadd A44 hx (hb hby own_d3_140) (pc' := 141) rfl ?_
  rw [show ((1 : Int32) + (1 : Int32)) = (2 : Int32) from by decide]
  refine k_putfield S44 hx hZ hown (hw _ (List.mem_of_getElem? (i := 21) rfl)) f38 f34 (Or.inl (hw _ (List.mem_of_getElem? (i := 22) rfl))) (hw _ (List.mem_of_getElem? (i := 1) rfl)) (ty := .int) (by decide) rfl rfl go (hb hby own_d3_141) (pc' := 144) rfl ?_
  intro T45 h45 W45 S45
  have A45 := S45.here
  have f46 := f34.wr W45
  have f47 := f35.other W45 (Or.inr (slot_ne (Or.inl (hw _ (List.mem_of_getElem? (i := 11) rfl))) (Or.inl (hw _ (List.mem_of_getElem? (i := 22) rfl))) (by decide) (t := (.array .int)) (t' := .int) (by decide) (by decide)))
  have f48 := f36.other W45 (Or.inr (slot_ne (Or.inl (hw _ (List.mem_of_getElem? (i := 13) rfl))) (Or.inl (hw _ (List.mem_of_getElem? (i := 22) rfl))) (by decide) (t := (.array .int)) (t' := .int) (by decide) (by decide)))
  have f49 := f37.other W45 (Or.inr (slot_ne (Or.inl (hw _ (List.mem_of_getElem? (i := 15) rfl))) (Or.inl (hw _ (List.mem_of_getElem? (i := 22) rfl))) (by decide) (t := (.array .int)) (t' := .int) (by decide) (by decide)))
  have f50 := f38.same W45
  have f51 := f40.other W45 (Ne.symm hxo)
  have f52 := f41.other W45 (Ne.symm hne.1)
  have f53 := f42.other W45 (Ne.symm hne.2.2.1)
  have f54 := V33.other W45 (Ne.symm hne.2.1)
  have K55 := K43.wr W45 (Or.inl (List.mem_of_getElem? (i := 0) rfl))
  refine k_iload A45 hx (hb hby own_d3_144) rfl (pc' := 146) rfl ?_
  refine k_ret_int S45 hx hret hlk (hb hby own_d3_146) (by decide) (by decide) ?_
  exact ⟨rfl, K55, f47, f48, f49, f50, f52, f54, f53⟩
theorem own_d4_0 : decode prog_123_method_6_code 0 = .ok (.aload_n 0, 1) := by decide +kernel
theorem own_d4_1 : decode prog_123_method_6_code 1 = .ok (.getfield 13, 3) := by decide +kernel
theorem own_d4_4 : decode prog_123_method_6_code 4 = .ok (.iload_n 1, 1) := by decide +kernel
theorem own_d4_5 : decode prog_123_method_6_code 5 = .ok (.iaload, 1) := by decide +kernel
theorem own_d4_6 : decode prog_123_method_6_code 6 = .ok (.istore 5, 2) := by decide +kernel
theorem own_d4_8 : decode prog_123_method_6_code 8 = .ok (.iconst 0, 1) := by decide +kernel
theorem own_d4_9 : decode prog_123_method_6_code 9 = .ok (.istore 6, 2) := by decide +kernel
theorem own_d4_11 : decode prog_123_method_6_code 11 = .ok (.iload 6, 2) := by decide +kernel
theorem own_d4_13 : decode prog_123_method_6_code 13 = .ok (.iload 4, 2) := by decide +kernel
theorem own_d4_15 : decode prog_123_method_6_code 15 = .ok (.if_icmp .ge 30, 3) := by decide +kernel
theorem own_d4_18 : decode prog_123_method_6_code 18 = .ok (.aload_n 0, 1) := by decide +kernel
theorem own_d4_19 : decode prog_123_method_6_code 19 = .ok (.getfield 16, 3) := by decide +kernel
theorem own_d4_22 : decode prog_123_method_6_code 22 = .ok (.iload 5, 2) := by decide +kernel
theorem own_d4_24 : decode prog_123_method_6_code 24 = .ok (.iload 6, 2) := by decide +kernel
theorem own_d4_26 : decode prog_123_method_6_code 26 = .ok (.iadd, 1) := by decide +kernel
theorem own_d4_27 : decode prog_123_method_6_code 27 = .ok (.iaload, 1) := by decide +kernel
theorem own_d4_28 : decode prog_123_method_6_code 28 = .ok (.aload_n 2, 1) := by decide +kernel
theorem own_d4_29 : decode prog_123_method_6_code 29 = .ok (.iload_n 3, 1) := by decide +kernel
theorem own_d4_30 : decode prog_123_method_6_code 30 = .ok (.iload 6, 2) := by decide +kernel
theorem own_d4_32 : decode prog_123_method_6_code 32 = .ok (.iadd, 1) := by decide +kernel
theorem own_d4_33 : decode prog_123_method_6_code 33 = .ok (.iaload, 1) := by decide +kernel
theorem own_d4_34 : decode prog_123_method_6_code 34 = .ok (.if_icmp .eq 5, 3) := by decide +kernel
theorem own_d4_37 : decode prog_123_method_6_code 37 = .ok (.iconst 0, 1) := by decide +kernel
theorem own_d4_38 : decode prog_123_method_6_code 38 = .ok (.ireturn, 1) := by decide +kernel
theorem own_d4_39 : decode prog_123_method_6_code 39 = .ok (.iinc 6 1, 3) := by decide +kernel
theorem own_d4_42 : decode prog_123_method_6_code 42 = .ok (.goto (-31), 3) := by decide +kernel
theorem own_d4_45 : decode prog_123_method_6_code 45 = .ok (.iconst 1, 1) := by decide +kernel
theorem own_d4_46 : decode prog_123_method_6_code 46 = .ok (.ireturn, 1) := by decide +kernel
theorem own_pn4 : plainName "com/example/libchase/libchase/core/store/AtomTable" = true := by first | (simp [plainName, overriddenIn]; done) | decide +kernel
set_option maxRecDepth 65536 in
set_option maxHeartbeats 40000000 in
theorem own_holds (l : Launch) (Z : State) (a0 : Array Value) (hw : ∀ d ∈ tables_1, d.before a0 Z = true) (o : Addr) (at_ : Int32) (x : Addr) (off ar : Int32) (h0 : Heap) (n0 : Nat) (f t : Addr) (fl tl rl : List Int32) (s' : Int32) (F2 : Fld Z h0 o "com/example/libchase/libchase/core/store/AtomTable" "firstTerm" "[I" (.ref f)) (F3 : Fld Z h0 o "com/example/libchase/libchase/core/store/AtomTable" "terms" "[I" (.ref t)) (Vf : IV Z h0 f fl) (Vt : IV Z h0 t tl) (Vx : IV Z h0 x rl) (hat : 0 ≤ at_.toInt ∧ at_.toInt < fl.length) (hs : fl.getD at_.toInt.toNat 0 = s') (hb_ : 0 ≤ s'.toInt ∧ 0 ≤ off.toInt ∧ 0 ≤ ar.toInt ∧ s'.toInt + ar.toInt ≤ tl.length ∧ off.toInt + ar.toInt ≤ rl.length ∧ tl.length < 500 ∧ rl.length < 500) :
    Con l Z (⟨"com/example/libchase/libchase/core/store/AtomTable", "holds", "(I[III)Z"⟩ : MethodName) prog_123_method_6_code 7 (some .boolean) ({ frames := 0, cells := 0, slots := 0, locals := 0 } : Room) n0 h0 #[(.ref o), (.int at_), (.ref x), (.int off), (.int ar)] (fun v h => ((v = some (.int 1) ∧ own_P tl rl s' off ar) ∨ (v = some (.int 0) ∧ ¬ own_P tl rl s' off ar)) ∧ h = h0) := by
  refine Con.intro (plainFor_of_name own_pn4) (Ls := #[.val (.ref o), .val (.int at_), .val (.ref x), .val (.int off), .val (.int ar), .unset, .unset]) (fun m => by first | (simp [entryFrame, mkF, argsToLocals, Value.category]; done) | rfl) ?_
  intro p e s m below meth c s₁ hx hby hml hown hnm hret hlk hZ S0
  have A0 := S0.here
  refine k_aloadN A0 hx (hb hby own_d4_0) rfl rfl (pc' := 1) rfl ?_
  refine k_getfield S0 hx hZ hown (hw _ (List.mem_of_getElem? (i := 12) rfl)) F2 (hb hby own_d4_1) (pc' := 4) rfl ?_
  intro T1 S1
  have A1 := S1.here
  refine k_iloadN A1 hx (hb hby own_d4_4) rfl (pc' := 5) rfl ?_
  refine k_iaload S1 hx hZ Vf (hb hby own_d4_5) hat.1 hat.2 rfl (pc' := 6) rfl ?_
  rw [hs]
  refine k_istore A1 hx (hb hby own_d4_6) (Ls' := #[.val (.ref o), .val (.int at_), .val (.ref x), .val (.int off), .val (.int ar), .val (.int s'), .unset]) rfl (pc' := 8) rfl ?_
  refine k_iconst A1 hx (hb hby own_d4_8) (v := 0) rfl (pc' := 9) rfl ?_
  refine k_istore A1 hx (hb hby own_d4_9) (Ls' := #[.val (.ref o), .val (.int at_), .val (.ref x), .val (.int off), .val (.int ar), .val (.int s'), .val (.int (0 : Int32))]) rfl (pc' := 11) rfl ?_
  have hb' := hb_
  have L11_2 : ∀ (f : Nat) (T2 : State), ∀ (i : Int32), St p l e ({ frames := 0, cells := 0, slots := 0, locals := 0 } : Room) s m #[(.ref o), (.int at_), (.ref x), (.int off), (.int ar)] below meth c n0 T2 h0 0 0 → (ar.toInt - i.toInt < (f : Int)) → (0 ≤ i.toInt ∧ i.toInt ≤ ar.toInt ∧ own_J tl rl s' off i.toInt) → Done p e below (OEnd s ({ frames := 0, cells := 0, slots := 0, locals := 0 } : Room) n0 (fun v h => ((v = some (.int 1) ∧ own_P tl rl s' off ar) ∨ (v = some (.int 0) ∧ ¬ own_P tl rl s' off ar)) ∧ h = h0)) (T2.setTop (mkF m 11 #[.val (.ref o), .val (.int at_), .val (.ref x), .val (.int off), .val (.int ar), .val (.int s'), .val (.int i)] [])) := by
    intro f
    induction f with
    | zero =>
      intro T2 i S2 hms hI
      exfalso
      omega
    | succ f ih2 =>
      intro T2 i S2 hms hI
      have A2 := S2.here
      refine k_iload A2 hx (hb hby own_d4_11) rfl (pc' := 13) rfl ?_
      refine k_iload A2 hx (hb hby own_d4_13) rfl (pc' := 15) rfl ?_
      refine k_icmp_ge A2 hx (hb hby own_d4_15) (pcY := 45) (by decide) (pc' := 18) rfl (fun hc15 => ?_) (fun hc15 => ?_)
      · refine k_iconst A2 hx (hb hby own_d4_45) (v := 1) rfl (pc' := 46) rfl ?_
        refine k_ret_nar S2 hx (t := .boolean) hret (by simp) hlk (hb hby own_d4_46) (z' := (1 : Int32)) rfl (by decide) (by decide) ?_
        exact ⟨Or.inl ⟨rfl, own_JP hI.2.2 (by simpa only [Int32.lt_iff_toInt_lt] using hc15)⟩, rfl⟩
      · have hil : i.toInt < ar.toInt := by simpa only [Int32.lt_iff_toInt_lt] using hc15
        have hsi : (s' + i).toInt = s'.toInt + i.toInt := own_add2 (by omega) (by omega) (by omega) (by omega)
        have hoi : (off + i).toInt = off.toInt + i.toInt := own_add2 (by omega) (by omega) (by omega) (by omega)
        refine k_aloadN A2 hx (hb hby own_d4_18) rfl rfl (pc' := 19) rfl ?_
        refine k_getfield S2 hx hZ hown (hw _ (List.mem_of_getElem? (i := 14) rfl)) F3 (hb hby own_d4_19) (pc' := 22) rfl ?_
        intro T3 S3
        have A3 := S3.here
        refine k_iload A3 hx (hb hby own_d4_22) rfl (pc' := 24) rfl ?_
        refine k_iload A3 hx (hb hby own_d4_24) rfl (pc' := 26) rfl ?_
        refine k_iadd A3 hx (hb hby own_d4_26) (pc' := 27) rfl ?_
        refine k_iaload S3 hx hZ Vt (hb hby own_d4_27) (by omega) (by omega) rfl (pc' := 28) rfl ?_
        refine k_aloadN A3 hx (hb hby own_d4_28) rfl rfl (pc' := 29) rfl ?_
        refine k_iloadN A3 hx (hb hby own_d4_29) rfl (pc' := 30) rfl ?_
        refine k_iload A3 hx (hb hby own_d4_30) rfl (pc' := 32) rfl ?_
        refine k_iadd A3 hx (hb hby own_d4_32) (pc' := 33) rfl ?_
        refine k_iaload S3 hx hZ Vx (hb hby own_d4_33) (by omega) (by omega) rfl (pc' := 34) rfl ?_
        refine k_icmp_eq A3 hx (hb hby own_d4_34) (pcY := 39) (by decide) (pc' := 37) rfl (fun hc34 => ?_) (fun hc34 => ?_)
        · refine k_iinc A3 hx (hb hby own_d4_39) rfl (Ls' := #[.val (.ref o), .val (.int at_), .val (.ref x), .val (.int off), .val (.int ar), .val (.int s'), .val (.int (i + (1 : Int32)))]) rfl (pc' := 42) rfl ?_
          refine k_goto A3 hx (hb hby own_d4_42) (pc' := 11) (by decide) ?_
          exact ih2 T3 (i + (1 : Int32)) (S3.more (by decide) (by decide)) (by rw [own_add2 (y := 1) (by omega) (by omega) (by decide) (by decide)]; show ar.toInt - (i.toInt + 1) < _; omega) (by rw [own_add2 (y := 1) (by omega) (by omega) (by decide) (by decide)]; exact ⟨by show 0 ≤ i.toInt + 1; omega, by show i.toInt + 1 ≤ _; omega, own_J1 hI.2.2 hsi hoi hI.1 hb'.1 hb'.2.1 hc34⟩)
        · refine k_iconst A3 hx (hb hby own_d4_37) (v := 0) rfl (pc' := 38) rfl ?_
          refine k_ret_nar S3 hx (t := .boolean) hret (by simp) hlk (hb hby own_d4_38) (z' := (0 : Int32)) rfl (by decide) (by decide) ?_
          exact ⟨Or.inr ⟨rfl, own_JN hsi hoi hI.1 hb'.1 hb'.2.1 hil hc34⟩, rfl⟩
  exact L11_2 (ar.toInt.toNat + 1) T1 (0 : Int32) (S1.more (by decide) (by decide)) (by show ar.toInt - 0 < _; omega) ⟨by decide, hb'.2.2.1, own_J0 tl rl s' off⟩
theorem own_pn0 : plainName "com/example/libchase/libchase/core/store/AtomTableHoldsPinLaw" = true := by first | (simp [plainName, overriddenIn]; done) | decide +kernel
theorem own_pd0 : parseMethodDescriptor "()V" = some ⟨[], none⟩ := by decide +kernel
theorem own_pd1 : parseMethodDescriptor "(I[I)I" = some ⟨[.int, (.array .int)], some .int⟩ := by decide +kernel
theorem own_pd2 : parseMethodDescriptor "(I[III)Z" = some ⟨[.int, (.array .int), .int, .int], some .boolean⟩ := by decide +kernel
set_option maxRecDepth 65536 in
set_option maxHeartbeats 40000000 in
theorem own_law (l : Launch) (Z : State) (a0 : Array Value) (hw : ∀ d ∈ tables_1, d.before a0 Z = true) (a b c' d e' kk : Int32) (h0 : Heap) (n0 : Nat) (Z0 : n0 ≤ h0.size) :
    Con l Z x code maxLocals ret room_1 n0 h0 #[(.int a), (.int b), (.int c'), (.int d), (.int e'), (.int kk)] (fun v h => v = some (.int 1)) := by
  refine Con.intro (plainFor_of_name own_pn0) (Ls := #[.val (.int a), .val (.int b), .val (.int c'), .val (.int d), .val (.int e'), .val (.int kk), .unset, .unset, .unset, .unset, .unset, .unset, .unset, .unset, .unset, .unset]) (fun m => by first | (simp [entryFrame, mkF, argsToLocals, Value.category, maxLocals]; done) | rfl) ?_
  intro p e s m below meth c s₁ hx hby hml hown hnm hret hlk hZ S0
  have A0 := S0.here
  have K1 := Keep.refl h0 []
  refine k_new S0 hx hZ hown (hw _ (List.mem_of_getElem? (i := 0) rfl)) (hw _ (List.mem_of_getElem? (i := 1) rfl)) (hw _ (List.mem_of_getElem? (i := 2) rfl)) (hb hby at_0) (pc' := 3) rfl (by decide) (by decide) ?_
  intro T2 h2 b2 g2 E2 X2 D2 S2
  have bo3 : h0.size ≤ b2 := Nat.le_trans K1.1 (Nat.le_of_eq g2.symm)
  have ge3 : n0 ≤ b2 := Nat.le_trans Z0 bo3
  have A2 := S2.here
  have K4 := K1.ext E2
  have F5 : Fld Z h2 b2 "com/example/libchase/libchase/core/store/AtomTable" "predicateOf" "[I" .null := D2 (Or.inl (hw _ (List.mem_of_getElem? (i := 11) rfl))) (ty := (.array .int)) (by decide)
  have F6 : Fld Z h2 b2 "com/example/libchase/libchase/core/store/AtomTable" "firstTerm" "[I" .null := D2 (Or.inl (hw _ (List.mem_of_getElem? (i := 13) rfl))) (ty := (.array .int)) (by decide)
  have F7 : Fld Z h2 b2 "com/example/libchase/libchase/core/store/AtomTable" "terms" "[I" .null := D2 (Or.inl (hw _ (List.mem_of_getElem? (i := 15) rfl))) (ty := (.array .int)) (by decide)
  have F8 : Fld Z h2 b2 "com/example/libchase/libchase/core/store/AtomTable" "size" "I" (.int (0 : Int32)) := D2 (Or.inl (hw _ (List.mem_of_getElem? (i := 22) rfl))) (ty := .int) (by decide)
  refine k_dup A2 hx (hb hby at_3) rfl (pc' := 4) rfl ?_
  refine k_call_init S2 hx hZ hown rfl (hw _ (List.mem_of_getElem? (i := 3) rfl)) (hw _ (List.mem_of_getElem? (i := 4) rfl)) (hw _ (List.mem_of_getElem? (i := 2) rfl)) (hw _ (List.mem_of_getElem? (i := 5) rfl)) (by decide) (own_init l Z a0 hw b2 h2 n0 (Nat.le_trans Z0 K4.1) ge3 X2 F5 F6 F7 F8) 1 (argsL := []) (rest := [(.ref b2)]) (by decide) (by decide) (by rw [hml]; rfl) (lenOf own_pd0 rfl) rfl rfl (Nat.le_refl 1) (hb hby at_4) (pc' := 7) rfl (by decide) (by decide) ?_
  rintro v9 T9 h9 ⟨rfl, pa, f, t, gg, hne, K9, Fp, Ff, Ft, Fs, Vp, Vf, Vt⟩ S9
  have f10 := X2.keep K9
  have K15 := K4.trans K9 (allS (Or.inr bo3) all0)
  have ge_pa : n0 ≤ pa := Nat.le_trans (Nat.le_trans Z0 K4.1) gg.1
  have ge_f : n0 ≤ f := Nat.le_trans (Nat.le_trans Z0 K4.1) gg.2.1
  have ge_t : n0 ≤ t := Nat.le_trans (Nat.le_trans Z0 K4.1) gg.2.2
  have A9 := S9.here
  show Done p e below _ (T9.setTop (mkF m 7 #[.val (.int a), .val (.int b), .val (.int c'), .val (.int d), .val (.int e'), .val (.int kk), .unset, .unset, .unset, .unset, .unset, .unset, .unset, .unset, .unset, .unset] [(.ref b2)]))
  refine k_astore A9 hx (hb hby at_7) rfl (Ls' := #[.val (.int a), .val (.int b), .val (.int c'), .val (.int d), .val (.int e'), .val (.int kk), .val (.ref b2), .unset, .unset, .unset, .unset, .unset, .unset, .unset, .unset, .unset]) rfl (pc' := 9) rfl ?_
  refine k_aload A9 hx (hb hby at_9) rfl rfl (pc' := 11) rfl ?_
  refine k_iload A9 hx (hb hby at_11) rfl (pc' := 13) rfl ?_
  refine k_iconst A9 hx (hb hby at_13) (v := 2) rfl (pc' := 14) rfl ?_
  refine k_newint S9 hx hZ (hw _ (List.mem_of_getElem? (i := 9) rfl)) (hb hby at_14) (by decide) 2 (by decide) (by decide) (by decide) (by decide) (pc' := 16) rfl ?_
  intro T16 h16 b16 g16 E16 V16 S16
  have ne17 : b2 ≠ b16 := by rw [g16]; exact Nat.ne_of_lt f10.lt
  have ne18 : pa ≠ b16 := by rw [g16]; exact Nat.ne_of_lt Vp.lt
  have ne19 : f ≠ b16 := by rw [g16]; exact Nat.ne_of_lt Vf.lt
  have ne20 : t ≠ b16 := by rw [g16]; exact Nat.ne_of_lt Vt.lt
  have ge21 : n0 ≤ b16 := Nat.le_trans ge3 (Nat.le_trans (Nat.le_of_lt f10.lt) (Nat.le_of_eq g16.symm))
  have A16 := S16.here
  have f22 := f10.ext E16
  have f23 := Fp.ext E16
  have f24 := Ff.ext E16
  have f25 := Ft.ext E16
  have f26 := Fs.ext E16
  have f27 := Vp.ext E16
  have f28 := Vf.ext E16
  have f29 := Vt.ext E16
  have V16 : IV Z h16 b16 [(0 : Int32), (0 : Int32)] := V16
  refine k_dup A16 hx (hb hby at_16) rfl (pc' := 17) rfl ?_
  refine k_iconst A16 hx (hb hby at_17) (v := 0) rfl (pc' := 18) rfl ?_
  refine k_iloadN A16 hx (hb hby at_18) rfl (pc' := 19) rfl ?_
  refine k_iastore S16 hx hZ V16 (hb hby at_19) (by decide) (by first | decide | (simp; done)) ge21 (pc' := 20) rfl ?_
  intro T30 h30 W30 V30 S30
  have A30 := S30.here
  have f31 := f22.wr W30
  have f32 := f23.other W30 (Or.inl ne17)
  have f33 := f24.other W30 (Or.inl ne17)
  have f34 := f25.other W30 (Or.inl ne17)
  have f35 := f26.other W30 (Or.inl ne17)
  have f36 := f27.other W30 ne18
  have f37 := f28.other W30 ne19
  have f38 := f29.other W30 ne20
  have V30 : IV Z h30 b16 [c', (0 : Int32)] := V30
  refine k_dup A30 hx (hb hby at_20) rfl (pc' := 21) rfl ?_
  refine k_iconst A30 hx (hb hby at_21) (v := 1) rfl (pc' := 22) rfl ?_
  refine k_iloadN A30 hx (hb hby at_22) rfl (pc' := 23) rfl ?_
  refine k_iastore S30 hx hZ V30 (hb hby at_23) (by decide) (by first | decide | (simp; done)) ge21 (pc' := 24) rfl ?_
  intro T40 h40 W40 V40 S40
  have A40 := S40.here
  have f41 := f31.wr W40
  have f42 := f32.other W40 (Or.inl ne17)
  have f43 := f33.other W40 (Or.inl ne17)
  have f44 := f34.other W40 (Or.inl ne17)
  have f45 := f35.other W40 (Or.inl ne17)
  have f46 := f36.other W40 ne18
  have f47 := f37.other W40 ne19
  have f48 := f38.other W40 ne20
  have V40 : IV Z h40 b16 [c', d] := V40
  refine k_call_virtual S40 hx hZ hown f41 (hw _ (List.mem_of_getElem? (i := 16) rfl)) (hw _ (List.mem_of_getElem? (i := 17) rfl)) (hw _ (List.mem_of_getElem? (i := 19) rfl)) (hw _ (List.mem_of_getElem? (i := 18) rfl)) (hw _ (List.mem_of_getElem? (i := 2) rfl)) (hw _ (List.mem_of_getElem? (i := 20) rfl)) (by decide) (own_cad1 l Z a0 hw b2 kk b16 h40 n0 c' d pa f t (Nat.le_trans ge3 (Nat.le_of_lt f41.lt)) ge3 ge_pa ge_f ge_t hne ne17 ne18 ne19 ne20 f41 f42 f43 f44 f45 f46 f47 f48 V40) 0 (argsL := [(.int kk), (.ref b16)]) (rest := []) (by decide) (by decide) (by rw [hml]; rfl) (lenOf own_pd1 rfl) rfl rfl (Nat.le_refl 0) (hb hby at_24) (pc' := 27) rfl (by decide) (by decide) ?_
  rintro v50 T50 h50 ⟨rfl, K50, F50p, F50f, F50t, F50s, V50p, V50f, V50t⟩ S50
  have f51 := f41.keep K50
  have A50 := S50.here
  show Done p e below _ (T50.setTop (mkF m 27 #[.val (.int a), .val (.int b), .val (.int c'), .val (.int d), .val (.int e'), .val (.int kk), .val (.ref b2), .unset, .unset, .unset, .unset, .unset, .unset, .unset, .unset, .unset] [(.int (0 : Int32))]))
  refine k_pop A50 hx (hb hby at_27) rfl (pc' := 28) rfl ?_
  refine k_aload A50 hx (hb hby at_28) rfl rfl (pc' := 30) rfl ?_
  refine k_iload A50 hx (hb hby at_30) rfl (pc' := 32) rfl ?_
  refine k_iconst A50 hx (hb hby at_32) (v := (-1)) rfl (pc' := 33) rfl ?_
  refine k_ixor A50 hx (hb hby at_33) (pc' := 34) rfl ?_
  refine k_iconst A50 hx (hb hby at_34) (v := 3) rfl (pc' := 35) rfl ?_
  refine k_newint S50 hx hZ (hw _ (List.mem_of_getElem? (i := 9) rfl)) (hb hby at_35) (by decide) 3 (by decide) (by decide) (by decide) (by decide) (pc' := 37) rfl ?_
  intro T59 h59 b59 g59 E59 V59 S59
  have ne60 : b2 ≠ b59 := by rw [g59]; exact Nat.ne_of_lt f51.lt
  have ne61 : pa ≠ b59 := by rw [g59]; exact Nat.ne_of_lt V50p.lt
  have ne62 : f ≠ b59 := by rw [g59]; exact Nat.ne_of_lt V50f.lt
  have ne63 : t ≠ b59 := by rw [g59]; exact Nat.ne_of_lt V50t.lt
  have ge64 : n0 ≤ b59 := Nat.le_trans ge3 (Nat.le_trans (Nat.le_of_lt f51.lt) (Nat.le_of_eq g59.symm))
  have A59 := S59.here
  have f65 := f51.ext E59
  have f66 := F50p.ext E59
  have f67 := F50f.ext E59
  have f68 := F50t.ext E59
  have f69 := F50s.ext E59
  have f70 := V50p.ext E59
  have f71 := V50f.ext E59
  have f72 := V50t.ext E59
  have V59 : IV Z h59 b59 [(0 : Int32), (0 : Int32), (0 : Int32)] := V59
  refine k_dup A59 hx (hb hby at_37) rfl (pc' := 38) rfl ?_
  refine k_iconst A59 hx (hb hby at_38) (v := 0) rfl (pc' := 39) rfl ?_
  refine k_iloadN A59 hx (hb hby at_39) rfl (pc' := 40) rfl ?_
  refine k_iastore S59 hx hZ V59 (hb hby at_40) (by decide) (by first | decide | (simp; done)) ge64 (pc' := 41) rfl ?_
  intro T73 h73 W73 V73 S73
  have A73 := S73.here
  have f74 := f65.wr W73
  have f75 := f66.other W73 (Or.inl ne60)
  have f76 := f67.other W73 (Or.inl ne60)
  have f77 := f68.other W73 (Or.inl ne60)
  have f78 := f69.other W73 (Or.inl ne60)
  have f79 := f70.other W73 ne61
  have f80 := f71.other W73 ne62
  have f81 := f72.other W73 ne63
  have V73 : IV Z h73 b59 [a, (0 : Int32), (0 : Int32)] := V73
  refine k_dup A73 hx (hb hby at_41) rfl (pc' := 42) rfl ?_
  refine k_iconst A73 hx (hb hby at_42) (v := 1) rfl (pc' := 43) rfl ?_
  refine k_iloadN A73 hx (hb hby at_43) rfl (pc' := 44) rfl ?_
  refine k_iastore S73 hx hZ V73 (hb hby at_44) (by decide) (by first | decide | (simp; done)) ge64 (pc' := 45) rfl ?_
  intro T83 h83 W83 V83 S83
  have A83 := S83.here
  have f84 := f74.wr W83
  have f85 := f75.other W83 (Or.inl ne60)
  have f86 := f76.other W83 (Or.inl ne60)
  have f87 := f77.other W83 (Or.inl ne60)
  have f88 := f78.other W83 (Or.inl ne60)
  have f89 := f79.other W83 ne61
  have f90 := f80.other W83 ne62
  have f91 := f81.other W83 ne63
  have V83 : IV Z h83 b59 [a, b, (0 : Int32)] := V83
  refine k_dup A83 hx (hb hby at_45) rfl (pc' := 46) rfl ?_
  refine k_iconst A83 hx (hb hby at_46) (v := 2) rfl (pc' := 47) rfl ?_
  refine k_iloadN A83 hx (hb hby at_47) rfl (pc' := 48) rfl ?_
  refine k_iastore S83 hx hZ V83 (hb hby at_48) (by decide) (by first | decide | (simp; done)) ge64 (pc' := 49) rfl ?_
  intro T93 h93 W93 V93 S93
  have A93 := S93.here
  have f94 := f84.wr W93
  have f95 := f85.other W93 (Or.inl ne60)
  have f96 := f86.other W93 (Or.inl ne60)
  have f97 := f87.other W93 (Or.inl ne60)
  have f98 := f88.other W93 (Or.inl ne60)
  have f99 := f89.other W93 ne61
  have f100 := f90.other W93 ne62
  have f101 := f91.other W93 ne63
  have V93 : IV Z h93 b59 [a, b, c'] := V93
  refine k_call_virtual S93 hx hZ hown f94 (hw _ (List.mem_of_getElem? (i := 16) rfl)) (hw _ (List.mem_of_getElem? (i := 17) rfl)) (hw _ (List.mem_of_getElem? (i := 19) rfl)) (hw _ (List.mem_of_getElem? (i := 18) rfl)) (hw _ (List.mem_of_getElem? (i := 2) rfl)) (hw _ (List.mem_of_getElem? (i := 20) rfl)) (by decide) (own_cad2 l Z a0 hw b2 (kk ^^^ (-1 : Int32)) b59 h93 n0 kk c' d a b c' pa f t (Nat.le_trans ge3 (Nat.le_of_lt f94.lt)) ge3 ge_pa ge_f ge_t hne ne60 ne61 ne62 ne63 f94 f95 f96 f97 f98 f99 f100 f101 V93) 0 (argsL := [(.int (kk ^^^ (-1 : Int32))), (.ref b59)]) (rest := []) (by decide) (by decide) (by rw [hml]; rfl) (lenOf own_pd1 rfl) rfl rfl (Nat.le_refl 0) (hb hby at_49) (pc' := 52) rfl (by decide) (by decide) ?_
  rintro v103 T103 h103 ⟨rfl, K103, F103p, F103f, F103t, F103s, V103p, V103f, V103t⟩ S103
  have f104 := f94.keep K103
  have A103 := S103.here
  show Done p e below _ (T103.setTop (mkF m 52 #[.val (.int a), .val (.int b), .val (.int c'), .val (.int d), .val (.int e'), .val (.int kk), .val (.ref b2), .unset, .unset, .unset, .unset, .unset, .unset, .unset, .unset, .unset] [(.int (1 : Int32))]))
  refine k_pop A103 hx (hb hby at_52) rfl (pc' := 53) rfl ?_
  refine k_iload A103 hx (hb hby at_53) rfl (pc' := 55) rfl ?_
  refine k_iconst A103 hx (hb hby at_55) (v := 1) rfl (pc' := 56) rfl ?_
  refine k_iand A103 hx (hb hby at_56) (pc' := 57) rfl ?_
  have hat := and_one kk
  generalize q_at : (kk &&& (1 : Int32)) = at_ at hat ⊢
  refine k_istore A103 hx (hb hby at_57) (Ls' := #[.val (.int a), .val (.int b), .val (.int c'), .val (.int d), .val (.int e'), .val (.int kk), .val (.ref b2), .val (.int at_), .unset, .unset, .unset, .unset, .unset, .unset, .unset, .unset]) rfl (pc' := 59) rfl ?_
  have J69_112 : ∀ (T112 : State), ∀ (t0 : Int32), St p l e room_1 s m #[(.int a), (.int b), (.int c'), (.int d), (.int e'), (.int kk)] below meth c n0 T112 h103 ((((0 + 1) + 3) + 1) + 1) ((((0 + 4) + 33) + 2) + 3) → (t0 = if at_ = 0 then c' else a) → Done p e below (OEnd s room_1 n0 (fun v h => v = some (.int 1))) (T112.setTop (mkF m 69 #[.val (.int a), .val (.int b), .val (.int c'), .val (.int d), .val (.int e'), .val (.int kk), .val (.ref b2), .val (.int at_), .unset, .unset, .unset, .unset, .unset, .unset, .unset, .unset] [(.int t0)])) := by
    intro T112 t0 S112 e_t0
    have A112 := S112.here
    refine k_istore A112 hx (hb hby at_69) (Ls' := #[.val (.int a), .val (.int b), .val (.int c'), .val (.int d), .val (.int e'), .val (.int kk), .val (.ref b2), .val (.int at_), .val (.int t0), .unset, .unset, .unset, .unset, .unset, .unset, .unset]) rfl (pc' := 71) rfl ?_
    have J81_113 : ∀ (T113 : State), ∀ (t1 : Int32), St p l e room_1 s m #[(.int a), (.int b), (.int c'), (.int d), (.int e'), (.int kk)] below meth c n0 T113 h103 ((((0 + 1) + 3) + 1) + 1) ((((0 + 4) + 33) + 2) + 3) → (t1 = if at_ = 0 then d else b) → Done p e below (OEnd s room_1 n0 (fun v h => v = some (.int 1))) (T113.setTop (mkF m 81 #[.val (.int a), .val (.int b), .val (.int c'), .val (.int d), .val (.int e'), .val (.int kk), .val (.ref b2), .val (.int at_), .val (.int t0), .unset, .unset, .unset, .unset, .unset, .unset, .unset] [(.int t1)])) := by
      intro T113 t1 S113 e_t1
      have A113 := S113.here
      refine k_istore A113 hx (hb hby at_81) (Ls' := #[.val (.int a), .val (.int b), .val (.int c'), .val (.int d), .val (.int e'), .val (.int kk), .val (.ref b2), .val (.int at_), .val (.int t0), .val (.int t1), .unset, .unset, .unset, .unset, .unset, .unset]) rfl (pc' := 83) rfl ?_
      refine k_iloadN A113 hx (hb hby at_83) rfl (pc' := 84) rfl ?_
      refine k_istore A113 hx (hb hby at_84) (Ls' := #[.val (.int a), .val (.int b), .val (.int c'), .val (.int d), .val (.int e'), .val (.int kk), .val (.ref b2), .val (.int at_), .val (.int t0), .val (.int t1), .val (.int c'), .unset, .unset, .unset, .unset, .unset]) rfl (pc' := 86) rfl ?_
      have J96_114 : ∀ (T114 : State), ∀ (aa : Int32), St p l e room_1 s m #[(.int a), (.int b), (.int c'), (.int d), (.int e'), (.int kk)] below meth c n0 T114 h103 ((((0 + 1) + 3) + 1) + 1) ((((0 + 4) + 33) + 2) + 3) → (aa = if at_ = 0 then 2 else 3) → Done p e below (OEnd s room_1 n0 (fun v h => v = some (.int 1))) (T114.setTop (mkF m 96 #[.val (.int a), .val (.int b), .val (.int c'), .val (.int d), .val (.int e'), .val (.int kk), .val (.ref b2), .val (.int at_), .val (.int t0), .val (.int t1), .val (.int c'), .unset, .unset, .unset, .unset, .unset] [(.int aa)])) := by
        intro T114 aa S114 e_aa
        have A114 := S114.here
        have haa := own_aa hat e_aa
        refine k_istore A114 hx (hb hby at_96) (Ls' := #[.val (.int a), .val (.int b), .val (.int c'), .val (.int d), .val (.int e'), .val (.int kk), .val (.ref b2), .val (.int at_), .val (.int t0), .val (.int t1), .val (.int c'), .val (.int aa), .unset, .unset, .unset, .unset]) rfl (pc' := 98) rfl ?_
        refine k_iload A114 hx (hb hby at_98) rfl (pc' := 100) rfl ?_
        refine k_iconst A114 hx (hb hby at_100) (v := 1) rfl (pc' := 101) rfl ?_
        refine k_iushr A114 hx (hb hby at_101) (pc' := 102) rfl ?_
        refine k_iconst A114 hx (hb hby at_102) (v := 3) rfl (pc' := 103) rfl ?_
        refine k_iand A114 hx (hb hby at_103) (pc' := 104) rfl ?_
        refine k_iload A114 hx (hb hby at_104) rfl (pc' := 106) rfl ?_
        refine k_iconst A114 hx (hb hby at_106) (v := 1) rfl (pc' := 107) rfl ?_
        refine k_iadd A114 hx (hb hby at_107) (pc' := 108) rfl ?_
        refine k_irem A114 hx (hb hby at_108) (own_nz haa.2 haa.1) (pc' := 109) rfl ?_
        have har := own_rem _ (aa + 1) (own_m3 (kk.toUInt32 >>> ((1 : Int32) &&& 31).toUInt32).toInt32) (by rw [haa.2]; omega)
        rw [haa.2] at har
        generalize q_ar : ((((kk.toUInt32 >>> ((1 : Int32) &&& 31).toUInt32).toInt32) &&& (3 : Int32)) % (aa + (1 : Int32))) = ar at har ⊢
        refine k_istore A114 hx (hb hby at_109) (Ls' := #[.val (.int a), .val (.int b), .val (.int c'), .val (.int d), .val (.int e'), .val (.int kk), .val (.ref b2), .val (.int at_), .val (.int t0), .val (.int t1), .val (.int c'), .val (.int aa), .val (.int ar), .unset, .unset, .unset]) rfl (pc' := 111) rfl ?_
        refine k_iload A114 hx (hb hby at_111) rfl (pc' := 113) rfl ?_
        refine k_iconst A114 hx (hb hby at_113) (v := 3) rfl (pc' := 114) rfl ?_
        refine k_iushr A114 hx (hb hby at_114) (pc' := 115) rfl ?_
        refine k_iconst A114 hx (hb hby at_115) (v := 3) rfl (pc' := 116) rfl ?_
        refine k_iand A114 hx (hb hby at_116) (pc' := 117) rfl ?_
        refine k_iconst A114 hx (hb hby at_117) (v := 3) rfl (pc' := 118) rfl ?_
        refine k_irem A114 hx (hb hby at_118) (by decide) (pc' := 119) rfl ?_
        have hoff := own_rem _ 3 (own_m3 (kk.toUInt32 >>> ((3 : Int32) &&& 31).toUInt32).toInt32) (by decide)
        generalize q_off : ((((kk.toUInt32 >>> ((3 : Int32) &&& 31).toUInt32).toInt32) &&& (3 : Int32)) % (3 : Int32)) = off at hoff ⊢
        refine k_istore A114 hx (hb hby at_119) (Ls' := #[.val (.int a), .val (.int b), .val (.int c'), .val (.int d), .val (.int e'), .val (.int kk), .val (.ref b2), .val (.int at_), .val (.int t0), .val (.int t1), .val (.int c'), .val (.int aa), .val (.int ar), .val (.int off), .unset, .unset]) rfl (pc' := 121) rfl ?_
        refine k_iconst A114 hx (hb hby at_121) (v := 5) rfl (pc' := 122) rfl ?_
        refine k_newint S114 hx hZ (hw _ (List.mem_of_getElem? (i := 9) rfl)) (hb hby at_122) (by decide) 5 (by decide) (by decide) (by decide) (by decide) (pc' := 124) rfl ?_
        intro T115 h115 b115 g115 E115 V115 S115
        have ne116 : b2 ≠ b115 := by rw [g115]; exact Nat.ne_of_lt f104.lt
        have ne117 : pa ≠ b115 := by rw [g115]; exact Nat.ne_of_lt V103p.lt
        have ne118 : f ≠ b115 := by rw [g115]; exact Nat.ne_of_lt V103f.lt
        have ne119 : t ≠ b115 := by rw [g115]; exact Nat.ne_of_lt V103t.lt
        have ge120 : n0 ≤ b115 := Nat.le_trans ge3 (Nat.le_trans (Nat.le_of_lt f104.lt) (Nat.le_of_eq g115.symm))
        have A115 := S115.here
        have f121 := f104.ext E115
        have f122 := F103p.ext E115
        have f123 := F103f.ext E115
        have f124 := F103t.ext E115
        have f125 := F103s.ext E115
        have f126 := V103p.ext E115
        have f127 := V103f.ext E115
        have f128 := V103t.ext E115
        have V115 : IV Z h115 b115 [(0 : Int32), (0 : Int32), (0 : Int32), (0 : Int32), (0 : Int32)] := V115
        refine k_dup A115 hx (hb hby at_124) rfl (pc' := 125) rfl ?_
        refine k_iconst A115 hx (hb hby at_125) (v := 0) rfl (pc' := 126) rfl ?_
        refine k_iload A115 hx (hb hby at_126) rfl (pc' := 128) rfl ?_
        refine k_iastore S115 hx hZ V115 (hb hby at_128) (by decide) (by first | decide | (simp; done)) ge120 (pc' := 129) rfl ?_
        intro T129 h129 W129 V129 S129
        have A129 := S129.here
        have f130 := f121.wr W129
        have f131 := f122.other W129 (Or.inl ne116)
        have f132 := f123.other W129 (Or.inl ne116)
        have f133 := f124.other W129 (Or.inl ne116)
        have f134 := f125.other W129 (Or.inl ne116)
        have f135 := f126.other W129 ne117
        have f136 := f127.other W129 ne118
        have f137 := f128.other W129 ne119
        have V129 : IV Z h129 b115 [e', (0 : Int32), (0 : Int32), (0 : Int32), (0 : Int32)] := V129
        refine k_dup A129 hx (hb hby at_129) rfl (pc' := 130) rfl ?_
        refine k_iconst A129 hx (hb hby at_130) (v := 1) rfl (pc' := 131) rfl ?_
        refine k_iload A129 hx (hb hby at_131) rfl (pc' := 133) rfl ?_
        refine k_iastore S129 hx hZ V129 (hb hby at_133) (by decide) (by first | decide | (simp; done)) ge120 (pc' := 134) rfl ?_
        intro T139 h139 W139 V139 S139
        have A139 := S139.here
        have f140 := f130.wr W139
        have f141 := f131.other W139 (Or.inl ne116)
        have f142 := f132.other W139 (Or.inl ne116)
        have f143 := f133.other W139 (Or.inl ne116)
        have f144 := f134.other W139 (Or.inl ne116)
        have f145 := f135.other W139 ne117
        have f146 := f136.other W139 ne118
        have f147 := f137.other W139 ne119
        have V139 : IV Z h139 b115 [e', e', (0 : Int32), (0 : Int32), (0 : Int32)] := V139
        refine k_dup A139 hx (hb hby at_134) rfl (pc' := 135) rfl ?_
        refine k_iconst A139 hx (hb hby at_135) (v := 2) rfl (pc' := 136) rfl ?_
        refine k_iload A139 hx (hb hby at_136) rfl (pc' := 138) rfl ?_
        refine k_iastore S139 hx hZ V139 (hb hby at_138) (by decide) (by first | decide | (simp; done)) ge120 (pc' := 139) rfl ?_
        intro T149 h149 W149 V149 S149
        have A149 := S149.here
        have f150 := f140.wr W149
        have f151 := f141.other W149 (Or.inl ne116)
        have f152 := f142.other W149 (Or.inl ne116)
        have f153 := f143.other W149 (Or.inl ne116)
        have f154 := f144.other W149 (Or.inl ne116)
        have f155 := f145.other W149 ne117
        have f156 := f146.other W149 ne118
        have f157 := f147.other W149 ne119
        have V149 : IV Z h149 b115 [e', e', e', (0 : Int32), (0 : Int32)] := V149
        refine k_dup A149 hx (hb hby at_139) rfl (pc' := 140) rfl ?_
        refine k_iconst A149 hx (hb hby at_140) (v := 3) rfl (pc' := 141) rfl ?_
        refine k_iload A149 hx (hb hby at_141) rfl (pc' := 143) rfl ?_
        refine k_iastore S149 hx hZ V149 (hb hby at_143) (by decide) (by first | decide | (simp; done)) ge120 (pc' := 144) rfl ?_
        intro T159 h159 W159 V159 S159
        have A159 := S159.here
        have f160 := f150.wr W159
        have f161 := f151.other W159 (Or.inl ne116)
        have f162 := f152.other W159 (Or.inl ne116)
        have f163 := f153.other W159 (Or.inl ne116)
        have f164 := f154.other W159 (Or.inl ne116)
        have f165 := f155.other W159 ne117
        have f166 := f156.other W159 ne118
        have f167 := f157.other W159 ne119
        have V159 : IV Z h159 b115 [e', e', e', e', (0 : Int32)] := V159
        refine k_dup A159 hx (hb hby at_144) rfl (pc' := 145) rfl ?_
        refine k_iconst A159 hx (hb hby at_145) (v := 4) rfl (pc' := 146) rfl ?_
        refine k_iload A159 hx (hb hby at_146) rfl (pc' := 148) rfl ?_
        refine k_iastore S159 hx hZ V159 (hb hby at_148) (by decide) (by first | decide | (simp; done)) ge120 (pc' := 149) rfl ?_
        intro T169 h169 W169 V169 S169
        have A169 := S169.here
        have f170 := f160.wr W169
        have f171 := f161.other W169 (Or.inl ne116)
        have f172 := f162.other W169 (Or.inl ne116)
        have f173 := f163.other W169 (Or.inl ne116)
        have f174 := f164.other W169 (Or.inl ne116)
        have f175 := f165.other W169 ne117
        have f176 := f166.other W169 ne118
        have f177 := f167.other W169 ne119
        have V169 : IV Z h169 b115 [e', e', e', e', e'] := V169
        refine k_astore A169 hx (hb hby at_149) rfl (Ls' := #[.val (.int a), .val (.int b), .val (.int c'), .val (.int d), .val (.int e'), .val (.int kk), .val (.ref b2), .val (.int at_), .val (.int t0), .val (.int t1), .val (.int c'), .val (.int aa), .val (.int ar), .val (.int off), .val (.ref b115), .unset]) rfl (pc' := 151) rfl ?_
        have J177_179 : ∀ (T179 : State) (h179 : Heap), ∀ (rl : List Int32), St p l e room_1 s m #[(.int a), (.int b), (.int c'), (.int d), (.int e'), (.int kk)] below meth c n0 T179 h179 (((((0 + 1) + 3) + 1) + 1) + 1) (((((0 + 4) + 33) + 2) + 3) + 5) → (Exa Z h179 b2 "com/example/libchase/libchase/core/store/AtomTable") → (Fld Z h179 b2 "com/example/libchase/libchase/core/store/AtomTable" "firstTerm" "[I" (.ref f)) → (Fld Z h179 b2 "com/example/libchase/libchase/core/store/AtomTable" "terms" "[I" (.ref t)) → (IV Z h179 f [(0 : Int32), (2 : Int32), (5 : Int32), (0 : Int32), (0 : Int32), (0 : Int32), (0 : Int32), (0 : Int32), (0 : Int32)]) → (IV Z h179 t [c', d, a, b, c', (0 : Int32), (0 : Int32), (0 : Int32), (0 : Int32), (0 : Int32), (0 : Int32), (0 : Int32), (0 : Int32), (0 : Int32), (0 : Int32), (0 : Int32)]) → (IV Z h179 b115 rl) → (rl.length = 5) → Done p e below (OEnd s room_1 n0 (fun v h => v = some (.int 1))) (T179.setTop (mkF m 177 #[.val (.int a), .val (.int b), .val (.int c'), .val (.int d), .val (.int e'), .val (.int kk), .val (.ref b2), .val (.int at_), .val (.int t0), .val (.int t1), .val (.int c'), .val (.int aa), .val (.int ar), .val (.int off), .val (.ref b115), .unset] [])) := by
          intro T179 h179 rl S179 W0 W1 W2 W3 W4 W5 hrl
          have A179 := S179.here
          have J207_180 : ∀ (T180 : State) (h180 : Heap), ∀ (rl : List Int32), St p l e room_1 s m #[(.int a), (.int b), (.int c'), (.int d), (.int e'), (.int kk)] below meth c n0 T180 h180 (((((0 + 1) + 3) + 1) + 1) + 1) (((((0 + 4) + 33) + 2) + 3) + 5) → (Exa Z h180 b2 "com/example/libchase/libchase/core/store/AtomTable") → (Fld Z h180 b2 "com/example/libchase/libchase/core/store/AtomTable" "firstTerm" "[I" (.ref f)) → (Fld Z h180 b2 "com/example/libchase/libchase/core/store/AtomTable" "terms" "[I" (.ref t)) → (IV Z h180 f [(0 : Int32), (2 : Int32), (5 : Int32), (0 : Int32), (0 : Int32), (0 : Int32), (0 : Int32), (0 : Int32), (0 : Int32)]) → (IV Z h180 t [c', d, a, b, c', (0 : Int32), (0 : Int32), (0 : Int32), (0 : Int32), (0 : Int32), (0 : Int32), (0 : Int32), (0 : Int32), (0 : Int32), (0 : Int32), (0 : Int32)]) → (IV Z h180 b115 rl) → (rl.length = 5) → Done p e below (OEnd s room_1 n0 (fun v h => v = some (.int 1))) (T180.setTop (mkF m 207 #[.val (.int a), .val (.int b), .val (.int c'), .val (.int d), .val (.int e'), .val (.int kk), .val (.ref b2), .val (.int at_), .val (.int t0), .val (.int t1), .val (.int c'), .val (.int aa), .val (.int ar), .val (.int off), .val (.ref b115), .unset] [])) := by
            intro T180 h180 rl S180 W0 W1 W2 W3 W4 W5 hrl
            have A180 := S180.here
            have J237_181 : ∀ (T181 : State) (h181 : Heap), ∀ (rl : List Int32), St p l e room_1 s m #[(.int a), (.int b), (.int c'), (.int d), (.int e'), (.int kk)] below meth c n0 T181 h181 (((((0 + 1) + 3) + 1) + 1) + 1) (((((0 + 4) + 33) + 2) + 3) + 5) → (Exa Z h181 b2 "com/example/libchase/libchase/core/store/AtomTable") → (Fld Z h181 b2 "com/example/libchase/libchase/core/store/AtomTable" "firstTerm" "[I" (.ref f)) → (Fld Z h181 b2 "com/example/libchase/libchase/core/store/AtomTable" "terms" "[I" (.ref t)) → (IV Z h181 f [(0 : Int32), (2 : Int32), (5 : Int32), (0 : Int32), (0 : Int32), (0 : Int32), (0 : Int32), (0 : Int32), (0 : Int32)]) → (IV Z h181 t [c', d, a, b, c', (0 : Int32), (0 : Int32), (0 : Int32), (0 : Int32), (0 : Int32), (0 : Int32), (0 : Int32), (0 : Int32), (0 : Int32), (0 : Int32), (0 : Int32)]) → (IV Z h181 b115 rl) → (rl.length = 5) → Done p e below (OEnd s room_1 n0 (fun v h => v = some (.int 1))) (T181.setTop (mkF m 237 #[.val (.int a), .val (.int b), .val (.int c'), .val (.int d), .val (.int e'), .val (.int kk), .val (.ref b2), .val (.int at_), .val (.int t0), .val (.int t1), .val (.int c'), .val (.int aa), .val (.int ar), .val (.int off), .val (.ref b115), .unset] [])) := by
              intro T181 h181 rl S181 W0 W1 W2 W3 W4 W5 hrl
              have A181 := S181.here
              have J294_182 : ∀ (T182 : State), ∀ (be : Int32), St p l e room_1 s m #[(.int a), (.int b), (.int c'), (.int d), (.int e'), (.int kk)] below meth c n0 T182 h181 (((((0 + 1) + 3) + 1) + 1) + 1) (((((0 + 4) + 33) + 2) + 3) + 5) → (be = own_ex rl off ar t0 t1 c') → Done p e below (OEnd s room_1 n0 (fun v h => v = some (.int 1))) (T182.setTop (mkF m 294 #[.val (.int a), .val (.int b), .val (.int c'), .val (.int d), .val (.int e'), .val (.int kk), .val (.ref b2), .val (.int at_), .val (.int t0), .val (.int t1), .val (.int c'), .val (.int aa), .val (.int ar), .val (.int off), .val (.ref b115), .unset] [(.int be)])) := by
                intro T182 be S182 hbe
                have A182 := S182.here
                refine k_istore A182 hx (hb hby at_294) (Ls' := #[.val (.int a), .val (.int b), .val (.int c'), .val (.int d), .val (.int e'), .val (.int kk), .val (.ref b2), .val (.int at_), .val (.int t0), .val (.int t1), .val (.int c'), .val (.int aa), .val (.int ar), .val (.int off), .val (.ref b115), .val (.int be)]) rfl (pc' := 296) rfl ?_
                refine k_aload A182 hx (hb hby at_296) rfl rfl (pc' := 298) rfl ?_
                refine k_iload A182 hx (hb hby at_298) rfl (pc' := 300) rfl ?_
                refine k_aload A182 hx (hb hby at_300) rfl rfl (pc' := 302) rfl ?_
                refine k_iload A182 hx (hb hby at_302) rfl (pc' := 304) rfl ?_
                refine k_iload A182 hx (hb hby at_304) rfl (pc' := 306) rfl ?_
                refine k_call_virtual S182 hx hZ hown W0 (hw _ (List.mem_of_getElem? (i := 27) rfl)) (hw _ (List.mem_of_getElem? (i := 28) rfl)) (hw _ (List.mem_of_getElem? (i := 30) rfl)) (hw _ (List.mem_of_getElem? (i := 29) rfl)) (hw _ (List.mem_of_getElem? (i := 2) rfl)) (hw _ (List.mem_of_getElem? (i := 31) rfl)) (by decide) (own_holds l Z a0 hw b2 at_ b115 off ar h181 n0 f t [(0 : Int32), (2 : Int32), (5 : Int32), (0 : Int32), (0 : Int32), (0 : Int32), (0 : Int32), (0 : Int32), (0 : Int32)] [c', d, a, b, c', (0 : Int32), (0 : Int32), (0 : Int32), (0 : Int32), (0 : Int32), (0 : Int32), (0 : Int32), (0 : Int32), (0 : Int32), (0 : Int32), (0 : Int32)] rl (if at_ = 0 then 0 else 2) W1 W2 W3 W4 W5 (own_at hat) (own_fl hat) (own_bd hat hoff har haa hrl)) 0 (argsL := [(.int at_), (.ref b115), (.int off), (.int ar)]) (rest := []) (by decide) (by decide) (by rw [hml]; rfl) (lenOf own_pd2 rfl) rfl rfl (Nat.le_refl 0) (hb hby at_306) (pc' := 309) rfl (by decide) (by decide) ?_
                rintro v183 T183 h183 ⟨hres, q183⟩ S183
                rw [q183] at S183
                obtain ⟨r, rfl, hr⟩ := own_res hres
                have A183 := S183.here
                show Done p e below _ (T183.setTop (mkF m 309 #[.val (.int a), .val (.int b), .val (.int c'), .val (.int d), .val (.int e'), .val (.int kk), .val (.ref b2), .val (.int at_), .val (.int t0), .val (.int t1), .val (.int c'), .val (.int aa), .val (.int ar), .val (.int off), .val (.ref b115), .val (.int be)] [(.int r)]))
                refine k_iload A183 hx (hb hby at_309) rfl (pc' := 311) rfl ?_
                refine k_icmp_ne A183 hx (hb hby at_311) (pcY := 318) (by decide) (pc' := 314) rfl (fun hc311 => ?_) (fun hc311 => ?_)
                · refine k_iconst A183 hx (hb hby at_318) (v := 0) rfl (pc' := 319) rfl ?_
                  refine k_ret_nar S183 hx (t := .boolean) hret (by simp) hlk (hb hby at_319) (z' := (0 : Int32)) rfl (by decide) (by decide) ?_
                  exact absurd (own_fin hr hbe (own_eqv _ _ _ _ _ _ _ _ (own_off1 hoff) (own_off2 hoff) hoff.1 har.1 (by have q := har.2; have r := haa.1; omega) (own_t0 hat e_t0) (own_t1 hat e_t1) (own_t2 hat har haa))) hc311
                · refine k_iconst A183 hx (hb hby at_314) (v := 1) rfl (pc' := 315) rfl ?_
                  refine k_goto A183 hx (hb hby at_315) (pc' := 319) (by decide) ?_
                  refine k_ret_nar S183 hx (t := .boolean) hret (by simp) hlk (hb hby at_319) (z' := (1 : Int32)) rfl (by decide) (by decide) ?_
                  exact rfl
              refine k_iload A181 hx (hb hby at_237) rfl (pc' := 239) rfl ?_
              refine k_iconst A181 hx (hb hby at_239) (v := 1) rfl (pc' := 240) rfl ?_
              refine k_icmp_lt A181 hx (hb hby at_240) (pcY := 253) (by decide) (pc' := 243) rfl (fun hc240 => ?_) (fun hc240 => ?_)
              · refine k_iload A181 hx (hb hby at_253) rfl (pc' := 255) rfl ?_
                refine k_iconst A181 hx (hb hby at_255) (v := 2) rfl (pc' := 256) rfl ?_
                refine k_icmp_lt A181 hx (hb hby at_256) (pcY := 271) (by decide) (pc' := 259) rfl (fun hc256 => ?_) (fun hc256 => ?_)
                · refine k_iload A181 hx (hb hby at_271) rfl (pc' := 273) rfl ?_
                  refine k_iconst A181 hx (hb hby at_273) (v := 3) rfl (pc' := 274) rfl ?_
                  refine k_icmp_lt A181 hx (hb hby at_274) (pcY := 289) (by decide) (pc' := 277) rfl (fun hc274 => ?_) (fun hc274 => ?_)
                  · refine k_iconst A181 hx (hb hby at_289) (v := 1) rfl (pc' := 290) rfl ?_
                    refine k_goto A181 hx (hb hby at_290) (pc' := 294) (by decide) ?_
                    exact J294_182 T181 (1 : Int32) (S181.more (by decide) (by decide)) (by unfold own_ex; simp only [hc240, hc256, hc274, true_or, or_true, false_or, or_false, true_and, and_true, false_and, and_false, if_true, if_false, or_self, and_self, ite_true, ite_false])
                  · refine k_aload A181 hx (hb hby at_277) rfl rfl (pc' := 279) rfl ?_
                    refine k_iload A181 hx (hb hby at_279) rfl (pc' := 281) rfl ?_
                    refine k_iconst A181 hx (hb hby at_281) (v := 2) rfl (pc' := 282) rfl ?_
                    refine k_iadd A181 hx (hb hby at_282) (pc' := 283) rfl ?_
                    refine k_iaload S181 hx hZ W5 (hb hby at_283) (by rw [own_off2 hoff]; have q := hoff.1; omega) (by rw [own_off2 hoff]; have q := hoff.2; have r : (3 : Int32).toInt = 3 := rfl; omega) rfl (pc' := 284) rfl ?_
                    refine k_iload A181 hx (hb hby at_284) rfl (pc' := 286) rfl ?_
                    refine k_icmp_ne A181 hx (hb hby at_286) (pcY := 293) (by decide) (pc' := 289) rfl (fun hc286 => ?_) (fun hc286 => ?_)
                    · refine k_iconst A181 hx (hb hby at_293) (v := 0) rfl (pc' := 294) rfl ?_
                      exact J294_182 T181 (0 : Int32) (S181.more (by decide) (by decide)) (by unfold own_ex; simp only [hc240, hc256, hc274, hc286, true_or, or_true, false_or, or_false, true_and, and_true, false_and, and_false, if_true, if_false, or_self, and_self, ite_true, ite_false])
                    · refine k_iconst A181 hx (hb hby at_289) (v := 1) rfl (pc' := 290) rfl ?_
                      refine k_goto A181 hx (hb hby at_290) (pc' := 294) (by decide) ?_
                      exact J294_182 T181 (1 : Int32) (S181.more (by decide) (by decide)) (by unfold own_ex; simp only [hc240, hc256, hc274, hc286, true_or, or_true, false_or, or_false, true_and, and_true, false_and, and_false, if_true, if_false, or_self, and_self, ite_true, ite_false])
                · refine k_aload A181 hx (hb hby at_259) rfl rfl (pc' := 261) rfl ?_
                  refine k_iload A181 hx (hb hby at_261) rfl (pc' := 263) rfl ?_
                  refine k_iconst A181 hx (hb hby at_263) (v := 1) rfl (pc' := 264) rfl ?_
                  refine k_iadd A181 hx (hb hby at_264) (pc' := 265) rfl ?_
                  refine k_iaload S181 hx hZ W5 (hb hby at_265) (by rw [own_off1 hoff]; have q := hoff.1; omega) (by rw [own_off1 hoff]; have q := hoff.2; have r : (3 : Int32).toInt = 3 := rfl; omega) rfl (pc' := 266) rfl ?_
                  refine k_iload A181 hx (hb hby at_266) rfl (pc' := 268) rfl ?_
                  refine k_icmp_ne A181 hx (hb hby at_268) (pcY := 293) (by decide) (pc' := 271) rfl (fun hc268 => ?_) (fun hc268 => ?_)
                  · refine k_iconst A181 hx (hb hby at_293) (v := 0) rfl (pc' := 294) rfl ?_
                    exact J294_182 T181 (0 : Int32) (S181.more (by decide) (by decide)) (by unfold own_ex; simp only [hc240, hc256, hc268, true_or, or_true, false_or, or_false, true_and, and_true, false_and, and_false, if_true, if_false, or_self, and_self, ite_true, ite_false])
                  · refine k_iload A181 hx (hb hby at_271) rfl (pc' := 273) rfl ?_
                    refine k_iconst A181 hx (hb hby at_273) (v := 3) rfl (pc' := 274) rfl ?_
                    refine k_icmp_lt A181 hx (hb hby at_274) (pcY := 289) (by decide) (pc' := 277) rfl (fun hc274 => ?_) (fun hc274 => ?_)
                    · refine k_iconst A181 hx (hb hby at_289) (v := 1) rfl (pc' := 290) rfl ?_
                      refine k_goto A181 hx (hb hby at_290) (pc' := 294) (by decide) ?_
                      exact J294_182 T181 (1 : Int32) (S181.more (by decide) (by decide)) (by unfold own_ex; simp only [hc240, hc256, hc268, hc274, true_or, or_true, false_or, or_false, true_and, and_true, false_and, and_false, if_true, if_false, or_self, and_self, ite_true, ite_false])
                    · refine k_aload A181 hx (hb hby at_277) rfl rfl (pc' := 279) rfl ?_
                      refine k_iload A181 hx (hb hby at_279) rfl (pc' := 281) rfl ?_
                      refine k_iconst A181 hx (hb hby at_281) (v := 2) rfl (pc' := 282) rfl ?_
                      refine k_iadd A181 hx (hb hby at_282) (pc' := 283) rfl ?_
                      refine k_iaload S181 hx hZ W5 (hb hby at_283) (by rw [own_off2 hoff]; have q := hoff.1; omega) (by rw [own_off2 hoff]; have q := hoff.2; have r : (3 : Int32).toInt = 3 := rfl; omega) rfl (pc' := 284) rfl ?_
                      refine k_iload A181 hx (hb hby at_284) rfl (pc' := 286) rfl ?_
                      refine k_icmp_ne A181 hx (hb hby at_286) (pcY := 293) (by decide) (pc' := 289) rfl (fun hc286 => ?_) (fun hc286 => ?_)
                      · refine k_iconst A181 hx (hb hby at_293) (v := 0) rfl (pc' := 294) rfl ?_
                        exact J294_182 T181 (0 : Int32) (S181.more (by decide) (by decide)) (by unfold own_ex; simp only [hc240, hc256, hc268, hc274, hc286, true_or, or_true, false_or, or_false, true_and, and_true, false_and, and_false, if_true, if_false, or_self, and_self, ite_true, ite_false])
                      · refine k_iconst A181 hx (hb hby at_289) (v := 1) rfl (pc' := 290) rfl ?_
                        refine k_goto A181 hx (hb hby at_290) (pc' := 294) (by decide) ?_
                        exact J294_182 T181 (1 : Int32) (S181.more (by decide) (by decide)) (by unfold own_ex; simp only [hc240, hc256, hc268, hc274, hc286, true_or, or_true, false_or, or_false, true_and, and_true, false_and, and_false, if_true, if_false, or_self, and_self, ite_true, ite_false])
              · refine k_aload A181 hx (hb hby at_243) rfl rfl (pc' := 245) rfl ?_
                refine k_iload A181 hx (hb hby at_245) rfl (pc' := 247) rfl ?_
                refine k_iaload S181 hx hZ W5 (hb hby at_247) hoff.1 (by have q := hoff.2; have r : (3 : Int32).toInt = 3 := rfl; omega) rfl (pc' := 248) rfl ?_
                refine k_iload A181 hx (hb hby at_248) rfl (pc' := 250) rfl ?_
                refine k_icmp_ne A181 hx (hb hby at_250) (pcY := 293) (by decide) (pc' := 253) rfl (fun hc250 => ?_) (fun hc250 => ?_)
                · refine k_iconst A181 hx (hb hby at_293) (v := 0) rfl (pc' := 294) rfl ?_
                  exact J294_182 T181 (0 : Int32) (S181.more (by decide) (by decide)) (by unfold own_ex; simp only [hc240, hc250, true_or, or_true, false_or, or_false, true_and, and_true, false_and, and_false, if_true, if_false, or_self, and_self, ite_true, ite_false])
                · refine k_iload A181 hx (hb hby at_253) rfl (pc' := 255) rfl ?_
                  refine k_iconst A181 hx (hb hby at_255) (v := 2) rfl (pc' := 256) rfl ?_
                  refine k_icmp_lt A181 hx (hb hby at_256) (pcY := 271) (by decide) (pc' := 259) rfl (fun hc256 => ?_) (fun hc256 => ?_)
                  · refine k_iload A181 hx (hb hby at_271) rfl (pc' := 273) rfl ?_
                    refine k_iconst A181 hx (hb hby at_273) (v := 3) rfl (pc' := 274) rfl ?_
                    refine k_icmp_lt A181 hx (hb hby at_274) (pcY := 289) (by decide) (pc' := 277) rfl (fun hc274 => ?_) (fun hc274 => ?_)
                    · refine k_iconst A181 hx (hb hby at_289) (v := 1) rfl (pc' := 290) rfl ?_
                      refine k_goto A181 hx (hb hby at_290) (pc' := 294) (by decide) ?_
                      exact J294_182 T181 (1 : Int32) (S181.more (by decide) (by decide)) (by unfold own_ex; simp only [hc240, hc250, hc256, hc274, true_or, or_true, false_or, or_false, true_and, and_true, false_and, and_false, if_true, if_false, or_self, and_self, ite_true, ite_false])
                    · refine k_aload A181 hx (hb hby at_277) rfl rfl (pc' := 279) rfl ?_
                      refine k_iload A181 hx (hb hby at_279) rfl (pc' := 281) rfl ?_
                      refine k_iconst A181 hx (hb hby at_281) (v := 2) rfl (pc' := 282) rfl ?_
                      refine k_iadd A181 hx (hb hby at_282) (pc' := 283) rfl ?_
                      refine k_iaload S181 hx hZ W5 (hb hby at_283) (by rw [own_off2 hoff]; have q := hoff.1; omega) (by rw [own_off2 hoff]; have q := hoff.2; have r : (3 : Int32).toInt = 3 := rfl; omega) rfl (pc' := 284) rfl ?_
                      refine k_iload A181 hx (hb hby at_284) rfl (pc' := 286) rfl ?_
                      refine k_icmp_ne A181 hx (hb hby at_286) (pcY := 293) (by decide) (pc' := 289) rfl (fun hc286 => ?_) (fun hc286 => ?_)
                      · refine k_iconst A181 hx (hb hby at_293) (v := 0) rfl (pc' := 294) rfl ?_
                        exact J294_182 T181 (0 : Int32) (S181.more (by decide) (by decide)) (by unfold own_ex; simp only [hc240, hc250, hc256, hc274, hc286, true_or, or_true, false_or, or_false, true_and, and_true, false_and, and_false, if_true, if_false, or_self, and_self, ite_true, ite_false])
                      · refine k_iconst A181 hx (hb hby at_289) (v := 1) rfl (pc' := 290) rfl ?_
                        refine k_goto A181 hx (hb hby at_290) (pc' := 294) (by decide) ?_
                        exact J294_182 T181 (1 : Int32) (S181.more (by decide) (by decide)) (by unfold own_ex; simp only [hc240, hc250, hc256, hc274, hc286, true_or, or_true, false_or, or_false, true_and, and_true, false_and, and_false, if_true, if_false, or_self, and_self, ite_true, ite_false])
                  · refine k_aload A181 hx (hb hby at_259) rfl rfl (pc' := 261) rfl ?_
                    refine k_iload A181 hx (hb hby at_261) rfl (pc' := 263) rfl ?_
                    refine k_iconst A181 hx (hb hby at_263) (v := 1) rfl (pc' := 264) rfl ?_
                    refine k_iadd A181 hx (hb hby at_264) (pc' := 265) rfl ?_
                    refine k_iaload S181 hx hZ W5 (hb hby at_265) (by rw [own_off1 hoff]; have q := hoff.1; omega) (by rw [own_off1 hoff]; have q := hoff.2; have r : (3 : Int32).toInt = 3 := rfl; omega) rfl (pc' := 266) rfl ?_
                    refine k_iload A181 hx (hb hby at_266) rfl (pc' := 268) rfl ?_
                    refine k_icmp_ne A181 hx (hb hby at_268) (pcY := 293) (by decide) (pc' := 271) rfl (fun hc268 => ?_) (fun hc268 => ?_)
                    · refine k_iconst A181 hx (hb hby at_293) (v := 0) rfl (pc' := 294) rfl ?_
                      exact J294_182 T181 (0 : Int32) (S181.more (by decide) (by decide)) (by unfold own_ex; simp only [hc240, hc250, hc256, hc268, true_or, or_true, false_or, or_false, true_and, and_true, false_and, and_false, if_true, if_false, or_self, and_self, ite_true, ite_false])
                    · refine k_iload A181 hx (hb hby at_271) rfl (pc' := 273) rfl ?_
                      refine k_iconst A181 hx (hb hby at_273) (v := 3) rfl (pc' := 274) rfl ?_
                      refine k_icmp_lt A181 hx (hb hby at_274) (pcY := 289) (by decide) (pc' := 277) rfl (fun hc274 => ?_) (fun hc274 => ?_)
                      · refine k_iconst A181 hx (hb hby at_289) (v := 1) rfl (pc' := 290) rfl ?_
                        refine k_goto A181 hx (hb hby at_290) (pc' := 294) (by decide) ?_
                        exact J294_182 T181 (1 : Int32) (S181.more (by decide) (by decide)) (by unfold own_ex; simp only [hc240, hc250, hc256, hc268, hc274, true_or, or_true, false_or, or_false, true_and, and_true, false_and, and_false, if_true, if_false, or_self, and_self, ite_true, ite_false])
                      · refine k_aload A181 hx (hb hby at_277) rfl rfl (pc' := 279) rfl ?_
                        refine k_iload A181 hx (hb hby at_279) rfl (pc' := 281) rfl ?_
                        refine k_iconst A181 hx (hb hby at_281) (v := 2) rfl (pc' := 282) rfl ?_
                        refine k_iadd A181 hx (hb hby at_282) (pc' := 283) rfl ?_
                        refine k_iaload S181 hx hZ W5 (hb hby at_283) (by rw [own_off2 hoff]; have q := hoff.1; omega) (by rw [own_off2 hoff]; have q := hoff.2; have r : (3 : Int32).toInt = 3 := rfl; omega) rfl (pc' := 284) rfl ?_
                        refine k_iload A181 hx (hb hby at_284) rfl (pc' := 286) rfl ?_
                        refine k_icmp_ne A181 hx (hb hby at_286) (pcY := 293) (by decide) (pc' := 289) rfl (fun hc286 => ?_) (fun hc286 => ?_)
                        · refine k_iconst A181 hx (hb hby at_293) (v := 0) rfl (pc' := 294) rfl ?_
                          exact J294_182 T181 (0 : Int32) (S181.more (by decide) (by decide)) (by unfold own_ex; simp only [hc240, hc250, hc256, hc268, hc274, hc286, true_or, or_true, false_or, or_false, true_and, and_true, false_and, and_false, if_true, if_false, or_self, and_self, ite_true, ite_false])
                        · refine k_iconst A181 hx (hb hby at_289) (v := 1) rfl (pc' := 290) rfl ?_
                          refine k_goto A181 hx (hb hby at_290) (pc' := 294) (by decide) ?_
                          exact J294_182 T181 (1 : Int32) (S181.more (by decide) (by decide)) (by unfold own_ex; simp only [hc240, hc250, hc256, hc268, hc274, hc286, true_or, or_true, false_or, or_false, true_and, and_true, false_and, and_false, if_true, if_false, or_self, and_self, ite_true, ite_false])
            refine k_iload A180 hx (hb hby at_207) rfl (pc' := 209) rfl ?_
            refine k_iconst A180 hx (hb hby at_209) (v := 2) rfl (pc' := 210) rfl ?_
            refine k_icmp_le A180 hx (hb hby at_210) (pcY := 237) (by decide) (pc' := 213) rfl (fun hc210 => ?_) (fun hc210 => ?_)
            · exact J237_181 T180 h180 rl (S180.more (by decide) (by decide)) W0 W1 W2 W3 W4 W5 (by simpa using hrl)
            · refine k_aload A180 hx (hb hby at_213) rfl rfl (pc' := 215) rfl ?_
              refine k_iload A180 hx (hb hby at_215) rfl (pc' := 217) rfl ?_
              refine k_iconst A180 hx (hb hby at_217) (v := 2) rfl (pc' := 218) rfl ?_
              refine k_iadd A180 hx (hb hby at_218) (pc' := 219) rfl ?_
              have J236_184 : ∀ (T184 : State), ∀ (tv : Int32), St p l e room_1 s m #[(.int a), (.int b), (.int c'), (.int d), (.int e'), (.int kk)] below meth c n0 T184 h180 (((((0 + 1) + 3) + 1) + 1) + 1) (((((0 + 4) + 33) + 2) + 3) + 5) → Done p e below (OEnd s room_1 n0 (fun v h => v = some (.int 1))) (T184.setTop (mkF m 236 #[.val (.int a), .val (.int b), .val (.int c'), .val (.int d), .val (.int e'), .val (.int kk), .val (.ref b2), .val (.int at_), .val (.int t0), .val (.int t1), .val (.int c'), .val (.int aa), .val (.int ar), .val (.int off), .val (.ref b115), .unset] [(.int tv), (.int (off + (2 : Int32))), (.ref b115)])) := by
                intro T184 tv S184
                have A184 := S184.here
                refine k_iastore S184 hx hZ W5 (hb hby at_236) (by rw [own_off2 hoff]; have q := hoff.1; omega) (by rw [own_off2 hoff]; have q := hoff.2; have r : (3 : Int32).toInt = 3 := rfl; omega) ge120 (pc' := 237) rfl ?_
                intro T185 h185 W185 V185 S185
                have A185 := S185.here
                have f186 := W0.wr W185
                have f187 := W1.other W185 (Or.inl ne116)
                have f188 := W2.other W185 (Or.inl ne116)
                have f189 := W3.other W185 ne118
                have f190 := W4.other W185 ne119
                exact J237_181 T185 h185 (rl.set (off + (2 : Int32)).toInt.toNat tv) (S185.more (by decide) (by decide)) f186 f187 f188 f189 f190 V185 (by simpa using hrl)
              refine k_iload A180 hx (hb hby at_219) rfl (pc' := 221) rfl ?_
              refine k_bipush A180 hx (hb hby at_221) (v := 7) rfl (pc' := 223) rfl ?_
              refine k_iushr A180 hx (hb hby at_223) (pc' := 224) rfl ?_
              refine k_iconst A180 hx (hb hby at_224) (v := 1) rfl (pc' := 225) rfl ?_
              refine k_iand A180 hx (hb hby at_225) (pc' := 226) rfl ?_
              refine k_if_eq A180 hx (hb hby at_226) (pcY := 234) (by decide) (pc' := 229) rfl (fun hc226 => ?_) (fun hc226 => ?_)
              · refine k_iload A180 hx (hb hby at_234) rfl (pc' := 236) rfl ?_
                exact J236_184 T180 e' (S180.more (by decide) (by decide)) 
              · refine k_iload A180 hx (hb hby at_229) rfl (pc' := 231) rfl ?_
                refine k_goto A180 hx (hb hby at_231) (pc' := 236) (by decide) ?_
                exact J236_184 T180 c' (S180.more (by decide) (by decide)) 
          refine k_iload A179 hx (hb hby at_177) rfl (pc' := 179) rfl ?_
          refine k_iconst A179 hx (hb hby at_179) (v := 1) rfl (pc' := 180) rfl ?_
          refine k_icmp_le A179 hx (hb hby at_180) (pcY := 207) (by decide) (pc' := 183) rfl (fun hc180 => ?_) (fun hc180 => ?_)
          · exact J207_180 T179 h179 rl (S179.more (by decide) (by decide)) W0 W1 W2 W3 W4 W5 (by simpa using hrl)
          · refine k_aload A179 hx (hb hby at_183) rfl rfl (pc' := 185) rfl ?_
            refine k_iload A179 hx (hb hby at_185) rfl (pc' := 187) rfl ?_
            refine k_iconst A179 hx (hb hby at_187) (v := 1) rfl (pc' := 188) rfl ?_
            refine k_iadd A179 hx (hb hby at_188) (pc' := 189) rfl ?_
            have J206_192 : ∀ (T192 : State), ∀ (tv : Int32), St p l e room_1 s m #[(.int a), (.int b), (.int c'), (.int d), (.int e'), (.int kk)] below meth c n0 T192 h179 (((((0 + 1) + 3) + 1) + 1) + 1) (((((0 + 4) + 33) + 2) + 3) + 5) → Done p e below (OEnd s room_1 n0 (fun v h => v = some (.int 1))) (T192.setTop (mkF m 206 #[.val (.int a), .val (.int b), .val (.int c'), .val (.int d), .val (.int e'), .val (.int kk), .val (.ref b2), .val (.int at_), .val (.int t0), .val (.int t1), .val (.int c'), .val (.int aa), .val (.int ar), .val (.int off), .val (.ref b115), .unset] [(.int tv), (.int (off + (1 : Int32))), (.ref b115)])) := by
              intro T192 tv S192
              have A192 := S192.here
              refine k_iastore S192 hx hZ W5 (hb hby at_206) (by rw [own_off1 hoff]; have q := hoff.1; omega) (by rw [own_off1 hoff]; have q := hoff.2; have r : (3 : Int32).toInt = 3 := rfl; omega) ge120 (pc' := 207) rfl ?_
              intro T193 h193 W193 V193 S193
              have A193 := S193.here
              have f194 := W0.wr W193
              have f195 := W1.other W193 (Or.inl ne116)
              have f196 := W2.other W193 (Or.inl ne116)
              have f197 := W3.other W193 ne118
              have f198 := W4.other W193 ne119
              exact J207_180 T193 h193 (rl.set (off + (1 : Int32)).toInt.toNat tv) (S193.more (by decide) (by decide)) f194 f195 f196 f197 f198 V193 (by simpa using hrl)
            refine k_iload A179 hx (hb hby at_189) rfl (pc' := 191) rfl ?_
            refine k_bipush A179 hx (hb hby at_191) (v := 6) rfl (pc' := 193) rfl ?_
            refine k_iushr A179 hx (hb hby at_193) (pc' := 194) rfl ?_
            refine k_iconst A179 hx (hb hby at_194) (v := 1) rfl (pc' := 195) rfl ?_
            refine k_iand A179 hx (hb hby at_195) (pc' := 196) rfl ?_
            refine k_if_eq A179 hx (hb hby at_196) (pcY := 204) (by decide) (pc' := 199) rfl (fun hc196 => ?_) (fun hc196 => ?_)
            · refine k_iload A179 hx (hb hby at_204) rfl (pc' := 206) rfl ?_
              exact J206_192 T179 e' (S179.more (by decide) (by decide)) 
            · refine k_iload A179 hx (hb hby at_199) rfl (pc' := 201) rfl ?_
              refine k_goto A179 hx (hb hby at_201) (pc' := 206) (by decide) ?_
              exact J206_192 T179 t1 (S179.more (by decide) (by decide)) 
        refine k_iload A169 hx (hb hby at_151) rfl (pc' := 153) rfl ?_
        refine k_if_le A169 hx (hb hby at_153) (pcY := 177) (by decide) (pc' := 156) rfl (fun hc153 => ?_) (fun hc153 => ?_)
        · exact J177_179 T169 h169 ([e', e', e', e', e']) (S169.more (by decide) (by decide)) f170 f172 f173 f176 f177 V169 rfl
        · refine k_aload A169 hx (hb hby at_156) rfl rfl (pc' := 158) rfl ?_
          refine k_iload A169 hx (hb hby at_158) rfl (pc' := 160) rfl ?_
          have J176_200 : ∀ (T200 : State), ∀ (tv : Int32), St p l e room_1 s m #[(.int a), (.int b), (.int c'), (.int d), (.int e'), (.int kk)] below meth c n0 T200 h169 (((((0 + 1) + 3) + 1) + 1) + 1) (((((0 + 4) + 33) + 2) + 3) + 5) → Done p e below (OEnd s room_1 n0 (fun v h => v = some (.int 1))) (T200.setTop (mkF m 176 #[.val (.int a), .val (.int b), .val (.int c'), .val (.int d), .val (.int e'), .val (.int kk), .val (.ref b2), .val (.int at_), .val (.int t0), .val (.int t1), .val (.int c'), .val (.int aa), .val (.int ar), .val (.int off), .val (.ref b115), .unset] [(.int tv), (.int off), (.ref b115)])) := by
            intro T200 tv S200
            have A200 := S200.here
            refine k_iastore S200 hx hZ V169 (hb hby at_176) hoff.1 (by have q := hoff.2; have r : (3 : Int32).toInt = 3 := rfl; show off.toInt < 5; omega) ge120 (pc' := 177) rfl ?_
            intro T201 h201 W201 V201 S201
            have A201 := S201.here
            have f202 := f170.wr W201
            have f203 := f172.other W201 (Or.inl ne116)
            have f204 := f173.other W201 (Or.inl ne116)
            have f205 := f176.other W201 ne118
            have f206 := f177.other W201 ne119
            exact J177_179 T201 h201 (([e', e', e', e', e']).set off.toInt.toNat tv) (S201.more (by decide) (by decide)) f202 f203 f204 f205 f206 V201 (by simpa using hrl)
          refine k_iload A169 hx (hb hby at_160) rfl (pc' := 162) rfl ?_
          refine k_iconst A169 hx (hb hby at_162) (v := 5) rfl (pc' := 163) rfl ?_
          refine k_iushr A169 hx (hb hby at_163) (pc' := 164) rfl ?_
          refine k_iconst A169 hx (hb hby at_164) (v := 1) rfl (pc' := 165) rfl ?_
          refine k_iand A169 hx (hb hby at_165) (pc' := 166) rfl ?_
          refine k_if_eq A169 hx (hb hby at_166) (pcY := 174) (by decide) (pc' := 169) rfl (fun hc166 => ?_) (fun hc166 => ?_)
          · refine k_iload A169 hx (hb hby at_174) rfl (pc' := 176) rfl ?_
            exact J176_200 T169 e' (S169.more (by decide) (by decide)) 
          · refine k_iload A169 hx (hb hby at_169) rfl (pc' := 171) rfl ?_
            refine k_goto A169 hx (hb hby at_171) (pc' := 176) (by decide) ?_
            exact J176_200 T169 t0 (S169.more (by decide) (by decide)) 
      refine k_iload A113 hx (hb hby at_86) rfl (pc' := 88) rfl ?_
      refine k_if_ne A113 hx (hb hby at_88) (pcY := 95) (by decide) (pc' := 91) rfl (fun hc88 => ?_) (fun hc88 => ?_)
      · refine k_iconst A113 hx (hb hby at_95) (v := 3) rfl (pc' := 96) rfl ?_
        exact J96_114 T113 (3 : Int32) (S113.more (by decide) (by decide)) (if_neg hc88).symm
      · refine k_iconst A113 hx (hb hby at_91) (v := 2) rfl (pc' := 92) rfl ?_
        refine k_goto A113 hx (hb hby at_92) (pc' := 96) (by decide) ?_
        exact J96_114 T113 (2 : Int32) (S113.more (by decide) (by decide)) (if_pos hc88).symm
    refine k_iload A112 hx (hb hby at_71) rfl (pc' := 73) rfl ?_
    refine k_if_ne A112 hx (hb hby at_73) (pcY := 80) (by decide) (pc' := 76) rfl (fun hc73 => ?_) (fun hc73 => ?_)
    · refine k_iloadN A112 hx (hb hby at_80) rfl (pc' := 81) rfl ?_
      exact J81_113 T112 b (S112.more (by decide) (by decide)) (if_neg hc73).symm
    · refine k_iloadN A112 hx (hb hby at_76) rfl (pc' := 77) rfl ?_
      refine k_goto A112 hx (hb hby at_77) (pc' := 81) (by decide) ?_
      exact J81_113 T112 d (S112.more (by decide) (by decide)) (if_pos hc73).symm
  refine k_iload A103 hx (hb hby at_59) rfl (pc' := 61) rfl ?_
  refine k_if_ne A103 hx (hb hby at_61) (pcY := 68) (by decide) (pc' := 64) rfl (fun hc61 => ?_) (fun hc61 => ?_)
  · refine k_iloadN A103 hx (hb hby at_68) rfl (pc' := 69) rfl ?_
    exact J69_112 T103 a (S103.more (by decide) (by decide)) (if_neg hc61).symm
  · refine k_iloadN A103 hx (hb hby at_64) rfl (pc' := 65) rfl ?_
    refine k_goto A103 hx (hb hby at_65) (pc' := 69) (by decide) ?_
    exact J69_112 T103 c' (S103.more (by decide) (by decide)) (if_pos hc61).symm
set_option maxRecDepth 65536 in
set_option maxHeartbeats 40000000 in
theorem comes_1 {Post : Tables → Env → Array Value → State → Outcome → State → Prop} (hpost : ∀ tb e args s v u, (limb_1_1.after args s (.returned v) u = true ∧ limb_1_2.after args s (.returned v) u = true ∧ True) → FrameEnd s (.returned v) u (Jvm.fieldLocs frame_1_writes args s ++ Jvm.arrayLocs frame_1_arrays args s ++ Jvm.staticLocs frame_1_statics s) 24 192 → Post tb e args s (.returned v) u) :
    ArmFor flags0 classFile x code maxLocals ret World_1 tables_1 room_1 Calls_1 rest_1 Pre_1 Post := by
  intro l hfl _ _ p e ha hc hk s m args below hf hA hF happ hP
  obtain ⟨hcalls, hrest, hpre⟩ := hP
  obtain ⟨-, -, -, hnamed, -, -, -, hat⟩ := (Spec.applies_iff hf).mp happ
  obtain ⟨hg, hn⟩ := and_e (Cond.before_iff.mp (show (Jvm.Cond.and given_1 narrow_1).before args s = true from hpre))
  obtain ⟨g1, g2⟩ := and_e hg
  obtain ⟨g3, g4⟩ := and_e g2
  obtain ⟨g5, g6⟩ := and_e g4
  obtain ⟨g7, g8⟩ := and_e g6
  obtain ⟨g9, g10⟩ := and_e g8
  obtain ⟨g11, g12⟩ := and_e g10
  obtain ⟨w0, w1, w2, w3, w4, w5, rfl⟩ : ∃ w0 w1 w2 w3 w4 w5 : Value, args = #[w0, w1, w2, w3, w4, w5] := by
    have hs : args.size = 6 := by simpa [Cond.value, given_1] using g1
    obtain ⟨L⟩ := args
    match L, hs with
    | [w0, w1, w2, w3, w4, w5], _ => exact ⟨w0, w1, w2, w3, w4, w5, rfl⟩
  have hw := fun d (hd : d ∈ tables_1) => atoms_spec (ws := Jvm.Cond.code x code maxLocals ret :: tables_1) hat d (List.mem_cons_of_mem _ hd)
  obtain ⟨i0, ei0⟩ := is_v g3
  obtain rfl : w0 = (.int i0) := Option.some.inj ei0
  obtain ⟨i1, ei1⟩ := is_v g5
  obtain rfl : w1 = (.int i1) := Option.some.inj ei1
  obtain ⟨i2, ei2⟩ := is_v g7
  obtain rfl : w2 = (.int i2) := Option.some.inj ei2
  obtain ⟨i3, ei3⟩ := is_v g9
  obtain rfl : w3 = (.int i3) := Option.some.inj ei3
  obtain ⟨i4, ei4⟩ := is_v g11
  obtain rfl : w4 = (.int i4) := Option.some.inj ei4
  obtain ⟨i5, ei5⟩ := is_v g12
  obtain rfl : w5 = (.int i5) := Option.some.inj ei5
  obtain ⟨n, o, h1, h2, h3, _, L, rfl, ⟨rfl, N⟩, hq⟩ := own_law l s _ hw i0 i1 i2 i3 i4 i5 s.heap s.heap.size (Nat.le_refl _) tables_1 p e ha hc hk s m _ below hf ((Spec.applies_iff_loose hf).mp happ).1 ⟨rfl, State.Warmed39.refl s, rfl⟩ trivial
  refine ⟨n, _, h1, h2, h3, hpost _ _ _ _ _ _ ⟨Cond.after_iff.mpr rfl, Cond.after_iff.mpr (eq_i res_at (Term.int_eval (1)) rfl), trivial⟩ ⟨hq.1, hq.2.1, (hq.2.2.sift fun y hy => Or.inr (N y hy)).mono (by decide) (by decide)⟩⟩
theorem main_1_1 : Claimed_1_1 := comes_1 fun _ _ _ _ _ _ h hF => ⟨h.1, hF⟩
theorem main_1_2 : Claimed_1_2 := comes_1 fun _ _ _ _ _ _ h hF => ⟨h.2.1, hF⟩
end Jvm.Pilot.@@N@@
namespace Jvm.Pilot.@@N@@
open Jvm Jvm.ClassFile Sem Op Lib Jvm.Free Jvm.Stand Jvm.Pilot.@@N@@.Jvm.D
/-! MADE BY PROGRAM (witnessworld.py) out of the Statement's table words and the real class files: 10 classes; the members and pool entries that the words name. The judged class is class 1, her method 1. -/
namespace start1
open Jvm.ClassFile
def u (s : String) : CpInfo := .utf8 (stringToUtf16 s)
/-- a pool by its gaps: so many unusable entries, then the entry; so many at the end -/
def gap : Nat → List CpInfo → List CpInfo
  | 0, r => r
  | n + 1, r => .unusable :: gap n r
def poolList (es : List (Nat × CpInfo)) (last : Nat) : List CpInfo := es.foldr (fun e r => gap e.1 (e.2 :: r)) (gap last [])
def pool (es : List (Nat × CpInfo)) (last : Nat) : Array CpInfo := ⟨poolList es last⟩
def fileOf (pool : Array CpInfo) (this : Nat) (attrs : Array Attribute := #[]) (ms : Array MethodInfo := #[]) (fl : Nat := 33) (sup : Nat := 0) (ifs : Array Nat := #[]) (fds : Array FieldInfo := #[]) : ClassFile where
  minorVersion := 0
  majorVersion := 65
  constantPool := pool
  accessFlags := fl
  thisClass := this
  superClass := sup
  interfaces := ifs
  fields := fds
  methods := ms
  attributes := attrs
def plain (name : String) (sup : Option ClassId) : Class where
  name := name
  kind := .ordinary
  loader := none
  accessFlags := 33
  super := sup
  interfaces := #[]
  cf := none
  fields := #[]
  methods := #[]
  instanceTypes := #[]
  staticTypes := #[]
  resolved := #[]
  callSites := []
  init := .initialized
  statics := none
  mirror := none

def pool0 : Array CpInfo := pool [(5, u "<init>"), (0, u "()V"), (1, .class_ 10), (1, u "java/lang/Object")] 113

def k0c0 : Code := { maxStack := 0, maxLocals := 1, code := object_method_1_code, exceptionTable := #[], attributes := #[] }
def k0m0 : Method := { name := "<init>", desc := "()V", sig := { parameters := [], returnType := none }, accessFlags := 1, code := some k0c0 }
/-- java/lang/Object -/
def k0 : Class := { plain "java/lang/Object" none with
  accessFlags := 33
  interfaces := #[]
  cf := some (fileOf pool0 8 #[] #[{ accessFlags := 1, nameIndex := 5, descriptorIndex := 6, attributes := #[] }] 33 0 #[] #[])
  fields := #[]
  methods := #[k0m0]
  instanceTypes := #[]
  staticTypes := #[]
  resolved := Array.replicate 124 none
  statics := none }

def pool1 : Array CpInfo := pool [(2, .class_ 4), (0, .nameAndType 5 6), (0, u "java/lang/Object"), (0, u "<init>"), (0, u "()V"), (0, .class_ 8), (0, u "com/example/libchase/libchase/core/store/AtomTable"), (0, .methodref 7 3), (0, .methodref 7 11), (0, .nameAndType 12 13), (0, u "add"), (0, u "(I[I)I"), (0, .methodref 7 15), (0, .nameAndType 16 17), (0, u "holds"), (0, u "(I[III)Z"), (0, .class_ 19), (0, u "com/example/libchase/libchase/core/store/AtomTableHoldsPinLaw"), (2, u "law"), (0, u "(IIIIII)Z")] 5

def k1m0 : Method := { name := "<init>", desc := "()V", sig := { parameters := [], returnType := none }, accessFlags := 1, code := none }
def k1c1 : Code := { maxStack := 6, maxLocals := 16, code := code, exceptionTable := #[], attributes := #[] }
def k1m1 : Method := { name := "law", desc := "(IIIIII)Z", sig := { parameters := [.int, .int, .int, .int, .int, .int], returnType := some .boolean }, accessFlags := 9, code := some k1c1 }
/-- com/example/libchase/libchase/core/store/AtomTableHoldsPinLaw -/
def k1 : Class := { plain "com/example/libchase/libchase/core/store/AtomTableHoldsPinLaw" (some 0) with
  accessFlags := 49
  interfaces := #[]
  cf := some (fileOf pool1 18 #[] #[{ accessFlags := 1, nameIndex := 5, descriptorIndex := 6, attributes := #[] }, { accessFlags := 9, nameIndex := 22, descriptorIndex := 23, attributes := #[] }] 49 2 #[] #[])
  fields := #[]
  methods := #[k1m0, k1m1]
  instanceTypes := #[]
  staticTypes := #[]
  resolved := Array.replicate 29 none
  statics := none }

def pool2 : Array CpInfo := pool [(1, .methodref 2 3), (0, .class_ 4), (0, .nameAndType 5 6), (0, u "java/lang/Object"), (0, u "<init>"), (0, u "()V"), (0, .fieldref 8 9), (0, .class_ 10), (0, .nameAndType 11 12), (0, u "com/example/libchase/libchase/core/store/AtomTable"), (0, u "predicateOf"), (0, u "[I"), (0, .fieldref 8 14), (0, .nameAndType 15 12), (0, u "firstTerm"), (0, .fieldref 8 17), (0, .nameAndType 18 12), (0, u "terms"), (0, .fieldref 8 20), (0, .nameAndType 21 22), (0, u "size"), (0, u "I"), (12, .methodref 36 37), (0, .class_ 38), (0, .nameAndType 39 40), (0, u "java/lang/System"), (0, u "arraycopy"), (0, u "(Ljava/lang/Object;ILjava/lang/Object;II)V"), (7, u "holds"), (0, u "(I[III)Z"), (3, u "add"), (0, u "(I[I)I")] 2

def k2c0 : Code := { maxStack := 2, maxLocals := 1, code := prog_123_method_1_code, exceptionTable := #[], attributes := #[] }
def k2m0 : Method := { name := "<init>", desc := "()V", sig := { parameters := [], returnType := none }, accessFlags := 0, code := some k2c0 }
def k2c1 : Code := { maxStack := 4, maxLocals := 7, code := prog_123_method_6_code, exceptionTable := #[], attributes := #[] }
def k2m1 : Method := { name := "holds", desc := "(I[III)Z", sig := { parameters := [.int, (.array .int), .int, .int], returnType := some .boolean }, accessFlags := 0, code := some k2c1 }
def k2c2 : Code := { maxStack := 5, maxLocals := 5, code := prog_123_method_8_code, exceptionTable := #[], attributes := #[] }
def k2m2 : Method := { name := "add", desc := "(I[I)I", sig := { parameters := [.int, (.array .int)], returnType := some .int }, accessFlags := 0, code := some k2c2 }
/-- com/example/libchase/libchase/core/store/AtomTable -/
def k2 : Class := { plain "com/example/libchase/libchase/core/store/AtomTable" (some 0) with
  accessFlags := 48
  interfaces := #[]
  cf := some (fileOf pool2 8 #[] #[{ accessFlags := 0, nameIndex := 5, descriptorIndex := 6, attributes := #[] }, { accessFlags := 0, nameIndex := 48, descriptorIndex := 49, attributes := #[] }, { accessFlags := 0, nameIndex := 53, descriptorIndex := 54, attributes := #[] }] 48 2 #[] #[{ accessFlags := 2, nameIndex := 11, descriptorIndex := 12, attributes := #[] }, { accessFlags := 2, nameIndex := 15, descriptorIndex := 12, attributes := #[] }, { accessFlags := 2, nameIndex := 18, descriptorIndex := 12, attributes := #[] }, { accessFlags := 2, nameIndex := 21, descriptorIndex := 22, attributes := #[] }])
  fields := #[{ name := "predicateOf", type := (.array .int), accessFlags := 2, slot := 0, constantValue := 0 }, { name := "firstTerm", type := (.array .int), accessFlags := 2, slot := 1, constantValue := 0 }, { name := "terms", type := (.array .int), accessFlags := 2, slot := 2, constantValue := 0 }, { name := "size", type := .int, accessFlags := 2, slot := 3, constantValue := 0 }]
  methods := #[k2m0, k2m1, k2m2]
  instanceTypes := #[(.array .int), (.array .int), (.array .int), .int]
  staticTypes := #[]
  resolved := Array.replicate 57 none
  statics := none }

def pool3 : Array CpInfo := pool [(2, .class_ 4), (1, u "java/lang/Object"), (0, u "<init>"), (0, u "()V"), (1, .class_ 10), (1, u "java/lang/System"), (0, u "allowSecurityManager"), (0, u "I"), (16, u "cons"), (0, u "Ljava/io/Console;"), (77, .class_ 110), (1, u "java/lang/System$CallersHolder"), (43, u "initialErrStream"), (0, u "Ljava/io/PrintStream;"), (19, u "security"), (0, u "Ljava/lang/SecurityManager;"), (31, .class_ 209), (0, u "java/lang/System$1"), (7, u "props"), (0, u "Ljava/util/Properties;"), (2, u "lineSeparator"), (0, u "Ljava/lang/String;"), (96, .class_ 321), (1, u "java/lang/System$LoggerFinder"), (5, .class_ 328), (0, u "java/lang/System$Logger"), (67, u "err"), (2, u "out"), (91, u "notSupportedJnuEncoding"), (15, u "in"), (17, u "initialIn"), (0, u "Ljava/io/InputStream;"), (35, u "bootLayer"), (0, u "Ljava/lang/ModuleLayer;"), (99, .class_ 664), (0, u "java/lang/System$2"), (9, u "NEVER"), (2, u "MAYBE"), (49, u "arraycopy"), (0, u "(Ljava/lang/Object;ILjava/lang/Object;II)V"), (72, .class_ 802), (0, u "java/lang/System$Logger$Level")] 31

def k3m0 : Method := { name := "<init>", desc := "()V", sig := { parameters := [], returnType := none }, accessFlags := 2, code := none }
def k3m1 : Method := { name := "arraycopy", desc := "(Ljava/lang/Object;ILjava/lang/Object;II)V", sig := { parameters := [(.object "java/lang/Object"), .int, (.object "java/lang/Object"), .int, .int], returnType := none }, accessFlags := 265, code := none }
/-- java/lang/System -/
def k3 : Class := { plain "java/lang/System" (some 0) with
  accessFlags := 49
  interfaces := #[]
  cf := some (fileOf pool3 8 #[.nestMembers #[319, 327, 801, 108, 663, 208]] #[{ accessFlags := 2, nameIndex := 5, descriptorIndex := 6, attributes := #[] }, { accessFlags := 265, nameIndex := 727, descriptorIndex := 728, attributes := #[] }] 49 2 #[] #[{ accessFlags := 25, nameIndex := 507, descriptorIndex := 526, attributes := #[] }, { accessFlags := 25, nameIndex := 399, descriptorIndex := 155, attributes := #[] }, { accessFlags := 25, nameIndex := 396, descriptorIndex := 155, attributes := #[] }, { accessFlags := 10, nameIndex := 525, descriptorIndex := 526, attributes := #[] }, { accessFlags := 26, nameIndex := 674, descriptorIndex := 12, attributes := #[] }, { accessFlags := 26, nameIndex := 677, descriptorIndex := 12, attributes := #[] }, { accessFlags := 10, nameIndex := 11, descriptorIndex := 12, attributes := #[] }, { accessFlags := 74, nameIndex := 175, descriptorIndex := 176, attributes := #[] }, { accessFlags := 10, nameIndex := 491, descriptorIndex := 222, attributes := #[] }, { accessFlags := 74, nameIndex := 29, descriptorIndex := 30, attributes := #[] }, { accessFlags := 74, nameIndex := 154, descriptorIndex := 155, attributes := #[] }, { accessFlags := 10, nameIndex := 217, descriptorIndex := 218, attributes := #[] }, { accessFlags := 10, nameIndex := 221, descriptorIndex := 222, attributes := #[] }, { accessFlags := 8, nameIndex := 562, descriptorIndex := 563, attributes := #[] }])
  fields := #[{ name := "in", type := (.object "java/io/InputStream"), accessFlags := 25, slot := 0, constantValue := 0 }, { name := "out", type := (.object "java/io/PrintStream"), accessFlags := 25, slot := 1, constantValue := 0 }, { name := "err", type := (.object "java/io/PrintStream"), accessFlags := 25, slot := 2, constantValue := 0 }, { name := "initialIn", type := (.object "java/io/InputStream"), accessFlags := 10, slot := 3, constantValue := 0 }, { name := "NEVER", type := .int, accessFlags := 26, slot := 4, constantValue := 0 }, { name := "MAYBE", type := .int, accessFlags := 26, slot := 5, constantValue := 0 }, { name := "allowSecurityManager", type := .int, accessFlags := 10, slot := 6, constantValue := 0 }, { name := "security", type := (.object "java/lang/SecurityManager"), accessFlags := 74, slot := 7, constantValue := 0 }, { name := "notSupportedJnuEncoding", type := (.object "java/lang/String"), accessFlags := 10, slot := 8, constantValue := 0 }, { name := "cons", type := (.object "java/io/Console"), accessFlags := 74, slot := 9, constantValue := 0 }, { name := "initialErrStream", type := (.object "java/io/PrintStream"), accessFlags := 74, slot := 10, constantValue := 0 }, { name := "props", type := (.object "java/util/Properties"), accessFlags := 10, slot := 11, constantValue := 0 }, { name := "lineSeparator", type := (.object "java/lang/String"), accessFlags := 10, slot := 12, constantValue := 0 }, { name := "bootLayer", type := (.object "java/lang/ModuleLayer"), accessFlags := 8, slot := 13, constantValue := 0 }]
  methods := #[k3m0, k3m1]
  instanceTypes := #[]
  staticTypes := #[(.object "java/io/InputStream"), (.object "java/io/PrintStream"), (.object "java/io/PrintStream"), (.object "java/io/InputStream"), .int, .int, .int, (.object "java/lang/SecurityManager"), (.object "java/lang/String"), (.object "java/io/Console"), (.object "java/io/PrintStream"), (.object "java/util/Properties"), (.object "java/lang/String"), (.object "java/lang/ModuleLayer")]
  resolved := Array.replicate 834 none
  statics := none }

def pool4 : Array CpInfo := pool [(1, u "java/lang/Cloneable"), (0, .class_ 1), (0, u "java/lang/Object"), (0, .class_ 3)] 3

/-- java/lang/Cloneable -/
def k4 : Class := { plain "java/lang/Cloneable" (some 0) with
  accessFlags := 1537
  interfaces := #[]
  cf := some (fileOf pool4 2 #[] #[] 1537 4 #[] #[])
  fields := #[]
  methods := #[]
  instanceTypes := #[]
  staticTypes := #[]
  resolved := Array.replicate 8 none
  statics := none }

def pool5 : Array CpInfo := pool [(1, u "java/io/Serializable"), (0, .class_ 1), (0, u "java/lang/Object"), (0, .class_ 3)] 3

/-- java/io/Serializable -/
def k5 : Class := { plain "java/io/Serializable" (some 0) with
  accessFlags := 1537
  interfaces := #[]
  cf := some (fileOf pool5 2 #[] #[] 1537 4 #[] #[])
  fields := #[]
  methods := #[]
  instanceTypes := #[]
  staticTypes := #[]
  resolved := Array.replicate 8 none
  statics := none }

/-- the primitive byte -/
def k6 : Class := { plain "byte" none with kind := .primitive 'B', accessFlags := 0x411 }
/-- [B -/
def k7 : Class := { plain "[B" (some 0) with kind := .array 6 .byte, interfaces := #[4, 5], accessFlags := 1041 }

/-- the primitive int -/
def k8 : Class := { plain "int" none with kind := .primitive 'I', accessFlags := 0x411 }
/-- [I -/
def k9 : Class := { plain "[I" (some 0) with kind := .array 8 .int, interfaces := #[4, 5], accessFlags := 1041 }

def heap : Heap := #[]
def classes : Array Class := #[k0, k1, k2, k3, k4, k5, k6, k7, k8, k9]
def interned : List (Array UInt16 × Addr) := []
def slotsUsed : Nat := 0
def theMethod : MethodId := ⟨1, 1⟩
def args0 : Array Value := #[.int 1, .int 2, .int 3, .int 4, .int 5, .int 6]
def aboutOver (below : List Frame) : State where
  vm := { classes := classes, interned := interned.toArray }
  heap := heap
  slotsUsed := slotsUsed
  threads := #[{ frames := .invoking theMethod args0 :: below }]
def below0 : List Frame := [.native { method := ⟨0, 0⟩, args := #[] }]
def about1 : State := aboutOver below0
def p0 : Program := .bare "" "" ""
def e0 : Env := launch0.env 0 0 0
theorem w_frames : about1.frames = Frame.invoking theMethod args0 :: below0 := rfl
set_option maxRecDepth 65536 in
theorem w_args : argsFit about1.vm theMethod args0 = true := by decide +kernel
set_option maxRecDepth 65536 in
theorem w_heap : heapFits about1 = true := by decide +kernel
set_option maxRecDepth 65536 in
theorem w_runnable : about1.curStatus? = some .runnable := by decide +kernel
set_option maxRecDepth 65536 in
theorem w_alone : about1.alone = true := by decide +kernel
set_option maxRecDepth 65536 in
theorem w_named : about1.methodNamed? x = some theMethod := by decide +kernel
set_option maxRecDepth 65536 in
theorem w_hears : about1.hears theMethod below0 = true := by decide +kernel
set_option maxRecDepth 65536 in
theorem w_ripe : about1.ripe theMethod args0 below0 = true := by decide +kernel
theorem w_running : about1.status = .running := rfl
set_option maxRecDepth 65536 in
theorem w_room : about1.hasRoom e0.platform room_1 = true :=
  launch0.hasRoom_least _ room_1 (by decide +kernel) (by decide +kernel) (by decide +kernel) (by decide +kernel) (by decide +kernel) (by decide +kernel)
theorem allAtoms_all (ts : List Jvm.Cond) (a : Array Jvm.Value) (st : Jvm.State) : (allAtoms ts).before a st = ts.all (fun c => c.before a st) := by
  induction ts with
  | nil => rfl
  | cons c t ih =>
    show (Jvm.Cond.and c (allAtoms t)).before a st = _
    rw [Jvm.Cond.before_and, ih, List.all_cons]
def words1 : List Jvm.Cond := Jvm.Cond.code x code maxLocals ret :: tables_1
/-- a 'code' word, met by the world's own term for the bytes: nothing is compared byte by byte -/
theorem code_word {y : MethodName} {bytes : ByteArray} {mx : Nat} {rt : Option FieldType} {a : Array Value} {s : State} {m : MethodId} {meth : Method} {c : Code} (h1 : s.methodNamed? y = some m) (h2 : s.vm.method? m = some meth) (h3 : meth.code = some c) (h4 : c.code = bytes)
    (h5 : (c.maxLocals == mx && c.exceptionTable.isEmpty && decide (c.maxStack ≤ mostOperands) && decide (meth.sig.returnType = rt) && !meth.locks && decide (parseMethodDescriptor y.desc = some meth.sig)) = true) : (Jvm.Cond.code y bytes mx rt).before a s = true := by
  simp only [Bool.and_eq_true, beq_iff_eq, Bool.not_eq_true', decide_eq_true_eq] at h5
  obtain ⟨⟨⟨⟨⟨g1, g2⟩, g3⟩, g4⟩, g5⟩, g6⟩ := h5
  simp [Cond.before, Cond.holds, Cond.value, h1, h2, h3, h4, g1, g2, g3, g4, g5, g6]
def isCode : Jvm.Cond → Bool
  | .code _ _ _ _ => true
  | _ => false
theorem all_split {L : List Jvm.Cond} {P : Jvm.Cond → Bool} (h1 : L.all (fun c => isCode c || P c) = true) (h2 : ∀ c ∈ L.filter isCode, P c = true) : L.all P = true := by
  refine List.all_eq_true.mpr fun c hc => ?_
  have h := List.all_eq_true.mp h1 c hc
  rcases Bool.eq_false_or_eq_true (isCode c) with hi | hi
  · exact h2 c (List.mem_filter.mpr ⟨hc, hi⟩)
  · simpa [hi] using h
set_option maxRecDepth 65536 in
theorem w_c0 : (Jvm.Cond.code x code maxLocals ret).before args0 about1 = true := code_word (m := ⟨1, 1⟩) (meth := k1m1) (c := k1c1) (by decide +kernel) rfl rfl rfl (by decide +kernel)
set_option maxRecDepth 65536 in
theorem w_c1 : (Jvm.Cond.code ({ cls := "com/example/libchase/libchase/core/store/AtomTable", name := "<init>", desc := "()V" } : Jvm.MethodName) prog_123_method_1_code (1 : Nat) (Option.none : Option Jvm.ClassFile.FieldType)).before args0 about1 = true := code_word (m := ⟨2, 0⟩) (meth := k2m0) (c := k2c0) (by decide +kernel) rfl rfl rfl (by decide +kernel)
set_option maxRecDepth 65536 in
theorem w_c2 : (Jvm.Cond.code ({ cls := "java/lang/Object", name := "<init>", desc := "()V" } : Jvm.MethodName) object_method_1_code (1 : Nat) (Option.none : Option Jvm.ClassFile.FieldType)).before args0 about1 = true := code_word (m := ⟨0, 0⟩) (meth := k0m0) (c := k0c0) (by decide +kernel) rfl rfl rfl (by decide +kernel)
set_option maxRecDepth 65536 in
theorem w_c3 : (Jvm.Cond.code ({ cls := "com/example/libchase/libchase/core/store/AtomTable", name := "add", desc := "(I[I)I" } : Jvm.MethodName) prog_123_method_8_code (5 : Nat) (Option.some Jvm.ClassFile.FieldType.int)).before args0 about1 = true := code_word (m := ⟨2, 2⟩) (meth := k2m2) (c := k2c2) (by decide +kernel) rfl rfl rfl (by decide +kernel)
set_option maxRecDepth 65536 in
theorem w_c4 : (Jvm.Cond.code ({ cls := "com/example/libchase/libchase/core/store/AtomTable", name := "holds", desc := "(I[III)Z" } : Jvm.MethodName) prog_123_method_6_code (7 : Nat) (Option.some Jvm.ClassFile.FieldType.boolean)).before args0 about1 = true := code_word (m := ⟨2, 1⟩) (meth := k2m1) (c := k2c1) (by decide +kernel) rfl rfl rfl (by decide +kernel)
def codes1 : List Jvm.Cond := [Jvm.Cond.code x code maxLocals ret, Jvm.Cond.code ({ cls := "com/example/libchase/libchase/core/store/AtomTable", name := "<init>", desc := "()V" } : Jvm.MethodName) prog_123_method_1_code (1 : Nat) (Option.none : Option Jvm.ClassFile.FieldType), Jvm.Cond.code ({ cls := "java/lang/Object", name := "<init>", desc := "()V" } : Jvm.MethodName) object_method_1_code (1 : Nat) (Option.none : Option Jvm.ClassFile.FieldType), Jvm.Cond.code ({ cls := "com/example/libchase/libchase/core/store/AtomTable", name := "add", desc := "(I[I)I" } : Jvm.MethodName) prog_123_method_8_code (5 : Nat) (Option.some Jvm.ClassFile.FieldType.int), Jvm.Cond.code ({ cls := "com/example/libchase/libchase/core/store/AtomTable", name := "holds", desc := "(I[III)Z" } : Jvm.MethodName) prog_123_method_6_code (7 : Nat) (Option.some Jvm.ClassFile.FieldType.boolean)]
set_option maxRecDepth 65536 in
theorem codes_eq : words1.filter isCode = codes1 := rfl
theorem w_codes : ∀ c ∈ words1.filter isCode, c.before args0 about1 = true := by
  rw [codes_eq]
  intro c hc
  simp only [codes1, List.mem_cons, List.not_mem_nil, or_false] at hc
  rcases hc with rfl | rfl | rfl | rfl | rfl
  · exact w_c0
  · exact w_c1
  · exact w_c2
  · exact w_c3
  · exact w_c4
set_option maxRecDepth 65536 in
theorem w_t1 : (words1.take 24).all (fun c => isCode c || c.before args0 about1) = true := by decide +kernel
set_option maxRecDepth 65536 in
theorem w_t2 : (words1.drop 24).all (fun c => isCode c || c.before args0 about1) = true := by decide +kernel
theorem w_tables : (allAtoms (Jvm.Cond.code x code maxLocals ret :: tables_1)).before args0 about1 = true := by
  rw [allAtoms_all]
  show words1.all (fun c => c.before args0 about1) = true
  refine all_split ?_ w_codes
  rw [← List.take_append_drop 24 words1, List.all_append, w_t1, w_t2]
  rfl
set_option maxRecDepth 65536 in
theorem w_case : (Jvm.Cond.and given_1 narrow_1).before args0 about1 = true := by decide +kernel
theorem w_applies : (headSpec (Jvm.Cond.code x code maxLocals ret :: tables_1) room_1).applies x e0.platform about1 = true :=
  (Spec.applies_iff w_frames).mpr ⟨w_running, w_runnable, w_alone, w_named, w_hears, w_ripe, w_room, w_tables⟩
theorem atStart : AtStart classFile x code maxLocals ret World_1 tables_1 room_1 Calls_1 rest_1 Pre_1 launch0 p0 e0 about1 theMethod args0 below0 :=
  ⟨lists_1, trivial, launch0.admits_env _ _ _, launch0.least_env, fairChoices_fair.cas, fairChoices_fair.clock, w_frames, w_args, w_heap, w_applies, trivial, trivial, w_case⟩
end start1
theorem witness_1 : WitnessClaimed_1 := ⟨start1.p0, start1.e0, start1.about1, start1.theMethod, start1.args0, start1.below0, start1.atStart⟩
end Jvm.Pilot.@@N@@
