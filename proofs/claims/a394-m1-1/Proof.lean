import JvmDerived
import JvmDerived.Pilot.@@N@@Statement
import JvmDerived.Pilot.@@N@@Code
set_option linter.unusedVariables false
set_option linter.unusedSimpArgs false
@@BLOCK:LamKit.lean.txt@@
namespace Jvm.Pilot.@@N@@
open Jvm Jvm.ClassFile Sem Op Lib Jvm.Free Jvm.Stand Jvm.LawKit Jvm.RoadKit Bundle Jvm.Pilot.@@N@@.Jvm.D
section Core
variable {p : Program} {l : Launch} {e : Env} {R : Room} {s : State} {m : MethodId} {args : Array Value} {below : List Frame} {meth : Method} {c : Code} {T T' : State} {locs : List Loc} {cells slots : Nat} {Q : Option Value → Heap → List Loc → Prop} {En : Outcome → State → List Loc → Prop} {kc ks : Nat} {Z : State} {a0 : Array Value} {h : Heap} {Ls : Array Slot} {st rest : List Value} {pc pc' : Nat}
def ushrI (x y : Int32) : Int32 := (x.toUInt32 >>> (y &&& 31).toUInt32).toInt32
def ushrJ (x : Int64) (y : Int32) : Int64 := (x.toUInt64 >>> (y &&& 0x3f).toInt64.toUInt64).toInt64
def cmpJ (x y : Int64) : Int32 := if x > y then 1 else if x = y then 0 else -1
def Run (p : Program) (e : Env) (below : List Frame) (Q : Option Value → Heap → List Loc → Prop) (En : Outcome → State → List Loc → Prop) (T : State) (g : JFrame) : Prop :=
  ∃ s₂ o, Steps p.tables e below (T.setTop g) s₂ ∧ s₂.status = .running ∧ Ended s₂ below o ∧ ∃ v L, o = .returned v ∧ Q v s₂.heap L ∧ En o s₂ L
theorem Run.on {g g' : JFrame} (r : Run p e below Q En T' g') (q : ∀ t, Steps p.tables e below (T'.setTop g') t → Steps p.tables e below (T.setTop g) t) : Run p e below Q En T g := by
  obtain ⟨s₂, o, h1, r⟩ := r
  exact ⟨s₂, o, q _ h1, r⟩
theorem Run.cast {g g' : JFrame} (q : g = g') (r : Run p e below Q En T g') : Run p e below Q En T g := q ▸ r
abbrev Met (l : Launch) (Z : State) (y : MethodName) (bytes : ByteArray) (maxL : Nat) (ret : Option FieldType) (ws : List Jvm.Cond) (rm : Room) (as' : Array Value) (h0 : Heap) (Q : Option Value → Heap → List Loc → Prop) (kc ks : Nat) : Prop :=
  MetFree l y (head1 (Jvm.Cond.code y bytes maxL ret :: ws) rm) (fun a U => a = as' ∧ Z.Warmed39 U.vm ∧ U.heap = h0) (fun _ _ _ _ _ => True) (fun _ U o U' => ∃ v L, o = .returned v ∧ Q v U'.heap L ∧ FrameEnd U o U' L kc ks)
theorem met_of {y : MethodName} {bytes : ByteArray} {maxL : Nat} {ret : Option FieldType} {ws : List Jvm.Cond} {rm : Room} {as' : Array Value} {h0 : Heap} {Q : Option Value → Heap → List Loc → Prop} {kc ks : Nat} {f0 : MethodId → JFrame} (hpn : plainFor y = true)
    (hef : ∀ m, entryFrame m as' maxL = f0 m)
    (body : ∀ (p : Program) (e : Env) (s : State) (m : MethodId) (below : List Frame) (meth : Method) (c : Code) (s₁ : State), Stand p l e rm s m as' below meth c s₁ [] 0 0 → p.tables.exec = Jvm.exec → c.code = bytes → c.maxLocals = maxL → meth.sig.returnType = ret → meth.locks = false → s.vm.findClass y.cls = some m.cls → meth.name = y.name → Z.Warmed39 s.vm → s₁.heap = h0 → Run p e below Q (fun o t L => FrameEnd s o t L kc ks) s₁ (f0 m)) :
    Met l Z y bytes maxL ret ws rm as' h0 Q kc ks := by
  refine MetFree.of_bodySF (code := bytes) (maxLocals := maxL) (ret := ret) hpn hisR ?_
  intro p e s m args below meth c s₁ Bd hml0 hP hK
  obtain ⟨rfl, hZ, hh⟩ := hP
  obtain ⟨s₂, o, r⟩ := body p e s m below meth c s₁ (Stand.of_body Bd) Bd.exec Bd.bytes hml0 Bd.returns (BodyLoose.notSynchronized Bd) (findClass_of_methodNamed Bd.named) (name_of_methodNamed Bd.named Bd.method).1 hZ (by rw [← hh, Bd.state]; rfl)
  rw [hef m]
  exact ⟨s₂, o, r⟩
theorem r_aloadN (at_ : At T m c below) (hx : p.tables.exec = Jvm.exec) {k : Fin 4} {v : Value} (hd : decode c.code pc = .ok (.aload_n k, 1)) (hl : Ls[k.val]? = some (.val v)) (hv : v.isRef = true) (hp : pc + 1 = pc') (r : Run p e below Q En T (mkF m pc' Ls (v :: rest))) : Run p e below Q En T (mkF m pc Ls (rest)) := by
  subst hp; exact r.on fun _ q => XS.aloadN at_ hx rfl hd hl hv q
theorem r_aload (at_ : At T m c below) (hx : p.tables.exec = Jvm.exec) {k : Nat} {v : Value} (hd : decode c.code pc = .ok (.aload k, 2)) (hl : Ls[k]? = some (.val v)) (hv : v.isRef = true) (hp : pc + 2 = pc') (r : Run p e below Q En T (mkF m pc' Ls (v :: rest))) : Run p e below Q En T (mkF m pc Ls (rest)) := by
  subst hp; exact r.on fun _ q => XS.aload at_ hx rfl hd hl hv q
theorem r_iloadN (at_ : At T m c below) (hx : p.tables.exec = Jvm.exec) {k : Fin 4} {v : Int32} (hd : decode c.code pc = .ok (.iload_n k, 1)) (hl : Ls[k.val]? = some (.val (.int v))) (hp : pc + 1 = pc') (r : Run p e below Q En T (mkF m pc' Ls (.int v :: rest))) : Run p e below Q En T (mkF m pc Ls (rest)) := by
  subst hp; exact r.on fun _ q => XS.iloadN at_ hx rfl hd hl q
theorem r_iload (at_ : At T m c below) (hx : p.tables.exec = Jvm.exec) {k : Nat} {v : Int32} (hd : decode c.code pc = .ok (.iload k, 2)) (hl : Ls[k]? = some (.val (.int v))) (hp : pc + 2 = pc') (r : Run p e below Q En T (mkF m pc' Ls (.int v :: rest))) : Run p e below Q En T (mkF m pc Ls (rest)) := by
  subst hp; exact r.on fun _ q => XS.iload at_ hx rfl hd hl q
theorem r_lloadN (at_ : At T m c below) (hx : p.tables.exec = Jvm.exec) {k : Fin 4} {v : Int64} (hd : decode c.code pc = .ok (.lload_n k, 1)) (hl : Ls[k.val]? = some (.val (.long v))) (hp : pc + 1 = pc') (r : Run p e below Q En T (mkF m pc' Ls (.long v :: rest))) : Run p e below Q En T (mkF m pc Ls (rest)) := by
  subst hp; exact r.on fun _ q => XS.lloadN at_ hx rfl hd hl q
theorem r_lload (at_ : At T m c below) (hx : p.tables.exec = Jvm.exec) {k : Nat} {v : Int64} (hd : decode c.code pc = .ok (.lload k, 2)) (hl : Ls[k]? = some (.val (.long v))) (hp : pc + 2 = pc') (r : Run p e below Q En T (mkF m pc' Ls (.long v :: rest))) : Run p e below Q En T (mkF m pc Ls (rest)) := by
  subst hp; exact r.on fun _ q => XS.lload at_ hx rfl hd hl q
theorem r_istoreN (at_ : At T m c below) (hx : p.tables.exec = Jvm.exec) {k : Fin 4} {x : Int32} {l' : Array Slot} (hd : decode c.code pc = .ok (.istore_n k, 1)) (hl : storeLocals Ls k.val (.int x) = some l') (hp : pc + 1 = pc') (r : Run p e below Q En T (mkF m pc' l' (rest))) : Run p e below Q En T (mkF m pc Ls (.int x :: rest)) := by
  subst hp; exact r.on fun _ q => XS.istoreN at_ hx rfl hd rfl hl q
theorem r_istore (at_ : At T m c below) (hx : p.tables.exec = Jvm.exec) {k : Nat} {x : Int32} {l' : Array Slot} (hd : decode c.code pc = .ok (.istore k, 2)) (hl : storeLocals Ls k (.int x) = some l') (hp : pc + 2 = pc') (r : Run p e below Q En T (mkF m pc' l' (rest))) : Run p e below Q En T (mkF m pc Ls (.int x :: rest)) := by
  subst hp; exact r.on fun _ q => XS.istore at_ hx rfl hd rfl hl q
theorem r_lstoreN (at_ : At T m c below) (hx : p.tables.exec = Jvm.exec) {k : Fin 4} {x : Int64} {l' : Array Slot} (hd : decode c.code pc = .ok (.lstore_n k, 1)) (hl : storeLocals Ls k.val (.long x) = some l') (hp : pc + 1 = pc') (r : Run p e below Q En T (mkF m pc' l' (rest))) : Run p e below Q En T (mkF m pc Ls (.long x :: rest)) := by
  subst hp; exact r.on fun _ q => XS.lstoreN at_ hx rfl hd rfl hl q
theorem r_lstore (at_ : At T m c below) (hx : p.tables.exec = Jvm.exec) {k : Nat} {x : Int64} {l' : Array Slot} (hd : decode c.code pc = .ok (.lstore k, 2)) (hl : storeLocals Ls k (.long x) = some l') (hp : pc + 2 = pc') (r : Run p e below Q En T (mkF m pc' l' (rest))) : Run p e below Q En T (mkF m pc Ls (.long x :: rest)) := by
  subst hp; exact r.on fun _ q => XS.lstore at_ hx rfl hd rfl hl q
theorem r_astoreN (at_ : At T m c below) (hx : p.tables.exec = Jvm.exec) {k : Fin 4} {x : Value} {l' : Array Slot} (hd : decode c.code pc = .ok (.astore_n k, 1)) (hv : x.isRef = true) (hl : storeLocals Ls k.val x = some l') (hp : pc + 1 = pc') (r : Run p e below Q En T (mkF m pc' l' (rest))) : Run p e below Q En T (mkF m pc Ls (x :: rest)) := by
  subst hp; exact r.on fun _ q => XS.astoreN at_ hx rfl hd rfl hv hl q
theorem r_astore (at_ : At T m c below) (hx : p.tables.exec = Jvm.exec) {k : Nat} {x : Value} {l' : Array Slot} (hd : decode c.code pc = .ok (.astore k, 2)) (hv : x.isRef = true) (hl : storeLocals Ls k x = some l') (hp : pc + 2 = pc') (r : Run p e below Q En T (mkF m pc' l' (rest))) : Run p e below Q En T (mkF m pc Ls (x :: rest)) := by
  subst hp; exact r.on fun _ q => XS.astore at_ hx rfl hd rfl hv hl q
theorem r_iconst (at_ : At T m c below) (hx : p.tables.exec = Jvm.exec) {i : Int} {v : Int32} (hd : decode c.code pc = .ok (.iconst i, 1)) (hv : Int32.ofInt i = v) (hp : pc + 1 = pc') (r : Run p e below Q En T (mkF m pc' Ls (.int v :: rest))) : Run p e below Q En T (mkF m pc Ls rest) := by
  subst hp hv; exact r.on fun _ q => XS.iconst at_ hx rfl hd q
theorem r_bipush (at_ : At T m c below) (hx : p.tables.exec = Jvm.exec) {i : Int} {v : Int32} (hd : decode c.code pc = .ok (.bipush i, 2)) (hv : (Int8.ofInt i).toInt32 = v) (hp : pc + 2 = pc') (r : Run p e below Q En T (mkF m pc' Ls (.int v :: rest))) : Run p e below Q En T (mkF m pc Ls rest) := by
  subst hp hv; exact r.on fun _ q => XS.bipush at_ hx rfl hd q
theorem r_sipush (at_ : At T m c below) (hx : p.tables.exec = Jvm.exec) {i : Int} {v : Int32} (hd : decode c.code pc = .ok (.sipush i, 3)) (hv : (Int16.ofInt i).toInt32 = v) (hp : pc + 3 = pc') (r : Run p e below Q En T (mkF m pc' Ls (.int v :: rest))) : Run p e below Q En T (mkF m pc Ls rest) := by
  subst hp hv; exact r.on fun _ q => XS.sipush at_ hx rfl hd q
theorem r_lconst (at_ : At T m c below) (hx : p.tables.exec = Jvm.exec) {k : Fin 2} {v : Int64} (hd : decode c.code pc = .ok (.lconst k, 1)) (hv : Int64.ofNat k = v) (hp : pc + 1 = pc') (r : Run p e below Q En T (mkF m pc' Ls (.long v :: rest))) : Run p e below Q En T (mkF m pc Ls rest) := by
  subst hp hv; exact r.on fun _ q => XS.lconst at_ hx rfl hd q
theorem r_aconst_null (at_ : At T m c below) (hx : p.tables.exec = Jvm.exec)  (hd : decode c.code pc = .ok (.aconst_null, 1))  (hp : pc + 1 = pc') (r : Run p e below Q En T (mkF m pc' Ls (.null :: rest))) : Run p e below Q En T (mkF m pc Ls (rest)) := by
  subst hp; exact r.on fun _ q => XS.aconstNull at_ hx rfl hd  q
theorem r_iadd (at_ : At T m c below) (hx : p.tables.exec = Jvm.exec) {x y : Int32} (hd : decode c.code pc = .ok (.iadd, 1))  (hp : pc + 1 = pc') (r : Run p e below Q En T (mkF m pc' Ls (.int (x + y) :: rest))) : Run p e below Q En T (mkF m pc Ls (.int y :: .int x :: rest)) := by
  subst hp; exact r.on fun _ q => XS.iadd at_ hx rfl hd rfl q
theorem r_isub (at_ : At T m c below) (hx : p.tables.exec = Jvm.exec) {x y : Int32} (hd : decode c.code pc = .ok (.isub, 1))  (hp : pc + 1 = pc') (r : Run p e below Q En T (mkF m pc' Ls (.int (x - y) :: rest))) : Run p e below Q En T (mkF m pc Ls (.int y :: .int x :: rest)) := by
  subst hp; exact r.on fun _ q => XS.isub at_ hx rfl hd rfl q
theorem r_imul (at_ : At T m c below) (hx : p.tables.exec = Jvm.exec) {x y : Int32} (hd : decode c.code pc = .ok (.imul, 1))  (hp : pc + 1 = pc') (r : Run p e below Q En T (mkF m pc' Ls (.int (x * y) :: rest))) : Run p e below Q En T (mkF m pc Ls (.int y :: .int x :: rest)) := by
  subst hp; exact r.on fun _ q => XS.imul at_ hx rfl hd rfl q
theorem r_iand (at_ : At T m c below) (hx : p.tables.exec = Jvm.exec) {x y : Int32} (hd : decode c.code pc = .ok (.iand, 1))  (hp : pc + 1 = pc') (r : Run p e below Q En T (mkF m pc' Ls (.int (x &&& y) :: rest))) : Run p e below Q En T (mkF m pc Ls (.int y :: .int x :: rest)) := by
  subst hp; exact r.on fun _ q => XS.iand at_ hx rfl hd rfl q
theorem r_ior (at_ : At T m c below) (hx : p.tables.exec = Jvm.exec) {x y : Int32} (hd : decode c.code pc = .ok (.ior, 1))  (hp : pc + 1 = pc') (r : Run p e below Q En T (mkF m pc' Ls (.int (x ||| y) :: rest))) : Run p e below Q En T (mkF m pc Ls (.int y :: .int x :: rest)) := by
  subst hp; exact r.on fun _ q => XS.ior at_ hx rfl hd rfl q
theorem r_ixor (at_ : At T m c below) (hx : p.tables.exec = Jvm.exec) {x y : Int32} (hd : decode c.code pc = .ok (.ixor, 1))  (hp : pc + 1 = pc') (r : Run p e below Q En T (mkF m pc' Ls (.int (x ^^^ y) :: rest))) : Run p e below Q En T (mkF m pc Ls (.int y :: .int x :: rest)) := by
  subst hp; exact r.on fun _ q => XS.ixor at_ hx rfl hd rfl q
theorem r_ladd (at_ : At T m c below) (hx : p.tables.exec = Jvm.exec) {x y : Int64} (hd : decode c.code pc = .ok (.ladd, 1))  (hp : pc + 1 = pc') (r : Run p e below Q En T (mkF m pc' Ls (.long (x + y) :: rest))) : Run p e below Q En T (mkF m pc Ls (.long y :: .long x :: rest)) := by
  subst hp; exact r.on fun _ q => XS.ladd at_ hx rfl hd rfl q
theorem r_lsub (at_ : At T m c below) (hx : p.tables.exec = Jvm.exec) {x y : Int64} (hd : decode c.code pc = .ok (.lsub, 1))  (hp : pc + 1 = pc') (r : Run p e below Q En T (mkF m pc' Ls (.long (x - y) :: rest))) : Run p e below Q En T (mkF m pc Ls (.long y :: .long x :: rest)) := by
  subst hp; exact r.on fun _ q => XS.lsub at_ hx rfl hd rfl q
theorem r_lmul (at_ : At T m c below) (hx : p.tables.exec = Jvm.exec) {x y : Int64} (hd : decode c.code pc = .ok (.lmul, 1))  (hp : pc + 1 = pc') (r : Run p e below Q En T (mkF m pc' Ls (.long (x * y) :: rest))) : Run p e below Q En T (mkF m pc Ls (.long y :: .long x :: rest)) := by
  subst hp; exact r.on fun _ q => XS.lmul at_ hx rfl hd rfl q
theorem r_land (at_ : At T m c below) (hx : p.tables.exec = Jvm.exec) {x y : Int64} (hd : decode c.code pc = .ok (.land, 1))  (hp : pc + 1 = pc') (r : Run p e below Q En T (mkF m pc' Ls (.long (x &&& y) :: rest))) : Run p e below Q En T (mkF m pc Ls (.long y :: .long x :: rest)) := by
  subst hp; exact r.on fun _ q => XS.land at_ hx rfl hd rfl q
theorem r_lor (at_ : At T m c below) (hx : p.tables.exec = Jvm.exec) {x y : Int64} (hd : decode c.code pc = .ok (.lor, 1))  (hp : pc + 1 = pc') (r : Run p e below Q En T (mkF m pc' Ls (.long (x ||| y) :: rest))) : Run p e below Q En T (mkF m pc Ls (.long y :: .long x :: rest)) := by
  subst hp; exact r.on fun _ q => XS.lor at_ hx rfl hd rfl q
theorem r_lxor (at_ : At T m c below) (hx : p.tables.exec = Jvm.exec) {x y : Int64} (hd : decode c.code pc = .ok (.lxor, 1))  (hp : pc + 1 = pc') (r : Run p e below Q En T (mkF m pc' Ls (.long (x ^^^ y) :: rest))) : Run p e below Q En T (mkF m pc Ls (.long y :: .long x :: rest)) := by
  subst hp; exact r.on fun _ q => XS.lxor at_ hx rfl hd rfl q
theorem r_ineg (at_ : At T m c below) (hx : p.tables.exec = Jvm.exec) {x : Int32} (hd : decode c.code pc = .ok (.ineg, 1))  (hp : pc + 1 = pc') (r : Run p e below Q En T (mkF m pc' Ls (.int (-x) :: rest))) : Run p e below Q En T (mkF m pc Ls (.int x :: rest)) := by
  subst hp; exact r.on fun _ q => XS.ineg at_ hx rfl hd rfl q
theorem r_lneg (at_ : At T m c below) (hx : p.tables.exec = Jvm.exec) {x : Int64} (hd : decode c.code pc = .ok (.lneg, 1))  (hp : pc + 1 = pc') (r : Run p e below Q En T (mkF m pc' Ls (.long (-x) :: rest))) : Run p e below Q En T (mkF m pc Ls (.long x :: rest)) := by
  subst hp; exact r.on fun _ q => XS.lneg at_ hx rfl hd rfl q
theorem r_ishl (at_ : At T m c below) (hx : p.tables.exec = Jvm.exec) {x y : Int32} (hd : decode c.code pc = .ok (.ishl, 1))  (hp : pc + 1 = pc') (r : Run p e below Q En T (mkF m pc' Ls (.int (x <<< (y &&& 31)) :: rest))) : Run p e below Q En T (mkF m pc Ls (.int y :: .int x :: rest)) := by
  subst hp; exact r.on fun _ q => XS.ishl at_ hx rfl hd rfl q
theorem r_ishr (at_ : At T m c below) (hx : p.tables.exec = Jvm.exec) {x y : Int32} (hd : decode c.code pc = .ok (.ishr, 1))  (hp : pc + 1 = pc') (r : Run p e below Q En T (mkF m pc' Ls (.int (x >>> (y &&& 31)) :: rest))) : Run p e below Q En T (mkF m pc Ls (.int y :: .int x :: rest)) := by
  subst hp; exact r.on fun _ q => XS.ishr at_ hx rfl hd rfl q
theorem r_iushr (at_ : At T m c below) (hx : p.tables.exec = Jvm.exec) {x y : Int32} (hd : decode c.code pc = .ok (.iushr, 1))  (hp : pc + 1 = pc') (r : Run p e below Q En T (mkF m pc' Ls (.int (ushrI x y) :: rest))) : Run p e below Q En T (mkF m pc Ls (.int y :: .int x :: rest)) := by
  subst hp; exact r.on fun _ q => XS.iushr at_ hx rfl hd rfl q
theorem r_lshl (at_ : At T m c below) (hx : p.tables.exec = Jvm.exec) {x : Int64} {y : Int32} (hd : decode c.code pc = .ok (.lshl, 1))  (hp : pc + 1 = pc') (r : Run p e below Q En T (mkF m pc' Ls (.long (x <<< (y &&& 63).toInt64) :: rest))) : Run p e below Q En T (mkF m pc Ls (.int y :: .long x :: rest)) := by
  subst hp; exact r.on fun _ q => XS.lshl at_ hx rfl hd rfl q
theorem r_lshr (at_ : At T m c below) (hx : p.tables.exec = Jvm.exec) {x : Int64} {y : Int32} (hd : decode c.code pc = .ok (.lshr, 1))  (hp : pc + 1 = pc') (r : Run p e below Q En T (mkF m pc' Ls (.long (x >>> (y &&& 63).toInt64) :: rest))) : Run p e below Q En T (mkF m pc Ls (.int y :: .long x :: rest)) := by
  subst hp; exact r.on fun _ q => XS.lshr at_ hx rfl hd rfl q
theorem r_lushr (at_ : At T m c below) (hx : p.tables.exec = Jvm.exec) {x : Int64} {y : Int32} (hd : decode c.code pc = .ok (.lushr, 1))  (hp : pc + 1 = pc') (r : Run p e below Q En T (mkF m pc' Ls (.long (ushrJ x y) :: rest))) : Run p e below Q En T (mkF m pc Ls (.int y :: .long x :: rest)) := by
  subst hp; exact r.on fun _ q => XS.lushr at_ hx rfl hd rfl q
theorem r_idiv (at_ : At T m c below) (hx : p.tables.exec = Jvm.exec) {x y : Int32} (hd : decode c.code pc = .ok (.idiv, 1)) (hy : y ≠ 0) (hp : pc + 1 = pc') (r : Run p e below Q En T (mkF m pc' Ls (.int (x / y) :: rest))) : Run p e below Q En T (mkF m pc Ls (.int y :: .int x :: rest)) := by
  subst hp; exact r.on fun _ q => XS.idiv at_ hx rfl hd rfl hy q
theorem r_irem0 (at_ : At T m c below) (hx : p.tables.exec = Jvm.exec) {x y : Int32} (hd : decode c.code pc = .ok (.irem, 1)) (hy : y ≠ 0) (hp : pc + 1 = pc') (r : Run p e below Q En T (mkF m pc' Ls (.int (x - (x / y) * y) :: rest))) : Run p e below Q En T (mkF m pc Ls (.int y :: .int x :: rest)) := by
  subst hp; exact r.on fun _ q => XS.irem at_ hx rfl hd rfl hy q
theorem r_ldiv (at_ : At T m c below) (hx : p.tables.exec = Jvm.exec) {x y : Int64} (hd : decode c.code pc = .ok (.ldiv, 1)) (hy : y ≠ 0) (hp : pc + 1 = pc') (r : Run p e below Q En T (mkF m pc' Ls (.long (x / y) :: rest))) : Run p e below Q En T (mkF m pc Ls (.long y :: .long x :: rest)) := by
  subst hp; exact r.on fun _ q => XS.ldiv at_ hx rfl hd rfl hy q
theorem r_lrem0 (at_ : At T m c below) (hx : p.tables.exec = Jvm.exec) {x y : Int64} (hd : decode c.code pc = .ok (.lrem, 1)) (hy : y ≠ 0) (hp : pc + 1 = pc') (r : Run p e below Q En T (mkF m pc' Ls (.long (x - (x / y) * y) :: rest))) : Run p e below Q En T (mkF m pc Ls (.long y :: .long x :: rest)) := by
  subst hp; exact r.on fun _ q => XS.lrem at_ hx rfl hd rfl hy q
theorem r_irem (at_ : At T m c below) (hx : p.tables.exec = Jvm.exec) {x y : Int32} (hd : decode c.code pc = .ok (.irem, 1)) (hy : y ≠ 0) (hp : pc + 1 = pc') (r : Run p e below Q En T (mkF m pc' Ls (.int (x % y) :: rest))) : Run p e below Q En T (mkF m pc Ls (.int y :: .int x :: rest)) :=
  r_irem0 at_ hx hd hy hp (by rw [show x - x / y * y = x % y from irem_eq_mod x y]; exact r)
theorem r_i2l (at_ : At T m c below) (hx : p.tables.exec = Jvm.exec) {x : Int32} (hd : decode c.code pc = .ok (.i2l, 1))  (hp : pc + 1 = pc') (r : Run p e below Q En T (mkF m pc' Ls (.long (x.toInt64) :: rest))) : Run p e below Q En T (mkF m pc Ls (.int x :: rest)) := by
  subst hp; exact r.on fun _ q => XS.i2l at_ hx rfl hd rfl q
theorem r_l2i (at_ : At T m c below) (hx : p.tables.exec = Jvm.exec) {x : Int64} (hd : decode c.code pc = .ok (.l2i, 1))  (hp : pc + 1 = pc') (r : Run p e below Q En T (mkF m pc' Ls (.int (x.toInt32) :: rest))) : Run p e below Q En T (mkF m pc Ls (.long x :: rest)) := by
  subst hp; exact r.on fun _ q => XS.l2i at_ hx rfl hd rfl q
theorem r_i2b (at_ : At T m c below) (hx : p.tables.exec = Jvm.exec) {x : Int32} (hd : decode c.code pc = .ok (.i2b, 1))  (hp : pc + 1 = pc') (r : Run p e below Q En T (mkF m pc' Ls (.int (x.toInt8.toInt32) :: rest))) : Run p e below Q En T (mkF m pc Ls (.int x :: rest)) := by
  subst hp; exact r.on fun _ q => XS.i2b at_ hx rfl hd rfl q
theorem r_i2c (at_ : At T m c below) (hx : p.tables.exec = Jvm.exec) {x : Int32} (hd : decode c.code pc = .ok (.i2c, 1))  (hp : pc + 1 = pc') (r : Run p e below Q En T (mkF m pc' Ls (.int (x.toUInt32.toUInt16.toUInt32.toInt32) :: rest))) : Run p e below Q En T (mkF m pc Ls (.int x :: rest)) := by
  subst hp; exact r.on fun _ q => XS.i2c at_ hx rfl hd rfl q
theorem r_i2s (at_ : At T m c below) (hx : p.tables.exec = Jvm.exec) {x : Int32} (hd : decode c.code pc = .ok (.i2s, 1))  (hp : pc + 1 = pc') (r : Run p e below Q En T (mkF m pc' Ls (.int (x.toInt16.toInt32) :: rest))) : Run p e below Q En T (mkF m pc Ls (.int x :: rest)) := by
  subst hp; exact r.on fun _ q => XS.i2s at_ hx rfl hd rfl q
theorem r_dup (at_ : At T m c below) (hx : p.tables.exec = Jvm.exec) {x : Value} (hd : decode c.code pc = .ok (.dup, 1)) (hc : x.category = 1) (hp : pc + 1 = pc') (r : Run p e below Q En T (mkF m pc' Ls (x :: x :: rest))) : Run p e below Q En T (mkF m pc Ls (x :: rest)) := by
  subst hp; exact r.on fun _ q => XS.dup at_ hx rfl hd rfl hc q
theorem r_pop (at_ : At T m c below) (hx : p.tables.exec = Jvm.exec) {x : Value} (hd : decode c.code pc = .ok (.pop, 1)) (hc : x.category = 1) (hp : pc + 1 = pc') (r : Run p e below Q En T (mkF m pc' Ls (rest))) : Run p e below Q En T (mkF m pc Ls (x :: rest)) := by
  subst hp; exact r.on fun _ q => XS.pop at_ hx rfl hd rfl hc q
theorem r_dup_x1 (at_ : At T m c below) (hx : p.tables.exec = Jvm.exec) {x y : Value} (hd : decode c.code pc = .ok (.dup_x1, 1)) (hc : x.category = 1) (hc' : y.category = 1) (hp : pc + 1 = pc') (r : Run p e below Q En T (mkF m pc' Ls (x :: y :: x :: rest))) : Run p e below Q En T (mkF m pc Ls (x :: y :: rest)) := by
  subst hp; exact r.on fun _ q => XS.dupX1 at_ hx rfl hd rfl hc hc' q
theorem r_dup2 (at_ : At T m c below) (hx : p.tables.exec = Jvm.exec) {x y : Value} (hd : decode c.code pc = .ok (.dup2, 1)) (hc : x.category = 1) (hc' : y.category = 1) (hp : pc + 1 = pc') (r : Run p e below Q En T (mkF m pc' Ls (x :: y :: x :: y :: rest))) : Run p e below Q En T (mkF m pc Ls (x :: y :: rest)) := by
  subst hp; exact r.on fun _ q => XT.dup2 at_ hx rfl hd rfl hc hc' q
theorem r_dup2L (at_ : At T m c below) (hx : p.tables.exec = Jvm.exec) {x : Int64} (hd : decode c.code pc = .ok (.dup2, 1))  (hp : pc + 1 = pc') (r : Run p e below Q En T (mkF m pc' Ls (.long x :: .long x :: rest))) : Run p e below Q En T (mkF m pc Ls (.long x :: rest)) := by
  subst hp; exact r.on fun _ q => XT.dup2L at_ hx rfl hd rfl q
theorem r_lcmp (at_ : At T m c below) (hx : p.tables.exec = Jvm.exec) {x y : Int64} (hd : decode c.code pc = .ok (.lcmp, 1))  (hp : pc + 1 = pc') (r : Run p e below Q En T (mkF m pc' Ls (.int (cmpJ x y) :: rest))) : Run p e below Q En T (mkF m pc Ls (.long y :: .long x :: rest)) := by
  subst hp; exact r.on fun _ q => XS.lcmp at_ hx rfl hd rfl q
theorem r_iinc (at_ : At T m c below) (hx : p.tables.exec = Jvm.exec) {k : Nat} {cst : Int} {x z : Int32} {l' : Array Slot} (hd : decode c.code pc = .ok (.iinc k cst, 3)) (hl : Ls[k]? = some (.val (.int x))) (hz : x + Int32.ofInt cst = z) (hl' : storeLocals Ls k (.int z) = some l') (hp : pc + 3 = pc') (r : Run p e below Q En T (mkF m pc' l' rest)) : Run p e below Q En T (mkF m pc Ls rest) := by
  subst hp hz; exact r.on fun _ q => XS.iinc at_ hx rfl hd hl hl' q
theorem r_goto (at_ : At T m c below) (hx : p.tables.exec = Jvm.exec) {o : Int} (hd : decode c.code pc = .ok (.goto o, 3)) (ho : 0 ≤ (pc : Int) + o) (hp : ((pc : Int) + o).toNat = pc') (r : Run p e below Q En T (mkF m pc' Ls rest)) : Run p e below Q En T (mkF m pc Ls rest) :=
  r.on fun _ q => XS.goto at_ hx rfl (pc0 := pc) rfl hd ho hp q
theorem cmpJ_c (x y : Int64) : (y.toInt < x.toInt ∧ cmpJ x y = 1) ∨ (x = y ∧ cmpJ x y = 0) ∨ (x.toInt < y.toInt ∧ cmpJ x y = -1) := by
  unfold cmpJ
  by_cases h1 : x > y
  · left; rw [if_pos h1]; exact ⟨Int64.lt_iff_toInt_lt.mp h1, rfl⟩
  · rw [if_neg h1]
    by_cases h2 : x = y
    · right; left; rw [if_pos h2]; exact ⟨h2, rfl⟩
    · right; right; rw [if_neg h2]
      have h3 : ¬ y.toInt < x.toInt := fun q => h1 (Int64.lt_iff_toInt_lt.mpr q)
      have h4 : ¬ x.toInt = y.toInt := fun q => h2 (Int64.toInt_inj.mp q)
      exact ⟨by omega, rfl⟩
theorem h_eq (x y : Int32) : if_icmp.holds .eq x y = decide (x = y) := by by_cases q : x = y <;> simp [if_icmp.holds, q]
theorem h0_eq (x : Int32) : ifCond.holds .eq x = decide (x = (0 : Int32)) := h_eq x 0
theorem r_if_eq (at_ : At T m c below) (hx : p.tables.exec = Jvm.exec) {o : Int} {x y : Int32} {pc2 : Nat} (hd : decode c.code pc = .ok (.if_icmp .eq o, 3)) (ho : 0 ≤ (pc : Int) + o) (hp : ((pc : Int) + o).toNat = pc') (hp2 : pc + 3 = pc2) (r1 : x = y → Run p e below Q En T (mkF m pc' Ls rest)) (r2 : ¬ (x = y) → Run p e below Q En T (mkF m pc2 Ls rest)) : Run p e below Q En T (mkF m pc Ls (.int y :: .int x :: rest)) := by
  subst hp2
  by_cases hc : x = y
  · exact (r1 hc).on fun _ q => XS.icmpYes at_ hx rfl (pc0 := pc) rfl hd rfl (by rw [h_eq]; exact decide_eq_true hc) ho hp q
  · exact (r2 hc).on fun _ q => XS.icmpNo at_ hx rfl hd rfl (by rw [h_eq]; exact decide_eq_false hc) q
theorem r_if0_eq (at_ : At T m c below) (hx : p.tables.exec = Jvm.exec) {o : Int} {x : Int32} {pc2 : Nat} (hd : decode c.code pc = .ok (.ifCond .eq o, 3)) (ho : 0 ≤ (pc : Int) + o) (hp : ((pc : Int) + o).toNat = pc') (hp2 : pc + 3 = pc2) (r1 : x = (0 : Int32) → Run p e below Q En T (mkF m pc' Ls rest)) (r2 : ¬ (x = (0 : Int32)) → Run p e below Q En T (mkF m pc2 Ls rest)) : Run p e below Q En T (mkF m pc Ls (.int x :: rest)) := by
  subst hp2
  by_cases hc : x = (0 : Int32)
  · exact (r1 hc).on fun _ q => XS.ifYes at_ hx rfl (pc0 := pc) rfl hd rfl (by rw [h0_eq]; exact decide_eq_true hc) ho hp q
  · exact (r2 hc).on fun _ q => XS.ifNo at_ hx rfl hd rfl (by rw [h0_eq]; exact decide_eq_false hc) q
theorem hL_eq (x y : Int64) : ifCond.holds .eq (cmpJ x y) = decide (x = y) := by
  rw [h0_eq]; apply decide_eq_decide.mpr
  rcases cmpJ_c x y with ⟨q, e⟩ | ⟨q, e⟩ | ⟨q, e⟩ <;> rw [e]
  · have ne : ¬ x = y := fun z => by rw [z] at q; omega
    simp [ne]
  · subst q; simp
  · have ne : ¬ x = y := fun z => by rw [z] at q; omega
    simp [ne]
theorem r_ifL_eq (at_ : At T m c below) (hx : p.tables.exec = Jvm.exec) {o : Int} {x y : Int64} {pc2 : Nat} (hd : decode c.code pc = .ok (.ifCond .eq o, 3)) (ho : 0 ≤ (pc : Int) + o) (hp : ((pc : Int) + o).toNat = pc') (hp2 : pc + 3 = pc2) (r1 : x = y → Run p e below Q En T (mkF m pc' Ls rest)) (r2 : ¬ (x = y) → Run p e below Q En T (mkF m pc2 Ls rest)) : Run p e below Q En T (mkF m pc Ls (.int (cmpJ x y) :: rest)) := by
  subst hp2
  by_cases hc : x = y
  · exact (r1 hc).on fun _ q => XS.ifYes at_ hx rfl (pc0 := pc) rfl hd rfl (by rw [hL_eq]; exact decide_eq_true hc) ho hp q
  · exact (r2 hc).on fun _ q => XS.ifNo at_ hx rfl hd rfl (by rw [hL_eq]; exact decide_eq_false hc) q
theorem h_ne (x y : Int32) : if_icmp.holds .ne x y = decide (¬ x = y) := by by_cases q : x = y <;> simp [if_icmp.holds, q]
theorem h0_ne (x : Int32) : ifCond.holds .ne x = decide (¬ x = (0 : Int32)) := h_ne x 0
theorem r_if_ne (at_ : At T m c below) (hx : p.tables.exec = Jvm.exec) {o : Int} {x y : Int32} {pc2 : Nat} (hd : decode c.code pc = .ok (.if_icmp .ne o, 3)) (ho : 0 ≤ (pc : Int) + o) (hp : ((pc : Int) + o).toNat = pc') (hp2 : pc + 3 = pc2) (r1 : ¬ x = y → Run p e below Q En T (mkF m pc' Ls rest)) (r2 : ¬ (¬ x = y) → Run p e below Q En T (mkF m pc2 Ls rest)) : Run p e below Q En T (mkF m pc Ls (.int y :: .int x :: rest)) := by
  subst hp2
  by_cases hc : ¬ x = y
  · exact (r1 hc).on fun _ q => XS.icmpYes at_ hx rfl (pc0 := pc) rfl hd rfl (by rw [h_ne]; exact decide_eq_true hc) ho hp q
  · exact (r2 hc).on fun _ q => XS.icmpNo at_ hx rfl hd rfl (by rw [h_ne]; exact decide_eq_false hc) q
theorem r_if0_ne (at_ : At T m c below) (hx : p.tables.exec = Jvm.exec) {o : Int} {x : Int32} {pc2 : Nat} (hd : decode c.code pc = .ok (.ifCond .ne o, 3)) (ho : 0 ≤ (pc : Int) + o) (hp : ((pc : Int) + o).toNat = pc') (hp2 : pc + 3 = pc2) (r1 : ¬ x = (0 : Int32) → Run p e below Q En T (mkF m pc' Ls rest)) (r2 : ¬ (¬ x = (0 : Int32)) → Run p e below Q En T (mkF m pc2 Ls rest)) : Run p e below Q En T (mkF m pc Ls (.int x :: rest)) := by
  subst hp2
  by_cases hc : ¬ x = (0 : Int32)
  · exact (r1 hc).on fun _ q => XS.ifYes at_ hx rfl (pc0 := pc) rfl hd rfl (by rw [h0_ne]; exact decide_eq_true hc) ho hp q
  · exact (r2 hc).on fun _ q => XS.ifNo at_ hx rfl hd rfl (by rw [h0_ne]; exact decide_eq_false hc) q
theorem hL_ne (x y : Int64) : ifCond.holds .ne (cmpJ x y) = decide (¬ x = y) := by
  rw [h0_ne]; apply decide_eq_decide.mpr
  rcases cmpJ_c x y with ⟨q, e⟩ | ⟨q, e⟩ | ⟨q, e⟩ <;> rw [e]
  · have ne : ¬ x = y := fun z => by rw [z] at q; omega
    simp [ne]
  · subst q; simp
  · have ne : ¬ x = y := fun z => by rw [z] at q; omega
    simp [ne]
theorem r_ifL_ne (at_ : At T m c below) (hx : p.tables.exec = Jvm.exec) {o : Int} {x y : Int64} {pc2 : Nat} (hd : decode c.code pc = .ok (.ifCond .ne o, 3)) (ho : 0 ≤ (pc : Int) + o) (hp : ((pc : Int) + o).toNat = pc') (hp2 : pc + 3 = pc2) (r1 : ¬ x = y → Run p e below Q En T (mkF m pc' Ls rest)) (r2 : ¬ (¬ x = y) → Run p e below Q En T (mkF m pc2 Ls rest)) : Run p e below Q En T (mkF m pc Ls (.int (cmpJ x y) :: rest)) := by
  subst hp2
  by_cases hc : ¬ x = y
  · exact (r1 hc).on fun _ q => XS.ifYes at_ hx rfl (pc0 := pc) rfl hd rfl (by rw [hL_ne]; exact decide_eq_true hc) ho hp q
  · exact (r2 hc).on fun _ q => XS.ifNo at_ hx rfl hd rfl (by rw [hL_ne]; exact decide_eq_false hc) q
theorem h_lt (x y : Int32) : if_icmp.holds .lt x y = decide (x.toInt < y.toInt) := by simp [if_icmp.holds, Int32.lt_iff_toInt_lt]
theorem h0_lt (x : Int32) : ifCond.holds .lt x = decide (x.toInt < (0 : Int32).toInt) := h_lt x 0
theorem r_if_lt (at_ : At T m c below) (hx : p.tables.exec = Jvm.exec) {o : Int} {x y : Int32} {pc2 : Nat} (hd : decode c.code pc = .ok (.if_icmp .lt o, 3)) (ho : 0 ≤ (pc : Int) + o) (hp : ((pc : Int) + o).toNat = pc') (hp2 : pc + 3 = pc2) (r1 : x.toInt < y.toInt → Run p e below Q En T (mkF m pc' Ls rest)) (r2 : ¬ (x.toInt < y.toInt) → Run p e below Q En T (mkF m pc2 Ls rest)) : Run p e below Q En T (mkF m pc Ls (.int y :: .int x :: rest)) := by
  subst hp2
  by_cases hc : x.toInt < y.toInt
  · exact (r1 hc).on fun _ q => XS.icmpYes at_ hx rfl (pc0 := pc) rfl hd rfl (by rw [h_lt]; exact decide_eq_true hc) ho hp q
  · exact (r2 hc).on fun _ q => XS.icmpNo at_ hx rfl hd rfl (by rw [h_lt]; exact decide_eq_false hc) q
theorem r_if0_lt (at_ : At T m c below) (hx : p.tables.exec = Jvm.exec) {o : Int} {x : Int32} {pc2 : Nat} (hd : decode c.code pc = .ok (.ifCond .lt o, 3)) (ho : 0 ≤ (pc : Int) + o) (hp : ((pc : Int) + o).toNat = pc') (hp2 : pc + 3 = pc2) (r1 : x.toInt < 0 → Run p e below Q En T (mkF m pc' Ls rest)) (r2 : ¬ (x.toInt < 0) → Run p e below Q En T (mkF m pc2 Ls rest)) : Run p e below Q En T (mkF m pc Ls (.int x :: rest)) := by
  subst hp2
  by_cases hc : x.toInt < 0
  · exact (r1 hc).on fun _ q => XS.ifYes at_ hx rfl (pc0 := pc) rfl hd rfl (by rw [h0_lt]; exact decide_eq_true (by rw [show (0 : Int32).toInt = 0 from rfl]; exact hc)) ho hp q
  · exact (r2 hc).on fun _ q => XS.ifNo at_ hx rfl hd rfl (by rw [h0_lt]; exact decide_eq_false (by rw [show (0 : Int32).toInt = 0 from rfl]; exact hc)) q
theorem hL_lt (x y : Int64) : ifCond.holds .lt (cmpJ x y) = decide (x.toInt < y.toInt) := by
  rw [h0_lt]; apply decide_eq_decide.mpr
  rcases cmpJ_c x y with ⟨q, e⟩ | ⟨q, e⟩ | ⟨q, e⟩ <;> rw [e]
  · have ne : ¬ x = y := fun z => by rw [z] at q; omega
    show ((1 : Int) < 0) ↔ _; omega
  · subst q; show ((0 : Int) < 0) ↔ _; omega
  · have ne : ¬ x = y := fun z => by rw [z] at q; omega
    show ((-1 : Int) < 0) ↔ _; omega
theorem r_ifL_lt (at_ : At T m c below) (hx : p.tables.exec = Jvm.exec) {o : Int} {x y : Int64} {pc2 : Nat} (hd : decode c.code pc = .ok (.ifCond .lt o, 3)) (ho : 0 ≤ (pc : Int) + o) (hp : ((pc : Int) + o).toNat = pc') (hp2 : pc + 3 = pc2) (r1 : x.toInt < y.toInt → Run p e below Q En T (mkF m pc' Ls rest)) (r2 : ¬ (x.toInt < y.toInt) → Run p e below Q En T (mkF m pc2 Ls rest)) : Run p e below Q En T (mkF m pc Ls (.int (cmpJ x y) :: rest)) := by
  subst hp2
  by_cases hc : x.toInt < y.toInt
  · exact (r1 hc).on fun _ q => XS.ifYes at_ hx rfl (pc0 := pc) rfl hd rfl (by rw [hL_lt]; exact decide_eq_true hc) ho hp q
  · exact (r2 hc).on fun _ q => XS.ifNo at_ hx rfl hd rfl (by rw [hL_lt]; exact decide_eq_false hc) q
theorem h_ge (x y : Int32) : if_icmp.holds .ge x y = decide (y.toInt ≤ x.toInt) := by simp [if_icmp.holds, Int32.le_iff_toInt_le]
theorem h0_ge (x : Int32) : ifCond.holds .ge x = decide ((0 : Int32).toInt ≤ x.toInt) := h_ge x 0
theorem r_if_ge (at_ : At T m c below) (hx : p.tables.exec = Jvm.exec) {o : Int} {x y : Int32} {pc2 : Nat} (hd : decode c.code pc = .ok (.if_icmp .ge o, 3)) (ho : 0 ≤ (pc : Int) + o) (hp : ((pc : Int) + o).toNat = pc') (hp2 : pc + 3 = pc2) (r1 : y.toInt ≤ x.toInt → Run p e below Q En T (mkF m pc' Ls rest)) (r2 : ¬ (y.toInt ≤ x.toInt) → Run p e below Q En T (mkF m pc2 Ls rest)) : Run p e below Q En T (mkF m pc Ls (.int y :: .int x :: rest)) := by
  subst hp2
  by_cases hc : y.toInt ≤ x.toInt
  · exact (r1 hc).on fun _ q => XS.icmpYes at_ hx rfl (pc0 := pc) rfl hd rfl (by rw [h_ge]; exact decide_eq_true hc) ho hp q
  · exact (r2 hc).on fun _ q => XS.icmpNo at_ hx rfl hd rfl (by rw [h_ge]; exact decide_eq_false hc) q
theorem r_if0_ge (at_ : At T m c below) (hx : p.tables.exec = Jvm.exec) {o : Int} {x : Int32} {pc2 : Nat} (hd : decode c.code pc = .ok (.ifCond .ge o, 3)) (ho : 0 ≤ (pc : Int) + o) (hp : ((pc : Int) + o).toNat = pc') (hp2 : pc + 3 = pc2) (r1 : 0 ≤ x.toInt → Run p e below Q En T (mkF m pc' Ls rest)) (r2 : ¬ (0 ≤ x.toInt) → Run p e below Q En T (mkF m pc2 Ls rest)) : Run p e below Q En T (mkF m pc Ls (.int x :: rest)) := by
  subst hp2
  by_cases hc : 0 ≤ x.toInt
  · exact (r1 hc).on fun _ q => XS.ifYes at_ hx rfl (pc0 := pc) rfl hd rfl (by rw [h0_ge]; exact decide_eq_true (by rw [show (0 : Int32).toInt = 0 from rfl]; exact hc)) ho hp q
  · exact (r2 hc).on fun _ q => XS.ifNo at_ hx rfl hd rfl (by rw [h0_ge]; exact decide_eq_false (by rw [show (0 : Int32).toInt = 0 from rfl]; exact hc)) q
theorem hL_ge (x y : Int64) : ifCond.holds .ge (cmpJ x y) = decide (y.toInt ≤ x.toInt) := by
  rw [h0_ge]; apply decide_eq_decide.mpr
  rcases cmpJ_c x y with ⟨q, e⟩ | ⟨q, e⟩ | ⟨q, e⟩ <;> rw [e]
  · have ne : ¬ x = y := fun z => by rw [z] at q; omega
    show ((0 : Int) ≤ 1) ↔ _; omega
  · subst q; show ((0 : Int) ≤ 0) ↔ _; omega
  · have ne : ¬ x = y := fun z => by rw [z] at q; omega
    show ((0 : Int) ≤ -1) ↔ _; omega
theorem r_ifL_ge (at_ : At T m c below) (hx : p.tables.exec = Jvm.exec) {o : Int} {x y : Int64} {pc2 : Nat} (hd : decode c.code pc = .ok (.ifCond .ge o, 3)) (ho : 0 ≤ (pc : Int) + o) (hp : ((pc : Int) + o).toNat = pc') (hp2 : pc + 3 = pc2) (r1 : y.toInt ≤ x.toInt → Run p e below Q En T (mkF m pc' Ls rest)) (r2 : ¬ (y.toInt ≤ x.toInt) → Run p e below Q En T (mkF m pc2 Ls rest)) : Run p e below Q En T (mkF m pc Ls (.int (cmpJ x y) :: rest)) := by
  subst hp2
  by_cases hc : y.toInt ≤ x.toInt
  · exact (r1 hc).on fun _ q => XS.ifYes at_ hx rfl (pc0 := pc) rfl hd rfl (by rw [hL_ge]; exact decide_eq_true hc) ho hp q
  · exact (r2 hc).on fun _ q => XS.ifNo at_ hx rfl hd rfl (by rw [hL_ge]; exact decide_eq_false hc) q
theorem h_gt (x y : Int32) : if_icmp.holds .gt x y = decide (y.toInt < x.toInt) := by simp [if_icmp.holds, Int32.lt_iff_toInt_lt]
theorem h0_gt (x : Int32) : ifCond.holds .gt x = decide ((0 : Int32).toInt < x.toInt) := h_gt x 0
theorem r_if_gt (at_ : At T m c below) (hx : p.tables.exec = Jvm.exec) {o : Int} {x y : Int32} {pc2 : Nat} (hd : decode c.code pc = .ok (.if_icmp .gt o, 3)) (ho : 0 ≤ (pc : Int) + o) (hp : ((pc : Int) + o).toNat = pc') (hp2 : pc + 3 = pc2) (r1 : y.toInt < x.toInt → Run p e below Q En T (mkF m pc' Ls rest)) (r2 : ¬ (y.toInt < x.toInt) → Run p e below Q En T (mkF m pc2 Ls rest)) : Run p e below Q En T (mkF m pc Ls (.int y :: .int x :: rest)) := by
  subst hp2
  by_cases hc : y.toInt < x.toInt
  · exact (r1 hc).on fun _ q => XS.icmpYes at_ hx rfl (pc0 := pc) rfl hd rfl (by rw [h_gt]; exact decide_eq_true hc) ho hp q
  · exact (r2 hc).on fun _ q => XS.icmpNo at_ hx rfl hd rfl (by rw [h_gt]; exact decide_eq_false hc) q
theorem r_if0_gt (at_ : At T m c below) (hx : p.tables.exec = Jvm.exec) {o : Int} {x : Int32} {pc2 : Nat} (hd : decode c.code pc = .ok (.ifCond .gt o, 3)) (ho : 0 ≤ (pc : Int) + o) (hp : ((pc : Int) + o).toNat = pc') (hp2 : pc + 3 = pc2) (r1 : 0 < x.toInt → Run p e below Q En T (mkF m pc' Ls rest)) (r2 : ¬ (0 < x.toInt) → Run p e below Q En T (mkF m pc2 Ls rest)) : Run p e below Q En T (mkF m pc Ls (.int x :: rest)) := by
  subst hp2
  by_cases hc : 0 < x.toInt
  · exact (r1 hc).on fun _ q => XS.ifYes at_ hx rfl (pc0 := pc) rfl hd rfl (by rw [h0_gt]; exact decide_eq_true (by rw [show (0 : Int32).toInt = 0 from rfl]; exact hc)) ho hp q
  · exact (r2 hc).on fun _ q => XS.ifNo at_ hx rfl hd rfl (by rw [h0_gt]; exact decide_eq_false (by rw [show (0 : Int32).toInt = 0 from rfl]; exact hc)) q
theorem hL_gt (x y : Int64) : ifCond.holds .gt (cmpJ x y) = decide (y.toInt < x.toInt) := by
  rw [h0_gt]; apply decide_eq_decide.mpr
  rcases cmpJ_c x y with ⟨q, e⟩ | ⟨q, e⟩ | ⟨q, e⟩ <;> rw [e]
  · have ne : ¬ x = y := fun z => by rw [z] at q; omega
    show ((0 : Int) < 1) ↔ _; omega
  · subst q; show ((0 : Int) < 0) ↔ _; omega
  · have ne : ¬ x = y := fun z => by rw [z] at q; omega
    show ((0 : Int) < -1) ↔ _; omega
theorem r_ifL_gt (at_ : At T m c below) (hx : p.tables.exec = Jvm.exec) {o : Int} {x y : Int64} {pc2 : Nat} (hd : decode c.code pc = .ok (.ifCond .gt o, 3)) (ho : 0 ≤ (pc : Int) + o) (hp : ((pc : Int) + o).toNat = pc') (hp2 : pc + 3 = pc2) (r1 : y.toInt < x.toInt → Run p e below Q En T (mkF m pc' Ls rest)) (r2 : ¬ (y.toInt < x.toInt) → Run p e below Q En T (mkF m pc2 Ls rest)) : Run p e below Q En T (mkF m pc Ls (.int (cmpJ x y) :: rest)) := by
  subst hp2
  by_cases hc : y.toInt < x.toInt
  · exact (r1 hc).on fun _ q => XS.ifYes at_ hx rfl (pc0 := pc) rfl hd rfl (by rw [hL_gt]; exact decide_eq_true hc) ho hp q
  · exact (r2 hc).on fun _ q => XS.ifNo at_ hx rfl hd rfl (by rw [hL_gt]; exact decide_eq_false hc) q
theorem h_le (x y : Int32) : if_icmp.holds .le x y = decide (x.toInt ≤ y.toInt) := by simp [if_icmp.holds, Int32.le_iff_toInt_le]
theorem h0_le (x : Int32) : ifCond.holds .le x = decide (x.toInt ≤ (0 : Int32).toInt) := h_le x 0
theorem r_if_le (at_ : At T m c below) (hx : p.tables.exec = Jvm.exec) {o : Int} {x y : Int32} {pc2 : Nat} (hd : decode c.code pc = .ok (.if_icmp .le o, 3)) (ho : 0 ≤ (pc : Int) + o) (hp : ((pc : Int) + o).toNat = pc') (hp2 : pc + 3 = pc2) (r1 : x.toInt ≤ y.toInt → Run p e below Q En T (mkF m pc' Ls rest)) (r2 : ¬ (x.toInt ≤ y.toInt) → Run p e below Q En T (mkF m pc2 Ls rest)) : Run p e below Q En T (mkF m pc Ls (.int y :: .int x :: rest)) := by
  subst hp2
  by_cases hc : x.toInt ≤ y.toInt
  · exact (r1 hc).on fun _ q => XS.icmpYes at_ hx rfl (pc0 := pc) rfl hd rfl (by rw [h_le]; exact decide_eq_true hc) ho hp q
  · exact (r2 hc).on fun _ q => XS.icmpNo at_ hx rfl hd rfl (by rw [h_le]; exact decide_eq_false hc) q
theorem r_if0_le (at_ : At T m c below) (hx : p.tables.exec = Jvm.exec) {o : Int} {x : Int32} {pc2 : Nat} (hd : decode c.code pc = .ok (.ifCond .le o, 3)) (ho : 0 ≤ (pc : Int) + o) (hp : ((pc : Int) + o).toNat = pc') (hp2 : pc + 3 = pc2) (r1 : x.toInt ≤ 0 → Run p e below Q En T (mkF m pc' Ls rest)) (r2 : ¬ (x.toInt ≤ 0) → Run p e below Q En T (mkF m pc2 Ls rest)) : Run p e below Q En T (mkF m pc Ls (.int x :: rest)) := by
  subst hp2
  by_cases hc : x.toInt ≤ 0
  · exact (r1 hc).on fun _ q => XS.ifYes at_ hx rfl (pc0 := pc) rfl hd rfl (by rw [h0_le]; exact decide_eq_true (by rw [show (0 : Int32).toInt = 0 from rfl]; exact hc)) ho hp q
  · exact (r2 hc).on fun _ q => XS.ifNo at_ hx rfl hd rfl (by rw [h0_le]; exact decide_eq_false (by rw [show (0 : Int32).toInt = 0 from rfl]; exact hc)) q
theorem hL_le (x y : Int64) : ifCond.holds .le (cmpJ x y) = decide (x.toInt ≤ y.toInt) := by
  rw [h0_le]; apply decide_eq_decide.mpr
  rcases cmpJ_c x y with ⟨q, e⟩ | ⟨q, e⟩ | ⟨q, e⟩ <;> rw [e]
  · have ne : ¬ x = y := fun z => by rw [z] at q; omega
    show ((1 : Int) ≤ 0) ↔ _; omega
  · subst q; show ((0 : Int) ≤ 0) ↔ _; omega
  · have ne : ¬ x = y := fun z => by rw [z] at q; omega
    show ((-1 : Int) ≤ 0) ↔ _; omega
theorem r_ifL_le (at_ : At T m c below) (hx : p.tables.exec = Jvm.exec) {o : Int} {x y : Int64} {pc2 : Nat} (hd : decode c.code pc = .ok (.ifCond .le o, 3)) (ho : 0 ≤ (pc : Int) + o) (hp : ((pc : Int) + o).toNat = pc') (hp2 : pc + 3 = pc2) (r1 : x.toInt ≤ y.toInt → Run p e below Q En T (mkF m pc' Ls rest)) (r2 : ¬ (x.toInt ≤ y.toInt) → Run p e below Q En T (mkF m pc2 Ls rest)) : Run p e below Q En T (mkF m pc Ls (.int (cmpJ x y) :: rest)) := by
  subst hp2
  by_cases hc : x.toInt ≤ y.toInt
  · exact (r1 hc).on fun _ q => XS.ifYes at_ hx rfl (pc0 := pc) rfl hd rfl (by rw [hL_le]; exact decide_eq_true hc) ho hp q
  · exact (r2 hc).on fun _ q => XS.ifNo at_ hx rfl hd rfl (by rw [hL_le]; exact decide_eq_false hc) q
theorem r_ifnullY (at_ : At T m c below) (hx : p.tables.exec = Jvm.exec) {o : Int} (hd : decode c.code pc = .ok (.ifnull o, 3)) (ho : 0 ≤ (pc : Int) + o) (hp : ((pc : Int) + o).toNat = pc') (r : Run p e below Q En T (mkF m pc' Ls rest)) : Run p e below Q En T (mkF m pc Ls (.null :: rest)) :=
  r.on fun _ q => XS.ifnullYes at_ hx rfl (pc0 := pc) rfl hd rfl ho hp q
theorem r_ifnullN (at_ : At T m c below) (hx : p.tables.exec = Jvm.exec) {o : Int} {b : Addr} (hd : decode c.code pc = .ok (.ifnull o, 3)) (hp : pc + 3 = pc') (r : Run p e below Q En T (mkF m pc' Ls rest)) : Run p e below Q En T (mkF m pc Ls (.ref b :: rest)) := by
  subst hp; exact r.on fun _ q => XS.ifnullNo at_ hx rfl hd rfl q
theorem r_ifnonnullY (at_ : At T m c below) (hx : p.tables.exec = Jvm.exec) {o : Int} {b : Addr} (hd : decode c.code pc = .ok (.ifnonnull o, 3)) (ho : 0 ≤ (pc : Int) + o) (hp : ((pc : Int) + o).toNat = pc') (r : Run p e below Q En T (mkF m pc' Ls rest)) : Run p e below Q En T (mkF m pc Ls (.ref b :: rest)) :=
  r.on fun _ q => XS.ifnonnullYes at_ hx rfl (pc0 := pc) rfl hd rfl ho hp q
theorem r_ifnonnullN (at_ : At T m c below) (hx : p.tables.exec = Jvm.exec) {o : Int} (hd : decode c.code pc = .ok (.ifnonnull o, 3)) (hp : pc + 3 = pc') (r : Run p e below Q En T (mkF m pc' Ls rest)) : Run p e below Q En T (mkF m pc Ls (.null :: rest)) := by
  subst hp; exact r.on fun _ q => XS.ifnonnullNo at_ hx rfl hd rfl q
theorem r_acmp_eq (at_ : At T m c below) (hx : p.tables.exec = Jvm.exec) {o : Int} {x y : Value} {pc2 : Nat} (hd : decode c.code pc = .ok (.if_acmp .eq o, 3)) (h1 : x.isRef = true) (h2 : y.isRef = true) (ho : 0 ≤ (pc : Int) + o) (hp : ((pc : Int) + o).toNat = pc') (hp2 : pc + 3 = pc2) (r1 : x = y → Run p e below Q En T (mkF m pc' Ls rest)) (r2 : ¬ x = y → Run p e below Q En T (mkF m pc2 Ls rest)) : Run p e below Q En T (mkF m pc Ls (y :: x :: rest)) := by
  subst hp2
  by_cases hc : x = y
  · exact (r1 hc).on fun _ q => XT.acmpYes at_ hx rfl (pc0 := pc) rfl hd rfl h1 h2 (by simp [XT.acmp, hc]) ho hp q
  · exact (r2 hc).on fun _ q => XT.acmpNo at_ hx rfl hd rfl h1 h2 (by simp [XT.acmp, hc]) q
theorem r_acmp_ne (at_ : At T m c below) (hx : p.tables.exec = Jvm.exec) {o : Int} {x y : Value} {pc2 : Nat} (hd : decode c.code pc = .ok (.if_acmp .ne o, 3)) (h1 : x.isRef = true) (h2 : y.isRef = true) (ho : 0 ≤ (pc : Int) + o) (hp : ((pc : Int) + o).toNat = pc') (hp2 : pc + 3 = pc2) (r1 : ¬ x = y → Run p e below Q En T (mkF m pc' Ls rest)) (r2 : x = y → Run p e below Q En T (mkF m pc2 Ls rest)) : Run p e below Q En T (mkF m pc Ls (y :: x :: rest)) := by
  subst hp2
  by_cases hc : x = y
  · exact (r2 hc).on fun _ q => XT.acmpNo at_ hx rfl hd rfl h1 h2 (by simp [XT.acmp, hc]) q
  · exact (r1 hc).on fun _ q => XT.acmpYes at_ hx rfl (pc0 := pc) rfl hd rfl h1 h2 (by simp [XT.acmp, hc]) ho hp q
theorem r_retN (X : Stand p l e R s m args below meth c T locs cells slots) (hx : p.tables.exec = Jvm.exec) (hlk : meth.locks = false) {t : FieldType} {z w : Int32} (hret : meth.sig.returnType = some t) (ht : t = .boolean ∨ t = .byte ∨ t = .char ∨ t = .short) (hd : decode c.code pc = .ok (.ireturn, 1)) (hn : nar t z = w) (hq : Q (some (.int w)) T.heap locs) (h1 : cells ≤ kc) (h2 : slots ≤ ks) : Run p e below Q (fun o t L => FrameEnd s o t L kc ks) T (mkF m pc Ls (.int z :: rest)) := by
  subst hn
  obtain ⟨fs, hr, hrun, hended, hW, hsame⟩ := X.leave (v := some (.int (nar t z))) (fun q => by rw [hret] at q; cases q) hlk
  exact ⟨_, _, retN X hx hret ht hd hr, hrun, hended, _, _, rfl, hq, ⟨_, rfl⟩, hW, hsame.mono h1 h2⟩
theorem r_retV (X : Stand p l e R s m args below meth c T locs cells slots) (hx : p.tables.exec = Jvm.exec) (hlk : meth.locks = false) {t : FieldType} {w : Value} {i : Instr} (hret : meth.sig.returnType = some t) (hn : narrow t w = w)
    (hi : (i = .ireturn ∧ (t = .int ∨ t = .boolean ∨ t = .byte ∨ t = .char ∨ t = .short) ∧ ∃ z, w = .int z) ∨ (i = .lreturn ∧ t = .long ∧ ∃ z, w = .long z) ∨ (i = .dreturn ∧ t = .double ∧ ∃ z, w = .double z) ∨ (i = .freturn ∧ t = .float ∧ ∃ z, w = .float z) ∨ (i = .areturn ∧ t.isReference = true ∧ w.isRef = true))
    (hd : decode c.code pc = .ok (i, 1)) (hq : Q (some w) T.heap locs) (h1 : cells ≤ kc) (h2 : slots ≤ ks) : Run p e below Q (fun o t L => FrameEnd s o t L kc ks) T (mkF m pc Ls (w :: rest)) := by
  obtain ⟨fs, hr, hrun, hended, hW, hsame⟩ := X.leave (v := some w) (fun q => by rw [hret] at q; cases q) hlk
  exact ⟨_, _, retOut X hx hret hn hi hd hr, hrun, hended, _, _, rfl, hq, ⟨_, rfl⟩, hW, hsame.mono h1 h2⟩
theorem r_retI (X : Stand p l e R s m args below meth c T locs cells slots) (hx : p.tables.exec = Jvm.exec) (hlk : meth.locks = false) {w : Int32} (hret : meth.sig.returnType = some .int) (hd : decode c.code pc = .ok (.ireturn, 1)) (hq : Q (some (.int w)) T.heap locs) (h1 : cells ≤ kc) (h2 : slots ≤ ks) : Run p e below Q (fun o t L => FrameEnd s o t L kc ks) T (mkF m pc Ls (.int w :: rest)) :=
  r_retV X hx hlk hret rfl (Or.inl ⟨rfl, Or.inl rfl, _, rfl⟩) hd hq h1 h2
theorem r_retJ (X : Stand p l e R s m args below meth c T locs cells slots) (hx : p.tables.exec = Jvm.exec) (hlk : meth.locks = false) {w : Int64} (hret : meth.sig.returnType = some .long) (hd : decode c.code pc = .ok (.lreturn, 1)) (hq : Q (some (.long w)) T.heap locs) (h1 : cells ≤ kc) (h2 : slots ≤ ks) : Run p e below Q (fun o t L => FrameEnd s o t L kc ks) T (mkF m pc Ls (.long w :: rest)) :=
  r_retV X hx hlk hret rfl (Or.inr (Or.inl ⟨rfl, rfl, _, rfl⟩)) hd hq h1 h2
theorem r_retD (X : Stand p l e R s m args below meth c T locs cells slots) (hx : p.tables.exec = Jvm.exec) (hlk : meth.locks = false) {w : UInt64} (hret : meth.sig.returnType = some .double) (hd : decode c.code pc = .ok (.dreturn, 1)) (hq : Q (some (.double w)) T.heap locs) (h1 : cells ≤ kc) (h2 : slots ≤ ks) : Run p e below Q (fun o t L => FrameEnd s o t L kc ks) T (mkF m pc Ls (.double w :: rest)) :=
  r_retV X hx hlk hret rfl (Or.inr (Or.inr (Or.inl ⟨rfl, rfl, _, rfl⟩))) hd hq h1 h2
theorem r_retA (X : Stand p l e R s m args below meth c T locs cells slots) (hx : p.tables.exec = Jvm.exec) (hlk : meth.locks = false) {t : FieldType} {w : Value} (hret : meth.sig.returnType = some t) (ht : t.isReference = true) (hw : w.isRef = true) (hd : decode c.code pc = .ok (.areturn, 1)) (hq : Q (some w) T.heap locs) (h1 : cells ≤ kc) (h2 : slots ≤ ks) : Run p e below Q (fun o t L => FrameEnd s o t L kc ks) T (mkF m pc Ls (w :: rest)) :=
  r_retV X hx hlk hret (by rcases ref_cases hw with rfl | ⟨a, rfl⟩ <;> cases t <;> first | rfl | cases ht) (Or.inr (Or.inr (Or.inr (Or.inr ⟨rfl, ht, hw⟩)))) hd hq h1 h2
theorem r_ret0 (X : Stand p l e R s m args below meth c T locs cells slots) (hx : p.tables.exec = Jvm.exec) (hlk : meth.locks = false) (hret : meth.sig.returnType = none) (hd : decode c.code pc = .ok (.return_, 1)) (hq : Q none T.heap locs) (h1 : cells ≤ kc) (h2 : slots ≤ ks) : Run p e below Q (fun o t L => FrameEnd s o t L kc ks) T (mkF m pc Ls []) := by
  obtain ⟨fs, hr, hrun, hended, hW, hsame⟩ := X.leave (v := none) (fun _ => rfl) hlk
  exact ⟨_, _, X.returnOut hx hret hd hr, hrun, hended, _, _, rfl, hq, ⟨_, rfl⟩, hW, hsame.mono h1 h2⟩
theorem r_ldc (X : Stand p l e R s m args below meth c T locs cells slots) (hx : p.tables.exec = Jvm.exec) (hZ : Z.Warmed39 s.vm) {own : String} {index : Nat} {v : Int32} (hown : s.vm.findClass own = some m.cls) (w : (Jvm.Cond.constant own index v).before a0 Z = true) (hd : decode c.code pc = .ok (.ldc index, 2)) (hp : pc + 2 = pc') (r : Run p e below Q En T (mkF m pc' Ls (.int v :: rest))) : Run p e below Q En T (mkF m pc Ls rest) := by
  subst hp; exact r.on fun _ q => X.ldcInt hx hown (mvT hZ w) (g := mkF m pc Ls rest) rfl hd _ q
theorem r_ldc2 (X : Stand p l e R s m args below meth c T locs cells slots) (hx : p.tables.exec = Jvm.exec) (hZ : Z.Warmed39 s.vm) {own : String} {index : Nat} {v : Int64} (hown : s.vm.findClass own = some m.cls) (w : (Jvm.Cond.constantLong own index v).before a0 Z = true) (hd : decode c.code pc = .ok (.ldc2_w index, 3)) (hp : pc + 3 = pc') (r : Run p e below Q En T (mkF m pc' Ls (.long v :: rest))) : Run p e below Q En T (mkF m pc Ls rest) := by
  subst hp; exact r.on fun _ q => X.ldc2Long hx hown (mvT hZ w) (g := mkF m pc Ls rest) rfl hd _ q
theorem r_callS (X : Stand p l e R s m args below meth c T locs cells slots) (hx : p.tables.exec = Jvm.exec) (hZ : Z.Warmed39 s.vm) {own : String} {index : Nat} {y : MethodName} {bytes : ByteArray} {maxL : Nat} {ret : Option FieldType} {rm : Room} {as' : Array Value} {Qc : Option Value → Heap → List Loc → Prop} {argsL : List Value} {W : Nat}
    (hown : s.vm.findClass own = some m.cls) (w1 : (Jvm.Cond.methodLink own index y).before a0 Z = true) (w2 : (Jvm.Cond.static y).before a0 Z = true) (w3 : (Jvm.Cond.initialized y.cls).before a0 Z = true) (w4 : (Jvm.Cond.code y bytes maxL ret).before a0 Z = true) (hy : y.cls ≠ "java/lang/invoke/MethodHandle" ∧ y.cls ≠ "java/lang/invoke/VarHandle")
    (hM : Met l Z y bytes maxL ret [] rm as' h Qc rm.cells rm.slots) (eT : T.heap = h) (hsz : Ls.size = c.maxLocals) (hlen : ∀ sig, parseMethodDescriptor y.desc = some sig → argsL.length = sig.parameters.length) (hst : st = argsL.reverse ++ rest) (has : argsL.toArray = as') (hW : (rest.map fun v => v.category).sum = W)
    (hf : rm.frames + 1 ≤ R.frames) (hl : W + (maxL + 11) + rm.locals ≤ R.locals) (hcl : cells + rm.cells ≤ R.cells) (hsl : slots + rm.slots ≤ R.slots) (hd : decode c.code pc = .ok (.invokestatic index, 3)) (hp : pc + 3 = pc')
    (r : ∀ (v : Option Value) (T' : State) (L : List Loc), Stand p l e R s m args below meth c T' (locs ++ L) (cells + rm.cells) (slots + rm.slots) → Qc v T'.heap L → Run p e below Q En T' (mkF m pc' Ls (v.toList ++ rest))) : Run p e below Q En T (mkF m pc Ls st) := by
  subst hp
  obtain ⟨v, _, ⟨T', L', k', n'⟩, -, X', ⟨L, hQ, l1, y1, z1⟩, stp⟩ := Jvm.LawKit.callS X hx (y := y) hown (mvT hZ w1) (mvT hZ w2) (mvT hZ w3) (mvT hZ w4) hy (backOf (W := W) hM hZ w4 w3 hf hl) (g := mkF m pc Ls st) rfl hsz (argsL := argsL) (rest := rest) hlen hst (by show 2 * 0 + _ ≤ _; omega) hd (fun _ _ => ⟨has, eT, hcl, hsl⟩)
  dsimp only at X' l1 y1 z1 stp hQ
  subst l1 y1 z1
  exact (r v T' L X' hQ).on stp
theorem r_callI (X : Stand p l e R s m args below meth c T locs cells slots) (hx : p.tables.exec = Jvm.exec) (hZ : Z.Warmed39 s.vm) {own : String} {index : Nat} {y : MethodName} {bytes : ByteArray} {maxL : Nat} {rm : Room} {as' : Array Value} {Qc : Option Value → Heap → List Loc → Prop} {argsL : List Value} {W : Nat} {a : Addr}
    (hown : s.vm.findClass own = some m.cls) (hy1 : y.name = "<init>") (w1 : (Jvm.Cond.methodLink own index y).before a0 Z = true) (w2 : (Jvm.Cond.instanceMethod y).before a0 Z = true) (w3 : (Jvm.Cond.initialized y.cls).before a0 Z = true) (w4 : (Jvm.Cond.code y bytes maxL none).before a0 Z = true) (hy : y.cls ≠ "java/lang/invoke/MethodHandle" ∧ y.cls ≠ "java/lang/invoke/VarHandle")
    (hM : Met l Z y bytes maxL none [] rm as' h Qc rm.cells rm.slots) (eT : T.heap = h) (hsz : Ls.size = c.maxLocals) (hlen : ∀ sig, parseMethodDescriptor y.desc = some sig → argsL.length = sig.parameters.length) (hst : st = argsL.reverse ++ .ref a :: rest) (has : (.ref a :: argsL).toArray = as') (hW : (rest.map fun v => v.category).sum = W)
    (hf : rm.frames + 1 ≤ R.frames) (hl : W + (maxL + 11) + rm.locals ≤ R.locals) (hcl : cells + rm.cells ≤ R.cells) (hsl : slots + rm.slots ≤ R.slots) (hd : decode c.code pc = .ok (.invokespecial index, 3)) (hp : pc + 3 = pc')
    (r : ∀ (v : Option Value) (T' : State) (L : List Loc), Stand p l e R s m args below meth c T' (locs ++ L) (cells + rm.cells) (slots + rm.slots) → Qc v T'.heap L → Run p e below Q En T' (mkF m pc' Ls (v.toList ++ rest))) : Run p e below Q En T (mkF m pc Ls st) := by
  subst hp
  obtain ⟨v, _, ⟨T', L', k', n'⟩, -, X', ⟨L, hQ, l1, y1, z1⟩, stp⟩ := X.specialBack hx (y := y) hy1 hown (mvT hZ w1) (mvT hZ w2) (mvT hZ w4) hy (backOf (W := W) hM hZ w4 w3 hf hl) (g := mkF m pc Ls st) rfl hsz (Steps.refl _) (a := a) (argsL := argsL) (rest := rest) hlen hst (by show 2 * 0 + _ ≤ _; omega) hd (fun _ _ => ⟨has, eT, hcl, hsl⟩)
  dsimp only at X' l1 y1 z1 stp hQ
  subst l1 y1 z1
  exact (r v T' L X' hQ).on fun _ q => stp.trans q
theorem r_callV (X : Stand p l e R s m args below meth c T locs cells slots) (hx : p.tables.exec = Jvm.exec) (hZ : Z.Warmed39 s.vm) {own C : String} {index : Nat} {y z : MethodName} {bytes : ByteArray} {maxL : Nat} {ret : Option FieldType} {rm : Room} {as' : Array Value} {Qc : Option Value → Heap → List Loc → Prop} {argsL : List Value} {W : Nat} {a : Addr}
    (hown : s.vm.findClass own = some m.cls) (w1 : (Jvm.Cond.methodLink own index y).before a0 Z = true) (w2 : (Jvm.Cond.declares y).before a0 Z = true) (nf : NotFace s y) (w5 : (Jvm.Cond.selects C y z).before a0 Z = true) (w6 : (Jvm.Cond.instanceMethod z).before a0 Z = true) (w3 : (Jvm.Cond.initialized z.cls).before a0 Z = true) (w4 : (Jvm.Cond.code z bytes maxL ret).before a0 Z = true) (hy : y.cls ≠ "java/lang/invoke/MethodHandle" ∧ y.cls ≠ "java/lang/invoke/VarHandle")
    (hM : Met l Z z bytes maxL ret [] rm as' h Qc rm.cells rm.slots) (eT : T.heap = h) (E : Exa Z h a C) (hsz : Ls.size = c.maxLocals) (hlen : ∀ sig, parseMethodDescriptor y.desc = some sig → argsL.length = sig.parameters.length) (hst : st = argsL.reverse ++ .ref a :: rest) (has : (.ref a :: argsL).toArray = as') (hW : (rest.map fun v => v.category).sum = W)
    (hf : rm.frames + 1 ≤ R.frames) (hl : W + (maxL + 11) + rm.locals ≤ R.locals) (hcl : cells + rm.cells ≤ R.cells) (hsl : slots + rm.slots ≤ R.slots) (hd : decode c.code pc = .ok (.invokevirtual index, 3)) (hp : pc + 3 = pc')
    (r : ∀ (v : Option Value) (T' : State) (L : List Loc), Stand p l e R s m args below meth c T' (locs ++ L) (cells + rm.cells) (slots + rm.slots) → Qc v T'.heap L → Run p e below Q En T' (mkF m pc' Ls (v.toList ++ rest))) : Run p e below Q En T (mkF m pc Ls st) := by
  subst hp
  obtain ⟨cq, kq, qa, qb, qc⟩ := isOf hZ eT E
  obtain ⟨v, _, ⟨T', L', k', n'⟩, -, X', ⟨L, hQ, l1, y1, z1⟩, stp⟩ := X.virtualBack hx (y := y) (z := z) hown (mvT hZ w1) (mvT hZ w2) nf (mvT hZ w5) (mvT hZ w6) hy (backOf (W := W) hM hZ w4 w3 hf hl) qa qc (g := mkF m pc Ls st) rfl hsz (Steps.refl _) (argsL := argsL) (rest := rest) hlen hst (by show 2 * 0 + _ ≤ _; omega) hd (fun _ _ => ⟨has, eT, hcl, hsl⟩)
  dsimp only at X' l1 y1 z1 stp hQ
  subst l1 y1 z1
  exact (r v T' L X' hQ).on fun _ q => stp.trans q
theorem r_initO (X : Stand p l e R s m args below meth c T locs cells slots) (hx : p.tables.exec = Jvm.exec) (hZ : Z.Warmed39 s.vm) {own : String} {index : Nat} {a : Addr} {W : Nat}
    (hown : s.vm.findClass own = some m.cls) (w1 : (Jvm.Cond.methodLink own index Lib.objectInit).before a0 Z = true) (w2 : (Jvm.Cond.instanceMethod Lib.objectInit).before a0 Z = true) (w4 : (Jvm.Cond.code Lib.objectInit ⟨#[0xb1]⟩ 1 none).before a0 Z = true)
    (eT : T.heap = h) (hsz : Ls.size = c.maxLocals) (hf : 1 ≤ R.frames) (hW : (rest.map fun v => v.category).sum = W) (hl : W + 12 ≤ R.locals) (hd : decode c.code pc = .ok (.invokespecial index, 3)) (hp : pc + 3 = pc')
    (r : ∀ T', Stand p l e R s m args below meth c T' locs cells slots → T'.heap = h → Run p e below Q En T' (mkF m pc' Ls rest)) : Run p e below Q En T (mkF m pc Ls (.ref a :: rest)) := by
  subst hp
  obtain ⟨T', X', e', stp⟩ := initO X hx hZ hown w1 w2 w4 eT (g := mkF m pc Ls (.ref a :: rest)) rfl hsz rfl hd hf (W := W) (by show 2 * 0 + _ ≤ _; omega) hl
  exact (r T' X' e').on stp
theorem r_new (X : Stand p l e R s m args below meth c T locs cells slots) (hx : p.tables.exec = Jvm.exec) (hZ : Z.Warmed39 s.vm) {own C : String} {index n : Nat} (hown : s.vm.findClass own = some m.cls) (w : (Jvm.Cond.classLink own index C).before a0 Z = true) (wi : (Jvm.Cond.instantiable C n).before a0 Z = true) (wz : (Jvm.Cond.initialized C).before a0 Z = true) (eT : T.heap = h) (hc : cells + 1 ≤ R.cells) (hl : slots + n ≤ R.slots) (hd : decode c.code pc = .ok (.new index, 3)) (hp : pc + 3 = pc')
    (r : ∀ (T' : State) (h' : Heap) (a : Addr), a = h.size → Stand p l e R s m args below meth c T' locs (cells + 1) (slots + n) → T'.heap = h' → Ext h h' → Exa Z h' a C → (∀ {O nm d : String} {ty : FieldType}, Laid Z a0 C O nm d → parseFieldDescriptor d = some ty → Fld Z h' a O nm d (defaultValue ty)) → Run p e below Q En T' (mkF m pc' Ls (.ref a :: rest))) : Run p e below Q En T (mkF m pc Ls rest) := by
  subst hp
  obtain ⟨T', h', X', e', E', A', D', -, stp⟩ := newO X hx hZ hown w wi wz eT (g := mkF m pc Ls rest) rfl hd hc hl
  exact (r T' h' h.size rfl X' e' E' A' D').on stp
theorem r_getF (X : Stand p l e R s m args below meth c T locs cells slots) (hx : p.tables.exec = Jvm.exec) (hZ : Z.Warmed39 s.vm) {own R0 O n d : String} {index : Nat} {a : Addr} {v : Value} (hown : s.vm.findClass own = some m.cls) (w : (Jvm.Cond.fieldLink own index R0 n d).before a0 Z = true) (via : Via Z R0 O n d) (eT : T.heap = h) (F : Fld Z h a O n d v) (hd : decode c.code pc = .ok (.getfield index, 3)) (hp : pc + 3 = pc')
    (r : ∀ T', Stand p l e R s m args below meth c T' locs cells slots → T'.heap = h → Run p e below Q En T' (mkF m pc' Ls (v :: rest))) : Run p e below Q En T (mkF m pc Ls (.ref a :: rest)) := by
  subst hp
  obtain ⟨T', X', e', stp⟩ := getF X hx hZ hown (host := "") (Or.inl w) via eT F (g := mkF m pc Ls (.ref a :: rest)) rfl rfl hd
  exact (r T' X' e').on stp
theorem r_getFN (X : Stand p l e R s m args below meth c T locs cells slots) (hx : p.tables.exec = Jvm.exec) (hZ : Z.Warmed39 s.vm) {own R0 O n d host : String} {index : Nat} {a : Addr} {v : Value} (hown : s.vm.findClass own = some m.cls) (w : (Jvm.Cond.fieldLinkNest own index R0 n d host).before a0 Z = true) (via : Via Z R0 O n d) (eT : T.heap = h) (F : Fld Z h a O n d v) (hd : decode c.code pc = .ok (.getfield index, 3)) (hp : pc + 3 = pc')
    (r : ∀ T', Stand p l e R s m args below meth c T' locs cells slots → T'.heap = h → Run p e below Q En T' (mkF m pc' Ls (v :: rest))) : Run p e below Q En T (mkF m pc Ls (.ref a :: rest)) := by
  subst hp
  obtain ⟨T', X', e', stp⟩ := getF X hx hZ hown (Or.inr w) via eT F (g := mkF m pc Ls (.ref a :: rest)) rfl rfl hd
  exact (r T' X' e').on stp
theorem r_getS (X : Stand p l e R s m args below meth c T locs cells slots) (hx : p.tables.exec = Jvm.exec) (hZ : Z.Warmed39 s.vm) {own R0 O n d : String} {index : Nat} {v : Value} (hown : s.vm.findClass own = some m.cls) (w : (Jvm.Cond.fieldLink own index R0 n d).before a0 Z = true) (via : Via Z R0 O n d) (eT : T.heap = h) (F : Sta Z h O n d v) (hd : decode c.code pc = .ok (.getstatic index, 3)) (hp : pc + 3 = pc')
    (r : ∀ T', Stand p l e R s m args below meth c T' locs cells slots → T'.heap = h → Run p e below Q En T' (mkF m pc' Ls (v :: rest))) : Run p e below Q En T (mkF m pc Ls rest) := by
  subst hp
  obtain ⟨T', X', e', stp⟩ := getS2 X hx hZ hown (host := "") (Or.inl w) via eT F (g := mkF m pc Ls rest) rfl hd
  exact (r T' X' e').on stp
theorem r_putF (X : Stand p l e R s m args below meth c T locs cells slots) (hx : p.tables.exec = Jvm.exec) (hZ : Z.Warmed39 s.vm) {own R0 O n d C : String} {index kk : Nat} {ty : FieldType} {a : Addr} {v old : Value} (hown : s.vm.findClass own = some m.cls) (w : (Jvm.Cond.fieldLink own index R0 n d).before a0 Z = true) (via : Via Z R0 O n d) (eT : T.heap = h) (F : Fld Z h a O n d old) (E : Exa Z h a C) (L : (Jvm.Cond.lays C O n d).before a0 Z = true ∨ ((Jvm.Cond.laysFinal C O n d).before a0 Z = true ∧ own = O ∧ meth.name = "<init>")) (wi : (Jvm.Cond.instantiable C kk).before a0 Z = true) (hty : parseFieldDescriptor d = some ty) (hn : narrow ty v = v) (hf : fits ty v = true) (hd : decode c.code pc = .ok (.putfield index, 3)) (hp : pc + 3 = pc')
    (r : ∀ (T' : State) (h' : Heap), Stand p l e R s m args below meth c T' (locs ++ [⟨a, Jvm.RoadKit.slotOf Z O n d⟩]) cells slots → T'.heap = h' → Wr h h' a (Jvm.RoadKit.slotOf Z O n d) v → Run p e below Q En T' (mkF m pc' Ls rest)) : Run p e below Q En T (mkF m pc Ls (v :: .ref a :: rest)) := by
  subst hp
  obtain ⟨T', h', X', e', W', stp⟩ := putF X hx hZ hown (host := "") (Or.inl w) via eT F E L wi hty hn hf (g := mkF m pc Ls (v :: .ref a :: rest)) rfl rfl hd
  exact (r T' h' X' e' W').on stp
theorem r_newarray (X : Stand p l e R s m args below meth c T locs cells slots) (hx : p.tables.exec = Jvm.exec) (hZ : Z.Warmed39 s.vm) {aty : ArrayType} (w : (Jvm.Cond.arrayClass (newarray.typeOf aty)).before a0 Z = true) (eT : T.heap = h) {n : Int32} {cap : Nat} (hn : ¬ n < 0) (hcap : n.toNatClampNeg ≤ cap) (hb8 : cap * 8 ≤ 536870912) (hc : cells + 1 ≤ R.cells) (hl : slots + cap ≤ R.slots) (hd : decode c.code pc = .ok (.newarray aty, 2)) (hp : pc + 2 = pc')
    (r : ∀ (T' : State) (h' : Heap) (a : Addr) (cA : ClassId), a = h.size → Stand p l e R s m args below meth c T' locs (cells + 1) (slots + cap) → T'.heap = h' → Ext h h' → Arr Z h' a (newA cA (newarray.typeOf aty) n) (newarray.typeOf aty) → Run p e below Q En T' (mkF m pc' Ls (.ref a :: rest))) : Run p e below Q En T (mkF m pc Ls (.int n :: rest)) := by
  subst hp
  obtain ⟨T', h', cA, X', e', E', A', stp⟩ := newP X hx hZ w eT (g := mkF m pc Ls (.int n :: rest)) rfl hd rfl hn hcap hb8 hc hl
  exact (r T' h' h.size cA rfl X' e' E' A').on stp
theorem r_putFN (X : Stand p l e R s m args below meth c T locs cells slots) (hx : p.tables.exec = Jvm.exec) (hZ : Z.Warmed39 s.vm) {own R0 O n d C : String} {index kk : Nat} {ty : FieldType} {a : Addr} {v v' old : Value} (hown : s.vm.findClass own = some m.cls) (w : (Jvm.Cond.fieldLink own index R0 n d).before a0 Z = true) (via : Via Z R0 O n d) (eT : T.heap = h) (F : Fld Z h a O n d old) (E : Exa Z h a C) (L : (Jvm.Cond.lays C O n d).before a0 Z = true ∨ ((Jvm.Cond.laysFinal C O n d).before a0 Z = true ∧ own = O ∧ meth.name = "<init>")) (wi : (Jvm.Cond.instantiable C kk).before a0 Z = true) (hty : parseFieldDescriptor d = some ty) (hn : narrow ty v = v') (hf : fits ty v' = true) (hd : decode c.code pc = .ok (.putfield index, 3)) (hp : pc + 3 = pc')
    (r : ∀ (T' : State) (h' : Heap), Stand p l e R s m args below meth c T' (locs ++ [⟨a, Jvm.RoadKit.slotOf Z O n d⟩]) cells slots → T'.heap = h' → Wr h h' a (Jvm.RoadKit.slotOf Z O n d) v' → Run p e below Q En T' (mkF m pc' Ls rest)) : Run p e below Q En T (mkF m pc Ls (v :: .ref a :: rest)) := by
  subst hp
  obtain ⟨T', h', X', e', W', stp⟩ := putFN X hx hZ hown w via eT F E L wi hty hn hf (g := mkF m pc Ls (v :: .ref a :: rest)) rfl rfl hd
  exact (r T' h' X' e' W').on stp
theorem r_anewarray (X : Stand p l e R s m args below meth c T locs cells slots) (hx : p.tables.exec = Jvm.exec) (hZ : Z.Warmed39 s.vm) {own C : String} {index : Nat} (hown : s.vm.findClass own = some m.cls) (w1 : (Jvm.Cond.classLink own index C).before a0 Z = true) (w2 : (Jvm.Cond.arrayOver (.object C)).before a0 Z = true) (eT : T.heap = h) {n : Int32} {cap : Nat} (hn : ¬ n < 0) (hcap : n.toNatClampNeg ≤ cap) (hb8 : cap * 8 ≤ 536870912) (hc : cells + 1 ≤ R.cells) (hl : slots + cap ≤ R.slots) (hd : decode c.code pc = .ok (.anewarray index, 3)) (hp : pc + 3 = pc')
    (r : ∀ (T' : State) (h' : Heap) (a : Addr) (cA : ClassId), a = h.size → Stand p l e R s m args below meth c T' locs (cells + 1) (slots + cap) → T'.heap = h' → Ext h h' → Arr Z h' a (newA cA (.object C) n) (.object C) → Ovr Z cA C → Run p e below Q En T' (mkF m pc' Ls (.ref a :: rest))) : Run p e below Q En T (mkF m pc Ls (.int n :: rest)) := by
  subst hp
  obtain ⟨T', h', cA, X', e', E', A', O', stp⟩ := newR X hx hZ hown w1 w2 eT (g := mkF m pc Ls (.int n :: rest)) rfl hd rfl hn hcap hb8 hc hl
  exact (r T' h' h.size cA rfl X' e' E' A' O').on stp
theorem r_iastore (X : Stand p l e R s m args below meth c T locs cells slots) (hx : p.tables.exec = Jvm.exec) (hZ : Z.Warmed39 s.vm) (eT : T.heap = h) {a : Addr} {cl : Cell} {j : Int32} {x : Int32} (A : Arr Z h a cl .int) (hj : ¬ (j < 0 ∨ cl.slots.size ≤ j.toNatClampNeg)) (hd : decode c.code pc = .ok (.iastore, 1)) (hp : pc + 1 = pc')
    (r : ∀ (T' : State) (h' : Heap), Stand p l e R s m args below meth c T' (locs ++ [⟨a, j.toNatClampNeg⟩]) cells slots → T'.heap = h' → Wr h h' a j.toNatClampNeg (.int x) → Run p e below Q En T' (mkF m pc' Ls rest)) : Run p e below Q En T (mkF m pc Ls (.int x :: .int j :: .ref a :: rest)) := by
  subst hp
  obtain ⟨T', h', X', e', W', stp⟩ := stI X hx hZ eT A hj (g := mkF m pc Ls (.int x :: .int j :: .ref a :: rest)) rfl rfl hd
  exact (r T' h' X' e' W').on stp
theorem r_lastore (X : Stand p l e R s m args below meth c T locs cells slots) (hx : p.tables.exec = Jvm.exec) (hZ : Z.Warmed39 s.vm) (eT : T.heap = h) {a : Addr} {cl : Cell} {j : Int32} {x : Int64} (A : Arr Z h a cl .long) (hj : ¬ (j < 0 ∨ cl.slots.size ≤ j.toNatClampNeg)) (hd : decode c.code pc = .ok (.lastore, 1)) (hp : pc + 1 = pc')
    (r : ∀ (T' : State) (h' : Heap), Stand p l e R s m args below meth c T' (locs ++ [⟨a, j.toNatClampNeg⟩]) cells slots → T'.heap = h' → Wr h h' a j.toNatClampNeg (.long x) → Run p e below Q En T' (mkF m pc' Ls rest)) : Run p e below Q En T (mkF m pc Ls (.long x :: .int j :: .ref a :: rest)) := by
  subst hp
  obtain ⟨T', h', X', e', W', stp⟩ := stJ X hx hZ eT A hj (g := mkF m pc Ls (.long x :: .int j :: .ref a :: rest)) rfl rfl hd
  exact (r T' h' X' e' W').on stp
theorem r_castore (X : Stand p l e R s m args below meth c T locs cells slots) (hx : p.tables.exec = Jvm.exec) (hZ : Z.Warmed39 s.vm) (eT : T.heap = h) {a : Addr} {cl : Cell} {j x : Int32} (A : Arr Z h a cl .char) (hj : ¬ (j < 0 ∨ cl.slots.size ≤ j.toNatClampNeg)) (hd : decode c.code pc = .ok (.castore, 1)) (hp : pc + 1 = pc')
    (r : ∀ (T' : State) (h' : Heap), Stand p l e R s m args below meth c T' (locs ++ [⟨a, j.toNatClampNeg⟩]) cells slots → T'.heap = h' → Wr h h' a j.toNatClampNeg (.int (nar .char x)) → Run p e below Q En T' (mkF m pc' Ls rest)) : Run p e below Q En T (mkF m pc Ls (.int x :: .int j :: .ref a :: rest)) := by
  subst hp
  obtain ⟨T', h', X', e', W', stp⟩ := stC X hx hZ eT A hj (g := mkF m pc Ls (.int x :: .int j :: .ref a :: rest)) rfl rfl hd
  exact (r T' h' X' e' W').on stp
theorem r_sastore (X : Stand p l e R s m args below meth c T locs cells slots) (hx : p.tables.exec = Jvm.exec) (hZ : Z.Warmed39 s.vm) (eT : T.heap = h) {a : Addr} {cl : Cell} {j x : Int32} (A : Arr Z h a cl .short) (hj : ¬ (j < 0 ∨ cl.slots.size ≤ j.toNatClampNeg)) (hd : decode c.code pc = .ok (.sastore, 1)) (hp : pc + 1 = pc')
    (r : ∀ (T' : State) (h' : Heap), Stand p l e R s m args below meth c T' (locs ++ [⟨a, j.toNatClampNeg⟩]) cells slots → T'.heap = h' → Wr h h' a j.toNatClampNeg (.int (nar .short x)) → Run p e below Q En T' (mkF m pc' Ls rest)) : Run p e below Q En T (mkF m pc Ls (.int x :: .int j :: .ref a :: rest)) := by
  subst hp
  obtain ⟨T', h', X', e', W', stp⟩ := stS X hx hZ eT A hj (g := mkF m pc Ls (.int x :: .int j :: .ref a :: rest)) rfl rfl hd
  exact (r T' h' X' e' W').on stp
theorem r_bastoreB (X : Stand p l e R s m args below meth c T locs cells slots) (hx : p.tables.exec = Jvm.exec) (hZ : Z.Warmed39 s.vm) (eT : T.heap = h) {a : Addr} {cl : Cell} {j x : Int32} (A : Arr Z h a cl .byte) (hj : ¬ (j < 0 ∨ cl.slots.size ≤ j.toNatClampNeg)) (hd : decode c.code pc = .ok (.bastore, 1)) (hp : pc + 1 = pc')
    (r : ∀ (T' : State) (h' : Heap), Stand p l e R s m args below meth c T' (locs ++ [⟨a, j.toNatClampNeg⟩]) cells slots → T'.heap = h' → Wr h h' a j.toNatClampNeg (.int (nar .byte x)) → Run p e below Q En T' (mkF m pc' Ls rest)) : Run p e below Q En T (mkF m pc Ls (.int x :: .int j :: .ref a :: rest)) := by
  subst hp
  obtain ⟨T', h', X', e', W', stp⟩ := stB X hx hZ eT A hj (g := mkF m pc Ls (.int x :: .int j :: .ref a :: rest)) rfl rfl hd
  exact (r T' h' X' e' W').on stp
theorem r_bastoreZ (X : Stand p l e R s m args below meth c T locs cells slots) (hx : p.tables.exec = Jvm.exec) (hZ : Z.Warmed39 s.vm) (eT : T.heap = h) {a : Addr} {cl : Cell} {j x : Int32} (A : Arr Z h a cl .boolean) (hj : ¬ (j < 0 ∨ cl.slots.size ≤ j.toNatClampNeg)) (hd : decode c.code pc = .ok (.bastore, 1)) (hp : pc + 1 = pc')
    (r : ∀ (T' : State) (h' : Heap), Stand p l e R s m args below meth c T' (locs ++ [⟨a, j.toNatClampNeg⟩]) cells slots → T'.heap = h' → Wr h h' a j.toNatClampNeg (.int (nar .boolean x)) → Run p e below Q En T' (mkF m pc' Ls rest)) : Run p e below Q En T (mkF m pc Ls (.int x :: .int j :: .ref a :: rest)) := by
  subst hp
  obtain ⟨T', h', X', e', W', stp⟩ := stZ X hx hZ eT A hj (g := mkF m pc Ls (.int x :: .int j :: .ref a :: rest)) rfl rfl hd
  exact (r T' h' X' e' W').on stp
theorem r_arraylength (X : Stand p l e R s m args below meth c T locs cells slots) (hx : p.tables.exec = Jvm.exec) (hZ : Z.Warmed39 s.vm) (eT : T.heap = h) {a : Addr} {cl : Cell} {ty : FieldType} {n : Int32} (A : Arr Z h a cl ty) (hn : cl.slots.size.toInt32 = n) (hd : decode c.code pc = .ok (.arraylength, 1)) (hp : pc + 1 = pc') (r : Run p e below Q En T (mkF m pc' Ls (.int n :: rest))) : Run p e below Q En T (mkF m pc Ls (.ref a :: rest)) := by
  subst hp hn; exact r.on fun _ q => X.arraylength hx (by rw [eT]; exact A.1) (State.isArrayOf_alike hZ.alike A.2.1) (g := mkF m pc Ls (.ref a :: rest)) rfl rfl hd _ q
theorem r_iaload (X : Stand p l e R s m args below meth c T locs cells slots) (hx : p.tables.exec = Jvm.exec) (hZ : Z.Warmed39 s.vm) (eT : T.heap = h) {a : Addr} {cl : Cell} {j : Int32} {v : Int32} (A : Arr Z h a cl .int) (hj : ¬ (j < 0 ∨ cl.slots.size ≤ j.toNatClampNeg)) (hat : cl.slots[j.toNatClampNeg]? = some (.int v)) (hd : decode c.code pc = .ok (.iaload, 1)) (hp : pc + 1 = pc') (r : Run p e below Q En T (mkF m pc' Ls (.int v :: rest))) : Run p e below Q En T (mkF m pc Ls (.int j :: .ref a :: rest)) := by
  subst hp; exact r.on fun _ q => X.iaload hx (j := j) (v := .int v) (by rw [eT]; exact A.1) (State.isArrayOf_alike hZ.alike A.2.1) A.2.2 hj hat (g := mkF m pc Ls (.int j :: .ref a :: rest)) rfl rfl hd _ q
theorem r_caload (X : Stand p l e R s m args below meth c T locs cells slots) (hx : p.tables.exec = Jvm.exec) (hZ : Z.Warmed39 s.vm) (eT : T.heap = h) {a : Addr} {cl : Cell} {j : Int32} {v : Int32} (A : Arr Z h a cl .char) (hj : ¬ (j < 0 ∨ cl.slots.size ≤ j.toNatClampNeg)) (hat : cl.slots[j.toNatClampNeg]? = some (.int v)) (hd : decode c.code pc = .ok (.caload, 1)) (hp : pc + 1 = pc') (r : Run p e below Q En T (mkF m pc' Ls (.int v :: rest))) : Run p e below Q En T (mkF m pc Ls (.int j :: .ref a :: rest)) := by
  subst hp; exact r.on fun _ q => X.caload hx (j := j) (v := .int v) (by rw [eT]; exact A.1) (State.isArrayOf_alike hZ.alike A.2.1) A.2.2 hj hat (g := mkF m pc Ls (.int j :: .ref a :: rest)) rfl rfl hd _ q
theorem r_saload (X : Stand p l e R s m args below meth c T locs cells slots) (hx : p.tables.exec = Jvm.exec) (hZ : Z.Warmed39 s.vm) (eT : T.heap = h) {a : Addr} {cl : Cell} {j : Int32} {v : Int32} (A : Arr Z h a cl .short) (hj : ¬ (j < 0 ∨ cl.slots.size ≤ j.toNatClampNeg)) (hat : cl.slots[j.toNatClampNeg]? = some (.int v)) (hd : decode c.code pc = .ok (.saload, 1)) (hp : pc + 1 = pc') (r : Run p e below Q En T (mkF m pc' Ls (.int v :: rest))) : Run p e below Q En T (mkF m pc Ls (.int j :: .ref a :: rest)) := by
  subst hp; exact r.on fun _ q => X.saload hx (j := j) (v := .int v) (by rw [eT]; exact A.1) (State.isArrayOf_alike hZ.alike A.2.1) A.2.2 hj hat (g := mkF m pc Ls (.int j :: .ref a :: rest)) rfl rfl hd _ q
theorem r_baload (X : Stand p l e R s m args below meth c T locs cells slots) (hx : p.tables.exec = Jvm.exec) (hZ : Z.Warmed39 s.vm) (eT : T.heap = h) {a : Addr} {cl : Cell} {j : Int32} {v : Int32} (A : Arr Z h a cl .byte) (hj : ¬ (j < 0 ∨ cl.slots.size ≤ j.toNatClampNeg)) (hat : cl.slots[j.toNatClampNeg]? = some (.int v)) (hd : decode c.code pc = .ok (.baload, 1)) (hp : pc + 1 = pc') (r : Run p e below Q En T (mkF m pc' Ls (.int v :: rest))) : Run p e below Q En T (mkF m pc Ls (.int j :: .ref a :: rest)) := by
  subst hp; exact r.on fun _ q => X.baloadBytes hx (j := j) (v := .int v) (by rw [eT]; exact A.1) (State.isArrayOf_alike hZ.alike A.2.1) A.2.2 hj hat (g := mkF m pc Ls (.int j :: .ref a :: rest)) rfl rfl hd _ q
theorem r_baloadZ (X : Stand p l e R s m args below meth c T locs cells slots) (hx : p.tables.exec = Jvm.exec) (hZ : Z.Warmed39 s.vm) (eT : T.heap = h) {a : Addr} {cl : Cell} {j : Int32} {v : Int32} (A : Arr Z h a cl .boolean) (hj : ¬ (j < 0 ∨ cl.slots.size ≤ j.toNatClampNeg)) (hat : cl.slots[j.toNatClampNeg]? = some (.int v)) (hd : decode c.code pc = .ok (.baload, 1)) (hp : pc + 1 = pc') (r : Run p e below Q En T (mkF m pc' Ls (.int v :: rest))) : Run p e below Q En T (mkF m pc Ls (.int j :: .ref a :: rest)) := by
  subst hp; exact r.on fun _ q => X.baloadBooleans hx (j := j) (v := .int v) (by rw [eT]; exact A.1) (State.isArrayOf_alike hZ.alike A.2.1) A.2.2 hj hat (g := mkF m pc Ls (.int j :: .ref a :: rest)) rfl rfl hd _ q
theorem r_laload (X : Stand p l e R s m args below meth c T locs cells slots) (hx : p.tables.exec = Jvm.exec) (hZ : Z.Warmed39 s.vm) (eT : T.heap = h) {a : Addr} {cl : Cell} {j : Int32} {v : Int64} (A : Arr Z h a cl .long) (hj : ¬ (j < 0 ∨ cl.slots.size ≤ j.toNatClampNeg)) (hat : cl.slots[j.toNatClampNeg]? = some (.long v)) (hd : decode c.code pc = .ok (.laload, 1)) (hp : pc + 1 = pc') (r : Run p e below Q En T (mkF m pc' Ls (.long v :: rest))) : Run p e below Q En T (mkF m pc Ls (.int j :: .ref a :: rest)) := by
  subst hp; exact r.on fun _ q => X.laload hx (j := j) (v := .long v) (by rw [eT]; exact A.1) (State.isArrayOf_alike hZ.alike A.2.1) A.2.2 hj hat (g := mkF m pc Ls (.int j :: .ref a :: rest)) rfl rfl hd _ q
theorem r_ldcS {vm0 : Vm} {k0 nn : Nat} (X : Stand p l e R (s.setVm vm0) m args below meth c T locs cells slots) (hx : p.tables.exec = Jvm.exec) (hZ : Z.Warmed39 vm0) {own text : String} {index : Nat} (hown : vm0.findClass own = some m.cls) (w : (Jvm.Cond.stringLink own index text).before a0 Z = true) (wS : ∀ a ∈ Bundle.stringAtoms, a.before a0 Z = true) (eT : T.heap = h) (hS : s.Since vm0 k0) (hk : k0 ≤ h.size) (hn : 4 * text.toList.length ≤ nn) (hbig : nn ≤ 536870912) (hc : cells + 2 ≤ R.cells) (hl : slots + (nn + 4) ≤ R.slots) (hd : decode c.code pc = .ok (.ldc index, 2)) (hp : pc + 2 = pc')
    (r : ∀ (a : Addr) (T' : State) (h' : Heap) (k1 : Nat), Stand p l e R (s.setVm T'.vm) m args below meth c T' locs (cells + 2) (slots + (nn + 4)) → T'.heap = h' → Ext h h' → s.Since T'.vm k1 → k1 ≤ h'.size → Z.Warmed39 (s.setVm T'.vm).vm → (s.setVm T'.vm).vm.findClass own = some m.cls → Run p e below Q En T' (mkF m pc' Ls (.ref a :: rest))) : Run p e below Q En T (mkF m pc Ls rest) := by
  subst hp
  obtain ⟨a, T', h', k1, X', e', E', hS', hk', hZ', ho', stp⟩ := ldcS X hx hZ hown w wS eT hS hk (g := mkF m pc Ls rest) rfl hd hn hbig hc hl
  exact (r a T' h' k1 X' e' E' hS' hk' hZ' ho').on stp
theorem w_retN {vm1 : Vm} {k1 : Nat} (X : Stand p l e R (s.setVm vm1) m args below meth c T locs cells slots) (hS : s.Since vm1 k1) (hk : k1 ≤ T.heap.size) (hx : p.tables.exec = Jvm.exec) (hlk : meth.locks = false) {t : FieldType} {z w : Int32} (hret : meth.sig.returnType = some t) (ht : t = .boolean ∨ t = .byte ∨ t = .char ∨ t = .short) (hd : decode c.code pc = .ok (.ireturn, 1)) (hn : nar t z = w) (hq : Q (some (.int w)) T.heap locs) (h1 : cells ≤ kc) (h2 : slots ≤ ks) : Run p e below Q (fun o t L => ReturnedEndW s o t L kc ks) T (mkF m pc Ls (.int z :: rest)) := by
  subst hn
  obtain ⟨fs, hr, hrun, hended, h4, h5, h6, h7⟩ := X.leaveW hS hk (v := some (.int (nar t z))) (fun q => by rw [hret] at q; cases q) hlk
  exact ⟨_, _, retN X hx hret ht hd hr, hrun, hended, _, _, rfl, hq, h4, h5, h6, h7.mono h1 h2⟩
theorem w_retV {vm1 : Vm} {k1 : Nat} (X : Stand p l e R (s.setVm vm1) m args below meth c T locs cells slots) (hS : s.Since vm1 k1) (hk : k1 ≤ T.heap.size) (hx : p.tables.exec = Jvm.exec) (hlk : meth.locks = false) {t : FieldType} {w : Value} {i : Instr} (hret : meth.sig.returnType = some t) (hn : narrow t w = w)
    (hi : (i = .ireturn ∧ (t = .int ∨ t = .boolean ∨ t = .byte ∨ t = .char ∨ t = .short) ∧ ∃ z, w = .int z) ∨ (i = .lreturn ∧ t = .long ∧ ∃ z, w = .long z) ∨ (i = .dreturn ∧ t = .double ∧ ∃ z, w = .double z) ∨ (i = .freturn ∧ t = .float ∧ ∃ z, w = .float z) ∨ (i = .areturn ∧ t.isReference = true ∧ w.isRef = true))
    (hd : decode c.code pc = .ok (i, 1)) (hq : Q (some w) T.heap locs) (h1 : cells ≤ kc) (h2 : slots ≤ ks) : Run p e below Q (fun o t L => ReturnedEndW s o t L kc ks) T (mkF m pc Ls (w :: rest)) := by
  obtain ⟨fs, hr, hrun, hended, h4, h5, h6, h7⟩ := X.leaveW hS hk (v := some w) (fun q => by rw [hret] at q; cases q) hlk
  exact ⟨_, _, retOut X hx hret hn hi hd hr, hrun, hended, _, _, rfl, hq, h4, h5, h6, h7.mono h1 h2⟩
theorem w_ret0 {vm1 : Vm} {k1 : Nat} (X : Stand p l e R (s.setVm vm1) m args below meth c T locs cells slots) (hS : s.Since vm1 k1) (hk : k1 ≤ T.heap.size) (hx : p.tables.exec = Jvm.exec) (hlk : meth.locks = false) (hret : meth.sig.returnType = none) (hd : decode c.code pc = .ok (.return_, 1)) (hq : Q none T.heap locs) (h1 : cells ≤ kc) (h2 : slots ≤ ks) : Run p e below Q (fun o t L => ReturnedEndW s o t L kc ks) T (mkF m pc Ls []) := by
  obtain ⟨fs, hr, hrun, hended, h4, h5, h6, h7⟩ := X.leaveW hS hk (v := none) (fun _ => rfl) hlk
  exact ⟨_, _, X.returnOut hx hret hd hr, hrun, hended, _, _, rfl, hq, h4, h5, h6, h7.mono h1 h2⟩
abbrev MetW (l : Launch) (Z : State) (y : MethodName) (bytes : ByteArray) (maxL : Nat) (ret : Option FieldType) (ws : List Jvm.Cond) (rm : Room) (as' : Array Value) (h0 : Heap) (Q : Option Value → Heap → List Loc → Prop) (kc ks : Nat) : Prop :=
  MetFree l y (head1 (Jvm.Cond.code y bytes maxL ret :: ws) rm) (fun a U => a = as' ∧ Z.Warmed39 U.vm ∧ U.heap = h0) (fun _ _ _ _ _ => True) (fun _ U o U' => ∃ v L, o = .returned v ∧ Q v U'.heap L ∧ ReturnedEndW U o U' L kc ks)
theorem metW_of {y : MethodName} {bytes : ByteArray} {maxL : Nat} {ret : Option FieldType} {ws : List Jvm.Cond} {rm : Room} {as' : Array Value} {h0 : Heap} {Q : Option Value → Heap → List Loc → Prop} {kc ks : Nat} {f0 : MethodId → JFrame} (hpn : plainFor y = true)
    (hef : ∀ m, entryFrame m as' maxL = f0 m)
    (body : ∀ (p : Program) (e : Env) (s : State) (m : MethodId) (below : List Frame) (meth : Method) (c : Code) (s₁ : State), Stand p l e rm s m as' below meth c s₁ [] 0 0 → p.tables.exec = Jvm.exec → c.code = bytes → c.maxLocals = maxL → meth.sig.returnType = ret → meth.locks = false → s.vm.findClass y.cls = some m.cls → meth.name = y.name → Z.Warmed39 s.vm → s₁.heap = h0 → Run p e below Q (fun o t L => ReturnedEndW s o t L kc ks) s₁ (f0 m)) :
    MetW l Z y bytes maxL ret ws rm as' h0 Q kc ks := by
  refine MetFree.of_bodySF (code := bytes) (maxLocals := maxL) (ret := ret) hpn hisR ?_
  intro p e s m args below meth c s₁ Bd hml0 hP hK
  obtain ⟨rfl, hZ, hh⟩ := hP
  obtain ⟨s₂, o, r⟩ := body p e s m below meth c s₁ (Stand.of_body Bd) Bd.exec Bd.bytes hml0 Bd.returns (BodyLoose.notSynchronized Bd) (findClass_of_methodNamed Bd.named) (name_of_methodNamed Bd.named Bd.method).1 hZ (by rw [← hh, Bd.state]; rfl)
  rw [hef m]
  exact ⟨s₂, o, r⟩
theorem r_callP (X : Stand p l e R s m args below meth c T locs cells slots) (hx : p.tables.exec = Jvm.exec) (hZ : Z.Warmed39 s.vm) {own C : String} {index kk : Nat} {y : MethodName} {bytes : ByteArray} {maxL : Nat} {ret : Option FieldType} {rm : Room} {as' : Array Value} {Qc : Option Value → Heap → List Loc → Prop} {argsL : List Value} {W : Nat} {a : Addr}
    (hown : s.vm.findClass own = some m.cls) (w1 : (Jvm.Cond.methodLink own index y).before a0 Z = true) (w2 : (Jvm.Cond.instanceMethod y).before a0 Z = true) (wp : (Jvm.Cond.privateMethod y).before a0 Z = true) (wi : (Jvm.Cond.instantiable y.cls kk).before a0 Z = true) (w3 : (Jvm.Cond.initialized y.cls).before a0 Z = true) (w4 : (Jvm.Cond.code y bytes maxL ret).before a0 Z = true) (hy : y.cls ≠ "java/lang/invoke/MethodHandle" ∧ y.cls ≠ "java/lang/invoke/VarHandle")
    (hM : Met l Z y bytes maxL ret [] rm as' h Qc rm.cells rm.slots) (eT : T.heap = h) (E : Exa Z h a C) (hsz : Ls.size = c.maxLocals) (hlen : ∀ sig, parseMethodDescriptor y.desc = some sig → argsL.length = sig.parameters.length) (hst : st = argsL.reverse ++ .ref a :: rest) (has : (.ref a :: argsL).toArray = as') (hW : (rest.map fun v => v.category).sum = W)
    (hf : rm.frames + 1 ≤ R.frames) (hl : W + (maxL + 11) + rm.locals ≤ R.locals) (hcl : cells + rm.cells ≤ R.cells) (hsl : slots + rm.slots ≤ R.slots) (hd : decode c.code pc = .ok (.invokevirtual index, 3)) (hp : pc + 3 = pc')
    (r : ∀ (v : Option Value) (T' : State) (L : List Loc), Stand p l e R s m args below meth c T' (locs ++ L) (cells + rm.cells) (slots + rm.slots) → Qc v T'.heap L → Run p e below Q En T' (mkF m pc' Ls (v.toList ++ rest))) : Run p e below Q En T (mkF m pc Ls st) := by
  subst hp
  obtain ⟨cq, q, q'⟩ := E.cell
  obtain ⟨c2, k2, i1, i2, -, i4, -⟩ := Cond.instantiable_spec (mvT (args := args) hZ wi)
  have hpr : s.PrivateAt y := Cond.privateMethod_at (mvP (args := args) hZ wp)
  have hsel : (Jvm.Cond.selects y.cls y y).before args s = true := selects_self_of_private i1 i2 (by simpa using (Bool.or_eq_false_iff.mp i4).1) hpr (mvT hZ w2) hy
  obtain ⟨v, _, ⟨T', L', k', n'⟩, -, X', ⟨L, hQ, l1, y1, z1⟩, stp⟩ := X.privateBack hx (y := y) hown (mvT hZ w1) (mvT hZ w2) hsel hpr (mvT hZ w4) hy (backOf (W := W) hM hZ w4 w3 hf hl) (g := mkF m pc Ls st) rfl hsz (Steps.refl _) (a := a) (by rw [eT]; exact q) q' (argsL := argsL) (rest := rest) hlen hst (by show 2 * 0 + _ ≤ _; omega) hd (fun _ _ => ⟨has, eT, hcl, hsl⟩)
  dsimp only at X' l1 y1 z1 stp hQ
  subst l1 y1 z1
  exact (r v T' L X' hQ).on fun _ q => stp.trans q
theorem r_dup_x2 (at_ : At T m c below) (hx : p.tables.exec = Jvm.exec) {x y z : Value} (hd : decode c.code pc = .ok (.dup_x2, 1)) (hc : x.category = 1) (hc' : y.category = 1) (hc'' : z.category = 1) (hp : pc + 1 = pc') (r : Run p e below Q En T (mkF m pc' Ls (x :: y :: z :: x :: rest))) : Run p e below Q En T (mkF m pc Ls (x :: y :: z :: rest)) := by
  subst hp
  refine r.on fun t q => ?_
  show Steps p.tables e below (T.setTop { method := m, pc := pc, locals := Ls, stack := x :: y :: z :: rest, locked := none }) _
  jvm_step at_ [at_.top, hx, hd, hc, hc', hc'']
  exact q
end Core
section Arrays
variable {p : Program} {l : Launch} {e : Env} {R : Room} {s : State} {m : MethodId} {args : Array Value} {below : List Frame} {meth : Method} {c : Code} {T T' : State} {locs : List Loc} {cells slots : Nat} {Q : Option Value → Heap → List Loc → Prop} {En : Outcome → State → List Loc → Prop} {kc ks : Nat} {Z : State} {a0 : Array Value} {h h' : Heap} {Ls : Array Slot} {st rest : List Value} {pc pc' : Nat} {a b : Addr} {ty : FieldType} {n : Nat} {f g : Nat → Value} {F : Nat → Int32} {sl : Nat} {v : Value} {j : Int32}
/-- an array of n places and what lies in each -/
def Ary (Z : State) (h : Heap) (a : Addr) (ty : FieldType) (n : Nat) (f : Nat → Value) : Prop := ∃ c : Cell, Arr Z h a c ty ∧ c.slots.size = n ∧ ∀ i, i < n → c.slots[i]? = some (f i)
theorem Ary.lt (A : Ary Z h a ty n f) : a < h.size := by obtain ⟨c, A, -⟩ := A; exact A.lt
theorem Ary.ext (A : Ary Z h a ty n f) (E : Ext h h') : Ary Z h' a ty n f := by obtain ⟨c, A, r⟩ := A; exact ⟨c, A.ext E, r⟩
theorem Ary.other (A : Ary Z h b ty n f) (W : Wr h h' a sl v) (q : b ≠ a) : Ary Z h' b ty n f := by obtain ⟨c, A, r⟩ := A; exact ⟨c, A.other W q, r⟩
theorem Ary.keep {ws : List Addr} (A : Ary Z h a ty n f) (K : Keep h h' ws) (q : a ∉ ws) : Ary Z h' a ty n f := by obtain ⟨c, A, r⟩ := A; exact ⟨c, ⟨K.2.1 a c A.1 q, A.2⟩, r⟩
theorem Ary.congr (A : Ary Z h a ty n f) (q : ∀ i, i < n → f i = g i) : Ary Z h a ty n g := by obtain ⟨c, A, r1, r2⟩ := A; exact ⟨c, A, r1, fun i hi => by rw [r2 i hi, q i hi]⟩
theorem Ary.set (A : Ary Z h a ty n f) (W : Wr h h' a j.toNatClampNeg v) : Ary Z h' a ty n (fun i => if i = j.toInt.toNat then v else f i) := by
  obtain ⟨c, A, r1, r2⟩ := A
  refine ⟨_, A.same W, by rw [sz_set]; exact r1, fun i hi => ?_⟩
  show (c.slots.setIfInBounds j.toNatClampNeg v)[i]? = _
  have ej : j.toNatClampNeg = j.toInt.toNat := rfl
  by_cases q : i = j.toInt.toNat
  · simp only [q, if_true]; rw [← ej]; rw [ej, ← q]; simp [Array.getElem?_setIfInBounds, r1, hi]
  · simp only [q, if_false]; rw [Array.getElem?_setIfInBounds_ne (by rw [ej]; exact fun y => q y.symm)]; exact r2 i hi
theorem Ary.setI {x : Int32} (A : Ary Z h a ty n (fun i => .int (F i))) (W : Wr h h' a j.toNatClampNeg (.int x)) : Ary Z h' a ty n (fun i => .int (if i = j.toInt.toNat then x else F i)) :=
  (A.set W).congr fun i _ => by
    by_cases q : i = j.toInt.toNat
    · simp only [if_pos q]
    · simp only [if_neg q]
theorem Ary.setJ {x : Int64} {F : Nat → Int64} (A : Ary Z h a ty n (fun i => .long (F i))) (W : Wr h h' a j.toNatClampNeg (.long x)) : Ary Z h' a ty n (fun i => .long (if i = j.toInt.toNat then x else F i)) :=
  (A.set W).congr fun i _ => by
    by_cases q : i = j.toInt.toNat
    · simp only [if_pos q]
    · simp only [if_neg q]
theorem Ary.new {cA : ClassId} {z : Int32} (A : Arr Z h a (newA cA ty z) ty) (hz : z.toInt.toNat = n) : Ary Z h a ty n (fun _ => defaultValue ty) := by
  have ej : z.toNatClampNeg = z.toInt.toNat := rfl
  refine ⟨_, A, by rw [sz_new]; exact hz, fun i hi => ?_⟩
  show (Array.replicate z.toNatClampNeg (defaultValue ty))[i]? = _
  rw [ej, hz]; simp [hi]
theorem own_inb {cl : Cell} (h1 : cl.slots.size = n) (h0 : 0 ≤ j.toInt) (h2 : j.toInt < n) : ¬ (j < 0 ∨ cl.slots.size ≤ j.toNatClampNeg) := by
  rw [Int32.lt_iff_toInt_lt, show (0 : Int32).toInt = 0 from rfl]
  have ej : j.toNatClampNeg = j.toInt.toNat := rfl
  omega
theorem own_at {cl : Cell} (h3 : ∀ i, i < n → cl.slots[i]? = some (f i)) (h0 : 0 ≤ j.toInt) (h2 : j.toInt < n) (hv : f j.toInt.toNat = v) : cl.slots[j.toNatClampNeg]? = some v := by
  rw [← hv]; exact h3 _ (show j.toInt.toNat < n by omega)
theorem r_len (X : Stand p l e R s m args below meth c T locs cells slots) (hx : p.tables.exec = Jvm.exec) (hZ : Z.Warmed39 s.vm) (eT : T.heap = h) {z : Int32} (A : Ary Z h a ty n f) (hn : z.toInt = n) (hd : decode c.code pc = .ok (.arraylength, 1)) (hp : pc + 1 = pc') (r : Run p e below Q En T (mkF m pc' Ls (.int z :: rest))) : Run p e below Q En T (mkF m pc Ls (.ref a :: rest)) := by
  obtain ⟨cl, A, r1, -⟩ := A
  refine r_arraylength X hx hZ eT A ?_ hd hp r
  rw [r1]
  have q : z.toInt.toNat = n := by omega
  rw [← q]
  exact (back32 (n := z) (by rw [Int32.lt_iff_toInt_lt, show (0 : Int32).toInt = 0 from rfl]; omega)).1
theorem q_iaload (X : Stand p l e R s m args below meth c T locs cells slots) (hx : p.tables.exec = Jvm.exec) (hZ : Z.Warmed39 s.vm) (eT : T.heap = h) {v : Int32} (A : Ary Z h a .int n f) (h0 : 0 ≤ j.toInt) (h1 : j.toInt < n) (hv : f j.toInt.toNat = .int v) (hd : decode c.code pc = .ok (.iaload, 1)) (hp : pc + 1 = pc') (r : Run p e below Q En T (mkF m pc' Ls (.int v :: rest))) : Run p e below Q En T (mkF m pc Ls (.int j :: .ref a :: rest)) := by
  obtain ⟨cl, A, r1, r2⟩ := A
  exact r_iaload X hx hZ eT A (own_inb r1 h0 h1) (own_at r2 h0 h1 hv) hd hp r
theorem q_caload (X : Stand p l e R s m args below meth c T locs cells slots) (hx : p.tables.exec = Jvm.exec) (hZ : Z.Warmed39 s.vm) (eT : T.heap = h) {v : Int32} (A : Ary Z h a .char n f) (h0 : 0 ≤ j.toInt) (h1 : j.toInt < n) (hv : f j.toInt.toNat = .int v) (hd : decode c.code pc = .ok (.caload, 1)) (hp : pc + 1 = pc') (r : Run p e below Q En T (mkF m pc' Ls (.int v :: rest))) : Run p e below Q En T (mkF m pc Ls (.int j :: .ref a :: rest)) := by
  obtain ⟨cl, A, r1, r2⟩ := A
  exact r_caload X hx hZ eT A (own_inb r1 h0 h1) (own_at r2 h0 h1 hv) hd hp r
theorem q_saload (X : Stand p l e R s m args below meth c T locs cells slots) (hx : p.tables.exec = Jvm.exec) (hZ : Z.Warmed39 s.vm) (eT : T.heap = h) {v : Int32} (A : Ary Z h a .short n f) (h0 : 0 ≤ j.toInt) (h1 : j.toInt < n) (hv : f j.toInt.toNat = .int v) (hd : decode c.code pc = .ok (.saload, 1)) (hp : pc + 1 = pc') (r : Run p e below Q En T (mkF m pc' Ls (.int v :: rest))) : Run p e below Q En T (mkF m pc Ls (.int j :: .ref a :: rest)) := by
  obtain ⟨cl, A, r1, r2⟩ := A
  exact r_saload X hx hZ eT A (own_inb r1 h0 h1) (own_at r2 h0 h1 hv) hd hp r
theorem q_baload (X : Stand p l e R s m args below meth c T locs cells slots) (hx : p.tables.exec = Jvm.exec) (hZ : Z.Warmed39 s.vm) (eT : T.heap = h) {v : Int32} (A : Ary Z h a .byte n f) (h0 : 0 ≤ j.toInt) (h1 : j.toInt < n) (hv : f j.toInt.toNat = .int v) (hd : decode c.code pc = .ok (.baload, 1)) (hp : pc + 1 = pc') (r : Run p e below Q En T (mkF m pc' Ls (.int v :: rest))) : Run p e below Q En T (mkF m pc Ls (.int j :: .ref a :: rest)) := by
  obtain ⟨cl, A, r1, r2⟩ := A
  exact r_baload X hx hZ eT A (own_inb r1 h0 h1) (own_at r2 h0 h1 hv) hd hp r
theorem q_baloadZ (X : Stand p l e R s m args below meth c T locs cells slots) (hx : p.tables.exec = Jvm.exec) (hZ : Z.Warmed39 s.vm) (eT : T.heap = h) {v : Int32} (A : Ary Z h a .boolean n f) (h0 : 0 ≤ j.toInt) (h1 : j.toInt < n) (hv : f j.toInt.toNat = .int v) (hd : decode c.code pc = .ok (.baload, 1)) (hp : pc + 1 = pc') (r : Run p e below Q En T (mkF m pc' Ls (.int v :: rest))) : Run p e below Q En T (mkF m pc Ls (.int j :: .ref a :: rest)) := by
  obtain ⟨cl, A, r1, r2⟩ := A
  exact r_baloadZ X hx hZ eT A (own_inb r1 h0 h1) (own_at r2 h0 h1 hv) hd hp r
theorem q_laload (X : Stand p l e R s m args below meth c T locs cells slots) (hx : p.tables.exec = Jvm.exec) (hZ : Z.Warmed39 s.vm) (eT : T.heap = h) {v : Int64} (A : Ary Z h a .long n f) (h0 : 0 ≤ j.toInt) (h1 : j.toInt < n) (hv : f j.toInt.toNat = .long v) (hd : decode c.code pc = .ok (.laload, 1)) (hp : pc + 1 = pc') (r : Run p e below Q En T (mkF m pc' Ls (.long v :: rest))) : Run p e below Q En T (mkF m pc Ls (.int j :: .ref a :: rest)) := by
  obtain ⟨cl, A, r1, r2⟩ := A
  exact r_laload X hx hZ eT A (own_inb r1 h0 h1) (own_at r2 h0 h1 hv) hd hp r
theorem q_iastore (X : Stand p l e R s m args below meth c T locs cells slots) (hx : p.tables.exec = Jvm.exec) (hZ : Z.Warmed39 s.vm) (eT : T.heap = h) {x : Int32} {F : Nat → Int32} (A : Ary Z h a .int n (fun i => .int (F i))) (h0 : 0 ≤ j.toInt) (h1 : j.toInt < n) (hd : decode c.code pc = .ok (.iastore, 1)) (hp : pc + 1 = pc')
    (r : ∀ (T' : State) (h' : Heap), Stand p l e R s m args below meth c T' (locs ++ [⟨a, j.toNatClampNeg⟩]) cells slots → T'.heap = h' → Wr h h' a j.toNatClampNeg (.int x) → Ary Z h' a .int n (fun i => .int (if i = j.toInt.toNat then x else F i)) → Run p e below Q En T' (mkF m pc' Ls rest)) : Run p e below Q En T (mkF m pc Ls (.int x :: .int j :: .ref a :: rest)) := by
  have A' := A
  obtain ⟨cl, A, r1, r2⟩ := A
  exact r_iastore X hx hZ eT A (own_inb r1 h0 h1) hd hp fun T' h' X' e' W' => r T' h' X' e' W' (A'.setI W')
theorem q_lastore (X : Stand p l e R s m args below meth c T locs cells slots) (hx : p.tables.exec = Jvm.exec) (hZ : Z.Warmed39 s.vm) (eT : T.heap = h) {x : Int64} {F : Nat → Int64} (A : Ary Z h a .long n (fun i => .long (F i))) (h0 : 0 ≤ j.toInt) (h1 : j.toInt < n) (hd : decode c.code pc = .ok (.lastore, 1)) (hp : pc + 1 = pc')
    (r : ∀ (T' : State) (h' : Heap), Stand p l e R s m args below meth c T' (locs ++ [⟨a, j.toNatClampNeg⟩]) cells slots → T'.heap = h' → Wr h h' a j.toNatClampNeg (.long x) → Ary Z h' a .long n (fun i => .long (if i = j.toInt.toNat then x else F i)) → Run p e below Q En T' (mkF m pc' Ls rest)) : Run p e below Q En T (mkF m pc Ls (.long x :: .int j :: .ref a :: rest)) := by
  have A' := A
  obtain ⟨cl, A, r1, r2⟩ := A
  exact r_lastore X hx hZ eT A (own_inb r1 h0 h1) hd hp fun T' h' X' e' W' => r T' h' X' e' W' (A'.setJ W')
theorem q_castore (X : Stand p l e R s m args below meth c T locs cells slots) (hx : p.tables.exec = Jvm.exec) (hZ : Z.Warmed39 s.vm) (eT : T.heap = h) {x w : Int32} (A : Ary Z h a .char n (fun i => .int (F i))) (h0 : 0 ≤ j.toInt) (h1 : j.toInt < n) (hn : nar .char x = w) (hd : decode c.code pc = .ok (.castore, 1)) (hp : pc + 1 = pc')
    (r : ∀ (T' : State) (h' : Heap), Stand p l e R s m args below meth c T' (locs ++ [⟨a, j.toNatClampNeg⟩]) cells slots → T'.heap = h' → Wr h h' a j.toNatClampNeg (.int w) → Ary Z h' a .char n (fun i => .int (if i = j.toInt.toNat then w else F i)) → Run p e below Q En T' (mkF m pc' Ls rest)) : Run p e below Q En T (mkF m pc Ls (.int x :: .int j :: .ref a :: rest)) := by
  subst hn
  have A' := A
  obtain ⟨cl, A, r1, r2⟩ := A
  exact r_castore X hx hZ eT A (own_inb r1 h0 h1) hd hp fun T' h' X' e' W' => r T' h' X' e' W' (A'.setI W')
theorem q_sastore (X : Stand p l e R s m args below meth c T locs cells slots) (hx : p.tables.exec = Jvm.exec) (hZ : Z.Warmed39 s.vm) (eT : T.heap = h) {x w : Int32} (A : Ary Z h a .short n (fun i => .int (F i))) (h0 : 0 ≤ j.toInt) (h1 : j.toInt < n) (hn : nar .short x = w) (hd : decode c.code pc = .ok (.sastore, 1)) (hp : pc + 1 = pc')
    (r : ∀ (T' : State) (h' : Heap), Stand p l e R s m args below meth c T' (locs ++ [⟨a, j.toNatClampNeg⟩]) cells slots → T'.heap = h' → Wr h h' a j.toNatClampNeg (.int w) → Ary Z h' a .short n (fun i => .int (if i = j.toInt.toNat then w else F i)) → Run p e below Q En T' (mkF m pc' Ls rest)) : Run p e below Q En T (mkF m pc Ls (.int x :: .int j :: .ref a :: rest)) := by
  subst hn
  have A' := A
  obtain ⟨cl, A, r1, r2⟩ := A
  exact r_sastore X hx hZ eT A (own_inb r1 h0 h1) hd hp fun T' h' X' e' W' => r T' h' X' e' W' (A'.setI W')
theorem q_bastoreB (X : Stand p l e R s m args below meth c T locs cells slots) (hx : p.tables.exec = Jvm.exec) (hZ : Z.Warmed39 s.vm) (eT : T.heap = h) {x w : Int32} (A : Ary Z h a .byte n (fun i => .int (F i))) (h0 : 0 ≤ j.toInt) (h1 : j.toInt < n) (hn : nar .byte x = w) (hd : decode c.code pc = .ok (.bastore, 1)) (hp : pc + 1 = pc')
    (r : ∀ (T' : State) (h' : Heap), Stand p l e R s m args below meth c T' (locs ++ [⟨a, j.toNatClampNeg⟩]) cells slots → T'.heap = h' → Wr h h' a j.toNatClampNeg (.int w) → Ary Z h' a .byte n (fun i => .int (if i = j.toInt.toNat then w else F i)) → Run p e below Q En T' (mkF m pc' Ls rest)) : Run p e below Q En T (mkF m pc Ls (.int x :: .int j :: .ref a :: rest)) := by
  subst hn
  have A' := A
  obtain ⟨cl, A, r1, r2⟩ := A
  exact r_bastoreB X hx hZ eT A (own_inb r1 h0 h1) hd hp fun T' h' X' e' W' => r T' h' X' e' W' (A'.setI W')
theorem q_bastoreZ (X : Stand p l e R s m args below meth c T locs cells slots) (hx : p.tables.exec = Jvm.exec) (hZ : Z.Warmed39 s.vm) (eT : T.heap = h) {x w : Int32} (A : Ary Z h a .boolean n (fun i => .int (F i))) (h0 : 0 ≤ j.toInt) (h1 : j.toInt < n) (hn : nar .boolean x = w) (hd : decode c.code pc = .ok (.bastore, 1)) (hp : pc + 1 = pc')
    (r : ∀ (T' : State) (h' : Heap), Stand p l e R s m args below meth c T' (locs ++ [⟨a, j.toNatClampNeg⟩]) cells slots → T'.heap = h' → Wr h h' a j.toNatClampNeg (.int w) → Ary Z h' a .boolean n (fun i => .int (if i = j.toInt.toNat then w else F i)) → Run p e below Q En T' (mkF m pc' Ls rest)) : Run p e below Q En T (mkF m pc Ls (.int x :: .int j :: .ref a :: rest)) := by
  subst hn
  have A' := A
  obtain ⟨cl, A, r1, r2⟩ := A
  exact r_bastoreZ X hx hZ eT A (own_inb r1 h0 h1) hd hp fun T' h' X' e' W' => r T' h' X' e' W' (A'.setI W')
end Arrays
section Facts2
variable {Z : State} {h h' h0 : Heap} {ws : List Addr} {C n d : String} {v : Value} {a b : Addr}
theorem own_staKeep (F : Sta Z h C n d v) (K : Keep h h' ws) (q : ∀ x ∈ ws, ∃ c : Cell, h[x]? = some c ∧ c.vm.isStatics = false) : Sta Z h' C n d v := by
  obtain ⟨cf, i, k, f, st, cell, h1, h2, h3, h4, h5, h6, h7⟩ := F
  refine ⟨cf, i, k, f, st, cell, h1, h2, h3, h4, K.2.1 st cell h5 fun m => ?_, h6, h7⟩
  obtain ⟨c, e1, e2⟩ := q _ m
  cases h5.symm.trans e1
  rw [e2] at h6; cases h6
theorem own_exaS (E : Exa Z h a C) : ∃ c : Cell, h[a]? = some c ∧ c.vm.isStatics = false := by
  obtain ⟨c, _, h1, -, -, h4, -⟩ := E; exact ⟨c, h1, h4⟩
theorem own_arrS {c : Cell} {ty : FieldType} (A : Arr Z h a c ty) : ∃ c : Cell, h[a]? = some c ∧ c.vm.isStatics = false := ⟨c, A.1, A.plain⟩
theorem own_aryS {ty : FieldType} {m : Nat} {f : Nat → Value} (A : Ary Z h a ty m f) : ∃ c : Cell, h[a]? = some c ∧ c.vm.isStatics = false := by
  obtain ⟨c, A, -⟩ := A; exact own_arrS A
theorem own_staExt (F : Sta Z h C n d v) (E : Ext h h') : Sta Z h' C n d v := Sta.ext E F
theorem own_kext {E : Ext h h'} : Keep h h' [] := ⟨E.1, fun x c q _ => E.2 x c q, fun x c q => ⟨c, E.2 x c q, rfl, rfl, rfl⟩⟩
end Facts2
section Copy
variable {p : Program} {l : Launch} {e : Env} {R : Room} {s : State} {m : MethodId} {args : Array Value} {below : List Frame} {meth : Method} {c : Code} {T T' : State} {locs : List Loc} {cells slots : Nat} {Q : Option Value → Heap → List Loc → Prop} {En : Outcome → State → List Loc → Prop} {kc ks : Nat} {Z : State} {a0 : Array Value} {h h' : Heap} {Ls : Array Slot} {st rest : List Value} {pc pc' : Nat} {a b : Addr} {ty : FieldType} {n n' : Nat} {f g : Nat → Value}
theorem own_toArv {z : Int32} {d : Value} (A : Ary Z h a ty n f) (hz : z.toInt = n) (hf : ∀ i, i < n → fits ty (f i) = true) : ∃ k, Arv Z h a k ty z ((List.range n).map f) d := by
  obtain ⟨c, A, r1, r2⟩ := A
  have ez : z.toNatClampNeg = n := by show z.toInt.toNat = n; omega
  refine ⟨c.cls, c, A, rfl, by rw [r1, ez], by rw [Int32.lt_iff_toInt_lt, show (0 : Int32).toInt = 0 from rfl]; omega, fun i hi => ?_, fun i hi => ?_⟩
  · rw [r1] at hi
    rw [r2 i hi]; simp [List.getD, hi]
  · rw [r1] at hi
    have := hf i hi
    simpa [List.getD, hi] using this
theorem own_ofArv {z : Int32} {k : ClassId} {vs : List Value} {d : Value} (A : Arv Z h a k ty z vs d) (hz : z.toInt = n) : Ary Z h a ty n (fun i => vs.getD i d) := by
  obtain ⟨c, A, -, r1, -, r2, -⟩ := A
  have ez : z.toNatClampNeg = n := by show z.toInt.toNat = n; omega
  rw [ez] at r1
  exact ⟨c, A, r1, fun i hi => r2 i (by rw [r1]; exact hi)⟩
theorem own_cpl (vd us : List Value) (d : Value) (dp nn : Nat) (h1 : us.length = nn) (h2 : dp + nn ≤ vd.length) (i : Nat) : (vd.take dp ++ us ++ vd.drop (dp + nn)).getD i d = if dp ≤ i ∧ i < dp + nn then us.getD (i - dp) d else vd.getD i d := by
  have lt : (vd.take dp).length = dp := by rw [List.length_take]; omega
  simp only [List.getD_eq_getElem?_getD]
  by_cases q1 : i < dp
  · rw [if_neg (by omega), List.getElem?_append_left (by rw [List.length_append, lt]; omega), List.getElem?_append_left (by rw [lt]; omega), List.getElem?_take_of_lt q1]
  · by_cases q2 : i < dp + nn
    · rw [if_pos ⟨by omega, q2⟩, List.getElem?_append_left (by rw [List.length_append, lt]; omega), List.getElem?_append_right (by rw [lt]; omega), lt]
    · rw [if_neg (by omega), List.getElem?_append_right (by rw [List.length_append, lt]; omega), List.length_append, lt, h1, List.getElem?_drop, show dp + nn + (i - (dp + nn)) = i by omega]
theorem own_rng (n i : Nat) (f : Nat → Value) (d : Value) (h : i < n) : ((List.range n).map f).getD i d = f i := by
  simp [List.getD_eq_getElem?_getD, h]
theorem r_arraycopy (X : Stand p l e R s m args below meth c T locs cells slots) (hx : p.tables.exec = Jvm.exec) (hZ : Z.Warmed39 s.vm) {own : String} {index : Nat} (hown : s.vm.findClass own = some m.cls)
    (w1 : (Jvm.Cond.methodLink own index Jvm.Stand.acN).before a0 Z = true) (w2 : (Jvm.Cond.native Jvm.Stand.acN).before a0 Z = true) (w3 : (Jvm.Cond.static Jvm.Stand.acN).before a0 Z = true) (w4 : (Jvm.Cond.initialized "java/lang/System").before a0 Z = true) (eT : T.heap = h)
    {z z' sp dp nn : Int32} {n0 W : Nat} (A : Ary Z h a ty n f) (B : Ary Z h b ty n' g) (hz : z.toInt = n) (hz' : z'.toInt = n') (hk : refKind ty = false) (fa : ∀ i, i < n → fits ty (f i) = true) (fb : ∀ i, i < n' → fits ty (g i) = true)
    (h1 : 0 ≤ sp.toInt) (h2 : 0 ≤ dp.toInt) (h3 : 0 ≤ nn.toInt) (h4 : sp.toInt + nn.toInt ≤ n) (h5 : dp.toInt + nn.toInt ≤ n') (N : Fr n0 locs) (ge : n0 ≤ b) (hsz : Ls.size = c.maxLocals)
    (hf : 1 ≤ R.frames) (hW : (rest.map fun v => v.category).sum = W) (hlo : W + (nativeFrameWords "java/lang/System" "arraycopy" 5 + 11) ≤ R.locals) (hd : decode c.code pc = .ok (.invokestatic index, 3)) (hp : pc + 3 = pc')
    (r : ∀ (T' : State) (h' : Heap) (L : List Loc), Stand p l e R s m args below meth c T' L cells slots → T'.heap = h' → Fr n0 L → Keep h h' [b] → Ary Z h' b ty n' (fun i => if dp.toInt.toNat ≤ i ∧ i < dp.toInt.toNat + nn.toInt.toNat then f (sp.toInt.toNat + (i - dp.toInt.toNat)) else g i) → Run p e below Q En T' (mkF m pc' Ls rest)) :
    Run p e below Q En T (mkF m pc Ls (.int nn :: .int dp :: .ref b :: .int sp :: .ref a :: rest)) := by
  subst hp
  have lt0 : ∀ {x : Int32}, 0 ≤ x.toInt → ¬ x < 0 := fun {x} q => by rw [Int32.lt_iff_toInt_lt, show (0 : Int32).toInt = 0 from rfl]; omega
  have es : sp.toNatClampNeg = sp.toInt.toNat := rfl
  have ed : dp.toNatClampNeg = dp.toInt.toNat := rfl
  have en : nn.toNatClampNeg = nn.toInt.toNat := rfl
  have ez : z.toNatClampNeg = n := by show z.toInt.toNat = n; omega
  have ez' : z'.toNatClampNeg = n' := by show z'.toInt.toNat = n'; omega
  obtain ⟨k1, A'⟩ := own_toArv (d := .int 0) A hz fa
  obtain ⟨k2, B'⟩ := own_toArv (d := .int 0) B hz' fb
  obtain ⟨T', h', L, X', e', N', K', C', stp⟩ := cpA X hx hZ hown w1 w2 w3 w4 eT A' B' (Or.inl ⟨rfl, hk⟩) (lt0 h1) (lt0 h2) (lt0 h3) (by rw [es, en, ez]; omega) (by rw [ed, en, ez']; omega) rfl (by rw [ed, en]; simp; omega) N ge (g := mkF m pc Ls (.int nn :: .int dp :: .ref b :: .int sp :: .ref a :: rest)) rfl hsz rfl hd hf (W := W) (by show 2 * 0 + _ ≤ _; omega) hlo
  refine (r T' h' L X' e' N' K' ((own_ofArv C' hz').congr fun i hi => ?_)).on stp
  rw [ed, en, es]
  rw [own_cpl _ _ _ _ _ (by simp) (by simp; omega)]
  by_cases q : dp.toInt.toNat ≤ i ∧ i < dp.toInt.toNat + nn.toInt.toNat
  · rw [if_pos q, if_pos q, own_rng _ _ _ _ (by omega), own_rng _ _ _ _ (by omega)]
  · rw [if_neg q, if_neg q, own_rng _ _ _ _ hi]
end Copy

section Ops
variable {p : Program} {l : Launch} {e : Env} {R : Room} {s : State} {m : MethodId} {args : Array Value} {below : List Frame} {meth : Method} {c : Code} {T T' : State} {locs : List Loc} {cells slots : Nat} {Q : Option Value → Heap → List Loc → Prop} {En : Outcome → State → List Loc → Prop} {kc ks : Nat} {Z : State} {a0 : Array Value} {h h' : Heap} {Ls : Array Slot} {st rest : List Value} {pc pc' : Nat} {a b : Addr} {ty : FieldType} {n : Nat} {v : Value} {sl : Nat} {ws : List Addr} {vs us : List Value}
/-- an Object[] and its list -/
def Lar (Z : State) (h : Heap) (a : Addr) (vs : List Value) : Prop := ∃ c : Cell, Arr Z h a c (.object "java/lang/Object") ∧ c.slots = vs.toArray ∧ Ovr Z c.cls "java/lang/Object"
theorem Lar.lt (A : Lar Z h a vs) : a < h.size := by obtain ⟨c, A, -⟩ := A; exact A.lt
theorem Lar.ext (A : Lar Z h a vs) (E : Ext h h') : Lar Z h' a vs := by obtain ⟨c, A, r⟩ := A; exact ⟨c, A.ext E, r⟩
theorem Lar.other (A : Lar Z h b vs) (W : Wr h h' a sl v) (q : b ≠ a) : Lar Z h' b vs := by obtain ⟨c, A, r⟩ := A; exact ⟨c, A.other W q, r⟩
theorem Lar.keep (A : Lar Z h a vs) (K : Keep h h' ws) (q : a ∉ ws) : Lar Z h' a vs := by obtain ⟨c, A, r⟩ := A; exact ⟨c, ⟨K.2.1 a c A.1 q, A.2⟩, r⟩
theorem Lar.at (A : Lar Z h a vs) : Ary Z h a (.object "java/lang/Object") vs.length (fun i => vs.getD i .null) := by
  obtain ⟨c, A, r, -⟩ := A
  refine ⟨c, A, by rw [r]; simp, fun i hi => ?_⟩
  rw [r]; simp [List.getD, hi]
theorem own_pA {a0 : Array Value} {aty : ArrayType} {ad : String} (X : Stand p l e R s m args below meth c T locs cells slots) (hx : p.tables.exec = Jvm.exec) (hZ : Z.Warmed39 s.vm) (w : (Jvm.Cond.arrayClass (newarray.typeOf aty)).before a0 Z = true) (had : "[" ++ (newarray.typeOf aty).toString = ad) (eT : T.heap = h) {g : JFrame} (hg : g.method = m) (hd : decode c.code g.pc = .ok (.newarray aty, 2)) {n : Int32} {rest : List Value} (hs : g.stack = .int n :: rest)
    (hn : ¬ n < 0) {cap : Nat} (hcap : n.toNatClampNeg ≤ cap) (hb : cap * 8 ≤ 536870912) (hc : cells + 1 ≤ R.cells) (hl : slots + cap ≤ R.slots) :
    ∃ T' h' cA, Stand p l e R s m args below meth c T' locs (cells + 1) (slots + cap) ∧ T'.heap = h' ∧ Ext h h' ∧ Arr Z h' h.size (newA cA (newarray.typeOf aty) n) (newarray.typeOf aty) ∧ Exa Z h' h.size ad ∧
      ∀ target, Steps p.tables e below (T'.setTop { g with pc := g.pc + 2, stack := .ref h.size :: rest }) target → Steps p.tables e below (T.setTop g) target := by
  have hcb : componentBytes (newarray.typeOf aty) ≤ 8 := by cases aty <;> decide
  obtain ⟨cA, kA, comp, h1, h2, h3, X', stp⟩ := X.newarrayPrim hx (mvA hZ w) hg hd hs hn (Nat.le_trans (Nat.mul_le_mul hcap hcb) hb) hc (by omega)
  subst eT
  rw [hZ.alike.findClass] at h1
  obtain ⟨kZ, z1, -⟩ := Vm.findClass_spec h1
  obtain ⟨k', z2, z3⟩ := hZ.alike.2.2 _ _ z1
  cases h2.symm.trans z2
  have A : Arr Z (T.heap.push (newA cA (newarray.typeOf aty) n)) T.heap.size (newA cA (newarray.typeOf aty) n) (newarray.typeOf aty) := ⟨by simp [newA], ⟨by simp [newA], kZ, z1, comp, by rw [← h3, z3]⟩, by simp [newA]⟩
  refine ⟨_, _, cA, X'.more (Nat.le_refl _) (by omega), rfl, ?_, A, exa_arr A (by rw [← had]; exact h1) rfl, stp⟩
  exact ext_of fun a q => Array.getElem?_push_lt q |>.trans (Array.getElem?_eq_getElem q).symm
theorem r_newarrayE (X : Stand p l e R s m args below meth c T locs cells slots) (hx : p.tables.exec = Jvm.exec) (hZ : Z.Warmed39 s.vm) {aty : ArrayType} {ad : String} (w : (Jvm.Cond.arrayClass (newarray.typeOf aty)).before a0 Z = true) (had : "[" ++ (newarray.typeOf aty).toString = ad) (eT : T.heap = h) {n : Int32} {cap : Nat} (hn : ¬ n < 0) (hcap : n.toNatClampNeg ≤ cap) (hb : cap * 8 ≤ 536870912) (hc : cells + 1 ≤ R.cells) (hl : slots + cap ≤ R.slots) (hd : decode c.code pc = .ok (.newarray aty, 2)) (hp : pc + 2 = pc')
    (r : ∀ (T' : State) (h' : Heap) (a : Addr) (cA : ClassId), a = h.size → Stand p l e R s m args below meth c T' locs (cells + 1) (slots + cap) → T'.heap = h' → Ext h h' → Arr Z h' a (newA cA (newarray.typeOf aty) n) (newarray.typeOf aty) → Exa Z h' a ad → Run p e below Q En T' (mkF m pc' Ls (.ref a :: rest))) : Run p e below Q En T (mkF m pc Ls (.int n :: rest)) := by
  subst hp
  obtain ⟨T', h', cA, X', e', E', A', x', stp⟩ := own_pA X hx hZ w had eT (g := mkF m pc Ls (.int n :: rest)) rfl hd rfl hn hcap hb hc hl
  exact (r T' h' h.size cA rfl X' e' E' A' x').on stp
theorem r_anewarrayL (X : Stand p l e R s m args below meth c T locs cells slots) (hx : p.tables.exec = Jvm.exec) (hZ : Z.Warmed39 s.vm) {own : String} {index : Nat} (hown : s.vm.findClass own = some m.cls) (w1 : (Jvm.Cond.classLink own index "java/lang/Object").before a0 Z = true) (w2 : (Jvm.Cond.arrayOver (.object "java/lang/Object")).before a0 Z = true) (eT : T.heap = h) {n : Int32} {k cap : Nat} (hn : ¬ n < 0) (hk : n.toNatClampNeg = k) (hcap : k ≤ cap) (hb8 : cap * 8 ≤ 536870912) (hc : cells + 1 ≤ R.cells) (hl : slots + cap ≤ R.slots) (hd : decode c.code pc = .ok (.anewarray index, 3)) (hp : pc + 3 = pc')
    (r : ∀ (T' : State) (h' : Heap) (a : Addr), a = h.size → Stand p l e R s m args below meth c T' locs (cells + 1) (slots + cap) → T'.heap = h' → Ext h h' → Lar Z h' a (List.replicate k .null) → Exa Z h' a "[Ljava/lang/Object;" → Run p e below Q En T' (mkF m pc' Ls (.ref a :: rest))) : Run p e below Q En T (mkF m pc Ls (.int n :: rest)) := by
  subst hp
  subst hk
  have w2' : (Jvm.Cond.arrayOver (.object "java/lang/Object")).before args s = true := Cond.arrayOver_alike hZ.alike w2
  obtain ⟨vm₁, cA, kA, comp, -, h1, h2, h3, h4, X', stp⟩ := X.anewarrayRefK hx hown (mv hZ w1) w2' (g := mkF m pc Ls (.int n :: rest)) rfl hd rfl hn (by omega) hc (by omega)
  subst eT
  rw [hZ.alike.findClass] at h1
  obtain ⟨kZ, z1, -⟩ := Vm.findClass_spec h1
  obtain ⟨k', z2, z3⟩ := hZ.alike.2.2 _ _ z1
  cases h2.symm.trans z2
  have A : Arr Z (T.heap.push { cls := cA, slots := Array.replicate n.toNatClampNeg .null, vm := .none }) T.heap.size { cls := cA, slots := Array.replicate n.toNatClampNeg .null, vm := .none } (.object "java/lang/Object") := ⟨by simp, ⟨by simp, kZ, z1, comp, by rw [← h3, z3]⟩, by simp⟩
  refine (r _ _ T.heap.size rfl (X'.more (Nat.le_refl _) (by omega)) rfl ?_ ⟨_, A, by simp, kZ, comp, z1, by rw [← h3, z3], by rw [← hZ.alike.findClass]; exact h4⟩ (exa_arr A h1 rfl)).on stp
  exact ext_of fun a q => Array.getElem?_push_lt q |>.trans (Array.getElem?_eq_getElem q).symm
theorem q_aaload (X : Stand p l e R s m args below meth c T locs cells slots) (hx : p.tables.exec = Jvm.exec) (hZ : Z.Warmed39 s.vm) (eT : T.heap = h) {j : Int32} {v : Value} (A : Lar Z h a vs) (h0 : 0 ≤ j.toInt) (h1 : j.toInt < vs.length) (hv : vs[j.toInt.toNat]? = some v) (hd : decode c.code pc = .ok (.aaload, 1)) (hp : pc + 1 = pc') (r : Run p e below Q En T (mkF m pc' Ls (v :: rest))) : Run p e below Q En T (mkF m pc Ls (.int j :: .ref a :: rest)) := by
  subst hp
  obtain ⟨cl, A, r1, -⟩ := A
  exact r.on fun _ q => X.aaload hx (j := j) (v := v) (by rw [eT]; exact A.1) (State.isArrayOf_alike hZ.alike A.2.1) rfl A.2.2 (own_inb (n := vs.length) (by rw [r1]; simp) h0 h1) (by rw [r1]; show vs.toArray[j.toInt.toNat]? = _; simpa using hv) (g := mkF m pc Ls (.int j :: .ref a :: rest)) rfl rfl hd _ q
theorem Lar.set {j : Nat} (A : Lar Z h a vs) (W : Wr h h' a j v) : Lar Z h' a (vs.set j v) := by
  obtain ⟨c, A, r, O⟩ := A
  obtain ⟨c0, w1, w2, w3, rfl⟩ := W
  cases A.1.symm.trans w1
  refine ⟨c.setSlot j v, ⟨by simp [Cell.setSlot, (Array.getElem?_eq_some_iff.mp A.1).1], A.2⟩, ?_, O⟩
  show c.slots.setIfInBounds j v = _
  rw [r]; simp
theorem q_aastore (X : Stand p l e R s m args below meth c T locs cells slots) (hx : p.tables.exec = Jvm.exec) (hZ : Z.Warmed39 s.vm) (eT : T.heap = h) {j : Int32} {y : Addr} (A : Lar Z h a vs) (I : Ins Z h y "java/lang/Object" true) (h0 : 0 ≤ j.toInt) (h1 : j.toInt < vs.length) (hus : vs.set j.toInt.toNat (.ref y) = us) (hd : decode c.code pc = .ok (.aastore, 1)) (hp : pc + 1 = pc')
    (r : ∀ (T' : State) (h' : Heap), Stand p l e R s m args below meth c T' (locs ++ [⟨a, j.toNatClampNeg⟩]) cells slots → T'.heap = h' → Wr h h' a j.toNatClampNeg (.ref y) → Lar Z h' a us → Run p e below Q En T' (mkF m pc' Ls rest)) : Run p e below Q En T (mkF m pc Ls (.ref y :: .int j :: .ref a :: rest)) := by
  subst hp
  subst hus
  have A' := A
  obtain ⟨cl, A, r1, O⟩ := A
  obtain ⟨T', h', X', e', W', stp⟩ := stR X hx hZ eT A (j := j) (v := .ref y) (own_inb (n := vs.length) (by rw [r1]; simp) h0 h1) rfl (Sto.of A O I) (g := mkF m pc Ls (.ref y :: .int j :: .ref a :: rest)) rfl rfl hd
  exact (r T' h' X' e' W' (A'.set W')).on stp
theorem r_instNo (X : Stand p l e R s m args below meth c T locs cells slots) (hx : p.tables.exec = Jvm.exec) (hZ : Z.Warmed39 s.vm) {own K C : String} {index : Nat} (hown : s.vm.findClass own = some m.cls) (w : (Jvm.Cond.classLink own index K).before a0 Z = true) (eT : T.heap = h) (E : Exa Z h a C) (F : ∃ c t, Z.vm.findClass C = some c ∧ Z.vm.findClass K = some t ∧ Z.vm.assignable c t = false) (hd : decode c.code pc = .ok (.instanceof index, 3)) (hp : pc + 3 = pc')
    (r : ∀ T', Stand p l e R s m args below meth c T' locs cells slots → T'.heap = h → Run p e below Q En T' (mkF m pc' Ls (.int 0 :: rest))) : Run p e below Q En T (mkF m pc Ls (.ref a :: rest)) := by
  subst hp
  obtain ⟨T', X', e', stp⟩ := instNo X hx hZ hown w eT E F (g := mkF m pc Ls (.ref a :: rest)) rfl rfl hd
  exact (r T' X' e').on stp
theorem r_castY (X : Stand p l e R s m args below meth c T locs cells slots) (hx : p.tables.exec = Jvm.exec) (hZ : Z.Warmed39 s.vm) {own K : String} {index : Nat} (hown : s.vm.findClass own = some m.cls) (w : (Jvm.Cond.classLink own index K).before a0 Z = true) (eT : T.heap = h) (I : Ins Z h a K true) (hd : decode c.code pc = .ok (.checkcast index, 3)) (hp : pc + 3 = pc')
    (r : ∀ T', Stand p l e R s m args below meth c T' locs cells slots → T'.heap = h → Run p e below Q En T' (mkF m pc' Ls (.ref a :: rest))) : Run p e below Q En T (mkF m pc Ls (.ref a :: rest)) := by
  subst hp
  obtain ⟨T', X', e', stp⟩ := castY X hx hZ hown w eT I (g := mkF m pc Ls (.ref a :: rest)) rfl rfl hd
  exact (r T' X' e').on stp
theorem own_nsR {O K : String} (w : (Jvm.Cond.noSuperclass O).before a0 Z = true) (wk : ∃ t, Z.vm.findClass K = some t) (hn : O ≠ K) : NS Z O K := by
  obtain ⟨c, k, h1, h2, h3, -, -⟩ := Cond.noSuperclass_spec w
  obtain ⟨t, g1⟩ := wk
  have ne := ids_ne h1 g1 hn
  refine ⟨c, t, h1, g1, fun fuel => ?_⟩
  cases fuel with
  | zero => rfl
  | succ f => simp [Vm.isSubclassAux, ne, h2, h3]
theorem own_no {C S K : String} {kk : Nat} (w : (Jvm.Cond.superclass C S).before a0 Z = true) (wk : (Jvm.Cond.instantiable K kk).before a0 Z = true) (n : NS Z C K) (hn : C ≠ K) : ∃ c t, Z.vm.findClass C = some c ∧ Z.vm.findClass K = some t ∧ Z.vm.assignable c t = false := by
  obtain ⟨c, t, h0, g0, n3⟩ := n
  obtain ⟨p, k, kp, h1, h2, h3, h4, h5, -, h7⟩ := Cond.superclass_spec h0 w
  obtain ⟨t', k', g1, g2, g5, g7, -⟩ := Cond.instantiable_spec wk
  cases g0.symm.trans g1
  have ne := ids_ne h0 g0 hn
  have g7' : k'.isInterface = false := (Bool.or_eq_false_iff.mp g7).1
  refine ⟨c, t, h0, g0, ?_⟩
  show Z.vm.assignableAux (255 + 1) c t = false
  simp [Vm.assignableAux, ne, h2, g2, h5, g5, g7', Vm.isSubclass, n3]
theorem r_callF (X : Stand p l e R s m args below meth c T locs cells slots) (hx : p.tables.exec = Jvm.exec) (hZ : Z.Warmed39 s.vm) {own C : String} {index count : Nat} {y z : MethodName} {bytes : ByteArray} {maxL : Nat} {ret : Option FieldType} {rm : Room} {as' : Array Value} {Qc : Option Value → Heap → List Loc → Prop} {argsL : List Value} {W : Nat} {a : Addr}
    (hown : s.vm.findClass own = some m.cls) (w1 : (Jvm.Cond.methodLink own index y).before a0 Z = true) (w2 : (Jvm.Cond.declares y).before a0 Z = true) (wf : (Jvm.Cond.interfaceMethod y.cls y.cls y.name y.desc).before a0 Z = true) (hkf : ((Jvm.Cond.interfaceMethod y.cls y.cls y.name y.desc).onTables && (Jvm.Cond.interfaceMethod y.cls y.cls y.name y.desc).keepsFace) = true) (w5 : (Jvm.Cond.selects C y z).before a0 Z = true) (w6 : (Jvm.Cond.instanceMethod z).before a0 Z = true) (w7 : (Jvm.Cond.publicMethod z).before a0 Z = true) (w8 : (Jvm.Cond.unhidden C y.name y.desc).before a0 Z = true) (w9 : (Jvm.Cond.castable C y.cls).before a0 Z = true) (w3 : (Jvm.Cond.initialized z.cls).before a0 Z = true) (w4 : (Jvm.Cond.code z bytes maxL ret).before a0 Z = true) (hy : y.cls ≠ "java/lang/invoke/MethodHandle" ∧ y.cls ≠ "java/lang/invoke/VarHandle")
    (hM : Met l Z z bytes maxL ret [] rm as' h Qc rm.cells rm.slots) (eT : T.heap = h) (E : Exa Z h a C) (hsz : Ls.size = c.maxLocals) (hlen : ∀ sig, parseMethodDescriptor y.desc = some sig → argsL.length = sig.parameters.length) (hst : st = argsL.reverse ++ .ref a :: rest) (has : (.ref a :: argsL).toArray = as') (hW : (rest.map fun v => v.category).sum = W)
    (hf : rm.frames + 1 ≤ R.frames) (hl : W + (maxL + 11) + rm.locals ≤ R.locals) (hcl : cells + rm.cells ≤ R.cells) (hsl : slots + rm.slots ≤ R.slots) (hd : decode c.code pc = .ok (.invokeinterface index count, 5)) (hp : pc + 5 = pc')
    (r : ∀ (v : Option Value) (T' : State) (L : List Loc), Stand p l e R s m args below meth c T' (locs ++ L) (cells + rm.cells) (slots + rm.slots) → Qc v T'.heap L → Run p e below Q En T' (mkF m pc' Ls (v.toList ++ rest))) : Run p e below Q En T (mkF m pc Ls st) := by
  subst hp
  obtain ⟨cq, kq, qa, qb, qc⟩ := isOf hZ eT E
  obtain ⟨v, _, ⟨T', L', k', n'⟩, -, X', ⟨L, hQ, l1, y1, z1⟩, stp⟩ := X.interfaceBack hx (xi := y) (y := z) hown (mvT hZ w1) (mvT hZ w2) (mvT hZ wf hkf) (mvT hZ w5) (mvT hZ w6) (mvT hZ w7) (mvT hZ w8) (mvT hZ w9) hy (backOf (W := W) hM hZ w4 w3 hf hl) qa qb qc (g := mkF m pc Ls st) rfl hsz (Steps.refl _) (argsL := argsL) (rest := rest) hlen hst (by show 2 * 0 + _ ≤ _; omega) hd (fun _ _ => ⟨has, eT, hcl, hsl⟩)
  dsimp only at X' l1 y1 z1 stp hQ
  subst l1 y1 z1
  exact (r v T' L X' hQ).on fun _ q => stp.trans q
theorem r_tswIn (at_ : At T m c below) (hx : p.tables.exec = Jvm.exec) {dflt low high : Int} {offs : Array Int} {len : Nat} {o : Int} {i : Int32} (hd : decode c.code pc = .ok (.tableswitch dflt low high offs, len)) (hin : ¬ (i.toInt < low ∨ i.toInt > high)) (hoff : offs[(i.toInt - low).toNat]? = some o) (ho : 0 ≤ (pc : Int) + o) (hp : ((pc : Int) + o).toNat = pc') (r : Run p e below Q En T (mkF m pc' Ls rest)) : Run p e below Q En T (mkF m pc Ls (.int i :: rest)) :=
  r.on fun _ q => XS.tswIn at_ hx rfl (pc0 := pc) rfl hd rfl hin hoff ho hp q
theorem r_tswOut (at_ : At T m c below) (hx : p.tables.exec = Jvm.exec) {dflt low high : Int} {offs : Array Int} {len : Nat} {i : Int32} (hd : decode c.code pc = .ok (.tableswitch dflt low high offs, len)) (hout : i.toInt < low ∨ i.toInt > high) (ho : 0 ≤ (pc : Int) + dflt) (hp : ((pc : Int) + dflt).toNat = pc') (r : Run p e below Q En T (mkF m pc' Ls rest)) : Run p e below Q En T (mkF m pc Ls (.int i :: rest)) :=
  r.on fun _ q => XS.tswOut at_ hx rfl (pc0 := pc) rfl hd rfl hout ho hp q
theorem own_fitI {cl : Cell} {n : Nat} {F : Nat → Int32} (A : Arr Z h a cl .int) (r1 : cl.slots.size = n) (r2 : ∀ i, i < n → cl.slots[i]? = some (.int (F i))) : FitC Z cl := fun i v hv => by
  obtain ⟨hi, -⟩ := Array.getElem?_eq_some_iff.mp hv
  have q := r2 i (by omega)
  cases hv.symm.trans q
  obtain ⟨hs, k, hk, comp, hkind⟩ := A.2.1
  simp [State.fitsSlot, State.slotType?, hk, hkind, fits]
theorem r_cloneI (X : Stand p l e R s m args below meth c T locs cells slots) (hx : p.tables.exec = Jvm.exec) (hZ : Z.Warmed39 s.vm) {own : String} {index : Nat} (hown : s.vm.findClass own = some m.cls)
    (w1 : (Jvm.Cond.methodLink own index ⟨"[I", "clone", "()Ljava/lang/Object;"⟩).before a0 Z = true) (w2 : (Jvm.Cond.sameMethod "[I" "java/lang/Object" "clone" "()Ljava/lang/Object;").before a0 Z = true) (w3 : (Jvm.Cond.native ⟨"java/lang/Object", "clone", "()Ljava/lang/Object;"⟩).before a0 Z = true)
    (w4 : (Jvm.Cond.instanceMethod ⟨"java/lang/Object", "clone", "()Ljava/lang/Object;"⟩).before a0 Z = true) (w5 : (Jvm.Cond.selects "[I" ⟨"[I", "clone", "()Ljava/lang/Object;"⟩ ⟨"java/lang/Object", "clone", "()Ljava/lang/Object;"⟩).before a0 Z = true) (w6 : (Jvm.Cond.castable "[I" "java/lang/Cloneable").before a0 Z = true)
    (eT : T.heap = h) {n cap W : Nat} {F : Nat → Int32} (A : Ary Z h a .int n (fun i => .int (F i))) (E : Exa Z h a "[I") (hsz : Ls.size = c.maxLocals) (hf : 1 ≤ R.frames) (hW : (rest.map fun v => v.category).sum = W) (hl : W + 14 ≤ R.locals) (hcap : n ≤ cap) (hc : cells + 1 ≤ R.cells) (hsl : slots + cap ≤ R.slots) (hd : decode c.code pc = .ok (.invokevirtual index, 3)) (hp : pc + 3 = pc')
    (r : ∀ (T' : State) (h' : Heap) (b : Addr), b = h.size → Stand p l e R s m args below meth c T' locs (cells + 1) (slots + cap) → T'.heap = h' → Ext h h' → Ary Z h' b .int n (fun i => .int (F i)) → Exa Z h' b "[I" → Run p e below Q En T' (mkF m pc' Ls (.ref b :: rest))) : Run p e below Q En T (mkF m pc Ls (.ref a :: rest)) := by
  subst hp
  obtain ⟨cl, A, r1, r2⟩ := A
  obtain ⟨T', h', X', e', E', A', x', stp⟩ := cloneA X hx hZ hown w1 w2 w3 w4 w5 w6 eT A E (own_fitI A r1 r2) (g := mkF m pc Ls (.ref a :: rest)) rfl hsz rfl hd hf (W := W) (by show 2 * 0 + _ ≤ _; omega) hl (cap := cap) (by omega) hc hsl
  exact (r T' h' h.size rfl X' e' E' ⟨_, A', r1, r2⟩ x').on stp
/-- the Class object of C stands in the tables -/
def Mrr (Z : State) (C : String) (mr : Addr) : Prop := ∃ (c : ClassId) (k : Class), Z.vm.findClass C = some c ∧ Z.vm.classes[c]? = some k ∧ k.mirror = some mr
theorem r_getClass (X : Stand p l e R s m args below meth c T locs cells slots) (hx : p.tables.exec = Jvm.exec) (hZ : Z.Warmed39 s.vm) {own C : String} {index W : Nat} (hown : s.vm.findClass own = some m.cls)
    (w1 : (Jvm.Cond.methodLink own index ⟨"java/lang/Object", "getClass", "()Ljava/lang/Class;"⟩).before a0 Z = true) (w2 : (Jvm.Cond.declares ⟨"java/lang/Object", "getClass", "()Ljava/lang/Class;"⟩).before a0 Z = true) (w3 : (Jvm.Cond.noSuperclass "java/lang/Object").before a0 Z = true) (w4 : (Jvm.Cond.selects C ⟨"java/lang/Object", "getClass", "()Ljava/lang/Class;"⟩ ⟨"java/lang/Object", "getClass", "()Ljava/lang/Class;"⟩).before a0 Z = true)
    (w5 : (Jvm.Cond.instanceMethod ⟨"java/lang/Object", "getClass", "()Ljava/lang/Class;"⟩).before a0 Z = true) (w6 : (Jvm.Cond.native ⟨"java/lang/Object", "getClass", "()Ljava/lang/Class;"⟩).before a0 Z = true) (eT : T.heap = h) (E : Exa Z h a C) {mr : Addr} (M : Mrr Z C mr)
    (hsz : Ls.size = c.maxLocals) (hf : 1 ≤ R.frames) (hW : (rest.map fun v => v.category).sum = W) (hl : W + (nativeFrameWords "java/lang/Object" "getClass" 1 + 11) ≤ R.locals) (hd : decode c.code pc = .ok (.invokevirtual index, 3)) (hp : pc + 3 = pc')
    (r : ∀ T', Stand p l e R s m args below meth c T' locs cells slots → T'.heap = h → Run p e below Q En T' (mkF m pc' Ls (.ref mr :: rest))) : Run p e below Q En T (mkF m pc Ls (.ref a :: rest)) := by
  subst hp
  obtain ⟨cB, kB, i1, i2, i3⟩ := isOf hZ eT E
  obtain ⟨cc, kc, m1, m2, m3⟩ := M
  rw [hZ.alike.findClass] at i1
  cases i1.symm.trans m1
  obtain ⟨k', q, ek⟩ := hZ.alike.2.2 _ _ m2
  obtain ⟨vm', X', stp⟩ := X.getClassOf hx hown (mvT hZ w1) (mvT hZ w2) (nf_top (args := #[]) (mvT hZ w3)) (mvT hZ w4) (mvT hZ w5) (mvT hZ w6) (by rw [hZ.alike.findClass]; exact m1) i3 q (by rw [ek]; exact m3) (g := mkF m pc Ls (.ref a :: rest)) rfl hsz rfl hd hf (by show 2 * 0 + _ + _ ≤ _; omega)
  exact (r _ X' eT).on stp
theorem r_ldcMirror (X : Stand p l e R s m args below meth c T locs cells slots) (hx : p.tables.exec = Jvm.exec) (hZ : Z.Warmed39 s.vm) {own C : String} {index : Nat} (hown : s.vm.findClass own = some m.cls) (w1 : (Jvm.Cond.classLink own index C).before a0 Z = true) (eT : T.heap = h) {mr : Addr} (M : Mrr Z C mr) (hd : decode c.code pc = .ok (.ldc index, 2)) (hp : pc + 2 = pc')
    (r : ∀ T', Stand p l e R s m args below meth c T' locs cells slots → T'.heap = h → Run p e below Q En T' (mkF m pc' Ls (.ref mr :: rest))) : Run p e below Q En T (mkF m pc Ls rest) := by
  subst hp
  obtain ⟨cc, kc, m1, m2, m3⟩ := M
  obtain ⟨k', q, ek⟩ := hZ.alike.2.2 _ _ m2
  have f1 : s.vm.findClass C = some cc := by rw [hZ.alike.findClass]; exact m1
  have f3 : k'.mirror = some mr := by rw [ek]; exact m3
  obtain ⟨vm', X', stp⟩ := X.ldcMirror hx hown (mvT hZ w1) (a := mr) (by simp [Term.eval, f1, q, f3]) (g := mkF m pc Ls rest) rfl hd
  exact (r _ X' eT).on stp
theorem own_larV {k : Nat} {z : Int32} (A : Lar Z h a vs) (hz : z.toInt = vs.length) (hr : ∀ v ∈ vs, v.isRef = true) : ∃ kk, Arv Z h a kk (.object "java/lang/Object") z vs .null ∧ Ovr Z kk "java/lang/Object" := by
  obtain ⟨c, A, r, O⟩ := A
  have ez : z.toNatClampNeg = vs.length := by show z.toInt.toNat = vs.length; omega
  have es : c.slots.size = vs.length := by rw [r]; simp
  refine ⟨c.cls, ⟨c, A, rfl, by rw [es, ez], by rw [Int32.lt_iff_toInt_lt, show (0 : Int32).toInt = 0 from rfl]; omega, fun i hi => ?_, fun i hi => ?_⟩, O⟩
  · rw [r]; rw [es] at hi; simp [List.getD, hi]
  · rw [es] at hi
    have q := hr (vs.getD i .null) (by simp [List.getD, hi])
    revert q
    cases vs.getD i .null <;> simp [Value.isRef, fits]
theorem r_copyL (X : Stand p l e R s m args below meth c T locs cells slots) (hx : p.tables.exec = Jvm.exec) (hZ : Z.Warmed39 s.vm) {own : String} {index : Nat} (hown : s.vm.findClass own = some m.cls)
    (w1 : (Jvm.Cond.methodLink own index Jvm.Stand.acN).before a0 Z = true) (w2 : (Jvm.Cond.native Jvm.Stand.acN).before a0 Z = true) (w3 : (Jvm.Cond.static Jvm.Stand.acN).before a0 Z = true) (w4 : (Jvm.Cond.initialized "java/lang/System").before a0 Z = true) (eT : T.heap = h)
    {nn : Int32} {n0 W : Nat} {vd : List Value} (A : Lar Z h a vs) (B : Lar Z h b vd) (ha : vs.length < 100) (hn : nn.toInt = vd.length) (hle : vd.length ≤ vs.length) (hr : ∀ v ∈ vs, v.isRef = true) (hr' : ∀ v ∈ vd, v.isRef = true) (hs : StoL Z h b (vs.take vd.length))
    (N : Fr n0 locs) (ge : n0 ≤ b) (hsz : Ls.size = c.maxLocals) (hf : 1 ≤ R.frames) (hW : (rest.map fun v => v.category).sum = W) (hlo : W + (nativeFrameWords "java/lang/System" "arraycopy" 5 + 11) ≤ R.locals) (hd : decode c.code pc = .ok (.invokestatic index, 3)) (hp : pc + 3 = pc')
    (r : ∀ (T' : State) (h' : Heap) (L : List Loc), Stand p l e R s m args below meth c T' L cells slots → T'.heap = h' → Fr n0 L → Keep h h' [b] → Lar Z h' b (vs.take vd.length) → Run p e below Q En T' (mkF m pc' Ls rest)) :
    Run p e below Q En T (mkF m pc Ls (.int nn :: .int 0 :: .ref b :: .int 0 :: .ref a :: rest)) := by
  subst hp
  obtain ⟨z, hz⟩ : ∃ z : Int32, z.toInt = vs.length := ⟨Int32.ofInt vs.length, by rw [Int32.toInt_ofInt_of_le (by omega) (by omega)]⟩
  have en : nn.toNatClampNeg = vd.length := by show nn.toInt.toNat = _; omega
  have ez : z.toNatClampNeg = vs.length := by show z.toInt.toNat = _; omega
  have e0 : (0 : Int32).toNatClampNeg = 0 := rfl
  obtain ⟨k1, A', -⟩ := own_larV (k := 0) A hz hr
  obtain ⟨k2, B', O⟩ := own_larV (k := 0) B hn hr'
  have eu : (List.range nn.toNatClampNeg).map (fun i => vs.getD ((0 : Int32).toNatClampNeg + i) .null) = vs.take vd.length := by
    rw [en, e0]
    apply List.ext_getElem (by simp [hle])
    intro i hi1 hi2
    have q1 : i < vd.length := by simpa using hi1
    have q2 : i < vs.length := by omega
    simp [List.getD, q2]
  obtain ⟨T', h', L, X', e', N', K', C', stp⟩ := cpA X hx hZ hown w1 w2 w3 w4 eT A' B' (us := vs.take vd.length) (Or.inr ⟨rfl, rfl, hs⟩) (by decide) (by decide) (by rw [Int32.lt_iff_toInt_lt, show (0 : Int32).toInt = 0 from rfl]; omega) (by rw [e0, en, ez]; omega) (by rw [e0, en]; omega) eu.symm (by rw [e0, en]; omega) N ge (g := mkF m pc Ls (.int nn :: .int 0 :: .ref b :: .int 0 :: .ref a :: rest)) rfl hsz rfl hd hf (W := W) (by show 2 * 0 + _ ≤ _; omega) hlo
  refine (r T' h' L X' e' N' K' ?_).on stp
  obtain ⟨c, c1, c2, c3, -, c4, -⟩ := C'
  rw [e0, en] at c4
  refine ⟨c, c1, ?_, c2 ▸ O⟩
  apply Array.ext
  · rw [c3, en]; simp [hle]
  · intro i hi1 hi2
    have q := c4 i hi1
    rw [Array.getElem?_eq_getElem hi1] at q
    have q1 : i < vd.length := by rw [c3, en] at hi1; exact hi1
    have q3 : i < vs.length := by omega
    have q2 := Option.some.inj q
    rw [q2]
    simp [List.getD, q1, q3, hle]
theorem mvMN {own host : String} {index : Nat} {y : MethodName} (hZ : Z.Warmed39 s.vm) (w : (Jvm.Cond.methodLinkNest own index y host).before a0 Z = true) : (Jvm.Cond.methodLinkNest own index y host).before args s = true := (Cond.methodLinkNest_wide hZ w :)
theorem r_callIN (X : Stand p l e R s m args below meth c T locs cells slots) (hx : p.tables.exec = Jvm.exec) (hZ : Z.Warmed39 s.vm) {own host : String} {index : Nat} {y : MethodName} {bytes : ByteArray} {maxL : Nat} {rm : Room} {as' : Array Value} {Qc : Option Value → Heap → List Loc → Prop} {argsL : List Value} {W : Nat} {a : Addr}
    (hown : s.vm.findClass own = some m.cls) (hy1 : y.name = "<init>") (w1 : (Jvm.Cond.methodLinkNest own index y host).before a0 Z = true) (w2 : (Jvm.Cond.instanceMethod y).before a0 Z = true) (w3 : (Jvm.Cond.initialized y.cls).before a0 Z = true) (w4 : (Jvm.Cond.code y bytes maxL none).before a0 Z = true) (hy : y.cls ≠ "java/lang/invoke/MethodHandle" ∧ y.cls ≠ "java/lang/invoke/VarHandle")
    (hM : Met l Z y bytes maxL none [] rm as' h Qc rm.cells rm.slots) (eT : T.heap = h) (hsz : Ls.size = c.maxLocals) (hlen : ∀ sig, parseMethodDescriptor y.desc = some sig → argsL.length = sig.parameters.length) (hst : st = argsL.reverse ++ .ref a :: rest) (has : (.ref a :: argsL).toArray = as') (hW : (rest.map fun v => v.category).sum = W)
    (hf : rm.frames + 1 ≤ R.frames) (hl : W + (maxL + 11) + rm.locals ≤ R.locals) (hcl : cells + rm.cells ≤ R.cells) (hsl : slots + rm.slots ≤ R.slots) (hd : decode c.code pc = .ok (.invokespecial index, 3)) (hp : pc + 3 = pc')
    (r : ∀ (v : Option Value) (T' : State) (L : List Loc), Stand p l e R s m args below meth c T' (locs ++ L) (cells + rm.cells) (slots + rm.slots) → Qc v T'.heap L → Run p e below Q En T' (mkF m pc' Ls (v.toList ++ rest))) : Run p e below Q En T (mkF m pc Ls st) := by
  subst hp
  obtain ⟨v, _, ⟨T', L', k', n'⟩, -, X', ⟨L, hQ, l1, y1, z1⟩, stp⟩ := X.specialBackNest hx (y := y) hy1 hown (mvMN hZ w1) (mvT hZ w2) (mvT hZ w4) hy (backOf (W := W) hM hZ w4 w3 hf hl) (g := mkF m pc Ls st) rfl hsz (Steps.refl _) (a := a) (argsL := argsL) (rest := rest) hlen hst (by show 2 * 0 + _ ≤ _; omega) hd (fun _ _ => ⟨has, eT, hcl, hsl⟩)
  dsimp only at X' l1 y1 z1 stp hQ
  subst l1 y1 z1
  exact (r v T' L X' hQ).on fun _ q => stp.trans q
theorem r_getSN (X : Stand p l e R s m args below meth c T locs cells slots) (hx : p.tables.exec = Jvm.exec) (hZ : Z.Warmed39 s.vm) {own R0 O n d host : String} {index : Nat} {v : Value} (hown : s.vm.findClass own = some m.cls) (w : (Jvm.Cond.fieldLinkNest own index R0 n d host).before a0 Z = true) (via : Via Z R0 O n d) (eT : T.heap = h) (F : Sta Z h O n d v) (hd : decode c.code pc = .ok (.getstatic index, 3)) (hp : pc + 3 = pc')
    (r : ∀ T', Stand p l e R s m args below meth c T' locs cells slots → T'.heap = h → Run p e below Q En T' (mkF m pc' Ls (v :: rest))) : Run p e below Q En T (mkF m pc Ls rest) := by
  subst hp
  obtain ⟨T', X', e', stp⟩ := getS2 X hx hZ hown (Or.inr w) via eT F (g := mkF m pc Ls rest) rfl hd
  exact (r T' X' e').on stp
end Ops

section Lam
variable {p : Program} {l : Launch} {e : Env} {R : Room} {s : State} {m : MethodId} {args : Array Value} {below : List Frame} {meth : Method} {c : Code} {T T' : State} {locs : List Loc} {cells slots : Nat} {Q : Option Value → Heap → List Loc → Prop} {En : Outcome → State → List Loc → Prop} {kc ks : Nat} {Z : State} {a0 : Array Value} {h h' h0 : Heap} {Ls : Array Slot} {st rest : List Value} {pc pc' : Nat} {a b : Addr} {ty : FieldType} {n : Nat} {v : Value} {sl : Nat} {ws : List Addr} {f g : Nat → Value} {K : String} {vm0 : Vm}
/-- an array of references and its class -/
def Rar (Z : State) (h : Heap) (a : Addr) (K : String) (n : Nat) (f : Nat → Value) : Prop := ∃ c : Cell, Arr Z h a c (.object K) ∧ c.slots.size = n ∧ (∀ i, i < n → c.slots[i]? = some (f i)) ∧ Ovr Z c.cls K
theorem Rar.lt (A : Rar Z h a K n f) : a < h.size := by obtain ⟨c, A, -⟩ := A; exact A.lt
theorem Rar.ext (A : Rar Z h a K n f) (E : Ext h h') : Rar Z h' a K n f := by obtain ⟨c, A, r⟩ := A; exact ⟨c, A.ext E, r⟩
theorem Rar.other (A : Rar Z h b K n f) (W : Wr h h' a sl v) (q : b ≠ a) : Rar Z h' b K n f := by obtain ⟨c, A, r⟩ := A; exact ⟨c, A.other W q, r⟩
theorem Rar.keep (A : Rar Z h a K n f) (K' : Keep h h' ws) (q : a ∉ ws) : Rar Z h' a K n f := by obtain ⟨c, A, r⟩ := A; exact ⟨c, ⟨K'.2.1 a c A.1 q, A.2⟩, r⟩
theorem Rar.at (A : Rar Z h a K n f) : Ary Z h a (.object K) n f := by obtain ⟨c, A, r1, r2, -⟩ := A; exact ⟨c, A, r1, r2⟩
theorem Rar.set {j : Int32} (A : Rar Z h a K n f) (W : Wr h h' a j.toNatClampNeg v) : Rar Z h' a K n (fun i => if i = j.toInt.toNat then v else f i) := by
  obtain ⟨c, A, r1, r2, O⟩ := A
  have A2 : Ary Z h a (.object K) n f := ⟨c, A, r1, r2⟩
  obtain ⟨c2, q1, q2, q3⟩ := A2.set W
  obtain ⟨c0, w1, w2, w3, rfl⟩ := W
  cases A.1.symm.trans w1
  have hc2 : c2 = c.setSlot j.toNatClampNeg v := by
    have e1 := q1.1
    simp [(Array.getElem?_eq_some_iff.mp A.1).1] at e1
    exact e1.symm
  subst hc2
  exact ⟨_, q1, q2, q3, O⟩
theorem r_anewarrayR (X : Stand p l e R s m args below meth c T locs cells slots) (hx : p.tables.exec = Jvm.exec) (hZ : Z.Warmed39 s.vm) {own C : String} {index : Nat} (hown : s.vm.findClass own = some m.cls) (w1 : (Jvm.Cond.classLink own index C).before a0 Z = true) (w2 : (Jvm.Cond.arrayOver (.object C)).before a0 Z = true) (eT : T.heap = h) {x : Int32} {cap : Nat} (hn : ¬ x < 0) (hk : x.toInt.toNat = cap) (hb8 : cap * 8 ≤ 536870912) (hc : cells + 1 ≤ R.cells) (hl : slots + cap ≤ R.slots) (hd : decode c.code pc = .ok (.anewarray index, 3)) (hp : pc + 3 = pc')
    (r : ∀ (T' : State) (h' : Heap) (a : Addr), a = h.size → Stand p l e R s m args below meth c T' locs (cells + 1) (slots + cap) → T'.heap = h' → Ext h h' → Rar Z h' a C cap (fun _ => .null) → Run p e below Q En T' (mkF m pc' Ls (.ref a :: rest))) : Run p e below Q En T (mkF m pc Ls (.int x :: rest)) := by
  have hcap : x.toNatClampNeg ≤ cap := by rw [← hk]; exact Nat.le_refl _
  refine r_anewarray X hx hZ hown w1 w2 eT hn hcap hb8 hc hl hd hp (fun T' h' a cA g1 X' e' E' A' O' => ?_)
  refine r T' h' a g1 X' e' E' ?_
  obtain ⟨c3, y1, y2, y3⟩ := Ary.new A' hk
  have hc3 : c3 = newA cA (.object C) x := Option.some.inj (y1.1.symm.trans A'.1)
  subst hc3
  exact ⟨_, A', y2, y3, O'⟩
theorem q_aaloadR (X : Stand p l e R s m args below meth c T locs cells slots) (hx : p.tables.exec = Jvm.exec) (hZ : Z.Warmed39 s.vm) (eT : T.heap = h) {j : Int32} {v : Value} (A : Ary Z h a (.object K) n f) (h0 : 0 ≤ j.toInt) (h1 : j.toInt < n) (hv : f j.toInt.toNat = v) (hd : decode c.code pc = .ok (.aaload, 1)) (hp : pc + 1 = pc') (r : Run p e below Q En T (mkF m pc' Ls (v :: rest))) : Run p e below Q En T (mkF m pc Ls (.int j :: .ref a :: rest)) := by
  subst hp
  obtain ⟨cl, A, r1, r2⟩ := A
  exact r.on fun _ q => X.aaload hx (j := j) (v := v) (by rw [eT]; exact A.1) (State.isArrayOf_alike hZ.alike A.2.1) rfl A.2.2 (own_inb (n := n) r1 h0 h1) (by rw [← hv]; exact r2 _ (by show j.toInt.toNat < n; omega)) (g := mkF m pc Ls (.int j :: .ref a :: rest)) rfl rfl hd _ q
theorem q_aastoreR (X : Stand p l e R s m args below meth c T locs cells slots) (hx : p.tables.exec = Jvm.exec) (hZ : Z.Warmed39 s.vm) (eT : T.heap = h) {j : Int32} {y : Addr} (A : Rar Z h a K n f) (I : Ins Z h y K true) (h0 : 0 ≤ j.toInt) (h1 : j.toInt < n) (hd : decode c.code pc = .ok (.aastore, 1)) (hp : pc + 1 = pc')
    (r : ∀ (T' : State) (h' : Heap), Stand p l e R s m args below meth c T' (locs ++ [⟨a, j.toNatClampNeg⟩]) cells slots → T'.heap = h' → Wr h h' a j.toNatClampNeg (.ref y) → Rar Z h' a K n (fun i => if i = j.toInt.toNat then .ref y else f i) → Run p e below Q En T' (mkF m pc' Ls rest)) : Run p e below Q En T (mkF m pc Ls (.ref y :: .int j :: .ref a :: rest)) := by
  subst hp
  have A' := A
  obtain ⟨cl, A, r1, r2, O⟩ := A
  obtain ⟨T', h', X', e', W', stp⟩ := stR X hx hZ eT A (j := j) (v := .ref y) (own_inb (n := n) r1 h0 h1) rfl (Sto.of A O I) (g := mkF m pc Ls (.ref y :: .int j :: .ref a :: rest)) rfl rfl hd
  exact (r T' h' X' e' W' (A'.set W')).on stp
theorem r_ldcF (X : Stand p l e R s m args below meth c T locs cells slots) (hx : p.tables.exec = Jvm.exec) (hZ : Z.Warmed39 s.vm) {own : String} {index : Nat} {v : UInt32} (hown : s.vm.findClass own = some m.cls) (w : (Jvm.Cond.constantFloat own index v).before a0 Z = true) (hd : decode c.code pc = .ok (.ldc index, 2)) (hp : pc + 2 = pc') (r : Run p e below Q En T (mkF m pc' Ls (.float v :: rest))) : Run p e below Q En T (mkF m pc Ls rest) := by
  subst hp; exact r.on fun _ q => X.ldcFloatC hx hown (mvT hZ w) (g := mkF m pc Ls rest) rfl hd _ q
/-- a virtual call through a class that inherits the method -/
theorem r_callVU (X : Stand p l e R s m args below meth c T locs cells slots) (hx : p.tables.exec = Jvm.exec) (hZ : Z.Warmed39 s.vm) {own C owner : String} {index : Nat} {y z : MethodName} {bytes : ByteArray} {maxL : Nat} {ret : Option FieldType} {rm : Room} {as' : Array Value} {Qc : Option Value → Heap → List Loc → Prop} {argsL : List Value} {W : Nat} {a : Addr}
    (hown : s.vm.findClass own = some m.cls) (w1 : (Jvm.Cond.methodLink own index y).before a0 Z = true) (w2 : (Jvm.Cond.declares ⟨owner, y.name, y.desc⟩).before a0 Z = true) (w7 : (Jvm.Cond.sameMethod y.cls owner y.name y.desc).before args s = true) (w5 : (Jvm.Cond.selects C y z).before a0 Z = true) (w6 : (Jvm.Cond.instanceMethod z).before a0 Z = true) (w3 : (Jvm.Cond.initialized z.cls).before a0 Z = true) (w4 : (Jvm.Cond.code z bytes maxL ret).before a0 Z = true) (hy : owner ≠ "java/lang/invoke/MethodHandle" ∧ owner ≠ "java/lang/invoke/VarHandle")
    (hM : Met l Z z bytes maxL ret [] rm as' h Qc rm.cells rm.slots) (eT : T.heap = h) (E : Exa Z h a C) (hsz : Ls.size = c.maxLocals) (hlen : ∀ sig, parseMethodDescriptor y.desc = some sig → argsL.length = sig.parameters.length) (hst : st = argsL.reverse ++ .ref a :: rest) (has : (.ref a :: argsL).toArray = as') (hW : (rest.map fun v => v.category).sum = W)
    (hf : rm.frames + 1 ≤ R.frames) (hl : W + (maxL + 11) + rm.locals ≤ R.locals) (hcl : cells + rm.cells ≤ R.cells) (hsl : slots + rm.slots ≤ R.slots) (hd : decode c.code pc = .ok (.invokevirtual index, 3)) (hp : pc + 3 = pc')
    (r : ∀ (v : Option Value) (T' : State) (L : List Loc), Stand p l e R s m args below meth c T' (locs ++ L) (cells + rm.cells) (slots + rm.slots) → Qc v T'.heap L → Run p e below Q En T' (mkF m pc' Ls (v.toList ++ rest))) : Run p e below Q En T (mkF m pc Ls st) := by
  subst hp
  obtain ⟨cq, kq, qa, qb, qc⟩ := isOf hZ eT E
  obtain ⟨v, _, ⟨T', L', k', n'⟩, -, X', ⟨L, hQ, l1, y1, z1⟩, stp⟩ := X.virtualBackUp hx (x := y) (y := z) hown (mvT hZ w1) w7 (mvT hZ w2) hy (mvT hZ w5) (mvT hZ w6) (backOf (W := W) hM hZ w4 w3 hf hl) qa qc (g := mkF m pc Ls st) rfl hsz (Steps.refl _) (argsL := argsL) (rest := rest) hlen hst (by show 2 * 0 + _ ≤ _; omega) hd (fun _ _ => ⟨has, eT, hcl, hsl⟩)
  dsimp only at X' l1 y1 z1 stp hQ
  subst l1 y1 z1
  exact (r v T' L X' hQ).on fun _ q => stp.trans q
/-- a virtual call of a body that may intern -/
theorem r_callVW {k0 : Nat} (X : Stand p l e R (s.setVm vm0) m args below meth c T locs cells slots) (hx : p.tables.exec = Jvm.exec) (hZ : Z.Warmed39 vm0) {own C : String} {index : Nat} {y z : MethodName} {bytes : ByteArray} {maxL : Nat} {ret : Option FieldType} {rm : Room} {as' : Array Value} {Qc : Option Value → Heap → List Loc → Prop} {argsL : List Value} {W : Nat} {a : Addr}
    (hown : vm0.findClass own = some m.cls) (w1 : (Jvm.Cond.methodLink own index y).before a0 Z = true) (w2 : (Jvm.Cond.declares y).before a0 Z = true) (nf : NotFace (s.setVm vm0) y) (w5 : (Jvm.Cond.selects C y z).before a0 Z = true) (w6 : (Jvm.Cond.instanceMethod z).before a0 Z = true) (w3 : (Jvm.Cond.initialized z.cls).before a0 Z = true) (w4 : (Jvm.Cond.code z bytes maxL ret).before a0 Z = true) (hy : y.cls ≠ "java/lang/invoke/MethodHandle" ∧ y.cls ≠ "java/lang/invoke/VarHandle") (hS : s.Since vm0 k0) (hk : k0 ≤ h.size)
    (hM : MetW l Z z bytes maxL ret [] rm as' h Qc rm.cells rm.slots) (eT : T.heap = h) (E : Exa Z h a C) (hsz : Ls.size = c.maxLocals) (hlen : ∀ sig, parseMethodDescriptor y.desc = some sig → argsL.length = sig.parameters.length) (hst : st = argsL.reverse ++ .ref a :: rest) (has : (.ref a :: argsL).toArray = as') (hW : (rest.map fun v => v.category).sum = W)
    (hf : rm.frames + 1 ≤ R.frames) (hl : W + (maxL + 11) + rm.locals ≤ R.locals) (hcl : cells + rm.cells ≤ R.cells) (hsl : slots + rm.slots ≤ R.slots) (hd : decode c.code pc = .ok (.invokevirtual index, 3)) (hp : pc + 3 = pc')
    (r : ∀ (v : Option Value) (T' : State) (L : List Loc), Stand p l e R (s.setVm T'.vm) m args below meth c T' (locs ++ L) (cells + rm.cells) (slots + rm.slots) → s.Since T'.vm T'.heap.size → Z.Warmed39 (s.setVm T'.vm).vm → (s.setVm T'.vm).vm.findClass own = some m.cls → Qc v T'.heap L → Run p e below Q En T' (mkF m pc' Ls (v.toList ++ rest))) : Run p e below Q En T (mkF m pc Ls st) := by
  subst hp
  obtain ⟨cq, kq, qa, qb, qc⟩ := isOf (s := s.setVm vm0) hZ eT E
  obtain ⟨v, _, ⟨T', L', k', n'⟩, -, X', hs2, hg2, ⟨L, hQ, l1, y1, z1⟩, stp⟩ := X.virtualBackS hx (y := y) (z := z) hown (mvT (s := s.setVm vm0) hZ w1) (mvT (s := s.setVm vm0) hZ w2) nf (mvT (s := s.setVm vm0) hZ w5) (mvT (s := s.setVm vm0) hZ w6) hy (backOfS (W := W) hM hZ w4 w3 hf hl) qa qc (g := mkF m pc Ls st) rfl hsz (Steps.refl _) (argsL := argsL) (rest := rest) hlen hst (by show 2 * 0 + _ ≤ _; omega) hd (fun _ _ => ⟨has, eT, hcl, hsl⟩)
  dsimp only at X' l1 y1 z1 stp hQ hs2 hg2
  subst l1 y1 z1
  obtain ⟨q1, q2, q3, q4⟩ := rebS hS (by rw [eT]; exact hk) X' hs2 hg2 hZ hown
  exact (r v T' L q1 q2 q3 q4 hQ).on fun _ q => stp.trans q
/-- a lambda's site that captures nothing: its one object -/
theorem r_indyC (X : Stand p l e R s m args below meth c T locs cells slots) (hx : p.tables.exec = Jvm.exec) (hZ : Z.Warmed39 s.vm) {y : MethodName} {index W : Nat} {σ : Lambda.Shape} (hN : s.methodNamed? y = some m) (w : (Jvm.Cond.lambdaSite y pc index σ).before a0 Z = true) (hcap : σ.captured = []) (hsz : Ls.size = c.maxLocals) (hW : (rest.map fun v => v.category).sum = W) (hR : W + 3072 ≤ R.locals) (hd : decode c.code pc = .ok (.invokedynamic index, 5)) (hp : pc + 5 = pc')
    (r : ∀ a : Addr, Run p e below Q En T (mkF m pc' Ls (.ref a :: rest))) : Run p e below Q En T (mkF m pc Ls rest) := by
  subst hp
  obtain ⟨cK, one, hat⟩ := Cond.lambdaSite_spec w
  obtain ⟨m', kS, cfS, i0, p0, lk, hm', hkS, -, -, -, hfind, -, -, hlk⟩ := State.lambdaAt?_spec hat
  have hm2 : s.methodNamed? y = some m' := by
    have q := State.methodNamed?_setVm (s := Z) hZ.alike y
    rw [hm'] at q
    exact q
  cases hN.symm.trans hm2
  obtain ⟨k', hk', he⟩ := hZ.alike.2.2 _ _ hkS
  have hfind' : (k'.callSites.find? fun y => y.1 == m.idx && y.2.1 == pc) = some (i0, p0, lk) := by rw [he]; exact hfind
  obtain ⟨a₀, rfl⟩ : ∃ a₀, lk = .constant a₀ := by
    rcases hlk with ⟨a, -, h1, -⟩ | ⟨-, -, h3⟩
    · exact ⟨a, h1⟩
    · exact absurd hcap h3
  exact (r a₀).on fun _ q => X.lambdaConstant hx (g := mkF m pc Ls rest) rfl hsz hd hk' hfind' (by rw [X.admits.platform]; show 2 * 0 + (rest.map fun v => v.category).sum + 3072 ≤ _; omega) q
theorem metN_of {y : MethodName} {bytes : ByteArray} {maxL : Nat} {ret : Option FieldType} {ws : List Jvm.Cond} {rm : Room} {as' : Array Value} {h0 : Heap} {Q : Option Value → Heap → List Loc → Prop} {kc ks : Nat} {f0 : MethodId → JFrame} (hpn : plainFor y = true)
    (hef : ∀ m, entryFrame m as' maxL = f0 m)
    (body : ∀ (p : Program) (e : Env) (s : State) (m : MethodId) (below : List Frame) (meth : Method) (c : Code) (s₁ : State), Stand p l e rm s m as' below meth c s₁ [] 0 0 → p.tables.exec = Jvm.exec → c.code = bytes → c.maxLocals = maxL → meth.sig.returnType = ret → meth.locks = false → s.vm.findClass y.cls = some m.cls → meth.name = y.name → Z.Warmed39 s.vm → s₁.heap = h0 → s.methodNamed? y = some m → Run p e below Q (fun o t L => FrameEnd s o t L kc ks) s₁ (f0 m)) :
    Met l Z y bytes maxL ret ws rm as' h0 Q kc ks := by
  refine MetFree.of_bodySF (code := bytes) (maxLocals := maxL) (ret := ret) hpn hisR ?_
  intro p e s m args below meth c s₁ Bd hml0 hP hK
  obtain ⟨rfl, hZ, hh⟩ := hP
  obtain ⟨s₂, o, r⟩ := body p e s m below meth c s₁ (Stand.of_body Bd) Bd.exec Bd.bytes hml0 Bd.returns (BodyLoose.notSynchronized Bd) (findClass_of_methodNamed Bd.named) (name_of_methodNamed Bd.named Bd.method).1 hZ (by rw [← hh, Bd.state]; rfl) Bd.named
  rw [hef m]
  exact ⟨s₂, o, r⟩
theorem own_niS {C : String} {y z : MethodName} {k : String} (h : (Jvm.Cond.selects C y z).before args s = true) (hk : z.cls = k) : ∃ c2 k2, s.vm.findClass k = some c2 ∧ s.vm.classes[c2]? = some k2 ∧ k2.isInterface = false := by
  obtain ⟨c2, r2, m2, q1, q2, q3, q4, kP, hkP, hkPi⟩ := Cond.selects_spec h
  exact ⟨m2.cls, kP, by rw [← hk]; exact findClass_of_methodNamed q3, hkP, hkPi⟩
theorem own_nf {y : MethodName} (hni : ∃ c2 k2, s.vm.findClass y.cls = some c2 ∧ s.vm.classes[c2]? = some k2 ∧ k2.isInterface = false) : NotFace s y := fun r0 h0 => by
  obtain ⟨c2, k2, q1, q2, q3⟩ := hni
  cases q1.symm.trans (findClass_of_methodNamed h0)
  exact ⟨k2, q2, q3⟩
/-- a private method of a class of which no word says instantiable -/
theorem r_callP2 (X : Stand p l e R s m args below meth c T locs cells slots) (hx : p.tables.exec = Jvm.exec) (hZ : Z.Warmed39 s.vm) {own C : String} {index : Nat} {y : MethodName} {bytes : ByteArray} {maxL : Nat} {ret : Option FieldType} {rm : Room} {as' : Array Value} {Qc : Option Value → Heap → List Loc → Prop} {argsL : List Value} {W : Nat} {a : Addr}
    (hown : s.vm.findClass own = some m.cls) (w1 : (Jvm.Cond.methodLink own index y).before a0 Z = true) (w2 : (Jvm.Cond.instanceMethod y).before a0 Z = true) (wp : (Jvm.Cond.privateMethod y).before a0 Z = true) (hni : ∃ c2 k2, s.vm.findClass y.cls = some c2 ∧ s.vm.classes[c2]? = some k2 ∧ k2.isInterface = false) (w3 : (Jvm.Cond.initialized y.cls).before a0 Z = true) (w4 : (Jvm.Cond.code y bytes maxL ret).before a0 Z = true) (hy : y.cls ≠ "java/lang/invoke/MethodHandle" ∧ y.cls ≠ "java/lang/invoke/VarHandle")
    (hM : Met l Z y bytes maxL ret [] rm as' h Qc rm.cells rm.slots) (eT : T.heap = h) (E : Exa Z h a C) (hsz : Ls.size = c.maxLocals) (hlen : ∀ sig, parseMethodDescriptor y.desc = some sig → argsL.length = sig.parameters.length) (hst : st = argsL.reverse ++ .ref a :: rest) (has : (.ref a :: argsL).toArray = as') (hW : (rest.map fun v => v.category).sum = W)
    (hf : rm.frames + 1 ≤ R.frames) (hl : W + (maxL + 11) + rm.locals ≤ R.locals) (hcl : cells + rm.cells ≤ R.cells) (hsl : slots + rm.slots ≤ R.slots) (hd : decode c.code pc = .ok (.invokevirtual index, 3)) (hp : pc + 3 = pc')
    (r : ∀ (v : Option Value) (T' : State) (L : List Loc), Stand p l e R s m args below meth c T' (locs ++ L) (cells + rm.cells) (slots + rm.slots) → Qc v T'.heap L → Run p e below Q En T' (mkF m pc' Ls (v.toList ++ rest))) : Run p e below Q En T (mkF m pc Ls st) := by
  subst hp
  obtain ⟨cq, q, q'⟩ := E.cell
  obtain ⟨c2, k2, i1, i2, i4⟩ := hni
  have hpr : s.PrivateAt y := Cond.privateMethod_at (mvP (args := args) hZ wp)
  have hsel : (Jvm.Cond.selects y.cls y y).before args s = true := selects_self_of_private i1 i2 i4 hpr (mvT hZ w2) hy
  obtain ⟨v, _, ⟨T', L', k', n'⟩, -, X', ⟨L, hQ, l1, y1, z1⟩, stp⟩ := X.privateBack hx (y := y) hown (mvT hZ w1) (mvT hZ w2) hsel hpr (mvT hZ w4) hy (backOf (W := W) hM hZ w4 w3 hf hl) (g := mkF m pc Ls st) rfl hsz (Steps.refl _) (a := a) (by rw [eT]; exact q) q' (argsL := argsL) (rest := rest) hlen hst (by show 2 * 0 + _ ≤ _; omega) hd (fun _ _ => ⟨has, eT, hcl, hsl⟩)
  dsimp only at X' l1 y1 z1 stp hQ
  subst l1 y1 z1
  exact (r v T' L X' hQ).on fun _ q => stp.trans q
/-- getfield through an entry that is resolved already -/
theorem r_getFR (X : Stand p l e R s m args below meth c T locs cells slots) (hx : p.tables.exec = Jvm.exec) (hZ : Z.Warmed39 s.vm) {own R0 O n d : String} {index : Nat} {a : Addr} {v : Value} (hown : s.vm.findClass own = some m.cls) (w : (Jvm.Cond.fieldRef own index R0 n d).before a0 Z = true) (via : Via Z R0 O n d) (eT : T.heap = h) (F : Fld Z h a O n d v) (hd : decode c.code pc = .ok (.getfield index, 3)) (hp : pc + 3 = pc')
    (r : Run p e below Q En T (mkF m pc' Ls (v :: rest))) : Run p e below Q En T (mkF m pc Ls (.ref a :: rest)) := by
  subst hp
  obtain ⟨cell, cf, k, i, f, h1, h2, h3, h4, -, -, h7⟩ := F
  obtain ⟨k', hi, -⟩ := State.fieldFound?_setVm (s := Z) (hZ.alike.trans X.warmed.alike) (via _ h2)
  have w1 : (Jvm.Cond.fieldRef own index R0 n d).before a0 (Z.setVm s.vm) = true := Cond.fieldRef_warmed39 hZ w
  have w2 : (Jvm.Cond.fieldRef own index R0 n d).before a0 ((Z.setVm s.vm).setVm T.vm) = true := Cond.fieldRef_warmed (s := Z.setVm s.vm) X.warmed w1
  obtain ⟨c2, k2, i2, f2, q1, q2⟩ := Cond.fieldRef_spec (s := (Z.setVm s.vm).setVm T.vm) (cur := m.cls) (by show T.vm.findClass own = _; rw [X.warmed.alike.findClass]; exact hown) w2
  cases q1.symm.trans hi
  have q2' : T.vm.fieldReady m.cls index cf f := q2
  refine r.on fun t q => ?_
  have hc : T.heap[a]? = some cell := by rw [eT]; exact h1
  show Steps p.tables e below (T.setTop { method := m, pc := pc, locals := Ls, stack := .ref a :: rest, locked := none }) _
  jvm_step X.here [hx, hd, getfield.wp_ready (e := e) (s := T) (f := { method := m, pc := pc, locals := Ls, stack := .ref a :: rest, locked := none }) X.here.top q2' h3 rfl hc h4 h7]
  exact q
end Lam

section Fwd
open Jvm.Free.Fw Jvm.Free.Fn Jvm.Free.HMW
variable {p : Program} {l : Launch} {e : Env} {R : Room} {s : State} {m : MethodId} {args : Array Value} {below : List Frame} {meth : Method} {c : Code} {T T' : State} {locs : List Loc} {cells slots : Nat} {Q : Option Value → Heap → List Loc → Prop} {En : Outcome → State → List Loc → Prop} {kc ks : Nat} {Z : State} {a0 : Array Value} {h h' h0 : Heap} {Ls : Array Slot} {st rest : List Value} {pc pc' : Nat} {a b f : Addr} {cK : ClassId} {sl : Nat} {v : Value} {ws : List Addr}
/-- an object of a made class -/
def Lmo (Z : State) (h : Heap) (f : Addr) (cK : ClassId) : Prop := ∃ cell : Cell, h[f]? = some cell ∧ cell.cls = cK ∧ cell.vm = .none
theorem Lmo.lt (A : Lmo Z h f cK) : f < h.size := by obtain ⟨c, q, -⟩ := A; exact (Array.getElem?_eq_some_iff.mp q).1
theorem Lmo.ext (A : Lmo Z h f cK) (E : Ext h h') : Lmo Z h' f cK := by obtain ⟨c, q, r⟩ := A; exact ⟨c, E.2 _ _ q, r⟩
theorem Lmo.keep (A : Lmo Z h f cK) (K : Keep h h' ws) : Lmo Z h' f cK := by obtain ⟨c, q, r1, r2⟩ := A; obtain ⟨c', q', e1, e2, -⟩ := K.2.2 _ _ q; exact ⟨c', q', e1.trans r1, e2.trans r2⟩
theorem Lmo.wr (A : Lmo Z h f cK) (W : Wr h h' a sl v) : Lmo Z h' f cK := by
  obtain ⟨c, q, r1, r2⟩ := A
  obtain ⟨c0, w1, w2, w3, rfl⟩ := W
  by_cases hfa : f = a
  · subst hfa
    cases q.symm.trans w1
    exact ⟨c.setSlot sl v, by simp [(Array.getElem?_eq_some_iff.mp q).1], r1, r2⟩
  · exact ⟨c, by rw [← q]; simp [Array.getElem?_setIfInBounds, Ne.symm hfa], r1, r2⟩
theorem r_indyK (X : Stand p l e R s m args below meth c T locs cells slots) (hx : p.tables.exec = Jvm.exec) (hZ : Z.Warmed39 s.vm) {y : MethodName} {index W : Nat} {σ : Lambda.Shape} (hN : s.methodNamed? y = some m) (hat : Z.lambdaAt? y pc index σ = some (cK, some f)) (hsz : Ls.size = c.maxLocals) (hW : (rest.map fun v => v.category).sum = W) (hR : W + 3072 ≤ R.locals) (hd : decode c.code pc = .ok (.invokedynamic index, 5)) (hp : pc + 5 = pc')
    (r : Run p e below Q En T (mkF m pc' Ls (.ref f :: rest))) : Run p e below Q En T (mkF m pc Ls rest) := by
  subst hp
  obtain ⟨m', kS, cfS, i0, p0, lk, hm', hkS, -, -, -, hfind, -, -, hlk⟩ := State.lambdaAt?_spec hat
  have hm2 : s.methodNamed? y = some m' := by
    have q := State.methodNamed?_setVm (s := Z) hZ.alike y
    rw [hm'] at q
    exact q
  cases hN.symm.trans hm2
  obtain ⟨k', hk', he⟩ := hZ.alike.2.2 _ _ hkS
  have hfind' : (k'.callSites.find? fun y => y.1 == m.idx && y.2.1 == pc) = some (i0, p0, lk) := by rw [he]; exact hfind
  obtain rfl : lk = .constant f := by
    rcases hlk with ⟨a, -, h1, h2, -⟩ | ⟨-, h2, -⟩
    · rw [h1]; cases h2; rfl
    · cases h2
  exact r.on fun _ q => X.lambdaConstant hx (g := mkF m pc Ls rest) rfl hsz hd hk' hfind' (by rw [X.admits.platform]; show 2 * 0 + (rest.map fun v => v.category).sum + 3072 ≤ _; omega) q
theorem own_site {y : MethodName} {index : Nat} {σ : Lambda.Shape} (w : (Jvm.Cond.lambdaSite y pc index σ).before a0 Z = true) (hcap : σ.captured = []) : ∃ cK f, Z.lambdaAt? y pc index σ = some (cK, some f) ∧ Lmo Z Z.heap f cK := by
  obtain ⟨cK, one, hat⟩ := Cond.lambdaSite_spec w
  obtain ⟨m', kS, cfS, i0, p0, lk, hm', hkS, -, -, -, hfind, -, -, hlk⟩ := State.lambdaAt?_spec hat
  rcases hlk with ⟨a, cell, h1, h2, -, h3, h4, h5, -⟩ | ⟨-, -, h3⟩
  · subst h2; exact ⟨cK, a, hat, cell, h3, h4, h5⟩
  · exact absurd hcap h3
theorem own_f1 (hexec : p.tables.exec = Jvm.exec) {Rm R' : Room} {below' : List Frame} {s' : State} {sargs' : Array Value} {cK mi ci1 cT1 : Nat} {y : MethodName} {methk : Method} {ck : Code} {len W : Nat} {rt : FieldType}
    (hd0 : decode ck.code 0 = .ok (.aload_n 1, 1)) (hd1 : decode ck.code 1 = .ok (.checkcast ci1, 3)) (hd4 : decode ck.code 4 = .ok (.invokestatic mi, 3)) (hd7 : decode ck.code 7 = .ok (.ireturn, 1))
    (hF : ∀ U : State, s'.WarmedH U.vm → Base U cK methk ck 2 (some rt) ∧ U.vm.classReady cK ci1 cT1 ∧ StaticAt e U cK mi y 1)
    {PreT : Pt → Array Value → Prop} {PostT : Pt → Array Value → Option Value → Pt → Prop}
    (hT : ∀ (U : State) (g : JFrame) (a : Array Value), s'.WarmedH U.vm → Back l R' p e (.java g :: below') (U.calling g ⟨cK, 1⟩ a) a y 3 0 PreT PostT)
    (hrt : rt = .int ∨ rt = .boolean ∨ rt = .byte ∨ rt = .char ∨ rt = .short) (hretT : ∀ A a v B, PreT A a → PostT A a v B → ∃ w : Int32, v = some (.int w) ∧ narrow rt (.int w) = .int w)
    (hfr : R'.frames + 1 ≤ Rm.frames) (hlo : W + (2 + 11) + R'.locals ≤ Rm.locals) :
    BackW l Rm p e below' s' sargs' (fun _ m' => m' = ⟨cK, 1⟩) len W
      (fun A a => ∃ (f : Addr) (x1 : Value), a = #[.ref f, x1] ∧ x1.isRef = true ∧ Jvm.Free.Fw.Fits A.U cT1 x1 ∧ A.cells + R'.cells ≤ Rm.cells ∧ A.slots + R'.slots ≤ Rm.slots ∧ ∀ U₀ : State, U₀.vm = A.U.vm → U₀.heap = A.U.heap → PreT ⟨U₀, [], 0, 0⟩ #[x1])
      (fun A a v B => ∃ (x1 : Value) (U₀ U₁ : State) (L₁ : List Loc) (c₁ n₁ : Nat), a[1]? = some x1 ∧ U₀.vm = A.U.vm ∧ U₀.heap = A.U.heap ∧ PostT ⟨U₀, [], 0, 0⟩ #[x1] v ⟨U₁, L₁, c₁, n₁⟩ ∧ B.U.heap = U₁.heap ∧ B.U.vm = U₁.vm ∧ B.locs = A.locs ++ L₁ ∧ B.cells = A.cells + c₁ ∧ B.slots = A.slots + n₁) := by
  intro m meth c A gj ig mk a X hg hsize hdg hW hwho hpre
  obtain ⟨U, L, cc, nn⟩ := A
  dsimp only [Pt.U, Pt.locs, Pt.cells, Pt.slots] at X hpre hwho ⊢
  obtain ⟨f, x1, rfl, hr1, hfit1, hcl, hsl, hPT⟩ := hpre
  subst hwho
  obtain ⟨hB, hc1, hS⟩ := hF U X.warmed
  have hent := entry2 ⟨cK, 1⟩ f hr1
  obtain ⟨v, T', U₁, L₁, c₁, n₁, X', ⟨U₀, h1, h2, hpost⟩, hh, hv, -, steps⟩ := X.through hg hsize hdg #[.ref f, x1] (R' := R') hB.meth hB.code hB.locks hB.plain hfr (by rw [hB.maxL]; omega) hcl hsl
    (Φ := fun v U₁ L₁ c₁ n₁ => ∃ U₀ : State, U₀.vm = U.vm ∧ U₀.heap = U.heap ∧ PostT ⟨U₀, [], 0, 0⟩ #[x1] v ⟨U₁, L₁, c₁, n₁⟩)
    (fun U₀ hU₀ Y₀ => by
      have hvm : U₀.vm = U.vm := by rw [hU₀]; rfl
      have hheap : U₀.heap = U.heap := by rw [hU₀]; rfl
      rw [hB.maxL, hent]
      have k1 : Steps p.tables e (.java gj :: below') (U₀.setTop { method := ⟨cK, 1⟩, pc := 0, locals := #[.val (.ref f), .val x1], stack := [], locked := none }) (U₀.setTop { method := ⟨cK, 1⟩, pc := 1, locals := #[.val (.ref f), .val x1], stack := [x1], locked := none }) := by
        jvm_step Y₀.here [hexec, hd0, hr1]
        exact Steps.refl _
      have k2 := Y₀.checkcastR hexec (g := { method := ⟨cK, 1⟩, pc := 1, locals := #[.val (.ref f), .val x1], stack := [x1], locked := none }) rfl (index := ci1) (cT := cT1) (x := x1) (rest := []) (by rw [hvm]; exact hc1) rfl (hfit1.of hvm hheap) hd1 k1
      obtain ⟨t, kt, metht, q1, q2, q3, q4, q5, q6, q7, q8, q9⟩ := hS.of hvm
      obtain ⟨v, ⟨U₁, L₁, c₁, n₁⟩, Y₁, hpost, kE⟩ := Y₀.staticR hexec (g := { method := ⟨cK, 1⟩, pc := 4, locals := #[.val (.ref f), .val x1], stack := [x1], locked := none }) rfl (by rw [hB.maxL]; rfl) (index := mi) (y := y) (argsL := [x1]) (rest := []) q1 q2 q3 q4 q5 q6 q7 q8.symm rfl q9
        (hT U gj _ X.warmed) (by show 2 * 0 + 0 ≤ 0; decide) (hPT U₀ hvm hheap) hd4 k2
      dsimp only [Pt.U, Pt.locs, Pt.cells, Pt.slots] at Y₁ kE
      obtain ⟨w, rfl, hw⟩ := hretT _ _ _ _ (hPT U₀ hvm hheap) hpost
      exact ⟨some (.int w), U₁, L₁, c₁, n₁, Y₁, (fun h => by rw [hB.ret] at h; cases h), ⟨U₀, hvm, hheap, hpost⟩, fun fs hleave => kE.trans (Y₁.ireturnOut hexec hB.ret hw hrt hd7 hleave)⟩)
  exact ⟨v, ⟨T', L ++ L₁, cc + c₁, nn + n₁⟩, X', ⟨x1, U₀, U₁, L₁, c₁, n₁, rfl, h1, h2, hpost, hh, hv, rfl, rfl, rfl⟩, steps⟩
/-- what of a class stands under wider tables -/
theorem own_cls39 {vm' : Vm} (hW : Z.Warmed39 vm') {d : ClassId} {k : Class} (hk : Z.vm.classes[d]? = some k) : ∃ k' : Class, vm'.classes[d]? = some k' ∧ k'.name = k.name ∧ k'.cf = k.cf ∧ k'.isInterface = k.isInterface ∧ ∀ (i : Nat) (r : Resolved), k.resolved[i]? = some (some r) → k'.resolved[i]? = some (some r) := by
  obtain ⟨k', h1, h2, -, h4, -⟩ := hW.2.2.2 d k hk
  refine ⟨k', h1, by rw [h2], by rw [h2], by rw [h2]; rfl, fun i r q => ?_⟩
  rcases h4 i with h | ⟨h, -⟩
  · rw [h]; exact q
  · rw [q] at h; cases h
theorem own_fnx {xi : MethodName} {mk : MethodId} (hA : Z.vm.Alike s.vm) (h : FnX xi cK mk Z) : FnX xi cK mk s := by
  obtain ⟨kF, methK, h1, h2, h3, h4, h5⟩ := h
  obtain ⟨k', h1', -⟩ := hA.2.2 _ _ h1
  refine ⟨k', methK, h1', by rw [hA.method?]; exact h2, h3, h4, fun r0 r hn hr => ?_⟩
  have hn' : Z.methodNamed? xi = some r0 := by
    have q := State.methodNamed?_setVm (s := Z) hA xi
    rw [← q]; exact hn
  rw [hA.method?] at hr
  obtain ⟨q1, q2, q3⟩ := h5 r0 r hn' hr
  exact ⟨by rw [hA.assignable]; exact q1, by rw [hA.selectMethod]; exact q2, by rw [hA.superclasses]; simpa only [hA.declaredIn] using q3⟩
/-- the made class of a lambda with one cast argument and a static boolean body, as the tables have it -/
theorem own_made {y z : MethodName} {pcs index mi ci ct nt q1 q2 : Nat} {σ : Lambda.Shape} {D : ClassFile} {fw : Method} {B : ByteArray} {f : Addr} {CT : String} {rt : FieldType} {sig : MethodDescriptor} {bytes : ByteArray} {maxL : Nat}
    (hZ : Z.Warmed39 s.vm) (hat : Z.lambdaAt? y pcs index σ = some (cK, some f))
    (hfile : σ.file y.cls = some D) (hsec : ∀ ms, layoutMethods D = some ms → ms[1]? = some fw) (fcode : (fw.code.map fun c => (c.code.data, c.maxLocals)) = some (B.data, 2)) (fflags : fw.accessFlags = 0x0001) (fret : fw.sig.returnType = some rt) (hpl : plainName (y.cls ++ "$$Lambda") = true)
    (eM : D.constantPool[mi]? = some (.methodref ci nt) ∧ D.constantPool.className? ci = some z.cls ∧ D.constantPool.nameAndType? nt = some (z.name, z.desc)) (eC : D.constantPool[ci]? = some (.class_ q1) ∧ D.constantPool.string? q1 = some z.cls ∧ ci ≠ D.thisClass) (eT : D.constantPool[ct]? = some (.class_ q2) ∧ D.constantPool.string? q2 = some CT ∧ ct ≠ D.thisClass)
    (hi1 : σ.implClass = z.cls) (hi2 : σ.implName = z.name) (hi3 : σ.implDesc.toString = z.desc) (hCT : ∃ cT, Z.vm.findClass CT = some cT)
    (hz : z.cls ≠ "java/lang/invoke/MethodHandle" ∧ z.cls ≠ "java/lang/invoke/VarHandle") (w4 : (Jvm.Cond.code z bytes maxL (some rt)).before a0 Z = true) (wst : (Jvm.Cond.static z).before a0 Z = true) (wini : (Jvm.Cond.initialized z.cls).before a0 Z = true) (hsig : parseMethodDescriptor z.desc = some sig) (hn : sig.parameters.length = 1) :
    ∃ (methk : Method) (ck : Code) (cT : ClassId), ck.code = B ∧ Z.vm.findClass CT = some cT ∧ ∀ U : State, s.WarmedH U.vm → Base U cK methk ck 2 (some rt) ∧ U.vm.classReady cK ct cT ∧ StaticAt e U cK mi z 1 := by
  obtain ⟨m', kS, cf0, i0, p0, lk, hn', hk, -, -, -, -, hmade, hcan, -⟩ := State.lambdaAt?_spec hat
  have hfc : Z.vm.findClass y.cls = some m'.cls := findClass_of_methodNamed hn'
  obtain ⟨k', hk', hnm⟩ := Vm.findClass_spec hfc
  cases hk.symm.trans hk'
  obtain ⟨cT, hcT⟩ := hCT
  obtain ⟨dk, kK, ok, tk, file, cf', object, iface, t, lay, methods, target, found, hd, hkK, hkf, hfile', hob, hif, hok, hlay, hms, ht, htk, hlook, -, hrec, -, -, -, hitf, hpool, hmeth, hfields, hty, hres, hsel⟩ := Lambda.isMade_spec hmade
  cases hk.symm.trans hd
  rw [hnm] at hfile'
  cases hfile.symm.trans hfile'
  obtain ⟨b, hb, hsame⟩ := hmeth 1 fw (hsec methods hms)
  obtain ⟨-, -, hsg, hfl, x, y', hcx, hcy, -, hml, hcd, -⟩ := Lambda.sameMethod_spec hsame
  rw [hcx] at fcode
  simp only [Option.map_some, Option.some.injEq, Prod.mk.injEq] at fcode
  rw [hi1] at ht
  rw [hi2, hi3] at hlook
  have r1 := hres mi _ (Lambda.resolvedOf_method eM.1 eM.2.1 ht htk eM.2.2 hlook)
  have r2 := hres ci _ (Lambda.resolvedOf_class eC.1 eC.2.2 eC.2.1 ht)
  have r3 := hres ct _ (Lambda.resolvedOf_class eT.1 eT.2.2 eT.2.1 hcT)
  refine ⟨b, y', cT, hcd.trans (ByteArray.ext fcode.1), hcT, fun U hU => ?_⟩
  have hZU : Z.Warmed39 U.vm := wtrans hZ hU
  have hA := hZU.alike
  obtain ⟨kU, u1, u2, u3, -, u4⟩ := own_cls39 hZU hkK
  obtain ⟨tU, v1, v2, v3, v5, v4⟩ := own_cls39 hZU htk
  have hZb : Z.vm.method? ⟨cK, 1⟩ = some b := by simp [Vm.method?, hkK, hb]
  refine ⟨⟨by rw [hA.method?]; exact hZb, hcy, by simp [Method.locks, Method.isSynchronized, hfl, fflags, hasFlag, Acc.synchronized], State.plainMethod.of_name (fun k9 hk9 => by cases u1.symm.trans hk9; rw [u2, hrec.1, hnm]; exact hpl), hml.trans fcode.2, by rw [hsg]; exact fret⟩, ⟨kU, u1, u4 _ _ r3⟩, ?_⟩
  exact StaticAt.of_made (y := z) (ci := ci) (nt := nt) u1 (u3.trans hkf) (by rw [hpool.2.1]; exact eM.1) (by rw [hpool.2.1]; exact eM.2.2) ⟨kU, u1, u4 _ _ r1⟩ ⟨kU, u1, u4 _ _ r2⟩ (by rw [hA.findClass]; exact ht) v1 (by rw [v5, Lambda.methodIn_ask_alike hA]; exact hlook) hz (mvT hZU w4) (mvT hZU wst) (mvT hZU wini) hsig hn
/-- the call of such an object -/
theorem r_callL (X : Stand p l e R s m args below meth c T locs cells slots) (hx : p.tables.exec = Jvm.exec) (hZ : Z.Warmed39 s.vm) {own CT C : String} {index count mi ct W : Nat} {xi z : MethodName} {bytes : ByteArray} {maxL : Nat} {rm : Room} {Qc : Option Value → Heap → List Loc → Prop} {f x : Addr} {methk : Method} {ck : Code} {cT : ClassId} {rt : FieldType}
    (hown : s.vm.findClass own = some m.cls) (w1 : (Jvm.Cond.methodLink own index xi).before a0 Z = true) (w2 : (Jvm.Cond.declares xi).before a0 Z = true) (w7 : (Jvm.Cond.interfaceMethod xi.cls xi.cls xi.name xi.desc).before args s = true) (hxi : xi.cls ≠ "java/lang/invoke/MethodHandle" ∧ xi.cls ≠ "java/lang/invoke/VarHandle") (w3 : (Jvm.Cond.initialized z.cls).before a0 Z = true) (w4 : (Jvm.Cond.code z bytes maxL (some rt)).before a0 Z = true)
    (hFn : FnX xi cK ⟨cK, 1⟩ Z) (hd0 : decode ck.code 0 = .ok (.aload_n 1, 1)) (hd1 : decode ck.code 1 = .ok (.checkcast ct, 3)) (hd4 : decode ck.code 4 = .ok (.invokestatic mi, 3)) (hd7 : decode ck.code 7 = .ok (.ireturn, 1)) (hcT : Z.vm.findClass CT = some cT)
    (hF : ∀ U : State, s.WarmedH U.vm → Base U cK methk ck 2 (some rt) ∧ U.vm.classReady cK ct cT ∧ StaticAt e U cK mi z 1) (hrt : rt = .int ∨ rt = .boolean ∨ rt = .byte ∨ rt = .char ∨ rt = .short)
    (hM : Met l Z z bytes maxL (some rt) [] rm #[.ref x] h Qc rm.cells rm.slots) (hQr : ∀ v h L, Qc v h L → ∃ w : Int32, v = some (.int w) ∧ narrow rt (.int w) = .int w) (eT : T.heap = h) (L : Lmo Z h f cK) (E : Exa Z h x C) (I : Ins Z h x CT true) (hsz : Ls.size = c.maxLocals) (hlen : ∀ sig, parseMethodDescriptor xi.desc = some sig → 1 = sig.parameters.length) (hW : (rest.map fun v => v.category).sum = W)
    (hf : rm.frames + 2 ≤ R.frames) (hl : W + 13 + (maxL + 11 + rm.locals) ≤ R.locals) (hcl : cells + rm.cells ≤ R.cells) (hsl : slots + rm.slots ≤ R.slots) (hd : decode c.code pc = .ok (.invokeinterface index count, 5)) (hp : pc + 5 = pc')
    (r : ∀ (v : Option Value) (T' : State) (L : List Loc), Stand p l e R s m args below meth c T' (locs ++ L) (cells + rm.cells) (slots + rm.slots) → Qc v T'.heap L → Run p e below Q En T' (mkF m pc' Ls (v.toList ++ rest))) : Run p e below Q En T (mkF m pc Ls (.ref x :: .ref f :: rest)) := by
  subst hp
  have K := own_f1 (l := l) (p := p) (e := e) hx (Rm := R) (R' := ({ frames := rm.frames + 1, cells := rm.cells, slots := rm.slots, locals := maxL + 11 + rm.locals } : Room)) (below' := below) (s' := s) (sargs' := args) (cK := cK) (mi := mi) (ci1 := ct) (cT1 := cT) (y := z) (methk := methk) (ck := ck) (len := 5) (W := W) (rt := rt) hd0 hd1 hd4 hd7 hF
    (fun U g a hU => backOf (W := 0) hM (show Z.Warmed39 (U.calling g ⟨cK, 1⟩ a).vm from wtrans hZ hU) w4 w3 (Nat.le_refl _) (by show 0 + (maxL + 11) + rm.locals ≤ maxL + 11 + rm.locals; omega)) hrt
    (fun A a v B _ hq => by obtain ⟨L, hQ, -⟩ := hq; exact hQr _ _ _ hQ) (by show rm.frames + 1 + 1 ≤ _; omega) (by show W + (2 + 11) + (maxL + 11 + rm.locals) ≤ _; omega)
  obtain ⟨cf, q1, q2, q3⟩ := L
  obtain ⟨v, vm1, ⟨T', L', k', n'⟩, -, X', ⟨x1, U₀, U₁, L₁, c₁, n₁, g1, g2, g3, ⟨L, hQ, l1, y1, z1⟩, g5, g6, g7, g8, g9⟩, stp⟩ := X.fnAt hx (xi := xi) (index := index) (count := count) hown (fun w hw => by
      simp only [fnW, List.mem_cons, List.not_mem_nil, or_false] at hw
      rcases hw with rfl | rfl | rfl
      · exact mvT hZ w1
      · exact mvT hZ w2
      · exact w7) hxi (own_fnx hZ.alike hFn) K (fun _ _ => rfl) (b := f) ⟨cf, by rw [eT]; exact q1, q2, by rw [q3]; rfl⟩ (g := mkF m pc Ls (.ref x :: .ref f :: rest)) rfl hsz (Steps.refl _) (argsL := [.ref x]) (rest := rest) hlen rfl (by show 2 * 0 + _ ≤ _; omega) hd
    (fun vm1 hv1 => ⟨f, .ref x, rfl, rfl, Or.inr (by
      obtain ⟨cx, kx, e1, e2, e3, e4, -⟩ := E
      obtain ⟨cy, cT', i1, i2, i3⟩ := I
      cases e1.symm.trans i1
      cases hcT.symm.trans i2
      have i3' : Z.vm.assignable cx.cls cT = true := by rw [e4] at i3; simpa using i3
      obtain ⟨kt, t1, -⟩ := Vm.findClass_spec hcT
      have hA : Z.vm.Alike vm1 := hZ.alike.trans hv1.alike
      obtain ⟨ks', s1, -⟩ := hA.2.2 _ _ e3
      obtain ⟨kt', s2, -⟩ := hA.2.2 _ _ t1
      exact ⟨x, cx, ks', kt', rfl, by show T.heap[x]? = _; rw [eT]; exact e1, (fun q hq => by rw [hq] at e4; cases e4), s1, s2, by show vm1.assignable _ _ = true; rw [hA.assignable]; exact i3'⟩), hcl, hsl, fun U₀ u1 u2 => ⟨rfl, by show U₀.heap = h; rw [u2]; exact eT, by show 0 + rm.cells ≤ rm.cells; omega, by show 0 + rm.slots ≤ rm.slots; omega⟩⟩)
  dsimp only [Pt.U, Pt.locs, Pt.cells, Pt.slots] at X' stp hQ l1 y1 z1 g5 g7 g8 g9
  rw [Nat.zero_add] at y1 z1
  subst l1 y1 z1 g7 g8 g9
  exact (r v T' _ X' (by rw [g5]; exact hQ)).on fun _ q => stp.trans q
theorem r_instY (X : Stand p l e R s m args below meth c T locs cells slots) (hx : p.tables.exec = Jvm.exec) (hZ : Z.Warmed39 s.vm) {own K : String} {index : Nat} (hown : s.vm.findClass own = some m.cls) (w : (Jvm.Cond.classLink own index K).before a0 Z = true) (eT : T.heap = h) (I : Ins Z h a K true) (hd : decode c.code pc = .ok (.instanceof index, 3)) (hp : pc + 3 = pc')
    (r : ∀ T', Stand p l e R s m args below meth c T' locs cells slots → T'.heap = h → Run p e below Q En T' (mkF m pc' Ls (.int 1 :: rest))) : Run p e below Q En T (mkF m pc Ls (.ref a :: rest)) := by
  subst hp
  obtain ⟨T', X', e', stp⟩ := instY X hx hZ hown w eT I (g := mkF m pc Ls (.ref a :: rest)) rfl rfl hd
  exact (r T' X' e').on stp
theorem r_instNull (X : Stand p l e R s m args below meth c T locs cells slots) (hx : p.tables.exec = Jvm.exec) {index : Nat} (hd : decode c.code pc = .ok (.instanceof index, 3)) (hp : pc + 3 = pc') (r : Run p e below Q En T (mkF m pc' Ls (.int 0 :: rest))) : Run p e below Q En T (mkF m pc Ls (.null :: rest)) := by
  subst hp
  exact r.on fun _ q => X.instanceofNull hx (g := mkF m pc Ls (.null :: rest)) rfl rfl hd _ q
/-- a constructor that may intern -/
theorem r_callIW {vm0 : Vm} {k0 : Nat} (X : Stand p l e R (s.setVm vm0) m args below meth c T locs cells slots) (hx : p.tables.exec = Jvm.exec) (hZ : Z.Warmed39 vm0) {own : String} {index : Nat} {y : MethodName} {bytes : ByteArray} {maxL : Nat} {rm : Room} {as' : Array Value} {Qc : Option Value → Heap → List Loc → Prop} {argsL : List Value} {W : Nat} {a : Addr}
    (hown : vm0.findClass own = some m.cls) (hy1 : y.name = "<init>") (w1 : (Jvm.Cond.methodLink own index y).before a0 Z = true) (w2 : (Jvm.Cond.instanceMethod y).before a0 Z = true) (w3 : (Jvm.Cond.initialized y.cls).before a0 Z = true) (w4 : (Jvm.Cond.code y bytes maxL none).before a0 Z = true) (hy : y.cls ≠ "java/lang/invoke/MethodHandle" ∧ y.cls ≠ "java/lang/invoke/VarHandle") (hS : s.Since vm0 k0) (hk : k0 ≤ h.size)
    (hM : MetW l Z y bytes maxL none [] rm as' h Qc rm.cells rm.slots) (eT : T.heap = h) (hsz : Ls.size = c.maxLocals) (hlen : ∀ sig, parseMethodDescriptor y.desc = some sig → argsL.length = sig.parameters.length) (hst : st = argsL.reverse ++ .ref a :: rest) (has : (.ref a :: argsL).toArray = as') (hW : (rest.map fun v => v.category).sum = W)
    (hf : rm.frames + 1 ≤ R.frames) (hl : W + (maxL + 11) + rm.locals ≤ R.locals) (hcl : cells + rm.cells ≤ R.cells) (hsl : slots + rm.slots ≤ R.slots) (hd : decode c.code pc = .ok (.invokespecial index, 3)) (hp : pc + 3 = pc')
    (r : ∀ (v : Option Value) (T' : State) (L : List Loc), Stand p l e R (s.setVm T'.vm) m args below meth c T' (locs ++ L) (cells + rm.cells) (slots + rm.slots) → s.Since T'.vm T'.heap.size → Z.Warmed39 (s.setVm T'.vm).vm → (s.setVm T'.vm).vm.findClass own = some m.cls → Qc v T'.heap L → Run p e below Q En T' (mkF m pc' Ls (v.toList ++ rest))) : Run p e below Q En T (mkF m pc Ls st) := by
  subst hp
  obtain ⟨v, _, ⟨T', L', k', n'⟩, -, X', hs2, hg2, ⟨L, hQ, l1, y1, z1⟩, stp⟩ := X.specialBackS hx (y := y) hy1 hown (mvT (s := s.setVm vm0) hZ w1) (mvT (s := s.setVm vm0) hZ w2) (mvT (s := s.setVm vm0) hZ w4) hy (backOfS (W := W) hM hZ w4 w3 hf hl) (g := mkF m pc Ls st) rfl hsz (Steps.refl _) (a := a) (argsL := argsL) (rest := rest) hlen hst (by show 2 * 0 + _ ≤ _; omega) hd (fun _ _ => ⟨has, eT, hcl, hsl⟩)
  dsimp only at X' l1 y1 z1 stp hQ hs2 hg2
  subst l1 y1 z1
  obtain ⟨q1, q2, q3, q4⟩ := rebS hS (by rw [eT]; exact hk) X' hs2 hg2 hZ hown
  exact (r v T' L q1 q2 q3 q4 hQ).on fun _ q => stp.trans q
theorem metWN_of {y : MethodName} {bytes : ByteArray} {maxL : Nat} {ret : Option FieldType} {ws : List Jvm.Cond} {rm : Room} {as' : Array Value} {f0 : MethodId → JFrame} (hpn : plainFor y = true)
    (hef : ∀ m, entryFrame m as' maxL = f0 m)
    (body : ∀ (p : Program) (e : Env) (s : State) (m : MethodId) (below : List Frame) (meth : Method) (c : Code) (s₁ : State), Stand p l e rm s m as' below meth c s₁ [] 0 0 → p.tables.exec = Jvm.exec → c.code = bytes → c.maxLocals = maxL → meth.sig.returnType = ret → meth.locks = false → s.vm.findClass y.cls = some m.cls → meth.name = y.name → Z.Warmed39 s.vm → s₁.heap = h0 → s.methodNamed? y = some m → Run p e below Q (fun o t L => ReturnedEndW s o t L kc ks) s₁ (f0 m)) :
    MetW l Z y bytes maxL ret ws rm as' h0 Q kc ks := by
  refine MetFree.of_bodySF (code := bytes) (maxLocals := maxL) (ret := ret) hpn hisR ?_
  intro p e s m args below meth c s₁ Bd hml0 hP hK
  obtain ⟨rfl, hZ, hh⟩ := hP
  obtain ⟨s₂, o, r⟩ := body p e s m below meth c s₁ (Stand.of_body Bd) Bd.exec Bd.bytes hml0 Bd.returns (BodyLoose.notSynchronized Bd) (findClass_of_methodNamed Bd.named) (name_of_methodNamed Bd.named Bd.method).1 hZ (by rw [← hh, Bd.state]; rfl) Bd.named
  rw [hef m]
  exact ⟨s₂, o, r⟩
theorem own_nmd {vm0 : Vm} {k0 : Nat} {y : MethodName} (hS : s.Since vm0 k0) (hN : s.methodNamed? y = some m) : (s.setVm vm0).methodNamed? y = some m := by
  rw [State.methodNamed?_setVm hS.1.alike]; exact hN
end Fwd

theorem own_sa {Z : State} {a0 : Array Value} (hw : ∀ d ∈ tables_1, d.before a0 Z = true) : ∀ a ∈ Bundle.stringAtoms, a.before a0 Z = true := by
  intro a ha
  simp only [Bundle.stringAtoms, List.mem_cons, List.not_mem_nil, or_false] at ha
  rcases ha with rfl | rfl | rfl | rfl | rfl | rfl | rfl
  · exact hw _ (List.mem_of_getElem? (i := 6) rfl)
  · exact hw _ (List.mem_of_getElem? (i := 5) rfl)
  · exact hw _ (List.mem_of_getElem? (i := 23) rfl)
  · exact hw _ (List.mem_of_getElem? (i := 33) rfl)
  · exact hw _ (List.mem_of_getElem? (i := 31) rfl)
  · exact hw _ (List.mem_of_getElem? (i := 60) rfl)
  · exact hw _ (List.mem_of_getElem? (i := 61) rfl)
theorem own_ri (x : Int32) : -2147483648 ≤ x.toInt ∧ x.toInt ≤ 2147483647 := by
  have h1 := rng32 x
  omega
theorem own_n8 (x : Int32) : x.toInt8.toInt32.toInt8.toInt32 = x.toInt8.toInt32 := by simp
theorem own_nc {x : Int32} (h0 : 0 ≤ x.toInt) (h1 : x.toInt ≤ 255) : x.toUInt32.toUInt16.toUInt32.toInt32 = x := by
  have c := c_i2c x
  apply Int32.toInt_inj.mp
  omega
def own_g (c0 c1 : Int32) : Nat → Int32 := fun i => if i = 0 then c0.toInt8.toInt32 else c1.toInt8.toInt32
theorem own_b1 {Z : State} {h : Heap} {a : Addr} {x0 z : Int32} (A : Ary Z h a .char 1 (fun i => .int (if i = (0 : Int32).toInt.toNat then x0 else z))) : ∃ f : Nat → Int32, f 0 = x0 ∧ Ary Z h a .char 1 (fun i => .int (f i)) := ⟨_, rfl, A⟩
theorem own_b2 {Z : State} {h : Heap} {a : Addr} {x0 x1 z : Int32} (A : Ary Z h a .char 2 (fun i => .int (if i = (1 : Int32).toInt.toNat then x1 else if i = (0 : Int32).toInt.toNat then x0 else z))) : ∃ f : Nat → Int32, f 0 = x0 ∧ f 1 = x1 ∧ Ary Z h a .char 2 (fun i => .int (f i)) := ⟨_, rfl, rfl, A⟩
theorem own_i2 {i : Nat} (h : i < 2) : i = 0 ∨ i = 1 := by omega
theorem own_i1 {i : Nat} (h : i < 1) : i = 0 := by omega
theorem own_hb1 {gc : Nat → Int32} {c0 : Int32} (e0 : gc 0 = c0) (h0 : 0 ≤ c0.toInt ∧ c0.toInt ≤ 255) : ∀ i, i < 1 → 0 ≤ (gc i).toInt ∧ (gc i).toInt ≤ 255 := fun i hi => by
  rw [own_i1 hi, e0]; exact h0
theorem own_hb2 {gc : Nat → Int32} {c0 c1 : Int32} (e0 : gc 0 = c0) (e1 : gc 1 = c1) (h0 : 0 ≤ c0.toInt ∧ c0.toInt ≤ 255) (h1 : 0 ≤ c1.toInt ∧ c1.toInt ≤ 255) : ∀ i, i < 2 → 0 ≤ (gc i).toInt ∧ (gc i).toInt ≤ 255 := fun i hi => by
  rcases own_i2 hi with q | q
  · rw [q, e0]; exact h0
  · rw [q, e1]; exact h1
theorem own_cg1 {gc : Nat → Int32} {c0 c1 : Int32} (e0 : gc 0 = c0) : ∀ i, i < 1 → Value.int (gc i).toInt8.toInt32 = .int (own_g c0 c1 i) := fun i hi => by
  rw [own_i1 hi, e0]; rfl
theorem own_cg2 {gc : Nat → Int32} {c0 c1 : Int32} (e0 : gc 0 = c0) (e1 : gc 1 = c1) : ∀ i, i < 2 → Value.int (gc i).toInt8.toInt32 = .int (own_g c0 c1 i) := fun i hi => by
  rcases own_i2 hi with q | q
  · rw [q, e0]; rfl
  · rw [q, e1]; rfl
theorem d6_0 : decode jdk_52_method_21_code 0 = .ok (.iconst 0, 1) := by decide +kernel
theorem d6_1 : decode jdk_52_method_21_code 1 = .ok (.istore 5, 2) := by decide +kernel
theorem d6_3 : decode jdk_52_method_21_code 3 = .ok (.iload 5, 2) := by decide +kernel
theorem d6_5 : decode jdk_52_method_21_code 5 = .ok (.iload 4, 2) := by decide +kernel
theorem d6_7 : decode jdk_52_method_21_code 7 = .ok (.if_icmp .ge 37, 3) := by decide +kernel
theorem d6_10 : decode jdk_52_method_21_code 10 = .ok (.aload_n 0, 1) := by decide +kernel
theorem d6_11 : decode jdk_52_method_21_code 11 = .ok (.iload_n 1, 1) := by decide +kernel
theorem d6_12 : decode jdk_52_method_21_code 12 = .ok (.caload, 1) := by decide +kernel
theorem d6_13 : decode jdk_52_method_21_code 13 = .ok (.istore 6, 2) := by decide +kernel
theorem d6_15 : decode jdk_52_method_21_code 15 = .ok (.iload 6, 2) := by decide +kernel
theorem d6_17 : decode jdk_52_method_21_code 17 = .ok (.sipush 255, 3) := by decide +kernel
theorem d6_20 : decode jdk_52_method_21_code 20 = .ok (.if_icmp .le 6, 3) := by decide +kernel
theorem d6_26 : decode jdk_52_method_21_code 26 = .ok (.aload_n 2, 1) := by decide +kernel
theorem d6_27 : decode jdk_52_method_21_code 27 = .ok (.iload_n 3, 1) := by decide +kernel
theorem d6_28 : decode jdk_52_method_21_code 28 = .ok (.iload 6, 2) := by decide +kernel
theorem d6_30 : decode jdk_52_method_21_code 30 = .ok (.i2b, 1) := by decide +kernel
theorem d6_31 : decode jdk_52_method_21_code 31 = .ok (.bastore, 1) := by decide +kernel
theorem d6_32 : decode jdk_52_method_21_code 32 = .ok (.iinc 1 1, 3) := by decide +kernel
theorem d6_35 : decode jdk_52_method_21_code 35 = .ok (.iinc 3 1, 3) := by decide +kernel
theorem d6_38 : decode jdk_52_method_21_code 38 = .ok (.iinc 5 1, 3) := by decide +kernel
theorem d6_41 : decode jdk_52_method_21_code 41 = .ok (.goto (-38), 3) := by decide +kernel
theorem d6_44 : decode jdk_52_method_21_code 44 = .ok (.iload 4, 2) := by decide +kernel
theorem d6_46 : decode jdk_52_method_21_code 46 = .ok (.ireturn, 1) := by decide +kernel
theorem pn_0 : plainName "java/lang/StringUTF16" = true := by first | (simp [plainName, overriddenIn]; done) | decide +kernel
theorem ef_rmC5_1 (m : MethodId) (x0 : Addr) (x1 : Int32) (x2 : Addr) (x3 : Int32) (x4 : Int32) : entryFrame m #[(.ref x0), (.int x1), (.ref x2), (.int x3), (.int x4)] 7 = mkF m 0 #[.val (.ref x0), .val (.int x1), .val (.ref x2), .val (.int x3), .val (.int x4), .unset, .unset] [] := by first | (simp [entryFrame, mkF, argsToLocals, Value.category, maxLocals]; done) | rfl
set_option maxRecDepth 65536 in
set_option maxHeartbeats 40000000 in
theorem rmC5_1 (l : Launch) (Z : State) (a0 : Array Value) (hw : ∀ d ∈ tables_1, d.before a0 Z = true) (ws : List Jvm.Cond) (ch ds : Addr) (gc : Nat → Int32) (h0 : Heap) (n0 : Nat) (Z0 : n0 ≤ h0.size) (gd : n0 ≤ ds) (ncd : ch ≠ ds) (Ac : Ary Z h0 ch .char 1 (fun i => .int (gc i))) (Ad : Ary Z h0 ds .byte 1 (fun _ => .int 0)) (hgc : ∀ i, i < 1 → 0 ≤ (gc i).toInt ∧ (gc i).toInt ≤ 255)  :
    Met l Z (⟨"java/lang/StringUTF16", "compress", "([CI[BII)I"⟩ : MethodName) jdk_52_method_21_code 7 (some .int) ws ({ frames := 0, cells := 0, slots := 0, locals := 0 } : Room) #[(.ref ch), (.int (0 : Int32)), (.ref ds), (.int (0 : Int32)), (.int (1 : Int32))] h0 (fun v h L => v = some (.int 1) ∧ Fr n0 L ∧ Keep h0 h [ds] ∧ Ary Z h ds .byte 1 (fun i => .int ((gc i).toInt8.toInt32))) 0 0 := by
  refine met_of (plainFor_of_name pn_0) (f0 := fun m => (mkF m 0 #[.val (.ref ch), .val (.int (0 : Int32)), .val (.ref ds), .val (.int (0 : Int32)), .val (.int (1 : Int32)), .unset, .unset] [])) (fun m => ef_rmC5_1 m ch (0 : Int32) ds (0 : Int32) (1 : Int32)) ?_
  intro p e s m below meth c s₁ X0 hx hby hml hret hlk hown hnm hZ e0
  replace hown : s.vm.findClass "java/lang/StringUTF16" = some m.cls := hown
  have N0 := Fr.nil n0
  refine r_iconst X0.here hx (hb hby d6_0) (v := 0) rfl (pc' := 1) rfl ?_
  refine r_istore X0.here hx (hb hby d6_1) (l' := #[.val (.ref ch), .val (.int (0 : Int32)), .val (.ref ds), .val (.int (0 : Int32)), .val (.int (1 : Int32)), .val (.int (0 : Int32)), .unset]) rfl (pc' := 3) rfl ?_
  refine r_iload X0.here hx (hb hby d6_3) rfl (pc' := 5) rfl ?_
  refine r_iload X0.here hx (hb hby d6_5) rfl (pc' := 7) rfl ?_
  refine r_if_ge X0.here hx (hb hby d6_7) (by decide) (pc' := 44) (by decide) (pc2 := 10) rfl (fun hc7 => absurd hc7 (by decide)) (fun hc7 => ?_)
  refine r_aloadN X0.here hx (hb hby d6_10) rfl rfl (pc' := 11) rfl ?_
  refine r_iloadN X0.here hx (hb hby d6_11) rfl (pc' := 12) rfl ?_
  refine q_caload X0 hx hZ e0 (j := (0 : Int32)) (v := (gc 0)) Ac (by decide) (by decide) rfl (hb hby d6_12) (pc' := 13) rfl ?_
  refine r_istore X0.here hx (hb hby d6_13) (l' := #[.val (.ref ch), .val (.int (0 : Int32)), .val (.ref ds), .val (.int (0 : Int32)), .val (.int (1 : Int32)), .val (.int (0 : Int32)), .val (.int (gc 0))]) rfl (pc' := 15) rfl ?_
  refine r_iload X0.here hx (hb hby d6_15) rfl (pc' := 17) rfl ?_
  refine r_sipush X0.here hx (hb hby d6_17) (v := 255) rfl (pc' := 20) rfl ?_
  refine r_if_le X0.here hx (hb hby d6_20) (by decide) (pc' := 26) (by decide) (pc2 := 23) rfl (fun hc20 => ?_) (fun hc20 => absurd (show (gc 0).toInt ≤ (255 : Int32).toInt from (hgc 0 (by decide)).2) hc20)
  refine r_aloadN X0.here hx (hb hby d6_26) rfl rfl (pc' := 27) rfl ?_
  refine r_iloadN X0.here hx (hb hby d6_27) rfl (pc' := 28) rfl ?_
  refine r_iload X0.here hx (hb hby d6_28) rfl (pc' := 30) rfl ?_
  refine r_i2b X0.here hx (hb hby d6_30) (pc' := 31) rfl ?_
  refine q_bastoreB X0 hx hZ e0 (j := (0 : Int32)) Ad (by decide) (by decide) (w := ((gc 0).toInt8.toInt32)) (own_n8 _) (hb hby d6_31) (pc' := 32) rfl (fun T1 h1 X1 e1 W1 A1 => ?_)
  have K2 : Keep h0 h0 [ds] := Keep.refl _ _
  have K3 := K2.wr W1 (Or.inl (List.mem_of_getElem? (i := 0) rfl))
  have f4 := Ac.other W1 ncd
  have Z5 : n0 ≤ h1.size := by have q := Z0; rw [W1.size]; exact q
  have N1 := Fr.snoc X1 N0 gd
  refine r_iinc X1.here hx (hb hby d6_32) rfl (z := (1 : Int32)) rfl (l' := #[.val (.ref ch), .val (.int (1 : Int32)), .val (.ref ds), .val (.int (0 : Int32)), .val (.int (1 : Int32)), .val (.int (0 : Int32)), .val (.int (gc 0))]) rfl (pc' := 35) rfl ?_
  refine r_iinc X1.here hx (hb hby d6_35) rfl (z := (1 : Int32)) rfl (l' := #[.val (.ref ch), .val (.int (1 : Int32)), .val (.ref ds), .val (.int (1 : Int32)), .val (.int (1 : Int32)), .val (.int (0 : Int32)), .val (.int (gc 0))]) rfl (pc' := 38) rfl ?_
  refine r_iinc X1.here hx (hb hby d6_38) rfl (z := (1 : Int32)) rfl (l' := #[.val (.ref ch), .val (.int (1 : Int32)), .val (.ref ds), .val (.int (1 : Int32)), .val (.int (1 : Int32)), .val (.int (1 : Int32)), .val (.int (gc 0))]) rfl (pc' := 41) rfl ?_
  refine r_goto X1.here hx (hb hby d6_41) (by decide) (pc' := 3) (by decide) ?_
  refine r_iload X1.here hx (hb hby d6_3) rfl (pc' := 5) rfl ?_
  refine r_iload X1.here hx (hb hby d6_5) rfl (pc' := 7) rfl ?_
  refine r_if_ge X1.here hx (hb hby d6_7) (by decide) (pc' := 44) (by decide) (pc2 := 10) rfl (fun hc7_1 => ?_) (fun hc7_1 => absurd (by decide) hc7_1)
  refine r_iload X1.here hx (hb hby d6_44) rfl (pc' := 46) rfl ?_
  refine r_retI X1 hx hlk hret (hb hby d6_46) ?_ (by decide) (by decide)
  try rw [e1]
  exact ⟨rfl, N1, K3, A1.congr (fun i hi => by cases own_i1 hi; rfl)⟩
theorem d5_0 : decode jdk_52_method_16_code 0 = .ok (.iload_n 2, 1) := by decide +kernel
theorem d5_1 : decode jdk_52_method_16_code 1 = .ok (.newarray .byte, 2) := by decide +kernel
theorem d5_3 : decode jdk_52_method_16_code 3 = .ok (.astore_n 3, 1) := by decide +kernel
theorem d5_4 : decode jdk_52_method_16_code 4 = .ok (.aload_n 0, 1) := by decide +kernel
theorem d5_5 : decode jdk_52_method_16_code 5 = .ok (.iload_n 1, 1) := by decide +kernel
theorem d5_6 : decode jdk_52_method_16_code 6 = .ok (.aload_n 3, 1) := by decide +kernel
theorem d5_7 : decode jdk_52_method_16_code 7 = .ok (.iconst 0, 1) := by decide +kernel
theorem d5_8 : decode jdk_52_method_16_code 8 = .ok (.iload_n 2, 1) := by decide +kernel
theorem d5_9 : decode jdk_52_method_16_code 9 = .ok (.invokestatic 115, 3) := by decide +kernel
theorem pd_0 : parseMethodDescriptor "([CI[BII)I" = some ⟨[(.array .char), .int, (.array .byte), .int, .int], some .int⟩ := by decide +kernel
theorem d5_12 : decode jdk_52_method_16_code 12 = .ok (.istore 4, 2) := by decide +kernel
theorem d5_14 : decode jdk_52_method_16_code 14 = .ok (.iload 4, 2) := by decide +kernel
theorem d5_16 : decode jdk_52_method_16_code 16 = .ok (.iload_n 2, 1) := by decide +kernel
theorem d5_17 : decode jdk_52_method_16_code 17 = .ok (.if_icmp .eq 40, 3) := by decide +kernel
theorem d5_57 : decode jdk_52_method_16_code 57 = .ok (.aload_n 3, 1) := by decide +kernel
theorem d5_58 : decode jdk_52_method_16_code 58 = .ok (.areturn, 1) := by decide +kernel
theorem ef_rmC3_1 (m : MethodId) (x0 : Addr) (x1 : Int32) (x2 : Int32) : entryFrame m #[(.ref x0), (.int x1), (.int x2)] 6 = mkF m 0 #[.val (.ref x0), .val (.int x1), .val (.int x2), .unset, .unset, .unset] [] := by first | (simp [entryFrame, mkF, argsToLocals, Value.category, maxLocals]; done) | rfl
set_option maxRecDepth 65536 in
set_option maxHeartbeats 40000000 in
theorem rmC3_1 (l : Launch) (Z : State) (a0 : Array Value) (hw : ∀ d ∈ tables_1, d.before a0 Z = true) (ws : List Jvm.Cond) (ch : Addr) (gc : Nat → Int32) (h0 : Heap) (n0 : Nat) (Z0 : n0 ≤ h0.size) (Ac : Ary Z h0 ch .char 1 (fun i => .int (gc i))) (hgc : ∀ i, i < 1 → 0 ≤ (gc i).toInt ∧ (gc i).toInt ≤ 255)  :
    Met l Z (⟨"java/lang/StringUTF16", "compress", "([CII)[B"⟩ : MethodName) jdk_52_method_16_code 6 (some (.array .byte)) ws ({ frames := 1, cells := 1, slots := 1, locals := 18 } : Room) #[(.ref ch), (.int (0 : Int32)), (.int (1 : Int32))] h0 (fun v h L => ∃ b : Addr, v = some (.ref b) ∧ Fr n0 L ∧ Keep h0 h [] ∧ n0 ≤ b ∧ h0.size ≤ b ∧ Ary Z h b .byte 1 (fun i => .int ((gc i).toInt8.toInt32))) 1 1 := by
  refine met_of (plainFor_of_name pn_0) (f0 := fun m => (mkF m 0 #[.val (.ref ch), .val (.int (0 : Int32)), .val (.int (1 : Int32)), .unset, .unset, .unset] [])) (fun m => ef_rmC3_1 m ch (0 : Int32) (1 : Int32)) ?_
  intro p e s m below meth c s₁ X0 hx hby hml hret hlk hown hnm hZ e0
  replace hown : s.vm.findClass "java/lang/StringUTF16" = some m.cls := hown
  have N0 := Fr.nil n0
  refine r_iloadN X0.here hx (hb hby d5_0) rfl (pc' := 1) rfl ?_
  refine r_newarray X0 hx hZ (aty := .byte) (hw _ (List.mem_of_getElem? (i := 23) rfl)) e0 (cap := 1) (by decide) (by decide) (by decide) (by decide) (by decide) (hb hby d5_1) (pc' := 3) rfl (fun T6 h6 b6 k6 g6 X6 e6 E6 A6 => ?_)
  have K7 : Keep h0 h0 [] := Keep.refl _ _
  have fr8 : h0.size ≤ b6 := by rw [g6]; exact K7.1
  have ne9 : b6 ≠ ch := by have q := Ac.lt; rw [← g6] at q; exact Nat.ne_of_gt q
  have ge10 : n0 ≤ b6 := by rw [g6]; exact Z0
  have K11 := K7.ext E6
  have f12 := Ac.ext E6
  have Z13 : n0 ≤ h6.size := by have q := Z0; exact Nat.le_trans q E6.1
  have f14 : Ary Z h6 b6 .byte 1 (fun _ => .int 0) := Ary.new A6 rfl
  refine r_astoreN X6.here hx (hb hby d5_3) rfl (l' := #[.val (.ref ch), .val (.int (0 : Int32)), .val (.int (1 : Int32)), .val (.ref b6), .unset, .unset]) rfl (pc' := 4) rfl ?_
  refine r_aloadN X6.here hx (hb hby d5_4) rfl rfl (pc' := 5) rfl ?_
  refine r_iloadN X6.here hx (hb hby d5_5) rfl (pc' := 6) rfl ?_
  refine r_aloadN X6.here hx (hb hby d5_6) rfl rfl (pc' := 7) rfl ?_
  refine r_iconst X6.here hx (hb hby d5_7) (v := 0) rfl (pc' := 8) rfl ?_
  refine r_iloadN X6.here hx (hb hby d5_8) rfl (pc' := 9) rfl ?_
  refine r_callS X6 hx hZ (y := (⟨"java/lang/StringUTF16", "compress", "([CI[BII)I"⟩ : MethodName)) (rm := ({ frames := 0, cells := 0, slots := 0, locals := 0 } : Room)) hown (hw _ (List.mem_of_getElem? (i := 24) rfl)) (hw _ (List.mem_of_getElem? (i := 25) rfl)) (hw _ (List.mem_of_getElem? (i := 21) rfl)) (hw _ (List.mem_of_getElem? (i := 26) rfl)) (by decide) (rmC5_1 l Z a0 hw [] ch b6 gc h6 n0 Z13 ge10 (Ne.symm ne9) f12 f14 hgc) e6 (by rw [hml]; rfl) (argsL := [(.ref ch), (.int (0 : Int32)), (.ref b6), (.int (0 : Int32)), (.int (1 : Int32))]) (rest := []) (lenOf pd_0 rfl) rfl rfl (W := 0) rfl (by decide) (by decide) (by decide) (by decide) (hb hby d5_9) (pc' := 12) rfl ?_
  rintro v15 T15 L15 X15 ⟨rfl, Nq15, K15, Ab15⟩
  have N15 := Fr.app N0 Nq15
  show Run p e below _ _ T15 (mkF m 12 #[.val (.ref ch), .val (.int (0 : Int32)), .val (.int (1 : Int32)), .val (.ref b6), .unset, .unset] [(.int (1 : Int32))])
  have K16 := K11.trans K15 (allS (Or.inr fr8) all0)
  have f17 := f12.keep K15 (ninS (Ne.symm ne9) nin0)
  have Z18 : n0 ≤ T15.heap.size := by have q := Z13; exact Nat.le_trans q K15.1
  refine r_istore X15.here hx (hb hby d5_12) (l' := #[.val (.ref ch), .val (.int (0 : Int32)), .val (.int (1 : Int32)), .val (.ref b6), .val (.int (1 : Int32)), .unset]) rfl (pc' := 14) rfl ?_
  refine r_iload X15.here hx (hb hby d5_14) rfl (pc' := 16) rfl ?_
  refine r_iloadN X15.here hx (hb hby d5_16) rfl (pc' := 17) rfl ?_
  refine r_if_eq X15.here hx (hb hby d5_17) (by decide) (pc' := 57) (by decide) (pc2 := 20) rfl (fun hc17 => ?_) (fun hc17 => absurd rfl hc17)
  refine r_aloadN X15.here hx (hb hby d5_57) rfl rfl (pc' := 58) rfl ?_
  refine r_retA X15 hx hlk hret rfl rfl (hb hby d5_58) ?_ (by decide) (by decide)
  skip
  exact ⟨b6, rfl, N15, K16, ge10, fr8, Ab15⟩
theorem d7_0 : decode jdk_52_method_15_code 0 = .ok (.iload_n 1, 1) := by decide +kernel
theorem d7_1 : decode jdk_52_method_15_code 1 = .ok (.aload_n 0, 1) := by decide +kernel
theorem d7_2 : decode jdk_52_method_15_code 2 = .ok (.arraylength, 1) := by decide +kernel
theorem d7_3 : decode jdk_52_method_15_code 3 = .ok (.isub, 1) := by decide +kernel
theorem d7_4 : decode jdk_52_method_15_code 4 = .ok (.bipush 31, 2) := by decide +kernel
theorem d7_6 : decode jdk_52_method_15_code 6 = .ok (.iushr, 1) := by decide +kernel
theorem d7_7 : decode jdk_52_method_15_code 7 = .ok (.i2b, 1) := by decide +kernel
theorem d7_8 : decode jdk_52_method_15_code 8 = .ok (.ireturn, 1) := by decide +kernel
theorem ef_rmCf_1 (m : MethodId) (x0 : Addr) (x1 : Int32) : entryFrame m #[(.ref x0), (.int x1)] 2 = mkF m 0 #[.val (.ref x0), .val (.int x1)] [] := by first | (simp [entryFrame, mkF, argsToLocals, Value.category, maxLocals]; done) | rfl
set_option maxRecDepth 65536 in
set_option maxHeartbeats 40000000 in
theorem rmCf_1 (l : Launch) (Z : State) (a0 : Array Value) (hw : ∀ d ∈ tables_1, d.before a0 Z = true) (ws : List Jvm.Cond) (b : Addr) (fb : Nat → Value) (h0 : Heap) (n0 : Nat) (Z0 : n0 ≤ h0.size) (Ab : Ary Z h0 b .byte 1 fb) :
    Met l Z (⟨"java/lang/StringUTF16", "coderFromArrayLen", "([BI)B"⟩ : MethodName) jdk_52_method_15_code 2 (some .byte) ws ({ frames := 0, cells := 0, slots := 0, locals := 0 } : Room) #[(.ref b), (.int (1 : Int32))] h0 (fun v h L => v = some (.int 0) ∧ Fr n0 L ∧ h = h0) 0 0 := by
  refine met_of (plainFor_of_name pn_0) (f0 := fun m => (mkF m 0 #[.val (.ref b), .val (.int (1 : Int32))] [])) (fun m => ef_rmCf_1 m b (1 : Int32)) ?_
  intro p e s m below meth c s₁ X0 hx hby hml hret hlk hown hnm hZ e0
  replace hown : s.vm.findClass "java/lang/StringUTF16" = some m.cls := hown
  have N0 := Fr.nil n0
  refine r_iloadN X0.here hx (hb hby d7_0) rfl (pc' := 1) rfl ?_
  refine r_aloadN X0.here hx (hb hby d7_1) rfl rfl (pc' := 2) rfl ?_
  refine r_len X0 hx hZ e0 (z := (1 : Int32)) Ab rfl (hb hby d7_2) (pc' := 3) rfl ?_
  refine r_isub X0.here hx (hb hby d7_3) (pc' := 4) rfl ?_
  refine r_bipush X0.here hx (hb hby d7_4) (v := 31) rfl (pc' := 6) rfl ?_
  refine r_iushr X0.here hx (hb hby d7_6) (pc' := 7) rfl ?_
  refine r_i2b X0.here hx (hb hby d7_7) (pc' := 8) rfl ?_
  refine r_retN X0 hx hlk hret (by simp) (hb hby d7_8) (w := (0 : Int32)) rfl ?_ (by decide) (by decide)
  try rw [e0]
  exact ⟨rfl, N0, rfl⟩
theorem d3_0 : decode jdk_42_method_149_code 0 = .ok (.aload_n 0, 1) := by decide +kernel
theorem d3_1 : decode jdk_42_method_149_code 1 = .ok (.invokespecial 1, 3) := by decide +kernel
theorem d3_4 : decode jdk_42_method_149_code 4 = .ok (.iload_n 3, 1) := by decide +kernel
theorem d3_5 : decode jdk_42_method_149_code 5 = .ok (.ifCond .ne 22, 3) := by decide +kernel
theorem d3_27 : decode jdk_42_method_149_code 27 = .ok (.getstatic 38, 3) := by decide +kernel
theorem d3_30 : decode jdk_42_method_149_code 30 = .ok (.ifCond .eq 28, 3) := by decide +kernel
theorem d3_33 : decode jdk_42_method_149_code 33 = .ok (.aload_n 1, 1) := by decide +kernel
theorem d3_34 : decode jdk_42_method_149_code 34 = .ok (.iload_n 2, 1) := by decide +kernel
theorem d3_35 : decode jdk_42_method_149_code 35 = .ok (.iload_n 3, 1) := by decide +kernel
theorem d3_36 : decode jdk_42_method_149_code 36 = .ok (.invokestatic 177, 3) := by decide +kernel
theorem pd_1 : parseMethodDescriptor "([CII)[B" = some ⟨[(.array .char), .int, .int], some (.array .byte)⟩ := by decide +kernel
theorem d3_39 : decode jdk_42_method_149_code 39 = .ok (.astore 5, 2) := by decide +kernel
theorem d3_41 : decode jdk_42_method_149_code 41 = .ok (.aload_n 0, 1) := by decide +kernel
theorem d3_42 : decode jdk_42_method_149_code 42 = .ok (.aload 5, 2) := by decide +kernel
theorem d3_44 : decode jdk_42_method_149_code 44 = .ok (.iload_n 3, 1) := by decide +kernel
theorem d3_45 : decode jdk_42_method_149_code 45 = .ok (.invokestatic 47, 3) := by decide +kernel
theorem pd_2 : parseMethodDescriptor "([BI)B" = some ⟨[(.array .byte), .int], some .byte⟩ := by decide +kernel
theorem d3_48 : decode jdk_42_method_149_code 48 = .ok (.putfield 15, 3) := by decide +kernel
theorem d3_51 : decode jdk_42_method_149_code 51 = .ok (.aload_n 0, 1) := by decide +kernel
theorem d3_52 : decode jdk_42_method_149_code 52 = .ok (.aload 5, 2) := by decide +kernel
theorem d3_54 : decode jdk_42_method_149_code 54 = .ok (.putfield 9, 3) := by decide +kernel
theorem d3_57 : decode jdk_42_method_149_code 57 = .ok (.return_, 1) := by decide +kernel
theorem pn_1 : plainName "java/lang/String" = true := by first | (simp [plainName, overriddenIn]; done) | decide +kernel
theorem ef_rmS4_1 (m : MethodId) (x0 : Addr) (x1 : Addr) (x2 : Int32) (x3 : Int32) : entryFrame m #[(.ref x0), (.ref x1), (.int x2), (.int x3), .null] 6 = mkF m 0 #[.val (.ref x0), .val (.ref x1), .val (.int x2), .val (.int x3), .val .null, .unset] [] := by first | (simp [entryFrame, mkF, argsToLocals, Value.category, maxLocals]; done) | rfl
set_option maxRecDepth 65536 in
set_option maxHeartbeats 40000000 in
theorem rmS4_1 (l : Launch) (Z : State) (a0 : Array Value) (hw : ∀ d ∈ tables_1, d.before a0 Z = true) (ws : List Jvm.Cond) (o ch : Addr) (gc : Nat → Int32) (cs : Int32) (h0 : Heap) (n0 : Nat) (Z0 : n0 ≤ h0.size) (go : n0 ≤ o) (nco : ch ≠ o) (E_o : Exa Z h0 o "java/lang/String") (F_o_coder : Fld Z h0 o "java/lang/String" "coder" "B" (.int (0 : Int32))) (F_o_value : Fld Z h0 o "java/lang/String" "value" "[B" .null) (Ac : Ary Z h0 ch .char 1 (fun i => .int (gc i))) (hgc : ∀ i, i < 1 → 0 ≤ (gc i).toInt ∧ (gc i).toInt ≤ 255) (hcs : Sta Z h0 "java/lang/String" "COMPACT_STRINGS" "Z" (.int cs)) (hc0 : ¬ cs = 0)  :
    Met l Z (⟨"java/lang/String", "<init>", "([CIILjava/lang/Void;)V"⟩ : MethodName) jdk_42_method_149_code 6 none ws ({ frames := 2, cells := 1, slots := 1, locals := 35 } : Room) #[(.ref o), (.ref ch), (.int (0 : Int32)), (.int (1 : Int32)), .null] h0 (fun v h L => v = none ∧ Fr n0 L ∧ Keep h0 h [o] ∧ ∃ b : Addr, n0 ≤ b ∧ h0.size ≤ b ∧ Fld Z h o "java/lang/String" "coder" "B" (.int (0 : Int32)) ∧ Fld Z h o "java/lang/String" "value" "[B" (.ref b) ∧ Ary Z h b .byte 1 (fun i => .int ((gc i).toInt8.toInt32))) 1 1 := by
  refine met_of (plainFor_of_name pn_1) (f0 := fun m => (mkF m 0 #[.val (.ref o), .val (.ref ch), .val (.int (0 : Int32)), .val (.int (1 : Int32)), .val .null, .unset] [])) (fun m => ef_rmS4_1 m o ch (0 : Int32) (1 : Int32)) ?_
  intro p e s m below meth c s₁ X0 hx hby hml hret hlk hown hnm hZ e0
  replace hown : s.vm.findClass "java/lang/String" = some m.cls := hown
  have N0 := Fr.nil n0
  refine r_aloadN X0.here hx (hb hby d3_0) rfl rfl (pc' := 1) rfl ?_
  refine r_initO X0 hx hZ hown (hw _ (List.mem_of_getElem? (i := 15) rfl)) (hw _ (List.mem_of_getElem? (i := 16) rfl)) (hw _ (List.mem_of_getElem? (i := 17) rfl)) e0 (by rw [hml]; rfl) (by decide) (W := 0) rfl (by decide) (hb hby d3_1) (pc' := 4) rfl (fun T19 X19 e19 => ?_)
  refine r_iloadN X19.here hx (hb hby d3_4) rfl (pc' := 5) rfl ?_
  refine r_if0_ne X19.here hx (hb hby d3_5) (by decide) (pc' := 27) (by decide) (pc2 := 8) rfl (fun hc5 => ?_) (fun hc5 => absurd (by decide) hc5)
  refine r_getS X19 hx hZ hown (hw _ (List.mem_of_getElem? (i := 18) rfl)) Via.refl e19 hcs (hb hby d3_27) (pc' := 30) rfl (fun T20 X20 e20 => ?_)
  refine r_if0_eq X20.here hx (hb hby d3_30) (by decide) (pc' := 58) (by decide) (pc2 := 33) rfl (fun hc30 => absurd hc30 hc0) (fun hc30 => ?_)
  refine r_aloadN X20.here hx (hb hby d3_33) rfl rfl (pc' := 34) rfl ?_
  refine r_iloadN X20.here hx (hb hby d3_34) rfl (pc' := 35) rfl ?_
  refine r_iloadN X20.here hx (hb hby d3_35) rfl (pc' := 36) rfl ?_
  refine r_callS X20 hx hZ (y := (⟨"java/lang/StringUTF16", "compress", "([CII)[B"⟩ : MethodName)) (rm := ({ frames := 1, cells := 1, slots := 1, locals := 18 } : Room)) hown (hw _ (List.mem_of_getElem? (i := 19) rfl)) (hw _ (List.mem_of_getElem? (i := 20) rfl)) (hw _ (List.mem_of_getElem? (i := 21) rfl)) (hw _ (List.mem_of_getElem? (i := 22) rfl)) (by decide) (rmC3_1 l Z a0 hw [] ch gc h0 n0 Z0 Ac hgc) e20 (by rw [hml]; rfl) (argsL := [(.ref ch), (.int (0 : Int32)), (.int (1 : Int32))]) (rest := []) (lenOf pd_1 rfl) rfl rfl (W := 0) rfl (by decide) (by decide) (by decide) (by decide) (hb hby d3_36) (pc' := 39) rfl ?_
  rintro v21 T21 L21 X21 ⟨b, rfl, Nq21, K21, gbb_21, fbb_21, Ab21⟩
  have N21 := Fr.app N0 Nq21
  show Run p e below _ _ T21 (mkF m 39 #[.val (.ref o), .val (.ref ch), .val (.int (0 : Int32)), .val (.int (1 : Int32)), .val .null, .unset] [(.ref b)])
  have ne22 : b ≠ ch := Nat.ne_of_gt (Nat.lt_of_lt_of_le Ac.lt fbb_21)
  have ne23 : b ≠ o := Nat.ne_of_gt (Nat.lt_of_lt_of_le E_o.lt fbb_21)
  have fr24 : h0.size ≤ b := fbb_21
  have K25 : Keep h0 h0 [o] := Keep.refl _ _
  have K26 := K25.trans K21 all0
  have f27 := Ac.keep K21 nin0
  have f28 := own_staKeep hcs K21 all0
  have f29 := E_o.keep K21
  have f30 := F_o_coder.keep K21 nin0
  have f31 := F_o_value.keep K21 nin0
  have Z32 : n0 ≤ T21.heap.size := by have q := Z0; exact Nat.le_trans q K21.1
  refine r_astore X21.here hx (hb hby d3_39) rfl (l' := #[.val (.ref o), .val (.ref ch), .val (.int (0 : Int32)), .val (.int (1 : Int32)), .val .null, .val (.ref b)]) rfl (pc' := 41) rfl ?_
  refine r_aloadN X21.here hx (hb hby d3_41) rfl rfl (pc' := 42) rfl ?_
  refine r_aload X21.here hx (hb hby d3_42) rfl rfl (pc' := 44) rfl ?_
  refine r_iloadN X21.here hx (hb hby d3_44) rfl (pc' := 45) rfl ?_
  refine r_callS X21 hx hZ (y := (⟨"java/lang/StringUTF16", "coderFromArrayLen", "([BI)B"⟩ : MethodName)) (rm := ({ frames := 0, cells := 0, slots := 0, locals := 0 } : Room)) hown (hw _ (List.mem_of_getElem? (i := 27) rfl)) (hw _ (List.mem_of_getElem? (i := 28) rfl)) (hw _ (List.mem_of_getElem? (i := 21) rfl)) (hw _ (List.mem_of_getElem? (i := 29) rfl)) (by decide) (rmCf_1 l Z a0 hw [] b _ T21.heap n0 Z32 Ab21) rfl (by rw [hml]; rfl) (argsL := [(.ref b), (.int (1 : Int32))]) (rest := [(.ref o)]) (lenOf pd_2 rfl) rfl rfl (W := 1) rfl (by decide) (by decide) (by decide) (by decide) (hb hby d3_45) (pc' := 48) rfl ?_
  rintro v33 T33 L33 X33 ⟨rfl, Nq33, e33⟩
  have N33 := Fr.app N21 Nq33
  show Run p e below _ _ T33 (mkF m 48 #[.val (.ref o), .val (.ref ch), .val (.int (0 : Int32)), .val (.int (1 : Int32)), .val .null, .val (.ref b)] [(.int (0 : Int32)), (.ref o)])
  refine r_putFN X33 hx hZ hown (hw _ (List.mem_of_getElem? (i := 30) rfl)) Via.refl e33 f30 f29 (Or.inr ⟨(hw _ (List.mem_of_getElem? (i := 31) rfl)), rfl, hnm⟩) (hw _ (List.mem_of_getElem? (i := 5) rfl)) (ty := .byte) (v' := (.int (0 : Int32))) (by decide) rfl rfl (hb hby d3_48) (pc' := 51) rfl (fun T34 h34 X34 e34 W34 => ?_)
  have f35 := f30.same W34
  have K36 := K26.wr W34 (Or.inl (List.mem_of_getElem? (i := 0) rfl))
  have f37 := f27.other W34 nco
  have f38 := f28.wr W34
  have f39 := f29.wr W34
  have f40 := f31.other W34 (Or.inr (slot_ne (Or.inr (hw _ (List.mem_of_getElem? (i := 33) rfl)) : Laid Z a0 "java/lang/String" "java/lang/String" "value" "[B") (Or.inr (hw _ (List.mem_of_getElem? (i := 31) rfl)) : Laid Z a0 "java/lang/String" "java/lang/String" "coder" "B") (by decide) (t := (.array .byte)) (t' := .byte) (by decide) (by decide)))
  have f41 := Ab21.other W34 ne23
  have Z42 : n0 ≤ h34.size := by have q := Z32; rw [W34.size]; exact q
  have N34 := Fr.snoc X34 N33 go
  refine r_aloadN X34.here hx (hb hby d3_51) rfl rfl (pc' := 52) rfl ?_
  refine r_aload X34.here hx (hb hby d3_52) rfl rfl (pc' := 54) rfl ?_
  refine r_putF X34 hx hZ hown (hw _ (List.mem_of_getElem? (i := 32) rfl)) Via.refl e34 f40 f39 (Or.inr ⟨(hw _ (List.mem_of_getElem? (i := 33) rfl)), rfl, hnm⟩) (hw _ (List.mem_of_getElem? (i := 5) rfl)) (ty := (.array .byte)) (by decide) rfl rfl (hb hby d3_54) (pc' := 57) rfl (fun T43 h43 X43 e43 W43 => ?_)
  have f44 := f40.same W43
  have K45 := K36.wr W43 (Or.inl (List.mem_of_getElem? (i := 0) rfl))
  have f46 := f37.other W43 nco
  have f47 := f38.wr W43
  have f48 := f39.wr W43
  have f49 := f41.other W43 ne23
  have f50 := f35.other W43 (Or.inr (slot_ne (Or.inr (hw _ (List.mem_of_getElem? (i := 31) rfl)) : Laid Z a0 "java/lang/String" "java/lang/String" "coder" "B") (Or.inr (hw _ (List.mem_of_getElem? (i := 33) rfl)) : Laid Z a0 "java/lang/String" "java/lang/String" "value" "[B") (by decide) (t := .byte) (t' := (.array .byte)) (by decide) (by decide)))
  have Z51 : n0 ≤ h43.size := by have q := Z42; rw [W43.size]; exact q
  have N43 := Fr.snoc X43 N34 go
  refine r_ret0 X43 hx hlk hret (hb hby d3_57) ?_ (by decide) (by decide)
  try rw [e43]
  exact ⟨rfl, N43, K45, b, gbb_21, fr24, f50, f44, f49⟩
theorem d2_0 : decode jdk_42_method_3_code 0 = .ok (.aload_n 0, 1) := by decide +kernel
theorem d2_1 : decode jdk_42_method_3_code 1 = .ok (.aload_n 1, 1) := by decide +kernel
theorem d2_2 : decode jdk_42_method_3_code 2 = .ok (.iconst 0, 1) := by decide +kernel
theorem d2_3 : decode jdk_42_method_3_code 3 = .ok (.aload_n 1, 1) := by decide +kernel
theorem d2_4 : decode jdk_42_method_3_code 4 = .ok (.arraylength, 1) := by decide +kernel
theorem d2_5 : decode jdk_42_method_3_code 5 = .ok (.aconst_null, 1) := by decide +kernel
theorem d2_6 : decode jdk_42_method_3_code 6 = .ok (.invokespecial 27, 3) := by decide +kernel
theorem pd_3 : parseMethodDescriptor "([CIILjava/lang/Void;)V" = some ⟨[(.array .char), .int, .int, (.object "java/lang/Void")], none⟩ := by decide +kernel
theorem d2_9 : decode jdk_42_method_3_code 9 = .ok (.return_, 1) := by decide +kernel
theorem ef_rmS1_1 (m : MethodId) (x0 : Addr) (x1 : Addr) : entryFrame m #[(.ref x0), (.ref x1)] 2 = mkF m 0 #[.val (.ref x0), .val (.ref x1)] [] := by first | (simp [entryFrame, mkF, argsToLocals, Value.category, maxLocals]; done) | rfl
set_option maxRecDepth 65536 in
set_option maxHeartbeats 40000000 in
theorem rmS1_1 (l : Launch) (Z : State) (a0 : Array Value) (hw : ∀ d ∈ tables_1, d.before a0 Z = true) (ws : List Jvm.Cond) (o ch : Addr) (gc : Nat → Int32) (cs : Int32) (h0 : Heap) (n0 : Nat) (Z0 : n0 ≤ h0.size) (go : n0 ≤ o) (nco : ch ≠ o) (E_o : Exa Z h0 o "java/lang/String") (F_o_coder : Fld Z h0 o "java/lang/String" "coder" "B" (.int (0 : Int32))) (F_o_value : Fld Z h0 o "java/lang/String" "value" "[B" .null) (Ac : Ary Z h0 ch .char 1 (fun i => .int (gc i))) (hgc : ∀ i, i < 1 → 0 ≤ (gc i).toInt ∧ (gc i).toInt ≤ 255) (hcs : Sta Z h0 "java/lang/String" "COMPACT_STRINGS" "Z" (.int cs)) (hc0 : ¬ cs = 0)  :
    Met l Z (⟨"java/lang/String", "<init>", "([C)V"⟩ : MethodName) jdk_42_method_3_code 2 none ws ({ frames := 3, cells := 1, slots := 1, locals := 52 } : Room) #[(.ref o), (.ref ch)] h0 (fun v h L => v = none ∧ Fr n0 L ∧ Keep h0 h [o] ∧ ∃ b : Addr, n0 ≤ b ∧ h0.size ≤ b ∧ Fld Z h o "java/lang/String" "coder" "B" (.int (0 : Int32)) ∧ Fld Z h o "java/lang/String" "value" "[B" (.ref b) ∧ Ary Z h b .byte 1 (fun i => .int ((gc i).toInt8.toInt32))) 1 1 := by
  refine met_of (plainFor_of_name pn_1) (f0 := fun m => (mkF m 0 #[.val (.ref o), .val (.ref ch)] [])) (fun m => ef_rmS1_1 m o ch) ?_
  intro p e s m below meth c s₁ X0 hx hby hml hret hlk hown hnm hZ e0
  replace hown : s.vm.findClass "java/lang/String" = some m.cls := hown
  have N0 := Fr.nil n0
  refine r_aloadN X0.here hx (hb hby d2_0) rfl rfl (pc' := 1) rfl ?_
  refine r_aloadN X0.here hx (hb hby d2_1) rfl rfl (pc' := 2) rfl ?_
  refine r_iconst X0.here hx (hb hby d2_2) (v := 0) rfl (pc' := 3) rfl ?_
  refine r_aloadN X0.here hx (hb hby d2_3) rfl rfl (pc' := 4) rfl ?_
  refine r_len X0 hx hZ e0 (z := (1 : Int32)) Ac rfl (hb hby d2_4) (pc' := 5) rfl ?_
  refine r_aconst_null X0.here hx (hb hby d2_5) (pc' := 6) rfl ?_
  refine r_callI X0 hx hZ (y := (⟨"java/lang/String", "<init>", "([CIILjava/lang/Void;)V"⟩ : MethodName)) (rm := ({ frames := 2, cells := 1, slots := 1, locals := 35 } : Room)) hown rfl (hw _ (List.mem_of_getElem? (i := 11) rfl)) (hw _ (List.mem_of_getElem? (i := 12) rfl)) (hw _ (List.mem_of_getElem? (i := 6) rfl)) (hw _ (List.mem_of_getElem? (i := 14) rfl)) (by decide) (rmS4_1 l Z a0 hw [] o ch gc cs h0 n0 Z0 go nco E_o F_o_coder F_o_value Ac hgc hcs hc0) e0 (by rw [hml]; rfl) (argsL := [(.ref ch), (.int (0 : Int32)), (.int (1 : Int32)), .null]) (rest := []) (lenOf pd_3 rfl) rfl rfl (W := 0) rfl (by decide) (by decide) (by decide) (by decide) (hb hby d2_6) (pc' := 9) rfl ?_
  rintro v52 T52 L52 X52 ⟨rfl, Nq52, K52, b, gbb_52, fbb_52, Fo_0_52, Fo_1_52, Ab52⟩
  have N52 := Fr.app N0 Nq52
  show Run p e below _ _ T52 (mkF m 9 #[.val (.ref o), .val (.ref ch)] [])
  have ne53 : b ≠ ch := Nat.ne_of_gt (Nat.lt_of_lt_of_le Ac.lt fbb_52)
  have ne54 : b ≠ o := Nat.ne_of_gt (Nat.lt_of_lt_of_le E_o.lt fbb_52)
  have fr55 : h0.size ≤ b := fbb_52
  have K56 : Keep h0 h0 [o] := Keep.refl _ _
  have K57 := K56.trans K52 (allS (Or.inl (List.mem_of_getElem? (i := 0) rfl)) all0)
  have f58 := Ac.keep K52 (ninS nco nin0)
  have f59 := own_staKeep hcs K52 (allS (own_exaS E_o) all0)
  have f60 := E_o.keep K52
  have Z61 : n0 ≤ T52.heap.size := by have q := Z0; exact Nat.le_trans q K52.1
  refine r_ret0 X52 hx hlk hret (hb hby d2_9) ?_ (by decide) (by decide)
  skip
  exact ⟨rfl, N52, K57, b, gbb_52, fr55, Fo_0_52, Fo_1_52, Ab52⟩
theorem d1_0 : decode method_2_code 0 = .ok (.iload_n 0, 1) := by decide +kernel
theorem d1_1 : decode method_2_code 1 = .ok (.iconst 1, 1) := by decide +kernel
theorem d1_2 : decode method_2_code 2 = .ok (.if_icmp .ne 18, 3) := by decide +kernel
theorem d1_5 : decode method_2_code 5 = .ok (.new 7, 3) := by decide +kernel
theorem d1_8 : decode method_2_code 8 = .ok (.dup, 1) := by decide +kernel
theorem d1_9 : decode method_2_code 9 = .ok (.iconst 1, 1) := by decide +kernel
theorem d1_10 : decode method_2_code 10 = .ok (.newarray .char, 2) := by decide +kernel
theorem d1_12 : decode method_2_code 12 = .ok (.dup, 1) := by decide +kernel
theorem d1_13 : decode method_2_code 13 = .ok (.iconst 0, 1) := by decide +kernel
theorem d1_14 : decode method_2_code 14 = .ok (.iload_n 1, 1) := by decide +kernel
theorem d1_15 : decode method_2_code 15 = .ok (.castore, 1) := by decide +kernel
theorem d1_16 : decode method_2_code 16 = .ok (.invokespecial 9, 3) := by decide +kernel
theorem pd_4 : parseMethodDescriptor "([C)V" = some ⟨[(.array .char)], none⟩ := by decide +kernel
theorem d1_19 : decode method_2_code 19 = .ok (.areturn, 1) := by decide +kernel
theorem pn_2 : plainName "com/example/lease/lease/store/RedisAddressEqualsPinLaw" = true := by first | (simp [plainName, overriddenIn]; done) | decide +kernel
theorem ef_rmMk1 (m : MethodId) (x0 : Int32) (x1 : Int32) (x2 : Int32) : entryFrame m #[(.int x0), (.int x1), (.int x2)] 3 = mkF m 0 #[.val (.int x0), .val (.int x1), .val (.int x2)] [] := by first | (simp [entryFrame, mkF, argsToLocals, Value.category, maxLocals]; done) | rfl
set_option maxRecDepth 65536 in
set_option maxHeartbeats 40000000 in
theorem rmMk1 (l : Launch) (Z : State) (a0 : Array Value) (hw : ∀ d ∈ tables_1, d.before a0 Z = true) (ws : List Jvm.Cond) (c0 c1 cs : Int32) (h0 : Heap) (n0 : Nat) (Z0 : n0 ≤ h0.size) (hb0 : 0 ≤ c0.toInt ∧ c0.toInt ≤ 255) (hb1 : 0 ≤ c1.toInt ∧ c1.toInt ≤ 255) (hcs : Sta Z h0 "java/lang/String" "COMPACT_STRINGS" "Z" (.int cs)) (hc0 : ¬ cs = 0)  :
    Met l Z (⟨"com/example/lease/lease/store/RedisAddressEqualsPinLaw", "mk", "(ICC)Ljava/lang/String;"⟩ : MethodName) method_2_code 3 (some (.object "java/lang/String")) ws ({ frames := 4, cells := 3, slots := 8, locals := 66 } : Room) #[(.int (1 : Int32)), (.int c0), (.int c1)] h0 (fun v h L => ∃ sa sb : Addr, v = some (.ref sa) ∧ Fr n0 L ∧ Keep h0 h [] ∧ n0 ≤ sa ∧ h0.size ≤ sa ∧ n0 ≤ sb ∧ h0.size ≤ sb ∧ sb ≠ sa ∧ Exa Z h sa "java/lang/String" ∧ Fld Z h sa "java/lang/String" "coder" "B" (.int (0 : Int32)) ∧ Fld Z h sa "java/lang/String" "value" "[B" (.ref sb) ∧ Ary Z h sb .byte 1 (fun i => .int (own_g c0 c1 i))) 3 8 := by
  refine met_of (plainFor_of_name pn_2) (f0 := fun m => (mkF m 0 #[.val (.int (1 : Int32)), .val (.int c0), .val (.int c1)] [])) (fun m => ef_rmMk1 m (1 : Int32) c0 c1) ?_
  intro p e s m below meth c s₁ X0 hx hby hml hret hlk hown hnm hZ e0
  replace hown : s.vm.findClass "com/example/lease/lease/store/RedisAddressEqualsPinLaw" = some m.cls := hown
  have N0 := Fr.nil n0
  refine r_iloadN X0.here hx (hb hby d1_0) rfl (pc' := 1) rfl ?_
  refine r_iconst X0.here hx (hb hby d1_1) (v := 1) rfl (pc' := 2) rfl ?_
  refine r_if_ne X0.here hx (hb hby d1_2) (by decide) (pc' := 20) (by decide) (pc2 := 5) rfl (fun hc2 => absurd rfl hc2) (fun hc2 => ?_)
  refine r_new X0 hx hZ hown (hw _ (List.mem_of_getElem? (i := 4) rfl)) (hw _ (List.mem_of_getElem? (i := 5) rfl)) (hw _ (List.mem_of_getElem? (i := 6) rfl)) e0 (by decide) (by decide) (hb hby d1_5) (pc' := 8) rfl (fun T62 h62 b62 g62 X62 e62 E62 A62 D62 => ?_)
  have K63 : Keep h0 h0 [] := Keep.refl _ _
  have fr64 : h0.size ≤ b62 := by rw [g62]; exact K63.1
  have ge65 : n0 ≤ b62 := by rw [g62]; exact Z0
  have K66 := K63.ext E62
  have f67 := own_staExt hcs E62
  have Z68 : n0 ≤ h62.size := by have q := Z0; exact Nat.le_trans q E62.1
  have f69 : Fld Z h62 b62 "java/lang/String" "coder" "B" (.int (0 : Int32)) := D62 (Or.inr (hw _ (List.mem_of_getElem? (i := 31) rfl))) (ty := .byte) (by decide)
  have f70 : Fld Z h62 b62 "java/lang/String" "value" "[B" .null := D62 (Or.inr (hw _ (List.mem_of_getElem? (i := 33) rfl))) (ty := (.array .byte)) (by decide)
  refine r_dup X62.here hx (hb hby d1_8) rfl (pc' := 9) rfl ?_
  refine r_iconst X62.here hx (hb hby d1_9) (v := 1) rfl (pc' := 10) rfl ?_
  refine r_newarray X62 hx hZ (aty := .char) (hw _ (List.mem_of_getElem? (i := 7) rfl)) e62 (cap := 1) (by decide) (by decide) (by decide) (by decide) (by decide) (hb hby d1_10) (pc' := 12) rfl (fun T71 h71 b71 k71 g71 X71 e71 E71 A71 => ?_)
  have fr72 : h0.size ≤ b71 := by rw [g71]; exact K66.1
  have ne73 : b71 ≠ b62 := by have q := A62.lt; rw [← g71] at q; exact Nat.ne_of_gt q
  have ge74 : n0 ≤ b71 := by rw [g71]; exact Z68
  have K75 := K66.ext E71
  have f76 := own_staExt f67 E71
  have f77 := A62.ext E71
  have f78 := f69.ext E71
  have f79 := f70.ext E71
  have Z80 : n0 ≤ h71.size := by have q := Z68; exact Nat.le_trans q E71.1
  have f81 : Ary Z h71 b71 .char 1 (fun _ => .int 0) := Ary.new A71 rfl
  refine r_dup X71.here hx (hb hby d1_12) rfl (pc' := 13) rfl ?_
  refine r_iconst X71.here hx (hb hby d1_13) (v := 0) rfl (pc' := 14) rfl ?_
  refine r_iloadN X71.here hx (hb hby d1_14) rfl (pc' := 15) rfl ?_
  refine q_castore X71 hx hZ e71 (j := (0 : Int32)) f81 (by decide) (by decide) (w := c0) (own_nc (hb0).1 (hb0).2) (hb hby d1_15) (pc' := 16) rfl (fun T82 h82 X82 e82 W82 A82 => ?_)
  have K83 := K75.wr W82 (Or.inr fr72)
  have f84 := f76.wr W82
  have f85 := f77.wr W82
  have f86 := f78.other W82 (Or.inl (Ne.symm ne73))
  have f87 := f79.other W82 (Or.inl (Ne.symm ne73))
  have Z88 : n0 ≤ h82.size := by have q := Z80; rw [W82.size]; exact q
  have N82 := Fr.snoc X82 N0 ge74
  obtain ⟨gc, e0, Ag⟩ := own_b1 A82
  refine r_callI X82 hx hZ (y := (⟨"java/lang/String", "<init>", "([C)V"⟩ : MethodName)) (rm := ({ frames := 3, cells := 1, slots := 1, locals := 52 } : Room)) hown rfl (hw _ (List.mem_of_getElem? (i := 8) rfl)) (hw _ (List.mem_of_getElem? (i := 9) rfl)) (hw _ (List.mem_of_getElem? (i := 6) rfl)) (hw _ (List.mem_of_getElem? (i := 10) rfl)) (by decide) (rmS1_1 l Z a0 hw [] b62 b71 gc cs h82 n0 Z88 ge65 ne73 f85 f86 f87 Ag (own_hb1 e0 hb0) f84 hc0) e82 (by rw [hml]; rfl) (argsL := [(.ref b71)]) (rest := [(.ref b62)]) (lenOf pd_4 rfl) rfl rfl (W := 1) rfl (by decide) (by decide) (by decide) (by decide) (hb hby d1_16) (pc' := 19) rfl ?_
  rintro v89 T89 L89 X89 ⟨rfl, Nq89, K89, b, gbb_89, fbb_89, Fo_0_89, Fo_1_89, Ab89⟩
  have N89 := Fr.app N82 Nq89
  show Run p e below _ _ T89 (mkF m 19 #[.val (.int (1 : Int32)), .val (.int c0), .val (.int c1)] [(.ref b62)])
  have ne90 : b ≠ b62 := Nat.ne_of_gt (Nat.lt_of_lt_of_le f85.lt fbb_89)
  have ne91 : b ≠ b71 := Nat.ne_of_gt (Nat.lt_of_lt_of_le Ag.lt fbb_89)
  have fr92 : h0.size ≤ b := Nat.le_trans K83.1 fbb_89
  have K93 := K83.trans K89 (allS (Or.inr fr64) all0)
  have f94 := own_staKeep f84 K89 (allS (own_exaS f85) all0)
  have f95 := f85.keep K89
  have f96 := Ag.keep K89 (ninS ne73 nin0)
  have Z97 : n0 ≤ T89.heap.size := by have q := Z88; exact Nat.le_trans q K89.1
  refine r_retA X89 hx hlk hret rfl rfl (hb hby d1_19) ?_ (by decide) (by decide)
  skip
  exact ⟨b62, b, rfl, N89, K93, ge65, fr64, gbb_89, fr92, ne90, f95, Fo_0_89, Fo_1_89, Ab89.congr (own_cg1 e0)⟩
theorem ef_rmC5_2 (m : MethodId) (x0 : Addr) (x1 : Int32) (x2 : Addr) (x3 : Int32) (x4 : Int32) : entryFrame m #[(.ref x0), (.int x1), (.ref x2), (.int x3), (.int x4)] 7 = mkF m 0 #[.val (.ref x0), .val (.int x1), .val (.ref x2), .val (.int x3), .val (.int x4), .unset, .unset] [] := by first | (simp [entryFrame, mkF, argsToLocals, Value.category, maxLocals]; done) | rfl
set_option maxRecDepth 65536 in
set_option maxHeartbeats 40000000 in
theorem rmC5_2 (l : Launch) (Z : State) (a0 : Array Value) (hw : ∀ d ∈ tables_1, d.before a0 Z = true) (ws : List Jvm.Cond) (ch ds : Addr) (gc : Nat → Int32) (h0 : Heap) (n0 : Nat) (Z0 : n0 ≤ h0.size) (gd : n0 ≤ ds) (ncd : ch ≠ ds) (Ac : Ary Z h0 ch .char 2 (fun i => .int (gc i))) (Ad : Ary Z h0 ds .byte 2 (fun _ => .int 0)) (hgc : ∀ i, i < 2 → 0 ≤ (gc i).toInt ∧ (gc i).toInt ≤ 255)  :
    Met l Z (⟨"java/lang/StringUTF16", "compress", "([CI[BII)I"⟩ : MethodName) jdk_52_method_21_code 7 (some .int) ws ({ frames := 0, cells := 0, slots := 0, locals := 0 } : Room) #[(.ref ch), (.int (0 : Int32)), (.ref ds), (.int (0 : Int32)), (.int (2 : Int32))] h0 (fun v h L => v = some (.int 2) ∧ Fr n0 L ∧ Keep h0 h [ds] ∧ Ary Z h ds .byte 2 (fun i => .int ((gc i).toInt8.toInt32))) 0 0 := by
  refine met_of (plainFor_of_name pn_0) (f0 := fun m => (mkF m 0 #[.val (.ref ch), .val (.int (0 : Int32)), .val (.ref ds), .val (.int (0 : Int32)), .val (.int (2 : Int32)), .unset, .unset] [])) (fun m => ef_rmC5_2 m ch (0 : Int32) ds (0 : Int32) (2 : Int32)) ?_
  intro p e s m below meth c s₁ X0 hx hby hml hret hlk hown hnm hZ e0
  replace hown : s.vm.findClass "java/lang/StringUTF16" = some m.cls := hown
  have N0 := Fr.nil n0
  refine r_iconst X0.here hx (hb hby d6_0) (v := 0) rfl (pc' := 1) rfl ?_
  refine r_istore X0.here hx (hb hby d6_1) (l' := #[.val (.ref ch), .val (.int (0 : Int32)), .val (.ref ds), .val (.int (0 : Int32)), .val (.int (2 : Int32)), .val (.int (0 : Int32)), .unset]) rfl (pc' := 3) rfl ?_
  refine r_iload X0.here hx (hb hby d6_3) rfl (pc' := 5) rfl ?_
  refine r_iload X0.here hx (hb hby d6_5) rfl (pc' := 7) rfl ?_
  refine r_if_ge X0.here hx (hb hby d6_7) (by decide) (pc' := 44) (by decide) (pc2 := 10) rfl (fun hc7 => absurd hc7 (by decide)) (fun hc7 => ?_)
  refine r_aloadN X0.here hx (hb hby d6_10) rfl rfl (pc' := 11) rfl ?_
  refine r_iloadN X0.here hx (hb hby d6_11) rfl (pc' := 12) rfl ?_
  refine q_caload X0 hx hZ e0 (j := (0 : Int32)) (v := (gc 0)) Ac (by decide) (by decide) rfl (hb hby d6_12) (pc' := 13) rfl ?_
  refine r_istore X0.here hx (hb hby d6_13) (l' := #[.val (.ref ch), .val (.int (0 : Int32)), .val (.ref ds), .val (.int (0 : Int32)), .val (.int (2 : Int32)), .val (.int (0 : Int32)), .val (.int (gc 0))]) rfl (pc' := 15) rfl ?_
  refine r_iload X0.here hx (hb hby d6_15) rfl (pc' := 17) rfl ?_
  refine r_sipush X0.here hx (hb hby d6_17) (v := 255) rfl (pc' := 20) rfl ?_
  refine r_if_le X0.here hx (hb hby d6_20) (by decide) (pc' := 26) (by decide) (pc2 := 23) rfl (fun hc20 => ?_) (fun hc20 => absurd (show (gc 0).toInt ≤ (255 : Int32).toInt from (hgc 0 (by decide)).2) hc20)
  refine r_aloadN X0.here hx (hb hby d6_26) rfl rfl (pc' := 27) rfl ?_
  refine r_iloadN X0.here hx (hb hby d6_27) rfl (pc' := 28) rfl ?_
  refine r_iload X0.here hx (hb hby d6_28) rfl (pc' := 30) rfl ?_
  refine r_i2b X0.here hx (hb hby d6_30) (pc' := 31) rfl ?_
  refine q_bastoreB X0 hx hZ e0 (j := (0 : Int32)) Ad (by decide) (by decide) (w := ((gc 0).toInt8.toInt32)) (own_n8 _) (hb hby d6_31) (pc' := 32) rfl (fun T98 h98 X98 e98 W98 A98 => ?_)
  have K99 : Keep h0 h0 [ds] := Keep.refl _ _
  have K100 := K99.wr W98 (Or.inl (List.mem_of_getElem? (i := 0) rfl))
  have f101 := Ac.other W98 ncd
  have Z102 : n0 ≤ h98.size := by have q := Z0; rw [W98.size]; exact q
  have N98 := Fr.snoc X98 N0 gd
  refine r_iinc X98.here hx (hb hby d6_32) rfl (z := (1 : Int32)) rfl (l' := #[.val (.ref ch), .val (.int (1 : Int32)), .val (.ref ds), .val (.int (0 : Int32)), .val (.int (2 : Int32)), .val (.int (0 : Int32)), .val (.int (gc 0))]) rfl (pc' := 35) rfl ?_
  refine r_iinc X98.here hx (hb hby d6_35) rfl (z := (1 : Int32)) rfl (l' := #[.val (.ref ch), .val (.int (1 : Int32)), .val (.ref ds), .val (.int (1 : Int32)), .val (.int (2 : Int32)), .val (.int (0 : Int32)), .val (.int (gc 0))]) rfl (pc' := 38) rfl ?_
  refine r_iinc X98.here hx (hb hby d6_38) rfl (z := (1 : Int32)) rfl (l' := #[.val (.ref ch), .val (.int (1 : Int32)), .val (.ref ds), .val (.int (1 : Int32)), .val (.int (2 : Int32)), .val (.int (1 : Int32)), .val (.int (gc 0))]) rfl (pc' := 41) rfl ?_
  refine r_goto X98.here hx (hb hby d6_41) (by decide) (pc' := 3) (by decide) ?_
  refine r_iload X98.here hx (hb hby d6_3) rfl (pc' := 5) rfl ?_
  refine r_iload X98.here hx (hb hby d6_5) rfl (pc' := 7) rfl ?_
  refine r_if_ge X98.here hx (hb hby d6_7) (by decide) (pc' := 44) (by decide) (pc2 := 10) rfl (fun hc7_1 => absurd hc7_1 (by decide)) (fun hc7_1 => ?_)
  refine r_aloadN X98.here hx (hb hby d6_10) rfl rfl (pc' := 11) rfl ?_
  refine r_iloadN X98.here hx (hb hby d6_11) rfl (pc' := 12) rfl ?_
  refine q_caload X98 hx hZ e98 (j := (1 : Int32)) (v := (gc 1)) f101 (by decide) (by decide) rfl (hb hby d6_12) (pc' := 13) rfl ?_
  refine r_istore X98.here hx (hb hby d6_13) (l' := #[.val (.ref ch), .val (.int (1 : Int32)), .val (.ref ds), .val (.int (1 : Int32)), .val (.int (2 : Int32)), .val (.int (1 : Int32)), .val (.int (gc 1))]) rfl (pc' := 15) rfl ?_
  refine r_iload X98.here hx (hb hby d6_15) rfl (pc' := 17) rfl ?_
  refine r_sipush X98.here hx (hb hby d6_17) (v := 255) rfl (pc' := 20) rfl ?_
  refine r_if_le X98.here hx (hb hby d6_20) (by decide) (pc' := 26) (by decide) (pc2 := 23) rfl (fun hc20_1 => ?_) (fun hc20_1 => absurd (show (gc 1).toInt ≤ (255 : Int32).toInt from (hgc 1 (by decide)).2) hc20_1)
  refine r_aloadN X98.here hx (hb hby d6_26) rfl rfl (pc' := 27) rfl ?_
  refine r_iloadN X98.here hx (hb hby d6_27) rfl (pc' := 28) rfl ?_
  refine r_iload X98.here hx (hb hby d6_28) rfl (pc' := 30) rfl ?_
  refine r_i2b X98.here hx (hb hby d6_30) (pc' := 31) rfl ?_
  refine q_bastoreB X98 hx hZ e98 (j := (1 : Int32)) A98 (by decide) (by decide) (w := ((gc 1).toInt8.toInt32)) (own_n8 _) (hb hby d6_31) (pc' := 32) rfl (fun T103 h103 X103 e103 W103 A103 => ?_)
  have K104 := K100.wr W103 (Or.inl (List.mem_of_getElem? (i := 0) rfl))
  have f105 := f101.other W103 ncd
  have Z106 : n0 ≤ h103.size := by have q := Z102; rw [W103.size]; exact q
  have N103 := Fr.snoc X103 N98 gd
  refine r_iinc X103.here hx (hb hby d6_32) rfl (z := (2 : Int32)) rfl (l' := #[.val (.ref ch), .val (.int (2 : Int32)), .val (.ref ds), .val (.int (1 : Int32)), .val (.int (2 : Int32)), .val (.int (1 : Int32)), .val (.int (gc 1))]) rfl (pc' := 35) rfl ?_
  refine r_iinc X103.here hx (hb hby d6_35) rfl (z := (2 : Int32)) rfl (l' := #[.val (.ref ch), .val (.int (2 : Int32)), .val (.ref ds), .val (.int (2 : Int32)), .val (.int (2 : Int32)), .val (.int (1 : Int32)), .val (.int (gc 1))]) rfl (pc' := 38) rfl ?_
  refine r_iinc X103.here hx (hb hby d6_38) rfl (z := (2 : Int32)) rfl (l' := #[.val (.ref ch), .val (.int (2 : Int32)), .val (.ref ds), .val (.int (2 : Int32)), .val (.int (2 : Int32)), .val (.int (2 : Int32)), .val (.int (gc 1))]) rfl (pc' := 41) rfl ?_
  refine r_goto X103.here hx (hb hby d6_41) (by decide) (pc' := 3) (by decide) ?_
  refine r_iload X103.here hx (hb hby d6_3) rfl (pc' := 5) rfl ?_
  refine r_iload X103.here hx (hb hby d6_5) rfl (pc' := 7) rfl ?_
  refine r_if_ge X103.here hx (hb hby d6_7) (by decide) (pc' := 44) (by decide) (pc2 := 10) rfl (fun hc7_2 => ?_) (fun hc7_2 => absurd (by decide) hc7_2)
  refine r_iload X103.here hx (hb hby d6_44) rfl (pc' := 46) rfl ?_
  refine r_retI X103 hx hlk hret (hb hby d6_46) ?_ (by decide) (by decide)
  try rw [e103]
  exact ⟨rfl, N103, K104, A103.congr (fun i hi => by rcases own_i2 hi with rfl | rfl <;> rfl)⟩
theorem ef_rmC3_2 (m : MethodId) (x0 : Addr) (x1 : Int32) (x2 : Int32) : entryFrame m #[(.ref x0), (.int x1), (.int x2)] 6 = mkF m 0 #[.val (.ref x0), .val (.int x1), .val (.int x2), .unset, .unset, .unset] [] := by first | (simp [entryFrame, mkF, argsToLocals, Value.category, maxLocals]; done) | rfl
set_option maxRecDepth 65536 in
set_option maxHeartbeats 40000000 in
theorem rmC3_2 (l : Launch) (Z : State) (a0 : Array Value) (hw : ∀ d ∈ tables_1, d.before a0 Z = true) (ws : List Jvm.Cond) (ch : Addr) (gc : Nat → Int32) (h0 : Heap) (n0 : Nat) (Z0 : n0 ≤ h0.size) (Ac : Ary Z h0 ch .char 2 (fun i => .int (gc i))) (hgc : ∀ i, i < 2 → 0 ≤ (gc i).toInt ∧ (gc i).toInt ≤ 255)  :
    Met l Z (⟨"java/lang/StringUTF16", "compress", "([CII)[B"⟩ : MethodName) jdk_52_method_16_code 6 (some (.array .byte)) ws ({ frames := 1, cells := 1, slots := 2, locals := 18 } : Room) #[(.ref ch), (.int (0 : Int32)), (.int (2 : Int32))] h0 (fun v h L => ∃ b : Addr, v = some (.ref b) ∧ Fr n0 L ∧ Keep h0 h [] ∧ n0 ≤ b ∧ h0.size ≤ b ∧ Ary Z h b .byte 2 (fun i => .int ((gc i).toInt8.toInt32))) 1 2 := by
  refine met_of (plainFor_of_name pn_0) (f0 := fun m => (mkF m 0 #[.val (.ref ch), .val (.int (0 : Int32)), .val (.int (2 : Int32)), .unset, .unset, .unset] [])) (fun m => ef_rmC3_2 m ch (0 : Int32) (2 : Int32)) ?_
  intro p e s m below meth c s₁ X0 hx hby hml hret hlk hown hnm hZ e0
  replace hown : s.vm.findClass "java/lang/StringUTF16" = some m.cls := hown
  have N0 := Fr.nil n0
  refine r_iloadN X0.here hx (hb hby d5_0) rfl (pc' := 1) rfl ?_
  refine r_newarray X0 hx hZ (aty := .byte) (hw _ (List.mem_of_getElem? (i := 23) rfl)) e0 (cap := 2) (by decide) (by decide) (by decide) (by decide) (by decide) (hb hby d5_1) (pc' := 3) rfl (fun T107 h107 b107 k107 g107 X107 e107 E107 A107 => ?_)
  have K108 : Keep h0 h0 [] := Keep.refl _ _
  have fr109 : h0.size ≤ b107 := by rw [g107]; exact K108.1
  have ne110 : b107 ≠ ch := by have q := Ac.lt; rw [← g107] at q; exact Nat.ne_of_gt q
  have ge111 : n0 ≤ b107 := by rw [g107]; exact Z0
  have K112 := K108.ext E107
  have f113 := Ac.ext E107
  have Z114 : n0 ≤ h107.size := by have q := Z0; exact Nat.le_trans q E107.1
  have f115 : Ary Z h107 b107 .byte 2 (fun _ => .int 0) := Ary.new A107 rfl
  refine r_astoreN X107.here hx (hb hby d5_3) rfl (l' := #[.val (.ref ch), .val (.int (0 : Int32)), .val (.int (2 : Int32)), .val (.ref b107), .unset, .unset]) rfl (pc' := 4) rfl ?_
  refine r_aloadN X107.here hx (hb hby d5_4) rfl rfl (pc' := 5) rfl ?_
  refine r_iloadN X107.here hx (hb hby d5_5) rfl (pc' := 6) rfl ?_
  refine r_aloadN X107.here hx (hb hby d5_6) rfl rfl (pc' := 7) rfl ?_
  refine r_iconst X107.here hx (hb hby d5_7) (v := 0) rfl (pc' := 8) rfl ?_
  refine r_iloadN X107.here hx (hb hby d5_8) rfl (pc' := 9) rfl ?_
  refine r_callS X107 hx hZ (y := (⟨"java/lang/StringUTF16", "compress", "([CI[BII)I"⟩ : MethodName)) (rm := ({ frames := 0, cells := 0, slots := 0, locals := 0 } : Room)) hown (hw _ (List.mem_of_getElem? (i := 24) rfl)) (hw _ (List.mem_of_getElem? (i := 25) rfl)) (hw _ (List.mem_of_getElem? (i := 21) rfl)) (hw _ (List.mem_of_getElem? (i := 26) rfl)) (by decide) (rmC5_2 l Z a0 hw [] ch b107 gc h107 n0 Z114 ge111 (Ne.symm ne110) f113 f115 hgc) e107 (by rw [hml]; rfl) (argsL := [(.ref ch), (.int (0 : Int32)), (.ref b107), (.int (0 : Int32)), (.int (2 : Int32))]) (rest := []) (lenOf pd_0 rfl) rfl rfl (W := 0) rfl (by decide) (by decide) (by decide) (by decide) (hb hby d5_9) (pc' := 12) rfl ?_
  rintro v116 T116 L116 X116 ⟨rfl, Nq116, K116, Ab116⟩
  have N116 := Fr.app N0 Nq116
  show Run p e below _ _ T116 (mkF m 12 #[.val (.ref ch), .val (.int (0 : Int32)), .val (.int (2 : Int32)), .val (.ref b107), .unset, .unset] [(.int (2 : Int32))])
  have K117 := K112.trans K116 (allS (Or.inr fr109) all0)
  have f118 := f113.keep K116 (ninS (Ne.symm ne110) nin0)
  have Z119 : n0 ≤ T116.heap.size := by have q := Z114; exact Nat.le_trans q K116.1
  refine r_istore X116.here hx (hb hby d5_12) (l' := #[.val (.ref ch), .val (.int (0 : Int32)), .val (.int (2 : Int32)), .val (.ref b107), .val (.int (2 : Int32)), .unset]) rfl (pc' := 14) rfl ?_
  refine r_iload X116.here hx (hb hby d5_14) rfl (pc' := 16) rfl ?_
  refine r_iloadN X116.here hx (hb hby d5_16) rfl (pc' := 17) rfl ?_
  refine r_if_eq X116.here hx (hb hby d5_17) (by decide) (pc' := 57) (by decide) (pc2 := 20) rfl (fun hc17 => ?_) (fun hc17 => absurd rfl hc17)
  refine r_aloadN X116.here hx (hb hby d5_57) rfl rfl (pc' := 58) rfl ?_
  refine r_retA X116 hx hlk hret rfl rfl (hb hby d5_58) ?_ (by decide) (by decide)
  skip
  exact ⟨b107, rfl, N116, K117, ge111, fr109, Ab116⟩
theorem ef_rmCf_2 (m : MethodId) (x0 : Addr) (x1 : Int32) : entryFrame m #[(.ref x0), (.int x1)] 2 = mkF m 0 #[.val (.ref x0), .val (.int x1)] [] := by first | (simp [entryFrame, mkF, argsToLocals, Value.category, maxLocals]; done) | rfl
set_option maxRecDepth 65536 in
set_option maxHeartbeats 40000000 in
theorem rmCf_2 (l : Launch) (Z : State) (a0 : Array Value) (hw : ∀ d ∈ tables_1, d.before a0 Z = true) (ws : List Jvm.Cond) (b : Addr) (fb : Nat → Value) (h0 : Heap) (n0 : Nat) (Z0 : n0 ≤ h0.size) (Ab : Ary Z h0 b .byte 2 fb) :
    Met l Z (⟨"java/lang/StringUTF16", "coderFromArrayLen", "([BI)B"⟩ : MethodName) jdk_52_method_15_code 2 (some .byte) ws ({ frames := 0, cells := 0, slots := 0, locals := 0 } : Room) #[(.ref b), (.int (2 : Int32))] h0 (fun v h L => v = some (.int 0) ∧ Fr n0 L ∧ h = h0) 0 0 := by
  refine met_of (plainFor_of_name pn_0) (f0 := fun m => (mkF m 0 #[.val (.ref b), .val (.int (2 : Int32))] [])) (fun m => ef_rmCf_2 m b (2 : Int32)) ?_
  intro p e s m below meth c s₁ X0 hx hby hml hret hlk hown hnm hZ e0
  replace hown : s.vm.findClass "java/lang/StringUTF16" = some m.cls := hown
  have N0 := Fr.nil n0
  refine r_iloadN X0.here hx (hb hby d7_0) rfl (pc' := 1) rfl ?_
  refine r_aloadN X0.here hx (hb hby d7_1) rfl rfl (pc' := 2) rfl ?_
  refine r_len X0 hx hZ e0 (z := (2 : Int32)) Ab rfl (hb hby d7_2) (pc' := 3) rfl ?_
  refine r_isub X0.here hx (hb hby d7_3) (pc' := 4) rfl ?_
  refine r_bipush X0.here hx (hb hby d7_4) (v := 31) rfl (pc' := 6) rfl ?_
  refine r_iushr X0.here hx (hb hby d7_6) (pc' := 7) rfl ?_
  refine r_i2b X0.here hx (hb hby d7_7) (pc' := 8) rfl ?_
  refine r_retN X0 hx hlk hret (by simp) (hb hby d7_8) (w := (0 : Int32)) rfl ?_ (by decide) (by decide)
  try rw [e0]
  exact ⟨rfl, N0, rfl⟩
theorem ef_rmS4_2 (m : MethodId) (x0 : Addr) (x1 : Addr) (x2 : Int32) (x3 : Int32) : entryFrame m #[(.ref x0), (.ref x1), (.int x2), (.int x3), .null] 6 = mkF m 0 #[.val (.ref x0), .val (.ref x1), .val (.int x2), .val (.int x3), .val .null, .unset] [] := by first | (simp [entryFrame, mkF, argsToLocals, Value.category, maxLocals]; done) | rfl
set_option maxRecDepth 65536 in
set_option maxHeartbeats 40000000 in
theorem rmS4_2 (l : Launch) (Z : State) (a0 : Array Value) (hw : ∀ d ∈ tables_1, d.before a0 Z = true) (ws : List Jvm.Cond) (o ch : Addr) (gc : Nat → Int32) (cs : Int32) (h0 : Heap) (n0 : Nat) (Z0 : n0 ≤ h0.size) (go : n0 ≤ o) (nco : ch ≠ o) (E_o : Exa Z h0 o "java/lang/String") (F_o_coder : Fld Z h0 o "java/lang/String" "coder" "B" (.int (0 : Int32))) (F_o_value : Fld Z h0 o "java/lang/String" "value" "[B" .null) (Ac : Ary Z h0 ch .char 2 (fun i => .int (gc i))) (hgc : ∀ i, i < 2 → 0 ≤ (gc i).toInt ∧ (gc i).toInt ≤ 255) (hcs : Sta Z h0 "java/lang/String" "COMPACT_STRINGS" "Z" (.int cs)) (hc0 : ¬ cs = 0)  :
    Met l Z (⟨"java/lang/String", "<init>", "([CIILjava/lang/Void;)V"⟩ : MethodName) jdk_42_method_149_code 6 none ws ({ frames := 2, cells := 1, slots := 2, locals := 35 } : Room) #[(.ref o), (.ref ch), (.int (0 : Int32)), (.int (2 : Int32)), .null] h0 (fun v h L => v = none ∧ Fr n0 L ∧ Keep h0 h [o] ∧ ∃ b : Addr, n0 ≤ b ∧ h0.size ≤ b ∧ Fld Z h o "java/lang/String" "coder" "B" (.int (0 : Int32)) ∧ Fld Z h o "java/lang/String" "value" "[B" (.ref b) ∧ Ary Z h b .byte 2 (fun i => .int ((gc i).toInt8.toInt32))) 1 2 := by
  refine met_of (plainFor_of_name pn_1) (f0 := fun m => (mkF m 0 #[.val (.ref o), .val (.ref ch), .val (.int (0 : Int32)), .val (.int (2 : Int32)), .val .null, .unset] [])) (fun m => ef_rmS4_2 m o ch (0 : Int32) (2 : Int32)) ?_
  intro p e s m below meth c s₁ X0 hx hby hml hret hlk hown hnm hZ e0
  replace hown : s.vm.findClass "java/lang/String" = some m.cls := hown
  have N0 := Fr.nil n0
  refine r_aloadN X0.here hx (hb hby d3_0) rfl rfl (pc' := 1) rfl ?_
  refine r_initO X0 hx hZ hown (hw _ (List.mem_of_getElem? (i := 15) rfl)) (hw _ (List.mem_of_getElem? (i := 16) rfl)) (hw _ (List.mem_of_getElem? (i := 17) rfl)) e0 (by rw [hml]; rfl) (by decide) (W := 0) rfl (by decide) (hb hby d3_1) (pc' := 4) rfl (fun T120 X120 e120 => ?_)
  refine r_iloadN X120.here hx (hb hby d3_4) rfl (pc' := 5) rfl ?_
  refine r_if0_ne X120.here hx (hb hby d3_5) (by decide) (pc' := 27) (by decide) (pc2 := 8) rfl (fun hc5 => ?_) (fun hc5 => absurd (by decide) hc5)
  refine r_getS X120 hx hZ hown (hw _ (List.mem_of_getElem? (i := 18) rfl)) Via.refl e120 hcs (hb hby d3_27) (pc' := 30) rfl (fun T121 X121 e121 => ?_)
  refine r_if0_eq X121.here hx (hb hby d3_30) (by decide) (pc' := 58) (by decide) (pc2 := 33) rfl (fun hc30 => absurd hc30 hc0) (fun hc30 => ?_)
  refine r_aloadN X121.here hx (hb hby d3_33) rfl rfl (pc' := 34) rfl ?_
  refine r_iloadN X121.here hx (hb hby d3_34) rfl (pc' := 35) rfl ?_
  refine r_iloadN X121.here hx (hb hby d3_35) rfl (pc' := 36) rfl ?_
  refine r_callS X121 hx hZ (y := (⟨"java/lang/StringUTF16", "compress", "([CII)[B"⟩ : MethodName)) (rm := ({ frames := 1, cells := 1, slots := 2, locals := 18 } : Room)) hown (hw _ (List.mem_of_getElem? (i := 19) rfl)) (hw _ (List.mem_of_getElem? (i := 20) rfl)) (hw _ (List.mem_of_getElem? (i := 21) rfl)) (hw _ (List.mem_of_getElem? (i := 22) rfl)) (by decide) (rmC3_2 l Z a0 hw [] ch gc h0 n0 Z0 Ac hgc) e121 (by rw [hml]; rfl) (argsL := [(.ref ch), (.int (0 : Int32)), (.int (2 : Int32))]) (rest := []) (lenOf pd_1 rfl) rfl rfl (W := 0) rfl (by decide) (by decide) (by decide) (by decide) (hb hby d3_36) (pc' := 39) rfl ?_
  rintro v122 T122 L122 X122 ⟨b, rfl, Nq122, K122, gbb_122, fbb_122, Ab122⟩
  have N122 := Fr.app N0 Nq122
  show Run p e below _ _ T122 (mkF m 39 #[.val (.ref o), .val (.ref ch), .val (.int (0 : Int32)), .val (.int (2 : Int32)), .val .null, .unset] [(.ref b)])
  have ne123 : b ≠ ch := Nat.ne_of_gt (Nat.lt_of_lt_of_le Ac.lt fbb_122)
  have ne124 : b ≠ o := Nat.ne_of_gt (Nat.lt_of_lt_of_le E_o.lt fbb_122)
  have fr125 : h0.size ≤ b := fbb_122
  have K126 : Keep h0 h0 [o] := Keep.refl _ _
  have K127 := K126.trans K122 all0
  have f128 := Ac.keep K122 nin0
  have f129 := own_staKeep hcs K122 all0
  have f130 := E_o.keep K122
  have f131 := F_o_coder.keep K122 nin0
  have f132 := F_o_value.keep K122 nin0
  have Z133 : n0 ≤ T122.heap.size := by have q := Z0; exact Nat.le_trans q K122.1
  refine r_astore X122.here hx (hb hby d3_39) rfl (l' := #[.val (.ref o), .val (.ref ch), .val (.int (0 : Int32)), .val (.int (2 : Int32)), .val .null, .val (.ref b)]) rfl (pc' := 41) rfl ?_
  refine r_aloadN X122.here hx (hb hby d3_41) rfl rfl (pc' := 42) rfl ?_
  refine r_aload X122.here hx (hb hby d3_42) rfl rfl (pc' := 44) rfl ?_
  refine r_iloadN X122.here hx (hb hby d3_44) rfl (pc' := 45) rfl ?_
  refine r_callS X122 hx hZ (y := (⟨"java/lang/StringUTF16", "coderFromArrayLen", "([BI)B"⟩ : MethodName)) (rm := ({ frames := 0, cells := 0, slots := 0, locals := 0 } : Room)) hown (hw _ (List.mem_of_getElem? (i := 27) rfl)) (hw _ (List.mem_of_getElem? (i := 28) rfl)) (hw _ (List.mem_of_getElem? (i := 21) rfl)) (hw _ (List.mem_of_getElem? (i := 29) rfl)) (by decide) (rmCf_2 l Z a0 hw [] b _ T122.heap n0 Z133 Ab122) rfl (by rw [hml]; rfl) (argsL := [(.ref b), (.int (2 : Int32))]) (rest := [(.ref o)]) (lenOf pd_2 rfl) rfl rfl (W := 1) rfl (by decide) (by decide) (by decide) (by decide) (hb hby d3_45) (pc' := 48) rfl ?_
  rintro v134 T134 L134 X134 ⟨rfl, Nq134, e134⟩
  have N134 := Fr.app N122 Nq134
  show Run p e below _ _ T134 (mkF m 48 #[.val (.ref o), .val (.ref ch), .val (.int (0 : Int32)), .val (.int (2 : Int32)), .val .null, .val (.ref b)] [(.int (0 : Int32)), (.ref o)])
  refine r_putFN X134 hx hZ hown (hw _ (List.mem_of_getElem? (i := 30) rfl)) Via.refl e134 f131 f130 (Or.inr ⟨(hw _ (List.mem_of_getElem? (i := 31) rfl)), rfl, hnm⟩) (hw _ (List.mem_of_getElem? (i := 5) rfl)) (ty := .byte) (v' := (.int (0 : Int32))) (by decide) rfl rfl (hb hby d3_48) (pc' := 51) rfl (fun T135 h135 X135 e135 W135 => ?_)
  have f136 := f131.same W135
  have K137 := K127.wr W135 (Or.inl (List.mem_of_getElem? (i := 0) rfl))
  have f138 := f128.other W135 nco
  have f139 := f129.wr W135
  have f140 := f130.wr W135
  have f141 := f132.other W135 (Or.inr (slot_ne (Or.inr (hw _ (List.mem_of_getElem? (i := 33) rfl)) : Laid Z a0 "java/lang/String" "java/lang/String" "value" "[B") (Or.inr (hw _ (List.mem_of_getElem? (i := 31) rfl)) : Laid Z a0 "java/lang/String" "java/lang/String" "coder" "B") (by decide) (t := (.array .byte)) (t' := .byte) (by decide) (by decide)))
  have f142 := Ab122.other W135 ne124
  have Z143 : n0 ≤ h135.size := by have q := Z133; rw [W135.size]; exact q
  have N135 := Fr.snoc X135 N134 go
  refine r_aloadN X135.here hx (hb hby d3_51) rfl rfl (pc' := 52) rfl ?_
  refine r_aload X135.here hx (hb hby d3_52) rfl rfl (pc' := 54) rfl ?_
  refine r_putF X135 hx hZ hown (hw _ (List.mem_of_getElem? (i := 32) rfl)) Via.refl e135 f141 f140 (Or.inr ⟨(hw _ (List.mem_of_getElem? (i := 33) rfl)), rfl, hnm⟩) (hw _ (List.mem_of_getElem? (i := 5) rfl)) (ty := (.array .byte)) (by decide) rfl rfl (hb hby d3_54) (pc' := 57) rfl (fun T144 h144 X144 e144 W144 => ?_)
  have f145 := f141.same W144
  have K146 := K137.wr W144 (Or.inl (List.mem_of_getElem? (i := 0) rfl))
  have f147 := f138.other W144 nco
  have f148 := f139.wr W144
  have f149 := f140.wr W144
  have f150 := f142.other W144 ne124
  have f151 := f136.other W144 (Or.inr (slot_ne (Or.inr (hw _ (List.mem_of_getElem? (i := 31) rfl)) : Laid Z a0 "java/lang/String" "java/lang/String" "coder" "B") (Or.inr (hw _ (List.mem_of_getElem? (i := 33) rfl)) : Laid Z a0 "java/lang/String" "java/lang/String" "value" "[B") (by decide) (t := .byte) (t' := (.array .byte)) (by decide) (by decide)))
  have Z152 : n0 ≤ h144.size := by have q := Z143; rw [W144.size]; exact q
  have N144 := Fr.snoc X144 N135 go
  refine r_ret0 X144 hx hlk hret (hb hby d3_57) ?_ (by decide) (by decide)
  try rw [e144]
  exact ⟨rfl, N144, K146, b, gbb_122, fr125, f151, f145, f150⟩
theorem ef_rmS1_2 (m : MethodId) (x0 : Addr) (x1 : Addr) : entryFrame m #[(.ref x0), (.ref x1)] 2 = mkF m 0 #[.val (.ref x0), .val (.ref x1)] [] := by first | (simp [entryFrame, mkF, argsToLocals, Value.category, maxLocals]; done) | rfl
set_option maxRecDepth 65536 in
set_option maxHeartbeats 40000000 in
theorem rmS1_2 (l : Launch) (Z : State) (a0 : Array Value) (hw : ∀ d ∈ tables_1, d.before a0 Z = true) (ws : List Jvm.Cond) (o ch : Addr) (gc : Nat → Int32) (cs : Int32) (h0 : Heap) (n0 : Nat) (Z0 : n0 ≤ h0.size) (go : n0 ≤ o) (nco : ch ≠ o) (E_o : Exa Z h0 o "java/lang/String") (F_o_coder : Fld Z h0 o "java/lang/String" "coder" "B" (.int (0 : Int32))) (F_o_value : Fld Z h0 o "java/lang/String" "value" "[B" .null) (Ac : Ary Z h0 ch .char 2 (fun i => .int (gc i))) (hgc : ∀ i, i < 2 → 0 ≤ (gc i).toInt ∧ (gc i).toInt ≤ 255) (hcs : Sta Z h0 "java/lang/String" "COMPACT_STRINGS" "Z" (.int cs)) (hc0 : ¬ cs = 0)  :
    Met l Z (⟨"java/lang/String", "<init>", "([C)V"⟩ : MethodName) jdk_42_method_3_code 2 none ws ({ frames := 3, cells := 1, slots := 2, locals := 52 } : Room) #[(.ref o), (.ref ch)] h0 (fun v h L => v = none ∧ Fr n0 L ∧ Keep h0 h [o] ∧ ∃ b : Addr, n0 ≤ b ∧ h0.size ≤ b ∧ Fld Z h o "java/lang/String" "coder" "B" (.int (0 : Int32)) ∧ Fld Z h o "java/lang/String" "value" "[B" (.ref b) ∧ Ary Z h b .byte 2 (fun i => .int ((gc i).toInt8.toInt32))) 1 2 := by
  refine met_of (plainFor_of_name pn_1) (f0 := fun m => (mkF m 0 #[.val (.ref o), .val (.ref ch)] [])) (fun m => ef_rmS1_2 m o ch) ?_
  intro p e s m below meth c s₁ X0 hx hby hml hret hlk hown hnm hZ e0
  replace hown : s.vm.findClass "java/lang/String" = some m.cls := hown
  have N0 := Fr.nil n0
  refine r_aloadN X0.here hx (hb hby d2_0) rfl rfl (pc' := 1) rfl ?_
  refine r_aloadN X0.here hx (hb hby d2_1) rfl rfl (pc' := 2) rfl ?_
  refine r_iconst X0.here hx (hb hby d2_2) (v := 0) rfl (pc' := 3) rfl ?_
  refine r_aloadN X0.here hx (hb hby d2_3) rfl rfl (pc' := 4) rfl ?_
  refine r_len X0 hx hZ e0 (z := (2 : Int32)) Ac rfl (hb hby d2_4) (pc' := 5) rfl ?_
  refine r_aconst_null X0.here hx (hb hby d2_5) (pc' := 6) rfl ?_
  refine r_callI X0 hx hZ (y := (⟨"java/lang/String", "<init>", "([CIILjava/lang/Void;)V"⟩ : MethodName)) (rm := ({ frames := 2, cells := 1, slots := 2, locals := 35 } : Room)) hown rfl (hw _ (List.mem_of_getElem? (i := 11) rfl)) (hw _ (List.mem_of_getElem? (i := 12) rfl)) (hw _ (List.mem_of_getElem? (i := 6) rfl)) (hw _ (List.mem_of_getElem? (i := 14) rfl)) (by decide) (rmS4_2 l Z a0 hw [] o ch gc cs h0 n0 Z0 go nco E_o F_o_coder F_o_value Ac hgc hcs hc0) e0 (by rw [hml]; rfl) (argsL := [(.ref ch), (.int (0 : Int32)), (.int (2 : Int32)), .null]) (rest := []) (lenOf pd_3 rfl) rfl rfl (W := 0) rfl (by decide) (by decide) (by decide) (by decide) (hb hby d2_6) (pc' := 9) rfl ?_
  rintro v153 T153 L153 X153 ⟨rfl, Nq153, K153, b, gbb_153, fbb_153, Fo_0_153, Fo_1_153, Ab153⟩
  have N153 := Fr.app N0 Nq153
  show Run p e below _ _ T153 (mkF m 9 #[.val (.ref o), .val (.ref ch)] [])
  have ne154 : b ≠ ch := Nat.ne_of_gt (Nat.lt_of_lt_of_le Ac.lt fbb_153)
  have ne155 : b ≠ o := Nat.ne_of_gt (Nat.lt_of_lt_of_le E_o.lt fbb_153)
  have fr156 : h0.size ≤ b := fbb_153
  have K157 : Keep h0 h0 [o] := Keep.refl _ _
  have K158 := K157.trans K153 (allS (Or.inl (List.mem_of_getElem? (i := 0) rfl)) all0)
  have f159 := Ac.keep K153 (ninS nco nin0)
  have f160 := own_staKeep hcs K153 (allS (own_exaS E_o) all0)
  have f161 := E_o.keep K153
  have Z162 : n0 ≤ T153.heap.size := by have q := Z0; exact Nat.le_trans q K153.1
  refine r_ret0 X153 hx hlk hret (hb hby d2_9) ?_ (by decide) (by decide)
  skip
  exact ⟨rfl, N153, K158, b, gbb_153, fr156, Fo_0_153, Fo_1_153, Ab153⟩
theorem d1_20 : decode method_2_code 20 = .ok (.new 7, 3) := by decide +kernel
theorem d1_23 : decode method_2_code 23 = .ok (.dup, 1) := by decide +kernel
theorem d1_24 : decode method_2_code 24 = .ok (.iconst 2, 1) := by decide +kernel
theorem d1_25 : decode method_2_code 25 = .ok (.newarray .char, 2) := by decide +kernel
theorem d1_27 : decode method_2_code 27 = .ok (.dup, 1) := by decide +kernel
theorem d1_28 : decode method_2_code 28 = .ok (.iconst 0, 1) := by decide +kernel
theorem d1_29 : decode method_2_code 29 = .ok (.iload_n 1, 1) := by decide +kernel
theorem d1_30 : decode method_2_code 30 = .ok (.castore, 1) := by decide +kernel
theorem d1_31 : decode method_2_code 31 = .ok (.dup, 1) := by decide +kernel
theorem d1_32 : decode method_2_code 32 = .ok (.iconst 1, 1) := by decide +kernel
theorem d1_33 : decode method_2_code 33 = .ok (.iload_n 2, 1) := by decide +kernel
theorem d1_34 : decode method_2_code 34 = .ok (.castore, 1) := by decide +kernel
theorem d1_35 : decode method_2_code 35 = .ok (.invokespecial 9, 3) := by decide +kernel
theorem d1_38 : decode method_2_code 38 = .ok (.areturn, 1) := by decide +kernel
theorem ef_rmMk2 (m : MethodId) (x0 : Int32) (x1 : Int32) (x2 : Int32) : entryFrame m #[(.int x0), (.int x1), (.int x2)] 3 = mkF m 0 #[.val (.int x0), .val (.int x1), .val (.int x2)] [] := by first | (simp [entryFrame, mkF, argsToLocals, Value.category, maxLocals]; done) | rfl
set_option maxRecDepth 65536 in
set_option maxHeartbeats 40000000 in
theorem rmMk2 (l : Launch) (Z : State) (a0 : Array Value) (hw : ∀ d ∈ tables_1, d.before a0 Z = true) (ws : List Jvm.Cond) (c0 c1 cs : Int32) (h0 : Heap) (n0 : Nat) (Z0 : n0 ≤ h0.size) (hb0 : 0 ≤ c0.toInt ∧ c0.toInt ≤ 255) (hb1 : 0 ≤ c1.toInt ∧ c1.toInt ≤ 255) (hcs : Sta Z h0 "java/lang/String" "COMPACT_STRINGS" "Z" (.int cs)) (hc0 : ¬ cs = 0)  :
    Met l Z (⟨"com/example/lease/lease/store/RedisAddressEqualsPinLaw", "mk", "(ICC)Ljava/lang/String;"⟩ : MethodName) method_2_code 3 (some (.object "java/lang/String")) ws ({ frames := 4, cells := 3, slots := 8, locals := 66 } : Room) #[(.int (2 : Int32)), (.int c0), (.int c1)] h0 (fun v h L => ∃ sa sb : Addr, v = some (.ref sa) ∧ Fr n0 L ∧ Keep h0 h [] ∧ n0 ≤ sa ∧ h0.size ≤ sa ∧ n0 ≤ sb ∧ h0.size ≤ sb ∧ sb ≠ sa ∧ Exa Z h sa "java/lang/String" ∧ Fld Z h sa "java/lang/String" "coder" "B" (.int (0 : Int32)) ∧ Fld Z h sa "java/lang/String" "value" "[B" (.ref sb) ∧ Ary Z h sb .byte 2 (fun i => .int (own_g c0 c1 i))) 3 8 := by
  refine met_of (plainFor_of_name pn_2) (f0 := fun m => (mkF m 0 #[.val (.int (2 : Int32)), .val (.int c0), .val (.int c1)] [])) (fun m => ef_rmMk2 m (2 : Int32) c0 c1) ?_
  intro p e s m below meth c s₁ X0 hx hby hml hret hlk hown hnm hZ e0
  replace hown : s.vm.findClass "com/example/lease/lease/store/RedisAddressEqualsPinLaw" = some m.cls := hown
  have N0 := Fr.nil n0
  refine r_iloadN X0.here hx (hb hby d1_0) rfl (pc' := 1) rfl ?_
  refine r_iconst X0.here hx (hb hby d1_1) (v := 1) rfl (pc' := 2) rfl ?_
  refine r_if_ne X0.here hx (hb hby d1_2) (by decide) (pc' := 20) (by decide) (pc2 := 5) rfl (fun hc2 => ?_) (fun hc2 => absurd (by decide) hc2)
  refine r_new X0 hx hZ hown (hw _ (List.mem_of_getElem? (i := 4) rfl)) (hw _ (List.mem_of_getElem? (i := 5) rfl)) (hw _ (List.mem_of_getElem? (i := 6) rfl)) e0 (by decide) (by decide) (hb hby d1_20) (pc' := 23) rfl (fun T163 h163 b163 g163 X163 e163 E163 A163 D163 => ?_)
  have K164 : Keep h0 h0 [] := Keep.refl _ _
  have fr165 : h0.size ≤ b163 := by rw [g163]; exact K164.1
  have ge166 : n0 ≤ b163 := by rw [g163]; exact Z0
  have K167 := K164.ext E163
  have f168 := own_staExt hcs E163
  have Z169 : n0 ≤ h163.size := by have q := Z0; exact Nat.le_trans q E163.1
  have f170 : Fld Z h163 b163 "java/lang/String" "coder" "B" (.int (0 : Int32)) := D163 (Or.inr (hw _ (List.mem_of_getElem? (i := 31) rfl))) (ty := .byte) (by decide)
  have f171 : Fld Z h163 b163 "java/lang/String" "value" "[B" .null := D163 (Or.inr (hw _ (List.mem_of_getElem? (i := 33) rfl))) (ty := (.array .byte)) (by decide)
  refine r_dup X163.here hx (hb hby d1_23) rfl (pc' := 24) rfl ?_
  refine r_iconst X163.here hx (hb hby d1_24) (v := 2) rfl (pc' := 25) rfl ?_
  refine r_newarray X163 hx hZ (aty := .char) (hw _ (List.mem_of_getElem? (i := 7) rfl)) e163 (cap := 2) (by decide) (by decide) (by decide) (by decide) (by decide) (hb hby d1_25) (pc' := 27) rfl (fun T172 h172 b172 k172 g172 X172 e172 E172 A172 => ?_)
  have fr173 : h0.size ≤ b172 := by rw [g172]; exact K167.1
  have ne174 : b172 ≠ b163 := by have q := A163.lt; rw [← g172] at q; exact Nat.ne_of_gt q
  have ge175 : n0 ≤ b172 := by rw [g172]; exact Z169
  have K176 := K167.ext E172
  have f177 := own_staExt f168 E172
  have f178 := A163.ext E172
  have f179 := f170.ext E172
  have f180 := f171.ext E172
  have Z181 : n0 ≤ h172.size := by have q := Z169; exact Nat.le_trans q E172.1
  have f182 : Ary Z h172 b172 .char 2 (fun _ => .int 0) := Ary.new A172 rfl
  refine r_dup X172.here hx (hb hby d1_27) rfl (pc' := 28) rfl ?_
  refine r_iconst X172.here hx (hb hby d1_28) (v := 0) rfl (pc' := 29) rfl ?_
  refine r_iloadN X172.here hx (hb hby d1_29) rfl (pc' := 30) rfl ?_
  refine q_castore X172 hx hZ e172 (j := (0 : Int32)) f182 (by decide) (by decide) (w := c0) (own_nc (hb0).1 (hb0).2) (hb hby d1_30) (pc' := 31) rfl (fun T183 h183 X183 e183 W183 A183 => ?_)
  have K184 := K176.wr W183 (Or.inr fr173)
  have f185 := f177.wr W183
  have f186 := f178.wr W183
  have f187 := f179.other W183 (Or.inl (Ne.symm ne174))
  have f188 := f180.other W183 (Or.inl (Ne.symm ne174))
  have Z189 : n0 ≤ h183.size := by have q := Z181; rw [W183.size]; exact q
  have N183 := Fr.snoc X183 N0 ge175
  refine r_dup X183.here hx (hb hby d1_31) rfl (pc' := 32) rfl ?_
  refine r_iconst X183.here hx (hb hby d1_32) (v := 1) rfl (pc' := 33) rfl ?_
  refine r_iloadN X183.here hx (hb hby d1_33) rfl (pc' := 34) rfl ?_
  refine q_castore X183 hx hZ e183 (j := (1 : Int32)) A183 (by decide) (by decide) (w := c1) (own_nc (hb1).1 (hb1).2) (hb hby d1_34) (pc' := 35) rfl (fun T190 h190 X190 e190 W190 A190 => ?_)
  have K191 := K184.wr W190 (Or.inr fr173)
  have f192 := f185.wr W190
  have f193 := f186.wr W190
  have f194 := f187.other W190 (Or.inl (Ne.symm ne174))
  have f195 := f188.other W190 (Or.inl (Ne.symm ne174))
  have Z196 : n0 ≤ h190.size := by have q := Z189; rw [W190.size]; exact q
  have N190 := Fr.snoc X190 N183 ge175
  obtain ⟨gc, e0, e1, Ag⟩ := own_b2 A190
  refine r_callI X190 hx hZ (y := (⟨"java/lang/String", "<init>", "([C)V"⟩ : MethodName)) (rm := ({ frames := 3, cells := 1, slots := 2, locals := 52 } : Room)) hown rfl (hw _ (List.mem_of_getElem? (i := 8) rfl)) (hw _ (List.mem_of_getElem? (i := 9) rfl)) (hw _ (List.mem_of_getElem? (i := 6) rfl)) (hw _ (List.mem_of_getElem? (i := 10) rfl)) (by decide) (rmS1_2 l Z a0 hw [] b163 b172 gc cs h190 n0 Z196 ge166 ne174 f193 f194 f195 Ag (own_hb2 e0 e1 hb0 hb1) f192 hc0) e190 (by rw [hml]; rfl) (argsL := [(.ref b172)]) (rest := [(.ref b163)]) (lenOf pd_4 rfl) rfl rfl (W := 1) rfl (by decide) (by decide) (by decide) (by decide) (hb hby d1_35) (pc' := 38) rfl ?_
  rintro v197 T197 L197 X197 ⟨rfl, Nq197, K197, b, gbb_197, fbb_197, Fo_0_197, Fo_1_197, Ab197⟩
  have N197 := Fr.app N190 Nq197
  show Run p e below _ _ T197 (mkF m 38 #[.val (.int (2 : Int32)), .val (.int c0), .val (.int c1)] [(.ref b163)])
  have ne198 : b ≠ b163 := Nat.ne_of_gt (Nat.lt_of_lt_of_le f193.lt fbb_197)
  have ne199 : b ≠ b172 := Nat.ne_of_gt (Nat.lt_of_lt_of_le Ag.lt fbb_197)
  have fr200 : h0.size ≤ b := Nat.le_trans K191.1 fbb_197
  have K201 := K191.trans K197 (allS (Or.inr fr165) all0)
  have f202 := own_staKeep f192 K197 (allS (own_exaS f193) all0)
  have f203 := f193.keep K197
  have f204 := Ag.keep K197 (ninS ne174 nin0)
  have Z205 : n0 ≤ T197.heap.size := by have q := Z196; exact Nat.le_trans q K197.1
  refine r_retA X197 hx hlk hret rfl rfl (hb hby d1_38) ?_ (by decide) (by decide)
  skip
  exact ⟨b163, b, rfl, N197, K201, ge166, fr165, gbb_197, fr200, ne198, f203, Fo_0_197, Fo_1_197, Ab197.congr (own_cg2 e0 e1)⟩
theorem rmMk (l : Launch) (Z : State) (a0 : Array Value) (hw : ∀ d ∈ tables_1, d.before a0 Z = true) (ws : List Jvm.Cond) (ln c0 c1 cs : Int32) (h0 : Heap) (n0 : Nat) (Z0 : n0 ≤ h0.size) (hl : ln = 1 ∨ ln = 2) (hb0 : 0 ≤ c0.toInt ∧ c0.toInt ≤ 255) (hb1 : 0 ≤ c1.toInt ∧ c1.toInt ≤ 255) (hcs : Sta Z h0 "java/lang/String" "COMPACT_STRINGS" "Z" (.int cs)) (hc0 : ¬ cs = 0)  :
    Met l Z (⟨"com/example/lease/lease/store/RedisAddressEqualsPinLaw", "mk", "(ICC)Ljava/lang/String;"⟩ : MethodName) method_2_code 3 (some (.object "java/lang/String")) ws ({ frames := 4, cells := 3, slots := 8, locals := 66 } : Room) #[(.int ln), (.int c0), (.int c1)] h0 (fun v h L => ∃ sa sb : Addr, v = some (.ref sa) ∧ Fr n0 L ∧ Keep h0 h [] ∧ n0 ≤ sa ∧ h0.size ≤ sa ∧ n0 ≤ sb ∧ h0.size ≤ sb ∧ sb ≠ sa ∧ Exa Z h sa "java/lang/String" ∧ Fld Z h sa "java/lang/String" "coder" "B" (.int (0 : Int32)) ∧ Fld Z h sa "java/lang/String" "value" "[B" (.ref sb) ∧ Ary Z h sb .byte ln.toInt.toNat (fun i => .int (own_g c0 c1 i))) 3 8 := by
  rcases hl with rfl | rfl
  · exact rmMk1 l Z a0 hw ws c0 c1 cs h0 n0 Z0 hb0 hb1 hcs hc0
  · exact rmMk2 l Z a0 hw ws c0 c1 cs h0 n0 Z0 hb0 hb1 hcs hc0
theorem d21_0 : decode jdk_43_method_3_code 0 = .ok (.iload_n 0, 1) := by decide +kernel
theorem d21_1 : decode jdk_43_method_3_code 1 = .ok (.sipush 255, 3) := by decide +kernel
theorem d21_4 : decode jdk_43_method_3_code 4 = .ok (.if_icmp .gt 7, 3) := by decide +kernel
theorem d21_7 : decode jdk_43_method_3_code 7 = .ok (.iconst 1, 1) := by decide +kernel
theorem d21_8 : decode jdk_43_method_3_code 8 = .ok (.goto 4, 3) := by decide +kernel
theorem d21_12 : decode jdk_43_method_3_code 12 = .ok (.ireturn, 1) := by decide +kernel
theorem pn_3 : plainName "java/lang/StringLatin1" = true := by first | (simp [plainName, overriddenIn]; done) | decide +kernel
theorem ef_rmCE (m : MethodId) (x0 : Int32) : entryFrame m #[(.int x0)] 1 = mkF m 0 #[.val (.int x0)] [] := by first | (simp [entryFrame, mkF, argsToLocals, Value.category, maxLocals]; done) | rfl
set_option maxRecDepth 65536 in
set_option maxHeartbeats 40000000 in
theorem rmCE (l : Launch) (Z : State) (a0 : Array Value) (hw : ∀ d ∈ tables_1, d.before a0 Z = true) (ws : List Jvm.Cond) (c0 : Int32) (h0 : Heap) (n0 : Nat) (Z0 : n0 ≤ h0.size) (hb0 : 0 ≤ c0.toInt ∧ c0.toInt ≤ 255)  :
    Met l Z (⟨"java/lang/StringLatin1", "canEncode", "(C)Z"⟩ : MethodName) jdk_43_method_3_code 1 (some .boolean) ws ({ frames := 0, cells := 0, slots := 0, locals := 0 } : Room) #[(.int c0)] h0 (fun v h L => v = some (.int 1) ∧ Fr n0 L ∧ h = h0) 0 0 := by
  refine met_of (plainFor_of_name pn_3) (f0 := fun m => (mkF m 0 #[.val (.int c0)] [])) (fun m => ef_rmCE m c0) ?_
  intro p e s m below meth c s₁ X0 hx hby hml hret hlk hown hnm hZ e0
  replace hown : s.vm.findClass "java/lang/StringLatin1" = some m.cls := hown
  have N0 := Fr.nil n0
  refine r_iloadN X0.here hx (hb hby d21_0) rfl (pc' := 1) rfl ?_
  refine r_sipush X0.here hx (hb hby d21_1) (v := 255) rfl (pc' := 4) rfl ?_
  refine r_if_gt X0.here hx (hb hby d21_4) (by decide) (pc' := 11) (by decide) (pc2 := 7) rfl (fun hc4 => absurd hc4 (by have l1 : (255 : Int32).toInt = 255 := rfl; omega)) (fun hc4 => ?_)
  refine r_iconst X0.here hx (hb hby d21_7) (v := 1) rfl (pc' := 8) rfl ?_
  refine r_goto X0.here hx (hb hby d21_8) (by decide) (pc' := 12) (by decide) ?_
  refine r_retN X0 hx hlk hret (by simp) (hb hby d21_12) (w := (1 : Int32)) rfl ?_ (by decide) (by decide)
  try rw [e0]
  exact ⟨rfl, N0, rfl⟩
theorem d22_0 : decode jdk_43_method_46_code 0 = .ok (.iconst 1, 1) := by decide +kernel
theorem d22_1 : decode jdk_43_method_46_code 1 = .ok (.newarray .byte, 2) := by decide +kernel
theorem d22_3 : decode jdk_43_method_46_code 3 = .ok (.dup, 1) := by decide +kernel
theorem d22_4 : decode jdk_43_method_46_code 4 = .ok (.iconst 0, 1) := by decide +kernel
theorem d22_5 : decode jdk_43_method_46_code 5 = .ok (.iload_n 0, 1) := by decide +kernel
theorem d22_6 : decode jdk_43_method_46_code 6 = .ok (.i2b, 1) := by decide +kernel
theorem d22_7 : decode jdk_43_method_46_code 7 = .ok (.bastore, 1) := by decide +kernel
theorem d22_8 : decode jdk_43_method_46_code 8 = .ok (.areturn, 1) := by decide +kernel
theorem ef_rmTB (m : MethodId) (x0 : Int32) : entryFrame m #[(.int x0)] 1 = mkF m 0 #[.val (.int x0)] [] := by first | (simp [entryFrame, mkF, argsToLocals, Value.category, maxLocals]; done) | rfl
set_option maxRecDepth 65536 in
set_option maxHeartbeats 40000000 in
theorem rmTB (l : Launch) (Z : State) (a0 : Array Value) (hw : ∀ d ∈ tables_1, d.before a0 Z = true) (ws : List Jvm.Cond) (c0 : Int32) (h0 : Heap) (n0 : Nat) (Z0 : n0 ≤ h0.size)  :
    Met l Z (⟨"java/lang/StringLatin1", "toBytes", "(C)[B"⟩ : MethodName) jdk_43_method_46_code 1 (some (.array .byte)) ws ({ frames := 0, cells := 1, slots := 1, locals := 0 } : Room) #[(.int c0)] h0 (fun v h L => ∃ (b : Addr) (fb : Nat → Value), v = some (.ref b) ∧ Fr n0 L ∧ Keep h0 h [] ∧ n0 ≤ b ∧ h0.size ≤ b ∧ Ary Z h b .byte 1 fb) 1 1 := by
  refine met_of (plainFor_of_name pn_3) (f0 := fun m => (mkF m 0 #[.val (.int c0)] [])) (fun m => ef_rmTB m c0) ?_
  intro p e s m below meth c s₁ X0 hx hby hml hret hlk hown hnm hZ e0
  replace hown : s.vm.findClass "java/lang/StringLatin1" = some m.cls := hown
  have N0 := Fr.nil n0
  refine r_iconst X0.here hx (hb hby d22_0) (v := 1) rfl (pc' := 1) rfl ?_
  refine r_newarray X0 hx hZ (aty := .byte) (hw _ (List.mem_of_getElem? (i := 23) rfl)) e0 (cap := 1) (by decide) (by decide) (by decide) (by decide) (by decide) (hb hby d22_1) (pc' := 3) rfl (fun T206 h206 b206 k206 g206 X206 e206 E206 A206 => ?_)
  have K207 : Keep h0 h0 [] := Keep.refl _ _
  have fr208 : h0.size ≤ b206 := by rw [g206]; exact K207.1
  have ge209 : n0 ≤ b206 := by rw [g206]; exact Z0
  have K210 := K207.ext E206
  have Z211 : n0 ≤ h206.size := by have q := Z0; exact Nat.le_trans q E206.1
  have f212 : Ary Z h206 b206 .byte 1 (fun _ => .int 0) := Ary.new A206 rfl
  refine r_dup X206.here hx (hb hby d22_3) rfl (pc' := 4) rfl ?_
  refine r_iconst X206.here hx (hb hby d22_4) (v := 0) rfl (pc' := 5) rfl ?_
  refine r_iloadN X206.here hx (hb hby d22_5) rfl (pc' := 6) rfl ?_
  refine r_i2b X206.here hx (hb hby d22_6) (pc' := 7) rfl ?_
  refine q_bastoreB X206 hx hZ e206 (j := (0 : Int32)) f212 (by decide) (by decide) (w := (c0.toInt8.toInt32)) (own_n8 _) (hb hby d22_7) (pc' := 8) rfl (fun T213 h213 X213 e213 W213 A213 => ?_)
  have K214 := K210.wr W213 (Or.inr fr208)
  have Z215 : n0 ≤ h213.size := by have q := Z211; rw [W213.size]; exact q
  have N213 := Fr.snoc X213 N0 ge209
  refine r_retA X213 hx hlk hret rfl rfl (hb hby d22_8) ?_ (by decide) (by decide)
  try rw [e213]
  exact ⟨b206, _, rfl, N213, K214, ge209, fr208, A213⟩
theorem d23_0 : decode jdk_42_method_151_code 0 = .ok (.aload_n 0, 1) := by decide +kernel
theorem d23_1 : decode jdk_42_method_151_code 1 = .ok (.invokespecial 1, 3) := by decide +kernel
theorem d23_4 : decode jdk_42_method_151_code 4 = .ok (.aload_n 0, 1) := by decide +kernel
theorem d23_5 : decode jdk_42_method_151_code 5 = .ok (.aload_n 1, 1) := by decide +kernel
theorem d23_6 : decode jdk_42_method_151_code 6 = .ok (.putfield 9, 3) := by decide +kernel
theorem d23_9 : decode jdk_42_method_151_code 9 = .ok (.aload_n 0, 1) := by decide +kernel
theorem d23_10 : decode jdk_42_method_151_code 10 = .ok (.iload_n 2, 1) := by decide +kernel
theorem d23_11 : decode jdk_42_method_151_code 11 = .ok (.putfield 15, 3) := by decide +kernel
theorem d23_14 : decode jdk_42_method_151_code 14 = .ok (.return_, 1) := by decide +kernel
theorem ef_rmSB (m : MethodId) (x0 : Addr) (x1 : Addr) (x2 : Int32) : entryFrame m #[(.ref x0), (.ref x1), (.int x2)] 3 = mkF m 0 #[.val (.ref x0), .val (.ref x1), .val (.int x2)] [] := by first | (simp [entryFrame, mkF, argsToLocals, Value.category, maxLocals]; done) | rfl
set_option maxRecDepth 65536 in
set_option maxHeartbeats 40000000 in
theorem rmSB (l : Launch) (Z : State) (a0 : Array Value) (hw : ∀ d ∈ tables_1, d.before a0 Z = true) (ws : List Jvm.Cond) (o b : Addr) (h0 : Heap) (n0 : Nat) (Z0 : n0 ≤ h0.size) (go : n0 ≤ o) (E_o : Exa Z h0 o "java/lang/String") (F_o_coder : Fld Z h0 o "java/lang/String" "coder" "B" (.int (0 : Int32))) (F_o_value : Fld Z h0 o "java/lang/String" "value" "[B" .null)  :
    Met l Z (⟨"java/lang/String", "<init>", "([BB)V"⟩ : MethodName) jdk_42_method_151_code 3 none ws ({ frames := 1, cells := 0, slots := 0, locals := 12 } : Room) #[(.ref o), (.ref b), (.int (0 : Int32))] h0 (fun v h L => v = none ∧ Fr n0 L ∧ Keep h0 h [o] ∧ Fld Z h o "java/lang/String" "coder" "B" (.int (0 : Int32)) ∧ Fld Z h o "java/lang/String" "value" "[B" (.ref b)) 0 0 := by
  refine met_of (plainFor_of_name pn_1) (f0 := fun m => (mkF m 0 #[.val (.ref o), .val (.ref b), .val (.int (0 : Int32))] [])) (fun m => ef_rmSB m o b (0 : Int32)) ?_
  intro p e s m below meth c s₁ X0 hx hby hml hret hlk hown hnm hZ e0
  replace hown : s.vm.findClass "java/lang/String" = some m.cls := hown
  have N0 := Fr.nil n0
  refine r_aloadN X0.here hx (hb hby d23_0) rfl rfl (pc' := 1) rfl ?_
  refine r_initO X0 hx hZ hown (hw _ (List.mem_of_getElem? (i := 15) rfl)) (hw _ (List.mem_of_getElem? (i := 16) rfl)) (hw _ (List.mem_of_getElem? (i := 17) rfl)) e0 (by rw [hml]; rfl) (by decide) (W := 0) rfl (by decide) (hb hby d23_1) (pc' := 4) rfl (fun T216 X216 e216 => ?_)
  refine r_aloadN X216.here hx (hb hby d23_4) rfl rfl (pc' := 5) rfl ?_
  refine r_aloadN X216.here hx (hb hby d23_5) rfl rfl (pc' := 6) rfl ?_
  refine r_putF X216 hx hZ hown (hw _ (List.mem_of_getElem? (i := 32) rfl)) Via.refl e216 F_o_value E_o (Or.inr ⟨(hw _ (List.mem_of_getElem? (i := 33) rfl)), rfl, hnm⟩) (hw _ (List.mem_of_getElem? (i := 5) rfl)) (ty := (.array .byte)) (by decide) rfl rfl (hb hby d23_6) (pc' := 9) rfl (fun T217 h217 X217 e217 W217 => ?_)
  have f218 := F_o_value.same W217
  have K219 : Keep h0 h0 [o] := Keep.refl _ _
  have K220 := K219.wr W217 (Or.inl (List.mem_of_getElem? (i := 0) rfl))
  have f221 := E_o.wr W217
  have f222 := F_o_coder.other W217 (Or.inr (slot_ne (Or.inr (hw _ (List.mem_of_getElem? (i := 31) rfl)) : Laid Z a0 "java/lang/String" "java/lang/String" "coder" "B") (Or.inr (hw _ (List.mem_of_getElem? (i := 33) rfl)) : Laid Z a0 "java/lang/String" "java/lang/String" "value" "[B") (by decide) (t := .byte) (t' := (.array .byte)) (by decide) (by decide)))
  have Z223 : n0 ≤ h217.size := by have q := Z0; rw [W217.size]; exact q
  have N217 := Fr.snoc X217 N0 go
  refine r_aloadN X217.here hx (hb hby d23_9) rfl rfl (pc' := 10) rfl ?_
  refine r_iloadN X217.here hx (hb hby d23_10) rfl (pc' := 11) rfl ?_
  refine r_putFN X217 hx hZ hown (hw _ (List.mem_of_getElem? (i := 30) rfl)) Via.refl e217 f222 f221 (Or.inr ⟨(hw _ (List.mem_of_getElem? (i := 31) rfl)), rfl, hnm⟩) (hw _ (List.mem_of_getElem? (i := 5) rfl)) (ty := .byte) (v' := (.int (0 : Int32))) (by decide) rfl rfl (hb hby d23_11) (pc' := 14) rfl (fun T224 h224 X224 e224 W224 => ?_)
  have f225 := f222.same W224
  have K226 := K220.wr W224 (Or.inl (List.mem_of_getElem? (i := 0) rfl))
  have f227 := f221.wr W224
  have f228 := f218.other W224 (Or.inr (slot_ne (Or.inr (hw _ (List.mem_of_getElem? (i := 33) rfl)) : Laid Z a0 "java/lang/String" "java/lang/String" "value" "[B") (Or.inr (hw _ (List.mem_of_getElem? (i := 31) rfl)) : Laid Z a0 "java/lang/String" "java/lang/String" "coder" "B") (by decide) (t := (.array .byte)) (t' := .byte) (by decide) (by decide)))
  have Z229 : n0 ≤ h224.size := by have q := Z223; rw [W224.size]; exact q
  have N224 := Fr.snoc X224 N217 go
  refine r_ret0 X224 hx hlk hret (hb hby d23_14) ?_ (by decide) (by decide)
  try rw [e224]
  exact ⟨rfl, N224, K226, f225, f228⟩
theorem d20_0 : decode jdk_42_method_139_code 0 = .ok (.getstatic 38, 3) := by decide +kernel
theorem d20_3 : decode jdk_42_method_139_code 3 = .ok (.ifCond .eq 23, 3) := by decide +kernel
theorem d20_6 : decode jdk_42_method_139_code 6 = .ok (.iload_n 0, 1) := by decide +kernel
theorem d20_7 : decode jdk_42_method_139_code 7 = .ok (.invokestatic 1015, 3) := by decide +kernel
theorem pd_5 : parseMethodDescriptor "(C)Z" = some ⟨[.char], some .boolean⟩ := by decide +kernel
theorem d20_10 : decode jdk_42_method_139_code 10 = .ok (.ifCond .eq 16, 3) := by decide +kernel
theorem d20_13 : decode jdk_42_method_139_code 13 = .ok (.new 10, 3) := by decide +kernel
theorem d20_16 : decode jdk_42_method_139_code 16 = .ok (.dup, 1) := by decide +kernel
theorem d20_17 : decode jdk_42_method_139_code 17 = .ok (.iload_n 0, 1) := by decide +kernel
theorem d20_18 : decode jdk_42_method_139_code 18 = .ok (.invokestatic 1018, 3) := by decide +kernel
theorem pd_6 : parseMethodDescriptor "(C)[B" = some ⟨[.char], some (.array .byte)⟩ := by decide +kernel
theorem d20_21 : decode jdk_42_method_139_code 21 = .ok (.iconst 0, 1) := by decide +kernel
theorem d20_22 : decode jdk_42_method_139_code 22 = .ok (.invokespecial 209, 3) := by decide +kernel
theorem pd_7 : parseMethodDescriptor "([BB)V" = some ⟨[(.array .byte), .byte], none⟩ := by decide +kernel
theorem d20_25 : decode jdk_42_method_139_code 25 = .ok (.areturn, 1) := by decide +kernel
theorem ef_rmVOf (m : MethodId) (x0 : Int32) : entryFrame m #[(.int x0)] 1 = mkF m 0 #[.val (.int x0)] [] := by first | (simp [entryFrame, mkF, argsToLocals, Value.category, maxLocals]; done) | rfl
set_option maxRecDepth 65536 in
set_option maxHeartbeats 40000000 in
theorem rmVOf (l : Launch) (Z : State) (a0 : Array Value) (hw : ∀ d ∈ tables_1, d.before a0 Z = true) (ws : List Jvm.Cond) (c0 cs : Int32) (h0 : Heap) (n0 : Nat) (Z0 : n0 ≤ h0.size) (hb0 : 0 ≤ c0.toInt ∧ c0.toInt ≤ 255) (hcs : Sta Z h0 "java/lang/String" "COMPACT_STRINGS" "Z" (.int cs)) (hc0 : ¬ cs = 0)  :
    Met l Z (⟨"java/lang/String", "valueOf", "(C)Ljava/lang/String;"⟩ : MethodName) jdk_42_method_139_code 1 (some (.object "java/lang/String")) ws ({ frames := 2, cells := 2, slots := 5, locals := 27 } : Room) #[(.int c0)] h0 (fun v h L => ∃ (so sb : Addr) (fb : Nat → Value), v = some (.ref so) ∧ Fr n0 L ∧ Keep h0 h [] ∧ n0 ≤ so ∧ h0.size ≤ so ∧ Exa Z h so "java/lang/String" ∧ Fld Z h so "java/lang/String" "value" "[B" (.ref sb) ∧ Ary Z h sb .byte 1 fb) 2 5 := by
  refine met_of (plainFor_of_name pn_1) (f0 := fun m => (mkF m 0 #[.val (.int c0)] [])) (fun m => ef_rmVOf m c0) ?_
  intro p e s m below meth c s₁ X0 hx hby hml hret hlk hown hnm hZ e0
  replace hown : s.vm.findClass "java/lang/String" = some m.cls := hown
  have N0 := Fr.nil n0
  refine r_getS X0 hx hZ hown (hw _ (List.mem_of_getElem? (i := 18) rfl)) Via.refl e0 hcs (hb hby d20_0) (pc' := 3) rfl (fun T230 X230 e230 => ?_)
  refine r_if0_eq X230.here hx (hb hby d20_3) (by decide) (pc' := 26) (by decide) (pc2 := 6) rfl (fun hc3 => absurd hc3 hc0) (fun hc3 => ?_)
  refine r_iloadN X230.here hx (hb hby d20_6) rfl (pc' := 7) rfl ?_
  refine r_callS X230 hx hZ (y := (⟨"java/lang/StringLatin1", "canEncode", "(C)Z"⟩ : MethodName)) (rm := ({ frames := 0, cells := 0, slots := 0, locals := 0 } : Room)) hown (hw _ (List.mem_of_getElem? (i := 121) rfl)) (hw _ (List.mem_of_getElem? (i := 122) rfl)) (hw _ (List.mem_of_getElem? (i := 123) rfl)) (hw _ (List.mem_of_getElem? (i := 124) rfl)) (by decide) (rmCE l Z a0 hw [] c0 h0 n0 Z0 hb0) e230 (by rw [hml]; rfl) (argsL := [(.int c0)]) (rest := []) (lenOf pd_5 rfl) rfl rfl (W := 0) rfl (by decide) (by decide) (by decide) (by decide) (hb hby d20_7) (pc' := 10) rfl ?_
  rintro v231 T231 L231 X231 ⟨rfl, Nq231, e231⟩
  have N231 := Fr.app N0 Nq231
  show Run p e below _ _ T231 (mkF m 10 #[.val (.int c0)] [(.int (1 : Int32))])
  refine r_if0_eq X231.here hx (hb hby d20_10) (by decide) (pc' := 26) (by decide) (pc2 := 13) rfl (fun hc10 => absurd hc10 (by decide)) (fun hc10 => ?_)
  refine r_new X231 hx hZ hown (hw _ (List.mem_of_getElem? (i := 125) rfl)) (hw _ (List.mem_of_getElem? (i := 5) rfl)) (hw _ (List.mem_of_getElem? (i := 6) rfl)) e231 (by decide) (by decide) (hb hby d20_13) (pc' := 16) rfl (fun T232 h232 b232 g232 X232 e232 E232 A232 D232 => ?_)
  have K233 : Keep h0 h0 [] := Keep.refl _ _
  have fr234 : h0.size ≤ b232 := by rw [g232]; exact K233.1
  have ge235 : n0 ≤ b232 := by rw [g232]; exact Z0
  have K236 := K233.ext E232
  have f237 := own_staExt hcs E232
  have Z238 : n0 ≤ h232.size := by have q := Z0; exact Nat.le_trans q E232.1
  have f239 : Fld Z h232 b232 "java/lang/String" "coder" "B" (.int (0 : Int32)) := D232 (Or.inr (hw _ (List.mem_of_getElem? (i := 31) rfl))) (ty := .byte) (by decide)
  have f240 : Fld Z h232 b232 "java/lang/String" "value" "[B" .null := D232 (Or.inr (hw _ (List.mem_of_getElem? (i := 33) rfl))) (ty := (.array .byte)) (by decide)
  refine r_dup X232.here hx (hb hby d20_16) rfl (pc' := 17) rfl ?_
  refine r_iloadN X232.here hx (hb hby d20_17) rfl (pc' := 18) rfl ?_
  refine r_callS X232 hx hZ (y := (⟨"java/lang/StringLatin1", "toBytes", "(C)[B"⟩ : MethodName)) (rm := ({ frames := 0, cells := 1, slots := 1, locals := 0 } : Room)) hown (hw _ (List.mem_of_getElem? (i := 126) rfl)) (hw _ (List.mem_of_getElem? (i := 127) rfl)) (hw _ (List.mem_of_getElem? (i := 123) rfl)) (hw _ (List.mem_of_getElem? (i := 128) rfl)) (by decide) (rmTB l Z a0 hw [] c0 h232 n0 Z238) e232 (by rw [hml]; rfl) (argsL := [(.int c0)]) (rest := [(.ref b232), (.ref b232)]) (lenOf pd_6 rfl) rfl rfl (W := 2) rfl (by decide) (by decide) (by decide) (by decide) (hb hby d20_18) (pc' := 21) rfl ?_
  rintro v241 T241 L241 X241 ⟨b, fb, rfl, Nq241, K241, gbb_241, fbb_241, Ab241⟩
  have N241 := Fr.app N231 Nq241
  show Run p e below _ _ T241 (mkF m 21 #[.val (.int c0)] [(.ref b), (.ref b232), (.ref b232)])
  have ne242 : b ≠ b232 := Nat.ne_of_gt (Nat.lt_of_lt_of_le A232.lt fbb_241)
  have fr243 : h0.size ≤ b := Nat.le_trans K236.1 fbb_241
  have K244 := K236.trans K241 all0
  have f245 := own_staKeep f237 K241 all0
  have f246 := A232.keep K241
  have f247 := f239.keep K241 nin0
  have f248 := f240.keep K241 nin0
  have Z249 : n0 ≤ T241.heap.size := by have q := Z238; exact Nat.le_trans q K241.1
  refine r_iconst X241.here hx (hb hby d20_21) (v := 0) rfl (pc' := 22) rfl ?_
  refine r_callI X241 hx hZ (y := (⟨"java/lang/String", "<init>", "([BB)V"⟩ : MethodName)) (rm := ({ frames := 1, cells := 0, slots := 0, locals := 12 } : Room)) hown rfl (hw _ (List.mem_of_getElem? (i := 129) rfl)) (hw _ (List.mem_of_getElem? (i := 130) rfl)) (hw _ (List.mem_of_getElem? (i := 6) rfl)) (hw _ (List.mem_of_getElem? (i := 131) rfl)) (by decide) (rmSB l Z a0 hw [] b232 b T241.heap n0 Z249 ge235 f246 f247 f248) rfl (by rw [hml]; rfl) (argsL := [(.ref b), (.int (0 : Int32))]) (rest := [(.ref b232)]) (lenOf pd_7 rfl) rfl rfl (W := 1) rfl (by decide) (by decide) (by decide) (by decide) (hb hby d20_22) (pc' := 25) rfl ?_
  rintro v250 T250 L250 X250 ⟨rfl, Nq250, K250, Fo_0_250, Fo_1_250⟩
  have N250 := Fr.app N241 Nq250
  show Run p e below _ _ T250 (mkF m 25 #[.val (.int c0)] [(.ref b232)])
  have K251 := K244.trans K250 (allS (Or.inr fr234) all0)
  have f252 := own_staKeep f245 K250 (allS (own_exaS f246) all0)
  have f253 := f246.keep K250
  have f254 := Ab241.keep K250 (ninS ne242 nin0)
  have Z255 : n0 ≤ T250.heap.size := by have q := Z249; exact Nat.le_trans q K250.1
  refine r_retA X250 hx hlk hret rfl rfl (hb hby d20_25) ?_ (by decide) (by decide)
  skip
  exact ⟨b232, b, fb, rfl, N250, K251, ge235, fr234, f253, Fo_1_250, f254⟩
theorem d15_0 : decode jdk_31_method_10_code 0 = .ok (.aload_n 0, 1) := by decide +kernel
theorem d15_1 : decode jdk_31_method_10_code 1 = .ok (.ifnonnull 11, 3) := by decide +kernel
theorem d15_12 : decode jdk_31_method_10_code 12 = .ok (.aload_n 0, 1) := by decide +kernel
theorem d15_13 : decode jdk_31_method_10_code 13 = .ok (.areturn, 1) := by decide +kernel
theorem pn_4 : plainName "java/util/Objects" = true := by first | (simp [plainName, overriddenIn]; done) | decide +kernel
theorem ef_rmR1 (m : MethodId) (x0 : Addr) : entryFrame m #[(.ref x0)] 1 = mkF m 0 #[.val (.ref x0)] [] := by first | (simp [entryFrame, mkF, argsToLocals, Value.category, maxLocals]; done) | rfl
set_option maxRecDepth 65536 in
set_option maxHeartbeats 40000000 in
theorem rmR1 (l : Launch) (Z : State) (a0 : Array Value) (hw : ∀ d ∈ tables_1, d.before a0 Z = true) (ws : List Jvm.Cond) (a : Addr) (h0 : Heap) (n0 : Nat) (Z0 : n0 ≤ h0.size)  :
    Met l Z (⟨"java/util/Objects", "requireNonNull", "(Ljava/lang/Object;)Ljava/lang/Object;"⟩ : MethodName) jdk_31_method_10_code 1 (some (.object "java/lang/Object")) ws ({ frames := 0, cells := 0, slots := 0, locals := 0 } : Room) #[(.ref a)] h0 (fun v h L => v = some (.ref a) ∧ Fr n0 L ∧ h = h0) 0 0 := by
  refine met_of (plainFor_of_name pn_4) (f0 := fun m => (mkF m 0 #[.val (.ref a)] [])) (fun m => ef_rmR1 m a) ?_
  intro p e s m below meth c s₁ X0 hx hby hml hret hlk hown hnm hZ e0
  replace hown : s.vm.findClass "java/util/Objects" = some m.cls := hown
  have N0 := Fr.nil n0
  refine r_aloadN X0.here hx (hb hby d15_0) rfl rfl (pc' := 1) rfl ?_
  refine r_ifnonnullY X0.here hx (hb hby d15_1) (by decide) (pc' := 12) (by decide) ?_
  refine r_aloadN X0.here hx (hb hby d15_12) rfl rfl (pc' := 13) rfl ?_
  refine r_retA X0 hx hlk hret rfl rfl (hb hby d15_13) ?_ (by decide) (by decide)
  try rw [e0]
  exact ⟨rfl, N0, rfl⟩
theorem d13_0 : decode jdk_31_method_11_code 0 = .ok (.aload_n 0, 1) := by decide +kernel
theorem d13_1 : decode jdk_31_method_11_code 1 = .ok (.ifnonnull 12, 3) := by decide +kernel
theorem d13_13 : decode jdk_31_method_11_code 13 = .ok (.aload_n 0, 1) := by decide +kernel
theorem d13_14 : decode jdk_31_method_11_code 14 = .ok (.areturn, 1) := by decide +kernel
theorem ef_rmR2 (m : MethodId) (x0 : Addr) (x1 : Addr) : entryFrame m #[(.ref x0), (.ref x1)] 2 = mkF m 0 #[.val (.ref x0), .val (.ref x1)] [] := by first | (simp [entryFrame, mkF, argsToLocals, Value.category, maxLocals]; done) | rfl
set_option maxRecDepth 65536 in
set_option maxHeartbeats 40000000 in
theorem rmR2 (l : Launch) (Z : State) (a0 : Array Value) (hw : ∀ d ∈ tables_1, d.before a0 Z = true) (ws : List Jvm.Cond) (a b : Addr) (h0 : Heap) (n0 : Nat) (Z0 : n0 ≤ h0.size)  :
    Met l Z (⟨"java/util/Objects", "requireNonNull", "(Ljava/lang/Object;Ljava/lang/String;)Ljava/lang/Object;"⟩ : MethodName) jdk_31_method_11_code 2 (some (.object "java/lang/Object")) ws ({ frames := 0, cells := 0, slots := 0, locals := 0 } : Room) #[(.ref a), (.ref b)] h0 (fun v h L => v = some (.ref a) ∧ Fr n0 L ∧ h = h0) 0 0 := by
  refine met_of (plainFor_of_name pn_4) (f0 := fun m => (mkF m 0 #[.val (.ref a), .val (.ref b)] [])) (fun m => ef_rmR2 m a b) ?_
  intro p e s m below meth c s₁ X0 hx hby hml hret hlk hown hnm hZ e0
  replace hown : s.vm.findClass "java/util/Objects" = some m.cls := hown
  have N0 := Fr.nil n0
  refine r_aloadN X0.here hx (hb hby d13_0) rfl rfl (pc' := 1) rfl ?_
  refine r_ifnonnullY X0.here hx (hb hby d13_1) (by decide) (pc' := 13) (by decide) ?_
  refine r_aloadN X0.here hx (hb hby d13_13) rfl rfl (pc' := 14) rfl ?_
  refine r_retA X0 hx hlk hret rfl rfl (hb hby d13_14) ?_ (by decide) (by decide)
  try rw [e0]
  exact ⟨rfl, N0, rfl⟩
theorem d25_0 : decode jdk_32_method_2_code 0 = .ok (.aload_n 0, 1) := by decide +kernel
theorem d25_1 : decode jdk_32_method_2_code 1 = .ok (.invokespecial 7, 3) := by decide +kernel
theorem d25_4 : decode jdk_32_method_2_code 4 = .ok (.aload_n 0, 1) := by decide +kernel
theorem d25_5 : decode jdk_32_method_2_code 5 = .ok (.aload_n 1, 1) := by decide +kernel
theorem d25_6 : decode jdk_32_method_2_code 6 = .ok (.putfield 13, 3) := by decide +kernel
theorem d25_9 : decode jdk_32_method_2_code 9 = .ok (.return_, 1) := by decide +kernel
theorem pn_5 : plainName "java/util/Optional" = true := by first | (simp [plainName, overriddenIn]; done) | decide +kernel
theorem ef_rmOi (m : MethodId) (x0 : Addr) (x1 : Addr) : entryFrame m #[(.ref x0), (.ref x1)] 2 = mkF m 0 #[.val (.ref x0), .val (.ref x1)] [] := by first | (simp [entryFrame, mkF, argsToLocals, Value.category, maxLocals]; done) | rfl
set_option maxRecDepth 65536 in
set_option maxHeartbeats 40000000 in
theorem rmOi (l : Launch) (Z : State) (a0 : Array Value) (hw : ∀ d ∈ tables_1, d.before a0 Z = true) (ws : List Jvm.Cond) (o x : Addr) (h0 : Heap) (n0 : Nat) (Z0 : n0 ≤ h0.size) (go : n0 ≤ o) (E_o : Exa Z h0 o "java/util/Optional") (F_o_value : Fld Z h0 o "java/util/Optional" "value" "Ljava/lang/Object;" .null)  :
    Met l Z (⟨"java/util/Optional", "<init>", "(Ljava/lang/Object;)V"⟩ : MethodName) jdk_32_method_2_code 2 none ws ({ frames := 1, cells := 0, slots := 0, locals := 12 } : Room) #[(.ref o), (.ref x)] h0 (fun v h L => v = none ∧ Fr n0 L ∧ Keep h0 h [o] ∧ Fld Z h o "java/util/Optional" "value" "Ljava/lang/Object;" (.ref x)) 0 0 := by
  refine met_of (plainFor_of_name pn_5) (f0 := fun m => (mkF m 0 #[.val (.ref o), .val (.ref x)] [])) (fun m => ef_rmOi m o x) ?_
  intro p e s m below meth c s₁ X0 hx hby hml hret hlk hown hnm hZ e0
  replace hown : s.vm.findClass "java/util/Optional" = some m.cls := hown
  have N0 := Fr.nil n0
  refine r_aloadN X0.here hx (hb hby d25_0) rfl rfl (pc' := 1) rfl ?_
  refine r_initO X0 hx hZ hown (hw _ (List.mem_of_getElem? (i := 140) rfl)) (hw _ (List.mem_of_getElem? (i := 16) rfl)) (hw _ (List.mem_of_getElem? (i := 17) rfl)) e0 (by rw [hml]; rfl) (by decide) (W := 0) rfl (by decide) (hb hby d25_1) (pc' := 4) rfl (fun T256 X256 e256 => ?_)
  refine r_aloadN X256.here hx (hb hby d25_4) rfl rfl (pc' := 5) rfl ?_
  refine r_aloadN X256.here hx (hb hby d25_5) rfl rfl (pc' := 6) rfl ?_
  refine r_putF X256 hx hZ hown (hw _ (List.mem_of_getElem? (i := 85) rfl)) Via.refl e256 F_o_value E_o (Or.inr ⟨(hw _ (List.mem_of_getElem? (i := 86) rfl)), rfl, hnm⟩) (hw _ (List.mem_of_getElem? (i := 136) rfl)) (ty := (.object "java/lang/Object")) (by decide) rfl rfl (hb hby d25_6) (pc' := 9) rfl (fun T257 h257 X257 e257 W257 => ?_)
  have f258 := F_o_value.same W257
  have K259 : Keep h0 h0 [o] := Keep.refl _ _
  have K260 := K259.wr W257 (Or.inl (List.mem_of_getElem? (i := 0) rfl))
  have f261 := E_o.wr W257
  have Z262 : n0 ≤ h257.size := by have q := Z0; rw [W257.size]; exact q
  have N257 := Fr.snoc X257 N0 go
  refine r_ret0 X257 hx hlk hret (hb hby d25_9) ?_ (by decide) (by decide)
  try rw [e257]
  exact ⟨rfl, N257, K260, f258⟩
theorem d24_0 : decode jdk_32_method_3_code 0 = .ok (.new 2, 3) := by decide +kernel
theorem d24_3 : decode jdk_32_method_3_code 3 = .ok (.dup, 1) := by decide +kernel
theorem d24_4 : decode jdk_32_method_3_code 4 = .ok (.aload_n 0, 1) := by decide +kernel
theorem d24_5 : decode jdk_32_method_3_code 5 = .ok (.invokestatic 17, 3) := by decide +kernel
theorem pd_8 : parseMethodDescriptor "(Ljava/lang/Object;)Ljava/lang/Object;" = some ⟨[(.object "java/lang/Object")], some (.object "java/lang/Object")⟩ := by decide +kernel
theorem d24_8 : decode jdk_32_method_3_code 8 = .ok (.invokespecial 23, 3) := by decide +kernel
theorem pd_9 : parseMethodDescriptor "(Ljava/lang/Object;)V" = some ⟨[(.object "java/lang/Object")], none⟩ := by decide +kernel
theorem d24_11 : decode jdk_32_method_3_code 11 = .ok (.areturn, 1) := by decide +kernel
theorem ef_rmOf (m : MethodId) (x0 : Addr) : entryFrame m #[(.ref x0)] 1 = mkF m 0 #[.val (.ref x0)] [] := by first | (simp [entryFrame, mkF, argsToLocals, Value.category, maxLocals]; done) | rfl
set_option maxRecDepth 65536 in
set_option maxHeartbeats 40000000 in
theorem rmOf (l : Launch) (Z : State) (a0 : Array Value) (hw : ∀ d ∈ tables_1, d.before a0 Z = true) (ws : List Jvm.Cond) (x : Addr) (h0 : Heap) (n0 : Nat) (Z0 : n0 ≤ h0.size)  :
    Met l Z (⟨"java/util/Optional", "of", "(Ljava/lang/Object;)Ljava/util/Optional;"⟩ : MethodName) jdk_32_method_3_code 1 (some (.object "java/util/Optional")) ws ({ frames := 2, cells := 1, slots := 1, locals := 26 } : Room) #[(.ref x)] h0 (fun v h L => ∃ o : Addr, v = some (.ref o) ∧ Fr n0 L ∧ Keep h0 h [] ∧ n0 ≤ o ∧ h0.size ≤ o ∧ Exa Z h o "java/util/Optional" ∧ Fld Z h o "java/util/Optional" "value" "Ljava/lang/Object;" (.ref x)) 1 1 := by
  refine met_of (plainFor_of_name pn_5) (f0 := fun m => (mkF m 0 #[.val (.ref x)] [])) (fun m => ef_rmOf m x) ?_
  intro p e s m below meth c s₁ X0 hx hby hml hret hlk hown hnm hZ e0
  replace hown : s.vm.findClass "java/util/Optional" = some m.cls := hown
  have N0 := Fr.nil n0
  refine r_new X0 hx hZ hown (hw _ (List.mem_of_getElem? (i := 135) rfl)) (hw _ (List.mem_of_getElem? (i := 136) rfl)) (hw _ (List.mem_of_getElem? (i := 44) rfl)) e0 (by decide) (by decide) (hb hby d24_0) (pc' := 3) rfl (fun T263 h263 b263 g263 X263 e263 E263 A263 D263 => ?_)
  have K264 : Keep h0 h0 [] := Keep.refl _ _
  have fr265 : h0.size ≤ b263 := by rw [g263]; exact K264.1
  have ge266 : n0 ≤ b263 := by rw [g263]; exact Z0
  have K267 := K264.ext E263
  have Z268 : n0 ≤ h263.size := by have q := Z0; exact Nat.le_trans q E263.1
  have f269 : Fld Z h263 b263 "java/util/Optional" "value" "Ljava/lang/Object;" .null := D263 (Or.inr (hw _ (List.mem_of_getElem? (i := 86) rfl))) (ty := (.object "java/lang/Object")) (by decide)
  refine r_dup X263.here hx (hb hby d24_3) rfl (pc' := 4) rfl ?_
  refine r_aloadN X263.here hx (hb hby d24_4) rfl rfl (pc' := 5) rfl ?_
  refine r_callS X263 hx hZ (y := (⟨"java/util/Objects", "requireNonNull", "(Ljava/lang/Object;)Ljava/lang/Object;"⟩ : MethodName)) (rm := ({ frames := 0, cells := 0, slots := 0, locals := 0 } : Room)) hown (hw _ (List.mem_of_getElem? (i := 77) rfl)) (hw _ (List.mem_of_getElem? (i := 78) rfl)) (hw _ (List.mem_of_getElem? (i := 64) rfl)) (hw _ (List.mem_of_getElem? (i := 79) rfl)) (by decide) (rmR1 l Z a0 hw [] x h263 n0 Z268) e263 (by rw [hml]; rfl) (argsL := [(.ref x)]) (rest := [(.ref b263), (.ref b263)]) (lenOf pd_8 rfl) rfl rfl (W := 2) rfl (by decide) (by decide) (by decide) (by decide) (hb hby d24_5) (pc' := 8) rfl ?_
  rintro v270 T270 L270 X270 ⟨rfl, Nq270, e270⟩
  have N270 := Fr.app N0 Nq270
  show Run p e below _ _ T270 (mkF m 8 #[.val (.ref x)] [(.ref x), (.ref b263), (.ref b263)])
  refine r_callI X270 hx hZ (y := (⟨"java/util/Optional", "<init>", "(Ljava/lang/Object;)V"⟩ : MethodName)) (rm := ({ frames := 1, cells := 0, slots := 0, locals := 12 } : Room)) hown rfl (hw _ (List.mem_of_getElem? (i := 137) rfl)) (hw _ (List.mem_of_getElem? (i := 138) rfl)) (hw _ (List.mem_of_getElem? (i := 44) rfl)) (hw _ (List.mem_of_getElem? (i := 139) rfl)) (by decide) (rmOi l Z a0 hw [] b263 x h263 n0 Z268 ge266 A263 f269) e270 (by rw [hml]; rfl) (argsL := [(.ref x)]) (rest := [(.ref b263)]) (lenOf pd_9 rfl) rfl rfl (W := 1) rfl (by decide) (by decide) (by decide) (by decide) (hb hby d24_8) (pc' := 11) rfl ?_
  rintro v271 T271 L271 X271 ⟨rfl, Nq271, K271, Fo_0_271⟩
  have N271 := Fr.app N270 Nq271
  show Run p e below _ _ T271 (mkF m 11 #[.val (.ref x)] [(.ref b263)])
  have K272 := K267.trans K271 (allS (Or.inr fr265) all0)
  have f273 := A263.keep K271
  have Z274 : n0 ≤ T271.heap.size := by have q := Z268; exact Nat.le_trans q K271.1
  refine r_retA X271 hx hlk hret rfl rfl (hb hby d24_11) ?_ (by decide) (by decide)
  skip
  exact ⟨b263, rfl, N271, K272, ge266, fr265, f273, Fo_0_271⟩
theorem d9_0 : decode jdk_32_method_1_code 0 = .ok (.getstatic 1, 3) := by decide +kernel
theorem d9_3 : decode jdk_32_method_1_code 3 = .ok (.astore_n 0, 1) := by decide +kernel
theorem d9_4 : decode jdk_32_method_1_code 4 = .ok (.aload_n 0, 1) := by decide +kernel
theorem d9_5 : decode jdk_32_method_1_code 5 = .ok (.areturn, 1) := by decide +kernel
theorem ef_rmEm (m : MethodId)  : entryFrame m #[] 1 = mkF m 0 #[.unset] [] := by first | (simp [entryFrame, mkF, argsToLocals, Value.category, maxLocals]; done) | rfl
set_option maxRecDepth 65536 in
set_option maxHeartbeats 40000000 in
theorem rmEm (l : Launch) (Z : State) (a0 : Array Value) (hw : ∀ d ∈ tables_1, d.before a0 Z = true) (ws : List Jvm.Cond) (em : Addr) (h0 : Heap) (n0 : Nat) (Z0 : n0 ≤ h0.size) (Sm : Sta Z h0 "java/util/Optional" "EMPTY" "Ljava/util/Optional;" (.ref em))  :
    Met l Z (⟨"java/util/Optional", "empty", "()Ljava/util/Optional;"⟩ : MethodName) jdk_32_method_1_code 1 (some (.object "java/util/Optional")) ws ({ frames := 0, cells := 0, slots := 0, locals := 0 } : Room) #[] h0 (fun v h L => v = some (.ref em) ∧ Fr n0 L ∧ h = h0) 0 0 := by
  refine met_of (plainFor_of_name pn_5) (f0 := fun m => (mkF m 0 #[.unset] [])) (fun m => ef_rmEm m ) ?_
  intro p e s m below meth c s₁ X0 hx hby hml hret hlk hown hnm hZ e0
  replace hown : s.vm.findClass "java/util/Optional" = some m.cls := hown
  have N0 := Fr.nil n0
  refine r_getS X0 hx hZ hown (hw _ (List.mem_of_getElem? (i := 46) rfl)) Via.refl e0 Sm (hb hby d9_0) (pc' := 3) rfl (fun T275 X275 e275 => ?_)
  refine r_astoreN X275.here hx (hb hby d9_3) rfl (l' := #[.val (.ref em)]) rfl (pc' := 4) rfl ?_
  refine r_aloadN X275.here hx (hb hby d9_4) rfl rfl (pc' := 5) rfl ?_
  refine r_retA X275 hx hlk hret rfl rfl (hb hby d9_5) ?_ (by decide) (by decide)
  try rw [e275]
  exact ⟨rfl, N0, rfl⟩
section Opt
variable {Z : State} {h h' : Heap} {o : Addr} {B : Prop}
/-- an Optional of a String of one sign, or the empty one -/
def Opv (Z : State) (h : Heap) (o : Addr) (B : Prop) : Prop := Exa Z h o "java/util/Optional" ∧ ((¬ B ∧ Fld Z h o "java/util/Optional" "value" "Ljava/lang/Object;" .null) ∨ (B ∧ ∃ (so sb : Addr) (fb : Nat → Value), Fld Z h o "java/util/Optional" "value" "Ljava/lang/Object;" (.ref so) ∧ Exa Z h so "java/lang/String" ∧ Fld Z h so "java/lang/String" "value" "[B" (.ref sb) ∧ Ary Z h sb .byte 1 fb))
theorem Opv.lt (A : Opv Z h o B) : o < h.size := A.1.lt
theorem Opv.ext (A : Opv Z h o B) (E : Ext h h') : Opv Z h' o B := by
  obtain ⟨A, r | ⟨b, so, sb, fb, r1, r2, r3, r4⟩⟩ := A
  · exact ⟨A.ext E, Or.inl ⟨r.1, r.2.ext E⟩⟩
  · exact ⟨A.ext E, Or.inr ⟨b, so, sb, fb, r1.ext E, r2.ext E, r3.ext E, r4.ext E⟩⟩
theorem Opv.keep (A : Opv Z h o B) (K : Keep h h' []) : Opv Z h' o B := by
  obtain ⟨A, r | ⟨b, so, sb, fb, r1, r2, r3, r4⟩⟩ := A
  · exact ⟨A.keep K, Or.inl ⟨r.1, r.2.keep K nin0⟩⟩
  · exact ⟨A.keep K, Or.inr ⟨b, so, sb, fb, r1.keep K nin0, r2.keep K, r3.keep K nin0, r4.keep K nin0⟩⟩
end Opt
theorem own_cc (x : Int32) : 0 ≤ ((x &&& (255 : Int32)).toUInt32.toUInt16.toUInt32.toInt32).toInt ∧ ((x &&& (255 : Int32)).toUInt32.toUInt16.toUInt32.toInt32).toInt ≤ 255 := by
  have c := c_mask x 255 8 (by decide) (by decide)
  rw [own_nc (by omega) (by omega)]
  omega
theorem d8_0 : decode method_3_code 0 = .ok (.iload_n 0, 1) := by decide +kernel
theorem d8_1 : decode method_3_code 1 = .ok (.iconst 2, 1) := by decide +kernel
theorem d8_2 : decode method_3_code 2 = .ok (.iand, 1) := by decide +kernel
theorem d8_3 : decode method_3_code 3 = .ok (.ifCond .eq 19, 3) := by decide +kernel
theorem d8_22 : decode method_3_code 22 = .ok (.invokestatic 22, 3) := by decide +kernel
theorem pd_10 : parseMethodDescriptor "()Ljava/util/Optional;" = some ⟨[], some (.object "java/util/Optional")⟩ := by decide +kernel
theorem d8_25 : decode method_3_code 25 = .ok (.areturn, 1) := by decide +kernel
theorem d8_6 : decode method_3_code 6 = .ok (.iload_n 0, 1) := by decide +kernel
theorem d8_7 : decode method_3_code 7 = .ok (.bipush 8, 2) := by decide +kernel
theorem d8_9 : decode method_3_code 9 = .ok (.iushr, 1) := by decide +kernel
theorem d8_10 : decode method_3_code 10 = .ok (.sipush 255, 3) := by decide +kernel
theorem d8_13 : decode method_3_code 13 = .ok (.iand, 1) := by decide +kernel
theorem d8_14 : decode method_3_code 14 = .ok (.i2c, 1) := by decide +kernel
theorem d8_15 : decode method_3_code 15 = .ok (.invokestatic 12, 3) := by decide +kernel
theorem pd_11 : parseMethodDescriptor "(C)Ljava/lang/String;" = some ⟨[.char], some (.object "java/lang/String")⟩ := by decide +kernel
theorem d8_18 : decode method_3_code 18 = .ok (.invokestatic 16, 3) := by decide +kernel
theorem pd_12 : parseMethodDescriptor "(Ljava/lang/Object;)Ljava/util/Optional;" = some ⟨[(.object "java/lang/Object")], some (.object "java/util/Optional")⟩ := by decide +kernel
theorem d8_21 : decode method_3_code 21 = .ok (.areturn, 1) := by decide +kernel
theorem ef_rm_user (m : MethodId) (x0 : Int32) : entryFrame m #[(.int x0)] 1 = mkF m 0 #[.val (.int x0)] [] := by first | (simp [entryFrame, mkF, argsToLocals, Value.category, maxLocals]; done) | rfl
set_option maxRecDepth 65536 in
set_option maxHeartbeats 40000000 in
theorem rm_user (l : Launch) (Z : State) (a0 : Array Value) (hw : ∀ d ∈ tables_1, d.before a0 Z = true) (ws : List Jvm.Cond) (ff cs : Int32) (em : Addr) (h0 : Heap) (n0 : Nat) (Z0 : n0 ≤ h0.size) (hcs : Sta Z h0 "java/lang/String" "COMPACT_STRINGS" "Z" (.int cs)) (hc0 : ¬ cs = 0) (Sm : Sta Z h0 "java/util/Optional" "EMPTY" "Ljava/util/Optional;" (.ref em)) (Ee : Exa Z h0 em "java/util/Optional") (Fe : Fld Z h0 em "java/util/Optional" "value" "Ljava/lang/Object;" .null)  :
    Met l Z (⟨"com/example/lease/lease/store/RedisAddressEqualsPinLaw", "user", "(I)Ljava/util/Optional;"⟩ : MethodName) method_3_code 1 (some (.object "java/util/Optional")) ws ({ frames := 3, cells := 3, slots := 6, locals := 39 } : Room) #[(.int ff)] h0 (fun v h L => ∃ o : Addr, v = some (.ref o) ∧ Fr n0 L ∧ Keep h0 h [] ∧ Opv Z h o (¬ (ff &&& (2 : Int32)) = 0)) 3 6 := by
  refine met_of (plainFor_of_name pn_2) (f0 := fun m => (mkF m 0 #[.val (.int ff)] [])) (fun m => ef_rm_user m ff) ?_
  intro p e s m below meth c s₁ X0 hx hby hml hret hlk hown hnm hZ e0
  replace hown : s.vm.findClass "com/example/lease/lease/store/RedisAddressEqualsPinLaw" = some m.cls := hown
  have N0 := Fr.nil n0
  refine r_iloadN X0.here hx (hb hby d8_0) rfl (pc' := 1) rfl ?_
  refine r_iconst X0.here hx (hb hby d8_1) (v := 2) rfl (pc' := 2) rfl ?_
  refine r_iand X0.here hx (hb hby d8_2) (pc' := 3) rfl ?_
  refine r_if0_eq X0.here hx (hb hby d8_3) (by decide) (pc' := 22) (by decide) (pc2 := 6) rfl (fun hc3 => ?_) (fun hc3 => ?_)
  · refine r_callS X0 hx hZ (y := (⟨"java/util/Optional", "empty", "()Ljava/util/Optional;"⟩ : MethodName)) (rm := ({ frames := 0, cells := 0, slots := 0, locals := 0 } : Room)) hown (hw _ (List.mem_of_getElem? (i := 42) rfl)) (hw _ (List.mem_of_getElem? (i := 43) rfl)) (hw _ (List.mem_of_getElem? (i := 44) rfl)) (hw _ (List.mem_of_getElem? (i := 45) rfl)) (by decide) (rmEm l Z a0 hw [] em h0 n0 Z0 Sm) e0 (by rw [hml]; rfl) (argsL := []) (rest := []) (lenOf pd_10 rfl) rfl rfl (W := 0) rfl (by decide) (by decide) (by decide) (by decide) (hb hby d8_22) (pc' := 25) rfl ?_
    rintro v276 T276 L276 X276 ⟨rfl, Nq276, e276⟩
    have N276 := Fr.app N0 Nq276
    show Run p e below _ _ T276 (mkF m 25 #[.val (.int ff)] [(.ref em)])
    refine r_retA X276 hx hlk hret rfl rfl (hb hby d8_25) ?_ (by decide) (by decide)
    try rw [e276]
    exact ⟨em, rfl, N276, Keep.refl _ _, Ee, Or.inl ⟨(fun q => q hc3), Fe⟩⟩
  · refine r_iloadN X0.here hx (hb hby d8_6) rfl (pc' := 7) rfl ?_
    refine r_bipush X0.here hx (hb hby d8_7) (v := 8) rfl (pc' := 9) rfl ?_
    refine r_iushr X0.here hx (hb hby d8_9) (pc' := 10) rfl ?_
    refine r_sipush X0.here hx (hb hby d8_10) (v := 255) rfl (pc' := 13) rfl ?_
    refine r_iand X0.here hx (hb hby d8_13) (pc' := 14) rfl ?_
    refine r_i2c X0.here hx (hb hby d8_14) (pc' := 15) rfl ?_
    refine r_callS X0 hx hZ (y := (⟨"java/lang/String", "valueOf", "(C)Ljava/lang/String;"⟩ : MethodName)) (rm := ({ frames := 2, cells := 2, slots := 5, locals := 27 } : Room)) hown (hw _ (List.mem_of_getElem? (i := 118) rfl)) (hw _ (List.mem_of_getElem? (i := 119) rfl)) (hw _ (List.mem_of_getElem? (i := 6) rfl)) (hw _ (List.mem_of_getElem? (i := 120) rfl)) (by decide) (rmVOf l Z a0 hw [] (((ushrI ff (8 : Int32)) &&& (255 : Int32)).toUInt32.toUInt16.toUInt32.toInt32) cs h0 n0 Z0 (own_cc _) hcs hc0) e0 (by rw [hml]; rfl) (argsL := [(.int (((ushrI ff (8 : Int32)) &&& (255 : Int32)).toUInt32.toUInt16.toUInt32.toInt32))]) (rest := []) (lenOf pd_11 rfl) rfl rfl (W := 0) rfl (by decide) (by decide) (by decide) (by decide) (hb hby d8_15) (pc' := 18) rfl ?_
    rintro v277 T277 L277 X277 ⟨so, sb, fb, rfl, Nq277, K277, gbso_277, fbso_277, Es277, Fs277, As277⟩
    have N277 := Fr.app N0 Nq277
    show Run p e below _ _ T277 (mkF m 18 #[.val (.int ff)] [(.ref so)])
    have ne278 : so ≠ em := Nat.ne_of_gt (Nat.lt_of_lt_of_le Ee.lt fbso_277)
    have fr279 : h0.size ≤ so := fbso_277
    have K280 : Keep h0 h0 [] := Keep.refl _ _
    have K281 := K280.trans K277 all0
    have f282 := own_staKeep hcs K277 all0
    have f283 := own_staKeep Sm K277 all0
    have f284 := Ee.keep K277
    have f285 := Fe.keep K277 nin0
    have Z286 : n0 ≤ T277.heap.size := by have q := Z0; exact Nat.le_trans q K277.1
    refine r_callS X277 hx hZ (y := (⟨"java/util/Optional", "of", "(Ljava/lang/Object;)Ljava/util/Optional;"⟩ : MethodName)) (rm := ({ frames := 2, cells := 1, slots := 1, locals := 26 } : Room)) hown (hw _ (List.mem_of_getElem? (i := 132) rfl)) (hw _ (List.mem_of_getElem? (i := 133) rfl)) (hw _ (List.mem_of_getElem? (i := 44) rfl)) (hw _ (List.mem_of_getElem? (i := 134) rfl)) (by decide) (rmOf l Z a0 hw [] so T277.heap n0 Z286) rfl (by rw [hml]; rfl) (argsL := [(.ref so)]) (rest := []) (lenOf pd_12 rfl) rfl rfl (W := 0) rfl (by decide) (by decide) (by decide) (by decide) (hb hby d8_18) (pc' := 21) rfl ?_
    rintro v287 T287 L287 X287 ⟨oo, rfl, Nq287, K287, gboo_287, fboo_287, Eo_287, Fo_0_287⟩
    have N287 := Fr.app N277 Nq287
    show Run p e below _ _ T287 (mkF m 21 #[.val (.int ff)] [(.ref oo)])
    have ne288 : oo ≠ em := Nat.ne_of_gt (Nat.lt_of_lt_of_le f284.lt fboo_287)
    have ne289 : oo ≠ so := Nat.ne_of_gt (Nat.lt_of_lt_of_le Es277.lt fboo_287)
    have ne290 : oo ≠ sb := Nat.ne_of_gt (Nat.lt_of_lt_of_le As277.lt fboo_287)
    have fr291 : h0.size ≤ oo := Nat.le_trans K281.1 fboo_287
    have K292 := K281.trans K287 all0
    have f293 := own_staKeep f282 K287 all0
    have f294 := own_staKeep f283 K287 all0
    have f295 := f284.keep K287
    have f296 := f285.keep K287 nin0
    have f297 := Es277.keep K287
    have f298 := Fs277.keep K287 nin0
    have f299 := As277.keep K287 nin0
    have Z300 : n0 ≤ T287.heap.size := by have q := Z286; exact Nat.le_trans q K287.1
    refine r_retA X287 hx hlk hret rfl rfl (hb hby d8_21) ?_ (by decide) (by decide)
    skip
    exact ⟨oo, rfl, N287, K292, Eo_287, Or.inr ⟨hc3, so, sb, fb, Fo_0_287, f297, f298, f299⟩⟩
theorem d10_0 : decode method_4_code 0 = .ok (.iload_n 0, 1) := by decide +kernel
theorem d10_1 : decode method_4_code 1 = .ok (.iconst 2, 1) := by decide +kernel
theorem d10_2 : decode method_4_code 2 = .ok (.iand, 1) := by decide +kernel
theorem d10_3 : decode method_4_code 3 = .ok (.ifCond .ne 9, 3) := by decide +kernel
theorem d10_12 : decode method_4_code 12 = .ok (.iload_n 0, 1) := by decide +kernel
theorem d10_13 : decode method_4_code 13 = .ok (.bipush 16, 2) := by decide +kernel
theorem d10_15 : decode method_4_code 15 = .ok (.iushr, 1) := by decide +kernel
theorem d10_16 : decode method_4_code 16 = .ok (.sipush 255, 3) := by decide +kernel
theorem d10_19 : decode method_4_code 19 = .ok (.iand, 1) := by decide +kernel
theorem d10_20 : decode method_4_code 20 = .ok (.i2c, 1) := by decide +kernel
theorem d10_21 : decode method_4_code 21 = .ok (.invokestatic 12, 3) := by decide +kernel
theorem d10_24 : decode method_4_code 24 = .ok (.invokestatic 16, 3) := by decide +kernel
theorem d10_27 : decode method_4_code 27 = .ok (.areturn, 1) := by decide +kernel
theorem d10_6 : decode method_4_code 6 = .ok (.iload_n 0, 1) := by decide +kernel
theorem d10_7 : decode method_4_code 7 = .ok (.iconst 4, 1) := by decide +kernel
theorem d10_8 : decode method_4_code 8 = .ok (.iand, 1) := by decide +kernel
theorem d10_9 : decode method_4_code 9 = .ok (.ifCond .eq 19, 3) := by decide +kernel
theorem d10_28 : decode method_4_code 28 = .ok (.invokestatic 22, 3) := by decide +kernel
theorem d10_31 : decode method_4_code 31 = .ok (.areturn, 1) := by decide +kernel
theorem ef_rm_password (m : MethodId) (x0 : Int32) : entryFrame m #[(.int x0)] 1 = mkF m 0 #[.val (.int x0)] [] := by first | (simp [entryFrame, mkF, argsToLocals, Value.category, maxLocals]; done) | rfl
set_option maxRecDepth 65536 in
set_option maxHeartbeats 40000000 in
theorem rm_password (l : Launch) (Z : State) (a0 : Array Value) (hw : ∀ d ∈ tables_1, d.before a0 Z = true) (ws : List Jvm.Cond) (ff cs : Int32) (em : Addr) (h0 : Heap) (n0 : Nat) (Z0 : n0 ≤ h0.size) (hcs : Sta Z h0 "java/lang/String" "COMPACT_STRINGS" "Z" (.int cs)) (hc0 : ¬ cs = 0) (Sm : Sta Z h0 "java/util/Optional" "EMPTY" "Ljava/util/Optional;" (.ref em)) (Ee : Exa Z h0 em "java/util/Optional") (Fe : Fld Z h0 em "java/util/Optional" "value" "Ljava/lang/Object;" .null)  :
    Met l Z (⟨"com/example/lease/lease/store/RedisAddressEqualsPinLaw", "password", "(I)Ljava/util/Optional;"⟩ : MethodName) method_4_code 1 (some (.object "java/util/Optional")) ws ({ frames := 3, cells := 3, slots := 6, locals := 39 } : Room) #[(.int ff)] h0 (fun v h L => ∃ o : Addr, v = some (.ref o) ∧ Fr n0 L ∧ Keep h0 h [] ∧ Opv Z h o ((¬ (ff &&& (2 : Int32)) = 0 ∨ ¬ (ff &&& (4 : Int32)) = 0))) 3 6 := by
  refine met_of (plainFor_of_name pn_2) (f0 := fun m => (mkF m 0 #[.val (.int ff)] [])) (fun m => ef_rm_password m ff) ?_
  intro p e s m below meth c s₁ X0 hx hby hml hret hlk hown hnm hZ e0
  replace hown : s.vm.findClass "com/example/lease/lease/store/RedisAddressEqualsPinLaw" = some m.cls := hown
  have N0 := Fr.nil n0
  refine r_iloadN X0.here hx (hb hby d10_0) rfl (pc' := 1) rfl ?_
  refine r_iconst X0.here hx (hb hby d10_1) (v := 2) rfl (pc' := 2) rfl ?_
  refine r_iand X0.here hx (hb hby d10_2) (pc' := 3) rfl ?_
  refine r_if0_ne X0.here hx (hb hby d10_3) (by decide) (pc' := 12) (by decide) (pc2 := 6) rfl (fun hc3 => ?_) (fun hc3 => ?_)
  · refine r_iloadN X0.here hx (hb hby d10_12) rfl (pc' := 13) rfl ?_
    refine r_bipush X0.here hx (hb hby d10_13) (v := 16) rfl (pc' := 15) rfl ?_
    refine r_iushr X0.here hx (hb hby d10_15) (pc' := 16) rfl ?_
    refine r_sipush X0.here hx (hb hby d10_16) (v := 255) rfl (pc' := 19) rfl ?_
    refine r_iand X0.here hx (hb hby d10_19) (pc' := 20) rfl ?_
    refine r_i2c X0.here hx (hb hby d10_20) (pc' := 21) rfl ?_
    refine r_callS X0 hx hZ (y := (⟨"java/lang/String", "valueOf", "(C)Ljava/lang/String;"⟩ : MethodName)) (rm := ({ frames := 2, cells := 2, slots := 5, locals := 27 } : Room)) hown (hw _ (List.mem_of_getElem? (i := 118) rfl)) (hw _ (List.mem_of_getElem? (i := 119) rfl)) (hw _ (List.mem_of_getElem? (i := 6) rfl)) (hw _ (List.mem_of_getElem? (i := 120) rfl)) (by decide) (rmVOf l Z a0 hw [] (((ushrI ff (16 : Int32)) &&& (255 : Int32)).toUInt32.toUInt16.toUInt32.toInt32) cs h0 n0 Z0 (own_cc _) hcs hc0) e0 (by rw [hml]; rfl) (argsL := [(.int (((ushrI ff (16 : Int32)) &&& (255 : Int32)).toUInt32.toUInt16.toUInt32.toInt32))]) (rest := []) (lenOf pd_11 rfl) rfl rfl (W := 0) rfl (by decide) (by decide) (by decide) (by decide) (hb hby d10_21) (pc' := 24) rfl ?_
    rintro v301 T301 L301 X301 ⟨so, sb, fb, rfl, Nq301, K301, gbso_301, fbso_301, Es301, Fs301, As301⟩
    have N301 := Fr.app N0 Nq301
    show Run p e below _ _ T301 (mkF m 24 #[.val (.int ff)] [(.ref so)])
    have ne302 : so ≠ em := Nat.ne_of_gt (Nat.lt_of_lt_of_le Ee.lt fbso_301)
    have fr303 : h0.size ≤ so := fbso_301
    have K304 : Keep h0 h0 [] := Keep.refl _ _
    have K305 := K304.trans K301 all0
    have f306 := own_staKeep hcs K301 all0
    have f307 := own_staKeep Sm K301 all0
    have f308 := Ee.keep K301
    have f309 := Fe.keep K301 nin0
    have Z310 : n0 ≤ T301.heap.size := by have q := Z0; exact Nat.le_trans q K301.1
    refine r_callS X301 hx hZ (y := (⟨"java/util/Optional", "of", "(Ljava/lang/Object;)Ljava/util/Optional;"⟩ : MethodName)) (rm := ({ frames := 2, cells := 1, slots := 1, locals := 26 } : Room)) hown (hw _ (List.mem_of_getElem? (i := 132) rfl)) (hw _ (List.mem_of_getElem? (i := 133) rfl)) (hw _ (List.mem_of_getElem? (i := 44) rfl)) (hw _ (List.mem_of_getElem? (i := 134) rfl)) (by decide) (rmOf l Z a0 hw [] so T301.heap n0 Z310) rfl (by rw [hml]; rfl) (argsL := [(.ref so)]) (rest := []) (lenOf pd_12 rfl) rfl rfl (W := 0) rfl (by decide) (by decide) (by decide) (by decide) (hb hby d10_24) (pc' := 27) rfl ?_
    rintro v311 T311 L311 X311 ⟨oo, rfl, Nq311, K311, gboo_311, fboo_311, Eo_311, Fo_0_311⟩
    have N311 := Fr.app N301 Nq311
    show Run p e below _ _ T311 (mkF m 27 #[.val (.int ff)] [(.ref oo)])
    have ne312 : oo ≠ em := Nat.ne_of_gt (Nat.lt_of_lt_of_le f308.lt fboo_311)
    have ne313 : oo ≠ so := Nat.ne_of_gt (Nat.lt_of_lt_of_le Es301.lt fboo_311)
    have ne314 : oo ≠ sb := Nat.ne_of_gt (Nat.lt_of_lt_of_le As301.lt fboo_311)
    have fr315 : h0.size ≤ oo := Nat.le_trans K305.1 fboo_311
    have K316 := K305.trans K311 all0
    have f317 := own_staKeep f306 K311 all0
    have f318 := own_staKeep f307 K311 all0
    have f319 := f308.keep K311
    have f320 := f309.keep K311 nin0
    have f321 := Es301.keep K311
    have f322 := Fs301.keep K311 nin0
    have f323 := As301.keep K311 nin0
    have Z324 : n0 ≤ T311.heap.size := by have q := Z310; exact Nat.le_trans q K311.1
    refine r_retA X311 hx hlk hret rfl rfl (hb hby d10_27) ?_ (by decide) (by decide)
    skip
    exact ⟨oo, rfl, N311, K316, Eo_311, Or.inr ⟨(Or.inl hc3), so, sb, fb, Fo_0_311, f321, f322, f323⟩⟩
  · refine r_iloadN X0.here hx (hb hby d10_6) rfl (pc' := 7) rfl ?_
    refine r_iconst X0.here hx (hb hby d10_7) (v := 4) rfl (pc' := 8) rfl ?_
    refine r_iand X0.here hx (hb hby d10_8) (pc' := 9) rfl ?_
    refine r_if0_eq X0.here hx (hb hby d10_9) (by decide) (pc' := 28) (by decide) (pc2 := 12) rfl (fun hc9 => ?_) (fun hc9 => ?_)
    · refine r_callS X0 hx hZ (y := (⟨"java/util/Optional", "empty", "()Ljava/util/Optional;"⟩ : MethodName)) (rm := ({ frames := 0, cells := 0, slots := 0, locals := 0 } : Room)) hown (hw _ (List.mem_of_getElem? (i := 42) rfl)) (hw _ (List.mem_of_getElem? (i := 43) rfl)) (hw _ (List.mem_of_getElem? (i := 44) rfl)) (hw _ (List.mem_of_getElem? (i := 45) rfl)) (by decide) (rmEm l Z a0 hw [] em h0 n0 Z0 Sm) e0 (by rw [hml]; rfl) (argsL := []) (rest := []) (lenOf pd_10 rfl) rfl rfl (W := 0) rfl (by decide) (by decide) (by decide) (by decide) (hb hby d10_28) (pc' := 31) rfl ?_
      rintro v325 T325 L325 X325 ⟨rfl, Nq325, e325⟩
      have N325 := Fr.app N0 Nq325
      show Run p e below _ _ T325 (mkF m 31 #[.val (.int ff)] [(.ref em)])
      refine r_retA X325 hx hlk hret rfl rfl (hb hby d10_31) ?_ (by decide) (by decide)
      try rw [e325]
      exact ⟨em, rfl, N325, Keep.refl _ _, Ee, Or.inl ⟨(fun q => q.elim (fun q => hc3 q) (fun q => q hc9)), Fe⟩⟩
    · refine r_iloadN X0.here hx (hb hby d10_12) rfl (pc' := 13) rfl ?_
      refine r_bipush X0.here hx (hb hby d10_13) (v := 16) rfl (pc' := 15) rfl ?_
      refine r_iushr X0.here hx (hb hby d10_15) (pc' := 16) rfl ?_
      refine r_sipush X0.here hx (hb hby d10_16) (v := 255) rfl (pc' := 19) rfl ?_
      refine r_iand X0.here hx (hb hby d10_19) (pc' := 20) rfl ?_
      refine r_i2c X0.here hx (hb hby d10_20) (pc' := 21) rfl ?_
      refine r_callS X0 hx hZ (y := (⟨"java/lang/String", "valueOf", "(C)Ljava/lang/String;"⟩ : MethodName)) (rm := ({ frames := 2, cells := 2, slots := 5, locals := 27 } : Room)) hown (hw _ (List.mem_of_getElem? (i := 118) rfl)) (hw _ (List.mem_of_getElem? (i := 119) rfl)) (hw _ (List.mem_of_getElem? (i := 6) rfl)) (hw _ (List.mem_of_getElem? (i := 120) rfl)) (by decide) (rmVOf l Z a0 hw [] (((ushrI ff (16 : Int32)) &&& (255 : Int32)).toUInt32.toUInt16.toUInt32.toInt32) cs h0 n0 Z0 (own_cc _) hcs hc0) e0 (by rw [hml]; rfl) (argsL := [(.int (((ushrI ff (16 : Int32)) &&& (255 : Int32)).toUInt32.toUInt16.toUInt32.toInt32))]) (rest := []) (lenOf pd_11 rfl) rfl rfl (W := 0) rfl (by decide) (by decide) (by decide) (by decide) (hb hby d10_21) (pc' := 24) rfl ?_
      rintro v326 T326 L326 X326 ⟨so, sb, fb, rfl, Nq326, K326, gbso_326, fbso_326, Es326, Fs326, As326⟩
      have N326 := Fr.app N0 Nq326
      show Run p e below _ _ T326 (mkF m 24 #[.val (.int ff)] [(.ref so)])
      have ne327 : so ≠ em := Nat.ne_of_gt (Nat.lt_of_lt_of_le Ee.lt fbso_326)
      have fr328 : h0.size ≤ so := fbso_326
      have K329 : Keep h0 h0 [] := Keep.refl _ _
      have K330 := K329.trans K326 all0
      have f331 := own_staKeep hcs K326 all0
      have f332 := own_staKeep Sm K326 all0
      have f333 := Ee.keep K326
      have f334 := Fe.keep K326 nin0
      have Z335 : n0 ≤ T326.heap.size := by have q := Z0; exact Nat.le_trans q K326.1
      refine r_callS X326 hx hZ (y := (⟨"java/util/Optional", "of", "(Ljava/lang/Object;)Ljava/util/Optional;"⟩ : MethodName)) (rm := ({ frames := 2, cells := 1, slots := 1, locals := 26 } : Room)) hown (hw _ (List.mem_of_getElem? (i := 132) rfl)) (hw _ (List.mem_of_getElem? (i := 133) rfl)) (hw _ (List.mem_of_getElem? (i := 44) rfl)) (hw _ (List.mem_of_getElem? (i := 134) rfl)) (by decide) (rmOf l Z a0 hw [] so T326.heap n0 Z335) rfl (by rw [hml]; rfl) (argsL := [(.ref so)]) (rest := []) (lenOf pd_12 rfl) rfl rfl (W := 0) rfl (by decide) (by decide) (by decide) (by decide) (hb hby d10_24) (pc' := 27) rfl ?_
      rintro v336 T336 L336 X336 ⟨oo, rfl, Nq336, K336, gboo_336, fboo_336, Eo_336, Fo_0_336⟩
      have N336 := Fr.app N326 Nq336
      show Run p e below _ _ T336 (mkF m 27 #[.val (.int ff)] [(.ref oo)])
      have ne337 : oo ≠ em := Nat.ne_of_gt (Nat.lt_of_lt_of_le f333.lt fboo_336)
      have ne338 : oo ≠ so := Nat.ne_of_gt (Nat.lt_of_lt_of_le Es326.lt fboo_336)
      have ne339 : oo ≠ sb := Nat.ne_of_gt (Nat.lt_of_lt_of_le As326.lt fboo_336)
      have fr340 : h0.size ≤ oo := Nat.le_trans K330.1 fboo_336
      have K341 := K330.trans K336 all0
      have f342 := own_staKeep f331 K336 all0
      have f343 := own_staKeep f332 K336 all0
      have f344 := f333.keep K336
      have f345 := f334.keep K336 nin0
      have f346 := Es326.keep K336
      have f347 := Fs326.keep K336 nin0
      have f348 := As326.keep K336 nin0
      have Z349 : n0 ≤ T336.heap.size := by have q := Z335; exact Nat.le_trans q K336.1
      refine r_retA X336 hx hlk hret rfl rfl (hb hby d10_27) ?_ (by decide) (by decide)
      skip
      exact ⟨oo, rfl, N336, K341, Eo_336, Or.inr ⟨(Or.inr hc9), so, sb, fb, Fo_0_336, f346, f347, f348⟩⟩
theorem d17_0 : decode jdk_42_method_55_code 0 = .ok (.aload_n 0, 1) := by decide +kernel
theorem d17_1 : decode jdk_42_method_55_code 1 = .ok (.getfield 9, 3) := by decide +kernel
theorem d17_4 : decode jdk_42_method_55_code 4 = .ok (.arraylength, 1) := by decide +kernel
theorem d17_5 : decode jdk_42_method_55_code 5 = .ok (.ifCond .ne 7, 3) := by decide +kernel
theorem d17_12 : decode jdk_42_method_55_code 12 = .ok (.iconst 0, 1) := by decide +kernel
theorem d17_13 : decode jdk_42_method_55_code 13 = .ok (.ireturn, 1) := by decide +kernel
theorem ef_rmIE (m : MethodId) (x0 : Addr) : entryFrame m #[(.ref x0)] 1 = mkF m 0 #[.val (.ref x0)] [] := by first | (simp [entryFrame, mkF, argsToLocals, Value.category, maxLocals]; done) | rfl
set_option maxRecDepth 65536 in
set_option maxHeartbeats 40000000 in
theorem rmIE (l : Launch) (Z : State) (a0 : Array Value) (hw : ∀ d ∈ tables_1, d.before a0 Z = true) (ws : List Jvm.Cond) (sa sb : Addr) (nn : Nat) (ln : Int32) (fb : Nat → Value) (h0 : Heap) (n0 : Nat) (Z0 : n0 ≤ h0.size) (F_v : Fld Z h0 sa "java/lang/String" "value" "[B" (.ref sb)) (Ab : Ary Z h0 sb .byte nn fb) (hln : ln.toInt = nn) (hne : ¬ ln = 0) :
    Met l Z (⟨"java/lang/String", "isEmpty", "()Z"⟩ : MethodName) jdk_42_method_55_code 1 (some .boolean) ws ({ frames := 0, cells := 0, slots := 0, locals := 0 } : Room) #[(.ref sa)] h0 (fun v h L => v = some (.int 0) ∧ Fr n0 L ∧ h = h0) 0 0 := by
  refine met_of (plainFor_of_name pn_1) (f0 := fun m => (mkF m 0 #[.val (.ref sa)] [])) (fun m => ef_rmIE m sa) ?_
  intro p e s m below meth c s₁ X0 hx hby hml hret hlk hown hnm hZ e0
  replace hown : s.vm.findClass "java/lang/String" = some m.cls := hown
  have N0 := Fr.nil n0
  refine r_aloadN X0.here hx (hb hby d17_0) rfl rfl (pc' := 1) rfl ?_
  refine r_getF X0 hx hZ hown (hw _ (List.mem_of_getElem? (i := 32) rfl)) Via.refl e0 F_v (hb hby d17_1) (pc' := 4) rfl (fun T350 X350 e350 => ?_)
  refine r_len X350 hx hZ e350 (z := ln) Ab hln (hb hby d17_4) (pc' := 5) rfl ?_
  refine r_if0_ne X350.here hx (hb hby d17_5) (by decide) (pc' := 12) (by decide) (pc2 := 8) rfl (fun hc5 => ?_) (fun hc5 => absurd hne hc5)
  refine r_iconst X350.here hx (hb hby d17_12) (v := 0) rfl (pc' := 13) rfl ?_
  refine r_retN X350 hx hlk hret (by simp) (hb hby d17_13) (w := (0 : Int32)) rfl ?_ (by decide) (by decide)
  try rw [e350]
  exact ⟨rfl, N0, rfl⟩
theorem d27_0 : decode prog_23_method_17_code 0 = .ok (.aload_n 0, 1) := by decide +kernel
theorem d27_1 : decode prog_23_method_17_code 1 = .ok (.invokevirtual 30, 3) := by decide +kernel
theorem pd_13 : parseMethodDescriptor "()Z" = some ⟨[], some .boolean⟩ := by decide +kernel
theorem d27_4 : decode prog_23_method_17_code 4 = .ok (.ifCond .ne 7, 3) := by decide +kernel
theorem d27_7 : decode prog_23_method_17_code 7 = .ok (.iconst 1, 1) := by decide +kernel
theorem d27_8 : decode prog_23_method_17_code 8 = .ok (.goto 4, 3) := by decide +kernel
theorem d27_12 : decode prog_23_method_17_code 12 = .ok (.ireturn, 1) := by decide +kernel
theorem pn_6 : plainName "com/example/lease/lease/store/RedisAddress" = true := by first | (simp [plainName, overriddenIn]; done) | decide +kernel
theorem ef_rmLm0 (m : MethodId) (x0 : Addr) : entryFrame m #[(.ref x0)] 1 = mkF m 0 #[.val (.ref x0)] [] := by first | (simp [entryFrame, mkF, argsToLocals, Value.category, maxLocals]; done) | rfl
set_option maxRecDepth 65536 in
set_option maxHeartbeats 40000000 in
theorem rmLm0 (l : Launch) (Z : State) (a0 : Array Value) (hw : ∀ d ∈ tables_1, d.before a0 Z = true) (ws : List Jvm.Cond) (so sb : Addr) (fb : Nat → Value) (h0 : Heap) (n0 : Nat) (Z0 : n0 ≤ h0.size) (E_so : Exa Z h0 so "java/lang/String") (V_so : Fld Z h0 so "java/lang/String" "value" "[B" (.ref sb)) (A_so : Ary Z h0 sb .byte 1 fb)  :
    Met l Z (⟨"com/example/lease/lease/store/RedisAddress", "lambda$new$0", "(Ljava/lang/String;)Z"⟩ : MethodName) prog_23_method_17_code 1 (some .boolean) ws ({ frames := 1, cells := 0, slots := 0, locals := 12 } : Room) #[(.ref so)] h0 (fun v h L => v = some (.int 1) ∧ Fr n0 L ∧ h = h0) 0 0 := by
  refine met_of (plainFor_of_name pn_6) (f0 := fun m => (mkF m 0 #[.val (.ref so)] [])) (fun m => ef_rmLm0 m so) ?_
  intro p e s m below meth c s₁ X0 hx hby hml hret hlk hown hnm hZ e0
  replace hown : s.vm.findClass "com/example/lease/lease/store/RedisAddress" = some m.cls := hown
  have N0 := Fr.nil n0
  refine r_aloadN X0.here hx (hb hby d27_0) rfl rfl (pc' := 1) rfl ?_
  refine r_callV X0 hx hZ (y := (⟨"java/lang/String", "isEmpty", "()Z"⟩ : MethodName)) (z := (⟨"java/lang/String", "isEmpty", "()Z"⟩ : MethodName)) (rm := ({ frames := 0, cells := 0, slots := 0, locals := 0 } : Room)) hown (hw _ (List.mem_of_getElem? (i := 89) rfl)) (hw _ (List.mem_of_getElem? (i := 90) rfl)) (notFace_of_selects (args := #[]) (mvT hZ (hw _ (List.mem_of_getElem? (i := 92) rfl)))) (hw _ (List.mem_of_getElem? (i := 92) rfl)) (hw _ (List.mem_of_getElem? (i := 91) rfl)) (hw _ (List.mem_of_getElem? (i := 6) rfl)) (hw _ (List.mem_of_getElem? (i := 93) rfl)) (by decide) (rmIE l Z a0 hw [] so sb 1 1 fb h0 n0 Z0 V_so A_so rfl (by decide)) e0 E_so (by rw [hml]; rfl) (argsL := []) (rest := []) (lenOf pd_13 rfl) rfl rfl (W := 0) rfl (by decide) (by decide) (by decide) (by decide) (hb hby d27_1) (pc' := 4) rfl ?_
  rintro v351 T351 L351 X351 ⟨rfl, Nq351, e351⟩
  have N351 := Fr.app N0 Nq351
  show Run p e below _ _ T351 (mkF m 4 #[.val (.ref so)] [(.int (0 : Int32))])
  refine r_if0_ne X351.here hx (hb hby d27_4) (by decide) (pc' := 11) (by decide) (pc2 := 7) rfl (fun hc4 => absurd rfl hc4) (fun hc4 => ?_)
  refine r_iconst X351.here hx (hb hby d27_7) (v := 1) rfl (pc' := 8) rfl ?_
  refine r_goto X351.here hx (hb hby d27_8) (by decide) (pc' := 12) (by decide) ?_
  refine r_retN X351 hx hlk hret (by simp) (hb hby d27_12) (w := (1 : Int32)) rfl ?_ (by decide) (by decide)
  try rw [e351]
  exact ⟨rfl, N351, rfl⟩
theorem pd_14 : parseMethodDescriptor "(Ljava/lang/String;)Z" = some ⟨[(.object "java/lang/String")], some .boolean⟩ := by decide +kernel
def own_sh0 : Lambda.Shape := (Jvm.Lambda.Shape.mk "java/util/function/Predicate" "test" (Jvm.ClassFile.MethodDescriptor.mk ([(Jvm.ClassFile.FieldType.object "java/lang/Object")] : List Jvm.ClassFile.FieldType) (Option.some Jvm.ClassFile.FieldType.boolean)) ([] : List Jvm.ClassFile.FieldType) (6 : Nat) "com/example/lease/lease/store/RedisAddress" "lambda$new$0" (Jvm.ClassFile.MethodDescriptor.mk ([(Jvm.ClassFile.FieldType.object "java/lang/String")] : List Jvm.ClassFile.FieldType) (Option.some Jvm.ClassFile.FieldType.boolean)) false (Jvm.ClassFile.MethodDescriptor.mk ([(Jvm.ClassFile.FieldType.object "java/lang/String")] : List Jvm.ClassFile.FieldType) (Option.some Jvm.ClassFile.FieldType.boolean)))
def own_B0 : ByteArray := ⟨#[0x2b, 0xc0, 0x00, 0x0e, 0xb8, 0x00, 0x14, 0xac]⟩
theorem own_d0_0 : decode own_B0 0 = .ok (.aload_n 1, 1) := by decide +kernel
theorem own_d0_1 : decode own_B0 1 = .ok (.checkcast 14, 3) := by decide +kernel
theorem own_d0_4 : decode own_B0 4 = .ok (.invokestatic 20, 3) := by decide +kernel
theorem own_d0_7 : decode own_B0 7 = .ok (.ireturn, 1) := by decide +kernel
def own_D0 : ClassFile := (own_sh0.file "com/example/lease/lease/store/RedisAddress").getD { minorVersion := 0, majorVersion := 0, constantPool := #[], accessFlags := 0, thisClass := 0, superClass := 0, interfaces := #[], fields := #[], methods := #[], attributes := #[] }
def own_fw0 : Method := ((layoutMethods own_D0).bind (·[1]?)).getD default
theorem own_file0 : own_sh0.file "com/example/lease/lease/store/RedisAddress" = some own_D0 := by
  have h : (own_sh0.file "com/example/lease/lease/store/RedisAddress").isSome = true := by decide +kernel
  obtain ⟨x, hx⟩ := Option.isSome_iff_exists.mp h
  simp [own_D0, hx]
theorem own_lay0 : ∃ ms, layoutMethods own_D0 = some ms ∧ ms[1]? = some own_fw0 := by
  have h : ((layoutMethods own_D0).bind (·[1]?)).isSome = true := by decide +kernel
  obtain ⟨x, hx⟩ := Option.isSome_iff_exists.mp h
  have hf : own_fw0 = x := by simp [own_fw0, hx]
  obtain ⟨ms, h1, h2⟩ := Option.bind_eq_some_iff.mp hx
  exact ⟨ms, h1, by rw [hf]; exact h2⟩
theorem own_sec0 : ∀ ms, layoutMethods own_D0 = some ms → ms[1]? = some own_fw0 := fun ms h => by
  obtain ⟨ms', h1, h2⟩ := own_lay0
  cases h.symm.trans h1; exact h2
theorem own_cd0 : (own_fw0.code.map fun c => (c.code.data, c.maxLocals)) = some (own_B0.data, 2) := by decide +kernel
theorem own_fl0 : own_fw0.accessFlags = 0x0001 := by decide +kernel
theorem own_rt0 : own_fw0.sig.returnType = some .boolean := by decide +kernel
theorem own_m0 {Z s : State} {e : Env} {a0 : Array Value} {cK : ClassId} {f : Addr} (hZ : Z.Warmed39 s.vm) (hw : ∀ d ∈ tables_1, d.before a0 Z = true) (hat : Z.lambdaAt? (⟨"com/example/lease/lease/store/RedisAddress", "<init>", "(Ljava/lang/String;IZLjava/util/Optional;Ljava/util/Optional;)V"⟩ : MethodName) 21 19 own_sh0 = some (cK, some f)) :
    ∃ (methk : Method) (ck : Code) (cT : ClassId), ck.code = own_B0 ∧ Z.vm.findClass "java/lang/String" = some cT ∧ ∀ U : State, s.WarmedH U.vm → Jvm.Free.Fw.Base U cK methk ck 2 (some .boolean) ∧ U.vm.classReady cK 14 cT ∧ Jvm.Free.Fw.StaticAt e U cK 20 (⟨"com/example/lease/lease/store/RedisAddress", "lambda$new$0", "(Ljava/lang/String;)Z"⟩ : MethodName) 1 :=
  own_made (ci := 16) (nt := 19) (q1 := 15) (q2 := 13) hZ hat own_file0 own_sec0 own_cd0 own_fl0 own_rt0 (by decide) (by decide +kernel) (by decide +kernel) (by decide +kernel) rfl rfl (by decide +kernel) (by obtain ⟨c, k, q, -⟩ := Cond.instantiable_spec (hw _ (List.mem_of_getElem? (i := 5) rfl)); exact ⟨c, q⟩) (by decide) (hw _ (List.mem_of_getElem? (i := 147) rfl)) (hw _ (List.mem_of_getElem? (i := 146) rfl)) (hw _ (List.mem_of_getElem? (i := 38) rfl)) pd_14 rfl
theorem own_fx0 {Z : State} {a0 : Array Value} {cK : ClassId} {f : Addr} (hw : ∀ d ∈ tables_1, d.before a0 Z = true) (hat : Z.lambdaAt? (⟨"com/example/lease/lease/store/RedisAddress", "<init>", "(Ljava/lang/String;IZLjava/util/Optional;Ljava/util/Optional;)V"⟩ : MethodName) 21 19 own_sh0 = some (cK, some f)) : Jvm.Free.HMW.FnX (⟨"java/util/function/Predicate", "test", "(Ljava/lang/Object;)Z"⟩ : MethodName) cK ⟨cK, 1⟩ Z := by
  obtain ⟨ms, h1, h2⟩ := own_lay0
  exact (Jvm.Free.Fn.of_lambdaAt hat rfl rfl (by decide +kernel) (hw _ (List.mem_of_getElem? (i := 143) rfl)) own_file0 h1 h2 own_fl0).1
theorem d26_0 : decode prog_23_method_16_code 0 = .ok (.aload_n 0, 1) := by decide +kernel
theorem d26_1 : decode prog_23_method_16_code 1 = .ok (.invokevirtual 30, 3) := by decide +kernel
theorem d26_4 : decode prog_23_method_16_code 4 = .ok (.ifCond .ne 7, 3) := by decide +kernel
theorem d26_7 : decode prog_23_method_16_code 7 = .ok (.iconst 1, 1) := by decide +kernel
theorem d26_8 : decode prog_23_method_16_code 8 = .ok (.goto 4, 3) := by decide +kernel
theorem d26_12 : decode prog_23_method_16_code 12 = .ok (.ireturn, 1) := by decide +kernel
theorem ef_rmLm1 (m : MethodId) (x0 : Addr) : entryFrame m #[(.ref x0)] 1 = mkF m 0 #[.val (.ref x0)] [] := by first | (simp [entryFrame, mkF, argsToLocals, Value.category, maxLocals]; done) | rfl
set_option maxRecDepth 65536 in
set_option maxHeartbeats 40000000 in
theorem rmLm1 (l : Launch) (Z : State) (a0 : Array Value) (hw : ∀ d ∈ tables_1, d.before a0 Z = true) (ws : List Jvm.Cond) (so sb : Addr) (fb : Nat → Value) (h0 : Heap) (n0 : Nat) (Z0 : n0 ≤ h0.size) (E_so : Exa Z h0 so "java/lang/String") (V_so : Fld Z h0 so "java/lang/String" "value" "[B" (.ref sb)) (A_so : Ary Z h0 sb .byte 1 fb)  :
    Met l Z (⟨"com/example/lease/lease/store/RedisAddress", "lambda$new$1", "(Ljava/lang/String;)Z"⟩ : MethodName) prog_23_method_16_code 1 (some .boolean) ws ({ frames := 1, cells := 0, slots := 0, locals := 12 } : Room) #[(.ref so)] h0 (fun v h L => v = some (.int 1) ∧ Fr n0 L ∧ h = h0) 0 0 := by
  refine met_of (plainFor_of_name pn_6) (f0 := fun m => (mkF m 0 #[.val (.ref so)] [])) (fun m => ef_rmLm1 m so) ?_
  intro p e s m below meth c s₁ X0 hx hby hml hret hlk hown hnm hZ e0
  replace hown : s.vm.findClass "com/example/lease/lease/store/RedisAddress" = some m.cls := hown
  have N0 := Fr.nil n0
  refine r_aloadN X0.here hx (hb hby d26_0) rfl rfl (pc' := 1) rfl ?_
  refine r_callV X0 hx hZ (y := (⟨"java/lang/String", "isEmpty", "()Z"⟩ : MethodName)) (z := (⟨"java/lang/String", "isEmpty", "()Z"⟩ : MethodName)) (rm := ({ frames := 0, cells := 0, slots := 0, locals := 0 } : Room)) hown (hw _ (List.mem_of_getElem? (i := 89) rfl)) (hw _ (List.mem_of_getElem? (i := 90) rfl)) (notFace_of_selects (args := #[]) (mvT hZ (hw _ (List.mem_of_getElem? (i := 92) rfl)))) (hw _ (List.mem_of_getElem? (i := 92) rfl)) (hw _ (List.mem_of_getElem? (i := 91) rfl)) (hw _ (List.mem_of_getElem? (i := 6) rfl)) (hw _ (List.mem_of_getElem? (i := 93) rfl)) (by decide) (rmIE l Z a0 hw [] so sb 1 1 fb h0 n0 Z0 V_so A_so rfl (by decide)) e0 E_so (by rw [hml]; rfl) (argsL := []) (rest := []) (lenOf pd_13 rfl) rfl rfl (W := 0) rfl (by decide) (by decide) (by decide) (by decide) (hb hby d26_1) (pc' := 4) rfl ?_
  rintro v352 T352 L352 X352 ⟨rfl, Nq352, e352⟩
  have N352 := Fr.app N0 Nq352
  show Run p e below _ _ T352 (mkF m 4 #[.val (.ref so)] [(.int (0 : Int32))])
  refine r_if0_ne X352.here hx (hb hby d26_4) (by decide) (pc' := 11) (by decide) (pc2 := 7) rfl (fun hc4 => absurd rfl hc4) (fun hc4 => ?_)
  refine r_iconst X352.here hx (hb hby d26_7) (v := 1) rfl (pc' := 8) rfl ?_
  refine r_goto X352.here hx (hb hby d26_8) (by decide) (pc' := 12) (by decide) ?_
  refine r_retN X352 hx hlk hret (by simp) (hb hby d26_12) (w := (1 : Int32)) rfl ?_ (by decide) (by decide)
  try rw [e352]
  exact ⟨rfl, N352, rfl⟩
def own_sh1 : Lambda.Shape := (Jvm.Lambda.Shape.mk "java/util/function/Predicate" "test" (Jvm.ClassFile.MethodDescriptor.mk ([(Jvm.ClassFile.FieldType.object "java/lang/Object")] : List Jvm.ClassFile.FieldType) (Option.some Jvm.ClassFile.FieldType.boolean)) ([] : List Jvm.ClassFile.FieldType) (6 : Nat) "com/example/lease/lease/store/RedisAddress" "lambda$new$1" (Jvm.ClassFile.MethodDescriptor.mk ([(Jvm.ClassFile.FieldType.object "java/lang/String")] : List Jvm.ClassFile.FieldType) (Option.some Jvm.ClassFile.FieldType.boolean)) false (Jvm.ClassFile.MethodDescriptor.mk ([(Jvm.ClassFile.FieldType.object "java/lang/String")] : List Jvm.ClassFile.FieldType) (Option.some Jvm.ClassFile.FieldType.boolean)))
def own_B1 : ByteArray := ⟨#[0x2b, 0xc0, 0x00, 0x0e, 0xb8, 0x00, 0x14, 0xac]⟩
theorem own_d1_0 : decode own_B1 0 = .ok (.aload_n 1, 1) := by decide +kernel
theorem own_d1_1 : decode own_B1 1 = .ok (.checkcast 14, 3) := by decide +kernel
theorem own_d1_4 : decode own_B1 4 = .ok (.invokestatic 20, 3) := by decide +kernel
theorem own_d1_7 : decode own_B1 7 = .ok (.ireturn, 1) := by decide +kernel
def own_D1 : ClassFile := (own_sh1.file "com/example/lease/lease/store/RedisAddress").getD { minorVersion := 0, majorVersion := 0, constantPool := #[], accessFlags := 0, thisClass := 0, superClass := 0, interfaces := #[], fields := #[], methods := #[], attributes := #[] }
def own_fw1 : Method := ((layoutMethods own_D1).bind (·[1]?)).getD default
theorem own_file1 : own_sh1.file "com/example/lease/lease/store/RedisAddress" = some own_D1 := by
  have h : (own_sh1.file "com/example/lease/lease/store/RedisAddress").isSome = true := by decide +kernel
  obtain ⟨x, hx⟩ := Option.isSome_iff_exists.mp h
  simp [own_D1, hx]
theorem own_lay1 : ∃ ms, layoutMethods own_D1 = some ms ∧ ms[1]? = some own_fw1 := by
  have h : ((layoutMethods own_D1).bind (·[1]?)).isSome = true := by decide +kernel
  obtain ⟨x, hx⟩ := Option.isSome_iff_exists.mp h
  have hf : own_fw1 = x := by simp [own_fw1, hx]
  obtain ⟨ms, h1, h2⟩ := Option.bind_eq_some_iff.mp hx
  exact ⟨ms, h1, by rw [hf]; exact h2⟩
theorem own_sec1 : ∀ ms, layoutMethods own_D1 = some ms → ms[1]? = some own_fw1 := fun ms h => by
  obtain ⟨ms', h1, h2⟩ := own_lay1
  cases h.symm.trans h1; exact h2
theorem own_cd1 : (own_fw1.code.map fun c => (c.code.data, c.maxLocals)) = some (own_B1.data, 2) := by decide +kernel
theorem own_fl1 : own_fw1.accessFlags = 0x0001 := by decide +kernel
theorem own_rt1 : own_fw1.sig.returnType = some .boolean := by decide +kernel
theorem own_m1 {Z s : State} {e : Env} {a0 : Array Value} {cK : ClassId} {f : Addr} (hZ : Z.Warmed39 s.vm) (hw : ∀ d ∈ tables_1, d.before a0 Z = true) (hat : Z.lambdaAt? (⟨"com/example/lease/lease/store/RedisAddress", "<init>", "(Ljava/lang/String;IZLjava/util/Optional;Ljava/util/Optional;)V"⟩ : MethodName) 41 29 own_sh1 = some (cK, some f)) :
    ∃ (methk : Method) (ck : Code) (cT : ClassId), ck.code = own_B1 ∧ Z.vm.findClass "java/lang/String" = some cT ∧ ∀ U : State, s.WarmedH U.vm → Jvm.Free.Fw.Base U cK methk ck 2 (some .boolean) ∧ U.vm.classReady cK 14 cT ∧ Jvm.Free.Fw.StaticAt e U cK 20 (⟨"com/example/lease/lease/store/RedisAddress", "lambda$new$1", "(Ljava/lang/String;)Z"⟩ : MethodName) 1 :=
  own_made (ci := 16) (nt := 19) (q1 := 15) (q2 := 13) hZ hat own_file1 own_sec1 own_cd1 own_fl1 own_rt1 (by decide) (by decide +kernel) (by decide +kernel) (by decide +kernel) rfl rfl (by decide +kernel) (by obtain ⟨c, k, q, -⟩ := Cond.instantiable_spec (hw _ (List.mem_of_getElem? (i := 5) rfl)); exact ⟨c, q⟩) (by decide) (hw _ (List.mem_of_getElem? (i := 145) rfl)) (hw _ (List.mem_of_getElem? (i := 144) rfl)) (hw _ (List.mem_of_getElem? (i := 38) rfl)) pd_14 rfl
theorem own_fx1 {Z : State} {a0 : Array Value} {cK : ClassId} {f : Addr} (hw : ∀ d ∈ tables_1, d.before a0 Z = true) (hat : Z.lambdaAt? (⟨"com/example/lease/lease/store/RedisAddress", "<init>", "(Ljava/lang/String;IZLjava/util/Optional;Ljava/util/Optional;)V"⟩ : MethodName) 41 29 own_sh1 = some (cK, some f)) : Jvm.Free.HMW.FnX (⟨"java/util/function/Predicate", "test", "(Ljava/lang/Object;)Z"⟩ : MethodName) cK ⟨cK, 1⟩ Z := by
  obtain ⟨ms, h1, h2⟩ := own_lay1
  exact (Jvm.Free.Fn.of_lambdaAt hat rfl rfl (by decide +kernel) (hw _ (List.mem_of_getElem? (i := 143) rfl)) own_file1 h1 h2 own_fl1).1
theorem d16_0 : decode jdk_32_method_7_code 0 = .ok (.aload_n 0, 1) := by decide +kernel
theorem d16_1 : decode jdk_32_method_7_code 1 = .ok (.getfield 13, 3) := by decide +kernel
theorem d16_4 : decode jdk_32_method_7_code 4 = .ok (.ifnonnull 7, 3) := by decide +kernel
theorem d16_7 : decode jdk_32_method_7_code 7 = .ok (.iconst 1, 1) := by decide +kernel
theorem d16_8 : decode jdk_32_method_7_code 8 = .ok (.goto 4, 3) := by decide +kernel
theorem d16_12 : decode jdk_32_method_7_code 12 = .ok (.ireturn, 1) := by decide +kernel
theorem ef_rm_isEmptyE (m : MethodId) (x0 : Addr) : entryFrame m #[(.ref x0)] 1 = mkF m 0 #[.val (.ref x0)] [] := by first | (simp [entryFrame, mkF, argsToLocals, Value.category, maxLocals]; done) | rfl
set_option maxRecDepth 65536 in
set_option maxHeartbeats 40000000 in
theorem rm_isEmptyE (l : Launch) (Z : State) (a0 : Array Value) (hw : ∀ d ∈ tables_1, d.before a0 Z = true) (ws : List Jvm.Cond) (o : Addr) (h0 : Heap) (n0 : Nat) (Z0 : n0 ≤ h0.size) (E_o : Exa Z h0 o "java/util/Optional") (F_o_value : Fld Z h0 o "java/util/Optional" "value" "Ljava/lang/Object;" .null)  :
    Met l Z (⟨"java/util/Optional", "isEmpty", "()Z"⟩ : MethodName) jdk_32_method_7_code 1 (some .boolean) ws ({ frames := 0, cells := 0, slots := 0, locals := 0 } : Room) #[(.ref o)] h0 (fun v h L => v = some (.int 1) ∧ Fr n0 L ∧ h = h0) 0 0 := by
  refine met_of (plainFor_of_name pn_5) (f0 := fun m => (mkF m 0 #[.val (.ref o)] [])) (fun m => ef_rm_isEmptyE m o) ?_
  intro p e s m below meth c s₁ X0 hx hby hml hret hlk hown hnm hZ e0
  replace hown : s.vm.findClass "java/util/Optional" = some m.cls := hown
  have N0 := Fr.nil n0
  refine r_aloadN X0.here hx (hb hby d16_0) rfl rfl (pc' := 1) rfl ?_
  refine r_getF X0 hx hZ hown (hw _ (List.mem_of_getElem? (i := 85) rfl)) Via.refl e0 F_o_value (hb hby d16_1) (pc' := 4) rfl (fun T353 X353 e353 => ?_)
  refine r_ifnonnullN X353.here hx (hb hby d16_4) (pc' := 7) rfl ?_
  refine r_iconst X353.here hx (hb hby d16_7) (v := 1) rfl (pc' := 8) rfl ?_
  refine r_goto X353.here hx (hb hby d16_8) (by decide) (pc' := 12) (by decide) ?_
  refine r_retN X353 hx hlk hret (by simp) (hb hby d16_12) (w := (1 : Int32)) rfl ?_ (by decide) (by decide)
  try rw [e353]
  exact ⟨rfl, N0, rfl⟩
theorem d18_0 : decode jdk_32_method_6_code 0 = .ok (.aload_n 0, 1) := by decide +kernel
theorem d18_1 : decode jdk_32_method_6_code 1 = .ok (.getfield 13, 3) := by decide +kernel
theorem d18_4 : decode jdk_32_method_6_code 4 = .ok (.ifnull 7, 3) := by decide +kernel
theorem d18_11 : decode jdk_32_method_6_code 11 = .ok (.iconst 0, 1) := by decide +kernel
theorem d18_12 : decode jdk_32_method_6_code 12 = .ok (.ireturn, 1) := by decide +kernel
theorem ef_rm_isPresentE (m : MethodId) (x0 : Addr) : entryFrame m #[(.ref x0)] 1 = mkF m 0 #[.val (.ref x0)] [] := by first | (simp [entryFrame, mkF, argsToLocals, Value.category, maxLocals]; done) | rfl
set_option maxRecDepth 65536 in
set_option maxHeartbeats 40000000 in
theorem rm_isPresentE (l : Launch) (Z : State) (a0 : Array Value) (hw : ∀ d ∈ tables_1, d.before a0 Z = true) (ws : List Jvm.Cond) (o : Addr) (h0 : Heap) (n0 : Nat) (Z0 : n0 ≤ h0.size) (E_o : Exa Z h0 o "java/util/Optional") (F_o_value : Fld Z h0 o "java/util/Optional" "value" "Ljava/lang/Object;" .null)  :
    Met l Z (⟨"java/util/Optional", "isPresent", "()Z"⟩ : MethodName) jdk_32_method_6_code 1 (some .boolean) ws ({ frames := 0, cells := 0, slots := 0, locals := 0 } : Room) #[(.ref o)] h0 (fun v h L => v = some (.int 0) ∧ Fr n0 L ∧ h = h0) 0 0 := by
  refine met_of (plainFor_of_name pn_5) (f0 := fun m => (mkF m 0 #[.val (.ref o)] [])) (fun m => ef_rm_isPresentE m o) ?_
  intro p e s m below meth c s₁ X0 hx hby hml hret hlk hown hnm hZ e0
  replace hown : s.vm.findClass "java/util/Optional" = some m.cls := hown
  have N0 := Fr.nil n0
  refine r_aloadN X0.here hx (hb hby d18_0) rfl rfl (pc' := 1) rfl ?_
  refine r_getF X0 hx hZ hown (hw _ (List.mem_of_getElem? (i := 85) rfl)) Via.refl e0 F_o_value (hb hby d18_1) (pc' := 4) rfl (fun T354 X354 e354 => ?_)
  refine r_ifnullY X354.here hx (hb hby d18_4) (by decide) (pc' := 11) (by decide) ?_
  refine r_iconst X354.here hx (hb hby d18_11) (v := 0) rfl (pc' := 12) rfl ?_
  refine r_retN X354 hx hlk hret (by simp) (hb hby d18_12) (w := (0 : Int32)) rfl ?_ (by decide) (by decide)
  try rw [e354]
  exact ⟨rfl, N0, rfl⟩
theorem d16_11 : decode jdk_32_method_7_code 11 = .ok (.iconst 0, 1) := by decide +kernel
theorem ef_rm_isEmptyP (m : MethodId) (x0 : Addr) : entryFrame m #[(.ref x0)] 1 = mkF m 0 #[.val (.ref x0)] [] := by first | (simp [entryFrame, mkF, argsToLocals, Value.category, maxLocals]; done) | rfl
set_option maxRecDepth 65536 in
set_option maxHeartbeats 40000000 in
theorem rm_isEmptyP (l : Launch) (Z : State) (a0 : Array Value) (hw : ∀ d ∈ tables_1, d.before a0 Z = true) (ws : List Jvm.Cond) (o so : Addr) (h0 : Heap) (n0 : Nat) (Z0 : n0 ≤ h0.size) (E_o : Exa Z h0 o "java/util/Optional") (F_o_value : Fld Z h0 o "java/util/Optional" "value" "Ljava/lang/Object;" (.ref so))  :
    Met l Z (⟨"java/util/Optional", "isEmpty", "()Z"⟩ : MethodName) jdk_32_method_7_code 1 (some .boolean) ws ({ frames := 0, cells := 0, slots := 0, locals := 0 } : Room) #[(.ref o)] h0 (fun v h L => v = some (.int 0) ∧ Fr n0 L ∧ h = h0) 0 0 := by
  refine met_of (plainFor_of_name pn_5) (f0 := fun m => (mkF m 0 #[.val (.ref o)] [])) (fun m => ef_rm_isEmptyP m o) ?_
  intro p e s m below meth c s₁ X0 hx hby hml hret hlk hown hnm hZ e0
  replace hown : s.vm.findClass "java/util/Optional" = some m.cls := hown
  have N0 := Fr.nil n0
  refine r_aloadN X0.here hx (hb hby d16_0) rfl rfl (pc' := 1) rfl ?_
  refine r_getF X0 hx hZ hown (hw _ (List.mem_of_getElem? (i := 85) rfl)) Via.refl e0 F_o_value (hb hby d16_1) (pc' := 4) rfl (fun T355 X355 e355 => ?_)
  refine r_ifnonnullY X355.here hx (hb hby d16_4) (by decide) (pc' := 11) (by decide) ?_
  refine r_iconst X355.here hx (hb hby d16_11) (v := 0) rfl (pc' := 12) rfl ?_
  refine r_retN X355 hx hlk hret (by simp) (hb hby d16_12) (w := (0 : Int32)) rfl ?_ (by decide) (by decide)
  try rw [e355]
  exact ⟨rfl, N0, rfl⟩
theorem d18_7 : decode jdk_32_method_6_code 7 = .ok (.iconst 1, 1) := by decide +kernel
theorem d18_8 : decode jdk_32_method_6_code 8 = .ok (.goto 4, 3) := by decide +kernel
theorem ef_rm_isPresentP (m : MethodId) (x0 : Addr) : entryFrame m #[(.ref x0)] 1 = mkF m 0 #[.val (.ref x0)] [] := by first | (simp [entryFrame, mkF, argsToLocals, Value.category, maxLocals]; done) | rfl
set_option maxRecDepth 65536 in
set_option maxHeartbeats 40000000 in
theorem rm_isPresentP (l : Launch) (Z : State) (a0 : Array Value) (hw : ∀ d ∈ tables_1, d.before a0 Z = true) (ws : List Jvm.Cond) (o so : Addr) (h0 : Heap) (n0 : Nat) (Z0 : n0 ≤ h0.size) (E_o : Exa Z h0 o "java/util/Optional") (F_o_value : Fld Z h0 o "java/util/Optional" "value" "Ljava/lang/Object;" (.ref so))  :
    Met l Z (⟨"java/util/Optional", "isPresent", "()Z"⟩ : MethodName) jdk_32_method_6_code 1 (some .boolean) ws ({ frames := 0, cells := 0, slots := 0, locals := 0 } : Room) #[(.ref o)] h0 (fun v h L => v = some (.int 1) ∧ Fr n0 L ∧ h = h0) 0 0 := by
  refine met_of (plainFor_of_name pn_5) (f0 := fun m => (mkF m 0 #[.val (.ref o)] [])) (fun m => ef_rm_isPresentP m o) ?_
  intro p e s m below meth c s₁ X0 hx hby hml hret hlk hown hnm hZ e0
  replace hown : s.vm.findClass "java/util/Optional" = some m.cls := hown
  have N0 := Fr.nil n0
  refine r_aloadN X0.here hx (hb hby d18_0) rfl rfl (pc' := 1) rfl ?_
  refine r_getF X0 hx hZ hown (hw _ (List.mem_of_getElem? (i := 85) rfl)) Via.refl e0 F_o_value (hb hby d18_1) (pc' := 4) rfl (fun T356 X356 e356 => ?_)
  refine r_ifnullN X356.here hx (hb hby d18_4) (pc' := 7) rfl ?_
  refine r_iconst X356.here hx (hb hby d18_7) (v := 1) rfl (pc' := 8) rfl ?_
  refine r_goto X356.here hx (hb hby d18_8) (by decide) (pc' := 12) (by decide) ?_
  refine r_retN X356 hx hlk hret (by simp) (hb hby d18_12) (w := (1 : Int32)) rfl ?_ (by decide) (by decide)
  try rw [e356]
  exact ⟨rfl, N0, rfl⟩
theorem d14_0 : decode jdk_32_method_10_code 0 = .ok (.aload_n 1, 1) := by decide +kernel
theorem d14_1 : decode jdk_32_method_10_code 1 = .ok (.invokestatic 17, 3) := by decide +kernel
theorem d14_4 : decode jdk_32_method_10_code 4 = .ok (.pop, 1) := by decide +kernel
theorem d14_5 : decode jdk_32_method_10_code 5 = .ok (.aload_n 0, 1) := by decide +kernel
theorem d14_6 : decode jdk_32_method_10_code 6 = .ok (.invokevirtual 43, 3) := by decide +kernel
theorem d14_9 : decode jdk_32_method_10_code 9 = .ok (.ifCond .eq 5, 3) := by decide +kernel
theorem d14_12 : decode jdk_32_method_10_code 12 = .ok (.aload_n 0, 1) := by decide +kernel
theorem d14_13 : decode jdk_32_method_10_code 13 = .ok (.areturn, 1) := by decide +kernel
theorem ef_rmFlE (m : MethodId) (x0 : Addr) (x1 : Addr) : entryFrame m #[(.ref x0), (.ref x1)] 2 = mkF m 0 #[.val (.ref x0), .val (.ref x1)] [] := by first | (simp [entryFrame, mkF, argsToLocals, Value.category, maxLocals]; done) | rfl
set_option maxRecDepth 65536 in
set_option maxHeartbeats 40000000 in
theorem rmFlE (l : Launch) (Z : State) (a0 : Array Value) (hw : ∀ d ∈ tables_1, d.before a0 Z = true) (ws : List Jvm.Cond) (o fn : Addr) (h0 : Heap) (n0 : Nat) (Z0 : n0 ≤ h0.size) (E_o : Exa Z h0 o "java/util/Optional") (F_o_value : Fld Z h0 o "java/util/Optional" "value" "Ljava/lang/Object;" .null)  :
    Met l Z (⟨"java/util/Optional", "filter", "(Ljava/util/function/Predicate;)Ljava/util/Optional;"⟩ : MethodName) jdk_32_method_10_code 2 (some (.object "java/util/Optional")) ws ({ frames := 1, cells := 0, slots := 0, locals := 12 } : Room) #[(.ref o), (.ref fn)] h0 (fun v h L => v = some (.ref o) ∧ Fr n0 L ∧ h = h0) 0 0 := by
  refine met_of (plainFor_of_name pn_5) (f0 := fun m => (mkF m 0 #[.val (.ref o), .val (.ref fn)] [])) (fun m => ef_rmFlE m o fn) ?_
  intro p e s m below meth c s₁ X0 hx hby hml hret hlk hown hnm hZ e0
  replace hown : s.vm.findClass "java/util/Optional" = some m.cls := hown
  have N0 := Fr.nil n0
  refine r_aloadN X0.here hx (hb hby d14_0) rfl rfl (pc' := 1) rfl ?_
  refine r_callS X0 hx hZ (y := (⟨"java/util/Objects", "requireNonNull", "(Ljava/lang/Object;)Ljava/lang/Object;"⟩ : MethodName)) (rm := ({ frames := 0, cells := 0, slots := 0, locals := 0 } : Room)) hown (hw _ (List.mem_of_getElem? (i := 77) rfl)) (hw _ (List.mem_of_getElem? (i := 78) rfl)) (hw _ (List.mem_of_getElem? (i := 64) rfl)) (hw _ (List.mem_of_getElem? (i := 79) rfl)) (by decide) (rmR1 l Z a0 hw [] fn h0 n0 Z0) e0 (by rw [hml]; rfl) (argsL := [(.ref fn)]) (rest := []) (lenOf pd_8 rfl) rfl rfl (W := 0) rfl (by decide) (by decide) (by decide) (by decide) (hb hby d14_1) (pc' := 4) rfl ?_
  rintro v357 T357 L357 X357 ⟨rfl, Nq357, e357⟩
  have N357 := Fr.app N0 Nq357
  show Run p e below _ _ T357 (mkF m 4 #[.val (.ref o), .val (.ref fn)] [(.ref fn)])
  refine r_pop X357.here hx (hb hby d14_4) rfl (pc' := 5) rfl ?_
  refine r_aloadN X357.here hx (hb hby d14_5) rfl rfl (pc' := 6) rfl ?_
  refine r_callV X357 hx hZ (y := (⟨"java/util/Optional", "isEmpty", "()Z"⟩ : MethodName)) (z := (⟨"java/util/Optional", "isEmpty", "()Z"⟩ : MethodName)) (rm := ({ frames := 0, cells := 0, slots := 0, locals := 0 } : Room)) hown (hw _ (List.mem_of_getElem? (i := 80) rfl)) (hw _ (List.mem_of_getElem? (i := 81) rfl)) (notFace_of_selects (args := #[]) (mvT hZ (hw _ (List.mem_of_getElem? (i := 83) rfl)))) (hw _ (List.mem_of_getElem? (i := 83) rfl)) (hw _ (List.mem_of_getElem? (i := 82) rfl)) (hw _ (List.mem_of_getElem? (i := 44) rfl)) (hw _ (List.mem_of_getElem? (i := 84) rfl)) (by decide) (rm_isEmptyE l Z a0 hw [] o h0 n0 Z0 E_o F_o_value) e357 E_o (by rw [hml]; rfl) (argsL := []) (rest := []) (lenOf pd_13 rfl) rfl rfl (W := 0) rfl (by decide) (by decide) (by decide) (by decide) (hb hby d14_6) (pc' := 9) rfl ?_
  rintro v358 T358 L358 X358 ⟨rfl, Nq358, e358⟩
  have N358 := Fr.app N357 Nq358
  show Run p e below _ _ T358 (mkF m 9 #[.val (.ref o), .val (.ref fn)] [(.int (1 : Int32))])
  refine r_if0_eq X358.here hx (hb hby d14_9) (by decide) (pc' := 14) (by decide) (pc2 := 12) rfl (fun hc9 => absurd hc9 (by decide)) (fun hc9 => ?_)
  refine r_aloadN X358.here hx (hb hby d14_12) rfl rfl (pc' := 13) rfl ?_
  refine r_retA X358 hx hlk hret rfl rfl (hb hby d14_13) ?_ (by decide) (by decide)
  try rw [e358]
  exact ⟨rfl, N358, rfl⟩
theorem d14_14 : decode jdk_32_method_10_code 14 = .ok (.aload_n 1, 1) := by decide +kernel
theorem d14_15 : decode jdk_32_method_10_code 15 = .ok (.aload_n 0, 1) := by decide +kernel
theorem d14_16 : decode jdk_32_method_10_code 16 = .ok (.getfield 13, 3) := by decide +kernel
theorem pd_15 : parseMethodDescriptor "(Ljava/lang/Object;)Z" = some ⟨[(.object "java/lang/Object")], some .boolean⟩ := by decide +kernel
theorem d14_19 : decode jdk_32_method_10_code 19 = .ok (.invokeinterface 47 2, 5) := by decide +kernel
theorem d14_24 : decode jdk_32_method_10_code 24 = .ok (.ifCond .eq 7, 3) := by decide +kernel
theorem d14_27 : decode jdk_32_method_10_code 27 = .ok (.aload_n 0, 1) := by decide +kernel
theorem d14_28 : decode jdk_32_method_10_code 28 = .ok (.goto 6, 3) := by decide +kernel
theorem d14_34 : decode jdk_32_method_10_code 34 = .ok (.areturn, 1) := by decide +kernel
theorem ef_rmFlP0 (m : MethodId) (x0 : Addr) (x1 : Addr) : entryFrame m #[(.ref x0), (.ref x1)] 2 = mkF m 0 #[.val (.ref x0), .val (.ref x1)] [] := by first | (simp [entryFrame, mkF, argsToLocals, Value.category, maxLocals]; done) | rfl
set_option maxRecDepth 65536 in
set_option maxHeartbeats 40000000 in
theorem rmFlP0 (l : Launch) (Z : State) (a0 : Array Value) (hw : ∀ d ∈ tables_1, d.before a0 Z = true) (ws : List Jvm.Cond) (o fn so sb : Addr) (fb : Nat → Value) (cK : ClassId) (h0 : Heap) (n0 : Nat) (Z0 : n0 ≤ h0.size) (E_o : Exa Z h0 o "java/util/Optional") (F_o_value : Fld Z h0 o "java/util/Optional" "value" "Ljava/lang/Object;" (.ref so)) (E_so : Exa Z h0 so "java/lang/String") (V_so : Fld Z h0 so "java/lang/String" "value" "[B" (.ref sb)) (A_so : Ary Z h0 sb .byte 1 fb) (hat : Z.lambdaAt? (⟨"com/example/lease/lease/store/RedisAddress", "<init>", "(Ljava/lang/String;IZLjava/util/Optional;Ljava/util/Optional;)V"⟩ : MethodName) 21 19 own_sh0 = some (cK, some fn)) (Lm : Lmo Z h0 fn cK)  :
    Met l Z (⟨"java/util/Optional", "filter", "(Ljava/util/function/Predicate;)Ljava/util/Optional;"⟩ : MethodName) jdk_32_method_10_code 2 (some (.object "java/util/Optional")) ws ({ frames := 3, cells := 0, slots := 0, locals := 37 } : Room) #[(.ref o), (.ref fn)] h0 (fun v h L => v = some (.ref o) ∧ Fr n0 L ∧ h = h0) 0 0 := by
  refine met_of (plainFor_of_name pn_5) (f0 := fun m => (mkF m 0 #[.val (.ref o), .val (.ref fn)] [])) (fun m => ef_rmFlP0 m o fn) ?_
  intro p e s m below meth c s₁ X0 hx hby hml hret hlk hown hnm hZ e0
  replace hown : s.vm.findClass "java/util/Optional" = some m.cls := hown
  have N0 := Fr.nil n0
  refine r_aloadN X0.here hx (hb hby d14_0) rfl rfl (pc' := 1) rfl ?_
  refine r_callS X0 hx hZ (y := (⟨"java/util/Objects", "requireNonNull", "(Ljava/lang/Object;)Ljava/lang/Object;"⟩ : MethodName)) (rm := ({ frames := 0, cells := 0, slots := 0, locals := 0 } : Room)) hown (hw _ (List.mem_of_getElem? (i := 77) rfl)) (hw _ (List.mem_of_getElem? (i := 78) rfl)) (hw _ (List.mem_of_getElem? (i := 64) rfl)) (hw _ (List.mem_of_getElem? (i := 79) rfl)) (by decide) (rmR1 l Z a0 hw [] fn h0 n0 Z0) e0 (by rw [hml]; rfl) (argsL := [(.ref fn)]) (rest := []) (lenOf pd_8 rfl) rfl rfl (W := 0) rfl (by decide) (by decide) (by decide) (by decide) (hb hby d14_1) (pc' := 4) rfl ?_
  rintro v359 T359 L359 X359 ⟨rfl, Nq359, e359⟩
  have N359 := Fr.app N0 Nq359
  show Run p e below _ _ T359 (mkF m 4 #[.val (.ref o), .val (.ref fn)] [(.ref fn)])
  refine r_pop X359.here hx (hb hby d14_4) rfl (pc' := 5) rfl ?_
  refine r_aloadN X359.here hx (hb hby d14_5) rfl rfl (pc' := 6) rfl ?_
  refine r_callV X359 hx hZ (y := (⟨"java/util/Optional", "isEmpty", "()Z"⟩ : MethodName)) (z := (⟨"java/util/Optional", "isEmpty", "()Z"⟩ : MethodName)) (rm := ({ frames := 0, cells := 0, slots := 0, locals := 0 } : Room)) hown (hw _ (List.mem_of_getElem? (i := 80) rfl)) (hw _ (List.mem_of_getElem? (i := 81) rfl)) (notFace_of_selects (args := #[]) (mvT hZ (hw _ (List.mem_of_getElem? (i := 83) rfl)))) (hw _ (List.mem_of_getElem? (i := 83) rfl)) (hw _ (List.mem_of_getElem? (i := 82) rfl)) (hw _ (List.mem_of_getElem? (i := 44) rfl)) (hw _ (List.mem_of_getElem? (i := 84) rfl)) (by decide) (rm_isEmptyP l Z a0 hw [] o so h0 n0 Z0 E_o F_o_value) e359 E_o (by rw [hml]; rfl) (argsL := []) (rest := []) (lenOf pd_13 rfl) rfl rfl (W := 0) rfl (by decide) (by decide) (by decide) (by decide) (hb hby d14_6) (pc' := 9) rfl ?_
  rintro v360 T360 L360 X360 ⟨rfl, Nq360, e360⟩
  have N360 := Fr.app N359 Nq360
  show Run p e below _ _ T360 (mkF m 9 #[.val (.ref o), .val (.ref fn)] [(.int (0 : Int32))])
  refine r_if0_eq X360.here hx (hb hby d14_9) (by decide) (pc' := 14) (by decide) (pc2 := 12) rfl (fun hc9 => ?_) (fun hc9 => absurd rfl hc9)
  refine r_aloadN X360.here hx (hb hby d14_14) rfl rfl (pc' := 15) rfl ?_
  refine r_aloadN X360.here hx (hb hby d14_15) rfl rfl (pc' := 16) rfl ?_
  refine r_getF X360 hx hZ hown (hw _ (List.mem_of_getElem? (i := 85) rfl)) Via.refl e360 F_o_value (hb hby d14_16) (pc' := 19) rfl (fun T361 X361 e361 => ?_)
  obtain ⟨mK, ckK, cT, hcd, hcT, hF⟩ := own_m0 (e := e) (s := s) hZ hw hat
  refine r_callL X361 hx hZ (xi := (⟨"java/util/function/Predicate", "test", "(Ljava/lang/Object;)Z"⟩ : MethodName)) (z := (⟨"com/example/lease/lease/store/RedisAddress", "lambda$new$0", "(Ljava/lang/String;)Z"⟩ : MethodName)) (rm := ({ frames := 1, cells := 0, slots := 0, locals := 12 } : Room)) hown (hw _ (List.mem_of_getElem? (i := 141) rfl)) (hw _ (List.mem_of_getElem? (i := 142) rfl)) (mvT hZ (hw _ (List.mem_of_getElem? (i := 143) rfl))) (by decide) (hw _ (List.mem_of_getElem? (i := 38) rfl)) (hw _ (List.mem_of_getElem? (i := 147) rfl)) (own_fx0 hw hat) (by rw [hcd]; exact own_d0_0) (by rw [hcd]; exact own_d0_1) (by rw [hcd]; exact own_d0_4) (by rw [hcd]; exact own_d0_7) hcT hF (Or.inr (Or.inl rfl)) (rmLm0 l Z a0 hw [] so sb _ h0 n0 Z0 E_so V_so A_so) (by rintro _ _ _ ⟨rfl, -⟩; exact ⟨1, rfl, rfl⟩) e361 Lm E_so (Ins.of_exa E_so (hw _ (List.mem_of_getElem? (i := 13) rfl))) (by rw [hml]; rfl) (lenOf (L := [.ref so]) pd_15 rfl) (W := 0) rfl (by decide) (by decide) (by decide) (by decide) (hb hby d14_19) (pc' := 24) rfl ?_
  rintro v362 T362 L362 X362 ⟨rfl, Nq362, e362⟩
  have N362 := Fr.app N360 Nq362
  show Run p e below _ _ T362 (mkF m 24 #[.val (.ref o), .val (.ref fn)] [(.int (1 : Int32))])
  refine r_if0_eq X362.here hx (hb hby d14_24) (by decide) (pc' := 31) (by decide) (pc2 := 27) rfl (fun hc24 => absurd hc24 (by decide)) (fun hc24 => ?_)
  refine r_aloadN X362.here hx (hb hby d14_27) rfl rfl (pc' := 28) rfl ?_
  refine r_goto X362.here hx (hb hby d14_28) (by decide) (pc' := 34) (by decide) ?_
  refine r_retA X362 hx hlk hret rfl rfl (hb hby d14_34) ?_ (by decide) (by decide)
  try rw [e362]
  exact ⟨rfl, N362, rfl⟩
theorem ef_rmFlP1 (m : MethodId) (x0 : Addr) (x1 : Addr) : entryFrame m #[(.ref x0), (.ref x1)] 2 = mkF m 0 #[.val (.ref x0), .val (.ref x1)] [] := by first | (simp [entryFrame, mkF, argsToLocals, Value.category, maxLocals]; done) | rfl
set_option maxRecDepth 65536 in
set_option maxHeartbeats 40000000 in
theorem rmFlP1 (l : Launch) (Z : State) (a0 : Array Value) (hw : ∀ d ∈ tables_1, d.before a0 Z = true) (ws : List Jvm.Cond) (o fn so sb : Addr) (fb : Nat → Value) (cK : ClassId) (h0 : Heap) (n0 : Nat) (Z0 : n0 ≤ h0.size) (E_o : Exa Z h0 o "java/util/Optional") (F_o_value : Fld Z h0 o "java/util/Optional" "value" "Ljava/lang/Object;" (.ref so)) (E_so : Exa Z h0 so "java/lang/String") (V_so : Fld Z h0 so "java/lang/String" "value" "[B" (.ref sb)) (A_so : Ary Z h0 sb .byte 1 fb) (hat : Z.lambdaAt? (⟨"com/example/lease/lease/store/RedisAddress", "<init>", "(Ljava/lang/String;IZLjava/util/Optional;Ljava/util/Optional;)V"⟩ : MethodName) 41 29 own_sh1 = some (cK, some fn)) (Lm : Lmo Z h0 fn cK)  :
    Met l Z (⟨"java/util/Optional", "filter", "(Ljava/util/function/Predicate;)Ljava/util/Optional;"⟩ : MethodName) jdk_32_method_10_code 2 (some (.object "java/util/Optional")) ws ({ frames := 3, cells := 0, slots := 0, locals := 37 } : Room) #[(.ref o), (.ref fn)] h0 (fun v h L => v = some (.ref o) ∧ Fr n0 L ∧ h = h0) 0 0 := by
  refine met_of (plainFor_of_name pn_5) (f0 := fun m => (mkF m 0 #[.val (.ref o), .val (.ref fn)] [])) (fun m => ef_rmFlP1 m o fn) ?_
  intro p e s m below meth c s₁ X0 hx hby hml hret hlk hown hnm hZ e0
  replace hown : s.vm.findClass "java/util/Optional" = some m.cls := hown
  have N0 := Fr.nil n0
  refine r_aloadN X0.here hx (hb hby d14_0) rfl rfl (pc' := 1) rfl ?_
  refine r_callS X0 hx hZ (y := (⟨"java/util/Objects", "requireNonNull", "(Ljava/lang/Object;)Ljava/lang/Object;"⟩ : MethodName)) (rm := ({ frames := 0, cells := 0, slots := 0, locals := 0 } : Room)) hown (hw _ (List.mem_of_getElem? (i := 77) rfl)) (hw _ (List.mem_of_getElem? (i := 78) rfl)) (hw _ (List.mem_of_getElem? (i := 64) rfl)) (hw _ (List.mem_of_getElem? (i := 79) rfl)) (by decide) (rmR1 l Z a0 hw [] fn h0 n0 Z0) e0 (by rw [hml]; rfl) (argsL := [(.ref fn)]) (rest := []) (lenOf pd_8 rfl) rfl rfl (W := 0) rfl (by decide) (by decide) (by decide) (by decide) (hb hby d14_1) (pc' := 4) rfl ?_
  rintro v363 T363 L363 X363 ⟨rfl, Nq363, e363⟩
  have N363 := Fr.app N0 Nq363
  show Run p e below _ _ T363 (mkF m 4 #[.val (.ref o), .val (.ref fn)] [(.ref fn)])
  refine r_pop X363.here hx (hb hby d14_4) rfl (pc' := 5) rfl ?_
  refine r_aloadN X363.here hx (hb hby d14_5) rfl rfl (pc' := 6) rfl ?_
  refine r_callV X363 hx hZ (y := (⟨"java/util/Optional", "isEmpty", "()Z"⟩ : MethodName)) (z := (⟨"java/util/Optional", "isEmpty", "()Z"⟩ : MethodName)) (rm := ({ frames := 0, cells := 0, slots := 0, locals := 0 } : Room)) hown (hw _ (List.mem_of_getElem? (i := 80) rfl)) (hw _ (List.mem_of_getElem? (i := 81) rfl)) (notFace_of_selects (args := #[]) (mvT hZ (hw _ (List.mem_of_getElem? (i := 83) rfl)))) (hw _ (List.mem_of_getElem? (i := 83) rfl)) (hw _ (List.mem_of_getElem? (i := 82) rfl)) (hw _ (List.mem_of_getElem? (i := 44) rfl)) (hw _ (List.mem_of_getElem? (i := 84) rfl)) (by decide) (rm_isEmptyP l Z a0 hw [] o so h0 n0 Z0 E_o F_o_value) e363 E_o (by rw [hml]; rfl) (argsL := []) (rest := []) (lenOf pd_13 rfl) rfl rfl (W := 0) rfl (by decide) (by decide) (by decide) (by decide) (hb hby d14_6) (pc' := 9) rfl ?_
  rintro v364 T364 L364 X364 ⟨rfl, Nq364, e364⟩
  have N364 := Fr.app N363 Nq364
  show Run p e below _ _ T364 (mkF m 9 #[.val (.ref o), .val (.ref fn)] [(.int (0 : Int32))])
  refine r_if0_eq X364.here hx (hb hby d14_9) (by decide) (pc' := 14) (by decide) (pc2 := 12) rfl (fun hc9 => ?_) (fun hc9 => absurd rfl hc9)
  refine r_aloadN X364.here hx (hb hby d14_14) rfl rfl (pc' := 15) rfl ?_
  refine r_aloadN X364.here hx (hb hby d14_15) rfl rfl (pc' := 16) rfl ?_
  refine r_getF X364 hx hZ hown (hw _ (List.mem_of_getElem? (i := 85) rfl)) Via.refl e364 F_o_value (hb hby d14_16) (pc' := 19) rfl (fun T365 X365 e365 => ?_)
  obtain ⟨mK, ckK, cT, hcd, hcT, hF⟩ := own_m1 (e := e) (s := s) hZ hw hat
  refine r_callL X365 hx hZ (xi := (⟨"java/util/function/Predicate", "test", "(Ljava/lang/Object;)Z"⟩ : MethodName)) (z := (⟨"com/example/lease/lease/store/RedisAddress", "lambda$new$1", "(Ljava/lang/String;)Z"⟩ : MethodName)) (rm := ({ frames := 1, cells := 0, slots := 0, locals := 12 } : Room)) hown (hw _ (List.mem_of_getElem? (i := 141) rfl)) (hw _ (List.mem_of_getElem? (i := 142) rfl)) (mvT hZ (hw _ (List.mem_of_getElem? (i := 143) rfl))) (by decide) (hw _ (List.mem_of_getElem? (i := 38) rfl)) (hw _ (List.mem_of_getElem? (i := 145) rfl)) (own_fx1 hw hat) (by rw [hcd]; exact own_d1_0) (by rw [hcd]; exact own_d1_1) (by rw [hcd]; exact own_d1_4) (by rw [hcd]; exact own_d1_7) hcT hF (Or.inr (Or.inl rfl)) (rmLm1 l Z a0 hw [] so sb _ h0 n0 Z0 E_so V_so A_so) (by rintro _ _ _ ⟨rfl, -⟩; exact ⟨1, rfl, rfl⟩) e365 Lm E_so (Ins.of_exa E_so (hw _ (List.mem_of_getElem? (i := 13) rfl))) (by rw [hml]; rfl) (lenOf (L := [.ref so]) pd_15 rfl) (W := 0) rfl (by decide) (by decide) (by decide) (by decide) (hb hby d14_19) (pc' := 24) rfl ?_
  rintro v366 T366 L366 X366 ⟨rfl, Nq366, e366⟩
  have N366 := Fr.app N364 Nq366
  show Run p e below _ _ T366 (mkF m 24 #[.val (.ref o), .val (.ref fn)] [(.int (1 : Int32))])
  refine r_if0_eq X366.here hx (hb hby d14_24) (by decide) (pc' := 31) (by decide) (pc2 := 27) rfl (fun hc24 => absurd hc24 (by decide)) (fun hc24 => ?_)
  refine r_aloadN X366.here hx (hb hby d14_27) rfl rfl (pc' := 28) rfl ?_
  refine r_goto X366.here hx (hb hby d14_28) (by decide) (pc' := 34) (by decide) ?_
  refine r_retA X366 hx hlk hret rfl rfl (hb hby d14_34) ?_ (by decide) (by decide)
  try rw [e366]
  exact ⟨rfl, N366, rfl⟩
theorem d12_0 : decode jdk_30_method_1_code 0 = .ok (.aload_n 0, 1) := by decide +kernel
theorem d12_1 : decode jdk_30_method_1_code 1 = .ok (.invokespecial 1, 3) := by decide +kernel
theorem d12_4 : decode jdk_30_method_1_code 4 = .ok (.return_, 1) := by decide +kernel
theorem pn_7 : plainName "java/lang/Record" = true := by first | (simp [plainName, overriddenIn]; done) | decide +kernel
theorem ef_rmRec (m : MethodId) (x0 : Addr) : entryFrame m #[(.ref x0)] 1 = mkF m 0 #[.val (.ref x0)] [] := by first | (simp [entryFrame, mkF, argsToLocals, Value.category, maxLocals]; done) | rfl
set_option maxRecDepth 65536 in
set_option maxHeartbeats 40000000 in
theorem rmRec (l : Launch) (Z : State) (a0 : Array Value) (hw : ∀ d ∈ tables_1, d.before a0 Z = true) (ws : List Jvm.Cond) (a : Addr) (h0 : Heap) (n0 : Nat) (Z0 : n0 ≤ h0.size)  :
    Met l Z (⟨"java/lang/Record", "<init>", "()V"⟩ : MethodName) jdk_30_method_1_code 1 none ws ({ frames := 1, cells := 0, slots := 0, locals := 12 } : Room) #[(.ref a)] h0 (fun v h L => v = none ∧ Fr n0 L ∧ h = h0) 0 0 := by
  refine met_of (plainFor_of_name pn_7) (f0 := fun m => (mkF m 0 #[.val (.ref a)] [])) (fun m => ef_rmRec m a) ?_
  intro p e s m below meth c s₁ X0 hx hby hml hret hlk hown hnm hZ e0
  replace hown : s.vm.findClass "java/lang/Record" = some m.cls := hown
  have N0 := Fr.nil n0
  refine r_aloadN X0.here hx (hb hby d12_0) rfl rfl (pc' := 1) rfl ?_
  refine r_initO X0 hx hZ hown (hw _ (List.mem_of_getElem? (i := 58) rfl)) (hw _ (List.mem_of_getElem? (i := 16) rfl)) (hw _ (List.mem_of_getElem? (i := 17) rfl)) e0 (by rw [hml]; rfl) (by decide) (W := 0) rfl (by decide) (hb hby d12_1) (pc' := 4) rfl (fun T367 X367 e367 => ?_)
  refine r_ret0 X367 hx hlk hret (hb hby d12_4) ?_ (by decide) (by decide)
  try rw [e367]
  exact ⟨rfl, N0, rfl⟩
theorem own_nz {t : Int32} (h : t = 0 ∨ t = 1) : narrow .boolean (.int t) = .int t := by rcases h with q | q <;> rw [q] <;> rfl
theorem own_fz {t : Int32} (h : t = 0 ∨ t = 1) : fits .boolean (.int t) = true := by rcases h with q | q <;> rw [q] <;> rfl
theorem own_l12 {l : Int32} (h : l = 1 ∨ l = 2) : l.toInt = (l.toInt.toNat : Int) ∧ ¬ l = 0 := by rcases h with q | q <;> rw [q] <;> decide
theorem d11_0 : decode prog_23_method_1_code 0 = .ok (.aload_n 0, 1) := by decide +kernel
theorem d11_1 : decode prog_23_method_1_code 1 = .ok (.invokespecial 1, 3) := by decide +kernel
theorem pd_16 : parseMethodDescriptor "()V" = some ⟨[], none⟩ := by decide +kernel
theorem d11_4 : decode prog_23_method_1_code 4 = .ok (.aload_n 1, 1) := by decide +kernel
theorem d11_5 : decode prog_23_method_1_code 5 = .ok (.ldc 7, 2) := by decide +kernel
theorem d11_7 : decode prog_23_method_1_code 7 = .ok (.invokestatic 9, 3) := by decide +kernel
theorem pd_17 : parseMethodDescriptor "(Ljava/lang/Object;Ljava/lang/String;)Ljava/lang/Object;" = some ⟨[(.object "java/lang/Object"), (.object "java/lang/String")], some (.object "java/lang/Object")⟩ := by decide +kernel
theorem d11_10 : decode prog_23_method_1_code 10 = .ok (.pop, 1) := by decide +kernel
theorem d11_11 : decode prog_23_method_1_code 11 = .ok (.aload 4, 2) := by decide +kernel
theorem d11_13 : decode prog_23_method_1_code 13 = .ok (.ldc 15, 2) := by decide +kernel
theorem d11_15 : decode prog_23_method_1_code 15 = .ok (.invokestatic 9, 3) := by decide +kernel
theorem d11_18 : decode prog_23_method_1_code 18 = .ok (.checkcast 17, 3) := by decide +kernel
theorem d11_21 : decode prog_23_method_1_code 21 = .ok (.invokedynamic 19, 5) := by decide +kernel
theorem d11_26 : decode prog_23_method_1_code 26 = .ok (.invokevirtual 23, 3) := by decide +kernel
theorem pd_18 : parseMethodDescriptor "(Ljava/util/function/Predicate;)Ljava/util/Optional;" = some ⟨[(.object "java/util/function/Predicate")], some (.object "java/util/Optional")⟩ := by decide +kernel
theorem d11_29 : decode prog_23_method_1_code 29 = .ok (.astore 4, 2) := by decide +kernel
theorem d11_31 : decode prog_23_method_1_code 31 = .ok (.aload 5, 2) := by decide +kernel
theorem d11_33 : decode prog_23_method_1_code 33 = .ok (.ldc 27, 2) := by decide +kernel
theorem d11_35 : decode prog_23_method_1_code 35 = .ok (.invokestatic 9, 3) := by decide +kernel
theorem d11_38 : decode prog_23_method_1_code 38 = .ok (.checkcast 17, 3) := by decide +kernel
theorem d11_41 : decode prog_23_method_1_code 41 = .ok (.invokedynamic 29, 5) := by decide +kernel
theorem d11_46 : decode prog_23_method_1_code 46 = .ok (.invokevirtual 23, 3) := by decide +kernel
theorem d11_49 : decode prog_23_method_1_code 49 = .ok (.astore 5, 2) := by decide +kernel
theorem d11_51 : decode prog_23_method_1_code 51 = .ok (.aload_n 1, 1) := by decide +kernel
theorem d11_52 : decode prog_23_method_1_code 52 = .ok (.invokevirtual 30, 3) := by decide +kernel
theorem d11_55 : decode prog_23_method_1_code 55 = .ok (.ifCond .ne 14, 3) := by decide +kernel
theorem d11_58 : decode prog_23_method_1_code 58 = .ok (.iload_n 2, 1) := by decide +kernel
theorem d11_59 : decode prog_23_method_1_code 59 = .ok (.iconst 1, 1) := by decide +kernel
theorem d11_60 : decode prog_23_method_1_code 60 = .ok (.if_icmp .lt 9, 3) := by decide +kernel
theorem d11_63 : decode prog_23_method_1_code 63 = .ok (.iload_n 2, 1) := by decide +kernel
theorem d11_64 : decode prog_23_method_1_code 64 = .ok (.ldc 36, 2) := by decide +kernel
theorem d11_66 : decode prog_23_method_1_code 66 = .ok (.if_icmp .le 13, 3) := by decide +kernel
theorem d11_79 : decode prog_23_method_1_code 79 = .ok (.aload 4, 2) := by decide +kernel
theorem d11_81 : decode prog_23_method_1_code 81 = .ok (.invokevirtual 46, 3) := by decide +kernel
theorem d11_84 : decode prog_23_method_1_code 84 = .ok (.ifCond .eq 21, 3) := by decide +kernel
theorem d11_105 : decode prog_23_method_1_code 105 = .ok (.aload_n 0, 1) := by decide +kernel
theorem d11_106 : decode prog_23_method_1_code 106 = .ok (.aload_n 1, 1) := by decide +kernel
theorem d11_107 : decode prog_23_method_1_code 107 = .ok (.putfield 52, 3) := by decide +kernel
theorem d11_110 : decode prog_23_method_1_code 110 = .ok (.aload_n 0, 1) := by decide +kernel
theorem d11_111 : decode prog_23_method_1_code 111 = .ok (.iload_n 2, 1) := by decide +kernel
theorem d11_112 : decode prog_23_method_1_code 112 = .ok (.putfield 55, 3) := by decide +kernel
theorem d11_115 : decode prog_23_method_1_code 115 = .ok (.aload_n 0, 1) := by decide +kernel
theorem d11_116 : decode prog_23_method_1_code 116 = .ok (.iload_n 3, 1) := by decide +kernel
theorem d11_117 : decode prog_23_method_1_code 117 = .ok (.putfield 59, 3) := by decide +kernel
theorem d11_120 : decode prog_23_method_1_code 120 = .ok (.aload_n 0, 1) := by decide +kernel
theorem d11_121 : decode prog_23_method_1_code 121 = .ok (.aload 4, 2) := by decide +kernel
theorem d11_123 : decode prog_23_method_1_code 123 = .ok (.putfield 63, 3) := by decide +kernel
theorem d11_126 : decode prog_23_method_1_code 126 = .ok (.aload_n 0, 1) := by decide +kernel
theorem d11_127 : decode prog_23_method_1_code 127 = .ok (.aload 5, 2) := by decide +kernel
theorem d11_129 : decode prog_23_method_1_code 129 = .ok (.putfield 66, 3) := by decide +kernel
theorem d11_132 : decode prog_23_method_1_code 132 = .ok (.return_, 1) := by decide +kernel
theorem d11_87 : decode prog_23_method_1_code 87 = .ok (.aload 5, 2) := by decide +kernel
theorem d11_89 : decode prog_23_method_1_code 89 = .ok (.invokevirtual 49, 3) := by decide +kernel
theorem d11_92 : decode prog_23_method_1_code 92 = .ok (.ifCond .eq 13, 3) := by decide +kernel
theorem ef_rmInEE (m : MethodId) (x0 : Addr) (x1 : Addr) (x2 : Int32) (x3 : Int32) (x4 : Addr) (x5 : Addr) : entryFrame m #[(.ref x0), (.ref x1), (.int x2), (.int x3), (.ref x4), (.ref x5)] 6 = mkF m 0 #[.val (.ref x0), .val (.ref x1), .val (.int x2), .val (.int x3), .val (.ref x4), .val (.ref x5)] [] := by first | (simp [entryFrame, mkF, argsToLocals, Value.category, maxLocals]; done) | rfl
set_option maxRecDepth 65536 in
set_option maxHeartbeats 40000000 in
theorem rmInEE (l : Launch) (Z : State) (a0 : Array Value) (hw : ∀ d ∈ tables_1, d.before a0 Z = true) (ws : List Jvm.Cond) (o sa sb u pw f0 f1 : Addr) (cK0 cK1 : ClassId) (ln c0 c1 port tls : Int32) (h0 : Heap) (n0 : Nat) (Z0 : n0 ≤ h0.size) (go : n0 ≤ o) (E_o : Exa Z h0 o "com/example/lease/lease/store/RedisAddress") (F_o_host : Fld Z h0 o "com/example/lease/lease/store/RedisAddress" "host" "Ljava/lang/String;" .null) (F_o_port : Fld Z h0 o "com/example/lease/lease/store/RedisAddress" "port" "I" (.int (0 : Int32))) (F_o_tls : Fld Z h0 o "com/example/lease/lease/store/RedisAddress" "tls" "Z" (.int (0 : Int32))) (F_o_user : Fld Z h0 o "com/example/lease/lease/store/RedisAddress" "user" "Ljava/util/Optional;" .null) (F_o_password : Fld Z h0 o "com/example/lease/lease/store/RedisAddress" "password" "Ljava/util/Optional;" .null) (E_sa : Exa Z h0 sa "java/lang/String") (V_sa : Fld Z h0 sa "java/lang/String" "value" "[B" (.ref sb)) (A_sa : Ary Z h0 sb .byte ln.toInt.toNat (fun i => .int (own_g c0 c1 i))) (hl : ln = 1 ∨ ln = 2) (hp1 : 1 ≤ port.toInt) (hp2 : port.toInt ≤ 65535) (htl : tls = 0 ∨ tls = 1) (hat0 : Z.lambdaAt? (⟨"com/example/lease/lease/store/RedisAddress", "<init>", "(Ljava/lang/String;IZLjava/util/Optional;Ljava/util/Optional;)V"⟩ : MethodName) 21 19 own_sh0 = some (cK0, some f0)) (hat1 : Z.lambdaAt? (⟨"com/example/lease/lease/store/RedisAddress", "<init>", "(Ljava/lang/String;IZLjava/util/Optional;Ljava/util/Optional;)V"⟩ : MethodName) 41 29 own_sh1 = some (cK1, some f1)) (Lm0 : Lmo Z h0 f0 cK0) (Lm1 : Lmo Z h0 f1 cK1) (E_u : Exa Z h0 u "java/util/Optional") (F_u_value : Fld Z h0 u "java/util/Optional" "value" "Ljava/lang/Object;" .null) (E_pw : Exa Z h0 pw "java/util/Optional") (F_pw_value : Fld Z h0 pw "java/util/Optional" "value" "Ljava/lang/Object;" .null)  :
    MetW l Z (⟨"com/example/lease/lease/store/RedisAddress", "<init>", "(Ljava/lang/String;IZLjava/util/Optional;Ljava/util/Optional;)V"⟩ : MethodName) prog_23_method_1_code 6 none ws ({ frames := 4, cells := 6, slots := 76, locals := 3073 } : Room) #[(.ref o), (.ref sa), (.int port), (.int tls), (.ref u), (.ref pw)] h0 (fun v h L => v = none ∧ Fr n0 L ∧ Keep h0 h [o] ∧ Fld Z h o "com/example/lease/lease/store/RedisAddress" "host" "Ljava/lang/String;" (.ref sa) ∧ Fld Z h o "com/example/lease/lease/store/RedisAddress" "port" "I" (.int port)) 6 76 := by
  refine metWN_of (plainFor_of_name pn_6) (f0 := fun m => (mkF m 0 #[.val (.ref o), .val (.ref sa), .val (.int port), .val (.int tls), .val (.ref u), .val (.ref pw)] [])) (fun m => ef_rmInEE m o sa port tls u pw) ?_
  intro p e s m below meth c s₁ X0 hx hby hml hret hlk hown hnm hZ e0 hN
  replace hown : s.vm.findClass "com/example/lease/lease/store/RedisAddress" = some m.cls := hown
  have N0 := Fr.nil n0
  refine r_aloadN X0.here hx (hb hby d11_0) rfl rfl (pc' := 1) rfl ?_
  refine r_callI X0 hx hZ (y := (⟨"java/lang/Record", "<init>", "()V"⟩ : MethodName)) (rm := ({ frames := 1, cells := 0, slots := 0, locals := 12 } : Room)) hown rfl (hw _ (List.mem_of_getElem? (i := 53) rfl)) (hw _ (List.mem_of_getElem? (i := 54) rfl)) (hw _ (List.mem_of_getElem? (i := 56) rfl)) (hw _ (List.mem_of_getElem? (i := 57) rfl)) (by decide) (rmRec l Z a0 hw [] o h0 n0 Z0) e0 (by rw [hml]; rfl) (argsL := []) (rest := []) (lenOf pd_16 rfl) rfl rfl (W := 0) rfl (by decide) (by decide) (by decide) (by decide) (hb hby d11_1) (pc' := 4) rfl ?_
  rintro v368 T368 L368 X368 ⟨rfl, Nq368, e368⟩
  have N368 := Fr.app N0 Nq368
  show Run p e below _ _ T368 (mkF m 4 #[.val (.ref o), .val (.ref sa), .val (.int port), .val (.int tls), .val (.ref u), .val (.ref pw)] [])
  refine r_aloadN X368.here hx (hb hby d11_4) rfl rfl (pc' := 5) rfl ?_
  refine r_ldcS (s := s) (vm0 := s.vm) X368 hx hZ hown (hw _ (List.mem_of_getElem? (i := 59) rfl)) (own_sa hw) e368 ((State.WarmedH.refl s).since 0) (Nat.zero_le _) (nn := 16) (by decide) (by decide) (by decide) (by decide) (hb hby d11_5) (pc' := 7) rfl (fun b369 T369 h369 k369 X369 e369 E369 hS369 hk369 hZ369 hown369 => ?_)
  have K370 : Keep h0 h0 [o] := Keep.refl _ _
  have K371 := K370.ext E369
  have f372 := E_o.ext E369
  have f373 := F_o_host.ext E369
  have f374 := F_o_port.ext E369
  have f375 := F_o_tls.ext E369
  have f376 := F_o_user.ext E369
  have f377 := F_o_password.ext E369
  have f378 := E_sa.ext E369
  have f379 := V_sa.ext E369
  have f380 := A_sa.ext E369
  have f381 := Lm0.ext E369
  have f382 := Lm1.ext E369
  have f383 := E_u.ext E369
  have f384 := F_u_value.ext E369
  have f385 := E_pw.ext E369
  have f386 := F_pw_value.ext E369
  have Z387 : n0 ≤ h369.size := by have q := Z0; exact Nat.le_trans q E369.1
  refine r_callS X369 hx hZ369 (y := (⟨"java/util/Objects", "requireNonNull", "(Ljava/lang/Object;Ljava/lang/String;)Ljava/lang/Object;"⟩ : MethodName)) (rm := ({ frames := 0, cells := 0, slots := 0, locals := 0 } : Room)) hown369 (hw _ (List.mem_of_getElem? (i := 62) rfl)) (hw _ (List.mem_of_getElem? (i := 63) rfl)) (hw _ (List.mem_of_getElem? (i := 64) rfl)) (hw _ (List.mem_of_getElem? (i := 65) rfl)) (by decide) (rmR2 l Z a0 hw [] sa b369 h369 n0 Z387) e369 (by rw [hml]; rfl) (argsL := [(.ref sa), (.ref b369)]) (rest := []) (lenOf pd_17 rfl) rfl rfl (W := 0) rfl (by decide) (by decide) (by decide) (by decide) (hb hby d11_7) (pc' := 10) rfl ?_
  rintro v388 T388 L388 X388 ⟨rfl, Nq388, e388⟩
  have N388 := Fr.app N368 Nq388
  show Run p e below _ _ T388 (mkF m 10 #[.val (.ref o), .val (.ref sa), .val (.int port), .val (.int tls), .val (.ref u), .val (.ref pw)] [(.ref sa)])
  refine r_pop X388.here hx (hb hby d11_10) rfl (pc' := 11) rfl ?_
  refine r_aload X388.here hx (hb hby d11_11) rfl rfl (pc' := 13) rfl ?_
  refine r_ldcS (s := s) (vm0 := T369.vm) X388 hx hZ369 hown369 (hw _ (List.mem_of_getElem? (i := 66) rfl)) (own_sa hw) e388 hS369 hk369 (nn := 16) (by decide) (by decide) (by decide) (by decide) (hb hby d11_13) (pc' := 15) rfl (fun b389 T389 h389 k389 X389 e389 E389 hS389 hk389 hZ389 hown389 => ?_)
  have K390 := K371.ext E389
  have f391 := f372.ext E389
  have f392 := f373.ext E389
  have f393 := f374.ext E389
  have f394 := f375.ext E389
  have f395 := f376.ext E389
  have f396 := f377.ext E389
  have f397 := f378.ext E389
  have f398 := f379.ext E389
  have f399 := f380.ext E389
  have f400 := f381.ext E389
  have f401 := f382.ext E389
  have f402 := f383.ext E389
  have f403 := f384.ext E389
  have f404 := f385.ext E389
  have f405 := f386.ext E389
  have Z406 : n0 ≤ h389.size := by have q := Z387; exact Nat.le_trans q E389.1
  refine r_callS X389 hx hZ389 (y := (⟨"java/util/Objects", "requireNonNull", "(Ljava/lang/Object;Ljava/lang/String;)Ljava/lang/Object;"⟩ : MethodName)) (rm := ({ frames := 0, cells := 0, slots := 0, locals := 0 } : Room)) hown389 (hw _ (List.mem_of_getElem? (i := 62) rfl)) (hw _ (List.mem_of_getElem? (i := 63) rfl)) (hw _ (List.mem_of_getElem? (i := 64) rfl)) (hw _ (List.mem_of_getElem? (i := 65) rfl)) (by decide) (rmR2 l Z a0 hw [] u b389 h389 n0 Z406) e389 (by rw [hml]; rfl) (argsL := [(.ref u), (.ref b389)]) (rest := []) (lenOf pd_17 rfl) rfl rfl (W := 0) rfl (by decide) (by decide) (by decide) (by decide) (hb hby d11_15) (pc' := 18) rfl ?_
  rintro v407 T407 L407 X407 ⟨rfl, Nq407, e407⟩
  have N407 := Fr.app N388 Nq407
  show Run p e below _ _ T407 (mkF m 18 #[.val (.ref o), .val (.ref sa), .val (.int port), .val (.int tls), .val (.ref u), .val (.ref pw)] [(.ref u)])
  refine r_castY X407 hx hZ389 hown389 (hw _ (List.mem_of_getElem? (i := 67) rfl)) e407 (Ins.of_exa f402 (hw _ (List.mem_of_getElem? (i := 68) rfl))) (hb hby d11_18) (pc' := 21) rfl (fun T408 X408 e408 => ?_)
  refine r_indyK X408 hx hZ389 (own_nmd hS389 hN) hat0 (by rw [hml]; rfl) (W := 1) rfl (by decide) (hb hby d11_21) (pc' := 26) rfl ?_
  refine r_callV X408 hx hZ389 (y := (⟨"java/util/Optional", "filter", "(Ljava/util/function/Predicate;)Ljava/util/Optional;"⟩ : MethodName)) (z := (⟨"java/util/Optional", "filter", "(Ljava/util/function/Predicate;)Ljava/util/Optional;"⟩ : MethodName)) (rm := ({ frames := 1, cells := 0, slots := 0, locals := 12 } : Room)) hown389 (hw _ (List.mem_of_getElem? (i := 72) rfl)) (hw _ (List.mem_of_getElem? (i := 73) rfl)) (notFace_of_selects (args := #[]) (mvT hZ389 (hw _ (List.mem_of_getElem? (i := 75) rfl)))) (hw _ (List.mem_of_getElem? (i := 75) rfl)) (hw _ (List.mem_of_getElem? (i := 74) rfl)) (hw _ (List.mem_of_getElem? (i := 44) rfl)) (hw _ (List.mem_of_getElem? (i := 76) rfl)) (by decide) (rmFlE l Z a0 hw [] u f0 h389 n0 Z406 f402 f403) e408 f402 (by rw [hml]; rfl) (argsL := [(.ref f0)]) (rest := []) (lenOf pd_18 rfl) rfl rfl (W := 0) rfl (by decide) (by decide) (by decide) (by decide) (hb hby d11_26) (pc' := 29) rfl ?_
  rintro v410 T410 L410 X410 ⟨rfl, Nq410, e410⟩
  have N410 := Fr.app N407 Nq410
  show Run p e below _ _ T410 (mkF m 29 #[.val (.ref o), .val (.ref sa), .val (.int port), .val (.int tls), .val (.ref u), .val (.ref pw)] [(.ref u)])
  refine r_astore X410.here hx (hb hby d11_29) rfl (l' := #[.val (.ref o), .val (.ref sa), .val (.int port), .val (.int tls), .val (.ref u), .val (.ref pw)]) rfl (pc' := 31) rfl ?_
  refine r_aload X410.here hx (hb hby d11_31) rfl rfl (pc' := 33) rfl ?_
  refine r_ldcS (s := s) (vm0 := T389.vm) X410 hx hZ389 hown389 (hw _ (List.mem_of_getElem? (i := 87) rfl)) (own_sa hw) e410 hS389 hk389 (nn := 32) (by decide) (by decide) (by decide) (by decide) (hb hby d11_33) (pc' := 35) rfl (fun b411 T411 h411 k411 X411 e411 E411 hS411 hk411 hZ411 hown411 => ?_)
  have K412 := K390.ext E411
  have f413 := f391.ext E411
  have f414 := f392.ext E411
  have f415 := f393.ext E411
  have f416 := f394.ext E411
  have f417 := f395.ext E411
  have f418 := f396.ext E411
  have f419 := f397.ext E411
  have f420 := f398.ext E411
  have f421 := f399.ext E411
  have f422 := f400.ext E411
  have f423 := f401.ext E411
  have f424 := f402.ext E411
  have f425 := f403.ext E411
  have f426 := f404.ext E411
  have f427 := f405.ext E411
  have Z428 : n0 ≤ h411.size := by have q := Z406; exact Nat.le_trans q E411.1
  refine r_callS X411 hx hZ411 (y := (⟨"java/util/Objects", "requireNonNull", "(Ljava/lang/Object;Ljava/lang/String;)Ljava/lang/Object;"⟩ : MethodName)) (rm := ({ frames := 0, cells := 0, slots := 0, locals := 0 } : Room)) hown411 (hw _ (List.mem_of_getElem? (i := 62) rfl)) (hw _ (List.mem_of_getElem? (i := 63) rfl)) (hw _ (List.mem_of_getElem? (i := 64) rfl)) (hw _ (List.mem_of_getElem? (i := 65) rfl)) (by decide) (rmR2 l Z a0 hw [] pw b411 h411 n0 Z428) e411 (by rw [hml]; rfl) (argsL := [(.ref pw), (.ref b411)]) (rest := []) (lenOf pd_17 rfl) rfl rfl (W := 0) rfl (by decide) (by decide) (by decide) (by decide) (hb hby d11_35) (pc' := 38) rfl ?_
  rintro v429 T429 L429 X429 ⟨rfl, Nq429, e429⟩
  have N429 := Fr.app N410 Nq429
  show Run p e below _ _ T429 (mkF m 38 #[.val (.ref o), .val (.ref sa), .val (.int port), .val (.int tls), .val (.ref u), .val (.ref pw)] [(.ref pw)])
  refine r_castY X429 hx hZ411 hown411 (hw _ (List.mem_of_getElem? (i := 67) rfl)) e429 (Ins.of_exa f426 (hw _ (List.mem_of_getElem? (i := 68) rfl))) (hb hby d11_38) (pc' := 41) rfl (fun T430 X430 e430 => ?_)
  refine r_indyK X430 hx hZ411 (own_nmd hS411 hN) hat1 (by rw [hml]; rfl) (W := 1) rfl (by decide) (hb hby d11_41) (pc' := 46) rfl ?_
  refine r_callV X430 hx hZ411 (y := (⟨"java/util/Optional", "filter", "(Ljava/util/function/Predicate;)Ljava/util/Optional;"⟩ : MethodName)) (z := (⟨"java/util/Optional", "filter", "(Ljava/util/function/Predicate;)Ljava/util/Optional;"⟩ : MethodName)) (rm := ({ frames := 1, cells := 0, slots := 0, locals := 12 } : Room)) hown411 (hw _ (List.mem_of_getElem? (i := 72) rfl)) (hw _ (List.mem_of_getElem? (i := 73) rfl)) (notFace_of_selects (args := #[]) (mvT hZ411 (hw _ (List.mem_of_getElem? (i := 75) rfl)))) (hw _ (List.mem_of_getElem? (i := 75) rfl)) (hw _ (List.mem_of_getElem? (i := 74) rfl)) (hw _ (List.mem_of_getElem? (i := 44) rfl)) (hw _ (List.mem_of_getElem? (i := 76) rfl)) (by decide) (rmFlE l Z a0 hw [] pw f1 h411 n0 Z428 f426 f427) e430 f426 (by rw [hml]; rfl) (argsL := [(.ref f1)]) (rest := []) (lenOf pd_18 rfl) rfl rfl (W := 0) rfl (by decide) (by decide) (by decide) (by decide) (hb hby d11_46) (pc' := 49) rfl ?_
  rintro v432 T432 L432 X432 ⟨rfl, Nq432, e432⟩
  have N432 := Fr.app N429 Nq432
  show Run p e below _ _ T432 (mkF m 49 #[.val (.ref o), .val (.ref sa), .val (.int port), .val (.int tls), .val (.ref u), .val (.ref pw)] [(.ref pw)])
  refine r_astore X432.here hx (hb hby d11_49) rfl (l' := #[.val (.ref o), .val (.ref sa), .val (.int port), .val (.int tls), .val (.ref u), .val (.ref pw)]) rfl (pc' := 51) rfl ?_
  refine r_aloadN X432.here hx (hb hby d11_51) rfl rfl (pc' := 52) rfl ?_
  refine r_callV X432 hx hZ411 (y := (⟨"java/lang/String", "isEmpty", "()Z"⟩ : MethodName)) (z := (⟨"java/lang/String", "isEmpty", "()Z"⟩ : MethodName)) (rm := ({ frames := 0, cells := 0, slots := 0, locals := 0 } : Room)) hown411 (hw _ (List.mem_of_getElem? (i := 89) rfl)) (hw _ (List.mem_of_getElem? (i := 90) rfl)) (notFace_of_selects (args := #[]) (mvT hZ411 (hw _ (List.mem_of_getElem? (i := 92) rfl)))) (hw _ (List.mem_of_getElem? (i := 92) rfl)) (hw _ (List.mem_of_getElem? (i := 91) rfl)) (hw _ (List.mem_of_getElem? (i := 6) rfl)) (hw _ (List.mem_of_getElem? (i := 93) rfl)) (by decide) (rmIE l Z a0 hw [] sa sb _ ln _ h411 n0 Z428 f420 f421 (own_l12 hl).1 (own_l12 hl).2) e432 f419 (by rw [hml]; rfl) (argsL := []) (rest := []) (lenOf pd_13 rfl) rfl rfl (W := 0) rfl (by decide) (by decide) (by decide) (by decide) (hb hby d11_52) (pc' := 55) rfl ?_
  rintro v433 T433 L433 X433 ⟨rfl, Nq433, e433⟩
  have N433 := Fr.app N432 Nq433
  show Run p e below _ _ T433 (mkF m 55 #[.val (.ref o), .val (.ref sa), .val (.int port), .val (.int tls), .val (.ref u), .val (.ref pw)] [(.int (0 : Int32))])
  refine r_if0_ne X433.here hx (hb hby d11_55) (by decide) (pc' := 69) (by decide) (pc2 := 58) rfl (fun hc55 => absurd rfl hc55) (fun hc55 => ?_)
  refine r_iloadN X433.here hx (hb hby d11_58) rfl (pc' := 59) rfl ?_
  refine r_iconst X433.here hx (hb hby d11_59) (v := 1) rfl (pc' := 60) rfl ?_
  refine r_if_lt X433.here hx (hb hby d11_60) (by decide) (pc' := 69) (by decide) (pc2 := 63) rfl (fun hc60 => absurd hc60 (Int.not_lt.mpr (show (1 : Int32).toInt ≤ port.toInt from hp1))) (fun hc60 => ?_)
  refine r_iloadN X433.here hx (hb hby d11_63) rfl (pc' := 64) rfl ?_
  refine r_ldc X433 hx hZ411 hown411 (hw _ (List.mem_of_getElem? (i := 94) rfl)) (hb hby d11_64) (pc' := 66) rfl ?_
  refine r_if_le X433.here hx (hb hby d11_66) (by decide) (pc' := 79) (by decide) (pc2 := 69) rfl (fun hc66 => ?_) (fun hc66 => absurd (show port.toInt ≤ (65535 : Int32).toInt from hp2) hc66)
  refine r_aload X433.here hx (hb hby d11_79) rfl rfl (pc' := 81) rfl ?_
  refine r_callV X433 hx hZ411 (y := (⟨"java/util/Optional", "isPresent", "()Z"⟩ : MethodName)) (z := (⟨"java/util/Optional", "isPresent", "()Z"⟩ : MethodName)) (rm := ({ frames := 0, cells := 0, slots := 0, locals := 0 } : Room)) hown411 (hw _ (List.mem_of_getElem? (i := 95) rfl)) (hw _ (List.mem_of_getElem? (i := 96) rfl)) (notFace_of_selects (args := #[]) (mvT hZ411 (hw _ (List.mem_of_getElem? (i := 98) rfl)))) (hw _ (List.mem_of_getElem? (i := 98) rfl)) (hw _ (List.mem_of_getElem? (i := 97) rfl)) (hw _ (List.mem_of_getElem? (i := 44) rfl)) (hw _ (List.mem_of_getElem? (i := 99) rfl)) (by decide) (rm_isPresentE l Z a0 hw [] u h411 n0 Z428 f424 f425) e433 f424 (by rw [hml]; rfl) (argsL := []) (rest := []) (lenOf pd_13 rfl) rfl rfl (W := 0) rfl (by decide) (by decide) (by decide) (by decide) (hb hby d11_81) (pc' := 84) rfl ?_
  rintro v434 T434 L434 X434 ⟨rfl, Nq434, e434⟩
  have N434 := Fr.app N433 Nq434
  show Run p e below _ _ T434 (mkF m 84 #[.val (.ref o), .val (.ref sa), .val (.int port), .val (.int tls), .val (.ref u), .val (.ref pw)] [(.int (0 : Int32))])
  refine r_if0_eq X434.here hx (hb hby d11_84) (by decide) (pc' := 105) (by decide) (pc2 := 87) rfl (fun hc84 => ?_) (fun hc84 => absurd rfl hc84)
  refine r_aloadN X434.here hx (hb hby d11_105) rfl rfl (pc' := 106) rfl ?_
  refine r_aloadN X434.here hx (hb hby d11_106) rfl rfl (pc' := 107) rfl ?_
  refine r_putF X434 hx hZ411 hown411 (hw _ (List.mem_of_getElem? (i := 100) rfl)) Via.refl e434 f414 f413 (Or.inr ⟨(hw _ (List.mem_of_getElem? (i := 101) rfl)), rfl, hnm⟩) (hw _ (List.mem_of_getElem? (i := 37) rfl)) (ty := (.object "java/lang/String")) (by decide) rfl rfl (hb hby d11_107) (pc' := 110) rfl (fun T435 h435 X435 e435 W435 => ?_)
  have f436 := f414.same W435
  have K437 := K412.wr W435 (Or.inl (List.mem_of_getElem? (i := 0) rfl))
  have f438 := f413.wr W435
  have f439 := f415.other W435 (Or.inr (slot_ne (Or.inr (hw _ (List.mem_of_getElem? (i := 103) rfl)) : Laid Z a0 "com/example/lease/lease/store/RedisAddress" "com/example/lease/lease/store/RedisAddress" "port" "I") (Or.inr (hw _ (List.mem_of_getElem? (i := 101) rfl)) : Laid Z a0 "com/example/lease/lease/store/RedisAddress" "com/example/lease/lease/store/RedisAddress" "host" "Ljava/lang/String;") (by decide) (t := .int) (t' := (.object "java/lang/String")) (by decide) (by decide)))
  have f440 := f416.other W435 (Or.inr (slot_ne (Or.inr (hw _ (List.mem_of_getElem? (i := 105) rfl)) : Laid Z a0 "com/example/lease/lease/store/RedisAddress" "com/example/lease/lease/store/RedisAddress" "tls" "Z") (Or.inr (hw _ (List.mem_of_getElem? (i := 101) rfl)) : Laid Z a0 "com/example/lease/lease/store/RedisAddress" "com/example/lease/lease/store/RedisAddress" "host" "Ljava/lang/String;") (by decide) (t := .boolean) (t' := (.object "java/lang/String")) (by decide) (by decide)))
  have f441 := f417.other W435 (Or.inr (slot_ne (Or.inr (hw _ (List.mem_of_getElem? (i := 107) rfl)) : Laid Z a0 "com/example/lease/lease/store/RedisAddress" "com/example/lease/lease/store/RedisAddress" "user" "Ljava/util/Optional;") (Or.inr (hw _ (List.mem_of_getElem? (i := 101) rfl)) : Laid Z a0 "com/example/lease/lease/store/RedisAddress" "com/example/lease/lease/store/RedisAddress" "host" "Ljava/lang/String;") (by decide) (t := (.object "java/util/Optional")) (t' := (.object "java/lang/String")) (by decide) (by decide)))
  have f442 := f418.other W435 (Or.inr (slot_ne (Or.inr (hw _ (List.mem_of_getElem? (i := 109) rfl)) : Laid Z a0 "com/example/lease/lease/store/RedisAddress" "com/example/lease/lease/store/RedisAddress" "password" "Ljava/util/Optional;") (Or.inr (hw _ (List.mem_of_getElem? (i := 101) rfl)) : Laid Z a0 "com/example/lease/lease/store/RedisAddress" "com/example/lease/lease/store/RedisAddress" "host" "Ljava/lang/String;") (by decide) (t := (.object "java/util/Optional")) (t' := (.object "java/lang/String")) (by decide) (by decide)))
  have Z443 : n0 ≤ h435.size := by have q := Z428; rw [W435.size]; exact q
  have hk444 : k411 ≤ h435.size := by have q := hk411; rw [W435.size]; exact q
  have N435 := Fr.snoc X435 N434 go
  refine r_aloadN X435.here hx (hb hby d11_110) rfl rfl (pc' := 111) rfl ?_
  refine r_iloadN X435.here hx (hb hby d11_111) rfl (pc' := 112) rfl ?_
  refine r_putF X435 hx hZ411 hown411 (hw _ (List.mem_of_getElem? (i := 102) rfl)) Via.refl e435 f439 f438 (Or.inr ⟨(hw _ (List.mem_of_getElem? (i := 103) rfl)), rfl, hnm⟩) (hw _ (List.mem_of_getElem? (i := 37) rfl)) (ty := .int) (by decide) rfl rfl (hb hby d11_112) (pc' := 115) rfl (fun T445 h445 X445 e445 W445 => ?_)
  have f446 := f439.same W445
  have K447 := K437.wr W445 (Or.inl (List.mem_of_getElem? (i := 0) rfl))
  have f448 := f438.wr W445
  have f449 := f440.other W445 (Or.inr (slot_ne (Or.inr (hw _ (List.mem_of_getElem? (i := 105) rfl)) : Laid Z a0 "com/example/lease/lease/store/RedisAddress" "com/example/lease/lease/store/RedisAddress" "tls" "Z") (Or.inr (hw _ (List.mem_of_getElem? (i := 103) rfl)) : Laid Z a0 "com/example/lease/lease/store/RedisAddress" "com/example/lease/lease/store/RedisAddress" "port" "I") (by decide) (t := .boolean) (t' := .int) (by decide) (by decide)))
  have f450 := f441.other W445 (Or.inr (slot_ne (Or.inr (hw _ (List.mem_of_getElem? (i := 107) rfl)) : Laid Z a0 "com/example/lease/lease/store/RedisAddress" "com/example/lease/lease/store/RedisAddress" "user" "Ljava/util/Optional;") (Or.inr (hw _ (List.mem_of_getElem? (i := 103) rfl)) : Laid Z a0 "com/example/lease/lease/store/RedisAddress" "com/example/lease/lease/store/RedisAddress" "port" "I") (by decide) (t := (.object "java/util/Optional")) (t' := .int) (by decide) (by decide)))
  have f451 := f442.other W445 (Or.inr (slot_ne (Or.inr (hw _ (List.mem_of_getElem? (i := 109) rfl)) : Laid Z a0 "com/example/lease/lease/store/RedisAddress" "com/example/lease/lease/store/RedisAddress" "password" "Ljava/util/Optional;") (Or.inr (hw _ (List.mem_of_getElem? (i := 103) rfl)) : Laid Z a0 "com/example/lease/lease/store/RedisAddress" "com/example/lease/lease/store/RedisAddress" "port" "I") (by decide) (t := (.object "java/util/Optional")) (t' := .int) (by decide) (by decide)))
  have f452 := f436.other W445 (Or.inr (slot_ne (Or.inr (hw _ (List.mem_of_getElem? (i := 101) rfl)) : Laid Z a0 "com/example/lease/lease/store/RedisAddress" "com/example/lease/lease/store/RedisAddress" "host" "Ljava/lang/String;") (Or.inr (hw _ (List.mem_of_getElem? (i := 103) rfl)) : Laid Z a0 "com/example/lease/lease/store/RedisAddress" "com/example/lease/lease/store/RedisAddress" "port" "I") (by decide) (t := (.object "java/lang/String")) (t' := .int) (by decide) (by decide)))
  have Z453 : n0 ≤ h445.size := by have q := Z443; rw [W445.size]; exact q
  have hk454 : k411 ≤ h445.size := by have q := hk444; rw [W445.size]; exact q
  have N445 := Fr.snoc X445 N435 go
  refine r_aloadN X445.here hx (hb hby d11_115) rfl rfl (pc' := 116) rfl ?_
  refine r_iloadN X445.here hx (hb hby d11_116) rfl (pc' := 117) rfl ?_
  refine r_putFN X445 hx hZ411 hown411 (hw _ (List.mem_of_getElem? (i := 104) rfl)) Via.refl e445 f449 f448 (Or.inr ⟨(hw _ (List.mem_of_getElem? (i := 105) rfl)), rfl, hnm⟩) (hw _ (List.mem_of_getElem? (i := 37) rfl)) (ty := .boolean) (v' := (.int tls)) (by decide) (own_nz htl) (own_fz htl) (hb hby d11_117) (pc' := 120) rfl (fun T455 h455 X455 e455 W455 => ?_)
  have f456 := f449.same W455
  have K457 := K447.wr W455 (Or.inl (List.mem_of_getElem? (i := 0) rfl))
  have f458 := f448.wr W455
  have f459 := f450.other W455 (Or.inr (slot_ne (Or.inr (hw _ (List.mem_of_getElem? (i := 107) rfl)) : Laid Z a0 "com/example/lease/lease/store/RedisAddress" "com/example/lease/lease/store/RedisAddress" "user" "Ljava/util/Optional;") (Or.inr (hw _ (List.mem_of_getElem? (i := 105) rfl)) : Laid Z a0 "com/example/lease/lease/store/RedisAddress" "com/example/lease/lease/store/RedisAddress" "tls" "Z") (by decide) (t := (.object "java/util/Optional")) (t' := .boolean) (by decide) (by decide)))
  have f460 := f451.other W455 (Or.inr (slot_ne (Or.inr (hw _ (List.mem_of_getElem? (i := 109) rfl)) : Laid Z a0 "com/example/lease/lease/store/RedisAddress" "com/example/lease/lease/store/RedisAddress" "password" "Ljava/util/Optional;") (Or.inr (hw _ (List.mem_of_getElem? (i := 105) rfl)) : Laid Z a0 "com/example/lease/lease/store/RedisAddress" "com/example/lease/lease/store/RedisAddress" "tls" "Z") (by decide) (t := (.object "java/util/Optional")) (t' := .boolean) (by decide) (by decide)))
  have f461 := f452.other W455 (Or.inr (slot_ne (Or.inr (hw _ (List.mem_of_getElem? (i := 101) rfl)) : Laid Z a0 "com/example/lease/lease/store/RedisAddress" "com/example/lease/lease/store/RedisAddress" "host" "Ljava/lang/String;") (Or.inr (hw _ (List.mem_of_getElem? (i := 105) rfl)) : Laid Z a0 "com/example/lease/lease/store/RedisAddress" "com/example/lease/lease/store/RedisAddress" "tls" "Z") (by decide) (t := (.object "java/lang/String")) (t' := .boolean) (by decide) (by decide)))
  have f462 := f446.other W455 (Or.inr (slot_ne (Or.inr (hw _ (List.mem_of_getElem? (i := 103) rfl)) : Laid Z a0 "com/example/lease/lease/store/RedisAddress" "com/example/lease/lease/store/RedisAddress" "port" "I") (Or.inr (hw _ (List.mem_of_getElem? (i := 105) rfl)) : Laid Z a0 "com/example/lease/lease/store/RedisAddress" "com/example/lease/lease/store/RedisAddress" "tls" "Z") (by decide) (t := .int) (t' := .boolean) (by decide) (by decide)))
  have Z463 : n0 ≤ h455.size := by have q := Z453; rw [W455.size]; exact q
  have hk464 : k411 ≤ h455.size := by have q := hk454; rw [W455.size]; exact q
  have N455 := Fr.snoc X455 N445 go
  refine r_aloadN X455.here hx (hb hby d11_120) rfl rfl (pc' := 121) rfl ?_
  refine r_aload X455.here hx (hb hby d11_121) rfl rfl (pc' := 123) rfl ?_
  refine r_putF X455 hx hZ411 hown411 (hw _ (List.mem_of_getElem? (i := 106) rfl)) Via.refl e455 f459 f458 (Or.inr ⟨(hw _ (List.mem_of_getElem? (i := 107) rfl)), rfl, hnm⟩) (hw _ (List.mem_of_getElem? (i := 37) rfl)) (ty := (.object "java/util/Optional")) (by decide) rfl rfl (hb hby d11_123) (pc' := 126) rfl (fun T465 h465 X465 e465 W465 => ?_)
  have f466 := f459.same W465
  have K467 := K457.wr W465 (Or.inl (List.mem_of_getElem? (i := 0) rfl))
  have f468 := f458.wr W465
  have f469 := f460.other W465 (Or.inr (slot_ne (Or.inr (hw _ (List.mem_of_getElem? (i := 109) rfl)) : Laid Z a0 "com/example/lease/lease/store/RedisAddress" "com/example/lease/lease/store/RedisAddress" "password" "Ljava/util/Optional;") (Or.inr (hw _ (List.mem_of_getElem? (i := 107) rfl)) : Laid Z a0 "com/example/lease/lease/store/RedisAddress" "com/example/lease/lease/store/RedisAddress" "user" "Ljava/util/Optional;") (by decide) (t := (.object "java/util/Optional")) (t' := (.object "java/util/Optional")) (by decide) (by decide)))
  have f470 := f461.other W465 (Or.inr (slot_ne (Or.inr (hw _ (List.mem_of_getElem? (i := 101) rfl)) : Laid Z a0 "com/example/lease/lease/store/RedisAddress" "com/example/lease/lease/store/RedisAddress" "host" "Ljava/lang/String;") (Or.inr (hw _ (List.mem_of_getElem? (i := 107) rfl)) : Laid Z a0 "com/example/lease/lease/store/RedisAddress" "com/example/lease/lease/store/RedisAddress" "user" "Ljava/util/Optional;") (by decide) (t := (.object "java/lang/String")) (t' := (.object "java/util/Optional")) (by decide) (by decide)))
  have f471 := f462.other W465 (Or.inr (slot_ne (Or.inr (hw _ (List.mem_of_getElem? (i := 103) rfl)) : Laid Z a0 "com/example/lease/lease/store/RedisAddress" "com/example/lease/lease/store/RedisAddress" "port" "I") (Or.inr (hw _ (List.mem_of_getElem? (i := 107) rfl)) : Laid Z a0 "com/example/lease/lease/store/RedisAddress" "com/example/lease/lease/store/RedisAddress" "user" "Ljava/util/Optional;") (by decide) (t := .int) (t' := (.object "java/util/Optional")) (by decide) (by decide)))
  have f472 := f456.other W465 (Or.inr (slot_ne (Or.inr (hw _ (List.mem_of_getElem? (i := 105) rfl)) : Laid Z a0 "com/example/lease/lease/store/RedisAddress" "com/example/lease/lease/store/RedisAddress" "tls" "Z") (Or.inr (hw _ (List.mem_of_getElem? (i := 107) rfl)) : Laid Z a0 "com/example/lease/lease/store/RedisAddress" "com/example/lease/lease/store/RedisAddress" "user" "Ljava/util/Optional;") (by decide) (t := .boolean) (t' := (.object "java/util/Optional")) (by decide) (by decide)))
  have Z473 : n0 ≤ h465.size := by have q := Z463; rw [W465.size]; exact q
  have hk474 : k411 ≤ h465.size := by have q := hk464; rw [W465.size]; exact q
  have N465 := Fr.snoc X465 N455 go
  refine r_aloadN X465.here hx (hb hby d11_126) rfl rfl (pc' := 127) rfl ?_
  refine r_aload X465.here hx (hb hby d11_127) rfl rfl (pc' := 129) rfl ?_
  refine r_putF X465 hx hZ411 hown411 (hw _ (List.mem_of_getElem? (i := 108) rfl)) Via.refl e465 f469 f468 (Or.inr ⟨(hw _ (List.mem_of_getElem? (i := 109) rfl)), rfl, hnm⟩) (hw _ (List.mem_of_getElem? (i := 37) rfl)) (ty := (.object "java/util/Optional")) (by decide) rfl rfl (hb hby d11_129) (pc' := 132) rfl (fun T475 h475 X475 e475 W475 => ?_)
  have f476 := f469.same W475
  have K477 := K467.wr W475 (Or.inl (List.mem_of_getElem? (i := 0) rfl))
  have f478 := f468.wr W475
  have f479 := f470.other W475 (Or.inr (slot_ne (Or.inr (hw _ (List.mem_of_getElem? (i := 101) rfl)) : Laid Z a0 "com/example/lease/lease/store/RedisAddress" "com/example/lease/lease/store/RedisAddress" "host" "Ljava/lang/String;") (Or.inr (hw _ (List.mem_of_getElem? (i := 109) rfl)) : Laid Z a0 "com/example/lease/lease/store/RedisAddress" "com/example/lease/lease/store/RedisAddress" "password" "Ljava/util/Optional;") (by decide) (t := (.object "java/lang/String")) (t' := (.object "java/util/Optional")) (by decide) (by decide)))
  have f480 := f471.other W475 (Or.inr (slot_ne (Or.inr (hw _ (List.mem_of_getElem? (i := 103) rfl)) : Laid Z a0 "com/example/lease/lease/store/RedisAddress" "com/example/lease/lease/store/RedisAddress" "port" "I") (Or.inr (hw _ (List.mem_of_getElem? (i := 109) rfl)) : Laid Z a0 "com/example/lease/lease/store/RedisAddress" "com/example/lease/lease/store/RedisAddress" "password" "Ljava/util/Optional;") (by decide) (t := .int) (t' := (.object "java/util/Optional")) (by decide) (by decide)))
  have f481 := f472.other W475 (Or.inr (slot_ne (Or.inr (hw _ (List.mem_of_getElem? (i := 105) rfl)) : Laid Z a0 "com/example/lease/lease/store/RedisAddress" "com/example/lease/lease/store/RedisAddress" "tls" "Z") (Or.inr (hw _ (List.mem_of_getElem? (i := 109) rfl)) : Laid Z a0 "com/example/lease/lease/store/RedisAddress" "com/example/lease/lease/store/RedisAddress" "password" "Ljava/util/Optional;") (by decide) (t := .boolean) (t' := (.object "java/util/Optional")) (by decide) (by decide)))
  have f482 := f466.other W475 (Or.inr (slot_ne (Or.inr (hw _ (List.mem_of_getElem? (i := 107) rfl)) : Laid Z a0 "com/example/lease/lease/store/RedisAddress" "com/example/lease/lease/store/RedisAddress" "user" "Ljava/util/Optional;") (Or.inr (hw _ (List.mem_of_getElem? (i := 109) rfl)) : Laid Z a0 "com/example/lease/lease/store/RedisAddress" "com/example/lease/lease/store/RedisAddress" "password" "Ljava/util/Optional;") (by decide) (t := (.object "java/util/Optional")) (t' := (.object "java/util/Optional")) (by decide) (by decide)))
  have Z483 : n0 ≤ h475.size := by have q := Z473; rw [W475.size]; exact q
  have hk484 : k411 ≤ h475.size := by have q := hk474; rw [W475.size]; exact q
  have N475 := Fr.snoc X475 N465 go
  refine w_ret0 (s := s) (vm1 := T411.vm) X475 hS411 (by rw [e475]; exact hk484) hx hlk hret (hb hby d11_132) ?_ (by decide) (by decide)
  try rw [e475]
  exact ⟨rfl, N475, K477, f479, f480⟩
theorem ef_rmInEP (m : MethodId) (x0 : Addr) (x1 : Addr) (x2 : Int32) (x3 : Int32) (x4 : Addr) (x5 : Addr) : entryFrame m #[(.ref x0), (.ref x1), (.int x2), (.int x3), (.ref x4), (.ref x5)] 6 = mkF m 0 #[.val (.ref x0), .val (.ref x1), .val (.int x2), .val (.int x3), .val (.ref x4), .val (.ref x5)] [] := by first | (simp [entryFrame, mkF, argsToLocals, Value.category, maxLocals]; done) | rfl
set_option maxRecDepth 65536 in
set_option maxHeartbeats 40000000 in
theorem rmInEP (l : Launch) (Z : State) (a0 : Array Value) (hw : ∀ d ∈ tables_1, d.before a0 Z = true) (ws : List Jvm.Cond) (o sa sb u pw f0 f1 : Addr) (cK0 cK1 : ClassId) (ln c0 c1 port tls : Int32) (sp bp : Addr) (fp : Nat → Value) (h0 : Heap) (n0 : Nat) (Z0 : n0 ≤ h0.size) (go : n0 ≤ o) (E_o : Exa Z h0 o "com/example/lease/lease/store/RedisAddress") (F_o_host : Fld Z h0 o "com/example/lease/lease/store/RedisAddress" "host" "Ljava/lang/String;" .null) (F_o_port : Fld Z h0 o "com/example/lease/lease/store/RedisAddress" "port" "I" (.int (0 : Int32))) (F_o_tls : Fld Z h0 o "com/example/lease/lease/store/RedisAddress" "tls" "Z" (.int (0 : Int32))) (F_o_user : Fld Z h0 o "com/example/lease/lease/store/RedisAddress" "user" "Ljava/util/Optional;" .null) (F_o_password : Fld Z h0 o "com/example/lease/lease/store/RedisAddress" "password" "Ljava/util/Optional;" .null) (E_sa : Exa Z h0 sa "java/lang/String") (V_sa : Fld Z h0 sa "java/lang/String" "value" "[B" (.ref sb)) (A_sa : Ary Z h0 sb .byte ln.toInt.toNat (fun i => .int (own_g c0 c1 i))) (hl : ln = 1 ∨ ln = 2) (hp1 : 1 ≤ port.toInt) (hp2 : port.toInt ≤ 65535) (htl : tls = 0 ∨ tls = 1) (hat0 : Z.lambdaAt? (⟨"com/example/lease/lease/store/RedisAddress", "<init>", "(Ljava/lang/String;IZLjava/util/Optional;Ljava/util/Optional;)V"⟩ : MethodName) 21 19 own_sh0 = some (cK0, some f0)) (hat1 : Z.lambdaAt? (⟨"com/example/lease/lease/store/RedisAddress", "<init>", "(Ljava/lang/String;IZLjava/util/Optional;Ljava/util/Optional;)V"⟩ : MethodName) 41 29 own_sh1 = some (cK1, some f1)) (Lm0 : Lmo Z h0 f0 cK0) (Lm1 : Lmo Z h0 f1 cK1) (E_u : Exa Z h0 u "java/util/Optional") (F_u_value : Fld Z h0 u "java/util/Optional" "value" "Ljava/lang/Object;" .null) (E_pw : Exa Z h0 pw "java/util/Optional") (F_pw_value : Fld Z h0 pw "java/util/Optional" "value" "Ljava/lang/Object;" (.ref sp)) (E_sp : Exa Z h0 sp "java/lang/String") (V_sp : Fld Z h0 sp "java/lang/String" "value" "[B" (.ref bp)) (A_sp : Ary Z h0 bp .byte 1 fp)  :
    MetW l Z (⟨"com/example/lease/lease/store/RedisAddress", "<init>", "(Ljava/lang/String;IZLjava/util/Optional;Ljava/util/Optional;)V"⟩ : MethodName) prog_23_method_1_code 6 none ws ({ frames := 4, cells := 6, slots := 76, locals := 3073 } : Room) #[(.ref o), (.ref sa), (.int port), (.int tls), (.ref u), (.ref pw)] h0 (fun v h L => v = none ∧ Fr n0 L ∧ Keep h0 h [o] ∧ Fld Z h o "com/example/lease/lease/store/RedisAddress" "host" "Ljava/lang/String;" (.ref sa) ∧ Fld Z h o "com/example/lease/lease/store/RedisAddress" "port" "I" (.int port)) 6 76 := by
  refine metWN_of (plainFor_of_name pn_6) (f0 := fun m => (mkF m 0 #[.val (.ref o), .val (.ref sa), .val (.int port), .val (.int tls), .val (.ref u), .val (.ref pw)] [])) (fun m => ef_rmInEP m o sa port tls u pw) ?_
  intro p e s m below meth c s₁ X0 hx hby hml hret hlk hown hnm hZ e0 hN
  replace hown : s.vm.findClass "com/example/lease/lease/store/RedisAddress" = some m.cls := hown
  have N0 := Fr.nil n0
  refine r_aloadN X0.here hx (hb hby d11_0) rfl rfl (pc' := 1) rfl ?_
  refine r_callI X0 hx hZ (y := (⟨"java/lang/Record", "<init>", "()V"⟩ : MethodName)) (rm := ({ frames := 1, cells := 0, slots := 0, locals := 12 } : Room)) hown rfl (hw _ (List.mem_of_getElem? (i := 53) rfl)) (hw _ (List.mem_of_getElem? (i := 54) rfl)) (hw _ (List.mem_of_getElem? (i := 56) rfl)) (hw _ (List.mem_of_getElem? (i := 57) rfl)) (by decide) (rmRec l Z a0 hw [] o h0 n0 Z0) e0 (by rw [hml]; rfl) (argsL := []) (rest := []) (lenOf pd_16 rfl) rfl rfl (W := 0) rfl (by decide) (by decide) (by decide) (by decide) (hb hby d11_1) (pc' := 4) rfl ?_
  rintro v485 T485 L485 X485 ⟨rfl, Nq485, e485⟩
  have N485 := Fr.app N0 Nq485
  show Run p e below _ _ T485 (mkF m 4 #[.val (.ref o), .val (.ref sa), .val (.int port), .val (.int tls), .val (.ref u), .val (.ref pw)] [])
  refine r_aloadN X485.here hx (hb hby d11_4) rfl rfl (pc' := 5) rfl ?_
  refine r_ldcS (s := s) (vm0 := s.vm) X485 hx hZ hown (hw _ (List.mem_of_getElem? (i := 59) rfl)) (own_sa hw) e485 ((State.WarmedH.refl s).since 0) (Nat.zero_le _) (nn := 16) (by decide) (by decide) (by decide) (by decide) (hb hby d11_5) (pc' := 7) rfl (fun b486 T486 h486 k486 X486 e486 E486 hS486 hk486 hZ486 hown486 => ?_)
  have K487 : Keep h0 h0 [o] := Keep.refl _ _
  have K488 := K487.ext E486
  have f489 := E_o.ext E486
  have f490 := F_o_host.ext E486
  have f491 := F_o_port.ext E486
  have f492 := F_o_tls.ext E486
  have f493 := F_o_user.ext E486
  have f494 := F_o_password.ext E486
  have f495 := E_sa.ext E486
  have f496 := V_sa.ext E486
  have f497 := A_sa.ext E486
  have f498 := Lm0.ext E486
  have f499 := Lm1.ext E486
  have f500 := E_u.ext E486
  have f501 := F_u_value.ext E486
  have f502 := E_pw.ext E486
  have f503 := F_pw_value.ext E486
  have f504 := E_sp.ext E486
  have f505 := V_sp.ext E486
  have f506 := A_sp.ext E486
  have Z507 : n0 ≤ h486.size := by have q := Z0; exact Nat.le_trans q E486.1
  refine r_callS X486 hx hZ486 (y := (⟨"java/util/Objects", "requireNonNull", "(Ljava/lang/Object;Ljava/lang/String;)Ljava/lang/Object;"⟩ : MethodName)) (rm := ({ frames := 0, cells := 0, slots := 0, locals := 0 } : Room)) hown486 (hw _ (List.mem_of_getElem? (i := 62) rfl)) (hw _ (List.mem_of_getElem? (i := 63) rfl)) (hw _ (List.mem_of_getElem? (i := 64) rfl)) (hw _ (List.mem_of_getElem? (i := 65) rfl)) (by decide) (rmR2 l Z a0 hw [] sa b486 h486 n0 Z507) e486 (by rw [hml]; rfl) (argsL := [(.ref sa), (.ref b486)]) (rest := []) (lenOf pd_17 rfl) rfl rfl (W := 0) rfl (by decide) (by decide) (by decide) (by decide) (hb hby d11_7) (pc' := 10) rfl ?_
  rintro v508 T508 L508 X508 ⟨rfl, Nq508, e508⟩
  have N508 := Fr.app N485 Nq508
  show Run p e below _ _ T508 (mkF m 10 #[.val (.ref o), .val (.ref sa), .val (.int port), .val (.int tls), .val (.ref u), .val (.ref pw)] [(.ref sa)])
  refine r_pop X508.here hx (hb hby d11_10) rfl (pc' := 11) rfl ?_
  refine r_aload X508.here hx (hb hby d11_11) rfl rfl (pc' := 13) rfl ?_
  refine r_ldcS (s := s) (vm0 := T486.vm) X508 hx hZ486 hown486 (hw _ (List.mem_of_getElem? (i := 66) rfl)) (own_sa hw) e508 hS486 hk486 (nn := 16) (by decide) (by decide) (by decide) (by decide) (hb hby d11_13) (pc' := 15) rfl (fun b509 T509 h509 k509 X509 e509 E509 hS509 hk509 hZ509 hown509 => ?_)
  have K510 := K488.ext E509
  have f511 := f489.ext E509
  have f512 := f490.ext E509
  have f513 := f491.ext E509
  have f514 := f492.ext E509
  have f515 := f493.ext E509
  have f516 := f494.ext E509
  have f517 := f495.ext E509
  have f518 := f496.ext E509
  have f519 := f497.ext E509
  have f520 := f498.ext E509
  have f521 := f499.ext E509
  have f522 := f500.ext E509
  have f523 := f501.ext E509
  have f524 := f502.ext E509
  have f525 := f503.ext E509
  have f526 := f504.ext E509
  have f527 := f505.ext E509
  have f528 := f506.ext E509
  have Z529 : n0 ≤ h509.size := by have q := Z507; exact Nat.le_trans q E509.1
  refine r_callS X509 hx hZ509 (y := (⟨"java/util/Objects", "requireNonNull", "(Ljava/lang/Object;Ljava/lang/String;)Ljava/lang/Object;"⟩ : MethodName)) (rm := ({ frames := 0, cells := 0, slots := 0, locals := 0 } : Room)) hown509 (hw _ (List.mem_of_getElem? (i := 62) rfl)) (hw _ (List.mem_of_getElem? (i := 63) rfl)) (hw _ (List.mem_of_getElem? (i := 64) rfl)) (hw _ (List.mem_of_getElem? (i := 65) rfl)) (by decide) (rmR2 l Z a0 hw [] u b509 h509 n0 Z529) e509 (by rw [hml]; rfl) (argsL := [(.ref u), (.ref b509)]) (rest := []) (lenOf pd_17 rfl) rfl rfl (W := 0) rfl (by decide) (by decide) (by decide) (by decide) (hb hby d11_15) (pc' := 18) rfl ?_
  rintro v530 T530 L530 X530 ⟨rfl, Nq530, e530⟩
  have N530 := Fr.app N508 Nq530
  show Run p e below _ _ T530 (mkF m 18 #[.val (.ref o), .val (.ref sa), .val (.int port), .val (.int tls), .val (.ref u), .val (.ref pw)] [(.ref u)])
  refine r_castY X530 hx hZ509 hown509 (hw _ (List.mem_of_getElem? (i := 67) rfl)) e530 (Ins.of_exa f522 (hw _ (List.mem_of_getElem? (i := 68) rfl))) (hb hby d11_18) (pc' := 21) rfl (fun T531 X531 e531 => ?_)
  refine r_indyK X531 hx hZ509 (own_nmd hS509 hN) hat0 (by rw [hml]; rfl) (W := 1) rfl (by decide) (hb hby d11_21) (pc' := 26) rfl ?_
  refine r_callV X531 hx hZ509 (y := (⟨"java/util/Optional", "filter", "(Ljava/util/function/Predicate;)Ljava/util/Optional;"⟩ : MethodName)) (z := (⟨"java/util/Optional", "filter", "(Ljava/util/function/Predicate;)Ljava/util/Optional;"⟩ : MethodName)) (rm := ({ frames := 1, cells := 0, slots := 0, locals := 12 } : Room)) hown509 (hw _ (List.mem_of_getElem? (i := 72) rfl)) (hw _ (List.mem_of_getElem? (i := 73) rfl)) (notFace_of_selects (args := #[]) (mvT hZ509 (hw _ (List.mem_of_getElem? (i := 75) rfl)))) (hw _ (List.mem_of_getElem? (i := 75) rfl)) (hw _ (List.mem_of_getElem? (i := 74) rfl)) (hw _ (List.mem_of_getElem? (i := 44) rfl)) (hw _ (List.mem_of_getElem? (i := 76) rfl)) (by decide) (rmFlE l Z a0 hw [] u f0 h509 n0 Z529 f522 f523) e531 f522 (by rw [hml]; rfl) (argsL := [(.ref f0)]) (rest := []) (lenOf pd_18 rfl) rfl rfl (W := 0) rfl (by decide) (by decide) (by decide) (by decide) (hb hby d11_26) (pc' := 29) rfl ?_
  rintro v533 T533 L533 X533 ⟨rfl, Nq533, e533⟩
  have N533 := Fr.app N530 Nq533
  show Run p e below _ _ T533 (mkF m 29 #[.val (.ref o), .val (.ref sa), .val (.int port), .val (.int tls), .val (.ref u), .val (.ref pw)] [(.ref u)])
  refine r_astore X533.here hx (hb hby d11_29) rfl (l' := #[.val (.ref o), .val (.ref sa), .val (.int port), .val (.int tls), .val (.ref u), .val (.ref pw)]) rfl (pc' := 31) rfl ?_
  refine r_aload X533.here hx (hb hby d11_31) rfl rfl (pc' := 33) rfl ?_
  refine r_ldcS (s := s) (vm0 := T509.vm) X533 hx hZ509 hown509 (hw _ (List.mem_of_getElem? (i := 87) rfl)) (own_sa hw) e533 hS509 hk509 (nn := 32) (by decide) (by decide) (by decide) (by decide) (hb hby d11_33) (pc' := 35) rfl (fun b534 T534 h534 k534 X534 e534 E534 hS534 hk534 hZ534 hown534 => ?_)
  have K535 := K510.ext E534
  have f536 := f511.ext E534
  have f537 := f512.ext E534
  have f538 := f513.ext E534
  have f539 := f514.ext E534
  have f540 := f515.ext E534
  have f541 := f516.ext E534
  have f542 := f517.ext E534
  have f543 := f518.ext E534
  have f544 := f519.ext E534
  have f545 := f520.ext E534
  have f546 := f521.ext E534
  have f547 := f522.ext E534
  have f548 := f523.ext E534
  have f549 := f524.ext E534
  have f550 := f525.ext E534
  have f551 := f526.ext E534
  have f552 := f527.ext E534
  have f553 := f528.ext E534
  have Z554 : n0 ≤ h534.size := by have q := Z529; exact Nat.le_trans q E534.1
  refine r_callS X534 hx hZ534 (y := (⟨"java/util/Objects", "requireNonNull", "(Ljava/lang/Object;Ljava/lang/String;)Ljava/lang/Object;"⟩ : MethodName)) (rm := ({ frames := 0, cells := 0, slots := 0, locals := 0 } : Room)) hown534 (hw _ (List.mem_of_getElem? (i := 62) rfl)) (hw _ (List.mem_of_getElem? (i := 63) rfl)) (hw _ (List.mem_of_getElem? (i := 64) rfl)) (hw _ (List.mem_of_getElem? (i := 65) rfl)) (by decide) (rmR2 l Z a0 hw [] pw b534 h534 n0 Z554) e534 (by rw [hml]; rfl) (argsL := [(.ref pw), (.ref b534)]) (rest := []) (lenOf pd_17 rfl) rfl rfl (W := 0) rfl (by decide) (by decide) (by decide) (by decide) (hb hby d11_35) (pc' := 38) rfl ?_
  rintro v555 T555 L555 X555 ⟨rfl, Nq555, e555⟩
  have N555 := Fr.app N533 Nq555
  show Run p e below _ _ T555 (mkF m 38 #[.val (.ref o), .val (.ref sa), .val (.int port), .val (.int tls), .val (.ref u), .val (.ref pw)] [(.ref pw)])
  refine r_castY X555 hx hZ534 hown534 (hw _ (List.mem_of_getElem? (i := 67) rfl)) e555 (Ins.of_exa f549 (hw _ (List.mem_of_getElem? (i := 68) rfl))) (hb hby d11_38) (pc' := 41) rfl (fun T556 X556 e556 => ?_)
  refine r_indyK X556 hx hZ534 (own_nmd hS534 hN) hat1 (by rw [hml]; rfl) (W := 1) rfl (by decide) (hb hby d11_41) (pc' := 46) rfl ?_
  refine r_callV X556 hx hZ534 (y := (⟨"java/util/Optional", "filter", "(Ljava/util/function/Predicate;)Ljava/util/Optional;"⟩ : MethodName)) (z := (⟨"java/util/Optional", "filter", "(Ljava/util/function/Predicate;)Ljava/util/Optional;"⟩ : MethodName)) (rm := ({ frames := 3, cells := 0, slots := 0, locals := 37 } : Room)) hown534 (hw _ (List.mem_of_getElem? (i := 72) rfl)) (hw _ (List.mem_of_getElem? (i := 73) rfl)) (notFace_of_selects (args := #[]) (mvT hZ534 (hw _ (List.mem_of_getElem? (i := 75) rfl)))) (hw _ (List.mem_of_getElem? (i := 75) rfl)) (hw _ (List.mem_of_getElem? (i := 74) rfl)) (hw _ (List.mem_of_getElem? (i := 44) rfl)) (hw _ (List.mem_of_getElem? (i := 76) rfl)) (by decide) (rmFlP1 l Z a0 hw [] pw f1 sp bp _ cK1 h534 n0 Z554 f549 f550 f551 f552 f553 hat1 f546) e556 f549 (by rw [hml]; rfl) (argsL := [(.ref f1)]) (rest := []) (lenOf pd_18 rfl) rfl rfl (W := 0) rfl (by decide) (by decide) (by decide) (by decide) (hb hby d11_46) (pc' := 49) rfl ?_
  rintro v558 T558 L558 X558 ⟨rfl, Nq558, e558⟩
  have N558 := Fr.app N555 Nq558
  show Run p e below _ _ T558 (mkF m 49 #[.val (.ref o), .val (.ref sa), .val (.int port), .val (.int tls), .val (.ref u), .val (.ref pw)] [(.ref pw)])
  refine r_astore X558.here hx (hb hby d11_49) rfl (l' := #[.val (.ref o), .val (.ref sa), .val (.int port), .val (.int tls), .val (.ref u), .val (.ref pw)]) rfl (pc' := 51) rfl ?_
  refine r_aloadN X558.here hx (hb hby d11_51) rfl rfl (pc' := 52) rfl ?_
  refine r_callV X558 hx hZ534 (y := (⟨"java/lang/String", "isEmpty", "()Z"⟩ : MethodName)) (z := (⟨"java/lang/String", "isEmpty", "()Z"⟩ : MethodName)) (rm := ({ frames := 0, cells := 0, slots := 0, locals := 0 } : Room)) hown534 (hw _ (List.mem_of_getElem? (i := 89) rfl)) (hw _ (List.mem_of_getElem? (i := 90) rfl)) (notFace_of_selects (args := #[]) (mvT hZ534 (hw _ (List.mem_of_getElem? (i := 92) rfl)))) (hw _ (List.mem_of_getElem? (i := 92) rfl)) (hw _ (List.mem_of_getElem? (i := 91) rfl)) (hw _ (List.mem_of_getElem? (i := 6) rfl)) (hw _ (List.mem_of_getElem? (i := 93) rfl)) (by decide) (rmIE l Z a0 hw [] sa sb _ ln _ h534 n0 Z554 f543 f544 (own_l12 hl).1 (own_l12 hl).2) e558 f542 (by rw [hml]; rfl) (argsL := []) (rest := []) (lenOf pd_13 rfl) rfl rfl (W := 0) rfl (by decide) (by decide) (by decide) (by decide) (hb hby d11_52) (pc' := 55) rfl ?_
  rintro v559 T559 L559 X559 ⟨rfl, Nq559, e559⟩
  have N559 := Fr.app N558 Nq559
  show Run p e below _ _ T559 (mkF m 55 #[.val (.ref o), .val (.ref sa), .val (.int port), .val (.int tls), .val (.ref u), .val (.ref pw)] [(.int (0 : Int32))])
  refine r_if0_ne X559.here hx (hb hby d11_55) (by decide) (pc' := 69) (by decide) (pc2 := 58) rfl (fun hc55 => absurd rfl hc55) (fun hc55 => ?_)
  refine r_iloadN X559.here hx (hb hby d11_58) rfl (pc' := 59) rfl ?_
  refine r_iconst X559.here hx (hb hby d11_59) (v := 1) rfl (pc' := 60) rfl ?_
  refine r_if_lt X559.here hx (hb hby d11_60) (by decide) (pc' := 69) (by decide) (pc2 := 63) rfl (fun hc60 => absurd hc60 (Int.not_lt.mpr (show (1 : Int32).toInt ≤ port.toInt from hp1))) (fun hc60 => ?_)
  refine r_iloadN X559.here hx (hb hby d11_63) rfl (pc' := 64) rfl ?_
  refine r_ldc X559 hx hZ534 hown534 (hw _ (List.mem_of_getElem? (i := 94) rfl)) (hb hby d11_64) (pc' := 66) rfl ?_
  refine r_if_le X559.here hx (hb hby d11_66) (by decide) (pc' := 79) (by decide) (pc2 := 69) rfl (fun hc66 => ?_) (fun hc66 => absurd (show port.toInt ≤ (65535 : Int32).toInt from hp2) hc66)
  refine r_aload X559.here hx (hb hby d11_79) rfl rfl (pc' := 81) rfl ?_
  refine r_callV X559 hx hZ534 (y := (⟨"java/util/Optional", "isPresent", "()Z"⟩ : MethodName)) (z := (⟨"java/util/Optional", "isPresent", "()Z"⟩ : MethodName)) (rm := ({ frames := 0, cells := 0, slots := 0, locals := 0 } : Room)) hown534 (hw _ (List.mem_of_getElem? (i := 95) rfl)) (hw _ (List.mem_of_getElem? (i := 96) rfl)) (notFace_of_selects (args := #[]) (mvT hZ534 (hw _ (List.mem_of_getElem? (i := 98) rfl)))) (hw _ (List.mem_of_getElem? (i := 98) rfl)) (hw _ (List.mem_of_getElem? (i := 97) rfl)) (hw _ (List.mem_of_getElem? (i := 44) rfl)) (hw _ (List.mem_of_getElem? (i := 99) rfl)) (by decide) (rm_isPresentE l Z a0 hw [] u h534 n0 Z554 f547 f548) e559 f547 (by rw [hml]; rfl) (argsL := []) (rest := []) (lenOf pd_13 rfl) rfl rfl (W := 0) rfl (by decide) (by decide) (by decide) (by decide) (hb hby d11_81) (pc' := 84) rfl ?_
  rintro v560 T560 L560 X560 ⟨rfl, Nq560, e560⟩
  have N560 := Fr.app N559 Nq560
  show Run p e below _ _ T560 (mkF m 84 #[.val (.ref o), .val (.ref sa), .val (.int port), .val (.int tls), .val (.ref u), .val (.ref pw)] [(.int (0 : Int32))])
  refine r_if0_eq X560.here hx (hb hby d11_84) (by decide) (pc' := 105) (by decide) (pc2 := 87) rfl (fun hc84 => ?_) (fun hc84 => absurd rfl hc84)
  refine r_aloadN X560.here hx (hb hby d11_105) rfl rfl (pc' := 106) rfl ?_
  refine r_aloadN X560.here hx (hb hby d11_106) rfl rfl (pc' := 107) rfl ?_
  refine r_putF X560 hx hZ534 hown534 (hw _ (List.mem_of_getElem? (i := 100) rfl)) Via.refl e560 f537 f536 (Or.inr ⟨(hw _ (List.mem_of_getElem? (i := 101) rfl)), rfl, hnm⟩) (hw _ (List.mem_of_getElem? (i := 37) rfl)) (ty := (.object "java/lang/String")) (by decide) rfl rfl (hb hby d11_107) (pc' := 110) rfl (fun T561 h561 X561 e561 W561 => ?_)
  have f562 := f537.same W561
  have K563 := K535.wr W561 (Or.inl (List.mem_of_getElem? (i := 0) rfl))
  have f564 := f536.wr W561
  have f565 := f538.other W561 (Or.inr (slot_ne (Or.inr (hw _ (List.mem_of_getElem? (i := 103) rfl)) : Laid Z a0 "com/example/lease/lease/store/RedisAddress" "com/example/lease/lease/store/RedisAddress" "port" "I") (Or.inr (hw _ (List.mem_of_getElem? (i := 101) rfl)) : Laid Z a0 "com/example/lease/lease/store/RedisAddress" "com/example/lease/lease/store/RedisAddress" "host" "Ljava/lang/String;") (by decide) (t := .int) (t' := (.object "java/lang/String")) (by decide) (by decide)))
  have f566 := f539.other W561 (Or.inr (slot_ne (Or.inr (hw _ (List.mem_of_getElem? (i := 105) rfl)) : Laid Z a0 "com/example/lease/lease/store/RedisAddress" "com/example/lease/lease/store/RedisAddress" "tls" "Z") (Or.inr (hw _ (List.mem_of_getElem? (i := 101) rfl)) : Laid Z a0 "com/example/lease/lease/store/RedisAddress" "com/example/lease/lease/store/RedisAddress" "host" "Ljava/lang/String;") (by decide) (t := .boolean) (t' := (.object "java/lang/String")) (by decide) (by decide)))
  have f567 := f540.other W561 (Or.inr (slot_ne (Or.inr (hw _ (List.mem_of_getElem? (i := 107) rfl)) : Laid Z a0 "com/example/lease/lease/store/RedisAddress" "com/example/lease/lease/store/RedisAddress" "user" "Ljava/util/Optional;") (Or.inr (hw _ (List.mem_of_getElem? (i := 101) rfl)) : Laid Z a0 "com/example/lease/lease/store/RedisAddress" "com/example/lease/lease/store/RedisAddress" "host" "Ljava/lang/String;") (by decide) (t := (.object "java/util/Optional")) (t' := (.object "java/lang/String")) (by decide) (by decide)))
  have f568 := f541.other W561 (Or.inr (slot_ne (Or.inr (hw _ (List.mem_of_getElem? (i := 109) rfl)) : Laid Z a0 "com/example/lease/lease/store/RedisAddress" "com/example/lease/lease/store/RedisAddress" "password" "Ljava/util/Optional;") (Or.inr (hw _ (List.mem_of_getElem? (i := 101) rfl)) : Laid Z a0 "com/example/lease/lease/store/RedisAddress" "com/example/lease/lease/store/RedisAddress" "host" "Ljava/lang/String;") (by decide) (t := (.object "java/util/Optional")) (t' := (.object "java/lang/String")) (by decide) (by decide)))
  have Z569 : n0 ≤ h561.size := by have q := Z554; rw [W561.size]; exact q
  have hk570 : k534 ≤ h561.size := by have q := hk534; rw [W561.size]; exact q
  have N561 := Fr.snoc X561 N560 go
  refine r_aloadN X561.here hx (hb hby d11_110) rfl rfl (pc' := 111) rfl ?_
  refine r_iloadN X561.here hx (hb hby d11_111) rfl (pc' := 112) rfl ?_
  refine r_putF X561 hx hZ534 hown534 (hw _ (List.mem_of_getElem? (i := 102) rfl)) Via.refl e561 f565 f564 (Or.inr ⟨(hw _ (List.mem_of_getElem? (i := 103) rfl)), rfl, hnm⟩) (hw _ (List.mem_of_getElem? (i := 37) rfl)) (ty := .int) (by decide) rfl rfl (hb hby d11_112) (pc' := 115) rfl (fun T571 h571 X571 e571 W571 => ?_)
  have f572 := f565.same W571
  have K573 := K563.wr W571 (Or.inl (List.mem_of_getElem? (i := 0) rfl))
  have f574 := f564.wr W571
  have f575 := f566.other W571 (Or.inr (slot_ne (Or.inr (hw _ (List.mem_of_getElem? (i := 105) rfl)) : Laid Z a0 "com/example/lease/lease/store/RedisAddress" "com/example/lease/lease/store/RedisAddress" "tls" "Z") (Or.inr (hw _ (List.mem_of_getElem? (i := 103) rfl)) : Laid Z a0 "com/example/lease/lease/store/RedisAddress" "com/example/lease/lease/store/RedisAddress" "port" "I") (by decide) (t := .boolean) (t' := .int) (by decide) (by decide)))
  have f576 := f567.other W571 (Or.inr (slot_ne (Or.inr (hw _ (List.mem_of_getElem? (i := 107) rfl)) : Laid Z a0 "com/example/lease/lease/store/RedisAddress" "com/example/lease/lease/store/RedisAddress" "user" "Ljava/util/Optional;") (Or.inr (hw _ (List.mem_of_getElem? (i := 103) rfl)) : Laid Z a0 "com/example/lease/lease/store/RedisAddress" "com/example/lease/lease/store/RedisAddress" "port" "I") (by decide) (t := (.object "java/util/Optional")) (t' := .int) (by decide) (by decide)))
  have f577 := f568.other W571 (Or.inr (slot_ne (Or.inr (hw _ (List.mem_of_getElem? (i := 109) rfl)) : Laid Z a0 "com/example/lease/lease/store/RedisAddress" "com/example/lease/lease/store/RedisAddress" "password" "Ljava/util/Optional;") (Or.inr (hw _ (List.mem_of_getElem? (i := 103) rfl)) : Laid Z a0 "com/example/lease/lease/store/RedisAddress" "com/example/lease/lease/store/RedisAddress" "port" "I") (by decide) (t := (.object "java/util/Optional")) (t' := .int) (by decide) (by decide)))
  have f578 := f562.other W571 (Or.inr (slot_ne (Or.inr (hw _ (List.mem_of_getElem? (i := 101) rfl)) : Laid Z a0 "com/example/lease/lease/store/RedisAddress" "com/example/lease/lease/store/RedisAddress" "host" "Ljava/lang/String;") (Or.inr (hw _ (List.mem_of_getElem? (i := 103) rfl)) : Laid Z a0 "com/example/lease/lease/store/RedisAddress" "com/example/lease/lease/store/RedisAddress" "port" "I") (by decide) (t := (.object "java/lang/String")) (t' := .int) (by decide) (by decide)))
  have Z579 : n0 ≤ h571.size := by have q := Z569; rw [W571.size]; exact q
  have hk580 : k534 ≤ h571.size := by have q := hk570; rw [W571.size]; exact q
  have N571 := Fr.snoc X571 N561 go
  refine r_aloadN X571.here hx (hb hby d11_115) rfl rfl (pc' := 116) rfl ?_
  refine r_iloadN X571.here hx (hb hby d11_116) rfl (pc' := 117) rfl ?_
  refine r_putFN X571 hx hZ534 hown534 (hw _ (List.mem_of_getElem? (i := 104) rfl)) Via.refl e571 f575 f574 (Or.inr ⟨(hw _ (List.mem_of_getElem? (i := 105) rfl)), rfl, hnm⟩) (hw _ (List.mem_of_getElem? (i := 37) rfl)) (ty := .boolean) (v' := (.int tls)) (by decide) (own_nz htl) (own_fz htl) (hb hby d11_117) (pc' := 120) rfl (fun T581 h581 X581 e581 W581 => ?_)
  have f582 := f575.same W581
  have K583 := K573.wr W581 (Or.inl (List.mem_of_getElem? (i := 0) rfl))
  have f584 := f574.wr W581
  have f585 := f576.other W581 (Or.inr (slot_ne (Or.inr (hw _ (List.mem_of_getElem? (i := 107) rfl)) : Laid Z a0 "com/example/lease/lease/store/RedisAddress" "com/example/lease/lease/store/RedisAddress" "user" "Ljava/util/Optional;") (Or.inr (hw _ (List.mem_of_getElem? (i := 105) rfl)) : Laid Z a0 "com/example/lease/lease/store/RedisAddress" "com/example/lease/lease/store/RedisAddress" "tls" "Z") (by decide) (t := (.object "java/util/Optional")) (t' := .boolean) (by decide) (by decide)))
  have f586 := f577.other W581 (Or.inr (slot_ne (Or.inr (hw _ (List.mem_of_getElem? (i := 109) rfl)) : Laid Z a0 "com/example/lease/lease/store/RedisAddress" "com/example/lease/lease/store/RedisAddress" "password" "Ljava/util/Optional;") (Or.inr (hw _ (List.mem_of_getElem? (i := 105) rfl)) : Laid Z a0 "com/example/lease/lease/store/RedisAddress" "com/example/lease/lease/store/RedisAddress" "tls" "Z") (by decide) (t := (.object "java/util/Optional")) (t' := .boolean) (by decide) (by decide)))
  have f587 := f578.other W581 (Or.inr (slot_ne (Or.inr (hw _ (List.mem_of_getElem? (i := 101) rfl)) : Laid Z a0 "com/example/lease/lease/store/RedisAddress" "com/example/lease/lease/store/RedisAddress" "host" "Ljava/lang/String;") (Or.inr (hw _ (List.mem_of_getElem? (i := 105) rfl)) : Laid Z a0 "com/example/lease/lease/store/RedisAddress" "com/example/lease/lease/store/RedisAddress" "tls" "Z") (by decide) (t := (.object "java/lang/String")) (t' := .boolean) (by decide) (by decide)))
  have f588 := f572.other W581 (Or.inr (slot_ne (Or.inr (hw _ (List.mem_of_getElem? (i := 103) rfl)) : Laid Z a0 "com/example/lease/lease/store/RedisAddress" "com/example/lease/lease/store/RedisAddress" "port" "I") (Or.inr (hw _ (List.mem_of_getElem? (i := 105) rfl)) : Laid Z a0 "com/example/lease/lease/store/RedisAddress" "com/example/lease/lease/store/RedisAddress" "tls" "Z") (by decide) (t := .int) (t' := .boolean) (by decide) (by decide)))
  have Z589 : n0 ≤ h581.size := by have q := Z579; rw [W581.size]; exact q
  have hk590 : k534 ≤ h581.size := by have q := hk580; rw [W581.size]; exact q
  have N581 := Fr.snoc X581 N571 go
  refine r_aloadN X581.here hx (hb hby d11_120) rfl rfl (pc' := 121) rfl ?_
  refine r_aload X581.here hx (hb hby d11_121) rfl rfl (pc' := 123) rfl ?_
  refine r_putF X581 hx hZ534 hown534 (hw _ (List.mem_of_getElem? (i := 106) rfl)) Via.refl e581 f585 f584 (Or.inr ⟨(hw _ (List.mem_of_getElem? (i := 107) rfl)), rfl, hnm⟩) (hw _ (List.mem_of_getElem? (i := 37) rfl)) (ty := (.object "java/util/Optional")) (by decide) rfl rfl (hb hby d11_123) (pc' := 126) rfl (fun T591 h591 X591 e591 W591 => ?_)
  have f592 := f585.same W591
  have K593 := K583.wr W591 (Or.inl (List.mem_of_getElem? (i := 0) rfl))
  have f594 := f584.wr W591
  have f595 := f586.other W591 (Or.inr (slot_ne (Or.inr (hw _ (List.mem_of_getElem? (i := 109) rfl)) : Laid Z a0 "com/example/lease/lease/store/RedisAddress" "com/example/lease/lease/store/RedisAddress" "password" "Ljava/util/Optional;") (Or.inr (hw _ (List.mem_of_getElem? (i := 107) rfl)) : Laid Z a0 "com/example/lease/lease/store/RedisAddress" "com/example/lease/lease/store/RedisAddress" "user" "Ljava/util/Optional;") (by decide) (t := (.object "java/util/Optional")) (t' := (.object "java/util/Optional")) (by decide) (by decide)))
  have f596 := f587.other W591 (Or.inr (slot_ne (Or.inr (hw _ (List.mem_of_getElem? (i := 101) rfl)) : Laid Z a0 "com/example/lease/lease/store/RedisAddress" "com/example/lease/lease/store/RedisAddress" "host" "Ljava/lang/String;") (Or.inr (hw _ (List.mem_of_getElem? (i := 107) rfl)) : Laid Z a0 "com/example/lease/lease/store/RedisAddress" "com/example/lease/lease/store/RedisAddress" "user" "Ljava/util/Optional;") (by decide) (t := (.object "java/lang/String")) (t' := (.object "java/util/Optional")) (by decide) (by decide)))
  have f597 := f588.other W591 (Or.inr (slot_ne (Or.inr (hw _ (List.mem_of_getElem? (i := 103) rfl)) : Laid Z a0 "com/example/lease/lease/store/RedisAddress" "com/example/lease/lease/store/RedisAddress" "port" "I") (Or.inr (hw _ (List.mem_of_getElem? (i := 107) rfl)) : Laid Z a0 "com/example/lease/lease/store/RedisAddress" "com/example/lease/lease/store/RedisAddress" "user" "Ljava/util/Optional;") (by decide) (t := .int) (t' := (.object "java/util/Optional")) (by decide) (by decide)))
  have f598 := f582.other W591 (Or.inr (slot_ne (Or.inr (hw _ (List.mem_of_getElem? (i := 105) rfl)) : Laid Z a0 "com/example/lease/lease/store/RedisAddress" "com/example/lease/lease/store/RedisAddress" "tls" "Z") (Or.inr (hw _ (List.mem_of_getElem? (i := 107) rfl)) : Laid Z a0 "com/example/lease/lease/store/RedisAddress" "com/example/lease/lease/store/RedisAddress" "user" "Ljava/util/Optional;") (by decide) (t := .boolean) (t' := (.object "java/util/Optional")) (by decide) (by decide)))
  have Z599 : n0 ≤ h591.size := by have q := Z589; rw [W591.size]; exact q
  have hk600 : k534 ≤ h591.size := by have q := hk590; rw [W591.size]; exact q
  have N591 := Fr.snoc X591 N581 go
  refine r_aloadN X591.here hx (hb hby d11_126) rfl rfl (pc' := 127) rfl ?_
  refine r_aload X591.here hx (hb hby d11_127) rfl rfl (pc' := 129) rfl ?_
  refine r_putF X591 hx hZ534 hown534 (hw _ (List.mem_of_getElem? (i := 108) rfl)) Via.refl e591 f595 f594 (Or.inr ⟨(hw _ (List.mem_of_getElem? (i := 109) rfl)), rfl, hnm⟩) (hw _ (List.mem_of_getElem? (i := 37) rfl)) (ty := (.object "java/util/Optional")) (by decide) rfl rfl (hb hby d11_129) (pc' := 132) rfl (fun T601 h601 X601 e601 W601 => ?_)
  have f602 := f595.same W601
  have K603 := K593.wr W601 (Or.inl (List.mem_of_getElem? (i := 0) rfl))
  have f604 := f594.wr W601
  have f605 := f596.other W601 (Or.inr (slot_ne (Or.inr (hw _ (List.mem_of_getElem? (i := 101) rfl)) : Laid Z a0 "com/example/lease/lease/store/RedisAddress" "com/example/lease/lease/store/RedisAddress" "host" "Ljava/lang/String;") (Or.inr (hw _ (List.mem_of_getElem? (i := 109) rfl)) : Laid Z a0 "com/example/lease/lease/store/RedisAddress" "com/example/lease/lease/store/RedisAddress" "password" "Ljava/util/Optional;") (by decide) (t := (.object "java/lang/String")) (t' := (.object "java/util/Optional")) (by decide) (by decide)))
  have f606 := f597.other W601 (Or.inr (slot_ne (Or.inr (hw _ (List.mem_of_getElem? (i := 103) rfl)) : Laid Z a0 "com/example/lease/lease/store/RedisAddress" "com/example/lease/lease/store/RedisAddress" "port" "I") (Or.inr (hw _ (List.mem_of_getElem? (i := 109) rfl)) : Laid Z a0 "com/example/lease/lease/store/RedisAddress" "com/example/lease/lease/store/RedisAddress" "password" "Ljava/util/Optional;") (by decide) (t := .int) (t' := (.object "java/util/Optional")) (by decide) (by decide)))
  have f607 := f598.other W601 (Or.inr (slot_ne (Or.inr (hw _ (List.mem_of_getElem? (i := 105) rfl)) : Laid Z a0 "com/example/lease/lease/store/RedisAddress" "com/example/lease/lease/store/RedisAddress" "tls" "Z") (Or.inr (hw _ (List.mem_of_getElem? (i := 109) rfl)) : Laid Z a0 "com/example/lease/lease/store/RedisAddress" "com/example/lease/lease/store/RedisAddress" "password" "Ljava/util/Optional;") (by decide) (t := .boolean) (t' := (.object "java/util/Optional")) (by decide) (by decide)))
  have f608 := f592.other W601 (Or.inr (slot_ne (Or.inr (hw _ (List.mem_of_getElem? (i := 107) rfl)) : Laid Z a0 "com/example/lease/lease/store/RedisAddress" "com/example/lease/lease/store/RedisAddress" "user" "Ljava/util/Optional;") (Or.inr (hw _ (List.mem_of_getElem? (i := 109) rfl)) : Laid Z a0 "com/example/lease/lease/store/RedisAddress" "com/example/lease/lease/store/RedisAddress" "password" "Ljava/util/Optional;") (by decide) (t := (.object "java/util/Optional")) (t' := (.object "java/util/Optional")) (by decide) (by decide)))
  have Z609 : n0 ≤ h601.size := by have q := Z599; rw [W601.size]; exact q
  have hk610 : k534 ≤ h601.size := by have q := hk600; rw [W601.size]; exact q
  have N601 := Fr.snoc X601 N591 go
  refine w_ret0 (s := s) (vm1 := T534.vm) X601 hS534 (by rw [e601]; exact hk610) hx hlk hret (hb hby d11_132) ?_ (by decide) (by decide)
  try rw [e601]
  exact ⟨rfl, N601, K603, f605, f606⟩
theorem ef_rmInPP (m : MethodId) (x0 : Addr) (x1 : Addr) (x2 : Int32) (x3 : Int32) (x4 : Addr) (x5 : Addr) : entryFrame m #[(.ref x0), (.ref x1), (.int x2), (.int x3), (.ref x4), (.ref x5)] 6 = mkF m 0 #[.val (.ref x0), .val (.ref x1), .val (.int x2), .val (.int x3), .val (.ref x4), .val (.ref x5)] [] := by first | (simp [entryFrame, mkF, argsToLocals, Value.category, maxLocals]; done) | rfl
set_option maxRecDepth 65536 in
set_option maxHeartbeats 40000000 in
theorem rmInPP (l : Launch) (Z : State) (a0 : Array Value) (hw : ∀ d ∈ tables_1, d.before a0 Z = true) (ws : List Jvm.Cond) (o sa sb u pw f0 f1 : Addr) (cK0 cK1 : ClassId) (ln c0 c1 port tls : Int32) (su bu : Addr) (fu : Nat → Value) (sp bp : Addr) (fp : Nat → Value) (h0 : Heap) (n0 : Nat) (Z0 : n0 ≤ h0.size) (go : n0 ≤ o) (E_o : Exa Z h0 o "com/example/lease/lease/store/RedisAddress") (F_o_host : Fld Z h0 o "com/example/lease/lease/store/RedisAddress" "host" "Ljava/lang/String;" .null) (F_o_port : Fld Z h0 o "com/example/lease/lease/store/RedisAddress" "port" "I" (.int (0 : Int32))) (F_o_tls : Fld Z h0 o "com/example/lease/lease/store/RedisAddress" "tls" "Z" (.int (0 : Int32))) (F_o_user : Fld Z h0 o "com/example/lease/lease/store/RedisAddress" "user" "Ljava/util/Optional;" .null) (F_o_password : Fld Z h0 o "com/example/lease/lease/store/RedisAddress" "password" "Ljava/util/Optional;" .null) (E_sa : Exa Z h0 sa "java/lang/String") (V_sa : Fld Z h0 sa "java/lang/String" "value" "[B" (.ref sb)) (A_sa : Ary Z h0 sb .byte ln.toInt.toNat (fun i => .int (own_g c0 c1 i))) (hl : ln = 1 ∨ ln = 2) (hp1 : 1 ≤ port.toInt) (hp2 : port.toInt ≤ 65535) (htl : tls = 0 ∨ tls = 1) (hat0 : Z.lambdaAt? (⟨"com/example/lease/lease/store/RedisAddress", "<init>", "(Ljava/lang/String;IZLjava/util/Optional;Ljava/util/Optional;)V"⟩ : MethodName) 21 19 own_sh0 = some (cK0, some f0)) (hat1 : Z.lambdaAt? (⟨"com/example/lease/lease/store/RedisAddress", "<init>", "(Ljava/lang/String;IZLjava/util/Optional;Ljava/util/Optional;)V"⟩ : MethodName) 41 29 own_sh1 = some (cK1, some f1)) (Lm0 : Lmo Z h0 f0 cK0) (Lm1 : Lmo Z h0 f1 cK1) (E_u : Exa Z h0 u "java/util/Optional") (F_u_value : Fld Z h0 u "java/util/Optional" "value" "Ljava/lang/Object;" (.ref su)) (E_su : Exa Z h0 su "java/lang/String") (V_su : Fld Z h0 su "java/lang/String" "value" "[B" (.ref bu)) (A_su : Ary Z h0 bu .byte 1 fu) (E_pw : Exa Z h0 pw "java/util/Optional") (F_pw_value : Fld Z h0 pw "java/util/Optional" "value" "Ljava/lang/Object;" (.ref sp)) (E_sp : Exa Z h0 sp "java/lang/String") (V_sp : Fld Z h0 sp "java/lang/String" "value" "[B" (.ref bp)) (A_sp : Ary Z h0 bp .byte 1 fp)  :
    MetW l Z (⟨"com/example/lease/lease/store/RedisAddress", "<init>", "(Ljava/lang/String;IZLjava/util/Optional;Ljava/util/Optional;)V"⟩ : MethodName) prog_23_method_1_code 6 none ws ({ frames := 4, cells := 6, slots := 76, locals := 3073 } : Room) #[(.ref o), (.ref sa), (.int port), (.int tls), (.ref u), (.ref pw)] h0 (fun v h L => v = none ∧ Fr n0 L ∧ Keep h0 h [o] ∧ Fld Z h o "com/example/lease/lease/store/RedisAddress" "host" "Ljava/lang/String;" (.ref sa) ∧ Fld Z h o "com/example/lease/lease/store/RedisAddress" "port" "I" (.int port)) 6 76 := by
  refine metWN_of (plainFor_of_name pn_6) (f0 := fun m => (mkF m 0 #[.val (.ref o), .val (.ref sa), .val (.int port), .val (.int tls), .val (.ref u), .val (.ref pw)] [])) (fun m => ef_rmInPP m o sa port tls u pw) ?_
  intro p e s m below meth c s₁ X0 hx hby hml hret hlk hown hnm hZ e0 hN
  replace hown : s.vm.findClass "com/example/lease/lease/store/RedisAddress" = some m.cls := hown
  have N0 := Fr.nil n0
  refine r_aloadN X0.here hx (hb hby d11_0) rfl rfl (pc' := 1) rfl ?_
  refine r_callI X0 hx hZ (y := (⟨"java/lang/Record", "<init>", "()V"⟩ : MethodName)) (rm := ({ frames := 1, cells := 0, slots := 0, locals := 12 } : Room)) hown rfl (hw _ (List.mem_of_getElem? (i := 53) rfl)) (hw _ (List.mem_of_getElem? (i := 54) rfl)) (hw _ (List.mem_of_getElem? (i := 56) rfl)) (hw _ (List.mem_of_getElem? (i := 57) rfl)) (by decide) (rmRec l Z a0 hw [] o h0 n0 Z0) e0 (by rw [hml]; rfl) (argsL := []) (rest := []) (lenOf pd_16 rfl) rfl rfl (W := 0) rfl (by decide) (by decide) (by decide) (by decide) (hb hby d11_1) (pc' := 4) rfl ?_
  rintro v611 T611 L611 X611 ⟨rfl, Nq611, e611⟩
  have N611 := Fr.app N0 Nq611
  show Run p e below _ _ T611 (mkF m 4 #[.val (.ref o), .val (.ref sa), .val (.int port), .val (.int tls), .val (.ref u), .val (.ref pw)] [])
  refine r_aloadN X611.here hx (hb hby d11_4) rfl rfl (pc' := 5) rfl ?_
  refine r_ldcS (s := s) (vm0 := s.vm) X611 hx hZ hown (hw _ (List.mem_of_getElem? (i := 59) rfl)) (own_sa hw) e611 ((State.WarmedH.refl s).since 0) (Nat.zero_le _) (nn := 16) (by decide) (by decide) (by decide) (by decide) (hb hby d11_5) (pc' := 7) rfl (fun b612 T612 h612 k612 X612 e612 E612 hS612 hk612 hZ612 hown612 => ?_)
  have K613 : Keep h0 h0 [o] := Keep.refl _ _
  have K614 := K613.ext E612
  have f615 := E_o.ext E612
  have f616 := F_o_host.ext E612
  have f617 := F_o_port.ext E612
  have f618 := F_o_tls.ext E612
  have f619 := F_o_user.ext E612
  have f620 := F_o_password.ext E612
  have f621 := E_sa.ext E612
  have f622 := V_sa.ext E612
  have f623 := A_sa.ext E612
  have f624 := Lm0.ext E612
  have f625 := Lm1.ext E612
  have f626 := E_u.ext E612
  have f627 := F_u_value.ext E612
  have f628 := E_su.ext E612
  have f629 := V_su.ext E612
  have f630 := A_su.ext E612
  have f631 := E_pw.ext E612
  have f632 := F_pw_value.ext E612
  have f633 := E_sp.ext E612
  have f634 := V_sp.ext E612
  have f635 := A_sp.ext E612
  have Z636 : n0 ≤ h612.size := by have q := Z0; exact Nat.le_trans q E612.1
  refine r_callS X612 hx hZ612 (y := (⟨"java/util/Objects", "requireNonNull", "(Ljava/lang/Object;Ljava/lang/String;)Ljava/lang/Object;"⟩ : MethodName)) (rm := ({ frames := 0, cells := 0, slots := 0, locals := 0 } : Room)) hown612 (hw _ (List.mem_of_getElem? (i := 62) rfl)) (hw _ (List.mem_of_getElem? (i := 63) rfl)) (hw _ (List.mem_of_getElem? (i := 64) rfl)) (hw _ (List.mem_of_getElem? (i := 65) rfl)) (by decide) (rmR2 l Z a0 hw [] sa b612 h612 n0 Z636) e612 (by rw [hml]; rfl) (argsL := [(.ref sa), (.ref b612)]) (rest := []) (lenOf pd_17 rfl) rfl rfl (W := 0) rfl (by decide) (by decide) (by decide) (by decide) (hb hby d11_7) (pc' := 10) rfl ?_
  rintro v637 T637 L637 X637 ⟨rfl, Nq637, e637⟩
  have N637 := Fr.app N611 Nq637
  show Run p e below _ _ T637 (mkF m 10 #[.val (.ref o), .val (.ref sa), .val (.int port), .val (.int tls), .val (.ref u), .val (.ref pw)] [(.ref sa)])
  refine r_pop X637.here hx (hb hby d11_10) rfl (pc' := 11) rfl ?_
  refine r_aload X637.here hx (hb hby d11_11) rfl rfl (pc' := 13) rfl ?_
  refine r_ldcS (s := s) (vm0 := T612.vm) X637 hx hZ612 hown612 (hw _ (List.mem_of_getElem? (i := 66) rfl)) (own_sa hw) e637 hS612 hk612 (nn := 16) (by decide) (by decide) (by decide) (by decide) (hb hby d11_13) (pc' := 15) rfl (fun b638 T638 h638 k638 X638 e638 E638 hS638 hk638 hZ638 hown638 => ?_)
  have K639 := K614.ext E638
  have f640 := f615.ext E638
  have f641 := f616.ext E638
  have f642 := f617.ext E638
  have f643 := f618.ext E638
  have f644 := f619.ext E638
  have f645 := f620.ext E638
  have f646 := f621.ext E638
  have f647 := f622.ext E638
  have f648 := f623.ext E638
  have f649 := f624.ext E638
  have f650 := f625.ext E638
  have f651 := f626.ext E638
  have f652 := f627.ext E638
  have f653 := f628.ext E638
  have f654 := f629.ext E638
  have f655 := f630.ext E638
  have f656 := f631.ext E638
  have f657 := f632.ext E638
  have f658 := f633.ext E638
  have f659 := f634.ext E638
  have f660 := f635.ext E638
  have Z661 : n0 ≤ h638.size := by have q := Z636; exact Nat.le_trans q E638.1
  refine r_callS X638 hx hZ638 (y := (⟨"java/util/Objects", "requireNonNull", "(Ljava/lang/Object;Ljava/lang/String;)Ljava/lang/Object;"⟩ : MethodName)) (rm := ({ frames := 0, cells := 0, slots := 0, locals := 0 } : Room)) hown638 (hw _ (List.mem_of_getElem? (i := 62) rfl)) (hw _ (List.mem_of_getElem? (i := 63) rfl)) (hw _ (List.mem_of_getElem? (i := 64) rfl)) (hw _ (List.mem_of_getElem? (i := 65) rfl)) (by decide) (rmR2 l Z a0 hw [] u b638 h638 n0 Z661) e638 (by rw [hml]; rfl) (argsL := [(.ref u), (.ref b638)]) (rest := []) (lenOf pd_17 rfl) rfl rfl (W := 0) rfl (by decide) (by decide) (by decide) (by decide) (hb hby d11_15) (pc' := 18) rfl ?_
  rintro v662 T662 L662 X662 ⟨rfl, Nq662, e662⟩
  have N662 := Fr.app N637 Nq662
  show Run p e below _ _ T662 (mkF m 18 #[.val (.ref o), .val (.ref sa), .val (.int port), .val (.int tls), .val (.ref u), .val (.ref pw)] [(.ref u)])
  refine r_castY X662 hx hZ638 hown638 (hw _ (List.mem_of_getElem? (i := 67) rfl)) e662 (Ins.of_exa f651 (hw _ (List.mem_of_getElem? (i := 68) rfl))) (hb hby d11_18) (pc' := 21) rfl (fun T663 X663 e663 => ?_)
  refine r_indyK X663 hx hZ638 (own_nmd hS638 hN) hat0 (by rw [hml]; rfl) (W := 1) rfl (by decide) (hb hby d11_21) (pc' := 26) rfl ?_
  refine r_callV X663 hx hZ638 (y := (⟨"java/util/Optional", "filter", "(Ljava/util/function/Predicate;)Ljava/util/Optional;"⟩ : MethodName)) (z := (⟨"java/util/Optional", "filter", "(Ljava/util/function/Predicate;)Ljava/util/Optional;"⟩ : MethodName)) (rm := ({ frames := 3, cells := 0, slots := 0, locals := 37 } : Room)) hown638 (hw _ (List.mem_of_getElem? (i := 72) rfl)) (hw _ (List.mem_of_getElem? (i := 73) rfl)) (notFace_of_selects (args := #[]) (mvT hZ638 (hw _ (List.mem_of_getElem? (i := 75) rfl)))) (hw _ (List.mem_of_getElem? (i := 75) rfl)) (hw _ (List.mem_of_getElem? (i := 74) rfl)) (hw _ (List.mem_of_getElem? (i := 44) rfl)) (hw _ (List.mem_of_getElem? (i := 76) rfl)) (by decide) (rmFlP0 l Z a0 hw [] u f0 su bu _ cK0 h638 n0 Z661 f651 f652 f653 f654 f655 hat0 f649) e663 f651 (by rw [hml]; rfl) (argsL := [(.ref f0)]) (rest := []) (lenOf pd_18 rfl) rfl rfl (W := 0) rfl (by decide) (by decide) (by decide) (by decide) (hb hby d11_26) (pc' := 29) rfl ?_
  rintro v665 T665 L665 X665 ⟨rfl, Nq665, e665⟩
  have N665 := Fr.app N662 Nq665
  show Run p e below _ _ T665 (mkF m 29 #[.val (.ref o), .val (.ref sa), .val (.int port), .val (.int tls), .val (.ref u), .val (.ref pw)] [(.ref u)])
  refine r_astore X665.here hx (hb hby d11_29) rfl (l' := #[.val (.ref o), .val (.ref sa), .val (.int port), .val (.int tls), .val (.ref u), .val (.ref pw)]) rfl (pc' := 31) rfl ?_
  refine r_aload X665.here hx (hb hby d11_31) rfl rfl (pc' := 33) rfl ?_
  refine r_ldcS (s := s) (vm0 := T638.vm) X665 hx hZ638 hown638 (hw _ (List.mem_of_getElem? (i := 87) rfl)) (own_sa hw) e665 hS638 hk638 (nn := 32) (by decide) (by decide) (by decide) (by decide) (hb hby d11_33) (pc' := 35) rfl (fun b666 T666 h666 k666 X666 e666 E666 hS666 hk666 hZ666 hown666 => ?_)
  have K667 := K639.ext E666
  have f668 := f640.ext E666
  have f669 := f641.ext E666
  have f670 := f642.ext E666
  have f671 := f643.ext E666
  have f672 := f644.ext E666
  have f673 := f645.ext E666
  have f674 := f646.ext E666
  have f675 := f647.ext E666
  have f676 := f648.ext E666
  have f677 := f649.ext E666
  have f678 := f650.ext E666
  have f679 := f651.ext E666
  have f680 := f652.ext E666
  have f681 := f653.ext E666
  have f682 := f654.ext E666
  have f683 := f655.ext E666
  have f684 := f656.ext E666
  have f685 := f657.ext E666
  have f686 := f658.ext E666
  have f687 := f659.ext E666
  have f688 := f660.ext E666
  have Z689 : n0 ≤ h666.size := by have q := Z661; exact Nat.le_trans q E666.1
  refine r_callS X666 hx hZ666 (y := (⟨"java/util/Objects", "requireNonNull", "(Ljava/lang/Object;Ljava/lang/String;)Ljava/lang/Object;"⟩ : MethodName)) (rm := ({ frames := 0, cells := 0, slots := 0, locals := 0 } : Room)) hown666 (hw _ (List.mem_of_getElem? (i := 62) rfl)) (hw _ (List.mem_of_getElem? (i := 63) rfl)) (hw _ (List.mem_of_getElem? (i := 64) rfl)) (hw _ (List.mem_of_getElem? (i := 65) rfl)) (by decide) (rmR2 l Z a0 hw [] pw b666 h666 n0 Z689) e666 (by rw [hml]; rfl) (argsL := [(.ref pw), (.ref b666)]) (rest := []) (lenOf pd_17 rfl) rfl rfl (W := 0) rfl (by decide) (by decide) (by decide) (by decide) (hb hby d11_35) (pc' := 38) rfl ?_
  rintro v690 T690 L690 X690 ⟨rfl, Nq690, e690⟩
  have N690 := Fr.app N665 Nq690
  show Run p e below _ _ T690 (mkF m 38 #[.val (.ref o), .val (.ref sa), .val (.int port), .val (.int tls), .val (.ref u), .val (.ref pw)] [(.ref pw)])
  refine r_castY X690 hx hZ666 hown666 (hw _ (List.mem_of_getElem? (i := 67) rfl)) e690 (Ins.of_exa f684 (hw _ (List.mem_of_getElem? (i := 68) rfl))) (hb hby d11_38) (pc' := 41) rfl (fun T691 X691 e691 => ?_)
  refine r_indyK X691 hx hZ666 (own_nmd hS666 hN) hat1 (by rw [hml]; rfl) (W := 1) rfl (by decide) (hb hby d11_41) (pc' := 46) rfl ?_
  refine r_callV X691 hx hZ666 (y := (⟨"java/util/Optional", "filter", "(Ljava/util/function/Predicate;)Ljava/util/Optional;"⟩ : MethodName)) (z := (⟨"java/util/Optional", "filter", "(Ljava/util/function/Predicate;)Ljava/util/Optional;"⟩ : MethodName)) (rm := ({ frames := 3, cells := 0, slots := 0, locals := 37 } : Room)) hown666 (hw _ (List.mem_of_getElem? (i := 72) rfl)) (hw _ (List.mem_of_getElem? (i := 73) rfl)) (notFace_of_selects (args := #[]) (mvT hZ666 (hw _ (List.mem_of_getElem? (i := 75) rfl)))) (hw _ (List.mem_of_getElem? (i := 75) rfl)) (hw _ (List.mem_of_getElem? (i := 74) rfl)) (hw _ (List.mem_of_getElem? (i := 44) rfl)) (hw _ (List.mem_of_getElem? (i := 76) rfl)) (by decide) (rmFlP1 l Z a0 hw [] pw f1 sp bp _ cK1 h666 n0 Z689 f684 f685 f686 f687 f688 hat1 f678) e691 f684 (by rw [hml]; rfl) (argsL := [(.ref f1)]) (rest := []) (lenOf pd_18 rfl) rfl rfl (W := 0) rfl (by decide) (by decide) (by decide) (by decide) (hb hby d11_46) (pc' := 49) rfl ?_
  rintro v693 T693 L693 X693 ⟨rfl, Nq693, e693⟩
  have N693 := Fr.app N690 Nq693
  show Run p e below _ _ T693 (mkF m 49 #[.val (.ref o), .val (.ref sa), .val (.int port), .val (.int tls), .val (.ref u), .val (.ref pw)] [(.ref pw)])
  refine r_astore X693.here hx (hb hby d11_49) rfl (l' := #[.val (.ref o), .val (.ref sa), .val (.int port), .val (.int tls), .val (.ref u), .val (.ref pw)]) rfl (pc' := 51) rfl ?_
  refine r_aloadN X693.here hx (hb hby d11_51) rfl rfl (pc' := 52) rfl ?_
  refine r_callV X693 hx hZ666 (y := (⟨"java/lang/String", "isEmpty", "()Z"⟩ : MethodName)) (z := (⟨"java/lang/String", "isEmpty", "()Z"⟩ : MethodName)) (rm := ({ frames := 0, cells := 0, slots := 0, locals := 0 } : Room)) hown666 (hw _ (List.mem_of_getElem? (i := 89) rfl)) (hw _ (List.mem_of_getElem? (i := 90) rfl)) (notFace_of_selects (args := #[]) (mvT hZ666 (hw _ (List.mem_of_getElem? (i := 92) rfl)))) (hw _ (List.mem_of_getElem? (i := 92) rfl)) (hw _ (List.mem_of_getElem? (i := 91) rfl)) (hw _ (List.mem_of_getElem? (i := 6) rfl)) (hw _ (List.mem_of_getElem? (i := 93) rfl)) (by decide) (rmIE l Z a0 hw [] sa sb _ ln _ h666 n0 Z689 f675 f676 (own_l12 hl).1 (own_l12 hl).2) e693 f674 (by rw [hml]; rfl) (argsL := []) (rest := []) (lenOf pd_13 rfl) rfl rfl (W := 0) rfl (by decide) (by decide) (by decide) (by decide) (hb hby d11_52) (pc' := 55) rfl ?_
  rintro v694 T694 L694 X694 ⟨rfl, Nq694, e694⟩
  have N694 := Fr.app N693 Nq694
  show Run p e below _ _ T694 (mkF m 55 #[.val (.ref o), .val (.ref sa), .val (.int port), .val (.int tls), .val (.ref u), .val (.ref pw)] [(.int (0 : Int32))])
  refine r_if0_ne X694.here hx (hb hby d11_55) (by decide) (pc' := 69) (by decide) (pc2 := 58) rfl (fun hc55 => absurd rfl hc55) (fun hc55 => ?_)
  refine r_iloadN X694.here hx (hb hby d11_58) rfl (pc' := 59) rfl ?_
  refine r_iconst X694.here hx (hb hby d11_59) (v := 1) rfl (pc' := 60) rfl ?_
  refine r_if_lt X694.here hx (hb hby d11_60) (by decide) (pc' := 69) (by decide) (pc2 := 63) rfl (fun hc60 => absurd hc60 (Int.not_lt.mpr (show (1 : Int32).toInt ≤ port.toInt from hp1))) (fun hc60 => ?_)
  refine r_iloadN X694.here hx (hb hby d11_63) rfl (pc' := 64) rfl ?_
  refine r_ldc X694 hx hZ666 hown666 (hw _ (List.mem_of_getElem? (i := 94) rfl)) (hb hby d11_64) (pc' := 66) rfl ?_
  refine r_if_le X694.here hx (hb hby d11_66) (by decide) (pc' := 79) (by decide) (pc2 := 69) rfl (fun hc66 => ?_) (fun hc66 => absurd (show port.toInt ≤ (65535 : Int32).toInt from hp2) hc66)
  refine r_aload X694.here hx (hb hby d11_79) rfl rfl (pc' := 81) rfl ?_
  refine r_callV X694 hx hZ666 (y := (⟨"java/util/Optional", "isPresent", "()Z"⟩ : MethodName)) (z := (⟨"java/util/Optional", "isPresent", "()Z"⟩ : MethodName)) (rm := ({ frames := 0, cells := 0, slots := 0, locals := 0 } : Room)) hown666 (hw _ (List.mem_of_getElem? (i := 95) rfl)) (hw _ (List.mem_of_getElem? (i := 96) rfl)) (notFace_of_selects (args := #[]) (mvT hZ666 (hw _ (List.mem_of_getElem? (i := 98) rfl)))) (hw _ (List.mem_of_getElem? (i := 98) rfl)) (hw _ (List.mem_of_getElem? (i := 97) rfl)) (hw _ (List.mem_of_getElem? (i := 44) rfl)) (hw _ (List.mem_of_getElem? (i := 99) rfl)) (by decide) (rm_isPresentP l Z a0 hw [] u su h666 n0 Z689 f679 f680) e694 f679 (by rw [hml]; rfl) (argsL := []) (rest := []) (lenOf pd_13 rfl) rfl rfl (W := 0) rfl (by decide) (by decide) (by decide) (by decide) (hb hby d11_81) (pc' := 84) rfl ?_
  rintro v695 T695 L695 X695 ⟨rfl, Nq695, e695⟩
  have N695 := Fr.app N694 Nq695
  show Run p e below _ _ T695 (mkF m 84 #[.val (.ref o), .val (.ref sa), .val (.int port), .val (.int tls), .val (.ref u), .val (.ref pw)] [(.int (1 : Int32))])
  refine r_if0_eq X695.here hx (hb hby d11_84) (by decide) (pc' := 105) (by decide) (pc2 := 87) rfl (fun hc84 => absurd hc84 (by decide)) (fun hc84 => ?_)
  refine r_aload X695.here hx (hb hby d11_87) rfl rfl (pc' := 89) rfl ?_
  refine r_callV X695 hx hZ666 (y := (⟨"java/util/Optional", "isEmpty", "()Z"⟩ : MethodName)) (z := (⟨"java/util/Optional", "isEmpty", "()Z"⟩ : MethodName)) (rm := ({ frames := 0, cells := 0, slots := 0, locals := 0 } : Room)) hown666 (hw _ (List.mem_of_getElem? (i := 148) rfl)) (hw _ (List.mem_of_getElem? (i := 81) rfl)) (notFace_of_selects (args := #[]) (mvT hZ666 (hw _ (List.mem_of_getElem? (i := 83) rfl)))) (hw _ (List.mem_of_getElem? (i := 83) rfl)) (hw _ (List.mem_of_getElem? (i := 82) rfl)) (hw _ (List.mem_of_getElem? (i := 44) rfl)) (hw _ (List.mem_of_getElem? (i := 84) rfl)) (by decide) (rm_isEmptyP l Z a0 hw [] pw sp h666 n0 Z689 f684 f685) e695 f684 (by rw [hml]; rfl) (argsL := []) (rest := []) (lenOf pd_13 rfl) rfl rfl (W := 0) rfl (by decide) (by decide) (by decide) (by decide) (hb hby d11_89) (pc' := 92) rfl ?_
  rintro v696 T696 L696 X696 ⟨rfl, Nq696, e696⟩
  have N696 := Fr.app N695 Nq696
  show Run p e below _ _ T696 (mkF m 92 #[.val (.ref o), .val (.ref sa), .val (.int port), .val (.int tls), .val (.ref u), .val (.ref pw)] [(.int (0 : Int32))])
  refine r_if0_eq X696.here hx (hb hby d11_92) (by decide) (pc' := 105) (by decide) (pc2 := 95) rfl (fun hc92 => ?_) (fun hc92 => absurd rfl hc92)
  refine r_aloadN X696.here hx (hb hby d11_105) rfl rfl (pc' := 106) rfl ?_
  refine r_aloadN X696.here hx (hb hby d11_106) rfl rfl (pc' := 107) rfl ?_
  refine r_putF X696 hx hZ666 hown666 (hw _ (List.mem_of_getElem? (i := 100) rfl)) Via.refl e696 f669 f668 (Or.inr ⟨(hw _ (List.mem_of_getElem? (i := 101) rfl)), rfl, hnm⟩) (hw _ (List.mem_of_getElem? (i := 37) rfl)) (ty := (.object "java/lang/String")) (by decide) rfl rfl (hb hby d11_107) (pc' := 110) rfl (fun T697 h697 X697 e697 W697 => ?_)
  have f698 := f669.same W697
  have K699 := K667.wr W697 (Or.inl (List.mem_of_getElem? (i := 0) rfl))
  have f700 := f668.wr W697
  have f701 := f670.other W697 (Or.inr (slot_ne (Or.inr (hw _ (List.mem_of_getElem? (i := 103) rfl)) : Laid Z a0 "com/example/lease/lease/store/RedisAddress" "com/example/lease/lease/store/RedisAddress" "port" "I") (Or.inr (hw _ (List.mem_of_getElem? (i := 101) rfl)) : Laid Z a0 "com/example/lease/lease/store/RedisAddress" "com/example/lease/lease/store/RedisAddress" "host" "Ljava/lang/String;") (by decide) (t := .int) (t' := (.object "java/lang/String")) (by decide) (by decide)))
  have f702 := f671.other W697 (Or.inr (slot_ne (Or.inr (hw _ (List.mem_of_getElem? (i := 105) rfl)) : Laid Z a0 "com/example/lease/lease/store/RedisAddress" "com/example/lease/lease/store/RedisAddress" "tls" "Z") (Or.inr (hw _ (List.mem_of_getElem? (i := 101) rfl)) : Laid Z a0 "com/example/lease/lease/store/RedisAddress" "com/example/lease/lease/store/RedisAddress" "host" "Ljava/lang/String;") (by decide) (t := .boolean) (t' := (.object "java/lang/String")) (by decide) (by decide)))
  have f703 := f672.other W697 (Or.inr (slot_ne (Or.inr (hw _ (List.mem_of_getElem? (i := 107) rfl)) : Laid Z a0 "com/example/lease/lease/store/RedisAddress" "com/example/lease/lease/store/RedisAddress" "user" "Ljava/util/Optional;") (Or.inr (hw _ (List.mem_of_getElem? (i := 101) rfl)) : Laid Z a0 "com/example/lease/lease/store/RedisAddress" "com/example/lease/lease/store/RedisAddress" "host" "Ljava/lang/String;") (by decide) (t := (.object "java/util/Optional")) (t' := (.object "java/lang/String")) (by decide) (by decide)))
  have f704 := f673.other W697 (Or.inr (slot_ne (Or.inr (hw _ (List.mem_of_getElem? (i := 109) rfl)) : Laid Z a0 "com/example/lease/lease/store/RedisAddress" "com/example/lease/lease/store/RedisAddress" "password" "Ljava/util/Optional;") (Or.inr (hw _ (List.mem_of_getElem? (i := 101) rfl)) : Laid Z a0 "com/example/lease/lease/store/RedisAddress" "com/example/lease/lease/store/RedisAddress" "host" "Ljava/lang/String;") (by decide) (t := (.object "java/util/Optional")) (t' := (.object "java/lang/String")) (by decide) (by decide)))
  have Z705 : n0 ≤ h697.size := by have q := Z689; rw [W697.size]; exact q
  have hk706 : k666 ≤ h697.size := by have q := hk666; rw [W697.size]; exact q
  have N697 := Fr.snoc X697 N696 go
  refine r_aloadN X697.here hx (hb hby d11_110) rfl rfl (pc' := 111) rfl ?_
  refine r_iloadN X697.here hx (hb hby d11_111) rfl (pc' := 112) rfl ?_
  refine r_putF X697 hx hZ666 hown666 (hw _ (List.mem_of_getElem? (i := 102) rfl)) Via.refl e697 f701 f700 (Or.inr ⟨(hw _ (List.mem_of_getElem? (i := 103) rfl)), rfl, hnm⟩) (hw _ (List.mem_of_getElem? (i := 37) rfl)) (ty := .int) (by decide) rfl rfl (hb hby d11_112) (pc' := 115) rfl (fun T707 h707 X707 e707 W707 => ?_)
  have f708 := f701.same W707
  have K709 := K699.wr W707 (Or.inl (List.mem_of_getElem? (i := 0) rfl))
  have f710 := f700.wr W707
  have f711 := f702.other W707 (Or.inr (slot_ne (Or.inr (hw _ (List.mem_of_getElem? (i := 105) rfl)) : Laid Z a0 "com/example/lease/lease/store/RedisAddress" "com/example/lease/lease/store/RedisAddress" "tls" "Z") (Or.inr (hw _ (List.mem_of_getElem? (i := 103) rfl)) : Laid Z a0 "com/example/lease/lease/store/RedisAddress" "com/example/lease/lease/store/RedisAddress" "port" "I") (by decide) (t := .boolean) (t' := .int) (by decide) (by decide)))
  have f712 := f703.other W707 (Or.inr (slot_ne (Or.inr (hw _ (List.mem_of_getElem? (i := 107) rfl)) : Laid Z a0 "com/example/lease/lease/store/RedisAddress" "com/example/lease/lease/store/RedisAddress" "user" "Ljava/util/Optional;") (Or.inr (hw _ (List.mem_of_getElem? (i := 103) rfl)) : Laid Z a0 "com/example/lease/lease/store/RedisAddress" "com/example/lease/lease/store/RedisAddress" "port" "I") (by decide) (t := (.object "java/util/Optional")) (t' := .int) (by decide) (by decide)))
  have f713 := f704.other W707 (Or.inr (slot_ne (Or.inr (hw _ (List.mem_of_getElem? (i := 109) rfl)) : Laid Z a0 "com/example/lease/lease/store/RedisAddress" "com/example/lease/lease/store/RedisAddress" "password" "Ljava/util/Optional;") (Or.inr (hw _ (List.mem_of_getElem? (i := 103) rfl)) : Laid Z a0 "com/example/lease/lease/store/RedisAddress" "com/example/lease/lease/store/RedisAddress" "port" "I") (by decide) (t := (.object "java/util/Optional")) (t' := .int) (by decide) (by decide)))
  have f714 := f698.other W707 (Or.inr (slot_ne (Or.inr (hw _ (List.mem_of_getElem? (i := 101) rfl)) : Laid Z a0 "com/example/lease/lease/store/RedisAddress" "com/example/lease/lease/store/RedisAddress" "host" "Ljava/lang/String;") (Or.inr (hw _ (List.mem_of_getElem? (i := 103) rfl)) : Laid Z a0 "com/example/lease/lease/store/RedisAddress" "com/example/lease/lease/store/RedisAddress" "port" "I") (by decide) (t := (.object "java/lang/String")) (t' := .int) (by decide) (by decide)))
  have Z715 : n0 ≤ h707.size := by have q := Z705; rw [W707.size]; exact q
  have hk716 : k666 ≤ h707.size := by have q := hk706; rw [W707.size]; exact q
  have N707 := Fr.snoc X707 N697 go
  refine r_aloadN X707.here hx (hb hby d11_115) rfl rfl (pc' := 116) rfl ?_
  refine r_iloadN X707.here hx (hb hby d11_116) rfl (pc' := 117) rfl ?_
  refine r_putFN X707 hx hZ666 hown666 (hw _ (List.mem_of_getElem? (i := 104) rfl)) Via.refl e707 f711 f710 (Or.inr ⟨(hw _ (List.mem_of_getElem? (i := 105) rfl)), rfl, hnm⟩) (hw _ (List.mem_of_getElem? (i := 37) rfl)) (ty := .boolean) (v' := (.int tls)) (by decide) (own_nz htl) (own_fz htl) (hb hby d11_117) (pc' := 120) rfl (fun T717 h717 X717 e717 W717 => ?_)
  have f718 := f711.same W717
  have K719 := K709.wr W717 (Or.inl (List.mem_of_getElem? (i := 0) rfl))
  have f720 := f710.wr W717
  have f721 := f712.other W717 (Or.inr (slot_ne (Or.inr (hw _ (List.mem_of_getElem? (i := 107) rfl)) : Laid Z a0 "com/example/lease/lease/store/RedisAddress" "com/example/lease/lease/store/RedisAddress" "user" "Ljava/util/Optional;") (Or.inr (hw _ (List.mem_of_getElem? (i := 105) rfl)) : Laid Z a0 "com/example/lease/lease/store/RedisAddress" "com/example/lease/lease/store/RedisAddress" "tls" "Z") (by decide) (t := (.object "java/util/Optional")) (t' := .boolean) (by decide) (by decide)))
  have f722 := f713.other W717 (Or.inr (slot_ne (Or.inr (hw _ (List.mem_of_getElem? (i := 109) rfl)) : Laid Z a0 "com/example/lease/lease/store/RedisAddress" "com/example/lease/lease/store/RedisAddress" "password" "Ljava/util/Optional;") (Or.inr (hw _ (List.mem_of_getElem? (i := 105) rfl)) : Laid Z a0 "com/example/lease/lease/store/RedisAddress" "com/example/lease/lease/store/RedisAddress" "tls" "Z") (by decide) (t := (.object "java/util/Optional")) (t' := .boolean) (by decide) (by decide)))
  have f723 := f714.other W717 (Or.inr (slot_ne (Or.inr (hw _ (List.mem_of_getElem? (i := 101) rfl)) : Laid Z a0 "com/example/lease/lease/store/RedisAddress" "com/example/lease/lease/store/RedisAddress" "host" "Ljava/lang/String;") (Or.inr (hw _ (List.mem_of_getElem? (i := 105) rfl)) : Laid Z a0 "com/example/lease/lease/store/RedisAddress" "com/example/lease/lease/store/RedisAddress" "tls" "Z") (by decide) (t := (.object "java/lang/String")) (t' := .boolean) (by decide) (by decide)))
  have f724 := f708.other W717 (Or.inr (slot_ne (Or.inr (hw _ (List.mem_of_getElem? (i := 103) rfl)) : Laid Z a0 "com/example/lease/lease/store/RedisAddress" "com/example/lease/lease/store/RedisAddress" "port" "I") (Or.inr (hw _ (List.mem_of_getElem? (i := 105) rfl)) : Laid Z a0 "com/example/lease/lease/store/RedisAddress" "com/example/lease/lease/store/RedisAddress" "tls" "Z") (by decide) (t := .int) (t' := .boolean) (by decide) (by decide)))
  have Z725 : n0 ≤ h717.size := by have q := Z715; rw [W717.size]; exact q
  have hk726 : k666 ≤ h717.size := by have q := hk716; rw [W717.size]; exact q
  have N717 := Fr.snoc X717 N707 go
  refine r_aloadN X717.here hx (hb hby d11_120) rfl rfl (pc' := 121) rfl ?_
  refine r_aload X717.here hx (hb hby d11_121) rfl rfl (pc' := 123) rfl ?_
  refine r_putF X717 hx hZ666 hown666 (hw _ (List.mem_of_getElem? (i := 106) rfl)) Via.refl e717 f721 f720 (Or.inr ⟨(hw _ (List.mem_of_getElem? (i := 107) rfl)), rfl, hnm⟩) (hw _ (List.mem_of_getElem? (i := 37) rfl)) (ty := (.object "java/util/Optional")) (by decide) rfl rfl (hb hby d11_123) (pc' := 126) rfl (fun T727 h727 X727 e727 W727 => ?_)
  have f728 := f721.same W727
  have K729 := K719.wr W727 (Or.inl (List.mem_of_getElem? (i := 0) rfl))
  have f730 := f720.wr W727
  have f731 := f722.other W727 (Or.inr (slot_ne (Or.inr (hw _ (List.mem_of_getElem? (i := 109) rfl)) : Laid Z a0 "com/example/lease/lease/store/RedisAddress" "com/example/lease/lease/store/RedisAddress" "password" "Ljava/util/Optional;") (Or.inr (hw _ (List.mem_of_getElem? (i := 107) rfl)) : Laid Z a0 "com/example/lease/lease/store/RedisAddress" "com/example/lease/lease/store/RedisAddress" "user" "Ljava/util/Optional;") (by decide) (t := (.object "java/util/Optional")) (t' := (.object "java/util/Optional")) (by decide) (by decide)))
  have f732 := f723.other W727 (Or.inr (slot_ne (Or.inr (hw _ (List.mem_of_getElem? (i := 101) rfl)) : Laid Z a0 "com/example/lease/lease/store/RedisAddress" "com/example/lease/lease/store/RedisAddress" "host" "Ljava/lang/String;") (Or.inr (hw _ (List.mem_of_getElem? (i := 107) rfl)) : Laid Z a0 "com/example/lease/lease/store/RedisAddress" "com/example/lease/lease/store/RedisAddress" "user" "Ljava/util/Optional;") (by decide) (t := (.object "java/lang/String")) (t' := (.object "java/util/Optional")) (by decide) (by decide)))
  have f733 := f724.other W727 (Or.inr (slot_ne (Or.inr (hw _ (List.mem_of_getElem? (i := 103) rfl)) : Laid Z a0 "com/example/lease/lease/store/RedisAddress" "com/example/lease/lease/store/RedisAddress" "port" "I") (Or.inr (hw _ (List.mem_of_getElem? (i := 107) rfl)) : Laid Z a0 "com/example/lease/lease/store/RedisAddress" "com/example/lease/lease/store/RedisAddress" "user" "Ljava/util/Optional;") (by decide) (t := .int) (t' := (.object "java/util/Optional")) (by decide) (by decide)))
  have f734 := f718.other W727 (Or.inr (slot_ne (Or.inr (hw _ (List.mem_of_getElem? (i := 105) rfl)) : Laid Z a0 "com/example/lease/lease/store/RedisAddress" "com/example/lease/lease/store/RedisAddress" "tls" "Z") (Or.inr (hw _ (List.mem_of_getElem? (i := 107) rfl)) : Laid Z a0 "com/example/lease/lease/store/RedisAddress" "com/example/lease/lease/store/RedisAddress" "user" "Ljava/util/Optional;") (by decide) (t := .boolean) (t' := (.object "java/util/Optional")) (by decide) (by decide)))
  have Z735 : n0 ≤ h727.size := by have q := Z725; rw [W727.size]; exact q
  have hk736 : k666 ≤ h727.size := by have q := hk726; rw [W727.size]; exact q
  have N727 := Fr.snoc X727 N717 go
  refine r_aloadN X727.here hx (hb hby d11_126) rfl rfl (pc' := 127) rfl ?_
  refine r_aload X727.here hx (hb hby d11_127) rfl rfl (pc' := 129) rfl ?_
  refine r_putF X727 hx hZ666 hown666 (hw _ (List.mem_of_getElem? (i := 108) rfl)) Via.refl e727 f731 f730 (Or.inr ⟨(hw _ (List.mem_of_getElem? (i := 109) rfl)), rfl, hnm⟩) (hw _ (List.mem_of_getElem? (i := 37) rfl)) (ty := (.object "java/util/Optional")) (by decide) rfl rfl (hb hby d11_129) (pc' := 132) rfl (fun T737 h737 X737 e737 W737 => ?_)
  have f738 := f731.same W737
  have K739 := K729.wr W737 (Or.inl (List.mem_of_getElem? (i := 0) rfl))
  have f740 := f730.wr W737
  have f741 := f732.other W737 (Or.inr (slot_ne (Or.inr (hw _ (List.mem_of_getElem? (i := 101) rfl)) : Laid Z a0 "com/example/lease/lease/store/RedisAddress" "com/example/lease/lease/store/RedisAddress" "host" "Ljava/lang/String;") (Or.inr (hw _ (List.mem_of_getElem? (i := 109) rfl)) : Laid Z a0 "com/example/lease/lease/store/RedisAddress" "com/example/lease/lease/store/RedisAddress" "password" "Ljava/util/Optional;") (by decide) (t := (.object "java/lang/String")) (t' := (.object "java/util/Optional")) (by decide) (by decide)))
  have f742 := f733.other W737 (Or.inr (slot_ne (Or.inr (hw _ (List.mem_of_getElem? (i := 103) rfl)) : Laid Z a0 "com/example/lease/lease/store/RedisAddress" "com/example/lease/lease/store/RedisAddress" "port" "I") (Or.inr (hw _ (List.mem_of_getElem? (i := 109) rfl)) : Laid Z a0 "com/example/lease/lease/store/RedisAddress" "com/example/lease/lease/store/RedisAddress" "password" "Ljava/util/Optional;") (by decide) (t := .int) (t' := (.object "java/util/Optional")) (by decide) (by decide)))
  have f743 := f734.other W737 (Or.inr (slot_ne (Or.inr (hw _ (List.mem_of_getElem? (i := 105) rfl)) : Laid Z a0 "com/example/lease/lease/store/RedisAddress" "com/example/lease/lease/store/RedisAddress" "tls" "Z") (Or.inr (hw _ (List.mem_of_getElem? (i := 109) rfl)) : Laid Z a0 "com/example/lease/lease/store/RedisAddress" "com/example/lease/lease/store/RedisAddress" "password" "Ljava/util/Optional;") (by decide) (t := .boolean) (t' := (.object "java/util/Optional")) (by decide) (by decide)))
  have f744 := f728.other W737 (Or.inr (slot_ne (Or.inr (hw _ (List.mem_of_getElem? (i := 107) rfl)) : Laid Z a0 "com/example/lease/lease/store/RedisAddress" "com/example/lease/lease/store/RedisAddress" "user" "Ljava/util/Optional;") (Or.inr (hw _ (List.mem_of_getElem? (i := 109) rfl)) : Laid Z a0 "com/example/lease/lease/store/RedisAddress" "com/example/lease/lease/store/RedisAddress" "password" "Ljava/util/Optional;") (by decide) (t := (.object "java/util/Optional")) (t' := (.object "java/util/Optional")) (by decide) (by decide)))
  have Z745 : n0 ≤ h737.size := by have q := Z735; rw [W737.size]; exact q
  have hk746 : k666 ≤ h737.size := by have q := hk736; rw [W737.size]; exact q
  have N737 := Fr.snoc X737 N727 go
  refine w_ret0 (s := s) (vm1 := T666.vm) X737 hS666 (by rw [e737]; exact hk746) hx hlk hret (hb hby d11_132) ?_ (by decide) (by decide)
  try rw [e737]
  exact ⟨rfl, N737, K739, f741, f742⟩
theorem rmIn (l : Launch) (Z : State) (a0 : Array Value) (hw : ∀ d ∈ tables_1, d.before a0 Z = true) (ws : List Jvm.Cond) (o sa sb u pw f0 f1 : Addr) (cK0 cK1 : ClassId) (ln c0 c1 port tls : Int32) (Bu Bp : Prop) (h0 : Heap) (n0 : Nat) (Z0 : n0 ≤ h0.size) (go : n0 ≤ o) (E_o : Exa Z h0 o "com/example/lease/lease/store/RedisAddress") (F_o_host : Fld Z h0 o "com/example/lease/lease/store/RedisAddress" "host" "Ljava/lang/String;" .null) (F_o_port : Fld Z h0 o "com/example/lease/lease/store/RedisAddress" "port" "I" (.int (0 : Int32))) (F_o_tls : Fld Z h0 o "com/example/lease/lease/store/RedisAddress" "tls" "Z" (.int (0 : Int32))) (F_o_user : Fld Z h0 o "com/example/lease/lease/store/RedisAddress" "user" "Ljava/util/Optional;" .null) (F_o_password : Fld Z h0 o "com/example/lease/lease/store/RedisAddress" "password" "Ljava/util/Optional;" .null) (E_sa : Exa Z h0 sa "java/lang/String") (V_sa : Fld Z h0 sa "java/lang/String" "value" "[B" (.ref sb)) (A_sa : Ary Z h0 sb .byte ln.toInt.toNat (fun i => .int (own_g c0 c1 i))) (hl : ln = 1 ∨ ln = 2) (hp1 : 1 ≤ port.toInt) (hp2 : port.toInt ≤ 65535) (htl : tls = 0 ∨ tls = 1) (hat0 : Z.lambdaAt? (⟨"com/example/lease/lease/store/RedisAddress", "<init>", "(Ljava/lang/String;IZLjava/util/Optional;Ljava/util/Optional;)V"⟩ : MethodName) 21 19 own_sh0 = some (cK0, some f0)) (hat1 : Z.lambdaAt? (⟨"com/example/lease/lease/store/RedisAddress", "<init>", "(Ljava/lang/String;IZLjava/util/Optional;Ljava/util/Optional;)V"⟩ : MethodName) 41 29 own_sh1 = some (cK1, some f1)) (Lm0 : Lmo Z h0 f0 cK0) (Lm1 : Lmo Z h0 f1 cK1) (Ou : Opv Z h0 u Bu) (Op : Opv Z h0 pw Bp) (hup : Bu → Bp) :
    MetW l Z (⟨"com/example/lease/lease/store/RedisAddress", "<init>", "(Ljava/lang/String;IZLjava/util/Optional;Ljava/util/Optional;)V"⟩ : MethodName) prog_23_method_1_code 6 none ws ({ frames := 4, cells := 6, slots := 76, locals := 3073 } : Room) #[(.ref o), (.ref sa), (.int port), (.int tls), (.ref u), (.ref pw)] h0 (fun v h L => v = none ∧ Fr n0 L ∧ Keep h0 h [o] ∧ Fld Z h o "com/example/lease/lease/store/RedisAddress" "host" "Ljava/lang/String;" (.ref sa) ∧ Fld Z h o "com/example/lease/lease/store/RedisAddress" "port" "I" (.int port)) 6 76 := by
  obtain ⟨Eu, ⟨nu, Fu⟩ | ⟨bu, su, xu, fu, Fu, Esu, Vu, Au⟩⟩ := Ou <;> obtain ⟨Ep, ⟨np, Fp⟩ | ⟨bp, sp, xp, fp, Fp, Esp, Vp, Ap⟩⟩ := Op
  · exact rmInEE l Z a0 hw ws o sa sb u pw f0 f1 cK0 cK1 ln c0 c1 port tls h0 n0 Z0 go E_o F_o_host F_o_port F_o_tls F_o_user F_o_password E_sa V_sa A_sa hl hp1 hp2 htl hat0 hat1 Lm0 Lm1 Eu Fu Ep Fp
  · exact rmInEP l Z a0 hw ws o sa sb u pw f0 f1 cK0 cK1 ln c0 c1 port tls sp xp fp h0 n0 Z0 go E_o F_o_host F_o_port F_o_tls F_o_user F_o_password E_sa V_sa A_sa hl hp1 hp2 htl hat0 hat1 Lm0 Lm1 Eu Fu Ep Fp Esp Vp Ap
  · exact absurd (hup bu) np
  · exact rmInPP l Z a0 hw ws o sa sb u pw f0 f1 cK0 cK1 ln c0 c1 port tls su xu fu sp xp fp h0 n0 Z0 go E_o F_o_host F_o_port F_o_tls F_o_user F_o_password E_sa V_sa A_sa hl hp1 hp2 htl hat0 hat1 Lm0 Lm1 Eu Fu Esu Vu Au Ep Fp Esp Vp Ap
def own_eqv (n1 n2 : Nat) (g1 g2 : Nat → Int32) : Int32 := if n1 = n2 ∧ g1 0 = g2 0 ∧ (n1 = 1 ∨ g1 1 = g2 1) then 1 else 0
theorem own_eqv01 (n1 n2 : Nat) (g1 g2 : Nat → Int32) : own_eqv n1 n2 g1 g2 = 0 ∨ own_eqv n1 n2 g1 g2 = 1 := by
  unfold own_eqv; split
  · exact Or.inr rfl
  · exact Or.inl rfl
def own_req (r p1 p2 : Int32) : Int32 := if r = 1 ∧ p1 = p2 then 1 else 0
theorem d29_0 : decode jdk_43_method_13_code 0 = .ok (.aload_n 0, 1) := by decide +kernel
theorem d29_1 : decode jdk_43_method_13_code 1 = .ok (.arraylength, 1) := by decide +kernel
theorem d29_2 : decode jdk_43_method_13_code 2 = .ok (.aload_n 1, 1) := by decide +kernel
theorem d29_3 : decode jdk_43_method_13_code 3 = .ok (.arraylength, 1) := by decide +kernel
theorem d29_4 : decode jdk_43_method_13_code 4 = .ok (.if_icmp .ne 30, 3) := by decide +kernel
theorem d29_7 : decode jdk_43_method_13_code 7 = .ok (.iconst 0, 1) := by decide +kernel
theorem d29_8 : decode jdk_43_method_13_code 8 = .ok (.istore_n 2, 1) := by decide +kernel
theorem d29_9 : decode jdk_43_method_13_code 9 = .ok (.iload_n 2, 1) := by decide +kernel
theorem d29_10 : decode jdk_43_method_13_code 10 = .ok (.aload_n 0, 1) := by decide +kernel
theorem d29_11 : decode jdk_43_method_13_code 11 = .ok (.arraylength, 1) := by decide +kernel
theorem d29_12 : decode jdk_43_method_13_code 12 = .ok (.if_icmp .ge 20, 3) := by decide +kernel
theorem d29_15 : decode jdk_43_method_13_code 15 = .ok (.aload_n 0, 1) := by decide +kernel
theorem d29_16 : decode jdk_43_method_13_code 16 = .ok (.iload_n 2, 1) := by decide +kernel
theorem d29_17 : decode jdk_43_method_13_code 17 = .ok (.baload, 1) := by decide +kernel
theorem d29_18 : decode jdk_43_method_13_code 18 = .ok (.aload_n 1, 1) := by decide +kernel
theorem d29_19 : decode jdk_43_method_13_code 19 = .ok (.iload_n 2, 1) := by decide +kernel
theorem d29_20 : decode jdk_43_method_13_code 20 = .ok (.baload, 1) := by decide +kernel
theorem d29_21 : decode jdk_43_method_13_code 21 = .ok (.if_icmp .eq 5, 3) := by decide +kernel
theorem d29_26 : decode jdk_43_method_13_code 26 = .ok (.iinc 2 1, 3) := by decide +kernel
theorem d29_29 : decode jdk_43_method_13_code 29 = .ok (.goto (-20), 3) := by decide +kernel
theorem d29_32 : decode jdk_43_method_13_code 32 = .ok (.iconst 1, 1) := by decide +kernel
theorem d29_33 : decode jdk_43_method_13_code 33 = .ok (.ireturn, 1) := by decide +kernel
theorem d29_24 : decode jdk_43_method_13_code 24 = .ok (.iconst 0, 1) := by decide +kernel
theorem d29_25 : decode jdk_43_method_13_code 25 = .ok (.ireturn, 1) := by decide +kernel
theorem d29_34 : decode jdk_43_method_13_code 34 = .ok (.iconst 0, 1) := by decide +kernel
theorem d29_35 : decode jdk_43_method_13_code 35 = .ok (.ireturn, 1) := by decide +kernel
theorem ef_rmLe11 (m : MethodId) (x0 : Addr) (x1 : Addr) : entryFrame m #[(.ref x0), (.ref x1)] 3 = mkF m 0 #[.val (.ref x0), .val (.ref x1), .unset] [] := by first | (simp [entryFrame, mkF, argsToLocals, Value.category, maxLocals]; done) | rfl
set_option maxRecDepth 65536 in
set_option maxHeartbeats 40000000 in
theorem rmLe11 (l : Launch) (Z : State) (a0 : Array Value) (hw : ∀ d ∈ tables_1, d.before a0 Z = true) (ws : List Jvm.Cond) (b1 b2 : Addr) (g1 g2 : Nat → Int32) (h0 : Heap) (n0 : Nat) (Z0 : n0 ≤ h0.size) (A_1 : Ary Z h0 b1 .byte 1 (fun i => .int (g1 i))) (A_2 : Ary Z h0 b2 .byte 1 (fun i => .int (g2 i)))  :
    Met l Z (⟨"java/lang/StringLatin1", "equals", "([B[B)Z"⟩ : MethodName) jdk_43_method_13_code 3 (some .boolean) ws ({ frames := 0, cells := 0, slots := 0, locals := 0 } : Room) #[(.ref b1), (.ref b2)] h0 (fun v h L => v = some (.int (own_eqv 1 1 g1 g2)) ∧ Fr n0 L ∧ h = h0) 0 0 := by
  refine met_of (plainFor_of_name pn_3) (f0 := fun m => (mkF m 0 #[.val (.ref b1), .val (.ref b2), .unset] [])) (fun m => ef_rmLe11 m b1 b2) ?_
  intro p e s m below meth c s₁ X0 hx hby hml hret hlk hown hnm hZ e0
  replace hown : s.vm.findClass "java/lang/StringLatin1" = some m.cls := hown
  have N0 := Fr.nil n0
  refine r_aloadN X0.here hx (hb hby d29_0) rfl rfl (pc' := 1) rfl ?_
  refine r_len X0 hx hZ e0 (z := (1 : Int32)) A_1 rfl (hb hby d29_1) (pc' := 2) rfl ?_
  refine r_aloadN X0.here hx (hb hby d29_2) rfl rfl (pc' := 3) rfl ?_
  refine r_len X0 hx hZ e0 (z := (1 : Int32)) A_2 rfl (hb hby d29_3) (pc' := 4) rfl ?_
  refine r_if_ne X0.here hx (hb hby d29_4) (by decide) (pc' := 34) (by decide) (pc2 := 7) rfl (fun hc4 => absurd rfl hc4) (fun hc4 => ?_)
  refine r_iconst X0.here hx (hb hby d29_7) (v := 0) rfl (pc' := 8) rfl ?_
  refine r_istoreN X0.here hx (hb hby d29_8) (l' := #[.val (.ref b1), .val (.ref b2), .val (.int (0 : Int32))]) rfl (pc' := 9) rfl ?_
  refine r_iloadN X0.here hx (hb hby d29_9) rfl (pc' := 10) rfl ?_
  refine r_aloadN X0.here hx (hb hby d29_10) rfl rfl (pc' := 11) rfl ?_
  refine r_len X0 hx hZ e0 (z := (1 : Int32)) A_1 rfl (hb hby d29_11) (pc' := 12) rfl ?_
  refine r_if_ge X0.here hx (hb hby d29_12) (by decide) (pc' := 32) (by decide) (pc2 := 15) rfl (fun hc12 => absurd hc12 (by decide)) (fun hc12 => ?_)
  refine r_aloadN X0.here hx (hb hby d29_15) rfl rfl (pc' := 16) rfl ?_
  refine r_iloadN X0.here hx (hb hby d29_16) rfl (pc' := 17) rfl ?_
  refine q_baload X0 hx hZ e0 (j := (0 : Int32)) (v := (g1 0)) A_1 (by decide) (by decide) rfl (hb hby d29_17) (pc' := 18) rfl ?_
  refine r_aloadN X0.here hx (hb hby d29_18) rfl rfl (pc' := 19) rfl ?_
  refine r_iloadN X0.here hx (hb hby d29_19) rfl (pc' := 20) rfl ?_
  refine q_baload X0 hx hZ e0 (j := (0 : Int32)) (v := (g2 0)) A_2 (by decide) (by decide) rfl (hb hby d29_20) (pc' := 21) rfl ?_
  refine r_if_eq X0.here hx (hb hby d29_21) (by decide) (pc' := 26) (by decide) (pc2 := 24) rfl (fun hc21 => ?_) (fun hc21 => ?_)
  · refine r_iinc X0.here hx (hb hby d29_26) rfl (z := (1 : Int32)) rfl (l' := #[.val (.ref b1), .val (.ref b2), .val (.int (1 : Int32))]) rfl (pc' := 29) rfl ?_
    refine r_goto X0.here hx (hb hby d29_29) (by decide) (pc' := 9) (by decide) ?_
    refine r_iloadN X0.here hx (hb hby d29_9) rfl (pc' := 10) rfl ?_
    refine r_aloadN X0.here hx (hb hby d29_10) rfl rfl (pc' := 11) rfl ?_
    refine r_len X0 hx hZ e0 (z := (1 : Int32)) A_1 rfl (hb hby d29_11) (pc' := 12) rfl ?_
    refine r_if_ge X0.here hx (hb hby d29_12) (by decide) (pc' := 32) (by decide) (pc2 := 15) rfl (fun hc12_1 => ?_) (fun hc12_1 => absurd (by decide) hc12_1)
    refine r_iconst X0.here hx (hb hby d29_32) (v := 1) rfl (pc' := 33) rfl ?_
    refine r_retN X0 hx hlk hret (by simp) (hb hby d29_33) (w := (1 : Int32)) rfl ?_ (by decide) (by decide)
    try rw [e0]
    exact ⟨congrArg (fun z => some (Value.int z)) (if_pos ⟨rfl, hc21, Or.inl rfl⟩).symm, N0, rfl⟩
  · refine r_iconst X0.here hx (hb hby d29_24) (v := 0) rfl (pc' := 25) rfl ?_
    refine r_retN X0 hx hlk hret (by simp) (hb hby d29_25) (w := (0 : Int32)) rfl ?_ (by decide) (by decide)
    try rw [e0]
    exact ⟨congrArg (fun z => some (Value.int z)) (if_neg (fun q => hc21 q.2.1)).symm, N0, rfl⟩
theorem ef_rmLe12 (m : MethodId) (x0 : Addr) (x1 : Addr) : entryFrame m #[(.ref x0), (.ref x1)] 3 = mkF m 0 #[.val (.ref x0), .val (.ref x1), .unset] [] := by first | (simp [entryFrame, mkF, argsToLocals, Value.category, maxLocals]; done) | rfl
set_option maxRecDepth 65536 in
set_option maxHeartbeats 40000000 in
theorem rmLe12 (l : Launch) (Z : State) (a0 : Array Value) (hw : ∀ d ∈ tables_1, d.before a0 Z = true) (ws : List Jvm.Cond) (b1 b2 : Addr) (g1 g2 : Nat → Int32) (h0 : Heap) (n0 : Nat) (Z0 : n0 ≤ h0.size) (A_1 : Ary Z h0 b1 .byte 1 (fun i => .int (g1 i))) (A_2 : Ary Z h0 b2 .byte 2 (fun i => .int (g2 i)))  :
    Met l Z (⟨"java/lang/StringLatin1", "equals", "([B[B)Z"⟩ : MethodName) jdk_43_method_13_code 3 (some .boolean) ws ({ frames := 0, cells := 0, slots := 0, locals := 0 } : Room) #[(.ref b1), (.ref b2)] h0 (fun v h L => v = some (.int (own_eqv 1 2 g1 g2)) ∧ Fr n0 L ∧ h = h0) 0 0 := by
  refine met_of (plainFor_of_name pn_3) (f0 := fun m => (mkF m 0 #[.val (.ref b1), .val (.ref b2), .unset] [])) (fun m => ef_rmLe12 m b1 b2) ?_
  intro p e s m below meth c s₁ X0 hx hby hml hret hlk hown hnm hZ e0
  replace hown : s.vm.findClass "java/lang/StringLatin1" = some m.cls := hown
  have N0 := Fr.nil n0
  refine r_aloadN X0.here hx (hb hby d29_0) rfl rfl (pc' := 1) rfl ?_
  refine r_len X0 hx hZ e0 (z := (1 : Int32)) A_1 rfl (hb hby d29_1) (pc' := 2) rfl ?_
  refine r_aloadN X0.here hx (hb hby d29_2) rfl rfl (pc' := 3) rfl ?_
  refine r_len X0 hx hZ e0 (z := (2 : Int32)) A_2 rfl (hb hby d29_3) (pc' := 4) rfl ?_
  refine r_if_ne X0.here hx (hb hby d29_4) (by decide) (pc' := 34) (by decide) (pc2 := 7) rfl (fun hc4 => ?_) (fun hc4 => absurd (by decide) hc4)
  refine r_iconst X0.here hx (hb hby d29_34) (v := 0) rfl (pc' := 35) rfl ?_
  refine r_retN X0 hx hlk hret (by simp) (hb hby d29_35) (w := (0 : Int32)) rfl ?_ (by decide) (by decide)
  try rw [e0]
  exact ⟨congrArg (fun z => some (Value.int z)) (if_neg (fun q => absurd q.1 (by decide))).symm, N0, rfl⟩
theorem ef_rmLe21 (m : MethodId) (x0 : Addr) (x1 : Addr) : entryFrame m #[(.ref x0), (.ref x1)] 3 = mkF m 0 #[.val (.ref x0), .val (.ref x1), .unset] [] := by first | (simp [entryFrame, mkF, argsToLocals, Value.category, maxLocals]; done) | rfl
set_option maxRecDepth 65536 in
set_option maxHeartbeats 40000000 in
theorem rmLe21 (l : Launch) (Z : State) (a0 : Array Value) (hw : ∀ d ∈ tables_1, d.before a0 Z = true) (ws : List Jvm.Cond) (b1 b2 : Addr) (g1 g2 : Nat → Int32) (h0 : Heap) (n0 : Nat) (Z0 : n0 ≤ h0.size) (A_1 : Ary Z h0 b1 .byte 2 (fun i => .int (g1 i))) (A_2 : Ary Z h0 b2 .byte 1 (fun i => .int (g2 i)))  :
    Met l Z (⟨"java/lang/StringLatin1", "equals", "([B[B)Z"⟩ : MethodName) jdk_43_method_13_code 3 (some .boolean) ws ({ frames := 0, cells := 0, slots := 0, locals := 0 } : Room) #[(.ref b1), (.ref b2)] h0 (fun v h L => v = some (.int (own_eqv 2 1 g1 g2)) ∧ Fr n0 L ∧ h = h0) 0 0 := by
  refine met_of (plainFor_of_name pn_3) (f0 := fun m => (mkF m 0 #[.val (.ref b1), .val (.ref b2), .unset] [])) (fun m => ef_rmLe21 m b1 b2) ?_
  intro p e s m below meth c s₁ X0 hx hby hml hret hlk hown hnm hZ e0
  replace hown : s.vm.findClass "java/lang/StringLatin1" = some m.cls := hown
  have N0 := Fr.nil n0
  refine r_aloadN X0.here hx (hb hby d29_0) rfl rfl (pc' := 1) rfl ?_
  refine r_len X0 hx hZ e0 (z := (2 : Int32)) A_1 rfl (hb hby d29_1) (pc' := 2) rfl ?_
  refine r_aloadN X0.here hx (hb hby d29_2) rfl rfl (pc' := 3) rfl ?_
  refine r_len X0 hx hZ e0 (z := (1 : Int32)) A_2 rfl (hb hby d29_3) (pc' := 4) rfl ?_
  refine r_if_ne X0.here hx (hb hby d29_4) (by decide) (pc' := 34) (by decide) (pc2 := 7) rfl (fun hc4 => ?_) (fun hc4 => absurd (by decide) hc4)
  refine r_iconst X0.here hx (hb hby d29_34) (v := 0) rfl (pc' := 35) rfl ?_
  refine r_retN X0 hx hlk hret (by simp) (hb hby d29_35) (w := (0 : Int32)) rfl ?_ (by decide) (by decide)
  try rw [e0]
  exact ⟨congrArg (fun z => some (Value.int z)) (if_neg (fun q => absurd q.1 (by decide))).symm, N0, rfl⟩
theorem ef_rmLe22 (m : MethodId) (x0 : Addr) (x1 : Addr) : entryFrame m #[(.ref x0), (.ref x1)] 3 = mkF m 0 #[.val (.ref x0), .val (.ref x1), .unset] [] := by first | (simp [entryFrame, mkF, argsToLocals, Value.category, maxLocals]; done) | rfl
set_option maxRecDepth 65536 in
set_option maxHeartbeats 40000000 in
theorem rmLe22 (l : Launch) (Z : State) (a0 : Array Value) (hw : ∀ d ∈ tables_1, d.before a0 Z = true) (ws : List Jvm.Cond) (b1 b2 : Addr) (g1 g2 : Nat → Int32) (h0 : Heap) (n0 : Nat) (Z0 : n0 ≤ h0.size) (A_1 : Ary Z h0 b1 .byte 2 (fun i => .int (g1 i))) (A_2 : Ary Z h0 b2 .byte 2 (fun i => .int (g2 i)))  :
    Met l Z (⟨"java/lang/StringLatin1", "equals", "([B[B)Z"⟩ : MethodName) jdk_43_method_13_code 3 (some .boolean) ws ({ frames := 0, cells := 0, slots := 0, locals := 0 } : Room) #[(.ref b1), (.ref b2)] h0 (fun v h L => v = some (.int (own_eqv 2 2 g1 g2)) ∧ Fr n0 L ∧ h = h0) 0 0 := by
  refine met_of (plainFor_of_name pn_3) (f0 := fun m => (mkF m 0 #[.val (.ref b1), .val (.ref b2), .unset] [])) (fun m => ef_rmLe22 m b1 b2) ?_
  intro p e s m below meth c s₁ X0 hx hby hml hret hlk hown hnm hZ e0
  replace hown : s.vm.findClass "java/lang/StringLatin1" = some m.cls := hown
  have N0 := Fr.nil n0
  refine r_aloadN X0.here hx (hb hby d29_0) rfl rfl (pc' := 1) rfl ?_
  refine r_len X0 hx hZ e0 (z := (2 : Int32)) A_1 rfl (hb hby d29_1) (pc' := 2) rfl ?_
  refine r_aloadN X0.here hx (hb hby d29_2) rfl rfl (pc' := 3) rfl ?_
  refine r_len X0 hx hZ e0 (z := (2 : Int32)) A_2 rfl (hb hby d29_3) (pc' := 4) rfl ?_
  refine r_if_ne X0.here hx (hb hby d29_4) (by decide) (pc' := 34) (by decide) (pc2 := 7) rfl (fun hc4 => absurd rfl hc4) (fun hc4 => ?_)
  refine r_iconst X0.here hx (hb hby d29_7) (v := 0) rfl (pc' := 8) rfl ?_
  refine r_istoreN X0.here hx (hb hby d29_8) (l' := #[.val (.ref b1), .val (.ref b2), .val (.int (0 : Int32))]) rfl (pc' := 9) rfl ?_
  refine r_iloadN X0.here hx (hb hby d29_9) rfl (pc' := 10) rfl ?_
  refine r_aloadN X0.here hx (hb hby d29_10) rfl rfl (pc' := 11) rfl ?_
  refine r_len X0 hx hZ e0 (z := (2 : Int32)) A_1 rfl (hb hby d29_11) (pc' := 12) rfl ?_
  refine r_if_ge X0.here hx (hb hby d29_12) (by decide) (pc' := 32) (by decide) (pc2 := 15) rfl (fun hc12 => absurd hc12 (by decide)) (fun hc12 => ?_)
  refine r_aloadN X0.here hx (hb hby d29_15) rfl rfl (pc' := 16) rfl ?_
  refine r_iloadN X0.here hx (hb hby d29_16) rfl (pc' := 17) rfl ?_
  refine q_baload X0 hx hZ e0 (j := (0 : Int32)) (v := (g1 0)) A_1 (by decide) (by decide) rfl (hb hby d29_17) (pc' := 18) rfl ?_
  refine r_aloadN X0.here hx (hb hby d29_18) rfl rfl (pc' := 19) rfl ?_
  refine r_iloadN X0.here hx (hb hby d29_19) rfl (pc' := 20) rfl ?_
  refine q_baload X0 hx hZ e0 (j := (0 : Int32)) (v := (g2 0)) A_2 (by decide) (by decide) rfl (hb hby d29_20) (pc' := 21) rfl ?_
  refine r_if_eq X0.here hx (hb hby d29_21) (by decide) (pc' := 26) (by decide) (pc2 := 24) rfl (fun hc21 => ?_) (fun hc21 => ?_)
  · refine r_iinc X0.here hx (hb hby d29_26) rfl (z := (1 : Int32)) rfl (l' := #[.val (.ref b1), .val (.ref b2), .val (.int (1 : Int32))]) rfl (pc' := 29) rfl ?_
    refine r_goto X0.here hx (hb hby d29_29) (by decide) (pc' := 9) (by decide) ?_
    refine r_iloadN X0.here hx (hb hby d29_9) rfl (pc' := 10) rfl ?_
    refine r_aloadN X0.here hx (hb hby d29_10) rfl rfl (pc' := 11) rfl ?_
    refine r_len X0 hx hZ e0 (z := (2 : Int32)) A_1 rfl (hb hby d29_11) (pc' := 12) rfl ?_
    refine r_if_ge X0.here hx (hb hby d29_12) (by decide) (pc' := 32) (by decide) (pc2 := 15) rfl (fun hc12_1 => absurd hc12_1 (by decide)) (fun hc12_1 => ?_)
    refine r_aloadN X0.here hx (hb hby d29_15) rfl rfl (pc' := 16) rfl ?_
    refine r_iloadN X0.here hx (hb hby d29_16) rfl (pc' := 17) rfl ?_
    refine q_baload X0 hx hZ e0 (j := (1 : Int32)) (v := (g1 1)) A_1 (by decide) (by decide) rfl (hb hby d29_17) (pc' := 18) rfl ?_
    refine r_aloadN X0.here hx (hb hby d29_18) rfl rfl (pc' := 19) rfl ?_
    refine r_iloadN X0.here hx (hb hby d29_19) rfl (pc' := 20) rfl ?_
    refine q_baload X0 hx hZ e0 (j := (1 : Int32)) (v := (g2 1)) A_2 (by decide) (by decide) rfl (hb hby d29_20) (pc' := 21) rfl ?_
    refine r_if_eq X0.here hx (hb hby d29_21) (by decide) (pc' := 26) (by decide) (pc2 := 24) rfl (fun hc21_1 => ?_) (fun hc21_1 => ?_)
    · refine r_iinc X0.here hx (hb hby d29_26) rfl (z := (2 : Int32)) rfl (l' := #[.val (.ref b1), .val (.ref b2), .val (.int (2 : Int32))]) rfl (pc' := 29) rfl ?_
      refine r_goto X0.here hx (hb hby d29_29) (by decide) (pc' := 9) (by decide) ?_
      refine r_iloadN X0.here hx (hb hby d29_9) rfl (pc' := 10) rfl ?_
      refine r_aloadN X0.here hx (hb hby d29_10) rfl rfl (pc' := 11) rfl ?_
      refine r_len X0 hx hZ e0 (z := (2 : Int32)) A_1 rfl (hb hby d29_11) (pc' := 12) rfl ?_
      refine r_if_ge X0.here hx (hb hby d29_12) (by decide) (pc' := 32) (by decide) (pc2 := 15) rfl (fun hc12_2 => ?_) (fun hc12_2 => absurd (by decide) hc12_2)
      refine r_iconst X0.here hx (hb hby d29_32) (v := 1) rfl (pc' := 33) rfl ?_
      refine r_retN X0 hx hlk hret (by simp) (hb hby d29_33) (w := (1 : Int32)) rfl ?_ (by decide) (by decide)
      try rw [e0]
      exact ⟨congrArg (fun z => some (Value.int z)) (if_pos ⟨rfl, hc21, Or.inr hc21_1⟩).symm, N0, rfl⟩
    · refine r_iconst X0.here hx (hb hby d29_24) (v := 0) rfl (pc' := 25) rfl ?_
      refine r_retN X0 hx hlk hret (by simp) (hb hby d29_25) (w := (0 : Int32)) rfl ?_ (by decide) (by decide)
      try rw [e0]
      exact ⟨congrArg (fun z => some (Value.int z)) (if_neg (fun q => q.2.2.elim (fun z => absurd z (by decide)) hc21_1)).symm, N0, rfl⟩
  · refine r_iconst X0.here hx (hb hby d29_24) (v := 0) rfl (pc' := 25) rfl ?_
    refine r_retN X0 hx hlk hret (by simp) (hb hby d29_25) (w := (0 : Int32)) rfl ?_ (by decide) (by decide)
    try rw [e0]
    exact ⟨congrArg (fun z => some (Value.int z)) (if_neg (fun q => hc21 q.2.1)).symm, N0, rfl⟩
theorem rmLe (l : Launch) (Z : State) (a0 : Array Value) (hw : ∀ d ∈ tables_1, d.before a0 Z = true) (ws : List Jvm.Cond) (b1 b2 : Addr) (g1 g2 : Nat → Int32) (l1 l2 : Int32) (h0 : Heap) (n0 : Nat) (Z0 : n0 ≤ h0.size) (A_1 : Ary Z h0 b1 .byte l1.toInt.toNat (fun i => .int (g1 i))) (A_2 : Ary Z h0 b2 .byte l2.toInt.toNat (fun i => .int (g2 i))) (hl1 : l1 = 1 ∨ l1 = 2) (hl2 : l2 = 1 ∨ l2 = 2)  :
    Met l Z (⟨"java/lang/StringLatin1", "equals", "([B[B)Z"⟩ : MethodName) jdk_43_method_13_code 3 (some .boolean) ws ({ frames := 0, cells := 0, slots := 0, locals := 0 } : Room) #[(.ref b1), (.ref b2)] h0 (fun v h L => v = some (.int (own_eqv l1.toInt.toNat l2.toInt.toNat g1 g2)) ∧ Fr n0 L ∧ h = h0) 0 0 := by
  rcases hl1 with rfl | rfl <;> rcases hl2 with rfl | rfl
  · exact rmLe11 l Z a0 hw ws b1 b2 g1 g2 h0 n0 Z0 A_1 A_2
  · exact rmLe12 l Z a0 hw ws b1 b2 g1 g2 h0 n0 Z0 A_1 A_2
  · exact rmLe21 l Z a0 hw ws b1 b2 g1 g2 h0 n0 Z0 A_1 A_2
  · exact rmLe22 l Z a0 hw ws b1 b2 g1 g2 h0 n0 Z0 A_1 A_2
theorem d28_0 : decode jdk_42_method_66_code 0 = .ok (.aload_n 0, 1) := by decide +kernel
theorem d28_1 : decode jdk_42_method_66_code 1 = .ok (.aload_n 1, 1) := by decide +kernel
theorem d28_2 : decode jdk_42_method_66_code 2 = .ok (.if_acmp .ne 5, 3) := by decide +kernel
theorem d28_7 : decode jdk_42_method_66_code 7 = .ok (.aload_n 1, 1) := by decide +kernel
theorem d28_8 : decode jdk_42_method_66_code 8 = .ok (.instanceof 10, 3) := by decide +kernel
theorem d28_11 : decode jdk_42_method_66_code 11 = .ok (.ifCond .eq 43, 3) := by decide +kernel
theorem d28_14 : decode jdk_42_method_66_code 14 = .ok (.aload_n 1, 1) := by decide +kernel
theorem d28_15 : decode jdk_42_method_66_code 15 = .ok (.checkcast 10, 3) := by decide +kernel
theorem d28_18 : decode jdk_42_method_66_code 18 = .ok (.astore_n 2, 1) := by decide +kernel
theorem d28_19 : decode jdk_42_method_66_code 19 = .ok (.getstatic 38, 3) := by decide +kernel
theorem d28_22 : decode jdk_42_method_66_code 22 = .ok (.ifCond .eq 14, 3) := by decide +kernel
theorem d28_25 : decode jdk_42_method_66_code 25 = .ok (.aload_n 0, 1) := by decide +kernel
theorem d28_26 : decode jdk_42_method_66_code 26 = .ok (.getfield 15, 3) := by decide +kernel
theorem d28_29 : decode jdk_42_method_66_code 29 = .ok (.aload_n 2, 1) := by decide +kernel
theorem d28_30 : decode jdk_42_method_66_code 30 = .ok (.getfield 15, 3) := by decide +kernel
theorem d28_33 : decode jdk_42_method_66_code 33 = .ok (.if_icmp .ne 21, 3) := by decide +kernel
theorem d28_36 : decode jdk_42_method_66_code 36 = .ok (.aload_n 0, 1) := by decide +kernel
theorem d28_37 : decode jdk_42_method_66_code 37 = .ok (.getfield 9, 3) := by decide +kernel
theorem d28_40 : decode jdk_42_method_66_code 40 = .ok (.aload_n 2, 1) := by decide +kernel
theorem d28_41 : decode jdk_42_method_66_code 41 = .ok (.getfield 9, 3) := by decide +kernel
theorem d28_44 : decode jdk_42_method_66_code 44 = .ok (.invokestatic 541, 3) := by decide +kernel
theorem pd_19 : parseMethodDescriptor "([B[B)Z" = some ⟨[(.array .byte), (.array .byte)], some .boolean⟩ := by decide +kernel
theorem d28_47 : decode jdk_42_method_66_code 47 = .ok (.ifCond .eq 7, 3) := by decide +kernel
theorem d28_54 : decode jdk_42_method_66_code 54 = .ok (.iconst 0, 1) := by decide +kernel
theorem d28_55 : decode jdk_42_method_66_code 55 = .ok (.ireturn, 1) := by decide +kernel
theorem d28_50 : decode jdk_42_method_66_code 50 = .ok (.iconst 1, 1) := by decide +kernel
theorem d28_51 : decode jdk_42_method_66_code 51 = .ok (.goto 4, 3) := by decide +kernel
theorem ef_rmSe (m : MethodId) (x0 : Addr) (x1 : Addr) : entryFrame m #[(.ref x0), (.ref x1)] 3 = mkF m 0 #[.val (.ref x0), .val (.ref x1), .unset] [] := by first | (simp [entryFrame, mkF, argsToLocals, Value.category, maxLocals]; done) | rfl
set_option maxRecDepth 65536 in
set_option maxHeartbeats 40000000 in
theorem rmSe (l : Launch) (Z : State) (a0 : Array Value) (hw : ∀ d ∈ tables_1, d.before a0 Z = true) (ws : List Jvm.Cond) (sa sx b1 b2 : Addr) (g1 g2 : Nat → Int32) (l1 l2 cs : Int32) (h0 : Heap) (n0 : Nat) (Z0 : n0 ≤ h0.size) (hne : sa ≠ sx) (E_sa : Exa Z h0 sa "java/lang/String") (F_sa_coder : Fld Z h0 sa "java/lang/String" "coder" "B" (.int (0 : Int32))) (F_sa_value : Fld Z h0 sa "java/lang/String" "value" "[B" (.ref b1)) (A_1 : Ary Z h0 b1 .byte l1.toInt.toNat (fun i => .int (g1 i))) (E_sx : Exa Z h0 sx "java/lang/String") (F_sx_coder : Fld Z h0 sx "java/lang/String" "coder" "B" (.int (0 : Int32))) (F_sx_value : Fld Z h0 sx "java/lang/String" "value" "[B" (.ref b2)) (A_2 : Ary Z h0 b2 .byte l2.toInt.toNat (fun i => .int (g2 i))) (hl1 : l1 = 1 ∨ l1 = 2) (hl2 : l2 = 1 ∨ l2 = 2) (hcs : Sta Z h0 "java/lang/String" "COMPACT_STRINGS" "Z" (.int cs)) (hc0 : ¬ cs = 0)  :
    Met l Z (⟨"java/lang/String", "equals", "(Ljava/lang/Object;)Z"⟩ : MethodName) jdk_42_method_66_code 3 (some .boolean) ws ({ frames := 1, cells := 0, slots := 0, locals := 14 } : Room) #[(.ref sa), (.ref sx)] h0 (fun v h L => v = some (.int (own_eqv l1.toInt.toNat l2.toInt.toNat g1 g2)) ∧ Fr n0 L ∧ h = h0) 0 0 := by
  refine met_of (plainFor_of_name pn_1) (f0 := fun m => (mkF m 0 #[.val (.ref sa), .val (.ref sx), .unset] [])) (fun m => ef_rmSe m sa sx) ?_
  intro p e s m below meth c s₁ X0 hx hby hml hret hlk hown hnm hZ e0
  replace hown : s.vm.findClass "java/lang/String" = some m.cls := hown
  have N0 := Fr.nil n0
  refine r_aloadN X0.here hx (hb hby d28_0) rfl rfl (pc' := 1) rfl ?_
  refine r_aloadN X0.here hx (hb hby d28_1) rfl rfl (pc' := 2) rfl ?_
  refine r_acmp_ne X0.here hx (hb hby d28_2) rfl rfl (by decide) (pc' := 7) (by decide) (pc2 := 5) rfl (fun hc2 => ?_) (fun hc2 => absurd (Value.ref.inj hc2) hne)
  refine r_aloadN X0.here hx (hb hby d28_7) rfl rfl (pc' := 8) rfl ?_
  refine r_instY X0 hx hZ hown (hw _ (List.mem_of_getElem? (i := 125) rfl)) e0 (Ins.of_exa E_sx (hw _ (List.mem_of_getElem? (i := 13) rfl))) (hb hby d28_8) (pc' := 11) rfl (fun T747 X747 e747 => ?_)
  refine r_if0_eq X747.here hx (hb hby d28_11) (by decide) (pc' := 54) (by decide) (pc2 := 14) rfl (fun hc11 => absurd hc11 (by decide)) (fun hc11 => ?_)
  refine r_aloadN X747.here hx (hb hby d28_14) rfl rfl (pc' := 15) rfl ?_
  refine r_castY X747 hx hZ hown (hw _ (List.mem_of_getElem? (i := 125) rfl)) e747 (Ins.of_exa E_sx (hw _ (List.mem_of_getElem? (i := 13) rfl))) (hb hby d28_15) (pc' := 18) rfl (fun T748 X748 e748 => ?_)
  refine r_astoreN X748.here hx (hb hby d28_18) rfl (l' := #[.val (.ref sa), .val (.ref sx), .val (.ref sx)]) rfl (pc' := 19) rfl ?_
  refine r_getS X748 hx hZ hown (hw _ (List.mem_of_getElem? (i := 18) rfl)) Via.refl e748 hcs (hb hby d28_19) (pc' := 22) rfl (fun T749 X749 e749 => ?_)
  refine r_if0_eq X749.here hx (hb hby d28_22) (by decide) (pc' := 36) (by decide) (pc2 := 25) rfl (fun hc22 => absurd hc22 hc0) (fun hc22 => ?_)
  refine r_aloadN X749.here hx (hb hby d28_25) rfl rfl (pc' := 26) rfl ?_
  refine r_getF X749 hx hZ hown (hw _ (List.mem_of_getElem? (i := 30) rfl)) Via.refl e749 F_sa_coder (hb hby d28_26) (pc' := 29) rfl (fun T750 X750 e750 => ?_)
  refine r_aloadN X750.here hx (hb hby d28_29) rfl rfl (pc' := 30) rfl ?_
  refine r_getF X750 hx hZ hown (hw _ (List.mem_of_getElem? (i := 30) rfl)) Via.refl e750 F_sx_coder (hb hby d28_30) (pc' := 33) rfl (fun T751 X751 e751 => ?_)
  refine r_if_ne X751.here hx (hb hby d28_33) (by decide) (pc' := 54) (by decide) (pc2 := 36) rfl (fun hc33 => absurd rfl hc33) (fun hc33 => ?_)
  refine r_aloadN X751.here hx (hb hby d28_36) rfl rfl (pc' := 37) rfl ?_
  refine r_getF X751 hx hZ hown (hw _ (List.mem_of_getElem? (i := 32) rfl)) Via.refl e751 F_sa_value (hb hby d28_37) (pc' := 40) rfl (fun T752 X752 e752 => ?_)
  refine r_aloadN X752.here hx (hb hby d28_40) rfl rfl (pc' := 41) rfl ?_
  refine r_getF X752 hx hZ hown (hw _ (List.mem_of_getElem? (i := 32) rfl)) Via.refl e752 F_sx_value (hb hby d28_41) (pc' := 44) rfl (fun T753 X753 e753 => ?_)
  refine r_callS X753 hx hZ (y := (⟨"java/lang/StringLatin1", "equals", "([B[B)Z"⟩ : MethodName)) (rm := ({ frames := 0, cells := 0, slots := 0, locals := 0 } : Room)) hown (hw _ (List.mem_of_getElem? (i := 154) rfl)) (hw _ (List.mem_of_getElem? (i := 155) rfl)) (hw _ (List.mem_of_getElem? (i := 123) rfl)) (hw _ (List.mem_of_getElem? (i := 156) rfl)) (by decide) (rmLe l Z a0 hw [] b1 b2 g1 g2 l1 l2 h0 n0 Z0 A_1 A_2 hl1 hl2) e753 (by rw [hml]; rfl) (argsL := [(.ref b1), (.ref b2)]) (rest := []) (lenOf pd_19 rfl) rfl rfl (W := 0) rfl (by decide) (by decide) (by decide) (by decide) (hb hby d28_44) (pc' := 47) rfl ?_
  rintro v754 T754 L754 X754 ⟨rfl, Nq754, e754⟩
  have N754 := Fr.app N0 Nq754
  show Run p e below _ _ T754 (mkF m 47 #[.val (.ref sa), .val (.ref sx), .val (.ref sx)] [(.int (own_eqv l1.toInt.toNat l2.toInt.toNat g1 g2))])
  refine r_if0_eq X754.here hx (hb hby d28_47) (by decide) (pc' := 54) (by decide) (pc2 := 50) rfl (fun hc47 => ?_) (fun hc47 => ?_)
  · refine r_iconst X754.here hx (hb hby d28_54) (v := 0) rfl (pc' := 55) rfl ?_
    refine r_retN X754 hx hlk hret (by simp) (hb hby d28_55) (w := (0 : Int32)) rfl ?_ (by decide) (by decide)
    try rw [e754]
    exact ⟨congrArg (fun z => some (Value.int z)) hc47.symm, N754, rfl⟩
  · refine r_iconst X754.here hx (hb hby d28_50) (v := 1) rfl (pc' := 51) rfl ?_
    refine r_goto X754.here hx (hb hby d28_51) (by decide) (pc' := 55) (by decide) ?_
    refine r_retN X754 hx hlk hret (by simp) (hb hby d28_55) (w := (1 : Int32)) rfl ?_ (by decide) (by decide)
    try rw [e754]
    exact ⟨congrArg (fun z => some (Value.int z)) ((own_eqv01 _ _ _ _).resolve_left hc47).symm, N754, rfl⟩
theorem d28_5 : decode jdk_42_method_66_code 5 = .ok (.iconst 1, 1) := by decide +kernel
theorem d28_6 : decode jdk_42_method_66_code 6 = .ok (.ireturn, 1) := by decide +kernel
theorem ef_rmSs (m : MethodId) (x0 : Addr) (x1 : Addr) : entryFrame m #[(.ref x0), (.ref x1)] 3 = mkF m 0 #[.val (.ref x0), .val (.ref x1), .unset] [] := by first | (simp [entryFrame, mkF, argsToLocals, Value.category, maxLocals]; done) | rfl
set_option maxRecDepth 65536 in
set_option maxHeartbeats 40000000 in
theorem rmSs (l : Launch) (Z : State) (a0 : Array Value) (hw : ∀ d ∈ tables_1, d.before a0 Z = true) (ws : List Jvm.Cond) (sa : Addr) (h0 : Heap) (n0 : Nat) (Z0 : n0 ≤ h0.size)  :
    Met l Z (⟨"java/lang/String", "equals", "(Ljava/lang/Object;)Z"⟩ : MethodName) jdk_42_method_66_code 3 (some .boolean) ws ({ frames := 0, cells := 0, slots := 0, locals := 0 } : Room) #[(.ref sa), (.ref sa)] h0 (fun v h L => v = some (.int 1) ∧ Fr n0 L ∧ h = h0) 0 0 := by
  refine met_of (plainFor_of_name pn_1) (f0 := fun m => (mkF m 0 #[.val (.ref sa), .val (.ref sa), .unset] [])) (fun m => ef_rmSs m sa sa) ?_
  intro p e s m below meth c s₁ X0 hx hby hml hret hlk hown hnm hZ e0
  replace hown : s.vm.findClass "java/lang/String" = some m.cls := hown
  have N0 := Fr.nil n0
  refine r_aloadN X0.here hx (hb hby d28_0) rfl rfl (pc' := 1) rfl ?_
  refine r_aloadN X0.here hx (hb hby d28_1) rfl rfl (pc' := 2) rfl ?_
  refine r_acmp_ne X0.here hx (hb hby d28_2) rfl rfl (by decide) (pc' := 7) (by decide) (pc2 := 5) rfl (fun hc2 => absurd rfl hc2) (fun hc2 => ?_)
  refine r_iconst X0.here hx (hb hby d28_5) (v := 1) rfl (pc' := 6) rfl ?_
  refine r_retN X0 hx hlk hret (by simp) (hb hby d28_6) (w := (1 : Int32)) rfl ?_ (by decide) (by decide)
  try rw [e0]
  exact ⟨rfl, N0, rfl⟩
theorem d19_0 : decode prog_23_method_5_code 0 = .ok (.aload_n 1, 1) := by decide +kernel
theorem d19_1 : decode prog_23_method_5_code 1 = .ok (.instanceof 39, 3) := by decide +kernel
theorem d19_4 : decode prog_23_method_5_code 4 = .ok (.ifCond .eq 37, 3) := by decide +kernel
theorem d19_41 : decode prog_23_method_5_code 41 = .ok (.iconst 0, 1) := by decide +kernel
theorem d19_42 : decode prog_23_method_5_code 42 = .ok (.ireturn, 1) := by decide +kernel
theorem ef_rmQn (m : MethodId) (x0 : Addr) : entryFrame m #[(.ref x0), .null] 3 = mkF m 0 #[.val (.ref x0), .val .null, .unset] [] := by first | (simp [entryFrame, mkF, argsToLocals, Value.category, maxLocals]; done) | rfl
set_option maxRecDepth 65536 in
set_option maxHeartbeats 40000000 in
theorem rmQn (l : Launch) (Z : State) (a0 : Array Value) (hw : ∀ d ∈ tables_1, d.before a0 Z = true) (ws : List Jvm.Cond) (o : Addr) (h0 : Heap) (n0 : Nat) (Z0 : n0 ≤ h0.size)  :
    Met l Z (⟨"com/example/lease/lease/store/RedisAddress", "equals", "(Ljava/lang/Object;)Z"⟩ : MethodName) prog_23_method_5_code 3 (some .boolean) ws ({ frames := 0, cells := 0, slots := 0, locals := 0 } : Room) #[(.ref o), .null] h0 (fun v h L => v = some (.int 0) ∧ Fr n0 L ∧ h = h0) 0 0 := by
  refine met_of (plainFor_of_name pn_6) (f0 := fun m => (mkF m 0 #[.val (.ref o), .val .null, .unset] [])) (fun m => ef_rmQn m o) ?_
  intro p e s m below meth c s₁ X0 hx hby hml hret hlk hown hnm hZ e0
  replace hown : s.vm.findClass "com/example/lease/lease/store/RedisAddress" = some m.cls := hown
  have N0 := Fr.nil n0
  refine r_aloadN X0.here hx (hb hby d19_0) rfl rfl (pc' := 1) rfl ?_
  refine r_instNull X0 hx (hb hby d19_1) (pc' := 4) rfl ?_
  refine r_if0_eq X0.here hx (hb hby d19_4) (by decide) (pc' := 41) (by decide) (pc2 := 7) rfl (fun hc4 => ?_) (fun hc4 => absurd rfl hc4)
  refine r_iconst X0.here hx (hb hby d19_41) (v := 0) rfl (pc' := 42) rfl ?_
  refine r_retN X0 hx hlk hret (by simp) (hb hby d19_42) (w := (0 : Int32)) rfl ?_ (by decide) (by decide)
  try rw [e0]
  exact ⟨rfl, N0, rfl⟩
theorem ef_rmQs (m : MethodId) (x0 : Addr) (x1 : Addr) : entryFrame m #[(.ref x0), (.ref x1)] 3 = mkF m 0 #[.val (.ref x0), .val (.ref x1), .unset] [] := by first | (simp [entryFrame, mkF, argsToLocals, Value.category, maxLocals]; done) | rfl
set_option maxRecDepth 65536 in
set_option maxHeartbeats 40000000 in
theorem rmQs (l : Launch) (Z : State) (a0 : Array Value) (hw : ∀ d ∈ tables_1, d.before a0 Z = true) (ws : List Jvm.Cond) (o sa : Addr) (h0 : Heap) (n0 : Nat) (Z0 : n0 ≤ h0.size) (E_sa : Exa Z h0 sa "java/lang/String") :
    Met l Z (⟨"com/example/lease/lease/store/RedisAddress", "equals", "(Ljava/lang/Object;)Z"⟩ : MethodName) prog_23_method_5_code 3 (some .boolean) ws ({ frames := 0, cells := 0, slots := 0, locals := 0 } : Room) #[(.ref o), (.ref sa)] h0 (fun v h L => v = some (.int 0) ∧ Fr n0 L ∧ h = h0) 0 0 := by
  refine met_of (plainFor_of_name pn_6) (f0 := fun m => (mkF m 0 #[.val (.ref o), .val (.ref sa), .unset] [])) (fun m => ef_rmQs m o sa) ?_
  intro p e s m below meth c s₁ X0 hx hby hml hret hlk hown hnm hZ e0
  replace hown : s.vm.findClass "com/example/lease/lease/store/RedisAddress" = some m.cls := hown
  have N0 := Fr.nil n0
  refine r_aloadN X0.here hx (hb hby d19_0) rfl rfl (pc' := 1) rfl ?_
  refine r_instNo X0 hx hZ hown (hw _ (List.mem_of_getElem? (i := 115) rfl)) e0 E_sa (own_no (hw _ (List.mem_of_getElem? (i := 116) rfl)) (hw _ (List.mem_of_getElem? (i := 37) rfl)) (NS.step (hw _ (List.mem_of_getElem? (i := 116) rfl)) (own_nsR (hw _ (List.mem_of_getElem? (i := 117) rfl)) (by obtain ⟨c, k, q, -⟩ := Cond.instantiable_spec (hw _ (List.mem_of_getElem? (i := 37) rfl)); exact ⟨c, q⟩) (by decide)) (by decide)) (by decide)) (hb hby d19_1) (pc' := 4) rfl (fun T755 X755 e755 => ?_)
  refine r_if0_eq X755.here hx (hb hby d19_4) (by decide) (pc' := 41) (by decide) (pc2 := 7) rfl (fun hc4 => ?_) (fun hc4 => absurd rfl hc4)
  refine r_iconst X755.here hx (hb hby d19_41) (v := 0) rfl (pc' := 42) rfl ?_
  refine r_retN X755 hx hlk hret (by simp) (hb hby d19_42) (w := (0 : Int32)) rfl ?_ (by decide) (by decide)
  try rw [e755]
  exact ⟨rfl, N0, rfl⟩
theorem d19_7 : decode prog_23_method_5_code 7 = .ok (.aload_n 1, 1) := by decide +kernel
theorem d19_8 : decode prog_23_method_5_code 8 = .ok (.checkcast 39, 3) := by decide +kernel
theorem d19_11 : decode prog_23_method_5_code 11 = .ok (.astore_n 2, 1) := by decide +kernel
theorem d19_12 : decode prog_23_method_5_code 12 = .ok (.aload_n 0, 1) := by decide +kernel
theorem d19_13 : decode prog_23_method_5_code 13 = .ok (.getfield 52, 3) := by decide +kernel
theorem d19_16 : decode prog_23_method_5_code 16 = .ok (.aload_n 2, 1) := by decide +kernel
theorem d19_17 : decode prog_23_method_5_code 17 = .ok (.getfield 52, 3) := by decide +kernel
theorem d19_20 : decode prog_23_method_5_code 20 = .ok (.invokevirtual 106, 3) := by decide +kernel
theorem d19_23 : decode prog_23_method_5_code 23 = .ok (.ifCond .eq 18, 3) := by decide +kernel
theorem d19_26 : decode prog_23_method_5_code 26 = .ok (.aload_n 0, 1) := by decide +kernel
theorem d19_27 : decode prog_23_method_5_code 27 = .ok (.getfield 55, 3) := by decide +kernel
theorem d19_30 : decode prog_23_method_5_code 30 = .ok (.aload_n 2, 1) := by decide +kernel
theorem d19_31 : decode prog_23_method_5_code 31 = .ok (.getfield 55, 3) := by decide +kernel
theorem d19_34 : decode prog_23_method_5_code 34 = .ok (.if_icmp .ne 7, 3) := by decide +kernel
theorem d19_37 : decode prog_23_method_5_code 37 = .ok (.iconst 1, 1) := by decide +kernel
theorem d19_38 : decode prog_23_method_5_code 38 = .ok (.goto 4, 3) := by decide +kernel
theorem ef_rmQe (m : MethodId) (x0 : Addr) (x1 : Addr) : entryFrame m #[(.ref x0), (.ref x1)] 3 = mkF m 0 #[.val (.ref x0), .val (.ref x1), .unset] [] := by first | (simp [entryFrame, mkF, argsToLocals, Value.category, maxLocals]; done) | rfl
set_option maxRecDepth 65536 in
set_option maxHeartbeats 40000000 in
theorem rmQe (l : Launch) (Z : State) (a0 : Array Value) (hw : ∀ d ∈ tables_1, d.before a0 Z = true) (ws : List Jvm.Cond) (o x : Addr) (p1 p2 : Int32) (sa sx b1 b2 : Addr) (g1 g2 : Nat → Int32) (l1 l2 cs : Int32) (h0 : Heap) (n0 : Nat) (Z0 : n0 ≤ h0.size) (hne : sa ≠ sx) (E_o : Exa Z h0 o "com/example/lease/lease/store/RedisAddress") (F_o_host : Fld Z h0 o "com/example/lease/lease/store/RedisAddress" "host" "Ljava/lang/String;" (.ref sa)) (F_o_port : Fld Z h0 o "com/example/lease/lease/store/RedisAddress" "port" "I" (.int p1)) (E_x : Exa Z h0 x "com/example/lease/lease/store/RedisAddress") (F_x_host : Fld Z h0 x "com/example/lease/lease/store/RedisAddress" "host" "Ljava/lang/String;" (.ref sx)) (F_x_port : Fld Z h0 x "com/example/lease/lease/store/RedisAddress" "port" "I" (.int p2)) (E_sa : Exa Z h0 sa "java/lang/String") (F_sa_coder : Fld Z h0 sa "java/lang/String" "coder" "B" (.int (0 : Int32))) (F_sa_value : Fld Z h0 sa "java/lang/String" "value" "[B" (.ref b1)) (A_1 : Ary Z h0 b1 .byte l1.toInt.toNat (fun i => .int (g1 i))) (E_sx : Exa Z h0 sx "java/lang/String") (F_sx_coder : Fld Z h0 sx "java/lang/String" "coder" "B" (.int (0 : Int32))) (F_sx_value : Fld Z h0 sx "java/lang/String" "value" "[B" (.ref b2)) (A_2 : Ary Z h0 b2 .byte l2.toInt.toNat (fun i => .int (g2 i))) (hl1 : l1 = 1 ∨ l1 = 2) (hl2 : l2 = 1 ∨ l2 = 2) (hcs : Sta Z h0 "java/lang/String" "COMPACT_STRINGS" "Z" (.int cs)) (hc0 : ¬ cs = 0)  :
    Met l Z (⟨"com/example/lease/lease/store/RedisAddress", "equals", "(Ljava/lang/Object;)Z"⟩ : MethodName) prog_23_method_5_code 3 (some .boolean) ws ({ frames := 2, cells := 0, slots := 0, locals := 28 } : Room) #[(.ref o), (.ref x)] h0 (fun v h L => v = some (.int (own_req (own_eqv l1.toInt.toNat l2.toInt.toNat g1 g2) p1 p2)) ∧ Fr n0 L ∧ h = h0) 0 0 := by
  refine met_of (plainFor_of_name pn_6) (f0 := fun m => (mkF m 0 #[.val (.ref o), .val (.ref x), .unset] [])) (fun m => ef_rmQe m o x) ?_
  intro p e s m below meth c s₁ X0 hx hby hml hret hlk hown hnm hZ e0
  replace hown : s.vm.findClass "com/example/lease/lease/store/RedisAddress" = some m.cls := hown
  have N0 := Fr.nil n0
  refine r_aloadN X0.here hx (hb hby d19_0) rfl rfl (pc' := 1) rfl ?_
  refine r_instY X0 hx hZ hown (hw _ (List.mem_of_getElem? (i := 115) rfl)) e0 (Ins.of_exa E_x (hw _ (List.mem_of_getElem? (i := 71) rfl))) (hb hby d19_1) (pc' := 4) rfl (fun T756 X756 e756 => ?_)
  refine r_if0_eq X756.here hx (hb hby d19_4) (by decide) (pc' := 41) (by decide) (pc2 := 7) rfl (fun hc4 => absurd hc4 (by decide)) (fun hc4 => ?_)
  refine r_aloadN X756.here hx (hb hby d19_7) rfl rfl (pc' := 8) rfl ?_
  refine r_castY X756 hx hZ hown (hw _ (List.mem_of_getElem? (i := 115) rfl)) e756 (Ins.of_exa E_x (hw _ (List.mem_of_getElem? (i := 71) rfl))) (hb hby d19_8) (pc' := 11) rfl (fun T757 X757 e757 => ?_)
  refine r_astoreN X757.here hx (hb hby d19_11) rfl (l' := #[.val (.ref o), .val (.ref x), .val (.ref x)]) rfl (pc' := 12) rfl ?_
  refine r_aloadN X757.here hx (hb hby d19_12) rfl rfl (pc' := 13) rfl ?_
  refine r_getF X757 hx hZ hown (hw _ (List.mem_of_getElem? (i := 100) rfl)) Via.refl e757 F_o_host (hb hby d19_13) (pc' := 16) rfl (fun T758 X758 e758 => ?_)
  refine r_aloadN X758.here hx (hb hby d19_16) rfl rfl (pc' := 17) rfl ?_
  refine r_getF X758 hx hZ hown (hw _ (List.mem_of_getElem? (i := 100) rfl)) Via.refl e758 F_x_host (hb hby d19_17) (pc' := 20) rfl (fun T759 X759 e759 => ?_)
  refine r_callV X759 hx hZ (y := (⟨"java/lang/String", "equals", "(Ljava/lang/Object;)Z"⟩ : MethodName)) (z := (⟨"java/lang/String", "equals", "(Ljava/lang/Object;)Z"⟩ : MethodName)) (rm := ({ frames := 1, cells := 0, slots := 0, locals := 14 } : Room)) hown (hw _ (List.mem_of_getElem? (i := 149) rfl)) (hw _ (List.mem_of_getElem? (i := 150) rfl)) (notFace_of_selects (args := #[]) (mvT hZ (hw _ (List.mem_of_getElem? (i := 152) rfl)))) (hw _ (List.mem_of_getElem? (i := 152) rfl)) (hw _ (List.mem_of_getElem? (i := 151) rfl)) (hw _ (List.mem_of_getElem? (i := 6) rfl)) (hw _ (List.mem_of_getElem? (i := 153) rfl)) (by decide) (rmSe l Z a0 hw [] sa sx b1 b2 g1 g2 l1 l2 cs h0 n0 Z0 hne E_sa F_sa_coder F_sa_value A_1 E_sx F_sx_coder F_sx_value A_2 hl1 hl2 hcs hc0) e759 E_sa (by rw [hml]; rfl) (argsL := [(.ref sx)]) (rest := []) (lenOf pd_15 rfl) rfl rfl (W := 0) rfl (by decide) (by decide) (by decide) (by decide) (hb hby d19_20) (pc' := 23) rfl ?_
  rintro v760 T760 L760 X760 ⟨rfl, Nq760, e760⟩
  have N760 := Fr.app N0 Nq760
  show Run p e below _ _ T760 (mkF m 23 #[.val (.ref o), .val (.ref x), .val (.ref x)] [(.int (own_eqv l1.toInt.toNat l2.toInt.toNat g1 g2))])
  refine r_if0_eq X760.here hx (hb hby d19_23) (by decide) (pc' := 41) (by decide) (pc2 := 26) rfl (fun hc23 => ?_) (fun hc23 => ?_)
  · refine r_iconst X760.here hx (hb hby d19_41) (v := 0) rfl (pc' := 42) rfl ?_
    refine r_retN X760 hx hlk hret (by simp) (hb hby d19_42) (w := (0 : Int32)) rfl ?_ (by decide) (by decide)
    try rw [e760]
    exact ⟨congrArg (fun z => some (Value.int z)) (if_neg (fun q => absurd (hc23.symm.trans q.1) (by decide))).symm, N760, rfl⟩
  · refine r_aloadN X760.here hx (hb hby d19_26) rfl rfl (pc' := 27) rfl ?_
    refine r_getF X760 hx hZ hown (hw _ (List.mem_of_getElem? (i := 102) rfl)) Via.refl e760 F_o_port (hb hby d19_27) (pc' := 30) rfl (fun T761 X761 e761 => ?_)
    refine r_aloadN X761.here hx (hb hby d19_30) rfl rfl (pc' := 31) rfl ?_
    refine r_getF X761 hx hZ hown (hw _ (List.mem_of_getElem? (i := 102) rfl)) Via.refl e761 F_x_port (hb hby d19_31) (pc' := 34) rfl (fun T762 X762 e762 => ?_)
    refine r_if_ne X762.here hx (hb hby d19_34) (by decide) (pc' := 41) (by decide) (pc2 := 37) rfl (fun hc34 => ?_) (fun hc34 => ?_)
    · refine r_iconst X762.here hx (hb hby d19_41) (v := 0) rfl (pc' := 42) rfl ?_
      refine r_retN X762 hx hlk hret (by simp) (hb hby d19_42) (w := (0 : Int32)) rfl ?_ (by decide) (by decide)
      try rw [e762]
      exact ⟨congrArg (fun z => some (Value.int z)) (if_neg (fun q => hc34 q.2)).symm, N760, rfl⟩
    · refine r_iconst X762.here hx (hb hby d19_37) (v := 1) rfl (pc' := 38) rfl ?_
      refine r_goto X762.here hx (hb hby d19_38) (by decide) (pc' := 42) (by decide) ?_
      refine r_retN X762 hx hlk hret (by simp) (hb hby d19_42) (w := (1 : Int32)) rfl ?_ (by decide) (by decide)
      try rw [e762]
      exact ⟨congrArg (fun z => some (Value.int z)) (if_pos ⟨(own_eqv01 _ _ _ _).resolve_left hc23, Decidable.of_not_not hc34⟩).symm, N760, rfl⟩
theorem ef_rmQo (m : MethodId) (x0 : Addr) (x1 : Addr) : entryFrame m #[(.ref x0), (.ref x1)] 3 = mkF m 0 #[.val (.ref x0), .val (.ref x1), .unset] [] := by first | (simp [entryFrame, mkF, argsToLocals, Value.category, maxLocals]; done) | rfl
set_option maxRecDepth 65536 in
set_option maxHeartbeats 40000000 in
theorem rmQo (l : Launch) (Z : State) (a0 : Array Value) (hw : ∀ d ∈ tables_1, d.before a0 Z = true) (ws : List Jvm.Cond) (o sa : Addr) (p1 : Int32) (h0 : Heap) (n0 : Nat) (Z0 : n0 ≤ h0.size) (E_o : Exa Z h0 o "com/example/lease/lease/store/RedisAddress") (F_o_host : Fld Z h0 o "com/example/lease/lease/store/RedisAddress" "host" "Ljava/lang/String;" (.ref sa)) (F_o_port : Fld Z h0 o "com/example/lease/lease/store/RedisAddress" "port" "I" (.int p1)) (E_sa : Exa Z h0 sa "java/lang/String") :
    Met l Z (⟨"com/example/lease/lease/store/RedisAddress", "equals", "(Ljava/lang/Object;)Z"⟩ : MethodName) prog_23_method_5_code 3 (some .boolean) ws ({ frames := 1, cells := 0, slots := 0, locals := 14 } : Room) #[(.ref o), (.ref o)] h0 (fun v h L => v = some (.int 1) ∧ Fr n0 L ∧ h = h0) 0 0 := by
  refine met_of (plainFor_of_name pn_6) (f0 := fun m => (mkF m 0 #[.val (.ref o), .val (.ref o), .unset] [])) (fun m => ef_rmQo m o o) ?_
  intro p e s m below meth c s₁ X0 hx hby hml hret hlk hown hnm hZ e0
  replace hown : s.vm.findClass "com/example/lease/lease/store/RedisAddress" = some m.cls := hown
  have N0 := Fr.nil n0
  refine r_aloadN X0.here hx (hb hby d19_0) rfl rfl (pc' := 1) rfl ?_
  refine r_instY X0 hx hZ hown (hw _ (List.mem_of_getElem? (i := 115) rfl)) e0 (Ins.of_exa E_o (hw _ (List.mem_of_getElem? (i := 71) rfl))) (hb hby d19_1) (pc' := 4) rfl (fun T763 X763 e763 => ?_)
  refine r_if0_eq X763.here hx (hb hby d19_4) (by decide) (pc' := 41) (by decide) (pc2 := 7) rfl (fun hc4 => absurd hc4 (by decide)) (fun hc4 => ?_)
  refine r_aloadN X763.here hx (hb hby d19_7) rfl rfl (pc' := 8) rfl ?_
  refine r_castY X763 hx hZ hown (hw _ (List.mem_of_getElem? (i := 115) rfl)) e763 (Ins.of_exa E_o (hw _ (List.mem_of_getElem? (i := 71) rfl))) (hb hby d19_8) (pc' := 11) rfl (fun T764 X764 e764 => ?_)
  refine r_astoreN X764.here hx (hb hby d19_11) rfl (l' := #[.val (.ref o), .val (.ref o), .val (.ref o)]) rfl (pc' := 12) rfl ?_
  refine r_aloadN X764.here hx (hb hby d19_12) rfl rfl (pc' := 13) rfl ?_
  refine r_getF X764 hx hZ hown (hw _ (List.mem_of_getElem? (i := 100) rfl)) Via.refl e764 F_o_host (hb hby d19_13) (pc' := 16) rfl (fun T765 X765 e765 => ?_)
  refine r_aloadN X765.here hx (hb hby d19_16) rfl rfl (pc' := 17) rfl ?_
  refine r_getF X765 hx hZ hown (hw _ (List.mem_of_getElem? (i := 100) rfl)) Via.refl e765 F_o_host (hb hby d19_17) (pc' := 20) rfl (fun T766 X766 e766 => ?_)
  refine r_callV X766 hx hZ (y := (⟨"java/lang/String", "equals", "(Ljava/lang/Object;)Z"⟩ : MethodName)) (z := (⟨"java/lang/String", "equals", "(Ljava/lang/Object;)Z"⟩ : MethodName)) (rm := ({ frames := 0, cells := 0, slots := 0, locals := 0 } : Room)) hown (hw _ (List.mem_of_getElem? (i := 149) rfl)) (hw _ (List.mem_of_getElem? (i := 150) rfl)) (notFace_of_selects (args := #[]) (mvT hZ (hw _ (List.mem_of_getElem? (i := 152) rfl)))) (hw _ (List.mem_of_getElem? (i := 152) rfl)) (hw _ (List.mem_of_getElem? (i := 151) rfl)) (hw _ (List.mem_of_getElem? (i := 6) rfl)) (hw _ (List.mem_of_getElem? (i := 153) rfl)) (by decide) (rmSs l Z a0 hw [] sa h0 n0 Z0) e766 E_sa (by rw [hml]; rfl) (argsL := [(.ref sa)]) (rest := []) (lenOf pd_15 rfl) rfl rfl (W := 0) rfl (by decide) (by decide) (by decide) (by decide) (hb hby d19_20) (pc' := 23) rfl ?_
  rintro v767 T767 L767 X767 ⟨rfl, Nq767, e767⟩
  have N767 := Fr.app N0 Nq767
  show Run p e below _ _ T767 (mkF m 23 #[.val (.ref o), .val (.ref o), .val (.ref o)] [(.int (1 : Int32))])
  refine r_if0_eq X767.here hx (hb hby d19_23) (by decide) (pc' := 41) (by decide) (pc2 := 26) rfl (fun hc23 => absurd hc23 (by decide)) (fun hc23 => ?_)
  refine r_aloadN X767.here hx (hb hby d19_26) rfl rfl (pc' := 27) rfl ?_
  refine r_getF X767 hx hZ hown (hw _ (List.mem_of_getElem? (i := 102) rfl)) Via.refl e767 F_o_port (hb hby d19_27) (pc' := 30) rfl (fun T768 X768 e768 => ?_)
  refine r_aloadN X768.here hx (hb hby d19_30) rfl rfl (pc' := 31) rfl ?_
  refine r_getF X768 hx hZ hown (hw _ (List.mem_of_getElem? (i := 102) rfl)) Via.refl e768 F_o_port (hb hby d19_31) (pc' := 34) rfl (fun T769 X769 e769 => ?_)
  refine r_if_ne X769.here hx (hb hby d19_34) (by decide) (pc' := 41) (by decide) (pc2 := 37) rfl (fun hc34 => absurd rfl hc34) (fun hc34 => ?_)
  refine r_iconst X769.here hx (hb hby d19_37) (v := 1) rfl (pc' := 38) rfl ?_
  refine r_goto X769.here hx (hb hby d19_38) (by decide) (pc' := 42) (by decide) ?_
  refine r_retN X769 hx hlk hret (by simp) (hb hby d19_42) (w := (1 : Int32)) rfl ?_ (by decide) (by decide)
  try rw [e769]
  exact ⟨rfl, N767, rfl⟩
theorem own_ln (x : Int32) : ((1 : Int32) + (x &&& (1 : Int32))) = 1 ∨ ((1 : Int32) + (x &&& (1 : Int32))) = 2 := by
  have c := c_mask x 1 1 (by decide) (by decide)
  have e : ∀ k : Int32, (x &&& (1 : Int32)).toInt = k.toInt → (x &&& (1 : Int32)) = k := fun k => Int32.toInt_inj.mp
  have l0 : (0 : Int32).toInt = 0 := rfl
  have l1 : (1 : Int32).toInt = 1 := rfl
  have d : (x &&& (1 : Int32)).toInt = 0 ∨ (x &&& (1 : Int32)).toInt = 1 := by omega
  rcases d with d | d
  · rw [e 0 (d.trans l0.symm)]; exact Or.inl rfl
  · rw [e 1 (d.trans l1.symm)]; exact Or.inr rfl
theorem own_pt (x : Int32) : 1 ≤ (((x &&& (2147483647 : Int32)) % (65535 : Int32)) + (1 : Int32)).toInt ∧ (((x &&& (2147483647 : Int32)) % (65535 : Int32)) + (1 : Int32)).toInt ≤ 65535 := by
  have m := c_mask x 2147483647 31 (by decide) (by decide)
  have r := (c_irem (x &&& 2147483647) 65535 65535 (by decide)).1 (by omega)
  have a := c_iadd ((x &&& (2147483647 : Int32)) % (65535 : Int32)) 1
  have l1 : (1 : Int32).toInt = 1 := rfl
  have g := own_ri (((x &&& (2147483647 : Int32)) % (65535 : Int32)) + (1 : Int32))
  omega
theorem own_j8 {x y : Int32} (hx : 0 ≤ x.toInt ∧ x.toInt ≤ 255) (hy : 0 ≤ y.toInt ∧ y.toInt ≤ 255) (h : x.toInt8.toInt32 = y.toInt8.toInt32) : x = y := by
  have a := c_i2b x
  have b := c_i2b y
  rw [h] at a
  apply Int32.toInt_inj.mp
  omega
theorem own_lq {x y : Int32} (hx : x = 1 ∨ x = 2) (hy : y = 1 ∨ y = 2) : x.toInt.toNat = y.toInt.toNat ↔ x = y := by
  rcases hx with rfl | rfl <;> rcases hy with rfl | rfl <;> decide
theorem own_l1 {x : Int32} (hx : x = 1 ∨ x = 2) : x.toInt.toNat = 1 ↔ x = 1 := by rcases hx with rfl | rfl <;> decide
theorem own_g0 (c0 c1 : Int32) : own_g c0 c1 0 = c0.toInt8.toInt32 := if_pos rfl
theorem own_g1 (c0 c1 : Int32) : own_g c0 c1 1 = c1.toInt8.toInt32 := if_neg (by decide)
theorem own_ex {lA lB a0 a1 b0 b1 pA pB : Int32} (hA : lA = 1 ∨ lA = 2) (hB : lB = 1 ∨ lB = 2) (h0 : 0 ≤ a0.toInt ∧ a0.toInt ≤ 255) (h1 : 0 ≤ a1.toInt ∧ a1.toInt ≤ 255) (k0 : 0 ≤ b0.toInt ∧ b0.toInt ≤ 255) (k1 : 0 ≤ b1.toInt ∧ b1.toInt ≤ 255) :
    own_req (own_eqv lA.toInt.toNat lB.toInt.toNat (own_g a0 a1) (own_g b0 b1)) pA pB = if lA = lB ∧ a0 = b0 ∧ (lA = 1 ∨ a1 = b1) ∧ pA = pB then 1 else 0 := by
  have e0 : own_g a0 a1 0 = own_g b0 b1 0 ↔ a0 = b0 := by
    rw [own_g0, own_g0]
    exact ⟨own_j8 h0 k0, fun q => by rw [q]⟩
  have e1 : own_g a0 a1 1 = own_g b0 b1 1 ↔ a1 = b1 := by
    rw [own_g1, own_g1]
    exact ⟨own_j8 h1 k1, fun q => by rw [q]⟩
  unfold own_req own_eqv
  by_cases c : lA = lB ∧ a0 = b0 ∧ (lA = 1 ∨ a1 = b1)
  · have c' : lA.toInt.toNat = lB.toInt.toNat ∧ own_g a0 a1 0 = own_g b0 b1 0 ∧ (lA.toInt.toNat = 1 ∨ own_g a0 a1 1 = own_g b0 b1 1) := ⟨(own_lq hA hB).mpr c.1, e0.mpr c.2.1, c.2.2.imp (own_l1 hA).mpr e1.mpr⟩
    rw [if_pos c']
    by_cases d : pA = pB
    · rw [if_pos ⟨rfl, d⟩, if_pos ⟨c.1, c.2.1, c.2.2, d⟩]
    · rw [if_neg (fun q => d q.2), if_neg (fun q => d q.2.2.2)]
  · have c' : ¬ (lA.toInt.toNat = lB.toInt.toNat ∧ own_g a0 a1 0 = own_g b0 b1 0 ∧ (lA.toInt.toNat = 1 ∨ own_g a0 a1 1 = own_g b0 b1 1)) := fun q => c ⟨(own_lq hA hB).mp q.1, e0.mp q.2.1, q.2.2.imp (own_l1 hA).mp e1.mp⟩
    rw [if_neg c', if_neg (fun q => absurd q.1 (by decide)), if_neg (fun q => c ⟨q.1, q.2.1, q.2.2.1⟩)]
theorem own_sym {lA lB a0 a1 b0 b1 pA pB : Int32} (hA : lA = 1 ∨ lA = 2) (hB : lB = 1 ∨ lB = 2) (h0 : 0 ≤ a0.toInt ∧ a0.toInt ≤ 255) (h1 : 0 ≤ a1.toInt ∧ a1.toInt ≤ 255) (k0 : 0 ≤ b0.toInt ∧ b0.toInt ≤ 255) (k1 : 0 ≤ b1.toInt ∧ b1.toInt ≤ 255) :
    own_req (own_eqv lB.toInt.toNat lA.toInt.toNat (own_g b0 b1) (own_g a0 a1)) pB pA = own_req (own_eqv lA.toInt.toNat lB.toInt.toNat (own_g a0 a1) (own_g b0 b1)) pA pB := by
  rw [own_ex hA hB h0 h1 k0 k1, own_ex hB hA k0 k1 h0 h1]
  by_cases c : lA = lB ∧ a0 = b0 ∧ (lA = 1 ∨ a1 = b1) ∧ pA = pB
  · rw [if_pos c, if_pos ⟨c.1.symm, c.2.1.symm, c.2.2.1.imp (fun q => c.1 ▸ q) Eq.symm, c.2.2.2.symm⟩]
  · rw [if_neg c, if_neg (fun q => c ⟨q.1.symm, q.2.1.symm, q.2.2.1.imp (fun z => q.1 ▸ z) Eq.symm, q.2.2.2.symm⟩)]
theorem pd_20 : parseMethodDescriptor "(ICC)Ljava/lang/String;" = some ⟨[.int, .char, .char], some (.object "java/lang/String")⟩ := by decide +kernel
theorem pd_21 : parseMethodDescriptor "(I)Ljava/util/Optional;" = some ⟨[.int], some (.object "java/util/Optional")⟩ := by decide +kernel
theorem pd_22 : parseMethodDescriptor "(Ljava/lang/String;IZLjava/util/Optional;Ljava/util/Optional;)V" = some ⟨[(.object "java/lang/String"), .int, .boolean, (.object "java/util/Optional"), (.object "java/util/Optional")], none⟩ := by decide +kernel
theorem ef_rm0 (m : MethodId) (x0 : Int32) (x1 : Int32) (x2 : Int32) (x3 : Int32) (x4 : Int32) (x5 : Int32) : entryFrame m #[(.int x0), (.int x1), (.int x2), (.int x3), (.int x4), (.int x5)] maxLocals = mkF m 0 #[.val (.int x0), .val (.int x1), .val (.int x2), .val (.int x3), .val (.int x4), .val (.int x5), .unset, .unset, .unset, .unset, .unset, .unset, .unset, .unset, .unset, .unset, .unset, .unset, .unset, .unset, .unset] [] := by first | (simp [entryFrame, mkF, argsToLocals, Value.category, maxLocals]; done) | rfl
set_option maxRecDepth 65536 in
set_option maxHeartbeats 40000000 in
theorem rm0 (l : Launch) (Z : State) (a0 : Array Value) (hw : ∀ d ∈ tables_1, d.before a0 Z = true) (ws : List Jvm.Cond) (h1 h2 p1 p2 ff se cs : Int32) (em f0 f1 : Addr) (cK0 cK1 : ClassId) (h0 : Heap) (n0 : Nat) (Z0 : n0 ≤ h0.size) (hcs : Sta Z h0 "java/lang/String" "COMPACT_STRINGS" "Z" (.int cs)) (hc0 : ¬ cs = 0) (Sm : Sta Z h0 "java/util/Optional" "EMPTY" "Ljava/util/Optional;" (.ref em)) (Ee : Exa Z h0 em "java/util/Optional") (Fe : Fld Z h0 em "java/util/Optional" "value" "Ljava/lang/Object;" .null) (hat0 : Z.lambdaAt? (⟨"com/example/lease/lease/store/RedisAddress", "<init>", "(Ljava/lang/String;IZLjava/util/Optional;Ljava/util/Optional;)V"⟩ : MethodName) 21 19 own_sh0 = some (cK0, some f0)) (hat1 : Z.lambdaAt? (⟨"com/example/lease/lease/store/RedisAddress", "<init>", "(Ljava/lang/String;IZLjava/util/Optional;Ljava/util/Optional;)V"⟩ : MethodName) 41 29 own_sh1 = some (cK1, some f1)) (Lm0 : Lmo Z h0 f0 cK0) (Lm1 : Lmo Z h0 f1 cK1)  :
    MetW l Z Jvm.Pilot.@@N@@.x code maxLocals ret ws room_1 #[(.int h1), (.int h2), (.int p1), (.int p2), (.int ff), (.int se)] h0 (fun v h L => v = some (.int 1) ∧ Fr n0 L) 56 3264 := by
  refine metW_of (plainFor_of_name pn_2) (f0 := fun m => (mkF m 0 #[.val (.int h1), .val (.int h2), .val (.int p1), .val (.int p2), .val (.int ff), .val (.int se), .unset, .unset, .unset, .unset, .unset, .unset, .unset, .unset, .unset, .unset, .unset, .unset, .unset, .unset, .unset] [])) (fun m => ef_rm0 m h1 h2 p1 p2 ff se) ?_
  intro p e s m below meth c s₁ X0 hx hby hml hret hlk hown hnm hZ e0
  replace hown : s.vm.findClass "com/example/lease/lease/store/RedisAddressEqualsPinLaw" = some m.cls := hown
  have N0 := Fr.nil n0
  have J29 : ∀ (lA x0 x1 : Int32), (lA = 1 ∨ lA = 2) → (0 ≤ x0.toInt ∧ x0.toInt ≤ 255) → (0 ≤ x1.toInt ∧ x1.toInt ≤ 255) → Run p e below (fun v h L => v = some (.int 1) ∧ Fr n0 L) (fun o t L => ReturnedEndW s o t L 56 3264) s₁ (mkF m 29 #[.val (.int h1), .val (.int h2), .val (.int p1), .val (.int p2), .val (.int ff), .val (.int se), .val (.int lA), .val (.int x0), .val (.int x1), .unset, .unset, .unset, .unset, .unset, .unset, .unset, .unset, .unset, .unset, .unset, .unset] []) := by
    intro lA x0 x1 hlA hx0 hx1
    refine r_iload X0.here hx (hb hby at_29) rfl (pc' := 31) rfl ?_
    refine r_iconst X0.here hx (hb hby at_31) (v := 4) rfl (pc' := 32) rfl ?_
    refine r_iand X0.here hx (hb hby at_32) (pc' := 33) rfl ?_
    have J92 : ∀ (sh lB y0 y1 : Int32), (lB = 1 ∨ lB = 2) → (0 ≤ y0.toInt ∧ y0.toInt ≤ 255) → (0 ≤ y1.toInt ∧ y1.toInt ≤ 255) → Run p e below (fun v h L => v = some (.int 1) ∧ Fr n0 L) (fun o t L => ReturnedEndW s o t L 56 3264) s₁ (mkF m 92 #[.val (.int h1), .val (.int h2), .val (.int p1), .val (.int p2), .val (.int ff), .val (.int se), .val (.int lA), .val (.int x0), .val (.int x1), .val (.int sh), .val (.int lB), .val (.int y0), .val (.int y1), .unset, .unset, .unset, .unset, .unset, .unset, .unset, .unset] []) := by
      intro sh lB y0 y1 hlB hy0 hy1
      refine r_iload X0.here hx (hb hby at_92) rfl (pc' := 94) rfl ?_
      refine r_iload X0.here hx (hb hby at_94) rfl (pc' := 96) rfl ?_
      refine r_iload X0.here hx (hb hby at_96) rfl (pc' := 98) rfl ?_
      refine r_callS X0 hx hZ (y := (⟨"com/example/lease/lease/store/RedisAddressEqualsPinLaw", "mk", "(ICC)Ljava/lang/String;"⟩ : MethodName)) (rm := ({ frames := 4, cells := 3, slots := 8, locals := 66 } : Room)) hown (hw _ (List.mem_of_getElem? (i := 0) rfl)) (hw _ (List.mem_of_getElem? (i := 1) rfl)) (hw _ (List.mem_of_getElem? (i := 2) rfl)) (hw _ (List.mem_of_getElem? (i := 3) rfl)) (by decide) (rmMk l Z a0 hw [] lA x0 x1 cs h0 n0 Z0 hlA hx0 hx1 hcs hc0) e0 (by rw [hml]; rfl) (argsL := [(.int lA), (.int x0), (.int x1)]) (rest := []) (lenOf pd_20 rfl) rfl rfl (W := 0) rfl (by decide) (by decide) (by decide) (by decide) (hb hby at_98) (pc' := 101) rfl ?_
      rintro v770 T770 L770 X770 ⟨sA, bA, rfl, Nq770, K770, gbsA_770, fbsA_770, gbbA_770, fbbA_770, nbA, EsA_770, FsA_0_770, FsA_1_770, Ab770⟩
      have N770 := Fr.app N0 Nq770
      show Run p e below _ _ T770 (mkF m 101 #[.val (.int h1), .val (.int h2), .val (.int p1), .val (.int p2), .val (.int ff), .val (.int se), .val (.int lA), .val (.int x0), .val (.int x1), .val (.int sh), .val (.int lB), .val (.int y0), .val (.int y1), .unset, .unset, .unset, .unset, .unset, .unset, .unset, .unset] [(.ref sA)])
      have ne771 : sA ≠ em := Nat.ne_of_gt (Nat.lt_of_lt_of_le Ee.lt fbsA_770)
      have ne772 : sA ≠ f0 := Nat.ne_of_gt (Nat.lt_of_lt_of_le Lm0.lt fbsA_770)
      have ne773 : sA ≠ f1 := Nat.ne_of_gt (Nat.lt_of_lt_of_le Lm1.lt fbsA_770)
      have ne774 : bA ≠ em := Nat.ne_of_gt (Nat.lt_of_lt_of_le Ee.lt fbbA_770)
      have ne775 : bA ≠ f0 := Nat.ne_of_gt (Nat.lt_of_lt_of_le Lm0.lt fbbA_770)
      have ne776 : bA ≠ f1 := Nat.ne_of_gt (Nat.lt_of_lt_of_le Lm1.lt fbbA_770)
      have f777 := own_staKeep hcs K770 all0
      have f778 := own_staKeep Sm K770 all0
      have f779 := Ee.keep K770
      have f780 := Fe.keep K770 nin0
      have f781 := Lm0.keep K770
      have f782 := Lm1.keep K770
      have Z783 : n0 ≤ T770.heap.size := by have q := Z0; exact Nat.le_trans q K770.1
      refine r_astore X770.here hx (hb hby at_101) rfl (l' := #[.val (.int h1), .val (.int h2), .val (.int p1), .val (.int p2), .val (.int ff), .val (.int se), .val (.int lA), .val (.int x0), .val (.int x1), .val (.int sh), .val (.int lB), .val (.int y0), .val (.int y1), .val (.ref sA), .unset, .unset, .unset, .unset, .unset, .unset, .unset]) rfl (pc' := 103) rfl ?_
      refine r_iload X770.here hx (hb hby at_103) rfl (pc' := 105) rfl ?_
      refine r_iload X770.here hx (hb hby at_105) rfl (pc' := 107) rfl ?_
      refine r_iload X770.here hx (hb hby at_107) rfl (pc' := 109) rfl ?_
      refine r_callS X770 hx hZ (y := (⟨"com/example/lease/lease/store/RedisAddressEqualsPinLaw", "mk", "(ICC)Ljava/lang/String;"⟩ : MethodName)) (rm := ({ frames := 4, cells := 3, slots := 8, locals := 66 } : Room)) hown (hw _ (List.mem_of_getElem? (i := 0) rfl)) (hw _ (List.mem_of_getElem? (i := 1) rfl)) (hw _ (List.mem_of_getElem? (i := 2) rfl)) (hw _ (List.mem_of_getElem? (i := 3) rfl)) (by decide) (rmMk l Z a0 hw [] lB y0 y1 cs T770.heap n0 Z783 hlB hy0 hy1 f777 hc0) rfl (by rw [hml]; rfl) (argsL := [(.int lB), (.int y0), (.int y1)]) (rest := []) (lenOf pd_20 rfl) rfl rfl (W := 0) rfl (by decide) (by decide) (by decide) (by decide) (hb hby at_109) (pc' := 112) rfl ?_
      rintro v784 T784 L784 X784 ⟨sB, bB, rfl, Nq784, K784, gbsB_784, fbsB_784, gbbB_784, fbbB_784, nbB, EsB_784, FsB_0_784, FsB_1_784, Ab784⟩
      have N784 := Fr.app N770 Nq784
      show Run p e below _ _ T784 (mkF m 112 #[.val (.int h1), .val (.int h2), .val (.int p1), .val (.int p2), .val (.int ff), .val (.int se), .val (.int lA), .val (.int x0), .val (.int x1), .val (.int sh), .val (.int lB), .val (.int y0), .val (.int y1), .val (.ref sA), .unset, .unset, .unset, .unset, .unset, .unset, .unset] [(.ref sB)])
      have ne785 : sB ≠ em := Nat.ne_of_gt (Nat.lt_of_lt_of_le f779.lt fbsB_784)
      have ne786 : sB ≠ f0 := Nat.ne_of_gt (Nat.lt_of_lt_of_le f781.lt fbsB_784)
      have ne787 : sB ≠ f1 := Nat.ne_of_gt (Nat.lt_of_lt_of_le f782.lt fbsB_784)
      have ne788 : sB ≠ sA := Nat.ne_of_gt (Nat.lt_of_lt_of_le EsA_770.lt fbsB_784)
      have ne789 : sB ≠ bA := Nat.ne_of_gt (Nat.lt_of_lt_of_le Ab770.lt fbsB_784)
      have ne790 : bB ≠ em := Nat.ne_of_gt (Nat.lt_of_lt_of_le f779.lt fbbB_784)
      have ne791 : bB ≠ f0 := Nat.ne_of_gt (Nat.lt_of_lt_of_le f781.lt fbbB_784)
      have ne792 : bB ≠ f1 := Nat.ne_of_gt (Nat.lt_of_lt_of_le f782.lt fbbB_784)
      have ne793 : bB ≠ sA := Nat.ne_of_gt (Nat.lt_of_lt_of_le EsA_770.lt fbbB_784)
      have ne794 : bB ≠ bA := Nat.ne_of_gt (Nat.lt_of_lt_of_le Ab770.lt fbbB_784)
      have f795 := own_staKeep f777 K784 all0
      have f796 := own_staKeep f778 K784 all0
      have f797 := f779.keep K784
      have f798 := f780.keep K784 nin0
      have f799 := f781.keep K784
      have f800 := f782.keep K784
      have f801 := EsA_770.keep K784
      have f802 := FsA_0_770.keep K784 nin0
      have f803 := FsA_1_770.keep K784 nin0
      have f804 := Ab770.keep K784 nin0
      have Z805 : n0 ≤ T784.heap.size := by have q := Z783; exact Nat.le_trans q K784.1
      refine r_astore X784.here hx (hb hby at_112) rfl (l' := #[.val (.int h1), .val (.int h2), .val (.int p1), .val (.int p2), .val (.int ff), .val (.int se), .val (.int lA), .val (.int x0), .val (.int x1), .val (.int sh), .val (.int lB), .val (.int y0), .val (.int y1), .val (.ref sA), .val (.ref sB), .unset, .unset, .unset, .unset, .unset, .unset]) rfl (pc' := 114) rfl ?_
      have J125 : ∀ (pA : Int32), (1 ≤ pA.toInt ∧ pA.toInt ≤ 65535) → Run p e below (fun v h L => v = some (.int 1) ∧ Fr n0 L) (fun o t L => ReturnedEndW s o t L 56 3264) T784 (mkF m 125 #[.val (.int h1), .val (.int h2), .val (.int p1), .val (.int p2), .val (.int ff), .val (.int se), .val (.int lA), .val (.int x0), .val (.int x1), .val (.int sh), .val (.int lB), .val (.int y0), .val (.int y1), .val (.ref sA), .val (.ref sB), .val (.int pA), .unset, .unset, .unset, .unset, .unset] []) := by
        intro pA hpA
        refine r_iload X784.here hx (hb hby at_125) rfl (pc' := 127) rfl ?_
        refine r_bipush X784.here hx (hb hby at_127) (v := 8) rfl (pc' := 129) rfl ?_
        refine r_iand X784.here hx (hb hby at_129) (pc' := 130) rfl ?_
        have J149 : ∀ (pB : Int32), (1 ≤ pB.toInt ∧ pB.toInt ≤ 65535) → Run p e below (fun v h L => v = some (.int 1) ∧ Fr n0 L) (fun o t L => ReturnedEndW s o t L 56 3264) T784 (mkF m 149 #[.val (.int h1), .val (.int h2), .val (.int p1), .val (.int p2), .val (.int ff), .val (.int se), .val (.int lA), .val (.int x0), .val (.int x1), .val (.int sh), .val (.int lB), .val (.int y0), .val (.int y1), .val (.ref sA), .val (.ref sB), .val (.int pA), .val (.int pB), .unset, .unset, .unset, .unset] []) := by
          intro pB hpB
          refine r_new X784 hx hZ hown (hw _ (List.mem_of_getElem? (i := 36) rfl)) (hw _ (List.mem_of_getElem? (i := 37) rfl)) (hw _ (List.mem_of_getElem? (i := 38) rfl)) rfl (by decide) (by decide) (hb hby at_149) (pc' := 152) rfl (fun T806 h806 b806 g806 X806 e806 E806 A806 D806 => ?_)
          have ne807 : b806 ≠ em := by have q := f797.lt; rw [← g806] at q; exact Nat.ne_of_gt q
          have ne808 : b806 ≠ f0 := by have q := f799.lt; rw [← g806] at q; exact Nat.ne_of_gt q
          have ne809 : b806 ≠ f1 := by have q := f800.lt; rw [← g806] at q; exact Nat.ne_of_gt q
          have ne810 : b806 ≠ sA := by have q := f801.lt; rw [← g806] at q; exact Nat.ne_of_gt q
          have ne811 : b806 ≠ bA := by have q := f804.lt; rw [← g806] at q; exact Nat.ne_of_gt q
          have ne812 : b806 ≠ sB := by have q := EsB_784.lt; rw [← g806] at q; exact Nat.ne_of_gt q
          have ne813 : b806 ≠ bB := by have q := Ab784.lt; rw [← g806] at q; exact Nat.ne_of_gt q
          have ge814 : n0 ≤ b806 := by rw [g806]; exact Z805
          have f815 := own_staExt f795 E806
          have f816 := own_staExt f796 E806
          have f817 := f797.ext E806
          have f818 := f798.ext E806
          have f819 := f799.ext E806
          have f820 := f800.ext E806
          have f821 := f801.ext E806
          have f822 := f802.ext E806
          have f823 := f803.ext E806
          have f824 := f804.ext E806
          have f825 := EsB_784.ext E806
          have f826 := FsB_0_784.ext E806
          have f827 := FsB_1_784.ext E806
          have f828 := Ab784.ext E806
          have Z829 : n0 ≤ h806.size := by have q := Z805; exact Nat.le_trans q E806.1
          have f830 : Fld Z h806 b806 "com/example/lease/lease/store/RedisAddress" "host" "Ljava/lang/String;" .null := D806 (Or.inr (hw _ (List.mem_of_getElem? (i := 101) rfl))) (ty := (.object "java/lang/String")) (by decide)
          have f831 : Fld Z h806 b806 "com/example/lease/lease/store/RedisAddress" "port" "I" (.int (0 : Int32)) := D806 (Or.inr (hw _ (List.mem_of_getElem? (i := 103) rfl))) (ty := .int) (by decide)
          have f832 : Fld Z h806 b806 "com/example/lease/lease/store/RedisAddress" "tls" "Z" (.int (0 : Int32)) := D806 (Or.inr (hw _ (List.mem_of_getElem? (i := 105) rfl))) (ty := .boolean) (by decide)
          have f833 : Fld Z h806 b806 "com/example/lease/lease/store/RedisAddress" "user" "Ljava/util/Optional;" .null := D806 (Or.inr (hw _ (List.mem_of_getElem? (i := 107) rfl))) (ty := (.object "java/util/Optional")) (by decide)
          have f834 : Fld Z h806 b806 "com/example/lease/lease/store/RedisAddress" "password" "Ljava/util/Optional;" .null := D806 (Or.inr (hw _ (List.mem_of_getElem? (i := 109) rfl))) (ty := (.object "java/util/Optional")) (by decide)
          refine r_dup X806.here hx (hb hby at_152) rfl (pc' := 153) rfl ?_
          refine r_aload X806.here hx (hb hby at_153) rfl rfl (pc' := 155) rfl ?_
          refine r_iload X806.here hx (hb hby at_155) rfl (pc' := 157) rfl ?_
          refine r_iload X806.here hx (hb hby at_157) rfl (pc' := 159) rfl ?_
          refine r_iconst X806.here hx (hb hby at_159) (v := 1) rfl (pc' := 160) rfl ?_
          refine r_iand X806.here hx (hb hby at_160) (pc' := 161) rfl ?_
          have J169 : ∀ (t1 : Int32), (t1 = 0 ∨ t1 = 1) → Run p e below (fun v h L => v = some (.int 1) ∧ Fr n0 L) (fun o t L => ReturnedEndW s o t L 56 3264) T806 (mkF m 169 #[.val (.int h1), .val (.int h2), .val (.int p1), .val (.int p2), .val (.int ff), .val (.int se), .val (.int lA), .val (.int x0), .val (.int x1), .val (.int sh), .val (.int lB), .val (.int y0), .val (.int y1), .val (.ref sA), .val (.ref sB), .val (.int pA), .val (.int pB), .unset, .unset, .unset, .unset] [(.int t1), (.int pA), (.ref sA), (.ref b806), (.ref b806)]) := by
            intro t1 ht1
            refine r_iload X806.here hx (hb hby at_169) rfl (pc' := 171) rfl ?_
            refine r_callS X806 hx hZ (y := (⟨"com/example/lease/lease/store/RedisAddressEqualsPinLaw", "user", "(I)Ljava/util/Optional;"⟩ : MethodName)) (rm := ({ frames := 3, cells := 3, slots := 6, locals := 39 } : Room)) hown (hw _ (List.mem_of_getElem? (i := 39) rfl)) (hw _ (List.mem_of_getElem? (i := 40) rfl)) (hw _ (List.mem_of_getElem? (i := 2) rfl)) (hw _ (List.mem_of_getElem? (i := 41) rfl)) (by decide) (rm_user l Z a0 hw [] ff cs em h806 n0 Z829 f815 hc0 f816 f817 f818) e806 (by rw [hml]; rfl) (argsL := [(.int ff)]) (rest := [(.int t1), (.int pA), (.ref sA), (.ref b806), (.ref b806)]) (lenOf pd_21 rfl) rfl rfl (W := 5) rfl (by decide) (by decide) (by decide) (by decide) (hb hby at_171) (pc' := 174) rfl ?_
            rintro v835 T835 L835 X835 ⟨u1, rfl, Nq835, K835, Op835⟩
            have N835 := Fr.app N784 Nq835
            show Run p e below _ _ T835 (mkF m 174 #[.val (.int h1), .val (.int h2), .val (.int p1), .val (.int p2), .val (.int ff), .val (.int se), .val (.int lA), .val (.int x0), .val (.int x1), .val (.int sh), .val (.int lB), .val (.int y0), .val (.int y1), .val (.ref sA), .val (.ref sB), .val (.int pA), .val (.int pB), .unset, .unset, .unset, .unset] [(.ref u1), (.int t1), (.int pA), (.ref sA), (.ref b806), (.ref b806)])
            have f836 := own_staKeep f815 K835 all0
            have f837 := own_staKeep f816 K835 all0
            have f838 := f817.keep K835
            have f839 := f818.keep K835 nin0
            have f840 := f819.keep K835
            have f841 := f820.keep K835
            have f842 := f821.keep K835
            have f843 := f822.keep K835 nin0
            have f844 := f823.keep K835 nin0
            have f845 := f824.keep K835 nin0
            have f846 := f825.keep K835
            have f847 := f826.keep K835 nin0
            have f848 := f827.keep K835 nin0
            have f849 := f828.keep K835 nin0
            have f850 := A806.keep K835
            have f851 := f830.keep K835 nin0
            have f852 := f831.keep K835 nin0
            have f853 := f832.keep K835 nin0
            have f854 := f833.keep K835 nin0
            have f855 := f834.keep K835 nin0
            have Z856 : n0 ≤ T835.heap.size := by have q := Z829; exact Nat.le_trans q K835.1
            refine r_iload X835.here hx (hb hby at_174) rfl (pc' := 176) rfl ?_
            refine r_callS X835 hx hZ (y := (⟨"com/example/lease/lease/store/RedisAddressEqualsPinLaw", "password", "(I)Ljava/util/Optional;"⟩ : MethodName)) (rm := ({ frames := 3, cells := 3, slots := 6, locals := 39 } : Room)) hown (hw _ (List.mem_of_getElem? (i := 47) rfl)) (hw _ (List.mem_of_getElem? (i := 48) rfl)) (hw _ (List.mem_of_getElem? (i := 2) rfl)) (hw _ (List.mem_of_getElem? (i := 49) rfl)) (by decide) (rm_password l Z a0 hw [] ff cs em T835.heap n0 Z856 f836 hc0 f837 f838 f839) rfl (by rw [hml]; rfl) (argsL := [(.int ff)]) (rest := [(.ref u1), (.int t1), (.int pA), (.ref sA), (.ref b806), (.ref b806)]) (lenOf pd_21 rfl) rfl rfl (W := 6) rfl (by decide) (by decide) (by decide) (by decide) (hb hby at_176) (pc' := 179) rfl ?_
            rintro v857 T857 L857 X857 ⟨w1, rfl, Nq857, K857, Op857⟩
            have N857 := Fr.app N835 Nq857
            show Run p e below _ _ T857 (mkF m 179 #[.val (.int h1), .val (.int h2), .val (.int p1), .val (.int p2), .val (.int ff), .val (.int se), .val (.int lA), .val (.int x0), .val (.int x1), .val (.int sh), .val (.int lB), .val (.int y0), .val (.int y1), .val (.ref sA), .val (.ref sB), .val (.int pA), .val (.int pB), .unset, .unset, .unset, .unset] [(.ref w1), (.ref u1), (.int t1), (.int pA), (.ref sA), (.ref b806), (.ref b806)])
            have f858 := own_staKeep f836 K857 all0
            have f859 := own_staKeep f837 K857 all0
            have f860 := f838.keep K857
            have f861 := f839.keep K857 nin0
            have f862 := f840.keep K857
            have f863 := f841.keep K857
            have f864 := f842.keep K857
            have f865 := f843.keep K857 nin0
            have f866 := f844.keep K857 nin0
            have f867 := f845.keep K857 nin0
            have f868 := f846.keep K857
            have f869 := f847.keep K857 nin0
            have f870 := f848.keep K857 nin0
            have f871 := f849.keep K857 nin0
            have f872 := f850.keep K857
            have f873 := f851.keep K857 nin0
            have f874 := f852.keep K857 nin0
            have f875 := f853.keep K857 nin0
            have f876 := f854.keep K857 nin0
            have f877 := f855.keep K857 nin0
            have f878 := Op835.keep K857
            have Z879 : n0 ≤ T857.heap.size := by have q := Z856; exact Nat.le_trans q K857.1
            refine r_callIW (s := s) (vm0 := s.vm) X857 hx hZ (y := (⟨"com/example/lease/lease/store/RedisAddress", "<init>", "(Ljava/lang/String;IZLjava/util/Optional;Ljava/util/Optional;)V"⟩ : MethodName)) (rm := ({ frames := 4, cells := 6, slots := 76, locals := 3073 } : Room)) hown rfl (hw _ (List.mem_of_getElem? (i := 50) rfl)) (hw _ (List.mem_of_getElem? (i := 51) rfl)) (hw _ (List.mem_of_getElem? (i := 38) rfl)) (hw _ (List.mem_of_getElem? (i := 52) rfl)) (by decide) ((State.WarmedH.refl s).since 0) (Nat.zero_le _) (rmIn l Z a0 hw [] b806 sA bA u1 w1 f0 f1 cK0 cK1 lA x0 x1 pA t1 _ _ T857.heap n0 Z879 ge814 f872 f873 f874 f875 f876 f877 f864 f866 f867 hlA hpA.1 hpA.2 ht1 hat0 hat1 f862 f863 f878 Op857 (fun q => Or.inl q)) rfl (by rw [hml]; rfl) (argsL := [(.ref sA), (.int pA), (.int t1), (.ref u1), (.ref w1)]) (rest := [(.ref b806)]) (lenOf pd_22 rfl) rfl rfl (W := 1) rfl (by decide) (by decide) (by decide) (by decide) (hb hby at_179) (pc' := 182) rfl ?_
            rintro v880 T880 L880 X880 hS880 hZ880 hown880 ⟨rfl, Nq880, K880, Fh880, Fp880⟩
            have N880 := Fr.app N857 Nq880
            show Run p e below _ _ T880 (mkF m 182 #[.val (.int h1), .val (.int h2), .val (.int p1), .val (.int p2), .val (.int ff), .val (.int se), .val (.int lA), .val (.int x0), .val (.int x1), .val (.int sh), .val (.int lB), .val (.int y0), .val (.int y1), .val (.ref sA), .val (.ref sB), .val (.int pA), .val (.int pB), .unset, .unset, .unset, .unset] [(.ref b806)])
            have f881 := own_staKeep f858 K880 (allS (own_exaS f872) all0)
            have f882 := own_staKeep f859 K880 (allS (own_exaS f872) all0)
            have f883 := f860.keep K880
            have f884 := f861.keep K880 (ninS (Ne.symm ne807) nin0)
            have f885 := f862.keep K880
            have f886 := f863.keep K880
            have f887 := f864.keep K880
            have f888 := f865.keep K880 (ninS (Ne.symm ne810) nin0)
            have f889 := f866.keep K880 (ninS (Ne.symm ne810) nin0)
            have f890 := f867.keep K880 (ninS (Ne.symm ne811) nin0)
            have f891 := f868.keep K880
            have f892 := f869.keep K880 (ninS (Ne.symm ne812) nin0)
            have f893 := f870.keep K880 (ninS (Ne.symm ne812) nin0)
            have f894 := f871.keep K880 (ninS (Ne.symm ne813) nin0)
            have f895 := f872.keep K880
            have Z896 : n0 ≤ T880.heap.size := by have q := Z879; exact Nat.le_trans q K880.1
            refine r_astore X880.here hx (hb hby at_182) rfl (l' := #[.val (.int h1), .val (.int h2), .val (.int p1), .val (.int p2), .val (.int ff), .val (.int se), .val (.int lA), .val (.int x0), .val (.int x1), .val (.int sh), .val (.int lB), .val (.int y0), .val (.int y1), .val (.ref sA), .val (.ref sB), .val (.int pA), .val (.int pB), .val (.ref b806), .unset, .unset, .unset]) rfl (pc' := 184) rfl ?_
            refine r_new X880 hx hZ880 hown880 (hw _ (List.mem_of_getElem? (i := 36) rfl)) (hw _ (List.mem_of_getElem? (i := 37) rfl)) (hw _ (List.mem_of_getElem? (i := 38) rfl)) rfl (by decide) (by decide) (hb hby at_184) (pc' := 187) rfl (fun T897 h897 b897 g897 X897 e897 E897 A897 D897 => ?_)
            have ne898 : b897 ≠ em := by have q := f883.lt; rw [← g897] at q; exact Nat.ne_of_gt q
            have ne899 : b897 ≠ f0 := by have q := f885.lt; rw [← g897] at q; exact Nat.ne_of_gt q
            have ne900 : b897 ≠ f1 := by have q := f886.lt; rw [← g897] at q; exact Nat.ne_of_gt q
            have ne901 : b897 ≠ sA := by have q := f887.lt; rw [← g897] at q; exact Nat.ne_of_gt q
            have ne902 : b897 ≠ bA := by have q := f890.lt; rw [← g897] at q; exact Nat.ne_of_gt q
            have ne903 : b897 ≠ sB := by have q := f891.lt; rw [← g897] at q; exact Nat.ne_of_gt q
            have ne904 : b897 ≠ bB := by have q := f894.lt; rw [← g897] at q; exact Nat.ne_of_gt q
            have ne905 : b897 ≠ b806 := by have q := f895.lt; rw [← g897] at q; exact Nat.ne_of_gt q
            have ge906 : n0 ≤ b897 := by rw [g897]; exact Z896
            have f907 := own_staExt f881 E897
            have f908 := own_staExt f882 E897
            have f909 := f883.ext E897
            have f910 := f884.ext E897
            have f911 := f885.ext E897
            have f912 := f886.ext E897
            have f913 := f887.ext E897
            have f914 := f888.ext E897
            have f915 := f889.ext E897
            have f916 := f890.ext E897
            have f917 := f891.ext E897
            have f918 := f892.ext E897
            have f919 := f893.ext E897
            have f920 := f894.ext E897
            have f921 := f895.ext E897
            have f922 := Fh880.ext E897
            have f923 := Fp880.ext E897
            have Z924 : n0 ≤ h897.size := by have q := Z896; exact Nat.le_trans q E897.1
            have hk925 : T880.heap.size ≤ h897.size := by have q := (Nat.le_refl T880.heap.size); exact Nat.le_trans q E897.1
            have f926 : Fld Z h897 b897 "com/example/lease/lease/store/RedisAddress" "host" "Ljava/lang/String;" .null := D897 (Or.inr (hw _ (List.mem_of_getElem? (i := 101) rfl))) (ty := (.object "java/lang/String")) (by decide)
            have f927 : Fld Z h897 b897 "com/example/lease/lease/store/RedisAddress" "port" "I" (.int (0 : Int32)) := D897 (Or.inr (hw _ (List.mem_of_getElem? (i := 103) rfl))) (ty := .int) (by decide)
            have f928 : Fld Z h897 b897 "com/example/lease/lease/store/RedisAddress" "tls" "Z" (.int (0 : Int32)) := D897 (Or.inr (hw _ (List.mem_of_getElem? (i := 105) rfl))) (ty := .boolean) (by decide)
            have f929 : Fld Z h897 b897 "com/example/lease/lease/store/RedisAddress" "user" "Ljava/util/Optional;" .null := D897 (Or.inr (hw _ (List.mem_of_getElem? (i := 107) rfl))) (ty := (.object "java/util/Optional")) (by decide)
            have f930 : Fld Z h897 b897 "com/example/lease/lease/store/RedisAddress" "password" "Ljava/util/Optional;" .null := D897 (Or.inr (hw _ (List.mem_of_getElem? (i := 109) rfl))) (ty := (.object "java/util/Optional")) (by decide)
            refine r_dup X897.here hx (hb hby at_187) rfl (pc' := 188) rfl ?_
            refine r_aload X897.here hx (hb hby at_188) rfl rfl (pc' := 190) rfl ?_
            refine r_iload X897.here hx (hb hby at_190) rfl (pc' := 192) rfl ?_
            refine r_iload X897.here hx (hb hby at_192) rfl (pc' := 194) rfl ?_
            refine r_iconst X897.here hx (hb hby at_194) (v := 5) rfl (pc' := 195) rfl ?_
            refine r_iushr X897.here hx (hb hby at_195) (pc' := 196) rfl ?_
            refine r_iconst X897.here hx (hb hby at_196) (v := 1) rfl (pc' := 197) rfl ?_
            refine r_iand X897.here hx (hb hby at_197) (pc' := 198) rfl ?_
            have J206 : ∀ (t2 : Int32), (t2 = 0 ∨ t2 = 1) → Run p e below (fun v h L => v = some (.int 1) ∧ Fr n0 L) (fun o t L => ReturnedEndW s o t L 56 3264) T897 (mkF m 206 #[.val (.int h1), .val (.int h2), .val (.int p1), .val (.int p2), .val (.int ff), .val (.int se), .val (.int lA), .val (.int x0), .val (.int x1), .val (.int sh), .val (.int lB), .val (.int y0), .val (.int y1), .val (.ref sA), .val (.ref sB), .val (.int pA), .val (.int pB), .val (.ref b806), .unset, .unset, .unset] [(.int t2), (.int pB), (.ref sB), (.ref b897), (.ref b897)]) := by
              intro t2 ht2
              refine r_iload X897.here hx (hb hby at_206) rfl (pc' := 208) rfl ?_
              refine r_iconst X897.here hx (hb hby at_208) (v := 5) rfl (pc' := 209) rfl ?_
              refine r_iushr X897.here hx (hb hby at_209) (pc' := 210) rfl ?_
              refine r_callS X897 hx hZ880 (y := (⟨"com/example/lease/lease/store/RedisAddressEqualsPinLaw", "user", "(I)Ljava/util/Optional;"⟩ : MethodName)) (rm := ({ frames := 3, cells := 3, slots := 6, locals := 39 } : Room)) hown880 (hw _ (List.mem_of_getElem? (i := 39) rfl)) (hw _ (List.mem_of_getElem? (i := 40) rfl)) (hw _ (List.mem_of_getElem? (i := 2) rfl)) (hw _ (List.mem_of_getElem? (i := 41) rfl)) (by decide) (rm_user l Z a0 hw [] (ushrI ff (5 : Int32)) cs em h897 n0 Z924 f907 hc0 f908 f909 f910) e897 (by rw [hml]; rfl) (argsL := [(.int (ushrI ff (5 : Int32)))]) (rest := [(.int t2), (.int pB), (.ref sB), (.ref b897), (.ref b897)]) (lenOf pd_21 rfl) rfl rfl (W := 5) rfl (by decide) (by decide) (by decide) (by decide) (hb hby at_210) (pc' := 213) rfl ?_
              rintro v931 T931 L931 X931 ⟨u2, rfl, Nq931, K931, Op931⟩
              have N931 := Fr.app N880 Nq931
              show Run p e below _ _ T931 (mkF m 213 #[.val (.int h1), .val (.int h2), .val (.int p1), .val (.int p2), .val (.int ff), .val (.int se), .val (.int lA), .val (.int x0), .val (.int x1), .val (.int sh), .val (.int lB), .val (.int y0), .val (.int y1), .val (.ref sA), .val (.ref sB), .val (.int pA), .val (.int pB), .val (.ref b806), .unset, .unset, .unset] [(.ref u2), (.int t2), (.int pB), (.ref sB), (.ref b897), (.ref b897)])
              have f932 := own_staKeep f907 K931 all0
              have f933 := own_staKeep f908 K931 all0
              have f934 := f909.keep K931
              have f935 := f910.keep K931 nin0
              have f936 := f911.keep K931
              have f937 := f912.keep K931
              have f938 := f913.keep K931
              have f939 := f914.keep K931 nin0
              have f940 := f915.keep K931 nin0
              have f941 := f916.keep K931 nin0
              have f942 := f917.keep K931
              have f943 := f918.keep K931 nin0
              have f944 := f919.keep K931 nin0
              have f945 := f920.keep K931 nin0
              have f946 := f921.keep K931
              have f947 := f922.keep K931 nin0
              have f948 := f923.keep K931 nin0
              have f949 := A897.keep K931
              have f950 := f926.keep K931 nin0
              have f951 := f927.keep K931 nin0
              have f952 := f928.keep K931 nin0
              have f953 := f929.keep K931 nin0
              have f954 := f930.keep K931 nin0
              have Z955 : n0 ≤ T931.heap.size := by have q := Z924; exact Nat.le_trans q K931.1
              have hk956 : T880.heap.size ≤ T931.heap.size := by have q := hk925; exact Nat.le_trans q K931.1
              refine r_iload X931.here hx (hb hby at_213) rfl (pc' := 215) rfl ?_
              refine r_iconst X931.here hx (hb hby at_215) (v := 5) rfl (pc' := 216) rfl ?_
              refine r_iushr X931.here hx (hb hby at_216) (pc' := 217) rfl ?_
              refine r_callS X931 hx hZ880 (y := (⟨"com/example/lease/lease/store/RedisAddressEqualsPinLaw", "password", "(I)Ljava/util/Optional;"⟩ : MethodName)) (rm := ({ frames := 3, cells := 3, slots := 6, locals := 39 } : Room)) hown880 (hw _ (List.mem_of_getElem? (i := 47) rfl)) (hw _ (List.mem_of_getElem? (i := 48) rfl)) (hw _ (List.mem_of_getElem? (i := 2) rfl)) (hw _ (List.mem_of_getElem? (i := 49) rfl)) (by decide) (rm_password l Z a0 hw [] (ushrI ff (5 : Int32)) cs em T931.heap n0 Z955 f932 hc0 f933 f934 f935) rfl (by rw [hml]; rfl) (argsL := [(.int (ushrI ff (5 : Int32)))]) (rest := [(.ref u2), (.int t2), (.int pB), (.ref sB), (.ref b897), (.ref b897)]) (lenOf pd_21 rfl) rfl rfl (W := 6) rfl (by decide) (by decide) (by decide) (by decide) (hb hby at_217) (pc' := 220) rfl ?_
              rintro v957 T957 L957 X957 ⟨w2, rfl, Nq957, K957, Op957⟩
              have N957 := Fr.app N931 Nq957
              show Run p e below _ _ T957 (mkF m 220 #[.val (.int h1), .val (.int h2), .val (.int p1), .val (.int p2), .val (.int ff), .val (.int se), .val (.int lA), .val (.int x0), .val (.int x1), .val (.int sh), .val (.int lB), .val (.int y0), .val (.int y1), .val (.ref sA), .val (.ref sB), .val (.int pA), .val (.int pB), .val (.ref b806), .unset, .unset, .unset] [(.ref w2), (.ref u2), (.int t2), (.int pB), (.ref sB), (.ref b897), (.ref b897)])
              have f958 := own_staKeep f932 K957 all0
              have f959 := own_staKeep f933 K957 all0
              have f960 := f934.keep K957
              have f961 := f935.keep K957 nin0
              have f962 := f936.keep K957
              have f963 := f937.keep K957
              have f964 := f938.keep K957
              have f965 := f939.keep K957 nin0
              have f966 := f940.keep K957 nin0
              have f967 := f941.keep K957 nin0
              have f968 := f942.keep K957
              have f969 := f943.keep K957 nin0
              have f970 := f944.keep K957 nin0
              have f971 := f945.keep K957 nin0
              have f972 := f946.keep K957
              have f973 := f947.keep K957 nin0
              have f974 := f948.keep K957 nin0
              have f975 := f949.keep K957
              have f976 := f950.keep K957 nin0
              have f977 := f951.keep K957 nin0
              have f978 := f952.keep K957 nin0
              have f979 := f953.keep K957 nin0
              have f980 := f954.keep K957 nin0
              have f981 := Op931.keep K957
              have Z982 : n0 ≤ T957.heap.size := by have q := Z955; exact Nat.le_trans q K957.1
              have hk983 : T880.heap.size ≤ T957.heap.size := by have q := hk956; exact Nat.le_trans q K957.1
              refine r_callIW (s := s) (vm0 := T880.vm) X957 hx hZ880 (y := (⟨"com/example/lease/lease/store/RedisAddress", "<init>", "(Ljava/lang/String;IZLjava/util/Optional;Ljava/util/Optional;)V"⟩ : MethodName)) (rm := ({ frames := 4, cells := 6, slots := 76, locals := 3073 } : Room)) hown880 rfl (hw _ (List.mem_of_getElem? (i := 50) rfl)) (hw _ (List.mem_of_getElem? (i := 51) rfl)) (hw _ (List.mem_of_getElem? (i := 38) rfl)) (hw _ (List.mem_of_getElem? (i := 52) rfl)) (by decide) hS880 hk983 (rmIn l Z a0 hw [] b897 sB bB u2 w2 f0 f1 cK0 cK1 lB y0 y1 pB t2 _ _ T957.heap n0 Z982 ge906 f975 f976 f977 f978 f979 f980 f968 f970 f971 hlB hpB.1 hpB.2 ht2 hat0 hat1 f962 f963 f981 Op957 (fun q => Or.inl q)) rfl (by rw [hml]; rfl) (argsL := [(.ref sB), (.int pB), (.int t2), (.ref u2), (.ref w2)]) (rest := [(.ref b897)]) (lenOf pd_22 rfl) rfl rfl (W := 1) rfl (by decide) (by decide) (by decide) (by decide) (hb hby at_220) (pc' := 223) rfl ?_
              rintro v984 T984 L984 X984 hS984 hZ984 hown984 ⟨rfl, Nq984, K984, Fh984, Fp984⟩
              have N984 := Fr.app N957 Nq984
              show Run p e below _ _ T984 (mkF m 223 #[.val (.int h1), .val (.int h2), .val (.int p1), .val (.int p2), .val (.int ff), .val (.int se), .val (.int lA), .val (.int x0), .val (.int x1), .val (.int sh), .val (.int lB), .val (.int y0), .val (.int y1), .val (.ref sA), .val (.ref sB), .val (.int pA), .val (.int pB), .val (.ref b806), .unset, .unset, .unset] [(.ref b897)])
              have f985 := own_staKeep f958 K984 (allS (own_exaS f975) all0)
              have f986 := own_staKeep f959 K984 (allS (own_exaS f975) all0)
              have f987 := f960.keep K984
              have f988 := f961.keep K984 (ninS (Ne.symm ne898) nin0)
              have f989 := f962.keep K984
              have f990 := f963.keep K984
              have f991 := f964.keep K984
              have f992 := f965.keep K984 (ninS (Ne.symm ne901) nin0)
              have f993 := f966.keep K984 (ninS (Ne.symm ne901) nin0)
              have f994 := f967.keep K984 (ninS (Ne.symm ne902) nin0)
              have f995 := f968.keep K984
              have f996 := f969.keep K984 (ninS (Ne.symm ne903) nin0)
              have f997 := f970.keep K984 (ninS (Ne.symm ne903) nin0)
              have f998 := f971.keep K984 (ninS (Ne.symm ne904) nin0)
              have f999 := f972.keep K984
              have f1000 := f973.keep K984 (ninS (Ne.symm ne905) nin0)
              have f1001 := f974.keep K984 (ninS (Ne.symm ne905) nin0)
              have f1002 := f975.keep K984
              have Z1003 : n0 ≤ T984.heap.size := by have q := Z982; exact Nat.le_trans q K984.1
              refine r_astore X984.here hx (hb hby at_223) rfl (l' := #[.val (.int h1), .val (.int h2), .val (.int p1), .val (.int p2), .val (.int ff), .val (.int se), .val (.int lA), .val (.int x0), .val (.int x1), .val (.int sh), .val (.int lB), .val (.int y0), .val (.int y1), .val (.ref sA), .val (.ref sB), .val (.int pA), .val (.int pB), .val (.ref b806), .val (.ref b897), .unset, .unset]) rfl (pc' := 225) rfl ?_
              refine r_iload X984.here hx (hb hby at_225) rfl (pc' := 227) rfl ?_
              refine r_iconst X984.here hx (hb hby at_227) (v := 3) rfl (pc' := 228) rfl ?_
              refine r_iand X984.here hx (hb hby at_228) (pc' := 229) rfl ?_
              refine r_istore X984.here hx (hb hby at_229) (l' := #[.val (.int h1), .val (.int h2), .val (.int p1), .val (.int p2), .val (.int ff), .val (.int se), .val (.int lA), .val (.int x0), .val (.int x1), .val (.int sh), .val (.int lB), .val (.int y0), .val (.int y1), .val (.ref sA), .val (.ref sB), .val (.int pA), .val (.int pB), .val (.ref b806), .val (.ref b897), .val (.int (se &&& (3 : Int32))), .unset]) rfl (pc' := 231) rfl ?_
              refine r_iload X984.here hx (hb hby at_231) rfl (pc' := 233) rfl ?_
              refine r_iconst X984.here hx (hb hby at_233) (v := 2) rfl (pc' := 234) rfl ?_
              refine r_if_ne X984.here hx (hb hby at_234) (by decide) (pc' := 252) (by decide) (pc2 := 237) rfl (fun hc234 => ?_) (fun hc234 => ?_)
              · refine r_iload X984.here hx (hb hby at_252) rfl (pc' := 254) rfl ?_
                refine r_iconst X984.here hx (hb hby at_254) (v := 3) rfl (pc' := 255) rfl ?_
                refine r_if_ne X984.here hx (hb hby at_255) (by decide) (pc' := 274) (by decide) (pc2 := 258) rfl (fun hc255 => ?_) (fun hc255 => ?_)
                · refine r_iload X984.here hx (hb hby at_274) rfl (pc' := 276) rfl ?_
                  refine r_iload X984.here hx (hb hby at_276) rfl (pc' := 278) rfl ?_
                  have J315 : ∀ (xx : Int32), (xx = own_req (own_eqv lA.toInt.toNat lB.toInt.toNat (own_g x0 x1) (own_g y0 y1)) pA pB) → Run p e below (fun v h L => v = some (.int 1) ∧ Fr n0 L) (fun o t L => ReturnedEndW s o t L 56 3264) T984 (mkF m 315 #[.val (.int h1), .val (.int h2), .val (.int p1), .val (.int p2), .val (.int ff), .val (.int se), .val (.int lA), .val (.int x0), .val (.int x1), .val (.int sh), .val (.int lB), .val (.int y0), .val (.int y1), .val (.ref sA), .val (.ref sB), .val (.int pA), .val (.int pB), .val (.ref b806), .val (.ref b897), .val (.int (se &&& (3 : Int32))), .val (.int xx)] []) := by
                    intro xx hex
                    refine r_aload X984.here hx (hb hby at_315) rfl rfl (pc' := 317) rfl ?_
                    refine r_aload X984.here hx (hb hby at_317) rfl rfl (pc' := 319) rfl ?_
                    refine r_callV X984 hx hZ984 (y := (⟨"com/example/lease/lease/store/RedisAddress", "equals", "(Ljava/lang/Object;)Z"⟩ : MethodName)) (z := (⟨"com/example/lease/lease/store/RedisAddress", "equals", "(Ljava/lang/Object;)Z"⟩ : MethodName)) (rm := ({ frames := 2, cells := 0, slots := 0, locals := 28 } : Room)) hown984 (hw _ (List.mem_of_getElem? (i := 110) rfl)) (hw _ (List.mem_of_getElem? (i := 111) rfl)) (notFace_of_selects (args := #[]) (mvT hZ984 (hw _ (List.mem_of_getElem? (i := 113) rfl)))) (hw _ (List.mem_of_getElem? (i := 113) rfl)) (hw _ (List.mem_of_getElem? (i := 112) rfl)) (hw _ (List.mem_of_getElem? (i := 38) rfl)) (hw _ (List.mem_of_getElem? (i := 114) rfl)) (by decide) (rmQe l Z a0 hw [] b806 b897 pA pB sA sB bA bB (own_g x0 x1) (own_g y0 y1) lA lB cs T984.heap n0 Z1003 (Ne.symm ne788) f999 f1000 f1001 f1002 Fh984 Fp984 f991 f992 f993 f994 f995 f996 f997 f998 hlA hlB f985 hc0) rfl f999 (by rw [hml]; rfl) (argsL := [(.ref b897)]) (rest := []) (lenOf pd_15 rfl) rfl rfl (W := 0) rfl (by decide) (by decide) (by decide) (by decide) (hb hby at_319) (pc' := 322) rfl ?_
                    rintro v1004 T1004 L1004 X1004 ⟨rfl, Nq1004, e1004⟩
                    have N1004 := Fr.app N984 Nq1004
                    show Run p e below _ _ T1004 (mkF m 322 #[.val (.int h1), .val (.int h2), .val (.int p1), .val (.int p2), .val (.int ff), .val (.int se), .val (.int lA), .val (.int x0), .val (.int x1), .val (.int sh), .val (.int lB), .val (.int y0), .val (.int y1), .val (.ref sA), .val (.ref sB), .val (.int pA), .val (.int pB), .val (.ref b806), .val (.ref b897), .val (.int (se &&& (3 : Int32))), .val (.int xx)] [(.int (own_req (own_eqv lA.toInt.toNat lB.toInt.toNat (own_g x0 x1) (own_g y0 y1)) pA pB))])
                    refine r_iload X1004.here hx (hb hby at_322) rfl (pc' := 324) rfl ?_
                    refine r_if_ne X1004.here hx (hb hby at_324) (by decide) (pc' := 353) (by decide) (pc2 := 327) rfl (fun hc324 => absurd hex.symm hc324) (fun hc324 => ?_)
                    refine r_aload X1004.here hx (hb hby at_327) rfl rfl (pc' := 329) rfl ?_
                    refine r_aload X1004.here hx (hb hby at_329) rfl rfl (pc' := 331) rfl ?_
                    refine r_callV X1004 hx hZ984 (y := (⟨"com/example/lease/lease/store/RedisAddress", "equals", "(Ljava/lang/Object;)Z"⟩ : MethodName)) (z := (⟨"com/example/lease/lease/store/RedisAddress", "equals", "(Ljava/lang/Object;)Z"⟩ : MethodName)) (rm := ({ frames := 2, cells := 0, slots := 0, locals := 28 } : Room)) hown984 (hw _ (List.mem_of_getElem? (i := 110) rfl)) (hw _ (List.mem_of_getElem? (i := 111) rfl)) (notFace_of_selects (args := #[]) (mvT hZ984 (hw _ (List.mem_of_getElem? (i := 113) rfl)))) (hw _ (List.mem_of_getElem? (i := 113) rfl)) (hw _ (List.mem_of_getElem? (i := 112) rfl)) (hw _ (List.mem_of_getElem? (i := 38) rfl)) (hw _ (List.mem_of_getElem? (i := 114) rfl)) (by decide) (rmQe l Z a0 hw [] b897 b806 pB pA sB sA bB bA (own_g y0 y1) (own_g x0 x1) lB lA cs T984.heap n0 Z1003 ne788 f1002 Fh984 Fp984 f999 f1000 f1001 f995 f996 f997 f998 f991 f992 f993 f994 hlB hlA f985 hc0) e1004 f1002 (by rw [hml]; rfl) (argsL := [(.ref b806)]) (rest := []) (lenOf pd_15 rfl) rfl rfl (W := 0) rfl (by decide) (by decide) (by decide) (by decide) (hb hby at_331) (pc' := 334) rfl ?_
                    rintro v1005 T1005 L1005 X1005 ⟨rfl, Nq1005, e1005⟩
                    have N1005 := Fr.app N1004 Nq1005
                    show Run p e below _ _ T1005 (mkF m 334 #[.val (.int h1), .val (.int h2), .val (.int p1), .val (.int p2), .val (.int ff), .val (.int se), .val (.int lA), .val (.int x0), .val (.int x1), .val (.int sh), .val (.int lB), .val (.int y0), .val (.int y1), .val (.ref sA), .val (.ref sB), .val (.int pA), .val (.int pB), .val (.ref b806), .val (.ref b897), .val (.int (se &&& (3 : Int32))), .val (.int xx)] [(.int (own_req (own_eqv lB.toInt.toNat lA.toInt.toNat (own_g y0 y1) (own_g x0 x1)) pB pA))])
                    refine r_iload X1005.here hx (hb hby at_334) rfl (pc' := 336) rfl ?_
                    refine r_if_ne X1005.here hx (hb hby at_336) (by decide) (pc' := 353) (by decide) (pc2 := 339) rfl (fun hc336 => absurd ((own_sym hlA hlB hx0 hx1 hy0 hy1).trans hex.symm) hc336) (fun hc336 => ?_)
                    refine r_aload X1005.here hx (hb hby at_339) rfl rfl (pc' := 341) rfl ?_
                    refine r_aload X1005.here hx (hb hby at_341) rfl rfl (pc' := 343) rfl ?_
                    refine r_callV X1005 hx hZ984 (y := (⟨"com/example/lease/lease/store/RedisAddress", "equals", "(Ljava/lang/Object;)Z"⟩ : MethodName)) (z := (⟨"com/example/lease/lease/store/RedisAddress", "equals", "(Ljava/lang/Object;)Z"⟩ : MethodName)) (rm := ({ frames := 1, cells := 0, slots := 0, locals := 14 } : Room)) hown984 (hw _ (List.mem_of_getElem? (i := 110) rfl)) (hw _ (List.mem_of_getElem? (i := 111) rfl)) (notFace_of_selects (args := #[]) (mvT hZ984 (hw _ (List.mem_of_getElem? (i := 113) rfl)))) (hw _ (List.mem_of_getElem? (i := 113) rfl)) (hw _ (List.mem_of_getElem? (i := 112) rfl)) (hw _ (List.mem_of_getElem? (i := 38) rfl)) (hw _ (List.mem_of_getElem? (i := 114) rfl)) (by decide) (rmQo l Z a0 hw [] b806 sA pA T984.heap n0 Z1003 f999 f1000 f1001 f991) e1005 f999 (by rw [hml]; rfl) (argsL := [(.ref b806)]) (rest := []) (lenOf pd_15 rfl) rfl rfl (W := 0) rfl (by decide) (by decide) (by decide) (by decide) (hb hby at_343) (pc' := 346) rfl ?_
                    rintro v1006 T1006 L1006 X1006 ⟨rfl, Nq1006, e1006⟩
                    have N1006 := Fr.app N1005 Nq1006
                    show Run p e below _ _ T1006 (mkF m 346 #[.val (.int h1), .val (.int h2), .val (.int p1), .val (.int p2), .val (.int ff), .val (.int se), .val (.int lA), .val (.int x0), .val (.int x1), .val (.int sh), .val (.int lB), .val (.int y0), .val (.int y1), .val (.ref sA), .val (.ref sB), .val (.int pA), .val (.int pB), .val (.ref b806), .val (.ref b897), .val (.int (se &&& (3 : Int32))), .val (.int xx)] [(.int (1 : Int32))])
                    refine r_if0_eq X1006.here hx (hb hby at_346) (by decide) (pc' := 353) (by decide) (pc2 := 349) rfl (fun hc346 => absurd hc346 (by decide)) (fun hc346 => ?_)
                    refine r_iconst X1006.here hx (hb hby at_349) (v := 1) rfl (pc' := 350) rfl ?_
                    refine r_goto X1006.here hx (hb hby at_350) (by decide) (pc' := 354) (by decide) ?_
                    refine w_retN (s := s) (vm1 := T984.vm) X1006 hS984 (by rw [e1006]; exact (Nat.le_refl T984.heap.size)) hx hlk hret (by simp) (hb hby at_354) (w := (1 : Int32)) rfl ?_ (by decide) (by decide)
                    try rw [e1006]
                    exact ⟨rfl, N1006⟩
                  refine r_if_ne X984.here hx (hb hby at_278) (by decide) (pc' := 312) (by decide) (pc2 := 281) rfl (fun hc278 => ?_) (fun hc278 => ?_)
                  · refine r_iconst X984.here hx (hb hby at_312) (v := 0) rfl (pc' := 313) rfl ?_
                    refine r_istore X984.here hx (hb hby at_313) (l' := #[.val (.int h1), .val (.int h2), .val (.int p1), .val (.int p2), .val (.int ff), .val (.int se), .val (.int lA), .val (.int x0), .val (.int x1), .val (.int sh), .val (.int lB), .val (.int y0), .val (.int y1), .val (.ref sA), .val (.ref sB), .val (.int pA), .val (.int pB), .val (.ref b806), .val (.ref b897), .val (.int (se &&& (3 : Int32))), .val (.int (0 : Int32))]) rfl (pc' := 315) rfl ?_
                    exact J315 _ ((own_ex hlA hlB hx0 hx1 hy0 hy1).trans (if_neg (fun q => hc278 q.1))).symm
                  · refine r_iload X984.here hx (hb hby at_281) rfl (pc' := 283) rfl ?_
                    refine r_iload X984.here hx (hb hby at_283) rfl (pc' := 285) rfl ?_
                    refine r_if_ne X984.here hx (hb hby at_285) (by decide) (pc' := 312) (by decide) (pc2 := 288) rfl (fun hc285 => ?_) (fun hc285 => ?_)
                    · refine r_iconst X984.here hx (hb hby at_312) (v := 0) rfl (pc' := 313) rfl ?_
                      refine r_istore X984.here hx (hb hby at_313) (l' := #[.val (.int h1), .val (.int h2), .val (.int p1), .val (.int p2), .val (.int ff), .val (.int se), .val (.int lA), .val (.int x0), .val (.int x1), .val (.int sh), .val (.int lB), .val (.int y0), .val (.int y1), .val (.ref sA), .val (.ref sB), .val (.int pA), .val (.int pB), .val (.ref b806), .val (.ref b897), .val (.int (se &&& (3 : Int32))), .val (.int (0 : Int32))]) rfl (pc' := 315) rfl ?_
                      exact J315 _ ((own_ex hlA hlB hx0 hx1 hy0 hy1).trans (if_neg (fun q => hc285 q.2.1))).symm
                    · refine r_iload X984.here hx (hb hby at_288) rfl (pc' := 290) rfl ?_
                      refine r_iconst X984.here hx (hb hby at_290) (v := 1) rfl (pc' := 291) rfl ?_
                      refine r_if_eq X984.here hx (hb hby at_291) (by decide) (pc' := 301) (by decide) (pc2 := 294) rfl (fun hc291 => ?_) (fun hc291 => ?_)
                      · refine r_iload X984.here hx (hb hby at_301) rfl (pc' := 303) rfl ?_
                        refine r_iload X984.here hx (hb hby at_303) rfl (pc' := 305) rfl ?_
                        refine r_if_ne X984.here hx (hb hby at_305) (by decide) (pc' := 312) (by decide) (pc2 := 308) rfl (fun hc305 => ?_) (fun hc305 => ?_)
                        · refine r_iconst X984.here hx (hb hby at_312) (v := 0) rfl (pc' := 313) rfl ?_
                          refine r_istore X984.here hx (hb hby at_313) (l' := #[.val (.int h1), .val (.int h2), .val (.int p1), .val (.int p2), .val (.int ff), .val (.int se), .val (.int lA), .val (.int x0), .val (.int x1), .val (.int sh), .val (.int lB), .val (.int y0), .val (.int y1), .val (.ref sA), .val (.ref sB), .val (.int pA), .val (.int pB), .val (.ref b806), .val (.ref b897), .val (.int (se &&& (3 : Int32))), .val (.int (0 : Int32))]) rfl (pc' := 315) rfl ?_
                          exact J315 _ ((own_ex hlA hlB hx0 hx1 hy0 hy1).trans (if_neg (fun q => hc305 q.2.2.2))).symm
                        · refine r_iconst X984.here hx (hb hby at_308) (v := 1) rfl (pc' := 309) rfl ?_
                          refine r_goto X984.here hx (hb hby at_309) (by decide) (pc' := 313) (by decide) ?_
                          refine r_istore X984.here hx (hb hby at_313) (l' := #[.val (.int h1), .val (.int h2), .val (.int p1), .val (.int p2), .val (.int ff), .val (.int se), .val (.int lA), .val (.int x0), .val (.int x1), .val (.int sh), .val (.int lB), .val (.int y0), .val (.int y1), .val (.ref sA), .val (.ref sB), .val (.int pA), .val (.int pB), .val (.ref b806), .val (.ref b897), .val (.int (se &&& (3 : Int32))), .val (.int (1 : Int32))]) rfl (pc' := 315) rfl ?_
                          exact J315 _ ((own_ex hlA hlB hx0 hx1 hy0 hy1).trans (if_pos ⟨Decidable.of_not_not hc278, Decidable.of_not_not hc285, Or.inl hc291, Decidable.of_not_not hc305⟩)).symm
                      · refine r_iload X984.here hx (hb hby at_294) rfl (pc' := 296) rfl ?_
                        refine r_iload X984.here hx (hb hby at_296) rfl (pc' := 298) rfl ?_
                        refine r_if_ne X984.here hx (hb hby at_298) (by decide) (pc' := 312) (by decide) (pc2 := 301) rfl (fun hc298 => ?_) (fun hc298 => ?_)
                        · refine r_iconst X984.here hx (hb hby at_312) (v := 0) rfl (pc' := 313) rfl ?_
                          refine r_istore X984.here hx (hb hby at_313) (l' := #[.val (.int h1), .val (.int h2), .val (.int p1), .val (.int p2), .val (.int ff), .val (.int se), .val (.int lA), .val (.int x0), .val (.int x1), .val (.int sh), .val (.int lB), .val (.int y0), .val (.int y1), .val (.ref sA), .val (.ref sB), .val (.int pA), .val (.int pB), .val (.ref b806), .val (.ref b897), .val (.int (se &&& (3 : Int32))), .val (.int (0 : Int32))]) rfl (pc' := 315) rfl ?_
                          exact J315 _ ((own_ex hlA hlB hx0 hx1 hy0 hy1).trans (if_neg (fun q => q.2.2.1.elim hc291 hc298))).symm
                        · refine r_iload X984.here hx (hb hby at_301) rfl (pc' := 303) rfl ?_
                          refine r_iload X984.here hx (hb hby at_303) rfl (pc' := 305) rfl ?_
                          refine r_if_ne X984.here hx (hb hby at_305) (by decide) (pc' := 312) (by decide) (pc2 := 308) rfl (fun hc305 => ?_) (fun hc305 => ?_)
                          · refine r_iconst X984.here hx (hb hby at_312) (v := 0) rfl (pc' := 313) rfl ?_
                            refine r_istore X984.here hx (hb hby at_313) (l' := #[.val (.int h1), .val (.int h2), .val (.int p1), .val (.int p2), .val (.int ff), .val (.int se), .val (.int lA), .val (.int x0), .val (.int x1), .val (.int sh), .val (.int lB), .val (.int y0), .val (.int y1), .val (.ref sA), .val (.ref sB), .val (.int pA), .val (.int pB), .val (.ref b806), .val (.ref b897), .val (.int (se &&& (3 : Int32))), .val (.int (0 : Int32))]) rfl (pc' := 315) rfl ?_
                            exact J315 _ ((own_ex hlA hlB hx0 hx1 hy0 hy1).trans (if_neg (fun q => hc305 q.2.2.2))).symm
                          · refine r_iconst X984.here hx (hb hby at_308) (v := 1) rfl (pc' := 309) rfl ?_
                            refine r_goto X984.here hx (hb hby at_309) (by decide) (pc' := 313) (by decide) ?_
                            refine r_istore X984.here hx (hb hby at_313) (l' := #[.val (.int h1), .val (.int h2), .val (.int p1), .val (.int p2), .val (.int ff), .val (.int se), .val (.int lA), .val (.int x0), .val (.int x1), .val (.int sh), .val (.int lB), .val (.int y0), .val (.int y1), .val (.ref sA), .val (.ref sB), .val (.int pA), .val (.int pB), .val (.ref b806), .val (.ref b897), .val (.int (se &&& (3 : Int32))), .val (.int (1 : Int32))]) rfl (pc' := 315) rfl ?_
                            exact J315 _ ((own_ex hlA hlB hx0 hx1 hy0 hy1).trans (if_pos ⟨Decidable.of_not_not hc278, Decidable.of_not_not hc285, Or.inr (Decidable.of_not_not hc298), Decidable.of_not_not hc305⟩)).symm
                · refine r_aload X984.here hx (hb hby at_258) rfl rfl (pc' := 260) rfl ?_
                  refine r_aload X984.here hx (hb hby at_260) rfl rfl (pc' := 262) rfl ?_
                  refine r_callV X984 hx hZ984 (y := (⟨"com/example/lease/lease/store/RedisAddress", "equals", "(Ljava/lang/Object;)Z"⟩ : MethodName)) (z := (⟨"com/example/lease/lease/store/RedisAddress", "equals", "(Ljava/lang/Object;)Z"⟩ : MethodName)) (rm := ({ frames := 0, cells := 0, slots := 0, locals := 0 } : Room)) hown984 (hw _ (List.mem_of_getElem? (i := 110) rfl)) (hw _ (List.mem_of_getElem? (i := 111) rfl)) (notFace_of_selects (args := #[]) (mvT hZ984 (hw _ (List.mem_of_getElem? (i := 113) rfl)))) (hw _ (List.mem_of_getElem? (i := 113) rfl)) (hw _ (List.mem_of_getElem? (i := 112) rfl)) (hw _ (List.mem_of_getElem? (i := 38) rfl)) (hw _ (List.mem_of_getElem? (i := 114) rfl)) (by decide) (rmQs l Z a0 hw [] b806 sA T984.heap n0 Z1003 f991) rfl f999 (by rw [hml]; rfl) (argsL := [(.ref sA)]) (rest := []) (lenOf pd_15 rfl) rfl rfl (W := 0) rfl (by decide) (by decide) (by decide) (by decide) (hb hby at_262) (pc' := 265) rfl ?_
                  rintro v1007 T1007 L1007 X1007 ⟨rfl, Nq1007, e1007⟩
                  have N1007 := Fr.app N984 Nq1007
                  show Run p e below _ _ T1007 (mkF m 265 #[.val (.int h1), .val (.int h2), .val (.int p1), .val (.int p2), .val (.int ff), .val (.int se), .val (.int lA), .val (.int x0), .val (.int x1), .val (.int sh), .val (.int lB), .val (.int y0), .val (.int y1), .val (.ref sA), .val (.ref sB), .val (.int pA), .val (.int pB), .val (.ref b806), .val (.ref b897), .val (.int (se &&& (3 : Int32))), .unset] [(.int (0 : Int32))])
                  refine r_if0_ne X1007.here hx (hb hby at_265) (by decide) (pc' := 272) (by decide) (pc2 := 268) rfl (fun hc265 => absurd rfl hc265) (fun hc265 => ?_)
                  refine r_iconst X1007.here hx (hb hby at_268) (v := 1) rfl (pc' := 269) rfl ?_
                  refine r_goto X1007.here hx (hb hby at_269) (by decide) (pc' := 273) (by decide) ?_
                  refine w_retN (s := s) (vm1 := T984.vm) X1007 hS984 (by rw [e1007]; exact (Nat.le_refl T984.heap.size)) hx hlk hret (by simp) (hb hby at_273) (w := (1 : Int32)) rfl ?_ (by decide) (by decide)
                  try rw [e1007]
                  exact ⟨rfl, N1007⟩
              · refine r_aload X984.here hx (hb hby at_237) rfl rfl (pc' := 239) rfl ?_
                refine r_aconst_null X984.here hx (hb hby at_239) (pc' := 240) rfl ?_
                refine r_callV X984 hx hZ984 (y := (⟨"com/example/lease/lease/store/RedisAddress", "equals", "(Ljava/lang/Object;)Z"⟩ : MethodName)) (z := (⟨"com/example/lease/lease/store/RedisAddress", "equals", "(Ljava/lang/Object;)Z"⟩ : MethodName)) (rm := ({ frames := 0, cells := 0, slots := 0, locals := 0 } : Room)) hown984 (hw _ (List.mem_of_getElem? (i := 110) rfl)) (hw _ (List.mem_of_getElem? (i := 111) rfl)) (notFace_of_selects (args := #[]) (mvT hZ984 (hw _ (List.mem_of_getElem? (i := 113) rfl)))) (hw _ (List.mem_of_getElem? (i := 113) rfl)) (hw _ (List.mem_of_getElem? (i := 112) rfl)) (hw _ (List.mem_of_getElem? (i := 38) rfl)) (hw _ (List.mem_of_getElem? (i := 114) rfl)) (by decide) (rmQn l Z a0 hw [] b806 T984.heap n0 Z1003) rfl f999 (by rw [hml]; rfl) (argsL := [.null]) (rest := []) (lenOf pd_15 rfl) rfl rfl (W := 0) rfl (by decide) (by decide) (by decide) (by decide) (hb hby at_240) (pc' := 243) rfl ?_
                rintro v1008 T1008 L1008 X1008 ⟨rfl, Nq1008, e1008⟩
                have N1008 := Fr.app N984 Nq1008
                show Run p e below _ _ T1008 (mkF m 243 #[.val (.int h1), .val (.int h2), .val (.int p1), .val (.int p2), .val (.int ff), .val (.int se), .val (.int lA), .val (.int x0), .val (.int x1), .val (.int sh), .val (.int lB), .val (.int y0), .val (.int y1), .val (.ref sA), .val (.ref sB), .val (.int pA), .val (.int pB), .val (.ref b806), .val (.ref b897), .val (.int (se &&& (3 : Int32))), .unset] [(.int (0 : Int32))])
                refine r_if0_ne X1008.here hx (hb hby at_243) (by decide) (pc' := 250) (by decide) (pc2 := 246) rfl (fun hc243 => absurd rfl hc243) (fun hc243 => ?_)
                refine r_iconst X1008.here hx (hb hby at_246) (v := 1) rfl (pc' := 247) rfl ?_
                refine r_goto X1008.here hx (hb hby at_247) (by decide) (pc' := 251) (by decide) ?_
                refine w_retN (s := s) (vm1 := T984.vm) X1008 hS984 (by rw [e1008]; exact (Nat.le_refl T984.heap.size)) hx hlk hret (by simp) (hb hby at_251) (w := (1 : Int32)) rfl ?_ (by decide) (by decide)
                try rw [e1008]
                exact ⟨rfl, N1008⟩
            refine r_if0_eq X897.here hx (hb hby at_198) (by decide) (pc' := 205) (by decide) (pc2 := 201) rfl (fun hc198 => ?_) (fun hc198 => ?_)
            · refine r_iconst X897.here hx (hb hby at_205) (v := 0) rfl (pc' := 206) rfl ?_
              exact J206 _ (Or.inl rfl)
            · refine r_iconst X897.here hx (hb hby at_201) (v := 1) rfl (pc' := 202) rfl ?_
              refine r_goto X897.here hx (hb hby at_202) (by decide) (pc' := 206) (by decide) ?_
              exact J206 _ (Or.inr rfl)
          refine r_if0_eq X806.here hx (hb hby at_161) (by decide) (pc' := 168) (by decide) (pc2 := 164) rfl (fun hc161 => ?_) (fun hc161 => ?_)
          · refine r_iconst X806.here hx (hb hby at_168) (v := 0) rfl (pc' := 169) rfl ?_
            exact J169 _ (Or.inl rfl)
          · refine r_iconst X806.here hx (hb hby at_164) (v := 1) rfl (pc' := 165) rfl ?_
            refine r_goto X806.here hx (hb hby at_165) (by decide) (pc' := 169) (by decide) ?_
            exact J169 _ (Or.inr rfl)
        refine r_if0_eq X784.here hx (hb hby at_130) (by decide) (pc' := 138) (by decide) (pc2 := 133) rfl (fun hc130 => ?_) (fun hc130 => ?_)
        · refine r_iloadN X784.here hx (hb hby at_138) rfl (pc' := 139) rfl ?_
          refine r_ldc X784 hx hZ hown (hw _ (List.mem_of_getElem? (i := 34) rfl)) (hb hby at_139) (pc' := 141) rfl ?_
          refine r_iand X784.here hx (hb hby at_141) (pc' := 142) rfl ?_
          refine r_ldc X784 hx hZ hown (hw _ (List.mem_of_getElem? (i := 35) rfl)) (hb hby at_142) (pc' := 144) rfl ?_
          refine r_irem X784.here hx (hb hby at_144) (by decide) (pc' := 145) rfl ?_
          refine r_iconst X784.here hx (hb hby at_145) (v := 1) rfl (pc' := 146) rfl ?_
          refine r_iadd X784.here hx (hb hby at_146) (pc' := 147) rfl ?_
          refine r_istore X784.here hx (hb hby at_147) (l' := #[.val (.int h1), .val (.int h2), .val (.int p1), .val (.int p2), .val (.int ff), .val (.int se), .val (.int lA), .val (.int x0), .val (.int x1), .val (.int sh), .val (.int lB), .val (.int y0), .val (.int y1), .val (.ref sA), .val (.ref sB), .val (.int pA), .val (.int (((p2 &&& (2147483647 : Int32)) % (65535 : Int32)) + (1 : Int32))), .unset, .unset, .unset, .unset]) rfl (pc' := 149) rfl ?_
          exact J149 _ (own_pt _)
        · refine r_iload X784.here hx (hb hby at_133) rfl (pc' := 135) rfl ?_
          refine r_goto X784.here hx (hb hby at_135) (by decide) (pc' := 147) (by decide) ?_
          refine r_istore X784.here hx (hb hby at_147) (l' := #[.val (.int h1), .val (.int h2), .val (.int p1), .val (.int p2), .val (.int ff), .val (.int se), .val (.int lA), .val (.int x0), .val (.int x1), .val (.int sh), .val (.int lB), .val (.int y0), .val (.int y1), .val (.ref sA), .val (.ref sB), .val (.int pA), .val (.int pA), .unset, .unset, .unset, .unset]) rfl (pc' := 149) rfl ?_
          exact J149 _ hpA
      refine r_iloadN X784.here hx (hb hby at_114) rfl (pc' := 115) rfl ?_
      refine r_ldc X784 hx hZ hown (hw _ (List.mem_of_getElem? (i := 34) rfl)) (hb hby at_115) (pc' := 117) rfl ?_
      refine r_iand X784.here hx (hb hby at_117) (pc' := 118) rfl ?_
      refine r_ldc X784 hx hZ hown (hw _ (List.mem_of_getElem? (i := 35) rfl)) (hb hby at_118) (pc' := 120) rfl ?_
      refine r_irem X784.here hx (hb hby at_120) (by decide) (pc' := 121) rfl ?_
      refine r_iconst X784.here hx (hb hby at_121) (v := 1) rfl (pc' := 122) rfl ?_
      refine r_iadd X784.here hx (hb hby at_122) (pc' := 123) rfl ?_
      refine r_istore X784.here hx (hb hby at_123) (l' := #[.val (.int h1), .val (.int h2), .val (.int p1), .val (.int p2), .val (.int ff), .val (.int se), .val (.int lA), .val (.int x0), .val (.int x1), .val (.int sh), .val (.int lB), .val (.int y0), .val (.int y1), .val (.ref sA), .val (.ref sB), .val (.int (((p1 &&& (2147483647 : Int32)) % (65535 : Int32)) + (1 : Int32))), .unset, .unset, .unset, .unset, .unset]) rfl (pc' := 125) rfl ?_
      exact J125 _ (own_pt _)
    refine r_if0_eq X0.here hx (hb hby at_33) (by decide) (pc' := 40) (by decide) (pc2 := 36) rfl (fun hc33 => ?_) (fun hc33 => ?_)
    · refine r_iconst X0.here hx (hb hby at_40) (v := 0) rfl (pc' := 41) rfl ?_
      refine r_istore X0.here hx (hb hby at_41) (l' := #[.val (.int h1), .val (.int h2), .val (.int p1), .val (.int p2), .val (.int ff), .val (.int se), .val (.int lA), .val (.int x0), .val (.int x1), .val (.int (0 : Int32)), .unset, .unset, .unset, .unset, .unset, .unset, .unset, .unset, .unset, .unset, .unset]) rfl (pc' := 43) rfl ?_
      refine r_iload X0.here hx (hb hby at_43) rfl (pc' := 45) rfl ?_
      refine r_if0_eq X0.here hx (hb hby at_45) (by decide) (pc' := 63) (by decide) (pc2 := 48) rfl (fun hc45 => ?_) (fun hc45 => absurd rfl hc45)
      refine r_iconst X0.here hx (hb hby at_63) (v := 1) rfl (pc' := 64) rfl ?_
      refine r_iloadN X0.here hx (hb hby at_64) rfl (pc' := 65) rfl ?_
      refine r_bipush X0.here hx (hb hby at_65) (v := 16) rfl (pc' := 67) rfl ?_
      refine r_iushr X0.here hx (hb hby at_67) (pc' := 68) rfl ?_
      refine r_iconst X0.here hx (hb hby at_68) (v := 1) rfl (pc' := 69) rfl ?_
      refine r_iand X0.here hx (hb hby at_69) (pc' := 70) rfl ?_
      refine r_iadd X0.here hx (hb hby at_70) (pc' := 71) rfl ?_
      refine r_istore X0.here hx (hb hby at_71) (l' := #[.val (.int h1), .val (.int h2), .val (.int p1), .val (.int p2), .val (.int ff), .val (.int se), .val (.int lA), .val (.int x0), .val (.int x1), .val (.int (0 : Int32)), .val (.int ((1 : Int32) + ((ushrI h2 (16 : Int32)) &&& (1 : Int32)))), .unset, .unset, .unset, .unset, .unset, .unset, .unset, .unset, .unset, .unset]) rfl (pc' := 73) rfl ?_
      refine r_iloadN X0.here hx (hb hby at_73) rfl (pc' := 74) rfl ?_
      refine r_sipush X0.here hx (hb hby at_74) (v := 255) rfl (pc' := 77) rfl ?_
      refine r_iand X0.here hx (hb hby at_77) (pc' := 78) rfl ?_
      refine r_i2c X0.here hx (hb hby at_78) (pc' := 79) rfl ?_
      refine r_istore X0.here hx (hb hby at_79) (l' := #[.val (.int h1), .val (.int h2), .val (.int p1), .val (.int p2), .val (.int ff), .val (.int se), .val (.int lA), .val (.int x0), .val (.int x1), .val (.int (0 : Int32)), .val (.int ((1 : Int32) + ((ushrI h2 (16 : Int32)) &&& (1 : Int32)))), .val (.int ((h2 &&& (255 : Int32)).toUInt32.toUInt16.toUInt32.toInt32)), .unset, .unset, .unset, .unset, .unset, .unset, .unset, .unset, .unset]) rfl (pc' := 81) rfl ?_
      refine r_iloadN X0.here hx (hb hby at_81) rfl (pc' := 82) rfl ?_
      refine r_bipush X0.here hx (hb hby at_82) (v := 8) rfl (pc' := 84) rfl ?_
      refine r_iushr X0.here hx (hb hby at_84) (pc' := 85) rfl ?_
      refine r_sipush X0.here hx (hb hby at_85) (v := 255) rfl (pc' := 88) rfl ?_
      refine r_iand X0.here hx (hb hby at_88) (pc' := 89) rfl ?_
      refine r_i2c X0.here hx (hb hby at_89) (pc' := 90) rfl ?_
      refine r_istore X0.here hx (hb hby at_90) (l' := #[.val (.int h1), .val (.int h2), .val (.int p1), .val (.int p2), .val (.int ff), .val (.int se), .val (.int lA), .val (.int x0), .val (.int x1), .val (.int (0 : Int32)), .val (.int ((1 : Int32) + ((ushrI h2 (16 : Int32)) &&& (1 : Int32)))), .val (.int ((h2 &&& (255 : Int32)).toUInt32.toUInt16.toUInt32.toInt32)), .val (.int (((ushrI h2 (8 : Int32)) &&& (255 : Int32)).toUInt32.toUInt16.toUInt32.toInt32)), .unset, .unset, .unset, .unset, .unset, .unset, .unset, .unset]) rfl (pc' := 92) rfl ?_
      exact J92 _ _ _ _ (own_ln _) (own_cc _) (own_cc _)
    · refine r_iconst X0.here hx (hb hby at_36) (v := 1) rfl (pc' := 37) rfl ?_
      refine r_goto X0.here hx (hb hby at_37) (by decide) (pc' := 41) (by decide) ?_
      refine r_istore X0.here hx (hb hby at_41) (l' := #[.val (.int h1), .val (.int h2), .val (.int p1), .val (.int p2), .val (.int ff), .val (.int se), .val (.int lA), .val (.int x0), .val (.int x1), .val (.int (1 : Int32)), .unset, .unset, .unset, .unset, .unset, .unset, .unset, .unset, .unset, .unset, .unset]) rfl (pc' := 43) rfl ?_
      refine r_iload X0.here hx (hb hby at_43) rfl (pc' := 45) rfl ?_
      refine r_if0_eq X0.here hx (hb hby at_45) (by decide) (pc' := 63) (by decide) (pc2 := 48) rfl (fun hc45 => absurd hc45 (by decide)) (fun hc45 => ?_)
      refine r_iload X0.here hx (hb hby at_48) rfl (pc' := 50) rfl ?_
      refine r_istore X0.here hx (hb hby at_50) (l' := #[.val (.int h1), .val (.int h2), .val (.int p1), .val (.int p2), .val (.int ff), .val (.int se), .val (.int lA), .val (.int x0), .val (.int x1), .val (.int (1 : Int32)), .val (.int lA), .unset, .unset, .unset, .unset, .unset, .unset, .unset, .unset, .unset, .unset]) rfl (pc' := 52) rfl ?_
      refine r_iload X0.here hx (hb hby at_52) rfl (pc' := 54) rfl ?_
      refine r_istore X0.here hx (hb hby at_54) (l' := #[.val (.int h1), .val (.int h2), .val (.int p1), .val (.int p2), .val (.int ff), .val (.int se), .val (.int lA), .val (.int x0), .val (.int x1), .val (.int (1 : Int32)), .val (.int lA), .val (.int x0), .unset, .unset, .unset, .unset, .unset, .unset, .unset, .unset, .unset]) rfl (pc' := 56) rfl ?_
      refine r_iload X0.here hx (hb hby at_56) rfl (pc' := 58) rfl ?_
      refine r_istore X0.here hx (hb hby at_58) (l' := #[.val (.int h1), .val (.int h2), .val (.int p1), .val (.int p2), .val (.int ff), .val (.int se), .val (.int lA), .val (.int x0), .val (.int x1), .val (.int (1 : Int32)), .val (.int lA), .val (.int x0), .val (.int x1), .unset, .unset, .unset, .unset, .unset, .unset, .unset, .unset]) rfl (pc' := 60) rfl ?_
      refine r_goto X0.here hx (hb hby at_60) (by decide) (pc' := 92) (by decide) ?_
      exact J92 _ _ _ _ hlA hx0 hx1
  refine r_iconst X0.here hx (hb hby at_0) (v := 1) rfl (pc' := 1) rfl ?_
  refine r_iloadN X0.here hx (hb hby at_1) rfl (pc' := 2) rfl ?_
  refine r_bipush X0.here hx (hb hby at_2) (v := 16) rfl (pc' := 4) rfl ?_
  refine r_iushr X0.here hx (hb hby at_4) (pc' := 5) rfl ?_
  refine r_iconst X0.here hx (hb hby at_5) (v := 1) rfl (pc' := 6) rfl ?_
  refine r_iand X0.here hx (hb hby at_6) (pc' := 7) rfl ?_
  refine r_iadd X0.here hx (hb hby at_7) (pc' := 8) rfl ?_
  refine r_istore X0.here hx (hb hby at_8) (l' := #[.val (.int h1), .val (.int h2), .val (.int p1), .val (.int p2), .val (.int ff), .val (.int se), .val (.int ((1 : Int32) + ((ushrI h1 (16 : Int32)) &&& (1 : Int32)))), .unset, .unset, .unset, .unset, .unset, .unset, .unset, .unset, .unset, .unset, .unset, .unset, .unset, .unset]) rfl (pc' := 10) rfl ?_
  refine r_iloadN X0.here hx (hb hby at_10) rfl (pc' := 11) rfl ?_
  refine r_sipush X0.here hx (hb hby at_11) (v := 255) rfl (pc' := 14) rfl ?_
  refine r_iand X0.here hx (hb hby at_14) (pc' := 15) rfl ?_
  refine r_i2c X0.here hx (hb hby at_15) (pc' := 16) rfl ?_
  refine r_istore X0.here hx (hb hby at_16) (l' := #[.val (.int h1), .val (.int h2), .val (.int p1), .val (.int p2), .val (.int ff), .val (.int se), .val (.int ((1 : Int32) + ((ushrI h1 (16 : Int32)) &&& (1 : Int32)))), .val (.int ((h1 &&& (255 : Int32)).toUInt32.toUInt16.toUInt32.toInt32)), .unset, .unset, .unset, .unset, .unset, .unset, .unset, .unset, .unset, .unset, .unset, .unset, .unset]) rfl (pc' := 18) rfl ?_
  refine r_iloadN X0.here hx (hb hby at_18) rfl (pc' := 19) rfl ?_
  refine r_bipush X0.here hx (hb hby at_19) (v := 8) rfl (pc' := 21) rfl ?_
  refine r_iushr X0.here hx (hb hby at_21) (pc' := 22) rfl ?_
  refine r_sipush X0.here hx (hb hby at_22) (v := 255) rfl (pc' := 25) rfl ?_
  refine r_iand X0.here hx (hb hby at_25) (pc' := 26) rfl ?_
  refine r_i2c X0.here hx (hb hby at_26) (pc' := 27) rfl ?_
  refine r_istore X0.here hx (hb hby at_27) (l' := #[.val (.int h1), .val (.int h2), .val (.int p1), .val (.int p2), .val (.int ff), .val (.int se), .val (.int ((1 : Int32) + ((ushrI h1 (16 : Int32)) &&& (1 : Int32)))), .val (.int ((h1 &&& (255 : Int32)).toUInt32.toUInt16.toUInt32.toInt32)), .val (.int (((ushrI h1 (8 : Int32)) &&& (255 : Int32)).toUInt32.toUInt16.toUInt32.toInt32)), .unset, .unset, .unset, .unset, .unset, .unset, .unset, .unset, .unset, .unset, .unset, .unset]) rfl (pc' := 29) rfl ?_
  exact J29 _ _ _ (own_ln _) (own_cc _) (own_cc _)
set_option maxRecDepth 65536 in
set_option maxHeartbeats 40000000 in
theorem comes_1 {Post : Tables → Env → Array Value → State → Outcome → State → Prop} (hpost : ∀ tb e args s v u, (limb_1_1.after args s (.returned v) u = true ∧ limb_1_2.after args s (.returned v) u = true ∧ True) → ReturnedEndW s (.returned v) u (Jvm.fieldLocs frame_1_writes args s ++ Jvm.arrayLocs frame_1_arrays args s ++ Jvm.staticLocs frame_1_statics s) 56 3264 → Post tb e args s (.returned v) u) :
    ArmFor flags0 classFile x code maxLocals ret World_1 tables_1 room_1 Calls_1 rest_1 Pre_1 Post := by
  intro l hfl _ _ p e ha hc hk s m args below hf hA hF happ hP
  obtain ⟨hcalls, hrest, hpre⟩ := hP
  obtain ⟨-, -, -, hnamed, -, -, -, hat⟩ := (Spec.applies_iff hf).mp happ
  obtain ⟨hg, hn⟩ := and_e (Cond.before_iff.mp (show (Jvm.Cond.and given_1 narrow_1).before args s = true from hpre))
  obtain ⟨h1, g0⟩ := and_e hg
  obtain ⟨q0, g1⟩ := and_e g0
  obtain ⟨q1, g2⟩ := and_e g1
  obtain ⟨q2, g3⟩ := and_e g2
  obtain ⟨q3, g4⟩ := and_e g3
  obtain ⟨q4, g5⟩ := and_e g4
  have q5 := g5
  obtain ⟨w0, w1, w2, w3, w4, w5, rfl⟩ : ∃ w0 w1 w2 w3 w4 w5 : Value, args = #[w0, w1, w2, w3, w4, w5] := by
    have hs : args.size = 6 := by simpa [Cond.value, given_1] using h1
    obtain ⟨L⟩ := args
    match L, hs with
    | [w0, w1, w2, w3, w4, w5], _ => exact ⟨w0, w1, w2, w3, w4, w5, rfl⟩
  have hw := fun d (hd : d ∈ tables_1) => atoms_spec (ws := Jvm.Cond.code x code maxLocals ret :: tables_1) hat d (List.mem_cons_of_mem _ hd)
  have hfit : Fit s := fun {y c} hc i hi => by
    obtain ⟨ha, rfl⟩ := Array.getElem?_eq_some_iff.mp hc
    have q := List.all_eq_true.mp ((Array.all_eq_true_iff_forall_mem.mp hF) _ (Array.getElem_mem ha)) i (List.mem_range.mpr hi)
    simpa [Array.getElem?_eq_getElem hi] using q
  obtain ⟨i0, e0⟩ := is_v q0
  obtain rfl : w0 = (.int i0) := Option.some.inj e0
  obtain ⟨i1, e1⟩ := is_v q1
  obtain rfl : w1 = (.int i1) := Option.some.inj e1
  obtain ⟨i2, e2⟩ := is_v q2
  obtain rfl : w2 = (.int i2) := Option.some.inj e2
  obtain ⟨i3, e3⟩ := is_v q3
  obtain rfl : w3 = (.int i3) := Option.some.inj e3
  obtain ⟨i4, e4⟩ := is_v q4
  obtain rfl : w4 = (.int i4) := Option.some.inj e4
  obtain ⟨i5, e5⟩ := is_v q5
  obtain rfl : w5 = (.int i5) := Option.some.inj e5
  have t0 := Cond.before_iff.mp (show rest_1_c.before _ s = true from hrest)
  obtain ⟨r0, t1⟩ := and_e t0
  obtain ⟨r1, t2⟩ := and_e t1
  obtain ⟨r2, t3⟩ := and_e t2
  obtain ⟨r3, t4⟩ := and_e t3
  obtain ⟨r4, t5⟩ := and_e t4
  obtain ⟨r5, t6⟩ := and_e t5
  obtain ⟨r6, t7⟩ := and_e t6
  obtain ⟨r7, t8⟩ := and_e t7
  obtain ⟨r8, t9⟩ := and_e t8
  obtain ⟨r9, t10⟩ := and_e t9
  obtain ⟨r10, t11⟩ := and_e t10
  obtain ⟨r11, t12⟩ := and_e t11
  obtain ⟨r12, t13⟩ := and_e t12
  obtain ⟨cs, evc⟩ := is_v r1
  have Sc := Sta.start evc (Or.inl (Cond.before_iff.mpr r0))
  have hc0 : ¬ cs = 0 := fun q => by
    have e2 : (Term.int 0).eval #[.int i0, .int i1, .int i2, .int i3, .int i4, .int i5] s none [] s = some (.int 0) := rfl
    have := not_v r2
    simp [Cond.value, evc, e2, q] at this
  obtain ⟨em, eve⟩ := exa_v r11
  have Sm := Sta.start eve (Or.inl (Cond.before_iff.mpr r10))
  have Ee := Exa.start eve r11
  have Fe := Fld.start ((fld_at eve).symm.trans (null_v r12))
  obtain ⟨cK0, f0, hat0, Lm0⟩ := own_site (hw _ (List.mem_of_getElem? (i := 69) rfl)) rfl
  obtain ⟨cK1, f1, hat1, Lm1⟩ := own_site (hw _ (List.mem_of_getElem? (i := 88) rfl)) rfl
  obtain ⟨n, o, h1, h2, h3, _, L, rfl, ⟨rfl, N⟩, hq⟩ := rm0 l s _ hw tables_1 i0 i1 i2 i3 i4 i5 cs em f0 f1 cK0 cK1 s.heap s.heap.size (Nat.le_refl _) Sc hc0 Sm Ee Fe hat0 hat1 Lm0 Lm1 p e ha hc hk s m _ below hf ((Spec.applies_iff_loose hf).mp happ).1 ⟨rfl, State.Warmed39.refl s, rfl⟩ trivial
  refine ⟨n, _, h1, h2, h3, hpost _ _ _ _ _ _ ⟨Cond.after_iff.mpr rfl, Cond.after_iff.mpr (eq_i res_at (Term.int_eval (1)) rfl), trivial⟩ ⟨hq.1, hq.2.1, hq.2.2.1, (hq.2.2.2.sift fun y hy => Or.inr (N y hy)).mono (by decide) (by decide)⟩⟩
theorem main_1_1 : Claimed_1_1 := comes_1 fun _ _ _ _ _ _ h hF => ⟨h.1, hF⟩
theorem main_1_2 : Claimed_1_2 := comes_1 fun _ _ _ _ _ _ h hF => ⟨h.2.1, hF⟩
end Jvm.Pilot.@@N@@
namespace Jvm.Pilot.@@N@@
open Jvm Jvm.ClassFile Sem Op Lib Jvm.Free Jvm.Stand Jvm.Pilot.@@N@@.Jvm.D
/-! MADE BY PROGRAM (witnessworld.py) out of the Statement's table words and the real class files: 26 classes; the members and pool entries that the words name. The judged class is class 1, her method 4. -/
namespace start1
open Jvm.ClassFile
def u (s : String) : CpInfo := .utf8 (stringToUtf16 s)
/-- a pool by its gaps: so many unusable entries, then the entry; so many at the end -/
def gap : Nat → List CpInfo → List CpInfo
  | 0, r => r
  | n + 1, r => .unusable :: gap n r
def poolList (es : List (Nat × CpInfo)) (last : Nat) : List CpInfo := es.foldr (fun e r => gap e.1 (e.2 :: r)) (gap last [])
def pool (es : List (Nat × CpInfo)) (last : Nat) : Array CpInfo := ⟨poolList es last⟩
def fileOf (pool : Array CpInfo) (this : Nat) (attrs : Array Attribute := #[]) (ms : Array MethodInfo := #[]) (fl : Nat := 33) (sup : Nat := 0) (ifs : Array Nat := #[]) (fds : Array FieldInfo := #[]) : ClassFile where
  minorVersion := 0
  majorVersion := 65
  constantPool := pool
  accessFlags := fl
  thisClass := this
  superClass := sup
  interfaces := ifs
  fields := fds
  methods := ms
  attributes := attrs
def plain (name : String) (sup : Option ClassId) : Class where
  name := name
  kind := .ordinary
  loader := none
  accessFlags := 33
  super := sup
  interfaces := #[]
  cf := none
  fields := #[]
  methods := #[]
  instanceTypes := #[]
  staticTypes := #[]
  resolved := #[]
  callSites := []
  init := .initialized
  statics := none
  mirror := none

def pool0 : Array CpInfo := pool [(5, u "<init>"), (0, u "()V"), (1, .class_ 10), (1, u "java/lang/Object")] 113

def k0c0 : Code := { maxStack := 0, maxLocals := 1, code := object_method_1_code, exceptionTable := #[], attributes := #[] }
def k0m0 : Method := { name := "<init>", desc := "()V", sig := { parameters := [], returnType := none }, accessFlags := 1, code := some k0c0 }
/-- java/lang/Object -/
def k0 : Class := { plain "java/lang/Object" none with
  accessFlags := 33
  interfaces := #[]
  cf := some (fileOf pool0 8 #[] #[{ accessFlags := 1, nameIndex := 5, descriptorIndex := 6, attributes := #[] }] 33 0 #[] #[])
  fields := #[]
  methods := #[k0m0]
  instanceTypes := #[]
  staticTypes := #[]
  resolved := Array.replicate 124 none
  statics := none }

def pool1 : Array CpInfo := pool [(2, .class_ 4), (1, u "java/lang/Object"), (0, u "<init>"), (0, u "()V"), (0, .class_ 8), (0, u "java/lang/String"), (0, .methodref 7 10), (0, .nameAndType 5 11), (0, u "([C)V"), (0, .methodref 7 13), (0, .nameAndType 14 15), (0, u "valueOf"), (0, u "(C)Ljava/lang/String;"), (0, .methodref 17 18), (0, .class_ 19), (0, .nameAndType 20 21), (0, u "java/util/Optional"), (0, u "of"), (0, u "(Ljava/lang/Object;)Ljava/util/Optional;"), (0, .methodref 17 23), (0, .nameAndType 24 25), (0, u "empty"), (0, u "()Ljava/util/Optional;"), (0, .methodref 27 28), (0, .class_ 29), (0, .nameAndType 30 31), (0, u "com/example/lease/lease/store/RedisAddressEqualsPinLaw"), (0, u "mk"), (0, u "(ICC)Ljava/lang/String;"), (0, .integer 2147483647), (0, .integer 65535), (0, .class_ 35), (0, u "com/example/lease/lease/store/RedisAddress"), (0, .methodref 27 37), (0, .nameAndType 38 39), (0, u "user"), (0, u "(I)Ljava/util/Optional;"), (0, .methodref 27 41), (0, .nameAndType 42 39), (0, u "password"), (0, .methodref 34 44), (0, .nameAndType 5 45), (0, u "(Ljava/lang/String;IZLjava/util/Optional;Ljava/util/Optional;)V"), (0, .methodref 34 47), (0, .nameAndType 48 49), (0, u "equals"), (0, u "(Ljava/lang/Object;)Z"), (5, u "law"), (0, u "(IIIIII)Z")] 2

def k1m0 : Method := { name := "<init>", desc := "()V", sig := { parameters := [], returnType := none }, accessFlags := 1, code := none }
def k1c1 : Code := { maxStack := 6, maxLocals := 3, code := method_2_code, exceptionTable := #[], attributes := #[] }
def k1m1 : Method := { name := "mk", desc := "(ICC)Ljava/lang/String;", sig := { parameters := [.int, .char, .char], returnType := some (.object "java/lang/String") }, accessFlags := 10, code := some k1c1 }
def k1c2 : Code := { maxStack := 2, maxLocals := 1, code := method_3_code, exceptionTable := #[], attributes := #[] }
def k1m2 : Method := { name := "user", desc := "(I)Ljava/util/Optional;", sig := { parameters := [.int], returnType := some (.object "java/util/Optional") }, accessFlags := 10, code := some k1c2 }
def k1c3 : Code := { maxStack := 2, maxLocals := 1, code := method_4_code, exceptionTable := #[], attributes := #[] }
def k1m3 : Method := { name := "password", desc := "(I)Ljava/util/Optional;", sig := { parameters := [.int], returnType := some (.object "java/util/Optional") }, accessFlags := 10, code := some k1c3 }
def k1c4 : Code := { maxStack := 8, maxLocals := 21, code := code, exceptionTable := #[], attributes := #[] }
def k1m4 : Method := { name := "law", desc := "(IIIIII)Z", sig := { parameters := [.int, .int, .int, .int, .int, .int], returnType := some .boolean }, accessFlags := 9, code := some k1c4 }
/-- com/example/lease/lease/store/RedisAddressEqualsPinLaw -/
def k1 : Class := { plain "com/example/lease/lease/store/RedisAddressEqualsPinLaw" (some 0) with
  accessFlags := 49
  interfaces := #[]
  cf := some (fileOf pool1 27 #[] #[{ accessFlags := 1, nameIndex := 5, descriptorIndex := 6, attributes := #[] }, { accessFlags := 10, nameIndex := 30, descriptorIndex := 31, attributes := #[] }, { accessFlags := 10, nameIndex := 38, descriptorIndex := 39, attributes := #[] }, { accessFlags := 10, nameIndex := 42, descriptorIndex := 39, attributes := #[] }, { accessFlags := 9, nameIndex := 55, descriptorIndex := 56, attributes := #[] }] 49 2 #[] #[])
  fields := #[]
  methods := #[k1m0, k1m1, k1m2, k1m3, k1m4]
  instanceTypes := #[]
  staticTypes := #[]
  resolved := Array.replicate 59 none
  statics := none }

def pool2 : Array CpInfo := pool [(1, .class_ 2), (0, u "java/io/Serializable"), (0, .class_ 4), (0, u "java/lang/Object")] 2

/-- java/io/Serializable -/
def k2 : Class := { plain "java/io/Serializable" (some 0) with
  accessFlags := 1537
  interfaces := #[]
  cf := some (fileOf pool2 1 #[] #[] 1537 3 #[] #[])
  fields := #[]
  methods := #[]
  instanceTypes := #[]
  staticTypes := #[]
  resolved := Array.replicate 7 none
  statics := none }

def pool3 : Array CpInfo := pool [(1, .class_ 2), (0, u "java/lang/Comparable"), (0, .class_ 4), (0, u "java/lang/Object")] 7

/-- java/lang/Comparable -/
def k3 : Class := { plain "java/lang/Comparable" (some 0) with
  accessFlags := 1537
  interfaces := #[]
  cf := some (fileOf pool3 1 #[] #[] 1537 3 #[] #[])
  fields := #[]
  methods := #[]
  instanceTypes := #[]
  staticTypes := #[]
  resolved := Array.replicate 12 none
  statics := none }

def pool4 : Array CpInfo := pool [(2, .class_ 4), (1, u "java/lang/CharSequence"), (42, .class_ 48), (0, u "java/lang/CharSequence$1CodePointIterator"), (10, .class_ 60), (0, u "java/lang/CharSequence$1CharIterator"), (5, .class_ 67), (0, u "java/lang/Object")] 63

/-- java/lang/CharSequence -/
def k4 : Class := { plain "java/lang/CharSequence" (some 0) with
  accessFlags := 1537
  interfaces := #[]
  cf := some (fileOf pool4 2 #[.nestMembers #[47, 59]] #[] 1537 66 #[] #[])
  fields := #[]
  methods := #[]
  instanceTypes := #[]
  staticTypes := #[]
  resolved := Array.replicate 131 none
  statics := none }

def pool5 : Array CpInfo := pool [(1, .class_ 2), (0, u "java/lang/constant/Constable"), (0, .class_ 4), (0, u "java/lang/Object")] 6

/-- java/lang/constant/Constable -/
def k5 : Class := { plain "java/lang/constant/Constable" (some 0) with
  accessFlags := 1537
  interfaces := #[]
  cf := some (fileOf pool5 1 #[] #[] 1537 3 #[] #[])
  fields := #[]
  methods := #[]
  instanceTypes := #[]
  staticTypes := #[]
  resolved := Array.replicate 11 none
  statics := none }

def pool6 : Array CpInfo := pool [(1, .class_ 2), (0, u "java/lang/constant/ConstantDesc"), (0, .class_ 4), (0, u "java/lang/Object")] 32

/-- java/lang/constant/ConstantDesc -/
def k6 : Class := { plain "java/lang/constant/ConstantDesc" (some 0) with
  accessFlags := 1537
  interfaces := #[]
  cf := some (fileOf pool6 1 #[] #[] 1537 3 #[] #[])
  fields := #[]
  methods := #[]
  instanceTypes := #[]
  staticTypes := #[]
  resolved := Array.replicate 37 none
  statics := none }

def pool7 : Array CpInfo := pool [(1, .methodref 2 3), (0, .class_ 4), (0, .nameAndType 5 6), (0, u "java/lang/Object"), (0, u "<init>"), (0, u "()V"), (2, .fieldref 10 11), (0, .class_ 12), (0, .nameAndType 13 14), (0, u "java/lang/String"), (0, u "value"), (0, u "[B"), (0, .fieldref 10 16), (0, .nameAndType 17 18), (0, u "coder"), (0, u "B"), (2, u "hash"), (0, u "I"), (2, u "hashIsZero"), (0, u "Z"), (0, .methodref 10 28), (0, .nameAndType 5 29), (0, u "([CIILjava/lang/Void;)V"), (8, .fieldref 10 39), (0, .nameAndType 40 26), (0, u "COMPACT_STRINGS"), (1, .class_ 44), (1, u "java/lang/StringUTF16"), (0, u "compress"), (1, .methodref 42 48), (0, .nameAndType 49 50), (0, u "coderFromArrayLen"), (0, u "([BI)B"), (2, u "toBytes"), (53, .class_ 109), (1, u "java/lang/StringLatin1"), (32, u "()Z"), (34, .methodref 42 178), (0, .nameAndType 45 179), (0, u "([CII)[B"), (29, .methodref 10 210), (0, .nameAndType 5 211), (0, u "([BB)V"), (157, u "(C)Z"), (171, .methodref 107 542), (0, .nameAndType 543 544), (0, u "equals"), (0, u "([B[B)Z"), (28, u "(Ljava/lang/Object;)Z"), (1, .class_ 576), (0, u "java/lang/CharSequence"), (22, u "CASE_INSENSITIVE_ORDER"), (0, u "Ljava/util/Comparator;"), (91, u "isEmpty"), (89, u "valueOf"), (0, u "(C)Ljava/lang/String;"), (226, u "([C)V"), (4, .methodref 107 1016), (0, .nameAndType 1017 369), (0, u "canEncode"), (0, .methodref 107 1019), (0, .nameAndType 53 1020), (0, u "(C)[B"), (80, u "serialPersistentFields"), (0, u "[Ljava/io/ObjectStreamField;"), (0, .class_ 1104), (0, u "java/lang/String$CaseInsensitiveComparator"), (1, .class_ 1107), (0, u "java/io/Serializable"), (0, .class_ 1109), (0, u "java/lang/Comparable"), (0, .class_ 1111), (0, u "java/lang/constant/Constable"), (0, .class_ 1113), (0, u "java/lang/constant/ConstantDesc"), (2, u "serialVersionUID"), (0, u "J"), (3, u "REPL"), (0, u "C"), (2, u "LATIN1"), (1, u "UTF16")] 323

def k7m0 : Method := { name := "<init>", desc := "()V", sig := { parameters := [], returnType := none }, accessFlags := 1, code := none }
def k7c1 : Code := { maxStack := 5, maxLocals := 2, code := jdk_42_method_3_code, exceptionTable := #[], attributes := #[] }
def k7m1 : Method := { name := "<init>", desc := "([C)V", sig := { parameters := [(.array .char)], returnType := none }, accessFlags := 1, code := some k7c1 }
def k7c2 : Code := { maxStack := 1, maxLocals := 1, code := jdk_42_method_55_code, exceptionTable := #[], attributes := #[] }
def k7m2 : Method := { name := "isEmpty", desc := "()Z", sig := { parameters := [], returnType := some .boolean }, accessFlags := 1, code := some k7c2 }
def k7c3 : Code := { maxStack := 2, maxLocals := 3, code := jdk_42_method_66_code, exceptionTable := #[], attributes := #[] }
def k7m3 : Method := { name := "equals", desc := "(Ljava/lang/Object;)Z", sig := { parameters := [(.object "java/lang/Object")], returnType := some .boolean }, accessFlags := 1, code := some k7c3 }
def k7c4 : Code := { maxStack := 4, maxLocals := 1, code := jdk_42_method_139_code, exceptionTable := #[], attributes := #[] }
def k7m4 : Method := { name := "valueOf", desc := "(C)Ljava/lang/String;", sig := { parameters := [.char], returnType := some (.object "java/lang/String") }, accessFlags := 9, code := some k7c4 }
def k7c5 : Code := { maxStack := 4, maxLocals := 6, code := jdk_42_method_149_code, exceptionTable := #[], attributes := #[] }
def k7m5 : Method := { name := "<init>", desc := "([CIILjava/lang/Void;)V", sig := { parameters := [(.array .char), .int, .int, (.object "java/lang/Void")], returnType := none }, accessFlags := 2, code := some k7c5 }
def k7c6 : Code := { maxStack := 2, maxLocals := 3, code := jdk_42_method_151_code, exceptionTable := #[], attributes := #[] }
def k7m6 : Method := { name := "<init>", desc := "([BB)V", sig := { parameters := [(.array .byte), .byte], returnType := none }, accessFlags := 0, code := some k7c6 }
/-- java/lang/String -/
def k7 : Class := { plain "java/lang/String" (some 0) with
  accessFlags := 49
  interfaces := #[2, 3, 4, 5, 6]
  cf := some (fileOf pool7 10 #[.nestMembers #[1103]] #[{ accessFlags := 1, nameIndex := 5, descriptorIndex := 6, attributes := #[] }, { accessFlags := 1, nameIndex := 5, descriptorIndex := 1010, attributes := #[] }, { accessFlags := 1, nameIndex := 692, descriptorIndex := 142, attributes := #[] }, { accessFlags := 1, nameIndex := 543, descriptorIndex := 573, attributes := #[] }, { accessFlags := 9, nameIndex := 782, descriptorIndex := 783, attributes := #[] }, { accessFlags := 2, nameIndex := 5, descriptorIndex := 29, attributes := #[] }, { accessFlags := 0, nameIndex := 5, descriptorIndex := 211, attributes := #[] }] 49 2 #[1106, 1108, 575, 1110, 1112] #[{ accessFlags := 18, nameIndex := 13, descriptorIndex := 14, attributes := #[] }, { accessFlags := 18, nameIndex := 17, descriptorIndex := 18, attributes := #[] }, { accessFlags := 2, nameIndex := 21, descriptorIndex := 22, attributes := #[] }, { accessFlags := 2, nameIndex := 25, descriptorIndex := 26, attributes := #[] }, { accessFlags := 26, nameIndex := 1116, descriptorIndex := 1117, attributes := #[] }, { accessFlags := 24, nameIndex := 40, descriptorIndex := 26, attributes := #[] }, { accessFlags := 26, nameIndex := 1101, descriptorIndex := 1102, attributes := #[] }, { accessFlags := 26, nameIndex := 1121, descriptorIndex := 1122, attributes := #[] }, { accessFlags := 25, nameIndex := 599, descriptorIndex := 600, attributes := #[] }, { accessFlags := 24, nameIndex := 1125, descriptorIndex := 18, attributes := #[] }, { accessFlags := 24, nameIndex := 1127, descriptorIndex := 18, attributes := #[] }])
  fields := #[{ name := "value", type := (.array .byte), accessFlags := 18, slot := 0, constantValue := 0 }, { name := "coder", type := .byte, accessFlags := 18, slot := 1, constantValue := 0 }, { name := "hash", type := .int, accessFlags := 2, slot := 2, constantValue := 0 }, { name := "hashIsZero", type := .boolean, accessFlags := 2, slot := 3, constantValue := 0 }, { name := "serialVersionUID", type := .long, accessFlags := 26, slot := 0, constantValue := 0 }, { name := "COMPACT_STRINGS", type := .boolean, accessFlags := 24, slot := 1, constantValue := 0 }, { name := "serialPersistentFields", type := (.array (.object "java/io/ObjectStreamField")), accessFlags := 26, slot := 2, constantValue := 0 }, { name := "REPL", type := .char, accessFlags := 26, slot := 3, constantValue := 0 }, { name := "CASE_INSENSITIVE_ORDER", type := (.object "java/util/Comparator"), accessFlags := 25, slot := 4, constantValue := 0 }, { name := "LATIN1", type := .byte, accessFlags := 24, slot := 5, constantValue := 0 }, { name := "UTF16", type := .byte, accessFlags := 24, slot := 6, constantValue := 0 }]
  methods := #[k7m0, k7m1, k7m2, k7m3, k7m4, k7m5, k7m6]
  instanceTypes := #[(.array .byte), .byte, .int, .boolean]
  staticTypes := #[.long, .boolean, (.array (.object "java/io/ObjectStreamField")), .char, (.object "java/util/Comparator"), .byte, .byte]
  resolved := Array.replicate 1451 none
  statics := some 0 }

def pool8 : Array CpInfo := pool [(6, .class_ 8), (1, u "java/lang/Object"), (0, u "<init>"), (0, u "()V"), (1, .class_ 14), (1, u "java/lang/StringUTF16"), (31, u "$assertionsDisabled"), (0, u "Z"), (13, u "HI_BYTE_SHIFT"), (0, u "I"), (2, u "LO_BYTE_SHIFT"), (49, .methodref 12 116), (0, .nameAndType 117 118), (0, u "compress"), (0, u "([CI[BII)I"), (3, u "([CII)[B"), (138, u "coderFromArrayLen"), (0, u "([BI)B"), (106, .class_ 371), (1, u "java/lang/StringUTF16$LinesSpliterator"), (58, u "MAX_LENGTH"), (196, .class_ 628), (0, u "java/lang/StringUTF16$CodePointsSpliterator"), (0, .class_ 630), (0, u "java/lang/StringUTF16$CharsSpliterator")] 4

def k8m0 : Method := { name := "<init>", desc := "()V", sig := { parameters := [], returnType := none }, accessFlags := 0, code := none }
def k8c1 : Code := { maxStack := 2, maxLocals := 2, code := jdk_52_method_15_code, exceptionTable := #[], attributes := #[] }
def k8m1 : Method := { name := "coderFromArrayLen", desc := "([BI)B", sig := { parameters := [(.array .byte), .int], returnType := some .byte }, accessFlags := 8, code := some k8c1 }
def k8c2 : Code := { maxStack := 5, maxLocals := 6, code := jdk_52_method_16_code, exceptionTable := #[], attributes := #[] }
def k8m2 : Method := { name := "compress", desc := "([CII)[B", sig := { parameters := [(.array .char), .int, .int], returnType := some (.array .byte) }, accessFlags := 9, code := some k8c2 }
def k8c3 : Code := { maxStack := 3, maxLocals := 7, code := jdk_52_method_21_code, exceptionTable := #[], attributes := #[] }
def k8m3 : Method := { name := "compress", desc := "([CI[BII)I", sig := { parameters := [(.array .char), .int, (.array .byte), .int, .int], returnType := some .int }, accessFlags := 9, code := some k8c3 }
/-- java/lang/StringUTF16 -/
def k8 : Class := { plain "java/lang/StringUTF16" (some 0) with
  accessFlags := 48
  interfaces := #[]
  cf := some (fileOf pool8 12 #[.nestMembers #[627, 629, 369]] #[{ accessFlags := 0, nameIndex := 9, descriptorIndex := 10, attributes := #[] }, { accessFlags := 8, nameIndex := 261, descriptorIndex := 262, attributes := #[] }, { accessFlags := 9, nameIndex := 117, descriptorIndex := 122, attributes := #[] }, { accessFlags := 9, nameIndex := 117, descriptorIndex := 118, attributes := #[] }] 48 6 #[] #[{ accessFlags := 26, nameIndex := 61, descriptorIndex := 62, attributes := #[] }, { accessFlags := 26, nameIndex := 65, descriptorIndex := 62, attributes := #[] }, { accessFlags := 24, nameIndex := 430, descriptorIndex := 62, attributes := #[] }, { accessFlags := 4120, nameIndex := 46, descriptorIndex := 47, attributes := #[] }])
  fields := #[{ name := "HI_BYTE_SHIFT", type := .int, accessFlags := 26, slot := 0, constantValue := 0 }, { name := "LO_BYTE_SHIFT", type := .int, accessFlags := 26, slot := 1, constantValue := 0 }, { name := "MAX_LENGTH", type := .int, accessFlags := 24, slot := 2, constantValue := 0 }, { name := "$assertionsDisabled", type := .boolean, accessFlags := 4120, slot := 3, constantValue := 0 }]
  methods := #[k8m0, k8m1, k8m2, k8m3]
  instanceTypes := #[]
  staticTypes := #[.int, .int, .int, .boolean]
  resolved := Array.replicate 635 none
  statics := none }

def pool9 : Array CpInfo := pool [(1, .methodref 2 3), (0, .class_ 4), (0, .nameAndType 5 6), (0, u "java/lang/Object"), (0, u "<init>"), (0, u "()V"), (0, .class_ 8), (0, u "java/lang/Record")] 13

def k9c0 : Code := { maxStack := 1, maxLocals := 1, code := jdk_30_method_1_code, exceptionTable := #[], attributes := #[] }
def k9m0 : Method := { name := "<init>", desc := "()V", sig := { parameters := [], returnType := none }, accessFlags := 4, code := some k9c0 }
/-- java/lang/Record -/
def k9 : Class := { plain "java/lang/Record" (some 0) with
  accessFlags := 1057
  interfaces := #[]
  cf := some (fileOf pool9 7 #[] #[{ accessFlags := 4, nameIndex := 5, descriptorIndex := 6, attributes := #[] }] 1057 2 #[] #[])
  fields := #[]
  methods := #[k9m0]
  instanceTypes := #[]
  staticTypes := #[]
  resolved := Array.replicate 22 none
  statics := none }

def pool10 : Array CpInfo := pool [(1, .methodref 2 3), (0, .class_ 4), (0, .nameAndType 5 6), (0, u "java/lang/Record"), (0, u "<init>"), (0, u "()V"), (0, .string 8), (0, u "host"), (0, .methodref 10 11), (0, .class_ 12), (0, .nameAndType 13 14), (0, u "java/util/Objects"), (0, u "requireNonNull"), (0, u "(Ljava/lang/Object;Ljava/lang/String;)Ljava/lang/Object;"), (0, .string 16), (0, u "user"), (0, .class_ 18), (0, u "java/util/Optional"), (0, .invokeDynamic 0 20), (0, .nameAndType 21 22), (0, u "test"), (0, u "()Ljava/util/function/Predicate;"), (0, .methodref 17 24), (0, .nameAndType 25 26), (0, u "filter"), (0, u "(Ljava/util/function/Predicate;)Ljava/util/Optional;"), (0, .string 28), (0, u "password"), (0, .invokeDynamic 1 20), (0, .methodref 31 32), (0, .class_ 33), (0, .nameAndType 34 35), (0, u "java/lang/String"), (0, u "isEmpty"), (0, u "()Z"), (0, .integer 65535), (2, .class_ 40), (0, u "com/example/lease/lease/store/RedisAddress"), (5, .methodref 17 47), (0, .nameAndType 48 35), (0, u "isPresent"), (0, .methodref 17 32), (2, .fieldref 39 53), (0, .nameAndType 8 54), (0, u "Ljava/lang/String;"), (0, .fieldref 39 56), (0, .nameAndType 57 58), (0, u "port"), (0, u "I"), (0, .fieldref 39 60), (0, .nameAndType 61 62), (0, u "tls"), (0, u "Z"), (0, .fieldref 39 64), (0, .nameAndType 16 65), (0, u "Ljava/util/Optional;"), (0, .fieldref 39 67), (0, .nameAndType 28 65), (6, u "(Ljava/lang/String;IZLjava/util/Optional;Ljava/util/Optional;)V"), (20, u "(Ljava/lang/String;)Z"), (10, .methodref 31 107), (0, .nameAndType 108 109), (0, u "equals"), (0, u "(Ljava/lang/Object;)Z"), (96, u "DEFAULT_PORT"), (2, u "FORM"), (0, u "USER_WITHOUT_PASSWORD"), (13, u "lambda$new$1"), (0, u "lambda$new$0"), (4, .methodType 109), (0, .methodHandle 6 232), (0, .methodref 39 233), (0, .nameAndType 225 95), (0, .methodType 95), (0, .methodHandle 6 236), (0, .methodref 39 237), (0, .nameAndType 224 95), (13, .methodHandle 6 252), (0, .methodref 253 254), (0, .class_ 255), (0, .nameAndType 256 257), (0, u "java/lang/invoke/LambdaMetafactory"), (0, u "metafactory"), (0, u "(Ljava/lang/invoke/MethodHandles$Lookup;Ljava/lang/String;Ljava/lang/invoke/MethodType;Ljava/lang/invoke/MethodType;Ljava/lang/invoke/MethodHandle;Ljava/lang/invoke/MethodType;)Ljava/lang/invoke/CallSite;")] 12

def k10c0 : Code := { maxStack := 3, maxLocals := 6, code := prog_23_method_1_code, exceptionTable := #[], attributes := #[] }
def k10m0 : Method := { name := "<init>", desc := "(Ljava/lang/String;IZLjava/util/Optional;Ljava/util/Optional;)V", sig := { parameters := [(.object "java/lang/String"), .int, .boolean, (.object "java/util/Optional"), (.object "java/util/Optional")], returnType := none }, accessFlags := 1, code := some k10c0 }
def k10c1 : Code := { maxStack := 2, maxLocals := 3, code := prog_23_method_5_code, exceptionTable := #[], attributes := #[] }
def k10m1 : Method := { name := "equals", desc := "(Ljava/lang/Object;)Z", sig := { parameters := [(.object "java/lang/Object")], returnType := some .boolean }, accessFlags := 1, code := some k10c1 }
def k10c2 : Code := { maxStack := 1, maxLocals := 1, code := prog_23_method_16_code, exceptionTable := #[], attributes := #[] }
def k10m2 : Method := { name := "lambda$new$1", desc := "(Ljava/lang/String;)Z", sig := { parameters := [(.object "java/lang/String")], returnType := some .boolean }, accessFlags := 4106, code := some k10c2 }
def k10c3 : Code := { maxStack := 1, maxLocals := 1, code := prog_23_method_17_code, exceptionTable := #[], attributes := #[] }
def k10m3 : Method := { name := "lambda$new$0", desc := "(Ljava/lang/String;)Z", sig := { parameters := [(.object "java/lang/String")], returnType := some .boolean }, accessFlags := 4106, code := some k10c3 }
/-- com/example/lease/lease/store/RedisAddress -/
def k10 : Class := { plain "com/example/lease/lease/store/RedisAddress" (some 9) with
  accessFlags := 49
  interfaces := #[]
  cf := some (fileOf pool10 39 #[.bootstrapMethods #[⟨251, #[230, 231, 234]⟩, ⟨251, #[230, 235, 234]⟩, ⟨0, #[]⟩, ⟨0, #[]⟩, ⟨0, #[]⟩, ⟨0, #[]⟩]] #[{ accessFlags := 1, nameIndex := 5, descriptorIndex := 74, attributes := #[] }, { accessFlags := 1, nameIndex := 108, descriptorIndex := 109, attributes := #[] }, { accessFlags := 4106, nameIndex := 224, descriptorIndex := 95, attributes := #[] }, { accessFlags := 4106, nameIndex := 225, descriptorIndex := 95, attributes := #[] }] 49 2 #[] #[{ accessFlags := 18, nameIndex := 8, descriptorIndex := 54, attributes := #[] }, { accessFlags := 18, nameIndex := 57, descriptorIndex := 58, attributes := #[] }, { accessFlags := 18, nameIndex := 61, descriptorIndex := 62, attributes := #[] }, { accessFlags := 18, nameIndex := 16, descriptorIndex := 65, attributes := #[] }, { accessFlags := 18, nameIndex := 28, descriptorIndex := 65, attributes := #[] }, { accessFlags := 26, nameIndex := 206, descriptorIndex := 58, attributes := #[] }, { accessFlags := 26, nameIndex := 209, descriptorIndex := 54, attributes := #[] }, { accessFlags := 26, nameIndex := 210, descriptorIndex := 54, attributes := #[] }])
  fields := #[{ name := "host", type := (.object "java/lang/String"), accessFlags := 18, slot := 0, constantValue := 0 }, { name := "port", type := .int, accessFlags := 18, slot := 1, constantValue := 0 }, { name := "tls", type := .boolean, accessFlags := 18, slot := 2, constantValue := 0 }, { name := "user", type := (.object "java/util/Optional"), accessFlags := 18, slot := 3, constantValue := 0 }, { name := "password", type := (.object "java/util/Optional"), accessFlags := 18, slot := 4, constantValue := 0 }, { name := "DEFAULT_PORT", type := .int, accessFlags := 26, slot := 0, constantValue := 0 }, { name := "FORM", type := (.object "java/lang/String"), accessFlags := 26, slot := 1, constantValue := 0 }, { name := "USER_WITHOUT_PASSWORD", type := (.object "java/lang/String"), accessFlags := 26, slot := 2, constantValue := 0 }]
  methods := #[k10m0, k10m1, k10m2, k10m3]
  instanceTypes := #[(.object "java/lang/String"), .int, .boolean, (.object "java/util/Optional"), (.object "java/util/Optional")]
  staticTypes := #[.int, (.object "java/lang/String"), (.object "java/lang/String")]
  resolved := Array.replicate 270 none
  callSites := [(0, 21, .constant 3), (0, 41, .constant 4)]
  statics := none }

def pool11 : Array CpInfo := pool [(1, .fieldref 2 3), (0, .class_ 4), (0, .nameAndType 5 6), (0, u "java/util/Optional"), (0, u "EMPTY"), (0, u "Ljava/util/Optional;"), (0, .methodref 8 9), (0, .class_ 10), (0, .nameAndType 11 12), (0, u "java/lang/Object"), (0, u "<init>"), (0, u "()V"), (0, .fieldref 2 14), (0, .nameAndType 15 16), (0, u "value"), (0, u "Ljava/lang/Object;"), (0, .methodref 18 19), (0, .class_ 20), (0, .nameAndType 21 22), (0, u "java/util/Objects"), (0, u "requireNonNull"), (0, u "(Ljava/lang/Object;)Ljava/lang/Object;"), (0, .methodref 2 24), (0, .nameAndType 11 25), (0, u "(Ljava/lang/Object;)V"), (17, .methodref 2 44), (0, .nameAndType 45 46), (0, u "isEmpty"), (0, u "()Z"), (0, .interfaceMethodref 48 49), (0, .class_ 50), (0, .nameAndType 51 52), (0, u "java/util/function/Predicate"), (0, u "test"), (0, u "(Ljava/lang/Object;)Z"), (2, u "empty"), (0, u "()Ljava/util/Optional;"), (8, u "(Ljava/lang/Object;)Ljava/util/Optional;"), (2, u "isPresent"), (13, u "of"), (57, u "filter"), (0, u "(Ljava/util/function/Predicate;)Ljava/util/Optional;")] 45

def k11c0 : Code := { maxStack := 1, maxLocals := 1, code := jdk_32_method_1_code, exceptionTable := #[], attributes := #[] }
def k11m0 : Method := { name := "empty", desc := "()Ljava/util/Optional;", sig := { parameters := [], returnType := some (.object "java/util/Optional") }, accessFlags := 9, code := some k11c0 }
def k11c1 : Code := { maxStack := 2, maxLocals := 2, code := jdk_32_method_2_code, exceptionTable := #[], attributes := #[] }
def k11m1 : Method := { name := "<init>", desc := "(Ljava/lang/Object;)V", sig := { parameters := [(.object "java/lang/Object")], returnType := none }, accessFlags := 2, code := some k11c1 }
def k11c2 : Code := { maxStack := 3, maxLocals := 1, code := jdk_32_method_3_code, exceptionTable := #[], attributes := #[] }
def k11m2 : Method := { name := "of", desc := "(Ljava/lang/Object;)Ljava/util/Optional;", sig := { parameters := [(.object "java/lang/Object")], returnType := some (.object "java/util/Optional") }, accessFlags := 9, code := some k11c2 }
def k11c3 : Code := { maxStack := 1, maxLocals := 1, code := jdk_32_method_6_code, exceptionTable := #[], attributes := #[] }
def k11m3 : Method := { name := "isPresent", desc := "()Z", sig := { parameters := [], returnType := some .boolean }, accessFlags := 1, code := some k11c3 }
def k11c4 : Code := { maxStack := 1, maxLocals := 1, code := jdk_32_method_7_code, exceptionTable := #[], attributes := #[] }
def k11m4 : Method := { name := "isEmpty", desc := "()Z", sig := { parameters := [], returnType := some .boolean }, accessFlags := 1, code := some k11c4 }
def k11c5 : Code := { maxStack := 2, maxLocals := 2, code := jdk_32_method_10_code, exceptionTable := #[], attributes := #[] }
def k11m5 : Method := { name := "filter", desc := "(Ljava/util/function/Predicate;)Ljava/util/Optional;", sig := { parameters := [(.object "java/util/function/Predicate")], returnType := some (.object "java/util/Optional") }, accessFlags := 1, code := some k11c5 }
/-- java/util/Optional -/
def k11 : Class := { plain "java/util/Optional" (some 0) with
  accessFlags := 49
  interfaces := #[]
  cf := some (fileOf pool11 2 #[] #[{ accessFlags := 9, nameIndex := 55, descriptorIndex := 56, attributes := #[] }, { accessFlags := 2, nameIndex := 11, descriptorIndex := 25, attributes := #[] }, { accessFlags := 9, nameIndex := 82, descriptorIndex := 65, attributes := #[] }, { accessFlags := 1, nameIndex := 68, descriptorIndex := 46, attributes := #[] }, { accessFlags := 1, nameIndex := 45, descriptorIndex := 46, attributes := #[] }, { accessFlags := 1, nameIndex := 140, descriptorIndex := 141, attributes := #[] }] 49 8 #[] #[{ accessFlags := 26, nameIndex := 5, descriptorIndex := 6, attributes := #[] }, { accessFlags := 18, nameIndex := 15, descriptorIndex := 16, attributes := #[] }])
  fields := #[{ name := "EMPTY", type := (.object "java/util/Optional"), accessFlags := 26, slot := 0, constantValue := 0 }, { name := "value", type := (.object "java/lang/Object"), accessFlags := 18, slot := 0, constantValue := 0 }]
  methods := #[k11m0, k11m1, k11m2, k11m3, k11m4, k11m5]
  instanceTypes := #[(.object "java/lang/Object")]
  staticTypes := #[(.object "java/util/Optional")]
  resolved := Array.replicate 187 none
  statics := some 1 }

def pool12 : Array CpInfo := pool [(2, .class_ 4), (1, u "java/lang/Object"), (0, u "<init>"), (0, u "()V"), (35, .class_ 44), (1, u "java/util/Objects"), (0, u "requireNonNull"), (0, u "(Ljava/lang/Object;)Ljava/lang/Object;"), (47, u "(Ljava/lang/Object;Ljava/lang/String;)Ljava/lang/Object;")] 89

def k12m0 : Method := { name := "<init>", desc := "()V", sig := { parameters := [], returnType := none }, accessFlags := 2, code := none }
def k12c1 : Code := { maxStack := 2, maxLocals := 1, code := jdk_31_method_10_code, exceptionTable := #[], attributes := #[] }
def k12m1 : Method := { name := "requireNonNull", desc := "(Ljava/lang/Object;)Ljava/lang/Object;", sig := { parameters := [(.object "java/lang/Object")], returnType := some (.object "java/lang/Object") }, accessFlags := 9, code := some k12c1 }
def k12c2 : Code := { maxStack := 3, maxLocals := 2, code := jdk_31_method_11_code, exceptionTable := #[], attributes := #[] }
def k12m2 : Method := { name := "requireNonNull", desc := "(Ljava/lang/Object;Ljava/lang/String;)Ljava/lang/Object;", sig := { parameters := [(.object "java/lang/Object"), (.object "java/lang/String")], returnType := some (.object "java/lang/Object") }, accessFlags := 9, code := some k12c2 }
/-- java/util/Objects -/
def k12 : Class := { plain "java/util/Objects" (some 0) with
  accessFlags := 49
  interfaces := #[]
  cf := some (fileOf pool12 42 #[] #[{ accessFlags := 2, nameIndex := 5, descriptorIndex := 6, attributes := #[] }, { accessFlags := 9, nameIndex := 45, descriptorIndex := 46, attributes := #[] }, { accessFlags := 9, nameIndex := 45, descriptorIndex := 94, attributes := #[] }] 49 2 #[] #[])
  fields := #[]
  methods := #[k12m0, k12m1, k12m2]
  instanceTypes := #[]
  staticTypes := #[]
  resolved := Array.replicate 184 none
  statics := none }

def pool13 : Array CpInfo := pool [(9, u "test"), (12, .class_ 24), (1, u "java/util/function/Predicate"), (2, .class_ 29), (1, u "java/lang/Object"), (1, u "(Ljava/lang/Object;)Z")] 69

def k13m0 : Method := { name := "test", desc := "(Ljava/lang/Object;)Z", sig := { parameters := [(.object "java/lang/Object")], returnType := some .boolean }, accessFlags := 1025, code := none }
/-- java/util/function/Predicate -/
def k13 : Class := { plain "java/util/function/Predicate" (some 0) with
  accessFlags := 1537
  interfaces := #[]
  cf := some (fileOf pool13 22 #[] #[{ accessFlags := 1025, nameIndex := 9, descriptorIndex := 31, attributes := #[] }] 1537 27 #[] #[])
  fields := #[]
  methods := #[k13m0]
  instanceTypes := #[]
  staticTypes := #[]
  resolved := Array.replicate 101 none
  statics := none }

def pool14 : Array CpInfo := pool [(4, .class_ 6), (1, u "java/lang/Object"), (0, u "<init>"), (0, u "()V"), (5, .class_ 16), (1, u "java/lang/StringLatin1"), (73, u "canEncode"), (14, u "(C)Z"), (15, u "$assertionsDisabled"), (0, u "Z"), (98, .class_ 223), (1, u "java/lang/StringLatin1$LinesSpliterator"), (57, u "equals"), (0, u "([B[B)Z"), (97, u "toBytes"), (1, u "(C)[B"), (7, .class_ 391), (0, u "java/lang/StringLatin1$CharsSpliterator")] 3

def k14m0 : Method := { name := "<init>", desc := "()V", sig := { parameters := [], returnType := none }, accessFlags := 0, code := none }
def k14c1 : Code := { maxStack := 2, maxLocals := 1, code := jdk_43_method_3_code, exceptionTable := #[], attributes := #[] }
def k14m1 : Method := { name := "canEncode", desc := "(C)Z", sig := { parameters := [.char], returnType := some .boolean }, accessFlags := 9, code := some k14c1 }
def k14c2 : Code := { maxStack := 3, maxLocals := 3, code := jdk_43_method_13_code, exceptionTable := #[], attributes := #[] }
def k14m2 : Method := { name := "equals", desc := "([B[B)Z", sig := { parameters := [(.array .byte), (.array .byte)], returnType := some .boolean }, accessFlags := 9, code := some k14c2 }
def k14c3 : Code := { maxStack := 4, maxLocals := 1, code := jdk_43_method_46_code, exceptionTable := #[], attributes := #[] }
def k14m3 : Method := { name := "toBytes", desc := "(C)[B", sig := { parameters := [.char], returnType := some (.array .byte) }, accessFlags := 9, code := some k14c3 }
/-- java/lang/StringLatin1 -/
def k14 : Class := { plain "java/lang/StringLatin1" (some 0) with
  accessFlags := 48
  interfaces := #[]
  cf := some (fileOf pool14 14 #[.nestMembers #[390, 221]] #[{ accessFlags := 0, nameIndex := 7, descriptorIndex := 8, attributes := #[] }, { accessFlags := 9, nameIndex := 90, descriptorIndex := 105, attributes := #[] }, { accessFlags := 9, nameIndex := 281, descriptorIndex := 282, attributes := #[] }, { accessFlags := 9, nameIndex := 380, descriptorIndex := 382, attributes := #[] }] 48 4 #[] #[{ accessFlags := 4120, nameIndex := 121, descriptorIndex := 122, attributes := #[] }])
  fields := #[{ name := "$assertionsDisabled", type := .boolean, accessFlags := 4120, slot := 0, constantValue := 0 }]
  methods := #[k14m0, k14m1, k14m2, k14m3]
  instanceTypes := #[]
  staticTypes := #[.boolean]
  resolved := Array.replicate 395 none
  statics := none }

def pool15 : Array CpInfo := pool [(2, .class_ 4), (1, u "java/lang/Object"), (0, u "<init>"), (0, u "()V"), (17, .class_ 26), (1, u "jdk/internal/util/Preconditions"), (28, .class_ 56), (0, u "jdk/internal/util/Preconditions$4"), (57, .class_ 115), (0, u "jdk/internal/util/Preconditions$1"), (7, u "SIOOBE_FORMATTER"), (0, u "Ljava/util/function/BiFunction;"), (0, .class_ 126), (0, u "jdk/internal/util/Preconditions$2"), (3, u "AIOOBE_FORMATTER"), (0, .class_ 132), (0, u "jdk/internal/util/Preconditions$3"), (3, u "IOOBE_FORMATTER")] 57

def k15m0 : Method := { name := "<init>", desc := "()V", sig := { parameters := [], returnType := none }, accessFlags := 1, code := none }
/-- jdk/internal/util/Preconditions -/
def k15 : Class := { plain "jdk/internal/util/Preconditions" (some 0) with
  accessFlags := 33
  interfaces := #[]
  cf := some (fileOf pool15 24 #[.nestMembers #[55, 131, 125, 114]] #[{ accessFlags := 1, nameIndex := 5, descriptorIndex := 6, attributes := #[] }] 33 2 #[] #[{ accessFlags := 25, nameIndex := 123, descriptorIndex := 124, attributes := #[] }, { accessFlags := 25, nameIndex := 130, descriptorIndex := 124, attributes := #[] }, { accessFlags := 25, nameIndex := 136, descriptorIndex := 124, attributes := #[] }])
  fields := #[{ name := "SIOOBE_FORMATTER", type := (.object "java/util/function/BiFunction"), accessFlags := 25, slot := 0, constantValue := 0 }, { name := "AIOOBE_FORMATTER", type := (.object "java/util/function/BiFunction"), accessFlags := 25, slot := 1, constantValue := 0 }, { name := "IOOBE_FORMATTER", type := (.object "java/util/function/BiFunction"), accessFlags := 25, slot := 2, constantValue := 0 }]
  methods := #[k15m0]
  instanceTypes := #[]
  staticTypes := #[(.object "java/util/function/BiFunction"), (.object "java/util/function/BiFunction"), (.object "java/util/function/BiFunction")]
  resolved := Array.replicate 194 none
  statics := some 2 }

def pool16 : Array CpInfo := pool [(9, u "<init>"), (6, .class_ 18), (1, u "java/lang/Object"), (0, u "()V"), (1, .class_ 23), (1, u "jdk/internal/util/ArraysSupport"), (0, u "LOG2_ARRAY_LONG_INDEX_SCALE"), (0, u "I"), (2, u "U"), (0, u "Ljdk/internal/misc/Unsafe;"), (8, u "BIG_ENDIAN"), (0, u "Z"), (8, u "LOG2_BYTE_BIT_SIZE"), (4, u "LOG2_ARRAY_INT_INDEX_SCALE"), (54, u "JLA"), (0, u "Ljdk/internal/access/JavaLangAccess;"), (11, u "LOG2_ARRAY_BOOLEAN_INDEX_SCALE"), (9, u "LOG2_ARRAY_BYTE_INDEX_SCALE"), (5, u "LOG2_ARRAY_CHAR_INDEX_SCALE"), (5, u "LOG2_ARRAY_SHORT_INDEX_SCALE"), (18, u "LOG2_ARRAY_FLOAT_INDEX_SCALE"), (24, u "LOG2_ARRAY_DOUBLE_INDEX_SCALE"), (89, u "T_BOOLEAN"), (2, u "T_CHAR"), (1, u "T_FLOAT"), (1, u "T_DOUBLE"), (1, u "T_BYTE"), (1, u "T_SHORT"), (1, u "T_INT"), (1, u "T_LONG"), (1, u "SOFT_MAX_ARRAY_LENGTH")] 83

def k16m0 : Method := { name := "<init>", desc := "()V", sig := { parameters := [], returnType := none }, accessFlags := 2, code := none }
/-- jdk/internal/util/ArraysSupport -/
def k16 : Class := { plain "jdk/internal/util/ArraysSupport" (some 0) with
  accessFlags := 33
  interfaces := #[]
  cf := some (fileOf pool16 21 #[] #[{ accessFlags := 2, nameIndex := 9, descriptorIndex := 19, attributes := #[] }] 33 16 #[] #[{ accessFlags := 24, nameIndex := 28, descriptorIndex := 29, attributes := #[] }, { accessFlags := 26, nameIndex := 38, descriptorIndex := 39, attributes := #[] }, { accessFlags := 25, nameIndex := 121, descriptorIndex := 25, attributes := #[] }, { accessFlags := 25, nameIndex := 131, descriptorIndex := 25, attributes := #[] }, { accessFlags := 25, nameIndex := 137, descriptorIndex := 25, attributes := #[] }, { accessFlags := 25, nameIndex := 143, descriptorIndex := 25, attributes := #[] }, { accessFlags := 25, nameIndex := 53, descriptorIndex := 25, attributes := #[] }, { accessFlags := 25, nameIndex := 24, descriptorIndex := 25, attributes := #[] }, { accessFlags := 25, nameIndex := 162, descriptorIndex := 25, attributes := #[] }, { accessFlags := 25, nameIndex := 187, descriptorIndex := 25, attributes := #[] }, { accessFlags := 26, nameIndex := 48, descriptorIndex := 25, attributes := #[] }, { accessFlags := 25, nameIndex := 277, descriptorIndex := 25, attributes := #[] }, { accessFlags := 25, nameIndex := 280, descriptorIndex := 25, attributes := #[] }, { accessFlags := 25, nameIndex := 282, descriptorIndex := 25, attributes := #[] }, { accessFlags := 25, nameIndex := 284, descriptorIndex := 25, attributes := #[] }, { accessFlags := 25, nameIndex := 286, descriptorIndex := 25, attributes := #[] }, { accessFlags := 25, nameIndex := 288, descriptorIndex := 25, attributes := #[] }, { accessFlags := 25, nameIndex := 290, descriptorIndex := 25, attributes := #[] }, { accessFlags := 25, nameIndex := 292, descriptorIndex := 25, attributes := #[] }, { accessFlags := 26, nameIndex := 108, descriptorIndex := 109, attributes := #[] }, { accessFlags := 25, nameIndex := 294, descriptorIndex := 25, attributes := #[] }])
  fields := #[{ name := "U", type := (.object "jdk/internal/misc/Unsafe"), accessFlags := 24, slot := 0, constantValue := 0 }, { name := "BIG_ENDIAN", type := .boolean, accessFlags := 26, slot := 1, constantValue := 0 }, { name := "LOG2_ARRAY_BOOLEAN_INDEX_SCALE", type := .int, accessFlags := 25, slot := 2, constantValue := 0 }, { name := "LOG2_ARRAY_BYTE_INDEX_SCALE", type := .int, accessFlags := 25, slot := 3, constantValue := 0 }, { name := "LOG2_ARRAY_CHAR_INDEX_SCALE", type := .int, accessFlags := 25, slot := 4, constantValue := 0 }, { name := "LOG2_ARRAY_SHORT_INDEX_SCALE", type := .int, accessFlags := 25, slot := 5, constantValue := 0 }, { name := "LOG2_ARRAY_INT_INDEX_SCALE", type := .int, accessFlags := 25, slot := 6, constantValue := 0 }, { name := "LOG2_ARRAY_LONG_INDEX_SCALE", type := .int, accessFlags := 25, slot := 7, constantValue := 0 }, { name := "LOG2_ARRAY_FLOAT_INDEX_SCALE", type := .int, accessFlags := 25, slot := 8, constantValue := 0 }, { name := "LOG2_ARRAY_DOUBLE_INDEX_SCALE", type := .int, accessFlags := 25, slot := 9, constantValue := 0 }, { name := "LOG2_BYTE_BIT_SIZE", type := .int, accessFlags := 26, slot := 10, constantValue := 0 }, { name := "T_BOOLEAN", type := .int, accessFlags := 25, slot := 11, constantValue := 0 }, { name := "T_CHAR", type := .int, accessFlags := 25, slot := 12, constantValue := 0 }, { name := "T_FLOAT", type := .int, accessFlags := 25, slot := 13, constantValue := 0 }, { name := "T_DOUBLE", type := .int, accessFlags := 25, slot := 14, constantValue := 0 }, { name := "T_BYTE", type := .int, accessFlags := 25, slot := 15, constantValue := 0 }, { name := "T_SHORT", type := .int, accessFlags := 25, slot := 16, constantValue := 0 }, { name := "T_INT", type := .int, accessFlags := 25, slot := 17, constantValue := 0 }, { name := "T_LONG", type := .int, accessFlags := 25, slot := 18, constantValue := 0 }, { name := "JLA", type := (.object "jdk/internal/access/JavaLangAccess"), accessFlags := 26, slot := 19, constantValue := 0 }, { name := "SOFT_MAX_ARRAY_LENGTH", type := .int, accessFlags := 25, slot := 20, constantValue := 0 }]
  methods := #[k16m0]
  instanceTypes := #[]
  staticTypes := #[(.object "jdk/internal/misc/Unsafe"), .boolean, .int, .int, .int, .int, .int, .int, .int, .int, .int, .int, .int, .int, .int, .int, .int, .int, .int, (.object "jdk/internal/access/JavaLangAccess"), .int]
  resolved := Array.replicate 378 none
  statics := none }

def pool17 : Array CpInfo := pool [(1, u "java/lang/Cloneable"), (0, .class_ 1), (0, u "java/lang/Object"), (0, .class_ 3)] 3

/-- java/lang/Cloneable -/
def k17 : Class := { plain "java/lang/Cloneable" (some 0) with
  accessFlags := 1537
  interfaces := #[]
  cf := some (fileOf pool17 2 #[] #[] 1537 4 #[] #[])
  fields := #[]
  methods := #[]
  instanceTypes := #[]
  staticTypes := #[]
  resolved := Array.replicate 8 none
  statics := none }

/-- the primitive byte -/
def k18 : Class := { plain "byte" none with kind := .primitive 'B', accessFlags := 0x411 }
/-- [B -/
def k19 : Class := { plain "[B" (some 0) with kind := .array 18 .byte, interfaces := #[17, 2], accessFlags := 1041 }

/-- the primitive char -/
def k20 : Class := { plain "char" none with kind := .primitive 'C', accessFlags := 0x411 }
/-- [C -/
def k21 : Class := { plain "[C" (some 0) with kind := .array 20 .char, interfaces := #[17, 2], accessFlags := 1041 }

/-- the primitive int -/
def k22 : Class := { plain "int" none with kind := .primitive 'I', accessFlags := 0x411 }
/-- [I -/
def k23 : Class := { plain "[I" (some 0) with kind := .array 22 .int, interfaces := #[17, 2], accessFlags := 1041 }

def classes0 : Array Class := #[k0, k1, k2, k3, k4, k5, k6, k7, k8, k9, k10, k11, k12, k13, k14, k15, k16, k17, k18, k19, k20, k21, k22, k23]
/-- the class that the rule has made for the site at 21 of com/example/lease/lease/store/RedisAddress.<init> -/
def k24 : Class := Jvm.LamKit.madeRec { classes := classes0 } "com/example/lease/lease/store/RedisAddress" (Jvm.Lambda.Shape.mk "java/util/function/Predicate" "test" (Jvm.ClassFile.MethodDescriptor.mk ([(Jvm.ClassFile.FieldType.object "java/lang/Object")] : List Jvm.ClassFile.FieldType) (Option.some Jvm.ClassFile.FieldType.boolean)) ([] : List Jvm.ClassFile.FieldType) (6 : Nat) "com/example/lease/lease/store/RedisAddress" "lambda$new$0" (Jvm.ClassFile.MethodDescriptor.mk ([(Jvm.ClassFile.FieldType.object "java/lang/String")] : List Jvm.ClassFile.FieldType) (Option.some Jvm.ClassFile.FieldType.boolean)) false (Jvm.ClassFile.MethodDescriptor.mk ([(Jvm.ClassFile.FieldType.object "java/lang/String")] : List Jvm.ClassFile.FieldType) (Option.some Jvm.ClassFile.FieldType.boolean))) 24

/-- the class that the rule has made for the site at 41 of com/example/lease/lease/store/RedisAddress.<init> -/
def k25 : Class := Jvm.LamKit.madeRec { classes := classes0 } "com/example/lease/lease/store/RedisAddress" (Jvm.Lambda.Shape.mk "java/util/function/Predicate" "test" (Jvm.ClassFile.MethodDescriptor.mk ([(Jvm.ClassFile.FieldType.object "java/lang/Object")] : List Jvm.ClassFile.FieldType) (Option.some Jvm.ClassFile.FieldType.boolean)) ([] : List Jvm.ClassFile.FieldType) (6 : Nat) "com/example/lease/lease/store/RedisAddress" "lambda$new$1" (Jvm.ClassFile.MethodDescriptor.mk ([(Jvm.ClassFile.FieldType.object "java/lang/String")] : List Jvm.ClassFile.FieldType) (Option.some Jvm.ClassFile.FieldType.boolean)) false (Jvm.ClassFile.MethodDescriptor.mk ([(Jvm.ClassFile.FieldType.object "java/lang/String")] : List Jvm.ClassFile.FieldType) (Option.some Jvm.ClassFile.FieldType.boolean))) 25

def heap : Heap := #[{ cls := 7, slots := #[.long 0, .int 1, .null, .int 0, .null, .int 0, .int 0], vm := .statics 7 },
  { cls := 11, slots := #[.ref 5], vm := .statics 11 },
  { cls := 15, slots := #[.null, .null, .null], vm := .statics 15 },
  { cls := 24, slots := #[], vm := .none },
  { cls := 25, slots := #[], vm := .none },
  { cls := 11, slots := #[.null], vm := .none }]
def classes : Array Class := #[k0, k1, k2, k3, k4, k5, k6, k7, k8, k9, k10, k11, k12, k13, k14, k15, k16, k17, k18, k19, k20, k21, k22, k23, k24, k25]
def interned : List (Array UInt16 × Addr) := []
def slotsUsed : Nat := 12
def theMethod : MethodId := ⟨1, 4⟩
def args0 : Array Value := #[.int 65601, .int 65602, .int 7, .int 9, .int 6, .int 0]
def aboutOver (below : List Frame) : State where
  vm := { classes := classes, interned := interned.toArray }
  heap := heap
  slotsUsed := slotsUsed
  threads := #[{ frames := .invoking theMethod args0 :: below }]
def below0 : List Frame := [.native { method := ⟨0, 0⟩, args := #[] }]
def about1 : State := aboutOver below0
def p0 : Program := .bare "" "" ""
def e0 : Env := launch0.env 0 0 0
theorem w_frames : about1.frames = Frame.invoking theMethod args0 :: below0 := rfl
set_option maxRecDepth 65536 in
theorem w_args : argsFit about1.vm theMethod args0 = true := by decide +kernel
set_option maxRecDepth 65536 in
theorem w_heap : heapFits about1 = true := by decide +kernel
set_option maxRecDepth 65536 in
theorem w_runnable : about1.curStatus? = some .runnable := by decide +kernel
set_option maxRecDepth 65536 in
theorem w_alone : about1.alone = true := by decide +kernel
set_option maxRecDepth 65536 in
theorem w_named : about1.methodNamed? x = some theMethod := by decide +kernel
set_option maxRecDepth 65536 in
theorem w_hears : about1.hears theMethod below0 = true := by decide +kernel
set_option maxRecDepth 65536 in
theorem w_ripe : about1.ripe theMethod args0 below0 = true := by decide +kernel
theorem w_running : about1.status = .running := rfl
set_option maxRecDepth 65536 in
theorem w_room : about1.hasRoom e0.platform room_1 = true :=
  launch0.hasRoom_least _ room_1 (by decide +kernel) (by decide +kernel) (by decide +kernel) (by decide +kernel) (by decide +kernel) (by decide +kernel)
theorem allAtoms_all (ts : List Jvm.Cond) (a : Array Jvm.Value) (st : Jvm.State) : (allAtoms ts).before a st = ts.all (fun c => c.before a st) := by
  induction ts with
  | nil => rfl
  | cons c t ih =>
    show (Jvm.Cond.and c (allAtoms t)).before a st = _
    rw [Jvm.Cond.before_and, ih, List.all_cons]
def words1 : List Jvm.Cond := Jvm.Cond.code x code maxLocals ret :: tables_1
/-- a 'code' word, met by the world's own term for the bytes: nothing is compared byte by byte -/
theorem code_word {y : MethodName} {bytes : ByteArray} {mx : Nat} {rt : Option FieldType} {a : Array Value} {s : State} {m : MethodId} {meth : Method} {c : Code} (h1 : s.methodNamed? y = some m) (h2 : s.vm.method? m = some meth) (h3 : meth.code = some c) (h4 : c.code = bytes)
    (h5 : (c.maxLocals == mx && c.exceptionTable.isEmpty && decide (c.maxStack ≤ mostOperands) && decide (meth.sig.returnType = rt) && !meth.locks && decide (parseMethodDescriptor y.desc = some meth.sig)) = true) : (Jvm.Cond.code y bytes mx rt).before a s = true := by
  simp only [Bool.and_eq_true, beq_iff_eq, Bool.not_eq_true', decide_eq_true_eq] at h5
  obtain ⟨⟨⟨⟨⟨g1, g2⟩, g3⟩, g4⟩, g5⟩, g6⟩ := h5
  simp [Cond.before, Cond.holds, Cond.value, h1, h2, h3, h4, g1, g2, g3, g4, g5, g6]
def isCode : Jvm.Cond → Bool
  | .code _ _ _ _ => true
  | _ => false
theorem all_split {L : List Jvm.Cond} {P : Jvm.Cond → Bool} (h1 : L.all (fun c => isCode c || P c) = true) (h2 : ∀ c ∈ L.filter isCode, P c = true) : L.all P = true := by
  refine List.all_eq_true.mpr fun c hc => ?_
  have h := List.all_eq_true.mp h1 c hc
  rcases Bool.eq_false_or_eq_true (isCode c) with hi | hi
  · exact h2 c (List.mem_filter.mpr ⟨hc, hi⟩)
  · simpa [hi] using h
set_option maxRecDepth 65536 in
theorem w_c0 : (Jvm.Cond.code x code maxLocals ret).before args0 about1 = true := code_word (m := ⟨1, 4⟩) (meth := k1m4) (c := k1c4) (by decide +kernel) rfl rfl rfl (by decide +kernel)
set_option maxRecDepth 65536 in
theorem w_c1 : (Jvm.Cond.code ({ cls := "com/example/lease/lease/store/RedisAddressEqualsPinLaw", name := "mk", desc := "(ICC)Ljava/lang/String;" } : Jvm.MethodName) method_2_code (3 : Nat) (Option.some (Jvm.ClassFile.FieldType.object "java/lang/String"))).before args0 about1 = true := code_word (m := ⟨1, 1⟩) (meth := k1m1) (c := k1c1) (by decide +kernel) rfl rfl rfl (by decide +kernel)
set_option maxRecDepth 65536 in
theorem w_c2 : (Jvm.Cond.code ({ cls := "java/lang/String", name := "<init>", desc := "([C)V" } : Jvm.MethodName) jdk_42_method_3_code (2 : Nat) (Option.none : Option Jvm.ClassFile.FieldType)).before args0 about1 = true := code_word (m := ⟨7, 1⟩) (meth := k7m1) (c := k7c1) (by decide +kernel) rfl rfl rfl (by decide +kernel)
set_option maxRecDepth 65536 in
theorem w_c3 : (Jvm.Cond.code ({ cls := "java/lang/String", name := "<init>", desc := "([CIILjava/lang/Void;)V" } : Jvm.MethodName) jdk_42_method_149_code (6 : Nat) (Option.none : Option Jvm.ClassFile.FieldType)).before args0 about1 = true := code_word (m := ⟨7, 5⟩) (meth := k7m5) (c := k7c5) (by decide +kernel) rfl rfl rfl (by decide +kernel)
set_option maxRecDepth 65536 in
theorem w_c4 : (Jvm.Cond.code ({ cls := "java/lang/Object", name := "<init>", desc := "()V" } : Jvm.MethodName) object_method_1_code (1 : Nat) (Option.none : Option Jvm.ClassFile.FieldType)).before args0 about1 = true := code_word (m := ⟨0, 0⟩) (meth := k0m0) (c := k0c0) (by decide +kernel) rfl rfl rfl (by decide +kernel)
set_option maxRecDepth 65536 in
theorem w_c5 : (Jvm.Cond.code ({ cls := "java/lang/StringUTF16", name := "compress", desc := "([CII)[B" } : Jvm.MethodName) jdk_52_method_16_code (6 : Nat) (Option.some (Jvm.ClassFile.FieldType.array Jvm.ClassFile.FieldType.byte))).before args0 about1 = true := code_word (m := ⟨8, 2⟩) (meth := k8m2) (c := k8c2) (by decide +kernel) rfl rfl rfl (by decide +kernel)
set_option maxRecDepth 65536 in
theorem w_c6 : (Jvm.Cond.code ({ cls := "java/lang/StringUTF16", name := "compress", desc := "([CI[BII)I" } : Jvm.MethodName) jdk_52_method_21_code (7 : Nat) (Option.some Jvm.ClassFile.FieldType.int)).before args0 about1 = true := code_word (m := ⟨8, 3⟩) (meth := k8m3) (c := k8c3) (by decide +kernel) rfl rfl rfl (by decide +kernel)
set_option maxRecDepth 65536 in
theorem w_c7 : (Jvm.Cond.code ({ cls := "java/lang/StringUTF16", name := "coderFromArrayLen", desc := "([BI)B" } : Jvm.MethodName) jdk_52_method_15_code (2 : Nat) (Option.some Jvm.ClassFile.FieldType.byte)).before args0 about1 = true := code_word (m := ⟨8, 1⟩) (meth := k8m1) (c := k8c1) (by decide +kernel) rfl rfl rfl (by decide +kernel)
set_option maxRecDepth 65536 in
theorem w_c8 : (Jvm.Cond.code ({ cls := "com/example/lease/lease/store/RedisAddressEqualsPinLaw", name := "user", desc := "(I)Ljava/util/Optional;" } : Jvm.MethodName) method_3_code (1 : Nat) (Option.some (Jvm.ClassFile.FieldType.object "java/util/Optional"))).before args0 about1 = true := code_word (m := ⟨1, 2⟩) (meth := k1m2) (c := k1c2) (by decide +kernel) rfl rfl rfl (by decide +kernel)
set_option maxRecDepth 65536 in
theorem w_c9 : (Jvm.Cond.code ({ cls := "java/util/Optional", name := "empty", desc := "()Ljava/util/Optional;" } : Jvm.MethodName) jdk_32_method_1_code (1 : Nat) (Option.some (Jvm.ClassFile.FieldType.object "java/util/Optional"))).before args0 about1 = true := code_word (m := ⟨11, 0⟩) (meth := k11m0) (c := k11c0) (by decide +kernel) rfl rfl rfl (by decide +kernel)
set_option maxRecDepth 65536 in
theorem w_c10 : (Jvm.Cond.code ({ cls := "com/example/lease/lease/store/RedisAddressEqualsPinLaw", name := "password", desc := "(I)Ljava/util/Optional;" } : Jvm.MethodName) method_4_code (1 : Nat) (Option.some (Jvm.ClassFile.FieldType.object "java/util/Optional"))).before args0 about1 = true := code_word (m := ⟨1, 3⟩) (meth := k1m3) (c := k1c3) (by decide +kernel) rfl rfl rfl (by decide +kernel)
set_option maxRecDepth 65536 in
theorem w_c11 : (Jvm.Cond.code ({ cls := "com/example/lease/lease/store/RedisAddress", name := "<init>", desc := "(Ljava/lang/String;IZLjava/util/Optional;Ljava/util/Optional;)V" } : Jvm.MethodName) prog_23_method_1_code (6 : Nat) (Option.none : Option Jvm.ClassFile.FieldType)).before args0 about1 = true := code_word (m := ⟨10, 0⟩) (meth := k10m0) (c := k10c0) (by decide +kernel) rfl rfl rfl (by decide +kernel)
set_option maxRecDepth 65536 in
theorem w_c12 : (Jvm.Cond.code ({ cls := "java/lang/Record", name := "<init>", desc := "()V" } : Jvm.MethodName) jdk_30_method_1_code (1 : Nat) (Option.none : Option Jvm.ClassFile.FieldType)).before args0 about1 = true := code_word (m := ⟨9, 0⟩) (meth := k9m0) (c := k9c0) (by decide +kernel) rfl rfl rfl (by decide +kernel)
set_option maxRecDepth 65536 in
theorem w_c13 : (Jvm.Cond.code ({ cls := "java/util/Objects", name := "requireNonNull", desc := "(Ljava/lang/Object;Ljava/lang/String;)Ljava/lang/Object;" } : Jvm.MethodName) jdk_31_method_11_code (2 : Nat) (Option.some (Jvm.ClassFile.FieldType.object "java/lang/Object"))).before args0 about1 = true := code_word (m := ⟨12, 2⟩) (meth := k12m2) (c := k12c2) (by decide +kernel) rfl rfl rfl (by decide +kernel)
set_option maxRecDepth 65536 in
theorem w_c14 : (Jvm.Cond.code ({ cls := "java/util/Optional", name := "filter", desc := "(Ljava/util/function/Predicate;)Ljava/util/Optional;" } : Jvm.MethodName) jdk_32_method_10_code (2 : Nat) (Option.some (Jvm.ClassFile.FieldType.object "java/util/Optional"))).before args0 about1 = true := code_word (m := ⟨11, 5⟩) (meth := k11m5) (c := k11c5) (by decide +kernel) rfl rfl rfl (by decide +kernel)
set_option maxRecDepth 65536 in
theorem w_c15 : (Jvm.Cond.code ({ cls := "java/util/Objects", name := "requireNonNull", desc := "(Ljava/lang/Object;)Ljava/lang/Object;" } : Jvm.MethodName) jdk_31_method_10_code (1 : Nat) (Option.some (Jvm.ClassFile.FieldType.object "java/lang/Object"))).before args0 about1 = true := code_word (m := ⟨12, 1⟩) (meth := k12m1) (c := k12c1) (by decide +kernel) rfl rfl rfl (by decide +kernel)
set_option maxRecDepth 65536 in
theorem w_c16 : (Jvm.Cond.code ({ cls := "java/util/Optional", name := "isEmpty", desc := "()Z" } : Jvm.MethodName) jdk_32_method_7_code (1 : Nat) (Option.some Jvm.ClassFile.FieldType.boolean)).before args0 about1 = true := code_word (m := ⟨11, 4⟩) (meth := k11m4) (c := k11c4) (by decide +kernel) rfl rfl rfl (by decide +kernel)
set_option maxRecDepth 65536 in
theorem w_c17 : (Jvm.Cond.code ({ cls := "java/lang/String", name := "isEmpty", desc := "()Z" } : Jvm.MethodName) jdk_42_method_55_code (1 : Nat) (Option.some Jvm.ClassFile.FieldType.boolean)).before args0 about1 = true := code_word (m := ⟨7, 2⟩) (meth := k7m2) (c := k7c2) (by decide +kernel) rfl rfl rfl (by decide +kernel)
set_option maxRecDepth 65536 in
theorem w_c18 : (Jvm.Cond.code ({ cls := "java/util/Optional", name := "isPresent", desc := "()Z" } : Jvm.MethodName) jdk_32_method_6_code (1 : Nat) (Option.some Jvm.ClassFile.FieldType.boolean)).before args0 about1 = true := code_word (m := ⟨11, 3⟩) (meth := k11m3) (c := k11c3) (by decide +kernel) rfl rfl rfl (by decide +kernel)
set_option maxRecDepth 65536 in
theorem w_c19 : (Jvm.Cond.code ({ cls := "com/example/lease/lease/store/RedisAddress", name := "equals", desc := "(Ljava/lang/Object;)Z" } : Jvm.MethodName) prog_23_method_5_code (3 : Nat) (Option.some Jvm.ClassFile.FieldType.boolean)).before args0 about1 = true := code_word (m := ⟨10, 1⟩) (meth := k10m1) (c := k10c1) (by decide +kernel) rfl rfl rfl (by decide +kernel)
set_option maxRecDepth 65536 in
theorem w_c20 : (Jvm.Cond.code ({ cls := "java/lang/String", name := "valueOf", desc := "(C)Ljava/lang/String;" } : Jvm.MethodName) jdk_42_method_139_code (1 : Nat) (Option.some (Jvm.ClassFile.FieldType.object "java/lang/String"))).before args0 about1 = true := code_word (m := ⟨7, 4⟩) (meth := k7m4) (c := k7c4) (by decide +kernel) rfl rfl rfl (by decide +kernel)
set_option maxRecDepth 65536 in
theorem w_c21 : (Jvm.Cond.code ({ cls := "java/lang/StringLatin1", name := "canEncode", desc := "(C)Z" } : Jvm.MethodName) jdk_43_method_3_code (1 : Nat) (Option.some Jvm.ClassFile.FieldType.boolean)).before args0 about1 = true := code_word (m := ⟨14, 1⟩) (meth := k14m1) (c := k14c1) (by decide +kernel) rfl rfl rfl (by decide +kernel)
set_option maxRecDepth 65536 in
theorem w_c22 : (Jvm.Cond.code ({ cls := "java/lang/StringLatin1", name := "toBytes", desc := "(C)[B" } : Jvm.MethodName) jdk_43_method_46_code (1 : Nat) (Option.some (Jvm.ClassFile.FieldType.array Jvm.ClassFile.FieldType.byte))).before args0 about1 = true := code_word (m := ⟨14, 3⟩) (meth := k14m3) (c := k14c3) (by decide +kernel) rfl rfl rfl (by decide +kernel)
set_option maxRecDepth 65536 in
theorem w_c23 : (Jvm.Cond.code ({ cls := "java/lang/String", name := "<init>", desc := "([BB)V" } : Jvm.MethodName) jdk_42_method_151_code (3 : Nat) (Option.none : Option Jvm.ClassFile.FieldType)).before args0 about1 = true := code_word (m := ⟨7, 6⟩) (meth := k7m6) (c := k7c6) (by decide +kernel) rfl rfl rfl (by decide +kernel)
set_option maxRecDepth 65536 in
theorem w_c24 : (Jvm.Cond.code ({ cls := "java/util/Optional", name := "of", desc := "(Ljava/lang/Object;)Ljava/util/Optional;" } : Jvm.MethodName) jdk_32_method_3_code (1 : Nat) (Option.some (Jvm.ClassFile.FieldType.object "java/util/Optional"))).before args0 about1 = true := code_word (m := ⟨11, 2⟩) (meth := k11m2) (c := k11c2) (by decide +kernel) rfl rfl rfl (by decide +kernel)
set_option maxRecDepth 65536 in
theorem w_c25 : (Jvm.Cond.code ({ cls := "java/util/Optional", name := "<init>", desc := "(Ljava/lang/Object;)V" } : Jvm.MethodName) jdk_32_method_2_code (2 : Nat) (Option.none : Option Jvm.ClassFile.FieldType)).before args0 about1 = true := code_word (m := ⟨11, 1⟩) (meth := k11m1) (c := k11c1) (by decide +kernel) rfl rfl rfl (by decide +kernel)
set_option maxRecDepth 65536 in
theorem w_c26 : (Jvm.Cond.code ({ cls := "com/example/lease/lease/store/RedisAddress", name := "lambda$new$1", desc := "(Ljava/lang/String;)Z" } : Jvm.MethodName) prog_23_method_16_code (1 : Nat) (Option.some Jvm.ClassFile.FieldType.boolean)).before args0 about1 = true := code_word (m := ⟨10, 2⟩) (meth := k10m2) (c := k10c2) (by decide +kernel) rfl rfl rfl (by decide +kernel)
set_option maxRecDepth 65536 in
theorem w_c27 : (Jvm.Cond.code ({ cls := "com/example/lease/lease/store/RedisAddress", name := "lambda$new$0", desc := "(Ljava/lang/String;)Z" } : Jvm.MethodName) prog_23_method_17_code (1 : Nat) (Option.some Jvm.ClassFile.FieldType.boolean)).before args0 about1 = true := code_word (m := ⟨10, 3⟩) (meth := k10m3) (c := k10c3) (by decide +kernel) rfl rfl rfl (by decide +kernel)
set_option maxRecDepth 65536 in
theorem w_c28 : (Jvm.Cond.code ({ cls := "java/lang/String", name := "equals", desc := "(Ljava/lang/Object;)Z" } : Jvm.MethodName) jdk_42_method_66_code (3 : Nat) (Option.some Jvm.ClassFile.FieldType.boolean)).before args0 about1 = true := code_word (m := ⟨7, 3⟩) (meth := k7m3) (c := k7c3) (by decide +kernel) rfl rfl rfl (by decide +kernel)
set_option maxRecDepth 65536 in
theorem w_c29 : (Jvm.Cond.code ({ cls := "java/lang/StringLatin1", name := "equals", desc := "([B[B)Z" } : Jvm.MethodName) jdk_43_method_13_code (3 : Nat) (Option.some Jvm.ClassFile.FieldType.boolean)).before args0 about1 = true := code_word (m := ⟨14, 2⟩) (meth := k14m2) (c := k14c2) (by decide +kernel) rfl rfl rfl (by decide +kernel)
def codes1 : List Jvm.Cond := [Jvm.Cond.code x code maxLocals ret, Jvm.Cond.code ({ cls := "com/example/lease/lease/store/RedisAddressEqualsPinLaw", name := "mk", desc := "(ICC)Ljava/lang/String;" } : Jvm.MethodName) method_2_code (3 : Nat) (Option.some (Jvm.ClassFile.FieldType.object "java/lang/String")), Jvm.Cond.code ({ cls := "java/lang/String", name := "<init>", desc := "([C)V" } : Jvm.MethodName) jdk_42_method_3_code (2 : Nat) (Option.none : Option Jvm.ClassFile.FieldType), Jvm.Cond.code ({ cls := "java/lang/String", name := "<init>", desc := "([CIILjava/lang/Void;)V" } : Jvm.MethodName) jdk_42_method_149_code (6 : Nat) (Option.none : Option Jvm.ClassFile.FieldType), Jvm.Cond.code ({ cls := "java/lang/Object", name := "<init>", desc := "()V" } : Jvm.MethodName) object_method_1_code (1 : Nat) (Option.none : Option Jvm.ClassFile.FieldType), Jvm.Cond.code ({ cls := "java/lang/StringUTF16", name := "compress", desc := "([CII)[B" } : Jvm.MethodName) jdk_52_method_16_code (6 : Nat) (Option.some (Jvm.ClassFile.FieldType.array Jvm.ClassFile.FieldType.byte)), Jvm.Cond.code ({ cls := "java/lang/StringUTF16", name := "compress", desc := "([CI[BII)I" } : Jvm.MethodName) jdk_52_method_21_code (7 : Nat) (Option.some Jvm.ClassFile.FieldType.int), Jvm.Cond.code ({ cls := "java/lang/StringUTF16", name := "coderFromArrayLen", desc := "([BI)B" } : Jvm.MethodName) jdk_52_method_15_code (2 : Nat) (Option.some Jvm.ClassFile.FieldType.byte), Jvm.Cond.code ({ cls := "com/example/lease/lease/store/RedisAddressEqualsPinLaw", name := "user", desc := "(I)Ljava/util/Optional;" } : Jvm.MethodName) method_3_code (1 : Nat) (Option.some (Jvm.ClassFile.FieldType.object "java/util/Optional")), Jvm.Cond.code ({ cls := "java/util/Optional", name := "empty", desc := "()Ljava/util/Optional;" } : Jvm.MethodName) jdk_32_method_1_code (1 : Nat) (Option.some (Jvm.ClassFile.FieldType.object "java/util/Optional")), Jvm.Cond.code ({ cls := "com/example/lease/lease/store/RedisAddressEqualsPinLaw", name := "password", desc := "(I)Ljava/util/Optional;" } : Jvm.MethodName) method_4_code (1 : Nat) (Option.some (Jvm.ClassFile.FieldType.object "java/util/Optional")), Jvm.Cond.code ({ cls := "com/example/lease/lease/store/RedisAddress", name := "<init>", desc := "(Ljava/lang/String;IZLjava/util/Optional;Ljava/util/Optional;)V" } : Jvm.MethodName) prog_23_method_1_code (6 : Nat) (Option.none : Option Jvm.ClassFile.FieldType), Jvm.Cond.code ({ cls := "java/lang/Record", name := "<init>", desc := "()V" } : Jvm.MethodName) jdk_30_method_1_code (1 : Nat) (Option.none : Option Jvm.ClassFile.FieldType), Jvm.Cond.code ({ cls := "java/util/Objects", name := "requireNonNull", desc := "(Ljava/lang/Object;Ljava/lang/String;)Ljava/lang/Object;" } : Jvm.MethodName) jdk_31_method_11_code (2 : Nat) (Option.some (Jvm.ClassFile.FieldType.object "java/lang/Object")), Jvm.Cond.code ({ cls := "java/util/Optional", name := "filter", desc := "(Ljava/util/function/Predicate;)Ljava/util/Optional;" } : Jvm.MethodName) jdk_32_method_10_code (2 : Nat) (Option.some (Jvm.ClassFile.FieldType.object "java/util/Optional")), Jvm.Cond.code ({ cls := "java/util/Objects", name := "requireNonNull", desc := "(Ljava/lang/Object;)Ljava/lang/Object;" } : Jvm.MethodName) jdk_31_method_10_code (1 : Nat) (Option.some (Jvm.ClassFile.FieldType.object "java/lang/Object")), Jvm.Cond.code ({ cls := "java/util/Optional", name := "isEmpty", desc := "()Z" } : Jvm.MethodName) jdk_32_method_7_code (1 : Nat) (Option.some Jvm.ClassFile.FieldType.boolean), Jvm.Cond.code ({ cls := "java/lang/String", name := "isEmpty", desc := "()Z" } : Jvm.MethodName) jdk_42_method_55_code (1 : Nat) (Option.some Jvm.ClassFile.FieldType.boolean), Jvm.Cond.code ({ cls := "java/util/Optional", name := "isPresent", desc := "()Z" } : Jvm.MethodName) jdk_32_method_6_code (1 : Nat) (Option.some Jvm.ClassFile.FieldType.boolean), Jvm.Cond.code ({ cls := "com/example/lease/lease/store/RedisAddress", name := "equals", desc := "(Ljava/lang/Object;)Z" } : Jvm.MethodName) prog_23_method_5_code (3 : Nat) (Option.some Jvm.ClassFile.FieldType.boolean), Jvm.Cond.code ({ cls := "java/lang/String", name := "valueOf", desc := "(C)Ljava/lang/String;" } : Jvm.MethodName) jdk_42_method_139_code (1 : Nat) (Option.some (Jvm.ClassFile.FieldType.object "java/lang/String")), Jvm.Cond.code ({ cls := "java/lang/StringLatin1", name := "canEncode", desc := "(C)Z" } : Jvm.MethodName) jdk_43_method_3_code (1 : Nat) (Option.some Jvm.ClassFile.FieldType.boolean), Jvm.Cond.code ({ cls := "java/lang/StringLatin1", name := "toBytes", desc := "(C)[B" } : Jvm.MethodName) jdk_43_method_46_code (1 : Nat) (Option.some (Jvm.ClassFile.FieldType.array Jvm.ClassFile.FieldType.byte)), Jvm.Cond.code ({ cls := "java/lang/String", name := "<init>", desc := "([BB)V" } : Jvm.MethodName) jdk_42_method_151_code (3 : Nat) (Option.none : Option Jvm.ClassFile.FieldType), Jvm.Cond.code ({ cls := "java/util/Optional", name := "of", desc := "(Ljava/lang/Object;)Ljava/util/Optional;" } : Jvm.MethodName) jdk_32_method_3_code (1 : Nat) (Option.some (Jvm.ClassFile.FieldType.object "java/util/Optional")), Jvm.Cond.code ({ cls := "java/util/Optional", name := "<init>", desc := "(Ljava/lang/Object;)V" } : Jvm.MethodName) jdk_32_method_2_code (2 : Nat) (Option.none : Option Jvm.ClassFile.FieldType), Jvm.Cond.code ({ cls := "com/example/lease/lease/store/RedisAddress", name := "lambda$new$1", desc := "(Ljava/lang/String;)Z" } : Jvm.MethodName) prog_23_method_16_code (1 : Nat) (Option.some Jvm.ClassFile.FieldType.boolean), Jvm.Cond.code ({ cls := "com/example/lease/lease/store/RedisAddress", name := "lambda$new$0", desc := "(Ljava/lang/String;)Z" } : Jvm.MethodName) prog_23_method_17_code (1 : Nat) (Option.some Jvm.ClassFile.FieldType.boolean), Jvm.Cond.code ({ cls := "java/lang/String", name := "equals", desc := "(Ljava/lang/Object;)Z" } : Jvm.MethodName) jdk_42_method_66_code (3 : Nat) (Option.some Jvm.ClassFile.FieldType.boolean), Jvm.Cond.code ({ cls := "java/lang/StringLatin1", name := "equals", desc := "([B[B)Z" } : Jvm.MethodName) jdk_43_method_13_code (3 : Nat) (Option.some Jvm.ClassFile.FieldType.boolean)]
set_option maxRecDepth 65536 in
theorem codes_eq : words1.filter isCode = codes1 := rfl
theorem w_codes : ∀ c ∈ words1.filter isCode, c.before args0 about1 = true := by
  rw [codes_eq]
  intro c hc
  simp only [codes1, List.mem_cons, List.not_mem_nil, or_false] at hc
  rcases hc with rfl | rfl | rfl | rfl | rfl | rfl | rfl | rfl | rfl | rfl | rfl | rfl | rfl | rfl | rfl | rfl | rfl | rfl | rfl | rfl | rfl | rfl | rfl | rfl | rfl | rfl | rfl | rfl | rfl | rfl
  · exact w_c0
  · exact w_c1
  · exact w_c2
  · exact w_c3
  · exact w_c4
  · exact w_c5
  · exact w_c6
  · exact w_c7
  · exact w_c8
  · exact w_c9
  · exact w_c10
  · exact w_c11
  · exact w_c12
  · exact w_c13
  · exact w_c14
  · exact w_c15
  · exact w_c16
  · exact w_c17
  · exact w_c18
  · exact w_c19
  · exact w_c20
  · exact w_c21
  · exact w_c22
  · exact w_c23
  · exact w_c24
  · exact w_c25
  · exact w_c26
  · exact w_c27
  · exact w_c28
  · exact w_c29
set_option maxRecDepth 65536 in
theorem w_t1 : (words1.take 24).all (fun c => isCode c || c.before args0 about1) = true := by decide +kernel
set_option maxRecDepth 65536 in
theorem w_t2 : ((words1.drop 24).take 24).all (fun c => isCode c || c.before args0 about1) = true := by decide +kernel
set_option maxRecDepth 65536 in
theorem w_t3 : (((words1.drop 24).drop 24).take 24).all (fun c => isCode c || c.before args0 about1) = true := by decide +kernel
set_option maxRecDepth 65536 in
theorem w_t4 : ((((words1.drop 24).drop 24).drop 24).take 24).all (fun c => isCode c || c.before args0 about1) = true := by decide +kernel
set_option maxRecDepth 65536 in
theorem w_t5 : (((((words1.drop 24).drop 24).drop 24).drop 24).take 24).all (fun c => isCode c || c.before args0 about1) = true := by decide +kernel
set_option maxRecDepth 65536 in
theorem w_t6 : ((((((words1.drop 24).drop 24).drop 24).drop 24).drop 24).take 24).all (fun c => isCode c || c.before args0 about1) = true := by decide +kernel
set_option maxRecDepth 65536 in
theorem w_t7 : ((((((words1.drop 24).drop 24).drop 24).drop 24).drop 24).drop 24).all (fun c => isCode c || c.before args0 about1) = true := by decide +kernel
theorem w_tables : (allAtoms (Jvm.Cond.code x code maxLocals ret :: tables_1)).before args0 about1 = true := by
  rw [allAtoms_all]
  show words1.all (fun c => c.before args0 about1) = true
  refine all_split ?_ w_codes
  rw [← List.take_append_drop 24 words1, List.all_append, w_t1, ← List.take_append_drop 24 (words1.drop 24), List.all_append, w_t2, ← List.take_append_drop 24 ((words1.drop 24).drop 24), List.all_append, w_t3, ← List.take_append_drop 24 (((words1.drop 24).drop 24).drop 24), List.all_append, w_t4, ← List.take_append_drop 24 ((((words1.drop 24).drop 24).drop 24).drop 24), List.all_append, w_t5, ← List.take_append_drop 24 (((((words1.drop 24).drop 24).drop 24).drop 24).drop 24), List.all_append, w_t6, w_t7]
  rfl
set_option maxRecDepth 65536 in
theorem w_rest : rest_1_c.before args0 about1 = true := by decide +kernel
set_option maxRecDepth 65536 in
theorem w_case : (Jvm.Cond.and given_1 narrow_1).before args0 about1 = true := by decide +kernel
theorem w_applies : (headSpec (Jvm.Cond.code x code maxLocals ret :: tables_1) room_1).applies x e0.platform about1 = true :=
  (Spec.applies_iff w_frames).mpr ⟨w_running, w_runnable, w_alone, w_named, w_hears, w_ripe, w_room, w_tables⟩
theorem atStart : AtStart classFile x code maxLocals ret World_1 tables_1 room_1 Calls_1 rest_1 Pre_1 launch0 p0 e0 about1 theMethod args0 below0 :=
  ⟨lists_1, trivial, launch0.admits_env _ _ _, launch0.least_env, fairChoices_fair.cas, fairChoices_fair.clock, w_frames, w_args, w_heap, w_applies, trivial, w_rest, w_case⟩
end start1
theorem witness_1 : WitnessClaimed_1 := ⟨start1.p0, start1.e0, start1.about1, start1.theMethod, start1.args0, start1.below0, start1.atStart⟩
end Jvm.Pilot.@@N@@
