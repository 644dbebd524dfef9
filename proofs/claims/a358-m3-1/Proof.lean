import JvmDerived
import JvmDerived.Pilot.@@N@@Statement
import JvmDerived.Pilot.@@N@@Code
set_option linter.unusedVariables false
set_option linter.unusedSimpArgs false
namespace Jvm.Pilot.@@N@@
open Jvm Jvm.ClassFile Sem Op Lib Jvm.Free Jvm.Stand Jvm.LawKit Jvm.RoadKit Bundle Jvm.Pilot.@@N@@.Jvm.D
section Core
variable {p : Program} {l : Launch} {e : Env} {R : Room} {s : State} {m : MethodId} {args : Array Value} {below : List Frame} {meth : Method} {c : Code} {T T' : State} {locs : List Loc} {cells slots : Nat} {Q : Option Value → Heap → List Loc → Prop} {En : Outcome → State → List Loc → Prop} {kc ks : Nat} {Z : State} {a0 : Array Value} {h : Heap} {Ls : Array Slot} {st rest : List Value} {pc pc' : Nat}
def ushrI (x y : Int32) : Int32 := (x.toUInt32 >>> (y &&& 31).toUInt32).toInt32
def ushrJ (x : Int64) (y : Int32) : Int64 := (x.toUInt64 >>> (y &&& 0x3f).toInt64.toUInt64).toInt64
def cmpJ (x y : Int64) : Int32 := if x > y then 1 else if x = y then 0 else -1
def Run (p : Program) (e : Env) (below : List Frame) (Q : Option Value → Heap → List Loc → Prop) (En : Outcome → State → List Loc → Prop) (T : State) (g : JFrame) : Prop :=
  ∃ s₂ o, Steps p.tables e below (T.setTop g) s₂ ∧ s₂.status = .running ∧ Ended s₂ below o ∧ ∃ v L, o = .returned v ∧ Q v s₂.heap L ∧ En o s₂ L
theorem Run.on {g g' : JFrame} (r : Run p e below Q En T' g') (q : ∀ t, Steps p.tables e below (T'.setTop g') t → Steps p.tables e below (T.setTop g) t) : Run p e below Q En T g := by
  obtain ⟨s₂, o, h1, r⟩ := r
  exact ⟨s₂, o, q _ h1, r⟩
theorem Run.cast {g g' : JFrame} (q : g = g') (r : Run p e below Q En T g') : Run p e below Q En T g := q ▸ r
abbrev Met (l : Launch) (Z : State) (y : MethodName) (bytes : ByteArray) (maxL : Nat) (ret : Option FieldType) (ws : List Jvm.Cond) (rm : Room) (as' : Array Value) (h0 : Heap) (Q : Option Value → Heap → List Loc → Prop) (kc ks : Nat) : Prop :=
  MetFree l y (head1 (Jvm.Cond.code y bytes maxL ret :: ws) rm) (fun a U => a = as' ∧ Z.Warmed39 U.vm ∧ U.heap = h0) (fun _ _ _ _ _ => True) (fun _ U o U' => ∃ v L, o = .returned v ∧ Q v U'.heap L ∧ FrameEnd U o U' L kc ks)
theorem met_of {y : MethodName} {bytes : ByteArray} {maxL : Nat} {ret : Option FieldType} {ws : List Jvm.Cond} {rm : Room} {as' : Array Value} {h0 : Heap} {Q : Option Value → Heap → List Loc → Prop} {kc ks : Nat} {f0 : MethodId → JFrame} (hpn : plainFor y = true)
    (hef : ∀ m, entryFrame m as' maxL = f0 m)
    (body : ∀ (p : Program) (e : Env) (s : State) (m : MethodId) (below : List Frame) (meth : Method) (c : Code) (s₁ : State), Stand p l e rm s m as' below meth c s₁ [] 0 0 → p.tables.exec = Jvm.exec → c.code = bytes → c.maxLocals = maxL → meth.sig.returnType = ret → meth.locks = false → s.vm.findClass y.cls = some m.cls → meth.name = y.name → Z.Warmed39 s.vm → s₁.heap = h0 → Run p e below Q (fun o t L => FrameEnd s o t L kc ks) s₁ (f0 m)) :
    Met l Z y bytes maxL ret ws rm as' h0 Q kc ks := by
  refine MetFree.of_bodySF (code := bytes) (maxLocals := maxL) (ret := ret) hpn hisR ?_
  intro p e s m args below meth c s₁ Bd hml0 hP hK
  obtain ⟨rfl, hZ, hh⟩ := hP
  obtain ⟨s₂, o, r⟩ := body p e s m below meth c s₁ (Stand.of_body Bd) Bd.exec Bd.bytes hml0 Bd.returns (BodyLoose.notSynchronized Bd) (findClass_of_methodNamed Bd.named) (name_of_methodNamed Bd.named Bd.method).1 hZ (by rw [← hh, Bd.state]; rfl)
  rw [hef m]
  exact ⟨s₂, o, r⟩
theorem r_aloadN (at_ : At T m c below) (hx : p.tables.exec = Jvm.exec) {k : Fin 4} {v : Value} (hd : decode c.code pc = .ok (.aload_n k, 1)) (hl : Ls[k.val]? = some (.val v)) (hv : v.isRef = true) (hp : pc + 1 = pc') (r : Run p e below Q En T (mkF m pc' Ls (v :: rest))) : Run p e below Q En T (mkF m pc Ls (rest)) := by
  subst hp; exact r.on fun _ q => XS.aloadN at_ hx rfl hd hl hv q
theorem r_aload (at_ : At T m c below) (hx : p.tables.exec = Jvm.exec) {k : Nat} {v : Value} (hd : decode c.code pc = .ok (.aload k, 2)) (hl : Ls[k]? = some (.val v)) (hv : v.isRef = true) (hp : pc + 2 = pc') (r : Run p e below Q En T (mkF m pc' Ls (v :: rest))) : Run p e below Q En T (mkF m pc Ls (rest)) := by
  subst hp; exact r.on fun _ q => XS.aload at_ hx rfl hd hl hv q
theorem r_iloadN (at_ : At T m c below) (hx : p.tables.exec = Jvm.exec) {k : Fin 4} {v : Int32} (hd : decode c.code pc = .ok (.iload_n k, 1)) (hl : Ls[k.val]? = some (.val (.int v))) (hp : pc + 1 = pc') (r : Run p e below Q En T (mkF m pc' Ls (.int v :: rest))) : Run p e below Q En T (mkF m pc Ls (rest)) := by
  subst hp; exact r.on fun _ q => XS.iloadN at_ hx rfl hd hl q
theorem r_iload (at_ : At T m c below) (hx : p.tables.exec = Jvm.exec) {k : Nat} {v : Int32} (hd : decode c.code pc = .ok (.iload k, 2)) (hl : Ls[k]? = some (.val (.int v))) (hp : pc + 2 = pc') (r : Run p e below Q En T (mkF m pc' Ls (.int v :: rest))) : Run p e below Q En T (mkF m pc Ls (rest)) := by
  subst hp; exact r.on fun _ q => XS.iload at_ hx rfl hd hl q
theorem r_lloadN (at_ : At T m c below) (hx : p.tables.exec = Jvm.exec) {k : Fin 4} {v : Int64} (hd : decode c.code pc = .ok (.lload_n k, 1)) (hl : Ls[k.val]? = some (.val (.long v))) (hp : pc + 1 = pc') (r : Run p e below Q En T (mkF m pc' Ls (.long v :: rest))) : Run p e below Q En T (mkF m pc Ls (rest)) := by
  subst hp; exact r.on fun _ q => XS.lloadN at_ hx rfl hd hl q
theorem r_lload (at_ : At T m c below) (hx : p.tables.exec = Jvm.exec) {k : Nat} {v : Int64} (hd : decode c.code pc = .ok (.lload k, 2)) (hl : Ls[k]? = some (.val (.long v))) (hp : pc + 2 = pc') (r : Run p e below Q En T (mkF m pc' Ls (.long v :: rest))) : Run p e below Q En T (mkF m pc Ls (rest)) := by
  subst hp; exact r.on fun _ q => XS.lload at_ hx rfl hd hl q
theorem r_istoreN (at_ : At T m c below) (hx : p.tables.exec = Jvm.exec) {k : Fin 4} {x : Int32} {l' : Array Slot} (hd : decode c.code pc = .ok (.istore_n k, 1)) (hl : storeLocals Ls k.val (.int x) = some l') (hp : pc + 1 = pc') (r : Run p e below Q En T (mkF m pc' l' (rest))) : Run p e below Q En T (mkF m pc Ls (.int x :: rest)) := by
  subst hp; exact r.on fun _ q => XS.istoreN at_ hx rfl hd rfl hl q
theorem r_istore (at_ : At T m c below) (hx : p.tables.exec = Jvm.exec) {k : Nat} {x : Int32} {l' : Array Slot} (hd : decode c.code pc = .ok (.istore k, 2)) (hl : storeLocals Ls k (.int x) = some l') (hp : pc + 2 = pc') (r : Run p e below Q En T (mkF m pc' l' (rest))) : Run p e below Q En T (mkF m pc Ls (.int x :: rest)) := by
  subst hp; exact r.on fun _ q => XS.istore at_ hx rfl hd rfl hl q
theorem r_lstoreN (at_ : At T m c below) (hx : p.tables.exec = Jvm.exec) {k : Fin 4} {x : Int64} {l' : Array Slot} (hd : decode c.code pc = .ok (.lstore_n k, 1)) (hl : storeLocals Ls k.val (.long x) = some l') (hp : pc + 1 = pc') (r : Run p e below Q En T (mkF m pc' l' (rest))) : Run p e below Q En T (mkF m pc Ls (.long x :: rest)) := by
  subst hp; exact r.on fun _ q => XS.lstoreN at_ hx rfl hd rfl hl q
theorem r_lstore (at_ : At T m c below) (hx : p.tables.exec = Jvm.exec) {k : Nat} {x : Int64} {l' : Array Slot} (hd : decode c.code pc = .ok (.lstore k, 2)) (hl : storeLocals Ls k (.long x) = some l') (hp : pc + 2 = pc') (r : Run p e below Q En T (mkF m pc' l' (rest))) : Run p e below Q En T (mkF m pc Ls (.long x :: rest)) := by
  subst hp; exact r.on fun _ q => XS.lstore at_ hx rfl hd rfl hl q
theorem r_astoreN (at_ : At T m c below) (hx : p.tables.exec = Jvm.exec) {k : Fin 4} {x : Value} {l' : Array Slot} (hd : decode c.code pc = .ok (.astore_n k, 1)) (hv : x.isRef = true) (hl : storeLocals Ls k.val x = some l') (hp : pc + 1 = pc') (r : Run p e below Q En T (mkF m pc' l' (rest))) : Run p e below Q En T (mkF m pc Ls (x :: rest)) := by
  subst hp; exact r.on fun _ q => XS.astoreN at_ hx rfl hd rfl hv hl q
theorem r_astore (at_ : At T m c below) (hx : p.tables.exec = Jvm.exec) {k : Nat} {x : Value} {l' : Array Slot} (hd : decode c.code pc = .ok (.astore k, 2)) (hv : x.isRef = true) (hl : storeLocals Ls k x = some l') (hp : pc + 2 = pc') (r : Run p e below Q En T (mkF m pc' l' (rest))) : Run p e below Q En T (mkF m pc Ls (x :: rest)) := by
  subst hp; exact r.on fun _ q => XS.astore at_ hx rfl hd rfl hv hl q
theorem r_iconst (at_ : At T m c below) (hx : p.tables.exec = Jvm.exec) {i : Int} {v : Int32} (hd : decode c.code pc = .ok (.iconst i, 1)) (hv : Int32.ofInt i = v) (hp : pc + 1 = pc') (r : Run p e below Q En T (mkF m pc' Ls (.int v :: rest))) : Run p e below Q En T (mkF m pc Ls rest) := by
  subst hp hv; exact r.on fun _ q => XS.iconst at_ hx rfl hd q
theorem r_bipush (at_ : At T m c below) (hx : p.tables.exec = Jvm.exec) {i : Int} {v : Int32} (hd : decode c.code pc = .ok (.bipush i, 2)) (hv : (Int8.ofInt i).toInt32 = v) (hp : pc + 2 = pc') (r : Run p e below Q En T (mkF m pc' Ls (.int v :: rest))) : Run p e below Q En T (mkF m pc Ls rest) := by
  subst hp hv; exact r.on fun _ q => XS.bipush at_ hx rfl hd q
theorem r_sipush (at_ : At T m c below) (hx : p.tables.exec = Jvm.exec) {i : Int} {v : Int32} (hd : decode c.code pc = .ok (.sipush i, 3)) (hv : (Int16.ofInt i).toInt32 = v) (hp : pc + 3 = pc') (r : Run p e below Q En T (mkF m pc' Ls (.int v :: rest))) : Run p e below Q En T (mkF m pc Ls rest) := by
  subst hp hv; exact r.on fun _ q => XS.sipush at_ hx rfl hd q
theorem r_lconst (at_ : At T m c below) (hx : p.tables.exec = Jvm.exec) {k : Fin 2} {v : Int64} (hd : decode c.code pc = .ok (.lconst k, 1)) (hv : Int64.ofNat k = v) (hp : pc + 1 = pc') (r : Run p e below Q En T (mkF m pc' Ls (.long v :: rest))) : Run p e below Q En T (mkF m pc Ls rest) := by
  subst hp hv; exact r.on fun _ q => XS.lconst at_ hx rfl hd q
theorem r_aconst_null (at_ : At T m c below) (hx : p.tables.exec = Jvm.exec)  (hd : decode c.code pc = .ok (.aconst_null, 1))  (hp : pc + 1 = pc') (r : Run p e below Q En T (mkF m pc' Ls (.null :: rest))) : Run p e below Q En T (mkF m pc Ls (rest)) := by
  subst hp; exact r.on fun _ q => XS.aconstNull at_ hx rfl hd  q
theorem r_iadd (at_ : At T m c below) (hx : p.tables.exec = Jvm.exec) {x y : Int32} (hd : decode c.code pc = .ok (.iadd, 1))  (hp : pc + 1 = pc') (r : Run p e below Q En T (mkF m pc' Ls (.int (x + y) :: rest))) : Run p e below Q En T (mkF m pc Ls (.int y :: .int x :: rest)) := by
  subst hp; exact r.on fun _ q => XS.iadd at_ hx rfl hd rfl q
theorem r_isub (at_ : At T m c below) (hx : p.tables.exec = Jvm.exec) {x y : Int32} (hd : decode c.code pc = .ok (.isub, 1))  (hp : pc + 1 = pc') (r : Run p e below Q En T (mkF m pc' Ls (.int (x - y) :: rest))) : Run p e below Q En T (mkF m pc Ls (.int y :: .int x :: rest)) := by
  subst hp; exact r.on fun _ q => XS.isub at_ hx rfl hd rfl q
theorem r_imul (at_ : At T m c below) (hx : p.tables.exec = Jvm.exec) {x y : Int32} (hd : decode c.code pc = .ok (.imul, 1))  (hp : pc + 1 = pc') (r : Run p e below Q En T (mkF m pc' Ls (.int (x * y) :: rest))) : Run p e below Q En T (mkF m pc Ls (.int y :: .int x :: rest)) := by
  subst hp; exact r.on fun _ q => XS.imul at_ hx rfl hd rfl q
theorem r_iand (at_ : At T m c below) (hx : p.tables.exec = Jvm.exec) {x y : Int32} (hd : decode c.code pc = .ok (.iand, 1))  (hp : pc + 1 = pc') (r : Run p e below Q En T (mkF m pc' Ls (.int (x &&& y) :: rest))) : Run p e below Q En T (mkF m pc Ls (.int y :: .int x :: rest)) := by
  subst hp; exact r.on fun _ q => XS.iand at_ hx rfl hd rfl q
theorem r_ior (at_ : At T m c below) (hx : p.tables.exec = Jvm.exec) {x y : Int32} (hd : decode c.code pc = .ok (.ior, 1))  (hp : pc + 1 = pc') (r : Run p e below Q En T (mkF m pc' Ls (.int (x ||| y) :: rest))) : Run p e below Q En T (mkF m pc Ls (.int y :: .int x :: rest)) := by
  subst hp; exact r.on fun _ q => XS.ior at_ hx rfl hd rfl q
theorem r_ixor (at_ : At T m c below) (hx : p.tables.exec = Jvm.exec) {x y : Int32} (hd : decode c.code pc = .ok (.ixor, 1))  (hp : pc + 1 = pc') (r : Run p e below Q En T (mkF m pc' Ls (.int (x ^^^ y) :: rest))) : Run p e below Q En T (mkF m pc Ls (.int y :: .int x :: rest)) := by
  subst hp; exact r.on fun _ q => XS.ixor at_ hx rfl hd rfl q
theorem r_ladd (at_ : At T m c below) (hx : p.tables.exec = Jvm.exec) {x y : Int64} (hd : decode c.code pc = .ok (.ladd, 1))  (hp : pc + 1 = pc') (r : Run p e below Q En T (mkF m pc' Ls (.long (x + y) :: rest))) : Run p e below Q En T (mkF m pc Ls (.long y :: .long x :: rest)) := by
  subst hp; exact r.on fun _ q => XS.ladd at_ hx rfl hd rfl q
theorem r_lsub (at_ : At T m c below) (hx : p.tables.exec = Jvm.exec) {x y : Int64} (hd : decode c.code pc = .ok (.lsub, 1))  (hp : pc + 1 = pc') (r : Run p e below Q En T (mkF m pc' Ls (.long (x - y) :: rest))) : Run p e below Q En T (mkF m pc Ls (.long y :: .long x :: rest)) := by
  subst hp; exact r.on fun _ q => XS.lsub at_ hx rfl hd rfl q
theorem r_lmul (at_ : At T m c below) (hx : p.tables.exec = Jvm.exec) {x y : Int64} (hd : decode c.code pc = .ok (.lmul, 1))  (hp : pc + 1 = pc') (r : Run p e below Q En T (mkF m pc' Ls (.long (x * y) :: rest))) : Run p e below Q En T (mkF m pc Ls (.long y :: .long x :: rest)) := by
  subst hp; exact r.on fun _ q => XS.lmul at_ hx rfl hd rfl q
theorem r_land (at_ : At T m c below) (hx : p.tables.exec = Jvm.exec) {x y : Int64} (hd : decode c.code pc = .ok (.land, 1))  (hp : pc + 1 = pc') (r : Run p e below Q En T (mkF m pc' Ls (.long (x &&& y) :: rest))) : Run p e below Q En T (mkF m pc Ls (.long y :: .long x :: rest)) := by
  subst hp; exact r.on fun _ q => XS.land at_ hx rfl hd rfl q
theorem r_lor (at_ : At T m c below) (hx : p.tables.exec = Jvm.exec) {x y : Int64} (hd : decode c.code pc = .ok (.lor, 1))  (hp : pc + 1 = pc') (r : Run p e below Q En T (mkF m pc' Ls (.long (x ||| y) :: rest))) : Run p e below Q En T (mkF m pc Ls (.long y :: .long x :: rest)) := by
  subst hp; exact r.on fun _ q => XS.lor at_ hx rfl hd rfl q
theorem r_lxor (at_ : At T m c below) (hx : p.tables.exec = Jvm.exec) {x y : Int64} (hd : decode c.code pc = .ok (.lxor, 1))  (hp : pc + 1 = pc') (r : Run p e below Q En T (mkF m pc' Ls (.long (x ^^^ y) :: rest))) : Run p e below Q En T (mkF m pc Ls (.long y :: .long x :: rest)) := by
  subst hp; exact r.on fun _ q => XS.lxor at_ hx rfl hd rfl q
theorem r_ineg (at_ : At T m c below) (hx : p.tables.exec = Jvm.exec) {x : Int32} (hd : decode c.code pc = .ok (.ineg, 1))  (hp : pc + 1 = pc') (r : Run p e below Q En T (mkF m pc' Ls (.int (-x) :: rest))) : Run p e below Q En T (mkF m pc Ls (.int x :: rest)) := by
  subst hp; exact r.on fun _ q => XS.ineg at_ hx rfl hd rfl q
theorem r_lneg (at_ : At T m c below) (hx : p.tables.exec = Jvm.exec) {x : Int64} (hd : decode c.code pc = .ok (.lneg, 1))  (hp : pc + 1 = pc') (r : Run p e below Q En T (mkF m pc' Ls (.long (-x) :: rest))) : Run p e below Q En T (mkF m pc Ls (.long x :: rest)) := by
  subst hp; exact r.on fun _ q => XS.lneg at_ hx rfl hd rfl q
theorem r_ishl (at_ : At T m c below) (hx : p.tables.exec = Jvm.exec) {x y : Int32} (hd : decode c.code pc = .ok (.ishl, 1))  (hp : pc + 1 = pc') (r : Run p e below Q En T (mkF m pc' Ls (.int (x <<< (y &&& 31)) :: rest))) : Run p e below Q En T (mkF m pc Ls (.int y :: .int x :: rest)) := by
  subst hp; exact r.on fun _ q => XS.ishl at_ hx rfl hd rfl q
theorem r_ishr (at_ : At T m c below) (hx : p.tables.exec = Jvm.exec) {x y : Int32} (hd : decode c.code pc = .ok (.ishr, 1))  (hp : pc + 1 = pc') (r : Run p e below Q En T (mkF m pc' Ls (.int (x >>> (y &&& 31)) :: rest))) : Run p e below Q En T (mkF m pc Ls (.int y :: .int x :: rest)) := by
  subst hp; exact r.on fun _ q => XS.ishr at_ hx rfl hd rfl q
theorem r_iushr (at_ : At T m c below) (hx : p.tables.exec = Jvm.exec) {x y : Int32} (hd : decode c.code pc = .ok (.iushr, 1))  (hp : pc + 1 = pc') (r : Run p e below Q En T (mkF m pc' Ls (.int (ushrI x y) :: rest))) : Run p e below Q En T (mkF m pc Ls (.int y :: .int x :: rest)) := by
  subst hp; exact r.on fun _ q => XS.iushr at_ hx rfl hd rfl q
theorem r_lshl (at_ : At T m c below) (hx : p.tables.exec = Jvm.exec) {x : Int64} {y : Int32} (hd : decode c.code pc = .ok (.lshl, 1))  (hp : pc + 1 = pc') (r : Run p e below Q En T (mkF m pc' Ls (.long (x <<< (y &&& 63).toInt64) :: rest))) : Run p e below Q En T (mkF m pc Ls (.int y :: .long x :: rest)) := by
  subst hp; exact r.on fun _ q => XS.lshl at_ hx rfl hd rfl q
theorem r_lshr (at_ : At T m c below) (hx : p.tables.exec = Jvm.exec) {x : Int64} {y : Int32} (hd : decode c.code pc = .ok (.lshr, 1))  (hp : pc + 1 = pc') (r : Run p e below Q En T (mkF m pc' Ls (.long (x >>> (y &&& 63).toInt64) :: rest))) : Run p e below Q En T (mkF m pc Ls (.int y :: .long x :: rest)) := by
  subst hp; exact r.on fun _ q => XS.lshr at_ hx rfl hd rfl q
theorem r_lushr (at_ : At T m c below) (hx : p.tables.exec = Jvm.exec) {x : Int64} {y : Int32} (hd : decode c.code pc = .ok (.lushr, 1))  (hp : pc + 1 = pc') (r : Run p e below Q En T (mkF m pc' Ls (.long (ushrJ x y) :: rest))) : Run p e below Q En T (mkF m pc Ls (.int y :: .long x :: rest)) := by
  subst hp; exact r.on fun _ q => XS.lushr at_ hx rfl hd rfl q
theorem r_idiv (at_ : At T m c below) (hx : p.tables.exec = Jvm.exec) {x y : Int32} (hd : decode c.code pc = .ok (.idiv, 1)) (hy : y ≠ 0) (hp : pc + 1 = pc') (r : Run p e below Q En T (mkF m pc' Ls (.int (x / y) :: rest))) : Run p e below Q En T (mkF m pc Ls (.int y :: .int x :: rest)) := by
  subst hp; exact r.on fun _ q => XS.idiv at_ hx rfl hd rfl hy q
theorem r_irem0 (at_ : At T m c below) (hx : p.tables.exec = Jvm.exec) {x y : Int32} (hd : decode c.code pc = .ok (.irem, 1)) (hy : y ≠ 0) (hp : pc + 1 = pc') (r : Run p e below Q En T (mkF m pc' Ls (.int (x - (x / y) * y) :: rest))) : Run p e below Q En T (mkF m pc Ls (.int y :: .int x :: rest)) := by
  subst hp; exact r.on fun _ q => XS.irem at_ hx rfl hd rfl hy q
theorem r_ldiv (at_ : At T m c below) (hx : p.tables.exec = Jvm.exec) {x y : Int64} (hd : decode c.code pc = .ok (.ldiv, 1)) (hy : y ≠ 0) (hp : pc + 1 = pc') (r : Run p e below Q En T (mkF m pc' Ls (.long (x / y) :: rest))) : Run p e below Q En T (mkF m pc Ls (.long y :: .long x :: rest)) := by
  subst hp; exact r.on fun _ q => XS.ldiv at_ hx rfl hd rfl hy q
theorem r_lrem0 (at_ : At T m c below) (hx : p.tables.exec = Jvm.exec) {x y : Int64} (hd : decode c.code pc = .ok (.lrem, 1)) (hy : y ≠ 0) (hp : pc + 1 = pc') (r : Run p e below Q En T (mkF m pc' Ls (.long (x - (x / y) * y) :: rest))) : Run p e below Q En T (mkF m pc Ls (.long y :: .long x :: rest)) := by
  subst hp; exact r.on fun _ q => XS.lrem at_ hx rfl hd rfl hy q
theorem r_irem (at_ : At T m c below) (hx : p.tables.exec = Jvm.exec) {x y : Int32} (hd : decode c.code pc = .ok (.irem, 1)) (hy : y ≠ 0) (hp : pc + 1 = pc') (r : Run p e below Q En T (mkF m pc' Ls (.int (x % y) :: rest))) : Run p e below Q En T (mkF m pc Ls (.int y :: .int x :: rest)) :=
  r_irem0 at_ hx hd hy hp (by rw [show x - x / y * y = x % y from irem_eq_mod x y]; exact r)
theorem r_i2l (at_ : At T m c below) (hx : p.tables.exec = Jvm.exec) {x : Int32} (hd : decode c.code pc = .ok (.i2l, 1))  (hp : pc + 1 = pc') (r : Run p e below Q En T (mkF m pc' Ls (.long (x.toInt64) :: rest))) : Run p e below Q En T (mkF m pc Ls (.int x :: rest)) := by
  subst hp; exact r.on fun _ q => XS.i2l at_ hx rfl hd rfl q
theorem r_l2i (at_ : At T m c below) (hx : p.tables.exec = Jvm.exec) {x : Int64} (hd : decode c.code pc = .ok (.l2i, 1))  (hp : pc + 1 = pc') (r : Run p e below Q En T (mkF m pc' Ls (.int (x.toInt32) :: rest))) : Run p e below Q En T (mkF m pc Ls (.long x :: rest)) := by
  subst hp; exact r.on fun _ q => XS.l2i at_ hx rfl hd rfl q
theorem r_i2b (at_ : At T m c below) (hx : p.tables.exec = Jvm.exec) {x : Int32} (hd : decode c.code pc = .ok (.i2b, 1))  (hp : pc + 1 = pc') (r : Run p e below Q En T (mkF m pc' Ls (.int (x.toInt8.toInt32) :: rest))) : Run p e below Q En T (mkF m pc Ls (.int x :: rest)) := by
  subst hp; exact r.on fun _ q => XS.i2b at_ hx rfl hd rfl q
theorem r_i2c (at_ : At T m c below) (hx : p.tables.exec = Jvm.exec) {x : Int32} (hd : decode c.code pc = .ok (.i2c, 1))  (hp : pc + 1 = pc') (r : Run p e below Q En T (mkF m pc' Ls (.int (x.toUInt32.toUInt16.toUInt32.toInt32) :: rest))) : Run p e below Q En T (mkF m pc Ls (.int x :: rest)) := by
  subst hp; exact r.on fun _ q => XS.i2c at_ hx rfl hd rfl q
theorem r_i2s (at_ : At T m c below) (hx : p.tables.exec = Jvm.exec) {x : Int32} (hd : decode c.code pc = .ok (.i2s, 1))  (hp : pc + 1 = pc') (r : Run p e below Q En T (mkF m pc' Ls (.int (x.toInt16.toInt32) :: rest))) : Run p e below Q En T (mkF m pc Ls (.int x :: rest)) := by
  subst hp; exact r.on fun _ q => XS.i2s at_ hx rfl hd rfl q
theorem r_dup (at_ : At T m c below) (hx : p.tables.exec = Jvm.exec) {x : Value} (hd : decode c.code pc = .ok (.dup, 1)) (hc : x.category = 1) (hp : pc + 1 = pc') (r : Run p e below Q En T (mkF m pc' Ls (x :: x :: rest))) : Run p e below Q En T (mkF m pc Ls (x :: rest)) := by
  subst hp; exact r.on fun _ q => XS.dup at_ hx rfl hd rfl hc q
theorem r_pop (at_ : At T m c below) (hx : p.tables.exec = Jvm.exec) {x : Value} (hd : decode c.code pc = .ok (.pop, 1)) (hc : x.category = 1) (hp : pc + 1 = pc') (r : Run p e below Q En T (mkF m pc' Ls (rest))) : Run p e below Q En T (mkF m pc Ls (x :: rest)) := by
  subst hp; exact r.on fun _ q => XS.pop at_ hx rfl hd rfl hc q
theorem r_dup_x1 (at_ : At T m c below) (hx : p.tables.exec = Jvm.exec) {x y : Value} (hd : decode c.code pc = .ok (.dup_x1, 1)) (hc : x.category = 1) (hc' : y.category = 1) (hp : pc + 1 = pc') (r : Run p e below Q En T (mkF m pc' Ls (x :: y :: x :: rest))) : Run p e below Q En T (mkF m pc Ls (x :: y :: rest)) := by
  subst hp; exact r.on fun _ q => XS.dupX1 at_ hx rfl hd rfl hc hc' q
theorem r_dup2 (at_ : At T m c below) (hx : p.tables.exec = Jvm.exec) {x y : Value} (hd : decode c.code pc = .ok (.dup2, 1)) (hc : x.category = 1) (hc' : y.category = 1) (hp : pc + 1 = pc') (r : Run p e below Q En T (mkF m pc' Ls (x :: y :: x :: y :: rest))) : Run p e below Q En T (mkF m pc Ls (x :: y :: rest)) := by
  subst hp; exact r.on fun _ q => XT.dup2 at_ hx rfl hd rfl hc hc' q
theorem r_dup2L (at_ : At T m c below) (hx : p.tables.exec = Jvm.exec) {x : Int64} (hd : decode c.code pc = .ok (.dup2, 1))  (hp : pc + 1 = pc') (r : Run p e below Q En T (mkF m pc' Ls (.long x :: .long x :: rest))) : Run p e below Q En T (mkF m pc Ls (.long x :: rest)) := by
  subst hp; exact r.on fun _ q => XT.dup2L at_ hx rfl hd rfl q
theorem r_lcmp (at_ : At T m c below) (hx : p.tables.exec = Jvm.exec) {x y : Int64} (hd : decode c.code pc = .ok (.lcmp, 1))  (hp : pc + 1 = pc') (r : Run p e below Q En T (mkF m pc' Ls (.int (cmpJ x y) :: rest))) : Run p e below Q En T (mkF m pc Ls (.long y :: .long x :: rest)) := by
  subst hp; exact r.on fun _ q => XS.lcmp at_ hx rfl hd rfl q
theorem r_iinc (at_ : At T m c below) (hx : p.tables.exec = Jvm.exec) {k : Nat} {cst : Int} {x z : Int32} {l' : Array Slot} (hd : decode c.code pc = .ok (.iinc k cst, 3)) (hl : Ls[k]? = some (.val (.int x))) (hz : x + Int32.ofInt cst = z) (hl' : storeLocals Ls k (.int z) = some l') (hp : pc + 3 = pc') (r : Run p e below Q En T (mkF m pc' l' rest)) : Run p e below Q En T (mkF m pc Ls rest) := by
  subst hp hz; exact r.on fun _ q => XS.iinc at_ hx rfl hd hl hl' q
theorem r_goto (at_ : At T m c below) (hx : p.tables.exec = Jvm.exec) {o : Int} (hd : decode c.code pc = .ok (.goto o, 3)) (ho : 0 ≤ (pc : Int) + o) (hp : ((pc : Int) + o).toNat = pc') (r : Run p e below Q En T (mkF m pc' Ls rest)) : Run p e below Q En T (mkF m pc Ls rest) :=
  r.on fun _ q => XS.goto at_ hx rfl (pc0 := pc) rfl hd ho hp q
theorem cmpJ_c (x y : Int64) : (y.toInt < x.toInt ∧ cmpJ x y = 1) ∨ (x = y ∧ cmpJ x y = 0) ∨ (x.toInt < y.toInt ∧ cmpJ x y = -1) := by
  unfold cmpJ
  by_cases h1 : x > y
  · left; rw [if_pos h1]; exact ⟨Int64.lt_iff_toInt_lt.mp h1, rfl⟩
  · rw [if_neg h1]
    by_cases h2 : x = y
    · right; left; rw [if_pos h2]; exact ⟨h2, rfl⟩
    · right; right; rw [if_neg h2]
      have h3 : ¬ y.toInt < x.toInt := fun q => h1 (Int64.lt_iff_toInt_lt.mpr q)
      have h4 : ¬ x.toInt = y.toInt := fun q => h2 (Int64.toInt_inj.mp q)
      exact ⟨by omega, rfl⟩
theorem h_eq (x y : Int32) : if_icmp.holds .eq x y = decide (x = y) := by by_cases q : x = y <;> simp [if_icmp.holds, q]
theorem h0_eq (x : Int32) : ifCond.holds .eq x = decide (x = (0 : Int32)) := h_eq x 0
theorem r_if_eq (at_ : At T m c below) (hx : p.tables.exec = Jvm.exec) {o : Int} {x y : Int32} {pc2 : Nat} (hd : decode c.code pc = .ok (.if_icmp .eq o, 3)) (ho : 0 ≤ (pc : Int) + o) (hp : ((pc : Int) + o).toNat = pc') (hp2 : pc + 3 = pc2) (r1 : x = y → Run p e below Q En T (mkF m pc' Ls rest)) (r2 : ¬ (x = y) → Run p e below Q En T (mkF m pc2 Ls rest)) : Run p e below Q En T (mkF m pc Ls (.int y :: .int x :: rest)) := by
  subst hp2
  by_cases hc : x = y
  · exact (r1 hc).on fun _ q => XS.icmpYes at_ hx rfl (pc0 := pc) rfl hd rfl (by rw [h_eq]; exact decide_eq_true hc) ho hp q
  · exact (r2 hc).on fun _ q => XS.icmpNo at_ hx rfl hd rfl (by rw [h_eq]; exact decide_eq_false hc) q
theorem r_if0_eq (at_ : At T m c below) (hx : p.tables.exec = Jvm.exec) {o : Int} {x : Int32} {pc2 : Nat} (hd : decode c.code pc = .ok (.ifCond .eq o, 3)) (ho : 0 ≤ (pc : Int) + o) (hp : ((pc : Int) + o).toNat = pc') (hp2 : pc + 3 = pc2) (r1 : x = (0 : Int32) → Run p e below Q En T (mkF m pc' Ls rest)) (r2 : ¬ (x = (0 : Int32)) → Run p e below Q En T (mkF m pc2 Ls rest)) : Run p e below Q En T (mkF m pc Ls (.int x :: rest)) := by
  subst hp2
  by_cases hc : x = (0 : Int32)
  · exact (r1 hc).on fun _ q => XS.ifYes at_ hx rfl (pc0 := pc) rfl hd rfl (by rw [h0_eq]; exact decide_eq_true hc) ho hp q
  · exact (r2 hc).on fun _ q => XS.ifNo at_ hx rfl hd rfl (by rw [h0_eq]; exact decide_eq_false hc) q
theorem hL_eq (x y : Int64) : ifCond.holds .eq (cmpJ x y) = decide (x = y) := by
  rw [h0_eq]; apply decide_eq_decide.mpr
  rcases cmpJ_c x y with ⟨q, e⟩ | ⟨q, e⟩ | ⟨q, e⟩ <;> rw [e]
  · have ne : ¬ x = y := fun z => by rw [z] at q; omega
    simp [ne]
  · subst q; simp
  · have ne : ¬ x = y := fun z => by rw [z] at q; omega
    simp [ne]
theorem r_ifL_eq (at_ : At T m c below) (hx : p.tables.exec = Jvm.exec) {o : Int} {x y : Int64} {pc2 : Nat} (hd : decode c.code pc = .ok (.ifCond .eq o, 3)) (ho : 0 ≤ (pc : Int) + o) (hp : ((pc : Int) + o).toNat = pc') (hp2 : pc + 3 = pc2) (r1 : x = y → Run p e below Q En T (mkF m pc' Ls rest)) (r2 : ¬ (x = y) → Run p e below Q En T (mkF m pc2 Ls rest)) : Run p e below Q En T (mkF m pc Ls (.int (cmpJ x y) :: rest)) := by
  subst hp2
  by_cases hc : x = y
  · exact (r1 hc).on fun _ q => XS.ifYes at_ hx rfl (pc0 := pc) rfl hd rfl (by rw [hL_eq]; exact decide_eq_true hc) ho hp q
  · exact (r2 hc).on fun _ q => XS.ifNo at_ hx rfl hd rfl (by rw [hL_eq]; exact decide_eq_false hc) q
theorem h_ne (x y : Int32) : if_icmp.holds .ne x y = decide (¬ x = y) := by by_cases q : x = y <;> simp [if_icmp.holds, q]
theorem h0_ne (x : Int32) : ifCond.holds .ne x = decide (¬ x = (0 : Int32)) := h_ne x 0
theorem r_if_ne (at_ : At T m c below) (hx : p.tables.exec = Jvm.exec) {o : Int} {x y : Int32} {pc2 : Nat} (hd : decode c.code pc = .ok (.if_icmp .ne o, 3)) (ho : 0 ≤ (pc : Int) + o) (hp : ((pc : Int) + o).toNat = pc') (hp2 : pc + 3 = pc2) (r1 : ¬ x = y → Run p e below Q En T (mkF m pc' Ls rest)) (r2 : ¬ (¬ x = y) → Run p e below Q En T (mkF m pc2 Ls rest)) : Run p e below Q En T (mkF m pc Ls (.int y :: .int x :: rest)) := by
  subst hp2
  by_cases hc : ¬ x = y
  · exact (r1 hc).on fun _ q => XS.icmpYes at_ hx rfl (pc0 := pc) rfl hd rfl (by rw [h_ne]; exact decide_eq_true hc) ho hp q
  · exact (r2 hc).on fun _ q => XS.icmpNo at_ hx rfl hd rfl (by rw [h_ne]; exact decide_eq_false hc) q
theorem r_if0_ne (at_ : At T m c below) (hx : p.tables.exec = Jvm.exec) {o : Int} {x : Int32} {pc2 : Nat} (hd : decode c.code pc = .ok (.ifCond .ne o, 3)) (ho : 0 ≤ (pc : Int) + o) (hp : ((pc : Int) + o).toNat = pc') (hp2 : pc + 3 = pc2) (r1 : ¬ x = (0 : Int32) → Run p e below Q En T (mkF m pc' Ls rest)) (r2 : ¬ (¬ x = (0 : Int32)) → Run p e below Q En T (mkF m pc2 Ls rest)) : Run p e below Q En T (mkF m pc Ls (.int x :: rest)) := by
  subst hp2
  by_cases hc : ¬ x = (0 : Int32)
  · exact (r1 hc).on fun _ q => XS.ifYes at_ hx rfl (pc0 := pc) rfl hd rfl (by rw [h0_ne]; exact decide_eq_true hc) ho hp q
  · exact (r2 hc).on fun _ q => XS.ifNo at_ hx rfl hd rfl (by rw [h0_ne]; exact decide_eq_false hc) q
theorem hL_ne (x y : Int64) : ifCond.holds .ne (cmpJ x y) = decide (¬ x = y) := by
  rw [h0_ne]; apply decide_eq_decide.mpr
  rcases cmpJ_c x y with ⟨q, e⟩ | ⟨q, e⟩ | ⟨q, e⟩ <;> rw [e]
  · have ne : ¬ x = y := fun z => by rw [z] at q; omega
    simp [ne]
  · subst q; simp
  · have ne : ¬ x = y := fun z => by rw [z] at q; omega
    simp [ne]
theorem r_ifL_ne (at_ : At T m c below) (hx : p.tables.exec = Jvm.exec) {o : Int} {x y : Int64} {pc2 : Nat} (hd : decode c.code pc = .ok (.ifCond .ne o, 3)) (ho : 0 ≤ (pc : Int) + o) (hp : ((pc : Int) + o).toNat = pc') (hp2 : pc + 3 = pc2) (r1 : ¬ x = y → Run p e below Q En T (mkF m pc' Ls rest)) (r2 : ¬ (¬ x = y) → Run p e below Q En T (mkF m pc2 Ls rest)) : Run p e below Q En T (mkF m pc Ls (.int (cmpJ x y) :: rest)) := by
  subst hp2
  by_cases hc : ¬ x = y
  · exact (r1 hc).on fun _ q => XS.ifYes at_ hx rfl (pc0 := pc) rfl hd rfl (by rw [hL_ne]; exact decide_eq_true hc) ho hp q
  · exact (r2 hc).on fun _ q => XS.ifNo at_ hx rfl hd rfl (by rw [hL_ne]; exact decide_eq_false hc) q
theorem h_lt (x y : Int32) : if_icmp.holds .lt x y = decide (x.toInt < y.toInt) := by simp [if_icmp.holds, Int32.lt_iff_toInt_lt]
theorem h0_lt (x : Int32) : ifCond.holds .lt x = decide (x.toInt < (0 : Int32).toInt) := h_lt x 0
theorem r_if_lt (at_ : At T m c below) (hx : p.tables.exec = Jvm.exec) {o : Int} {x y : Int32} {pc2 : Nat} (hd : decode c.code pc = .ok (.if_icmp .lt o, 3)) (ho : 0 ≤ (pc : Int) + o) (hp : ((pc : Int) + o).toNat = pc') (hp2 : pc + 3 = pc2) (r1 : x.toInt < y.toInt → Run p e below Q En T (mkF m pc' Ls rest)) (r2 : ¬ (x.toInt < y.toInt) → Run p e below Q En T (mkF m pc2 Ls rest)) : Run p e below Q En T (mkF m pc Ls (.int y :: .int x :: rest)) := by
  subst hp2
  by_cases hc : x.toInt < y.toInt
  · exact (r1 hc).on fun _ q => XS.icmpYes at_ hx rfl (pc0 := pc) rfl hd rfl (by rw [h_lt]; exact decide_eq_true hc) ho hp q
  · exact (r2 hc).on fun _ q => XS.icmpNo at_ hx rfl hd rfl (by rw [h_lt]; exact decide_eq_false hc) q
theorem r_if0_lt (at_ : At T m c below) (hx : p.tables.exec = Jvm.exec) {o : Int} {x : Int32} {pc2 : Nat} (hd : decode c.code pc = .ok (.ifCond .lt o, 3)) (ho : 0 ≤ (pc : Int) + o) (hp : ((pc : Int) + o).toNat = pc') (hp2 : pc + 3 = pc2) (r1 : x.toInt < 0 → Run p e below Q En T (mkF m pc' Ls rest)) (r2 : ¬ (x.toInt < 0) → Run p e below Q En T (mkF m pc2 Ls rest)) : Run p e below Q En T (mkF m pc Ls (.int x :: rest)) := by
  subst hp2
  by_cases hc : x.toInt < 0
  · exact (r1 hc).on fun _ q => XS.ifYes at_ hx rfl (pc0 := pc) rfl hd rfl (by rw [h0_lt]; exact decide_eq_true (by rw [show (0 : Int32).toInt = 0 from rfl]; exact hc)) ho hp q
  · exact (r2 hc).on fun _ q => XS.ifNo at_ hx rfl hd rfl (by rw [h0_lt]; exact decide_eq_false (by rw [show (0 : Int32).toInt = 0 from rfl]; exact hc)) q
theorem hL_lt (x y : Int64) : ifCond.holds .lt (cmpJ x y) = decide (x.toInt < y.toInt) := by
  rw [h0_lt]; apply decide_eq_decide.mpr
  rcases cmpJ_c x y with ⟨q, e⟩ | ⟨q, e⟩ | ⟨q, e⟩ <;> rw [e]
  · have ne : ¬ x = y := fun z => by rw [z] at q; omega
    show ((1 : Int) < 0) ↔ _; omega
  · subst q; show ((0 : Int) < 0) ↔ _; omega
  · have ne : ¬ x = y := fun z => by rw [z] at q; omega
    show ((-1 : Int) < 0) ↔ _; omega
theorem r_ifL_lt (at_ : At T m c below) (hx : p.tables.exec = Jvm.exec) {o : Int} {x y : Int64} {pc2 : Nat} (hd : decode c.code pc = .ok (.ifCond .lt o, 3)) (ho : 0 ≤ (pc : Int) + o) (hp : ((pc : Int) + o).toNat = pc') (hp2 : pc + 3 = pc2) (r1 : x.toInt < y.toInt → Run p e below Q En T (mkF m pc' Ls rest)) (r2 : ¬ (x.toInt < y.toInt) → Run p e below Q En T (mkF m pc2 Ls rest)) : Run p e below Q En T (mkF m pc Ls (.int (cmpJ x y) :: rest)) := by
  subst hp2
  by_cases hc : x.toInt < y.toInt
  · exact (r1 hc).on fun _ q => XS.ifYes at_ hx rfl (pc0 := pc) rfl hd rfl (by rw [hL_lt]; exact decide_eq_true hc) ho hp q
  · exact (r2 hc).on fun _ q => XS.ifNo at_ hx rfl hd rfl (by rw [hL_lt]; exact decide_eq_false hc) q
theorem h_ge (x y : Int32) : if_icmp.holds .ge x y = decide (y.toInt ≤ x.toInt) := by simp [if_icmp.holds, Int32.le_iff_toInt_le]
theorem h0_ge (x : Int32) : ifCond.holds .ge x = decide ((0 : Int32).toInt ≤ x.toInt) := h_ge x 0
theorem r_if_ge (at_ : At T m c below) (hx : p.tables.exec = Jvm.exec) {o : Int} {x y : Int32} {pc2 : Nat} (hd : decode c.code pc = .ok (.if_icmp .ge o, 3)) (ho : 0 ≤ (pc : Int) + o) (hp : ((pc : Int) + o).toNat = pc') (hp2 : pc + 3 = pc2) (r1 : y.toInt ≤ x.toInt → Run p e below Q En T (mkF m pc' Ls rest)) (r2 : ¬ (y.toInt ≤ x.toInt) → Run p e below Q En T (mkF m pc2 Ls rest)) : Run p e below Q En T (mkF m pc Ls (.int y :: .int x :: rest)) := by
  subst hp2
  by_cases hc : y.toInt ≤ x.toInt
  · exact (r1 hc).on fun _ q => XS.icmpYes at_ hx rfl (pc0 := pc) rfl hd rfl (by rw [h_ge]; exact decide_eq_true hc) ho hp q
  · exact (r2 hc).on fun _ q => XS.icmpNo at_ hx rfl hd rfl (by rw [h_ge]; exact decide_eq_false hc) q
theorem r_if0_ge (at_ : At T m c below) (hx : p.tables.exec = Jvm.exec) {o : Int} {x : Int32} {pc2 : Nat} (hd : decode c.code pc = .ok (.ifCond .ge o, 3)) (ho : 0 ≤ (pc : Int) + o) (hp : ((pc : Int) + o).toNat = pc') (hp2 : pc + 3 = pc2) (r1 : 0 ≤ x.toInt → Run p e below Q En T (mkF m pc' Ls rest)) (r2 : ¬ (0 ≤ x.toInt) → Run p e below Q En T (mkF m pc2 Ls rest)) : Run p e below Q En T (mkF m pc Ls (.int x :: rest)) := by
  subst hp2
  by_cases hc : 0 ≤ x.toInt
  · exact (r1 hc).on fun _ q => XS.ifYes at_ hx rfl (pc0 := pc) rfl hd rfl (by rw [h0_ge]; exact decide_eq_true (by rw [show (0 : Int32).toInt = 0 from rfl]; exact hc)) ho hp q
  · exact (r2 hc).on fun _ q => XS.ifNo at_ hx rfl hd rfl (by rw [h0_ge]; exact decide_eq_false (by rw [show (0 : Int32).toInt = 0 from rfl]; exact hc)) q
theorem hL_ge (x y : Int64) : ifCond.holds .ge (cmpJ x y) = decide (y.toInt ≤ x.toInt) := by
  rw [h0_ge]; apply decide_eq_decide.mpr
  rcases cmpJ_c x y with ⟨q, e⟩ | ⟨q, e⟩ | ⟨q, e⟩ <;> rw [e]
  · have ne : ¬ x = y := fun z => by rw [z] at q; omega
    show ((0 : Int) ≤ 1) ↔ _; omega
  · subst q; show ((0 : Int) ≤ 0) ↔ _; omega
  · have ne : ¬ x = y := fun z => by rw [z] at q; omega
    show ((0 : Int) ≤ -1) ↔ _; omega
theorem r_ifL_ge (at_ : At T m c below) (hx : p.tables.exec = Jvm.exec) {o : Int} {x y : Int64} {pc2 : Nat} (hd : decode c.code pc = .ok (.ifCond .ge o, 3)) (ho : 0 ≤ (pc : Int) + o) (hp : ((pc : Int) + o).toNat = pc') (hp2 : pc + 3 = pc2) (r1 : y.toInt ≤ x.toInt → Run p e below Q En T (mkF m pc' Ls rest)) (r2 : ¬ (y.toInt ≤ x.toInt) → Run p e below Q En T (mkF m pc2 Ls rest)) : Run p e below Q En T (mkF m pc Ls (.int (cmpJ x y) :: rest)) := by
  subst hp2
  by_cases hc : y.toInt ≤ x.toInt
  · exact (r1 hc).on fun _ q => XS.ifYes at_ hx rfl (pc0 := pc) rfl hd rfl (by rw [hL_ge]; exact decide_eq_true hc) ho hp q
  · exact (r2 hc).on fun _ q => XS.ifNo at_ hx rfl hd rfl (by rw [hL_ge]; exact decide_eq_false hc) q
theorem h_gt (x y : Int32) : if_icmp.holds .gt x y = decide (y.toInt < x.toInt) := by simp [if_icmp.holds, Int32.lt_iff_toInt_lt]
theorem h0_gt (x : Int32) : ifCond.holds .gt x = decide ((0 : Int32).toInt < x.toInt) := h_gt x 0
theorem r_if_gt (at_ : At T m c below) (hx : p.tables.exec = Jvm.exec) {o : Int} {x y : Int32} {pc2 : Nat} (hd : decode c.code pc = .ok (.if_icmp .gt o, 3)) (ho : 0 ≤ (pc : Int) + o) (hp : ((pc : Int) + o).toNat = pc') (hp2 : pc + 3 = pc2) (r1 : y.toInt < x.toInt → Run p e below Q En T (mkF m pc' Ls rest)) (r2 : ¬ (y.toInt < x.toInt) → Run p e below Q En T (mkF m pc2 Ls rest)) : Run p e below Q En T (mkF m pc Ls (.int y :: .int x :: rest)) := by
  subst hp2
  by_cases hc : y.toInt < x.toInt
  · exact (r1 hc).on fun _ q => XS.icmpYes at_ hx rfl (pc0 := pc) rfl hd rfl (by rw [h_gt]; exact decide_eq_true hc) ho hp q
  · exact (r2 hc).on fun _ q => XS.icmpNo at_ hx rfl hd rfl (by rw [h_gt]; exact decide_eq_false hc) q
theorem r_if0_gt (at_ : At T m c below) (hx : p.tables.exec = Jvm.exec) {o : Int} {x : Int32} {pc2 : Nat} (hd : decode c.code pc = .ok (.ifCond .gt o, 3)) (ho : 0 ≤ (pc : Int) + o) (hp : ((pc : Int) + o).toNat = pc') (hp2 : pc + 3 = pc2) (r1 : 0 < x.toInt → Run p e below Q En T (mkF m pc' Ls rest)) (r2 : ¬ (0 < x.toInt) → Run p e below Q En T (mkF m pc2 Ls rest)) : Run p e below Q En T (mkF m pc Ls (.int x :: rest)) := by
  subst hp2
  by_cases hc : 0 < x.toInt
  · exact (r1 hc).on fun _ q => XS.ifYes at_ hx rfl (pc0 := pc) rfl hd rfl (by rw [h0_gt]; exact decide_eq_true (by rw [show (0 : Int32).toInt = 0 from rfl]; exact hc)) ho hp q
  · exact (r2 hc).on fun _ q => XS.ifNo at_ hx rfl hd rfl (by rw [h0_gt]; exact decide_eq_false (by rw [show (0 : Int32).toInt = 0 from rfl]; exact hc)) q
theorem hL_gt (x y : Int64) : ifCond.holds .gt (cmpJ x y) = decide (y.toInt < x.toInt) := by
  rw [h0_gt]; apply decide_eq_decide.mpr
  rcases cmpJ_c x y with ⟨q, e⟩ | ⟨q, e⟩ | ⟨q, e⟩ <;> rw [e]
  · have ne : ¬ x = y := fun z => by rw [z] at q; omega
    show ((0 : Int) < 1) ↔ _; omega
  · subst q; show ((0 : Int) < 0) ↔ _; omega
  · have ne : ¬ x = y := fun z => by rw [z] at q; omega
    show ((0 : Int) < -1) ↔ _; omega
theorem r_ifL_gt (at_ : At T m c below) (hx : p.tables.exec = Jvm.exec) {o : Int} {x y : Int64} {pc2 : Nat} (hd : decode c.code pc = .ok (.ifCond .gt o, 3)) (ho : 0 ≤ (pc : Int) + o) (hp : ((pc : Int) + o).toNat = pc') (hp2 : pc + 3 = pc2) (r1 : y.toInt < x.toInt → Run p e below Q En T (mkF m pc' Ls rest)) (r2 : ¬ (y.toInt < x.toInt) → Run p e below Q En T (mkF m pc2 Ls rest)) : Run p e below Q En T (mkF m pc Ls (.int (cmpJ x y) :: rest)) := by
  subst hp2
  by_cases hc : y.toInt < x.toInt
  · exact (r1 hc).on fun _ q => XS.ifYes at_ hx rfl (pc0 := pc) rfl hd rfl (by rw [hL_gt]; exact decide_eq_true hc) ho hp q
  · exact (r2 hc).on fun _ q => XS.ifNo at_ hx rfl hd rfl (by rw [hL_gt]; exact decide_eq_false hc) q
theorem h_le (x y : Int32) : if_icmp.holds .le x y = decide (x.toInt ≤ y.toInt) := by simp [if_icmp.holds, Int32.le_iff_toInt_le]
theorem h0_le (x : Int32) : ifCond.holds .le x = decide (x.toInt ≤ (0 : Int32).toInt) := h_le x 0
theorem r_if_le (at_ : At T m c below) (hx : p.tables.exec = Jvm.exec) {o : Int} {x y : Int32} {pc2 : Nat} (hd : decode c.code pc = .ok (.if_icmp .le o, 3)) (ho : 0 ≤ (pc : Int) + o) (hp : ((pc : Int) + o).toNat = pc') (hp2 : pc + 3 = pc2) (r1 : x.toInt ≤ y.toInt → Run p e below Q En T (mkF m pc' Ls rest)) (r2 : ¬ (x.toInt ≤ y.toInt) → Run p e below Q En T (mkF m pc2 Ls rest)) : Run p e below Q En T (mkF m pc Ls (.int y :: .int x :: rest)) := by
  subst hp2
  by_cases hc : x.toInt ≤ y.toInt
  · exact (r1 hc).on fun _ q => XS.icmpYes at_ hx rfl (pc0 := pc) rfl hd rfl (by rw [h_le]; exact decide_eq_true hc) ho hp q
  · exact (r2 hc).on fun _ q => XS.icmpNo at_ hx rfl hd rfl (by rw [h_le]; exact decide_eq_false hc) q
theorem r_if0_le (at_ : At T m c below) (hx : p.tables.exec = Jvm.exec) {o : Int} {x : Int32} {pc2 : Nat} (hd : decode c.code pc = .ok (.ifCond .le o, 3)) (ho : 0 ≤ (pc : Int) + o) (hp : ((pc : Int) + o).toNat = pc') (hp2 : pc + 3 = pc2) (r1 : x.toInt ≤ 0 → Run p e below Q En T (mkF m pc' Ls rest)) (r2 : ¬ (x.toInt ≤ 0) → Run p e below Q En T (mkF m pc2 Ls rest)) : Run p e below Q En T (mkF m pc Ls (.int x :: rest)) := by
  subst hp2
  by_cases hc : x.toInt ≤ 0
  · exact (r1 hc).on fun _ q => XS.ifYes at_ hx rfl (pc0 := pc) rfl hd rfl (by rw [h0_le]; exact decide_eq_true (by rw [show (0 : Int32).toInt = 0 from rfl]; exact hc)) ho hp q
  · exact (r2 hc).on fun _ q => XS.ifNo at_ hx rfl hd rfl (by rw [h0_le]; exact decide_eq_false (by rw [show (0 : Int32).toInt = 0 from rfl]; exact hc)) q
theorem hL_le (x y : Int64) : ifCond.holds .le (cmpJ x y) = decide (x.toInt ≤ y.toInt) := by
  rw [h0_le]; apply decide_eq_decide.mpr
  rcases cmpJ_c x y with ⟨q, e⟩ | ⟨q, e⟩ | ⟨q, e⟩ <;> rw [e]
  · have ne : ¬ x = y := fun z => by rw [z] at q; omega
    show ((1 : Int) ≤ 0) ↔ _; omega
  · subst q; show ((0 : Int) ≤ 0) ↔ _; omega
  · have ne : ¬ x = y := fun z => by rw [z] at q; omega
    show ((-1 : Int) ≤ 0) ↔ _; omega
theorem r_ifL_le (at_ : At T m c below) (hx : p.tables.exec = Jvm.exec) {o : Int} {x y : Int64} {pc2 : Nat} (hd : decode c.code pc = .ok (.ifCond .le o, 3)) (ho : 0 ≤ (pc : Int) + o) (hp : ((pc : Int) + o).toNat = pc') (hp2 : pc + 3 = pc2) (r1 : x.toInt ≤ y.toInt → Run p e below Q En T (mkF m pc' Ls rest)) (r2 : ¬ (x.toInt ≤ y.toInt) → Run p e below Q En T (mkF m pc2 Ls rest)) : Run p e below Q En T (mkF m pc Ls (.int (cmpJ x y) :: rest)) := by
  subst hp2
  by_cases hc : x.toInt ≤ y.toInt
  · exact (r1 hc).on fun _ q => XS.ifYes at_ hx rfl (pc0 := pc) rfl hd rfl (by rw [hL_le]; exact decide_eq_true hc) ho hp q
  · exact (r2 hc).on fun _ q => XS.ifNo at_ hx rfl hd rfl (by rw [hL_le]; exact decide_eq_false hc) q
theorem r_ifnullY (at_ : At T m c below) (hx : p.tables.exec = Jvm.exec) {o : Int} (hd : decode c.code pc = .ok (.ifnull o, 3)) (ho : 0 ≤ (pc : Int) + o) (hp : ((pc : Int) + o).toNat = pc') (r : Run p e below Q En T (mkF m pc' Ls rest)) : Run p e below Q En T (mkF m pc Ls (.null :: rest)) :=
  r.on fun _ q => XS.ifnullYes at_ hx rfl (pc0 := pc) rfl hd rfl ho hp q
theorem r_ifnullN (at_ : At T m c below) (hx : p.tables.exec = Jvm.exec) {o : Int} {b : Addr} (hd : decode c.code pc = .ok (.ifnull o, 3)) (hp : pc + 3 = pc') (r : Run p e below Q En T (mkF m pc' Ls rest)) : Run p e below Q En T (mkF m pc Ls (.ref b :: rest)) := by
  subst hp; exact r.on fun _ q => XS.ifnullNo at_ hx rfl hd rfl q
theorem r_ifnonnullY (at_ : At T m c below) (hx : p.tables.exec = Jvm.exec) {o : Int} {b : Addr} (hd : decode c.code pc = .ok (.ifnonnull o, 3)) (ho : 0 ≤ (pc : Int) + o) (hp : ((pc : Int) + o).toNat = pc') (r : Run p e below Q En T (mkF m pc' Ls rest)) : Run p e below Q En T (mkF m pc Ls (.ref b :: rest)) :=
  r.on fun _ q => XS.ifnonnullYes at_ hx rfl (pc0 := pc) rfl hd rfl ho hp q
theorem r_ifnonnullN (at_ : At T m c below) (hx : p.tables.exec = Jvm.exec) {o : Int} (hd : decode c.code pc = .ok (.ifnonnull o, 3)) (hp : pc + 3 = pc') (r : Run p e below Q En T (mkF m pc' Ls rest)) : Run p e below Q En T (mkF m pc Ls (.null :: rest)) := by
  subst hp; exact r.on fun _ q => XS.ifnonnullNo at_ hx rfl hd rfl q
theorem r_acmp_eq (at_ : At T m c below) (hx : p.tables.exec = Jvm.exec) {o : Int} {x y : Value} {pc2 : Nat} (hd : decode c.code pc = .ok (.if_acmp .eq o, 3)) (h1 : x.isRef = true) (h2 : y.isRef = true) (ho : 0 ≤ (pc : Int) + o) (hp : ((pc : Int) + o).toNat = pc') (hp2 : pc + 3 = pc2) (r1 : x = y → Run p e below Q En T (mkF m pc' Ls rest)) (r2 : ¬ x = y → Run p e below Q En T (mkF m pc2 Ls rest)) : Run p e below Q En T (mkF m pc Ls (y :: x :: rest)) := by
  subst hp2
  by_cases hc : x = y
  · exact (r1 hc).on fun _ q => XT.acmpYes at_ hx rfl (pc0 := pc) rfl hd rfl h1 h2 (by simp [XT.acmp, hc]) ho hp q
  · exact (r2 hc).on fun _ q => XT.acmpNo at_ hx rfl hd rfl h1 h2 (by simp [XT.acmp, hc]) q
theorem r_acmp_ne (at_ : At T m c below) (hx : p.tables.exec = Jvm.exec) {o : Int} {x y : Value} {pc2 : Nat} (hd : decode c.code pc = .ok (.if_acmp .ne o, 3)) (h1 : x.isRef = true) (h2 : y.isRef = true) (ho : 0 ≤ (pc : Int) + o) (hp : ((pc : Int) + o).toNat = pc') (hp2 : pc + 3 = pc2) (r1 : ¬ x = y → Run p e below Q En T (mkF m pc' Ls rest)) (r2 : x = y → Run p e below Q En T (mkF m pc2 Ls rest)) : Run p e below Q En T (mkF m pc Ls (y :: x :: rest)) := by
  subst hp2
  by_cases hc : x = y
  · exact (r2 hc).on fun _ q => XT.acmpNo at_ hx rfl hd rfl h1 h2 (by simp [XT.acmp, hc]) q
  · exact (r1 hc).on fun _ q => XT.acmpYes at_ hx rfl (pc0 := pc) rfl hd rfl h1 h2 (by simp [XT.acmp, hc]) ho hp q
theorem r_retN (X : Stand p l e R s m args below meth c T locs cells slots) (hx : p.tables.exec = Jvm.exec) (hlk : meth.locks = false) {t : FieldType} {z w : Int32} (hret : meth.sig.returnType = some t) (ht : t = .boolean ∨ t = .byte ∨ t = .char ∨ t = .short) (hd : decode c.code pc = .ok (.ireturn, 1)) (hn : nar t z = w) (hq : Q (some (.int w)) T.heap locs) (h1 : cells ≤ kc) (h2 : slots ≤ ks) : Run p e below Q (fun o t L => FrameEnd s o t L kc ks) T (mkF m pc Ls (.int z :: rest)) := by
  subst hn
  obtain ⟨fs, hr, hrun, hended, hW, hsame⟩ := X.leave (v := some (.int (nar t z))) (fun q => by rw [hret] at q; cases q) hlk
  exact ⟨_, _, retN X hx hret ht hd hr, hrun, hended, _, _, rfl, hq, ⟨_, rfl⟩, hW, hsame.mono h1 h2⟩
theorem r_retV (X : Stand p l e R s m args below meth c T locs cells slots) (hx : p.tables.exec = Jvm.exec) (hlk : meth.locks = false) {t : FieldType} {w : Value} {i : Instr} (hret : meth.sig.returnType = some t) (hn : narrow t w = w)
    (hi : (i = .ireturn ∧ (t = .int ∨ t = .boolean ∨ t = .byte ∨ t = .char ∨ t = .short) ∧ ∃ z, w = .int z) ∨ (i = .lreturn ∧ t = .long ∧ ∃ z, w = .long z) ∨ (i = .dreturn ∧ t = .double ∧ ∃ z, w = .double z) ∨ (i = .freturn ∧ t = .float ∧ ∃ z, w = .float z) ∨ (i = .areturn ∧ t.isReference = true ∧ w.isRef = true))
    (hd : decode c.code pc = .ok (i, 1)) (hq : Q (some w) T.heap locs) (h1 : cells ≤ kc) (h2 : slots ≤ ks) : Run p e below Q (fun o t L => FrameEnd s o t L kc ks) T (mkF m pc Ls (w :: rest)) := by
  obtain ⟨fs, hr, hrun, hended, hW, hsame⟩ := X.leave (v := some w) (fun q => by rw [hret] at q; cases q) hlk
  exact ⟨_, _, retOut X hx hret hn hi hd hr, hrun, hended, _, _, rfl, hq, ⟨_, rfl⟩, hW, hsame.mono h1 h2⟩
theorem r_retI (X : Stand p l e R s m args below meth c T locs cells slots) (hx : p.tables.exec = Jvm.exec) (hlk : meth.locks = false) {w : Int32} (hret : meth.sig.returnType = some .int) (hd : decode c.code pc = .ok (.ireturn, 1)) (hq : Q (some (.int w)) T.heap locs) (h1 : cells ≤ kc) (h2 : slots ≤ ks) : Run p e below Q (fun o t L => FrameEnd s o t L kc ks) T (mkF m pc Ls (.int w :: rest)) :=
  r_retV X hx hlk hret rfl (Or.inl ⟨rfl, Or.inl rfl, _, rfl⟩) hd hq h1 h2
theorem r_retJ (X : Stand p l e R s m args below meth c T locs cells slots) (hx : p.tables.exec = Jvm.exec) (hlk : meth.locks = false) {w : Int64} (hret : meth.sig.returnType = some .long) (hd : decode c.code pc = .ok (.lreturn, 1)) (hq : Q (some (.long w)) T.heap locs) (h1 : cells ≤ kc) (h2 : slots ≤ ks) : Run p e below Q (fun o t L => FrameEnd s o t L kc ks) T (mkF m pc Ls (.long w :: rest)) :=
  r_retV X hx hlk hret rfl (Or.inr (Or.inl ⟨rfl, rfl, _, rfl⟩)) hd hq h1 h2
theorem r_retD (X : Stand p l e R s m args below meth c T locs cells slots) (hx : p.tables.exec = Jvm.exec) (hlk : meth.locks = false) {w : UInt64} (hret : meth.sig.returnType = some .double) (hd : decode c.code pc = .ok (.dreturn, 1)) (hq : Q (some (.double w)) T.heap locs) (h1 : cells ≤ kc) (h2 : slots ≤ ks) : Run p e below Q (fun o t L => FrameEnd s o t L kc ks) T (mkF m pc Ls (.double w :: rest)) :=
  r_retV X hx hlk hret rfl (Or.inr (Or.inr (Or.inl ⟨rfl, rfl, _, rfl⟩))) hd hq h1 h2
theorem r_retA (X : Stand p l e R s m args below meth c T locs cells slots) (hx : p.tables.exec = Jvm.exec) (hlk : meth.locks = false) {t : FieldType} {w : Value} (hret : meth.sig.returnType = some t) (ht : t.isReference = true) (hw : w.isRef = true) (hd : decode c.code pc = .ok (.areturn, 1)) (hq : Q (some w) T.heap locs) (h1 : cells ≤ kc) (h2 : slots ≤ ks) : Run p e below Q (fun o t L => FrameEnd s o t L kc ks) T (mkF m pc Ls (w :: rest)) :=
  r_retV X hx hlk hret (by rcases ref_cases hw with rfl | ⟨a, rfl⟩ <;> cases t <;> first | rfl | cases ht) (Or.inr (Or.inr (Or.inr (Or.inr ⟨rfl, ht, hw⟩)))) hd hq h1 h2
theorem r_ret0 (X : Stand p l e R s m args below meth c T locs cells slots) (hx : p.tables.exec = Jvm.exec) (hlk : meth.locks = false) (hret : meth.sig.returnType = none) (hd : decode c.code pc = .ok (.return_, 1)) (hq : Q none T.heap locs) (h1 : cells ≤ kc) (h2 : slots ≤ ks) : Run p e below Q (fun o t L => FrameEnd s o t L kc ks) T (mkF m pc Ls []) := by
  obtain ⟨fs, hr, hrun, hended, hW, hsame⟩ := X.leave (v := none) (fun _ => rfl) hlk
  exact ⟨_, _, X.returnOut hx hret hd hr, hrun, hended, _, _, rfl, hq, ⟨_, rfl⟩, hW, hsame.mono h1 h2⟩
theorem r_ldc (X : Stand p l e R s m args below meth c T locs cells slots) (hx : p.tables.exec = Jvm.exec) (hZ : Z.Warmed39 s.vm) {own : String} {index : Nat} {v : Int32} (hown : s.vm.findClass own = some m.cls) (w : (Jvm.Cond.constant own index v).before a0 Z = true) (hd : decode c.code pc = .ok (.ldc index, 2)) (hp : pc + 2 = pc') (r : Run p e below Q En T (mkF m pc' Ls (.int v :: rest))) : Run p e below Q En T (mkF m pc Ls rest) := by
  subst hp; exact r.on fun _ q => X.ldcInt hx hown (mvT hZ w) (g := mkF m pc Ls rest) rfl hd _ q
theorem r_ldc2 (X : Stand p l e R s m args below meth c T locs cells slots) (hx : p.tables.exec = Jvm.exec) (hZ : Z.Warmed39 s.vm) {own : String} {index : Nat} {v : Int64} (hown : s.vm.findClass own = some m.cls) (w : (Jvm.Cond.constantLong own index v).before a0 Z = true) (hd : decode c.code pc = .ok (.ldc2_w index, 3)) (hp : pc + 3 = pc') (r : Run p e below Q En T (mkF m pc' Ls (.long v :: rest))) : Run p e below Q En T (mkF m pc Ls rest) := by
  subst hp; exact r.on fun _ q => X.ldc2Long hx hown (mvT hZ w) (g := mkF m pc Ls rest) rfl hd _ q
theorem r_callS (X : Stand p l e R s m args below meth c T locs cells slots) (hx : p.tables.exec = Jvm.exec) (hZ : Z.Warmed39 s.vm) {own : String} {index : Nat} {y : MethodName} {bytes : ByteArray} {maxL : Nat} {ret : Option FieldType} {rm : Room} {as' : Array Value} {Qc : Option Value → Heap → List Loc → Prop} {argsL : List Value} {W : Nat}
    (hown : s.vm.findClass own = some m.cls) (w1 : (Jvm.Cond.methodLink own index y).before a0 Z = true) (w2 : (Jvm.Cond.static y).before a0 Z = true) (w3 : (Jvm.Cond.initialized y.cls).before a0 Z = true) (w4 : (Jvm.Cond.code y bytes maxL ret).before a0 Z = true) (hy : y.cls ≠ "java/lang/invoke/MethodHandle" ∧ y.cls ≠ "java/lang/invoke/VarHandle")
    (hM : Met l Z y bytes maxL ret [] rm as' h Qc rm.cells rm.slots) (eT : T.heap = h) (hsz : Ls.size = c.maxLocals) (hlen : ∀ sig, parseMethodDescriptor y.desc = some sig → argsL.length = sig.parameters.length) (hst : st = argsL.reverse ++ rest) (has : argsL.toArray = as') (hW : (rest.map fun v => v.category).sum = W)
    (hf : rm.frames + 1 ≤ R.frames) (hl : W + (maxL + 11) + rm.locals ≤ R.locals) (hcl : cells + rm.cells ≤ R.cells) (hsl : slots + rm.slots ≤ R.slots) (hd : decode c.code pc = .ok (.invokestatic index, 3)) (hp : pc + 3 = pc')
    (r : ∀ (v : Option Value) (T' : State) (L : List Loc), Stand p l e R s m args below meth c T' (locs ++ L) (cells + rm.cells) (slots + rm.slots) → Qc v T'.heap L → Run p e below Q En T' (mkF m pc' Ls (v.toList ++ rest))) : Run p e below Q En T (mkF m pc Ls st) := by
  subst hp
  obtain ⟨v, _, ⟨T', L', k', n'⟩, -, X', ⟨L, hQ, l1, y1, z1⟩, stp⟩ := Jvm.LawKit.callS X hx (y := y) hown (mvT hZ w1) (mvT hZ w2) (mvT hZ w3) (mvT hZ w4) hy (backOf (W := W) hM hZ w4 w3 hf hl) (g := mkF m pc Ls st) rfl hsz (argsL := argsL) (rest := rest) hlen hst (by show 2 * 0 + _ ≤ _; omega) hd (fun _ _ => ⟨has, eT, hcl, hsl⟩)
  dsimp only at X' l1 y1 z1 stp hQ
  subst l1 y1 z1
  exact (r v T' L X' hQ).on stp
theorem r_callI (X : Stand p l e R s m args below meth c T locs cells slots) (hx : p.tables.exec = Jvm.exec) (hZ : Z.Warmed39 s.vm) {own : String} {index : Nat} {y : MethodName} {bytes : ByteArray} {maxL : Nat} {rm : Room} {as' : Array Value} {Qc : Option Value → Heap → List Loc → Prop} {argsL : List Value} {W : Nat} {a : Addr}
    (hown : s.vm.findClass own = some m.cls) (hy1 : y.name = "<init>") (w1 : (Jvm.Cond.methodLink own index y).before a0 Z = true) (w2 : (Jvm.Cond.instanceMethod y).before a0 Z = true) (w3 : (Jvm.Cond.initialized y.cls).before a0 Z = true) (w4 : (Jvm.Cond.code y bytes maxL none).before a0 Z = true) (hy : y.cls ≠ "java/lang/invoke/MethodHandle" ∧ y.cls ≠ "java/lang/invoke/VarHandle")
    (hM : Met l Z y bytes maxL none [] rm as' h Qc rm.cells rm.slots) (eT : T.heap = h) (hsz : Ls.size = c.maxLocals) (hlen : ∀ sig, parseMethodDescriptor y.desc = some sig → argsL.length = sig.parameters.length) (hst : st = argsL.reverse ++ .ref a :: rest) (has : (.ref a :: argsL).toArray = as') (hW : (rest.map fun v => v.category).sum = W)
    (hf : rm.frames + 1 ≤ R.frames) (hl : W + (maxL + 11) + rm.locals ≤ R.locals) (hcl : cells + rm.cells ≤ R.cells) (hsl : slots + rm.slots ≤ R.slots) (hd : decode c.code pc = .ok (.invokespecial index, 3)) (hp : pc + 3 = pc')
    (r : ∀ (v : Option Value) (T' : State) (L : List Loc), Stand p l e R s m args below meth c T' (locs ++ L) (cells + rm.cells) (slots + rm.slots) → Qc v T'.heap L → Run p e below Q En T' (mkF m pc' Ls (v.toList ++ rest))) : Run p e below Q En T (mkF m pc Ls st) := by
  subst hp
  obtain ⟨v, _, ⟨T', L', k', n'⟩, -, X', ⟨L, hQ, l1, y1, z1⟩, stp⟩ := X.specialBack hx (y := y) hy1 hown (mvT hZ w1) (mvT hZ w2) (mvT hZ w4) hy (backOf (W := W) hM hZ w4 w3 hf hl) (g := mkF m pc Ls st) rfl hsz (Steps.refl _) (a := a) (argsL := argsL) (rest := rest) hlen hst (by show 2 * 0 + _ ≤ _; omega) hd (fun _ _ => ⟨has, eT, hcl, hsl⟩)
  dsimp only at X' l1 y1 z1 stp hQ
  subst l1 y1 z1
  exact (r v T' L X' hQ).on fun _ q => stp.trans q
theorem r_callV (X : Stand p l e R s m args below meth c T locs cells slots) (hx : p.tables.exec = Jvm.exec) (hZ : Z.Warmed39 s.vm) {own C : String} {index : Nat} {y z : MethodName} {bytes : ByteArray} {maxL : Nat} {ret : Option FieldType} {rm : Room} {as' : Array Value} {Qc : Option Value → Heap → List Loc → Prop} {argsL : List Value} {W : Nat} {a : Addr}
    (hown : s.vm.findClass own = some m.cls) (w1 : (Jvm.Cond.methodLink own index y).before a0 Z = true) (w2 : (Jvm.Cond.declares y).before a0 Z = true) (nf : NotFace s y) (w5 : (Jvm.Cond.selects C y z).before a0 Z = true) (w6 : (Jvm.Cond.instanceMethod z).before a0 Z = true) (w3 : (Jvm.Cond.initialized z.cls).before a0 Z = true) (w4 : (Jvm.Cond.code z bytes maxL ret).before a0 Z = true) (hy : y.cls ≠ "java/lang/invoke/MethodHandle" ∧ y.cls ≠ "java/lang/invoke/VarHandle")
    (hM : Met l Z z bytes maxL ret [] rm as' h Qc rm.cells rm.slots) (eT : T.heap = h) (E : Exa Z h a C) (hsz : Ls.size = c.maxLocals) (hlen : ∀ sig, parseMethodDescriptor y.desc = some sig → argsL.length = sig.parameters.length) (hst : st = argsL.reverse ++ .ref a :: rest) (has : (.ref a :: argsL).toArray = as') (hW : (rest.map fun v => v.category).sum = W)
    (hf : rm.frames + 1 ≤ R.frames) (hl : W + (maxL + 11) + rm.locals ≤ R.locals) (hcl : cells + rm.cells ≤ R.cells) (hsl : slots + rm.slots ≤ R.slots) (hd : decode c.code pc = .ok (.invokevirtual index, 3)) (hp : pc + 3 = pc')
    (r : ∀ (v : Option Value) (T' : State) (L : List Loc), Stand p l e R s m args below meth c T' (locs ++ L) (cells + rm.cells) (slots + rm.slots) → Qc v T'.heap L → Run p e below Q En T' (mkF m pc' Ls (v.toList ++ rest))) : Run p e below Q En T (mkF m pc Ls st) := by
  subst hp
  obtain ⟨cq, kq, qa, qb, qc⟩ := isOf hZ eT E
  obtain ⟨v, _, ⟨T', L', k', n'⟩, -, X', ⟨L, hQ, l1, y1, z1⟩, stp⟩ := X.virtualBack hx (y := y) (z := z) hown (mvT hZ w1) (mvT hZ w2) nf (mvT hZ w5) (mvT hZ w6) hy (backOf (W := W) hM hZ w4 w3 hf hl) qa qc (g := mkF m pc Ls st) rfl hsz (Steps.refl _) (argsL := argsL) (rest := rest) hlen hst (by show 2 * 0 + _ ≤ _; omega) hd (fun _ _ => ⟨has, eT, hcl, hsl⟩)
  dsimp only at X' l1 y1 z1 stp hQ
  subst l1 y1 z1
  exact (r v T' L X' hQ).on fun _ q => stp.trans q
theorem r_initO (X : Stand p l e R s m args below meth c T locs cells slots) (hx : p.tables.exec = Jvm.exec) (hZ : Z.Warmed39 s.vm) {own : String} {index : Nat} {a : Addr} {W : Nat}
    (hown : s.vm.findClass own = some m.cls) (w1 : (Jvm.Cond.methodLink own index Lib.objectInit).before a0 Z = true) (w2 : (Jvm.Cond.instanceMethod Lib.objectInit).before a0 Z = true) (w4 : (Jvm.Cond.code Lib.objectInit ⟨#[0xb1]⟩ 1 none).before a0 Z = true)
    (eT : T.heap = h) (hsz : Ls.size = c.maxLocals) (hf : 1 ≤ R.frames) (hW : (rest.map fun v => v.category).sum = W) (hl : W + 12 ≤ R.locals) (hd : decode c.code pc = .ok (.invokespecial index, 3)) (hp : pc + 3 = pc')
    (r : ∀ T', Stand p l e R s m args below meth c T' locs cells slots → T'.heap = h → Run p e below Q En T' (mkF m pc' Ls rest)) : Run p e below Q En T (mkF m pc Ls (.ref a :: rest)) := by
  subst hp
  obtain ⟨T', X', e', stp⟩ := initO X hx hZ hown w1 w2 w4 eT (g := mkF m pc Ls (.ref a :: rest)) rfl hsz rfl hd hf (W := W) (by show 2 * 0 + _ ≤ _; omega) hl
  exact (r T' X' e').on stp
theorem r_new (X : Stand p l e R s m args below meth c T locs cells slots) (hx : p.tables.exec = Jvm.exec) (hZ : Z.Warmed39 s.vm) {own C : String} {index n : Nat} (hown : s.vm.findClass own = some m.cls) (w : (Jvm.Cond.classLink own index C).before a0 Z = true) (wi : (Jvm.Cond.instantiable C n).before a0 Z = true) (wz : (Jvm.Cond.initialized C).before a0 Z = true) (eT : T.heap = h) (hc : cells + 1 ≤ R.cells) (hl : slots + n ≤ R.slots) (hd : decode c.code pc = .ok (.new index, 3)) (hp : pc + 3 = pc')
    (r : ∀ (T' : State) (h' : Heap) (a : Addr), a = h.size → Stand p l e R s m args below meth c T' locs (cells + 1) (slots + n) → T'.heap = h' → Ext h h' → Exa Z h' a C → (∀ {O nm d : String} {ty : FieldType}, Laid Z a0 C O nm d → parseFieldDescriptor d = some ty → Fld Z h' a O nm d (defaultValue ty)) → Run p e below Q En T' (mkF m pc' Ls (.ref a :: rest))) : Run p e below Q En T (mkF m pc Ls rest) := by
  subst hp
  obtain ⟨T', h', X', e', E', A', D', -, stp⟩ := newO X hx hZ hown w wi wz eT (g := mkF m pc Ls rest) rfl hd hc hl
  exact (r T' h' h.size rfl X' e' E' A' D').on stp
theorem r_getF (X : Stand p l e R s m args below meth c T locs cells slots) (hx : p.tables.exec = Jvm.exec) (hZ : Z.Warmed39 s.vm) {own R0 O n d : String} {index : Nat} {a : Addr} {v : Value} (hown : s.vm.findClass own = some m.cls) (w : (Jvm.Cond.fieldLink own index R0 n d).before a0 Z = true) (via : Via Z R0 O n d) (eT : T.heap = h) (F : Fld Z h a O n d v) (hd : decode c.code pc = .ok (.getfield index, 3)) (hp : pc + 3 = pc')
    (r : ∀ T', Stand p l e R s m args below meth c T' locs cells slots → T'.heap = h → Run p e below Q En T' (mkF m pc' Ls (v :: rest))) : Run p e below Q En T (mkF m pc Ls (.ref a :: rest)) := by
  subst hp
  obtain ⟨T', X', e', stp⟩ := getF X hx hZ hown (host := "") (Or.inl w) via eT F (g := mkF m pc Ls (.ref a :: rest)) rfl rfl hd
  exact (r T' X' e').on stp
theorem r_getFN (X : Stand p l e R s m args below meth c T locs cells slots) (hx : p.tables.exec = Jvm.exec) (hZ : Z.Warmed39 s.vm) {own R0 O n d host : String} {index : Nat} {a : Addr} {v : Value} (hown : s.vm.findClass own = some m.cls) (w : (Jvm.Cond.fieldLinkNest own index R0 n d host).before a0 Z = true) (via : Via Z R0 O n d) (eT : T.heap = h) (F : Fld Z h a O n d v) (hd : decode c.code pc = .ok (.getfield index, 3)) (hp : pc + 3 = pc')
    (r : ∀ T', Stand p l e R s m args below meth c T' locs cells slots → T'.heap = h → Run p e below Q En T' (mkF m pc' Ls (v :: rest))) : Run p e below Q En T (mkF m pc Ls (.ref a :: rest)) := by
  subst hp
  obtain ⟨T', X', e', stp⟩ := getF X hx hZ hown (Or.inr w) via eT F (g := mkF m pc Ls (.ref a :: rest)) rfl rfl hd
  exact (r T' X' e').on stp
theorem r_getS (X : Stand p l e R s m args below meth c T locs cells slots) (hx : p.tables.exec = Jvm.exec) (hZ : Z.Warmed39 s.vm) {own R0 O n d : String} {index : Nat} {v : Value} (hown : s.vm.findClass own = some m.cls) (w : (Jvm.Cond.fieldLink own index R0 n d).before a0 Z = true) (via : Via Z R0 O n d) (eT : T.heap = h) (F : Sta Z h O n d v) (hd : decode c.code pc = .ok (.getstatic index, 3)) (hp : pc + 3 = pc')
    (r : ∀ T', Stand p l e R s m args below meth c T' locs cells slots → T'.heap = h → Run p e below Q En T' (mkF m pc' Ls (v :: rest))) : Run p e below Q En T (mkF m pc Ls rest) := by
  subst hp
  obtain ⟨T', X', e', stp⟩ := getS2 X hx hZ hown (host := "") (Or.inl w) via eT F (g := mkF m pc Ls rest) rfl hd
  exact (r T' X' e').on stp
theorem r_putF (X : Stand p l e R s m args below meth c T locs cells slots) (hx : p.tables.exec = Jvm.exec) (hZ : Z.Warmed39 s.vm) {own R0 O n d C : String} {index kk : Nat} {ty : FieldType} {a : Addr} {v old : Value} (hown : s.vm.findClass own = some m.cls) (w : (Jvm.Cond.fieldLink own index R0 n d).before a0 Z = true) (via : Via Z R0 O n d) (eT : T.heap = h) (F : Fld Z h a O n d old) (E : Exa Z h a C) (L : (Jvm.Cond.lays C O n d).before a0 Z = true ∨ ((Jvm.Cond.laysFinal C O n d).before a0 Z = true ∧ own = O ∧ meth.name = "<init>")) (wi : (Jvm.Cond.instantiable C kk).before a0 Z = true) (hty : parseFieldDescriptor d = some ty) (hn : narrow ty v = v) (hf : fits ty v = true) (hd : decode c.code pc = .ok (.putfield index, 3)) (hp : pc + 3 = pc')
    (r : ∀ (T' : State) (h' : Heap), Stand p l e R s m args below meth c T' (locs ++ [⟨a, Jvm.RoadKit.slotOf Z O n d⟩]) cells slots → T'.heap = h' → Wr h h' a (Jvm.RoadKit.slotOf Z O n d) v → Run p e below Q En T' (mkF m pc' Ls rest)) : Run p e below Q En T (mkF m pc Ls (v :: .ref a :: rest)) := by
  subst hp
  obtain ⟨T', h', X', e', W', stp⟩ := putF X hx hZ hown (host := "") (Or.inl w) via eT F E L wi hty hn hf (g := mkF m pc Ls (v :: .ref a :: rest)) rfl rfl hd
  exact (r T' h' X' e' W').on stp
theorem r_newarray (X : Stand p l e R s m args below meth c T locs cells slots) (hx : p.tables.exec = Jvm.exec) (hZ : Z.Warmed39 s.vm) {aty : ArrayType} (w : (Jvm.Cond.arrayClass (newarray.typeOf aty)).before a0 Z = true) (eT : T.heap = h) {n : Int32} {cap : Nat} (hn : ¬ n < 0) (hcap : n.toNatClampNeg ≤ cap) (hb8 : cap * 8 ≤ 536870912) (hc : cells + 1 ≤ R.cells) (hl : slots + cap ≤ R.slots) (hd : decode c.code pc = .ok (.newarray aty, 2)) (hp : pc + 2 = pc')
    (r : ∀ (T' : State) (h' : Heap) (a : Addr) (cA : ClassId), a = h.size → Stand p l e R s m args below meth c T' locs (cells + 1) (slots + cap) → T'.heap = h' → Ext h h' → Arr Z h' a (newA cA (newarray.typeOf aty) n) (newarray.typeOf aty) → Run p e below Q En T' (mkF m pc' Ls (.ref a :: rest))) : Run p e below Q En T (mkF m pc Ls (.int n :: rest)) := by
  subst hp
  obtain ⟨T', h', cA, X', e', E', A', stp⟩ := newP X hx hZ w eT (g := mkF m pc Ls (.int n :: rest)) rfl hd rfl hn hcap hb8 hc hl
  exact (r T' h' h.size cA rfl X' e' E' A').on stp
theorem r_putFN (X : Stand p l e R s m args below meth c T locs cells slots) (hx : p.tables.exec = Jvm.exec) (hZ : Z.Warmed39 s.vm) {own R0 O n d C : String} {index kk : Nat} {ty : FieldType} {a : Addr} {v v' old : Value} (hown : s.vm.findClass own = some m.cls) (w : (Jvm.Cond.fieldLink own index R0 n d).before a0 Z = true) (via : Via Z R0 O n d) (eT : T.heap = h) (F : Fld Z h a O n d old) (E : Exa Z h a C) (L : (Jvm.Cond.lays C O n d).before a0 Z = true ∨ ((Jvm.Cond.laysFinal C O n d).before a0 Z = true ∧ own = O ∧ meth.name = "<init>")) (wi : (Jvm.Cond.instantiable C kk).before a0 Z = true) (hty : parseFieldDescriptor d = some ty) (hn : narrow ty v = v') (hf : fits ty v' = true) (hd : decode c.code pc = .ok (.putfield index, 3)) (hp : pc + 3 = pc')
    (r : ∀ (T' : State) (h' : Heap), Stand p l e R s m args below meth c T' (locs ++ [⟨a, Jvm.RoadKit.slotOf Z O n d⟩]) cells slots → T'.heap = h' → Wr h h' a (Jvm.RoadKit.slotOf Z O n d) v' → Run p e below Q En T' (mkF m pc' Ls rest)) : Run p e below Q En T (mkF m pc Ls (v :: .ref a :: rest)) := by
  subst hp
  obtain ⟨T', h', X', e', W', stp⟩ := putFN X hx hZ hown w via eT F E L wi hty hn hf (g := mkF m pc Ls (v :: .ref a :: rest)) rfl rfl hd
  exact (r T' h' X' e' W').on stp
theorem r_anewarray (X : Stand p l e R s m args below meth c T locs cells slots) (hx : p.tables.exec = Jvm.exec) (hZ : Z.Warmed39 s.vm) {own C : String} {index : Nat} (hown : s.vm.findClass own = some m.cls) (w1 : (Jvm.Cond.classLink own index C).before a0 Z = true) (w2 : (Jvm.Cond.arrayOver (.object C)).before a0 Z = true) (eT : T.heap = h) {n : Int32} {cap : Nat} (hn : ¬ n < 0) (hcap : n.toNatClampNeg ≤ cap) (hb8 : cap * 8 ≤ 536870912) (hc : cells + 1 ≤ R.cells) (hl : slots + cap ≤ R.slots) (hd : decode c.code pc = .ok (.anewarray index, 3)) (hp : pc + 3 = pc')
    (r : ∀ (T' : State) (h' : Heap) (a : Addr) (cA : ClassId), a = h.size → Stand p l e R s m args below meth c T' locs (cells + 1) (slots + cap) → T'.heap = h' → Ext h h' → Arr Z h' a (newA cA (.object C) n) (.object C) → Ovr Z cA C → Run p e below Q En T' (mkF m pc' Ls (.ref a :: rest))) : Run p e below Q En T (mkF m pc Ls (.int n :: rest)) := by
  subst hp
  obtain ⟨T', h', cA, X', e', E', A', O', stp⟩ := newR X hx hZ hown w1 w2 eT (g := mkF m pc Ls (.int n :: rest)) rfl hd rfl hn hcap hb8 hc hl
  exact (r T' h' h.size cA rfl X' e' E' A' O').on stp
theorem r_iastore (X : Stand p l e R s m args below meth c T locs cells slots) (hx : p.tables.exec = Jvm.exec) (hZ : Z.Warmed39 s.vm) (eT : T.heap = h) {a : Addr} {cl : Cell} {j : Int32} {x : Int32} (A : Arr Z h a cl .int) (hj : ¬ (j < 0 ∨ cl.slots.size ≤ j.toNatClampNeg)) (hd : decode c.code pc = .ok (.iastore, 1)) (hp : pc + 1 = pc')
    (r : ∀ (T' : State) (h' : Heap), Stand p l e R s m args below meth c T' (locs ++ [⟨a, j.toNatClampNeg⟩]) cells slots → T'.heap = h' → Wr h h' a j.toNatClampNeg (.int x) → Run p e below Q En T' (mkF m pc' Ls rest)) : Run p e below Q En T (mkF m pc Ls (.int x :: .int j :: .ref a :: rest)) := by
  subst hp
  obtain ⟨T', h', X', e', W', stp⟩ := stI X hx hZ eT A hj (g := mkF m pc Ls (.int x :: .int j :: .ref a :: rest)) rfl rfl hd
  exact (r T' h' X' e' W').on stp
theorem r_lastore (X : Stand p l e R s m args below meth c T locs cells slots) (hx : p.tables.exec = Jvm.exec) (hZ : Z.Warmed39 s.vm) (eT : T.heap = h) {a : Addr} {cl : Cell} {j : Int32} {x : Int64} (A : Arr Z h a cl .long) (hj : ¬ (j < 0 ∨ cl.slots.size ≤ j.toNatClampNeg)) (hd : decode c.code pc = .ok (.lastore, 1)) (hp : pc + 1 = pc')
    (r : ∀ (T' : State) (h' : Heap), Stand p l e R s m args below meth c T' (locs ++ [⟨a, j.toNatClampNeg⟩]) cells slots → T'.heap = h' → Wr h h' a j.toNatClampNeg (.long x) → Run p e below Q En T' (mkF m pc' Ls rest)) : Run p e below Q En T (mkF m pc Ls (.long x :: .int j :: .ref a :: rest)) := by
  subst hp
  obtain ⟨T', h', X', e', W', stp⟩ := stJ X hx hZ eT A hj (g := mkF m pc Ls (.long x :: .int j :: .ref a :: rest)) rfl rfl hd
  exact (r T' h' X' e' W').on stp
theorem r_castore (X : Stand p l e R s m args below meth c T locs cells slots) (hx : p.tables.exec = Jvm.exec) (hZ : Z.Warmed39 s.vm) (eT : T.heap = h) {a : Addr} {cl : Cell} {j x : Int32} (A : Arr Z h a cl .char) (hj : ¬ (j < 0 ∨ cl.slots.size ≤ j.toNatClampNeg)) (hd : decode c.code pc = .ok (.castore, 1)) (hp : pc + 1 = pc')
    (r : ∀ (T' : State) (h' : Heap), Stand p l e R s m args below meth c T' (locs ++ [⟨a, j.toNatClampNeg⟩]) cells slots → T'.heap = h' → Wr h h' a j.toNatClampNeg (.int (nar .char x)) → Run p e below Q En T' (mkF m pc' Ls rest)) : Run p e below Q En T (mkF m pc Ls (.int x :: .int j :: .ref a :: rest)) := by
  subst hp
  obtain ⟨T', h', X', e', W', stp⟩ := stC X hx hZ eT A hj (g := mkF m pc Ls (.int x :: .int j :: .ref a :: rest)) rfl rfl hd
  exact (r T' h' X' e' W').on stp
theorem r_sastore (X : Stand p l e R s m args below meth c T locs cells slots) (hx : p.tables.exec = Jvm.exec) (hZ : Z.Warmed39 s.vm) (eT : T.heap = h) {a : Addr} {cl : Cell} {j x : Int32} (A : Arr Z h a cl .short) (hj : ¬ (j < 0 ∨ cl.slots.size ≤ j.toNatClampNeg)) (hd : decode c.code pc = .ok (.sastore, 1)) (hp : pc + 1 = pc')
    (r : ∀ (T' : State) (h' : Heap), Stand p l e R s m args below meth c T' (locs ++ [⟨a, j.toNatClampNeg⟩]) cells slots → T'.heap = h' → Wr h h' a j.toNatClampNeg (.int (nar .short x)) → Run p e below Q En T' (mkF m pc' Ls rest)) : Run p e below Q En T (mkF m pc Ls (.int x :: .int j :: .ref a :: rest)) := by
  subst hp
  obtain ⟨T', h', X', e', W', stp⟩ := stS X hx hZ eT A hj (g := mkF m pc Ls (.int x :: .int j :: .ref a :: rest)) rfl rfl hd
  exact (r T' h' X' e' W').on stp
theorem r_bastoreB (X : Stand p l e R s m args below meth c T locs cells slots) (hx : p.tables.exec = Jvm.exec) (hZ : Z.Warmed39 s.vm) (eT : T.heap = h) {a : Addr} {cl : Cell} {j x : Int32} (A : Arr Z h a cl .byte) (hj : ¬ (j < 0 ∨ cl.slots.size ≤ j.toNatClampNeg)) (hd : decode c.code pc = .ok (.bastore, 1)) (hp : pc + 1 = pc')
    (r : ∀ (T' : State) (h' : Heap), Stand p l e R s m args below meth c T' (locs ++ [⟨a, j.toNatClampNeg⟩]) cells slots → T'.heap = h' → Wr h h' a j.toNatClampNeg (.int (nar .byte x)) → Run p e below Q En T' (mkF m pc' Ls rest)) : Run p e below Q En T (mkF m pc Ls (.int x :: .int j :: .ref a :: rest)) := by
  subst hp
  obtain ⟨T', h', X', e', W', stp⟩ := stB X hx hZ eT A hj (g := mkF m pc Ls (.int x :: .int j :: .ref a :: rest)) rfl rfl hd
  exact (r T' h' X' e' W').on stp
theorem r_bastoreZ (X : Stand p l e R s m args below meth c T locs cells slots) (hx : p.tables.exec = Jvm.exec) (hZ : Z.Warmed39 s.vm) (eT : T.heap = h) {a : Addr} {cl : Cell} {j x : Int32} (A : Arr Z h a cl .boolean) (hj : ¬ (j < 0 ∨ cl.slots.size ≤ j.toNatClampNeg)) (hd : decode c.code pc = .ok (.bastore, 1)) (hp : pc + 1 = pc')
    (r : ∀ (T' : State) (h' : Heap), Stand p l e R s m args below meth c T' (locs ++ [⟨a, j.toNatClampNeg⟩]) cells slots → T'.heap = h' → Wr h h' a j.toNatClampNeg (.int (nar .boolean x)) → Run p e below Q En T' (mkF m pc' Ls rest)) : Run p e below Q En T (mkF m pc Ls (.int x :: .int j :: .ref a :: rest)) := by
  subst hp
  obtain ⟨T', h', X', e', W', stp⟩ := stZ X hx hZ eT A hj (g := mkF m pc Ls (.int x :: .int j :: .ref a :: rest)) rfl rfl hd
  exact (r T' h' X' e' W').on stp
theorem r_arraylength (X : Stand p l e R s m args below meth c T locs cells slots) (hx : p.tables.exec = Jvm.exec) (hZ : Z.Warmed39 s.vm) (eT : T.heap = h) {a : Addr} {cl : Cell} {ty : FieldType} {n : Int32} (A : Arr Z h a cl ty) (hn : cl.slots.size.toInt32 = n) (hd : decode c.code pc = .ok (.arraylength, 1)) (hp : pc + 1 = pc') (r : Run p e below Q En T (mkF m pc' Ls (.int n :: rest))) : Run p e below Q En T (mkF m pc Ls (.ref a :: rest)) := by
  subst hp hn; exact r.on fun _ q => X.arraylength hx (by rw [eT]; exact A.1) (State.isArrayOf_alike hZ.alike A.2.1) (g := mkF m pc Ls (.ref a :: rest)) rfl rfl hd _ q
theorem r_iaload (X : Stand p l e R s m args below meth c T locs cells slots) (hx : p.tables.exec = Jvm.exec) (hZ : Z.Warmed39 s.vm) (eT : T.heap = h) {a : Addr} {cl : Cell} {j : Int32} {v : Int32} (A : Arr Z h a cl .int) (hj : ¬ (j < 0 ∨ cl.slots.size ≤ j.toNatClampNeg)) (hat : cl.slots[j.toNatClampNeg]? = some (.int v)) (hd : decode c.code pc = .ok (.iaload, 1)) (hp : pc + 1 = pc') (r : Run p e below Q En T (mkF m pc' Ls (.int v :: rest))) : Run p e below Q En T (mkF m pc Ls (.int j :: .ref a :: rest)) := by
  subst hp; exact r.on fun _ q => X.iaload hx (j := j) (v := .int v) (by rw [eT]; exact A.1) (State.isArrayOf_alike hZ.alike A.2.1) A.2.2 hj hat (g := mkF m pc Ls (.int j :: .ref a :: rest)) rfl rfl hd _ q
theorem r_caload (X : Stand p l e R s m args below meth c T locs cells slots) (hx : p.tables.exec = Jvm.exec) (hZ : Z.Warmed39 s.vm) (eT : T.heap = h) {a : Addr} {cl : Cell} {j : Int32} {v : Int32} (A : Arr Z h a cl .char) (hj : ¬ (j < 0 ∨ cl.slots.size ≤ j.toNatClampNeg)) (hat : cl.slots[j.toNatClampNeg]? = some (.int v)) (hd : decode c.code pc = .ok (.caload, 1)) (hp : pc + 1 = pc') (r : Run p e below Q En T (mkF m pc' Ls (.int v :: rest))) : Run p e below Q En T (mkF m pc Ls (.int j :: .ref a :: rest)) := by
  subst hp; exact r.on fun _ q => X.caload hx (j := j) (v := .int v) (by rw [eT]; exact A.1) (State.isArrayOf_alike hZ.alike A.2.1) A.2.2 hj hat (g := mkF m pc Ls (.int j :: .ref a :: rest)) rfl rfl hd _ q
theorem r_saload (X : Stand p l e R s m args below meth c T locs cells slots) (hx : p.tables.exec = Jvm.exec) (hZ : Z.Warmed39 s.vm) (eT : T.heap = h) {a : Addr} {cl : Cell} {j : Int32} {v : Int32} (A : Arr Z h a cl .short) (hj : ¬ (j < 0 ∨ cl.slots.size ≤ j.toNatClampNeg)) (hat : cl.slots[j.toNatClampNeg]? = some (.int v)) (hd : decode c.code pc = .ok (.saload, 1)) (hp : pc + 1 = pc') (r : Run p e below Q En T (mkF m pc' Ls (.int v :: rest))) : Run p e below Q En T (mkF m pc Ls (.int j :: .ref a :: rest)) := by
  subst hp; exact r.on fun _ q => X.saload hx (j := j) (v := .int v) (by rw [eT]; exact A.1) (State.isArrayOf_alike hZ.alike A.2.1) A.2.2 hj hat (g := mkF m pc Ls (.int j :: .ref a :: rest)) rfl rfl hd _ q
theorem r_baload (X : Stand p l e R s m args below meth c T locs cells slots) (hx : p.tables.exec = Jvm.exec) (hZ : Z.Warmed39 s.vm) (eT : T.heap = h) {a : Addr} {cl : Cell} {j : Int32} {v : Int32} (A : Arr Z h a cl .byte) (hj : ¬ (j < 0 ∨ cl.slots.size ≤ j.toNatClampNeg)) (hat : cl.slots[j.toNatClampNeg]? = some (.int v)) (hd : decode c.code pc = .ok (.baload, 1)) (hp : pc + 1 = pc') (r : Run p e below Q En T (mkF m pc' Ls (.int v :: rest))) : Run p e below Q En T (mkF m pc Ls (.int j :: .ref a :: rest)) := by
  subst hp; exact r.on fun _ q => X.baloadBytes hx (j := j) (v := .int v) (by rw [eT]; exact A.1) (State.isArrayOf_alike hZ.alike A.2.1) A.2.2 hj hat (g := mkF m pc Ls (.int j :: .ref a :: rest)) rfl rfl hd _ q
theorem r_baloadZ (X : Stand p l e R s m args below meth c T locs cells slots) (hx : p.tables.exec = Jvm.exec) (hZ : Z.Warmed39 s.vm) (eT : T.heap = h) {a : Addr} {cl : Cell} {j : Int32} {v : Int32} (A : Arr Z h a cl .boolean) (hj : ¬ (j < 0 ∨ cl.slots.size ≤ j.toNatClampNeg)) (hat : cl.slots[j.toNatClampNeg]? = some (.int v)) (hd : decode c.code pc = .ok (.baload, 1)) (hp : pc + 1 = pc') (r : Run p e below Q En T (mkF m pc' Ls (.int v :: rest))) : Run p e below Q En T (mkF m pc Ls (.int j :: .ref a :: rest)) := by
  subst hp; exact r.on fun _ q => X.baloadBooleans hx (j := j) (v := .int v) (by rw [eT]; exact A.1) (State.isArrayOf_alike hZ.alike A.2.1) A.2.2 hj hat (g := mkF m pc Ls (.int j :: .ref a :: rest)) rfl rfl hd _ q
theorem r_laload (X : Stand p l e R s m args below meth c T locs cells slots) (hx : p.tables.exec = Jvm.exec) (hZ : Z.Warmed39 s.vm) (eT : T.heap = h) {a : Addr} {cl : Cell} {j : Int32} {v : Int64} (A : Arr Z h a cl .long) (hj : ¬ (j < 0 ∨ cl.slots.size ≤ j.toNatClampNeg)) (hat : cl.slots[j.toNatClampNeg]? = some (.long v)) (hd : decode c.code pc = .ok (.laload, 1)) (hp : pc + 1 = pc') (r : Run p e below Q En T (mkF m pc' Ls (.long v :: rest))) : Run p e below Q En T (mkF m pc Ls (.int j :: .ref a :: rest)) := by
  subst hp; exact r.on fun _ q => X.laload hx (j := j) (v := .long v) (by rw [eT]; exact A.1) (State.isArrayOf_alike hZ.alike A.2.1) A.2.2 hj hat (g := mkF m pc Ls (.int j :: .ref a :: rest)) rfl rfl hd _ q
theorem r_ldcS {vm0 : Vm} {k0 nn : Nat} (X : Stand p l e R (s.setVm vm0) m args below meth c T locs cells slots) (hx : p.tables.exec = Jvm.exec) (hZ : Z.Warmed39 vm0) {own text : String} {index : Nat} (hown : vm0.findClass own = some m.cls) (w : (Jvm.Cond.stringLink own index text).before a0 Z = true) (wS : ∀ a ∈ Bundle.stringAtoms, a.before a0 Z = true) (eT : T.heap = h) (hS : s.Since vm0 k0) (hk : k0 ≤ h.size) (hn : 4 * text.toList.length ≤ nn) (hbig : nn ≤ 536870912) (hc : cells + 2 ≤ R.cells) (hl : slots + (nn + 4) ≤ R.slots) (hd : decode c.code pc = .ok (.ldc index, 2)) (hp : pc + 2 = pc')
    (r : ∀ (a : Addr) (T' : State) (h' : Heap) (k1 : Nat), Stand p l e R (s.setVm T'.vm) m args below meth c T' locs (cells + 2) (slots + (nn + 4)) → T'.heap = h' → Ext h h' → s.Since T'.vm k1 → k1 ≤ h'.size → Z.Warmed39 (s.setVm T'.vm).vm → (s.setVm T'.vm).vm.findClass own = some m.cls → Run p e below Q En T' (mkF m pc' Ls (.ref a :: rest))) : Run p e below Q En T (mkF m pc Ls rest) := by
  subst hp
  obtain ⟨a, T', h', k1, X', e', E', hS', hk', hZ', ho', stp⟩ := ldcS X hx hZ hown w wS eT hS hk (g := mkF m pc Ls rest) rfl hd hn hbig hc hl
  exact (r a T' h' k1 X' e' E' hS' hk' hZ' ho').on stp
theorem w_retN {vm1 : Vm} {k1 : Nat} (X : Stand p l e R (s.setVm vm1) m args below meth c T locs cells slots) (hS : s.Since vm1 k1) (hk : k1 ≤ T.heap.size) (hx : p.tables.exec = Jvm.exec) (hlk : meth.locks = false) {t : FieldType} {z w : Int32} (hret : meth.sig.returnType = some t) (ht : t = .boolean ∨ t = .byte ∨ t = .char ∨ t = .short) (hd : decode c.code pc = .ok (.ireturn, 1)) (hn : nar t z = w) (hq : Q (some (.int w)) T.heap locs) (h1 : cells ≤ kc) (h2 : slots ≤ ks) : Run p e below Q (fun o t L => ReturnedEndW s o t L kc ks) T (mkF m pc Ls (.int z :: rest)) := by
  subst hn
  obtain ⟨fs, hr, hrun, hended, h4, h5, h6, h7⟩ := X.leaveW hS hk (v := some (.int (nar t z))) (fun q => by rw [hret] at q; cases q) hlk
  exact ⟨_, _, retN X hx hret ht hd hr, hrun, hended, _, _, rfl, hq, h4, h5, h6, h7.mono h1 h2⟩
theorem w_retV {vm1 : Vm} {k1 : Nat} (X : Stand p l e R (s.setVm vm1) m args below meth c T locs cells slots) (hS : s.Since vm1 k1) (hk : k1 ≤ T.heap.size) (hx : p.tables.exec = Jvm.exec) (hlk : meth.locks = false) {t : FieldType} {w : Value} {i : Instr} (hret : meth.sig.returnType = some t) (hn : narrow t w = w)
    (hi : (i = .ireturn ∧ (t = .int ∨ t = .boolean ∨ t = .byte ∨ t = .char ∨ t = .short) ∧ ∃ z, w = .int z) ∨ (i = .lreturn ∧ t = .long ∧ ∃ z, w = .long z) ∨ (i = .dreturn ∧ t = .double ∧ ∃ z, w = .double z) ∨ (i = .freturn ∧ t = .float ∧ ∃ z, w = .float z) ∨ (i = .areturn ∧ t.isReference = true ∧ w.isRef = true))
    (hd : decode c.code pc = .ok (i, 1)) (hq : Q (some w) T.heap locs) (h1 : cells ≤ kc) (h2 : slots ≤ ks) : Run p e below Q (fun o t L => ReturnedEndW s o t L kc ks) T (mkF m pc Ls (w :: rest)) := by
  obtain ⟨fs, hr, hrun, hended, h4, h5, h6, h7⟩ := X.leaveW hS hk (v := some w) (fun q => by rw [hret] at q; cases q) hlk
  exact ⟨_, _, retOut X hx hret hn hi hd hr, hrun, hended, _, _, rfl, hq, h4, h5, h6, h7.mono h1 h2⟩
theorem w_ret0 {vm1 : Vm} {k1 : Nat} (X : Stand p l e R (s.setVm vm1) m args below meth c T locs cells slots) (hS : s.Since vm1 k1) (hk : k1 ≤ T.heap.size) (hx : p.tables.exec = Jvm.exec) (hlk : meth.locks = false) (hret : meth.sig.returnType = none) (hd : decode c.code pc = .ok (.return_, 1)) (hq : Q none T.heap locs) (h1 : cells ≤ kc) (h2 : slots ≤ ks) : Run p e below Q (fun o t L => ReturnedEndW s o t L kc ks) T (mkF m pc Ls []) := by
  obtain ⟨fs, hr, hrun, hended, h4, h5, h6, h7⟩ := X.leaveW hS hk (v := none) (fun _ => rfl) hlk
  exact ⟨_, _, X.returnOut hx hret hd hr, hrun, hended, _, _, rfl, hq, h4, h5, h6, h7.mono h1 h2⟩
abbrev MetW (l : Launch) (Z : State) (y : MethodName) (bytes : ByteArray) (maxL : Nat) (ret : Option FieldType) (ws : List Jvm.Cond) (rm : Room) (as' : Array Value) (h0 : Heap) (Q : Option Value → Heap → List Loc → Prop) (kc ks : Nat) : Prop :=
  MetFree l y (head1 (Jvm.Cond.code y bytes maxL ret :: ws) rm) (fun a U => a = as' ∧ Z.Warmed39 U.vm ∧ U.heap = h0) (fun _ _ _ _ _ => True) (fun _ U o U' => ∃ v L, o = .returned v ∧ Q v U'.heap L ∧ ReturnedEndW U o U' L kc ks)
theorem metW_of {y : MethodName} {bytes : ByteArray} {maxL : Nat} {ret : Option FieldType} {ws : List Jvm.Cond} {rm : Room} {as' : Array Value} {h0 : Heap} {Q : Option Value → Heap → List Loc → Prop} {kc ks : Nat} {f0 : MethodId → JFrame} (hpn : plainFor y = true)
    (hef : ∀ m, entryFrame m as' maxL = f0 m)
    (body : ∀ (p : Program) (e : Env) (s : State) (m : MethodId) (below : List Frame) (meth : Method) (c : Code) (s₁ : State), Stand p l e rm s m as' below meth c s₁ [] 0 0 → p.tables.exec = Jvm.exec → c.code = bytes → c.maxLocals = maxL → meth.sig.returnType = ret → meth.locks = false → s.vm.findClass y.cls = some m.cls → meth.name = y.name → Z.Warmed39 s.vm → s₁.heap = h0 → Run p e below Q (fun o t L => ReturnedEndW s o t L kc ks) s₁ (f0 m)) :
    MetW l Z y bytes maxL ret ws rm as' h0 Q kc ks := by
  refine MetFree.of_bodySF (code := bytes) (maxLocals := maxL) (ret := ret) hpn hisR ?_
  intro p e s m args below meth c s₁ Bd hml0 hP hK
  obtain ⟨rfl, hZ, hh⟩ := hP
  obtain ⟨s₂, o, r⟩ := body p e s m below meth c s₁ (Stand.of_body Bd) Bd.exec Bd.bytes hml0 Bd.returns (BodyLoose.notSynchronized Bd) (findClass_of_methodNamed Bd.named) (name_of_methodNamed Bd.named Bd.method).1 hZ (by rw [← hh, Bd.state]; rfl)
  rw [hef m]
  exact ⟨s₂, o, r⟩
end Core
section Arrays
variable {p : Program} {l : Launch} {e : Env} {R : Room} {s : State} {m : MethodId} {args : Array Value} {below : List Frame} {meth : Method} {c : Code} {T T' : State} {locs : List Loc} {cells slots : Nat} {Q : Option Value → Heap → List Loc → Prop} {En : Outcome → State → List Loc → Prop} {kc ks : Nat} {Z : State} {a0 : Array Value} {h h' : Heap} {Ls : Array Slot} {st rest : List Value} {pc pc' : Nat} {a b : Addr} {ty : FieldType} {n : Nat} {f g : Nat → Value} {F : Nat → Int32} {sl : Nat} {v : Value} {j : Int32}
/-- an array of n places and what lies in each -/
def Ary (Z : State) (h : Heap) (a : Addr) (ty : FieldType) (n : Nat) (f : Nat → Value) : Prop := ∃ c : Cell, Arr Z h a c ty ∧ c.slots.size = n ∧ ∀ i, i < n → c.slots[i]? = some (f i)
theorem Ary.lt (A : Ary Z h a ty n f) : a < h.size := by obtain ⟨c, A, -⟩ := A; exact A.lt
theorem Ary.ext (A : Ary Z h a ty n f) (E : Ext h h') : Ary Z h' a ty n f := by obtain ⟨c, A, r⟩ := A; exact ⟨c, A.ext E, r⟩
theorem Ary.other (A : Ary Z h b ty n f) (W : Wr h h' a sl v) (q : b ≠ a) : Ary Z h' b ty n f := by obtain ⟨c, A, r⟩ := A; exact ⟨c, A.other W q, r⟩
theorem Ary.keep {ws : List Addr} (A : Ary Z h a ty n f) (K : Keep h h' ws) (q : a ∉ ws) : Ary Z h' a ty n f := by obtain ⟨c, A, r⟩ := A; exact ⟨c, ⟨K.2.1 a c A.1 q, A.2⟩, r⟩
theorem Ary.congr (A : Ary Z h a ty n f) (q : ∀ i, i < n → f i = g i) : Ary Z h a ty n g := by obtain ⟨c, A, r1, r2⟩ := A; exact ⟨c, A, r1, fun i hi => by rw [r2 i hi, q i hi]⟩
theorem Ary.set (A : Ary Z h a ty n f) (W : Wr h h' a j.toNatClampNeg v) : Ary Z h' a ty n (fun i => if i = j.toInt.toNat then v else f i) := by
  obtain ⟨c, A, r1, r2⟩ := A
  refine ⟨_, A.same W, by rw [sz_set]; exact r1, fun i hi => ?_⟩
  show (c.slots.setIfInBounds j.toNatClampNeg v)[i]? = _
  have ej : j.toNatClampNeg = j.toInt.toNat := rfl
  by_cases q : i = j.toInt.toNat
  · simp only [q, if_true]; rw [← ej]; rw [ej, ← q]; simp [Array.getElem?_setIfInBounds, r1, hi]
  · simp only [q, if_false]; rw [Array.getElem?_setIfInBounds_ne (by rw [ej]; exact fun y => q y.symm)]; exact r2 i hi
theorem Ary.setI {x : Int32} (A : Ary Z h a ty n (fun i => .int (F i))) (W : Wr h h' a j.toNatClampNeg (.int x)) : Ary Z h' a ty n (fun i => .int (if i = j.toInt.toNat then x else F i)) :=
  (A.set W).congr fun i _ => by
    by_cases q : i = j.toInt.toNat
    · simp only [if_pos q]
    · simp only [if_neg q]
theorem Ary.setJ {x : Int64} {F : Nat → Int64} (A : Ary Z h a ty n (fun i => .long (F i))) (W : Wr h h' a j.toNatClampNeg (.long x)) : Ary Z h' a ty n (fun i => .long (if i = j.toInt.toNat then x else F i)) :=
  (A.set W).congr fun i _ => by
    by_cases q : i = j.toInt.toNat
    · simp only [if_pos q]
    · simp only [if_neg q]
theorem Ary.new {cA : ClassId} {z : Int32} (A : Arr Z h a (newA cA ty z) ty) (hz : z.toInt.toNat = n) : Ary Z h a ty n (fun _ => defaultValue ty) := by
  have ej : z.toNatClampNeg = z.toInt.toNat := rfl
  refine ⟨_, A, by rw [sz_new]; exact hz, fun i hi => ?_⟩
  show (Array.replicate z.toNatClampNeg (defaultValue ty))[i]? = _
  rw [ej, hz]; simp [hi]
theorem own_inb {cl : Cell} (h1 : cl.slots.size = n) (h0 : 0 ≤ j.toInt) (h2 : j.toInt < n) : ¬ (j < 0 ∨ cl.slots.size ≤ j.toNatClampNeg) := by
  rw [Int32.lt_iff_toInt_lt, show (0 : Int32).toInt = 0 from rfl]
  have ej : j.toNatClampNeg = j.toInt.toNat := rfl
  omega
theorem own_at {cl : Cell} (h3 : ∀ i, i < n → cl.slots[i]? = some (f i)) (h0 : 0 ≤ j.toInt) (h2 : j.toInt < n) (hv : f j.toInt.toNat = v) : cl.slots[j.toNatClampNeg]? = some v := by
  rw [← hv]; exact h3 _ (show j.toInt.toNat < n by omega)
theorem r_len (X : Stand p l e R s m args below meth c T locs cells slots) (hx : p.tables.exec = Jvm.exec) (hZ : Z.Warmed39 s.vm) (eT : T.heap = h) {z : Int32} (A : Ary Z h a ty n f) (hn : z.toInt = n) (hd : decode c.code pc = .ok (.arraylength, 1)) (hp : pc + 1 = pc') (r : Run p e below Q En T (mkF m pc' Ls (.int z :: rest))) : Run p e below Q En T (mkF m pc Ls (.ref a :: rest)) := by
  obtain ⟨cl, A, r1, -⟩ := A
  refine r_arraylength X hx hZ eT A ?_ hd hp r
  rw [r1]
  have q : z.toInt.toNat = n := by omega
  rw [← q]
  exact (back32 (n := z) (by rw [Int32.lt_iff_toInt_lt, show (0 : Int32).toInt = 0 from rfl]; omega)).1
theorem q_iaload (X : Stand p l e R s m args below meth c T locs cells slots) (hx : p.tables.exec = Jvm.exec) (hZ : Z.Warmed39 s.vm) (eT : T.heap = h) {v : Int32} (A : Ary Z h a .int n f) (h0 : 0 ≤ j.toInt) (h1 : j.toInt < n) (hv : f j.toInt.toNat = .int v) (hd : decode c.code pc = .ok (.iaload, 1)) (hp : pc + 1 = pc') (r : Run p e below Q En T (mkF m pc' Ls (.int v :: rest))) : Run p e below Q En T (mkF m pc Ls (.int j :: .ref a :: rest)) := by
  obtain ⟨cl, A, r1, r2⟩ := A
  exact r_iaload X hx hZ eT A (own_inb r1 h0 h1) (own_at r2 h0 h1 hv) hd hp r
theorem q_caload (X : Stand p l e R s m args below meth c T locs cells slots) (hx : p.tables.exec = Jvm.exec) (hZ : Z.Warmed39 s.vm) (eT : T.heap = h) {v : Int32} (A : Ary Z h a .char n f) (h0 : 0 ≤ j.toInt) (h1 : j.toInt < n) (hv : f j.toInt.toNat = .int v) (hd : decode c.code pc = .ok (.caload, 1)) (hp : pc + 1 = pc') (r : Run p e below Q En T (mkF m pc' Ls (.int v :: rest))) : Run p e below Q En T (mkF m pc Ls (.int j :: .ref a :: rest)) := by
  obtain ⟨cl, A, r1, r2⟩ := A
  exact r_caload X hx hZ eT A (own_inb r1 h0 h1) (own_at r2 h0 h1 hv) hd hp r
theorem q_saload (X : Stand p l e R s m args below meth c T locs cells slots) (hx : p.tables.exec = Jvm.exec) (hZ : Z.Warmed39 s.vm) (eT : T.heap = h) {v : Int32} (A : Ary Z h a .short n f) (h0 : 0 ≤ j.toInt) (h1 : j.toInt < n) (hv : f j.toInt.toNat = .int v) (hd : decode c.code pc = .ok (.saload, 1)) (hp : pc + 1 = pc') (r : Run p e below Q En T (mkF m pc' Ls (.int v :: rest))) : Run p e below Q En T (mkF m pc Ls (.int j :: .ref a :: rest)) := by
  obtain ⟨cl, A, r1, r2⟩ := A
  exact r_saload X hx hZ eT A (own_inb r1 h0 h1) (own_at r2 h0 h1 hv) hd hp r
theorem q_baload (X : Stand p l e R s m args below meth c T locs cells slots) (hx : p.tables.exec = Jvm.exec) (hZ : Z.Warmed39 s.vm) (eT : T.heap = h) {v : Int32} (A : Ary Z h a .byte n f) (h0 : 0 ≤ j.toInt) (h1 : j.toInt < n) (hv : f j.toInt.toNat = .int v) (hd : decode c.code pc = .ok (.baload, 1)) (hp : pc + 1 = pc') (r : Run p e below Q En T (mkF m pc' Ls (.int v :: rest))) : Run p e below Q En T (mkF m pc Ls (.int j :: .ref a :: rest)) := by
  obtain ⟨cl, A, r1, r2⟩ := A
  exact r_baload X hx hZ eT A (own_inb r1 h0 h1) (own_at r2 h0 h1 hv) hd hp r
theorem q_baloadZ (X : Stand p l e R s m args below meth c T locs cells slots) (hx : p.tables.exec = Jvm.exec) (hZ : Z.Warmed39 s.vm) (eT : T.heap = h) {v : Int32} (A : Ary Z h a .boolean n f) (h0 : 0 ≤ j.toInt) (h1 : j.toInt < n) (hv : f j.toInt.toNat = .int v) (hd : decode c.code pc = .ok (.baload, 1)) (hp : pc + 1 = pc') (r : Run p e below Q En T (mkF m pc' Ls (.int v :: rest))) : Run p e below Q En T (mkF m pc Ls (.int j :: .ref a :: rest)) := by
  obtain ⟨cl, A, r1, r2⟩ := A
  exact r_baloadZ X hx hZ eT A (own_inb r1 h0 h1) (own_at r2 h0 h1 hv) hd hp r
theorem q_laload (X : Stand p l e R s m args below meth c T locs cells slots) (hx : p.tables.exec = Jvm.exec) (hZ : Z.Warmed39 s.vm) (eT : T.heap = h) {v : Int64} (A : Ary Z h a .long n f) (h0 : 0 ≤ j.toInt) (h1 : j.toInt < n) (hv : f j.toInt.toNat = .long v) (hd : decode c.code pc = .ok (.laload, 1)) (hp : pc + 1 = pc') (r : Run p e below Q En T (mkF m pc' Ls (.long v :: rest))) : Run p e below Q En T (mkF m pc Ls (.int j :: .ref a :: rest)) := by
  obtain ⟨cl, A, r1, r2⟩ := A
  exact r_laload X hx hZ eT A (own_inb r1 h0 h1) (own_at r2 h0 h1 hv) hd hp r
theorem q_iastore (X : Stand p l e R s m args below meth c T locs cells slots) (hx : p.tables.exec = Jvm.exec) (hZ : Z.Warmed39 s.vm) (eT : T.heap = h) {x : Int32} {F : Nat → Int32} (A : Ary Z h a .int n (fun i => .int (F i))) (h0 : 0 ≤ j.toInt) (h1 : j.toInt < n) (hd : decode c.code pc = .ok (.iastore, 1)) (hp : pc + 1 = pc')
    (r : ∀ (T' : State) (h' : Heap), Stand p l e R s m args below meth c T' (locs ++ [⟨a, j.toNatClampNeg⟩]) cells slots → T'.heap = h' → Wr h h' a j.toNatClampNeg (.int x) → Ary Z h' a .int n (fun i => .int (if i = j.toInt.toNat then x else F i)) → Run p e below Q En T' (mkF m pc' Ls rest)) : Run p e below Q En T (mkF m pc Ls (.int x :: .int j :: .ref a :: rest)) := by
  have A' := A
  obtain ⟨cl, A, r1, r2⟩ := A
  exact r_iastore X hx hZ eT A (own_inb r1 h0 h1) hd hp fun T' h' X' e' W' => r T' h' X' e' W' (A'.setI W')
theorem q_lastore (X : Stand p l e R s m args below meth c T locs cells slots) (hx : p.tables.exec = Jvm.exec) (hZ : Z.Warmed39 s.vm) (eT : T.heap = h) {x : Int64} {F : Nat → Int64} (A : Ary Z h a .long n (fun i => .long (F i))) (h0 : 0 ≤ j.toInt) (h1 : j.toInt < n) (hd : decode c.code pc = .ok (.lastore, 1)) (hp : pc + 1 = pc')
    (r : ∀ (T' : State) (h' : Heap), Stand p l e R s m args below meth c T' (locs ++ [⟨a, j.toNatClampNeg⟩]) cells slots → T'.heap = h' → Wr h h' a j.toNatClampNeg (.long x) → Ary Z h' a .long n (fun i => .long (if i = j.toInt.toNat then x else F i)) → Run p e below Q En T' (mkF m pc' Ls rest)) : Run p e below Q En T (mkF m pc Ls (.long x :: .int j :: .ref a :: rest)) := by
  have A' := A
  obtain ⟨cl, A, r1, r2⟩ := A
  exact r_lastore X hx hZ eT A (own_inb r1 h0 h1) hd hp fun T' h' X' e' W' => r T' h' X' e' W' (A'.setJ W')
theorem q_castore (X : Stand p l e R s m args below meth c T locs cells slots) (hx : p.tables.exec = Jvm.exec) (hZ : Z.Warmed39 s.vm) (eT : T.heap = h) {x w : Int32} (A : Ary Z h a .char n (fun i => .int (F i))) (h0 : 0 ≤ j.toInt) (h1 : j.toInt < n) (hn : nar .char x = w) (hd : decode c.code pc = .ok (.castore, 1)) (hp : pc + 1 = pc')
    (r : ∀ (T' : State) (h' : Heap), Stand p l e R s m args below meth c T' (locs ++ [⟨a, j.toNatClampNeg⟩]) cells slots → T'.heap = h' → Wr h h' a j.toNatClampNeg (.int w) → Ary Z h' a .char n (fun i => .int (if i = j.toInt.toNat then w else F i)) → Run p e below Q En T' (mkF m pc' Ls rest)) : Run p e below Q En T (mkF m pc Ls (.int x :: .int j :: .ref a :: rest)) := by
  subst hn
  have A' := A
  obtain ⟨cl, A, r1, r2⟩ := A
  exact r_castore X hx hZ eT A (own_inb r1 h0 h1) hd hp fun T' h' X' e' W' => r T' h' X' e' W' (A'.setI W')
theorem q_sastore (X : Stand p l e R s m args below meth c T locs cells slots) (hx : p.tables.exec = Jvm.exec) (hZ : Z.Warmed39 s.vm) (eT : T.heap = h) {x w : Int32} (A : Ary Z h a .short n (fun i => .int (F i))) (h0 : 0 ≤ j.toInt) (h1 : j.toInt < n) (hn : nar .short x = w) (hd : decode c.code pc = .ok (.sastore, 1)) (hp : pc + 1 = pc')
    (r : ∀ (T' : State) (h' : Heap), Stand p l e R s m args below meth c T' (locs ++ [⟨a, j.toNatClampNeg⟩]) cells slots → T'.heap = h' → Wr h h' a j.toNatClampNeg (.int w) → Ary Z h' a .short n (fun i => .int (if i = j.toInt.toNat then w else F i)) → Run p e below Q En T' (mkF m pc' Ls rest)) : Run p e below Q En T (mkF m pc Ls (.int x :: .int j :: .ref a :: rest)) := by
  subst hn
  have A' := A
  obtain ⟨cl, A, r1, r2⟩ := A
  exact r_sastore X hx hZ eT A (own_inb r1 h0 h1) hd hp fun T' h' X' e' W' => r T' h' X' e' W' (A'.setI W')
theorem q_bastoreB (X : Stand p l e R s m args below meth c T locs cells slots) (hx : p.tables.exec = Jvm.exec) (hZ : Z.Warmed39 s.vm) (eT : T.heap = h) {x w : Int32} (A : Ary Z h a .byte n (fun i => .int (F i))) (h0 : 0 ≤ j.toInt) (h1 : j.toInt < n) (hn : nar .byte x = w) (hd : decode c.code pc = .ok (.bastore, 1)) (hp : pc + 1 = pc')
    (r : ∀ (T' : State) (h' : Heap), Stand p l e R s m args below meth c T' (locs ++ [⟨a, j.toNatClampNeg⟩]) cells slots → T'.heap = h' → Wr h h' a j.toNatClampNeg (.int w) → Ary Z h' a .byte n (fun i => .int (if i = j.toInt.toNat then w else F i)) → Run p e below Q En T' (mkF m pc' Ls rest)) : Run p e below Q En T (mkF m pc Ls (.int x :: .int j :: .ref a :: rest)) := by
  subst hn
  have A' := A
  obtain ⟨cl, A, r1, r2⟩ := A
  exact r_bastoreB X hx hZ eT A (own_inb r1 h0 h1) hd hp fun T' h' X' e' W' => r T' h' X' e' W' (A'.setI W')
theorem q_bastoreZ (X : Stand p l e R s m args below meth c T locs cells slots) (hx : p.tables.exec = Jvm.exec) (hZ : Z.Warmed39 s.vm) (eT : T.heap = h) {x w : Int32} (A : Ary Z h a .boolean n (fun i => .int (F i))) (h0 : 0 ≤ j.toInt) (h1 : j.toInt < n) (hn : nar .boolean x = w) (hd : decode c.code pc = .ok (.bastore, 1)) (hp : pc + 1 = pc')
    (r : ∀ (T' : State) (h' : Heap), Stand p l e R s m args below meth c T' (locs ++ [⟨a, j.toNatClampNeg⟩]) cells slots → T'.heap = h' → Wr h h' a j.toNatClampNeg (.int w) → Ary Z h' a .boolean n (fun i => .int (if i = j.toInt.toNat then w else F i)) → Run p e below Q En T' (mkF m pc' Ls rest)) : Run p e below Q En T (mkF m pc Ls (.int x :: .int j :: .ref a :: rest)) := by
  subst hn
  have A' := A
  obtain ⟨cl, A, r1, r2⟩ := A
  exact r_bastoreZ X hx hZ eT A (own_inb r1 h0 h1) hd hp fun T' h' X' e' W' => r T' h' X' e' W' (A'.setI W')
end Arrays
section Facts2
variable {Z : State} {h h' h0 : Heap} {ws : List Addr} {C n d : String} {v : Value} {a b : Addr}
theorem own_staKeep (F : Sta Z h C n d v) (K : Keep h h' ws) (q : ∀ x ∈ ws, ∃ c : Cell, h[x]? = some c ∧ c.vm.isStatics = false) : Sta Z h' C n d v := by
  obtain ⟨cf, i, k, f, st, cell, h1, h2, h3, h4, h5, h6, h7⟩ := F
  refine ⟨cf, i, k, f, st, cell, h1, h2, h3, h4, K.2.1 st cell h5 fun m => ?_, h6, h7⟩
  obtain ⟨c, e1, e2⟩ := q _ m
  cases h5.symm.trans e1
  rw [e2] at h6; cases h6
theorem own_exaS (E : Exa Z h a C) : ∃ c : Cell, h[a]? = some c ∧ c.vm.isStatics = false := by
  obtain ⟨c, _, h1, -, -, h4, -⟩ := E; exact ⟨c, h1, h4⟩
theorem own_arrS {c : Cell} {ty : FieldType} (A : Arr Z h a c ty) : ∃ c : Cell, h[a]? = some c ∧ c.vm.isStatics = false := ⟨c, A.1, A.plain⟩
theorem own_aryS {ty : FieldType} {m : Nat} {f : Nat → Value} (A : Ary Z h a ty m f) : ∃ c : Cell, h[a]? = some c ∧ c.vm.isStatics = false := by
  obtain ⟨c, A, -⟩ := A; exact own_arrS A
theorem own_staExt (F : Sta Z h C n d v) (E : Ext h h') : Sta Z h' C n d v := Sta.ext E F
theorem own_kext {E : Ext h h'} : Keep h h' [] := ⟨E.1, fun x c q _ => E.2 x c q, fun x c q => ⟨c, E.2 x c q, rfl, rfl, rfl⟩⟩
end Facts2
theorem own_rg (x : Int64) : -9223372036854775808 ≤ x.toInt ∧ x.toInt ≤ 9223372036854775807 := by
  have h1 := Int64.minValue_le_toInt x
  have h2 := Int64.toInt_le x
  have e1 : Int64.minValue.toInt = -9223372036854775808 := by decide
  have e2 : Int64.maxValue.toInt = 9223372036854775807 := by decide
  omega
theorem own_shr (x : Int64) : (x >>> ((32 : Int32) &&& 63).toInt64).toInt = x.toInt / 4294967296 := c_lshr x 32 32 rfl
theorem own_shr63 (x : Int64) : (x >>> ((63 : Int32) &&& 63).toInt64).toInt = x.toInt / 9223372036854775808 := c_lshr x 63 63 rfl
theorem own_ushr (x : Int64) : (ushrJ x 32).toInt = (x.toInt % 18446744073709551616) / 4294967296 := c_lushr x 32 32 rfl (by decide)
theorem own_mask (x : Int64) : (x &&& 4294967295).toInt = x.toInt % 4294967296 := c_maskL x 4294967295 32 (by decide) (by decide)
theorem own_add {x y : Int64} {s : Int} (hs : x.toInt + y.toInt = s) (h1 : -9223372036854775808 ≤ s) (h2 : s ≤ 9223372036854775807) : (x + y).toInt = s := by
  have := c_ladd x y; have := own_rg (x + y); omega
theorem own_mul {x y : Int64} {s : Int} (hs : x.toInt * y.toInt = s) (h1 : -9223372036854775808 ≤ s) (h2 : s ≤ 9223372036854775807) : (x * y).toInt = s := by
  have := c_lmul x y; have := own_rg (x * y); omega
theorem own_split (x1 x2 y1 y2 : Int) : (x1 * 4294967296 + x2) * (y1 * 4294967296 + y2) = x1 * y1 * 18446744073709551616 + x1 * y2 * 4294967296 + x2 * y1 * 4294967296 + x2 * y2 := by
  have a1 : x1 * 4294967296 * (y1 * 4294967296) = x1 * y1 * 18446744073709551616 := by
    rw [Int.mul_assoc x1, Int.mul_left_comm 4294967296 y1, ← Int.mul_assoc x1 y1, show (4294967296 : Int) * 4294967296 = 18446744073709551616 from rfl]
  have a2 : x1 * 4294967296 * y2 = x1 * y2 * 4294967296 := Int.mul_right_comm _ _ _
  have a3 : x2 * (y1 * 4294967296) = x2 * y1 * 4294967296 := (Int.mul_assoc _ _ _).symm
  rw [Int.add_mul, Int.mul_add, Int.mul_add, a1, a2, a3]
  omega
theorem own_high (x y : Int64) : (((x >>> ((32 : Int32) &&& 63).toInt64) * (y >>> ((32 : Int32) &&& 63).toInt64)) + ((((x >>> ((32 : Int32) &&& 63).toInt64) * (y &&& 4294967295)) + (ushrJ ((x &&& 4294967295) * (y &&& 4294967295)) 32)) >>> ((32 : Int32) &&& 63).toInt64) + ((((((x >>> ((32 : Int32) &&& 63).toInt64) * (y &&& 4294967295)) + (ushrJ ((x &&& 4294967295) * (y &&& 4294967295)) 32)) &&& 4294967295) + ((x &&& 4294967295) * (y >>> ((32 : Int32) &&& 63).toInt64))) >>> ((32 : Int32) &&& 63).toInt64)).toInt = (x.toInt * y.toInt) / 18446744073709551616 := by
  have rx := own_rg x
  have ry := own_rg y
  obtain ⟨X1, hX1⟩ : ∃ z, z = x.toInt / 4294967296 := ⟨_, rfl⟩
  obtain ⟨X2, hX2⟩ : ∃ z, z = x.toInt % 4294967296 := ⟨_, rfl⟩
  obtain ⟨Y1, hY1⟩ : ∃ z, z = y.toInt / 4294967296 := ⟨_, rfl⟩
  obtain ⟨Y2, hY2⟩ : ∃ z, z = y.toInt % 4294967296 := ⟨_, rfl⟩
  have ex : x.toInt = X1 * 4294967296 + X2 := by omega
  have ey : y.toInt = Y1 * 4294967296 + Y2 := by omega
  have bX1 : -2147483648 ≤ X1 ∧ X1 ≤ 2147483647 := by omega
  have bX2 : 0 ≤ X2 ∧ X2 ≤ 4294967295 := by omega
  have bY1 : -2147483648 ≤ Y1 ∧ Y1 ≤ 2147483647 := by omega
  have bY2 : 0 ≤ Y2 ∧ Y2 ≤ 4294967295 := by omega
  have x1 := own_shr x
  have y1 := own_shr y
  have x2 := own_mask x
  have y2 := own_mask y
  rw [← hX1] at x1
  rw [← hY1] at y1
  rw [← hX2] at x2
  rw [← hY2] at y2
  have sp := own_split X1 X2 Y1 Y2
  rw [← ex, ← ey] at sp
  generalize (x >>> ((32 : Int32) &&& 63).toInt64) = x1' at *
  generalize (y >>> ((32 : Int32) &&& 63).toInt64) = y1' at *
  generalize (x &&& 4294967295) = x2' at *
  generalize (y &&& 4294967295) = y2' at *
  have m22 := mc bX2.1 bX2.2 bY2.1 bY2.2
  have m12 := mc bX1.1 bX1.2 bY2.1 bY2.2
  have m21 := mc bX2.1 bX2.2 bY1.1 bY1.2
  have m11 := mc bX1.1 bX1.2 bY1.1 bY1.2
  have p12 : (x1' * y2').toInt = X1 * Y2 := own_mul (by rw [x1, y2]) (by omega) (by omega)
  have p21 : (x2' * y1').toInt = X2 * Y1 := own_mul (by rw [x2, y1]) (by omega) (by omega)
  have p11 : (x1' * y1').toInt = X1 * Y1 := own_mul (by rw [x1, y1]) (by omega) (by omega)
  have u := own_ushr (x2' * y2')
  have cm := c_lmul x2' y2'
  rw [x2, y2] at cm
  have p22 : (x2' * y2').toInt % 18446744073709551616 = X2 * Y2 := by omega
  rw [p22] at u
  generalize X1 * Y2 = P12 at *
  generalize X2 * Y1 = P21 at *
  generalize X1 * Y1 = P11 at *
  generalize X2 * Y2 = P22 at *
  generalize ushrJ (x2' * y2') 32 = u' at *
  have t : (x1' * y2' + u').toInt = P12 + P22 / 4294967296 := own_add (by rw [p12, u]) (by omega) (by omega)
  generalize (x1' * y2' + u') = t' at *
  have z1 := own_mask t'
  have z0 := own_shr t'
  rw [t] at z1 z0
  have w : ((t' &&& 4294967295) + x2' * y1').toInt = (P12 + P22 / 4294967296) % 4294967296 + P21 := own_add (by rw [z1, p21]) (by omega) (by omega)
  generalize ((t' &&& 4294967295) + x2' * y1') = w' at *
  have z3 := own_shr w'
  rw [w] at z3
  have s1 : (x1' * y1' + (t' >>> ((32 : Int32) &&& 63).toInt64)).toInt = P11 + (P12 + P22 / 4294967296) / 4294967296 := own_add (by rw [p11, z0]) (by omega) (by omega)
  rw [own_add (s := P11 + (P12 + P22 / 4294967296) / 4294967296 + ((P12 + P22 / 4294967296) % 4294967296 + P21) / 4294967296) (by rw [s1, z3]) (by omega) (by omega), sp]
  omega
def own_t (x y : Int64) : Int64 := if -9223372036854775808 ≤ x.toInt * y.toInt ∧ x.toInt * y.toInt ≤ 9223372036854775807 then x * y else -9223372036854775808
theorem own_sgn (x y z : Int64) (hz : z.toInt = (x.toInt * y.toInt) / 18446744073709551616) : z = (x * y) >>> ((63 : Int32) &&& 63).toInt64 ↔ (-9223372036854775808 ≤ x.toInt * y.toInt ∧ x.toInt * y.toInt ≤ 9223372036854775807) := by
  rw [← Int64.toInt_inj, hz, own_shr63]
  have := c_lmul x y
  have := own_rg (x * y)
  generalize x.toInt * y.toInt = N at *
  constructor <;> intro q <;> omega
theorem own_ov (x y : Int64) (hx : ¬ x = 0) (h1 : ¬ x = -1) : (x * y) / x = y ↔ (-9223372036854775808 ≤ x.toInt * y.toInt ∧ x.toInt * y.toInt ≤ 9223372036854775807) := by
  have dv : ((x * y) / x).toInt = (x * y).toInt.tdiv x.toInt := Int64.toInt_div_of_ne_right _ _ h1
  rw [← Int64.toInt_inj, dv]
  have cm := c_lmul x y
  have rm := own_rg (x * y)
  have rx := own_rg x
  have x0 : x.toInt ≠ 0 := fun q => hx (Int64.toInt_inj.mp q)
  constructor
  · intro q
    have td := Int.mul_tdiv_add_tmod (x * y).toInt x.toInt
    rw [q] at td
    have t1 : ((x * y).toInt.tmod x.toInt).natAbs < x.toInt.natAbs := by
      rw [Int.natAbs_tmod]; exact Nat.mod_lt _ (by omega)
    generalize x.toInt * y.toInt = N at *
    omega
  · intro q
    have e : (x * y).toInt = x.toInt * y.toInt := by
      generalize x.toInt * y.toInt = N at *
      omega
    rw [e]; exact Int.mul_tdiv_cancel_left _ x0
theorem d2_0 : decode jdk_29_method_45_code 0 = .ok (.lload_n 0, 1) := by decide +kernel
theorem d2_1 : decode jdk_29_method_45_code 1 = .ok (.bipush 32, 2) := by decide +kernel
theorem d2_3 : decode jdk_29_method_45_code 3 = .ok (.lshr, 1) := by decide +kernel
theorem d2_4 : decode jdk_29_method_45_code 4 = .ok (.lstore 4, 2) := by decide +kernel
theorem d2_6 : decode jdk_29_method_45_code 6 = .ok (.lload_n 0, 1) := by decide +kernel
theorem d2_7 : decode jdk_29_method_45_code 7 = .ok (.ldc2_w 138, 3) := by decide +kernel
theorem d2_10 : decode jdk_29_method_45_code 10 = .ok (.land, 1) := by decide +kernel
theorem d2_11 : decode jdk_29_method_45_code 11 = .ok (.lstore 6, 2) := by decide +kernel
theorem d2_13 : decode jdk_29_method_45_code 13 = .ok (.lload_n 2, 1) := by decide +kernel
theorem d2_14 : decode jdk_29_method_45_code 14 = .ok (.bipush 32, 2) := by decide +kernel
theorem d2_16 : decode jdk_29_method_45_code 16 = .ok (.lshr, 1) := by decide +kernel
theorem d2_17 : decode jdk_29_method_45_code 17 = .ok (.lstore 8, 2) := by decide +kernel
theorem d2_19 : decode jdk_29_method_45_code 19 = .ok (.lload_n 2, 1) := by decide +kernel
theorem d2_20 : decode jdk_29_method_45_code 20 = .ok (.ldc2_w 138, 3) := by decide +kernel
theorem d2_23 : decode jdk_29_method_45_code 23 = .ok (.land, 1) := by decide +kernel
theorem d2_24 : decode jdk_29_method_45_code 24 = .ok (.lstore 10, 2) := by decide +kernel
theorem d2_26 : decode jdk_29_method_45_code 26 = .ok (.lload 6, 2) := by decide +kernel
theorem d2_28 : decode jdk_29_method_45_code 28 = .ok (.lload 10, 2) := by decide +kernel
theorem d2_30 : decode jdk_29_method_45_code 30 = .ok (.lmul, 1) := by decide +kernel
theorem d2_31 : decode jdk_29_method_45_code 31 = .ok (.lstore 12, 2) := by decide +kernel
theorem d2_33 : decode jdk_29_method_45_code 33 = .ok (.lload 4, 2) := by decide +kernel
theorem d2_35 : decode jdk_29_method_45_code 35 = .ok (.lload 10, 2) := by decide +kernel
theorem d2_37 : decode jdk_29_method_45_code 37 = .ok (.lmul, 1) := by decide +kernel
theorem d2_38 : decode jdk_29_method_45_code 38 = .ok (.lload 12, 2) := by decide +kernel
theorem d2_40 : decode jdk_29_method_45_code 40 = .ok (.bipush 32, 2) := by decide +kernel
theorem d2_42 : decode jdk_29_method_45_code 42 = .ok (.lushr, 1) := by decide +kernel
theorem d2_43 : decode jdk_29_method_45_code 43 = .ok (.ladd, 1) := by decide +kernel
theorem d2_44 : decode jdk_29_method_45_code 44 = .ok (.lstore 14, 2) := by decide +kernel
theorem d2_46 : decode jdk_29_method_45_code 46 = .ok (.lload 14, 2) := by decide +kernel
theorem d2_48 : decode jdk_29_method_45_code 48 = .ok (.ldc2_w 138, 3) := by decide +kernel
theorem d2_51 : decode jdk_29_method_45_code 51 = .ok (.land, 1) := by decide +kernel
theorem d2_52 : decode jdk_29_method_45_code 52 = .ok (.lstore 16, 2) := by decide +kernel
theorem d2_54 : decode jdk_29_method_45_code 54 = .ok (.lload 14, 2) := by decide +kernel
theorem d2_56 : decode jdk_29_method_45_code 56 = .ok (.bipush 32, 2) := by decide +kernel
theorem d2_58 : decode jdk_29_method_45_code 58 = .ok (.lshr, 1) := by decide +kernel
theorem d2_59 : decode jdk_29_method_45_code 59 = .ok (.lstore 18, 2) := by decide +kernel
theorem d2_61 : decode jdk_29_method_45_code 61 = .ok (.lload 16, 2) := by decide +kernel
theorem d2_63 : decode jdk_29_method_45_code 63 = .ok (.lload 6, 2) := by decide +kernel
theorem d2_65 : decode jdk_29_method_45_code 65 = .ok (.lload 8, 2) := by decide +kernel
theorem d2_67 : decode jdk_29_method_45_code 67 = .ok (.lmul, 1) := by decide +kernel
theorem d2_68 : decode jdk_29_method_45_code 68 = .ok (.ladd, 1) := by decide +kernel
theorem d2_69 : decode jdk_29_method_45_code 69 = .ok (.lstore 16, 2) := by decide +kernel
theorem d2_71 : decode jdk_29_method_45_code 71 = .ok (.lload 4, 2) := by decide +kernel
theorem d2_73 : decode jdk_29_method_45_code 73 = .ok (.lload 8, 2) := by decide +kernel
theorem d2_75 : decode jdk_29_method_45_code 75 = .ok (.lmul, 1) := by decide +kernel
theorem d2_76 : decode jdk_29_method_45_code 76 = .ok (.lload 18, 2) := by decide +kernel
theorem d2_78 : decode jdk_29_method_45_code 78 = .ok (.ladd, 1) := by decide +kernel
theorem d2_79 : decode jdk_29_method_45_code 79 = .ok (.lload 16, 2) := by decide +kernel
theorem d2_81 : decode jdk_29_method_45_code 81 = .ok (.bipush 32, 2) := by decide +kernel
theorem d2_83 : decode jdk_29_method_45_code 83 = .ok (.lshr, 1) := by decide +kernel
theorem d2_84 : decode jdk_29_method_45_code 84 = .ok (.ladd, 1) := by decide +kernel
theorem d2_85 : decode jdk_29_method_45_code 85 = .ok (.lreturn, 1) := by decide +kernel
theorem ef_rmH (m : MethodId) (x0 : Int64) (x1 : Int64) : entryFrame m #[(.long x0), (.long x1)] 20 = mkF m 0 #[.val (.long x0), .second, .val (.long x1), .second, .unset, .unset, .unset, .unset, .unset, .unset, .unset, .unset, .unset, .unset, .unset, .unset, .unset, .unset, .unset, .unset] [] := by first | (simp [entryFrame, mkF, argsToLocals, Value.category, maxLocals]; done) | rfl
set_option maxRecDepth 65536 in
set_option maxHeartbeats 40000000 in
theorem rmH (l : Launch) (Z : State) (a0 : Array Value) (hw : ∀ d ∈ tables_1, d.before a0 Z = true) (ws : List Jvm.Cond) (x y : Int64) (h0 : Heap) (n0 : Nat) (Z0 : n0 ≤ h0.size)  :
    Met l Z (⟨"java/lang/Math", "multiplyHigh", "(JJ)J"⟩ : MethodName) jdk_29_method_45_code 20 (some .long) ws ({ frames := 0, cells := 0, slots := 0, locals := 0 } : Room) #[(.long x), (.long y)] h0 (fun v h L => ∃ z : Int64, v = some (.long z) ∧ Fr n0 L ∧ h = h0 ∧ z.toInt = (x.toInt * y.toInt) / 18446744073709551616) 0 0 := by
  refine met_of (by decide +kernel) (f0 := fun m => (mkF m 0 #[.val (.long x), .second, .val (.long y), .second, .unset, .unset, .unset, .unset, .unset, .unset, .unset, .unset, .unset, .unset, .unset, .unset, .unset, .unset, .unset, .unset] [])) (fun m => ef_rmH m x y) ?_
  intro p e s m below meth c s₁ X0 hx hby hml hret hlk hown hnm hZ e0
  replace hown : s.vm.findClass "java/lang/Math" = some m.cls := hown
  have N0 := Fr.nil n0
  refine r_lloadN X0.here hx (hb hby d2_0) rfl (pc' := 1) rfl ?_
  refine r_bipush X0.here hx (hb hby d2_1) (v := 32) rfl (pc' := 3) rfl ?_
  refine r_lshr X0.here hx (hb hby d2_3) (pc' := 4) rfl ?_
  refine r_lstore X0.here hx (hb hby d2_4) (l' := #[.val (.long x), .second, .val (.long y), .second, .val (.long (x >>> ((32 : Int32) &&& 63).toInt64)), .second, .unset, .unset, .unset, .unset, .unset, .unset, .unset, .unset, .unset, .unset, .unset, .unset, .unset, .unset]) rfl (pc' := 6) rfl ?_
  refine r_lloadN X0.here hx (hb hby d2_6) rfl (pc' := 7) rfl ?_
  refine r_ldc2 X0 hx hZ hown (hw _ (List.mem_of_getElem? (i := 8) rfl)) (hb hby d2_7) (pc' := 10) rfl ?_
  refine r_land X0.here hx (hb hby d2_10) (pc' := 11) rfl ?_
  refine r_lstore X0.here hx (hb hby d2_11) (l' := #[.val (.long x), .second, .val (.long y), .second, .val (.long (x >>> ((32 : Int32) &&& 63).toInt64)), .second, .val (.long (x &&& (4294967295 : Int64))), .second, .unset, .unset, .unset, .unset, .unset, .unset, .unset, .unset, .unset, .unset, .unset, .unset]) rfl (pc' := 13) rfl ?_
  refine r_lloadN X0.here hx (hb hby d2_13) rfl (pc' := 14) rfl ?_
  refine r_bipush X0.here hx (hb hby d2_14) (v := 32) rfl (pc' := 16) rfl ?_
  refine r_lshr X0.here hx (hb hby d2_16) (pc' := 17) rfl ?_
  refine r_lstore X0.here hx (hb hby d2_17) (l' := #[.val (.long x), .second, .val (.long y), .second, .val (.long (x >>> ((32 : Int32) &&& 63).toInt64)), .second, .val (.long (x &&& (4294967295 : Int64))), .second, .val (.long (y >>> ((32 : Int32) &&& 63).toInt64)), .second, .unset, .unset, .unset, .unset, .unset, .unset, .unset, .unset, .unset, .unset]) rfl (pc' := 19) rfl ?_
  refine r_lloadN X0.here hx (hb hby d2_19) rfl (pc' := 20) rfl ?_
  refine r_ldc2 X0 hx hZ hown (hw _ (List.mem_of_getElem? (i := 8) rfl)) (hb hby d2_20) (pc' := 23) rfl ?_
  refine r_land X0.here hx (hb hby d2_23) (pc' := 24) rfl ?_
  refine r_lstore X0.here hx (hb hby d2_24) (l' := #[.val (.long x), .second, .val (.long y), .second, .val (.long (x >>> ((32 : Int32) &&& 63).toInt64)), .second, .val (.long (x &&& (4294967295 : Int64))), .second, .val (.long (y >>> ((32 : Int32) &&& 63).toInt64)), .second, .val (.long (y &&& (4294967295 : Int64))), .second, .unset, .unset, .unset, .unset, .unset, .unset, .unset, .unset]) rfl (pc' := 26) rfl ?_
  refine r_lload X0.here hx (hb hby d2_26) rfl (pc' := 28) rfl ?_
  refine r_lload X0.here hx (hb hby d2_28) rfl (pc' := 30) rfl ?_
  refine r_lmul X0.here hx (hb hby d2_30) (pc' := 31) rfl ?_
  refine r_lstore X0.here hx (hb hby d2_31) (l' := #[.val (.long x), .second, .val (.long y), .second, .val (.long (x >>> ((32 : Int32) &&& 63).toInt64)), .second, .val (.long (x &&& (4294967295 : Int64))), .second, .val (.long (y >>> ((32 : Int32) &&& 63).toInt64)), .second, .val (.long (y &&& (4294967295 : Int64))), .second, .val (.long ((x &&& (4294967295 : Int64)) * (y &&& (4294967295 : Int64)))), .second, .unset, .unset, .unset, .unset, .unset, .unset]) rfl (pc' := 33) rfl ?_
  refine r_lload X0.here hx (hb hby d2_33) rfl (pc' := 35) rfl ?_
  refine r_lload X0.here hx (hb hby d2_35) rfl (pc' := 37) rfl ?_
  refine r_lmul X0.here hx (hb hby d2_37) (pc' := 38) rfl ?_
  refine r_lload X0.here hx (hb hby d2_38) rfl (pc' := 40) rfl ?_
  refine r_bipush X0.here hx (hb hby d2_40) (v := 32) rfl (pc' := 42) rfl ?_
  refine r_lushr X0.here hx (hb hby d2_42) (pc' := 43) rfl ?_
  refine r_ladd X0.here hx (hb hby d2_43) (pc' := 44) rfl ?_
  refine r_lstore X0.here hx (hb hby d2_44) (l' := #[.val (.long x), .second, .val (.long y), .second, .val (.long (x >>> ((32 : Int32) &&& 63).toInt64)), .second, .val (.long (x &&& (4294967295 : Int64))), .second, .val (.long (y >>> ((32 : Int32) &&& 63).toInt64)), .second, .val (.long (y &&& (4294967295 : Int64))), .second, .val (.long ((x &&& (4294967295 : Int64)) * (y &&& (4294967295 : Int64)))), .second, .val (.long (((x >>> ((32 : Int32) &&& 63).toInt64) * (y &&& (4294967295 : Int64))) + (ushrJ ((x &&& (4294967295 : Int64)) * (y &&& (4294967295 : Int64))) (32 : Int32)))), .second, .unset, .unset, .unset, .unset]) rfl (pc' := 46) rfl ?_
  refine r_lload X0.here hx (hb hby d2_46) rfl (pc' := 48) rfl ?_
  refine r_ldc2 X0 hx hZ hown (hw _ (List.mem_of_getElem? (i := 8) rfl)) (hb hby d2_48) (pc' := 51) rfl ?_
  refine r_land X0.here hx (hb hby d2_51) (pc' := 52) rfl ?_
  refine r_lstore X0.here hx (hb hby d2_52) (l' := #[.val (.long x), .second, .val (.long y), .second, .val (.long (x >>> ((32 : Int32) &&& 63).toInt64)), .second, .val (.long (x &&& (4294967295 : Int64))), .second, .val (.long (y >>> ((32 : Int32) &&& 63).toInt64)), .second, .val (.long (y &&& (4294967295 : Int64))), .second, .val (.long ((x &&& (4294967295 : Int64)) * (y &&& (4294967295 : Int64)))), .second, .val (.long (((x >>> ((32 : Int32) &&& 63).toInt64) * (y &&& (4294967295 : Int64))) + (ushrJ ((x &&& (4294967295 : Int64)) * (y &&& (4294967295 : Int64))) (32 : Int32)))), .second, .val (.long ((((x >>> ((32 : Int32) &&& 63).toInt64) * (y &&& (4294967295 : Int64))) + (ushrJ ((x &&& (4294967295 : Int64)) * (y &&& (4294967295 : Int64))) (32 : Int32))) &&& (4294967295 : Int64))), .second, .unset, .unset]) rfl (pc' := 54) rfl ?_
  refine r_lload X0.here hx (hb hby d2_54) rfl (pc' := 56) rfl ?_
  refine r_bipush X0.here hx (hb hby d2_56) (v := 32) rfl (pc' := 58) rfl ?_
  refine r_lshr X0.here hx (hb hby d2_58) (pc' := 59) rfl ?_
  refine r_lstore X0.here hx (hb hby d2_59) (l' := #[.val (.long x), .second, .val (.long y), .second, .val (.long (x >>> ((32 : Int32) &&& 63).toInt64)), .second, .val (.long (x &&& (4294967295 : Int64))), .second, .val (.long (y >>> ((32 : Int32) &&& 63).toInt64)), .second, .val (.long (y &&& (4294967295 : Int64))), .second, .val (.long ((x &&& (4294967295 : Int64)) * (y &&& (4294967295 : Int64)))), .second, .val (.long (((x >>> ((32 : Int32) &&& 63).toInt64) * (y &&& (4294967295 : Int64))) + (ushrJ ((x &&& (4294967295 : Int64)) * (y &&& (4294967295 : Int64))) (32 : Int32)))), .second, .val (.long ((((x >>> ((32 : Int32) &&& 63).toInt64) * (y &&& (4294967295 : Int64))) + (ushrJ ((x &&& (4294967295 : Int64)) * (y &&& (4294967295 : Int64))) (32 : Int32))) &&& (4294967295 : Int64))), .second, .val (.long ((((x >>> ((32 : Int32) &&& 63).toInt64) * (y &&& (4294967295 : Int64))) + (ushrJ ((x &&& (4294967295 : Int64)) * (y &&& (4294967295 : Int64))) (32 : Int32))) >>> ((32 : Int32) &&& 63).toInt64)), .second]) rfl (pc' := 61) rfl ?_
  refine r_lload X0.here hx (hb hby d2_61) rfl (pc' := 63) rfl ?_
  refine r_lload X0.here hx (hb hby d2_63) rfl (pc' := 65) rfl ?_
  refine r_lload X0.here hx (hb hby d2_65) rfl (pc' := 67) rfl ?_
  refine r_lmul X0.here hx (hb hby d2_67) (pc' := 68) rfl ?_
  refine r_ladd X0.here hx (hb hby d2_68) (pc' := 69) rfl ?_
  refine r_lstore X0.here hx (hb hby d2_69) (l' := #[.val (.long x), .second, .val (.long y), .second, .val (.long (x >>> ((32 : Int32) &&& 63).toInt64)), .second, .val (.long (x &&& (4294967295 : Int64))), .second, .val (.long (y >>> ((32 : Int32) &&& 63).toInt64)), .second, .val (.long (y &&& (4294967295 : Int64))), .second, .val (.long ((x &&& (4294967295 : Int64)) * (y &&& (4294967295 : Int64)))), .second, .val (.long (((x >>> ((32 : Int32) &&& 63).toInt64) * (y &&& (4294967295 : Int64))) + (ushrJ ((x &&& (4294967295 : Int64)) * (y &&& (4294967295 : Int64))) (32 : Int32)))), .second, .val (.long (((((x >>> ((32 : Int32) &&& 63).toInt64) * (y &&& (4294967295 : Int64))) + (ushrJ ((x &&& (4294967295 : Int64)) * (y &&& (4294967295 : Int64))) (32 : Int32))) &&& (4294967295 : Int64)) + ((x &&& (4294967295 : Int64)) * (y >>> ((32 : Int32) &&& 63).toInt64)))), .second, .val (.long ((((x >>> ((32 : Int32) &&& 63).toInt64) * (y &&& (4294967295 : Int64))) + (ushrJ ((x &&& (4294967295 : Int64)) * (y &&& (4294967295 : Int64))) (32 : Int32))) >>> ((32 : Int32) &&& 63).toInt64)), .second]) rfl (pc' := 71) rfl ?_
  refine r_lload X0.here hx (hb hby d2_71) rfl (pc' := 73) rfl ?_
  refine r_lload X0.here hx (hb hby d2_73) rfl (pc' := 75) rfl ?_
  refine r_lmul X0.here hx (hb hby d2_75) (pc' := 76) rfl ?_
  refine r_lload X0.here hx (hb hby d2_76) rfl (pc' := 78) rfl ?_
  refine r_ladd X0.here hx (hb hby d2_78) (pc' := 79) rfl ?_
  refine r_lload X0.here hx (hb hby d2_79) rfl (pc' := 81) rfl ?_
  refine r_bipush X0.here hx (hb hby d2_81) (v := 32) rfl (pc' := 83) rfl ?_
  refine r_lshr X0.here hx (hb hby d2_83) (pc' := 84) rfl ?_
  refine r_ladd X0.here hx (hb hby d2_84) (pc' := 85) rfl ?_
  refine r_retJ X0 hx hlk hret (hb hby d2_85) ?_ (by decide) (by decide)
  try rw [e0]
  exact ⟨_, rfl, N0, rfl, own_high x y⟩
theorem d1_0 : decode prog_29_method_3_code 0 = .ok (.lload_n 0, 1) := by decide +kernel
theorem d1_1 : decode prog_29_method_3_code 1 = .ok (.lload_n 2, 1) := by decide +kernel
theorem d1_2 : decode prog_29_method_3_code 2 = .ok (.lmul, 1) := by decide +kernel
theorem d1_3 : decode prog_29_method_3_code 3 = .ok (.lstore 4, 2) := by decide +kernel
theorem d1_5 : decode prog_29_method_3_code 5 = .ok (.lload_n 0, 1) := by decide +kernel
theorem d1_6 : decode prog_29_method_3_code 6 = .ok (.lload_n 2, 1) := by decide +kernel
theorem d1_7 : decode prog_29_method_3_code 7 = .ok (.invokestatic 23, 3) := by decide +kernel
theorem pd_0 : parseMethodDescriptor "(JJ)J" = some ⟨[.long, .long], some .long⟩ := by decide +kernel
theorem d1_10 : decode prog_29_method_3_code 10 = .ok (.lload 4, 2) := by decide +kernel
theorem d1_12 : decode prog_29_method_3_code 12 = .ok (.bipush 63, 2) := by decide +kernel
theorem d1_14 : decode prog_29_method_3_code 14 = .ok (.lshr, 1) := by decide +kernel
theorem d1_15 : decode prog_29_method_3_code 15 = .ok (.lcmp, 1) := by decide +kernel
theorem d1_16 : decode prog_29_method_3_code 16 = .ok (.ifCond .ne 8, 3) := by decide +kernel
theorem d1_24 : decode prog_29_method_3_code 24 = .ok (.ldc2_w 21, 3) := by decide +kernel
theorem d1_27 : decode prog_29_method_3_code 27 = .ok (.lreturn, 1) := by decide +kernel
theorem d1_19 : decode prog_29_method_3_code 19 = .ok (.lload 4, 2) := by decide +kernel
theorem d1_21 : decode prog_29_method_3_code 21 = .ok (.goto 6, 3) := by decide +kernel
theorem pn_0 : plainName "com/example/minplux/minplux/LongArithmetic" = true := by first | (simp [plainName, overriddenIn]; done) | decide +kernel
theorem ef_rmT (m : MethodId) (x0 : Int64) (x1 : Int64) : entryFrame m #[(.long x0), (.long x1)] 6 = mkF m 0 #[.val (.long x0), .second, .val (.long x1), .second, .unset, .unset] [] := by first | (simp [entryFrame, mkF, argsToLocals, Value.category, maxLocals]; done) | rfl
set_option maxRecDepth 65536 in
set_option maxHeartbeats 40000000 in
theorem rmT (l : Launch) (Z : State) (a0 : Array Value) (hw : ∀ d ∈ tables_1, d.before a0 Z = true) (ws : List Jvm.Cond) (x y : Int64) (h0 : Heap) (n0 : Nat) (Z0 : n0 ≤ h0.size)  :
    Met l Z (⟨"com/example/minplux/minplux/LongArithmetic", "times", "(JJ)J"⟩ : MethodName) prog_29_method_3_code 6 (some .long) ws ({ frames := 1, cells := 0, slots := 0, locals := 31 } : Room) #[(.long x), (.long y)] h0 (fun v h L => v = some (.long (own_t x y)) ∧ Fr n0 L ∧ h = h0) 0 0 := by
  refine met_of (plainFor_of_name pn_0) (f0 := fun m => (mkF m 0 #[.val (.long x), .second, .val (.long y), .second, .unset, .unset] [])) (fun m => ef_rmT m x y) ?_
  intro p e s m below meth c s₁ X0 hx hby hml hret hlk hown hnm hZ e0
  replace hown : s.vm.findClass "com/example/minplux/minplux/LongArithmetic" = some m.cls := hown
  have N0 := Fr.nil n0
  refine r_lloadN X0.here hx (hb hby d1_0) rfl (pc' := 1) rfl ?_
  refine r_lloadN X0.here hx (hb hby d1_1) rfl (pc' := 2) rfl ?_
  refine r_lmul X0.here hx (hb hby d1_2) (pc' := 3) rfl ?_
  refine r_lstore X0.here hx (hb hby d1_3) (l' := #[.val (.long x), .second, .val (.long y), .second, .val (.long (x * y)), .second]) rfl (pc' := 5) rfl ?_
  refine r_lloadN X0.here hx (hb hby d1_5) rfl (pc' := 6) rfl ?_
  refine r_lloadN X0.here hx (hb hby d1_6) rfl (pc' := 7) rfl ?_
  refine r_callS X0 hx hZ (y := (⟨"java/lang/Math", "multiplyHigh", "(JJ)J"⟩ : MethodName)) (rm := ({ frames := 0, cells := 0, slots := 0, locals := 0 } : Room)) hown (hw _ (List.mem_of_getElem? (i := 4) rfl)) (hw _ (List.mem_of_getElem? (i := 5) rfl)) (hw _ (List.mem_of_getElem? (i := 6) rfl)) (hw _ (List.mem_of_getElem? (i := 7) rfl)) (by decide) (rmH l Z a0 hw [] x y h0 n0 Z0) e0 (by rw [hml]; rfl) (argsL := [(.long x), (.long y)]) (rest := []) (lenOf pd_0 rfl) rfl rfl (W := 0) rfl (by decide) (by decide) (by decide) (by decide) (hb hby d1_7) (pc' := 10) rfl ?_
  rintro v1 T1 L1 X1 ⟨z, rfl, Nq1, e1, hz⟩
  have N1 := Fr.app N0 Nq1
  show Run p e below _ _ T1 (mkF m 10 #[.val (.long x), .second, .val (.long y), .second, .val (.long (x * y)), .second] [(.long z)])
  refine r_lload X1.here hx (hb hby d1_10) rfl (pc' := 12) rfl ?_
  refine r_bipush X1.here hx (hb hby d1_12) (v := 63) rfl (pc' := 14) rfl ?_
  refine r_lshr X1.here hx (hb hby d1_14) (pc' := 15) rfl ?_
  refine r_lcmp X1.here hx (hb hby d1_15) (pc' := 16) rfl ?_
  refine r_ifL_ne X1.here hx (hb hby d1_16) (by decide) (pc' := 24) (by decide) (pc2 := 19) rfl (fun hc16 => ?_) (fun hc16 => ?_)
  · refine r_ldc2 X1 hx hZ hown (hw _ (List.mem_of_getElem? (i := 11) rfl)) (hb hby d1_24) (pc' := 27) rfl ?_
    refine r_retJ X1 hx hlk hret (hb hby d1_27) ?_ (by decide) (by decide)
    try rw [e1]
    refine ⟨?_, N1, rfl⟩
    unfold own_t
    rw [if_neg (fun q => hc16 ((own_sgn x y z hz).mpr q))]
  · refine r_lload X1.here hx (hb hby d1_19) rfl (pc' := 21) rfl ?_
    refine r_goto X1.here hx (hb hby d1_21) (by decide) (pc' := 27) (by decide) ?_
    refine r_retJ X1 hx hlk hret (hb hby d1_27) ?_ (by decide) (by decide)
    try rw [e1]
    refine ⟨?_, N1, rfl⟩
    unfold own_t
    rw [if_pos ((own_sgn x y z hz).mp (Classical.not_not.mp hc16))]
theorem own_m1 (x y : Int64) (q : x = -1) : (x * y) / x = y := by
  subst q
  have h := c_ldivM (-1 * y) (-1) rfl
  have cm := c_lmul (-1) y
  have l : (-1 : Int64).toInt = -1 := rfl
  have r1 := own_rg ((-1 * y) / -1)
  have r2 := own_rg y
  rw [l] at cm
  exact Int64.toInt_inj.mp (by omega)
theorem own_no (x y : Int64) (hx : ¬ x = 0) (h : ¬ (x * y) / x = y) : ¬ (-9223372036854775808 ≤ x.toInt * y.toInt ∧ x.toInt * y.toInt ≤ 9223372036854775807) := fun z => by
  by_cases q : x = -1
  · exact h (own_m1 x y q)
  · exact h ((own_ov x y hx q).mpr z)
theorem own_in (x y : Int64) (q : x = -1) (h : ¬ y = -9223372036854775808) : -9223372036854775808 ≤ x.toInt * y.toInt ∧ x.toInt * y.toInt ≤ 9223372036854775807 := by
  subst q
  have l : (-1 : Int64).toInt = -1 := rfl
  have r2 := own_rg y
  have h' : ¬ y.toInt = -9223372036854775808 := fun z => h (Int64.toInt_inj.mp z)
  rw [l]; omega
theorem own_out (x y : Int64) (q : x = -1) (h : y = -9223372036854775808) : ¬ (-9223372036854775808 ≤ x.toInt * y.toInt ∧ x.toInt * y.toInt ≤ 9223372036854775807) := by
  subst q h; decide
theorem pn_1 : plainName "com/example/minplux/minplux/LongArithmeticTimesPinLaw" = true := by first | (simp [plainName, overriddenIn]; done) | decide +kernel
theorem ef_rm0 (m : MethodId) (x0 : Int64) (x1 : Int64) (x2 : Int32) (x3 : Int32) : entryFrame m #[(.long x0), (.long x1), (.int x2), (.int x3)] maxLocals = mkF m 0 #[.val (.long x0), .second, .val (.long x1), .second, .val (.int x2), .val (.int x3), .unset, .unset, .unset, .unset, .unset, .unset, .unset, .unset, .unset, .unset, .unset] [] := by first | (simp [entryFrame, mkF, argsToLocals, Value.category, maxLocals]; done) | rfl
set_option maxRecDepth 65536 in
set_option maxHeartbeats 40000000 in
theorem rm0 (l : Launch) (Z : State) (a0 : Array Value) (hw : ∀ d ∈ tables_1, d.before a0 Z = true) (ws : List Jvm.Cond) (a b : Int64) (sa tb : Int32) (h0 : Heap) (n0 : Nat) (Z0 : n0 ≤ h0.size)  :
    Met l Z Jvm.Pilot.@@N@@.x code maxLocals ret ws room_1 #[(.long a), (.long b), (.int sa), (.int tb)] h0 (fun v h L => v = some (.int 1) ∧ Fr n0 L) 0 0 := by
  refine met_of (plainFor_of_name pn_1) (f0 := fun m => (mkF m 0 #[.val (.long a), .second, .val (.long b), .second, .val (.int sa), .val (.int tb), .unset, .unset, .unset, .unset, .unset, .unset, .unset, .unset, .unset, .unset, .unset] [])) (fun m => ef_rm0 m a b sa tb) ?_
  intro p e s m below meth c s₁ X0 hx hby hml hret hlk hown hnm hZ e0
  replace hown : s.vm.findClass "com/example/minplux/minplux/LongArithmeticTimesPinLaw" = some m.cls := hown
  have N0 := Fr.nil n0
  have J : ∀ x y : Int64, Run p e below (fun v h L => v = some (.int 1) ∧ Fr n0 L) (fun o t L => FrameEnd s o t L 0 0) s₁ (mkF m 18 #[.val (.long a), .second, .val (.long b), .second, .val (.int sa), .val (.int tb), .val (.long x), .second, .val (.long y), .second, .unset, .unset, .unset, .unset, .unset, .unset, .unset] []) := by
    intro x y
    refine r_lload X0.here hx (hb hby at_18) rfl (pc' := 20) rfl ?_
    refine r_lload X0.here hx (hb hby at_20) rfl (pc' := 22) rfl ?_
    refine r_callS X0 hx hZ (y := (⟨"com/example/minplux/minplux/LongArithmetic", "times", "(JJ)J"⟩ : MethodName)) (rm := ({ frames := 1, cells := 0, slots := 0, locals := 31 } : Room)) hown (hw _ (List.mem_of_getElem? (i := 0) rfl)) (hw _ (List.mem_of_getElem? (i := 1) rfl)) (hw _ (List.mem_of_getElem? (i := 2) rfl)) (hw _ (List.mem_of_getElem? (i := 3) rfl)) (by decide) (rmT l Z a0 hw [] x y h0 n0 Z0) e0 (by rw [hml]; rfl) (argsL := [(.long x), (.long y)]) (rest := []) (lenOf pd_0 rfl) rfl rfl (W := 0) rfl (by decide) (by decide) (by decide) (by decide) (hb hby at_22) (pc' := 25) rfl ?_
    rintro v2 T2 L2 X2 ⟨rfl, Nq2, e2⟩
    have N2 := Fr.app N0 Nq2
    show Run p e below _ _ T2 (mkF m 25 #[.val (.long a), .second, .val (.long b), .second, .val (.int sa), .val (.int tb), .val (.long x), .second, .val (.long y), .second, .unset, .unset, .unset, .unset, .unset, .unset, .unset] [(.long (own_t x y))])
    refine r_lstore X2.here hx (hb hby at_25) (l' := #[.val (.long a), .second, .val (.long b), .second, .val (.int sa), .val (.int tb), .val (.long x), .second, .val (.long y), .second, .val (.long (own_t x y)), .second, .unset, .unset, .unset, .unset, .unset]) rfl (pc' := 27) rfl ?_
    refine r_lload X2.here hx (hb hby at_27) rfl (pc' := 29) rfl ?_
    refine r_lload X2.here hx (hb hby at_29) rfl (pc' := 31) rfl ?_
    refine r_lmul X2.here hx (hb hby at_31) (pc' := 32) rfl ?_
    refine r_lstore X2.here hx (hb hby at_32) (l' := #[.val (.long a), .second, .val (.long b), .second, .val (.int sa), .val (.int tb), .val (.long x), .second, .val (.long y), .second, .val (.long (own_t x y)), .second, .val (.long (x * y)), .second, .unset, .unset, .unset]) rfl (pc' := 34) rfl ?_
    refine r_lload X2.here hx (hb hby at_34) rfl (pc' := 36) rfl ?_
    refine r_lconst X2.here hx (hb hby at_36) (v := 0) rfl (pc' := 37) rfl ?_
    refine r_lcmp X2.here hx (hb hby at_37) (pc' := 38) rfl ?_
    refine r_ifL_eq X2.here hx (hb hby at_38) (by decide) (pc' := 74) (by decide) (pc2 := 41) rfl (fun hc38 => ?_) (fun hc38 => ?_)
    · refine r_iconst X2.here hx (hb hby at_74) (v := 0) rfl (pc' := 75) rfl ?_
      refine r_istore X2.here hx (hb hby at_75) (l' := #[.val (.long a), .second, .val (.long b), .second, .val (.int sa), .val (.int tb), .val (.long x), .second, .val (.long y), .second, .val (.long (own_t x y)), .second, .val (.long (x * y)), .second, .val (.int (0 : Int32)), .unset, .unset]) rfl (pc' := 77) rfl ?_
      refine r_iload X2.here hx (hb hby at_77) rfl (pc' := 79) rfl ?_
      refine r_if0_eq X2.here hx (hb hby at_79) (by decide) (pc' := 88) (by decide) (pc2 := 82) rfl (fun hc79 => ?_) (fun hc79 => absurd rfl hc79)
      refine r_lload X2.here hx (hb hby at_88) rfl (pc' := 90) rfl ?_
      refine r_lstore X2.here hx (hb hby at_90) (l' := #[.val (.long a), .second, .val (.long b), .second, .val (.int sa), .val (.int tb), .val (.long x), .second, .val (.long y), .second, .val (.long (own_t x y)), .second, .val (.long (x * y)), .second, .val (.int (0 : Int32)), .val (.long (x * y)), .second]) rfl (pc' := 92) rfl ?_
      refine r_lload X2.here hx (hb hby at_92) rfl (pc' := 94) rfl ?_
      refine r_lload X2.here hx (hb hby at_94) rfl (pc' := 96) rfl ?_
      refine r_lcmp X2.here hx (hb hby at_96) (pc' := 97) rfl ?_
      refine r_ifL_ne X2.here hx (hb hby at_97) (by decide) (pc' := 104) (by decide) (pc2 := 100) rfl (fun hc97 => absurd (by subst hc38; unfold own_t; rw [if_pos (by rw [show (0 : Int64).toInt = 0 from rfl, Int.zero_mul]; decide)]) hc97) (fun hc97 => ?_)
      refine r_iconst X2.here hx (hb hby at_100) (v := 1) rfl (pc' := 101) rfl ?_
      refine r_goto X2.here hx (hb hby at_101) (by decide) (pc' := 105) (by decide) ?_
      refine r_retN X2 hx hlk hret (by simp) (hb hby at_105) (w := (1 : Int32)) rfl ?_ (by decide) (by decide)
      try rw [e2]
      exact ⟨rfl, N2⟩
    · refine r_lload X2.here hx (hb hby at_41) rfl (pc' := 43) rfl ?_
      refine r_lload X2.here hx (hb hby at_43) rfl (pc' := 45) rfl ?_
      refine r_ldiv X2.here hx (hb hby at_45) hc38 (pc' := 46) rfl ?_
      refine r_lload X2.here hx (hb hby at_46) rfl (pc' := 48) rfl ?_
      refine r_lcmp X2.here hx (hb hby at_48) (pc' := 49) rfl ?_
      refine r_ifL_ne X2.here hx (hb hby at_49) (by decide) (pc' := 70) (by decide) (pc2 := 52) rfl (fun hc49 => ?_) (fun hc49 => ?_)
      · refine r_iconst X2.here hx (hb hby at_70) (v := 1) rfl (pc' := 71) rfl ?_
        refine r_goto X2.here hx (hb hby at_71) (by decide) (pc' := 75) (by decide) ?_
        refine r_istore X2.here hx (hb hby at_75) (l' := #[.val (.long a), .second, .val (.long b), .second, .val (.int sa), .val (.int tb), .val (.long x), .second, .val (.long y), .second, .val (.long (own_t x y)), .second, .val (.long (x * y)), .second, .val (.int (1 : Int32)), .unset, .unset]) rfl (pc' := 77) rfl ?_
        refine r_iload X2.here hx (hb hby at_77) rfl (pc' := 79) rfl ?_
        refine r_if0_eq X2.here hx (hb hby at_79) (by decide) (pc' := 88) (by decide) (pc2 := 82) rfl (fun hc79 => absurd hc79 (by decide)) (fun hc79 => ?_)
        refine r_ldc2 X2 hx hZ hown (hw _ (List.mem_of_getElem? (i := 10) rfl)) (hb hby at_82) (pc' := 85) rfl ?_
        refine r_goto X2.here hx (hb hby at_85) (by decide) (pc' := 90) (by decide) ?_
        refine r_lstore X2.here hx (hb hby at_90) (l' := #[.val (.long a), .second, .val (.long b), .second, .val (.int sa), .val (.int tb), .val (.long x), .second, .val (.long y), .second, .val (.long (own_t x y)), .second, .val (.long (x * y)), .second, .val (.int (1 : Int32)), .val (.long (-9223372036854775808 : Int64)), .second]) rfl (pc' := 92) rfl ?_
        refine r_lload X2.here hx (hb hby at_92) rfl (pc' := 94) rfl ?_
        refine r_lload X2.here hx (hb hby at_94) rfl (pc' := 96) rfl ?_
        refine r_lcmp X2.here hx (hb hby at_96) (pc' := 97) rfl ?_
        refine r_ifL_ne X2.here hx (hb hby at_97) (by decide) (pc' := 104) (by decide) (pc2 := 100) rfl (fun hc97 => absurd (by unfold own_t; rw [if_neg (own_no x y hc38 hc49)]) hc97) (fun hc97 => ?_)
        refine r_iconst X2.here hx (hb hby at_100) (v := 1) rfl (pc' := 101) rfl ?_
        refine r_goto X2.here hx (hb hby at_101) (by decide) (pc' := 105) (by decide) ?_
        refine r_retN X2 hx hlk hret (by simp) (hb hby at_105) (w := (1 : Int32)) rfl ?_ (by decide) (by decide)
        try rw [e2]
        exact ⟨rfl, N2⟩
      · refine r_lload X2.here hx (hb hby at_52) rfl (pc' := 54) rfl ?_
        refine r_ldc2 X2 hx hZ hown (hw _ (List.mem_of_getElem? (i := 9) rfl)) (hb hby at_54) (pc' := 57) rfl ?_
        refine r_lcmp X2.here hx (hb hby at_57) (pc' := 58) rfl ?_
        refine r_ifL_ne X2.here hx (hb hby at_58) (by decide) (pc' := 74) (by decide) (pc2 := 61) rfl (fun hc58 => ?_) (fun hc58 => ?_)
        · refine r_iconst X2.here hx (hb hby at_74) (v := 0) rfl (pc' := 75) rfl ?_
          refine r_istore X2.here hx (hb hby at_75) (l' := #[.val (.long a), .second, .val (.long b), .second, .val (.int sa), .val (.int tb), .val (.long x), .second, .val (.long y), .second, .val (.long (own_t x y)), .second, .val (.long (x * y)), .second, .val (.int (0 : Int32)), .unset, .unset]) rfl (pc' := 77) rfl ?_
          refine r_iload X2.here hx (hb hby at_77) rfl (pc' := 79) rfl ?_
          refine r_if0_eq X2.here hx (hb hby at_79) (by decide) (pc' := 88) (by decide) (pc2 := 82) rfl (fun hc79 => ?_) (fun hc79 => absurd rfl hc79)
          refine r_lload X2.here hx (hb hby at_88) rfl (pc' := 90) rfl ?_
          refine r_lstore X2.here hx (hb hby at_90) (l' := #[.val (.long a), .second, .val (.long b), .second, .val (.int sa), .val (.int tb), .val (.long x), .second, .val (.long y), .second, .val (.long (own_t x y)), .second, .val (.long (x * y)), .second, .val (.int (0 : Int32)), .val (.long (x * y)), .second]) rfl (pc' := 92) rfl ?_
          refine r_lload X2.here hx (hb hby at_92) rfl (pc' := 94) rfl ?_
          refine r_lload X2.here hx (hb hby at_94) rfl (pc' := 96) rfl ?_
          refine r_lcmp X2.here hx (hb hby at_96) (pc' := 97) rfl ?_
          refine r_ifL_ne X2.here hx (hb hby at_97) (by decide) (pc' := 104) (by decide) (pc2 := 100) rfl (fun hc97 => absurd (by unfold own_t; rw [if_pos ((own_ov x y hc38 hc58).mp (Classical.not_not.mp hc49))]) hc97) (fun hc97 => ?_)
          refine r_iconst X2.here hx (hb hby at_100) (v := 1) rfl (pc' := 101) rfl ?_
          refine r_goto X2.here hx (hb hby at_101) (by decide) (pc' := 105) (by decide) ?_
          refine r_retN X2 hx hlk hret (by simp) (hb hby at_105) (w := (1 : Int32)) rfl ?_ (by decide) (by decide)
          try rw [e2]
          exact ⟨rfl, N2⟩
        · refine r_lload X2.here hx (hb hby at_61) rfl (pc' := 63) rfl ?_
          refine r_ldc2 X2 hx hZ hown (hw _ (List.mem_of_getElem? (i := 10) rfl)) (hb hby at_63) (pc' := 66) rfl ?_
          refine r_lcmp X2.here hx (hb hby at_66) (pc' := 67) rfl ?_
          refine r_ifL_ne X2.here hx (hb hby at_67) (by decide) (pc' := 74) (by decide) (pc2 := 70) rfl (fun hc67 => ?_) (fun hc67 => ?_)
          · refine r_iconst X2.here hx (hb hby at_74) (v := 0) rfl (pc' := 75) rfl ?_
            refine r_istore X2.here hx (hb hby at_75) (l' := #[.val (.long a), .second, .val (.long b), .second, .val (.int sa), .val (.int tb), .val (.long x), .second, .val (.long y), .second, .val (.long (own_t x y)), .second, .val (.long (x * y)), .second, .val (.int (0 : Int32)), .unset, .unset]) rfl (pc' := 77) rfl ?_
            refine r_iload X2.here hx (hb hby at_77) rfl (pc' := 79) rfl ?_
            refine r_if0_eq X2.here hx (hb hby at_79) (by decide) (pc' := 88) (by decide) (pc2 := 82) rfl (fun hc79 => ?_) (fun hc79 => absurd rfl hc79)
            refine r_lload X2.here hx (hb hby at_88) rfl (pc' := 90) rfl ?_
            refine r_lstore X2.here hx (hb hby at_90) (l' := #[.val (.long a), .second, .val (.long b), .second, .val (.int sa), .val (.int tb), .val (.long x), .second, .val (.long y), .second, .val (.long (own_t x y)), .second, .val (.long (x * y)), .second, .val (.int (0 : Int32)), .val (.long (x * y)), .second]) rfl (pc' := 92) rfl ?_
            refine r_lload X2.here hx (hb hby at_92) rfl (pc' := 94) rfl ?_
            refine r_lload X2.here hx (hb hby at_94) rfl (pc' := 96) rfl ?_
            refine r_lcmp X2.here hx (hb hby at_96) (pc' := 97) rfl ?_
            refine r_ifL_ne X2.here hx (hb hby at_97) (by decide) (pc' := 104) (by decide) (pc2 := 100) rfl (fun hc97 => absurd (by unfold own_t; rw [if_pos (own_in x y (Classical.not_not.mp hc58) hc67)]) hc97) (fun hc97 => ?_)
            refine r_iconst X2.here hx (hb hby at_100) (v := 1) rfl (pc' := 101) rfl ?_
            refine r_goto X2.here hx (hb hby at_101) (by decide) (pc' := 105) (by decide) ?_
            refine r_retN X2 hx hlk hret (by simp) (hb hby at_105) (w := (1 : Int32)) rfl ?_ (by decide) (by decide)
            try rw [e2]
            exact ⟨rfl, N2⟩
          · refine r_iconst X2.here hx (hb hby at_70) (v := 1) rfl (pc' := 71) rfl ?_
            refine r_goto X2.here hx (hb hby at_71) (by decide) (pc' := 75) (by decide) ?_
            refine r_istore X2.here hx (hb hby at_75) (l' := #[.val (.long a), .second, .val (.long b), .second, .val (.int sa), .val (.int tb), .val (.long x), .second, .val (.long y), .second, .val (.long (own_t x y)), .second, .val (.long (x * y)), .second, .val (.int (1 : Int32)), .unset, .unset]) rfl (pc' := 77) rfl ?_
            refine r_iload X2.here hx (hb hby at_77) rfl (pc' := 79) rfl ?_
            refine r_if0_eq X2.here hx (hb hby at_79) (by decide) (pc' := 88) (by decide) (pc2 := 82) rfl (fun hc79 => absurd hc79 (by decide)) (fun hc79 => ?_)
            refine r_ldc2 X2 hx hZ hown (hw _ (List.mem_of_getElem? (i := 10) rfl)) (hb hby at_82) (pc' := 85) rfl ?_
            refine r_goto X2.here hx (hb hby at_85) (by decide) (pc' := 90) (by decide) ?_
            refine r_lstore X2.here hx (hb hby at_90) (l' := #[.val (.long a), .second, .val (.long b), .second, .val (.int sa), .val (.int tb), .val (.long x), .second, .val (.long y), .second, .val (.long (own_t x y)), .second, .val (.long (x * y)), .second, .val (.int (1 : Int32)), .val (.long (-9223372036854775808 : Int64)), .second]) rfl (pc' := 92) rfl ?_
            refine r_lload X2.here hx (hb hby at_92) rfl (pc' := 94) rfl ?_
            refine r_lload X2.here hx (hb hby at_94) rfl (pc' := 96) rfl ?_
            refine r_lcmp X2.here hx (hb hby at_96) (pc' := 97) rfl ?_
            refine r_ifL_ne X2.here hx (hb hby at_97) (by decide) (pc' := 104) (by decide) (pc2 := 100) rfl (fun hc97 => absurd (by unfold own_t; rw [if_neg (own_out x y (Classical.not_not.mp hc58) (Classical.not_not.mp hc67))]) hc97) (fun hc97 => ?_)
            refine r_iconst X2.here hx (hb hby at_100) (v := 1) rfl (pc' := 101) rfl ?_
            refine r_goto X2.here hx (hb hby at_101) (by decide) (pc' := 105) (by decide) ?_
            refine r_retN X2 hx hlk hret (by simp) (hb hby at_105) (w := (1 : Int32)) rfl ?_ (by decide) (by decide)
            try rw [e2]
            exact ⟨rfl, N2⟩
  refine r_lloadN X0.here hx (hb hby at_0) rfl (pc' := 1) rfl ?_
  refine r_iload X0.here hx (hb hby at_1) rfl (pc' := 3) rfl ?_
  refine r_bipush X0.here hx (hb hby at_3) (v := 63) rfl (pc' := 5) rfl ?_
  refine r_iand X0.here hx (hb hby at_5) (pc' := 6) rfl ?_
  refine r_lshr X0.here hx (hb hby at_6) (pc' := 7) rfl ?_
  refine r_lstore X0.here hx (hb hby at_7) (l' := #[.val (.long a), .second, .val (.long b), .second, .val (.int sa), .val (.int tb), .val (.long (a >>> ((sa &&& (63 : Int32)) &&& 63).toInt64)), .second, .unset, .unset, .unset, .unset, .unset, .unset, .unset, .unset, .unset]) rfl (pc' := 9) rfl ?_
  refine r_lloadN X0.here hx (hb hby at_9) rfl (pc' := 10) rfl ?_
  refine r_iload X0.here hx (hb hby at_10) rfl (pc' := 12) rfl ?_
  refine r_bipush X0.here hx (hb hby at_12) (v := 63) rfl (pc' := 14) rfl ?_
  refine r_iand X0.here hx (hb hby at_14) (pc' := 15) rfl ?_
  refine r_lshr X0.here hx (hb hby at_15) (pc' := 16) rfl ?_
  refine r_lstore X0.here hx (hb hby at_16) (l' := #[.val (.long a), .second, .val (.long b), .second, .val (.int sa), .val (.int tb), .val (.long (a >>> ((sa &&& (63 : Int32)) &&& 63).toInt64)), .second, .val (.long (b >>> ((tb &&& (63 : Int32)) &&& 63).toInt64)), .second, .unset, .unset, .unset, .unset, .unset, .unset, .unset]) rfl (pc' := 18) rfl ?_
  exact J _ _
set_option maxRecDepth 65536 in
set_option maxHeartbeats 40000000 in
theorem comes_1 {Post : Tables → Env → Array Value → State → Outcome → State → Prop} (hpost : ∀ tb e args s v u, (limb_1_1.after args s (.returned v) u = true ∧ limb_1_2.after args s (.returned v) u = true ∧ True) → FrameEnd s (.returned v) u (Jvm.fieldLocs frame_1_writes args s ++ Jvm.arrayLocs frame_1_arrays args s ++ Jvm.staticLocs frame_1_statics s) 0 0 → Post tb e args s (.returned v) u) :
    ArmFor flags0 classFile x code maxLocals ret World_1 tables_1 room_1 Calls_1 rest_1 Pre_1 Post := by
  intro l hfl _ _ p e ha hc hk s m args below hf hA hF happ hP
  obtain ⟨hcalls, hrest, hpre⟩ := hP
  obtain ⟨-, -, -, hnamed, -, -, -, hat⟩ := (Spec.applies_iff hf).mp happ
  obtain ⟨hg, hn⟩ := and_e (Cond.before_iff.mp (show (Jvm.Cond.and given_1 narrow_1).before args s = true from hpre))
  obtain ⟨h1, g0⟩ := and_e hg
  obtain ⟨q0, g1⟩ := and_e g0
  obtain ⟨q1, g2⟩ := and_e g1
  obtain ⟨q2, g3⟩ := and_e g2
  have q3 := g3
  obtain ⟨w0, w1, w2, w3, rfl⟩ : ∃ w0 w1 w2 w3 : Value, args = #[w0, w1, w2, w3] := by
    have hs : args.size = 4 := by simpa [Cond.value, given_1] using h1
    obtain ⟨L⟩ := args
    match L, hs with
    | [w0, w1, w2, w3], _ => exact ⟨w0, w1, w2, w3, rfl⟩
  have hw := fun d (hd : d ∈ tables_1) => atoms_spec (ws := Jvm.Cond.code x code maxLocals ret :: tables_1) hat d (List.mem_cons_of_mem _ hd)
  have hfit : Fit s := fun {y c} hc i hi => by
    obtain ⟨ha, rfl⟩ := Array.getElem?_eq_some_iff.mp hc
    have q := List.all_eq_true.mp ((Array.all_eq_true_iff_forall_mem.mp hF) _ (Array.getElem_mem ha)) i (List.mem_range.mpr hi)
    simpa [Array.getElem?_eq_getElem hi] using q
  obtain ⟨i0, e0⟩ := isL_v q0
  obtain rfl : w0 = (.long i0) := Option.some.inj e0
  obtain ⟨i1, e1⟩ := isL_v q1
  obtain rfl : w1 = (.long i1) := Option.some.inj e1
  obtain ⟨i2, e2⟩ := is_v q2
  obtain rfl : w2 = (.int i2) := Option.some.inj e2
  obtain ⟨i3, e3⟩ := is_v q3
  obtain rfl : w3 = (.int i3) := Option.some.inj e3
  obtain ⟨n, o, h1, h2, h3, _, L, rfl, ⟨rfl, N⟩, hq⟩ := rm0 l s _ hw tables_1 i0 i1 i2 i3  s.heap s.heap.size (Nat.le_refl _)  p e ha hc hk s m _ below hf ((Spec.applies_iff_loose hf).mp happ).1 ⟨rfl, State.Warmed39.refl s, rfl⟩ trivial
  refine ⟨n, _, h1, h2, h3, hpost _ _ _ _ _ _ ⟨Cond.after_iff.mpr rfl, Cond.after_iff.mpr (eq_i res_at (Term.int_eval (1)) rfl), trivial⟩ ⟨hq.1, hq.2.1, (hq.2.2.sift fun y hy => Or.inr (N y hy)).mono (by decide) (by decide)⟩⟩
theorem main_1_1 : Claimed_1_1 := comes_1 fun _ _ _ _ _ _ h hF => ⟨h.1, hF⟩
theorem main_1_2 : Claimed_1_2 := comes_1 fun _ _ _ _ _ _ h hF => ⟨h.2.1, hF⟩
end Jvm.Pilot.@@N@@
namespace Jvm.Pilot.@@N@@
open Jvm Jvm.ClassFile Sem Op Lib Jvm.Free Jvm.Stand Jvm.Pilot.@@N@@.Jvm.D
/-! MADE BY PROGRAM (witnessworld.py) out of the Statement's table words and the real class files: 10 classes; the members and pool entries that the words name. The judged class is class 1, her method 1. -/
namespace start1
open Jvm.ClassFile
def u (s : String) : CpInfo := .utf8 (stringToUtf16 s)
/-- a pool by its gaps: so many unusable entries, then the entry; so many at the end -/
def gap : Nat → List CpInfo → List CpInfo
  | 0, r => r
  | n + 1, r => .unusable :: gap n r
def poolList (es : List (Nat × CpInfo)) (last : Nat) : List CpInfo := es.foldr (fun e r => gap e.1 (e.2 :: r)) (gap last [])
def pool (es : List (Nat × CpInfo)) (last : Nat) : Array CpInfo := ⟨poolList es last⟩
def fileOf (pool : Array CpInfo) (this : Nat) (attrs : Array Attribute := #[]) (ms : Array MethodInfo := #[]) (fl : Nat := 33) (sup : Nat := 0) (ifs : Array Nat := #[]) (fds : Array FieldInfo := #[]) : ClassFile where
  minorVersion := 0
  majorVersion := 65
  constantPool := pool
  accessFlags := fl
  thisClass := this
  superClass := sup
  interfaces := ifs
  fields := fds
  methods := ms
  attributes := attrs
def plain (name : String) (sup : Option ClassId) : Class where
  name := name
  kind := .ordinary
  loader := none
  accessFlags := 33
  super := sup
  interfaces := #[]
  cf := none
  fields := #[]
  methods := #[]
  instanceTypes := #[]
  staticTypes := #[]
  resolved := #[]
  callSites := []
  init := .initialized
  statics := none
  mirror := none

def pool0 : Array CpInfo := pool [(5, u "<init>"), (0, u "()V"), (1, .class_ 10), (1, u "java/lang/Object")] 113

def k0m0 : Method := { name := "<init>", desc := "()V", sig := { parameters := [], returnType := none }, accessFlags := 1, code := none }
/-- java/lang/Object -/
def k0 : Class := { plain "java/lang/Object" none with
  accessFlags := 33
  interfaces := #[]
  cf := some (fileOf pool0 8 #[] #[{ accessFlags := 1, nameIndex := 5, descriptorIndex := 6, attributes := #[] }] 33 0 #[] #[])
  fields := #[]
  methods := #[k0m0]
  instanceTypes := #[]
  staticTypes := #[]
  resolved := Array.replicate 124 none
  statics := none }

def pool1 : Array CpInfo := pool [(2, .class_ 4), (1, u "java/lang/Object"), (0, u "<init>"), (0, u "()V"), (0, .methodref 8 9), (0, .class_ 10), (0, .nameAndType 11 12), (0, u "com/example/minplux/minplux/LongArithmetic"), (0, u "times"), (0, u "(JJ)J"), (0, .long 18446744073709551615), (3, .long 9223372036854775808), (1, .class_ 20), (0, u "com/example/minplux/minplux/LongArithmeticTimesPinLaw"), (2, u "law"), (0, u "(JJII)Z")] 3

def k1m0 : Method := { name := "<init>", desc := "()V", sig := { parameters := [], returnType := none }, accessFlags := 2, code := none }
def k1c1 : Code := { maxStack := 4, maxLocals := 17, code := code, exceptionTable := #[], attributes := #[] }
def k1m1 : Method := { name := "law", desc := "(JJII)Z", sig := { parameters := [.long, .long, .int, .int], returnType := some .boolean }, accessFlags := 9, code := some k1c1 }
/-- com/example/minplux/minplux/LongArithmeticTimesPinLaw -/
def k1 : Class := { plain "com/example/minplux/minplux/LongArithmeticTimesPinLaw" (some 0) with
  accessFlags := 49
  interfaces := #[]
  cf := some (fileOf pool1 19 #[] #[{ accessFlags := 2, nameIndex := 5, descriptorIndex := 6, attributes := #[] }, { accessFlags := 9, nameIndex := 23, descriptorIndex := 24, attributes := #[] }] 49 2 #[] #[])
  fields := #[]
  methods := #[k1m0, k1m1]
  instanceTypes := #[]
  staticTypes := #[]
  resolved := Array.replicate 28 none
  statics := none }

def pool2 : Array CpInfo := pool [(4, .class_ 6), (1, u "java/lang/Object"), (0, u "<init>"), (0, u "()V"), (10, .class_ 20), (0, u "com/example/minplux/minplux/LongArithmetic"), (0, .long 9223372036854775808), (1, .methodref 24 25), (0, .class_ 26), (0, .nameAndType 27 28), (0, u "java/lang/Math"), (0, u "multiplyHigh"), (0, u "(JJ)J"), (11, u "OUT_OF_RANGE"), (0, u "J"), (6, u "times")] 4

def k2m0 : Method := { name := "<init>", desc := "()V", sig := { parameters := [], returnType := none }, accessFlags := 2, code := none }
def k2c1 : Code := { maxStack := 5, maxLocals := 6, code := prog_29_method_3_code, exceptionTable := #[], attributes := #[] }
def k2m1 : Method := { name := "times", desc := "(JJ)J", sig := { parameters := [.long, .long], returnType := some .long }, accessFlags := 8, code := some k2c1 }
/-- com/example/minplux/minplux/LongArithmetic -/
def k2 : Class := { plain "com/example/minplux/minplux/LongArithmetic" (some 0) with
  accessFlags := 48
  interfaces := #[]
  cf := some (fileOf pool2 19 #[] #[{ accessFlags := 2, nameIndex := 7, descriptorIndex := 8, attributes := #[] }, { accessFlags := 8, nameIndex := 48, descriptorIndex := 28, attributes := #[] }] 48 4 #[] #[{ accessFlags := 24, nameIndex := 40, descriptorIndex := 41, attributes := #[] }])
  fields := #[{ name := "OUT_OF_RANGE", type := .long, accessFlags := 24, slot := 0, constantValue := 0 }]
  methods := #[k2m0, k2m1]
  instanceTypes := #[]
  staticTypes := #[.long]
  resolved := Array.replicate 53 none
  statics := none }

def pool3 : Array CpInfo := pool [(1, .class_ 2), (0, u "java/lang/Math"), (1, .class_ 6), (1, u "java/lang/Object"), (0, u "<init>"), (0, u "()V"), (89, .class_ 100), (1, u "java/lang/Math$RandomNumberGeneratorHolder"), (20, u "(JJ)J"), (16, .long 4294967295), (3, u "multiplyHigh"), (29, u "negativeZeroFloatBits"), (0, u "J"), (2, u "negativeZeroDoubleBits"), (68, u "$assertionsDisabled"), (0, u "Z"), (91, u "twoToTheDoubleScaleDown"), (0, u "D"), (4, u "twoToTheDoubleScaleUp"), (9, u "E"), (3, u "PI"), (2, u "TAU"), (2, u "DEGREES_TO_RADIANS"), (0, u "RADIANS_TO_DEGREES")] 94

def k3m0 : Method := { name := "<init>", desc := "()V", sig := { parameters := [], returnType := none }, accessFlags := 2, code := none }
def k3c1 : Code := { maxStack := 6, maxLocals := 20, code := jdk_29_method_45_code, exceptionTable := #[], attributes := #[] }
def k3m1 : Method := { name := "multiplyHigh", desc := "(JJ)J", sig := { parameters := [.long, .long], returnType := some .long }, accessFlags := 9, code := some k3c1 }
/-- java/lang/Math -/
def k3 : Class := { plain "java/lang/Math" (some 0) with
  accessFlags := 49
  interfaces := #[]
  cf := some (fileOf pool3 1 #[.nestMembers #[98]] #[{ accessFlags := 2, nameIndex := 7, descriptorIndex := 8, attributes := #[] }, { accessFlags := 9, nameIndex := 142, descriptorIndex := 121, attributes := #[] }] 49 4 #[] #[{ accessFlags := 25, nameIndex := 354, descriptorIndex := 339, attributes := #[] }, { accessFlags := 25, nameIndex := 358, descriptorIndex := 339, attributes := #[] }, { accessFlags := 25, nameIndex := 361, descriptorIndex := 339, attributes := #[] }, { accessFlags := 26, nameIndex := 364, descriptorIndex := 339, attributes := #[] }, { accessFlags := 26, nameIndex := 365, descriptorIndex := 339, attributes := #[] }, { accessFlags := 26, nameIndex := 172, descriptorIndex := 173, attributes := #[] }, { accessFlags := 26, nameIndex := 176, descriptorIndex := 173, attributes := #[] }, { accessFlags := 8, nameIndex := 344, descriptorIndex := 339, attributes := #[] }, { accessFlags := 8, nameIndex := 338, descriptorIndex := 339, attributes := #[] }, { accessFlags := 4120, nameIndex := 245, descriptorIndex := 246, attributes := #[] }])
  fields := #[{ name := "E", type := .double, accessFlags := 25, slot := 0, constantValue := 0 }, { name := "PI", type := .double, accessFlags := 25, slot := 1, constantValue := 0 }, { name := "TAU", type := .double, accessFlags := 25, slot := 2, constantValue := 0 }, { name := "DEGREES_TO_RADIANS", type := .double, accessFlags := 26, slot := 3, constantValue := 0 }, { name := "RADIANS_TO_DEGREES", type := .double, accessFlags := 26, slot := 4, constantValue := 0 }, { name := "negativeZeroFloatBits", type := .long, accessFlags := 26, slot := 5, constantValue := 0 }, { name := "negativeZeroDoubleBits", type := .long, accessFlags := 26, slot := 6, constantValue := 0 }, { name := "twoToTheDoubleScaleUp", type := .double, accessFlags := 8, slot := 7, constantValue := 0 }, { name := "twoToTheDoubleScaleDown", type := .double, accessFlags := 8, slot := 8, constantValue := 0 }, { name := "$assertionsDisabled", type := .boolean, accessFlags := 4120, slot := 9, constantValue := 0 }]
  methods := #[k3m0, k3m1]
  instanceTypes := #[]
  staticTypes := #[.double, .double, .double, .double, .double, .long, .long, .double, .double, .boolean]
  resolved := Array.replicate 460 none
  statics := none }

def pool4 : Array CpInfo := pool [(1, u "java/lang/Cloneable"), (0, .class_ 1), (0, u "java/lang/Object"), (0, .class_ 3)] 3

/-- java/lang/Cloneable -/
def k4 : Class := { plain "java/lang/Cloneable" (some 0) with
  accessFlags := 1537
  interfaces := #[]
  cf := some (fileOf pool4 2 #[] #[] 1537 4 #[] #[])
  fields := #[]
  methods := #[]
  instanceTypes := #[]
  staticTypes := #[]
  resolved := Array.replicate 8 none
  statics := none }

def pool5 : Array CpInfo := pool [(1, u "java/io/Serializable"), (0, .class_ 1), (0, u "java/lang/Object"), (0, .class_ 3)] 3

/-- java/io/Serializable -/
def k5 : Class := { plain "java/io/Serializable" (some 0) with
  accessFlags := 1537
  interfaces := #[]
  cf := some (fileOf pool5 2 #[] #[] 1537 4 #[] #[])
  fields := #[]
  methods := #[]
  instanceTypes := #[]
  staticTypes := #[]
  resolved := Array.replicate 8 none
  statics := none }

/-- the primitive byte -/
def k6 : Class := { plain "byte" none with kind := .primitive 'B', accessFlags := 0x411 }
/-- [B -/
def k7 : Class := { plain "[B" (some 0) with kind := .array 6 .byte, interfaces := #[4, 5], accessFlags := 1041 }

/-- the primitive int -/
def k8 : Class := { plain "int" none with kind := .primitive 'I', accessFlags := 0x411 }
/-- [I -/
def k9 : Class := { plain "[I" (some 0) with kind := .array 8 .int, interfaces := #[4, 5], accessFlags := 1041 }

def heap : Heap := #[]
def classes : Array Class := #[k0, k1, k2, k3, k4, k5, k6, k7, k8, k9]
def interned : List (Array UInt16 × Addr) := []
def slotsUsed : Nat := 0
def theMethod : MethodId := ⟨1, 1⟩
def args0 : Array Value := #[.long 5, .long 7, .int 0, .int 1]
def aboutOver (below : List Frame) : State where
  vm := { classes := classes, interned := interned.toArray }
  heap := heap
  slotsUsed := slotsUsed
  threads := #[{ frames := .invoking theMethod args0 :: below }]
def below0 : List Frame := [.native { method := ⟨0, 0⟩, args := #[] }]
def about1 : State := aboutOver below0
def p0 : Program := .bare "" "" ""
def e0 : Env := launch0.env 0 0 0
theorem w_frames : about1.frames = Frame.invoking theMethod args0 :: below0 := rfl
set_option maxRecDepth 65536 in
theorem w_args : argsFit about1.vm theMethod args0 = true := by decide +kernel
set_option maxRecDepth 65536 in
theorem w_heap : heapFits about1 = true := by decide +kernel
set_option maxRecDepth 65536 in
theorem w_runnable : about1.curStatus? = some .runnable := by decide +kernel
set_option maxRecDepth 65536 in
theorem w_alone : about1.alone = true := by decide +kernel
set_option maxRecDepth 65536 in
theorem w_named : about1.methodNamed? x = some theMethod := by decide +kernel
set_option maxRecDepth 65536 in
theorem w_hears : about1.hears theMethod below0 = true := by decide +kernel
set_option maxRecDepth 65536 in
theorem w_ripe : about1.ripe theMethod args0 below0 = true := by decide +kernel
theorem w_running : about1.status = .running := rfl
set_option maxRecDepth 65536 in
theorem w_room : about1.hasRoom e0.platform room_1 = true :=
  launch0.hasRoom_least _ room_1 (by decide +kernel) (by decide +kernel) (by decide +kernel) (by decide +kernel) (by decide +kernel) (by decide +kernel)
theorem allAtoms_all (ts : List Jvm.Cond) (a : Array Jvm.Value) (st : Jvm.State) : (allAtoms ts).before a st = ts.all (fun c => c.before a st) := by
  induction ts with
  | nil => rfl
  | cons c t ih =>
    show (Jvm.Cond.and c (allAtoms t)).before a st = _
    rw [Jvm.Cond.before_and, ih, List.all_cons]
def words1 : List Jvm.Cond := Jvm.Cond.code x code maxLocals ret :: tables_1
/-- a 'code' word, met by the world's own term for the bytes: nothing is compared byte by byte -/
theorem code_word {y : MethodName} {bytes : ByteArray} {mx : Nat} {rt : Option FieldType} {a : Array Value} {s : State} {m : MethodId} {meth : Method} {c : Code} (h1 : s.methodNamed? y = some m) (h2 : s.vm.method? m = some meth) (h3 : meth.code = some c) (h4 : c.code = bytes)
    (h5 : (c.maxLocals == mx && c.exceptionTable.isEmpty && decide (c.maxStack ≤ mostOperands) && decide (meth.sig.returnType = rt) && !meth.locks && decide (parseMethodDescriptor y.desc = some meth.sig)) = true) : (Jvm.Cond.code y bytes mx rt).before a s = true := by
  simp only [Bool.and_eq_true, beq_iff_eq, Bool.not_eq_true', decide_eq_true_eq] at h5
  obtain ⟨⟨⟨⟨⟨g1, g2⟩, g3⟩, g4⟩, g5⟩, g6⟩ := h5
  simp [Cond.before, Cond.holds, Cond.value, h1, h2, h3, h4, g1, g2, g3, g4, g5, g6]
def isCode : Jvm.Cond → Bool
  | .code _ _ _ _ => true
  | _ => false
theorem all_split {L : List Jvm.Cond} {P : Jvm.Cond → Bool} (h1 : L.all (fun c => isCode c || P c) = true) (h2 : ∀ c ∈ L.filter isCode, P c = true) : L.all P = true := by
  refine List.all_eq_true.mpr fun c hc => ?_
  have h := List.all_eq_true.mp h1 c hc
  rcases Bool.eq_false_or_eq_true (isCode c) with hi | hi
  · exact h2 c (List.mem_filter.mpr ⟨hc, hi⟩)
  · simpa [hi] using h
set_option maxRecDepth 65536 in
theorem w_c0 : (Jvm.Cond.code x code maxLocals ret).before args0 about1 = true := code_word (m := ⟨1, 1⟩) (meth := k1m1) (c := k1c1) (by decide +kernel) rfl rfl rfl (by decide +kernel)
set_option maxRecDepth 65536 in
theorem w_c1 : (Jvm.Cond.code ({ cls := "com/example/minplux/minplux/LongArithmetic", name := "times", desc := "(JJ)J" } : Jvm.MethodName) prog_29_method_3_code (6 : Nat) (Option.some Jvm.ClassFile.FieldType.long)).before args0 about1 = true := code_word (m := ⟨2, 1⟩) (meth := k2m1) (c := k2c1) (by decide +kernel) rfl rfl rfl (by decide +kernel)
set_option maxRecDepth 65536 in
theorem w_c2 : (Jvm.Cond.code ({ cls := "java/lang/Math", name := "multiplyHigh", desc := "(JJ)J" } : Jvm.MethodName) jdk_29_method_45_code (20 : Nat) (Option.some Jvm.ClassFile.FieldType.long)).before args0 about1 = true := code_word (m := ⟨3, 1⟩) (meth := k3m1) (c := k3c1) (by decide +kernel) rfl rfl rfl (by decide +kernel)
def codes1 : List Jvm.Cond := [Jvm.Cond.code x code maxLocals ret, Jvm.Cond.code ({ cls := "com/example/minplux/minplux/LongArithmetic", name := "times", desc := "(JJ)J" } : Jvm.MethodName) prog_29_method_3_code (6 : Nat) (Option.some Jvm.ClassFile.FieldType.long), Jvm.Cond.code ({ cls := "java/lang/Math", name := "multiplyHigh", desc := "(JJ)J" } : Jvm.MethodName) jdk_29_method_45_code (20 : Nat) (Option.some Jvm.ClassFile.FieldType.long)]
set_option maxRecDepth 65536 in
theorem codes_eq : words1.filter isCode = codes1 := rfl
theorem w_codes : ∀ c ∈ words1.filter isCode, c.before args0 about1 = true := by
  rw [codes_eq]
  intro c hc
  simp only [codes1, List.mem_cons, List.not_mem_nil, or_false] at hc
  rcases hc with rfl | rfl | rfl
  · exact w_c0
  · exact w_c1
  · exact w_c2
set_option maxRecDepth 65536 in
theorem w_t1 : words1.all (fun c => isCode c || c.before args0 about1) = true := by decide +kernel
theorem w_tables : (allAtoms (Jvm.Cond.code x code maxLocals ret :: tables_1)).before args0 about1 = true := by
  rw [allAtoms_all]
  show words1.all (fun c => c.before args0 about1) = true
  refine all_split ?_ w_codes
  rw [w_t1]
set_option maxRecDepth 65536 in
theorem w_case : (Jvm.Cond.and given_1 narrow_1).before args0 about1 = true := by decide +kernel
theorem w_applies : (headSpec (Jvm.Cond.code x code maxLocals ret :: tables_1) room_1).applies x e0.platform about1 = true :=
  (Spec.applies_iff w_frames).mpr ⟨w_running, w_runnable, w_alone, w_named, w_hears, w_ripe, w_room, w_tables⟩
theorem atStart : AtStart classFile x code maxLocals ret World_1 tables_1 room_1 Calls_1 rest_1 Pre_1 launch0 p0 e0 about1 theMethod args0 below0 :=
  ⟨lists_1, trivial, launch0.admits_env _ _ _, launch0.least_env, fairChoices_fair.cas, fairChoices_fair.clock, w_frames, w_args, w_heap, w_applies, trivial, trivial, w_case⟩
end start1
theorem witness_1 : WitnessClaimed_1 := ⟨start1.p0, start1.e0, start1.about1, start1.theMethod, start1.args0, start1.below0, start1.atStart⟩
end Jvm.Pilot.@@N@@
