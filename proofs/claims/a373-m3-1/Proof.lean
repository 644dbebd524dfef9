import JvmDerived
import JvmDerived.Pilot.@@N@@Statement
import JvmDerived.Pilot.@@N@@Code
set_option linter.unusedVariables false
set_option linter.unusedSimpArgs false
namespace Jvm.Pilot.@@N@@
open Jvm Jvm.ClassFile Sem Op Lib Jvm.Free Jvm.Stand Jvm.LawKit Jvm.RoadKit Bundle Jvm.Pilot.@@N@@.Jvm.D
section Core
variable {p : Program} {l : Launch} {e : Env} {R : Room} {s : State} {m : MethodId} {args : Array Value} {below : List Frame} {meth : Method} {c : Code} {T T' : State} {locs : List Loc} {cells slots : Nat} {Q : Option Value → Heap → List Loc → Prop} {En : Outcome → State → List Loc → Prop} {kc ks : Nat} {Z : State} {a0 : Array Value} {h : Heap} {Ls : Array Slot} {st rest : List Value} {pc pc' : Nat}
def ushrI (x y : Int32) : Int32 := (x.toUInt32 >>> (y &&& 31).toUInt32).toInt32
def ushrJ (x : Int64) (y : Int32) : Int64 := (x.toUInt64 >>> (y &&& 0x3f).toInt64.toUInt64).toInt64
def cmpJ (x y : Int64) : Int32 := if x > y then 1 else if x = y then 0 else -1
def Run (p : Program) (e : Env) (below : List Frame) (Q : Option Value → Heap → List Loc → Prop) (En : Outcome → State → List Loc → Prop) (T : State) (g : JFrame) : Prop :=
  ∃ s₂ o, Steps p.tables e below (T.setTop g) s₂ ∧ s₂.status = .running ∧ Ended s₂ below o ∧ ∃ v L, o = .returned v ∧ Q v s₂.heap L ∧ En o s₂ L
theorem Run.on {g g' : JFrame} (r : Run p e below Q En T' g') (q : ∀ t, Steps p.tables e below (T'.setTop g') t → Steps p.tables e below (T.setTop g) t) : Run p e below Q En T g := by
  obtain ⟨s₂, o, h1, r⟩ := r
  exact ⟨s₂, o, q _ h1, r⟩
theorem Run.cast {g g' : JFrame} (q : g = g') (r : Run p e below Q En T g') : Run p e below Q En T g := q ▸ r
abbrev Met (l : Launch) (Z : State) (y : MethodName) (bytes : ByteArray) (maxL : Nat) (ret : Option FieldType) (ws : List Jvm.Cond) (rm : Room) (as' : Array Value) (h0 : Heap) (Q : Option Value → Heap → List Loc → Prop) (kc ks : Nat) : Prop :=
  MetFree l y (head1 (Jvm.Cond.code y bytes maxL ret :: ws) rm) (fun a U => a = as' ∧ Z.Warmed39 U.vm ∧ U.heap = h0) (fun _ _ _ _ _ => True) (fun _ U o U' => ∃ v L, o = .returned v ∧ Q v U'.heap L ∧ FrameEnd U o U' L kc ks)
theorem met_of {y : MethodName} {bytes : ByteArray} {maxL : Nat} {ret : Option FieldType} {ws : List Jvm.Cond} {rm : Room} {as' : Array Value} {h0 : Heap} {Q : Option Value → Heap → List Loc → Prop} {kc ks : Nat} {f0 : MethodId → JFrame} (hpn : plainFor y = true)
    (hef : ∀ m, entryFrame m as' maxL = f0 m)
    (body : ∀ (p : Program) (e : Env) (s : State) (m : MethodId) (below : List Frame) (meth : Method) (c : Code) (s₁ : State), Stand p l e rm s m as' below meth c s₁ [] 0 0 → p.tables.exec = Jvm.exec → c.code = bytes → c.maxLocals = maxL → meth.sig.returnType = ret → meth.locks = false → s.vm.findClass y.cls = some m.cls → meth.name = y.name → Z.Warmed39 s.vm → s₁.heap = h0 → Run p e below Q (fun o t L => FrameEnd s o t L kc ks) s₁ (f0 m)) :
    Met l Z y bytes maxL ret ws rm as' h0 Q kc ks := by
  refine MetFree.of_bodySF (code := bytes) (maxLocals := maxL) (ret := ret) hpn hisR ?_
  intro p e s m args below meth c s₁ Bd hml0 hP hK
  obtain ⟨rfl, hZ, hh⟩ := hP
  obtain ⟨s₂, o, r⟩ := body p e s m below meth c s₁ (Stand.of_body Bd) Bd.exec Bd.bytes hml0 Bd.returns (BodyLoose.notSynchronized Bd) (findClass_of_methodNamed Bd.named) (name_of_methodNamed Bd.named Bd.method).1 hZ (by rw [← hh, Bd.state]; rfl)
  rw [hef m]
  exact ⟨s₂, o, r⟩
theorem r_aloadN (at_ : At T m c below) (hx : p.tables.exec = Jvm.exec) {k : Fin 4} {v : Value} (hd : decode c.code pc = .ok (.aload_n k, 1)) (hl : Ls[k.val]? = some (.val v)) (hv : v.isRef = true) (hp : pc + 1 = pc') (r : Run p e below Q En T (mkF m pc' Ls (v :: rest))) : Run p e below Q En T (mkF m pc Ls (rest)) := by
  subst hp; exact r.on fun _ q => XS.aloadN at_ hx rfl hd hl hv q
theorem r_aload (at_ : At T m c below) (hx : p.tables.exec = Jvm.exec) {k : Nat} {v : Value} (hd : decode c.code pc = .ok (.aload k, 2)) (hl : Ls[k]? = some (.val v)) (hv : v.isRef = true) (hp : pc + 2 = pc') (r : Run p e below Q En T (mkF m pc' Ls (v :: rest))) : Run p e below Q En T (mkF m pc Ls (rest)) := by
  subst hp; exact r.on fun _ q => XS.aload at_ hx rfl hd hl hv q
theorem r_iloadN (at_ : At T m c below) (hx : p.tables.exec = Jvm.exec) {k : Fin 4} {v : Int32} (hd : decode c.code pc = .ok (.iload_n k, 1)) (hl : Ls[k.val]? = some (.val (.int v))) (hp : pc + 1 = pc') (r : Run p e below Q En T (mkF m pc' Ls (.int v :: rest))) : Run p e below Q En T (mkF m pc Ls (rest)) := by
  subst hp; exact r.on fun _ q => XS.iloadN at_ hx rfl hd hl q
theorem r_iload (at_ : At T m c below) (hx : p.tables.exec = Jvm.exec) {k : Nat} {v : Int32} (hd : decode c.code pc = .ok (.iload k, 2)) (hl : Ls[k]? = some (.val (.int v))) (hp : pc + 2 = pc') (r : Run p e below Q En T (mkF m pc' Ls (.int v :: rest))) : Run p e below Q En T (mkF m pc Ls (rest)) := by
  subst hp; exact r.on fun _ q => XS.iload at_ hx rfl hd hl q
theorem r_lloadN (at_ : At T m c below) (hx : p.tables.exec = Jvm.exec) {k : Fin 4} {v : Int64} (hd : decode c.code pc = .ok (.lload_n k, 1)) (hl : Ls[k.val]? = some (.val (.long v))) (hp : pc + 1 = pc') (r : Run p e below Q En T (mkF m pc' Ls (.long v :: rest))) : Run p e below Q En T (mkF m pc Ls (rest)) := by
  subst hp; exact r.on fun _ q => XS.lloadN at_ hx rfl hd hl q
theorem r_lload (at_ : At T m c below) (hx : p.tables.exec = Jvm.exec) {k : Nat} {v : Int64} (hd : decode c.code pc = .ok (.lload k, 2)) (hl : Ls[k]? = some (.val (.long v))) (hp : pc + 2 = pc') (r : Run p e below Q En T (mkF m pc' Ls (.long v :: rest))) : Run p e below Q En T (mkF m pc Ls (rest)) := by
  subst hp; exact r.on fun _ q => XS.lload at_ hx rfl hd hl q
theorem r_istoreN (at_ : At T m c below) (hx : p.tables.exec = Jvm.exec) {k : Fin 4} {x : Int32} {l' : Array Slot} (hd : decode c.code pc = .ok (.istore_n k, 1)) (hl : storeLocals Ls k.val (.int x) = some l') (hp : pc + 1 = pc') (r : Run p e below Q En T (mkF m pc' l' (rest))) : Run p e below Q En T (mkF m pc Ls (.int x :: rest)) := by
  subst hp; exact r.on fun _ q => XS.istoreN at_ hx rfl hd rfl hl q
theorem r_istore (at_ : At T m c below) (hx : p.tables.exec = Jvm.exec) {k : Nat} {x : Int32} {l' : Array Slot} (hd : decode c.code pc = .ok (.istore k, 2)) (hl : storeLocals Ls k (.int x) = some l') (hp : pc + 2 = pc') (r : Run p e below Q En T (mkF m pc' l' (rest))) : Run p e below Q En T (mkF m pc Ls (.int x :: rest)) := by
  subst hp; exact r.on fun _ q => XS.istore at_ hx rfl hd rfl hl q
theorem r_lstoreN (at_ : At T m c below) (hx : p.tables.exec = Jvm.exec) {k : Fin 4} {x : Int64} {l' : Array Slot} (hd : decode c.code pc = .ok (.lstore_n k, 1)) (hl : storeLocals Ls k.val (.long x) = some l') (hp : pc + 1 = pc') (r : Run p e below Q En T (mkF m pc' l' (rest))) : Run p e below Q En T (mkF m pc Ls (.long x :: rest)) := by
  subst hp; exact r.on fun _ q => XS.lstoreN at_ hx rfl hd rfl hl q
theorem r_lstore (at_ : At T m c below) (hx : p.tables.exec = Jvm.exec) {k : Nat} {x : Int64} {l' : Array Slot} (hd : decode c.code pc = .ok (.lstore k, 2)) (hl : storeLocals Ls k (.long x) = some l') (hp : pc + 2 = pc') (r : Run p e below Q En T (mkF m pc' l' (rest))) : Run p e below Q En T (mkF m pc Ls (.long x :: rest)) := by
  subst hp; exact r.on fun _ q => XS.lstore at_ hx rfl hd rfl hl q
theorem r_astoreN (at_ : At T m c below) (hx : p.tables.exec = Jvm.exec) {k : Fin 4} {x : Value} {l' : Array Slot} (hd : decode c.code pc = .ok (.astore_n k, 1)) (hv : x.isRef = true) (hl : storeLocals Ls k.val x = some l') (hp : pc + 1 = pc') (r : Run p e below Q En T (mkF m pc' l' (rest))) : Run p e below Q En T (mkF m pc Ls (x :: rest)) := by
  subst hp; exact r.on fun _ q => XS.astoreN at_ hx rfl hd rfl hv hl q
theorem r_astore (at_ : At T m c below) (hx : p.tables.exec = Jvm.exec) {k : Nat} {x : Value} {l' : Array Slot} (hd : decode c.code pc = .ok (.astore k, 2)) (hv : x.isRef = true) (hl : storeLocals Ls k x = some l') (hp : pc + 2 = pc') (r : Run p e below Q En T (mkF m pc' l' (rest))) : Run p e below Q En T (mkF m pc Ls (x :: rest)) := by
  subst hp; exact r.on fun _ q => XS.astore at_ hx rfl hd rfl hv hl q
theorem r_iconst (at_ : At T m c below) (hx : p.tables.exec = Jvm.exec) {i : Int} {v : Int32} (hd : decode c.code pc = .ok (.iconst i, 1)) (hv : Int32.ofInt i = v) (hp : pc + 1 = pc') (r : Run p e below Q En T (mkF m pc' Ls (.int v :: rest))) : Run p e below Q En T (mkF m pc Ls rest) := by
  subst hp hv; exact r.on fun _ q => XS.iconst at_ hx rfl hd q
theorem r_bipush (at_ : At T m c below) (hx : p.tables.exec = Jvm.exec) {i : Int} {v : Int32} (hd : decode c.code pc = .ok (.bipush i, 2)) (hv : (Int8.ofInt i).toInt32 = v) (hp : pc + 2 = pc') (r : Run p e below Q En T (mkF m pc' Ls (.int v :: rest))) : Run p e below Q En T (mkF m pc Ls rest) := by
  subst hp hv; exact r.on fun _ q => XS.bipush at_ hx rfl hd q
theorem r_sipush (at_ : At T m c below) (hx : p.tables.exec = Jvm.exec) {i : Int} {v : Int32} (hd : decode c.code pc = .ok (.sipush i, 3)) (hv : (Int16.ofInt i).toInt32 = v) (hp : pc + 3 = pc') (r : Run p e below Q En T (mkF m pc' Ls (.int v :: rest))) : Run p e below Q En T (mkF m pc Ls rest) := by
  subst hp hv; exact r.on fun _ q => XS.sipush at_ hx rfl hd q
theorem r_lconst (at_ : At T m c below) (hx : p.tables.exec = Jvm.exec) {k : Fin 2} {v : Int64} (hd : decode c.code pc = .ok (.lconst k, 1)) (hv : Int64.ofNat k = v) (hp : pc + 1 = pc') (r : Run p e below Q En T (mkF m pc' Ls (.long v :: rest))) : Run p e below Q En T (mkF m pc Ls rest) := by
  subst hp hv; exact r.on fun _ q => XS.lconst at_ hx rfl hd q
theorem r_aconst_null (at_ : At T m c below) (hx : p.tables.exec = Jvm.exec)  (hd : decode c.code pc = .ok (.aconst_null, 1))  (hp : pc + 1 = pc') (r : Run p e below Q En T (mkF m pc' Ls (.null :: rest))) : Run p e below Q En T (mkF m pc Ls (rest)) := by
  subst hp; exact r.on fun _ q => XS.aconstNull at_ hx rfl hd  q
theorem r_iadd (at_ : At T m c below) (hx : p.tables.exec = Jvm.exec) {x y : Int32} (hd : decode c.code pc = .ok (.iadd, 1))  (hp : pc + 1 = pc') (r : Run p e below Q En T (mkF m pc' Ls (.int (x + y) :: rest))) : Run p e below Q En T (mkF m pc Ls (.int y :: .int x :: rest)) := by
  subst hp; exact r.on fun _ q => XS.iadd at_ hx rfl hd rfl q
theorem r_isub (at_ : At T m c below) (hx : p.tables.exec = Jvm.exec) {x y : Int32} (hd : decode c.code pc = .ok (.isub, 1))  (hp : pc + 1 = pc') (r : Run p e below Q En T (mkF m pc' Ls (.int (x - y) :: rest))) : Run p e below Q En T (mkF m pc Ls (.int y :: .int x :: rest)) := by
  subst hp; exact r.on fun _ q => XS.isub at_ hx rfl hd rfl q
theorem r_imul (at_ : At T m c below) (hx : p.tables.exec = Jvm.exec) {x y : Int32} (hd : decode c.code pc = .ok (.imul, 1))  (hp : pc + 1 = pc') (r : Run p e below Q En T (mkF m pc' Ls (.int (x * y) :: rest))) : Run p e below Q En T (mkF m pc Ls (.int y :: .int x :: rest)) := by
  subst hp; exact r.on fun _ q => XS.imul at_ hx rfl hd rfl q
theorem r_iand (at_ : At T m c below) (hx : p.tables.exec = Jvm.exec) {x y : Int32} (hd : decode c.code pc = .ok (.iand, 1))  (hp : pc + 1 = pc') (r : Run p e below Q En T (mkF m pc' Ls (.int (x &&& y) :: rest))) : Run p e below Q En T (mkF m pc Ls (.int y :: .int x :: rest)) := by
  subst hp; exact r.on fun _ q => XS.iand at_ hx rfl hd rfl q
theorem r_ior (at_ : At T m c below) (hx : p.tables.exec = Jvm.exec) {x y : Int32} (hd : decode c.code pc = .ok (.ior, 1))  (hp : pc + 1 = pc') (r : Run p e below Q En T (mkF m pc' Ls (.int (x ||| y) :: rest))) : Run p e below Q En T (mkF m pc Ls (.int y :: .int x :: rest)) := by
  subst hp; exact r.on fun _ q => XS.ior at_ hx rfl hd rfl q
theorem r_ixor (at_ : At T m c below) (hx : p.tables.exec = Jvm.exec) {x y : Int32} (hd : decode c.code pc = .ok (.ixor, 1))  (hp : pc + 1 = pc') (r : Run p e below Q En T (mkF m pc' Ls (.int (x ^^^ y) :: rest))) : Run p e below Q En T (mkF m pc Ls (.int y :: .int x :: rest)) := by
  subst hp; exact r.on fun _ q => XS.ixor at_ hx rfl hd rfl q
theorem r_ladd (at_ : At T m c below) (hx : p.tables.exec = Jvm.exec) {x y : Int64} (hd : decode c.code pc = .ok (.ladd, 1))  (hp : pc + 1 = pc') (r : Run p e below Q En T (mkF m pc' Ls (.long (x + y) :: rest))) : Run p e below Q En T (mkF m pc Ls (.long y :: .long x :: rest)) := by
  subst hp; exact r.on fun _ q => XS.ladd at_ hx rfl hd rfl q
theorem r_lsub (at_ : At T m c below) (hx : p.tables.exec = Jvm.exec) {x y : Int64} (hd : decode c.code pc = .ok (.lsub, 1))  (hp : pc + 1 = pc') (r : Run p e below Q En T (mkF m pc' Ls (.long (x - y) :: rest))) : Run p e below Q En T (mkF m pc Ls (.long y :: .long x :: rest)) := by
  subst hp; exact r.on fun _ q => XS.lsub at_ hx rfl hd rfl q
theorem r_lmul (at_ : At T m c below) (hx : p.tables.exec = Jvm.exec) {x y : Int64} (hd : decode c.code pc = .ok (.lmul, 1))  (hp : pc + 1 = pc') (r : Run p e below Q En T (mkF m pc' Ls (.long (x * y) :: rest))) : Run p e below Q En T (mkF m pc Ls (.long y :: .long x :: rest)) := by
  subst hp; exact r.on fun _ q => XS.lmul at_ hx rfl hd rfl q
theorem r_land (at_ : At T m c below) (hx : p.tables.exec = Jvm.exec) {x y : Int64} (hd : decode c.code pc = .ok (.land, 1))  (hp : pc + 1 = pc') (r : Run p e below Q En T (mkF m pc' Ls (.long (x &&& y) :: rest))) : Run p e below Q En T (mkF m pc Ls (.long y :: .long x :: rest)) := by
  subst hp; exact r.on fun _ q => XS.land at_ hx rfl hd rfl q
theorem r_lor (at_ : At T m c below) (hx : p.tables.exec = Jvm.exec) {x y : Int64} (hd : decode c.code pc = .ok (.lor, 1))  (hp : pc + 1 = pc') (r : Run p e below Q En T (mkF m pc' Ls (.long (x ||| y) :: rest))) : Run p e below Q En T (mkF m pc Ls (.long y :: .long x :: rest)) := by
  subst hp; exact r.on fun _ q => XS.lor at_ hx rfl hd rfl q
theorem r_lxor (at_ : At T m c below) (hx : p.tables.exec = Jvm.exec) {x y : Int64} (hd : decode c.code pc = .ok (.lxor, 1))  (hp : pc + 1 = pc') (r : Run p e below Q En T (mkF m pc' Ls (.long (x ^^^ y) :: rest))) : Run p e below Q En T (mkF m pc Ls (.long y :: .long x :: rest)) := by
  subst hp; exact r.on fun _ q => XS.lxor at_ hx rfl hd rfl q
theorem r_ineg (at_ : At T m c below) (hx : p.tables.exec = Jvm.exec) {x : Int32} (hd : decode c.code pc = .ok (.ineg, 1))  (hp : pc + 1 = pc') (r : Run p e below Q En T (mkF m pc' Ls (.int (-x) :: rest))) : Run p e below Q En T (mkF m pc Ls (.int x :: rest)) := by
  subst hp; exact r.on fun _ q => XS.ineg at_ hx rfl hd rfl q
theorem r_lneg (at_ : At T m c below) (hx : p.tables.exec = Jvm.exec) {x : Int64} (hd : decode c.code pc = .ok (.lneg, 1))  (hp : pc + 1 = pc') (r : Run p e below Q En T (mkF m pc' Ls (.long (-x) :: rest))) : Run p e below Q En T (mkF m pc Ls (.long x :: rest)) := by
  subst hp; exact r.on fun _ q => XS.lneg at_ hx rfl hd rfl q
theorem r_ishl (at_ : At T m c below) (hx : p.tables.exec = Jvm.exec) {x y : Int32} (hd : decode c.code pc = .ok (.ishl, 1))  (hp : pc + 1 = pc') (r : Run p e below Q En T (mkF m pc' Ls (.int (x <<< (y &&& 31)) :: rest))) : Run p e below Q En T (mkF m pc Ls (.int y :: .int x :: rest)) := by
  subst hp; exact r.on fun _ q => XS.ishl at_ hx rfl hd rfl q
theorem r_ishr (at_ : At T m c below) (hx : p.tables.exec = Jvm.exec) {x y : Int32} (hd : decode c.code pc = .ok (.ishr, 1))  (hp : pc + 1 = pc') (r : Run p e below Q En T (mkF m pc' Ls (.int (x >>> (y &&& 31)) :: rest))) : Run p e below Q En T (mkF m pc Ls (.int y :: .int x :: rest)) := by
  subst hp; exact r.on fun _ q => XS.ishr at_ hx rfl hd rfl q
theorem r_iushr (at_ : At T m c below) (hx : p.tables.exec = Jvm.exec) {x y : Int32} (hd : decode c.code pc = .ok (.iushr, 1))  (hp : pc + 1 = pc') (r : Run p e below Q En T (mkF m pc' Ls (.int (ushrI x y) :: rest))) : Run p e below Q En T (mkF m pc Ls (.int y :: .int x :: rest)) := by
  subst hp; exact r.on fun _ q => XS.iushr at_ hx rfl hd rfl q
theorem r_lshl (at_ : At T m c below) (hx : p.tables.exec = Jvm.exec) {x : Int64} {y : Int32} (hd : decode c.code pc = .ok (.lshl, 1))  (hp : pc + 1 = pc') (r : Run p e below Q En T (mkF m pc' Ls (.long (x <<< (y &&& 63).toInt64) :: rest))) : Run p e below Q En T (mkF m pc Ls (.int y :: .long x :: rest)) := by
  subst hp; exact r.on fun _ q => XS.lshl at_ hx rfl hd rfl q
theorem r_lshr (at_ : At T m c below) (hx : p.tables.exec = Jvm.exec) {x : Int64} {y : Int32} (hd : decode c.code pc = .ok (.lshr, 1))  (hp : pc + 1 = pc') (r : Run p e below Q En T (mkF m pc' Ls (.long (x >>> (y &&& 63).toInt64) :: rest))) : Run p e below Q En T (mkF m pc Ls (.int y :: .long x :: rest)) := by
  subst hp; exact r.on fun _ q => XS.lshr at_ hx rfl hd rfl q
theorem r_lushr (at_ : At T m c below) (hx : p.tables.exec = Jvm.exec) {x : Int64} {y : Int32} (hd : decode c.code pc = .ok (.lushr, 1))  (hp : pc + 1 = pc') (r : Run p e below Q En T (mkF m pc' Ls (.long (ushrJ x y) :: rest))) : Run p e below Q En T (mkF m pc Ls (.int y :: .long x :: rest)) := by
  subst hp; exact r.on fun _ q => XS.lushr at_ hx rfl hd rfl q
theorem r_idiv (at_ : At T m c below) (hx : p.tables.exec = Jvm.exec) {x y : Int32} (hd : decode c.code pc = .ok (.idiv, 1)) (hy : y ≠ 0) (hp : pc + 1 = pc') (r : Run p e below Q En T (mkF m pc' Ls (.int (x / y) :: rest))) : Run p e below Q En T (mkF m pc Ls (.int y :: .int x :: rest)) := by
  subst hp; exact r.on fun _ q => XS.idiv at_ hx rfl hd rfl hy q
theorem r_irem0 (at_ : At T m c below) (hx : p.tables.exec = Jvm.exec) {x y : Int32} (hd : decode c.code pc = .ok (.irem, 1)) (hy : y ≠ 0) (hp : pc + 1 = pc') (r : Run p e below Q En T (mkF m pc' Ls (.int (x - (x / y) * y) :: rest))) : Run p e below Q En T (mkF m pc Ls (.int y :: .int x :: rest)) := by
  subst hp; exact r.on fun _ q => XS.irem at_ hx rfl hd rfl hy q
theorem r_ldiv (at_ : At T m c below) (hx : p.tables.exec = Jvm.exec) {x y : Int64} (hd : decode c.code pc = .ok (.ldiv, 1)) (hy : y ≠ 0) (hp : pc + 1 = pc') (r : Run p e below Q En T (mkF m pc' Ls (.long (x / y) :: rest))) : Run p e below Q En T (mkF m pc Ls (.long y :: .long x :: rest)) := by
  subst hp; exact r.on fun _ q => XS.ldiv at_ hx rfl hd rfl hy q
theorem r_lrem0 (at_ : At T m c below) (hx : p.tables.exec = Jvm.exec) {x y : Int64} (hd : decode c.code pc = .ok (.lrem, 1)) (hy : y ≠ 0) (hp : pc + 1 = pc') (r : Run p e below Q En T (mkF m pc' Ls (.long (x - (x / y) * y) :: rest))) : Run p e below Q En T (mkF m pc Ls (.long y :: .long x :: rest)) := by
  subst hp; exact r.on fun _ q => XS.lrem at_ hx rfl hd rfl hy q
theorem r_irem (at_ : At T m c below) (hx : p.tables.exec = Jvm.exec) {x y : Int32} (hd : decode c.code pc = .ok (.irem, 1)) (hy : y ≠ 0) (hp : pc + 1 = pc') (r : Run p e below Q En T (mkF m pc' Ls (.int (x % y) :: rest))) : Run p e below Q En T (mkF m pc Ls (.int y :: .int x :: rest)) :=
  r_irem0 at_ hx hd hy hp (by rw [show x - x / y * y = x % y from irem_eq_mod x y]; exact r)
theorem r_i2l (at_ : At T m c below) (hx : p.tables.exec = Jvm.exec) {x : Int32} (hd : decode c.code pc = .ok (.i2l, 1))  (hp : pc + 1 = pc') (r : Run p e below Q En T (mkF m pc' Ls (.long (x.toInt64) :: rest))) : Run p e below Q En T (mkF m pc Ls (.int x :: rest)) := by
  subst hp; exact r.on fun _ q => XS.i2l at_ hx rfl hd rfl q
theorem r_l2i (at_ : At T m c below) (hx : p.tables.exec = Jvm.exec) {x : Int64} (hd : decode c.code pc = .ok (.l2i, 1))  (hp : pc + 1 = pc') (r : Run p e below Q En T (mkF m pc' Ls (.int (x.toInt32) :: rest))) : Run p e below Q En T (mkF m pc Ls (.long x :: rest)) := by
  subst hp; exact r.on fun _ q => XS.l2i at_ hx rfl hd rfl q
theorem r_i2b (at_ : At T m c below) (hx : p.tables.exec = Jvm.exec) {x : Int32} (hd : decode c.code pc = .ok (.i2b, 1))  (hp : pc + 1 = pc') (r : Run p e below Q En T (mkF m pc' Ls (.int (x.toInt8.toInt32) :: rest))) : Run p e below Q En T (mkF m pc Ls (.int x :: rest)) := by
  subst hp; exact r.on fun _ q => XS.i2b at_ hx rfl hd rfl q
theorem r_i2c (at_ : At T m c below) (hx : p.tables.exec = Jvm.exec) {x : Int32} (hd : decode c.code pc = .ok (.i2c, 1))  (hp : pc + 1 = pc') (r : Run p e below Q En T (mkF m pc' Ls (.int (x.toUInt32.toUInt16.toUInt32.toInt32) :: rest))) : Run p e below Q En T (mkF m pc Ls (.int x :: rest)) := by
  subst hp; exact r.on fun _ q => XS.i2c at_ hx rfl hd rfl q
theorem r_i2s (at_ : At T m c below) (hx : p.tables.exec = Jvm.exec) {x : Int32} (hd : decode c.code pc = .ok (.i2s, 1))  (hp : pc + 1 = pc') (r : Run p e below Q En T (mkF m pc' Ls (.int (x.toInt16.toInt32) :: rest))) : Run p e below Q En T (mkF m pc Ls (.int x :: rest)) := by
  subst hp; exact r.on fun _ q => XS.i2s at_ hx rfl hd rfl q
theorem r_dup (at_ : At T m c below) (hx : p.tables.exec = Jvm.exec) {x : Value} (hd : decode c.code pc = .ok (.dup, 1)) (hc : x.category = 1) (hp : pc + 1 = pc') (r : Run p e below Q En T (mkF m pc' Ls (x :: x :: rest))) : Run p e below Q En T (mkF m pc Ls (x :: rest)) := by
  subst hp; exact r.on fun _ q => XS.dup at_ hx rfl hd rfl hc q
theorem r_pop (at_ : At T m c below) (hx : p.tables.exec = Jvm.exec) {x : Value} (hd : decode c.code pc = .ok (.pop, 1)) (hc : x.category = 1) (hp : pc + 1 = pc') (r : Run p e below Q En T (mkF m pc' Ls (rest))) : Run p e below Q En T (mkF m pc Ls (x :: rest)) := by
  subst hp; exact r.on fun _ q => XS.pop at_ hx rfl hd rfl hc q
theorem r_dup_x1 (at_ : At T m c below) (hx : p.tables.exec = Jvm.exec) {x y : Value} (hd : decode c.code pc = .ok (.dup_x1, 1)) (hc : x.category = 1) (hc' : y.category = 1) (hp : pc + 1 = pc') (r : Run p e below Q En T (mkF m pc' Ls (x :: y :: x :: rest))) : Run p e below Q En T (mkF m pc Ls (x :: y :: rest)) := by
  subst hp; exact r.on fun _ q => XS.dupX1 at_ hx rfl hd rfl hc hc' q
theorem r_dup2 (at_ : At T m c below) (hx : p.tables.exec = Jvm.exec) {x y : Value} (hd : decode c.code pc = .ok (.dup2, 1)) (hc : x.category = 1) (hc' : y.category = 1) (hp : pc + 1 = pc') (r : Run p e below Q En T (mkF m pc' Ls (x :: y :: x :: y :: rest))) : Run p e below Q En T (mkF m pc Ls (x :: y :: rest)) := by
  subst hp; exact r.on fun _ q => XT.dup2 at_ hx rfl hd rfl hc hc' q
theorem r_dup2L (at_ : At T m c below) (hx : p.tables.exec = Jvm.exec) {x : Int64} (hd : decode c.code pc = .ok (.dup2, 1))  (hp : pc + 1 = pc') (r : Run p e below Q En T (mkF m pc' Ls (.long x :: .long x :: rest))) : Run p e below Q En T (mkF m pc Ls (.long x :: rest)) := by
  subst hp; exact r.on fun _ q => XT.dup2L at_ hx rfl hd rfl q
theorem r_lcmp (at_ : At T m c below) (hx : p.tables.exec = Jvm.exec) {x y : Int64} (hd : decode c.code pc = .ok (.lcmp, 1))  (hp : pc + 1 = pc') (r : Run p e below Q En T (mkF m pc' Ls (.int (cmpJ x y) :: rest))) : Run p e below Q En T (mkF m pc Ls (.long y :: .long x :: rest)) := by
  subst hp; exact r.on fun _ q => XS.lcmp at_ hx rfl hd rfl q
theorem r_iinc (at_ : At T m c below) (hx : p.tables.exec = Jvm.exec) {k : Nat} {cst : Int} {x z : Int32} {l' : Array Slot} (hd : decode c.code pc = .ok (.iinc k cst, 3)) (hl : Ls[k]? = some (.val (.int x))) (hz : x + Int32.ofInt cst = z) (hl' : storeLocals Ls k (.int z) = some l') (hp : pc + 3 = pc') (r : Run p e below Q En T (mkF m pc' l' rest)) : Run p e below Q En T (mkF m pc Ls rest) := by
  subst hp hz; exact r.on fun _ q => XS.iinc at_ hx rfl hd hl hl' q
theorem r_goto (at_ : At T m c below) (hx : p.tables.exec = Jvm.exec) {o : Int} (hd : decode c.code pc = .ok (.goto o, 3)) (ho : 0 ≤ (pc : Int) + o) (hp : ((pc : Int) + o).toNat = pc') (r : Run p e below Q En T (mkF m pc' Ls rest)) : Run p e below Q En T (mkF m pc Ls rest) :=
  r.on fun _ q => XS.goto at_ hx rfl (pc0 := pc) rfl hd ho hp q
theorem cmpJ_c (x y : Int64) : (y.toInt < x.toInt ∧ cmpJ x y = 1) ∨ (x = y ∧ cmpJ x y = 0) ∨ (x.toInt < y.toInt ∧ cmpJ x y = -1) := by
  unfold cmpJ
  by_cases h1 : x > y
  · left; rw [if_pos h1]; exact ⟨Int64.lt_iff_toInt_lt.mp h1, rfl⟩
  · rw [if_neg h1]
    by_cases h2 : x = y
    · right; left; rw [if_pos h2]; exact ⟨h2, rfl⟩
    · right; right; rw [if_neg h2]
      have h3 : ¬ y.toInt < x.toInt := fun q => h1 (Int64.lt_iff_toInt_lt.mpr q)
      have h4 : ¬ x.toInt = y.toInt := fun q => h2 (Int64.toInt_inj.mp q)
      exact ⟨by omega, rfl⟩
theorem h_eq (x y : Int32) : if_icmp.holds .eq x y = decide (x = y) := by by_cases q : x = y <;> simp [if_icmp.holds, q]
theorem h0_eq (x : Int32) : ifCond.holds .eq x = decide (x = (0 : Int32)) := h_eq x 0
theorem r_if_eq (at_ : At T m c below) (hx : p.tables.exec = Jvm.exec) {o : Int} {x y : Int32} {pc2 : Nat} (hd : decode c.code pc = .ok (.if_icmp .eq o, 3)) (ho : 0 ≤ (pc : Int) + o) (hp : ((pc : Int) + o).toNat = pc') (hp2 : pc + 3 = pc2) (r1 : x = y → Run p e below Q En T (mkF m pc' Ls rest)) (r2 : ¬ (x = y) → Run p e below Q En T (mkF m pc2 Ls rest)) : Run p e below Q En T (mkF m pc Ls (.int y :: .int x :: rest)) := by
  subst hp2
  by_cases hc : x = y
  · exact (r1 hc).on fun _ q => XS.icmpYes at_ hx rfl (pc0 := pc) rfl hd rfl (by rw [h_eq]; exact decide_eq_true hc) ho hp q
  · exact (r2 hc).on fun _ q => XS.icmpNo at_ hx rfl hd rfl (by rw [h_eq]; exact decide_eq_false hc) q
theorem r_if0_eq (at_ : At T m c below) (hx : p.tables.exec = Jvm.exec) {o : Int} {x : Int32} {pc2 : Nat} (hd : decode c.code pc = .ok (.ifCond .eq o, 3)) (ho : 0 ≤ (pc : Int) + o) (hp : ((pc : Int) + o).toNat = pc') (hp2 : pc + 3 = pc2) (r1 : x = (0 : Int32) → Run p e below Q En T (mkF m pc' Ls rest)) (r2 : ¬ (x = (0 : Int32)) → Run p e below Q En T (mkF m pc2 Ls rest)) : Run p e below Q En T (mkF m pc Ls (.int x :: rest)) := by
  subst hp2
  by_cases hc : x = (0 : Int32)
  · exact (r1 hc).on fun _ q => XS.ifYes at_ hx rfl (pc0 := pc) rfl hd rfl (by rw [h0_eq]; exact decide_eq_true hc) ho hp q
  · exact (r2 hc).on fun _ q => XS.ifNo at_ hx rfl hd rfl (by rw [h0_eq]; exact decide_eq_false hc) q
theorem hL_eq (x y : Int64) : ifCond.holds .eq (cmpJ x y) = decide (x = y) := by
  rw [h0_eq]; apply decide_eq_decide.mpr
  rcases cmpJ_c x y with ⟨q, e⟩ | ⟨q, e⟩ | ⟨q, e⟩ <;> rw [e]
  · have ne : ¬ x = y := fun z => by rw [z] at q; omega
    simp [ne]
  · subst q; simp
  · have ne : ¬ x = y := fun z => by rw [z] at q; omega
    simp [ne]
theorem r_ifL_eq (at_ : At T m c below) (hx : p.tables.exec = Jvm.exec) {o : Int} {x y : Int64} {pc2 : Nat} (hd : decode c.code pc = .ok (.ifCond .eq o, 3)) (ho : 0 ≤ (pc : Int) + o) (hp : ((pc : Int) + o).toNat = pc') (hp2 : pc + 3 = pc2) (r1 : x = y → Run p e below Q En T (mkF m pc' Ls rest)) (r2 : ¬ (x = y) → Run p e below Q En T (mkF m pc2 Ls rest)) : Run p e below Q En T (mkF m pc Ls (.int (cmpJ x y) :: rest)) := by
  subst hp2
  by_cases hc : x = y
  · exact (r1 hc).on fun _ q => XS.ifYes at_ hx rfl (pc0 := pc) rfl hd rfl (by rw [hL_eq]; exact decide_eq_true hc) ho hp q
  · exact (r2 hc).on fun _ q => XS.ifNo at_ hx rfl hd rfl (by rw [hL_eq]; exact decide_eq_false hc) q
theorem h_ne (x y : Int32) : if_icmp.holds .ne x y = decide (¬ x = y) := by by_cases q : x = y <;> simp [if_icmp.holds, q]
theorem h0_ne (x : Int32) : ifCond.holds .ne x = decide (¬ x = (0 : Int32)) := h_ne x 0
theorem r_if_ne (at_ : At T m c below) (hx : p.tables.exec = Jvm.exec) {o : Int} {x y : Int32} {pc2 : Nat} (hd : decode c.code pc = .ok (.if_icmp .ne o, 3)) (ho : 0 ≤ (pc : Int) + o) (hp : ((pc : Int) + o).toNat = pc') (hp2 : pc + 3 = pc2) (r1 : ¬ x = y → Run p e below Q En T (mkF m pc' Ls rest)) (r2 : ¬ (¬ x = y) → Run p e below Q En T (mkF m pc2 Ls rest)) : Run p e below Q En T (mkF m pc Ls (.int y :: .int x :: rest)) := by
  subst hp2
  by_cases hc : ¬ x = y
  · exact (r1 hc).on fun _ q => XS.icmpYes at_ hx rfl (pc0 := pc) rfl hd rfl (by rw [h_ne]; exact decide_eq_true hc) ho hp q
  · exact (r2 hc).on fun _ q => XS.icmpNo at_ hx rfl hd rfl (by rw [h_ne]; exact decide_eq_false hc) q
theorem r_if0_ne (at_ : At T m c below) (hx : p.tables.exec = Jvm.exec) {o : Int} {x : Int32} {pc2 : Nat} (hd : decode c.code pc = .ok (.ifCond .ne o, 3)) (ho : 0 ≤ (pc : Int) + o) (hp : ((pc : Int) + o).toNat = pc') (hp2 : pc + 3 = pc2) (r1 : ¬ x = (0 : Int32) → Run p e below Q En T (mkF m pc' Ls rest)) (r2 : ¬ (¬ x = (0 : Int32)) → Run p e below Q En T (mkF m pc2 Ls rest)) : Run p e below Q En T (mkF m pc Ls (.int x :: rest)) := by
  subst hp2
  by_cases hc : ¬ x = (0 : Int32)
  · exact (r1 hc).on fun _ q => XS.ifYes at_ hx rfl (pc0 := pc) rfl hd rfl (by rw [h0_ne]; exact decide_eq_true hc) ho hp q
  · exact (r2 hc).on fun _ q => XS.ifNo at_ hx rfl hd rfl (by rw [h0_ne]; exact decide_eq_false hc) q
theorem hL_ne (x y : Int64) : ifCond.holds .ne (cmpJ x y) = decide (¬ x = y) := by
  rw [h0_ne]; apply decide_eq_decide.mpr
  rcases cmpJ_c x y with ⟨q, e⟩ | ⟨q, e⟩ | ⟨q, e⟩ <;> rw [e]
  · have ne : ¬ x = y := fun z => by rw [z] at q; omega
    simp [ne]
  · subst q; simp
  · have ne : ¬ x = y := fun z => by rw [z] at q; omega
    simp [ne]
theorem r_ifL_ne (at_ : At T m c below) (hx : p.tables.exec = Jvm.exec) {o : Int} {x y : Int64} {pc2 : Nat} (hd : decode c.code pc = .ok (.ifCond .ne o, 3)) (ho : 0 ≤ (pc : Int) + o) (hp : ((pc : Int) + o).toNat = pc') (hp2 : pc + 3 = pc2) (r1 : ¬ x = y → Run p e below Q En T (mkF m pc' Ls rest)) (r2 : ¬ (¬ x = y) → Run p e below Q En T (mkF m pc2 Ls rest)) : Run p e below Q En T (mkF m pc Ls (.int (cmpJ x y) :: rest)) := by
  subst hp2
  by_cases hc : ¬ x = y
  · exact (r1 hc).on fun _ q => XS.ifYes at_ hx rfl (pc0 := pc) rfl hd rfl (by rw [hL_ne]; exact decide_eq_true hc) ho hp q
  · exact (r2 hc).on fun _ q => XS.ifNo at_ hx rfl hd rfl (by rw [hL_ne]; exact decide_eq_false hc) q
theorem h_lt (x y : Int32) : if_icmp.holds .lt x y = decide (x.toInt < y.toInt) := by simp [if_icmp.holds, Int32.lt_iff_toInt_lt]
theorem h0_lt (x : Int32) : ifCond.holds .lt x = decide (x.toInt < (0 : Int32).toInt) := h_lt x 0
theorem r_if_lt (at_ : At T m c below) (hx : p.tables.exec = Jvm.exec) {o : Int} {x y : Int32} {pc2 : Nat} (hd : decode c.code pc = .ok (.if_icmp .lt o, 3)) (ho : 0 ≤ (pc : Int) + o) (hp : ((pc : Int) + o).toNat = pc') (hp2 : pc + 3 = pc2) (r1 : x.toInt < y.toInt → Run p e below Q En T (mkF m pc' Ls rest)) (r2 : ¬ (x.toInt < y.toInt) → Run p e below Q En T (mkF m pc2 Ls rest)) : Run p e below Q En T (mkF m pc Ls (.int y :: .int x :: rest)) := by
  subst hp2
  by_cases hc : x.toInt < y.toInt
  · exact (r1 hc).on fun _ q => XS.icmpYes at_ hx rfl (pc0 := pc) rfl hd rfl (by rw [h_lt]; exact decide_eq_true hc) ho hp q
  · exact (r2 hc).on fun _ q => XS.icmpNo at_ hx rfl hd rfl (by rw [h_lt]; exact decide_eq_false hc) q
theorem r_if0_lt (at_ : At T m c below) (hx : p.tables.exec = Jvm.exec) {o : Int} {x : Int32} {pc2 : Nat} (hd : decode c.code pc = .ok (.ifCond .lt o, 3)) (ho : 0 ≤ (pc : Int) + o) (hp : ((pc : Int) + o).toNat = pc') (hp2 : pc + 3 = pc2) (r1 : x.toInt < 0 → Run p e below Q En T (mkF m pc' Ls rest)) (r2 : ¬ (x.toInt < 0) → Run p e below Q En T (mkF m pc2 Ls rest)) : Run p e below Q En T (mkF m pc Ls (.int x :: rest)) := by
  subst hp2
  by_cases hc : x.toInt < 0
  · exact (r1 hc).on fun _ q => XS.ifYes at_ hx rfl (pc0 := pc) rfl hd rfl (by rw [h0_lt]; exact decide_eq_true (by rw [show (0 : Int32).toInt = 0 from rfl]; exact hc)) ho hp q
  · exact (r2 hc).on fun _ q => XS.ifNo at_ hx rfl hd rfl (by rw [h0_lt]; exact decide_eq_false (by rw [show (0 : Int32).toInt = 0 from rfl]; exact hc)) q
theorem hL_lt (x y : Int64) : ifCond.holds .lt (cmpJ x y) = decide (x.toInt < y.toInt) := by
  rw [h0_lt]; apply decide_eq_decide.mpr
  rcases cmpJ_c x y with ⟨q, e⟩ | ⟨q, e⟩ | ⟨q, e⟩ <;> rw [e]
  · have ne : ¬ x = y := fun z => by rw [z] at q; omega
    show ((1 : Int) < 0) ↔ _; omega
  · subst q; show ((0 : Int) < 0) ↔ _; omega
  · have ne : ¬ x = y := fun z => by rw [z] at q; omega
    show ((-1 : Int) < 0) ↔ _; omega
theorem r_ifL_lt (at_ : At T m c below) (hx : p.tables.exec = Jvm.exec) {o : Int} {x y : Int64} {pc2 : Nat} (hd : decode c.code pc = .ok (.ifCond .lt o, 3)) (ho : 0 ≤ (pc : Int) + o) (hp : ((pc : Int) + o).toNat = pc') (hp2 : pc + 3 = pc2) (r1 : x.toInt < y.toInt → Run p e below Q En T (mkF m pc' Ls rest)) (r2 : ¬ (x.toInt < y.toInt) → Run p e below Q En T (mkF m pc2 Ls rest)) : Run p e below Q En T (mkF m pc Ls (.int (cmpJ x y) :: rest)) := by
  subst hp2
  by_cases hc : x.toInt < y.toInt
  · exact (r1 hc).on fun _ q => XS.ifYes at_ hx rfl (pc0 := pc) rfl hd rfl (by rw [hL_lt]; exact decide_eq_true hc) ho hp q
  · exact (r2 hc).on fun _ q => XS.ifNo at_ hx rfl hd rfl (by rw [hL_lt]; exact decide_eq_false hc) q
theorem h_ge (x y : Int32) : if_icmp.holds .ge x y = decide (y.toInt ≤ x.toInt) := by simp [if_icmp.holds, Int32.le_iff_toInt_le]
theorem h0_ge (x : Int32) : ifCond.holds .ge x = decide ((0 : Int32).toInt ≤ x.toInt) := h_ge x 0
theorem r_if_ge (at_ : At T m c below) (hx : p.tables.exec = Jvm.exec) {o : Int} {x y : Int32} {pc2 : Nat} (hd : decode c.code pc = .ok (.if_icmp .ge o, 3)) (ho : 0 ≤ (pc : Int) + o) (hp : ((pc : Int) + o).toNat = pc') (hp2 : pc + 3 = pc2) (r1 : y.toInt ≤ x.toInt → Run p e below Q En T (mkF m pc' Ls rest)) (r2 : ¬ (y.toInt ≤ x.toInt) → Run p e below Q En T (mkF m pc2 Ls rest)) : Run p e below Q En T (mkF m pc Ls (.int y :: .int x :: rest)) := by
  subst hp2
  by_cases hc : y.toInt ≤ x.toInt
  · exact (r1 hc).on fun _ q => XS.icmpYes at_ hx rfl (pc0 := pc) rfl hd rfl (by rw [h_ge]; exact decide_eq_true hc) ho hp q
  · exact (r2 hc).on fun _ q => XS.icmpNo at_ hx rfl hd rfl (by rw [h_ge]; exact decide_eq_false hc) q
theorem r_if0_ge (at_ : At T m c below) (hx : p.tables.exec = Jvm.exec) {o : Int} {x : Int32} {pc2 : Nat} (hd : decode c.code pc = .ok (.ifCond .ge o, 3)) (ho : 0 ≤ (pc : Int) + o) (hp : ((pc : Int) + o).toNat = pc') (hp2 : pc + 3 = pc2) (r1 : 0 ≤ x.toInt → Run p e below Q En T (mkF m pc' Ls rest)) (r2 : ¬ (0 ≤ x.toInt) → Run p e below Q En T (mkF m pc2 Ls rest)) : Run p e below Q En T (mkF m pc Ls (.int x :: rest)) := by
  subst hp2
  by_cases hc : 0 ≤ x.toInt
  · exact (r1 hc).on fun _ q => XS.ifYes at_ hx rfl (pc0 := pc) rfl hd rfl (by rw [h0_ge]; exact decide_eq_true (by rw [show (0 : Int32).toInt = 0 from rfl]; exact hc)) ho hp q
  · exact (r2 hc).on fun _ q => XS.ifNo at_ hx rfl hd rfl (by rw [h0_ge]; exact decide_eq_false (by rw [show (0 : Int32).toInt = 0 from rfl]; exact hc)) q
theorem hL_ge (x y : Int64) : ifCond.holds .ge (cmpJ x y) = decide (y.toInt ≤ x.toInt) := by
  rw [h0_ge]; apply decide_eq_decide.mpr
  rcases cmpJ_c x y with ⟨q, e⟩ | ⟨q, e⟩ | ⟨q, e⟩ <;> rw [e]
  · have ne : ¬ x = y := fun z => by rw [z] at q; omega
    show ((0 : Int) ≤ 1) ↔ _; omega
  · subst q; show ((0 : Int) ≤ 0) ↔ _; omega
  · have ne : ¬ x = y := fun z => by rw [z] at q; omega
    show ((0 : Int) ≤ -1) ↔ _; omega
theorem r_ifL_ge (at_ : At T m c below) (hx : p.tables.exec = Jvm.exec) {o : Int} {x y : Int64} {pc2 : Nat} (hd : decode c.code pc = .ok (.ifCond .ge o, 3)) (ho : 0 ≤ (pc : Int) + o) (hp : ((pc : Int) + o).toNat = pc') (hp2 : pc + 3 = pc2) (r1 : y.toInt ≤ x.toInt → Run p e below Q En T (mkF m pc' Ls rest)) (r2 : ¬ (y.toInt ≤ x.toInt) → Run p e below Q En T (mkF m pc2 Ls rest)) : Run p e below Q En T (mkF m pc Ls (.int (cmpJ x y) :: rest)) := by
  subst hp2
  by_cases hc : y.toInt ≤ x.toInt
  · exact (r1 hc).on fun _ q => XS.ifYes at_ hx rfl (pc0 := pc) rfl hd rfl (by rw [hL_ge]; exact decide_eq_true hc) ho hp q
  · exact (r2 hc).on fun _ q => XS.ifNo at_ hx rfl hd rfl (by rw [hL_ge]; exact decide_eq_false hc) q
theorem h_gt (x y : Int32) : if_icmp.holds .gt x y = decide (y.toInt < x.toInt) := by simp [if_icmp.holds, Int32.lt_iff_toInt_lt]
theorem h0_gt (x : Int32) : ifCond.holds .gt x = decide ((0 : Int32).toInt < x.toInt) := h_gt x 0
theorem r_if_gt (at_ : At T m c below) (hx : p.tables.exec = Jvm.exec) {o : Int} {x y : Int32} {pc2 : Nat} (hd : decode c.code pc = .ok (.if_icmp .gt o, 3)) (ho : 0 ≤ (pc : Int) + o) (hp : ((pc : Int) + o).toNat = pc') (hp2 : pc + 3 = pc2) (r1 : y.toInt < x.toInt → Run p e below Q En T (mkF m pc' Ls rest)) (r2 : ¬ (y.toInt < x.toInt) → Run p e below Q En T (mkF m pc2 Ls rest)) : Run p e below Q En T (mkF m pc Ls (.int y :: .int x :: rest)) := by
  subst hp2
  by_cases hc : y.toInt < x.toInt
  · exact (r1 hc).on fun _ q => XS.icmpYes at_ hx rfl (pc0 := pc) rfl hd rfl (by rw [h_gt]; exact decide_eq_true hc) ho hp q
  · exact (r2 hc).on fun _ q => XS.icmpNo at_ hx rfl hd rfl (by rw [h_gt]; exact decide_eq_false hc) q
theorem r_if0_gt (at_ : At T m c below) (hx : p.tables.exec = Jvm.exec) {o : Int} {x : Int32} {pc2 : Nat} (hd : decode c.code pc = .ok (.ifCond .gt o, 3)) (ho : 0 ≤ (pc : Int) + o) (hp : ((pc : Int) + o).toNat = pc') (hp2 : pc + 3 = pc2) (r1 : 0 < x.toInt → Run p e below Q En T (mkF m pc' Ls rest)) (r2 : ¬ (0 < x.toInt) → Run p e below Q En T (mkF m pc2 Ls rest)) : Run p e below Q En T (mkF m pc Ls (.int x :: rest)) := by
  subst hp2
  by_cases hc : 0 < x.toInt
  · exact (r1 hc).on fun _ q => XS.ifYes at_ hx rfl (pc0 := pc) rfl hd rfl (by rw [h0_gt]; exact decide_eq_true (by rw [show (0 : Int32).toInt = 0 from rfl]; exact hc)) ho hp q
  · exact (r2 hc).on fun _ q => XS.ifNo at_ hx rfl hd rfl (by rw [h0_gt]; exact decide_eq_false (by rw [show (0 : Int32).toInt = 0 from rfl]; exact hc)) q
theorem hL_gt (x y : Int64) : ifCond.holds .gt (cmpJ x y) = decide (y.toInt < x.toInt) := by
  rw [h0_gt]; apply decide_eq_decide.mpr
  rcases cmpJ_c x y with ⟨q, e⟩ | ⟨q, e⟩ | ⟨q, e⟩ <;> rw [e]
  · have ne : ¬ x = y := fun z => by rw [z] at q; omega
    show ((0 : Int) < 1) ↔ _; omega
  · subst q; show ((0 : Int) < 0) ↔ _; omega
  · have ne : ¬ x = y := fun z => by rw [z] at q; omega
    show ((0 : Int) < -1) ↔ _; omega
theorem r_ifL_gt (at_ : At T m c below) (hx : p.tables.exec = Jvm.exec) {o : Int} {x y : Int64} {pc2 : Nat} (hd : decode c.code pc = .ok (.ifCond .gt o, 3)) (ho : 0 ≤ (pc : Int) + o) (hp : ((pc : Int) + o).toNat = pc') (hp2 : pc + 3 = pc2) (r1 : y.toInt < x.toInt → Run p e below Q En T (mkF m pc' Ls rest)) (r2 : ¬ (y.toInt < x.toInt) → Run p e below Q En T (mkF m pc2 Ls rest)) : Run p e below Q En T (mkF m pc Ls (.int (cmpJ x y) :: rest)) := by
  subst hp2
  by_cases hc : y.toInt < x.toInt
  · exact (r1 hc).on fun _ q => XS.ifYes at_ hx rfl (pc0 := pc) rfl hd rfl (by rw [hL_gt]; exact decide_eq_true hc) ho hp q
  · exact (r2 hc).on fun _ q => XS.ifNo at_ hx rfl hd rfl (by rw [hL_gt]; exact decide_eq_false hc) q
theorem h_le (x y : Int32) : if_icmp.holds .le x y = decide (x.toInt ≤ y.toInt) := by simp [if_icmp.holds, Int32.le_iff_toInt_le]
theorem h0_le (x : Int32) : ifCond.holds .le x = decide (x.toInt ≤ (0 : Int32).toInt) := h_le x 0
theorem r_if_le (at_ : At T m c below) (hx : p.tables.exec = Jvm.exec) {o : Int} {x y : Int32} {pc2 : Nat} (hd : decode c.code pc = .ok (.if_icmp .le o, 3)) (ho : 0 ≤ (pc : Int) + o) (hp : ((pc : Int) + o).toNat = pc') (hp2 : pc + 3 = pc2) (r1 : x.toInt ≤ y.toInt → Run p e below Q En T (mkF m pc' Ls rest)) (r2 : ¬ (x.toInt ≤ y.toInt) → Run p e below Q En T (mkF m pc2 Ls rest)) : Run p e below Q En T (mkF m pc Ls (.int y :: .int x :: rest)) := by
  subst hp2
  by_cases hc : x.toInt ≤ y.toInt
  · exact (r1 hc).on fun _ q => XS.icmpYes at_ hx rfl (pc0 := pc) rfl hd rfl (by rw [h_le]; exact decide_eq_true hc) ho hp q
  · exact (r2 hc).on fun _ q => XS.icmpNo at_ hx rfl hd rfl (by rw [h_le]; exact decide_eq_false hc) q
theorem r_if0_le (at_ : At T m c below) (hx : p.tables.exec = Jvm.exec) {o : Int} {x : Int32} {pc2 : Nat} (hd : decode c.code pc = .ok (.ifCond .le o, 3)) (ho : 0 ≤ (pc : Int) + o) (hp : ((pc : Int) + o).toNat = pc') (hp2 : pc + 3 = pc2) (r1 : x.toInt ≤ 0 → Run p e below Q En T (mkF m pc' Ls rest)) (r2 : ¬ (x.toInt ≤ 0) → Run p e below Q En T (mkF m pc2 Ls rest)) : Run p e below Q En T (mkF m pc Ls (.int x :: rest)) := by
  subst hp2
  by_cases hc : x.toInt ≤ 0
  · exact (r1 hc).on fun _ q => XS.ifYes at_ hx rfl (pc0 := pc) rfl hd rfl (by rw [h0_le]; exact decide_eq_true (by rw [show (0 : Int32).toInt = 0 from rfl]; exact hc)) ho hp q
  · exact (r2 hc).on fun _ q => XS.ifNo at_ hx rfl hd rfl (by rw [h0_le]; exact decide_eq_false (by rw [show (0 : Int32).toInt = 0 from rfl]; exact hc)) q
theorem hL_le (x y : Int64) : ifCond.holds .le (cmpJ x y) = decide (x.toInt ≤ y.toInt) := by
  rw [h0_le]; apply decide_eq_decide.mpr
  rcases cmpJ_c x y with ⟨q, e⟩ | ⟨q, e⟩ | ⟨q, e⟩ <;> rw [e]
  · have ne : ¬ x = y := fun z => by rw [z] at q; omega
    show ((1 : Int) ≤ 0) ↔ _; omega
  · subst q; show ((0 : Int) ≤ 0) ↔ _; omega
  · have ne : ¬ x = y := fun z => by rw [z] at q; omega
    show ((-1 : Int) ≤ 0) ↔ _; omega
theorem r_ifL_le (at_ : At T m c below) (hx : p.tables.exec = Jvm.exec) {o : Int} {x y : Int64} {pc2 : Nat} (hd : decode c.code pc = .ok (.ifCond .le o, 3)) (ho : 0 ≤ (pc : Int) + o) (hp : ((pc : Int) + o).toNat = pc') (hp2 : pc + 3 = pc2) (r1 : x.toInt ≤ y.toInt → Run p e below Q En T (mkF m pc' Ls rest)) (r2 : ¬ (x.toInt ≤ y.toInt) → Run p e below Q En T (mkF m pc2 Ls rest)) : Run p e below Q En T (mkF m pc Ls (.int (cmpJ x y) :: rest)) := by
  subst hp2
  by_cases hc : x.toInt ≤ y.toInt
  · exact (r1 hc).on fun _ q => XS.ifYes at_ hx rfl (pc0 := pc) rfl hd rfl (by rw [hL_le]; exact decide_eq_true hc) ho hp q
  · exact (r2 hc).on fun _ q => XS.ifNo at_ hx rfl hd rfl (by rw [hL_le]; exact decide_eq_false hc) q
theorem r_ifnullY (at_ : At T m c below) (hx : p.tables.exec = Jvm.exec) {o : Int} (hd : decode c.code pc = .ok (.ifnull o, 3)) (ho : 0 ≤ (pc : Int) + o) (hp : ((pc : Int) + o).toNat = pc') (r : Run p e below Q En T (mkF m pc' Ls rest)) : Run p e below Q En T (mkF m pc Ls (.null :: rest)) :=
  r.on fun _ q => XS.ifnullYes at_ hx rfl (pc0 := pc) rfl hd rfl ho hp q
theorem r_ifnullN (at_ : At T m c below) (hx : p.tables.exec = Jvm.exec) {o : Int} {b : Addr} (hd : decode c.code pc = .ok (.ifnull o, 3)) (hp : pc + 3 = pc') (r : Run p e below Q En T (mkF m pc' Ls rest)) : Run p e below Q En T (mkF m pc Ls (.ref b :: rest)) := by
  subst hp; exact r.on fun _ q => XS.ifnullNo at_ hx rfl hd rfl q
theorem r_ifnonnullY (at_ : At T m c below) (hx : p.tables.exec = Jvm.exec) {o : Int} {b : Addr} (hd : decode c.code pc = .ok (.ifnonnull o, 3)) (ho : 0 ≤ (pc : Int) + o) (hp : ((pc : Int) + o).toNat = pc') (r : Run p e below Q En T (mkF m pc' Ls rest)) : Run p e below Q En T (mkF m pc Ls (.ref b :: rest)) :=
  r.on fun _ q => XS.ifnonnullYes at_ hx rfl (pc0 := pc) rfl hd rfl ho hp q
theorem r_ifnonnullN (at_ : At T m c below) (hx : p.tables.exec = Jvm.exec) {o : Int} (hd : decode c.code pc = .ok (.ifnonnull o, 3)) (hp : pc + 3 = pc') (r : Run p e below Q En T (mkF m pc' Ls rest)) : Run p e below Q En T (mkF m pc Ls (.null :: rest)) := by
  subst hp; exact r.on fun _ q => XS.ifnonnullNo at_ hx rfl hd rfl q
theorem r_acmp_eq (at_ : At T m c below) (hx : p.tables.exec = Jvm.exec) {o : Int} {x y : Value} {pc2 : Nat} (hd : decode c.code pc = .ok (.if_acmp .eq o, 3)) (h1 : x.isRef = true) (h2 : y.isRef = true) (ho : 0 ≤ (pc : Int) + o) (hp : ((pc : Int) + o).toNat = pc') (hp2 : pc + 3 = pc2) (r1 : x = y → Run p e below Q En T (mkF m pc' Ls rest)) (r2 : ¬ x = y → Run p e below Q En T (mkF m pc2 Ls rest)) : Run p e below Q En T (mkF m pc Ls (y :: x :: rest)) := by
  subst hp2
  by_cases hc : x = y
  · exact (r1 hc).on fun _ q => XT.acmpYes at_ hx rfl (pc0 := pc) rfl hd rfl h1 h2 (by simp [XT.acmp, hc]) ho hp q
  · exact (r2 hc).on fun _ q => XT.acmpNo at_ hx rfl hd rfl h1 h2 (by simp [XT.acmp, hc]) q
theorem r_acmp_ne (at_ : At T m c below) (hx : p.tables.exec = Jvm.exec) {o : Int} {x y : Value} {pc2 : Nat} (hd : decode c.code pc = .ok (.if_acmp .ne o, 3)) (h1 : x.isRef = true) (h2 : y.isRef = true) (ho : 0 ≤ (pc : Int) + o) (hp : ((pc : Int) + o).toNat = pc') (hp2 : pc + 3 = pc2) (r1 : ¬ x = y → Run p e below Q En T (mkF m pc' Ls rest)) (r2 : x = y → Run p e below Q En T (mkF m pc2 Ls rest)) : Run p e below Q En T (mkF m pc Ls (y :: x :: rest)) := by
  subst hp2
  by_cases hc : x = y
  · exact (r2 hc).on fun _ q => XT.acmpNo at_ hx rfl hd rfl h1 h2 (by simp [XT.acmp, hc]) q
  · exact (r1 hc).on fun _ q => XT.acmpYes at_ hx rfl (pc0 := pc) rfl hd rfl h1 h2 (by simp [XT.acmp, hc]) ho hp q
theorem r_retN (X : Stand p l e R s m args below meth c T locs cells slots) (hx : p.tables.exec = Jvm.exec) (hlk : meth.locks = false) {t : FieldType} {z w : Int32} (hret : meth.sig.returnType = some t) (ht : t = .boolean ∨ t = .byte ∨ t = .char ∨ t = .short) (hd : decode c.code pc = .ok (.ireturn, 1)) (hn : nar t z = w) (hq : Q (some (.int w)) T.heap locs) (h1 : cells ≤ kc) (h2 : slots ≤ ks) : Run p e below Q (fun o t L => FrameEnd s o t L kc ks) T (mkF m pc Ls (.int z :: rest)) := by
  subst hn
  obtain ⟨fs, hr, hrun, hended, hW, hsame⟩ := X.leave (v := some (.int (nar t z))) (fun q => by rw [hret] at q; cases q) hlk
  exact ⟨_, _, retN X hx hret ht hd hr, hrun, hended, _, _, rfl, hq, ⟨_, rfl⟩, hW, hsame.mono h1 h2⟩
theorem r_retV (X : Stand p l e R s m args below meth c T locs cells slots) (hx : p.tables.exec = Jvm.exec) (hlk : meth.locks = false) {t : FieldType} {w : Value} {i : Instr} (hret : meth.sig.returnType = some t) (hn : narrow t w = w)
    (hi : (i = .ireturn ∧ (t = .int ∨ t = .boolean ∨ t = .byte ∨ t = .char ∨ t = .short) ∧ ∃ z, w = .int z) ∨ (i = .lreturn ∧ t = .long ∧ ∃ z, w = .long z) ∨ (i = .dreturn ∧ t = .double ∧ ∃ z, w = .double z) ∨ (i = .freturn ∧ t = .float ∧ ∃ z, w = .float z) ∨ (i = .areturn ∧ t.isReference = true ∧ w.isRef = true))
    (hd : decode c.code pc = .ok (i, 1)) (hq : Q (some w) T.heap locs) (h1 : cells ≤ kc) (h2 : slots ≤ ks) : Run p e below Q (fun o t L => FrameEnd s o t L kc ks) T (mkF m pc Ls (w :: rest)) := by
  obtain ⟨fs, hr, hrun, hended, hW, hsame⟩ := X.leave (v := some w) (fun q => by rw [hret] at q; cases q) hlk
  exact ⟨_, _, retOut X hx hret hn hi hd hr, hrun, hended, _, _, rfl, hq, ⟨_, rfl⟩, hW, hsame.mono h1 h2⟩
theorem r_retI (X : Stand p l e R s m args below meth c T locs cells slots) (hx : p.tables.exec = Jvm.exec) (hlk : meth.locks = false) {w : Int32} (hret : meth.sig.returnType = some .int) (hd : decode c.code pc = .ok (.ireturn, 1)) (hq : Q (some (.int w)) T.heap locs) (h1 : cells ≤ kc) (h2 : slots ≤ ks) : Run p e below Q (fun o t L => FrameEnd s o t L kc ks) T (mkF m pc Ls (.int w :: rest)) :=
  r_retV X hx hlk hret rfl (Or.inl ⟨rfl, Or.inl rfl, _, rfl⟩) hd hq h1 h2
theorem r_retJ (X : Stand p l e R s m args below meth c T locs cells slots) (hx : p.tables.exec = Jvm.exec) (hlk : meth.locks = false) {w : Int64} (hret : meth.sig.returnType = some .long) (hd : decode c.code pc = .ok (.lreturn, 1)) (hq : Q (some (.long w)) T.heap locs) (h1 : cells ≤ kc) (h2 : slots ≤ ks) : Run p e below Q (fun o t L => FrameEnd s o t L kc ks) T (mkF m pc Ls (.long w :: rest)) :=
  r_retV X hx hlk hret rfl (Or.inr (Or.inl ⟨rfl, rfl, _, rfl⟩)) hd hq h1 h2
theorem r_retD (X : Stand p l e R s m args below meth c T locs cells slots) (hx : p.tables.exec = Jvm.exec) (hlk : meth.locks = false) {w : UInt64} (hret : meth.sig.returnType = some .double) (hd : decode c.code pc = .ok (.dreturn, 1)) (hq : Q (some (.double w)) T.heap locs) (h1 : cells ≤ kc) (h2 : slots ≤ ks) : Run p e below Q (fun o t L => FrameEnd s o t L kc ks) T (mkF m pc Ls (.double w :: rest)) :=
  r_retV X hx hlk hret rfl (Or.inr (Or.inr (Or.inl ⟨rfl, rfl, _, rfl⟩))) hd hq h1 h2
theorem r_retA (X : Stand p l e R s m args below meth c T locs cells slots) (hx : p.tables.exec = Jvm.exec) (hlk : meth.locks = false) {t : FieldType} {w : Value} (hret : meth.sig.returnType = some t) (ht : t.isReference = true) (hw : w.isRef = true) (hd : decode c.code pc = .ok (.areturn, 1)) (hq : Q (some w) T.heap locs) (h1 : cells ≤ kc) (h2 : slots ≤ ks) : Run p e below Q (fun o t L => FrameEnd s o t L kc ks) T (mkF m pc Ls (w :: rest)) :=
  r_retV X hx hlk hret (by rcases ref_cases hw with rfl | ⟨a, rfl⟩ <;> cases t <;> first | rfl | cases ht) (Or.inr (Or.inr (Or.inr (Or.inr ⟨rfl, ht, hw⟩)))) hd hq h1 h2
theorem r_ret0 (X : Stand p l e R s m args below meth c T locs cells slots) (hx : p.tables.exec = Jvm.exec) (hlk : meth.locks = false) (hret : meth.sig.returnType = none) (hd : decode c.code pc = .ok (.return_, 1)) (hq : Q none T.heap locs) (h1 : cells ≤ kc) (h2 : slots ≤ ks) : Run p e below Q (fun o t L => FrameEnd s o t L kc ks) T (mkF m pc Ls []) := by
  obtain ⟨fs, hr, hrun, hended, hW, hsame⟩ := X.leave (v := none) (fun _ => rfl) hlk
  exact ⟨_, _, X.returnOut hx hret hd hr, hrun, hended, _, _, rfl, hq, ⟨_, rfl⟩, hW, hsame.mono h1 h2⟩
theorem r_ldc (X : Stand p l e R s m args below meth c T locs cells slots) (hx : p.tables.exec = Jvm.exec) (hZ : Z.Warmed39 s.vm) {own : String} {index : Nat} {v : Int32} (hown : s.vm.findClass own = some m.cls) (w : (Jvm.Cond.constant own index v).before a0 Z = true) (hd : decode c.code pc = .ok (.ldc index, 2)) (hp : pc + 2 = pc') (r : Run p e below Q En T (mkF m pc' Ls (.int v :: rest))) : Run p e below Q En T (mkF m pc Ls rest) := by
  subst hp; exact r.on fun _ q => X.ldcInt hx hown (mvT hZ w) (g := mkF m pc Ls rest) rfl hd _ q
theorem r_ldc2 (X : Stand p l e R s m args below meth c T locs cells slots) (hx : p.tables.exec = Jvm.exec) (hZ : Z.Warmed39 s.vm) {own : String} {index : Nat} {v : Int64} (hown : s.vm.findClass own = some m.cls) (w : (Jvm.Cond.constantLong own index v).before a0 Z = true) (hd : decode c.code pc = .ok (.ldc2_w index, 3)) (hp : pc + 3 = pc') (r : Run p e below Q En T (mkF m pc' Ls (.long v :: rest))) : Run p e below Q En T (mkF m pc Ls rest) := by
  subst hp; exact r.on fun _ q => X.ldc2Long hx hown (mvT hZ w) (g := mkF m pc Ls rest) rfl hd _ q
theorem r_callS (X : Stand p l e R s m args below meth c T locs cells slots) (hx : p.tables.exec = Jvm.exec) (hZ : Z.Warmed39 s.vm) {own : String} {index : Nat} {y : MethodName} {bytes : ByteArray} {maxL : Nat} {ret : Option FieldType} {rm : Room} {as' : Array Value} {Qc : Option Value → Heap → List Loc → Prop} {argsL : List Value} {W : Nat}
    (hown : s.vm.findClass own = some m.cls) (w1 : (Jvm.Cond.methodLink own index y).before a0 Z = true) (w2 : (Jvm.Cond.static y).before a0 Z = true) (w3 : (Jvm.Cond.initialized y.cls).before a0 Z = true) (w4 : (Jvm.Cond.code y bytes maxL ret).before a0 Z = true) (hy : y.cls ≠ "java/lang/invoke/MethodHandle" ∧ y.cls ≠ "java/lang/invoke/VarHandle")
    (hM : Met l Z y bytes maxL ret [] rm as' h Qc rm.cells rm.slots) (eT : T.heap = h) (hsz : Ls.size = c.maxLocals) (hlen : ∀ sig, parseMethodDescriptor y.desc = some sig → argsL.length = sig.parameters.length) (hst : st = argsL.reverse ++ rest) (has : argsL.toArray = as') (hW : (rest.map fun v => v.category).sum = W)
    (hf : rm.frames + 1 ≤ R.frames) (hl : W + (maxL + 11) + rm.locals ≤ R.locals) (hcl : cells + rm.cells ≤ R.cells) (hsl : slots + rm.slots ≤ R.slots) (hd : decode c.code pc = .ok (.invokestatic index, 3)) (hp : pc + 3 = pc')
    (r : ∀ (v : Option Value) (T' : State) (L : List Loc), Stand p l e R s m args below meth c T' (locs ++ L) (cells + rm.cells) (slots + rm.slots) → Qc v T'.heap L → Run p e below Q En T' (mkF m pc' Ls (v.toList ++ rest))) : Run p e below Q En T (mkF m pc Ls st) := by
  subst hp
  obtain ⟨v, _, ⟨T', L', k', n'⟩, -, X', ⟨L, hQ, l1, y1, z1⟩, stp⟩ := Jvm.LawKit.callS X hx (y := y) hown (mvT hZ w1) (mvT hZ w2) (mvT hZ w3) (mvT hZ w4) hy (backOf (W := W) hM hZ w4 w3 hf hl) (g := mkF m pc Ls st) rfl hsz (argsL := argsL) (rest := rest) hlen hst (by show 2 * 0 + _ ≤ _; omega) hd (fun _ _ => ⟨has, eT, hcl, hsl⟩)
  dsimp only at X' l1 y1 z1 stp hQ
  subst l1 y1 z1
  exact (r v T' L X' hQ).on stp
theorem r_callI (X : Stand p l e R s m args below meth c T locs cells slots) (hx : p.tables.exec = Jvm.exec) (hZ : Z.Warmed39 s.vm) {own : String} {index : Nat} {y : MethodName} {bytes : ByteArray} {maxL : Nat} {rm : Room} {as' : Array Value} {Qc : Option Value → Heap → List Loc → Prop} {argsL : List Value} {W : Nat} {a : Addr}
    (hown : s.vm.findClass own = some m.cls) (hy1 : y.name = "<init>") (w1 : (Jvm.Cond.methodLink own index y).before a0 Z = true) (w2 : (Jvm.Cond.instanceMethod y).before a0 Z = true) (w3 : (Jvm.Cond.initialized y.cls).before a0 Z = true) (w4 : (Jvm.Cond.code y bytes maxL none).before a0 Z = true) (hy : y.cls ≠ "java/lang/invoke/MethodHandle" ∧ y.cls ≠ "java/lang/invoke/VarHandle")
    (hM : Met l Z y bytes maxL none [] rm as' h Qc rm.cells rm.slots) (eT : T.heap = h) (hsz : Ls.size = c.maxLocals) (hlen : ∀ sig, parseMethodDescriptor y.desc = some sig → argsL.length = sig.parameters.length) (hst : st = argsL.reverse ++ .ref a :: rest) (has : (.ref a :: argsL).toArray = as') (hW : (rest.map fun v => v.category).sum = W)
    (hf : rm.frames + 1 ≤ R.frames) (hl : W + (maxL + 11) + rm.locals ≤ R.locals) (hcl : cells + rm.cells ≤ R.cells) (hsl : slots + rm.slots ≤ R.slots) (hd : decode c.code pc = .ok (.invokespecial index, 3)) (hp : pc + 3 = pc')
    (r : ∀ (v : Option Value) (T' : State) (L : List Loc), Stand p l e R s m args below meth c T' (locs ++ L) (cells + rm.cells) (slots + rm.slots) → Qc v T'.heap L → Run p e below Q En T' (mkF m pc' Ls (v.toList ++ rest))) : Run p e below Q En T (mkF m pc Ls st) := by
  subst hp
  obtain ⟨v, _, ⟨T', L', k', n'⟩, -, X', ⟨L, hQ, l1, y1, z1⟩, stp⟩ := X.specialBack hx (y := y) hy1 hown (mvT hZ w1) (mvT hZ w2) (mvT hZ w4) hy (backOf (W := W) hM hZ w4 w3 hf hl) (g := mkF m pc Ls st) rfl hsz (Steps.refl _) (a := a) (argsL := argsL) (rest := rest) hlen hst (by show 2 * 0 + _ ≤ _; omega) hd (fun _ _ => ⟨has, eT, hcl, hsl⟩)
  dsimp only at X' l1 y1 z1 stp hQ
  subst l1 y1 z1
  exact (r v T' L X' hQ).on fun _ q => stp.trans q
theorem r_callV (X : Stand p l e R s m args below meth c T locs cells slots) (hx : p.tables.exec = Jvm.exec) (hZ : Z.Warmed39 s.vm) {own C : String} {index : Nat} {y z : MethodName} {bytes : ByteArray} {maxL : Nat} {ret : Option FieldType} {rm : Room} {as' : Array Value} {Qc : Option Value → Heap → List Loc → Prop} {argsL : List Value} {W : Nat} {a : Addr}
    (hown : s.vm.findClass own = some m.cls) (w1 : (Jvm.Cond.methodLink own index y).before a0 Z = true) (w2 : (Jvm.Cond.declares y).before a0 Z = true) (nf : NotFace s y) (w5 : (Jvm.Cond.selects C y z).before a0 Z = true) (w6 : (Jvm.Cond.instanceMethod z).before a0 Z = true) (w3 : (Jvm.Cond.initialized z.cls).before a0 Z = true) (w4 : (Jvm.Cond.code z bytes maxL ret).before a0 Z = true) (hy : y.cls ≠ "java/lang/invoke/MethodHandle" ∧ y.cls ≠ "java/lang/invoke/VarHandle")
    (hM : Met l Z z bytes maxL ret [] rm as' h Qc rm.cells rm.slots) (eT : T.heap = h) (E : Exa Z h a C) (hsz : Ls.size = c.maxLocals) (hlen : ∀ sig, parseMethodDescriptor y.desc = some sig → argsL.length = sig.parameters.length) (hst : st = argsL.reverse ++ .ref a :: rest) (has : (.ref a :: argsL).toArray = as') (hW : (rest.map fun v => v.category).sum = W)
    (hf : rm.frames + 1 ≤ R.frames) (hl : W + (maxL + 11) + rm.locals ≤ R.locals) (hcl : cells + rm.cells ≤ R.cells) (hsl : slots + rm.slots ≤ R.slots) (hd : decode c.code pc = .ok (.invokevirtual index, 3)) (hp : pc + 3 = pc')
    (r : ∀ (v : Option Value) (T' : State) (L : List Loc), Stand p l e R s m args below meth c T' (locs ++ L) (cells + rm.cells) (slots + rm.slots) → Qc v T'.heap L → Run p e below Q En T' (mkF m pc' Ls (v.toList ++ rest))) : Run p e below Q En T (mkF m pc Ls st) := by
  subst hp
  obtain ⟨cq, kq, qa, qb, qc⟩ := isOf hZ eT E
  obtain ⟨v, _, ⟨T', L', k', n'⟩, -, X', ⟨L, hQ, l1, y1, z1⟩, stp⟩ := X.virtualBack hx (y := y) (z := z) hown (mvT hZ w1) (mvT hZ w2) nf (mvT hZ w5) (mvT hZ w6) hy (backOf (W := W) hM hZ w4 w3 hf hl) qa qc (g := mkF m pc Ls st) rfl hsz (Steps.refl _) (argsL := argsL) (rest := rest) hlen hst (by show 2 * 0 + _ ≤ _; omega) hd (fun _ _ => ⟨has, eT, hcl, hsl⟩)
  dsimp only at X' l1 y1 z1 stp hQ
  subst l1 y1 z1
  exact (r v T' L X' hQ).on fun _ q => stp.trans q
theorem r_initO (X : Stand p l e R s m args below meth c T locs cells slots) (hx : p.tables.exec = Jvm.exec) (hZ : Z.Warmed39 s.vm) {own : String} {index : Nat} {a : Addr} {W : Nat}
    (hown : s.vm.findClass own = some m.cls) (w1 : (Jvm.Cond.methodLink own index Lib.objectInit).before a0 Z = true) (w2 : (Jvm.Cond.instanceMethod Lib.objectInit).before a0 Z = true) (w4 : (Jvm.Cond.code Lib.objectInit ⟨#[0xb1]⟩ 1 none).before a0 Z = true)
    (eT : T.heap = h) (hsz : Ls.size = c.maxLocals) (hf : 1 ≤ R.frames) (hW : (rest.map fun v => v.category).sum = W) (hl : W + 12 ≤ R.locals) (hd : decode c.code pc = .ok (.invokespecial index, 3)) (hp : pc + 3 = pc')
    (r : ∀ T', Stand p l e R s m args below meth c T' locs cells slots → T'.heap = h → Run p e below Q En T' (mkF m pc' Ls rest)) : Run p e below Q En T (mkF m pc Ls (.ref a :: rest)) := by
  subst hp
  obtain ⟨T', X', e', stp⟩ := initO X hx hZ hown w1 w2 w4 eT (g := mkF m pc Ls (.ref a :: rest)) rfl hsz rfl hd hf (W := W) (by show 2 * 0 + _ ≤ _; omega) hl
  exact (r T' X' e').on stp
theorem r_new (X : Stand p l e R s m args below meth c T locs cells slots) (hx : p.tables.exec = Jvm.exec) (hZ : Z.Warmed39 s.vm) {own C : String} {index n : Nat} (hown : s.vm.findClass own = some m.cls) (w : (Jvm.Cond.classLink own index C).before a0 Z = true) (wi : (Jvm.Cond.instantiable C n).before a0 Z = true) (wz : (Jvm.Cond.initialized C).before a0 Z = true) (eT : T.heap = h) (hc : cells + 1 ≤ R.cells) (hl : slots + n ≤ R.slots) (hd : decode c.code pc = .ok (.new index, 3)) (hp : pc + 3 = pc')
    (r : ∀ (T' : State) (h' : Heap) (a : Addr), a = h.size → Stand p l e R s m args below meth c T' locs (cells + 1) (slots + n) → T'.heap = h' → Ext h h' → Exa Z h' a C → (∀ {O nm d : String} {ty : FieldType}, Laid Z a0 C O nm d → parseFieldDescriptor d = some ty → Fld Z h' a O nm d (defaultValue ty)) → Run p e below Q En T' (mkF m pc' Ls (.ref a :: rest))) : Run p e below Q En T (mkF m pc Ls rest) := by
  subst hp
  obtain ⟨T', h', X', e', E', A', D', -, stp⟩ := newO X hx hZ hown w wi wz eT (g := mkF m pc Ls rest) rfl hd hc hl
  exact (r T' h' h.size rfl X' e' E' A' D').on stp
theorem r_getF (X : Stand p l e R s m args below meth c T locs cells slots) (hx : p.tables.exec = Jvm.exec) (hZ : Z.Warmed39 s.vm) {own R0 O n d : String} {index : Nat} {a : Addr} {v : Value} (hown : s.vm.findClass own = some m.cls) (w : (Jvm.Cond.fieldLink own index R0 n d).before a0 Z = true) (via : Via Z R0 O n d) (eT : T.heap = h) (F : Fld Z h a O n d v) (hd : decode c.code pc = .ok (.getfield index, 3)) (hp : pc + 3 = pc')
    (r : ∀ T', Stand p l e R s m args below meth c T' locs cells slots → T'.heap = h → Run p e below Q En T' (mkF m pc' Ls (v :: rest))) : Run p e below Q En T (mkF m pc Ls (.ref a :: rest)) := by
  subst hp
  obtain ⟨T', X', e', stp⟩ := getF X hx hZ hown (host := "") (Or.inl w) via eT F (g := mkF m pc Ls (.ref a :: rest)) rfl rfl hd
  exact (r T' X' e').on stp
theorem r_getFN (X : Stand p l e R s m args below meth c T locs cells slots) (hx : p.tables.exec = Jvm.exec) (hZ : Z.Warmed39 s.vm) {own R0 O n d host : String} {index : Nat} {a : Addr} {v : Value} (hown : s.vm.findClass own = some m.cls) (w : (Jvm.Cond.fieldLinkNest own index R0 n d host).before a0 Z = true) (via : Via Z R0 O n d) (eT : T.heap = h) (F : Fld Z h a O n d v) (hd : decode c.code pc = .ok (.getfield index, 3)) (hp : pc + 3 = pc')
    (r : ∀ T', Stand p l e R s m args below meth c T' locs cells slots → T'.heap = h → Run p e below Q En T' (mkF m pc' Ls (v :: rest))) : Run p e below Q En T (mkF m pc Ls (.ref a :: rest)) := by
  subst hp
  obtain ⟨T', X', e', stp⟩ := getF X hx hZ hown (Or.inr w) via eT F (g := mkF m pc Ls (.ref a :: rest)) rfl rfl hd
  exact (r T' X' e').on stp
theorem r_getS (X : Stand p l e R s m args below meth c T locs cells slots) (hx : p.tables.exec = Jvm.exec) (hZ : Z.Warmed39 s.vm) {own R0 O n d : String} {index : Nat} {v : Value} (hown : s.vm.findClass own = some m.cls) (w : (Jvm.Cond.fieldLink own index R0 n d).before a0 Z = true) (via : Via Z R0 O n d) (eT : T.heap = h) (F : Sta Z h O n d v) (hd : decode c.code pc = .ok (.getstatic index, 3)) (hp : pc + 3 = pc')
    (r : ∀ T', Stand p l e R s m args below meth c T' locs cells slots → T'.heap = h → Run p e below Q En T' (mkF m pc' Ls (v :: rest))) : Run p e below Q En T (mkF m pc Ls rest) := by
  subst hp
  obtain ⟨T', X', e', stp⟩ := getS2 X hx hZ hown (host := "") (Or.inl w) via eT F (g := mkF m pc Ls rest) rfl hd
  exact (r T' X' e').on stp
theorem r_putF (X : Stand p l e R s m args below meth c T locs cells slots) (hx : p.tables.exec = Jvm.exec) (hZ : Z.Warmed39 s.vm) {own R0 O n d C : String} {index kk : Nat} {ty : FieldType} {a : Addr} {v old : Value} (hown : s.vm.findClass own = some m.cls) (w : (Jvm.Cond.fieldLink own index R0 n d).before a0 Z = true) (via : Via Z R0 O n d) (eT : T.heap = h) (F : Fld Z h a O n d old) (E : Exa Z h a C) (L : (Jvm.Cond.lays C O n d).before a0 Z = true ∨ ((Jvm.Cond.laysFinal C O n d).before a0 Z = true ∧ own = O ∧ meth.name = "<init>")) (wi : (Jvm.Cond.instantiable C kk).before a0 Z = true) (hty : parseFieldDescriptor d = some ty) (hn : narrow ty v = v) (hf : fits ty v = true) (hd : decode c.code pc = .ok (.putfield index, 3)) (hp : pc + 3 = pc')
    (r : ∀ (T' : State) (h' : Heap), Stand p l e R s m args below meth c T' (locs ++ [⟨a, Jvm.RoadKit.slotOf Z O n d⟩]) cells slots → T'.heap = h' → Wr h h' a (Jvm.RoadKit.slotOf Z O n d) v → Run p e below Q En T' (mkF m pc' Ls rest)) : Run p e below Q En T (mkF m pc Ls (v :: .ref a :: rest)) := by
  subst hp
  obtain ⟨T', h', X', e', W', stp⟩ := putF X hx hZ hown (host := "") (Or.inl w) via eT F E L wi hty hn hf (g := mkF m pc Ls (v :: .ref a :: rest)) rfl rfl hd
  exact (r T' h' X' e' W').on stp
theorem r_newarray (X : Stand p l e R s m args below meth c T locs cells slots) (hx : p.tables.exec = Jvm.exec) (hZ : Z.Warmed39 s.vm) {aty : ArrayType} (w : (Jvm.Cond.arrayClass (newarray.typeOf aty)).before a0 Z = true) (eT : T.heap = h) {n : Int32} {cap : Nat} (hn : ¬ n < 0) (hcap : n.toNatClampNeg ≤ cap) (hb8 : cap * 8 ≤ 536870912) (hc : cells + 1 ≤ R.cells) (hl : slots + cap ≤ R.slots) (hd : decode c.code pc = .ok (.newarray aty, 2)) (hp : pc + 2 = pc')
    (r : ∀ (T' : State) (h' : Heap) (a : Addr) (cA : ClassId), a = h.size → Stand p l e R s m args below meth c T' locs (cells + 1) (slots + cap) → T'.heap = h' → Ext h h' → Arr Z h' a (newA cA (newarray.typeOf aty) n) (newarray.typeOf aty) → Run p e below Q En T' (mkF m pc' Ls (.ref a :: rest))) : Run p e below Q En T (mkF m pc Ls (.int n :: rest)) := by
  subst hp
  obtain ⟨T', h', cA, X', e', E', A', stp⟩ := newP X hx hZ w eT (g := mkF m pc Ls (.int n :: rest)) rfl hd rfl hn hcap hb8 hc hl
  exact (r T' h' h.size cA rfl X' e' E' A').on stp
theorem r_putFN (X : Stand p l e R s m args below meth c T locs cells slots) (hx : p.tables.exec = Jvm.exec) (hZ : Z.Warmed39 s.vm) {own R0 O n d C : String} {index kk : Nat} {ty : FieldType} {a : Addr} {v v' old : Value} (hown : s.vm.findClass own = some m.cls) (w : (Jvm.Cond.fieldLink own index R0 n d).before a0 Z = true) (via : Via Z R0 O n d) (eT : T.heap = h) (F : Fld Z h a O n d old) (E : Exa Z h a C) (L : (Jvm.Cond.lays C O n d).before a0 Z = true ∨ ((Jvm.Cond.laysFinal C O n d).before a0 Z = true ∧ own = O ∧ meth.name = "<init>")) (wi : (Jvm.Cond.instantiable C kk).before a0 Z = true) (hty : parseFieldDescriptor d = some ty) (hn : narrow ty v = v') (hf : fits ty v' = true) (hd : decode c.code pc = .ok (.putfield index, 3)) (hp : pc + 3 = pc')
    (r : ∀ (T' : State) (h' : Heap), Stand p l e R s m args below meth c T' (locs ++ [⟨a, Jvm.RoadKit.slotOf Z O n d⟩]) cells slots → T'.heap = h' → Wr h h' a (Jvm.RoadKit.slotOf Z O n d) v' → Run p e below Q En T' (mkF m pc' Ls rest)) : Run p e below Q En T (mkF m pc Ls (v :: .ref a :: rest)) := by
  subst hp
  obtain ⟨T', h', X', e', W', stp⟩ := putFN X hx hZ hown w via eT F E L wi hty hn hf (g := mkF m pc Ls (v :: .ref a :: rest)) rfl rfl hd
  exact (r T' h' X' e' W').on stp
theorem r_anewarray (X : Stand p l e R s m args below meth c T locs cells slots) (hx : p.tables.exec = Jvm.exec) (hZ : Z.Warmed39 s.vm) {own C : String} {index : Nat} (hown : s.vm.findClass own = some m.cls) (w1 : (Jvm.Cond.classLink own index C).before a0 Z = true) (w2 : (Jvm.Cond.arrayOver (.object C)).before a0 Z = true) (eT : T.heap = h) {n : Int32} {cap : Nat} (hn : ¬ n < 0) (hcap : n.toNatClampNeg ≤ cap) (hb8 : cap * 8 ≤ 536870912) (hc : cells + 1 ≤ R.cells) (hl : slots + cap ≤ R.slots) (hd : decode c.code pc = .ok (.anewarray index, 3)) (hp : pc + 3 = pc')
    (r : ∀ (T' : State) (h' : Heap) (a : Addr) (cA : ClassId), a = h.size → Stand p l e R s m args below meth c T' locs (cells + 1) (slots + cap) → T'.heap = h' → Ext h h' → Arr Z h' a (newA cA (.object C) n) (.object C) → Ovr Z cA C → Run p e below Q En T' (mkF m pc' Ls (.ref a :: rest))) : Run p e below Q En T (mkF m pc Ls (.int n :: rest)) := by
  subst hp
  obtain ⟨T', h', cA, X', e', E', A', O', stp⟩ := newR X hx hZ hown w1 w2 eT (g := mkF m pc Ls (.int n :: rest)) rfl hd rfl hn hcap hb8 hc hl
  exact (r T' h' h.size cA rfl X' e' E' A' O').on stp
theorem r_iastore (X : Stand p l e R s m args below meth c T locs cells slots) (hx : p.tables.exec = Jvm.exec) (hZ : Z.Warmed39 s.vm) (eT : T.heap = h) {a : Addr} {cl : Cell} {j : Int32} {x : Int32} (A : Arr Z h a cl .int) (hj : ¬ (j < 0 ∨ cl.slots.size ≤ j.toNatClampNeg)) (hd : decode c.code pc = .ok (.iastore, 1)) (hp : pc + 1 = pc')
    (r : ∀ (T' : State) (h' : Heap), Stand p l e R s m args below meth c T' (locs ++ [⟨a, j.toNatClampNeg⟩]) cells slots → T'.heap = h' → Wr h h' a j.toNatClampNeg (.int x) → Run p e below Q En T' (mkF m pc' Ls rest)) : Run p e below Q En T (mkF m pc Ls (.int x :: .int j :: .ref a :: rest)) := by
  subst hp
  obtain ⟨T', h', X', e', W', stp⟩ := stI X hx hZ eT A hj (g := mkF m pc Ls (.int x :: .int j :: .ref a :: rest)) rfl rfl hd
  exact (r T' h' X' e' W').on stp
theorem r_lastore (X : Stand p l e R s m args below meth c T locs cells slots) (hx : p.tables.exec = Jvm.exec) (hZ : Z.Warmed39 s.vm) (eT : T.heap = h) {a : Addr} {cl : Cell} {j : Int32} {x : Int64} (A : Arr Z h a cl .long) (hj : ¬ (j < 0 ∨ cl.slots.size ≤ j.toNatClampNeg)) (hd : decode c.code pc = .ok (.lastore, 1)) (hp : pc + 1 = pc')
    (r : ∀ (T' : State) (h' : Heap), Stand p l e R s m args below meth c T' (locs ++ [⟨a, j.toNatClampNeg⟩]) cells slots → T'.heap = h' → Wr h h' a j.toNatClampNeg (.long x) → Run p e below Q En T' (mkF m pc' Ls rest)) : Run p e below Q En T (mkF m pc Ls (.long x :: .int j :: .ref a :: rest)) := by
  subst hp
  obtain ⟨T', h', X', e', W', stp⟩ := stJ X hx hZ eT A hj (g := mkF m pc Ls (.long x :: .int j :: .ref a :: rest)) rfl rfl hd
  exact (r T' h' X' e' W').on stp
theorem r_castore (X : Stand p l e R s m args below meth c T locs cells slots) (hx : p.tables.exec = Jvm.exec) (hZ : Z.Warmed39 s.vm) (eT : T.heap = h) {a : Addr} {cl : Cell} {j x : Int32} (A : Arr Z h a cl .char) (hj : ¬ (j < 0 ∨ cl.slots.size ≤ j.toNatClampNeg)) (hd : decode c.code pc = .ok (.castore, 1)) (hp : pc + 1 = pc')
    (r : ∀ (T' : State) (h' : Heap), Stand p l e R s m args below meth c T' (locs ++ [⟨a, j.toNatClampNeg⟩]) cells slots → T'.heap = h' → Wr h h' a j.toNatClampNeg (.int (nar .char x)) → Run p e below Q En T' (mkF m pc' Ls rest)) : Run p e below Q En T (mkF m pc Ls (.int x :: .int j :: .ref a :: rest)) := by
  subst hp
  obtain ⟨T', h', X', e', W', stp⟩ := stC X hx hZ eT A hj (g := mkF m pc Ls (.int x :: .int j :: .ref a :: rest)) rfl rfl hd
  exact (r T' h' X' e' W').on stp
theorem r_sastore (X : Stand p l e R s m args below meth c T locs cells slots) (hx : p.tables.exec = Jvm.exec) (hZ : Z.Warmed39 s.vm) (eT : T.heap = h) {a : Addr} {cl : Cell} {j x : Int32} (A : Arr Z h a cl .short) (hj : ¬ (j < 0 ∨ cl.slots.size ≤ j.toNatClampNeg)) (hd : decode c.code pc = .ok (.sastore, 1)) (hp : pc + 1 = pc')
    (r : ∀ (T' : State) (h' : Heap), Stand p l e R s m args below meth c T' (locs ++ [⟨a, j.toNatClampNeg⟩]) cells slots → T'.heap = h' → Wr h h' a j.toNatClampNeg (.int (nar .short x)) → Run p e below Q En T' (mkF m pc' Ls rest)) : Run p e below Q En T (mkF m pc Ls (.int x :: .int j :: .ref a :: rest)) := by
  subst hp
  obtain ⟨T', h', X', e', W', stp⟩ := stS X hx hZ eT A hj (g := mkF m pc Ls (.int x :: .int j :: .ref a :: rest)) rfl rfl hd
  exact (r T' h' X' e' W').on stp
theorem r_bastoreB (X : Stand p l e R s m args below meth c T locs cells slots) (hx : p.tables.exec = Jvm.exec) (hZ : Z.Warmed39 s.vm) (eT : T.heap = h) {a : Addr} {cl : Cell} {j x : Int32} (A : Arr Z h a cl .byte) (hj : ¬ (j < 0 ∨ cl.slots.size ≤ j.toNatClampNeg)) (hd : decode c.code pc = .ok (.bastore, 1)) (hp : pc + 1 = pc')
    (r : ∀ (T' : State) (h' : Heap), Stand p l e R s m args below meth c T' (locs ++ [⟨a, j.toNatClampNeg⟩]) cells slots → T'.heap = h' → Wr h h' a j.toNatClampNeg (.int (nar .byte x)) → Run p e below Q En T' (mkF m pc' Ls rest)) : Run p e below Q En T (mkF m pc Ls (.int x :: .int j :: .ref a :: rest)) := by
  subst hp
  obtain ⟨T', h', X', e', W', stp⟩ := stB X hx hZ eT A hj (g := mkF m pc Ls (.int x :: .int j :: .ref a :: rest)) rfl rfl hd
  exact (r T' h' X' e' W').on stp
theorem r_bastoreZ (X : Stand p l e R s m args below meth c T locs cells slots) (hx : p.tables.exec = Jvm.exec) (hZ : Z.Warmed39 s.vm) (eT : T.heap = h) {a : Addr} {cl : Cell} {j x : Int32} (A : Arr Z h a cl .boolean) (hj : ¬ (j < 0 ∨ cl.slots.size ≤ j.toNatClampNeg)) (hd : decode c.code pc = .ok (.bastore, 1)) (hp : pc + 1 = pc')
    (r : ∀ (T' : State) (h' : Heap), Stand p l e R s m args below meth c T' (locs ++ [⟨a, j.toNatClampNeg⟩]) cells slots → T'.heap = h' → Wr h h' a j.toNatClampNeg (.int (nar .boolean x)) → Run p e below Q En T' (mkF m pc' Ls rest)) : Run p e below Q En T (mkF m pc Ls (.int x :: .int j :: .ref a :: rest)) := by
  subst hp
  obtain ⟨T', h', X', e', W', stp⟩ := stZ X hx hZ eT A hj (g := mkF m pc Ls (.int x :: .int j :: .ref a :: rest)) rfl rfl hd
  exact (r T' h' X' e' W').on stp
theorem r_arraylength (X : Stand p l e R s m args below meth c T locs cells slots) (hx : p.tables.exec = Jvm.exec) (hZ : Z.Warmed39 s.vm) (eT : T.heap = h) {a : Addr} {cl : Cell} {ty : FieldType} {n : Int32} (A : Arr Z h a cl ty) (hn : cl.slots.size.toInt32 = n) (hd : decode c.code pc = .ok (.arraylength, 1)) (hp : pc + 1 = pc') (r : Run p e below Q En T (mkF m pc' Ls (.int n :: rest))) : Run p e below Q En T (mkF m pc Ls (.ref a :: rest)) := by
  subst hp hn; exact r.on fun _ q => X.arraylength hx (by rw [eT]; exact A.1) (State.isArrayOf_alike hZ.alike A.2.1) (g := mkF m pc Ls (.ref a :: rest)) rfl rfl hd _ q
theorem r_iaload (X : Stand p l e R s m args below meth c T locs cells slots) (hx : p.tables.exec = Jvm.exec) (hZ : Z.Warmed39 s.vm) (eT : T.heap = h) {a : Addr} {cl : Cell} {j : Int32} {v : Int32} (A : Arr Z h a cl .int) (hj : ¬ (j < 0 ∨ cl.slots.size ≤ j.toNatClampNeg)) (hat : cl.slots[j.toNatClampNeg]? = some (.int v)) (hd : decode c.code pc = .ok (.iaload, 1)) (hp : pc + 1 = pc') (r : Run p e below Q En T (mkF m pc' Ls (.int v :: rest))) : Run p e below Q En T (mkF m pc Ls (.int j :: .ref a :: rest)) := by
  subst hp; exact r.on fun _ q => X.iaload hx (j := j) (v := .int v) (by rw [eT]; exact A.1) (State.isArrayOf_alike hZ.alike A.2.1) A.2.2 hj hat (g := mkF m pc Ls (.int j :: .ref a :: rest)) rfl rfl hd _ q
theorem r_caload (X : Stand p l e R s m args below meth c T locs cells slots) (hx : p.tables.exec = Jvm.exec) (hZ : Z.Warmed39 s.vm) (eT : T.heap = h) {a : Addr} {cl : Cell} {j : Int32} {v : Int32} (A : Arr Z h a cl .char) (hj : ¬ (j < 0 ∨ cl.slots.size ≤ j.toNatClampNeg)) (hat : cl.slots[j.toNatClampNeg]? = some (.int v)) (hd : decode c.code pc = .ok (.caload, 1)) (hp : pc + 1 = pc') (r : Run p e below Q En T (mkF m pc' Ls (.int v :: rest))) : Run p e below Q En T (mkF m pc Ls (.int j :: .ref a :: rest)) := by
  subst hp; exact r.on fun _ q => X.caload hx (j := j) (v := .int v) (by rw [eT]; exact A.1) (State.isArrayOf_alike hZ.alike A.2.1) A.2.2 hj hat (g := mkF m pc Ls (.int j :: .ref a :: rest)) rfl rfl hd _ q
theorem r_saload (X : Stand p l e R s m args below meth c T locs cells slots) (hx : p.tables.exec = Jvm.exec) (hZ : Z.Warmed39 s.vm) (eT : T.heap = h) {a : Addr} {cl : Cell} {j : Int32} {v : Int32} (A : Arr Z h a cl .short) (hj : ¬ (j < 0 ∨ cl.slots.size ≤ j.toNatClampNeg)) (hat : cl.slots[j.toNatClampNeg]? = some (.int v)) (hd : decode c.code pc = .ok (.saload, 1)) (hp : pc + 1 = pc') (r : Run p e below Q En T (mkF m pc' Ls (.int v :: rest))) : Run p e below Q En T (mkF m pc Ls (.int j :: .ref a :: rest)) := by
  subst hp; exact r.on fun _ q => X.saload hx (j := j) (v := .int v) (by rw [eT]; exact A.1) (State.isArrayOf_alike hZ.alike A.2.1) A.2.2 hj hat (g := mkF m pc Ls (.int j :: .ref a :: rest)) rfl rfl hd _ q
theorem r_baload (X : Stand p l e R s m args below meth c T locs cells slots) (hx : p.tables.exec = Jvm.exec) (hZ : Z.Warmed39 s.vm) (eT : T.heap = h) {a : Addr} {cl : Cell} {j : Int32} {v : Int32} (A : Arr Z h a cl .byte) (hj : ¬ (j < 0 ∨ cl.slots.size ≤ j.toNatClampNeg)) (hat : cl.slots[j.toNatClampNeg]? = some (.int v)) (hd : decode c.code pc = .ok (.baload, 1)) (hp : pc + 1 = pc') (r : Run p e below Q En T (mkF m pc' Ls (.int v :: rest))) : Run p e below Q En T (mkF m pc Ls (.int j :: .ref a :: rest)) := by
  subst hp; exact r.on fun _ q => X.baloadBytes hx (j := j) (v := .int v) (by rw [eT]; exact A.1) (State.isArrayOf_alike hZ.alike A.2.1) A.2.2 hj hat (g := mkF m pc Ls (.int j :: .ref a :: rest)) rfl rfl hd _ q
theorem r_baloadZ (X : Stand p l e R s m args below meth c T locs cells slots) (hx : p.tables.exec = Jvm.exec) (hZ : Z.Warmed39 s.vm) (eT : T.heap = h) {a : Addr} {cl : Cell} {j : Int32} {v : Int32} (A : Arr Z h a cl .boolean) (hj : ¬ (j < 0 ∨ cl.slots.size ≤ j.toNatClampNeg)) (hat : cl.slots[j.toNatClampNeg]? = some (.int v)) (hd : decode c.code pc = .ok (.baload, 1)) (hp : pc + 1 = pc') (r : Run p e below Q En T (mkF m pc' Ls (.int v :: rest))) : Run p e below Q En T (mkF m pc Ls (.int j :: .ref a :: rest)) := by
  subst hp; exact r.on fun _ q => X.baloadBooleans hx (j := j) (v := .int v) (by rw [eT]; exact A.1) (State.isArrayOf_alike hZ.alike A.2.1) A.2.2 hj hat (g := mkF m pc Ls (.int j :: .ref a :: rest)) rfl rfl hd _ q
theorem r_laload (X : Stand p l e R s m args below meth c T locs cells slots) (hx : p.tables.exec = Jvm.exec) (hZ : Z.Warmed39 s.vm) (eT : T.heap = h) {a : Addr} {cl : Cell} {j : Int32} {v : Int64} (A : Arr Z h a cl .long) (hj : ¬ (j < 0 ∨ cl.slots.size ≤ j.toNatClampNeg)) (hat : cl.slots[j.toNatClampNeg]? = some (.long v)) (hd : decode c.code pc = .ok (.laload, 1)) (hp : pc + 1 = pc') (r : Run p e below Q En T (mkF m pc' Ls (.long v :: rest))) : Run p e below Q En T (mkF m pc Ls (.int j :: .ref a :: rest)) := by
  subst hp; exact r.on fun _ q => X.laload hx (j := j) (v := .long v) (by rw [eT]; exact A.1) (State.isArrayOf_alike hZ.alike A.2.1) A.2.2 hj hat (g := mkF m pc Ls (.int j :: .ref a :: rest)) rfl rfl hd _ q
theorem r_ldcS {vm0 : Vm} {k0 nn : Nat} (X : Stand p l e R (s.setVm vm0) m args below meth c T locs cells slots) (hx : p.tables.exec = Jvm.exec) (hZ : Z.Warmed39 vm0) {own text : String} {index : Nat} (hown : vm0.findClass own = some m.cls) (w : (Jvm.Cond.stringLink own index text).before a0 Z = true) (wS : ∀ a ∈ Bundle.stringAtoms, a.before a0 Z = true) (eT : T.heap = h) (hS : s.Since vm0 k0) (hk : k0 ≤ h.size) (hn : 4 * text.toList.length ≤ nn) (hbig : nn ≤ 536870912) (hc : cells + 2 ≤ R.cells) (hl : slots + (nn + 4) ≤ R.slots) (hd : decode c.code pc = .ok (.ldc index, 2)) (hp : pc + 2 = pc')
    (r : ∀ (a : Addr) (T' : State) (h' : Heap) (k1 : Nat), Stand p l e R (s.setVm T'.vm) m args below meth c T' locs (cells + 2) (slots + (nn + 4)) → T'.heap = h' → Ext h h' → s.Since T'.vm k1 → k1 ≤ h'.size → Z.Warmed39 (s.setVm T'.vm).vm → (s.setVm T'.vm).vm.findClass own = some m.cls → Run p e below Q En T' (mkF m pc' Ls (.ref a :: rest))) : Run p e below Q En T (mkF m pc Ls rest) := by
  subst hp
  obtain ⟨a, T', h', k1, X', e', E', hS', hk', hZ', ho', stp⟩ := ldcS X hx hZ hown w wS eT hS hk (g := mkF m pc Ls rest) rfl hd hn hbig hc hl
  exact (r a T' h' k1 X' e' E' hS' hk' hZ' ho').on stp
theorem w_retN {vm1 : Vm} {k1 : Nat} (X : Stand p l e R (s.setVm vm1) m args below meth c T locs cells slots) (hS : s.Since vm1 k1) (hk : k1 ≤ T.heap.size) (hx : p.tables.exec = Jvm.exec) (hlk : meth.locks = false) {t : FieldType} {z w : Int32} (hret : meth.sig.returnType = some t) (ht : t = .boolean ∨ t = .byte ∨ t = .char ∨ t = .short) (hd : decode c.code pc = .ok (.ireturn, 1)) (hn : nar t z = w) (hq : Q (some (.int w)) T.heap locs) (h1 : cells ≤ kc) (h2 : slots ≤ ks) : Run p e below Q (fun o t L => ReturnedEndW s o t L kc ks) T (mkF m pc Ls (.int z :: rest)) := by
  subst hn
  obtain ⟨fs, hr, hrun, hended, h4, h5, h6, h7⟩ := X.leaveW hS hk (v := some (.int (nar t z))) (fun q => by rw [hret] at q; cases q) hlk
  exact ⟨_, _, retN X hx hret ht hd hr, hrun, hended, _, _, rfl, hq, h4, h5, h6, h7.mono h1 h2⟩
theorem w_retV {vm1 : Vm} {k1 : Nat} (X : Stand p l e R (s.setVm vm1) m args below meth c T locs cells slots) (hS : s.Since vm1 k1) (hk : k1 ≤ T.heap.size) (hx : p.tables.exec = Jvm.exec) (hlk : meth.locks = false) {t : FieldType} {w : Value} {i : Instr} (hret : meth.sig.returnType = some t) (hn : narrow t w = w)
    (hi : (i = .ireturn ∧ (t = .int ∨ t = .boolean ∨ t = .byte ∨ t = .char ∨ t = .short) ∧ ∃ z, w = .int z) ∨ (i = .lreturn ∧ t = .long ∧ ∃ z, w = .long z) ∨ (i = .dreturn ∧ t = .double ∧ ∃ z, w = .double z) ∨ (i = .freturn ∧ t = .float ∧ ∃ z, w = .float z) ∨ (i = .areturn ∧ t.isReference = true ∧ w.isRef = true))
    (hd : decode c.code pc = .ok (i, 1)) (hq : Q (some w) T.heap locs) (h1 : cells ≤ kc) (h2 : slots ≤ ks) : Run p e below Q (fun o t L => ReturnedEndW s o t L kc ks) T (mkF m pc Ls (w :: rest)) := by
  obtain ⟨fs, hr, hrun, hended, h4, h5, h6, h7⟩ := X.leaveW hS hk (v := some w) (fun q => by rw [hret] at q; cases q) hlk
  exact ⟨_, _, retOut X hx hret hn hi hd hr, hrun, hended, _, _, rfl, hq, h4, h5, h6, h7.mono h1 h2⟩
theorem w_ret0 {vm1 : Vm} {k1 : Nat} (X : Stand p l e R (s.setVm vm1) m args below meth c T locs cells slots) (hS : s.Since vm1 k1) (hk : k1 ≤ T.heap.size) (hx : p.tables.exec = Jvm.exec) (hlk : meth.locks = false) (hret : meth.sig.returnType = none) (hd : decode c.code pc = .ok (.return_, 1)) (hq : Q none T.heap locs) (h1 : cells ≤ kc) (h2 : slots ≤ ks) : Run p e below Q (fun o t L => ReturnedEndW s o t L kc ks) T (mkF m pc Ls []) := by
  obtain ⟨fs, hr, hrun, hended, h4, h5, h6, h7⟩ := X.leaveW hS hk (v := none) (fun _ => rfl) hlk
  exact ⟨_, _, X.returnOut hx hret hd hr, hrun, hended, _, _, rfl, hq, h4, h5, h6, h7.mono h1 h2⟩
abbrev MetW (l : Launch) (Z : State) (y : MethodName) (bytes : ByteArray) (maxL : Nat) (ret : Option FieldType) (ws : List Jvm.Cond) (rm : Room) (as' : Array Value) (h0 : Heap) (Q : Option Value → Heap → List Loc → Prop) (kc ks : Nat) : Prop :=
  MetFree l y (head1 (Jvm.Cond.code y bytes maxL ret :: ws) rm) (fun a U => a = as' ∧ Z.Warmed39 U.vm ∧ U.heap = h0) (fun _ _ _ _ _ => True) (fun _ U o U' => ∃ v L, o = .returned v ∧ Q v U'.heap L ∧ ReturnedEndW U o U' L kc ks)
theorem metW_of {y : MethodName} {bytes : ByteArray} {maxL : Nat} {ret : Option FieldType} {ws : List Jvm.Cond} {rm : Room} {as' : Array Value} {h0 : Heap} {Q : Option Value → Heap → List Loc → Prop} {kc ks : Nat} {f0 : MethodId → JFrame} (hpn : plainFor y = true)
    (hef : ∀ m, entryFrame m as' maxL = f0 m)
    (body : ∀ (p : Program) (e : Env) (s : State) (m : MethodId) (below : List Frame) (meth : Method) (c : Code) (s₁ : State), Stand p l e rm s m as' below meth c s₁ [] 0 0 → p.tables.exec = Jvm.exec → c.code = bytes → c.maxLocals = maxL → meth.sig.returnType = ret → meth.locks = false → s.vm.findClass y.cls = some m.cls → meth.name = y.name → Z.Warmed39 s.vm → s₁.heap = h0 → Run p e below Q (fun o t L => ReturnedEndW s o t L kc ks) s₁ (f0 m)) :
    MetW l Z y bytes maxL ret ws rm as' h0 Q kc ks := by
  refine MetFree.of_bodySF (code := bytes) (maxLocals := maxL) (ret := ret) hpn hisR ?_
  intro p e s m args below meth c s₁ Bd hml0 hP hK
  obtain ⟨rfl, hZ, hh⟩ := hP
  obtain ⟨s₂, o, r⟩ := body p e s m below meth c s₁ (Stand.of_body Bd) Bd.exec Bd.bytes hml0 Bd.returns (BodyLoose.notSynchronized Bd) (findClass_of_methodNamed Bd.named) (name_of_methodNamed Bd.named Bd.method).1 hZ (by rw [← hh, Bd.state]; rfl)
  rw [hef m]
  exact ⟨s₂, o, r⟩
end Core
section Arrays
variable {p : Program} {l : Launch} {e : Env} {R : Room} {s : State} {m : MethodId} {args : Array Value} {below : List Frame} {meth : Method} {c : Code} {T T' : State} {locs : List Loc} {cells slots : Nat} {Q : Option Value → Heap → List Loc → Prop} {En : Outcome → State → List Loc → Prop} {kc ks : Nat} {Z : State} {a0 : Array Value} {h h' : Heap} {Ls : Array Slot} {st rest : List Value} {pc pc' : Nat} {a b : Addr} {ty : FieldType} {n : Nat} {f g : Nat → Value} {F : Nat → Int32} {sl : Nat} {v : Value} {j : Int32}
/-- an array of n places and what lies in each -/
def Ary (Z : State) (h : Heap) (a : Addr) (ty : FieldType) (n : Nat) (f : Nat → Value) : Prop := ∃ c : Cell, Arr Z h a c ty ∧ c.slots.size = n ∧ ∀ i, i < n → c.slots[i]? = some (f i)
theorem Ary.lt (A : Ary Z h a ty n f) : a < h.size := by obtain ⟨c, A, -⟩ := A; exact A.lt
theorem Ary.ext (A : Ary Z h a ty n f) (E : Ext h h') : Ary Z h' a ty n f := by obtain ⟨c, A, r⟩ := A; exact ⟨c, A.ext E, r⟩
theorem Ary.other (A : Ary Z h b ty n f) (W : Wr h h' a sl v) (q : b ≠ a) : Ary Z h' b ty n f := by obtain ⟨c, A, r⟩ := A; exact ⟨c, A.other W q, r⟩
theorem Ary.keep {ws : List Addr} (A : Ary Z h a ty n f) (K : Keep h h' ws) (q : a ∉ ws) : Ary Z h' a ty n f := by obtain ⟨c, A, r⟩ := A; exact ⟨c, ⟨K.2.1 a c A.1 q, A.2⟩, r⟩
theorem Ary.congr (A : Ary Z h a ty n f) (q : ∀ i, i < n → f i = g i) : Ary Z h a ty n g := by obtain ⟨c, A, r1, r2⟩ := A; exact ⟨c, A, r1, fun i hi => by rw [r2 i hi, q i hi]⟩
theorem Ary.set (A : Ary Z h a ty n f) (W : Wr h h' a j.toNatClampNeg v) : Ary Z h' a ty n (fun i => if i = j.toInt.toNat then v else f i) := by
  obtain ⟨c, A, r1, r2⟩ := A
  refine ⟨_, A.same W, by rw [sz_set]; exact r1, fun i hi => ?_⟩
  show (c.slots.setIfInBounds j.toNatClampNeg v)[i]? = _
  have ej : j.toNatClampNeg = j.toInt.toNat := rfl
  by_cases q : i = j.toInt.toNat
  · simp only [q, if_true]; rw [← ej]; rw [ej, ← q]; simp [Array.getElem?_setIfInBounds, r1, hi]
  · simp only [q, if_false]; rw [Array.getElem?_setIfInBounds_ne (by rw [ej]; exact fun y => q y.symm)]; exact r2 i hi
theorem Ary.setI {x : Int32} (A : Ary Z h a ty n (fun i => .int (F i))) (W : Wr h h' a j.toNatClampNeg (.int x)) : Ary Z h' a ty n (fun i => .int (if i = j.toInt.toNat then x else F i)) :=
  (A.set W).congr fun i _ => by
    by_cases q : i = j.toInt.toNat
    · simp only [if_pos q]
    · simp only [if_neg q]
theorem Ary.setJ {x : Int64} {F : Nat → Int64} (A : Ary Z h a ty n (fun i => .long (F i))) (W : Wr h h' a j.toNatClampNeg (.long x)) : Ary Z h' a ty n (fun i => .long (if i = j.toInt.toNat then x else F i)) :=
  (A.set W).congr fun i _ => by
    by_cases q : i = j.toInt.toNat
    · simp only [if_pos q]
    · simp only [if_neg q]
theorem Ary.new {cA : ClassId} {z : Int32} (A : Arr Z h a (newA cA ty z) ty) (hz : z.toInt.toNat = n) : Ary Z h a ty n (fun _ => defaultValue ty) := by
  have ej : z.toNatClampNeg = z.toInt.toNat := rfl
  refine ⟨_, A, by rw [sz_new]; exact hz, fun i hi => ?_⟩
  show (Array.replicate z.toNatClampNeg (defaultValue ty))[i]? = _
  rw [ej, hz]; simp [hi]
theorem own_inb {cl : Cell} (h1 : cl.slots.size = n) (h0 : 0 ≤ j.toInt) (h2 : j.toInt < n) : ¬ (j < 0 ∨ cl.slots.size ≤ j.toNatClampNeg) := by
  rw [Int32.lt_iff_toInt_lt, show (0 : Int32).toInt = 0 from rfl]
  have ej : j.toNatClampNeg = j.toInt.toNat := rfl
  omega
theorem own_at {cl : Cell} (h3 : ∀ i, i < n → cl.slots[i]? = some (f i)) (h0 : 0 ≤ j.toInt) (h2 : j.toInt < n) (hv : f j.toInt.toNat = v) : cl.slots[j.toNatClampNeg]? = some v := by
  rw [← hv]; exact h3 _ (show j.toInt.toNat < n by omega)
theorem r_len (X : Stand p l e R s m args below meth c T locs cells slots) (hx : p.tables.exec = Jvm.exec) (hZ : Z.Warmed39 s.vm) (eT : T.heap = h) {z : Int32} (A : Ary Z h a ty n f) (hn : z.toInt = n) (hd : decode c.code pc = .ok (.arraylength, 1)) (hp : pc + 1 = pc') (r : Run p e below Q En T (mkF m pc' Ls (.int z :: rest))) : Run p e below Q En T (mkF m pc Ls (.ref a :: rest)) := by
  obtain ⟨cl, A, r1, -⟩ := A
  refine r_arraylength X hx hZ eT A ?_ hd hp r
  rw [r1]
  have q : z.toInt.toNat = n := by omega
  rw [← q]
  exact (back32 (n := z) (by rw [Int32.lt_iff_toInt_lt, show (0 : Int32).toInt = 0 from rfl]; omega)).1
theorem q_iaload (X : Stand p l e R s m args below meth c T locs cells slots) (hx : p.tables.exec = Jvm.exec) (hZ : Z.Warmed39 s.vm) (eT : T.heap = h) {v : Int32} (A : Ary Z h a .int n f) (h0 : 0 ≤ j.toInt) (h1 : j.toInt < n) (hv : f j.toInt.toNat = .int v) (hd : decode c.code pc = .ok (.iaload, 1)) (hp : pc + 1 = pc') (r : Run p e below Q En T (mkF m pc' Ls (.int v :: rest))) : Run p e below Q En T (mkF m pc Ls (.int j :: .ref a :: rest)) := by
  obtain ⟨cl, A, r1, r2⟩ := A
  exact r_iaload X hx hZ eT A (own_inb r1 h0 h1) (own_at r2 h0 h1 hv) hd hp r
theorem q_caload (X : Stand p l e R s m args below meth c T locs cells slots) (hx : p.tables.exec = Jvm.exec) (hZ : Z.Warmed39 s.vm) (eT : T.heap = h) {v : Int32} (A : Ary Z h a .char n f) (h0 : 0 ≤ j.toInt) (h1 : j.toInt < n) (hv : f j.toInt.toNat = .int v) (hd : decode c.code pc = .ok (.caload, 1)) (hp : pc + 1 = pc') (r : Run p e below Q En T (mkF m pc' Ls (.int v :: rest))) : Run p e below Q En T (mkF m pc Ls (.int j :: .ref a :: rest)) := by
  obtain ⟨cl, A, r1, r2⟩ := A
  exact r_caload X hx hZ eT A (own_inb r1 h0 h1) (own_at r2 h0 h1 hv) hd hp r
theorem q_saload (X : Stand p l e R s m args below meth c T locs cells slots) (hx : p.tables.exec = Jvm.exec) (hZ : Z.Warmed39 s.vm) (eT : T.heap = h) {v : Int32} (A : Ary Z h a .short n f) (h0 : 0 ≤ j.toInt) (h1 : j.toInt < n) (hv : f j.toInt.toNat = .int v) (hd : decode c.code pc = .ok (.saload, 1)) (hp : pc + 1 = pc') (r : Run p e below Q En T (mkF m pc' Ls (.int v :: rest))) : Run p e below Q En T (mkF m pc Ls (.int j :: .ref a :: rest)) := by
  obtain ⟨cl, A, r1, r2⟩ := A
  exact r_saload X hx hZ eT A (own_inb r1 h0 h1) (own_at r2 h0 h1 hv) hd hp r
theorem q_baload (X : Stand p l e R s m args below meth c T locs cells slots) (hx : p.tables.exec = Jvm.exec) (hZ : Z.Warmed39 s.vm) (eT : T.heap = h) {v : Int32} (A : Ary Z h a .byte n f) (h0 : 0 ≤ j.toInt) (h1 : j.toInt < n) (hv : f j.toInt.toNat = .int v) (hd : decode c.code pc = .ok (.baload, 1)) (hp : pc + 1 = pc') (r : Run p e below Q En T (mkF m pc' Ls (.int v :: rest))) : Run p e below Q En T (mkF m pc Ls (.int j :: .ref a :: rest)) := by
  obtain ⟨cl, A, r1, r2⟩ := A
  exact r_baload X hx hZ eT A (own_inb r1 h0 h1) (own_at r2 h0 h1 hv) hd hp r
theorem q_baloadZ (X : Stand p l e R s m args below meth c T locs cells slots) (hx : p.tables.exec = Jvm.exec) (hZ : Z.Warmed39 s.vm) (eT : T.heap = h) {v : Int32} (A : Ary Z h a .boolean n f) (h0 : 0 ≤ j.toInt) (h1 : j.toInt < n) (hv : f j.toInt.toNat = .int v) (hd : decode c.code pc = .ok (.baload, 1)) (hp : pc + 1 = pc') (r : Run p e below Q En T (mkF m pc' Ls (.int v :: rest))) : Run p e below Q En T (mkF m pc Ls (.int j :: .ref a :: rest)) := by
  obtain ⟨cl, A, r1, r2⟩ := A
  exact r_baloadZ X hx hZ eT A (own_inb r1 h0 h1) (own_at r2 h0 h1 hv) hd hp r
theorem q_laload (X : Stand p l e R s m args below meth c T locs cells slots) (hx : p.tables.exec = Jvm.exec) (hZ : Z.Warmed39 s.vm) (eT : T.heap = h) {v : Int64} (A : Ary Z h a .long n f) (h0 : 0 ≤ j.toInt) (h1 : j.toInt < n) (hv : f j.toInt.toNat = .long v) (hd : decode c.code pc = .ok (.laload, 1)) (hp : pc + 1 = pc') (r : Run p e below Q En T (mkF m pc' Ls (.long v :: rest))) : Run p e below Q En T (mkF m pc Ls (.int j :: .ref a :: rest)) := by
  obtain ⟨cl, A, r1, r2⟩ := A
  exact r_laload X hx hZ eT A (own_inb r1 h0 h1) (own_at r2 h0 h1 hv) hd hp r
theorem q_iastore (X : Stand p l e R s m args below meth c T locs cells slots) (hx : p.tables.exec = Jvm.exec) (hZ : Z.Warmed39 s.vm) (eT : T.heap = h) {x : Int32} {F : Nat → Int32} (A : Ary Z h a .int n (fun i => .int (F i))) (h0 : 0 ≤ j.toInt) (h1 : j.toInt < n) (hd : decode c.code pc = .ok (.iastore, 1)) (hp : pc + 1 = pc')
    (r : ∀ (T' : State) (h' : Heap), Stand p l e R s m args below meth c T' (locs ++ [⟨a, j.toNatClampNeg⟩]) cells slots → T'.heap = h' → Wr h h' a j.toNatClampNeg (.int x) → Ary Z h' a .int n (fun i => .int (if i = j.toInt.toNat then x else F i)) → Run p e below Q En T' (mkF m pc' Ls rest)) : Run p e below Q En T (mkF m pc Ls (.int x :: .int j :: .ref a :: rest)) := by
  have A' := A
  obtain ⟨cl, A, r1, r2⟩ := A
  exact r_iastore X hx hZ eT A (own_inb r1 h0 h1) hd hp fun T' h' X' e' W' => r T' h' X' e' W' (A'.setI W')
theorem q_lastore (X : Stand p l e R s m args below meth c T locs cells slots) (hx : p.tables.exec = Jvm.exec) (hZ : Z.Warmed39 s.vm) (eT : T.heap = h) {x : Int64} {F : Nat → Int64} (A : Ary Z h a .long n (fun i => .long (F i))) (h0 : 0 ≤ j.toInt) (h1 : j.toInt < n) (hd : decode c.code pc = .ok (.lastore, 1)) (hp : pc + 1 = pc')
    (r : ∀ (T' : State) (h' : Heap), Stand p l e R s m args below meth c T' (locs ++ [⟨a, j.toNatClampNeg⟩]) cells slots → T'.heap = h' → Wr h h' a j.toNatClampNeg (.long x) → Ary Z h' a .long n (fun i => .long (if i = j.toInt.toNat then x else F i)) → Run p e below Q En T' (mkF m pc' Ls rest)) : Run p e below Q En T (mkF m pc Ls (.long x :: .int j :: .ref a :: rest)) := by
  have A' := A
  obtain ⟨cl, A, r1, r2⟩ := A
  exact r_lastore X hx hZ eT A (own_inb r1 h0 h1) hd hp fun T' h' X' e' W' => r T' h' X' e' W' (A'.setJ W')
theorem q_castore (X : Stand p l e R s m args below meth c T locs cells slots) (hx : p.tables.exec = Jvm.exec) (hZ : Z.Warmed39 s.vm) (eT : T.heap = h) {x w : Int32} (A : Ary Z h a .char n (fun i => .int (F i))) (h0 : 0 ≤ j.toInt) (h1 : j.toInt < n) (hn : nar .char x = w) (hd : decode c.code pc = .ok (.castore, 1)) (hp : pc + 1 = pc')
    (r : ∀ (T' : State) (h' : Heap), Stand p l e R s m args below meth c T' (locs ++ [⟨a, j.toNatClampNeg⟩]) cells slots → T'.heap = h' → Wr h h' a j.toNatClampNeg (.int w) → Ary Z h' a .char n (fun i => .int (if i = j.toInt.toNat then w else F i)) → Run p e below Q En T' (mkF m pc' Ls rest)) : Run p e below Q En T (mkF m pc Ls (.int x :: .int j :: .ref a :: rest)) := by
  subst hn
  have A' := A
  obtain ⟨cl, A, r1, r2⟩ := A
  exact r_castore X hx hZ eT A (own_inb r1 h0 h1) hd hp fun T' h' X' e' W' => r T' h' X' e' W' (A'.setI W')
theorem q_sastore (X : Stand p l e R s m args below meth c T locs cells slots) (hx : p.tables.exec = Jvm.exec) (hZ : Z.Warmed39 s.vm) (eT : T.heap = h) {x w : Int32} (A : Ary Z h a .short n (fun i => .int (F i))) (h0 : 0 ≤ j.toInt) (h1 : j.toInt < n) (hn : nar .short x = w) (hd : decode c.code pc = .ok (.sastore, 1)) (hp : pc + 1 = pc')
    (r : ∀ (T' : State) (h' : Heap), Stand p l e R s m args below meth c T' (locs ++ [⟨a, j.toNatClampNeg⟩]) cells slots → T'.heap = h' → Wr h h' a j.toNatClampNeg (.int w) → Ary Z h' a .short n (fun i => .int (if i = j.toInt.toNat then w else F i)) → Run p e below Q En T' (mkF m pc' Ls rest)) : Run p e below Q En T (mkF m pc Ls (.int x :: .int j :: .ref a :: rest)) := by
  subst hn
  have A' := A
  obtain ⟨cl, A, r1, r2⟩ := A
  exact r_sastore X hx hZ eT A (own_inb r1 h0 h1) hd hp fun T' h' X' e' W' => r T' h' X' e' W' (A'.setI W')
theorem q_bastoreB (X : Stand p l e R s m args below meth c T locs cells slots) (hx : p.tables.exec = Jvm.exec) (hZ : Z.Warmed39 s.vm) (eT : T.heap = h) {x w : Int32} (A : Ary Z h a .byte n (fun i => .int (F i))) (h0 : 0 ≤ j.toInt) (h1 : j.toInt < n) (hn : nar .byte x = w) (hd : decode c.code pc = .ok (.bastore, 1)) (hp : pc + 1 = pc')
    (r : ∀ (T' : State) (h' : Heap), Stand p l e R s m args below meth c T' (locs ++ [⟨a, j.toNatClampNeg⟩]) cells slots → T'.heap = h' → Wr h h' a j.toNatClampNeg (.int w) → Ary Z h' a .byte n (fun i => .int (if i = j.toInt.toNat then w else F i)) → Run p e below Q En T' (mkF m pc' Ls rest)) : Run p e below Q En T (mkF m pc Ls (.int x :: .int j :: .ref a :: rest)) := by
  subst hn
  have A' := A
  obtain ⟨cl, A, r1, r2⟩ := A
  exact r_bastoreB X hx hZ eT A (own_inb r1 h0 h1) hd hp fun T' h' X' e' W' => r T' h' X' e' W' (A'.setI W')
theorem q_bastoreZ (X : Stand p l e R s m args below meth c T locs cells slots) (hx : p.tables.exec = Jvm.exec) (hZ : Z.Warmed39 s.vm) (eT : T.heap = h) {x w : Int32} (A : Ary Z h a .boolean n (fun i => .int (F i))) (h0 : 0 ≤ j.toInt) (h1 : j.toInt < n) (hn : nar .boolean x = w) (hd : decode c.code pc = .ok (.bastore, 1)) (hp : pc + 1 = pc')
    (r : ∀ (T' : State) (h' : Heap), Stand p l e R s m args below meth c T' (locs ++ [⟨a, j.toNatClampNeg⟩]) cells slots → T'.heap = h' → Wr h h' a j.toNatClampNeg (.int w) → Ary Z h' a .boolean n (fun i => .int (if i = j.toInt.toNat then w else F i)) → Run p e below Q En T' (mkF m pc' Ls rest)) : Run p e below Q En T (mkF m pc Ls (.int x :: .int j :: .ref a :: rest)) := by
  subst hn
  have A' := A
  obtain ⟨cl, A, r1, r2⟩ := A
  exact r_bastoreZ X hx hZ eT A (own_inb r1 h0 h1) hd hp fun T' h' X' e' W' => r T' h' X' e' W' (A'.setI W')
end Arrays
section Facts2
variable {Z : State} {h h' h0 : Heap} {ws : List Addr} {C n d : String} {v : Value} {a b : Addr}
theorem own_staKeep (F : Sta Z h C n d v) (K : Keep h h' ws) (q : ∀ x ∈ ws, ∃ c : Cell, h[x]? = some c ∧ c.vm.isStatics = false) : Sta Z h' C n d v := by
  obtain ⟨cf, i, k, f, st, cell, h1, h2, h3, h4, h5, h6, h7⟩ := F
  refine ⟨cf, i, k, f, st, cell, h1, h2, h3, h4, K.2.1 st cell h5 fun m => ?_, h6, h7⟩
  obtain ⟨c, e1, e2⟩ := q _ m
  cases h5.symm.trans e1
  rw [e2] at h6; cases h6
theorem own_exaS (E : Exa Z h a C) : ∃ c : Cell, h[a]? = some c ∧ c.vm.isStatics = false := by
  obtain ⟨c, _, h1, -, -, h4, -⟩ := E; exact ⟨c, h1, h4⟩
theorem own_arrS {c : Cell} {ty : FieldType} (A : Arr Z h a c ty) : ∃ c : Cell, h[a]? = some c ∧ c.vm.isStatics = false := ⟨c, A.1, A.plain⟩
theorem own_aryS {ty : FieldType} {m : Nat} {f : Nat → Value} (A : Ary Z h a ty m f) : ∃ c : Cell, h[a]? = some c ∧ c.vm.isStatics = false := by
  obtain ⟨c, A, -⟩ := A; exact own_arrS A
theorem own_staExt (F : Sta Z h C n d v) (E : Ext h h') : Sta Z h' C n d v := Sta.ext E F
theorem own_kext {E : Ext h h'} : Keep h h' [] := ⟨E.1, fun x c q _ => E.2 x c q, fun x c q => ⟨c, E.2 x c q, rfl, rfl, rfl⟩⟩
end Facts2
def own_upd (F : Nat → Int32) (k : Nat) (v : Int32) : Nat → Int32 := fun i => if i = k then v else F i
def own_updB (F G : Nat → Int32) (k : Nat) (v : Int32) : Nat → Int32 := fun i => if i = k then (if F k = v then G k else F k) else G i
theorem own_us (F : Nat → Int32) (k : Nat) (v : Int32) : own_upd F k v k = v := by simp [own_upd]
theorem own_uo {F : Nat → Int32} {k i : Nat} {v : Int32} (h : i ≠ k) : own_upd F k v i = F i := by simp [own_upd, h]
theorem own_bs (F G : Nat → Int32) (k : Nat) (v : Int32) : own_updB F G k v k = if F k = v then G k else F k := by simp [own_updB]
theorem own_bo {F G : Nat → Int32} {k i : Nat} {v : Int32} (h : i ≠ k) : own_updB F G k v i = G i := by simp [own_updB, h]
theorem own_m15 (b : Int32) : 0 ≤ (b &&& 15).toInt ∧ (b &&& 15).toInt < 16 := by
  have h := c_and b 15 (by decide)
  have e : (15 : Int32).toInt = 15 := rfl
  exact ⟨h.1, by omega⟩
theorem own_nn {a b : Int32} (ha : 0 ≤ a.toInt) (hb : 0 ≤ b.toInt) (h : ¬ a = b) : b.toInt.toNat ≠ a.toInt.toNat := fun q => h (Int32.toInt_inj.mp (by omega))
theorem d1_0 : decode prog_37_method_1_code 0 = .ok (.aload_n 0, 1) := by decide +kernel
theorem d1_1 : decode prog_37_method_1_code 1 = .ok (.invokespecial 1, 3) := by decide +kernel
theorem d1_4 : decode prog_37_method_1_code 4 = .ok (.aload_n 0, 1) := by decide +kernel
theorem d1_5 : decode prog_37_method_1_code 5 = .ok (.bipush 16, 2) := by decide +kernel
theorem d1_7 : decode prog_37_method_1_code 7 = .ok (.anewarray 9, 3) := by decide +kernel
theorem d1_10 : decode prog_37_method_1_code 10 = .ok (.putfield 11, 3) := by decide +kernel
theorem d1_13 : decode prog_37_method_1_code 13 = .ok (.aload_n 0, 1) := by decide +kernel
theorem d1_14 : decode prog_37_method_1_code 14 = .ok (.bipush 16, 2) := by decide +kernel
theorem d1_16 : decode prog_37_method_1_code 16 = .ok (.newarray .int, 2) := by decide +kernel
theorem d1_18 : decode prog_37_method_1_code 18 = .ok (.putfield 15, 3) := by decide +kernel
theorem d1_21 : decode prog_37_method_1_code 21 = .ok (.aload_n 0, 1) := by decide +kernel
theorem d1_22 : decode prog_37_method_1_code 22 = .ok (.bipush 16, 2) := by decide +kernel
theorem d1_24 : decode prog_37_method_1_code 24 = .ok (.newarray .long, 2) := by decide +kernel
theorem d1_26 : decode prog_37_method_1_code 26 = .ok (.putfield 19, 3) := by decide +kernel
theorem d1_29 : decode prog_37_method_1_code 29 = .ok (.aload_n 0, 1) := by decide +kernel
theorem d1_30 : decode prog_37_method_1_code 30 = .ok (.bipush 16, 2) := by decide +kernel
theorem d1_32 : decode prog_37_method_1_code 32 = .ok (.anewarray 2, 3) := by decide +kernel
theorem d1_35 : decode prog_37_method_1_code 35 = .ok (.putfield 23, 3) := by decide +kernel
theorem d1_38 : decode prog_37_method_1_code 38 = .ok (.aload_n 0, 1) := by decide +kernel
theorem d1_39 : decode prog_37_method_1_code 39 = .ok (.bipush 16, 2) := by decide +kernel
theorem d1_41 : decode prog_37_method_1_code 41 = .ok (.newarray .int, 2) := by decide +kernel
theorem d1_43 : decode prog_37_method_1_code 43 = .ok (.putfield 27, 3) := by decide +kernel
theorem d1_46 : decode prog_37_method_1_code 46 = .ok (.aload_n 0, 1) := by decide +kernel
theorem d1_47 : decode prog_37_method_1_code 47 = .ok (.bipush 16, 2) := by decide +kernel
theorem d1_49 : decode prog_37_method_1_code 49 = .ok (.newarray .int, 2) := by decide +kernel
theorem d1_51 : decode prog_37_method_1_code 51 = .ok (.putfield 30, 3) := by decide +kernel
theorem d1_54 : decode prog_37_method_1_code 54 = .ok (.aload_n 0, 1) := by decide +kernel
theorem d1_55 : decode prog_37_method_1_code 55 = .ok (.bipush 32, 2) := by decide +kernel
theorem d1_57 : decode prog_37_method_1_code 57 = .ok (.newarray .int, 2) := by decide +kernel
theorem d1_59 : decode prog_37_method_1_code 59 = .ok (.putfield 33, 3) := by decide +kernel
theorem d1_62 : decode prog_37_method_1_code 62 = .ok (.aload_n 0, 1) := by decide +kernel
theorem d1_63 : decode prog_37_method_1_code 63 = .ok (.iconst 1, 1) := by decide +kernel
theorem d1_64 : decode prog_37_method_1_code 64 = .ok (.putfield 36, 3) := by decide +kernel
theorem d1_67 : decode prog_37_method_1_code 67 = .ok (.return_, 1) := by decide +kernel
theorem pn_0 : plainName "com/example/ajif/ajif/TokenTable" = true := by first | (simp [plainName, overriddenIn]; done) | decide +kernel
theorem ef_rmI (m : MethodId) (x0 : Addr) : entryFrame m #[(.ref x0)] 1 = mkF m 0 #[.val (.ref x0)] [] := by first | (simp [entryFrame, mkF, argsToLocals, Value.category, maxLocals]; done) | rfl
set_option maxRecDepth 65536 in
set_option maxHeartbeats 40000000 in
theorem rmI (l : Launch) (Z : State) (a0 : Array Value) (hw : ∀ d ∈ tables_1, d.before a0 Z = true) (ws : List Jvm.Cond) (a : Addr) (h0 : Heap) (n0 : Nat) (Z0 : n0 ≤ h0.size) (ga : n0 ≤ a) (Ea : Exa Z h0 a "com/example/ajif/ajif/TokenTable") (F_strings : Fld Z h0 a "com/example/ajif/ajif/TokenTable" "strings" "[Ljava/lang/String;" .null) (F_lengths : Fld Z h0 a "com/example/ajif/ajif/TokenTable" "lengths" "[I" .null) (F_hashes : Fld Z h0 a "com/example/ajif/ajif/TokenTable" "hashes" "[J" .null) (F_keys : Fld Z h0 a "com/example/ajif/ajif/TokenTable" "keys" "[Ljava/lang/Object;" .null) (F_following : Fld Z h0 a "com/example/ajif/ajif/TokenTable" "following" "[I" .null) (F_followingBefore : Fld Z h0 a "com/example/ajif/ajif/TokenTable" "followingBefore" "[I" .null) (F_index : Fld Z h0 a "com/example/ajif/ajif/TokenTable" "index" "[I" .null) (F_indexGrows : Fld Z h0 a "com/example/ajif/ajif/TokenTable" "indexGrows" "Z" (.int (0 : Int32))) :
    Met l Z (⟨"com/example/ajif/ajif/TokenTable", "<init>", "()V"⟩ : MethodName) prog_37_method_1_code 1 none ws ({ frames := 1, cells := 7, slots := 128, locals := 12 } : Room) #[(.ref a)] h0 (fun v h L => v = none ∧ Fr n0 L ∧ Keep h0 h [a] ∧ ∃ f g : Addr, Fld Z h a "com/example/ajif/ajif/TokenTable" "following" "[I" (.ref f) ∧ Fld Z h a "com/example/ajif/ajif/TokenTable" "followingBefore" "[I" (.ref g) ∧ Ary Z h f .int 16 (fun _ => .int 0) ∧ Ary Z h g .int 16 (fun _ => .int 0) ∧ n0 ≤ f ∧ n0 ≤ g ∧ f ≠ a ∧ g ≠ a ∧ g ≠ f) 7 128 := by
  refine met_of (plainFor_of_name pn_0) (f0 := fun m => (mkF m 0 #[.val (.ref a)] [])) (fun m => ef_rmI m a) ?_
  intro p e s m below meth c s₁ X0 hx hby hml hret hlk hown hnm hZ e0
  replace hown : s.vm.findClass "com/example/ajif/ajif/TokenTable" = some m.cls := hown
  have N0 := Fr.nil n0
  refine r_aloadN X0.here hx (hb hby d1_0) rfl rfl (pc' := 1) rfl ?_
  refine r_initO X0 hx hZ hown (hw _ (List.mem_of_getElem? (i := 6) rfl)) (hw _ (List.mem_of_getElem? (i := 7) rfl)) (hw _ (List.mem_of_getElem? (i := 8) rfl)) e0 (by rw [hml]; rfl) (by decide) (W := 0) rfl (by decide) (hb hby d1_1) (pc' := 4) rfl (fun T1 X1 e1 => ?_)
  refine r_aloadN X1.here hx (hb hby d1_4) rfl rfl (pc' := 5) rfl ?_
  refine r_bipush X1.here hx (hb hby d1_5) (v := 16) rfl (pc' := 7) rfl ?_
  refine r_anewarray X1 hx hZ hown (hw _ (List.mem_of_getElem? (i := 9) rfl)) (hw _ (List.mem_of_getElem? (i := 10) rfl)) e1 (cap := 16) (by decide) (by decide) (by decide) (by decide) (by decide) (hb hby d1_7) (pc' := 10) rfl (fun T2 h2 b2 k2 g2 X2 e2 E2 A2 O2 => ?_)
  have K3 : Keep h0 h0 [a] := Keep.refl _ _
  have fr4 : h0.size ≤ b2 := by rw [g2]; exact K3.1
  have ne5 : b2 ≠ a := by have q := Ea.lt; rw [← g2] at q; exact Nat.ne_of_gt q
  have ge6 : n0 ≤ b2 := by rw [g2]; exact Z0
  have K7 := K3.ext E2
  have f8 := Ea.ext E2
  have f9 := F_strings.ext E2
  have f10 := F_lengths.ext E2
  have f11 := F_hashes.ext E2
  have f12 := F_keys.ext E2
  have f13 := F_following.ext E2
  have f14 := F_followingBefore.ext E2
  have f15 := F_index.ext E2
  have f16 := F_indexGrows.ext E2
  have Z17 : n0 ≤ h2.size := by have q := Z0; exact Nat.le_trans q E2.1
  have f18 : Ary Z h2 b2 (.object "java/lang/String") 16 (fun _ => .null) := Ary.new A2 rfl
  refine r_putF X2 hx hZ hown (hw _ (List.mem_of_getElem? (i := 11) rfl)) Via.refl e2 f9 f8 (Or.inl (hw _ (List.mem_of_getElem? (i := 12) rfl))) (hw _ (List.mem_of_getElem? (i := 1) rfl)) (ty := (.array (.object "java/lang/String"))) (by decide) rfl rfl (hb hby d1_10) (pc' := 13) rfl (fun T19 h19 X19 e19 W19 => ?_)
  have f20 := f9.same W19
  have K21 := K7.wr W19 (Or.inl (List.mem_of_getElem? (i := 0) rfl))
  have f22 := f8.wr W19
  have f23 := f10.other W19 (Or.inr (slot_ne (Or.inl (hw _ (List.mem_of_getElem? (i := 15) rfl)) : Laid Z a0 "com/example/ajif/ajif/TokenTable" "com/example/ajif/ajif/TokenTable" "lengths" "[I") (Or.inl (hw _ (List.mem_of_getElem? (i := 12) rfl)) : Laid Z a0 "com/example/ajif/ajif/TokenTable" "com/example/ajif/ajif/TokenTable" "strings" "[Ljava/lang/String;") (by decide) (t := (.array .int)) (t' := (.array (.object "java/lang/String"))) (by decide) (by decide)))
  have f24 := f11.other W19 (Or.inr (slot_ne (Or.inl (hw _ (List.mem_of_getElem? (i := 18) rfl)) : Laid Z a0 "com/example/ajif/ajif/TokenTable" "com/example/ajif/ajif/TokenTable" "hashes" "[J") (Or.inl (hw _ (List.mem_of_getElem? (i := 12) rfl)) : Laid Z a0 "com/example/ajif/ajif/TokenTable" "com/example/ajif/ajif/TokenTable" "strings" "[Ljava/lang/String;") (by decide) (t := (.array .long)) (t' := (.array (.object "java/lang/String"))) (by decide) (by decide)))
  have f25 := f12.other W19 (Or.inr (slot_ne (Or.inl (hw _ (List.mem_of_getElem? (i := 22) rfl)) : Laid Z a0 "com/example/ajif/ajif/TokenTable" "com/example/ajif/ajif/TokenTable" "keys" "[Ljava/lang/Object;") (Or.inl (hw _ (List.mem_of_getElem? (i := 12) rfl)) : Laid Z a0 "com/example/ajif/ajif/TokenTable" "com/example/ajif/ajif/TokenTable" "strings" "[Ljava/lang/String;") (by decide) (t := (.array (.object "java/lang/Object"))) (t' := (.array (.object "java/lang/String"))) (by decide) (by decide)))
  have f26 := f13.other W19 (Or.inr (slot_ne (Or.inl (hw _ (List.mem_of_getElem? (i := 24) rfl)) : Laid Z a0 "com/example/ajif/ajif/TokenTable" "com/example/ajif/ajif/TokenTable" "following" "[I") (Or.inl (hw _ (List.mem_of_getElem? (i := 12) rfl)) : Laid Z a0 "com/example/ajif/ajif/TokenTable" "com/example/ajif/ajif/TokenTable" "strings" "[Ljava/lang/String;") (by decide) (t := (.array .int)) (t' := (.array (.object "java/lang/String"))) (by decide) (by decide)))
  have f27 := f14.other W19 (Or.inr (slot_ne (Or.inl (hw _ (List.mem_of_getElem? (i := 26) rfl)) : Laid Z a0 "com/example/ajif/ajif/TokenTable" "com/example/ajif/ajif/TokenTable" "followingBefore" "[I") (Or.inl (hw _ (List.mem_of_getElem? (i := 12) rfl)) : Laid Z a0 "com/example/ajif/ajif/TokenTable" "com/example/ajif/ajif/TokenTable" "strings" "[Ljava/lang/String;") (by decide) (t := (.array .int)) (t' := (.array (.object "java/lang/String"))) (by decide) (by decide)))
  have f28 := f15.other W19 (Or.inr (slot_ne (Or.inl (hw _ (List.mem_of_getElem? (i := 28) rfl)) : Laid Z a0 "com/example/ajif/ajif/TokenTable" "com/example/ajif/ajif/TokenTable" "index" "[I") (Or.inl (hw _ (List.mem_of_getElem? (i := 12) rfl)) : Laid Z a0 "com/example/ajif/ajif/TokenTable" "com/example/ajif/ajif/TokenTable" "strings" "[Ljava/lang/String;") (by decide) (t := (.array .int)) (t' := (.array (.object "java/lang/String"))) (by decide) (by decide)))
  have f29 := f16.other W19 (Or.inr (slot_ne (Or.inl (hw _ (List.mem_of_getElem? (i := 30) rfl)) : Laid Z a0 "com/example/ajif/ajif/TokenTable" "com/example/ajif/ajif/TokenTable" "indexGrows" "Z") (Or.inl (hw _ (List.mem_of_getElem? (i := 12) rfl)) : Laid Z a0 "com/example/ajif/ajif/TokenTable" "com/example/ajif/ajif/TokenTable" "strings" "[Ljava/lang/String;") (by decide) (t := .boolean) (t' := (.array (.object "java/lang/String"))) (by decide) (by decide)))
  have Z30 : n0 ≤ h19.size := by have q := Z17; rw [W19.size]; exact q
  have N19 := Fr.snoc X19 N0 ga
  refine r_aloadN X19.here hx (hb hby d1_13) rfl rfl (pc' := 14) rfl ?_
  refine r_bipush X19.here hx (hb hby d1_14) (v := 16) rfl (pc' := 16) rfl ?_
  refine r_newarray X19 hx hZ (aty := .int) (hw _ (List.mem_of_getElem? (i := 13) rfl)) e19 (cap := 16) (by decide) (by decide) (by decide) (by decide) (by decide) (hb hby d1_16) (pc' := 18) rfl (fun T31 h31 b31 k31 g31 X31 e31 E31 A31 => ?_)
  have fr32 : h0.size ≤ b31 := by rw [g31]; exact K21.1
  have ne33 : b31 ≠ a := by have q := f22.lt; rw [← g31] at q; exact Nat.ne_of_gt q
  have ge34 : n0 ≤ b31 := by rw [g31]; exact Z30
  have K35 := K21.ext E31
  have f36 := f22.ext E31
  have f37 := f23.ext E31
  have f38 := f24.ext E31
  have f39 := f25.ext E31
  have f40 := f26.ext E31
  have f41 := f27.ext E31
  have f42 := f28.ext E31
  have f43 := f29.ext E31
  have f44 := f20.ext E31
  have Z45 : n0 ≤ h31.size := by have q := Z30; exact Nat.le_trans q E31.1
  have f46 : Ary Z h31 b31 .int 16 (fun _ => .int 0) := Ary.new A31 rfl
  refine r_putF X31 hx hZ hown (hw _ (List.mem_of_getElem? (i := 14) rfl)) Via.refl e31 f37 f36 (Or.inl (hw _ (List.mem_of_getElem? (i := 15) rfl))) (hw _ (List.mem_of_getElem? (i := 1) rfl)) (ty := (.array .int)) (by decide) rfl rfl (hb hby d1_18) (pc' := 21) rfl (fun T47 h47 X47 e47 W47 => ?_)
  have f48 := f37.same W47
  have K49 := K35.wr W47 (Or.inl (List.mem_of_getElem? (i := 0) rfl))
  have f50 := f36.wr W47
  have f51 := f38.other W47 (Or.inr (slot_ne (Or.inl (hw _ (List.mem_of_getElem? (i := 18) rfl)) : Laid Z a0 "com/example/ajif/ajif/TokenTable" "com/example/ajif/ajif/TokenTable" "hashes" "[J") (Or.inl (hw _ (List.mem_of_getElem? (i := 15) rfl)) : Laid Z a0 "com/example/ajif/ajif/TokenTable" "com/example/ajif/ajif/TokenTable" "lengths" "[I") (by decide) (t := (.array .long)) (t' := (.array .int)) (by decide) (by decide)))
  have f52 := f39.other W47 (Or.inr (slot_ne (Or.inl (hw _ (List.mem_of_getElem? (i := 22) rfl)) : Laid Z a0 "com/example/ajif/ajif/TokenTable" "com/example/ajif/ajif/TokenTable" "keys" "[Ljava/lang/Object;") (Or.inl (hw _ (List.mem_of_getElem? (i := 15) rfl)) : Laid Z a0 "com/example/ajif/ajif/TokenTable" "com/example/ajif/ajif/TokenTable" "lengths" "[I") (by decide) (t := (.array (.object "java/lang/Object"))) (t' := (.array .int)) (by decide) (by decide)))
  have f53 := f40.other W47 (Or.inr (slot_ne (Or.inl (hw _ (List.mem_of_getElem? (i := 24) rfl)) : Laid Z a0 "com/example/ajif/ajif/TokenTable" "com/example/ajif/ajif/TokenTable" "following" "[I") (Or.inl (hw _ (List.mem_of_getElem? (i := 15) rfl)) : Laid Z a0 "com/example/ajif/ajif/TokenTable" "com/example/ajif/ajif/TokenTable" "lengths" "[I") (by decide) (t := (.array .int)) (t' := (.array .int)) (by decide) (by decide)))
  have f54 := f41.other W47 (Or.inr (slot_ne (Or.inl (hw _ (List.mem_of_getElem? (i := 26) rfl)) : Laid Z a0 "com/example/ajif/ajif/TokenTable" "com/example/ajif/ajif/TokenTable" "followingBefore" "[I") (Or.inl (hw _ (List.mem_of_getElem? (i := 15) rfl)) : Laid Z a0 "com/example/ajif/ajif/TokenTable" "com/example/ajif/ajif/TokenTable" "lengths" "[I") (by decide) (t := (.array .int)) (t' := (.array .int)) (by decide) (by decide)))
  have f55 := f42.other W47 (Or.inr (slot_ne (Or.inl (hw _ (List.mem_of_getElem? (i := 28) rfl)) : Laid Z a0 "com/example/ajif/ajif/TokenTable" "com/example/ajif/ajif/TokenTable" "index" "[I") (Or.inl (hw _ (List.mem_of_getElem? (i := 15) rfl)) : Laid Z a0 "com/example/ajif/ajif/TokenTable" "com/example/ajif/ajif/TokenTable" "lengths" "[I") (by decide) (t := (.array .int)) (t' := (.array .int)) (by decide) (by decide)))
  have f56 := f43.other W47 (Or.inr (slot_ne (Or.inl (hw _ (List.mem_of_getElem? (i := 30) rfl)) : Laid Z a0 "com/example/ajif/ajif/TokenTable" "com/example/ajif/ajif/TokenTable" "indexGrows" "Z") (Or.inl (hw _ (List.mem_of_getElem? (i := 15) rfl)) : Laid Z a0 "com/example/ajif/ajif/TokenTable" "com/example/ajif/ajif/TokenTable" "lengths" "[I") (by decide) (t := .boolean) (t' := (.array .int)) (by decide) (by decide)))
  have f57 := f44.other W47 (Or.inr (slot_ne (Or.inl (hw _ (List.mem_of_getElem? (i := 12) rfl)) : Laid Z a0 "com/example/ajif/ajif/TokenTable" "com/example/ajif/ajif/TokenTable" "strings" "[Ljava/lang/String;") (Or.inl (hw _ (List.mem_of_getElem? (i := 15) rfl)) : Laid Z a0 "com/example/ajif/ajif/TokenTable" "com/example/ajif/ajif/TokenTable" "lengths" "[I") (by decide) (t := (.array (.object "java/lang/String"))) (t' := (.array .int)) (by decide) (by decide)))
  have Z58 : n0 ≤ h47.size := by have q := Z45; rw [W47.size]; exact q
  have N47 := Fr.snoc X47 N19 ga
  refine r_aloadN X47.here hx (hb hby d1_21) rfl rfl (pc' := 22) rfl ?_
  refine r_bipush X47.here hx (hb hby d1_22) (v := 16) rfl (pc' := 24) rfl ?_
  refine r_newarray X47 hx hZ (aty := .long) (hw _ (List.mem_of_getElem? (i := 16) rfl)) e47 (cap := 16) (by decide) (by decide) (by decide) (by decide) (by decide) (hb hby d1_24) (pc' := 26) rfl (fun T59 h59 b59 k59 g59 X59 e59 E59 A59 => ?_)
  have fr60 : h0.size ≤ b59 := by rw [g59]; exact K49.1
  have ne61 : b59 ≠ a := by have q := f50.lt; rw [← g59] at q; exact Nat.ne_of_gt q
  have ge62 : n0 ≤ b59 := by rw [g59]; exact Z58
  have K63 := K49.ext E59
  have f64 := f50.ext E59
  have f65 := f51.ext E59
  have f66 := f52.ext E59
  have f67 := f53.ext E59
  have f68 := f54.ext E59
  have f69 := f55.ext E59
  have f70 := f56.ext E59
  have f71 := f57.ext E59
  have f72 := f48.ext E59
  have Z73 : n0 ≤ h59.size := by have q := Z58; exact Nat.le_trans q E59.1
  have f74 : Ary Z h59 b59 .long 16 (fun _ => .long 0) := Ary.new A59 rfl
  refine r_putF X59 hx hZ hown (hw _ (List.mem_of_getElem? (i := 17) rfl)) Via.refl e59 f65 f64 (Or.inl (hw _ (List.mem_of_getElem? (i := 18) rfl))) (hw _ (List.mem_of_getElem? (i := 1) rfl)) (ty := (.array .long)) (by decide) rfl rfl (hb hby d1_26) (pc' := 29) rfl (fun T75 h75 X75 e75 W75 => ?_)
  have f76 := f65.same W75
  have K77 := K63.wr W75 (Or.inl (List.mem_of_getElem? (i := 0) rfl))
  have f78 := f64.wr W75
  have f79 := f66.other W75 (Or.inr (slot_ne (Or.inl (hw _ (List.mem_of_getElem? (i := 22) rfl)) : Laid Z a0 "com/example/ajif/ajif/TokenTable" "com/example/ajif/ajif/TokenTable" "keys" "[Ljava/lang/Object;") (Or.inl (hw _ (List.mem_of_getElem? (i := 18) rfl)) : Laid Z a0 "com/example/ajif/ajif/TokenTable" "com/example/ajif/ajif/TokenTable" "hashes" "[J") (by decide) (t := (.array (.object "java/lang/Object"))) (t' := (.array .long)) (by decide) (by decide)))
  have f80 := f67.other W75 (Or.inr (slot_ne (Or.inl (hw _ (List.mem_of_getElem? (i := 24) rfl)) : Laid Z a0 "com/example/ajif/ajif/TokenTable" "com/example/ajif/ajif/TokenTable" "following" "[I") (Or.inl (hw _ (List.mem_of_getElem? (i := 18) rfl)) : Laid Z a0 "com/example/ajif/ajif/TokenTable" "com/example/ajif/ajif/TokenTable" "hashes" "[J") (by decide) (t := (.array .int)) (t' := (.array .long)) (by decide) (by decide)))
  have f81 := f68.other W75 (Or.inr (slot_ne (Or.inl (hw _ (List.mem_of_getElem? (i := 26) rfl)) : Laid Z a0 "com/example/ajif/ajif/TokenTable" "com/example/ajif/ajif/TokenTable" "followingBefore" "[I") (Or.inl (hw _ (List.mem_of_getElem? (i := 18) rfl)) : Laid Z a0 "com/example/ajif/ajif/TokenTable" "com/example/ajif/ajif/TokenTable" "hashes" "[J") (by decide) (t := (.array .int)) (t' := (.array .long)) (by decide) (by decide)))
  have f82 := f69.other W75 (Or.inr (slot_ne (Or.inl (hw _ (List.mem_of_getElem? (i := 28) rfl)) : Laid Z a0 "com/example/ajif/ajif/TokenTable" "com/example/ajif/ajif/TokenTable" "index" "[I") (Or.inl (hw _ (List.mem_of_getElem? (i := 18) rfl)) : Laid Z a0 "com/example/ajif/ajif/TokenTable" "com/example/ajif/ajif/TokenTable" "hashes" "[J") (by decide) (t := (.array .int)) (t' := (.array .long)) (by decide) (by decide)))
  have f83 := f70.other W75 (Or.inr (slot_ne (Or.inl (hw _ (List.mem_of_getElem? (i := 30) rfl)) : Laid Z a0 "com/example/ajif/ajif/TokenTable" "com/example/ajif/ajif/TokenTable" "indexGrows" "Z") (Or.inl (hw _ (List.mem_of_getElem? (i := 18) rfl)) : Laid Z a0 "com/example/ajif/ajif/TokenTable" "com/example/ajif/ajif/TokenTable" "hashes" "[J") (by decide) (t := .boolean) (t' := (.array .long)) (by decide) (by decide)))
  have f84 := f71.other W75 (Or.inr (slot_ne (Or.inl (hw _ (List.mem_of_getElem? (i := 12) rfl)) : Laid Z a0 "com/example/ajif/ajif/TokenTable" "com/example/ajif/ajif/TokenTable" "strings" "[Ljava/lang/String;") (Or.inl (hw _ (List.mem_of_getElem? (i := 18) rfl)) : Laid Z a0 "com/example/ajif/ajif/TokenTable" "com/example/ajif/ajif/TokenTable" "hashes" "[J") (by decide) (t := (.array (.object "java/lang/String"))) (t' := (.array .long)) (by decide) (by decide)))
  have f85 := f72.other W75 (Or.inr (slot_ne (Or.inl (hw _ (List.mem_of_getElem? (i := 15) rfl)) : Laid Z a0 "com/example/ajif/ajif/TokenTable" "com/example/ajif/ajif/TokenTable" "lengths" "[I") (Or.inl (hw _ (List.mem_of_getElem? (i := 18) rfl)) : Laid Z a0 "com/example/ajif/ajif/TokenTable" "com/example/ajif/ajif/TokenTable" "hashes" "[J") (by decide) (t := (.array .int)) (t' := (.array .long)) (by decide) (by decide)))
  have Z86 : n0 ≤ h75.size := by have q := Z73; rw [W75.size]; exact q
  have N75 := Fr.snoc X75 N47 ga
  refine r_aloadN X75.here hx (hb hby d1_29) rfl rfl (pc' := 30) rfl ?_
  refine r_bipush X75.here hx (hb hby d1_30) (v := 16) rfl (pc' := 32) rfl ?_
  refine r_anewarray X75 hx hZ hown (hw _ (List.mem_of_getElem? (i := 19) rfl)) (hw _ (List.mem_of_getElem? (i := 20) rfl)) e75 (cap := 16) (by decide) (by decide) (by decide) (by decide) (by decide) (hb hby d1_32) (pc' := 35) rfl (fun T87 h87 b87 k87 g87 X87 e87 E87 A87 O87 => ?_)
  have fr88 : h0.size ≤ b87 := by rw [g87]; exact K77.1
  have ne89 : b87 ≠ a := by have q := f78.lt; rw [← g87] at q; exact Nat.ne_of_gt q
  have ge90 : n0 ≤ b87 := by rw [g87]; exact Z86
  have K91 := K77.ext E87
  have f92 := f78.ext E87
  have f93 := f79.ext E87
  have f94 := f80.ext E87
  have f95 := f81.ext E87
  have f96 := f82.ext E87
  have f97 := f83.ext E87
  have f98 := f84.ext E87
  have f99 := f85.ext E87
  have f100 := f76.ext E87
  have Z101 : n0 ≤ h87.size := by have q := Z86; exact Nat.le_trans q E87.1
  have f102 : Ary Z h87 b87 (.object "java/lang/Object") 16 (fun _ => .null) := Ary.new A87 rfl
  refine r_putF X87 hx hZ hown (hw _ (List.mem_of_getElem? (i := 21) rfl)) Via.refl e87 f93 f92 (Or.inl (hw _ (List.mem_of_getElem? (i := 22) rfl))) (hw _ (List.mem_of_getElem? (i := 1) rfl)) (ty := (.array (.object "java/lang/Object"))) (by decide) rfl rfl (hb hby d1_35) (pc' := 38) rfl (fun T103 h103 X103 e103 W103 => ?_)
  have f104 := f93.same W103
  have K105 := K91.wr W103 (Or.inl (List.mem_of_getElem? (i := 0) rfl))
  have f106 := f92.wr W103
  have f107 := f94.other W103 (Or.inr (slot_ne (Or.inl (hw _ (List.mem_of_getElem? (i := 24) rfl)) : Laid Z a0 "com/example/ajif/ajif/TokenTable" "com/example/ajif/ajif/TokenTable" "following" "[I") (Or.inl (hw _ (List.mem_of_getElem? (i := 22) rfl)) : Laid Z a0 "com/example/ajif/ajif/TokenTable" "com/example/ajif/ajif/TokenTable" "keys" "[Ljava/lang/Object;") (by decide) (t := (.array .int)) (t' := (.array (.object "java/lang/Object"))) (by decide) (by decide)))
  have f108 := f95.other W103 (Or.inr (slot_ne (Or.inl (hw _ (List.mem_of_getElem? (i := 26) rfl)) : Laid Z a0 "com/example/ajif/ajif/TokenTable" "com/example/ajif/ajif/TokenTable" "followingBefore" "[I") (Or.inl (hw _ (List.mem_of_getElem? (i := 22) rfl)) : Laid Z a0 "com/example/ajif/ajif/TokenTable" "com/example/ajif/ajif/TokenTable" "keys" "[Ljava/lang/Object;") (by decide) (t := (.array .int)) (t' := (.array (.object "java/lang/Object"))) (by decide) (by decide)))
  have f109 := f96.other W103 (Or.inr (slot_ne (Or.inl (hw _ (List.mem_of_getElem? (i := 28) rfl)) : Laid Z a0 "com/example/ajif/ajif/TokenTable" "com/example/ajif/ajif/TokenTable" "index" "[I") (Or.inl (hw _ (List.mem_of_getElem? (i := 22) rfl)) : Laid Z a0 "com/example/ajif/ajif/TokenTable" "com/example/ajif/ajif/TokenTable" "keys" "[Ljava/lang/Object;") (by decide) (t := (.array .int)) (t' := (.array (.object "java/lang/Object"))) (by decide) (by decide)))
  have f110 := f97.other W103 (Or.inr (slot_ne (Or.inl (hw _ (List.mem_of_getElem? (i := 30) rfl)) : Laid Z a0 "com/example/ajif/ajif/TokenTable" "com/example/ajif/ajif/TokenTable" "indexGrows" "Z") (Or.inl (hw _ (List.mem_of_getElem? (i := 22) rfl)) : Laid Z a0 "com/example/ajif/ajif/TokenTable" "com/example/ajif/ajif/TokenTable" "keys" "[Ljava/lang/Object;") (by decide) (t := .boolean) (t' := (.array (.object "java/lang/Object"))) (by decide) (by decide)))
  have f111 := f98.other W103 (Or.inr (slot_ne (Or.inl (hw _ (List.mem_of_getElem? (i := 12) rfl)) : Laid Z a0 "com/example/ajif/ajif/TokenTable" "com/example/ajif/ajif/TokenTable" "strings" "[Ljava/lang/String;") (Or.inl (hw _ (List.mem_of_getElem? (i := 22) rfl)) : Laid Z a0 "com/example/ajif/ajif/TokenTable" "com/example/ajif/ajif/TokenTable" "keys" "[Ljava/lang/Object;") (by decide) (t := (.array (.object "java/lang/String"))) (t' := (.array (.object "java/lang/Object"))) (by decide) (by decide)))
  have f112 := f99.other W103 (Or.inr (slot_ne (Or.inl (hw _ (List.mem_of_getElem? (i := 15) rfl)) : Laid Z a0 "com/example/ajif/ajif/TokenTable" "com/example/ajif/ajif/TokenTable" "lengths" "[I") (Or.inl (hw _ (List.mem_of_getElem? (i := 22) rfl)) : Laid Z a0 "com/example/ajif/ajif/TokenTable" "com/example/ajif/ajif/TokenTable" "keys" "[Ljava/lang/Object;") (by decide) (t := (.array .int)) (t' := (.array (.object "java/lang/Object"))) (by decide) (by decide)))
  have f113 := f100.other W103 (Or.inr (slot_ne (Or.inl (hw _ (List.mem_of_getElem? (i := 18) rfl)) : Laid Z a0 "com/example/ajif/ajif/TokenTable" "com/example/ajif/ajif/TokenTable" "hashes" "[J") (Or.inl (hw _ (List.mem_of_getElem? (i := 22) rfl)) : Laid Z a0 "com/example/ajif/ajif/TokenTable" "com/example/ajif/ajif/TokenTable" "keys" "[Ljava/lang/Object;") (by decide) (t := (.array .long)) (t' := (.array (.object "java/lang/Object"))) (by decide) (by decide)))
  have Z114 : n0 ≤ h103.size := by have q := Z101; rw [W103.size]; exact q
  have N103 := Fr.snoc X103 N75 ga
  refine r_aloadN X103.here hx (hb hby d1_38) rfl rfl (pc' := 39) rfl ?_
  refine r_bipush X103.here hx (hb hby d1_39) (v := 16) rfl (pc' := 41) rfl ?_
  refine r_newarray X103 hx hZ (aty := .int) (hw _ (List.mem_of_getElem? (i := 13) rfl)) e103 (cap := 16) (by decide) (by decide) (by decide) (by decide) (by decide) (hb hby d1_41) (pc' := 43) rfl (fun T115 h115 b115 k115 g115 X115 e115 E115 A115 => ?_)
  have fr116 : h0.size ≤ b115 := by rw [g115]; exact K105.1
  have ne117 : b115 ≠ a := by have q := f106.lt; rw [← g115] at q; exact Nat.ne_of_gt q
  have ge118 : n0 ≤ b115 := by rw [g115]; exact Z114
  have K119 := K105.ext E115
  have f120 := f106.ext E115
  have f121 := f107.ext E115
  have f122 := f108.ext E115
  have f123 := f109.ext E115
  have f124 := f110.ext E115
  have f125 := f111.ext E115
  have f126 := f112.ext E115
  have f127 := f113.ext E115
  have f128 := f104.ext E115
  have Z129 : n0 ≤ h115.size := by have q := Z114; exact Nat.le_trans q E115.1
  have f130 : Ary Z h115 b115 .int 16 (fun _ => .int 0) := Ary.new A115 rfl
  refine r_putF X115 hx hZ hown (hw _ (List.mem_of_getElem? (i := 23) rfl)) Via.refl e115 f121 f120 (Or.inl (hw _ (List.mem_of_getElem? (i := 24) rfl))) (hw _ (List.mem_of_getElem? (i := 1) rfl)) (ty := (.array .int)) (by decide) rfl rfl (hb hby d1_43) (pc' := 46) rfl (fun T131 h131 X131 e131 W131 => ?_)
  have f132 := f121.same W131
  have K133 := K119.wr W131 (Or.inl (List.mem_of_getElem? (i := 0) rfl))
  have f134 := f120.wr W131
  have f135 := f122.other W131 (Or.inr (slot_ne (Or.inl (hw _ (List.mem_of_getElem? (i := 26) rfl)) : Laid Z a0 "com/example/ajif/ajif/TokenTable" "com/example/ajif/ajif/TokenTable" "followingBefore" "[I") (Or.inl (hw _ (List.mem_of_getElem? (i := 24) rfl)) : Laid Z a0 "com/example/ajif/ajif/TokenTable" "com/example/ajif/ajif/TokenTable" "following" "[I") (by decide) (t := (.array .int)) (t' := (.array .int)) (by decide) (by decide)))
  have f136 := f123.other W131 (Or.inr (slot_ne (Or.inl (hw _ (List.mem_of_getElem? (i := 28) rfl)) : Laid Z a0 "com/example/ajif/ajif/TokenTable" "com/example/ajif/ajif/TokenTable" "index" "[I") (Or.inl (hw _ (List.mem_of_getElem? (i := 24) rfl)) : Laid Z a0 "com/example/ajif/ajif/TokenTable" "com/example/ajif/ajif/TokenTable" "following" "[I") (by decide) (t := (.array .int)) (t' := (.array .int)) (by decide) (by decide)))
  have f137 := f124.other W131 (Or.inr (slot_ne (Or.inl (hw _ (List.mem_of_getElem? (i := 30) rfl)) : Laid Z a0 "com/example/ajif/ajif/TokenTable" "com/example/ajif/ajif/TokenTable" "indexGrows" "Z") (Or.inl (hw _ (List.mem_of_getElem? (i := 24) rfl)) : Laid Z a0 "com/example/ajif/ajif/TokenTable" "com/example/ajif/ajif/TokenTable" "following" "[I") (by decide) (t := .boolean) (t' := (.array .int)) (by decide) (by decide)))
  have f138 := f125.other W131 (Or.inr (slot_ne (Or.inl (hw _ (List.mem_of_getElem? (i := 12) rfl)) : Laid Z a0 "com/example/ajif/ajif/TokenTable" "com/example/ajif/ajif/TokenTable" "strings" "[Ljava/lang/String;") (Or.inl (hw _ (List.mem_of_getElem? (i := 24) rfl)) : Laid Z a0 "com/example/ajif/ajif/TokenTable" "com/example/ajif/ajif/TokenTable" "following" "[I") (by decide) (t := (.array (.object "java/lang/String"))) (t' := (.array .int)) (by decide) (by decide)))
  have f139 := f126.other W131 (Or.inr (slot_ne (Or.inl (hw _ (List.mem_of_getElem? (i := 15) rfl)) : Laid Z a0 "com/example/ajif/ajif/TokenTable" "com/example/ajif/ajif/TokenTable" "lengths" "[I") (Or.inl (hw _ (List.mem_of_getElem? (i := 24) rfl)) : Laid Z a0 "com/example/ajif/ajif/TokenTable" "com/example/ajif/ajif/TokenTable" "following" "[I") (by decide) (t := (.array .int)) (t' := (.array .int)) (by decide) (by decide)))
  have f140 := f127.other W131 (Or.inr (slot_ne (Or.inl (hw _ (List.mem_of_getElem? (i := 18) rfl)) : Laid Z a0 "com/example/ajif/ajif/TokenTable" "com/example/ajif/ajif/TokenTable" "hashes" "[J") (Or.inl (hw _ (List.mem_of_getElem? (i := 24) rfl)) : Laid Z a0 "com/example/ajif/ajif/TokenTable" "com/example/ajif/ajif/TokenTable" "following" "[I") (by decide) (t := (.array .long)) (t' := (.array .int)) (by decide) (by decide)))
  have f141 := f128.other W131 (Or.inr (slot_ne (Or.inl (hw _ (List.mem_of_getElem? (i := 22) rfl)) : Laid Z a0 "com/example/ajif/ajif/TokenTable" "com/example/ajif/ajif/TokenTable" "keys" "[Ljava/lang/Object;") (Or.inl (hw _ (List.mem_of_getElem? (i := 24) rfl)) : Laid Z a0 "com/example/ajif/ajif/TokenTable" "com/example/ajif/ajif/TokenTable" "following" "[I") (by decide) (t := (.array (.object "java/lang/Object"))) (t' := (.array .int)) (by decide) (by decide)))
  have f142 := f130.other W131 ne117
  have Z143 : n0 ≤ h131.size := by have q := Z129; rw [W131.size]; exact q
  have N131 := Fr.snoc X131 N103 ga
  refine r_aloadN X131.here hx (hb hby d1_46) rfl rfl (pc' := 47) rfl ?_
  refine r_bipush X131.here hx (hb hby d1_47) (v := 16) rfl (pc' := 49) rfl ?_
  refine r_newarray X131 hx hZ (aty := .int) (hw _ (List.mem_of_getElem? (i := 13) rfl)) e131 (cap := 16) (by decide) (by decide) (by decide) (by decide) (by decide) (hb hby d1_49) (pc' := 51) rfl (fun T144 h144 b144 k144 g144 X144 e144 E144 A144 => ?_)
  have fr145 : h0.size ≤ b144 := by rw [g144]; exact K133.1
  have ne146 : b144 ≠ a := by have q := f134.lt; rw [← g144] at q; exact Nat.ne_of_gt q
  have ne147 : b144 ≠ b115 := by have q := f142.lt; rw [← g144] at q; exact Nat.ne_of_gt q
  have ge148 : n0 ≤ b144 := by rw [g144]; exact Z143
  have K149 := K133.ext E144
  have f150 := f134.ext E144
  have f151 := f135.ext E144
  have f152 := f136.ext E144
  have f153 := f137.ext E144
  have f154 := f138.ext E144
  have f155 := f139.ext E144
  have f156 := f140.ext E144
  have f157 := f141.ext E144
  have f158 := f142.ext E144
  have f159 := f132.ext E144
  have Z160 : n0 ≤ h144.size := by have q := Z143; exact Nat.le_trans q E144.1
  have f161 : Ary Z h144 b144 .int 16 (fun _ => .int 0) := Ary.new A144 rfl
  refine r_putF X144 hx hZ hown (hw _ (List.mem_of_getElem? (i := 25) rfl)) Via.refl e144 f151 f150 (Or.inl (hw _ (List.mem_of_getElem? (i := 26) rfl))) (hw _ (List.mem_of_getElem? (i := 1) rfl)) (ty := (.array .int)) (by decide) rfl rfl (hb hby d1_51) (pc' := 54) rfl (fun T162 h162 X162 e162 W162 => ?_)
  have f163 := f151.same W162
  have K164 := K149.wr W162 (Or.inl (List.mem_of_getElem? (i := 0) rfl))
  have f165 := f150.wr W162
  have f166 := f152.other W162 (Or.inr (slot_ne (Or.inl (hw _ (List.mem_of_getElem? (i := 28) rfl)) : Laid Z a0 "com/example/ajif/ajif/TokenTable" "com/example/ajif/ajif/TokenTable" "index" "[I") (Or.inl (hw _ (List.mem_of_getElem? (i := 26) rfl)) : Laid Z a0 "com/example/ajif/ajif/TokenTable" "com/example/ajif/ajif/TokenTable" "followingBefore" "[I") (by decide) (t := (.array .int)) (t' := (.array .int)) (by decide) (by decide)))
  have f167 := f153.other W162 (Or.inr (slot_ne (Or.inl (hw _ (List.mem_of_getElem? (i := 30) rfl)) : Laid Z a0 "com/example/ajif/ajif/TokenTable" "com/example/ajif/ajif/TokenTable" "indexGrows" "Z") (Or.inl (hw _ (List.mem_of_getElem? (i := 26) rfl)) : Laid Z a0 "com/example/ajif/ajif/TokenTable" "com/example/ajif/ajif/TokenTable" "followingBefore" "[I") (by decide) (t := .boolean) (t' := (.array .int)) (by decide) (by decide)))
  have f168 := f154.other W162 (Or.inr (slot_ne (Or.inl (hw _ (List.mem_of_getElem? (i := 12) rfl)) : Laid Z a0 "com/example/ajif/ajif/TokenTable" "com/example/ajif/ajif/TokenTable" "strings" "[Ljava/lang/String;") (Or.inl (hw _ (List.mem_of_getElem? (i := 26) rfl)) : Laid Z a0 "com/example/ajif/ajif/TokenTable" "com/example/ajif/ajif/TokenTable" "followingBefore" "[I") (by decide) (t := (.array (.object "java/lang/String"))) (t' := (.array .int)) (by decide) (by decide)))
  have f169 := f155.other W162 (Or.inr (slot_ne (Or.inl (hw _ (List.mem_of_getElem? (i := 15) rfl)) : Laid Z a0 "com/example/ajif/ajif/TokenTable" "com/example/ajif/ajif/TokenTable" "lengths" "[I") (Or.inl (hw _ (List.mem_of_getElem? (i := 26) rfl)) : Laid Z a0 "com/example/ajif/ajif/TokenTable" "com/example/ajif/ajif/TokenTable" "followingBefore" "[I") (by decide) (t := (.array .int)) (t' := (.array .int)) (by decide) (by decide)))
  have f170 := f156.other W162 (Or.inr (slot_ne (Or.inl (hw _ (List.mem_of_getElem? (i := 18) rfl)) : Laid Z a0 "com/example/ajif/ajif/TokenTable" "com/example/ajif/ajif/TokenTable" "hashes" "[J") (Or.inl (hw _ (List.mem_of_getElem? (i := 26) rfl)) : Laid Z a0 "com/example/ajif/ajif/TokenTable" "com/example/ajif/ajif/TokenTable" "followingBefore" "[I") (by decide) (t := (.array .long)) (t' := (.array .int)) (by decide) (by decide)))
  have f171 := f157.other W162 (Or.inr (slot_ne (Or.inl (hw _ (List.mem_of_getElem? (i := 22) rfl)) : Laid Z a0 "com/example/ajif/ajif/TokenTable" "com/example/ajif/ajif/TokenTable" "keys" "[Ljava/lang/Object;") (Or.inl (hw _ (List.mem_of_getElem? (i := 26) rfl)) : Laid Z a0 "com/example/ajif/ajif/TokenTable" "com/example/ajif/ajif/TokenTable" "followingBefore" "[I") (by decide) (t := (.array (.object "java/lang/Object"))) (t' := (.array .int)) (by decide) (by decide)))
  have f172 := f158.other W162 ne117
  have f173 := f159.other W162 (Or.inr (slot_ne (Or.inl (hw _ (List.mem_of_getElem? (i := 24) rfl)) : Laid Z a0 "com/example/ajif/ajif/TokenTable" "com/example/ajif/ajif/TokenTable" "following" "[I") (Or.inl (hw _ (List.mem_of_getElem? (i := 26) rfl)) : Laid Z a0 "com/example/ajif/ajif/TokenTable" "com/example/ajif/ajif/TokenTable" "followingBefore" "[I") (by decide) (t := (.array .int)) (t' := (.array .int)) (by decide) (by decide)))
  have f174 := f161.other W162 ne146
  have Z175 : n0 ≤ h162.size := by have q := Z160; rw [W162.size]; exact q
  have N162 := Fr.snoc X162 N131 ga
  refine r_aloadN X162.here hx (hb hby d1_54) rfl rfl (pc' := 55) rfl ?_
  refine r_bipush X162.here hx (hb hby d1_55) (v := 32) rfl (pc' := 57) rfl ?_
  refine r_newarray X162 hx hZ (aty := .int) (hw _ (List.mem_of_getElem? (i := 13) rfl)) e162 (cap := 32) (by decide) (by decide) (by decide) (by decide) (by decide) (hb hby d1_57) (pc' := 59) rfl (fun T176 h176 b176 k176 g176 X176 e176 E176 A176 => ?_)
  have fr177 : h0.size ≤ b176 := by rw [g176]; exact K164.1
  have ne178 : b176 ≠ a := by have q := f165.lt; rw [← g176] at q; exact Nat.ne_of_gt q
  have ne179 : b176 ≠ b115 := by have q := f172.lt; rw [← g176] at q; exact Nat.ne_of_gt q
  have ne180 : b176 ≠ b144 := by have q := f174.lt; rw [← g176] at q; exact Nat.ne_of_gt q
  have ge181 : n0 ≤ b176 := by rw [g176]; exact Z175
  have K182 := K164.ext E176
  have f183 := f165.ext E176
  have f184 := f166.ext E176
  have f185 := f167.ext E176
  have f186 := f168.ext E176
  have f187 := f169.ext E176
  have f188 := f170.ext E176
  have f189 := f171.ext E176
  have f190 := f172.ext E176
  have f191 := f173.ext E176
  have f192 := f174.ext E176
  have f193 := f163.ext E176
  have Z194 : n0 ≤ h176.size := by have q := Z175; exact Nat.le_trans q E176.1
  have f195 : Ary Z h176 b176 .int 32 (fun _ => .int 0) := Ary.new A176 rfl
  refine r_putF X176 hx hZ hown (hw _ (List.mem_of_getElem? (i := 27) rfl)) Via.refl e176 f184 f183 (Or.inl (hw _ (List.mem_of_getElem? (i := 28) rfl))) (hw _ (List.mem_of_getElem? (i := 1) rfl)) (ty := (.array .int)) (by decide) rfl rfl (hb hby d1_59) (pc' := 62) rfl (fun T196 h196 X196 e196 W196 => ?_)
  have f197 := f184.same W196
  have K198 := K182.wr W196 (Or.inl (List.mem_of_getElem? (i := 0) rfl))
  have f199 := f183.wr W196
  have f200 := f185.other W196 (Or.inr (slot_ne (Or.inl (hw _ (List.mem_of_getElem? (i := 30) rfl)) : Laid Z a0 "com/example/ajif/ajif/TokenTable" "com/example/ajif/ajif/TokenTable" "indexGrows" "Z") (Or.inl (hw _ (List.mem_of_getElem? (i := 28) rfl)) : Laid Z a0 "com/example/ajif/ajif/TokenTable" "com/example/ajif/ajif/TokenTable" "index" "[I") (by decide) (t := .boolean) (t' := (.array .int)) (by decide) (by decide)))
  have f201 := f186.other W196 (Or.inr (slot_ne (Or.inl (hw _ (List.mem_of_getElem? (i := 12) rfl)) : Laid Z a0 "com/example/ajif/ajif/TokenTable" "com/example/ajif/ajif/TokenTable" "strings" "[Ljava/lang/String;") (Or.inl (hw _ (List.mem_of_getElem? (i := 28) rfl)) : Laid Z a0 "com/example/ajif/ajif/TokenTable" "com/example/ajif/ajif/TokenTable" "index" "[I") (by decide) (t := (.array (.object "java/lang/String"))) (t' := (.array .int)) (by decide) (by decide)))
  have f202 := f187.other W196 (Or.inr (slot_ne (Or.inl (hw _ (List.mem_of_getElem? (i := 15) rfl)) : Laid Z a0 "com/example/ajif/ajif/TokenTable" "com/example/ajif/ajif/TokenTable" "lengths" "[I") (Or.inl (hw _ (List.mem_of_getElem? (i := 28) rfl)) : Laid Z a0 "com/example/ajif/ajif/TokenTable" "com/example/ajif/ajif/TokenTable" "index" "[I") (by decide) (t := (.array .int)) (t' := (.array .int)) (by decide) (by decide)))
  have f203 := f188.other W196 (Or.inr (slot_ne (Or.inl (hw _ (List.mem_of_getElem? (i := 18) rfl)) : Laid Z a0 "com/example/ajif/ajif/TokenTable" "com/example/ajif/ajif/TokenTable" "hashes" "[J") (Or.inl (hw _ (List.mem_of_getElem? (i := 28) rfl)) : Laid Z a0 "com/example/ajif/ajif/TokenTable" "com/example/ajif/ajif/TokenTable" "index" "[I") (by decide) (t := (.array .long)) (t' := (.array .int)) (by decide) (by decide)))
  have f204 := f189.other W196 (Or.inr (slot_ne (Or.inl (hw _ (List.mem_of_getElem? (i := 22) rfl)) : Laid Z a0 "com/example/ajif/ajif/TokenTable" "com/example/ajif/ajif/TokenTable" "keys" "[Ljava/lang/Object;") (Or.inl (hw _ (List.mem_of_getElem? (i := 28) rfl)) : Laid Z a0 "com/example/ajif/ajif/TokenTable" "com/example/ajif/ajif/TokenTable" "index" "[I") (by decide) (t := (.array (.object "java/lang/Object"))) (t' := (.array .int)) (by decide) (by decide)))
  have f205 := f190.other W196 ne117
  have f206 := f191.other W196 (Or.inr (slot_ne (Or.inl (hw _ (List.mem_of_getElem? (i := 24) rfl)) : Laid Z a0 "com/example/ajif/ajif/TokenTable" "com/example/ajif/ajif/TokenTable" "following" "[I") (Or.inl (hw _ (List.mem_of_getElem? (i := 28) rfl)) : Laid Z a0 "com/example/ajif/ajif/TokenTable" "com/example/ajif/ajif/TokenTable" "index" "[I") (by decide) (t := (.array .int)) (t' := (.array .int)) (by decide) (by decide)))
  have f207 := f192.other W196 ne146
  have f208 := f193.other W196 (Or.inr (slot_ne (Or.inl (hw _ (List.mem_of_getElem? (i := 26) rfl)) : Laid Z a0 "com/example/ajif/ajif/TokenTable" "com/example/ajif/ajif/TokenTable" "followingBefore" "[I") (Or.inl (hw _ (List.mem_of_getElem? (i := 28) rfl)) : Laid Z a0 "com/example/ajif/ajif/TokenTable" "com/example/ajif/ajif/TokenTable" "index" "[I") (by decide) (t := (.array .int)) (t' := (.array .int)) (by decide) (by decide)))
  have Z209 : n0 ≤ h196.size := by have q := Z194; rw [W196.size]; exact q
  have N196 := Fr.snoc X196 N162 ga
  refine r_aloadN X196.here hx (hb hby d1_62) rfl rfl (pc' := 63) rfl ?_
  refine r_iconst X196.here hx (hb hby d1_63) (v := 1) rfl (pc' := 64) rfl ?_
  refine r_putFN X196 hx hZ hown (hw _ (List.mem_of_getElem? (i := 29) rfl)) Via.refl e196 f200 f199 (Or.inl (hw _ (List.mem_of_getElem? (i := 30) rfl))) (hw _ (List.mem_of_getElem? (i := 1) rfl)) (ty := .boolean) (v' := (.int (1 : Int32))) (by decide) rfl rfl (hb hby d1_64) (pc' := 67) rfl (fun T210 h210 X210 e210 W210 => ?_)
  have f211 := f200.same W210
  have K212 := K198.wr W210 (Or.inl (List.mem_of_getElem? (i := 0) rfl))
  have f213 := f199.wr W210
  have f214 := f201.other W210 (Or.inr (slot_ne (Or.inl (hw _ (List.mem_of_getElem? (i := 12) rfl)) : Laid Z a0 "com/example/ajif/ajif/TokenTable" "com/example/ajif/ajif/TokenTable" "strings" "[Ljava/lang/String;") (Or.inl (hw _ (List.mem_of_getElem? (i := 30) rfl)) : Laid Z a0 "com/example/ajif/ajif/TokenTable" "com/example/ajif/ajif/TokenTable" "indexGrows" "Z") (by decide) (t := (.array (.object "java/lang/String"))) (t' := .boolean) (by decide) (by decide)))
  have f215 := f202.other W210 (Or.inr (slot_ne (Or.inl (hw _ (List.mem_of_getElem? (i := 15) rfl)) : Laid Z a0 "com/example/ajif/ajif/TokenTable" "com/example/ajif/ajif/TokenTable" "lengths" "[I") (Or.inl (hw _ (List.mem_of_getElem? (i := 30) rfl)) : Laid Z a0 "com/example/ajif/ajif/TokenTable" "com/example/ajif/ajif/TokenTable" "indexGrows" "Z") (by decide) (t := (.array .int)) (t' := .boolean) (by decide) (by decide)))
  have f216 := f203.other W210 (Or.inr (slot_ne (Or.inl (hw _ (List.mem_of_getElem? (i := 18) rfl)) : Laid Z a0 "com/example/ajif/ajif/TokenTable" "com/example/ajif/ajif/TokenTable" "hashes" "[J") (Or.inl (hw _ (List.mem_of_getElem? (i := 30) rfl)) : Laid Z a0 "com/example/ajif/ajif/TokenTable" "com/example/ajif/ajif/TokenTable" "indexGrows" "Z") (by decide) (t := (.array .long)) (t' := .boolean) (by decide) (by decide)))
  have f217 := f204.other W210 (Or.inr (slot_ne (Or.inl (hw _ (List.mem_of_getElem? (i := 22) rfl)) : Laid Z a0 "com/example/ajif/ajif/TokenTable" "com/example/ajif/ajif/TokenTable" "keys" "[Ljava/lang/Object;") (Or.inl (hw _ (List.mem_of_getElem? (i := 30) rfl)) : Laid Z a0 "com/example/ajif/ajif/TokenTable" "com/example/ajif/ajif/TokenTable" "indexGrows" "Z") (by decide) (t := (.array (.object "java/lang/Object"))) (t' := .boolean) (by decide) (by decide)))
  have f218 := f205.other W210 ne117
  have f219 := f206.other W210 (Or.inr (slot_ne (Or.inl (hw _ (List.mem_of_getElem? (i := 24) rfl)) : Laid Z a0 "com/example/ajif/ajif/TokenTable" "com/example/ajif/ajif/TokenTable" "following" "[I") (Or.inl (hw _ (List.mem_of_getElem? (i := 30) rfl)) : Laid Z a0 "com/example/ajif/ajif/TokenTable" "com/example/ajif/ajif/TokenTable" "indexGrows" "Z") (by decide) (t := (.array .int)) (t' := .boolean) (by decide) (by decide)))
  have f220 := f207.other W210 ne146
  have f221 := f208.other W210 (Or.inr (slot_ne (Or.inl (hw _ (List.mem_of_getElem? (i := 26) rfl)) : Laid Z a0 "com/example/ajif/ajif/TokenTable" "com/example/ajif/ajif/TokenTable" "followingBefore" "[I") (Or.inl (hw _ (List.mem_of_getElem? (i := 30) rfl)) : Laid Z a0 "com/example/ajif/ajif/TokenTable" "com/example/ajif/ajif/TokenTable" "indexGrows" "Z") (by decide) (t := (.array .int)) (t' := .boolean) (by decide) (by decide)))
  have f222 := f197.other W210 (Or.inr (slot_ne (Or.inl (hw _ (List.mem_of_getElem? (i := 28) rfl)) : Laid Z a0 "com/example/ajif/ajif/TokenTable" "com/example/ajif/ajif/TokenTable" "index" "[I") (Or.inl (hw _ (List.mem_of_getElem? (i := 30) rfl)) : Laid Z a0 "com/example/ajif/ajif/TokenTable" "com/example/ajif/ajif/TokenTable" "indexGrows" "Z") (by decide) (t := (.array .int)) (t' := .boolean) (by decide) (by decide)))
  have Z223 : n0 ≤ h210.size := by have q := Z209; rw [W210.size]; exact q
  have N210 := Fr.snoc X210 N196 ga
  refine r_ret0 X210 hx hlk hret (hb hby d1_67) ?_ (by decide) (by decide)
  try rw [e210]
  exact ⟨rfl, N210, K212, b115, b144, f219, f221, f218, f220, ge118, ge148, ne117, ne146, ne147⟩
theorem d4_0 : decode prog_37_method_10_code 0 = .ok (.aload_n 0, 1) := by decide +kernel
theorem d4_1 : decode prog_37_method_10_code 1 = .ok (.getfield 27, 3) := by decide +kernel
theorem d4_4 : decode prog_37_method_10_code 4 = .ok (.iload_n 1, 1) := by decide +kernel
theorem d4_5 : decode prog_37_method_10_code 5 = .ok (.iaload, 1) := by decide +kernel
theorem d4_6 : decode prog_37_method_10_code 6 = .ok (.ireturn, 1) := by decide +kernel
theorem ef_rm_following (m : MethodId) (x0 : Addr) (x1 : Int32) : entryFrame m #[(.ref x0), (.int x1)] 2 = mkF m 0 #[.val (.ref x0), .val (.int x1)] [] := by first | (simp [entryFrame, mkF, argsToLocals, Value.category, maxLocals]; done) | rfl
set_option maxRecDepth 65536 in
set_option maxHeartbeats 40000000 in
theorem rm_following (l : Launch) (Z : State) (a0 : Array Value) (hw : ∀ d ∈ tables_1, d.before a0 Z = true) (ws : List Jvm.Cond) (a f : Addr) (b : Int32) (F : Nat → Int32) (h0 : Heap) (n0 : Nat) (Z0 : n0 ≤ h0.size) (Fa : Fld Z h0 a "com/example/ajif/ajif/TokenTable" "following" "[I" (.ref f)) (Aa : Ary Z h0 f .int 16 (fun i => .int (F i))) (b0 : 0 ≤ b.toInt) (b1 : b.toInt < 16) :
    Met l Z (⟨"com/example/ajif/ajif/TokenTable", "following", "(I)I"⟩ : MethodName) prog_37_method_10_code 2 (some .int) ws ({ frames := 0, cells := 0, slots := 0, locals := 0 } : Room) #[(.ref a), (.int b)] h0 (fun v h L => v = some (.int (F b.toInt.toNat)) ∧ Fr n0 L ∧ h = h0) 0 0 := by
  refine met_of (plainFor_of_name pn_0) (f0 := fun m => (mkF m 0 #[.val (.ref a), .val (.int b)] [])) (fun m => ef_rm_following m a b) ?_
  intro p e s m below meth c s₁ X0 hx hby hml hret hlk hown hnm hZ e0
  replace hown : s.vm.findClass "com/example/ajif/ajif/TokenTable" = some m.cls := hown
  have N0 := Fr.nil n0
  refine r_aloadN X0.here hx (hb hby d4_0) rfl rfl (pc' := 1) rfl ?_
  refine r_getF X0 hx hZ hown (hw _ (List.mem_of_getElem? (i := 23) rfl)) Via.refl e0 Fa (hb hby d4_1) (pc' := 4) rfl (fun T224 X224 e224 => ?_)
  refine r_iloadN X224.here hx (hb hby d4_4) rfl (pc' := 5) rfl ?_
  refine q_iaload X224 hx hZ e224 (j := b) (v := (F b.toInt.toNat)) Aa b0 b1 rfl (hb hby d4_5) (pc' := 6) rfl ?_
  refine r_retI X224 hx hlk hret (hb hby d4_6) ?_ (by decide) (by decide)
  try rw [e224]
  exact ⟨rfl, N0, rfl⟩
theorem d5_0 : decode prog_37_method_11_code 0 = .ok (.aload_n 0, 1) := by decide +kernel
theorem d5_1 : decode prog_37_method_11_code 1 = .ok (.getfield 30, 3) := by decide +kernel
theorem d5_4 : decode prog_37_method_11_code 4 = .ok (.iload_n 1, 1) := by decide +kernel
theorem d5_5 : decode prog_37_method_11_code 5 = .ok (.iaload, 1) := by decide +kernel
theorem d5_6 : decode prog_37_method_11_code 6 = .ok (.ireturn, 1) := by decide +kernel
theorem ef_rm_followingBefore (m : MethodId) (x0 : Addr) (x1 : Int32) : entryFrame m #[(.ref x0), (.int x1)] 2 = mkF m 0 #[.val (.ref x0), .val (.int x1)] [] := by first | (simp [entryFrame, mkF, argsToLocals, Value.category, maxLocals]; done) | rfl
set_option maxRecDepth 65536 in
set_option maxHeartbeats 40000000 in
theorem rm_followingBefore (l : Launch) (Z : State) (a0 : Array Value) (hw : ∀ d ∈ tables_1, d.before a0 Z = true) (ws : List Jvm.Cond) (a g : Addr) (b : Int32) (F : Nat → Int32) (h0 : Heap) (n0 : Nat) (Z0 : n0 ≤ h0.size) (Fa : Fld Z h0 a "com/example/ajif/ajif/TokenTable" "followingBefore" "[I" (.ref g)) (Aa : Ary Z h0 g .int 16 (fun i => .int (F i))) (b0 : 0 ≤ b.toInt) (b1 : b.toInt < 16) :
    Met l Z (⟨"com/example/ajif/ajif/TokenTable", "followingBefore", "(I)I"⟩ : MethodName) prog_37_method_11_code 2 (some .int) ws ({ frames := 0, cells := 0, slots := 0, locals := 0 } : Room) #[(.ref a), (.int b)] h0 (fun v h L => v = some (.int (F b.toInt.toNat)) ∧ Fr n0 L ∧ h = h0) 0 0 := by
  refine met_of (plainFor_of_name pn_0) (f0 := fun m => (mkF m 0 #[.val (.ref a), .val (.int b)] [])) (fun m => ef_rm_followingBefore m a b) ?_
  intro p e s m below meth c s₁ X0 hx hby hml hret hlk hown hnm hZ e0
  replace hown : s.vm.findClass "com/example/ajif/ajif/TokenTable" = some m.cls := hown
  have N0 := Fr.nil n0
  refine r_aloadN X0.here hx (hb hby d5_0) rfl rfl (pc' := 1) rfl ?_
  refine r_getF X0 hx hZ hown (hw _ (List.mem_of_getElem? (i := 25) rfl)) Via.refl e0 Fa (hb hby d5_1) (pc' := 4) rfl (fun T225 X225 e225 => ?_)
  refine r_iloadN X225.here hx (hb hby d5_4) rfl (pc' := 5) rfl ?_
  refine q_iaload X225 hx hZ e225 (j := b) (v := (F b.toInt.toNat)) Aa b0 b1 rfl (hb hby d5_5) (pc' := 6) rfl ?_
  refine r_retI X225 hx hlk hret (hb hby d5_6) ?_ (by decide) (by decide)
  try rw [e225]
  exact ⟨rfl, N0, rfl⟩
theorem d3_0 : decode prog_37_method_12_code 0 = .ok (.aload_n 0, 1) := by decide +kernel
theorem d3_1 : decode prog_37_method_12_code 1 = .ok (.getfield 27, 3) := by decide +kernel
theorem d3_4 : decode prog_37_method_12_code 4 = .ok (.iload_n 2, 1) := by decide +kernel
theorem d3_5 : decode prog_37_method_12_code 5 = .ok (.iaload, 1) := by decide +kernel
theorem d3_6 : decode prog_37_method_12_code 6 = .ok (.iload_n 1, 1) := by decide +kernel
theorem d3_7 : decode prog_37_method_12_code 7 = .ok (.if_icmp .eq 22, 3) := by decide +kernel
theorem d3_29 : decode prog_37_method_12_code 29 = .ok (.return_, 1) := by decide +kernel
theorem d3_10 : decode prog_37_method_12_code 10 = .ok (.aload_n 0, 1) := by decide +kernel
theorem d3_11 : decode prog_37_method_12_code 11 = .ok (.getfield 30, 3) := by decide +kernel
theorem d3_14 : decode prog_37_method_12_code 14 = .ok (.iload_n 2, 1) := by decide +kernel
theorem d3_15 : decode prog_37_method_12_code 15 = .ok (.aload_n 0, 1) := by decide +kernel
theorem d3_16 : decode prog_37_method_12_code 16 = .ok (.getfield 27, 3) := by decide +kernel
theorem d3_19 : decode prog_37_method_12_code 19 = .ok (.iload_n 2, 1) := by decide +kernel
theorem d3_20 : decode prog_37_method_12_code 20 = .ok (.iaload, 1) := by decide +kernel
theorem d3_21 : decode prog_37_method_12_code 21 = .ok (.iastore, 1) := by decide +kernel
theorem d3_22 : decode prog_37_method_12_code 22 = .ok (.aload_n 0, 1) := by decide +kernel
theorem d3_23 : decode prog_37_method_12_code 23 = .ok (.getfield 27, 3) := by decide +kernel
theorem d3_26 : decode prog_37_method_12_code 26 = .ok (.iload_n 2, 1) := by decide +kernel
theorem d3_27 : decode prog_37_method_12_code 27 = .ok (.iload_n 1, 1) := by decide +kernel
theorem d3_28 : decode prog_37_method_12_code 28 = .ok (.iastore, 1) := by decide +kernel
theorem ef_rmW (m : MethodId) (x0 : Addr) (x1 : Int32) (x2 : Int32) : entryFrame m #[(.ref x0), (.int x1), (.int x2)] 3 = mkF m 0 #[.val (.ref x0), .val (.int x1), .val (.int x2)] [] := by first | (simp [entryFrame, mkF, argsToLocals, Value.category, maxLocals]; done) | rfl
set_option maxRecDepth 65536 in
set_option maxHeartbeats 40000000 in
theorem rmW (l : Launch) (Z : State) (a0 : Array Value) (hw : ∀ d ∈ tables_1, d.before a0 Z = true) (ws : List Jvm.Cond) (a f g : Addr) (x b : Int32) (F G : Nat → Int32) (h0 : Heap) (n0 : Nat) (Z0 : n0 ≤ h0.size) (Ff : Fld Z h0 a "com/example/ajif/ajif/TokenTable" "following" "[I" (.ref f)) (Fg : Fld Z h0 a "com/example/ajif/ajif/TokenTable" "followingBefore" "[I" (.ref g)) (Af : Ary Z h0 f .int 16 (fun i => .int (F i))) (Ag : Ary Z h0 g .int 16 (fun i => .int (G i))) (nf : n0 ≤ f) (ng : n0 ≤ g) (fa : f ≠ a) (ga' : g ≠ a) (gf : g ≠ f) (b0 : 0 ≤ b.toInt) (b1 : b.toInt < 16) :
    Met l Z (⟨"com/example/ajif/ajif/TokenTable", "follows", "(II)V"⟩ : MethodName) prog_37_method_12_code 3 none ws ({ frames := 0, cells := 0, slots := 0, locals := 0 } : Room) #[(.ref a), (.int x), (.int b)] h0 (fun v h L => v = none ∧ Fr n0 L ∧ Keep h0 h [f, g] ∧ Ary Z h f .int 16 (fun i => .int (own_upd F b.toInt.toNat x i)) ∧ Ary Z h g .int 16 (fun i => .int (own_updB F G b.toInt.toNat x i))) 0 0 := by
  refine met_of (plainFor_of_name pn_0) (f0 := fun m => (mkF m 0 #[.val (.ref a), .val (.int x), .val (.int b)] [])) (fun m => ef_rmW m a x b) ?_
  intro p e s m below meth c s₁ X0 hx hby hml hret hlk hown hnm hZ e0
  replace hown : s.vm.findClass "com/example/ajif/ajif/TokenTable" = some m.cls := hown
  have N0 := Fr.nil n0
  refine r_aloadN X0.here hx (hb hby d3_0) rfl rfl (pc' := 1) rfl ?_
  refine r_getF X0 hx hZ hown (hw _ (List.mem_of_getElem? (i := 23) rfl)) Via.refl e0 Ff (hb hby d3_1) (pc' := 4) rfl (fun T226 X226 e226 => ?_)
  refine r_iloadN X226.here hx (hb hby d3_4) rfl (pc' := 5) rfl ?_
  refine q_iaload X226 hx hZ e226 (j := b) (v := (F b.toInt.toNat)) Af b0 b1 rfl (hb hby d3_5) (pc' := 6) rfl ?_
  refine r_iloadN X226.here hx (hb hby d3_6) rfl (pc' := 7) rfl ?_
  refine r_if_eq X226.here hx (hb hby d3_7) (by decide) (pc' := 29) (by decide) (pc2 := 10) rfl (fun hc7 => ?_) (fun hc7 => ?_)
  · refine r_ret0 X226 hx hlk hret (hb hby d3_29) ?_ (by decide) (by decide)
    try rw [e226]
    refine ⟨rfl, N0, Keep.refl _ _, Af.congr fun i _ => ?_, Ag.congr fun i _ => ?_⟩
    · by_cases q : i = b.toInt.toNat
      · subst q; rw [own_us, hc7]
      · rw [own_uo q]
    · by_cases q : i = b.toInt.toNat
      · subst q; rw [own_bs, if_pos hc7]
      · rw [own_bo q]
  · refine r_aloadN X226.here hx (hb hby d3_10) rfl rfl (pc' := 11) rfl ?_
    refine r_getF X226 hx hZ hown (hw _ (List.mem_of_getElem? (i := 25) rfl)) Via.refl e226 Fg (hb hby d3_11) (pc' := 14) rfl (fun T227 X227 e227 => ?_)
    refine r_iloadN X227.here hx (hb hby d3_14) rfl (pc' := 15) rfl ?_
    refine r_aloadN X227.here hx (hb hby d3_15) rfl rfl (pc' := 16) rfl ?_
    refine r_getF X227 hx hZ hown (hw _ (List.mem_of_getElem? (i := 23) rfl)) Via.refl e227 Ff (hb hby d3_16) (pc' := 19) rfl (fun T228 X228 e228 => ?_)
    refine r_iloadN X228.here hx (hb hby d3_19) rfl (pc' := 20) rfl ?_
    refine q_iaload X228 hx hZ e228 (j := b) (v := (F b.toInt.toNat)) Af b0 b1 rfl (hb hby d3_20) (pc' := 21) rfl ?_
    refine q_iastore X228 hx hZ e228 (j := b) Ag b0 b1 (hb hby d3_21) (pc' := 22) rfl (fun T229 h229 X229 e229 W229 A229 => ?_)
    have K230 : Keep h0 h0 [f, g] := Keep.refl _ _
    have K231 := K230.wr W229 (Or.inl (List.mem_of_getElem? (i := 1) rfl))
    have f232 := Ff.other W229 (Or.inl (Ne.symm ga'))
    have f233 := Fg.other W229 (Or.inl (Ne.symm ga'))
    have f234 := Af.other W229 (Ne.symm gf)
    have Z235 : n0 ≤ h229.size := by have q := Z0; rw [W229.size]; exact q
    have N229 := Fr.snoc X229 N0 ng
    refine r_aloadN X229.here hx (hb hby d3_22) rfl rfl (pc' := 23) rfl ?_
    refine r_getF X229 hx hZ hown (hw _ (List.mem_of_getElem? (i := 23) rfl)) Via.refl e229 f232 (hb hby d3_23) (pc' := 26) rfl (fun T236 X236 e236 => ?_)
    refine r_iloadN X236.here hx (hb hby d3_26) rfl (pc' := 27) rfl ?_
    refine r_iloadN X236.here hx (hb hby d3_27) rfl (pc' := 28) rfl ?_
    refine q_iastore X236 hx hZ e236 (j := b) f234 b0 b1 (hb hby d3_28) (pc' := 29) rfl (fun T237 h237 X237 e237 W237 A237 => ?_)
    have K238 := K231.wr W237 (Or.inl (List.mem_of_getElem? (i := 0) rfl))
    have f239 := f232.other W237 (Or.inl (Ne.symm fa))
    have f240 := f233.other W237 (Or.inl (Ne.symm fa))
    have f241 := A229.other W237 gf
    have Z242 : n0 ≤ h237.size := by have q := Z235; rw [W237.size]; exact q
    have N237 := Fr.snoc X237 N229 nf
    refine r_ret0 X237 hx hlk hret (hb hby d3_29) ?_ (by decide) (by decide)
    try rw [e237]
    refine ⟨rfl, N237, K238, A237, (f241).congr fun i _ => ?_⟩
    by_cases q : i = b.toInt.toNat
    · subst q; rw [own_bs, if_neg hc7, if_pos rfl]
    · rw [own_bo q, if_neg q]
theorem pd_0 : parseMethodDescriptor "()V" = some ⟨[], none⟩ := by decide +kernel
theorem pd_1 : parseMethodDescriptor "(II)V" = some ⟨[.int, .int], none⟩ := by decide +kernel
theorem pd_2 : parseMethodDescriptor "(I)I" = some ⟨[.int], some .int⟩ := by decide +kernel
theorem pn_1 : plainName "com/example/ajif/ajif/TokenTableFollowsPinLaw" = true := by first | (simp [plainName, overriddenIn]; done) | decide +kernel
theorem ef_rm0 (m : MethodId) (x0 : Int32) (x1 : Int32) (x2 : Int32) (x3 : Int32) (x4 : Int32) (x5 : Int32) : entryFrame m #[(.int x0), (.int x1), (.int x2), (.int x3), (.int x4), (.int x5)] maxLocals = mkF m 0 #[.val (.int x0), .val (.int x1), .val (.int x2), .val (.int x3), .val (.int x4), .val (.int x5), .unset, .unset, .unset, .unset, .unset, .unset, .unset, .unset, .unset, .unset, .unset, .unset] [] := by first | (simp [entryFrame, mkF, argsToLocals, Value.category, maxLocals]; done) | rfl
set_option maxRecDepth 65536 in
set_option maxHeartbeats 40000000 in
theorem rm0 (l : Launch) (Z : State) (a0 : Array Value) (hw : ∀ d ∈ tables_1, d.before a0 Z = true) (ws : List Jvm.Cond) (s1 s2 s3 b cc k : Int32) (h0 : Heap) (n0 : Nat) (Z0 : n0 ≤ h0.size)  :
    Met l Z Jvm.Pilot.@@N@@.x code maxLocals ret ws room_1 #[(.int s1), (.int s2), (.int s3), (.int b), (.int cc), (.int k)] h0 (fun v h L => v = some (.int 1) ∧ Fr n0 L) 24 384 := by
  refine met_of (plainFor_of_name pn_1) (f0 := fun m => (mkF m 0 #[.val (.int s1), .val (.int s2), .val (.int s3), .val (.int b), .val (.int cc), .val (.int k), .unset, .unset, .unset, .unset, .unset, .unset, .unset, .unset, .unset, .unset, .unset, .unset] [])) (fun m => ef_rm0 m s1 s2 s3 b cc k) ?_
  intro p e s m below meth c s₁ X0 hx hby hml hret hlk hown hnm hZ e0
  replace hown : s.vm.findClass "com/example/ajif/ajif/TokenTableFollowsPinLaw" = some m.cls := hown
  have N0 := Fr.nil n0
  have hb1 := own_m15 b
  have J : ∀ (b2 t2 t3 : Int32), (0 ≤ b2.toInt ∧ b2.toInt < 16) → Run p e below (fun v h L => v = some (.int 1) ∧ Fr n0 L) (fun o t L => FrameEnd s o t L 24 384) s₁ (mkF m 66 #[.val (.int s1), .val (.int s2), .val (.int s3), .val (.int b), .val (.int cc), .val (.int k), .val (.int (b &&& (15 : Int32))), .val (.int b2), .val (.int t2), .val (.int t3), .unset, .unset, .unset, .unset, .unset, .unset, .unset, .unset] []) := by
    intro b2 t2 t3 hb2
    refine r_new X0 hx hZ hown (hw _ (List.mem_of_getElem? (i := 0) rfl)) (hw _ (List.mem_of_getElem? (i := 1) rfl)) (hw _ (List.mem_of_getElem? (i := 2) rfl)) e0 (by decide) (by decide) (hb hby at_66) (pc' := 69) rfl (fun T243 h243 b243 g243 X243 e243 E243 A243 D243 => ?_)
    have ge244 : n0 ≤ b243 := by rw [g243]; exact Z0
    have Z245 : n0 ≤ h243.size := by have q := Z0; exact Nat.le_trans q E243.1
    have f246 : Fld Z h243 b243 "com/example/ajif/ajif/TokenTable" "strings" "[Ljava/lang/String;" .null := D243 (Or.inl (hw _ (List.mem_of_getElem? (i := 12) rfl))) (ty := (.array (.object "java/lang/String"))) (by decide)
    have f247 : Fld Z h243 b243 "com/example/ajif/ajif/TokenTable" "lengths" "[I" .null := D243 (Or.inl (hw _ (List.mem_of_getElem? (i := 15) rfl))) (ty := (.array .int)) (by decide)
    have f248 : Fld Z h243 b243 "com/example/ajif/ajif/TokenTable" "hashes" "[J" .null := D243 (Or.inl (hw _ (List.mem_of_getElem? (i := 18) rfl))) (ty := (.array .long)) (by decide)
    have f249 : Fld Z h243 b243 "com/example/ajif/ajif/TokenTable" "keys" "[Ljava/lang/Object;" .null := D243 (Or.inl (hw _ (List.mem_of_getElem? (i := 22) rfl))) (ty := (.array (.object "java/lang/Object"))) (by decide)
    have f250 : Fld Z h243 b243 "com/example/ajif/ajif/TokenTable" "following" "[I" .null := D243 (Or.inl (hw _ (List.mem_of_getElem? (i := 24) rfl))) (ty := (.array .int)) (by decide)
    have f251 : Fld Z h243 b243 "com/example/ajif/ajif/TokenTable" "followingBefore" "[I" .null := D243 (Or.inl (hw _ (List.mem_of_getElem? (i := 26) rfl))) (ty := (.array .int)) (by decide)
    have f252 : Fld Z h243 b243 "com/example/ajif/ajif/TokenTable" "index" "[I" .null := D243 (Or.inl (hw _ (List.mem_of_getElem? (i := 28) rfl))) (ty := (.array .int)) (by decide)
    have f253 : Fld Z h243 b243 "com/example/ajif/ajif/TokenTable" "indexGrows" "Z" (.int (0 : Int32)) := D243 (Or.inl (hw _ (List.mem_of_getElem? (i := 30) rfl))) (ty := .boolean) (by decide)
    refine r_dup X243.here hx (hb hby at_69) rfl (pc' := 70) rfl ?_
    refine r_callI X243 hx hZ (y := (⟨"com/example/ajif/ajif/TokenTable", "<init>", "()V"⟩ : MethodName)) (rm := ({ frames := 1, cells := 7, slots := 128, locals := 12 } : Room)) hown rfl (hw _ (List.mem_of_getElem? (i := 3) rfl)) (hw _ (List.mem_of_getElem? (i := 4) rfl)) (hw _ (List.mem_of_getElem? (i := 2) rfl)) (hw _ (List.mem_of_getElem? (i := 5) rfl)) (by decide) (rmI l Z a0 hw [] b243 h243 n0 Z245 ge244 A243 f246 f247 f248 f249 f250 f251 f252 f253) e243 (by rw [hml]; rfl) (argsL := []) (rest := [(.ref b243)]) (lenOf pd_0 rfl) rfl rfl (W := 1) rfl (by decide) (by decide) (by decide) (by decide) (hb hby at_70) (pc' := 73) rfl ?_
    rintro v254 T254 L254 X254 ⟨rfl, Nq254, K254, f, g, Ff254, Fg254, Af254, Ag254, nf, ng, fa, ga', gf⟩
    have N254 := Fr.app N0 Nq254
    show Run p e below _ _ T254 (mkF m 73 #[.val (.int s1), .val (.int s2), .val (.int s3), .val (.int b), .val (.int cc), .val (.int k), .val (.int (b &&& (15 : Int32))), .val (.int b2), .val (.int t2), .val (.int t3), .unset, .unset, .unset, .unset, .unset, .unset, .unset, .unset] [(.ref b243)])
    have f255 := A243.keep K254
    have Z256 : n0 ≤ T254.heap.size := by have q := Z245; exact Nat.le_trans q K254.1
    refine r_astore X254.here hx (hb hby at_73) rfl (l' := #[.val (.int s1), .val (.int s2), .val (.int s3), .val (.int b), .val (.int cc), .val (.int k), .val (.int (b &&& (15 : Int32))), .val (.int b2), .val (.int t2), .val (.int t3), .val (.ref b243), .unset, .unset, .unset, .unset, .unset, .unset, .unset]) rfl (pc' := 75) rfl ?_
    refine r_aload X254.here hx (hb hby at_75) rfl rfl (pc' := 77) rfl ?_
    refine r_iloadN X254.here hx (hb hby at_77) rfl (pc' := 78) rfl ?_
    refine r_iload X254.here hx (hb hby at_78) rfl (pc' := 80) rfl ?_
    refine r_callV X254 hx hZ (y := (⟨"com/example/ajif/ajif/TokenTable", "follows", "(II)V"⟩ : MethodName)) (z := (⟨"com/example/ajif/ajif/TokenTable", "follows", "(II)V"⟩ : MethodName)) (rm := ({ frames := 0, cells := 0, slots := 0, locals := 0 } : Room)) hown (hw _ (List.mem_of_getElem? (i := 31) rfl)) (hw _ (List.mem_of_getElem? (i := 32) rfl)) (notFace_of_selects (args := #[]) (mvT hZ (hw _ (List.mem_of_getElem? (i := 34) rfl)))) (hw _ (List.mem_of_getElem? (i := 34) rfl)) (hw _ (List.mem_of_getElem? (i := 33) rfl)) (hw _ (List.mem_of_getElem? (i := 2) rfl)) (hw _ (List.mem_of_getElem? (i := 35) rfl)) (by decide) (rmW l Z a0 hw [] b243 f g s1 (b &&& (15 : Int32)) (fun _ => (0 : Int32)) (fun _ => (0 : Int32)) T254.heap n0 Z256 Ff254 Fg254 Af254 Ag254 nf ng fa ga' gf hb1.1 hb1.2) rfl f255 (by rw [hml]; rfl) (argsL := [(.int s1), (.int (b &&& (15 : Int32)))]) (rest := []) (lenOf pd_1 rfl) rfl rfl (W := 0) rfl (by decide) (by decide) (by decide) (by decide) (hb hby at_80) (pc' := 83) rfl ?_
    rintro v257 T257 L257 X257 ⟨rfl, Nq257, K257, Af257, Ag257⟩
    have N257 := Fr.app N254 Nq257
    show Run p e below _ _ T257 (mkF m 83 #[.val (.int s1), .val (.int s2), .val (.int s3), .val (.int b), .val (.int cc), .val (.int k), .val (.int (b &&& (15 : Int32))), .val (.int b2), .val (.int t2), .val (.int t3), .val (.ref b243), .unset, .unset, .unset, .unset, .unset, .unset, .unset] [])
    have f258 := f255.keep K257
    have f259 := Ff254.keep K257 (ninS (Ne.symm fa) (ninS (Ne.symm ga') nin0))
    have f260 := Fg254.keep K257 (ninS (Ne.symm fa) (ninS (Ne.symm ga') nin0))
    have Z261 : n0 ≤ T257.heap.size := by have q := Z256; exact Nat.le_trans q K257.1
    refine r_aload X257.here hx (hb hby at_83) rfl rfl (pc' := 85) rfl ?_
    refine r_iload X257.here hx (hb hby at_85) rfl (pc' := 87) rfl ?_
    refine r_callV X257 hx hZ (y := (⟨"com/example/ajif/ajif/TokenTable", "following", "(I)I"⟩ : MethodName)) (z := (⟨"com/example/ajif/ajif/TokenTable", "following", "(I)I"⟩ : MethodName)) (rm := ({ frames := 0, cells := 0, slots := 0, locals := 0 } : Room)) hown (hw _ (List.mem_of_getElem? (i := 36) rfl)) (hw _ (List.mem_of_getElem? (i := 37) rfl)) (notFace_of_selects (args := #[]) (mvT hZ (hw _ (List.mem_of_getElem? (i := 39) rfl)))) (hw _ (List.mem_of_getElem? (i := 39) rfl)) (hw _ (List.mem_of_getElem? (i := 38) rfl)) (hw _ (List.mem_of_getElem? (i := 2) rfl)) (hw _ (List.mem_of_getElem? (i := 40) rfl)) (by decide) (rm_following l Z a0 hw [] b243 f (b &&& (15 : Int32)) (own_upd (fun _ => (0 : Int32)) (b &&& (15 : Int32)).toInt.toNat s1) T257.heap n0 Z261 f259 Af257 hb1.1 hb1.2) rfl f258 (by rw [hml]; rfl) (argsL := [(.int (b &&& (15 : Int32)))]) (rest := []) (lenOf pd_2 rfl) rfl rfl (W := 0) rfl (by decide) (by decide) (by decide) (by decide) (hb hby at_87) (pc' := 90) rfl ?_
    rintro v262 T262 L262 X262 ⟨rfl, Nq262, e262⟩
    have N262 := Fr.app N257 Nq262
    show Run p e below _ _ T262 (mkF m 90 #[.val (.int s1), .val (.int s2), .val (.int s3), .val (.int b), .val (.int cc), .val (.int k), .val (.int (b &&& (15 : Int32))), .val (.int b2), .val (.int t2), .val (.int t3), .val (.ref b243), .unset, .unset, .unset, .unset, .unset, .unset, .unset] [(.int ((own_upd (fun _ => (0 : Int32)) (b &&& (15 : Int32)).toInt.toNat s1) (b &&& (15 : Int32)).toInt.toNat))])
    refine r_iloadN X262.here hx (hb hby at_90) rfl (pc' := 91) rfl ?_
    refine r_if_ne X262.here hx (hb hby at_91) (by decide) (pc' := 108) (by decide) (pc2 := 94) rfl (fun hc91 => absurd (own_us _ _ _) hc91) (fun hc91 => ?_)
    refine r_aload X262.here hx (hb hby at_94) rfl rfl (pc' := 96) rfl ?_
    refine r_iload X262.here hx (hb hby at_96) rfl (pc' := 98) rfl ?_
    refine r_callV X262 hx hZ (y := (⟨"com/example/ajif/ajif/TokenTable", "followingBefore", "(I)I"⟩ : MethodName)) (z := (⟨"com/example/ajif/ajif/TokenTable", "followingBefore", "(I)I"⟩ : MethodName)) (rm := ({ frames := 0, cells := 0, slots := 0, locals := 0 } : Room)) hown (hw _ (List.mem_of_getElem? (i := 41) rfl)) (hw _ (List.mem_of_getElem? (i := 42) rfl)) (notFace_of_selects (args := #[]) (mvT hZ (hw _ (List.mem_of_getElem? (i := 44) rfl)))) (hw _ (List.mem_of_getElem? (i := 44) rfl)) (hw _ (List.mem_of_getElem? (i := 43) rfl)) (hw _ (List.mem_of_getElem? (i := 2) rfl)) (hw _ (List.mem_of_getElem? (i := 45) rfl)) (by decide) (rm_followingBefore l Z a0 hw [] b243 g (b &&& (15 : Int32)) (own_updB (fun _ => (0 : Int32)) (fun _ => (0 : Int32)) (b &&& (15 : Int32)).toInt.toNat s1) T257.heap n0 Z261 f260 Ag257 hb1.1 hb1.2) e262 f258 (by rw [hml]; rfl) (argsL := [(.int (b &&& (15 : Int32)))]) (rest := []) (lenOf pd_2 rfl) rfl rfl (W := 0) rfl (by decide) (by decide) (by decide) (by decide) (hb hby at_98) (pc' := 101) rfl ?_
    rintro v263 T263 L263 X263 ⟨rfl, Nq263, e263⟩
    have N263 := Fr.app N262 Nq263
    show Run p e below _ _ T263 (mkF m 101 #[.val (.int s1), .val (.int s2), .val (.int s3), .val (.int b), .val (.int cc), .val (.int k), .val (.int (b &&& (15 : Int32))), .val (.int b2), .val (.int t2), .val (.int t3), .val (.ref b243), .unset, .unset, .unset, .unset, .unset, .unset, .unset] [(.int ((own_updB (fun _ => (0 : Int32)) (fun _ => (0 : Int32)) (b &&& (15 : Int32)).toInt.toNat s1) (b &&& (15 : Int32)).toInt.toNat))])
    refine r_if0_ne X263.here hx (hb hby at_101) (by decide) (pc' := 108) (by decide) (pc2 := 104) rfl (fun hc101 => absurd (by rw [own_bs]; split <;> rfl) hc101) (fun hc101 => ?_)
    refine r_iconst X263.here hx (hb hby at_104) (v := 1) rfl (pc' := 105) rfl ?_
    refine r_goto X263.here hx (hb hby at_105) (by decide) (pc' := 109) (by decide) ?_
    refine r_istore X263.here hx (hb hby at_109) (l' := #[.val (.int s1), .val (.int s2), .val (.int s3), .val (.int b), .val (.int cc), .val (.int k), .val (.int (b &&& (15 : Int32))), .val (.int b2), .val (.int t2), .val (.int t3), .val (.ref b243), .val (.int (1 : Int32)), .unset, .unset, .unset, .unset, .unset, .unset]) rfl (pc' := 111) rfl ?_
    refine r_aload X263.here hx (hb hby at_111) rfl rfl (pc' := 113) rfl ?_
    refine r_iload X263.here hx (hb hby at_113) rfl (pc' := 115) rfl ?_
    refine r_iload X263.here hx (hb hby at_115) rfl (pc' := 117) rfl ?_
    refine r_callV X263 hx hZ (y := (⟨"com/example/ajif/ajif/TokenTable", "follows", "(II)V"⟩ : MethodName)) (z := (⟨"com/example/ajif/ajif/TokenTable", "follows", "(II)V"⟩ : MethodName)) (rm := ({ frames := 0, cells := 0, slots := 0, locals := 0 } : Room)) hown (hw _ (List.mem_of_getElem? (i := 31) rfl)) (hw _ (List.mem_of_getElem? (i := 32) rfl)) (notFace_of_selects (args := #[]) (mvT hZ (hw _ (List.mem_of_getElem? (i := 34) rfl)))) (hw _ (List.mem_of_getElem? (i := 34) rfl)) (hw _ (List.mem_of_getElem? (i := 33) rfl)) (hw _ (List.mem_of_getElem? (i := 2) rfl)) (hw _ (List.mem_of_getElem? (i := 35) rfl)) (by decide) (rmW l Z a0 hw [] b243 f g t2 (b &&& (15 : Int32)) (own_upd (fun _ => (0 : Int32)) (b &&& (15 : Int32)).toInt.toNat s1) (own_updB (fun _ => (0 : Int32)) (fun _ => (0 : Int32)) (b &&& (15 : Int32)).toInt.toNat s1) T257.heap n0 Z261 f259 f260 Af257 Ag257 nf ng fa ga' gf hb1.1 hb1.2) e263 f258 (by rw [hml]; rfl) (argsL := [(.int t2), (.int (b &&& (15 : Int32)))]) (rest := []) (lenOf pd_1 rfl) rfl rfl (W := 0) rfl (by decide) (by decide) (by decide) (by decide) (hb hby at_117) (pc' := 120) rfl ?_
    rintro v264 T264 L264 X264 ⟨rfl, Nq264, K264, Af264, Ag264⟩
    have N264 := Fr.app N263 Nq264
    show Run p e below _ _ T264 (mkF m 120 #[.val (.int s1), .val (.int s2), .val (.int s3), .val (.int b), .val (.int cc), .val (.int k), .val (.int (b &&& (15 : Int32))), .val (.int b2), .val (.int t2), .val (.int t3), .val (.ref b243), .val (.int (1 : Int32)), .unset, .unset, .unset, .unset, .unset, .unset] [])
    have f265 := f258.keep K264
    have f266 := f259.keep K264 (ninS (Ne.symm fa) (ninS (Ne.symm ga') nin0))
    have f267 := f260.keep K264 (ninS (Ne.symm fa) (ninS (Ne.symm ga') nin0))
    have Z268 : n0 ≤ T264.heap.size := by have q := Z261; exact Nat.le_trans q K264.1
    refine r_iload X264.here hx (hb hby at_120) rfl (pc' := 122) rfl ?_
    refine r_istore X264.here hx (hb hby at_122) (l' := #[.val (.int s1), .val (.int s2), .val (.int s3), .val (.int b), .val (.int cc), .val (.int k), .val (.int (b &&& (15 : Int32))), .val (.int b2), .val (.int t2), .val (.int t3), .val (.ref b243), .val (.int (1 : Int32)), .val (.int t2), .unset, .unset, .unset, .unset, .unset]) rfl (pc' := 124) rfl ?_
    refine r_iload X264.here hx (hb hby at_124) rfl (pc' := 126) rfl ?_
    refine r_iloadN X264.here hx (hb hby at_126) rfl (pc' := 127) rfl ?_
    refine r_if_eq X264.here hx (hb hby at_127) (by decide) (pc' := 134) (by decide) (pc2 := 130) rfl (fun hc127 => ?_) (fun hc127 => ?_)
    · refine r_iconst X264.here hx (hb hby at_134) (v := 0) rfl (pc' := 135) rfl ?_
      refine r_istore X264.here hx (hb hby at_135) (l' := #[.val (.int s1), .val (.int s2), .val (.int s3), .val (.int b), .val (.int cc), .val (.int k), .val (.int (b &&& (15 : Int32))), .val (.int b2), .val (.int t2), .val (.int t3), .val (.ref b243), .val (.int (1 : Int32)), .val (.int t2), .val (.int (0 : Int32)), .unset, .unset, .unset, .unset]) rfl (pc' := 137) rfl ?_
      refine r_iload X264.here hx (hb hby at_137) rfl (pc' := 139) rfl ?_
      refine r_if0_eq X264.here hx (hb hby at_139) (by decide) (pc' := 170) (by decide) (pc2 := 142) rfl (fun hc139 => absurd hc139 (by decide)) (fun hc139 => ?_)
      refine r_aload X264.here hx (hb hby at_142) rfl rfl (pc' := 144) rfl ?_
      refine r_iload X264.here hx (hb hby at_144) rfl (pc' := 146) rfl ?_
      refine r_callV X264 hx hZ (y := (⟨"com/example/ajif/ajif/TokenTable", "following", "(I)I"⟩ : MethodName)) (z := (⟨"com/example/ajif/ajif/TokenTable", "following", "(I)I"⟩ : MethodName)) (rm := ({ frames := 0, cells := 0, slots := 0, locals := 0 } : Room)) hown (hw _ (List.mem_of_getElem? (i := 36) rfl)) (hw _ (List.mem_of_getElem? (i := 37) rfl)) (notFace_of_selects (args := #[]) (mvT hZ (hw _ (List.mem_of_getElem? (i := 39) rfl)))) (hw _ (List.mem_of_getElem? (i := 39) rfl)) (hw _ (List.mem_of_getElem? (i := 38) rfl)) (hw _ (List.mem_of_getElem? (i := 2) rfl)) (hw _ (List.mem_of_getElem? (i := 40) rfl)) (by decide) (rm_following l Z a0 hw [] b243 f (b &&& (15 : Int32)) (own_upd (own_upd (fun _ => (0 : Int32)) (b &&& (15 : Int32)).toInt.toNat s1) (b &&& (15 : Int32)).toInt.toNat t2) T264.heap n0 Z268 f266 Af264 hb1.1 hb1.2) rfl f265 (by rw [hml]; rfl) (argsL := [(.int (b &&& (15 : Int32)))]) (rest := []) (lenOf pd_2 rfl) rfl rfl (W := 0) rfl (by decide) (by decide) (by decide) (by decide) (hb hby at_146) (pc' := 149) rfl ?_
      rintro v269 T269 L269 X269 ⟨rfl, Nq269, e269⟩
      have N269 := Fr.app N264 Nq269
      show Run p e below _ _ T269 (mkF m 149 #[.val (.int s1), .val (.int s2), .val (.int s3), .val (.int b), .val (.int cc), .val (.int k), .val (.int (b &&& (15 : Int32))), .val (.int b2), .val (.int t2), .val (.int t3), .val (.ref b243), .val (.int (1 : Int32)), .val (.int t2), .val (.int (0 : Int32)), .unset, .unset, .unset, .unset] [(.int ((own_upd (own_upd (fun _ => (0 : Int32)) (b &&& (15 : Int32)).toInt.toNat s1) (b &&& (15 : Int32)).toInt.toNat t2) (b &&& (15 : Int32)).toInt.toNat))])
      refine r_iload X269.here hx (hb hby at_149) rfl (pc' := 151) rfl ?_
      refine r_if_ne X269.here hx (hb hby at_151) (by decide) (pc' := 170) (by decide) (pc2 := 154) rfl (fun hc151 => absurd (own_us _ _ _) hc151) (fun hc151 => ?_)
      refine r_aload X269.here hx (hb hby at_154) rfl rfl (pc' := 156) rfl ?_
      refine r_iload X269.here hx (hb hby at_156) rfl (pc' := 158) rfl ?_
      refine r_callV X269 hx hZ (y := (⟨"com/example/ajif/ajif/TokenTable", "followingBefore", "(I)I"⟩ : MethodName)) (z := (⟨"com/example/ajif/ajif/TokenTable", "followingBefore", "(I)I"⟩ : MethodName)) (rm := ({ frames := 0, cells := 0, slots := 0, locals := 0 } : Room)) hown (hw _ (List.mem_of_getElem? (i := 41) rfl)) (hw _ (List.mem_of_getElem? (i := 42) rfl)) (notFace_of_selects (args := #[]) (mvT hZ (hw _ (List.mem_of_getElem? (i := 44) rfl)))) (hw _ (List.mem_of_getElem? (i := 44) rfl)) (hw _ (List.mem_of_getElem? (i := 43) rfl)) (hw _ (List.mem_of_getElem? (i := 2) rfl)) (hw _ (List.mem_of_getElem? (i := 45) rfl)) (by decide) (rm_followingBefore l Z a0 hw [] b243 g (b &&& (15 : Int32)) (own_updB (own_upd (fun _ => (0 : Int32)) (b &&& (15 : Int32)).toInt.toNat s1) (own_updB (fun _ => (0 : Int32)) (fun _ => (0 : Int32)) (b &&& (15 : Int32)).toInt.toNat s1) (b &&& (15 : Int32)).toInt.toNat t2) T264.heap n0 Z268 f267 Ag264 hb1.1 hb1.2) e269 f265 (by rw [hml]; rfl) (argsL := [(.int (b &&& (15 : Int32)))]) (rest := []) (lenOf pd_2 rfl) rfl rfl (W := 0) rfl (by decide) (by decide) (by decide) (by decide) (hb hby at_158) (pc' := 161) rfl ?_
      rintro v270 T270 L270 X270 ⟨rfl, Nq270, e270⟩
      have N270 := Fr.app N269 Nq270
      show Run p e below _ _ T270 (mkF m 161 #[.val (.int s1), .val (.int s2), .val (.int s3), .val (.int b), .val (.int cc), .val (.int k), .val (.int (b &&& (15 : Int32))), .val (.int b2), .val (.int t2), .val (.int t3), .val (.ref b243), .val (.int (1 : Int32)), .val (.int t2), .val (.int (0 : Int32)), .unset, .unset, .unset, .unset] [(.int ((own_updB (own_upd (fun _ => (0 : Int32)) (b &&& (15 : Int32)).toInt.toNat s1) (own_updB (fun _ => (0 : Int32)) (fun _ => (0 : Int32)) (b &&& (15 : Int32)).toInt.toNat s1) (b &&& (15 : Int32)).toInt.toNat t2) (b &&& (15 : Int32)).toInt.toNat))])
      refine r_iload X270.here hx (hb hby at_161) rfl (pc' := 163) rfl ?_
      refine r_if_ne X270.here hx (hb hby at_163) (by decide) (pc' := 170) (by decide) (pc2 := 166) rfl (fun hc163 => absurd (by rw [own_bs, own_us, if_pos hc127.symm, own_bs]; split <;> rfl) hc163) (fun hc163 => ?_)
      refine r_iconst X270.here hx (hb hby at_166) (v := 1) rfl (pc' := 167) rfl ?_
      refine r_goto X270.here hx (hb hby at_167) (by decide) (pc' := 171) (by decide) ?_
      refine r_istore X270.here hx (hb hby at_171) (l' := #[.val (.int s1), .val (.int s2), .val (.int s3), .val (.int b), .val (.int cc), .val (.int k), .val (.int (b &&& (15 : Int32))), .val (.int b2), .val (.int t2), .val (.int t3), .val (.ref b243), .val (.int (1 : Int32)), .val (.int t2), .val (.int (0 : Int32)), .unset, .unset, .unset, .unset]) rfl (pc' := 173) rfl ?_
      refine r_aload X270.here hx (hb hby at_173) rfl rfl (pc' := 175) rfl ?_
      refine r_iload X270.here hx (hb hby at_175) rfl (pc' := 177) rfl ?_
      refine r_iload X270.here hx (hb hby at_177) rfl (pc' := 179) rfl ?_
      refine r_callV X270 hx hZ (y := (⟨"com/example/ajif/ajif/TokenTable", "follows", "(II)V"⟩ : MethodName)) (z := (⟨"com/example/ajif/ajif/TokenTable", "follows", "(II)V"⟩ : MethodName)) (rm := ({ frames := 0, cells := 0, slots := 0, locals := 0 } : Room)) hown (hw _ (List.mem_of_getElem? (i := 31) rfl)) (hw _ (List.mem_of_getElem? (i := 32) rfl)) (notFace_of_selects (args := #[]) (mvT hZ (hw _ (List.mem_of_getElem? (i := 34) rfl)))) (hw _ (List.mem_of_getElem? (i := 34) rfl)) (hw _ (List.mem_of_getElem? (i := 33) rfl)) (hw _ (List.mem_of_getElem? (i := 2) rfl)) (hw _ (List.mem_of_getElem? (i := 35) rfl)) (by decide) (rmW l Z a0 hw [] b243 f g t3 b2 (own_upd (own_upd (fun _ => (0 : Int32)) (b &&& (15 : Int32)).toInt.toNat s1) (b &&& (15 : Int32)).toInt.toNat t2) (own_updB (own_upd (fun _ => (0 : Int32)) (b &&& (15 : Int32)).toInt.toNat s1) (own_updB (fun _ => (0 : Int32)) (fun _ => (0 : Int32)) (b &&& (15 : Int32)).toInt.toNat s1) (b &&& (15 : Int32)).toInt.toNat t2) T264.heap n0 Z268 f266 f267 Af264 Ag264 nf ng fa ga' gf hb2.1 hb2.2) e270 f265 (by rw [hml]; rfl) (argsL := [(.int t3), (.int b2)]) (rest := []) (lenOf pd_1 rfl) rfl rfl (W := 0) rfl (by decide) (by decide) (by decide) (by decide) (hb hby at_179) (pc' := 182) rfl ?_
      rintro v271 T271 L271 X271 ⟨rfl, Nq271, K271, Af271, Ag271⟩
      have N271 := Fr.app N270 Nq271
      show Run p e below _ _ T271 (mkF m 182 #[.val (.int s1), .val (.int s2), .val (.int s3), .val (.int b), .val (.int cc), .val (.int k), .val (.int (b &&& (15 : Int32))), .val (.int b2), .val (.int t2), .val (.int t3), .val (.ref b243), .val (.int (1 : Int32)), .val (.int t2), .val (.int (0 : Int32)), .unset, .unset, .unset, .unset] [])
      have f272 := f265.keep K271
      have f273 := f266.keep K271 (ninS (Ne.symm fa) (ninS (Ne.symm ga') nin0))
      have f274 := f267.keep K271 (ninS (Ne.symm fa) (ninS (Ne.symm ga') nin0))
      have Z275 : n0 ≤ T271.heap.size := by have q := Z268; exact Nat.le_trans q K271.1
      refine r_iload X271.here hx (hb hby at_182) rfl (pc' := 184) rfl ?_
      refine r_iload X271.here hx (hb hby at_184) rfl (pc' := 186) rfl ?_
      refine r_if_ne X271.here hx (hb hby at_186) (by decide) (pc' := 194) (by decide) (pc2 := 189) rfl (fun hc186 => ?_) (fun hc186 => ?_)
      · refine r_iconst X271.here hx (hb hby at_194) (v := 0) rfl (pc' := 195) rfl ?_
        refine r_istore X271.here hx (hb hby at_195) (l' := #[.val (.int s1), .val (.int s2), .val (.int s3), .val (.int b), .val (.int cc), .val (.int k), .val (.int (b &&& (15 : Int32))), .val (.int b2), .val (.int t2), .val (.int t3), .val (.ref b243), .val (.int (1 : Int32)), .val (.int t2), .val (.int (0 : Int32)), .val (.int (0 : Int32)), .unset, .unset, .unset]) rfl (pc' := 197) rfl ?_
        refine r_iload X271.here hx (hb hby at_197) rfl (pc' := 199) rfl ?_
        refine r_iload X271.here hx (hb hby at_199) rfl (pc' := 201) rfl ?_
        refine r_if_ne X271.here hx (hb hby at_201) (by decide) (pc' := 209) (by decide) (pc2 := 204) rfl (fun hc201 => ?_) (fun hc201 => absurd hc186 hc201)
        refine r_iconst X271.here hx (hb hby at_209) (v := 0) rfl (pc' := 210) rfl ?_
        refine r_istore X271.here hx (hb hby at_210) (l' := #[.val (.int s1), .val (.int s2), .val (.int s3), .val (.int b), .val (.int cc), .val (.int k), .val (.int (b &&& (15 : Int32))), .val (.int b2), .val (.int t2), .val (.int t3), .val (.ref b243), .val (.int (1 : Int32)), .val (.int t2), .val (.int (0 : Int32)), .val (.int (0 : Int32)), .val (.int (0 : Int32)), .unset, .unset]) rfl (pc' := 212) rfl ?_
        refine r_iload X271.here hx (hb hby at_212) rfl (pc' := 214) rfl ?_
        refine r_istore X271.here hx (hb hby at_214) (l' := #[.val (.int s1), .val (.int s2), .val (.int s3), .val (.int b), .val (.int cc), .val (.int k), .val (.int (b &&& (15 : Int32))), .val (.int b2), .val (.int t2), .val (.int t3), .val (.ref b243), .val (.int (1 : Int32)), .val (.int t2), .val (.int (0 : Int32)), .val (.int (0 : Int32)), .val (.int (0 : Int32)), .val (.int t3), .unset]) rfl (pc' := 216) rfl ?_
        refine r_iload X271.here hx (hb hby at_216) rfl (pc' := 218) rfl ?_
        refine r_iload X271.here hx (hb hby at_218) rfl (pc' := 220) rfl ?_
        refine r_if_eq X271.here hx (hb hby at_220) (by decide) (pc' := 228) (by decide) (pc2 := 223) rfl (fun hc220 => ?_) (fun hc220 => ?_)
        · refine r_iload X271.here hx (hb hby at_228) rfl (pc' := 230) rfl ?_
          refine r_istore X271.here hx (hb hby at_230) (l' := #[.val (.int s1), .val (.int s2), .val (.int s3), .val (.int b), .val (.int cc), .val (.int k), .val (.int (b &&& (15 : Int32))), .val (.int b2), .val (.int t2), .val (.int t3), .val (.ref b243), .val (.int (1 : Int32)), .val (.int t2), .val (.int (0 : Int32)), .val (.int (0 : Int32)), .val (.int (0 : Int32)), .val (.int t3), .val (.int (0 : Int32))]) rfl (pc' := 232) rfl ?_
          refine r_iload X271.here hx (hb hby at_232) rfl (pc' := 234) rfl ?_
          refine r_if0_eq X271.here hx (hb hby at_234) (by decide) (pc' := 265) (by decide) (pc2 := 237) rfl (fun hc234 => absurd hc234 (by decide)) (fun hc234 => ?_)
          refine r_aload X271.here hx (hb hby at_237) rfl rfl (pc' := 239) rfl ?_
          refine r_iload X271.here hx (hb hby at_239) rfl (pc' := 241) rfl ?_
          refine r_callV X271 hx hZ (y := (⟨"com/example/ajif/ajif/TokenTable", "following", "(I)I"⟩ : MethodName)) (z := (⟨"com/example/ajif/ajif/TokenTable", "following", "(I)I"⟩ : MethodName)) (rm := ({ frames := 0, cells := 0, slots := 0, locals := 0 } : Room)) hown (hw _ (List.mem_of_getElem? (i := 36) rfl)) (hw _ (List.mem_of_getElem? (i := 37) rfl)) (notFace_of_selects (args := #[]) (mvT hZ (hw _ (List.mem_of_getElem? (i := 39) rfl)))) (hw _ (List.mem_of_getElem? (i := 39) rfl)) (hw _ (List.mem_of_getElem? (i := 38) rfl)) (hw _ (List.mem_of_getElem? (i := 2) rfl)) (hw _ (List.mem_of_getElem? (i := 40) rfl)) (by decide) (rm_following l Z a0 hw [] b243 f b2 (own_upd (own_upd (own_upd (fun _ => (0 : Int32)) (b &&& (15 : Int32)).toInt.toNat s1) (b &&& (15 : Int32)).toInt.toNat t2) b2.toInt.toNat t3) T271.heap n0 Z275 f273 Af271 hb2.1 hb2.2) rfl f272 (by rw [hml]; rfl) (argsL := [(.int b2)]) (rest := []) (lenOf pd_2 rfl) rfl rfl (W := 0) rfl (by decide) (by decide) (by decide) (by decide) (hb hby at_241) (pc' := 244) rfl ?_
          rintro v276 T276 L276 X276 ⟨rfl, Nq276, e276⟩
          have N276 := Fr.app N271 Nq276
          show Run p e below _ _ T276 (mkF m 244 #[.val (.int s1), .val (.int s2), .val (.int s3), .val (.int b), .val (.int cc), .val (.int k), .val (.int (b &&& (15 : Int32))), .val (.int b2), .val (.int t2), .val (.int t3), .val (.ref b243), .val (.int (1 : Int32)), .val (.int t2), .val (.int (0 : Int32)), .val (.int (0 : Int32)), .val (.int (0 : Int32)), .val (.int t3), .val (.int (0 : Int32))] [(.int ((own_upd (own_upd (own_upd (fun _ => (0 : Int32)) (b &&& (15 : Int32)).toInt.toNat s1) (b &&& (15 : Int32)).toInt.toNat t2) b2.toInt.toNat t3) b2.toInt.toNat))])
          refine r_iload X276.here hx (hb hby at_244) rfl (pc' := 246) rfl ?_
          refine r_if_ne X276.here hx (hb hby at_246) (by decide) (pc' := 265) (by decide) (pc2 := 249) rfl (fun hc246 => absurd (own_us _ _ _) hc246) (fun hc246 => ?_)
          refine r_aload X276.here hx (hb hby at_249) rfl rfl (pc' := 251) rfl ?_
          refine r_iload X276.here hx (hb hby at_251) rfl (pc' := 253) rfl ?_
          refine r_callV X276 hx hZ (y := (⟨"com/example/ajif/ajif/TokenTable", "followingBefore", "(I)I"⟩ : MethodName)) (z := (⟨"com/example/ajif/ajif/TokenTable", "followingBefore", "(I)I"⟩ : MethodName)) (rm := ({ frames := 0, cells := 0, slots := 0, locals := 0 } : Room)) hown (hw _ (List.mem_of_getElem? (i := 41) rfl)) (hw _ (List.mem_of_getElem? (i := 42) rfl)) (notFace_of_selects (args := #[]) (mvT hZ (hw _ (List.mem_of_getElem? (i := 44) rfl)))) (hw _ (List.mem_of_getElem? (i := 44) rfl)) (hw _ (List.mem_of_getElem? (i := 43) rfl)) (hw _ (List.mem_of_getElem? (i := 2) rfl)) (hw _ (List.mem_of_getElem? (i := 45) rfl)) (by decide) (rm_followingBefore l Z a0 hw [] b243 g b2 (own_updB (own_upd (own_upd (fun _ => (0 : Int32)) (b &&& (15 : Int32)).toInt.toNat s1) (b &&& (15 : Int32)).toInt.toNat t2) (own_updB (own_upd (fun _ => (0 : Int32)) (b &&& (15 : Int32)).toInt.toNat s1) (own_updB (fun _ => (0 : Int32)) (fun _ => (0 : Int32)) (b &&& (15 : Int32)).toInt.toNat s1) (b &&& (15 : Int32)).toInt.toNat t2) b2.toInt.toNat t3) T271.heap n0 Z275 f274 Ag271 hb2.1 hb2.2) e276 f272 (by rw [hml]; rfl) (argsL := [(.int b2)]) (rest := []) (lenOf pd_2 rfl) rfl rfl (W := 0) rfl (by decide) (by decide) (by decide) (by decide) (hb hby at_253) (pc' := 256) rfl ?_
          rintro v277 T277 L277 X277 ⟨rfl, Nq277, e277⟩
          have N277 := Fr.app N276 Nq277
          show Run p e below _ _ T277 (mkF m 256 #[.val (.int s1), .val (.int s2), .val (.int s3), .val (.int b), .val (.int cc), .val (.int k), .val (.int (b &&& (15 : Int32))), .val (.int b2), .val (.int t2), .val (.int t3), .val (.ref b243), .val (.int (1 : Int32)), .val (.int t2), .val (.int (0 : Int32)), .val (.int (0 : Int32)), .val (.int (0 : Int32)), .val (.int t3), .val (.int (0 : Int32))] [(.int ((own_updB (own_upd (own_upd (fun _ => (0 : Int32)) (b &&& (15 : Int32)).toInt.toNat s1) (b &&& (15 : Int32)).toInt.toNat t2) (own_updB (own_upd (fun _ => (0 : Int32)) (b &&& (15 : Int32)).toInt.toNat s1) (own_updB (fun _ => (0 : Int32)) (fun _ => (0 : Int32)) (b &&& (15 : Int32)).toInt.toNat s1) (b &&& (15 : Int32)).toInt.toNat t2) b2.toInt.toNat t3) b2.toInt.toNat))])
          refine r_iload X277.here hx (hb hby at_256) rfl (pc' := 258) rfl ?_
          refine r_if_ne X277.here hx (hb hby at_258) (by decide) (pc' := 265) (by decide) (pc2 := 261) rfl (fun hc258 => absurd (by have q : b2.toInt.toNat ≠ (b &&& (15 : Int32)).toInt.toNat := own_nn hb1.1 hb2.1 (fun z => hc186 z.symm); rw [own_bs, own_uo q, own_uo q, own_bo q, own_bo q]; split <;> rfl) hc258) (fun hc258 => ?_)
          refine r_iconst X277.here hx (hb hby at_261) (v := 1) rfl (pc' := 262) rfl ?_
          refine r_goto X277.here hx (hb hby at_262) (by decide) (pc' := 266) (by decide) ?_
          refine r_istore X277.here hx (hb hby at_266) (l' := #[.val (.int s1), .val (.int s2), .val (.int s3), .val (.int b), .val (.int cc), .val (.int k), .val (.int (b &&& (15 : Int32))), .val (.int b2), .val (.int t2), .val (.int t3), .val (.ref b243), .val (.int (1 : Int32)), .val (.int t2), .val (.int (0 : Int32)), .val (.int (0 : Int32)), .val (.int (0 : Int32)), .val (.int t3), .val (.int (0 : Int32))]) rfl (pc' := 268) rfl ?_
          refine r_iload X277.here hx (hb hby at_268) rfl (pc' := 270) rfl ?_
          refine r_iload X277.here hx (hb hby at_270) rfl (pc' := 272) rfl ?_
          refine r_if_eq X277.here hx (hb hby at_272) (by decide) (pc' := 311) (by decide) (pc2 := 275) rfl (fun hc272 => absurd hc272 hc186) (fun hc272 => ?_)
          refine r_iload X277.here hx (hb hby at_275) rfl (pc' := 277) rfl ?_
          refine r_if0_eq X277.here hx (hb hby at_277) (by decide) (pc' := 308) (by decide) (pc2 := 280) rfl (fun hc277 => absurd hc277 (by decide)) (fun hc277 => ?_)
          refine r_aload X277.here hx (hb hby at_280) rfl rfl (pc' := 282) rfl ?_
          refine r_iload X277.here hx (hb hby at_282) rfl (pc' := 284) rfl ?_
          refine r_callV X277 hx hZ (y := (⟨"com/example/ajif/ajif/TokenTable", "following", "(I)I"⟩ : MethodName)) (z := (⟨"com/example/ajif/ajif/TokenTable", "following", "(I)I"⟩ : MethodName)) (rm := ({ frames := 0, cells := 0, slots := 0, locals := 0 } : Room)) hown (hw _ (List.mem_of_getElem? (i := 36) rfl)) (hw _ (List.mem_of_getElem? (i := 37) rfl)) (notFace_of_selects (args := #[]) (mvT hZ (hw _ (List.mem_of_getElem? (i := 39) rfl)))) (hw _ (List.mem_of_getElem? (i := 39) rfl)) (hw _ (List.mem_of_getElem? (i := 38) rfl)) (hw _ (List.mem_of_getElem? (i := 2) rfl)) (hw _ (List.mem_of_getElem? (i := 40) rfl)) (by decide) (rm_following l Z a0 hw [] b243 f (b &&& (15 : Int32)) (own_upd (own_upd (own_upd (fun _ => (0 : Int32)) (b &&& (15 : Int32)).toInt.toNat s1) (b &&& (15 : Int32)).toInt.toNat t2) b2.toInt.toNat t3) T271.heap n0 Z275 f273 Af271 hb1.1 hb1.2) e277 f272 (by rw [hml]; rfl) (argsL := [(.int (b &&& (15 : Int32)))]) (rest := []) (lenOf pd_2 rfl) rfl rfl (W := 0) rfl (by decide) (by decide) (by decide) (by decide) (hb hby at_284) (pc' := 287) rfl ?_
          rintro v278 T278 L278 X278 ⟨rfl, Nq278, e278⟩
          have N278 := Fr.app N277 Nq278
          show Run p e below _ _ T278 (mkF m 287 #[.val (.int s1), .val (.int s2), .val (.int s3), .val (.int b), .val (.int cc), .val (.int k), .val (.int (b &&& (15 : Int32))), .val (.int b2), .val (.int t2), .val (.int t3), .val (.ref b243), .val (.int (1 : Int32)), .val (.int t2), .val (.int (0 : Int32)), .val (.int (0 : Int32)), .val (.int (0 : Int32)), .val (.int t3), .val (.int (0 : Int32))] [(.int ((own_upd (own_upd (own_upd (fun _ => (0 : Int32)) (b &&& (15 : Int32)).toInt.toNat s1) (b &&& (15 : Int32)).toInt.toNat t2) b2.toInt.toNat t3) (b &&& (15 : Int32)).toInt.toNat))])
          refine r_iload X278.here hx (hb hby at_287) rfl (pc' := 289) rfl ?_
          refine r_if_ne X278.here hx (hb hby at_289) (by decide) (pc' := 308) (by decide) (pc2 := 292) rfl (fun hc289 => absurd (by have q : (b &&& (15 : Int32)).toInt.toNat ≠ b2.toInt.toNat := own_nn hb2.1 hb1.1 hc186; rw [own_uo q, own_us]) hc289) (fun hc289 => ?_)
          refine r_aload X278.here hx (hb hby at_292) rfl rfl (pc' := 294) rfl ?_
          refine r_iload X278.here hx (hb hby at_294) rfl (pc' := 296) rfl ?_
          refine r_callV X278 hx hZ (y := (⟨"com/example/ajif/ajif/TokenTable", "followingBefore", "(I)I"⟩ : MethodName)) (z := (⟨"com/example/ajif/ajif/TokenTable", "followingBefore", "(I)I"⟩ : MethodName)) (rm := ({ frames := 0, cells := 0, slots := 0, locals := 0 } : Room)) hown (hw _ (List.mem_of_getElem? (i := 41) rfl)) (hw _ (List.mem_of_getElem? (i := 42) rfl)) (notFace_of_selects (args := #[]) (mvT hZ (hw _ (List.mem_of_getElem? (i := 44) rfl)))) (hw _ (List.mem_of_getElem? (i := 44) rfl)) (hw _ (List.mem_of_getElem? (i := 43) rfl)) (hw _ (List.mem_of_getElem? (i := 2) rfl)) (hw _ (List.mem_of_getElem? (i := 45) rfl)) (by decide) (rm_followingBefore l Z a0 hw [] b243 g (b &&& (15 : Int32)) (own_updB (own_upd (own_upd (fun _ => (0 : Int32)) (b &&& (15 : Int32)).toInt.toNat s1) (b &&& (15 : Int32)).toInt.toNat t2) (own_updB (own_upd (fun _ => (0 : Int32)) (b &&& (15 : Int32)).toInt.toNat s1) (own_updB (fun _ => (0 : Int32)) (fun _ => (0 : Int32)) (b &&& (15 : Int32)).toInt.toNat s1) (b &&& (15 : Int32)).toInt.toNat t2) b2.toInt.toNat t3) T271.heap n0 Z275 f274 Ag271 hb1.1 hb1.2) e278 f272 (by rw [hml]; rfl) (argsL := [(.int (b &&& (15 : Int32)))]) (rest := []) (lenOf pd_2 rfl) rfl rfl (W := 0) rfl (by decide) (by decide) (by decide) (by decide) (hb hby at_296) (pc' := 299) rfl ?_
          rintro v279 T279 L279 X279 ⟨rfl, Nq279, e279⟩
          have N279 := Fr.app N278 Nq279
          show Run p e below _ _ T279 (mkF m 299 #[.val (.int s1), .val (.int s2), .val (.int s3), .val (.int b), .val (.int cc), .val (.int k), .val (.int (b &&& (15 : Int32))), .val (.int b2), .val (.int t2), .val (.int t3), .val (.ref b243), .val (.int (1 : Int32)), .val (.int t2), .val (.int (0 : Int32)), .val (.int (0 : Int32)), .val (.int (0 : Int32)), .val (.int t3), .val (.int (0 : Int32))] [(.int ((own_updB (own_upd (own_upd (fun _ => (0 : Int32)) (b &&& (15 : Int32)).toInt.toNat s1) (b &&& (15 : Int32)).toInt.toNat t2) (own_updB (own_upd (fun _ => (0 : Int32)) (b &&& (15 : Int32)).toInt.toNat s1) (own_updB (fun _ => (0 : Int32)) (fun _ => (0 : Int32)) (b &&& (15 : Int32)).toInt.toNat s1) (b &&& (15 : Int32)).toInt.toNat t2) b2.toInt.toNat t3) (b &&& (15 : Int32)).toInt.toNat))])
          refine r_iload X279.here hx (hb hby at_299) rfl (pc' := 301) rfl ?_
          refine r_if_ne X279.here hx (hb hby at_301) (by decide) (pc' := 308) (by decide) (pc2 := 304) rfl (fun hc301 => absurd (by have q : (b &&& (15 : Int32)).toInt.toNat ≠ b2.toInt.toNat := own_nn hb2.1 hb1.1 hc186; rw [own_bo q, own_bs, own_us]; rw [if_pos hc127.symm, own_bs]; split <;> rfl) hc301) (fun hc301 => ?_)
          refine r_iconst X279.here hx (hb hby at_304) (v := 1) rfl (pc' := 305) rfl ?_
          refine r_goto X279.here hx (hb hby at_305) (by decide) (pc' := 309) (by decide) ?_
          refine r_istore X279.here hx (hb hby at_309) (l' := #[.val (.int s1), .val (.int s2), .val (.int s3), .val (.int b), .val (.int cc), .val (.int k), .val (.int (b &&& (15 : Int32))), .val (.int b2), .val (.int t2), .val (.int t3), .val (.ref b243), .val (.int (1 : Int32)), .val (.int t2), .val (.int (0 : Int32)), .val (.int (0 : Int32)), .val (.int (0 : Int32)), .val (.int t3), .val (.int (0 : Int32))]) rfl (pc' := 311) rfl ?_
          refine r_iload X279.here hx (hb hby at_311) rfl (pc' := 313) rfl ?_
          refine r_retN X279 hx hlk hret (by simp) (hb hby at_313) (w := (1 : Int32)) rfl ?_ (by decide) (by decide)
          try rw [e279]
          exact ⟨rfl, N279⟩
        · refine r_iload X271.here hx (hb hby at_223) rfl (pc' := 225) rfl ?_
          refine r_goto X271.here hx (hb hby at_225) (by decide) (pc' := 230) (by decide) ?_
          refine r_istore X271.here hx (hb hby at_230) (l' := #[.val (.int s1), .val (.int s2), .val (.int s3), .val (.int b), .val (.int cc), .val (.int k), .val (.int (b &&& (15 : Int32))), .val (.int b2), .val (.int t2), .val (.int t3), .val (.ref b243), .val (.int (1 : Int32)), .val (.int t2), .val (.int (0 : Int32)), .val (.int (0 : Int32)), .val (.int (0 : Int32)), .val (.int t3), .val (.int (0 : Int32))]) rfl (pc' := 232) rfl ?_
          refine r_iload X271.here hx (hb hby at_232) rfl (pc' := 234) rfl ?_
          refine r_if0_eq X271.here hx (hb hby at_234) (by decide) (pc' := 265) (by decide) (pc2 := 237) rfl (fun hc234 => absurd hc234 (by decide)) (fun hc234 => ?_)
          refine r_aload X271.here hx (hb hby at_237) rfl rfl (pc' := 239) rfl ?_
          refine r_iload X271.here hx (hb hby at_239) rfl (pc' := 241) rfl ?_
          refine r_callV X271 hx hZ (y := (⟨"com/example/ajif/ajif/TokenTable", "following", "(I)I"⟩ : MethodName)) (z := (⟨"com/example/ajif/ajif/TokenTable", "following", "(I)I"⟩ : MethodName)) (rm := ({ frames := 0, cells := 0, slots := 0, locals := 0 } : Room)) hown (hw _ (List.mem_of_getElem? (i := 36) rfl)) (hw _ (List.mem_of_getElem? (i := 37) rfl)) (notFace_of_selects (args := #[]) (mvT hZ (hw _ (List.mem_of_getElem? (i := 39) rfl)))) (hw _ (List.mem_of_getElem? (i := 39) rfl)) (hw _ (List.mem_of_getElem? (i := 38) rfl)) (hw _ (List.mem_of_getElem? (i := 2) rfl)) (hw _ (List.mem_of_getElem? (i := 40) rfl)) (by decide) (rm_following l Z a0 hw [] b243 f b2 (own_upd (own_upd (own_upd (fun _ => (0 : Int32)) (b &&& (15 : Int32)).toInt.toNat s1) (b &&& (15 : Int32)).toInt.toNat t2) b2.toInt.toNat t3) T271.heap n0 Z275 f273 Af271 hb2.1 hb2.2) rfl f272 (by rw [hml]; rfl) (argsL := [(.int b2)]) (rest := []) (lenOf pd_2 rfl) rfl rfl (W := 0) rfl (by decide) (by decide) (by decide) (by decide) (hb hby at_241) (pc' := 244) rfl ?_
          rintro v280 T280 L280 X280 ⟨rfl, Nq280, e280⟩
          have N280 := Fr.app N271 Nq280
          show Run p e below _ _ T280 (mkF m 244 #[.val (.int s1), .val (.int s2), .val (.int s3), .val (.int b), .val (.int cc), .val (.int k), .val (.int (b &&& (15 : Int32))), .val (.int b2), .val (.int t2), .val (.int t3), .val (.ref b243), .val (.int (1 : Int32)), .val (.int t2), .val (.int (0 : Int32)), .val (.int (0 : Int32)), .val (.int (0 : Int32)), .val (.int t3), .val (.int (0 : Int32))] [(.int ((own_upd (own_upd (own_upd (fun _ => (0 : Int32)) (b &&& (15 : Int32)).toInt.toNat s1) (b &&& (15 : Int32)).toInt.toNat t2) b2.toInt.toNat t3) b2.toInt.toNat))])
          refine r_iload X280.here hx (hb hby at_244) rfl (pc' := 246) rfl ?_
          refine r_if_ne X280.here hx (hb hby at_246) (by decide) (pc' := 265) (by decide) (pc2 := 249) rfl (fun hc246 => absurd (own_us _ _ _) hc246) (fun hc246 => ?_)
          refine r_aload X280.here hx (hb hby at_249) rfl rfl (pc' := 251) rfl ?_
          refine r_iload X280.here hx (hb hby at_251) rfl (pc' := 253) rfl ?_
          refine r_callV X280 hx hZ (y := (⟨"com/example/ajif/ajif/TokenTable", "followingBefore", "(I)I"⟩ : MethodName)) (z := (⟨"com/example/ajif/ajif/TokenTable", "followingBefore", "(I)I"⟩ : MethodName)) (rm := ({ frames := 0, cells := 0, slots := 0, locals := 0 } : Room)) hown (hw _ (List.mem_of_getElem? (i := 41) rfl)) (hw _ (List.mem_of_getElem? (i := 42) rfl)) (notFace_of_selects (args := #[]) (mvT hZ (hw _ (List.mem_of_getElem? (i := 44) rfl)))) (hw _ (List.mem_of_getElem? (i := 44) rfl)) (hw _ (List.mem_of_getElem? (i := 43) rfl)) (hw _ (List.mem_of_getElem? (i := 2) rfl)) (hw _ (List.mem_of_getElem? (i := 45) rfl)) (by decide) (rm_followingBefore l Z a0 hw [] b243 g b2 (own_updB (own_upd (own_upd (fun _ => (0 : Int32)) (b &&& (15 : Int32)).toInt.toNat s1) (b &&& (15 : Int32)).toInt.toNat t2) (own_updB (own_upd (fun _ => (0 : Int32)) (b &&& (15 : Int32)).toInt.toNat s1) (own_updB (fun _ => (0 : Int32)) (fun _ => (0 : Int32)) (b &&& (15 : Int32)).toInt.toNat s1) (b &&& (15 : Int32)).toInt.toNat t2) b2.toInt.toNat t3) T271.heap n0 Z275 f274 Ag271 hb2.1 hb2.2) e280 f272 (by rw [hml]; rfl) (argsL := [(.int b2)]) (rest := []) (lenOf pd_2 rfl) rfl rfl (W := 0) rfl (by decide) (by decide) (by decide) (by decide) (hb hby at_253) (pc' := 256) rfl ?_
          rintro v281 T281 L281 X281 ⟨rfl, Nq281, e281⟩
          have N281 := Fr.app N280 Nq281
          show Run p e below _ _ T281 (mkF m 256 #[.val (.int s1), .val (.int s2), .val (.int s3), .val (.int b), .val (.int cc), .val (.int k), .val (.int (b &&& (15 : Int32))), .val (.int b2), .val (.int t2), .val (.int t3), .val (.ref b243), .val (.int (1 : Int32)), .val (.int t2), .val (.int (0 : Int32)), .val (.int (0 : Int32)), .val (.int (0 : Int32)), .val (.int t3), .val (.int (0 : Int32))] [(.int ((own_updB (own_upd (own_upd (fun _ => (0 : Int32)) (b &&& (15 : Int32)).toInt.toNat s1) (b &&& (15 : Int32)).toInt.toNat t2) (own_updB (own_upd (fun _ => (0 : Int32)) (b &&& (15 : Int32)).toInt.toNat s1) (own_updB (fun _ => (0 : Int32)) (fun _ => (0 : Int32)) (b &&& (15 : Int32)).toInt.toNat s1) (b &&& (15 : Int32)).toInt.toNat t2) b2.toInt.toNat t3) b2.toInt.toNat))])
          refine r_iload X281.here hx (hb hby at_256) rfl (pc' := 258) rfl ?_
          refine r_if_ne X281.here hx (hb hby at_258) (by decide) (pc' := 265) (by decide) (pc2 := 261) rfl (fun hc258 => absurd (by have q : b2.toInt.toNat ≠ (b &&& (15 : Int32)).toInt.toNat := own_nn hb1.1 hb2.1 (fun z => hc186 z.symm); rw [own_bs, own_uo q, own_uo q, own_bo q, own_bo q]; split <;> rfl) hc258) (fun hc258 => ?_)
          refine r_iconst X281.here hx (hb hby at_261) (v := 1) rfl (pc' := 262) rfl ?_
          refine r_goto X281.here hx (hb hby at_262) (by decide) (pc' := 266) (by decide) ?_
          refine r_istore X281.here hx (hb hby at_266) (l' := #[.val (.int s1), .val (.int s2), .val (.int s3), .val (.int b), .val (.int cc), .val (.int k), .val (.int (b &&& (15 : Int32))), .val (.int b2), .val (.int t2), .val (.int t3), .val (.ref b243), .val (.int (1 : Int32)), .val (.int t2), .val (.int (0 : Int32)), .val (.int (0 : Int32)), .val (.int (0 : Int32)), .val (.int t3), .val (.int (0 : Int32))]) rfl (pc' := 268) rfl ?_
          refine r_iload X281.here hx (hb hby at_268) rfl (pc' := 270) rfl ?_
          refine r_iload X281.here hx (hb hby at_270) rfl (pc' := 272) rfl ?_
          refine r_if_eq X281.here hx (hb hby at_272) (by decide) (pc' := 311) (by decide) (pc2 := 275) rfl (fun hc272 => absurd hc272 hc186) (fun hc272 => ?_)
          refine r_iload X281.here hx (hb hby at_275) rfl (pc' := 277) rfl ?_
          refine r_if0_eq X281.here hx (hb hby at_277) (by decide) (pc' := 308) (by decide) (pc2 := 280) rfl (fun hc277 => absurd hc277 (by decide)) (fun hc277 => ?_)
          refine r_aload X281.here hx (hb hby at_280) rfl rfl (pc' := 282) rfl ?_
          refine r_iload X281.here hx (hb hby at_282) rfl (pc' := 284) rfl ?_
          refine r_callV X281 hx hZ (y := (⟨"com/example/ajif/ajif/TokenTable", "following", "(I)I"⟩ : MethodName)) (z := (⟨"com/example/ajif/ajif/TokenTable", "following", "(I)I"⟩ : MethodName)) (rm := ({ frames := 0, cells := 0, slots := 0, locals := 0 } : Room)) hown (hw _ (List.mem_of_getElem? (i := 36) rfl)) (hw _ (List.mem_of_getElem? (i := 37) rfl)) (notFace_of_selects (args := #[]) (mvT hZ (hw _ (List.mem_of_getElem? (i := 39) rfl)))) (hw _ (List.mem_of_getElem? (i := 39) rfl)) (hw _ (List.mem_of_getElem? (i := 38) rfl)) (hw _ (List.mem_of_getElem? (i := 2) rfl)) (hw _ (List.mem_of_getElem? (i := 40) rfl)) (by decide) (rm_following l Z a0 hw [] b243 f (b &&& (15 : Int32)) (own_upd (own_upd (own_upd (fun _ => (0 : Int32)) (b &&& (15 : Int32)).toInt.toNat s1) (b &&& (15 : Int32)).toInt.toNat t2) b2.toInt.toNat t3) T271.heap n0 Z275 f273 Af271 hb1.1 hb1.2) e281 f272 (by rw [hml]; rfl) (argsL := [(.int (b &&& (15 : Int32)))]) (rest := []) (lenOf pd_2 rfl) rfl rfl (W := 0) rfl (by decide) (by decide) (by decide) (by decide) (hb hby at_284) (pc' := 287) rfl ?_
          rintro v282 T282 L282 X282 ⟨rfl, Nq282, e282⟩
          have N282 := Fr.app N281 Nq282
          show Run p e below _ _ T282 (mkF m 287 #[.val (.int s1), .val (.int s2), .val (.int s3), .val (.int b), .val (.int cc), .val (.int k), .val (.int (b &&& (15 : Int32))), .val (.int b2), .val (.int t2), .val (.int t3), .val (.ref b243), .val (.int (1 : Int32)), .val (.int t2), .val (.int (0 : Int32)), .val (.int (0 : Int32)), .val (.int (0 : Int32)), .val (.int t3), .val (.int (0 : Int32))] [(.int ((own_upd (own_upd (own_upd (fun _ => (0 : Int32)) (b &&& (15 : Int32)).toInt.toNat s1) (b &&& (15 : Int32)).toInt.toNat t2) b2.toInt.toNat t3) (b &&& (15 : Int32)).toInt.toNat))])
          refine r_iload X282.here hx (hb hby at_287) rfl (pc' := 289) rfl ?_
          refine r_if_ne X282.here hx (hb hby at_289) (by decide) (pc' := 308) (by decide) (pc2 := 292) rfl (fun hc289 => absurd (by have q : (b &&& (15 : Int32)).toInt.toNat ≠ b2.toInt.toNat := own_nn hb2.1 hb1.1 hc186; rw [own_uo q, own_us]) hc289) (fun hc289 => ?_)
          refine r_aload X282.here hx (hb hby at_292) rfl rfl (pc' := 294) rfl ?_
          refine r_iload X282.here hx (hb hby at_294) rfl (pc' := 296) rfl ?_
          refine r_callV X282 hx hZ (y := (⟨"com/example/ajif/ajif/TokenTable", "followingBefore", "(I)I"⟩ : MethodName)) (z := (⟨"com/example/ajif/ajif/TokenTable", "followingBefore", "(I)I"⟩ : MethodName)) (rm := ({ frames := 0, cells := 0, slots := 0, locals := 0 } : Room)) hown (hw _ (List.mem_of_getElem? (i := 41) rfl)) (hw _ (List.mem_of_getElem? (i := 42) rfl)) (notFace_of_selects (args := #[]) (mvT hZ (hw _ (List.mem_of_getElem? (i := 44) rfl)))) (hw _ (List.mem_of_getElem? (i := 44) rfl)) (hw _ (List.mem_of_getElem? (i := 43) rfl)) (hw _ (List.mem_of_getElem? (i := 2) rfl)) (hw _ (List.mem_of_getElem? (i := 45) rfl)) (by decide) (rm_followingBefore l Z a0 hw [] b243 g (b &&& (15 : Int32)) (own_updB (own_upd (own_upd (fun _ => (0 : Int32)) (b &&& (15 : Int32)).toInt.toNat s1) (b &&& (15 : Int32)).toInt.toNat t2) (own_updB (own_upd (fun _ => (0 : Int32)) (b &&& (15 : Int32)).toInt.toNat s1) (own_updB (fun _ => (0 : Int32)) (fun _ => (0 : Int32)) (b &&& (15 : Int32)).toInt.toNat s1) (b &&& (15 : Int32)).toInt.toNat t2) b2.toInt.toNat t3) T271.heap n0 Z275 f274 Ag271 hb1.1 hb1.2) e282 f272 (by rw [hml]; rfl) (argsL := [(.int (b &&& (15 : Int32)))]) (rest := []) (lenOf pd_2 rfl) rfl rfl (W := 0) rfl (by decide) (by decide) (by decide) (by decide) (hb hby at_296) (pc' := 299) rfl ?_
          rintro v283 T283 L283 X283 ⟨rfl, Nq283, e283⟩
          have N283 := Fr.app N282 Nq283
          show Run p e below _ _ T283 (mkF m 299 #[.val (.int s1), .val (.int s2), .val (.int s3), .val (.int b), .val (.int cc), .val (.int k), .val (.int (b &&& (15 : Int32))), .val (.int b2), .val (.int t2), .val (.int t3), .val (.ref b243), .val (.int (1 : Int32)), .val (.int t2), .val (.int (0 : Int32)), .val (.int (0 : Int32)), .val (.int (0 : Int32)), .val (.int t3), .val (.int (0 : Int32))] [(.int ((own_updB (own_upd (own_upd (fun _ => (0 : Int32)) (b &&& (15 : Int32)).toInt.toNat s1) (b &&& (15 : Int32)).toInt.toNat t2) (own_updB (own_upd (fun _ => (0 : Int32)) (b &&& (15 : Int32)).toInt.toNat s1) (own_updB (fun _ => (0 : Int32)) (fun _ => (0 : Int32)) (b &&& (15 : Int32)).toInt.toNat s1) (b &&& (15 : Int32)).toInt.toNat t2) b2.toInt.toNat t3) (b &&& (15 : Int32)).toInt.toNat))])
          refine r_iload X283.here hx (hb hby at_299) rfl (pc' := 301) rfl ?_
          refine r_if_ne X283.here hx (hb hby at_301) (by decide) (pc' := 308) (by decide) (pc2 := 304) rfl (fun hc301 => absurd (by have q : (b &&& (15 : Int32)).toInt.toNat ≠ b2.toInt.toNat := own_nn hb2.1 hb1.1 hc186; rw [own_bo q, own_bs, own_us]; rw [if_pos hc127.symm, own_bs]; split <;> rfl) hc301) (fun hc301 => ?_)
          refine r_iconst X283.here hx (hb hby at_304) (v := 1) rfl (pc' := 305) rfl ?_
          refine r_goto X283.here hx (hb hby at_305) (by decide) (pc' := 309) (by decide) ?_
          refine r_istore X283.here hx (hb hby at_309) (l' := #[.val (.int s1), .val (.int s2), .val (.int s3), .val (.int b), .val (.int cc), .val (.int k), .val (.int (b &&& (15 : Int32))), .val (.int b2), .val (.int t2), .val (.int t3), .val (.ref b243), .val (.int (1 : Int32)), .val (.int t2), .val (.int (0 : Int32)), .val (.int (0 : Int32)), .val (.int (0 : Int32)), .val (.int t3), .val (.int (0 : Int32))]) rfl (pc' := 311) rfl ?_
          refine r_iload X283.here hx (hb hby at_311) rfl (pc' := 313) rfl ?_
          refine r_retN X283 hx hlk hret (by simp) (hb hby at_313) (w := (1 : Int32)) rfl ?_ (by decide) (by decide)
          try rw [e283]
          exact ⟨rfl, N283⟩
      · refine r_iload X271.here hx (hb hby at_189) rfl (pc' := 191) rfl ?_
        refine r_goto X271.here hx (hb hby at_191) (by decide) (pc' := 195) (by decide) ?_
        refine r_istore X271.here hx (hb hby at_195) (l' := #[.val (.int s1), .val (.int s2), .val (.int s3), .val (.int b), .val (.int cc), .val (.int k), .val (.int (b &&& (15 : Int32))), .val (.int b2), .val (.int t2), .val (.int t3), .val (.ref b243), .val (.int (1 : Int32)), .val (.int t2), .val (.int (0 : Int32)), .val (.int t2), .unset, .unset, .unset]) rfl (pc' := 197) rfl ?_
        refine r_iload X271.here hx (hb hby at_197) rfl (pc' := 199) rfl ?_
        refine r_iload X271.here hx (hb hby at_199) rfl (pc' := 201) rfl ?_
        refine r_if_ne X271.here hx (hb hby at_201) (by decide) (pc' := 209) (by decide) (pc2 := 204) rfl (fun hc201 => absurd (Classical.not_not.mp hc186) hc201) (fun hc201 => ?_)
        refine r_iload X271.here hx (hb hby at_204) rfl (pc' := 206) rfl ?_
        refine r_goto X271.here hx (hb hby at_206) (by decide) (pc' := 210) (by decide) ?_
        refine r_istore X271.here hx (hb hby at_210) (l' := #[.val (.int s1), .val (.int s2), .val (.int s3), .val (.int b), .val (.int cc), .val (.int k), .val (.int (b &&& (15 : Int32))), .val (.int b2), .val (.int t2), .val (.int t3), .val (.ref b243), .val (.int (1 : Int32)), .val (.int t2), .val (.int (0 : Int32)), .val (.int t2), .val (.int (0 : Int32)), .unset, .unset]) rfl (pc' := 212) rfl ?_
        refine r_iload X271.here hx (hb hby at_212) rfl (pc' := 214) rfl ?_
        refine r_istore X271.here hx (hb hby at_214) (l' := #[.val (.int s1), .val (.int s2), .val (.int s3), .val (.int b), .val (.int cc), .val (.int k), .val (.int (b &&& (15 : Int32))), .val (.int b2), .val (.int t2), .val (.int t3), .val (.ref b243), .val (.int (1 : Int32)), .val (.int t2), .val (.int (0 : Int32)), .val (.int t2), .val (.int (0 : Int32)), .val (.int t3), .unset]) rfl (pc' := 216) rfl ?_
        refine r_iload X271.here hx (hb hby at_216) rfl (pc' := 218) rfl ?_
        refine r_iload X271.here hx (hb hby at_218) rfl (pc' := 220) rfl ?_
        refine r_if_eq X271.here hx (hb hby at_220) (by decide) (pc' := 228) (by decide) (pc2 := 223) rfl (fun hc220 => ?_) (fun hc220 => ?_)
        · refine r_iload X271.here hx (hb hby at_228) rfl (pc' := 230) rfl ?_
          refine r_istore X271.here hx (hb hby at_230) (l' := #[.val (.int s1), .val (.int s2), .val (.int s3), .val (.int b), .val (.int cc), .val (.int k), .val (.int (b &&& (15 : Int32))), .val (.int b2), .val (.int t2), .val (.int t3), .val (.ref b243), .val (.int (1 : Int32)), .val (.int t2), .val (.int (0 : Int32)), .val (.int t2), .val (.int (0 : Int32)), .val (.int t3), .val (.int (0 : Int32))]) rfl (pc' := 232) rfl ?_
          refine r_iload X271.here hx (hb hby at_232) rfl (pc' := 234) rfl ?_
          refine r_if0_eq X271.here hx (hb hby at_234) (by decide) (pc' := 265) (by decide) (pc2 := 237) rfl (fun hc234 => absurd hc234 (by decide)) (fun hc234 => ?_)
          refine r_aload X271.here hx (hb hby at_237) rfl rfl (pc' := 239) rfl ?_
          refine r_iload X271.here hx (hb hby at_239) rfl (pc' := 241) rfl ?_
          refine r_callV X271 hx hZ (y := (⟨"com/example/ajif/ajif/TokenTable", "following", "(I)I"⟩ : MethodName)) (z := (⟨"com/example/ajif/ajif/TokenTable", "following", "(I)I"⟩ : MethodName)) (rm := ({ frames := 0, cells := 0, slots := 0, locals := 0 } : Room)) hown (hw _ (List.mem_of_getElem? (i := 36) rfl)) (hw _ (List.mem_of_getElem? (i := 37) rfl)) (notFace_of_selects (args := #[]) (mvT hZ (hw _ (List.mem_of_getElem? (i := 39) rfl)))) (hw _ (List.mem_of_getElem? (i := 39) rfl)) (hw _ (List.mem_of_getElem? (i := 38) rfl)) (hw _ (List.mem_of_getElem? (i := 2) rfl)) (hw _ (List.mem_of_getElem? (i := 40) rfl)) (by decide) (rm_following l Z a0 hw [] b243 f b2 (own_upd (own_upd (own_upd (fun _ => (0 : Int32)) (b &&& (15 : Int32)).toInt.toNat s1) (b &&& (15 : Int32)).toInt.toNat t2) b2.toInt.toNat t3) T271.heap n0 Z275 f273 Af271 hb2.1 hb2.2) rfl f272 (by rw [hml]; rfl) (argsL := [(.int b2)]) (rest := []) (lenOf pd_2 rfl) rfl rfl (W := 0) rfl (by decide) (by decide) (by decide) (by decide) (hb hby at_241) (pc' := 244) rfl ?_
          rintro v284 T284 L284 X284 ⟨rfl, Nq284, e284⟩
          have N284 := Fr.app N271 Nq284
          show Run p e below _ _ T284 (mkF m 244 #[.val (.int s1), .val (.int s2), .val (.int s3), .val (.int b), .val (.int cc), .val (.int k), .val (.int (b &&& (15 : Int32))), .val (.int b2), .val (.int t2), .val (.int t3), .val (.ref b243), .val (.int (1 : Int32)), .val (.int t2), .val (.int (0 : Int32)), .val (.int t2), .val (.int (0 : Int32)), .val (.int t3), .val (.int (0 : Int32))] [(.int ((own_upd (own_upd (own_upd (fun _ => (0 : Int32)) (b &&& (15 : Int32)).toInt.toNat s1) (b &&& (15 : Int32)).toInt.toNat t2) b2.toInt.toNat t3) b2.toInt.toNat))])
          refine r_iload X284.here hx (hb hby at_244) rfl (pc' := 246) rfl ?_
          refine r_if_ne X284.here hx (hb hby at_246) (by decide) (pc' := 265) (by decide) (pc2 := 249) rfl (fun hc246 => absurd (own_us _ _ _) hc246) (fun hc246 => ?_)
          refine r_aload X284.here hx (hb hby at_249) rfl rfl (pc' := 251) rfl ?_
          refine r_iload X284.here hx (hb hby at_251) rfl (pc' := 253) rfl ?_
          refine r_callV X284 hx hZ (y := (⟨"com/example/ajif/ajif/TokenTable", "followingBefore", "(I)I"⟩ : MethodName)) (z := (⟨"com/example/ajif/ajif/TokenTable", "followingBefore", "(I)I"⟩ : MethodName)) (rm := ({ frames := 0, cells := 0, slots := 0, locals := 0 } : Room)) hown (hw _ (List.mem_of_getElem? (i := 41) rfl)) (hw _ (List.mem_of_getElem? (i := 42) rfl)) (notFace_of_selects (args := #[]) (mvT hZ (hw _ (List.mem_of_getElem? (i := 44) rfl)))) (hw _ (List.mem_of_getElem? (i := 44) rfl)) (hw _ (List.mem_of_getElem? (i := 43) rfl)) (hw _ (List.mem_of_getElem? (i := 2) rfl)) (hw _ (List.mem_of_getElem? (i := 45) rfl)) (by decide) (rm_followingBefore l Z a0 hw [] b243 g b2 (own_updB (own_upd (own_upd (fun _ => (0 : Int32)) (b &&& (15 : Int32)).toInt.toNat s1) (b &&& (15 : Int32)).toInt.toNat t2) (own_updB (own_upd (fun _ => (0 : Int32)) (b &&& (15 : Int32)).toInt.toNat s1) (own_updB (fun _ => (0 : Int32)) (fun _ => (0 : Int32)) (b &&& (15 : Int32)).toInt.toNat s1) (b &&& (15 : Int32)).toInt.toNat t2) b2.toInt.toNat t3) T271.heap n0 Z275 f274 Ag271 hb2.1 hb2.2) e284 f272 (by rw [hml]; rfl) (argsL := [(.int b2)]) (rest := []) (lenOf pd_2 rfl) rfl rfl (W := 0) rfl (by decide) (by decide) (by decide) (by decide) (hb hby at_253) (pc' := 256) rfl ?_
          rintro v285 T285 L285 X285 ⟨rfl, Nq285, e285⟩
          have N285 := Fr.app N284 Nq285
          show Run p e below _ _ T285 (mkF m 256 #[.val (.int s1), .val (.int s2), .val (.int s3), .val (.int b), .val (.int cc), .val (.int k), .val (.int (b &&& (15 : Int32))), .val (.int b2), .val (.int t2), .val (.int t3), .val (.ref b243), .val (.int (1 : Int32)), .val (.int t2), .val (.int (0 : Int32)), .val (.int t2), .val (.int (0 : Int32)), .val (.int t3), .val (.int (0 : Int32))] [(.int ((own_updB (own_upd (own_upd (fun _ => (0 : Int32)) (b &&& (15 : Int32)).toInt.toNat s1) (b &&& (15 : Int32)).toInt.toNat t2) (own_updB (own_upd (fun _ => (0 : Int32)) (b &&& (15 : Int32)).toInt.toNat s1) (own_updB (fun _ => (0 : Int32)) (fun _ => (0 : Int32)) (b &&& (15 : Int32)).toInt.toNat s1) (b &&& (15 : Int32)).toInt.toNat t2) b2.toInt.toNat t3) b2.toInt.toNat))])
          refine r_iload X285.here hx (hb hby at_256) rfl (pc' := 258) rfl ?_
          refine r_if_ne X285.here hx (hb hby at_258) (by decide) (pc' := 265) (by decide) (pc2 := 261) rfl (fun hc258 => absurd (by have q : b2 = (b &&& (15 : Int32)) := Classical.not_not.mp hc186; rw [q, own_bs, own_us]; rw [if_pos hc220.symm, own_bs, own_us]; rw [if_pos hc127.symm, own_bs]; split <;> rfl) hc258) (fun hc258 => ?_)
          refine r_iconst X285.here hx (hb hby at_261) (v := 1) rfl (pc' := 262) rfl ?_
          refine r_goto X285.here hx (hb hby at_262) (by decide) (pc' := 266) (by decide) ?_
          refine r_istore X285.here hx (hb hby at_266) (l' := #[.val (.int s1), .val (.int s2), .val (.int s3), .val (.int b), .val (.int cc), .val (.int k), .val (.int (b &&& (15 : Int32))), .val (.int b2), .val (.int t2), .val (.int t3), .val (.ref b243), .val (.int (1 : Int32)), .val (.int t2), .val (.int (0 : Int32)), .val (.int t2), .val (.int (0 : Int32)), .val (.int t3), .val (.int (0 : Int32))]) rfl (pc' := 268) rfl ?_
          refine r_iload X285.here hx (hb hby at_268) rfl (pc' := 270) rfl ?_
          refine r_iload X285.here hx (hb hby at_270) rfl (pc' := 272) rfl ?_
          refine r_if_eq X285.here hx (hb hby at_272) (by decide) (pc' := 311) (by decide) (pc2 := 275) rfl (fun hc272 => ?_) (fun hc272 => absurd (Classical.not_not.mp hc186) hc272)
          refine r_iload X285.here hx (hb hby at_311) rfl (pc' := 313) rfl ?_
          refine r_retN X285 hx hlk hret (by simp) (hb hby at_313) (w := (1 : Int32)) rfl ?_ (by decide) (by decide)
          try rw [e285]
          exact ⟨rfl, N285⟩
        · refine r_iload X271.here hx (hb hby at_223) rfl (pc' := 225) rfl ?_
          refine r_goto X271.here hx (hb hby at_225) (by decide) (pc' := 230) (by decide) ?_
          refine r_istore X271.here hx (hb hby at_230) (l' := #[.val (.int s1), .val (.int s2), .val (.int s3), .val (.int b), .val (.int cc), .val (.int k), .val (.int (b &&& (15 : Int32))), .val (.int b2), .val (.int t2), .val (.int t3), .val (.ref b243), .val (.int (1 : Int32)), .val (.int t2), .val (.int (0 : Int32)), .val (.int t2), .val (.int (0 : Int32)), .val (.int t3), .val (.int t2)]) rfl (pc' := 232) rfl ?_
          refine r_iload X271.here hx (hb hby at_232) rfl (pc' := 234) rfl ?_
          refine r_if0_eq X271.here hx (hb hby at_234) (by decide) (pc' := 265) (by decide) (pc2 := 237) rfl (fun hc234 => absurd hc234 (by decide)) (fun hc234 => ?_)
          refine r_aload X271.here hx (hb hby at_237) rfl rfl (pc' := 239) rfl ?_
          refine r_iload X271.here hx (hb hby at_239) rfl (pc' := 241) rfl ?_
          refine r_callV X271 hx hZ (y := (⟨"com/example/ajif/ajif/TokenTable", "following", "(I)I"⟩ : MethodName)) (z := (⟨"com/example/ajif/ajif/TokenTable", "following", "(I)I"⟩ : MethodName)) (rm := ({ frames := 0, cells := 0, slots := 0, locals := 0 } : Room)) hown (hw _ (List.mem_of_getElem? (i := 36) rfl)) (hw _ (List.mem_of_getElem? (i := 37) rfl)) (notFace_of_selects (args := #[]) (mvT hZ (hw _ (List.mem_of_getElem? (i := 39) rfl)))) (hw _ (List.mem_of_getElem? (i := 39) rfl)) (hw _ (List.mem_of_getElem? (i := 38) rfl)) (hw _ (List.mem_of_getElem? (i := 2) rfl)) (hw _ (List.mem_of_getElem? (i := 40) rfl)) (by decide) (rm_following l Z a0 hw [] b243 f b2 (own_upd (own_upd (own_upd (fun _ => (0 : Int32)) (b &&& (15 : Int32)).toInt.toNat s1) (b &&& (15 : Int32)).toInt.toNat t2) b2.toInt.toNat t3) T271.heap n0 Z275 f273 Af271 hb2.1 hb2.2) rfl f272 (by rw [hml]; rfl) (argsL := [(.int b2)]) (rest := []) (lenOf pd_2 rfl) rfl rfl (W := 0) rfl (by decide) (by decide) (by decide) (by decide) (hb hby at_241) (pc' := 244) rfl ?_
          rintro v286 T286 L286 X286 ⟨rfl, Nq286, e286⟩
          have N286 := Fr.app N271 Nq286
          show Run p e below _ _ T286 (mkF m 244 #[.val (.int s1), .val (.int s2), .val (.int s3), .val (.int b), .val (.int cc), .val (.int k), .val (.int (b &&& (15 : Int32))), .val (.int b2), .val (.int t2), .val (.int t3), .val (.ref b243), .val (.int (1 : Int32)), .val (.int t2), .val (.int (0 : Int32)), .val (.int t2), .val (.int (0 : Int32)), .val (.int t3), .val (.int t2)] [(.int ((own_upd (own_upd (own_upd (fun _ => (0 : Int32)) (b &&& (15 : Int32)).toInt.toNat s1) (b &&& (15 : Int32)).toInt.toNat t2) b2.toInt.toNat t3) b2.toInt.toNat))])
          refine r_iload X286.here hx (hb hby at_244) rfl (pc' := 246) rfl ?_
          refine r_if_ne X286.here hx (hb hby at_246) (by decide) (pc' := 265) (by decide) (pc2 := 249) rfl (fun hc246 => absurd (own_us _ _ _) hc246) (fun hc246 => ?_)
          refine r_aload X286.here hx (hb hby at_249) rfl rfl (pc' := 251) rfl ?_
          refine r_iload X286.here hx (hb hby at_251) rfl (pc' := 253) rfl ?_
          refine r_callV X286 hx hZ (y := (⟨"com/example/ajif/ajif/TokenTable", "followingBefore", "(I)I"⟩ : MethodName)) (z := (⟨"com/example/ajif/ajif/TokenTable", "followingBefore", "(I)I"⟩ : MethodName)) (rm := ({ frames := 0, cells := 0, slots := 0, locals := 0 } : Room)) hown (hw _ (List.mem_of_getElem? (i := 41) rfl)) (hw _ (List.mem_of_getElem? (i := 42) rfl)) (notFace_of_selects (args := #[]) (mvT hZ (hw _ (List.mem_of_getElem? (i := 44) rfl)))) (hw _ (List.mem_of_getElem? (i := 44) rfl)) (hw _ (List.mem_of_getElem? (i := 43) rfl)) (hw _ (List.mem_of_getElem? (i := 2) rfl)) (hw _ (List.mem_of_getElem? (i := 45) rfl)) (by decide) (rm_followingBefore l Z a0 hw [] b243 g b2 (own_updB (own_upd (own_upd (fun _ => (0 : Int32)) (b &&& (15 : Int32)).toInt.toNat s1) (b &&& (15 : Int32)).toInt.toNat t2) (own_updB (own_upd (fun _ => (0 : Int32)) (b &&& (15 : Int32)).toInt.toNat s1) (own_updB (fun _ => (0 : Int32)) (fun _ => (0 : Int32)) (b &&& (15 : Int32)).toInt.toNat s1) (b &&& (15 : Int32)).toInt.toNat t2) b2.toInt.toNat t3) T271.heap n0 Z275 f274 Ag271 hb2.1 hb2.2) e286 f272 (by rw [hml]; rfl) (argsL := [(.int b2)]) (rest := []) (lenOf pd_2 rfl) rfl rfl (W := 0) rfl (by decide) (by decide) (by decide) (by decide) (hb hby at_253) (pc' := 256) rfl ?_
          rintro v287 T287 L287 X287 ⟨rfl, Nq287, e287⟩
          have N287 := Fr.app N286 Nq287
          show Run p e below _ _ T287 (mkF m 256 #[.val (.int s1), .val (.int s2), .val (.int s3), .val (.int b), .val (.int cc), .val (.int k), .val (.int (b &&& (15 : Int32))), .val (.int b2), .val (.int t2), .val (.int t3), .val (.ref b243), .val (.int (1 : Int32)), .val (.int t2), .val (.int (0 : Int32)), .val (.int t2), .val (.int (0 : Int32)), .val (.int t3), .val (.int t2)] [(.int ((own_updB (own_upd (own_upd (fun _ => (0 : Int32)) (b &&& (15 : Int32)).toInt.toNat s1) (b &&& (15 : Int32)).toInt.toNat t2) (own_updB (own_upd (fun _ => (0 : Int32)) (b &&& (15 : Int32)).toInt.toNat s1) (own_updB (fun _ => (0 : Int32)) (fun _ => (0 : Int32)) (b &&& (15 : Int32)).toInt.toNat s1) (b &&& (15 : Int32)).toInt.toNat t2) b2.toInt.toNat t3) b2.toInt.toNat))])
          refine r_iload X287.here hx (hb hby at_256) rfl (pc' := 258) rfl ?_
          refine r_if_ne X287.here hx (hb hby at_258) (by decide) (pc' := 265) (by decide) (pc2 := 261) rfl (fun hc258 => absurd (by have q : b2 = (b &&& (15 : Int32)) := Classical.not_not.mp hc186; rw [q, own_bs, own_us]; rw [if_neg (fun q => hc220 q.symm)]) hc258) (fun hc258 => ?_)
          refine r_iconst X287.here hx (hb hby at_261) (v := 1) rfl (pc' := 262) rfl ?_
          refine r_goto X287.here hx (hb hby at_262) (by decide) (pc' := 266) (by decide) ?_
          refine r_istore X287.here hx (hb hby at_266) (l' := #[.val (.int s1), .val (.int s2), .val (.int s3), .val (.int b), .val (.int cc), .val (.int k), .val (.int (b &&& (15 : Int32))), .val (.int b2), .val (.int t2), .val (.int t3), .val (.ref b243), .val (.int (1 : Int32)), .val (.int t2), .val (.int (0 : Int32)), .val (.int t2), .val (.int (0 : Int32)), .val (.int t3), .val (.int t2)]) rfl (pc' := 268) rfl ?_
          refine r_iload X287.here hx (hb hby at_268) rfl (pc' := 270) rfl ?_
          refine r_iload X287.here hx (hb hby at_270) rfl (pc' := 272) rfl ?_
          refine r_if_eq X287.here hx (hb hby at_272) (by decide) (pc' := 311) (by decide) (pc2 := 275) rfl (fun hc272 => ?_) (fun hc272 => absurd (Classical.not_not.mp hc186) hc272)
          refine r_iload X287.here hx (hb hby at_311) rfl (pc' := 313) rfl ?_
          refine r_retN X287 hx hlk hret (by simp) (hb hby at_313) (w := (1 : Int32)) rfl ?_ (by decide) (by decide)
          try rw [e287]
          exact ⟨rfl, N287⟩
    · refine r_iloadN X264.here hx (hb hby at_130) rfl (pc' := 131) rfl ?_
      refine r_goto X264.here hx (hb hby at_131) (by decide) (pc' := 135) (by decide) ?_
      refine r_istore X264.here hx (hb hby at_135) (l' := #[.val (.int s1), .val (.int s2), .val (.int s3), .val (.int b), .val (.int cc), .val (.int k), .val (.int (b &&& (15 : Int32))), .val (.int b2), .val (.int t2), .val (.int t3), .val (.ref b243), .val (.int (1 : Int32)), .val (.int t2), .val (.int s1), .unset, .unset, .unset, .unset]) rfl (pc' := 137) rfl ?_
      refine r_iload X264.here hx (hb hby at_137) rfl (pc' := 139) rfl ?_
      refine r_if0_eq X264.here hx (hb hby at_139) (by decide) (pc' := 170) (by decide) (pc2 := 142) rfl (fun hc139 => absurd hc139 (by decide)) (fun hc139 => ?_)
      refine r_aload X264.here hx (hb hby at_142) rfl rfl (pc' := 144) rfl ?_
      refine r_iload X264.here hx (hb hby at_144) rfl (pc' := 146) rfl ?_
      refine r_callV X264 hx hZ (y := (⟨"com/example/ajif/ajif/TokenTable", "following", "(I)I"⟩ : MethodName)) (z := (⟨"com/example/ajif/ajif/TokenTable", "following", "(I)I"⟩ : MethodName)) (rm := ({ frames := 0, cells := 0, slots := 0, locals := 0 } : Room)) hown (hw _ (List.mem_of_getElem? (i := 36) rfl)) (hw _ (List.mem_of_getElem? (i := 37) rfl)) (notFace_of_selects (args := #[]) (mvT hZ (hw _ (List.mem_of_getElem? (i := 39) rfl)))) (hw _ (List.mem_of_getElem? (i := 39) rfl)) (hw _ (List.mem_of_getElem? (i := 38) rfl)) (hw _ (List.mem_of_getElem? (i := 2) rfl)) (hw _ (List.mem_of_getElem? (i := 40) rfl)) (by decide) (rm_following l Z a0 hw [] b243 f (b &&& (15 : Int32)) (own_upd (own_upd (fun _ => (0 : Int32)) (b &&& (15 : Int32)).toInt.toNat s1) (b &&& (15 : Int32)).toInt.toNat t2) T264.heap n0 Z268 f266 Af264 hb1.1 hb1.2) rfl f265 (by rw [hml]; rfl) (argsL := [(.int (b &&& (15 : Int32)))]) (rest := []) (lenOf pd_2 rfl) rfl rfl (W := 0) rfl (by decide) (by decide) (by decide) (by decide) (hb hby at_146) (pc' := 149) rfl ?_
      rintro v288 T288 L288 X288 ⟨rfl, Nq288, e288⟩
      have N288 := Fr.app N264 Nq288
      show Run p e below _ _ T288 (mkF m 149 #[.val (.int s1), .val (.int s2), .val (.int s3), .val (.int b), .val (.int cc), .val (.int k), .val (.int (b &&& (15 : Int32))), .val (.int b2), .val (.int t2), .val (.int t3), .val (.ref b243), .val (.int (1 : Int32)), .val (.int t2), .val (.int s1), .unset, .unset, .unset, .unset] [(.int ((own_upd (own_upd (fun _ => (0 : Int32)) (b &&& (15 : Int32)).toInt.toNat s1) (b &&& (15 : Int32)).toInt.toNat t2) (b &&& (15 : Int32)).toInt.toNat))])
      refine r_iload X288.here hx (hb hby at_149) rfl (pc' := 151) rfl ?_
      refine r_if_ne X288.here hx (hb hby at_151) (by decide) (pc' := 170) (by decide) (pc2 := 154) rfl (fun hc151 => absurd (own_us _ _ _) hc151) (fun hc151 => ?_)
      refine r_aload X288.here hx (hb hby at_154) rfl rfl (pc' := 156) rfl ?_
      refine r_iload X288.here hx (hb hby at_156) rfl (pc' := 158) rfl ?_
      refine r_callV X288 hx hZ (y := (⟨"com/example/ajif/ajif/TokenTable", "followingBefore", "(I)I"⟩ : MethodName)) (z := (⟨"com/example/ajif/ajif/TokenTable", "followingBefore", "(I)I"⟩ : MethodName)) (rm := ({ frames := 0, cells := 0, slots := 0, locals := 0 } : Room)) hown (hw _ (List.mem_of_getElem? (i := 41) rfl)) (hw _ (List.mem_of_getElem? (i := 42) rfl)) (notFace_of_selects (args := #[]) (mvT hZ (hw _ (List.mem_of_getElem? (i := 44) rfl)))) (hw _ (List.mem_of_getElem? (i := 44) rfl)) (hw _ (List.mem_of_getElem? (i := 43) rfl)) (hw _ (List.mem_of_getElem? (i := 2) rfl)) (hw _ (List.mem_of_getElem? (i := 45) rfl)) (by decide) (rm_followingBefore l Z a0 hw [] b243 g (b &&& (15 : Int32)) (own_updB (own_upd (fun _ => (0 : Int32)) (b &&& (15 : Int32)).toInt.toNat s1) (own_updB (fun _ => (0 : Int32)) (fun _ => (0 : Int32)) (b &&& (15 : Int32)).toInt.toNat s1) (b &&& (15 : Int32)).toInt.toNat t2) T264.heap n0 Z268 f267 Ag264 hb1.1 hb1.2) e288 f265 (by rw [hml]; rfl) (argsL := [(.int (b &&& (15 : Int32)))]) (rest := []) (lenOf pd_2 rfl) rfl rfl (W := 0) rfl (by decide) (by decide) (by decide) (by decide) (hb hby at_158) (pc' := 161) rfl ?_
      rintro v289 T289 L289 X289 ⟨rfl, Nq289, e289⟩
      have N289 := Fr.app N288 Nq289
      show Run p e below _ _ T289 (mkF m 161 #[.val (.int s1), .val (.int s2), .val (.int s3), .val (.int b), .val (.int cc), .val (.int k), .val (.int (b &&& (15 : Int32))), .val (.int b2), .val (.int t2), .val (.int t3), .val (.ref b243), .val (.int (1 : Int32)), .val (.int t2), .val (.int s1), .unset, .unset, .unset, .unset] [(.int ((own_updB (own_upd (fun _ => (0 : Int32)) (b &&& (15 : Int32)).toInt.toNat s1) (own_updB (fun _ => (0 : Int32)) (fun _ => (0 : Int32)) (b &&& (15 : Int32)).toInt.toNat s1) (b &&& (15 : Int32)).toInt.toNat t2) (b &&& (15 : Int32)).toInt.toNat))])
      refine r_iload X289.here hx (hb hby at_161) rfl (pc' := 163) rfl ?_
      refine r_if_ne X289.here hx (hb hby at_163) (by decide) (pc' := 170) (by decide) (pc2 := 166) rfl (fun hc163 => absurd (by rw [own_bs, own_us, if_neg (fun q => hc127 q.symm)]) hc163) (fun hc163 => ?_)
      refine r_iconst X289.here hx (hb hby at_166) (v := 1) rfl (pc' := 167) rfl ?_
      refine r_goto X289.here hx (hb hby at_167) (by decide) (pc' := 171) (by decide) ?_
      refine r_istore X289.here hx (hb hby at_171) (l' := #[.val (.int s1), .val (.int s2), .val (.int s3), .val (.int b), .val (.int cc), .val (.int k), .val (.int (b &&& (15 : Int32))), .val (.int b2), .val (.int t2), .val (.int t3), .val (.ref b243), .val (.int (1 : Int32)), .val (.int t2), .val (.int s1), .unset, .unset, .unset, .unset]) rfl (pc' := 173) rfl ?_
      refine r_aload X289.here hx (hb hby at_173) rfl rfl (pc' := 175) rfl ?_
      refine r_iload X289.here hx (hb hby at_175) rfl (pc' := 177) rfl ?_
      refine r_iload X289.here hx (hb hby at_177) rfl (pc' := 179) rfl ?_
      refine r_callV X289 hx hZ (y := (⟨"com/example/ajif/ajif/TokenTable", "follows", "(II)V"⟩ : MethodName)) (z := (⟨"com/example/ajif/ajif/TokenTable", "follows", "(II)V"⟩ : MethodName)) (rm := ({ frames := 0, cells := 0, slots := 0, locals := 0 } : Room)) hown (hw _ (List.mem_of_getElem? (i := 31) rfl)) (hw _ (List.mem_of_getElem? (i := 32) rfl)) (notFace_of_selects (args := #[]) (mvT hZ (hw _ (List.mem_of_getElem? (i := 34) rfl)))) (hw _ (List.mem_of_getElem? (i := 34) rfl)) (hw _ (List.mem_of_getElem? (i := 33) rfl)) (hw _ (List.mem_of_getElem? (i := 2) rfl)) (hw _ (List.mem_of_getElem? (i := 35) rfl)) (by decide) (rmW l Z a0 hw [] b243 f g t3 b2 (own_upd (own_upd (fun _ => (0 : Int32)) (b &&& (15 : Int32)).toInt.toNat s1) (b &&& (15 : Int32)).toInt.toNat t2) (own_updB (own_upd (fun _ => (0 : Int32)) (b &&& (15 : Int32)).toInt.toNat s1) (own_updB (fun _ => (0 : Int32)) (fun _ => (0 : Int32)) (b &&& (15 : Int32)).toInt.toNat s1) (b &&& (15 : Int32)).toInt.toNat t2) T264.heap n0 Z268 f266 f267 Af264 Ag264 nf ng fa ga' gf hb2.1 hb2.2) e289 f265 (by rw [hml]; rfl) (argsL := [(.int t3), (.int b2)]) (rest := []) (lenOf pd_1 rfl) rfl rfl (W := 0) rfl (by decide) (by decide) (by decide) (by decide) (hb hby at_179) (pc' := 182) rfl ?_
      rintro v290 T290 L290 X290 ⟨rfl, Nq290, K290, Af290, Ag290⟩
      have N290 := Fr.app N289 Nq290
      show Run p e below _ _ T290 (mkF m 182 #[.val (.int s1), .val (.int s2), .val (.int s3), .val (.int b), .val (.int cc), .val (.int k), .val (.int (b &&& (15 : Int32))), .val (.int b2), .val (.int t2), .val (.int t3), .val (.ref b243), .val (.int (1 : Int32)), .val (.int t2), .val (.int s1), .unset, .unset, .unset, .unset] [])
      have f291 := f265.keep K290
      have f292 := f266.keep K290 (ninS (Ne.symm fa) (ninS (Ne.symm ga') nin0))
      have f293 := f267.keep K290 (ninS (Ne.symm fa) (ninS (Ne.symm ga') nin0))
      have Z294 : n0 ≤ T290.heap.size := by have q := Z268; exact Nat.le_trans q K290.1
      refine r_iload X290.here hx (hb hby at_182) rfl (pc' := 184) rfl ?_
      refine r_iload X290.here hx (hb hby at_184) rfl (pc' := 186) rfl ?_
      refine r_if_ne X290.here hx (hb hby at_186) (by decide) (pc' := 194) (by decide) (pc2 := 189) rfl (fun hc186 => ?_) (fun hc186 => ?_)
      · refine r_iconst X290.here hx (hb hby at_194) (v := 0) rfl (pc' := 195) rfl ?_
        refine r_istore X290.here hx (hb hby at_195) (l' := #[.val (.int s1), .val (.int s2), .val (.int s3), .val (.int b), .val (.int cc), .val (.int k), .val (.int (b &&& (15 : Int32))), .val (.int b2), .val (.int t2), .val (.int t3), .val (.ref b243), .val (.int (1 : Int32)), .val (.int t2), .val (.int s1), .val (.int (0 : Int32)), .unset, .unset, .unset]) rfl (pc' := 197) rfl ?_
        refine r_iload X290.here hx (hb hby at_197) rfl (pc' := 199) rfl ?_
        refine r_iload X290.here hx (hb hby at_199) rfl (pc' := 201) rfl ?_
        refine r_if_ne X290.here hx (hb hby at_201) (by decide) (pc' := 209) (by decide) (pc2 := 204) rfl (fun hc201 => ?_) (fun hc201 => absurd hc186 hc201)
        refine r_iconst X290.here hx (hb hby at_209) (v := 0) rfl (pc' := 210) rfl ?_
        refine r_istore X290.here hx (hb hby at_210) (l' := #[.val (.int s1), .val (.int s2), .val (.int s3), .val (.int b), .val (.int cc), .val (.int k), .val (.int (b &&& (15 : Int32))), .val (.int b2), .val (.int t2), .val (.int t3), .val (.ref b243), .val (.int (1 : Int32)), .val (.int t2), .val (.int s1), .val (.int (0 : Int32)), .val (.int (0 : Int32)), .unset, .unset]) rfl (pc' := 212) rfl ?_
        refine r_iload X290.here hx (hb hby at_212) rfl (pc' := 214) rfl ?_
        refine r_istore X290.here hx (hb hby at_214) (l' := #[.val (.int s1), .val (.int s2), .val (.int s3), .val (.int b), .val (.int cc), .val (.int k), .val (.int (b &&& (15 : Int32))), .val (.int b2), .val (.int t2), .val (.int t3), .val (.ref b243), .val (.int (1 : Int32)), .val (.int t2), .val (.int s1), .val (.int (0 : Int32)), .val (.int (0 : Int32)), .val (.int t3), .unset]) rfl (pc' := 216) rfl ?_
        refine r_iload X290.here hx (hb hby at_216) rfl (pc' := 218) rfl ?_
        refine r_iload X290.here hx (hb hby at_218) rfl (pc' := 220) rfl ?_
        refine r_if_eq X290.here hx (hb hby at_220) (by decide) (pc' := 228) (by decide) (pc2 := 223) rfl (fun hc220 => ?_) (fun hc220 => ?_)
        · refine r_iload X290.here hx (hb hby at_228) rfl (pc' := 230) rfl ?_
          refine r_istore X290.here hx (hb hby at_230) (l' := #[.val (.int s1), .val (.int s2), .val (.int s3), .val (.int b), .val (.int cc), .val (.int k), .val (.int (b &&& (15 : Int32))), .val (.int b2), .val (.int t2), .val (.int t3), .val (.ref b243), .val (.int (1 : Int32)), .val (.int t2), .val (.int s1), .val (.int (0 : Int32)), .val (.int (0 : Int32)), .val (.int t3), .val (.int (0 : Int32))]) rfl (pc' := 232) rfl ?_
          refine r_iload X290.here hx (hb hby at_232) rfl (pc' := 234) rfl ?_
          refine r_if0_eq X290.here hx (hb hby at_234) (by decide) (pc' := 265) (by decide) (pc2 := 237) rfl (fun hc234 => absurd hc234 (by decide)) (fun hc234 => ?_)
          refine r_aload X290.here hx (hb hby at_237) rfl rfl (pc' := 239) rfl ?_
          refine r_iload X290.here hx (hb hby at_239) rfl (pc' := 241) rfl ?_
          refine r_callV X290 hx hZ (y := (⟨"com/example/ajif/ajif/TokenTable", "following", "(I)I"⟩ : MethodName)) (z := (⟨"com/example/ajif/ajif/TokenTable", "following", "(I)I"⟩ : MethodName)) (rm := ({ frames := 0, cells := 0, slots := 0, locals := 0 } : Room)) hown (hw _ (List.mem_of_getElem? (i := 36) rfl)) (hw _ (List.mem_of_getElem? (i := 37) rfl)) (notFace_of_selects (args := #[]) (mvT hZ (hw _ (List.mem_of_getElem? (i := 39) rfl)))) (hw _ (List.mem_of_getElem? (i := 39) rfl)) (hw _ (List.mem_of_getElem? (i := 38) rfl)) (hw _ (List.mem_of_getElem? (i := 2) rfl)) (hw _ (List.mem_of_getElem? (i := 40) rfl)) (by decide) (rm_following l Z a0 hw [] b243 f b2 (own_upd (own_upd (own_upd (fun _ => (0 : Int32)) (b &&& (15 : Int32)).toInt.toNat s1) (b &&& (15 : Int32)).toInt.toNat t2) b2.toInt.toNat t3) T290.heap n0 Z294 f292 Af290 hb2.1 hb2.2) rfl f291 (by rw [hml]; rfl) (argsL := [(.int b2)]) (rest := []) (lenOf pd_2 rfl) rfl rfl (W := 0) rfl (by decide) (by decide) (by decide) (by decide) (hb hby at_241) (pc' := 244) rfl ?_
          rintro v295 T295 L295 X295 ⟨rfl, Nq295, e295⟩
          have N295 := Fr.app N290 Nq295
          show Run p e below _ _ T295 (mkF m 244 #[.val (.int s1), .val (.int s2), .val (.int s3), .val (.int b), .val (.int cc), .val (.int k), .val (.int (b &&& (15 : Int32))), .val (.int b2), .val (.int t2), .val (.int t3), .val (.ref b243), .val (.int (1 : Int32)), .val (.int t2), .val (.int s1), .val (.int (0 : Int32)), .val (.int (0 : Int32)), .val (.int t3), .val (.int (0 : Int32))] [(.int ((own_upd (own_upd (own_upd (fun _ => (0 : Int32)) (b &&& (15 : Int32)).toInt.toNat s1) (b &&& (15 : Int32)).toInt.toNat t2) b2.toInt.toNat t3) b2.toInt.toNat))])
          refine r_iload X295.here hx (hb hby at_244) rfl (pc' := 246) rfl ?_
          refine r_if_ne X295.here hx (hb hby at_246) (by decide) (pc' := 265) (by decide) (pc2 := 249) rfl (fun hc246 => absurd (own_us _ _ _) hc246) (fun hc246 => ?_)
          refine r_aload X295.here hx (hb hby at_249) rfl rfl (pc' := 251) rfl ?_
          refine r_iload X295.here hx (hb hby at_251) rfl (pc' := 253) rfl ?_
          refine r_callV X295 hx hZ (y := (⟨"com/example/ajif/ajif/TokenTable", "followingBefore", "(I)I"⟩ : MethodName)) (z := (⟨"com/example/ajif/ajif/TokenTable", "followingBefore", "(I)I"⟩ : MethodName)) (rm := ({ frames := 0, cells := 0, slots := 0, locals := 0 } : Room)) hown (hw _ (List.mem_of_getElem? (i := 41) rfl)) (hw _ (List.mem_of_getElem? (i := 42) rfl)) (notFace_of_selects (args := #[]) (mvT hZ (hw _ (List.mem_of_getElem? (i := 44) rfl)))) (hw _ (List.mem_of_getElem? (i := 44) rfl)) (hw _ (List.mem_of_getElem? (i := 43) rfl)) (hw _ (List.mem_of_getElem? (i := 2) rfl)) (hw _ (List.mem_of_getElem? (i := 45) rfl)) (by decide) (rm_followingBefore l Z a0 hw [] b243 g b2 (own_updB (own_upd (own_upd (fun _ => (0 : Int32)) (b &&& (15 : Int32)).toInt.toNat s1) (b &&& (15 : Int32)).toInt.toNat t2) (own_updB (own_upd (fun _ => (0 : Int32)) (b &&& (15 : Int32)).toInt.toNat s1) (own_updB (fun _ => (0 : Int32)) (fun _ => (0 : Int32)) (b &&& (15 : Int32)).toInt.toNat s1) (b &&& (15 : Int32)).toInt.toNat t2) b2.toInt.toNat t3) T290.heap n0 Z294 f293 Ag290 hb2.1 hb2.2) e295 f291 (by rw [hml]; rfl) (argsL := [(.int b2)]) (rest := []) (lenOf pd_2 rfl) rfl rfl (W := 0) rfl (by decide) (by decide) (by decide) (by decide) (hb hby at_253) (pc' := 256) rfl ?_
          rintro v296 T296 L296 X296 ⟨rfl, Nq296, e296⟩
          have N296 := Fr.app N295 Nq296
          show Run p e below _ _ T296 (mkF m 256 #[.val (.int s1), .val (.int s2), .val (.int s3), .val (.int b), .val (.int cc), .val (.int k), .val (.int (b &&& (15 : Int32))), .val (.int b2), .val (.int t2), .val (.int t3), .val (.ref b243), .val (.int (1 : Int32)), .val (.int t2), .val (.int s1), .val (.int (0 : Int32)), .val (.int (0 : Int32)), .val (.int t3), .val (.int (0 : Int32))] [(.int ((own_updB (own_upd (own_upd (fun _ => (0 : Int32)) (b &&& (15 : Int32)).toInt.toNat s1) (b &&& (15 : Int32)).toInt.toNat t2) (own_updB (own_upd (fun _ => (0 : Int32)) (b &&& (15 : Int32)).toInt.toNat s1) (own_updB (fun _ => (0 : Int32)) (fun _ => (0 : Int32)) (b &&& (15 : Int32)).toInt.toNat s1) (b &&& (15 : Int32)).toInt.toNat t2) b2.toInt.toNat t3) b2.toInt.toNat))])
          refine r_iload X296.here hx (hb hby at_256) rfl (pc' := 258) rfl ?_
          refine r_if_ne X296.here hx (hb hby at_258) (by decide) (pc' := 265) (by decide) (pc2 := 261) rfl (fun hc258 => absurd (by have q : b2.toInt.toNat ≠ (b &&& (15 : Int32)).toInt.toNat := own_nn hb1.1 hb2.1 (fun z => hc186 z.symm); rw [own_bs, own_uo q, own_uo q, own_bo q, own_bo q]; split <;> rfl) hc258) (fun hc258 => ?_)
          refine r_iconst X296.here hx (hb hby at_261) (v := 1) rfl (pc' := 262) rfl ?_
          refine r_goto X296.here hx (hb hby at_262) (by decide) (pc' := 266) (by decide) ?_
          refine r_istore X296.here hx (hb hby at_266) (l' := #[.val (.int s1), .val (.int s2), .val (.int s3), .val (.int b), .val (.int cc), .val (.int k), .val (.int (b &&& (15 : Int32))), .val (.int b2), .val (.int t2), .val (.int t3), .val (.ref b243), .val (.int (1 : Int32)), .val (.int t2), .val (.int s1), .val (.int (0 : Int32)), .val (.int (0 : Int32)), .val (.int t3), .val (.int (0 : Int32))]) rfl (pc' := 268) rfl ?_
          refine r_iload X296.here hx (hb hby at_268) rfl (pc' := 270) rfl ?_
          refine r_iload X296.here hx (hb hby at_270) rfl (pc' := 272) rfl ?_
          refine r_if_eq X296.here hx (hb hby at_272) (by decide) (pc' := 311) (by decide) (pc2 := 275) rfl (fun hc272 => absurd hc272 hc186) (fun hc272 => ?_)
          refine r_iload X296.here hx (hb hby at_275) rfl (pc' := 277) rfl ?_
          refine r_if0_eq X296.here hx (hb hby at_277) (by decide) (pc' := 308) (by decide) (pc2 := 280) rfl (fun hc277 => absurd hc277 (by decide)) (fun hc277 => ?_)
          refine r_aload X296.here hx (hb hby at_280) rfl rfl (pc' := 282) rfl ?_
          refine r_iload X296.here hx (hb hby at_282) rfl (pc' := 284) rfl ?_
          refine r_callV X296 hx hZ (y := (⟨"com/example/ajif/ajif/TokenTable", "following", "(I)I"⟩ : MethodName)) (z := (⟨"com/example/ajif/ajif/TokenTable", "following", "(I)I"⟩ : MethodName)) (rm := ({ frames := 0, cells := 0, slots := 0, locals := 0 } : Room)) hown (hw _ (List.mem_of_getElem? (i := 36) rfl)) (hw _ (List.mem_of_getElem? (i := 37) rfl)) (notFace_of_selects (args := #[]) (mvT hZ (hw _ (List.mem_of_getElem? (i := 39) rfl)))) (hw _ (List.mem_of_getElem? (i := 39) rfl)) (hw _ (List.mem_of_getElem? (i := 38) rfl)) (hw _ (List.mem_of_getElem? (i := 2) rfl)) (hw _ (List.mem_of_getElem? (i := 40) rfl)) (by decide) (rm_following l Z a0 hw [] b243 f (b &&& (15 : Int32)) (own_upd (own_upd (own_upd (fun _ => (0 : Int32)) (b &&& (15 : Int32)).toInt.toNat s1) (b &&& (15 : Int32)).toInt.toNat t2) b2.toInt.toNat t3) T290.heap n0 Z294 f292 Af290 hb1.1 hb1.2) e296 f291 (by rw [hml]; rfl) (argsL := [(.int (b &&& (15 : Int32)))]) (rest := []) (lenOf pd_2 rfl) rfl rfl (W := 0) rfl (by decide) (by decide) (by decide) (by decide) (hb hby at_284) (pc' := 287) rfl ?_
          rintro v297 T297 L297 X297 ⟨rfl, Nq297, e297⟩
          have N297 := Fr.app N296 Nq297
          show Run p e below _ _ T297 (mkF m 287 #[.val (.int s1), .val (.int s2), .val (.int s3), .val (.int b), .val (.int cc), .val (.int k), .val (.int (b &&& (15 : Int32))), .val (.int b2), .val (.int t2), .val (.int t3), .val (.ref b243), .val (.int (1 : Int32)), .val (.int t2), .val (.int s1), .val (.int (0 : Int32)), .val (.int (0 : Int32)), .val (.int t3), .val (.int (0 : Int32))] [(.int ((own_upd (own_upd (own_upd (fun _ => (0 : Int32)) (b &&& (15 : Int32)).toInt.toNat s1) (b &&& (15 : Int32)).toInt.toNat t2) b2.toInt.toNat t3) (b &&& (15 : Int32)).toInt.toNat))])
          refine r_iload X297.here hx (hb hby at_287) rfl (pc' := 289) rfl ?_
          refine r_if_ne X297.here hx (hb hby at_289) (by decide) (pc' := 308) (by decide) (pc2 := 292) rfl (fun hc289 => absurd (by have q : (b &&& (15 : Int32)).toInt.toNat ≠ b2.toInt.toNat := own_nn hb2.1 hb1.1 hc186; rw [own_uo q, own_us]) hc289) (fun hc289 => ?_)
          refine r_aload X297.here hx (hb hby at_292) rfl rfl (pc' := 294) rfl ?_
          refine r_iload X297.here hx (hb hby at_294) rfl (pc' := 296) rfl ?_
          refine r_callV X297 hx hZ (y := (⟨"com/example/ajif/ajif/TokenTable", "followingBefore", "(I)I"⟩ : MethodName)) (z := (⟨"com/example/ajif/ajif/TokenTable", "followingBefore", "(I)I"⟩ : MethodName)) (rm := ({ frames := 0, cells := 0, slots := 0, locals := 0 } : Room)) hown (hw _ (List.mem_of_getElem? (i := 41) rfl)) (hw _ (List.mem_of_getElem? (i := 42) rfl)) (notFace_of_selects (args := #[]) (mvT hZ (hw _ (List.mem_of_getElem? (i := 44) rfl)))) (hw _ (List.mem_of_getElem? (i := 44) rfl)) (hw _ (List.mem_of_getElem? (i := 43) rfl)) (hw _ (List.mem_of_getElem? (i := 2) rfl)) (hw _ (List.mem_of_getElem? (i := 45) rfl)) (by decide) (rm_followingBefore l Z a0 hw [] b243 g (b &&& (15 : Int32)) (own_updB (own_upd (own_upd (fun _ => (0 : Int32)) (b &&& (15 : Int32)).toInt.toNat s1) (b &&& (15 : Int32)).toInt.toNat t2) (own_updB (own_upd (fun _ => (0 : Int32)) (b &&& (15 : Int32)).toInt.toNat s1) (own_updB (fun _ => (0 : Int32)) (fun _ => (0 : Int32)) (b &&& (15 : Int32)).toInt.toNat s1) (b &&& (15 : Int32)).toInt.toNat t2) b2.toInt.toNat t3) T290.heap n0 Z294 f293 Ag290 hb1.1 hb1.2) e297 f291 (by rw [hml]; rfl) (argsL := [(.int (b &&& (15 : Int32)))]) (rest := []) (lenOf pd_2 rfl) rfl rfl (W := 0) rfl (by decide) (by decide) (by decide) (by decide) (hb hby at_296) (pc' := 299) rfl ?_
          rintro v298 T298 L298 X298 ⟨rfl, Nq298, e298⟩
          have N298 := Fr.app N297 Nq298
          show Run p e below _ _ T298 (mkF m 299 #[.val (.int s1), .val (.int s2), .val (.int s3), .val (.int b), .val (.int cc), .val (.int k), .val (.int (b &&& (15 : Int32))), .val (.int b2), .val (.int t2), .val (.int t3), .val (.ref b243), .val (.int (1 : Int32)), .val (.int t2), .val (.int s1), .val (.int (0 : Int32)), .val (.int (0 : Int32)), .val (.int t3), .val (.int (0 : Int32))] [(.int ((own_updB (own_upd (own_upd (fun _ => (0 : Int32)) (b &&& (15 : Int32)).toInt.toNat s1) (b &&& (15 : Int32)).toInt.toNat t2) (own_updB (own_upd (fun _ => (0 : Int32)) (b &&& (15 : Int32)).toInt.toNat s1) (own_updB (fun _ => (0 : Int32)) (fun _ => (0 : Int32)) (b &&& (15 : Int32)).toInt.toNat s1) (b &&& (15 : Int32)).toInt.toNat t2) b2.toInt.toNat t3) (b &&& (15 : Int32)).toInt.toNat))])
          refine r_iload X298.here hx (hb hby at_299) rfl (pc' := 301) rfl ?_
          refine r_if_ne X298.here hx (hb hby at_301) (by decide) (pc' := 308) (by decide) (pc2 := 304) rfl (fun hc301 => absurd (by have q : (b &&& (15 : Int32)).toInt.toNat ≠ b2.toInt.toNat := own_nn hb2.1 hb1.1 hc186; rw [own_bo q, own_bs, own_us]; rw [if_neg (fun q => hc127 q.symm)]) hc301) (fun hc301 => ?_)
          refine r_iconst X298.here hx (hb hby at_304) (v := 1) rfl (pc' := 305) rfl ?_
          refine r_goto X298.here hx (hb hby at_305) (by decide) (pc' := 309) (by decide) ?_
          refine r_istore X298.here hx (hb hby at_309) (l' := #[.val (.int s1), .val (.int s2), .val (.int s3), .val (.int b), .val (.int cc), .val (.int k), .val (.int (b &&& (15 : Int32))), .val (.int b2), .val (.int t2), .val (.int t3), .val (.ref b243), .val (.int (1 : Int32)), .val (.int t2), .val (.int s1), .val (.int (0 : Int32)), .val (.int (0 : Int32)), .val (.int t3), .val (.int (0 : Int32))]) rfl (pc' := 311) rfl ?_
          refine r_iload X298.here hx (hb hby at_311) rfl (pc' := 313) rfl ?_
          refine r_retN X298 hx hlk hret (by simp) (hb hby at_313) (w := (1 : Int32)) rfl ?_ (by decide) (by decide)
          try rw [e298]
          exact ⟨rfl, N298⟩
        · refine r_iload X290.here hx (hb hby at_223) rfl (pc' := 225) rfl ?_
          refine r_goto X290.here hx (hb hby at_225) (by decide) (pc' := 230) (by decide) ?_
          refine r_istore X290.here hx (hb hby at_230) (l' := #[.val (.int s1), .val (.int s2), .val (.int s3), .val (.int b), .val (.int cc), .val (.int k), .val (.int (b &&& (15 : Int32))), .val (.int b2), .val (.int t2), .val (.int t3), .val (.ref b243), .val (.int (1 : Int32)), .val (.int t2), .val (.int s1), .val (.int (0 : Int32)), .val (.int (0 : Int32)), .val (.int t3), .val (.int (0 : Int32))]) rfl (pc' := 232) rfl ?_
          refine r_iload X290.here hx (hb hby at_232) rfl (pc' := 234) rfl ?_
          refine r_if0_eq X290.here hx (hb hby at_234) (by decide) (pc' := 265) (by decide) (pc2 := 237) rfl (fun hc234 => absurd hc234 (by decide)) (fun hc234 => ?_)
          refine r_aload X290.here hx (hb hby at_237) rfl rfl (pc' := 239) rfl ?_
          refine r_iload X290.here hx (hb hby at_239) rfl (pc' := 241) rfl ?_
          refine r_callV X290 hx hZ (y := (⟨"com/example/ajif/ajif/TokenTable", "following", "(I)I"⟩ : MethodName)) (z := (⟨"com/example/ajif/ajif/TokenTable", "following", "(I)I"⟩ : MethodName)) (rm := ({ frames := 0, cells := 0, slots := 0, locals := 0 } : Room)) hown (hw _ (List.mem_of_getElem? (i := 36) rfl)) (hw _ (List.mem_of_getElem? (i := 37) rfl)) (notFace_of_selects (args := #[]) (mvT hZ (hw _ (List.mem_of_getElem? (i := 39) rfl)))) (hw _ (List.mem_of_getElem? (i := 39) rfl)) (hw _ (List.mem_of_getElem? (i := 38) rfl)) (hw _ (List.mem_of_getElem? (i := 2) rfl)) (hw _ (List.mem_of_getElem? (i := 40) rfl)) (by decide) (rm_following l Z a0 hw [] b243 f b2 (own_upd (own_upd (own_upd (fun _ => (0 : Int32)) (b &&& (15 : Int32)).toInt.toNat s1) (b &&& (15 : Int32)).toInt.toNat t2) b2.toInt.toNat t3) T290.heap n0 Z294 f292 Af290 hb2.1 hb2.2) rfl f291 (by rw [hml]; rfl) (argsL := [(.int b2)]) (rest := []) (lenOf pd_2 rfl) rfl rfl (W := 0) rfl (by decide) (by decide) (by decide) (by decide) (hb hby at_241) (pc' := 244) rfl ?_
          rintro v299 T299 L299 X299 ⟨rfl, Nq299, e299⟩
          have N299 := Fr.app N290 Nq299
          show Run p e below _ _ T299 (mkF m 244 #[.val (.int s1), .val (.int s2), .val (.int s3), .val (.int b), .val (.int cc), .val (.int k), .val (.int (b &&& (15 : Int32))), .val (.int b2), .val (.int t2), .val (.int t3), .val (.ref b243), .val (.int (1 : Int32)), .val (.int t2), .val (.int s1), .val (.int (0 : Int32)), .val (.int (0 : Int32)), .val (.int t3), .val (.int (0 : Int32))] [(.int ((own_upd (own_upd (own_upd (fun _ => (0 : Int32)) (b &&& (15 : Int32)).toInt.toNat s1) (b &&& (15 : Int32)).toInt.toNat t2) b2.toInt.toNat t3) b2.toInt.toNat))])
          refine r_iload X299.here hx (hb hby at_244) rfl (pc' := 246) rfl ?_
          refine r_if_ne X299.here hx (hb hby at_246) (by decide) (pc' := 265) (by decide) (pc2 := 249) rfl (fun hc246 => absurd (own_us _ _ _) hc246) (fun hc246 => ?_)
          refine r_aload X299.here hx (hb hby at_249) rfl rfl (pc' := 251) rfl ?_
          refine r_iload X299.here hx (hb hby at_251) rfl (pc' := 253) rfl ?_
          refine r_callV X299 hx hZ (y := (⟨"com/example/ajif/ajif/TokenTable", "followingBefore", "(I)I"⟩ : MethodName)) (z := (⟨"com/example/ajif/ajif/TokenTable", "followingBefore", "(I)I"⟩ : MethodName)) (rm := ({ frames := 0, cells := 0, slots := 0, locals := 0 } : Room)) hown (hw _ (List.mem_of_getElem? (i := 41) rfl)) (hw _ (List.mem_of_getElem? (i := 42) rfl)) (notFace_of_selects (args := #[]) (mvT hZ (hw _ (List.mem_of_getElem? (i := 44) rfl)))) (hw _ (List.mem_of_getElem? (i := 44) rfl)) (hw _ (List.mem_of_getElem? (i := 43) rfl)) (hw _ (List.mem_of_getElem? (i := 2) rfl)) (hw _ (List.mem_of_getElem? (i := 45) rfl)) (by decide) (rm_followingBefore l Z a0 hw [] b243 g b2 (own_updB (own_upd (own_upd (fun _ => (0 : Int32)) (b &&& (15 : Int32)).toInt.toNat s1) (b &&& (15 : Int32)).toInt.toNat t2) (own_updB (own_upd (fun _ => (0 : Int32)) (b &&& (15 : Int32)).toInt.toNat s1) (own_updB (fun _ => (0 : Int32)) (fun _ => (0 : Int32)) (b &&& (15 : Int32)).toInt.toNat s1) (b &&& (15 : Int32)).toInt.toNat t2) b2.toInt.toNat t3) T290.heap n0 Z294 f293 Ag290 hb2.1 hb2.2) e299 f291 (by rw [hml]; rfl) (argsL := [(.int b2)]) (rest := []) (lenOf pd_2 rfl) rfl rfl (W := 0) rfl (by decide) (by decide) (by decide) (by decide) (hb hby at_253) (pc' := 256) rfl ?_
          rintro v300 T300 L300 X300 ⟨rfl, Nq300, e300⟩
          have N300 := Fr.app N299 Nq300
          show Run p e below _ _ T300 (mkF m 256 #[.val (.int s1), .val (.int s2), .val (.int s3), .val (.int b), .val (.int cc), .val (.int k), .val (.int (b &&& (15 : Int32))), .val (.int b2), .val (.int t2), .val (.int t3), .val (.ref b243), .val (.int (1 : Int32)), .val (.int t2), .val (.int s1), .val (.int (0 : Int32)), .val (.int (0 : Int32)), .val (.int t3), .val (.int (0 : Int32))] [(.int ((own_updB (own_upd (own_upd (fun _ => (0 : Int32)) (b &&& (15 : Int32)).toInt.toNat s1) (b &&& (15 : Int32)).toInt.toNat t2) (own_updB (own_upd (fun _ => (0 : Int32)) (b &&& (15 : Int32)).toInt.toNat s1) (own_updB (fun _ => (0 : Int32)) (fun _ => (0 : Int32)) (b &&& (15 : Int32)).toInt.toNat s1) (b &&& (15 : Int32)).toInt.toNat t2) b2.toInt.toNat t3) b2.toInt.toNat))])
          refine r_iload X300.here hx (hb hby at_256) rfl (pc' := 258) rfl ?_
          refine r_if_ne X300.here hx (hb hby at_258) (by decide) (pc' := 265) (by decide) (pc2 := 261) rfl (fun hc258 => absurd (by have q : b2.toInt.toNat ≠ (b &&& (15 : Int32)).toInt.toNat := own_nn hb1.1 hb2.1 (fun z => hc186 z.symm); rw [own_bs, own_uo q, own_uo q, own_bo q, own_bo q]; split <;> rfl) hc258) (fun hc258 => ?_)
          refine r_iconst X300.here hx (hb hby at_261) (v := 1) rfl (pc' := 262) rfl ?_
          refine r_goto X300.here hx (hb hby at_262) (by decide) (pc' := 266) (by decide) ?_
          refine r_istore X300.here hx (hb hby at_266) (l' := #[.val (.int s1), .val (.int s2), .val (.int s3), .val (.int b), .val (.int cc), .val (.int k), .val (.int (b &&& (15 : Int32))), .val (.int b2), .val (.int t2), .val (.int t3), .val (.ref b243), .val (.int (1 : Int32)), .val (.int t2), .val (.int s1), .val (.int (0 : Int32)), .val (.int (0 : Int32)), .val (.int t3), .val (.int (0 : Int32))]) rfl (pc' := 268) rfl ?_
          refine r_iload X300.here hx (hb hby at_268) rfl (pc' := 270) rfl ?_
          refine r_iload X300.here hx (hb hby at_270) rfl (pc' := 272) rfl ?_
          refine r_if_eq X300.here hx (hb hby at_272) (by decide) (pc' := 311) (by decide) (pc2 := 275) rfl (fun hc272 => absurd hc272 hc186) (fun hc272 => ?_)
          refine r_iload X300.here hx (hb hby at_275) rfl (pc' := 277) rfl ?_
          refine r_if0_eq X300.here hx (hb hby at_277) (by decide) (pc' := 308) (by decide) (pc2 := 280) rfl (fun hc277 => absurd hc277 (by decide)) (fun hc277 => ?_)
          refine r_aload X300.here hx (hb hby at_280) rfl rfl (pc' := 282) rfl ?_
          refine r_iload X300.here hx (hb hby at_282) rfl (pc' := 284) rfl ?_
          refine r_callV X300 hx hZ (y := (⟨"com/example/ajif/ajif/TokenTable", "following", "(I)I"⟩ : MethodName)) (z := (⟨"com/example/ajif/ajif/TokenTable", "following", "(I)I"⟩ : MethodName)) (rm := ({ frames := 0, cells := 0, slots := 0, locals := 0 } : Room)) hown (hw _ (List.mem_of_getElem? (i := 36) rfl)) (hw _ (List.mem_of_getElem? (i := 37) rfl)) (notFace_of_selects (args := #[]) (mvT hZ (hw _ (List.mem_of_getElem? (i := 39) rfl)))) (hw _ (List.mem_of_getElem? (i := 39) rfl)) (hw _ (List.mem_of_getElem? (i := 38) rfl)) (hw _ (List.mem_of_getElem? (i := 2) rfl)) (hw _ (List.mem_of_getElem? (i := 40) rfl)) (by decide) (rm_following l Z a0 hw [] b243 f (b &&& (15 : Int32)) (own_upd (own_upd (own_upd (fun _ => (0 : Int32)) (b &&& (15 : Int32)).toInt.toNat s1) (b &&& (15 : Int32)).toInt.toNat t2) b2.toInt.toNat t3) T290.heap n0 Z294 f292 Af290 hb1.1 hb1.2) e300 f291 (by rw [hml]; rfl) (argsL := [(.int (b &&& (15 : Int32)))]) (rest := []) (lenOf pd_2 rfl) rfl rfl (W := 0) rfl (by decide) (by decide) (by decide) (by decide) (hb hby at_284) (pc' := 287) rfl ?_
          rintro v301 T301 L301 X301 ⟨rfl, Nq301, e301⟩
          have N301 := Fr.app N300 Nq301
          show Run p e below _ _ T301 (mkF m 287 #[.val (.int s1), .val (.int s2), .val (.int s3), .val (.int b), .val (.int cc), .val (.int k), .val (.int (b &&& (15 : Int32))), .val (.int b2), .val (.int t2), .val (.int t3), .val (.ref b243), .val (.int (1 : Int32)), .val (.int t2), .val (.int s1), .val (.int (0 : Int32)), .val (.int (0 : Int32)), .val (.int t3), .val (.int (0 : Int32))] [(.int ((own_upd (own_upd (own_upd (fun _ => (0 : Int32)) (b &&& (15 : Int32)).toInt.toNat s1) (b &&& (15 : Int32)).toInt.toNat t2) b2.toInt.toNat t3) (b &&& (15 : Int32)).toInt.toNat))])
          refine r_iload X301.here hx (hb hby at_287) rfl (pc' := 289) rfl ?_
          refine r_if_ne X301.here hx (hb hby at_289) (by decide) (pc' := 308) (by decide) (pc2 := 292) rfl (fun hc289 => absurd (by have q : (b &&& (15 : Int32)).toInt.toNat ≠ b2.toInt.toNat := own_nn hb2.1 hb1.1 hc186; rw [own_uo q, own_us]) hc289) (fun hc289 => ?_)
          refine r_aload X301.here hx (hb hby at_292) rfl rfl (pc' := 294) rfl ?_
          refine r_iload X301.here hx (hb hby at_294) rfl (pc' := 296) rfl ?_
          refine r_callV X301 hx hZ (y := (⟨"com/example/ajif/ajif/TokenTable", "followingBefore", "(I)I"⟩ : MethodName)) (z := (⟨"com/example/ajif/ajif/TokenTable", "followingBefore", "(I)I"⟩ : MethodName)) (rm := ({ frames := 0, cells := 0, slots := 0, locals := 0 } : Room)) hown (hw _ (List.mem_of_getElem? (i := 41) rfl)) (hw _ (List.mem_of_getElem? (i := 42) rfl)) (notFace_of_selects (args := #[]) (mvT hZ (hw _ (List.mem_of_getElem? (i := 44) rfl)))) (hw _ (List.mem_of_getElem? (i := 44) rfl)) (hw _ (List.mem_of_getElem? (i := 43) rfl)) (hw _ (List.mem_of_getElem? (i := 2) rfl)) (hw _ (List.mem_of_getElem? (i := 45) rfl)) (by decide) (rm_followingBefore l Z a0 hw [] b243 g (b &&& (15 : Int32)) (own_updB (own_upd (own_upd (fun _ => (0 : Int32)) (b &&& (15 : Int32)).toInt.toNat s1) (b &&& (15 : Int32)).toInt.toNat t2) (own_updB (own_upd (fun _ => (0 : Int32)) (b &&& (15 : Int32)).toInt.toNat s1) (own_updB (fun _ => (0 : Int32)) (fun _ => (0 : Int32)) (b &&& (15 : Int32)).toInt.toNat s1) (b &&& (15 : Int32)).toInt.toNat t2) b2.toInt.toNat t3) T290.heap n0 Z294 f293 Ag290 hb1.1 hb1.2) e301 f291 (by rw [hml]; rfl) (argsL := [(.int (b &&& (15 : Int32)))]) (rest := []) (lenOf pd_2 rfl) rfl rfl (W := 0) rfl (by decide) (by decide) (by decide) (by decide) (hb hby at_296) (pc' := 299) rfl ?_
          rintro v302 T302 L302 X302 ⟨rfl, Nq302, e302⟩
          have N302 := Fr.app N301 Nq302
          show Run p e below _ _ T302 (mkF m 299 #[.val (.int s1), .val (.int s2), .val (.int s3), .val (.int b), .val (.int cc), .val (.int k), .val (.int (b &&& (15 : Int32))), .val (.int b2), .val (.int t2), .val (.int t3), .val (.ref b243), .val (.int (1 : Int32)), .val (.int t2), .val (.int s1), .val (.int (0 : Int32)), .val (.int (0 : Int32)), .val (.int t3), .val (.int (0 : Int32))] [(.int ((own_updB (own_upd (own_upd (fun _ => (0 : Int32)) (b &&& (15 : Int32)).toInt.toNat s1) (b &&& (15 : Int32)).toInt.toNat t2) (own_updB (own_upd (fun _ => (0 : Int32)) (b &&& (15 : Int32)).toInt.toNat s1) (own_updB (fun _ => (0 : Int32)) (fun _ => (0 : Int32)) (b &&& (15 : Int32)).toInt.toNat s1) (b &&& (15 : Int32)).toInt.toNat t2) b2.toInt.toNat t3) (b &&& (15 : Int32)).toInt.toNat))])
          refine r_iload X302.here hx (hb hby at_299) rfl (pc' := 301) rfl ?_
          refine r_if_ne X302.here hx (hb hby at_301) (by decide) (pc' := 308) (by decide) (pc2 := 304) rfl (fun hc301 => absurd (by have q : (b &&& (15 : Int32)).toInt.toNat ≠ b2.toInt.toNat := own_nn hb2.1 hb1.1 hc186; rw [own_bo q, own_bs, own_us]; rw [if_neg (fun q => hc127 q.symm)]) hc301) (fun hc301 => ?_)
          refine r_iconst X302.here hx (hb hby at_304) (v := 1) rfl (pc' := 305) rfl ?_
          refine r_goto X302.here hx (hb hby at_305) (by decide) (pc' := 309) (by decide) ?_
          refine r_istore X302.here hx (hb hby at_309) (l' := #[.val (.int s1), .val (.int s2), .val (.int s3), .val (.int b), .val (.int cc), .val (.int k), .val (.int (b &&& (15 : Int32))), .val (.int b2), .val (.int t2), .val (.int t3), .val (.ref b243), .val (.int (1 : Int32)), .val (.int t2), .val (.int s1), .val (.int (0 : Int32)), .val (.int (0 : Int32)), .val (.int t3), .val (.int (0 : Int32))]) rfl (pc' := 311) rfl ?_
          refine r_iload X302.here hx (hb hby at_311) rfl (pc' := 313) rfl ?_
          refine r_retN X302 hx hlk hret (by simp) (hb hby at_313) (w := (1 : Int32)) rfl ?_ (by decide) (by decide)
          try rw [e302]
          exact ⟨rfl, N302⟩
      · refine r_iload X290.here hx (hb hby at_189) rfl (pc' := 191) rfl ?_
        refine r_goto X290.here hx (hb hby at_191) (by decide) (pc' := 195) (by decide) ?_
        refine r_istore X290.here hx (hb hby at_195) (l' := #[.val (.int s1), .val (.int s2), .val (.int s3), .val (.int b), .val (.int cc), .val (.int k), .val (.int (b &&& (15 : Int32))), .val (.int b2), .val (.int t2), .val (.int t3), .val (.ref b243), .val (.int (1 : Int32)), .val (.int t2), .val (.int s1), .val (.int t2), .unset, .unset, .unset]) rfl (pc' := 197) rfl ?_
        refine r_iload X290.here hx (hb hby at_197) rfl (pc' := 199) rfl ?_
        refine r_iload X290.here hx (hb hby at_199) rfl (pc' := 201) rfl ?_
        refine r_if_ne X290.here hx (hb hby at_201) (by decide) (pc' := 209) (by decide) (pc2 := 204) rfl (fun hc201 => absurd (Classical.not_not.mp hc186) hc201) (fun hc201 => ?_)
        refine r_iload X290.here hx (hb hby at_204) rfl (pc' := 206) rfl ?_
        refine r_goto X290.here hx (hb hby at_206) (by decide) (pc' := 210) (by decide) ?_
        refine r_istore X290.here hx (hb hby at_210) (l' := #[.val (.int s1), .val (.int s2), .val (.int s3), .val (.int b), .val (.int cc), .val (.int k), .val (.int (b &&& (15 : Int32))), .val (.int b2), .val (.int t2), .val (.int t3), .val (.ref b243), .val (.int (1 : Int32)), .val (.int t2), .val (.int s1), .val (.int t2), .val (.int s1), .unset, .unset]) rfl (pc' := 212) rfl ?_
        refine r_iload X290.here hx (hb hby at_212) rfl (pc' := 214) rfl ?_
        refine r_istore X290.here hx (hb hby at_214) (l' := #[.val (.int s1), .val (.int s2), .val (.int s3), .val (.int b), .val (.int cc), .val (.int k), .val (.int (b &&& (15 : Int32))), .val (.int b2), .val (.int t2), .val (.int t3), .val (.ref b243), .val (.int (1 : Int32)), .val (.int t2), .val (.int s1), .val (.int t2), .val (.int s1), .val (.int t3), .unset]) rfl (pc' := 216) rfl ?_
        refine r_iload X290.here hx (hb hby at_216) rfl (pc' := 218) rfl ?_
        refine r_iload X290.here hx (hb hby at_218) rfl (pc' := 220) rfl ?_
        refine r_if_eq X290.here hx (hb hby at_220) (by decide) (pc' := 228) (by decide) (pc2 := 223) rfl (fun hc220 => ?_) (fun hc220 => ?_)
        · refine r_iload X290.here hx (hb hby at_228) rfl (pc' := 230) rfl ?_
          refine r_istore X290.here hx (hb hby at_230) (l' := #[.val (.int s1), .val (.int s2), .val (.int s3), .val (.int b), .val (.int cc), .val (.int k), .val (.int (b &&& (15 : Int32))), .val (.int b2), .val (.int t2), .val (.int t3), .val (.ref b243), .val (.int (1 : Int32)), .val (.int t2), .val (.int s1), .val (.int t2), .val (.int s1), .val (.int t3), .val (.int s1)]) rfl (pc' := 232) rfl ?_
          refine r_iload X290.here hx (hb hby at_232) rfl (pc' := 234) rfl ?_
          refine r_if0_eq X290.here hx (hb hby at_234) (by decide) (pc' := 265) (by decide) (pc2 := 237) rfl (fun hc234 => absurd hc234 (by decide)) (fun hc234 => ?_)
          refine r_aload X290.here hx (hb hby at_237) rfl rfl (pc' := 239) rfl ?_
          refine r_iload X290.here hx (hb hby at_239) rfl (pc' := 241) rfl ?_
          refine r_callV X290 hx hZ (y := (⟨"com/example/ajif/ajif/TokenTable", "following", "(I)I"⟩ : MethodName)) (z := (⟨"com/example/ajif/ajif/TokenTable", "following", "(I)I"⟩ : MethodName)) (rm := ({ frames := 0, cells := 0, slots := 0, locals := 0 } : Room)) hown (hw _ (List.mem_of_getElem? (i := 36) rfl)) (hw _ (List.mem_of_getElem? (i := 37) rfl)) (notFace_of_selects (args := #[]) (mvT hZ (hw _ (List.mem_of_getElem? (i := 39) rfl)))) (hw _ (List.mem_of_getElem? (i := 39) rfl)) (hw _ (List.mem_of_getElem? (i := 38) rfl)) (hw _ (List.mem_of_getElem? (i := 2) rfl)) (hw _ (List.mem_of_getElem? (i := 40) rfl)) (by decide) (rm_following l Z a0 hw [] b243 f b2 (own_upd (own_upd (own_upd (fun _ => (0 : Int32)) (b &&& (15 : Int32)).toInt.toNat s1) (b &&& (15 : Int32)).toInt.toNat t2) b2.toInt.toNat t3) T290.heap n0 Z294 f292 Af290 hb2.1 hb2.2) rfl f291 (by rw [hml]; rfl) (argsL := [(.int b2)]) (rest := []) (lenOf pd_2 rfl) rfl rfl (W := 0) rfl (by decide) (by decide) (by decide) (by decide) (hb hby at_241) (pc' := 244) rfl ?_
          rintro v303 T303 L303 X303 ⟨rfl, Nq303, e303⟩
          have N303 := Fr.app N290 Nq303
          show Run p e below _ _ T303 (mkF m 244 #[.val (.int s1), .val (.int s2), .val (.int s3), .val (.int b), .val (.int cc), .val (.int k), .val (.int (b &&& (15 : Int32))), .val (.int b2), .val (.int t2), .val (.int t3), .val (.ref b243), .val (.int (1 : Int32)), .val (.int t2), .val (.int s1), .val (.int t2), .val (.int s1), .val (.int t3), .val (.int s1)] [(.int ((own_upd (own_upd (own_upd (fun _ => (0 : Int32)) (b &&& (15 : Int32)).toInt.toNat s1) (b &&& (15 : Int32)).toInt.toNat t2) b2.toInt.toNat t3) b2.toInt.toNat))])
          refine r_iload X303.here hx (hb hby at_244) rfl (pc' := 246) rfl ?_
          refine r_if_ne X303.here hx (hb hby at_246) (by decide) (pc' := 265) (by decide) (pc2 := 249) rfl (fun hc246 => absurd (own_us _ _ _) hc246) (fun hc246 => ?_)
          refine r_aload X303.here hx (hb hby at_249) rfl rfl (pc' := 251) rfl ?_
          refine r_iload X303.here hx (hb hby at_251) rfl (pc' := 253) rfl ?_
          refine r_callV X303 hx hZ (y := (⟨"com/example/ajif/ajif/TokenTable", "followingBefore", "(I)I"⟩ : MethodName)) (z := (⟨"com/example/ajif/ajif/TokenTable", "followingBefore", "(I)I"⟩ : MethodName)) (rm := ({ frames := 0, cells := 0, slots := 0, locals := 0 } : Room)) hown (hw _ (List.mem_of_getElem? (i := 41) rfl)) (hw _ (List.mem_of_getElem? (i := 42) rfl)) (notFace_of_selects (args := #[]) (mvT hZ (hw _ (List.mem_of_getElem? (i := 44) rfl)))) (hw _ (List.mem_of_getElem? (i := 44) rfl)) (hw _ (List.mem_of_getElem? (i := 43) rfl)) (hw _ (List.mem_of_getElem? (i := 2) rfl)) (hw _ (List.mem_of_getElem? (i := 45) rfl)) (by decide) (rm_followingBefore l Z a0 hw [] b243 g b2 (own_updB (own_upd (own_upd (fun _ => (0 : Int32)) (b &&& (15 : Int32)).toInt.toNat s1) (b &&& (15 : Int32)).toInt.toNat t2) (own_updB (own_upd (fun _ => (0 : Int32)) (b &&& (15 : Int32)).toInt.toNat s1) (own_updB (fun _ => (0 : Int32)) (fun _ => (0 : Int32)) (b &&& (15 : Int32)).toInt.toNat s1) (b &&& (15 : Int32)).toInt.toNat t2) b2.toInt.toNat t3) T290.heap n0 Z294 f293 Ag290 hb2.1 hb2.2) e303 f291 (by rw [hml]; rfl) (argsL := [(.int b2)]) (rest := []) (lenOf pd_2 rfl) rfl rfl (W := 0) rfl (by decide) (by decide) (by decide) (by decide) (hb hby at_253) (pc' := 256) rfl ?_
          rintro v304 T304 L304 X304 ⟨rfl, Nq304, e304⟩
          have N304 := Fr.app N303 Nq304
          show Run p e below _ _ T304 (mkF m 256 #[.val (.int s1), .val (.int s2), .val (.int s3), .val (.int b), .val (.int cc), .val (.int k), .val (.int (b &&& (15 : Int32))), .val (.int b2), .val (.int t2), .val (.int t3), .val (.ref b243), .val (.int (1 : Int32)), .val (.int t2), .val (.int s1), .val (.int t2), .val (.int s1), .val (.int t3), .val (.int s1)] [(.int ((own_updB (own_upd (own_upd (fun _ => (0 : Int32)) (b &&& (15 : Int32)).toInt.toNat s1) (b &&& (15 : Int32)).toInt.toNat t2) (own_updB (own_upd (fun _ => (0 : Int32)) (b &&& (15 : Int32)).toInt.toNat s1) (own_updB (fun _ => (0 : Int32)) (fun _ => (0 : Int32)) (b &&& (15 : Int32)).toInt.toNat s1) (b &&& (15 : Int32)).toInt.toNat t2) b2.toInt.toNat t3) b2.toInt.toNat))])
          refine r_iload X304.here hx (hb hby at_256) rfl (pc' := 258) rfl ?_
          refine r_if_ne X304.here hx (hb hby at_258) (by decide) (pc' := 265) (by decide) (pc2 := 261) rfl (fun hc258 => absurd (by have q : b2 = (b &&& (15 : Int32)) := Classical.not_not.mp hc186; rw [q, own_bs, own_us]; rw [if_pos hc220.symm, own_bs, own_us]; rw [if_neg (fun q => hc127 q.symm)]) hc258) (fun hc258 => ?_)
          refine r_iconst X304.here hx (hb hby at_261) (v := 1) rfl (pc' := 262) rfl ?_
          refine r_goto X304.here hx (hb hby at_262) (by decide) (pc' := 266) (by decide) ?_
          refine r_istore X304.here hx (hb hby at_266) (l' := #[.val (.int s1), .val (.int s2), .val (.int s3), .val (.int b), .val (.int cc), .val (.int k), .val (.int (b &&& (15 : Int32))), .val (.int b2), .val (.int t2), .val (.int t3), .val (.ref b243), .val (.int (1 : Int32)), .val (.int t2), .val (.int s1), .val (.int t2), .val (.int s1), .val (.int t3), .val (.int s1)]) rfl (pc' := 268) rfl ?_
          refine r_iload X304.here hx (hb hby at_268) rfl (pc' := 270) rfl ?_
          refine r_iload X304.here hx (hb hby at_270) rfl (pc' := 272) rfl ?_
          refine r_if_eq X304.here hx (hb hby at_272) (by decide) (pc' := 311) (by decide) (pc2 := 275) rfl (fun hc272 => ?_) (fun hc272 => absurd (Classical.not_not.mp hc186) hc272)
          refine r_iload X304.here hx (hb hby at_311) rfl (pc' := 313) rfl ?_
          refine r_retN X304 hx hlk hret (by simp) (hb hby at_313) (w := (1 : Int32)) rfl ?_ (by decide) (by decide)
          try rw [e304]
          exact ⟨rfl, N304⟩
        · refine r_iload X290.here hx (hb hby at_223) rfl (pc' := 225) rfl ?_
          refine r_goto X290.here hx (hb hby at_225) (by decide) (pc' := 230) (by decide) ?_
          refine r_istore X290.here hx (hb hby at_230) (l' := #[.val (.int s1), .val (.int s2), .val (.int s3), .val (.int b), .val (.int cc), .val (.int k), .val (.int (b &&& (15 : Int32))), .val (.int b2), .val (.int t2), .val (.int t3), .val (.ref b243), .val (.int (1 : Int32)), .val (.int t2), .val (.int s1), .val (.int t2), .val (.int s1), .val (.int t3), .val (.int t2)]) rfl (pc' := 232) rfl ?_
          refine r_iload X290.here hx (hb hby at_232) rfl (pc' := 234) rfl ?_
          refine r_if0_eq X290.here hx (hb hby at_234) (by decide) (pc' := 265) (by decide) (pc2 := 237) rfl (fun hc234 => absurd hc234 (by decide)) (fun hc234 => ?_)
          refine r_aload X290.here hx (hb hby at_237) rfl rfl (pc' := 239) rfl ?_
          refine r_iload X290.here hx (hb hby at_239) rfl (pc' := 241) rfl ?_
          refine r_callV X290 hx hZ (y := (⟨"com/example/ajif/ajif/TokenTable", "following", "(I)I"⟩ : MethodName)) (z := (⟨"com/example/ajif/ajif/TokenTable", "following", "(I)I"⟩ : MethodName)) (rm := ({ frames := 0, cells := 0, slots := 0, locals := 0 } : Room)) hown (hw _ (List.mem_of_getElem? (i := 36) rfl)) (hw _ (List.mem_of_getElem? (i := 37) rfl)) (notFace_of_selects (args := #[]) (mvT hZ (hw _ (List.mem_of_getElem? (i := 39) rfl)))) (hw _ (List.mem_of_getElem? (i := 39) rfl)) (hw _ (List.mem_of_getElem? (i := 38) rfl)) (hw _ (List.mem_of_getElem? (i := 2) rfl)) (hw _ (List.mem_of_getElem? (i := 40) rfl)) (by decide) (rm_following l Z a0 hw [] b243 f b2 (own_upd (own_upd (own_upd (fun _ => (0 : Int32)) (b &&& (15 : Int32)).toInt.toNat s1) (b &&& (15 : Int32)).toInt.toNat t2) b2.toInt.toNat t3) T290.heap n0 Z294 f292 Af290 hb2.1 hb2.2) rfl f291 (by rw [hml]; rfl) (argsL := [(.int b2)]) (rest := []) (lenOf pd_2 rfl) rfl rfl (W := 0) rfl (by decide) (by decide) (by decide) (by decide) (hb hby at_241) (pc' := 244) rfl ?_
          rintro v305 T305 L305 X305 ⟨rfl, Nq305, e305⟩
          have N305 := Fr.app N290 Nq305
          show Run p e below _ _ T305 (mkF m 244 #[.val (.int s1), .val (.int s2), .val (.int s3), .val (.int b), .val (.int cc), .val (.int k), .val (.int (b &&& (15 : Int32))), .val (.int b2), .val (.int t2), .val (.int t3), .val (.ref b243), .val (.int (1 : Int32)), .val (.int t2), .val (.int s1), .val (.int t2), .val (.int s1), .val (.int t3), .val (.int t2)] [(.int ((own_upd (own_upd (own_upd (fun _ => (0 : Int32)) (b &&& (15 : Int32)).toInt.toNat s1) (b &&& (15 : Int32)).toInt.toNat t2) b2.toInt.toNat t3) b2.toInt.toNat))])
          refine r_iload X305.here hx (hb hby at_244) rfl (pc' := 246) rfl ?_
          refine r_if_ne X305.here hx (hb hby at_246) (by decide) (pc' := 265) (by decide) (pc2 := 249) rfl (fun hc246 => absurd (own_us _ _ _) hc246) (fun hc246 => ?_)
          refine r_aload X305.here hx (hb hby at_249) rfl rfl (pc' := 251) rfl ?_
          refine r_iload X305.here hx (hb hby at_251) rfl (pc' := 253) rfl ?_
          refine r_callV X305 hx hZ (y := (⟨"com/example/ajif/ajif/TokenTable", "followingBefore", "(I)I"⟩ : MethodName)) (z := (⟨"com/example/ajif/ajif/TokenTable", "followingBefore", "(I)I"⟩ : MethodName)) (rm := ({ frames := 0, cells := 0, slots := 0, locals := 0 } : Room)) hown (hw _ (List.mem_of_getElem? (i := 41) rfl)) (hw _ (List.mem_of_getElem? (i := 42) rfl)) (notFace_of_selects (args := #[]) (mvT hZ (hw _ (List.mem_of_getElem? (i := 44) rfl)))) (hw _ (List.mem_of_getElem? (i := 44) rfl)) (hw _ (List.mem_of_getElem? (i := 43) rfl)) (hw _ (List.mem_of_getElem? (i := 2) rfl)) (hw _ (List.mem_of_getElem? (i := 45) rfl)) (by decide) (rm_followingBefore l Z a0 hw [] b243 g b2 (own_updB (own_upd (own_upd (fun _ => (0 : Int32)) (b &&& (15 : Int32)).toInt.toNat s1) (b &&& (15 : Int32)).toInt.toNat t2) (own_updB (own_upd (fun _ => (0 : Int32)) (b &&& (15 : Int32)).toInt.toNat s1) (own_updB (fun _ => (0 : Int32)) (fun _ => (0 : Int32)) (b &&& (15 : Int32)).toInt.toNat s1) (b &&& (15 : Int32)).toInt.toNat t2) b2.toInt.toNat t3) T290.heap n0 Z294 f293 Ag290 hb2.1 hb2.2) e305 f291 (by rw [hml]; rfl) (argsL := [(.int b2)]) (rest := []) (lenOf pd_2 rfl) rfl rfl (W := 0) rfl (by decide) (by decide) (by decide) (by decide) (hb hby at_253) (pc' := 256) rfl ?_
          rintro v306 T306 L306 X306 ⟨rfl, Nq306, e306⟩
          have N306 := Fr.app N305 Nq306
          show Run p e below _ _ T306 (mkF m 256 #[.val (.int s1), .val (.int s2), .val (.int s3), .val (.int b), .val (.int cc), .val (.int k), .val (.int (b &&& (15 : Int32))), .val (.int b2), .val (.int t2), .val (.int t3), .val (.ref b243), .val (.int (1 : Int32)), .val (.int t2), .val (.int s1), .val (.int t2), .val (.int s1), .val (.int t3), .val (.int t2)] [(.int ((own_updB (own_upd (own_upd (fun _ => (0 : Int32)) (b &&& (15 : Int32)).toInt.toNat s1) (b &&& (15 : Int32)).toInt.toNat t2) (own_updB (own_upd (fun _ => (0 : Int32)) (b &&& (15 : Int32)).toInt.toNat s1) (own_updB (fun _ => (0 : Int32)) (fun _ => (0 : Int32)) (b &&& (15 : Int32)).toInt.toNat s1) (b &&& (15 : Int32)).toInt.toNat t2) b2.toInt.toNat t3) b2.toInt.toNat))])
          refine r_iload X306.here hx (hb hby at_256) rfl (pc' := 258) rfl ?_
          refine r_if_ne X306.here hx (hb hby at_258) (by decide) (pc' := 265) (by decide) (pc2 := 261) rfl (fun hc258 => absurd (by have q : b2 = (b &&& (15 : Int32)) := Classical.not_not.mp hc186; rw [q, own_bs, own_us]; rw [if_neg (fun q => hc220 q.symm)]) hc258) (fun hc258 => ?_)
          refine r_iconst X306.here hx (hb hby at_261) (v := 1) rfl (pc' := 262) rfl ?_
          refine r_goto X306.here hx (hb hby at_262) (by decide) (pc' := 266) (by decide) ?_
          refine r_istore X306.here hx (hb hby at_266) (l' := #[.val (.int s1), .val (.int s2), .val (.int s3), .val (.int b), .val (.int cc), .val (.int k), .val (.int (b &&& (15 : Int32))), .val (.int b2), .val (.int t2), .val (.int t3), .val (.ref b243), .val (.int (1 : Int32)), .val (.int t2), .val (.int s1), .val (.int t2), .val (.int s1), .val (.int t3), .val (.int t2)]) rfl (pc' := 268) rfl ?_
          refine r_iload X306.here hx (hb hby at_268) rfl (pc' := 270) rfl ?_
          refine r_iload X306.here hx (hb hby at_270) rfl (pc' := 272) rfl ?_
          refine r_if_eq X306.here hx (hb hby at_272) (by decide) (pc' := 311) (by decide) (pc2 := 275) rfl (fun hc272 => ?_) (fun hc272 => absurd (Classical.not_not.mp hc186) hc272)
          refine r_iload X306.here hx (hb hby at_311) rfl (pc' := 313) rfl ?_
          refine r_retN X306 hx hlk hret (by simp) (hb hby at_313) (w := (1 : Int32)) rfl ?_ (by decide) (by decide)
          try rw [e306]
          exact ⟨rfl, N306⟩
  refine r_iloadN X0.here hx (hb hby at_0) rfl (pc' := 1) rfl ?_
  refine r_bipush X0.here hx (hb hby at_1) (v := 15) rfl (pc' := 3) rfl ?_
  refine r_iand X0.here hx (hb hby at_3) (pc' := 4) rfl ?_
  refine r_istore X0.here hx (hb hby at_4) (l' := #[.val (.int s1), .val (.int s2), .val (.int s3), .val (.int b), .val (.int cc), .val (.int k), .val (.int (b &&& (15 : Int32))), .unset, .unset, .unset, .unset, .unset, .unset, .unset, .unset, .unset, .unset, .unset]) rfl (pc' := 6) rfl ?_
  refine r_iload X0.here hx (hb hby at_6) rfl (pc' := 8) rfl ?_
  refine r_iconst X0.here hx (hb hby at_8) (v := 4) rfl (pc' := 9) rfl ?_
  refine r_iand X0.here hx (hb hby at_9) (pc' := 10) rfl ?_
  refine r_if0_eq X0.here hx (hb hby at_10) (by decide) (pc' := 18) (by decide) (pc2 := 13) rfl (fun hc10 => ?_) (fun hc10 => ?_)
  · refine r_iload X0.here hx (hb hby at_18) rfl (pc' := 20) rfl ?_
    refine r_bipush X0.here hx (hb hby at_20) (v := 15) rfl (pc' := 22) rfl ?_
    refine r_iand X0.here hx (hb hby at_22) (pc' := 23) rfl ?_
    refine r_istore X0.here hx (hb hby at_23) (l' := #[.val (.int s1), .val (.int s2), .val (.int s3), .val (.int b), .val (.int cc), .val (.int k), .val (.int (b &&& (15 : Int32))), .val (.int (cc &&& (15 : Int32))), .unset, .unset, .unset, .unset, .unset, .unset, .unset, .unset, .unset, .unset]) rfl (pc' := 25) rfl ?_
    refine r_iload X0.here hx (hb hby at_25) rfl (pc' := 27) rfl ?_
    refine r_iconst X0.here hx (hb hby at_27) (v := 1) rfl (pc' := 28) rfl ?_
    refine r_iand X0.here hx (hb hby at_28) (pc' := 29) rfl ?_
    refine r_if0_eq X0.here hx (hb hby at_29) (by decide) (pc' := 36) (by decide) (pc2 := 32) rfl (fun hc29 => ?_) (fun hc29 => ?_)
    · refine r_iloadN X0.here hx (hb hby at_36) rfl (pc' := 37) rfl ?_
      refine r_istore X0.here hx (hb hby at_37) (l' := #[.val (.int s1), .val (.int s2), .val (.int s3), .val (.int b), .val (.int cc), .val (.int k), .val (.int (b &&& (15 : Int32))), .val (.int (cc &&& (15 : Int32))), .val (.int s2), .unset, .unset, .unset, .unset, .unset, .unset, .unset, .unset, .unset]) rfl (pc' := 39) rfl ?_
      refine r_iload X0.here hx (hb hby at_39) rfl (pc' := 41) rfl ?_
      refine r_iconst X0.here hx (hb hby at_41) (v := 2) rfl (pc' := 42) rfl ?_
      refine r_iand X0.here hx (hb hby at_42) (pc' := 43) rfl ?_
      refine r_if0_eq X0.here hx (hb hby at_43) (by decide) (pc' := 50) (by decide) (pc2 := 46) rfl (fun hc43 => ?_) (fun hc43 => ?_)
      · refine r_iload X0.here hx (hb hby at_50) rfl (pc' := 52) rfl ?_
        refine r_bipush X0.here hx (hb hby at_52) (v := 8) rfl (pc' := 54) rfl ?_
        refine r_iand X0.here hx (hb hby at_54) (pc' := 55) rfl ?_
        refine r_if0_eq X0.here hx (hb hby at_55) (by decide) (pc' := 63) (by decide) (pc2 := 58) rfl (fun hc55 => ?_) (fun hc55 => ?_)
        · refine r_iloadN X0.here hx (hb hby at_63) rfl (pc' := 64) rfl ?_
          refine r_istore X0.here hx (hb hby at_64) (l' := #[.val (.int s1), .val (.int s2), .val (.int s3), .val (.int b), .val (.int cc), .val (.int k), .val (.int (b &&& (15 : Int32))), .val (.int (cc &&& (15 : Int32))), .val (.int s2), .val (.int s3), .unset, .unset, .unset, .unset, .unset, .unset, .unset, .unset]) rfl (pc' := 66) rfl ?_
          exact J _ _ _ (own_m15 _)
        · refine r_iload X0.here hx (hb hby at_58) rfl (pc' := 60) rfl ?_
          refine r_goto X0.here hx (hb hby at_60) (by decide) (pc' := 64) (by decide) ?_
          refine r_istore X0.here hx (hb hby at_64) (l' := #[.val (.int s1), .val (.int s2), .val (.int s3), .val (.int b), .val (.int cc), .val (.int k), .val (.int (b &&& (15 : Int32))), .val (.int (cc &&& (15 : Int32))), .val (.int s2), .val (.int s2), .unset, .unset, .unset, .unset, .unset, .unset, .unset, .unset]) rfl (pc' := 66) rfl ?_
          exact J _ _ _ (own_m15 _)
      · refine r_iloadN X0.here hx (hb hby at_46) rfl (pc' := 47) rfl ?_
        refine r_goto X0.here hx (hb hby at_47) (by decide) (pc' := 64) (by decide) ?_
        refine r_istore X0.here hx (hb hby at_64) (l' := #[.val (.int s1), .val (.int s2), .val (.int s3), .val (.int b), .val (.int cc), .val (.int k), .val (.int (b &&& (15 : Int32))), .val (.int (cc &&& (15 : Int32))), .val (.int s2), .val (.int s1), .unset, .unset, .unset, .unset, .unset, .unset, .unset, .unset]) rfl (pc' := 66) rfl ?_
        exact J _ _ _ (own_m15 _)
    · refine r_iloadN X0.here hx (hb hby at_32) rfl (pc' := 33) rfl ?_
      refine r_goto X0.here hx (hb hby at_33) (by decide) (pc' := 37) (by decide) ?_
      refine r_istore X0.here hx (hb hby at_37) (l' := #[.val (.int s1), .val (.int s2), .val (.int s3), .val (.int b), .val (.int cc), .val (.int k), .val (.int (b &&& (15 : Int32))), .val (.int (cc &&& (15 : Int32))), .val (.int s1), .unset, .unset, .unset, .unset, .unset, .unset, .unset, .unset, .unset]) rfl (pc' := 39) rfl ?_
      refine r_iload X0.here hx (hb hby at_39) rfl (pc' := 41) rfl ?_
      refine r_iconst X0.here hx (hb hby at_41) (v := 2) rfl (pc' := 42) rfl ?_
      refine r_iand X0.here hx (hb hby at_42) (pc' := 43) rfl ?_
      refine r_if0_eq X0.here hx (hb hby at_43) (by decide) (pc' := 50) (by decide) (pc2 := 46) rfl (fun hc43 => ?_) (fun hc43 => ?_)
      · refine r_iload X0.here hx (hb hby at_50) rfl (pc' := 52) rfl ?_
        refine r_bipush X0.here hx (hb hby at_52) (v := 8) rfl (pc' := 54) rfl ?_
        refine r_iand X0.here hx (hb hby at_54) (pc' := 55) rfl ?_
        refine r_if0_eq X0.here hx (hb hby at_55) (by decide) (pc' := 63) (by decide) (pc2 := 58) rfl (fun hc55 => ?_) (fun hc55 => ?_)
        · refine r_iloadN X0.here hx (hb hby at_63) rfl (pc' := 64) rfl ?_
          refine r_istore X0.here hx (hb hby at_64) (l' := #[.val (.int s1), .val (.int s2), .val (.int s3), .val (.int b), .val (.int cc), .val (.int k), .val (.int (b &&& (15 : Int32))), .val (.int (cc &&& (15 : Int32))), .val (.int s1), .val (.int s3), .unset, .unset, .unset, .unset, .unset, .unset, .unset, .unset]) rfl (pc' := 66) rfl ?_
          exact J _ _ _ (own_m15 _)
        · refine r_iload X0.here hx (hb hby at_58) rfl (pc' := 60) rfl ?_
          refine r_goto X0.here hx (hb hby at_60) (by decide) (pc' := 64) (by decide) ?_
          refine r_istore X0.here hx (hb hby at_64) (l' := #[.val (.int s1), .val (.int s2), .val (.int s3), .val (.int b), .val (.int cc), .val (.int k), .val (.int (b &&& (15 : Int32))), .val (.int (cc &&& (15 : Int32))), .val (.int s1), .val (.int s1), .unset, .unset, .unset, .unset, .unset, .unset, .unset, .unset]) rfl (pc' := 66) rfl ?_
          exact J _ _ _ (own_m15 _)
      · refine r_iloadN X0.here hx (hb hby at_46) rfl (pc' := 47) rfl ?_
        refine r_goto X0.here hx (hb hby at_47) (by decide) (pc' := 64) (by decide) ?_
        refine r_istore X0.here hx (hb hby at_64) (l' := #[.val (.int s1), .val (.int s2), .val (.int s3), .val (.int b), .val (.int cc), .val (.int k), .val (.int (b &&& (15 : Int32))), .val (.int (cc &&& (15 : Int32))), .val (.int s1), .val (.int s1), .unset, .unset, .unset, .unset, .unset, .unset, .unset, .unset]) rfl (pc' := 66) rfl ?_
        exact J _ _ _ (own_m15 _)
  · refine r_iload X0.here hx (hb hby at_13) rfl (pc' := 15) rfl ?_
    refine r_goto X0.here hx (hb hby at_15) (by decide) (pc' := 23) (by decide) ?_
    refine r_istore X0.here hx (hb hby at_23) (l' := #[.val (.int s1), .val (.int s2), .val (.int s3), .val (.int b), .val (.int cc), .val (.int k), .val (.int (b &&& (15 : Int32))), .val (.int (b &&& (15 : Int32))), .unset, .unset, .unset, .unset, .unset, .unset, .unset, .unset, .unset, .unset]) rfl (pc' := 25) rfl ?_
    refine r_iload X0.here hx (hb hby at_25) rfl (pc' := 27) rfl ?_
    refine r_iconst X0.here hx (hb hby at_27) (v := 1) rfl (pc' := 28) rfl ?_
    refine r_iand X0.here hx (hb hby at_28) (pc' := 29) rfl ?_
    refine r_if0_eq X0.here hx (hb hby at_29) (by decide) (pc' := 36) (by decide) (pc2 := 32) rfl (fun hc29 => ?_) (fun hc29 => ?_)
    · refine r_iloadN X0.here hx (hb hby at_36) rfl (pc' := 37) rfl ?_
      refine r_istore X0.here hx (hb hby at_37) (l' := #[.val (.int s1), .val (.int s2), .val (.int s3), .val (.int b), .val (.int cc), .val (.int k), .val (.int (b &&& (15 : Int32))), .val (.int (b &&& (15 : Int32))), .val (.int s2), .unset, .unset, .unset, .unset, .unset, .unset, .unset, .unset, .unset]) rfl (pc' := 39) rfl ?_
      refine r_iload X0.here hx (hb hby at_39) rfl (pc' := 41) rfl ?_
      refine r_iconst X0.here hx (hb hby at_41) (v := 2) rfl (pc' := 42) rfl ?_
      refine r_iand X0.here hx (hb hby at_42) (pc' := 43) rfl ?_
      refine r_if0_eq X0.here hx (hb hby at_43) (by decide) (pc' := 50) (by decide) (pc2 := 46) rfl (fun hc43 => ?_) (fun hc43 => ?_)
      · refine r_iload X0.here hx (hb hby at_50) rfl (pc' := 52) rfl ?_
        refine r_bipush X0.here hx (hb hby at_52) (v := 8) rfl (pc' := 54) rfl ?_
        refine r_iand X0.here hx (hb hby at_54) (pc' := 55) rfl ?_
        refine r_if0_eq X0.here hx (hb hby at_55) (by decide) (pc' := 63) (by decide) (pc2 := 58) rfl (fun hc55 => ?_) (fun hc55 => ?_)
        · refine r_iloadN X0.here hx (hb hby at_63) rfl (pc' := 64) rfl ?_
          refine r_istore X0.here hx (hb hby at_64) (l' := #[.val (.int s1), .val (.int s2), .val (.int s3), .val (.int b), .val (.int cc), .val (.int k), .val (.int (b &&& (15 : Int32))), .val (.int (b &&& (15 : Int32))), .val (.int s2), .val (.int s3), .unset, .unset, .unset, .unset, .unset, .unset, .unset, .unset]) rfl (pc' := 66) rfl ?_
          exact J _ _ _ hb1
        · refine r_iload X0.here hx (hb hby at_58) rfl (pc' := 60) rfl ?_
          refine r_goto X0.here hx (hb hby at_60) (by decide) (pc' := 64) (by decide) ?_
          refine r_istore X0.here hx (hb hby at_64) (l' := #[.val (.int s1), .val (.int s2), .val (.int s3), .val (.int b), .val (.int cc), .val (.int k), .val (.int (b &&& (15 : Int32))), .val (.int (b &&& (15 : Int32))), .val (.int s2), .val (.int s2), .unset, .unset, .unset, .unset, .unset, .unset, .unset, .unset]) rfl (pc' := 66) rfl ?_
          exact J _ _ _ hb1
      · refine r_iloadN X0.here hx (hb hby at_46) rfl (pc' := 47) rfl ?_
        refine r_goto X0.here hx (hb hby at_47) (by decide) (pc' := 64) (by decide) ?_
        refine r_istore X0.here hx (hb hby at_64) (l' := #[.val (.int s1), .val (.int s2), .val (.int s3), .val (.int b), .val (.int cc), .val (.int k), .val (.int (b &&& (15 : Int32))), .val (.int (b &&& (15 : Int32))), .val (.int s2), .val (.int s1), .unset, .unset, .unset, .unset, .unset, .unset, .unset, .unset]) rfl (pc' := 66) rfl ?_
        exact J _ _ _ hb1
    · refine r_iloadN X0.here hx (hb hby at_32) rfl (pc' := 33) rfl ?_
      refine r_goto X0.here hx (hb hby at_33) (by decide) (pc' := 37) (by decide) ?_
      refine r_istore X0.here hx (hb hby at_37) (l' := #[.val (.int s1), .val (.int s2), .val (.int s3), .val (.int b), .val (.int cc), .val (.int k), .val (.int (b &&& (15 : Int32))), .val (.int (b &&& (15 : Int32))), .val (.int s1), .unset, .unset, .unset, .unset, .unset, .unset, .unset, .unset, .unset]) rfl (pc' := 39) rfl ?_
      refine r_iload X0.here hx (hb hby at_39) rfl (pc' := 41) rfl ?_
      refine r_iconst X0.here hx (hb hby at_41) (v := 2) rfl (pc' := 42) rfl ?_
      refine r_iand X0.here hx (hb hby at_42) (pc' := 43) rfl ?_
      refine r_if0_eq X0.here hx (hb hby at_43) (by decide) (pc' := 50) (by decide) (pc2 := 46) rfl (fun hc43 => ?_) (fun hc43 => ?_)
      · refine r_iload X0.here hx (hb hby at_50) rfl (pc' := 52) rfl ?_
        refine r_bipush X0.here hx (hb hby at_52) (v := 8) rfl (pc' := 54) rfl ?_
        refine r_iand X0.here hx (hb hby at_54) (pc' := 55) rfl ?_
        refine r_if0_eq X0.here hx (hb hby at_55) (by decide) (pc' := 63) (by decide) (pc2 := 58) rfl (fun hc55 => ?_) (fun hc55 => ?_)
        · refine r_iloadN X0.here hx (hb hby at_63) rfl (pc' := 64) rfl ?_
          refine r_istore X0.here hx (hb hby at_64) (l' := #[.val (.int s1), .val (.int s2), .val (.int s3), .val (.int b), .val (.int cc), .val (.int k), .val (.int (b &&& (15 : Int32))), .val (.int (b &&& (15 : Int32))), .val (.int s1), .val (.int s3), .unset, .unset, .unset, .unset, .unset, .unset, .unset, .unset]) rfl (pc' := 66) rfl ?_
          exact J _ _ _ hb1
        · refine r_iload X0.here hx (hb hby at_58) rfl (pc' := 60) rfl ?_
          refine r_goto X0.here hx (hb hby at_60) (by decide) (pc' := 64) (by decide) ?_
          refine r_istore X0.here hx (hb hby at_64) (l' := #[.val (.int s1), .val (.int s2), .val (.int s3), .val (.int b), .val (.int cc), .val (.int k), .val (.int (b &&& (15 : Int32))), .val (.int (b &&& (15 : Int32))), .val (.int s1), .val (.int s1), .unset, .unset, .unset, .unset, .unset, .unset, .unset, .unset]) rfl (pc' := 66) rfl ?_
          exact J _ _ _ hb1
      · refine r_iloadN X0.here hx (hb hby at_46) rfl (pc' := 47) rfl ?_
        refine r_goto X0.here hx (hb hby at_47) (by decide) (pc' := 64) (by decide) ?_
        refine r_istore X0.here hx (hb hby at_64) (l' := #[.val (.int s1), .val (.int s2), .val (.int s3), .val (.int b), .val (.int cc), .val (.int k), .val (.int (b &&& (15 : Int32))), .val (.int (b &&& (15 : Int32))), .val (.int s1), .val (.int s1), .unset, .unset, .unset, .unset, .unset, .unset, .unset, .unset]) rfl (pc' := 66) rfl ?_
        exact J _ _ _ hb1
set_option maxRecDepth 65536 in
set_option maxHeartbeats 40000000 in
theorem comes_1 {Post : Tables → Env → Array Value → State → Outcome → State → Prop} (hpost : ∀ tb e args s v u, (limb_1_1.after args s (.returned v) u = true ∧ limb_1_2.after args s (.returned v) u = true ∧ True) → FrameEnd s (.returned v) u (Jvm.fieldLocs frame_1_writes args s ++ Jvm.arrayLocs frame_1_arrays args s ++ Jvm.staticLocs frame_1_statics s) 24 384 → Post tb e args s (.returned v) u) :
    ArmFor flags0 classFile x code maxLocals ret World_1 tables_1 room_1 Calls_1 rest_1 Pre_1 Post := by
  intro l hfl _ _ p e ha hc hk s m args below hf hA hF happ hP
  obtain ⟨hcalls, hrest, hpre⟩ := hP
  obtain ⟨-, -, -, hnamed, -, -, -, hat⟩ := (Spec.applies_iff hf).mp happ
  obtain ⟨hg, hn⟩ := and_e (Cond.before_iff.mp (show (Jvm.Cond.and given_1 narrow_1).before args s = true from hpre))
  obtain ⟨h1, g0⟩ := and_e hg
  obtain ⟨q0, g1⟩ := and_e g0
  obtain ⟨q1, g2⟩ := and_e g1
  obtain ⟨q2, g3⟩ := and_e g2
  obtain ⟨q3, g4⟩ := and_e g3
  obtain ⟨q4, g5⟩ := and_e g4
  have q5 := g5
  obtain ⟨w0, w1, w2, w3, w4, w5, rfl⟩ : ∃ w0 w1 w2 w3 w4 w5 : Value, args = #[w0, w1, w2, w3, w4, w5] := by
    have hs : args.size = 6 := by simpa [Cond.value, given_1] using h1
    obtain ⟨L⟩ := args
    match L, hs with
    | [w0, w1, w2, w3, w4, w5], _ => exact ⟨w0, w1, w2, w3, w4, w5, rfl⟩
  have hw := fun d (hd : d ∈ tables_1) => atoms_spec (ws := Jvm.Cond.code x code maxLocals ret :: tables_1) hat d (List.mem_cons_of_mem _ hd)
  have hfit : Fit s := fun {y c} hc i hi => by
    obtain ⟨ha, rfl⟩ := Array.getElem?_eq_some_iff.mp hc
    have q := List.all_eq_true.mp ((Array.all_eq_true_iff_forall_mem.mp hF) _ (Array.getElem_mem ha)) i (List.mem_range.mpr hi)
    simpa [Array.getElem?_eq_getElem hi] using q
  obtain ⟨i0, e0⟩ := is_v q0
  obtain rfl : w0 = (.int i0) := Option.some.inj e0
  obtain ⟨i1, e1⟩ := is_v q1
  obtain rfl : w1 = (.int i1) := Option.some.inj e1
  obtain ⟨i2, e2⟩ := is_v q2
  obtain rfl : w2 = (.int i2) := Option.some.inj e2
  obtain ⟨i3, e3⟩ := is_v q3
  obtain rfl : w3 = (.int i3) := Option.some.inj e3
  obtain ⟨i4, e4⟩ := is_v q4
  obtain rfl : w4 = (.int i4) := Option.some.inj e4
  obtain ⟨i5, e5⟩ := is_v q5
  obtain rfl : w5 = (.int i5) := Option.some.inj e5
  obtain ⟨n, o, h1, h2, h3, _, L, rfl, ⟨rfl, N⟩, hq⟩ := rm0 l s _ hw tables_1 i0 i1 i2 i3 i4 i5  s.heap s.heap.size (Nat.le_refl _)  p e ha hc hk s m _ below hf ((Spec.applies_iff_loose hf).mp happ).1 ⟨rfl, State.Warmed39.refl s, rfl⟩ trivial
  refine ⟨n, _, h1, h2, h3, hpost _ _ _ _ _ _ ⟨Cond.after_iff.mpr rfl, Cond.after_iff.mpr (eq_i res_at (Term.int_eval (1)) rfl), trivial⟩ ⟨hq.1, hq.2.1, (hq.2.2.sift fun y hy => Or.inr (N y hy)).mono (by decide) (by decide)⟩⟩
theorem main_1_1 : Claimed_1_1 := comes_1 fun _ _ _ _ _ _ h hF => ⟨h.1, hF⟩
theorem main_1_2 : Claimed_1_2 := comes_1 fun _ _ _ _ _ _ h hF => ⟨h.2.1, hF⟩
end Jvm.Pilot.@@N@@
namespace Jvm.Pilot.@@N@@
open Jvm Jvm.ClassFile Sem Op Lib Jvm.Free Jvm.Stand Jvm.Pilot.@@N@@.Jvm.D
/-! MADE BY PROGRAM (witnessworld.py) out of the Statement's table words and the real class files: 18 classes; the members and pool entries that the words name. The judged class is class 1, her method 1. -/
namespace start1
open Jvm.ClassFile
def u (s : String) : CpInfo := .utf8 (stringToUtf16 s)
/-- a pool by its gaps: so many unusable entries, then the entry; so many at the end -/
def gap : Nat → List CpInfo → List CpInfo
  | 0, r => r
  | n + 1, r => .unusable :: gap n r
def poolList (es : List (Nat × CpInfo)) (last : Nat) : List CpInfo := es.foldr (fun e r => gap e.1 (e.2 :: r)) (gap last [])
def pool (es : List (Nat × CpInfo)) (last : Nat) : Array CpInfo := ⟨poolList es last⟩
def fileOf (pool : Array CpInfo) (this : Nat) (attrs : Array Attribute := #[]) (ms : Array MethodInfo := #[]) (fl : Nat := 33) (sup : Nat := 0) (ifs : Array Nat := #[]) (fds : Array FieldInfo := #[]) : ClassFile where
  minorVersion := 0
  majorVersion := 65
  constantPool := pool
  accessFlags := fl
  thisClass := this
  superClass := sup
  interfaces := ifs
  fields := fds
  methods := ms
  attributes := attrs
def plain (name : String) (sup : Option ClassId) : Class where
  name := name
  kind := .ordinary
  loader := none
  accessFlags := 33
  super := sup
  interfaces := #[]
  cf := none
  fields := #[]
  methods := #[]
  instanceTypes := #[]
  staticTypes := #[]
  resolved := #[]
  callSites := []
  init := .initialized
  statics := none
  mirror := none

def pool0 : Array CpInfo := pool [(5, u "<init>"), (0, u "()V"), (1, .class_ 10), (1, u "java/lang/Object")] 113

def k0c0 : Code := { maxStack := 0, maxLocals := 1, code := object_method_1_code, exceptionTable := #[], attributes := #[] }
def k0m0 : Method := { name := "<init>", desc := "()V", sig := { parameters := [], returnType := none }, accessFlags := 1, code := some k0c0 }
/-- java/lang/Object -/
def k0 : Class := { plain "java/lang/Object" none with
  accessFlags := 33
  interfaces := #[]
  cf := some (fileOf pool0 8 #[] #[{ accessFlags := 1, nameIndex := 5, descriptorIndex := 6, attributes := #[] }] 33 0 #[] #[])
  fields := #[]
  methods := #[k0m0]
  instanceTypes := #[]
  staticTypes := #[]
  resolved := Array.replicate 124 none
  statics := none }

def pool1 : Array CpInfo := pool [(2, .class_ 4), (0, .nameAndType 5 6), (0, u "java/lang/Object"), (0, u "<init>"), (0, u "()V"), (0, .class_ 8), (0, u "com/example/ajif/ajif/TokenTable"), (0, .methodref 7 3), (0, .methodref 7 11), (0, .nameAndType 12 13), (0, u "follows"), (0, u "(II)V"), (0, .methodref 7 15), (0, .nameAndType 16 17), (0, u "following"), (0, u "(I)I"), (0, .methodref 7 19), (0, .nameAndType 20 17), (0, u "followingBefore"), (0, .class_ 22), (0, u "com/example/ajif/ajif/TokenTableFollowsPinLaw"), (2, u "law"), (0, u "(IIIIII)Z")] 3

def k1m0 : Method := { name := "<init>", desc := "()V", sig := { parameters := [], returnType := none }, accessFlags := 1, code := none }
def k1c1 : Code := { maxStack := 3, maxLocals := 18, code := code, exceptionTable := #[], attributes := #[] }
def k1m1 : Method := { name := "law", desc := "(IIIIII)Z", sig := { parameters := [.int, .int, .int, .int, .int, .int], returnType := some .boolean }, accessFlags := 9, code := some k1c1 }
/-- com/example/ajif/ajif/TokenTableFollowsPinLaw -/
def k1 : Class := { plain "com/example/ajif/ajif/TokenTableFollowsPinLaw" (some 0) with
  accessFlags := 49
  interfaces := #[]
  cf := some (fileOf pool1 21 #[] #[{ accessFlags := 1, nameIndex := 5, descriptorIndex := 6, attributes := #[] }, { accessFlags := 9, nameIndex := 25, descriptorIndex := 26, attributes := #[] }] 49 2 #[] #[])
  fields := #[]
  methods := #[k1m0, k1m1]
  instanceTypes := #[]
  staticTypes := #[]
  resolved := Array.replicate 30 none
  statics := none }

def pool2 : Array CpInfo := pool [(1, .methodref 2 3), (0, .class_ 4), (0, .nameAndType 5 6), (0, u "java/lang/Object"), (0, u "<init>"), (0, u "()V"), (0, .class_ 8), (0, u "com/example/ajif/ajif/TokenTable"), (0, .class_ 10), (0, u "java/lang/String"), (0, .fieldref 7 12), (0, .nameAndType 13 14), (0, u "strings"), (0, u "[Ljava/lang/String;"), (0, .fieldref 7 16), (0, .nameAndType 17 18), (0, u "lengths"), (0, u "[I"), (0, .fieldref 7 20), (0, .nameAndType 21 22), (0, u "hashes"), (0, u "[J"), (0, .fieldref 7 24), (0, .nameAndType 25 26), (0, u "keys"), (0, u "[Ljava/lang/Object;"), (0, .fieldref 7 28), (0, .nameAndType 29 18), (0, u "following"), (0, .fieldref 7 31), (0, .nameAndType 32 18), (0, u "followingBefore"), (0, .fieldref 7 34), (0, .nameAndType 35 18), (0, u "index"), (0, .fieldref 7 37), (0, .nameAndType 38 39), (0, u "indexGrows"), (0, u "Z"), (20, u "lackedRoom"), (2, u "count"), (0, u "I"), (44, u "UTF8_SHELF"), (0, u "Lcom/example/ajif/ajif/Shelf;"), (2, u "CHARS_SHELF"), (0, u "MAX_LENGTH"), (2, u "MAX_STRINGS"), (1, u "FIRST_SLOTS"), (1, u "MAX_PROBES"), (11, u "(I)I"), (1, u "follows"), (0, u "(II)V"), (5, .class_ 143), (0, u "com/example/ajif/ajif/TokenTable$Finder")] 2

def k2c0 : Code := { maxStack := 2, maxLocals := 1, code := prog_37_method_1_code, exceptionTable := #[], attributes := #[] }
def k2m0 : Method := { name := "<init>", desc := "()V", sig := { parameters := [], returnType := none }, accessFlags := 0, code := some k2c0 }
def k2c1 : Code := { maxStack := 2, maxLocals := 2, code := prog_37_method_10_code, exceptionTable := #[], attributes := #[] }
def k2m1 : Method := { name := "following", desc := "(I)I", sig := { parameters := [.int], returnType := some .int }, accessFlags := 0, code := some k2c1 }
def k2c2 : Code := { maxStack := 2, maxLocals := 2, code := prog_37_method_11_code, exceptionTable := #[], attributes := #[] }
def k2m2 : Method := { name := "followingBefore", desc := "(I)I", sig := { parameters := [.int], returnType := some .int }, accessFlags := 0, code := some k2c2 }
def k2c3 : Code := { maxStack := 4, maxLocals := 3, code := prog_37_method_12_code, exceptionTable := #[], attributes := #[] }
def k2m3 : Method := { name := "follows", desc := "(II)V", sig := { parameters := [.int, .int], returnType := none }, accessFlags := 0, code := some k2c3 }
/-- com/example/ajif/ajif/TokenTable -/
def k2 : Class := { plain "com/example/ajif/ajif/TokenTable" (some 0) with
  accessFlags := 48
  interfaces := #[]
  cf := some (fileOf pool2 7 #[.nestMembers #[142]] #[{ accessFlags := 0, nameIndex := 5, descriptorIndex := 6, attributes := #[] }, { accessFlags := 0, nameIndex := 29, descriptorIndex := 133, attributes := #[] }, { accessFlags := 0, nameIndex := 32, descriptorIndex := 133, attributes := #[] }, { accessFlags := 0, nameIndex := 135, descriptorIndex := 136, attributes := #[] }] 48 2 #[] #[{ accessFlags := 24, nameIndex := 114, descriptorIndex := 64, attributes := #[] }, { accessFlags := 24, nameIndex := 117, descriptorIndex := 64, attributes := #[] }, { accessFlags := 26, nameIndex := 119, descriptorIndex := 64, attributes := #[] }, { accessFlags := 26, nameIndex := 121, descriptorIndex := 64, attributes := #[] }, { accessFlags := 26, nameIndex := 109, descriptorIndex := 110, attributes := #[] }, { accessFlags := 26, nameIndex := 113, descriptorIndex := 110, attributes := #[] }, { accessFlags := 2, nameIndex := 13, descriptorIndex := 14, attributes := #[] }, { accessFlags := 2, nameIndex := 17, descriptorIndex := 18, attributes := #[] }, { accessFlags := 2, nameIndex := 21, descriptorIndex := 22, attributes := #[] }, { accessFlags := 2, nameIndex := 25, descriptorIndex := 26, attributes := #[] }, { accessFlags := 2, nameIndex := 29, descriptorIndex := 18, attributes := #[] }, { accessFlags := 2, nameIndex := 32, descriptorIndex := 18, attributes := #[] }, { accessFlags := 2, nameIndex := 63, descriptorIndex := 64, attributes := #[] }, { accessFlags := 2, nameIndex := 35, descriptorIndex := 18, attributes := #[] }, { accessFlags := 2, nameIndex := 38, descriptorIndex := 39, attributes := #[] }, { accessFlags := 2, nameIndex := 60, descriptorIndex := 39, attributes := #[] }])
  fields := #[{ name := "MAX_LENGTH", type := .int, accessFlags := 24, slot := 0, constantValue := 0 }, { name := "MAX_STRINGS", type := .int, accessFlags := 24, slot := 1, constantValue := 0 }, { name := "FIRST_SLOTS", type := .int, accessFlags := 26, slot := 2, constantValue := 0 }, { name := "MAX_PROBES", type := .int, accessFlags := 26, slot := 3, constantValue := 0 }, { name := "UTF8_SHELF", type := (.object "com/example/ajif/ajif/Shelf"), accessFlags := 26, slot := 4, constantValue := 0 }, { name := "CHARS_SHELF", type := (.object "com/example/ajif/ajif/Shelf"), accessFlags := 26, slot := 5, constantValue := 0 }, { name := "strings", type := (.array (.object "java/lang/String")), accessFlags := 2, slot := 0, constantValue := 0 }, { name := "lengths", type := (.array .int), accessFlags := 2, slot := 1, constantValue := 0 }, { name := "hashes", type := (.array .long), accessFlags := 2, slot := 2, constantValue := 0 }, { name := "keys", type := (.array (.object "java/lang/Object")), accessFlags := 2, slot := 3, constantValue := 0 }, { name := "following", type := (.array .int), accessFlags := 2, slot := 4, constantValue := 0 }, { name := "followingBefore", type := (.array .int), accessFlags := 2, slot := 5, constantValue := 0 }, { name := "count", type := .int, accessFlags := 2, slot := 6, constantValue := 0 }, { name := "index", type := (.array .int), accessFlags := 2, slot := 7, constantValue := 0 }, { name := "indexGrows", type := .boolean, accessFlags := 2, slot := 8, constantValue := 0 }, { name := "lackedRoom", type := .boolean, accessFlags := 2, slot := 9, constantValue := 0 }]
  methods := #[k2m0, k2m1, k2m2, k2m3]
  instanceTypes := #[(.array (.object "java/lang/String")), (.array .int), (.array .long), (.array (.object "java/lang/Object")), (.array .int), (.array .int), .int, (.array .int), .boolean, .boolean]
  staticTypes := #[.int, .int, .int, .int, (.object "com/example/ajif/ajif/Shelf"), (.object "com/example/ajif/ajif/Shelf")]
  resolved := Array.replicate 146 none
  statics := none }

def pool3 : Array CpInfo := pool [(1, .class_ 2), (0, u "java/io/Serializable"), (0, .class_ 4), (0, u "java/lang/Object")] 2

/-- java/io/Serializable -/
def k3 : Class := { plain "java/io/Serializable" (some 0) with
  accessFlags := 1537
  interfaces := #[]
  cf := some (fileOf pool3 1 #[] #[] 1537 3 #[] #[])
  fields := #[]
  methods := #[]
  instanceTypes := #[]
  staticTypes := #[]
  resolved := Array.replicate 7 none
  statics := none }

def pool4 : Array CpInfo := pool [(1, .class_ 2), (0, u "java/lang/Comparable"), (0, .class_ 4), (0, u "java/lang/Object")] 7

/-- java/lang/Comparable -/
def k4 : Class := { plain "java/lang/Comparable" (some 0) with
  accessFlags := 1537
  interfaces := #[]
  cf := some (fileOf pool4 1 #[] #[] 1537 3 #[] #[])
  fields := #[]
  methods := #[]
  instanceTypes := #[]
  staticTypes := #[]
  resolved := Array.replicate 12 none
  statics := none }

def pool5 : Array CpInfo := pool [(2, .class_ 4), (1, u "java/lang/CharSequence"), (42, .class_ 48), (0, u "java/lang/CharSequence$1CodePointIterator"), (10, .class_ 60), (0, u "java/lang/CharSequence$1CharIterator"), (5, .class_ 67), (0, u "java/lang/Object")] 63

/-- java/lang/CharSequence -/
def k5 : Class := { plain "java/lang/CharSequence" (some 0) with
  accessFlags := 1537
  interfaces := #[]
  cf := some (fileOf pool5 2 #[.nestMembers #[47, 59]] #[] 1537 66 #[] #[])
  fields := #[]
  methods := #[]
  instanceTypes := #[]
  staticTypes := #[]
  resolved := Array.replicate 131 none
  statics := none }

def pool6 : Array CpInfo := pool [(1, .class_ 2), (0, u "java/lang/constant/Constable"), (0, .class_ 4), (0, u "java/lang/Object")] 6

/-- java/lang/constant/Constable -/
def k6 : Class := { plain "java/lang/constant/Constable" (some 0) with
  accessFlags := 1537
  interfaces := #[]
  cf := some (fileOf pool6 1 #[] #[] 1537 3 #[] #[])
  fields := #[]
  methods := #[]
  instanceTypes := #[]
  staticTypes := #[]
  resolved := Array.replicate 11 none
  statics := none }

def pool7 : Array CpInfo := pool [(1, .class_ 2), (0, u "java/lang/constant/ConstantDesc"), (0, .class_ 4), (0, u "java/lang/Object")] 32

/-- java/lang/constant/ConstantDesc -/
def k7 : Class := { plain "java/lang/constant/ConstantDesc" (some 0) with
  accessFlags := 1537
  interfaces := #[]
  cf := some (fileOf pool7 1 #[] #[] 1537 3 #[] #[])
  fields := #[]
  methods := #[]
  instanceTypes := #[]
  staticTypes := #[]
  resolved := Array.replicate 37 none
  statics := none }

def pool8 : Array CpInfo := pool [(2, .class_ 4), (1, u "java/lang/Object"), (0, u "<init>"), (0, u "()V"), (3, .class_ 12), (1, u "java/lang/String"), (0, u "value"), (0, u "[B"), (2, u "coder"), (0, u "B"), (2, u "hash"), (0, u "I"), (2, u "hashIsZero"), (0, u "Z"), (13, u "COMPACT_STRINGS"), (534, .class_ 576), (0, u "java/lang/CharSequence"), (22, u "CASE_INSENSITIVE_ORDER"), (0, u "Ljava/util/Comparator;"), (500, u "serialPersistentFields"), (0, u "[Ljava/io/ObjectStreamField;"), (0, .class_ 1104), (0, u "java/lang/String$CaseInsensitiveComparator"), (1, .class_ 1107), (0, u "java/io/Serializable"), (0, .class_ 1109), (0, u "java/lang/Comparable"), (0, .class_ 1111), (0, u "java/lang/constant/Constable"), (0, .class_ 1113), (0, u "java/lang/constant/ConstantDesc"), (2, u "serialVersionUID"), (0, u "J"), (3, u "REPL"), (0, u "C"), (2, u "LATIN1"), (1, u "UTF16")] 323

def k8m0 : Method := { name := "<init>", desc := "()V", sig := { parameters := [], returnType := none }, accessFlags := 1, code := none }
/-- java/lang/String -/
def k8 : Class := { plain "java/lang/String" (some 0) with
  accessFlags := 49
  interfaces := #[3, 4, 5, 6, 7]
  cf := some (fileOf pool8 10 #[.nestMembers #[1103]] #[{ accessFlags := 1, nameIndex := 5, descriptorIndex := 6, attributes := #[] }] 49 2 #[1106, 1108, 575, 1110, 1112] #[{ accessFlags := 18, nameIndex := 13, descriptorIndex := 14, attributes := #[] }, { accessFlags := 18, nameIndex := 17, descriptorIndex := 18, attributes := #[] }, { accessFlags := 2, nameIndex := 21, descriptorIndex := 22, attributes := #[] }, { accessFlags := 2, nameIndex := 25, descriptorIndex := 26, attributes := #[] }, { accessFlags := 26, nameIndex := 1116, descriptorIndex := 1117, attributes := #[] }, { accessFlags := 24, nameIndex := 40, descriptorIndex := 26, attributes := #[] }, { accessFlags := 26, nameIndex := 1101, descriptorIndex := 1102, attributes := #[] }, { accessFlags := 26, nameIndex := 1121, descriptorIndex := 1122, attributes := #[] }, { accessFlags := 25, nameIndex := 599, descriptorIndex := 600, attributes := #[] }, { accessFlags := 24, nameIndex := 1125, descriptorIndex := 18, attributes := #[] }, { accessFlags := 24, nameIndex := 1127, descriptorIndex := 18, attributes := #[] }])
  fields := #[{ name := "value", type := (.array .byte), accessFlags := 18, slot := 0, constantValue := 0 }, { name := "coder", type := .byte, accessFlags := 18, slot := 1, constantValue := 0 }, { name := "hash", type := .int, accessFlags := 2, slot := 2, constantValue := 0 }, { name := "hashIsZero", type := .boolean, accessFlags := 2, slot := 3, constantValue := 0 }, { name := "serialVersionUID", type := .long, accessFlags := 26, slot := 0, constantValue := 0 }, { name := "COMPACT_STRINGS", type := .boolean, accessFlags := 24, slot := 1, constantValue := 0 }, { name := "serialPersistentFields", type := (.array (.object "java/io/ObjectStreamField")), accessFlags := 26, slot := 2, constantValue := 0 }, { name := "REPL", type := .char, accessFlags := 26, slot := 3, constantValue := 0 }, { name := "CASE_INSENSITIVE_ORDER", type := (.object "java/util/Comparator"), accessFlags := 25, slot := 4, constantValue := 0 }, { name := "LATIN1", type := .byte, accessFlags := 24, slot := 5, constantValue := 0 }, { name := "UTF16", type := .byte, accessFlags := 24, slot := 6, constantValue := 0 }]
  methods := #[k8m0]
  instanceTypes := #[(.array .byte), .byte, .int, .boolean]
  staticTypes := #[.long, .boolean, (.array (.object "java/io/ObjectStreamField")), .char, (.object "java/util/Comparator"), .byte, .byte]
  resolved := Array.replicate 1451 none
  statics := none }

def pool9 : Array CpInfo := pool [(1, u "java/lang/Cloneable"), (0, .class_ 1), (0, u "java/lang/Object"), (0, .class_ 3)] 3

/-- java/lang/Cloneable -/
def k9 : Class := { plain "java/lang/Cloneable" (some 0) with
  accessFlags := 1537
  interfaces := #[]
  cf := some (fileOf pool9 2 #[] #[] 1537 4 #[] #[])
  fields := #[]
  methods := #[]
  instanceTypes := #[]
  staticTypes := #[]
  resolved := Array.replicate 8 none
  statics := none }

/-- the primitive byte -/
def k10 : Class := { plain "byte" none with kind := .primitive 'B', accessFlags := 0x411 }
/-- [B -/
def k11 : Class := { plain "[B" (some 0) with kind := .array 10 .byte, interfaces := #[9, 3], accessFlags := 1041 }

/-- the primitive int -/
def k12 : Class := { plain "int" none with kind := .primitive 'I', accessFlags := 0x411 }
/-- [I -/
def k13 : Class := { plain "[I" (some 0) with kind := .array 12 .int, interfaces := #[9, 3], accessFlags := 1041 }

/-- the primitive long -/
def k14 : Class := { plain "long" none with kind := .primitive 'J', accessFlags := 0x411 }
/-- [J -/
def k15 : Class := { plain "[J" (some 0) with kind := .array 14 .long, interfaces := #[9, 3], accessFlags := 1041 }

/-- [Ljava/lang/Object; -/
def k16 : Class := { plain "[Ljava/lang/Object;" (some 0) with kind := .array 0 (.object "java/lang/Object"), interfaces := #[9, 3], accessFlags := 1041 }

/-- [Ljava/lang/String; -/
def k17 : Class := { plain "[Ljava/lang/String;" (some 0) with kind := .array 8 (.object "java/lang/String"), interfaces := #[9, 3], accessFlags := 1041 }

def heap : Heap := #[]
def classes : Array Class := #[k0, k1, k2, k3, k4, k5, k6, k7, k8, k9, k10, k11, k12, k13, k14, k15, k16, k17]
def interned : List (Array UInt16 × Addr) := []
def slotsUsed : Nat := 0
def theMethod : MethodId := ⟨1, 1⟩
def args0 : Array Value := #[.int 5, .int 7, .int (-3), .int 9, .int 1, .int 0]
def aboutOver (below : List Frame) : State where
  vm := { classes := classes, interned := interned.toArray }
  heap := heap
  slotsUsed := slotsUsed
  threads := #[{ frames := .invoking theMethod args0 :: below }]
def below0 : List Frame := [.native { method := ⟨0, 0⟩, args := #[] }]
def about1 : State := aboutOver below0
def p0 : Program := .bare "" "" ""
def e0 : Env := launch0.env 0 0 0
theorem w_frames : about1.frames = Frame.invoking theMethod args0 :: below0 := rfl
set_option maxRecDepth 65536 in
theorem w_args : argsFit about1.vm theMethod args0 = true := by decide +kernel
set_option maxRecDepth 65536 in
theorem w_heap : heapFits about1 = true := by decide +kernel
set_option maxRecDepth 65536 in
theorem w_runnable : about1.curStatus? = some .runnable := by decide +kernel
set_option maxRecDepth 65536 in
theorem w_alone : about1.alone = true := by decide +kernel
set_option maxRecDepth 65536 in
theorem w_named : about1.methodNamed? x = some theMethod := by decide +kernel
set_option maxRecDepth 65536 in
theorem w_hears : about1.hears theMethod below0 = true := by decide +kernel
set_option maxRecDepth 65536 in
theorem w_ripe : about1.ripe theMethod args0 below0 = true := by decide +kernel
theorem w_running : about1.status = .running := rfl
set_option maxRecDepth 65536 in
theorem w_room : about1.hasRoom e0.platform room_1 = true :=
  launch0.hasRoom_least _ room_1 (by decide +kernel) (by decide +kernel) (by decide +kernel) (by decide +kernel) (by decide +kernel) (by decide +kernel)
theorem allAtoms_all (ts : List Jvm.Cond) (a : Array Jvm.Value) (st : Jvm.State) : (allAtoms ts).before a st = ts.all (fun c => c.before a st) := by
  induction ts with
  | nil => rfl
  | cons c t ih =>
    show (Jvm.Cond.and c (allAtoms t)).before a st = _
    rw [Jvm.Cond.before_and, ih, List.all_cons]
def words1 : List Jvm.Cond := Jvm.Cond.code x code maxLocals ret :: tables_1
/-- a 'code' word, met by the world's own term for the bytes: nothing is compared byte by byte -/
theorem code_word {y : MethodName} {bytes : ByteArray} {mx : Nat} {rt : Option FieldType} {a : Array Value} {s : State} {m : MethodId} {meth : Method} {c : Code} (h1 : s.methodNamed? y = some m) (h2 : s.vm.method? m = some meth) (h3 : meth.code = some c) (h4 : c.code = bytes)
    (h5 : (c.maxLocals == mx && c.exceptionTable.isEmpty && decide (c.maxStack ≤ mostOperands) && decide (meth.sig.returnType = rt) && !meth.locks && decide (parseMethodDescriptor y.desc = some meth.sig)) = true) : (Jvm.Cond.code y bytes mx rt).before a s = true := by
  simp only [Bool.and_eq_true, beq_iff_eq, Bool.not_eq_true', decide_eq_true_eq] at h5
  obtain ⟨⟨⟨⟨⟨g1, g2⟩, g3⟩, g4⟩, g5⟩, g6⟩ := h5
  simp [Cond.before, Cond.holds, Cond.value, h1, h2, h3, h4, g1, g2, g3, g4, g5, g6]
def isCode : Jvm.Cond → Bool
  | .code _ _ _ _ => true
  | _ => false
theorem all_split {L : List Jvm.Cond} {P : Jvm.Cond → Bool} (h1 : L.all (fun c => isCode c || P c) = true) (h2 : ∀ c ∈ L.filter isCode, P c = true) : L.all P = true := by
  refine List.all_eq_true.mpr fun c hc => ?_
  have h := List.all_eq_true.mp h1 c hc
  rcases Bool.eq_false_or_eq_true (isCode c) with hi | hi
  · exact h2 c (List.mem_filter.mpr ⟨hc, hi⟩)
  · simpa [hi] using h
set_option maxRecDepth 65536 in
theorem w_c0 : (Jvm.Cond.code x code maxLocals ret).before args0 about1 = true := code_word (m := ⟨1, 1⟩) (meth := k1m1) (c := k1c1) (by decide +kernel) rfl rfl rfl (by decide +kernel)
set_option maxRecDepth 65536 in
theorem w_c1 : (Jvm.Cond.code ({ cls := "com/example/ajif/ajif/TokenTable", name := "<init>", desc := "()V" } : Jvm.MethodName) prog_37_method_1_code (1 : Nat) (Option.none : Option Jvm.ClassFile.FieldType)).before args0 about1 = true := code_word (m := ⟨2, 0⟩) (meth := k2m0) (c := k2c0) (by decide +kernel) rfl rfl rfl (by decide +kernel)
set_option maxRecDepth 65536 in
theorem w_c2 : (Jvm.Cond.code ({ cls := "java/lang/Object", name := "<init>", desc := "()V" } : Jvm.MethodName) object_method_1_code (1 : Nat) (Option.none : Option Jvm.ClassFile.FieldType)).before args0 about1 = true := code_word (m := ⟨0, 0⟩) (meth := k0m0) (c := k0c0) (by decide +kernel) rfl rfl rfl (by decide +kernel)
set_option maxRecDepth 65536 in
theorem w_c3 : (Jvm.Cond.code ({ cls := "com/example/ajif/ajif/TokenTable", name := "follows", desc := "(II)V" } : Jvm.MethodName) prog_37_method_12_code (3 : Nat) (Option.none : Option Jvm.ClassFile.FieldType)).before args0 about1 = true := code_word (m := ⟨2, 3⟩) (meth := k2m3) (c := k2c3) (by decide +kernel) rfl rfl rfl (by decide +kernel)
set_option maxRecDepth 65536 in
theorem w_c4 : (Jvm.Cond.code ({ cls := "com/example/ajif/ajif/TokenTable", name := "following", desc := "(I)I" } : Jvm.MethodName) prog_37_method_10_code (2 : Nat) (Option.some Jvm.ClassFile.FieldType.int)).before args0 about1 = true := code_word (m := ⟨2, 1⟩) (meth := k2m1) (c := k2c1) (by decide +kernel) rfl rfl rfl (by decide +kernel)
set_option maxRecDepth 65536 in
theorem w_c5 : (Jvm.Cond.code ({ cls := "com/example/ajif/ajif/TokenTable", name := "followingBefore", desc := "(I)I" } : Jvm.MethodName) prog_37_method_11_code (2 : Nat) (Option.some Jvm.ClassFile.FieldType.int)).before args0 about1 = true := code_word (m := ⟨2, 2⟩) (meth := k2m2) (c := k2c2) (by decide +kernel) rfl rfl rfl (by decide +kernel)
def codes1 : List Jvm.Cond := [Jvm.Cond.code x code maxLocals ret, Jvm.Cond.code ({ cls := "com/example/ajif/ajif/TokenTable", name := "<init>", desc := "()V" } : Jvm.MethodName) prog_37_method_1_code (1 : Nat) (Option.none : Option Jvm.ClassFile.FieldType), Jvm.Cond.code ({ cls := "java/lang/Object", name := "<init>", desc := "()V" } : Jvm.MethodName) object_method_1_code (1 : Nat) (Option.none : Option Jvm.ClassFile.FieldType), Jvm.Cond.code ({ cls := "com/example/ajif/ajif/TokenTable", name := "follows", desc := "(II)V" } : Jvm.MethodName) prog_37_method_12_code (3 : Nat) (Option.none : Option Jvm.ClassFile.FieldType), Jvm.Cond.code ({ cls := "com/example/ajif/ajif/TokenTable", name := "following", desc := "(I)I" } : Jvm.MethodName) prog_37_method_10_code (2 : Nat) (Option.some Jvm.ClassFile.FieldType.int), Jvm.Cond.code ({ cls := "com/example/ajif/ajif/TokenTable", name := "followingBefore", desc := "(I)I" } : Jvm.MethodName) prog_37_method_11_code (2 : Nat) (Option.some Jvm.ClassFile.FieldType.int)]
set_option maxRecDepth 65536 in
theorem codes_eq : words1.filter isCode = codes1 := rfl
theorem w_codes : ∀ c ∈ words1.filter isCode, c.before args0 about1 = true := by
  rw [codes_eq]
  intro c hc
  simp only [codes1, List.mem_cons, List.not_mem_nil, or_false] at hc
  rcases hc with rfl | rfl | rfl | rfl | rfl | rfl
  · exact w_c0
  · exact w_c1
  · exact w_c2
  · exact w_c3
  · exact w_c4
  · exact w_c5
set_option maxRecDepth 65536 in
theorem w_t1 : (words1.take 24).all (fun c => isCode c || c.before args0 about1) = true := by decide +kernel
set_option maxRecDepth 65536 in
theorem w_t2 : (words1.drop 24).all (fun c => isCode c || c.before args0 about1) = true := by decide +kernel
theorem w_tables : (allAtoms (Jvm.Cond.code x code maxLocals ret :: tables_1)).before args0 about1 = true := by
  rw [allAtoms_all]
  show words1.all (fun c => c.before args0 about1) = true
  refine all_split ?_ w_codes
  rw [← List.take_append_drop 24 words1, List.all_append, w_t1, w_t2]
  rfl
set_option maxRecDepth 65536 in
theorem w_case : (Jvm.Cond.and given_1 narrow_1).before args0 about1 = true := by decide +kernel
theorem w_applies : (headSpec (Jvm.Cond.code x code maxLocals ret :: tables_1) room_1).applies x e0.platform about1 = true :=
  (Spec.applies_iff w_frames).mpr ⟨w_running, w_runnable, w_alone, w_named, w_hears, w_ripe, w_room, w_tables⟩
theorem atStart : AtStart classFile x code maxLocals ret World_1 tables_1 room_1 Calls_1 rest_1 Pre_1 launch0 p0 e0 about1 theMethod args0 below0 :=
  ⟨lists_1, trivial, launch0.admits_env _ _ _, launch0.least_env, fairChoices_fair.cas, fairChoices_fair.clock, w_frames, w_args, w_heap, w_applies, trivial, trivial, w_case⟩
end start1
theorem witness_1 : WitnessClaimed_1 := ⟨start1.p0, start1.e0, start1.about1, start1.theMethod, start1.args0, start1.below0, start1.atStart⟩
end Jvm.Pilot.@@N@@
