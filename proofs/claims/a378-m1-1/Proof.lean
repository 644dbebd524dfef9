import JvmDerived
import JvmDerived.Pilot.@@N@@Statement
import JvmDerived.Pilot.@@N@@Code
set_option linter.unusedVariables false
set_option linter.unusedSimpArgs false
namespace Jvm.Pilot.@@N@@
open Jvm Jvm.ClassFile Sem Op Lib Jvm.Free Jvm.Stand Jvm.LawKit Jvm.RoadKit Bundle Jvm.Pilot.@@N@@.Jvm.D
section Core
variable {p : Program} {l : Launch} {e : Env} {R : Room} {s : State} {m : MethodId} {args : Array Value} {below : List Frame} {meth : Method} {c : Code} {T T' : State} {locs : List Loc} {cells slots : Nat} {Q : Option Value → Heap → List Loc → Prop} {En : Outcome → State → List Loc → Prop} {kc ks : Nat} {Z : State} {a0 : Array Value} {h : Heap} {Ls : Array Slot} {st rest : List Value} {pc pc' : Nat}
def ushrI (x y : Int32) : Int32 := (x.toUInt32 >>> (y &&& 31).toUInt32).toInt32
def ushrJ (x : Int64) (y : Int32) : Int64 := (x.toUInt64 >>> (y &&& 0x3f).toInt64.toUInt64).toInt64
def cmpJ (x y : Int64) : Int32 := if x > y then 1 else if x = y then 0 else -1
def Run (p : Program) (e : Env) (below : List Frame) (Q : Option Value → Heap → List Loc → Prop) (En : Outcome → State → List Loc → Prop) (T : State) (g : JFrame) : Prop :=
  ∃ s₂ o, Steps p.tables e below (T.setTop g) s₂ ∧ s₂.status = .running ∧ Ended s₂ below o ∧ ∃ v L, o = .returned v ∧ Q v s₂.heap L ∧ En o s₂ L
theorem Run.on {g g' : JFrame} (r : Run p e below Q En T' g') (q : ∀ t, Steps p.tables e below (T'.setTop g') t → Steps p.tables e below (T.setTop g) t) : Run p e below Q En T g := by
  obtain ⟨s₂, o, h1, r⟩ := r
  exact ⟨s₂, o, q _ h1, r⟩
theorem Run.cast {g g' : JFrame} (q : g = g') (r : Run p e below Q En T g') : Run p e below Q En T g := q ▸ r
abbrev Met (l : Launch) (Z : State) (y : MethodName) (bytes : ByteArray) (maxL : Nat) (ret : Option FieldType) (ws : List Jvm.Cond) (rm : Room) (as' : Array Value) (h0 : Heap) (Q : Option Value → Heap → List Loc → Prop) (kc ks : Nat) : Prop :=
  MetFree l y (head1 (Jvm.Cond.code y bytes maxL ret :: ws) rm) (fun a U => a = as' ∧ Z.Warmed39 U.vm ∧ U.heap = h0) (fun _ _ _ _ _ => True) (fun _ U o U' => ∃ v L, o = .returned v ∧ Q v U'.heap L ∧ FrameEnd U o U' L kc ks)
theorem met_of {y : MethodName} {bytes : ByteArray} {maxL : Nat} {ret : Option FieldType} {ws : List Jvm.Cond} {rm : Room} {as' : Array Value} {h0 : Heap} {Q : Option Value → Heap → List Loc → Prop} {kc ks : Nat} {f0 : MethodId → JFrame} (hpn : plainFor y = true)
    (hef : ∀ m, entryFrame m as' maxL = f0 m)
    (body : ∀ (p : Program) (e : Env) (s : State) (m : MethodId) (below : List Frame) (meth : Method) (c : Code) (s₁ : State), Stand p l e rm s m as' below meth c s₁ [] 0 0 → p.tables.exec = Jvm.exec → c.code = bytes → c.maxLocals = maxL → meth.sig.returnType = ret → meth.locks = false → s.vm.findClass y.cls = some m.cls → meth.name = y.name → Z.Warmed39 s.vm → s₁.heap = h0 → Run p e below Q (fun o t L => FrameEnd s o t L kc ks) s₁ (f0 m)) :
    Met l Z y bytes maxL ret ws rm as' h0 Q kc ks := by
  refine MetFree.of_bodySF (code := bytes) (maxLocals := maxL) (ret := ret) hpn hisR ?_
  intro p e s m args below meth c s₁ Bd hml0 hP hK
  obtain ⟨rfl, hZ, hh⟩ := hP
  obtain ⟨s₂, o, r⟩ := body p e s m below meth c s₁ (Stand.of_body Bd) Bd.exec Bd.bytes hml0 Bd.returns (BodyLoose.notSynchronized Bd) (findClass_of_methodNamed Bd.named) (name_of_methodNamed Bd.named Bd.method).1 hZ (by rw [← hh, Bd.state]; rfl)
  rw [hef m]
  exact ⟨s₂, o, r⟩
theorem r_aloadN (at_ : At T m c below) (hx : p.tables.exec = Jvm.exec) {k : Fin 4} {v : Value} (hd : decode c.code pc = .ok (.aload_n k, 1)) (hl : Ls[k.val]? = some (.val v)) (hv : v.isRef = true) (hp : pc + 1 = pc') (r : Run p e below Q En T (mkF m pc' Ls (v :: rest))) : Run p e below Q En T (mkF m pc Ls (rest)) := by
  subst hp; exact r.on fun _ q => XS.aloadN at_ hx rfl hd hl hv q
theorem r_aload (at_ : At T m c below) (hx : p.tables.exec = Jvm.exec) {k : Nat} {v : Value} (hd : decode c.code pc = .ok (.aload k, 2)) (hl : Ls[k]? = some (.val v)) (hv : v.isRef = true) (hp : pc + 2 = pc') (r : Run p e below Q En T (mkF m pc' Ls (v :: rest))) : Run p e below Q En T (mkF m pc Ls (rest)) := by
  subst hp; exact r.on fun _ q => XS.aload at_ hx rfl hd hl hv q
theorem r_iloadN (at_ : At T m c below) (hx : p.tables.exec = Jvm.exec) {k : Fin 4} {v : Int32} (hd : decode c.code pc = .ok (.iload_n k, 1)) (hl : Ls[k.val]? = some (.val (.int v))) (hp : pc + 1 = pc') (r : Run p e below Q En T (mkF m pc' Ls (.int v :: rest))) : Run p e below Q En T (mkF m pc Ls (rest)) := by
  subst hp; exact r.on fun _ q => XS.iloadN at_ hx rfl hd hl q
theorem r_iload (at_ : At T m c below) (hx : p.tables.exec = Jvm.exec) {k : Nat} {v : Int32} (hd : decode c.code pc = .ok (.iload k, 2)) (hl : Ls[k]? = some (.val (.int v))) (hp : pc + 2 = pc') (r : Run p e below Q En T (mkF m pc' Ls (.int v :: rest))) : Run p e below Q En T (mkF m pc Ls (rest)) := by
  subst hp; exact r.on fun _ q => XS.iload at_ hx rfl hd hl q
theorem r_lloadN (at_ : At T m c below) (hx : p.tables.exec = Jvm.exec) {k : Fin 4} {v : Int64} (hd : decode c.code pc = .ok (.lload_n k, 1)) (hl : Ls[k.val]? = some (.val (.long v))) (hp : pc + 1 = pc') (r : Run p e below Q En T (mkF m pc' Ls (.long v :: rest))) : Run p e below Q En T (mkF m pc Ls (rest)) := by
  subst hp; exact r.on fun _ q => XS.lloadN at_ hx rfl hd hl q
theorem r_lload (at_ : At T m c below) (hx : p.tables.exec = Jvm.exec) {k : Nat} {v : Int64} (hd : decode c.code pc = .ok (.lload k, 2)) (hl : Ls[k]? = some (.val (.long v))) (hp : pc + 2 = pc') (r : Run p e below Q En T (mkF m pc' Ls (.long v :: rest))) : Run p e below Q En T (mkF m pc Ls (rest)) := by
  subst hp; exact r.on fun _ q => XS.lload at_ hx rfl hd hl q
theorem r_istoreN (at_ : At T m c below) (hx : p.tables.exec = Jvm.exec) {k : Fin 4} {x : Int32} {l' : Array Slot} (hd : decode c.code pc = .ok (.istore_n k, 1)) (hl : storeLocals Ls k.val (.int x) = some l') (hp : pc + 1 = pc') (r : Run p e below Q En T (mkF m pc' l' (rest))) : Run p e below Q En T (mkF m pc Ls (.int x :: rest)) := by
  subst hp; exact r.on fun _ q => XS.istoreN at_ hx rfl hd rfl hl q
theorem r_istore (at_ : At T m c below) (hx : p.tables.exec = Jvm.exec) {k : Nat} {x : Int32} {l' : Array Slot} (hd : decode c.code pc = .ok (.istore k, 2)) (hl : storeLocals Ls k (.int x) = some l') (hp : pc + 2 = pc') (r : Run p e below Q En T (mkF m pc' l' (rest))) : Run p e below Q En T (mkF m pc Ls (.int x :: rest)) := by
  subst hp; exact r.on fun _ q => XS.istore at_ hx rfl hd rfl hl q
theorem r_lstoreN (at_ : At T m c below) (hx : p.tables.exec = Jvm.exec) {k : Fin 4} {x : Int64} {l' : Array Slot} (hd : decode c.code pc = .ok (.lstore_n k, 1)) (hl : storeLocals Ls k.val (.long x) = some l') (hp : pc + 1 = pc') (r : Run p e below Q En T (mkF m pc' l' (rest))) : Run p e below Q En T (mkF m pc Ls (.long x :: rest)) := by
  subst hp; exact r.on fun _ q => XS.lstoreN at_ hx rfl hd rfl hl q
theorem r_lstore (at_ : At T m c below) (hx : p.tables.exec = Jvm.exec) {k : Nat} {x : Int64} {l' : Array Slot} (hd : decode c.code pc = .ok (.lstore k, 2)) (hl : storeLocals Ls k (.long x) = some l') (hp : pc + 2 = pc') (r : Run p e below Q En T (mkF m pc' l' (rest))) : Run p e below Q En T (mkF m pc Ls (.long x :: rest)) := by
  subst hp; exact r.on fun _ q => XS.lstore at_ hx rfl hd rfl hl q
theorem r_astoreN (at_ : At T m c below) (hx : p.tables.exec = Jvm.exec) {k : Fin 4} {x : Value} {l' : Array Slot} (hd : decode c.code pc = .ok (.astore_n k, 1)) (hv : x.isRef = true) (hl : storeLocals Ls k.val x = some l') (hp : pc + 1 = pc') (r : Run p e below Q En T (mkF m pc' l' (rest))) : Run p e below Q En T (mkF m pc Ls (x :: rest)) := by
  subst hp; exact r.on fun _ q => XS.astoreN at_ hx rfl hd rfl hv hl q
theorem r_astore (at_ : At T m c below) (hx : p.tables.exec = Jvm.exec) {k : Nat} {x : Value} {l' : Array Slot} (hd : decode c.code pc = .ok (.astore k, 2)) (hv : x.isRef = true) (hl : storeLocals Ls k x = some l') (hp : pc + 2 = pc') (r : Run p e below Q En T (mkF m pc' l' (rest))) : Run p e below Q En T (mkF m pc Ls (x :: rest)) := by
  subst hp; exact r.on fun _ q => XS.astore at_ hx rfl hd rfl hv hl q
theorem r_iconst (at_ : At T m c below) (hx : p.tables.exec = Jvm.exec) {i : Int} {v : Int32} (hd : decode c.code pc = .ok (.iconst i, 1)) (hv : Int32.ofInt i = v) (hp : pc + 1 = pc') (r : Run p e below Q En T (mkF m pc' Ls (.int v :: rest))) : Run p e below Q En T (mkF m pc Ls rest) := by
  subst hp hv; exact r.on fun _ q => XS.iconst at_ hx rfl hd q
theorem r_bipush (at_ : At T m c below) (hx : p.tables.exec = Jvm.exec) {i : Int} {v : Int32} (hd : decode c.code pc = .ok (.bipush i, 2)) (hv : (Int8.ofInt i).toInt32 = v) (hp : pc + 2 = pc') (r : Run p e below Q En T (mkF m pc' Ls (.int v :: rest))) : Run p e below Q En T (mkF m pc Ls rest) := by
  subst hp hv; exact r.on fun _ q => XS.bipush at_ hx rfl hd q
theorem r_sipush (at_ : At T m c below) (hx : p.tables.exec = Jvm.exec) {i : Int} {v : Int32} (hd : decode c.code pc = .ok (.sipush i, 3)) (hv : (Int16.ofInt i).toInt32 = v) (hp : pc + 3 = pc') (r : Run p e below Q En T (mkF m pc' Ls (.int v :: rest))) : Run p e below Q En T (mkF m pc Ls rest) := by
  subst hp hv; exact r.on fun _ q => XS.sipush at_ hx rfl hd q
theorem r_lconst (at_ : At T m c below) (hx : p.tables.exec = Jvm.exec) {k : Fin 2} {v : Int64} (hd : decode c.code pc = .ok (.lconst k, 1)) (hv : Int64.ofNat k = v) (hp : pc + 1 = pc') (r : Run p e below Q En T (mkF m pc' Ls (.long v :: rest))) : Run p e below Q En T (mkF m pc Ls rest) := by
  subst hp hv; exact r.on fun _ q => XS.lconst at_ hx rfl hd q
theorem r_aconst_null (at_ : At T m c below) (hx : p.tables.exec = Jvm.exec)  (hd : decode c.code pc = .ok (.aconst_null, 1))  (hp : pc + 1 = pc') (r : Run p e below Q En T (mkF m pc' Ls (.null :: rest))) : Run p e below Q En T (mkF m pc Ls (rest)) := by
  subst hp; exact r.on fun _ q => XS.aconstNull at_ hx rfl hd  q
theorem r_iadd (at_ : At T m c below) (hx : p.tables.exec = Jvm.exec) {x y : Int32} (hd : decode c.code pc = .ok (.iadd, 1))  (hp : pc + 1 = pc') (r : Run p e below Q En T (mkF m pc' Ls (.int (x + y) :: rest))) : Run p e below Q En T (mkF m pc Ls (.int y :: .int x :: rest)) := by
  subst hp; exact r.on fun _ q => XS.iadd at_ hx rfl hd rfl q
theorem r_isub (at_ : At T m c below) (hx : p.tables.exec = Jvm.exec) {x y : Int32} (hd : decode c.code pc = .ok (.isub, 1))  (hp : pc + 1 = pc') (r : Run p e below Q En T (mkF m pc' Ls (.int (x - y) :: rest))) : Run p e below Q En T (mkF m pc Ls (.int y :: .int x :: rest)) := by
  subst hp; exact r.on fun _ q => XS.isub at_ hx rfl hd rfl q
theorem r_imul (at_ : At T m c below) (hx : p.tables.exec = Jvm.exec) {x y : Int32} (hd : decode c.code pc = .ok (.imul, 1))  (hp : pc + 1 = pc') (r : Run p e below Q En T (mkF m pc' Ls (.int (x * y) :: rest))) : Run p e below Q En T (mkF m pc Ls (.int y :: .int x :: rest)) := by
  subst hp; exact r.on fun _ q => XS.imul at_ hx rfl hd rfl q
theorem r_iand (at_ : At T m c below) (hx : p.tables.exec = Jvm.exec) {x y : Int32} (hd : decode c.code pc = .ok (.iand, 1))  (hp : pc + 1 = pc') (r : Run p e below Q En T (mkF m pc' Ls (.int (x &&& y) :: rest))) : Run p e below Q En T (mkF m pc Ls (.int y :: .int x :: rest)) := by
  subst hp; exact r.on fun _ q => XS.iand at_ hx rfl hd rfl q
theorem r_ior (at_ : At T m c below) (hx : p.tables.exec = Jvm.exec) {x y : Int32} (hd : decode c.code pc = .ok (.ior, 1))  (hp : pc + 1 = pc') (r : Run p e below Q En T (mkF m pc' Ls (.int (x ||| y) :: rest))) : Run p e below Q En T (mkF m pc Ls (.int y :: .int x :: rest)) := by
  subst hp; exact r.on fun _ q => XS.ior at_ hx rfl hd rfl q
theorem r_ixor (at_ : At T m c below) (hx : p.tables.exec = Jvm.exec) {x y : Int32} (hd : decode c.code pc = .ok (.ixor, 1))  (hp : pc + 1 = pc') (r : Run p e below Q En T (mkF m pc' Ls (.int (x ^^^ y) :: rest))) : Run p e below Q En T (mkF m pc Ls (.int y :: .int x :: rest)) := by
  subst hp; exact r.on fun _ q => XS.ixor at_ hx rfl hd rfl q
theorem r_ladd (at_ : At T m c below) (hx : p.tables.exec = Jvm.exec) {x y : Int64} (hd : decode c.code pc = .ok (.ladd, 1))  (hp : pc + 1 = pc') (r : Run p e below Q En T (mkF m pc' Ls (.long (x + y) :: rest))) : Run p e below Q En T (mkF m pc Ls (.long y :: .long x :: rest)) := by
  subst hp; exact r.on fun _ q => XS.ladd at_ hx rfl hd rfl q
theorem r_lsub (at_ : At T m c below) (hx : p.tables.exec = Jvm.exec) {x y : Int64} (hd : decode c.code pc = .ok (.lsub, 1))  (hp : pc + 1 = pc') (r : Run p e below Q En T (mkF m pc' Ls (.long (x - y) :: rest))) : Run p e below Q En T (mkF m pc Ls (.long y :: .long x :: rest)) := by
  subst hp; exact r.on fun _ q => XS.lsub at_ hx rfl hd rfl q
theorem r_lmul (at_ : At T m c below) (hx : p.tables.exec = Jvm.exec) {x y : Int64} (hd : decode c.code pc = .ok (.lmul, 1))  (hp : pc + 1 = pc') (r : Run p e below Q En T (mkF m pc' Ls (.long (x * y) :: rest))) : Run p e below Q En T (mkF m pc Ls (.long y :: .long x :: rest)) := by
  subst hp; exact r.on fun _ q => XS.lmul at_ hx rfl hd rfl q
theorem r_land (at_ : At T m c below) (hx : p.tables.exec = Jvm.exec) {x y : Int64} (hd : decode c.code pc = .ok (.land, 1))  (hp : pc + 1 = pc') (r : Run p e below Q En T (mkF m pc' Ls (.long (x &&& y) :: rest))) : Run p e below Q En T (mkF m pc Ls (.long y :: .long x :: rest)) := by
  subst hp; exact r.on fun _ q => XS.land at_ hx rfl hd rfl q
theorem r_lor (at_ : At T m c below) (hx : p.tables.exec = Jvm.exec) {x y : Int64} (hd : decode c.code pc = .ok (.lor, 1))  (hp : pc + 1 = pc') (r : Run p e below Q En T (mkF m pc' Ls (.long (x ||| y) :: rest))) : Run p e below Q En T (mkF m pc Ls (.long y :: .long x :: rest)) := by
  subst hp; exact r.on fun _ q => XS.lor at_ hx rfl hd rfl q
theorem r_lxor (at_ : At T m c below) (hx : p.tables.exec = Jvm.exec) {x y : Int64} (hd : decode c.code pc = .ok (.lxor, 1))  (hp : pc + 1 = pc') (r : Run p e below Q En T (mkF m pc' Ls (.long (x ^^^ y) :: rest))) : Run p e below Q En T (mkF m pc Ls (.long y :: .long x :: rest)) := by
  subst hp; exact r.on fun _ q => XS.lxor at_ hx rfl hd rfl q
theorem r_ineg (at_ : At T m c below) (hx : p.tables.exec = Jvm.exec) {x : Int32} (hd : decode c.code pc = .ok (.ineg, 1))  (hp : pc + 1 = pc') (r : Run p e below Q En T (mkF m pc' Ls (.int (-x) :: rest))) : Run p e below Q En T (mkF m pc Ls (.int x :: rest)) := by
  subst hp; exact r.on fun _ q => XS.ineg at_ hx rfl hd rfl q
theorem r_lneg (at_ : At T m c below) (hx : p.tables.exec = Jvm.exec) {x : Int64} (hd : decode c.code pc = .ok (.lneg, 1))  (hp : pc + 1 = pc') (r : Run p e below Q En T (mkF m pc' Ls (.long (-x) :: rest))) : Run p e below Q En T (mkF m pc Ls (.long x :: rest)) := by
  subst hp; exact r.on fun _ q => XS.lneg at_ hx rfl hd rfl q
theorem r_ishl (at_ : At T m c below) (hx : p.tables.exec = Jvm.exec) {x y : Int32} (hd : decode c.code pc = .ok (.ishl, 1))  (hp : pc + 1 = pc') (r : Run p e below Q En T (mkF m pc' Ls (.int (x <<< (y &&& 31)) :: rest))) : Run p e below Q En T (mkF m pc Ls (.int y :: .int x :: rest)) := by
  subst hp; exact r.on fun _ q => XS.ishl at_ hx rfl hd rfl q
theorem r_ishr (at_ : At T m c below) (hx : p.tables.exec = Jvm.exec) {x y : Int32} (hd : decode c.code pc = .ok (.ishr, 1))  (hp : pc + 1 = pc') (r : Run p e below Q En T (mkF m pc' Ls (.int (x >>> (y &&& 31)) :: rest))) : Run p e below Q En T (mkF m pc Ls (.int y :: .int x :: rest)) := by
  subst hp; exact r.on fun _ q => XS.ishr at_ hx rfl hd rfl q
theorem r_iushr (at_ : At T m c below) (hx : p.tables.exec = Jvm.exec) {x y : Int32} (hd : decode c.code pc = .ok (.iushr, 1))  (hp : pc + 1 = pc') (r : Run p e below Q En T (mkF m pc' Ls (.int (ushrI x y) :: rest))) : Run p e below Q En T (mkF m pc Ls (.int y :: .int x :: rest)) := by
  subst hp; exact r.on fun _ q => XS.iushr at_ hx rfl hd rfl q
theorem r_lshl (at_ : At T m c below) (hx : p.tables.exec = Jvm.exec) {x : Int64} {y : Int32} (hd : decode c.code pc = .ok (.lshl, 1))  (hp : pc + 1 = pc') (r : Run p e below Q En T (mkF m pc' Ls (.long (x <<< (y &&& 63).toInt64) :: rest))) : Run p e below Q En T (mkF m pc Ls (.int y :: .long x :: rest)) := by
  subst hp; exact r.on fun _ q => XS.lshl at_ hx rfl hd rfl q
theorem r_lshr (at_ : At T m c below) (hx : p.tables.exec = Jvm.exec) {x : Int64} {y : Int32} (hd : decode c.code pc = .ok (.lshr, 1))  (hp : pc + 1 = pc') (r : Run p e below Q En T (mkF m pc' Ls (.long (x >>> (y &&& 63).toInt64) :: rest))) : Run p e below Q En T (mkF m pc Ls (.int y :: .long x :: rest)) := by
  subst hp; exact r.on fun _ q => XS.lshr at_ hx rfl hd rfl q
theorem r_lushr (at_ : At T m c below) (hx : p.tables.exec = Jvm.exec) {x : Int64} {y : Int32} (hd : decode c.code pc = .ok (.lushr, 1))  (hp : pc + 1 = pc') (r : Run p e below Q En T (mkF m pc' Ls (.long (ushrJ x y) :: rest))) : Run p e below Q En T (mkF m pc Ls (.int y :: .long x :: rest)) := by
  subst hp; exact r.on fun _ q => XS.lushr at_ hx rfl hd rfl q
theorem r_idiv (at_ : At T m c below) (hx : p.tables.exec = Jvm.exec) {x y : Int32} (hd : decode c.code pc = .ok (.idiv, 1)) (hy : y ≠ 0) (hp : pc + 1 = pc') (r : Run p e below Q En T (mkF m pc' Ls (.int (x / y) :: rest))) : Run p e below Q En T (mkF m pc Ls (.int y :: .int x :: rest)) := by
  subst hp; exact r.on fun _ q => XS.idiv at_ hx rfl hd rfl hy q
theorem r_irem0 (at_ : At T m c below) (hx : p.tables.exec = Jvm.exec) {x y : Int32} (hd : decode c.code pc = .ok (.irem, 1)) (hy : y ≠ 0) (hp : pc + 1 = pc') (r : Run p e below Q En T (mkF m pc' Ls (.int (x - (x / y) * y) :: rest))) : Run p e below Q En T (mkF m pc Ls (.int y :: .int x :: rest)) := by
  subst hp; exact r.on fun _ q => XS.irem at_ hx rfl hd rfl hy q
theorem r_ldiv (at_ : At T m c below) (hx : p.tables.exec = Jvm.exec) {x y : Int64} (hd : decode c.code pc = .ok (.ldiv, 1)) (hy : y ≠ 0) (hp : pc + 1 = pc') (r : Run p e below Q En T (mkF m pc' Ls (.long (x / y) :: rest))) : Run p e below Q En T (mkF m pc Ls (.long y :: .long x :: rest)) := by
  subst hp; exact r.on fun _ q => XS.ldiv at_ hx rfl hd rfl hy q
theorem r_lrem0 (at_ : At T m c below) (hx : p.tables.exec = Jvm.exec) {x y : Int64} (hd : decode c.code pc = .ok (.lrem, 1)) (hy : y ≠ 0) (hp : pc + 1 = pc') (r : Run p e below Q En T (mkF m pc' Ls (.long (x - (x / y) * y) :: rest))) : Run p e below Q En T (mkF m pc Ls (.long y :: .long x :: rest)) := by
  subst hp; exact r.on fun _ q => XS.lrem at_ hx rfl hd rfl hy q
theorem r_irem (at_ : At T m c below) (hx : p.tables.exec = Jvm.exec) {x y : Int32} (hd : decode c.code pc = .ok (.irem, 1)) (hy : y ≠ 0) (hp : pc + 1 = pc') (r : Run p e below Q En T (mkF m pc' Ls (.int (x % y) :: rest))) : Run p e below Q En T (mkF m pc Ls (.int y :: .int x :: rest)) :=
  r_irem0 at_ hx hd hy hp (by rw [show x - x / y * y = x % y from irem_eq_mod x y]; exact r)
theorem r_i2l (at_ : At T m c below) (hx : p.tables.exec = Jvm.exec) {x : Int32} (hd : decode c.code pc = .ok (.i2l, 1))  (hp : pc + 1 = pc') (r : Run p e below Q En T (mkF m pc' Ls (.long (x.toInt64) :: rest))) : Run p e below Q En T (mkF m pc Ls (.int x :: rest)) := by
  subst hp; exact r.on fun _ q => XS.i2l at_ hx rfl hd rfl q
theorem r_l2i (at_ : At T m c below) (hx : p.tables.exec = Jvm.exec) {x : Int64} (hd : decode c.code pc = .ok (.l2i, 1))  (hp : pc + 1 = pc') (r : Run p e below Q En T (mkF m pc' Ls (.int (x.toInt32) :: rest))) : Run p e below Q En T (mkF m pc Ls (.long x :: rest)) := by
  subst hp; exact r.on fun _ q => XS.l2i at_ hx rfl hd rfl q
theorem r_i2b (at_ : At T m c below) (hx : p.tables.exec = Jvm.exec) {x : Int32} (hd : decode c.code pc = .ok (.i2b, 1))  (hp : pc + 1 = pc') (r : Run p e below Q En T (mkF m pc' Ls (.int (x.toInt8.toInt32) :: rest))) : Run p e below Q En T (mkF m pc Ls (.int x :: rest)) := by
  subst hp; exact r.on fun _ q => XS.i2b at_ hx rfl hd rfl q
theorem r_i2c (at_ : At T m c below) (hx : p.tables.exec = Jvm.exec) {x : Int32} (hd : decode c.code pc = .ok (.i2c, 1))  (hp : pc + 1 = pc') (r : Run p e below Q En T (mkF m pc' Ls (.int (x.toUInt32.toUInt16.toUInt32.toInt32) :: rest))) : Run p e below Q En T (mkF m pc Ls (.int x :: rest)) := by
  subst hp; exact r.on fun _ q => XS.i2c at_ hx rfl hd rfl q
theorem r_i2s (at_ : At T m c below) (hx : p.tables.exec = Jvm.exec) {x : Int32} (hd : decode c.code pc = .ok (.i2s, 1))  (hp : pc + 1 = pc') (r : Run p e below Q En T (mkF m pc' Ls (.int (x.toInt16.toInt32) :: rest))) : Run p e below Q En T (mkF m pc Ls (.int x :: rest)) := by
  subst hp; exact r.on fun _ q => XS.i2s at_ hx rfl hd rfl q
theorem r_dup (at_ : At T m c below) (hx : p.tables.exec = Jvm.exec) {x : Value} (hd : decode c.code pc = .ok (.dup, 1)) (hc : x.category = 1) (hp : pc + 1 = pc') (r : Run p e below Q En T (mkF m pc' Ls (x :: x :: rest))) : Run p e below Q En T (mkF m pc Ls (x :: rest)) := by
  subst hp; exact r.on fun _ q => XS.dup at_ hx rfl hd rfl hc q
theorem r_pop (at_ : At T m c below) (hx : p.tables.exec = Jvm.exec) {x : Value} (hd : decode c.code pc = .ok (.pop, 1)) (hc : x.category = 1) (hp : pc + 1 = pc') (r : Run p e below Q En T (mkF m pc' Ls (rest))) : Run p e below Q En T (mkF m pc Ls (x :: rest)) := by
  subst hp; exact r.on fun _ q => XS.pop at_ hx rfl hd rfl hc q
theorem r_dup_x1 (at_ : At T m c below) (hx : p.tables.exec = Jvm.exec) {x y : Value} (hd : decode c.code pc = .ok (.dup_x1, 1)) (hc : x.category = 1) (hc' : y.category = 1) (hp : pc + 1 = pc') (r : Run p e below Q En T (mkF m pc' Ls (x :: y :: x :: rest))) : Run p e below Q En T (mkF m pc Ls (x :: y :: rest)) := by
  subst hp; exact r.on fun _ q => XS.dupX1 at_ hx rfl hd rfl hc hc' q
theorem r_dup2 (at_ : At T m c below) (hx : p.tables.exec = Jvm.exec) {x y : Value} (hd : decode c.code pc = .ok (.dup2, 1)) (hc : x.category = 1) (hc' : y.category = 1) (hp : pc + 1 = pc') (r : Run p e below Q En T (mkF m pc' Ls (x :: y :: x :: y :: rest))) : Run p e below Q En T (mkF m pc Ls (x :: y :: rest)) := by
  subst hp; exact r.on fun _ q => XT.dup2 at_ hx rfl hd rfl hc hc' q
theorem r_dup2L (at_ : At T m c below) (hx : p.tables.exec = Jvm.exec) {x : Int64} (hd : decode c.code pc = .ok (.dup2, 1))  (hp : pc + 1 = pc') (r : Run p e below Q En T (mkF m pc' Ls (.long x :: .long x :: rest))) : Run p e below Q En T (mkF m pc Ls (.long x :: rest)) := by
  subst hp; exact r.on fun _ q => XT.dup2L at_ hx rfl hd rfl q
theorem r_lcmp (at_ : At T m c below) (hx : p.tables.exec = Jvm.exec) {x y : Int64} (hd : decode c.code pc = .ok (.lcmp, 1))  (hp : pc + 1 = pc') (r : Run p e below Q En T (mkF m pc' Ls (.int (cmpJ x y) :: rest))) : Run p e below Q En T (mkF m pc Ls (.long y :: .long x :: rest)) := by
  subst hp; exact r.on fun _ q => XS.lcmp at_ hx rfl hd rfl q
theorem r_iinc (at_ : At T m c below) (hx : p.tables.exec = Jvm.exec) {k : Nat} {cst : Int} {x z : Int32} {l' : Array Slot} (hd : decode c.code pc = .ok (.iinc k cst, 3)) (hl : Ls[k]? = some (.val (.int x))) (hz : x + Int32.ofInt cst = z) (hl' : storeLocals Ls k (.int z) = some l') (hp : pc + 3 = pc') (r : Run p e below Q En T (mkF m pc' l' rest)) : Run p e below Q En T (mkF m pc Ls rest) := by
  subst hp hz; exact r.on fun _ q => XS.iinc at_ hx rfl hd hl hl' q
theorem r_goto (at_ : At T m c below) (hx : p.tables.exec = Jvm.exec) {o : Int} (hd : decode c.code pc = .ok (.goto o, 3)) (ho : 0 ≤ (pc : Int) + o) (hp : ((pc : Int) + o).toNat = pc') (r : Run p e below Q En T (mkF m pc' Ls rest)) : Run p e below Q En T (mkF m pc Ls rest) :=
  r.on fun _ q => XS.goto at_ hx rfl (pc0 := pc) rfl hd ho hp q
theorem cmpJ_c (x y : Int64) : (y.toInt < x.toInt ∧ cmpJ x y = 1) ∨ (x = y ∧ cmpJ x y = 0) ∨ (x.toInt < y.toInt ∧ cmpJ x y = -1) := by
  unfold cmpJ
  by_cases h1 : x > y
  · left; rw [if_pos h1]; exact ⟨Int64.lt_iff_toInt_lt.mp h1, rfl⟩
  · rw [if_neg h1]
    by_cases h2 : x = y
    · right; left; rw [if_pos h2]; exact ⟨h2, rfl⟩
    · right; right; rw [if_neg h2]
      have h3 : ¬ y.toInt < x.toInt := fun q => h1 (Int64.lt_iff_toInt_lt.mpr q)
      have h4 : ¬ x.toInt = y.toInt := fun q => h2 (Int64.toInt_inj.mp q)
      exact ⟨by omega, rfl⟩
theorem h_eq (x y : Int32) : if_icmp.holds .eq x y = decide (x = y) := by by_cases q : x = y <;> simp [if_icmp.holds, q]
theorem h0_eq (x : Int32) : ifCond.holds .eq x = decide (x = (0 : Int32)) := h_eq x 0
theorem r_if_eq (at_ : At T m c below) (hx : p.tables.exec = Jvm.exec) {o : Int} {x y : Int32} {pc2 : Nat} (hd : decode c.code pc = .ok (.if_icmp .eq o, 3)) (ho : 0 ≤ (pc : Int) + o) (hp : ((pc : Int) + o).toNat = pc') (hp2 : pc + 3 = pc2) (r1 : x = y → Run p e below Q En T (mkF m pc' Ls rest)) (r2 : ¬ (x = y) → Run p e below Q En T (mkF m pc2 Ls rest)) : Run p e below Q En T (mkF m pc Ls (.int y :: .int x :: rest)) := by
  subst hp2
  by_cases hc : x = y
  · exact (r1 hc).on fun _ q => XS.icmpYes at_ hx rfl (pc0 := pc) rfl hd rfl (by rw [h_eq]; exact decide_eq_true hc) ho hp q
  · exact (r2 hc).on fun _ q => XS.icmpNo at_ hx rfl hd rfl (by rw [h_eq]; exact decide_eq_false hc) q
theorem r_if0_eq (at_ : At T m c below) (hx : p.tables.exec = Jvm.exec) {o : Int} {x : Int32} {pc2 : Nat} (hd : decode c.code pc = .ok (.ifCond .eq o, 3)) (ho : 0 ≤ (pc : Int) + o) (hp : ((pc : Int) + o).toNat = pc') (hp2 : pc + 3 = pc2) (r1 : x = (0 : Int32) → Run p e below Q En T (mkF m pc' Ls rest)) (r2 : ¬ (x = (0 : Int32)) → Run p e below Q En T (mkF m pc2 Ls rest)) : Run p e below Q En T (mkF m pc Ls (.int x :: rest)) := by
  subst hp2
  by_cases hc : x = (0 : Int32)
  · exact (r1 hc).on fun _ q => XS.ifYes at_ hx rfl (pc0 := pc) rfl hd rfl (by rw [h0_eq]; exact decide_eq_true hc) ho hp q
  · exact (r2 hc).on fun _ q => XS.ifNo at_ hx rfl hd rfl (by rw [h0_eq]; exact decide_eq_false hc) q
theorem hL_eq (x y : Int64) : ifCond.holds .eq (cmpJ x y) = decide (x = y) := by
  rw [h0_eq]; apply decide_eq_decide.mpr
  rcases cmpJ_c x y with ⟨q, e⟩ | ⟨q, e⟩ | ⟨q, e⟩ <;> rw [e]
  · have ne : ¬ x = y := fun z => by rw [z] at q; omega
    simp [ne]
  · subst q; simp
  · have ne : ¬ x = y := fun z => by rw [z] at q; omega
    simp [ne]
theorem r_ifL_eq (at_ : At T m c below) (hx : p.tables.exec = Jvm.exec) {o : Int} {x y : Int64} {pc2 : Nat} (hd : decode c.code pc = .ok (.ifCond .eq o, 3)) (ho : 0 ≤ (pc : Int) + o) (hp : ((pc : Int) + o).toNat = pc') (hp2 : pc + 3 = pc2) (r1 : x = y → Run p e below Q En T (mkF m pc' Ls rest)) (r2 : ¬ (x = y) → Run p e below Q En T (mkF m pc2 Ls rest)) : Run p e below Q En T (mkF m pc Ls (.int (cmpJ x y) :: rest)) := by
  subst hp2
  by_cases hc : x = y
  · exact (r1 hc).on fun _ q => XS.ifYes at_ hx rfl (pc0 := pc) rfl hd rfl (by rw [hL_eq]; exact decide_eq_true hc) ho hp q
  · exact (r2 hc).on fun _ q => XS.ifNo at_ hx rfl hd rfl (by rw [hL_eq]; exact decide_eq_false hc) q
theorem h_ne (x y : Int32) : if_icmp.holds .ne x y = decide (¬ x = y) := by by_cases q : x = y <;> simp [if_icmp.holds, q]
theorem h0_ne (x : Int32) : ifCond.holds .ne x = decide (¬ x = (0 : Int32)) := h_ne x 0
theorem r_if_ne (at_ : At T m c below) (hx : p.tables.exec = Jvm.exec) {o : Int} {x y : Int32} {pc2 : Nat} (hd : decode c.code pc = .ok (.if_icmp .ne o, 3)) (ho : 0 ≤ (pc : Int) + o) (hp : ((pc : Int) + o).toNat = pc') (hp2 : pc + 3 = pc2) (r1 : ¬ x = y → Run p e below Q En T (mkF m pc' Ls rest)) (r2 : ¬ (¬ x = y) → Run p e below Q En T (mkF m pc2 Ls rest)) : Run p e below Q En T (mkF m pc Ls (.int y :: .int x :: rest)) := by
  subst hp2
  by_cases hc : ¬ x = y
  · exact (r1 hc).on fun _ q => XS.icmpYes at_ hx rfl (pc0 := pc) rfl hd rfl (by rw [h_ne]; exact decide_eq_true hc) ho hp q
  · exact (r2 hc).on fun _ q => XS.icmpNo at_ hx rfl hd rfl (by rw [h_ne]; exact decide_eq_false hc) q
theorem r_if0_ne (at_ : At T m c below) (hx : p.tables.exec = Jvm.exec) {o : Int} {x : Int32} {pc2 : Nat} (hd : decode c.code pc = .ok (.ifCond .ne o, 3)) (ho : 0 ≤ (pc : Int) + o) (hp : ((pc : Int) + o).toNat = pc') (hp2 : pc + 3 = pc2) (r1 : ¬ x = (0 : Int32) → Run p e below Q En T (mkF m pc' Ls rest)) (r2 : ¬ (¬ x = (0 : Int32)) → Run p e below Q En T (mkF m pc2 Ls rest)) : Run p e below Q En T (mkF m pc Ls (.int x :: rest)) := by
  subst hp2
  by_cases hc : ¬ x = (0 : Int32)
  · exact (r1 hc).on fun _ q => XS.ifYes at_ hx rfl (pc0 := pc) rfl hd rfl (by rw [h0_ne]; exact decide_eq_true hc) ho hp q
  · exact (r2 hc).on fun _ q => XS.ifNo at_ hx rfl hd rfl (by rw [h0_ne]; exact decide_eq_false hc) q
theorem hL_ne (x y : Int64) : ifCond.holds .ne (cmpJ x y) = decide (¬ x = y) := by
  rw [h0_ne]; apply decide_eq_decide.mpr
  rcases cmpJ_c x y with ⟨q, e⟩ | ⟨q, e⟩ | ⟨q, e⟩ <;> rw [e]
  · have ne : ¬ x = y := fun z => by rw [z] at q; omega
    simp [ne]
  · subst q; simp
  · have ne : ¬ x = y := fun z => by rw [z] at q; omega
    simp [ne]
theorem r_ifL_ne (at_ : At T m c below) (hx : p.tables.exec = Jvm.exec) {o : Int} {x y : Int64} {pc2 : Nat} (hd : decode c.code pc = .ok (.ifCond .ne o, 3)) (ho : 0 ≤ (pc : Int) + o) (hp : ((pc : Int) + o).toNat = pc') (hp2 : pc + 3 = pc2) (r1 : ¬ x = y → Run p e below Q En T (mkF m pc' Ls rest)) (r2 : ¬ (¬ x = y) → Run p e below Q En T (mkF m pc2 Ls rest)) : Run p e below Q En T (mkF m pc Ls (.int (cmpJ x y) :: rest)) := by
  subst hp2
  by_cases hc : ¬ x = y
  · exact (r1 hc).on fun _ q => XS.ifYes at_ hx rfl (pc0 := pc) rfl hd rfl (by rw [hL_ne]; exact decide_eq_true hc) ho hp q
  · exact (r2 hc).on fun _ q => XS.ifNo at_ hx rfl hd rfl (by rw [hL_ne]; exact decide_eq_false hc) q
theorem h_lt (x y : Int32) : if_icmp.holds .lt x y = decide (x.toInt < y.toInt) := by simp [if_icmp.holds, Int32.lt_iff_toInt_lt]
theorem h0_lt (x : Int32) : ifCond.holds .lt x = decide (x.toInt < (0 : Int32).toInt) := h_lt x 0
theorem r_if_lt (at_ : At T m c below) (hx : p.tables.exec = Jvm.exec) {o : Int} {x y : Int32} {pc2 : Nat} (hd : decode c.code pc = .ok (.if_icmp .lt o, 3)) (ho : 0 ≤ (pc : Int) + o) (hp : ((pc : Int) + o).toNat = pc') (hp2 : pc + 3 = pc2) (r1 : x.toInt < y.toInt → Run p e below Q En T (mkF m pc' Ls rest)) (r2 : ¬ (x.toInt < y.toInt) → Run p e below Q En T (mkF m pc2 Ls rest)) : Run p e below Q En T (mkF m pc Ls (.int y :: .int x :: rest)) := by
  subst hp2
  by_cases hc : x.toInt < y.toInt
  · exact (r1 hc).on fun _ q => XS.icmpYes at_ hx rfl (pc0 := pc) rfl hd rfl (by rw [h_lt]; exact decide_eq_true hc) ho hp q
  · exact (r2 hc).on fun _ q => XS.icmpNo at_ hx rfl hd rfl (by rw [h_lt]; exact decide_eq_false hc) q
theorem r_if0_lt (at_ : At T m c below) (hx : p.tables.exec = Jvm.exec) {o : Int} {x : Int32} {pc2 : Nat} (hd : decode c.code pc = .ok (.ifCond .lt o, 3)) (ho : 0 ≤ (pc : Int) + o) (hp : ((pc : Int) + o).toNat = pc') (hp2 : pc + 3 = pc2) (r1 : x.toInt < 0 → Run p e below Q En T (mkF m pc' Ls rest)) (r2 : ¬ (x.toInt < 0) → Run p e below Q En T (mkF m pc2 Ls rest)) : Run p e below Q En T (mkF m pc Ls (.int x :: rest)) := by
  subst hp2
  by_cases hc : x.toInt < 0
  · exact (r1 hc).on fun _ q => XS.ifYes at_ hx rfl (pc0 := pc) rfl hd rfl (by rw [h0_lt]; exact decide_eq_true (by rw [show (0 : Int32).toInt = 0 from rfl]; exact hc)) ho hp q
  · exact (r2 hc).on fun _ q => XS.ifNo at_ hx rfl hd rfl (by rw [h0_lt]; exact decide_eq_false (by rw [show (0 : Int32).toInt = 0 from rfl]; exact hc)) q
theorem hL_lt (x y : Int64) : ifCond.holds .lt (cmpJ x y) = decide (x.toInt < y.toInt) := by
  rw [h0_lt]; apply decide_eq_decide.mpr
  rcases cmpJ_c x y with ⟨q, e⟩ | ⟨q, e⟩ | ⟨q, e⟩ <;> rw [e]
  · have ne : ¬ x = y := fun z => by rw [z] at q; omega
    show ((1 : Int) < 0) ↔ _; omega
  · subst q; show ((0 : Int) < 0) ↔ _; omega
  · have ne : ¬ x = y := fun z => by rw [z] at q; omega
    show ((-1 : Int) < 0) ↔ _; omega
theorem r_ifL_lt (at_ : At T m c below) (hx : p.tables.exec = Jvm.exec) {o : Int} {x y : Int64} {pc2 : Nat} (hd : decode c.code pc = .ok (.ifCond .lt o, 3)) (ho : 0 ≤ (pc : Int) + o) (hp : ((pc : Int) + o).toNat = pc') (hp2 : pc + 3 = pc2) (r1 : x.toInt < y.toInt → Run p e below Q En T (mkF m pc' Ls rest)) (r2 : ¬ (x.toInt < y.toInt) → Run p e below Q En T (mkF m pc2 Ls rest)) : Run p e below Q En T (mkF m pc Ls (.int (cmpJ x y) :: rest)) := by
  subst hp2
  by_cases hc : x.toInt < y.toInt
  · exact (r1 hc).on fun _ q => XS.ifYes at_ hx rfl (pc0 := pc) rfl hd rfl (by rw [hL_lt]; exact decide_eq_true hc) ho hp q
  · exact (r2 hc).on fun _ q => XS.ifNo at_ hx rfl hd rfl (by rw [hL_lt]; exact decide_eq_false hc) q
theorem h_ge (x y : Int32) : if_icmp.holds .ge x y = decide (y.toInt ≤ x.toInt) := by simp [if_icmp.holds, Int32.le_iff_toInt_le]
theorem h0_ge (x : Int32) : ifCond.holds .ge x = decide ((0 : Int32).toInt ≤ x.toInt) := h_ge x 0
theorem r_if_ge (at_ : At T m c below) (hx : p.tables.exec = Jvm.exec) {o : Int} {x y : Int32} {pc2 : Nat} (hd : decode c.code pc = .ok (.if_icmp .ge o, 3)) (ho : 0 ≤ (pc : Int) + o) (hp : ((pc : Int) + o).toNat = pc') (hp2 : pc + 3 = pc2) (r1 : y.toInt ≤ x.toInt → Run p e below Q En T (mkF m pc' Ls rest)) (r2 : ¬ (y.toInt ≤ x.toInt) → Run p e below Q En T (mkF m pc2 Ls rest)) : Run p e below Q En T (mkF m pc Ls (.int y :: .int x :: rest)) := by
  subst hp2
  by_cases hc : y.toInt ≤ x.toInt
  · exact (r1 hc).on fun _ q => XS.icmpYes at_ hx rfl (pc0 := pc) rfl hd rfl (by rw [h_ge]; exact decide_eq_true hc) ho hp q
  · exact (r2 hc).on fun _ q => XS.icmpNo at_ hx rfl hd rfl (by rw [h_ge]; exact decide_eq_false hc) q
theorem r_if0_ge (at_ : At T m c below) (hx : p.tables.exec = Jvm.exec) {o : Int} {x : Int32} {pc2 : Nat} (hd : decode c.code pc = .ok (.ifCond .ge o, 3)) (ho : 0 ≤ (pc : Int) + o) (hp : ((pc : Int) + o).toNat = pc') (hp2 : pc + 3 = pc2) (r1 : 0 ≤ x.toInt → Run p e below Q En T (mkF m pc' Ls rest)) (r2 : ¬ (0 ≤ x.toInt) → Run p e below Q En T (mkF m pc2 Ls rest)) : Run p e below Q En T (mkF m pc Ls (.int x :: rest)) := by
  subst hp2
  by_cases hc : 0 ≤ x.toInt
  · exact (r1 hc).on fun _ q => XS.ifYes at_ hx rfl (pc0 := pc) rfl hd rfl (by rw [h0_ge]; exact decide_eq_true (by rw [show (0 : Int32).toInt = 0 from rfl]; exact hc)) ho hp q
  · exact (r2 hc).on fun _ q => XS.ifNo at_ hx rfl hd rfl (by rw [h0_ge]; exact decide_eq_false (by rw [show (0 : Int32).toInt = 0 from rfl]; exact hc)) q
theorem hL_ge (x y : Int64) : ifCond.holds .ge (cmpJ x y) = decide (y.toInt ≤ x.toInt) := by
  rw [h0_ge]; apply decide_eq_decide.mpr
  rcases cmpJ_c x y with ⟨q, e⟩ | ⟨q, e⟩ | ⟨q, e⟩ <;> rw [e]
  · have ne : ¬ x = y := fun z => by rw [z] at q; omega
    show ((0 : Int) ≤ 1) ↔ _; omega
  · subst q; show ((0 : Int) ≤ 0) ↔ _; omega
  · have ne : ¬ x = y := fun z => by rw [z] at q; omega
    show ((0 : Int) ≤ -1) ↔ _; omega
theorem r_ifL_ge (at_ : At T m c below) (hx : p.tables.exec = Jvm.exec) {o : Int} {x y : Int64} {pc2 : Nat} (hd : decode c.code pc = .ok (.ifCond .ge o, 3)) (ho : 0 ≤ (pc : Int) + o) (hp : ((pc : Int) + o).toNat = pc') (hp2 : pc + 3 = pc2) (r1 : y.toInt ≤ x.toInt → Run p e below Q En T (mkF m pc' Ls rest)) (r2 : ¬ (y.toInt ≤ x.toInt) → Run p e below Q En T (mkF m pc2 Ls rest)) : Run p e below Q En T (mkF m pc Ls (.int (cmpJ x y) :: rest)) := by
  subst hp2
  by_cases hc : y.toInt ≤ x.toInt
  · exact (r1 hc).on fun _ q => XS.ifYes at_ hx rfl (pc0 := pc) rfl hd rfl (by rw [hL_ge]; exact decide_eq_true hc) ho hp q
  · exact (r2 hc).on fun _ q => XS.ifNo at_ hx rfl hd rfl (by rw [hL_ge]; exact decide_eq_false hc) q
theorem h_gt (x y : Int32) : if_icmp.holds .gt x y = decide (y.toInt < x.toInt) := by simp [if_icmp.holds, Int32.lt_iff_toInt_lt]
theorem h0_gt (x : Int32) : ifCond.holds .gt x = decide ((0 : Int32).toInt < x.toInt) := h_gt x 0
theorem r_if_gt (at_ : At T m c below) (hx : p.tables.exec = Jvm.exec) {o : Int} {x y : Int32} {pc2 : Nat} (hd : decode c.code pc = .ok (.if_icmp .gt o, 3)) (ho : 0 ≤ (pc : Int) + o) (hp : ((pc : Int) + o).toNat = pc') (hp2 : pc + 3 = pc2) (r1 : y.toInt < x.toInt → Run p e below Q En T (mkF m pc' Ls rest)) (r2 : ¬ (y.toInt < x.toInt) → Run p e below Q En T (mkF m pc2 Ls rest)) : Run p e below Q En T (mkF m pc Ls (.int y :: .int x :: rest)) := by
  subst hp2
  by_cases hc : y.toInt < x.toInt
  · exact (r1 hc).on fun _ q => XS.icmpYes at_ hx rfl (pc0 := pc) rfl hd rfl (by rw [h_gt]; exact decide_eq_true hc) ho hp q
  · exact (r2 hc).on fun _ q => XS.icmpNo at_ hx rfl hd rfl (by rw [h_gt]; exact decide_eq_false hc) q
theorem r_if0_gt (at_ : At T m c below) (hx : p.tables.exec = Jvm.exec) {o : Int} {x : Int32} {pc2 : Nat} (hd : decode c.code pc = .ok (.ifCond .gt o, 3)) (ho : 0 ≤ (pc : Int) + o) (hp : ((pc : Int) + o).toNat = pc') (hp2 : pc + 3 = pc2) (r1 : 0 < x.toInt → Run p e below Q En T (mkF m pc' Ls rest)) (r2 : ¬ (0 < x.toInt) → Run p e below Q En T (mkF m pc2 Ls rest)) : Run p e below Q En T (mkF m pc Ls (.int x :: rest)) := by
  subst hp2
  by_cases hc : 0 < x.toInt
  · exact (r1 hc).on fun _ q => XS.ifYes at_ hx rfl (pc0 := pc) rfl hd rfl (by rw [h0_gt]; exact decide_eq_true (by rw [show (0 : Int32).toInt = 0 from rfl]; exact hc)) ho hp q
  · exact (r2 hc).on fun _ q => XS.ifNo at_ hx rfl hd rfl (by rw [h0_gt]; exact decide_eq_false (by rw [show (0 : Int32).toInt = 0 from rfl]; exact hc)) q
theorem hL_gt (x y : Int64) : ifCond.holds .gt (cmpJ x y) = decide (y.toInt < x.toInt) := by
  rw [h0_gt]; apply decide_eq_decide.mpr
  rcases cmpJ_c x y with ⟨q, e⟩ | ⟨q, e⟩ | ⟨q, e⟩ <;> rw [e]
  · have ne : ¬ x = y := fun z => by rw [z] at q; omega
    show ((0 : Int) < 1) ↔ _; omega
  · subst q; show ((0 : Int) < 0) ↔ _; omega
  · have ne : ¬ x = y := fun z => by rw [z] at q; omega
    show ((0 : Int) < -1) ↔ _; omega
theorem r_ifL_gt (at_ : At T m c below) (hx : p.tables.exec = Jvm.exec) {o : Int} {x y : Int64} {pc2 : Nat} (hd : decode c.code pc = .ok (.ifCond .gt o, 3)) (ho : 0 ≤ (pc : Int) + o) (hp : ((pc : Int) + o).toNat = pc') (hp2 : pc + 3 = pc2) (r1 : y.toInt < x.toInt → Run p e below Q En T (mkF m pc' Ls rest)) (r2 : ¬ (y.toInt < x.toInt) → Run p e below Q En T (mkF m pc2 Ls rest)) : Run p e below Q En T (mkF m pc Ls (.int (cmpJ x y) :: rest)) := by
  subst hp2
  by_cases hc : y.toInt < x.toInt
  · exact (r1 hc).on fun _ q => XS.ifYes at_ hx rfl (pc0 := pc) rfl hd rfl (by rw [hL_gt]; exact decide_eq_true hc) ho hp q
  · exact (r2 hc).on fun _ q => XS.ifNo at_ hx rfl hd rfl (by rw [hL_gt]; exact decide_eq_false hc) q
theorem h_le (x y : Int32) : if_icmp.holds .le x y = decide (x.toInt ≤ y.toInt) := by simp [if_icmp.holds, Int32.le_iff_toInt_le]
theorem h0_le (x : Int32) : ifCond.holds .le x = decide (x.toInt ≤ (0 : Int32).toInt) := h_le x 0
theorem r_if_le (at_ : At T m c below) (hx : p.tables.exec = Jvm.exec) {o : Int} {x y : Int32} {pc2 : Nat} (hd : decode c.code pc = .ok (.if_icmp .le o, 3)) (ho : 0 ≤ (pc : Int) + o) (hp : ((pc : Int) + o).toNat = pc') (hp2 : pc + 3 = pc2) (r1 : x.toInt ≤ y.toInt → Run p e below Q En T (mkF m pc' Ls rest)) (r2 : ¬ (x.toInt ≤ y.toInt) → Run p e below Q En T (mkF m pc2 Ls rest)) : Run p e below Q En T (mkF m pc Ls (.int y :: .int x :: rest)) := by
  subst hp2
  by_cases hc : x.toInt ≤ y.toInt
  · exact (r1 hc).on fun _ q => XS.icmpYes at_ hx rfl (pc0 := pc) rfl hd rfl (by rw [h_le]; exact decide_eq_true hc) ho hp q
  · exact (r2 hc).on fun _ q => XS.icmpNo at_ hx rfl hd rfl (by rw [h_le]; exact decide_eq_false hc) q
theorem r_if0_le (at_ : At T m c below) (hx : p.tables.exec = Jvm.exec) {o : Int} {x : Int32} {pc2 : Nat} (hd : decode c.code pc = .ok (.ifCond .le o, 3)) (ho : 0 ≤ (pc : Int) + o) (hp : ((pc : Int) + o).toNat = pc') (hp2 : pc + 3 = pc2) (r1 : x.toInt ≤ 0 → Run p e below Q En T (mkF m pc' Ls rest)) (r2 : ¬ (x.toInt ≤ 0) → Run p e below Q En T (mkF m pc2 Ls rest)) : Run p e below Q En T (mkF m pc Ls (.int x :: rest)) := by
  subst hp2
  by_cases hc : x.toInt ≤ 0
  · exact (r1 hc).on fun _ q => XS.ifYes at_ hx rfl (pc0 := pc) rfl hd rfl (by rw [h0_le]; exact decide_eq_true (by rw [show (0 : Int32).toInt = 0 from rfl]; exact hc)) ho hp q
  · exact (r2 hc).on fun _ q => XS.ifNo at_ hx rfl hd rfl (by rw [h0_le]; exact decide_eq_false (by rw [show (0 : Int32).toInt = 0 from rfl]; exact hc)) q
theorem hL_le (x y : Int64) : ifCond.holds .le (cmpJ x y) = decide (x.toInt ≤ y.toInt) := by
  rw [h0_le]; apply decide_eq_decide.mpr
  rcases cmpJ_c x y with ⟨q, e⟩ | ⟨q, e⟩ | ⟨q, e⟩ <;> rw [e]
  · have ne : ¬ x = y := fun z => by rw [z] at q; omega
    show ((1 : Int) ≤ 0) ↔ _; omega
  · subst q; show ((0 : Int) ≤ 0) ↔ _; omega
  · have ne : ¬ x = y := fun z => by rw [z] at q; omega
    show ((-1 : Int) ≤ 0) ↔ _; omega
theorem r_ifL_le (at_ : At T m c below) (hx : p.tables.exec = Jvm.exec) {o : Int} {x y : Int64} {pc2 : Nat} (hd : decode c.code pc = .ok (.ifCond .le o, 3)) (ho : 0 ≤ (pc : Int) + o) (hp : ((pc : Int) + o).toNat = pc') (hp2 : pc + 3 = pc2) (r1 : x.toInt ≤ y.toInt → Run p e below Q En T (mkF m pc' Ls rest)) (r2 : ¬ (x.toInt ≤ y.toInt) → Run p e below Q En T (mkF m pc2 Ls rest)) : Run p e below Q En T (mkF m pc Ls (.int (cmpJ x y) :: rest)) := by
  subst hp2
  by_cases hc : x.toInt ≤ y.toInt
  · exact (r1 hc).on fun _ q => XS.ifYes at_ hx rfl (pc0 := pc) rfl hd rfl (by rw [hL_le]; exact decide_eq_true hc) ho hp q
  · exact (r2 hc).on fun _ q => XS.ifNo at_ hx rfl hd rfl (by rw [hL_le]; exact decide_eq_false hc) q
theorem r_ifnullY (at_ : At T m c below) (hx : p.tables.exec = Jvm.exec) {o : Int} (hd : decode c.code pc = .ok (.ifnull o, 3)) (ho : 0 ≤ (pc : Int) + o) (hp : ((pc : Int) + o).toNat = pc') (r : Run p e below Q En T (mkF m pc' Ls rest)) : Run p e below Q En T (mkF m pc Ls (.null :: rest)) :=
  r.on fun _ q => XS.ifnullYes at_ hx rfl (pc0 := pc) rfl hd rfl ho hp q
theorem r_ifnullN (at_ : At T m c below) (hx : p.tables.exec = Jvm.exec) {o : Int} {b : Addr} (hd : decode c.code pc = .ok (.ifnull o, 3)) (hp : pc + 3 = pc') (r : Run p e below Q En T (mkF m pc' Ls rest)) : Run p e below Q En T (mkF m pc Ls (.ref b :: rest)) := by
  subst hp; exact r.on fun _ q => XS.ifnullNo at_ hx rfl hd rfl q
theorem r_ifnonnullY (at_ : At T m c below) (hx : p.tables.exec = Jvm.exec) {o : Int} {b : Addr} (hd : decode c.code pc = .ok (.ifnonnull o, 3)) (ho : 0 ≤ (pc : Int) + o) (hp : ((pc : Int) + o).toNat = pc') (r : Run p e below Q En T (mkF m pc' Ls rest)) : Run p e below Q En T (mkF m pc Ls (.ref b :: rest)) :=
  r.on fun _ q => XS.ifnonnullYes at_ hx rfl (pc0 := pc) rfl hd rfl ho hp q
theorem r_ifnonnullN (at_ : At T m c below) (hx : p.tables.exec = Jvm.exec) {o : Int} (hd : decode c.code pc = .ok (.ifnonnull o, 3)) (hp : pc + 3 = pc') (r : Run p e below Q En T (mkF m pc' Ls rest)) : Run p e below Q En T (mkF m pc Ls (.null :: rest)) := by
  subst hp; exact r.on fun _ q => XS.ifnonnullNo at_ hx rfl hd rfl q
theorem r_acmp_eq (at_ : At T m c below) (hx : p.tables.exec = Jvm.exec) {o : Int} {x y : Value} {pc2 : Nat} (hd : decode c.code pc = .ok (.if_acmp .eq o, 3)) (h1 : x.isRef = true) (h2 : y.isRef = true) (ho : 0 ≤ (pc : Int) + o) (hp : ((pc : Int) + o).toNat = pc') (hp2 : pc + 3 = pc2) (r1 : x = y → Run p e below Q En T (mkF m pc' Ls rest)) (r2 : ¬ x = y → Run p e below Q En T (mkF m pc2 Ls rest)) : Run p e below Q En T (mkF m pc Ls (y :: x :: rest)) := by
  subst hp2
  by_cases hc : x = y
  · exact (r1 hc).on fun _ q => XT.acmpYes at_ hx rfl (pc0 := pc) rfl hd rfl h1 h2 (by simp [XT.acmp, hc]) ho hp q
  · exact (r2 hc).on fun _ q => XT.acmpNo at_ hx rfl hd rfl h1 h2 (by simp [XT.acmp, hc]) q
theorem r_acmp_ne (at_ : At T m c below) (hx : p.tables.exec = Jvm.exec) {o : Int} {x y : Value} {pc2 : Nat} (hd : decode c.code pc = .ok (.if_acmp .ne o, 3)) (h1 : x.isRef = true) (h2 : y.isRef = true) (ho : 0 ≤ (pc : Int) + o) (hp : ((pc : Int) + o).toNat = pc') (hp2 : pc + 3 = pc2) (r1 : ¬ x = y → Run p e below Q En T (mkF m pc' Ls rest)) (r2 : x = y → Run p e below Q En T (mkF m pc2 Ls rest)) : Run p e below Q En T (mkF m pc Ls (y :: x :: rest)) := by
  subst hp2
  by_cases hc : x = y
  · exact (r2 hc).on fun _ q => XT.acmpNo at_ hx rfl hd rfl h1 h2 (by simp [XT.acmp, hc]) q
  · exact (r1 hc).on fun _ q => XT.acmpYes at_ hx rfl (pc0 := pc) rfl hd rfl h1 h2 (by simp [XT.acmp, hc]) ho hp q
theorem r_retN (X : Stand p l e R s m args below meth c T locs cells slots) (hx : p.tables.exec = Jvm.exec) (hlk : meth.locks = false) {t : FieldType} {z w : Int32} (hret : meth.sig.returnType = some t) (ht : t = .boolean ∨ t = .byte ∨ t = .char ∨ t = .short) (hd : decode c.code pc = .ok (.ireturn, 1)) (hn : nar t z = w) (hq : Q (some (.int w)) T.heap locs) (h1 : cells ≤ kc) (h2 : slots ≤ ks) : Run p e below Q (fun o t L => FrameEnd s o t L kc ks) T (mkF m pc Ls (.int z :: rest)) := by
  subst hn
  obtain ⟨fs, hr, hrun, hended, hW, hsame⟩ := X.leave (v := some (.int (nar t z))) (fun q => by rw [hret] at q; cases q) hlk
  exact ⟨_, _, retN X hx hret ht hd hr, hrun, hended, _, _, rfl, hq, ⟨_, rfl⟩, hW, hsame.mono h1 h2⟩
theorem r_retV (X : Stand p l e R s m args below meth c T locs cells slots) (hx : p.tables.exec = Jvm.exec) (hlk : meth.locks = false) {t : FieldType} {w : Value} {i : Instr} (hret : meth.sig.returnType = some t) (hn : narrow t w = w)
    (hi : (i = .ireturn ∧ (t = .int ∨ t = .boolean ∨ t = .byte ∨ t = .char ∨ t = .short) ∧ ∃ z, w = .int z) ∨ (i = .lreturn ∧ t = .long ∧ ∃ z, w = .long z) ∨ (i = .dreturn ∧ t = .double ∧ ∃ z, w = .double z) ∨ (i = .freturn ∧ t = .float ∧ ∃ z, w = .float z) ∨ (i = .areturn ∧ t.isReference = true ∧ w.isRef = true))
    (hd : decode c.code pc = .ok (i, 1)) (hq : Q (some w) T.heap locs) (h1 : cells ≤ kc) (h2 : slots ≤ ks) : Run p e below Q (fun o t L => FrameEnd s o t L kc ks) T (mkF m pc Ls (w :: rest)) := by
  obtain ⟨fs, hr, hrun, hended, hW, hsame⟩ := X.leave (v := some w) (fun q => by rw [hret] at q; cases q) hlk
  exact ⟨_, _, retOut X hx hret hn hi hd hr, hrun, hended, _, _, rfl, hq, ⟨_, rfl⟩, hW, hsame.mono h1 h2⟩
theorem r_retI (X : Stand p l e R s m args below meth c T locs cells slots) (hx : p.tables.exec = Jvm.exec) (hlk : meth.locks = false) {w : Int32} (hret : meth.sig.returnType = some .int) (hd : decode c.code pc = .ok (.ireturn, 1)) (hq : Q (some (.int w)) T.heap locs) (h1 : cells ≤ kc) (h2 : slots ≤ ks) : Run p e below Q (fun o t L => FrameEnd s o t L kc ks) T (mkF m pc Ls (.int w :: rest)) :=
  r_retV X hx hlk hret rfl (Or.inl ⟨rfl, Or.inl rfl, _, rfl⟩) hd hq h1 h2
theorem r_retJ (X : Stand p l e R s m args below meth c T locs cells slots) (hx : p.tables.exec = Jvm.exec) (hlk : meth.locks = false) {w : Int64} (hret : meth.sig.returnType = some .long) (hd : decode c.code pc = .ok (.lreturn, 1)) (hq : Q (some (.long w)) T.heap locs) (h1 : cells ≤ kc) (h2 : slots ≤ ks) : Run p e below Q (fun o t L => FrameEnd s o t L kc ks) T (mkF m pc Ls (.long w :: rest)) :=
  r_retV X hx hlk hret rfl (Or.inr (Or.inl ⟨rfl, rfl, _, rfl⟩)) hd hq h1 h2
theorem r_retD (X : Stand p l e R s m args below meth c T locs cells slots) (hx : p.tables.exec = Jvm.exec) (hlk : meth.locks = false) {w : UInt64} (hret : meth.sig.returnType = some .double) (hd : decode c.code pc = .ok (.dreturn, 1)) (hq : Q (some (.double w)) T.heap locs) (h1 : cells ≤ kc) (h2 : slots ≤ ks) : Run p e below Q (fun o t L => FrameEnd s o t L kc ks) T (mkF m pc Ls (.double w :: rest)) :=
  r_retV X hx hlk hret rfl (Or.inr (Or.inr (Or.inl ⟨rfl, rfl, _, rfl⟩))) hd hq h1 h2
theorem r_retA (X : Stand p l e R s m args below meth c T locs cells slots) (hx : p.tables.exec = Jvm.exec) (hlk : meth.locks = false) {t : FieldType} {w : Value} (hret : meth.sig.returnType = some t) (ht : t.isReference = true) (hw : w.isRef = true) (hd : decode c.code pc = .ok (.areturn, 1)) (hq : Q (some w) T.heap locs) (h1 : cells ≤ kc) (h2 : slots ≤ ks) : Run p e below Q (fun o t L => FrameEnd s o t L kc ks) T (mkF m pc Ls (w :: rest)) :=
  r_retV X hx hlk hret (by rcases ref_cases hw with rfl | ⟨a, rfl⟩ <;> cases t <;> first | rfl | cases ht) (Or.inr (Or.inr (Or.inr (Or.inr ⟨rfl, ht, hw⟩)))) hd hq h1 h2
theorem r_ret0 (X : Stand p l e R s m args below meth c T locs cells slots) (hx : p.tables.exec = Jvm.exec) (hlk : meth.locks = false) (hret : meth.sig.returnType = none) (hd : decode c.code pc = .ok (.return_, 1)) (hq : Q none T.heap locs) (h1 : cells ≤ kc) (h2 : slots ≤ ks) : Run p e below Q (fun o t L => FrameEnd s o t L kc ks) T (mkF m pc Ls []) := by
  obtain ⟨fs, hr, hrun, hended, hW, hsame⟩ := X.leave (v := none) (fun _ => rfl) hlk
  exact ⟨_, _, X.returnOut hx hret hd hr, hrun, hended, _, _, rfl, hq, ⟨_, rfl⟩, hW, hsame.mono h1 h2⟩
theorem r_ldc (X : Stand p l e R s m args below meth c T locs cells slots) (hx : p.tables.exec = Jvm.exec) (hZ : Z.Warmed39 s.vm) {own : String} {index : Nat} {v : Int32} (hown : s.vm.findClass own = some m.cls) (w : (Jvm.Cond.constant own index v).before a0 Z = true) (hd : decode c.code pc = .ok (.ldc index, 2)) (hp : pc + 2 = pc') (r : Run p e below Q En T (mkF m pc' Ls (.int v :: rest))) : Run p e below Q En T (mkF m pc Ls rest) := by
  subst hp; exact r.on fun _ q => X.ldcInt hx hown (mvT hZ w) (g := mkF m pc Ls rest) rfl hd _ q
theorem r_ldc2 (X : Stand p l e R s m args below meth c T locs cells slots) (hx : p.tables.exec = Jvm.exec) (hZ : Z.Warmed39 s.vm) {own : String} {index : Nat} {v : Int64} (hown : s.vm.findClass own = some m.cls) (w : (Jvm.Cond.constantLong own index v).before a0 Z = true) (hd : decode c.code pc = .ok (.ldc2_w index, 3)) (hp : pc + 3 = pc') (r : Run p e below Q En T (mkF m pc' Ls (.long v :: rest))) : Run p e below Q En T (mkF m pc Ls rest) := by
  subst hp; exact r.on fun _ q => X.ldc2Long hx hown (mvT hZ w) (g := mkF m pc Ls rest) rfl hd _ q
theorem r_callS (X : Stand p l e R s m args below meth c T locs cells slots) (hx : p.tables.exec = Jvm.exec) (hZ : Z.Warmed39 s.vm) {own : String} {index : Nat} {y : MethodName} {bytes : ByteArray} {maxL : Nat} {ret : Option FieldType} {rm : Room} {as' : Array Value} {Qc : Option Value → Heap → List Loc → Prop} {argsL : List Value} {W : Nat}
    (hown : s.vm.findClass own = some m.cls) (w1 : (Jvm.Cond.methodLink own index y).before a0 Z = true) (w2 : (Jvm.Cond.static y).before a0 Z = true) (w3 : (Jvm.Cond.initialized y.cls).before a0 Z = true) (w4 : (Jvm.Cond.code y bytes maxL ret).before a0 Z = true) (hy : y.cls ≠ "java/lang/invoke/MethodHandle" ∧ y.cls ≠ "java/lang/invoke/VarHandle")
    (hM : Met l Z y bytes maxL ret [] rm as' h Qc rm.cells rm.slots) (eT : T.heap = h) (hsz : Ls.size = c.maxLocals) (hlen : ∀ sig, parseMethodDescriptor y.desc = some sig → argsL.length = sig.parameters.length) (hst : st = argsL.reverse ++ rest) (has : argsL.toArray = as') (hW : (rest.map fun v => v.category).sum = W)
    (hf : rm.frames + 1 ≤ R.frames) (hl : W + (maxL + 11) + rm.locals ≤ R.locals) (hcl : cells + rm.cells ≤ R.cells) (hsl : slots + rm.slots ≤ R.slots) (hd : decode c.code pc = .ok (.invokestatic index, 3)) (hp : pc + 3 = pc')
    (r : ∀ (v : Option Value) (T' : State) (L : List Loc), Stand p l e R s m args below meth c T' (locs ++ L) (cells + rm.cells) (slots + rm.slots) → Qc v T'.heap L → Run p e below Q En T' (mkF m pc' Ls (v.toList ++ rest))) : Run p e below Q En T (mkF m pc Ls st) := by
  subst hp
  obtain ⟨v, _, ⟨T', L', k', n'⟩, -, X', ⟨L, hQ, l1, y1, z1⟩, stp⟩ := Jvm.LawKit.callS X hx (y := y) hown (mvT hZ w1) (mvT hZ w2) (mvT hZ w3) (mvT hZ w4) hy (backOf (W := W) hM hZ w4 w3 hf hl) (g := mkF m pc Ls st) rfl hsz (argsL := argsL) (rest := rest) hlen hst (by show 2 * 0 + _ ≤ _; omega) hd (fun _ _ => ⟨has, eT, hcl, hsl⟩)
  dsimp only at X' l1 y1 z1 stp hQ
  subst l1 y1 z1
  exact (r v T' L X' hQ).on stp
theorem r_callI (X : Stand p l e R s m args below meth c T locs cells slots) (hx : p.tables.exec = Jvm.exec) (hZ : Z.Warmed39 s.vm) {own : String} {index : Nat} {y : MethodName} {bytes : ByteArray} {maxL : Nat} {rm : Room} {as' : Array Value} {Qc : Option Value → Heap → List Loc → Prop} {argsL : List Value} {W : Nat} {a : Addr}
    (hown : s.vm.findClass own = some m.cls) (hy1 : y.name = "<init>") (w1 : (Jvm.Cond.methodLink own index y).before a0 Z = true) (w2 : (Jvm.Cond.instanceMethod y).before a0 Z = true) (w3 : (Jvm.Cond.initialized y.cls).before a0 Z = true) (w4 : (Jvm.Cond.code y bytes maxL none).before a0 Z = true) (hy : y.cls ≠ "java/lang/invoke/MethodHandle" ∧ y.cls ≠ "java/lang/invoke/VarHandle")
    (hM : Met l Z y bytes maxL none [] rm as' h Qc rm.cells rm.slots) (eT : T.heap = h) (hsz : Ls.size = c.maxLocals) (hlen : ∀ sig, parseMethodDescriptor y.desc = some sig → argsL.length = sig.parameters.length) (hst : st = argsL.reverse ++ .ref a :: rest) (has : (.ref a :: argsL).toArray = as') (hW : (rest.map fun v => v.category).sum = W)
    (hf : rm.frames + 1 ≤ R.frames) (hl : W + (maxL + 11) + rm.locals ≤ R.locals) (hcl : cells + rm.cells ≤ R.cells) (hsl : slots + rm.slots ≤ R.slots) (hd : decode c.code pc = .ok (.invokespecial index, 3)) (hp : pc + 3 = pc')
    (r : ∀ (v : Option Value) (T' : State) (L : List Loc), Stand p l e R s m args below meth c T' (locs ++ L) (cells + rm.cells) (slots + rm.slots) → Qc v T'.heap L → Run p e below Q En T' (mkF m pc' Ls (v.toList ++ rest))) : Run p e below Q En T (mkF m pc Ls st) := by
  subst hp
  obtain ⟨v, _, ⟨T', L', k', n'⟩, -, X', ⟨L, hQ, l1, y1, z1⟩, stp⟩ := X.specialBack hx (y := y) hy1 hown (mvT hZ w1) (mvT hZ w2) (mvT hZ w4) hy (backOf (W := W) hM hZ w4 w3 hf hl) (g := mkF m pc Ls st) rfl hsz (Steps.refl _) (a := a) (argsL := argsL) (rest := rest) hlen hst (by show 2 * 0 + _ ≤ _; omega) hd (fun _ _ => ⟨has, eT, hcl, hsl⟩)
  dsimp only at X' l1 y1 z1 stp hQ
  subst l1 y1 z1
  exact (r v T' L X' hQ).on fun _ q => stp.trans q
theorem r_callV (X : Stand p l e R s m args below meth c T locs cells slots) (hx : p.tables.exec = Jvm.exec) (hZ : Z.Warmed39 s.vm) {own C : String} {index : Nat} {y z : MethodName} {bytes : ByteArray} {maxL : Nat} {ret : Option FieldType} {rm : Room} {as' : Array Value} {Qc : Option Value → Heap → List Loc → Prop} {argsL : List Value} {W : Nat} {a : Addr}
    (hown : s.vm.findClass own = some m.cls) (w1 : (Jvm.Cond.methodLink own index y).before a0 Z = true) (w2 : (Jvm.Cond.declares y).before a0 Z = true) (nf : NotFace s y) (w5 : (Jvm.Cond.selects C y z).before a0 Z = true) (w6 : (Jvm.Cond.instanceMethod z).before a0 Z = true) (w3 : (Jvm.Cond.initialized z.cls).before a0 Z = true) (w4 : (Jvm.Cond.code z bytes maxL ret).before a0 Z = true) (hy : y.cls ≠ "java/lang/invoke/MethodHandle" ∧ y.cls ≠ "java/lang/invoke/VarHandle")
    (hM : Met l Z z bytes maxL ret [] rm as' h Qc rm.cells rm.slots) (eT : T.heap = h) (E : Exa Z h a C) (hsz : Ls.size = c.maxLocals) (hlen : ∀ sig, parseMethodDescriptor y.desc = some sig → argsL.length = sig.parameters.length) (hst : st = argsL.reverse ++ .ref a :: rest) (has : (.ref a :: argsL).toArray = as') (hW : (rest.map fun v => v.category).sum = W)
    (hf : rm.frames + 1 ≤ R.frames) (hl : W + (maxL + 11) + rm.locals ≤ R.locals) (hcl : cells + rm.cells ≤ R.cells) (hsl : slots + rm.slots ≤ R.slots) (hd : decode c.code pc = .ok (.invokevirtual index, 3)) (hp : pc + 3 = pc')
    (r : ∀ (v : Option Value) (T' : State) (L : List Loc), Stand p l e R s m args below meth c T' (locs ++ L) (cells + rm.cells) (slots + rm.slots) → Qc v T'.heap L → Run p e below Q En T' (mkF m pc' Ls (v.toList ++ rest))) : Run p e below Q En T (mkF m pc Ls st) := by
  subst hp
  obtain ⟨cq, kq, qa, qb, qc⟩ := isOf hZ eT E
  obtain ⟨v, _, ⟨T', L', k', n'⟩, -, X', ⟨L, hQ, l1, y1, z1⟩, stp⟩ := X.virtualBack hx (y := y) (z := z) hown (mvT hZ w1) (mvT hZ w2) nf (mvT hZ w5) (mvT hZ w6) hy (backOf (W := W) hM hZ w4 w3 hf hl) qa qc (g := mkF m pc Ls st) rfl hsz (Steps.refl _) (argsL := argsL) (rest := rest) hlen hst (by show 2 * 0 + _ ≤ _; omega) hd (fun _ _ => ⟨has, eT, hcl, hsl⟩)
  dsimp only at X' l1 y1 z1 stp hQ
  subst l1 y1 z1
  exact (r v T' L X' hQ).on fun _ q => stp.trans q
theorem r_initO (X : Stand p l e R s m args below meth c T locs cells slots) (hx : p.tables.exec = Jvm.exec) (hZ : Z.Warmed39 s.vm) {own : String} {index : Nat} {a : Addr} {W : Nat}
    (hown : s.vm.findClass own = some m.cls) (w1 : (Jvm.Cond.methodLink own index Lib.objectInit).before a0 Z = true) (w2 : (Jvm.Cond.instanceMethod Lib.objectInit).before a0 Z = true) (w4 : (Jvm.Cond.code Lib.objectInit ⟨#[0xb1]⟩ 1 none).before a0 Z = true)
    (eT : T.heap = h) (hsz : Ls.size = c.maxLocals) (hf : 1 ≤ R.frames) (hW : (rest.map fun v => v.category).sum = W) (hl : W + 12 ≤ R.locals) (hd : decode c.code pc = .ok (.invokespecial index, 3)) (hp : pc + 3 = pc')
    (r : ∀ T', Stand p l e R s m args below meth c T' locs cells slots → T'.heap = h → Run p e below Q En T' (mkF m pc' Ls rest)) : Run p e below Q En T (mkF m pc Ls (.ref a :: rest)) := by
  subst hp
  obtain ⟨T', X', e', stp⟩ := initO X hx hZ hown w1 w2 w4 eT (g := mkF m pc Ls (.ref a :: rest)) rfl hsz rfl hd hf (W := W) (by show 2 * 0 + _ ≤ _; omega) hl
  exact (r T' X' e').on stp
theorem r_new (X : Stand p l e R s m args below meth c T locs cells slots) (hx : p.tables.exec = Jvm.exec) (hZ : Z.Warmed39 s.vm) {own C : String} {index n : Nat} (hown : s.vm.findClass own = some m.cls) (w : (Jvm.Cond.classLink own index C).before a0 Z = true) (wi : (Jvm.Cond.instantiable C n).before a0 Z = true) (wz : (Jvm.Cond.initialized C).before a0 Z = true) (eT : T.heap = h) (hc : cells + 1 ≤ R.cells) (hl : slots + n ≤ R.slots) (hd : decode c.code pc = .ok (.new index, 3)) (hp : pc + 3 = pc')
    (r : ∀ (T' : State) (h' : Heap) (a : Addr), a = h.size → Stand p l e R s m args below meth c T' locs (cells + 1) (slots + n) → T'.heap = h' → Ext h h' → Exa Z h' a C → (∀ {O nm d : String} {ty : FieldType}, Laid Z a0 C O nm d → parseFieldDescriptor d = some ty → Fld Z h' a O nm d (defaultValue ty)) → Run p e below Q En T' (mkF m pc' Ls (.ref a :: rest))) : Run p e below Q En T (mkF m pc Ls rest) := by
  subst hp
  obtain ⟨T', h', X', e', E', A', D', -, stp⟩ := newO X hx hZ hown w wi wz eT (g := mkF m pc Ls rest) rfl hd hc hl
  exact (r T' h' h.size rfl X' e' E' A' D').on stp
theorem r_getF (X : Stand p l e R s m args below meth c T locs cells slots) (hx : p.tables.exec = Jvm.exec) (hZ : Z.Warmed39 s.vm) {own R0 O n d : String} {index : Nat} {a : Addr} {v : Value} (hown : s.vm.findClass own = some m.cls) (w : (Jvm.Cond.fieldLink own index R0 n d).before a0 Z = true) (via : Via Z R0 O n d) (eT : T.heap = h) (F : Fld Z h a O n d v) (hd : decode c.code pc = .ok (.getfield index, 3)) (hp : pc + 3 = pc')
    (r : ∀ T', Stand p l e R s m args below meth c T' locs cells slots → T'.heap = h → Run p e below Q En T' (mkF m pc' Ls (v :: rest))) : Run p e below Q En T (mkF m pc Ls (.ref a :: rest)) := by
  subst hp
  obtain ⟨T', X', e', stp⟩ := getF X hx hZ hown (host := "") (Or.inl w) via eT F (g := mkF m pc Ls (.ref a :: rest)) rfl rfl hd
  exact (r T' X' e').on stp
theorem r_getFN (X : Stand p l e R s m args below meth c T locs cells slots) (hx : p.tables.exec = Jvm.exec) (hZ : Z.Warmed39 s.vm) {own R0 O n d host : String} {index : Nat} {a : Addr} {v : Value} (hown : s.vm.findClass own = some m.cls) (w : (Jvm.Cond.fieldLinkNest own index R0 n d host).before a0 Z = true) (via : Via Z R0 O n d) (eT : T.heap = h) (F : Fld Z h a O n d v) (hd : decode c.code pc = .ok (.getfield index, 3)) (hp : pc + 3 = pc')
    (r : ∀ T', Stand p l e R s m args below meth c T' locs cells slots → T'.heap = h → Run p e below Q En T' (mkF m pc' Ls (v :: rest))) : Run p e below Q En T (mkF m pc Ls (.ref a :: rest)) := by
  subst hp
  obtain ⟨T', X', e', stp⟩ := getF X hx hZ hown (Or.inr w) via eT F (g := mkF m pc Ls (.ref a :: rest)) rfl rfl hd
  exact (r T' X' e').on stp
theorem r_getS (X : Stand p l e R s m args below meth c T locs cells slots) (hx : p.tables.exec = Jvm.exec) (hZ : Z.Warmed39 s.vm) {own R0 O n d : String} {index : Nat} {v : Value} (hown : s.vm.findClass own = some m.cls) (w : (Jvm.Cond.fieldLink own index R0 n d).before a0 Z = true) (via : Via Z R0 O n d) (eT : T.heap = h) (F : Sta Z h O n d v) (hd : decode c.code pc = .ok (.getstatic index, 3)) (hp : pc + 3 = pc')
    (r : ∀ T', Stand p l e R s m args below meth c T' locs cells slots → T'.heap = h → Run p e below Q En T' (mkF m pc' Ls (v :: rest))) : Run p e below Q En T (mkF m pc Ls rest) := by
  subst hp
  obtain ⟨T', X', e', stp⟩ := getS2 X hx hZ hown (host := "") (Or.inl w) via eT F (g := mkF m pc Ls rest) rfl hd
  exact (r T' X' e').on stp
theorem r_putF (X : Stand p l e R s m args below meth c T locs cells slots) (hx : p.tables.exec = Jvm.exec) (hZ : Z.Warmed39 s.vm) {own R0 O n d C : String} {index kk : Nat} {ty : FieldType} {a : Addr} {v old : Value} (hown : s.vm.findClass own = some m.cls) (w : (Jvm.Cond.fieldLink own index R0 n d).before a0 Z = true) (via : Via Z R0 O n d) (eT : T.heap = h) (F : Fld Z h a O n d old) (E : Exa Z h a C) (L : (Jvm.Cond.lays C O n d).before a0 Z = true ∨ ((Jvm.Cond.laysFinal C O n d).before a0 Z = true ∧ own = O ∧ meth.name = "<init>")) (wi : (Jvm.Cond.instantiable C kk).before a0 Z = true) (hty : parseFieldDescriptor d = some ty) (hn : narrow ty v = v) (hf : fits ty v = true) (hd : decode c.code pc = .ok (.putfield index, 3)) (hp : pc + 3 = pc')
    (r : ∀ (T' : State) (h' : Heap), Stand p l e R s m args below meth c T' (locs ++ [⟨a, Jvm.RoadKit.slotOf Z O n d⟩]) cells slots → T'.heap = h' → Wr h h' a (Jvm.RoadKit.slotOf Z O n d) v → Run p e below Q En T' (mkF m pc' Ls rest)) : Run p e below Q En T (mkF m pc Ls (v :: .ref a :: rest)) := by
  subst hp
  obtain ⟨T', h', X', e', W', stp⟩ := putF X hx hZ hown (host := "") (Or.inl w) via eT F E L wi hty hn hf (g := mkF m pc Ls (v :: .ref a :: rest)) rfl rfl hd
  exact (r T' h' X' e' W').on stp
theorem r_newarray (X : Stand p l e R s m args below meth c T locs cells slots) (hx : p.tables.exec = Jvm.exec) (hZ : Z.Warmed39 s.vm) {aty : ArrayType} (w : (Jvm.Cond.arrayClass (newarray.typeOf aty)).before a0 Z = true) (eT : T.heap = h) {n : Int32} {cap : Nat} (hn : ¬ n < 0) (hcap : n.toNatClampNeg ≤ cap) (hb8 : cap * 8 ≤ 536870912) (hc : cells + 1 ≤ R.cells) (hl : slots + cap ≤ R.slots) (hd : decode c.code pc = .ok (.newarray aty, 2)) (hp : pc + 2 = pc')
    (r : ∀ (T' : State) (h' : Heap) (a : Addr) (cA : ClassId), a = h.size → Stand p l e R s m args below meth c T' locs (cells + 1) (slots + cap) → T'.heap = h' → Ext h h' → Arr Z h' a (newA cA (newarray.typeOf aty) n) (newarray.typeOf aty) → Run p e below Q En T' (mkF m pc' Ls (.ref a :: rest))) : Run p e below Q En T (mkF m pc Ls (.int n :: rest)) := by
  subst hp
  obtain ⟨T', h', cA, X', e', E', A', stp⟩ := newP X hx hZ w eT (g := mkF m pc Ls (.int n :: rest)) rfl hd rfl hn hcap hb8 hc hl
  exact (r T' h' h.size cA rfl X' e' E' A').on stp
theorem r_putFN (X : Stand p l e R s m args below meth c T locs cells slots) (hx : p.tables.exec = Jvm.exec) (hZ : Z.Warmed39 s.vm) {own R0 O n d C : String} {index kk : Nat} {ty : FieldType} {a : Addr} {v v' old : Value} (hown : s.vm.findClass own = some m.cls) (w : (Jvm.Cond.fieldLink own index R0 n d).before a0 Z = true) (via : Via Z R0 O n d) (eT : T.heap = h) (F : Fld Z h a O n d old) (E : Exa Z h a C) (L : (Jvm.Cond.lays C O n d).before a0 Z = true ∨ ((Jvm.Cond.laysFinal C O n d).before a0 Z = true ∧ own = O ∧ meth.name = "<init>")) (wi : (Jvm.Cond.instantiable C kk).before a0 Z = true) (hty : parseFieldDescriptor d = some ty) (hn : narrow ty v = v') (hf : fits ty v' = true) (hd : decode c.code pc = .ok (.putfield index, 3)) (hp : pc + 3 = pc')
    (r : ∀ (T' : State) (h' : Heap), Stand p l e R s m args below meth c T' (locs ++ [⟨a, Jvm.RoadKit.slotOf Z O n d⟩]) cells slots → T'.heap = h' → Wr h h' a (Jvm.RoadKit.slotOf Z O n d) v' → Run p e below Q En T' (mkF m pc' Ls rest)) : Run p e below Q En T (mkF m pc Ls (v :: .ref a :: rest)) := by
  subst hp
  obtain ⟨T', h', X', e', W', stp⟩ := putFN X hx hZ hown w via eT F E L wi hty hn hf (g := mkF m pc Ls (v :: .ref a :: rest)) rfl rfl hd
  exact (r T' h' X' e' W').on stp
theorem r_anewarray (X : Stand p l e R s m args below meth c T locs cells slots) (hx : p.tables.exec = Jvm.exec) (hZ : Z.Warmed39 s.vm) {own C : String} {index : Nat} (hown : s.vm.findClass own = some m.cls) (w1 : (Jvm.Cond.classLink own index C).before a0 Z = true) (w2 : (Jvm.Cond.arrayOver (.object C)).before a0 Z = true) (eT : T.heap = h) {n : Int32} {cap : Nat} (hn : ¬ n < 0) (hcap : n.toNatClampNeg ≤ cap) (hb8 : cap * 8 ≤ 536870912) (hc : cells + 1 ≤ R.cells) (hl : slots + cap ≤ R.slots) (hd : decode c.code pc = .ok (.anewarray index, 3)) (hp : pc + 3 = pc')
    (r : ∀ (T' : State) (h' : Heap) (a : Addr) (cA : ClassId), a = h.size → Stand p l e R s m args below meth c T' locs (cells + 1) (slots + cap) → T'.heap = h' → Ext h h' → Arr Z h' a (newA cA (.object C) n) (.object C) → Ovr Z cA C → Run p e below Q En T' (mkF m pc' Ls (.ref a :: rest))) : Run p e below Q En T (mkF m pc Ls (.int n :: rest)) := by
  subst hp
  obtain ⟨T', h', cA, X', e', E', A', O', stp⟩ := newR X hx hZ hown w1 w2 eT (g := mkF m pc Ls (.int n :: rest)) rfl hd rfl hn hcap hb8 hc hl
  exact (r T' h' h.size cA rfl X' e' E' A' O').on stp
theorem r_iastore (X : Stand p l e R s m args below meth c T locs cells slots) (hx : p.tables.exec = Jvm.exec) (hZ : Z.Warmed39 s.vm) (eT : T.heap = h) {a : Addr} {cl : Cell} {j : Int32} {x : Int32} (A : Arr Z h a cl .int) (hj : ¬ (j < 0 ∨ cl.slots.size ≤ j.toNatClampNeg)) (hd : decode c.code pc = .ok (.iastore, 1)) (hp : pc + 1 = pc')
    (r : ∀ (T' : State) (h' : Heap), Stand p l e R s m args below meth c T' (locs ++ [⟨a, j.toNatClampNeg⟩]) cells slots → T'.heap = h' → Wr h h' a j.toNatClampNeg (.int x) → Run p e below Q En T' (mkF m pc' Ls rest)) : Run p e below Q En T (mkF m pc Ls (.int x :: .int j :: .ref a :: rest)) := by
  subst hp
  obtain ⟨T', h', X', e', W', stp⟩ := stI X hx hZ eT A hj (g := mkF m pc Ls (.int x :: .int j :: .ref a :: rest)) rfl rfl hd
  exact (r T' h' X' e' W').on stp
theorem r_lastore (X : Stand p l e R s m args below meth c T locs cells slots) (hx : p.tables.exec = Jvm.exec) (hZ : Z.Warmed39 s.vm) (eT : T.heap = h) {a : Addr} {cl : Cell} {j : Int32} {x : Int64} (A : Arr Z h a cl .long) (hj : ¬ (j < 0 ∨ cl.slots.size ≤ j.toNatClampNeg)) (hd : decode c.code pc = .ok (.lastore, 1)) (hp : pc + 1 = pc')
    (r : ∀ (T' : State) (h' : Heap), Stand p l e R s m args below meth c T' (locs ++ [⟨a, j.toNatClampNeg⟩]) cells slots → T'.heap = h' → Wr h h' a j.toNatClampNeg (.long x) → Run p e below Q En T' (mkF m pc' Ls rest)) : Run p e below Q En T (mkF m pc Ls (.long x :: .int j :: .ref a :: rest)) := by
  subst hp
  obtain ⟨T', h', X', e', W', stp⟩ := stJ X hx hZ eT A hj (g := mkF m pc Ls (.long x :: .int j :: .ref a :: rest)) rfl rfl hd
  exact (r T' h' X' e' W').on stp
theorem r_castore (X : Stand p l e R s m args below meth c T locs cells slots) (hx : p.tables.exec = Jvm.exec) (hZ : Z.Warmed39 s.vm) (eT : T.heap = h) {a : Addr} {cl : Cell} {j x : Int32} (A : Arr Z h a cl .char) (hj : ¬ (j < 0 ∨ cl.slots.size ≤ j.toNatClampNeg)) (hd : decode c.code pc = .ok (.castore, 1)) (hp : pc + 1 = pc')
    (r : ∀ (T' : State) (h' : Heap), Stand p l e R s m args below meth c T' (locs ++ [⟨a, j.toNatClampNeg⟩]) cells slots → T'.heap = h' → Wr h h' a j.toNatClampNeg (.int (nar .char x)) → Run p e below Q En T' (mkF m pc' Ls rest)) : Run p e below Q En T (mkF m pc Ls (.int x :: .int j :: .ref a :: rest)) := by
  subst hp
  obtain ⟨T', h', X', e', W', stp⟩ := stC X hx hZ eT A hj (g := mkF m pc Ls (.int x :: .int j :: .ref a :: rest)) rfl rfl hd
  exact (r T' h' X' e' W').on stp
theorem r_sastore (X : Stand p l e R s m args below meth c T locs cells slots) (hx : p.tables.exec = Jvm.exec) (hZ : Z.Warmed39 s.vm) (eT : T.heap = h) {a : Addr} {cl : Cell} {j x : Int32} (A : Arr Z h a cl .short) (hj : ¬ (j < 0 ∨ cl.slots.size ≤ j.toNatClampNeg)) (hd : decode c.code pc = .ok (.sastore, 1)) (hp : pc + 1 = pc')
    (r : ∀ (T' : State) (h' : Heap), Stand p l e R s m args below meth c T' (locs ++ [⟨a, j.toNatClampNeg⟩]) cells slots → T'.heap = h' → Wr h h' a j.toNatClampNeg (.int (nar .short x)) → Run p e below Q En T' (mkF m pc' Ls rest)) : Run p e below Q En T (mkF m pc Ls (.int x :: .int j :: .ref a :: rest)) := by
  subst hp
  obtain ⟨T', h', X', e', W', stp⟩ := stS X hx hZ eT A hj (g := mkF m pc Ls (.int x :: .int j :: .ref a :: rest)) rfl rfl hd
  exact (r T' h' X' e' W').on stp
theorem r_bastoreB (X : Stand p l e R s m args below meth c T locs cells slots) (hx : p.tables.exec = Jvm.exec) (hZ : Z.Warmed39 s.vm) (eT : T.heap = h) {a : Addr} {cl : Cell} {j x : Int32} (A : Arr Z h a cl .byte) (hj : ¬ (j < 0 ∨ cl.slots.size ≤ j.toNatClampNeg)) (hd : decode c.code pc = .ok (.bastore, 1)) (hp : pc + 1 = pc')
    (r : ∀ (T' : State) (h' : Heap), Stand p l e R s m args below meth c T' (locs ++ [⟨a, j.toNatClampNeg⟩]) cells slots → T'.heap = h' → Wr h h' a j.toNatClampNeg (.int (nar .byte x)) → Run p e below Q En T' (mkF m pc' Ls rest)) : Run p e below Q En T (mkF m pc Ls (.int x :: .int j :: .ref a :: rest)) := by
  subst hp
  obtain ⟨T', h', X', e', W', stp⟩ := stB X hx hZ eT A hj (g := mkF m pc Ls (.int x :: .int j :: .ref a :: rest)) rfl rfl hd
  exact (r T' h' X' e' W').on stp
theorem r_bastoreZ (X : Stand p l e R s m args below meth c T locs cells slots) (hx : p.tables.exec = Jvm.exec) (hZ : Z.Warmed39 s.vm) (eT : T.heap = h) {a : Addr} {cl : Cell} {j x : Int32} (A : Arr Z h a cl .boolean) (hj : ¬ (j < 0 ∨ cl.slots.size ≤ j.toNatClampNeg)) (hd : decode c.code pc = .ok (.bastore, 1)) (hp : pc + 1 = pc')
    (r : ∀ (T' : State) (h' : Heap), Stand p l e R s m args below meth c T' (locs ++ [⟨a, j.toNatClampNeg⟩]) cells slots → T'.heap = h' → Wr h h' a j.toNatClampNeg (.int (nar .boolean x)) → Run p e below Q En T' (mkF m pc' Ls rest)) : Run p e below Q En T (mkF m pc Ls (.int x :: .int j :: .ref a :: rest)) := by
  subst hp
  obtain ⟨T', h', X', e', W', stp⟩ := stZ X hx hZ eT A hj (g := mkF m pc Ls (.int x :: .int j :: .ref a :: rest)) rfl rfl hd
  exact (r T' h' X' e' W').on stp
theorem r_arraylength (X : Stand p l e R s m args below meth c T locs cells slots) (hx : p.tables.exec = Jvm.exec) (hZ : Z.Warmed39 s.vm) (eT : T.heap = h) {a : Addr} {cl : Cell} {ty : FieldType} {n : Int32} (A : Arr Z h a cl ty) (hn : cl.slots.size.toInt32 = n) (hd : decode c.code pc = .ok (.arraylength, 1)) (hp : pc + 1 = pc') (r : Run p e below Q En T (mkF m pc' Ls (.int n :: rest))) : Run p e below Q En T (mkF m pc Ls (.ref a :: rest)) := by
  subst hp hn; exact r.on fun _ q => X.arraylength hx (by rw [eT]; exact A.1) (State.isArrayOf_alike hZ.alike A.2.1) (g := mkF m pc Ls (.ref a :: rest)) rfl rfl hd _ q
theorem r_iaload (X : Stand p l e R s m args below meth c T locs cells slots) (hx : p.tables.exec = Jvm.exec) (hZ : Z.Warmed39 s.vm) (eT : T.heap = h) {a : Addr} {cl : Cell} {j : Int32} {v : Int32} (A : Arr Z h a cl .int) (hj : ¬ (j < 0 ∨ cl.slots.size ≤ j.toNatClampNeg)) (hat : cl.slots[j.toNatClampNeg]? = some (.int v)) (hd : decode c.code pc = .ok (.iaload, 1)) (hp : pc + 1 = pc') (r : Run p e below Q En T (mkF m pc' Ls (.int v :: rest))) : Run p e below Q En T (mkF m pc Ls (.int j :: .ref a :: rest)) := by
  subst hp; exact r.on fun _ q => X.iaload hx (j := j) (v := .int v) (by rw [eT]; exact A.1) (State.isArrayOf_alike hZ.alike A.2.1) A.2.2 hj hat (g := mkF m pc Ls (.int j :: .ref a :: rest)) rfl rfl hd _ q
theorem r_caload (X : Stand p l e R s m args below meth c T locs cells slots) (hx : p.tables.exec = Jvm.exec) (hZ : Z.Warmed39 s.vm) (eT : T.heap = h) {a : Addr} {cl : Cell} {j : Int32} {v : Int32} (A : Arr Z h a cl .char) (hj : ¬ (j < 0 ∨ cl.slots.size ≤ j.toNatClampNeg)) (hat : cl.slots[j.toNatClampNeg]? = some (.int v)) (hd : decode c.code pc = .ok (.caload, 1)) (hp : pc + 1 = pc') (r : Run p e below Q En T (mkF m pc' Ls (.int v :: rest))) : Run p e below Q En T (mkF m pc Ls (.int j :: .ref a :: rest)) := by
  subst hp; exact r.on fun _ q => X.caload hx (j := j) (v := .int v) (by rw [eT]; exact A.1) (State.isArrayOf_alike hZ.alike A.2.1) A.2.2 hj hat (g := mkF m pc Ls (.int j :: .ref a :: rest)) rfl rfl hd _ q
theorem r_saload (X : Stand p l e R s m args below meth c T locs cells slots) (hx : p.tables.exec = Jvm.exec) (hZ : Z.Warmed39 s.vm) (eT : T.heap = h) {a : Addr} {cl : Cell} {j : Int32} {v : Int32} (A : Arr Z h a cl .short) (hj : ¬ (j < 0 ∨ cl.slots.size ≤ j.toNatClampNeg)) (hat : cl.slots[j.toNatClampNeg]? = some (.int v)) (hd : decode c.code pc = .ok (.saload, 1)) (hp : pc + 1 = pc') (r : Run p e below Q En T (mkF m pc' Ls (.int v :: rest))) : Run p e below Q En T (mkF m pc Ls (.int j :: .ref a :: rest)) := by
  subst hp; exact r.on fun _ q => X.saload hx (j := j) (v := .int v) (by rw [eT]; exact A.1) (State.isArrayOf_alike hZ.alike A.2.1) A.2.2 hj hat (g := mkF m pc Ls (.int j :: .ref a :: rest)) rfl rfl hd _ q
theorem r_baload (X : Stand p l e R s m args below meth c T locs cells slots) (hx : p.tables.exec = Jvm.exec) (hZ : Z.Warmed39 s.vm) (eT : T.heap = h) {a : Addr} {cl : Cell} {j : Int32} {v : Int32} (A : Arr Z h a cl .byte) (hj : ¬ (j < 0 ∨ cl.slots.size ≤ j.toNatClampNeg)) (hat : cl.slots[j.toNatClampNeg]? = some (.int v)) (hd : decode c.code pc = .ok (.baload, 1)) (hp : pc + 1 = pc') (r : Run p e below Q En T (mkF m pc' Ls (.int v :: rest))) : Run p e below Q En T (mkF m pc Ls (.int j :: .ref a :: rest)) := by
  subst hp; exact r.on fun _ q => X.baloadBytes hx (j := j) (v := .int v) (by rw [eT]; exact A.1) (State.isArrayOf_alike hZ.alike A.2.1) A.2.2 hj hat (g := mkF m pc Ls (.int j :: .ref a :: rest)) rfl rfl hd _ q
theorem r_baloadZ (X : Stand p l e R s m args below meth c T locs cells slots) (hx : p.tables.exec = Jvm.exec) (hZ : Z.Warmed39 s.vm) (eT : T.heap = h) {a : Addr} {cl : Cell} {j : Int32} {v : Int32} (A : Arr Z h a cl .boolean) (hj : ¬ (j < 0 ∨ cl.slots.size ≤ j.toNatClampNeg)) (hat : cl.slots[j.toNatClampNeg]? = some (.int v)) (hd : decode c.code pc = .ok (.baload, 1)) (hp : pc + 1 = pc') (r : Run p e below Q En T (mkF m pc' Ls (.int v :: rest))) : Run p e below Q En T (mkF m pc Ls (.int j :: .ref a :: rest)) := by
  subst hp; exact r.on fun _ q => X.baloadBooleans hx (j := j) (v := .int v) (by rw [eT]; exact A.1) (State.isArrayOf_alike hZ.alike A.2.1) A.2.2 hj hat (g := mkF m pc Ls (.int j :: .ref a :: rest)) rfl rfl hd _ q
theorem r_laload (X : Stand p l e R s m args below meth c T locs cells slots) (hx : p.tables.exec = Jvm.exec) (hZ : Z.Warmed39 s.vm) (eT : T.heap = h) {a : Addr} {cl : Cell} {j : Int32} {v : Int64} (A : Arr Z h a cl .long) (hj : ¬ (j < 0 ∨ cl.slots.size ≤ j.toNatClampNeg)) (hat : cl.slots[j.toNatClampNeg]? = some (.long v)) (hd : decode c.code pc = .ok (.laload, 1)) (hp : pc + 1 = pc') (r : Run p e below Q En T (mkF m pc' Ls (.long v :: rest))) : Run p e below Q En T (mkF m pc Ls (.int j :: .ref a :: rest)) := by
  subst hp; exact r.on fun _ q => X.laload hx (j := j) (v := .long v) (by rw [eT]; exact A.1) (State.isArrayOf_alike hZ.alike A.2.1) A.2.2 hj hat (g := mkF m pc Ls (.int j :: .ref a :: rest)) rfl rfl hd _ q
theorem r_ldcS {vm0 : Vm} {k0 nn : Nat} (X : Stand p l e R (s.setVm vm0) m args below meth c T locs cells slots) (hx : p.tables.exec = Jvm.exec) (hZ : Z.Warmed39 vm0) {own text : String} {index : Nat} (hown : vm0.findClass own = some m.cls) (w : (Jvm.Cond.stringLink own index text).before a0 Z = true) (wS : ∀ a ∈ Bundle.stringAtoms, a.before a0 Z = true) (eT : T.heap = h) (hS : s.Since vm0 k0) (hk : k0 ≤ h.size) (hn : 4 * text.toList.length ≤ nn) (hbig : nn ≤ 536870912) (hc : cells + 2 ≤ R.cells) (hl : slots + (nn + 4) ≤ R.slots) (hd : decode c.code pc = .ok (.ldc index, 2)) (hp : pc + 2 = pc')
    (r : ∀ (a : Addr) (T' : State) (h' : Heap) (k1 : Nat), Stand p l e R (s.setVm T'.vm) m args below meth c T' locs (cells + 2) (slots + (nn + 4)) → T'.heap = h' → Ext h h' → s.Since T'.vm k1 → k1 ≤ h'.size → Z.Warmed39 (s.setVm T'.vm).vm → (s.setVm T'.vm).vm.findClass own = some m.cls → Run p e below Q En T' (mkF m pc' Ls (.ref a :: rest))) : Run p e below Q En T (mkF m pc Ls rest) := by
  subst hp
  obtain ⟨a, T', h', k1, X', e', E', hS', hk', hZ', ho', stp⟩ := ldcS X hx hZ hown w wS eT hS hk (g := mkF m pc Ls rest) rfl hd hn hbig hc hl
  exact (r a T' h' k1 X' e' E' hS' hk' hZ' ho').on stp
theorem w_retN {vm1 : Vm} {k1 : Nat} (X : Stand p l e R (s.setVm vm1) m args below meth c T locs cells slots) (hS : s.Since vm1 k1) (hk : k1 ≤ T.heap.size) (hx : p.tables.exec = Jvm.exec) (hlk : meth.locks = false) {t : FieldType} {z w : Int32} (hret : meth.sig.returnType = some t) (ht : t = .boolean ∨ t = .byte ∨ t = .char ∨ t = .short) (hd : decode c.code pc = .ok (.ireturn, 1)) (hn : nar t z = w) (hq : Q (some (.int w)) T.heap locs) (h1 : cells ≤ kc) (h2 : slots ≤ ks) : Run p e below Q (fun o t L => ReturnedEndW s o t L kc ks) T (mkF m pc Ls (.int z :: rest)) := by
  subst hn
  obtain ⟨fs, hr, hrun, hended, h4, h5, h6, h7⟩ := X.leaveW hS hk (v := some (.int (nar t z))) (fun q => by rw [hret] at q; cases q) hlk
  exact ⟨_, _, retN X hx hret ht hd hr, hrun, hended, _, _, rfl, hq, h4, h5, h6, h7.mono h1 h2⟩
theorem w_retV {vm1 : Vm} {k1 : Nat} (X : Stand p l e R (s.setVm vm1) m args below meth c T locs cells slots) (hS : s.Since vm1 k1) (hk : k1 ≤ T.heap.size) (hx : p.tables.exec = Jvm.exec) (hlk : meth.locks = false) {t : FieldType} {w : Value} {i : Instr} (hret : meth.sig.returnType = some t) (hn : narrow t w = w)
    (hi : (i = .ireturn ∧ (t = .int ∨ t = .boolean ∨ t = .byte ∨ t = .char ∨ t = .short) ∧ ∃ z, w = .int z) ∨ (i = .lreturn ∧ t = .long ∧ ∃ z, w = .long z) ∨ (i = .dreturn ∧ t = .double ∧ ∃ z, w = .double z) ∨ (i = .freturn ∧ t = .float ∧ ∃ z, w = .float z) ∨ (i = .areturn ∧ t.isReference = true ∧ w.isRef = true))
    (hd : decode c.code pc = .ok (i, 1)) (hq : Q (some w) T.heap locs) (h1 : cells ≤ kc) (h2 : slots ≤ ks) : Run p e below Q (fun o t L => ReturnedEndW s o t L kc ks) T (mkF m pc Ls (w :: rest)) := by
  obtain ⟨fs, hr, hrun, hended, h4, h5, h6, h7⟩ := X.leaveW hS hk (v := some w) (fun q => by rw [hret] at q; cases q) hlk
  exact ⟨_, _, retOut X hx hret hn hi hd hr, hrun, hended, _, _, rfl, hq, h4, h5, h6, h7.mono h1 h2⟩
theorem w_ret0 {vm1 : Vm} {k1 : Nat} (X : Stand p l e R (s.setVm vm1) m args below meth c T locs cells slots) (hS : s.Since vm1 k1) (hk : k1 ≤ T.heap.size) (hx : p.tables.exec = Jvm.exec) (hlk : meth.locks = false) (hret : meth.sig.returnType = none) (hd : decode c.code pc = .ok (.return_, 1)) (hq : Q none T.heap locs) (h1 : cells ≤ kc) (h2 : slots ≤ ks) : Run p e below Q (fun o t L => ReturnedEndW s o t L kc ks) T (mkF m pc Ls []) := by
  obtain ⟨fs, hr, hrun, hended, h4, h5, h6, h7⟩ := X.leaveW hS hk (v := none) (fun _ => rfl) hlk
  exact ⟨_, _, X.returnOut hx hret hd hr, hrun, hended, _, _, rfl, hq, h4, h5, h6, h7.mono h1 h2⟩
abbrev MetW (l : Launch) (Z : State) (y : MethodName) (bytes : ByteArray) (maxL : Nat) (ret : Option FieldType) (ws : List Jvm.Cond) (rm : Room) (as' : Array Value) (h0 : Heap) (Q : Option Value → Heap → List Loc → Prop) (kc ks : Nat) : Prop :=
  MetFree l y (head1 (Jvm.Cond.code y bytes maxL ret :: ws) rm) (fun a U => a = as' ∧ Z.Warmed39 U.vm ∧ U.heap = h0) (fun _ _ _ _ _ => True) (fun _ U o U' => ∃ v L, o = .returned v ∧ Q v U'.heap L ∧ ReturnedEndW U o U' L kc ks)
theorem metW_of {y : MethodName} {bytes : ByteArray} {maxL : Nat} {ret : Option FieldType} {ws : List Jvm.Cond} {rm : Room} {as' : Array Value} {h0 : Heap} {Q : Option Value → Heap → List Loc → Prop} {kc ks : Nat} {f0 : MethodId → JFrame} (hpn : plainFor y = true)
    (hef : ∀ m, entryFrame m as' maxL = f0 m)
    (body : ∀ (p : Program) (e : Env) (s : State) (m : MethodId) (below : List Frame) (meth : Method) (c : Code) (s₁ : State), Stand p l e rm s m as' below meth c s₁ [] 0 0 → p.tables.exec = Jvm.exec → c.code = bytes → c.maxLocals = maxL → meth.sig.returnType = ret → meth.locks = false → s.vm.findClass y.cls = some m.cls → meth.name = y.name → Z.Warmed39 s.vm → s₁.heap = h0 → Run p e below Q (fun o t L => ReturnedEndW s o t L kc ks) s₁ (f0 m)) :
    MetW l Z y bytes maxL ret ws rm as' h0 Q kc ks := by
  refine MetFree.of_bodySF (code := bytes) (maxLocals := maxL) (ret := ret) hpn hisR ?_
  intro p e s m args below meth c s₁ Bd hml0 hP hK
  obtain ⟨rfl, hZ, hh⟩ := hP
  obtain ⟨s₂, o, r⟩ := body p e s m below meth c s₁ (Stand.of_body Bd) Bd.exec Bd.bytes hml0 Bd.returns (BodyLoose.notSynchronized Bd) (findClass_of_methodNamed Bd.named) (name_of_methodNamed Bd.named Bd.method).1 hZ (by rw [← hh, Bd.state]; rfl)
  rw [hef m]
  exact ⟨s₂, o, r⟩
end Core
section Arrays
variable {p : Program} {l : Launch} {e : Env} {R : Room} {s : State} {m : MethodId} {args : Array Value} {below : List Frame} {meth : Method} {c : Code} {T T' : State} {locs : List Loc} {cells slots : Nat} {Q : Option Value → Heap → List Loc → Prop} {En : Outcome → State → List Loc → Prop} {kc ks : Nat} {Z : State} {a0 : Array Value} {h h' : Heap} {Ls : Array Slot} {st rest : List Value} {pc pc' : Nat} {a b : Addr} {ty : FieldType} {n : Nat} {f g : Nat → Value} {F : Nat → Int32} {sl : Nat} {v : Value} {j : Int32}
/-- an array of n places and what lies in each -/
def Ary (Z : State) (h : Heap) (a : Addr) (ty : FieldType) (n : Nat) (f : Nat → Value) : Prop := ∃ c : Cell, Arr Z h a c ty ∧ c.slots.size = n ∧ ∀ i, i < n → c.slots[i]? = some (f i)
theorem Ary.lt (A : Ary Z h a ty n f) : a < h.size := by obtain ⟨c, A, -⟩ := A; exact A.lt
theorem Ary.ext (A : Ary Z h a ty n f) (E : Ext h h') : Ary Z h' a ty n f := by obtain ⟨c, A, r⟩ := A; exact ⟨c, A.ext E, r⟩
theorem Ary.other (A : Ary Z h b ty n f) (W : Wr h h' a sl v) (q : b ≠ a) : Ary Z h' b ty n f := by obtain ⟨c, A, r⟩ := A; exact ⟨c, A.other W q, r⟩
theorem Ary.keep {ws : List Addr} (A : Ary Z h a ty n f) (K : Keep h h' ws) (q : a ∉ ws) : Ary Z h' a ty n f := by obtain ⟨c, A, r⟩ := A; exact ⟨c, ⟨K.2.1 a c A.1 q, A.2⟩, r⟩
theorem Ary.congr (A : Ary Z h a ty n f) (q : ∀ i, i < n → f i = g i) : Ary Z h a ty n g := by obtain ⟨c, A, r1, r2⟩ := A; exact ⟨c, A, r1, fun i hi => by rw [r2 i hi, q i hi]⟩
theorem Ary.set (A : Ary Z h a ty n f) (W : Wr h h' a j.toNatClampNeg v) : Ary Z h' a ty n (fun i => if i = j.toInt.toNat then v else f i) := by
  obtain ⟨c, A, r1, r2⟩ := A
  refine ⟨_, A.same W, by rw [sz_set]; exact r1, fun i hi => ?_⟩
  show (c.slots.setIfInBounds j.toNatClampNeg v)[i]? = _
  have ej : j.toNatClampNeg = j.toInt.toNat := rfl
  by_cases q : i = j.toInt.toNat
  · simp only [q, if_true]; rw [← ej]; rw [ej, ← q]; simp [Array.getElem?_setIfInBounds, r1, hi]
  · simp only [q, if_false]; rw [Array.getElem?_setIfInBounds_ne (by rw [ej]; exact fun y => q y.symm)]; exact r2 i hi
theorem Ary.setI {x : Int32} (A : Ary Z h a ty n (fun i => .int (F i))) (W : Wr h h' a j.toNatClampNeg (.int x)) : Ary Z h' a ty n (fun i => .int (if i = j.toInt.toNat then x else F i)) :=
  (A.set W).congr fun i _ => by
    by_cases q : i = j.toInt.toNat
    · simp only [if_pos q]
    · simp only [if_neg q]
theorem Ary.setJ {x : Int64} {F : Nat → Int64} (A : Ary Z h a ty n (fun i => .long (F i))) (W : Wr h h' a j.toNatClampNeg (.long x)) : Ary Z h' a ty n (fun i => .long (if i = j.toInt.toNat then x else F i)) :=
  (A.set W).congr fun i _ => by
    by_cases q : i = j.toInt.toNat
    · simp only [if_pos q]
    · simp only [if_neg q]
theorem Ary.new {cA : ClassId} {z : Int32} (A : Arr Z h a (newA cA ty z) ty) (hz : z.toInt.toNat = n) : Ary Z h a ty n (fun _ => defaultValue ty) := by
  have ej : z.toNatClampNeg = z.toInt.toNat := rfl
  refine ⟨_, A, by rw [sz_new]; exact hz, fun i hi => ?_⟩
  show (Array.replicate z.toNatClampNeg (defaultValue ty))[i]? = _
  rw [ej, hz]; simp [hi]
theorem own_inb {cl : Cell} (h1 : cl.slots.size = n) (h0 : 0 ≤ j.toInt) (h2 : j.toInt < n) : ¬ (j < 0 ∨ cl.slots.size ≤ j.toNatClampNeg) := by
  rw [Int32.lt_iff_toInt_lt, show (0 : Int32).toInt = 0 from rfl]
  have ej : j.toNatClampNeg = j.toInt.toNat := rfl
  omega
theorem own_at {cl : Cell} (h3 : ∀ i, i < n → cl.slots[i]? = some (f i)) (h0 : 0 ≤ j.toInt) (h2 : j.toInt < n) (hv : f j.toInt.toNat = v) : cl.slots[j.toNatClampNeg]? = some v := by
  rw [← hv]; exact h3 _ (show j.toInt.toNat < n by omega)
theorem r_len (X : Stand p l e R s m args below meth c T locs cells slots) (hx : p.tables.exec = Jvm.exec) (hZ : Z.Warmed39 s.vm) (eT : T.heap = h) {z : Int32} (A : Ary Z h a ty n f) (hn : z.toInt = n) (hd : decode c.code pc = .ok (.arraylength, 1)) (hp : pc + 1 = pc') (r : Run p e below Q En T (mkF m pc' Ls (.int z :: rest))) : Run p e below Q En T (mkF m pc Ls (.ref a :: rest)) := by
  obtain ⟨cl, A, r1, -⟩ := A
  refine r_arraylength X hx hZ eT A ?_ hd hp r
  rw [r1]
  have q : z.toInt.toNat = n := by omega
  rw [← q]
  exact (back32 (n := z) (by rw [Int32.lt_iff_toInt_lt, show (0 : Int32).toInt = 0 from rfl]; omega)).1
theorem q_iaload (X : Stand p l e R s m args below meth c T locs cells slots) (hx : p.tables.exec = Jvm.exec) (hZ : Z.Warmed39 s.vm) (eT : T.heap = h) {v : Int32} (A : Ary Z h a .int n f) (h0 : 0 ≤ j.toInt) (h1 : j.toInt < n) (hv : f j.toInt.toNat = .int v) (hd : decode c.code pc = .ok (.iaload, 1)) (hp : pc + 1 = pc') (r : Run p e below Q En T (mkF m pc' Ls (.int v :: rest))) : Run p e below Q En T (mkF m pc Ls (.int j :: .ref a :: rest)) := by
  obtain ⟨cl, A, r1, r2⟩ := A
  exact r_iaload X hx hZ eT A (own_inb r1 h0 h1) (own_at r2 h0 h1 hv) hd hp r
theorem q_caload (X : Stand p l e R s m args below meth c T locs cells slots) (hx : p.tables.exec = Jvm.exec) (hZ : Z.Warmed39 s.vm) (eT : T.heap = h) {v : Int32} (A : Ary Z h a .char n f) (h0 : 0 ≤ j.toInt) (h1 : j.toInt < n) (hv : f j.toInt.toNat = .int v) (hd : decode c.code pc = .ok (.caload, 1)) (hp : pc + 1 = pc') (r : Run p e below Q En T (mkF m pc' Ls (.int v :: rest))) : Run p e below Q En T (mkF m pc Ls (.int j :: .ref a :: rest)) := by
  obtain ⟨cl, A, r1, r2⟩ := A
  exact r_caload X hx hZ eT A (own_inb r1 h0 h1) (own_at r2 h0 h1 hv) hd hp r
theorem q_saload (X : Stand p l e R s m args below meth c T locs cells slots) (hx : p.tables.exec = Jvm.exec) (hZ : Z.Warmed39 s.vm) (eT : T.heap = h) {v : Int32} (A : Ary Z h a .short n f) (h0 : 0 ≤ j.toInt) (h1 : j.toInt < n) (hv : f j.toInt.toNat = .int v) (hd : decode c.code pc = .ok (.saload, 1)) (hp : pc + 1 = pc') (r : Run p e below Q En T (mkF m pc' Ls (.int v :: rest))) : Run p e below Q En T (mkF m pc Ls (.int j :: .ref a :: rest)) := by
  obtain ⟨cl, A, r1, r2⟩ := A
  exact r_saload X hx hZ eT A (own_inb r1 h0 h1) (own_at r2 h0 h1 hv) hd hp r
theorem q_baload (X : Stand p l e R s m args below meth c T locs cells slots) (hx : p.tables.exec = Jvm.exec) (hZ : Z.Warmed39 s.vm) (eT : T.heap = h) {v : Int32} (A : Ary Z h a .byte n f) (h0 : 0 ≤ j.toInt) (h1 : j.toInt < n) (hv : f j.toInt.toNat = .int v) (hd : decode c.code pc = .ok (.baload, 1)) (hp : pc + 1 = pc') (r : Run p e below Q En T (mkF m pc' Ls (.int v :: rest))) : Run p e below Q En T (mkF m pc Ls (.int j :: .ref a :: rest)) := by
  obtain ⟨cl, A, r1, r2⟩ := A
  exact r_baload X hx hZ eT A (own_inb r1 h0 h1) (own_at r2 h0 h1 hv) hd hp r
theorem q_baloadZ (X : Stand p l e R s m args below meth c T locs cells slots) (hx : p.tables.exec = Jvm.exec) (hZ : Z.Warmed39 s.vm) (eT : T.heap = h) {v : Int32} (A : Ary Z h a .boolean n f) (h0 : 0 ≤ j.toInt) (h1 : j.toInt < n) (hv : f j.toInt.toNat = .int v) (hd : decode c.code pc = .ok (.baload, 1)) (hp : pc + 1 = pc') (r : Run p e below Q En T (mkF m pc' Ls (.int v :: rest))) : Run p e below Q En T (mkF m pc Ls (.int j :: .ref a :: rest)) := by
  obtain ⟨cl, A, r1, r2⟩ := A
  exact r_baloadZ X hx hZ eT A (own_inb r1 h0 h1) (own_at r2 h0 h1 hv) hd hp r
theorem q_laload (X : Stand p l e R s m args below meth c T locs cells slots) (hx : p.tables.exec = Jvm.exec) (hZ : Z.Warmed39 s.vm) (eT : T.heap = h) {v : Int64} (A : Ary Z h a .long n f) (h0 : 0 ≤ j.toInt) (h1 : j.toInt < n) (hv : f j.toInt.toNat = .long v) (hd : decode c.code pc = .ok (.laload, 1)) (hp : pc + 1 = pc') (r : Run p e below Q En T (mkF m pc' Ls (.long v :: rest))) : Run p e below Q En T (mkF m pc Ls (.int j :: .ref a :: rest)) := by
  obtain ⟨cl, A, r1, r2⟩ := A
  exact r_laload X hx hZ eT A (own_inb r1 h0 h1) (own_at r2 h0 h1 hv) hd hp r
theorem q_iastore (X : Stand p l e R s m args below meth c T locs cells slots) (hx : p.tables.exec = Jvm.exec) (hZ : Z.Warmed39 s.vm) (eT : T.heap = h) {x : Int32} {F : Nat → Int32} (A : Ary Z h a .int n (fun i => .int (F i))) (h0 : 0 ≤ j.toInt) (h1 : j.toInt < n) (hd : decode c.code pc = .ok (.iastore, 1)) (hp : pc + 1 = pc')
    (r : ∀ (T' : State) (h' : Heap), Stand p l e R s m args below meth c T' (locs ++ [⟨a, j.toNatClampNeg⟩]) cells slots → T'.heap = h' → Wr h h' a j.toNatClampNeg (.int x) → Ary Z h' a .int n (fun i => .int (if i = j.toInt.toNat then x else F i)) → Run p e below Q En T' (mkF m pc' Ls rest)) : Run p e below Q En T (mkF m pc Ls (.int x :: .int j :: .ref a :: rest)) := by
  have A' := A
  obtain ⟨cl, A, r1, r2⟩ := A
  exact r_iastore X hx hZ eT A (own_inb r1 h0 h1) hd hp fun T' h' X' e' W' => r T' h' X' e' W' (A'.setI W')
theorem q_lastore (X : Stand p l e R s m args below meth c T locs cells slots) (hx : p.tables.exec = Jvm.exec) (hZ : Z.Warmed39 s.vm) (eT : T.heap = h) {x : Int64} {F : Nat → Int64} (A : Ary Z h a .long n (fun i => .long (F i))) (h0 : 0 ≤ j.toInt) (h1 : j.toInt < n) (hd : decode c.code pc = .ok (.lastore, 1)) (hp : pc + 1 = pc')
    (r : ∀ (T' : State) (h' : Heap), Stand p l e R s m args below meth c T' (locs ++ [⟨a, j.toNatClampNeg⟩]) cells slots → T'.heap = h' → Wr h h' a j.toNatClampNeg (.long x) → Ary Z h' a .long n (fun i => .long (if i = j.toInt.toNat then x else F i)) → Run p e below Q En T' (mkF m pc' Ls rest)) : Run p e below Q En T (mkF m pc Ls (.long x :: .int j :: .ref a :: rest)) := by
  have A' := A
  obtain ⟨cl, A, r1, r2⟩ := A
  exact r_lastore X hx hZ eT A (own_inb r1 h0 h1) hd hp fun T' h' X' e' W' => r T' h' X' e' W' (A'.setJ W')
theorem q_castore (X : Stand p l e R s m args below meth c T locs cells slots) (hx : p.tables.exec = Jvm.exec) (hZ : Z.Warmed39 s.vm) (eT : T.heap = h) {x w : Int32} (A : Ary Z h a .char n (fun i => .int (F i))) (h0 : 0 ≤ j.toInt) (h1 : j.toInt < n) (hn : nar .char x = w) (hd : decode c.code pc = .ok (.castore, 1)) (hp : pc + 1 = pc')
    (r : ∀ (T' : State) (h' : Heap), Stand p l e R s m args below meth c T' (locs ++ [⟨a, j.toNatClampNeg⟩]) cells slots → T'.heap = h' → Wr h h' a j.toNatClampNeg (.int w) → Ary Z h' a .char n (fun i => .int (if i = j.toInt.toNat then w else F i)) → Run p e below Q En T' (mkF m pc' Ls rest)) : Run p e below Q En T (mkF m pc Ls (.int x :: .int j :: .ref a :: rest)) := by
  subst hn
  have A' := A
  obtain ⟨cl, A, r1, r2⟩ := A
  exact r_castore X hx hZ eT A (own_inb r1 h0 h1) hd hp fun T' h' X' e' W' => r T' h' X' e' W' (A'.setI W')
theorem q_sastore (X : Stand p l e R s m args below meth c T locs cells slots) (hx : p.tables.exec = Jvm.exec) (hZ : Z.Warmed39 s.vm) (eT : T.heap = h) {x w : Int32} (A : Ary Z h a .short n (fun i => .int (F i))) (h0 : 0 ≤ j.toInt) (h1 : j.toInt < n) (hn : nar .short x = w) (hd : decode c.code pc = .ok (.sastore, 1)) (hp : pc + 1 = pc')
    (r : ∀ (T' : State) (h' : Heap), Stand p l e R s m args below meth c T' (locs ++ [⟨a, j.toNatClampNeg⟩]) cells slots → T'.heap = h' → Wr h h' a j.toNatClampNeg (.int w) → Ary Z h' a .short n (fun i => .int (if i = j.toInt.toNat then w else F i)) → Run p e below Q En T' (mkF m pc' Ls rest)) : Run p e below Q En T (mkF m pc Ls (.int x :: .int j :: .ref a :: rest)) := by
  subst hn
  have A' := A
  obtain ⟨cl, A, r1, r2⟩ := A
  exact r_sastore X hx hZ eT A (own_inb r1 h0 h1) hd hp fun T' h' X' e' W' => r T' h' X' e' W' (A'.setI W')
theorem q_bastoreB (X : Stand p l e R s m args below meth c T locs cells slots) (hx : p.tables.exec = Jvm.exec) (hZ : Z.Warmed39 s.vm) (eT : T.heap = h) {x w : Int32} (A : Ary Z h a .byte n (fun i => .int (F i))) (h0 : 0 ≤ j.toInt) (h1 : j.toInt < n) (hn : nar .byte x = w) (hd : decode c.code pc = .ok (.bastore, 1)) (hp : pc + 1 = pc')
    (r : ∀ (T' : State) (h' : Heap), Stand p l e R s m args below meth c T' (locs ++ [⟨a, j.toNatClampNeg⟩]) cells slots → T'.heap = h' → Wr h h' a j.toNatClampNeg (.int w) → Ary Z h' a .byte n (fun i => .int (if i = j.toInt.toNat then w else F i)) → Run p e below Q En T' (mkF m pc' Ls rest)) : Run p e below Q En T (mkF m pc Ls (.int x :: .int j :: .ref a :: rest)) := by
  subst hn
  have A' := A
  obtain ⟨cl, A, r1, r2⟩ := A
  exact r_bastoreB X hx hZ eT A (own_inb r1 h0 h1) hd hp fun T' h' X' e' W' => r T' h' X' e' W' (A'.setI W')
theorem q_bastoreZ (X : Stand p l e R s m args below meth c T locs cells slots) (hx : p.tables.exec = Jvm.exec) (hZ : Z.Warmed39 s.vm) (eT : T.heap = h) {x w : Int32} (A : Ary Z h a .boolean n (fun i => .int (F i))) (h0 : 0 ≤ j.toInt) (h1 : j.toInt < n) (hn : nar .boolean x = w) (hd : decode c.code pc = .ok (.bastore, 1)) (hp : pc + 1 = pc')
    (r : ∀ (T' : State) (h' : Heap), Stand p l e R s m args below meth c T' (locs ++ [⟨a, j.toNatClampNeg⟩]) cells slots → T'.heap = h' → Wr h h' a j.toNatClampNeg (.int w) → Ary Z h' a .boolean n (fun i => .int (if i = j.toInt.toNat then w else F i)) → Run p e below Q En T' (mkF m pc' Ls rest)) : Run p e below Q En T (mkF m pc Ls (.int x :: .int j :: .ref a :: rest)) := by
  subst hn
  have A' := A
  obtain ⟨cl, A, r1, r2⟩ := A
  exact r_bastoreZ X hx hZ eT A (own_inb r1 h0 h1) hd hp fun T' h' X' e' W' => r T' h' X' e' W' (A'.setI W')
end Arrays
section Facts2
variable {Z : State} {h h' h0 : Heap} {ws : List Addr} {C n d : String} {v : Value} {a b : Addr}
theorem own_staKeep (F : Sta Z h C n d v) (K : Keep h h' ws) (q : ∀ x ∈ ws, ∃ c : Cell, h[x]? = some c ∧ c.vm.isStatics = false) : Sta Z h' C n d v := by
  obtain ⟨cf, i, k, f, st, cell, h1, h2, h3, h4, h5, h6, h7⟩ := F
  refine ⟨cf, i, k, f, st, cell, h1, h2, h3, h4, K.2.1 st cell h5 fun m => ?_, h6, h7⟩
  obtain ⟨c, e1, e2⟩ := q _ m
  cases h5.symm.trans e1
  rw [e2] at h6; cases h6
theorem own_exaS (E : Exa Z h a C) : ∃ c : Cell, h[a]? = some c ∧ c.vm.isStatics = false := by
  obtain ⟨c, _, h1, -, -, h4, -⟩ := E; exact ⟨c, h1, h4⟩
theorem own_arrS {c : Cell} {ty : FieldType} (A : Arr Z h a c ty) : ∃ c : Cell, h[a]? = some c ∧ c.vm.isStatics = false := ⟨c, A.1, A.plain⟩
theorem own_aryS {ty : FieldType} {m : Nat} {f : Nat → Value} (A : Ary Z h a ty m f) : ∃ c : Cell, h[a]? = some c ∧ c.vm.isStatics = false := by
  obtain ⟨c, A, -⟩ := A; exact own_arrS A
theorem own_staExt (F : Sta Z h C n d v) (E : Ext h h') : Sta Z h' C n d v := Sta.ext E F
theorem own_kext {E : Ext h h'} : Keep h h' [] := ⟨E.1, fun x c q _ => E.2 x c q, fun x c q => ⟨c, E.2 x c q, rfl, rfl, rfl⟩⟩
end Facts2
theorem own_sa {Z : State} {a0 : Array Value} (hw : ∀ d ∈ tables_1, d.before a0 Z = true) : ∀ a ∈ Bundle.stringAtoms, a.before a0 Z = true := by
  intro a ha
  simp only [Bundle.stringAtoms, List.mem_cons, List.not_mem_nil, or_false] at ha
  rcases ha with rfl | rfl | rfl | rfl | rfl | rfl | rfl
  · exact hw _ (List.mem_of_getElem? (i := 12) rfl)
  · exact hw _ (List.mem_of_getElem? (i := 13) rfl)
  · exact hw _ (List.mem_of_getElem? (i := 4) rfl)
  · exact hw _ (List.mem_of_getElem? (i := 14) rfl)
  · exact hw _ (List.mem_of_getElem? (i := 15) rfl)
  · exact hw _ (List.mem_of_getElem? (i := 16) rfl)
  · exact hw _ (List.mem_of_getElem? (i := 17) rfl)
theorem own_ord {t : Term} {k : Int32} {args : Array Value} {Z : State} {a : Addr} (ev : t.eval args Z none [] Z = some (.ref a)) (h : (Jvm.Cond.eq (.field t "java/lang/Enum" "ordinal" "I") (.int k)).value args Z none Z [] = some true) : Z.fieldOf? a "java/lang/Enum" "ordinal" "I" = some (.int k) := by
  have e := fld_at (C := "java/lang/Enum") (n := "ordinal") (dd := "I") ev
  have e2 : (Term.int k).eval args Z none [] Z = some (.int k) := rfl
  cases hf : Z.fieldOf? a "java/lang/Enum" "ordinal" "I" with
  | none => rw [hf] at e; simp [Cond.value, e, e2] at h
  | some w => rw [hf] at e; cases w <;> simp [Cond.value, e, e2] at h <;> simp [h]
theorem own_en {args : Array Value} {Z : State} {C n d : String} (hx : (Jvm.Cond.exactly (.static C n d) C).value args Z none Z [] = some true) (w1 : (Jvm.Cond.initialized C).before args Z = true) (w2 : (Jvm.Cond.laysStatic C n d).before args Z = true) : ∃ a, (Term.static C n d).eval args Z none [] Z = some (.ref a) ∧ Sta Z Z.heap C n d (.ref a) ∧ Exa Z Z.heap a C := by
  obtain ⟨a, ev⟩ := exa_v hx
  exact ⟨a, ev, Sta.start ev (Or.inr ⟨w1, w2⟩), Exa.start ev hx⟩
theorem own_inj {Z : State} {E : Nat → Addr} {N : Nat} (hN : N < 1000) (ho : ∀ k, k < N → Z.fieldOf? (E k) "java/lang/Enum" "ordinal" "I" = some (.int (Int32.ofInt (k : Int)))) : ∀ i j, i < N → j < N → E i = E j → i = j := by
  intro i j hi hj q
  have h1 := ho i hi
  rw [q, ho j hj] at h1
  have h2 : Int32.ofInt (j : Int) = Int32.ofInt (i : Int) := by injection h1 with h1; injection h1
  have h3 := congrArg Int32.toInt h2
  rw [Int32.toInt_ofInt_of_le (by omega) (by omega), Int32.toInt_ofInt_of_le (by omega) (by omega)] at h3
  omega
theorem own_pos (x : Int32) : 0 ≤ (x &&& 2147483647).toInt := by
  have := (c_andS x 2147483647).2.2 (by decide)
  exact this
theorem own_rem (x y : Int32) (d : Int) (hy : y.toInt = d) (hd : 0 < d) : 0 ≤ ((x &&& 2147483647) % y).toInt ∧ ((x &&& 2147483647) % y).toInt < d := by
  have h := (c_irem (x &&& 2147483647) y d hy).1 (own_pos x)
  rw [h]
  exact ⟨Int.emod_nonneg _ (by omega), Int.emod_lt_of_pos _ hd⟩

theorem own_nbb (x : Int32) : nar .byte (x.toInt8.toInt32) = x.toInt8.toInt32 := by simp [nar]
def own_sp (b : Int32) : Int64 := if b = 34 ∨ b = 92 then 1 else 0
def own_si (b : Int32) : Int32 := if b = 34 ∨ b = 92 then 1 else 0
theorem own_ssz (b : Int32) (h : own_si b = 0) (z : Int64) : z = z + own_sp b := by
  have q : ¬ (b = 34 ∨ b = 92) := fun q => by simp [own_si, q] at h
  simp [own_sp, q]
theorem own_sso (b : Int32) (h : ¬ own_si b = 0) (z : Int64) : z + 1 = z + own_sp b := by
  have q : b = 34 ∨ b = 92 := by
    by_cases q : b = 34 ∨ b = 92
    · exact q
    · exact absurd (by simp [own_si, q]) h
  simp [own_sp, q]
theorem own_ri (x : Int32) : -2147483648 ≤ x.toInt ∧ x.toInt ≤ 2147483647 := by
  have h1 := Int32.minValue_le_toInt x
  have h2 := Int32.toInt_le x
  have e1 : Int32.minValue.toInt = -2147483648 := by decide
  have e2 : Int32.maxValue.toInt = 2147483647 := by decide
  omega
theorem own_l5 (s : Int32) : ((s &&& 7) % 5) = 0 ∨ ((s &&& 7) % 5) = 1 ∨ ((s &&& 7) % 5) = 2 ∨ ((s &&& 7) % 5) = 3 ∨ ((s &&& 7) % 5) = 4 := by
  have h := c_and s 7 (by decide)
  have r := (c_irem (s &&& 7) 5 5 rfl).1 h.1
  have q : ((s &&& 7) % 5).toInt = 0 ∨ ((s &&& 7) % 5).toInt = 1 ∨ ((s &&& 7) % 5).toInt = 2 ∨ ((s &&& 7) % 5).toInt = 3 ∨ ((s &&& 7) % 5).toInt = 4 := by omega
  rcases q with q | q | q | q | q
  · exact Or.inl (Int32.toInt_inj.mp q)
  · exact Or.inr (Or.inl (Int32.toInt_inj.mp q))
  · exact Or.inr (Or.inr (Or.inl (Int32.toInt_inj.mp q)))
  · exact Or.inr (Or.inr (Or.inr (Or.inl (Int32.toInt_inj.mp q))))
  · exact Or.inr (Or.inr (Or.inr (Or.inr (Int32.toInt_inj.mp q))))
theorem d1_0 : decode method_3_code 0 = .ok (.iload_n 2, 1) := by decide +kernel
theorem d1_1 : decode method_3_code 1 = .ok (.iconst 2, 1) := by decide +kernel
theorem d1_2 : decode method_3_code 2 = .ok (.iload_n 3, 1) := by decide +kernel
theorem d1_3 : decode method_3_code 3 = .ok (.imul, 1) := by decide +kernel
theorem d1_4 : decode method_3_code 4 = .ok (.iushr, 1) := by decide +kernel
theorem d1_5 : decode method_3_code 5 = .ok (.iconst 3, 1) := by decide +kernel
theorem d1_6 : decode method_3_code 6 = .ok (.iand, 1) := by decide +kernel
theorem d1_7 : decode method_3_code 7 = .ok (.istore 4, 2) := by decide +kernel
theorem d1_9 : decode method_3_code 9 = .ok (.iload 4, 2) := by decide +kernel
theorem d1_11 : decode method_3_code 11 = .ok (.ifCond .ne 6, 3) := by decide +kernel
theorem d1_17 : decode method_3_code 17 = .ok (.iload 4, 2) := by decide +kernel
theorem d1_19 : decode method_3_code 19 = .ok (.iconst 1, 1) := by decide +kernel
theorem d1_20 : decode method_3_code 20 = .ok (.if_icmp .ne 6, 3) := by decide +kernel
theorem d1_26 : decode method_3_code 26 = .ok (.lload_n 0, 1) := by decide +kernel
theorem d1_27 : decode method_3_code 27 = .ok (.bipush 8, 2) := by decide +kernel
theorem d1_29 : decode method_3_code 29 = .ok (.iload_n 3, 1) := by decide +kernel
theorem d1_30 : decode method_3_code 30 = .ok (.imul, 1) := by decide +kernel
theorem d1_31 : decode method_3_code 31 = .ok (.lushr, 1) := by decide +kernel
theorem d1_32 : decode method_3_code 32 = .ok (.l2i, 1) := by decide +kernel
theorem d1_33 : decode method_3_code 33 = .ok (.i2b, 1) := by decide +kernel
theorem d1_34 : decode method_3_code 34 = .ok (.ireturn, 1) := by decide +kernel
theorem d1_23 : decode method_3_code 23 = .ok (.bipush 92, 2) := by decide +kernel
theorem d1_25 : decode method_3_code 25 = .ok (.ireturn, 1) := by decide +kernel
theorem d1_14 : decode method_3_code 14 = .ok (.bipush 34, 2) := by decide +kernel
theorem d1_16 : decode method_3_code 16 = .ok (.ireturn, 1) := by decide +kernel
theorem pn_0 : plainName "com/example/lockstep/lockstep/RowSetArraySizePinLaw" = true := by first | (simp [plainName, overriddenIn]; done) | decide +kernel
theorem ef_rmP (m : MethodId) (x0 : Int64) (x1 : Int32) (x2 : Int32) : entryFrame m #[(.long x0), (.int x1), (.int x2)] 5 = mkF m 0 #[.val (.long x0), .second, .val (.int x1), .val (.int x2), .unset] [] := by first | (simp [entryFrame, mkF, argsToLocals, Value.category, maxLocals]; done) | rfl
set_option maxRecDepth 65536 in
set_option maxHeartbeats 40000000 in
theorem rmP (l : Launch) (Z : State) (a0 : Array Value) (hw : ∀ d ∈ tables_1, d.before a0 Z = true) (ws : List Jvm.Cond) (raw : Int64) (sel i : Int32) (h0 : Heap) (n0 : Nat) (Z0 : n0 ≤ h0.size)  :
    Met l Z (⟨"com/example/lockstep/lockstep/RowSetArraySizePinLaw", "pick", "(JII)B"⟩ : MethodName) method_3_code 5 (some .byte) ws ({ frames := 0, cells := 0, slots := 0, locals := 0 } : Room) #[(.long raw), (.int sel), (.int i)] h0 (fun v h L => ∃ z : Int32, v = some (.int z) ∧ Fr n0 L ∧ h = h0 ∧ nar .byte z = z) 0 0 := by
  refine met_of (plainFor_of_name pn_0) (f0 := fun m => (mkF m 0 #[.val (.long raw), .second, .val (.int sel), .val (.int i), .unset] [])) (fun m => ef_rmP m raw sel i) ?_
  intro p e s m below meth c s₁ X0 hx hby hml hret hlk hown hnm hZ e0
  replace hown : s.vm.findClass "com/example/lockstep/lockstep/RowSetArraySizePinLaw" = some m.cls := hown
  have N0 := Fr.nil n0
  refine r_iloadN X0.here hx (hb hby d1_0) rfl (pc' := 1) rfl ?_
  refine r_iconst X0.here hx (hb hby d1_1) (v := 2) rfl (pc' := 2) rfl ?_
  refine r_iloadN X0.here hx (hb hby d1_2) rfl (pc' := 3) rfl ?_
  refine r_imul X0.here hx (hb hby d1_3) (pc' := 4) rfl ?_
  refine r_iushr X0.here hx (hb hby d1_4) (pc' := 5) rfl ?_
  refine r_iconst X0.here hx (hb hby d1_5) (v := 3) rfl (pc' := 6) rfl ?_
  refine r_iand X0.here hx (hb hby d1_6) (pc' := 7) rfl ?_
  refine r_istore X0.here hx (hb hby d1_7) (l' := #[.val (.long raw), .second, .val (.int sel), .val (.int i), .val (.int ((ushrI sel ((2 : Int32) * i)) &&& (3 : Int32)))]) rfl (pc' := 9) rfl ?_
  refine r_iload X0.here hx (hb hby d1_9) rfl (pc' := 11) rfl ?_
  refine r_if0_ne X0.here hx (hb hby d1_11) (by decide) (pc' := 17) (by decide) (pc2 := 14) rfl (fun hc11 => ?_) (fun hc11 => ?_)
  · refine r_iload X0.here hx (hb hby d1_17) rfl (pc' := 19) rfl ?_
    refine r_iconst X0.here hx (hb hby d1_19) (v := 1) rfl (pc' := 20) rfl ?_
    refine r_if_ne X0.here hx (hb hby d1_20) (by decide) (pc' := 26) (by decide) (pc2 := 23) rfl (fun hc20 => ?_) (fun hc20 => ?_)
    · refine r_lloadN X0.here hx (hb hby d1_26) rfl (pc' := 27) rfl ?_
      refine r_bipush X0.here hx (hb hby d1_27) (v := 8) rfl (pc' := 29) rfl ?_
      refine r_iloadN X0.here hx (hb hby d1_29) rfl (pc' := 30) rfl ?_
      refine r_imul X0.here hx (hb hby d1_30) (pc' := 31) rfl ?_
      refine r_lushr X0.here hx (hb hby d1_31) (pc' := 32) rfl ?_
      refine r_l2i X0.here hx (hb hby d1_32) (pc' := 33) rfl ?_
      refine r_i2b X0.here hx (hb hby d1_33) (pc' := 34) rfl ?_
      refine r_retN X0 hx hlk hret (by simp) (hb hby d1_34) (w := (((ushrJ raw ((8 : Int32) * i)).toInt32).toInt8.toInt32)) (own_nbb _) ?_ (by decide) (by decide)
      try rw [e0]
      exact ⟨_, rfl, N0, rfl, own_nbb _⟩
    · refine r_bipush X0.here hx (hb hby d1_23) (v := 92) rfl (pc' := 25) rfl ?_
      refine r_retN X0 hx hlk hret (by simp) (hb hby d1_25) (w := (92 : Int32)) rfl ?_ (by decide) (by decide)
      try rw [e0]
      exact ⟨_, rfl, N0, rfl, rfl⟩
  · refine r_bipush X0.here hx (hb hby d1_14) (v := 34) rfl (pc' := 16) rfl ?_
    refine r_retN X0 hx hlk hret (by simp) (hb hby d1_16) (w := (34 : Int32)) rfl ?_ (by decide) (by decide)
    try rw [e0]
    exact ⟨_, rfl, N0, rfl, rfl⟩
theorem d5_0 : decode method_4_code 0 = .ok (.iload_n 0, 1) := by decide +kernel
theorem d5_1 : decode method_4_code 1 = .ok (.bipush 34, 2) := by decide +kernel
theorem d5_3 : decode method_4_code 3 = .ok (.if_icmp .eq 9, 3) := by decide +kernel
theorem d5_12 : decode method_4_code 12 = .ok (.iconst 1, 1) := by decide +kernel
theorem d5_13 : decode method_4_code 13 = .ok (.goto 4, 3) := by decide +kernel
theorem d5_17 : decode method_4_code 17 = .ok (.ireturn, 1) := by decide +kernel
theorem d5_6 : decode method_4_code 6 = .ok (.iload_n 0, 1) := by decide +kernel
theorem d5_7 : decode method_4_code 7 = .ok (.bipush 92, 2) := by decide +kernel
theorem d5_9 : decode method_4_code 9 = .ok (.if_icmp .ne 7, 3) := by decide +kernel
theorem d5_16 : decode method_4_code 16 = .ok (.iconst 0, 1) := by decide +kernel
theorem ef_rmS (m : MethodId) (x0 : Int32) : entryFrame m #[(.int x0)] 1 = mkF m 0 #[.val (.int x0)] [] := by first | (simp [entryFrame, mkF, argsToLocals, Value.category, maxLocals]; done) | rfl
set_option maxRecDepth 65536 in
set_option maxHeartbeats 40000000 in
theorem rmS (l : Launch) (Z : State) (a0 : Array Value) (hw : ∀ d ∈ tables_1, d.before a0 Z = true) (ws : List Jvm.Cond) (b : Int32) (h0 : Heap) (n0 : Nat) (Z0 : n0 ≤ h0.size)  :
    Met l Z (⟨"com/example/lockstep/lockstep/RowSetArraySizePinLaw", "special", "(B)Z"⟩ : MethodName) method_4_code 1 (some .boolean) ws ({ frames := 0, cells := 0, slots := 0, locals := 0 } : Room) #[(.int b)] h0 (fun v h L => v = some (.int (own_si b)) ∧ Fr n0 L ∧ h = h0) 0 0 := by
  refine met_of (plainFor_of_name pn_0) (f0 := fun m => (mkF m 0 #[.val (.int b)] [])) (fun m => ef_rmS m b) ?_
  intro p e s m below meth c s₁ X0 hx hby hml hret hlk hown hnm hZ e0
  replace hown : s.vm.findClass "com/example/lockstep/lockstep/RowSetArraySizePinLaw" = some m.cls := hown
  have N0 := Fr.nil n0
  refine r_iloadN X0.here hx (hb hby d5_0) rfl (pc' := 1) rfl ?_
  refine r_bipush X0.here hx (hb hby d5_1) (v := 34) rfl (pc' := 3) rfl ?_
  refine r_if_eq X0.here hx (hb hby d5_3) (by decide) (pc' := 12) (by decide) (pc2 := 6) rfl (fun hc3 => ?_) (fun hc3 => ?_)
  · refine r_iconst X0.here hx (hb hby d5_12) (v := 1) rfl (pc' := 13) rfl ?_
    refine r_goto X0.here hx (hb hby d5_13) (by decide) (pc' := 17) (by decide) ?_
    refine r_retN X0 hx hlk hret (by simp) (hb hby d5_17) (w := (1 : Int32)) rfl ?_ (by decide) (by decide)
    try rw [e0]
    exact ⟨by simp [own_si, hc3], N0, rfl⟩
  · refine r_iloadN X0.here hx (hb hby d5_6) rfl (pc' := 7) rfl ?_
    refine r_bipush X0.here hx (hb hby d5_7) (v := 92) rfl (pc' := 9) rfl ?_
    refine r_if_ne X0.here hx (hb hby d5_9) (by decide) (pc' := 16) (by decide) (pc2 := 12) rfl (fun hc9 => ?_) (fun hc9 => ?_)
    · refine r_iconst X0.here hx (hb hby d5_16) (v := 0) rfl (pc' := 17) rfl ?_
      refine r_retN X0 hx hlk hret (by simp) (hb hby d5_17) (w := (0 : Int32)) rfl ?_ (by decide) (by decide)
      try rw [e0]
      exact ⟨by simp [own_si, hc3, hc9], N0, rfl⟩
    · refine r_iconst X0.here hx (hb hby d5_12) (v := 1) rfl (pc' := 13) rfl ?_
      refine r_goto X0.here hx (hb hby d5_13) (by decide) (pc' := 17) (by decide) ?_
      refine r_retN X0 hx hlk hret (by simp) (hb hby d5_17) (w := (1 : Int32)) rfl ?_ (by decide) (by decide)
      try rw [e0]
      exact ⟨by simp [own_si, hc3, hc9], N0, rfl⟩
theorem d3_0 : decode jdk_30_method_1_code 0 = .ok (.aload_n 0, 1) := by decide +kernel
theorem d3_1 : decode jdk_30_method_1_code 1 = .ok (.invokespecial 1, 3) := by decide +kernel
theorem d3_4 : decode jdk_30_method_1_code 4 = .ok (.return_, 1) := by decide +kernel
theorem pn_1 : plainName "java/lang/Record" = true := by first | (simp [plainName, overriddenIn]; done) | decide +kernel
theorem ef_rmR (m : MethodId) (x0 : Addr) : entryFrame m #[(.ref x0)] 1 = mkF m 0 #[.val (.ref x0)] [] := by first | (simp [entryFrame, mkF, argsToLocals, Value.category, maxLocals]; done) | rfl
set_option maxRecDepth 65536 in
set_option maxHeartbeats 40000000 in
theorem rmR (l : Launch) (Z : State) (a0 : Array Value) (hw : ∀ d ∈ tables_1, d.before a0 Z = true) (ws : List Jvm.Cond) (a : Addr) (h0 : Heap) (n0 : Nat) (Z0 : n0 ≤ h0.size)  :
    Met l Z (⟨"java/lang/Record", "<init>", "()V"⟩ : MethodName) jdk_30_method_1_code 1 none ws ({ frames := 1, cells := 0, slots := 0, locals := 12 } : Room) #[(.ref a)] h0 (fun v h L => v = none ∧ Fr n0 L ∧ h = h0) 0 0 := by
  refine met_of (plainFor_of_name pn_1) (f0 := fun m => (mkF m 0 #[.val (.ref a)] [])) (fun m => ef_rmR m a) ?_
  intro p e s m below meth c s₁ X0 hx hby hml hret hlk hown hnm hZ e0
  replace hown : s.vm.findClass "java/lang/Record" = some m.cls := hown
  have N0 := Fr.nil n0
  refine r_aloadN X0.here hx (hb hby d3_0) rfl rfl (pc' := 1) rfl ?_
  refine r_initO X0 hx hZ hown (hw _ (List.mem_of_getElem? (i := 27) rfl)) (hw _ (List.mem_of_getElem? (i := 28) rfl)) (hw _ (List.mem_of_getElem? (i := 29) rfl)) e0 (by rw [hml]; rfl) (by decide) (W := 0) rfl (by decide) (hb hby d3_1) (pc' := 4) rfl (fun T1 X1 e1 => ?_)
  refine r_ret0 X1 hx hlk hret (hb hby d3_4) ?_ (by decide) (by decide)
  try rw [e1]
  exact ⟨rfl, N0, rfl⟩
theorem d2_0 : decode prog_49_method_1_code 0 = .ok (.aload_n 0, 1) := by decide +kernel
theorem d2_1 : decode prog_49_method_1_code 1 = .ok (.invokespecial 1, 3) := by decide +kernel
theorem pd_0 : parseMethodDescriptor "()V" = some ⟨[], none⟩ := by decide +kernel
theorem d2_4 : decode prog_49_method_1_code 4 = .ok (.aload_n 0, 1) := by decide +kernel
theorem d2_5 : decode prog_49_method_1_code 5 = .ok (.aload_n 1, 1) := by decide +kernel
theorem d2_6 : decode prog_49_method_1_code 6 = .ok (.putfield 7, 3) := by decide +kernel
theorem d2_9 : decode prog_49_method_1_code 9 = .ok (.aload_n 0, 1) := by decide +kernel
theorem d2_10 : decode prog_49_method_1_code 10 = .ok (.aload_n 2, 1) := by decide +kernel
theorem d2_11 : decode prog_49_method_1_code 11 = .ok (.putfield 13, 3) := by decide +kernel
theorem d2_14 : decode prog_49_method_1_code 14 = .ok (.aload_n 0, 1) := by decide +kernel
theorem d2_15 : decode prog_49_method_1_code 15 = .ok (.aload_n 3, 1) := by decide +kernel
theorem d2_16 : decode prog_49_method_1_code 16 = .ok (.putfield 16, 3) := by decide +kernel
theorem d2_19 : decode prog_49_method_1_code 19 = .ok (.aload_n 0, 1) := by decide +kernel
theorem d2_20 : decode prog_49_method_1_code 20 = .ok (.iload 4, 2) := by decide +kernel
theorem d2_22 : decode prog_49_method_1_code 22 = .ok (.putfield 20, 3) := by decide +kernel
theorem d2_25 : decode prog_49_method_1_code 25 = .ok (.aload_n 0, 1) := by decide +kernel
theorem d2_26 : decode prog_49_method_1_code 26 = .ok (.aload 5, 2) := by decide +kernel
theorem d2_28 : decode prog_49_method_1_code 28 = .ok (.putfield 24, 3) := by decide +kernel
theorem d2_31 : decode prog_49_method_1_code 31 = .ok (.return_, 1) := by decide +kernel
theorem pn_2 : plainName "com/example/lockstep/lockstep/Writeset$RowSet" = true := by first | (simp [plainName, overriddenIn]; done) | decide +kernel
theorem ef_rmI (m : MethodId) (x0 : Addr) (x1 : Addr) (x2 : Addr) (x3 : Addr) (x4 : Int32) (x5 : Addr) : entryFrame m #[(.ref x0), (.ref x1), (.ref x2), (.ref x3), (.int x4), (.ref x5)] 6 = mkF m 0 #[.val (.ref x0), .val (.ref x1), .val (.ref x2), .val (.ref x3), .val (.int x4), .val (.ref x5)] [] := by first | (simp [entryFrame, mkF, argsToLocals, Value.category, maxLocals]; done) | rfl
set_option maxRecDepth 65536 in
set_option maxHeartbeats 40000000 in
theorem rmI (l : Launch) (Z : State) (a0 : Array Value) (hw : ∀ d ∈ tables_1, d.before a0 Z = true) (ws : List Jvm.Cond) (a s1 s2 op : Addr) (cnt : Int32) (t : Addr) (h0 : Heap) (n0 : Nat) (Z0 : n0 ≤ h0.size) (ga : n0 ≤ a) (Ea : Exa Z h0 a "com/example/lockstep/lockstep/Writeset$RowSet") (F_schema : Fld Z h0 a "com/example/lockstep/lockstep/Writeset$RowSet" "schema" "Ljava/lang/String;" .null) (F_table : Fld Z h0 a "com/example/lockstep/lockstep/Writeset$RowSet" "table" "Ljava/lang/String;" .null) (F_operation : Fld Z h0 a "com/example/lockstep/lockstep/Writeset$RowSet" "operation" "Lcom/example/lockstep/lockstep/Writeset$Operation;" .null) (F_count : Fld Z h0 a "com/example/lockstep/lockstep/Writeset$RowSet" "count" "I" (.int (0 : Int32))) (F_texts : Fld Z h0 a "com/example/lockstep/lockstep/Writeset$RowSet" "texts" "[B" .null) :
    Met l Z (⟨"com/example/lockstep/lockstep/Writeset$RowSet", "<init>", "(Ljava/lang/String;Ljava/lang/String;Lcom/example/lockstep/lockstep/Writeset$Operation;I[B)V"⟩ : MethodName) prog_49_method_1_code 6 none ws ({ frames := 2, cells := 0, slots := 0, locals := 24 } : Room) #[(.ref a), (.ref s1), (.ref s2), (.ref op), (.int cnt), (.ref t)] h0 (fun v h L => v = none ∧ Fr n0 L ∧ Keep h0 h [a] ∧ Fld Z h a "com/example/lockstep/lockstep/Writeset$RowSet" "count" "I" (.int cnt) ∧ Fld Z h a "com/example/lockstep/lockstep/Writeset$RowSet" "texts" "[B" (.ref t)) 0 0 := by
  refine met_of (plainFor_of_name pn_2) (f0 := fun m => (mkF m 0 #[.val (.ref a), .val (.ref s1), .val (.ref s2), .val (.ref op), .val (.int cnt), .val (.ref t)] [])) (fun m => ef_rmI m a s1 s2 op cnt t) ?_
  intro p e s m below meth c s₁ X0 hx hby hml hret hlk hown hnm hZ e0
  replace hown : s.vm.findClass "com/example/lockstep/lockstep/Writeset$RowSet" = some m.cls := hown
  have N0 := Fr.nil n0
  refine r_aloadN X0.here hx (hb hby d2_0) rfl rfl (pc' := 1) rfl ?_
  refine r_callI X0 hx hZ (y := (⟨"java/lang/Record", "<init>", "()V"⟩ : MethodName)) (rm := ({ frames := 1, cells := 0, slots := 0, locals := 12 } : Room)) hown rfl (hw _ (List.mem_of_getElem? (i := 22) rfl)) (hw _ (List.mem_of_getElem? (i := 23) rfl)) (hw _ (List.mem_of_getElem? (i := 25) rfl)) (hw _ (List.mem_of_getElem? (i := 26) rfl)) (by decide) (rmR l Z a0 hw [] a h0 n0 Z0) e0 (by rw [hml]; rfl) (argsL := []) (rest := []) (lenOf pd_0 rfl) rfl rfl (W := 0) rfl (by decide) (by decide) (by decide) (by decide) (hb hby d2_1) (pc' := 4) rfl ?_
  rintro v2 T2 L2 X2 ⟨rfl, Nq2, e2⟩
  have N2 := Fr.app N0 Nq2
  show Run p e below _ _ T2 (mkF m 4 #[.val (.ref a), .val (.ref s1), .val (.ref s2), .val (.ref op), .val (.int cnt), .val (.ref t)] [])
  refine r_aloadN X2.here hx (hb hby d2_4) rfl rfl (pc' := 5) rfl ?_
  refine r_aloadN X2.here hx (hb hby d2_5) rfl rfl (pc' := 6) rfl ?_
  refine r_putF X2 hx hZ hown (hw _ (List.mem_of_getElem? (i := 30) rfl)) Via.refl e2 F_schema Ea (Or.inr ⟨(hw _ (List.mem_of_getElem? (i := 31) rfl)), rfl, hnm⟩) (hw _ (List.mem_of_getElem? (i := 9) rfl)) (ty := (.object "java/lang/String")) (by decide) rfl rfl (hb hby d2_6) (pc' := 9) rfl (fun T3 h3 X3 e3 W3 => ?_)
  have f4 := F_schema.same W3
  have K5 : Keep h0 h0 [a] := Keep.refl _ _
  have K6 := K5.wr W3 (Or.inl (List.mem_of_getElem? (i := 0) rfl))
  have f7 := Ea.wr W3
  have f8 := F_table.other W3 (Or.inr (slot_ne (Or.inr (hw _ (List.mem_of_getElem? (i := 33) rfl)) : Laid Z a0 "com/example/lockstep/lockstep/Writeset$RowSet" "com/example/lockstep/lockstep/Writeset$RowSet" "table" "Ljava/lang/String;") (Or.inr (hw _ (List.mem_of_getElem? (i := 31) rfl)) : Laid Z a0 "com/example/lockstep/lockstep/Writeset$RowSet" "com/example/lockstep/lockstep/Writeset$RowSet" "schema" "Ljava/lang/String;") (by decide) (t := (.object "java/lang/String")) (t' := (.object "java/lang/String")) (by decide) (by decide)))
  have f9 := F_operation.other W3 (Or.inr (slot_ne (Or.inr (hw _ (List.mem_of_getElem? (i := 35) rfl)) : Laid Z a0 "com/example/lockstep/lockstep/Writeset$RowSet" "com/example/lockstep/lockstep/Writeset$RowSet" "operation" "Lcom/example/lockstep/lockstep/Writeset$Operation;") (Or.inr (hw _ (List.mem_of_getElem? (i := 31) rfl)) : Laid Z a0 "com/example/lockstep/lockstep/Writeset$RowSet" "com/example/lockstep/lockstep/Writeset$RowSet" "schema" "Ljava/lang/String;") (by decide) (t := (.object "com/example/lockstep/lockstep/Writeset$Operation")) (t' := (.object "java/lang/String")) (by decide) (by decide)))
  have f10 := F_count.other W3 (Or.inr (slot_ne (Or.inr (hw _ (List.mem_of_getElem? (i := 37) rfl)) : Laid Z a0 "com/example/lockstep/lockstep/Writeset$RowSet" "com/example/lockstep/lockstep/Writeset$RowSet" "count" "I") (Or.inr (hw _ (List.mem_of_getElem? (i := 31) rfl)) : Laid Z a0 "com/example/lockstep/lockstep/Writeset$RowSet" "com/example/lockstep/lockstep/Writeset$RowSet" "schema" "Ljava/lang/String;") (by decide) (t := .int) (t' := (.object "java/lang/String")) (by decide) (by decide)))
  have f11 := F_texts.other W3 (Or.inr (slot_ne (Or.inr (hw _ (List.mem_of_getElem? (i := 39) rfl)) : Laid Z a0 "com/example/lockstep/lockstep/Writeset$RowSet" "com/example/lockstep/lockstep/Writeset$RowSet" "texts" "[B") (Or.inr (hw _ (List.mem_of_getElem? (i := 31) rfl)) : Laid Z a0 "com/example/lockstep/lockstep/Writeset$RowSet" "com/example/lockstep/lockstep/Writeset$RowSet" "schema" "Ljava/lang/String;") (by decide) (t := (.array .byte)) (t' := (.object "java/lang/String")) (by decide) (by decide)))
  have Z12 : n0 ≤ h3.size := by have q := Z0; rw [W3.size]; exact q
  have N3 := Fr.snoc X3 N2 ga
  refine r_aloadN X3.here hx (hb hby d2_9) rfl rfl (pc' := 10) rfl ?_
  refine r_aloadN X3.here hx (hb hby d2_10) rfl rfl (pc' := 11) rfl ?_
  refine r_putF X3 hx hZ hown (hw _ (List.mem_of_getElem? (i := 32) rfl)) Via.refl e3 f8 f7 (Or.inr ⟨(hw _ (List.mem_of_getElem? (i := 33) rfl)), rfl, hnm⟩) (hw _ (List.mem_of_getElem? (i := 9) rfl)) (ty := (.object "java/lang/String")) (by decide) rfl rfl (hb hby d2_11) (pc' := 14) rfl (fun T13 h13 X13 e13 W13 => ?_)
  have f14 := f8.same W13
  have K15 := K6.wr W13 (Or.inl (List.mem_of_getElem? (i := 0) rfl))
  have f16 := f7.wr W13
  have f17 := f9.other W13 (Or.inr (slot_ne (Or.inr (hw _ (List.mem_of_getElem? (i := 35) rfl)) : Laid Z a0 "com/example/lockstep/lockstep/Writeset$RowSet" "com/example/lockstep/lockstep/Writeset$RowSet" "operation" "Lcom/example/lockstep/lockstep/Writeset$Operation;") (Or.inr (hw _ (List.mem_of_getElem? (i := 33) rfl)) : Laid Z a0 "com/example/lockstep/lockstep/Writeset$RowSet" "com/example/lockstep/lockstep/Writeset$RowSet" "table" "Ljava/lang/String;") (by decide) (t := (.object "com/example/lockstep/lockstep/Writeset$Operation")) (t' := (.object "java/lang/String")) (by decide) (by decide)))
  have f18 := f10.other W13 (Or.inr (slot_ne (Or.inr (hw _ (List.mem_of_getElem? (i := 37) rfl)) : Laid Z a0 "com/example/lockstep/lockstep/Writeset$RowSet" "com/example/lockstep/lockstep/Writeset$RowSet" "count" "I") (Or.inr (hw _ (List.mem_of_getElem? (i := 33) rfl)) : Laid Z a0 "com/example/lockstep/lockstep/Writeset$RowSet" "com/example/lockstep/lockstep/Writeset$RowSet" "table" "Ljava/lang/String;") (by decide) (t := .int) (t' := (.object "java/lang/String")) (by decide) (by decide)))
  have f19 := f11.other W13 (Or.inr (slot_ne (Or.inr (hw _ (List.mem_of_getElem? (i := 39) rfl)) : Laid Z a0 "com/example/lockstep/lockstep/Writeset$RowSet" "com/example/lockstep/lockstep/Writeset$RowSet" "texts" "[B") (Or.inr (hw _ (List.mem_of_getElem? (i := 33) rfl)) : Laid Z a0 "com/example/lockstep/lockstep/Writeset$RowSet" "com/example/lockstep/lockstep/Writeset$RowSet" "table" "Ljava/lang/String;") (by decide) (t := (.array .byte)) (t' := (.object "java/lang/String")) (by decide) (by decide)))
  have f20 := f4.other W13 (Or.inr (slot_ne (Or.inr (hw _ (List.mem_of_getElem? (i := 31) rfl)) : Laid Z a0 "com/example/lockstep/lockstep/Writeset$RowSet" "com/example/lockstep/lockstep/Writeset$RowSet" "schema" "Ljava/lang/String;") (Or.inr (hw _ (List.mem_of_getElem? (i := 33) rfl)) : Laid Z a0 "com/example/lockstep/lockstep/Writeset$RowSet" "com/example/lockstep/lockstep/Writeset$RowSet" "table" "Ljava/lang/String;") (by decide) (t := (.object "java/lang/String")) (t' := (.object "java/lang/String")) (by decide) (by decide)))
  have Z21 : n0 ≤ h13.size := by have q := Z12; rw [W13.size]; exact q
  have N13 := Fr.snoc X13 N3 ga
  refine r_aloadN X13.here hx (hb hby d2_14) rfl rfl (pc' := 15) rfl ?_
  refine r_aloadN X13.here hx (hb hby d2_15) rfl rfl (pc' := 16) rfl ?_
  refine r_putF X13 hx hZ hown (hw _ (List.mem_of_getElem? (i := 34) rfl)) Via.refl e13 f17 f16 (Or.inr ⟨(hw _ (List.mem_of_getElem? (i := 35) rfl)), rfl, hnm⟩) (hw _ (List.mem_of_getElem? (i := 9) rfl)) (ty := (.object "com/example/lockstep/lockstep/Writeset$Operation")) (by decide) rfl rfl (hb hby d2_16) (pc' := 19) rfl (fun T22 h22 X22 e22 W22 => ?_)
  have f23 := f17.same W22
  have K24 := K15.wr W22 (Or.inl (List.mem_of_getElem? (i := 0) rfl))
  have f25 := f16.wr W22
  have f26 := f18.other W22 (Or.inr (slot_ne (Or.inr (hw _ (List.mem_of_getElem? (i := 37) rfl)) : Laid Z a0 "com/example/lockstep/lockstep/Writeset$RowSet" "com/example/lockstep/lockstep/Writeset$RowSet" "count" "I") (Or.inr (hw _ (List.mem_of_getElem? (i := 35) rfl)) : Laid Z a0 "com/example/lockstep/lockstep/Writeset$RowSet" "com/example/lockstep/lockstep/Writeset$RowSet" "operation" "Lcom/example/lockstep/lockstep/Writeset$Operation;") (by decide) (t := .int) (t' := (.object "com/example/lockstep/lockstep/Writeset$Operation")) (by decide) (by decide)))
  have f27 := f19.other W22 (Or.inr (slot_ne (Or.inr (hw _ (List.mem_of_getElem? (i := 39) rfl)) : Laid Z a0 "com/example/lockstep/lockstep/Writeset$RowSet" "com/example/lockstep/lockstep/Writeset$RowSet" "texts" "[B") (Or.inr (hw _ (List.mem_of_getElem? (i := 35) rfl)) : Laid Z a0 "com/example/lockstep/lockstep/Writeset$RowSet" "com/example/lockstep/lockstep/Writeset$RowSet" "operation" "Lcom/example/lockstep/lockstep/Writeset$Operation;") (by decide) (t := (.array .byte)) (t' := (.object "com/example/lockstep/lockstep/Writeset$Operation")) (by decide) (by decide)))
  have f28 := f20.other W22 (Or.inr (slot_ne (Or.inr (hw _ (List.mem_of_getElem? (i := 31) rfl)) : Laid Z a0 "com/example/lockstep/lockstep/Writeset$RowSet" "com/example/lockstep/lockstep/Writeset$RowSet" "schema" "Ljava/lang/String;") (Or.inr (hw _ (List.mem_of_getElem? (i := 35) rfl)) : Laid Z a0 "com/example/lockstep/lockstep/Writeset$RowSet" "com/example/lockstep/lockstep/Writeset$RowSet" "operation" "Lcom/example/lockstep/lockstep/Writeset$Operation;") (by decide) (t := (.object "java/lang/String")) (t' := (.object "com/example/lockstep/lockstep/Writeset$Operation")) (by decide) (by decide)))
  have f29 := f14.other W22 (Or.inr (slot_ne (Or.inr (hw _ (List.mem_of_getElem? (i := 33) rfl)) : Laid Z a0 "com/example/lockstep/lockstep/Writeset$RowSet" "com/example/lockstep/lockstep/Writeset$RowSet" "table" "Ljava/lang/String;") (Or.inr (hw _ (List.mem_of_getElem? (i := 35) rfl)) : Laid Z a0 "com/example/lockstep/lockstep/Writeset$RowSet" "com/example/lockstep/lockstep/Writeset$RowSet" "operation" "Lcom/example/lockstep/lockstep/Writeset$Operation;") (by decide) (t := (.object "java/lang/String")) (t' := (.object "com/example/lockstep/lockstep/Writeset$Operation")) (by decide) (by decide)))
  have Z30 : n0 ≤ h22.size := by have q := Z21; rw [W22.size]; exact q
  have N22 := Fr.snoc X22 N13 ga
  refine r_aloadN X22.here hx (hb hby d2_19) rfl rfl (pc' := 20) rfl ?_
  refine r_iload X22.here hx (hb hby d2_20) rfl (pc' := 22) rfl ?_
  refine r_putF X22 hx hZ hown (hw _ (List.mem_of_getElem? (i := 36) rfl)) Via.refl e22 f26 f25 (Or.inr ⟨(hw _ (List.mem_of_getElem? (i := 37) rfl)), rfl, hnm⟩) (hw _ (List.mem_of_getElem? (i := 9) rfl)) (ty := .int) (by decide) rfl rfl (hb hby d2_22) (pc' := 25) rfl (fun T31 h31 X31 e31 W31 => ?_)
  have f32 := f26.same W31
  have K33 := K24.wr W31 (Or.inl (List.mem_of_getElem? (i := 0) rfl))
  have f34 := f25.wr W31
  have f35 := f27.other W31 (Or.inr (slot_ne (Or.inr (hw _ (List.mem_of_getElem? (i := 39) rfl)) : Laid Z a0 "com/example/lockstep/lockstep/Writeset$RowSet" "com/example/lockstep/lockstep/Writeset$RowSet" "texts" "[B") (Or.inr (hw _ (List.mem_of_getElem? (i := 37) rfl)) : Laid Z a0 "com/example/lockstep/lockstep/Writeset$RowSet" "com/example/lockstep/lockstep/Writeset$RowSet" "count" "I") (by decide) (t := (.array .byte)) (t' := .int) (by decide) (by decide)))
  have f36 := f28.other W31 (Or.inr (slot_ne (Or.inr (hw _ (List.mem_of_getElem? (i := 31) rfl)) : Laid Z a0 "com/example/lockstep/lockstep/Writeset$RowSet" "com/example/lockstep/lockstep/Writeset$RowSet" "schema" "Ljava/lang/String;") (Or.inr (hw _ (List.mem_of_getElem? (i := 37) rfl)) : Laid Z a0 "com/example/lockstep/lockstep/Writeset$RowSet" "com/example/lockstep/lockstep/Writeset$RowSet" "count" "I") (by decide) (t := (.object "java/lang/String")) (t' := .int) (by decide) (by decide)))
  have f37 := f29.other W31 (Or.inr (slot_ne (Or.inr (hw _ (List.mem_of_getElem? (i := 33) rfl)) : Laid Z a0 "com/example/lockstep/lockstep/Writeset$RowSet" "com/example/lockstep/lockstep/Writeset$RowSet" "table" "Ljava/lang/String;") (Or.inr (hw _ (List.mem_of_getElem? (i := 37) rfl)) : Laid Z a0 "com/example/lockstep/lockstep/Writeset$RowSet" "com/example/lockstep/lockstep/Writeset$RowSet" "count" "I") (by decide) (t := (.object "java/lang/String")) (t' := .int) (by decide) (by decide)))
  have f38 := f23.other W31 (Or.inr (slot_ne (Or.inr (hw _ (List.mem_of_getElem? (i := 35) rfl)) : Laid Z a0 "com/example/lockstep/lockstep/Writeset$RowSet" "com/example/lockstep/lockstep/Writeset$RowSet" "operation" "Lcom/example/lockstep/lockstep/Writeset$Operation;") (Or.inr (hw _ (List.mem_of_getElem? (i := 37) rfl)) : Laid Z a0 "com/example/lockstep/lockstep/Writeset$RowSet" "com/example/lockstep/lockstep/Writeset$RowSet" "count" "I") (by decide) (t := (.object "com/example/lockstep/lockstep/Writeset$Operation")) (t' := .int) (by decide) (by decide)))
  have Z39 : n0 ≤ h31.size := by have q := Z30; rw [W31.size]; exact q
  have N31 := Fr.snoc X31 N22 ga
  refine r_aloadN X31.here hx (hb hby d2_25) rfl rfl (pc' := 26) rfl ?_
  refine r_aload X31.here hx (hb hby d2_26) rfl rfl (pc' := 28) rfl ?_
  refine r_putF X31 hx hZ hown (hw _ (List.mem_of_getElem? (i := 38) rfl)) Via.refl e31 f35 f34 (Or.inr ⟨(hw _ (List.mem_of_getElem? (i := 39) rfl)), rfl, hnm⟩) (hw _ (List.mem_of_getElem? (i := 9) rfl)) (ty := (.array .byte)) (by decide) rfl rfl (hb hby d2_28) (pc' := 31) rfl (fun T40 h40 X40 e40 W40 => ?_)
  have f41 := f35.same W40
  have K42 := K33.wr W40 (Or.inl (List.mem_of_getElem? (i := 0) rfl))
  have f43 := f34.wr W40
  have f44 := f36.other W40 (Or.inr (slot_ne (Or.inr (hw _ (List.mem_of_getElem? (i := 31) rfl)) : Laid Z a0 "com/example/lockstep/lockstep/Writeset$RowSet" "com/example/lockstep/lockstep/Writeset$RowSet" "schema" "Ljava/lang/String;") (Or.inr (hw _ (List.mem_of_getElem? (i := 39) rfl)) : Laid Z a0 "com/example/lockstep/lockstep/Writeset$RowSet" "com/example/lockstep/lockstep/Writeset$RowSet" "texts" "[B") (by decide) (t := (.object "java/lang/String")) (t' := (.array .byte)) (by decide) (by decide)))
  have f45 := f37.other W40 (Or.inr (slot_ne (Or.inr (hw _ (List.mem_of_getElem? (i := 33) rfl)) : Laid Z a0 "com/example/lockstep/lockstep/Writeset$RowSet" "com/example/lockstep/lockstep/Writeset$RowSet" "table" "Ljava/lang/String;") (Or.inr (hw _ (List.mem_of_getElem? (i := 39) rfl)) : Laid Z a0 "com/example/lockstep/lockstep/Writeset$RowSet" "com/example/lockstep/lockstep/Writeset$RowSet" "texts" "[B") (by decide) (t := (.object "java/lang/String")) (t' := (.array .byte)) (by decide) (by decide)))
  have f46 := f38.other W40 (Or.inr (slot_ne (Or.inr (hw _ (List.mem_of_getElem? (i := 35) rfl)) : Laid Z a0 "com/example/lockstep/lockstep/Writeset$RowSet" "com/example/lockstep/lockstep/Writeset$RowSet" "operation" "Lcom/example/lockstep/lockstep/Writeset$Operation;") (Or.inr (hw _ (List.mem_of_getElem? (i := 39) rfl)) : Laid Z a0 "com/example/lockstep/lockstep/Writeset$RowSet" "com/example/lockstep/lockstep/Writeset$RowSet" "texts" "[B") (by decide) (t := (.object "com/example/lockstep/lockstep/Writeset$Operation")) (t' := (.array .byte)) (by decide) (by decide)))
  have f47 := f32.other W40 (Or.inr (slot_ne (Or.inr (hw _ (List.mem_of_getElem? (i := 37) rfl)) : Laid Z a0 "com/example/lockstep/lockstep/Writeset$RowSet" "com/example/lockstep/lockstep/Writeset$RowSet" "count" "I") (Or.inr (hw _ (List.mem_of_getElem? (i := 39) rfl)) : Laid Z a0 "com/example/lockstep/lockstep/Writeset$RowSet" "com/example/lockstep/lockstep/Writeset$RowSet" "texts" "[B") (by decide) (t := .int) (t' := (.array .byte)) (by decide) (by decide)))
  have Z48 : n0 ≤ h40.size := by have q := Z39; rw [W40.size]; exact q
  have N40 := Fr.snoc X40 N31 ga
  refine r_ret0 X40 hx hlk hret (hb hby d2_31) ?_ (by decide) (by decide)
  try rw [e40]
  exact ⟨rfl, N40, K42, f47, f41⟩
theorem d6_0 : decode prog_49_method_5_code 0 = .ok (.lconst 0, 1) := by decide +kernel
theorem d6_1 : decode prog_49_method_5_code 1 = .ok (.lstore_n 1, 1) := by decide +kernel
theorem d6_2 : decode prog_49_method_5_code 2 = .ok (.aload_n 0, 1) := by decide +kernel
theorem d6_3 : decode prog_49_method_5_code 3 = .ok (.getfield 24, 3) := by decide +kernel
theorem d6_6 : decode prog_49_method_5_code 6 = .ok (.astore_n 3, 1) := by decide +kernel
theorem d6_7 : decode prog_49_method_5_code 7 = .ok (.aload_n 3, 1) := by decide +kernel
theorem d6_8 : decode prog_49_method_5_code 8 = .ok (.arraylength, 1) := by decide +kernel
theorem d6_9 : decode prog_49_method_5_code 9 = .ok (.istore 4, 2) := by decide +kernel
theorem d6_11 : decode prog_49_method_5_code 11 = .ok (.iconst 0, 1) := by decide +kernel
theorem d6_12 : decode prog_49_method_5_code 12 = .ok (.istore 5, 2) := by decide +kernel
theorem d6_14 : decode prog_49_method_5_code 14 = .ok (.iload 5, 2) := by decide +kernel
theorem d6_16 : decode prog_49_method_5_code 16 = .ok (.iload 4, 2) := by decide +kernel
theorem d6_18 : decode prog_49_method_5_code 18 = .ok (.if_icmp .ge 33, 3) := by decide +kernel
theorem d6_51 : decode prog_49_method_5_code 51 = .ok (.aload_n 0, 1) := by decide +kernel
theorem d6_52 : decode prog_49_method_5_code 52 = .ok (.getfield 24, 3) := by decide +kernel
theorem d6_55 : decode prog_49_method_5_code 55 = .ok (.arraylength, 1) := by decide +kernel
theorem d6_56 : decode prog_49_method_5_code 56 = .ok (.i2l, 1) := by decide +kernel
theorem d6_57 : decode prog_49_method_5_code 57 = .ok (.lload_n 1, 1) := by decide +kernel
theorem d6_58 : decode prog_49_method_5_code 58 = .ok (.ladd, 1) := by decide +kernel
theorem d6_59 : decode prog_49_method_5_code 59 = .ok (.ldc2_w 101, 3) := by decide +kernel
theorem d6_62 : decode prog_49_method_5_code 62 = .ok (.aload_n 0, 1) := by decide +kernel
theorem d6_63 : decode prog_49_method_5_code 63 = .ok (.getfield 20, 3) := by decide +kernel
theorem d6_66 : decode prog_49_method_5_code 66 = .ok (.i2l, 1) := by decide +kernel
theorem d6_67 : decode prog_49_method_5_code 67 = .ok (.lmul, 1) := by decide +kernel
theorem d6_68 : decode prog_49_method_5_code 68 = .ok (.ladd, 1) := by decide +kernel
theorem d6_69 : decode prog_49_method_5_code 69 = .ok (.ldc2_w 101, 3) := by decide +kernel
theorem d6_72 : decode prog_49_method_5_code 72 = .ok (.ladd, 1) := by decide +kernel
theorem d6_73 : decode prog_49_method_5_code 73 = .ok (.lreturn, 1) := by decide +kernel
theorem own_t1 (b : Int32) (h : b = 34) (z : Int64) : z + 1 = z + own_sp b := by simp [own_sp, h]
theorem own_t2 (b : Int32) (h1 : ¬ b = 34) (h2 : ¬ ¬ b = 92) (z : Int64) : z + 1 = z + own_sp b := by simp [own_sp, Classical.not_not.mp h2]
theorem own_t3 (b : Int32) (h1 : ¬ b = 34) (h2 : ¬ b = 92) (z : Int64) : z = z + own_sp b := by simp [own_sp, h1, h2]
theorem ef_rmA0 (m : MethodId) (x0 : Addr) : entryFrame m #[(.ref x0)] 7 = mkF m 0 #[.val (.ref x0), .unset, .unset, .unset, .unset, .unset, .unset] [] := by first | (simp [entryFrame, mkF, argsToLocals, Value.category, maxLocals]; done) | rfl
set_option maxRecDepth 65536 in
set_option maxHeartbeats 40000000 in
theorem rmA0 (l : Launch) (Z : State) (a0 : Array Value) (hw : ∀ d ∈ tables_1, d.before a0 Z = true) (ws : List Jvm.Cond) (a t : Addr) (cnt : Int32)  (f : Nat → Value) (h0 : Heap) (n0 : Nat) (Z0 : n0 ≤ h0.size) (Ft : Fld Z h0 a "com/example/lockstep/lockstep/Writeset$RowSet" "texts" "[B" (.ref t)) (Fc : Fld Z h0 a "com/example/lockstep/lockstep/Writeset$RowSet" "count" "I" (.int cnt)) (At : Ary Z h0 t .byte 0 f)  :
    Met l Z (⟨"com/example/lockstep/lockstep/Writeset$RowSet", "arraySize", "()J"⟩ : MethodName) prog_49_method_5_code 7 (some .long) ws ({ frames := 0, cells := 0, slots := 0, locals := 0 } : Room) #[(.ref a)] h0 (fun v h L => v = some (.long (((0 : Int32).toInt64 + (0 : Int64)) + 2 * cnt.toInt64 + 2)) ∧ Fr n0 L ∧ h = h0) 0 0 := by
  refine met_of (plainFor_of_name pn_2) (f0 := fun m => (mkF m 0 #[.val (.ref a), .unset, .unset, .unset, .unset, .unset, .unset] [])) (fun m => ef_rmA0 m a) ?_
  intro p e s m below meth c s₁ X0 hx hby hml hret hlk hown hnm hZ e0
  replace hown : s.vm.findClass "com/example/lockstep/lockstep/Writeset$RowSet" = some m.cls := hown
  have N0 := Fr.nil n0
  refine r_lconst X0.here hx (hb hby d6_0) (v := 0) rfl (pc' := 1) rfl ?_
  refine r_lstoreN X0.here hx (hb hby d6_1) (l' := #[.val (.ref a), .val (.long (0 : Int64)), .second, .unset, .unset, .unset, .unset]) rfl (pc' := 2) rfl ?_
  refine r_aloadN X0.here hx (hb hby d6_2) rfl rfl (pc' := 3) rfl ?_
  refine r_getF X0 hx hZ hown (hw _ (List.mem_of_getElem? (i := 38) rfl)) Via.refl e0 Ft (hb hby d6_3) (pc' := 6) rfl (fun T49 X49 e49 => ?_)
  refine r_astoreN X49.here hx (hb hby d6_6) rfl (l' := #[.val (.ref a), .val (.long (0 : Int64)), .second, .val (.ref t), .unset, .unset, .unset]) rfl (pc' := 7) rfl ?_
  refine r_aloadN X49.here hx (hb hby d6_7) rfl rfl (pc' := 8) rfl ?_
  refine r_len X49 hx hZ e49 (z := (0 : Int32)) At rfl (hb hby d6_8) (pc' := 9) rfl ?_
  refine r_istore X49.here hx (hb hby d6_9) (l' := #[.val (.ref a), .val (.long (0 : Int64)), .second, .val (.ref t), .val (.int (0 : Int32)), .unset, .unset]) rfl (pc' := 11) rfl ?_
  refine r_iconst X49.here hx (hb hby d6_11) (v := 0) rfl (pc' := 12) rfl ?_
  refine r_istore X49.here hx (hb hby d6_12) (l' := #[.val (.ref a), .val (.long (0 : Int64)), .second, .val (.ref t), .val (.int (0 : Int32)), .val (.int (0 : Int32)), .unset]) rfl (pc' := 14) rfl ?_
  refine r_iload X49.here hx (hb hby d6_14) rfl (pc' := 16) rfl ?_
  refine r_iload X49.here hx (hb hby d6_16) rfl (pc' := 18) rfl ?_
  refine r_if_ge X49.here hx (hb hby d6_18) (by decide) (pc' := 51) (by decide) (pc2 := 21) rfl (fun hc18 => ?_) (fun hc18 => absurd (by decide) hc18)
  refine r_aloadN X49.here hx (hb hby d6_51) rfl rfl (pc' := 52) rfl ?_
  refine r_getF X49 hx hZ hown (hw _ (List.mem_of_getElem? (i := 38) rfl)) Via.refl e49 Ft (hb hby d6_52) (pc' := 55) rfl (fun T50 X50 e50 => ?_)
  refine r_len X50 hx hZ e50 (z := (0 : Int32)) At rfl (hb hby d6_55) (pc' := 56) rfl ?_
  refine r_i2l X50.here hx (hb hby d6_56) (pc' := 57) rfl ?_
  refine r_lloadN X50.here hx (hb hby d6_57) rfl (pc' := 58) rfl ?_
  refine r_ladd X50.here hx (hb hby d6_58) (pc' := 59) rfl ?_
  refine r_ldc2 X50 hx hZ hown (hw _ (List.mem_of_getElem? (i := 49) rfl)) (hb hby d6_59) (pc' := 62) rfl ?_
  refine r_aloadN X50.here hx (hb hby d6_62) rfl rfl (pc' := 63) rfl ?_
  refine r_getF X50 hx hZ hown (hw _ (List.mem_of_getElem? (i := 36) rfl)) Via.refl e50 Fc (hb hby d6_63) (pc' := 66) rfl (fun T51 X51 e51 => ?_)
  refine r_i2l X51.here hx (hb hby d6_66) (pc' := 67) rfl ?_
  refine r_lmul X51.here hx (hb hby d6_67) (pc' := 68) rfl ?_
  refine r_ladd X51.here hx (hb hby d6_68) (pc' := 69) rfl ?_
  refine r_ldc2 X51 hx hZ hown (hw _ (List.mem_of_getElem? (i := 49) rfl)) (hb hby d6_69) (pc' := 72) rfl ?_
  refine r_ladd X51.here hx (hb hby d6_72) (pc' := 73) rfl ?_
  refine r_retJ X51 hx hlk hret (hb hby d6_73) ?_ (by decide) (by decide)
  try rw [e51]
  exact ⟨rfl, N0, rfl⟩
theorem d6_21 : decode prog_49_method_5_code 21 = .ok (.aload_n 3, 1) := by decide +kernel
theorem d6_22 : decode prog_49_method_5_code 22 = .ok (.iload 5, 2) := by decide +kernel
theorem d6_24 : decode prog_49_method_5_code 24 = .ok (.baload, 1) := by decide +kernel
theorem d6_25 : decode prog_49_method_5_code 25 = .ok (.istore 6, 2) := by decide +kernel
theorem d6_45 : decode prog_49_method_5_code 45 = .ok (.iinc 5 1, 3) := by decide +kernel
theorem d6_48 : decode prog_49_method_5_code 48 = .ok (.goto (-34), 3) := by decide +kernel
theorem d6_27 : decode prog_49_method_5_code 27 = .ok (.iload 6, 2) := by decide +kernel
theorem d6_29 : decode prog_49_method_5_code 29 = .ok (.bipush 34, 2) := by decide +kernel
theorem d6_31 : decode prog_49_method_5_code 31 = .ok (.if_icmp .eq 10, 3) := by decide +kernel
theorem d6_41 : decode prog_49_method_5_code 41 = .ok (.lload_n 1, 1) := by decide +kernel
theorem d6_42 : decode prog_49_method_5_code 42 = .ok (.lconst 1, 1) := by decide +kernel
theorem d6_43 : decode prog_49_method_5_code 43 = .ok (.ladd, 1) := by decide +kernel
theorem d6_44 : decode prog_49_method_5_code 44 = .ok (.lstore_n 1, 1) := by decide +kernel
theorem d6_34 : decode prog_49_method_5_code 34 = .ok (.iload 6, 2) := by decide +kernel
theorem d6_36 : decode prog_49_method_5_code 36 = .ok (.bipush 92, 2) := by decide +kernel
theorem d6_38 : decode prog_49_method_5_code 38 = .ok (.if_icmp .ne 7, 3) := by decide +kernel
theorem ef_rmA1 (m : MethodId) (x0 : Addr) : entryFrame m #[(.ref x0)] 7 = mkF m 0 #[.val (.ref x0), .unset, .unset, .unset, .unset, .unset, .unset] [] := by first | (simp [entryFrame, mkF, argsToLocals, Value.category, maxLocals]; done) | rfl
set_option maxRecDepth 65536 in
set_option maxHeartbeats 40000000 in
theorem rmA1 (l : Launch) (Z : State) (a0 : Array Value) (hw : ∀ d ∈ tables_1, d.before a0 Z = true) (ws : List Jvm.Cond) (a t : Addr) (cnt : Int32) (b0 : Int32) (f : Nat → Value) (h0 : Heap) (n0 : Nat) (Z0 : n0 ≤ h0.size) (Ft : Fld Z h0 a "com/example/lockstep/lockstep/Writeset$RowSet" "texts" "[B" (.ref t)) (Fc : Fld Z h0 a "com/example/lockstep/lockstep/Writeset$RowSet" "count" "I" (.int cnt)) (At : Ary Z h0 t .byte 1 f) (q0 : f 0 = .int b0) :
    Met l Z (⟨"com/example/lockstep/lockstep/Writeset$RowSet", "arraySize", "()J"⟩ : MethodName) prog_49_method_5_code 7 (some .long) ws ({ frames := 0, cells := 0, slots := 0, locals := 0 } : Room) #[(.ref a)] h0 (fun v h L => v = some (.long (((1 : Int32).toInt64 + ((0 : Int64) + own_sp b0)) + 2 * cnt.toInt64 + 2)) ∧ Fr n0 L ∧ h = h0) 0 0 := by
  refine met_of (plainFor_of_name pn_2) (f0 := fun m => (mkF m 0 #[.val (.ref a), .unset, .unset, .unset, .unset, .unset, .unset] [])) (fun m => ef_rmA1 m a) ?_
  intro p e s m below meth c s₁ X0 hx hby hml hret hlk hown hnm hZ e0
  replace hown : s.vm.findClass "com/example/lockstep/lockstep/Writeset$RowSet" = some m.cls := hown
  have N0 := Fr.nil n0
  refine r_lconst X0.here hx (hb hby d6_0) (v := 0) rfl (pc' := 1) rfl ?_
  refine r_lstoreN X0.here hx (hb hby d6_1) (l' := #[.val (.ref a), .val (.long (0 : Int64)), .second, .unset, .unset, .unset, .unset]) rfl (pc' := 2) rfl ?_
  refine r_aloadN X0.here hx (hb hby d6_2) rfl rfl (pc' := 3) rfl ?_
  refine r_getF X0 hx hZ hown (hw _ (List.mem_of_getElem? (i := 38) rfl)) Via.refl e0 Ft (hb hby d6_3) (pc' := 6) rfl (fun T52 X52 e52 => ?_)
  refine r_astoreN X52.here hx (hb hby d6_6) rfl (l' := #[.val (.ref a), .val (.long (0 : Int64)), .second, .val (.ref t), .unset, .unset, .unset]) rfl (pc' := 7) rfl ?_
  refine r_aloadN X52.here hx (hb hby d6_7) rfl rfl (pc' := 8) rfl ?_
  refine r_len X52 hx hZ e52 (z := (1 : Int32)) At rfl (hb hby d6_8) (pc' := 9) rfl ?_
  refine r_istore X52.here hx (hb hby d6_9) (l' := #[.val (.ref a), .val (.long (0 : Int64)), .second, .val (.ref t), .val (.int (1 : Int32)), .unset, .unset]) rfl (pc' := 11) rfl ?_
  refine r_iconst X52.here hx (hb hby d6_11) (v := 0) rfl (pc' := 12) rfl ?_
  refine r_istore X52.here hx (hb hby d6_12) (l' := #[.val (.ref a), .val (.long (0 : Int64)), .second, .val (.ref t), .val (.int (1 : Int32)), .val (.int (0 : Int32)), .unset]) rfl (pc' := 14) rfl ?_
  refine r_iload X52.here hx (hb hby d6_14) rfl (pc' := 16) rfl ?_
  refine r_iload X52.here hx (hb hby d6_16) rfl (pc' := 18) rfl ?_
  refine r_if_ge X52.here hx (hb hby d6_18) (by decide) (pc' := 51) (by decide) (pc2 := 21) rfl (fun hc18 => absurd hc18 (by decide)) (fun hc18 => ?_)
  refine r_aloadN X52.here hx (hb hby d6_21) rfl rfl (pc' := 22) rfl ?_
  refine r_iload X52.here hx (hb hby d6_22) rfl (pc' := 24) rfl ?_
  refine q_baload X52 hx hZ e52 (j := (0 : Int32)) (v := b0) At (by decide) (by decide) q0 (hb hby d6_24) (pc' := 25) rfl ?_
  refine r_istore X52.here hx (hb hby d6_25) (l' := #[.val (.ref a), .val (.long (0 : Int64)), .second, .val (.ref t), .val (.int (1 : Int32)), .val (.int (0 : Int32)), .val (.int b0)]) rfl (pc' := 27) rfl ?_
  have J0 : ∀ z0 : Int64, z0 = (0 : Int64) + own_sp b0 → Run p e below (fun v h L => v = some (.long (((1 : Int32).toInt64 + ((0 : Int64) + own_sp b0)) + 2 * cnt.toInt64 + 2)) ∧ Fr n0 L ∧ h = h0) (fun o t L => FrameEnd s o t L 0 0) T52 (mkF m 45 #[.val (.ref a), .val (.long z0), .second, .val (.ref t), .val (.int (1 : Int32)), .val (.int (0 : Int32)), .val (.int b0)] []) := by
    intro z0 hz0
    subst hz0
    refine r_iinc X52.here hx (hb hby d6_45) rfl (z := ((0 : Int32) + (1 : Int32))) rfl (l' := #[.val (.ref a), .val (.long ((0 : Int64) + own_sp b0)), .second, .val (.ref t), .val (.int (1 : Int32)), .val (.int ((0 : Int32) + (1 : Int32))), .val (.int b0)]) rfl (pc' := 48) rfl ?_
    refine r_goto X52.here hx (hb hby d6_48) (by decide) (pc' := 14) (by decide) ?_
    refine r_iload X52.here hx (hb hby d6_14) rfl (pc' := 16) rfl ?_
    refine r_iload X52.here hx (hb hby d6_16) rfl (pc' := 18) rfl ?_
    refine r_if_ge X52.here hx (hb hby d6_18) (by decide) (pc' := 51) (by decide) (pc2 := 21) rfl (fun hc18_1 => ?_) (fun hc18_1 => absurd (by decide) hc18_1)
    refine r_aloadN X52.here hx (hb hby d6_51) rfl rfl (pc' := 52) rfl ?_
    refine r_getF X52 hx hZ hown (hw _ (List.mem_of_getElem? (i := 38) rfl)) Via.refl e52 Ft (hb hby d6_52) (pc' := 55) rfl (fun T53 X53 e53 => ?_)
    refine r_len X53 hx hZ e53 (z := (1 : Int32)) At rfl (hb hby d6_55) (pc' := 56) rfl ?_
    refine r_i2l X53.here hx (hb hby d6_56) (pc' := 57) rfl ?_
    refine r_lloadN X53.here hx (hb hby d6_57) rfl (pc' := 58) rfl ?_
    refine r_ladd X53.here hx (hb hby d6_58) (pc' := 59) rfl ?_
    refine r_ldc2 X53 hx hZ hown (hw _ (List.mem_of_getElem? (i := 49) rfl)) (hb hby d6_59) (pc' := 62) rfl ?_
    refine r_aloadN X53.here hx (hb hby d6_62) rfl rfl (pc' := 63) rfl ?_
    refine r_getF X53 hx hZ hown (hw _ (List.mem_of_getElem? (i := 36) rfl)) Via.refl e53 Fc (hb hby d6_63) (pc' := 66) rfl (fun T54 X54 e54 => ?_)
    refine r_i2l X54.here hx (hb hby d6_66) (pc' := 67) rfl ?_
    refine r_lmul X54.here hx (hb hby d6_67) (pc' := 68) rfl ?_
    refine r_ladd X54.here hx (hb hby d6_68) (pc' := 69) rfl ?_
    refine r_ldc2 X54 hx hZ hown (hw _ (List.mem_of_getElem? (i := 49) rfl)) (hb hby d6_69) (pc' := 72) rfl ?_
    refine r_ladd X54.here hx (hb hby d6_72) (pc' := 73) rfl ?_
    refine r_retJ X54 hx hlk hret (hb hby d6_73) ?_ (by decide) (by decide)
    try rw [e54]
    exact ⟨rfl, N0, rfl⟩
  refine r_iload X52.here hx (hb hby d6_27) rfl (pc' := 29) rfl ?_
  refine r_bipush X52.here hx (hb hby d6_29) (v := 34) rfl (pc' := 31) rfl ?_
  refine r_if_eq X52.here hx (hb hby d6_31) (by decide) (pc' := 41) (by decide) (pc2 := 34) rfl (fun hc31 => ?_) (fun hc31 => ?_)
  · refine r_lloadN X52.here hx (hb hby d6_41) rfl (pc' := 42) rfl ?_
    refine r_lconst X52.here hx (hb hby d6_42) (v := 1) rfl (pc' := 43) rfl ?_
    refine r_ladd X52.here hx (hb hby d6_43) (pc' := 44) rfl ?_
    refine r_lstoreN X52.here hx (hb hby d6_44) (l' := #[.val (.ref a), .val (.long ((0 : Int64) + (1 : Int64))), .second, .val (.ref t), .val (.int (1 : Int32)), .val (.int (0 : Int32)), .val (.int b0)]) rfl (pc' := 45) rfl ?_
    exact J0 _ (own_t1 _ hc31 _)
  · refine r_iload X52.here hx (hb hby d6_34) rfl (pc' := 36) rfl ?_
    refine r_bipush X52.here hx (hb hby d6_36) (v := 92) rfl (pc' := 38) rfl ?_
    refine r_if_ne X52.here hx (hb hby d6_38) (by decide) (pc' := 45) (by decide) (pc2 := 41) rfl (fun hc38 => ?_) (fun hc38 => ?_)
    · exact J0 _ (own_t3 _ hc31 hc38 _)
    · refine r_lloadN X52.here hx (hb hby d6_41) rfl (pc' := 42) rfl ?_
      refine r_lconst X52.here hx (hb hby d6_42) (v := 1) rfl (pc' := 43) rfl ?_
      refine r_ladd X52.here hx (hb hby d6_43) (pc' := 44) rfl ?_
      refine r_lstoreN X52.here hx (hb hby d6_44) (l' := #[.val (.ref a), .val (.long ((0 : Int64) + (1 : Int64))), .second, .val (.ref t), .val (.int (1 : Int32)), .val (.int (0 : Int32)), .val (.int b0)]) rfl (pc' := 45) rfl ?_
      exact J0 _ (own_t2 _ hc31 hc38 _)
theorem ef_rmA2 (m : MethodId) (x0 : Addr) : entryFrame m #[(.ref x0)] 7 = mkF m 0 #[.val (.ref x0), .unset, .unset, .unset, .unset, .unset, .unset] [] := by first | (simp [entryFrame, mkF, argsToLocals, Value.category, maxLocals]; done) | rfl
set_option maxRecDepth 65536 in
set_option maxHeartbeats 40000000 in
theorem rmA2 (l : Launch) (Z : State) (a0 : Array Value) (hw : ∀ d ∈ tables_1, d.before a0 Z = true) (ws : List Jvm.Cond) (a t : Addr) (cnt : Int32) (b0 : Int32) (b1 : Int32) (f : Nat → Value) (h0 : Heap) (n0 : Nat) (Z0 : n0 ≤ h0.size) (Ft : Fld Z h0 a "com/example/lockstep/lockstep/Writeset$RowSet" "texts" "[B" (.ref t)) (Fc : Fld Z h0 a "com/example/lockstep/lockstep/Writeset$RowSet" "count" "I" (.int cnt)) (At : Ary Z h0 t .byte 2 f) (q0 : f 0 = .int b0) (q1 : f 1 = .int b1) :
    Met l Z (⟨"com/example/lockstep/lockstep/Writeset$RowSet", "arraySize", "()J"⟩ : MethodName) prog_49_method_5_code 7 (some .long) ws ({ frames := 0, cells := 0, slots := 0, locals := 0 } : Room) #[(.ref a)] h0 (fun v h L => v = some (.long (((2 : Int32).toInt64 + (((0 : Int64) + own_sp b0) + own_sp b1)) + 2 * cnt.toInt64 + 2)) ∧ Fr n0 L ∧ h = h0) 0 0 := by
  refine met_of (plainFor_of_name pn_2) (f0 := fun m => (mkF m 0 #[.val (.ref a), .unset, .unset, .unset, .unset, .unset, .unset] [])) (fun m => ef_rmA2 m a) ?_
  intro p e s m below meth c s₁ X0 hx hby hml hret hlk hown hnm hZ e0
  replace hown : s.vm.findClass "com/example/lockstep/lockstep/Writeset$RowSet" = some m.cls := hown
  have N0 := Fr.nil n0
  refine r_lconst X0.here hx (hb hby d6_0) (v := 0) rfl (pc' := 1) rfl ?_
  refine r_lstoreN X0.here hx (hb hby d6_1) (l' := #[.val (.ref a), .val (.long (0 : Int64)), .second, .unset, .unset, .unset, .unset]) rfl (pc' := 2) rfl ?_
  refine r_aloadN X0.here hx (hb hby d6_2) rfl rfl (pc' := 3) rfl ?_
  refine r_getF X0 hx hZ hown (hw _ (List.mem_of_getElem? (i := 38) rfl)) Via.refl e0 Ft (hb hby d6_3) (pc' := 6) rfl (fun T55 X55 e55 => ?_)
  refine r_astoreN X55.here hx (hb hby d6_6) rfl (l' := #[.val (.ref a), .val (.long (0 : Int64)), .second, .val (.ref t), .unset, .unset, .unset]) rfl (pc' := 7) rfl ?_
  refine r_aloadN X55.here hx (hb hby d6_7) rfl rfl (pc' := 8) rfl ?_
  refine r_len X55 hx hZ e55 (z := (2 : Int32)) At rfl (hb hby d6_8) (pc' := 9) rfl ?_
  refine r_istore X55.here hx (hb hby d6_9) (l' := #[.val (.ref a), .val (.long (0 : Int64)), .second, .val (.ref t), .val (.int (2 : Int32)), .unset, .unset]) rfl (pc' := 11) rfl ?_
  refine r_iconst X55.here hx (hb hby d6_11) (v := 0) rfl (pc' := 12) rfl ?_
  refine r_istore X55.here hx (hb hby d6_12) (l' := #[.val (.ref a), .val (.long (0 : Int64)), .second, .val (.ref t), .val (.int (2 : Int32)), .val (.int (0 : Int32)), .unset]) rfl (pc' := 14) rfl ?_
  refine r_iload X55.here hx (hb hby d6_14) rfl (pc' := 16) rfl ?_
  refine r_iload X55.here hx (hb hby d6_16) rfl (pc' := 18) rfl ?_
  refine r_if_ge X55.here hx (hb hby d6_18) (by decide) (pc' := 51) (by decide) (pc2 := 21) rfl (fun hc18 => absurd hc18 (by decide)) (fun hc18 => ?_)
  refine r_aloadN X55.here hx (hb hby d6_21) rfl rfl (pc' := 22) rfl ?_
  refine r_iload X55.here hx (hb hby d6_22) rfl (pc' := 24) rfl ?_
  refine q_baload X55 hx hZ e55 (j := (0 : Int32)) (v := b0) At (by decide) (by decide) q0 (hb hby d6_24) (pc' := 25) rfl ?_
  refine r_istore X55.here hx (hb hby d6_25) (l' := #[.val (.ref a), .val (.long (0 : Int64)), .second, .val (.ref t), .val (.int (2 : Int32)), .val (.int (0 : Int32)), .val (.int b0)]) rfl (pc' := 27) rfl ?_
  have J0 : ∀ z0 : Int64, z0 = (0 : Int64) + own_sp b0 → Run p e below (fun v h L => v = some (.long (((2 : Int32).toInt64 + (((0 : Int64) + own_sp b0) + own_sp b1)) + 2 * cnt.toInt64 + 2)) ∧ Fr n0 L ∧ h = h0) (fun o t L => FrameEnd s o t L 0 0) T55 (mkF m 45 #[.val (.ref a), .val (.long z0), .second, .val (.ref t), .val (.int (2 : Int32)), .val (.int (0 : Int32)), .val (.int b0)] []) := by
    intro z0 hz0
    subst hz0
    refine r_iinc X55.here hx (hb hby d6_45) rfl (z := ((0 : Int32) + (1 : Int32))) rfl (l' := #[.val (.ref a), .val (.long ((0 : Int64) + own_sp b0)), .second, .val (.ref t), .val (.int (2 : Int32)), .val (.int ((0 : Int32) + (1 : Int32))), .val (.int b0)]) rfl (pc' := 48) rfl ?_
    refine r_goto X55.here hx (hb hby d6_48) (by decide) (pc' := 14) (by decide) ?_
    refine r_iload X55.here hx (hb hby d6_14) rfl (pc' := 16) rfl ?_
    refine r_iload X55.here hx (hb hby d6_16) rfl (pc' := 18) rfl ?_
    refine r_if_ge X55.here hx (hb hby d6_18) (by decide) (pc' := 51) (by decide) (pc2 := 21) rfl (fun hc18_1 => absurd hc18_1 (by decide)) (fun hc18_1 => ?_)
    refine r_aloadN X55.here hx (hb hby d6_21) rfl rfl (pc' := 22) rfl ?_
    refine r_iload X55.here hx (hb hby d6_22) rfl (pc' := 24) rfl ?_
    refine q_baload X55 hx hZ e55 (j := ((0 : Int32) + (1 : Int32))) (v := b1) At (by decide) (by decide) q1 (hb hby d6_24) (pc' := 25) rfl ?_
    refine r_istore X55.here hx (hb hby d6_25) (l' := #[.val (.ref a), .val (.long ((0 : Int64) + own_sp b0)), .second, .val (.ref t), .val (.int (2 : Int32)), .val (.int ((0 : Int32) + (1 : Int32))), .val (.int b1)]) rfl (pc' := 27) rfl ?_
    have J1 : ∀ z1 : Int64, z1 = ((0 : Int64) + own_sp b0) + own_sp b1 → Run p e below (fun v h L => v = some (.long (((2 : Int32).toInt64 + (((0 : Int64) + own_sp b0) + own_sp b1)) + 2 * cnt.toInt64 + 2)) ∧ Fr n0 L ∧ h = h0) (fun o t L => FrameEnd s o t L 0 0) T55 (mkF m 45 #[.val (.ref a), .val (.long z1), .second, .val (.ref t), .val (.int (2 : Int32)), .val (.int ((0 : Int32) + (1 : Int32))), .val (.int b1)] []) := by
      intro z1 hz1
      subst hz1
      refine r_iinc X55.here hx (hb hby d6_45) rfl (z := (((0 : Int32) + (1 : Int32)) + (1 : Int32))) rfl (l' := #[.val (.ref a), .val (.long (((0 : Int64) + own_sp b0) + own_sp b1)), .second, .val (.ref t), .val (.int (2 : Int32)), .val (.int (((0 : Int32) + (1 : Int32)) + (1 : Int32))), .val (.int b1)]) rfl (pc' := 48) rfl ?_
      refine r_goto X55.here hx (hb hby d6_48) (by decide) (pc' := 14) (by decide) ?_
      refine r_iload X55.here hx (hb hby d6_14) rfl (pc' := 16) rfl ?_
      refine r_iload X55.here hx (hb hby d6_16) rfl (pc' := 18) rfl ?_
      refine r_if_ge X55.here hx (hb hby d6_18) (by decide) (pc' := 51) (by decide) (pc2 := 21) rfl (fun hc18_2 => ?_) (fun hc18_2 => absurd (by decide) hc18_2)
      refine r_aloadN X55.here hx (hb hby d6_51) rfl rfl (pc' := 52) rfl ?_
      refine r_getF X55 hx hZ hown (hw _ (List.mem_of_getElem? (i := 38) rfl)) Via.refl e55 Ft (hb hby d6_52) (pc' := 55) rfl (fun T56 X56 e56 => ?_)
      refine r_len X56 hx hZ e56 (z := (2 : Int32)) At rfl (hb hby d6_55) (pc' := 56) rfl ?_
      refine r_i2l X56.here hx (hb hby d6_56) (pc' := 57) rfl ?_
      refine r_lloadN X56.here hx (hb hby d6_57) rfl (pc' := 58) rfl ?_
      refine r_ladd X56.here hx (hb hby d6_58) (pc' := 59) rfl ?_
      refine r_ldc2 X56 hx hZ hown (hw _ (List.mem_of_getElem? (i := 49) rfl)) (hb hby d6_59) (pc' := 62) rfl ?_
      refine r_aloadN X56.here hx (hb hby d6_62) rfl rfl (pc' := 63) rfl ?_
      refine r_getF X56 hx hZ hown (hw _ (List.mem_of_getElem? (i := 36) rfl)) Via.refl e56 Fc (hb hby d6_63) (pc' := 66) rfl (fun T57 X57 e57 => ?_)
      refine r_i2l X57.here hx (hb hby d6_66) (pc' := 67) rfl ?_
      refine r_lmul X57.here hx (hb hby d6_67) (pc' := 68) rfl ?_
      refine r_ladd X57.here hx (hb hby d6_68) (pc' := 69) rfl ?_
      refine r_ldc2 X57 hx hZ hown (hw _ (List.mem_of_getElem? (i := 49) rfl)) (hb hby d6_69) (pc' := 72) rfl ?_
      refine r_ladd X57.here hx (hb hby d6_72) (pc' := 73) rfl ?_
      refine r_retJ X57 hx hlk hret (hb hby d6_73) ?_ (by decide) (by decide)
      try rw [e57]
      exact ⟨rfl, N0, rfl⟩
    refine r_iload X55.here hx (hb hby d6_27) rfl (pc' := 29) rfl ?_
    refine r_bipush X55.here hx (hb hby d6_29) (v := 34) rfl (pc' := 31) rfl ?_
    refine r_if_eq X55.here hx (hb hby d6_31) (by decide) (pc' := 41) (by decide) (pc2 := 34) rfl (fun hc31 => ?_) (fun hc31 => ?_)
    · refine r_lloadN X55.here hx (hb hby d6_41) rfl (pc' := 42) rfl ?_
      refine r_lconst X55.here hx (hb hby d6_42) (v := 1) rfl (pc' := 43) rfl ?_
      refine r_ladd X55.here hx (hb hby d6_43) (pc' := 44) rfl ?_
      refine r_lstoreN X55.here hx (hb hby d6_44) (l' := #[.val (.ref a), .val (.long (((0 : Int64) + own_sp b0) + (1 : Int64))), .second, .val (.ref t), .val (.int (2 : Int32)), .val (.int ((0 : Int32) + (1 : Int32))), .val (.int b1)]) rfl (pc' := 45) rfl ?_
      exact J1 _ (own_t1 _ hc31 _)
    · refine r_iload X55.here hx (hb hby d6_34) rfl (pc' := 36) rfl ?_
      refine r_bipush X55.here hx (hb hby d6_36) (v := 92) rfl (pc' := 38) rfl ?_
      refine r_if_ne X55.here hx (hb hby d6_38) (by decide) (pc' := 45) (by decide) (pc2 := 41) rfl (fun hc38 => ?_) (fun hc38 => ?_)
      · exact J1 _ (own_t3 _ hc31 hc38 _)
      · refine r_lloadN X55.here hx (hb hby d6_41) rfl (pc' := 42) rfl ?_
        refine r_lconst X55.here hx (hb hby d6_42) (v := 1) rfl (pc' := 43) rfl ?_
        refine r_ladd X55.here hx (hb hby d6_43) (pc' := 44) rfl ?_
        refine r_lstoreN X55.here hx (hb hby d6_44) (l' := #[.val (.ref a), .val (.long (((0 : Int64) + own_sp b0) + (1 : Int64))), .second, .val (.ref t), .val (.int (2 : Int32)), .val (.int ((0 : Int32) + (1 : Int32))), .val (.int b1)]) rfl (pc' := 45) rfl ?_
        exact J1 _ (own_t2 _ hc31 hc38 _)
  refine r_iload X55.here hx (hb hby d6_27) rfl (pc' := 29) rfl ?_
  refine r_bipush X55.here hx (hb hby d6_29) (v := 34) rfl (pc' := 31) rfl ?_
  refine r_if_eq X55.here hx (hb hby d6_31) (by decide) (pc' := 41) (by decide) (pc2 := 34) rfl (fun hc31 => ?_) (fun hc31 => ?_)
  · refine r_lloadN X55.here hx (hb hby d6_41) rfl (pc' := 42) rfl ?_
    refine r_lconst X55.here hx (hb hby d6_42) (v := 1) rfl (pc' := 43) rfl ?_
    refine r_ladd X55.here hx (hb hby d6_43) (pc' := 44) rfl ?_
    refine r_lstoreN X55.here hx (hb hby d6_44) (l' := #[.val (.ref a), .val (.long ((0 : Int64) + (1 : Int64))), .second, .val (.ref t), .val (.int (2 : Int32)), .val (.int (0 : Int32)), .val (.int b0)]) rfl (pc' := 45) rfl ?_
    exact J0 _ (own_t1 _ hc31 _)
  · refine r_iload X55.here hx (hb hby d6_34) rfl (pc' := 36) rfl ?_
    refine r_bipush X55.here hx (hb hby d6_36) (v := 92) rfl (pc' := 38) rfl ?_
    refine r_if_ne X55.here hx (hb hby d6_38) (by decide) (pc' := 45) (by decide) (pc2 := 41) rfl (fun hc38 => ?_) (fun hc38 => ?_)
    · exact J0 _ (own_t3 _ hc31 hc38 _)
    · refine r_lloadN X55.here hx (hb hby d6_41) rfl (pc' := 42) rfl ?_
      refine r_lconst X55.here hx (hb hby d6_42) (v := 1) rfl (pc' := 43) rfl ?_
      refine r_ladd X55.here hx (hb hby d6_43) (pc' := 44) rfl ?_
      refine r_lstoreN X55.here hx (hb hby d6_44) (l' := #[.val (.ref a), .val (.long ((0 : Int64) + (1 : Int64))), .second, .val (.ref t), .val (.int (2 : Int32)), .val (.int (0 : Int32)), .val (.int b0)]) rfl (pc' := 45) rfl ?_
      exact J0 _ (own_t2 _ hc31 hc38 _)
theorem ef_rmA3 (m : MethodId) (x0 : Addr) : entryFrame m #[(.ref x0)] 7 = mkF m 0 #[.val (.ref x0), .unset, .unset, .unset, .unset, .unset, .unset] [] := by first | (simp [entryFrame, mkF, argsToLocals, Value.category, maxLocals]; done) | rfl
set_option maxRecDepth 65536 in
set_option maxHeartbeats 40000000 in
theorem rmA3 (l : Launch) (Z : State) (a0 : Array Value) (hw : ∀ d ∈ tables_1, d.before a0 Z = true) (ws : List Jvm.Cond) (a t : Addr) (cnt : Int32) (b0 : Int32) (b1 : Int32) (b2 : Int32) (f : Nat → Value) (h0 : Heap) (n0 : Nat) (Z0 : n0 ≤ h0.size) (Ft : Fld Z h0 a "com/example/lockstep/lockstep/Writeset$RowSet" "texts" "[B" (.ref t)) (Fc : Fld Z h0 a "com/example/lockstep/lockstep/Writeset$RowSet" "count" "I" (.int cnt)) (At : Ary Z h0 t .byte 3 f) (q0 : f 0 = .int b0) (q1 : f 1 = .int b1) (q2 : f 2 = .int b2) :
    Met l Z (⟨"com/example/lockstep/lockstep/Writeset$RowSet", "arraySize", "()J"⟩ : MethodName) prog_49_method_5_code 7 (some .long) ws ({ frames := 0, cells := 0, slots := 0, locals := 0 } : Room) #[(.ref a)] h0 (fun v h L => v = some (.long (((3 : Int32).toInt64 + ((((0 : Int64) + own_sp b0) + own_sp b1) + own_sp b2)) + 2 * cnt.toInt64 + 2)) ∧ Fr n0 L ∧ h = h0) 0 0 := by
  refine met_of (plainFor_of_name pn_2) (f0 := fun m => (mkF m 0 #[.val (.ref a), .unset, .unset, .unset, .unset, .unset, .unset] [])) (fun m => ef_rmA3 m a) ?_
  intro p e s m below meth c s₁ X0 hx hby hml hret hlk hown hnm hZ e0
  replace hown : s.vm.findClass "com/example/lockstep/lockstep/Writeset$RowSet" = some m.cls := hown
  have N0 := Fr.nil n0
  refine r_lconst X0.here hx (hb hby d6_0) (v := 0) rfl (pc' := 1) rfl ?_
  refine r_lstoreN X0.here hx (hb hby d6_1) (l' := #[.val (.ref a), .val (.long (0 : Int64)), .second, .unset, .unset, .unset, .unset]) rfl (pc' := 2) rfl ?_
  refine r_aloadN X0.here hx (hb hby d6_2) rfl rfl (pc' := 3) rfl ?_
  refine r_getF X0 hx hZ hown (hw _ (List.mem_of_getElem? (i := 38) rfl)) Via.refl e0 Ft (hb hby d6_3) (pc' := 6) rfl (fun T58 X58 e58 => ?_)
  refine r_astoreN X58.here hx (hb hby d6_6) rfl (l' := #[.val (.ref a), .val (.long (0 : Int64)), .second, .val (.ref t), .unset, .unset, .unset]) rfl (pc' := 7) rfl ?_
  refine r_aloadN X58.here hx (hb hby d6_7) rfl rfl (pc' := 8) rfl ?_
  refine r_len X58 hx hZ e58 (z := (3 : Int32)) At rfl (hb hby d6_8) (pc' := 9) rfl ?_
  refine r_istore X58.here hx (hb hby d6_9) (l' := #[.val (.ref a), .val (.long (0 : Int64)), .second, .val (.ref t), .val (.int (3 : Int32)), .unset, .unset]) rfl (pc' := 11) rfl ?_
  refine r_iconst X58.here hx (hb hby d6_11) (v := 0) rfl (pc' := 12) rfl ?_
  refine r_istore X58.here hx (hb hby d6_12) (l' := #[.val (.ref a), .val (.long (0 : Int64)), .second, .val (.ref t), .val (.int (3 : Int32)), .val (.int (0 : Int32)), .unset]) rfl (pc' := 14) rfl ?_
  refine r_iload X58.here hx (hb hby d6_14) rfl (pc' := 16) rfl ?_
  refine r_iload X58.here hx (hb hby d6_16) rfl (pc' := 18) rfl ?_
  refine r_if_ge X58.here hx (hb hby d6_18) (by decide) (pc' := 51) (by decide) (pc2 := 21) rfl (fun hc18 => absurd hc18 (by decide)) (fun hc18 => ?_)
  refine r_aloadN X58.here hx (hb hby d6_21) rfl rfl (pc' := 22) rfl ?_
  refine r_iload X58.here hx (hb hby d6_22) rfl (pc' := 24) rfl ?_
  refine q_baload X58 hx hZ e58 (j := (0 : Int32)) (v := b0) At (by decide) (by decide) q0 (hb hby d6_24) (pc' := 25) rfl ?_
  refine r_istore X58.here hx (hb hby d6_25) (l' := #[.val (.ref a), .val (.long (0 : Int64)), .second, .val (.ref t), .val (.int (3 : Int32)), .val (.int (0 : Int32)), .val (.int b0)]) rfl (pc' := 27) rfl ?_
  have J0 : ∀ z0 : Int64, z0 = (0 : Int64) + own_sp b0 → Run p e below (fun v h L => v = some (.long (((3 : Int32).toInt64 + ((((0 : Int64) + own_sp b0) + own_sp b1) + own_sp b2)) + 2 * cnt.toInt64 + 2)) ∧ Fr n0 L ∧ h = h0) (fun o t L => FrameEnd s o t L 0 0) T58 (mkF m 45 #[.val (.ref a), .val (.long z0), .second, .val (.ref t), .val (.int (3 : Int32)), .val (.int (0 : Int32)), .val (.int b0)] []) := by
    intro z0 hz0
    subst hz0
    refine r_iinc X58.here hx (hb hby d6_45) rfl (z := ((0 : Int32) + (1 : Int32))) rfl (l' := #[.val (.ref a), .val (.long ((0 : Int64) + own_sp b0)), .second, .val (.ref t), .val (.int (3 : Int32)), .val (.int ((0 : Int32) + (1 : Int32))), .val (.int b0)]) rfl (pc' := 48) rfl ?_
    refine r_goto X58.here hx (hb hby d6_48) (by decide) (pc' := 14) (by decide) ?_
    refine r_iload X58.here hx (hb hby d6_14) rfl (pc' := 16) rfl ?_
    refine r_iload X58.here hx (hb hby d6_16) rfl (pc' := 18) rfl ?_
    refine r_if_ge X58.here hx (hb hby d6_18) (by decide) (pc' := 51) (by decide) (pc2 := 21) rfl (fun hc18_1 => absurd hc18_1 (by decide)) (fun hc18_1 => ?_)
    refine r_aloadN X58.here hx (hb hby d6_21) rfl rfl (pc' := 22) rfl ?_
    refine r_iload X58.here hx (hb hby d6_22) rfl (pc' := 24) rfl ?_
    refine q_baload X58 hx hZ e58 (j := ((0 : Int32) + (1 : Int32))) (v := b1) At (by decide) (by decide) q1 (hb hby d6_24) (pc' := 25) rfl ?_
    refine r_istore X58.here hx (hb hby d6_25) (l' := #[.val (.ref a), .val (.long ((0 : Int64) + own_sp b0)), .second, .val (.ref t), .val (.int (3 : Int32)), .val (.int ((0 : Int32) + (1 : Int32))), .val (.int b1)]) rfl (pc' := 27) rfl ?_
    have J1 : ∀ z1 : Int64, z1 = ((0 : Int64) + own_sp b0) + own_sp b1 → Run p e below (fun v h L => v = some (.long (((3 : Int32).toInt64 + ((((0 : Int64) + own_sp b0) + own_sp b1) + own_sp b2)) + 2 * cnt.toInt64 + 2)) ∧ Fr n0 L ∧ h = h0) (fun o t L => FrameEnd s o t L 0 0) T58 (mkF m 45 #[.val (.ref a), .val (.long z1), .second, .val (.ref t), .val (.int (3 : Int32)), .val (.int ((0 : Int32) + (1 : Int32))), .val (.int b1)] []) := by
      intro z1 hz1
      subst hz1
      refine r_iinc X58.here hx (hb hby d6_45) rfl (z := (((0 : Int32) + (1 : Int32)) + (1 : Int32))) rfl (l' := #[.val (.ref a), .val (.long (((0 : Int64) + own_sp b0) + own_sp b1)), .second, .val (.ref t), .val (.int (3 : Int32)), .val (.int (((0 : Int32) + (1 : Int32)) + (1 : Int32))), .val (.int b1)]) rfl (pc' := 48) rfl ?_
      refine r_goto X58.here hx (hb hby d6_48) (by decide) (pc' := 14) (by decide) ?_
      refine r_iload X58.here hx (hb hby d6_14) rfl (pc' := 16) rfl ?_
      refine r_iload X58.here hx (hb hby d6_16) rfl (pc' := 18) rfl ?_
      refine r_if_ge X58.here hx (hb hby d6_18) (by decide) (pc' := 51) (by decide) (pc2 := 21) rfl (fun hc18_2 => absurd hc18_2 (by decide)) (fun hc18_2 => ?_)
      refine r_aloadN X58.here hx (hb hby d6_21) rfl rfl (pc' := 22) rfl ?_
      refine r_iload X58.here hx (hb hby d6_22) rfl (pc' := 24) rfl ?_
      refine q_baload X58 hx hZ e58 (j := (((0 : Int32) + (1 : Int32)) + (1 : Int32))) (v := b2) At (by decide) (by decide) q2 (hb hby d6_24) (pc' := 25) rfl ?_
      refine r_istore X58.here hx (hb hby d6_25) (l' := #[.val (.ref a), .val (.long (((0 : Int64) + own_sp b0) + own_sp b1)), .second, .val (.ref t), .val (.int (3 : Int32)), .val (.int (((0 : Int32) + (1 : Int32)) + (1 : Int32))), .val (.int b2)]) rfl (pc' := 27) rfl ?_
      have J2 : ∀ z2 : Int64, z2 = (((0 : Int64) + own_sp b0) + own_sp b1) + own_sp b2 → Run p e below (fun v h L => v = some (.long (((3 : Int32).toInt64 + ((((0 : Int64) + own_sp b0) + own_sp b1) + own_sp b2)) + 2 * cnt.toInt64 + 2)) ∧ Fr n0 L ∧ h = h0) (fun o t L => FrameEnd s o t L 0 0) T58 (mkF m 45 #[.val (.ref a), .val (.long z2), .second, .val (.ref t), .val (.int (3 : Int32)), .val (.int (((0 : Int32) + (1 : Int32)) + (1 : Int32))), .val (.int b2)] []) := by
        intro z2 hz2
        subst hz2
        refine r_iinc X58.here hx (hb hby d6_45) rfl (z := ((((0 : Int32) + (1 : Int32)) + (1 : Int32)) + (1 : Int32))) rfl (l' := #[.val (.ref a), .val (.long ((((0 : Int64) + own_sp b0) + own_sp b1) + own_sp b2)), .second, .val (.ref t), .val (.int (3 : Int32)), .val (.int ((((0 : Int32) + (1 : Int32)) + (1 : Int32)) + (1 : Int32))), .val (.int b2)]) rfl (pc' := 48) rfl ?_
        refine r_goto X58.here hx (hb hby d6_48) (by decide) (pc' := 14) (by decide) ?_
        refine r_iload X58.here hx (hb hby d6_14) rfl (pc' := 16) rfl ?_
        refine r_iload X58.here hx (hb hby d6_16) rfl (pc' := 18) rfl ?_
        refine r_if_ge X58.here hx (hb hby d6_18) (by decide) (pc' := 51) (by decide) (pc2 := 21) rfl (fun hc18_3 => ?_) (fun hc18_3 => absurd (by decide) hc18_3)
        refine r_aloadN X58.here hx (hb hby d6_51) rfl rfl (pc' := 52) rfl ?_
        refine r_getF X58 hx hZ hown (hw _ (List.mem_of_getElem? (i := 38) rfl)) Via.refl e58 Ft (hb hby d6_52) (pc' := 55) rfl (fun T59 X59 e59 => ?_)
        refine r_len X59 hx hZ e59 (z := (3 : Int32)) At rfl (hb hby d6_55) (pc' := 56) rfl ?_
        refine r_i2l X59.here hx (hb hby d6_56) (pc' := 57) rfl ?_
        refine r_lloadN X59.here hx (hb hby d6_57) rfl (pc' := 58) rfl ?_
        refine r_ladd X59.here hx (hb hby d6_58) (pc' := 59) rfl ?_
        refine r_ldc2 X59 hx hZ hown (hw _ (List.mem_of_getElem? (i := 49) rfl)) (hb hby d6_59) (pc' := 62) rfl ?_
        refine r_aloadN X59.here hx (hb hby d6_62) rfl rfl (pc' := 63) rfl ?_
        refine r_getF X59 hx hZ hown (hw _ (List.mem_of_getElem? (i := 36) rfl)) Via.refl e59 Fc (hb hby d6_63) (pc' := 66) rfl (fun T60 X60 e60 => ?_)
        refine r_i2l X60.here hx (hb hby d6_66) (pc' := 67) rfl ?_
        refine r_lmul X60.here hx (hb hby d6_67) (pc' := 68) rfl ?_
        refine r_ladd X60.here hx (hb hby d6_68) (pc' := 69) rfl ?_
        refine r_ldc2 X60 hx hZ hown (hw _ (List.mem_of_getElem? (i := 49) rfl)) (hb hby d6_69) (pc' := 72) rfl ?_
        refine r_ladd X60.here hx (hb hby d6_72) (pc' := 73) rfl ?_
        refine r_retJ X60 hx hlk hret (hb hby d6_73) ?_ (by decide) (by decide)
        try rw [e60]
        exact ⟨rfl, N0, rfl⟩
      refine r_iload X58.here hx (hb hby d6_27) rfl (pc' := 29) rfl ?_
      refine r_bipush X58.here hx (hb hby d6_29) (v := 34) rfl (pc' := 31) rfl ?_
      refine r_if_eq X58.here hx (hb hby d6_31) (by decide) (pc' := 41) (by decide) (pc2 := 34) rfl (fun hc31 => ?_) (fun hc31 => ?_)
      · refine r_lloadN X58.here hx (hb hby d6_41) rfl (pc' := 42) rfl ?_
        refine r_lconst X58.here hx (hb hby d6_42) (v := 1) rfl (pc' := 43) rfl ?_
        refine r_ladd X58.here hx (hb hby d6_43) (pc' := 44) rfl ?_
        refine r_lstoreN X58.here hx (hb hby d6_44) (l' := #[.val (.ref a), .val (.long ((((0 : Int64) + own_sp b0) + own_sp b1) + (1 : Int64))), .second, .val (.ref t), .val (.int (3 : Int32)), .val (.int (((0 : Int32) + (1 : Int32)) + (1 : Int32))), .val (.int b2)]) rfl (pc' := 45) rfl ?_
        exact J2 _ (own_t1 _ hc31 _)
      · refine r_iload X58.here hx (hb hby d6_34) rfl (pc' := 36) rfl ?_
        refine r_bipush X58.here hx (hb hby d6_36) (v := 92) rfl (pc' := 38) rfl ?_
        refine r_if_ne X58.here hx (hb hby d6_38) (by decide) (pc' := 45) (by decide) (pc2 := 41) rfl (fun hc38 => ?_) (fun hc38 => ?_)
        · exact J2 _ (own_t3 _ hc31 hc38 _)
        · refine r_lloadN X58.here hx (hb hby d6_41) rfl (pc' := 42) rfl ?_
          refine r_lconst X58.here hx (hb hby d6_42) (v := 1) rfl (pc' := 43) rfl ?_
          refine r_ladd X58.here hx (hb hby d6_43) (pc' := 44) rfl ?_
          refine r_lstoreN X58.here hx (hb hby d6_44) (l' := #[.val (.ref a), .val (.long ((((0 : Int64) + own_sp b0) + own_sp b1) + (1 : Int64))), .second, .val (.ref t), .val (.int (3 : Int32)), .val (.int (((0 : Int32) + (1 : Int32)) + (1 : Int32))), .val (.int b2)]) rfl (pc' := 45) rfl ?_
          exact J2 _ (own_t2 _ hc31 hc38 _)
    refine r_iload X58.here hx (hb hby d6_27) rfl (pc' := 29) rfl ?_
    refine r_bipush X58.here hx (hb hby d6_29) (v := 34) rfl (pc' := 31) rfl ?_
    refine r_if_eq X58.here hx (hb hby d6_31) (by decide) (pc' := 41) (by decide) (pc2 := 34) rfl (fun hc31 => ?_) (fun hc31 => ?_)
    · refine r_lloadN X58.here hx (hb hby d6_41) rfl (pc' := 42) rfl ?_
      refine r_lconst X58.here hx (hb hby d6_42) (v := 1) rfl (pc' := 43) rfl ?_
      refine r_ladd X58.here hx (hb hby d6_43) (pc' := 44) rfl ?_
      refine r_lstoreN X58.here hx (hb hby d6_44) (l' := #[.val (.ref a), .val (.long (((0 : Int64) + own_sp b0) + (1 : Int64))), .second, .val (.ref t), .val (.int (3 : Int32)), .val (.int ((0 : Int32) + (1 : Int32))), .val (.int b1)]) rfl (pc' := 45) rfl ?_
      exact J1 _ (own_t1 _ hc31 _)
    · refine r_iload X58.here hx (hb hby d6_34) rfl (pc' := 36) rfl ?_
      refine r_bipush X58.here hx (hb hby d6_36) (v := 92) rfl (pc' := 38) rfl ?_
      refine r_if_ne X58.here hx (hb hby d6_38) (by decide) (pc' := 45) (by decide) (pc2 := 41) rfl (fun hc38 => ?_) (fun hc38 => ?_)
      · exact J1 _ (own_t3 _ hc31 hc38 _)
      · refine r_lloadN X58.here hx (hb hby d6_41) rfl (pc' := 42) rfl ?_
        refine r_lconst X58.here hx (hb hby d6_42) (v := 1) rfl (pc' := 43) rfl ?_
        refine r_ladd X58.here hx (hb hby d6_43) (pc' := 44) rfl ?_
        refine r_lstoreN X58.here hx (hb hby d6_44) (l' := #[.val (.ref a), .val (.long (((0 : Int64) + own_sp b0) + (1 : Int64))), .second, .val (.ref t), .val (.int (3 : Int32)), .val (.int ((0 : Int32) + (1 : Int32))), .val (.int b1)]) rfl (pc' := 45) rfl ?_
        exact J1 _ (own_t2 _ hc31 hc38 _)
  refine r_iload X58.here hx (hb hby d6_27) rfl (pc' := 29) rfl ?_
  refine r_bipush X58.here hx (hb hby d6_29) (v := 34) rfl (pc' := 31) rfl ?_
  refine r_if_eq X58.here hx (hb hby d6_31) (by decide) (pc' := 41) (by decide) (pc2 := 34) rfl (fun hc31 => ?_) (fun hc31 => ?_)
  · refine r_lloadN X58.here hx (hb hby d6_41) rfl (pc' := 42) rfl ?_
    refine r_lconst X58.here hx (hb hby d6_42) (v := 1) rfl (pc' := 43) rfl ?_
    refine r_ladd X58.here hx (hb hby d6_43) (pc' := 44) rfl ?_
    refine r_lstoreN X58.here hx (hb hby d6_44) (l' := #[.val (.ref a), .val (.long ((0 : Int64) + (1 : Int64))), .second, .val (.ref t), .val (.int (3 : Int32)), .val (.int (0 : Int32)), .val (.int b0)]) rfl (pc' := 45) rfl ?_
    exact J0 _ (own_t1 _ hc31 _)
  · refine r_iload X58.here hx (hb hby d6_34) rfl (pc' := 36) rfl ?_
    refine r_bipush X58.here hx (hb hby d6_36) (v := 92) rfl (pc' := 38) rfl ?_
    refine r_if_ne X58.here hx (hb hby d6_38) (by decide) (pc' := 45) (by decide) (pc2 := 41) rfl (fun hc38 => ?_) (fun hc38 => ?_)
    · exact J0 _ (own_t3 _ hc31 hc38 _)
    · refine r_lloadN X58.here hx (hb hby d6_41) rfl (pc' := 42) rfl ?_
      refine r_lconst X58.here hx (hb hby d6_42) (v := 1) rfl (pc' := 43) rfl ?_
      refine r_ladd X58.here hx (hb hby d6_43) (pc' := 44) rfl ?_
      refine r_lstoreN X58.here hx (hb hby d6_44) (l' := #[.val (.ref a), .val (.long ((0 : Int64) + (1 : Int64))), .second, .val (.ref t), .val (.int (3 : Int32)), .val (.int (0 : Int32)), .val (.int b0)]) rfl (pc' := 45) rfl ?_
      exact J0 _ (own_t2 _ hc31 hc38 _)
theorem ef_rmA4 (m : MethodId) (x0 : Addr) : entryFrame m #[(.ref x0)] 7 = mkF m 0 #[.val (.ref x0), .unset, .unset, .unset, .unset, .unset, .unset] [] := by first | (simp [entryFrame, mkF, argsToLocals, Value.category, maxLocals]; done) | rfl
set_option maxRecDepth 65536 in
set_option maxHeartbeats 40000000 in
theorem rmA4 (l : Launch) (Z : State) (a0 : Array Value) (hw : ∀ d ∈ tables_1, d.before a0 Z = true) (ws : List Jvm.Cond) (a t : Addr) (cnt : Int32) (b0 : Int32) (b1 : Int32) (b2 : Int32) (b3 : Int32) (f : Nat → Value) (h0 : Heap) (n0 : Nat) (Z0 : n0 ≤ h0.size) (Ft : Fld Z h0 a "com/example/lockstep/lockstep/Writeset$RowSet" "texts" "[B" (.ref t)) (Fc : Fld Z h0 a "com/example/lockstep/lockstep/Writeset$RowSet" "count" "I" (.int cnt)) (At : Ary Z h0 t .byte 4 f) (q0 : f 0 = .int b0) (q1 : f 1 = .int b1) (q2 : f 2 = .int b2) (q3 : f 3 = .int b3) :
    Met l Z (⟨"com/example/lockstep/lockstep/Writeset$RowSet", "arraySize", "()J"⟩ : MethodName) prog_49_method_5_code 7 (some .long) ws ({ frames := 0, cells := 0, slots := 0, locals := 0 } : Room) #[(.ref a)] h0 (fun v h L => v = some (.long (((4 : Int32).toInt64 + (((((0 : Int64) + own_sp b0) + own_sp b1) + own_sp b2) + own_sp b3)) + 2 * cnt.toInt64 + 2)) ∧ Fr n0 L ∧ h = h0) 0 0 := by
  refine met_of (plainFor_of_name pn_2) (f0 := fun m => (mkF m 0 #[.val (.ref a), .unset, .unset, .unset, .unset, .unset, .unset] [])) (fun m => ef_rmA4 m a) ?_
  intro p e s m below meth c s₁ X0 hx hby hml hret hlk hown hnm hZ e0
  replace hown : s.vm.findClass "com/example/lockstep/lockstep/Writeset$RowSet" = some m.cls := hown
  have N0 := Fr.nil n0
  refine r_lconst X0.here hx (hb hby d6_0) (v := 0) rfl (pc' := 1) rfl ?_
  refine r_lstoreN X0.here hx (hb hby d6_1) (l' := #[.val (.ref a), .val (.long (0 : Int64)), .second, .unset, .unset, .unset, .unset]) rfl (pc' := 2) rfl ?_
  refine r_aloadN X0.here hx (hb hby d6_2) rfl rfl (pc' := 3) rfl ?_
  refine r_getF X0 hx hZ hown (hw _ (List.mem_of_getElem? (i := 38) rfl)) Via.refl e0 Ft (hb hby d6_3) (pc' := 6) rfl (fun T61 X61 e61 => ?_)
  refine r_astoreN X61.here hx (hb hby d6_6) rfl (l' := #[.val (.ref a), .val (.long (0 : Int64)), .second, .val (.ref t), .unset, .unset, .unset]) rfl (pc' := 7) rfl ?_
  refine r_aloadN X61.here hx (hb hby d6_7) rfl rfl (pc' := 8) rfl ?_
  refine r_len X61 hx hZ e61 (z := (4 : Int32)) At rfl (hb hby d6_8) (pc' := 9) rfl ?_
  refine r_istore X61.here hx (hb hby d6_9) (l' := #[.val (.ref a), .val (.long (0 : Int64)), .second, .val (.ref t), .val (.int (4 : Int32)), .unset, .unset]) rfl (pc' := 11) rfl ?_
  refine r_iconst X61.here hx (hb hby d6_11) (v := 0) rfl (pc' := 12) rfl ?_
  refine r_istore X61.here hx (hb hby d6_12) (l' := #[.val (.ref a), .val (.long (0 : Int64)), .second, .val (.ref t), .val (.int (4 : Int32)), .val (.int (0 : Int32)), .unset]) rfl (pc' := 14) rfl ?_
  refine r_iload X61.here hx (hb hby d6_14) rfl (pc' := 16) rfl ?_
  refine r_iload X61.here hx (hb hby d6_16) rfl (pc' := 18) rfl ?_
  refine r_if_ge X61.here hx (hb hby d6_18) (by decide) (pc' := 51) (by decide) (pc2 := 21) rfl (fun hc18 => absurd hc18 (by decide)) (fun hc18 => ?_)
  refine r_aloadN X61.here hx (hb hby d6_21) rfl rfl (pc' := 22) rfl ?_
  refine r_iload X61.here hx (hb hby d6_22) rfl (pc' := 24) rfl ?_
  refine q_baload X61 hx hZ e61 (j := (0 : Int32)) (v := b0) At (by decide) (by decide) q0 (hb hby d6_24) (pc' := 25) rfl ?_
  refine r_istore X61.here hx (hb hby d6_25) (l' := #[.val (.ref a), .val (.long (0 : Int64)), .second, .val (.ref t), .val (.int (4 : Int32)), .val (.int (0 : Int32)), .val (.int b0)]) rfl (pc' := 27) rfl ?_
  have J0 : ∀ z0 : Int64, z0 = (0 : Int64) + own_sp b0 → Run p e below (fun v h L => v = some (.long (((4 : Int32).toInt64 + (((((0 : Int64) + own_sp b0) + own_sp b1) + own_sp b2) + own_sp b3)) + 2 * cnt.toInt64 + 2)) ∧ Fr n0 L ∧ h = h0) (fun o t L => FrameEnd s o t L 0 0) T61 (mkF m 45 #[.val (.ref a), .val (.long z0), .second, .val (.ref t), .val (.int (4 : Int32)), .val (.int (0 : Int32)), .val (.int b0)] []) := by
    intro z0 hz0
    subst hz0
    refine r_iinc X61.here hx (hb hby d6_45) rfl (z := ((0 : Int32) + (1 : Int32))) rfl (l' := #[.val (.ref a), .val (.long ((0 : Int64) + own_sp b0)), .second, .val (.ref t), .val (.int (4 : Int32)), .val (.int ((0 : Int32) + (1 : Int32))), .val (.int b0)]) rfl (pc' := 48) rfl ?_
    refine r_goto X61.here hx (hb hby d6_48) (by decide) (pc' := 14) (by decide) ?_
    refine r_iload X61.here hx (hb hby d6_14) rfl (pc' := 16) rfl ?_
    refine r_iload X61.here hx (hb hby d6_16) rfl (pc' := 18) rfl ?_
    refine r_if_ge X61.here hx (hb hby d6_18) (by decide) (pc' := 51) (by decide) (pc2 := 21) rfl (fun hc18_1 => absurd hc18_1 (by decide)) (fun hc18_1 => ?_)
    refine r_aloadN X61.here hx (hb hby d6_21) rfl rfl (pc' := 22) rfl ?_
    refine r_iload X61.here hx (hb hby d6_22) rfl (pc' := 24) rfl ?_
    refine q_baload X61 hx hZ e61 (j := ((0 : Int32) + (1 : Int32))) (v := b1) At (by decide) (by decide) q1 (hb hby d6_24) (pc' := 25) rfl ?_
    refine r_istore X61.here hx (hb hby d6_25) (l' := #[.val (.ref a), .val (.long ((0 : Int64) + own_sp b0)), .second, .val (.ref t), .val (.int (4 : Int32)), .val (.int ((0 : Int32) + (1 : Int32))), .val (.int b1)]) rfl (pc' := 27) rfl ?_
    have J1 : ∀ z1 : Int64, z1 = ((0 : Int64) + own_sp b0) + own_sp b1 → Run p e below (fun v h L => v = some (.long (((4 : Int32).toInt64 + (((((0 : Int64) + own_sp b0) + own_sp b1) + own_sp b2) + own_sp b3)) + 2 * cnt.toInt64 + 2)) ∧ Fr n0 L ∧ h = h0) (fun o t L => FrameEnd s o t L 0 0) T61 (mkF m 45 #[.val (.ref a), .val (.long z1), .second, .val (.ref t), .val (.int (4 : Int32)), .val (.int ((0 : Int32) + (1 : Int32))), .val (.int b1)] []) := by
      intro z1 hz1
      subst hz1
      refine r_iinc X61.here hx (hb hby d6_45) rfl (z := (((0 : Int32) + (1 : Int32)) + (1 : Int32))) rfl (l' := #[.val (.ref a), .val (.long (((0 : Int64) + own_sp b0) + own_sp b1)), .second, .val (.ref t), .val (.int (4 : Int32)), .val (.int (((0 : Int32) + (1 : Int32)) + (1 : Int32))), .val (.int b1)]) rfl (pc' := 48) rfl ?_
      refine r_goto X61.here hx (hb hby d6_48) (by decide) (pc' := 14) (by decide) ?_
      refine r_iload X61.here hx (hb hby d6_14) rfl (pc' := 16) rfl ?_
      refine r_iload X61.here hx (hb hby d6_16) rfl (pc' := 18) rfl ?_
      refine r_if_ge X61.here hx (hb hby d6_18) (by decide) (pc' := 51) (by decide) (pc2 := 21) rfl (fun hc18_2 => absurd hc18_2 (by decide)) (fun hc18_2 => ?_)
      refine r_aloadN X61.here hx (hb hby d6_21) rfl rfl (pc' := 22) rfl ?_
      refine r_iload X61.here hx (hb hby d6_22) rfl (pc' := 24) rfl ?_
      refine q_baload X61 hx hZ e61 (j := (((0 : Int32) + (1 : Int32)) + (1 : Int32))) (v := b2) At (by decide) (by decide) q2 (hb hby d6_24) (pc' := 25) rfl ?_
      refine r_istore X61.here hx (hb hby d6_25) (l' := #[.val (.ref a), .val (.long (((0 : Int64) + own_sp b0) + own_sp b1)), .second, .val (.ref t), .val (.int (4 : Int32)), .val (.int (((0 : Int32) + (1 : Int32)) + (1 : Int32))), .val (.int b2)]) rfl (pc' := 27) rfl ?_
      have J2 : ∀ z2 : Int64, z2 = (((0 : Int64) + own_sp b0) + own_sp b1) + own_sp b2 → Run p e below (fun v h L => v = some (.long (((4 : Int32).toInt64 + (((((0 : Int64) + own_sp b0) + own_sp b1) + own_sp b2) + own_sp b3)) + 2 * cnt.toInt64 + 2)) ∧ Fr n0 L ∧ h = h0) (fun o t L => FrameEnd s o t L 0 0) T61 (mkF m 45 #[.val (.ref a), .val (.long z2), .second, .val (.ref t), .val (.int (4 : Int32)), .val (.int (((0 : Int32) + (1 : Int32)) + (1 : Int32))), .val (.int b2)] []) := by
        intro z2 hz2
        subst hz2
        refine r_iinc X61.here hx (hb hby d6_45) rfl (z := ((((0 : Int32) + (1 : Int32)) + (1 : Int32)) + (1 : Int32))) rfl (l' := #[.val (.ref a), .val (.long ((((0 : Int64) + own_sp b0) + own_sp b1) + own_sp b2)), .second, .val (.ref t), .val (.int (4 : Int32)), .val (.int ((((0 : Int32) + (1 : Int32)) + (1 : Int32)) + (1 : Int32))), .val (.int b2)]) rfl (pc' := 48) rfl ?_
        refine r_goto X61.here hx (hb hby d6_48) (by decide) (pc' := 14) (by decide) ?_
        refine r_iload X61.here hx (hb hby d6_14) rfl (pc' := 16) rfl ?_
        refine r_iload X61.here hx (hb hby d6_16) rfl (pc' := 18) rfl ?_
        refine r_if_ge X61.here hx (hb hby d6_18) (by decide) (pc' := 51) (by decide) (pc2 := 21) rfl (fun hc18_3 => absurd hc18_3 (by decide)) (fun hc18_3 => ?_)
        refine r_aloadN X61.here hx (hb hby d6_21) rfl rfl (pc' := 22) rfl ?_
        refine r_iload X61.here hx (hb hby d6_22) rfl (pc' := 24) rfl ?_
        refine q_baload X61 hx hZ e61 (j := ((((0 : Int32) + (1 : Int32)) + (1 : Int32)) + (1 : Int32))) (v := b3) At (by decide) (by decide) q3 (hb hby d6_24) (pc' := 25) rfl ?_
        refine r_istore X61.here hx (hb hby d6_25) (l' := #[.val (.ref a), .val (.long ((((0 : Int64) + own_sp b0) + own_sp b1) + own_sp b2)), .second, .val (.ref t), .val (.int (4 : Int32)), .val (.int ((((0 : Int32) + (1 : Int32)) + (1 : Int32)) + (1 : Int32))), .val (.int b3)]) rfl (pc' := 27) rfl ?_
        have J3 : ∀ z3 : Int64, z3 = ((((0 : Int64) + own_sp b0) + own_sp b1) + own_sp b2) + own_sp b3 → Run p e below (fun v h L => v = some (.long (((4 : Int32).toInt64 + (((((0 : Int64) + own_sp b0) + own_sp b1) + own_sp b2) + own_sp b3)) + 2 * cnt.toInt64 + 2)) ∧ Fr n0 L ∧ h = h0) (fun o t L => FrameEnd s o t L 0 0) T61 (mkF m 45 #[.val (.ref a), .val (.long z3), .second, .val (.ref t), .val (.int (4 : Int32)), .val (.int ((((0 : Int32) + (1 : Int32)) + (1 : Int32)) + (1 : Int32))), .val (.int b3)] []) := by
          intro z3 hz3
          subst hz3
          refine r_iinc X61.here hx (hb hby d6_45) rfl (z := (((((0 : Int32) + (1 : Int32)) + (1 : Int32)) + (1 : Int32)) + (1 : Int32))) rfl (l' := #[.val (.ref a), .val (.long (((((0 : Int64) + own_sp b0) + own_sp b1) + own_sp b2) + own_sp b3)), .second, .val (.ref t), .val (.int (4 : Int32)), .val (.int (((((0 : Int32) + (1 : Int32)) + (1 : Int32)) + (1 : Int32)) + (1 : Int32))), .val (.int b3)]) rfl (pc' := 48) rfl ?_
          refine r_goto X61.here hx (hb hby d6_48) (by decide) (pc' := 14) (by decide) ?_
          refine r_iload X61.here hx (hb hby d6_14) rfl (pc' := 16) rfl ?_
          refine r_iload X61.here hx (hb hby d6_16) rfl (pc' := 18) rfl ?_
          refine r_if_ge X61.here hx (hb hby d6_18) (by decide) (pc' := 51) (by decide) (pc2 := 21) rfl (fun hc18_4 => ?_) (fun hc18_4 => absurd (by decide) hc18_4)
          refine r_aloadN X61.here hx (hb hby d6_51) rfl rfl (pc' := 52) rfl ?_
          refine r_getF X61 hx hZ hown (hw _ (List.mem_of_getElem? (i := 38) rfl)) Via.refl e61 Ft (hb hby d6_52) (pc' := 55) rfl (fun T62 X62 e62 => ?_)
          refine r_len X62 hx hZ e62 (z := (4 : Int32)) At rfl (hb hby d6_55) (pc' := 56) rfl ?_
          refine r_i2l X62.here hx (hb hby d6_56) (pc' := 57) rfl ?_
          refine r_lloadN X62.here hx (hb hby d6_57) rfl (pc' := 58) rfl ?_
          refine r_ladd X62.here hx (hb hby d6_58) (pc' := 59) rfl ?_
          refine r_ldc2 X62 hx hZ hown (hw _ (List.mem_of_getElem? (i := 49) rfl)) (hb hby d6_59) (pc' := 62) rfl ?_
          refine r_aloadN X62.here hx (hb hby d6_62) rfl rfl (pc' := 63) rfl ?_
          refine r_getF X62 hx hZ hown (hw _ (List.mem_of_getElem? (i := 36) rfl)) Via.refl e62 Fc (hb hby d6_63) (pc' := 66) rfl (fun T63 X63 e63 => ?_)
          refine r_i2l X63.here hx (hb hby d6_66) (pc' := 67) rfl ?_
          refine r_lmul X63.here hx (hb hby d6_67) (pc' := 68) rfl ?_
          refine r_ladd X63.here hx (hb hby d6_68) (pc' := 69) rfl ?_
          refine r_ldc2 X63 hx hZ hown (hw _ (List.mem_of_getElem? (i := 49) rfl)) (hb hby d6_69) (pc' := 72) rfl ?_
          refine r_ladd X63.here hx (hb hby d6_72) (pc' := 73) rfl ?_
          refine r_retJ X63 hx hlk hret (hb hby d6_73) ?_ (by decide) (by decide)
          try rw [e63]
          exact ⟨rfl, N0, rfl⟩
        refine r_iload X61.here hx (hb hby d6_27) rfl (pc' := 29) rfl ?_
        refine r_bipush X61.here hx (hb hby d6_29) (v := 34) rfl (pc' := 31) rfl ?_
        refine r_if_eq X61.here hx (hb hby d6_31) (by decide) (pc' := 41) (by decide) (pc2 := 34) rfl (fun hc31 => ?_) (fun hc31 => ?_)
        · refine r_lloadN X61.here hx (hb hby d6_41) rfl (pc' := 42) rfl ?_
          refine r_lconst X61.here hx (hb hby d6_42) (v := 1) rfl (pc' := 43) rfl ?_
          refine r_ladd X61.here hx (hb hby d6_43) (pc' := 44) rfl ?_
          refine r_lstoreN X61.here hx (hb hby d6_44) (l' := #[.val (.ref a), .val (.long (((((0 : Int64) + own_sp b0) + own_sp b1) + own_sp b2) + (1 : Int64))), .second, .val (.ref t), .val (.int (4 : Int32)), .val (.int ((((0 : Int32) + (1 : Int32)) + (1 : Int32)) + (1 : Int32))), .val (.int b3)]) rfl (pc' := 45) rfl ?_
          exact J3 _ (own_t1 _ hc31 _)
        · refine r_iload X61.here hx (hb hby d6_34) rfl (pc' := 36) rfl ?_
          refine r_bipush X61.here hx (hb hby d6_36) (v := 92) rfl (pc' := 38) rfl ?_
          refine r_if_ne X61.here hx (hb hby d6_38) (by decide) (pc' := 45) (by decide) (pc2 := 41) rfl (fun hc38 => ?_) (fun hc38 => ?_)
          · exact J3 _ (own_t3 _ hc31 hc38 _)
          · refine r_lloadN X61.here hx (hb hby d6_41) rfl (pc' := 42) rfl ?_
            refine r_lconst X61.here hx (hb hby d6_42) (v := 1) rfl (pc' := 43) rfl ?_
            refine r_ladd X61.here hx (hb hby d6_43) (pc' := 44) rfl ?_
            refine r_lstoreN X61.here hx (hb hby d6_44) (l' := #[.val (.ref a), .val (.long (((((0 : Int64) + own_sp b0) + own_sp b1) + own_sp b2) + (1 : Int64))), .second, .val (.ref t), .val (.int (4 : Int32)), .val (.int ((((0 : Int32) + (1 : Int32)) + (1 : Int32)) + (1 : Int32))), .val (.int b3)]) rfl (pc' := 45) rfl ?_
            exact J3 _ (own_t2 _ hc31 hc38 _)
      refine r_iload X61.here hx (hb hby d6_27) rfl (pc' := 29) rfl ?_
      refine r_bipush X61.here hx (hb hby d6_29) (v := 34) rfl (pc' := 31) rfl ?_
      refine r_if_eq X61.here hx (hb hby d6_31) (by decide) (pc' := 41) (by decide) (pc2 := 34) rfl (fun hc31 => ?_) (fun hc31 => ?_)
      · refine r_lloadN X61.here hx (hb hby d6_41) rfl (pc' := 42) rfl ?_
        refine r_lconst X61.here hx (hb hby d6_42) (v := 1) rfl (pc' := 43) rfl ?_
        refine r_ladd X61.here hx (hb hby d6_43) (pc' := 44) rfl ?_
        refine r_lstoreN X61.here hx (hb hby d6_44) (l' := #[.val (.ref a), .val (.long ((((0 : Int64) + own_sp b0) + own_sp b1) + (1 : Int64))), .second, .val (.ref t), .val (.int (4 : Int32)), .val (.int (((0 : Int32) + (1 : Int32)) + (1 : Int32))), .val (.int b2)]) rfl (pc' := 45) rfl ?_
        exact J2 _ (own_t1 _ hc31 _)
      · refine r_iload X61.here hx (hb hby d6_34) rfl (pc' := 36) rfl ?_
        refine r_bipush X61.here hx (hb hby d6_36) (v := 92) rfl (pc' := 38) rfl ?_
        refine r_if_ne X61.here hx (hb hby d6_38) (by decide) (pc' := 45) (by decide) (pc2 := 41) rfl (fun hc38 => ?_) (fun hc38 => ?_)
        · exact J2 _ (own_t3 _ hc31 hc38 _)
        · refine r_lloadN X61.here hx (hb hby d6_41) rfl (pc' := 42) rfl ?_
          refine r_lconst X61.here hx (hb hby d6_42) (v := 1) rfl (pc' := 43) rfl ?_
          refine r_ladd X61.here hx (hb hby d6_43) (pc' := 44) rfl ?_
          refine r_lstoreN X61.here hx (hb hby d6_44) (l' := #[.val (.ref a), .val (.long ((((0 : Int64) + own_sp b0) + own_sp b1) + (1 : Int64))), .second, .val (.ref t), .val (.int (4 : Int32)), .val (.int (((0 : Int32) + (1 : Int32)) + (1 : Int32))), .val (.int b2)]) rfl (pc' := 45) rfl ?_
          exact J2 _ (own_t2 _ hc31 hc38 _)
    refine r_iload X61.here hx (hb hby d6_27) rfl (pc' := 29) rfl ?_
    refine r_bipush X61.here hx (hb hby d6_29) (v := 34) rfl (pc' := 31) rfl ?_
    refine r_if_eq X61.here hx (hb hby d6_31) (by decide) (pc' := 41) (by decide) (pc2 := 34) rfl (fun hc31 => ?_) (fun hc31 => ?_)
    · refine r_lloadN X61.here hx (hb hby d6_41) rfl (pc' := 42) rfl ?_
      refine r_lconst X61.here hx (hb hby d6_42) (v := 1) rfl (pc' := 43) rfl ?_
      refine r_ladd X61.here hx (hb hby d6_43) (pc' := 44) rfl ?_
      refine r_lstoreN X61.here hx (hb hby d6_44) (l' := #[.val (.ref a), .val (.long (((0 : Int64) + own_sp b0) + (1 : Int64))), .second, .val (.ref t), .val (.int (4 : Int32)), .val (.int ((0 : Int32) + (1 : Int32))), .val (.int b1)]) rfl (pc' := 45) rfl ?_
      exact J1 _ (own_t1 _ hc31 _)
    · refine r_iload X61.here hx (hb hby d6_34) rfl (pc' := 36) rfl ?_
      refine r_bipush X61.here hx (hb hby d6_36) (v := 92) rfl (pc' := 38) rfl ?_
      refine r_if_ne X61.here hx (hb hby d6_38) (by decide) (pc' := 45) (by decide) (pc2 := 41) rfl (fun hc38 => ?_) (fun hc38 => ?_)
      · exact J1 _ (own_t3 _ hc31 hc38 _)
      · refine r_lloadN X61.here hx (hb hby d6_41) rfl (pc' := 42) rfl ?_
        refine r_lconst X61.here hx (hb hby d6_42) (v := 1) rfl (pc' := 43) rfl ?_
        refine r_ladd X61.here hx (hb hby d6_43) (pc' := 44) rfl ?_
        refine r_lstoreN X61.here hx (hb hby d6_44) (l' := #[.val (.ref a), .val (.long (((0 : Int64) + own_sp b0) + (1 : Int64))), .second, .val (.ref t), .val (.int (4 : Int32)), .val (.int ((0 : Int32) + (1 : Int32))), .val (.int b1)]) rfl (pc' := 45) rfl ?_
        exact J1 _ (own_t2 _ hc31 hc38 _)
  refine r_iload X61.here hx (hb hby d6_27) rfl (pc' := 29) rfl ?_
  refine r_bipush X61.here hx (hb hby d6_29) (v := 34) rfl (pc' := 31) rfl ?_
  refine r_if_eq X61.here hx (hb hby d6_31) (by decide) (pc' := 41) (by decide) (pc2 := 34) rfl (fun hc31 => ?_) (fun hc31 => ?_)
  · refine r_lloadN X61.here hx (hb hby d6_41) rfl (pc' := 42) rfl ?_
    refine r_lconst X61.here hx (hb hby d6_42) (v := 1) rfl (pc' := 43) rfl ?_
    refine r_ladd X61.here hx (hb hby d6_43) (pc' := 44) rfl ?_
    refine r_lstoreN X61.here hx (hb hby d6_44) (l' := #[.val (.ref a), .val (.long ((0 : Int64) + (1 : Int64))), .second, .val (.ref t), .val (.int (4 : Int32)), .val (.int (0 : Int32)), .val (.int b0)]) rfl (pc' := 45) rfl ?_
    exact J0 _ (own_t1 _ hc31 _)
  · refine r_iload X61.here hx (hb hby d6_34) rfl (pc' := 36) rfl ?_
    refine r_bipush X61.here hx (hb hby d6_36) (v := 92) rfl (pc' := 38) rfl ?_
    refine r_if_ne X61.here hx (hb hby d6_38) (by decide) (pc' := 45) (by decide) (pc2 := 41) rfl (fun hc38 => ?_) (fun hc38 => ?_)
    · exact J0 _ (own_t3 _ hc31 hc38 _)
    · refine r_lloadN X61.here hx (hb hby d6_41) rfl (pc' := 42) rfl ?_
      refine r_lconst X61.here hx (hb hby d6_42) (v := 1) rfl (pc' := 43) rfl ?_
      refine r_ladd X61.here hx (hb hby d6_43) (pc' := 44) rfl ?_
      refine r_lstoreN X61.here hx (hb hby d6_44) (l' := #[.val (.ref a), .val (.long ((0 : Int64) + (1 : Int64))), .second, .val (.ref t), .val (.int (4 : Int32)), .val (.int (0 : Int32)), .val (.int b0)]) rfl (pc' := 45) rfl ?_
      exact J0 _ (own_t2 _ hc31 hc38 _)
theorem pd_1 : parseMethodDescriptor "(JII)B" = some ⟨[.long, .int, .int], some .byte⟩ := by decide +kernel
theorem pd_2 : parseMethodDescriptor "(Ljava/lang/String;Ljava/lang/String;Lcom/example/lockstep/lockstep/Writeset$Operation;I[B)V" = some ⟨[(.object "java/lang/String"), (.object "java/lang/String"), (.object "com/example/lockstep/lockstep/Writeset$Operation"), .int, (.array .byte)], none⟩ := by decide +kernel
theorem pd_3 : parseMethodDescriptor "()J" = some ⟨[], some .long⟩ := by decide +kernel
theorem pd_4 : parseMethodDescriptor "(B)Z" = some ⟨[.byte], some .boolean⟩ := by decide +kernel
theorem ef_rm0 (m : MethodId) (x0 : Int64) (x1 : Int32) (x2 : Int32) (x3 : Int32) (x4 : Int32) : entryFrame m #[(.long x0), (.int x1), (.int x2), (.int x3), (.int x4)] maxLocals = mkF m 0 #[.val (.long x0), .second, .val (.int x1), .val (.int x2), .val (.int x3), .val (.int x4), .unset, .unset, .unset, .unset, .unset, .unset, .unset, .unset, .unset, .unset, .unset, .unset, .unset] [] := by first | (simp [entryFrame, mkF, argsToLocals, Value.category, maxLocals]; done) | rfl
set_option maxRecDepth 65536 in
set_option maxHeartbeats 40000000 in
theorem rm0 (l : Launch) (Z : State) (a0 : Array Value) (hw : ∀ d ∈ tables_1, d.before a0 Z = true) (ws : List Jvm.Cond) (raw : Int64) (sel size cnt opx : Int32) (o0 o1 o2 : Addr) (h0 : Heap) (n0 : Nat) (Z0 : n0 ≤ h0.size) (So0 : Sta Z h0 "com/example/lockstep/lockstep/Writeset$Operation" "INSERT" "Lcom/example/lockstep/lockstep/Writeset$Operation;" (.ref o0)) (So1 : Sta Z h0 "com/example/lockstep/lockstep/Writeset$Operation" "UPDATE" "Lcom/example/lockstep/lockstep/Writeset$Operation;" (.ref o1)) (So2 : Sta Z h0 "com/example/lockstep/lockstep/Writeset$Operation" "DELETE" "Lcom/example/lockstep/lockstep/Writeset$Operation;" (.ref o2)) :
    MetW l Z Jvm.Pilot.@@N@@.x code maxLocals ret ws room_1 #[(.long raw), (.int sel), (.int size), (.int cnt), (.int opx)] h0 (fun v h L => v = some (.int 1) ∧ Fr n0 L) 16 2176 := by
  refine metW_of (plainFor_of_name pn_0) (f0 := fun m => (mkF m 0 #[.val (.long raw), .second, .val (.int sel), .val (.int size), .val (.int cnt), .val (.int opx), .unset, .unset, .unset, .unset, .unset, .unset, .unset, .unset, .unset, .unset, .unset, .unset, .unset] [])) (fun m => ef_rm0 m raw sel size cnt opx) ?_
  intro p e s m below meth c s₁ X0 hx hby hml hret hlk hown hnm hZ e0
  replace hown : s.vm.findClass "com/example/lockstep/lockstep/RowSetArraySizePinLaw" = some m.cls := hown
  have N0 := Fr.nil n0
  refine r_iloadN X0.here hx (hb hby at_0) rfl (pc' := 1) rfl ?_
  refine r_bipush X0.here hx (hb hby at_1) (v := 7) rfl (pc' := 3) rfl ?_
  refine r_iand X0.here hx (hb hby at_3) (pc' := 4) rfl ?_
  refine r_iconst X0.here hx (hb hby at_4) (v := 5) rfl (pc' := 5) rfl ?_
  refine r_irem X0.here hx (hb hby at_5) (by decide) (pc' := 6) rfl ?_
  rcases own_l5 size with hl | hl | hl | hl | hl <;> rw [hl]
  · refine r_istore X0.here hx (hb hby at_6) (l' := #[.val (.long raw), .second, .val (.int sel), .val (.int size), .val (.int cnt), .val (.int opx), .val (.int (0 : Int32)), .unset, .unset, .unset, .unset, .unset, .unset, .unset, .unset, .unset, .unset, .unset, .unset]) rfl (pc' := 8) rfl ?_
    refine r_lloadN X0.here hx (hb hby at_8) rfl (pc' := 9) rfl ?_
    refine r_iloadN X0.here hx (hb hby at_9) rfl (pc' := 10) rfl ?_
    refine r_iconst X0.here hx (hb hby at_10) (v := 0) rfl (pc' := 11) rfl ?_
    refine r_callS X0 hx hZ (y := (⟨"com/example/lockstep/lockstep/RowSetArraySizePinLaw", "pick", "(JII)B"⟩ : MethodName)) (rm := ({ frames := 0, cells := 0, slots := 0, locals := 0 } : Room)) hown (hw _ (List.mem_of_getElem? (i := 0) rfl)) (hw _ (List.mem_of_getElem? (i := 1) rfl)) (hw _ (List.mem_of_getElem? (i := 2) rfl)) (hw _ (List.mem_of_getElem? (i := 3) rfl)) (by decide) (rmP l Z a0 hw [] raw sel 0 h0 n0 Z0) e0 (by rw [hml]; rfl) (argsL := [(.long raw), (.int sel), (.int (0 : Int32))]) (rest := []) (lenOf pd_1 rfl) rfl rfl (W := 0) rfl (by decide) (by decide) (by decide) (by decide) (hb hby at_11) (pc' := 14) rfl ?_
    rintro v64 T64 L64 X64 ⟨b0, rfl, Nq64, e64, hb0⟩
    have N64 := Fr.app N0 Nq64
    show Run p e below _ _ T64 (mkF m 14 #[.val (.long raw), .second, .val (.int sel), .val (.int size), .val (.int cnt), .val (.int opx), .val (.int (0 : Int32)), .unset, .unset, .unset, .unset, .unset, .unset, .unset, .unset, .unset, .unset, .unset, .unset] [(.int b0)])
    refine r_istore X64.here hx (hb hby at_14) (l' := #[.val (.long raw), .second, .val (.int sel), .val (.int size), .val (.int cnt), .val (.int opx), .val (.int (0 : Int32)), .val (.int b0), .unset, .unset, .unset, .unset, .unset, .unset, .unset, .unset, .unset, .unset, .unset]) rfl (pc' := 16) rfl ?_
    refine r_lloadN X64.here hx (hb hby at_16) rfl (pc' := 17) rfl ?_
    refine r_iloadN X64.here hx (hb hby at_17) rfl (pc' := 18) rfl ?_
    refine r_iconst X64.here hx (hb hby at_18) (v := 1) rfl (pc' := 19) rfl ?_
    refine r_callS X64 hx hZ (y := (⟨"com/example/lockstep/lockstep/RowSetArraySizePinLaw", "pick", "(JII)B"⟩ : MethodName)) (rm := ({ frames := 0, cells := 0, slots := 0, locals := 0 } : Room)) hown (hw _ (List.mem_of_getElem? (i := 0) rfl)) (hw _ (List.mem_of_getElem? (i := 1) rfl)) (hw _ (List.mem_of_getElem? (i := 2) rfl)) (hw _ (List.mem_of_getElem? (i := 3) rfl)) (by decide) (rmP l Z a0 hw [] raw sel 1 h0 n0 Z0) e64 (by rw [hml]; rfl) (argsL := [(.long raw), (.int sel), (.int (1 : Int32))]) (rest := []) (lenOf pd_1 rfl) rfl rfl (W := 0) rfl (by decide) (by decide) (by decide) (by decide) (hb hby at_19) (pc' := 22) rfl ?_
    rintro v65 T65 L65 X65 ⟨b1, rfl, Nq65, e65, hb1⟩
    have N65 := Fr.app N64 Nq65
    show Run p e below _ _ T65 (mkF m 22 #[.val (.long raw), .second, .val (.int sel), .val (.int size), .val (.int cnt), .val (.int opx), .val (.int (0 : Int32)), .val (.int b0), .unset, .unset, .unset, .unset, .unset, .unset, .unset, .unset, .unset, .unset, .unset] [(.int b1)])
    refine r_istore X65.here hx (hb hby at_22) (l' := #[.val (.long raw), .second, .val (.int sel), .val (.int size), .val (.int cnt), .val (.int opx), .val (.int (0 : Int32)), .val (.int b0), .val (.int b1), .unset, .unset, .unset, .unset, .unset, .unset, .unset, .unset, .unset, .unset]) rfl (pc' := 24) rfl ?_
    refine r_lloadN X65.here hx (hb hby at_24) rfl (pc' := 25) rfl ?_
    refine r_iloadN X65.here hx (hb hby at_25) rfl (pc' := 26) rfl ?_
    refine r_iconst X65.here hx (hb hby at_26) (v := 2) rfl (pc' := 27) rfl ?_
    refine r_callS X65 hx hZ (y := (⟨"com/example/lockstep/lockstep/RowSetArraySizePinLaw", "pick", "(JII)B"⟩ : MethodName)) (rm := ({ frames := 0, cells := 0, slots := 0, locals := 0 } : Room)) hown (hw _ (List.mem_of_getElem? (i := 0) rfl)) (hw _ (List.mem_of_getElem? (i := 1) rfl)) (hw _ (List.mem_of_getElem? (i := 2) rfl)) (hw _ (List.mem_of_getElem? (i := 3) rfl)) (by decide) (rmP l Z a0 hw [] raw sel 2 h0 n0 Z0) e65 (by rw [hml]; rfl) (argsL := [(.long raw), (.int sel), (.int (2 : Int32))]) (rest := []) (lenOf pd_1 rfl) rfl rfl (W := 0) rfl (by decide) (by decide) (by decide) (by decide) (hb hby at_27) (pc' := 30) rfl ?_
    rintro v66 T66 L66 X66 ⟨b2, rfl, Nq66, e66, hb2⟩
    have N66 := Fr.app N65 Nq66
    show Run p e below _ _ T66 (mkF m 30 #[.val (.long raw), .second, .val (.int sel), .val (.int size), .val (.int cnt), .val (.int opx), .val (.int (0 : Int32)), .val (.int b0), .val (.int b1), .unset, .unset, .unset, .unset, .unset, .unset, .unset, .unset, .unset, .unset] [(.int b2)])
    refine r_istore X66.here hx (hb hby at_30) (l' := #[.val (.long raw), .second, .val (.int sel), .val (.int size), .val (.int cnt), .val (.int opx), .val (.int (0 : Int32)), .val (.int b0), .val (.int b1), .val (.int b2), .unset, .unset, .unset, .unset, .unset, .unset, .unset, .unset, .unset]) rfl (pc' := 32) rfl ?_
    refine r_lloadN X66.here hx (hb hby at_32) rfl (pc' := 33) rfl ?_
    refine r_iloadN X66.here hx (hb hby at_33) rfl (pc' := 34) rfl ?_
    refine r_iconst X66.here hx (hb hby at_34) (v := 3) rfl (pc' := 35) rfl ?_
    refine r_callS X66 hx hZ (y := (⟨"com/example/lockstep/lockstep/RowSetArraySizePinLaw", "pick", "(JII)B"⟩ : MethodName)) (rm := ({ frames := 0, cells := 0, slots := 0, locals := 0 } : Room)) hown (hw _ (List.mem_of_getElem? (i := 0) rfl)) (hw _ (List.mem_of_getElem? (i := 1) rfl)) (hw _ (List.mem_of_getElem? (i := 2) rfl)) (hw _ (List.mem_of_getElem? (i := 3) rfl)) (by decide) (rmP l Z a0 hw [] raw sel 3 h0 n0 Z0) e66 (by rw [hml]; rfl) (argsL := [(.long raw), (.int sel), (.int (3 : Int32))]) (rest := []) (lenOf pd_1 rfl) rfl rfl (W := 0) rfl (by decide) (by decide) (by decide) (by decide) (hb hby at_35) (pc' := 38) rfl ?_
    rintro v67 T67 L67 X67 ⟨b3, rfl, Nq67, e67, hb3⟩
    have N67 := Fr.app N66 Nq67
    show Run p e below _ _ T67 (mkF m 38 #[.val (.long raw), .second, .val (.int sel), .val (.int size), .val (.int cnt), .val (.int opx), .val (.int (0 : Int32)), .val (.int b0), .val (.int b1), .val (.int b2), .unset, .unset, .unset, .unset, .unset, .unset, .unset, .unset, .unset] [(.int b3)])
    refine r_istore X67.here hx (hb hby at_38) (l' := #[.val (.long raw), .second, .val (.int sel), .val (.int size), .val (.int cnt), .val (.int opx), .val (.int (0 : Int32)), .val (.int b0), .val (.int b1), .val (.int b2), .val (.int b3), .unset, .unset, .unset, .unset, .unset, .unset, .unset, .unset]) rfl (pc' := 40) rfl ?_
    refine r_iload X67.here hx (hb hby at_40) rfl (pc' := 42) rfl ?_
    refine r_newarray X67 hx hZ (aty := .byte) (hw _ (List.mem_of_getElem? (i := 4) rfl)) e67 (cap := 0) (by decide) (by decide) (by decide) (by decide) (by decide) (hb hby at_42) (pc' := 44) rfl (fun T68 h68 b68 k68 g68 X68 e68 E68 A68 => ?_)
    have ge69 : n0 ≤ b68 := by rw [g68]; exact Z0
    have f70 := own_staExt So0 E68
    have f71 := own_staExt So1 E68
    have f72 := own_staExt So2 E68
    have Z73 : n0 ≤ h68.size := by have q := Z0; exact Nat.le_trans q E68.1
    have f74 : Ary Z h68 b68 .byte 0 (fun _ => .int 0) := Ary.new A68 rfl
    refine r_astore X68.here hx (hb hby at_44) rfl (l' := #[.val (.long raw), .second, .val (.int sel), .val (.int size), .val (.int cnt), .val (.int opx), .val (.int (0 : Int32)), .val (.int b0), .val (.int b1), .val (.int b2), .val (.int b3), .val (.ref b68), .unset, .unset, .unset, .unset, .unset, .unset, .unset]) rfl (pc' := 46) rfl ?_
    refine r_iload X68.here hx (hb hby at_46) rfl (pc' := 48) rfl ?_
    refine r_if0_le X68.here hx (hb hby at_48) (by decide) (pc' := 57) (by decide) (pc2 := 51) rfl (fun hc48 => ?_) (fun hc48 => absurd (by decide) hc48)
    refine r_iload X68.here hx (hb hby at_57) rfl (pc' := 59) rfl ?_
    refine r_iconst X68.here hx (hb hby at_59) (v := 1) rfl (pc' := 60) rfl ?_
    refine r_if_le X68.here hx (hb hby at_60) (by decide) (pc' := 69) (by decide) (pc2 := 63) rfl (fun hc60 => ?_) (fun hc60 => absurd (by decide) hc60)
    refine r_iload X68.here hx (hb hby at_69) rfl (pc' := 71) rfl ?_
    refine r_iconst X68.here hx (hb hby at_71) (v := 2) rfl (pc' := 72) rfl ?_
    refine r_if_le X68.here hx (hb hby at_72) (by decide) (pc' := 81) (by decide) (pc2 := 75) rfl (fun hc72 => ?_) (fun hc72 => absurd (by decide) hc72)
    refine r_iload X68.here hx (hb hby at_81) rfl (pc' := 83) rfl ?_
    refine r_iconst X68.here hx (hb hby at_83) (v := 3) rfl (pc' := 84) rfl ?_
    refine r_if_le X68.here hx (hb hby at_84) (by decide) (pc' := 93) (by decide) (pc2 := 87) rfl (fun hc84 => ?_) (fun hc84 => absurd (by decide) hc84)
    have Jo : ∀ (o : Addr) (T9 : State) (L9 : List Loc), Stand p l e room_1 s m #[(.long raw), (.int sel), (.int size), (.int cnt), (.int opx)] below meth c T9 L9 1 0 → Fr n0 L9 → T9.heap = h68 → Run p e below (fun v h L => v = some (.int 1) ∧ Fr n0 L) (fun o t L => ReturnedEndW s o t L 16 2176) T9 (mkF m 125 #[.val (.long raw), .second, .val (.int sel), .val (.int size), .val (.int cnt), .val (.int opx), .val (.int (0 : Int32)), .val (.int b0), .val (.int b1), .val (.int b2), .val (.int b3), .val (.ref b68), .val (.int (opx &&& (3 : Int32))), .unset, .unset, .unset, .unset, .unset, .unset] [(.ref o)]) := by
      intro o T9 L9 X9 N9 e9
      refine r_astore X9.here hx (hb hby at_125) rfl (l' := #[.val (.long raw), .second, .val (.int sel), .val (.int size), .val (.int cnt), .val (.int opx), .val (.int (0 : Int32)), .val (.int b0), .val (.int b1), .val (.int b2), .val (.int b3), .val (.ref b68), .val (.int (opx &&& (3 : Int32))), .val (.ref o), .unset, .unset, .unset, .unset, .unset]) rfl (pc' := 127) rfl ?_
      refine r_new X9 hx hZ hown (hw _ (List.mem_of_getElem? (i := 8) rfl)) (hw _ (List.mem_of_getElem? (i := 9) rfl)) (hw _ (List.mem_of_getElem? (i := 10) rfl)) e9 (by decide) (by decide) (hb hby at_127) (pc' := 130) rfl (fun T75 h75 b75 g75 X75 e75 E75 A75 D75 => ?_)
      have ne76 : b75 ≠ b68 := by have q := f74.lt; rw [← g75] at q; exact Nat.ne_of_gt q
      have ge77 : n0 ≤ b75 := by rw [g75]; exact Z73
      have f78 := own_staExt f70 E75
      have f79 := own_staExt f71 E75
      have f80 := own_staExt f72 E75
      have f81 := f74.ext E75
      have Z82 : n0 ≤ h75.size := by have q := Z73; exact Nat.le_trans q E75.1
      have f83 : Fld Z h75 b75 "com/example/lockstep/lockstep/Writeset$RowSet" "schema" "Ljava/lang/String;" .null := D75 (Or.inr (hw _ (List.mem_of_getElem? (i := 31) rfl))) (ty := (.object "java/lang/String")) (by decide)
      have f84 : Fld Z h75 b75 "com/example/lockstep/lockstep/Writeset$RowSet" "table" "Ljava/lang/String;" .null := D75 (Or.inr (hw _ (List.mem_of_getElem? (i := 33) rfl))) (ty := (.object "java/lang/String")) (by decide)
      have f85 : Fld Z h75 b75 "com/example/lockstep/lockstep/Writeset$RowSet" "operation" "Lcom/example/lockstep/lockstep/Writeset$Operation;" .null := D75 (Or.inr (hw _ (List.mem_of_getElem? (i := 35) rfl))) (ty := (.object "com/example/lockstep/lockstep/Writeset$Operation")) (by decide)
      have f86 : Fld Z h75 b75 "com/example/lockstep/lockstep/Writeset$RowSet" "count" "I" (.int (0 : Int32)) := D75 (Or.inr (hw _ (List.mem_of_getElem? (i := 37) rfl))) (ty := .int) (by decide)
      have f87 : Fld Z h75 b75 "com/example/lockstep/lockstep/Writeset$RowSet" "texts" "[B" .null := D75 (Or.inr (hw _ (List.mem_of_getElem? (i := 39) rfl))) (ty := (.array .byte)) (by decide)
      refine r_dup X75.here hx (hb hby at_130) rfl (pc' := 131) rfl ?_
      refine r_ldcS (s := s) (vm0 := s.vm) X75 hx hZ hown (hw _ (List.mem_of_getElem? (i := 11) rfl)) (own_sa hw) e75 ((State.WarmedH.refl s).since 0) (Nat.zero_le _) (nn := 4) (by decide) (by decide) (by decide) (by decide) (hb hby at_131) (pc' := 133) rfl (fun b88 T88 h88 k88 X88 e88 E88 hS88 hk88 hZ88 hown88 => ?_)
      have f89 := own_staExt f78 E88
      have f90 := own_staExt f79 E88
      have f91 := own_staExt f80 E88
      have f92 := f81.ext E88
      have f93 := A75.ext E88
      have f94 := f83.ext E88
      have f95 := f84.ext E88
      have f96 := f85.ext E88
      have f97 := f86.ext E88
      have f98 := f87.ext E88
      have Z99 : n0 ≤ h88.size := by have q := Z82; exact Nat.le_trans q E88.1
      refine r_ldcS (s := s) (vm0 := T88.vm) X88 hx hZ88 hown88 (hw _ (List.mem_of_getElem? (i := 18) rfl)) (own_sa hw) e88 hS88 hk88 (nn := 4) (by decide) (by decide) (by decide) (by decide) (hb hby at_133) (pc' := 135) rfl (fun b100 T100 h100 k100 X100 e100 E100 hS100 hk100 hZ100 hown100 => ?_)
      have f101 := own_staExt f89 E100
      have f102 := own_staExt f90 E100
      have f103 := own_staExt f91 E100
      have f104 := f92.ext E100
      have f105 := f93.ext E100
      have f106 := f94.ext E100
      have f107 := f95.ext E100
      have f108 := f96.ext E100
      have f109 := f97.ext E100
      have f110 := f98.ext E100
      have Z111 : n0 ≤ h100.size := by have q := Z99; exact Nat.le_trans q E100.1
      refine r_aload X100.here hx (hb hby at_135) rfl rfl (pc' := 137) rfl ?_
      refine r_iload X100.here hx (hb hby at_137) rfl (pc' := 139) rfl ?_
      refine r_aload X100.here hx (hb hby at_139) rfl rfl (pc' := 141) rfl ?_
      refine r_callI X100 hx hZ100 (y := (⟨"com/example/lockstep/lockstep/Writeset$RowSet", "<init>", "(Ljava/lang/String;Ljava/lang/String;Lcom/example/lockstep/lockstep/Writeset$Operation;I[B)V"⟩ : MethodName)) (rm := ({ frames := 2, cells := 0, slots := 0, locals := 24 } : Room)) hown100 rfl (hw _ (List.mem_of_getElem? (i := 19) rfl)) (hw _ (List.mem_of_getElem? (i := 20) rfl)) (hw _ (List.mem_of_getElem? (i := 10) rfl)) (hw _ (List.mem_of_getElem? (i := 21) rfl)) (by decide) (rmI l Z a0 hw [] b75 b88 b100 o cnt b68 h100 n0 Z111 ge77 f105 f106 f107 f108 f109 f110) e100 (by rw [hml]; rfl) (argsL := [(.ref b88), (.ref b100), (.ref o), (.int cnt), (.ref b68)]) (rest := [(.ref b75)]) (lenOf pd_2 rfl) rfl rfl (W := 1) rfl (by decide) (by decide) (by decide) (by decide) (hb hby at_141) (pc' := 144) rfl ?_
      rintro v112 T112 L112 X112 ⟨rfl, Nq112, K112, Fc112, Ft112⟩
      have N112 := Fr.app N9 Nq112
      show Run p e below _ _ T112 (mkF m 144 #[.val (.long raw), .second, .val (.int sel), .val (.int size), .val (.int cnt), .val (.int opx), .val (.int (0 : Int32)), .val (.int b0), .val (.int b1), .val (.int b2), .val (.int b3), .val (.ref b68), .val (.int (opx &&& (3 : Int32))), .val (.ref o), .unset, .unset, .unset, .unset, .unset] [(.ref b75)])
      have f113 := f104.keep K112 (ninS (Ne.symm ne76) nin0)
      have f114 := f105.keep K112
      have Z115 : n0 ≤ T112.heap.size := by have q := Z111; exact Nat.le_trans q K112.1
      have hk116 : k100 ≤ T112.heap.size := by have q := hk100; exact Nat.le_trans q K112.1
      refine r_astore X112.here hx (hb hby at_144) rfl (l' := #[.val (.long raw), .second, .val (.int sel), .val (.int size), .val (.int cnt), .val (.int opx), .val (.int (0 : Int32)), .val (.int b0), .val (.int b1), .val (.int b2), .val (.int b3), .val (.ref b68), .val (.int (opx &&& (3 : Int32))), .val (.ref o), .val (.ref b75), .unset, .unset, .unset, .unset]) rfl (pc' := 146) rfl ?_
      refine r_lconst X112.here hx (hb hby at_146) (v := 0) rfl (pc' := 147) rfl ?_
      refine r_lstore X112.here hx (hb hby at_147) (l' := #[.val (.long raw), .second, .val (.int sel), .val (.int size), .val (.int cnt), .val (.int opx), .val (.int (0 : Int32)), .val (.int b0), .val (.int b1), .val (.int b2), .val (.int b3), .val (.ref b68), .val (.int (opx &&& (3 : Int32))), .val (.ref o), .val (.ref b75), .val (.long (0 : Int64)), .second, .unset, .unset]) rfl (pc' := 149) rfl ?_
      refine r_iload X112.here hx (hb hby at_149) rfl (pc' := 151) rfl ?_
      refine r_if0_le X112.here hx (hb hby at_151) (by decide) (pc' := 168) (by decide) (pc2 := 154) rfl (fun hc151 => ?_) (fun hc151 => absurd (by decide) hc151)
      refine r_iload X112.here hx (hb hby at_168) rfl (pc' := 170) rfl ?_
      refine r_iconst X112.here hx (hb hby at_170) (v := 1) rfl (pc' := 171) rfl ?_
      refine r_if_le X112.here hx (hb hby at_171) (by decide) (pc' := 188) (by decide) (pc2 := 174) rfl (fun hc171 => ?_) (fun hc171 => absurd (by decide) hc171)
      refine r_iload X112.here hx (hb hby at_188) rfl (pc' := 190) rfl ?_
      refine r_iconst X112.here hx (hb hby at_190) (v := 2) rfl (pc' := 191) rfl ?_
      refine r_if_le X112.here hx (hb hby at_191) (by decide) (pc' := 208) (by decide) (pc2 := 194) rfl (fun hc191 => ?_) (fun hc191 => absurd (by decide) hc191)
      refine r_iload X112.here hx (hb hby at_208) rfl (pc' := 210) rfl ?_
      refine r_iconst X112.here hx (hb hby at_210) (v := 3) rfl (pc' := 211) rfl ?_
      refine r_if_le X112.here hx (hb hby at_211) (by decide) (pc' := 228) (by decide) (pc2 := 214) rfl (fun hc211 => ?_) (fun hc211 => absurd (by decide) hc211)
      refine r_iload X112.here hx (hb hby at_228) rfl (pc' := 230) rfl ?_
      refine r_i2l X112.here hx (hb hby at_230) (pc' := 231) rfl ?_
      refine r_lload X112.here hx (hb hby at_231) rfl (pc' := 233) rfl ?_
      refine r_ladd X112.here hx (hb hby at_233) (pc' := 234) rfl ?_
      refine r_ldc2 X112 hx hZ100 hown100 (hw _ (List.mem_of_getElem? (i := 43) rfl)) (hb hby at_234) (pc' := 237) rfl ?_
      refine r_iload X112.here hx (hb hby at_237) rfl (pc' := 239) rfl ?_
      refine r_i2l X112.here hx (hb hby at_239) (pc' := 240) rfl ?_
      refine r_lmul X112.here hx (hb hby at_240) (pc' := 241) rfl ?_
      refine r_ladd X112.here hx (hb hby at_241) (pc' := 242) rfl ?_
      refine r_ldc2 X112 hx hZ100 hown100 (hw _ (List.mem_of_getElem? (i := 43) rfl)) (hb hby at_242) (pc' := 245) rfl ?_
      refine r_ladd X112.here hx (hb hby at_245) (pc' := 246) rfl ?_
      refine r_lstore X112.here hx (hb hby at_246) (l' := #[.val (.long raw), .second, .val (.int sel), .val (.int size), .val (.int cnt), .val (.int opx), .val (.int (0 : Int32)), .val (.int b0), .val (.int b1), .val (.int b2), .val (.int b3), .val (.ref b68), .val (.int (opx &&& (3 : Int32))), .val (.ref o), .val (.ref b75), .val (.long (0 : Int64)), .second, .val (.long (((((0 : Int32).toInt64) + (0 : Int64)) + ((2 : Int64) * (cnt.toInt64))) + (2 : Int64))), .second]) rfl (pc' := 248) rfl ?_
      refine r_aload X112.here hx (hb hby at_248) rfl rfl (pc' := 250) rfl ?_
      refine r_callV X112 hx hZ100 (y := (⟨"com/example/lockstep/lockstep/Writeset$RowSet", "arraySize", "()J"⟩ : MethodName)) (z := (⟨"com/example/lockstep/lockstep/Writeset$RowSet", "arraySize", "()J"⟩ : MethodName)) (rm := ({ frames := 0, cells := 0, slots := 0, locals := 0 } : Room)) hown100 (hw _ (List.mem_of_getElem? (i := 44) rfl)) (hw _ (List.mem_of_getElem? (i := 45) rfl)) (notFace_of_selects (args := #[]) (mvT hZ100 (hw _ (List.mem_of_getElem? (i := 47) rfl)))) (hw _ (List.mem_of_getElem? (i := 47) rfl)) (hw _ (List.mem_of_getElem? (i := 46) rfl)) (hw _ (List.mem_of_getElem? (i := 10) rfl)) (hw _ (List.mem_of_getElem? (i := 48) rfl)) (by decide) (rmA0 l Z a0 hw [] b75 b68 cnt  _ T112.heap n0 Z115 Ft112 Fc112 f113 ) rfl f114 (by rw [hml]; rfl) (argsL := []) (rest := []) (lenOf pd_3 rfl) rfl rfl (W := 0) rfl (by decide) (by decide) (by decide) (by decide) (hb hby at_250) (pc' := 253) rfl ?_
      rintro v117 T117 L117 X117 ⟨rfl, Nq117, e117⟩
      have N117 := Fr.app N112 Nq117
      show Run p e below _ _ T117 (mkF m 253 #[.val (.long raw), .second, .val (.int sel), .val (.int size), .val (.int cnt), .val (.int opx), .val (.int (0 : Int32)), .val (.int b0), .val (.int b1), .val (.int b2), .val (.int b3), .val (.ref b68), .val (.int (opx &&& (3 : Int32))), .val (.ref o), .val (.ref b75), .val (.long (0 : Int64)), .second, .val (.long (((((0 : Int32).toInt64) + (0 : Int64)) + ((2 : Int64) * (cnt.toInt64))) + (2 : Int64))), .second] [(.long (((0 : Int32).toInt64 + (0 : Int64)) + 2 * cnt.toInt64 + 2))])
      refine r_lload X117.here hx (hb hby at_253) rfl (pc' := 255) rfl ?_
      refine r_lcmp X117.here hx (hb hby at_255) (pc' := 256) rfl ?_
      refine r_ifL_ne X117.here hx (hb hby at_256) (by decide) (pc' := 263) (by decide) (pc2 := 259) rfl (fun hc256 => absurd rfl hc256) (fun hc256 => ?_)
      refine r_iconst X117.here hx (hb hby at_259) (v := 1) rfl (pc' := 260) rfl ?_
      refine r_goto X117.here hx (hb hby at_260) (by decide) (pc' := 264) (by decide) ?_
      refine w_retN (s := s) (vm1 := T100.vm) X117 hS100 (by rw [e117]; exact hk116) hx hlk hret (by simp) (hb hby at_264) (w := (1 : Int32)) rfl ?_ (by decide) (by decide)
      try rw [e117]
      exact ⟨rfl, N117⟩
    refine r_iload X68.here hx (hb hby at_93) rfl (pc' := 95) rfl ?_
    refine r_iconst X68.here hx (hb hby at_95) (v := 3) rfl (pc' := 96) rfl ?_
    refine r_iand X68.here hx (hb hby at_96) (pc' := 97) rfl ?_
    refine r_istore X68.here hx (hb hby at_97) (l' := #[.val (.long raw), .second, .val (.int sel), .val (.int size), .val (.int cnt), .val (.int opx), .val (.int (0 : Int32)), .val (.int b0), .val (.int b1), .val (.int b2), .val (.int b3), .val (.ref b68), .val (.int (opx &&& (3 : Int32))), .unset, .unset, .unset, .unset, .unset, .unset]) rfl (pc' := 99) rfl ?_
    refine r_iload X68.here hx (hb hby at_99) rfl (pc' := 101) rfl ?_
    refine r_if0_ne X68.here hx (hb hby at_101) (by decide) (pc' := 110) (by decide) (pc2 := 104) rfl (fun hc101 => ?_) (fun hc101 => ?_)
    · refine r_iload X68.here hx (hb hby at_110) rfl (pc' := 112) rfl ?_
      refine r_iconst X68.here hx (hb hby at_112) (v := 1) rfl (pc' := 113) rfl ?_
      refine r_if_ne X68.here hx (hb hby at_113) (by decide) (pc' := 122) (by decide) (pc2 := 116) rfl (fun hc113 => ?_) (fun hc113 => ?_)
      · refine r_getS X68 hx hZ hown (hw _ (List.mem_of_getElem? (i := 5) rfl)) Via.refl e68 f72 (hb hby at_122) (pc' := 125) rfl (fun T118 X118 e118 => ?_)
        exact Jo _ _ _ X118 N67 e118
      · refine r_getS X68 hx hZ hown (hw _ (List.mem_of_getElem? (i := 50) rfl)) Via.refl e68 f71 (hb hby at_116) (pc' := 119) rfl (fun T119 X119 e119 => ?_)
        refine r_goto X119.here hx (hb hby at_119) (by decide) (pc' := 125) (by decide) ?_
        exact Jo _ _ _ X119 N67 e119
    · refine r_getS X68 hx hZ hown (hw _ (List.mem_of_getElem? (i := 52) rfl)) Via.refl e68 f70 (hb hby at_104) (pc' := 107) rfl (fun T120 X120 e120 => ?_)
      refine r_goto X120.here hx (hb hby at_107) (by decide) (pc' := 125) (by decide) ?_
      exact Jo _ _ _ X120 N67 e120
  · refine r_istore X0.here hx (hb hby at_6) (l' := #[.val (.long raw), .second, .val (.int sel), .val (.int size), .val (.int cnt), .val (.int opx), .val (.int (1 : Int32)), .unset, .unset, .unset, .unset, .unset, .unset, .unset, .unset, .unset, .unset, .unset, .unset]) rfl (pc' := 8) rfl ?_
    refine r_lloadN X0.here hx (hb hby at_8) rfl (pc' := 9) rfl ?_
    refine r_iloadN X0.here hx (hb hby at_9) rfl (pc' := 10) rfl ?_
    refine r_iconst X0.here hx (hb hby at_10) (v := 0) rfl (pc' := 11) rfl ?_
    refine r_callS X0 hx hZ (y := (⟨"com/example/lockstep/lockstep/RowSetArraySizePinLaw", "pick", "(JII)B"⟩ : MethodName)) (rm := ({ frames := 0, cells := 0, slots := 0, locals := 0 } : Room)) hown (hw _ (List.mem_of_getElem? (i := 0) rfl)) (hw _ (List.mem_of_getElem? (i := 1) rfl)) (hw _ (List.mem_of_getElem? (i := 2) rfl)) (hw _ (List.mem_of_getElem? (i := 3) rfl)) (by decide) (rmP l Z a0 hw [] raw sel 0 h0 n0 Z0) e0 (by rw [hml]; rfl) (argsL := [(.long raw), (.int sel), (.int (0 : Int32))]) (rest := []) (lenOf pd_1 rfl) rfl rfl (W := 0) rfl (by decide) (by decide) (by decide) (by decide) (hb hby at_11) (pc' := 14) rfl ?_
    rintro v121 T121 L121 X121 ⟨b0, rfl, Nq121, e121, hb0⟩
    have N121 := Fr.app N0 Nq121
    show Run p e below _ _ T121 (mkF m 14 #[.val (.long raw), .second, .val (.int sel), .val (.int size), .val (.int cnt), .val (.int opx), .val (.int (1 : Int32)), .unset, .unset, .unset, .unset, .unset, .unset, .unset, .unset, .unset, .unset, .unset, .unset] [(.int b0)])
    refine r_istore X121.here hx (hb hby at_14) (l' := #[.val (.long raw), .second, .val (.int sel), .val (.int size), .val (.int cnt), .val (.int opx), .val (.int (1 : Int32)), .val (.int b0), .unset, .unset, .unset, .unset, .unset, .unset, .unset, .unset, .unset, .unset, .unset]) rfl (pc' := 16) rfl ?_
    refine r_lloadN X121.here hx (hb hby at_16) rfl (pc' := 17) rfl ?_
    refine r_iloadN X121.here hx (hb hby at_17) rfl (pc' := 18) rfl ?_
    refine r_iconst X121.here hx (hb hby at_18) (v := 1) rfl (pc' := 19) rfl ?_
    refine r_callS X121 hx hZ (y := (⟨"com/example/lockstep/lockstep/RowSetArraySizePinLaw", "pick", "(JII)B"⟩ : MethodName)) (rm := ({ frames := 0, cells := 0, slots := 0, locals := 0 } : Room)) hown (hw _ (List.mem_of_getElem? (i := 0) rfl)) (hw _ (List.mem_of_getElem? (i := 1) rfl)) (hw _ (List.mem_of_getElem? (i := 2) rfl)) (hw _ (List.mem_of_getElem? (i := 3) rfl)) (by decide) (rmP l Z a0 hw [] raw sel 1 h0 n0 Z0) e121 (by rw [hml]; rfl) (argsL := [(.long raw), (.int sel), (.int (1 : Int32))]) (rest := []) (lenOf pd_1 rfl) rfl rfl (W := 0) rfl (by decide) (by decide) (by decide) (by decide) (hb hby at_19) (pc' := 22) rfl ?_
    rintro v122 T122 L122 X122 ⟨b1, rfl, Nq122, e122, hb1⟩
    have N122 := Fr.app N121 Nq122
    show Run p e below _ _ T122 (mkF m 22 #[.val (.long raw), .second, .val (.int sel), .val (.int size), .val (.int cnt), .val (.int opx), .val (.int (1 : Int32)), .val (.int b0), .unset, .unset, .unset, .unset, .unset, .unset, .unset, .unset, .unset, .unset, .unset] [(.int b1)])
    refine r_istore X122.here hx (hb hby at_22) (l' := #[.val (.long raw), .second, .val (.int sel), .val (.int size), .val (.int cnt), .val (.int opx), .val (.int (1 : Int32)), .val (.int b0), .val (.int b1), .unset, .unset, .unset, .unset, .unset, .unset, .unset, .unset, .unset, .unset]) rfl (pc' := 24) rfl ?_
    refine r_lloadN X122.here hx (hb hby at_24) rfl (pc' := 25) rfl ?_
    refine r_iloadN X122.here hx (hb hby at_25) rfl (pc' := 26) rfl ?_
    refine r_iconst X122.here hx (hb hby at_26) (v := 2) rfl (pc' := 27) rfl ?_
    refine r_callS X122 hx hZ (y := (⟨"com/example/lockstep/lockstep/RowSetArraySizePinLaw", "pick", "(JII)B"⟩ : MethodName)) (rm := ({ frames := 0, cells := 0, slots := 0, locals := 0 } : Room)) hown (hw _ (List.mem_of_getElem? (i := 0) rfl)) (hw _ (List.mem_of_getElem? (i := 1) rfl)) (hw _ (List.mem_of_getElem? (i := 2) rfl)) (hw _ (List.mem_of_getElem? (i := 3) rfl)) (by decide) (rmP l Z a0 hw [] raw sel 2 h0 n0 Z0) e122 (by rw [hml]; rfl) (argsL := [(.long raw), (.int sel), (.int (2 : Int32))]) (rest := []) (lenOf pd_1 rfl) rfl rfl (W := 0) rfl (by decide) (by decide) (by decide) (by decide) (hb hby at_27) (pc' := 30) rfl ?_
    rintro v123 T123 L123 X123 ⟨b2, rfl, Nq123, e123, hb2⟩
    have N123 := Fr.app N122 Nq123
    show Run p e below _ _ T123 (mkF m 30 #[.val (.long raw), .second, .val (.int sel), .val (.int size), .val (.int cnt), .val (.int opx), .val (.int (1 : Int32)), .val (.int b0), .val (.int b1), .unset, .unset, .unset, .unset, .unset, .unset, .unset, .unset, .unset, .unset] [(.int b2)])
    refine r_istore X123.here hx (hb hby at_30) (l' := #[.val (.long raw), .second, .val (.int sel), .val (.int size), .val (.int cnt), .val (.int opx), .val (.int (1 : Int32)), .val (.int b0), .val (.int b1), .val (.int b2), .unset, .unset, .unset, .unset, .unset, .unset, .unset, .unset, .unset]) rfl (pc' := 32) rfl ?_
    refine r_lloadN X123.here hx (hb hby at_32) rfl (pc' := 33) rfl ?_
    refine r_iloadN X123.here hx (hb hby at_33) rfl (pc' := 34) rfl ?_
    refine r_iconst X123.here hx (hb hby at_34) (v := 3) rfl (pc' := 35) rfl ?_
    refine r_callS X123 hx hZ (y := (⟨"com/example/lockstep/lockstep/RowSetArraySizePinLaw", "pick", "(JII)B"⟩ : MethodName)) (rm := ({ frames := 0, cells := 0, slots := 0, locals := 0 } : Room)) hown (hw _ (List.mem_of_getElem? (i := 0) rfl)) (hw _ (List.mem_of_getElem? (i := 1) rfl)) (hw _ (List.mem_of_getElem? (i := 2) rfl)) (hw _ (List.mem_of_getElem? (i := 3) rfl)) (by decide) (rmP l Z a0 hw [] raw sel 3 h0 n0 Z0) e123 (by rw [hml]; rfl) (argsL := [(.long raw), (.int sel), (.int (3 : Int32))]) (rest := []) (lenOf pd_1 rfl) rfl rfl (W := 0) rfl (by decide) (by decide) (by decide) (by decide) (hb hby at_35) (pc' := 38) rfl ?_
    rintro v124 T124 L124 X124 ⟨b3, rfl, Nq124, e124, hb3⟩
    have N124 := Fr.app N123 Nq124
    show Run p e below _ _ T124 (mkF m 38 #[.val (.long raw), .second, .val (.int sel), .val (.int size), .val (.int cnt), .val (.int opx), .val (.int (1 : Int32)), .val (.int b0), .val (.int b1), .val (.int b2), .unset, .unset, .unset, .unset, .unset, .unset, .unset, .unset, .unset] [(.int b3)])
    refine r_istore X124.here hx (hb hby at_38) (l' := #[.val (.long raw), .second, .val (.int sel), .val (.int size), .val (.int cnt), .val (.int opx), .val (.int (1 : Int32)), .val (.int b0), .val (.int b1), .val (.int b2), .val (.int b3), .unset, .unset, .unset, .unset, .unset, .unset, .unset, .unset]) rfl (pc' := 40) rfl ?_
    refine r_iload X124.here hx (hb hby at_40) rfl (pc' := 42) rfl ?_
    refine r_newarray X124 hx hZ (aty := .byte) (hw _ (List.mem_of_getElem? (i := 4) rfl)) e124 (cap := 1) (by decide) (by decide) (by decide) (by decide) (by decide) (hb hby at_42) (pc' := 44) rfl (fun T125 h125 b125 k125 g125 X125 e125 E125 A125 => ?_)
    have ge126 : n0 ≤ b125 := by rw [g125]; exact Z0
    have f127 := own_staExt So0 E125
    have f128 := own_staExt So1 E125
    have f129 := own_staExt So2 E125
    have Z130 : n0 ≤ h125.size := by have q := Z0; exact Nat.le_trans q E125.1
    have f131 : Ary Z h125 b125 .byte 1 (fun _ => .int 0) := Ary.new A125 rfl
    refine r_astore X125.here hx (hb hby at_44) rfl (l' := #[.val (.long raw), .second, .val (.int sel), .val (.int size), .val (.int cnt), .val (.int opx), .val (.int (1 : Int32)), .val (.int b0), .val (.int b1), .val (.int b2), .val (.int b3), .val (.ref b125), .unset, .unset, .unset, .unset, .unset, .unset, .unset]) rfl (pc' := 46) rfl ?_
    refine r_iload X125.here hx (hb hby at_46) rfl (pc' := 48) rfl ?_
    refine r_if0_le X125.here hx (hb hby at_48) (by decide) (pc' := 57) (by decide) (pc2 := 51) rfl (fun hc48 => absurd hc48 (by decide)) (fun hc48 => ?_)
    refine r_aload X125.here hx (hb hby at_51) rfl rfl (pc' := 53) rfl ?_
    refine r_iconst X125.here hx (hb hby at_53) (v := 0) rfl (pc' := 54) rfl ?_
    refine r_iload X125.here hx (hb hby at_54) rfl (pc' := 56) rfl ?_
    refine q_bastoreB X125 hx hZ e125 (j := (0 : Int32)) f131 (by decide) (by decide) (w := b0) hb0 (hb hby at_56) (pc' := 57) rfl (fun T132 h132 X132 e132 W132 A132 => ?_)
    have f133 := f127.wr W132
    have f134 := f128.wr W132
    have f135 := f129.wr W132
    have Z136 : n0 ≤ h132.size := by have q := Z130; rw [W132.size]; exact q
    have N132 := Fr.snoc X132 N124 ge126
    refine r_iload X132.here hx (hb hby at_57) rfl (pc' := 59) rfl ?_
    refine r_iconst X132.here hx (hb hby at_59) (v := 1) rfl (pc' := 60) rfl ?_
    refine r_if_le X132.here hx (hb hby at_60) (by decide) (pc' := 69) (by decide) (pc2 := 63) rfl (fun hc60 => ?_) (fun hc60 => absurd (by decide) hc60)
    refine r_iload X132.here hx (hb hby at_69) rfl (pc' := 71) rfl ?_
    refine r_iconst X132.here hx (hb hby at_71) (v := 2) rfl (pc' := 72) rfl ?_
    refine r_if_le X132.here hx (hb hby at_72) (by decide) (pc' := 81) (by decide) (pc2 := 75) rfl (fun hc72 => ?_) (fun hc72 => absurd (by decide) hc72)
    refine r_iload X132.here hx (hb hby at_81) rfl (pc' := 83) rfl ?_
    refine r_iconst X132.here hx (hb hby at_83) (v := 3) rfl (pc' := 84) rfl ?_
    refine r_if_le X132.here hx (hb hby at_84) (by decide) (pc' := 93) (by decide) (pc2 := 87) rfl (fun hc84 => ?_) (fun hc84 => absurd (by decide) hc84)
    have Jo : ∀ (o : Addr) (T9 : State) (L9 : List Loc), Stand p l e room_1 s m #[(.long raw), (.int sel), (.int size), (.int cnt), (.int opx)] below meth c T9 L9 1 1 → Fr n0 L9 → T9.heap = h132 → Run p e below (fun v h L => v = some (.int 1) ∧ Fr n0 L) (fun o t L => ReturnedEndW s o t L 16 2176) T9 (mkF m 125 #[.val (.long raw), .second, .val (.int sel), .val (.int size), .val (.int cnt), .val (.int opx), .val (.int (1 : Int32)), .val (.int b0), .val (.int b1), .val (.int b2), .val (.int b3), .val (.ref b125), .val (.int (opx &&& (3 : Int32))), .unset, .unset, .unset, .unset, .unset, .unset] [(.ref o)]) := by
      intro o T9 L9 X9 N9 e9
      refine r_astore X9.here hx (hb hby at_125) rfl (l' := #[.val (.long raw), .second, .val (.int sel), .val (.int size), .val (.int cnt), .val (.int opx), .val (.int (1 : Int32)), .val (.int b0), .val (.int b1), .val (.int b2), .val (.int b3), .val (.ref b125), .val (.int (opx &&& (3 : Int32))), .val (.ref o), .unset, .unset, .unset, .unset, .unset]) rfl (pc' := 127) rfl ?_
      refine r_new X9 hx hZ hown (hw _ (List.mem_of_getElem? (i := 8) rfl)) (hw _ (List.mem_of_getElem? (i := 9) rfl)) (hw _ (List.mem_of_getElem? (i := 10) rfl)) e9 (by decide) (by decide) (hb hby at_127) (pc' := 130) rfl (fun T137 h137 b137 g137 X137 e137 E137 A137 D137 => ?_)
      have ne138 : b137 ≠ b125 := by have q := A132.lt; rw [← g137] at q; exact Nat.ne_of_gt q
      have ge139 : n0 ≤ b137 := by rw [g137]; exact Z136
      have f140 := own_staExt f133 E137
      have f141 := own_staExt f134 E137
      have f142 := own_staExt f135 E137
      have f143 := A132.ext E137
      have Z144 : n0 ≤ h137.size := by have q := Z136; exact Nat.le_trans q E137.1
      have f145 : Fld Z h137 b137 "com/example/lockstep/lockstep/Writeset$RowSet" "schema" "Ljava/lang/String;" .null := D137 (Or.inr (hw _ (List.mem_of_getElem? (i := 31) rfl))) (ty := (.object "java/lang/String")) (by decide)
      have f146 : Fld Z h137 b137 "com/example/lockstep/lockstep/Writeset$RowSet" "table" "Ljava/lang/String;" .null := D137 (Or.inr (hw _ (List.mem_of_getElem? (i := 33) rfl))) (ty := (.object "java/lang/String")) (by decide)
      have f147 : Fld Z h137 b137 "com/example/lockstep/lockstep/Writeset$RowSet" "operation" "Lcom/example/lockstep/lockstep/Writeset$Operation;" .null := D137 (Or.inr (hw _ (List.mem_of_getElem? (i := 35) rfl))) (ty := (.object "com/example/lockstep/lockstep/Writeset$Operation")) (by decide)
      have f148 : Fld Z h137 b137 "com/example/lockstep/lockstep/Writeset$RowSet" "count" "I" (.int (0 : Int32)) := D137 (Or.inr (hw _ (List.mem_of_getElem? (i := 37) rfl))) (ty := .int) (by decide)
      have f149 : Fld Z h137 b137 "com/example/lockstep/lockstep/Writeset$RowSet" "texts" "[B" .null := D137 (Or.inr (hw _ (List.mem_of_getElem? (i := 39) rfl))) (ty := (.array .byte)) (by decide)
      refine r_dup X137.here hx (hb hby at_130) rfl (pc' := 131) rfl ?_
      refine r_ldcS (s := s) (vm0 := s.vm) X137 hx hZ hown (hw _ (List.mem_of_getElem? (i := 11) rfl)) (own_sa hw) e137 ((State.WarmedH.refl s).since 0) (Nat.zero_le _) (nn := 4) (by decide) (by decide) (by decide) (by decide) (hb hby at_131) (pc' := 133) rfl (fun b150 T150 h150 k150 X150 e150 E150 hS150 hk150 hZ150 hown150 => ?_)
      have f151 := own_staExt f140 E150
      have f152 := own_staExt f141 E150
      have f153 := own_staExt f142 E150
      have f154 := f143.ext E150
      have f155 := A137.ext E150
      have f156 := f145.ext E150
      have f157 := f146.ext E150
      have f158 := f147.ext E150
      have f159 := f148.ext E150
      have f160 := f149.ext E150
      have Z161 : n0 ≤ h150.size := by have q := Z144; exact Nat.le_trans q E150.1
      refine r_ldcS (s := s) (vm0 := T150.vm) X150 hx hZ150 hown150 (hw _ (List.mem_of_getElem? (i := 18) rfl)) (own_sa hw) e150 hS150 hk150 (nn := 4) (by decide) (by decide) (by decide) (by decide) (hb hby at_133) (pc' := 135) rfl (fun b162 T162 h162 k162 X162 e162 E162 hS162 hk162 hZ162 hown162 => ?_)
      have f163 := own_staExt f151 E162
      have f164 := own_staExt f152 E162
      have f165 := own_staExt f153 E162
      have f166 := f154.ext E162
      have f167 := f155.ext E162
      have f168 := f156.ext E162
      have f169 := f157.ext E162
      have f170 := f158.ext E162
      have f171 := f159.ext E162
      have f172 := f160.ext E162
      have Z173 : n0 ≤ h162.size := by have q := Z161; exact Nat.le_trans q E162.1
      refine r_aload X162.here hx (hb hby at_135) rfl rfl (pc' := 137) rfl ?_
      refine r_iload X162.here hx (hb hby at_137) rfl (pc' := 139) rfl ?_
      refine r_aload X162.here hx (hb hby at_139) rfl rfl (pc' := 141) rfl ?_
      refine r_callI X162 hx hZ162 (y := (⟨"com/example/lockstep/lockstep/Writeset$RowSet", "<init>", "(Ljava/lang/String;Ljava/lang/String;Lcom/example/lockstep/lockstep/Writeset$Operation;I[B)V"⟩ : MethodName)) (rm := ({ frames := 2, cells := 0, slots := 0, locals := 24 } : Room)) hown162 rfl (hw _ (List.mem_of_getElem? (i := 19) rfl)) (hw _ (List.mem_of_getElem? (i := 20) rfl)) (hw _ (List.mem_of_getElem? (i := 10) rfl)) (hw _ (List.mem_of_getElem? (i := 21) rfl)) (by decide) (rmI l Z a0 hw [] b137 b150 b162 o cnt b125 h162 n0 Z173 ge139 f167 f168 f169 f170 f171 f172) e162 (by rw [hml]; rfl) (argsL := [(.ref b150), (.ref b162), (.ref o), (.int cnt), (.ref b125)]) (rest := [(.ref b137)]) (lenOf pd_2 rfl) rfl rfl (W := 1) rfl (by decide) (by decide) (by decide) (by decide) (hb hby at_141) (pc' := 144) rfl ?_
      rintro v174 T174 L174 X174 ⟨rfl, Nq174, K174, Fc174, Ft174⟩
      have N174 := Fr.app N9 Nq174
      show Run p e below _ _ T174 (mkF m 144 #[.val (.long raw), .second, .val (.int sel), .val (.int size), .val (.int cnt), .val (.int opx), .val (.int (1 : Int32)), .val (.int b0), .val (.int b1), .val (.int b2), .val (.int b3), .val (.ref b125), .val (.int (opx &&& (3 : Int32))), .val (.ref o), .unset, .unset, .unset, .unset, .unset] [(.ref b137)])
      have f175 := f166.keep K174 (ninS (Ne.symm ne138) nin0)
      have f176 := f167.keep K174
      have Z177 : n0 ≤ T174.heap.size := by have q := Z173; exact Nat.le_trans q K174.1
      have hk178 : k162 ≤ T174.heap.size := by have q := hk162; exact Nat.le_trans q K174.1
      refine r_astore X174.here hx (hb hby at_144) rfl (l' := #[.val (.long raw), .second, .val (.int sel), .val (.int size), .val (.int cnt), .val (.int opx), .val (.int (1 : Int32)), .val (.int b0), .val (.int b1), .val (.int b2), .val (.int b3), .val (.ref b125), .val (.int (opx &&& (3 : Int32))), .val (.ref o), .val (.ref b137), .unset, .unset, .unset, .unset]) rfl (pc' := 146) rfl ?_
      refine r_lconst X174.here hx (hb hby at_146) (v := 0) rfl (pc' := 147) rfl ?_
      refine r_lstore X174.here hx (hb hby at_147) (l' := #[.val (.long raw), .second, .val (.int sel), .val (.int size), .val (.int cnt), .val (.int opx), .val (.int (1 : Int32)), .val (.int b0), .val (.int b1), .val (.int b2), .val (.int b3), .val (.ref b125), .val (.int (opx &&& (3 : Int32))), .val (.ref o), .val (.ref b137), .val (.long (0 : Int64)), .second, .unset, .unset]) rfl (pc' := 149) rfl ?_
      refine r_iload X174.here hx (hb hby at_149) rfl (pc' := 151) rfl ?_
      refine r_if0_le X174.here hx (hb hby at_151) (by decide) (pc' := 168) (by decide) (pc2 := 154) rfl (fun hc151 => absurd hc151 (by decide)) (fun hc151 => ?_)
      refine r_iload X174.here hx (hb hby at_154) rfl (pc' := 156) rfl ?_
      refine r_callS X174 hx hZ162 (y := (⟨"com/example/lockstep/lockstep/RowSetArraySizePinLaw", "special", "(B)Z"⟩ : MethodName)) (rm := ({ frames := 0, cells := 0, slots := 0, locals := 0 } : Room)) hown162 (hw _ (List.mem_of_getElem? (i := 40) rfl)) (hw _ (List.mem_of_getElem? (i := 41) rfl)) (hw _ (List.mem_of_getElem? (i := 2) rfl)) (hw _ (List.mem_of_getElem? (i := 42) rfl)) (by decide) (rmS l Z a0 hw [] b0 T174.heap n0 Z177) rfl (by rw [hml]; rfl) (argsL := [(.int b0)]) (rest := []) (lenOf pd_4 rfl) rfl rfl (W := 0) rfl (by decide) (by decide) (by decide) (by decide) (hb hby at_156) (pc' := 159) rfl ?_
      rintro v179 T179 L179 X179 ⟨rfl, Nq179, e179⟩
      have N179 := Fr.app N174 Nq179
      show Run p e below _ _ T179 (mkF m 159 #[.val (.long raw), .second, .val (.int sel), .val (.int size), .val (.int cnt), .val (.int opx), .val (.int (1 : Int32)), .val (.int b0), .val (.int b1), .val (.int b2), .val (.int b3), .val (.ref b125), .val (.int (opx &&& (3 : Int32))), .val (.ref o), .val (.ref b137), .val (.long (0 : Int64)), .second, .unset, .unset] [(.int (own_si b0))])
      have Js0 : ∀ z0 : Int64, z0 = (0 : Int64) + own_sp b0 → Run p e below (fun v h L => v = some (.int 1) ∧ Fr n0 L) (fun o t L => ReturnedEndW s o t L 16 2176) T179 (mkF m 168 #[.val (.long raw), .second, .val (.int sel), .val (.int size), .val (.int cnt), .val (.int opx), .val (.int (1 : Int32)), .val (.int b0), .val (.int b1), .val (.int b2), .val (.int b3), .val (.ref b125), .val (.int (opx &&& (3 : Int32))), .val (.ref o), .val (.ref b137), .val (.long z0), .second, .unset, .unset] []) := by
        intro z0 hz0
        subst hz0
        refine r_iload X179.here hx (hb hby at_168) rfl (pc' := 170) rfl ?_
        refine r_iconst X179.here hx (hb hby at_170) (v := 1) rfl (pc' := 171) rfl ?_
        refine r_if_le X179.here hx (hb hby at_171) (by decide) (pc' := 188) (by decide) (pc2 := 174) rfl (fun hc171 => ?_) (fun hc171 => absurd (by decide) hc171)
        refine r_iload X179.here hx (hb hby at_188) rfl (pc' := 190) rfl ?_
        refine r_iconst X179.here hx (hb hby at_190) (v := 2) rfl (pc' := 191) rfl ?_
        refine r_if_le X179.here hx (hb hby at_191) (by decide) (pc' := 208) (by decide) (pc2 := 194) rfl (fun hc191 => ?_) (fun hc191 => absurd (by decide) hc191)
        refine r_iload X179.here hx (hb hby at_208) rfl (pc' := 210) rfl ?_
        refine r_iconst X179.here hx (hb hby at_210) (v := 3) rfl (pc' := 211) rfl ?_
        refine r_if_le X179.here hx (hb hby at_211) (by decide) (pc' := 228) (by decide) (pc2 := 214) rfl (fun hc211 => ?_) (fun hc211 => absurd (by decide) hc211)
        refine r_iload X179.here hx (hb hby at_228) rfl (pc' := 230) rfl ?_
        refine r_i2l X179.here hx (hb hby at_230) (pc' := 231) rfl ?_
        refine r_lload X179.here hx (hb hby at_231) rfl (pc' := 233) rfl ?_
        refine r_ladd X179.here hx (hb hby at_233) (pc' := 234) rfl ?_
        refine r_ldc2 X179 hx hZ162 hown162 (hw _ (List.mem_of_getElem? (i := 43) rfl)) (hb hby at_234) (pc' := 237) rfl ?_
        refine r_iload X179.here hx (hb hby at_237) rfl (pc' := 239) rfl ?_
        refine r_i2l X179.here hx (hb hby at_239) (pc' := 240) rfl ?_
        refine r_lmul X179.here hx (hb hby at_240) (pc' := 241) rfl ?_
        refine r_ladd X179.here hx (hb hby at_241) (pc' := 242) rfl ?_
        refine r_ldc2 X179 hx hZ162 hown162 (hw _ (List.mem_of_getElem? (i := 43) rfl)) (hb hby at_242) (pc' := 245) rfl ?_
        refine r_ladd X179.here hx (hb hby at_245) (pc' := 246) rfl ?_
        refine r_lstore X179.here hx (hb hby at_246) (l' := #[.val (.long raw), .second, .val (.int sel), .val (.int size), .val (.int cnt), .val (.int opx), .val (.int (1 : Int32)), .val (.int b0), .val (.int b1), .val (.int b2), .val (.int b3), .val (.ref b125), .val (.int (opx &&& (3 : Int32))), .val (.ref o), .val (.ref b137), .val (.long ((0 : Int64) + own_sp b0)), .second, .val (.long (((((1 : Int32).toInt64) + ((0 : Int64) + own_sp b0)) + ((2 : Int64) * (cnt.toInt64))) + (2 : Int64))), .second]) rfl (pc' := 248) rfl ?_
        refine r_aload X179.here hx (hb hby at_248) rfl rfl (pc' := 250) rfl ?_
        refine r_callV X179 hx hZ162 (y := (⟨"com/example/lockstep/lockstep/Writeset$RowSet", "arraySize", "()J"⟩ : MethodName)) (z := (⟨"com/example/lockstep/lockstep/Writeset$RowSet", "arraySize", "()J"⟩ : MethodName)) (rm := ({ frames := 0, cells := 0, slots := 0, locals := 0 } : Room)) hown162 (hw _ (List.mem_of_getElem? (i := 44) rfl)) (hw _ (List.mem_of_getElem? (i := 45) rfl)) (notFace_of_selects (args := #[]) (mvT hZ162 (hw _ (List.mem_of_getElem? (i := 47) rfl)))) (hw _ (List.mem_of_getElem? (i := 47) rfl)) (hw _ (List.mem_of_getElem? (i := 46) rfl)) (hw _ (List.mem_of_getElem? (i := 10) rfl)) (hw _ (List.mem_of_getElem? (i := 48) rfl)) (by decide) (rmA1 l Z a0 hw [] b137 b125 cnt b0 _ T174.heap n0 Z177 Ft174 Fc174 f175 rfl) e179 f176 (by rw [hml]; rfl) (argsL := []) (rest := []) (lenOf pd_3 rfl) rfl rfl (W := 0) rfl (by decide) (by decide) (by decide) (by decide) (hb hby at_250) (pc' := 253) rfl ?_
        rintro v180 T180 L180 X180 ⟨rfl, Nq180, e180⟩
        have N180 := Fr.app N179 Nq180
        show Run p e below _ _ T180 (mkF m 253 #[.val (.long raw), .second, .val (.int sel), .val (.int size), .val (.int cnt), .val (.int opx), .val (.int (1 : Int32)), .val (.int b0), .val (.int b1), .val (.int b2), .val (.int b3), .val (.ref b125), .val (.int (opx &&& (3 : Int32))), .val (.ref o), .val (.ref b137), .val (.long ((0 : Int64) + own_sp b0)), .second, .val (.long (((((1 : Int32).toInt64) + ((0 : Int64) + own_sp b0)) + ((2 : Int64) * (cnt.toInt64))) + (2 : Int64))), .second] [(.long (((1 : Int32).toInt64 + ((0 : Int64) + own_sp b0)) + 2 * cnt.toInt64 + 2))])
        refine r_lload X180.here hx (hb hby at_253) rfl (pc' := 255) rfl ?_
        refine r_lcmp X180.here hx (hb hby at_255) (pc' := 256) rfl ?_
        refine r_ifL_ne X180.here hx (hb hby at_256) (by decide) (pc' := 263) (by decide) (pc2 := 259) rfl (fun hc256 => absurd rfl hc256) (fun hc256 => ?_)
        refine r_iconst X180.here hx (hb hby at_259) (v := 1) rfl (pc' := 260) rfl ?_
        refine r_goto X180.here hx (hb hby at_260) (by decide) (pc' := 264) (by decide) ?_
        refine w_retN (s := s) (vm1 := T162.vm) X180 hS162 (by rw [e180]; exact hk178) hx hlk hret (by simp) (hb hby at_264) (w := (1 : Int32)) rfl ?_ (by decide) (by decide)
        try rw [e180]
        exact ⟨rfl, N180⟩
      refine r_if0_eq X179.here hx (hb hby at_159) (by decide) (pc' := 168) (by decide) (pc2 := 162) rfl (fun hc159 => ?_) (fun hc159 => ?_)
      · exact Js0 _ (own_ssz b0 hc159 _)
      · refine r_lload X179.here hx (hb hby at_162) rfl (pc' := 164) rfl ?_
        refine r_lconst X179.here hx (hb hby at_164) (v := 1) rfl (pc' := 165) rfl ?_
        refine r_ladd X179.here hx (hb hby at_165) (pc' := 166) rfl ?_
        refine r_lstore X179.here hx (hb hby at_166) (l' := #[.val (.long raw), .second, .val (.int sel), .val (.int size), .val (.int cnt), .val (.int opx), .val (.int (1 : Int32)), .val (.int b0), .val (.int b1), .val (.int b2), .val (.int b3), .val (.ref b125), .val (.int (opx &&& (3 : Int32))), .val (.ref o), .val (.ref b137), .val (.long ((0 : Int64) + (1 : Int64))), .second, .unset, .unset]) rfl (pc' := 168) rfl ?_
        exact Js0 _ (own_sso b0 hc159 _)
    refine r_iload X132.here hx (hb hby at_93) rfl (pc' := 95) rfl ?_
    refine r_iconst X132.here hx (hb hby at_95) (v := 3) rfl (pc' := 96) rfl ?_
    refine r_iand X132.here hx (hb hby at_96) (pc' := 97) rfl ?_
    refine r_istore X132.here hx (hb hby at_97) (l' := #[.val (.long raw), .second, .val (.int sel), .val (.int size), .val (.int cnt), .val (.int opx), .val (.int (1 : Int32)), .val (.int b0), .val (.int b1), .val (.int b2), .val (.int b3), .val (.ref b125), .val (.int (opx &&& (3 : Int32))), .unset, .unset, .unset, .unset, .unset, .unset]) rfl (pc' := 99) rfl ?_
    refine r_iload X132.here hx (hb hby at_99) rfl (pc' := 101) rfl ?_
    refine r_if0_ne X132.here hx (hb hby at_101) (by decide) (pc' := 110) (by decide) (pc2 := 104) rfl (fun hc101 => ?_) (fun hc101 => ?_)
    · refine r_iload X132.here hx (hb hby at_110) rfl (pc' := 112) rfl ?_
      refine r_iconst X132.here hx (hb hby at_112) (v := 1) rfl (pc' := 113) rfl ?_
      refine r_if_ne X132.here hx (hb hby at_113) (by decide) (pc' := 122) (by decide) (pc2 := 116) rfl (fun hc113 => ?_) (fun hc113 => ?_)
      · refine r_getS X132 hx hZ hown (hw _ (List.mem_of_getElem? (i := 5) rfl)) Via.refl e132 f135 (hb hby at_122) (pc' := 125) rfl (fun T181 X181 e181 => ?_)
        exact Jo _ _ _ X181 N132 e181
      · refine r_getS X132 hx hZ hown (hw _ (List.mem_of_getElem? (i := 50) rfl)) Via.refl e132 f134 (hb hby at_116) (pc' := 119) rfl (fun T182 X182 e182 => ?_)
        refine r_goto X182.here hx (hb hby at_119) (by decide) (pc' := 125) (by decide) ?_
        exact Jo _ _ _ X182 N132 e182
    · refine r_getS X132 hx hZ hown (hw _ (List.mem_of_getElem? (i := 52) rfl)) Via.refl e132 f133 (hb hby at_104) (pc' := 107) rfl (fun T183 X183 e183 => ?_)
      refine r_goto X183.here hx (hb hby at_107) (by decide) (pc' := 125) (by decide) ?_
      exact Jo _ _ _ X183 N132 e183
  · refine r_istore X0.here hx (hb hby at_6) (l' := #[.val (.long raw), .second, .val (.int sel), .val (.int size), .val (.int cnt), .val (.int opx), .val (.int (2 : Int32)), .unset, .unset, .unset, .unset, .unset, .unset, .unset, .unset, .unset, .unset, .unset, .unset]) rfl (pc' := 8) rfl ?_
    refine r_lloadN X0.here hx (hb hby at_8) rfl (pc' := 9) rfl ?_
    refine r_iloadN X0.here hx (hb hby at_9) rfl (pc' := 10) rfl ?_
    refine r_iconst X0.here hx (hb hby at_10) (v := 0) rfl (pc' := 11) rfl ?_
    refine r_callS X0 hx hZ (y := (⟨"com/example/lockstep/lockstep/RowSetArraySizePinLaw", "pick", "(JII)B"⟩ : MethodName)) (rm := ({ frames := 0, cells := 0, slots := 0, locals := 0 } : Room)) hown (hw _ (List.mem_of_getElem? (i := 0) rfl)) (hw _ (List.mem_of_getElem? (i := 1) rfl)) (hw _ (List.mem_of_getElem? (i := 2) rfl)) (hw _ (List.mem_of_getElem? (i := 3) rfl)) (by decide) (rmP l Z a0 hw [] raw sel 0 h0 n0 Z0) e0 (by rw [hml]; rfl) (argsL := [(.long raw), (.int sel), (.int (0 : Int32))]) (rest := []) (lenOf pd_1 rfl) rfl rfl (W := 0) rfl (by decide) (by decide) (by decide) (by decide) (hb hby at_11) (pc' := 14) rfl ?_
    rintro v184 T184 L184 X184 ⟨b0, rfl, Nq184, e184, hb0⟩
    have N184 := Fr.app N0 Nq184
    show Run p e below _ _ T184 (mkF m 14 #[.val (.long raw), .second, .val (.int sel), .val (.int size), .val (.int cnt), .val (.int opx), .val (.int (2 : Int32)), .unset, .unset, .unset, .unset, .unset, .unset, .unset, .unset, .unset, .unset, .unset, .unset] [(.int b0)])
    refine r_istore X184.here hx (hb hby at_14) (l' := #[.val (.long raw), .second, .val (.int sel), .val (.int size), .val (.int cnt), .val (.int opx), .val (.int (2 : Int32)), .val (.int b0), .unset, .unset, .unset, .unset, .unset, .unset, .unset, .unset, .unset, .unset, .unset]) rfl (pc' := 16) rfl ?_
    refine r_lloadN X184.here hx (hb hby at_16) rfl (pc' := 17) rfl ?_
    refine r_iloadN X184.here hx (hb hby at_17) rfl (pc' := 18) rfl ?_
    refine r_iconst X184.here hx (hb hby at_18) (v := 1) rfl (pc' := 19) rfl ?_
    refine r_callS X184 hx hZ (y := (⟨"com/example/lockstep/lockstep/RowSetArraySizePinLaw", "pick", "(JII)B"⟩ : MethodName)) (rm := ({ frames := 0, cells := 0, slots := 0, locals := 0 } : Room)) hown (hw _ (List.mem_of_getElem? (i := 0) rfl)) (hw _ (List.mem_of_getElem? (i := 1) rfl)) (hw _ (List.mem_of_getElem? (i := 2) rfl)) (hw _ (List.mem_of_getElem? (i := 3) rfl)) (by decide) (rmP l Z a0 hw [] raw sel 1 h0 n0 Z0) e184 (by rw [hml]; rfl) (argsL := [(.long raw), (.int sel), (.int (1 : Int32))]) (rest := []) (lenOf pd_1 rfl) rfl rfl (W := 0) rfl (by decide) (by decide) (by decide) (by decide) (hb hby at_19) (pc' := 22) rfl ?_
    rintro v185 T185 L185 X185 ⟨b1, rfl, Nq185, e185, hb1⟩
    have N185 := Fr.app N184 Nq185
    show Run p e below _ _ T185 (mkF m 22 #[.val (.long raw), .second, .val (.int sel), .val (.int size), .val (.int cnt), .val (.int opx), .val (.int (2 : Int32)), .val (.int b0), .unset, .unset, .unset, .unset, .unset, .unset, .unset, .unset, .unset, .unset, .unset] [(.int b1)])
    refine r_istore X185.here hx (hb hby at_22) (l' := #[.val (.long raw), .second, .val (.int sel), .val (.int size), .val (.int cnt), .val (.int opx), .val (.int (2 : Int32)), .val (.int b0), .val (.int b1), .unset, .unset, .unset, .unset, .unset, .unset, .unset, .unset, .unset, .unset]) rfl (pc' := 24) rfl ?_
    refine r_lloadN X185.here hx (hb hby at_24) rfl (pc' := 25) rfl ?_
    refine r_iloadN X185.here hx (hb hby at_25) rfl (pc' := 26) rfl ?_
    refine r_iconst X185.here hx (hb hby at_26) (v := 2) rfl (pc' := 27) rfl ?_
    refine r_callS X185 hx hZ (y := (⟨"com/example/lockstep/lockstep/RowSetArraySizePinLaw", "pick", "(JII)B"⟩ : MethodName)) (rm := ({ frames := 0, cells := 0, slots := 0, locals := 0 } : Room)) hown (hw _ (List.mem_of_getElem? (i := 0) rfl)) (hw _ (List.mem_of_getElem? (i := 1) rfl)) (hw _ (List.mem_of_getElem? (i := 2) rfl)) (hw _ (List.mem_of_getElem? (i := 3) rfl)) (by decide) (rmP l Z a0 hw [] raw sel 2 h0 n0 Z0) e185 (by rw [hml]; rfl) (argsL := [(.long raw), (.int sel), (.int (2 : Int32))]) (rest := []) (lenOf pd_1 rfl) rfl rfl (W := 0) rfl (by decide) (by decide) (by decide) (by decide) (hb hby at_27) (pc' := 30) rfl ?_
    rintro v186 T186 L186 X186 ⟨b2, rfl, Nq186, e186, hb2⟩
    have N186 := Fr.app N185 Nq186
    show Run p e below _ _ T186 (mkF m 30 #[.val (.long raw), .second, .val (.int sel), .val (.int size), .val (.int cnt), .val (.int opx), .val (.int (2 : Int32)), .val (.int b0), .val (.int b1), .unset, .unset, .unset, .unset, .unset, .unset, .unset, .unset, .unset, .unset] [(.int b2)])
    refine r_istore X186.here hx (hb hby at_30) (l' := #[.val (.long raw), .second, .val (.int sel), .val (.int size), .val (.int cnt), .val (.int opx), .val (.int (2 : Int32)), .val (.int b0), .val (.int b1), .val (.int b2), .unset, .unset, .unset, .unset, .unset, .unset, .unset, .unset, .unset]) rfl (pc' := 32) rfl ?_
    refine r_lloadN X186.here hx (hb hby at_32) rfl (pc' := 33) rfl ?_
    refine r_iloadN X186.here hx (hb hby at_33) rfl (pc' := 34) rfl ?_
    refine r_iconst X186.here hx (hb hby at_34) (v := 3) rfl (pc' := 35) rfl ?_
    refine r_callS X186 hx hZ (y := (⟨"com/example/lockstep/lockstep/RowSetArraySizePinLaw", "pick", "(JII)B"⟩ : MethodName)) (rm := ({ frames := 0, cells := 0, slots := 0, locals := 0 } : Room)) hown (hw _ (List.mem_of_getElem? (i := 0) rfl)) (hw _ (List.mem_of_getElem? (i := 1) rfl)) (hw _ (List.mem_of_getElem? (i := 2) rfl)) (hw _ (List.mem_of_getElem? (i := 3) rfl)) (by decide) (rmP l Z a0 hw [] raw sel 3 h0 n0 Z0) e186 (by rw [hml]; rfl) (argsL := [(.long raw), (.int sel), (.int (3 : Int32))]) (rest := []) (lenOf pd_1 rfl) rfl rfl (W := 0) rfl (by decide) (by decide) (by decide) (by decide) (hb hby at_35) (pc' := 38) rfl ?_
    rintro v187 T187 L187 X187 ⟨b3, rfl, Nq187, e187, hb3⟩
    have N187 := Fr.app N186 Nq187
    show Run p e below _ _ T187 (mkF m 38 #[.val (.long raw), .second, .val (.int sel), .val (.int size), .val (.int cnt), .val (.int opx), .val (.int (2 : Int32)), .val (.int b0), .val (.int b1), .val (.int b2), .unset, .unset, .unset, .unset, .unset, .unset, .unset, .unset, .unset] [(.int b3)])
    refine r_istore X187.here hx (hb hby at_38) (l' := #[.val (.long raw), .second, .val (.int sel), .val (.int size), .val (.int cnt), .val (.int opx), .val (.int (2 : Int32)), .val (.int b0), .val (.int b1), .val (.int b2), .val (.int b3), .unset, .unset, .unset, .unset, .unset, .unset, .unset, .unset]) rfl (pc' := 40) rfl ?_
    refine r_iload X187.here hx (hb hby at_40) rfl (pc' := 42) rfl ?_
    refine r_newarray X187 hx hZ (aty := .byte) (hw _ (List.mem_of_getElem? (i := 4) rfl)) e187 (cap := 2) (by decide) (by decide) (by decide) (by decide) (by decide) (hb hby at_42) (pc' := 44) rfl (fun T188 h188 b188 k188 g188 X188 e188 E188 A188 => ?_)
    have ge189 : n0 ≤ b188 := by rw [g188]; exact Z0
    have f190 := own_staExt So0 E188
    have f191 := own_staExt So1 E188
    have f192 := own_staExt So2 E188
    have Z193 : n0 ≤ h188.size := by have q := Z0; exact Nat.le_trans q E188.1
    have f194 : Ary Z h188 b188 .byte 2 (fun _ => .int 0) := Ary.new A188 rfl
    refine r_astore X188.here hx (hb hby at_44) rfl (l' := #[.val (.long raw), .second, .val (.int sel), .val (.int size), .val (.int cnt), .val (.int opx), .val (.int (2 : Int32)), .val (.int b0), .val (.int b1), .val (.int b2), .val (.int b3), .val (.ref b188), .unset, .unset, .unset, .unset, .unset, .unset, .unset]) rfl (pc' := 46) rfl ?_
    refine r_iload X188.here hx (hb hby at_46) rfl (pc' := 48) rfl ?_
    refine r_if0_le X188.here hx (hb hby at_48) (by decide) (pc' := 57) (by decide) (pc2 := 51) rfl (fun hc48 => absurd hc48 (by decide)) (fun hc48 => ?_)
    refine r_aload X188.here hx (hb hby at_51) rfl rfl (pc' := 53) rfl ?_
    refine r_iconst X188.here hx (hb hby at_53) (v := 0) rfl (pc' := 54) rfl ?_
    refine r_iload X188.here hx (hb hby at_54) rfl (pc' := 56) rfl ?_
    refine q_bastoreB X188 hx hZ e188 (j := (0 : Int32)) f194 (by decide) (by decide) (w := b0) hb0 (hb hby at_56) (pc' := 57) rfl (fun T195 h195 X195 e195 W195 A195 => ?_)
    have f196 := f190.wr W195
    have f197 := f191.wr W195
    have f198 := f192.wr W195
    have Z199 : n0 ≤ h195.size := by have q := Z193; rw [W195.size]; exact q
    have N195 := Fr.snoc X195 N187 ge189
    refine r_iload X195.here hx (hb hby at_57) rfl (pc' := 59) rfl ?_
    refine r_iconst X195.here hx (hb hby at_59) (v := 1) rfl (pc' := 60) rfl ?_
    refine r_if_le X195.here hx (hb hby at_60) (by decide) (pc' := 69) (by decide) (pc2 := 63) rfl (fun hc60 => absurd hc60 (by decide)) (fun hc60 => ?_)
    refine r_aload X195.here hx (hb hby at_63) rfl rfl (pc' := 65) rfl ?_
    refine r_iconst X195.here hx (hb hby at_65) (v := 1) rfl (pc' := 66) rfl ?_
    refine r_iload X195.here hx (hb hby at_66) rfl (pc' := 68) rfl ?_
    refine q_bastoreB X195 hx hZ e195 (j := (1 : Int32)) A195 (by decide) (by decide) (w := b1) hb1 (hb hby at_68) (pc' := 69) rfl (fun T200 h200 X200 e200 W200 A200 => ?_)
    have f201 := f196.wr W200
    have f202 := f197.wr W200
    have f203 := f198.wr W200
    have Z204 : n0 ≤ h200.size := by have q := Z199; rw [W200.size]; exact q
    have N200 := Fr.snoc X200 N195 ge189
    refine r_iload X200.here hx (hb hby at_69) rfl (pc' := 71) rfl ?_
    refine r_iconst X200.here hx (hb hby at_71) (v := 2) rfl (pc' := 72) rfl ?_
    refine r_if_le X200.here hx (hb hby at_72) (by decide) (pc' := 81) (by decide) (pc2 := 75) rfl (fun hc72 => ?_) (fun hc72 => absurd (by decide) hc72)
    refine r_iload X200.here hx (hb hby at_81) rfl (pc' := 83) rfl ?_
    refine r_iconst X200.here hx (hb hby at_83) (v := 3) rfl (pc' := 84) rfl ?_
    refine r_if_le X200.here hx (hb hby at_84) (by decide) (pc' := 93) (by decide) (pc2 := 87) rfl (fun hc84 => ?_) (fun hc84 => absurd (by decide) hc84)
    have Jo : ∀ (o : Addr) (T9 : State) (L9 : List Loc), Stand p l e room_1 s m #[(.long raw), (.int sel), (.int size), (.int cnt), (.int opx)] below meth c T9 L9 1 2 → Fr n0 L9 → T9.heap = h200 → Run p e below (fun v h L => v = some (.int 1) ∧ Fr n0 L) (fun o t L => ReturnedEndW s o t L 16 2176) T9 (mkF m 125 #[.val (.long raw), .second, .val (.int sel), .val (.int size), .val (.int cnt), .val (.int opx), .val (.int (2 : Int32)), .val (.int b0), .val (.int b1), .val (.int b2), .val (.int b3), .val (.ref b188), .val (.int (opx &&& (3 : Int32))), .unset, .unset, .unset, .unset, .unset, .unset] [(.ref o)]) := by
      intro o T9 L9 X9 N9 e9
      refine r_astore X9.here hx (hb hby at_125) rfl (l' := #[.val (.long raw), .second, .val (.int sel), .val (.int size), .val (.int cnt), .val (.int opx), .val (.int (2 : Int32)), .val (.int b0), .val (.int b1), .val (.int b2), .val (.int b3), .val (.ref b188), .val (.int (opx &&& (3 : Int32))), .val (.ref o), .unset, .unset, .unset, .unset, .unset]) rfl (pc' := 127) rfl ?_
      refine r_new X9 hx hZ hown (hw _ (List.mem_of_getElem? (i := 8) rfl)) (hw _ (List.mem_of_getElem? (i := 9) rfl)) (hw _ (List.mem_of_getElem? (i := 10) rfl)) e9 (by decide) (by decide) (hb hby at_127) (pc' := 130) rfl (fun T205 h205 b205 g205 X205 e205 E205 A205 D205 => ?_)
      have ne206 : b205 ≠ b188 := by have q := A200.lt; rw [← g205] at q; exact Nat.ne_of_gt q
      have ge207 : n0 ≤ b205 := by rw [g205]; exact Z204
      have f208 := own_staExt f201 E205
      have f209 := own_staExt f202 E205
      have f210 := own_staExt f203 E205
      have f211 := A200.ext E205
      have Z212 : n0 ≤ h205.size := by have q := Z204; exact Nat.le_trans q E205.1
      have f213 : Fld Z h205 b205 "com/example/lockstep/lockstep/Writeset$RowSet" "schema" "Ljava/lang/String;" .null := D205 (Or.inr (hw _ (List.mem_of_getElem? (i := 31) rfl))) (ty := (.object "java/lang/String")) (by decide)
      have f214 : Fld Z h205 b205 "com/example/lockstep/lockstep/Writeset$RowSet" "table" "Ljava/lang/String;" .null := D205 (Or.inr (hw _ (List.mem_of_getElem? (i := 33) rfl))) (ty := (.object "java/lang/String")) (by decide)
      have f215 : Fld Z h205 b205 "com/example/lockstep/lockstep/Writeset$RowSet" "operation" "Lcom/example/lockstep/lockstep/Writeset$Operation;" .null := D205 (Or.inr (hw _ (List.mem_of_getElem? (i := 35) rfl))) (ty := (.object "com/example/lockstep/lockstep/Writeset$Operation")) (by decide)
      have f216 : Fld Z h205 b205 "com/example/lockstep/lockstep/Writeset$RowSet" "count" "I" (.int (0 : Int32)) := D205 (Or.inr (hw _ (List.mem_of_getElem? (i := 37) rfl))) (ty := .int) (by decide)
      have f217 : Fld Z h205 b205 "com/example/lockstep/lockstep/Writeset$RowSet" "texts" "[B" .null := D205 (Or.inr (hw _ (List.mem_of_getElem? (i := 39) rfl))) (ty := (.array .byte)) (by decide)
      refine r_dup X205.here hx (hb hby at_130) rfl (pc' := 131) rfl ?_
      refine r_ldcS (s := s) (vm0 := s.vm) X205 hx hZ hown (hw _ (List.mem_of_getElem? (i := 11) rfl)) (own_sa hw) e205 ((State.WarmedH.refl s).since 0) (Nat.zero_le _) (nn := 4) (by decide) (by decide) (by decide) (by decide) (hb hby at_131) (pc' := 133) rfl (fun b218 T218 h218 k218 X218 e218 E218 hS218 hk218 hZ218 hown218 => ?_)
      have f219 := own_staExt f208 E218
      have f220 := own_staExt f209 E218
      have f221 := own_staExt f210 E218
      have f222 := f211.ext E218
      have f223 := A205.ext E218
      have f224 := f213.ext E218
      have f225 := f214.ext E218
      have f226 := f215.ext E218
      have f227 := f216.ext E218
      have f228 := f217.ext E218
      have Z229 : n0 ≤ h218.size := by have q := Z212; exact Nat.le_trans q E218.1
      refine r_ldcS (s := s) (vm0 := T218.vm) X218 hx hZ218 hown218 (hw _ (List.mem_of_getElem? (i := 18) rfl)) (own_sa hw) e218 hS218 hk218 (nn := 4) (by decide) (by decide) (by decide) (by decide) (hb hby at_133) (pc' := 135) rfl (fun b230 T230 h230 k230 X230 e230 E230 hS230 hk230 hZ230 hown230 => ?_)
      have f231 := own_staExt f219 E230
      have f232 := own_staExt f220 E230
      have f233 := own_staExt f221 E230
      have f234 := f222.ext E230
      have f235 := f223.ext E230
      have f236 := f224.ext E230
      have f237 := f225.ext E230
      have f238 := f226.ext E230
      have f239 := f227.ext E230
      have f240 := f228.ext E230
      have Z241 : n0 ≤ h230.size := by have q := Z229; exact Nat.le_trans q E230.1
      refine r_aload X230.here hx (hb hby at_135) rfl rfl (pc' := 137) rfl ?_
      refine r_iload X230.here hx (hb hby at_137) rfl (pc' := 139) rfl ?_
      refine r_aload X230.here hx (hb hby at_139) rfl rfl (pc' := 141) rfl ?_
      refine r_callI X230 hx hZ230 (y := (⟨"com/example/lockstep/lockstep/Writeset$RowSet", "<init>", "(Ljava/lang/String;Ljava/lang/String;Lcom/example/lockstep/lockstep/Writeset$Operation;I[B)V"⟩ : MethodName)) (rm := ({ frames := 2, cells := 0, slots := 0, locals := 24 } : Room)) hown230 rfl (hw _ (List.mem_of_getElem? (i := 19) rfl)) (hw _ (List.mem_of_getElem? (i := 20) rfl)) (hw _ (List.mem_of_getElem? (i := 10) rfl)) (hw _ (List.mem_of_getElem? (i := 21) rfl)) (by decide) (rmI l Z a0 hw [] b205 b218 b230 o cnt b188 h230 n0 Z241 ge207 f235 f236 f237 f238 f239 f240) e230 (by rw [hml]; rfl) (argsL := [(.ref b218), (.ref b230), (.ref o), (.int cnt), (.ref b188)]) (rest := [(.ref b205)]) (lenOf pd_2 rfl) rfl rfl (W := 1) rfl (by decide) (by decide) (by decide) (by decide) (hb hby at_141) (pc' := 144) rfl ?_
      rintro v242 T242 L242 X242 ⟨rfl, Nq242, K242, Fc242, Ft242⟩
      have N242 := Fr.app N9 Nq242
      show Run p e below _ _ T242 (mkF m 144 #[.val (.long raw), .second, .val (.int sel), .val (.int size), .val (.int cnt), .val (.int opx), .val (.int (2 : Int32)), .val (.int b0), .val (.int b1), .val (.int b2), .val (.int b3), .val (.ref b188), .val (.int (opx &&& (3 : Int32))), .val (.ref o), .unset, .unset, .unset, .unset, .unset] [(.ref b205)])
      have f243 := f234.keep K242 (ninS (Ne.symm ne206) nin0)
      have f244 := f235.keep K242
      have Z245 : n0 ≤ T242.heap.size := by have q := Z241; exact Nat.le_trans q K242.1
      have hk246 : k230 ≤ T242.heap.size := by have q := hk230; exact Nat.le_trans q K242.1
      refine r_astore X242.here hx (hb hby at_144) rfl (l' := #[.val (.long raw), .second, .val (.int sel), .val (.int size), .val (.int cnt), .val (.int opx), .val (.int (2 : Int32)), .val (.int b0), .val (.int b1), .val (.int b2), .val (.int b3), .val (.ref b188), .val (.int (opx &&& (3 : Int32))), .val (.ref o), .val (.ref b205), .unset, .unset, .unset, .unset]) rfl (pc' := 146) rfl ?_
      refine r_lconst X242.here hx (hb hby at_146) (v := 0) rfl (pc' := 147) rfl ?_
      refine r_lstore X242.here hx (hb hby at_147) (l' := #[.val (.long raw), .second, .val (.int sel), .val (.int size), .val (.int cnt), .val (.int opx), .val (.int (2 : Int32)), .val (.int b0), .val (.int b1), .val (.int b2), .val (.int b3), .val (.ref b188), .val (.int (opx &&& (3 : Int32))), .val (.ref o), .val (.ref b205), .val (.long (0 : Int64)), .second, .unset, .unset]) rfl (pc' := 149) rfl ?_
      refine r_iload X242.here hx (hb hby at_149) rfl (pc' := 151) rfl ?_
      refine r_if0_le X242.here hx (hb hby at_151) (by decide) (pc' := 168) (by decide) (pc2 := 154) rfl (fun hc151 => absurd hc151 (by decide)) (fun hc151 => ?_)
      refine r_iload X242.here hx (hb hby at_154) rfl (pc' := 156) rfl ?_
      refine r_callS X242 hx hZ230 (y := (⟨"com/example/lockstep/lockstep/RowSetArraySizePinLaw", "special", "(B)Z"⟩ : MethodName)) (rm := ({ frames := 0, cells := 0, slots := 0, locals := 0 } : Room)) hown230 (hw _ (List.mem_of_getElem? (i := 40) rfl)) (hw _ (List.mem_of_getElem? (i := 41) rfl)) (hw _ (List.mem_of_getElem? (i := 2) rfl)) (hw _ (List.mem_of_getElem? (i := 42) rfl)) (by decide) (rmS l Z a0 hw [] b0 T242.heap n0 Z245) rfl (by rw [hml]; rfl) (argsL := [(.int b0)]) (rest := []) (lenOf pd_4 rfl) rfl rfl (W := 0) rfl (by decide) (by decide) (by decide) (by decide) (hb hby at_156) (pc' := 159) rfl ?_
      rintro v247 T247 L247 X247 ⟨rfl, Nq247, e247⟩
      have N247 := Fr.app N242 Nq247
      show Run p e below _ _ T247 (mkF m 159 #[.val (.long raw), .second, .val (.int sel), .val (.int size), .val (.int cnt), .val (.int opx), .val (.int (2 : Int32)), .val (.int b0), .val (.int b1), .val (.int b2), .val (.int b3), .val (.ref b188), .val (.int (opx &&& (3 : Int32))), .val (.ref o), .val (.ref b205), .val (.long (0 : Int64)), .second, .unset, .unset] [(.int (own_si b0))])
      have Js0 : ∀ z0 : Int64, z0 = (0 : Int64) + own_sp b0 → Run p e below (fun v h L => v = some (.int 1) ∧ Fr n0 L) (fun o t L => ReturnedEndW s o t L 16 2176) T247 (mkF m 168 #[.val (.long raw), .second, .val (.int sel), .val (.int size), .val (.int cnt), .val (.int opx), .val (.int (2 : Int32)), .val (.int b0), .val (.int b1), .val (.int b2), .val (.int b3), .val (.ref b188), .val (.int (opx &&& (3 : Int32))), .val (.ref o), .val (.ref b205), .val (.long z0), .second, .unset, .unset] []) := by
        intro z0 hz0
        subst hz0
        refine r_iload X247.here hx (hb hby at_168) rfl (pc' := 170) rfl ?_
        refine r_iconst X247.here hx (hb hby at_170) (v := 1) rfl (pc' := 171) rfl ?_
        refine r_if_le X247.here hx (hb hby at_171) (by decide) (pc' := 188) (by decide) (pc2 := 174) rfl (fun hc171 => absurd hc171 (by decide)) (fun hc171 => ?_)
        refine r_iload X247.here hx (hb hby at_174) rfl (pc' := 176) rfl ?_
        refine r_callS X247 hx hZ230 (y := (⟨"com/example/lockstep/lockstep/RowSetArraySizePinLaw", "special", "(B)Z"⟩ : MethodName)) (rm := ({ frames := 0, cells := 0, slots := 0, locals := 0 } : Room)) hown230 (hw _ (List.mem_of_getElem? (i := 40) rfl)) (hw _ (List.mem_of_getElem? (i := 41) rfl)) (hw _ (List.mem_of_getElem? (i := 2) rfl)) (hw _ (List.mem_of_getElem? (i := 42) rfl)) (by decide) (rmS l Z a0 hw [] b1 T242.heap n0 Z245) e247 (by rw [hml]; rfl) (argsL := [(.int b1)]) (rest := []) (lenOf pd_4 rfl) rfl rfl (W := 0) rfl (by decide) (by decide) (by decide) (by decide) (hb hby at_176) (pc' := 179) rfl ?_
        rintro v248 T248 L248 X248 ⟨rfl, Nq248, e248⟩
        have N248 := Fr.app N247 Nq248
        show Run p e below _ _ T248 (mkF m 179 #[.val (.long raw), .second, .val (.int sel), .val (.int size), .val (.int cnt), .val (.int opx), .val (.int (2 : Int32)), .val (.int b0), .val (.int b1), .val (.int b2), .val (.int b3), .val (.ref b188), .val (.int (opx &&& (3 : Int32))), .val (.ref o), .val (.ref b205), .val (.long ((0 : Int64) + own_sp b0)), .second, .unset, .unset] [(.int (own_si b1))])
        have Js1 : ∀ z1 : Int64, z1 = ((0 : Int64) + own_sp b0) + own_sp b1 → Run p e below (fun v h L => v = some (.int 1) ∧ Fr n0 L) (fun o t L => ReturnedEndW s o t L 16 2176) T248 (mkF m 188 #[.val (.long raw), .second, .val (.int sel), .val (.int size), .val (.int cnt), .val (.int opx), .val (.int (2 : Int32)), .val (.int b0), .val (.int b1), .val (.int b2), .val (.int b3), .val (.ref b188), .val (.int (opx &&& (3 : Int32))), .val (.ref o), .val (.ref b205), .val (.long z1), .second, .unset, .unset] []) := by
          intro z1 hz1
          subst hz1
          refine r_iload X248.here hx (hb hby at_188) rfl (pc' := 190) rfl ?_
          refine r_iconst X248.here hx (hb hby at_190) (v := 2) rfl (pc' := 191) rfl ?_
          refine r_if_le X248.here hx (hb hby at_191) (by decide) (pc' := 208) (by decide) (pc2 := 194) rfl (fun hc191 => ?_) (fun hc191 => absurd (by decide) hc191)
          refine r_iload X248.here hx (hb hby at_208) rfl (pc' := 210) rfl ?_
          refine r_iconst X248.here hx (hb hby at_210) (v := 3) rfl (pc' := 211) rfl ?_
          refine r_if_le X248.here hx (hb hby at_211) (by decide) (pc' := 228) (by decide) (pc2 := 214) rfl (fun hc211 => ?_) (fun hc211 => absurd (by decide) hc211)
          refine r_iload X248.here hx (hb hby at_228) rfl (pc' := 230) rfl ?_
          refine r_i2l X248.here hx (hb hby at_230) (pc' := 231) rfl ?_
          refine r_lload X248.here hx (hb hby at_231) rfl (pc' := 233) rfl ?_
          refine r_ladd X248.here hx (hb hby at_233) (pc' := 234) rfl ?_
          refine r_ldc2 X248 hx hZ230 hown230 (hw _ (List.mem_of_getElem? (i := 43) rfl)) (hb hby at_234) (pc' := 237) rfl ?_
          refine r_iload X248.here hx (hb hby at_237) rfl (pc' := 239) rfl ?_
          refine r_i2l X248.here hx (hb hby at_239) (pc' := 240) rfl ?_
          refine r_lmul X248.here hx (hb hby at_240) (pc' := 241) rfl ?_
          refine r_ladd X248.here hx (hb hby at_241) (pc' := 242) rfl ?_
          refine r_ldc2 X248 hx hZ230 hown230 (hw _ (List.mem_of_getElem? (i := 43) rfl)) (hb hby at_242) (pc' := 245) rfl ?_
          refine r_ladd X248.here hx (hb hby at_245) (pc' := 246) rfl ?_
          refine r_lstore X248.here hx (hb hby at_246) (l' := #[.val (.long raw), .second, .val (.int sel), .val (.int size), .val (.int cnt), .val (.int opx), .val (.int (2 : Int32)), .val (.int b0), .val (.int b1), .val (.int b2), .val (.int b3), .val (.ref b188), .val (.int (opx &&& (3 : Int32))), .val (.ref o), .val (.ref b205), .val (.long (((0 : Int64) + own_sp b0) + own_sp b1)), .second, .val (.long (((((2 : Int32).toInt64) + (((0 : Int64) + own_sp b0) + own_sp b1)) + ((2 : Int64) * (cnt.toInt64))) + (2 : Int64))), .second]) rfl (pc' := 248) rfl ?_
          refine r_aload X248.here hx (hb hby at_248) rfl rfl (pc' := 250) rfl ?_
          refine r_callV X248 hx hZ230 (y := (⟨"com/example/lockstep/lockstep/Writeset$RowSet", "arraySize", "()J"⟩ : MethodName)) (z := (⟨"com/example/lockstep/lockstep/Writeset$RowSet", "arraySize", "()J"⟩ : MethodName)) (rm := ({ frames := 0, cells := 0, slots := 0, locals := 0 } : Room)) hown230 (hw _ (List.mem_of_getElem? (i := 44) rfl)) (hw _ (List.mem_of_getElem? (i := 45) rfl)) (notFace_of_selects (args := #[]) (mvT hZ230 (hw _ (List.mem_of_getElem? (i := 47) rfl)))) (hw _ (List.mem_of_getElem? (i := 47) rfl)) (hw _ (List.mem_of_getElem? (i := 46) rfl)) (hw _ (List.mem_of_getElem? (i := 10) rfl)) (hw _ (List.mem_of_getElem? (i := 48) rfl)) (by decide) (rmA2 l Z a0 hw [] b205 b188 cnt b0 b1 _ T242.heap n0 Z245 Ft242 Fc242 f243 rfl rfl) e248 f244 (by rw [hml]; rfl) (argsL := []) (rest := []) (lenOf pd_3 rfl) rfl rfl (W := 0) rfl (by decide) (by decide) (by decide) (by decide) (hb hby at_250) (pc' := 253) rfl ?_
          rintro v249 T249 L249 X249 ⟨rfl, Nq249, e249⟩
          have N249 := Fr.app N248 Nq249
          show Run p e below _ _ T249 (mkF m 253 #[.val (.long raw), .second, .val (.int sel), .val (.int size), .val (.int cnt), .val (.int opx), .val (.int (2 : Int32)), .val (.int b0), .val (.int b1), .val (.int b2), .val (.int b3), .val (.ref b188), .val (.int (opx &&& (3 : Int32))), .val (.ref o), .val (.ref b205), .val (.long (((0 : Int64) + own_sp b0) + own_sp b1)), .second, .val (.long (((((2 : Int32).toInt64) + (((0 : Int64) + own_sp b0) + own_sp b1)) + ((2 : Int64) * (cnt.toInt64))) + (2 : Int64))), .second] [(.long (((2 : Int32).toInt64 + (((0 : Int64) + own_sp b0) + own_sp b1)) + 2 * cnt.toInt64 + 2))])
          refine r_lload X249.here hx (hb hby at_253) rfl (pc' := 255) rfl ?_
          refine r_lcmp X249.here hx (hb hby at_255) (pc' := 256) rfl ?_
          refine r_ifL_ne X249.here hx (hb hby at_256) (by decide) (pc' := 263) (by decide) (pc2 := 259) rfl (fun hc256 => absurd rfl hc256) (fun hc256 => ?_)
          refine r_iconst X249.here hx (hb hby at_259) (v := 1) rfl (pc' := 260) rfl ?_
          refine r_goto X249.here hx (hb hby at_260) (by decide) (pc' := 264) (by decide) ?_
          refine w_retN (s := s) (vm1 := T230.vm) X249 hS230 (by rw [e249]; exact hk246) hx hlk hret (by simp) (hb hby at_264) (w := (1 : Int32)) rfl ?_ (by decide) (by decide)
          try rw [e249]
          exact ⟨rfl, N249⟩
        refine r_if0_eq X248.here hx (hb hby at_179) (by decide) (pc' := 188) (by decide) (pc2 := 182) rfl (fun hc179 => ?_) (fun hc179 => ?_)
        · exact Js1 _ (own_ssz b1 hc179 _)
        · refine r_lload X248.here hx (hb hby at_182) rfl (pc' := 184) rfl ?_
          refine r_lconst X248.here hx (hb hby at_184) (v := 1) rfl (pc' := 185) rfl ?_
          refine r_ladd X248.here hx (hb hby at_185) (pc' := 186) rfl ?_
          refine r_lstore X248.here hx (hb hby at_186) (l' := #[.val (.long raw), .second, .val (.int sel), .val (.int size), .val (.int cnt), .val (.int opx), .val (.int (2 : Int32)), .val (.int b0), .val (.int b1), .val (.int b2), .val (.int b3), .val (.ref b188), .val (.int (opx &&& (3 : Int32))), .val (.ref o), .val (.ref b205), .val (.long (((0 : Int64) + own_sp b0) + (1 : Int64))), .second, .unset, .unset]) rfl (pc' := 188) rfl ?_
          exact Js1 _ (own_sso b1 hc179 _)
      refine r_if0_eq X247.here hx (hb hby at_159) (by decide) (pc' := 168) (by decide) (pc2 := 162) rfl (fun hc159 => ?_) (fun hc159 => ?_)
      · exact Js0 _ (own_ssz b0 hc159 _)
      · refine r_lload X247.here hx (hb hby at_162) rfl (pc' := 164) rfl ?_
        refine r_lconst X247.here hx (hb hby at_164) (v := 1) rfl (pc' := 165) rfl ?_
        refine r_ladd X247.here hx (hb hby at_165) (pc' := 166) rfl ?_
        refine r_lstore X247.here hx (hb hby at_166) (l' := #[.val (.long raw), .second, .val (.int sel), .val (.int size), .val (.int cnt), .val (.int opx), .val (.int (2 : Int32)), .val (.int b0), .val (.int b1), .val (.int b2), .val (.int b3), .val (.ref b188), .val (.int (opx &&& (3 : Int32))), .val (.ref o), .val (.ref b205), .val (.long ((0 : Int64) + (1 : Int64))), .second, .unset, .unset]) rfl (pc' := 168) rfl ?_
        exact Js0 _ (own_sso b0 hc159 _)
    refine r_iload X200.here hx (hb hby at_93) rfl (pc' := 95) rfl ?_
    refine r_iconst X200.here hx (hb hby at_95) (v := 3) rfl (pc' := 96) rfl ?_
    refine r_iand X200.here hx (hb hby at_96) (pc' := 97) rfl ?_
    refine r_istore X200.here hx (hb hby at_97) (l' := #[.val (.long raw), .second, .val (.int sel), .val (.int size), .val (.int cnt), .val (.int opx), .val (.int (2 : Int32)), .val (.int b0), .val (.int b1), .val (.int b2), .val (.int b3), .val (.ref b188), .val (.int (opx &&& (3 : Int32))), .unset, .unset, .unset, .unset, .unset, .unset]) rfl (pc' := 99) rfl ?_
    refine r_iload X200.here hx (hb hby at_99) rfl (pc' := 101) rfl ?_
    refine r_if0_ne X200.here hx (hb hby at_101) (by decide) (pc' := 110) (by decide) (pc2 := 104) rfl (fun hc101 => ?_) (fun hc101 => ?_)
    · refine r_iload X200.here hx (hb hby at_110) rfl (pc' := 112) rfl ?_
      refine r_iconst X200.here hx (hb hby at_112) (v := 1) rfl (pc' := 113) rfl ?_
      refine r_if_ne X200.here hx (hb hby at_113) (by decide) (pc' := 122) (by decide) (pc2 := 116) rfl (fun hc113 => ?_) (fun hc113 => ?_)
      · refine r_getS X200 hx hZ hown (hw _ (List.mem_of_getElem? (i := 5) rfl)) Via.refl e200 f203 (hb hby at_122) (pc' := 125) rfl (fun T250 X250 e250 => ?_)
        exact Jo _ _ _ X250 N200 e250
      · refine r_getS X200 hx hZ hown (hw _ (List.mem_of_getElem? (i := 50) rfl)) Via.refl e200 f202 (hb hby at_116) (pc' := 119) rfl (fun T251 X251 e251 => ?_)
        refine r_goto X251.here hx (hb hby at_119) (by decide) (pc' := 125) (by decide) ?_
        exact Jo _ _ _ X251 N200 e251
    · refine r_getS X200 hx hZ hown (hw _ (List.mem_of_getElem? (i := 52) rfl)) Via.refl e200 f201 (hb hby at_104) (pc' := 107) rfl (fun T252 X252 e252 => ?_)
      refine r_goto X252.here hx (hb hby at_107) (by decide) (pc' := 125) (by decide) ?_
      exact Jo _ _ _ X252 N200 e252
  · refine r_istore X0.here hx (hb hby at_6) (l' := #[.val (.long raw), .second, .val (.int sel), .val (.int size), .val (.int cnt), .val (.int opx), .val (.int (3 : Int32)), .unset, .unset, .unset, .unset, .unset, .unset, .unset, .unset, .unset, .unset, .unset, .unset]) rfl (pc' := 8) rfl ?_
    refine r_lloadN X0.here hx (hb hby at_8) rfl (pc' := 9) rfl ?_
    refine r_iloadN X0.here hx (hb hby at_9) rfl (pc' := 10) rfl ?_
    refine r_iconst X0.here hx (hb hby at_10) (v := 0) rfl (pc' := 11) rfl ?_
    refine r_callS X0 hx hZ (y := (⟨"com/example/lockstep/lockstep/RowSetArraySizePinLaw", "pick", "(JII)B"⟩ : MethodName)) (rm := ({ frames := 0, cells := 0, slots := 0, locals := 0 } : Room)) hown (hw _ (List.mem_of_getElem? (i := 0) rfl)) (hw _ (List.mem_of_getElem? (i := 1) rfl)) (hw _ (List.mem_of_getElem? (i := 2) rfl)) (hw _ (List.mem_of_getElem? (i := 3) rfl)) (by decide) (rmP l Z a0 hw [] raw sel 0 h0 n0 Z0) e0 (by rw [hml]; rfl) (argsL := [(.long raw), (.int sel), (.int (0 : Int32))]) (rest := []) (lenOf pd_1 rfl) rfl rfl (W := 0) rfl (by decide) (by decide) (by decide) (by decide) (hb hby at_11) (pc' := 14) rfl ?_
    rintro v253 T253 L253 X253 ⟨b0, rfl, Nq253, e253, hb0⟩
    have N253 := Fr.app N0 Nq253
    show Run p e below _ _ T253 (mkF m 14 #[.val (.long raw), .second, .val (.int sel), .val (.int size), .val (.int cnt), .val (.int opx), .val (.int (3 : Int32)), .unset, .unset, .unset, .unset, .unset, .unset, .unset, .unset, .unset, .unset, .unset, .unset] [(.int b0)])
    refine r_istore X253.here hx (hb hby at_14) (l' := #[.val (.long raw), .second, .val (.int sel), .val (.int size), .val (.int cnt), .val (.int opx), .val (.int (3 : Int32)), .val (.int b0), .unset, .unset, .unset, .unset, .unset, .unset, .unset, .unset, .unset, .unset, .unset]) rfl (pc' := 16) rfl ?_
    refine r_lloadN X253.here hx (hb hby at_16) rfl (pc' := 17) rfl ?_
    refine r_iloadN X253.here hx (hb hby at_17) rfl (pc' := 18) rfl ?_
    refine r_iconst X253.here hx (hb hby at_18) (v := 1) rfl (pc' := 19) rfl ?_
    refine r_callS X253 hx hZ (y := (⟨"com/example/lockstep/lockstep/RowSetArraySizePinLaw", "pick", "(JII)B"⟩ : MethodName)) (rm := ({ frames := 0, cells := 0, slots := 0, locals := 0 } : Room)) hown (hw _ (List.mem_of_getElem? (i := 0) rfl)) (hw _ (List.mem_of_getElem? (i := 1) rfl)) (hw _ (List.mem_of_getElem? (i := 2) rfl)) (hw _ (List.mem_of_getElem? (i := 3) rfl)) (by decide) (rmP l Z a0 hw [] raw sel 1 h0 n0 Z0) e253 (by rw [hml]; rfl) (argsL := [(.long raw), (.int sel), (.int (1 : Int32))]) (rest := []) (lenOf pd_1 rfl) rfl rfl (W := 0) rfl (by decide) (by decide) (by decide) (by decide) (hb hby at_19) (pc' := 22) rfl ?_
    rintro v254 T254 L254 X254 ⟨b1, rfl, Nq254, e254, hb1⟩
    have N254 := Fr.app N253 Nq254
    show Run p e below _ _ T254 (mkF m 22 #[.val (.long raw), .second, .val (.int sel), .val (.int size), .val (.int cnt), .val (.int opx), .val (.int (3 : Int32)), .val (.int b0), .unset, .unset, .unset, .unset, .unset, .unset, .unset, .unset, .unset, .unset, .unset] [(.int b1)])
    refine r_istore X254.here hx (hb hby at_22) (l' := #[.val (.long raw), .second, .val (.int sel), .val (.int size), .val (.int cnt), .val (.int opx), .val (.int (3 : Int32)), .val (.int b0), .val (.int b1), .unset, .unset, .unset, .unset, .unset, .unset, .unset, .unset, .unset, .unset]) rfl (pc' := 24) rfl ?_
    refine r_lloadN X254.here hx (hb hby at_24) rfl (pc' := 25) rfl ?_
    refine r_iloadN X254.here hx (hb hby at_25) rfl (pc' := 26) rfl ?_
    refine r_iconst X254.here hx (hb hby at_26) (v := 2) rfl (pc' := 27) rfl ?_
    refine r_callS X254 hx hZ (y := (⟨"com/example/lockstep/lockstep/RowSetArraySizePinLaw", "pick", "(JII)B"⟩ : MethodName)) (rm := ({ frames := 0, cells := 0, slots := 0, locals := 0 } : Room)) hown (hw _ (List.mem_of_getElem? (i := 0) rfl)) (hw _ (List.mem_of_getElem? (i := 1) rfl)) (hw _ (List.mem_of_getElem? (i := 2) rfl)) (hw _ (List.mem_of_getElem? (i := 3) rfl)) (by decide) (rmP l Z a0 hw [] raw sel 2 h0 n0 Z0) e254 (by rw [hml]; rfl) (argsL := [(.long raw), (.int sel), (.int (2 : Int32))]) (rest := []) (lenOf pd_1 rfl) rfl rfl (W := 0) rfl (by decide) (by decide) (by decide) (by decide) (hb hby at_27) (pc' := 30) rfl ?_
    rintro v255 T255 L255 X255 ⟨b2, rfl, Nq255, e255, hb2⟩
    have N255 := Fr.app N254 Nq255
    show Run p e below _ _ T255 (mkF m 30 #[.val (.long raw), .second, .val (.int sel), .val (.int size), .val (.int cnt), .val (.int opx), .val (.int (3 : Int32)), .val (.int b0), .val (.int b1), .unset, .unset, .unset, .unset, .unset, .unset, .unset, .unset, .unset, .unset] [(.int b2)])
    refine r_istore X255.here hx (hb hby at_30) (l' := #[.val (.long raw), .second, .val (.int sel), .val (.int size), .val (.int cnt), .val (.int opx), .val (.int (3 : Int32)), .val (.int b0), .val (.int b1), .val (.int b2), .unset, .unset, .unset, .unset, .unset, .unset, .unset, .unset, .unset]) rfl (pc' := 32) rfl ?_
    refine r_lloadN X255.here hx (hb hby at_32) rfl (pc' := 33) rfl ?_
    refine r_iloadN X255.here hx (hb hby at_33) rfl (pc' := 34) rfl ?_
    refine r_iconst X255.here hx (hb hby at_34) (v := 3) rfl (pc' := 35) rfl ?_
    refine r_callS X255 hx hZ (y := (⟨"com/example/lockstep/lockstep/RowSetArraySizePinLaw", "pick", "(JII)B"⟩ : MethodName)) (rm := ({ frames := 0, cells := 0, slots := 0, locals := 0 } : Room)) hown (hw _ (List.mem_of_getElem? (i := 0) rfl)) (hw _ (List.mem_of_getElem? (i := 1) rfl)) (hw _ (List.mem_of_getElem? (i := 2) rfl)) (hw _ (List.mem_of_getElem? (i := 3) rfl)) (by decide) (rmP l Z a0 hw [] raw sel 3 h0 n0 Z0) e255 (by rw [hml]; rfl) (argsL := [(.long raw), (.int sel), (.int (3 : Int32))]) (rest := []) (lenOf pd_1 rfl) rfl rfl (W := 0) rfl (by decide) (by decide) (by decide) (by decide) (hb hby at_35) (pc' := 38) rfl ?_
    rintro v256 T256 L256 X256 ⟨b3, rfl, Nq256, e256, hb3⟩
    have N256 := Fr.app N255 Nq256
    show Run p e below _ _ T256 (mkF m 38 #[.val (.long raw), .second, .val (.int sel), .val (.int size), .val (.int cnt), .val (.int opx), .val (.int (3 : Int32)), .val (.int b0), .val (.int b1), .val (.int b2), .unset, .unset, .unset, .unset, .unset, .unset, .unset, .unset, .unset] [(.int b3)])
    refine r_istore X256.here hx (hb hby at_38) (l' := #[.val (.long raw), .second, .val (.int sel), .val (.int size), .val (.int cnt), .val (.int opx), .val (.int (3 : Int32)), .val (.int b0), .val (.int b1), .val (.int b2), .val (.int b3), .unset, .unset, .unset, .unset, .unset, .unset, .unset, .unset]) rfl (pc' := 40) rfl ?_
    refine r_iload X256.here hx (hb hby at_40) rfl (pc' := 42) rfl ?_
    refine r_newarray X256 hx hZ (aty := .byte) (hw _ (List.mem_of_getElem? (i := 4) rfl)) e256 (cap := 3) (by decide) (by decide) (by decide) (by decide) (by decide) (hb hby at_42) (pc' := 44) rfl (fun T257 h257 b257 k257 g257 X257 e257 E257 A257 => ?_)
    have ge258 : n0 ≤ b257 := by rw [g257]; exact Z0
    have f259 := own_staExt So0 E257
    have f260 := own_staExt So1 E257
    have f261 := own_staExt So2 E257
    have Z262 : n0 ≤ h257.size := by have q := Z0; exact Nat.le_trans q E257.1
    have f263 : Ary Z h257 b257 .byte 3 (fun _ => .int 0) := Ary.new A257 rfl
    refine r_astore X257.here hx (hb hby at_44) rfl (l' := #[.val (.long raw), .second, .val (.int sel), .val (.int size), .val (.int cnt), .val (.int opx), .val (.int (3 : Int32)), .val (.int b0), .val (.int b1), .val (.int b2), .val (.int b3), .val (.ref b257), .unset, .unset, .unset, .unset, .unset, .unset, .unset]) rfl (pc' := 46) rfl ?_
    refine r_iload X257.here hx (hb hby at_46) rfl (pc' := 48) rfl ?_
    refine r_if0_le X257.here hx (hb hby at_48) (by decide) (pc' := 57) (by decide) (pc2 := 51) rfl (fun hc48 => absurd hc48 (by decide)) (fun hc48 => ?_)
    refine r_aload X257.here hx (hb hby at_51) rfl rfl (pc' := 53) rfl ?_
    refine r_iconst X257.here hx (hb hby at_53) (v := 0) rfl (pc' := 54) rfl ?_
    refine r_iload X257.here hx (hb hby at_54) rfl (pc' := 56) rfl ?_
    refine q_bastoreB X257 hx hZ e257 (j := (0 : Int32)) f263 (by decide) (by decide) (w := b0) hb0 (hb hby at_56) (pc' := 57) rfl (fun T264 h264 X264 e264 W264 A264 => ?_)
    have f265 := f259.wr W264
    have f266 := f260.wr W264
    have f267 := f261.wr W264
    have Z268 : n0 ≤ h264.size := by have q := Z262; rw [W264.size]; exact q
    have N264 := Fr.snoc X264 N256 ge258
    refine r_iload X264.here hx (hb hby at_57) rfl (pc' := 59) rfl ?_
    refine r_iconst X264.here hx (hb hby at_59) (v := 1) rfl (pc' := 60) rfl ?_
    refine r_if_le X264.here hx (hb hby at_60) (by decide) (pc' := 69) (by decide) (pc2 := 63) rfl (fun hc60 => absurd hc60 (by decide)) (fun hc60 => ?_)
    refine r_aload X264.here hx (hb hby at_63) rfl rfl (pc' := 65) rfl ?_
    refine r_iconst X264.here hx (hb hby at_65) (v := 1) rfl (pc' := 66) rfl ?_
    refine r_iload X264.here hx (hb hby at_66) rfl (pc' := 68) rfl ?_
    refine q_bastoreB X264 hx hZ e264 (j := (1 : Int32)) A264 (by decide) (by decide) (w := b1) hb1 (hb hby at_68) (pc' := 69) rfl (fun T269 h269 X269 e269 W269 A269 => ?_)
    have f270 := f265.wr W269
    have f271 := f266.wr W269
    have f272 := f267.wr W269
    have Z273 : n0 ≤ h269.size := by have q := Z268; rw [W269.size]; exact q
    have N269 := Fr.snoc X269 N264 ge258
    refine r_iload X269.here hx (hb hby at_69) rfl (pc' := 71) rfl ?_
    refine r_iconst X269.here hx (hb hby at_71) (v := 2) rfl (pc' := 72) rfl ?_
    refine r_if_le X269.here hx (hb hby at_72) (by decide) (pc' := 81) (by decide) (pc2 := 75) rfl (fun hc72 => absurd hc72 (by decide)) (fun hc72 => ?_)
    refine r_aload X269.here hx (hb hby at_75) rfl rfl (pc' := 77) rfl ?_
    refine r_iconst X269.here hx (hb hby at_77) (v := 2) rfl (pc' := 78) rfl ?_
    refine r_iload X269.here hx (hb hby at_78) rfl (pc' := 80) rfl ?_
    refine q_bastoreB X269 hx hZ e269 (j := (2 : Int32)) A269 (by decide) (by decide) (w := b2) hb2 (hb hby at_80) (pc' := 81) rfl (fun T274 h274 X274 e274 W274 A274 => ?_)
    have f275 := f270.wr W274
    have f276 := f271.wr W274
    have f277 := f272.wr W274
    have Z278 : n0 ≤ h274.size := by have q := Z273; rw [W274.size]; exact q
    have N274 := Fr.snoc X274 N269 ge258
    refine r_iload X274.here hx (hb hby at_81) rfl (pc' := 83) rfl ?_
    refine r_iconst X274.here hx (hb hby at_83) (v := 3) rfl (pc' := 84) rfl ?_
    refine r_if_le X274.here hx (hb hby at_84) (by decide) (pc' := 93) (by decide) (pc2 := 87) rfl (fun hc84 => ?_) (fun hc84 => absurd (by decide) hc84)
    have Jo : ∀ (o : Addr) (T9 : State) (L9 : List Loc), Stand p l e room_1 s m #[(.long raw), (.int sel), (.int size), (.int cnt), (.int opx)] below meth c T9 L9 1 3 → Fr n0 L9 → T9.heap = h274 → Run p e below (fun v h L => v = some (.int 1) ∧ Fr n0 L) (fun o t L => ReturnedEndW s o t L 16 2176) T9 (mkF m 125 #[.val (.long raw), .second, .val (.int sel), .val (.int size), .val (.int cnt), .val (.int opx), .val (.int (3 : Int32)), .val (.int b0), .val (.int b1), .val (.int b2), .val (.int b3), .val (.ref b257), .val (.int (opx &&& (3 : Int32))), .unset, .unset, .unset, .unset, .unset, .unset] [(.ref o)]) := by
      intro o T9 L9 X9 N9 e9
      refine r_astore X9.here hx (hb hby at_125) rfl (l' := #[.val (.long raw), .second, .val (.int sel), .val (.int size), .val (.int cnt), .val (.int opx), .val (.int (3 : Int32)), .val (.int b0), .val (.int b1), .val (.int b2), .val (.int b3), .val (.ref b257), .val (.int (opx &&& (3 : Int32))), .val (.ref o), .unset, .unset, .unset, .unset, .unset]) rfl (pc' := 127) rfl ?_
      refine r_new X9 hx hZ hown (hw _ (List.mem_of_getElem? (i := 8) rfl)) (hw _ (List.mem_of_getElem? (i := 9) rfl)) (hw _ (List.mem_of_getElem? (i := 10) rfl)) e9 (by decide) (by decide) (hb hby at_127) (pc' := 130) rfl (fun T279 h279 b279 g279 X279 e279 E279 A279 D279 => ?_)
      have ne280 : b279 ≠ b257 := by have q := A274.lt; rw [← g279] at q; exact Nat.ne_of_gt q
      have ge281 : n0 ≤ b279 := by rw [g279]; exact Z278
      have f282 := own_staExt f275 E279
      have f283 := own_staExt f276 E279
      have f284 := own_staExt f277 E279
      have f285 := A274.ext E279
      have Z286 : n0 ≤ h279.size := by have q := Z278; exact Nat.le_trans q E279.1
      have f287 : Fld Z h279 b279 "com/example/lockstep/lockstep/Writeset$RowSet" "schema" "Ljava/lang/String;" .null := D279 (Or.inr (hw _ (List.mem_of_getElem? (i := 31) rfl))) (ty := (.object "java/lang/String")) (by decide)
      have f288 : Fld Z h279 b279 "com/example/lockstep/lockstep/Writeset$RowSet" "table" "Ljava/lang/String;" .null := D279 (Or.inr (hw _ (List.mem_of_getElem? (i := 33) rfl))) (ty := (.object "java/lang/String")) (by decide)
      have f289 : Fld Z h279 b279 "com/example/lockstep/lockstep/Writeset$RowSet" "operation" "Lcom/example/lockstep/lockstep/Writeset$Operation;" .null := D279 (Or.inr (hw _ (List.mem_of_getElem? (i := 35) rfl))) (ty := (.object "com/example/lockstep/lockstep/Writeset$Operation")) (by decide)
      have f290 : Fld Z h279 b279 "com/example/lockstep/lockstep/Writeset$RowSet" "count" "I" (.int (0 : Int32)) := D279 (Or.inr (hw _ (List.mem_of_getElem? (i := 37) rfl))) (ty := .int) (by decide)
      have f291 : Fld Z h279 b279 "com/example/lockstep/lockstep/Writeset$RowSet" "texts" "[B" .null := D279 (Or.inr (hw _ (List.mem_of_getElem? (i := 39) rfl))) (ty := (.array .byte)) (by decide)
      refine r_dup X279.here hx (hb hby at_130) rfl (pc' := 131) rfl ?_
      refine r_ldcS (s := s) (vm0 := s.vm) X279 hx hZ hown (hw _ (List.mem_of_getElem? (i := 11) rfl)) (own_sa hw) e279 ((State.WarmedH.refl s).since 0) (Nat.zero_le _) (nn := 4) (by decide) (by decide) (by decide) (by decide) (hb hby at_131) (pc' := 133) rfl (fun b292 T292 h292 k292 X292 e292 E292 hS292 hk292 hZ292 hown292 => ?_)
      have f293 := own_staExt f282 E292
      have f294 := own_staExt f283 E292
      have f295 := own_staExt f284 E292
      have f296 := f285.ext E292
      have f297 := A279.ext E292
      have f298 := f287.ext E292
      have f299 := f288.ext E292
      have f300 := f289.ext E292
      have f301 := f290.ext E292
      have f302 := f291.ext E292
      have Z303 : n0 ≤ h292.size := by have q := Z286; exact Nat.le_trans q E292.1
      refine r_ldcS (s := s) (vm0 := T292.vm) X292 hx hZ292 hown292 (hw _ (List.mem_of_getElem? (i := 18) rfl)) (own_sa hw) e292 hS292 hk292 (nn := 4) (by decide) (by decide) (by decide) (by decide) (hb hby at_133) (pc' := 135) rfl (fun b304 T304 h304 k304 X304 e304 E304 hS304 hk304 hZ304 hown304 => ?_)
      have f305 := own_staExt f293 E304
      have f306 := own_staExt f294 E304
      have f307 := own_staExt f295 E304
      have f308 := f296.ext E304
      have f309 := f297.ext E304
      have f310 := f298.ext E304
      have f311 := f299.ext E304
      have f312 := f300.ext E304
      have f313 := f301.ext E304
      have f314 := f302.ext E304
      have Z315 : n0 ≤ h304.size := by have q := Z303; exact Nat.le_trans q E304.1
      refine r_aload X304.here hx (hb hby at_135) rfl rfl (pc' := 137) rfl ?_
      refine r_iload X304.here hx (hb hby at_137) rfl (pc' := 139) rfl ?_
      refine r_aload X304.here hx (hb hby at_139) rfl rfl (pc' := 141) rfl ?_
      refine r_callI X304 hx hZ304 (y := (⟨"com/example/lockstep/lockstep/Writeset$RowSet", "<init>", "(Ljava/lang/String;Ljava/lang/String;Lcom/example/lockstep/lockstep/Writeset$Operation;I[B)V"⟩ : MethodName)) (rm := ({ frames := 2, cells := 0, slots := 0, locals := 24 } : Room)) hown304 rfl (hw _ (List.mem_of_getElem? (i := 19) rfl)) (hw _ (List.mem_of_getElem? (i := 20) rfl)) (hw _ (List.mem_of_getElem? (i := 10) rfl)) (hw _ (List.mem_of_getElem? (i := 21) rfl)) (by decide) (rmI l Z a0 hw [] b279 b292 b304 o cnt b257 h304 n0 Z315 ge281 f309 f310 f311 f312 f313 f314) e304 (by rw [hml]; rfl) (argsL := [(.ref b292), (.ref b304), (.ref o), (.int cnt), (.ref b257)]) (rest := [(.ref b279)]) (lenOf pd_2 rfl) rfl rfl (W := 1) rfl (by decide) (by decide) (by decide) (by decide) (hb hby at_141) (pc' := 144) rfl ?_
      rintro v316 T316 L316 X316 ⟨rfl, Nq316, K316, Fc316, Ft316⟩
      have N316 := Fr.app N9 Nq316
      show Run p e below _ _ T316 (mkF m 144 #[.val (.long raw), .second, .val (.int sel), .val (.int size), .val (.int cnt), .val (.int opx), .val (.int (3 : Int32)), .val (.int b0), .val (.int b1), .val (.int b2), .val (.int b3), .val (.ref b257), .val (.int (opx &&& (3 : Int32))), .val (.ref o), .unset, .unset, .unset, .unset, .unset] [(.ref b279)])
      have f317 := f308.keep K316 (ninS (Ne.symm ne280) nin0)
      have f318 := f309.keep K316
      have Z319 : n0 ≤ T316.heap.size := by have q := Z315; exact Nat.le_trans q K316.1
      have hk320 : k304 ≤ T316.heap.size := by have q := hk304; exact Nat.le_trans q K316.1
      refine r_astore X316.here hx (hb hby at_144) rfl (l' := #[.val (.long raw), .second, .val (.int sel), .val (.int size), .val (.int cnt), .val (.int opx), .val (.int (3 : Int32)), .val (.int b0), .val (.int b1), .val (.int b2), .val (.int b3), .val (.ref b257), .val (.int (opx &&& (3 : Int32))), .val (.ref o), .val (.ref b279), .unset, .unset, .unset, .unset]) rfl (pc' := 146) rfl ?_
      refine r_lconst X316.here hx (hb hby at_146) (v := 0) rfl (pc' := 147) rfl ?_
      refine r_lstore X316.here hx (hb hby at_147) (l' := #[.val (.long raw), .second, .val (.int sel), .val (.int size), .val (.int cnt), .val (.int opx), .val (.int (3 : Int32)), .val (.int b0), .val (.int b1), .val (.int b2), .val (.int b3), .val (.ref b257), .val (.int (opx &&& (3 : Int32))), .val (.ref o), .val (.ref b279), .val (.long (0 : Int64)), .second, .unset, .unset]) rfl (pc' := 149) rfl ?_
      refine r_iload X316.here hx (hb hby at_149) rfl (pc' := 151) rfl ?_
      refine r_if0_le X316.here hx (hb hby at_151) (by decide) (pc' := 168) (by decide) (pc2 := 154) rfl (fun hc151 => absurd hc151 (by decide)) (fun hc151 => ?_)
      refine r_iload X316.here hx (hb hby at_154) rfl (pc' := 156) rfl ?_
      refine r_callS X316 hx hZ304 (y := (⟨"com/example/lockstep/lockstep/RowSetArraySizePinLaw", "special", "(B)Z"⟩ : MethodName)) (rm := ({ frames := 0, cells := 0, slots := 0, locals := 0 } : Room)) hown304 (hw _ (List.mem_of_getElem? (i := 40) rfl)) (hw _ (List.mem_of_getElem? (i := 41) rfl)) (hw _ (List.mem_of_getElem? (i := 2) rfl)) (hw _ (List.mem_of_getElem? (i := 42) rfl)) (by decide) (rmS l Z a0 hw [] b0 T316.heap n0 Z319) rfl (by rw [hml]; rfl) (argsL := [(.int b0)]) (rest := []) (lenOf pd_4 rfl) rfl rfl (W := 0) rfl (by decide) (by decide) (by decide) (by decide) (hb hby at_156) (pc' := 159) rfl ?_
      rintro v321 T321 L321 X321 ⟨rfl, Nq321, e321⟩
      have N321 := Fr.app N316 Nq321
      show Run p e below _ _ T321 (mkF m 159 #[.val (.long raw), .second, .val (.int sel), .val (.int size), .val (.int cnt), .val (.int opx), .val (.int (3 : Int32)), .val (.int b0), .val (.int b1), .val (.int b2), .val (.int b3), .val (.ref b257), .val (.int (opx &&& (3 : Int32))), .val (.ref o), .val (.ref b279), .val (.long (0 : Int64)), .second, .unset, .unset] [(.int (own_si b0))])
      have Js0 : ∀ z0 : Int64, z0 = (0 : Int64) + own_sp b0 → Run p e below (fun v h L => v = some (.int 1) ∧ Fr n0 L) (fun o t L => ReturnedEndW s o t L 16 2176) T321 (mkF m 168 #[.val (.long raw), .second, .val (.int sel), .val (.int size), .val (.int cnt), .val (.int opx), .val (.int (3 : Int32)), .val (.int b0), .val (.int b1), .val (.int b2), .val (.int b3), .val (.ref b257), .val (.int (opx &&& (3 : Int32))), .val (.ref o), .val (.ref b279), .val (.long z0), .second, .unset, .unset] []) := by
        intro z0 hz0
        subst hz0
        refine r_iload X321.here hx (hb hby at_168) rfl (pc' := 170) rfl ?_
        refine r_iconst X321.here hx (hb hby at_170) (v := 1) rfl (pc' := 171) rfl ?_
        refine r_if_le X321.here hx (hb hby at_171) (by decide) (pc' := 188) (by decide) (pc2 := 174) rfl (fun hc171 => absurd hc171 (by decide)) (fun hc171 => ?_)
        refine r_iload X321.here hx (hb hby at_174) rfl (pc' := 176) rfl ?_
        refine r_callS X321 hx hZ304 (y := (⟨"com/example/lockstep/lockstep/RowSetArraySizePinLaw", "special", "(B)Z"⟩ : MethodName)) (rm := ({ frames := 0, cells := 0, slots := 0, locals := 0 } : Room)) hown304 (hw _ (List.mem_of_getElem? (i := 40) rfl)) (hw _ (List.mem_of_getElem? (i := 41) rfl)) (hw _ (List.mem_of_getElem? (i := 2) rfl)) (hw _ (List.mem_of_getElem? (i := 42) rfl)) (by decide) (rmS l Z a0 hw [] b1 T316.heap n0 Z319) e321 (by rw [hml]; rfl) (argsL := [(.int b1)]) (rest := []) (lenOf pd_4 rfl) rfl rfl (W := 0) rfl (by decide) (by decide) (by decide) (by decide) (hb hby at_176) (pc' := 179) rfl ?_
        rintro v322 T322 L322 X322 ⟨rfl, Nq322, e322⟩
        have N322 := Fr.app N321 Nq322
        show Run p e below _ _ T322 (mkF m 179 #[.val (.long raw), .second, .val (.int sel), .val (.int size), .val (.int cnt), .val (.int opx), .val (.int (3 : Int32)), .val (.int b0), .val (.int b1), .val (.int b2), .val (.int b3), .val (.ref b257), .val (.int (opx &&& (3 : Int32))), .val (.ref o), .val (.ref b279), .val (.long ((0 : Int64) + own_sp b0)), .second, .unset, .unset] [(.int (own_si b1))])
        have Js1 : ∀ z1 : Int64, z1 = ((0 : Int64) + own_sp b0) + own_sp b1 → Run p e below (fun v h L => v = some (.int 1) ∧ Fr n0 L) (fun o t L => ReturnedEndW s o t L 16 2176) T322 (mkF m 188 #[.val (.long raw), .second, .val (.int sel), .val (.int size), .val (.int cnt), .val (.int opx), .val (.int (3 : Int32)), .val (.int b0), .val (.int b1), .val (.int b2), .val (.int b3), .val (.ref b257), .val (.int (opx &&& (3 : Int32))), .val (.ref o), .val (.ref b279), .val (.long z1), .second, .unset, .unset] []) := by
          intro z1 hz1
          subst hz1
          refine r_iload X322.here hx (hb hby at_188) rfl (pc' := 190) rfl ?_
          refine r_iconst X322.here hx (hb hby at_190) (v := 2) rfl (pc' := 191) rfl ?_
          refine r_if_le X322.here hx (hb hby at_191) (by decide) (pc' := 208) (by decide) (pc2 := 194) rfl (fun hc191 => absurd hc191 (by decide)) (fun hc191 => ?_)
          refine r_iload X322.here hx (hb hby at_194) rfl (pc' := 196) rfl ?_
          refine r_callS X322 hx hZ304 (y := (⟨"com/example/lockstep/lockstep/RowSetArraySizePinLaw", "special", "(B)Z"⟩ : MethodName)) (rm := ({ frames := 0, cells := 0, slots := 0, locals := 0 } : Room)) hown304 (hw _ (List.mem_of_getElem? (i := 40) rfl)) (hw _ (List.mem_of_getElem? (i := 41) rfl)) (hw _ (List.mem_of_getElem? (i := 2) rfl)) (hw _ (List.mem_of_getElem? (i := 42) rfl)) (by decide) (rmS l Z a0 hw [] b2 T316.heap n0 Z319) e322 (by rw [hml]; rfl) (argsL := [(.int b2)]) (rest := []) (lenOf pd_4 rfl) rfl rfl (W := 0) rfl (by decide) (by decide) (by decide) (by decide) (hb hby at_196) (pc' := 199) rfl ?_
          rintro v323 T323 L323 X323 ⟨rfl, Nq323, e323⟩
          have N323 := Fr.app N322 Nq323
          show Run p e below _ _ T323 (mkF m 199 #[.val (.long raw), .second, .val (.int sel), .val (.int size), .val (.int cnt), .val (.int opx), .val (.int (3 : Int32)), .val (.int b0), .val (.int b1), .val (.int b2), .val (.int b3), .val (.ref b257), .val (.int (opx &&& (3 : Int32))), .val (.ref o), .val (.ref b279), .val (.long (((0 : Int64) + own_sp b0) + own_sp b1)), .second, .unset, .unset] [(.int (own_si b2))])
          have Js2 : ∀ z2 : Int64, z2 = (((0 : Int64) + own_sp b0) + own_sp b1) + own_sp b2 → Run p e below (fun v h L => v = some (.int 1) ∧ Fr n0 L) (fun o t L => ReturnedEndW s o t L 16 2176) T323 (mkF m 208 #[.val (.long raw), .second, .val (.int sel), .val (.int size), .val (.int cnt), .val (.int opx), .val (.int (3 : Int32)), .val (.int b0), .val (.int b1), .val (.int b2), .val (.int b3), .val (.ref b257), .val (.int (opx &&& (3 : Int32))), .val (.ref o), .val (.ref b279), .val (.long z2), .second, .unset, .unset] []) := by
            intro z2 hz2
            subst hz2
            refine r_iload X323.here hx (hb hby at_208) rfl (pc' := 210) rfl ?_
            refine r_iconst X323.here hx (hb hby at_210) (v := 3) rfl (pc' := 211) rfl ?_
            refine r_if_le X323.here hx (hb hby at_211) (by decide) (pc' := 228) (by decide) (pc2 := 214) rfl (fun hc211 => ?_) (fun hc211 => absurd (by decide) hc211)
            refine r_iload X323.here hx (hb hby at_228) rfl (pc' := 230) rfl ?_
            refine r_i2l X323.here hx (hb hby at_230) (pc' := 231) rfl ?_
            refine r_lload X323.here hx (hb hby at_231) rfl (pc' := 233) rfl ?_
            refine r_ladd X323.here hx (hb hby at_233) (pc' := 234) rfl ?_
            refine r_ldc2 X323 hx hZ304 hown304 (hw _ (List.mem_of_getElem? (i := 43) rfl)) (hb hby at_234) (pc' := 237) rfl ?_
            refine r_iload X323.here hx (hb hby at_237) rfl (pc' := 239) rfl ?_
            refine r_i2l X323.here hx (hb hby at_239) (pc' := 240) rfl ?_
            refine r_lmul X323.here hx (hb hby at_240) (pc' := 241) rfl ?_
            refine r_ladd X323.here hx (hb hby at_241) (pc' := 242) rfl ?_
            refine r_ldc2 X323 hx hZ304 hown304 (hw _ (List.mem_of_getElem? (i := 43) rfl)) (hb hby at_242) (pc' := 245) rfl ?_
            refine r_ladd X323.here hx (hb hby at_245) (pc' := 246) rfl ?_
            refine r_lstore X323.here hx (hb hby at_246) (l' := #[.val (.long raw), .second, .val (.int sel), .val (.int size), .val (.int cnt), .val (.int opx), .val (.int (3 : Int32)), .val (.int b0), .val (.int b1), .val (.int b2), .val (.int b3), .val (.ref b257), .val (.int (opx &&& (3 : Int32))), .val (.ref o), .val (.ref b279), .val (.long ((((0 : Int64) + own_sp b0) + own_sp b1) + own_sp b2)), .second, .val (.long (((((3 : Int32).toInt64) + ((((0 : Int64) + own_sp b0) + own_sp b1) + own_sp b2)) + ((2 : Int64) * (cnt.toInt64))) + (2 : Int64))), .second]) rfl (pc' := 248) rfl ?_
            refine r_aload X323.here hx (hb hby at_248) rfl rfl (pc' := 250) rfl ?_
            refine r_callV X323 hx hZ304 (y := (⟨"com/example/lockstep/lockstep/Writeset$RowSet", "arraySize", "()J"⟩ : MethodName)) (z := (⟨"com/example/lockstep/lockstep/Writeset$RowSet", "arraySize", "()J"⟩ : MethodName)) (rm := ({ frames := 0, cells := 0, slots := 0, locals := 0 } : Room)) hown304 (hw _ (List.mem_of_getElem? (i := 44) rfl)) (hw _ (List.mem_of_getElem? (i := 45) rfl)) (notFace_of_selects (args := #[]) (mvT hZ304 (hw _ (List.mem_of_getElem? (i := 47) rfl)))) (hw _ (List.mem_of_getElem? (i := 47) rfl)) (hw _ (List.mem_of_getElem? (i := 46) rfl)) (hw _ (List.mem_of_getElem? (i := 10) rfl)) (hw _ (List.mem_of_getElem? (i := 48) rfl)) (by decide) (rmA3 l Z a0 hw [] b279 b257 cnt b0 b1 b2 _ T316.heap n0 Z319 Ft316 Fc316 f317 rfl rfl rfl) e323 f318 (by rw [hml]; rfl) (argsL := []) (rest := []) (lenOf pd_3 rfl) rfl rfl (W := 0) rfl (by decide) (by decide) (by decide) (by decide) (hb hby at_250) (pc' := 253) rfl ?_
            rintro v324 T324 L324 X324 ⟨rfl, Nq324, e324⟩
            have N324 := Fr.app N323 Nq324
            show Run p e below _ _ T324 (mkF m 253 #[.val (.long raw), .second, .val (.int sel), .val (.int size), .val (.int cnt), .val (.int opx), .val (.int (3 : Int32)), .val (.int b0), .val (.int b1), .val (.int b2), .val (.int b3), .val (.ref b257), .val (.int (opx &&& (3 : Int32))), .val (.ref o), .val (.ref b279), .val (.long ((((0 : Int64) + own_sp b0) + own_sp b1) + own_sp b2)), .second, .val (.long (((((3 : Int32).toInt64) + ((((0 : Int64) + own_sp b0) + own_sp b1) + own_sp b2)) + ((2 : Int64) * (cnt.toInt64))) + (2 : Int64))), .second] [(.long (((3 : Int32).toInt64 + ((((0 : Int64) + own_sp b0) + own_sp b1) + own_sp b2)) + 2 * cnt.toInt64 + 2))])
            refine r_lload X324.here hx (hb hby at_253) rfl (pc' := 255) rfl ?_
            refine r_lcmp X324.here hx (hb hby at_255) (pc' := 256) rfl ?_
            refine r_ifL_ne X324.here hx (hb hby at_256) (by decide) (pc' := 263) (by decide) (pc2 := 259) rfl (fun hc256 => absurd rfl hc256) (fun hc256 => ?_)
            refine r_iconst X324.here hx (hb hby at_259) (v := 1) rfl (pc' := 260) rfl ?_
            refine r_goto X324.here hx (hb hby at_260) (by decide) (pc' := 264) (by decide) ?_
            refine w_retN (s := s) (vm1 := T304.vm) X324 hS304 (by rw [e324]; exact hk320) hx hlk hret (by simp) (hb hby at_264) (w := (1 : Int32)) rfl ?_ (by decide) (by decide)
            try rw [e324]
            exact ⟨rfl, N324⟩
          refine r_if0_eq X323.here hx (hb hby at_199) (by decide) (pc' := 208) (by decide) (pc2 := 202) rfl (fun hc199 => ?_) (fun hc199 => ?_)
          · exact Js2 _ (own_ssz b2 hc199 _)
          · refine r_lload X323.here hx (hb hby at_202) rfl (pc' := 204) rfl ?_
            refine r_lconst X323.here hx (hb hby at_204) (v := 1) rfl (pc' := 205) rfl ?_
            refine r_ladd X323.here hx (hb hby at_205) (pc' := 206) rfl ?_
            refine r_lstore X323.here hx (hb hby at_206) (l' := #[.val (.long raw), .second, .val (.int sel), .val (.int size), .val (.int cnt), .val (.int opx), .val (.int (3 : Int32)), .val (.int b0), .val (.int b1), .val (.int b2), .val (.int b3), .val (.ref b257), .val (.int (opx &&& (3 : Int32))), .val (.ref o), .val (.ref b279), .val (.long ((((0 : Int64) + own_sp b0) + own_sp b1) + (1 : Int64))), .second, .unset, .unset]) rfl (pc' := 208) rfl ?_
            exact Js2 _ (own_sso b2 hc199 _)
        refine r_if0_eq X322.here hx (hb hby at_179) (by decide) (pc' := 188) (by decide) (pc2 := 182) rfl (fun hc179 => ?_) (fun hc179 => ?_)
        · exact Js1 _ (own_ssz b1 hc179 _)
        · refine r_lload X322.here hx (hb hby at_182) rfl (pc' := 184) rfl ?_
          refine r_lconst X322.here hx (hb hby at_184) (v := 1) rfl (pc' := 185) rfl ?_
          refine r_ladd X322.here hx (hb hby at_185) (pc' := 186) rfl ?_
          refine r_lstore X322.here hx (hb hby at_186) (l' := #[.val (.long raw), .second, .val (.int sel), .val (.int size), .val (.int cnt), .val (.int opx), .val (.int (3 : Int32)), .val (.int b0), .val (.int b1), .val (.int b2), .val (.int b3), .val (.ref b257), .val (.int (opx &&& (3 : Int32))), .val (.ref o), .val (.ref b279), .val (.long (((0 : Int64) + own_sp b0) + (1 : Int64))), .second, .unset, .unset]) rfl (pc' := 188) rfl ?_
          exact Js1 _ (own_sso b1 hc179 _)
      refine r_if0_eq X321.here hx (hb hby at_159) (by decide) (pc' := 168) (by decide) (pc2 := 162) rfl (fun hc159 => ?_) (fun hc159 => ?_)
      · exact Js0 _ (own_ssz b0 hc159 _)
      · refine r_lload X321.here hx (hb hby at_162) rfl (pc' := 164) rfl ?_
        refine r_lconst X321.here hx (hb hby at_164) (v := 1) rfl (pc' := 165) rfl ?_
        refine r_ladd X321.here hx (hb hby at_165) (pc' := 166) rfl ?_
        refine r_lstore X321.here hx (hb hby at_166) (l' := #[.val (.long raw), .second, .val (.int sel), .val (.int size), .val (.int cnt), .val (.int opx), .val (.int (3 : Int32)), .val (.int b0), .val (.int b1), .val (.int b2), .val (.int b3), .val (.ref b257), .val (.int (opx &&& (3 : Int32))), .val (.ref o), .val (.ref b279), .val (.long ((0 : Int64) + (1 : Int64))), .second, .unset, .unset]) rfl (pc' := 168) rfl ?_
        exact Js0 _ (own_sso b0 hc159 _)
    refine r_iload X274.here hx (hb hby at_93) rfl (pc' := 95) rfl ?_
    refine r_iconst X274.here hx (hb hby at_95) (v := 3) rfl (pc' := 96) rfl ?_
    refine r_iand X274.here hx (hb hby at_96) (pc' := 97) rfl ?_
    refine r_istore X274.here hx (hb hby at_97) (l' := #[.val (.long raw), .second, .val (.int sel), .val (.int size), .val (.int cnt), .val (.int opx), .val (.int (3 : Int32)), .val (.int b0), .val (.int b1), .val (.int b2), .val (.int b3), .val (.ref b257), .val (.int (opx &&& (3 : Int32))), .unset, .unset, .unset, .unset, .unset, .unset]) rfl (pc' := 99) rfl ?_
    refine r_iload X274.here hx (hb hby at_99) rfl (pc' := 101) rfl ?_
    refine r_if0_ne X274.here hx (hb hby at_101) (by decide) (pc' := 110) (by decide) (pc2 := 104) rfl (fun hc101 => ?_) (fun hc101 => ?_)
    · refine r_iload X274.here hx (hb hby at_110) rfl (pc' := 112) rfl ?_
      refine r_iconst X274.here hx (hb hby at_112) (v := 1) rfl (pc' := 113) rfl ?_
      refine r_if_ne X274.here hx (hb hby at_113) (by decide) (pc' := 122) (by decide) (pc2 := 116) rfl (fun hc113 => ?_) (fun hc113 => ?_)
      · refine r_getS X274 hx hZ hown (hw _ (List.mem_of_getElem? (i := 5) rfl)) Via.refl e274 f277 (hb hby at_122) (pc' := 125) rfl (fun T325 X325 e325 => ?_)
        exact Jo _ _ _ X325 N274 e325
      · refine r_getS X274 hx hZ hown (hw _ (List.mem_of_getElem? (i := 50) rfl)) Via.refl e274 f276 (hb hby at_116) (pc' := 119) rfl (fun T326 X326 e326 => ?_)
        refine r_goto X326.here hx (hb hby at_119) (by decide) (pc' := 125) (by decide) ?_
        exact Jo _ _ _ X326 N274 e326
    · refine r_getS X274 hx hZ hown (hw _ (List.mem_of_getElem? (i := 52) rfl)) Via.refl e274 f275 (hb hby at_104) (pc' := 107) rfl (fun T327 X327 e327 => ?_)
      refine r_goto X327.here hx (hb hby at_107) (by decide) (pc' := 125) (by decide) ?_
      exact Jo _ _ _ X327 N274 e327
  · refine r_istore X0.here hx (hb hby at_6) (l' := #[.val (.long raw), .second, .val (.int sel), .val (.int size), .val (.int cnt), .val (.int opx), .val (.int (4 : Int32)), .unset, .unset, .unset, .unset, .unset, .unset, .unset, .unset, .unset, .unset, .unset, .unset]) rfl (pc' := 8) rfl ?_
    refine r_lloadN X0.here hx (hb hby at_8) rfl (pc' := 9) rfl ?_
    refine r_iloadN X0.here hx (hb hby at_9) rfl (pc' := 10) rfl ?_
    refine r_iconst X0.here hx (hb hby at_10) (v := 0) rfl (pc' := 11) rfl ?_
    refine r_callS X0 hx hZ (y := (⟨"com/example/lockstep/lockstep/RowSetArraySizePinLaw", "pick", "(JII)B"⟩ : MethodName)) (rm := ({ frames := 0, cells := 0, slots := 0, locals := 0 } : Room)) hown (hw _ (List.mem_of_getElem? (i := 0) rfl)) (hw _ (List.mem_of_getElem? (i := 1) rfl)) (hw _ (List.mem_of_getElem? (i := 2) rfl)) (hw _ (List.mem_of_getElem? (i := 3) rfl)) (by decide) (rmP l Z a0 hw [] raw sel 0 h0 n0 Z0) e0 (by rw [hml]; rfl) (argsL := [(.long raw), (.int sel), (.int (0 : Int32))]) (rest := []) (lenOf pd_1 rfl) rfl rfl (W := 0) rfl (by decide) (by decide) (by decide) (by decide) (hb hby at_11) (pc' := 14) rfl ?_
    rintro v328 T328 L328 X328 ⟨b0, rfl, Nq328, e328, hb0⟩
    have N328 := Fr.app N0 Nq328
    show Run p e below _ _ T328 (mkF m 14 #[.val (.long raw), .second, .val (.int sel), .val (.int size), .val (.int cnt), .val (.int opx), .val (.int (4 : Int32)), .unset, .unset, .unset, .unset, .unset, .unset, .unset, .unset, .unset, .unset, .unset, .unset] [(.int b0)])
    refine r_istore X328.here hx (hb hby at_14) (l' := #[.val (.long raw), .second, .val (.int sel), .val (.int size), .val (.int cnt), .val (.int opx), .val (.int (4 : Int32)), .val (.int b0), .unset, .unset, .unset, .unset, .unset, .unset, .unset, .unset, .unset, .unset, .unset]) rfl (pc' := 16) rfl ?_
    refine r_lloadN X328.here hx (hb hby at_16) rfl (pc' := 17) rfl ?_
    refine r_iloadN X328.here hx (hb hby at_17) rfl (pc' := 18) rfl ?_
    refine r_iconst X328.here hx (hb hby at_18) (v := 1) rfl (pc' := 19) rfl ?_
    refine r_callS X328 hx hZ (y := (⟨"com/example/lockstep/lockstep/RowSetArraySizePinLaw", "pick", "(JII)B"⟩ : MethodName)) (rm := ({ frames := 0, cells := 0, slots := 0, locals := 0 } : Room)) hown (hw _ (List.mem_of_getElem? (i := 0) rfl)) (hw _ (List.mem_of_getElem? (i := 1) rfl)) (hw _ (List.mem_of_getElem? (i := 2) rfl)) (hw _ (List.mem_of_getElem? (i := 3) rfl)) (by decide) (rmP l Z a0 hw [] raw sel 1 h0 n0 Z0) e328 (by rw [hml]; rfl) (argsL := [(.long raw), (.int sel), (.int (1 : Int32))]) (rest := []) (lenOf pd_1 rfl) rfl rfl (W := 0) rfl (by decide) (by decide) (by decide) (by decide) (hb hby at_19) (pc' := 22) rfl ?_
    rintro v329 T329 L329 X329 ⟨b1, rfl, Nq329, e329, hb1⟩
    have N329 := Fr.app N328 Nq329
    show Run p e below _ _ T329 (mkF m 22 #[.val (.long raw), .second, .val (.int sel), .val (.int size), .val (.int cnt), .val (.int opx), .val (.int (4 : Int32)), .val (.int b0), .unset, .unset, .unset, .unset, .unset, .unset, .unset, .unset, .unset, .unset, .unset] [(.int b1)])
    refine r_istore X329.here hx (hb hby at_22) (l' := #[.val (.long raw), .second, .val (.int sel), .val (.int size), .val (.int cnt), .val (.int opx), .val (.int (4 : Int32)), .val (.int b0), .val (.int b1), .unset, .unset, .unset, .unset, .unset, .unset, .unset, .unset, .unset, .unset]) rfl (pc' := 24) rfl ?_
    refine r_lloadN X329.here hx (hb hby at_24) rfl (pc' := 25) rfl ?_
    refine r_iloadN X329.here hx (hb hby at_25) rfl (pc' := 26) rfl ?_
    refine r_iconst X329.here hx (hb hby at_26) (v := 2) rfl (pc' := 27) rfl ?_
    refine r_callS X329 hx hZ (y := (⟨"com/example/lockstep/lockstep/RowSetArraySizePinLaw", "pick", "(JII)B"⟩ : MethodName)) (rm := ({ frames := 0, cells := 0, slots := 0, locals := 0 } : Room)) hown (hw _ (List.mem_of_getElem? (i := 0) rfl)) (hw _ (List.mem_of_getElem? (i := 1) rfl)) (hw _ (List.mem_of_getElem? (i := 2) rfl)) (hw _ (List.mem_of_getElem? (i := 3) rfl)) (by decide) (rmP l Z a0 hw [] raw sel 2 h0 n0 Z0) e329 (by rw [hml]; rfl) (argsL := [(.long raw), (.int sel), (.int (2 : Int32))]) (rest := []) (lenOf pd_1 rfl) rfl rfl (W := 0) rfl (by decide) (by decide) (by decide) (by decide) (hb hby at_27) (pc' := 30) rfl ?_
    rintro v330 T330 L330 X330 ⟨b2, rfl, Nq330, e330, hb2⟩
    have N330 := Fr.app N329 Nq330
    show Run p e below _ _ T330 (mkF m 30 #[.val (.long raw), .second, .val (.int sel), .val (.int size), .val (.int cnt), .val (.int opx), .val (.int (4 : Int32)), .val (.int b0), .val (.int b1), .unset, .unset, .unset, .unset, .unset, .unset, .unset, .unset, .unset, .unset] [(.int b2)])
    refine r_istore X330.here hx (hb hby at_30) (l' := #[.val (.long raw), .second, .val (.int sel), .val (.int size), .val (.int cnt), .val (.int opx), .val (.int (4 : Int32)), .val (.int b0), .val (.int b1), .val (.int b2), .unset, .unset, .unset, .unset, .unset, .unset, .unset, .unset, .unset]) rfl (pc' := 32) rfl ?_
    refine r_lloadN X330.here hx (hb hby at_32) rfl (pc' := 33) rfl ?_
    refine r_iloadN X330.here hx (hb hby at_33) rfl (pc' := 34) rfl ?_
    refine r_iconst X330.here hx (hb hby at_34) (v := 3) rfl (pc' := 35) rfl ?_
    refine r_callS X330 hx hZ (y := (⟨"com/example/lockstep/lockstep/RowSetArraySizePinLaw", "pick", "(JII)B"⟩ : MethodName)) (rm := ({ frames := 0, cells := 0, slots := 0, locals := 0 } : Room)) hown (hw _ (List.mem_of_getElem? (i := 0) rfl)) (hw _ (List.mem_of_getElem? (i := 1) rfl)) (hw _ (List.mem_of_getElem? (i := 2) rfl)) (hw _ (List.mem_of_getElem? (i := 3) rfl)) (by decide) (rmP l Z a0 hw [] raw sel 3 h0 n0 Z0) e330 (by rw [hml]; rfl) (argsL := [(.long raw), (.int sel), (.int (3 : Int32))]) (rest := []) (lenOf pd_1 rfl) rfl rfl (W := 0) rfl (by decide) (by decide) (by decide) (by decide) (hb hby at_35) (pc' := 38) rfl ?_
    rintro v331 T331 L331 X331 ⟨b3, rfl, Nq331, e331, hb3⟩
    have N331 := Fr.app N330 Nq331
    show Run p e below _ _ T331 (mkF m 38 #[.val (.long raw), .second, .val (.int sel), .val (.int size), .val (.int cnt), .val (.int opx), .val (.int (4 : Int32)), .val (.int b0), .val (.int b1), .val (.int b2), .unset, .unset, .unset, .unset, .unset, .unset, .unset, .unset, .unset] [(.int b3)])
    refine r_istore X331.here hx (hb hby at_38) (l' := #[.val (.long raw), .second, .val (.int sel), .val (.int size), .val (.int cnt), .val (.int opx), .val (.int (4 : Int32)), .val (.int b0), .val (.int b1), .val (.int b2), .val (.int b3), .unset, .unset, .unset, .unset, .unset, .unset, .unset, .unset]) rfl (pc' := 40) rfl ?_
    refine r_iload X331.here hx (hb hby at_40) rfl (pc' := 42) rfl ?_
    refine r_newarray X331 hx hZ (aty := .byte) (hw _ (List.mem_of_getElem? (i := 4) rfl)) e331 (cap := 4) (by decide) (by decide) (by decide) (by decide) (by decide) (hb hby at_42) (pc' := 44) rfl (fun T332 h332 b332 k332 g332 X332 e332 E332 A332 => ?_)
    have ge333 : n0 ≤ b332 := by rw [g332]; exact Z0
    have f334 := own_staExt So0 E332
    have f335 := own_staExt So1 E332
    have f336 := own_staExt So2 E332
    have Z337 : n0 ≤ h332.size := by have q := Z0; exact Nat.le_trans q E332.1
    have f338 : Ary Z h332 b332 .byte 4 (fun _ => .int 0) := Ary.new A332 rfl
    refine r_astore X332.here hx (hb hby at_44) rfl (l' := #[.val (.long raw), .second, .val (.int sel), .val (.int size), .val (.int cnt), .val (.int opx), .val (.int (4 : Int32)), .val (.int b0), .val (.int b1), .val (.int b2), .val (.int b3), .val (.ref b332), .unset, .unset, .unset, .unset, .unset, .unset, .unset]) rfl (pc' := 46) rfl ?_
    refine r_iload X332.here hx (hb hby at_46) rfl (pc' := 48) rfl ?_
    refine r_if0_le X332.here hx (hb hby at_48) (by decide) (pc' := 57) (by decide) (pc2 := 51) rfl (fun hc48 => absurd hc48 (by decide)) (fun hc48 => ?_)
    refine r_aload X332.here hx (hb hby at_51) rfl rfl (pc' := 53) rfl ?_
    refine r_iconst X332.here hx (hb hby at_53) (v := 0) rfl (pc' := 54) rfl ?_
    refine r_iload X332.here hx (hb hby at_54) rfl (pc' := 56) rfl ?_
    refine q_bastoreB X332 hx hZ e332 (j := (0 : Int32)) f338 (by decide) (by decide) (w := b0) hb0 (hb hby at_56) (pc' := 57) rfl (fun T339 h339 X339 e339 W339 A339 => ?_)
    have f340 := f334.wr W339
    have f341 := f335.wr W339
    have f342 := f336.wr W339
    have Z343 : n0 ≤ h339.size := by have q := Z337; rw [W339.size]; exact q
    have N339 := Fr.snoc X339 N331 ge333
    refine r_iload X339.here hx (hb hby at_57) rfl (pc' := 59) rfl ?_
    refine r_iconst X339.here hx (hb hby at_59) (v := 1) rfl (pc' := 60) rfl ?_
    refine r_if_le X339.here hx (hb hby at_60) (by decide) (pc' := 69) (by decide) (pc2 := 63) rfl (fun hc60 => absurd hc60 (by decide)) (fun hc60 => ?_)
    refine r_aload X339.here hx (hb hby at_63) rfl rfl (pc' := 65) rfl ?_
    refine r_iconst X339.here hx (hb hby at_65) (v := 1) rfl (pc' := 66) rfl ?_
    refine r_iload X339.here hx (hb hby at_66) rfl (pc' := 68) rfl ?_
    refine q_bastoreB X339 hx hZ e339 (j := (1 : Int32)) A339 (by decide) (by decide) (w := b1) hb1 (hb hby at_68) (pc' := 69) rfl (fun T344 h344 X344 e344 W344 A344 => ?_)
    have f345 := f340.wr W344
    have f346 := f341.wr W344
    have f347 := f342.wr W344
    have Z348 : n0 ≤ h344.size := by have q := Z343; rw [W344.size]; exact q
    have N344 := Fr.snoc X344 N339 ge333
    refine r_iload X344.here hx (hb hby at_69) rfl (pc' := 71) rfl ?_
    refine r_iconst X344.here hx (hb hby at_71) (v := 2) rfl (pc' := 72) rfl ?_
    refine r_if_le X344.here hx (hb hby at_72) (by decide) (pc' := 81) (by decide) (pc2 := 75) rfl (fun hc72 => absurd hc72 (by decide)) (fun hc72 => ?_)
    refine r_aload X344.here hx (hb hby at_75) rfl rfl (pc' := 77) rfl ?_
    refine r_iconst X344.here hx (hb hby at_77) (v := 2) rfl (pc' := 78) rfl ?_
    refine r_iload X344.here hx (hb hby at_78) rfl (pc' := 80) rfl ?_
    refine q_bastoreB X344 hx hZ e344 (j := (2 : Int32)) A344 (by decide) (by decide) (w := b2) hb2 (hb hby at_80) (pc' := 81) rfl (fun T349 h349 X349 e349 W349 A349 => ?_)
    have f350 := f345.wr W349
    have f351 := f346.wr W349
    have f352 := f347.wr W349
    have Z353 : n0 ≤ h349.size := by have q := Z348; rw [W349.size]; exact q
    have N349 := Fr.snoc X349 N344 ge333
    refine r_iload X349.here hx (hb hby at_81) rfl (pc' := 83) rfl ?_
    refine r_iconst X349.here hx (hb hby at_83) (v := 3) rfl (pc' := 84) rfl ?_
    refine r_if_le X349.here hx (hb hby at_84) (by decide) (pc' := 93) (by decide) (pc2 := 87) rfl (fun hc84 => absurd hc84 (by decide)) (fun hc84 => ?_)
    refine r_aload X349.here hx (hb hby at_87) rfl rfl (pc' := 89) rfl ?_
    refine r_iconst X349.here hx (hb hby at_89) (v := 3) rfl (pc' := 90) rfl ?_
    refine r_iload X349.here hx (hb hby at_90) rfl (pc' := 92) rfl ?_
    refine q_bastoreB X349 hx hZ e349 (j := (3 : Int32)) A349 (by decide) (by decide) (w := b3) hb3 (hb hby at_92) (pc' := 93) rfl (fun T354 h354 X354 e354 W354 A354 => ?_)
    have f355 := f350.wr W354
    have f356 := f351.wr W354
    have f357 := f352.wr W354
    have Z358 : n0 ≤ h354.size := by have q := Z353; rw [W354.size]; exact q
    have N354 := Fr.snoc X354 N349 ge333
    have Jo : ∀ (o : Addr) (T9 : State) (L9 : List Loc), Stand p l e room_1 s m #[(.long raw), (.int sel), (.int size), (.int cnt), (.int opx)] below meth c T9 L9 1 4 → Fr n0 L9 → T9.heap = h354 → Run p e below (fun v h L => v = some (.int 1) ∧ Fr n0 L) (fun o t L => ReturnedEndW s o t L 16 2176) T9 (mkF m 125 #[.val (.long raw), .second, .val (.int sel), .val (.int size), .val (.int cnt), .val (.int opx), .val (.int (4 : Int32)), .val (.int b0), .val (.int b1), .val (.int b2), .val (.int b3), .val (.ref b332), .val (.int (opx &&& (3 : Int32))), .unset, .unset, .unset, .unset, .unset, .unset] [(.ref o)]) := by
      intro o T9 L9 X9 N9 e9
      refine r_astore X9.here hx (hb hby at_125) rfl (l' := #[.val (.long raw), .second, .val (.int sel), .val (.int size), .val (.int cnt), .val (.int opx), .val (.int (4 : Int32)), .val (.int b0), .val (.int b1), .val (.int b2), .val (.int b3), .val (.ref b332), .val (.int (opx &&& (3 : Int32))), .val (.ref o), .unset, .unset, .unset, .unset, .unset]) rfl (pc' := 127) rfl ?_
      refine r_new X9 hx hZ hown (hw _ (List.mem_of_getElem? (i := 8) rfl)) (hw _ (List.mem_of_getElem? (i := 9) rfl)) (hw _ (List.mem_of_getElem? (i := 10) rfl)) e9 (by decide) (by decide) (hb hby at_127) (pc' := 130) rfl (fun T359 h359 b359 g359 X359 e359 E359 A359 D359 => ?_)
      have ne360 : b359 ≠ b332 := by have q := A354.lt; rw [← g359] at q; exact Nat.ne_of_gt q
      have ge361 : n0 ≤ b359 := by rw [g359]; exact Z358
      have f362 := own_staExt f355 E359
      have f363 := own_staExt f356 E359
      have f364 := own_staExt f357 E359
      have f365 := A354.ext E359
      have Z366 : n0 ≤ h359.size := by have q := Z358; exact Nat.le_trans q E359.1
      have f367 : Fld Z h359 b359 "com/example/lockstep/lockstep/Writeset$RowSet" "schema" "Ljava/lang/String;" .null := D359 (Or.inr (hw _ (List.mem_of_getElem? (i := 31) rfl))) (ty := (.object "java/lang/String")) (by decide)
      have f368 : Fld Z h359 b359 "com/example/lockstep/lockstep/Writeset$RowSet" "table" "Ljava/lang/String;" .null := D359 (Or.inr (hw _ (List.mem_of_getElem? (i := 33) rfl))) (ty := (.object "java/lang/String")) (by decide)
      have f369 : Fld Z h359 b359 "com/example/lockstep/lockstep/Writeset$RowSet" "operation" "Lcom/example/lockstep/lockstep/Writeset$Operation;" .null := D359 (Or.inr (hw _ (List.mem_of_getElem? (i := 35) rfl))) (ty := (.object "com/example/lockstep/lockstep/Writeset$Operation")) (by decide)
      have f370 : Fld Z h359 b359 "com/example/lockstep/lockstep/Writeset$RowSet" "count" "I" (.int (0 : Int32)) := D359 (Or.inr (hw _ (List.mem_of_getElem? (i := 37) rfl))) (ty := .int) (by decide)
      have f371 : Fld Z h359 b359 "com/example/lockstep/lockstep/Writeset$RowSet" "texts" "[B" .null := D359 (Or.inr (hw _ (List.mem_of_getElem? (i := 39) rfl))) (ty := (.array .byte)) (by decide)
      refine r_dup X359.here hx (hb hby at_130) rfl (pc' := 131) rfl ?_
      refine r_ldcS (s := s) (vm0 := s.vm) X359 hx hZ hown (hw _ (List.mem_of_getElem? (i := 11) rfl)) (own_sa hw) e359 ((State.WarmedH.refl s).since 0) (Nat.zero_le _) (nn := 4) (by decide) (by decide) (by decide) (by decide) (hb hby at_131) (pc' := 133) rfl (fun b372 T372 h372 k372 X372 e372 E372 hS372 hk372 hZ372 hown372 => ?_)
      have f373 := own_staExt f362 E372
      have f374 := own_staExt f363 E372
      have f375 := own_staExt f364 E372
      have f376 := f365.ext E372
      have f377 := A359.ext E372
      have f378 := f367.ext E372
      have f379 := f368.ext E372
      have f380 := f369.ext E372
      have f381 := f370.ext E372
      have f382 := f371.ext E372
      have Z383 : n0 ≤ h372.size := by have q := Z366; exact Nat.le_trans q E372.1
      refine r_ldcS (s := s) (vm0 := T372.vm) X372 hx hZ372 hown372 (hw _ (List.mem_of_getElem? (i := 18) rfl)) (own_sa hw) e372 hS372 hk372 (nn := 4) (by decide) (by decide) (by decide) (by decide) (hb hby at_133) (pc' := 135) rfl (fun b384 T384 h384 k384 X384 e384 E384 hS384 hk384 hZ384 hown384 => ?_)
      have f385 := own_staExt f373 E384
      have f386 := own_staExt f374 E384
      have f387 := own_staExt f375 E384
      have f388 := f376.ext E384
      have f389 := f377.ext E384
      have f390 := f378.ext E384
      have f391 := f379.ext E384
      have f392 := f380.ext E384
      have f393 := f381.ext E384
      have f394 := f382.ext E384
      have Z395 : n0 ≤ h384.size := by have q := Z383; exact Nat.le_trans q E384.1
      refine r_aload X384.here hx (hb hby at_135) rfl rfl (pc' := 137) rfl ?_
      refine r_iload X384.here hx (hb hby at_137) rfl (pc' := 139) rfl ?_
      refine r_aload X384.here hx (hb hby at_139) rfl rfl (pc' := 141) rfl ?_
      refine r_callI X384 hx hZ384 (y := (⟨"com/example/lockstep/lockstep/Writeset$RowSet", "<init>", "(Ljava/lang/String;Ljava/lang/String;Lcom/example/lockstep/lockstep/Writeset$Operation;I[B)V"⟩ : MethodName)) (rm := ({ frames := 2, cells := 0, slots := 0, locals := 24 } : Room)) hown384 rfl (hw _ (List.mem_of_getElem? (i := 19) rfl)) (hw _ (List.mem_of_getElem? (i := 20) rfl)) (hw _ (List.mem_of_getElem? (i := 10) rfl)) (hw _ (List.mem_of_getElem? (i := 21) rfl)) (by decide) (rmI l Z a0 hw [] b359 b372 b384 o cnt b332 h384 n0 Z395 ge361 f389 f390 f391 f392 f393 f394) e384 (by rw [hml]; rfl) (argsL := [(.ref b372), (.ref b384), (.ref o), (.int cnt), (.ref b332)]) (rest := [(.ref b359)]) (lenOf pd_2 rfl) rfl rfl (W := 1) rfl (by decide) (by decide) (by decide) (by decide) (hb hby at_141) (pc' := 144) rfl ?_
      rintro v396 T396 L396 X396 ⟨rfl, Nq396, K396, Fc396, Ft396⟩
      have N396 := Fr.app N9 Nq396
      show Run p e below _ _ T396 (mkF m 144 #[.val (.long raw), .second, .val (.int sel), .val (.int size), .val (.int cnt), .val (.int opx), .val (.int (4 : Int32)), .val (.int b0), .val (.int b1), .val (.int b2), .val (.int b3), .val (.ref b332), .val (.int (opx &&& (3 : Int32))), .val (.ref o), .unset, .unset, .unset, .unset, .unset] [(.ref b359)])
      have f397 := f388.keep K396 (ninS (Ne.symm ne360) nin0)
      have f398 := f389.keep K396
      have Z399 : n0 ≤ T396.heap.size := by have q := Z395; exact Nat.le_trans q K396.1
      have hk400 : k384 ≤ T396.heap.size := by have q := hk384; exact Nat.le_trans q K396.1
      refine r_astore X396.here hx (hb hby at_144) rfl (l' := #[.val (.long raw), .second, .val (.int sel), .val (.int size), .val (.int cnt), .val (.int opx), .val (.int (4 : Int32)), .val (.int b0), .val (.int b1), .val (.int b2), .val (.int b3), .val (.ref b332), .val (.int (opx &&& (3 : Int32))), .val (.ref o), .val (.ref b359), .unset, .unset, .unset, .unset]) rfl (pc' := 146) rfl ?_
      refine r_lconst X396.here hx (hb hby at_146) (v := 0) rfl (pc' := 147) rfl ?_
      refine r_lstore X396.here hx (hb hby at_147) (l' := #[.val (.long raw), .second, .val (.int sel), .val (.int size), .val (.int cnt), .val (.int opx), .val (.int (4 : Int32)), .val (.int b0), .val (.int b1), .val (.int b2), .val (.int b3), .val (.ref b332), .val (.int (opx &&& (3 : Int32))), .val (.ref o), .val (.ref b359), .val (.long (0 : Int64)), .second, .unset, .unset]) rfl (pc' := 149) rfl ?_
      refine r_iload X396.here hx (hb hby at_149) rfl (pc' := 151) rfl ?_
      refine r_if0_le X396.here hx (hb hby at_151) (by decide) (pc' := 168) (by decide) (pc2 := 154) rfl (fun hc151 => absurd hc151 (by decide)) (fun hc151 => ?_)
      refine r_iload X396.here hx (hb hby at_154) rfl (pc' := 156) rfl ?_
      refine r_callS X396 hx hZ384 (y := (⟨"com/example/lockstep/lockstep/RowSetArraySizePinLaw", "special", "(B)Z"⟩ : MethodName)) (rm := ({ frames := 0, cells := 0, slots := 0, locals := 0 } : Room)) hown384 (hw _ (List.mem_of_getElem? (i := 40) rfl)) (hw _ (List.mem_of_getElem? (i := 41) rfl)) (hw _ (List.mem_of_getElem? (i := 2) rfl)) (hw _ (List.mem_of_getElem? (i := 42) rfl)) (by decide) (rmS l Z a0 hw [] b0 T396.heap n0 Z399) rfl (by rw [hml]; rfl) (argsL := [(.int b0)]) (rest := []) (lenOf pd_4 rfl) rfl rfl (W := 0) rfl (by decide) (by decide) (by decide) (by decide) (hb hby at_156) (pc' := 159) rfl ?_
      rintro v401 T401 L401 X401 ⟨rfl, Nq401, e401⟩
      have N401 := Fr.app N396 Nq401
      show Run p e below _ _ T401 (mkF m 159 #[.val (.long raw), .second, .val (.int sel), .val (.int size), .val (.int cnt), .val (.int opx), .val (.int (4 : Int32)), .val (.int b0), .val (.int b1), .val (.int b2), .val (.int b3), .val (.ref b332), .val (.int (opx &&& (3 : Int32))), .val (.ref o), .val (.ref b359), .val (.long (0 : Int64)), .second, .unset, .unset] [(.int (own_si b0))])
      have Js0 : ∀ z0 : Int64, z0 = (0 : Int64) + own_sp b0 → Run p e below (fun v h L => v = some (.int 1) ∧ Fr n0 L) (fun o t L => ReturnedEndW s o t L 16 2176) T401 (mkF m 168 #[.val (.long raw), .second, .val (.int sel), .val (.int size), .val (.int cnt), .val (.int opx), .val (.int (4 : Int32)), .val (.int b0), .val (.int b1), .val (.int b2), .val (.int b3), .val (.ref b332), .val (.int (opx &&& (3 : Int32))), .val (.ref o), .val (.ref b359), .val (.long z0), .second, .unset, .unset] []) := by
        intro z0 hz0
        subst hz0
        refine r_iload X401.here hx (hb hby at_168) rfl (pc' := 170) rfl ?_
        refine r_iconst X401.here hx (hb hby at_170) (v := 1) rfl (pc' := 171) rfl ?_
        refine r_if_le X401.here hx (hb hby at_171) (by decide) (pc' := 188) (by decide) (pc2 := 174) rfl (fun hc171 => absurd hc171 (by decide)) (fun hc171 => ?_)
        refine r_iload X401.here hx (hb hby at_174) rfl (pc' := 176) rfl ?_
        refine r_callS X401 hx hZ384 (y := (⟨"com/example/lockstep/lockstep/RowSetArraySizePinLaw", "special", "(B)Z"⟩ : MethodName)) (rm := ({ frames := 0, cells := 0, slots := 0, locals := 0 } : Room)) hown384 (hw _ (List.mem_of_getElem? (i := 40) rfl)) (hw _ (List.mem_of_getElem? (i := 41) rfl)) (hw _ (List.mem_of_getElem? (i := 2) rfl)) (hw _ (List.mem_of_getElem? (i := 42) rfl)) (by decide) (rmS l Z a0 hw [] b1 T396.heap n0 Z399) e401 (by rw [hml]; rfl) (argsL := [(.int b1)]) (rest := []) (lenOf pd_4 rfl) rfl rfl (W := 0) rfl (by decide) (by decide) (by decide) (by decide) (hb hby at_176) (pc' := 179) rfl ?_
        rintro v402 T402 L402 X402 ⟨rfl, Nq402, e402⟩
        have N402 := Fr.app N401 Nq402
        show Run p e below _ _ T402 (mkF m 179 #[.val (.long raw), .second, .val (.int sel), .val (.int size), .val (.int cnt), .val (.int opx), .val (.int (4 : Int32)), .val (.int b0), .val (.int b1), .val (.int b2), .val (.int b3), .val (.ref b332), .val (.int (opx &&& (3 : Int32))), .val (.ref o), .val (.ref b359), .val (.long ((0 : Int64) + own_sp b0)), .second, .unset, .unset] [(.int (own_si b1))])
        have Js1 : ∀ z1 : Int64, z1 = ((0 : Int64) + own_sp b0) + own_sp b1 → Run p e below (fun v h L => v = some (.int 1) ∧ Fr n0 L) (fun o t L => ReturnedEndW s o t L 16 2176) T402 (mkF m 188 #[.val (.long raw), .second, .val (.int sel), .val (.int size), .val (.int cnt), .val (.int opx), .val (.int (4 : Int32)), .val (.int b0), .val (.int b1), .val (.int b2), .val (.int b3), .val (.ref b332), .val (.int (opx &&& (3 : Int32))), .val (.ref o), .val (.ref b359), .val (.long z1), .second, .unset, .unset] []) := by
          intro z1 hz1
          subst hz1
          refine r_iload X402.here hx (hb hby at_188) rfl (pc' := 190) rfl ?_
          refine r_iconst X402.here hx (hb hby at_190) (v := 2) rfl (pc' := 191) rfl ?_
          refine r_if_le X402.here hx (hb hby at_191) (by decide) (pc' := 208) (by decide) (pc2 := 194) rfl (fun hc191 => absurd hc191 (by decide)) (fun hc191 => ?_)
          refine r_iload X402.here hx (hb hby at_194) rfl (pc' := 196) rfl ?_
          refine r_callS X402 hx hZ384 (y := (⟨"com/example/lockstep/lockstep/RowSetArraySizePinLaw", "special", "(B)Z"⟩ : MethodName)) (rm := ({ frames := 0, cells := 0, slots := 0, locals := 0 } : Room)) hown384 (hw _ (List.mem_of_getElem? (i := 40) rfl)) (hw _ (List.mem_of_getElem? (i := 41) rfl)) (hw _ (List.mem_of_getElem? (i := 2) rfl)) (hw _ (List.mem_of_getElem? (i := 42) rfl)) (by decide) (rmS l Z a0 hw [] b2 T396.heap n0 Z399) e402 (by rw [hml]; rfl) (argsL := [(.int b2)]) (rest := []) (lenOf pd_4 rfl) rfl rfl (W := 0) rfl (by decide) (by decide) (by decide) (by decide) (hb hby at_196) (pc' := 199) rfl ?_
          rintro v403 T403 L403 X403 ⟨rfl, Nq403, e403⟩
          have N403 := Fr.app N402 Nq403
          show Run p e below _ _ T403 (mkF m 199 #[.val (.long raw), .second, .val (.int sel), .val (.int size), .val (.int cnt), .val (.int opx), .val (.int (4 : Int32)), .val (.int b0), .val (.int b1), .val (.int b2), .val (.int b3), .val (.ref b332), .val (.int (opx &&& (3 : Int32))), .val (.ref o), .val (.ref b359), .val (.long (((0 : Int64) + own_sp b0) + own_sp b1)), .second, .unset, .unset] [(.int (own_si b2))])
          have Js2 : ∀ z2 : Int64, z2 = (((0 : Int64) + own_sp b0) + own_sp b1) + own_sp b2 → Run p e below (fun v h L => v = some (.int 1) ∧ Fr n0 L) (fun o t L => ReturnedEndW s o t L 16 2176) T403 (mkF m 208 #[.val (.long raw), .second, .val (.int sel), .val (.int size), .val (.int cnt), .val (.int opx), .val (.int (4 : Int32)), .val (.int b0), .val (.int b1), .val (.int b2), .val (.int b3), .val (.ref b332), .val (.int (opx &&& (3 : Int32))), .val (.ref o), .val (.ref b359), .val (.long z2), .second, .unset, .unset] []) := by
            intro z2 hz2
            subst hz2
            refine r_iload X403.here hx (hb hby at_208) rfl (pc' := 210) rfl ?_
            refine r_iconst X403.here hx (hb hby at_210) (v := 3) rfl (pc' := 211) rfl ?_
            refine r_if_le X403.here hx (hb hby at_211) (by decide) (pc' := 228) (by decide) (pc2 := 214) rfl (fun hc211 => absurd hc211 (by decide)) (fun hc211 => ?_)
            refine r_iload X403.here hx (hb hby at_214) rfl (pc' := 216) rfl ?_
            refine r_callS X403 hx hZ384 (y := (⟨"com/example/lockstep/lockstep/RowSetArraySizePinLaw", "special", "(B)Z"⟩ : MethodName)) (rm := ({ frames := 0, cells := 0, slots := 0, locals := 0 } : Room)) hown384 (hw _ (List.mem_of_getElem? (i := 40) rfl)) (hw _ (List.mem_of_getElem? (i := 41) rfl)) (hw _ (List.mem_of_getElem? (i := 2) rfl)) (hw _ (List.mem_of_getElem? (i := 42) rfl)) (by decide) (rmS l Z a0 hw [] b3 T396.heap n0 Z399) e403 (by rw [hml]; rfl) (argsL := [(.int b3)]) (rest := []) (lenOf pd_4 rfl) rfl rfl (W := 0) rfl (by decide) (by decide) (by decide) (by decide) (hb hby at_216) (pc' := 219) rfl ?_
            rintro v404 T404 L404 X404 ⟨rfl, Nq404, e404⟩
            have N404 := Fr.app N403 Nq404
            show Run p e below _ _ T404 (mkF m 219 #[.val (.long raw), .second, .val (.int sel), .val (.int size), .val (.int cnt), .val (.int opx), .val (.int (4 : Int32)), .val (.int b0), .val (.int b1), .val (.int b2), .val (.int b3), .val (.ref b332), .val (.int (opx &&& (3 : Int32))), .val (.ref o), .val (.ref b359), .val (.long ((((0 : Int64) + own_sp b0) + own_sp b1) + own_sp b2)), .second, .unset, .unset] [(.int (own_si b3))])
            have Js3 : ∀ z3 : Int64, z3 = ((((0 : Int64) + own_sp b0) + own_sp b1) + own_sp b2) + own_sp b3 → Run p e below (fun v h L => v = some (.int 1) ∧ Fr n0 L) (fun o t L => ReturnedEndW s o t L 16 2176) T404 (mkF m 228 #[.val (.long raw), .second, .val (.int sel), .val (.int size), .val (.int cnt), .val (.int opx), .val (.int (4 : Int32)), .val (.int b0), .val (.int b1), .val (.int b2), .val (.int b3), .val (.ref b332), .val (.int (opx &&& (3 : Int32))), .val (.ref o), .val (.ref b359), .val (.long z3), .second, .unset, .unset] []) := by
              intro z3 hz3
              subst hz3
              refine r_iload X404.here hx (hb hby at_228) rfl (pc' := 230) rfl ?_
              refine r_i2l X404.here hx (hb hby at_230) (pc' := 231) rfl ?_
              refine r_lload X404.here hx (hb hby at_231) rfl (pc' := 233) rfl ?_
              refine r_ladd X404.here hx (hb hby at_233) (pc' := 234) rfl ?_
              refine r_ldc2 X404 hx hZ384 hown384 (hw _ (List.mem_of_getElem? (i := 43) rfl)) (hb hby at_234) (pc' := 237) rfl ?_
              refine r_iload X404.here hx (hb hby at_237) rfl (pc' := 239) rfl ?_
              refine r_i2l X404.here hx (hb hby at_239) (pc' := 240) rfl ?_
              refine r_lmul X404.here hx (hb hby at_240) (pc' := 241) rfl ?_
              refine r_ladd X404.here hx (hb hby at_241) (pc' := 242) rfl ?_
              refine r_ldc2 X404 hx hZ384 hown384 (hw _ (List.mem_of_getElem? (i := 43) rfl)) (hb hby at_242) (pc' := 245) rfl ?_
              refine r_ladd X404.here hx (hb hby at_245) (pc' := 246) rfl ?_
              refine r_lstore X404.here hx (hb hby at_246) (l' := #[.val (.long raw), .second, .val (.int sel), .val (.int size), .val (.int cnt), .val (.int opx), .val (.int (4 : Int32)), .val (.int b0), .val (.int b1), .val (.int b2), .val (.int b3), .val (.ref b332), .val (.int (opx &&& (3 : Int32))), .val (.ref o), .val (.ref b359), .val (.long (((((0 : Int64) + own_sp b0) + own_sp b1) + own_sp b2) + own_sp b3)), .second, .val (.long (((((4 : Int32).toInt64) + (((((0 : Int64) + own_sp b0) + own_sp b1) + own_sp b2) + own_sp b3)) + ((2 : Int64) * (cnt.toInt64))) + (2 : Int64))), .second]) rfl (pc' := 248) rfl ?_
              refine r_aload X404.here hx (hb hby at_248) rfl rfl (pc' := 250) rfl ?_
              refine r_callV X404 hx hZ384 (y := (⟨"com/example/lockstep/lockstep/Writeset$RowSet", "arraySize", "()J"⟩ : MethodName)) (z := (⟨"com/example/lockstep/lockstep/Writeset$RowSet", "arraySize", "()J"⟩ : MethodName)) (rm := ({ frames := 0, cells := 0, slots := 0, locals := 0 } : Room)) hown384 (hw _ (List.mem_of_getElem? (i := 44) rfl)) (hw _ (List.mem_of_getElem? (i := 45) rfl)) (notFace_of_selects (args := #[]) (mvT hZ384 (hw _ (List.mem_of_getElem? (i := 47) rfl)))) (hw _ (List.mem_of_getElem? (i := 47) rfl)) (hw _ (List.mem_of_getElem? (i := 46) rfl)) (hw _ (List.mem_of_getElem? (i := 10) rfl)) (hw _ (List.mem_of_getElem? (i := 48) rfl)) (by decide) (rmA4 l Z a0 hw [] b359 b332 cnt b0 b1 b2 b3 _ T396.heap n0 Z399 Ft396 Fc396 f397 rfl rfl rfl rfl) e404 f398 (by rw [hml]; rfl) (argsL := []) (rest := []) (lenOf pd_3 rfl) rfl rfl (W := 0) rfl (by decide) (by decide) (by decide) (by decide) (hb hby at_250) (pc' := 253) rfl ?_
              rintro v405 T405 L405 X405 ⟨rfl, Nq405, e405⟩
              have N405 := Fr.app N404 Nq405
              show Run p e below _ _ T405 (mkF m 253 #[.val (.long raw), .second, .val (.int sel), .val (.int size), .val (.int cnt), .val (.int opx), .val (.int (4 : Int32)), .val (.int b0), .val (.int b1), .val (.int b2), .val (.int b3), .val (.ref b332), .val (.int (opx &&& (3 : Int32))), .val (.ref o), .val (.ref b359), .val (.long (((((0 : Int64) + own_sp b0) + own_sp b1) + own_sp b2) + own_sp b3)), .second, .val (.long (((((4 : Int32).toInt64) + (((((0 : Int64) + own_sp b0) + own_sp b1) + own_sp b2) + own_sp b3)) + ((2 : Int64) * (cnt.toInt64))) + (2 : Int64))), .second] [(.long (((4 : Int32).toInt64 + (((((0 : Int64) + own_sp b0) + own_sp b1) + own_sp b2) + own_sp b3)) + 2 * cnt.toInt64 + 2))])
              refine r_lload X405.here hx (hb hby at_253) rfl (pc' := 255) rfl ?_
              refine r_lcmp X405.here hx (hb hby at_255) (pc' := 256) rfl ?_
              refine r_ifL_ne X405.here hx (hb hby at_256) (by decide) (pc' := 263) (by decide) (pc2 := 259) rfl (fun hc256 => absurd rfl hc256) (fun hc256 => ?_)
              refine r_iconst X405.here hx (hb hby at_259) (v := 1) rfl (pc' := 260) rfl ?_
              refine r_goto X405.here hx (hb hby at_260) (by decide) (pc' := 264) (by decide) ?_
              refine w_retN (s := s) (vm1 := T384.vm) X405 hS384 (by rw [e405]; exact hk400) hx hlk hret (by simp) (hb hby at_264) (w := (1 : Int32)) rfl ?_ (by decide) (by decide)
              try rw [e405]
              exact ⟨rfl, N405⟩
            refine r_if0_eq X404.here hx (hb hby at_219) (by decide) (pc' := 228) (by decide) (pc2 := 222) rfl (fun hc219 => ?_) (fun hc219 => ?_)
            · exact Js3 _ (own_ssz b3 hc219 _)
            · refine r_lload X404.here hx (hb hby at_222) rfl (pc' := 224) rfl ?_
              refine r_lconst X404.here hx (hb hby at_224) (v := 1) rfl (pc' := 225) rfl ?_
              refine r_ladd X404.here hx (hb hby at_225) (pc' := 226) rfl ?_
              refine r_lstore X404.here hx (hb hby at_226) (l' := #[.val (.long raw), .second, .val (.int sel), .val (.int size), .val (.int cnt), .val (.int opx), .val (.int (4 : Int32)), .val (.int b0), .val (.int b1), .val (.int b2), .val (.int b3), .val (.ref b332), .val (.int (opx &&& (3 : Int32))), .val (.ref o), .val (.ref b359), .val (.long (((((0 : Int64) + own_sp b0) + own_sp b1) + own_sp b2) + (1 : Int64))), .second, .unset, .unset]) rfl (pc' := 228) rfl ?_
              exact Js3 _ (own_sso b3 hc219 _)
          refine r_if0_eq X403.here hx (hb hby at_199) (by decide) (pc' := 208) (by decide) (pc2 := 202) rfl (fun hc199 => ?_) (fun hc199 => ?_)
          · exact Js2 _ (own_ssz b2 hc199 _)
          · refine r_lload X403.here hx (hb hby at_202) rfl (pc' := 204) rfl ?_
            refine r_lconst X403.here hx (hb hby at_204) (v := 1) rfl (pc' := 205) rfl ?_
            refine r_ladd X403.here hx (hb hby at_205) (pc' := 206) rfl ?_
            refine r_lstore X403.here hx (hb hby at_206) (l' := #[.val (.long raw), .second, .val (.int sel), .val (.int size), .val (.int cnt), .val (.int opx), .val (.int (4 : Int32)), .val (.int b0), .val (.int b1), .val (.int b2), .val (.int b3), .val (.ref b332), .val (.int (opx &&& (3 : Int32))), .val (.ref o), .val (.ref b359), .val (.long ((((0 : Int64) + own_sp b0) + own_sp b1) + (1 : Int64))), .second, .unset, .unset]) rfl (pc' := 208) rfl ?_
            exact Js2 _ (own_sso b2 hc199 _)
        refine r_if0_eq X402.here hx (hb hby at_179) (by decide) (pc' := 188) (by decide) (pc2 := 182) rfl (fun hc179 => ?_) (fun hc179 => ?_)
        · exact Js1 _ (own_ssz b1 hc179 _)
        · refine r_lload X402.here hx (hb hby at_182) rfl (pc' := 184) rfl ?_
          refine r_lconst X402.here hx (hb hby at_184) (v := 1) rfl (pc' := 185) rfl ?_
          refine r_ladd X402.here hx (hb hby at_185) (pc' := 186) rfl ?_
          refine r_lstore X402.here hx (hb hby at_186) (l' := #[.val (.long raw), .second, .val (.int sel), .val (.int size), .val (.int cnt), .val (.int opx), .val (.int (4 : Int32)), .val (.int b0), .val (.int b1), .val (.int b2), .val (.int b3), .val (.ref b332), .val (.int (opx &&& (3 : Int32))), .val (.ref o), .val (.ref b359), .val (.long (((0 : Int64) + own_sp b0) + (1 : Int64))), .second, .unset, .unset]) rfl (pc' := 188) rfl ?_
          exact Js1 _ (own_sso b1 hc179 _)
      refine r_if0_eq X401.here hx (hb hby at_159) (by decide) (pc' := 168) (by decide) (pc2 := 162) rfl (fun hc159 => ?_) (fun hc159 => ?_)
      · exact Js0 _ (own_ssz b0 hc159 _)
      · refine r_lload X401.here hx (hb hby at_162) rfl (pc' := 164) rfl ?_
        refine r_lconst X401.here hx (hb hby at_164) (v := 1) rfl (pc' := 165) rfl ?_
        refine r_ladd X401.here hx (hb hby at_165) (pc' := 166) rfl ?_
        refine r_lstore X401.here hx (hb hby at_166) (l' := #[.val (.long raw), .second, .val (.int sel), .val (.int size), .val (.int cnt), .val (.int opx), .val (.int (4 : Int32)), .val (.int b0), .val (.int b1), .val (.int b2), .val (.int b3), .val (.ref b332), .val (.int (opx &&& (3 : Int32))), .val (.ref o), .val (.ref b359), .val (.long ((0 : Int64) + (1 : Int64))), .second, .unset, .unset]) rfl (pc' := 168) rfl ?_
        exact Js0 _ (own_sso b0 hc159 _)
    refine r_iload X354.here hx (hb hby at_93) rfl (pc' := 95) rfl ?_
    refine r_iconst X354.here hx (hb hby at_95) (v := 3) rfl (pc' := 96) rfl ?_
    refine r_iand X354.here hx (hb hby at_96) (pc' := 97) rfl ?_
    refine r_istore X354.here hx (hb hby at_97) (l' := #[.val (.long raw), .second, .val (.int sel), .val (.int size), .val (.int cnt), .val (.int opx), .val (.int (4 : Int32)), .val (.int b0), .val (.int b1), .val (.int b2), .val (.int b3), .val (.ref b332), .val (.int (opx &&& (3 : Int32))), .unset, .unset, .unset, .unset, .unset, .unset]) rfl (pc' := 99) rfl ?_
    refine r_iload X354.here hx (hb hby at_99) rfl (pc' := 101) rfl ?_
    refine r_if0_ne X354.here hx (hb hby at_101) (by decide) (pc' := 110) (by decide) (pc2 := 104) rfl (fun hc101 => ?_) (fun hc101 => ?_)
    · refine r_iload X354.here hx (hb hby at_110) rfl (pc' := 112) rfl ?_
      refine r_iconst X354.here hx (hb hby at_112) (v := 1) rfl (pc' := 113) rfl ?_
      refine r_if_ne X354.here hx (hb hby at_113) (by decide) (pc' := 122) (by decide) (pc2 := 116) rfl (fun hc113 => ?_) (fun hc113 => ?_)
      · refine r_getS X354 hx hZ hown (hw _ (List.mem_of_getElem? (i := 5) rfl)) Via.refl e354 f357 (hb hby at_122) (pc' := 125) rfl (fun T406 X406 e406 => ?_)
        exact Jo _ _ _ X406 N354 e406
      · refine r_getS X354 hx hZ hown (hw _ (List.mem_of_getElem? (i := 50) rfl)) Via.refl e354 f356 (hb hby at_116) (pc' := 119) rfl (fun T407 X407 e407 => ?_)
        refine r_goto X407.here hx (hb hby at_119) (by decide) (pc' := 125) (by decide) ?_
        exact Jo _ _ _ X407 N354 e407
    · refine r_getS X354 hx hZ hown (hw _ (List.mem_of_getElem? (i := 52) rfl)) Via.refl e354 f355 (hb hby at_104) (pc' := 107) rfl (fun T408 X408 e408 => ?_)
      refine r_goto X408.here hx (hb hby at_107) (by decide) (pc' := 125) (by decide) ?_
      exact Jo _ _ _ X408 N354 e408
set_option maxRecDepth 65536 in
set_option maxHeartbeats 40000000 in
theorem comes_1 {Post : Tables → Env → Array Value → State → Outcome → State → Prop} (hpost : ∀ tb e args s v u, (limb_1_1.after args s (.returned v) u = true ∧ limb_1_2.after args s (.returned v) u = true ∧ True) → ReturnedEndW s (.returned v) u (Jvm.fieldLocs frame_1_writes args s ++ Jvm.arrayLocs frame_1_arrays args s ++ Jvm.staticLocs frame_1_statics s) 16 2176 → Post tb e args s (.returned v) u) :
    ArmFor flags0 classFile x code maxLocals ret World_1 tables_1 room_1 Calls_1 rest_1 Pre_1 Post := by
  intro l hfl _ _ p e ha hc hk s m args below hf hA hF happ hP
  obtain ⟨hcalls, hrest, hpre⟩ := hP
  obtain ⟨-, -, -, hnamed, -, -, -, hat⟩ := (Spec.applies_iff hf).mp happ
  obtain ⟨hg, hn⟩ := and_e (Cond.before_iff.mp (show (Jvm.Cond.and given_1 narrow_1).before args s = true from hpre))
  obtain ⟨h1, g0⟩ := and_e hg
  obtain ⟨q0, g1⟩ := and_e g0
  obtain ⟨q1, g2⟩ := and_e g1
  obtain ⟨q2, g3⟩ := and_e g2
  obtain ⟨q3, g4⟩ := and_e g3
  have q4 := g4
  obtain ⟨w0, w1, w2, w3, w4, rfl⟩ : ∃ w0 w1 w2 w3 w4 : Value, args = #[w0, w1, w2, w3, w4] := by
    have hs : args.size = 5 := by simpa [Cond.value, given_1] using h1
    obtain ⟨L⟩ := args
    match L, hs with
    | [w0, w1, w2, w3, w4], _ => exact ⟨w0, w1, w2, w3, w4, rfl⟩
  have hw := fun d (hd : d ∈ tables_1) => atoms_spec (ws := Jvm.Cond.code x code maxLocals ret :: tables_1) hat d (List.mem_cons_of_mem _ hd)
  have hfit : Fit s := fun {y c} hc i hi => by
    obtain ⟨ha, rfl⟩ := Array.getElem?_eq_some_iff.mp hc
    have q := List.all_eq_true.mp ((Array.all_eq_true_iff_forall_mem.mp hF) _ (Array.getElem_mem ha)) i (List.mem_range.mpr hi)
    simpa [Array.getElem?_eq_getElem hi] using q
  obtain ⟨i0, e0⟩ := isL_v q0
  obtain rfl : w0 = (.long i0) := Option.some.inj e0
  obtain ⟨i1, e1⟩ := is_v q1
  obtain rfl : w1 = (.int i1) := Option.some.inj e1
  obtain ⟨i2, e2⟩ := is_v q2
  obtain rfl : w2 = (.int i2) := Option.some.inj e2
  obtain ⟨i3, e3⟩ := is_v q3
  obtain rfl : w3 = (.int i3) := Option.some.inj e3
  obtain ⟨i4, e4⟩ := is_v q4
  obtain rfl : w4 = (.int i4) := Option.some.inj e4
  obtain ⟨y0, z1⟩ := and_e hn
  obtain ⟨y1, y2⟩ := and_e z1
  obtain ⟨a0, ev0, S0, X0⟩ := own_en y0 (hw _ (List.mem_of_getElem? (i := 6) rfl)) (hw _ (List.mem_of_getElem? (i := 7) rfl))
  obtain ⟨a1, ev1, S1, X1⟩ := own_en y1 (hw _ (List.mem_of_getElem? (i := 6) rfl)) (hw _ (List.mem_of_getElem? (i := 51) rfl))
  obtain ⟨a2, ev2, S2, X2⟩ := own_en y2 (hw _ (List.mem_of_getElem? (i := 6) rfl)) (hw _ (List.mem_of_getElem? (i := 53) rfl))
  obtain ⟨n, o, h1, h2, h3, _, L, rfl, ⟨rfl, N⟩, hq⟩ := rm0 l s _ hw tables_1 i0 i1 i2 i3 i4 a2 a1 a0 s.heap s.heap.size (Nat.le_refl _) S2 S1 S0 p e ha hc hk s m _ below hf ((Spec.applies_iff_loose hf).mp happ).1 ⟨rfl, State.Warmed39.refl s, rfl⟩ trivial
  refine ⟨n, _, h1, h2, h3, hpost _ _ _ _ _ _ ⟨Cond.after_iff.mpr rfl, Cond.after_iff.mpr (eq_i res_at (Term.int_eval (1)) rfl), trivial⟩ ⟨hq.1, hq.2.1, hq.2.2.1, (hq.2.2.2.sift fun y hy => Or.inr (N y hy)).mono (by decide) (by decide)⟩⟩
theorem main_1_1 : Claimed_1_1 := comes_1 fun _ _ _ _ _ _ h hF => ⟨h.1, hF⟩
theorem main_1_2 : Claimed_1_2 := comes_1 fun _ _ _ _ _ _ h hF => ⟨h.2.1, hF⟩
end Jvm.Pilot.@@N@@
namespace Jvm.Pilot.@@N@@
open Jvm Jvm.ClassFile Sem Op Lib Jvm.Free Jvm.Stand Jvm.Pilot.@@N@@.Jvm.D
/-! MADE BY PROGRAM (witnessworld.py) out of the Statement's table words and the real class files: 19 classes; the members and pool entries that the words name. The judged class is class 1, her method 1. -/
namespace start1
open Jvm.ClassFile
def u (s : String) : CpInfo := .utf8 (stringToUtf16 s)
/-- a pool by its gaps: so many unusable entries, then the entry; so many at the end -/
def gap : Nat → List CpInfo → List CpInfo
  | 0, r => r
  | n + 1, r => .unusable :: gap n r
def poolList (es : List (Nat × CpInfo)) (last : Nat) : List CpInfo := es.foldr (fun e r => gap e.1 (e.2 :: r)) (gap last [])
def pool (es : List (Nat × CpInfo)) (last : Nat) : Array CpInfo := ⟨poolList es last⟩
def fileOf (pool : Array CpInfo) (this : Nat) (attrs : Array Attribute := #[]) (ms : Array MethodInfo := #[]) (fl : Nat := 33) (sup : Nat := 0) (ifs : Array Nat := #[]) (fds : Array FieldInfo := #[]) : ClassFile where
  minorVersion := 0
  majorVersion := 65
  constantPool := pool
  accessFlags := fl
  thisClass := this
  superClass := sup
  interfaces := ifs
  fields := fds
  methods := ms
  attributes := attrs
def plain (name : String) (sup : Option ClassId) : Class where
  name := name
  kind := .ordinary
  loader := none
  accessFlags := 33
  super := sup
  interfaces := #[]
  cf := none
  fields := #[]
  methods := #[]
  instanceTypes := #[]
  staticTypes := #[]
  resolved := #[]
  callSites := []
  init := .initialized
  statics := none
  mirror := none

def pool0 : Array CpInfo := pool [(5, u "<init>"), (0, u "()V"), (1, .class_ 10), (1, u "java/lang/Object")] 113

def k0c0 : Code := { maxStack := 0, maxLocals := 1, code := object_method_1_code, exceptionTable := #[], attributes := #[] }
def k0m0 : Method := { name := "<init>", desc := "()V", sig := { parameters := [], returnType := none }, accessFlags := 1, code := some k0c0 }
/-- java/lang/Object -/
def k0 : Class := { plain "java/lang/Object" none with
  accessFlags := 33
  interfaces := #[]
  cf := some (fileOf pool0 8 #[] #[{ accessFlags := 1, nameIndex := 5, descriptorIndex := 6, attributes := #[] }] 33 0 #[] #[])
  fields := #[]
  methods := #[k0m0]
  instanceTypes := #[]
  staticTypes := #[]
  resolved := Array.replicate 124 none
  statics := none }

def pool1 : Array CpInfo := pool [(2, .class_ 4), (1, u "java/lang/Object"), (0, u "<init>"), (0, u "()V"), (0, .methodref 8 9), (0, .class_ 10), (0, .nameAndType 11 12), (0, u "com/example/lockstep/lockstep/RowSetArraySizePinLaw"), (0, u "pick"), (0, u "(JII)B"), (0, .fieldref 14 15), (0, .class_ 16), (0, .nameAndType 17 18), (0, u "com/example/lockstep/lockstep/Writeset$Operation"), (0, u "INSERT"), (0, u "Lcom/example/lockstep/lockstep/Writeset$Operation;"), (0, .fieldref 14 20), (0, .nameAndType 21 18), (0, u "UPDATE"), (0, .fieldref 14 23), (0, .nameAndType 24 18), (0, u "DELETE"), (0, .class_ 26), (0, u "com/example/lockstep/lockstep/Writeset$RowSet"), (0, .string 28), (0, u "s"), (0, .string 30), (0, u "t"), (0, .methodref 25 32), (0, .nameAndType 5 33), (0, u "(Ljava/lang/String;Ljava/lang/String;Lcom/example/lockstep/lockstep/Writeset$Operation;I[B)V"), (0, .methodref 8 35), (0, .nameAndType 36 37), (0, u "special"), (0, u "(B)Z"), (0, .long 2), (1, .methodref 25 41), (0, .nameAndType 42 43), (0, u "arraySize"), (0, u "()J"), (2, u "law"), (0, u "(JIIII)Z")] 10

def k1m0 : Method := { name := "<init>", desc := "()V", sig := { parameters := [], returnType := none }, accessFlags := 1, code := none }
def k1c1 : Code := { maxStack := 7, maxLocals := 19, code := code, exceptionTable := #[], attributes := #[] }
def k1m1 : Method := { name := "law", desc := "(JIIII)Z", sig := { parameters := [.long, .int, .int, .int, .int], returnType := some .boolean }, accessFlags := 9, code := some k1c1 }
def k1c2 : Code := { maxStack := 4, maxLocals := 5, code := method_3_code, exceptionTable := #[], attributes := #[] }
def k1m2 : Method := { name := "pick", desc := "(JII)B", sig := { parameters := [.long, .int, .int], returnType := some .byte }, accessFlags := 10, code := some k1c2 }
def k1c3 : Code := { maxStack := 2, maxLocals := 1, code := method_4_code, exceptionTable := #[], attributes := #[] }
def k1m3 : Method := { name := "special", desc := "(B)Z", sig := { parameters := [.byte], returnType := some .boolean }, accessFlags := 10, code := some k1c3 }
/-- com/example/lockstep/lockstep/RowSetArraySizePinLaw -/
def k1 : Class := { plain "com/example/lockstep/lockstep/RowSetArraySizePinLaw" (some 0) with
  accessFlags := 49
  interfaces := #[]
  cf := some (fileOf pool1 8 #[] #[{ accessFlags := 1, nameIndex := 5, descriptorIndex := 6, attributes := #[] }, { accessFlags := 9, nameIndex := 46, descriptorIndex := 47, attributes := #[] }, { accessFlags := 10, nameIndex := 11, descriptorIndex := 12, attributes := #[] }, { accessFlags := 10, nameIndex := 36, descriptorIndex := 37, attributes := #[] }] 49 2 #[] #[])
  fields := #[]
  methods := #[k1m0, k1m1, k1m2, k1m3]
  instanceTypes := #[]
  staticTypes := #[]
  resolved := Array.replicate 58 none
  statics := none }

def pool2 : Array CpInfo := pool [(1, .class_ 2), (0, u "java/lang/constant/Constable"), (0, .class_ 4), (0, u "java/lang/Object")] 6

/-- java/lang/constant/Constable -/
def k2 : Class := { plain "java/lang/constant/Constable" (some 0) with
  accessFlags := 1537
  interfaces := #[]
  cf := some (fileOf pool2 1 #[] #[] 1537 3 #[] #[])
  fields := #[]
  methods := #[]
  instanceTypes := #[]
  staticTypes := #[]
  resolved := Array.replicate 11 none
  statics := none }

def pool3 : Array CpInfo := pool [(1, .class_ 2), (0, u "java/lang/Comparable"), (0, .class_ 4), (0, u "java/lang/Object")] 7

/-- java/lang/Comparable -/
def k3 : Class := { plain "java/lang/Comparable" (some 0) with
  accessFlags := 1537
  interfaces := #[]
  cf := some (fileOf pool3 1 #[] #[] 1537 3 #[] #[])
  fields := #[]
  methods := #[]
  instanceTypes := #[]
  staticTypes := #[]
  resolved := Array.replicate 12 none
  statics := none }

def pool4 : Array CpInfo := pool [(1, .class_ 2), (0, u "java/io/Serializable"), (0, .class_ 4), (0, u "java/lang/Object")] 2

/-- java/io/Serializable -/
def k4 : Class := { plain "java/io/Serializable" (some 0) with
  accessFlags := 1537
  interfaces := #[]
  cf := some (fileOf pool4 1 #[] #[] 1537 3 #[] #[])
  fields := #[]
  methods := #[]
  instanceTypes := #[]
  staticTypes := #[]
  resolved := Array.replicate 7 none
  statics := none }

def pool5 : Array CpInfo := pool [(2, .class_ 4), (1, u "java/lang/Enum"), (0, u "name"), (0, u "Ljava/lang/String;"), (2, u "ordinal"), (0, u "I"), (1, .class_ 14), (1, u "java/lang/Object"), (4, u "hash"), (86, .class_ 108), (1, u "java/lang/Enum$EnumDesc"), (2, .class_ 112), (0, u "java/lang/constant/Constable"), (0, .class_ 114), (0, u "java/lang/Comparable"), (0, .class_ 116), (0, u "java/io/Serializable")] 87

/-- java/lang/Enum -/
def k5 : Class := { plain "java/lang/Enum" (some 0) with
  accessFlags := 1057
  interfaces := #[2, 3, 4]
  cf := some (fileOf pool5 2 #[.nestMembers #[106]] #[] 1057 12 #[111, 113, 115] #[{ accessFlags := 18, nameIndex := 5, descriptorIndex := 6, attributes := #[] }, { accessFlags := 18, nameIndex := 9, descriptorIndex := 10, attributes := #[] }, { accessFlags := 2, nameIndex := 19, descriptorIndex := 10, attributes := #[] }])
  fields := #[{ name := "name", type := (.object "java/lang/String"), accessFlags := 18, slot := 0, constantValue := 0 }, { name := "ordinal", type := .int, accessFlags := 18, slot := 1, constantValue := 0 }, { name := "hash", type := .int, accessFlags := 2, slot := 2, constantValue := 0 }]
  methods := #[]
  instanceTypes := #[(.object "java/lang/String"), .int, .int]
  staticTypes := #[]
  resolved := Array.replicate 204 none
  statics := none }

def pool6 : Array CpInfo := pool [(1, .class_ 2), (0, u "com/example/lockstep/lockstep/Writeset$Operation"), (2, u "INSERT"), (0, u "Lcom/example/lockstep/lockstep/Writeset$Operation;"), (2, u "UPDATE"), (2, u "DELETE"), (2, u "$VALUES"), (0, u "[Lcom/example/lockstep/lockstep/Writeset$Operation;"), (6, .class_ 25), (1, u "java/lang/Enum"), (50, .class_ 77), (0, u "com/example/lockstep/lockstep/Writeset")] 16

/-- com/example/lockstep/lockstep/Writeset$Operation -/
def k6 : Class := { plain "com/example/lockstep/lockstep/Writeset$Operation" (some 5) with
  accessFlags := 16432
  interfaces := #[]
  cf := some (fileOf pool6 1 #[.nestHost 76] #[] 16432 23 #[] #[{ accessFlags := 16409, nameIndex := 5, descriptorIndex := 6, attributes := #[] }, { accessFlags := 16409, nameIndex := 9, descriptorIndex := 6, attributes := #[] }, { accessFlags := 16409, nameIndex := 12, descriptorIndex := 6, attributes := #[] }, { accessFlags := 4122, nameIndex := 15, descriptorIndex := 16, attributes := #[] }])
  fields := #[{ name := "INSERT", type := (.object "com/example/lockstep/lockstep/Writeset$Operation"), accessFlags := 16409, slot := 0, constantValue := 0 }, { name := "UPDATE", type := (.object "com/example/lockstep/lockstep/Writeset$Operation"), accessFlags := 16409, slot := 1, constantValue := 0 }, { name := "DELETE", type := (.object "com/example/lockstep/lockstep/Writeset$Operation"), accessFlags := 16409, slot := 2, constantValue := 0 }, { name := "$VALUES", type := (.array (.object "com/example/lockstep/lockstep/Writeset$Operation")), accessFlags := 4122, slot := 3, constantValue := 0 }]
  methods := #[]
  instanceTypes := #[(.object "java/lang/String"), .int, .int]
  staticTypes := #[(.object "com/example/lockstep/lockstep/Writeset$Operation"), (.object "com/example/lockstep/lockstep/Writeset$Operation"), (.object "com/example/lockstep/lockstep/Writeset$Operation"), (.array (.object "com/example/lockstep/lockstep/Writeset$Operation"))]
  resolved := Array.replicate 94 none
  statics := some 0 }

def pool7 : Array CpInfo := pool [(1, .methodref 2 3), (0, .class_ 4), (0, .nameAndType 5 6), (0, u "java/lang/Object"), (0, u "<init>"), (0, u "()V"), (0, .class_ 8), (0, u "java/lang/Record")] 13

def k7c0 : Code := { maxStack := 1, maxLocals := 1, code := jdk_30_method_1_code, exceptionTable := #[], attributes := #[] }
def k7m0 : Method := { name := "<init>", desc := "()V", sig := { parameters := [], returnType := none }, accessFlags := 4, code := some k7c0 }
/-- java/lang/Record -/
def k7 : Class := { plain "java/lang/Record" (some 0) with
  accessFlags := 1057
  interfaces := #[]
  cf := some (fileOf pool7 7 #[] #[{ accessFlags := 4, nameIndex := 5, descriptorIndex := 6, attributes := #[] }] 1057 2 #[] #[])
  fields := #[]
  methods := #[k7m0]
  instanceTypes := #[]
  staticTypes := #[]
  resolved := Array.replicate 22 none
  statics := none }

def pool8 : Array CpInfo := pool [(14, .class_ 16), (1, u "com/example/lockstep/lockstep/Writeset"), (62, .class_ 80), (0, u "com/example/lockstep/lockstep/Writeset$Change"), (0, .class_ 82), (0, u "java/lang/Object")] 23

/-- com/example/lockstep/lockstep/Writeset$Change -/
def k8 : Class := { plain "com/example/lockstep/lockstep/Writeset$Change" (some 0) with
  accessFlags := 1536
  interfaces := #[]
  cf := some (fileOf pool8 79 #[.nestHost 14] #[] 1536 81 #[] #[])
  fields := #[]
  methods := #[]
  instanceTypes := #[]
  staticTypes := #[]
  resolved := Array.replicate 106 none
  statics := none }

def pool9 : Array CpInfo := pool [(1, .class_ 2), (0, u "com/example/lockstep/lockstep/Writeset$Rows"), (0, .class_ 4), (0, u "java/lang/Object"), (0, .class_ 6), (0, u "com/example/lockstep/lockstep/Writeset$Change"), (17, .class_ 25), (0, u "com/example/lockstep/lockstep/Writeset")] 13

/-- com/example/lockstep/lockstep/Writeset$Rows -/
def k9 : Class := { plain "com/example/lockstep/lockstep/Writeset$Rows" (some 0) with
  accessFlags := 1536
  interfaces := #[8]
  cf := some (fileOf pool9 1 #[.nestHost 24] #[] 1536 3 #[5] #[])
  fields := #[]
  methods := #[]
  instanceTypes := #[]
  staticTypes := #[]
  resolved := Array.replicate 39 none
  statics := none }

def pool10 : Array CpInfo := pool [(1, .methodref 2 3), (0, .class_ 4), (0, .nameAndType 5 6), (0, u "java/lang/Record"), (0, u "<init>"), (0, u "()V"), (0, .fieldref 8 9), (0, .class_ 10), (0, .nameAndType 11 12), (0, u "com/example/lockstep/lockstep/Writeset$RowSet"), (0, u "schema"), (0, u "Ljava/lang/String;"), (0, .fieldref 8 14), (0, .nameAndType 15 12), (0, u "table"), (0, .fieldref 8 17), (0, .nameAndType 18 19), (0, u "operation"), (0, u "Lcom/example/lockstep/lockstep/Writeset$Operation;"), (0, .fieldref 8 21), (0, .nameAndType 22 23), (0, u "count"), (0, u "I"), (0, .fieldref 8 25), (0, .nameAndType 26 27), (0, u "texts"), (0, u "[B"), (41, u "(Ljava/lang/String;Ljava/lang/String;Lcom/example/lockstep/lockstep/Writeset$Operation;I[B)V"), (2, u "arraySize"), (0, u "()J"), (27, .long 2), (80, .class_ 183), (0, u "com/example/lockstep/lockstep/Writeset$Rows"), (0, u "MOST_ARRAY_BYTES"), (23, .class_ 209), (0, u "com/example/lockstep/lockstep/Writeset")] 23

def k10c0 : Code := { maxStack := 2, maxLocals := 6, code := prog_49_method_1_code, exceptionTable := #[], attributes := #[] }
def k10m0 : Method := { name := "<init>", desc := "(Ljava/lang/String;Ljava/lang/String;Lcom/example/lockstep/lockstep/Writeset$Operation;I[B)V", sig := { parameters := [(.object "java/lang/String"), (.object "java/lang/String"), (.object "com/example/lockstep/lockstep/Writeset$Operation"), .int, (.array .byte)], returnType := none }, accessFlags := 0, code := some k10c0 }
def k10c1 : Code := { maxStack := 6, maxLocals := 7, code := prog_49_method_5_code, exceptionTable := #[], attributes := #[] }
def k10m1 : Method := { name := "arraySize", desc := "()J", sig := { parameters := [], returnType := some .long }, accessFlags := 0, code := some k10c1 }
/-- com/example/lockstep/lockstep/Writeset$RowSet -/
def k10 : Class := { plain "com/example/lockstep/lockstep/Writeset$RowSet" (some 7) with
  accessFlags := 48
  interfaces := #[9]
  cf := some (fileOf pool10 8 #[.nestHost 208] #[{ accessFlags := 0, nameIndex := 5, descriptorIndex := 69, attributes := #[] }, { accessFlags := 0, nameIndex := 72, descriptorIndex := 73, attributes := #[] }] 48 2 #[182] #[{ accessFlags := 18, nameIndex := 11, descriptorIndex := 12, attributes := #[] }, { accessFlags := 18, nameIndex := 15, descriptorIndex := 12, attributes := #[] }, { accessFlags := 18, nameIndex := 18, descriptorIndex := 19, attributes := #[] }, { accessFlags := 18, nameIndex := 22, descriptorIndex := 23, attributes := #[] }, { accessFlags := 18, nameIndex := 26, descriptorIndex := 27, attributes := #[] }, { accessFlags := 24, nameIndex := 184, descriptorIndex := 23, attributes := #[] }])
  fields := #[{ name := "schema", type := (.object "java/lang/String"), accessFlags := 18, slot := 0, constantValue := 0 }, { name := "table", type := (.object "java/lang/String"), accessFlags := 18, slot := 1, constantValue := 0 }, { name := "operation", type := (.object "com/example/lockstep/lockstep/Writeset$Operation"), accessFlags := 18, slot := 2, constantValue := 0 }, { name := "count", type := .int, accessFlags := 18, slot := 3, constantValue := 0 }, { name := "texts", type := (.array .byte), accessFlags := 18, slot := 4, constantValue := 0 }, { name := "MOST_ARRAY_BYTES", type := .int, accessFlags := 24, slot := 0, constantValue := 0 }]
  methods := #[k10m0, k10m1]
  instanceTypes := #[(.object "java/lang/String"), (.object "java/lang/String"), (.object "com/example/lockstep/lockstep/Writeset$Operation"), .int, (.array .byte)]
  staticTypes := #[.int]
  resolved := Array.replicate 233 none
  statics := none }

def pool11 : Array CpInfo := pool [(2, .class_ 4), (1, u "java/lang/CharSequence"), (42, .class_ 48), (0, u "java/lang/CharSequence$1CodePointIterator"), (10, .class_ 60), (0, u "java/lang/CharSequence$1CharIterator"), (5, .class_ 67), (0, u "java/lang/Object")] 63

/-- java/lang/CharSequence -/
def k11 : Class := { plain "java/lang/CharSequence" (some 0) with
  accessFlags := 1537
  interfaces := #[]
  cf := some (fileOf pool11 2 #[.nestMembers #[47, 59]] #[] 1537 66 #[] #[])
  fields := #[]
  methods := #[]
  instanceTypes := #[]
  staticTypes := #[]
  resolved := Array.replicate 131 none
  statics := none }

def pool12 : Array CpInfo := pool [(1, .class_ 2), (0, u "java/lang/constant/ConstantDesc"), (0, .class_ 4), (0, u "java/lang/Object")] 32

/-- java/lang/constant/ConstantDesc -/
def k12 : Class := { plain "java/lang/constant/ConstantDesc" (some 0) with
  accessFlags := 1537
  interfaces := #[]
  cf := some (fileOf pool12 1 #[] #[] 1537 3 #[] #[])
  fields := #[]
  methods := #[]
  instanceTypes := #[]
  staticTypes := #[]
  resolved := Array.replicate 37 none
  statics := none }

def pool13 : Array CpInfo := pool [(2, .class_ 4), (1, u "java/lang/Object"), (0, u "<init>"), (0, u "()V"), (3, .class_ 12), (1, u "java/lang/String"), (0, u "value"), (0, u "[B"), (2, u "coder"), (0, u "B"), (2, u "hash"), (0, u "I"), (2, u "hashIsZero"), (0, u "Z"), (13, u "COMPACT_STRINGS"), (534, .class_ 576), (0, u "java/lang/CharSequence"), (22, u "CASE_INSENSITIVE_ORDER"), (0, u "Ljava/util/Comparator;"), (500, u "serialPersistentFields"), (0, u "[Ljava/io/ObjectStreamField;"), (0, .class_ 1104), (0, u "java/lang/String$CaseInsensitiveComparator"), (1, .class_ 1107), (0, u "java/io/Serializable"), (0, .class_ 1109), (0, u "java/lang/Comparable"), (0, .class_ 1111), (0, u "java/lang/constant/Constable"), (0, .class_ 1113), (0, u "java/lang/constant/ConstantDesc"), (2, u "serialVersionUID"), (0, u "J"), (3, u "REPL"), (0, u "C"), (2, u "LATIN1"), (1, u "UTF16")] 323

def k13m0 : Method := { name := "<init>", desc := "()V", sig := { parameters := [], returnType := none }, accessFlags := 1, code := none }
/-- java/lang/String -/
def k13 : Class := { plain "java/lang/String" (some 0) with
  accessFlags := 49
  interfaces := #[4, 3, 11, 2, 12]
  cf := some (fileOf pool13 10 #[.nestMembers #[1103]] #[{ accessFlags := 1, nameIndex := 5, descriptorIndex := 6, attributes := #[] }] 49 2 #[1106, 1108, 575, 1110, 1112] #[{ accessFlags := 18, nameIndex := 13, descriptorIndex := 14, attributes := #[] }, { accessFlags := 18, nameIndex := 17, descriptorIndex := 18, attributes := #[] }, { accessFlags := 2, nameIndex := 21, descriptorIndex := 22, attributes := #[] }, { accessFlags := 2, nameIndex := 25, descriptorIndex := 26, attributes := #[] }, { accessFlags := 26, nameIndex := 1116, descriptorIndex := 1117, attributes := #[] }, { accessFlags := 24, nameIndex := 40, descriptorIndex := 26, attributes := #[] }, { accessFlags := 26, nameIndex := 1101, descriptorIndex := 1102, attributes := #[] }, { accessFlags := 26, nameIndex := 1121, descriptorIndex := 1122, attributes := #[] }, { accessFlags := 25, nameIndex := 599, descriptorIndex := 600, attributes := #[] }, { accessFlags := 24, nameIndex := 1125, descriptorIndex := 18, attributes := #[] }, { accessFlags := 24, nameIndex := 1127, descriptorIndex := 18, attributes := #[] }])
  fields := #[{ name := "value", type := (.array .byte), accessFlags := 18, slot := 0, constantValue := 0 }, { name := "coder", type := .byte, accessFlags := 18, slot := 1, constantValue := 0 }, { name := "hash", type := .int, accessFlags := 2, slot := 2, constantValue := 0 }, { name := "hashIsZero", type := .boolean, accessFlags := 2, slot := 3, constantValue := 0 }, { name := "serialVersionUID", type := .long, accessFlags := 26, slot := 0, constantValue := 0 }, { name := "COMPACT_STRINGS", type := .boolean, accessFlags := 24, slot := 1, constantValue := 0 }, { name := "serialPersistentFields", type := (.array (.object "java/io/ObjectStreamField")), accessFlags := 26, slot := 2, constantValue := 0 }, { name := "REPL", type := .char, accessFlags := 26, slot := 3, constantValue := 0 }, { name := "CASE_INSENSITIVE_ORDER", type := (.object "java/util/Comparator"), accessFlags := 25, slot := 4, constantValue := 0 }, { name := "LATIN1", type := .byte, accessFlags := 24, slot := 5, constantValue := 0 }, { name := "UTF16", type := .byte, accessFlags := 24, slot := 6, constantValue := 0 }]
  methods := #[k13m0]
  instanceTypes := #[(.array .byte), .byte, .int, .boolean]
  staticTypes := #[.long, .boolean, (.array (.object "java/io/ObjectStreamField")), .char, (.object "java/util/Comparator"), .byte, .byte]
  resolved := Array.replicate 1451 none
  statics := none }

def pool14 : Array CpInfo := pool [(1, u "java/lang/Cloneable"), (0, .class_ 1), (0, u "java/lang/Object"), (0, .class_ 3)] 3

/-- java/lang/Cloneable -/
def k14 : Class := { plain "java/lang/Cloneable" (some 0) with
  accessFlags := 1537
  interfaces := #[]
  cf := some (fileOf pool14 2 #[] #[] 1537 4 #[] #[])
  fields := #[]
  methods := #[]
  instanceTypes := #[]
  staticTypes := #[]
  resolved := Array.replicate 8 none
  statics := none }

/-- the primitive byte -/
def k15 : Class := { plain "byte" none with kind := .primitive 'B', accessFlags := 0x411 }
/-- [B -/
def k16 : Class := { plain "[B" (some 0) with kind := .array 15 .byte, interfaces := #[14, 4], accessFlags := 1041 }

/-- the primitive int -/
def k17 : Class := { plain "int" none with kind := .primitive 'I', accessFlags := 0x411 }
/-- [I -/
def k18 : Class := { plain "[I" (some 0) with kind := .array 17 .int, interfaces := #[14, 4], accessFlags := 1041 }

def heap : Heap := #[{ cls := 6, slots := #[.ref 1, .ref 2, .ref 3, .null], vm := .statics 6 },
  { cls := 6, slots := #[.null, .int 0, .int 0], vm := .none },
  { cls := 6, slots := #[.null, .int 1, .int 0], vm := .none },
  { cls := 6, slots := #[.null, .int 2, .int 0], vm := .none }]
def classes : Array Class := #[k0, k1, k2, k3, k4, k5, k6, k7, k8, k9, k10, k11, k12, k13, k14, k15, k16, k17, k18]
def interned : List (Array UInt16 × Addr) := []
def slotsUsed : Nat := 13
def theMethod : MethodId := ⟨1, 1⟩
def args0 : Array Value := #[.long 5, .int 7, .int 3, .int 4, .int 0]
def aboutOver (below : List Frame) : State where
  vm := { classes := classes, interned := interned.toArray }
  heap := heap
  slotsUsed := slotsUsed
  threads := #[{ frames := .invoking theMethod args0 :: below }]
def below0 : List Frame := [.native { method := ⟨0, 0⟩, args := #[] }]
def about1 : State := aboutOver below0
def p0 : Program := .bare "" "" ""
def e0 : Env := launch0.env 0 0 0
theorem w_frames : about1.frames = Frame.invoking theMethod args0 :: below0 := rfl
set_option maxRecDepth 65536 in
theorem w_args : argsFit about1.vm theMethod args0 = true := by decide +kernel
set_option maxRecDepth 65536 in
theorem w_heap : heapFits about1 = true := by decide +kernel
set_option maxRecDepth 65536 in
theorem w_runnable : about1.curStatus? = some .runnable := by decide +kernel
set_option maxRecDepth 65536 in
theorem w_alone : about1.alone = true := by decide +kernel
set_option maxRecDepth 65536 in
theorem w_named : about1.methodNamed? x = some theMethod := by decide +kernel
set_option maxRecDepth 65536 in
theorem w_hears : about1.hears theMethod below0 = true := by decide +kernel
set_option maxRecDepth 65536 in
theorem w_ripe : about1.ripe theMethod args0 below0 = true := by decide +kernel
theorem w_running : about1.status = .running := rfl
set_option maxRecDepth 65536 in
theorem w_room : about1.hasRoom e0.platform room_1 = true :=
  launch0.hasRoom_least _ room_1 (by decide +kernel) (by decide +kernel) (by decide +kernel) (by decide +kernel) (by decide +kernel) (by decide +kernel)
theorem allAtoms_all (ts : List Jvm.Cond) (a : Array Jvm.Value) (st : Jvm.State) : (allAtoms ts).before a st = ts.all (fun c => c.before a st) := by
  induction ts with
  | nil => rfl
  | cons c t ih =>
    show (Jvm.Cond.and c (allAtoms t)).before a st = _
    rw [Jvm.Cond.before_and, ih, List.all_cons]
def words1 : List Jvm.Cond := Jvm.Cond.code x code maxLocals ret :: tables_1
/-- a 'code' word, met by the world's own term for the bytes: nothing is compared byte by byte -/
theorem code_word {y : MethodName} {bytes : ByteArray} {mx : Nat} {rt : Option FieldType} {a : Array Value} {s : State} {m : MethodId} {meth : Method} {c : Code} (h1 : s.methodNamed? y = some m) (h2 : s.vm.method? m = some meth) (h3 : meth.code = some c) (h4 : c.code = bytes)
    (h5 : (c.maxLocals == mx && c.exceptionTable.isEmpty && decide (c.maxStack ≤ mostOperands) && decide (meth.sig.returnType = rt) && !meth.locks && decide (parseMethodDescriptor y.desc = some meth.sig)) = true) : (Jvm.Cond.code y bytes mx rt).before a s = true := by
  simp only [Bool.and_eq_true, beq_iff_eq, Bool.not_eq_true', decide_eq_true_eq] at h5
  obtain ⟨⟨⟨⟨⟨g1, g2⟩, g3⟩, g4⟩, g5⟩, g6⟩ := h5
  simp [Cond.before, Cond.holds, Cond.value, h1, h2, h3, h4, g1, g2, g3, g4, g5, g6]
def isCode : Jvm.Cond → Bool
  | .code _ _ _ _ => true
  | _ => false
theorem all_split {L : List Jvm.Cond} {P : Jvm.Cond → Bool} (h1 : L.all (fun c => isCode c || P c) = true) (h2 : ∀ c ∈ L.filter isCode, P c = true) : L.all P = true := by
  refine List.all_eq_true.mpr fun c hc => ?_
  have h := List.all_eq_true.mp h1 c hc
  rcases Bool.eq_false_or_eq_true (isCode c) with hi | hi
  · exact h2 c (List.mem_filter.mpr ⟨hc, hi⟩)
  · simpa [hi] using h
set_option maxRecDepth 65536 in
theorem w_c0 : (Jvm.Cond.code x code maxLocals ret).before args0 about1 = true := code_word (m := ⟨1, 1⟩) (meth := k1m1) (c := k1c1) (by decide +kernel) rfl rfl rfl (by decide +kernel)
set_option maxRecDepth 65536 in
theorem w_c1 : (Jvm.Cond.code ({ cls := "com/example/lockstep/lockstep/RowSetArraySizePinLaw", name := "pick", desc := "(JII)B" } : Jvm.MethodName) method_3_code (5 : Nat) (Option.some Jvm.ClassFile.FieldType.byte)).before args0 about1 = true := code_word (m := ⟨1, 2⟩) (meth := k1m2) (c := k1c2) (by decide +kernel) rfl rfl rfl (by decide +kernel)
set_option maxRecDepth 65536 in
theorem w_c2 : (Jvm.Cond.code ({ cls := "com/example/lockstep/lockstep/Writeset$RowSet", name := "<init>", desc := "(Ljava/lang/String;Ljava/lang/String;Lcom/example/lockstep/lockstep/Writeset$Operation;I[B)V" } : Jvm.MethodName) prog_49_method_1_code (6 : Nat) (Option.none : Option Jvm.ClassFile.FieldType)).before args0 about1 = true := code_word (m := ⟨10, 0⟩) (meth := k10m0) (c := k10c0) (by decide +kernel) rfl rfl rfl (by decide +kernel)
set_option maxRecDepth 65536 in
theorem w_c3 : (Jvm.Cond.code ({ cls := "java/lang/Record", name := "<init>", desc := "()V" } : Jvm.MethodName) jdk_30_method_1_code (1 : Nat) (Option.none : Option Jvm.ClassFile.FieldType)).before args0 about1 = true := code_word (m := ⟨7, 0⟩) (meth := k7m0) (c := k7c0) (by decide +kernel) rfl rfl rfl (by decide +kernel)
set_option maxRecDepth 65536 in
theorem w_c4 : (Jvm.Cond.code ({ cls := "java/lang/Object", name := "<init>", desc := "()V" } : Jvm.MethodName) object_method_1_code (1 : Nat) (Option.none : Option Jvm.ClassFile.FieldType)).before args0 about1 = true := code_word (m := ⟨0, 0⟩) (meth := k0m0) (c := k0c0) (by decide +kernel) rfl rfl rfl (by decide +kernel)
set_option maxRecDepth 65536 in
theorem w_c5 : (Jvm.Cond.code ({ cls := "com/example/lockstep/lockstep/RowSetArraySizePinLaw", name := "special", desc := "(B)Z" } : Jvm.MethodName) method_4_code (1 : Nat) (Option.some Jvm.ClassFile.FieldType.boolean)).before args0 about1 = true := code_word (m := ⟨1, 3⟩) (meth := k1m3) (c := k1c3) (by decide +kernel) rfl rfl rfl (by decide +kernel)
set_option maxRecDepth 65536 in
theorem w_c6 : (Jvm.Cond.code ({ cls := "com/example/lockstep/lockstep/Writeset$RowSet", name := "arraySize", desc := "()J" } : Jvm.MethodName) prog_49_method_5_code (7 : Nat) (Option.some Jvm.ClassFile.FieldType.long)).before args0 about1 = true := code_word (m := ⟨10, 1⟩) (meth := k10m1) (c := k10c1) (by decide +kernel) rfl rfl rfl (by decide +kernel)
def codes1 : List Jvm.Cond := [Jvm.Cond.code x code maxLocals ret, Jvm.Cond.code ({ cls := "com/example/lockstep/lockstep/RowSetArraySizePinLaw", name := "pick", desc := "(JII)B" } : Jvm.MethodName) method_3_code (5 : Nat) (Option.some Jvm.ClassFile.FieldType.byte), Jvm.Cond.code ({ cls := "com/example/lockstep/lockstep/Writeset$RowSet", name := "<init>", desc := "(Ljava/lang/String;Ljava/lang/String;Lcom/example/lockstep/lockstep/Writeset$Operation;I[B)V" } : Jvm.MethodName) prog_49_method_1_code (6 : Nat) (Option.none : Option Jvm.ClassFile.FieldType), Jvm.Cond.code ({ cls := "java/lang/Record", name := "<init>", desc := "()V" } : Jvm.MethodName) jdk_30_method_1_code (1 : Nat) (Option.none : Option Jvm.ClassFile.FieldType), Jvm.Cond.code ({ cls := "java/lang/Object", name := "<init>", desc := "()V" } : Jvm.MethodName) object_method_1_code (1 : Nat) (Option.none : Option Jvm.ClassFile.FieldType), Jvm.Cond.code ({ cls := "com/example/lockstep/lockstep/RowSetArraySizePinLaw", name := "special", desc := "(B)Z" } : Jvm.MethodName) method_4_code (1 : Nat) (Option.some Jvm.ClassFile.FieldType.boolean), Jvm.Cond.code ({ cls := "com/example/lockstep/lockstep/Writeset$RowSet", name := "arraySize", desc := "()J" } : Jvm.MethodName) prog_49_method_5_code (7 : Nat) (Option.some Jvm.ClassFile.FieldType.long)]
set_option maxRecDepth 65536 in
theorem codes_eq : words1.filter isCode = codes1 := rfl
theorem w_codes : ∀ c ∈ words1.filter isCode, c.before args0 about1 = true := by
  rw [codes_eq]
  intro c hc
  simp only [codes1, List.mem_cons, List.not_mem_nil, or_false] at hc
  rcases hc with rfl | rfl | rfl | rfl | rfl | rfl | rfl
  · exact w_c0
  · exact w_c1
  · exact w_c2
  · exact w_c3
  · exact w_c4
  · exact w_c5
  · exact w_c6
set_option maxRecDepth 65536 in
theorem w_t1 : (words1.take 24).all (fun c => isCode c || c.before args0 about1) = true := by decide +kernel
set_option maxRecDepth 65536 in
theorem w_t2 : ((words1.drop 24).take 24).all (fun c => isCode c || c.before args0 about1) = true := by decide +kernel
set_option maxRecDepth 65536 in
theorem w_t3 : ((words1.drop 24).drop 24).all (fun c => isCode c || c.before args0 about1) = true := by decide +kernel
theorem w_tables : (allAtoms (Jvm.Cond.code x code maxLocals ret :: tables_1)).before args0 about1 = true := by
  rw [allAtoms_all]
  show words1.all (fun c => c.before args0 about1) = true
  refine all_split ?_ w_codes
  rw [← List.take_append_drop 24 words1, List.all_append, w_t1, ← List.take_append_drop 24 (words1.drop 24), List.all_append, w_t2, w_t3]
  rfl
set_option maxRecDepth 65536 in
theorem w_case : (Jvm.Cond.and given_1 narrow_1).before args0 about1 = true := by decide +kernel
theorem w_applies : (headSpec (Jvm.Cond.code x code maxLocals ret :: tables_1) room_1).applies x e0.platform about1 = true :=
  (Spec.applies_iff w_frames).mpr ⟨w_running, w_runnable, w_alone, w_named, w_hears, w_ripe, w_room, w_tables⟩
theorem atStart : AtStart classFile x code maxLocals ret World_1 tables_1 room_1 Calls_1 rest_1 Pre_1 launch0 p0 e0 about1 theMethod args0 below0 :=
  ⟨lists_1, trivial, launch0.admits_env _ _ _, launch0.least_env, fairChoices_fair.cas, fairChoices_fair.clock, w_frames, w_args, w_heap, w_applies, trivial, trivial, w_case⟩
end start1
theorem witness_1 : WitnessClaimed_1 := ⟨start1.p0, start1.e0, start1.about1, start1.theMethod, start1.args0, start1.below0, start1.atStart⟩
end Jvm.Pilot.@@N@@
