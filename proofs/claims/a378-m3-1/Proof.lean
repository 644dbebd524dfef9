import JvmDerived
import JvmDerived.Pilot.@@N@@Statement
import JvmDerived.Pilot.@@N@@Code
set_option linter.unusedVariables false
set_option linter.unusedSimpArgs false
namespace Jvm.Pilot.@@N@@
open Jvm Jvm.ClassFile Sem Op Lib Jvm.Free Jvm.Stand Jvm.LawKit Jvm.RoadKit Bundle Jvm.Pilot.@@N@@.Jvm.D
section Core
variable {p : Program} {l : Launch} {e : Env} {R : Room} {s : State} {m : MethodId} {args : Array Value} {below : List Frame} {meth : Method} {c : Code} {T T' : State} {locs : List Loc} {cells slots : Nat} {Q : Option Value → Heap → List Loc → Prop} {En : Outcome → State → List Loc → Prop} {kc ks : Nat} {Z : State} {a0 : Array Value} {h : Heap} {Ls : Array Slot} {st rest : List Value} {pc pc' : Nat}
def ushrI (x y : Int32) : Int32 := (x.toUInt32 >>> (y &&& 31).toUInt32).toInt32
def ushrJ (x : Int64) (y : Int32) : Int64 := (x.toUInt64 >>> (y &&& 0x3f).toInt64.toUInt64).toInt64
def cmpJ (x y : Int64) : Int32 := if x > y then 1 else if x = y then 0 else -1
def Run (p : Program) (e : Env) (below : List Frame) (Q : Option Value → Heap → List Loc → Prop) (En : Outcome → State → List Loc → Prop) (T : State) (g : JFrame) : Prop :=
  ∃ s₂ o, Steps p.tables e below (T.setTop g) s₂ ∧ s₂.status = .running ∧ Ended s₂ below o ∧ ∃ v L, o = .returned v ∧ Q v s₂.heap L ∧ En o s₂ L
theorem Run.on {g g' : JFrame} (r : Run p e below Q En T' g') (q : ∀ t, Steps p.tables e below (T'.setTop g') t → Steps p.tables e below (T.setTop g) t) : Run p e below Q En T g := by
  obtain ⟨s₂, o, h1, r⟩ := r
  exact ⟨s₂, o, q _ h1, r⟩
theorem Run.cast {g g' : JFrame} (q : g = g') (r : Run p e below Q En T g') : Run p e below Q En T g := q ▸ r
abbrev Met (l : Launch) (Z : State) (y : MethodName) (bytes : ByteArray) (maxL : Nat) (ret : Option FieldType) (ws : List Jvm.Cond) (rm : Room) (as' : Array Value) (h0 : Heap) (Q : Option Value → Heap → List Loc → Prop) (kc ks : Nat) : Prop :=
  MetFree l y (head1 (Jvm.Cond.code y bytes maxL ret :: ws) rm) (fun a U => a = as' ∧ Z.Warmed39 U.vm ∧ U.heap = h0) (fun _ _ _ _ _ => True) (fun _ U o U' => ∃ v L, o = .returned v ∧ Q v U'.heap L ∧ FrameEnd U o U' L kc ks)
theorem met_of {y : MethodName} {bytes : ByteArray} {maxL : Nat} {ret : Option FieldType} {ws : List Jvm.Cond} {rm : Room} {as' : Array Value} {h0 : Heap} {Q : Option Value → Heap → List Loc → Prop} {kc ks : Nat} {f0 : MethodId → JFrame} (hpn : plainFor y = true)
    (hef : ∀ m, entryFrame m as' maxL = f0 m)
    (body : ∀ (p : Program) (e : Env) (s : State) (m : MethodId) (below : List Frame) (meth : Method) (c : Code) (s₁ : State), Stand p l e rm s m as' below meth c s₁ [] 0 0 → p.tables.exec = Jvm.exec → c.code = bytes → c.maxLocals = maxL → meth.sig.returnType = ret → meth.locks = false → s.vm.findClass y.cls = some m.cls → meth.name = y.name → Z.Warmed39 s.vm → s₁.heap = h0 → Run p e below Q (fun o t L => FrameEnd s o t L kc ks) s₁ (f0 m)) :
    Met l Z y bytes maxL ret ws rm as' h0 Q kc ks := by
  refine MetFree.of_bodySF (code := bytes) (maxLocals := maxL) (ret := ret) hpn hisR ?_
  intro p e s m args below meth c s₁ Bd hml0 hP hK
  obtain ⟨rfl, hZ, hh⟩ := hP
  obtain ⟨s₂, o, r⟩ := body p e s m below meth c s₁ (Stand.of_body Bd) Bd.exec Bd.bytes hml0 Bd.returns (BodyLoose.notSynchronized Bd) (findClass_of_methodNamed Bd.named) (name_of_methodNamed Bd.named Bd.method).1 hZ (by rw [← hh, Bd.state]; rfl)
  rw [hef m]
  exact ⟨s₂, o, r⟩
theorem r_aloadN (at_ : At T m c below) (hx : p.tables.exec = Jvm.exec) {k : Fin 4} {v : Value} (hd : decode c.code pc = .ok (.aload_n k, 1)) (hl : Ls[k.val]? = some (.val v)) (hv : v.isRef = true) (hp : pc + 1 = pc') (r : Run p e below Q En T (mkF m pc' Ls (v :: rest))) : Run p e below Q En T (mkF m pc Ls (rest)) := by
  subst hp; exact r.on fun _ q => XS.aloadN at_ hx rfl hd hl hv q
theorem r_aload (at_ : At T m c below) (hx : p.tables.exec = Jvm.exec) {k : Nat} {v : Value} (hd : decode c.code pc = .ok (.aload k, 2)) (hl : Ls[k]? = some (.val v)) (hv : v.isRef = true) (hp : pc + 2 = pc') (r : Run p e below Q En T (mkF m pc' Ls (v :: rest))) : Run p e below Q En T (mkF m pc Ls (rest)) := by
  subst hp; exact r.on fun _ q => XS.aload at_ hx rfl hd hl hv q
theorem r_iloadN (at_ : At T m c below) (hx : p.tables.exec = Jvm.exec) {k : Fin 4} {v : Int32} (hd : decode c.code pc = .ok (.iload_n k, 1)) (hl : Ls[k.val]? = some (.val (.int v))) (hp : pc + 1 = pc') (r : Run p e below Q En T (mkF m pc' Ls (.int v :: rest))) : Run p e below Q En T (mkF m pc Ls (rest)) := by
  subst hp; exact r.on fun _ q => XS.iloadN at_ hx rfl hd hl q
theorem r_iload (at_ : At T m c below) (hx : p.tables.exec = Jvm.exec) {k : Nat} {v : Int32} (hd : decode c.code pc = .ok (.iload k, 2)) (hl : Ls[k]? = some (.val (.int v))) (hp : pc + 2 = pc') (r : Run p e below Q En T (mkF m pc' Ls (.int v :: rest))) : Run p e below Q En T (mkF m pc Ls (rest)) := by
  subst hp; exact r.on fun _ q => XS.iload at_ hx rfl hd hl q
theorem r_lloadN (at_ : At T m c below) (hx : p.tables.exec = Jvm.exec) {k : Fin 4} {v : Int64} (hd : decode c.code pc = .ok (.lload_n k, 1)) (hl : Ls[k.val]? = some (.val (.long v))) (hp : pc + 1 = pc') (r : Run p e below Q En T (mkF m pc' Ls (.long v :: rest))) : Run p e below Q En T (mkF m pc Ls (rest)) := by
  subst hp; exact r.on fun _ q => XS.lloadN at_ hx rfl hd hl q
theorem r_lload (at_ : At T m c below) (hx : p.tables.exec = Jvm.exec) {k : Nat} {v : Int64} (hd : decode c.code pc = .ok (.lload k, 2)) (hl : Ls[k]? = some (.val (.long v))) (hp : pc + 2 = pc') (r : Run p e below Q En T (mkF m pc' Ls (.long v :: rest))) : Run p e below Q En T (mkF m pc Ls (rest)) := by
  subst hp; exact r.on fun _ q => XS.lload at_ hx rfl hd hl q
theorem r_istoreN (at_ : At T m c below) (hx : p.tables.exec = Jvm.exec) {k : Fin 4} {x : Int32} {l' : Array Slot} (hd : decode c.code pc = .ok (.istore_n k, 1)) (hl : storeLocals Ls k.val (.int x) = some l') (hp : pc + 1 = pc') (r : Run p e below Q En T (mkF m pc' l' (rest))) : Run p e below Q En T (mkF m pc Ls (.int x :: rest)) := by
  subst hp; exact r.on fun _ q => XS.istoreN at_ hx rfl hd rfl hl q
theorem r_istore (at_ : At T m c below) (hx : p.tables.exec = Jvm.exec) {k : Nat} {x : Int32} {l' : Array Slot} (hd : decode c.code pc = .ok (.istore k, 2)) (hl : storeLocals Ls k (.int x) = some l') (hp : pc + 2 = pc') (r : Run p e below Q En T (mkF m pc' l' (rest))) : Run p e below Q En T (mkF m pc Ls (.int x :: rest)) := by
  subst hp; exact r.on fun _ q => XS.istore at_ hx rfl hd rfl hl q
theorem r_lstoreN (at_ : At T m c below) (hx : p.tables.exec = Jvm.exec) {k : Fin 4} {x : Int64} {l' : Array Slot} (hd : decode c.code pc = .ok (.lstore_n k, 1)) (hl : storeLocals Ls k.val (.long x) = some l') (hp : pc + 1 = pc') (r : Run p e below Q En T (mkF m pc' l' (rest))) : Run p e below Q En T (mkF m pc Ls (.long x :: rest)) := by
  subst hp; exact r.on fun _ q => XS.lstoreN at_ hx rfl hd rfl hl q
theorem r_lstore (at_ : At T m c below) (hx : p.tables.exec = Jvm.exec) {k : Nat} {x : Int64} {l' : Array Slot} (hd : decode c.code pc = .ok (.lstore k, 2)) (hl : storeLocals Ls k (.long x) = some l') (hp : pc + 2 = pc') (r : Run p e below Q En T (mkF m pc' l' (rest))) : Run p e below Q En T (mkF m pc Ls (.long x :: rest)) := by
  subst hp; exact r.on fun _ q => XS.lstore at_ hx rfl hd rfl hl q
theorem r_astoreN (at_ : At T m c below) (hx : p.tables.exec = Jvm.exec) {k : Fin 4} {x : Value} {l' : Array Slot} (hd : decode c.code pc = .ok (.astore_n k, 1)) (hv : x.isRef = true) (hl : storeLocals Ls k.val x = some l') (hp : pc + 1 = pc') (r : Run p e below Q En T (mkF m pc' l' (rest))) : Run p e below Q En T (mkF m pc Ls (x :: rest)) := by
  subst hp; exact r.on fun _ q => XS.astoreN at_ hx rfl hd rfl hv hl q
theorem r_astore (at_ : At T m c below) (hx : p.tables.exec = Jvm.exec) {k : Nat} {x : Value} {l' : Array Slot} (hd : decode c.code pc = .ok (.astore k, 2)) (hv : x.isRef = true) (hl : storeLocals Ls k x = some l') (hp : pc + 2 = pc') (r : Run p e below Q En T (mkF m pc' l' (rest))) : Run p e below Q En T (mkF m pc Ls (x :: rest)) := by
  subst hp; exact r.on fun _ q => XS.astore at_ hx rfl hd rfl hv hl q
theorem r_iconst (at_ : At T m c below) (hx : p.tables.exec = Jvm.exec) {i : Int} {v : Int32} (hd : decode c.code pc = .ok (.iconst i, 1)) (hv : Int32.ofInt i = v) (hp : pc + 1 = pc') (r : Run p e below Q En T (mkF m pc' Ls (.int v :: rest))) : Run p e below Q En T (mkF m pc Ls rest) := by
  subst hp hv; exact r.on fun _ q => XS.iconst at_ hx rfl hd q
theorem r_bipush (at_ : At T m c below) (hx : p.tables.exec = Jvm.exec) {i : Int} {v : Int32} (hd : decode c.code pc = .ok (.bipush i, 2)) (hv : (Int8.ofInt i).toInt32 = v) (hp : pc + 2 = pc') (r : Run p e below Q En T (mkF m pc' Ls (.int v :: rest))) : Run p e below Q En T (mkF m pc Ls rest) := by
  subst hp hv; exact r.on fun _ q => XS.bipush at_ hx rfl hd q
theorem r_sipush (at_ : At T m c below) (hx : p.tables.exec = Jvm.exec) {i : Int} {v : Int32} (hd : decode c.code pc = .ok (.sipush i, 3)) (hv : (Int16.ofInt i).toInt32 = v) (hp : pc + 3 = pc') (r : Run p e below Q En T (mkF m pc' Ls (.int v :: rest))) : Run p e below Q En T (mkF m pc Ls rest) := by
  subst hp hv; exact r.on fun _ q => XS.sipush at_ hx rfl hd q
theorem r_lconst (at_ : At T m c below) (hx : p.tables.exec = Jvm.exec) {k : Fin 2} {v : Int64} (hd : decode c.code pc = .ok (.lconst k, 1)) (hv : Int64.ofNat k = v) (hp : pc + 1 = pc') (r : Run p e below Q En T (mkF m pc' Ls (.long v :: rest))) : Run p e below Q En T (mkF m pc Ls rest) := by
  subst hp hv; exact r.on fun _ q => XS.lconst at_ hx rfl hd q
theorem r_aconst_null (at_ : At T m c below) (hx : p.tables.exec = Jvm.exec)  (hd : decode c.code pc = .ok (.aconst_null, 1))  (hp : pc + 1 = pc') (r : Run p e below Q En T (mkF m pc' Ls (.null :: rest))) : Run p e below Q En T (mkF m pc Ls (rest)) := by
  subst hp; exact r.on fun _ q => XS.aconstNull at_ hx rfl hd  q
theorem r_iadd (at_ : At T m c below) (hx : p.tables.exec = Jvm.exec) {x y : Int32} (hd : decode c.code pc = .ok (.iadd, 1))  (hp : pc + 1 = pc') (r : Run p e below Q En T (mkF m pc' Ls (.int (x + y) :: rest))) : Run p e below Q En T (mkF m pc Ls (.int y :: .int x :: rest)) := by
  subst hp; exact r.on fun _ q => XS.iadd at_ hx rfl hd rfl q
theorem r_isub (at_ : At T m c below) (hx : p.tables.exec = Jvm.exec) {x y : Int32} (hd : decode c.code pc = .ok (.isub, 1))  (hp : pc + 1 = pc') (r : Run p e below Q En T (mkF m pc' Ls (.int (x - y) :: rest))) : Run p e below Q En T (mkF m pc Ls (.int y :: .int x :: rest)) := by
  subst hp; exact r.on fun _ q => XS.isub at_ hx rfl hd rfl q
theorem r_imul (at_ : At T m c below) (hx : p.tables.exec = Jvm.exec) {x y : Int32} (hd : decode c.code pc = .ok (.imul, 1))  (hp : pc + 1 = pc') (r : Run p e below Q En T (mkF m pc' Ls (.int (x * y) :: rest))) : Run p e below Q En T (mkF m pc Ls (.int y :: .int x :: rest)) := by
  subst hp; exact r.on fun _ q => XS.imul at_ hx rfl hd rfl q
theorem r_iand (at_ : At T m c below) (hx : p.tables.exec = Jvm.exec) {x y : Int32} (hd : decode c.code pc = .ok (.iand, 1))  (hp : pc + 1 = pc') (r : Run p e below Q En T (mkF m pc' Ls (.int (x &&& y) :: rest))) : Run p e below Q En T (mkF m pc Ls (.int y :: .int x :: rest)) := by
  subst hp; exact r.on fun _ q => XS.iand at_ hx rfl hd rfl q
theorem r_ior (at_ : At T m c below) (hx : p.tables.exec = Jvm.exec) {x y : Int32} (hd : decode c.code pc = .ok (.ior, 1))  (hp : pc + 1 = pc') (r : Run p e below Q En T (mkF m pc' Ls (.int (x ||| y) :: rest))) : Run p e below Q En T (mkF m pc Ls (.int y :: .int x :: rest)) := by
  subst hp; exact r.on fun _ q => XS.ior at_ hx rfl hd rfl q
theorem r_ixor (at_ : At T m c below) (hx : p.tables.exec = Jvm.exec) {x y : Int32} (hd : decode c.code pc = .ok (.ixor, 1))  (hp : pc + 1 = pc') (r : Run p e below Q En T (mkF m pc' Ls (.int (x ^^^ y) :: rest))) : Run p e below Q En T (mkF m pc Ls (.int y :: .int x :: rest)) := by
  subst hp; exact r.on fun _ q => XS.ixor at_ hx rfl hd rfl q
theorem r_ladd (at_ : At T m c below) (hx : p.tables.exec = Jvm.exec) {x y : Int64} (hd : decode c.code pc = .ok (.ladd, 1))  (hp : pc + 1 = pc') (r : Run p e below Q En T (mkF m pc' Ls (.long (x + y) :: rest))) : Run p e below Q En T (mkF m pc Ls (.long y :: .long x :: rest)) := by
  subst hp; exact r.on fun _ q => XS.ladd at_ hx rfl hd rfl q
theorem r_lsub (at_ : At T m c below) (hx : p.tables.exec = Jvm.exec) {x y : Int64} (hd : decode c.code pc = .ok (.lsub, 1))  (hp : pc + 1 = pc') (r : Run p e below Q En T (mkF m pc' Ls (.long (x - y) :: rest))) : Run p e below Q En T (mkF m pc Ls (.long y :: .long x :: rest)) := by
  subst hp; exact r.on fun _ q => XS.lsub at_ hx rfl hd rfl q
theorem r_lmul (at_ : At T m c below) (hx : p.tables.exec = Jvm.exec) {x y : Int64} (hd : decode c.code pc = .ok (.lmul, 1))  (hp : pc + 1 = pc') (r : Run p e below Q En T (mkF m pc' Ls (.long (x * y) :: rest))) : Run p e below Q En T (mkF m pc Ls (.long y :: .long x :: rest)) := by
  subst hp; exact r.on fun _ q => XS.lmul at_ hx rfl hd rfl q
theorem r_land (at_ : At T m c below) (hx : p.tables.exec = Jvm.exec) {x y : Int64} (hd : decode c.code pc = .ok (.land, 1))  (hp : pc + 1 = pc') (r : Run p e below Q En T (mkF m pc' Ls (.long (x &&& y) :: rest))) : Run p e below Q En T (mkF m pc Ls (.long y :: .long x :: rest)) := by
  subst hp; exact r.on fun _ q => XS.land at_ hx rfl hd rfl q
theorem r_lor (at_ : At T m c below) (hx : p.tables.exec = Jvm.exec) {x y : Int64} (hd : decode c.code pc = .ok (.lor, 1))  (hp : pc + 1 = pc') (r : Run p e below Q En T (mkF m pc' Ls (.long (x ||| y) :: rest))) : Run p e below Q En T (mkF m pc Ls (.long y :: .long x :: rest)) := by
  subst hp; exact r.on fun _ q => XS.lor at_ hx rfl hd rfl q
theorem r_lxor (at_ : At T m c below) (hx : p.tables.exec = Jvm.exec) {x y : Int64} (hd : decode c.code pc = .ok (.lxor, 1))  (hp : pc + 1 = pc') (r : Run p e below Q En T (mkF m pc' Ls (.long (x ^^^ y) :: rest))) : Run p e below Q En T (mkF m pc Ls (.long y :: .long x :: rest)) := by
  subst hp; exact r.on fun _ q => XS.lxor at_ hx rfl hd rfl q
theorem r_ineg (at_ : At T m c below) (hx : p.tables.exec = Jvm.exec) {x : Int32} (hd : decode c.code pc = .ok (.ineg, 1))  (hp : pc + 1 = pc') (r : Run p e below Q En T (mkF m pc' Ls (.int (-x) :: rest))) : Run p e below Q En T (mkF m pc Ls (.int x :: rest)) := by
  subst hp; exact r.on fun _ q => XS.ineg at_ hx rfl hd rfl q
theorem r_lneg (at_ : At T m c below) (hx : p.tables.exec = Jvm.exec) {x : Int64} (hd : decode c.code pc = .ok (.lneg, 1))  (hp : pc + 1 = pc') (r : Run p e below Q En T (mkF m pc' Ls (.long (-x) :: rest))) : Run p e below Q En T (mkF m pc Ls (.long x :: rest)) := by
  subst hp; exact r.on fun _ q => XS.lneg at_ hx rfl hd rfl q
theorem r_ishl (at_ : At T m c below) (hx : p.tables.exec = Jvm.exec) {x y : Int32} (hd : decode c.code pc = .ok (.ishl, 1))  (hp : pc + 1 = pc') (r : Run p e below Q En T (mkF m pc' Ls (.int (x <<< (y &&& 31)) :: rest))) : Run p e below Q En T (mkF m pc Ls (.int y :: .int x :: rest)) := by
  subst hp; exact r.on fun _ q => XS.ishl at_ hx rfl hd rfl q
theorem r_ishr (at_ : At T m c below) (hx : p.tables.exec = Jvm.exec) {x y : Int32} (hd : decode c.code pc = .ok (.ishr, 1))  (hp : pc + 1 = pc') (r : Run p e below Q En T (mkF m pc' Ls (.int (x >>> (y &&& 31)) :: rest))) : Run p e below Q En T (mkF m pc Ls (.int y :: .int x :: rest)) := by
  subst hp; exact r.on fun _ q => XS.ishr at_ hx rfl hd rfl q
theorem r_iushr (at_ : At T m c below) (hx : p.tables.exec = Jvm.exec) {x y : Int32} (hd : decode c.code pc = .ok (.iushr, 1))  (hp : pc + 1 = pc') (r : Run p e below Q En T (mkF m pc' Ls (.int (ushrI x y) :: rest))) : Run p e below Q En T (mkF m pc Ls (.int y :: .int x :: rest)) := by
  subst hp; exact r.on fun _ q => XS.iushr at_ hx rfl hd rfl q
theorem r_lshl (at_ : At T m c below) (hx : p.tables.exec = Jvm.exec) {x : Int64} {y : Int32} (hd : decode c.code pc = .ok (.lshl, 1))  (hp : pc + 1 = pc') (r : Run p e below Q En T (mkF m pc' Ls (.long (x <<< (y &&& 63).toInt64) :: rest))) : Run p e below Q En T (mkF m pc Ls (.int y :: .long x :: rest)) := by
  subst hp; exact r.on fun _ q => XS.lshl at_ hx rfl hd rfl q
theorem r_lshr (at_ : At T m c below) (hx : p.tables.exec = Jvm.exec) {x : Int64} {y : Int32} (hd : decode c.code pc = .ok (.lshr, 1))  (hp : pc + 1 = pc') (r : Run p e below Q En T (mkF m pc' Ls (.long (x >>> (y &&& 63).toInt64) :: rest))) : Run p e below Q En T (mkF m pc Ls (.int y :: .long x :: rest)) := by
  subst hp; exact r.on fun _ q => XS.lshr at_ hx rfl hd rfl q
theorem r_lushr (at_ : At T m c below) (hx : p.tables.exec = Jvm.exec) {x : Int64} {y : Int32} (hd : decode c.code pc = .ok (.lushr, 1))  (hp : pc + 1 = pc') (r : Run p e below Q En T (mkF m pc' Ls (.long (ushrJ x y) :: rest))) : Run p e below Q En T (mkF m pc Ls (.int y :: .long x :: rest)) := by
  subst hp; exact r.on fun _ q => XS.lushr at_ hx rfl hd rfl q
theorem r_idiv (at_ : At T m c below) (hx : p.tables.exec = Jvm.exec) {x y : Int32} (hd : decode c.code pc = .ok (.idiv, 1)) (hy : y ≠ 0) (hp : pc + 1 = pc') (r : Run p e below Q En T (mkF m pc' Ls (.int (x / y) :: rest))) : Run p e below Q En T (mkF m pc Ls (.int y :: .int x :: rest)) := by
  subst hp; exact r.on fun _ q => XS.idiv at_ hx rfl hd rfl hy q
theorem r_irem0 (at_ : At T m c below) (hx : p.tables.exec = Jvm.exec) {x y : Int32} (hd : decode c.code pc = .ok (.irem, 1)) (hy : y ≠ 0) (hp : pc + 1 = pc') (r : Run p e below Q En T (mkF m pc' Ls (.int (x - (x / y) * y) :: rest))) : Run p e below Q En T (mkF m pc Ls (.int y :: .int x :: rest)) := by
  subst hp; exact r.on fun _ q => XS.irem at_ hx rfl hd rfl hy q
theorem r_ldiv (at_ : At T m c below) (hx : p.tables.exec = Jvm.exec) {x y : Int64} (hd : decode c.code pc = .ok (.ldiv, 1)) (hy : y ≠ 0) (hp : pc + 1 = pc') (r : Run p e below Q En T (mkF m pc' Ls (.long (x / y) :: rest))) : Run p e below Q En T (mkF m pc Ls (.long y :: .long x :: rest)) := by
  subst hp; exact r.on fun _ q => XS.ldiv at_ hx rfl hd rfl hy q
theorem r_lrem0 (at_ : At T m c below) (hx : p.tables.exec = Jvm.exec) {x y : Int64} (hd : decode c.code pc = .ok (.lrem, 1)) (hy : y ≠ 0) (hp : pc + 1 = pc') (r : Run p e below Q En T (mkF m pc' Ls (.long (x - (x / y) * y) :: rest))) : Run p e below Q En T (mkF m pc Ls (.long y :: .long x :: rest)) := by
  subst hp; exact r.on fun _ q => XS.lrem at_ hx rfl hd rfl hy q
theorem r_irem (at_ : At T m c below) (hx : p.tables.exec = Jvm.exec) {x y : Int32} (hd : decode c.code pc = .ok (.irem, 1)) (hy : y ≠ 0) (hp : pc + 1 = pc') (r : Run p e below Q En T (mkF m pc' Ls (.int (x % y) :: rest))) : Run p e below Q En T (mkF m pc Ls (.int y :: .int x :: rest)) :=
  r_irem0 at_ hx hd hy hp (by rw [show x - x / y * y = x % y from irem_eq_mod x y]; exact r)
theorem r_i2l (at_ : At T m c below) (hx : p.tables.exec = Jvm.exec) {x : Int32} (hd : decode c.code pc = .ok (.i2l, 1))  (hp : pc + 1 = pc') (r : Run p e below Q En T (mkF m pc' Ls (.long (x.toInt64) :: rest))) : Run p e below Q En T (mkF m pc Ls (.int x :: rest)) := by
  subst hp; exact r.on fun _ q => XS.i2l at_ hx rfl hd rfl q
theorem r_l2i (at_ : At T m c below) (hx : p.tables.exec = Jvm.exec) {x : Int64} (hd : decode c.code pc = .ok (.l2i, 1))  (hp : pc + 1 = pc') (r : Run p e below Q En T (mkF m pc' Ls (.int (x.toInt32) :: rest))) : Run p e below Q En T (mkF m pc Ls (.long x :: rest)) := by
  subst hp; exact r.on fun _ q => XS.l2i at_ hx rfl hd rfl q
theorem r_i2b (at_ : At T m c below) (hx : p.tables.exec = Jvm.exec) {x : Int32} (hd : decode c.code pc = .ok (.i2b, 1))  (hp : pc + 1 = pc') (r : Run p e below Q En T (mkF m pc' Ls (.int (x.toInt8.toInt32) :: rest))) : Run p e below Q En T (mkF m pc Ls (.int x :: rest)) := by
  subst hp; exact r.on fun _ q => XS.i2b at_ hx rfl hd rfl q
theorem r_i2c (at_ : At T m c below) (hx : p.tables.exec = Jvm.exec) {x : Int32} (hd : decode c.code pc = .ok (.i2c, 1))  (hp : pc + 1 = pc') (r : Run p e below Q En T (mkF m pc' Ls (.int (x.toUInt32.toUInt16.toUInt32.toInt32) :: rest))) : Run p e below Q En T (mkF m pc Ls (.int x :: rest)) := by
  subst hp; exact r.on fun _ q => XS.i2c at_ hx rfl hd rfl q
theorem r_i2s (at_ : At T m c below) (hx : p.tables.exec = Jvm.exec) {x : Int32} (hd : decode c.code pc = .ok (.i2s, 1))  (hp : pc + 1 = pc') (r : Run p e below Q En T (mkF m pc' Ls (.int (x.toInt16.toInt32) :: rest))) : Run p e below Q En T (mkF m pc Ls (.int x :: rest)) := by
  subst hp; exact r.on fun _ q => XS.i2s at_ hx rfl hd rfl q
theorem r_dup (at_ : At T m c below) (hx : p.tables.exec = Jvm.exec) {x : Value} (hd : decode c.code pc = .ok (.dup, 1)) (hc : x.category = 1) (hp : pc + 1 = pc') (r : Run p e below Q En T (mkF m pc' Ls (x :: x :: rest))) : Run p e below Q En T (mkF m pc Ls (x :: rest)) := by
  subst hp; exact r.on fun _ q => XS.dup at_ hx rfl hd rfl hc q
theorem r_pop (at_ : At T m c below) (hx : p.tables.exec = Jvm.exec) {x : Value} (hd : decode c.code pc = .ok (.pop, 1)) (hc : x.category = 1) (hp : pc + 1 = pc') (r : Run p e below Q En T (mkF m pc' Ls (rest))) : Run p e below Q En T (mkF m pc Ls (x :: rest)) := by
  subst hp; exact r.on fun _ q => XS.pop at_ hx rfl hd rfl hc q
theorem r_dup_x1 (at_ : At T m c below) (hx : p.tables.exec = Jvm.exec) {x y : Value} (hd : decode c.code pc = .ok (.dup_x1, 1)) (hc : x.category = 1) (hc' : y.category = 1) (hp : pc + 1 = pc') (r : Run p e below Q En T (mkF m pc' Ls (x :: y :: x :: rest))) : Run p e below Q En T (mkF m pc Ls (x :: y :: rest)) := by
  subst hp; exact r.on fun _ q => XS.dupX1 at_ hx rfl hd rfl hc hc' q
theorem r_dup2 (at_ : At T m c below) (hx : p.tables.exec = Jvm.exec) {x y : Value} (hd : decode c.code pc = .ok (.dup2, 1)) (hc : x.category = 1) (hc' : y.category = 1) (hp : pc + 1 = pc') (r : Run p e below Q En T (mkF m pc' Ls (x :: y :: x :: y :: rest))) : Run p e below Q En T (mkF m pc Ls (x :: y :: rest)) := by
  subst hp; exact r.on fun _ q => XT.dup2 at_ hx rfl hd rfl hc hc' q
theorem r_dup2L (at_ : At T m c below) (hx : p.tables.exec = Jvm.exec) {x : Int64} (hd : decode c.code pc = .ok (.dup2, 1))  (hp : pc + 1 = pc') (r : Run p e below Q En T (mkF m pc' Ls (.long x :: .long x :: rest))) : Run p e below Q En T (mkF m pc Ls (.long x :: rest)) := by
  subst hp; exact r.on fun _ q => XT.dup2L at_ hx rfl hd rfl q
theorem r_lcmp (at_ : At T m c below) (hx : p.tables.exec = Jvm.exec) {x y : Int64} (hd : decode c.code pc = .ok (.lcmp, 1))  (hp : pc + 1 = pc') (r : Run p e below Q En T (mkF m pc' Ls (.int (cmpJ x y) :: rest))) : Run p e below Q En T (mkF m pc Ls (.long y :: .long x :: rest)) := by
  subst hp; exact r.on fun _ q => XS.lcmp at_ hx rfl hd rfl q
theorem r_iinc (at_ : At T m c below) (hx : p.tables.exec = Jvm.exec) {k : Nat} {cst : Int} {x z : Int32} {l' : Array Slot} (hd : decode c.code pc = .ok (.iinc k cst, 3)) (hl : Ls[k]? = some (.val (.int x))) (hz : x + Int32.ofInt cst = z) (hl' : storeLocals Ls k (.int z) = some l') (hp : pc + 3 = pc') (r : Run p e below Q En T (mkF m pc' l' rest)) : Run p e below Q En T (mkF m pc Ls rest) := by
  subst hp hz; exact r.on fun _ q => XS.iinc at_ hx rfl hd hl hl' q
theorem r_goto (at_ : At T m c below) (hx : p.tables.exec = Jvm.exec) {o : Int} (hd : decode c.code pc = .ok (.goto o, 3)) (ho : 0 ≤ (pc : Int) + o) (hp : ((pc : Int) + o).toNat = pc') (r : Run p e below Q En T (mkF m pc' Ls rest)) : Run p e below Q En T (mkF m pc Ls rest) :=
  r.on fun _ q => XS.goto at_ hx rfl (pc0 := pc) rfl hd ho hp q
theorem cmpJ_c (x y : Int64) : (y.toInt < x.toInt ∧ cmpJ x y = 1) ∨ (x = y ∧ cmpJ x y = 0) ∨ (x.toInt < y.toInt ∧ cmpJ x y = -1) := by
  unfold cmpJ
  by_cases h1 : x > y
  · left; rw [if_pos h1]; exact ⟨Int64.lt_iff_toInt_lt.mp h1, rfl⟩
  · rw [if_neg h1]
    by_cases h2 : x = y
    · right; left; rw [if_pos h2]; exact ⟨h2, rfl⟩
    · right; right; rw [if_neg h2]
      have h3 : ¬ y.toInt < x.toInt := fun q => h1 (Int64.lt_iff_toInt_lt.mpr q)
      have h4 : ¬ x.toInt = y.toInt := fun q => h2 (Int64.toInt_inj.mp q)
      exact ⟨by omega, rfl⟩
theorem h_eq (x y : Int32) : if_icmp.holds .eq x y = decide (x = y) := by by_cases q : x = y <;> simp [if_icmp.holds, q]
theorem h0_eq (x : Int32) : ifCond.holds .eq x = decide (x = (0 : Int32)) := h_eq x 0
theorem r_if_eq (at_ : At T m c below) (hx : p.tables.exec = Jvm.exec) {o : Int} {x y : Int32} {pc2 : Nat} (hd : decode c.code pc = .ok (.if_icmp .eq o, 3)) (ho : 0 ≤ (pc : Int) + o) (hp : ((pc : Int) + o).toNat = pc') (hp2 : pc + 3 = pc2) (r1 : x = y → Run p e below Q En T (mkF m pc' Ls rest)) (r2 : ¬ (x = y) → Run p e below Q En T (mkF m pc2 Ls rest)) : Run p e below Q En T (mkF m pc Ls (.int y :: .int x :: rest)) := by
  subst hp2
  by_cases hc : x = y
  · exact (r1 hc).on fun _ q => XS.icmpYes at_ hx rfl (pc0 := pc) rfl hd rfl (by rw [h_eq]; exact decide_eq_true hc) ho hp q
  · exact (r2 hc).on fun _ q => XS.icmpNo at_ hx rfl hd rfl (by rw [h_eq]; exact decide_eq_false hc) q
theorem r_if0_eq (at_ : At T m c below) (hx : p.tables.exec = Jvm.exec) {o : Int} {x : Int32} {pc2 : Nat} (hd : decode c.code pc = .ok (.ifCond .eq o, 3)) (ho : 0 ≤ (pc : Int) + o) (hp : ((pc : Int) + o).toNat = pc') (hp2 : pc + 3 = pc2) (r1 : x = (0 : Int32) → Run p e below Q En T (mkF m pc' Ls rest)) (r2 : ¬ (x = (0 : Int32)) → Run p e below Q En T (mkF m pc2 Ls rest)) : Run p e below Q En T (mkF m pc Ls (.int x :: rest)) := by
  subst hp2
  by_cases hc : x = (0 : Int32)
  · exact (r1 hc).on fun _ q => XS.ifYes at_ hx rfl (pc0 := pc) rfl hd rfl (by rw [h0_eq]; exact decide_eq_true hc) ho hp q
  · exact (r2 hc).on fun _ q => XS.ifNo at_ hx rfl hd rfl (by rw [h0_eq]; exact decide_eq_false hc) q
theorem hL_eq (x y : Int64) : ifCond.holds .eq (cmpJ x y) = decide (x = y) := by
  rw [h0_eq]; apply decide_eq_decide.mpr
  rcases cmpJ_c x y with ⟨q, e⟩ | ⟨q, e⟩ | ⟨q, e⟩ <;> rw [e]
  · have ne : ¬ x = y := fun z => by rw [z] at q; omega
    simp [ne]
  · subst q; simp
  · have ne : ¬ x = y := fun z => by rw [z] at q; omega
    simp [ne]
theorem r_ifL_eq (at_ : At T m c below) (hx : p.tables.exec = Jvm.exec) {o : Int} {x y : Int64} {pc2 : Nat} (hd : decode c.code pc = .ok (.ifCond .eq o, 3)) (ho : 0 ≤ (pc : Int) + o) (hp : ((pc : Int) + o).toNat = pc') (hp2 : pc + 3 = pc2) (r1 : x = y → Run p e below Q En T (mkF m pc' Ls rest)) (r2 : ¬ (x = y) → Run p e below Q En T (mkF m pc2 Ls rest)) : Run p e below Q En T (mkF m pc Ls (.int (cmpJ x y) :: rest)) := by
  subst hp2
  by_cases hc : x = y
  · exact (r1 hc).on fun _ q => XS.ifYes at_ hx rfl (pc0 := pc) rfl hd rfl (by rw [hL_eq]; exact decide_eq_true hc) ho hp q
  · exact (r2 hc).on fun _ q => XS.ifNo at_ hx rfl hd rfl (by rw [hL_eq]; exact decide_eq_false hc) q
theorem h_ne (x y : Int32) : if_icmp.holds .ne x y = decide (¬ x = y) := by by_cases q : x = y <;> simp [if_icmp.holds, q]
theorem h0_ne (x : Int32) : ifCond.holds .ne x = decide (¬ x = (0 : Int32)) := h_ne x 0
theorem r_if_ne (at_ : At T m c below) (hx : p.tables.exec = Jvm.exec) {o : Int} {x y : Int32} {pc2 : Nat} (hd : decode c.code pc = .ok (.if_icmp .ne o, 3)) (ho : 0 ≤ (pc : Int) + o) (hp : ((pc : Int) + o).toNat = pc') (hp2 : pc + 3 = pc2) (r1 : ¬ x = y → Run p e below Q En T (mkF m pc' Ls rest)) (r2 : ¬ (¬ x = y) → Run p e below Q En T (mkF m pc2 Ls rest)) : Run p e below Q En T (mkF m pc Ls (.int y :: .int x :: rest)) := by
  subst hp2
  by_cases hc : ¬ x = y
  · exact (r1 hc).on fun _ q => XS.icmpYes at_ hx rfl (pc0 := pc) rfl hd rfl (by rw [h_ne]; exact decide_eq_true hc) ho hp q
  · exact (r2 hc).on fun _ q => XS.icmpNo at_ hx rfl hd rfl (by rw [h_ne]; exact decide_eq_false hc) q
theorem r_if0_ne (at_ : At T m c below) (hx : p.tables.exec = Jvm.exec) {o : Int} {x : Int32} {pc2 : Nat} (hd : decode c.code pc = .ok (.ifCond .ne o, 3)) (ho : 0 ≤ (pc : Int) + o) (hp : ((pc : Int) + o).toNat = pc') (hp2 : pc + 3 = pc2) (r1 : ¬ x = (0 : Int32) → Run p e below Q En T (mkF m pc' Ls rest)) (r2 : ¬ (¬ x = (0 : Int32)) → Run p e below Q En T (mkF m pc2 Ls rest)) : Run p e below Q En T (mkF m pc Ls (.int x :: rest)) := by
  subst hp2
  by_cases hc : ¬ x = (0 : Int32)
  · exact (r1 hc).on fun _ q => XS.ifYes at_ hx rfl (pc0 := pc) rfl hd rfl (by rw [h0_ne]; exact decide_eq_true hc) ho hp q
  · exact (r2 hc).on fun _ q => XS.ifNo at_ hx rfl hd rfl (by rw [h0_ne]; exact decide_eq_false hc) q
theorem hL_ne (x y : Int64) : ifCond.holds .ne (cmpJ x y) = decide (¬ x = y) := by
  rw [h0_ne]; apply decide_eq_decide.mpr
  rcases cmpJ_c x y with ⟨q, e⟩ | ⟨q, e⟩ | ⟨q, e⟩ <;> rw [e]
  · have ne : ¬ x = y := fun z => by rw [z] at q; omega
    simp [ne]
  · subst q; simp
  · have ne : ¬ x = y := fun z => by rw [z] at q; omega
    simp [ne]
theorem r_ifL_ne (at_ : At T m c below) (hx : p.tables.exec = Jvm.exec) {o : Int} {x y : Int64} {pc2 : Nat} (hd : decode c.code pc = .ok (.ifCond .ne o, 3)) (ho : 0 ≤ (pc : Int) + o) (hp : ((pc : Int) + o).toNat = pc') (hp2 : pc + 3 = pc2) (r1 : ¬ x = y → Run p e below Q En T (mkF m pc' Ls rest)) (r2 : ¬ (¬ x = y) → Run p e below Q En T (mkF m pc2 Ls rest)) : Run p e below Q En T (mkF m pc Ls (.int (cmpJ x y) :: rest)) := by
  subst hp2
  by_cases hc : ¬ x = y
  · exact (r1 hc).on fun _ q => XS.ifYes at_ hx rfl (pc0 := pc) rfl hd rfl (by rw [hL_ne]; exact decide_eq_true hc) ho hp q
  · exact (r2 hc).on fun _ q => XS.ifNo at_ hx rfl hd rfl (by rw [hL_ne]; exact decide_eq_false hc) q
theorem h_lt (x y : Int32) : if_icmp.holds .lt x y = decide (x.toInt < y.toInt) := by simp [if_icmp.holds, Int32.lt_iff_toInt_lt]
theorem h0_lt (x : Int32) : ifCond.holds .lt x = decide (x.toInt < (0 : Int32).toInt) := h_lt x 0
theorem r_if_lt (at_ : At T m c below) (hx : p.tables.exec = Jvm.exec) {o : Int} {x y : Int32} {pc2 : Nat} (hd : decode c.code pc = .ok (.if_icmp .lt o, 3)) (ho : 0 ≤ (pc : Int) + o) (hp : ((pc : Int) + o).toNat = pc') (hp2 : pc + 3 = pc2) (r1 : x.toInt < y.toInt → Run p e below Q En T (mkF m pc' Ls rest)) (r2 : ¬ (x.toInt < y.toInt) → Run p e below Q En T (mkF m pc2 Ls rest)) : Run p e below Q En T (mkF m pc Ls (.int y :: .int x :: rest)) := by
  subst hp2
  by_cases hc : x.toInt < y.toInt
  · exact (r1 hc).on fun _ q => XS.icmpYes at_ hx rfl (pc0 := pc) rfl hd rfl (by rw [h_lt]; exact decide_eq_true hc) ho hp q
  · exact (r2 hc).on fun _ q => XS.icmpNo at_ hx rfl hd rfl (by rw [h_lt]; exact decide_eq_false hc) q
theorem r_if0_lt (at_ : At T m c below) (hx : p.tables.exec = Jvm.exec) {o : Int} {x : Int32} {pc2 : Nat} (hd : decode c.code pc = .ok (.ifCond .lt o, 3)) (ho : 0 ≤ (pc : Int) + o) (hp : ((pc : Int) + o).toNat = pc') (hp2 : pc + 3 = pc2) (r1 : x.toInt < 0 → Run p e below Q En T (mkF m pc' Ls rest)) (r2 : ¬ (x.toInt < 0) → Run p e below Q En T (mkF m pc2 Ls rest)) : Run p e below Q En T (mkF m pc Ls (.int x :: rest)) := by
  subst hp2
  by_cases hc : x.toInt < 0
  · exact (r1 hc).on fun _ q => XS.ifYes at_ hx rfl (pc0 := pc) rfl hd rfl (by rw [h0_lt]; exact decide_eq_true (by rw [show (0 : Int32).toInt = 0 from rfl]; exact hc)) ho hp q
  · exact (r2 hc).on fun _ q => XS.ifNo at_ hx rfl hd rfl (by rw [h0_lt]; exact decide_eq_false (by rw [show (0 : Int32).toInt = 0 from rfl]; exact hc)) q
theorem hL_lt (x y : Int64) : ifCond.holds .lt (cmpJ x y) = decide (x.toInt < y.toInt) := by
  rw [h0_lt]; apply decide_eq_decide.mpr
  rcases cmpJ_c x y with ⟨q, e⟩ | ⟨q, e⟩ | ⟨q, e⟩ <;> rw [e]
  · have ne : ¬ x = y := fun z => by rw [z] at q; omega
    show ((1 : Int) < 0) ↔ _; omega
  · subst q; show ((0 : Int) < 0) ↔ _; omega
  · have ne : ¬ x = y := fun z => by rw [z] at q; omega
    show ((-1 : Int) < 0) ↔ _; omega
theorem r_ifL_lt (at_ : At T m c below) (hx : p.tables.exec = Jvm.exec) {o : Int} {x y : Int64} {pc2 : Nat} (hd : decode c.code pc = .ok (.ifCond .lt o, 3)) (ho : 0 ≤ (pc : Int) + o) (hp : ((pc : Int) + o).toNat = pc') (hp2 : pc + 3 = pc2) (r1 : x.toInt < y.toInt → Run p e below Q En T (mkF m pc' Ls rest)) (r2 : ¬ (x.toInt < y.toInt) → Run p e below Q En T (mkF m pc2 Ls rest)) : Run p e below Q En T (mkF m pc Ls (.int (cmpJ x y) :: rest)) := by
  subst hp2
  by_cases hc : x.toInt < y.toInt
  · exact (r1 hc).on fun _ q => XS.ifYes at_ hx rfl (pc0 := pc) rfl hd rfl (by rw [hL_lt]; exact decide_eq_true hc) ho hp q
  · exact (r2 hc).on fun _ q => XS.ifNo at_ hx rfl hd rfl (by rw [hL_lt]; exact decide_eq_false hc) q
theorem h_ge (x y : Int32) : if_icmp.holds .ge x y = decide (y.toInt ≤ x.toInt) := by simp [if_icmp.holds, Int32.le_iff_toInt_le]
theorem h0_ge (x : Int32) : ifCond.holds .ge x = decide ((0 : Int32).toInt ≤ x.toInt) := h_ge x 0
theorem r_if_ge (at_ : At T m c below) (hx : p.tables.exec = Jvm.exec) {o : Int} {x y : Int32} {pc2 : Nat} (hd : decode c.code pc = .ok (.if_icmp .ge o, 3)) (ho : 0 ≤ (pc : Int) + o) (hp : ((pc : Int) + o).toNat = pc') (hp2 : pc + 3 = pc2) (r1 : y.toInt ≤ x.toInt → Run p e below Q En T (mkF m pc' Ls rest)) (r2 : ¬ (y.toInt ≤ x.toInt) → Run p e below Q En T (mkF m pc2 Ls rest)) : Run p e below Q En T (mkF m pc Ls (.int y :: .int x :: rest)) := by
  subst hp2
  by_cases hc : y.toInt ≤ x.toInt
  · exact (r1 hc).on fun _ q => XS.icmpYes at_ hx rfl (pc0 := pc) rfl hd rfl (by rw [h_ge]; exact decide_eq_true hc) ho hp q
  · exact (r2 hc).on fun _ q => XS.icmpNo at_ hx rfl hd rfl (by rw [h_ge]; exact decide_eq_false hc) q
theorem r_if0_ge (at_ : At T m c below) (hx : p.tables.exec = Jvm.exec) {o : Int} {x : Int32} {pc2 : Nat} (hd : decode c.code pc = .ok (.ifCond .ge o, 3)) (ho : 0 ≤ (pc : Int) + o) (hp : ((pc : Int) + o).toNat = pc') (hp2 : pc + 3 = pc2) (r1 : 0 ≤ x.toInt → Run p e below Q En T (mkF m pc' Ls rest)) (r2 : ¬ (0 ≤ x.toInt) → Run p e below Q En T (mkF m pc2 Ls rest)) : Run p e below Q En T (mkF m pc Ls (.int x :: rest)) := by
  subst hp2
  by_cases hc : 0 ≤ x.toInt
  · exact (r1 hc).on fun _ q => XS.ifYes at_ hx rfl (pc0 := pc) rfl hd rfl (by rw [h0_ge]; exact decide_eq_true (by rw [show (0 : Int32).toInt = 0 from rfl]; exact hc)) ho hp q
  · exact (r2 hc).on fun _ q => XS.ifNo at_ hx rfl hd rfl (by rw [h0_ge]; exact decide_eq_false (by rw [show (0 : Int32).toInt = 0 from rfl]; exact hc)) q
theorem hL_ge (x y : Int64) : ifCond.holds .ge (cmpJ x y) = decide (y.toInt ≤ x.toInt) := by
  rw [h0_ge]; apply decide_eq_decide.mpr
  rcases cmpJ_c x y with ⟨q, e⟩ | ⟨q, e⟩ | ⟨q, e⟩ <;> rw [e]
  · have ne : ¬ x = y := fun z => by rw [z] at q; omega
    show ((0 : Int) ≤ 1) ↔ _; omega
  · subst q; show ((0 : Int) ≤ 0) ↔ _; omega
  · have ne : ¬ x = y := fun z => by rw [z] at q; omega
    show ((0 : Int) ≤ -1) ↔ _; omega
theorem r_ifL_ge (at_ : At T m c below) (hx : p.tables.exec = Jvm.exec) {o : Int} {x y : Int64} {pc2 : Nat} (hd : decode c.code pc = .ok (.ifCond .ge o, 3)) (ho : 0 ≤ (pc : Int) + o) (hp : ((pc : Int) + o).toNat = pc') (hp2 : pc + 3 = pc2) (r1 : y.toInt ≤ x.toInt → Run p e below Q En T (mkF m pc' Ls rest)) (r2 : ¬ (y.toInt ≤ x.toInt) → Run p e below Q En T (mkF m pc2 Ls rest)) : Run p e below Q En T (mkF m pc Ls (.int (cmpJ x y) :: rest)) := by
  subst hp2
  by_cases hc : y.toInt ≤ x.toInt
  · exact (r1 hc).on fun _ q => XS.ifYes at_ hx rfl (pc0 := pc) rfl hd rfl (by rw [hL_ge]; exact decide_eq_true hc) ho hp q
  · exact (r2 hc).on fun _ q => XS.ifNo at_ hx rfl hd rfl (by rw [hL_ge]; exact decide_eq_false hc) q
theorem h_gt (x y : Int32) : if_icmp.holds .gt x y = decide (y.toInt < x.toInt) := by simp [if_icmp.holds, Int32.lt_iff_toInt_lt]
theorem h0_gt (x : Int32) : ifCond.holds .gt x = decide ((0 : Int32).toInt < x.toInt) := h_gt x 0
theorem r_if_gt (at_ : At T m c below) (hx : p.tables.exec = Jvm.exec) {o : Int} {x y : Int32} {pc2 : Nat} (hd : decode c.code pc = .ok (.if_icmp .gt o, 3)) (ho : 0 ≤ (pc : Int) + o) (hp : ((pc : Int) + o).toNat = pc') (hp2 : pc + 3 = pc2) (r1 : y.toInt < x.toInt → Run p e below Q En T (mkF m pc' Ls rest)) (r2 : ¬ (y.toInt < x.toInt) → Run p e below Q En T (mkF m pc2 Ls rest)) : Run p e below Q En T (mkF m pc Ls (.int y :: .int x :: rest)) := by
  subst hp2
  by_cases hc : y.toInt < x.toInt
  · exact (r1 hc).on fun _ q => XS.icmpYes at_ hx rfl (pc0 := pc) rfl hd rfl (by rw [h_gt]; exact decide_eq_true hc) ho hp q
  · exact (r2 hc).on fun _ q => XS.icmpNo at_ hx rfl hd rfl (by rw [h_gt]; exact decide_eq_false hc) q
theorem r_if0_gt (at_ : At T m c below) (hx : p.tables.exec = Jvm.exec) {o : Int} {x : Int32} {pc2 : Nat} (hd : decode c.code pc = .ok (.ifCond .gt o, 3)) (ho : 0 ≤ (pc : Int) + o) (hp : ((pc : Int) + o).toNat = pc') (hp2 : pc + 3 = pc2) (r1 : 0 < x.toInt → Run p e below Q En T (mkF m pc' Ls rest)) (r2 : ¬ (0 < x.toInt) → Run p e below Q En T (mkF m pc2 Ls rest)) : Run p e below Q En T (mkF m pc Ls (.int x :: rest)) := by
  subst hp2
  by_cases hc : 0 < x.toInt
  · exact (r1 hc).on fun _ q => XS.ifYes at_ hx rfl (pc0 := pc) rfl hd rfl (by rw [h0_gt]; exact decide_eq_true (by rw [show (0 : Int32).toInt = 0 from rfl]; exact hc)) ho hp q
  · exact (r2 hc).on fun _ q => XS.ifNo at_ hx rfl hd rfl (by rw [h0_gt]; exact decide_eq_false (by rw [show (0 : Int32).toInt = 0 from rfl]; exact hc)) q
theorem hL_gt (x y : Int64) : ifCond.holds .gt (cmpJ x y) = decide (y.toInt < x.toInt) := by
  rw [h0_gt]; apply decide_eq_decide.mpr
  rcases cmpJ_c x y with ⟨q, e⟩ | ⟨q, e⟩ | ⟨q, e⟩ <;> rw [e]
  · have ne : ¬ x = y := fun z => by rw [z] at q; omega
    show ((0 : Int) < 1) ↔ _; omega
  · subst q; show ((0 : Int) < 0) ↔ _; omega
  · have ne : ¬ x = y := fun z => by rw [z] at q; omega
    show ((0 : Int) < -1) ↔ _; omega
theorem r_ifL_gt (at_ : At T m c below) (hx : p.tables.exec = Jvm.exec) {o : Int} {x y : Int64} {pc2 : Nat} (hd : decode c.code pc = .ok (.ifCond .gt o, 3)) (ho : 0 ≤ (pc : Int) + o) (hp : ((pc : Int) + o).toNat = pc') (hp2 : pc + 3 = pc2) (r1 : y.toInt < x.toInt → Run p e below Q En T (mkF m pc' Ls rest)) (r2 : ¬ (y.toInt < x.toInt) → Run p e below Q En T (mkF m pc2 Ls rest)) : Run p e below Q En T (mkF m pc Ls (.int (cmpJ x y) :: rest)) := by
  subst hp2
  by_cases hc : y.toInt < x.toInt
  · exact (r1 hc).on fun _ q => XS.ifYes at_ hx rfl (pc0 := pc) rfl hd rfl (by rw [hL_gt]; exact decide_eq_true hc) ho hp q
  · exact (r2 hc).on fun _ q => XS.ifNo at_ hx rfl hd rfl (by rw [hL_gt]; exact decide_eq_false hc) q
theorem h_le (x y : Int32) : if_icmp.holds .le x y = decide (x.toInt ≤ y.toInt) := by simp [if_icmp.holds, Int32.le_iff_toInt_le]
theorem h0_le (x : Int32) : ifCond.holds .le x = decide (x.toInt ≤ (0 : Int32).toInt) := h_le x 0
theorem r_if_le (at_ : At T m c below) (hx : p.tables.exec = Jvm.exec) {o : Int} {x y : Int32} {pc2 : Nat} (hd : decode c.code pc = .ok (.if_icmp .le o, 3)) (ho : 0 ≤ (pc : Int) + o) (hp : ((pc : Int) + o).toNat = pc') (hp2 : pc + 3 = pc2) (r1 : x.toInt ≤ y.toInt → Run p e below Q En T (mkF m pc' Ls rest)) (r2 : ¬ (x.toInt ≤ y.toInt) → Run p e below Q En T (mkF m pc2 Ls rest)) : Run p e below Q En T (mkF m pc Ls (.int y :: .int x :: rest)) := by
  subst hp2
  by_cases hc : x.toInt ≤ y.toInt
  · exact (r1 hc).on fun _ q => XS.icmpYes at_ hx rfl (pc0 := pc) rfl hd rfl (by rw [h_le]; exact decide_eq_true hc) ho hp q
  · exact (r2 hc).on fun _ q => XS.icmpNo at_ hx rfl hd rfl (by rw [h_le]; exact decide_eq_false hc) q
theorem r_if0_le (at_ : At T m c below) (hx : p.tables.exec = Jvm.exec) {o : Int} {x : Int32} {pc2 : Nat} (hd : decode c.code pc = .ok (.ifCond .le o, 3)) (ho : 0 ≤ (pc : Int) + o) (hp : ((pc : Int) + o).toNat = pc') (hp2 : pc + 3 = pc2) (r1 : x.toInt ≤ 0 → Run p e below Q En T (mkF m pc' Ls rest)) (r2 : ¬ (x.toInt ≤ 0) → Run p e below Q En T (mkF m pc2 Ls rest)) : Run p e below Q En T (mkF m pc Ls (.int x :: rest)) := by
  subst hp2
  by_cases hc : x.toInt ≤ 0
  · exact (r1 hc).on fun _ q => XS.ifYes at_ hx rfl (pc0 := pc) rfl hd rfl (by rw [h0_le]; exact decide_eq_true (by rw [show (0 : Int32).toInt = 0 from rfl]; exact hc)) ho hp q
  · exact (r2 hc).on fun _ q => XS.ifNo at_ hx rfl hd rfl (by rw [h0_le]; exact decide_eq_false (by rw [show (0 : Int32).toInt = 0 from rfl]; exact hc)) q
theorem hL_le (x y : Int64) : ifCond.holds .le (cmpJ x y) = decide (x.toInt ≤ y.toInt) := by
  rw [h0_le]; apply decide_eq_decide.mpr
  rcases cmpJ_c x y with ⟨q, e⟩ | ⟨q, e⟩ | ⟨q, e⟩ <;> rw [e]
  · have ne : ¬ x = y := fun z => by rw [z] at q; omega
    show ((1 : Int) ≤ 0) ↔ _; omega
  · subst q; show ((0 : Int) ≤ 0) ↔ _; omega
  · have ne : ¬ x = y := fun z => by rw [z] at q; omega
    show ((-1 : Int) ≤ 0) ↔ _; omega
theorem r_ifL_le (at_ : At T m c below) (hx : p.tables.exec = Jvm.exec) {o : Int} {x y : Int64} {pc2 : Nat} (hd : decode c.code pc = .ok (.ifCond .le o, 3)) (ho : 0 ≤ (pc : Int) + o) (hp : ((pc : Int) + o).toNat = pc') (hp2 : pc + 3 = pc2) (r1 : x.toInt ≤ y.toInt → Run p e below Q En T (mkF m pc' Ls rest)) (r2 : ¬ (x.toInt ≤ y.toInt) → Run p e below Q En T (mkF m pc2 Ls rest)) : Run p e below Q En T (mkF m pc Ls (.int (cmpJ x y) :: rest)) := by
  subst hp2
  by_cases hc : x.toInt ≤ y.toInt
  · exact (r1 hc).on fun _ q => XS.ifYes at_ hx rfl (pc0 := pc) rfl hd rfl (by rw [hL_le]; exact decide_eq_true hc) ho hp q
  · exact (r2 hc).on fun _ q => XS.ifNo at_ hx rfl hd rfl (by rw [hL_le]; exact decide_eq_false hc) q
theorem r_ifnullY (at_ : At T m c below) (hx : p.tables.exec = Jvm.exec) {o : Int} (hd : decode c.code pc = .ok (.ifnull o, 3)) (ho : 0 ≤ (pc : Int) + o) (hp : ((pc : Int) + o).toNat = pc') (r : Run p e below Q En T (mkF m pc' Ls rest)) : Run p e below Q En T (mkF m pc Ls (.null :: rest)) :=
  r.on fun _ q => XS.ifnullYes at_ hx rfl (pc0 := pc) rfl hd rfl ho hp q
theorem r_ifnullN (at_ : At T m c below) (hx : p.tables.exec = Jvm.exec) {o : Int} {b : Addr} (hd : decode c.code pc = .ok (.ifnull o, 3)) (hp : pc + 3 = pc') (r : Run p e below Q En T (mkF m pc' Ls rest)) : Run p e below Q En T (mkF m pc Ls (.ref b :: rest)) := by
  subst hp; exact r.on fun _ q => XS.ifnullNo at_ hx rfl hd rfl q
theorem r_ifnonnullY (at_ : At T m c below) (hx : p.tables.exec = Jvm.exec) {o : Int} {b : Addr} (hd : decode c.code pc = .ok (.ifnonnull o, 3)) (ho : 0 ≤ (pc : Int) + o) (hp : ((pc : Int) + o).toNat = pc') (r : Run p e below Q En T (mkF m pc' Ls rest)) : Run p e below Q En T (mkF m pc Ls (.ref b :: rest)) :=
  r.on fun _ q => XS.ifnonnullYes at_ hx rfl (pc0 := pc) rfl hd rfl ho hp q
theorem r_ifnonnullN (at_ : At T m c below) (hx : p.tables.exec = Jvm.exec) {o : Int} (hd : decode c.code pc = .ok (.ifnonnull o, 3)) (hp : pc + 3 = pc') (r : Run p e below Q En T (mkF m pc' Ls rest)) : Run p e below Q En T (mkF m pc Ls (.null :: rest)) := by
  subst hp; exact r.on fun _ q => XS.ifnonnullNo at_ hx rfl hd rfl q
theorem r_acmp_eq (at_ : At T m c below) (hx : p.tables.exec = Jvm.exec) {o : Int} {x y : Value} {pc2 : Nat} (hd : decode c.code pc = .ok (.if_acmp .eq o, 3)) (h1 : x.isRef = true) (h2 : y.isRef = true) (ho : 0 ≤ (pc : Int) + o) (hp : ((pc : Int) + o).toNat = pc') (hp2 : pc + 3 = pc2) (r1 : x = y → Run p e below Q En T (mkF m pc' Ls rest)) (r2 : ¬ x = y → Run p e below Q En T (mkF m pc2 Ls rest)) : Run p e below Q En T (mkF m pc Ls (y :: x :: rest)) := by
  subst hp2
  by_cases hc : x = y
  · exact (r1 hc).on fun _ q => XT.acmpYes at_ hx rfl (pc0 := pc) rfl hd rfl h1 h2 (by simp [XT.acmp, hc]) ho hp q
  · exact (r2 hc).on fun _ q => XT.acmpNo at_ hx rfl hd rfl h1 h2 (by simp [XT.acmp, hc]) q
theorem r_acmp_ne (at_ : At T m c below) (hx : p.tables.exec = Jvm.exec) {o : Int} {x y : Value} {pc2 : Nat} (hd : decode c.code pc = .ok (.if_acmp .ne o, 3)) (h1 : x.isRef = true) (h2 : y.isRef = true) (ho : 0 ≤ (pc : Int) + o) (hp : ((pc : Int) + o).toNat = pc') (hp2 : pc + 3 = pc2) (r1 : ¬ x = y → Run p e below Q En T (mkF m pc' Ls rest)) (r2 : x = y → Run p e below Q En T (mkF m pc2 Ls rest)) : Run p e below Q En T (mkF m pc Ls (y :: x :: rest)) := by
  subst hp2
  by_cases hc : x = y
  · exact (r2 hc).on fun _ q => XT.acmpNo at_ hx rfl hd rfl h1 h2 (by simp [XT.acmp, hc]) q
  · exact (r1 hc).on fun _ q => XT.acmpYes at_ hx rfl (pc0 := pc) rfl hd rfl h1 h2 (by simp [XT.acmp, hc]) ho hp q
theorem r_retN (X : Stand p l e R s m args below meth c T locs cells slots) (hx : p.tables.exec = Jvm.exec) (hlk : meth.locks = false) {t : FieldType} {z w : Int32} (hret : meth.sig.returnType = some t) (ht : t = .boolean ∨ t = .byte ∨ t = .char ∨ t = .short) (hd : decode c.code pc = .ok (.ireturn, 1)) (hn : nar t z = w) (hq : Q (some (.int w)) T.heap locs) (h1 : cells ≤ kc) (h2 : slots ≤ ks) : Run p e below Q (fun o t L => FrameEnd s o t L kc ks) T (mkF m pc Ls (.int z :: rest)) := by
  subst hn
  obtain ⟨fs, hr, hrun, hended, hW, hsame⟩ := X.leave (v := some (.int (nar t z))) (fun q => by rw [hret] at q; cases q) hlk
  exact ⟨_, _, retN X hx hret ht hd hr, hrun, hended, _, _, rfl, hq, ⟨_, rfl⟩, hW, hsame.mono h1 h2⟩
theorem r_retV (X : Stand p l e R s m args below meth c T locs cells slots) (hx : p.tables.exec = Jvm.exec) (hlk : meth.locks = false) {t : FieldType} {w : Value} {i : Instr} (hret : meth.sig.returnType = some t) (hn : narrow t w = w)
    (hi : (i = .ireturn ∧ (t = .int ∨ t = .boolean ∨ t = .byte ∨ t = .char ∨ t = .short) ∧ ∃ z, w = .int z) ∨ (i = .lreturn ∧ t = .long ∧ ∃ z, w = .long z) ∨ (i = .dreturn ∧ t = .double ∧ ∃ z, w = .double z) ∨ (i = .freturn ∧ t = .float ∧ ∃ z, w = .float z) ∨ (i = .areturn ∧ t.isReference = true ∧ w.isRef = true))
    (hd : decode c.code pc = .ok (i, 1)) (hq : Q (some w) T.heap locs) (h1 : cells ≤ kc) (h2 : slots ≤ ks) : Run p e below Q (fun o t L => FrameEnd s o t L kc ks) T (mkF m pc Ls (w :: rest)) := by
  obtain ⟨fs, hr, hrun, hended, hW, hsame⟩ := X.leave (v := some w) (fun q => by rw [hret] at q; cases q) hlk
  exact ⟨_, _, retOut X hx hret hn hi hd hr, hrun, hended, _, _, rfl, hq, ⟨_, rfl⟩, hW, hsame.mono h1 h2⟩
theorem r_retI (X : Stand p l e R s m args below meth c T locs cells slots) (hx : p.tables.exec = Jvm.exec) (hlk : meth.locks = false) {w : Int32} (hret : meth.sig.returnType = some .int) (hd : decode c.code pc = .ok (.ireturn, 1)) (hq : Q (some (.int w)) T.heap locs) (h1 : cells ≤ kc) (h2 : slots ≤ ks) : Run p e below Q (fun o t L => FrameEnd s o t L kc ks) T (mkF m pc Ls (.int w :: rest)) :=
  r_retV X hx hlk hret rfl (Or.inl ⟨rfl, Or.inl rfl, _, rfl⟩) hd hq h1 h2
theorem r_retJ (X : Stand p l e R s m args below meth c T locs cells slots) (hx : p.tables.exec = Jvm.exec) (hlk : meth.locks = false) {w : Int64} (hret : meth.sig.returnType = some .long) (hd : decode c.code pc = .ok (.lreturn, 1)) (hq : Q (some (.long w)) T.heap locs) (h1 : cells ≤ kc) (h2 : slots ≤ ks) : Run p e below Q (fun o t L => FrameEnd s o t L kc ks) T (mkF m pc Ls (.long w :: rest)) :=
  r_retV X hx hlk hret rfl (Or.inr (Or.inl ⟨rfl, rfl, _, rfl⟩)) hd hq h1 h2
theorem r_retD (X : Stand p l e R s m args below meth c T locs cells slots) (hx : p.tables.exec = Jvm.exec) (hlk : meth.locks = false) {w : UInt64} (hret : meth.sig.returnType = some .double) (hd : decode c.code pc = .ok (.dreturn, 1)) (hq : Q (some (.double w)) T.heap locs) (h1 : cells ≤ kc) (h2 : slots ≤ ks) : Run p e below Q (fun o t L => FrameEnd s o t L kc ks) T (mkF m pc Ls (.double w :: rest)) :=
  r_retV X hx hlk hret rfl (Or.inr (Or.inr (Or.inl ⟨rfl, rfl, _, rfl⟩))) hd hq h1 h2
theorem r_retA (X : Stand p l e R s m args below meth c T locs cells slots) (hx : p.tables.exec = Jvm.exec) (hlk : meth.locks = false) {t : FieldType} {w : Value} (hret : meth.sig.returnType = some t) (ht : t.isReference = true) (hw : w.isRef = true) (hd : decode c.code pc = .ok (.areturn, 1)) (hq : Q (some w) T.heap locs) (h1 : cells ≤ kc) (h2 : slots ≤ ks) : Run p e below Q (fun o t L => FrameEnd s o t L kc ks) T (mkF m pc Ls (w :: rest)) :=
  r_retV X hx hlk hret (by rcases ref_cases hw with rfl | ⟨a, rfl⟩ <;> cases t <;> first | rfl | cases ht) (Or.inr (Or.inr (Or.inr (Or.inr ⟨rfl, ht, hw⟩)))) hd hq h1 h2
theorem r_ret0 (X : Stand p l e R s m args below meth c T locs cells slots) (hx : p.tables.exec = Jvm.exec) (hlk : meth.locks = false) (hret : meth.sig.returnType = none) (hd : decode c.code pc = .ok (.return_, 1)) (hq : Q none T.heap locs) (h1 : cells ≤ kc) (h2 : slots ≤ ks) : Run p e below Q (fun o t L => FrameEnd s o t L kc ks) T (mkF m pc Ls []) := by
  obtain ⟨fs, hr, hrun, hended, hW, hsame⟩ := X.leave (v := none) (fun _ => rfl) hlk
  exact ⟨_, _, X.returnOut hx hret hd hr, hrun, hended, _, _, rfl, hq, ⟨_, rfl⟩, hW, hsame.mono h1 h2⟩
theorem r_ldc (X : Stand p l e R s m args below meth c T locs cells slots) (hx : p.tables.exec = Jvm.exec) (hZ : Z.Warmed39 s.vm) {own : String} {index : Nat} {v : Int32} (hown : s.vm.findClass own = some m.cls) (w : (Jvm.Cond.constant own index v).before a0 Z = true) (hd : decode c.code pc = .ok (.ldc index, 2)) (hp : pc + 2 = pc') (r : Run p e below Q En T (mkF m pc' Ls (.int v :: rest))) : Run p e below Q En T (mkF m pc Ls rest) := by
  subst hp; exact r.on fun _ q => X.ldcInt hx hown (mvT hZ w) (g := mkF m pc Ls rest) rfl hd _ q
theorem r_ldc2 (X : Stand p l e R s m args below meth c T locs cells slots) (hx : p.tables.exec = Jvm.exec) (hZ : Z.Warmed39 s.vm) {own : String} {index : Nat} {v : Int64} (hown : s.vm.findClass own = some m.cls) (w : (Jvm.Cond.constantLong own index v).before a0 Z = true) (hd : decode c.code pc = .ok (.ldc2_w index, 3)) (hp : pc + 3 = pc') (r : Run p e below Q En T (mkF m pc' Ls (.long v :: rest))) : Run p e below Q En T (mkF m pc Ls rest) := by
  subst hp; exact r.on fun _ q => X.ldc2Long hx hown (mvT hZ w) (g := mkF m pc Ls rest) rfl hd _ q
theorem r_callS (X : Stand p l e R s m args below meth c T locs cells slots) (hx : p.tables.exec = Jvm.exec) (hZ : Z.Warmed39 s.vm) {own : String} {index : Nat} {y : MethodName} {bytes : ByteArray} {maxL : Nat} {ret : Option FieldType} {rm : Room} {as' : Array Value} {Qc : Option Value → Heap → List Loc → Prop} {argsL : List Value} {W : Nat}
    (hown : s.vm.findClass own = some m.cls) (w1 : (Jvm.Cond.methodLink own index y).before a0 Z = true) (w2 : (Jvm.Cond.static y).before a0 Z = true) (w3 : (Jvm.Cond.initialized y.cls).before a0 Z = true) (w4 : (Jvm.Cond.code y bytes maxL ret).before a0 Z = true) (hy : y.cls ≠ "java/lang/invoke/MethodHandle" ∧ y.cls ≠ "java/lang/invoke/VarHandle")
    (hM : Met l Z y bytes maxL ret [] rm as' h Qc rm.cells rm.slots) (eT : T.heap = h) (hsz : Ls.size = c.maxLocals) (hlen : ∀ sig, parseMethodDescriptor y.desc = some sig → argsL.length = sig.parameters.length) (hst : st = argsL.reverse ++ rest) (has : argsL.toArray = as') (hW : (rest.map fun v => v.category).sum = W)
    (hf : rm.frames + 1 ≤ R.frames) (hl : W + (maxL + 11) + rm.locals ≤ R.locals) (hcl : cells + rm.cells ≤ R.cells) (hsl : slots + rm.slots ≤ R.slots) (hd : decode c.code pc = .ok (.invokestatic index, 3)) (hp : pc + 3 = pc')
    (r : ∀ (v : Option Value) (T' : State) (L : List Loc), Stand p l e R s m args below meth c T' (locs ++ L) (cells + rm.cells) (slots + rm.slots) → Qc v T'.heap L → Run p e below Q En T' (mkF m pc' Ls (v.toList ++ rest))) : Run p e below Q En T (mkF m pc Ls st) := by
  subst hp
  obtain ⟨v, _, ⟨T', L', k', n'⟩, -, X', ⟨L, hQ, l1, y1, z1⟩, stp⟩ := Jvm.LawKit.callS X hx (y := y) hown (mvT hZ w1) (mvT hZ w2) (mvT hZ w3) (mvT hZ w4) hy (backOf (W := W) hM hZ w4 w3 hf hl) (g := mkF m pc Ls st) rfl hsz (argsL := argsL) (rest := rest) hlen hst (by show 2 * 0 + _ ≤ _; omega) hd (fun _ _ => ⟨has, eT, hcl, hsl⟩)
  dsimp only at X' l1 y1 z1 stp hQ
  subst l1 y1 z1
  exact (r v T' L X' hQ).on stp
theorem r_callI (X : Stand p l e R s m args below meth c T locs cells slots) (hx : p.tables.exec = Jvm.exec) (hZ : Z.Warmed39 s.vm) {own : String} {index : Nat} {y : MethodName} {bytes : ByteArray} {maxL : Nat} {rm : Room} {as' : Array Value} {Qc : Option Value → Heap → List Loc → Prop} {argsL : List Value} {W : Nat} {a : Addr}
    (hown : s.vm.findClass own = some m.cls) (hy1 : y.name = "<init>") (w1 : (Jvm.Cond.methodLink own index y).before a0 Z = true) (w2 : (Jvm.Cond.instanceMethod y).before a0 Z = true) (w3 : (Jvm.Cond.initialized y.cls).before a0 Z = true) (w4 : (Jvm.Cond.code y bytes maxL none).before a0 Z = true) (hy : y.cls ≠ "java/lang/invoke/MethodHandle" ∧ y.cls ≠ "java/lang/invoke/VarHandle")
    (hM : Met l Z y bytes maxL none [] rm as' h Qc rm.cells rm.slots) (eT : T.heap = h) (hsz : Ls.size = c.maxLocals) (hlen : ∀ sig, parseMethodDescriptor y.desc = some sig → argsL.length = sig.parameters.length) (hst : st = argsL.reverse ++ .ref a :: rest) (has : (.ref a :: argsL).toArray = as') (hW : (rest.map fun v => v.category).sum = W)
    (hf : rm.frames + 1 ≤ R.frames) (hl : W + (maxL + 11) + rm.locals ≤ R.locals) (hcl : cells + rm.cells ≤ R.cells) (hsl : slots + rm.slots ≤ R.slots) (hd : decode c.code pc = .ok (.invokespecial index, 3)) (hp : pc + 3 = pc')
    (r : ∀ (v : Option Value) (T' : State) (L : List Loc), Stand p l e R s m args below meth c T' (locs ++ L) (cells + rm.cells) (slots + rm.slots) → Qc v T'.heap L → Run p e below Q En T' (mkF m pc' Ls (v.toList ++ rest))) : Run p e below Q En T (mkF m pc Ls st) := by
  subst hp
  obtain ⟨v, _, ⟨T', L', k', n'⟩, -, X', ⟨L, hQ, l1, y1, z1⟩, stp⟩ := X.specialBack hx (y := y) hy1 hown (mvT hZ w1) (mvT hZ w2) (mvT hZ w4) hy (backOf (W := W) hM hZ w4 w3 hf hl) (g := mkF m pc Ls st) rfl hsz (Steps.refl _) (a := a) (argsL := argsL) (rest := rest) hlen hst (by show 2 * 0 + _ ≤ _; omega) hd (fun _ _ => ⟨has, eT, hcl, hsl⟩)
  dsimp only at X' l1 y1 z1 stp hQ
  subst l1 y1 z1
  exact (r v T' L X' hQ).on fun _ q => stp.trans q
theorem r_callV (X : Stand p l e R s m args below meth c T locs cells slots) (hx : p.tables.exec = Jvm.exec) (hZ : Z.Warmed39 s.vm) {own C : String} {index : Nat} {y z : MethodName} {bytes : ByteArray} {maxL : Nat} {ret : Option FieldType} {rm : Room} {as' : Array Value} {Qc : Option Value → Heap → List Loc → Prop} {argsL : List Value} {W : Nat} {a : Addr}
    (hown : s.vm.findClass own = some m.cls) (w1 : (Jvm.Cond.methodLink own index y).before a0 Z = true) (w2 : (Jvm.Cond.declares y).before a0 Z = true) (nf : NotFace s y) (w5 : (Jvm.Cond.selects C y z).before a0 Z = true) (w6 : (Jvm.Cond.instanceMethod z).before a0 Z = true) (w3 : (Jvm.Cond.initialized z.cls).before a0 Z = true) (w4 : (Jvm.Cond.code z bytes maxL ret).before a0 Z = true) (hy : y.cls ≠ "java/lang/invoke/MethodHandle" ∧ y.cls ≠ "java/lang/invoke/VarHandle")
    (hM : Met l Z z bytes maxL ret [] rm as' h Qc rm.cells rm.slots) (eT : T.heap = h) (E : Exa Z h a C) (hsz : Ls.size = c.maxLocals) (hlen : ∀ sig, parseMethodDescriptor y.desc = some sig → argsL.length = sig.parameters.length) (hst : st = argsL.reverse ++ .ref a :: rest) (has : (.ref a :: argsL).toArray = as') (hW : (rest.map fun v => v.category).sum = W)
    (hf : rm.frames + 1 ≤ R.frames) (hl : W + (maxL + 11) + rm.locals ≤ R.locals) (hcl : cells + rm.cells ≤ R.cells) (hsl : slots + rm.slots ≤ R.slots) (hd : decode c.code pc = .ok (.invokevirtual index, 3)) (hp : pc + 3 = pc')
    (r : ∀ (v : Option Value) (T' : State) (L : List Loc), Stand p l e R s m args below meth c T' (locs ++ L) (cells + rm.cells) (slots + rm.slots) → Qc v T'.heap L → Run p e below Q En T' (mkF m pc' Ls (v.toList ++ rest))) : Run p e below Q En T (mkF m pc Ls st) := by
  subst hp
  obtain ⟨cq, kq, qa, qb, qc⟩ := isOf hZ eT E
  obtain ⟨v, _, ⟨T', L', k', n'⟩, -, X', ⟨L, hQ, l1, y1, z1⟩, stp⟩ := X.virtualBack hx (y := y) (z := z) hown (mvT hZ w1) (mvT hZ w2) nf (mvT hZ w5) (mvT hZ w6) hy (backOf (W := W) hM hZ w4 w3 hf hl) qa qc (g := mkF m pc Ls st) rfl hsz (Steps.refl _) (argsL := argsL) (rest := rest) hlen hst (by show 2 * 0 + _ ≤ _; omega) hd (fun _ _ => ⟨has, eT, hcl, hsl⟩)
  dsimp only at X' l1 y1 z1 stp hQ
  subst l1 y1 z1
  exact (r v T' L X' hQ).on fun _ q => stp.trans q
theorem r_initO (X : Stand p l e R s m args below meth c T locs cells slots) (hx : p.tables.exec = Jvm.exec) (hZ : Z.Warmed39 s.vm) {own : String} {index : Nat} {a : Addr} {W : Nat}
    (hown : s.vm.findClass own = some m.cls) (w1 : (Jvm.Cond.methodLink own index Lib.objectInit).before a0 Z = true) (w2 : (Jvm.Cond.instanceMethod Lib.objectInit).before a0 Z = true) (w4 : (Jvm.Cond.code Lib.objectInit ⟨#[0xb1]⟩ 1 none).before a0 Z = true)
    (eT : T.heap = h) (hsz : Ls.size = c.maxLocals) (hf : 1 ≤ R.frames) (hW : (rest.map fun v => v.category).sum = W) (hl : W + 12 ≤ R.locals) (hd : decode c.code pc = .ok (.invokespecial index, 3)) (hp : pc + 3 = pc')
    (r : ∀ T', Stand p l e R s m args below meth c T' locs cells slots → T'.heap = h → Run p e below Q En T' (mkF m pc' Ls rest)) : Run p e below Q En T (mkF m pc Ls (.ref a :: rest)) := by
  subst hp
  obtain ⟨T', X', e', stp⟩ := initO X hx hZ hown w1 w2 w4 eT (g := mkF m pc Ls (.ref a :: rest)) rfl hsz rfl hd hf (W := W) (by show 2 * 0 + _ ≤ _; omega) hl
  exact (r T' X' e').on stp
theorem r_new (X : Stand p l e R s m args below meth c T locs cells slots) (hx : p.tables.exec = Jvm.exec) (hZ : Z.Warmed39 s.vm) {own C : String} {index n : Nat} (hown : s.vm.findClass own = some m.cls) (w : (Jvm.Cond.classLink own index C).before a0 Z = true) (wi : (Jvm.Cond.instantiable C n).before a0 Z = true) (wz : (Jvm.Cond.initialized C).before a0 Z = true) (eT : T.heap = h) (hc : cells + 1 ≤ R.cells) (hl : slots + n ≤ R.slots) (hd : decode c.code pc = .ok (.new index, 3)) (hp : pc + 3 = pc')
    (r : ∀ (T' : State) (h' : Heap) (a : Addr), a = h.size → Stand p l e R s m args below meth c T' locs (cells + 1) (slots + n) → T'.heap = h' → Ext h h' → Exa Z h' a C → (∀ {O nm d : String} {ty : FieldType}, Laid Z a0 C O nm d → parseFieldDescriptor d = some ty → Fld Z h' a O nm d (defaultValue ty)) → Run p e below Q En T' (mkF m pc' Ls (.ref a :: rest))) : Run p e below Q En T (mkF m pc Ls rest) := by
  subst hp
  obtain ⟨T', h', X', e', E', A', D', -, stp⟩ := newO X hx hZ hown w wi wz eT (g := mkF m pc Ls rest) rfl hd hc hl
  exact (r T' h' h.size rfl X' e' E' A' D').on stp
theorem r_getF (X : Stand p l e R s m args below meth c T locs cells slots) (hx : p.tables.exec = Jvm.exec) (hZ : Z.Warmed39 s.vm) {own R0 O n d : String} {index : Nat} {a : Addr} {v : Value} (hown : s.vm.findClass own = some m.cls) (w : (Jvm.Cond.fieldLink own index R0 n d).before a0 Z = true) (via : Via Z R0 O n d) (eT : T.heap = h) (F : Fld Z h a O n d v) (hd : decode c.code pc = .ok (.getfield index, 3)) (hp : pc + 3 = pc')
    (r : ∀ T', Stand p l e R s m args below meth c T' locs cells slots → T'.heap = h → Run p e below Q En T' (mkF m pc' Ls (v :: rest))) : Run p e below Q En T (mkF m pc Ls (.ref a :: rest)) := by
  subst hp
  obtain ⟨T', X', e', stp⟩ := getF X hx hZ hown (host := "") (Or.inl w) via eT F (g := mkF m pc Ls (.ref a :: rest)) rfl rfl hd
  exact (r T' X' e').on stp
theorem r_getFN (X : Stand p l e R s m args below meth c T locs cells slots) (hx : p.tables.exec = Jvm.exec) (hZ : Z.Warmed39 s.vm) {own R0 O n d host : String} {index : Nat} {a : Addr} {v : Value} (hown : s.vm.findClass own = some m.cls) (w : (Jvm.Cond.fieldLinkNest own index R0 n d host).before a0 Z = true) (via : Via Z R0 O n d) (eT : T.heap = h) (F : Fld Z h a O n d v) (hd : decode c.code pc = .ok (.getfield index, 3)) (hp : pc + 3 = pc')
    (r : ∀ T', Stand p l e R s m args below meth c T' locs cells slots → T'.heap = h → Run p e below Q En T' (mkF m pc' Ls (v :: rest))) : Run p e below Q En T (mkF m pc Ls (.ref a :: rest)) := by
  subst hp
  obtain ⟨T', X', e', stp⟩ := getF X hx hZ hown (Or.inr w) via eT F (g := mkF m pc Ls (.ref a :: rest)) rfl rfl hd
  exact (r T' X' e').on stp
theorem r_getS (X : Stand p l e R s m args below meth c T locs cells slots) (hx : p.tables.exec = Jvm.exec) (hZ : Z.Warmed39 s.vm) {own R0 O n d : String} {index : Nat} {v : Value} (hown : s.vm.findClass own = some m.cls) (w : (Jvm.Cond.fieldLink own index R0 n d).before a0 Z = true) (via : Via Z R0 O n d) (eT : T.heap = h) (F : Sta Z h O n d v) (hd : decode c.code pc = .ok (.getstatic index, 3)) (hp : pc + 3 = pc')
    (r : ∀ T', Stand p l e R s m args below meth c T' locs cells slots → T'.heap = h → Run p e below Q En T' (mkF m pc' Ls (v :: rest))) : Run p e below Q En T (mkF m pc Ls rest) := by
  subst hp
  obtain ⟨T', X', e', stp⟩ := getS2 X hx hZ hown (host := "") (Or.inl w) via eT F (g := mkF m pc Ls rest) rfl hd
  exact (r T' X' e').on stp
theorem r_putF (X : Stand p l e R s m args below meth c T locs cells slots) (hx : p.tables.exec = Jvm.exec) (hZ : Z.Warmed39 s.vm) {own R0 O n d C : String} {index kk : Nat} {ty : FieldType} {a : Addr} {v old : Value} (hown : s.vm.findClass own = some m.cls) (w : (Jvm.Cond.fieldLink own index R0 n d).before a0 Z = true) (via : Via Z R0 O n d) (eT : T.heap = h) (F : Fld Z h a O n d old) (E : Exa Z h a C) (L : (Jvm.Cond.lays C O n d).before a0 Z = true ∨ ((Jvm.Cond.laysFinal C O n d).before a0 Z = true ∧ own = O ∧ meth.name = "<init>")) (wi : (Jvm.Cond.instantiable C kk).before a0 Z = true) (hty : parseFieldDescriptor d = some ty) (hn : narrow ty v = v) (hf : fits ty v = true) (hd : decode c.code pc = .ok (.putfield index, 3)) (hp : pc + 3 = pc')
    (r : ∀ (T' : State) (h' : Heap), Stand p l e R s m args below meth c T' (locs ++ [⟨a, Jvm.RoadKit.slotOf Z O n d⟩]) cells slots → T'.heap = h' → Wr h h' a (Jvm.RoadKit.slotOf Z O n d) v → Run p e below Q En T' (mkF m pc' Ls rest)) : Run p e below Q En T (mkF m pc Ls (v :: .ref a :: rest)) := by
  subst hp
  obtain ⟨T', h', X', e', W', stp⟩ := putF X hx hZ hown (host := "") (Or.inl w) via eT F E L wi hty hn hf (g := mkF m pc Ls (v :: .ref a :: rest)) rfl rfl hd
  exact (r T' h' X' e' W').on stp
theorem r_newarray (X : Stand p l e R s m args below meth c T locs cells slots) (hx : p.tables.exec = Jvm.exec) (hZ : Z.Warmed39 s.vm) {aty : ArrayType} (w : (Jvm.Cond.arrayClass (newarray.typeOf aty)).before a0 Z = true) (eT : T.heap = h) {n : Int32} {cap : Nat} (hn : ¬ n < 0) (hcap : n.toNatClampNeg ≤ cap) (hb8 : cap * 8 ≤ 536870912) (hc : cells + 1 ≤ R.cells) (hl : slots + cap ≤ R.slots) (hd : decode c.code pc = .ok (.newarray aty, 2)) (hp : pc + 2 = pc')
    (r : ∀ (T' : State) (h' : Heap) (a : Addr) (cA : ClassId), a = h.size → Stand p l e R s m args below meth c T' locs (cells + 1) (slots + cap) → T'.heap = h' → Ext h h' → Arr Z h' a (newA cA (newarray.typeOf aty) n) (newarray.typeOf aty) → Run p e below Q En T' (mkF m pc' Ls (.ref a :: rest))) : Run p e below Q En T (mkF m pc Ls (.int n :: rest)) := by
  subst hp
  obtain ⟨T', h', cA, X', e', E', A', stp⟩ := newP X hx hZ w eT (g := mkF m pc Ls (.int n :: rest)) rfl hd rfl hn hcap hb8 hc hl
  exact (r T' h' h.size cA rfl X' e' E' A').on stp
theorem r_putFN (X : Stand p l e R s m args below meth c T locs cells slots) (hx : p.tables.exec = Jvm.exec) (hZ : Z.Warmed39 s.vm) {own R0 O n d C : String} {index kk : Nat} {ty : FieldType} {a : Addr} {v v' old : Value} (hown : s.vm.findClass own = some m.cls) (w : (Jvm.Cond.fieldLink own index R0 n d).before a0 Z = true) (via : Via Z R0 O n d) (eT : T.heap = h) (F : Fld Z h a O n d old) (E : Exa Z h a C) (L : (Jvm.Cond.lays C O n d).before a0 Z = true ∨ ((Jvm.Cond.laysFinal C O n d).before a0 Z = true ∧ own = O ∧ meth.name = "<init>")) (wi : (Jvm.Cond.instantiable C kk).before a0 Z = true) (hty : parseFieldDescriptor d = some ty) (hn : narrow ty v = v') (hf : fits ty v' = true) (hd : decode c.code pc = .ok (.putfield index, 3)) (hp : pc + 3 = pc')
    (r : ∀ (T' : State) (h' : Heap), Stand p l e R s m args below meth c T' (locs ++ [⟨a, Jvm.RoadKit.slotOf Z O n d⟩]) cells slots → T'.heap = h' → Wr h h' a (Jvm.RoadKit.slotOf Z O n d) v' → Run p e below Q En T' (mkF m pc' Ls rest)) : Run p e below Q En T (mkF m pc Ls (v :: .ref a :: rest)) := by
  subst hp
  obtain ⟨T', h', X', e', W', stp⟩ := putFN X hx hZ hown w via eT F E L wi hty hn hf (g := mkF m pc Ls (v :: .ref a :: rest)) rfl rfl hd
  exact (r T' h' X' e' W').on stp
theorem r_anewarray (X : Stand p l e R s m args below meth c T locs cells slots) (hx : p.tables.exec = Jvm.exec) (hZ : Z.Warmed39 s.vm) {own C : String} {index : Nat} (hown : s.vm.findClass own = some m.cls) (w1 : (Jvm.Cond.classLink own index C).before a0 Z = true) (w2 : (Jvm.Cond.arrayOver (.object C)).before a0 Z = true) (eT : T.heap = h) {n : Int32} {cap : Nat} (hn : ¬ n < 0) (hcap : n.toNatClampNeg ≤ cap) (hb8 : cap * 8 ≤ 536870912) (hc : cells + 1 ≤ R.cells) (hl : slots + cap ≤ R.slots) (hd : decode c.code pc = .ok (.anewarray index, 3)) (hp : pc + 3 = pc')
    (r : ∀ (T' : State) (h' : Heap) (a : Addr) (cA : ClassId), a = h.size → Stand p l e R s m args below meth c T' locs (cells + 1) (slots + cap) → T'.heap = h' → Ext h h' → Arr Z h' a (newA cA (.object C) n) (.object C) → Ovr Z cA C → Run p e below Q En T' (mkF m pc' Ls (.ref a :: rest))) : Run p e below Q En T (mkF m pc Ls (.int n :: rest)) := by
  subst hp
  obtain ⟨T', h', cA, X', e', E', A', O', stp⟩ := newR X hx hZ hown w1 w2 eT (g := mkF m pc Ls (.int n :: rest)) rfl hd rfl hn hcap hb8 hc hl
  exact (r T' h' h.size cA rfl X' e' E' A' O').on stp
theorem r_iastore (X : Stand p l e R s m args below meth c T locs cells slots) (hx : p.tables.exec = Jvm.exec) (hZ : Z.Warmed39 s.vm) (eT : T.heap = h) {a : Addr} {cl : Cell} {j : Int32} {x : Int32} (A : Arr Z h a cl .int) (hj : ¬ (j < 0 ∨ cl.slots.size ≤ j.toNatClampNeg)) (hd : decode c.code pc = .ok (.iastore, 1)) (hp : pc + 1 = pc')
    (r : ∀ (T' : State) (h' : Heap), Stand p l e R s m args below meth c T' (locs ++ [⟨a, j.toNatClampNeg⟩]) cells slots → T'.heap = h' → Wr h h' a j.toNatClampNeg (.int x) → Run p e below Q En T' (mkF m pc' Ls rest)) : Run p e below Q En T (mkF m pc Ls (.int x :: .int j :: .ref a :: rest)) := by
  subst hp
  obtain ⟨T', h', X', e', W', stp⟩ := stI X hx hZ eT A hj (g := mkF m pc Ls (.int x :: .int j :: .ref a :: rest)) rfl rfl hd
  exact (r T' h' X' e' W').on stp
theorem r_lastore (X : Stand p l e R s m args below meth c T locs cells slots) (hx : p.tables.exec = Jvm.exec) (hZ : Z.Warmed39 s.vm) (eT : T.heap = h) {a : Addr} {cl : Cell} {j : Int32} {x : Int64} (A : Arr Z h a cl .long) (hj : ¬ (j < 0 ∨ cl.slots.size ≤ j.toNatClampNeg)) (hd : decode c.code pc = .ok (.lastore, 1)) (hp : pc + 1 = pc')
    (r : ∀ (T' : State) (h' : Heap), Stand p l e R s m args below meth c T' (locs ++ [⟨a, j.toNatClampNeg⟩]) cells slots → T'.heap = h' → Wr h h' a j.toNatClampNeg (.long x) → Run p e below Q En T' (mkF m pc' Ls rest)) : Run p e below Q En T (mkF m pc Ls (.long x :: .int j :: .ref a :: rest)) := by
  subst hp
  obtain ⟨T', h', X', e', W', stp⟩ := stJ X hx hZ eT A hj (g := mkF m pc Ls (.long x :: .int j :: .ref a :: rest)) rfl rfl hd
  exact (r T' h' X' e' W').on stp
theorem r_castore (X : Stand p l e R s m args below meth c T locs cells slots) (hx : p.tables.exec = Jvm.exec) (hZ : Z.Warmed39 s.vm) (eT : T.heap = h) {a : Addr} {cl : Cell} {j x : Int32} (A : Arr Z h a cl .char) (hj : ¬ (j < 0 ∨ cl.slots.size ≤ j.toNatClampNeg)) (hd : decode c.code pc = .ok (.castore, 1)) (hp : pc + 1 = pc')
    (r : ∀ (T' : State) (h' : Heap), Stand p l e R s m args below meth c T' (locs ++ [⟨a, j.toNatClampNeg⟩]) cells slots → T'.heap = h' → Wr h h' a j.toNatClampNeg (.int (nar .char x)) → Run p e below Q En T' (mkF m pc' Ls rest)) : Run p e below Q En T (mkF m pc Ls (.int x :: .int j :: .ref a :: rest)) := by
  subst hp
  obtain ⟨T', h', X', e', W', stp⟩ := stC X hx hZ eT A hj (g := mkF m pc Ls (.int x :: .int j :: .ref a :: rest)) rfl rfl hd
  exact (r T' h' X' e' W').on stp
theorem r_sastore (X : Stand p l e R s m args below meth c T locs cells slots) (hx : p.tables.exec = Jvm.exec) (hZ : Z.Warmed39 s.vm) (eT : T.heap = h) {a : Addr} {cl : Cell} {j x : Int32} (A : Arr Z h a cl .short) (hj : ¬ (j < 0 ∨ cl.slots.size ≤ j.toNatClampNeg)) (hd : decode c.code pc = .ok (.sastore, 1)) (hp : pc + 1 = pc')
    (r : ∀ (T' : State) (h' : Heap), Stand p l e R s m args below meth c T' (locs ++ [⟨a, j.toNatClampNeg⟩]) cells slots → T'.heap = h' → Wr h h' a j.toNatClampNeg (.int (nar .short x)) → Run p e below Q En T' (mkF m pc' Ls rest)) : Run p e below Q En T (mkF m pc Ls (.int x :: .int j :: .ref a :: rest)) := by
  subst hp
  obtain ⟨T', h', X', e', W', stp⟩ := stS X hx hZ eT A hj (g := mkF m pc Ls (.int x :: .int j :: .ref a :: rest)) rfl rfl hd
  exact (r T' h' X' e' W').on stp
theorem r_bastoreB (X : Stand p l e R s m args below meth c T locs cells slots) (hx : p.tables.exec = Jvm.exec) (hZ : Z.Warmed39 s.vm) (eT : T.heap = h) {a : Addr} {cl : Cell} {j x : Int32} (A : Arr Z h a cl .byte) (hj : ¬ (j < 0 ∨ cl.slots.size ≤ j.toNatClampNeg)) (hd : decode c.code pc = .ok (.bastore, 1)) (hp : pc + 1 = pc')
    (r : ∀ (T' : State) (h' : Heap), Stand p l e R s m args below meth c T' (locs ++ [⟨a, j.toNatClampNeg⟩]) cells slots → T'.heap = h' → Wr h h' a j.toNatClampNeg (.int (nar .byte x)) → Run p e below Q En T' (mkF m pc' Ls rest)) : Run p e below Q En T (mkF m pc Ls (.int x :: .int j :: .ref a :: rest)) := by
  subst hp
  obtain ⟨T', h', X', e', W', stp⟩ := stB X hx hZ eT A hj (g := mkF m pc Ls (.int x :: .int j :: .ref a :: rest)) rfl rfl hd
  exact (r T' h' X' e' W').on stp
theorem r_bastoreZ (X : Stand p l e R s m args below meth c T locs cells slots) (hx : p.tables.exec = Jvm.exec) (hZ : Z.Warmed39 s.vm) (eT : T.heap = h) {a : Addr} {cl : Cell} {j x : Int32} (A : Arr Z h a cl .boolean) (hj : ¬ (j < 0 ∨ cl.slots.size ≤ j.toNatClampNeg)) (hd : decode c.code pc = .ok (.bastore, 1)) (hp : pc + 1 = pc')
    (r : ∀ (T' : State) (h' : Heap), Stand p l e R s m args below meth c T' (locs ++ [⟨a, j.toNatClampNeg⟩]) cells slots → T'.heap = h' → Wr h h' a j.toNatClampNeg (.int (nar .boolean x)) → Run p e below Q En T' (mkF m pc' Ls rest)) : Run p e below Q En T (mkF m pc Ls (.int x :: .int j :: .ref a :: rest)) := by
  subst hp
  obtain ⟨T', h', X', e', W', stp⟩ := stZ X hx hZ eT A hj (g := mkF m pc Ls (.int x :: .int j :: .ref a :: rest)) rfl rfl hd
  exact (r T' h' X' e' W').on stp
theorem r_arraylength (X : Stand p l e R s m args below meth c T locs cells slots) (hx : p.tables.exec = Jvm.exec) (hZ : Z.Warmed39 s.vm) (eT : T.heap = h) {a : Addr} {cl : Cell} {ty : FieldType} {n : Int32} (A : Arr Z h a cl ty) (hn : cl.slots.size.toInt32 = n) (hd : decode c.code pc = .ok (.arraylength, 1)) (hp : pc + 1 = pc') (r : Run p e below Q En T (mkF m pc' Ls (.int n :: rest))) : Run p e below Q En T (mkF m pc Ls (.ref a :: rest)) := by
  subst hp hn; exact r.on fun _ q => X.arraylength hx (by rw [eT]; exact A.1) (State.isArrayOf_alike hZ.alike A.2.1) (g := mkF m pc Ls (.ref a :: rest)) rfl rfl hd _ q
theorem r_iaload (X : Stand p l e R s m args below meth c T locs cells slots) (hx : p.tables.exec = Jvm.exec) (hZ : Z.Warmed39 s.vm) (eT : T.heap = h) {a : Addr} {cl : Cell} {j : Int32} {v : Int32} (A : Arr Z h a cl .int) (hj : ¬ (j < 0 ∨ cl.slots.size ≤ j.toNatClampNeg)) (hat : cl.slots[j.toNatClampNeg]? = some (.int v)) (hd : decode c.code pc = .ok (.iaload, 1)) (hp : pc + 1 = pc') (r : Run p e below Q En T (mkF m pc' Ls (.int v :: rest))) : Run p e below Q En T (mkF m pc Ls (.int j :: .ref a :: rest)) := by
  subst hp; exact r.on fun _ q => X.iaload hx (j := j) (v := .int v) (by rw [eT]; exact A.1) (State.isArrayOf_alike hZ.alike A.2.1) A.2.2 hj hat (g := mkF m pc Ls (.int j :: .ref a :: rest)) rfl rfl hd _ q
theorem r_caload (X : Stand p l e R s m args below meth c T locs cells slots) (hx : p.tables.exec = Jvm.exec) (hZ : Z.Warmed39 s.vm) (eT : T.heap = h) {a : Addr} {cl : Cell} {j : Int32} {v : Int32} (A : Arr Z h a cl .char) (hj : ¬ (j < 0 ∨ cl.slots.size ≤ j.toNatClampNeg)) (hat : cl.slots[j.toNatClampNeg]? = some (.int v)) (hd : decode c.code pc = .ok (.caload, 1)) (hp : pc + 1 = pc') (r : Run p e below Q En T (mkF m pc' Ls (.int v :: rest))) : Run p e below Q En T (mkF m pc Ls (.int j :: .ref a :: rest)) := by
  subst hp; exact r.on fun _ q => X.caload hx (j := j) (v := .int v) (by rw [eT]; exact A.1) (State.isArrayOf_alike hZ.alike A.2.1) A.2.2 hj hat (g := mkF m pc Ls (.int j :: .ref a :: rest)) rfl rfl hd _ q
theorem r_saload (X : Stand p l e R s m args below meth c T locs cells slots) (hx : p.tables.exec = Jvm.exec) (hZ : Z.Warmed39 s.vm) (eT : T.heap = h) {a : Addr} {cl : Cell} {j : Int32} {v : Int32} (A : Arr Z h a cl .short) (hj : ¬ (j < 0 ∨ cl.slots.size ≤ j.toNatClampNeg)) (hat : cl.slots[j.toNatClampNeg]? = some (.int v)) (hd : decode c.code pc = .ok (.saload, 1)) (hp : pc + 1 = pc') (r : Run p e below Q En T (mkF m pc' Ls (.int v :: rest))) : Run p e below Q En T (mkF m pc Ls (.int j :: .ref a :: rest)) := by
  subst hp; exact r.on fun _ q => X.saload hx (j := j) (v := .int v) (by rw [eT]; exact A.1) (State.isArrayOf_alike hZ.alike A.2.1) A.2.2 hj hat (g := mkF m pc Ls (.int j :: .ref a :: rest)) rfl rfl hd _ q
theorem r_baload (X : Stand p l e R s m args below meth c T locs cells slots) (hx : p.tables.exec = Jvm.exec) (hZ : Z.Warmed39 s.vm) (eT : T.heap = h) {a : Addr} {cl : Cell} {j : Int32} {v : Int32} (A : Arr Z h a cl .byte) (hj : ¬ (j < 0 ∨ cl.slots.size ≤ j.toNatClampNeg)) (hat : cl.slots[j.toNatClampNeg]? = some (.int v)) (hd : decode c.code pc = .ok (.baload, 1)) (hp : pc + 1 = pc') (r : Run p e below Q En T (mkF m pc' Ls (.int v :: rest))) : Run p e below Q En T (mkF m pc Ls (.int j :: .ref a :: rest)) := by
  subst hp; exact r.on fun _ q => X.baloadBytes hx (j := j) (v := .int v) (by rw [eT]; exact A.1) (State.isArrayOf_alike hZ.alike A.2.1) A.2.2 hj hat (g := mkF m pc Ls (.int j :: .ref a :: rest)) rfl rfl hd _ q
theorem r_baloadZ (X : Stand p l e R s m args below meth c T locs cells slots) (hx : p.tables.exec = Jvm.exec) (hZ : Z.Warmed39 s.vm) (eT : T.heap = h) {a : Addr} {cl : Cell} {j : Int32} {v : Int32} (A : Arr Z h a cl .boolean) (hj : ¬ (j < 0 ∨ cl.slots.size ≤ j.toNatClampNeg)) (hat : cl.slots[j.toNatClampNeg]? = some (.int v)) (hd : decode c.code pc = .ok (.baload, 1)) (hp : pc + 1 = pc') (r : Run p e below Q En T (mkF m pc' Ls (.int v :: rest))) : Run p e below Q En T (mkF m pc Ls (.int j :: .ref a :: rest)) := by
  subst hp; exact r.on fun _ q => X.baloadBooleans hx (j := j) (v := .int v) (by rw [eT]; exact A.1) (State.isArrayOf_alike hZ.alike A.2.1) A.2.2 hj hat (g := mkF m pc Ls (.int j :: .ref a :: rest)) rfl rfl hd _ q
theorem r_laload (X : Stand p l e R s m args below meth c T locs cells slots) (hx : p.tables.exec = Jvm.exec) (hZ : Z.Warmed39 s.vm) (eT : T.heap = h) {a : Addr} {cl : Cell} {j : Int32} {v : Int64} (A : Arr Z h a cl .long) (hj : ¬ (j < 0 ∨ cl.slots.size ≤ j.toNatClampNeg)) (hat : cl.slots[j.toNatClampNeg]? = some (.long v)) (hd : decode c.code pc = .ok (.laload, 1)) (hp : pc + 1 = pc') (r : Run p e below Q En T (mkF m pc' Ls (.long v :: rest))) : Run p e below Q En T (mkF m pc Ls (.int j :: .ref a :: rest)) := by
  subst hp; exact r.on fun _ q => X.laload hx (j := j) (v := .long v) (by rw [eT]; exact A.1) (State.isArrayOf_alike hZ.alike A.2.1) A.2.2 hj hat (g := mkF m pc Ls (.int j :: .ref a :: rest)) rfl rfl hd _ q
theorem r_ldcS {vm0 : Vm} {k0 nn : Nat} (X : Stand p l e R (s.setVm vm0) m args below meth c T locs cells slots) (hx : p.tables.exec = Jvm.exec) (hZ : Z.Warmed39 vm0) {own text : String} {index : Nat} (hown : vm0.findClass own = some m.cls) (w : (Jvm.Cond.stringLink own index text).before a0 Z = true) (wS : ∀ a ∈ Bundle.stringAtoms, a.before a0 Z = true) (eT : T.heap = h) (hS : s.Since vm0 k0) (hk : k0 ≤ h.size) (hn : 4 * text.toList.length ≤ nn) (hbig : nn ≤ 536870912) (hc : cells + 2 ≤ R.cells) (hl : slots + (nn + 4) ≤ R.slots) (hd : decode c.code pc = .ok (.ldc index, 2)) (hp : pc + 2 = pc')
    (r : ∀ (a : Addr) (T' : State) (h' : Heap) (k1 : Nat), Stand p l e R (s.setVm T'.vm) m args below meth c T' locs (cells + 2) (slots + (nn + 4)) → T'.heap = h' → Ext h h' → s.Since T'.vm k1 → k1 ≤ h'.size → Z.Warmed39 (s.setVm T'.vm).vm → (s.setVm T'.vm).vm.findClass own = some m.cls → Run p e below Q En T' (mkF m pc' Ls (.ref a :: rest))) : Run p e below Q En T (mkF m pc Ls rest) := by
  subst hp
  obtain ⟨a, T', h', k1, X', e', E', hS', hk', hZ', ho', stp⟩ := ldcS X hx hZ hown w wS eT hS hk (g := mkF m pc Ls rest) rfl hd hn hbig hc hl
  exact (r a T' h' k1 X' e' E' hS' hk' hZ' ho').on stp
theorem w_retN {vm1 : Vm} {k1 : Nat} (X : Stand p l e R (s.setVm vm1) m args below meth c T locs cells slots) (hS : s.Since vm1 k1) (hk : k1 ≤ T.heap.size) (hx : p.tables.exec = Jvm.exec) (hlk : meth.locks = false) {t : FieldType} {z w : Int32} (hret : meth.sig.returnType = some t) (ht : t = .boolean ∨ t = .byte ∨ t = .char ∨ t = .short) (hd : decode c.code pc = .ok (.ireturn, 1)) (hn : nar t z = w) (hq : Q (some (.int w)) T.heap locs) (h1 : cells ≤ kc) (h2 : slots ≤ ks) : Run p e below Q (fun o t L => ReturnedEndW s o t L kc ks) T (mkF m pc Ls (.int z :: rest)) := by
  subst hn
  obtain ⟨fs, hr, hrun, hended, h4, h5, h6, h7⟩ := X.leaveW hS hk (v := some (.int (nar t z))) (fun q => by rw [hret] at q; cases q) hlk
  exact ⟨_, _, retN X hx hret ht hd hr, hrun, hended, _, _, rfl, hq, h4, h5, h6, h7.mono h1 h2⟩
theorem w_retV {vm1 : Vm} {k1 : Nat} (X : Stand p l e R (s.setVm vm1) m args below meth c T locs cells slots) (hS : s.Since vm1 k1) (hk : k1 ≤ T.heap.size) (hx : p.tables.exec = Jvm.exec) (hlk : meth.locks = false) {t : FieldType} {w : Value} {i : Instr} (hret : meth.sig.returnType = some t) (hn : narrow t w = w)
    (hi : (i = .ireturn ∧ (t = .int ∨ t = .boolean ∨ t = .byte ∨ t = .char ∨ t = .short) ∧ ∃ z, w = .int z) ∨ (i = .lreturn ∧ t = .long ∧ ∃ z, w = .long z) ∨ (i = .dreturn ∧ t = .double ∧ ∃ z, w = .double z) ∨ (i = .freturn ∧ t = .float ∧ ∃ z, w = .float z) ∨ (i = .areturn ∧ t.isReference = true ∧ w.isRef = true))
    (hd : decode c.code pc = .ok (i, 1)) (hq : Q (some w) T.heap locs) (h1 : cells ≤ kc) (h2 : slots ≤ ks) : Run p e below Q (fun o t L => ReturnedEndW s o t L kc ks) T (mkF m pc Ls (w :: rest)) := by
  obtain ⟨fs, hr, hrun, hended, h4, h5, h6, h7⟩ := X.leaveW hS hk (v := some w) (fun q => by rw [hret] at q; cases q) hlk
  exact ⟨_, _, retOut X hx hret hn hi hd hr, hrun, hended, _, _, rfl, hq, h4, h5, h6, h7.mono h1 h2⟩
theorem w_ret0 {vm1 : Vm} {k1 : Nat} (X : Stand p l e R (s.setVm vm1) m args below meth c T locs cells slots) (hS : s.Since vm1 k1) (hk : k1 ≤ T.heap.size) (hx : p.tables.exec = Jvm.exec) (hlk : meth.locks = false) (hret : meth.sig.returnType = none) (hd : decode c.code pc = .ok (.return_, 1)) (hq : Q none T.heap locs) (h1 : cells ≤ kc) (h2 : slots ≤ ks) : Run p e below Q (fun o t L => ReturnedEndW s o t L kc ks) T (mkF m pc Ls []) := by
  obtain ⟨fs, hr, hrun, hended, h4, h5, h6, h7⟩ := X.leaveW hS hk (v := none) (fun _ => rfl) hlk
  exact ⟨_, _, X.returnOut hx hret hd hr, hrun, hended, _, _, rfl, hq, h4, h5, h6, h7.mono h1 h2⟩
abbrev MetW (l : Launch) (Z : State) (y : MethodName) (bytes : ByteArray) (maxL : Nat) (ret : Option FieldType) (ws : List Jvm.Cond) (rm : Room) (as' : Array Value) (h0 : Heap) (Q : Option Value → Heap → List Loc → Prop) (kc ks : Nat) : Prop :=
  MetFree l y (head1 (Jvm.Cond.code y bytes maxL ret :: ws) rm) (fun a U => a = as' ∧ Z.Warmed39 U.vm ∧ U.heap = h0) (fun _ _ _ _ _ => True) (fun _ U o U' => ∃ v L, o = .returned v ∧ Q v U'.heap L ∧ ReturnedEndW U o U' L kc ks)
theorem metW_of {y : MethodName} {bytes : ByteArray} {maxL : Nat} {ret : Option FieldType} {ws : List Jvm.Cond} {rm : Room} {as' : Array Value} {h0 : Heap} {Q : Option Value → Heap → List Loc → Prop} {kc ks : Nat} {f0 : MethodId → JFrame} (hpn : plainFor y = true)
    (hef : ∀ m, entryFrame m as' maxL = f0 m)
    (body : ∀ (p : Program) (e : Env) (s : State) (m : MethodId) (below : List Frame) (meth : Method) (c : Code) (s₁ : State), Stand p l e rm s m as' below meth c s₁ [] 0 0 → p.tables.exec = Jvm.exec → c.code = bytes → c.maxLocals = maxL → meth.sig.returnType = ret → meth.locks = false → s.vm.findClass y.cls = some m.cls → meth.name = y.name → Z.Warmed39 s.vm → s₁.heap = h0 → Run p e below Q (fun o t L => ReturnedEndW s o t L kc ks) s₁ (f0 m)) :
    MetW l Z y bytes maxL ret ws rm as' h0 Q kc ks := by
  refine MetFree.of_bodySF (code := bytes) (maxLocals := maxL) (ret := ret) hpn hisR ?_
  intro p e s m args below meth c s₁ Bd hml0 hP hK
  obtain ⟨rfl, hZ, hh⟩ := hP
  obtain ⟨s₂, o, r⟩ := body p e s m below meth c s₁ (Stand.of_body Bd) Bd.exec Bd.bytes hml0 Bd.returns (BodyLoose.notSynchronized Bd) (findClass_of_methodNamed Bd.named) (name_of_methodNamed Bd.named Bd.method).1 hZ (by rw [← hh, Bd.state]; rfl)
  rw [hef m]
  exact ⟨s₂, o, r⟩
end Core
section Arrays
variable {p : Program} {l : Launch} {e : Env} {R : Room} {s : State} {m : MethodId} {args : Array Value} {below : List Frame} {meth : Method} {c : Code} {T T' : State} {locs : List Loc} {cells slots : Nat} {Q : Option Value → Heap → List Loc → Prop} {En : Outcome → State → List Loc → Prop} {kc ks : Nat} {Z : State} {a0 : Array Value} {h h' : Heap} {Ls : Array Slot} {st rest : List Value} {pc pc' : Nat} {a b : Addr} {ty : FieldType} {n : Nat} {f g : Nat → Value} {F : Nat → Int32} {sl : Nat} {v : Value} {j : Int32}
/-- an array of n places and what lies in each -/
def Ary (Z : State) (h : Heap) (a : Addr) (ty : FieldType) (n : Nat) (f : Nat → Value) : Prop := ∃ c : Cell, Arr Z h a c ty ∧ c.slots.size = n ∧ ∀ i, i < n → c.slots[i]? = some (f i)
theorem Ary.lt (A : Ary Z h a ty n f) : a < h.size := by obtain ⟨c, A, -⟩ := A; exact A.lt
theorem Ary.ext (A : Ary Z h a ty n f) (E : Ext h h') : Ary Z h' a ty n f := by obtain ⟨c, A, r⟩ := A; exact ⟨c, A.ext E, r⟩
theorem Ary.other (A : Ary Z h b ty n f) (W : Wr h h' a sl v) (q : b ≠ a) : Ary Z h' b ty n f := by obtain ⟨c, A, r⟩ := A; exact ⟨c, A.other W q, r⟩
theorem Ary.keep {ws : List Addr} (A : Ary Z h a ty n f) (K : Keep h h' ws) (q : a ∉ ws) : Ary Z h' a ty n f := by obtain ⟨c, A, r⟩ := A; exact ⟨c, ⟨K.2.1 a c A.1 q, A.2⟩, r⟩
theorem Ary.congr (A : Ary Z h a ty n f) (q : ∀ i, i < n → f i = g i) : Ary Z h a ty n g := by obtain ⟨c, A, r1, r2⟩ := A; exact ⟨c, A, r1, fun i hi => by rw [r2 i hi, q i hi]⟩
theorem Ary.set (A : Ary Z h a ty n f) (W : Wr h h' a j.toNatClampNeg v) : Ary Z h' a ty n (fun i => if i = j.toInt.toNat then v else f i) := by
  obtain ⟨c, A, r1, r2⟩ := A
  refine ⟨_, A.same W, by rw [sz_set]; exact r1, fun i hi => ?_⟩
  show (c.slots.setIfInBounds j.toNatClampNeg v)[i]? = _
  have ej : j.toNatClampNeg = j.toInt.toNat := rfl
  by_cases q : i = j.toInt.toNat
  · simp only [q, if_true]; rw [← ej]; rw [ej, ← q]; simp [Array.getElem?_setIfInBounds, r1, hi]
  · simp only [q, if_false]; rw [Array.getElem?_setIfInBounds_ne (by rw [ej]; exact fun y => q y.symm)]; exact r2 i hi
theorem Ary.setI {x : Int32} (A : Ary Z h a ty n (fun i => .int (F i))) (W : Wr h h' a j.toNatClampNeg (.int x)) : Ary Z h' a ty n (fun i => .int (if i = j.toInt.toNat then x else F i)) :=
  (A.set W).congr fun i _ => by
    by_cases q : i = j.toInt.toNat
    · simp only [if_pos q]
    · simp only [if_neg q]
theorem Ary.setJ {x : Int64} {F : Nat → Int64} (A : Ary Z h a ty n (fun i => .long (F i))) (W : Wr h h' a j.toNatClampNeg (.long x)) : Ary Z h' a ty n (fun i => .long (if i = j.toInt.toNat then x else F i)) :=
  (A.set W).congr fun i _ => by
    by_cases q : i = j.toInt.toNat
    · simp only [if_pos q]
    · simp only [if_neg q]
theorem Ary.new {cA : ClassId} {z : Int32} (A : Arr Z h a (newA cA ty z) ty) (hz : z.toInt.toNat = n) : Ary Z h a ty n (fun _ => defaultValue ty) := by
  have ej : z.toNatClampNeg = z.toInt.toNat := rfl
  refine ⟨_, A, by rw [sz_new]; exact hz, fun i hi => ?_⟩
  show (Array.replicate z.toNatClampNeg (defaultValue ty))[i]? = _
  rw [ej, hz]; simp [hi]
theorem own_inb {cl : Cell} (h1 : cl.slots.size = n) (h0 : 0 ≤ j.toInt) (h2 : j.toInt < n) : ¬ (j < 0 ∨ cl.slots.size ≤ j.toNatClampNeg) := by
  rw [Int32.lt_iff_toInt_lt, show (0 : Int32).toInt = 0 from rfl]
  have ej : j.toNatClampNeg = j.toInt.toNat := rfl
  omega
theorem own_at {cl : Cell} (h3 : ∀ i, i < n → cl.slots[i]? = some (f i)) (h0 : 0 ≤ j.toInt) (h2 : j.toInt < n) (hv : f j.toInt.toNat = v) : cl.slots[j.toNatClampNeg]? = some v := by
  rw [← hv]; exact h3 _ (show j.toInt.toNat < n by omega)
theorem r_len (X : Stand p l e R s m args below meth c T locs cells slots) (hx : p.tables.exec = Jvm.exec) (hZ : Z.Warmed39 s.vm) (eT : T.heap = h) {z : Int32} (A : Ary Z h a ty n f) (hn : z.toInt = n) (hd : decode c.code pc = .ok (.arraylength, 1)) (hp : pc + 1 = pc') (r : Run p e below Q En T (mkF m pc' Ls (.int z :: rest))) : Run p e below Q En T (mkF m pc Ls (.ref a :: rest)) := by
  obtain ⟨cl, A, r1, -⟩ := A
  refine r_arraylength X hx hZ eT A ?_ hd hp r
  rw [r1]
  have q : z.toInt.toNat = n := by omega
  rw [← q]
  exact (back32 (n := z) (by rw [Int32.lt_iff_toInt_lt, show (0 : Int32).toInt = 0 from rfl]; omega)).1
theorem q_iaload (X : Stand p l e R s m args below meth c T locs cells slots) (hx : p.tables.exec = Jvm.exec) (hZ : Z.Warmed39 s.vm) (eT : T.heap = h) {v : Int32} (A : Ary Z h a .int n f) (h0 : 0 ≤ j.toInt) (h1 : j.toInt < n) (hv : f j.toInt.toNat = .int v) (hd : decode c.code pc = .ok (.iaload, 1)) (hp : pc + 1 = pc') (r : Run p e below Q En T (mkF m pc' Ls (.int v :: rest))) : Run p e below Q En T (mkF m pc Ls (.int j :: .ref a :: rest)) := by
  obtain ⟨cl, A, r1, r2⟩ := A
  exact r_iaload X hx hZ eT A (own_inb r1 h0 h1) (own_at r2 h0 h1 hv) hd hp r
theorem q_caload (X : Stand p l e R s m args below meth c T locs cells slots) (hx : p.tables.exec = Jvm.exec) (hZ : Z.Warmed39 s.vm) (eT : T.heap = h) {v : Int32} (A : Ary Z h a .char n f) (h0 : 0 ≤ j.toInt) (h1 : j.toInt < n) (hv : f j.toInt.toNat = .int v) (hd : decode c.code pc = .ok (.caload, 1)) (hp : pc + 1 = pc') (r : Run p e below Q En T (mkF m pc' Ls (.int v :: rest))) : Run p e below Q En T (mkF m pc Ls (.int j :: .ref a :: rest)) := by
  obtain ⟨cl, A, r1, r2⟩ := A
  exact r_caload X hx hZ eT A (own_inb r1 h0 h1) (own_at r2 h0 h1 hv) hd hp r
theorem q_saload (X : Stand p l e R s m args below meth c T locs cells slots) (hx : p.tables.exec = Jvm.exec) (hZ : Z.Warmed39 s.vm) (eT : T.heap = h) {v : Int32} (A : Ary Z h a .short n f) (h0 : 0 ≤ j.toInt) (h1 : j.toInt < n) (hv : f j.toInt.toNat = .int v) (hd : decode c.code pc = .ok (.saload, 1)) (hp : pc + 1 = pc') (r : Run p e below Q En T (mkF m pc' Ls (.int v :: rest))) : Run p e below Q En T (mkF m pc Ls (.int j :: .ref a :: rest)) := by
  obtain ⟨cl, A, r1, r2⟩ := A
  exact r_saload X hx hZ eT A (own_inb r1 h0 h1) (own_at r2 h0 h1 hv) hd hp r
theorem q_baload (X : Stand p l e R s m args below meth c T locs cells slots) (hx : p.tables.exec = Jvm.exec) (hZ : Z.Warmed39 s.vm) (eT : T.heap = h) {v : Int32} (A : Ary Z h a .byte n f) (h0 : 0 ≤ j.toInt) (h1 : j.toInt < n) (hv : f j.toInt.toNat = .int v) (hd : decode c.code pc = .ok (.baload, 1)) (hp : pc + 1 = pc') (r : Run p e below Q En T (mkF m pc' Ls (.int v :: rest))) : Run p e below Q En T (mkF m pc Ls (.int j :: .ref a :: rest)) := by
  obtain ⟨cl, A, r1, r2⟩ := A
  exact r_baload X hx hZ eT A (own_inb r1 h0 h1) (own_at r2 h0 h1 hv) hd hp r
theorem q_baloadZ (X : Stand p l e R s m args below meth c T locs cells slots) (hx : p.tables.exec = Jvm.exec) (hZ : Z.Warmed39 s.vm) (eT : T.heap = h) {v : Int32} (A : Ary Z h a .boolean n f) (h0 : 0 ≤ j.toInt) (h1 : j.toInt < n) (hv : f j.toInt.toNat = .int v) (hd : decode c.code pc = .ok (.baload, 1)) (hp : pc + 1 = pc') (r : Run p e below Q En T (mkF m pc' Ls (.int v :: rest))) : Run p e below Q En T (mkF m pc Ls (.int j :: .ref a :: rest)) := by
  obtain ⟨cl, A, r1, r2⟩ := A
  exact r_baloadZ X hx hZ eT A (own_inb r1 h0 h1) (own_at r2 h0 h1 hv) hd hp r
theorem q_laload (X : Stand p l e R s m args below meth c T locs cells slots) (hx : p.tables.exec = Jvm.exec) (hZ : Z.Warmed39 s.vm) (eT : T.heap = h) {v : Int64} (A : Ary Z h a .long n f) (h0 : 0 ≤ j.toInt) (h1 : j.toInt < n) (hv : f j.toInt.toNat = .long v) (hd : decode c.code pc = .ok (.laload, 1)) (hp : pc + 1 = pc') (r : Run p e below Q En T (mkF m pc' Ls (.long v :: rest))) : Run p e below Q En T (mkF m pc Ls (.int j :: .ref a :: rest)) := by
  obtain ⟨cl, A, r1, r2⟩ := A
  exact r_laload X hx hZ eT A (own_inb r1 h0 h1) (own_at r2 h0 h1 hv) hd hp r
theorem q_iastore (X : Stand p l e R s m args below meth c T locs cells slots) (hx : p.tables.exec = Jvm.exec) (hZ : Z.Warmed39 s.vm) (eT : T.heap = h) {x : Int32} {F : Nat → Int32} (A : Ary Z h a .int n (fun i => .int (F i))) (h0 : 0 ≤ j.toInt) (h1 : j.toInt < n) (hd : decode c.code pc = .ok (.iastore, 1)) (hp : pc + 1 = pc')
    (r : ∀ (T' : State) (h' : Heap), Stand p l e R s m args below meth c T' (locs ++ [⟨a, j.toNatClampNeg⟩]) cells slots → T'.heap = h' → Wr h h' a j.toNatClampNeg (.int x) → Ary Z h' a .int n (fun i => .int (if i = j.toInt.toNat then x else F i)) → Run p e below Q En T' (mkF m pc' Ls rest)) : Run p e below Q En T (mkF m pc Ls (.int x :: .int j :: .ref a :: rest)) := by
  have A' := A
  obtain ⟨cl, A, r1, r2⟩ := A
  exact r_iastore X hx hZ eT A (own_inb r1 h0 h1) hd hp fun T' h' X' e' W' => r T' h' X' e' W' (A'.setI W')
theorem q_lastore (X : Stand p l e R s m args below meth c T locs cells slots) (hx : p.tables.exec = Jvm.exec) (hZ : Z.Warmed39 s.vm) (eT : T.heap = h) {x : Int64} {F : Nat → Int64} (A : Ary Z h a .long n (fun i => .long (F i))) (h0 : 0 ≤ j.toInt) (h1 : j.toInt < n) (hd : decode c.code pc = .ok (.lastore, 1)) (hp : pc + 1 = pc')
    (r : ∀ (T' : State) (h' : Heap), Stand p l e R s m args below meth c T' (locs ++ [⟨a, j.toNatClampNeg⟩]) cells slots → T'.heap = h' → Wr h h' a j.toNatClampNeg (.long x) → Ary Z h' a .long n (fun i => .long (if i = j.toInt.toNat then x else F i)) → Run p e below Q En T' (mkF m pc' Ls rest)) : Run p e below Q En T (mkF m pc Ls (.long x :: .int j :: .ref a :: rest)) := by
  have A' := A
  obtain ⟨cl, A, r1, r2⟩ := A
  exact r_lastore X hx hZ eT A (own_inb r1 h0 h1) hd hp fun T' h' X' e' W' => r T' h' X' e' W' (A'.setJ W')
theorem q_castore (X : Stand p l e R s m args below meth c T locs cells slots) (hx : p.tables.exec = Jvm.exec) (hZ : Z.Warmed39 s.vm) (eT : T.heap = h) {x w : Int32} (A : Ary Z h a .char n (fun i => .int (F i))) (h0 : 0 ≤ j.toInt) (h1 : j.toInt < n) (hn : nar .char x = w) (hd : decode c.code pc = .ok (.castore, 1)) (hp : pc + 1 = pc')
    (r : ∀ (T' : State) (h' : Heap), Stand p l e R s m args below meth c T' (locs ++ [⟨a, j.toNatClampNeg⟩]) cells slots → T'.heap = h' → Wr h h' a j.toNatClampNeg (.int w) → Ary Z h' a .char n (fun i => .int (if i = j.toInt.toNat then w else F i)) → Run p e below Q En T' (mkF m pc' Ls rest)) : Run p e below Q En T (mkF m pc Ls (.int x :: .int j :: .ref a :: rest)) := by
  subst hn
  have A' := A
  obtain ⟨cl, A, r1, r2⟩ := A
  exact r_castore X hx hZ eT A (own_inb r1 h0 h1) hd hp fun T' h' X' e' W' => r T' h' X' e' W' (A'.setI W')
theorem q_sastore (X : Stand p l e R s m args below meth c T locs cells slots) (hx : p.tables.exec = Jvm.exec) (hZ : Z.Warmed39 s.vm) (eT : T.heap = h) {x w : Int32} (A : Ary Z h a .short n (fun i => .int (F i))) (h0 : 0 ≤ j.toInt) (h1 : j.toInt < n) (hn : nar .short x = w) (hd : decode c.code pc = .ok (.sastore, 1)) (hp : pc + 1 = pc')
    (r : ∀ (T' : State) (h' : Heap), Stand p l e R s m args below meth c T' (locs ++ [⟨a, j.toNatClampNeg⟩]) cells slots → T'.heap = h' → Wr h h' a j.toNatClampNeg (.int w) → Ary Z h' a .short n (fun i => .int (if i = j.toInt.toNat then w else F i)) → Run p e below Q En T' (mkF m pc' Ls rest)) : Run p e below Q En T (mkF m pc Ls (.int x :: .int j :: .ref a :: rest)) := by
  subst hn
  have A' := A
  obtain ⟨cl, A, r1, r2⟩ := A
  exact r_sastore X hx hZ eT A (own_inb r1 h0 h1) hd hp fun T' h' X' e' W' => r T' h' X' e' W' (A'.setI W')
theorem q_bastoreB (X : Stand p l e R s m args below meth c T locs cells slots) (hx : p.tables.exec = Jvm.exec) (hZ : Z.Warmed39 s.vm) (eT : T.heap = h) {x w : Int32} (A : Ary Z h a .byte n (fun i => .int (F i))) (h0 : 0 ≤ j.toInt) (h1 : j.toInt < n) (hn : nar .byte x = w) (hd : decode c.code pc = .ok (.bastore, 1)) (hp : pc + 1 = pc')
    (r : ∀ (T' : State) (h' : Heap), Stand p l e R s m args below meth c T' (locs ++ [⟨a, j.toNatClampNeg⟩]) cells slots → T'.heap = h' → Wr h h' a j.toNatClampNeg (.int w) → Ary Z h' a .byte n (fun i => .int (if i = j.toInt.toNat then w else F i)) → Run p e below Q En T' (mkF m pc' Ls rest)) : Run p e below Q En T (mkF m pc Ls (.int x :: .int j :: .ref a :: rest)) := by
  subst hn
  have A' := A
  obtain ⟨cl, A, r1, r2⟩ := A
  exact r_bastoreB X hx hZ eT A (own_inb r1 h0 h1) hd hp fun T' h' X' e' W' => r T' h' X' e' W' (A'.setI W')
theorem q_bastoreZ (X : Stand p l e R s m args below meth c T locs cells slots) (hx : p.tables.exec = Jvm.exec) (hZ : Z.Warmed39 s.vm) (eT : T.heap = h) {x w : Int32} (A : Ary Z h a .boolean n (fun i => .int (F i))) (h0 : 0 ≤ j.toInt) (h1 : j.toInt < n) (hn : nar .boolean x = w) (hd : decode c.code pc = .ok (.bastore, 1)) (hp : pc + 1 = pc')
    (r : ∀ (T' : State) (h' : Heap), Stand p l e R s m args below meth c T' (locs ++ [⟨a, j.toNatClampNeg⟩]) cells slots → T'.heap = h' → Wr h h' a j.toNatClampNeg (.int w) → Ary Z h' a .boolean n (fun i => .int (if i = j.toInt.toNat then w else F i)) → Run p e below Q En T' (mkF m pc' Ls rest)) : Run p e below Q En T (mkF m pc Ls (.int x :: .int j :: .ref a :: rest)) := by
  subst hn
  have A' := A
  obtain ⟨cl, A, r1, r2⟩ := A
  exact r_bastoreZ X hx hZ eT A (own_inb r1 h0 h1) hd hp fun T' h' X' e' W' => r T' h' X' e' W' (A'.setI W')
end Arrays
section Facts2
variable {Z : State} {h h' h0 : Heap} {ws : List Addr} {C n d : String} {v : Value} {a b : Addr}
theorem own_staKeep (F : Sta Z h C n d v) (K : Keep h h' ws) (q : ∀ x ∈ ws, ∃ c : Cell, h[x]? = some c ∧ c.vm.isStatics = false) : Sta Z h' C n d v := by
  obtain ⟨cf, i, k, f, st, cell, h1, h2, h3, h4, h5, h6, h7⟩ := F
  refine ⟨cf, i, k, f, st, cell, h1, h2, h3, h4, K.2.1 st cell h5 fun m => ?_, h6, h7⟩
  obtain ⟨c, e1, e2⟩ := q _ m
  cases h5.symm.trans e1
  rw [e2] at h6; cases h6
theorem own_exaS (E : Exa Z h a C) : ∃ c : Cell, h[a]? = some c ∧ c.vm.isStatics = false := by
  obtain ⟨c, _, h1, -, -, h4, -⟩ := E; exact ⟨c, h1, h4⟩
theorem own_arrS {c : Cell} {ty : FieldType} (A : Arr Z h a c ty) : ∃ c : Cell, h[a]? = some c ∧ c.vm.isStatics = false := ⟨c, A.1, A.plain⟩
theorem own_aryS {ty : FieldType} {m : Nat} {f : Nat → Value} (A : Ary Z h a ty m f) : ∃ c : Cell, h[a]? = some c ∧ c.vm.isStatics = false := by
  obtain ⟨c, A, -⟩ := A; exact own_arrS A
theorem own_staExt (F : Sta Z h C n d v) (E : Ext h h') : Sta Z h' C n d v := Sta.ext E F
theorem own_kext {E : Ext h h'} : Keep h h' [] := ⟨E.1, fun x c q _ => E.2 x c q, fun x c q => ⟨c, E.2 x c q, rfl, rfl, rfl⟩⟩
end Facts2
theorem own_nb (x : Int32) : nar .byte (x.toInt8.toInt32) = x.toInt8.toInt32 := by simp [nar]
theorem own_rb (x : Int32) : -128 ≤ (x.toInt8.toInt32).toInt ∧ (x.toInt8.toInt32).toInt ≤ 127 := by
  have h := rng_byte (fits_nar_byte x)
  have h1 := h.1
  have h2 := h.2
  rw [Int32.lt_iff_toInt_lt] at h1 h2
  have e1 : (-128 : Int32).toInt = -128 := rfl
  have e2 : (127 : Int32).toInt = 127 := rfl
  omega
theorem own_tb : ∀ k : Fin 256, ((Int32.ofInt ((k.1 : Int) - 128)) &&& 255).toUInt32.toUInt16.toUInt32.toInt32 = (if (k.1 : Int) - 128 < 0 then Int32.ofInt ((k.1 : Int) - 128) + 256 else Int32.ofInt ((k.1 : Int) - 128)).toUInt32.toUInt16.toUInt32.toInt32 := by decide +kernel
theorem own_u (b : Int32) (h : -128 ≤ b.toInt ∧ b.toInt ≤ 127) : (b &&& 255).toUInt32.toUInt16.toUInt32.toInt32 = (if b.toInt < 0 then b + 256 else b).toUInt32.toUInt16.toUInt32.toInt32 := by
  have q := own_tb ⟨(b.toInt + 128).toNat, by omega⟩
  have e : (((b.toInt + 128).toNat : Nat) : Int) - 128 = b.toInt := by omega
  simp only [e, Int32.ofInt_toInt] at q
  exact q
theorem own_nc (x : Int32) : nar .char x.toUInt32.toUInt16.toUInt32.toInt32 = x.toUInt32.toUInt16.toUInt32.toInt32 := by
  have h1 := c_i2c x
  have h2 := c_i2c x.toUInt32.toUInt16.toUInt32.toInt32
  exact Int32.toInt_inj.mp (show (x.toUInt32.toUInt16.toUInt32.toInt32).toUInt32.toUInt16.toUInt32.toInt32.toInt = _ by omega)
theorem d2_0 : decode jdk_30_method_1_code 0 = .ok (.aload_n 0, 1) := by decide +kernel
theorem d2_1 : decode jdk_30_method_1_code 1 = .ok (.invokespecial 1, 3) := by decide +kernel
theorem d2_4 : decode jdk_30_method_1_code 4 = .ok (.return_, 1) := by decide +kernel
theorem pn_0 : plainName "java/lang/Record" = true := by first | (simp [plainName, overriddenIn]; done) | decide +kernel
theorem ef_rmR (m : MethodId) (x0 : Addr) : entryFrame m #[(.ref x0)] 1 = mkF m 0 #[.val (.ref x0)] [] := by first | (simp [entryFrame, mkF, argsToLocals, Value.category, maxLocals]; done) | rfl
set_option maxRecDepth 65536 in
set_option maxHeartbeats 40000000 in
theorem rmR (l : Launch) (Z : State) (a0 : Array Value) (hw : ∀ d ∈ tables_1, d.before a0 Z = true) (ws : List Jvm.Cond) (a : Addr) (h0 : Heap) (n0 : Nat) (Z0 : n0 ≤ h0.size)  :
    Met l Z (⟨"java/lang/Record", "<init>", "()V"⟩ : MethodName) jdk_30_method_1_code 1 none ws ({ frames := 1, cells := 0, slots := 0, locals := 12 } : Room) #[(.ref a)] h0 (fun v h L => v = none ∧ Fr n0 L ∧ h = h0) 0 0 := by
  refine met_of (plainFor_of_name pn_0) (f0 := fun m => (mkF m 0 #[.val (.ref a)] [])) (fun m => ef_rmR m a) ?_
  intro p e s m below meth c s₁ X0 hx hby hml hret hlk hown hnm hZ e0
  replace hown : s.vm.findClass "java/lang/Record" = some m.cls := hown
  have N0 := Fr.nil n0
  refine r_aloadN X0.here hx (hb hby d2_0) rfl rfl (pc' := 1) rfl ?_
  refine r_initO X0 hx hZ hown (hw _ (List.mem_of_getElem? (i := 12) rfl)) (hw _ (List.mem_of_getElem? (i := 13) rfl)) (hw _ (List.mem_of_getElem? (i := 14) rfl)) e0 (by rw [hml]; rfl) (by decide) (W := 0) rfl (by decide) (hb hby d2_1) (pc' := 4) rfl (fun T1 X1 e1 => ?_)
  refine r_ret0 X1 hx hlk hret (hb hby d2_4) ?_ (by decide) (by decide)
  try rw [e1]
  exact ⟨rfl, N0, rfl⟩
theorem d1_0 : decode prog_29_method_1_code 0 = .ok (.aload_n 0, 1) := by decide +kernel
theorem d1_1 : decode prog_29_method_1_code 1 = .ok (.invokespecial 1, 3) := by decide +kernel
theorem pd_0 : parseMethodDescriptor "()V" = some ⟨[], none⟩ := by decide +kernel
theorem d1_4 : decode prog_29_method_1_code 4 = .ok (.aload_n 0, 1) := by decide +kernel
theorem d1_5 : decode prog_29_method_1_code 5 = .ok (.iload_n 1, 1) := by decide +kernel
theorem d1_6 : decode prog_29_method_1_code 6 = .ok (.putfield 7, 3) := by decide +kernel
theorem d1_9 : decode prog_29_method_1_code 9 = .ok (.aload_n 0, 1) := by decide +kernel
theorem d1_10 : decode prog_29_method_1_code 10 = .ok (.aload_n 2, 1) := by decide +kernel
theorem d1_11 : decode prog_29_method_1_code 11 = .ok (.putfield 13, 3) := by decide +kernel
theorem d1_14 : decode prog_29_method_1_code 14 = .ok (.return_, 1) := by decide +kernel
theorem pn_1 : plainName "com/example/lockstep/lockstep/PgMessage" = true := by first | (simp [plainName, overriddenIn]; done) | decide +kernel
theorem ef_rmI (m : MethodId) (x0 : Addr) (x1 : Int32) (x2 : Addr) : entryFrame m #[(.ref x0), (.int x1), (.ref x2)] 3 = mkF m 0 #[.val (.ref x0), .val (.int x1), .val (.ref x2)] [] := by first | (simp [entryFrame, mkF, argsToLocals, Value.category, maxLocals]; done) | rfl
set_option maxRecDepth 65536 in
set_option maxHeartbeats 40000000 in
theorem rmI (l : Launch) (Z : State) (a0 : Array Value) (hw : ∀ d ∈ tables_1, d.before a0 Z = true) (ws : List Jvm.Cond) (a : Addr) (t : Int32) (b : Addr) (h0 : Heap) (n0 : Nat) (Z0 : n0 ≤ h0.size) (ga : n0 ≤ a) (Ea : Exa Z h0 a "com/example/lockstep/lockstep/PgMessage") (Ft : Fld Z h0 a "com/example/lockstep/lockstep/PgMessage" "type" "B" (.int (0 : Int32))) (Fb : Fld Z h0 a "com/example/lockstep/lockstep/PgMessage" "body" "[B" .null) (ht : nar .byte t = t) :
    Met l Z (⟨"com/example/lockstep/lockstep/PgMessage", "<init>", "(B[B)V"⟩ : MethodName) prog_29_method_1_code 3 none ws ({ frames := 2, cells := 0, slots := 0, locals := 24 } : Room) #[(.ref a), (.int t), (.ref b)] h0 (fun v h L => v = none ∧ Fr n0 L ∧ Keep h0 h [a] ∧ Fld Z h a "com/example/lockstep/lockstep/PgMessage" "body" "[B" (.ref b)) 0 0 := by
  refine met_of (plainFor_of_name pn_1) (f0 := fun m => (mkF m 0 #[.val (.ref a), .val (.int t), .val (.ref b)] [])) (fun m => ef_rmI m a t b) ?_
  intro p e s m below meth c s₁ X0 hx hby hml hret hlk hown hnm hZ e0
  replace hown : s.vm.findClass "com/example/lockstep/lockstep/PgMessage" = some m.cls := hown
  have N0 := Fr.nil n0
  refine r_aloadN X0.here hx (hb hby d1_0) rfl rfl (pc' := 1) rfl ?_
  refine r_callI X0 hx hZ (y := (⟨"java/lang/Record", "<init>", "()V"⟩ : MethodName)) (rm := ({ frames := 1, cells := 0, slots := 0, locals := 12 } : Room)) hown rfl (hw _ (List.mem_of_getElem? (i := 7) rfl)) (hw _ (List.mem_of_getElem? (i := 8) rfl)) (hw _ (List.mem_of_getElem? (i := 10) rfl)) (hw _ (List.mem_of_getElem? (i := 11) rfl)) (by decide) (rmR l Z a0 hw [] a h0 n0 Z0) e0 (by rw [hml]; rfl) (argsL := []) (rest := []) (lenOf pd_0 rfl) rfl rfl (W := 0) rfl (by decide) (by decide) (by decide) (by decide) (hb hby d1_1) (pc' := 4) rfl ?_
  rintro v2 T2 L2 X2 ⟨rfl, Nq2, e2⟩
  have N2 := Fr.app N0 Nq2
  show Run p e below _ _ T2 (mkF m 4 #[.val (.ref a), .val (.int t), .val (.ref b)] [])
  refine r_aloadN X2.here hx (hb hby d1_4) rfl rfl (pc' := 5) rfl ?_
  refine r_iloadN X2.here hx (hb hby d1_5) rfl (pc' := 6) rfl ?_
  refine r_putFN X2 hx hZ hown (hw _ (List.mem_of_getElem? (i := 15) rfl)) Via.refl e2 Ft Ea (Or.inr ⟨(hw _ (List.mem_of_getElem? (i := 16) rfl)), rfl, hnm⟩) (hw _ (List.mem_of_getElem? (i := 2) rfl)) (ty := .byte) (v' := (.int t)) (by decide) (by rw [show narrow .byte (.int t) = .int (nar .byte t) from rfl, ht]) (by rw [← ht]; exact fits_nar_byte _) (hb hby d1_6) (pc' := 9) rfl (fun T3 h3 X3 e3 W3 => ?_)
  have f4 := Ft.same W3
  have K5 : Keep h0 h0 [a] := Keep.refl _ _
  have K6 := K5.wr W3 (Or.inl (List.mem_of_getElem? (i := 0) rfl))
  have f7 := Ea.wr W3
  have f8 := Fb.other W3 (Or.inr (slot_ne (Or.inr (hw _ (List.mem_of_getElem? (i := 18) rfl)) : Laid Z a0 "com/example/lockstep/lockstep/PgMessage" "com/example/lockstep/lockstep/PgMessage" "body" "[B") (Or.inr (hw _ (List.mem_of_getElem? (i := 16) rfl)) : Laid Z a0 "com/example/lockstep/lockstep/PgMessage" "com/example/lockstep/lockstep/PgMessage" "type" "B") (by decide) (t := (.array .byte)) (t' := .byte) (by decide) (by decide)))
  have Z9 : n0 ≤ h3.size := by have q := Z0; rw [W3.size]; exact q
  have N3 := Fr.snoc X3 N2 ga
  refine r_aloadN X3.here hx (hb hby d1_9) rfl rfl (pc' := 10) rfl ?_
  refine r_aloadN X3.here hx (hb hby d1_10) rfl rfl (pc' := 11) rfl ?_
  refine r_putF X3 hx hZ hown (hw _ (List.mem_of_getElem? (i := 17) rfl)) Via.refl e3 f8 f7 (Or.inr ⟨(hw _ (List.mem_of_getElem? (i := 18) rfl)), rfl, hnm⟩) (hw _ (List.mem_of_getElem? (i := 2) rfl)) (ty := (.array .byte)) (by decide) rfl rfl (hb hby d1_11) (pc' := 14) rfl (fun T10 h10 X10 e10 W10 => ?_)
  have f11 := f8.same W10
  have K12 := K6.wr W10 (Or.inl (List.mem_of_getElem? (i := 0) rfl))
  have f13 := f7.wr W10
  have f14 := f4.other W10 (Or.inr (slot_ne (Or.inr (hw _ (List.mem_of_getElem? (i := 16) rfl)) : Laid Z a0 "com/example/lockstep/lockstep/PgMessage" "com/example/lockstep/lockstep/PgMessage" "type" "B") (Or.inr (hw _ (List.mem_of_getElem? (i := 18) rfl)) : Laid Z a0 "com/example/lockstep/lockstep/PgMessage" "com/example/lockstep/lockstep/PgMessage" "body" "[B") (by decide) (t := .byte) (t' := (.array .byte)) (by decide) (by decide)))
  have Z15 : n0 ≤ h10.size := by have q := Z9; rw [W10.size]; exact q
  have N10 := Fr.snoc X10 N3 ga
  refine r_ret0 X10 hx hlk hret (hb hby d1_14) ?_ (by decide) (by decide)
  try rw [e10]
  exact ⟨rfl, N10, K12, f11⟩
theorem d4_0 : decode prog_29_method_18_code 0 = .ok (.aload_n 0, 1) := by decide +kernel
theorem d4_1 : decode prog_29_method_18_code 1 = .ok (.getfield 13, 3) := by decide +kernel
theorem d4_4 : decode prog_29_method_18_code 4 = .ok (.iconst 0, 1) := by decide +kernel
theorem d4_5 : decode prog_29_method_18_code 5 = .ok (.baload, 1) := by decide +kernel
theorem d4_6 : decode prog_29_method_18_code 6 = .ok (.sipush 255, 3) := by decide +kernel
theorem d4_9 : decode prog_29_method_18_code 9 = .ok (.iand, 1) := by decide +kernel
theorem d4_10 : decode prog_29_method_18_code 10 = .ok (.i2c, 1) := by decide +kernel
theorem d4_11 : decode prog_29_method_18_code 11 = .ok (.ireturn, 1) := by decide +kernel
theorem ef_rmF (m : MethodId) (x0 : Addr) : entryFrame m #[(.ref x0)] 1 = mkF m 0 #[.val (.ref x0)] [] := by first | (simp [entryFrame, mkF, argsToLocals, Value.category, maxLocals]; done) | rfl
set_option maxRecDepth 65536 in
set_option maxHeartbeats 40000000 in
theorem rmF (l : Launch) (Z : State) (a0 : Array Value) (hw : ∀ d ∈ tables_1, d.before a0 Z = true) (ws : List Jvm.Cond) (a b : Addr) (z : Int32) (f : Nat → Value) (h0 : Heap) (n0 : Nat) (Z0 : n0 ≤ h0.size) (Fb : Fld Z h0 a "com/example/lockstep/lockstep/PgMessage" "body" "[B" (.ref b)) (Ab : Ary Z h0 b .byte 3 f) (hf : f 0 = .int z) :
    Met l Z (⟨"com/example/lockstep/lockstep/PgMessage", "firstByte", "()C"⟩ : MethodName) prog_29_method_18_code 1 (some .char) ws ({ frames := 0, cells := 0, slots := 0, locals := 0 } : Room) #[(.ref a)] h0 (fun v h L => v = some (.int (z &&& 255).toUInt32.toUInt16.toUInt32.toInt32) ∧ Fr n0 L ∧ h = h0) 0 0 := by
  refine met_of (plainFor_of_name pn_1) (f0 := fun m => (mkF m 0 #[.val (.ref a)] [])) (fun m => ef_rmF m a) ?_
  intro p e s m below meth c s₁ X0 hx hby hml hret hlk hown hnm hZ e0
  replace hown : s.vm.findClass "com/example/lockstep/lockstep/PgMessage" = some m.cls := hown
  have N0 := Fr.nil n0
  refine r_aloadN X0.here hx (hb hby d4_0) rfl rfl (pc' := 1) rfl ?_
  refine r_getF X0 hx hZ hown (hw _ (List.mem_of_getElem? (i := 17) rfl)) Via.refl e0 Fb (hb hby d4_1) (pc' := 4) rfl (fun T16 X16 e16 => ?_)
  refine r_iconst X16.here hx (hb hby d4_4) (v := 0) rfl (pc' := 5) rfl ?_
  refine q_baload X16 hx hZ e16 (j := (0 : Int32)) (v := z) Ab (by decide) (by decide) hf (hb hby d4_5) (pc' := 6) rfl ?_
  refine r_sipush X16.here hx (hb hby d4_6) (v := 255) rfl (pc' := 9) rfl ?_
  refine r_iand X16.here hx (hb hby d4_9) (pc' := 10) rfl ?_
  refine r_i2c X16.here hx (hb hby d4_10) (pc' := 11) rfl ?_
  refine r_retN X16 hx hlk hret (by simp) (hb hby d4_11) (w := ((z &&& (255 : Int32)).toUInt32.toUInt16.toUInt32.toInt32)) (own_nc _) ?_ (by decide) (by decide)
  try rw [e16]
  exact ⟨rfl, N0, rfl⟩
theorem pd_1 : parseMethodDescriptor "(B[B)V" = some ⟨[.byte, (.array .byte)], none⟩ := by decide +kernel
theorem pd_2 : parseMethodDescriptor "()C" = some ⟨[], some .char⟩ := by decide +kernel
theorem pn_2 : plainName "com/example/lockstep/lockstep/PgMessageFirstBytePinLaw" = true := by first | (simp [plainName, overriddenIn]; done) | decide +kernel
theorem ef_rm0 (m : MethodId) (x0 : Int32) (x1 : Int32) (x2 : Int32) (x3 : Int32) : entryFrame m #[(.int x0), (.int x1), (.int x2), (.int x3)] maxLocals = mkF m 0 #[.val (.int x0), .val (.int x1), .val (.int x2), .val (.int x3), .unset, .unset, .unset, .unset, .unset] [] := by first | (simp [entryFrame, mkF, argsToLocals, Value.category, maxLocals]; done) | rfl
set_option maxRecDepth 65536 in
set_option maxHeartbeats 40000000 in
theorem rm0 (l : Launch) (Z : State) (a0 : Array Value) (hw : ∀ d ∈ tables_1, d.before a0 Z = true) (ws : List Jvm.Cond) (t x y z : Int32) (h0 : Heap) (n0 : Nat) (Z0 : n0 ≤ h0.size)  :
    Met l Z Jvm.Pilot.@@N@@.x code maxLocals ret ws room_1 #[(.int t), (.int x), (.int y), (.int z)] h0 (fun v h L => v = some (.int 1) ∧ Fr n0 L) 16 128 := by
  refine met_of (plainFor_of_name pn_2) (f0 := fun m => (mkF m 0 #[.val (.int t), .val (.int x), .val (.int y), .val (.int z), .unset, .unset, .unset, .unset, .unset] [])) (fun m => ef_rm0 m t x y z) ?_
  intro p e s m below meth c s₁ X0 hx hby hml hret hlk hown hnm hZ e0
  replace hown : s.vm.findClass "com/example/lockstep/lockstep/PgMessageFirstBytePinLaw" = some m.cls := hown
  have N0 := Fr.nil n0
  refine r_iloadN X0.here hx (hb hby at_0) rfl (pc' := 1) rfl ?_
  refine r_i2b X0.here hx (hb hby at_1) (pc' := 2) rfl ?_
  refine r_istore X0.here hx (hb hby at_2) (l' := #[.val (.int t), .val (.int x), .val (.int y), .val (.int z), .val (.int (x.toInt8.toInt32)), .unset, .unset, .unset, .unset]) rfl (pc' := 4) rfl ?_
  refine r_iconst X0.here hx (hb hby at_4) (v := 3) rfl (pc' := 5) rfl ?_
  refine r_newarray X0 hx hZ (aty := .byte) (hw _ (List.mem_of_getElem? (i := 0) rfl)) e0 (cap := 3) (by decide) (by decide) (by decide) (by decide) (by decide) (hb hby at_5) (pc' := 7) rfl (fun T17 h17 b17 k17 g17 X17 e17 E17 A17 => ?_)
  have ge18 : n0 ≤ b17 := by rw [g17]; exact Z0
  have Z19 : n0 ≤ h17.size := by have q := Z0; exact Nat.le_trans q E17.1
  have f20 : Ary Z h17 b17 .byte 3 (fun _ => .int 0) := Ary.new A17 rfl
  refine r_astore X17.here hx (hb hby at_7) rfl (l' := #[.val (.int t), .val (.int x), .val (.int y), .val (.int z), .val (.int (x.toInt8.toInt32)), .val (.ref b17), .unset, .unset, .unset]) rfl (pc' := 9) rfl ?_
  refine r_aload X17.here hx (hb hby at_9) rfl rfl (pc' := 11) rfl ?_
  refine r_iconst X17.here hx (hb hby at_11) (v := 0) rfl (pc' := 12) rfl ?_
  refine r_iload X17.here hx (hb hby at_12) rfl (pc' := 14) rfl ?_
  refine q_bastoreB X17 hx hZ e17 (j := (0 : Int32)) f20 (by decide) (by decide) (w := (x.toInt8.toInt32)) (own_nb x) (hb hby at_14) (pc' := 15) rfl (fun T21 h21 X21 e21 W21 A21 => ?_)
  have Z22 : n0 ≤ h21.size := by have q := Z19; rw [W21.size]; exact q
  have N21 := Fr.snoc X21 N0 ge18
  refine r_aload X21.here hx (hb hby at_15) rfl rfl (pc' := 17) rfl ?_
  refine r_iconst X21.here hx (hb hby at_17) (v := 1) rfl (pc' := 18) rfl ?_
  refine r_iloadN X21.here hx (hb hby at_18) rfl (pc' := 19) rfl ?_
  refine r_i2b X21.here hx (hb hby at_19) (pc' := 20) rfl ?_
  refine q_bastoreB X21 hx hZ e21 (j := (1 : Int32)) A21 (by decide) (by decide) (w := (y.toInt8.toInt32)) (own_nb y) (hb hby at_20) (pc' := 21) rfl (fun T23 h23 X23 e23 W23 A23 => ?_)
  have Z24 : n0 ≤ h23.size := by have q := Z22; rw [W23.size]; exact q
  have N23 := Fr.snoc X23 N21 ge18
  refine r_aload X23.here hx (hb hby at_21) rfl rfl (pc' := 23) rfl ?_
  refine r_iconst X23.here hx (hb hby at_23) (v := 2) rfl (pc' := 24) rfl ?_
  refine r_iloadN X23.here hx (hb hby at_24) rfl (pc' := 25) rfl ?_
  refine r_i2b X23.here hx (hb hby at_25) (pc' := 26) rfl ?_
  refine q_bastoreB X23 hx hZ e23 (j := (2 : Int32)) A23 (by decide) (by decide) (w := (z.toInt8.toInt32)) (own_nb z) (hb hby at_26) (pc' := 27) rfl (fun T25 h25 X25 e25 W25 A25 => ?_)
  have Z26 : n0 ≤ h25.size := by have q := Z24; rw [W25.size]; exact q
  have N25 := Fr.snoc X25 N23 ge18
  refine r_new X25 hx hZ hown (hw _ (List.mem_of_getElem? (i := 1) rfl)) (hw _ (List.mem_of_getElem? (i := 2) rfl)) (hw _ (List.mem_of_getElem? (i := 3) rfl)) e25 (by decide) (by decide) (hb hby at_27) (pc' := 30) rfl (fun T27 h27 b27 g27 X27 e27 E27 A27 D27 => ?_)
  have ne28 : b27 ≠ b17 := by have q := A25.lt; rw [← g27] at q; exact Nat.ne_of_gt q
  have ge29 : n0 ≤ b27 := by rw [g27]; exact Z26
  have f30 := A25.ext E27
  have Z31 : n0 ≤ h27.size := by have q := Z26; exact Nat.le_trans q E27.1
  have f32 : Fld Z h27 b27 "com/example/lockstep/lockstep/PgMessage" "type" "B" (.int (0 : Int32)) := D27 (Or.inr (hw _ (List.mem_of_getElem? (i := 16) rfl))) (ty := .byte) (by decide)
  have f33 : Fld Z h27 b27 "com/example/lockstep/lockstep/PgMessage" "body" "[B" .null := D27 (Or.inr (hw _ (List.mem_of_getElem? (i := 18) rfl))) (ty := (.array .byte)) (by decide)
  refine r_dup X27.here hx (hb hby at_30) rfl (pc' := 31) rfl ?_
  refine r_iloadN X27.here hx (hb hby at_31) rfl (pc' := 32) rfl ?_
  refine r_i2b X27.here hx (hb hby at_32) (pc' := 33) rfl ?_
  refine r_aload X27.here hx (hb hby at_33) rfl rfl (pc' := 35) rfl ?_
  refine r_callI X27 hx hZ (y := (⟨"com/example/lockstep/lockstep/PgMessage", "<init>", "(B[B)V"⟩ : MethodName)) (rm := ({ frames := 2, cells := 0, slots := 0, locals := 24 } : Room)) hown rfl (hw _ (List.mem_of_getElem? (i := 4) rfl)) (hw _ (List.mem_of_getElem? (i := 5) rfl)) (hw _ (List.mem_of_getElem? (i := 3) rfl)) (hw _ (List.mem_of_getElem? (i := 6) rfl)) (by decide) (rmI l Z a0 hw [] b27 (t.toInt8.toInt32) b17 h27 n0 Z31 ge29 A27 f32 f33 (own_nb t)) e27 (by rw [hml]; rfl) (argsL := [(.int (t.toInt8.toInt32)), (.ref b17)]) (rest := [(.ref b27)]) (lenOf pd_1 rfl) rfl rfl (W := 1) rfl (by decide) (by decide) (by decide) (by decide) (hb hby at_35) (pc' := 38) rfl ?_
  rintro v34 T34 L34 X34 ⟨rfl, Nq34, K34, F34⟩
  have N34 := Fr.app N25 Nq34
  show Run p e below _ _ T34 (mkF m 38 #[.val (.int t), .val (.int x), .val (.int y), .val (.int z), .val (.int (x.toInt8.toInt32)), .val (.ref b17), .unset, .unset, .unset] [(.ref b27)])
  have f35 := f30.keep K34 (ninS (Ne.symm ne28) nin0)
  have f36 := A27.keep K34
  have Z37 : n0 ≤ T34.heap.size := by have q := Z31; exact Nat.le_trans q K34.1
  refine r_astore X34.here hx (hb hby at_38) rfl (l' := #[.val (.int t), .val (.int x), .val (.int y), .val (.int z), .val (.int (x.toInt8.toInt32)), .val (.ref b17), .val (.ref b27), .unset, .unset]) rfl (pc' := 40) rfl ?_
  refine r_iload X34.here hx (hb hby at_40) rfl (pc' := 42) rfl ?_
  refine r_if0_ge X34.here hx (hb hby at_42) (by decide) (pc' := 56) (by decide) (pc2 := 45) rfl (fun hc42 => ?_) (fun hc42 => ?_)
  · refine r_iload X34.here hx (hb hby at_56) rfl (pc' := 58) rfl ?_
    refine r_istore X34.here hx (hb hby at_58) (l' := #[.val (.int t), .val (.int x), .val (.int y), .val (.int z), .val (.int (x.toInt8.toInt32)), .val (.ref b17), .val (.ref b27), .val (.int (x.toInt8.toInt32)), .unset]) rfl (pc' := 60) rfl ?_
    refine r_aload X34.here hx (hb hby at_60) rfl rfl (pc' := 62) rfl ?_
    refine r_callV X34 hx hZ (y := (⟨"com/example/lockstep/lockstep/PgMessage", "firstByte", "()C"⟩ : MethodName)) (z := (⟨"com/example/lockstep/lockstep/PgMessage", "firstByte", "()C"⟩ : MethodName)) (rm := ({ frames := 0, cells := 0, slots := 0, locals := 0 } : Room)) hown (hw _ (List.mem_of_getElem? (i := 19) rfl)) (hw _ (List.mem_of_getElem? (i := 20) rfl)) (notFace_of_selects (args := #[]) (mvT hZ (hw _ (List.mem_of_getElem? (i := 22) rfl)))) (hw _ (List.mem_of_getElem? (i := 22) rfl)) (hw _ (List.mem_of_getElem? (i := 21) rfl)) (hw _ (List.mem_of_getElem? (i := 3) rfl)) (hw _ (List.mem_of_getElem? (i := 23) rfl)) (by decide) (rmF l Z a0 hw [] b27 b17 (x.toInt8.toInt32) _ T34.heap n0 Z37 F34 f35 rfl) rfl f36 (by rw [hml]; rfl) (argsL := []) (rest := []) (lenOf pd_2 rfl) rfl rfl (W := 0) rfl (by decide) (by decide) (by decide) (by decide) (hb hby at_62) (pc' := 65) rfl ?_
    rintro v38 T38 L38 X38 ⟨rfl, Nq38, e38⟩
    have N38 := Fr.app N34 Nq38
    show Run p e below _ _ T38 (mkF m 65 #[.val (.int t), .val (.int x), .val (.int y), .val (.int z), .val (.int (x.toInt8.toInt32)), .val (.ref b17), .val (.ref b27), .val (.int (x.toInt8.toInt32)), .unset] [(.int (((x.toInt8.toInt32) &&& 255).toUInt32.toUInt16.toUInt32.toInt32))])
    refine r_istore X38.here hx (hb hby at_65) (l' := #[.val (.int t), .val (.int x), .val (.int y), .val (.int z), .val (.int (x.toInt8.toInt32)), .val (.ref b17), .val (.ref b27), .val (.int (x.toInt8.toInt32)), .val (.int (((x.toInt8.toInt32) &&& 255).toUInt32.toUInt16.toUInt32.toInt32))]) rfl (pc' := 67) rfl ?_
    refine r_iload X38.here hx (hb hby at_67) rfl (pc' := 69) rfl ?_
    refine r_iload X38.here hx (hb hby at_69) rfl (pc' := 71) rfl ?_
    refine r_i2c X38.here hx (hb hby at_71) (pc' := 72) rfl ?_
    refine r_if_ne X38.here hx (hb hby at_72) (by decide) (pc' := 106) (by decide) (pc2 := 75) rfl (fun hc72 => absurd ((own_u _ (own_rb x)).trans (by rw [if_neg (by omega)])) hc72) (fun hc72 => ?_)
    refine r_aload X38.here hx (hb hby at_75) rfl rfl (pc' := 77) rfl ?_
    refine r_iconst X38.here hx (hb hby at_77) (v := 0) rfl (pc' := 78) rfl ?_
    refine q_baload X38 hx hZ e38 (j := (0 : Int32)) (v := (x.toInt8.toInt32)) f35 (by decide) (by decide) rfl (hb hby at_78) (pc' := 79) rfl ?_
    refine r_iload X38.here hx (hb hby at_79) rfl (pc' := 81) rfl ?_
    refine r_if_ne X38.here hx (hb hby at_81) (by decide) (pc' := 106) (by decide) (pc2 := 84) rfl (fun hc81 => absurd rfl hc81) (fun hc81 => ?_)
    refine r_aload X38.here hx (hb hby at_84) rfl rfl (pc' := 86) rfl ?_
    refine r_iconst X38.here hx (hb hby at_86) (v := 1) rfl (pc' := 87) rfl ?_
    refine q_baload X38 hx hZ e38 (j := (1 : Int32)) (v := (y.toInt8.toInt32)) f35 (by decide) (by decide) rfl (hb hby at_87) (pc' := 88) rfl ?_
    refine r_iloadN X38.here hx (hb hby at_88) rfl (pc' := 89) rfl ?_
    refine r_i2b X38.here hx (hb hby at_89) (pc' := 90) rfl ?_
    refine r_if_ne X38.here hx (hb hby at_90) (by decide) (pc' := 106) (by decide) (pc2 := 93) rfl (fun hc90 => absurd rfl hc90) (fun hc90 => ?_)
    refine r_aload X38.here hx (hb hby at_93) rfl rfl (pc' := 95) rfl ?_
    refine r_iconst X38.here hx (hb hby at_95) (v := 2) rfl (pc' := 96) rfl ?_
    refine q_baload X38 hx hZ e38 (j := (2 : Int32)) (v := (z.toInt8.toInt32)) f35 (by decide) (by decide) rfl (hb hby at_96) (pc' := 97) rfl ?_
    refine r_iloadN X38.here hx (hb hby at_97) rfl (pc' := 98) rfl ?_
    refine r_i2b X38.here hx (hb hby at_98) (pc' := 99) rfl ?_
    refine r_if_ne X38.here hx (hb hby at_99) (by decide) (pc' := 106) (by decide) (pc2 := 102) rfl (fun hc99 => absurd rfl hc99) (fun hc99 => ?_)
    refine r_iconst X38.here hx (hb hby at_102) (v := 1) rfl (pc' := 103) rfl ?_
    refine r_goto X38.here hx (hb hby at_103) (by decide) (pc' := 107) (by decide) ?_
    refine r_retN X38 hx hlk hret (by simp) (hb hby at_107) (w := (1 : Int32)) rfl ?_ (by decide) (by decide)
    try rw [e38]
    exact ⟨rfl, N38⟩
  · refine r_iload X34.here hx (hb hby at_45) rfl (pc' := 47) rfl ?_
    refine r_sipush X34.here hx (hb hby at_47) (v := 256) rfl (pc' := 50) rfl ?_
    refine r_iadd X34.here hx (hb hby at_50) (pc' := 51) rfl ?_
    refine r_istore X34.here hx (hb hby at_51) (l' := #[.val (.int t), .val (.int x), .val (.int y), .val (.int z), .val (.int (x.toInt8.toInt32)), .val (.ref b17), .val (.ref b27), .val (.int ((x.toInt8.toInt32) + (256 : Int32))), .unset]) rfl (pc' := 53) rfl ?_
    refine r_goto X34.here hx (hb hby at_53) (by decide) (pc' := 60) (by decide) ?_
    refine r_aload X34.here hx (hb hby at_60) rfl rfl (pc' := 62) rfl ?_
    refine r_callV X34 hx hZ (y := (⟨"com/example/lockstep/lockstep/PgMessage", "firstByte", "()C"⟩ : MethodName)) (z := (⟨"com/example/lockstep/lockstep/PgMessage", "firstByte", "()C"⟩ : MethodName)) (rm := ({ frames := 0, cells := 0, slots := 0, locals := 0 } : Room)) hown (hw _ (List.mem_of_getElem? (i := 19) rfl)) (hw _ (List.mem_of_getElem? (i := 20) rfl)) (notFace_of_selects (args := #[]) (mvT hZ (hw _ (List.mem_of_getElem? (i := 22) rfl)))) (hw _ (List.mem_of_getElem? (i := 22) rfl)) (hw _ (List.mem_of_getElem? (i := 21) rfl)) (hw _ (List.mem_of_getElem? (i := 3) rfl)) (hw _ (List.mem_of_getElem? (i := 23) rfl)) (by decide) (rmF l Z a0 hw [] b27 b17 (x.toInt8.toInt32) _ T34.heap n0 Z37 F34 f35 rfl) rfl f36 (by rw [hml]; rfl) (argsL := []) (rest := []) (lenOf pd_2 rfl) rfl rfl (W := 0) rfl (by decide) (by decide) (by decide) (by decide) (hb hby at_62) (pc' := 65) rfl ?_
    rintro v39 T39 L39 X39 ⟨rfl, Nq39, e39⟩
    have N39 := Fr.app N34 Nq39
    show Run p e below _ _ T39 (mkF m 65 #[.val (.int t), .val (.int x), .val (.int y), .val (.int z), .val (.int (x.toInt8.toInt32)), .val (.ref b17), .val (.ref b27), .val (.int ((x.toInt8.toInt32) + (256 : Int32))), .unset] [(.int (((x.toInt8.toInt32) &&& 255).toUInt32.toUInt16.toUInt32.toInt32))])
    refine r_istore X39.here hx (hb hby at_65) (l' := #[.val (.int t), .val (.int x), .val (.int y), .val (.int z), .val (.int (x.toInt8.toInt32)), .val (.ref b17), .val (.ref b27), .val (.int ((x.toInt8.toInt32) + (256 : Int32))), .val (.int (((x.toInt8.toInt32) &&& 255).toUInt32.toUInt16.toUInt32.toInt32))]) rfl (pc' := 67) rfl ?_
    refine r_iload X39.here hx (hb hby at_67) rfl (pc' := 69) rfl ?_
    refine r_iload X39.here hx (hb hby at_69) rfl (pc' := 71) rfl ?_
    refine r_i2c X39.here hx (hb hby at_71) (pc' := 72) rfl ?_
    refine r_if_ne X39.here hx (hb hby at_72) (by decide) (pc' := 106) (by decide) (pc2 := 75) rfl (fun hc72 => absurd ((own_u _ (own_rb x)).trans (by rw [if_pos (by omega)])) hc72) (fun hc72 => ?_)
    refine r_aload X39.here hx (hb hby at_75) rfl rfl (pc' := 77) rfl ?_
    refine r_iconst X39.here hx (hb hby at_77) (v := 0) rfl (pc' := 78) rfl ?_
    refine q_baload X39 hx hZ e39 (j := (0 : Int32)) (v := (x.toInt8.toInt32)) f35 (by decide) (by decide) rfl (hb hby at_78) (pc' := 79) rfl ?_
    refine r_iload X39.here hx (hb hby at_79) rfl (pc' := 81) rfl ?_
    refine r_if_ne X39.here hx (hb hby at_81) (by decide) (pc' := 106) (by decide) (pc2 := 84) rfl (fun hc81 => absurd rfl hc81) (fun hc81 => ?_)
    refine r_aload X39.here hx (hb hby at_84) rfl rfl (pc' := 86) rfl ?_
    refine r_iconst X39.here hx (hb hby at_86) (v := 1) rfl (pc' := 87) rfl ?_
    refine q_baload X39 hx hZ e39 (j := (1 : Int32)) (v := (y.toInt8.toInt32)) f35 (by decide) (by decide) rfl (hb hby at_87) (pc' := 88) rfl ?_
    refine r_iloadN X39.here hx (hb hby at_88) rfl (pc' := 89) rfl ?_
    refine r_i2b X39.here hx (hb hby at_89) (pc' := 90) rfl ?_
    refine r_if_ne X39.here hx (hb hby at_90) (by decide) (pc' := 106) (by decide) (pc2 := 93) rfl (fun hc90 => absurd rfl hc90) (fun hc90 => ?_)
    refine r_aload X39.here hx (hb hby at_93) rfl rfl (pc' := 95) rfl ?_
    refine r_iconst X39.here hx (hb hby at_95) (v := 2) rfl (pc' := 96) rfl ?_
    refine q_baload X39 hx hZ e39 (j := (2 : Int32)) (v := (z.toInt8.toInt32)) f35 (by decide) (by decide) rfl (hb hby at_96) (pc' := 97) rfl ?_
    refine r_iloadN X39.here hx (hb hby at_97) rfl (pc' := 98) rfl ?_
    refine r_i2b X39.here hx (hb hby at_98) (pc' := 99) rfl ?_
    refine r_if_ne X39.here hx (hb hby at_99) (by decide) (pc' := 106) (by decide) (pc2 := 102) rfl (fun hc99 => absurd rfl hc99) (fun hc99 => ?_)
    refine r_iconst X39.here hx (hb hby at_102) (v := 1) rfl (pc' := 103) rfl ?_
    refine r_goto X39.here hx (hb hby at_103) (by decide) (pc' := 107) (by decide) ?_
    refine r_retN X39 hx hlk hret (by simp) (hb hby at_107) (w := (1 : Int32)) rfl ?_ (by decide) (by decide)
    try rw [e39]
    exact ⟨rfl, N39⟩
set_option maxRecDepth 65536 in
set_option maxHeartbeats 40000000 in
theorem comes_1 {Post : Tables → Env → Array Value → State → Outcome → State → Prop} (hpost : ∀ tb e args s v u, (limb_1_1.after args s (.returned v) u = true ∧ limb_1_2.after args s (.returned v) u = true ∧ True) → FrameEnd s (.returned v) u (Jvm.fieldLocs frame_1_writes args s ++ Jvm.arrayLocs frame_1_arrays args s ++ Jvm.staticLocs frame_1_statics s) 16 128 → Post tb e args s (.returned v) u) :
    ArmFor flags0 classFile x code maxLocals ret World_1 tables_1 room_1 Calls_1 rest_1 Pre_1 Post := by
  intro l hfl _ _ p e ha hc hk s m args below hf hA hF happ hP
  obtain ⟨hcalls, hrest, hpre⟩ := hP
  obtain ⟨-, -, -, hnamed, -, -, -, hat⟩ := (Spec.applies_iff hf).mp happ
  obtain ⟨hg, hn⟩ := and_e (Cond.before_iff.mp (show (Jvm.Cond.and given_1 narrow_1).before args s = true from hpre))
  obtain ⟨h1, g0⟩ := and_e hg
  obtain ⟨q0, g1⟩ := and_e g0
  obtain ⟨q1, g2⟩ := and_e g1
  obtain ⟨q2, g3⟩ := and_e g2
  have q3 := g3
  obtain ⟨w0, w1, w2, w3, rfl⟩ : ∃ w0 w1 w2 w3 : Value, args = #[w0, w1, w2, w3] := by
    have hs : args.size = 4 := by simpa [Cond.value, given_1] using h1
    obtain ⟨L⟩ := args
    match L, hs with
    | [w0, w1, w2, w3], _ => exact ⟨w0, w1, w2, w3, rfl⟩
  have hw := fun d (hd : d ∈ tables_1) => atoms_spec (ws := Jvm.Cond.code x code maxLocals ret :: tables_1) hat d (List.mem_cons_of_mem _ hd)
  have hfit : Fit s := fun {y c} hc i hi => by
    obtain ⟨ha, rfl⟩ := Array.getElem?_eq_some_iff.mp hc
    have q := List.all_eq_true.mp ((Array.all_eq_true_iff_forall_mem.mp hF) _ (Array.getElem_mem ha)) i (List.mem_range.mpr hi)
    simpa [Array.getElem?_eq_getElem hi] using q
  obtain ⟨i0, e0⟩ := is_v q0
  obtain rfl : w0 = (.int i0) := Option.some.inj e0
  obtain ⟨i1, e1⟩ := is_v q1
  obtain rfl : w1 = (.int i1) := Option.some.inj e1
  obtain ⟨i2, e2⟩ := is_v q2
  obtain rfl : w2 = (.int i2) := Option.some.inj e2
  obtain ⟨i3, e3⟩ := is_v q3
  obtain rfl : w3 = (.int i3) := Option.some.inj e3
  obtain ⟨n, o, h1, h2, h3, _, L, rfl, ⟨rfl, N⟩, hq⟩ := rm0 l s _ hw tables_1 i0 i1 i2 i3  s.heap s.heap.size (Nat.le_refl _)  p e ha hc hk s m _ below hf ((Spec.applies_iff_loose hf).mp happ).1 ⟨rfl, State.Warmed39.refl s, rfl⟩ trivial
  refine ⟨n, _, h1, h2, h3, hpost _ _ _ _ _ _ ⟨Cond.after_iff.mpr rfl, Cond.after_iff.mpr (eq_i res_at (Term.int_eval (1)) rfl), trivial⟩ ⟨hq.1, hq.2.1, (hq.2.2.sift fun y hy => Or.inr (N y hy)).mono (by decide) (by decide)⟩⟩
theorem main_1_1 : Claimed_1_1 := comes_1 fun _ _ _ _ _ _ h hF => ⟨h.1, hF⟩
theorem main_1_2 : Claimed_1_2 := comes_1 fun _ _ _ _ _ _ h hF => ⟨h.2.1, hF⟩
end Jvm.Pilot.@@N@@
namespace Jvm.Pilot.@@N@@
open Jvm Jvm.ClassFile Sem Op Lib Jvm.Free Jvm.Stand Jvm.Pilot.@@N@@.Jvm.D
/-! MADE BY PROGRAM (witnessworld.py) out of the Statement's table words and the real class files: 10 classes; the members and pool entries that the words name. The judged class is class 1, her method 1. -/
namespace start1
open Jvm.ClassFile
def u (s : String) : CpInfo := .utf8 (stringToUtf16 s)
/-- a pool by its gaps: so many unusable entries, then the entry; so many at the end -/
def gap : Nat → List CpInfo → List CpInfo
  | 0, r => r
  | n + 1, r => .unusable :: gap n r
def poolList (es : List (Nat × CpInfo)) (last : Nat) : List CpInfo := es.foldr (fun e r => gap e.1 (e.2 :: r)) (gap last [])
def pool (es : List (Nat × CpInfo)) (last : Nat) : Array CpInfo := ⟨poolList es last⟩
def fileOf (pool : Array CpInfo) (this : Nat) (attrs : Array Attribute := #[]) (ms : Array MethodInfo := #[]) (fl : Nat := 33) (sup : Nat := 0) (ifs : Array Nat := #[]) (fds : Array FieldInfo := #[]) : ClassFile where
  minorVersion := 0
  majorVersion := 65
  constantPool := pool
  accessFlags := fl
  thisClass := this
  superClass := sup
  interfaces := ifs
  fields := fds
  methods := ms
  attributes := attrs
def plain (name : String) (sup : Option ClassId) : Class where
  name := name
  kind := .ordinary
  loader := none
  accessFlags := 33
  super := sup
  interfaces := #[]
  cf := none
  fields := #[]
  methods := #[]
  instanceTypes := #[]
  staticTypes := #[]
  resolved := #[]
  callSites := []
  init := .initialized
  statics := none
  mirror := none

def pool0 : Array CpInfo := pool [(5, u "<init>"), (0, u "()V"), (1, .class_ 10), (1, u "java/lang/Object")] 113

def k0c0 : Code := { maxStack := 0, maxLocals := 1, code := object_method_1_code, exceptionTable := #[], attributes := #[] }
def k0m0 : Method := { name := "<init>", desc := "()V", sig := { parameters := [], returnType := none }, accessFlags := 1, code := some k0c0 }
/-- java/lang/Object -/
def k0 : Class := { plain "java/lang/Object" none with
  accessFlags := 33
  interfaces := #[]
  cf := some (fileOf pool0 8 #[] #[{ accessFlags := 1, nameIndex := 5, descriptorIndex := 6, attributes := #[] }] 33 0 #[] #[])
  fields := #[]
  methods := #[k0m0]
  instanceTypes := #[]
  staticTypes := #[]
  resolved := Array.replicate 124 none
  statics := none }

def pool1 : Array CpInfo := pool [(2, .class_ 4), (1, u "java/lang/Object"), (0, u "<init>"), (0, u "()V"), (0, .class_ 8), (0, u "com/example/lockstep/lockstep/PgMessage"), (0, .methodref 7 10), (0, .nameAndType 5 11), (0, u "(B[B)V"), (0, .methodref 7 13), (0, .nameAndType 14 15), (0, u "firstByte"), (0, u "()C"), (0, .class_ 17), (0, u "com/example/lockstep/lockstep/PgMessageFirstBytePinLaw"), (2, u "law"), (0, u "(IIII)Z")] 5

def k1m0 : Method := { name := "<init>", desc := "()V", sig := { parameters := [], returnType := none }, accessFlags := 1, code := none }
def k1c1 : Code := { maxStack := 4, maxLocals := 9, code := code, exceptionTable := #[], attributes := #[] }
def k1m1 : Method := { name := "law", desc := "(IIII)Z", sig := { parameters := [.int, .int, .int, .int], returnType := some .boolean }, accessFlags := 9, code := some k1c1 }
/-- com/example/lockstep/lockstep/PgMessageFirstBytePinLaw -/
def k1 : Class := { plain "com/example/lockstep/lockstep/PgMessageFirstBytePinLaw" (some 0) with
  accessFlags := 49
  interfaces := #[]
  cf := some (fileOf pool1 16 #[] #[{ accessFlags := 1, nameIndex := 5, descriptorIndex := 6, attributes := #[] }, { accessFlags := 9, nameIndex := 20, descriptorIndex := 21, attributes := #[] }] 49 2 #[] #[])
  fields := #[]
  methods := #[k1m0, k1m1]
  instanceTypes := #[]
  staticTypes := #[]
  resolved := Array.replicate 27 none
  statics := none }

def pool2 : Array CpInfo := pool [(1, .methodref 2 3), (0, .class_ 4), (0, .nameAndType 5 6), (0, u "java/lang/Object"), (0, u "<init>"), (0, u "()V"), (0, .class_ 8), (0, u "java/lang/Record")] 13

def k2c0 : Code := { maxStack := 1, maxLocals := 1, code := jdk_30_method_1_code, exceptionTable := #[], attributes := #[] }
def k2m0 : Method := { name := "<init>", desc := "()V", sig := { parameters := [], returnType := none }, accessFlags := 4, code := some k2c0 }
/-- java/lang/Record -/
def k2 : Class := { plain "java/lang/Record" (some 0) with
  accessFlags := 1057
  interfaces := #[]
  cf := some (fileOf pool2 7 #[] #[{ accessFlags := 4, nameIndex := 5, descriptorIndex := 6, attributes := #[] }] 1057 2 #[] #[])
  fields := #[]
  methods := #[k2m0]
  instanceTypes := #[]
  staticTypes := #[]
  resolved := Array.replicate 22 none
  statics := none }

def pool3 : Array CpInfo := pool [(1, .methodref 2 3), (0, .class_ 4), (0, .nameAndType 5 6), (0, u "java/lang/Record"), (0, u "<init>"), (0, u "()V"), (0, .fieldref 8 9), (0, .class_ 10), (0, .nameAndType 11 12), (0, u "com/example/lockstep/lockstep/PgMessage"), (0, u "type"), (0, u "B"), (0, .fieldref 8 14), (0, .nameAndType 15 16), (0, u "body"), (0, u "[B"), (28, u "(B[B)V"), (78, u "CANCEL_REQUEST"), (0, u "I"), (2, u "QUERY"), (1, u "TERMINATE"), (1, u "PARSE"), (1, u "BIND"), (1, u "DESCRIBE"), (1, u "EXECUTE"), (1, u "CLOSE"), (1, u "SYNC"), (1, u "FLUSH"), (1, u "FUNCTION_CALL"), (1, u "COPY_DATA"), (1, u "COPY_DONE"), (1, u "COPY_FAIL"), (1, u "STATEMENT"), (0, u "PORTAL"), (0, u "AUTHENTICATION"), (1, u "BACKEND_KEY_DATA"), (1, u "PARAMETER_STATUS"), (0, u "READY_FOR_QUERY"), (1, u "ERROR_RESPONSE"), (0, u "NOTICE_RESPONSE"), (1, u "ROW_DESCRIPTION"), (1, u "DATA_ROW"), (0, u "COMMAND_COMPLETE"), (0, u "EMPTY_QUERY_RESPONSE"), (1, u "COPY_IN_RESPONSE"), (1, u "PARSE_COMPLETE"), (1, u "BIND_COMPLETE"), (1, u "CLOSE_COMPLETE"), (1, u "PARAMETER_DESCRIPTION"), (1, u "NO_DATA"), (1, u "PORTAL_SUSPENDED"), (28, u "firstByte"), (0, u "()C")] 30

def k3c0 : Code := { maxStack := 2, maxLocals := 3, code := prog_29_method_1_code, exceptionTable := #[], attributes := #[] }
def k3m0 : Method := { name := "<init>", desc := "(B[B)V", sig := { parameters := [.byte, (.array .byte)], returnType := none }, accessFlags := 0, code := some k3c0 }
def k3c1 : Code := { maxStack := 2, maxLocals := 1, code := prog_29_method_18_code, exceptionTable := #[], attributes := #[] }
def k3m1 : Method := { name := "firstByte", desc := "()C", sig := { parameters := [], returnType := some .char }, accessFlags := 0, code := some k3c1 }
/-- com/example/lockstep/lockstep/PgMessage -/
def k3 : Class := { plain "com/example/lockstep/lockstep/PgMessage" (some 2) with
  accessFlags := 48
  interfaces := #[]
  cf := some (fileOf pool3 8 #[] #[{ accessFlags := 0, nameIndex := 5, descriptorIndex := 45, attributes := #[] }, { accessFlags := 0, nameIndex := 213, descriptorIndex := 214, attributes := #[] }] 48 2 #[] #[{ accessFlags := 18, nameIndex := 11, descriptorIndex := 12, attributes := #[] }, { accessFlags := 18, nameIndex := 15, descriptorIndex := 16, attributes := #[] }, { accessFlags := 24, nameIndex := 124, descriptorIndex := 125, attributes := #[] }, { accessFlags := 24, nameIndex := 128, descriptorIndex := 12, attributes := #[] }, { accessFlags := 24, nameIndex := 130, descriptorIndex := 12, attributes := #[] }, { accessFlags := 24, nameIndex := 132, descriptorIndex := 12, attributes := #[] }, { accessFlags := 24, nameIndex := 134, descriptorIndex := 12, attributes := #[] }, { accessFlags := 24, nameIndex := 136, descriptorIndex := 12, attributes := #[] }, { accessFlags := 24, nameIndex := 138, descriptorIndex := 12, attributes := #[] }, { accessFlags := 24, nameIndex := 140, descriptorIndex := 12, attributes := #[] }, { accessFlags := 24, nameIndex := 142, descriptorIndex := 12, attributes := #[] }, { accessFlags := 24, nameIndex := 144, descriptorIndex := 12, attributes := #[] }, { accessFlags := 24, nameIndex := 146, descriptorIndex := 12, attributes := #[] }, { accessFlags := 24, nameIndex := 148, descriptorIndex := 12, attributes := #[] }, { accessFlags := 24, nameIndex := 150, descriptorIndex := 12, attributes := #[] }, { accessFlags := 24, nameIndex := 152, descriptorIndex := 12, attributes := #[] }, { accessFlags := 24, nameIndex := 154, descriptorIndex := 12, attributes := #[] }, { accessFlags := 24, nameIndex := 155, descriptorIndex := 12, attributes := #[] }, { accessFlags := 24, nameIndex := 156, descriptorIndex := 12, attributes := #[] }, { accessFlags := 24, nameIndex := 158, descriptorIndex := 12, attributes := #[] }, { accessFlags := 24, nameIndex := 160, descriptorIndex := 12, attributes := #[] }, { accessFlags := 24, nameIndex := 161, descriptorIndex := 12, attributes := #[] }, { accessFlags := 24, nameIndex := 163, descriptorIndex := 12, attributes := #[] }, { accessFlags := 24, nameIndex := 164, descriptorIndex := 12, attributes := #[] }, { accessFlags := 24, nameIndex := 166, descriptorIndex := 12, attributes := #[] }, { accessFlags := 24, nameIndex := 168, descriptorIndex := 12, attributes := #[] }, { accessFlags := 24, nameIndex := 169, descriptorIndex := 12, attributes := #[] }, { accessFlags := 24, nameIndex := 170, descriptorIndex := 12, attributes := #[] }, { accessFlags := 24, nameIndex := 172, descriptorIndex := 12, attributes := #[] }, { accessFlags := 24, nameIndex := 174, descriptorIndex := 12, attributes := #[] }, { accessFlags := 24, nameIndex := 176, descriptorIndex := 12, attributes := #[] }, { accessFlags := 24, nameIndex := 178, descriptorIndex := 12, attributes := #[] }, { accessFlags := 24, nameIndex := 180, descriptorIndex := 12, attributes := #[] }, { accessFlags := 24, nameIndex := 182, descriptorIndex := 12, attributes := #[] }, { accessFlags := 24, nameIndex := 184, descriptorIndex := 12, attributes := #[] }])
  fields := #[{ name := "type", type := .byte, accessFlags := 18, slot := 0, constantValue := 0 }, { name := "body", type := (.array .byte), accessFlags := 18, slot := 1, constantValue := 0 }, { name := "CANCEL_REQUEST", type := .int, accessFlags := 24, slot := 0, constantValue := 0 }, { name := "QUERY", type := .byte, accessFlags := 24, slot := 1, constantValue := 0 }, { name := "TERMINATE", type := .byte, accessFlags := 24, slot := 2, constantValue := 0 }, { name := "PARSE", type := .byte, accessFlags := 24, slot := 3, constantValue := 0 }, { name := "BIND", type := .byte, accessFlags := 24, slot := 4, constantValue := 0 }, { name := "DESCRIBE", type := .byte, accessFlags := 24, slot := 5, constantValue := 0 }, { name := "EXECUTE", type := .byte, accessFlags := 24, slot := 6, constantValue := 0 }, { name := "CLOSE", type := .byte, accessFlags := 24, slot := 7, constantValue := 0 }, { name := "SYNC", type := .byte, accessFlags := 24, slot := 8, constantValue := 0 }, { name := "FLUSH", type := .byte, accessFlags := 24, slot := 9, constantValue := 0 }, { name := "FUNCTION_CALL", type := .byte, accessFlags := 24, slot := 10, constantValue := 0 }, { name := "COPY_DATA", type := .byte, accessFlags := 24, slot := 11, constantValue := 0 }, { name := "COPY_DONE", type := .byte, accessFlags := 24, slot := 12, constantValue := 0 }, { name := "COPY_FAIL", type := .byte, accessFlags := 24, slot := 13, constantValue := 0 }, { name := "STATEMENT", type := .byte, accessFlags := 24, slot := 14, constantValue := 0 }, { name := "PORTAL", type := .byte, accessFlags := 24, slot := 15, constantValue := 0 }, { name := "AUTHENTICATION", type := .byte, accessFlags := 24, slot := 16, constantValue := 0 }, { name := "BACKEND_KEY_DATA", type := .byte, accessFlags := 24, slot := 17, constantValue := 0 }, { name := "PARAMETER_STATUS", type := .byte, accessFlags := 24, slot := 18, constantValue := 0 }, { name := "READY_FOR_QUERY", type := .byte, accessFlags := 24, slot := 19, constantValue := 0 }, { name := "ERROR_RESPONSE", type := .byte, accessFlags := 24, slot := 20, constantValue := 0 }, { name := "NOTICE_RESPONSE", type := .byte, accessFlags := 24, slot := 21, constantValue := 0 }, { name := "ROW_DESCRIPTION", type := .byte, accessFlags := 24, slot := 22, constantValue := 0 }, { name := "DATA_ROW", type := .byte, accessFlags := 24, slot := 23, constantValue := 0 }, { name := "COMMAND_COMPLETE", type := .byte, accessFlags := 24, slot := 24, constantValue := 0 }, { name := "EMPTY_QUERY_RESPONSE", type := .byte, accessFlags := 24, slot := 25, constantValue := 0 }, { name := "COPY_IN_RESPONSE", type := .byte, accessFlags := 24, slot := 26, constantValue := 0 }, { name := "PARSE_COMPLETE", type := .byte, accessFlags := 24, slot := 27, constantValue := 0 }, { name := "BIND_COMPLETE", type := .byte, accessFlags := 24, slot := 28, constantValue := 0 }, { name := "CLOSE_COMPLETE", type := .byte, accessFlags := 24, slot := 29, constantValue := 0 }, { name := "PARAMETER_DESCRIPTION", type := .byte, accessFlags := 24, slot := 30, constantValue := 0 }, { name := "NO_DATA", type := .byte, accessFlags := 24, slot := 31, constantValue := 0 }, { name := "PORTAL_SUSPENDED", type := .byte, accessFlags := 24, slot := 32, constantValue := 0 }]
  methods := #[k3m0, k3m1]
  instanceTypes := #[.byte, (.array .byte)]
  staticTypes := #[.int, .byte, .byte, .byte, .byte, .byte, .byte, .byte, .byte, .byte, .byte, .byte, .byte, .byte, .byte, .byte, .byte, .byte, .byte, .byte, .byte, .byte, .byte, .byte, .byte, .byte, .byte, .byte, .byte, .byte, .byte, .byte, .byte]
  resolved := Array.replicate 245 none
  statics := none }

def pool4 : Array CpInfo := pool [(1, u "java/lang/Cloneable"), (0, .class_ 1), (0, u "java/lang/Object"), (0, .class_ 3)] 3

/-- java/lang/Cloneable -/
def k4 : Class := { plain "java/lang/Cloneable" (some 0) with
  accessFlags := 1537
  interfaces := #[]
  cf := some (fileOf pool4 2 #[] #[] 1537 4 #[] #[])
  fields := #[]
  methods := #[]
  instanceTypes := #[]
  staticTypes := #[]
  resolved := Array.replicate 8 none
  statics := none }

def pool5 : Array CpInfo := pool [(1, u "java/io/Serializable"), (0, .class_ 1), (0, u "java/lang/Object"), (0, .class_ 3)] 3

/-- java/io/Serializable -/
def k5 : Class := { plain "java/io/Serializable" (some 0) with
  accessFlags := 1537
  interfaces := #[]
  cf := some (fileOf pool5 2 #[] #[] 1537 4 #[] #[])
  fields := #[]
  methods := #[]
  instanceTypes := #[]
  staticTypes := #[]
  resolved := Array.replicate 8 none
  statics := none }

/-- the primitive byte -/
def k6 : Class := { plain "byte" none with kind := .primitive 'B', accessFlags := 0x411 }
/-- [B -/
def k7 : Class := { plain "[B" (some 0) with kind := .array 6 .byte, interfaces := #[4, 5], accessFlags := 1041 }

/-- the primitive int -/
def k8 : Class := { plain "int" none with kind := .primitive 'I', accessFlags := 0x411 }
/-- [I -/
def k9 : Class := { plain "[I" (some 0) with kind := .array 8 .int, interfaces := #[4, 5], accessFlags := 1041 }

def heap : Heap := #[]
def classes : Array Class := #[k0, k1, k2, k3, k4, k5, k6, k7, k8, k9]
def interned : List (Array UInt16 × Addr) := []
def slotsUsed : Nat := 0
def theMethod : MethodId := ⟨1, 1⟩
def args0 : Array Value := #[.int 5, .int 7, .int (-3), .int 9]
def aboutOver (below : List Frame) : State where
  vm := { classes := classes, interned := interned.toArray }
  heap := heap
  slotsUsed := slotsUsed
  threads := #[{ frames := .invoking theMethod args0 :: below }]
def below0 : List Frame := [.native { method := ⟨0, 0⟩, args := #[] }]
def about1 : State := aboutOver below0
def p0 : Program := .bare "" "" ""
def e0 : Env := launch0.env 0 0 0
theorem w_frames : about1.frames = Frame.invoking theMethod args0 :: below0 := rfl
set_option maxRecDepth 65536 in
theorem w_args : argsFit about1.vm theMethod args0 = true := by decide +kernel
set_option maxRecDepth 65536 in
theorem w_heap : heapFits about1 = true := by decide +kernel
set_option maxRecDepth 65536 in
theorem w_runnable : about1.curStatus? = some .runnable := by decide +kernel
set_option maxRecDepth 65536 in
theorem w_alone : about1.alone = true := by decide +kernel
set_option maxRecDepth 65536 in
theorem w_named : about1.methodNamed? x = some theMethod := by decide +kernel
set_option maxRecDepth 65536 in
theorem w_hears : about1.hears theMethod below0 = true := by decide +kernel
set_option maxRecDepth 65536 in
theorem w_ripe : about1.ripe theMethod args0 below0 = true := by decide +kernel
theorem w_running : about1.status = .running := rfl
set_option maxRecDepth 65536 in
theorem w_room : about1.hasRoom e0.platform room_1 = true :=
  launch0.hasRoom_least _ room_1 (by decide +kernel) (by decide +kernel) (by decide +kernel) (by decide +kernel) (by decide +kernel) (by decide +kernel)
theorem allAtoms_all (ts : List Jvm.Cond) (a : Array Jvm.Value) (st : Jvm.State) : (allAtoms ts).before a st = ts.all (fun c => c.before a st) := by
  induction ts with
  | nil => rfl
  | cons c t ih =>
    show (Jvm.Cond.and c (allAtoms t)).before a st = _
    rw [Jvm.Cond.before_and, ih, List.all_cons]
def words1 : List Jvm.Cond := Jvm.Cond.code x code maxLocals ret :: tables_1
/-- a 'code' word, met by the world's own term for the bytes: nothing is compared byte by byte -/
theorem code_word {y : MethodName} {bytes : ByteArray} {mx : Nat} {rt : Option FieldType} {a : Array Value} {s : State} {m : MethodId} {meth : Method} {c : Code} (h1 : s.methodNamed? y = some m) (h2 : s.vm.method? m = some meth) (h3 : meth.code = some c) (h4 : c.code = bytes)
    (h5 : (c.maxLocals == mx && c.exceptionTable.isEmpty && decide (c.maxStack ≤ mostOperands) && decide (meth.sig.returnType = rt) && !meth.locks && decide (parseMethodDescriptor y.desc = some meth.sig)) = true) : (Jvm.Cond.code y bytes mx rt).before a s = true := by
  simp only [Bool.and_eq_true, beq_iff_eq, Bool.not_eq_true', decide_eq_true_eq] at h5
  obtain ⟨⟨⟨⟨⟨g1, g2⟩, g3⟩, g4⟩, g5⟩, g6⟩ := h5
  simp [Cond.before, Cond.holds, Cond.value, h1, h2, h3, h4, g1, g2, g3, g4, g5, g6]
def isCode : Jvm.Cond → Bool
  | .code _ _ _ _ => true
  | _ => false
theorem all_split {L : List Jvm.Cond} {P : Jvm.Cond → Bool} (h1 : L.all (fun c => isCode c || P c) = true) (h2 : ∀ c ∈ L.filter isCode, P c = true) : L.all P = true := by
  refine List.all_eq_true.mpr fun c hc => ?_
  have h := List.all_eq_true.mp h1 c hc
  rcases Bool.eq_false_or_eq_true (isCode c) with hi | hi
  · exact h2 c (List.mem_filter.mpr ⟨hc, hi⟩)
  · simpa [hi] using h
set_option maxRecDepth 65536 in
theorem w_c0 : (Jvm.Cond.code x code maxLocals ret).before args0 about1 = true := code_word (m := ⟨1, 1⟩) (meth := k1m1) (c := k1c1) (by decide +kernel) rfl rfl rfl (by decide +kernel)
set_option maxRecDepth 65536 in
theorem w_c1 : (Jvm.Cond.code ({ cls := "com/example/lockstep/lockstep/PgMessage", name := "<init>", desc := "(B[B)V" } : Jvm.MethodName) prog_29_method_1_code (3 : Nat) (Option.none : Option Jvm.ClassFile.FieldType)).before args0 about1 = true := code_word (m := ⟨3, 0⟩) (meth := k3m0) (c := k3c0) (by decide +kernel) rfl rfl rfl (by decide +kernel)
set_option maxRecDepth 65536 in
theorem w_c2 : (Jvm.Cond.code ({ cls := "java/lang/Record", name := "<init>", desc := "()V" } : Jvm.MethodName) jdk_30_method_1_code (1 : Nat) (Option.none : Option Jvm.ClassFile.FieldType)).before args0 about1 = true := code_word (m := ⟨2, 0⟩) (meth := k2m0) (c := k2c0) (by decide +kernel) rfl rfl rfl (by decide +kernel)
set_option maxRecDepth 65536 in
theorem w_c3 : (Jvm.Cond.code ({ cls := "java/lang/Object", name := "<init>", desc := "()V" } : Jvm.MethodName) object_method_1_code (1 : Nat) (Option.none : Option Jvm.ClassFile.FieldType)).before args0 about1 = true := code_word (m := ⟨0, 0⟩) (meth := k0m0) (c := k0c0) (by decide +kernel) rfl rfl rfl (by decide +kernel)
set_option maxRecDepth 65536 in
theorem w_c4 : (Jvm.Cond.code ({ cls := "com/example/lockstep/lockstep/PgMessage", name := "firstByte", desc := "()C" } : Jvm.MethodName) prog_29_method_18_code (1 : Nat) (Option.some Jvm.ClassFile.FieldType.char)).before args0 about1 = true := code_word (m := ⟨3, 1⟩) (meth := k3m1) (c := k3c1) (by decide +kernel) rfl rfl rfl (by decide +kernel)
def codes1 : List Jvm.Cond := [Jvm.Cond.code x code maxLocals ret, Jvm.Cond.code ({ cls := "com/example/lockstep/lockstep/PgMessage", name := "<init>", desc := "(B[B)V" } : Jvm.MethodName) prog_29_method_1_code (3 : Nat) (Option.none : Option Jvm.ClassFile.FieldType), Jvm.Cond.code ({ cls := "java/lang/Record", name := "<init>", desc := "()V" } : Jvm.MethodName) jdk_30_method_1_code (1 : Nat) (Option.none : Option Jvm.ClassFile.FieldType), Jvm.Cond.code ({ cls := "java/lang/Object", name := "<init>", desc := "()V" } : Jvm.MethodName) object_method_1_code (1 : Nat) (Option.none : Option Jvm.ClassFile.FieldType), Jvm.Cond.code ({ cls := "com/example/lockstep/lockstep/PgMessage", name := "firstByte", desc := "()C" } : Jvm.MethodName) prog_29_method_18_code (1 : Nat) (Option.some Jvm.ClassFile.FieldType.char)]
set_option maxRecDepth 65536 in
theorem codes_eq : words1.filter isCode = codes1 := rfl
theorem w_codes : ∀ c ∈ words1.filter isCode, c.before args0 about1 = true := by
  rw [codes_eq]
  intro c hc
  simp only [codes1, List.mem_cons, List.not_mem_nil, or_false] at hc
  rcases hc with rfl | rfl | rfl | rfl | rfl
  · exact w_c0
  · exact w_c1
  · exact w_c2
  · exact w_c3
  · exact w_c4
set_option maxRecDepth 65536 in
theorem w_t1 : (words1.take 24).all (fun c => isCode c || c.before args0 about1) = true := by decide +kernel
set_option maxRecDepth 65536 in
theorem w_t2 : (words1.drop 24).all (fun c => isCode c || c.before args0 about1) = true := by decide +kernel
theorem w_tables : (allAtoms (Jvm.Cond.code x code maxLocals ret :: tables_1)).before args0 about1 = true := by
  rw [allAtoms_all]
  show words1.all (fun c => c.before args0 about1) = true
  refine all_split ?_ w_codes
  rw [← List.take_append_drop 24 words1, List.all_append, w_t1, w_t2]
  rfl
set_option maxRecDepth 65536 in
theorem w_case : (Jvm.Cond.and given_1 narrow_1).before args0 about1 = true := by decide +kernel
theorem w_applies : (headSpec (Jvm.Cond.code x code maxLocals ret :: tables_1) room_1).applies x e0.platform about1 = true :=
  (Spec.applies_iff w_frames).mpr ⟨w_running, w_runnable, w_alone, w_named, w_hears, w_ripe, w_room, w_tables⟩
theorem atStart : AtStart classFile x code maxLocals ret World_1 tables_1 room_1 Calls_1 rest_1 Pre_1 launch0 p0 e0 about1 theMethod args0 below0 :=
  ⟨lists_1, trivial, launch0.admits_env _ _ _, launch0.least_env, fairChoices_fair.cas, fairChoices_fair.clock, w_frames, w_args, w_heap, w_applies, trivial, trivial, w_case⟩
end start1
theorem witness_1 : WitnessClaimed_1 := ⟨start1.p0, start1.e0, start1.about1, start1.theMethod, start1.args0, start1.below0, start1.atStart⟩
end Jvm.Pilot.@@N@@
