import JvmDerived
import JvmDerived.Pilot.@@N@@Statement
import JvmDerived.Pilot.@@N@@Code
set_option linter.unusedVariables false
set_option linter.unusedSimpArgs false
namespace Jvm.Pilot.@@N@@
open Jvm Jvm.ClassFile Sem Op Lib Jvm.Free Jvm.Stand Jvm.LawKit Jvm.RoadKit Bundle Jvm.Pilot.@@N@@.Jvm.D
section Core
variable {p : Program} {l : Launch} {e : Env} {R : Room} {s : State} {m : MethodId} {args : Array Value} {below : List Frame} {meth : Method} {c : Code} {T T' : State} {locs : List Loc} {cells slots : Nat} {Q : Option Value → Heap → List Loc → Prop} {En : Outcome → State → List Loc → Prop} {kc ks : Nat} {Z : State} {a0 : Array Value} {h : Heap} {Ls : Array Slot} {st rest : List Value} {pc pc' : Nat}
def ushrI (x y : Int32) : Int32 := (x.toUInt32 >>> (y &&& 31).toUInt32).toInt32
def ushrJ (x : Int64) (y : Int32) : Int64 := (x.toUInt64 >>> (y &&& 0x3f).toInt64.toUInt64).toInt64
def cmpJ (x y : Int64) : Int32 := if x > y then 1 else if x = y then 0 else -1
def Run (p : Program) (e : Env) (below : List Frame) (Q : Option Value → Heap → List Loc → Prop) (En : Outcome → State → List Loc → Prop) (T : State) (g : JFrame) : Prop :=
  ∃ s₂ o, Steps p.tables e below (T.setTop g) s₂ ∧ s₂.status = .running ∧ Ended s₂ below o ∧ ∃ v L, o = .returned v ∧ Q v s₂.heap L ∧ En o s₂ L
theorem Run.on {g g' : JFrame} (r : Run p e below Q En T' g') (q : ∀ t, Steps p.tables e below (T'.setTop g') t → Steps p.tables e below (T.setTop g) t) : Run p e below Q En T g := by
  obtain ⟨s₂, o, h1, r⟩ := r
  exact ⟨s₂, o, q _ h1, r⟩
theorem Run.cast {g g' : JFrame} (q : g = g') (r : Run p e below Q En T g') : Run p e below Q En T g := q ▸ r
abbrev Met (l : Launch) (Z : State) (y : MethodName) (bytes : ByteArray) (maxL : Nat) (ret : Option FieldType) (ws : List Jvm.Cond) (rm : Room) (as' : Array Value) (h0 : Heap) (Q : Option Value → Heap → List Loc → Prop) (kc ks : Nat) : Prop :=
  MetFree l y (head1 (Jvm.Cond.code y bytes maxL ret :: ws) rm) (fun a U => a = as' ∧ Z.Warmed39 U.vm ∧ U.heap = h0) (fun _ _ _ _ _ => True) (fun _ U o U' => ∃ v L, o = .returned v ∧ Q v U'.heap L ∧ FrameEnd U o U' L kc ks)
theorem met_of {y : MethodName} {bytes : ByteArray} {maxL : Nat} {ret : Option FieldType} {ws : List Jvm.Cond} {rm : Room} {as' : Array Value} {h0 : Heap} {Q : Option Value → Heap → List Loc → Prop} {kc ks : Nat} {f0 : MethodId → JFrame} (hpn : plainFor y = true)
    (hef : ∀ m, entryFrame m as' maxL = f0 m)
    (body : ∀ (p : Program) (e : Env) (s : State) (m : MethodId) (below : List Frame) (meth : Method) (c : Code) (s₁ : State), Stand p l e rm s m as' below meth c s₁ [] 0 0 → p.tables.exec = Jvm.exec → c.code = bytes → c.maxLocals = maxL → meth.sig.returnType = ret → meth.locks = false → s.vm.findClass y.cls = some m.cls → meth.name = y.name → Z.Warmed39 s.vm → s₁.heap = h0 → Run p e below Q (fun o t L => FrameEnd s o t L kc ks) s₁ (f0 m)) :
    Met l Z y bytes maxL ret ws rm as' h0 Q kc ks := by
  refine MetFree.of_bodySF (code := bytes) (maxLocals := maxL) (ret := ret) hpn hisR ?_
  intro p e s m args below meth c s₁ Bd hml0 hP hK
  obtain ⟨rfl, hZ, hh⟩ := hP
  obtain ⟨s₂, o, r⟩ := body p e s m below meth c s₁ (Stand.of_body Bd) Bd.exec Bd.bytes hml0 Bd.returns (BodyLoose.notSynchronized Bd) (findClass_of_methodNamed Bd.named) (name_of_methodNamed Bd.named Bd.method).1 hZ (by rw [← hh, Bd.state]; rfl)
  rw [hef m]
  exact ⟨s₂, o, r⟩
theorem r_aloadN (at_ : At T m c below) (hx : p.tables.exec = Jvm.exec) {k : Fin 4} {v : Value} (hd : decode c.code pc = .ok (.aload_n k, 1)) (hl : Ls[k.val]? = some (.val v)) (hv : v.isRef = true) (hp : pc + 1 = pc') (r : Run p e below Q En T (mkF m pc' Ls (v :: rest))) : Run p e below Q En T (mkF m pc Ls (rest)) := by
  subst hp; exact r.on fun _ q => XS.aloadN at_ hx rfl hd hl hv q
theorem r_aload (at_ : At T m c below) (hx : p.tables.exec = Jvm.exec) {k : Nat} {v : Value} (hd : decode c.code pc = .ok (.aload k, 2)) (hl : Ls[k]? = some (.val v)) (hv : v.isRef = true) (hp : pc + 2 = pc') (r : Run p e below Q En T (mkF m pc' Ls (v :: rest))) : Run p e below Q En T (mkF m pc Ls (rest)) := by
  subst hp; exact r.on fun _ q => XS.aload at_ hx rfl hd hl hv q
theorem r_iloadN (at_ : At T m c below) (hx : p.tables.exec = Jvm.exec) {k : Fin 4} {v : Int32} (hd : decode c.code pc = .ok (.iload_n k, 1)) (hl : Ls[k.val]? = some (.val (.int v))) (hp : pc + 1 = pc') (r : Run p e below Q En T (mkF m pc' Ls (.int v :: rest))) : Run p e below Q En T (mkF m pc Ls (rest)) := by
  subst hp; exact r.on fun _ q => XS.iloadN at_ hx rfl hd hl q
theorem r_iload (at_ : At T m c below) (hx : p.tables.exec = Jvm.exec) {k : Nat} {v : Int32} (hd : decode c.code pc = .ok (.iload k, 2)) (hl : Ls[k]? = some (.val (.int v))) (hp : pc + 2 = pc') (r : Run p e below Q En T (mkF m pc' Ls (.int v :: rest))) : Run p e below Q En T (mkF m pc Ls (rest)) := by
  subst hp; exact r.on fun _ q => XS.iload at_ hx rfl hd hl q
theorem r_lloadN (at_ : At T m c below) (hx : p.tables.exec = Jvm.exec) {k : Fin 4} {v : Int64} (hd : decode c.code pc = .ok (.lload_n k, 1)) (hl : Ls[k.val]? = some (.val (.long v))) (hp : pc + 1 = pc') (r : Run p e below Q En T (mkF m pc' Ls (.long v :: rest))) : Run p e below Q En T (mkF m pc Ls (rest)) := by
  subst hp; exact r.on fun _ q => XS.lloadN at_ hx rfl hd hl q
theorem r_lload (at_ : At T m c below) (hx : p.tables.exec = Jvm.exec) {k : Nat} {v : Int64} (hd : decode c.code pc = .ok (.lload k, 2)) (hl : Ls[k]? = some (.val (.long v))) (hp : pc + 2 = pc') (r : Run p e below Q En T (mkF m pc' Ls (.long v :: rest))) : Run p e below Q En T (mkF m pc Ls (rest)) := by
  subst hp; exact r.on fun _ q => XS.lload at_ hx rfl hd hl q
theorem r_istoreN (at_ : At T m c below) (hx : p.tables.exec = Jvm.exec) {k : Fin 4} {x : Int32} {l' : Array Slot} (hd : decode c.code pc = .ok (.istore_n k, 1)) (hl : storeLocals Ls k.val (.int x) = some l') (hp : pc + 1 = pc') (r : Run p e below Q En T (mkF m pc' l' (rest))) : Run p e below Q En T (mkF m pc Ls (.int x :: rest)) := by
  subst hp; exact r.on fun _ q => XS.istoreN at_ hx rfl hd rfl hl q
theorem r_istore (at_ : At T m c below) (hx : p.tables.exec = Jvm.exec) {k : Nat} {x : Int32} {l' : Array Slot} (hd : decode c.code pc = .ok (.istore k, 2)) (hl : storeLocals Ls k (.int x) = some l') (hp : pc + 2 = pc') (r : Run p e below Q En T (mkF m pc' l' (rest))) : Run p e below Q En T (mkF m pc Ls (.int x :: rest)) := by
  subst hp; exact r.on fun _ q => XS.istore at_ hx rfl hd rfl hl q
theorem r_lstoreN (at_ : At T m c below) (hx : p.tables.exec = Jvm.exec) {k : Fin 4} {x : Int64} {l' : Array Slot} (hd : decode c.code pc = .ok (.lstore_n k, 1)) (hl : storeLocals Ls k.val (.long x) = some l') (hp : pc + 1 = pc') (r : Run p e below Q En T (mkF m pc' l' (rest))) : Run p e below Q En T (mkF m pc Ls (.long x :: rest)) := by
  subst hp; exact r.on fun _ q => XS.lstoreN at_ hx rfl hd rfl hl q
theorem r_lstore (at_ : At T m c below) (hx : p.tables.exec = Jvm.exec) {k : Nat} {x : Int64} {l' : Array Slot} (hd : decode c.code pc = .ok (.lstore k, 2)) (hl : storeLocals Ls k (.long x) = some l') (hp : pc + 2 = pc') (r : Run p e below Q En T (mkF m pc' l' (rest))) : Run p e below Q En T (mkF m pc Ls (.long x :: rest)) := by
  subst hp; exact r.on fun _ q => XS.lstore at_ hx rfl hd rfl hl q
theorem r_astoreN (at_ : At T m c below) (hx : p.tables.exec = Jvm.exec) {k : Fin 4} {x : Value} {l' : Array Slot} (hd : decode c.code pc = .ok (.astore_n k, 1)) (hv : x.isRef = true) (hl : storeLocals Ls k.val x = some l') (hp : pc + 1 = pc') (r : Run p e below Q En T (mkF m pc' l' (rest))) : Run p e below Q En T (mkF m pc Ls (x :: rest)) := by
  subst hp; exact r.on fun _ q => XS.astoreN at_ hx rfl hd rfl hv hl q
theorem r_astore (at_ : At T m c below) (hx : p.tables.exec = Jvm.exec) {k : Nat} {x : Value} {l' : Array Slot} (hd : decode c.code pc = .ok (.astore k, 2)) (hv : x.isRef = true) (hl : storeLocals Ls k x = some l') (hp : pc + 2 = pc') (r : Run p e below Q En T (mkF m pc' l' (rest))) : Run p e below Q En T (mkF m pc Ls (x :: rest)) := by
  subst hp; exact r.on fun _ q => XS.astore at_ hx rfl hd rfl hv hl q
theorem r_iconst (at_ : At T m c below) (hx : p.tables.exec = Jvm.exec) {i : Int} {v : Int32} (hd : decode c.code pc = .ok (.iconst i, 1)) (hv : Int32.ofInt i = v) (hp : pc + 1 = pc') (r : Run p e below Q En T (mkF m pc' Ls (.int v :: rest))) : Run p e below Q En T (mkF m pc Ls rest) := by
  subst hp hv; exact r.on fun _ q => XS.iconst at_ hx rfl hd q
theorem r_bipush (at_ : At T m c below) (hx : p.tables.exec = Jvm.exec) {i : Int} {v : Int32} (hd : decode c.code pc = .ok (.bipush i, 2)) (hv : (Int8.ofInt i).toInt32 = v) (hp : pc + 2 = pc') (r : Run p e below Q En T (mkF m pc' Ls (.int v :: rest))) : Run p e below Q En T (mkF m pc Ls rest) := by
  subst hp hv; exact r.on fun _ q => XS.bipush at_ hx rfl hd q
theorem r_sipush (at_ : At T m c below) (hx : p.tables.exec = Jvm.exec) {i : Int} {v : Int32} (hd : decode c.code pc = .ok (.sipush i, 3)) (hv : (Int16.ofInt i).toInt32 = v) (hp : pc + 3 = pc') (r : Run p e below Q En T (mkF m pc' Ls (.int v :: rest))) : Run p e below Q En T (mkF m pc Ls rest) := by
  subst hp hv; exact r.on fun _ q => XS.sipush at_ hx rfl hd q
theorem r_lconst (at_ : At T m c below) (hx : p.tables.exec = Jvm.exec) {k : Fin 2} {v : Int64} (hd : decode c.code pc = .ok (.lconst k, 1)) (hv : Int64.ofNat k = v) (hp : pc + 1 = pc') (r : Run p e below Q En T (mkF m pc' Ls (.long v :: rest))) : Run p e below Q En T (mkF m pc Ls rest) := by
  subst hp hv; exact r.on fun _ q => XS.lconst at_ hx rfl hd q
theorem r_aconst_null (at_ : At T m c below) (hx : p.tables.exec = Jvm.exec)  (hd : decode c.code pc = .ok (.aconst_null, 1))  (hp : pc + 1 = pc') (r : Run p e below Q En T (mkF m pc' Ls (.null :: rest))) : Run p e below Q En T (mkF m pc Ls (rest)) := by
  subst hp; exact r.on fun _ q => XS.aconstNull at_ hx rfl hd  q
theorem r_iadd (at_ : At T m c below) (hx : p.tables.exec = Jvm.exec) {x y : Int32} (hd : decode c.code pc = .ok (.iadd, 1))  (hp : pc + 1 = pc') (r : Run p e below Q En T (mkF m pc' Ls (.int (x + y) :: rest))) : Run p e below Q En T (mkF m pc Ls (.int y :: .int x :: rest)) := by
  subst hp; exact r.on fun _ q => XS.iadd at_ hx rfl hd rfl q
theorem r_isub (at_ : At T m c below) (hx : p.tables.exec = Jvm.exec) {x y : Int32} (hd : decode c.code pc = .ok (.isub, 1))  (hp : pc + 1 = pc') (r : Run p e below Q En T (mkF m pc' Ls (.int (x - y) :: rest))) : Run p e below Q En T (mkF m pc Ls (.int y :: .int x :: rest)) := by
  subst hp; exact r.on fun _ q => XS.isub at_ hx rfl hd rfl q
theorem r_imul (at_ : At T m c below) (hx : p.tables.exec = Jvm.exec) {x y : Int32} (hd : decode c.code pc = .ok (.imul, 1))  (hp : pc + 1 = pc') (r : Run p e below Q En T (mkF m pc' Ls (.int (x * y) :: rest))) : Run p e below Q En T (mkF m pc Ls (.int y :: .int x :: rest)) := by
  subst hp; exact r.on fun _ q => XS.imul at_ hx rfl hd rfl q
theorem r_iand (at_ : At T m c below) (hx : p.tables.exec = Jvm.exec) {x y : Int32} (hd : decode c.code pc = .ok (.iand, 1))  (hp : pc + 1 = pc') (r : Run p e below Q En T (mkF m pc' Ls (.int (x &&& y) :: rest))) : Run p e below Q En T (mkF m pc Ls (.int y :: .int x :: rest)) := by
  subst hp; exact r.on fun _ q => XS.iand at_ hx rfl hd rfl q
theorem r_ior (at_ : At T m c below) (hx : p.tables.exec = Jvm.exec) {x y : Int32} (hd : decode c.code pc = .ok (.ior, 1))  (hp : pc + 1 = pc') (r : Run p e below Q En T (mkF m pc' Ls (.int (x ||| y) :: rest))) : Run p e below Q En T (mkF m pc Ls (.int y :: .int x :: rest)) := by
  subst hp; exact r.on fun _ q => XS.ior at_ hx rfl hd rfl q
theorem r_ixor (at_ : At T m c below) (hx : p.tables.exec = Jvm.exec) {x y : Int32} (hd : decode c.code pc = .ok (.ixor, 1))  (hp : pc + 1 = pc') (r : Run p e below Q En T (mkF m pc' Ls (.int (x ^^^ y) :: rest))) : Run p e below Q En T (mkF m pc Ls (.int y :: .int x :: rest)) := by
  subst hp; exact r.on fun _ q => XS.ixor at_ hx rfl hd rfl q
theorem r_ladd (at_ : At T m c below) (hx : p.tables.exec = Jvm.exec) {x y : Int64} (hd : decode c.code pc = .ok (.ladd, 1))  (hp : pc + 1 = pc') (r : Run p e below Q En T (mkF m pc' Ls (.long (x + y) :: rest))) : Run p e below Q En T (mkF m pc Ls (.long y :: .long x :: rest)) := by
  subst hp; exact r.on fun _ q => XS.ladd at_ hx rfl hd rfl q
theorem r_lsub (at_ : At T m c below) (hx : p.tables.exec = Jvm.exec) {x y : Int64} (hd : decode c.code pc = .ok (.lsub, 1))  (hp : pc + 1 = pc') (r : Run p e below Q En T (mkF m pc' Ls (.long (x - y) :: rest))) : Run p e below Q En T (mkF m pc Ls (.long y :: .long x :: rest)) := by
  subst hp; exact r.on fun _ q => XS.lsub at_ hx rfl hd rfl q
theorem r_lmul (at_ : At T m c below) (hx : p.tables.exec = Jvm.exec) {x y : Int64} (hd : decode c.code pc = .ok (.lmul, 1))  (hp : pc + 1 = pc') (r : Run p e below Q En T (mkF m pc' Ls (.long (x * y) :: rest))) : Run p e below Q En T (mkF m pc Ls (.long y :: .long x :: rest)) := by
  subst hp; exact r.on fun _ q => XS.lmul at_ hx rfl hd rfl q
theorem r_land (at_ : At T m c below) (hx : p.tables.exec = Jvm.exec) {x y : Int64} (hd : decode c.code pc = .ok (.land, 1))  (hp : pc + 1 = pc') (r : Run p e below Q En T (mkF m pc' Ls (.long (x &&& y) :: rest))) : Run p e below Q En T (mkF m pc Ls (.long y :: .long x :: rest)) := by
  subst hp; exact r.on fun _ q => XS.land at_ hx rfl hd rfl q
theorem r_lor (at_ : At T m c below) (hx : p.tables.exec = Jvm.exec) {x y : Int64} (hd : decode c.code pc = .ok (.lor, 1))  (hp : pc + 1 = pc') (r : Run p e below Q En T (mkF m pc' Ls (.long (x ||| y) :: rest))) : Run p e below Q En T (mkF m pc Ls (.long y :: .long x :: rest)) := by
  subst hp; exact r.on fun _ q => XS.lor at_ hx rfl hd rfl q
theorem r_lxor (at_ : At T m c below) (hx : p.tables.exec = Jvm.exec) {x y : Int64} (hd : decode c.code pc = .ok (.lxor, 1))  (hp : pc + 1 = pc') (r : Run p e below Q En T (mkF m pc' Ls (.long (x ^^^ y) :: rest))) : Run p e below Q En T (mkF m pc Ls (.long y :: .long x :: rest)) := by
  subst hp; exact r.on fun _ q => XS.lxor at_ hx rfl hd rfl q
theorem r_ineg (at_ : At T m c below) (hx : p.tables.exec = Jvm.exec) {x : Int32} (hd : decode c.code pc = .ok (.ineg, 1))  (hp : pc + 1 = pc') (r : Run p e below Q En T (mkF m pc' Ls (.int (-x) :: rest))) : Run p e below Q En T (mkF m pc Ls (.int x :: rest)) := by
  subst hp; exact r.on fun _ q => XS.ineg at_ hx rfl hd rfl q
theorem r_lneg (at_ : At T m c below) (hx : p.tables.exec = Jvm.exec) {x : Int64} (hd : decode c.code pc = .ok (.lneg, 1))  (hp : pc + 1 = pc') (r : Run p e below Q En T (mkF m pc' Ls (.long (-x) :: rest))) : Run p e below Q En T (mkF m pc Ls (.long x :: rest)) := by
  subst hp; exact r.on fun _ q => XS.lneg at_ hx rfl hd rfl q
theorem r_ishl (at_ : At T m c below) (hx : p.tables.exec = Jvm.exec) {x y : Int32} (hd : decode c.code pc = .ok (.ishl, 1))  (hp : pc + 1 = pc') (r : Run p e below Q En T (mkF m pc' Ls (.int (x <<< (y &&& 31)) :: rest))) : Run p e below Q En T (mkF m pc Ls (.int y :: .int x :: rest)) := by
  subst hp; exact r.on fun _ q => XS.ishl at_ hx rfl hd rfl q
theorem r_ishr (at_ : At T m c below) (hx : p.tables.exec = Jvm.exec) {x y : Int32} (hd : decode c.code pc = .ok (.ishr, 1))  (hp : pc + 1 = pc') (r : Run p e below Q En T (mkF m pc' Ls (.int (x >>> (y &&& 31)) :: rest))) : Run p e below Q En T (mkF m pc Ls (.int y :: .int x :: rest)) := by
  subst hp; exact r.on fun _ q => XS.ishr at_ hx rfl hd rfl q
theorem r_iushr (at_ : At T m c below) (hx : p.tables.exec = Jvm.exec) {x y : Int32} (hd : decode c.code pc = .ok (.iushr, 1))  (hp : pc + 1 = pc') (r : Run p e below Q En T (mkF m pc' Ls (.int (ushrI x y) :: rest))) : Run p e below Q En T (mkF m pc Ls (.int y :: .int x :: rest)) := by
  subst hp; exact r.on fun _ q => XS.iushr at_ hx rfl hd rfl q
theorem r_lshl (at_ : At T m c below) (hx : p.tables.exec = Jvm.exec) {x : Int64} {y : Int32} (hd : decode c.code pc = .ok (.lshl, 1))  (hp : pc + 1 = pc') (r : Run p e below Q En T (mkF m pc' Ls (.long (x <<< (y &&& 63).toInt64) :: rest))) : Run p e below Q En T (mkF m pc Ls (.int y :: .long x :: rest)) := by
  subst hp; exact r.on fun _ q => XS.lshl at_ hx rfl hd rfl q
theorem r_lshr (at_ : At T m c below) (hx : p.tables.exec = Jvm.exec) {x : Int64} {y : Int32} (hd : decode c.code pc = .ok (.lshr, 1))  (hp : pc + 1 = pc') (r : Run p e below Q En T (mkF m pc' Ls (.long (x >>> (y &&& 63).toInt64) :: rest))) : Run p e below Q En T (mkF m pc Ls (.int y :: .long x :: rest)) := by
  subst hp; exact r.on fun _ q => XS.lshr at_ hx rfl hd rfl q
theorem r_lushr (at_ : At T m c below) (hx : p.tables.exec = Jvm.exec) {x : Int64} {y : Int32} (hd : decode c.code pc = .ok (.lushr, 1))  (hp : pc + 1 = pc') (r : Run p e below Q En T (mkF m pc' Ls (.long (ushrJ x y) :: rest))) : Run p e below Q En T (mkF m pc Ls (.int y :: .long x :: rest)) := by
  subst hp; exact r.on fun _ q => XS.lushr at_ hx rfl hd rfl q
theorem r_idiv (at_ : At T m c below) (hx : p.tables.exec = Jvm.exec) {x y : Int32} (hd : decode c.code pc = .ok (.idiv, 1)) (hy : y ≠ 0) (hp : pc + 1 = pc') (r : Run p e below Q En T (mkF m pc' Ls (.int (x / y) :: rest))) : Run p e below Q En T (mkF m pc Ls (.int y :: .int x :: rest)) := by
  subst hp; exact r.on fun _ q => XS.idiv at_ hx rfl hd rfl hy q
theorem r_irem0 (at_ : At T m c below) (hx : p.tables.exec = Jvm.exec) {x y : Int32} (hd : decode c.code pc = .ok (.irem, 1)) (hy : y ≠ 0) (hp : pc + 1 = pc') (r : Run p e below Q En T (mkF m pc' Ls (.int (x - (x / y) * y) :: rest))) : Run p e below Q En T (mkF m pc Ls (.int y :: .int x :: rest)) := by
  subst hp; exact r.on fun _ q => XS.irem at_ hx rfl hd rfl hy q
theorem r_ldiv (at_ : At T m c below) (hx : p.tables.exec = Jvm.exec) {x y : Int64} (hd : decode c.code pc = .ok (.ldiv, 1)) (hy : y ≠ 0) (hp : pc + 1 = pc') (r : Run p e below Q En T (mkF m pc' Ls (.long (x / y) :: rest))) : Run p e below Q En T (mkF m pc Ls (.long y :: .long x :: rest)) := by
  subst hp; exact r.on fun _ q => XS.ldiv at_ hx rfl hd rfl hy q
theorem r_lrem0 (at_ : At T m c below) (hx : p.tables.exec = Jvm.exec) {x y : Int64} (hd : decode c.code pc = .ok (.lrem, 1)) (hy : y ≠ 0) (hp : pc + 1 = pc') (r : Run p e below Q En T (mkF m pc' Ls (.long (x - (x / y) * y) :: rest))) : Run p e below Q En T (mkF m pc Ls (.long y :: .long x :: rest)) := by
  subst hp; exact r.on fun _ q => XS.lrem at_ hx rfl hd rfl hy q
theorem r_irem (at_ : At T m c below) (hx : p.tables.exec = Jvm.exec) {x y : Int32} (hd : decode c.code pc = .ok (.irem, 1)) (hy : y ≠ 0) (hp : pc + 1 = pc') (r : Run p e below Q En T (mkF m pc' Ls (.int (x % y) :: rest))) : Run p e below Q En T (mkF m pc Ls (.int y :: .int x :: rest)) :=
  r_irem0 at_ hx hd hy hp (by rw [show x - x / y * y = x % y from irem_eq_mod x y]; exact r)
theorem r_i2l (at_ : At T m c below) (hx : p.tables.exec = Jvm.exec) {x : Int32} (hd : decode c.code pc = .ok (.i2l, 1))  (hp : pc + 1 = pc') (r : Run p e below Q En T (mkF m pc' Ls (.long (x.toInt64) :: rest))) : Run p e below Q En T (mkF m pc Ls (.int x :: rest)) := by
  subst hp; exact r.on fun _ q => XS.i2l at_ hx rfl hd rfl q
theorem r_l2i (at_ : At T m c below) (hx : p.tables.exec = Jvm.exec) {x : Int64} (hd : decode c.code pc = .ok (.l2i, 1))  (hp : pc + 1 = pc') (r : Run p e below Q En T (mkF m pc' Ls (.int (x.toInt32) :: rest))) : Run p e below Q En T (mkF m pc Ls (.long x :: rest)) := by
  subst hp; exact r.on fun _ q => XS.l2i at_ hx rfl hd rfl q
theorem r_i2b (at_ : At T m c below) (hx : p.tables.exec = Jvm.exec) {x : Int32} (hd : decode c.code pc = .ok (.i2b, 1))  (hp : pc + 1 = pc') (r : Run p e below Q En T (mkF m pc' Ls (.int (x.toInt8.toInt32) :: rest))) : Run p e below Q En T (mkF m pc Ls (.int x :: rest)) := by
  subst hp; exact r.on fun _ q => XS.i2b at_ hx rfl hd rfl q
theorem r_i2c (at_ : At T m c below) (hx : p.tables.exec = Jvm.exec) {x : Int32} (hd : decode c.code pc = .ok (.i2c, 1))  (hp : pc + 1 = pc') (r : Run p e below Q En T (mkF m pc' Ls (.int (x.toUInt32.toUInt16.toUInt32.toInt32) :: rest))) : Run p e below Q En T (mkF m pc Ls (.int x :: rest)) := by
  subst hp; exact r.on fun _ q => XS.i2c at_ hx rfl hd rfl q
theorem r_i2s (at_ : At T m c below) (hx : p.tables.exec = Jvm.exec) {x : Int32} (hd : decode c.code pc = .ok (.i2s, 1))  (hp : pc + 1 = pc') (r : Run p e below Q En T (mkF m pc' Ls (.int (x.toInt16.toInt32) :: rest))) : Run p e below Q En T (mkF m pc Ls (.int x :: rest)) := by
  subst hp; exact r.on fun _ q => XS.i2s at_ hx rfl hd rfl q
theorem r_dup (at_ : At T m c below) (hx : p.tables.exec = Jvm.exec) {x : Value} (hd : decode c.code pc = .ok (.dup, 1)) (hc : x.category = 1) (hp : pc + 1 = pc') (r : Run p e below Q En T (mkF m pc' Ls (x :: x :: rest))) : Run p e below Q En T (mkF m pc Ls (x :: rest)) := by
  subst hp; exact r.on fun _ q => XS.dup at_ hx rfl hd rfl hc q
theorem r_pop (at_ : At T m c below) (hx : p.tables.exec = Jvm.exec) {x : Value} (hd : decode c.code pc = .ok (.pop, 1)) (hc : x.category = 1) (hp : pc + 1 = pc') (r : Run p e below Q En T (mkF m pc' Ls (rest))) : Run p e below Q En T (mkF m pc Ls (x :: rest)) := by
  subst hp; exact r.on fun _ q => XS.pop at_ hx rfl hd rfl hc q
theorem r_dup_x1 (at_ : At T m c below) (hx : p.tables.exec = Jvm.exec) {x y : Value} (hd : decode c.code pc = .ok (.dup_x1, 1)) (hc : x.category = 1) (hc' : y.category = 1) (hp : pc + 1 = pc') (r : Run p e below Q En T (mkF m pc' Ls (x :: y :: x :: rest))) : Run p e below Q En T (mkF m pc Ls (x :: y :: rest)) := by
  subst hp; exact r.on fun _ q => XS.dupX1 at_ hx rfl hd rfl hc hc' q
theorem r_dup2 (at_ : At T m c below) (hx : p.tables.exec = Jvm.exec) {x y : Value} (hd : decode c.code pc = .ok (.dup2, 1)) (hc : x.category = 1) (hc' : y.category = 1) (hp : pc + 1 = pc') (r : Run p e below Q En T (mkF m pc' Ls (x :: y :: x :: y :: rest))) : Run p e below Q En T (mkF m pc Ls (x :: y :: rest)) := by
  subst hp; exact r.on fun _ q => XT.dup2 at_ hx rfl hd rfl hc hc' q
theorem r_dup2L (at_ : At T m c below) (hx : p.tables.exec = Jvm.exec) {x : Int64} (hd : decode c.code pc = .ok (.dup2, 1))  (hp : pc + 1 = pc') (r : Run p e below Q En T (mkF m pc' Ls (.long x :: .long x :: rest))) : Run p e below Q En T (mkF m pc Ls (.long x :: rest)) := by
  subst hp; exact r.on fun _ q => XT.dup2L at_ hx rfl hd rfl q
theorem r_lcmp (at_ : At T m c below) (hx : p.tables.exec = Jvm.exec) {x y : Int64} (hd : decode c.code pc = .ok (.lcmp, 1))  (hp : pc + 1 = pc') (r : Run p e below Q En T (mkF m pc' Ls (.int (cmpJ x y) :: rest))) : Run p e below Q En T (mkF m pc Ls (.long y :: .long x :: rest)) := by
  subst hp; exact r.on fun _ q => XS.lcmp at_ hx rfl hd rfl q
theorem r_iinc (at_ : At T m c below) (hx : p.tables.exec = Jvm.exec) {k : Nat} {cst : Int} {x z : Int32} {l' : Array Slot} (hd : decode c.code pc = .ok (.iinc k cst, 3)) (hl : Ls[k]? = some (.val (.int x))) (hz : x + Int32.ofInt cst = z) (hl' : storeLocals Ls k (.int z) = some l') (hp : pc + 3 = pc') (r : Run p e below Q En T (mkF m pc' l' rest)) : Run p e below Q En T (mkF m pc Ls rest) := by
  subst hp hz; exact r.on fun _ q => XS.iinc at_ hx rfl hd hl hl' q
theorem r_goto (at_ : At T m c below) (hx : p.tables.exec = Jvm.exec) {o : Int} (hd : decode c.code pc = .ok (.goto o, 3)) (ho : 0 ≤ (pc : Int) + o) (hp : ((pc : Int) + o).toNat = pc') (r : Run p e below Q En T (mkF m pc' Ls rest)) : Run p e below Q En T (mkF m pc Ls rest) :=
  r.on fun _ q => XS.goto at_ hx rfl (pc0 := pc) rfl hd ho hp q
theorem cmpJ_c (x y : Int64) : (y.toInt < x.toInt ∧ cmpJ x y = 1) ∨ (x = y ∧ cmpJ x y = 0) ∨ (x.toInt < y.toInt ∧ cmpJ x y = -1) := by
  unfold cmpJ
  by_cases h1 : x > y
  · left; rw [if_pos h1]; exact ⟨Int64.lt_iff_toInt_lt.mp h1, rfl⟩
  · rw [if_neg h1]
    by_cases h2 : x = y
    · right; left; rw [if_pos h2]; exact ⟨h2, rfl⟩
    · right; right; rw [if_neg h2]
      have h3 : ¬ y.toInt < x.toInt := fun q => h1 (Int64.lt_iff_toInt_lt.mpr q)
      have h4 : ¬ x.toInt = y.toInt := fun q => h2 (Int64.toInt_inj.mp q)
      exact ⟨by omega, rfl⟩
theorem h_eq (x y : Int32) : if_icmp.holds .eq x y = decide (x = y) := by by_cases q : x = y <;> simp [if_icmp.holds, q]
theorem h0_eq (x : Int32) : ifCond.holds .eq x = decide (x = (0 : Int32)) := h_eq x 0
theorem r_if_eq (at_ : At T m c below) (hx : p.tables.exec = Jvm.exec) {o : Int} {x y : Int32} {pc2 : Nat} (hd : decode c.code pc = .ok (.if_icmp .eq o, 3)) (ho : 0 ≤ (pc : Int) + o) (hp : ((pc : Int) + o).toNat = pc') (hp2 : pc + 3 = pc2) (r1 : x = y → Run p e below Q En T (mkF m pc' Ls rest)) (r2 : ¬ (x = y) → Run p e below Q En T (mkF m pc2 Ls rest)) : Run p e below Q En T (mkF m pc Ls (.int y :: .int x :: rest)) := by
  subst hp2
  by_cases hc : x = y
  · exact (r1 hc).on fun _ q => XS.icmpYes at_ hx rfl (pc0 := pc) rfl hd rfl (by rw [h_eq]; exact decide_eq_true hc) ho hp q
  · exact (r2 hc).on fun _ q => XS.icmpNo at_ hx rfl hd rfl (by rw [h_eq]; exact decide_eq_false hc) q
theorem r_if0_eq (at_ : At T m c below) (hx : p.tables.exec = Jvm.exec) {o : Int} {x : Int32} {pc2 : Nat} (hd : decode c.code pc = .ok (.ifCond .eq o, 3)) (ho : 0 ≤ (pc : Int) + o) (hp : ((pc : Int) + o).toNat = pc') (hp2 : pc + 3 = pc2) (r1 : x = (0 : Int32) → Run p e below Q En T (mkF m pc' Ls rest)) (r2 : ¬ (x = (0 : Int32)) → Run p e below Q En T (mkF m pc2 Ls rest)) : Run p e below Q En T (mkF m pc Ls (.int x :: rest)) := by
  subst hp2
  by_cases hc : x = (0 : Int32)
  · exact (r1 hc).on fun _ q => XS.ifYes at_ hx rfl (pc0 := pc) rfl hd rfl (by rw [h0_eq]; exact decide_eq_true hc) ho hp q
  · exact (r2 hc).on fun _ q => XS.ifNo at_ hx rfl hd rfl (by rw [h0_eq]; exact decide_eq_false hc) q
theorem hL_eq (x y : Int64) : ifCond.holds .eq (cmpJ x y) = decide (x = y) := by
  rw [h0_eq]; apply decide_eq_decide.mpr
  rcases cmpJ_c x y with ⟨q, e⟩ | ⟨q, e⟩ | ⟨q, e⟩ <;> rw [e]
  · have ne : ¬ x = y := fun z => by rw [z] at q; omega
    simp [ne]
  · subst q; simp
  · have ne : ¬ x = y := fun z => by rw [z] at q; omega
    simp [ne]
theorem r_ifL_eq (at_ : At T m c below) (hx : p.tables.exec = Jvm.exec) {o : Int} {x y : Int64} {pc2 : Nat} (hd : decode c.code pc = .ok (.ifCond .eq o, 3)) (ho : 0 ≤ (pc : Int) + o) (hp : ((pc : Int) + o).toNat = pc') (hp2 : pc + 3 = pc2) (r1 : x = y → Run p e below Q En T (mkF m pc' Ls rest)) (r2 : ¬ (x = y) → Run p e below Q En T (mkF m pc2 Ls rest)) : Run p e below Q En T (mkF m pc Ls (.int (cmpJ x y) :: rest)) := by
  subst hp2
  by_cases hc : x = y
  · exact (r1 hc).on fun _ q => XS.ifYes at_ hx rfl (pc0 := pc) rfl hd rfl (by rw [hL_eq]; exact decide_eq_true hc) ho hp q
  · exact (r2 hc).on fun _ q => XS.ifNo at_ hx rfl hd rfl (by rw [hL_eq]; exact decide_eq_false hc) q
theorem h_ne (x y : Int32) : if_icmp.holds .ne x y = decide (¬ x = y) := by by_cases q : x = y <;> simp [if_icmp.holds, q]
theorem h0_ne (x : Int32) : ifCond.holds .ne x = decide (¬ x = (0 : Int32)) := h_ne x 0
theorem r_if_ne (at_ : At T m c below) (hx : p.tables.exec = Jvm.exec) {o : Int} {x y : Int32} {pc2 : Nat} (hd : decode c.code pc = .ok (.if_icmp .ne o, 3)) (ho : 0 ≤ (pc : Int) + o) (hp : ((pc : Int) + o).toNat = pc') (hp2 : pc + 3 = pc2) (r1 : ¬ x = y → Run p e below Q En T (mkF m pc' Ls rest)) (r2 : ¬ (¬ x = y) → Run p e below Q En T (mkF m pc2 Ls rest)) : Run p e below Q En T (mkF m pc Ls (.int y :: .int x :: rest)) := by
  subst hp2
  by_cases hc : ¬ x = y
  · exact (r1 hc).on fun _ q => XS.icmpYes at_ hx rfl (pc0 := pc) rfl hd rfl (by rw [h_ne]; exact decide_eq_true hc) ho hp q
  · exact (r2 hc).on fun _ q => XS.icmpNo at_ hx rfl hd rfl (by rw [h_ne]; exact decide_eq_false hc) q
theorem r_if0_ne (at_ : At T m c below) (hx : p.tables.exec = Jvm.exec) {o : Int} {x : Int32} {pc2 : Nat} (hd : decode c.code pc = .ok (.ifCond .ne o, 3)) (ho : 0 ≤ (pc : Int) + o) (hp : ((pc : Int) + o).toNat = pc') (hp2 : pc + 3 = pc2) (r1 : ¬ x = (0 : Int32) → Run p e below Q En T (mkF m pc' Ls rest)) (r2 : ¬ (¬ x = (0 : Int32)) → Run p e below Q En T (mkF m pc2 Ls rest)) : Run p e below Q En T (mkF m pc Ls (.int x :: rest)) := by
  subst hp2
  by_cases hc : ¬ x = (0 : Int32)
  · exact (r1 hc).on fun _ q => XS.ifYes at_ hx rfl (pc0 := pc) rfl hd rfl (by rw [h0_ne]; exact decide_eq_true hc) ho hp q
  · exact (r2 hc).on fun _ q => XS.ifNo at_ hx rfl hd rfl (by rw [h0_ne]; exact decide_eq_false hc) q
theorem hL_ne (x y : Int64) : ifCond.holds .ne (cmpJ x y) = decide (¬ x = y) := by
  rw [h0_ne]; apply decide_eq_decide.mpr
  rcases cmpJ_c x y with ⟨q, e⟩ | ⟨q, e⟩ | ⟨q, e⟩ <;> rw [e]
  · have ne : ¬ x = y := fun z => by rw [z] at q; omega
    simp [ne]
  · subst q; simp
  · have ne : ¬ x = y := fun z => by rw [z] at q; omega
    simp [ne]
theorem r_ifL_ne (at_ : At T m c below) (hx : p.tables.exec = Jvm.exec) {o : Int} {x y : Int64} {pc2 : Nat} (hd : decode c.code pc = .ok (.ifCond .ne o, 3)) (ho : 0 ≤ (pc : Int) + o) (hp : ((pc : Int) + o).toNat = pc') (hp2 : pc + 3 = pc2) (r1 : ¬ x = y → Run p e below Q En T (mkF m pc' Ls rest)) (r2 : ¬ (¬ x = y) → Run p e below Q En T (mkF m pc2 Ls rest)) : Run p e below Q En T (mkF m pc Ls (.int (cmpJ x y) :: rest)) := by
  subst hp2
  by_cases hc : ¬ x = y
  · exact (r1 hc).on fun _ q => XS.ifYes at_ hx rfl (pc0 := pc) rfl hd rfl (by rw [hL_ne]; exact decide_eq_true hc) ho hp q
  · exact (r2 hc).on fun _ q => XS.ifNo at_ hx rfl hd rfl (by rw [hL_ne]; exact decide_eq_false hc) q
theorem h_lt (x y : Int32) : if_icmp.holds .lt x y = decide (x.toInt < y.toInt) := by simp [if_icmp.holds, Int32.lt_iff_toInt_lt]
theorem h0_lt (x : Int32) : ifCond.holds .lt x = decide (x.toInt < (0 : Int32).toInt) := h_lt x 0
theorem r_if_lt (at_ : At T m c below) (hx : p.tables.exec = Jvm.exec) {o : Int} {x y : Int32} {pc2 : Nat} (hd : decode c.code pc = .ok (.if_icmp .lt o, 3)) (ho : 0 ≤ (pc : Int) + o) (hp : ((pc : Int) + o).toNat = pc') (hp2 : pc + 3 = pc2) (r1 : x.toInt < y.toInt → Run p e below Q En T (mkF m pc' Ls rest)) (r2 : ¬ (x.toInt < y.toInt) → Run p e below Q En T (mkF m pc2 Ls rest)) : Run p e below Q En T (mkF m pc Ls (.int y :: .int x :: rest)) := by
  subst hp2
  by_cases hc : x.toInt < y.toInt
  · exact (r1 hc).on fun _ q => XS.icmpYes at_ hx rfl (pc0 := pc) rfl hd rfl (by rw [h_lt]; exact decide_eq_true hc) ho hp q
  · exact (r2 hc).on fun _ q => XS.icmpNo at_ hx rfl hd rfl (by rw [h_lt]; exact decide_eq_false hc) q
theorem r_if0_lt (at_ : At T m c below) (hx : p.tables.exec = Jvm.exec) {o : Int} {x : Int32} {pc2 : Nat} (hd : decode c.code pc = .ok (.ifCond .lt o, 3)) (ho : 0 ≤ (pc : Int) + o) (hp : ((pc : Int) + o).toNat = pc') (hp2 : pc + 3 = pc2) (r1 : x.toInt < 0 → Run p e below Q En T (mkF m pc' Ls rest)) (r2 : ¬ (x.toInt < 0) → Run p e below Q En T (mkF m pc2 Ls rest)) : Run p e below Q En T (mkF m pc Ls (.int x :: rest)) := by
  subst hp2
  by_cases hc : x.toInt < 0
  · exact (r1 hc).on fun _ q => XS.ifYes at_ hx rfl (pc0 := pc) rfl hd rfl (by rw [h0_lt]; exact decide_eq_true (by rw [show (0 : Int32).toInt = 0 from rfl]; exact hc)) ho hp q
  · exact (r2 hc).on fun _ q => XS.ifNo at_ hx rfl hd rfl (by rw [h0_lt]; exact decide_eq_false (by rw [show (0 : Int32).toInt = 0 from rfl]; exact hc)) q
theorem hL_lt (x y : Int64) : ifCond.holds .lt (cmpJ x y) = decide (x.toInt < y.toInt) := by
  rw [h0_lt]; apply decide_eq_decide.mpr
  rcases cmpJ_c x y with ⟨q, e⟩ | ⟨q, e⟩ | ⟨q, e⟩ <;> rw [e]
  · have ne : ¬ x = y := fun z => by rw [z] at q; omega
    show ((1 : Int) < 0) ↔ _; omega
  · subst q; show ((0 : Int) < 0) ↔ _; omega
  · have ne : ¬ x = y := fun z => by rw [z] at q; omega
    show ((-1 : Int) < 0) ↔ _; omega
theorem r_ifL_lt (at_ : At T m c below) (hx : p.tables.exec = Jvm.exec) {o : Int} {x y : Int64} {pc2 : Nat} (hd : decode c.code pc = .ok (.ifCond .lt o, 3)) (ho : 0 ≤ (pc : Int) + o) (hp : ((pc : Int) + o).toNat = pc') (hp2 : pc + 3 = pc2) (r1 : x.toInt < y.toInt → Run p e below Q En T (mkF m pc' Ls rest)) (r2 : ¬ (x.toInt < y.toInt) → Run p e below Q En T (mkF m pc2 Ls rest)) : Run p e below Q En T (mkF m pc Ls (.int (cmpJ x y) :: rest)) := by
  subst hp2
  by_cases hc : x.toInt < y.toInt
  · exact (r1 hc).on fun _ q => XS.ifYes at_ hx rfl (pc0 := pc) rfl hd rfl (by rw [hL_lt]; exact decide_eq_true hc) ho hp q
  · exact (r2 hc).on fun _ q => XS.ifNo at_ hx rfl hd rfl (by rw [hL_lt]; exact decide_eq_false hc) q
theorem h_ge (x y : Int32) : if_icmp.holds .ge x y = decide (y.toInt ≤ x.toInt) := by simp [if_icmp.holds, Int32.le_iff_toInt_le]
theorem h0_ge (x : Int32) : ifCond.holds .ge x = decide ((0 : Int32).toInt ≤ x.toInt) := h_ge x 0
theorem r_if_ge (at_ : At T m c below) (hx : p.tables.exec = Jvm.exec) {o : Int} {x y : Int32} {pc2 : Nat} (hd : decode c.code pc = .ok (.if_icmp .ge o, 3)) (ho : 0 ≤ (pc : Int) + o) (hp : ((pc : Int) + o).toNat = pc') (hp2 : pc + 3 = pc2) (r1 : y.toInt ≤ x.toInt → Run p e below Q En T (mkF m pc' Ls rest)) (r2 : ¬ (y.toInt ≤ x.toInt) → Run p e below Q En T (mkF m pc2 Ls rest)) : Run p e below Q En T (mkF m pc Ls (.int y :: .int x :: rest)) := by
  subst hp2
  by_cases hc : y.toInt ≤ x.toInt
  · exact (r1 hc).on fun _ q => XS.icmpYes at_ hx rfl (pc0 := pc) rfl hd rfl (by rw [h_ge]; exact decide_eq_true hc) ho hp q
  · exact (r2 hc).on fun _ q => XS.icmpNo at_ hx rfl hd rfl (by rw [h_ge]; exact decide_eq_false hc) q
theorem r_if0_ge (at_ : At T m c below) (hx : p.tables.exec = Jvm.exec) {o : Int} {x : Int32} {pc2 : Nat} (hd : decode c.code pc = .ok (.ifCond .ge o, 3)) (ho : 0 ≤ (pc : Int) + o) (hp : ((pc : Int) + o).toNat = pc') (hp2 : pc + 3 = pc2) (r1 : 0 ≤ x.toInt → Run p e below Q En T (mkF m pc' Ls rest)) (r2 : ¬ (0 ≤ x.toInt) → Run p e below Q En T (mkF m pc2 Ls rest)) : Run p e below Q En T (mkF m pc Ls (.int x :: rest)) := by
  subst hp2
  by_cases hc : 0 ≤ x.toInt
  · exact (r1 hc).on fun _ q => XS.ifYes at_ hx rfl (pc0 := pc) rfl hd rfl (by rw [h0_ge]; exact decide_eq_true (by rw [show (0 : Int32).toInt = 0 from rfl]; exact hc)) ho hp q
  · exact (r2 hc).on fun _ q => XS.ifNo at_ hx rfl hd rfl (by rw [h0_ge]; exact decide_eq_false (by rw [show (0 : Int32).toInt = 0 from rfl]; exact hc)) q
theorem hL_ge (x y : Int64) : ifCond.holds .ge (cmpJ x y) = decide (y.toInt ≤ x.toInt) := by
  rw [h0_ge]; apply decide_eq_decide.mpr
  rcases cmpJ_c x y with ⟨q, e⟩ | ⟨q, e⟩ | ⟨q, e⟩ <;> rw [e]
  · have ne : ¬ x = y := fun z => by rw [z] at q; omega
    show ((0 : Int) ≤ 1) ↔ _; omega
  · subst q; show ((0 : Int) ≤ 0) ↔ _; omega
  · have ne : ¬ x = y := fun z => by rw [z] at q; omega
    show ((0 : Int) ≤ -1) ↔ _; omega
theorem r_ifL_ge (at_ : At T m c below) (hx : p.tables.exec = Jvm.exec) {o : Int} {x y : Int64} {pc2 : Nat} (hd : decode c.code pc = .ok (.ifCond .ge o, 3)) (ho : 0 ≤ (pc : Int) + o) (hp : ((pc : Int) + o).toNat = pc') (hp2 : pc + 3 = pc2) (r1 : y.toInt ≤ x.toInt → Run p e below Q En T (mkF m pc' Ls rest)) (r2 : ¬ (y.toInt ≤ x.toInt) → Run p e below Q En T (mkF m pc2 Ls rest)) : Run p e below Q En T (mkF m pc Ls (.int (cmpJ x y) :: rest)) := by
  subst hp2
  by_cases hc : y.toInt ≤ x.toInt
  · exact (r1 hc).on fun _ q => XS.ifYes at_ hx rfl (pc0 := pc) rfl hd rfl (by rw [hL_ge]; exact decide_eq_true hc) ho hp q
  · exact (r2 hc).on fun _ q => XS.ifNo at_ hx rfl hd rfl (by rw [hL_ge]; exact decide_eq_false hc) q
theorem h_gt (x y : Int32) : if_icmp.holds .gt x y = decide (y.toInt < x.toInt) := by simp [if_icmp.holds, Int32.lt_iff_toInt_lt]
theorem h0_gt (x : Int32) : ifCond.holds .gt x = decide ((0 : Int32).toInt < x.toInt) := h_gt x 0
theorem r_if_gt (at_ : At T m c below) (hx : p.tables.exec = Jvm.exec) {o : Int} {x y : Int32} {pc2 : Nat} (hd : decode c.code pc = .ok (.if_icmp .gt o, 3)) (ho : 0 ≤ (pc : Int) + o) (hp : ((pc : Int) + o).toNat = pc') (hp2 : pc + 3 = pc2) (r1 : y.toInt < x.toInt → Run p e below Q En T (mkF m pc' Ls rest)) (r2 : ¬ (y.toInt < x.toInt) → Run p e below Q En T (mkF m pc2 Ls rest)) : Run p e below Q En T (mkF m pc Ls (.int y :: .int x :: rest)) := by
  subst hp2
  by_cases hc : y.toInt < x.toInt
  · exact (r1 hc).on fun _ q => XS.icmpYes at_ hx rfl (pc0 := pc) rfl hd rfl (by rw [h_gt]; exact decide_eq_true hc) ho hp q
  · exact (r2 hc).on fun _ q => XS.icmpNo at_ hx rfl hd rfl (by rw [h_gt]; exact decide_eq_false hc) q
theorem r_if0_gt (at_ : At T m c below) (hx : p.tables.exec = Jvm.exec) {o : Int} {x : Int32} {pc2 : Nat} (hd : decode c.code pc = .ok (.ifCond .gt o, 3)) (ho : 0 ≤ (pc : Int) + o) (hp : ((pc : Int) + o).toNat = pc') (hp2 : pc + 3 = pc2) (r1 : 0 < x.toInt → Run p e below Q En T (mkF m pc' Ls rest)) (r2 : ¬ (0 < x.toInt) → Run p e below Q En T (mkF m pc2 Ls rest)) : Run p e below Q En T (mkF m pc Ls (.int x :: rest)) := by
  subst hp2
  by_cases hc : 0 < x.toInt
  · exact (r1 hc).on fun _ q => XS.ifYes at_ hx rfl (pc0 := pc) rfl hd rfl (by rw [h0_gt]; exact decide_eq_true (by rw [show (0 : Int32).toInt = 0 from rfl]; exact hc)) ho hp q
  · exact (r2 hc).on fun _ q => XS.ifNo at_ hx rfl hd rfl (by rw [h0_gt]; exact decide_eq_false (by rw [show (0 : Int32).toInt = 0 from rfl]; exact hc)) q
theorem hL_gt (x y : Int64) : ifCond.holds .gt (cmpJ x y) = decide (y.toInt < x.toInt) := by
  rw [h0_gt]; apply decide_eq_decide.mpr
  rcases cmpJ_c x y with ⟨q, e⟩ | ⟨q, e⟩ | ⟨q, e⟩ <;> rw [e]
  · have ne : ¬ x = y := fun z => by rw [z] at q; omega
    show ((0 : Int) < 1) ↔ _; omega
  · subst q; show ((0 : Int) < 0) ↔ _; omega
  · have ne : ¬ x = y := fun z => by rw [z] at q; omega
    show ((0 : Int) < -1) ↔ _; omega
theorem r_ifL_gt (at_ : At T m c below) (hx : p.tables.exec = Jvm.exec) {o : Int} {x y : Int64} {pc2 : Nat} (hd : decode c.code pc = .ok (.ifCond .gt o, 3)) (ho : 0 ≤ (pc : Int) + o) (hp : ((pc : Int) + o).toNat = pc') (hp2 : pc + 3 = pc2) (r1 : y.toInt < x.toInt → Run p e below Q En T (mkF m pc' Ls rest)) (r2 : ¬ (y.toInt < x.toInt) → Run p e below Q En T (mkF m pc2 Ls rest)) : Run p e below Q En T (mkF m pc Ls (.int (cmpJ x y) :: rest)) := by
  subst hp2
  by_cases hc : y.toInt < x.toInt
  · exact (r1 hc).on fun _ q => XS.ifYes at_ hx rfl (pc0 := pc) rfl hd rfl (by rw [hL_gt]; exact decide_eq_true hc) ho hp q
  · exact (r2 hc).on fun _ q => XS.ifNo at_ hx rfl hd rfl (by rw [hL_gt]; exact decide_eq_false hc) q
theorem h_le (x y : Int32) : if_icmp.holds .le x y = decide (x.toInt ≤ y.toInt) := by simp [if_icmp.holds, Int32.le_iff_toInt_le]
theorem h0_le (x : Int32) : ifCond.holds .le x = decide (x.toInt ≤ (0 : Int32).toInt) := h_le x 0
theorem r_if_le (at_ : At T m c below) (hx : p.tables.exec = Jvm.exec) {o : Int} {x y : Int32} {pc2 : Nat} (hd : decode c.code pc = .ok (.if_icmp .le o, 3)) (ho : 0 ≤ (pc : Int) + o) (hp : ((pc : Int) + o).toNat = pc') (hp2 : pc + 3 = pc2) (r1 : x.toInt ≤ y.toInt → Run p e below Q En T (mkF m pc' Ls rest)) (r2 : ¬ (x.toInt ≤ y.toInt) → Run p e below Q En T (mkF m pc2 Ls rest)) : Run p e below Q En T (mkF m pc Ls (.int y :: .int x :: rest)) := by
  subst hp2
  by_cases hc : x.toInt ≤ y.toInt
  · exact (r1 hc).on fun _ q => XS.icmpYes at_ hx rfl (pc0 := pc) rfl hd rfl (by rw [h_le]; exact decide_eq_true hc) ho hp q
  · exact (r2 hc).on fun _ q => XS.icmpNo at_ hx rfl hd rfl (by rw [h_le]; exact decide_eq_false hc) q
theorem r_if0_le (at_ : At T m c below) (hx : p.tables.exec = Jvm.exec) {o : Int} {x : Int32} {pc2 : Nat} (hd : decode c.code pc = .ok (.ifCond .le o, 3)) (ho : 0 ≤ (pc : Int) + o) (hp : ((pc : Int) + o).toNat = pc') (hp2 : pc + 3 = pc2) (r1 : x.toInt ≤ 0 → Run p e below Q En T (mkF m pc' Ls rest)) (r2 : ¬ (x.toInt ≤ 0) → Run p e below Q En T (mkF m pc2 Ls rest)) : Run p e below Q En T (mkF m pc Ls (.int x :: rest)) := by
  subst hp2
  by_cases hc : x.toInt ≤ 0
  · exact (r1 hc).on fun _ q => XS.ifYes at_ hx rfl (pc0 := pc) rfl hd rfl (by rw [h0_le]; exact decide_eq_true (by rw [show (0 : Int32).toInt = 0 from rfl]; exact hc)) ho hp q
  · exact (r2 hc).on fun _ q => XS.ifNo at_ hx rfl hd rfl (by rw [h0_le]; exact decide_eq_false (by rw [show (0 : Int32).toInt = 0 from rfl]; exact hc)) q
theorem hL_le (x y : Int64) : ifCond.holds .le (cmpJ x y) = decide (x.toInt ≤ y.toInt) := by
  rw [h0_le]; apply decide_eq_decide.mpr
  rcases cmpJ_c x y with ⟨q, e⟩ | ⟨q, e⟩ | ⟨q, e⟩ <;> rw [e]
  · have ne : ¬ x = y := fun z => by rw [z] at q; omega
    show ((1 : Int) ≤ 0) ↔ _; omega
  · subst q; show ((0 : Int) ≤ 0) ↔ _; omega
  · have ne : ¬ x = y := fun z => by rw [z] at q; omega
    show ((-1 : Int) ≤ 0) ↔ _; omega
theorem r_ifL_le (at_ : At T m c below) (hx : p.tables.exec = Jvm.exec) {o : Int} {x y : Int64} {pc2 : Nat} (hd : decode c.code pc = .ok (.ifCond .le o, 3)) (ho : 0 ≤ (pc : Int) + o) (hp : ((pc : Int) + o).toNat = pc') (hp2 : pc + 3 = pc2) (r1 : x.toInt ≤ y.toInt → Run p e below Q En T (mkF m pc' Ls rest)) (r2 : ¬ (x.toInt ≤ y.toInt) → Run p e below Q En T (mkF m pc2 Ls rest)) : Run p e below Q En T (mkF m pc Ls (.int (cmpJ x y) :: rest)) := by
  subst hp2
  by_cases hc : x.toInt ≤ y.toInt
  · exact (r1 hc).on fun _ q => XS.ifYes at_ hx rfl (pc0 := pc) rfl hd rfl (by rw [hL_le]; exact decide_eq_true hc) ho hp q
  · exact (r2 hc).on fun _ q => XS.ifNo at_ hx rfl hd rfl (by rw [hL_le]; exact decide_eq_false hc) q
theorem r_ifnullY (at_ : At T m c below) (hx : p.tables.exec = Jvm.exec) {o : Int} (hd : decode c.code pc = .ok (.ifnull o, 3)) (ho : 0 ≤ (pc : Int) + o) (hp : ((pc : Int) + o).toNat = pc') (r : Run p e below Q En T (mkF m pc' Ls rest)) : Run p e below Q En T (mkF m pc Ls (.null :: rest)) :=
  r.on fun _ q => XS.ifnullYes at_ hx rfl (pc0 := pc) rfl hd rfl ho hp q
theorem r_ifnullN (at_ : At T m c below) (hx : p.tables.exec = Jvm.exec) {o : Int} {b : Addr} (hd : decode c.code pc = .ok (.ifnull o, 3)) (hp : pc + 3 = pc') (r : Run p e below Q En T (mkF m pc' Ls rest)) : Run p e below Q En T (mkF m pc Ls (.ref b :: rest)) := by
  subst hp; exact r.on fun _ q => XS.ifnullNo at_ hx rfl hd rfl q
theorem r_ifnonnullY (at_ : At T m c below) (hx : p.tables.exec = Jvm.exec) {o : Int} {b : Addr} (hd : decode c.code pc = .ok (.ifnonnull o, 3)) (ho : 0 ≤ (pc : Int) + o) (hp : ((pc : Int) + o).toNat = pc') (r : Run p e below Q En T (mkF m pc' Ls rest)) : Run p e below Q En T (mkF m pc Ls (.ref b :: rest)) :=
  r.on fun _ q => XS.ifnonnullYes at_ hx rfl (pc0 := pc) rfl hd rfl ho hp q
theorem r_ifnonnullN (at_ : At T m c below) (hx : p.tables.exec = Jvm.exec) {o : Int} (hd : decode c.code pc = .ok (.ifnonnull o, 3)) (hp : pc + 3 = pc') (r : Run p e below Q En T (mkF m pc' Ls rest)) : Run p e below Q En T (mkF m pc Ls (.null :: rest)) := by
  subst hp; exact r.on fun _ q => XS.ifnonnullNo at_ hx rfl hd rfl q
theorem r_acmp_eq (at_ : At T m c below) (hx : p.tables.exec = Jvm.exec) {o : Int} {x y : Value} {pc2 : Nat} (hd : decode c.code pc = .ok (.if_acmp .eq o, 3)) (h1 : x.isRef = true) (h2 : y.isRef = true) (ho : 0 ≤ (pc : Int) + o) (hp : ((pc : Int) + o).toNat = pc') (hp2 : pc + 3 = pc2) (r1 : x = y → Run p e below Q En T (mkF m pc' Ls rest)) (r2 : ¬ x = y → Run p e below Q En T (mkF m pc2 Ls rest)) : Run p e below Q En T (mkF m pc Ls (y :: x :: rest)) := by
  subst hp2
  by_cases hc : x = y
  · exact (r1 hc).on fun _ q => XT.acmpYes at_ hx rfl (pc0 := pc) rfl hd rfl h1 h2 (by simp [XT.acmp, hc]) ho hp q
  · exact (r2 hc).on fun _ q => XT.acmpNo at_ hx rfl hd rfl h1 h2 (by simp [XT.acmp, hc]) q
theorem r_acmp_ne (at_ : At T m c below) (hx : p.tables.exec = Jvm.exec) {o : Int} {x y : Value} {pc2 : Nat} (hd : decode c.code pc = .ok (.if_acmp .ne o, 3)) (h1 : x.isRef = true) (h2 : y.isRef = true) (ho : 0 ≤ (pc : Int) + o) (hp : ((pc : Int) + o).toNat = pc') (hp2 : pc + 3 = pc2) (r1 : ¬ x = y → Run p e below Q En T (mkF m pc' Ls rest)) (r2 : x = y → Run p e below Q En T (mkF m pc2 Ls rest)) : Run p e below Q En T (mkF m pc Ls (y :: x :: rest)) := by
  subst hp2
  by_cases hc : x = y
  · exact (r2 hc).on fun _ q => XT.acmpNo at_ hx rfl hd rfl h1 h2 (by simp [XT.acmp, hc]) q
  · exact (r1 hc).on fun _ q => XT.acmpYes at_ hx rfl (pc0 := pc) rfl hd rfl h1 h2 (by simp [XT.acmp, hc]) ho hp q
theorem r_retN (X : Stand p l e R s m args below meth c T locs cells slots) (hx : p.tables.exec = Jvm.exec) (hlk : meth.locks = false) {t : FieldType} {z w : Int32} (hret : meth.sig.returnType = some t) (ht : t = .boolean ∨ t = .byte ∨ t = .char ∨ t = .short) (hd : decode c.code pc = .ok (.ireturn, 1)) (hn : nar t z = w) (hq : Q (some (.int w)) T.heap locs) (h1 : cells ≤ kc) (h2 : slots ≤ ks) : Run p e below Q (fun o t L => FrameEnd s o t L kc ks) T (mkF m pc Ls (.int z :: rest)) := by
  subst hn
  obtain ⟨fs, hr, hrun, hended, hW, hsame⟩ := X.leave (v := some (.int (nar t z))) (fun q => by rw [hret] at q; cases q) hlk
  exact ⟨_, _, retN X hx hret ht hd hr, hrun, hended, _, _, rfl, hq, ⟨_, rfl⟩, hW, hsame.mono h1 h2⟩
theorem r_retV (X : Stand p l e R s m args below meth c T locs cells slots) (hx : p.tables.exec = Jvm.exec) (hlk : meth.locks = false) {t : FieldType} {w : Value} {i : Instr} (hret : meth.sig.returnType = some t) (hn : narrow t w = w)
    (hi : (i = .ireturn ∧ (t = .int ∨ t = .boolean ∨ t = .byte ∨ t = .char ∨ t = .short) ∧ ∃ z, w = .int z) ∨ (i = .lreturn ∧ t = .long ∧ ∃ z, w = .long z) ∨ (i = .dreturn ∧ t = .double ∧ ∃ z, w = .double z) ∨ (i = .freturn ∧ t = .float ∧ ∃ z, w = .float z) ∨ (i = .areturn ∧ t.isReference = true ∧ w.isRef = true))
    (hd : decode c.code pc = .ok (i, 1)) (hq : Q (some w) T.heap locs) (h1 : cells ≤ kc) (h2 : slots ≤ ks) : Run p e below Q (fun o t L => FrameEnd s o t L kc ks) T (mkF m pc Ls (w :: rest)) := by
  obtain ⟨fs, hr, hrun, hended, hW, hsame⟩ := X.leave (v := some w) (fun q => by rw [hret] at q; cases q) hlk
  exact ⟨_, _, retOut X hx hret hn hi hd hr, hrun, hended, _, _, rfl, hq, ⟨_, rfl⟩, hW, hsame.mono h1 h2⟩
theorem r_retI (X : Stand p l e R s m args below meth c T locs cells slots) (hx : p.tables.exec = Jvm.exec) (hlk : meth.locks = false) {w : Int32} (hret : meth.sig.returnType = some .int) (hd : decode c.code pc = .ok (.ireturn, 1)) (hq : Q (some (.int w)) T.heap locs) (h1 : cells ≤ kc) (h2 : slots ≤ ks) : Run p e below Q (fun o t L => FrameEnd s o t L kc ks) T (mkF m pc Ls (.int w :: rest)) :=
  r_retV X hx hlk hret rfl (Or.inl ⟨rfl, Or.inl rfl, _, rfl⟩) hd hq h1 h2
theorem r_retJ (X : Stand p l e R s m args below meth c T locs cells slots) (hx : p.tables.exec = Jvm.exec) (hlk : meth.locks = false) {w : Int64} (hret : meth.sig.returnType = some .long) (hd : decode c.code pc = .ok (.lreturn, 1)) (hq : Q (some (.long w)) T.heap locs) (h1 : cells ≤ kc) (h2 : slots ≤ ks) : Run p e below Q (fun o t L => FrameEnd s o t L kc ks) T (mkF m pc Ls (.long w :: rest)) :=
  r_retV X hx hlk hret rfl (Or.inr (Or.inl ⟨rfl, rfl, _, rfl⟩)) hd hq h1 h2
theorem r_retD (X : Stand p l e R s m args below meth c T locs cells slots) (hx : p.tables.exec = Jvm.exec) (hlk : meth.locks = false) {w : UInt64} (hret : meth.sig.returnType = some .double) (hd : decode c.code pc = .ok (.dreturn, 1)) (hq : Q (some (.double w)) T.heap locs) (h1 : cells ≤ kc) (h2 : slots ≤ ks) : Run p e below Q (fun o t L => FrameEnd s o t L kc ks) T (mkF m pc Ls (.double w :: rest)) :=
  r_retV X hx hlk hret rfl (Or.inr (Or.inr (Or.inl ⟨rfl, rfl, _, rfl⟩))) hd hq h1 h2
theorem r_retA (X : Stand p l e R s m args below meth c T locs cells slots) (hx : p.tables.exec = Jvm.exec) (hlk : meth.locks = false) {t : FieldType} {w : Value} (hret : meth.sig.returnType = some t) (ht : t.isReference = true) (hw : w.isRef = true) (hd : decode c.code pc = .ok (.areturn, 1)) (hq : Q (some w) T.heap locs) (h1 : cells ≤ kc) (h2 : slots ≤ ks) : Run p e below Q (fun o t L => FrameEnd s o t L kc ks) T (mkF m pc Ls (w :: rest)) :=
  r_retV X hx hlk hret (by rcases ref_cases hw with rfl | ⟨a, rfl⟩ <;> cases t <;> first | rfl | cases ht) (Or.inr (Or.inr (Or.inr (Or.inr ⟨rfl, ht, hw⟩)))) hd hq h1 h2
theorem r_ret0 (X : Stand p l e R s m args below meth c T locs cells slots) (hx : p.tables.exec = Jvm.exec) (hlk : meth.locks = false) (hret : meth.sig.returnType = none) (hd : decode c.code pc = .ok (.return_, 1)) (hq : Q none T.heap locs) (h1 : cells ≤ kc) (h2 : slots ≤ ks) : Run p e below Q (fun o t L => FrameEnd s o t L kc ks) T (mkF m pc Ls []) := by
  obtain ⟨fs, hr, hrun, hended, hW, hsame⟩ := X.leave (v := none) (fun _ => rfl) hlk
  exact ⟨_, _, X.returnOut hx hret hd hr, hrun, hended, _, _, rfl, hq, ⟨_, rfl⟩, hW, hsame.mono h1 h2⟩
theorem r_ldc (X : Stand p l e R s m args below meth c T locs cells slots) (hx : p.tables.exec = Jvm.exec) (hZ : Z.Warmed39 s.vm) {own : String} {index : Nat} {v : Int32} (hown : s.vm.findClass own = some m.cls) (w : (Jvm.Cond.constant own index v).before a0 Z = true) (hd : decode c.code pc = .ok (.ldc index, 2)) (hp : pc + 2 = pc') (r : Run p e below Q En T (mkF m pc' Ls (.int v :: rest))) : Run p e below Q En T (mkF m pc Ls rest) := by
  subst hp; exact r.on fun _ q => X.ldcInt hx hown (mvT hZ w) (g := mkF m pc Ls rest) rfl hd _ q
theorem r_ldc2 (X : Stand p l e R s m args below meth c T locs cells slots) (hx : p.tables.exec = Jvm.exec) (hZ : Z.Warmed39 s.vm) {own : String} {index : Nat} {v : Int64} (hown : s.vm.findClass own = some m.cls) (w : (Jvm.Cond.constantLong own index v).before a0 Z = true) (hd : decode c.code pc = .ok (.ldc2_w index, 3)) (hp : pc + 3 = pc') (r : Run p e below Q En T (mkF m pc' Ls (.long v :: rest))) : Run p e below Q En T (mkF m pc Ls rest) := by
  subst hp; exact r.on fun _ q => X.ldc2Long hx hown (mvT hZ w) (g := mkF m pc Ls rest) rfl hd _ q
theorem r_callS (X : Stand p l e R s m args below meth c T locs cells slots) (hx : p.tables.exec = Jvm.exec) (hZ : Z.Warmed39 s.vm) {own : String} {index : Nat} {y : MethodName} {bytes : ByteArray} {maxL : Nat} {ret : Option FieldType} {rm : Room} {as' : Array Value} {Qc : Option Value → Heap → List Loc → Prop} {argsL : List Value} {W : Nat}
    (hown : s.vm.findClass own = some m.cls) (w1 : (Jvm.Cond.methodLink own index y).before a0 Z = true) (w2 : (Jvm.Cond.static y).before a0 Z = true) (w3 : (Jvm.Cond.initialized y.cls).before a0 Z = true) (w4 : (Jvm.Cond.code y bytes maxL ret).before a0 Z = true) (hy : y.cls ≠ "java/lang/invoke/MethodHandle" ∧ y.cls ≠ "java/lang/invoke/VarHandle")
    (hM : Met l Z y bytes maxL ret [] rm as' h Qc rm.cells rm.slots) (eT : T.heap = h) (hsz : Ls.size = c.maxLocals) (hlen : ∀ sig, parseMethodDescriptor y.desc = some sig → argsL.length = sig.parameters.length) (hst : st = argsL.reverse ++ rest) (has : argsL.toArray = as') (hW : (rest.map fun v => v.category).sum = W)
    (hf : rm.frames + 1 ≤ R.frames) (hl : W + (maxL + 11) + rm.locals ≤ R.locals) (hcl : cells + rm.cells ≤ R.cells) (hsl : slots + rm.slots ≤ R.slots) (hd : decode c.code pc = .ok (.invokestatic index, 3)) (hp : pc + 3 = pc')
    (r : ∀ (v : Option Value) (T' : State) (L : List Loc), Stand p l e R s m args below meth c T' (locs ++ L) (cells + rm.cells) (slots + rm.slots) → Qc v T'.heap L → Run p e below Q En T' (mkF m pc' Ls (v.toList ++ rest))) : Run p e below Q En T (mkF m pc Ls st) := by
  subst hp
  obtain ⟨v, _, ⟨T', L', k', n'⟩, -, X', ⟨L, hQ, l1, y1, z1⟩, stp⟩ := Jvm.LawKit.callS X hx (y := y) hown (mvT hZ w1) (mvT hZ w2) (mvT hZ w3) (mvT hZ w4) hy (backOf (W := W) hM hZ w4 w3 hf hl) (g := mkF m pc Ls st) rfl hsz (argsL := argsL) (rest := rest) hlen hst (by show 2 * 0 + _ ≤ _; omega) hd (fun _ _ => ⟨has, eT, hcl, hsl⟩)
  dsimp only at X' l1 y1 z1 stp hQ
  subst l1 y1 z1
  exact (r v T' L X' hQ).on stp
theorem r_callI (X : Stand p l e R s m args below meth c T locs cells slots) (hx : p.tables.exec = Jvm.exec) (hZ : Z.Warmed39 s.vm) {own : String} {index : Nat} {y : MethodName} {bytes : ByteArray} {maxL : Nat} {rm : Room} {as' : Array Value} {Qc : Option Value → Heap → List Loc → Prop} {argsL : List Value} {W : Nat} {a : Addr}
    (hown : s.vm.findClass own = some m.cls) (hy1 : y.name = "<init>") (w1 : (Jvm.Cond.methodLink own index y).before a0 Z = true) (w2 : (Jvm.Cond.instanceMethod y).before a0 Z = true) (w3 : (Jvm.Cond.initialized y.cls).before a0 Z = true) (w4 : (Jvm.Cond.code y bytes maxL none).before a0 Z = true) (hy : y.cls ≠ "java/lang/invoke/MethodHandle" ∧ y.cls ≠ "java/lang/invoke/VarHandle")
    (hM : Met l Z y bytes maxL none [] rm as' h Qc rm.cells rm.slots) (eT : T.heap = h) (hsz : Ls.size = c.maxLocals) (hlen : ∀ sig, parseMethodDescriptor y.desc = some sig → argsL.length = sig.parameters.length) (hst : st = argsL.reverse ++ .ref a :: rest) (has : (.ref a :: argsL).toArray = as') (hW : (rest.map fun v => v.category).sum = W)
    (hf : rm.frames + 1 ≤ R.frames) (hl : W + (maxL + 11) + rm.locals ≤ R.locals) (hcl : cells + rm.cells ≤ R.cells) (hsl : slots + rm.slots ≤ R.slots) (hd : decode c.code pc = .ok (.invokespecial index, 3)) (hp : pc + 3 = pc')
    (r : ∀ (v : Option Value) (T' : State) (L : List Loc), Stand p l e R s m args below meth c T' (locs ++ L) (cells + rm.cells) (slots + rm.slots) → Qc v T'.heap L → Run p e below Q En T' (mkF m pc' Ls (v.toList ++ rest))) : Run p e below Q En T (mkF m pc Ls st) := by
  subst hp
  obtain ⟨v, _, ⟨T', L', k', n'⟩, -, X', ⟨L, hQ, l1, y1, z1⟩, stp⟩ := X.specialBack hx (y := y) hy1 hown (mvT hZ w1) (mvT hZ w2) (mvT hZ w4) hy (backOf (W := W) hM hZ w4 w3 hf hl) (g := mkF m pc Ls st) rfl hsz (Steps.refl _) (a := a) (argsL := argsL) (rest := rest) hlen hst (by show 2 * 0 + _ ≤ _; omega) hd (fun _ _ => ⟨has, eT, hcl, hsl⟩)
  dsimp only at X' l1 y1 z1 stp hQ
  subst l1 y1 z1
  exact (r v T' L X' hQ).on fun _ q => stp.trans q
theorem r_callV (X : Stand p l e R s m args below meth c T locs cells slots) (hx : p.tables.exec = Jvm.exec) (hZ : Z.Warmed39 s.vm) {own C : String} {index : Nat} {y z : MethodName} {bytes : ByteArray} {maxL : Nat} {ret : Option FieldType} {rm : Room} {as' : Array Value} {Qc : Option Value → Heap → List Loc → Prop} {argsL : List Value} {W : Nat} {a : Addr}
    (hown : s.vm.findClass own = some m.cls) (w1 : (Jvm.Cond.methodLink own index y).before a0 Z = true) (w2 : (Jvm.Cond.declares y).before a0 Z = true) (nf : NotFace s y) (w5 : (Jvm.Cond.selects C y z).before a0 Z = true) (w6 : (Jvm.Cond.instanceMethod z).before a0 Z = true) (w3 : (Jvm.Cond.initialized z.cls).before a0 Z = true) (w4 : (Jvm.Cond.code z bytes maxL ret).before a0 Z = true) (hy : y.cls ≠ "java/lang/invoke/MethodHandle" ∧ y.cls ≠ "java/lang/invoke/VarHandle")
    (hM : Met l Z z bytes maxL ret [] rm as' h Qc rm.cells rm.slots) (eT : T.heap = h) (E : Exa Z h a C) (hsz : Ls.size = c.maxLocals) (hlen : ∀ sig, parseMethodDescriptor y.desc = some sig → argsL.length = sig.parameters.length) (hst : st = argsL.reverse ++ .ref a :: rest) (has : (.ref a :: argsL).toArray = as') (hW : (rest.map fun v => v.category).sum = W)
    (hf : rm.frames + 1 ≤ R.frames) (hl : W + (maxL + 11) + rm.locals ≤ R.locals) (hcl : cells + rm.cells ≤ R.cells) (hsl : slots + rm.slots ≤ R.slots) (hd : decode c.code pc = .ok (.invokevirtual index, 3)) (hp : pc + 3 = pc')
    (r : ∀ (v : Option Value) (T' : State) (L : List Loc), Stand p l e R s m args below meth c T' (locs ++ L) (cells + rm.cells) (slots + rm.slots) → Qc v T'.heap L → Run p e below Q En T' (mkF m pc' Ls (v.toList ++ rest))) : Run p e below Q En T (mkF m pc Ls st) := by
  subst hp
  obtain ⟨cq, kq, qa, qb, qc⟩ := isOf hZ eT E
  obtain ⟨v, _, ⟨T', L', k', n'⟩, -, X', ⟨L, hQ, l1, y1, z1⟩, stp⟩ := X.virtualBack hx (y := y) (z := z) hown (mvT hZ w1) (mvT hZ w2) nf (mvT hZ w5) (mvT hZ w6) hy (backOf (W := W) hM hZ w4 w3 hf hl) qa qc (g := mkF m pc Ls st) rfl hsz (Steps.refl _) (argsL := argsL) (rest := rest) hlen hst (by show 2 * 0 + _ ≤ _; omega) hd (fun _ _ => ⟨has, eT, hcl, hsl⟩)
  dsimp only at X' l1 y1 z1 stp hQ
  subst l1 y1 z1
  exact (r v T' L X' hQ).on fun _ q => stp.trans q
theorem r_initO (X : Stand p l e R s m args below meth c T locs cells slots) (hx : p.tables.exec = Jvm.exec) (hZ : Z.Warmed39 s.vm) {own : String} {index : Nat} {a : Addr} {W : Nat}
    (hown : s.vm.findClass own = some m.cls) (w1 : (Jvm.Cond.methodLink own index Lib.objectInit).before a0 Z = true) (w2 : (Jvm.Cond.instanceMethod Lib.objectInit).before a0 Z = true) (w4 : (Jvm.Cond.code Lib.objectInit ⟨#[0xb1]⟩ 1 none).before a0 Z = true)
    (eT : T.heap = h) (hsz : Ls.size = c.maxLocals) (hf : 1 ≤ R.frames) (hW : (rest.map fun v => v.category).sum = W) (hl : W + 12 ≤ R.locals) (hd : decode c.code pc = .ok (.invokespecial index, 3)) (hp : pc + 3 = pc')
    (r : ∀ T', Stand p l e R s m args below meth c T' locs cells slots → T'.heap = h → Run p e below Q En T' (mkF m pc' Ls rest)) : Run p e below Q En T (mkF m pc Ls (.ref a :: rest)) := by
  subst hp
  obtain ⟨T', X', e', stp⟩ := initO X hx hZ hown w1 w2 w4 eT (g := mkF m pc Ls (.ref a :: rest)) rfl hsz rfl hd hf (W := W) (by show 2 * 0 + _ ≤ _; omega) hl
  exact (r T' X' e').on stp
theorem r_new (X : Stand p l e R s m args below meth c T locs cells slots) (hx : p.tables.exec = Jvm.exec) (hZ : Z.Warmed39 s.vm) {own C : String} {index n : Nat} (hown : s.vm.findClass own = some m.cls) (w : (Jvm.Cond.classLink own index C).before a0 Z = true) (wi : (Jvm.Cond.instantiable C n).before a0 Z = true) (wz : (Jvm.Cond.initialized C).before a0 Z = true) (eT : T.heap = h) (hc : cells + 1 ≤ R.cells) (hl : slots + n ≤ R.slots) (hd : decode c.code pc = .ok (.new index, 3)) (hp : pc + 3 = pc')
    (r : ∀ (T' : State) (h' : Heap) (a : Addr), a = h.size → Stand p l e R s m args below meth c T' locs (cells + 1) (slots + n) → T'.heap = h' → Ext h h' → Exa Z h' a C → (∀ {O nm d : String} {ty : FieldType}, Laid Z a0 C O nm d → parseFieldDescriptor d = some ty → Fld Z h' a O nm d (defaultValue ty)) → Run p e below Q En T' (mkF m pc' Ls (.ref a :: rest))) : Run p e below Q En T (mkF m pc Ls rest) := by
  subst hp
  obtain ⟨T', h', X', e', E', A', D', -, stp⟩ := newO X hx hZ hown w wi wz eT (g := mkF m pc Ls rest) rfl hd hc hl
  exact (r T' h' h.size rfl X' e' E' A' D').on stp
theorem r_getF (X : Stand p l e R s m args below meth c T locs cells slots) (hx : p.tables.exec = Jvm.exec) (hZ : Z.Warmed39 s.vm) {own R0 O n d : String} {index : Nat} {a : Addr} {v : Value} (hown : s.vm.findClass own = some m.cls) (w : (Jvm.Cond.fieldLink own index R0 n d).before a0 Z = true) (via : Via Z R0 O n d) (eT : T.heap = h) (F : Fld Z h a O n d v) (hd : decode c.code pc = .ok (.getfield index, 3)) (hp : pc + 3 = pc')
    (r : ∀ T', Stand p l e R s m args below meth c T' locs cells slots → T'.heap = h → Run p e below Q En T' (mkF m pc' Ls (v :: rest))) : Run p e below Q En T (mkF m pc Ls (.ref a :: rest)) := by
  subst hp
  obtain ⟨T', X', e', stp⟩ := getF X hx hZ hown (host := "") (Or.inl w) via eT F (g := mkF m pc Ls (.ref a :: rest)) rfl rfl hd
  exact (r T' X' e').on stp
theorem r_getFN (X : Stand p l e R s m args below meth c T locs cells slots) (hx : p.tables.exec = Jvm.exec) (hZ : Z.Warmed39 s.vm) {own R0 O n d host : String} {index : Nat} {a : Addr} {v : Value} (hown : s.vm.findClass own = some m.cls) (w : (Jvm.Cond.fieldLinkNest own index R0 n d host).before a0 Z = true) (via : Via Z R0 O n d) (eT : T.heap = h) (F : Fld Z h a O n d v) (hd : decode c.code pc = .ok (.getfield index, 3)) (hp : pc + 3 = pc')
    (r : ∀ T', Stand p l e R s m args below meth c T' locs cells slots → T'.heap = h → Run p e below Q En T' (mkF m pc' Ls (v :: rest))) : Run p e below Q En T (mkF m pc Ls (.ref a :: rest)) := by
  subst hp
  obtain ⟨T', X', e', stp⟩ := getF X hx hZ hown (Or.inr w) via eT F (g := mkF m pc Ls (.ref a :: rest)) rfl rfl hd
  exact (r T' X' e').on stp
theorem r_getS (X : Stand p l e R s m args below meth c T locs cells slots) (hx : p.tables.exec = Jvm.exec) (hZ : Z.Warmed39 s.vm) {own R0 O n d : String} {index : Nat} {v : Value} (hown : s.vm.findClass own = some m.cls) (w : (Jvm.Cond.fieldLink own index R0 n d).before a0 Z = true) (via : Via Z R0 O n d) (eT : T.heap = h) (F : Sta Z h O n d v) (hd : decode c.code pc = .ok (.getstatic index, 3)) (hp : pc + 3 = pc')
    (r : ∀ T', Stand p l e R s m args below meth c T' locs cells slots → T'.heap = h → Run p e below Q En T' (mkF m pc' Ls (v :: rest))) : Run p e below Q En T (mkF m pc Ls rest) := by
  subst hp
  obtain ⟨T', X', e', stp⟩ := getS2 X hx hZ hown (host := "") (Or.inl w) via eT F (g := mkF m pc Ls rest) rfl hd
  exact (r T' X' e').on stp
theorem r_putF (X : Stand p l e R s m args below meth c T locs cells slots) (hx : p.tables.exec = Jvm.exec) (hZ : Z.Warmed39 s.vm) {own R0 O n d C : String} {index kk : Nat} {ty : FieldType} {a : Addr} {v old : Value} (hown : s.vm.findClass own = some m.cls) (w : (Jvm.Cond.fieldLink own index R0 n d).before a0 Z = true) (via : Via Z R0 O n d) (eT : T.heap = h) (F : Fld Z h a O n d old) (E : Exa Z h a C) (L : (Jvm.Cond.lays C O n d).before a0 Z = true ∨ ((Jvm.Cond.laysFinal C O n d).before a0 Z = true ∧ own = O ∧ meth.name = "<init>")) (wi : (Jvm.Cond.instantiable C kk).before a0 Z = true) (hty : parseFieldDescriptor d = some ty) (hn : narrow ty v = v) (hf : fits ty v = true) (hd : decode c.code pc = .ok (.putfield index, 3)) (hp : pc + 3 = pc')
    (r : ∀ (T' : State) (h' : Heap), Stand p l e R s m args below meth c T' (locs ++ [⟨a, Jvm.RoadKit.slotOf Z O n d⟩]) cells slots → T'.heap = h' → Wr h h' a (Jvm.RoadKit.slotOf Z O n d) v → Run p e below Q En T' (mkF m pc' Ls rest)) : Run p e below Q En T (mkF m pc Ls (v :: .ref a :: rest)) := by
  subst hp
  obtain ⟨T', h', X', e', W', stp⟩ := putF X hx hZ hown (host := "") (Or.inl w) via eT F E L wi hty hn hf (g := mkF m pc Ls (v :: .ref a :: rest)) rfl rfl hd
  exact (r T' h' X' e' W').on stp
theorem r_newarray (X : Stand p l e R s m args below meth c T locs cells slots) (hx : p.tables.exec = Jvm.exec) (hZ : Z.Warmed39 s.vm) {aty : ArrayType} (w : (Jvm.Cond.arrayClass (newarray.typeOf aty)).before a0 Z = true) (eT : T.heap = h) {n : Int32} {cap : Nat} (hn : ¬ n < 0) (hcap : n.toNatClampNeg ≤ cap) (hb8 : cap * 8 ≤ 536870912) (hc : cells + 1 ≤ R.cells) (hl : slots + cap ≤ R.slots) (hd : decode c.code pc = .ok (.newarray aty, 2)) (hp : pc + 2 = pc')
    (r : ∀ (T' : State) (h' : Heap) (a : Addr) (cA : ClassId), a = h.size → Stand p l e R s m args below meth c T' locs (cells + 1) (slots + cap) → T'.heap = h' → Ext h h' → Arr Z h' a (newA cA (newarray.typeOf aty) n) (newarray.typeOf aty) → Run p e below Q En T' (mkF m pc' Ls (.ref a :: rest))) : Run p e below Q En T (mkF m pc Ls (.int n :: rest)) := by
  subst hp
  obtain ⟨T', h', cA, X', e', E', A', stp⟩ := newP X hx hZ w eT (g := mkF m pc Ls (.int n :: rest)) rfl hd rfl hn hcap hb8 hc hl
  exact (r T' h' h.size cA rfl X' e' E' A').on stp
theorem r_putFN (X : Stand p l e R s m args below meth c T locs cells slots) (hx : p.tables.exec = Jvm.exec) (hZ : Z.Warmed39 s.vm) {own R0 O n d C : String} {index kk : Nat} {ty : FieldType} {a : Addr} {v v' old : Value} (hown : s.vm.findClass own = some m.cls) (w : (Jvm.Cond.fieldLink own index R0 n d).before a0 Z = true) (via : Via Z R0 O n d) (eT : T.heap = h) (F : Fld Z h a O n d old) (E : Exa Z h a C) (L : (Jvm.Cond.lays C O n d).before a0 Z = true ∨ ((Jvm.Cond.laysFinal C O n d).before a0 Z = true ∧ own = O ∧ meth.name = "<init>")) (wi : (Jvm.Cond.instantiable C kk).before a0 Z = true) (hty : parseFieldDescriptor d = some ty) (hn : narrow ty v = v') (hf : fits ty v' = true) (hd : decode c.code pc = .ok (.putfield index, 3)) (hp : pc + 3 = pc')
    (r : ∀ (T' : State) (h' : Heap), Stand p l e R s m args below meth c T' (locs ++ [⟨a, Jvm.RoadKit.slotOf Z O n d⟩]) cells slots → T'.heap = h' → Wr h h' a (Jvm.RoadKit.slotOf Z O n d) v' → Run p e below Q En T' (mkF m pc' Ls rest)) : Run p e below Q En T (mkF m pc Ls (v :: .ref a :: rest)) := by
  subst hp
  obtain ⟨T', h', X', e', W', stp⟩ := putFN X hx hZ hown w via eT F E L wi hty hn hf (g := mkF m pc Ls (v :: .ref a :: rest)) rfl rfl hd
  exact (r T' h' X' e' W').on stp
theorem r_anewarray (X : Stand p l e R s m args below meth c T locs cells slots) (hx : p.tables.exec = Jvm.exec) (hZ : Z.Warmed39 s.vm) {own C : String} {index : Nat} (hown : s.vm.findClass own = some m.cls) (w1 : (Jvm.Cond.classLink own index C).before a0 Z = true) (w2 : (Jvm.Cond.arrayOver (.object C)).before a0 Z = true) (eT : T.heap = h) {n : Int32} {cap : Nat} (hn : ¬ n < 0) (hcap : n.toNatClampNeg ≤ cap) (hb8 : cap * 8 ≤ 536870912) (hc : cells + 1 ≤ R.cells) (hl : slots + cap ≤ R.slots) (hd : decode c.code pc = .ok (.anewarray index, 3)) (hp : pc + 3 = pc')
    (r : ∀ (T' : State) (h' : Heap) (a : Addr) (cA : ClassId), a = h.size → Stand p l e R s m args below meth c T' locs (cells + 1) (slots + cap) → T'.heap = h' → Ext h h' → Arr Z h' a (newA cA (.object C) n) (.object C) → Ovr Z cA C → Run p e below Q En T' (mkF m pc' Ls (.ref a :: rest))) : Run p e below Q En T (mkF m pc Ls (.int n :: rest)) := by
  subst hp
  obtain ⟨T', h', cA, X', e', E', A', O', stp⟩ := newR X hx hZ hown w1 w2 eT (g := mkF m pc Ls (.int n :: rest)) rfl hd rfl hn hcap hb8 hc hl
  exact (r T' h' h.size cA rfl X' e' E' A' O').on stp
theorem r_iastore (X : Stand p l e R s m args below meth c T locs cells slots) (hx : p.tables.exec = Jvm.exec) (hZ : Z.Warmed39 s.vm) (eT : T.heap = h) {a : Addr} {cl : Cell} {j : Int32} {x : Int32} (A : Arr Z h a cl .int) (hj : ¬ (j < 0 ∨ cl.slots.size ≤ j.toNatClampNeg)) (hd : decode c.code pc = .ok (.iastore, 1)) (hp : pc + 1 = pc')
    (r : ∀ (T' : State) (h' : Heap), Stand p l e R s m args below meth c T' (locs ++ [⟨a, j.toNatClampNeg⟩]) cells slots → T'.heap = h' → Wr h h' a j.toNatClampNeg (.int x) → Run p e below Q En T' (mkF m pc' Ls rest)) : Run p e below Q En T (mkF m pc Ls (.int x :: .int j :: .ref a :: rest)) := by
  subst hp
  obtain ⟨T', h', X', e', W', stp⟩ := stI X hx hZ eT A hj (g := mkF m pc Ls (.int x :: .int j :: .ref a :: rest)) rfl rfl hd
  exact (r T' h' X' e' W').on stp
theorem r_lastore (X : Stand p l e R s m args below meth c T locs cells slots) (hx : p.tables.exec = Jvm.exec) (hZ : Z.Warmed39 s.vm) (eT : T.heap = h) {a : Addr} {cl : Cell} {j : Int32} {x : Int64} (A : Arr Z h a cl .long) (hj : ¬ (j < 0 ∨ cl.slots.size ≤ j.toNatClampNeg)) (hd : decode c.code pc = .ok (.lastore, 1)) (hp : pc + 1 = pc')
    (r : ∀ (T' : State) (h' : Heap), Stand p l e R s m args below meth c T' (locs ++ [⟨a, j.toNatClampNeg⟩]) cells slots → T'.heap = h' → Wr h h' a j.toNatClampNeg (.long x) → Run p e below Q En T' (mkF m pc' Ls rest)) : Run p e below Q En T (mkF m pc Ls (.long x :: .int j :: .ref a :: rest)) := by
  subst hp
  obtain ⟨T', h', X', e', W', stp⟩ := stJ X hx hZ eT A hj (g := mkF m pc Ls (.long x :: .int j :: .ref a :: rest)) rfl rfl hd
  exact (r T' h' X' e' W').on stp
theorem r_castore (X : Stand p l e R s m args below meth c T locs cells slots) (hx : p.tables.exec = Jvm.exec) (hZ : Z.Warmed39 s.vm) (eT : T.heap = h) {a : Addr} {cl : Cell} {j x : Int32} (A : Arr Z h a cl .char) (hj : ¬ (j < 0 ∨ cl.slots.size ≤ j.toNatClampNeg)) (hd : decode c.code pc = .ok (.castore, 1)) (hp : pc + 1 = pc')
    (r : ∀ (T' : State) (h' : Heap), Stand p l e R s m args below meth c T' (locs ++ [⟨a, j.toNatClampNeg⟩]) cells slots → T'.heap = h' → Wr h h' a j.toNatClampNeg (.int (nar .char x)) → Run p e below Q En T' (mkF m pc' Ls rest)) : Run p e below Q En T (mkF m pc Ls (.int x :: .int j :: .ref a :: rest)) := by
  subst hp
  obtain ⟨T', h', X', e', W', stp⟩ := stC X hx hZ eT A hj (g := mkF m pc Ls (.int x :: .int j :: .ref a :: rest)) rfl rfl hd
  exact (r T' h' X' e' W').on stp
theorem r_sastore (X : Stand p l e R s m args below meth c T locs cells slots) (hx : p.tables.exec = Jvm.exec) (hZ : Z.Warmed39 s.vm) (eT : T.heap = h) {a : Addr} {cl : Cell} {j x : Int32} (A : Arr Z h a cl .short) (hj : ¬ (j < 0 ∨ cl.slots.size ≤ j.toNatClampNeg)) (hd : decode c.code pc = .ok (.sastore, 1)) (hp : pc + 1 = pc')
    (r : ∀ (T' : State) (h' : Heap), Stand p l e R s m args below meth c T' (locs ++ [⟨a, j.toNatClampNeg⟩]) cells slots → T'.heap = h' → Wr h h' a j.toNatClampNeg (.int (nar .short x)) → Run p e below Q En T' (mkF m pc' Ls rest)) : Run p e below Q En T (mkF m pc Ls (.int x :: .int j :: .ref a :: rest)) := by
  subst hp
  obtain ⟨T', h', X', e', W', stp⟩ := stS X hx hZ eT A hj (g := mkF m pc Ls (.int x :: .int j :: .ref a :: rest)) rfl rfl hd
  exact (r T' h' X' e' W').on stp
theorem r_bastoreB (X : Stand p l e R s m args below meth c T locs cells slots) (hx : p.tables.exec = Jvm.exec) (hZ : Z.Warmed39 s.vm) (eT : T.heap = h) {a : Addr} {cl : Cell} {j x : Int32} (A : Arr Z h a cl .byte) (hj : ¬ (j < 0 ∨ cl.slots.size ≤ j.toNatClampNeg)) (hd : decode c.code pc = .ok (.bastore, 1)) (hp : pc + 1 = pc')
    (r : ∀ (T' : State) (h' : Heap), Stand p l e R s m args below meth c T' (locs ++ [⟨a, j.toNatClampNeg⟩]) cells slots → T'.heap = h' → Wr h h' a j.toNatClampNeg (.int (nar .byte x)) → Run p e below Q En T' (mkF m pc' Ls rest)) : Run p e below Q En T (mkF m pc Ls (.int x :: .int j :: .ref a :: rest)) := by
  subst hp
  obtain ⟨T', h', X', e', W', stp⟩ := stB X hx hZ eT A hj (g := mkF m pc Ls (.int x :: .int j :: .ref a :: rest)) rfl rfl hd
  exact (r T' h' X' e' W').on stp
theorem r_bastoreZ (X : Stand p l e R s m args below meth c T locs cells slots) (hx : p.tables.exec = Jvm.exec) (hZ : Z.Warmed39 s.vm) (eT : T.heap = h) {a : Addr} {cl : Cell} {j x : Int32} (A : Arr Z h a cl .boolean) (hj : ¬ (j < 0 ∨ cl.slots.size ≤ j.toNatClampNeg)) (hd : decode c.code pc = .ok (.bastore, 1)) (hp : pc + 1 = pc')
    (r : ∀ (T' : State) (h' : Heap), Stand p l e R s m args below meth c T' (locs ++ [⟨a, j.toNatClampNeg⟩]) cells slots → T'.heap = h' → Wr h h' a j.toNatClampNeg (.int (nar .boolean x)) → Run p e below Q En T' (mkF m pc' Ls rest)) : Run p e below Q En T (mkF m pc Ls (.int x :: .int j :: .ref a :: rest)) := by
  subst hp
  obtain ⟨T', h', X', e', W', stp⟩ := stZ X hx hZ eT A hj (g := mkF m pc Ls (.int x :: .int j :: .ref a :: rest)) rfl rfl hd
  exact (r T' h' X' e' W').on stp
theorem r_arraylength (X : Stand p l e R s m args below meth c T locs cells slots) (hx : p.tables.exec = Jvm.exec) (hZ : Z.Warmed39 s.vm) (eT : T.heap = h) {a : Addr} {cl : Cell} {ty : FieldType} {n : Int32} (A : Arr Z h a cl ty) (hn : cl.slots.size.toInt32 = n) (hd : decode c.code pc = .ok (.arraylength, 1)) (hp : pc + 1 = pc') (r : Run p e below Q En T (mkF m pc' Ls (.int n :: rest))) : Run p e below Q En T (mkF m pc Ls (.ref a :: rest)) := by
  subst hp hn; exact r.on fun _ q => X.arraylength hx (by rw [eT]; exact A.1) (State.isArrayOf_alike hZ.alike A.2.1) (g := mkF m pc Ls (.ref a :: rest)) rfl rfl hd _ q
theorem r_iaload (X : Stand p l e R s m args below meth c T locs cells slots) (hx : p.tables.exec = Jvm.exec) (hZ : Z.Warmed39 s.vm) (eT : T.heap = h) {a : Addr} {cl : Cell} {j : Int32} {v : Int32} (A : Arr Z h a cl .int) (hj : ¬ (j < 0 ∨ cl.slots.size ≤ j.toNatClampNeg)) (hat : cl.slots[j.toNatClampNeg]? = some (.int v)) (hd : decode c.code pc = .ok (.iaload, 1)) (hp : pc + 1 = pc') (r : Run p e below Q En T (mkF m pc' Ls (.int v :: rest))) : Run p e below Q En T (mkF m pc Ls (.int j :: .ref a :: rest)) := by
  subst hp; exact r.on fun _ q => X.iaload hx (j := j) (v := .int v) (by rw [eT]; exact A.1) (State.isArrayOf_alike hZ.alike A.2.1) A.2.2 hj hat (g := mkF m pc Ls (.int j :: .ref a :: rest)) rfl rfl hd _ q
theorem r_caload (X : Stand p l e R s m args below meth c T locs cells slots) (hx : p.tables.exec = Jvm.exec) (hZ : Z.Warmed39 s.vm) (eT : T.heap = h) {a : Addr} {cl : Cell} {j : Int32} {v : Int32} (A : Arr Z h a cl .char) (hj : ¬ (j < 0 ∨ cl.slots.size ≤ j.toNatClampNeg)) (hat : cl.slots[j.toNatClampNeg]? = some (.int v)) (hd : decode c.code pc = .ok (.caload, 1)) (hp : pc + 1 = pc') (r : Run p e below Q En T (mkF m pc' Ls (.int v :: rest))) : Run p e below Q En T (mkF m pc Ls (.int j :: .ref a :: rest)) := by
  subst hp; exact r.on fun _ q => X.caload hx (j := j) (v := .int v) (by rw [eT]; exact A.1) (State.isArrayOf_alike hZ.alike A.2.1) A.2.2 hj hat (g := mkF m pc Ls (.int j :: .ref a :: rest)) rfl rfl hd _ q
theorem r_saload (X : Stand p l e R s m args below meth c T locs cells slots) (hx : p.tables.exec = Jvm.exec) (hZ : Z.Warmed39 s.vm) (eT : T.heap = h) {a : Addr} {cl : Cell} {j : Int32} {v : Int32} (A : Arr Z h a cl .short) (hj : ¬ (j < 0 ∨ cl.slots.size ≤ j.toNatClampNeg)) (hat : cl.slots[j.toNatClampNeg]? = some (.int v)) (hd : decode c.code pc = .ok (.saload, 1)) (hp : pc + 1 = pc') (r : Run p e below Q En T (mkF m pc' Ls (.int v :: rest))) : Run p e below Q En T (mkF m pc Ls (.int j :: .ref a :: rest)) := by
  subst hp; exact r.on fun _ q => X.saload hx (j := j) (v := .int v) (by rw [eT]; exact A.1) (State.isArrayOf_alike hZ.alike A.2.1) A.2.2 hj hat (g := mkF m pc Ls (.int j :: .ref a :: rest)) rfl rfl hd _ q
theorem r_baload (X : Stand p l e R s m args below meth c T locs cells slots) (hx : p.tables.exec = Jvm.exec) (hZ : Z.Warmed39 s.vm) (eT : T.heap = h) {a : Addr} {cl : Cell} {j : Int32} {v : Int32} (A : Arr Z h a cl .byte) (hj : ¬ (j < 0 ∨ cl.slots.size ≤ j.toNatClampNeg)) (hat : cl.slots[j.toNatClampNeg]? = some (.int v)) (hd : decode c.code pc = .ok (.baload, 1)) (hp : pc + 1 = pc') (r : Run p e below Q En T (mkF m pc' Ls (.int v :: rest))) : Run p e below Q En T (mkF m pc Ls (.int j :: .ref a :: rest)) := by
  subst hp; exact r.on fun _ q => X.baloadBytes hx (j := j) (v := .int v) (by rw [eT]; exact A.1) (State.isArrayOf_alike hZ.alike A.2.1) A.2.2 hj hat (g := mkF m pc Ls (.int j :: .ref a :: rest)) rfl rfl hd _ q
theorem r_baloadZ (X : Stand p l e R s m args below meth c T locs cells slots) (hx : p.tables.exec = Jvm.exec) (hZ : Z.Warmed39 s.vm) (eT : T.heap = h) {a : Addr} {cl : Cell} {j : Int32} {v : Int32} (A : Arr Z h a cl .boolean) (hj : ¬ (j < 0 ∨ cl.slots.size ≤ j.toNatClampNeg)) (hat : cl.slots[j.toNatClampNeg]? = some (.int v)) (hd : decode c.code pc = .ok (.baload, 1)) (hp : pc + 1 = pc') (r : Run p e below Q En T (mkF m pc' Ls (.int v :: rest))) : Run p e below Q En T (mkF m pc Ls (.int j :: .ref a :: rest)) := by
  subst hp; exact r.on fun _ q => X.baloadBooleans hx (j := j) (v := .int v) (by rw [eT]; exact A.1) (State.isArrayOf_alike hZ.alike A.2.1) A.2.2 hj hat (g := mkF m pc Ls (.int j :: .ref a :: rest)) rfl rfl hd _ q
theorem r_laload (X : Stand p l e R s m args below meth c T locs cells slots) (hx : p.tables.exec = Jvm.exec) (hZ : Z.Warmed39 s.vm) (eT : T.heap = h) {a : Addr} {cl : Cell} {j : Int32} {v : Int64} (A : Arr Z h a cl .long) (hj : ¬ (j < 0 ∨ cl.slots.size ≤ j.toNatClampNeg)) (hat : cl.slots[j.toNatClampNeg]? = some (.long v)) (hd : decode c.code pc = .ok (.laload, 1)) (hp : pc + 1 = pc') (r : Run p e below Q En T (mkF m pc' Ls (.long v :: rest))) : Run p e below Q En T (mkF m pc Ls (.int j :: .ref a :: rest)) := by
  subst hp; exact r.on fun _ q => X.laload hx (j := j) (v := .long v) (by rw [eT]; exact A.1) (State.isArrayOf_alike hZ.alike A.2.1) A.2.2 hj hat (g := mkF m pc Ls (.int j :: .ref a :: rest)) rfl rfl hd _ q
theorem r_ldcS {vm0 : Vm} {k0 nn : Nat} (X : Stand p l e R (s.setVm vm0) m args below meth c T locs cells slots) (hx : p.tables.exec = Jvm.exec) (hZ : Z.Warmed39 vm0) {own text : String} {index : Nat} (hown : vm0.findClass own = some m.cls) (w : (Jvm.Cond.stringLink own index text).before a0 Z = true) (wS : ∀ a ∈ Bundle.stringAtoms, a.before a0 Z = true) (eT : T.heap = h) (hS : s.Since vm0 k0) (hk : k0 ≤ h.size) (hn : 4 * text.toList.length ≤ nn) (hbig : nn ≤ 536870912) (hc : cells + 2 ≤ R.cells) (hl : slots + (nn + 4) ≤ R.slots) (hd : decode c.code pc = .ok (.ldc index, 2)) (hp : pc + 2 = pc')
    (r : ∀ (a : Addr) (T' : State) (h' : Heap) (k1 : Nat), Stand p l e R (s.setVm T'.vm) m args below meth c T' locs (cells + 2) (slots + (nn + 4)) → T'.heap = h' → Ext h h' → s.Since T'.vm k1 → k1 ≤ h'.size → Z.Warmed39 (s.setVm T'.vm).vm → (s.setVm T'.vm).vm.findClass own = some m.cls → Run p e below Q En T' (mkF m pc' Ls (.ref a :: rest))) : Run p e below Q En T (mkF m pc Ls rest) := by
  subst hp
  obtain ⟨a, T', h', k1, X', e', E', hS', hk', hZ', ho', stp⟩ := ldcS X hx hZ hown w wS eT hS hk (g := mkF m pc Ls rest) rfl hd hn hbig hc hl
  exact (r a T' h' k1 X' e' E' hS' hk' hZ' ho').on stp
theorem w_retN {vm1 : Vm} {k1 : Nat} (X : Stand p l e R (s.setVm vm1) m args below meth c T locs cells slots) (hS : s.Since vm1 k1) (hk : k1 ≤ T.heap.size) (hx : p.tables.exec = Jvm.exec) (hlk : meth.locks = false) {t : FieldType} {z w : Int32} (hret : meth.sig.returnType = some t) (ht : t = .boolean ∨ t = .byte ∨ t = .char ∨ t = .short) (hd : decode c.code pc = .ok (.ireturn, 1)) (hn : nar t z = w) (hq : Q (some (.int w)) T.heap locs) (h1 : cells ≤ kc) (h2 : slots ≤ ks) : Run p e below Q (fun o t L => ReturnedEndW s o t L kc ks) T (mkF m pc Ls (.int z :: rest)) := by
  subst hn
  obtain ⟨fs, hr, hrun, hended, h4, h5, h6, h7⟩ := X.leaveW hS hk (v := some (.int (nar t z))) (fun q => by rw [hret] at q; cases q) hlk
  exact ⟨_, _, retN X hx hret ht hd hr, hrun, hended, _, _, rfl, hq, h4, h5, h6, h7.mono h1 h2⟩
theorem w_retV {vm1 : Vm} {k1 : Nat} (X : Stand p l e R (s.setVm vm1) m args below meth c T locs cells slots) (hS : s.Since vm1 k1) (hk : k1 ≤ T.heap.size) (hx : p.tables.exec = Jvm.exec) (hlk : meth.locks = false) {t : FieldType} {w : Value} {i : Instr} (hret : meth.sig.returnType = some t) (hn : narrow t w = w)
    (hi : (i = .ireturn ∧ (t = .int ∨ t = .boolean ∨ t = .byte ∨ t = .char ∨ t = .short) ∧ ∃ z, w = .int z) ∨ (i = .lreturn ∧ t = .long ∧ ∃ z, w = .long z) ∨ (i = .dreturn ∧ t = .double ∧ ∃ z, w = .double z) ∨ (i = .freturn ∧ t = .float ∧ ∃ z, w = .float z) ∨ (i = .areturn ∧ t.isReference = true ∧ w.isRef = true))
    (hd : decode c.code pc = .ok (i, 1)) (hq : Q (some w) T.heap locs) (h1 : cells ≤ kc) (h2 : slots ≤ ks) : Run p e below Q (fun o t L => ReturnedEndW s o t L kc ks) T (mkF m pc Ls (w :: rest)) := by
  obtain ⟨fs, hr, hrun, hended, h4, h5, h6, h7⟩ := X.leaveW hS hk (v := some w) (fun q => by rw [hret] at q; cases q) hlk
  exact ⟨_, _, retOut X hx hret hn hi hd hr, hrun, hended, _, _, rfl, hq, h4, h5, h6, h7.mono h1 h2⟩
theorem w_ret0 {vm1 : Vm} {k1 : Nat} (X : Stand p l e R (s.setVm vm1) m args below meth c T locs cells slots) (hS : s.Since vm1 k1) (hk : k1 ≤ T.heap.size) (hx : p.tables.exec = Jvm.exec) (hlk : meth.locks = false) (hret : meth.sig.returnType = none) (hd : decode c.code pc = .ok (.return_, 1)) (hq : Q none T.heap locs) (h1 : cells ≤ kc) (h2 : slots ≤ ks) : Run p e below Q (fun o t L => ReturnedEndW s o t L kc ks) T (mkF m pc Ls []) := by
  obtain ⟨fs, hr, hrun, hended, h4, h5, h6, h7⟩ := X.leaveW hS hk (v := none) (fun _ => rfl) hlk
  exact ⟨_, _, X.returnOut hx hret hd hr, hrun, hended, _, _, rfl, hq, h4, h5, h6, h7.mono h1 h2⟩
abbrev MetW (l : Launch) (Z : State) (y : MethodName) (bytes : ByteArray) (maxL : Nat) (ret : Option FieldType) (ws : List Jvm.Cond) (rm : Room) (as' : Array Value) (h0 : Heap) (Q : Option Value → Heap → List Loc → Prop) (kc ks : Nat) : Prop :=
  MetFree l y (head1 (Jvm.Cond.code y bytes maxL ret :: ws) rm) (fun a U => a = as' ∧ Z.Warmed39 U.vm ∧ U.heap = h0) (fun _ _ _ _ _ => True) (fun _ U o U' => ∃ v L, o = .returned v ∧ Q v U'.heap L ∧ ReturnedEndW U o U' L kc ks)
theorem metW_of {y : MethodName} {bytes : ByteArray} {maxL : Nat} {ret : Option FieldType} {ws : List Jvm.Cond} {rm : Room} {as' : Array Value} {h0 : Heap} {Q : Option Value → Heap → List Loc → Prop} {kc ks : Nat} {f0 : MethodId → JFrame} (hpn : plainFor y = true)
    (hef : ∀ m, entryFrame m as' maxL = f0 m)
    (body : ∀ (p : Program) (e : Env) (s : State) (m : MethodId) (below : List Frame) (meth : Method) (c : Code) (s₁ : State), Stand p l e rm s m as' below meth c s₁ [] 0 0 → p.tables.exec = Jvm.exec → c.code = bytes → c.maxLocals = maxL → meth.sig.returnType = ret → meth.locks = false → s.vm.findClass y.cls = some m.cls → meth.name = y.name → Z.Warmed39 s.vm → s₁.heap = h0 → Run p e below Q (fun o t L => ReturnedEndW s o t L kc ks) s₁ (f0 m)) :
    MetW l Z y bytes maxL ret ws rm as' h0 Q kc ks := by
  refine MetFree.of_bodySF (code := bytes) (maxLocals := maxL) (ret := ret) hpn hisR ?_
  intro p e s m args below meth c s₁ Bd hml0 hP hK
  obtain ⟨rfl, hZ, hh⟩ := hP
  obtain ⟨s₂, o, r⟩ := body p e s m below meth c s₁ (Stand.of_body Bd) Bd.exec Bd.bytes hml0 Bd.returns (BodyLoose.notSynchronized Bd) (findClass_of_methodNamed Bd.named) (name_of_methodNamed Bd.named Bd.method).1 hZ (by rw [← hh, Bd.state]; rfl)
  rw [hef m]
  exact ⟨s₂, o, r⟩
end Core
section Arrays
variable {p : Program} {l : Launch} {e : Env} {R : Room} {s : State} {m : MethodId} {args : Array Value} {below : List Frame} {meth : Method} {c : Code} {T T' : State} {locs : List Loc} {cells slots : Nat} {Q : Option Value → Heap → List Loc → Prop} {En : Outcome → State → List Loc → Prop} {kc ks : Nat} {Z : State} {a0 : Array Value} {h h' : Heap} {Ls : Array Slot} {st rest : List Value} {pc pc' : Nat} {a b : Addr} {ty : FieldType} {n : Nat} {f g : Nat → Value} {F : Nat → Int32} {sl : Nat} {v : Value} {j : Int32}
/-- an array of n places and what lies in each -/
def Ary (Z : State) (h : Heap) (a : Addr) (ty : FieldType) (n : Nat) (f : Nat → Value) : Prop := ∃ c : Cell, Arr Z h a c ty ∧ c.slots.size = n ∧ ∀ i, i < n → c.slots[i]? = some (f i)
theorem Ary.lt (A : Ary Z h a ty n f) : a < h.size := by obtain ⟨c, A, -⟩ := A; exact A.lt
theorem Ary.ext (A : Ary Z h a ty n f) (E : Ext h h') : Ary Z h' a ty n f := by obtain ⟨c, A, r⟩ := A; exact ⟨c, A.ext E, r⟩
theorem Ary.other (A : Ary Z h b ty n f) (W : Wr h h' a sl v) (q : b ≠ a) : Ary Z h' b ty n f := by obtain ⟨c, A, r⟩ := A; exact ⟨c, A.other W q, r⟩
theorem Ary.keep {ws : List Addr} (A : Ary Z h a ty n f) (K : Keep h h' ws) (q : a ∉ ws) : Ary Z h' a ty n f := by obtain ⟨c, A, r⟩ := A; exact ⟨c, ⟨K.2.1 a c A.1 q, A.2⟩, r⟩
theorem Ary.congr (A : Ary Z h a ty n f) (q : ∀ i, i < n → f i = g i) : Ary Z h a ty n g := by obtain ⟨c, A, r1, r2⟩ := A; exact ⟨c, A, r1, fun i hi => by rw [r2 i hi, q i hi]⟩
theorem Ary.set (A : Ary Z h a ty n f) (W : Wr h h' a j.toNatClampNeg v) : Ary Z h' a ty n (fun i => if i = j.toInt.toNat then v else f i) := by
  obtain ⟨c, A, r1, r2⟩ := A
  refine ⟨_, A.same W, by rw [sz_set]; exact r1, fun i hi => ?_⟩
  show (c.slots.setIfInBounds j.toNatClampNeg v)[i]? = _
  have ej : j.toNatClampNeg = j.toInt.toNat := rfl
  by_cases q : i = j.toInt.toNat
  · simp only [q, if_true]; rw [← ej]; rw [ej, ← q]; simp [Array.getElem?_setIfInBounds, r1, hi]
  · simp only [q, if_false]; rw [Array.getElem?_setIfInBounds_ne (by rw [ej]; exact fun y => q y.symm)]; exact r2 i hi
theorem Ary.setI {x : Int32} (A : Ary Z h a ty n (fun i => .int (F i))) (W : Wr h h' a j.toNatClampNeg (.int x)) : Ary Z h' a ty n (fun i => .int (if i = j.toInt.toNat then x else F i)) :=
  (A.set W).congr fun i _ => by
    by_cases q : i = j.toInt.toNat
    · simp only [if_pos q]
    · simp only [if_neg q]
theorem Ary.setJ {x : Int64} {F : Nat → Int64} (A : Ary Z h a ty n (fun i => .long (F i))) (W : Wr h h' a j.toNatClampNeg (.long x)) : Ary Z h' a ty n (fun i => .long (if i = j.toInt.toNat then x else F i)) :=
  (A.set W).congr fun i _ => by
    by_cases q : i = j.toInt.toNat
    · simp only [if_pos q]
    · simp only [if_neg q]
theorem Ary.new {cA : ClassId} {z : Int32} (A : Arr Z h a (newA cA ty z) ty) (hz : z.toInt.toNat = n) : Ary Z h a ty n (fun _ => defaultValue ty) := by
  have ej : z.toNatClampNeg = z.toInt.toNat := rfl
  refine ⟨_, A, by rw [sz_new]; exact hz, fun i hi => ?_⟩
  show (Array.replicate z.toNatClampNeg (defaultValue ty))[i]? = _
  rw [ej, hz]; simp [hi]
theorem own_inb {cl : Cell} (h1 : cl.slots.size = n) (h0 : 0 ≤ j.toInt) (h2 : j.toInt < n) : ¬ (j < 0 ∨ cl.slots.size ≤ j.toNatClampNeg) := by
  rw [Int32.lt_iff_toInt_lt, show (0 : Int32).toInt = 0 from rfl]
  have ej : j.toNatClampNeg = j.toInt.toNat := rfl
  omega
theorem own_at {cl : Cell} (h3 : ∀ i, i < n → cl.slots[i]? = some (f i)) (h0 : 0 ≤ j.toInt) (h2 : j.toInt < n) (hv : f j.toInt.toNat = v) : cl.slots[j.toNatClampNeg]? = some v := by
  rw [← hv]; exact h3 _ (show j.toInt.toNat < n by omega)
theorem r_len (X : Stand p l e R s m args below meth c T locs cells slots) (hx : p.tables.exec = Jvm.exec) (hZ : Z.Warmed39 s.vm) (eT : T.heap = h) {z : Int32} (A : Ary Z h a ty n f) (hn : z.toInt = n) (hd : decode c.code pc = .ok (.arraylength, 1)) (hp : pc + 1 = pc') (r : Run p e below Q En T (mkF m pc' Ls (.int z :: rest))) : Run p e below Q En T (mkF m pc Ls (.ref a :: rest)) := by
  obtain ⟨cl, A, r1, -⟩ := A
  refine r_arraylength X hx hZ eT A ?_ hd hp r
  rw [r1]
  have q : z.toInt.toNat = n := by omega
  rw [← q]
  exact (back32 (n := z) (by rw [Int32.lt_iff_toInt_lt, show (0 : Int32).toInt = 0 from rfl]; omega)).1
theorem q_iaload (X : Stand p l e R s m args below meth c T locs cells slots) (hx : p.tables.exec = Jvm.exec) (hZ : Z.Warmed39 s.vm) (eT : T.heap = h) {v : Int32} (A : Ary Z h a .int n f) (h0 : 0 ≤ j.toInt) (h1 : j.toInt < n) (hv : f j.toInt.toNat = .int v) (hd : decode c.code pc = .ok (.iaload, 1)) (hp : pc + 1 = pc') (r : Run p e below Q En T (mkF m pc' Ls (.int v :: rest))) : Run p e below Q En T (mkF m pc Ls (.int j :: .ref a :: rest)) := by
  obtain ⟨cl, A, r1, r2⟩ := A
  exact r_iaload X hx hZ eT A (own_inb r1 h0 h1) (own_at r2 h0 h1 hv) hd hp r
theorem q_caload (X : Stand p l e R s m args below meth c T locs cells slots) (hx : p.tables.exec = Jvm.exec) (hZ : Z.Warmed39 s.vm) (eT : T.heap = h) {v : Int32} (A : Ary Z h a .char n f) (h0 : 0 ≤ j.toInt) (h1 : j.toInt < n) (hv : f j.toInt.toNat = .int v) (hd : decode c.code pc = .ok (.caload, 1)) (hp : pc + 1 = pc') (r : Run p e below Q En T (mkF m pc' Ls (.int v :: rest))) : Run p e below Q En T (mkF m pc Ls (.int j :: .ref a :: rest)) := by
  obtain ⟨cl, A, r1, r2⟩ := A
  exact r_caload X hx hZ eT A (own_inb r1 h0 h1) (own_at r2 h0 h1 hv) hd hp r
theorem q_saload (X : Stand p l e R s m args below meth c T locs cells slots) (hx : p.tables.exec = Jvm.exec) (hZ : Z.Warmed39 s.vm) (eT : T.heap = h) {v : Int32} (A : Ary Z h a .short n f) (h0 : 0 ≤ j.toInt) (h1 : j.toInt < n) (hv : f j.toInt.toNat = .int v) (hd : decode c.code pc = .ok (.saload, 1)) (hp : pc + 1 = pc') (r : Run p e below Q En T (mkF m pc' Ls (.int v :: rest))) : Run p e below Q En T (mkF m pc Ls (.int j :: .ref a :: rest)) := by
  obtain ⟨cl, A, r1, r2⟩ := A
  exact r_saload X hx hZ eT A (own_inb r1 h0 h1) (own_at r2 h0 h1 hv) hd hp r
theorem q_baload (X : Stand p l e R s m args below meth c T locs cells slots) (hx : p.tables.exec = Jvm.exec) (hZ : Z.Warmed39 s.vm) (eT : T.heap = h) {v : Int32} (A : Ary Z h a .byte n f) (h0 : 0 ≤ j.toInt) (h1 : j.toInt < n) (hv : f j.toInt.toNat = .int v) (hd : decode c.code pc = .ok (.baload, 1)) (hp : pc + 1 = pc') (r : Run p e below Q En T (mkF m pc' Ls (.int v :: rest))) : Run p e below Q En T (mkF m pc Ls (.int j :: .ref a :: rest)) := by
  obtain ⟨cl, A, r1, r2⟩ := A
  exact r_baload X hx hZ eT A (own_inb r1 h0 h1) (own_at r2 h0 h1 hv) hd hp r
theorem q_baloadZ (X : Stand p l e R s m args below meth c T locs cells slots) (hx : p.tables.exec = Jvm.exec) (hZ : Z.Warmed39 s.vm) (eT : T.heap = h) {v : Int32} (A : Ary Z h a .boolean n f) (h0 : 0 ≤ j.toInt) (h1 : j.toInt < n) (hv : f j.toInt.toNat = .int v) (hd : decode c.code pc = .ok (.baload, 1)) (hp : pc + 1 = pc') (r : Run p e below Q En T (mkF m pc' Ls (.int v :: rest))) : Run p e below Q En T (mkF m pc Ls (.int j :: .ref a :: rest)) := by
  obtain ⟨cl, A, r1, r2⟩ := A
  exact r_baloadZ X hx hZ eT A (own_inb r1 h0 h1) (own_at r2 h0 h1 hv) hd hp r
theorem q_laload (X : Stand p l e R s m args below meth c T locs cells slots) (hx : p.tables.exec = Jvm.exec) (hZ : Z.Warmed39 s.vm) (eT : T.heap = h) {v : Int64} (A : Ary Z h a .long n f) (h0 : 0 ≤ j.toInt) (h1 : j.toInt < n) (hv : f j.toInt.toNat = .long v) (hd : decode c.code pc = .ok (.laload, 1)) (hp : pc + 1 = pc') (r : Run p e below Q En T (mkF m pc' Ls (.long v :: rest))) : Run p e below Q En T (mkF m pc Ls (.int j :: .ref a :: rest)) := by
  obtain ⟨cl, A, r1, r2⟩ := A
  exact r_laload X hx hZ eT A (own_inb r1 h0 h1) (own_at r2 h0 h1 hv) hd hp r
theorem q_iastore (X : Stand p l e R s m args below meth c T locs cells slots) (hx : p.tables.exec = Jvm.exec) (hZ : Z.Warmed39 s.vm) (eT : T.heap = h) {x : Int32} {F : Nat → Int32} (A : Ary Z h a .int n (fun i => .int (F i))) (h0 : 0 ≤ j.toInt) (h1 : j.toInt < n) (hd : decode c.code pc = .ok (.iastore, 1)) (hp : pc + 1 = pc')
    (r : ∀ (T' : State) (h' : Heap), Stand p l e R s m args below meth c T' (locs ++ [⟨a, j.toNatClampNeg⟩]) cells slots → T'.heap = h' → Wr h h' a j.toNatClampNeg (.int x) → Ary Z h' a .int n (fun i => .int (if i = j.toInt.toNat then x else F i)) → Run p e below Q En T' (mkF m pc' Ls rest)) : Run p e below Q En T (mkF m pc Ls (.int x :: .int j :: .ref a :: rest)) := by
  have A' := A
  obtain ⟨cl, A, r1, r2⟩ := A
  exact r_iastore X hx hZ eT A (own_inb r1 h0 h1) hd hp fun T' h' X' e' W' => r T' h' X' e' W' (A'.setI W')
theorem q_lastore (X : Stand p l e R s m args below meth c T locs cells slots) (hx : p.tables.exec = Jvm.exec) (hZ : Z.Warmed39 s.vm) (eT : T.heap = h) {x : Int64} {F : Nat → Int64} (A : Ary Z h a .long n (fun i => .long (F i))) (h0 : 0 ≤ j.toInt) (h1 : j.toInt < n) (hd : decode c.code pc = .ok (.lastore, 1)) (hp : pc + 1 = pc')
    (r : ∀ (T' : State) (h' : Heap), Stand p l e R s m args below meth c T' (locs ++ [⟨a, j.toNatClampNeg⟩]) cells slots → T'.heap = h' → Wr h h' a j.toNatClampNeg (.long x) → Ary Z h' a .long n (fun i => .long (if i = j.toInt.toNat then x else F i)) → Run p e below Q En T' (mkF m pc' Ls rest)) : Run p e below Q En T (mkF m pc Ls (.long x :: .int j :: .ref a :: rest)) := by
  have A' := A
  obtain ⟨cl, A, r1, r2⟩ := A
  exact r_lastore X hx hZ eT A (own_inb r1 h0 h1) hd hp fun T' h' X' e' W' => r T' h' X' e' W' (A'.setJ W')
theorem q_castore (X : Stand p l e R s m args below meth c T locs cells slots) (hx : p.tables.exec = Jvm.exec) (hZ : Z.Warmed39 s.vm) (eT : T.heap = h) {x w : Int32} (A : Ary Z h a .char n (fun i => .int (F i))) (h0 : 0 ≤ j.toInt) (h1 : j.toInt < n) (hn : nar .char x = w) (hd : decode c.code pc = .ok (.castore, 1)) (hp : pc + 1 = pc')
    (r : ∀ (T' : State) (h' : Heap), Stand p l e R s m args below meth c T' (locs ++ [⟨a, j.toNatClampNeg⟩]) cells slots → T'.heap = h' → Wr h h' a j.toNatClampNeg (.int w) → Ary Z h' a .char n (fun i => .int (if i = j.toInt.toNat then w else F i)) → Run p e below Q En T' (mkF m pc' Ls rest)) : Run p e below Q En T (mkF m pc Ls (.int x :: .int j :: .ref a :: rest)) := by
  subst hn
  have A' := A
  obtain ⟨cl, A, r1, r2⟩ := A
  exact r_castore X hx hZ eT A (own_inb r1 h0 h1) hd hp fun T' h' X' e' W' => r T' h' X' e' W' (A'.setI W')
theorem q_sastore (X : Stand p l e R s m args below meth c T locs cells slots) (hx : p.tables.exec = Jvm.exec) (hZ : Z.Warmed39 s.vm) (eT : T.heap = h) {x w : Int32} (A : Ary Z h a .short n (fun i => .int (F i))) (h0 : 0 ≤ j.toInt) (h1 : j.toInt < n) (hn : nar .short x = w) (hd : decode c.code pc = .ok (.sastore, 1)) (hp : pc + 1 = pc')
    (r : ∀ (T' : State) (h' : Heap), Stand p l e R s m args below meth c T' (locs ++ [⟨a, j.toNatClampNeg⟩]) cells slots → T'.heap = h' → Wr h h' a j.toNatClampNeg (.int w) → Ary Z h' a .short n (fun i => .int (if i = j.toInt.toNat then w else F i)) → Run p e below Q En T' (mkF m pc' Ls rest)) : Run p e below Q En T (mkF m pc Ls (.int x :: .int j :: .ref a :: rest)) := by
  subst hn
  have A' := A
  obtain ⟨cl, A, r1, r2⟩ := A
  exact r_sastore X hx hZ eT A (own_inb r1 h0 h1) hd hp fun T' h' X' e' W' => r T' h' X' e' W' (A'.setI W')
theorem q_bastoreB (X : Stand p l e R s m args below meth c T locs cells slots) (hx : p.tables.exec = Jvm.exec) (hZ : Z.Warmed39 s.vm) (eT : T.heap = h) {x w : Int32} (A : Ary Z h a .byte n (fun i => .int (F i))) (h0 : 0 ≤ j.toInt) (h1 : j.toInt < n) (hn : nar .byte x = w) (hd : decode c.code pc = .ok (.bastore, 1)) (hp : pc + 1 = pc')
    (r : ∀ (T' : State) (h' : Heap), Stand p l e R s m args below meth c T' (locs ++ [⟨a, j.toNatClampNeg⟩]) cells slots → T'.heap = h' → Wr h h' a j.toNatClampNeg (.int w) → Ary Z h' a .byte n (fun i => .int (if i = j.toInt.toNat then w else F i)) → Run p e below Q En T' (mkF m pc' Ls rest)) : Run p e below Q En T (mkF m pc Ls (.int x :: .int j :: .ref a :: rest)) := by
  subst hn
  have A' := A
  obtain ⟨cl, A, r1, r2⟩ := A
  exact r_bastoreB X hx hZ eT A (own_inb r1 h0 h1) hd hp fun T' h' X' e' W' => r T' h' X' e' W' (A'.setI W')
theorem q_bastoreZ (X : Stand p l e R s m args below meth c T locs cells slots) (hx : p.tables.exec = Jvm.exec) (hZ : Z.Warmed39 s.vm) (eT : T.heap = h) {x w : Int32} (A : Ary Z h a .boolean n (fun i => .int (F i))) (h0 : 0 ≤ j.toInt) (h1 : j.toInt < n) (hn : nar .boolean x = w) (hd : decode c.code pc = .ok (.bastore, 1)) (hp : pc + 1 = pc')
    (r : ∀ (T' : State) (h' : Heap), Stand p l e R s m args below meth c T' (locs ++ [⟨a, j.toNatClampNeg⟩]) cells slots → T'.heap = h' → Wr h h' a j.toNatClampNeg (.int w) → Ary Z h' a .boolean n (fun i => .int (if i = j.toInt.toNat then w else F i)) → Run p e below Q En T' (mkF m pc' Ls rest)) : Run p e below Q En T (mkF m pc Ls (.int x :: .int j :: .ref a :: rest)) := by
  subst hn
  have A' := A
  obtain ⟨cl, A, r1, r2⟩ := A
  exact r_bastoreZ X hx hZ eT A (own_inb r1 h0 h1) hd hp fun T' h' X' e' W' => r T' h' X' e' W' (A'.setI W')
end Arrays
section Facts2
variable {Z : State} {h h' h0 : Heap} {ws : List Addr} {C n d : String} {v : Value} {a b : Addr}
theorem own_staKeep (F : Sta Z h C n d v) (K : Keep h h' ws) (q : ∀ x ∈ ws, ∃ c : Cell, h[x]? = some c ∧ c.vm.isStatics = false) : Sta Z h' C n d v := by
  obtain ⟨cf, i, k, f, st, cell, h1, h2, h3, h4, h5, h6, h7⟩ := F
  refine ⟨cf, i, k, f, st, cell, h1, h2, h3, h4, K.2.1 st cell h5 fun m => ?_, h6, h7⟩
  obtain ⟨c, e1, e2⟩ := q _ m
  cases h5.symm.trans e1
  rw [e2] at h6; cases h6
theorem own_exaS (E : Exa Z h a C) : ∃ c : Cell, h[a]? = some c ∧ c.vm.isStatics = false := by
  obtain ⟨c, _, h1, -, -, h4, -⟩ := E; exact ⟨c, h1, h4⟩
theorem own_arrS {c : Cell} {ty : FieldType} (A : Arr Z h a c ty) : ∃ c : Cell, h[a]? = some c ∧ c.vm.isStatics = false := ⟨c, A.1, A.plain⟩
theorem own_aryS {ty : FieldType} {m : Nat} {f : Nat → Value} (A : Ary Z h a ty m f) : ∃ c : Cell, h[a]? = some c ∧ c.vm.isStatics = false := by
  obtain ⟨c, A, -⟩ := A; exact own_arrS A
theorem own_staExt (F : Sta Z h C n d v) (E : Ext h h') : Sta Z h' C n d v := Sta.ext E F
theorem own_kext {E : Ext h h'} : Keep h h' [] := ⟨E.1, fun x c q _ => E.2 x c q, fun x c q => ⟨c, E.2 x c q, rfl, rfl, rfl⟩⟩
end Facts2
def own_p (k : Nat) : Int64 := match k with | 0 => 1 | 1 => 10 | 2 => 100 | 3 => 1000 | 4 => 10000 | 5 => 100000 | 6 => 1000000 | 7 => 10000000 | 8 => 100000000 | 9 => 1000000000 | 10 => 10000000000 | 11 => 100000000000 | 12 => 1000000000000 | 13 => 10000000000000 | 14 => 100000000000000 | 15 => 1000000000000000 | 16 => 10000000000000000 | 17 => 100000000000000000 | 18 => 1000000000000000000 | _ => 1
theorem own_lt19 {P : Nat → Prop} (h0 : P 0) (h1 : P 1) (h2 : P 2) (h3 : P 3) (h4 : P 4) (h5 : P 5) (h6 : P 6) (h7 : P 7) (h8 : P 8) (h9 : P 9) (h10 : P 10) (h11 : P 11) (h12 : P 12) (h13 : P 13) (h14 : P 14) (h15 : P 15) (h16 : P 16) (h17 : P 17) (h18 : P 18) : ∀ i, i < 19 → P i := fun i hi => match i, hi with | 0, _ => h0 | 1, _ => h1 | 2, _ => h2 | 3, _ => h3 | 4, _ => h4 | 5, _ => h5 | 6, _ => h6 | 7, _ => h7 | 8, _ => h8 | 9, _ => h9 | 10, _ => h10 | 11, _ => h11 | 12, _ => h12 | 13, _ => h13 | 14, _ => h14 | 15, _ => h15 | 16, _ => h16 | 17, _ => h17 | 18, _ => h18 | (n + 19), h => absurd h (by omega)
theorem own_pr : ∀ i, i < 19 → 1 ≤ (own_p i).toInt ∧ (own_p i).toInt ≤ 1000000000000000000 ∧ ((own_p i).toInt = 1 ∨ (own_p i).toInt % 10 = 0) := by
  refine own_lt19 ?_ ?_ ?_ ?_ ?_ ?_ ?_ ?_ ?_ ?_ ?_ ?_ ?_ ?_ ?_ ?_ ?_ ?_ ?_ <;> decide
theorem own_pnz (i : Nat) (h : i < 19) : own_p i ≠ 0 := fun q => by have := (own_pr i h).1; rw [q] at this; revert this; decide
theorem own_rg (x : Int64) : -9223372036854775808 ≤ x.toInt ∧ x.toInt ≤ 9223372036854775807 := by
  have h1 := Int64.minValue_le_toInt x
  have h2 := Int64.toInt_le x
  have e1 : Int64.minValue.toInt = -9223372036854775808 := by decide
  have e2 : Int64.maxValue.toInt = 9223372036854775807 := by decide
  omega
theorem own_ri (x : Int32) : -2147483648 ≤ x.toInt ∧ x.toInt ≤ 2147483647 := by
  have h1 := Int32.minValue_le_toInt x
  have h2 := Int32.toInt_le x
  have e1 : Int32.minValue.toInt = -2147483648 := by decide
  have e2 : Int32.maxValue.toInt = 2147483647 := by decide
  omega
theorem own_max : (9223372036854775807 : Int64).toInt = 9223372036854775807 := by decide
theorem own_mdiv (p : Int64) (h : 1 ≤ p.toInt) : ((9223372036854775807 : Int64) / p).toInt = 9223372036854775807 / p.toInt :=
  (c_ldiv 9223372036854775807 p p.toInt rfl (fun q => by rw [q] at h; revert h; decide)).1 (by decide)
theorem own_mneg (p : Int64) (h : 1 ≤ p.toInt) : (-((9223372036854775807 : Int64) / p)).toInt = -(9223372036854775807 / p.toInt) := by
  have e := own_mdiv p h
  have r1 : 0 ≤ 9223372036854775807 / p.toInt := Int.ediv_nonneg (by decide) (by omega)
  have := c_lneg ((9223372036854775807 : Int64) / p)
  have := own_rg (-((9223372036854775807 : Int64) / p))
  have := own_rg ((9223372036854775807 : Int64) / p)
  omega
def own_fit (f : Int32) (u : Int64) (sc : Int32) : Int32 := if f.toInt < 0 ∨ sc.toInt < f.toInt ∨ 19 ≤ sc.toInt - f.toInt then 0 else if u.toInt < -(9223372036854775807 / (own_p (sc.toInt - f.toInt).toNat).toInt) ∨ 9223372036854775807 / (own_p (sc.toInt - f.toInt).toNat).toInt < u.toInt then 0 else 1
theorem own_sub32 {x y : Int32} (h1 : -2147483648 ≤ x.toInt - y.toInt) (h2 : x.toInt - y.toInt ≤ 2147483647) : (x - y).toInt = x.toInt - y.toInt := by
  have := c_isub x y; have := own_ri (x - y); omega
theorem own_sub64 {x y : Int64} (h1 : -9223372036854775808 ≤ x.toInt - y.toInt) (h2 : x.toInt - y.toInt ≤ 9223372036854775807) : (x - y).toInt = x.toInt - y.toInt := by
  have := c_lsub x y; have := own_rg (x - y); omega
theorem own_fb (f : Int32) (h1 : -128 ≤ f.toInt) (h2 : f.toInt ≤ 127) : f.toInt8.toInt32 = f := Int32.toInt_inj.mp (by have := c_i2b f; omega)
theorem own_law (v pd : Int64) (h1 : 1 ≤ pd.toInt) (h2 : pd.toInt ≤ 1000000000000000000) (h3 : pd.toInt = 1 ∨ pd.toInt % 10 = 0) : (v.toInt < -(9223372036854775807 / pd.toInt) ∨ 9223372036854775807 / pd.toInt < v.toInt) ↔ (v = -9223372036854775808 ∨ ¬ (v * pd) / pd = v) := by
  have ne1 : pd ≠ -1 := fun q => by rw [q] at h1; revert h1; decide
  have a1 : v.toInt ≤ 9223372036854775807 / pd.toInt ↔ v.toInt * pd.toInt ≤ 9223372036854775807 := Int.le_ediv_iff_mul_le (by omega)
  have a2 : -v.toInt ≤ 9223372036854775807 / pd.toInt ↔ -v.toInt * pd.toInt ≤ 9223372036854775807 := Int.le_ediv_iff_mul_le (by omega)
  rw [Int.neg_mul] at a2
  have rv := own_rg v
  have rm := own_rg (v * pd)
  have cm := c_lmul v pd
  have emin : v = -9223372036854775808 ↔ v.toInt = -9223372036854775808 := by rw [← Int64.toInt_inj]; rfl
  have dv : ((v * pd) / pd).toInt = (v * pd).toInt.tdiv pd.toInt := Int64.toInt_div_of_ne_right _ _ ne1
  have deq : (v * pd) / pd = v ↔ (v * pd).toInt.tdiv pd.toInt = v.toInt := by rw [← Int64.toInt_inj, dv]
  have td := Int.mul_tdiv_add_tmod (v * pd).toInt pd.toInt
  have tm1 := Int.tmod_lt_of_pos (v * pd).toInt (show 0 < pd.toInt by omega)
  have tm2 := Int.lt_tmod_of_pos (v * pd).toInt (show 0 < pd.toInt by omega)
  have hN : v.toInt * pd.toInt = -9223372036854775808 → v.toInt = -9223372036854775808 := by
    intro q
    rcases h3 with e | e
    · rw [e] at q; omega
    · obtain ⟨c, hc⟩ : ∃ c, pd.toInt = 10 * c := ⟨pd.toInt / 10, by omega⟩
      rw [hc, Int.mul_left_comm] at q
      omega
  constructor
  · intro q
    by_cases m : v = -9223372036854775808
    · exact Or.inl m
    · right
      intro z
      have z' := deq.mp z
      rw [z'] at td
      rw [Int.mul_comm] at td
      have m' : ¬ v.toInt = -9223372036854775808 := fun y => m (emin.mpr y)
      generalize v.toInt * pd.toInt = N at *
      rcases q with q | q
      · have b : ¬ (-v.toInt ≤ 9223372036854775807 / pd.toInt) := by omega
        rw [a2] at b; omega
      · have b : ¬ (v.toInt ≤ 9223372036854775807 / pd.toInt) := by omega
        rw [a1] at b; omega
  · intro q
    by_cases b1 : v.toInt ≤ 9223372036854775807 / pd.toInt
    · by_cases b2 : -v.toInt ≤ 9223372036854775807 / pd.toInt
      · exfalso
        have c1 := a1.mp b1
        have c2 := a2.mp b2
        have e : (v * pd).toInt = v.toInt * pd.toInt := by omega
        rcases q with q | q
        · have q' := emin.mp q
          have c3 : 9223372036854775807 / pd.toInt ≤ 9223372036854775807 := Int.ediv_le_self _ (by decide)
          omega
        · exact q (deq.mpr (by rw [e]; exact Int.mul_tdiv_cancel _ (by omega)))
      · left; omega
    · right; omega
theorem d1_0 : decode method_2_code 0 = .ok (.bipush 19, 2) := by decide +kernel
theorem d1_2 : decode method_2_code 2 = .ok (.newarray .long, 2) := by decide +kernel
theorem d1_4 : decode method_2_code 4 = .ok (.dup, 1) := by decide +kernel
theorem d1_5 : decode method_2_code 5 = .ok (.iconst 0, 1) := by decide +kernel
theorem d1_6 : decode method_2_code 6 = .ok (.lconst 1, 1) := by decide +kernel
theorem d1_7 : decode method_2_code 7 = .ok (.lastore, 1) := by decide +kernel
theorem d1_8 : decode method_2_code 8 = .ok (.dup, 1) := by decide +kernel
theorem d1_9 : decode method_2_code 9 = .ok (.iconst 1, 1) := by decide +kernel
theorem d1_10 : decode method_2_code 10 = .ok (.ldc2_w 7, 3) := by decide +kernel
theorem d1_13 : decode method_2_code 13 = .ok (.lastore, 1) := by decide +kernel
theorem d1_14 : decode method_2_code 14 = .ok (.dup, 1) := by decide +kernel
theorem d1_15 : decode method_2_code 15 = .ok (.iconst 2, 1) := by decide +kernel
theorem d1_16 : decode method_2_code 16 = .ok (.ldc2_w 9, 3) := by decide +kernel
theorem d1_19 : decode method_2_code 19 = .ok (.lastore, 1) := by decide +kernel
theorem d1_20 : decode method_2_code 20 = .ok (.dup, 1) := by decide +kernel
theorem d1_21 : decode method_2_code 21 = .ok (.iconst 3, 1) := by decide +kernel
theorem d1_22 : decode method_2_code 22 = .ok (.ldc2_w 11, 3) := by decide +kernel
theorem d1_25 : decode method_2_code 25 = .ok (.lastore, 1) := by decide +kernel
theorem d1_26 : decode method_2_code 26 = .ok (.dup, 1) := by decide +kernel
theorem d1_27 : decode method_2_code 27 = .ok (.iconst 4, 1) := by decide +kernel
theorem d1_28 : decode method_2_code 28 = .ok (.ldc2_w 13, 3) := by decide +kernel
theorem d1_31 : decode method_2_code 31 = .ok (.lastore, 1) := by decide +kernel
theorem d1_32 : decode method_2_code 32 = .ok (.dup, 1) := by decide +kernel
theorem d1_33 : decode method_2_code 33 = .ok (.iconst 5, 1) := by decide +kernel
theorem d1_34 : decode method_2_code 34 = .ok (.ldc2_w 15, 3) := by decide +kernel
theorem d1_37 : decode method_2_code 37 = .ok (.lastore, 1) := by decide +kernel
theorem d1_38 : decode method_2_code 38 = .ok (.dup, 1) := by decide +kernel
theorem d1_39 : decode method_2_code 39 = .ok (.bipush 6, 2) := by decide +kernel
theorem d1_41 : decode method_2_code 41 = .ok (.ldc2_w 17, 3) := by decide +kernel
theorem d1_44 : decode method_2_code 44 = .ok (.lastore, 1) := by decide +kernel
theorem d1_45 : decode method_2_code 45 = .ok (.dup, 1) := by decide +kernel
theorem d1_46 : decode method_2_code 46 = .ok (.bipush 7, 2) := by decide +kernel
theorem d1_48 : decode method_2_code 48 = .ok (.ldc2_w 19, 3) := by decide +kernel
theorem d1_51 : decode method_2_code 51 = .ok (.lastore, 1) := by decide +kernel
theorem d1_52 : decode method_2_code 52 = .ok (.dup, 1) := by decide +kernel
theorem d1_53 : decode method_2_code 53 = .ok (.bipush 8, 2) := by decide +kernel
theorem d1_55 : decode method_2_code 55 = .ok (.ldc2_w 21, 3) := by decide +kernel
theorem d1_58 : decode method_2_code 58 = .ok (.lastore, 1) := by decide +kernel
theorem d1_59 : decode method_2_code 59 = .ok (.dup, 1) := by decide +kernel
theorem d1_60 : decode method_2_code 60 = .ok (.bipush 9, 2) := by decide +kernel
theorem d1_62 : decode method_2_code 62 = .ok (.ldc2_w 23, 3) := by decide +kernel
theorem d1_65 : decode method_2_code 65 = .ok (.lastore, 1) := by decide +kernel
theorem d1_66 : decode method_2_code 66 = .ok (.dup, 1) := by decide +kernel
theorem d1_67 : decode method_2_code 67 = .ok (.bipush 10, 2) := by decide +kernel
theorem d1_69 : decode method_2_code 69 = .ok (.ldc2_w 25, 3) := by decide +kernel
theorem d1_72 : decode method_2_code 72 = .ok (.lastore, 1) := by decide +kernel
theorem d1_73 : decode method_2_code 73 = .ok (.dup, 1) := by decide +kernel
theorem d1_74 : decode method_2_code 74 = .ok (.bipush 11, 2) := by decide +kernel
theorem d1_76 : decode method_2_code 76 = .ok (.ldc2_w 27, 3) := by decide +kernel
theorem d1_79 : decode method_2_code 79 = .ok (.lastore, 1) := by decide +kernel
theorem d1_80 : decode method_2_code 80 = .ok (.dup, 1) := by decide +kernel
theorem d1_81 : decode method_2_code 81 = .ok (.bipush 12, 2) := by decide +kernel
theorem d1_83 : decode method_2_code 83 = .ok (.ldc2_w 29, 3) := by decide +kernel
theorem d1_86 : decode method_2_code 86 = .ok (.lastore, 1) := by decide +kernel
theorem d1_87 : decode method_2_code 87 = .ok (.dup, 1) := by decide +kernel
theorem d1_88 : decode method_2_code 88 = .ok (.bipush 13, 2) := by decide +kernel
theorem d1_90 : decode method_2_code 90 = .ok (.ldc2_w 31, 3) := by decide +kernel
theorem d1_93 : decode method_2_code 93 = .ok (.lastore, 1) := by decide +kernel
theorem d1_94 : decode method_2_code 94 = .ok (.dup, 1) := by decide +kernel
theorem d1_95 : decode method_2_code 95 = .ok (.bipush 14, 2) := by decide +kernel
theorem d1_97 : decode method_2_code 97 = .ok (.ldc2_w 33, 3) := by decide +kernel
theorem d1_100 : decode method_2_code 100 = .ok (.lastore, 1) := by decide +kernel
theorem d1_101 : decode method_2_code 101 = .ok (.dup, 1) := by decide +kernel
theorem d1_102 : decode method_2_code 102 = .ok (.bipush 15, 2) := by decide +kernel
theorem d1_104 : decode method_2_code 104 = .ok (.ldc2_w 35, 3) := by decide +kernel
theorem d1_107 : decode method_2_code 107 = .ok (.lastore, 1) := by decide +kernel
theorem d1_108 : decode method_2_code 108 = .ok (.dup, 1) := by decide +kernel
theorem d1_109 : decode method_2_code 109 = .ok (.bipush 16, 2) := by decide +kernel
theorem d1_111 : decode method_2_code 111 = .ok (.ldc2_w 37, 3) := by decide +kernel
theorem d1_114 : decode method_2_code 114 = .ok (.lastore, 1) := by decide +kernel
theorem d1_115 : decode method_2_code 115 = .ok (.dup, 1) := by decide +kernel
theorem d1_116 : decode method_2_code 116 = .ok (.bipush 17, 2) := by decide +kernel
theorem d1_118 : decode method_2_code 118 = .ok (.ldc2_w 39, 3) := by decide +kernel
theorem d1_121 : decode method_2_code 121 = .ok (.lastore, 1) := by decide +kernel
theorem d1_122 : decode method_2_code 122 = .ok (.dup, 1) := by decide +kernel
theorem d1_123 : decode method_2_code 123 = .ok (.bipush 18, 2) := by decide +kernel
theorem d1_125 : decode method_2_code 125 = .ok (.ldc2_w 41, 3) := by decide +kernel
theorem d1_128 : decode method_2_code 128 = .ok (.lastore, 1) := by decide +kernel
theorem d1_129 : decode method_2_code 129 = .ok (.astore_n 1, 1) := by decide +kernel
theorem d1_130 : decode method_2_code 130 = .ok (.aload_n 1, 1) := by decide +kernel
theorem d1_131 : decode method_2_code 131 = .ok (.iload_n 0, 1) := by decide +kernel
theorem d1_132 : decode method_2_code 132 = .ok (.laload, 1) := by decide +kernel
theorem d1_133 : decode method_2_code 133 = .ok (.lreturn, 1) := by decide +kernel
theorem pn_0 : plainName "com/example/floe/floe/model/ExactSumFitsLongAtPinLaw" = true := by first | (simp [plainName, overriddenIn]; done) | decide +kernel
theorem ef_rmPow (m : MethodId) (x0 : Int32) : entryFrame m #[(.int x0)] 2 = mkF m 0 #[.val (.int x0), .unset] [] := by first | (simp [entryFrame, mkF, argsToLocals, Value.category, maxLocals]; done) | rfl
set_option maxRecDepth 65536 in
set_option maxHeartbeats 40000000 in
theorem rmPow (l : Launch) (Z : State) (a0 : Array Value) (hw : ∀ d ∈ tables_1, d.before a0 Z = true) (ws : List Jvm.Cond) (d : Int32) (h0 : Heap) (n0 : Nat) (Z0 : n0 ≤ h0.size) (d0 : 0 ≤ d.toInt) (d1 : d.toInt < 19) :
    Met l Z (⟨"com/example/floe/floe/model/ExactSumFitsLongAtPinLaw", "pow", "(I)J"⟩ : MethodName) method_2_code 2 (some .long) ws ({ frames := 0, cells := 1, slots := 19, locals := 0 } : Room) #[(.int d)] h0 (fun v h L => v = some (.long (own_p d.toInt.toNat)) ∧ Fr n0 L ∧ Keep h0 h []) 1 19 := by
  refine met_of (plainFor_of_name pn_0) (f0 := fun m => (mkF m 0 #[.val (.int d), .unset] [])) (fun m => ef_rmPow m d) ?_
  intro p e s m below meth c s₁ X0 hx hby hml hret hlk hown hnm hZ e0
  replace hown : s.vm.findClass "com/example/floe/floe/model/ExactSumFitsLongAtPinLaw" = some m.cls := hown
  have N0 := Fr.nil n0
  refine r_bipush X0.here hx (hb hby d1_0) (v := 19) rfl (pc' := 2) rfl ?_
  refine r_newarray X0 hx hZ (aty := .long) (hw _ (List.mem_of_getElem? (i := 6) rfl)) e0 (cap := 19) (by decide) (by decide) (by decide) (by decide) (by decide) (hb hby d1_2) (pc' := 4) rfl (fun T1 h1 b1 k1 g1 X1 e1 E1 A1 => ?_)
  have K2 : Keep h0 h0 [] := Keep.refl _ _
  have fr3 : h0.size ≤ b1 := by rw [g1]; exact K2.1
  have ge4 : n0 ≤ b1 := by rw [g1]; exact Z0
  have K5 := K2.ext E1
  have Z6 : n0 ≤ h1.size := by have q := Z0; exact Nat.le_trans q E1.1
  have f7 : Ary Z h1 b1 .long 19 (fun _ => .long 0) := Ary.new A1 rfl
  refine r_dup X1.here hx (hb hby d1_4) rfl (pc' := 5) rfl ?_
  refine r_iconst X1.here hx (hb hby d1_5) (v := 0) rfl (pc' := 6) rfl ?_
  refine r_lconst X1.here hx (hb hby d1_6) (v := 1) rfl (pc' := 7) rfl ?_
  refine q_lastore X1 hx hZ e1 (j := (0 : Int32)) f7 (by decide) (by decide) (hb hby d1_7) (pc' := 8) rfl (fun T8 h8 X8 e8 W8 A8 => ?_)
  have K9 := K5.wr W8 (Or.inr fr3)
  have Z10 : n0 ≤ h8.size := by have q := Z6; rw [W8.size]; exact q
  have N8 := Fr.snoc X8 N0 ge4
  refine r_dup X8.here hx (hb hby d1_8) rfl (pc' := 9) rfl ?_
  refine r_iconst X8.here hx (hb hby d1_9) (v := 1) rfl (pc' := 10) rfl ?_
  refine r_ldc2 X8 hx hZ hown (hw _ (List.mem_of_getElem? (i := 7) rfl)) (hb hby d1_10) (pc' := 13) rfl ?_
  refine q_lastore X8 hx hZ e8 (j := (1 : Int32)) A8 (by decide) (by decide) (hb hby d1_13) (pc' := 14) rfl (fun T11 h11 X11 e11 W11 A11 => ?_)
  have K12 := K9.wr W11 (Or.inr fr3)
  have Z13 : n0 ≤ h11.size := by have q := Z10; rw [W11.size]; exact q
  have N11 := Fr.snoc X11 N8 ge4
  refine r_dup X11.here hx (hb hby d1_14) rfl (pc' := 15) rfl ?_
  refine r_iconst X11.here hx (hb hby d1_15) (v := 2) rfl (pc' := 16) rfl ?_
  refine r_ldc2 X11 hx hZ hown (hw _ (List.mem_of_getElem? (i := 8) rfl)) (hb hby d1_16) (pc' := 19) rfl ?_
  refine q_lastore X11 hx hZ e11 (j := (2 : Int32)) A11 (by decide) (by decide) (hb hby d1_19) (pc' := 20) rfl (fun T14 h14 X14 e14 W14 A14 => ?_)
  have K15 := K12.wr W14 (Or.inr fr3)
  have Z16 : n0 ≤ h14.size := by have q := Z13; rw [W14.size]; exact q
  have N14 := Fr.snoc X14 N11 ge4
  refine r_dup X14.here hx (hb hby d1_20) rfl (pc' := 21) rfl ?_
  refine r_iconst X14.here hx (hb hby d1_21) (v := 3) rfl (pc' := 22) rfl ?_
  refine r_ldc2 X14 hx hZ hown (hw _ (List.mem_of_getElem? (i := 9) rfl)) (hb hby d1_22) (pc' := 25) rfl ?_
  refine q_lastore X14 hx hZ e14 (j := (3 : Int32)) A14 (by decide) (by decide) (hb hby d1_25) (pc' := 26) rfl (fun T17 h17 X17 e17 W17 A17 => ?_)
  have K18 := K15.wr W17 (Or.inr fr3)
  have Z19 : n0 ≤ h17.size := by have q := Z16; rw [W17.size]; exact q
  have N17 := Fr.snoc X17 N14 ge4
  refine r_dup X17.here hx (hb hby d1_26) rfl (pc' := 27) rfl ?_
  refine r_iconst X17.here hx (hb hby d1_27) (v := 4) rfl (pc' := 28) rfl ?_
  refine r_ldc2 X17 hx hZ hown (hw _ (List.mem_of_getElem? (i := 10) rfl)) (hb hby d1_28) (pc' := 31) rfl ?_
  refine q_lastore X17 hx hZ e17 (j := (4 : Int32)) A17 (by decide) (by decide) (hb hby d1_31) (pc' := 32) rfl (fun T20 h20 X20 e20 W20 A20 => ?_)
  have K21 := K18.wr W20 (Or.inr fr3)
  have Z22 : n0 ≤ h20.size := by have q := Z19; rw [W20.size]; exact q
  have N20 := Fr.snoc X20 N17 ge4
  refine r_dup X20.here hx (hb hby d1_32) rfl (pc' := 33) rfl ?_
  refine r_iconst X20.here hx (hb hby d1_33) (v := 5) rfl (pc' := 34) rfl ?_
  refine r_ldc2 X20 hx hZ hown (hw _ (List.mem_of_getElem? (i := 11) rfl)) (hb hby d1_34) (pc' := 37) rfl ?_
  refine q_lastore X20 hx hZ e20 (j := (5 : Int32)) A20 (by decide) (by decide) (hb hby d1_37) (pc' := 38) rfl (fun T23 h23 X23 e23 W23 A23 => ?_)
  have K24 := K21.wr W23 (Or.inr fr3)
  have Z25 : n0 ≤ h23.size := by have q := Z22; rw [W23.size]; exact q
  have N23 := Fr.snoc X23 N20 ge4
  refine r_dup X23.here hx (hb hby d1_38) rfl (pc' := 39) rfl ?_
  refine r_bipush X23.here hx (hb hby d1_39) (v := 6) rfl (pc' := 41) rfl ?_
  refine r_ldc2 X23 hx hZ hown (hw _ (List.mem_of_getElem? (i := 12) rfl)) (hb hby d1_41) (pc' := 44) rfl ?_
  refine q_lastore X23 hx hZ e23 (j := (6 : Int32)) A23 (by decide) (by decide) (hb hby d1_44) (pc' := 45) rfl (fun T26 h26 X26 e26 W26 A26 => ?_)
  have K27 := K24.wr W26 (Or.inr fr3)
  have Z28 : n0 ≤ h26.size := by have q := Z25; rw [W26.size]; exact q
  have N26 := Fr.snoc X26 N23 ge4
  refine r_dup X26.here hx (hb hby d1_45) rfl (pc' := 46) rfl ?_
  refine r_bipush X26.here hx (hb hby d1_46) (v := 7) rfl (pc' := 48) rfl ?_
  refine r_ldc2 X26 hx hZ hown (hw _ (List.mem_of_getElem? (i := 13) rfl)) (hb hby d1_48) (pc' := 51) rfl ?_
  refine q_lastore X26 hx hZ e26 (j := (7 : Int32)) A26 (by decide) (by decide) (hb hby d1_51) (pc' := 52) rfl (fun T29 h29 X29 e29 W29 A29 => ?_)
  have K30 := K27.wr W29 (Or.inr fr3)
  have Z31 : n0 ≤ h29.size := by have q := Z28; rw [W29.size]; exact q
  have N29 := Fr.snoc X29 N26 ge4
  refine r_dup X29.here hx (hb hby d1_52) rfl (pc' := 53) rfl ?_
  refine r_bipush X29.here hx (hb hby d1_53) (v := 8) rfl (pc' := 55) rfl ?_
  refine r_ldc2 X29 hx hZ hown (hw _ (List.mem_of_getElem? (i := 14) rfl)) (hb hby d1_55) (pc' := 58) rfl ?_
  refine q_lastore X29 hx hZ e29 (j := (8 : Int32)) A29 (by decide) (by decide) (hb hby d1_58) (pc' := 59) rfl (fun T32 h32 X32 e32 W32 A32 => ?_)
  have K33 := K30.wr W32 (Or.inr fr3)
  have Z34 : n0 ≤ h32.size := by have q := Z31; rw [W32.size]; exact q
  have N32 := Fr.snoc X32 N29 ge4
  refine r_dup X32.here hx (hb hby d1_59) rfl (pc' := 60) rfl ?_
  refine r_bipush X32.here hx (hb hby d1_60) (v := 9) rfl (pc' := 62) rfl ?_
  refine r_ldc2 X32 hx hZ hown (hw _ (List.mem_of_getElem? (i := 15) rfl)) (hb hby d1_62) (pc' := 65) rfl ?_
  refine q_lastore X32 hx hZ e32 (j := (9 : Int32)) A32 (by decide) (by decide) (hb hby d1_65) (pc' := 66) rfl (fun T35 h35 X35 e35 W35 A35 => ?_)
  have K36 := K33.wr W35 (Or.inr fr3)
  have Z37 : n0 ≤ h35.size := by have q := Z34; rw [W35.size]; exact q
  have N35 := Fr.snoc X35 N32 ge4
  refine r_dup X35.here hx (hb hby d1_66) rfl (pc' := 67) rfl ?_
  refine r_bipush X35.here hx (hb hby d1_67) (v := 10) rfl (pc' := 69) rfl ?_
  refine r_ldc2 X35 hx hZ hown (hw _ (List.mem_of_getElem? (i := 16) rfl)) (hb hby d1_69) (pc' := 72) rfl ?_
  refine q_lastore X35 hx hZ e35 (j := (10 : Int32)) A35 (by decide) (by decide) (hb hby d1_72) (pc' := 73) rfl (fun T38 h38 X38 e38 W38 A38 => ?_)
  have K39 := K36.wr W38 (Or.inr fr3)
  have Z40 : n0 ≤ h38.size := by have q := Z37; rw [W38.size]; exact q
  have N38 := Fr.snoc X38 N35 ge4
  refine r_dup X38.here hx (hb hby d1_73) rfl (pc' := 74) rfl ?_
  refine r_bipush X38.here hx (hb hby d1_74) (v := 11) rfl (pc' := 76) rfl ?_
  refine r_ldc2 X38 hx hZ hown (hw _ (List.mem_of_getElem? (i := 17) rfl)) (hb hby d1_76) (pc' := 79) rfl ?_
  refine q_lastore X38 hx hZ e38 (j := (11 : Int32)) A38 (by decide) (by decide) (hb hby d1_79) (pc' := 80) rfl (fun T41 h41 X41 e41 W41 A41 => ?_)
  have K42 := K39.wr W41 (Or.inr fr3)
  have Z43 : n0 ≤ h41.size := by have q := Z40; rw [W41.size]; exact q
  have N41 := Fr.snoc X41 N38 ge4
  refine r_dup X41.here hx (hb hby d1_80) rfl (pc' := 81) rfl ?_
  refine r_bipush X41.here hx (hb hby d1_81) (v := 12) rfl (pc' := 83) rfl ?_
  refine r_ldc2 X41 hx hZ hown (hw _ (List.mem_of_getElem? (i := 18) rfl)) (hb hby d1_83) (pc' := 86) rfl ?_
  refine q_lastore X41 hx hZ e41 (j := (12 : Int32)) A41 (by decide) (by decide) (hb hby d1_86) (pc' := 87) rfl (fun T44 h44 X44 e44 W44 A44 => ?_)
  have K45 := K42.wr W44 (Or.inr fr3)
  have Z46 : n0 ≤ h44.size := by have q := Z43; rw [W44.size]; exact q
  have N44 := Fr.snoc X44 N41 ge4
  refine r_dup X44.here hx (hb hby d1_87) rfl (pc' := 88) rfl ?_
  refine r_bipush X44.here hx (hb hby d1_88) (v := 13) rfl (pc' := 90) rfl ?_
  refine r_ldc2 X44 hx hZ hown (hw _ (List.mem_of_getElem? (i := 19) rfl)) (hb hby d1_90) (pc' := 93) rfl ?_
  refine q_lastore X44 hx hZ e44 (j := (13 : Int32)) A44 (by decide) (by decide) (hb hby d1_93) (pc' := 94) rfl (fun T47 h47 X47 e47 W47 A47 => ?_)
  have K48 := K45.wr W47 (Or.inr fr3)
  have Z49 : n0 ≤ h47.size := by have q := Z46; rw [W47.size]; exact q
  have N47 := Fr.snoc X47 N44 ge4
  refine r_dup X47.here hx (hb hby d1_94) rfl (pc' := 95) rfl ?_
  refine r_bipush X47.here hx (hb hby d1_95) (v := 14) rfl (pc' := 97) rfl ?_
  refine r_ldc2 X47 hx hZ hown (hw _ (List.mem_of_getElem? (i := 20) rfl)) (hb hby d1_97) (pc' := 100) rfl ?_
  refine q_lastore X47 hx hZ e47 (j := (14 : Int32)) A47 (by decide) (by decide) (hb hby d1_100) (pc' := 101) rfl (fun T50 h50 X50 e50 W50 A50 => ?_)
  have K51 := K48.wr W50 (Or.inr fr3)
  have Z52 : n0 ≤ h50.size := by have q := Z49; rw [W50.size]; exact q
  have N50 := Fr.snoc X50 N47 ge4
  refine r_dup X50.here hx (hb hby d1_101) rfl (pc' := 102) rfl ?_
  refine r_bipush X50.here hx (hb hby d1_102) (v := 15) rfl (pc' := 104) rfl ?_
  refine r_ldc2 X50 hx hZ hown (hw _ (List.mem_of_getElem? (i := 21) rfl)) (hb hby d1_104) (pc' := 107) rfl ?_
  refine q_lastore X50 hx hZ e50 (j := (15 : Int32)) A50 (by decide) (by decide) (hb hby d1_107) (pc' := 108) rfl (fun T53 h53 X53 e53 W53 A53 => ?_)
  have K54 := K51.wr W53 (Or.inr fr3)
  have Z55 : n0 ≤ h53.size := by have q := Z52; rw [W53.size]; exact q
  have N53 := Fr.snoc X53 N50 ge4
  refine r_dup X53.here hx (hb hby d1_108) rfl (pc' := 109) rfl ?_
  refine r_bipush X53.here hx (hb hby d1_109) (v := 16) rfl (pc' := 111) rfl ?_
  refine r_ldc2 X53 hx hZ hown (hw _ (List.mem_of_getElem? (i := 22) rfl)) (hb hby d1_111) (pc' := 114) rfl ?_
  refine q_lastore X53 hx hZ e53 (j := (16 : Int32)) A53 (by decide) (by decide) (hb hby d1_114) (pc' := 115) rfl (fun T56 h56 X56 e56 W56 A56 => ?_)
  have K57 := K54.wr W56 (Or.inr fr3)
  have Z58 : n0 ≤ h56.size := by have q := Z55; rw [W56.size]; exact q
  have N56 := Fr.snoc X56 N53 ge4
  refine r_dup X56.here hx (hb hby d1_115) rfl (pc' := 116) rfl ?_
  refine r_bipush X56.here hx (hb hby d1_116) (v := 17) rfl (pc' := 118) rfl ?_
  refine r_ldc2 X56 hx hZ hown (hw _ (List.mem_of_getElem? (i := 23) rfl)) (hb hby d1_118) (pc' := 121) rfl ?_
  refine q_lastore X56 hx hZ e56 (j := (17 : Int32)) A56 (by decide) (by decide) (hb hby d1_121) (pc' := 122) rfl (fun T59 h59 X59 e59 W59 A59 => ?_)
  have K60 := K57.wr W59 (Or.inr fr3)
  have Z61 : n0 ≤ h59.size := by have q := Z58; rw [W59.size]; exact q
  have N59 := Fr.snoc X59 N56 ge4
  refine r_dup X59.here hx (hb hby d1_122) rfl (pc' := 123) rfl ?_
  refine r_bipush X59.here hx (hb hby d1_123) (v := 18) rfl (pc' := 125) rfl ?_
  refine r_ldc2 X59 hx hZ hown (hw _ (List.mem_of_getElem? (i := 24) rfl)) (hb hby d1_125) (pc' := 128) rfl ?_
  refine q_lastore X59 hx hZ e59 (j := (18 : Int32)) A59 (by decide) (by decide) (hb hby d1_128) (pc' := 129) rfl (fun T62 h62 X62 e62 W62 A62 => ?_)
  have K63 := K60.wr W62 (Or.inr fr3)
  have Z64 : n0 ≤ h62.size := by have q := Z61; rw [W62.size]; exact q
  have N62 := Fr.snoc X62 N59 ge4
  have f65 : Ary Z h62 b1 .long 19 (fun i => .long (own_p i)) := A62.congr (own_lt19 rfl rfl rfl rfl rfl rfl rfl rfl rfl rfl rfl rfl rfl rfl rfl rfl rfl rfl rfl)
  refine r_astoreN X62.here hx (hb hby d1_129) rfl (l' := #[.val (.int d), .val (.ref b1)]) rfl (pc' := 130) rfl ?_
  refine r_aloadN X62.here hx (hb hby d1_130) rfl rfl (pc' := 131) rfl ?_
  refine r_iloadN X62.here hx (hb hby d1_131) rfl (pc' := 132) rfl ?_
  refine q_laload X62 hx hZ e62 (j := d) (v := (own_p d.toInt.toNat)) f65 d0 d1 rfl (hb hby d1_132) (pc' := 133) rfl ?_
  refine r_retJ X62 hx hlk hret (hb hby d1_133) ?_ (by decide) (by decide)
  try rw [e62]
  exact ⟨rfl, N62, K63⟩
theorem d2_0 : decode prog_45_method_1_code 0 = .ok (.aload_n 0, 1) := by decide +kernel
theorem d2_1 : decode prog_45_method_1_code 1 = .ok (.invokespecial 1, 3) := by decide +kernel
theorem d2_4 : decode prog_45_method_1_code 4 = .ok (.aload_n 0, 1) := by decide +kernel
theorem d2_5 : decode prog_45_method_1_code 5 = .ok (.iconst (-1), 1) := by decide +kernel
theorem d2_6 : decode prog_45_method_1_code 6 = .ok (.putfield 9, 3) := by decide +kernel
theorem d2_9 : decode prog_45_method_1_code 9 = .ok (.return_, 1) := by decide +kernel
theorem pn_1 : plainName "com/example/floe/floe/model/ExactSum" = true := by first | (simp [plainName, overriddenIn]; done) | decide +kernel
theorem ef_rmI (m : MethodId) (x0 : Addr) : entryFrame m #[(.ref x0)] 1 = mkF m 0 #[.val (.ref x0)] [] := by first | (simp [entryFrame, mkF, argsToLocals, Value.category, maxLocals]; done) | rfl
set_option maxRecDepth 65536 in
set_option maxHeartbeats 40000000 in
theorem rmI (l : Launch) (Z : State) (a0 : Array Value) (hw : ∀ d ∈ tables_1, d.before a0 Z = true) (ws : List Jvm.Cond) (a : Addr) (h0 : Heap) (n0 : Nat) (Z0 : n0 ≤ h0.size) (ga : n0 ≤ a) (Ea : Exa Z h0 a "com/example/floe/floe/model/ExactSum") (Ff : Fld Z h0 a "com/example/floe/floe/model/ExactSum" "form" "B" (.int (0 : Int32))) (Fu : Fld Z h0 a "com/example/floe/floe/model/ExactSum" "unscaled" "J" (.long (0 : Int64))) (Fb : Fld Z h0 a "com/example/floe/floe/model/ExactSum" "big" "Ljava/math/BigDecimal;" .null) :
    Met l Z (⟨"com/example/floe/floe/model/ExactSum", "<init>", "()V"⟩ : MethodName) prog_45_method_1_code 1 none ws ({ frames := 1, cells := 0, slots := 0, locals := 12 } : Room) #[(.ref a)] h0 (fun v h L => v = none ∧ Fr n0 L ∧ Keep h0 h [a] ∧ Fld Z h a "com/example/floe/floe/model/ExactSum" "form" "B" (.int (-1 : Int32)) ∧ Fld Z h a "com/example/floe/floe/model/ExactSum" "unscaled" "J" (.long (0 : Int64)) ∧ Fld Z h a "com/example/floe/floe/model/ExactSum" "big" "Ljava/math/BigDecimal;" .null) 0 0 := by
  refine met_of (plainFor_of_name pn_1) (f0 := fun m => (mkF m 0 #[.val (.ref a)] [])) (fun m => ef_rmI m a) ?_
  intro p e s m below meth c s₁ X0 hx hby hml hret hlk hown hnm hZ e0
  replace hown : s.vm.findClass "com/example/floe/floe/model/ExactSum" = some m.cls := hown
  have N0 := Fr.nil n0
  refine r_aloadN X0.here hx (hb hby d2_0) rfl rfl (pc' := 1) rfl ?_
  refine r_initO X0 hx hZ hown (hw _ (List.mem_of_getElem? (i := 31) rfl)) (hw _ (List.mem_of_getElem? (i := 32) rfl)) (hw _ (List.mem_of_getElem? (i := 33) rfl)) e0 (by rw [hml]; rfl) (by decide) (W := 0) rfl (by decide) (hb hby d2_1) (pc' := 4) rfl (fun T66 X66 e66 => ?_)
  refine r_aloadN X66.here hx (hb hby d2_4) rfl rfl (pc' := 5) rfl ?_
  refine r_iconst X66.here hx (hb hby d2_5) (v := -1) rfl (pc' := 6) rfl ?_
  refine r_putFN X66 hx hZ hown (hw _ (List.mem_of_getElem? (i := 34) rfl)) Via.refl e66 Ff Ea (Or.inl (hw _ (List.mem_of_getElem? (i := 35) rfl))) (hw _ (List.mem_of_getElem? (i := 26) rfl)) (ty := .byte) (v' := (.int (-1 : Int32))) (by decide) rfl rfl (hb hby d2_6) (pc' := 9) rfl (fun T67 h67 X67 e67 W67 => ?_)
  have f68 := Ff.same W67
  have K69 : Keep h0 h0 [a] := Keep.refl _ _
  have K70 := K69.wr W67 (Or.inl (List.mem_of_getElem? (i := 0) rfl))
  have f71 := Ea.wr W67
  have f72 := Fu.other W67 (Or.inr (slot_ne (Or.inl (hw _ (List.mem_of_getElem? (i := 42) rfl)) : Laid Z a0 "com/example/floe/floe/model/ExactSum" "com/example/floe/floe/model/ExactSum" "unscaled" "J") (Or.inl (hw _ (List.mem_of_getElem? (i := 35) rfl)) : Laid Z a0 "com/example/floe/floe/model/ExactSum" "com/example/floe/floe/model/ExactSum" "form" "B") (by decide) (t := .long) (t' := .byte) (by decide) (by decide)))
  have f73 := Fb.other W67 (Or.inr (slot_ne (Or.inl (hw _ (List.mem_of_getElem? (i := 44) rfl)) : Laid Z a0 "com/example/floe/floe/model/ExactSum" "com/example/floe/floe/model/ExactSum" "big" "Ljava/math/BigDecimal;") (Or.inl (hw _ (List.mem_of_getElem? (i := 35) rfl)) : Laid Z a0 "com/example/floe/floe/model/ExactSum" "com/example/floe/floe/model/ExactSum" "form" "B") (by decide) (t := (.object "java/math/BigDecimal")) (t' := .byte) (by decide) (by decide)))
  have Z74 : n0 ≤ h67.size := by have q := Z0; rw [W67.size]; exact q
  have N67 := Fr.snoc X67 N0 ga
  refine r_ret0 X67 hx hlk hret (hb hby d2_9) ?_ (by decide) (by decide)
  try rw [e67]
  exact ⟨rfl, N67, K70, f68, f72, f73⟩
theorem d4_0 : decode prog_45_method_9_code 0 = .ok (.aload_n 0, 1) := by decide +kernel
theorem d4_1 : decode prog_45_method_9_code 1 = .ok (.iload_n 1, 1) := by decide +kernel
theorem d4_2 : decode prog_45_method_9_code 2 = .ok (.putfield 9, 3) := by decide +kernel
theorem d4_5 : decode prog_45_method_9_code 5 = .ok (.aload_n 0, 1) := by decide +kernel
theorem d4_6 : decode prog_45_method_9_code 6 = .ok (.iload_n 1, 1) := by decide +kernel
theorem d4_7 : decode prog_45_method_9_code 7 = .ok (.ifCond .lt 7, 3) := by decide +kernel
theorem d4_14 : decode prog_45_method_9_code 14 = .ok (.lconst 0, 1) := by decide +kernel
theorem d4_15 : decode prog_45_method_9_code 15 = .ok (.putfield 48, 3) := by decide +kernel
theorem d4_18 : decode prog_45_method_9_code 18 = .ok (.aload_n 0, 1) := by decide +kernel
theorem d4_19 : decode prog_45_method_9_code 19 = .ok (.iload_n 1, 1) := by decide +kernel
theorem d4_20 : decode prog_45_method_9_code 20 = .ok (.bipush (-2), 2) := by decide +kernel
theorem d4_22 : decode prog_45_method_9_code 22 = .ok (.if_icmp .ne 8, 3) := by decide +kernel
theorem d4_30 : decode prog_45_method_9_code 30 = .ok (.aconst_null, 1) := by decide +kernel
theorem d4_31 : decode prog_45_method_9_code 31 = .ok (.putfield 58, 3) := by decide +kernel
theorem d4_34 : decode prog_45_method_9_code 34 = .ok (.return_, 1) := by decide +kernel
theorem d4_25 : decode prog_45_method_9_code 25 = .ok (.aload 4, 2) := by decide +kernel
theorem d4_27 : decode prog_45_method_9_code 27 = .ok (.goto 4, 3) := by decide +kernel
theorem d4_10 : decode prog_45_method_9_code 10 = .ok (.lload_n 2, 1) := by decide +kernel
theorem d4_11 : decode prog_45_method_9_code 11 = .ok (.goto 4, 3) := by decide +kernel
theorem ef_rmSet (m : MethodId) (x0 : Addr) (x1 : Int32) (x2 : Int64) : entryFrame m #[(.ref x0), (.int x1), (.long x2), .null] 5 = mkF m 0 #[.val (.ref x0), .val (.int x1), .val (.long x2), .second, .val .null] [] := by first | (simp [entryFrame, mkF, argsToLocals, Value.category, maxLocals]; done) | rfl
set_option maxRecDepth 65536 in
set_option maxHeartbeats 40000000 in
theorem rmSet (l : Launch) (Z : State) (a0 : Array Value) (hw : ∀ d ∈ tables_1, d.before a0 Z = true) (ws : List Jvm.Cond) (a : Addr) (f : Int32) (u : Int64) (h0 : Heap) (n0 : Nat) (Z0 : n0 ≤ h0.size) (ga : n0 ≤ a) (Ea : Exa Z h0 a "com/example/floe/floe/model/ExactSum") (Ff : Fld Z h0 a "com/example/floe/floe/model/ExactSum" "form" "B" (.int (-1 : Int32))) (Fu : Fld Z h0 a "com/example/floe/floe/model/ExactSum" "unscaled" "J" (.long (0 : Int64))) (Fb : Fld Z h0 a "com/example/floe/floe/model/ExactSum" "big" "Ljava/math/BigDecimal;" .null) (hf : nar .byte f = f) :
    Met l Z (⟨"com/example/floe/floe/model/ExactSum", "set", "(BJLjava/math/BigDecimal;)V"⟩ : MethodName) prog_45_method_9_code 5 none ws ({ frames := 0, cells := 0, slots := 0, locals := 0 } : Room) #[(.ref a), (.int f), (.long u), .null] h0 (fun v h L => v = none ∧ Fr n0 L ∧ Keep h0 h [a] ∧ Fld Z h a "com/example/floe/floe/model/ExactSum" "form" "B" (.int f) ∧ Fld Z h a "com/example/floe/floe/model/ExactSum" "unscaled" "J" (.long (if f.toInt < 0 then 0 else u))) 0 0 := by
  refine met_of (plainFor_of_name pn_1) (f0 := fun m => (mkF m 0 #[.val (.ref a), .val (.int f), .val (.long u), .second, .val .null] [])) (fun m => ef_rmSet m a f u) ?_
  intro p e s m below meth c s₁ X0 hx hby hml hret hlk hown hnm hZ e0
  replace hown : s.vm.findClass "com/example/floe/floe/model/ExactSum" = some m.cls := hown
  have N0 := Fr.nil n0
  refine r_aloadN X0.here hx (hb hby d4_0) rfl rfl (pc' := 1) rfl ?_
  refine r_iloadN X0.here hx (hb hby d4_1) rfl (pc' := 2) rfl ?_
  refine r_putFN X0 hx hZ hown (hw _ (List.mem_of_getElem? (i := 34) rfl)) Via.refl e0 Ff Ea (Or.inl (hw _ (List.mem_of_getElem? (i := 35) rfl))) (hw _ (List.mem_of_getElem? (i := 26) rfl)) (ty := .byte) (v' := (.int f)) (by decide) (by rw [show narrow .byte (.int f) = .int (nar .byte f) from rfl, hf]) (by rw [← hf]; exact fits_nar_byte _) (hb hby d4_2) (pc' := 5) rfl (fun T75 h75 X75 e75 W75 => ?_)
  have f76 := Ff.same W75
  have K77 : Keep h0 h0 [a] := Keep.refl _ _
  have K78 := K77.wr W75 (Or.inl (List.mem_of_getElem? (i := 0) rfl))
  have f79 := Ea.wr W75
  have f80 := Fu.other W75 (Or.inr (slot_ne (Or.inl (hw _ (List.mem_of_getElem? (i := 42) rfl)) : Laid Z a0 "com/example/floe/floe/model/ExactSum" "com/example/floe/floe/model/ExactSum" "unscaled" "J") (Or.inl (hw _ (List.mem_of_getElem? (i := 35) rfl)) : Laid Z a0 "com/example/floe/floe/model/ExactSum" "com/example/floe/floe/model/ExactSum" "form" "B") (by decide) (t := .long) (t' := .byte) (by decide) (by decide)))
  have f81 := Fb.other W75 (Or.inr (slot_ne (Or.inl (hw _ (List.mem_of_getElem? (i := 44) rfl)) : Laid Z a0 "com/example/floe/floe/model/ExactSum" "com/example/floe/floe/model/ExactSum" "big" "Ljava/math/BigDecimal;") (Or.inl (hw _ (List.mem_of_getElem? (i := 35) rfl)) : Laid Z a0 "com/example/floe/floe/model/ExactSum" "com/example/floe/floe/model/ExactSum" "form" "B") (by decide) (t := (.object "java/math/BigDecimal")) (t' := .byte) (by decide) (by decide)))
  have Z82 : n0 ≤ h75.size := by have q := Z0; rw [W75.size]; exact q
  have N75 := Fr.snoc X75 N0 ga
  refine r_aloadN X75.here hx (hb hby d4_5) rfl rfl (pc' := 6) rfl ?_
  refine r_iloadN X75.here hx (hb hby d4_6) rfl (pc' := 7) rfl ?_
  refine r_if0_lt X75.here hx (hb hby d4_7) (by decide) (pc' := 14) (by decide) (pc2 := 10) rfl (fun hc7 => ?_) (fun hc7 => ?_)
  · refine r_lconst X75.here hx (hb hby d4_14) (v := 0) rfl (pc' := 15) rfl ?_
    refine r_putF X75 hx hZ hown (hw _ (List.mem_of_getElem? (i := 41) rfl)) Via.refl e75 f80 f79 (Or.inl (hw _ (List.mem_of_getElem? (i := 42) rfl))) (hw _ (List.mem_of_getElem? (i := 26) rfl)) (ty := .long) (by decide) rfl rfl (hb hby d4_15) (pc' := 18) rfl (fun T83 h83 X83 e83 W83 => ?_)
    have f84 := f80.same W83
    have K85 := K78.wr W83 (Or.inl (List.mem_of_getElem? (i := 0) rfl))
    have f86 := f79.wr W83
    have f87 := f81.other W83 (Or.inr (slot_ne (Or.inl (hw _ (List.mem_of_getElem? (i := 44) rfl)) : Laid Z a0 "com/example/floe/floe/model/ExactSum" "com/example/floe/floe/model/ExactSum" "big" "Ljava/math/BigDecimal;") (Or.inl (hw _ (List.mem_of_getElem? (i := 42) rfl)) : Laid Z a0 "com/example/floe/floe/model/ExactSum" "com/example/floe/floe/model/ExactSum" "unscaled" "J") (by decide) (t := (.object "java/math/BigDecimal")) (t' := .long) (by decide) (by decide)))
    have f88 := f76.other W83 (Or.inr (slot_ne (Or.inl (hw _ (List.mem_of_getElem? (i := 35) rfl)) : Laid Z a0 "com/example/floe/floe/model/ExactSum" "com/example/floe/floe/model/ExactSum" "form" "B") (Or.inl (hw _ (List.mem_of_getElem? (i := 42) rfl)) : Laid Z a0 "com/example/floe/floe/model/ExactSum" "com/example/floe/floe/model/ExactSum" "unscaled" "J") (by decide) (t := .byte) (t' := .long) (by decide) (by decide)))
    have Z89 : n0 ≤ h83.size := by have q := Z82; rw [W83.size]; exact q
    have N83 := Fr.snoc X83 N75 ga
    refine r_aloadN X83.here hx (hb hby d4_18) rfl rfl (pc' := 19) rfl ?_
    refine r_iloadN X83.here hx (hb hby d4_19) rfl (pc' := 20) rfl ?_
    refine r_bipush X83.here hx (hb hby d4_20) (v := -2) rfl (pc' := 22) rfl ?_
    refine r_if_ne X83.here hx (hb hby d4_22) (by decide) (pc' := 30) (by decide) (pc2 := 25) rfl (fun hc22 => ?_) (fun hc22 => ?_)
    · refine r_aconst_null X83.here hx (hb hby d4_30) (pc' := 31) rfl ?_
      refine r_putF X83 hx hZ hown (hw _ (List.mem_of_getElem? (i := 43) rfl)) Via.refl e83 f87 f86 (Or.inl (hw _ (List.mem_of_getElem? (i := 44) rfl))) (hw _ (List.mem_of_getElem? (i := 26) rfl)) (ty := (.object "java/math/BigDecimal")) (by decide) rfl rfl (hb hby d4_31) (pc' := 34) rfl (fun T90 h90 X90 e90 W90 => ?_)
      have f91 := f87.same W90
      have K92 := K85.wr W90 (Or.inl (List.mem_of_getElem? (i := 0) rfl))
      have f93 := f86.wr W90
      have f94 := f88.other W90 (Or.inr (slot_ne (Or.inl (hw _ (List.mem_of_getElem? (i := 35) rfl)) : Laid Z a0 "com/example/floe/floe/model/ExactSum" "com/example/floe/floe/model/ExactSum" "form" "B") (Or.inl (hw _ (List.mem_of_getElem? (i := 44) rfl)) : Laid Z a0 "com/example/floe/floe/model/ExactSum" "com/example/floe/floe/model/ExactSum" "big" "Ljava/math/BigDecimal;") (by decide) (t := .byte) (t' := (.object "java/math/BigDecimal")) (by decide) (by decide)))
      have f95 := f84.other W90 (Or.inr (slot_ne (Or.inl (hw _ (List.mem_of_getElem? (i := 42) rfl)) : Laid Z a0 "com/example/floe/floe/model/ExactSum" "com/example/floe/floe/model/ExactSum" "unscaled" "J") (Or.inl (hw _ (List.mem_of_getElem? (i := 44) rfl)) : Laid Z a0 "com/example/floe/floe/model/ExactSum" "com/example/floe/floe/model/ExactSum" "big" "Ljava/math/BigDecimal;") (by decide) (t := .long) (t' := (.object "java/math/BigDecimal")) (by decide) (by decide)))
      have Z96 : n0 ≤ h90.size := by have q := Z89; rw [W90.size]; exact q
      have N90 := Fr.snoc X90 N83 ga
      refine r_ret0 X90 hx hlk hret (hb hby d4_34) ?_ (by decide) (by decide)
      try rw [e90]
      refine ⟨rfl, N90, K92, f94, ?_⟩
      rw [if_pos hc7]
      exact f95
    · refine r_aload X83.here hx (hb hby d4_25) rfl rfl (pc' := 27) rfl ?_
      refine r_goto X83.here hx (hb hby d4_27) (by decide) (pc' := 31) (by decide) ?_
      refine r_putF X83 hx hZ hown (hw _ (List.mem_of_getElem? (i := 43) rfl)) Via.refl e83 f87 f86 (Or.inl (hw _ (List.mem_of_getElem? (i := 44) rfl))) (hw _ (List.mem_of_getElem? (i := 26) rfl)) (ty := (.object "java/math/BigDecimal")) (by decide) rfl rfl (hb hby d4_31) (pc' := 34) rfl (fun T97 h97 X97 e97 W97 => ?_)
      have f98 := f87.same W97
      have K99 := K85.wr W97 (Or.inl (List.mem_of_getElem? (i := 0) rfl))
      have f100 := f86.wr W97
      have f101 := f88.other W97 (Or.inr (slot_ne (Or.inl (hw _ (List.mem_of_getElem? (i := 35) rfl)) : Laid Z a0 "com/example/floe/floe/model/ExactSum" "com/example/floe/floe/model/ExactSum" "form" "B") (Or.inl (hw _ (List.mem_of_getElem? (i := 44) rfl)) : Laid Z a0 "com/example/floe/floe/model/ExactSum" "com/example/floe/floe/model/ExactSum" "big" "Ljava/math/BigDecimal;") (by decide) (t := .byte) (t' := (.object "java/math/BigDecimal")) (by decide) (by decide)))
      have f102 := f84.other W97 (Or.inr (slot_ne (Or.inl (hw _ (List.mem_of_getElem? (i := 42) rfl)) : Laid Z a0 "com/example/floe/floe/model/ExactSum" "com/example/floe/floe/model/ExactSum" "unscaled" "J") (Or.inl (hw _ (List.mem_of_getElem? (i := 44) rfl)) : Laid Z a0 "com/example/floe/floe/model/ExactSum" "com/example/floe/floe/model/ExactSum" "big" "Ljava/math/BigDecimal;") (by decide) (t := .long) (t' := (.object "java/math/BigDecimal")) (by decide) (by decide)))
      have Z103 : n0 ≤ h97.size := by have q := Z89; rw [W97.size]; exact q
      have N97 := Fr.snoc X97 N83 ga
      refine r_ret0 X97 hx hlk hret (hb hby d4_34) ?_ (by decide) (by decide)
      try rw [e97]
      refine ⟨rfl, N97, K99, f101, ?_⟩
      rw [if_pos hc7]
      exact f102
  · refine r_lloadN X75.here hx (hb hby d4_10) rfl (pc' := 11) rfl ?_
    refine r_goto X75.here hx (hb hby d4_11) (by decide) (pc' := 15) (by decide) ?_
    refine r_putF X75 hx hZ hown (hw _ (List.mem_of_getElem? (i := 41) rfl)) Via.refl e75 f80 f79 (Or.inl (hw _ (List.mem_of_getElem? (i := 42) rfl))) (hw _ (List.mem_of_getElem? (i := 26) rfl)) (ty := .long) (by decide) rfl rfl (hb hby d4_15) (pc' := 18) rfl (fun T104 h104 X104 e104 W104 => ?_)
    have f105 := f80.same W104
    have K106 := K78.wr W104 (Or.inl (List.mem_of_getElem? (i := 0) rfl))
    have f107 := f79.wr W104
    have f108 := f81.other W104 (Or.inr (slot_ne (Or.inl (hw _ (List.mem_of_getElem? (i := 44) rfl)) : Laid Z a0 "com/example/floe/floe/model/ExactSum" "com/example/floe/floe/model/ExactSum" "big" "Ljava/math/BigDecimal;") (Or.inl (hw _ (List.mem_of_getElem? (i := 42) rfl)) : Laid Z a0 "com/example/floe/floe/model/ExactSum" "com/example/floe/floe/model/ExactSum" "unscaled" "J") (by decide) (t := (.object "java/math/BigDecimal")) (t' := .long) (by decide) (by decide)))
    have f109 := f76.other W104 (Or.inr (slot_ne (Or.inl (hw _ (List.mem_of_getElem? (i := 35) rfl)) : Laid Z a0 "com/example/floe/floe/model/ExactSum" "com/example/floe/floe/model/ExactSum" "form" "B") (Or.inl (hw _ (List.mem_of_getElem? (i := 42) rfl)) : Laid Z a0 "com/example/floe/floe/model/ExactSum" "com/example/floe/floe/model/ExactSum" "unscaled" "J") (by decide) (t := .byte) (t' := .long) (by decide) (by decide)))
    have Z110 : n0 ≤ h104.size := by have q := Z82; rw [W104.size]; exact q
    have N104 := Fr.snoc X104 N75 ga
    refine r_aloadN X104.here hx (hb hby d4_18) rfl rfl (pc' := 19) rfl ?_
    refine r_iloadN X104.here hx (hb hby d4_19) rfl (pc' := 20) rfl ?_
    refine r_bipush X104.here hx (hb hby d4_20) (v := -2) rfl (pc' := 22) rfl ?_
    refine r_if_ne X104.here hx (hb hby d4_22) (by decide) (pc' := 30) (by decide) (pc2 := 25) rfl (fun hc22 => ?_) (fun hc22 => ?_)
    · refine r_aconst_null X104.here hx (hb hby d4_30) (pc' := 31) rfl ?_
      refine r_putF X104 hx hZ hown (hw _ (List.mem_of_getElem? (i := 43) rfl)) Via.refl e104 f108 f107 (Or.inl (hw _ (List.mem_of_getElem? (i := 44) rfl))) (hw _ (List.mem_of_getElem? (i := 26) rfl)) (ty := (.object "java/math/BigDecimal")) (by decide) rfl rfl (hb hby d4_31) (pc' := 34) rfl (fun T111 h111 X111 e111 W111 => ?_)
      have f112 := f108.same W111
      have K113 := K106.wr W111 (Or.inl (List.mem_of_getElem? (i := 0) rfl))
      have f114 := f107.wr W111
      have f115 := f109.other W111 (Or.inr (slot_ne (Or.inl (hw _ (List.mem_of_getElem? (i := 35) rfl)) : Laid Z a0 "com/example/floe/floe/model/ExactSum" "com/example/floe/floe/model/ExactSum" "form" "B") (Or.inl (hw _ (List.mem_of_getElem? (i := 44) rfl)) : Laid Z a0 "com/example/floe/floe/model/ExactSum" "com/example/floe/floe/model/ExactSum" "big" "Ljava/math/BigDecimal;") (by decide) (t := .byte) (t' := (.object "java/math/BigDecimal")) (by decide) (by decide)))
      have f116 := f105.other W111 (Or.inr (slot_ne (Or.inl (hw _ (List.mem_of_getElem? (i := 42) rfl)) : Laid Z a0 "com/example/floe/floe/model/ExactSum" "com/example/floe/floe/model/ExactSum" "unscaled" "J") (Or.inl (hw _ (List.mem_of_getElem? (i := 44) rfl)) : Laid Z a0 "com/example/floe/floe/model/ExactSum" "com/example/floe/floe/model/ExactSum" "big" "Ljava/math/BigDecimal;") (by decide) (t := .long) (t' := (.object "java/math/BigDecimal")) (by decide) (by decide)))
      have Z117 : n0 ≤ h111.size := by have q := Z110; rw [W111.size]; exact q
      have N111 := Fr.snoc X111 N104 ga
      refine r_ret0 X111 hx hlk hret (hb hby d4_34) ?_ (by decide) (by decide)
      try rw [e111]
      refine ⟨rfl, N111, K113, f115, ?_⟩
      rw [if_neg hc7]
      exact f116
    · refine r_aload X104.here hx (hb hby d4_25) rfl rfl (pc' := 27) rfl ?_
      refine r_goto X104.here hx (hb hby d4_27) (by decide) (pc' := 31) (by decide) ?_
      refine r_putF X104 hx hZ hown (hw _ (List.mem_of_getElem? (i := 43) rfl)) Via.refl e104 f108 f107 (Or.inl (hw _ (List.mem_of_getElem? (i := 44) rfl))) (hw _ (List.mem_of_getElem? (i := 26) rfl)) (ty := (.object "java/math/BigDecimal")) (by decide) rfl rfl (hb hby d4_31) (pc' := 34) rfl (fun T118 h118 X118 e118 W118 => ?_)
      have f119 := f108.same W118
      have K120 := K106.wr W118 (Or.inl (List.mem_of_getElem? (i := 0) rfl))
      have f121 := f107.wr W118
      have f122 := f109.other W118 (Or.inr (slot_ne (Or.inl (hw _ (List.mem_of_getElem? (i := 35) rfl)) : Laid Z a0 "com/example/floe/floe/model/ExactSum" "com/example/floe/floe/model/ExactSum" "form" "B") (Or.inl (hw _ (List.mem_of_getElem? (i := 44) rfl)) : Laid Z a0 "com/example/floe/floe/model/ExactSum" "com/example/floe/floe/model/ExactSum" "big" "Ljava/math/BigDecimal;") (by decide) (t := .byte) (t' := (.object "java/math/BigDecimal")) (by decide) (by decide)))
      have f123 := f105.other W118 (Or.inr (slot_ne (Or.inl (hw _ (List.mem_of_getElem? (i := 42) rfl)) : Laid Z a0 "com/example/floe/floe/model/ExactSum" "com/example/floe/floe/model/ExactSum" "unscaled" "J") (Or.inl (hw _ (List.mem_of_getElem? (i := 44) rfl)) : Laid Z a0 "com/example/floe/floe/model/ExactSum" "com/example/floe/floe/model/ExactSum" "big" "Ljava/math/BigDecimal;") (by decide) (t := .long) (t' := (.object "java/math/BigDecimal")) (by decide) (by decide)))
      have Z124 : n0 ≤ h118.size := by have q := Z110; rw [W118.size]; exact q
      have N118 := Fr.snoc X118 N104 ga
      refine r_ret0 X118 hx hlk hret (hb hby d4_34) ?_ (by decide) (by decide)
      try rw [e118]
      refine ⟨rfl, N118, K120, f122, ?_⟩
      rw [if_neg hc7]
      exact f123
theorem d5_0 : decode prog_45_method_15_code 0 = .ok (.aload_n 0, 1) := by decide +kernel
theorem d5_1 : decode prog_45_method_15_code 1 = .ok (.getfield 9, 3) := by decide +kernel
theorem d5_4 : decode prog_45_method_15_code 4 = .ok (.ifCond .lt 28, 3) := by decide +kernel
theorem d5_32 : decode prog_45_method_15_code 32 = .ok (.iconst 0, 1) := by decide +kernel
theorem d5_33 : decode prog_45_method_15_code 33 = .ok (.istore_n 2, 1) := by decide +kernel
theorem d5_34 : decode prog_45_method_15_code 34 = .ok (.iload_n 2, 1) := by decide +kernel
theorem d5_35 : decode prog_45_method_15_code 35 = .ok (.ifCond .eq 43, 3) := by decide +kernel
theorem d5_78 : decode prog_45_method_15_code 78 = .ok (.iload_n 2, 1) := by decide +kernel
theorem d5_79 : decode prog_45_method_15_code 79 = .ok (.ireturn, 1) := by decide +kernel
theorem d5_7 : decode prog_45_method_15_code 7 = .ok (.iload_n 1, 1) := by decide +kernel
theorem d5_8 : decode prog_45_method_15_code 8 = .ok (.aload_n 0, 1) := by decide +kernel
theorem d5_9 : decode prog_45_method_15_code 9 = .ok (.getfield 9, 3) := by decide +kernel
theorem d5_12 : decode prog_45_method_15_code 12 = .ok (.if_icmp .lt 20, 3) := by decide +kernel
theorem d5_15 : decode prog_45_method_15_code 15 = .ok (.iload_n 1, 1) := by decide +kernel
theorem d5_16 : decode prog_45_method_15_code 16 = .ok (.aload_n 0, 1) := by decide +kernel
theorem d5_17 : decode prog_45_method_15_code 17 = .ok (.getfield 9, 3) := by decide +kernel
theorem d5_20 : decode prog_45_method_15_code 20 = .ok (.isub, 1) := by decide +kernel
theorem d5_21 : decode prog_45_method_15_code 21 = .ok (.getstatic 96, 3) := by decide +kernel
theorem d5_24 : decode prog_45_method_15_code 24 = .ok (.arraylength, 1) := by decide +kernel
theorem d5_25 : decode prog_45_method_15_code 25 = .ok (.if_icmp .ge 7, 3) := by decide +kernel
theorem d5_28 : decode prog_45_method_15_code 28 = .ok (.iconst 1, 1) := by decide +kernel
theorem d5_29 : decode prog_45_method_15_code 29 = .ok (.goto 4, 3) := by decide +kernel
theorem d5_38 : decode prog_45_method_15_code 38 = .ok (.ldc2_w 100, 3) := by decide +kernel
theorem d5_41 : decode prog_45_method_15_code 41 = .ok (.getstatic 96, 3) := by decide +kernel
theorem d5_44 : decode prog_45_method_15_code 44 = .ok (.iload_n 1, 1) := by decide +kernel
theorem d5_45 : decode prog_45_method_15_code 45 = .ok (.aload_n 0, 1) := by decide +kernel
theorem d5_46 : decode prog_45_method_15_code 46 = .ok (.getfield 9, 3) := by decide +kernel
theorem d5_49 : decode prog_45_method_15_code 49 = .ok (.isub, 1) := by decide +kernel
theorem d5_50 : decode prog_45_method_15_code 50 = .ok (.laload, 1) := by decide +kernel
theorem d5_51 : decode prog_45_method_15_code 51 = .ok (.ldiv, 1) := by decide +kernel
theorem d5_52 : decode prog_45_method_15_code 52 = .ok (.lstore_n 3, 1) := by decide +kernel
theorem d5_53 : decode prog_45_method_15_code 53 = .ok (.aload_n 0, 1) := by decide +kernel
theorem d5_54 : decode prog_45_method_15_code 54 = .ok (.getfield 48, 3) := by decide +kernel
theorem d5_57 : decode prog_45_method_15_code 57 = .ok (.lload_n 3, 1) := by decide +kernel
theorem d5_58 : decode prog_45_method_15_code 58 = .ok (.lneg, 1) := by decide +kernel
theorem d5_59 : decode prog_45_method_15_code 59 = .ok (.lcmp, 1) := by decide +kernel
theorem d5_60 : decode prog_45_method_15_code 60 = .ok (.ifCond .lt 16, 3) := by decide +kernel
theorem d5_76 : decode prog_45_method_15_code 76 = .ok (.iconst 0, 1) := by decide +kernel
theorem d5_77 : decode prog_45_method_15_code 77 = .ok (.istore_n 2, 1) := by decide +kernel
theorem d5_63 : decode prog_45_method_15_code 63 = .ok (.aload_n 0, 1) := by decide +kernel
theorem d5_64 : decode prog_45_method_15_code 64 = .ok (.getfield 48, 3) := by decide +kernel
theorem d5_67 : decode prog_45_method_15_code 67 = .ok (.lload_n 3, 1) := by decide +kernel
theorem d5_68 : decode prog_45_method_15_code 68 = .ok (.lcmp, 1) := by decide +kernel
theorem d5_69 : decode prog_45_method_15_code 69 = .ok (.ifCond .gt 7, 3) := by decide +kernel
theorem d5_72 : decode prog_45_method_15_code 72 = .ok (.iconst 1, 1) := by decide +kernel
theorem d5_73 : decode prog_45_method_15_code 73 = .ok (.goto 4, 3) := by decide +kernel
theorem ef_rmFit (m : MethodId) (x0 : Addr) (x1 : Int32) : entryFrame m #[(.ref x0), (.int x1)] 5 = mkF m 0 #[.val (.ref x0), .val (.int x1), .unset, .unset, .unset] [] := by first | (simp [entryFrame, mkF, argsToLocals, Value.category, maxLocals]; done) | rfl
set_option maxRecDepth 65536 in
set_option maxHeartbeats 40000000 in
theorem rmFit (l : Launch) (Z : State) (a0 : Array Value) (hw : ∀ d ∈ tables_1, d.before a0 Z = true) (ws : List Jvm.Cond) (a pt : Addr) (f : Int32) (u : Int64) (sc : Int32) (h0 : Heap) (n0 : Nat) (Z0 : n0 ≤ h0.size) (Ff : Fld Z h0 a "com/example/floe/floe/model/ExactSum" "form" "B" (.int f)) (Fu : Fld Z h0 a "com/example/floe/floe/model/ExactSum" "unscaled" "J" (.long u)) (Sp : Sta Z h0 "com/example/floe/floe/model/ExactSum" "POWERS_OF_TEN" "[J" (.ref pt)) (Ap : Ary Z h0 pt .long 19 (fun i => .long (own_p i))) (f1 : -2 ≤ f.toInt) (f2 : f.toInt ≤ 18) :
    Met l Z (⟨"com/example/floe/floe/model/ExactSum", "fitsLongAt", "(I)Z"⟩ : MethodName) prog_45_method_15_code 5 (some .boolean) ws ({ frames := 0, cells := 0, slots := 0, locals := 0 } : Room) #[(.ref a), (.int sc)] h0 (fun v h L => v = some (.int (own_fit f u sc)) ∧ Fr n0 L ∧ h = h0) 0 0 := by
  refine met_of (plainFor_of_name pn_1) (f0 := fun m => (mkF m 0 #[.val (.ref a), .val (.int sc), .unset, .unset, .unset] [])) (fun m => ef_rmFit m a sc) ?_
  intro p e s m below meth c s₁ X0 hx hby hml hret hlk hown hnm hZ e0
  replace hown : s.vm.findClass "com/example/floe/floe/model/ExactSum" = some m.cls := hown
  have N0 := Fr.nil n0
  have rs := own_ri sc
  refine r_aloadN X0.here hx (hb hby d5_0) rfl rfl (pc' := 1) rfl ?_
  refine r_getF X0 hx hZ hown (hw _ (List.mem_of_getElem? (i := 34) rfl)) Via.refl e0 Ff (hb hby d5_1) (pc' := 4) rfl (fun T125 X125 e125 => ?_)
  refine r_if0_lt X125.here hx (hb hby d5_4) (by decide) (pc' := 32) (by decide) (pc2 := 7) rfl (fun hc4 => ?_) (fun hc4 => ?_)
  · refine r_iconst X125.here hx (hb hby d5_32) (v := 0) rfl (pc' := 33) rfl ?_
    refine r_istoreN X125.here hx (hb hby d5_33) (l' := #[.val (.ref a), .val (.int sc), .val (.int (0 : Int32)), .unset, .unset]) rfl (pc' := 34) rfl ?_
    refine r_iloadN X125.here hx (hb hby d5_34) rfl (pc' := 35) rfl ?_
    refine r_if0_eq X125.here hx (hb hby d5_35) (by decide) (pc' := 78) (by decide) (pc2 := 38) rfl (fun hc35 => ?_) (fun hc35 => absurd rfl hc35)
    refine r_iloadN X125.here hx (hb hby d5_78) rfl (pc' := 79) rfl ?_
    refine r_retN X125 hx hlk hret (by simp) (hb hby d5_79) (w := (0 : Int32)) rfl ?_ (by decide) (by decide)
    try rw [e125]
    refine ⟨?_, N0, rfl⟩
    unfold own_fit
    rw [if_pos (by omega)]
  · refine r_iloadN X125.here hx (hb hby d5_7) rfl (pc' := 8) rfl ?_
    refine r_aloadN X125.here hx (hb hby d5_8) rfl rfl (pc' := 9) rfl ?_
    refine r_getF X125 hx hZ hown (hw _ (List.mem_of_getElem? (i := 34) rfl)) Via.refl e125 Ff (hb hby d5_9) (pc' := 12) rfl (fun T126 X126 e126 => ?_)
    refine r_if_lt X126.here hx (hb hby d5_12) (by decide) (pc' := 32) (by decide) (pc2 := 15) rfl (fun hc12 => ?_) (fun hc12 => ?_)
    · refine r_iconst X126.here hx (hb hby d5_32) (v := 0) rfl (pc' := 33) rfl ?_
      refine r_istoreN X126.here hx (hb hby d5_33) (l' := #[.val (.ref a), .val (.int sc), .val (.int (0 : Int32)), .unset, .unset]) rfl (pc' := 34) rfl ?_
      refine r_iloadN X126.here hx (hb hby d5_34) rfl (pc' := 35) rfl ?_
      refine r_if0_eq X126.here hx (hb hby d5_35) (by decide) (pc' := 78) (by decide) (pc2 := 38) rfl (fun hc35 => ?_) (fun hc35 => absurd rfl hc35)
      refine r_iloadN X126.here hx (hb hby d5_78) rfl (pc' := 79) rfl ?_
      refine r_retN X126 hx hlk hret (by simp) (hb hby d5_79) (w := (0 : Int32)) rfl ?_ (by decide) (by decide)
      try rw [e126]
      refine ⟨?_, N0, rfl⟩
      unfold own_fit
      rw [if_pos (by omega)]
    · refine r_iloadN X126.here hx (hb hby d5_15) rfl (pc' := 16) rfl ?_
      refine r_aloadN X126.here hx (hb hby d5_16) rfl rfl (pc' := 17) rfl ?_
      refine r_getF X126 hx hZ hown (hw _ (List.mem_of_getElem? (i := 34) rfl)) Via.refl e126 Ff (hb hby d5_17) (pc' := 20) rfl (fun T127 X127 e127 => ?_)
      refine r_isub X127.here hx (hb hby d5_20) (pc' := 21) rfl ?_
      refine r_getS X127 hx hZ hown (hw _ (List.mem_of_getElem? (i := 50) rfl)) Via.refl e127 Sp (hb hby d5_21) (pc' := 24) rfl (fun T128 X128 e128 => ?_)
      refine r_len X128 hx hZ e128 (z := (19 : Int32)) Ap rfl (hb hby d5_24) (pc' := 25) rfl ?_
      refine r_if_ge X128.here hx (hb hby d5_25) (by decide) (pc' := 32) (by decide) (pc2 := 28) rfl (fun hc25 => ?_) (fun hc25 => ?_)
      · refine r_iconst X128.here hx (hb hby d5_32) (v := 0) rfl (pc' := 33) rfl ?_
        refine r_istoreN X128.here hx (hb hby d5_33) (l' := #[.val (.ref a), .val (.int sc), .val (.int (0 : Int32)), .unset, .unset]) rfl (pc' := 34) rfl ?_
        refine r_iloadN X128.here hx (hb hby d5_34) rfl (pc' := 35) rfl ?_
        refine r_if0_eq X128.here hx (hb hby d5_35) (by decide) (pc' := 78) (by decide) (pc2 := 38) rfl (fun hc35 => ?_) (fun hc35 => absurd rfl hc35)
        refine r_iloadN X128.here hx (hb hby d5_78) rfl (pc' := 79) rfl ?_
        refine r_retN X128 hx hlk hret (by simp) (hb hby d5_79) (w := (0 : Int32)) rfl ?_ (by decide) (by decide)
        try rw [e128]
        have l19 : (19 : Int32).toInt = 19 := rfl
        have es : (sc - f).toInt = sc.toInt - f.toInt := own_sub32 (by omega) (by omega)
        refine ⟨?_, N0, rfl⟩
        unfold own_fit
        rw [if_pos (by omega)]
      · have l19 : (19 : Int32).toInt = 19 := rfl
        have es : (sc - f).toInt = sc.toInt - f.toInt := own_sub32 (by omega) (by omega)
        refine r_iconst X128.here hx (hb hby d5_28) (v := 1) rfl (pc' := 29) rfl ?_
        refine r_goto X128.here hx (hb hby d5_29) (by decide) (pc' := 33) (by decide) ?_
        refine r_istoreN X128.here hx (hb hby d5_33) (l' := #[.val (.ref a), .val (.int sc), .val (.int (1 : Int32)), .unset, .unset]) rfl (pc' := 34) rfl ?_
        refine r_iloadN X128.here hx (hb hby d5_34) rfl (pc' := 35) rfl ?_
        refine r_if0_eq X128.here hx (hb hby d5_35) (by decide) (pc' := 78) (by decide) (pc2 := 38) rfl (fun hc35 => absurd hc35 (by decide)) (fun hc35 => ?_)
        refine r_ldc2 X128 hx hZ hown (hw _ (List.mem_of_getElem? (i := 52) rfl)) (hb hby d5_38) (pc' := 41) rfl ?_
        refine r_getS X128 hx hZ hown (hw _ (List.mem_of_getElem? (i := 50) rfl)) Via.refl e128 Sp (hb hby d5_41) (pc' := 44) rfl (fun T129 X129 e129 => ?_)
        refine r_iloadN X129.here hx (hb hby d5_44) rfl (pc' := 45) rfl ?_
        refine r_aloadN X129.here hx (hb hby d5_45) rfl rfl (pc' := 46) rfl ?_
        refine r_getF X129 hx hZ hown (hw _ (List.mem_of_getElem? (i := 34) rfl)) Via.refl e129 Ff (hb hby d5_46) (pc' := 49) rfl (fun T130 X130 e130 => ?_)
        refine r_isub X130.here hx (hb hby d5_49) (pc' := 50) rfl ?_
        refine q_laload X130 hx hZ e130 (j := (sc - f)) (v := (own_p (sc - f).toInt.toNat)) Ap (by omega) (by omega) rfl (hb hby d5_50) (pc' := 51) rfl ?_
        refine r_ldiv X130.here hx (hb hby d5_51) (own_pnz _ (by omega)) (pc' := 52) rfl ?_
        refine r_lstoreN X130.here hx (hb hby d5_52) (l' := #[.val (.ref a), .val (.int sc), .val (.int (1 : Int32)), .val (.long ((9223372036854775807 : Int64) / (own_p (sc - f).toInt.toNat))), .second]) rfl (pc' := 53) rfl ?_
        refine r_aloadN X130.here hx (hb hby d5_53) rfl rfl (pc' := 54) rfl ?_
        refine r_getF X130 hx hZ hown (hw _ (List.mem_of_getElem? (i := 41) rfl)) Via.refl e130 Fu (hb hby d5_54) (pc' := 57) rfl (fun T131 X131 e131 => ?_)
        refine r_lloadN X131.here hx (hb hby d5_57) rfl (pc' := 58) rfl ?_
        refine r_lneg X131.here hx (hb hby d5_58) (pc' := 59) rfl ?_
        refine r_lcmp X131.here hx (hb hby d5_59) (pc' := 60) rfl ?_
        refine r_ifL_lt X131.here hx (hb hby d5_60) (by decide) (pc' := 76) (by decide) (pc2 := 63) rfl (fun hc60 => ?_) (fun hc60 => ?_)
        · refine r_iconst X131.here hx (hb hby d5_76) (v := 0) rfl (pc' := 77) rfl ?_
          refine r_istoreN X131.here hx (hb hby d5_77) (l' := #[.val (.ref a), .val (.int sc), .val (.int (0 : Int32)), .val (.long ((9223372036854775807 : Int64) / (own_p (sc - f).toInt.toNat))), .second]) rfl (pc' := 78) rfl ?_
          refine r_iloadN X131.here hx (hb hby d5_78) rfl (pc' := 79) rfl ?_
          refine r_retN X131 hx hlk hret (by simp) (hb hby d5_79) (w := (0 : Int32)) rfl ?_ (by decide) (by decide)
          try rw [e131]
          have pr := own_pr (sc - f).toInt.toNat (by omega)
          rw [own_mneg _ pr.1] at hc60
          refine ⟨?_, N0, rfl⟩
          unfold own_fit
          rw [← es, if_neg (by omega)]
          rw [if_pos (Or.inl hc60)]
        · refine r_aloadN X131.here hx (hb hby d5_63) rfl rfl (pc' := 64) rfl ?_
          refine r_getF X131 hx hZ hown (hw _ (List.mem_of_getElem? (i := 41) rfl)) Via.refl e131 Fu (hb hby d5_64) (pc' := 67) rfl (fun T132 X132 e132 => ?_)
          refine r_lloadN X132.here hx (hb hby d5_67) rfl (pc' := 68) rfl ?_
          refine r_lcmp X132.here hx (hb hby d5_68) (pc' := 69) rfl ?_
          refine r_ifL_gt X132.here hx (hb hby d5_69) (by decide) (pc' := 76) (by decide) (pc2 := 72) rfl (fun hc69 => ?_) (fun hc69 => ?_)
          · refine r_iconst X132.here hx (hb hby d5_76) (v := 0) rfl (pc' := 77) rfl ?_
            refine r_istoreN X132.here hx (hb hby d5_77) (l' := #[.val (.ref a), .val (.int sc), .val (.int (0 : Int32)), .val (.long ((9223372036854775807 : Int64) / (own_p (sc - f).toInt.toNat))), .second]) rfl (pc' := 78) rfl ?_
            refine r_iloadN X132.here hx (hb hby d5_78) rfl (pc' := 79) rfl ?_
            refine r_retN X132 hx hlk hret (by simp) (hb hby d5_79) (w := (0 : Int32)) rfl ?_ (by decide) (by decide)
            try rw [e132]
            have pr := own_pr (sc - f).toInt.toNat (by omega)
            rw [own_mneg _ pr.1] at hc60
            rw [own_mdiv _ pr.1] at hc69
            refine ⟨?_, N0, rfl⟩
            unfold own_fit
            rw [← es, if_neg (by omega)]
            rw [if_pos (Or.inr hc69)]
          · refine r_iconst X132.here hx (hb hby d5_72) (v := 1) rfl (pc' := 73) rfl ?_
            refine r_goto X132.here hx (hb hby d5_73) (by decide) (pc' := 77) (by decide) ?_
            refine r_istoreN X132.here hx (hb hby d5_77) (l' := #[.val (.ref a), .val (.int sc), .val (.int (1 : Int32)), .val (.long ((9223372036854775807 : Int64) / (own_p (sc - f).toInt.toNat))), .second]) rfl (pc' := 78) rfl ?_
            refine r_iloadN X132.here hx (hb hby d5_78) rfl (pc' := 79) rfl ?_
            refine r_retN X132 hx hlk hret (by simp) (hb hby d5_79) (w := (1 : Int32)) rfl ?_ (by decide) (by decide)
            try rw [e132]
            have pr := own_pr (sc - f).toInt.toNat (by omega)
            rw [own_mneg _ pr.1] at hc60
            rw [own_mdiv _ pr.1] at hc69
            refine ⟨?_, N0, rfl⟩
            unfold own_fit
            rw [← es, if_neg (by omega)]
            rw [if_neg (by omega)]
theorem own_f (sel : Int32) : -2 ≤ (((sel &&& 2147483647) % 21) - 2).toInt ∧ (((sel &&& 2147483647) % 21) - 2).toInt ≤ 18 := by
  have h0 := (c_andS sel 2147483647).2.2 (by decide)
  have h := (c_irem (sel &&& 2147483647) 21 21 rfl).1 h0
  have l : (2 : Int32).toInt = 2 := rfl
  rw [own_sub32 (by rw [h]; omega) (by rw [h]; omega), h, l]
  omega
theorem pd_0 : parseMethodDescriptor "()V" = some ⟨[], none⟩ := by decide +kernel
theorem pd_1 : parseMethodDescriptor "(BJLjava/math/BigDecimal;)V" = some ⟨[.byte, .long, (.object "java/math/BigDecimal")], none⟩ := by decide +kernel
theorem pd_2 : parseMethodDescriptor "(I)Z" = some ⟨[.int], some .boolean⟩ := by decide +kernel
theorem pd_3 : parseMethodDescriptor "(I)J" = some ⟨[.int], some .long⟩ := by decide +kernel
theorem ef_rm0 (m : MethodId) (x0 : Int32) (x1 : Int64) (x2 : Int32) : entryFrame m #[(.int x0), (.long x1), (.int x2)] maxLocals = mkF m 0 #[.val (.int x0), .val (.long x1), .second, .val (.int x2), .unset, .unset, .unset, .unset, .unset, .unset, .unset, .unset, .unset, .unset, .unset, .unset, .unset, .unset] [] := by first | (simp [entryFrame, mkF, argsToLocals, Value.category, maxLocals]; done) | rfl
set_option maxRecDepth 65536 in
set_option maxHeartbeats 40000000 in
theorem rm0 (l : Launch) (Z : State) (a0 : Array Value) (hw : ∀ d ∈ tables_1, d.before a0 Z = true) (ws : List Jvm.Cond) (sel : Int32) (rawV : Int64) (rawScale : Int32) (pt : Addr) (h0 : Heap) (n0 : Nat) (Z0 : n0 ≤ h0.size) (Sp : Sta Z h0 "com/example/floe/floe/model/ExactSum" "POWERS_OF_TEN" "[J" (.ref pt)) (Ap : Ary Z h0 pt .long 19 (fun i => .long (own_p i))) :
    Met l Z Jvm.Pilot.@@N@@.x code maxLocals ret ws room_1 #[(.int sel), (.long rawV), (.int rawScale)] h0 (fun v h L => v = some (.int 1) ∧ Fr n0 L) 16 128 := by
  refine met_of (plainFor_of_name pn_0) (f0 := fun m => (mkF m 0 #[.val (.int sel), .val (.long rawV), .second, .val (.int rawScale), .unset, .unset, .unset, .unset, .unset, .unset, .unset, .unset, .unset, .unset, .unset, .unset, .unset, .unset] [])) (fun m => ef_rm0 m sel rawV rawScale) ?_
  intro p e s m below meth c s₁ X0 hx hby hml hret hlk hown hnm hZ e0
  replace hown : s.vm.findClass "com/example/floe/floe/model/ExactSumFitsLongAtPinLaw" = some m.cls := hown
  have N0 := Fr.nil n0
  have fr := own_f sel
  have J33 : ∀ (f sc : Int32), -2 ≤ f.toInt → f.toInt ≤ 18 → Run p e below (fun v h L => v = some (.int 1) ∧ Fr n0 L) (fun o t L => FrameEnd s o t L 16 128) s₁ (mkF m 33 #[.val (.int sel), .val (.long rawV), .second, .val (.int rawScale), .val (.int f), .val (.int sc), .unset, .unset, .unset, .unset, .unset, .unset, .unset, .unset, .unset, .unset, .unset, .unset] []) := by
    intro f sc f1 f2
    have rs := own_ri sc
    have dd : ((sc.toInt64) - (f.toInt64)).toInt = sc.toInt - f.toInt := by rw [own_sub64 (by rw [c_i2l, c_i2l]; omega) (by rw [c_i2l, c_i2l]; omega), c_i2l, c_i2l]
    have J70 : ∀ (pd : Int64) (T7 : State) (L7 : List Loc), Stand p l e room_1 s m #[(.int sel), (.long rawV), (.int rawScale)] below meth c T7 L7 1 19 → Fr n0 L7 → n0 ≤ T7.heap.size → Sta Z T7.heap "com/example/floe/floe/model/ExactSum" "POWERS_OF_TEN" "[J" (.ref pt) → Ary Z T7.heap pt .long 19 (fun i => .long (own_p i)) → pd ≠ 0 → (0 ≤ sc.toInt - f.toInt → sc.toInt - f.toInt ≤ 18 → pd = own_p (sc.toInt - f.toInt).toNat) → Run p e below (fun v h L => v = some (.int 1) ∧ Fr n0 L) (fun o t L => FrameEnd s o t L 16 128) T7 (mkF m 70 #[.val (.int sel), .val (.long rawV), .second, .val (.int rawScale), .val (.int f), .val (.int sc), .val (.long ((sc.toInt64) - (f.toInt64))), .second, .val (.long pd), .second, .unset, .unset, .unset, .unset, .unset, .unset, .unset, .unset] []) := by
      intro pd T7 L7 X7 N7 Z7 S7 A7 hnz hpd
      have Ja : ∀ (vm : Int32) (v : Int64), Run p e below (fun v h L => v = some (.int 1) ∧ Fr n0 L) (fun o t L => FrameEnd s o t L 16 128) T7 (mkF m 163 #[.val (.int sel), .val (.long rawV), .second, .val (.int rawScale), .val (.int f), .val (.int sc), .val (.long ((sc.toInt64) - (f.toInt64))), .second, .val (.long pd), .second, .val (.int vm), .val (.long v), .second, .unset, .unset, .unset, .unset, .unset] []) := by
        intro vm v
        refine r_new X7 hx hZ hown (hw _ (List.mem_of_getElem? (i := 25) rfl)) (hw _ (List.mem_of_getElem? (i := 26) rfl)) (hw _ (List.mem_of_getElem? (i := 27) rfl)) rfl (by decide) (by decide) (hb hby at_163) (pc' := 166) rfl (fun T133 h133 b133 g133 X133 e133 E133 A133 D133 => ?_)
        have ne134 : b133 ≠ pt := by have q := A7.lt; rw [← g133] at q; exact Nat.ne_of_gt q
        have ge135 : n0 ≤ b133 := by rw [g133]; exact Z7
        have f136 := own_staExt S7 E133
        have f137 := A7.ext E133
        have Z138 : n0 ≤ h133.size := by have q := Z7; exact Nat.le_trans q E133.1
        have f139 : Fld Z h133 b133 "com/example/floe/floe/model/ExactSum" "form" "B" (.int (0 : Int32)) := D133 (Or.inl (hw _ (List.mem_of_getElem? (i := 35) rfl))) (ty := .byte) (by decide)
        have f140 : Fld Z h133 b133 "com/example/floe/floe/model/ExactSum" "unscaled" "J" (.long (0 : Int64)) := D133 (Or.inl (hw _ (List.mem_of_getElem? (i := 42) rfl))) (ty := .long) (by decide)
        have f141 : Fld Z h133 b133 "com/example/floe/floe/model/ExactSum" "big" "Ljava/math/BigDecimal;" .null := D133 (Or.inl (hw _ (List.mem_of_getElem? (i := 44) rfl))) (ty := (.object "java/math/BigDecimal")) (by decide)
        refine r_dup X133.here hx (hb hby at_166) rfl (pc' := 167) rfl ?_
        refine r_callI X133 hx hZ (y := (⟨"com/example/floe/floe/model/ExactSum", "<init>", "()V"⟩ : MethodName)) (rm := ({ frames := 1, cells := 0, slots := 0, locals := 12 } : Room)) hown rfl (hw _ (List.mem_of_getElem? (i := 28) rfl)) (hw _ (List.mem_of_getElem? (i := 29) rfl)) (hw _ (List.mem_of_getElem? (i := 27) rfl)) (hw _ (List.mem_of_getElem? (i := 30) rfl)) (by decide) (rmI l Z a0 hw [] b133 h133 n0 Z138 ge135 A133 f139 f140 f141) e133 (by rw [hml]; rfl) (argsL := []) (rest := [(.ref b133)]) (lenOf pd_0 rfl) rfl rfl (W := 1) rfl (by decide) (by decide) (by decide) (by decide) (hb hby at_167) (pc' := 170) rfl ?_
        rintro v142 T142 L142 X142 ⟨rfl, Nq142, K142, Ff142, Fu142, Fb142⟩
        have N142 := Fr.app N7 Nq142
        show Run p e below _ _ T142 (mkF m 170 #[.val (.int sel), .val (.long rawV), .second, .val (.int rawScale), .val (.int f), .val (.int sc), .val (.long ((sc.toInt64) - (f.toInt64))), .second, .val (.long pd), .second, .val (.int vm), .val (.long v), .second, .unset, .unset, .unset, .unset, .unset] [(.ref b133)])
        have f143 := own_staKeep f136 K142 (allS (own_exaS A133) all0)
        have f144 := f137.keep K142 (ninS (Ne.symm ne134) nin0)
        have f145 := A133.keep K142
        have Z146 : n0 ≤ T142.heap.size := by have q := Z138; exact Nat.le_trans q K142.1
        refine r_astore X142.here hx (hb hby at_170) rfl (l' := #[.val (.int sel), .val (.long rawV), .second, .val (.int rawScale), .val (.int f), .val (.int sc), .val (.long ((sc.toInt64) - (f.toInt64))), .second, .val (.long pd), .second, .val (.int vm), .val (.long v), .second, .val (.ref b133), .unset, .unset, .unset, .unset]) rfl (pc' := 172) rfl ?_
        refine r_aload X142.here hx (hb hby at_172) rfl rfl (pc' := 174) rfl ?_
        refine r_iload X142.here hx (hb hby at_174) rfl (pc' := 176) rfl ?_
        refine r_i2b X142.here hx (hb hby at_176) (pc' := 177) rfl ?_
        refine r_lload X142.here hx (hb hby at_177) rfl (pc' := 179) rfl ?_
        refine r_aconst_null X142.here hx (hb hby at_179) (pc' := 180) rfl ?_
        refine r_callV X142 hx hZ (y := (⟨"com/example/floe/floe/model/ExactSum", "set", "(BJLjava/math/BigDecimal;)V"⟩ : MethodName)) (z := (⟨"com/example/floe/floe/model/ExactSum", "set", "(BJLjava/math/BigDecimal;)V"⟩ : MethodName)) (rm := ({ frames := 0, cells := 0, slots := 0, locals := 0 } : Room)) hown (hw _ (List.mem_of_getElem? (i := 36) rfl)) (hw _ (List.mem_of_getElem? (i := 37) rfl)) (notFace_of_selects (args := #[]) (mvT hZ (hw _ (List.mem_of_getElem? (i := 39) rfl)))) (hw _ (List.mem_of_getElem? (i := 39) rfl)) (hw _ (List.mem_of_getElem? (i := 38) rfl)) (hw _ (List.mem_of_getElem? (i := 27) rfl)) (hw _ (List.mem_of_getElem? (i := 40) rfl)) (by decide) (rmSet l Z a0 hw [] b133 (f.toInt8.toInt32) v T142.heap n0 Z146 ge135 f145 Ff142 Fu142 Fb142 (by simp [nar])) rfl f145 (by rw [hml]; rfl) (argsL := [(.int (f.toInt8.toInt32)), (.long v), .null]) (rest := []) (lenOf pd_1 rfl) rfl rfl (W := 0) rfl (by decide) (by decide) (by decide) (by decide) (hb hby at_180) (pc' := 183) rfl ?_
        rintro v147 T147 L147 X147 ⟨rfl, Nq147, K147, Ff147, Fu147⟩
        have N147 := Fr.app N142 Nq147
        show Run p e below _ _ T147 (mkF m 183 #[.val (.int sel), .val (.long rawV), .second, .val (.int rawScale), .val (.int f), .val (.int sc), .val (.long ((sc.toInt64) - (f.toInt64))), .second, .val (.long pd), .second, .val (.int vm), .val (.long v), .second, .val (.ref b133), .unset, .unset, .unset, .unset] [])
        have f148 := own_staKeep f143 K147 (allS (own_exaS f145) all0)
        have f149 := f144.keep K147 (ninS (Ne.symm ne134) nin0)
        have f150 := f145.keep K147
        have Z151 : n0 ≤ T147.heap.size := by have q := Z146; exact Nat.le_trans q K147.1
        rw [own_fb f (by omega) (by omega)] at Ff147 Fu147
        refine r_aload X147.here hx (hb hby at_183) rfl rfl (pc' := 185) rfl ?_
        refine r_iload X147.here hx (hb hby at_185) rfl (pc' := 187) rfl ?_
        refine r_callV X147 hx hZ (y := (⟨"com/example/floe/floe/model/ExactSum", "fitsLongAt", "(I)Z"⟩ : MethodName)) (z := (⟨"com/example/floe/floe/model/ExactSum", "fitsLongAt", "(I)Z"⟩ : MethodName)) (rm := ({ frames := 0, cells := 0, slots := 0, locals := 0 } : Room)) hown (hw _ (List.mem_of_getElem? (i := 45) rfl)) (hw _ (List.mem_of_getElem? (i := 46) rfl)) (notFace_of_selects (args := #[]) (mvT hZ (hw _ (List.mem_of_getElem? (i := 48) rfl)))) (hw _ (List.mem_of_getElem? (i := 48) rfl)) (hw _ (List.mem_of_getElem? (i := 47) rfl)) (hw _ (List.mem_of_getElem? (i := 27) rfl)) (hw _ (List.mem_of_getElem? (i := 49) rfl)) (by decide) (rmFit l Z a0 hw [] b133 pt f (if f.toInt < 0 then 0 else v) sc T147.heap n0 Z151 Ff147 Fu147 f148 f149 f1 f2) rfl f150 (by rw [hml]; rfl) (argsL := [(.int sc)]) (rest := []) (lenOf pd_2 rfl) rfl rfl (W := 0) rfl (by decide) (by decide) (by decide) (by decide) (hb hby at_187) (pc' := 190) rfl ?_
        rintro v152 T152 L152 X152 ⟨rfl, Nq152, e152⟩
        have N152 := Fr.app N147 Nq152
        show Run p e below _ _ T152 (mkF m 190 #[.val (.int sel), .val (.long rawV), .second, .val (.int rawScale), .val (.int f), .val (.int sc), .val (.long ((sc.toInt64) - (f.toInt64))), .second, .val (.long pd), .second, .val (.int vm), .val (.long v), .second, .val (.ref b133), .unset, .unset, .unset, .unset] [(.int (own_fit f (if f.toInt < 0 then 0 else v) sc))])
        refine r_istore X152.here hx (hb hby at_190) (l' := #[.val (.int sel), .val (.long rawV), .second, .val (.int rawScale), .val (.int f), .val (.int sc), .val (.long ((sc.toInt64) - (f.toInt64))), .second, .val (.long pd), .second, .val (.int vm), .val (.long v), .second, .val (.ref b133), .val (.int (own_fit f (if f.toInt < 0 then 0 else v) sc)), .unset, .unset, .unset]) rfl (pc' := 192) rfl ?_
        refine r_iload X152.here hx (hb hby at_192) rfl (pc' := 194) rfl ?_
        refine r_if0_ge X152.here hx (hb hby at_194) (by decide) (pc' := 203) (by decide) (pc2 := 197) rfl (fun hc194 => ?_) (fun hc194 => ?_)
        · refine r_lload X152.here hx (hb hby at_203) rfl (pc' := 205) rfl ?_
          refine r_lconst X152.here hx (hb hby at_205) (v := 0) rfl (pc' := 206) rfl ?_
          refine r_lcmp X152.here hx (hb hby at_206) (pc' := 207) rfl ?_
          refine r_ifL_lt X152.here hx (hb hby at_207) (by decide) (pc' := 219) (by decide) (pc2 := 210) rfl (fun hc207 => ?_) (fun hc207 => ?_)
          · refine r_iconst X152.here hx (hb hby at_219) (v := 0) rfl (pc' := 220) rfl ?_
            refine r_istore X152.here hx (hb hby at_220) (l' := #[.val (.int sel), .val (.long rawV), .second, .val (.int rawScale), .val (.int f), .val (.int sc), .val (.long ((sc.toInt64) - (f.toInt64))), .second, .val (.long pd), .second, .val (.int vm), .val (.long v), .second, .val (.ref b133), .val (.int (own_fit f (if f.toInt < 0 then 0 else v) sc)), .val (.int (0 : Int32)), .unset, .unset]) rfl (pc' := 222) rfl ?_
            refine r_goto X152.here hx (hb hby at_222) (by decide) (pc' := 259) (by decide) ?_
            refine r_iload X152.here hx (hb hby at_259) rfl (pc' := 261) rfl ?_
            refine r_iload X152.here hx (hb hby at_261) rfl (pc' := 263) rfl ?_
            refine r_if_ne X152.here hx (hb hby at_263) (by decide) (pc' := 270) (by decide) (pc2 := 266) rfl (fun hc263 => absurd (by have z0 : (0 : Int64).toInt = 0 := rfl; have z18 : (18 : Int64).toInt = 18 := rfl; have zi : (0 : Int32).toInt = 0 := rfl; rw [dd] at hc207; unfold own_fit; rw [if_pos (by omega)]) hc263) (fun hc263 => ?_)
            refine r_iconst X152.here hx (hb hby at_266) (v := 1) rfl (pc' := 267) rfl ?_
            refine r_goto X152.here hx (hb hby at_267) (by decide) (pc' := 271) (by decide) ?_
            refine r_retN X152 hx hlk hret (by simp) (hb hby at_271) (w := (1 : Int32)) rfl ?_ (by decide) (by decide)
            try rw [e152]
            exact ⟨rfl, N152⟩
          · refine r_lload X152.here hx (hb hby at_210) rfl (pc' := 212) rfl ?_
            refine r_ldc2 X152 hx hZ hown (hw _ (List.mem_of_getElem? (i := 1) rfl)) (hb hby at_212) (pc' := 215) rfl ?_
            refine r_lcmp X152.here hx (hb hby at_215) (pc' := 216) rfl ?_
            refine r_ifL_le X152.here hx (hb hby at_216) (by decide) (pc' := 225) (by decide) (pc2 := 219) rfl (fun hc216 => ?_) (fun hc216 => ?_)
            · refine r_lload X152.here hx (hb hby at_225) rfl (pc' := 227) rfl ?_
              refine r_lload X152.here hx (hb hby at_227) rfl (pc' := 229) rfl ?_
              refine r_lmul X152.here hx (hb hby at_229) (pc' := 230) rfl ?_
              refine r_lstore X152.here hx (hb hby at_230) (l' := #[.val (.int sel), .val (.long rawV), .second, .val (.int rawScale), .val (.int f), .val (.int sc), .val (.long ((sc.toInt64) - (f.toInt64))), .second, .val (.long pd), .second, .val (.int vm), .val (.long v), .second, .val (.ref b133), .val (.int (own_fit f (if f.toInt < 0 then 0 else v) sc)), .unset, .val (.long (v * pd)), .second]) rfl (pc' := 232) rfl ?_
              refine r_lload X152.here hx (hb hby at_232) rfl (pc' := 234) rfl ?_
              refine r_ldc2 X152 hx hZ hown (hw _ (List.mem_of_getElem? (i := 53) rfl)) (hb hby at_234) (pc' := 237) rfl ?_
              refine r_lcmp X152.here hx (hb hby at_237) (pc' := 238) rfl ?_
              refine r_ifL_eq X152.here hx (hb hby at_238) (by decide) (pc' := 256) (by decide) (pc2 := 241) rfl (fun hc238 => ?_) (fun hc238 => ?_)
              · refine r_iconst X152.here hx (hb hby at_256) (v := 0) rfl (pc' := 257) rfl ?_
                refine r_istore X152.here hx (hb hby at_257) (l' := #[.val (.int sel), .val (.long rawV), .second, .val (.int rawScale), .val (.int f), .val (.int sc), .val (.long ((sc.toInt64) - (f.toInt64))), .second, .val (.long pd), .second, .val (.int vm), .val (.long v), .second, .val (.ref b133), .val (.int (own_fit f (if f.toInt < 0 then 0 else v) sc)), .val (.int (0 : Int32)), .val (.long (v * pd)), .second]) rfl (pc' := 259) rfl ?_
                refine r_iload X152.here hx (hb hby at_259) rfl (pc' := 261) rfl ?_
                refine r_iload X152.here hx (hb hby at_261) rfl (pc' := 263) rfl ?_
                refine r_if_ne X152.here hx (hb hby at_263) (by decide) (pc' := 270) (by decide) (pc2 := 266) rfl (fun hc263 => absurd (by have z0 : (0 : Int64).toInt = 0 := rfl; have z18 : (18 : Int64).toInt = 18 := rfl; have zi : (0 : Int32).toInt = 0 := rfl; rw [dd] at hc207 hc216; have pr := own_pr (sc.toInt - f.toInt).toNat (by omega); have hp := hpd (by omega) (by omega); unfold own_fit; rw [if_neg (by omega), if_neg (show ¬ f.toInt < 0 by omega)]; subst hp; rw [if_pos ((own_law v _ pr.1 pr.2.1 pr.2.2).mpr (Or.inl hc238))]) hc263) (fun hc263 => ?_)
                refine r_iconst X152.here hx (hb hby at_266) (v := 1) rfl (pc' := 267) rfl ?_
                refine r_goto X152.here hx (hb hby at_267) (by decide) (pc' := 271) (by decide) ?_
                refine r_retN X152 hx hlk hret (by simp) (hb hby at_271) (w := (1 : Int32)) rfl ?_ (by decide) (by decide)
                try rw [e152]
                exact ⟨rfl, N152⟩
              · refine r_lload X152.here hx (hb hby at_241) rfl (pc' := 243) rfl ?_
                refine r_lload X152.here hx (hb hby at_243) rfl (pc' := 245) rfl ?_
                refine r_ldiv X152.here hx (hb hby at_245) hnz (pc' := 246) rfl ?_
                refine r_lload X152.here hx (hb hby at_246) rfl (pc' := 248) rfl ?_
                refine r_lcmp X152.here hx (hb hby at_248) (pc' := 249) rfl ?_
                refine r_ifL_ne X152.here hx (hb hby at_249) (by decide) (pc' := 256) (by decide) (pc2 := 252) rfl (fun hc249 => ?_) (fun hc249 => ?_)
                · refine r_iconst X152.here hx (hb hby at_256) (v := 0) rfl (pc' := 257) rfl ?_
                  refine r_istore X152.here hx (hb hby at_257) (l' := #[.val (.int sel), .val (.long rawV), .second, .val (.int rawScale), .val (.int f), .val (.int sc), .val (.long ((sc.toInt64) - (f.toInt64))), .second, .val (.long pd), .second, .val (.int vm), .val (.long v), .second, .val (.ref b133), .val (.int (own_fit f (if f.toInt < 0 then 0 else v) sc)), .val (.int (0 : Int32)), .val (.long (v * pd)), .second]) rfl (pc' := 259) rfl ?_
                  refine r_iload X152.here hx (hb hby at_259) rfl (pc' := 261) rfl ?_
                  refine r_iload X152.here hx (hb hby at_261) rfl (pc' := 263) rfl ?_
                  refine r_if_ne X152.here hx (hb hby at_263) (by decide) (pc' := 270) (by decide) (pc2 := 266) rfl (fun hc263 => absurd (by have z0 : (0 : Int64).toInt = 0 := rfl; have z18 : (18 : Int64).toInt = 18 := rfl; have zi : (0 : Int32).toInt = 0 := rfl; rw [dd] at hc207 hc216; have pr := own_pr (sc.toInt - f.toInt).toNat (by omega); have hp := hpd (by omega) (by omega); unfold own_fit; rw [if_neg (by omega), if_neg (show ¬ f.toInt < 0 by omega)]; subst hp; rw [if_pos ((own_law v _ pr.1 pr.2.1 pr.2.2).mpr (Or.inr hc249))]) hc263) (fun hc263 => ?_)
                  refine r_iconst X152.here hx (hb hby at_266) (v := 1) rfl (pc' := 267) rfl ?_
                  refine r_goto X152.here hx (hb hby at_267) (by decide) (pc' := 271) (by decide) ?_
                  refine r_retN X152 hx hlk hret (by simp) (hb hby at_271) (w := (1 : Int32)) rfl ?_ (by decide) (by decide)
                  try rw [e152]
                  exact ⟨rfl, N152⟩
                · refine r_iconst X152.here hx (hb hby at_252) (v := 1) rfl (pc' := 253) rfl ?_
                  refine r_goto X152.here hx (hb hby at_253) (by decide) (pc' := 257) (by decide) ?_
                  refine r_istore X152.here hx (hb hby at_257) (l' := #[.val (.int sel), .val (.long rawV), .second, .val (.int rawScale), .val (.int f), .val (.int sc), .val (.long ((sc.toInt64) - (f.toInt64))), .second, .val (.long pd), .second, .val (.int vm), .val (.long v), .second, .val (.ref b133), .val (.int (own_fit f (if f.toInt < 0 then 0 else v) sc)), .val (.int (1 : Int32)), .val (.long (v * pd)), .second]) rfl (pc' := 259) rfl ?_
                  refine r_iload X152.here hx (hb hby at_259) rfl (pc' := 261) rfl ?_
                  refine r_iload X152.here hx (hb hby at_261) rfl (pc' := 263) rfl ?_
                  refine r_if_ne X152.here hx (hb hby at_263) (by decide) (pc' := 270) (by decide) (pc2 := 266) rfl (fun hc263 => absurd (by have z0 : (0 : Int64).toInt = 0 := rfl; have z18 : (18 : Int64).toInt = 18 := rfl; have zi : (0 : Int32).toInt = 0 := rfl; rw [dd] at hc207 hc216; have pr := own_pr (sc.toInt - f.toInt).toNat (by omega); have hp := hpd (by omega) (by omega); unfold own_fit; rw [if_neg (by omega), if_neg (show ¬ f.toInt < 0 by omega)]; subst hp; rw [if_neg (fun q => ((own_law v _ pr.1 pr.2.1 pr.2.2).mp q).elim hc238 hc249)]) hc263) (fun hc263 => ?_)
                  refine r_iconst X152.here hx (hb hby at_266) (v := 1) rfl (pc' := 267) rfl ?_
                  refine r_goto X152.here hx (hb hby at_267) (by decide) (pc' := 271) (by decide) ?_
                  refine r_retN X152 hx hlk hret (by simp) (hb hby at_271) (w := (1 : Int32)) rfl ?_ (by decide) (by decide)
                  try rw [e152]
                  exact ⟨rfl, N152⟩
            · refine r_iconst X152.here hx (hb hby at_219) (v := 0) rfl (pc' := 220) rfl ?_
              refine r_istore X152.here hx (hb hby at_220) (l' := #[.val (.int sel), .val (.long rawV), .second, .val (.int rawScale), .val (.int f), .val (.int sc), .val (.long ((sc.toInt64) - (f.toInt64))), .second, .val (.long pd), .second, .val (.int vm), .val (.long v), .second, .val (.ref b133), .val (.int (own_fit f (if f.toInt < 0 then 0 else v) sc)), .val (.int (0 : Int32)), .unset, .unset]) rfl (pc' := 222) rfl ?_
              refine r_goto X152.here hx (hb hby at_222) (by decide) (pc' := 259) (by decide) ?_
              refine r_iload X152.here hx (hb hby at_259) rfl (pc' := 261) rfl ?_
              refine r_iload X152.here hx (hb hby at_261) rfl (pc' := 263) rfl ?_
              refine r_if_ne X152.here hx (hb hby at_263) (by decide) (pc' := 270) (by decide) (pc2 := 266) rfl (fun hc263 => absurd (by have z0 : (0 : Int64).toInt = 0 := rfl; have z18 : (18 : Int64).toInt = 18 := rfl; have zi : (0 : Int32).toInt = 0 := rfl; rw [dd] at hc216; unfold own_fit; rw [if_pos (by omega)]) hc263) (fun hc263 => ?_)
              refine r_iconst X152.here hx (hb hby at_266) (v := 1) rfl (pc' := 267) rfl ?_
              refine r_goto X152.here hx (hb hby at_267) (by decide) (pc' := 271) (by decide) ?_
              refine r_retN X152 hx hlk hret (by simp) (hb hby at_271) (w := (1 : Int32)) rfl ?_ (by decide) (by decide)
              try rw [e152]
              exact ⟨rfl, N152⟩
        · refine r_iconst X152.here hx (hb hby at_197) (v := 0) rfl (pc' := 198) rfl ?_
          refine r_istore X152.here hx (hb hby at_198) (l' := #[.val (.int sel), .val (.long rawV), .second, .val (.int rawScale), .val (.int f), .val (.int sc), .val (.long ((sc.toInt64) - (f.toInt64))), .second, .val (.long pd), .second, .val (.int vm), .val (.long v), .second, .val (.ref b133), .val (.int (own_fit f (if f.toInt < 0 then 0 else v) sc)), .val (.int (0 : Int32)), .unset, .unset]) rfl (pc' := 200) rfl ?_
          refine r_goto X152.here hx (hb hby at_200) (by decide) (pc' := 259) (by decide) ?_
          refine r_iload X152.here hx (hb hby at_259) rfl (pc' := 261) rfl ?_
          refine r_iload X152.here hx (hb hby at_261) rfl (pc' := 263) rfl ?_
          refine r_if_ne X152.here hx (hb hby at_263) (by decide) (pc' := 270) (by decide) (pc2 := 266) rfl (fun hc263 => absurd (by have z0 : (0 : Int64).toInt = 0 := rfl; have z18 : (18 : Int64).toInt = 18 := rfl; have zi : (0 : Int32).toInt = 0 := rfl; unfold own_fit; rw [if_pos (by omega)]) hc263) (fun hc263 => ?_)
          refine r_iconst X152.here hx (hb hby at_266) (v := 1) rfl (pc' := 267) rfl ?_
          refine r_goto X152.here hx (hb hby at_267) (by decide) (pc' := 271) (by decide) ?_
          refine r_retN X152 hx hlk hret (by simp) (hb hby at_271) (w := (1 : Int32)) rfl ?_ (by decide) (by decide)
          try rw [e152]
          exact ⟨rfl, N152⟩
      have Jb : ∀ (vm : Int32) (v : Int64) (b1 b2 : Int64), Run p e below (fun v h L => v = some (.int 1) ∧ Fr n0 L) (fun o t L => FrameEnd s o t L 16 128) T7 (mkF m 163 #[.val (.int sel), .val (.long rawV), .second, .val (.int rawScale), .val (.int f), .val (.int sc), .val (.long ((sc.toInt64) - (f.toInt64))), .second, .val (.long pd), .second, .val (.int vm), .val (.long v), .second, .val (.long b1), .second, .val (.long b2), .second, .unset] []) := by
        intro vm v b1 b2
        refine r_new X7 hx hZ hown (hw _ (List.mem_of_getElem? (i := 25) rfl)) (hw _ (List.mem_of_getElem? (i := 26) rfl)) (hw _ (List.mem_of_getElem? (i := 27) rfl)) rfl (by decide) (by decide) (hb hby at_163) (pc' := 166) rfl (fun T153 h153 b153 g153 X153 e153 E153 A153 D153 => ?_)
        have ne154 : b153 ≠ pt := by have q := A7.lt; rw [← g153] at q; exact Nat.ne_of_gt q
        have ge155 : n0 ≤ b153 := by rw [g153]; exact Z7
        have f156 := own_staExt S7 E153
        have f157 := A7.ext E153
        have Z158 : n0 ≤ h153.size := by have q := Z7; exact Nat.le_trans q E153.1
        have f159 : Fld Z h153 b153 "com/example/floe/floe/model/ExactSum" "form" "B" (.int (0 : Int32)) := D153 (Or.inl (hw _ (List.mem_of_getElem? (i := 35) rfl))) (ty := .byte) (by decide)
        have f160 : Fld Z h153 b153 "com/example/floe/floe/model/ExactSum" "unscaled" "J" (.long (0 : Int64)) := D153 (Or.inl (hw _ (List.mem_of_getElem? (i := 42) rfl))) (ty := .long) (by decide)
        have f161 : Fld Z h153 b153 "com/example/floe/floe/model/ExactSum" "big" "Ljava/math/BigDecimal;" .null := D153 (Or.inl (hw _ (List.mem_of_getElem? (i := 44) rfl))) (ty := (.object "java/math/BigDecimal")) (by decide)
        refine r_dup X153.here hx (hb hby at_166) rfl (pc' := 167) rfl ?_
        refine r_callI X153 hx hZ (y := (⟨"com/example/floe/floe/model/ExactSum", "<init>", "()V"⟩ : MethodName)) (rm := ({ frames := 1, cells := 0, slots := 0, locals := 12 } : Room)) hown rfl (hw _ (List.mem_of_getElem? (i := 28) rfl)) (hw _ (List.mem_of_getElem? (i := 29) rfl)) (hw _ (List.mem_of_getElem? (i := 27) rfl)) (hw _ (List.mem_of_getElem? (i := 30) rfl)) (by decide) (rmI l Z a0 hw [] b153 h153 n0 Z158 ge155 A153 f159 f160 f161) e153 (by rw [hml]; rfl) (argsL := []) (rest := [(.ref b153)]) (lenOf pd_0 rfl) rfl rfl (W := 1) rfl (by decide) (by decide) (by decide) (by decide) (hb hby at_167) (pc' := 170) rfl ?_
        rintro v162 T162 L162 X162 ⟨rfl, Nq162, K162, Ff162, Fu162, Fb162⟩
        have N162 := Fr.app N7 Nq162
        show Run p e below _ _ T162 (mkF m 170 #[.val (.int sel), .val (.long rawV), .second, .val (.int rawScale), .val (.int f), .val (.int sc), .val (.long ((sc.toInt64) - (f.toInt64))), .second, .val (.long pd), .second, .val (.int vm), .val (.long v), .second, .val (.long b1), .second, .val (.long b2), .second, .unset] [(.ref b153)])
        have f163 := own_staKeep f156 K162 (allS (own_exaS A153) all0)
        have f164 := f157.keep K162 (ninS (Ne.symm ne154) nin0)
        have f165 := A153.keep K162
        have Z166 : n0 ≤ T162.heap.size := by have q := Z158; exact Nat.le_trans q K162.1
        refine r_astore X162.here hx (hb hby at_170) rfl (l' := #[.val (.int sel), .val (.long rawV), .second, .val (.int rawScale), .val (.int f), .val (.int sc), .val (.long ((sc.toInt64) - (f.toInt64))), .second, .val (.long pd), .second, .val (.int vm), .val (.long v), .second, .val (.ref b153), .unset, .val (.long b2), .second, .unset]) rfl (pc' := 172) rfl ?_
        refine r_aload X162.here hx (hb hby at_172) rfl rfl (pc' := 174) rfl ?_
        refine r_iload X162.here hx (hb hby at_174) rfl (pc' := 176) rfl ?_
        refine r_i2b X162.here hx (hb hby at_176) (pc' := 177) rfl ?_
        refine r_lload X162.here hx (hb hby at_177) rfl (pc' := 179) rfl ?_
        refine r_aconst_null X162.here hx (hb hby at_179) (pc' := 180) rfl ?_
        refine r_callV X162 hx hZ (y := (⟨"com/example/floe/floe/model/ExactSum", "set", "(BJLjava/math/BigDecimal;)V"⟩ : MethodName)) (z := (⟨"com/example/floe/floe/model/ExactSum", "set", "(BJLjava/math/BigDecimal;)V"⟩ : MethodName)) (rm := ({ frames := 0, cells := 0, slots := 0, locals := 0 } : Room)) hown (hw _ (List.mem_of_getElem? (i := 36) rfl)) (hw _ (List.mem_of_getElem? (i := 37) rfl)) (notFace_of_selects (args := #[]) (mvT hZ (hw _ (List.mem_of_getElem? (i := 39) rfl)))) (hw _ (List.mem_of_getElem? (i := 39) rfl)) (hw _ (List.mem_of_getElem? (i := 38) rfl)) (hw _ (List.mem_of_getElem? (i := 27) rfl)) (hw _ (List.mem_of_getElem? (i := 40) rfl)) (by decide) (rmSet l Z a0 hw [] b153 (f.toInt8.toInt32) v T162.heap n0 Z166 ge155 f165 Ff162 Fu162 Fb162 (by simp [nar])) rfl f165 (by rw [hml]; rfl) (argsL := [(.int (f.toInt8.toInt32)), (.long v), .null]) (rest := []) (lenOf pd_1 rfl) rfl rfl (W := 0) rfl (by decide) (by decide) (by decide) (by decide) (hb hby at_180) (pc' := 183) rfl ?_
        rintro v167 T167 L167 X167 ⟨rfl, Nq167, K167, Ff167, Fu167⟩
        have N167 := Fr.app N162 Nq167
        show Run p e below _ _ T167 (mkF m 183 #[.val (.int sel), .val (.long rawV), .second, .val (.int rawScale), .val (.int f), .val (.int sc), .val (.long ((sc.toInt64) - (f.toInt64))), .second, .val (.long pd), .second, .val (.int vm), .val (.long v), .second, .val (.ref b153), .unset, .val (.long b2), .second, .unset] [])
        have f168 := own_staKeep f163 K167 (allS (own_exaS f165) all0)
        have f169 := f164.keep K167 (ninS (Ne.symm ne154) nin0)
        have f170 := f165.keep K167
        have Z171 : n0 ≤ T167.heap.size := by have q := Z166; exact Nat.le_trans q K167.1
        rw [own_fb f (by omega) (by omega)] at Ff167 Fu167
        refine r_aload X167.here hx (hb hby at_183) rfl rfl (pc' := 185) rfl ?_
        refine r_iload X167.here hx (hb hby at_185) rfl (pc' := 187) rfl ?_
        refine r_callV X167 hx hZ (y := (⟨"com/example/floe/floe/model/ExactSum", "fitsLongAt", "(I)Z"⟩ : MethodName)) (z := (⟨"com/example/floe/floe/model/ExactSum", "fitsLongAt", "(I)Z"⟩ : MethodName)) (rm := ({ frames := 0, cells := 0, slots := 0, locals := 0 } : Room)) hown (hw _ (List.mem_of_getElem? (i := 45) rfl)) (hw _ (List.mem_of_getElem? (i := 46) rfl)) (notFace_of_selects (args := #[]) (mvT hZ (hw _ (List.mem_of_getElem? (i := 48) rfl)))) (hw _ (List.mem_of_getElem? (i := 48) rfl)) (hw _ (List.mem_of_getElem? (i := 47) rfl)) (hw _ (List.mem_of_getElem? (i := 27) rfl)) (hw _ (List.mem_of_getElem? (i := 49) rfl)) (by decide) (rmFit l Z a0 hw [] b153 pt f (if f.toInt < 0 then 0 else v) sc T167.heap n0 Z171 Ff167 Fu167 f168 f169 f1 f2) rfl f170 (by rw [hml]; rfl) (argsL := [(.int sc)]) (rest := []) (lenOf pd_2 rfl) rfl rfl (W := 0) rfl (by decide) (by decide) (by decide) (by decide) (hb hby at_187) (pc' := 190) rfl ?_
        rintro v172 T172 L172 X172 ⟨rfl, Nq172, e172⟩
        have N172 := Fr.app N167 Nq172
        show Run p e below _ _ T172 (mkF m 190 #[.val (.int sel), .val (.long rawV), .second, .val (.int rawScale), .val (.int f), .val (.int sc), .val (.long ((sc.toInt64) - (f.toInt64))), .second, .val (.long pd), .second, .val (.int vm), .val (.long v), .second, .val (.ref b153), .unset, .val (.long b2), .second, .unset] [(.int (own_fit f (if f.toInt < 0 then 0 else v) sc))])
        refine r_istore X172.here hx (hb hby at_190) (l' := #[.val (.int sel), .val (.long rawV), .second, .val (.int rawScale), .val (.int f), .val (.int sc), .val (.long ((sc.toInt64) - (f.toInt64))), .second, .val (.long pd), .second, .val (.int vm), .val (.long v), .second, .val (.ref b153), .val (.int (own_fit f (if f.toInt < 0 then 0 else v) sc)), .val (.long b2), .second, .unset]) rfl (pc' := 192) rfl ?_
        refine r_iload X172.here hx (hb hby at_192) rfl (pc' := 194) rfl ?_
        refine r_if0_ge X172.here hx (hb hby at_194) (by decide) (pc' := 203) (by decide) (pc2 := 197) rfl (fun hc194 => ?_) (fun hc194 => ?_)
        · refine r_lload X172.here hx (hb hby at_203) rfl (pc' := 205) rfl ?_
          refine r_lconst X172.here hx (hb hby at_205) (v := 0) rfl (pc' := 206) rfl ?_
          refine r_lcmp X172.here hx (hb hby at_206) (pc' := 207) rfl ?_
          refine r_ifL_lt X172.here hx (hb hby at_207) (by decide) (pc' := 219) (by decide) (pc2 := 210) rfl (fun hc207 => ?_) (fun hc207 => ?_)
          · refine r_iconst X172.here hx (hb hby at_219) (v := 0) rfl (pc' := 220) rfl ?_
            refine r_istore X172.here hx (hb hby at_220) (l' := #[.val (.int sel), .val (.long rawV), .second, .val (.int rawScale), .val (.int f), .val (.int sc), .val (.long ((sc.toInt64) - (f.toInt64))), .second, .val (.long pd), .second, .val (.int vm), .val (.long v), .second, .val (.ref b153), .val (.int (own_fit f (if f.toInt < 0 then 0 else v) sc)), .val (.int (0 : Int32)), .unset, .unset]) rfl (pc' := 222) rfl ?_
            refine r_goto X172.here hx (hb hby at_222) (by decide) (pc' := 259) (by decide) ?_
            refine r_iload X172.here hx (hb hby at_259) rfl (pc' := 261) rfl ?_
            refine r_iload X172.here hx (hb hby at_261) rfl (pc' := 263) rfl ?_
            refine r_if_ne X172.here hx (hb hby at_263) (by decide) (pc' := 270) (by decide) (pc2 := 266) rfl (fun hc263 => absurd (by have z0 : (0 : Int64).toInt = 0 := rfl; have z18 : (18 : Int64).toInt = 18 := rfl; have zi : (0 : Int32).toInt = 0 := rfl; rw [dd] at hc207; unfold own_fit; rw [if_pos (by omega)]) hc263) (fun hc263 => ?_)
            refine r_iconst X172.here hx (hb hby at_266) (v := 1) rfl (pc' := 267) rfl ?_
            refine r_goto X172.here hx (hb hby at_267) (by decide) (pc' := 271) (by decide) ?_
            refine r_retN X172 hx hlk hret (by simp) (hb hby at_271) (w := (1 : Int32)) rfl ?_ (by decide) (by decide)
            try rw [e172]
            exact ⟨rfl, N172⟩
          · refine r_lload X172.here hx (hb hby at_210) rfl (pc' := 212) rfl ?_
            refine r_ldc2 X172 hx hZ hown (hw _ (List.mem_of_getElem? (i := 1) rfl)) (hb hby at_212) (pc' := 215) rfl ?_
            refine r_lcmp X172.here hx (hb hby at_215) (pc' := 216) rfl ?_
            refine r_ifL_le X172.here hx (hb hby at_216) (by decide) (pc' := 225) (by decide) (pc2 := 219) rfl (fun hc216 => ?_) (fun hc216 => ?_)
            · refine r_lload X172.here hx (hb hby at_225) rfl (pc' := 227) rfl ?_
              refine r_lload X172.here hx (hb hby at_227) rfl (pc' := 229) rfl ?_
              refine r_lmul X172.here hx (hb hby at_229) (pc' := 230) rfl ?_
              refine r_lstore X172.here hx (hb hby at_230) (l' := #[.val (.int sel), .val (.long rawV), .second, .val (.int rawScale), .val (.int f), .val (.int sc), .val (.long ((sc.toInt64) - (f.toInt64))), .second, .val (.long pd), .second, .val (.int vm), .val (.long v), .second, .val (.ref b153), .val (.int (own_fit f (if f.toInt < 0 then 0 else v) sc)), .unset, .val (.long (v * pd)), .second]) rfl (pc' := 232) rfl ?_
              refine r_lload X172.here hx (hb hby at_232) rfl (pc' := 234) rfl ?_
              refine r_ldc2 X172 hx hZ hown (hw _ (List.mem_of_getElem? (i := 53) rfl)) (hb hby at_234) (pc' := 237) rfl ?_
              refine r_lcmp X172.here hx (hb hby at_237) (pc' := 238) rfl ?_
              refine r_ifL_eq X172.here hx (hb hby at_238) (by decide) (pc' := 256) (by decide) (pc2 := 241) rfl (fun hc238 => ?_) (fun hc238 => ?_)
              · refine r_iconst X172.here hx (hb hby at_256) (v := 0) rfl (pc' := 257) rfl ?_
                refine r_istore X172.here hx (hb hby at_257) (l' := #[.val (.int sel), .val (.long rawV), .second, .val (.int rawScale), .val (.int f), .val (.int sc), .val (.long ((sc.toInt64) - (f.toInt64))), .second, .val (.long pd), .second, .val (.int vm), .val (.long v), .second, .val (.ref b153), .val (.int (own_fit f (if f.toInt < 0 then 0 else v) sc)), .val (.int (0 : Int32)), .val (.long (v * pd)), .second]) rfl (pc' := 259) rfl ?_
                refine r_iload X172.here hx (hb hby at_259) rfl (pc' := 261) rfl ?_
                refine r_iload X172.here hx (hb hby at_261) rfl (pc' := 263) rfl ?_
                refine r_if_ne X172.here hx (hb hby at_263) (by decide) (pc' := 270) (by decide) (pc2 := 266) rfl (fun hc263 => absurd (by have z0 : (0 : Int64).toInt = 0 := rfl; have z18 : (18 : Int64).toInt = 18 := rfl; have zi : (0 : Int32).toInt = 0 := rfl; rw [dd] at hc207 hc216; have pr := own_pr (sc.toInt - f.toInt).toNat (by omega); have hp := hpd (by omega) (by omega); unfold own_fit; rw [if_neg (by omega), if_neg (show ¬ f.toInt < 0 by omega)]; subst hp; rw [if_pos ((own_law v _ pr.1 pr.2.1 pr.2.2).mpr (Or.inl hc238))]) hc263) (fun hc263 => ?_)
                refine r_iconst X172.here hx (hb hby at_266) (v := 1) rfl (pc' := 267) rfl ?_
                refine r_goto X172.here hx (hb hby at_267) (by decide) (pc' := 271) (by decide) ?_
                refine r_retN X172 hx hlk hret (by simp) (hb hby at_271) (w := (1 : Int32)) rfl ?_ (by decide) (by decide)
                try rw [e172]
                exact ⟨rfl, N172⟩
              · refine r_lload X172.here hx (hb hby at_241) rfl (pc' := 243) rfl ?_
                refine r_lload X172.here hx (hb hby at_243) rfl (pc' := 245) rfl ?_
                refine r_ldiv X172.here hx (hb hby at_245) hnz (pc' := 246) rfl ?_
                refine r_lload X172.here hx (hb hby at_246) rfl (pc' := 248) rfl ?_
                refine r_lcmp X172.here hx (hb hby at_248) (pc' := 249) rfl ?_
                refine r_ifL_ne X172.here hx (hb hby at_249) (by decide) (pc' := 256) (by decide) (pc2 := 252) rfl (fun hc249 => ?_) (fun hc249 => ?_)
                · refine r_iconst X172.here hx (hb hby at_256) (v := 0) rfl (pc' := 257) rfl ?_
                  refine r_istore X172.here hx (hb hby at_257) (l' := #[.val (.int sel), .val (.long rawV), .second, .val (.int rawScale), .val (.int f), .val (.int sc), .val (.long ((sc.toInt64) - (f.toInt64))), .second, .val (.long pd), .second, .val (.int vm), .val (.long v), .second, .val (.ref b153), .val (.int (own_fit f (if f.toInt < 0 then 0 else v) sc)), .val (.int (0 : Int32)), .val (.long (v * pd)), .second]) rfl (pc' := 259) rfl ?_
                  refine r_iload X172.here hx (hb hby at_259) rfl (pc' := 261) rfl ?_
                  refine r_iload X172.here hx (hb hby at_261) rfl (pc' := 263) rfl ?_
                  refine r_if_ne X172.here hx (hb hby at_263) (by decide) (pc' := 270) (by decide) (pc2 := 266) rfl (fun hc263 => absurd (by have z0 : (0 : Int64).toInt = 0 := rfl; have z18 : (18 : Int64).toInt = 18 := rfl; have zi : (0 : Int32).toInt = 0 := rfl; rw [dd] at hc207 hc216; have pr := own_pr (sc.toInt - f.toInt).toNat (by omega); have hp := hpd (by omega) (by omega); unfold own_fit; rw [if_neg (by omega), if_neg (show ¬ f.toInt < 0 by omega)]; subst hp; rw [if_pos ((own_law v _ pr.1 pr.2.1 pr.2.2).mpr (Or.inr hc249))]) hc263) (fun hc263 => ?_)
                  refine r_iconst X172.here hx (hb hby at_266) (v := 1) rfl (pc' := 267) rfl ?_
                  refine r_goto X172.here hx (hb hby at_267) (by decide) (pc' := 271) (by decide) ?_
                  refine r_retN X172 hx hlk hret (by simp) (hb hby at_271) (w := (1 : Int32)) rfl ?_ (by decide) (by decide)
                  try rw [e172]
                  exact ⟨rfl, N172⟩
                · refine r_iconst X172.here hx (hb hby at_252) (v := 1) rfl (pc' := 253) rfl ?_
                  refine r_goto X172.here hx (hb hby at_253) (by decide) (pc' := 257) (by decide) ?_
                  refine r_istore X172.here hx (hb hby at_257) (l' := #[.val (.int sel), .val (.long rawV), .second, .val (.int rawScale), .val (.int f), .val (.int sc), .val (.long ((sc.toInt64) - (f.toInt64))), .second, .val (.long pd), .second, .val (.int vm), .val (.long v), .second, .val (.ref b153), .val (.int (own_fit f (if f.toInt < 0 then 0 else v) sc)), .val (.int (1 : Int32)), .val (.long (v * pd)), .second]) rfl (pc' := 259) rfl ?_
                  refine r_iload X172.here hx (hb hby at_259) rfl (pc' := 261) rfl ?_
                  refine r_iload X172.here hx (hb hby at_261) rfl (pc' := 263) rfl ?_
                  refine r_if_ne X172.here hx (hb hby at_263) (by decide) (pc' := 270) (by decide) (pc2 := 266) rfl (fun hc263 => absurd (by have z0 : (0 : Int64).toInt = 0 := rfl; have z18 : (18 : Int64).toInt = 18 := rfl; have zi : (0 : Int32).toInt = 0 := rfl; rw [dd] at hc207 hc216; have pr := own_pr (sc.toInt - f.toInt).toNat (by omega); have hp := hpd (by omega) (by omega); unfold own_fit; rw [if_neg (by omega), if_neg (show ¬ f.toInt < 0 by omega)]; subst hp; rw [if_neg (fun q => ((own_law v _ pr.1 pr.2.1 pr.2.2).mp q).elim hc238 hc249)]) hc263) (fun hc263 => ?_)
                  refine r_iconst X172.here hx (hb hby at_266) (v := 1) rfl (pc' := 267) rfl ?_
                  refine r_goto X172.here hx (hb hby at_267) (by decide) (pc' := 271) (by decide) ?_
                  refine r_retN X172 hx hlk hret (by simp) (hb hby at_271) (w := (1 : Int32)) rfl ?_ (by decide) (by decide)
                  try rw [e172]
                  exact ⟨rfl, N172⟩
            · refine r_iconst X172.here hx (hb hby at_219) (v := 0) rfl (pc' := 220) rfl ?_
              refine r_istore X172.here hx (hb hby at_220) (l' := #[.val (.int sel), .val (.long rawV), .second, .val (.int rawScale), .val (.int f), .val (.int sc), .val (.long ((sc.toInt64) - (f.toInt64))), .second, .val (.long pd), .second, .val (.int vm), .val (.long v), .second, .val (.ref b153), .val (.int (own_fit f (if f.toInt < 0 then 0 else v) sc)), .val (.int (0 : Int32)), .unset, .unset]) rfl (pc' := 222) rfl ?_
              refine r_goto X172.here hx (hb hby at_222) (by decide) (pc' := 259) (by decide) ?_
              refine r_iload X172.here hx (hb hby at_259) rfl (pc' := 261) rfl ?_
              refine r_iload X172.here hx (hb hby at_261) rfl (pc' := 263) rfl ?_
              refine r_if_ne X172.here hx (hb hby at_263) (by decide) (pc' := 270) (by decide) (pc2 := 266) rfl (fun hc263 => absurd (by have z0 : (0 : Int64).toInt = 0 := rfl; have z18 : (18 : Int64).toInt = 18 := rfl; have zi : (0 : Int32).toInt = 0 := rfl; rw [dd] at hc216; unfold own_fit; rw [if_pos (by omega)]) hc263) (fun hc263 => ?_)
              refine r_iconst X172.here hx (hb hby at_266) (v := 1) rfl (pc' := 267) rfl ?_
              refine r_goto X172.here hx (hb hby at_267) (by decide) (pc' := 271) (by decide) ?_
              refine r_retN X172 hx hlk hret (by simp) (hb hby at_271) (w := (1 : Int32)) rfl ?_ (by decide) (by decide)
              try rw [e172]
              exact ⟨rfl, N172⟩
        · refine r_iconst X172.here hx (hb hby at_197) (v := 0) rfl (pc' := 198) rfl ?_
          refine r_istore X172.here hx (hb hby at_198) (l' := #[.val (.int sel), .val (.long rawV), .second, .val (.int rawScale), .val (.int f), .val (.int sc), .val (.long ((sc.toInt64) - (f.toInt64))), .second, .val (.long pd), .second, .val (.int vm), .val (.long v), .second, .val (.ref b153), .val (.int (own_fit f (if f.toInt < 0 then 0 else v) sc)), .val (.int (0 : Int32)), .unset, .unset]) rfl (pc' := 200) rfl ?_
          refine r_goto X172.here hx (hb hby at_200) (by decide) (pc' := 259) (by decide) ?_
          refine r_iload X172.here hx (hb hby at_259) rfl (pc' := 261) rfl ?_
          refine r_iload X172.here hx (hb hby at_261) rfl (pc' := 263) rfl ?_
          refine r_if_ne X172.here hx (hb hby at_263) (by decide) (pc' := 270) (by decide) (pc2 := 266) rfl (fun hc263 => absurd (by have z0 : (0 : Int64).toInt = 0 := rfl; have z18 : (18 : Int64).toInt = 18 := rfl; have zi : (0 : Int32).toInt = 0 := rfl; unfold own_fit; rw [if_pos (by omega)]) hc263) (fun hc263 => ?_)
          refine r_iconst X172.here hx (hb hby at_266) (v := 1) rfl (pc' := 267) rfl ?_
          refine r_goto X172.here hx (hb hby at_267) (by decide) (pc' := 271) (by decide) ?_
          refine r_retN X172 hx hlk hret (by simp) (hb hby at_271) (w := (1 : Int32)) rfl ?_ (by decide) (by decide)
          try rw [e172]
          exact ⟨rfl, N172⟩
      refine r_iloadN X7.here hx (hb hby at_70) rfl (pc' := 71) rfl ?_
      refine r_bipush X7.here hx (hb hby at_71) (v := 9) rfl (pc' := 73) rfl ?_
      refine r_iushr X7.here hx (hb hby at_73) (pc' := 74) rfl ?_
      refine r_iconst X7.here hx (hb hby at_74) (v := 3) rfl (pc' := 75) rfl ?_
      refine r_iand X7.here hx (hb hby at_75) (pc' := 76) rfl ?_
      refine r_istore X7.here hx (hb hby at_76) (l' := #[.val (.int sel), .val (.long rawV), .second, .val (.int rawScale), .val (.int f), .val (.int sc), .val (.long ((sc.toInt64) - (f.toInt64))), .second, .val (.long pd), .second, .val (.int ((ushrI sel (9 : Int32)) &&& (3 : Int32))), .unset, .unset, .unset, .unset, .unset, .unset, .unset]) rfl (pc' := 78) rfl ?_
      refine r_iload X7.here hx (hb hby at_78) rfl (pc' := 80) rfl ?_
      refine r_if0_ne X7.here hx (hb hby at_80) (by decide) (pc' := 89) (by decide) (pc2 := 83) rfl (fun hc80 => ?_) (fun hc80 => ?_)
      · refine r_iload X7.here hx (hb hby at_89) rfl (pc' := 91) rfl ?_
        refine r_iconst X7.here hx (hb hby at_91) (v := 1) rfl (pc' := 92) rfl ?_
        refine r_if_ne X7.here hx (hb hby at_92) (by decide) (pc' := 109) (by decide) (pc2 := 95) rfl (fun hc92 => ?_) (fun hc92 => ?_)
        · refine r_iload X7.here hx (hb hby at_109) rfl (pc' := 111) rfl ?_
          refine r_iconst X7.here hx (hb hby at_111) (v := 2) rfl (pc' := 112) rfl ?_
          refine r_if_ne X7.here hx (hb hby at_112) (by decide) (pc' := 152) (by decide) (pc2 := 115) rfl (fun hc112 => ?_) (fun hc112 => ?_)
          · refine r_ldc2 X7 hx hZ hown (hw _ (List.mem_of_getElem? (i := 53) rfl)) (hb hby at_152) (pc' := 155) rfl ?_
            refine r_lloadN X7.here hx (hb hby at_155) rfl (pc' := 156) rfl ?_
            refine r_ldc2 X7 hx hZ hown (hw _ (List.mem_of_getElem? (i := 55) rfl)) (hb hby at_156) (pc' := 159) rfl ?_
            refine r_land X7.here hx (hb hby at_159) (pc' := 160) rfl ?_
            refine r_ladd X7.here hx (hb hby at_160) (pc' := 161) rfl ?_
            refine r_lstore X7.here hx (hb hby at_161) (l' := #[.val (.int sel), .val (.long rawV), .second, .val (.int rawScale), .val (.int f), .val (.int sc), .val (.long ((sc.toInt64) - (f.toInt64))), .second, .val (.long pd), .second, .val (.int ((ushrI sel (9 : Int32)) &&& (3 : Int32))), .val (.long ((-9223372036854775808 : Int64) + (rawV &&& (3 : Int64)))), .second, .unset, .unset, .unset, .unset, .unset]) rfl (pc' := 163) rfl ?_
            exact Ja _ _
          · refine r_ldc2 X7 hx hZ hown (hw _ (List.mem_of_getElem? (i := 54) rfl)) (hb hby at_115) (pc' := 118) rfl ?_
            refine r_lload X7.here hx (hb hby at_118) rfl (pc' := 120) rfl ?_
            refine r_ldiv X7.here hx (hb hby at_120) hnz (pc' := 121) rfl ?_
            refine r_lstore X7.here hx (hb hby at_121) (l' := #[.val (.int sel), .val (.long rawV), .second, .val (.int rawScale), .val (.int f), .val (.int sc), .val (.long ((sc.toInt64) - (f.toInt64))), .second, .val (.long pd), .second, .val (.int ((ushrI sel (9 : Int32)) &&& (3 : Int32))), .unset, .unset, .val (.long ((9223372036854775807 : Int64) / pd)), .second, .unset, .unset, .unset]) rfl (pc' := 123) rfl ?_
            refine r_lloadN X7.here hx (hb hby at_123) rfl (pc' := 124) rfl ?_
            refine r_lconst X7.here hx (hb hby at_124) (v := 0) rfl (pc' := 125) rfl ?_
            refine r_lcmp X7.here hx (hb hby at_125) (pc' := 126) rfl ?_
            refine r_ifL_ge X7.here hx (hb hby at_126) (by decide) (pc' := 135) (by decide) (pc2 := 129) rfl (fun hc126 => ?_) (fun hc126 => ?_)
            · refine r_lload X7.here hx (hb hby at_135) rfl (pc' := 137) rfl ?_
              refine r_lstore X7.here hx (hb hby at_137) (l' := #[.val (.int sel), .val (.long rawV), .second, .val (.int rawScale), .val (.int f), .val (.int sc), .val (.long ((sc.toInt64) - (f.toInt64))), .second, .val (.long pd), .second, .val (.int ((ushrI sel (9 : Int32)) &&& (3 : Int32))), .unset, .unset, .val (.long ((9223372036854775807 : Int64) / pd)), .second, .val (.long ((9223372036854775807 : Int64) / pd)), .second, .unset]) rfl (pc' := 139) rfl ?_
              refine r_lload X7.here hx (hb hby at_139) rfl (pc' := 141) rfl ?_
              refine r_lloadN X7.here hx (hb hby at_141) rfl (pc' := 142) rfl ?_
              refine r_ldc2 X7 hx hZ hown (hw _ (List.mem_of_getElem? (i := 55) rfl)) (hb hby at_142) (pc' := 145) rfl ?_
              refine r_lrem0 X7.here hx (hb hby at_145) (by decide) (pc' := 146) rfl ?_
              refine r_ladd X7.here hx (hb hby at_146) (pc' := 147) rfl ?_
              refine r_lstore X7.here hx (hb hby at_147) (l' := #[.val (.int sel), .val (.long rawV), .second, .val (.int rawScale), .val (.int f), .val (.int sc), .val (.long ((sc.toInt64) - (f.toInt64))), .second, .val (.long pd), .second, .val (.int ((ushrI sel (9 : Int32)) &&& (3 : Int32))), .val (.long (((9223372036854775807 : Int64) / pd) + (rawV - (rawV / (3 : Int64)) * (3 : Int64)))), .second, .val (.long ((9223372036854775807 : Int64) / pd)), .second, .val (.long ((9223372036854775807 : Int64) / pd)), .second, .unset]) rfl (pc' := 149) rfl ?_
              refine r_goto X7.here hx (hb hby at_149) (by decide) (pc' := 163) (by decide) ?_
              exact Jb _ _ _ _
            · refine r_lload X7.here hx (hb hby at_129) rfl (pc' := 131) rfl ?_
              refine r_lneg X7.here hx (hb hby at_131) (pc' := 132) rfl ?_
              refine r_goto X7.here hx (hb hby at_132) (by decide) (pc' := 137) (by decide) ?_
              refine r_lstore X7.here hx (hb hby at_137) (l' := #[.val (.int sel), .val (.long rawV), .second, .val (.int rawScale), .val (.int f), .val (.int sc), .val (.long ((sc.toInt64) - (f.toInt64))), .second, .val (.long pd), .second, .val (.int ((ushrI sel (9 : Int32)) &&& (3 : Int32))), .unset, .unset, .val (.long ((9223372036854775807 : Int64) / pd)), .second, .val (.long (-((9223372036854775807 : Int64) / pd))), .second, .unset]) rfl (pc' := 139) rfl ?_
              refine r_lload X7.here hx (hb hby at_139) rfl (pc' := 141) rfl ?_
              refine r_lloadN X7.here hx (hb hby at_141) rfl (pc' := 142) rfl ?_
              refine r_ldc2 X7 hx hZ hown (hw _ (List.mem_of_getElem? (i := 55) rfl)) (hb hby at_142) (pc' := 145) rfl ?_
              refine r_lrem0 X7.here hx (hb hby at_145) (by decide) (pc' := 146) rfl ?_
              refine r_ladd X7.here hx (hb hby at_146) (pc' := 147) rfl ?_
              refine r_lstore X7.here hx (hb hby at_147) (l' := #[.val (.int sel), .val (.long rawV), .second, .val (.int rawScale), .val (.int f), .val (.int sc), .val (.long ((sc.toInt64) - (f.toInt64))), .second, .val (.long pd), .second, .val (.int ((ushrI sel (9 : Int32)) &&& (3 : Int32))), .val (.long ((-((9223372036854775807 : Int64) / pd)) + (rawV - (rawV / (3 : Int64)) * (3 : Int64)))), .second, .val (.long ((9223372036854775807 : Int64) / pd)), .second, .val (.long (-((9223372036854775807 : Int64) / pd))), .second, .unset]) rfl (pc' := 149) rfl ?_
              refine r_goto X7.here hx (hb hby at_149) (by decide) (pc' := 163) (by decide) ?_
              exact Jb _ _ _ _
        · refine r_lloadN X7.here hx (hb hby at_95) rfl (pc' := 96) rfl ?_
          refine r_iloadN X7.here hx (hb hby at_96) rfl (pc' := 97) rfl ?_
          refine r_bipush X7.here hx (hb hby at_97) (v := 11) rfl (pc' := 99) rfl ?_
          refine r_iushr X7.here hx (hb hby at_99) (pc' := 100) rfl ?_
          refine r_bipush X7.here hx (hb hby at_100) (v := 63) rfl (pc' := 102) rfl ?_
          refine r_iand X7.here hx (hb hby at_102) (pc' := 103) rfl ?_
          refine r_lshr X7.here hx (hb hby at_103) (pc' := 104) rfl ?_
          refine r_lstore X7.here hx (hb hby at_104) (l' := #[.val (.int sel), .val (.long rawV), .second, .val (.int rawScale), .val (.int f), .val (.int sc), .val (.long ((sc.toInt64) - (f.toInt64))), .second, .val (.long pd), .second, .val (.int ((ushrI sel (9 : Int32)) &&& (3 : Int32))), .val (.long (rawV >>> (((ushrI sel (11 : Int32)) &&& (63 : Int32)) &&& 63).toInt64)), .second, .unset, .unset, .unset, .unset, .unset]) rfl (pc' := 106) rfl ?_
          refine r_goto X7.here hx (hb hby at_106) (by decide) (pc' := 163) (by decide) ?_
          exact Ja _ _
      · refine r_lloadN X7.here hx (hb hby at_83) rfl (pc' := 84) rfl ?_
        refine r_lstore X7.here hx (hb hby at_84) (l' := #[.val (.int sel), .val (.long rawV), .second, .val (.int rawScale), .val (.int f), .val (.int sc), .val (.long ((sc.toInt64) - (f.toInt64))), .second, .val (.long pd), .second, .val (.int ((ushrI sel (9 : Int32)) &&& (3 : Int32))), .val (.long rawV), .second, .unset, .unset, .unset, .unset, .unset]) rfl (pc' := 86) rfl ?_
        refine r_goto X7.here hx (hb hby at_86) (by decide) (pc' := 163) (by decide) ?_
        exact Ja _ _
    refine r_iload X0.here hx (hb hby at_33) rfl (pc' := 35) rfl ?_
    refine r_i2l X0.here hx (hb hby at_35) (pc' := 36) rfl ?_
    refine r_iload X0.here hx (hb hby at_36) rfl (pc' := 38) rfl ?_
    refine r_i2l X0.here hx (hb hby at_38) (pc' := 39) rfl ?_
    refine r_lsub X0.here hx (hb hby at_39) (pc' := 40) rfl ?_
    refine r_lstore X0.here hx (hb hby at_40) (l' := #[.val (.int sel), .val (.long rawV), .second, .val (.int rawScale), .val (.int f), .val (.int sc), .val (.long ((sc.toInt64) - (f.toInt64))), .second, .unset, .unset, .unset, .unset, .unset, .unset, .unset, .unset, .unset, .unset]) rfl (pc' := 42) rfl ?_
    refine r_lload X0.here hx (hb hby at_42) rfl (pc' := 44) rfl ?_
    refine r_lconst X0.here hx (hb hby at_44) (v := 0) rfl (pc' := 45) rfl ?_
    refine r_lcmp X0.here hx (hb hby at_45) (pc' := 46) rfl ?_
    refine r_ifL_lt X0.here hx (hb hby at_46) (by decide) (pc' := 67) (by decide) (pc2 := 49) rfl (fun hc46 => ?_) (fun hc46 => ?_)
    · refine r_lconst X0.here hx (hb hby at_67) (v := 1) rfl (pc' := 68) rfl ?_
      refine r_lstore X0.here hx (hb hby at_68) (l' := #[.val (.int sel), .val (.long rawV), .second, .val (.int rawScale), .val (.int f), .val (.int sc), .val (.long ((sc.toInt64) - (f.toInt64))), .second, .val (.long (1 : Int64)), .second, .unset, .unset, .unset, .unset, .unset, .unset, .unset, .unset]) rfl (pc' := 70) rfl ?_
      have z0 : (0 : Int64).toInt = 0 := rfl
      have z18 : (18 : Int64).toInt = 18 := rfl
      rw [dd] at hc46
      exact J70 _ _ _ (X0.more (by decide) (by decide)) N0 (by rw [e0]; exact Z0) (by rw [e0]; exact Sp) (by rw [e0]; exact Ap) (by decide) (fun q1 q2 => absurd hc46 (by omega))
    · refine r_lload X0.here hx (hb hby at_49) rfl (pc' := 51) rfl ?_
      refine r_ldc2 X0 hx hZ hown (hw _ (List.mem_of_getElem? (i := 1) rfl)) (hb hby at_51) (pc' := 54) rfl ?_
      refine r_lcmp X0.here hx (hb hby at_54) (pc' := 55) rfl ?_
      refine r_ifL_gt X0.here hx (hb hby at_55) (by decide) (pc' := 67) (by decide) (pc2 := 58) rfl (fun hc55 => ?_) (fun hc55 => ?_)
      · refine r_lconst X0.here hx (hb hby at_67) (v := 1) rfl (pc' := 68) rfl ?_
        refine r_lstore X0.here hx (hb hby at_68) (l' := #[.val (.int sel), .val (.long rawV), .second, .val (.int rawScale), .val (.int f), .val (.int sc), .val (.long ((sc.toInt64) - (f.toInt64))), .second, .val (.long (1 : Int64)), .second, .unset, .unset, .unset, .unset, .unset, .unset, .unset, .unset]) rfl (pc' := 70) rfl ?_
        have z0 : (0 : Int64).toInt = 0 := rfl
        have z18 : (18 : Int64).toInt = 18 := rfl
        rw [dd] at hc55
        exact J70 _ _ _ (X0.more (by decide) (by decide)) N0 (by rw [e0]; exact Z0) (by rw [e0]; exact Sp) (by rw [e0]; exact Ap) (by decide) (fun q1 q2 => absurd hc55 (by omega))
      · refine r_lload X0.here hx (hb hby at_58) rfl (pc' := 60) rfl ?_
        refine r_l2i X0.here hx (hb hby at_60) (pc' := 61) rfl ?_
        have z0 : (0 : Int64).toInt = 0 := rfl
        have z18 : (18 : Int64).toInt = 18 := rfl
        rw [dd] at hc46 hc55
        have d0 : (((sc.toInt64) - (f.toInt64)).toInt32).toInt = sc.toInt - f.toInt := by have := c_l2i ((sc.toInt64) - (f.toInt64)); have := own_ri (((sc.toInt64) - (f.toInt64)).toInt32); omega
        refine r_callS X0 hx hZ (y := (⟨"com/example/floe/floe/model/ExactSumFitsLongAtPinLaw", "pow", "(I)J"⟩ : MethodName)) (rm := ({ frames := 0, cells := 1, slots := 19, locals := 0 } : Room)) hown (hw _ (List.mem_of_getElem? (i := 2) rfl)) (hw _ (List.mem_of_getElem? (i := 3) rfl)) (hw _ (List.mem_of_getElem? (i := 4) rfl)) (hw _ (List.mem_of_getElem? (i := 5) rfl)) (by decide) (rmPow l Z a0 hw [] (((sc.toInt64) - (f.toInt64)).toInt32) h0 n0 Z0 (by omega) (by omega)) e0 (by rw [hml]; rfl) (argsL := [(.int (((sc.toInt64) - (f.toInt64)).toInt32))]) (rest := []) (lenOf pd_3 rfl) rfl rfl (W := 0) rfl (by decide) (by decide) (by decide) (by decide) (hb hby at_61) (pc' := 64) rfl ?_
        rintro v173 T173 L173 X173 ⟨rfl, Nq173, K173⟩
        have N173 := Fr.app N0 Nq173
        show Run p e below _ _ T173 (mkF m 64 #[.val (.int sel), .val (.long rawV), .second, .val (.int rawScale), .val (.int f), .val (.int sc), .val (.long ((sc.toInt64) - (f.toInt64))), .second, .unset, .unset, .unset, .unset, .unset, .unset, .unset, .unset, .unset, .unset] [(.long (own_p (((sc.toInt64) - (f.toInt64)).toInt32).toInt.toNat))])
        have f174 := own_staKeep Sp K173 (all0)
        have f175 := Ap.keep K173 nin0
        have Z176 : n0 ≤ T173.heap.size := by have q := Z0; exact Nat.le_trans q K173.1
        refine r_goto X173.here hx (hb hby at_64) (by decide) (pc' := 68) (by decide) ?_
        refine r_lstore X173.here hx (hb hby at_68) (l' := #[.val (.int sel), .val (.long rawV), .second, .val (.int rawScale), .val (.int f), .val (.int sc), .val (.long ((sc.toInt64) - (f.toInt64))), .second, .val (.long (own_p (((sc.toInt64) - (f.toInt64)).toInt32).toInt.toNat)), .second, .unset, .unset, .unset, .unset, .unset, .unset, .unset, .unset]) rfl (pc' := 70) rfl ?_
        exact J70 _ _ _ X173 N173 Z176 f174 f175 (own_pnz _ (by rw [d0]; omega)) (fun _ _ => by rw [d0])
  refine r_iloadN X0.here hx (hb hby at_0) rfl (pc' := 1) rfl ?_
  refine r_ldc X0 hx hZ hown (hw _ (List.mem_of_getElem? (i := 0) rfl)) (hb hby at_1) (pc' := 3) rfl ?_
  refine r_iand X0.here hx (hb hby at_3) (pc' := 4) rfl ?_
  refine r_bipush X0.here hx (hb hby at_4) (v := 21) rfl (pc' := 6) rfl ?_
  refine r_irem X0.here hx (hb hby at_6) (by decide) (pc' := 7) rfl ?_
  refine r_iconst X0.here hx (hb hby at_7) (v := 2) rfl (pc' := 8) rfl ?_
  refine r_isub X0.here hx (hb hby at_8) (pc' := 9) rfl ?_
  refine r_istore X0.here hx (hb hby at_9) (l' := #[.val (.int sel), .val (.long rawV), .second, .val (.int rawScale), .val (.int (((sel &&& (2147483647 : Int32)) % (21 : Int32)) - (2 : Int32))), .unset, .unset, .unset, .unset, .unset, .unset, .unset, .unset, .unset, .unset, .unset, .unset, .unset]) rfl (pc' := 11) rfl ?_
  refine r_iloadN X0.here hx (hb hby at_11) rfl (pc' := 12) rfl ?_
  refine r_bipush X0.here hx (hb hby at_12) (v := 8) rfl (pc' := 14) rfl ?_
  refine r_iushr X0.here hx (hb hby at_14) (pc' := 15) rfl ?_
  refine r_iconst X0.here hx (hb hby at_15) (v := 1) rfl (pc' := 16) rfl ?_
  refine r_iand X0.here hx (hb hby at_16) (pc' := 17) rfl ?_
  refine r_if0_eq X0.here hx (hb hby at_17) (by decide) (pc' := 24) (by decide) (pc2 := 20) rfl (fun hc17 => ?_) (fun hc17 => ?_)
  · refine r_iload X0.here hx (hb hby at_24) rfl (pc' := 26) rfl ?_
    refine r_iloadN X0.here hx (hb hby at_26) rfl (pc' := 27) rfl ?_
    refine r_bipush X0.here hx (hb hby at_27) (v := 23) rfl (pc' := 29) rfl ?_
    refine r_irem X0.here hx (hb hby at_29) (by decide) (pc' := 30) rfl ?_
    refine r_iadd X0.here hx (hb hby at_30) (pc' := 31) rfl ?_
    refine r_istore X0.here hx (hb hby at_31) (l' := #[.val (.int sel), .val (.long rawV), .second, .val (.int rawScale), .val (.int (((sel &&& (2147483647 : Int32)) % (21 : Int32)) - (2 : Int32))), .val (.int ((((sel &&& (2147483647 : Int32)) % (21 : Int32)) - (2 : Int32)) + (rawScale % (23 : Int32)))), .unset, .unset, .unset, .unset, .unset, .unset, .unset, .unset, .unset, .unset, .unset, .unset]) rfl (pc' := 33) rfl ?_
    exact J33 _ _ fr.1 fr.2
  · refine r_iloadN X0.here hx (hb hby at_20) rfl (pc' := 21) rfl ?_
    refine r_goto X0.here hx (hb hby at_21) (by decide) (pc' := 31) (by decide) ?_
    refine r_istore X0.here hx (hb hby at_31) (l' := #[.val (.int sel), .val (.long rawV), .second, .val (.int rawScale), .val (.int (((sel &&& (2147483647 : Int32)) % (21 : Int32)) - (2 : Int32))), .val (.int rawScale), .unset, .unset, .unset, .unset, .unset, .unset, .unset, .unset, .unset, .unset, .unset, .unset]) rfl (pc' := 33) rfl ?_
    exact J33 _ _ fr.1 fr.2
theorem own_len {args : Array Value} {Z : State} {t : Term} {a : Addr} {cl : Cell} {ty : FieldType} {k : Int32} (ev : t.eval args Z none [] Z = some (.ref a)) (A : Arr Z Z.heap a cl ty) (h : (Jvm.Cond.eq (.length t) (.int k)).value args Z none Z [] = some true) : cl.slots.size.toInt32 = k ∧ cl.slots.size < 2 ^ 31 := by
  have ha := A.fin (Vm.Alike.refl _)
  have e2 : (Term.int k).eval args Z none [] Z = some (.int k) := rfl
  by_cases hl : cl.slots.size < 2 ^ 31
  · have e := len_f ev ha hl
    simp only [Cond.value, e, e2] at h
    exact ⟨by simpa using h, hl⟩
  · have e : (Term.length t).eval args Z none [] Z = none := by simp [Term.eval, ev, ha, hl]
    simp [Cond.value, e, e2] at h
theorem own_el {args : Array Value} {Z : State} {t : Term} {a : Addr} {cl : Cell} {ty : FieldType} {j : Int32} {k : Int64} (ev : t.eval args Z none [] Z = some (.ref a)) (A : Arr Z Z.heap a cl ty) (hj : ¬ j < 0) (h : (Jvm.Cond.eq (.elem t (.int j)) (.long k)).value args Z none Z [] = some true) : cl.slots[j.toNatClampNeg]? = some (.long k) := by
  have ha := A.fin (Vm.Alike.refl _)
  have e1 : (Term.int j).eval args Z none [] Z = some (.int j) := rfl
  have e2 : (Term.long k).eval args Z none [] Z = some (.long k) := rfl
  have e := elem_f ev e1 ha hj
  cases hf : cl.slots[j.toNatClampNeg]? with
  | none => rw [hf] at e; simp [Cond.value, e, e2] at h
  | some w => rw [hf] at e; cases w <;> simp [Cond.value, e, e2] at h <;> simp [h]
theorem own_pow19 {args : Array Value} {Z : State} {t : Term} {a : Addr} {cl : Cell} {f : Nat → Value} (ev : t.eval args Z none [] Z = some (.ref a)) (A : Arr Z Z.heap a cl .long) (h : (Jvm.Cond.eq (.length t) (.int 19)).value args Z none Z [] = some true) (hf : ∀ i, i < 19 → cl.slots[i]? = some (f i)) : Ary Z Z.heap a .long 19 f := by
  obtain ⟨h1, h2⟩ := own_len ev A h
  refine ⟨cl, A, ?_, hf⟩
  have := len_toInt h2
  rw [h1] at this
  have l : (19 : Int32).toInt = 19 := rfl
  omega
set_option maxRecDepth 65536 in
set_option maxHeartbeats 40000000 in
theorem comes_1 {Post : Tables → Env → Array Value → State → Outcome → State → Prop} (hpost : ∀ tb e args s v u, (limb_1_1.after args s (.returned v) u = true ∧ limb_1_2.after args s (.returned v) u = true ∧ True) → FrameEnd s (.returned v) u (Jvm.fieldLocs frame_1_writes args s ++ Jvm.arrayLocs frame_1_arrays args s ++ Jvm.staticLocs frame_1_statics s) 16 128 → Post tb e args s (.returned v) u) :
    ArmFor flags0 classFile x code maxLocals ret World_1 tables_1 room_1 Calls_1 rest_1 Pre_1 Post := by
  intro l hfl _ _ p e ha hc hk s m args below hf hA hF happ hP
  obtain ⟨hcalls, hrest, hpre⟩ := hP
  obtain ⟨-, -, -, hnamed, -, -, -, hat⟩ := (Spec.applies_iff hf).mp happ
  obtain ⟨hg, hn⟩ := and_e (Cond.before_iff.mp (show (Jvm.Cond.and given_1 narrow_1).before args s = true from hpre))
  obtain ⟨h1, g0⟩ := and_e hg
  obtain ⟨q0, g1⟩ := and_e g0
  obtain ⟨q1, g2⟩ := and_e g1
  have q2 := g2
  obtain ⟨w0, w1, w2, rfl⟩ : ∃ w0 w1 w2 : Value, args = #[w0, w1, w2] := by
    have hs : args.size = 3 := by simpa [Cond.value, given_1] using h1
    obtain ⟨L⟩ := args
    match L, hs with
    | [w0, w1, w2], _ => exact ⟨w0, w1, w2, rfl⟩
  have hw := fun d (hd : d ∈ tables_1) => atoms_spec (ws := Jvm.Cond.code x code maxLocals ret :: tables_1) hat d (List.mem_cons_of_mem _ hd)
  have hfit : Fit s := fun {y c} hc i hi => by
    obtain ⟨ha, rfl⟩ := Array.getElem?_eq_some_iff.mp hc
    have q := List.all_eq_true.mp ((Array.all_eq_true_iff_forall_mem.mp hF) _ (Array.getElem_mem ha)) i (List.mem_range.mpr hi)
    simpa [Array.getElem?_eq_getElem hi] using q
  obtain ⟨i0, e0⟩ := is_v q0
  obtain rfl : w0 = (.int i0) := Option.some.inj e0
  obtain ⟨i1, e1⟩ := isL_v q1
  obtain rfl : w1 = (.long i1) := Option.some.inj e1
  obtain ⟨i2, e2⟩ := is_v q2
  obtain rfl : w2 = (.int i2) := Option.some.inj e2
  obtain ⟨y0, z1⟩ := and_e hn
  obtain ⟨y1, z2⟩ := and_e z1
  obtain ⟨y2, z3⟩ := and_e z2
  obtain ⟨y3, z4⟩ := and_e z3
  obtain ⟨y4, z5⟩ := and_e z4
  obtain ⟨y5, z6⟩ := and_e z5
  obtain ⟨y6, z7⟩ := and_e z6
  obtain ⟨y7, z8⟩ := and_e z7
  obtain ⟨y8, z9⟩ := and_e z8
  obtain ⟨y9, z10⟩ := and_e z9
  obtain ⟨y10, z11⟩ := and_e z10
  obtain ⟨y11, z12⟩ := and_e z11
  obtain ⟨y12, z13⟩ := and_e z12
  obtain ⟨y13, z14⟩ := and_e z13
  obtain ⟨y14, z15⟩ := and_e z14
  obtain ⟨y15, z16⟩ := and_e z15
  obtain ⟨y16, z17⟩ := and_e z16
  obtain ⟨y17, z18⟩ := and_e z17
  obtain ⟨y18, z19⟩ := and_e z18
  obtain ⟨y19, z20⟩ := and_e z19
  have y20 := z20
  obtain ⟨pt, ev⟩ := arr_v y0
  have Sp : Sta s s.heap "com/example/floe/floe/model/ExactSum" "POWERS_OF_TEN" "[J" (.ref pt) := Sta.start ev (Or.inr ⟨(hw _ (List.mem_of_getElem? (i := 27) rfl)), (hw _ (List.mem_of_getElem? (i := 51) rfl))⟩)
  obtain ⟨cl, Ar⟩ := Arr.start ev y0
  have Ap : Ary s s.heap pt .long 19 (fun i => .long (own_p i)) := own_pow19 ev Ar y1 (own_lt19 (own_el ev Ar (j := 0) (by decide) y2) (own_el ev Ar (j := 1) (by decide) y3) (own_el ev Ar (j := 2) (by decide) y4) (own_el ev Ar (j := 3) (by decide) y5) (own_el ev Ar (j := 4) (by decide) y6) (own_el ev Ar (j := 5) (by decide) y7) (own_el ev Ar (j := 6) (by decide) y8) (own_el ev Ar (j := 7) (by decide) y9) (own_el ev Ar (j := 8) (by decide) y10) (own_el ev Ar (j := 9) (by decide) y11) (own_el ev Ar (j := 10) (by decide) y12) (own_el ev Ar (j := 11) (by decide) y13) (own_el ev Ar (j := 12) (by decide) y14) (own_el ev Ar (j := 13) (by decide) y15) (own_el ev Ar (j := 14) (by decide) y16) (own_el ev Ar (j := 15) (by decide) y17) (own_el ev Ar (j := 16) (by decide) y18) (own_el ev Ar (j := 17) (by decide) y19) (own_el ev Ar (j := 18) (by decide) y20))
  obtain ⟨n, o, h1, h2, h3, _, L, rfl, ⟨rfl, N⟩, hq⟩ := rm0 l s _ hw tables_1 i0 i1 i2 pt s.heap s.heap.size (Nat.le_refl _) Sp Ap p e ha hc hk s m _ below hf ((Spec.applies_iff_loose hf).mp happ).1 ⟨rfl, State.Warmed39.refl s, rfl⟩ trivial
  refine ⟨n, _, h1, h2, h3, hpost _ _ _ _ _ _ ⟨Cond.after_iff.mpr rfl, Cond.after_iff.mpr (eq_i res_at (Term.int_eval (1)) rfl), trivial⟩ ⟨hq.1, hq.2.1, (hq.2.2.sift fun y hy => Or.inr (N y hy)).mono (by decide) (by decide)⟩⟩
theorem main_1_1 : Claimed_1_1 := comes_1 fun _ _ _ _ _ _ h hF => ⟨h.1, hF⟩
theorem main_1_2 : Claimed_1_2 := comes_1 fun _ _ _ _ _ _ h hF => ⟨h.2.1, hF⟩
end Jvm.Pilot.@@N@@
namespace Jvm.Pilot.@@N@@
open Jvm Jvm.ClassFile Sem Op Lib Jvm.Free Jvm.Stand Jvm.Pilot.@@N@@.Jvm.D
/-! MADE BY PROGRAM (witnessworld.py) out of the Statement's table words and the real class files: 11 classes; the members and pool entries that the words name. The judged class is class 1, her method 2. -/
namespace start1
open Jvm.ClassFile
def u (s : String) : CpInfo := .utf8 (stringToUtf16 s)
/-- a pool by its gaps: so many unusable entries, then the entry; so many at the end -/
def gap : Nat → List CpInfo → List CpInfo
  | 0, r => r
  | n + 1, r => .unusable :: gap n r
def poolList (es : List (Nat × CpInfo)) (last : Nat) : List CpInfo := es.foldr (fun e r => gap e.1 (e.2 :: r)) (gap last [])
def pool (es : List (Nat × CpInfo)) (last : Nat) : Array CpInfo := ⟨poolList es last⟩
def fileOf (pool : Array CpInfo) (this : Nat) (attrs : Array Attribute := #[]) (ms : Array MethodInfo := #[]) (fl : Nat := 33) (sup : Nat := 0) (ifs : Array Nat := #[]) (fds : Array FieldInfo := #[]) : ClassFile where
  minorVersion := 0
  majorVersion := 65
  constantPool := pool
  accessFlags := fl
  thisClass := this
  superClass := sup
  interfaces := ifs
  fields := fds
  methods := ms
  attributes := attrs
def plain (name : String) (sup : Option ClassId) : Class where
  name := name
  kind := .ordinary
  loader := none
  accessFlags := 33
  super := sup
  interfaces := #[]
  cf := none
  fields := #[]
  methods := #[]
  instanceTypes := #[]
  staticTypes := #[]
  resolved := #[]
  callSites := []
  init := .initialized
  statics := none
  mirror := none

def pool0 : Array CpInfo := pool [(5, u "<init>"), (0, u "()V"), (1, .class_ 10), (1, u "java/lang/Object")] 113

def k0c0 : Code := { maxStack := 0, maxLocals := 1, code := object_method_1_code, exceptionTable := #[], attributes := #[] }
def k0m0 : Method := { name := "<init>", desc := "()V", sig := { parameters := [], returnType := none }, accessFlags := 1, code := some k0c0 }
/-- java/lang/Object -/
def k0 : Class := { plain "java/lang/Object" none with
  accessFlags := 33
  interfaces := #[]
  cf := some (fileOf pool0 8 #[] #[{ accessFlags := 1, nameIndex := 5, descriptorIndex := 6, attributes := #[] }] 33 0 #[] #[])
  fields := #[]
  methods := #[k0m0]
  instanceTypes := #[]
  staticTypes := #[]
  resolved := Array.replicate 124 none
  statics := none }

def pool1 : Array CpInfo := pool [(2, .class_ 4), (0, .nameAndType 5 6), (0, u "java/lang/Object"), (0, u "<init>"), (0, u "()V"), (0, .long 10), (1, .long 100), (1, .long 1000), (1, .long 10000), (1, .long 100000), (1, .long 1000000), (1, .long 10000000), (1, .long 100000000), (1, .long 1000000000), (1, .long 10000000000), (1, .long 100000000000), (1, .long 1000000000000), (1, .long 10000000000000), (1, .long 100000000000000), (1, .long 1000000000000000), (1, .long 10000000000000000), (1, .long 100000000000000000), (1, .long 1000000000000000000), (1, .integer 2147483647), (0, .long 18), (1, .methodref 47 48), (0, .class_ 49), (0, .nameAndType 50 51), (0, u "com/example/floe/floe/model/ExactSumFitsLongAtPinLaw"), (0, u "pow"), (0, u "(I)J"), (2, .long 9223372036854775807), (1, .long 3), (1, .long 9223372036854775808), (1, .class_ 61), (0, u "com/example/floe/floe/model/ExactSum"), (0, .methodref 60 3), (0, .methodref 60 64), (0, .nameAndType 65 66), (0, u "set"), (0, u "(BJLjava/math/BigDecimal;)V"), (0, .methodref 60 68), (0, .nameAndType 69 70), (0, u "fitsLongAt"), (0, u "(I)Z"), (2, u "law"), (0, u "(IJI)Z")] 3

def k1m0 : Method := { name := "<init>", desc := "()V", sig := { parameters := [], returnType := none }, accessFlags := 1, code := none }
def k1c1 : Code := { maxStack := 5, maxLocals := 2, code := method_2_code, exceptionTable := #[], attributes := #[] }
def k1m1 : Method := { name := "pow", desc := "(I)J", sig := { parameters := [.int], returnType := some .long }, accessFlags := 10, code := some k1c1 }
def k1c2 : Code := { maxStack := 6, maxLocals := 18, code := code, exceptionTable := #[], attributes := #[] }
def k1m2 : Method := { name := "law", desc := "(IJI)Z", sig := { parameters := [.int, .long, .int], returnType := some .boolean }, accessFlags := 9, code := some k1c2 }
/-- com/example/floe/floe/model/ExactSumFitsLongAtPinLaw -/
def k1 : Class := { plain "com/example/floe/floe/model/ExactSumFitsLongAtPinLaw" (some 0) with
  accessFlags := 49
  interfaces := #[]
  cf := some (fileOf pool1 47 #[] #[{ accessFlags := 1, nameIndex := 5, descriptorIndex := 6, attributes := #[] }, { accessFlags := 10, nameIndex := 50, descriptorIndex := 51, attributes := #[] }, { accessFlags := 9, nameIndex := 73, descriptorIndex := 74, attributes := #[] }] 49 2 #[] #[])
  fields := #[]
  methods := #[k1m0, k1m1, k1m2]
  instanceTypes := #[]
  staticTypes := #[]
  resolved := Array.replicate 78 none
  statics := none }

def pool2 : Array CpInfo := pool [(1, .methodref 2 3), (0, .class_ 4), (0, .nameAndType 5 6), (0, u "java/lang/Object"), (0, u "<init>"), (0, u "()V"), (0, .class_ 8), (0, u "com/example/floe/floe/model/ExactSum"), (0, .fieldref 7 10), (0, .nameAndType 11 12), (0, u "form"), (0, u "B"), (8, u "unscaled"), (26, .fieldref 7 49), (0, .nameAndType 21 50), (0, u "J"), (7, .fieldref 7 59), (0, .nameAndType 60 61), (0, u "big"), (0, u "Ljava/math/BigDecimal;"), (8, u "set"), (0, u "(BJLjava/math/BigDecimal;)V"), (24, .fieldref 7 97), (0, .nameAndType 98 99), (0, u "POWERS_OF_TEN"), (0, u "[J"), (0, .long 9223372036854775807), (29, u "MISSING"), (2, u "BIG"), (10, u "fitsLongAt"), (0, u "(I)Z")] 7

def k2c0 : Code := { maxStack := 2, maxLocals := 1, code := prog_45_method_1_code, exceptionTable := #[], attributes := #[] }
def k2m0 : Method := { name := "<init>", desc := "()V", sig := { parameters := [], returnType := none }, accessFlags := 1, code := some k2c0 }
def k2c1 : Code := { maxStack := 3, maxLocals := 5, code := prog_45_method_9_code, exceptionTable := #[], attributes := #[] }
def k2m1 : Method := { name := "set", desc := "(BJLjava/math/BigDecimal;)V", sig := { parameters := [.byte, .long, (.object "java/math/BigDecimal")], returnType := none }, accessFlags := 1, code := some k2c1 }
def k2c2 : Code := { maxStack := 5, maxLocals := 5, code := prog_45_method_15_code, exceptionTable := #[], attributes := #[] }
def k2m2 : Method := { name := "fitsLongAt", desc := "(I)Z", sig := { parameters := [.int], returnType := some .boolean }, accessFlags := 1, code := some k2c2 }
/-- com/example/floe/floe/model/ExactSum -/
def k2 : Class := { plain "com/example/floe/floe/model/ExactSum" (some 0) with
  accessFlags := 49
  interfaces := #[]
  cf := some (fileOf pool2 7 #[] #[{ accessFlags := 1, nameIndex := 5, descriptorIndex := 6, attributes := #[] }, { accessFlags := 1, nameIndex := 70, descriptorIndex := 71, attributes := #[] }, { accessFlags := 1, nameIndex := 144, descriptorIndex := 145, attributes := #[] }] 49 2 #[] #[{ accessFlags := 25, nameIndex := 130, descriptorIndex := 12, attributes := #[] }, { accessFlags := 25, nameIndex := 133, descriptorIndex := 12, attributes := #[] }, { accessFlags := 26, nameIndex := 98, descriptorIndex := 99, attributes := #[] }, { accessFlags := 2, nameIndex := 11, descriptorIndex := 12, attributes := #[] }, { accessFlags := 2, nameIndex := 21, descriptorIndex := 50, attributes := #[] }, { accessFlags := 2, nameIndex := 60, descriptorIndex := 61, attributes := #[] }])
  fields := #[{ name := "MISSING", type := .byte, accessFlags := 25, slot := 0, constantValue := 0 }, { name := "BIG", type := .byte, accessFlags := 25, slot := 1, constantValue := 0 }, { name := "POWERS_OF_TEN", type := (.array .long), accessFlags := 26, slot := 2, constantValue := 0 }, { name := "form", type := .byte, accessFlags := 2, slot := 0, constantValue := 0 }, { name := "unscaled", type := .long, accessFlags := 2, slot := 1, constantValue := 0 }, { name := "big", type := (.object "java/math/BigDecimal"), accessFlags := 2, slot := 2, constantValue := 0 }]
  methods := #[k2m0, k2m1, k2m2]
  instanceTypes := #[.byte, .long, (.object "java/math/BigDecimal")]
  staticTypes := #[.byte, .byte, (.array .long)]
  resolved := Array.replicate 153 none
  statics := some 0 }

def pool3 : Array CpInfo := pool [(1, u "java/lang/Cloneable"), (0, .class_ 1), (0, u "java/lang/Object"), (0, .class_ 3)] 3

/-- java/lang/Cloneable -/
def k3 : Class := { plain "java/lang/Cloneable" (some 0) with
  accessFlags := 1537
  interfaces := #[]
  cf := some (fileOf pool3 2 #[] #[] 1537 4 #[] #[])
  fields := #[]
  methods := #[]
  instanceTypes := #[]
  staticTypes := #[]
  resolved := Array.replicate 8 none
  statics := none }

def pool4 : Array CpInfo := pool [(1, u "java/io/Serializable"), (0, .class_ 1), (0, u "java/lang/Object"), (0, .class_ 3)] 3

/-- java/io/Serializable -/
def k4 : Class := { plain "java/io/Serializable" (some 0) with
  accessFlags := 1537
  interfaces := #[]
  cf := some (fileOf pool4 2 #[] #[] 1537 4 #[] #[])
  fields := #[]
  methods := #[]
  instanceTypes := #[]
  staticTypes := #[]
  resolved := Array.replicate 8 none
  statics := none }

/-- the primitive byte -/
def k5 : Class := { plain "byte" none with kind := .primitive 'B', accessFlags := 0x411 }
/-- [B -/
def k6 : Class := { plain "[B" (some 0) with kind := .array 5 .byte, interfaces := #[3, 4], accessFlags := 1041 }

/-- the primitive int -/
def k7 : Class := { plain "int" none with kind := .primitive 'I', accessFlags := 0x411 }
/-- [I -/
def k8 : Class := { plain "[I" (some 0) with kind := .array 7 .int, interfaces := #[3, 4], accessFlags := 1041 }

/-- the primitive long -/
def k9 : Class := { plain "long" none with kind := .primitive 'J', accessFlags := 0x411 }
/-- [J -/
def k10 : Class := { plain "[J" (some 0) with kind := .array 9 .long, interfaces := #[3, 4], accessFlags := 1041 }

def heap : Heap := #[{ cls := 2, slots := #[.int 0, .int 0, .ref 1], vm := .statics 2 },
  { cls := 10, slots := #[.long 1, .long 10, .long 100, .long 1000, .long 10000, .long 100000, .long 1000000, .long 10000000, .long 100000000, .long 1000000000, .long 10000000000, .long 100000000000, .long 1000000000000, .long 10000000000000, .long 100000000000000, .long 1000000000000000, .long 10000000000000000, .long 100000000000000000, .long 1000000000000000000], vm := .none }]
def classes : Array Class := #[k0, k1, k2, k3, k4, k5, k6, k7, k8, k9, k10]
def interned : List (Array UInt16 × Addr) := []
def slotsUsed : Nat := 22
def theMethod : MethodId := ⟨1, 2⟩
def args0 : Array Value := #[.int 5, .long 7, .int 3]
def aboutOver (below : List Frame) : State where
  vm := { classes := classes, interned := interned.toArray }
  heap := heap
  slotsUsed := slotsUsed
  threads := #[{ frames := .invoking theMethod args0 :: below }]
def below0 : List Frame := [.native { method := ⟨0, 0⟩, args := #[] }]
def about1 : State := aboutOver below0
def p0 : Program := .bare "" "" ""
def e0 : Env := launch0.env 0 0 0
theorem w_frames : about1.frames = Frame.invoking theMethod args0 :: below0 := rfl
set_option maxRecDepth 65536 in
theorem w_args : argsFit about1.vm theMethod args0 = true := by decide +kernel
set_option maxRecDepth 65536 in
theorem w_heap : heapFits about1 = true := by decide +kernel
set_option maxRecDepth 65536 in
theorem w_runnable : about1.curStatus? = some .runnable := by decide +kernel
set_option maxRecDepth 65536 in
theorem w_alone : about1.alone = true := by decide +kernel
set_option maxRecDepth 65536 in
theorem w_named : about1.methodNamed? x = some theMethod := by decide +kernel
set_option maxRecDepth 65536 in
theorem w_hears : about1.hears theMethod below0 = true := by decide +kernel
set_option maxRecDepth 65536 in
theorem w_ripe : about1.ripe theMethod args0 below0 = true := by decide +kernel
theorem w_running : about1.status = .running := rfl
set_option maxRecDepth 65536 in
theorem w_room : about1.hasRoom e0.platform room_1 = true :=
  launch0.hasRoom_least _ room_1 (by decide +kernel) (by decide +kernel) (by decide +kernel) (by decide +kernel) (by decide +kernel) (by decide +kernel)
theorem allAtoms_all (ts : List Jvm.Cond) (a : Array Jvm.Value) (st : Jvm.State) : (allAtoms ts).before a st = ts.all (fun c => c.before a st) := by
  induction ts with
  | nil => rfl
  | cons c t ih =>
    show (Jvm.Cond.and c (allAtoms t)).before a st = _
    rw [Jvm.Cond.before_and, ih, List.all_cons]
def words1 : List Jvm.Cond := Jvm.Cond.code x code maxLocals ret :: tables_1
/-- a 'code' word, met by the world's own term for the bytes: nothing is compared byte by byte -/
theorem code_word {y : MethodName} {bytes : ByteArray} {mx : Nat} {rt : Option FieldType} {a : Array Value} {s : State} {m : MethodId} {meth : Method} {c : Code} (h1 : s.methodNamed? y = some m) (h2 : s.vm.method? m = some meth) (h3 : meth.code = some c) (h4 : c.code = bytes)
    (h5 : (c.maxLocals == mx && c.exceptionTable.isEmpty && decide (c.maxStack ≤ mostOperands) && decide (meth.sig.returnType = rt) && !meth.locks && decide (parseMethodDescriptor y.desc = some meth.sig)) = true) : (Jvm.Cond.code y bytes mx rt).before a s = true := by
  simp only [Bool.and_eq_true, beq_iff_eq, Bool.not_eq_true', decide_eq_true_eq] at h5
  obtain ⟨⟨⟨⟨⟨g1, g2⟩, g3⟩, g4⟩, g5⟩, g6⟩ := h5
  simp [Cond.before, Cond.holds, Cond.value, h1, h2, h3, h4, g1, g2, g3, g4, g5, g6]
def isCode : Jvm.Cond → Bool
  | .code _ _ _ _ => true
  | _ => false
theorem all_split {L : List Jvm.Cond} {P : Jvm.Cond → Bool} (h1 : L.all (fun c => isCode c || P c) = true) (h2 : ∀ c ∈ L.filter isCode, P c = true) : L.all P = true := by
  refine List.all_eq_true.mpr fun c hc => ?_
  have h := List.all_eq_true.mp h1 c hc
  rcases Bool.eq_false_or_eq_true (isCode c) with hi | hi
  · exact h2 c (List.mem_filter.mpr ⟨hc, hi⟩)
  · simpa [hi] using h
set_option maxRecDepth 65536 in
theorem w_c0 : (Jvm.Cond.code x code maxLocals ret).before args0 about1 = true := code_word (m := ⟨1, 2⟩) (meth := k1m2) (c := k1c2) (by decide +kernel) rfl rfl rfl (by decide +kernel)
set_option maxRecDepth 65536 in
theorem w_c1 : (Jvm.Cond.code ({ cls := "com/example/floe/floe/model/ExactSumFitsLongAtPinLaw", name := "pow", desc := "(I)J" } : Jvm.MethodName) method_2_code (2 : Nat) (Option.some Jvm.ClassFile.FieldType.long)).before args0 about1 = true := code_word (m := ⟨1, 1⟩) (meth := k1m1) (c := k1c1) (by decide +kernel) rfl rfl rfl (by decide +kernel)
set_option maxRecDepth 65536 in
theorem w_c2 : (Jvm.Cond.code ({ cls := "com/example/floe/floe/model/ExactSum", name := "<init>", desc := "()V" } : Jvm.MethodName) prog_45_method_1_code (1 : Nat) (Option.none : Option Jvm.ClassFile.FieldType)).before args0 about1 = true := code_word (m := ⟨2, 0⟩) (meth := k2m0) (c := k2c0) (by decide +kernel) rfl rfl rfl (by decide +kernel)
set_option maxRecDepth 65536 in
theorem w_c3 : (Jvm.Cond.code ({ cls := "java/lang/Object", name := "<init>", desc := "()V" } : Jvm.MethodName) object_method_1_code (1 : Nat) (Option.none : Option Jvm.ClassFile.FieldType)).before args0 about1 = true := code_word (m := ⟨0, 0⟩) (meth := k0m0) (c := k0c0) (by decide +kernel) rfl rfl rfl (by decide +kernel)
set_option maxRecDepth 65536 in
theorem w_c4 : (Jvm.Cond.code ({ cls := "com/example/floe/floe/model/ExactSum", name := "set", desc := "(BJLjava/math/BigDecimal;)V" } : Jvm.MethodName) prog_45_method_9_code (5 : Nat) (Option.none : Option Jvm.ClassFile.FieldType)).before args0 about1 = true := code_word (m := ⟨2, 1⟩) (meth := k2m1) (c := k2c1) (by decide +kernel) rfl rfl rfl (by decide +kernel)
set_option maxRecDepth 65536 in
theorem w_c5 : (Jvm.Cond.code ({ cls := "com/example/floe/floe/model/ExactSum", name := "fitsLongAt", desc := "(I)Z" } : Jvm.MethodName) prog_45_method_15_code (5 : Nat) (Option.some Jvm.ClassFile.FieldType.boolean)).before args0 about1 = true := code_word (m := ⟨2, 2⟩) (meth := k2m2) (c := k2c2) (by decide +kernel) rfl rfl rfl (by decide +kernel)
def codes1 : List Jvm.Cond := [Jvm.Cond.code x code maxLocals ret, Jvm.Cond.code ({ cls := "com/example/floe/floe/model/ExactSumFitsLongAtPinLaw", name := "pow", desc := "(I)J" } : Jvm.MethodName) method_2_code (2 : Nat) (Option.some Jvm.ClassFile.FieldType.long), Jvm.Cond.code ({ cls := "com/example/floe/floe/model/ExactSum", name := "<init>", desc := "()V" } : Jvm.MethodName) prog_45_method_1_code (1 : Nat) (Option.none : Option Jvm.ClassFile.FieldType), Jvm.Cond.code ({ cls := "java/lang/Object", name := "<init>", desc := "()V" } : Jvm.MethodName) object_method_1_code (1 : Nat) (Option.none : Option Jvm.ClassFile.FieldType), Jvm.Cond.code ({ cls := "com/example/floe/floe/model/ExactSum", name := "set", desc := "(BJLjava/math/BigDecimal;)V" } : Jvm.MethodName) prog_45_method_9_code (5 : Nat) (Option.none : Option Jvm.ClassFile.FieldType), Jvm.Cond.code ({ cls := "com/example/floe/floe/model/ExactSum", name := "fitsLongAt", desc := "(I)Z" } : Jvm.MethodName) prog_45_method_15_code (5 : Nat) (Option.some Jvm.ClassFile.FieldType.boolean)]
set_option maxRecDepth 65536 in
theorem codes_eq : words1.filter isCode = codes1 := rfl
theorem w_codes : ∀ c ∈ words1.filter isCode, c.before args0 about1 = true := by
  rw [codes_eq]
  intro c hc
  simp only [codes1, List.mem_cons, List.not_mem_nil, or_false] at hc
  rcases hc with rfl | rfl | rfl | rfl | rfl | rfl
  · exact w_c0
  · exact w_c1
  · exact w_c2
  · exact w_c3
  · exact w_c4
  · exact w_c5
set_option maxRecDepth 65536 in
theorem w_t1 : (words1.take 24).all (fun c => isCode c || c.before args0 about1) = true := by decide +kernel
set_option maxRecDepth 65536 in
theorem w_t2 : ((words1.drop 24).take 24).all (fun c => isCode c || c.before args0 about1) = true := by decide +kernel
set_option maxRecDepth 65536 in
theorem w_t3 : ((words1.drop 24).drop 24).all (fun c => isCode c || c.before args0 about1) = true := by decide +kernel
theorem w_tables : (allAtoms (Jvm.Cond.code x code maxLocals ret :: tables_1)).before args0 about1 = true := by
  rw [allAtoms_all]
  show words1.all (fun c => c.before args0 about1) = true
  refine all_split ?_ w_codes
  rw [← List.take_append_drop 24 words1, List.all_append, w_t1, ← List.take_append_drop 24 (words1.drop 24), List.all_append, w_t2, w_t3]
  rfl
set_option maxRecDepth 65536 in
theorem w_case : (Jvm.Cond.and given_1 narrow_1).before args0 about1 = true := by decide +kernel
theorem w_applies : (headSpec (Jvm.Cond.code x code maxLocals ret :: tables_1) room_1).applies x e0.platform about1 = true :=
  (Spec.applies_iff w_frames).mpr ⟨w_running, w_runnable, w_alone, w_named, w_hears, w_ripe, w_room, w_tables⟩
theorem atStart : AtStart classFile x code maxLocals ret World_1 tables_1 room_1 Calls_1 rest_1 Pre_1 launch0 p0 e0 about1 theMethod args0 below0 :=
  ⟨lists_1, trivial, launch0.admits_env _ _ _, launch0.least_env, fairChoices_fair.cas, fairChoices_fair.clock, w_frames, w_args, w_heap, w_applies, trivial, trivial, w_case⟩
end start1
theorem witness_1 : WitnessClaimed_1 := ⟨start1.p0, start1.e0, start1.about1, start1.theMethod, start1.args0, start1.below0, start1.atStart⟩
end Jvm.Pilot.@@N@@
