import JvmDerived
import JvmDerived.Pilot.@@N@@Statement
import JvmDerived.Pilot.@@N@@Code
set_option linter.unusedVariables false
set_option linter.unusedSimpArgs false
namespace Jvm.Pilot.@@N@@
open Jvm Jvm.ClassFile Sem Op Lib Jvm.Free Jvm.Stand Jvm.LawKit Jvm.RoadKit Bundle Jvm.Pilot.@@N@@.Jvm.D
section Core
variable {p : Program} {l : Launch} {e : Env} {R : Room} {s : State} {m : MethodId} {args : Array Value} {below : List Frame} {meth : Method} {c : Code} {T T' : State} {locs : List Loc} {cells slots : Nat} {Q : Option Value → Heap → List Loc → Prop} {En : Outcome → State → List Loc → Prop} {kc ks : Nat} {Z : State} {a0 : Array Value} {h : Heap} {Ls : Array Slot} {st rest : List Value} {pc pc' : Nat}
def ushrI (x y : Int32) : Int32 := (x.toUInt32 >>> (y &&& 31).toUInt32).toInt32
def ushrJ (x : Int64) (y : Int32) : Int64 := (x.toUInt64 >>> (y &&& 0x3f).toInt64.toUInt64).toInt64
def cmpJ (x y : Int64) : Int32 := if x > y then 1 else if x = y then 0 else -1
def Run (p : Program) (e : Env) (below : List Frame) (Q : Option Value → Heap → List Loc → Prop) (En : Outcome → State → List Loc → Prop) (T : State) (g : JFrame) : Prop :=
  ∃ s₂ o, Steps p.tables e below (T.setTop g) s₂ ∧ s₂.status = .running ∧ Ended s₂ below o ∧ ∃ v L, o = .returned v ∧ Q v s₂.heap L ∧ En o s₂ L
theorem Run.on {g g' : JFrame} (r : Run p e below Q En T' g') (q : ∀ t, Steps p.tables e below (T'.setTop g') t → Steps p.tables e below (T.setTop g) t) : Run p e below Q En T g := by
  obtain ⟨s₂, o, h1, r⟩ := r
  exact ⟨s₂, o, q _ h1, r⟩
theorem Run.cast {g g' : JFrame} (q : g = g') (r : Run p e below Q En T g') : Run p e below Q En T g := q ▸ r
abbrev Met (l : Launch) (Z : State) (y : MethodName) (bytes : ByteArray) (maxL : Nat) (ret : Option FieldType) (ws : List Jvm.Cond) (rm : Room) (as' : Array Value) (h0 : Heap) (Q : Option Value → Heap → List Loc → Prop) (kc ks : Nat) : Prop :=
  MetFree l y (head1 (Jvm.Cond.code y bytes maxL ret :: ws) rm) (fun a U => a = as' ∧ Z.Warmed39 U.vm ∧ U.heap = h0) (fun _ _ _ _ _ => True) (fun _ U o U' => ∃ v L, o = .returned v ∧ Q v U'.heap L ∧ FrameEnd U o U' L kc ks)
theorem met_of {y : MethodName} {bytes : ByteArray} {maxL : Nat} {ret : Option FieldType} {ws : List Jvm.Cond} {rm : Room} {as' : Array Value} {h0 : Heap} {Q : Option Value → Heap → List Loc → Prop} {kc ks : Nat} {f0 : MethodId → JFrame} (hpn : plainFor y = true)
    (hef : ∀ m, entryFrame m as' maxL = f0 m)
    (body : ∀ (p : Program) (e : Env) (s : State) (m : MethodId) (below : List Frame) (meth : Method) (c : Code) (s₁ : State), Stand p l e rm s m as' below meth c s₁ [] 0 0 → p.tables.exec = Jvm.exec → c.code = bytes → c.maxLocals = maxL → meth.sig.returnType = ret → meth.locks = false → s.vm.findClass y.cls = some m.cls → meth.name = y.name → Z.Warmed39 s.vm → s₁.heap = h0 → Run p e below Q (fun o t L => FrameEnd s o t L kc ks) s₁ (f0 m)) :
    Met l Z y bytes maxL ret ws rm as' h0 Q kc ks := by
  refine MetFree.of_bodySF (code := bytes) (maxLocals := maxL) (ret := ret) hpn hisR ?_
  intro p e s m args below meth c s₁ Bd hml0 hP hK
  obtain ⟨rfl, hZ, hh⟩ := hP
  obtain ⟨s₂, o, r⟩ := body p e s m below meth c s₁ (Stand.of_body Bd) Bd.exec Bd.bytes hml0 Bd.returns (BodyLoose.notSynchronized Bd) (findClass_of_methodNamed Bd.named) (name_of_methodNamed Bd.named Bd.method).1 hZ (by rw [← hh, Bd.state]; rfl)
  rw [hef m]
  exact ⟨s₂, o, r⟩
theorem r_aloadN (at_ : At T m c below) (hx : p.tables.exec = Jvm.exec) {k : Fin 4} {v : Value} (hd : decode c.code pc = .ok (.aload_n k, 1)) (hl : Ls[k.val]? = some (.val v)) (hv : v.isRef = true) (hp : pc + 1 = pc') (r : Run p e below Q En T (mkF m pc' Ls (v :: rest))) : Run p e below Q En T (mkF m pc Ls (rest)) := by
  subst hp; exact r.on fun _ q => XS.aloadN at_ hx rfl hd hl hv q
theorem r_aload (at_ : At T m c below) (hx : p.tables.exec = Jvm.exec) {k : Nat} {v : Value} (hd : decode c.code pc = .ok (.aload k, 2)) (hl : Ls[k]? = some (.val v)) (hv : v.isRef = true) (hp : pc + 2 = pc') (r : Run p e below Q En T (mkF m pc' Ls (v :: rest))) : Run p e below Q En T (mkF m pc Ls (rest)) := by
  subst hp; exact r.on fun _ q => XS.aload at_ hx rfl hd hl hv q
theorem r_iloadN (at_ : At T m c below) (hx : p.tables.exec = Jvm.exec) {k : Fin 4} {v : Int32} (hd : decode c.code pc = .ok (.iload_n k, 1)) (hl : Ls[k.val]? = some (.val (.int v))) (hp : pc + 1 = pc') (r : Run p e below Q En T (mkF m pc' Ls (.int v :: rest))) : Run p e below Q En T (mkF m pc Ls (rest)) := by
  subst hp; exact r.on fun _ q => XS.iloadN at_ hx rfl hd hl q
theorem r_iload (at_ : At T m c below) (hx : p.tables.exec = Jvm.exec) {k : Nat} {v : Int32} (hd : decode c.code pc = .ok (.iload k, 2)) (hl : Ls[k]? = some (.val (.int v))) (hp : pc + 2 = pc') (r : Run p e below Q En T (mkF m pc' Ls (.int v :: rest))) : Run p e below Q En T (mkF m pc Ls (rest)) := by
  subst hp; exact r.on fun _ q => XS.iload at_ hx rfl hd hl q
theorem r_lloadN (at_ : At T m c below) (hx : p.tables.exec = Jvm.exec) {k : Fin 4} {v : Int64} (hd : decode c.code pc = .ok (.lload_n k, 1)) (hl : Ls[k.val]? = some (.val (.long v))) (hp : pc + 1 = pc') (r : Run p e below Q En T (mkF m pc' Ls (.long v :: rest))) : Run p e below Q En T (mkF m pc Ls (rest)) := by
  subst hp; exact r.on fun _ q => XS.lloadN at_ hx rfl hd hl q
theorem r_lload (at_ : At T m c below) (hx : p.tables.exec = Jvm.exec) {k : Nat} {v : Int64} (hd : decode c.code pc = .ok (.lload k, 2)) (hl : Ls[k]? = some (.val (.long v))) (hp : pc + 2 = pc') (r : Run p e below Q En T (mkF m pc' Ls (.long v :: rest))) : Run p e below Q En T (mkF m pc Ls (rest)) := by
  subst hp; exact r.on fun _ q => XS.lload at_ hx rfl hd hl q
theorem r_istoreN (at_ : At T m c below) (hx : p.tables.exec = Jvm.exec) {k : Fin 4} {x : Int32} {l' : Array Slot} (hd : decode c.code pc = .ok (.istore_n k, 1)) (hl : storeLocals Ls k.val (.int x) = some l') (hp : pc + 1 = pc') (r : Run p e below Q En T (mkF m pc' l' (rest))) : Run p e below Q En T (mkF m pc Ls (.int x :: rest)) := by
  subst hp; exact r.on fun _ q => XS.istoreN at_ hx rfl hd rfl hl q
theorem r_istore (at_ : At T m c below) (hx : p.tables.exec = Jvm.exec) {k : Nat} {x : Int32} {l' : Array Slot} (hd : decode c.code pc = .ok (.istore k, 2)) (hl : storeLocals Ls k (.int x) = some l') (hp : pc + 2 = pc') (r : Run p e below Q En T (mkF m pc' l' (rest))) : Run p e below Q En T (mkF m pc Ls (.int x :: rest)) := by
  subst hp; exact r.on fun _ q => XS.istore at_ hx rfl hd rfl hl q
theorem r_lstoreN (at_ : At T m c below) (hx : p.tables.exec = Jvm.exec) {k : Fin 4} {x : Int64} {l' : Array Slot} (hd : decode c.code pc = .ok (.lstore_n k, 1)) (hl : storeLocals Ls k.val (.long x) = some l') (hp : pc + 1 = pc') (r : Run p e below Q En T (mkF m pc' l' (rest))) : Run p e below Q En T (mkF m pc Ls (.long x :: rest)) := by
  subst hp; exact r.on fun _ q => XS.lstoreN at_ hx rfl hd rfl hl q
theorem r_lstore (at_ : At T m c below) (hx : p.tables.exec = Jvm.exec) {k : Nat} {x : Int64} {l' : Array Slot} (hd : decode c.code pc = .ok (.lstore k, 2)) (hl : storeLocals Ls k (.long x) = some l') (hp : pc + 2 = pc') (r : Run p e below Q En T (mkF m pc' l' (rest))) : Run p e below Q En T (mkF m pc Ls (.long x :: rest)) := by
  subst hp; exact r.on fun _ q => XS.lstore at_ hx rfl hd rfl hl q
theorem r_astoreN (at_ : At T m c below) (hx : p.tables.exec = Jvm.exec) {k : Fin 4} {x : Value} {l' : Array Slot} (hd : decode c.code pc = .ok (.astore_n k, 1)) (hv : x.isRef = true) (hl : storeLocals Ls k.val x = some l') (hp : pc + 1 = pc') (r : Run p e below Q En T (mkF m pc' l' (rest))) : Run p e below Q En T (mkF m pc Ls (x :: rest)) := by
  subst hp; exact r.on fun _ q => XS.astoreN at_ hx rfl hd rfl hv hl q
theorem r_astore (at_ : At T m c below) (hx : p.tables.exec = Jvm.exec) {k : Nat} {x : Value} {l' : Array Slot} (hd : decode c.code pc = .ok (.astore k, 2)) (hv : x.isRef = true) (hl : storeLocals Ls k x = some l') (hp : pc + 2 = pc') (r : Run p e below Q En T (mkF m pc' l' (rest))) : Run p e below Q En T (mkF m pc Ls (x :: rest)) := by
  subst hp; exact r.on fun _ q => XS.astore at_ hx rfl hd rfl hv hl q
theorem r_iconst (at_ : At T m c below) (hx : p.tables.exec = Jvm.exec) {i : Int} {v : Int32} (hd : decode c.code pc = .ok (.iconst i, 1)) (hv : Int32.ofInt i = v) (hp : pc + 1 = pc') (r : Run p e below Q En T (mkF m pc' Ls (.int v :: rest))) : Run p e below Q En T (mkF m pc Ls rest) := by
  subst hp hv; exact r.on fun _ q => XS.iconst at_ hx rfl hd q
theorem r_bipush (at_ : At T m c below) (hx : p.tables.exec = Jvm.exec) {i : Int} {v : Int32} (hd : decode c.code pc = .ok (.bipush i, 2)) (hv : (Int8.ofInt i).toInt32 = v) (hp : pc + 2 = pc') (r : Run p e below Q En T (mkF m pc' Ls (.int v :: rest))) : Run p e below Q En T (mkF m pc Ls rest) := by
  subst hp hv; exact r.on fun _ q => XS.bipush at_ hx rfl hd q
theorem r_sipush (at_ : At T m c below) (hx : p.tables.exec = Jvm.exec) {i : Int} {v : Int32} (hd : decode c.code pc = .ok (.sipush i, 3)) (hv : (Int16.ofInt i).toInt32 = v) (hp : pc + 3 = pc') (r : Run p e below Q En T (mkF m pc' Ls (.int v :: rest))) : Run p e below Q En T (mkF m pc Ls rest) := by
  subst hp hv; exact r.on fun _ q => XS.sipush at_ hx rfl hd q
theorem r_lconst (at_ : At T m c below) (hx : p.tables.exec = Jvm.exec) {k : Fin 2} {v : Int64} (hd : decode c.code pc = .ok (.lconst k, 1)) (hv : Int64.ofNat k = v) (hp : pc + 1 = pc') (r : Run p e below Q En T (mkF m pc' Ls (.long v :: rest))) : Run p e below Q En T (mkF m pc Ls rest) := by
  subst hp hv; exact r.on fun _ q => XS.lconst at_ hx rfl hd q
theorem r_aconst_null (at_ : At T m c below) (hx : p.tables.exec = Jvm.exec)  (hd : decode c.code pc = .ok (.aconst_null, 1))  (hp : pc + 1 = pc') (r : Run p e below Q En T (mkF m pc' Ls (.null :: rest))) : Run p e below Q En T (mkF m pc Ls (rest)) := by
  subst hp; exact r.on fun _ q => XS.aconstNull at_ hx rfl hd  q
theorem r_iadd (at_ : At T m c below) (hx : p.tables.exec = Jvm.exec) {x y : Int32} (hd : decode c.code pc = .ok (.iadd, 1))  (hp : pc + 1 = pc') (r : Run p e below Q En T (mkF m pc' Ls (.int (x + y) :: rest))) : Run p e below Q En T (mkF m pc Ls (.int y :: .int x :: rest)) := by
  subst hp; exact r.on fun _ q => XS.iadd at_ hx rfl hd rfl q
theorem r_isub (at_ : At T m c below) (hx : p.tables.exec = Jvm.exec) {x y : Int32} (hd : decode c.code pc = .ok (.isub, 1))  (hp : pc + 1 = pc') (r : Run p e below Q En T (mkF m pc' Ls (.int (x - y) :: rest))) : Run p e below Q En T (mkF m pc Ls (.int y :: .int x :: rest)) := by
  subst hp; exact r.on fun _ q => XS.isub at_ hx rfl hd rfl q
theorem r_imul (at_ : At T m c below) (hx : p.tables.exec = Jvm.exec) {x y : Int32} (hd : decode c.code pc = .ok (.imul, 1))  (hp : pc + 1 = pc') (r : Run p e below Q En T (mkF m pc' Ls (.int (x * y) :: rest))) : Run p e below Q En T (mkF m pc Ls (.int y :: .int x :: rest)) := by
  subst hp; exact r.on fun _ q => XS.imul at_ hx rfl hd rfl q
theorem r_iand (at_ : At T m c below) (hx : p.tables.exec = Jvm.exec) {x y : Int32} (hd : decode c.code pc = .ok (.iand, 1))  (hp : pc + 1 = pc') (r : Run p e below Q En T (mkF m pc' Ls (.int (x &&& y) :: rest))) : Run p e below Q En T (mkF m pc Ls (.int y :: .int x :: rest)) := by
  subst hp; exact r.on fun _ q => XS.iand at_ hx rfl hd rfl q
theorem r_ior (at_ : At T m c below) (hx : p.tables.exec = Jvm.exec) {x y : Int32} (hd : decode c.code pc = .ok (.ior, 1))  (hp : pc + 1 = pc') (r : Run p e below Q En T (mkF m pc' Ls (.int (x ||| y) :: rest))) : Run p e below Q En T (mkF m pc Ls (.int y :: .int x :: rest)) := by
  subst hp; exact r.on fun _ q => XS.ior at_ hx rfl hd rfl q
theorem r_ixor (at_ : At T m c below) (hx : p.tables.exec = Jvm.exec) {x y : Int32} (hd : decode c.code pc = .ok (.ixor, 1))  (hp : pc + 1 = pc') (r : Run p e below Q En T (mkF m pc' Ls (.int (x ^^^ y) :: rest))) : Run p e below Q En T (mkF m pc Ls (.int y :: .int x :: rest)) := by
  subst hp; exact r.on fun _ q => XS.ixor at_ hx rfl hd rfl q
theorem r_ladd (at_ : At T m c below) (hx : p.tables.exec = Jvm.exec) {x y : Int64} (hd : decode c.code pc = .ok (.ladd, 1))  (hp : pc + 1 = pc') (r : Run p e below Q En T (mkF m pc' Ls (.long (x + y) :: rest))) : Run p e below Q En T (mkF m pc Ls (.long y :: .long x :: rest)) := by
  subst hp; exact r.on fun _ q => XS.ladd at_ hx rfl hd rfl q
theorem r_lsub (at_ : At T m c below) (hx : p.tables.exec = Jvm.exec) {x y : Int64} (hd : decode c.code pc = .ok (.lsub, 1))  (hp : pc + 1 = pc') (r : Run p e below Q En T (mkF m pc' Ls (.long (x - y) :: rest))) : Run p e below Q En T (mkF m pc Ls (.long y :: .long x :: rest)) := by
  subst hp; exact r.on fun _ q => XS.lsub at_ hx rfl hd rfl q
theorem r_lmul (at_ : At T m c below) (hx : p.tables.exec = Jvm.exec) {x y : Int64} (hd : decode c.code pc = .ok (.lmul, 1))  (hp : pc + 1 = pc') (r : Run p e below Q En T (mkF m pc' Ls (.long (x * y) :: rest))) : Run p e below Q En T (mkF m pc Ls (.long y :: .long x :: rest)) := by
  subst hp; exact r.on fun _ q => XS.lmul at_ hx rfl hd rfl q
theorem r_land (at_ : At T m c below) (hx : p.tables.exec = Jvm.exec) {x y : Int64} (hd : decode c.code pc = .ok (.land, 1))  (hp : pc + 1 = pc') (r : Run p e below Q En T (mkF m pc' Ls (.long (x &&& y) :: rest))) : Run p e below Q En T (mkF m pc Ls (.long y :: .long x :: rest)) := by
  subst hp; exact r.on fun _ q => XS.land at_ hx rfl hd rfl q
theorem r_lor (at_ : At T m c below) (hx : p.tables.exec = Jvm.exec) {x y : Int64} (hd : decode c.code pc = .ok (.lor, 1))  (hp : pc + 1 = pc') (r : Run p e below Q En T (mkF m pc' Ls (.long (x ||| y) :: rest))) : Run p e below Q En T (mkF m pc Ls (.long y :: .long x :: rest)) := by
  subst hp; exact r.on fun _ q => XS.lor at_ hx rfl hd rfl q
theorem r_lxor (at_ : At T m c below) (hx : p.tables.exec = Jvm.exec) {x y : Int64} (hd : decode c.code pc = .ok (.lxor, 1))  (hp : pc + 1 = pc') (r : Run p e below Q En T (mkF m pc' Ls (.long (x ^^^ y) :: rest))) : Run p e below Q En T (mkF m pc Ls (.long y :: .long x :: rest)) := by
  subst hp; exact r.on fun _ q => XS.lxor at_ hx rfl hd rfl q
theorem r_ineg (at_ : At T m c below) (hx : p.tables.exec = Jvm.exec) {x : Int32} (hd : decode c.code pc = .ok (.ineg, 1))  (hp : pc + 1 = pc') (r : Run p e below Q En T (mkF m pc' Ls (.int (-x) :: rest))) : Run p e below Q En T (mkF m pc Ls (.int x :: rest)) := by
  subst hp; exact r.on fun _ q => XS.ineg at_ hx rfl hd rfl q
theorem r_lneg (at_ : At T m c below) (hx : p.tables.exec = Jvm.exec) {x : Int64} (hd : decode c.code pc = .ok (.lneg, 1))  (hp : pc + 1 = pc') (r : Run p e below Q En T (mkF m pc' Ls (.long (-x) :: rest))) : Run p e below Q En T (mkF m pc Ls (.long x :: rest)) := by
  subst hp; exact r.on fun _ q => XS.lneg at_ hx rfl hd rfl q
theorem r_ishl (at_ : At T m c below) (hx : p.tables.exec = Jvm.exec) {x y : Int32} (hd : decode c.code pc = .ok (.ishl, 1))  (hp : pc + 1 = pc') (r : Run p e below Q En T (mkF m pc' Ls (.int (x <<< (y &&& 31)) :: rest))) : Run p e below Q En T (mkF m pc Ls (.int y :: .int x :: rest)) := by
  subst hp; exact r.on fun _ q => XS.ishl at_ hx rfl hd rfl q
theorem r_ishr (at_ : At T m c below) (hx : p.tables.exec = Jvm.exec) {x y : Int32} (hd : decode c.code pc = .ok (.ishr, 1))  (hp : pc + 1 = pc') (r : Run p e below Q En T (mkF m pc' Ls (.int (x >>> (y &&& 31)) :: rest))) : Run p e below Q En T (mkF m pc Ls (.int y :: .int x :: rest)) := by
  subst hp; exact r.on fun _ q => XS.ishr at_ hx rfl hd rfl q
theorem r_iushr (at_ : At T m c below) (hx : p.tables.exec = Jvm.exec) {x y : Int32} (hd : decode c.code pc = .ok (.iushr, 1))  (hp : pc + 1 = pc') (r : Run p e below Q En T (mkF m pc' Ls (.int (ushrI x y) :: rest))) : Run p e below Q En T (mkF m pc Ls (.int y :: .int x :: rest)) := by
  subst hp; exact r.on fun _ q => XS.iushr at_ hx rfl hd rfl q
theorem r_lshl (at_ : At T m c below) (hx : p.tables.exec = Jvm.exec) {x : Int64} {y : Int32} (hd : decode c.code pc = .ok (.lshl, 1))  (hp : pc + 1 = pc') (r : Run p e below Q En T (mkF m pc' Ls (.long (x <<< (y &&& 63).toInt64) :: rest))) : Run p e below Q En T (mkF m pc Ls (.int y :: .long x :: rest)) := by
  subst hp; exact r.on fun _ q => XS.lshl at_ hx rfl hd rfl q
theorem r_lshr (at_ : At T m c below) (hx : p.tables.exec = Jvm.exec) {x : Int64} {y : Int32} (hd : decode c.code pc = .ok (.lshr, 1))  (hp : pc + 1 = pc') (r : Run p e below Q En T (mkF m pc' Ls (.long (x >>> (y &&& 63).toInt64) :: rest))) : Run p e below Q En T (mkF m pc Ls (.int y :: .long x :: rest)) := by
  subst hp; exact r.on fun _ q => XS.lshr at_ hx rfl hd rfl q
theorem r_lushr (at_ : At T m c below) (hx : p.tables.exec = Jvm.exec) {x : Int64} {y : Int32} (hd : decode c.code pc = .ok (.lushr, 1))  (hp : pc + 1 = pc') (r : Run p e below Q En T (mkF m pc' Ls (.long (ushrJ x y) :: rest))) : Run p e below Q En T (mkF m pc Ls (.int y :: .long x :: rest)) := by
  subst hp; exact r.on fun _ q => XS.lushr at_ hx rfl hd rfl q
theorem r_idiv (at_ : At T m c below) (hx : p.tables.exec = Jvm.exec) {x y : Int32} (hd : decode c.code pc = .ok (.idiv, 1)) (hy : y ≠ 0) (hp : pc + 1 = pc') (r : Run p e below Q En T (mkF m pc' Ls (.int (x / y) :: rest))) : Run p e below Q En T (mkF m pc Ls (.int y :: .int x :: rest)) := by
  subst hp; exact r.on fun _ q => XS.idiv at_ hx rfl hd rfl hy q
theorem r_irem0 (at_ : At T m c below) (hx : p.tables.exec = Jvm.exec) {x y : Int32} (hd : decode c.code pc = .ok (.irem, 1)) (hy : y ≠ 0) (hp : pc + 1 = pc') (r : Run p e below Q En T (mkF m pc' Ls (.int (x - (x / y) * y) :: rest))) : Run p e below Q En T (mkF m pc Ls (.int y :: .int x :: rest)) := by
  subst hp; exact r.on fun _ q => XS.irem at_ hx rfl hd rfl hy q
theorem r_ldiv (at_ : At T m c below) (hx : p.tables.exec = Jvm.exec) {x y : Int64} (hd : decode c.code pc = .ok (.ldiv, 1)) (hy : y ≠ 0) (hp : pc + 1 = pc') (r : Run p e below Q En T (mkF m pc' Ls (.long (x / y) :: rest))) : Run p e below Q En T (mkF m pc Ls (.long y :: .long x :: rest)) := by
  subst hp; exact r.on fun _ q => XS.ldiv at_ hx rfl hd rfl hy q
theorem r_lrem0 (at_ : At T m c below) (hx : p.tables.exec = Jvm.exec) {x y : Int64} (hd : decode c.code pc = .ok (.lrem, 1)) (hy : y ≠ 0) (hp : pc + 1 = pc') (r : Run p e below Q En T (mkF m pc' Ls (.long (x - (x / y) * y) :: rest))) : Run p e below Q En T (mkF m pc Ls (.long y :: .long x :: rest)) := by
  subst hp; exact r.on fun _ q => XS.lrem at_ hx rfl hd rfl hy q
theorem r_irem (at_ : At T m c below) (hx : p.tables.exec = Jvm.exec) {x y : Int32} (hd : decode c.code pc = .ok (.irem, 1)) (hy : y ≠ 0) (hp : pc + 1 = pc') (r : Run p e below Q En T (mkF m pc' Ls (.int (x % y) :: rest))) : Run p e below Q En T (mkF m pc Ls (.int y :: .int x :: rest)) :=
  r_irem0 at_ hx hd hy hp (by rw [show x - x / y * y = x % y from irem_eq_mod x y]; exact r)
theorem r_i2l (at_ : At T m c below) (hx : p.tables.exec = Jvm.exec) {x : Int32} (hd : decode c.code pc = .ok (.i2l, 1))  (hp : pc + 1 = pc') (r : Run p e below Q En T (mkF m pc' Ls (.long (x.toInt64) :: rest))) : Run p e below Q En T (mkF m pc Ls (.int x :: rest)) := by
  subst hp; exact r.on fun _ q => XS.i2l at_ hx rfl hd rfl q
theorem r_l2i (at_ : At T m c below) (hx : p.tables.exec = Jvm.exec) {x : Int64} (hd : decode c.code pc = .ok (.l2i, 1))  (hp : pc + 1 = pc') (r : Run p e below Q En T (mkF m pc' Ls (.int (x.toInt32) :: rest))) : Run p e below Q En T (mkF m pc Ls (.long x :: rest)) := by
  subst hp; exact r.on fun _ q => XS.l2i at_ hx rfl hd rfl q
theorem r_i2b (at_ : At T m c below) (hx : p.tables.exec = Jvm.exec) {x : Int32} (hd : decode c.code pc = .ok (.i2b, 1))  (hp : pc + 1 = pc') (r : Run p e below Q En T (mkF m pc' Ls (.int (x.toInt8.toInt32) :: rest))) : Run p e below Q En T (mkF m pc Ls (.int x :: rest)) := by
  subst hp; exact r.on fun _ q => XS.i2b at_ hx rfl hd rfl q
theorem r_i2c (at_ : At T m c below) (hx : p.tables.exec = Jvm.exec) {x : Int32} (hd : decode c.code pc = .ok (.i2c, 1))  (hp : pc + 1 = pc') (r : Run p e below Q En T (mkF m pc' Ls (.int (x.toUInt32.toUInt16.toUInt32.toInt32) :: rest))) : Run p e below Q En T (mkF m pc Ls (.int x :: rest)) := by
  subst hp; exact r.on fun _ q => XS.i2c at_ hx rfl hd rfl q
theorem r_i2s (at_ : At T m c below) (hx : p.tables.exec = Jvm.exec) {x : Int32} (hd : decode c.code pc = .ok (.i2s, 1))  (hp : pc + 1 = pc') (r : Run p e below Q En T (mkF m pc' Ls (.int (x.toInt16.toInt32) :: rest))) : Run p e below Q En T (mkF m pc Ls (.int x :: rest)) := by
  subst hp; exact r.on fun _ q => XS.i2s at_ hx rfl hd rfl q
theorem r_dup (at_ : At T m c below) (hx : p.tables.exec = Jvm.exec) {x : Value} (hd : decode c.code pc = .ok (.dup, 1)) (hc : x.category = 1) (hp : pc + 1 = pc') (r : Run p e below Q En T (mkF m pc' Ls (x :: x :: rest))) : Run p e below Q En T (mkF m pc Ls (x :: rest)) := by
  subst hp; exact r.on fun _ q => XS.dup at_ hx rfl hd rfl hc q
theorem r_pop (at_ : At T m c below) (hx : p.tables.exec = Jvm.exec) {x : Value} (hd : decode c.code pc = .ok (.pop, 1)) (hc : x.category = 1) (hp : pc + 1 = pc') (r : Run p e below Q En T (mkF m pc' Ls (rest))) : Run p e below Q En T (mkF m pc Ls (x :: rest)) := by
  subst hp; exact r.on fun _ q => XS.pop at_ hx rfl hd rfl hc q
theorem r_dup_x1 (at_ : At T m c below) (hx : p.tables.exec = Jvm.exec) {x y : Value} (hd : decode c.code pc = .ok (.dup_x1, 1)) (hc : x.category = 1) (hc' : y.category = 1) (hp : pc + 1 = pc') (r : Run p e below Q En T (mkF m pc' Ls (x :: y :: x :: rest))) : Run p e below Q En T (mkF m pc Ls (x :: y :: rest)) := by
  subst hp; exact r.on fun _ q => XS.dupX1 at_ hx rfl hd rfl hc hc' q
theorem r_dup2 (at_ : At T m c below) (hx : p.tables.exec = Jvm.exec) {x y : Value} (hd : decode c.code pc = .ok (.dup2, 1)) (hc : x.category = 1) (hc' : y.category = 1) (hp : pc + 1 = pc') (r : Run p e below Q En T (mkF m pc' Ls (x :: y :: x :: y :: rest))) : Run p e below Q En T (mkF m pc Ls (x :: y :: rest)) := by
  subst hp; exact r.on fun _ q => XT.dup2 at_ hx rfl hd rfl hc hc' q
theorem r_dup2L (at_ : At T m c below) (hx : p.tables.exec = Jvm.exec) {x : Int64} (hd : decode c.code pc = .ok (.dup2, 1))  (hp : pc + 1 = pc') (r : Run p e below Q En T (mkF m pc' Ls (.long x :: .long x :: rest))) : Run p e below Q En T (mkF m pc Ls (.long x :: rest)) := by
  subst hp; exact r.on fun _ q => XT.dup2L at_ hx rfl hd rfl q
theorem r_lcmp (at_ : At T m c below) (hx : p.tables.exec = Jvm.exec) {x y : Int64} (hd : decode c.code pc = .ok (.lcmp, 1))  (hp : pc + 1 = pc') (r : Run p e below Q En T (mkF m pc' Ls (.int (cmpJ x y) :: rest))) : Run p e below Q En T (mkF m pc Ls (.long y :: .long x :: rest)) := by
  subst hp; exact r.on fun _ q => XS.lcmp at_ hx rfl hd rfl q
theorem r_iinc (at_ : At T m c below) (hx : p.tables.exec = Jvm.exec) {k : Nat} {cst : Int} {x z : Int32} {l' : Array Slot} (hd : decode c.code pc = .ok (.iinc k cst, 3)) (hl : Ls[k]? = some (.val (.int x))) (hz : x + Int32.ofInt cst = z) (hl' : storeLocals Ls k (.int z) = some l') (hp : pc + 3 = pc') (r : Run p e below Q En T (mkF m pc' l' rest)) : Run p e below Q En T (mkF m pc Ls rest) := by
  subst hp hz; exact r.on fun _ q => XS.iinc at_ hx rfl hd hl hl' q
theorem r_goto (at_ : At T m c below) (hx : p.tables.exec = Jvm.exec) {o : Int} (hd : decode c.code pc = .ok (.goto o, 3)) (ho : 0 ≤ (pc : Int) + o) (hp : ((pc : Int) + o).toNat = pc') (r : Run p e below Q En T (mkF m pc' Ls rest)) : Run p e below Q En T (mkF m pc Ls rest) :=
  r.on fun _ q => XS.goto at_ hx rfl (pc0 := pc) rfl hd ho hp q
theorem cmpJ_c (x y : Int64) : (y.toInt < x.toInt ∧ cmpJ x y = 1) ∨ (x = y ∧ cmpJ x y = 0) ∨ (x.toInt < y.toInt ∧ cmpJ x y = -1) := by
  unfold cmpJ
  by_cases h1 : x > y
  · left; rw [if_pos h1]; exact ⟨Int64.lt_iff_toInt_lt.mp h1, rfl⟩
  · rw [if_neg h1]
    by_cases h2 : x = y
    · right; left; rw [if_pos h2]; exact ⟨h2, rfl⟩
    · right; right; rw [if_neg h2]
      have h3 : ¬ y.toInt < x.toInt := fun q => h1 (Int64.lt_iff_toInt_lt.mpr q)
      have h4 : ¬ x.toInt = y.toInt := fun q => h2 (Int64.toInt_inj.mp q)
      exact ⟨by omega, rfl⟩
theorem h_eq (x y : Int32) : if_icmp.holds .eq x y = decide (x = y) := by by_cases q : x = y <;> simp [if_icmp.holds, q]
theorem h0_eq (x : Int32) : ifCond.holds .eq x = decide (x = (0 : Int32)) := h_eq x 0
theorem r_if_eq (at_ : At T m c below) (hx : p.tables.exec = Jvm.exec) {o : Int} {x y : Int32} {pc2 : Nat} (hd : decode c.code pc = .ok (.if_icmp .eq o, 3)) (ho : 0 ≤ (pc : Int) + o) (hp : ((pc : Int) + o).toNat = pc') (hp2 : pc + 3 = pc2) (r1 : x = y → Run p e below Q En T (mkF m pc' Ls rest)) (r2 : ¬ (x = y) → Run p e below Q En T (mkF m pc2 Ls rest)) : Run p e below Q En T (mkF m pc Ls (.int y :: .int x :: rest)) := by
  subst hp2
  by_cases hc : x = y
  · exact (r1 hc).on fun _ q => XS.icmpYes at_ hx rfl (pc0 := pc) rfl hd rfl (by rw [h_eq]; exact decide_eq_true hc) ho hp q
  · exact (r2 hc).on fun _ q => XS.icmpNo at_ hx rfl hd rfl (by rw [h_eq]; exact decide_eq_false hc) q
theorem r_if0_eq (at_ : At T m c below) (hx : p.tables.exec = Jvm.exec) {o : Int} {x : Int32} {pc2 : Nat} (hd : decode c.code pc = .ok (.ifCond .eq o, 3)) (ho : 0 ≤ (pc : Int) + o) (hp : ((pc : Int) + o).toNat = pc') (hp2 : pc + 3 = pc2) (r1 : x = (0 : Int32) → Run p e below Q En T (mkF m pc' Ls rest)) (r2 : ¬ (x = (0 : Int32)) → Run p e below Q En T (mkF m pc2 Ls rest)) : Run p e below Q En T (mkF m pc Ls (.int x :: rest)) := by
  subst hp2
  by_cases hc : x = (0 : Int32)
  · exact (r1 hc).on fun _ q => XS.ifYes at_ hx rfl (pc0 := pc) rfl hd rfl (by rw [h0_eq]; exact decide_eq_true hc) ho hp q
  · exact (r2 hc).on fun _ q => XS.ifNo at_ hx rfl hd rfl (by rw [h0_eq]; exact decide_eq_false hc) q
theorem hL_eq (x y : Int64) : ifCond.holds .eq (cmpJ x y) = decide (x = y) := by
  rw [h0_eq]; apply decide_eq_decide.mpr
  rcases cmpJ_c x y with ⟨q, e⟩ | ⟨q, e⟩ | ⟨q, e⟩ <;> rw [e]
  · have ne : ¬ x = y := fun z => by rw [z] at q; omega
    simp [ne]
  · subst q; simp
  · have ne : ¬ x = y := fun z => by rw [z] at q; omega
    simp [ne]
theorem r_ifL_eq (at_ : At T m c below) (hx : p.tables.exec = Jvm.exec) {o : Int} {x y : Int64} {pc2 : Nat} (hd : decode c.code pc = .ok (.ifCond .eq o, 3)) (ho : 0 ≤ (pc : Int) + o) (hp : ((pc : Int) + o).toNat = pc') (hp2 : pc + 3 = pc2) (r1 : x = y → Run p e below Q En T (mkF m pc' Ls rest)) (r2 : ¬ (x = y) → Run p e below Q En T (mkF m pc2 Ls rest)) : Run p e below Q En T (mkF m pc Ls (.int (cmpJ x y) :: rest)) := by
  subst hp2
  by_cases hc : x = y
  · exact (r1 hc).on fun _ q => XS.ifYes at_ hx rfl (pc0 := pc) rfl hd rfl (by rw [hL_eq]; exact decide_eq_true hc) ho hp q
  · exact (r2 hc).on fun _ q => XS.ifNo at_ hx rfl hd rfl (by rw [hL_eq]; exact decide_eq_false hc) q
theorem h_ne (x y : Int32) : if_icmp.holds .ne x y = decide (¬ x = y) := by by_cases q : x = y <;> simp [if_icmp.holds, q]
theorem h0_ne (x : Int32) : ifCond.holds .ne x = decide (¬ x = (0 : Int32)) := h_ne x 0
theorem r_if_ne (at_ : At T m c below) (hx : p.tables.exec = Jvm.exec) {o : Int} {x y : Int32} {pc2 : Nat} (hd : decode c.code pc = .ok (.if_icmp .ne o, 3)) (ho : 0 ≤ (pc : Int) + o) (hp : ((pc : Int) + o).toNat = pc') (hp2 : pc + 3 = pc2) (r1 : ¬ x = y → Run p e below Q En T (mkF m pc' Ls rest)) (r2 : ¬ (¬ x = y) → Run p e below Q En T (mkF m pc2 Ls rest)) : Run p e below Q En T (mkF m pc Ls (.int y :: .int x :: rest)) := by
  subst hp2
  by_cases hc : ¬ x = y
  · exact (r1 hc).on fun _ q => XS.icmpYes at_ hx rfl (pc0 := pc) rfl hd rfl (by rw [h_ne]; exact decide_eq_true hc) ho hp q
  · exact (r2 hc).on fun _ q => XS.icmpNo at_ hx rfl hd rfl (by rw [h_ne]; exact decide_eq_false hc) q
theorem r_if0_ne (at_ : At T m c below) (hx : p.tables.exec = Jvm.exec) {o : Int} {x : Int32} {pc2 : Nat} (hd : decode c.code pc = .ok (.ifCond .ne o, 3)) (ho : 0 ≤ (pc : Int) + o) (hp : ((pc : Int) + o).toNat = pc') (hp2 : pc + 3 = pc2) (r1 : ¬ x = (0 : Int32) → Run p e below Q En T (mkF m pc' Ls rest)) (r2 : ¬ (¬ x = (0 : Int32)) → Run p e below Q En T (mkF m pc2 Ls rest)) : Run p e below Q En T (mkF m pc Ls (.int x :: rest)) := by
  subst hp2
  by_cases hc : ¬ x = (0 : Int32)
  · exact (r1 hc).on fun _ q => XS.ifYes at_ hx rfl (pc0 := pc) rfl hd rfl (by rw [h0_ne]; exact decide_eq_true hc) ho hp q
  · exact (r2 hc).on fun _ q => XS.ifNo at_ hx rfl hd rfl (by rw [h0_ne]; exact decide_eq_false hc) q
theorem hL_ne (x y : Int64) : ifCond.holds .ne (cmpJ x y) = decide (¬ x = y) := by
  rw [h0_ne]; apply decide_eq_decide.mpr
  rcases cmpJ_c x y with ⟨q, e⟩ | ⟨q, e⟩ | ⟨q, e⟩ <;> rw [e]
  · have ne : ¬ x = y := fun z => by rw [z] at q; omega
    simp [ne]
  · subst q; simp
  · have ne : ¬ x = y := fun z => by rw [z] at q; omega
    simp [ne]
theorem r_ifL_ne (at_ : At T m c below) (hx : p.tables.exec = Jvm.exec) {o : Int} {x y : Int64} {pc2 : Nat} (hd : decode c.code pc = .ok (.ifCond .ne o, 3)) (ho : 0 ≤ (pc : Int) + o) (hp : ((pc : Int) + o).toNat = pc') (hp2 : pc + 3 = pc2) (r1 : ¬ x = y → Run p e below Q En T (mkF m pc' Ls rest)) (r2 : ¬ (¬ x = y) → Run p e below Q En T (mkF m pc2 Ls rest)) : Run p e below Q En T (mkF m pc Ls (.int (cmpJ x y) :: rest)) := by
  subst hp2
  by_cases hc : ¬ x = y
  · exact (r1 hc).on fun _ q => XS.ifYes at_ hx rfl (pc0 := pc) rfl hd rfl (by rw [hL_ne]; exact decide_eq_true hc) ho hp q
  · exact (r2 hc).on fun _ q => XS.ifNo at_ hx rfl hd rfl (by rw [hL_ne]; exact decide_eq_false hc) q
theorem h_lt (x y : Int32) : if_icmp.holds .lt x y = decide (x.toInt < y.toInt) := by simp [if_icmp.holds, Int32.lt_iff_toInt_lt]
theorem h0_lt (x : Int32) : ifCond.holds .lt x = decide (x.toInt < (0 : Int32).toInt) := h_lt x 0
theorem r_if_lt (at_ : At T m c below) (hx : p.tables.exec = Jvm.exec) {o : Int} {x y : Int32} {pc2 : Nat} (hd : decode c.code pc = .ok (.if_icmp .lt o, 3)) (ho : 0 ≤ (pc : Int) + o) (hp : ((pc : Int) + o).toNat = pc') (hp2 : pc + 3 = pc2) (r1 : x.toInt < y.toInt → Run p e below Q En T (mkF m pc' Ls rest)) (r2 : ¬ (x.toInt < y.toInt) → Run p e below Q En T (mkF m pc2 Ls rest)) : Run p e below Q En T (mkF m pc Ls (.int y :: .int x :: rest)) := by
  subst hp2
  by_cases hc : x.toInt < y.toInt
  · exact (r1 hc).on fun _ q => XS.icmpYes at_ hx rfl (pc0 := pc) rfl hd rfl (by rw [h_lt]; exact decide_eq_true hc) ho hp q
  · exact (r2 hc).on fun _ q => XS.icmpNo at_ hx rfl hd rfl (by rw [h_lt]; exact decide_eq_false hc) q
theorem r_if0_lt (at_ : At T m c below) (hx : p.tables.exec = Jvm.exec) {o : Int} {x : Int32} {pc2 : Nat} (hd : decode c.code pc = .ok (.ifCond .lt o, 3)) (ho : 0 ≤ (pc : Int) + o) (hp : ((pc : Int) + o).toNat = pc') (hp2 : pc + 3 = pc2) (r1 : x.toInt < 0 → Run p e below Q En T (mkF m pc' Ls rest)) (r2 : ¬ (x.toInt < 0) → Run p e below Q En T (mkF m pc2 Ls rest)) : Run p e below Q En T (mkF m pc Ls (.int x :: rest)) := by
  subst hp2
  by_cases hc : x.toInt < 0
  · exact (r1 hc).on fun _ q => XS.ifYes at_ hx rfl (pc0 := pc) rfl hd rfl (by rw [h0_lt]; exact decide_eq_true (by rw [show (0 : Int32).toInt = 0 from rfl]; exact hc)) ho hp q
  · exact (r2 hc).on fun _ q => XS.ifNo at_ hx rfl hd rfl (by rw [h0_lt]; exact decide_eq_false (by rw [show (0 : Int32).toInt = 0 from rfl]; exact hc)) q
theorem hL_lt (x y : Int64) : ifCond.holds .lt (cmpJ x y) = decide (x.toInt < y.toInt) := by
  rw [h0_lt]; apply decide_eq_decide.mpr
  rcases cmpJ_c x y with ⟨q, e⟩ | ⟨q, e⟩ | ⟨q, e⟩ <;> rw [e]
  · have ne : ¬ x = y := fun z => by rw [z] at q; omega
    show ((1 : Int) < 0) ↔ _; omega
  · subst q; show ((0 : Int) < 0) ↔ _; omega
  · have ne : ¬ x = y := fun z => by rw [z] at q; omega
    show ((-1 : Int) < 0) ↔ _; omega
theorem r_ifL_lt (at_ : At T m c below) (hx : p.tables.exec = Jvm.exec) {o : Int} {x y : Int64} {pc2 : Nat} (hd : decode c.code pc = .ok (.ifCond .lt o, 3)) (ho : 0 ≤ (pc : Int) + o) (hp : ((pc : Int) + o).toNat = pc') (hp2 : pc + 3 = pc2) (r1 : x.toInt < y.toInt → Run p e below Q En T (mkF m pc' Ls rest)) (r2 : ¬ (x.toInt < y.toInt) → Run p e below Q En T (mkF m pc2 Ls rest)) : Run p e below Q En T (mkF m pc Ls (.int (cmpJ x y) :: rest)) := by
  subst hp2
  by_cases hc : x.toInt < y.toInt
  · exact (r1 hc).on fun _ q => XS.ifYes at_ hx rfl (pc0 := pc) rfl hd rfl (by rw [hL_lt]; exact decide_eq_true hc) ho hp q
  · exact (r2 hc).on fun _ q => XS.ifNo at_ hx rfl hd rfl (by rw [hL_lt]; exact decide_eq_false hc) q
theorem h_ge (x y : Int32) : if_icmp.holds .ge x y = decide (y.toInt ≤ x.toInt) := by simp [if_icmp.holds, Int32.le_iff_toInt_le]
theorem h0_ge (x : Int32) : ifCond.holds .ge x = decide ((0 : Int32).toInt ≤ x.toInt) := h_ge x 0
theorem r_if_ge (at_ : At T m c below) (hx : p.tables.exec = Jvm.exec) {o : Int} {x y : Int32} {pc2 : Nat} (hd : decode c.code pc = .ok (.if_icmp .ge o, 3)) (ho : 0 ≤ (pc : Int) + o) (hp : ((pc : Int) + o).toNat = pc') (hp2 : pc + 3 = pc2) (r1 : y.toInt ≤ x.toInt → Run p e below Q En T (mkF m pc' Ls rest)) (r2 : ¬ (y.toInt ≤ x.toInt) → Run p e below Q En T (mkF m pc2 Ls rest)) : Run p e below Q En T (mkF m pc Ls (.int y :: .int x :: rest)) := by
  subst hp2
  by_cases hc : y.toInt ≤ x.toInt
  · exact (r1 hc).on fun _ q => XS.icmpYes at_ hx rfl (pc0 := pc) rfl hd rfl (by rw [h_ge]; exact decide_eq_true hc) ho hp q
  · exact (r2 hc).on fun _ q => XS.icmpNo at_ hx rfl hd rfl (by rw [h_ge]; exact decide_eq_false hc) q
theorem r_if0_ge (at_ : At T m c below) (hx : p.tables.exec = Jvm.exec) {o : Int} {x : Int32} {pc2 : Nat} (hd : decode c.code pc = .ok (.ifCond .ge o, 3)) (ho : 0 ≤ (pc : Int) + o) (hp : ((pc : Int) + o).toNat = pc') (hp2 : pc + 3 = pc2) (r1 : 0 ≤ x.toInt → Run p e below Q En T (mkF m pc' Ls rest)) (r2 : ¬ (0 ≤ x.toInt) → Run p e below Q En T (mkF m pc2 Ls rest)) : Run p e below Q En T (mkF m pc Ls (.int x :: rest)) := by
  subst hp2
  by_cases hc : 0 ≤ x.toInt
  · exact (r1 hc).on fun _ q => XS.ifYes at_ hx rfl (pc0 := pc) rfl hd rfl (by rw [h0_ge]; exact decide_eq_true (by rw [show (0 : Int32).toInt = 0 from rfl]; exact hc)) ho hp q
  · exact (r2 hc).on fun _ q => XS.ifNo at_ hx rfl hd rfl (by rw [h0_ge]; exact decide_eq_false (by rw [show (0 : Int32).toInt = 0 from rfl]; exact hc)) q
theorem hL_ge (x y : Int64) : ifCond.holds .ge (cmpJ x y) = decide (y.toInt ≤ x.toInt) := by
  rw [h0_ge]; apply decide_eq_decide.mpr
  rcases cmpJ_c x y with ⟨q, e⟩ | ⟨q, e⟩ | ⟨q, e⟩ <;> rw [e]
  · have ne : ¬ x = y := fun z => by rw [z] at q; omega
    show ((0 : Int) ≤ 1) ↔ _; omega
  · subst q; show ((0 : Int) ≤ 0) ↔ _; omega
  · have ne : ¬ x = y := fun z => by rw [z] at q; omega
    show ((0 : Int) ≤ -1) ↔ _; omega
theorem r_ifL_ge (at_ : At T m c below) (hx : p.tables.exec = Jvm.exec) {o : Int} {x y : Int64} {pc2 : Nat} (hd : decode c.code pc = .ok (.ifCond .ge o, 3)) (ho : 0 ≤ (pc : Int) + o) (hp : ((pc : Int) + o).toNat = pc') (hp2 : pc + 3 = pc2) (r1 : y.toInt ≤ x.toInt → Run p e below Q En T (mkF m pc' Ls rest)) (r2 : ¬ (y.toInt ≤ x.toInt) → Run p e below Q En T (mkF m pc2 Ls rest)) : Run p e below Q En T (mkF m pc Ls (.int (cmpJ x y) :: rest)) := by
  subst hp2
  by_cases hc : y.toInt ≤ x.toInt
  · exact (r1 hc).on fun _ q => XS.ifYes at_ hx rfl (pc0 := pc) rfl hd rfl (by rw [hL_ge]; exact decide_eq_true hc) ho hp q
  · exact (r2 hc).on fun _ q => XS.ifNo at_ hx rfl hd rfl (by rw [hL_ge]; exact decide_eq_false hc) q
theorem h_gt (x y : Int32) : if_icmp.holds .gt x y = decide (y.toInt < x.toInt) := by simp [if_icmp.holds, Int32.lt_iff_toInt_lt]
theorem h0_gt (x : Int32) : ifCond.holds .gt x = decide ((0 : Int32).toInt < x.toInt) := h_gt x 0
theorem r_if_gt (at_ : At T m c below) (hx : p.tables.exec = Jvm.exec) {o : Int} {x y : Int32} {pc2 : Nat} (hd : decode c.code pc = .ok (.if_icmp .gt o, 3)) (ho : 0 ≤ (pc : Int) + o) (hp : ((pc : Int) + o).toNat = pc') (hp2 : pc + 3 = pc2) (r1 : y.toInt < x.toInt → Run p e below Q En T (mkF m pc' Ls rest)) (r2 : ¬ (y.toInt < x.toInt) → Run p e below Q En T (mkF m pc2 Ls rest)) : Run p e below Q En T (mkF m pc Ls (.int y :: .int x :: rest)) := by
  subst hp2
  by_cases hc : y.toInt < x.toInt
  · exact (r1 hc).on fun _ q => XS.icmpYes at_ hx rfl (pc0 := pc) rfl hd rfl (by rw [h_gt]; exact decide_eq_true hc) ho hp q
  · exact (r2 hc).on fun _ q => XS.icmpNo at_ hx rfl hd rfl (by rw [h_gt]; exact decide_eq_false hc) q
theorem r_if0_gt (at_ : At T m c below) (hx : p.tables.exec = Jvm.exec) {o : Int} {x : Int32} {pc2 : Nat} (hd : decode c.code pc = .ok (.ifCond .gt o, 3)) (ho : 0 ≤ (pc : Int) + o) (hp : ((pc : Int) + o).toNat = pc') (hp2 : pc + 3 = pc2) (r1 : 0 < x.toInt → Run p e below Q En T (mkF m pc' Ls rest)) (r2 : ¬ (0 < x.toInt) → Run p e below Q En T (mkF m pc2 Ls rest)) : Run p e below Q En T (mkF m pc Ls (.int x :: rest)) := by
  subst hp2
  by_cases hc : 0 < x.toInt
  · exact (r1 hc).on fun _ q => XS.ifYes at_ hx rfl (pc0 := pc) rfl hd rfl (by rw [h0_gt]; exact decide_eq_true (by rw [show (0 : Int32).toInt = 0 from rfl]; exact hc)) ho hp q
  · exact (r2 hc).on fun _ q => XS.ifNo at_ hx rfl hd rfl (by rw [h0_gt]; exact decide_eq_false (by rw [show (0 : Int32).toInt = 0 from rfl]; exact hc)) q
theorem hL_gt (x y : Int64) : ifCond.holds .gt (cmpJ x y) = decide (y.toInt < x.toInt) := by
  rw [h0_gt]; apply decide_eq_decide.mpr
  rcases cmpJ_c x y with ⟨q, e⟩ | ⟨q, e⟩ | ⟨q, e⟩ <;> rw [e]
  · have ne : ¬ x = y := fun z => by rw [z] at q; omega
    show ((0 : Int) < 1) ↔ _; omega
  · subst q; show ((0 : Int) < 0) ↔ _; omega
  · have ne : ¬ x = y := fun z => by rw [z] at q; omega
    show ((0 : Int) < -1) ↔ _; omega
theorem r_ifL_gt (at_ : At T m c below) (hx : p.tables.exec = Jvm.exec) {o : Int} {x y : Int64} {pc2 : Nat} (hd : decode c.code pc = .ok (.ifCond .gt o, 3)) (ho : 0 ≤ (pc : Int) + o) (hp : ((pc : Int) + o).toNat = pc') (hp2 : pc + 3 = pc2) (r1 : y.toInt < x.toInt → Run p e below Q En T (mkF m pc' Ls rest)) (r2 : ¬ (y.toInt < x.toInt) → Run p e below Q En T (mkF m pc2 Ls rest)) : Run p e below Q En T (mkF m pc Ls (.int (cmpJ x y) :: rest)) := by
  subst hp2
  by_cases hc : y.toInt < x.toInt
  · exact (r1 hc).on fun _ q => XS.ifYes at_ hx rfl (pc0 := pc) rfl hd rfl (by rw [hL_gt]; exact decide_eq_true hc) ho hp q
  · exact (r2 hc).on fun _ q => XS.ifNo at_ hx rfl hd rfl (by rw [hL_gt]; exact decide_eq_false hc) q
theorem h_le (x y : Int32) : if_icmp.holds .le x y = decide (x.toInt ≤ y.toInt) := by simp [if_icmp.holds, Int32.le_iff_toInt_le]
theorem h0_le (x : Int32) : ifCond.holds .le x = decide (x.toInt ≤ (0 : Int32).toInt) := h_le x 0
theorem r_if_le (at_ : At T m c below) (hx : p.tables.exec = Jvm.exec) {o : Int} {x y : Int32} {pc2 : Nat} (hd : decode c.code pc = .ok (.if_icmp .le o, 3)) (ho : 0 ≤ (pc : Int) + o) (hp : ((pc : Int) + o).toNat = pc') (hp2 : pc + 3 = pc2) (r1 : x.toInt ≤ y.toInt → Run p e below Q En T (mkF m pc' Ls rest)) (r2 : ¬ (x.toInt ≤ y.toInt) → Run p e below Q En T (mkF m pc2 Ls rest)) : Run p e below Q En T (mkF m pc Ls (.int y :: .int x :: rest)) := by
  subst hp2
  by_cases hc : x.toInt ≤ y.toInt
  · exact (r1 hc).on fun _ q => XS.icmpYes at_ hx rfl (pc0 := pc) rfl hd rfl (by rw [h_le]; exact decide_eq_true hc) ho hp q
  · exact (r2 hc).on fun _ q => XS.icmpNo at_ hx rfl hd rfl (by rw [h_le]; exact decide_eq_false hc) q
theorem r_if0_le (at_ : At T m c below) (hx : p.tables.exec = Jvm.exec) {o : Int} {x : Int32} {pc2 : Nat} (hd : decode c.code pc = .ok (.ifCond .le o, 3)) (ho : 0 ≤ (pc : Int) + o) (hp : ((pc : Int) + o).toNat = pc') (hp2 : pc + 3 = pc2) (r1 : x.toInt ≤ 0 → Run p e below Q En T (mkF m pc' Ls rest)) (r2 : ¬ (x.toInt ≤ 0) → Run p e below Q En T (mkF m pc2 Ls rest)) : Run p e below Q En T (mkF m pc Ls (.int x :: rest)) := by
  subst hp2
  by_cases hc : x.toInt ≤ 0
  · exact (r1 hc).on fun _ q => XS.ifYes at_ hx rfl (pc0 := pc) rfl hd rfl (by rw [h0_le]; exact decide_eq_true (by rw [show (0 : Int32).toInt = 0 from rfl]; exact hc)) ho hp q
  · exact (r2 hc).on fun _ q => XS.ifNo at_ hx rfl hd rfl (by rw [h0_le]; exact decide_eq_false (by rw [show (0 : Int32).toInt = 0 from rfl]; exact hc)) q
theorem hL_le (x y : Int64) : ifCond.holds .le (cmpJ x y) = decide (x.toInt ≤ y.toInt) := by
  rw [h0_le]; apply decide_eq_decide.mpr
  rcases cmpJ_c x y with ⟨q, e⟩ | ⟨q, e⟩ | ⟨q, e⟩ <;> rw [e]
  · have ne : ¬ x = y := fun z => by rw [z] at q; omega
    show ((1 : Int) ≤ 0) ↔ _; omega
  · subst q; show ((0 : Int) ≤ 0) ↔ _; omega
  · have ne : ¬ x = y := fun z => by rw [z] at q; omega
    show ((-1 : Int) ≤ 0) ↔ _; omega
theorem r_ifL_le (at_ : At T m c below) (hx : p.tables.exec = Jvm.exec) {o : Int} {x y : Int64} {pc2 : Nat} (hd : decode c.code pc = .ok (.ifCond .le o, 3)) (ho : 0 ≤ (pc : Int) + o) (hp : ((pc : Int) + o).toNat = pc') (hp2 : pc + 3 = pc2) (r1 : x.toInt ≤ y.toInt → Run p e below Q En T (mkF m pc' Ls rest)) (r2 : ¬ (x.toInt ≤ y.toInt) → Run p e below Q En T (mkF m pc2 Ls rest)) : Run p e below Q En T (mkF m pc Ls (.int (cmpJ x y) :: rest)) := by
  subst hp2
  by_cases hc : x.toInt ≤ y.toInt
  · exact (r1 hc).on fun _ q => XS.ifYes at_ hx rfl (pc0 := pc) rfl hd rfl (by rw [hL_le]; exact decide_eq_true hc) ho hp q
  · exact (r2 hc).on fun _ q => XS.ifNo at_ hx rfl hd rfl (by rw [hL_le]; exact decide_eq_false hc) q
theorem r_ifnullY (at_ : At T m c below) (hx : p.tables.exec = Jvm.exec) {o : Int} (hd : decode c.code pc = .ok (.ifnull o, 3)) (ho : 0 ≤ (pc : Int) + o) (hp : ((pc : Int) + o).toNat = pc') (r : Run p e below Q En T (mkF m pc' Ls rest)) : Run p e below Q En T (mkF m pc Ls (.null :: rest)) :=
  r.on fun _ q => XS.ifnullYes at_ hx rfl (pc0 := pc) rfl hd rfl ho hp q
theorem r_ifnullN (at_ : At T m c below) (hx : p.tables.exec = Jvm.exec) {o : Int} {b : Addr} (hd : decode c.code pc = .ok (.ifnull o, 3)) (hp : pc + 3 = pc') (r : Run p e below Q En T (mkF m pc' Ls rest)) : Run p e below Q En T (mkF m pc Ls (.ref b :: rest)) := by
  subst hp; exact r.on fun _ q => XS.ifnullNo at_ hx rfl hd rfl q
theorem r_ifnonnullY (at_ : At T m c below) (hx : p.tables.exec = Jvm.exec) {o : Int} {b : Addr} (hd : decode c.code pc = .ok (.ifnonnull o, 3)) (ho : 0 ≤ (pc : Int) + o) (hp : ((pc : Int) + o).toNat = pc') (r : Run p e below Q En T (mkF m pc' Ls rest)) : Run p e below Q En T (mkF m pc Ls (.ref b :: rest)) :=
  r.on fun _ q => XS.ifnonnullYes at_ hx rfl (pc0 := pc) rfl hd rfl ho hp q
theorem r_ifnonnullN (at_ : At T m c below) (hx : p.tables.exec = Jvm.exec) {o : Int} (hd : decode c.code pc = .ok (.ifnonnull o, 3)) (hp : pc + 3 = pc') (r : Run p e below Q En T (mkF m pc' Ls rest)) : Run p e below Q En T (mkF m pc Ls (.null :: rest)) := by
  subst hp; exact r.on fun _ q => XS.ifnonnullNo at_ hx rfl hd rfl q
theorem r_acmp_eq (at_ : At T m c below) (hx : p.tables.exec = Jvm.exec) {o : Int} {x y : Value} {pc2 : Nat} (hd : decode c.code pc = .ok (.if_acmp .eq o, 3)) (h1 : x.isRef = true) (h2 : y.isRef = true) (ho : 0 ≤ (pc : Int) + o) (hp : ((pc : Int) + o).toNat = pc') (hp2 : pc + 3 = pc2) (r1 : x = y → Run p e below Q En T (mkF m pc' Ls rest)) (r2 : ¬ x = y → Run p e below Q En T (mkF m pc2 Ls rest)) : Run p e below Q En T (mkF m pc Ls (y :: x :: rest)) := by
  subst hp2
  by_cases hc : x = y
  · exact (r1 hc).on fun _ q => XT.acmpYes at_ hx rfl (pc0 := pc) rfl hd rfl h1 h2 (by simp [XT.acmp, hc]) ho hp q
  · exact (r2 hc).on fun _ q => XT.acmpNo at_ hx rfl hd rfl h1 h2 (by simp [XT.acmp, hc]) q
theorem r_acmp_ne (at_ : At T m c below) (hx : p.tables.exec = Jvm.exec) {o : Int} {x y : Value} {pc2 : Nat} (hd : decode c.code pc = .ok (.if_acmp .ne o, 3)) (h1 : x.isRef = true) (h2 : y.isRef = true) (ho : 0 ≤ (pc : Int) + o) (hp : ((pc : Int) + o).toNat = pc') (hp2 : pc + 3 = pc2) (r1 : ¬ x = y → Run p e below Q En T (mkF m pc' Ls rest)) (r2 : x = y → Run p e below Q En T (mkF m pc2 Ls rest)) : Run p e below Q En T (mkF m pc Ls (y :: x :: rest)) := by
  subst hp2
  by_cases hc : x = y
  · exact (r2 hc).on fun _ q => XT.acmpNo at_ hx rfl hd rfl h1 h2 (by simp [XT.acmp, hc]) q
  · exact (r1 hc).on fun _ q => XT.acmpYes at_ hx rfl (pc0 := pc) rfl hd rfl h1 h2 (by simp [XT.acmp, hc]) ho hp q
theorem r_retN (X : Stand p l e R s m args below meth c T locs cells slots) (hx : p.tables.exec = Jvm.exec) (hlk : meth.locks = false) {t : FieldType} {z w : Int32} (hret : meth.sig.returnType = some t) (ht : t = .boolean ∨ t = .byte ∨ t = .char ∨ t = .short) (hd : decode c.code pc = .ok (.ireturn, 1)) (hn : nar t z = w) (hq : Q (some (.int w)) T.heap locs) (h1 : cells ≤ kc) (h2 : slots ≤ ks) : Run p e below Q (fun o t L => FrameEnd s o t L kc ks) T (mkF m pc Ls (.int z :: rest)) := by
  subst hn
  obtain ⟨fs, hr, hrun, hended, hW, hsame⟩ := X.leave (v := some (.int (nar t z))) (fun q => by rw [hret] at q; cases q) hlk
  exact ⟨_, _, retN X hx hret ht hd hr, hrun, hended, _, _, rfl, hq, ⟨_, rfl⟩, hW, hsame.mono h1 h2⟩
theorem r_retV (X : Stand p l e R s m args below meth c T locs cells slots) (hx : p.tables.exec = Jvm.exec) (hlk : meth.locks = false) {t : FieldType} {w : Value} {i : Instr} (hret : meth.sig.returnType = some t) (hn : narrow t w = w)
    (hi : (i = .ireturn ∧ (t = .int ∨ t = .boolean ∨ t = .byte ∨ t = .char ∨ t = .short) ∧ ∃ z, w = .int z) ∨ (i = .lreturn ∧ t = .long ∧ ∃ z, w = .long z) ∨ (i = .dreturn ∧ t = .double ∧ ∃ z, w = .double z) ∨ (i = .freturn ∧ t = .float ∧ ∃ z, w = .float z) ∨ (i = .areturn ∧ t.isReference = true ∧ w.isRef = true))
    (hd : decode c.code pc = .ok (i, 1)) (hq : Q (some w) T.heap locs) (h1 : cells ≤ kc) (h2 : slots ≤ ks) : Run p e below Q (fun o t L => FrameEnd s o t L kc ks) T (mkF m pc Ls (w :: rest)) := by
  obtain ⟨fs, hr, hrun, hended, hW, hsame⟩ := X.leave (v := some w) (fun q => by rw [hret] at q; cases q) hlk
  exact ⟨_, _, retOut X hx hret hn hi hd hr, hrun, hended, _, _, rfl, hq, ⟨_, rfl⟩, hW, hsame.mono h1 h2⟩
theorem r_retI (X : Stand p l e R s m args below meth c T locs cells slots) (hx : p.tables.exec = Jvm.exec) (hlk : meth.locks = false) {w : Int32} (hret : meth.sig.returnType = some .int) (hd : decode c.code pc = .ok (.ireturn, 1)) (hq : Q (some (.int w)) T.heap locs) (h1 : cells ≤ kc) (h2 : slots ≤ ks) : Run p e below Q (fun o t L => FrameEnd s o t L kc ks) T (mkF m pc Ls (.int w :: rest)) :=
  r_retV X hx hlk hret rfl (Or.inl ⟨rfl, Or.inl rfl, _, rfl⟩) hd hq h1 h2
theorem r_retJ (X : Stand p l e R s m args below meth c T locs cells slots) (hx : p.tables.exec = Jvm.exec) (hlk : meth.locks = false) {w : Int64} (hret : meth.sig.returnType = some .long) (hd : decode c.code pc = .ok (.lreturn, 1)) (hq : Q (some (.long w)) T.heap locs) (h1 : cells ≤ kc) (h2 : slots ≤ ks) : Run p e below Q (fun o t L => FrameEnd s o t L kc ks) T (mkF m pc Ls (.long w :: rest)) :=
  r_retV X hx hlk hret rfl (Or.inr (Or.inl ⟨rfl, rfl, _, rfl⟩)) hd hq h1 h2
theorem r_retD (X : Stand p l e R s m args below meth c T locs cells slots) (hx : p.tables.exec = Jvm.exec) (hlk : meth.locks = false) {w : UInt64} (hret : meth.sig.returnType = some .double) (hd : decode c.code pc = .ok (.dreturn, 1)) (hq : Q (some (.double w)) T.heap locs) (h1 : cells ≤ kc) (h2 : slots ≤ ks) : Run p e below Q (fun o t L => FrameEnd s o t L kc ks) T (mkF m pc Ls (.double w :: rest)) :=
  r_retV X hx hlk hret rfl (Or.inr (Or.inr (Or.inl ⟨rfl, rfl, _, rfl⟩))) hd hq h1 h2
theorem r_retA (X : Stand p l e R s m args below meth c T locs cells slots) (hx : p.tables.exec = Jvm.exec) (hlk : meth.locks = false) {t : FieldType} {w : Value} (hret : meth.sig.returnType = some t) (ht : t.isReference = true) (hw : w.isRef = true) (hd : decode c.code pc = .ok (.areturn, 1)) (hq : Q (some w) T.heap locs) (h1 : cells ≤ kc) (h2 : slots ≤ ks) : Run p e below Q (fun o t L => FrameEnd s o t L kc ks) T (mkF m pc Ls (w :: rest)) :=
  r_retV X hx hlk hret (by rcases ref_cases hw with rfl | ⟨a, rfl⟩ <;> cases t <;> first | rfl | cases ht) (Or.inr (Or.inr (Or.inr (Or.inr ⟨rfl, ht, hw⟩)))) hd hq h1 h2
theorem r_ret0 (X : Stand p l e R s m args below meth c T locs cells slots) (hx : p.tables.exec = Jvm.exec) (hlk : meth.locks = false) (hret : meth.sig.returnType = none) (hd : decode c.code pc = .ok (.return_, 1)) (hq : Q none T.heap locs) (h1 : cells ≤ kc) (h2 : slots ≤ ks) : Run p e below Q (fun o t L => FrameEnd s o t L kc ks) T (mkF m pc Ls []) := by
  obtain ⟨fs, hr, hrun, hended, hW, hsame⟩ := X.leave (v := none) (fun _ => rfl) hlk
  exact ⟨_, _, X.returnOut hx hret hd hr, hrun, hended, _, _, rfl, hq, ⟨_, rfl⟩, hW, hsame.mono h1 h2⟩
theorem r_ldc (X : Stand p l e R s m args below meth c T locs cells slots) (hx : p.tables.exec = Jvm.exec) (hZ : Z.Warmed39 s.vm) {own : String} {index : Nat} {v : Int32} (hown : s.vm.findClass own = some m.cls) (w : (Jvm.Cond.constant own index v).before a0 Z = true) (hd : decode c.code pc = .ok (.ldc index, 2)) (hp : pc + 2 = pc') (r : Run p e below Q En T (mkF m pc' Ls (.int v :: rest))) : Run p e below Q En T (mkF m pc Ls rest) := by
  subst hp; exact r.on fun _ q => X.ldcInt hx hown (mvT hZ w) (g := mkF m pc Ls rest) rfl hd _ q
theorem r_ldc2 (X : Stand p l e R s m args below meth c T locs cells slots) (hx : p.tables.exec = Jvm.exec) (hZ : Z.Warmed39 s.vm) {own : String} {index : Nat} {v : Int64} (hown : s.vm.findClass own = some m.cls) (w : (Jvm.Cond.constantLong own index v).before a0 Z = true) (hd : decode c.code pc = .ok (.ldc2_w index, 3)) (hp : pc + 3 = pc') (r : Run p e below Q En T (mkF m pc' Ls (.long v :: rest))) : Run p e below Q En T (mkF m pc Ls rest) := by
  subst hp; exact r.on fun _ q => X.ldc2Long hx hown (mvT hZ w) (g := mkF m pc Ls rest) rfl hd _ q
theorem r_callS (X : Stand p l e R s m args below meth c T locs cells slots) (hx : p.tables.exec = Jvm.exec) (hZ : Z.Warmed39 s.vm) {own : String} {index : Nat} {y : MethodName} {bytes : ByteArray} {maxL : Nat} {ret : Option FieldType} {rm : Room} {as' : Array Value} {Qc : Option Value → Heap → List Loc → Prop} {argsL : List Value} {W : Nat}
    (hown : s.vm.findClass own = some m.cls) (w1 : (Jvm.Cond.methodLink own index y).before a0 Z = true) (w2 : (Jvm.Cond.static y).before a0 Z = true) (w3 : (Jvm.Cond.initialized y.cls).before a0 Z = true) (w4 : (Jvm.Cond.code y bytes maxL ret).before a0 Z = true) (hy : y.cls ≠ "java/lang/invoke/MethodHandle" ∧ y.cls ≠ "java/lang/invoke/VarHandle")
    (hM : Met l Z y bytes maxL ret [] rm as' h Qc rm.cells rm.slots) (eT : T.heap = h) (hsz : Ls.size = c.maxLocals) (hlen : ∀ sig, parseMethodDescriptor y.desc = some sig → argsL.length = sig.parameters.length) (hst : st = argsL.reverse ++ rest) (has : argsL.toArray = as') (hW : (rest.map fun v => v.category).sum = W)
    (hf : rm.frames + 1 ≤ R.frames) (hl : W + (maxL + 11) + rm.locals ≤ R.locals) (hcl : cells + rm.cells ≤ R.cells) (hsl : slots + rm.slots ≤ R.slots) (hd : decode c.code pc = .ok (.invokestatic index, 3)) (hp : pc + 3 = pc')
    (r : ∀ (v : Option Value) (T' : State) (L : List Loc), Stand p l e R s m args below meth c T' (locs ++ L) (cells + rm.cells) (slots + rm.slots) → Qc v T'.heap L → Run p e below Q En T' (mkF m pc' Ls (v.toList ++ rest))) : Run p e below Q En T (mkF m pc Ls st) := by
  subst hp
  obtain ⟨v, _, ⟨T', L', k', n'⟩, -, X', ⟨L, hQ, l1, y1, z1⟩, stp⟩ := Jvm.LawKit.callS X hx (y := y) hown (mvT hZ w1) (mvT hZ w2) (mvT hZ w3) (mvT hZ w4) hy (backOf (W := W) hM hZ w4 w3 hf hl) (g := mkF m pc Ls st) rfl hsz (argsL := argsL) (rest := rest) hlen hst (by show 2 * 0 + _ ≤ _; omega) hd (fun _ _ => ⟨has, eT, hcl, hsl⟩)
  dsimp only at X' l1 y1 z1 stp hQ
  subst l1 y1 z1
  exact (r v T' L X' hQ).on stp
theorem r_callI (X : Stand p l e R s m args below meth c T locs cells slots) (hx : p.tables.exec = Jvm.exec) (hZ : Z.Warmed39 s.vm) {own : String} {index : Nat} {y : MethodName} {bytes : ByteArray} {maxL : Nat} {rm : Room} {as' : Array Value} {Qc : Option Value → Heap → List Loc → Prop} {argsL : List Value} {W : Nat} {a : Addr}
    (hown : s.vm.findClass own = some m.cls) (hy1 : y.name = "<init>") (w1 : (Jvm.Cond.methodLink own index y).before a0 Z = true) (w2 : (Jvm.Cond.instanceMethod y).before a0 Z = true) (w3 : (Jvm.Cond.initialized y.cls).before a0 Z = true) (w4 : (Jvm.Cond.code y bytes maxL none).before a0 Z = true) (hy : y.cls ≠ "java/lang/invoke/MethodHandle" ∧ y.cls ≠ "java/lang/invoke/VarHandle")
    (hM : Met l Z y bytes maxL none [] rm as' h Qc rm.cells rm.slots) (eT : T.heap = h) (hsz : Ls.size = c.maxLocals) (hlen : ∀ sig, parseMethodDescriptor y.desc = some sig → argsL.length = sig.parameters.length) (hst : st = argsL.reverse ++ .ref a :: rest) (has : (.ref a :: argsL).toArray = as') (hW : (rest.map fun v => v.category).sum = W)
    (hf : rm.frames + 1 ≤ R.frames) (hl : W + (maxL + 11) + rm.locals ≤ R.locals) (hcl : cells + rm.cells ≤ R.cells) (hsl : slots + rm.slots ≤ R.slots) (hd : decode c.code pc = .ok (.invokespecial index, 3)) (hp : pc + 3 = pc')
    (r : ∀ (v : Option Value) (T' : State) (L : List Loc), Stand p l e R s m args below meth c T' (locs ++ L) (cells + rm.cells) (slots + rm.slots) → Qc v T'.heap L → Run p e below Q En T' (mkF m pc' Ls (v.toList ++ rest))) : Run p e below Q En T (mkF m pc Ls st) := by
  subst hp
  obtain ⟨v, _, ⟨T', L', k', n'⟩, -, X', ⟨L, hQ, l1, y1, z1⟩, stp⟩ := X.specialBack hx (y := y) hy1 hown (mvT hZ w1) (mvT hZ w2) (mvT hZ w4) hy (backOf (W := W) hM hZ w4 w3 hf hl) (g := mkF m pc Ls st) rfl hsz (Steps.refl _) (a := a) (argsL := argsL) (rest := rest) hlen hst (by show 2 * 0 + _ ≤ _; omega) hd (fun _ _ => ⟨has, eT, hcl, hsl⟩)
  dsimp only at X' l1 y1 z1 stp hQ
  subst l1 y1 z1
  exact (r v T' L X' hQ).on fun _ q => stp.trans q
theorem r_callV (X : Stand p l e R s m args below meth c T locs cells slots) (hx : p.tables.exec = Jvm.exec) (hZ : Z.Warmed39 s.vm) {own C : String} {index : Nat} {y z : MethodName} {bytes : ByteArray} {maxL : Nat} {ret : Option FieldType} {rm : Room} {as' : Array Value} {Qc : Option Value → Heap → List Loc → Prop} {argsL : List Value} {W : Nat} {a : Addr}
    (hown : s.vm.findClass own = some m.cls) (w1 : (Jvm.Cond.methodLink own index y).before a0 Z = true) (w2 : (Jvm.Cond.declares y).before a0 Z = true) (nf : NotFace s y) (w5 : (Jvm.Cond.selects C y z).before a0 Z = true) (w6 : (Jvm.Cond.instanceMethod z).before a0 Z = true) (w3 : (Jvm.Cond.initialized z.cls).before a0 Z = true) (w4 : (Jvm.Cond.code z bytes maxL ret).before a0 Z = true) (hy : y.cls ≠ "java/lang/invoke/MethodHandle" ∧ y.cls ≠ "java/lang/invoke/VarHandle")
    (hM : Met l Z z bytes maxL ret [] rm as' h Qc rm.cells rm.slots) (eT : T.heap = h) (E : Exa Z h a C) (hsz : Ls.size = c.maxLocals) (hlen : ∀ sig, parseMethodDescriptor y.desc = some sig → argsL.length = sig.parameters.length) (hst : st = argsL.reverse ++ .ref a :: rest) (has : (.ref a :: argsL).toArray = as') (hW : (rest.map fun v => v.category).sum = W)
    (hf : rm.frames + 1 ≤ R.frames) (hl : W + (maxL + 11) + rm.locals ≤ R.locals) (hcl : cells + rm.cells ≤ R.cells) (hsl : slots + rm.slots ≤ R.slots) (hd : decode c.code pc = .ok (.invokevirtual index, 3)) (hp : pc + 3 = pc')
    (r : ∀ (v : Option Value) (T' : State) (L : List Loc), Stand p l e R s m args below meth c T' (locs ++ L) (cells + rm.cells) (slots + rm.slots) → Qc v T'.heap L → Run p e below Q En T' (mkF m pc' Ls (v.toList ++ rest))) : Run p e below Q En T (mkF m pc Ls st) := by
  subst hp
  obtain ⟨cq, kq, qa, qb, qc⟩ := isOf hZ eT E
  obtain ⟨v, _, ⟨T', L', k', n'⟩, -, X', ⟨L, hQ, l1, y1, z1⟩, stp⟩ := X.virtualBack hx (y := y) (z := z) hown (mvT hZ w1) (mvT hZ w2) nf (mvT hZ w5) (mvT hZ w6) hy (backOf (W := W) hM hZ w4 w3 hf hl) qa qc (g := mkF m pc Ls st) rfl hsz (Steps.refl _) (argsL := argsL) (rest := rest) hlen hst (by show 2 * 0 + _ ≤ _; omega) hd (fun _ _ => ⟨has, eT, hcl, hsl⟩)
  dsimp only at X' l1 y1 z1 stp hQ
  subst l1 y1 z1
  exact (r v T' L X' hQ).on fun _ q => stp.trans q
theorem r_initO (X : Stand p l e R s m args below meth c T locs cells slots) (hx : p.tables.exec = Jvm.exec) (hZ : Z.Warmed39 s.vm) {own : String} {index : Nat} {a : Addr} {W : Nat}
    (hown : s.vm.findClass own = some m.cls) (w1 : (Jvm.Cond.methodLink own index Lib.objectInit).before a0 Z = true) (w2 : (Jvm.Cond.instanceMethod Lib.objectInit).before a0 Z = true) (w4 : (Jvm.Cond.code Lib.objectInit ⟨#[0xb1]⟩ 1 none).before a0 Z = true)
    (eT : T.heap = h) (hsz : Ls.size = c.maxLocals) (hf : 1 ≤ R.frames) (hW : (rest.map fun v => v.category).sum = W) (hl : W + 12 ≤ R.locals) (hd : decode c.code pc = .ok (.invokespecial index, 3)) (hp : pc + 3 = pc')
    (r : ∀ T', Stand p l e R s m args below meth c T' locs cells slots → T'.heap = h → Run p e below Q En T' (mkF m pc' Ls rest)) : Run p e below Q En T (mkF m pc Ls (.ref a :: rest)) := by
  subst hp
  obtain ⟨T', X', e', stp⟩ := initO X hx hZ hown w1 w2 w4 eT (g := mkF m pc Ls (.ref a :: rest)) rfl hsz rfl hd hf (W := W) (by show 2 * 0 + _ ≤ _; omega) hl
  exact (r T' X' e').on stp
theorem r_new (X : Stand p l e R s m args below meth c T locs cells slots) (hx : p.tables.exec = Jvm.exec) (hZ : Z.Warmed39 s.vm) {own C : String} {index n : Nat} (hown : s.vm.findClass own = some m.cls) (w : (Jvm.Cond.classLink own index C).before a0 Z = true) (wi : (Jvm.Cond.instantiable C n).before a0 Z = true) (wz : (Jvm.Cond.initialized C).before a0 Z = true) (eT : T.heap = h) (hc : cells + 1 ≤ R.cells) (hl : slots + n ≤ R.slots) (hd : decode c.code pc = .ok (.new index, 3)) (hp : pc + 3 = pc')
    (r : ∀ (T' : State) (h' : Heap) (a : Addr), a = h.size → Stand p l e R s m args below meth c T' locs (cells + 1) (slots + n) → T'.heap = h' → Ext h h' → Exa Z h' a C → (∀ {O nm d : String} {ty : FieldType}, Laid Z a0 C O nm d → parseFieldDescriptor d = some ty → Fld Z h' a O nm d (defaultValue ty)) → Run p e below Q En T' (mkF m pc' Ls (.ref a :: rest))) : Run p e below Q En T (mkF m pc Ls rest) := by
  subst hp
  obtain ⟨T', h', X', e', E', A', D', -, stp⟩ := newO X hx hZ hown w wi wz eT (g := mkF m pc Ls rest) rfl hd hc hl
  exact (r T' h' h.size rfl X' e' E' A' D').on stp
theorem r_getF (X : Stand p l e R s m args below meth c T locs cells slots) (hx : p.tables.exec = Jvm.exec) (hZ : Z.Warmed39 s.vm) {own R0 O n d : String} {index : Nat} {a : Addr} {v : Value} (hown : s.vm.findClass own = some m.cls) (w : (Jvm.Cond.fieldLink own index R0 n d).before a0 Z = true) (via : Via Z R0 O n d) (eT : T.heap = h) (F : Fld Z h a O n d v) (hd : decode c.code pc = .ok (.getfield index, 3)) (hp : pc + 3 = pc')
    (r : ∀ T', Stand p l e R s m args below meth c T' locs cells slots → T'.heap = h → Run p e below Q En T' (mkF m pc' Ls (v :: rest))) : Run p e below Q En T (mkF m pc Ls (.ref a :: rest)) := by
  subst hp
  obtain ⟨T', X', e', stp⟩ := getF X hx hZ hown (host := "") (Or.inl w) via eT F (g := mkF m pc Ls (.ref a :: rest)) rfl rfl hd
  exact (r T' X' e').on stp
theorem r_getFN (X : Stand p l e R s m args below meth c T locs cells slots) (hx : p.tables.exec = Jvm.exec) (hZ : Z.Warmed39 s.vm) {own R0 O n d host : String} {index : Nat} {a : Addr} {v : Value} (hown : s.vm.findClass own = some m.cls) (w : (Jvm.Cond.fieldLinkNest own index R0 n d host).before a0 Z = true) (via : Via Z R0 O n d) (eT : T.heap = h) (F : Fld Z h a O n d v) (hd : decode c.code pc = .ok (.getfield index, 3)) (hp : pc + 3 = pc')
    (r : ∀ T', Stand p l e R s m args below meth c T' locs cells slots → T'.heap = h → Run p e below Q En T' (mkF m pc' Ls (v :: rest))) : Run p e below Q En T (mkF m pc Ls (.ref a :: rest)) := by
  subst hp
  obtain ⟨T', X', e', stp⟩ := getF X hx hZ hown (Or.inr w) via eT F (g := mkF m pc Ls (.ref a :: rest)) rfl rfl hd
  exact (r T' X' e').on stp
theorem r_getS (X : Stand p l e R s m args below meth c T locs cells slots) (hx : p.tables.exec = Jvm.exec) (hZ : Z.Warmed39 s.vm) {own R0 O n d : String} {index : Nat} {v : Value} (hown : s.vm.findClass own = some m.cls) (w : (Jvm.Cond.fieldLink own index R0 n d).before a0 Z = true) (via : Via Z R0 O n d) (eT : T.heap = h) (F : Sta Z h O n d v) (hd : decode c.code pc = .ok (.getstatic index, 3)) (hp : pc + 3 = pc')
    (r : ∀ T', Stand p l e R s m args below meth c T' locs cells slots → T'.heap = h → Run p e below Q En T' (mkF m pc' Ls (v :: rest))) : Run p e below Q En T (mkF m pc Ls rest) := by
  subst hp
  obtain ⟨T', X', e', stp⟩ := getS2 X hx hZ hown (host := "") (Or.inl w) via eT F (g := mkF m pc Ls rest) rfl hd
  exact (r T' X' e').on stp
theorem r_putF (X : Stand p l e R s m args below meth c T locs cells slots) (hx : p.tables.exec = Jvm.exec) (hZ : Z.Warmed39 s.vm) {own R0 O n d C : String} {index kk : Nat} {ty : FieldType} {a : Addr} {v old : Value} (hown : s.vm.findClass own = some m.cls) (w : (Jvm.Cond.fieldLink own index R0 n d).before a0 Z = true) (via : Via Z R0 O n d) (eT : T.heap = h) (F : Fld Z h a O n d old) (E : Exa Z h a C) (L : (Jvm.Cond.lays C O n d).before a0 Z = true ∨ ((Jvm.Cond.laysFinal C O n d).before a0 Z = true ∧ own = O ∧ meth.name = "<init>")) (wi : (Jvm.Cond.instantiable C kk).before a0 Z = true) (hty : parseFieldDescriptor d = some ty) (hn : narrow ty v = v) (hf : fits ty v = true) (hd : decode c.code pc = .ok (.putfield index, 3)) (hp : pc + 3 = pc')
    (r : ∀ (T' : State) (h' : Heap), Stand p l e R s m args below meth c T' (locs ++ [⟨a, Jvm.RoadKit.slotOf Z O n d⟩]) cells slots → T'.heap = h' → Wr h h' a (Jvm.RoadKit.slotOf Z O n d) v → Run p e below Q En T' (mkF m pc' Ls rest)) : Run p e below Q En T (mkF m pc Ls (v :: .ref a :: rest)) := by
  subst hp
  obtain ⟨T', h', X', e', W', stp⟩ := putF X hx hZ hown (host := "") (Or.inl w) via eT F E L wi hty hn hf (g := mkF m pc Ls (v :: .ref a :: rest)) rfl rfl hd
  exact (r T' h' X' e' W').on stp
theorem r_newarray (X : Stand p l e R s m args below meth c T locs cells slots) (hx : p.tables.exec = Jvm.exec) (hZ : Z.Warmed39 s.vm) {aty : ArrayType} (w : (Jvm.Cond.arrayClass (newarray.typeOf aty)).before a0 Z = true) (eT : T.heap = h) {n : Int32} {cap : Nat} (hn : ¬ n < 0) (hcap : n.toNatClampNeg ≤ cap) (hb8 : cap * 8 ≤ 536870912) (hc : cells + 1 ≤ R.cells) (hl : slots + cap ≤ R.slots) (hd : decode c.code pc = .ok (.newarray aty, 2)) (hp : pc + 2 = pc')
    (r : ∀ (T' : State) (h' : Heap) (a : Addr) (cA : ClassId), a = h.size → Stand p l e R s m args below meth c T' locs (cells + 1) (slots + cap) → T'.heap = h' → Ext h h' → Arr Z h' a (newA cA (newarray.typeOf aty) n) (newarray.typeOf aty) → Run p e below Q En T' (mkF m pc' Ls (.ref a :: rest))) : Run p e below Q En T (mkF m pc Ls (.int n :: rest)) := by
  subst hp
  obtain ⟨T', h', cA, X', e', E', A', stp⟩ := newP X hx hZ w eT (g := mkF m pc Ls (.int n :: rest)) rfl hd rfl hn hcap hb8 hc hl
  exact (r T' h' h.size cA rfl X' e' E' A').on stp
theorem r_putFN (X : Stand p l e R s m args below meth c T locs cells slots) (hx : p.tables.exec = Jvm.exec) (hZ : Z.Warmed39 s.vm) {own R0 O n d C : String} {index kk : Nat} {ty : FieldType} {a : Addr} {v v' old : Value} (hown : s.vm.findClass own = some m.cls) (w : (Jvm.Cond.fieldLink own index R0 n d).before a0 Z = true) (via : Via Z R0 O n d) (eT : T.heap = h) (F : Fld Z h a O n d old) (E : Exa Z h a C) (L : (Jvm.Cond.lays C O n d).before a0 Z = true ∨ ((Jvm.Cond.laysFinal C O n d).before a0 Z = true ∧ own = O ∧ meth.name = "<init>")) (wi : (Jvm.Cond.instantiable C kk).before a0 Z = true) (hty : parseFieldDescriptor d = some ty) (hn : narrow ty v = v') (hf : fits ty v' = true) (hd : decode c.code pc = .ok (.putfield index, 3)) (hp : pc + 3 = pc')
    (r : ∀ (T' : State) (h' : Heap), Stand p l e R s m args below meth c T' (locs ++ [⟨a, Jvm.RoadKit.slotOf Z O n d⟩]) cells slots → T'.heap = h' → Wr h h' a (Jvm.RoadKit.slotOf Z O n d) v' → Run p e below Q En T' (mkF m pc' Ls rest)) : Run p e below Q En T (mkF m pc Ls (v :: .ref a :: rest)) := by
  subst hp
  obtain ⟨T', h', X', e', W', stp⟩ := putFN X hx hZ hown w via eT F E L wi hty hn hf (g := mkF m pc Ls (v :: .ref a :: rest)) rfl rfl hd
  exact (r T' h' X' e' W').on stp
theorem r_anewarray (X : Stand p l e R s m args below meth c T locs cells slots) (hx : p.tables.exec = Jvm.exec) (hZ : Z.Warmed39 s.vm) {own C : String} {index : Nat} (hown : s.vm.findClass own = some m.cls) (w1 : (Jvm.Cond.classLink own index C).before a0 Z = true) (w2 : (Jvm.Cond.arrayOver (.object C)).before a0 Z = true) (eT : T.heap = h) {n : Int32} {cap : Nat} (hn : ¬ n < 0) (hcap : n.toNatClampNeg ≤ cap) (hb8 : cap * 8 ≤ 536870912) (hc : cells + 1 ≤ R.cells) (hl : slots + cap ≤ R.slots) (hd : decode c.code pc = .ok (.anewarray index, 3)) (hp : pc + 3 = pc')
    (r : ∀ (T' : State) (h' : Heap) (a : Addr) (cA : ClassId), a = h.size → Stand p l e R s m args below meth c T' locs (cells + 1) (slots + cap) → T'.heap = h' → Ext h h' → Arr Z h' a (newA cA (.object C) n) (.object C) → Ovr Z cA C → Run p e below Q En T' (mkF m pc' Ls (.ref a :: rest))) : Run p e below Q En T (mkF m pc Ls (.int n :: rest)) := by
  subst hp
  obtain ⟨T', h', cA, X', e', E', A', O', stp⟩ := newR X hx hZ hown w1 w2 eT (g := mkF m pc Ls (.int n :: rest)) rfl hd rfl hn hcap hb8 hc hl
  exact (r T' h' h.size cA rfl X' e' E' A' O').on stp
theorem r_iastore (X : Stand p l e R s m args below meth c T locs cells slots) (hx : p.tables.exec = Jvm.exec) (hZ : Z.Warmed39 s.vm) (eT : T.heap = h) {a : Addr} {cl : Cell} {j : Int32} {x : Int32} (A : Arr Z h a cl .int) (hj : ¬ (j < 0 ∨ cl.slots.size ≤ j.toNatClampNeg)) (hd : decode c.code pc = .ok (.iastore, 1)) (hp : pc + 1 = pc')
    (r : ∀ (T' : State) (h' : Heap), Stand p l e R s m args below meth c T' (locs ++ [⟨a, j.toNatClampNeg⟩]) cells slots → T'.heap = h' → Wr h h' a j.toNatClampNeg (.int x) → Run p e below Q En T' (mkF m pc' Ls rest)) : Run p e below Q En T (mkF m pc Ls (.int x :: .int j :: .ref a :: rest)) := by
  subst hp
  obtain ⟨T', h', X', e', W', stp⟩ := stI X hx hZ eT A hj (g := mkF m pc Ls (.int x :: .int j :: .ref a :: rest)) rfl rfl hd
  exact (r T' h' X' e' W').on stp
theorem r_lastore (X : Stand p l e R s m args below meth c T locs cells slots) (hx : p.tables.exec = Jvm.exec) (hZ : Z.Warmed39 s.vm) (eT : T.heap = h) {a : Addr} {cl : Cell} {j : Int32} {x : Int64} (A : Arr Z h a cl .long) (hj : ¬ (j < 0 ∨ cl.slots.size ≤ j.toNatClampNeg)) (hd : decode c.code pc = .ok (.lastore, 1)) (hp : pc + 1 = pc')
    (r : ∀ (T' : State) (h' : Heap), Stand p l e R s m args below meth c T' (locs ++ [⟨a, j.toNatClampNeg⟩]) cells slots → T'.heap = h' → Wr h h' a j.toNatClampNeg (.long x) → Run p e below Q En T' (mkF m pc' Ls rest)) : Run p e below Q En T (mkF m pc Ls (.long x :: .int j :: .ref a :: rest)) := by
  subst hp
  obtain ⟨T', h', X', e', W', stp⟩ := stJ X hx hZ eT A hj (g := mkF m pc Ls (.long x :: .int j :: .ref a :: rest)) rfl rfl hd
  exact (r T' h' X' e' W').on stp
theorem r_castore (X : Stand p l e R s m args below meth c T locs cells slots) (hx : p.tables.exec = Jvm.exec) (hZ : Z.Warmed39 s.vm) (eT : T.heap = h) {a : Addr} {cl : Cell} {j x : Int32} (A : Arr Z h a cl .char) (hj : ¬ (j < 0 ∨ cl.slots.size ≤ j.toNatClampNeg)) (hd : decode c.code pc = .ok (.castore, 1)) (hp : pc + 1 = pc')
    (r : ∀ (T' : State) (h' : Heap), Stand p l e R s m args below meth c T' (locs ++ [⟨a, j.toNatClampNeg⟩]) cells slots → T'.heap = h' → Wr h h' a j.toNatClampNeg (.int (nar .char x)) → Run p e below Q En T' (mkF m pc' Ls rest)) : Run p e below Q En T (mkF m pc Ls (.int x :: .int j :: .ref a :: rest)) := by
  subst hp
  obtain ⟨T', h', X', e', W', stp⟩ := stC X hx hZ eT A hj (g := mkF m pc Ls (.int x :: .int j :: .ref a :: rest)) rfl rfl hd
  exact (r T' h' X' e' W').on stp
theorem r_sastore (X : Stand p l e R s m args below meth c T locs cells slots) (hx : p.tables.exec = Jvm.exec) (hZ : Z.Warmed39 s.vm) (eT : T.heap = h) {a : Addr} {cl : Cell} {j x : Int32} (A : Arr Z h a cl .short) (hj : ¬ (j < 0 ∨ cl.slots.size ≤ j.toNatClampNeg)) (hd : decode c.code pc = .ok (.sastore, 1)) (hp : pc + 1 = pc')
    (r : ∀ (T' : State) (h' : Heap), Stand p l e R s m args below meth c T' (locs ++ [⟨a, j.toNatClampNeg⟩]) cells slots → T'.heap = h' → Wr h h' a j.toNatClampNeg (.int (nar .short x)) → Run p e below Q En T' (mkF m pc' Ls rest)) : Run p e below Q En T (mkF m pc Ls (.int x :: .int j :: .ref a :: rest)) := by
  subst hp
  obtain ⟨T', h', X', e', W', stp⟩ := stS X hx hZ eT A hj (g := mkF m pc Ls (.int x :: .int j :: .ref a :: rest)) rfl rfl hd
  exact (r T' h' X' e' W').on stp
theorem r_bastoreB (X : Stand p l e R s m args below meth c T locs cells slots) (hx : p.tables.exec = Jvm.exec) (hZ : Z.Warmed39 s.vm) (eT : T.heap = h) {a : Addr} {cl : Cell} {j x : Int32} (A : Arr Z h a cl .byte) (hj : ¬ (j < 0 ∨ cl.slots.size ≤ j.toNatClampNeg)) (hd : decode c.code pc = .ok (.bastore, 1)) (hp : pc + 1 = pc')
    (r : ∀ (T' : State) (h' : Heap), Stand p l e R s m args below meth c T' (locs ++ [⟨a, j.toNatClampNeg⟩]) cells slots → T'.heap = h' → Wr h h' a j.toNatClampNeg (.int (nar .byte x)) → Run p e below Q En T' (mkF m pc' Ls rest)) : Run p e below Q En T (mkF m pc Ls (.int x :: .int j :: .ref a :: rest)) := by
  subst hp
  obtain ⟨T', h', X', e', W', stp⟩ := stB X hx hZ eT A hj (g := mkF m pc Ls (.int x :: .int j :: .ref a :: rest)) rfl rfl hd
  exact (r T' h' X' e' W').on stp
theorem r_bastoreZ (X : Stand p l e R s m args below meth c T locs cells slots) (hx : p.tables.exec = Jvm.exec) (hZ : Z.Warmed39 s.vm) (eT : T.heap = h) {a : Addr} {cl : Cell} {j x : Int32} (A : Arr Z h a cl .boolean) (hj : ¬ (j < 0 ∨ cl.slots.size ≤ j.toNatClampNeg)) (hd : decode c.code pc = .ok (.bastore, 1)) (hp : pc + 1 = pc')
    (r : ∀ (T' : State) (h' : Heap), Stand p l e R s m args below meth c T' (locs ++ [⟨a, j.toNatClampNeg⟩]) cells slots → T'.heap = h' → Wr h h' a j.toNatClampNeg (.int (nar .boolean x)) → Run p e below Q En T' (mkF m pc' Ls rest)) : Run p e below Q En T (mkF m pc Ls (.int x :: .int j :: .ref a :: rest)) := by
  subst hp
  obtain ⟨T', h', X', e', W', stp⟩ := stZ X hx hZ eT A hj (g := mkF m pc Ls (.int x :: .int j :: .ref a :: rest)) rfl rfl hd
  exact (r T' h' X' e' W').on stp
theorem r_arraylength (X : Stand p l e R s m args below meth c T locs cells slots) (hx : p.tables.exec = Jvm.exec) (hZ : Z.Warmed39 s.vm) (eT : T.heap = h) {a : Addr} {cl : Cell} {ty : FieldType} {n : Int32} (A : Arr Z h a cl ty) (hn : cl.slots.size.toInt32 = n) (hd : decode c.code pc = .ok (.arraylength, 1)) (hp : pc + 1 = pc') (r : Run p e below Q En T (mkF m pc' Ls (.int n :: rest))) : Run p e below Q En T (mkF m pc Ls (.ref a :: rest)) := by
  subst hp hn; exact r.on fun _ q => X.arraylength hx (by rw [eT]; exact A.1) (State.isArrayOf_alike hZ.alike A.2.1) (g := mkF m pc Ls (.ref a :: rest)) rfl rfl hd _ q
theorem r_iaload (X : Stand p l e R s m args below meth c T locs cells slots) (hx : p.tables.exec = Jvm.exec) (hZ : Z.Warmed39 s.vm) (eT : T.heap = h) {a : Addr} {cl : Cell} {j : Int32} {v : Int32} (A : Arr Z h a cl .int) (hj : ¬ (j < 0 ∨ cl.slots.size ≤ j.toNatClampNeg)) (hat : cl.slots[j.toNatClampNeg]? = some (.int v)) (hd : decode c.code pc = .ok (.iaload, 1)) (hp : pc + 1 = pc') (r : Run p e below Q En T (mkF m pc' Ls (.int v :: rest))) : Run p e below Q En T (mkF m pc Ls (.int j :: .ref a :: rest)) := by
  subst hp; exact r.on fun _ q => X.iaload hx (j := j) (v := .int v) (by rw [eT]; exact A.1) (State.isArrayOf_alike hZ.alike A.2.1) A.2.2 hj hat (g := mkF m pc Ls (.int j :: .ref a :: rest)) rfl rfl hd _ q
theorem r_caload (X : Stand p l e R s m args below meth c T locs cells slots) (hx : p.tables.exec = Jvm.exec) (hZ : Z.Warmed39 s.vm) (eT : T.heap = h) {a : Addr} {cl : Cell} {j : Int32} {v : Int32} (A : Arr Z h a cl .char) (hj : ¬ (j < 0 ∨ cl.slots.size ≤ j.toNatClampNeg)) (hat : cl.slots[j.toNatClampNeg]? = some (.int v)) (hd : decode c.code pc = .ok (.caload, 1)) (hp : pc + 1 = pc') (r : Run p e below Q En T (mkF m pc' Ls (.int v :: rest))) : Run p e below Q En T (mkF m pc Ls (.int j :: .ref a :: rest)) := by
  subst hp; exact r.on fun _ q => X.caload hx (j := j) (v := .int v) (by rw [eT]; exact A.1) (State.isArrayOf_alike hZ.alike A.2.1) A.2.2 hj hat (g := mkF m pc Ls (.int j :: .ref a :: rest)) rfl rfl hd _ q
theorem r_saload (X : Stand p l e R s m args below meth c T locs cells slots) (hx : p.tables.exec = Jvm.exec) (hZ : Z.Warmed39 s.vm) (eT : T.heap = h) {a : Addr} {cl : Cell} {j : Int32} {v : Int32} (A : Arr Z h a cl .short) (hj : ¬ (j < 0 ∨ cl.slots.size ≤ j.toNatClampNeg)) (hat : cl.slots[j.toNatClampNeg]? = some (.int v)) (hd : decode c.code pc = .ok (.saload, 1)) (hp : pc + 1 = pc') (r : Run p e below Q En T (mkF m pc' Ls (.int v :: rest))) : Run p e below Q En T (mkF m pc Ls (.int j :: .ref a :: rest)) := by
  subst hp; exact r.on fun _ q => X.saload hx (j := j) (v := .int v) (by rw [eT]; exact A.1) (State.isArrayOf_alike hZ.alike A.2.1) A.2.2 hj hat (g := mkF m pc Ls (.int j :: .ref a :: rest)) rfl rfl hd _ q
theorem r_baload (X : Stand p l e R s m args below meth c T locs cells slots) (hx : p.tables.exec = Jvm.exec) (hZ : Z.Warmed39 s.vm) (eT : T.heap = h) {a : Addr} {cl : Cell} {j : Int32} {v : Int32} (A : Arr Z h a cl .byte) (hj : ¬ (j < 0 ∨ cl.slots.size ≤ j.toNatClampNeg)) (hat : cl.slots[j.toNatClampNeg]? = some (.int v)) (hd : decode c.code pc = .ok (.baload, 1)) (hp : pc + 1 = pc') (r : Run p e below Q En T (mkF m pc' Ls (.int v :: rest))) : Run p e below Q En T (mkF m pc Ls (.int j :: .ref a :: rest)) := by
  subst hp; exact r.on fun _ q => X.baloadBytes hx (j := j) (v := .int v) (by rw [eT]; exact A.1) (State.isArrayOf_alike hZ.alike A.2.1) A.2.2 hj hat (g := mkF m pc Ls (.int j :: .ref a :: rest)) rfl rfl hd _ q
theorem r_baloadZ (X : Stand p l e R s m args below meth c T locs cells slots) (hx : p.tables.exec = Jvm.exec) (hZ : Z.Warmed39 s.vm) (eT : T.heap = h) {a : Addr} {cl : Cell} {j : Int32} {v : Int32} (A : Arr Z h a cl .boolean) (hj : ¬ (j < 0 ∨ cl.slots.size ≤ j.toNatClampNeg)) (hat : cl.slots[j.toNatClampNeg]? = some (.int v)) (hd : decode c.code pc = .ok (.baload, 1)) (hp : pc + 1 = pc') (r : Run p e below Q En T (mkF m pc' Ls (.int v :: rest))) : Run p e below Q En T (mkF m pc Ls (.int j :: .ref a :: rest)) := by
  subst hp; exact r.on fun _ q => X.baloadBooleans hx (j := j) (v := .int v) (by rw [eT]; exact A.1) (State.isArrayOf_alike hZ.alike A.2.1) A.2.2 hj hat (g := mkF m pc Ls (.int j :: .ref a :: rest)) rfl rfl hd _ q
theorem r_laload (X : Stand p l e R s m args below meth c T locs cells slots) (hx : p.tables.exec = Jvm.exec) (hZ : Z.Warmed39 s.vm) (eT : T.heap = h) {a : Addr} {cl : Cell} {j : Int32} {v : Int64} (A : Arr Z h a cl .long) (hj : ¬ (j < 0 ∨ cl.slots.size ≤ j.toNatClampNeg)) (hat : cl.slots[j.toNatClampNeg]? = some (.long v)) (hd : decode c.code pc = .ok (.laload, 1)) (hp : pc + 1 = pc') (r : Run p e below Q En T (mkF m pc' Ls (.long v :: rest))) : Run p e below Q En T (mkF m pc Ls (.int j :: .ref a :: rest)) := by
  subst hp; exact r.on fun _ q => X.laload hx (j := j) (v := .long v) (by rw [eT]; exact A.1) (State.isArrayOf_alike hZ.alike A.2.1) A.2.2 hj hat (g := mkF m pc Ls (.int j :: .ref a :: rest)) rfl rfl hd _ q
theorem r_ldcS {vm0 : Vm} {k0 nn : Nat} (X : Stand p l e R (s.setVm vm0) m args below meth c T locs cells slots) (hx : p.tables.exec = Jvm.exec) (hZ : Z.Warmed39 vm0) {own text : String} {index : Nat} (hown : vm0.findClass own = some m.cls) (w : (Jvm.Cond.stringLink own index text).before a0 Z = true) (wS : ∀ a ∈ Bundle.stringAtoms, a.before a0 Z = true) (eT : T.heap = h) (hS : s.Since vm0 k0) (hk : k0 ≤ h.size) (hn : 4 * text.toList.length ≤ nn) (hbig : nn ≤ 536870912) (hc : cells + 2 ≤ R.cells) (hl : slots + (nn + 4) ≤ R.slots) (hd : decode c.code pc = .ok (.ldc index, 2)) (hp : pc + 2 = pc')
    (r : ∀ (a : Addr) (T' : State) (h' : Heap) (k1 : Nat), Stand p l e R (s.setVm T'.vm) m args below meth c T' locs (cells + 2) (slots + (nn + 4)) → T'.heap = h' → Ext h h' → s.Since T'.vm k1 → k1 ≤ h'.size → Z.Warmed39 (s.setVm T'.vm).vm → (s.setVm T'.vm).vm.findClass own = some m.cls → Run p e below Q En T' (mkF m pc' Ls (.ref a :: rest))) : Run p e below Q En T (mkF m pc Ls rest) := by
  subst hp
  obtain ⟨a, T', h', k1, X', e', E', hS', hk', hZ', ho', stp⟩ := ldcS X hx hZ hown w wS eT hS hk (g := mkF m pc Ls rest) rfl hd hn hbig hc hl
  exact (r a T' h' k1 X' e' E' hS' hk' hZ' ho').on stp
theorem w_retN {vm1 : Vm} {k1 : Nat} (X : Stand p l e R (s.setVm vm1) m args below meth c T locs cells slots) (hS : s.Since vm1 k1) (hk : k1 ≤ T.heap.size) (hx : p.tables.exec = Jvm.exec) (hlk : meth.locks = false) {t : FieldType} {z w : Int32} (hret : meth.sig.returnType = some t) (ht : t = .boolean ∨ t = .byte ∨ t = .char ∨ t = .short) (hd : decode c.code pc = .ok (.ireturn, 1)) (hn : nar t z = w) (hq : Q (some (.int w)) T.heap locs) (h1 : cells ≤ kc) (h2 : slots ≤ ks) : Run p e below Q (fun o t L => ReturnedEndW s o t L kc ks) T (mkF m pc Ls (.int z :: rest)) := by
  subst hn
  obtain ⟨fs, hr, hrun, hended, h4, h5, h6, h7⟩ := X.leaveW hS hk (v := some (.int (nar t z))) (fun q => by rw [hret] at q; cases q) hlk
  exact ⟨_, _, retN X hx hret ht hd hr, hrun, hended, _, _, rfl, hq, h4, h5, h6, h7.mono h1 h2⟩
theorem w_retV {vm1 : Vm} {k1 : Nat} (X : Stand p l e R (s.setVm vm1) m args below meth c T locs cells slots) (hS : s.Since vm1 k1) (hk : k1 ≤ T.heap.size) (hx : p.tables.exec = Jvm.exec) (hlk : meth.locks = false) {t : FieldType} {w : Value} {i : Instr} (hret : meth.sig.returnType = some t) (hn : narrow t w = w)
    (hi : (i = .ireturn ∧ (t = .int ∨ t = .boolean ∨ t = .byte ∨ t = .char ∨ t = .short) ∧ ∃ z, w = .int z) ∨ (i = .lreturn ∧ t = .long ∧ ∃ z, w = .long z) ∨ (i = .dreturn ∧ t = .double ∧ ∃ z, w = .double z) ∨ (i = .freturn ∧ t = .float ∧ ∃ z, w = .float z) ∨ (i = .areturn ∧ t.isReference = true ∧ w.isRef = true))
    (hd : decode c.code pc = .ok (i, 1)) (hq : Q (some w) T.heap locs) (h1 : cells ≤ kc) (h2 : slots ≤ ks) : Run p e below Q (fun o t L => ReturnedEndW s o t L kc ks) T (mkF m pc Ls (w :: rest)) := by
  obtain ⟨fs, hr, hrun, hended, h4, h5, h6, h7⟩ := X.leaveW hS hk (v := some w) (fun q => by rw [hret] at q; cases q) hlk
  exact ⟨_, _, retOut X hx hret hn hi hd hr, hrun, hended, _, _, rfl, hq, h4, h5, h6, h7.mono h1 h2⟩
theorem w_ret0 {vm1 : Vm} {k1 : Nat} (X : Stand p l e R (s.setVm vm1) m args below meth c T locs cells slots) (hS : s.Since vm1 k1) (hk : k1 ≤ T.heap.size) (hx : p.tables.exec = Jvm.exec) (hlk : meth.locks = false) (hret : meth.sig.returnType = none) (hd : decode c.code pc = .ok (.return_, 1)) (hq : Q none T.heap locs) (h1 : cells ≤ kc) (h2 : slots ≤ ks) : Run p e below Q (fun o t L => ReturnedEndW s o t L kc ks) T (mkF m pc Ls []) := by
  obtain ⟨fs, hr, hrun, hended, h4, h5, h6, h7⟩ := X.leaveW hS hk (v := none) (fun _ => rfl) hlk
  exact ⟨_, _, X.returnOut hx hret hd hr, hrun, hended, _, _, rfl, hq, h4, h5, h6, h7.mono h1 h2⟩
abbrev MetW (l : Launch) (Z : State) (y : MethodName) (bytes : ByteArray) (maxL : Nat) (ret : Option FieldType) (ws : List Jvm.Cond) (rm : Room) (as' : Array Value) (h0 : Heap) (Q : Option Value → Heap → List Loc → Prop) (kc ks : Nat) : Prop :=
  MetFree l y (head1 (Jvm.Cond.code y bytes maxL ret :: ws) rm) (fun a U => a = as' ∧ Z.Warmed39 U.vm ∧ U.heap = h0) (fun _ _ _ _ _ => True) (fun _ U o U' => ∃ v L, o = .returned v ∧ Q v U'.heap L ∧ ReturnedEndW U o U' L kc ks)
theorem metW_of {y : MethodName} {bytes : ByteArray} {maxL : Nat} {ret : Option FieldType} {ws : List Jvm.Cond} {rm : Room} {as' : Array Value} {h0 : Heap} {Q : Option Value → Heap → List Loc → Prop} {kc ks : Nat} {f0 : MethodId → JFrame} (hpn : plainFor y = true)
    (hef : ∀ m, entryFrame m as' maxL = f0 m)
    (body : ∀ (p : Program) (e : Env) (s : State) (m : MethodId) (below : List Frame) (meth : Method) (c : Code) (s₁ : State), Stand p l e rm s m as' below meth c s₁ [] 0 0 → p.tables.exec = Jvm.exec → c.code = bytes → c.maxLocals = maxL → meth.sig.returnType = ret → meth.locks = false → s.vm.findClass y.cls = some m.cls → meth.name = y.name → Z.Warmed39 s.vm → s₁.heap = h0 → Run p e below Q (fun o t L => ReturnedEndW s o t L kc ks) s₁ (f0 m)) :
    MetW l Z y bytes maxL ret ws rm as' h0 Q kc ks := by
  refine MetFree.of_bodySF (code := bytes) (maxLocals := maxL) (ret := ret) hpn hisR ?_
  intro p e s m args below meth c s₁ Bd hml0 hP hK
  obtain ⟨rfl, hZ, hh⟩ := hP
  obtain ⟨s₂, o, r⟩ := body p e s m below meth c s₁ (Stand.of_body Bd) Bd.exec Bd.bytes hml0 Bd.returns (BodyLoose.notSynchronized Bd) (findClass_of_methodNamed Bd.named) (name_of_methodNamed Bd.named Bd.method).1 hZ (by rw [← hh, Bd.state]; rfl)
  rw [hef m]
  exact ⟨s₂, o, r⟩
end Core
section Arrays
variable {p : Program} {l : Launch} {e : Env} {R : Room} {s : State} {m : MethodId} {args : Array Value} {below : List Frame} {meth : Method} {c : Code} {T T' : State} {locs : List Loc} {cells slots : Nat} {Q : Option Value → Heap → List Loc → Prop} {En : Outcome → State → List Loc → Prop} {kc ks : Nat} {Z : State} {a0 : Array Value} {h h' : Heap} {Ls : Array Slot} {st rest : List Value} {pc pc' : Nat} {a b : Addr} {ty : FieldType} {n : Nat} {f g : Nat → Value} {F : Nat → Int32} {sl : Nat} {v : Value} {j : Int32}
/-- an array of n places and what lies in each -/
def Ary (Z : State) (h : Heap) (a : Addr) (ty : FieldType) (n : Nat) (f : Nat → Value) : Prop := ∃ c : Cell, Arr Z h a c ty ∧ c.slots.size = n ∧ ∀ i, i < n → c.slots[i]? = some (f i)
theorem Ary.lt (A : Ary Z h a ty n f) : a < h.size := by obtain ⟨c, A, -⟩ := A; exact A.lt
theorem Ary.ext (A : Ary Z h a ty n f) (E : Ext h h') : Ary Z h' a ty n f := by obtain ⟨c, A, r⟩ := A; exact ⟨c, A.ext E, r⟩
theorem Ary.other (A : Ary Z h b ty n f) (W : Wr h h' a sl v) (q : b ≠ a) : Ary Z h' b ty n f := by obtain ⟨c, A, r⟩ := A; exact ⟨c, A.other W q, r⟩
theorem Ary.keep {ws : List Addr} (A : Ary Z h a ty n f) (K : Keep h h' ws) (q : a ∉ ws) : Ary Z h' a ty n f := by obtain ⟨c, A, r⟩ := A; exact ⟨c, ⟨K.2.1 a c A.1 q, A.2⟩, r⟩
theorem Ary.congr (A : Ary Z h a ty n f) (q : ∀ i, i < n → f i = g i) : Ary Z h a ty n g := by obtain ⟨c, A, r1, r2⟩ := A; exact ⟨c, A, r1, fun i hi => by rw [r2 i hi, q i hi]⟩
theorem Ary.set (A : Ary Z h a ty n f) (W : Wr h h' a j.toNatClampNeg v) : Ary Z h' a ty n (fun i => if i = j.toInt.toNat then v else f i) := by
  obtain ⟨c, A, r1, r2⟩ := A
  refine ⟨_, A.same W, by rw [sz_set]; exact r1, fun i hi => ?_⟩
  show (c.slots.setIfInBounds j.toNatClampNeg v)[i]? = _
  have ej : j.toNatClampNeg = j.toInt.toNat := rfl
  by_cases q : i = j.toInt.toNat
  · simp only [q, if_true]; rw [← ej]; rw [ej, ← q]; simp [Array.getElem?_setIfInBounds, r1, hi]
  · simp only [q, if_false]; rw [Array.getElem?_setIfInBounds_ne (by rw [ej]; exact fun y => q y.symm)]; exact r2 i hi
theorem Ary.setI {x : Int32} (A : Ary Z h a ty n (fun i => .int (F i))) (W : Wr h h' a j.toNatClampNeg (.int x)) : Ary Z h' a ty n (fun i => .int (if i = j.toInt.toNat then x else F i)) :=
  (A.set W).congr fun i _ => by
    by_cases q : i = j.toInt.toNat
    · simp only [if_pos q]
    · simp only [if_neg q]
theorem Ary.setJ {x : Int64} {F : Nat → Int64} (A : Ary Z h a ty n (fun i => .long (F i))) (W : Wr h h' a j.toNatClampNeg (.long x)) : Ary Z h' a ty n (fun i => .long (if i = j.toInt.toNat then x else F i)) :=
  (A.set W).congr fun i _ => by
    by_cases q : i = j.toInt.toNat
    · simp only [if_pos q]
    · simp only [if_neg q]
theorem Ary.new {cA : ClassId} {z : Int32} (A : Arr Z h a (newA cA ty z) ty) (hz : z.toInt.toNat = n) : Ary Z h a ty n (fun _ => defaultValue ty) := by
  have ej : z.toNatClampNeg = z.toInt.toNat := rfl
  refine ⟨_, A, by rw [sz_new]; exact hz, fun i hi => ?_⟩
  show (Array.replicate z.toNatClampNeg (defaultValue ty))[i]? = _
  rw [ej, hz]; simp [hi]
theorem own_inb {cl : Cell} (h1 : cl.slots.size = n) (h0 : 0 ≤ j.toInt) (h2 : j.toInt < n) : ¬ (j < 0 ∨ cl.slots.size ≤ j.toNatClampNeg) := by
  rw [Int32.lt_iff_toInt_lt, show (0 : Int32).toInt = 0 from rfl]
  have ej : j.toNatClampNeg = j.toInt.toNat := rfl
  omega
theorem own_at {cl : Cell} (h3 : ∀ i, i < n → cl.slots[i]? = some (f i)) (h0 : 0 ≤ j.toInt) (h2 : j.toInt < n) (hv : f j.toInt.toNat = v) : cl.slots[j.toNatClampNeg]? = some v := by
  rw [← hv]; exact h3 _ (show j.toInt.toNat < n by omega)
theorem r_len (X : Stand p l e R s m args below meth c T locs cells slots) (hx : p.tables.exec = Jvm.exec) (hZ : Z.Warmed39 s.vm) (eT : T.heap = h) {z : Int32} (A : Ary Z h a ty n f) (hn : z.toInt = n) (hd : decode c.code pc = .ok (.arraylength, 1)) (hp : pc + 1 = pc') (r : Run p e below Q En T (mkF m pc' Ls (.int z :: rest))) : Run p e below Q En T (mkF m pc Ls (.ref a :: rest)) := by
  obtain ⟨cl, A, r1, -⟩ := A
  refine r_arraylength X hx hZ eT A ?_ hd hp r
  rw [r1]
  have q : z.toInt.toNat = n := by omega
  rw [← q]
  exact (back32 (n := z) (by rw [Int32.lt_iff_toInt_lt, show (0 : Int32).toInt = 0 from rfl]; omega)).1
theorem q_iaload (X : Stand p l e R s m args below meth c T locs cells slots) (hx : p.tables.exec = Jvm.exec) (hZ : Z.Warmed39 s.vm) (eT : T.heap = h) {v : Int32} (A : Ary Z h a .int n f) (h0 : 0 ≤ j.toInt) (h1 : j.toInt < n) (hv : f j.toInt.toNat = .int v) (hd : decode c.code pc = .ok (.iaload, 1)) (hp : pc + 1 = pc') (r : Run p e below Q En T (mkF m pc' Ls (.int v :: rest))) : Run p e below Q En T (mkF m pc Ls (.int j :: .ref a :: rest)) := by
  obtain ⟨cl, A, r1, r2⟩ := A
  exact r_iaload X hx hZ eT A (own_inb r1 h0 h1) (own_at r2 h0 h1 hv) hd hp r
theorem q_caload (X : Stand p l e R s m args below meth c T locs cells slots) (hx : p.tables.exec = Jvm.exec) (hZ : Z.Warmed39 s.vm) (eT : T.heap = h) {v : Int32} (A : Ary Z h a .char n f) (h0 : 0 ≤ j.toInt) (h1 : j.toInt < n) (hv : f j.toInt.toNat = .int v) (hd : decode c.code pc = .ok (.caload, 1)) (hp : pc + 1 = pc') (r : Run p e below Q En T (mkF m pc' Ls (.int v :: rest))) : Run p e below Q En T (mkF m pc Ls (.int j :: .ref a :: rest)) := by
  obtain ⟨cl, A, r1, r2⟩ := A
  exact r_caload X hx hZ eT A (own_inb r1 h0 h1) (own_at r2 h0 h1 hv) hd hp r
theorem q_saload (X : Stand p l e R s m args below meth c T locs cells slots) (hx : p.tables.exec = Jvm.exec) (hZ : Z.Warmed39 s.vm) (eT : T.heap = h) {v : Int32} (A : Ary Z h a .short n f) (h0 : 0 ≤ j.toInt) (h1 : j.toInt < n) (hv : f j.toInt.toNat = .int v) (hd : decode c.code pc = .ok (.saload, 1)) (hp : pc + 1 = pc') (r : Run p e below Q En T (mkF m pc' Ls (.int v :: rest))) : Run p e below Q En T (mkF m pc Ls (.int j :: .ref a :: rest)) := by
  obtain ⟨cl, A, r1, r2⟩ := A
  exact r_saload X hx hZ eT A (own_inb r1 h0 h1) (own_at r2 h0 h1 hv) hd hp r
theorem q_baload (X : Stand p l e R s m args below meth c T locs cells slots) (hx : p.tables.exec = Jvm.exec) (hZ : Z.Warmed39 s.vm) (eT : T.heap = h) {v : Int32} (A : Ary Z h a .byte n f) (h0 : 0 ≤ j.toInt) (h1 : j.toInt < n) (hv : f j.toInt.toNat = .int v) (hd : decode c.code pc = .ok (.baload, 1)) (hp : pc + 1 = pc') (r : Run p e below Q En T (mkF m pc' Ls (.int v :: rest))) : Run p e below Q En T (mkF m pc Ls (.int j :: .ref a :: rest)) := by
  obtain ⟨cl, A, r1, r2⟩ := A
  exact r_baload X hx hZ eT A (own_inb r1 h0 h1) (own_at r2 h0 h1 hv) hd hp r
theorem q_baloadZ (X : Stand p l e R s m args below meth c T locs cells slots) (hx : p.tables.exec = Jvm.exec) (hZ : Z.Warmed39 s.vm) (eT : T.heap = h) {v : Int32} (A : Ary Z h a .boolean n f) (h0 : 0 ≤ j.toInt) (h1 : j.toInt < n) (hv : f j.toInt.toNat = .int v) (hd : decode c.code pc = .ok (.baload, 1)) (hp : pc + 1 = pc') (r : Run p e below Q En T (mkF m pc' Ls (.int v :: rest))) : Run p e below Q En T (mkF m pc Ls (.int j :: .ref a :: rest)) := by
  obtain ⟨cl, A, r1, r2⟩ := A
  exact r_baloadZ X hx hZ eT A (own_inb r1 h0 h1) (own_at r2 h0 h1 hv) hd hp r
theorem q_laload (X : Stand p l e R s m args below meth c T locs cells slots) (hx : p.tables.exec = Jvm.exec) (hZ : Z.Warmed39 s.vm) (eT : T.heap = h) {v : Int64} (A : Ary Z h a .long n f) (h0 : 0 ≤ j.toInt) (h1 : j.toInt < n) (hv : f j.toInt.toNat = .long v) (hd : decode c.code pc = .ok (.laload, 1)) (hp : pc + 1 = pc') (r : Run p e below Q En T (mkF m pc' Ls (.long v :: rest))) : Run p e below Q En T (mkF m pc Ls (.int j :: .ref a :: rest)) := by
  obtain ⟨cl, A, r1, r2⟩ := A
  exact r_laload X hx hZ eT A (own_inb r1 h0 h1) (own_at r2 h0 h1 hv) hd hp r
theorem q_iastore (X : Stand p l e R s m args below meth c T locs cells slots) (hx : p.tables.exec = Jvm.exec) (hZ : Z.Warmed39 s.vm) (eT : T.heap = h) {x : Int32} {F : Nat → Int32} (A : Ary Z h a .int n (fun i => .int (F i))) (h0 : 0 ≤ j.toInt) (h1 : j.toInt < n) (hd : decode c.code pc = .ok (.iastore, 1)) (hp : pc + 1 = pc')
    (r : ∀ (T' : State) (h' : Heap), Stand p l e R s m args below meth c T' (locs ++ [⟨a, j.toNatClampNeg⟩]) cells slots → T'.heap = h' → Wr h h' a j.toNatClampNeg (.int x) → Ary Z h' a .int n (fun i => .int (if i = j.toInt.toNat then x else F i)) → Run p e below Q En T' (mkF m pc' Ls rest)) : Run p e below Q En T (mkF m pc Ls (.int x :: .int j :: .ref a :: rest)) := by
  have A' := A
  obtain ⟨cl, A, r1, r2⟩ := A
  exact r_iastore X hx hZ eT A (own_inb r1 h0 h1) hd hp fun T' h' X' e' W' => r T' h' X' e' W' (A'.setI W')
theorem q_lastore (X : Stand p l e R s m args below meth c T locs cells slots) (hx : p.tables.exec = Jvm.exec) (hZ : Z.Warmed39 s.vm) (eT : T.heap = h) {x : Int64} {F : Nat → Int64} (A : Ary Z h a .long n (fun i => .long (F i))) (h0 : 0 ≤ j.toInt) (h1 : j.toInt < n) (hd : decode c.code pc = .ok (.lastore, 1)) (hp : pc + 1 = pc')
    (r : ∀ (T' : State) (h' : Heap), Stand p l e R s m args below meth c T' (locs ++ [⟨a, j.toNatClampNeg⟩]) cells slots → T'.heap = h' → Wr h h' a j.toNatClampNeg (.long x) → Ary Z h' a .long n (fun i => .long (if i = j.toInt.toNat then x else F i)) → Run p e below Q En T' (mkF m pc' Ls rest)) : Run p e below Q En T (mkF m pc Ls (.long x :: .int j :: .ref a :: rest)) := by
  have A' := A
  obtain ⟨cl, A, r1, r2⟩ := A
  exact r_lastore X hx hZ eT A (own_inb r1 h0 h1) hd hp fun T' h' X' e' W' => r T' h' X' e' W' (A'.setJ W')
theorem q_castore (X : Stand p l e R s m args below meth c T locs cells slots) (hx : p.tables.exec = Jvm.exec) (hZ : Z.Warmed39 s.vm) (eT : T.heap = h) {x w : Int32} (A : Ary Z h a .char n (fun i => .int (F i))) (h0 : 0 ≤ j.toInt) (h1 : j.toInt < n) (hn : nar .char x = w) (hd : decode c.code pc = .ok (.castore, 1)) (hp : pc + 1 = pc')
    (r : ∀ (T' : State) (h' : Heap), Stand p l e R s m args below meth c T' (locs ++ [⟨a, j.toNatClampNeg⟩]) cells slots → T'.heap = h' → Wr h h' a j.toNatClampNeg (.int w) → Ary Z h' a .char n (fun i => .int (if i = j.toInt.toNat then w else F i)) → Run p e below Q En T' (mkF m pc' Ls rest)) : Run p e below Q En T (mkF m pc Ls (.int x :: .int j :: .ref a :: rest)) := by
  subst hn
  have A' := A
  obtain ⟨cl, A, r1, r2⟩ := A
  exact r_castore X hx hZ eT A (own_inb r1 h0 h1) hd hp fun T' h' X' e' W' => r T' h' X' e' W' (A'.setI W')
theorem q_sastore (X : Stand p l e R s m args below meth c T locs cells slots) (hx : p.tables.exec = Jvm.exec) (hZ : Z.Warmed39 s.vm) (eT : T.heap = h) {x w : Int32} (A : Ary Z h a .short n (fun i => .int (F i))) (h0 : 0 ≤ j.toInt) (h1 : j.toInt < n) (hn : nar .short x = w) (hd : decode c.code pc = .ok (.sastore, 1)) (hp : pc + 1 = pc')
    (r : ∀ (T' : State) (h' : Heap), Stand p l e R s m args below meth c T' (locs ++ [⟨a, j.toNatClampNeg⟩]) cells slots → T'.heap = h' → Wr h h' a j.toNatClampNeg (.int w) → Ary Z h' a .short n (fun i => .int (if i = j.toInt.toNat then w else F i)) → Run p e below Q En T' (mkF m pc' Ls rest)) : Run p e below Q En T (mkF m pc Ls (.int x :: .int j :: .ref a :: rest)) := by
  subst hn
  have A' := A
  obtain ⟨cl, A, r1, r2⟩ := A
  exact r_sastore X hx hZ eT A (own_inb r1 h0 h1) hd hp fun T' h' X' e' W' => r T' h' X' e' W' (A'.setI W')
theorem q_bastoreB (X : Stand p l e R s m args below meth c T locs cells slots) (hx : p.tables.exec = Jvm.exec) (hZ : Z.Warmed39 s.vm) (eT : T.heap = h) {x w : Int32} (A : Ary Z h a .byte n (fun i => .int (F i))) (h0 : 0 ≤ j.toInt) (h1 : j.toInt < n) (hn : nar .byte x = w) (hd : decode c.code pc = .ok (.bastore, 1)) (hp : pc + 1 = pc')
    (r : ∀ (T' : State) (h' : Heap), Stand p l e R s m args below meth c T' (locs ++ [⟨a, j.toNatClampNeg⟩]) cells slots → T'.heap = h' → Wr h h' a j.toNatClampNeg (.int w) → Ary Z h' a .byte n (fun i => .int (if i = j.toInt.toNat then w else F i)) → Run p e below Q En T' (mkF m pc' Ls rest)) : Run p e below Q En T (mkF m pc Ls (.int x :: .int j :: .ref a :: rest)) := by
  subst hn
  have A' := A
  obtain ⟨cl, A, r1, r2⟩ := A
  exact r_bastoreB X hx hZ eT A (own_inb r1 h0 h1) hd hp fun T' h' X' e' W' => r T' h' X' e' W' (A'.setI W')
theorem q_bastoreZ (X : Stand p l e R s m args below meth c T locs cells slots) (hx : p.tables.exec = Jvm.exec) (hZ : Z.Warmed39 s.vm) (eT : T.heap = h) {x w : Int32} (A : Ary Z h a .boolean n (fun i => .int (F i))) (h0 : 0 ≤ j.toInt) (h1 : j.toInt < n) (hn : nar .boolean x = w) (hd : decode c.code pc = .ok (.bastore, 1)) (hp : pc + 1 = pc')
    (r : ∀ (T' : State) (h' : Heap), Stand p l e R s m args below meth c T' (locs ++ [⟨a, j.toNatClampNeg⟩]) cells slots → T'.heap = h' → Wr h h' a j.toNatClampNeg (.int w) → Ary Z h' a .boolean n (fun i => .int (if i = j.toInt.toNat then w else F i)) → Run p e below Q En T' (mkF m pc' Ls rest)) : Run p e below Q En T (mkF m pc Ls (.int x :: .int j :: .ref a :: rest)) := by
  subst hn
  have A' := A
  obtain ⟨cl, A, r1, r2⟩ := A
  exact r_bastoreZ X hx hZ eT A (own_inb r1 h0 h1) hd hp fun T' h' X' e' W' => r T' h' X' e' W' (A'.setI W')
end Arrays
section Facts2
variable {Z : State} {h h' h0 : Heap} {ws : List Addr} {C n d : String} {v : Value} {a b : Addr}
theorem own_staKeep (F : Sta Z h C n d v) (K : Keep h h' ws) (q : ∀ x ∈ ws, ∃ c : Cell, h[x]? = some c ∧ c.vm.isStatics = false) : Sta Z h' C n d v := by
  obtain ⟨cf, i, k, f, st, cell, h1, h2, h3, h4, h5, h6, h7⟩ := F
  refine ⟨cf, i, k, f, st, cell, h1, h2, h3, h4, K.2.1 st cell h5 fun m => ?_, h6, h7⟩
  obtain ⟨c, e1, e2⟩ := q _ m
  cases h5.symm.trans e1
  rw [e2] at h6; cases h6
theorem own_exaS (E : Exa Z h a C) : ∃ c : Cell, h[a]? = some c ∧ c.vm.isStatics = false := by
  obtain ⟨c, _, h1, -, -, h4, -⟩ := E; exact ⟨c, h1, h4⟩
theorem own_arrS {c : Cell} {ty : FieldType} (A : Arr Z h a c ty) : ∃ c : Cell, h[a]? = some c ∧ c.vm.isStatics = false := ⟨c, A.1, A.plain⟩
theorem own_aryS {ty : FieldType} {m : Nat} {f : Nat → Value} (A : Ary Z h a ty m f) : ∃ c : Cell, h[a]? = some c ∧ c.vm.isStatics = false := by
  obtain ⟨c, A, -⟩ := A; exact own_arrS A
theorem own_staExt (F : Sta Z h C n d v) (E : Ext h h') : Sta Z h' C n d v := Sta.ext E F
theorem own_kext {E : Ext h h'} : Keep h h' [] := ⟨E.1, fun x c q _ => E.2 x c q, fun x c q => ⟨c, E.2 x c q, rfl, rfl, rfl⟩⟩
end Facts2
theorem own_nb (x : Int32) : nar .byte (x.toInt8.toInt32) = x.toInt8.toInt32 := by simp [nar]
theorem own_rg (x : Int32) : -2147483648 ≤ x.toInt ∧ x.toInt ≤ 2147483647 := by
  have h1 := Int32.minValue_le_toInt x
  have h2 := Int32.toInt_le x
  have e1 : Int32.minValue.toInt = -2147483648 := by decide
  have e2 : Int32.maxValue.toInt = 2147483647 := by decide
  omega
theorem own_add {x y : Int32} (h1 : -2147483648 ≤ x.toInt + y.toInt) (h2 : x.toInt + y.toInt ≤ 2147483647) : (x + y).toInt = x.toInt + y.toInt := by
  have := c_iadd x y; have := own_rg (x + y); omega
theorem own_sub {x y : Int32} (h1 : -2147483648 ≤ x.toInt - y.toInt) (h2 : x.toInt - y.toInt ≤ 2147483647) : (x - y).toInt = x.toInt - y.toInt := by
  have := c_isub x y; have := own_rg (x - y); omega
theorem own_sh {x q : Int32} {k : Nat} {d : Int} (hk : q.toBitVec.toNat % 32 = k) (h0 : 0 < k) (hd : ((2 ^ k : Nat) : Int) = d) (hx : 0 ≤ x.toInt) : (ushrI x q).toInt = x.toInt / d := by
  have h := c_iushr x q k hk h0
  rw [hd] at h
  have := own_rg x
  rw [show (ushrI x q).toInt = _ from h, Int.emod_eq_of_lt hx (by omega)]
theorem own_sh0 (x : Int32) : ushrI x 0 = x := by
  apply Int32.toBitVec_inj.mp
  show (x.toBitVec >>> ((0 : Int32) &&& 31).toBitVec) = x.toBitVec
  simp
theorem own_b1 (r : Int32) : (r ||| 128).toInt8.toInt32 = ((r &&& 127) ||| 128).toInt8.toInt32 := by
  apply congrArg Int8.toInt32
  apply Int8.toBitVec_inj.mp
  apply BitVec.eq_of_getLsbD_eq
  intro i hi
  have : i = 0 ∨ i = 1 ∨ i = 2 ∨ i = 3 ∨ i = 4 ∨ i = 5 ∨ i = 6 ∨ i = 7 := by omega
  rcases this with rfl | rfl | rfl | rfl | rfl | rfl | rfl | rfl <;> simp
theorem own_b0 (r : Int32) (h0 : 0 ≤ r.toInt) (h1 : r.toInt < 128) : r.toInt8.toInt32 = (r &&& 127).toInt8.toInt32 := by
  have e : r &&& 127 = r := Int32.toInt_inj.mp (by rw [c_mask r 127 7 (by decide) (by decide)]; show r.toInt % 128 = _; omega)
  rw [e]
def own_n (len : Int32) : Int32 := if len.toInt < 128 then 1 else if len.toInt < 16384 then 2 else if len.toInt < 2097152 then 3 else if len.toInt < 268435456 then 4 else 5
def own_W (k len pos n v : Int32) : Int32 := if (k - pos).toInt < 0 ∨ n.toInt ≤ (k - pos).toInt then v else if (n - 1).toInt ≤ (k - pos).toInt then (ushrI len (7 * (k - pos)) &&& 127).toInt8.toInt32 else ((ushrI len (7 * (k - pos)) &&& 127) ||| 128).toInt8.toInt32
theorem d1_0 : decode method_3_code 0 = .ok (.iload_n 0, 1) := by decide +kernel
theorem d1_1 : decode method_3_code 1 = .ok (.sipush 128, 3) := by decide +kernel
theorem d1_4 : decode method_3_code 4 = .ok (.if_icmp .ge 5, 3) := by decide +kernel
theorem d1_9 : decode method_3_code 9 = .ok (.iload_n 0, 1) := by decide +kernel
theorem d1_10 : decode method_3_code 10 = .ok (.sipush 16384, 3) := by decide +kernel
theorem d1_13 : decode method_3_code 13 = .ok (.if_icmp .ge 5, 3) := by decide +kernel
theorem d1_18 : decode method_3_code 18 = .ok (.iload_n 0, 1) := by decide +kernel
theorem d1_19 : decode method_3_code 19 = .ok (.ldc 24, 2) := by decide +kernel
theorem d1_21 : decode method_3_code 21 = .ok (.if_icmp .ge 5, 3) := by decide +kernel
theorem d1_26 : decode method_3_code 26 = .ok (.iload_n 0, 1) := by decide +kernel
theorem d1_27 : decode method_3_code 27 = .ok (.ldc 25, 2) := by decide +kernel
theorem d1_29 : decode method_3_code 29 = .ok (.if_icmp .ge 5, 3) := by decide +kernel
theorem d1_34 : decode method_3_code 34 = .ok (.iconst 5, 1) := by decide +kernel
theorem d1_35 : decode method_3_code 35 = .ok (.ireturn, 1) := by decide +kernel
theorem d1_32 : decode method_3_code 32 = .ok (.iconst 4, 1) := by decide +kernel
theorem d1_33 : decode method_3_code 33 = .ok (.ireturn, 1) := by decide +kernel
theorem d1_24 : decode method_3_code 24 = .ok (.iconst 3, 1) := by decide +kernel
theorem d1_25 : decode method_3_code 25 = .ok (.ireturn, 1) := by decide +kernel
theorem d1_16 : decode method_3_code 16 = .ok (.iconst 2, 1) := by decide +kernel
theorem d1_17 : decode method_3_code 17 = .ok (.ireturn, 1) := by decide +kernel
theorem d1_7 : decode method_3_code 7 = .ok (.iconst 1, 1) := by decide +kernel
theorem d1_8 : decode method_3_code 8 = .ok (.ireturn, 1) := by decide +kernel
theorem pn_0 : plainName "com/example/floe/floe/engine/GroupKeysPutLengthPinLaw" = true := by first | (simp [plainName, overriddenIn]; done) | decide +kernel
theorem ef_rmS (m : MethodId) (x0 : Int32) : entryFrame m #[(.int x0)] 1 = mkF m 0 #[.val (.int x0)] [] := by first | (simp [entryFrame, mkF, argsToLocals, Value.category, maxLocals]; done) | rfl
set_option maxRecDepth 65536 in
set_option maxHeartbeats 40000000 in
theorem rmS (l : Launch) (Z : State) (a0 : Array Value) (hw : ∀ d ∈ tables_1, d.before a0 Z = true) (ws : List Jvm.Cond) (len : Int32) (h0 : Heap) (n0 : Nat) (Z0 : n0 ≤ h0.size)  :
    Met l Z (⟨"com/example/floe/floe/engine/GroupKeysPutLengthPinLaw", "size", "(I)I"⟩ : MethodName) method_3_code 1 (some .int) ws ({ frames := 0, cells := 0, slots := 0, locals := 0 } : Room) #[(.int len)] h0 (fun v h L => v = some (.int (own_n len)) ∧ Fr n0 L ∧ h = h0) 0 0 := by
  refine met_of (plainFor_of_name pn_0) (f0 := fun m => (mkF m 0 #[.val (.int len)] [])) (fun m => ef_rmS m len) ?_
  intro p e s m below meth c s₁ X0 hx hby hml hret hlk hown hnm hZ e0
  replace hown : s.vm.findClass "com/example/floe/floe/engine/GroupKeysPutLengthPinLaw" = some m.cls := hown
  have N0 := Fr.nil n0
  refine r_iloadN X0.here hx (hb hby d1_0) rfl (pc' := 1) rfl ?_
  refine r_sipush X0.here hx (hb hby d1_1) (v := 128) rfl (pc' := 4) rfl ?_
  refine r_if_ge X0.here hx (hb hby d1_4) (by decide) (pc' := 9) (by decide) (pc2 := 7) rfl (fun hc4 => ?_) (fun hc4 => ?_)
  · refine r_iloadN X0.here hx (hb hby d1_9) rfl (pc' := 10) rfl ?_
    refine r_sipush X0.here hx (hb hby d1_10) (v := 16384) rfl (pc' := 13) rfl ?_
    refine r_if_ge X0.here hx (hb hby d1_13) (by decide) (pc' := 18) (by decide) (pc2 := 16) rfl (fun hc13 => ?_) (fun hc13 => ?_)
    · refine r_iloadN X0.here hx (hb hby d1_18) rfl (pc' := 19) rfl ?_
      refine r_ldc X0 hx hZ hown (hw _ (List.mem_of_getElem? (i := 13) rfl)) (hb hby d1_19) (pc' := 21) rfl ?_
      refine r_if_ge X0.here hx (hb hby d1_21) (by decide) (pc' := 26) (by decide) (pc2 := 24) rfl (fun hc21 => ?_) (fun hc21 => ?_)
      · refine r_iloadN X0.here hx (hb hby d1_26) rfl (pc' := 27) rfl ?_
        refine r_ldc X0 hx hZ hown (hw _ (List.mem_of_getElem? (i := 14) rfl)) (hb hby d1_27) (pc' := 29) rfl ?_
        refine r_if_ge X0.here hx (hb hby d1_29) (by decide) (pc' := 34) (by decide) (pc2 := 32) rfl (fun hc29 => ?_) (fun hc29 => ?_)
        · refine r_iconst X0.here hx (hb hby d1_34) (v := 5) rfl (pc' := 35) rfl ?_
          refine r_retI X0 hx hlk hret (hb hby d1_35) ?_ (by decide) (by decide)
          try rw [e0]
          have l1 : (128 : Int32).toInt = 128 := rfl
          have l2 : (16384 : Int32).toInt = 16384 := rfl
          have l3 : (2097152 : Int32).toInt = 2097152 := rfl
          have l4 : (268435456 : Int32).toInt = 268435456 := rfl
          refine ⟨?_, N0, rfl⟩
          unfold own_n
          rw [if_neg (by omega), if_neg (by omega), if_neg (by omega), if_neg (by omega)]
        · refine r_iconst X0.here hx (hb hby d1_32) (v := 4) rfl (pc' := 33) rfl ?_
          refine r_retI X0 hx hlk hret (hb hby d1_33) ?_ (by decide) (by decide)
          try rw [e0]
          have l1 : (128 : Int32).toInt = 128 := rfl
          have l2 : (16384 : Int32).toInt = 16384 := rfl
          have l3 : (2097152 : Int32).toInt = 2097152 := rfl
          have l4 : (268435456 : Int32).toInt = 268435456 := rfl
          refine ⟨?_, N0, rfl⟩
          unfold own_n
          rw [if_neg (by omega), if_neg (by omega), if_neg (by omega), if_pos (by omega)]
      · refine r_iconst X0.here hx (hb hby d1_24) (v := 3) rfl (pc' := 25) rfl ?_
        refine r_retI X0 hx hlk hret (hb hby d1_25) ?_ (by decide) (by decide)
        try rw [e0]
        have l1 : (128 : Int32).toInt = 128 := rfl
        have l2 : (16384 : Int32).toInt = 16384 := rfl
        have l3 : (2097152 : Int32).toInt = 2097152 := rfl
        have l4 : (268435456 : Int32).toInt = 268435456 := rfl
        refine ⟨?_, N0, rfl⟩
        unfold own_n
        rw [if_neg (by omega), if_neg (by omega), if_pos (by omega)]
    · refine r_iconst X0.here hx (hb hby d1_16) (v := 2) rfl (pc' := 17) rfl ?_
      refine r_retI X0 hx hlk hret (hb hby d1_17) ?_ (by decide) (by decide)
      try rw [e0]
      have l1 : (128 : Int32).toInt = 128 := rfl
      have l2 : (16384 : Int32).toInt = 16384 := rfl
      have l3 : (2097152 : Int32).toInt = 2097152 := rfl
      have l4 : (268435456 : Int32).toInt = 268435456 := rfl
      refine ⟨?_, N0, rfl⟩
      unfold own_n
      rw [if_neg (by omega), if_pos (by omega)]
  · refine r_iconst X0.here hx (hb hby d1_7) (v := 1) rfl (pc' := 8) rfl ?_
    refine r_retI X0 hx hlk hret (hb hby d1_8) ?_ (by decide) (by decide)
    try rw [e0]
    have l1 : (128 : Int32).toInt = 128 := rfl
    have l2 : (16384 : Int32).toInt = 16384 := rfl
    have l3 : (2097152 : Int32).toInt = 2097152 := rfl
    have l4 : (268435456 : Int32).toInt = 268435456 := rfl
    refine ⟨?_, N0, rfl⟩
    unfold own_n
    rw [if_pos (by omega)]
theorem d2_0 : decode prog_12_method_7_code 0 = .ok (.iload_n 1, 1) := by decide +kernel
theorem d2_1 : decode prog_12_method_7_code 1 = .ok (.istore_n 3, 1) := by decide +kernel
theorem d2_2 : decode prog_12_method_7_code 2 = .ok (.iload_n 2, 1) := by decide +kernel
theorem d2_3 : decode prog_12_method_7_code 3 = .ok (.istore 4, 2) := by decide +kernel
theorem d2_5 : decode prog_12_method_7_code 5 = .ok (.iload 4, 2) := by decide +kernel
theorem d2_7 : decode prog_12_method_7_code 7 = .ok (.sipush 128, 3) := by decide +kernel
theorem d2_10 : decode prog_12_method_7_code 10 = .ok (.if_icmp .lt 26, 3) := by decide +kernel
theorem d2_36 : decode prog_12_method_7_code 36 = .ok (.aload_n 0, 1) := by decide +kernel
theorem d2_37 : decode prog_12_method_7_code 37 = .ok (.iload_n 3, 1) := by decide +kernel
theorem d2_38 : decode prog_12_method_7_code 38 = .ok (.iinc 3 1, 3) := by decide +kernel
theorem d2_41 : decode prog_12_method_7_code 41 = .ok (.iload 4, 2) := by decide +kernel
theorem d2_43 : decode prog_12_method_7_code 43 = .ok (.i2b, 1) := by decide +kernel
theorem d2_44 : decode prog_12_method_7_code 44 = .ok (.bastore, 1) := by decide +kernel
theorem d2_45 : decode prog_12_method_7_code 45 = .ok (.iload_n 3, 1) := by decide +kernel
theorem d2_46 : decode prog_12_method_7_code 46 = .ok (.ireturn, 1) := by decide +kernel
theorem d2_13 : decode prog_12_method_7_code 13 = .ok (.aload_n 0, 1) := by decide +kernel
theorem d2_14 : decode prog_12_method_7_code 14 = .ok (.iload_n 3, 1) := by decide +kernel
theorem d2_15 : decode prog_12_method_7_code 15 = .ok (.iinc 3 1, 3) := by decide +kernel
theorem d2_18 : decode prog_12_method_7_code 18 = .ok (.iload 4, 2) := by decide +kernel
theorem d2_20 : decode prog_12_method_7_code 20 = .ok (.sipush 128, 3) := by decide +kernel
theorem d2_23 : decode prog_12_method_7_code 23 = .ok (.ior, 1) := by decide +kernel
theorem d2_24 : decode prog_12_method_7_code 24 = .ok (.i2b, 1) := by decide +kernel
theorem d2_25 : decode prog_12_method_7_code 25 = .ok (.bastore, 1) := by decide +kernel
theorem d2_26 : decode prog_12_method_7_code 26 = .ok (.iload 4, 2) := by decide +kernel
theorem d2_28 : decode prog_12_method_7_code 28 = .ok (.bipush 7, 2) := by decide +kernel
theorem d2_30 : decode prog_12_method_7_code 30 = .ok (.iushr, 1) := by decide +kernel
theorem d2_31 : decode prog_12_method_7_code 31 = .ok (.istore 4, 2) := by decide +kernel
theorem d2_33 : decode prog_12_method_7_code 33 = .ok (.goto (-28), 3) := by decide +kernel
theorem pn_1 : plainName "com/example/floe/floe/engine/GroupKeys" = true := by first | (simp [plainName, overriddenIn]; done) | decide +kernel
theorem ef_rmP (m : MethodId) (x0 : Addr) (x1 : Int32) (x2 : Int32) : entryFrame m #[(.ref x0), (.int x1), (.int x2)] 5 = mkF m 0 #[.val (.ref x0), .val (.int x1), .val (.int x2), .unset, .unset] [] := by first | (simp [entryFrame, mkF, argsToLocals, Value.category, maxLocals]; done) | rfl
set_option maxRecDepth 65536 in
set_option maxHeartbeats 40000000 in
theorem rmP (l : Launch) (Z : State) (a0 : Array Value) (hw : ∀ d ∈ tables_1, d.before a0 Z = true) (ws : List Jvm.Cond) (b : Addr) (pos len x : Int32) (h0 : Heap) (n0 : Nat) (Z0 : n0 ≤ h0.size) (gb : n0 ≤ b) (Ab : Ary Z h0 b .byte 16 (fun _ => .int x)) (hp0 : 0 ≤ pos.toInt) (hp1 : pos.toInt < 8) (hl0 : 0 ≤ len.toInt) :
    Met l Z (⟨"com/example/floe/floe/engine/GroupKeys", "putLength", "([BII)I"⟩ : MethodName) prog_12_method_7_code 5 (some .int) ws ({ frames := 0, cells := 0, slots := 0, locals := 0 } : Room) #[(.ref b), (.int pos), (.int len)] h0 (fun v h L => v = some (.int (pos + own_n len)) ∧ Fr n0 L ∧ Keep h0 h [b] ∧ Ary Z h b .byte 16 (fun i => .int (own_W (Int32.ofInt (i : Int)) len pos (own_n len) x))) 0 0 := by
  refine met_of (plainFor_of_name pn_1) (f0 := fun m => (mkF m 0 #[.val (.ref b), .val (.int pos), .val (.int len), .unset, .unset] [])) (fun m => ef_rmP m b pos len) ?_
  intro p e s m below meth c s₁ X0 hx hby hml hret hlk hown hnm hZ e0
  replace hown : s.vm.findClass "com/example/floe/floe/engine/GroupKeys" = some m.cls := hown
  have N0 := Fr.nil n0
  have l1 : (128 : Int32).toInt = 128 := rfl
  have l2 : (16384 : Int32).toInt = 16384 := rfl
  have l3 : (2097152 : Int32).toInt = 2097152 := rfl
  have l4 : (268435456 : Int32).toInt = 268435456 := rfl
  have lp : (1 : Int32).toInt = 1 := rfl
  have rl := own_rg len
  have p1 : (pos + (1 : Int32)).toInt = pos.toInt + 1 := by rw [own_add (by omega) (by omega)]; omega
  have r1 : (ushrI len (7 : Int32)).toInt = len.toInt / 128 := by rw [own_sh (k := 7) (d := 128) rfl (by decide) rfl (by omega)]; try omega
  have p2 : ((pos + (1 : Int32)) + (1 : Int32)).toInt = pos.toInt + 2 := by rw [own_add (by omega) (by omega)]; omega
  have r2 : (ushrI (ushrI len (7 : Int32)) (7 : Int32)).toInt = len.toInt / 16384 := by rw [own_sh (k := 7) (d := 128) rfl (by decide) rfl (by omega)]; try omega
  have p3 : (((pos + (1 : Int32)) + (1 : Int32)) + (1 : Int32)).toInt = pos.toInt + 3 := by rw [own_add (by omega) (by omega)]; omega
  have r3 : (ushrI (ushrI (ushrI len (7 : Int32)) (7 : Int32)) (7 : Int32)).toInt = len.toInt / 2097152 := by rw [own_sh (k := 7) (d := 128) rfl (by decide) rfl (by omega)]; try omega
  have p4 : ((((pos + (1 : Int32)) + (1 : Int32)) + (1 : Int32)) + (1 : Int32)).toInt = pos.toInt + 4 := by rw [own_add (by omega) (by omega)]; omega
  have r4 : (ushrI (ushrI (ushrI (ushrI len (7 : Int32)) (7 : Int32)) (7 : Int32)) (7 : Int32)).toInt = len.toInt / 268435456 := by rw [own_sh (k := 7) (d := 128) rfl (by decide) rfl (by omega)]; try omega
  have p5 : (((((pos + (1 : Int32)) + (1 : Int32)) + (1 : Int32)) + (1 : Int32)) + (1 : Int32)).toInt = pos.toInt + 5 := by rw [own_add (by omega) (by omega)]; omega
  have r5 : (ushrI (ushrI (ushrI (ushrI (ushrI len (7 : Int32)) (7 : Int32)) (7 : Int32)) (7 : Int32)) (7 : Int32)).toInt = len.toInt / 34359738368 := by rw [own_sh (k := 7) (d := 128) rfl (by decide) rfl (by omega)]; try omega
  refine r_iloadN X0.here hx (hb hby d2_0) rfl (pc' := 1) rfl ?_
  refine r_istoreN X0.here hx (hb hby d2_1) (l' := #[.val (.ref b), .val (.int pos), .val (.int len), .val (.int pos), .unset]) rfl (pc' := 2) rfl ?_
  refine r_iloadN X0.here hx (hb hby d2_2) rfl (pc' := 3) rfl ?_
  refine r_istore X0.here hx (hb hby d2_3) (l' := #[.val (.ref b), .val (.int pos), .val (.int len), .val (.int pos), .val (.int len)]) rfl (pc' := 5) rfl ?_
  refine r_iload X0.here hx (hb hby d2_5) rfl (pc' := 7) rfl ?_
  refine r_sipush X0.here hx (hb hby d2_7) (v := 128) rfl (pc' := 10) rfl ?_
  refine r_if_lt X0.here hx (hb hby d2_10) (by decide) (pc' := 36) (by decide) (pc2 := 13) rfl (fun hc10 => ?_) (fun hc10 => ?_)
  · refine r_aloadN X0.here hx (hb hby d2_36) rfl rfl (pc' := 37) rfl ?_
    refine r_iloadN X0.here hx (hb hby d2_37) rfl (pc' := 38) rfl ?_
    refine r_iinc X0.here hx (hb hby d2_38) rfl (z := (pos + (1 : Int32))) rfl (l' := #[.val (.ref b), .val (.int pos), .val (.int len), .val (.int (pos + (1 : Int32))), .val (.int len)]) rfl (pc' := 41) rfl ?_
    refine r_iload X0.here hx (hb hby d2_41) rfl (pc' := 43) rfl ?_
    refine r_i2b X0.here hx (hb hby d2_43) (pc' := 44) rfl ?_
    refine q_bastoreB X0 hx hZ e0 (j := pos) Ab (by omega) (by omega) (w := (len.toInt8.toInt32)) (own_nb _) (hb hby d2_44) (pc' := 45) rfl (fun T1 h1 X1 e1 W1 A1 => ?_)
    have K2 : Keep h0 h0 [b] := Keep.refl _ _
    have K3 := K2.wr W1 (Or.inl (List.mem_of_getElem? (i := 0) rfl))
    have Z4 : n0 ≤ h1.size := by have q := Z0; rw [W1.size]; exact q
    have N1 := Fr.snoc X1 N0 gb
    refine r_iloadN X1.here hx (hb hby d2_45) rfl (pc' := 46) rfl ?_
    refine r_retI X1 hx hlk hret (hb hby d2_46) ?_ (by decide) (by decide)
    try rw [e1]
    have hn : own_n len = 1 := by unfold own_n; rw [if_pos (by omega)]
    have ln : (1 : Int32).toInt = 1 := rfl
    refine ⟨?_, N1, K3, (A1).congr fun i hi => ?_⟩
    · rw [hn]; first | done | exact congrArg (fun z => some (Value.int z)) (Int32.toInt_inj.mp (by have ee : (pos + 1).toInt = pos.toInt + (1 : Int32).toInt := own_add (by omega) (by omega); omega))
    · have ei : (Int32.ofInt (i : Int)).toInt = i := Int32.toInt_ofInt_of_le (by omega) (by omega)
      have ej : (Int32.ofInt (i : Int) - pos).toInt = i - pos.toInt := by rw [own_sub (by omega) (by omega), ei]
      have e1 : ((1 : Int32) - 1).toInt = 0 := rfl
      rw [hn]
      by_cases c0 : (i : Int) = pos.toInt + 0
      · have q : Int32.ofInt (i : Int) - pos = 0 := Int32.toInt_inj.mp (by rw [ej]; show (i : Int) - pos.toInt = 0; omega)
        have w1 : own_W (Int32.ofInt (i : Int)) len pos 1 x = (ushrI len (7 * 0) &&& 127).toInt8.toInt32 := by
          unfold own_W; rw [if_neg (by omega), if_pos (by omega), q]
        have s1 : ushrI len (7 * 0) = len := own_sh0 len
        rw [w1, s1]
        rw [if_pos (by omega)]
        rw [own_b0 len (by omega) (by omega)]
      have w1 : own_W (Int32.ofInt (i : Int)) len pos 1 x = x := by unfold own_W; rw [if_pos (by omega)]
      rw [w1, if_neg (by omega)]
  · refine r_aloadN X0.here hx (hb hby d2_13) rfl rfl (pc' := 14) rfl ?_
    refine r_iloadN X0.here hx (hb hby d2_14) rfl (pc' := 15) rfl ?_
    refine r_iinc X0.here hx (hb hby d2_15) rfl (z := (pos + (1 : Int32))) rfl (l' := #[.val (.ref b), .val (.int pos), .val (.int len), .val (.int (pos + (1 : Int32))), .val (.int len)]) rfl (pc' := 18) rfl ?_
    refine r_iload X0.here hx (hb hby d2_18) rfl (pc' := 20) rfl ?_
    refine r_sipush X0.here hx (hb hby d2_20) (v := 128) rfl (pc' := 23) rfl ?_
    refine r_ior X0.here hx (hb hby d2_23) (pc' := 24) rfl ?_
    refine r_i2b X0.here hx (hb hby d2_24) (pc' := 25) rfl ?_
    refine q_bastoreB X0 hx hZ e0 (j := pos) Ab (by omega) (by omega) (w := ((len ||| (128 : Int32)).toInt8.toInt32)) (own_nb _) (hb hby d2_25) (pc' := 26) rfl (fun T5 h5 X5 e5 W5 A5 => ?_)
    have K6 : Keep h0 h0 [b] := Keep.refl _ _
    have K7 := K6.wr W5 (Or.inl (List.mem_of_getElem? (i := 0) rfl))
    have Z8 : n0 ≤ h5.size := by have q := Z0; rw [W5.size]; exact q
    have N5 := Fr.snoc X5 N0 gb
    refine r_iload X5.here hx (hb hby d2_26) rfl (pc' := 28) rfl ?_
    refine r_bipush X5.here hx (hb hby d2_28) (v := 7) rfl (pc' := 30) rfl ?_
    refine r_iushr X5.here hx (hb hby d2_30) (pc' := 31) rfl ?_
    refine r_istore X5.here hx (hb hby d2_31) (l' := #[.val (.ref b), .val (.int pos), .val (.int len), .val (.int (pos + (1 : Int32))), .val (.int (ushrI len (7 : Int32)))]) rfl (pc' := 33) rfl ?_
    refine r_goto X5.here hx (hb hby d2_33) (by decide) (pc' := 5) (by decide) ?_
    refine r_iload X5.here hx (hb hby d2_5) rfl (pc' := 7) rfl ?_
    refine r_sipush X5.here hx (hb hby d2_7) (v := 128) rfl (pc' := 10) rfl ?_
    refine r_if_lt X5.here hx (hb hby d2_10) (by decide) (pc' := 36) (by decide) (pc2 := 13) rfl (fun hc10_1 => ?_) (fun hc10_1 => ?_)
    · refine r_aloadN X5.here hx (hb hby d2_36) rfl rfl (pc' := 37) rfl ?_
      refine r_iloadN X5.here hx (hb hby d2_37) rfl (pc' := 38) rfl ?_
      refine r_iinc X5.here hx (hb hby d2_38) rfl (z := ((pos + (1 : Int32)) + (1 : Int32))) rfl (l' := #[.val (.ref b), .val (.int pos), .val (.int len), .val (.int ((pos + (1 : Int32)) + (1 : Int32))), .val (.int (ushrI len (7 : Int32)))]) rfl (pc' := 41) rfl ?_
      refine r_iload X5.here hx (hb hby d2_41) rfl (pc' := 43) rfl ?_
      refine r_i2b X5.here hx (hb hby d2_43) (pc' := 44) rfl ?_
      refine q_bastoreB X5 hx hZ e5 (j := (pos + (1 : Int32))) A5 (by omega) (by omega) (w := ((ushrI len (7 : Int32)).toInt8.toInt32)) (own_nb _) (hb hby d2_44) (pc' := 45) rfl (fun T9 h9 X9 e9 W9 A9 => ?_)
      have K10 := K7.wr W9 (Or.inl (List.mem_of_getElem? (i := 0) rfl))
      have Z11 : n0 ≤ h9.size := by have q := Z8; rw [W9.size]; exact q
      have N9 := Fr.snoc X9 N5 gb
      refine r_iloadN X9.here hx (hb hby d2_45) rfl (pc' := 46) rfl ?_
      refine r_retI X9 hx hlk hret (hb hby d2_46) ?_ (by decide) (by decide)
      try rw [e9]
      have hn : own_n len = 2 := by unfold own_n; rw [if_neg (by omega), if_pos (by omega)]
      have ln : (2 : Int32).toInt = 2 := rfl
      refine ⟨?_, N9, K10, (A9).congr fun i hi => ?_⟩
      · rw [hn]; first | done | exact congrArg (fun z => some (Value.int z)) (Int32.toInt_inj.mp (by have ee : (pos + 2).toInt = pos.toInt + (2 : Int32).toInt := own_add (by omega) (by omega); omega))
      · have ei : (Int32.ofInt (i : Int)).toInt = i := Int32.toInt_ofInt_of_le (by omega) (by omega)
        have ej : (Int32.ofInt (i : Int) - pos).toInt = i - pos.toInt := by rw [own_sub (by omega) (by omega), ei]
        have e1 : ((2 : Int32) - 1).toInt = 1 := rfl
        rw [hn]
        by_cases c0 : (i : Int) = pos.toInt + 0
        · have q : Int32.ofInt (i : Int) - pos = 0 := Int32.toInt_inj.mp (by rw [ej]; show (i : Int) - pos.toInt = 0; omega)
          have w1 : own_W (Int32.ofInt (i : Int)) len pos 2 x = ((ushrI len (7 * 0) &&& 127) ||| 128).toInt8.toInt32 := by
            unfold own_W; rw [if_neg (by omega), if_neg (by omega), q]
          have s1 : ushrI len (7 * 0) = len := own_sh0 len
          rw [w1, s1]
          rw [if_neg (by omega), if_pos (by omega)]
          rw [own_b1 len]
        by_cases c1 : (i : Int) = pos.toInt + 1
        · have q : Int32.ofInt (i : Int) - pos = 1 := Int32.toInt_inj.mp (by rw [ej]; show (i : Int) - pos.toInt = 1; omega)
          have w1 : own_W (Int32.ofInt (i : Int)) len pos 2 x = (ushrI len (7 * 1) &&& 127).toInt8.toInt32 := by
            unfold own_W; rw [if_neg (by omega), if_pos (by omega), q]
          have s1 : ushrI len (7 * 1) = (ushrI len (7 : Int32)) := Int32.toInt_inj.mp (by rw [own_sh (q := 7 * 1) (k := 7) (d := 128) rfl (by decide) rfl (by omega)]; omega)
          rw [w1, s1]
          rw [if_pos (by omega)]
          rw [own_b0 (ushrI len (7 : Int32)) (by omega) (by omega)]
        have w1 : own_W (Int32.ofInt (i : Int)) len pos 2 x = x := by unfold own_W; rw [if_pos (by omega)]
        rw [w1, if_neg (by omega), if_neg (by omega)]
    · refine r_aloadN X5.here hx (hb hby d2_13) rfl rfl (pc' := 14) rfl ?_
      refine r_iloadN X5.here hx (hb hby d2_14) rfl (pc' := 15) rfl ?_
      refine r_iinc X5.here hx (hb hby d2_15) rfl (z := ((pos + (1 : Int32)) + (1 : Int32))) rfl (l' := #[.val (.ref b), .val (.int pos), .val (.int len), .val (.int ((pos + (1 : Int32)) + (1 : Int32))), .val (.int (ushrI len (7 : Int32)))]) rfl (pc' := 18) rfl ?_
      refine r_iload X5.here hx (hb hby d2_18) rfl (pc' := 20) rfl ?_
      refine r_sipush X5.here hx (hb hby d2_20) (v := 128) rfl (pc' := 23) rfl ?_
      refine r_ior X5.here hx (hb hby d2_23) (pc' := 24) rfl ?_
      refine r_i2b X5.here hx (hb hby d2_24) (pc' := 25) rfl ?_
      refine q_bastoreB X5 hx hZ e5 (j := (pos + (1 : Int32))) A5 (by omega) (by omega) (w := (((ushrI len (7 : Int32)) ||| (128 : Int32)).toInt8.toInt32)) (own_nb _) (hb hby d2_25) (pc' := 26) rfl (fun T12 h12 X12 e12 W12 A12 => ?_)
      have K13 := K7.wr W12 (Or.inl (List.mem_of_getElem? (i := 0) rfl))
      have Z14 : n0 ≤ h12.size := by have q := Z8; rw [W12.size]; exact q
      have N12 := Fr.snoc X12 N5 gb
      refine r_iload X12.here hx (hb hby d2_26) rfl (pc' := 28) rfl ?_
      refine r_bipush X12.here hx (hb hby d2_28) (v := 7) rfl (pc' := 30) rfl ?_
      refine r_iushr X12.here hx (hb hby d2_30) (pc' := 31) rfl ?_
      refine r_istore X12.here hx (hb hby d2_31) (l' := #[.val (.ref b), .val (.int pos), .val (.int len), .val (.int ((pos + (1 : Int32)) + (1 : Int32))), .val (.int (ushrI (ushrI len (7 : Int32)) (7 : Int32)))]) rfl (pc' := 33) rfl ?_
      refine r_goto X12.here hx (hb hby d2_33) (by decide) (pc' := 5) (by decide) ?_
      refine r_iload X12.here hx (hb hby d2_5) rfl (pc' := 7) rfl ?_
      refine r_sipush X12.here hx (hb hby d2_7) (v := 128) rfl (pc' := 10) rfl ?_
      refine r_if_lt X12.here hx (hb hby d2_10) (by decide) (pc' := 36) (by decide) (pc2 := 13) rfl (fun hc10_2 => ?_) (fun hc10_2 => ?_)
      · refine r_aloadN X12.here hx (hb hby d2_36) rfl rfl (pc' := 37) rfl ?_
        refine r_iloadN X12.here hx (hb hby d2_37) rfl (pc' := 38) rfl ?_
        refine r_iinc X12.here hx (hb hby d2_38) rfl (z := (((pos + (1 : Int32)) + (1 : Int32)) + (1 : Int32))) rfl (l' := #[.val (.ref b), .val (.int pos), .val (.int len), .val (.int (((pos + (1 : Int32)) + (1 : Int32)) + (1 : Int32))), .val (.int (ushrI (ushrI len (7 : Int32)) (7 : Int32)))]) rfl (pc' := 41) rfl ?_
        refine r_iload X12.here hx (hb hby d2_41) rfl (pc' := 43) rfl ?_
        refine r_i2b X12.here hx (hb hby d2_43) (pc' := 44) rfl ?_
        refine q_bastoreB X12 hx hZ e12 (j := ((pos + (1 : Int32)) + (1 : Int32))) A12 (by omega) (by omega) (w := ((ushrI (ushrI len (7 : Int32)) (7 : Int32)).toInt8.toInt32)) (own_nb _) (hb hby d2_44) (pc' := 45) rfl (fun T15 h15 X15 e15 W15 A15 => ?_)
        have K16 := K13.wr W15 (Or.inl (List.mem_of_getElem? (i := 0) rfl))
        have Z17 : n0 ≤ h15.size := by have q := Z14; rw [W15.size]; exact q
        have N15 := Fr.snoc X15 N12 gb
        refine r_iloadN X15.here hx (hb hby d2_45) rfl (pc' := 46) rfl ?_
        refine r_retI X15 hx hlk hret (hb hby d2_46) ?_ (by decide) (by decide)
        try rw [e15]
        have hn : own_n len = 3 := by unfold own_n; rw [if_neg (by omega), if_neg (by omega), if_pos (by omega)]
        have ln : (3 : Int32).toInt = 3 := rfl
        refine ⟨?_, N15, K16, (A15).congr fun i hi => ?_⟩
        · rw [hn]; first | done | exact congrArg (fun z => some (Value.int z)) (Int32.toInt_inj.mp (by have ee : (pos + 3).toInt = pos.toInt + (3 : Int32).toInt := own_add (by omega) (by omega); omega))
        · have ei : (Int32.ofInt (i : Int)).toInt = i := Int32.toInt_ofInt_of_le (by omega) (by omega)
          have ej : (Int32.ofInt (i : Int) - pos).toInt = i - pos.toInt := by rw [own_sub (by omega) (by omega), ei]
          have e1 : ((3 : Int32) - 1).toInt = 2 := rfl
          rw [hn]
          by_cases c0 : (i : Int) = pos.toInt + 0
          · have q : Int32.ofInt (i : Int) - pos = 0 := Int32.toInt_inj.mp (by rw [ej]; show (i : Int) - pos.toInt = 0; omega)
            have w1 : own_W (Int32.ofInt (i : Int)) len pos 3 x = ((ushrI len (7 * 0) &&& 127) ||| 128).toInt8.toInt32 := by
              unfold own_W; rw [if_neg (by omega), if_neg (by omega), q]
            have s1 : ushrI len (7 * 0) = len := own_sh0 len
            rw [w1, s1]
            rw [if_neg (by omega), if_neg (by omega), if_pos (by omega)]
            rw [own_b1 len]
          by_cases c1 : (i : Int) = pos.toInt + 1
          · have q : Int32.ofInt (i : Int) - pos = 1 := Int32.toInt_inj.mp (by rw [ej]; show (i : Int) - pos.toInt = 1; omega)
            have w1 : own_W (Int32.ofInt (i : Int)) len pos 3 x = ((ushrI len (7 * 1) &&& 127) ||| 128).toInt8.toInt32 := by
              unfold own_W; rw [if_neg (by omega), if_neg (by omega), q]
            have s1 : ushrI len (7 * 1) = (ushrI len (7 : Int32)) := Int32.toInt_inj.mp (by rw [own_sh (q := 7 * 1) (k := 7) (d := 128) rfl (by decide) rfl (by omega)]; omega)
            rw [w1, s1]
            rw [if_neg (by omega), if_pos (by omega)]
            rw [own_b1 (ushrI len (7 : Int32))]
          by_cases c2 : (i : Int) = pos.toInt + 2
          · have q : Int32.ofInt (i : Int) - pos = 2 := Int32.toInt_inj.mp (by rw [ej]; show (i : Int) - pos.toInt = 2; omega)
            have w1 : own_W (Int32.ofInt (i : Int)) len pos 3 x = (ushrI len (7 * 2) &&& 127).toInt8.toInt32 := by
              unfold own_W; rw [if_neg (by omega), if_pos (by omega), q]
            have s1 : ushrI len (7 * 2) = (ushrI (ushrI len (7 : Int32)) (7 : Int32)) := Int32.toInt_inj.mp (by rw [own_sh (q := 7 * 2) (k := 14) (d := 16384) rfl (by decide) rfl (by omega)]; omega)
            rw [w1, s1]
            rw [if_pos (by omega)]
            rw [own_b0 (ushrI (ushrI len (7 : Int32)) (7 : Int32)) (by omega) (by omega)]
          have w1 : own_W (Int32.ofInt (i : Int)) len pos 3 x = x := by unfold own_W; rw [if_pos (by omega)]
          rw [w1, if_neg (by omega), if_neg (by omega), if_neg (by omega)]
      · refine r_aloadN X12.here hx (hb hby d2_13) rfl rfl (pc' := 14) rfl ?_
        refine r_iloadN X12.here hx (hb hby d2_14) rfl (pc' := 15) rfl ?_
        refine r_iinc X12.here hx (hb hby d2_15) rfl (z := (((pos + (1 : Int32)) + (1 : Int32)) + (1 : Int32))) rfl (l' := #[.val (.ref b), .val (.int pos), .val (.int len), .val (.int (((pos + (1 : Int32)) + (1 : Int32)) + (1 : Int32))), .val (.int (ushrI (ushrI len (7 : Int32)) (7 : Int32)))]) rfl (pc' := 18) rfl ?_
        refine r_iload X12.here hx (hb hby d2_18) rfl (pc' := 20) rfl ?_
        refine r_sipush X12.here hx (hb hby d2_20) (v := 128) rfl (pc' := 23) rfl ?_
        refine r_ior X12.here hx (hb hby d2_23) (pc' := 24) rfl ?_
        refine r_i2b X12.here hx (hb hby d2_24) (pc' := 25) rfl ?_
        refine q_bastoreB X12 hx hZ e12 (j := ((pos + (1 : Int32)) + (1 : Int32))) A12 (by omega) (by omega) (w := (((ushrI (ushrI len (7 : Int32)) (7 : Int32)) ||| (128 : Int32)).toInt8.toInt32)) (own_nb _) (hb hby d2_25) (pc' := 26) rfl (fun T18 h18 X18 e18 W18 A18 => ?_)
        have K19 := K13.wr W18 (Or.inl (List.mem_of_getElem? (i := 0) rfl))
        have Z20 : n0 ≤ h18.size := by have q := Z14; rw [W18.size]; exact q
        have N18 := Fr.snoc X18 N12 gb
        refine r_iload X18.here hx (hb hby d2_26) rfl (pc' := 28) rfl ?_
        refine r_bipush X18.here hx (hb hby d2_28) (v := 7) rfl (pc' := 30) rfl ?_
        refine r_iushr X18.here hx (hb hby d2_30) (pc' := 31) rfl ?_
        refine r_istore X18.here hx (hb hby d2_31) (l' := #[.val (.ref b), .val (.int pos), .val (.int len), .val (.int (((pos + (1 : Int32)) + (1 : Int32)) + (1 : Int32))), .val (.int (ushrI (ushrI (ushrI len (7 : Int32)) (7 : Int32)) (7 : Int32)))]) rfl (pc' := 33) rfl ?_
        refine r_goto X18.here hx (hb hby d2_33) (by decide) (pc' := 5) (by decide) ?_
        refine r_iload X18.here hx (hb hby d2_5) rfl (pc' := 7) rfl ?_
        refine r_sipush X18.here hx (hb hby d2_7) (v := 128) rfl (pc' := 10) rfl ?_
        refine r_if_lt X18.here hx (hb hby d2_10) (by decide) (pc' := 36) (by decide) (pc2 := 13) rfl (fun hc10_3 => ?_) (fun hc10_3 => ?_)
        · refine r_aloadN X18.here hx (hb hby d2_36) rfl rfl (pc' := 37) rfl ?_
          refine r_iloadN X18.here hx (hb hby d2_37) rfl (pc' := 38) rfl ?_
          refine r_iinc X18.here hx (hb hby d2_38) rfl (z := ((((pos + (1 : Int32)) + (1 : Int32)) + (1 : Int32)) + (1 : Int32))) rfl (l' := #[.val (.ref b), .val (.int pos), .val (.int len), .val (.int ((((pos + (1 : Int32)) + (1 : Int32)) + (1 : Int32)) + (1 : Int32))), .val (.int (ushrI (ushrI (ushrI len (7 : Int32)) (7 : Int32)) (7 : Int32)))]) rfl (pc' := 41) rfl ?_
          refine r_iload X18.here hx (hb hby d2_41) rfl (pc' := 43) rfl ?_
          refine r_i2b X18.here hx (hb hby d2_43) (pc' := 44) rfl ?_
          refine q_bastoreB X18 hx hZ e18 (j := (((pos + (1 : Int32)) + (1 : Int32)) + (1 : Int32))) A18 (by omega) (by omega) (w := ((ushrI (ushrI (ushrI len (7 : Int32)) (7 : Int32)) (7 : Int32)).toInt8.toInt32)) (own_nb _) (hb hby d2_44) (pc' := 45) rfl (fun T21 h21 X21 e21 W21 A21 => ?_)
          have K22 := K19.wr W21 (Or.inl (List.mem_of_getElem? (i := 0) rfl))
          have Z23 : n0 ≤ h21.size := by have q := Z20; rw [W21.size]; exact q
          have N21 := Fr.snoc X21 N18 gb
          refine r_iloadN X21.here hx (hb hby d2_45) rfl (pc' := 46) rfl ?_
          refine r_retI X21 hx hlk hret (hb hby d2_46) ?_ (by decide) (by decide)
          try rw [e21]
          have hn : own_n len = 4 := by unfold own_n; rw [if_neg (by omega), if_neg (by omega), if_neg (by omega), if_pos (by omega)]
          have ln : (4 : Int32).toInt = 4 := rfl
          refine ⟨?_, N21, K22, (A21).congr fun i hi => ?_⟩
          · rw [hn]; first | done | exact congrArg (fun z => some (Value.int z)) (Int32.toInt_inj.mp (by have ee : (pos + 4).toInt = pos.toInt + (4 : Int32).toInt := own_add (by omega) (by omega); omega))
          · have ei : (Int32.ofInt (i : Int)).toInt = i := Int32.toInt_ofInt_of_le (by omega) (by omega)
            have ej : (Int32.ofInt (i : Int) - pos).toInt = i - pos.toInt := by rw [own_sub (by omega) (by omega), ei]
            have e1 : ((4 : Int32) - 1).toInt = 3 := rfl
            rw [hn]
            by_cases c0 : (i : Int) = pos.toInt + 0
            · have q : Int32.ofInt (i : Int) - pos = 0 := Int32.toInt_inj.mp (by rw [ej]; show (i : Int) - pos.toInt = 0; omega)
              have w1 : own_W (Int32.ofInt (i : Int)) len pos 4 x = ((ushrI len (7 * 0) &&& 127) ||| 128).toInt8.toInt32 := by
                unfold own_W; rw [if_neg (by omega), if_neg (by omega), q]
              have s1 : ushrI len (7 * 0) = len := own_sh0 len
              rw [w1, s1]
              rw [if_neg (by omega), if_neg (by omega), if_neg (by omega), if_pos (by omega)]
              rw [own_b1 len]
            by_cases c1 : (i : Int) = pos.toInt + 1
            · have q : Int32.ofInt (i : Int) - pos = 1 := Int32.toInt_inj.mp (by rw [ej]; show (i : Int) - pos.toInt = 1; omega)
              have w1 : own_W (Int32.ofInt (i : Int)) len pos 4 x = ((ushrI len (7 * 1) &&& 127) ||| 128).toInt8.toInt32 := by
                unfold own_W; rw [if_neg (by omega), if_neg (by omega), q]
              have s1 : ushrI len (7 * 1) = (ushrI len (7 : Int32)) := Int32.toInt_inj.mp (by rw [own_sh (q := 7 * 1) (k := 7) (d := 128) rfl (by decide) rfl (by omega)]; omega)
              rw [w1, s1]
              rw [if_neg (by omega), if_neg (by omega), if_pos (by omega)]
              rw [own_b1 (ushrI len (7 : Int32))]
            by_cases c2 : (i : Int) = pos.toInt + 2
            · have q : Int32.ofInt (i : Int) - pos = 2 := Int32.toInt_inj.mp (by rw [ej]; show (i : Int) - pos.toInt = 2; omega)
              have w1 : own_W (Int32.ofInt (i : Int)) len pos 4 x = ((ushrI len (7 * 2) &&& 127) ||| 128).toInt8.toInt32 := by
                unfold own_W; rw [if_neg (by omega), if_neg (by omega), q]
              have s1 : ushrI len (7 * 2) = (ushrI (ushrI len (7 : Int32)) (7 : Int32)) := Int32.toInt_inj.mp (by rw [own_sh (q := 7 * 2) (k := 14) (d := 16384) rfl (by decide) rfl (by omega)]; omega)
              rw [w1, s1]
              rw [if_neg (by omega), if_pos (by omega)]
              rw [own_b1 (ushrI (ushrI len (7 : Int32)) (7 : Int32))]
            by_cases c3 : (i : Int) = pos.toInt + 3
            · have q : Int32.ofInt (i : Int) - pos = 3 := Int32.toInt_inj.mp (by rw [ej]; show (i : Int) - pos.toInt = 3; omega)
              have w1 : own_W (Int32.ofInt (i : Int)) len pos 4 x = (ushrI len (7 * 3) &&& 127).toInt8.toInt32 := by
                unfold own_W; rw [if_neg (by omega), if_pos (by omega), q]
              have s1 : ushrI len (7 * 3) = (ushrI (ushrI (ushrI len (7 : Int32)) (7 : Int32)) (7 : Int32)) := Int32.toInt_inj.mp (by rw [own_sh (q := 7 * 3) (k := 21) (d := 2097152) rfl (by decide) rfl (by omega)]; omega)
              rw [w1, s1]
              rw [if_pos (by omega)]
              rw [own_b0 (ushrI (ushrI (ushrI len (7 : Int32)) (7 : Int32)) (7 : Int32)) (by omega) (by omega)]
            have w1 : own_W (Int32.ofInt (i : Int)) len pos 4 x = x := by unfold own_W; rw [if_pos (by omega)]
            rw [w1, if_neg (by omega), if_neg (by omega), if_neg (by omega), if_neg (by omega)]
        · refine r_aloadN X18.here hx (hb hby d2_13) rfl rfl (pc' := 14) rfl ?_
          refine r_iloadN X18.here hx (hb hby d2_14) rfl (pc' := 15) rfl ?_
          refine r_iinc X18.here hx (hb hby d2_15) rfl (z := ((((pos + (1 : Int32)) + (1 : Int32)) + (1 : Int32)) + (1 : Int32))) rfl (l' := #[.val (.ref b), .val (.int pos), .val (.int len), .val (.int ((((pos + (1 : Int32)) + (1 : Int32)) + (1 : Int32)) + (1 : Int32))), .val (.int (ushrI (ushrI (ushrI len (7 : Int32)) (7 : Int32)) (7 : Int32)))]) rfl (pc' := 18) rfl ?_
          refine r_iload X18.here hx (hb hby d2_18) rfl (pc' := 20) rfl ?_
          refine r_sipush X18.here hx (hb hby d2_20) (v := 128) rfl (pc' := 23) rfl ?_
          refine r_ior X18.here hx (hb hby d2_23) (pc' := 24) rfl ?_
          refine r_i2b X18.here hx (hb hby d2_24) (pc' := 25) rfl ?_
          refine q_bastoreB X18 hx hZ e18 (j := (((pos + (1 : Int32)) + (1 : Int32)) + (1 : Int32))) A18 (by omega) (by omega) (w := (((ushrI (ushrI (ushrI len (7 : Int32)) (7 : Int32)) (7 : Int32)) ||| (128 : Int32)).toInt8.toInt32)) (own_nb _) (hb hby d2_25) (pc' := 26) rfl (fun T24 h24 X24 e24 W24 A24 => ?_)
          have K25 := K19.wr W24 (Or.inl (List.mem_of_getElem? (i := 0) rfl))
          have Z26 : n0 ≤ h24.size := by have q := Z20; rw [W24.size]; exact q
          have N24 := Fr.snoc X24 N18 gb
          refine r_iload X24.here hx (hb hby d2_26) rfl (pc' := 28) rfl ?_
          refine r_bipush X24.here hx (hb hby d2_28) (v := 7) rfl (pc' := 30) rfl ?_
          refine r_iushr X24.here hx (hb hby d2_30) (pc' := 31) rfl ?_
          refine r_istore X24.here hx (hb hby d2_31) (l' := #[.val (.ref b), .val (.int pos), .val (.int len), .val (.int ((((pos + (1 : Int32)) + (1 : Int32)) + (1 : Int32)) + (1 : Int32))), .val (.int (ushrI (ushrI (ushrI (ushrI len (7 : Int32)) (7 : Int32)) (7 : Int32)) (7 : Int32)))]) rfl (pc' := 33) rfl ?_
          refine r_goto X24.here hx (hb hby d2_33) (by decide) (pc' := 5) (by decide) ?_
          refine r_iload X24.here hx (hb hby d2_5) rfl (pc' := 7) rfl ?_
          refine r_sipush X24.here hx (hb hby d2_7) (v := 128) rfl (pc' := 10) rfl ?_
          refine r_if_lt X24.here hx (hb hby d2_10) (by decide) (pc' := 36) (by decide) (pc2 := 13) rfl (fun hc10_4 => ?_) (fun hc10_4 => absurd (show (ushrI (ushrI (ushrI (ushrI len (7 : Int32)) (7 : Int32)) (7 : Int32)) (7 : Int32)).toInt < (128 : Int32).toInt by omega) hc10_4)
          refine r_aloadN X24.here hx (hb hby d2_36) rfl rfl (pc' := 37) rfl ?_
          refine r_iloadN X24.here hx (hb hby d2_37) rfl (pc' := 38) rfl ?_
          refine r_iinc X24.here hx (hb hby d2_38) rfl (z := (((((pos + (1 : Int32)) + (1 : Int32)) + (1 : Int32)) + (1 : Int32)) + (1 : Int32))) rfl (l' := #[.val (.ref b), .val (.int pos), .val (.int len), .val (.int (((((pos + (1 : Int32)) + (1 : Int32)) + (1 : Int32)) + (1 : Int32)) + (1 : Int32))), .val (.int (ushrI (ushrI (ushrI (ushrI len (7 : Int32)) (7 : Int32)) (7 : Int32)) (7 : Int32)))]) rfl (pc' := 41) rfl ?_
          refine r_iload X24.here hx (hb hby d2_41) rfl (pc' := 43) rfl ?_
          refine r_i2b X24.here hx (hb hby d2_43) (pc' := 44) rfl ?_
          refine q_bastoreB X24 hx hZ e24 (j := ((((pos + (1 : Int32)) + (1 : Int32)) + (1 : Int32)) + (1 : Int32))) A24 (by omega) (by omega) (w := ((ushrI (ushrI (ushrI (ushrI len (7 : Int32)) (7 : Int32)) (7 : Int32)) (7 : Int32)).toInt8.toInt32)) (own_nb _) (hb hby d2_44) (pc' := 45) rfl (fun T27 h27 X27 e27 W27 A27 => ?_)
          have K28 := K25.wr W27 (Or.inl (List.mem_of_getElem? (i := 0) rfl))
          have Z29 : n0 ≤ h27.size := by have q := Z26; rw [W27.size]; exact q
          have N27 := Fr.snoc X27 N24 gb
          refine r_iloadN X27.here hx (hb hby d2_45) rfl (pc' := 46) rfl ?_
          refine r_retI X27 hx hlk hret (hb hby d2_46) ?_ (by decide) (by decide)
          try rw [e27]
          have hn : own_n len = 5 := by unfold own_n; rw [if_neg (by omega), if_neg (by omega), if_neg (by omega), if_neg (by omega)]
          have ln : (5 : Int32).toInt = 5 := rfl
          refine ⟨?_, N27, K28, (A27).congr fun i hi => ?_⟩
          · rw [hn]; first | done | exact congrArg (fun z => some (Value.int z)) (Int32.toInt_inj.mp (by have ee : (pos + 5).toInt = pos.toInt + (5 : Int32).toInt := own_add (by omega) (by omega); omega))
          · have ei : (Int32.ofInt (i : Int)).toInt = i := Int32.toInt_ofInt_of_le (by omega) (by omega)
            have ej : (Int32.ofInt (i : Int) - pos).toInt = i - pos.toInt := by rw [own_sub (by omega) (by omega), ei]
            have e1 : ((5 : Int32) - 1).toInt = 4 := rfl
            rw [hn]
            by_cases c0 : (i : Int) = pos.toInt + 0
            · have q : Int32.ofInt (i : Int) - pos = 0 := Int32.toInt_inj.mp (by rw [ej]; show (i : Int) - pos.toInt = 0; omega)
              have w1 : own_W (Int32.ofInt (i : Int)) len pos 5 x = ((ushrI len (7 * 0) &&& 127) ||| 128).toInt8.toInt32 := by
                unfold own_W; rw [if_neg (by omega), if_neg (by omega), q]
              have s1 : ushrI len (7 * 0) = len := own_sh0 len
              rw [w1, s1]
              rw [if_neg (by omega), if_neg (by omega), if_neg (by omega), if_neg (by omega), if_pos (by omega)]
              rw [own_b1 len]
            by_cases c1 : (i : Int) = pos.toInt + 1
            · have q : Int32.ofInt (i : Int) - pos = 1 := Int32.toInt_inj.mp (by rw [ej]; show (i : Int) - pos.toInt = 1; omega)
              have w1 : own_W (Int32.ofInt (i : Int)) len pos 5 x = ((ushrI len (7 * 1) &&& 127) ||| 128).toInt8.toInt32 := by
                unfold own_W; rw [if_neg (by omega), if_neg (by omega), q]
              have s1 : ushrI len (7 * 1) = (ushrI len (7 : Int32)) := Int32.toInt_inj.mp (by rw [own_sh (q := 7 * 1) (k := 7) (d := 128) rfl (by decide) rfl (by omega)]; omega)
              rw [w1, s1]
              rw [if_neg (by omega), if_neg (by omega), if_neg (by omega), if_pos (by omega)]
              rw [own_b1 (ushrI len (7 : Int32))]
            by_cases c2 : (i : Int) = pos.toInt + 2
            · have q : Int32.ofInt (i : Int) - pos = 2 := Int32.toInt_inj.mp (by rw [ej]; show (i : Int) - pos.toInt = 2; omega)
              have w1 : own_W (Int32.ofInt (i : Int)) len pos 5 x = ((ushrI len (7 * 2) &&& 127) ||| 128).toInt8.toInt32 := by
                unfold own_W; rw [if_neg (by omega), if_neg (by omega), q]
              have s1 : ushrI len (7 * 2) = (ushrI (ushrI len (7 : Int32)) (7 : Int32)) := Int32.toInt_inj.mp (by rw [own_sh (q := 7 * 2) (k := 14) (d := 16384) rfl (by decide) rfl (by omega)]; omega)
              rw [w1, s1]
              rw [if_neg (by omega), if_neg (by omega), if_pos (by omega)]
              rw [own_b1 (ushrI (ushrI len (7 : Int32)) (7 : Int32))]
            by_cases c3 : (i : Int) = pos.toInt + 3
            · have q : Int32.ofInt (i : Int) - pos = 3 := Int32.toInt_inj.mp (by rw [ej]; show (i : Int) - pos.toInt = 3; omega)
              have w1 : own_W (Int32.ofInt (i : Int)) len pos 5 x = ((ushrI len (7 * 3) &&& 127) ||| 128).toInt8.toInt32 := by
                unfold own_W; rw [if_neg (by omega), if_neg (by omega), q]
              have s1 : ushrI len (7 * 3) = (ushrI (ushrI (ushrI len (7 : Int32)) (7 : Int32)) (7 : Int32)) := Int32.toInt_inj.mp (by rw [own_sh (q := 7 * 3) (k := 21) (d := 2097152) rfl (by decide) rfl (by omega)]; omega)
              rw [w1, s1]
              rw [if_neg (by omega), if_pos (by omega)]
              rw [own_b1 (ushrI (ushrI (ushrI len (7 : Int32)) (7 : Int32)) (7 : Int32))]
            by_cases c4 : (i : Int) = pos.toInt + 4
            · have q : Int32.ofInt (i : Int) - pos = 4 := Int32.toInt_inj.mp (by rw [ej]; show (i : Int) - pos.toInt = 4; omega)
              have w1 : own_W (Int32.ofInt (i : Int)) len pos 5 x = (ushrI len (7 * 4) &&& 127).toInt8.toInt32 := by
                unfold own_W; rw [if_neg (by omega), if_pos (by omega), q]
              have s1 : ushrI len (7 * 4) = (ushrI (ushrI (ushrI (ushrI len (7 : Int32)) (7 : Int32)) (7 : Int32)) (7 : Int32)) := Int32.toInt_inj.mp (by rw [own_sh (q := 7 * 4) (k := 28) (d := 268435456) rfl (by decide) rfl (by omega)]; omega)
              rw [w1, s1]
              rw [if_pos (by omega)]
              rw [own_b0 (ushrI (ushrI (ushrI (ushrI len (7 : Int32)) (7 : Int32)) (7 : Int32)) (7 : Int32)) (by omega) (by omega)]
            have w1 : own_W (Int32.ofInt (i : Int)) len pos 5 x = x := by unfold own_W; rw [if_pos (by omega)]
            rw [w1, if_neg (by omega), if_neg (by omega), if_neg (by omega), if_neg (by omega), if_neg (by omega)]
theorem d3_0 : decode method_4_code 0 = .ok (.iload_n 1, 1) := by decide +kernel
theorem d3_1 : decode method_4_code 1 = .ok (.iload_n 3, 1) := by decide +kernel
theorem d3_2 : decode method_4_code 2 = .ok (.isub, 1) := by decide +kernel
theorem d3_3 : decode method_4_code 3 = .ok (.istore 6, 2) := by decide +kernel
theorem d3_5 : decode method_4_code 5 = .ok (.iload 6, 2) := by decide +kernel
theorem d3_7 : decode method_4_code 7 = .ok (.ifCond .lt 10, 3) := by decide +kernel
theorem d3_17 : decode method_4_code 17 = .ok (.iload 5, 2) := by decide +kernel
theorem d3_19 : decode method_4_code 19 = .ok (.istore 7, 2) := by decide +kernel
theorem d3_21 : decode method_4_code 21 = .ok (.goto 38, 3) := by decide +kernel
theorem d3_59 : decode method_4_code 59 = .ok (.aload_n 0, 1) := by decide +kernel
theorem d3_60 : decode method_4_code 60 = .ok (.iload_n 1, 1) := by decide +kernel
theorem d3_61 : decode method_4_code 61 = .ok (.baload, 1) := by decide +kernel
theorem d3_62 : decode method_4_code 62 = .ok (.iload 7, 2) := by decide +kernel
theorem d3_64 : decode method_4_code 64 = .ok (.if_icmp .ne 7, 3) := by decide +kernel
theorem d3_67 : decode method_4_code 67 = .ok (.iconst 1, 1) := by decide +kernel
theorem d3_68 : decode method_4_code 68 = .ok (.goto 4, 3) := by decide +kernel
theorem d3_72 : decode method_4_code 72 = .ok (.ireturn, 1) := by decide +kernel
theorem d3_10 : decode method_4_code 10 = .ok (.iload 6, 2) := by decide +kernel
theorem d3_12 : decode method_4_code 12 = .ok (.iload 4, 2) := by decide +kernel
theorem d3_14 : decode method_4_code 14 = .ok (.if_icmp .lt 10, 3) := by decide +kernel
theorem d3_24 : decode method_4_code 24 = .ok (.iload_n 2, 1) := by decide +kernel
theorem d3_25 : decode method_4_code 25 = .ok (.bipush 7, 2) := by decide +kernel
theorem d3_27 : decode method_4_code 27 = .ok (.iload 6, 2) := by decide +kernel
theorem d3_29 : decode method_4_code 29 = .ok (.imul, 1) := by decide +kernel
theorem d3_30 : decode method_4_code 30 = .ok (.iushr, 1) := by decide +kernel
theorem d3_31 : decode method_4_code 31 = .ok (.bipush 127, 2) := by decide +kernel
theorem d3_33 : decode method_4_code 33 = .ok (.iand, 1) := by decide +kernel
theorem d3_34 : decode method_4_code 34 = .ok (.istore 8, 2) := by decide +kernel
theorem d3_36 : decode method_4_code 36 = .ok (.iload 6, 2) := by decide +kernel
theorem d3_38 : decode method_4_code 38 = .ok (.iload 4, 2) := by decide +kernel
theorem d3_40 : decode method_4_code 40 = .ok (.iconst 1, 1) := by decide +kernel
theorem d3_41 : decode method_4_code 41 = .ok (.isub, 1) := by decide +kernel
theorem d3_42 : decode method_4_code 42 = .ok (.if_icmp .ge 12, 3) := by decide +kernel
theorem d3_54 : decode method_4_code 54 = .ok (.iload 8, 2) := by decide +kernel
theorem d3_56 : decode method_4_code 56 = .ok (.i2b, 1) := by decide +kernel
theorem d3_57 : decode method_4_code 57 = .ok (.istore 7, 2) := by decide +kernel
theorem d3_45 : decode method_4_code 45 = .ok (.iload 8, 2) := by decide +kernel
theorem d3_47 : decode method_4_code 47 = .ok (.sipush 128, 3) := by decide +kernel
theorem d3_50 : decode method_4_code 50 = .ok (.ior, 1) := by decide +kernel
theorem d3_51 : decode method_4_code 51 = .ok (.goto 5, 3) := by decide +kernel
theorem ef_rmA (m : MethodId) (x0 : Addr) (x1 : Int32) (x2 : Int32) (x3 : Int32) (x4 : Int32) (x5 : Int32) : entryFrame m #[(.ref x0), (.int x1), (.int x2), (.int x3), (.int x4), (.int x5)] 9 = mkF m 0 #[.val (.ref x0), .val (.int x1), .val (.int x2), .val (.int x3), .val (.int x4), .val (.int x5), .unset, .unset, .unset] [] := by first | (simp [entryFrame, mkF, argsToLocals, Value.category, maxLocals]; done) | rfl
set_option maxRecDepth 65536 in
set_option maxHeartbeats 40000000 in
theorem rmA (l : Launch) (Z : State) (a0 : Array Value) (hw : ∀ d ∈ tables_1, d.before a0 Z = true) (ws : List Jvm.Cond) (b : Addr) (k len pos n x : Int32) (G : Nat → Value) (h0 : Heap) (n0 : Nat) (Z0 : n0 ≤ h0.size) (Ab : Ary Z h0 b .byte 16 G) (k0 : 0 ≤ k.toInt) (k1 : k.toInt < 16) (hG : G k.toInt.toNat = .int (own_W k len pos n x)) :
    Met l Z (⟨"com/example/floe/floe/engine/GroupKeysPutLengthPinLaw", "at", "([BIIIIB)Z"⟩ : MethodName) method_4_code 9 (some .boolean) ws ({ frames := 0, cells := 0, slots := 0, locals := 0 } : Room) #[(.ref b), (.int k), (.int len), (.int pos), (.int n), (.int x)] h0 (fun v h L => v = some (.int 1) ∧ Fr n0 L ∧ h = h0) 0 0 := by
  refine met_of (plainFor_of_name pn_0) (f0 := fun m => (mkF m 0 #[.val (.ref b), .val (.int k), .val (.int len), .val (.int pos), .val (.int n), .val (.int x), .unset, .unset, .unset] [])) (fun m => ef_rmA m b k len pos n x) ?_
  intro p e s m below meth c s₁ X0 hx hby hml hret hlk hown hnm hZ e0
  replace hown : s.vm.findClass "com/example/floe/floe/engine/GroupKeysPutLengthPinLaw" = some m.cls := hown
  have N0 := Fr.nil n0
  refine r_iloadN X0.here hx (hb hby d3_0) rfl (pc' := 1) rfl ?_
  refine r_iloadN X0.here hx (hb hby d3_1) rfl (pc' := 2) rfl ?_
  refine r_isub X0.here hx (hb hby d3_2) (pc' := 3) rfl ?_
  refine r_istore X0.here hx (hb hby d3_3) (l' := #[.val (.ref b), .val (.int k), .val (.int len), .val (.int pos), .val (.int n), .val (.int x), .val (.int (k - pos)), .unset, .unset]) rfl (pc' := 5) rfl ?_
  refine r_iload X0.here hx (hb hby d3_5) rfl (pc' := 7) rfl ?_
  refine r_if0_lt X0.here hx (hb hby d3_7) (by decide) (pc' := 17) (by decide) (pc2 := 10) rfl (fun hc7 => ?_) (fun hc7 => ?_)
  · refine r_iload X0.here hx (hb hby d3_17) rfl (pc' := 19) rfl ?_
    refine r_istore X0.here hx (hb hby d3_19) (l' := #[.val (.ref b), .val (.int k), .val (.int len), .val (.int pos), .val (.int n), .val (.int x), .val (.int (k - pos)), .val (.int x), .unset]) rfl (pc' := 21) rfl ?_
    refine r_goto X0.here hx (hb hby d3_21) (by decide) (pc' := 59) (by decide) ?_
    refine r_aloadN X0.here hx (hb hby d3_59) rfl rfl (pc' := 60) rfl ?_
    refine r_iloadN X0.here hx (hb hby d3_60) rfl (pc' := 61) rfl ?_
    refine q_baload X0 hx hZ e0 (j := k) (v := (own_W k len pos n x)) Ab k0 k1 hG (hb hby d3_61) (pc' := 62) rfl ?_
    refine r_iload X0.here hx (hb hby d3_62) rfl (pc' := 64) rfl ?_
    refine r_if_ne X0.here hx (hb hby d3_64) (by decide) (pc' := 71) (by decide) (pc2 := 67) rfl (fun hc64 => absurd (by unfold own_W; rw [if_pos (Or.inl hc7)]) hc64) (fun hc64 => ?_)
    refine r_iconst X0.here hx (hb hby d3_67) (v := 1) rfl (pc' := 68) rfl ?_
    refine r_goto X0.here hx (hb hby d3_68) (by decide) (pc' := 72) (by decide) ?_
    refine r_retN X0 hx hlk hret (by simp) (hb hby d3_72) (w := (1 : Int32)) rfl ?_ (by decide) (by decide)
    try rw [e0]
    exact ⟨rfl, N0, rfl⟩
  · refine r_iload X0.here hx (hb hby d3_10) rfl (pc' := 12) rfl ?_
    refine r_iload X0.here hx (hb hby d3_12) rfl (pc' := 14) rfl ?_
    refine r_if_lt X0.here hx (hb hby d3_14) (by decide) (pc' := 24) (by decide) (pc2 := 17) rfl (fun hc14 => ?_) (fun hc14 => ?_)
    · refine r_iloadN X0.here hx (hb hby d3_24) rfl (pc' := 25) rfl ?_
      refine r_bipush X0.here hx (hb hby d3_25) (v := 7) rfl (pc' := 27) rfl ?_
      refine r_iload X0.here hx (hb hby d3_27) rfl (pc' := 29) rfl ?_
      refine r_imul X0.here hx (hb hby d3_29) (pc' := 30) rfl ?_
      refine r_iushr X0.here hx (hb hby d3_30) (pc' := 31) rfl ?_
      refine r_bipush X0.here hx (hb hby d3_31) (v := 127) rfl (pc' := 33) rfl ?_
      refine r_iand X0.here hx (hb hby d3_33) (pc' := 34) rfl ?_
      refine r_istore X0.here hx (hb hby d3_34) (l' := #[.val (.ref b), .val (.int k), .val (.int len), .val (.int pos), .val (.int n), .val (.int x), .val (.int (k - pos)), .unset, .val (.int ((ushrI len ((7 : Int32) * (k - pos))) &&& (127 : Int32)))]) rfl (pc' := 36) rfl ?_
      refine r_iload X0.here hx (hb hby d3_36) rfl (pc' := 38) rfl ?_
      refine r_iload X0.here hx (hb hby d3_38) rfl (pc' := 40) rfl ?_
      refine r_iconst X0.here hx (hb hby d3_40) (v := 1) rfl (pc' := 41) rfl ?_
      refine r_isub X0.here hx (hb hby d3_41) (pc' := 42) rfl ?_
      refine r_if_ge X0.here hx (hb hby d3_42) (by decide) (pc' := 54) (by decide) (pc2 := 45) rfl (fun hc42 => ?_) (fun hc42 => ?_)
      · refine r_iload X0.here hx (hb hby d3_54) rfl (pc' := 56) rfl ?_
        refine r_i2b X0.here hx (hb hby d3_56) (pc' := 57) rfl ?_
        refine r_istore X0.here hx (hb hby d3_57) (l' := #[.val (.ref b), .val (.int k), .val (.int len), .val (.int pos), .val (.int n), .val (.int x), .val (.int (k - pos)), .val (.int (((ushrI len ((7 : Int32) * (k - pos))) &&& (127 : Int32)).toInt8.toInt32)), .val (.int ((ushrI len ((7 : Int32) * (k - pos))) &&& (127 : Int32)))]) rfl (pc' := 59) rfl ?_
        refine r_aloadN X0.here hx (hb hby d3_59) rfl rfl (pc' := 60) rfl ?_
        refine r_iloadN X0.here hx (hb hby d3_60) rfl (pc' := 61) rfl ?_
        refine q_baload X0 hx hZ e0 (j := k) (v := (own_W k len pos n x)) Ab k0 k1 hG (hb hby d3_61) (pc' := 62) rfl ?_
        refine r_iload X0.here hx (hb hby d3_62) rfl (pc' := 64) rfl ?_
        refine r_if_ne X0.here hx (hb hby d3_64) (by decide) (pc' := 71) (by decide) (pc2 := 67) rfl (fun hc64 => absurd (by unfold own_W; rw [if_neg (by omega), if_pos (by omega)]) hc64) (fun hc64 => ?_)
        refine r_iconst X0.here hx (hb hby d3_67) (v := 1) rfl (pc' := 68) rfl ?_
        refine r_goto X0.here hx (hb hby d3_68) (by decide) (pc' := 72) (by decide) ?_
        refine r_retN X0 hx hlk hret (by simp) (hb hby d3_72) (w := (1 : Int32)) rfl ?_ (by decide) (by decide)
        try rw [e0]
        exact ⟨rfl, N0, rfl⟩
      · refine r_iload X0.here hx (hb hby d3_45) rfl (pc' := 47) rfl ?_
        refine r_sipush X0.here hx (hb hby d3_47) (v := 128) rfl (pc' := 50) rfl ?_
        refine r_ior X0.here hx (hb hby d3_50) (pc' := 51) rfl ?_
        refine r_goto X0.here hx (hb hby d3_51) (by decide) (pc' := 56) (by decide) ?_
        refine r_i2b X0.here hx (hb hby d3_56) (pc' := 57) rfl ?_
        refine r_istore X0.here hx (hb hby d3_57) (l' := #[.val (.ref b), .val (.int k), .val (.int len), .val (.int pos), .val (.int n), .val (.int x), .val (.int (k - pos)), .val (.int ((((ushrI len ((7 : Int32) * (k - pos))) &&& (127 : Int32)) ||| (128 : Int32)).toInt8.toInt32)), .val (.int ((ushrI len ((7 : Int32) * (k - pos))) &&& (127 : Int32)))]) rfl (pc' := 59) rfl ?_
        refine r_aloadN X0.here hx (hb hby d3_59) rfl rfl (pc' := 60) rfl ?_
        refine r_iloadN X0.here hx (hb hby d3_60) rfl (pc' := 61) rfl ?_
        refine q_baload X0 hx hZ e0 (j := k) (v := (own_W k len pos n x)) Ab k0 k1 hG (hb hby d3_61) (pc' := 62) rfl ?_
        refine r_iload X0.here hx (hb hby d3_62) rfl (pc' := 64) rfl ?_
        refine r_if_ne X0.here hx (hb hby d3_64) (by decide) (pc' := 71) (by decide) (pc2 := 67) rfl (fun hc64 => absurd (by unfold own_W; rw [if_neg (by omega), if_neg (by omega)]) hc64) (fun hc64 => ?_)
        refine r_iconst X0.here hx (hb hby d3_67) (v := 1) rfl (pc' := 68) rfl ?_
        refine r_goto X0.here hx (hb hby d3_68) (by decide) (pc' := 72) (by decide) ?_
        refine r_retN X0 hx hlk hret (by simp) (hb hby d3_72) (w := (1 : Int32)) rfl ?_ (by decide) (by decide)
        try rw [e0]
        exact ⟨rfl, N0, rfl⟩
    · refine r_iload X0.here hx (hb hby d3_17) rfl (pc' := 19) rfl ?_
      refine r_istore X0.here hx (hb hby d3_19) (l' := #[.val (.ref b), .val (.int k), .val (.int len), .val (.int pos), .val (.int n), .val (.int x), .val (.int (k - pos)), .val (.int x), .unset]) rfl (pc' := 21) rfl ?_
      refine r_goto X0.here hx (hb hby d3_21) (by decide) (pc' := 59) (by decide) ?_
      refine r_aloadN X0.here hx (hb hby d3_59) rfl rfl (pc' := 60) rfl ?_
      refine r_iloadN X0.here hx (hb hby d3_60) rfl (pc' := 61) rfl ?_
      refine q_baload X0 hx hZ e0 (j := k) (v := (own_W k len pos n x)) Ab k0 k1 hG (hb hby d3_61) (pc' := 62) rfl ?_
      refine r_iload X0.here hx (hb hby d3_62) rfl (pc' := 64) rfl ?_
      refine r_if_ne X0.here hx (hb hby d3_64) (by decide) (pc' := 71) (by decide) (pc2 := 67) rfl (fun hc64 => absurd (by unfold own_W; rw [if_pos (by omega)]) hc64) (fun hc64 => ?_)
      refine r_iconst X0.here hx (hb hby d3_67) (v := 1) rfl (pc' := 68) rfl ?_
      refine r_goto X0.here hx (hb hby d3_68) (by decide) (pc' := 72) (by decide) ?_
      refine r_retN X0 hx hlk hret (by simp) (hb hby d3_72) (w := (1 : Int32)) rfl ?_ (by decide) (by decide)
      try rw [e0]
      exact ⟨rfl, N0, rfl⟩
theorem own_len (a s : Int32) : 0 ≤ (ushrI (a &&& 2147483647) (s &&& 31)).toInt := by
  have h0 := (c_andS a 2147483647).2.2 (by decide)
  by_cases q : s &&& 31 = 0
  · rw [q, own_sh0]; exact h0
  · have e3 : (s &&& 31).toBitVec.toNat < 32 ∧ (s &&& 31).toBitVec.toNat ≠ 0 := by
      have := c_and s 31 (by decide)
      have e4 : (31 : Int32).toInt = 31 := rfl
      have e5 : (s &&& 31).toInt = (s &&& 31).toBitVec.toInt := rfl
      have e6 : (s &&& 31).toInt ≠ 0 := fun z => q (Int32.toInt_inj.mp z)
      rw [BitVec.toInt_eq_toNat_cond] at e5
      split at e5 <;> omega
    have h := c_iushr (a &&& 2147483647) (s &&& 31) _ rfl (by omega)
    rw [show (ushrI (a &&& 2147483647) (s &&& 31)).toInt = _ from h]
    exact Int.ediv_nonneg (Int.emod_nonneg _ (by decide)) (Int.natCast_nonneg _)
theorem own_lt16 {P : Nat → Prop} (h0 : P 0) (h1 : P 1) (h2 : P 2) (h3 : P 3) (h4 : P 4) (h5 : P 5) (h6 : P 6) (h7 : P 7) (h8 : P 8) (h9 : P 9) (h10 : P 10) (h11 : P 11) (h12 : P 12) (h13 : P 13) (h14 : P 14) (h15 : P 15) : ∀ i, i < 16 → P i := fun i hi => match i, hi with | 0, _ => h0 | 1, _ => h1 | 2, _ => h2 | 3, _ => h3 | 4, _ => h4 | 5, _ => h5 | 6, _ => h6 | 7, _ => h7 | 8, _ => h8 | 9, _ => h9 | 10, _ => h10 | 11, _ => h11 | 12, _ => h12 | 13, _ => h13 | 14, _ => h14 | 15, _ => h15 | (n + 16), h => absurd h (by omega)
theorem pd_0 : parseMethodDescriptor "(I)I" = some ⟨[.int], some .int⟩ := by decide +kernel
theorem pd_1 : parseMethodDescriptor "([BII)I" = some ⟨[(.array .byte), .int, .int], some .int⟩ := by decide +kernel
theorem pd_2 : parseMethodDescriptor "([BIIIIB)Z" = some ⟨[(.array .byte), .int, .int, .int, .int, .byte], some .boolean⟩ := by decide +kernel
theorem ef_rm0 (m : MethodId) (x0 : Int32) (x1 : Int32) (x2 : Int32) (x3 : Int32) : entryFrame m #[(.int x0), (.int x1), (.int x2), (.int x3)] maxLocals = mkF m 0 #[.val (.int x0), .val (.int x1), .val (.int x2), .val (.int x3), .unset, .unset, .unset, .unset, .unset, .unset] [] := by first | (simp [entryFrame, mkF, argsToLocals, Value.category, maxLocals]; done) | rfl
set_option maxRecDepth 65536 in
set_option maxHeartbeats 40000000 in
theorem rm0 (l : Launch) (Z : State) (a0 : Array Value) (hw : ∀ d ∈ tables_1, d.before a0 Z = true) (ws : List Jvm.Cond) (a sft q fill : Int32) (h0 : Heap) (n0 : Nat) (Z0 : n0 ≤ h0.size)  :
    Met l Z Jvm.Pilot.@@N@@.x code maxLocals ret ws room_1 #[(.int a), (.int sft), (.int q), (.int fill)] h0 (fun v h L => v = some (.int 1) ∧ Fr n0 L) 16 128 := by
  refine met_of (plainFor_of_name pn_0) (f0 := fun m => (mkF m 0 #[.val (.int a), .val (.int sft), .val (.int q), .val (.int fill), .unset, .unset, .unset, .unset, .unset, .unset] [])) (fun m => ef_rm0 m a sft q fill) ?_
  intro p e s m below meth c s₁ X0 hx hby hml hret hlk hown hnm hZ e0
  replace hown : s.vm.findClass "com/example/floe/floe/engine/GroupKeysPutLengthPinLaw" = some m.cls := hown
  have N0 := Fr.nil n0
  have hp := c_and q 7 (by decide)
  have l7 : (7 : Int32).toInt = 7 := rfl
  have hl := own_len a sft
  refine r_iloadN X0.here hx (hb hby at_0) rfl (pc' := 1) rfl ?_
  refine r_ldc X0 hx hZ hown (hw _ (List.mem_of_getElem? (i := 0) rfl)) (hb hby at_1) (pc' := 3) rfl ?_
  refine r_iand X0.here hx (hb hby at_3) (pc' := 4) rfl ?_
  refine r_iloadN X0.here hx (hb hby at_4) rfl (pc' := 5) rfl ?_
  refine r_bipush X0.here hx (hb hby at_5) (v := 31) rfl (pc' := 7) rfl ?_
  refine r_iand X0.here hx (hb hby at_7) (pc' := 8) rfl ?_
  refine r_iushr X0.here hx (hb hby at_8) (pc' := 9) rfl ?_
  refine r_istore X0.here hx (hb hby at_9) (l' := #[.val (.int a), .val (.int sft), .val (.int q), .val (.int fill), .val (.int (ushrI (a &&& (2147483647 : Int32)) (sft &&& (31 : Int32)))), .unset, .unset, .unset, .unset, .unset]) rfl (pc' := 11) rfl ?_
  refine r_iloadN X0.here hx (hb hby at_11) rfl (pc' := 12) rfl ?_
  refine r_bipush X0.here hx (hb hby at_12) (v := 7) rfl (pc' := 14) rfl ?_
  refine r_iand X0.here hx (hb hby at_14) (pc' := 15) rfl ?_
  refine r_istore X0.here hx (hb hby at_15) (l' := #[.val (.int a), .val (.int sft), .val (.int q), .val (.int fill), .val (.int (ushrI (a &&& (2147483647 : Int32)) (sft &&& (31 : Int32)))), .val (.int (q &&& (7 : Int32))), .unset, .unset, .unset, .unset]) rfl (pc' := 17) rfl ?_
  refine r_iloadN X0.here hx (hb hby at_17) rfl (pc' := 18) rfl ?_
  refine r_i2b X0.here hx (hb hby at_18) (pc' := 19) rfl ?_
  refine r_istore X0.here hx (hb hby at_19) (l' := #[.val (.int a), .val (.int sft), .val (.int q), .val (.int fill), .val (.int (ushrI (a &&& (2147483647 : Int32)) (sft &&& (31 : Int32)))), .val (.int (q &&& (7 : Int32))), .val (.int (fill.toInt8.toInt32)), .unset, .unset, .unset]) rfl (pc' := 21) rfl ?_
  refine r_bipush X0.here hx (hb hby at_21) (v := 16) rfl (pc' := 23) rfl ?_
  refine r_newarray X0 hx hZ (aty := .byte) (hw _ (List.mem_of_getElem? (i := 1) rfl)) e0 (cap := 16) (by decide) (by decide) (by decide) (by decide) (by decide) (hb hby at_23) (pc' := 25) rfl (fun T30 h30 b30 k30 g30 X30 e30 E30 A30 => ?_)
  have ge31 : n0 ≤ b30 := by rw [g30]; exact Z0
  have Z32 : n0 ≤ h30.size := by have q := Z0; exact Nat.le_trans q E30.1
  have f33 : Ary Z h30 b30 .byte 16 (fun _ => .int 0) := Ary.new A30 rfl
  refine r_dup X30.here hx (hb hby at_25) rfl (pc' := 26) rfl ?_
  refine r_iconst X30.here hx (hb hby at_26) (v := 0) rfl (pc' := 27) rfl ?_
  refine r_iload X30.here hx (hb hby at_27) rfl (pc' := 29) rfl ?_
  refine q_bastoreB X30 hx hZ e30 (j := (0 : Int32)) f33 (by decide) (by decide) (w := (fill.toInt8.toInt32)) (own_nb fill) (hb hby at_29) (pc' := 30) rfl (fun T34 h34 X34 e34 W34 A34 => ?_)
  have Z35 : n0 ≤ h34.size := by have q := Z32; rw [W34.size]; exact q
  have N34 := Fr.snoc X34 N0 ge31
  refine r_dup X34.here hx (hb hby at_30) rfl (pc' := 31) rfl ?_
  refine r_iconst X34.here hx (hb hby at_31) (v := 1) rfl (pc' := 32) rfl ?_
  refine r_iload X34.here hx (hb hby at_32) rfl (pc' := 34) rfl ?_
  refine q_bastoreB X34 hx hZ e34 (j := (1 : Int32)) A34 (by decide) (by decide) (w := (fill.toInt8.toInt32)) (own_nb fill) (hb hby at_34) (pc' := 35) rfl (fun T36 h36 X36 e36 W36 A36 => ?_)
  have Z37 : n0 ≤ h36.size := by have q := Z35; rw [W36.size]; exact q
  have N36 := Fr.snoc X36 N34 ge31
  refine r_dup X36.here hx (hb hby at_35) rfl (pc' := 36) rfl ?_
  refine r_iconst X36.here hx (hb hby at_36) (v := 2) rfl (pc' := 37) rfl ?_
  refine r_iload X36.here hx (hb hby at_37) rfl (pc' := 39) rfl ?_
  refine q_bastoreB X36 hx hZ e36 (j := (2 : Int32)) A36 (by decide) (by decide) (w := (fill.toInt8.toInt32)) (own_nb fill) (hb hby at_39) (pc' := 40) rfl (fun T38 h38 X38 e38 W38 A38 => ?_)
  have Z39 : n0 ≤ h38.size := by have q := Z37; rw [W38.size]; exact q
  have N38 := Fr.snoc X38 N36 ge31
  refine r_dup X38.here hx (hb hby at_40) rfl (pc' := 41) rfl ?_
  refine r_iconst X38.here hx (hb hby at_41) (v := 3) rfl (pc' := 42) rfl ?_
  refine r_iload X38.here hx (hb hby at_42) rfl (pc' := 44) rfl ?_
  refine q_bastoreB X38 hx hZ e38 (j := (3 : Int32)) A38 (by decide) (by decide) (w := (fill.toInt8.toInt32)) (own_nb fill) (hb hby at_44) (pc' := 45) rfl (fun T40 h40 X40 e40 W40 A40 => ?_)
  have Z41 : n0 ≤ h40.size := by have q := Z39; rw [W40.size]; exact q
  have N40 := Fr.snoc X40 N38 ge31
  refine r_dup X40.here hx (hb hby at_45) rfl (pc' := 46) rfl ?_
  refine r_iconst X40.here hx (hb hby at_46) (v := 4) rfl (pc' := 47) rfl ?_
  refine r_iload X40.here hx (hb hby at_47) rfl (pc' := 49) rfl ?_
  refine q_bastoreB X40 hx hZ e40 (j := (4 : Int32)) A40 (by decide) (by decide) (w := (fill.toInt8.toInt32)) (own_nb fill) (hb hby at_49) (pc' := 50) rfl (fun T42 h42 X42 e42 W42 A42 => ?_)
  have Z43 : n0 ≤ h42.size := by have q := Z41; rw [W42.size]; exact q
  have N42 := Fr.snoc X42 N40 ge31
  refine r_dup X42.here hx (hb hby at_50) rfl (pc' := 51) rfl ?_
  refine r_iconst X42.here hx (hb hby at_51) (v := 5) rfl (pc' := 52) rfl ?_
  refine r_iload X42.here hx (hb hby at_52) rfl (pc' := 54) rfl ?_
  refine q_bastoreB X42 hx hZ e42 (j := (5 : Int32)) A42 (by decide) (by decide) (w := (fill.toInt8.toInt32)) (own_nb fill) (hb hby at_54) (pc' := 55) rfl (fun T44 h44 X44 e44 W44 A44 => ?_)
  have Z45 : n0 ≤ h44.size := by have q := Z43; rw [W44.size]; exact q
  have N44 := Fr.snoc X44 N42 ge31
  refine r_dup X44.here hx (hb hby at_55) rfl (pc' := 56) rfl ?_
  refine r_bipush X44.here hx (hb hby at_56) (v := 6) rfl (pc' := 58) rfl ?_
  refine r_iload X44.here hx (hb hby at_58) rfl (pc' := 60) rfl ?_
  refine q_bastoreB X44 hx hZ e44 (j := (6 : Int32)) A44 (by decide) (by decide) (w := (fill.toInt8.toInt32)) (own_nb fill) (hb hby at_60) (pc' := 61) rfl (fun T46 h46 X46 e46 W46 A46 => ?_)
  have Z47 : n0 ≤ h46.size := by have q := Z45; rw [W46.size]; exact q
  have N46 := Fr.snoc X46 N44 ge31
  refine r_dup X46.here hx (hb hby at_61) rfl (pc' := 62) rfl ?_
  refine r_bipush X46.here hx (hb hby at_62) (v := 7) rfl (pc' := 64) rfl ?_
  refine r_iload X46.here hx (hb hby at_64) rfl (pc' := 66) rfl ?_
  refine q_bastoreB X46 hx hZ e46 (j := (7 : Int32)) A46 (by decide) (by decide) (w := (fill.toInt8.toInt32)) (own_nb fill) (hb hby at_66) (pc' := 67) rfl (fun T48 h48 X48 e48 W48 A48 => ?_)
  have Z49 : n0 ≤ h48.size := by have q := Z47; rw [W48.size]; exact q
  have N48 := Fr.snoc X48 N46 ge31
  refine r_dup X48.here hx (hb hby at_67) rfl (pc' := 68) rfl ?_
  refine r_bipush X48.here hx (hb hby at_68) (v := 8) rfl (pc' := 70) rfl ?_
  refine r_iload X48.here hx (hb hby at_70) rfl (pc' := 72) rfl ?_
  refine q_bastoreB X48 hx hZ e48 (j := (8 : Int32)) A48 (by decide) (by decide) (w := (fill.toInt8.toInt32)) (own_nb fill) (hb hby at_72) (pc' := 73) rfl (fun T50 h50 X50 e50 W50 A50 => ?_)
  have Z51 : n0 ≤ h50.size := by have q := Z49; rw [W50.size]; exact q
  have N50 := Fr.snoc X50 N48 ge31
  refine r_dup X50.here hx (hb hby at_73) rfl (pc' := 74) rfl ?_
  refine r_bipush X50.here hx (hb hby at_74) (v := 9) rfl (pc' := 76) rfl ?_
  refine r_iload X50.here hx (hb hby at_76) rfl (pc' := 78) rfl ?_
  refine q_bastoreB X50 hx hZ e50 (j := (9 : Int32)) A50 (by decide) (by decide) (w := (fill.toInt8.toInt32)) (own_nb fill) (hb hby at_78) (pc' := 79) rfl (fun T52 h52 X52 e52 W52 A52 => ?_)
  have Z53 : n0 ≤ h52.size := by have q := Z51; rw [W52.size]; exact q
  have N52 := Fr.snoc X52 N50 ge31
  refine r_dup X52.here hx (hb hby at_79) rfl (pc' := 80) rfl ?_
  refine r_bipush X52.here hx (hb hby at_80) (v := 10) rfl (pc' := 82) rfl ?_
  refine r_iload X52.here hx (hb hby at_82) rfl (pc' := 84) rfl ?_
  refine q_bastoreB X52 hx hZ e52 (j := (10 : Int32)) A52 (by decide) (by decide) (w := (fill.toInt8.toInt32)) (own_nb fill) (hb hby at_84) (pc' := 85) rfl (fun T54 h54 X54 e54 W54 A54 => ?_)
  have Z55 : n0 ≤ h54.size := by have q := Z53; rw [W54.size]; exact q
  have N54 := Fr.snoc X54 N52 ge31
  refine r_dup X54.here hx (hb hby at_85) rfl (pc' := 86) rfl ?_
  refine r_bipush X54.here hx (hb hby at_86) (v := 11) rfl (pc' := 88) rfl ?_
  refine r_iload X54.here hx (hb hby at_88) rfl (pc' := 90) rfl ?_
  refine q_bastoreB X54 hx hZ e54 (j := (11 : Int32)) A54 (by decide) (by decide) (w := (fill.toInt8.toInt32)) (own_nb fill) (hb hby at_90) (pc' := 91) rfl (fun T56 h56 X56 e56 W56 A56 => ?_)
  have Z57 : n0 ≤ h56.size := by have q := Z55; rw [W56.size]; exact q
  have N56 := Fr.snoc X56 N54 ge31
  refine r_dup X56.here hx (hb hby at_91) rfl (pc' := 92) rfl ?_
  refine r_bipush X56.here hx (hb hby at_92) (v := 12) rfl (pc' := 94) rfl ?_
  refine r_iload X56.here hx (hb hby at_94) rfl (pc' := 96) rfl ?_
  refine q_bastoreB X56 hx hZ e56 (j := (12 : Int32)) A56 (by decide) (by decide) (w := (fill.toInt8.toInt32)) (own_nb fill) (hb hby at_96) (pc' := 97) rfl (fun T58 h58 X58 e58 W58 A58 => ?_)
  have Z59 : n0 ≤ h58.size := by have q := Z57; rw [W58.size]; exact q
  have N58 := Fr.snoc X58 N56 ge31
  refine r_dup X58.here hx (hb hby at_97) rfl (pc' := 98) rfl ?_
  refine r_bipush X58.here hx (hb hby at_98) (v := 13) rfl (pc' := 100) rfl ?_
  refine r_iload X58.here hx (hb hby at_100) rfl (pc' := 102) rfl ?_
  refine q_bastoreB X58 hx hZ e58 (j := (13 : Int32)) A58 (by decide) (by decide) (w := (fill.toInt8.toInt32)) (own_nb fill) (hb hby at_102) (pc' := 103) rfl (fun T60 h60 X60 e60 W60 A60 => ?_)
  have Z61 : n0 ≤ h60.size := by have q := Z59; rw [W60.size]; exact q
  have N60 := Fr.snoc X60 N58 ge31
  refine r_dup X60.here hx (hb hby at_103) rfl (pc' := 104) rfl ?_
  refine r_bipush X60.here hx (hb hby at_104) (v := 14) rfl (pc' := 106) rfl ?_
  refine r_iload X60.here hx (hb hby at_106) rfl (pc' := 108) rfl ?_
  refine q_bastoreB X60 hx hZ e60 (j := (14 : Int32)) A60 (by decide) (by decide) (w := (fill.toInt8.toInt32)) (own_nb fill) (hb hby at_108) (pc' := 109) rfl (fun T62 h62 X62 e62 W62 A62 => ?_)
  have Z63 : n0 ≤ h62.size := by have q := Z61; rw [W62.size]; exact q
  have N62 := Fr.snoc X62 N60 ge31
  refine r_dup X62.here hx (hb hby at_109) rfl (pc' := 110) rfl ?_
  refine r_bipush X62.here hx (hb hby at_110) (v := 15) rfl (pc' := 112) rfl ?_
  refine r_iload X62.here hx (hb hby at_112) rfl (pc' := 114) rfl ?_
  refine q_bastoreB X62 hx hZ e62 (j := (15 : Int32)) A62 (by decide) (by decide) (w := (fill.toInt8.toInt32)) (own_nb fill) (hb hby at_114) (pc' := 115) rfl (fun T64 h64 X64 e64 W64 A64 => ?_)
  have Z65 : n0 ≤ h64.size := by have q := Z63; rw [W64.size]; exact q
  have N64 := Fr.snoc X64 N62 ge31
  have f66 : Ary Z h64 b30 .byte 16 (fun _ => .int (fill.toInt8.toInt32)) := A64.congr (own_lt16 rfl rfl rfl rfl rfl rfl rfl rfl rfl rfl rfl rfl rfl rfl rfl rfl)
  refine r_astore X64.here hx (hb hby at_115) rfl (l' := #[.val (.int a), .val (.int sft), .val (.int q), .val (.int fill), .val (.int (ushrI (a &&& (2147483647 : Int32)) (sft &&& (31 : Int32)))), .val (.int (q &&& (7 : Int32))), .val (.int (fill.toInt8.toInt32)), .val (.ref b30), .unset, .unset]) rfl (pc' := 117) rfl ?_
  refine r_iload X64.here hx (hb hby at_117) rfl (pc' := 119) rfl ?_
  refine r_callS X64 hx hZ (y := (⟨"com/example/floe/floe/engine/GroupKeysPutLengthPinLaw", "size", "(I)I"⟩ : MethodName)) (rm := ({ frames := 0, cells := 0, slots := 0, locals := 0 } : Room)) hown (hw _ (List.mem_of_getElem? (i := 2) rfl)) (hw _ (List.mem_of_getElem? (i := 3) rfl)) (hw _ (List.mem_of_getElem? (i := 4) rfl)) (hw _ (List.mem_of_getElem? (i := 5) rfl)) (by decide) (rmS l Z a0 hw [] (ushrI (a &&& (2147483647 : Int32)) (sft &&& (31 : Int32))) h64 n0 Z65) e64 (by rw [hml]; rfl) (argsL := [(.int (ushrI (a &&& (2147483647 : Int32)) (sft &&& (31 : Int32))))]) (rest := []) (lenOf pd_0 rfl) rfl rfl (W := 0) rfl (by decide) (by decide) (by decide) (by decide) (hb hby at_119) (pc' := 122) rfl ?_
  rintro v67 T67 L67 X67 ⟨rfl, Nq67, e67⟩
  have N67 := Fr.app N64 Nq67
  show Run p e below _ _ T67 (mkF m 122 #[.val (.int a), .val (.int sft), .val (.int q), .val (.int fill), .val (.int (ushrI (a &&& (2147483647 : Int32)) (sft &&& (31 : Int32)))), .val (.int (q &&& (7 : Int32))), .val (.int (fill.toInt8.toInt32)), .val (.ref b30), .unset, .unset] [(.int (own_n (ushrI (a &&& (2147483647 : Int32)) (sft &&& (31 : Int32)))))])
  refine r_istore X67.here hx (hb hby at_122) (l' := #[.val (.int a), .val (.int sft), .val (.int q), .val (.int fill), .val (.int (ushrI (a &&& (2147483647 : Int32)) (sft &&& (31 : Int32)))), .val (.int (q &&& (7 : Int32))), .val (.int (fill.toInt8.toInt32)), .val (.ref b30), .val (.int (own_n (ushrI (a &&& (2147483647 : Int32)) (sft &&& (31 : Int32))))), .unset]) rfl (pc' := 124) rfl ?_
  refine r_aload X67.here hx (hb hby at_124) rfl rfl (pc' := 126) rfl ?_
  refine r_iload X67.here hx (hb hby at_126) rfl (pc' := 128) rfl ?_
  refine r_iload X67.here hx (hb hby at_128) rfl (pc' := 130) rfl ?_
  refine r_callS X67 hx hZ (y := (⟨"com/example/floe/floe/engine/GroupKeys", "putLength", "([BII)I"⟩ : MethodName)) (rm := ({ frames := 0, cells := 0, slots := 0, locals := 0 } : Room)) hown (hw _ (List.mem_of_getElem? (i := 6) rfl)) (hw _ (List.mem_of_getElem? (i := 7) rfl)) (hw _ (List.mem_of_getElem? (i := 8) rfl)) (hw _ (List.mem_of_getElem? (i := 9) rfl)) (by decide) (rmP l Z a0 hw [] b30 (q &&& (7 : Int32)) (ushrI (a &&& (2147483647 : Int32)) (sft &&& (31 : Int32))) (fill.toInt8.toInt32) h64 n0 Z65 ge31 f66 hp.1 (by omega) hl) e67 (by rw [hml]; rfl) (argsL := [(.ref b30), (.int (q &&& (7 : Int32))), (.int (ushrI (a &&& (2147483647 : Int32)) (sft &&& (31 : Int32))))]) (rest := []) (lenOf pd_1 rfl) rfl rfl (W := 0) rfl (by decide) (by decide) (by decide) (by decide) (hb hby at_130) (pc' := 133) rfl ?_
  rintro v68 T68 L68 X68 ⟨rfl, Nq68, K68, A68⟩
  have N68 := Fr.app N67 Nq68
  show Run p e below _ _ T68 (mkF m 133 #[.val (.int a), .val (.int sft), .val (.int q), .val (.int fill), .val (.int (ushrI (a &&& (2147483647 : Int32)) (sft &&& (31 : Int32)))), .val (.int (q &&& (7 : Int32))), .val (.int (fill.toInt8.toInt32)), .val (.ref b30), .val (.int (own_n (ushrI (a &&& (2147483647 : Int32)) (sft &&& (31 : Int32))))), .unset] [(.int ((q &&& (7 : Int32)) + own_n (ushrI (a &&& (2147483647 : Int32)) (sft &&& (31 : Int32)))))])
  have Z69 : n0 ≤ T68.heap.size := by have q := Z65; exact Nat.le_trans q K68.1
  refine r_istore X68.here hx (hb hby at_133) (l' := #[.val (.int a), .val (.int sft), .val (.int q), .val (.int fill), .val (.int (ushrI (a &&& (2147483647 : Int32)) (sft &&& (31 : Int32)))), .val (.int (q &&& (7 : Int32))), .val (.int (fill.toInt8.toInt32)), .val (.ref b30), .val (.int (own_n (ushrI (a &&& (2147483647 : Int32)) (sft &&& (31 : Int32))))), .val (.int ((q &&& (7 : Int32)) + own_n (ushrI (a &&& (2147483647 : Int32)) (sft &&& (31 : Int32)))))]) rfl (pc' := 135) rfl ?_
  refine r_iload X68.here hx (hb hby at_135) rfl (pc' := 137) rfl ?_
  refine r_iload X68.here hx (hb hby at_137) rfl (pc' := 139) rfl ?_
  refine r_iload X68.here hx (hb hby at_139) rfl (pc' := 141) rfl ?_
  refine r_iadd X68.here hx (hb hby at_141) (pc' := 142) rfl ?_
  refine r_if_eq X68.here hx (hb hby at_142) (by decide) (pc' := 147) (by decide) (pc2 := 145) rfl (fun hc142 => ?_) (fun hc142 => absurd rfl hc142)
  refine r_aload X68.here hx (hb hby at_147) rfl rfl (pc' := 149) rfl ?_
  refine r_iconst X68.here hx (hb hby at_149) (v := 0) rfl (pc' := 150) rfl ?_
  refine r_iload X68.here hx (hb hby at_150) rfl (pc' := 152) rfl ?_
  refine r_iload X68.here hx (hb hby at_152) rfl (pc' := 154) rfl ?_
  refine r_iload X68.here hx (hb hby at_154) rfl (pc' := 156) rfl ?_
  refine r_iload X68.here hx (hb hby at_156) rfl (pc' := 158) rfl ?_
  refine r_callS X68 hx hZ (y := (⟨"com/example/floe/floe/engine/GroupKeysPutLengthPinLaw", "at", "([BIIIIB)Z"⟩ : MethodName)) (rm := ({ frames := 0, cells := 0, slots := 0, locals := 0 } : Room)) hown (hw _ (List.mem_of_getElem? (i := 10) rfl)) (hw _ (List.mem_of_getElem? (i := 11) rfl)) (hw _ (List.mem_of_getElem? (i := 4) rfl)) (hw _ (List.mem_of_getElem? (i := 12) rfl)) (by decide) (rmA l Z a0 hw [] b30 (0 : Int32) (ushrI (a &&& (2147483647 : Int32)) (sft &&& (31 : Int32))) (q &&& (7 : Int32)) (own_n (ushrI (a &&& (2147483647 : Int32)) (sft &&& (31 : Int32)))) (fill.toInt8.toInt32) _ T68.heap n0 Z69 A68 (by decide) (by decide) rfl) rfl (by rw [hml]; rfl) (argsL := [(.ref b30), (.int (0 : Int32)), (.int (ushrI (a &&& (2147483647 : Int32)) (sft &&& (31 : Int32)))), (.int (q &&& (7 : Int32))), (.int (own_n (ushrI (a &&& (2147483647 : Int32)) (sft &&& (31 : Int32))))), (.int (fill.toInt8.toInt32))]) (rest := []) (lenOf pd_2 rfl) rfl rfl (W := 0) rfl (by decide) (by decide) (by decide) (by decide) (hb hby at_158) (pc' := 161) rfl ?_
  rintro v70 T70 L70 X70 ⟨rfl, Nq70, e70⟩
  have N70 := Fr.app N68 Nq70
  show Run p e below _ _ T70 (mkF m 161 #[.val (.int a), .val (.int sft), .val (.int q), .val (.int fill), .val (.int (ushrI (a &&& (2147483647 : Int32)) (sft &&& (31 : Int32)))), .val (.int (q &&& (7 : Int32))), .val (.int (fill.toInt8.toInt32)), .val (.ref b30), .val (.int (own_n (ushrI (a &&& (2147483647 : Int32)) (sft &&& (31 : Int32))))), .val (.int ((q &&& (7 : Int32)) + own_n (ushrI (a &&& (2147483647 : Int32)) (sft &&& (31 : Int32)))))] [(.int (1 : Int32))])
  refine r_if0_eq X70.here hx (hb hby at_161) (by decide) (pc' := 433) (by decide) (pc2 := 164) rfl (fun hc161 => absurd hc161 (by decide)) (fun hc161 => ?_)
  refine r_aload X70.here hx (hb hby at_164) rfl rfl (pc' := 166) rfl ?_
  refine r_iconst X70.here hx (hb hby at_166) (v := 1) rfl (pc' := 167) rfl ?_
  refine r_iload X70.here hx (hb hby at_167) rfl (pc' := 169) rfl ?_
  refine r_iload X70.here hx (hb hby at_169) rfl (pc' := 171) rfl ?_
  refine r_iload X70.here hx (hb hby at_171) rfl (pc' := 173) rfl ?_
  refine r_iload X70.here hx (hb hby at_173) rfl (pc' := 175) rfl ?_
  refine r_callS X70 hx hZ (y := (⟨"com/example/floe/floe/engine/GroupKeysPutLengthPinLaw", "at", "([BIIIIB)Z"⟩ : MethodName)) (rm := ({ frames := 0, cells := 0, slots := 0, locals := 0 } : Room)) hown (hw _ (List.mem_of_getElem? (i := 10) rfl)) (hw _ (List.mem_of_getElem? (i := 11) rfl)) (hw _ (List.mem_of_getElem? (i := 4) rfl)) (hw _ (List.mem_of_getElem? (i := 12) rfl)) (by decide) (rmA l Z a0 hw [] b30 (1 : Int32) (ushrI (a &&& (2147483647 : Int32)) (sft &&& (31 : Int32))) (q &&& (7 : Int32)) (own_n (ushrI (a &&& (2147483647 : Int32)) (sft &&& (31 : Int32)))) (fill.toInt8.toInt32) _ T68.heap n0 Z69 A68 (by decide) (by decide) rfl) e70 (by rw [hml]; rfl) (argsL := [(.ref b30), (.int (1 : Int32)), (.int (ushrI (a &&& (2147483647 : Int32)) (sft &&& (31 : Int32)))), (.int (q &&& (7 : Int32))), (.int (own_n (ushrI (a &&& (2147483647 : Int32)) (sft &&& (31 : Int32))))), (.int (fill.toInt8.toInt32))]) (rest := []) (lenOf pd_2 rfl) rfl rfl (W := 0) rfl (by decide) (by decide) (by decide) (by decide) (hb hby at_175) (pc' := 178) rfl ?_
  rintro v71 T71 L71 X71 ⟨rfl, Nq71, e71⟩
  have N71 := Fr.app N70 Nq71
  show Run p e below _ _ T71 (mkF m 178 #[.val (.int a), .val (.int sft), .val (.int q), .val (.int fill), .val (.int (ushrI (a &&& (2147483647 : Int32)) (sft &&& (31 : Int32)))), .val (.int (q &&& (7 : Int32))), .val (.int (fill.toInt8.toInt32)), .val (.ref b30), .val (.int (own_n (ushrI (a &&& (2147483647 : Int32)) (sft &&& (31 : Int32))))), .val (.int ((q &&& (7 : Int32)) + own_n (ushrI (a &&& (2147483647 : Int32)) (sft &&& (31 : Int32)))))] [(.int (1 : Int32))])
  refine r_if0_eq X71.here hx (hb hby at_178) (by decide) (pc' := 433) (by decide) (pc2 := 181) rfl (fun hc178 => absurd hc178 (by decide)) (fun hc178 => ?_)
  refine r_aload X71.here hx (hb hby at_181) rfl rfl (pc' := 183) rfl ?_
  refine r_iconst X71.here hx (hb hby at_183) (v := 2) rfl (pc' := 184) rfl ?_
  refine r_iload X71.here hx (hb hby at_184) rfl (pc' := 186) rfl ?_
  refine r_iload X71.here hx (hb hby at_186) rfl (pc' := 188) rfl ?_
  refine r_iload X71.here hx (hb hby at_188) rfl (pc' := 190) rfl ?_
  refine r_iload X71.here hx (hb hby at_190) rfl (pc' := 192) rfl ?_
  refine r_callS X71 hx hZ (y := (⟨"com/example/floe/floe/engine/GroupKeysPutLengthPinLaw", "at", "([BIIIIB)Z"⟩ : MethodName)) (rm := ({ frames := 0, cells := 0, slots := 0, locals := 0 } : Room)) hown (hw _ (List.mem_of_getElem? (i := 10) rfl)) (hw _ (List.mem_of_getElem? (i := 11) rfl)) (hw _ (List.mem_of_getElem? (i := 4) rfl)) (hw _ (List.mem_of_getElem? (i := 12) rfl)) (by decide) (rmA l Z a0 hw [] b30 (2 : Int32) (ushrI (a &&& (2147483647 : Int32)) (sft &&& (31 : Int32))) (q &&& (7 : Int32)) (own_n (ushrI (a &&& (2147483647 : Int32)) (sft &&& (31 : Int32)))) (fill.toInt8.toInt32) _ T68.heap n0 Z69 A68 (by decide) (by decide) rfl) e71 (by rw [hml]; rfl) (argsL := [(.ref b30), (.int (2 : Int32)), (.int (ushrI (a &&& (2147483647 : Int32)) (sft &&& (31 : Int32)))), (.int (q &&& (7 : Int32))), (.int (own_n (ushrI (a &&& (2147483647 : Int32)) (sft &&& (31 : Int32))))), (.int (fill.toInt8.toInt32))]) (rest := []) (lenOf pd_2 rfl) rfl rfl (W := 0) rfl (by decide) (by decide) (by decide) (by decide) (hb hby at_192) (pc' := 195) rfl ?_
  rintro v72 T72 L72 X72 ⟨rfl, Nq72, e72⟩
  have N72 := Fr.app N71 Nq72
  show Run p e below _ _ T72 (mkF m 195 #[.val (.int a), .val (.int sft), .val (.int q), .val (.int fill), .val (.int (ushrI (a &&& (2147483647 : Int32)) (sft &&& (31 : Int32)))), .val (.int (q &&& (7 : Int32))), .val (.int (fill.toInt8.toInt32)), .val (.ref b30), .val (.int (own_n (ushrI (a &&& (2147483647 : Int32)) (sft &&& (31 : Int32))))), .val (.int ((q &&& (7 : Int32)) + own_n (ushrI (a &&& (2147483647 : Int32)) (sft &&& (31 : Int32)))))] [(.int (1 : Int32))])
  refine r_if0_eq X72.here hx (hb hby at_195) (by decide) (pc' := 433) (by decide) (pc2 := 198) rfl (fun hc195 => absurd hc195 (by decide)) (fun hc195 => ?_)
  refine r_aload X72.here hx (hb hby at_198) rfl rfl (pc' := 200) rfl ?_
  refine r_iconst X72.here hx (hb hby at_200) (v := 3) rfl (pc' := 201) rfl ?_
  refine r_iload X72.here hx (hb hby at_201) rfl (pc' := 203) rfl ?_
  refine r_iload X72.here hx (hb hby at_203) rfl (pc' := 205) rfl ?_
  refine r_iload X72.here hx (hb hby at_205) rfl (pc' := 207) rfl ?_
  refine r_iload X72.here hx (hb hby at_207) rfl (pc' := 209) rfl ?_
  refine r_callS X72 hx hZ (y := (⟨"com/example/floe/floe/engine/GroupKeysPutLengthPinLaw", "at", "([BIIIIB)Z"⟩ : MethodName)) (rm := ({ frames := 0, cells := 0, slots := 0, locals := 0 } : Room)) hown (hw _ (List.mem_of_getElem? (i := 10) rfl)) (hw _ (List.mem_of_getElem? (i := 11) rfl)) (hw _ (List.mem_of_getElem? (i := 4) rfl)) (hw _ (List.mem_of_getElem? (i := 12) rfl)) (by decide) (rmA l Z a0 hw [] b30 (3 : Int32) (ushrI (a &&& (2147483647 : Int32)) (sft &&& (31 : Int32))) (q &&& (7 : Int32)) (own_n (ushrI (a &&& (2147483647 : Int32)) (sft &&& (31 : Int32)))) (fill.toInt8.toInt32) _ T68.heap n0 Z69 A68 (by decide) (by decide) rfl) e72 (by rw [hml]; rfl) (argsL := [(.ref b30), (.int (3 : Int32)), (.int (ushrI (a &&& (2147483647 : Int32)) (sft &&& (31 : Int32)))), (.int (q &&& (7 : Int32))), (.int (own_n (ushrI (a &&& (2147483647 : Int32)) (sft &&& (31 : Int32))))), (.int (fill.toInt8.toInt32))]) (rest := []) (lenOf pd_2 rfl) rfl rfl (W := 0) rfl (by decide) (by decide) (by decide) (by decide) (hb hby at_209) (pc' := 212) rfl ?_
  rintro v73 T73 L73 X73 ⟨rfl, Nq73, e73⟩
  have N73 := Fr.app N72 Nq73
  show Run p e below _ _ T73 (mkF m 212 #[.val (.int a), .val (.int sft), .val (.int q), .val (.int fill), .val (.int (ushrI (a &&& (2147483647 : Int32)) (sft &&& (31 : Int32)))), .val (.int (q &&& (7 : Int32))), .val (.int (fill.toInt8.toInt32)), .val (.ref b30), .val (.int (own_n (ushrI (a &&& (2147483647 : Int32)) (sft &&& (31 : Int32))))), .val (.int ((q &&& (7 : Int32)) + own_n (ushrI (a &&& (2147483647 : Int32)) (sft &&& (31 : Int32)))))] [(.int (1 : Int32))])
  refine r_if0_eq X73.here hx (hb hby at_212) (by decide) (pc' := 433) (by decide) (pc2 := 215) rfl (fun hc212 => absurd hc212 (by decide)) (fun hc212 => ?_)
  refine r_aload X73.here hx (hb hby at_215) rfl rfl (pc' := 217) rfl ?_
  refine r_iconst X73.here hx (hb hby at_217) (v := 4) rfl (pc' := 218) rfl ?_
  refine r_iload X73.here hx (hb hby at_218) rfl (pc' := 220) rfl ?_
  refine r_iload X73.here hx (hb hby at_220) rfl (pc' := 222) rfl ?_
  refine r_iload X73.here hx (hb hby at_222) rfl (pc' := 224) rfl ?_
  refine r_iload X73.here hx (hb hby at_224) rfl (pc' := 226) rfl ?_
  refine r_callS X73 hx hZ (y := (⟨"com/example/floe/floe/engine/GroupKeysPutLengthPinLaw", "at", "([BIIIIB)Z"⟩ : MethodName)) (rm := ({ frames := 0, cells := 0, slots := 0, locals := 0 } : Room)) hown (hw _ (List.mem_of_getElem? (i := 10) rfl)) (hw _ (List.mem_of_getElem? (i := 11) rfl)) (hw _ (List.mem_of_getElem? (i := 4) rfl)) (hw _ (List.mem_of_getElem? (i := 12) rfl)) (by decide) (rmA l Z a0 hw [] b30 (4 : Int32) (ushrI (a &&& (2147483647 : Int32)) (sft &&& (31 : Int32))) (q &&& (7 : Int32)) (own_n (ushrI (a &&& (2147483647 : Int32)) (sft &&& (31 : Int32)))) (fill.toInt8.toInt32) _ T68.heap n0 Z69 A68 (by decide) (by decide) rfl) e73 (by rw [hml]; rfl) (argsL := [(.ref b30), (.int (4 : Int32)), (.int (ushrI (a &&& (2147483647 : Int32)) (sft &&& (31 : Int32)))), (.int (q &&& (7 : Int32))), (.int (own_n (ushrI (a &&& (2147483647 : Int32)) (sft &&& (31 : Int32))))), (.int (fill.toInt8.toInt32))]) (rest := []) (lenOf pd_2 rfl) rfl rfl (W := 0) rfl (by decide) (by decide) (by decide) (by decide) (hb hby at_226) (pc' := 229) rfl ?_
  rintro v74 T74 L74 X74 ⟨rfl, Nq74, e74⟩
  have N74 := Fr.app N73 Nq74
  show Run p e below _ _ T74 (mkF m 229 #[.val (.int a), .val (.int sft), .val (.int q), .val (.int fill), .val (.int (ushrI (a &&& (2147483647 : Int32)) (sft &&& (31 : Int32)))), .val (.int (q &&& (7 : Int32))), .val (.int (fill.toInt8.toInt32)), .val (.ref b30), .val (.int (own_n (ushrI (a &&& (2147483647 : Int32)) (sft &&& (31 : Int32))))), .val (.int ((q &&& (7 : Int32)) + own_n (ushrI (a &&& (2147483647 : Int32)) (sft &&& (31 : Int32)))))] [(.int (1 : Int32))])
  refine r_if0_eq X74.here hx (hb hby at_229) (by decide) (pc' := 433) (by decide) (pc2 := 232) rfl (fun hc229 => absurd hc229 (by decide)) (fun hc229 => ?_)
  refine r_aload X74.here hx (hb hby at_232) rfl rfl (pc' := 234) rfl ?_
  refine r_iconst X74.here hx (hb hby at_234) (v := 5) rfl (pc' := 235) rfl ?_
  refine r_iload X74.here hx (hb hby at_235) rfl (pc' := 237) rfl ?_
  refine r_iload X74.here hx (hb hby at_237) rfl (pc' := 239) rfl ?_
  refine r_iload X74.here hx (hb hby at_239) rfl (pc' := 241) rfl ?_
  refine r_iload X74.here hx (hb hby at_241) rfl (pc' := 243) rfl ?_
  refine r_callS X74 hx hZ (y := (⟨"com/example/floe/floe/engine/GroupKeysPutLengthPinLaw", "at", "([BIIIIB)Z"⟩ : MethodName)) (rm := ({ frames := 0, cells := 0, slots := 0, locals := 0 } : Room)) hown (hw _ (List.mem_of_getElem? (i := 10) rfl)) (hw _ (List.mem_of_getElem? (i := 11) rfl)) (hw _ (List.mem_of_getElem? (i := 4) rfl)) (hw _ (List.mem_of_getElem? (i := 12) rfl)) (by decide) (rmA l Z a0 hw [] b30 (5 : Int32) (ushrI (a &&& (2147483647 : Int32)) (sft &&& (31 : Int32))) (q &&& (7 : Int32)) (own_n (ushrI (a &&& (2147483647 : Int32)) (sft &&& (31 : Int32)))) (fill.toInt8.toInt32) _ T68.heap n0 Z69 A68 (by decide) (by decide) rfl) e74 (by rw [hml]; rfl) (argsL := [(.ref b30), (.int (5 : Int32)), (.int (ushrI (a &&& (2147483647 : Int32)) (sft &&& (31 : Int32)))), (.int (q &&& (7 : Int32))), (.int (own_n (ushrI (a &&& (2147483647 : Int32)) (sft &&& (31 : Int32))))), (.int (fill.toInt8.toInt32))]) (rest := []) (lenOf pd_2 rfl) rfl rfl (W := 0) rfl (by decide) (by decide) (by decide) (by decide) (hb hby at_243) (pc' := 246) rfl ?_
  rintro v75 T75 L75 X75 ⟨rfl, Nq75, e75⟩
  have N75 := Fr.app N74 Nq75
  show Run p e below _ _ T75 (mkF m 246 #[.val (.int a), .val (.int sft), .val (.int q), .val (.int fill), .val (.int (ushrI (a &&& (2147483647 : Int32)) (sft &&& (31 : Int32)))), .val (.int (q &&& (7 : Int32))), .val (.int (fill.toInt8.toInt32)), .val (.ref b30), .val (.int (own_n (ushrI (a &&& (2147483647 : Int32)) (sft &&& (31 : Int32))))), .val (.int ((q &&& (7 : Int32)) + own_n (ushrI (a &&& (2147483647 : Int32)) (sft &&& (31 : Int32)))))] [(.int (1 : Int32))])
  refine r_if0_eq X75.here hx (hb hby at_246) (by decide) (pc' := 433) (by decide) (pc2 := 249) rfl (fun hc246 => absurd hc246 (by decide)) (fun hc246 => ?_)
  refine r_aload X75.here hx (hb hby at_249) rfl rfl (pc' := 251) rfl ?_
  refine r_bipush X75.here hx (hb hby at_251) (v := 6) rfl (pc' := 253) rfl ?_
  refine r_iload X75.here hx (hb hby at_253) rfl (pc' := 255) rfl ?_
  refine r_iload X75.here hx (hb hby at_255) rfl (pc' := 257) rfl ?_
  refine r_iload X75.here hx (hb hby at_257) rfl (pc' := 259) rfl ?_
  refine r_iload X75.here hx (hb hby at_259) rfl (pc' := 261) rfl ?_
  refine r_callS X75 hx hZ (y := (⟨"com/example/floe/floe/engine/GroupKeysPutLengthPinLaw", "at", "([BIIIIB)Z"⟩ : MethodName)) (rm := ({ frames := 0, cells := 0, slots := 0, locals := 0 } : Room)) hown (hw _ (List.mem_of_getElem? (i := 10) rfl)) (hw _ (List.mem_of_getElem? (i := 11) rfl)) (hw _ (List.mem_of_getElem? (i := 4) rfl)) (hw _ (List.mem_of_getElem? (i := 12) rfl)) (by decide) (rmA l Z a0 hw [] b30 (6 : Int32) (ushrI (a &&& (2147483647 : Int32)) (sft &&& (31 : Int32))) (q &&& (7 : Int32)) (own_n (ushrI (a &&& (2147483647 : Int32)) (sft &&& (31 : Int32)))) (fill.toInt8.toInt32) _ T68.heap n0 Z69 A68 (by decide) (by decide) rfl) e75 (by rw [hml]; rfl) (argsL := [(.ref b30), (.int (6 : Int32)), (.int (ushrI (a &&& (2147483647 : Int32)) (sft &&& (31 : Int32)))), (.int (q &&& (7 : Int32))), (.int (own_n (ushrI (a &&& (2147483647 : Int32)) (sft &&& (31 : Int32))))), (.int (fill.toInt8.toInt32))]) (rest := []) (lenOf pd_2 rfl) rfl rfl (W := 0) rfl (by decide) (by decide) (by decide) (by decide) (hb hby at_261) (pc' := 264) rfl ?_
  rintro v76 T76 L76 X76 ⟨rfl, Nq76, e76⟩
  have N76 := Fr.app N75 Nq76
  show Run p e below _ _ T76 (mkF m 264 #[.val (.int a), .val (.int sft), .val (.int q), .val (.int fill), .val (.int (ushrI (a &&& (2147483647 : Int32)) (sft &&& (31 : Int32)))), .val (.int (q &&& (7 : Int32))), .val (.int (fill.toInt8.toInt32)), .val (.ref b30), .val (.int (own_n (ushrI (a &&& (2147483647 : Int32)) (sft &&& (31 : Int32))))), .val (.int ((q &&& (7 : Int32)) + own_n (ushrI (a &&& (2147483647 : Int32)) (sft &&& (31 : Int32)))))] [(.int (1 : Int32))])
  refine r_if0_eq X76.here hx (hb hby at_264) (by decide) (pc' := 433) (by decide) (pc2 := 267) rfl (fun hc264 => absurd hc264 (by decide)) (fun hc264 => ?_)
  refine r_aload X76.here hx (hb hby at_267) rfl rfl (pc' := 269) rfl ?_
  refine r_bipush X76.here hx (hb hby at_269) (v := 7) rfl (pc' := 271) rfl ?_
  refine r_iload X76.here hx (hb hby at_271) rfl (pc' := 273) rfl ?_
  refine r_iload X76.here hx (hb hby at_273) rfl (pc' := 275) rfl ?_
  refine r_iload X76.here hx (hb hby at_275) rfl (pc' := 277) rfl ?_
  refine r_iload X76.here hx (hb hby at_277) rfl (pc' := 279) rfl ?_
  refine r_callS X76 hx hZ (y := (⟨"com/example/floe/floe/engine/GroupKeysPutLengthPinLaw", "at", "([BIIIIB)Z"⟩ : MethodName)) (rm := ({ frames := 0, cells := 0, slots := 0, locals := 0 } : Room)) hown (hw _ (List.mem_of_getElem? (i := 10) rfl)) (hw _ (List.mem_of_getElem? (i := 11) rfl)) (hw _ (List.mem_of_getElem? (i := 4) rfl)) (hw _ (List.mem_of_getElem? (i := 12) rfl)) (by decide) (rmA l Z a0 hw [] b30 (7 : Int32) (ushrI (a &&& (2147483647 : Int32)) (sft &&& (31 : Int32))) (q &&& (7 : Int32)) (own_n (ushrI (a &&& (2147483647 : Int32)) (sft &&& (31 : Int32)))) (fill.toInt8.toInt32) _ T68.heap n0 Z69 A68 (by decide) (by decide) rfl) e76 (by rw [hml]; rfl) (argsL := [(.ref b30), (.int (7 : Int32)), (.int (ushrI (a &&& (2147483647 : Int32)) (sft &&& (31 : Int32)))), (.int (q &&& (7 : Int32))), (.int (own_n (ushrI (a &&& (2147483647 : Int32)) (sft &&& (31 : Int32))))), (.int (fill.toInt8.toInt32))]) (rest := []) (lenOf pd_2 rfl) rfl rfl (W := 0) rfl (by decide) (by decide) (by decide) (by decide) (hb hby at_279) (pc' := 282) rfl ?_
  rintro v77 T77 L77 X77 ⟨rfl, Nq77, e77⟩
  have N77 := Fr.app N76 Nq77
  show Run p e below _ _ T77 (mkF m 282 #[.val (.int a), .val (.int sft), .val (.int q), .val (.int fill), .val (.int (ushrI (a &&& (2147483647 : Int32)) (sft &&& (31 : Int32)))), .val (.int (q &&& (7 : Int32))), .val (.int (fill.toInt8.toInt32)), .val (.ref b30), .val (.int (own_n (ushrI (a &&& (2147483647 : Int32)) (sft &&& (31 : Int32))))), .val (.int ((q &&& (7 : Int32)) + own_n (ushrI (a &&& (2147483647 : Int32)) (sft &&& (31 : Int32)))))] [(.int (1 : Int32))])
  refine r_if0_eq X77.here hx (hb hby at_282) (by decide) (pc' := 433) (by decide) (pc2 := 285) rfl (fun hc282 => absurd hc282 (by decide)) (fun hc282 => ?_)
  refine r_aload X77.here hx (hb hby at_285) rfl rfl (pc' := 287) rfl ?_
  refine r_bipush X77.here hx (hb hby at_287) (v := 8) rfl (pc' := 289) rfl ?_
  refine r_iload X77.here hx (hb hby at_289) rfl (pc' := 291) rfl ?_
  refine r_iload X77.here hx (hb hby at_291) rfl (pc' := 293) rfl ?_
  refine r_iload X77.here hx (hb hby at_293) rfl (pc' := 295) rfl ?_
  refine r_iload X77.here hx (hb hby at_295) rfl (pc' := 297) rfl ?_
  refine r_callS X77 hx hZ (y := (⟨"com/example/floe/floe/engine/GroupKeysPutLengthPinLaw", "at", "([BIIIIB)Z"⟩ : MethodName)) (rm := ({ frames := 0, cells := 0, slots := 0, locals := 0 } : Room)) hown (hw _ (List.mem_of_getElem? (i := 10) rfl)) (hw _ (List.mem_of_getElem? (i := 11) rfl)) (hw _ (List.mem_of_getElem? (i := 4) rfl)) (hw _ (List.mem_of_getElem? (i := 12) rfl)) (by decide) (rmA l Z a0 hw [] b30 (8 : Int32) (ushrI (a &&& (2147483647 : Int32)) (sft &&& (31 : Int32))) (q &&& (7 : Int32)) (own_n (ushrI (a &&& (2147483647 : Int32)) (sft &&& (31 : Int32)))) (fill.toInt8.toInt32) _ T68.heap n0 Z69 A68 (by decide) (by decide) rfl) e77 (by rw [hml]; rfl) (argsL := [(.ref b30), (.int (8 : Int32)), (.int (ushrI (a &&& (2147483647 : Int32)) (sft &&& (31 : Int32)))), (.int (q &&& (7 : Int32))), (.int (own_n (ushrI (a &&& (2147483647 : Int32)) (sft &&& (31 : Int32))))), (.int (fill.toInt8.toInt32))]) (rest := []) (lenOf pd_2 rfl) rfl rfl (W := 0) rfl (by decide) (by decide) (by decide) (by decide) (hb hby at_297) (pc' := 300) rfl ?_
  rintro v78 T78 L78 X78 ⟨rfl, Nq78, e78⟩
  have N78 := Fr.app N77 Nq78
  show Run p e below _ _ T78 (mkF m 300 #[.val (.int a), .val (.int sft), .val (.int q), .val (.int fill), .val (.int (ushrI (a &&& (2147483647 : Int32)) (sft &&& (31 : Int32)))), .val (.int (q &&& (7 : Int32))), .val (.int (fill.toInt8.toInt32)), .val (.ref b30), .val (.int (own_n (ushrI (a &&& (2147483647 : Int32)) (sft &&& (31 : Int32))))), .val (.int ((q &&& (7 : Int32)) + own_n (ushrI (a &&& (2147483647 : Int32)) (sft &&& (31 : Int32)))))] [(.int (1 : Int32))])
  refine r_if0_eq X78.here hx (hb hby at_300) (by decide) (pc' := 433) (by decide) (pc2 := 303) rfl (fun hc300 => absurd hc300 (by decide)) (fun hc300 => ?_)
  refine r_aload X78.here hx (hb hby at_303) rfl rfl (pc' := 305) rfl ?_
  refine r_bipush X78.here hx (hb hby at_305) (v := 9) rfl (pc' := 307) rfl ?_
  refine r_iload X78.here hx (hb hby at_307) rfl (pc' := 309) rfl ?_
  refine r_iload X78.here hx (hb hby at_309) rfl (pc' := 311) rfl ?_
  refine r_iload X78.here hx (hb hby at_311) rfl (pc' := 313) rfl ?_
  refine r_iload X78.here hx (hb hby at_313) rfl (pc' := 315) rfl ?_
  refine r_callS X78 hx hZ (y := (⟨"com/example/floe/floe/engine/GroupKeysPutLengthPinLaw", "at", "([BIIIIB)Z"⟩ : MethodName)) (rm := ({ frames := 0, cells := 0, slots := 0, locals := 0 } : Room)) hown (hw _ (List.mem_of_getElem? (i := 10) rfl)) (hw _ (List.mem_of_getElem? (i := 11) rfl)) (hw _ (List.mem_of_getElem? (i := 4) rfl)) (hw _ (List.mem_of_getElem? (i := 12) rfl)) (by decide) (rmA l Z a0 hw [] b30 (9 : Int32) (ushrI (a &&& (2147483647 : Int32)) (sft &&& (31 : Int32))) (q &&& (7 : Int32)) (own_n (ushrI (a &&& (2147483647 : Int32)) (sft &&& (31 : Int32)))) (fill.toInt8.toInt32) _ T68.heap n0 Z69 A68 (by decide) (by decide) rfl) e78 (by rw [hml]; rfl) (argsL := [(.ref b30), (.int (9 : Int32)), (.int (ushrI (a &&& (2147483647 : Int32)) (sft &&& (31 : Int32)))), (.int (q &&& (7 : Int32))), (.int (own_n (ushrI (a &&& (2147483647 : Int32)) (sft &&& (31 : Int32))))), (.int (fill.toInt8.toInt32))]) (rest := []) (lenOf pd_2 rfl) rfl rfl (W := 0) rfl (by decide) (by decide) (by decide) (by decide) (hb hby at_315) (pc' := 318) rfl ?_
  rintro v79 T79 L79 X79 ⟨rfl, Nq79, e79⟩
  have N79 := Fr.app N78 Nq79
  show Run p e below _ _ T79 (mkF m 318 #[.val (.int a), .val (.int sft), .val (.int q), .val (.int fill), .val (.int (ushrI (a &&& (2147483647 : Int32)) (sft &&& (31 : Int32)))), .val (.int (q &&& (7 : Int32))), .val (.int (fill.toInt8.toInt32)), .val (.ref b30), .val (.int (own_n (ushrI (a &&& (2147483647 : Int32)) (sft &&& (31 : Int32))))), .val (.int ((q &&& (7 : Int32)) + own_n (ushrI (a &&& (2147483647 : Int32)) (sft &&& (31 : Int32)))))] [(.int (1 : Int32))])
  refine r_if0_eq X79.here hx (hb hby at_318) (by decide) (pc' := 433) (by decide) (pc2 := 321) rfl (fun hc318 => absurd hc318 (by decide)) (fun hc318 => ?_)
  refine r_aload X79.here hx (hb hby at_321) rfl rfl (pc' := 323) rfl ?_
  refine r_bipush X79.here hx (hb hby at_323) (v := 10) rfl (pc' := 325) rfl ?_
  refine r_iload X79.here hx (hb hby at_325) rfl (pc' := 327) rfl ?_
  refine r_iload X79.here hx (hb hby at_327) rfl (pc' := 329) rfl ?_
  refine r_iload X79.here hx (hb hby at_329) rfl (pc' := 331) rfl ?_
  refine r_iload X79.here hx (hb hby at_331) rfl (pc' := 333) rfl ?_
  refine r_callS X79 hx hZ (y := (⟨"com/example/floe/floe/engine/GroupKeysPutLengthPinLaw", "at", "([BIIIIB)Z"⟩ : MethodName)) (rm := ({ frames := 0, cells := 0, slots := 0, locals := 0 } : Room)) hown (hw _ (List.mem_of_getElem? (i := 10) rfl)) (hw _ (List.mem_of_getElem? (i := 11) rfl)) (hw _ (List.mem_of_getElem? (i := 4) rfl)) (hw _ (List.mem_of_getElem? (i := 12) rfl)) (by decide) (rmA l Z a0 hw [] b30 (10 : Int32) (ushrI (a &&& (2147483647 : Int32)) (sft &&& (31 : Int32))) (q &&& (7 : Int32)) (own_n (ushrI (a &&& (2147483647 : Int32)) (sft &&& (31 : Int32)))) (fill.toInt8.toInt32) _ T68.heap n0 Z69 A68 (by decide) (by decide) rfl) e79 (by rw [hml]; rfl) (argsL := [(.ref b30), (.int (10 : Int32)), (.int (ushrI (a &&& (2147483647 : Int32)) (sft &&& (31 : Int32)))), (.int (q &&& (7 : Int32))), (.int (own_n (ushrI (a &&& (2147483647 : Int32)) (sft &&& (31 : Int32))))), (.int (fill.toInt8.toInt32))]) (rest := []) (lenOf pd_2 rfl) rfl rfl (W := 0) rfl (by decide) (by decide) (by decide) (by decide) (hb hby at_333) (pc' := 336) rfl ?_
  rintro v80 T80 L80 X80 ⟨rfl, Nq80, e80⟩
  have N80 := Fr.app N79 Nq80
  show Run p e below _ _ T80 (mkF m 336 #[.val (.int a), .val (.int sft), .val (.int q), .val (.int fill), .val (.int (ushrI (a &&& (2147483647 : Int32)) (sft &&& (31 : Int32)))), .val (.int (q &&& (7 : Int32))), .val (.int (fill.toInt8.toInt32)), .val (.ref b30), .val (.int (own_n (ushrI (a &&& (2147483647 : Int32)) (sft &&& (31 : Int32))))), .val (.int ((q &&& (7 : Int32)) + own_n (ushrI (a &&& (2147483647 : Int32)) (sft &&& (31 : Int32)))))] [(.int (1 : Int32))])
  refine r_if0_eq X80.here hx (hb hby at_336) (by decide) (pc' := 433) (by decide) (pc2 := 339) rfl (fun hc336 => absurd hc336 (by decide)) (fun hc336 => ?_)
  refine r_aload X80.here hx (hb hby at_339) rfl rfl (pc' := 341) rfl ?_
  refine r_bipush X80.here hx (hb hby at_341) (v := 11) rfl (pc' := 343) rfl ?_
  refine r_iload X80.here hx (hb hby at_343) rfl (pc' := 345) rfl ?_
  refine r_iload X80.here hx (hb hby at_345) rfl (pc' := 347) rfl ?_
  refine r_iload X80.here hx (hb hby at_347) rfl (pc' := 349) rfl ?_
  refine r_iload X80.here hx (hb hby at_349) rfl (pc' := 351) rfl ?_
  refine r_callS X80 hx hZ (y := (⟨"com/example/floe/floe/engine/GroupKeysPutLengthPinLaw", "at", "([BIIIIB)Z"⟩ : MethodName)) (rm := ({ frames := 0, cells := 0, slots := 0, locals := 0 } : Room)) hown (hw _ (List.mem_of_getElem? (i := 10) rfl)) (hw _ (List.mem_of_getElem? (i := 11) rfl)) (hw _ (List.mem_of_getElem? (i := 4) rfl)) (hw _ (List.mem_of_getElem? (i := 12) rfl)) (by decide) (rmA l Z a0 hw [] b30 (11 : Int32) (ushrI (a &&& (2147483647 : Int32)) (sft &&& (31 : Int32))) (q &&& (7 : Int32)) (own_n (ushrI (a &&& (2147483647 : Int32)) (sft &&& (31 : Int32)))) (fill.toInt8.toInt32) _ T68.heap n0 Z69 A68 (by decide) (by decide) rfl) e80 (by rw [hml]; rfl) (argsL := [(.ref b30), (.int (11 : Int32)), (.int (ushrI (a &&& (2147483647 : Int32)) (sft &&& (31 : Int32)))), (.int (q &&& (7 : Int32))), (.int (own_n (ushrI (a &&& (2147483647 : Int32)) (sft &&& (31 : Int32))))), (.int (fill.toInt8.toInt32))]) (rest := []) (lenOf pd_2 rfl) rfl rfl (W := 0) rfl (by decide) (by decide) (by decide) (by decide) (hb hby at_351) (pc' := 354) rfl ?_
  rintro v81 T81 L81 X81 ⟨rfl, Nq81, e81⟩
  have N81 := Fr.app N80 Nq81
  show Run p e below _ _ T81 (mkF m 354 #[.val (.int a), .val (.int sft), .val (.int q), .val (.int fill), .val (.int (ushrI (a &&& (2147483647 : Int32)) (sft &&& (31 : Int32)))), .val (.int (q &&& (7 : Int32))), .val (.int (fill.toInt8.toInt32)), .val (.ref b30), .val (.int (own_n (ushrI (a &&& (2147483647 : Int32)) (sft &&& (31 : Int32))))), .val (.int ((q &&& (7 : Int32)) + own_n (ushrI (a &&& (2147483647 : Int32)) (sft &&& (31 : Int32)))))] [(.int (1 : Int32))])
  refine r_if0_eq X81.here hx (hb hby at_354) (by decide) (pc' := 433) (by decide) (pc2 := 357) rfl (fun hc354 => absurd hc354 (by decide)) (fun hc354 => ?_)
  refine r_aload X81.here hx (hb hby at_357) rfl rfl (pc' := 359) rfl ?_
  refine r_bipush X81.here hx (hb hby at_359) (v := 12) rfl (pc' := 361) rfl ?_
  refine r_iload X81.here hx (hb hby at_361) rfl (pc' := 363) rfl ?_
  refine r_iload X81.here hx (hb hby at_363) rfl (pc' := 365) rfl ?_
  refine r_iload X81.here hx (hb hby at_365) rfl (pc' := 367) rfl ?_
  refine r_iload X81.here hx (hb hby at_367) rfl (pc' := 369) rfl ?_
  refine r_callS X81 hx hZ (y := (⟨"com/example/floe/floe/engine/GroupKeysPutLengthPinLaw", "at", "([BIIIIB)Z"⟩ : MethodName)) (rm := ({ frames := 0, cells := 0, slots := 0, locals := 0 } : Room)) hown (hw _ (List.mem_of_getElem? (i := 10) rfl)) (hw _ (List.mem_of_getElem? (i := 11) rfl)) (hw _ (List.mem_of_getElem? (i := 4) rfl)) (hw _ (List.mem_of_getElem? (i := 12) rfl)) (by decide) (rmA l Z a0 hw [] b30 (12 : Int32) (ushrI (a &&& (2147483647 : Int32)) (sft &&& (31 : Int32))) (q &&& (7 : Int32)) (own_n (ushrI (a &&& (2147483647 : Int32)) (sft &&& (31 : Int32)))) (fill.toInt8.toInt32) _ T68.heap n0 Z69 A68 (by decide) (by decide) rfl) e81 (by rw [hml]; rfl) (argsL := [(.ref b30), (.int (12 : Int32)), (.int (ushrI (a &&& (2147483647 : Int32)) (sft &&& (31 : Int32)))), (.int (q &&& (7 : Int32))), (.int (own_n (ushrI (a &&& (2147483647 : Int32)) (sft &&& (31 : Int32))))), (.int (fill.toInt8.toInt32))]) (rest := []) (lenOf pd_2 rfl) rfl rfl (W := 0) rfl (by decide) (by decide) (by decide) (by decide) (hb hby at_369) (pc' := 372) rfl ?_
  rintro v82 T82 L82 X82 ⟨rfl, Nq82, e82⟩
  have N82 := Fr.app N81 Nq82
  show Run p e below _ _ T82 (mkF m 372 #[.val (.int a), .val (.int sft), .val (.int q), .val (.int fill), .val (.int (ushrI (a &&& (2147483647 : Int32)) (sft &&& (31 : Int32)))), .val (.int (q &&& (7 : Int32))), .val (.int (fill.toInt8.toInt32)), .val (.ref b30), .val (.int (own_n (ushrI (a &&& (2147483647 : Int32)) (sft &&& (31 : Int32))))), .val (.int ((q &&& (7 : Int32)) + own_n (ushrI (a &&& (2147483647 : Int32)) (sft &&& (31 : Int32)))))] [(.int (1 : Int32))])
  refine r_if0_eq X82.here hx (hb hby at_372) (by decide) (pc' := 433) (by decide) (pc2 := 375) rfl (fun hc372 => absurd hc372 (by decide)) (fun hc372 => ?_)
  refine r_aload X82.here hx (hb hby at_375) rfl rfl (pc' := 377) rfl ?_
  refine r_bipush X82.here hx (hb hby at_377) (v := 13) rfl (pc' := 379) rfl ?_
  refine r_iload X82.here hx (hb hby at_379) rfl (pc' := 381) rfl ?_
  refine r_iload X82.here hx (hb hby at_381) rfl (pc' := 383) rfl ?_
  refine r_iload X82.here hx (hb hby at_383) rfl (pc' := 385) rfl ?_
  refine r_iload X82.here hx (hb hby at_385) rfl (pc' := 387) rfl ?_
  refine r_callS X82 hx hZ (y := (⟨"com/example/floe/floe/engine/GroupKeysPutLengthPinLaw", "at", "([BIIIIB)Z"⟩ : MethodName)) (rm := ({ frames := 0, cells := 0, slots := 0, locals := 0 } : Room)) hown (hw _ (List.mem_of_getElem? (i := 10) rfl)) (hw _ (List.mem_of_getElem? (i := 11) rfl)) (hw _ (List.mem_of_getElem? (i := 4) rfl)) (hw _ (List.mem_of_getElem? (i := 12) rfl)) (by decide) (rmA l Z a0 hw [] b30 (13 : Int32) (ushrI (a &&& (2147483647 : Int32)) (sft &&& (31 : Int32))) (q &&& (7 : Int32)) (own_n (ushrI (a &&& (2147483647 : Int32)) (sft &&& (31 : Int32)))) (fill.toInt8.toInt32) _ T68.heap n0 Z69 A68 (by decide) (by decide) rfl) e82 (by rw [hml]; rfl) (argsL := [(.ref b30), (.int (13 : Int32)), (.int (ushrI (a &&& (2147483647 : Int32)) (sft &&& (31 : Int32)))), (.int (q &&& (7 : Int32))), (.int (own_n (ushrI (a &&& (2147483647 : Int32)) (sft &&& (31 : Int32))))), (.int (fill.toInt8.toInt32))]) (rest := []) (lenOf pd_2 rfl) rfl rfl (W := 0) rfl (by decide) (by decide) (by decide) (by decide) (hb hby at_387) (pc' := 390) rfl ?_
  rintro v83 T83 L83 X83 ⟨rfl, Nq83, e83⟩
  have N83 := Fr.app N82 Nq83
  show Run p e below _ _ T83 (mkF m 390 #[.val (.int a), .val (.int sft), .val (.int q), .val (.int fill), .val (.int (ushrI (a &&& (2147483647 : Int32)) (sft &&& (31 : Int32)))), .val (.int (q &&& (7 : Int32))), .val (.int (fill.toInt8.toInt32)), .val (.ref b30), .val (.int (own_n (ushrI (a &&& (2147483647 : Int32)) (sft &&& (31 : Int32))))), .val (.int ((q &&& (7 : Int32)) + own_n (ushrI (a &&& (2147483647 : Int32)) (sft &&& (31 : Int32)))))] [(.int (1 : Int32))])
  refine r_if0_eq X83.here hx (hb hby at_390) (by decide) (pc' := 433) (by decide) (pc2 := 393) rfl (fun hc390 => absurd hc390 (by decide)) (fun hc390 => ?_)
  refine r_aload X83.here hx (hb hby at_393) rfl rfl (pc' := 395) rfl ?_
  refine r_bipush X83.here hx (hb hby at_395) (v := 14) rfl (pc' := 397) rfl ?_
  refine r_iload X83.here hx (hb hby at_397) rfl (pc' := 399) rfl ?_
  refine r_iload X83.here hx (hb hby at_399) rfl (pc' := 401) rfl ?_
  refine r_iload X83.here hx (hb hby at_401) rfl (pc' := 403) rfl ?_
  refine r_iload X83.here hx (hb hby at_403) rfl (pc' := 405) rfl ?_
  refine r_callS X83 hx hZ (y := (⟨"com/example/floe/floe/engine/GroupKeysPutLengthPinLaw", "at", "([BIIIIB)Z"⟩ : MethodName)) (rm := ({ frames := 0, cells := 0, slots := 0, locals := 0 } : Room)) hown (hw _ (List.mem_of_getElem? (i := 10) rfl)) (hw _ (List.mem_of_getElem? (i := 11) rfl)) (hw _ (List.mem_of_getElem? (i := 4) rfl)) (hw _ (List.mem_of_getElem? (i := 12) rfl)) (by decide) (rmA l Z a0 hw [] b30 (14 : Int32) (ushrI (a &&& (2147483647 : Int32)) (sft &&& (31 : Int32))) (q &&& (7 : Int32)) (own_n (ushrI (a &&& (2147483647 : Int32)) (sft &&& (31 : Int32)))) (fill.toInt8.toInt32) _ T68.heap n0 Z69 A68 (by decide) (by decide) rfl) e83 (by rw [hml]; rfl) (argsL := [(.ref b30), (.int (14 : Int32)), (.int (ushrI (a &&& (2147483647 : Int32)) (sft &&& (31 : Int32)))), (.int (q &&& (7 : Int32))), (.int (own_n (ushrI (a &&& (2147483647 : Int32)) (sft &&& (31 : Int32))))), (.int (fill.toInt8.toInt32))]) (rest := []) (lenOf pd_2 rfl) rfl rfl (W := 0) rfl (by decide) (by decide) (by decide) (by decide) (hb hby at_405) (pc' := 408) rfl ?_
  rintro v84 T84 L84 X84 ⟨rfl, Nq84, e84⟩
  have N84 := Fr.app N83 Nq84
  show Run p e below _ _ T84 (mkF m 408 #[.val (.int a), .val (.int sft), .val (.int q), .val (.int fill), .val (.int (ushrI (a &&& (2147483647 : Int32)) (sft &&& (31 : Int32)))), .val (.int (q &&& (7 : Int32))), .val (.int (fill.toInt8.toInt32)), .val (.ref b30), .val (.int (own_n (ushrI (a &&& (2147483647 : Int32)) (sft &&& (31 : Int32))))), .val (.int ((q &&& (7 : Int32)) + own_n (ushrI (a &&& (2147483647 : Int32)) (sft &&& (31 : Int32)))))] [(.int (1 : Int32))])
  refine r_if0_eq X84.here hx (hb hby at_408) (by decide) (pc' := 433) (by decide) (pc2 := 411) rfl (fun hc408 => absurd hc408 (by decide)) (fun hc408 => ?_)
  refine r_aload X84.here hx (hb hby at_411) rfl rfl (pc' := 413) rfl ?_
  refine r_bipush X84.here hx (hb hby at_413) (v := 15) rfl (pc' := 415) rfl ?_
  refine r_iload X84.here hx (hb hby at_415) rfl (pc' := 417) rfl ?_
  refine r_iload X84.here hx (hb hby at_417) rfl (pc' := 419) rfl ?_
  refine r_iload X84.here hx (hb hby at_419) rfl (pc' := 421) rfl ?_
  refine r_iload X84.here hx (hb hby at_421) rfl (pc' := 423) rfl ?_
  refine r_callS X84 hx hZ (y := (⟨"com/example/floe/floe/engine/GroupKeysPutLengthPinLaw", "at", "([BIIIIB)Z"⟩ : MethodName)) (rm := ({ frames := 0, cells := 0, slots := 0, locals := 0 } : Room)) hown (hw _ (List.mem_of_getElem? (i := 10) rfl)) (hw _ (List.mem_of_getElem? (i := 11) rfl)) (hw _ (List.mem_of_getElem? (i := 4) rfl)) (hw _ (List.mem_of_getElem? (i := 12) rfl)) (by decide) (rmA l Z a0 hw [] b30 (15 : Int32) (ushrI (a &&& (2147483647 : Int32)) (sft &&& (31 : Int32))) (q &&& (7 : Int32)) (own_n (ushrI (a &&& (2147483647 : Int32)) (sft &&& (31 : Int32)))) (fill.toInt8.toInt32) _ T68.heap n0 Z69 A68 (by decide) (by decide) rfl) e84 (by rw [hml]; rfl) (argsL := [(.ref b30), (.int (15 : Int32)), (.int (ushrI (a &&& (2147483647 : Int32)) (sft &&& (31 : Int32)))), (.int (q &&& (7 : Int32))), (.int (own_n (ushrI (a &&& (2147483647 : Int32)) (sft &&& (31 : Int32))))), (.int (fill.toInt8.toInt32))]) (rest := []) (lenOf pd_2 rfl) rfl rfl (W := 0) rfl (by decide) (by decide) (by decide) (by decide) (hb hby at_423) (pc' := 426) rfl ?_
  rintro v85 T85 L85 X85 ⟨rfl, Nq85, e85⟩
  have N85 := Fr.app N84 Nq85
  show Run p e below _ _ T85 (mkF m 426 #[.val (.int a), .val (.int sft), .val (.int q), .val (.int fill), .val (.int (ushrI (a &&& (2147483647 : Int32)) (sft &&& (31 : Int32)))), .val (.int (q &&& (7 : Int32))), .val (.int (fill.toInt8.toInt32)), .val (.ref b30), .val (.int (own_n (ushrI (a &&& (2147483647 : Int32)) (sft &&& (31 : Int32))))), .val (.int ((q &&& (7 : Int32)) + own_n (ushrI (a &&& (2147483647 : Int32)) (sft &&& (31 : Int32)))))] [(.int (1 : Int32))])
  refine r_if0_eq X85.here hx (hb hby at_426) (by decide) (pc' := 433) (by decide) (pc2 := 429) rfl (fun hc426 => absurd hc426 (by decide)) (fun hc426 => ?_)
  refine r_iconst X85.here hx (hb hby at_429) (v := 1) rfl (pc' := 430) rfl ?_
  refine r_goto X85.here hx (hb hby at_430) (by decide) (pc' := 434) (by decide) ?_
  refine r_retN X85 hx hlk hret (by simp) (hb hby at_434) (w := (1 : Int32)) rfl ?_ (by decide) (by decide)
  try rw [e85]
  exact ⟨rfl, N85⟩
set_option maxRecDepth 65536 in
set_option maxHeartbeats 40000000 in
theorem comes_1 {Post : Tables → Env → Array Value → State → Outcome → State → Prop} (hpost : ∀ tb e args s v u, (limb_1_1.after args s (.returned v) u = true ∧ limb_1_2.after args s (.returned v) u = true ∧ True) → FrameEnd s (.returned v) u (Jvm.fieldLocs frame_1_writes args s ++ Jvm.arrayLocs frame_1_arrays args s ++ Jvm.staticLocs frame_1_statics s) 16 128 → Post tb e args s (.returned v) u) :
    ArmFor flags0 classFile x code maxLocals ret World_1 tables_1 room_1 Calls_1 rest_1 Pre_1 Post := by
  intro l hfl _ _ p e ha hc hk s m args below hf hA hF happ hP
  obtain ⟨hcalls, hrest, hpre⟩ := hP
  obtain ⟨-, -, -, hnamed, -, -, -, hat⟩ := (Spec.applies_iff hf).mp happ
  obtain ⟨hg, hn⟩ := and_e (Cond.before_iff.mp (show (Jvm.Cond.and given_1 narrow_1).before args s = true from hpre))
  obtain ⟨h1, g0⟩ := and_e hg
  obtain ⟨q0, g1⟩ := and_e g0
  obtain ⟨q1, g2⟩ := and_e g1
  obtain ⟨q2, g3⟩ := and_e g2
  have q3 := g3
  obtain ⟨w0, w1, w2, w3, rfl⟩ : ∃ w0 w1 w2 w3 : Value, args = #[w0, w1, w2, w3] := by
    have hs : args.size = 4 := by simpa [Cond.value, given_1] using h1
    obtain ⟨L⟩ := args
    match L, hs with
    | [w0, w1, w2, w3], _ => exact ⟨w0, w1, w2, w3, rfl⟩
  have hw := fun d (hd : d ∈ tables_1) => atoms_spec (ws := Jvm.Cond.code x code maxLocals ret :: tables_1) hat d (List.mem_cons_of_mem _ hd)
  have hfit : Fit s := fun {y c} hc i hi => by
    obtain ⟨ha, rfl⟩ := Array.getElem?_eq_some_iff.mp hc
    have q := List.all_eq_true.mp ((Array.all_eq_true_iff_forall_mem.mp hF) _ (Array.getElem_mem ha)) i (List.mem_range.mpr hi)
    simpa [Array.getElem?_eq_getElem hi] using q
  obtain ⟨i0, e0⟩ := is_v q0
  obtain rfl : w0 = (.int i0) := Option.some.inj e0
  obtain ⟨i1, e1⟩ := is_v q1
  obtain rfl : w1 = (.int i1) := Option.some.inj e1
  obtain ⟨i2, e2⟩ := is_v q2
  obtain rfl : w2 = (.int i2) := Option.some.inj e2
  obtain ⟨i3, e3⟩ := is_v q3
  obtain rfl : w3 = (.int i3) := Option.some.inj e3
  obtain ⟨n, o, h1, h2, h3, _, L, rfl, ⟨rfl, N⟩, hq⟩ := rm0 l s _ hw tables_1 i0 i1 i2 i3  s.heap s.heap.size (Nat.le_refl _)  p e ha hc hk s m _ below hf ((Spec.applies_iff_loose hf).mp happ).1 ⟨rfl, State.Warmed39.refl s, rfl⟩ trivial
  refine ⟨n, _, h1, h2, h3, hpost _ _ _ _ _ _ ⟨Cond.after_iff.mpr rfl, Cond.after_iff.mpr (eq_i res_at (Term.int_eval (1)) rfl), trivial⟩ ⟨hq.1, hq.2.1, (hq.2.2.sift fun y hy => Or.inr (N y hy)).mono (by decide) (by decide)⟩⟩
theorem main_1_1 : Claimed_1_1 := comes_1 fun _ _ _ _ _ _ h hF => ⟨h.1, hF⟩
theorem main_1_2 : Claimed_1_2 := comes_1 fun _ _ _ _ _ _ h hF => ⟨h.2.1, hF⟩
end Jvm.Pilot.@@N@@
namespace Jvm.Pilot.@@N@@
open Jvm Jvm.ClassFile Sem Op Lib Jvm.Free Jvm.Stand Jvm.Pilot.@@N@@.Jvm.D
/-! MADE BY PROGRAM (witnessworld.py) out of the Statement's table words and the real class files: 9 classes; the members and pool entries that the words name. The judged class is class 1, her method 1. -/
namespace start1
open Jvm.ClassFile
def u (s : String) : CpInfo := .utf8 (stringToUtf16 s)
/-- a pool by its gaps: so many unusable entries, then the entry; so many at the end -/
def gap : Nat → List CpInfo → List CpInfo
  | 0, r => r
  | n + 1, r => .unusable :: gap n r
def poolList (es : List (Nat × CpInfo)) (last : Nat) : List CpInfo := es.foldr (fun e r => gap e.1 (e.2 :: r)) (gap last [])
def pool (es : List (Nat × CpInfo)) (last : Nat) : Array CpInfo := ⟨poolList es last⟩
def fileOf (pool : Array CpInfo) (this : Nat) (attrs : Array Attribute := #[]) (ms : Array MethodInfo := #[]) (fl : Nat := 33) (sup : Nat := 0) (ifs : Array Nat := #[]) (fds : Array FieldInfo := #[]) : ClassFile where
  minorVersion := 0
  majorVersion := 65
  constantPool := pool
  accessFlags := fl
  thisClass := this
  superClass := sup
  interfaces := ifs
  fields := fds
  methods := ms
  attributes := attrs
def plain (name : String) (sup : Option ClassId) : Class where
  name := name
  kind := .ordinary
  loader := none
  accessFlags := 33
  super := sup
  interfaces := #[]
  cf := none
  fields := #[]
  methods := #[]
  instanceTypes := #[]
  staticTypes := #[]
  resolved := #[]
  callSites := []
  init := .initialized
  statics := none
  mirror := none

def pool0 : Array CpInfo := pool [(5, u "<init>"), (0, u "()V"), (1, .class_ 10), (1, u "java/lang/Object")] 113

def k0m0 : Method := { name := "<init>", desc := "()V", sig := { parameters := [], returnType := none }, accessFlags := 1, code := none }
/-- java/lang/Object -/
def k0 : Class := { plain "java/lang/Object" none with
  accessFlags := 33
  interfaces := #[]
  cf := some (fileOf pool0 8 #[] #[{ accessFlags := 1, nameIndex := 5, descriptorIndex := 6, attributes := #[] }] 33 0 #[] #[])
  fields := #[]
  methods := #[k0m0]
  instanceTypes := #[]
  staticTypes := #[]
  resolved := Array.replicate 124 none
  statics := none }

def pool1 : Array CpInfo := pool [(2, .class_ 4), (1, u "java/lang/Object"), (0, u "<init>"), (0, u "()V"), (0, .integer 2147483647), (0, .methodref 9 10), (0, .class_ 11), (0, .nameAndType 12 13), (0, u "com/example/floe/floe/engine/GroupKeysPutLengthPinLaw"), (0, u "size"), (0, u "(I)I"), (0, .methodref 15 16), (0, .class_ 17), (0, .nameAndType 18 19), (0, u "com/example/floe/floe/engine/GroupKeys"), (0, u "putLength"), (0, u "([BII)I"), (0, .methodref 9 21), (0, .nameAndType 22 23), (0, u "at"), (0, u "([BIIIIB)Z"), (0, .integer 2097152), (0, .integer 268435456), (2, u "law"), (0, u "(IIII)Z")] 5

def k1m0 : Method := { name := "<init>", desc := "()V", sig := { parameters := [], returnType := none }, accessFlags := 2, code := none }
def k1c1 : Code := { maxStack := 6, maxLocals := 10, code := code, exceptionTable := #[], attributes := #[] }
def k1m1 : Method := { name := "law", desc := "(IIII)Z", sig := { parameters := [.int, .int, .int, .int], returnType := some .boolean }, accessFlags := 9, code := some k1c1 }
def k1c2 : Code := { maxStack := 2, maxLocals := 1, code := method_3_code, exceptionTable := #[], attributes := #[] }
def k1m2 : Method := { name := "size", desc := "(I)I", sig := { parameters := [.int], returnType := some .int }, accessFlags := 10, code := some k1c2 }
def k1c3 : Code := { maxStack := 3, maxLocals := 9, code := method_4_code, exceptionTable := #[], attributes := #[] }
def k1m3 : Method := { name := "at", desc := "([BIIIIB)Z", sig := { parameters := [(.array .byte), .int, .int, .int, .int, .byte], returnType := some .boolean }, accessFlags := 10, code := some k1c3 }
/-- com/example/floe/floe/engine/GroupKeysPutLengthPinLaw -/
def k1 : Class := { plain "com/example/floe/floe/engine/GroupKeysPutLengthPinLaw" (some 0) with
  accessFlags := 49
  interfaces := #[]
  cf := some (fileOf pool1 9 #[] #[{ accessFlags := 2, nameIndex := 5, descriptorIndex := 6, attributes := #[] }, { accessFlags := 9, nameIndex := 28, descriptorIndex := 29, attributes := #[] }, { accessFlags := 10, nameIndex := 12, descriptorIndex := 13, attributes := #[] }, { accessFlags := 10, nameIndex := 22, descriptorIndex := 23, attributes := #[] }] 49 2 #[] #[])
  fields := #[]
  methods := #[k1m0, k1m1, k1m2, k1m3]
  instanceTypes := #[]
  staticTypes := #[]
  resolved := Array.replicate 35 none
  statics := none }

def pool2 : Array CpInfo := pool [(2, .class_ 4), (1, u "java/lang/Object"), (0, u "<init>"), (0, u "()V"), (15, .class_ 24), (1, u "com/example/floe/floe/engine/GroupKeys"), (0, u "putLength"), (0, u "([BII)I"), (20, u "LONGS"), (0, u "Ljava/lang/invoke/VarHandle;")] 67

def k2m0 : Method := { name := "<init>", desc := "()V", sig := { parameters := [], returnType := none }, accessFlags := 2, code := none }
def k2c1 : Code := { maxStack := 4, maxLocals := 5, code := prog_12_method_7_code, exceptionTable := #[], attributes := #[] }
def k2m1 : Method := { name := "putLength", desc := "([BII)I", sig := { parameters := [(.array .byte), .int, .int], returnType := some .int }, accessFlags := 8, code := some k2c1 }
/-- com/example/floe/floe/engine/GroupKeys -/
def k2 : Class := { plain "com/example/floe/floe/engine/GroupKeys" (some 0) with
  accessFlags := 48
  interfaces := #[]
  cf := some (fileOf pool2 22 #[] #[{ accessFlags := 2, nameIndex := 5, descriptorIndex := 6, attributes := #[] }, { accessFlags := 8, nameIndex := 25, descriptorIndex := 26, attributes := #[] }] 48 2 #[] #[{ accessFlags := 26, nameIndex := 47, descriptorIndex := 48, attributes := #[] }])
  fields := #[{ name := "LONGS", type := (.object "java/lang/invoke/VarHandle"), accessFlags := 26, slot := 0, constantValue := 0 }]
  methods := #[k2m0, k2m1]
  instanceTypes := #[]
  staticTypes := #[(.object "java/lang/invoke/VarHandle")]
  resolved := Array.replicate 116 none
  statics := none }

def pool3 : Array CpInfo := pool [(1, u "java/lang/Cloneable"), (0, .class_ 1), (0, u "java/lang/Object"), (0, .class_ 3)] 3

/-- java/lang/Cloneable -/
def k3 : Class := { plain "java/lang/Cloneable" (some 0) with
  accessFlags := 1537
  interfaces := #[]
  cf := some (fileOf pool3 2 #[] #[] 1537 4 #[] #[])
  fields := #[]
  methods := #[]
  instanceTypes := #[]
  staticTypes := #[]
  resolved := Array.replicate 8 none
  statics := none }

def pool4 : Array CpInfo := pool [(1, u "java/io/Serializable"), (0, .class_ 1), (0, u "java/lang/Object"), (0, .class_ 3)] 3

/-- java/io/Serializable -/
def k4 : Class := { plain "java/io/Serializable" (some 0) with
  accessFlags := 1537
  interfaces := #[]
  cf := some (fileOf pool4 2 #[] #[] 1537 4 #[] #[])
  fields := #[]
  methods := #[]
  instanceTypes := #[]
  staticTypes := #[]
  resolved := Array.replicate 8 none
  statics := none }

/-- the primitive byte -/
def k5 : Class := { plain "byte" none with kind := .primitive 'B', accessFlags := 0x411 }
/-- [B -/
def k6 : Class := { plain "[B" (some 0) with kind := .array 5 .byte, interfaces := #[3, 4], accessFlags := 1041 }

/-- the primitive int -/
def k7 : Class := { plain "int" none with kind := .primitive 'I', accessFlags := 0x411 }
/-- [I -/
def k8 : Class := { plain "[I" (some 0) with kind := .array 7 .int, interfaces := #[3, 4], accessFlags := 1041 }

def heap : Heap := #[]
def classes : Array Class := #[k0, k1, k2, k3, k4, k5, k6, k7, k8]
def interned : List (Array UInt16 × Addr) := []
def slotsUsed : Nat := 0
def theMethod : MethodId := ⟨1, 1⟩
def args0 : Array Value := #[.int 500, .int 0, .int 3, .int 9]
def aboutOver (below : List Frame) : State where
  vm := { classes := classes, interned := interned.toArray }
  heap := heap
  slotsUsed := slotsUsed
  threads := #[{ frames := .invoking theMethod args0 :: below }]
def below0 : List Frame := [.native { method := ⟨0, 0⟩, args := #[] }]
def about1 : State := aboutOver below0
def p0 : Program := .bare "" "" ""
def e0 : Env := launch0.env 0 0 0
theorem w_frames : about1.frames = Frame.invoking theMethod args0 :: below0 := rfl
set_option maxRecDepth 65536 in
theorem w_args : argsFit about1.vm theMethod args0 = true := by decide +kernel
set_option maxRecDepth 65536 in
theorem w_heap : heapFits about1 = true := by decide +kernel
set_option maxRecDepth 65536 in
theorem w_runnable : about1.curStatus? = some .runnable := by decide +kernel
set_option maxRecDepth 65536 in
theorem w_alone : about1.alone = true := by decide +kernel
set_option maxRecDepth 65536 in
theorem w_named : about1.methodNamed? x = some theMethod := by decide +kernel
set_option maxRecDepth 65536 in
theorem w_hears : about1.hears theMethod below0 = true := by decide +kernel
set_option maxRecDepth 65536 in
theorem w_ripe : about1.ripe theMethod args0 below0 = true := by decide +kernel
theorem w_running : about1.status = .running := rfl
set_option maxRecDepth 65536 in
theorem w_room : about1.hasRoom e0.platform room_1 = true :=
  launch0.hasRoom_least _ room_1 (by decide +kernel) (by decide +kernel) (by decide +kernel) (by decide +kernel) (by decide +kernel) (by decide +kernel)
theorem allAtoms_all (ts : List Jvm.Cond) (a : Array Jvm.Value) (st : Jvm.State) : (allAtoms ts).before a st = ts.all (fun c => c.before a st) := by
  induction ts with
  | nil => rfl
  | cons c t ih =>
    show (Jvm.Cond.and c (allAtoms t)).before a st = _
    rw [Jvm.Cond.before_and, ih, List.all_cons]
def words1 : List Jvm.Cond := Jvm.Cond.code x code maxLocals ret :: tables_1
/-- a 'code' word, met by the world's own term for the bytes: nothing is compared byte by byte -/
theorem code_word {y : MethodName} {bytes : ByteArray} {mx : Nat} {rt : Option FieldType} {a : Array Value} {s : State} {m : MethodId} {meth : Method} {c : Code} (h1 : s.methodNamed? y = some m) (h2 : s.vm.method? m = some meth) (h3 : meth.code = some c) (h4 : c.code = bytes)
    (h5 : (c.maxLocals == mx && c.exceptionTable.isEmpty && decide (c.maxStack ≤ mostOperands) && decide (meth.sig.returnType = rt) && !meth.locks && decide (parseMethodDescriptor y.desc = some meth.sig)) = true) : (Jvm.Cond.code y bytes mx rt).before a s = true := by
  simp only [Bool.and_eq_true, beq_iff_eq, Bool.not_eq_true', decide_eq_true_eq] at h5
  obtain ⟨⟨⟨⟨⟨g1, g2⟩, g3⟩, g4⟩, g5⟩, g6⟩ := h5
  simp [Cond.before, Cond.holds, Cond.value, h1, h2, h3, h4, g1, g2, g3, g4, g5, g6]
def isCode : Jvm.Cond → Bool
  | .code _ _ _ _ => true
  | _ => false
theorem all_split {L : List Jvm.Cond} {P : Jvm.Cond → Bool} (h1 : L.all (fun c => isCode c || P c) = true) (h2 : ∀ c ∈ L.filter isCode, P c = true) : L.all P = true := by
  refine List.all_eq_true.mpr fun c hc => ?_
  have h := List.all_eq_true.mp h1 c hc
  rcases Bool.eq_false_or_eq_true (isCode c) with hi | hi
  · exact h2 c (List.mem_filter.mpr ⟨hc, hi⟩)
  · simpa [hi] using h
set_option maxRecDepth 65536 in
theorem w_c0 : (Jvm.Cond.code x code maxLocals ret).before args0 about1 = true := code_word (m := ⟨1, 1⟩) (meth := k1m1) (c := k1c1) (by decide +kernel) rfl rfl rfl (by decide +kernel)
set_option maxRecDepth 65536 in
theorem w_c1 : (Jvm.Cond.code ({ cls := "com/example/floe/floe/engine/GroupKeysPutLengthPinLaw", name := "size", desc := "(I)I" } : Jvm.MethodName) method_3_code (1 : Nat) (Option.some Jvm.ClassFile.FieldType.int)).before args0 about1 = true := code_word (m := ⟨1, 2⟩) (meth := k1m2) (c := k1c2) (by decide +kernel) rfl rfl rfl (by decide +kernel)
set_option maxRecDepth 65536 in
theorem w_c2 : (Jvm.Cond.code ({ cls := "com/example/floe/floe/engine/GroupKeys", name := "putLength", desc := "([BII)I" } : Jvm.MethodName) prog_12_method_7_code (5 : Nat) (Option.some Jvm.ClassFile.FieldType.int)).before args0 about1 = true := code_word (m := ⟨2, 1⟩) (meth := k2m1) (c := k2c1) (by decide +kernel) rfl rfl rfl (by decide +kernel)
set_option maxRecDepth 65536 in
theorem w_c3 : (Jvm.Cond.code ({ cls := "com/example/floe/floe/engine/GroupKeysPutLengthPinLaw", name := "at", desc := "([BIIIIB)Z" } : Jvm.MethodName) method_4_code (9 : Nat) (Option.some Jvm.ClassFile.FieldType.boolean)).before args0 about1 = true := code_word (m := ⟨1, 3⟩) (meth := k1m3) (c := k1c3) (by decide +kernel) rfl rfl rfl (by decide +kernel)
def codes1 : List Jvm.Cond := [Jvm.Cond.code x code maxLocals ret, Jvm.Cond.code ({ cls := "com/example/floe/floe/engine/GroupKeysPutLengthPinLaw", name := "size", desc := "(I)I" } : Jvm.MethodName) method_3_code (1 : Nat) (Option.some Jvm.ClassFile.FieldType.int), Jvm.Cond.code ({ cls := "com/example/floe/floe/engine/GroupKeys", name := "putLength", desc := "([BII)I" } : Jvm.MethodName) prog_12_method_7_code (5 : Nat) (Option.some Jvm.ClassFile.FieldType.int), Jvm.Cond.code ({ cls := "com/example/floe/floe/engine/GroupKeysPutLengthPinLaw", name := "at", desc := "([BIIIIB)Z" } : Jvm.MethodName) method_4_code (9 : Nat) (Option.some Jvm.ClassFile.FieldType.boolean)]
set_option maxRecDepth 65536 in
theorem codes_eq : words1.filter isCode = codes1 := rfl
theorem w_codes : ∀ c ∈ words1.filter isCode, c.before args0 about1 = true := by
  rw [codes_eq]
  intro c hc
  simp only [codes1, List.mem_cons, List.not_mem_nil, or_false] at hc
  rcases hc with rfl | rfl | rfl | rfl
  · exact w_c0
  · exact w_c1
  · exact w_c2
  · exact w_c3
set_option maxRecDepth 65536 in
theorem w_t1 : words1.all (fun c => isCode c || c.before args0 about1) = true := by decide +kernel
theorem w_tables : (allAtoms (Jvm.Cond.code x code maxLocals ret :: tables_1)).before args0 about1 = true := by
  rw [allAtoms_all]
  show words1.all (fun c => c.before args0 about1) = true
  refine all_split ?_ w_codes
  rw [w_t1]
set_option maxRecDepth 65536 in
theorem w_case : (Jvm.Cond.and given_1 narrow_1).before args0 about1 = true := by decide +kernel
theorem w_applies : (headSpec (Jvm.Cond.code x code maxLocals ret :: tables_1) room_1).applies x e0.platform about1 = true :=
  (Spec.applies_iff w_frames).mpr ⟨w_running, w_runnable, w_alone, w_named, w_hears, w_ripe, w_room, w_tables⟩
theorem atStart : AtStart classFile x code maxLocals ret World_1 tables_1 room_1 Calls_1 rest_1 Pre_1 launch0 p0 e0 about1 theMethod args0 below0 :=
  ⟨lists_1, trivial, launch0.admits_env _ _ _, launch0.least_env, fairChoices_fair.cas, fairChoices_fair.clock, w_frames, w_args, w_heap, w_applies, trivial, trivial, w_case⟩
end start1
theorem witness_1 : WitnessClaimed_1 := ⟨start1.p0, start1.e0, start1.about1, start1.theMethod, start1.args0, start1.below0, start1.atStart⟩
end Jvm.Pilot.@@N@@
