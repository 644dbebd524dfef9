import JvmDerived
import JvmDerived.Pilot.@@N@@Statement
import JvmDerived.Pilot.@@N@@Code
set_option linter.unusedVariables false
set_option linter.unusedSimpArgs false
namespace Jvm.Pilot.@@N@@
open Jvm Jvm.ClassFile Sem Op Lib Jvm.Free Jvm.Stand Jvm.LawKit Jvm.RoadKit Bundle Jvm.Pilot.@@N@@.Jvm.D
section Core
variable {p : Program} {l : Launch} {e : Env} {R : Room} {s : State} {m : MethodId} {args : Array Value} {below : List Frame} {meth : Method} {c : Code} {T T' : State} {locs : List Loc} {cells slots : Nat} {Q : Option Value → Heap → List Loc → Prop} {En : Outcome → State → List Loc → Prop} {kc ks : Nat} {Z : State} {a0 : Array Value} {h : Heap} {Ls : Array Slot} {st rest : List Value} {pc pc' : Nat}
def ushrI (x y : Int32) : Int32 := (x.toUInt32 >>> (y &&& 31).toUInt32).toInt32
def ushrJ (x : Int64) (y : Int32) : Int64 := (x.toUInt64 >>> (y &&& 0x3f).toInt64.toUInt64).toInt64
def cmpJ (x y : Int64) : Int32 := if x > y then 1 else if x = y then 0 else -1
def Run (p : Program) (e : Env) (below : List Frame) (Q : Option Value → Heap → List Loc → Prop) (En : Outcome → State → List Loc → Prop) (T : State) (g : JFrame) : Prop :=
  ∃ s₂ o, Steps p.tables e below (T.setTop g) s₂ ∧ s₂.status = .running ∧ Ended s₂ below o ∧ ∃ v L, o = .returned v ∧ Q v s₂.heap L ∧ En o s₂ L
theorem Run.on {g g' : JFrame} (r : Run p e below Q En T' g') (q : ∀ t, Steps p.tables e below (T'.setTop g') t → Steps p.tables e below (T.setTop g) t) : Run p e below Q En T g := by
  obtain ⟨s₂, o, h1, r⟩ := r
  exact ⟨s₂, o, q _ h1, r⟩
theorem Run.cast {g g' : JFrame} (q : g = g') (r : Run p e below Q En T g') : Run p e below Q En T g := q ▸ r
abbrev Met (l : Launch) (Z : State) (y : MethodName) (bytes : ByteArray) (maxL : Nat) (ret : Option FieldType) (ws : List Jvm.Cond) (rm : Room) (as' : Array Value) (h0 : Heap) (Q : Option Value → Heap → List Loc → Prop) (kc ks : Nat) : Prop :=
  MetFree l y (head1 (Jvm.Cond.code y bytes maxL ret :: ws) rm) (fun a U => a = as' ∧ Z.Warmed39 U.vm ∧ U.heap = h0) (fun _ _ _ _ _ => True) (fun _ U o U' => ∃ v L, o = .returned v ∧ Q v U'.heap L ∧ FrameEnd U o U' L kc ks)
theorem met_of {y : MethodName} {bytes : ByteArray} {maxL : Nat} {ret : Option FieldType} {ws : List Jvm.Cond} {rm : Room} {as' : Array Value} {h0 : Heap} {Q : Option Value → Heap → List Loc → Prop} {kc ks : Nat} {f0 : MethodId → JFrame} (hpn : plainFor y = true)
    (hef : ∀ m, entryFrame m as' maxL = f0 m)
    (body : ∀ (p : Program) (e : Env) (s : State) (m : MethodId) (below : List Frame) (meth : Method) (c : Code) (s₁ : State), Stand p l e rm s m as' below meth c s₁ [] 0 0 → p.tables.exec = Jvm.exec → c.code = bytes → c.maxLocals = maxL → meth.sig.returnType = ret → meth.locks = false → s.vm.findClass y.cls = some m.cls → meth.name = y.name → Z.Warmed39 s.vm → s₁.heap = h0 → Run p e below Q (fun o t L => FrameEnd s o t L kc ks) s₁ (f0 m)) :
    Met l Z y bytes maxL ret ws rm as' h0 Q kc ks := by
  refine MetFree.of_bodySF (code := bytes) (maxLocals := maxL) (ret := ret) hpn hisR ?_
  intro p e s m args below meth c s₁ Bd hml0 hP hK
  obtain ⟨rfl, hZ, hh⟩ := hP
  obtain ⟨s₂, o, r⟩ := body p e s m below meth c s₁ (Stand.of_body Bd) Bd.exec Bd.bytes hml0 Bd.returns (BodyLoose.notSynchronized Bd) (findClass_of_methodNamed Bd.named) (name_of_methodNamed Bd.named Bd.method).1 hZ (by rw [← hh, Bd.state]; rfl)
  rw [hef m]
  exact ⟨s₂, o, r⟩
theorem r_aloadN (at_ : At T m c below) (hx : p.tables.exec = Jvm.exec) {k : Fin 4} {v : Value} (hd : decode c.code pc = .ok (.aload_n k, 1)) (hl : Ls[k.val]? = some (.val v)) (hv : v.isRef = true) (hp : pc + 1 = pc') (r : Run p e below Q En T (mkF m pc' Ls (v :: rest))) : Run p e below Q En T (mkF m pc Ls (rest)) := by
  subst hp; exact r.on fun _ q => XS.aloadN at_ hx rfl hd hl hv q
theorem r_aload (at_ : At T m c below) (hx : p.tables.exec = Jvm.exec) {k : Nat} {v : Value} (hd : decode c.code pc = .ok (.aload k, 2)) (hl : Ls[k]? = some (.val v)) (hv : v.isRef = true) (hp : pc + 2 = pc') (r : Run p e below Q En T (mkF m pc' Ls (v :: rest))) : Run p e below Q En T (mkF m pc Ls (rest)) := by
  subst hp; exact r.on fun _ q => XS.aload at_ hx rfl hd hl hv q
theorem r_iloadN (at_ : At T m c below) (hx : p.tables.exec = Jvm.exec) {k : Fin 4} {v : Int32} (hd : decode c.code pc = .ok (.iload_n k, 1)) (hl : Ls[k.val]? = some (.val (.int v))) (hp : pc + 1 = pc') (r : Run p e below Q En T (mkF m pc' Ls (.int v :: rest))) : Run p e below Q En T (mkF m pc Ls (rest)) := by
  subst hp; exact r.on fun _ q => XS.iloadN at_ hx rfl hd hl q
theorem r_iload (at_ : At T m c below) (hx : p.tables.exec = Jvm.exec) {k : Nat} {v : Int32} (hd : decode c.code pc = .ok (.iload k, 2)) (hl : Ls[k]? = some (.val (.int v))) (hp : pc + 2 = pc') (r : Run p e below Q En T (mkF m pc' Ls (.int v :: rest))) : Run p e below Q En T (mkF m pc Ls (rest)) := by
  subst hp; exact r.on fun _ q => XS.iload at_ hx rfl hd hl q
theorem r_lloadN (at_ : At T m c below) (hx : p.tables.exec = Jvm.exec) {k : Fin 4} {v : Int64} (hd : decode c.code pc = .ok (.lload_n k, 1)) (hl : Ls[k.val]? = some (.val (.long v))) (hp : pc + 1 = pc') (r : Run p e below Q En T (mkF m pc' Ls (.long v :: rest))) : Run p e below Q En T (mkF m pc Ls (rest)) := by
  subst hp; exact r.on fun _ q => XS.lloadN at_ hx rfl hd hl q
theorem r_lload (at_ : At T m c below) (hx : p.tables.exec = Jvm.exec) {k : Nat} {v : Int64} (hd : decode c.code pc = .ok (.lload k, 2)) (hl : Ls[k]? = some (.val (.long v))) (hp : pc + 2 = pc') (r : Run p e below Q En T (mkF m pc' Ls (.long v :: rest))) : Run p e below Q En T (mkF m pc Ls (rest)) := by
  subst hp; exact r.on fun _ q => XS.lload at_ hx rfl hd hl q
theorem r_istoreN (at_ : At T m c below) (hx : p.tables.exec = Jvm.exec) {k : Fin 4} {x : Int32} {l' : Array Slot} (hd : decode c.code pc = .ok (.istore_n k, 1)) (hl : storeLocals Ls k.val (.int x) = some l') (hp : pc + 1 = pc') (r : Run p e below Q En T (mkF m pc' l' (rest))) : Run p e below Q En T (mkF m pc Ls (.int x :: rest)) := by
  subst hp; exact r.on fun _ q => XS.istoreN at_ hx rfl hd rfl hl q
theorem r_istore (at_ : At T m c below) (hx : p.tables.exec = Jvm.exec) {k : Nat} {x : Int32} {l' : Array Slot} (hd : decode c.code pc = .ok (.istore k, 2)) (hl : storeLocals Ls k (.int x) = some l') (hp : pc + 2 = pc') (r : Run p e below Q En T (mkF m pc' l' (rest))) : Run p e below Q En T (mkF m pc Ls (.int x :: rest)) := by
  subst hp; exact r.on fun _ q => XS.istore at_ hx rfl hd rfl hl q
theorem r_lstoreN (at_ : At T m c below) (hx : p.tables.exec = Jvm.exec) {k : Fin 4} {x : Int64} {l' : Array Slot} (hd : decode c.code pc = .ok (.lstore_n k, 1)) (hl : storeLocals Ls k.val (.long x) = some l') (hp : pc + 1 = pc') (r : Run p e below Q En T (mkF m pc' l' (rest))) : Run p e below Q En T (mkF m pc Ls (.long x :: rest)) := by
  subst hp; exact r.on fun _ q => XS.lstoreN at_ hx rfl hd rfl hl q
theorem r_lstore (at_ : At T m c below) (hx : p.tables.exec = Jvm.exec) {k : Nat} {x : Int64} {l' : Array Slot} (hd : decode c.code pc = .ok (.lstore k, 2)) (hl : storeLocals Ls k (.long x) = some l') (hp : pc + 2 = pc') (r : Run p e below Q En T (mkF m pc' l' (rest))) : Run p e below Q En T (mkF m pc Ls (.long x :: rest)) := by
  subst hp; exact r.on fun _ q => XS.lstore at_ hx rfl hd rfl hl q
theorem r_astoreN (at_ : At T m c below) (hx : p.tables.exec = Jvm.exec) {k : Fin 4} {x : Value} {l' : Array Slot} (hd : decode c.code pc = .ok (.astore_n k, 1)) (hv : x.isRef = true) (hl : storeLocals Ls k.val x = some l') (hp : pc + 1 = pc') (r : Run p e below Q En T (mkF m pc' l' (rest))) : Run p e below Q En T (mkF m pc Ls (x :: rest)) := by
  subst hp; exact r.on fun _ q => XS.astoreN at_ hx rfl hd rfl hv hl q
theorem r_astore (at_ : At T m c below) (hx : p.tables.exec = Jvm.exec) {k : Nat} {x : Value} {l' : Array Slot} (hd : decode c.code pc = .ok (.astore k, 2)) (hv : x.isRef = true) (hl : storeLocals Ls k x = some l') (hp : pc + 2 = pc') (r : Run p e below Q En T (mkF m pc' l' (rest))) : Run p e below Q En T (mkF m pc Ls (x :: rest)) := by
  subst hp; exact r.on fun _ q => XS.astore at_ hx rfl hd rfl hv hl q
theorem r_iconst (at_ : At T m c below) (hx : p.tables.exec = Jvm.exec) {i : Int} {v : Int32} (hd : decode c.code pc = .ok (.iconst i, 1)) (hv : Int32.ofInt i = v) (hp : pc + 1 = pc') (r : Run p e below Q En T (mkF m pc' Ls (.int v :: rest))) : Run p e below Q En T (mkF m pc Ls rest) := by
  subst hp hv; exact r.on fun _ q => XS.iconst at_ hx rfl hd q
theorem r_bipush (at_ : At T m c below) (hx : p.tables.exec = Jvm.exec) {i : Int} {v : Int32} (hd : decode c.code pc = .ok (.bipush i, 2)) (hv : (Int8.ofInt i).toInt32 = v) (hp : pc + 2 = pc') (r : Run p e below Q En T (mkF m pc' Ls (.int v :: rest))) : Run p e below Q En T (mkF m pc Ls rest) := by
  subst hp hv; exact r.on fun _ q => XS.bipush at_ hx rfl hd q
theorem r_sipush (at_ : At T m c below) (hx : p.tables.exec = Jvm.exec) {i : Int} {v : Int32} (hd : decode c.code pc = .ok (.sipush i, 3)) (hv : (Int16.ofInt i).toInt32 = v) (hp : pc + 3 = pc') (r : Run p e below Q En T (mkF m pc' Ls (.int v :: rest))) : Run p e below Q En T (mkF m pc Ls rest) := by
  subst hp hv; exact r.on fun _ q => XS.sipush at_ hx rfl hd q
theorem r_lconst (at_ : At T m c below) (hx : p.tables.exec = Jvm.exec) {k : Fin 2} {v : Int64} (hd : decode c.code pc = .ok (.lconst k, 1)) (hv : Int64.ofNat k = v) (hp : pc + 1 = pc') (r : Run p e below Q En T (mkF m pc' Ls (.long v :: rest))) : Run p e below Q En T (mkF m pc Ls rest) := by
  subst hp hv; exact r.on fun _ q => XS.lconst at_ hx rfl hd q
theorem r_aconst_null (at_ : At T m c below) (hx : p.tables.exec = Jvm.exec)  (hd : decode c.code pc = .ok (.aconst_null, 1))  (hp : pc + 1 = pc') (r : Run p e below Q En T (mkF m pc' Ls (.null :: rest))) : Run p e below Q En T (mkF m pc Ls (rest)) := by
  subst hp; exact r.on fun _ q => XS.aconstNull at_ hx rfl hd  q
theorem r_iadd (at_ : At T m c below) (hx : p.tables.exec = Jvm.exec) {x y : Int32} (hd : decode c.code pc = .ok (.iadd, 1))  (hp : pc + 1 = pc') (r : Run p e below Q En T (mkF m pc' Ls (.int (x + y) :: rest))) : Run p e below Q En T (mkF m pc Ls (.int y :: .int x :: rest)) := by
  subst hp; exact r.on fun _ q => XS.iadd at_ hx rfl hd rfl q
theorem r_isub (at_ : At T m c below) (hx : p.tables.exec = Jvm.exec) {x y : Int32} (hd : decode c.code pc = .ok (.isub, 1))  (hp : pc + 1 = pc') (r : Run p e below Q En T (mkF m pc' Ls (.int (x - y) :: rest))) : Run p e below Q En T (mkF m pc Ls (.int y :: .int x :: rest)) := by
  subst hp; exact r.on fun _ q => XS.isub at_ hx rfl hd rfl q
theorem r_imul (at_ : At T m c below) (hx : p.tables.exec = Jvm.exec) {x y : Int32} (hd : decode c.code pc = .ok (.imul, 1))  (hp : pc + 1 = pc') (r : Run p e below Q En T (mkF m pc' Ls (.int (x * y) :: rest))) : Run p e below Q En T (mkF m pc Ls (.int y :: .int x :: rest)) := by
  subst hp; exact r.on fun _ q => XS.imul at_ hx rfl hd rfl q
theorem r_iand (at_ : At T m c below) (hx : p.tables.exec = Jvm.exec) {x y : Int32} (hd : decode c.code pc = .ok (.iand, 1))  (hp : pc + 1 = pc') (r : Run p e below Q En T (mkF m pc' Ls (.int (x &&& y) :: rest))) : Run p e below Q En T (mkF m pc Ls (.int y :: .int x :: rest)) := by
  subst hp; exact r.on fun _ q => XS.iand at_ hx rfl hd rfl q
theorem r_ior (at_ : At T m c below) (hx : p.tables.exec = Jvm.exec) {x y : Int32} (hd : decode c.code pc = .ok (.ior, 1))  (hp : pc + 1 = pc') (r : Run p e below Q En T (mkF m pc' Ls (.int (x ||| y) :: rest))) : Run p e below Q En T (mkF m pc Ls (.int y :: .int x :: rest)) := by
  subst hp; exact r.on fun _ q => XS.ior at_ hx rfl hd rfl q
theorem r_ixor (at_ : At T m c below) (hx : p.tables.exec = Jvm.exec) {x y : Int32} (hd : decode c.code pc = .ok (.ixor, 1))  (hp : pc + 1 = pc') (r : Run p e below Q En T (mkF m pc' Ls (.int (x ^^^ y) :: rest))) : Run p e below Q En T (mkF m pc Ls (.int y :: .int x :: rest)) := by
  subst hp; exact r.on fun _ q => XS.ixor at_ hx rfl hd rfl q
theorem r_ladd (at_ : At T m c below) (hx : p.tables.exec = Jvm.exec) {x y : Int64} (hd : decode c.code pc = .ok (.ladd, 1))  (hp : pc + 1 = pc') (r : Run p e below Q En T (mkF m pc' Ls (.long (x + y) :: rest))) : Run p e below Q En T (mkF m pc Ls (.long y :: .long x :: rest)) := by
  subst hp; exact r.on fun _ q => XS.ladd at_ hx rfl hd rfl q
theorem r_lsub (at_ : At T m c below) (hx : p.tables.exec = Jvm.exec) {x y : Int64} (hd : decode c.code pc = .ok (.lsub, 1))  (hp : pc + 1 = pc') (r : Run p e below Q En T (mkF m pc' Ls (.long (x - y) :: rest))) : Run p e below Q En T (mkF m pc Ls (.long y :: .long x :: rest)) := by
  subst hp; exact r.on fun _ q => XS.lsub at_ hx rfl hd rfl q
theorem r_lmul (at_ : At T m c below) (hx : p.tables.exec = Jvm.exec) {x y : Int64} (hd : decode c.code pc = .ok (.lmul, 1))  (hp : pc + 1 = pc') (r : Run p e below Q En T (mkF m pc' Ls (.long (x * y) :: rest))) : Run p e below Q En T (mkF m pc Ls (.long y :: .long x :: rest)) := by
  subst hp; exact r.on fun _ q => XS.lmul at_ hx rfl hd rfl q
theorem r_land (at_ : At T m c below) (hx : p.tables.exec = Jvm.exec) {x y : Int64} (hd : decode c.code pc = .ok (.land, 1))  (hp : pc + 1 = pc') (r : Run p e below Q En T (mkF m pc' Ls (.long (x &&& y) :: rest))) : Run p e below Q En T (mkF m pc Ls (.long y :: .long x :: rest)) := by
  subst hp; exact r.on fun _ q => XS.land at_ hx rfl hd rfl q
theorem r_lor (at_ : At T m c below) (hx : p.tables.exec = Jvm.exec) {x y : Int64} (hd : decode c.code pc = .ok (.lor, 1))  (hp : pc + 1 = pc') (r : Run p e below Q En T (mkF m pc' Ls (.long (x ||| y) :: rest))) : Run p e below Q En T (mkF m pc Ls (.long y :: .long x :: rest)) := by
  subst hp; exact r.on fun _ q => XS.lor at_ hx rfl hd rfl q
theorem r_lxor (at_ : At T m c below) (hx : p.tables.exec = Jvm.exec) {x y : Int64} (hd : decode c.code pc = .ok (.lxor, 1))  (hp : pc + 1 = pc') (r : Run p e below Q En T (mkF m pc' Ls (.long (x ^^^ y) :: rest))) : Run p e below Q En T (mkF m pc Ls (.long y :: .long x :: rest)) := by
  subst hp; exact r.on fun _ q => XS.lxor at_ hx rfl hd rfl q
theorem r_ineg (at_ : At T m c below) (hx : p.tables.exec = Jvm.exec) {x : Int32} (hd : decode c.code pc = .ok (.ineg, 1))  (hp : pc + 1 = pc') (r : Run p e below Q En T (mkF m pc' Ls (.int (-x) :: rest))) : Run p e below Q En T (mkF m pc Ls (.int x :: rest)) := by
  subst hp; exact r.on fun _ q => XS.ineg at_ hx rfl hd rfl q
theorem r_lneg (at_ : At T m c below) (hx : p.tables.exec = Jvm.exec) {x : Int64} (hd : decode c.code pc = .ok (.lneg, 1))  (hp : pc + 1 = pc') (r : Run p e below Q En T (mkF m pc' Ls (.long (-x) :: rest))) : Run p e below Q En T (mkF m pc Ls (.long x :: rest)) := by
  subst hp; exact r.on fun _ q => XS.lneg at_ hx rfl hd rfl q
theorem r_ishl (at_ : At T m c below) (hx : p.tables.exec = Jvm.exec) {x y : Int32} (hd : decode c.code pc = .ok (.ishl, 1))  (hp : pc + 1 = pc') (r : Run p e below Q En T (mkF m pc' Ls (.int (x <<< (y &&& 31)) :: rest))) : Run p e below Q En T (mkF m pc Ls (.int y :: .int x :: rest)) := by
  subst hp; exact r.on fun _ q => XS.ishl at_ hx rfl hd rfl q
theorem r_ishr (at_ : At T m c below) (hx : p.tables.exec = Jvm.exec) {x y : Int32} (hd : decode c.code pc = .ok (.ishr, 1))  (hp : pc + 1 = pc') (r : Run p e below Q En T (mkF m pc' Ls (.int (x >>> (y &&& 31)) :: rest))) : Run p e below Q En T (mkF m pc Ls (.int y :: .int x :: rest)) := by
  subst hp; exact r.on fun _ q => XS.ishr at_ hx rfl hd rfl q
theorem r_iushr (at_ : At T m c below) (hx : p.tables.exec = Jvm.exec) {x y : Int32} (hd : decode c.code pc = .ok (.iushr, 1))  (hp : pc + 1 = pc') (r : Run p e below Q En T (mkF m pc' Ls (.int (ushrI x y) :: rest))) : Run p e below Q En T (mkF m pc Ls (.int y :: .int x :: rest)) := by
  subst hp; exact r.on fun _ q => XS.iushr at_ hx rfl hd rfl q
theorem r_lshl (at_ : At T m c below) (hx : p.tables.exec = Jvm.exec) {x : Int64} {y : Int32} (hd : decode c.code pc = .ok (.lshl, 1))  (hp : pc + 1 = pc') (r : Run p e below Q En T (mkF m pc' Ls (.long (x <<< (y &&& 63).toInt64) :: rest))) : Run p e below Q En T (mkF m pc Ls (.int y :: .long x :: rest)) := by
  subst hp; exact r.on fun _ q => XS.lshl at_ hx rfl hd rfl q
theorem r_lshr (at_ : At T m c below) (hx : p.tables.exec = Jvm.exec) {x : Int64} {y : Int32} (hd : decode c.code pc = .ok (.lshr, 1))  (hp : pc + 1 = pc') (r : Run p e below Q En T (mkF m pc' Ls (.long (x >>> (y &&& 63).toInt64) :: rest))) : Run p e below Q En T (mkF m pc Ls (.int y :: .long x :: rest)) := by
  subst hp; exact r.on fun _ q => XS.lshr at_ hx rfl hd rfl q
theorem r_lushr (at_ : At T m c below) (hx : p.tables.exec = Jvm.exec) {x : Int64} {y : Int32} (hd : decode c.code pc = .ok (.lushr, 1))  (hp : pc + 1 = pc') (r : Run p e below Q En T (mkF m pc' Ls (.long (ushrJ x y) :: rest))) : Run p e below Q En T (mkF m pc Ls (.int y :: .long x :: rest)) := by
  subst hp; exact r.on fun _ q => XS.lushr at_ hx rfl hd rfl q
theorem r_idiv (at_ : At T m c below) (hx : p.tables.exec = Jvm.exec) {x y : Int32} (hd : decode c.code pc = .ok (.idiv, 1)) (hy : y ≠ 0) (hp : pc + 1 = pc') (r : Run p e below Q En T (mkF m pc' Ls (.int (x / y) :: rest))) : Run p e below Q En T (mkF m pc Ls (.int y :: .int x :: rest)) := by
  subst hp; exact r.on fun _ q => XS.idiv at_ hx rfl hd rfl hy q
theorem r_irem0 (at_ : At T m c below) (hx : p.tables.exec = Jvm.exec) {x y : Int32} (hd : decode c.code pc = .ok (.irem, 1)) (hy : y ≠ 0) (hp : pc + 1 = pc') (r : Run p e below Q En T (mkF m pc' Ls (.int (x - (x / y) * y) :: rest))) : Run p e below Q En T (mkF m pc Ls (.int y :: .int x :: rest)) := by
  subst hp; exact r.on fun _ q => XS.irem at_ hx rfl hd rfl hy q
theorem r_ldiv (at_ : At T m c below) (hx : p.tables.exec = Jvm.exec) {x y : Int64} (hd : decode c.code pc = .ok (.ldiv, 1)) (hy : y ≠ 0) (hp : pc + 1 = pc') (r : Run p e below Q En T (mkF m pc' Ls (.long (x / y) :: rest))) : Run p e below Q En T (mkF m pc Ls (.long y :: .long x :: rest)) := by
  subst hp; exact r.on fun _ q => XS.ldiv at_ hx rfl hd rfl hy q
theorem r_lrem0 (at_ : At T m c below) (hx : p.tables.exec = Jvm.exec) {x y : Int64} (hd : decode c.code pc = .ok (.lrem, 1)) (hy : y ≠ 0) (hp : pc + 1 = pc') (r : Run p e below Q En T (mkF m pc' Ls (.long (x - (x / y) * y) :: rest))) : Run p e below Q En T (mkF m pc Ls (.long y :: .long x :: rest)) := by
  subst hp; exact r.on fun _ q => XS.lrem at_ hx rfl hd rfl hy q
theorem r_irem (at_ : At T m c below) (hx : p.tables.exec = Jvm.exec) {x y : Int32} (hd : decode c.code pc = .ok (.irem, 1)) (hy : y ≠ 0) (hp : pc + 1 = pc') (r : Run p e below Q En T (mkF m pc' Ls (.int (x % y) :: rest))) : Run p e below Q En T (mkF m pc Ls (.int y :: .int x :: rest)) :=
  r_irem0 at_ hx hd hy hp (by rw [show x - x / y * y = x % y from irem_eq_mod x y]; exact r)
theorem r_i2l (at_ : At T m c below) (hx : p.tables.exec = Jvm.exec) {x : Int32} (hd : decode c.code pc = .ok (.i2l, 1))  (hp : pc + 1 = pc') (r : Run p e below Q En T (mkF m pc' Ls (.long (x.toInt64) :: rest))) : Run p e below Q En T (mkF m pc Ls (.int x :: rest)) := by
  subst hp; exact r.on fun _ q => XS.i2l at_ hx rfl hd rfl q
theorem r_l2i (at_ : At T m c below) (hx : p.tables.exec = Jvm.exec) {x : Int64} (hd : decode c.code pc = .ok (.l2i, 1))  (hp : pc + 1 = pc') (r : Run p e below Q En T (mkF m pc' Ls (.int (x.toInt32) :: rest))) : Run p e below Q En T (mkF m pc Ls (.long x :: rest)) := by
  subst hp; exact r.on fun _ q => XS.l2i at_ hx rfl hd rfl q
theorem r_i2b (at_ : At T m c below) (hx : p.tables.exec = Jvm.exec) {x : Int32} (hd : decode c.code pc = .ok (.i2b, 1))  (hp : pc + 1 = pc') (r : Run p e below Q En T (mkF m pc' Ls (.int (x.toInt8.toInt32) :: rest))) : Run p e below Q En T (mkF m pc Ls (.int x :: rest)) := by
  subst hp; exact r.on fun _ q => XS.i2b at_ hx rfl hd rfl q
theorem r_i2c (at_ : At T m c below) (hx : p.tables.exec = Jvm.exec) {x : Int32} (hd : decode c.code pc = .ok (.i2c, 1))  (hp : pc + 1 = pc') (r : Run p e below Q En T (mkF m pc' Ls (.int (x.toUInt32.toUInt16.toUInt32.toInt32) :: rest))) : Run p e below Q En T (mkF m pc Ls (.int x :: rest)) := by
  subst hp; exact r.on fun _ q => XS.i2c at_ hx rfl hd rfl q
theorem r_i2s (at_ : At T m c below) (hx : p.tables.exec = Jvm.exec) {x : Int32} (hd : decode c.code pc = .ok (.i2s, 1))  (hp : pc + 1 = pc') (r : Run p e below Q En T (mkF m pc' Ls (.int (x.toInt16.toInt32) :: rest))) : Run p e below Q En T (mkF m pc Ls (.int x :: rest)) := by
  subst hp; exact r.on fun _ q => XS.i2s at_ hx rfl hd rfl q
theorem r_dup (at_ : At T m c below) (hx : p.tables.exec = Jvm.exec) {x : Value} (hd : decode c.code pc = .ok (.dup, 1)) (hc : x.category = 1) (hp : pc + 1 = pc') (r : Run p e below Q En T (mkF m pc' Ls (x :: x :: rest))) : Run p e below Q En T (mkF m pc Ls (x :: rest)) := by
  subst hp; exact r.on fun _ q => XS.dup at_ hx rfl hd rfl hc q
theorem r_pop (at_ : At T m c below) (hx : p.tables.exec = Jvm.exec) {x : Value} (hd : decode c.code pc = .ok (.pop, 1)) (hc : x.category = 1) (hp : pc + 1 = pc') (r : Run p e below Q En T (mkF m pc' Ls (rest))) : Run p e below Q En T (mkF m pc Ls (x :: rest)) := by
  subst hp; exact r.on fun _ q => XS.pop at_ hx rfl hd rfl hc q
theorem r_dup_x1 (at_ : At T m c below) (hx : p.tables.exec = Jvm.exec) {x y : Value} (hd : decode c.code pc = .ok (.dup_x1, 1)) (hc : x.category = 1) (hc' : y.category = 1) (hp : pc + 1 = pc') (r : Run p e below Q En T (mkF m pc' Ls (x :: y :: x :: rest))) : Run p e below Q En T (mkF m pc Ls (x :: y :: rest)) := by
  subst hp; exact r.on fun _ q => XS.dupX1 at_ hx rfl hd rfl hc hc' q
theorem r_dup2 (at_ : At T m c below) (hx : p.tables.exec = Jvm.exec) {x y : Value} (hd : decode c.code pc = .ok (.dup2, 1)) (hc : x.category = 1) (hc' : y.category = 1) (hp : pc + 1 = pc') (r : Run p e below Q En T (mkF m pc' Ls (x :: y :: x :: y :: rest))) : Run p e below Q En T (mkF m pc Ls (x :: y :: rest)) := by
  subst hp; exact r.on fun _ q => XT.dup2 at_ hx rfl hd rfl hc hc' q
theorem r_dup2L (at_ : At T m c below) (hx : p.tables.exec = Jvm.exec) {x : Int64} (hd : decode c.code pc = .ok (.dup2, 1))  (hp : pc + 1 = pc') (r : Run p e below Q En T (mkF m pc' Ls (.long x :: .long x :: rest))) : Run p e below Q En T (mkF m pc Ls (.long x :: rest)) := by
  subst hp; exact r.on fun _ q => XT.dup2L at_ hx rfl hd rfl q
theorem r_lcmp (at_ : At T m c below) (hx : p.tables.exec = Jvm.exec) {x y : Int64} (hd : decode c.code pc = .ok (.lcmp, 1))  (hp : pc + 1 = pc') (r : Run p e below Q En T (mkF m pc' Ls (.int (cmpJ x y) :: rest))) : Run p e below Q En T (mkF m pc Ls (.long y :: .long x :: rest)) := by
  subst hp; exact r.on fun _ q => XS.lcmp at_ hx rfl hd rfl q
theorem r_iinc (at_ : At T m c below) (hx : p.tables.exec = Jvm.exec) {k : Nat} {cst : Int} {x z : Int32} {l' : Array Slot} (hd : decode c.code pc = .ok (.iinc k cst, 3)) (hl : Ls[k]? = some (.val (.int x))) (hz : x + Int32.ofInt cst = z) (hl' : storeLocals Ls k (.int z) = some l') (hp : pc + 3 = pc') (r : Run p e below Q En T (mkF m pc' l' rest)) : Run p e below Q En T (mkF m pc Ls rest) := by
  subst hp hz; exact r.on fun _ q => XS.iinc at_ hx rfl hd hl hl' q
theorem r_goto (at_ : At T m c below) (hx : p.tables.exec = Jvm.exec) {o : Int} (hd : decode c.code pc = .ok (.goto o, 3)) (ho : 0 ≤ (pc : Int) + o) (hp : ((pc : Int) + o).toNat = pc') (r : Run p e below Q En T (mkF m pc' Ls rest)) : Run p e below Q En T (mkF m pc Ls rest) :=
  r.on fun _ q => XS.goto at_ hx rfl (pc0 := pc) rfl hd ho hp q
theorem cmpJ_c (x y : Int64) : (y.toInt < x.toInt ∧ cmpJ x y = 1) ∨ (x = y ∧ cmpJ x y = 0) ∨ (x.toInt < y.toInt ∧ cmpJ x y = -1) := by
  unfold cmpJ
  by_cases h1 : x > y
  · left; rw [if_pos h1]; exact ⟨Int64.lt_iff_toInt_lt.mp h1, rfl⟩
  · rw [if_neg h1]
    by_cases h2 : x = y
    · right; left; rw [if_pos h2]; exact ⟨h2, rfl⟩
    · right; right; rw [if_neg h2]
      have h3 : ¬ y.toInt < x.toInt := fun q => h1 (Int64.lt_iff_toInt_lt.mpr q)
      have h4 : ¬ x.toInt = y.toInt := fun q => h2 (Int64.toInt_inj.mp q)
      exact ⟨by omega, rfl⟩
theorem h_eq (x y : Int32) : if_icmp.holds .eq x y = decide (x = y) := by by_cases q : x = y <;> simp [if_icmp.holds, q]
theorem h0_eq (x : Int32) : ifCond.holds .eq x = decide (x = (0 : Int32)) := h_eq x 0
theorem r_if_eq (at_ : At T m c below) (hx : p.tables.exec = Jvm.exec) {o : Int} {x y : Int32} {pc2 : Nat} (hd : decode c.code pc = .ok (.if_icmp .eq o, 3)) (ho : 0 ≤ (pc : Int) + o) (hp : ((pc : Int) + o).toNat = pc') (hp2 : pc + 3 = pc2) (r1 : x = y → Run p e below Q En T (mkF m pc' Ls rest)) (r2 : ¬ (x = y) → Run p e below Q En T (mkF m pc2 Ls rest)) : Run p e below Q En T (mkF m pc Ls (.int y :: .int x :: rest)) := by
  subst hp2
  by_cases hc : x = y
  · exact (r1 hc).on fun _ q => XS.icmpYes at_ hx rfl (pc0 := pc) rfl hd rfl (by rw [h_eq]; exact decide_eq_true hc) ho hp q
  · exact (r2 hc).on fun _ q => XS.icmpNo at_ hx rfl hd rfl (by rw [h_eq]; exact decide_eq_false hc) q
theorem r_if0_eq (at_ : At T m c below) (hx : p.tables.exec = Jvm.exec) {o : Int} {x : Int32} {pc2 : Nat} (hd : decode c.code pc = .ok (.ifCond .eq o, 3)) (ho : 0 ≤ (pc : Int) + o) (hp : ((pc : Int) + o).toNat = pc') (hp2 : pc + 3 = pc2) (r1 : x = (0 : Int32) → Run p e below Q En T (mkF m pc' Ls rest)) (r2 : ¬ (x = (0 : Int32)) → Run p e below Q En T (mkF m pc2 Ls rest)) : Run p e below Q En T (mkF m pc Ls (.int x :: rest)) := by
  subst hp2
  by_cases hc : x = (0 : Int32)
  · exact (r1 hc).on fun _ q => XS.ifYes at_ hx rfl (pc0 := pc) rfl hd rfl (by rw [h0_eq]; exact decide_eq_true hc) ho hp q
  · exact (r2 hc).on fun _ q => XS.ifNo at_ hx rfl hd rfl (by rw [h0_eq]; exact decide_eq_false hc) q
theorem hL_eq (x y : Int64) : ifCond.holds .eq (cmpJ x y) = decide (x = y) := by
  rw [h0_eq]; apply decide_eq_decide.mpr
  rcases cmpJ_c x y with ⟨q, e⟩ | ⟨q, e⟩ | ⟨q, e⟩ <;> rw [e]
  · have ne : ¬ x = y := fun z => by rw [z] at q; omega
    simp [ne]
  · subst q; simp
  · have ne : ¬ x = y := fun z => by rw [z] at q; omega
    simp [ne]
theorem r_ifL_eq (at_ : At T m c below) (hx : p.tables.exec = Jvm.exec) {o : Int} {x y : Int64} {pc2 : Nat} (hd : decode c.code pc = .ok (.ifCond .eq o, 3)) (ho : 0 ≤ (pc : Int) + o) (hp : ((pc : Int) + o).toNat = pc') (hp2 : pc + 3 = pc2) (r1 : x = y → Run p e below Q En T (mkF m pc' Ls rest)) (r2 : ¬ (x = y) → Run p e below Q En T (mkF m pc2 Ls rest)) : Run p e below Q En T (mkF m pc Ls (.int (cmpJ x y) :: rest)) := by
  subst hp2
  by_cases hc : x = y
  · exact (r1 hc).on fun _ q => XS.ifYes at_ hx rfl (pc0 := pc) rfl hd rfl (by rw [hL_eq]; exact decide_eq_true hc) ho hp q
  · exact (r2 hc).on fun _ q => XS.ifNo at_ hx rfl hd rfl (by rw [hL_eq]; exact decide_eq_false hc) q
theorem h_ne (x y : Int32) : if_icmp.holds .ne x y = decide (¬ x = y) := by by_cases q : x = y <;> simp [if_icmp.holds, q]
theorem h0_ne (x : Int32) : ifCond.holds .ne x = decide (¬ x = (0 : Int32)) := h_ne x 0
theorem r_if_ne (at_ : At T m c below) (hx : p.tables.exec = Jvm.exec) {o : Int} {x y : Int32} {pc2 : Nat} (hd : decode c.code pc = .ok (.if_icmp .ne o, 3)) (ho : 0 ≤ (pc : Int) + o) (hp : ((pc : Int) + o).toNat = pc') (hp2 : pc + 3 = pc2) (r1 : ¬ x = y → Run p e below Q En T (mkF m pc' Ls rest)) (r2 : ¬ (¬ x = y) → Run p e below Q En T (mkF m pc2 Ls rest)) : Run p e below Q En T (mkF m pc Ls (.int y :: .int x :: rest)) := by
  subst hp2
  by_cases hc : ¬ x = y
  · exact (r1 hc).on fun _ q => XS.icmpYes at_ hx rfl (pc0 := pc) rfl hd rfl (by rw [h_ne]; exact decide_eq_true hc) ho hp q
  · exact (r2 hc).on fun _ q => XS.icmpNo at_ hx rfl hd rfl (by rw [h_ne]; exact decide_eq_false hc) q
theorem r_if0_ne (at_ : At T m c below) (hx : p.tables.exec = Jvm.exec) {o : Int} {x : Int32} {pc2 : Nat} (hd : decode c.code pc = .ok (.ifCond .ne o, 3)) (ho : 0 ≤ (pc : Int) + o) (hp : ((pc : Int) + o).toNat = pc') (hp2 : pc + 3 = pc2) (r1 : ¬ x = (0 : Int32) → Run p e below Q En T (mkF m pc' Ls rest)) (r2 : ¬ (¬ x = (0 : Int32)) → Run p e below Q En T (mkF m pc2 Ls rest)) : Run p e below Q En T (mkF m pc Ls (.int x :: rest)) := by
  subst hp2
  by_cases hc : ¬ x = (0 : Int32)
  · exact (r1 hc).on fun _ q => XS.ifYes at_ hx rfl (pc0 := pc) rfl hd rfl (by rw [h0_ne]; exact decide_eq_true hc) ho hp q
  · exact (r2 hc).on fun _ q => XS.ifNo at_ hx rfl hd rfl (by rw [h0_ne]; exact decide_eq_false hc) q
theorem hL_ne (x y : Int64) : ifCond.holds .ne (cmpJ x y) = decide (¬ x = y) := by
  rw [h0_ne]; apply decide_eq_decide.mpr
  rcases cmpJ_c x y with ⟨q, e⟩ | ⟨q, e⟩ | ⟨q, e⟩ <;> rw [e]
  · have ne : ¬ x = y := fun z => by rw [z] at q; omega
    simp [ne]
  · subst q; simp
  · have ne : ¬ x = y := fun z => by rw [z] at q; omega
    simp [ne]
theorem r_ifL_ne (at_ : At T m c below) (hx : p.tables.exec = Jvm.exec) {o : Int} {x y : Int64} {pc2 : Nat} (hd : decode c.code pc = .ok (.ifCond .ne o, 3)) (ho : 0 ≤ (pc : Int) + o) (hp : ((pc : Int) + o).toNat = pc') (hp2 : pc + 3 = pc2) (r1 : ¬ x = y → Run p e below Q En T (mkF m pc' Ls rest)) (r2 : ¬ (¬ x = y) → Run p e below Q En T (mkF m pc2 Ls rest)) : Run p e below Q En T (mkF m pc Ls (.int (cmpJ x y) :: rest)) := by
  subst hp2
  by_cases hc : ¬ x = y
  · exact (r1 hc).on fun _ q => XS.ifYes at_ hx rfl (pc0 := pc) rfl hd rfl (by rw [hL_ne]; exact decide_eq_true hc) ho hp q
  · exact (r2 hc).on fun _ q => XS.ifNo at_ hx rfl hd rfl (by rw [hL_ne]; exact decide_eq_false hc) q
theorem h_lt (x y : Int32) : if_icmp.holds .lt x y = decide (x.toInt < y.toInt) := by simp [if_icmp.holds, Int32.lt_iff_toInt_lt]
theorem h0_lt (x : Int32) : ifCond.holds .lt x = decide (x.toInt < (0 : Int32).toInt) := h_lt x 0
theorem r_if_lt (at_ : At T m c below) (hx : p.tables.exec = Jvm.exec) {o : Int} {x y : Int32} {pc2 : Nat} (hd : decode c.code pc = .ok (.if_icmp .lt o, 3)) (ho : 0 ≤ (pc : Int) + o) (hp : ((pc : Int) + o).toNat = pc') (hp2 : pc + 3 = pc2) (r1 : x.toInt < y.toInt → Run p e below Q En T (mkF m pc' Ls rest)) (r2 : ¬ (x.toInt < y.toInt) → Run p e below Q En T (mkF m pc2 Ls rest)) : Run p e below Q En T (mkF m pc Ls (.int y :: .int x :: rest)) := by
  subst hp2
  by_cases hc : x.toInt < y.toInt
  · exact (r1 hc).on fun _ q => XS.icmpYes at_ hx rfl (pc0 := pc) rfl hd rfl (by rw [h_lt]; exact decide_eq_true hc) ho hp q
  · exact (r2 hc).on fun _ q => XS.icmpNo at_ hx rfl hd rfl (by rw [h_lt]; exact decide_eq_false hc) q
theorem r_if0_lt (at_ : At T m c below) (hx : p.tables.exec = Jvm.exec) {o : Int} {x : Int32} {pc2 : Nat} (hd : decode c.code pc = .ok (.ifCond .lt o, 3)) (ho : 0 ≤ (pc : Int) + o) (hp : ((pc : Int) + o).toNat = pc') (hp2 : pc + 3 = pc2) (r1 : x.toInt < 0 → Run p e below Q En T (mkF m pc' Ls rest)) (r2 : ¬ (x.toInt < 0) → Run p e below Q En T (mkF m pc2 Ls rest)) : Run p e below Q En T (mkF m pc Ls (.int x :: rest)) := by
  subst hp2
  by_cases hc : x.toInt < 0
  · exact (r1 hc).on fun _ q => XS.ifYes at_ hx rfl (pc0 := pc) rfl hd rfl (by rw [h0_lt]; exact decide_eq_true (by rw [show (0 : Int32).toInt = 0 from rfl]; exact hc)) ho hp q
  · exact (r2 hc).on fun _ q => XS.ifNo at_ hx rfl hd rfl (by rw [h0_lt]; exact decide_eq_false (by rw [show (0 : Int32).toInt = 0 from rfl]; exact hc)) q
theorem hL_lt (x y : Int64) : ifCond.holds .lt (cmpJ x y) = decide (x.toInt < y.toInt) := by
  rw [h0_lt]; apply decide_eq_decide.mpr
  rcases cmpJ_c x y with ⟨q, e⟩ | ⟨q, e⟩ | ⟨q, e⟩ <;> rw [e]
  · have ne : ¬ x = y := fun z => by rw [z] at q; omega
    show ((1 : Int) < 0) ↔ _; omega
  · subst q; show ((0 : Int) < 0) ↔ _; omega
  · have ne : ¬ x = y := fun z => by rw [z] at q; omega
    show ((-1 : Int) < 0) ↔ _; omega
theorem r_ifL_lt (at_ : At T m c below) (hx : p.tables.exec = Jvm.exec) {o : Int} {x y : Int64} {pc2 : Nat} (hd : decode c.code pc = .ok (.ifCond .lt o, 3)) (ho : 0 ≤ (pc : Int) + o) (hp : ((pc : Int) + o).toNat = pc') (hp2 : pc + 3 = pc2) (r1 : x.toInt < y.toInt → Run p e below Q En T (mkF m pc' Ls rest)) (r2 : ¬ (x.toInt < y.toInt) → Run p e below Q En T (mkF m pc2 Ls rest)) : Run p e below Q En T (mkF m pc Ls (.int (cmpJ x y) :: rest)) := by
  subst hp2
  by_cases hc : x.toInt < y.toInt
  · exact (r1 hc).on fun _ q => XS.ifYes at_ hx rfl (pc0 := pc) rfl hd rfl (by rw [hL_lt]; exact decide_eq_true hc) ho hp q
  · exact (r2 hc).on fun _ q => XS.ifNo at_ hx rfl hd rfl (by rw [hL_lt]; exact decide_eq_false hc) q
theorem h_ge (x y : Int32) : if_icmp.holds .ge x y = decide (y.toInt ≤ x.toInt) := by simp [if_icmp.holds, Int32.le_iff_toInt_le]
theorem h0_ge (x : Int32) : ifCond.holds .ge x = decide ((0 : Int32).toInt ≤ x.toInt) := h_ge x 0
theorem r_if_ge (at_ : At T m c below) (hx : p.tables.exec = Jvm.exec) {o : Int} {x y : Int32} {pc2 : Nat} (hd : decode c.code pc = .ok (.if_icmp .ge o, 3)) (ho : 0 ≤ (pc : Int) + o) (hp : ((pc : Int) + o).toNat = pc') (hp2 : pc + 3 = pc2) (r1 : y.toInt ≤ x.toInt → Run p e below Q En T (mkF m pc' Ls rest)) (r2 : ¬ (y.toInt ≤ x.toInt) → Run p e below Q En T (mkF m pc2 Ls rest)) : Run p e below Q En T (mkF m pc Ls (.int y :: .int x :: rest)) := by
  subst hp2
  by_cases hc : y.toInt ≤ x.toInt
  · exact (r1 hc).on fun _ q => XS.icmpYes at_ hx rfl (pc0 := pc) rfl hd rfl (by rw [h_ge]; exact decide_eq_true hc) ho hp q
  · exact (r2 hc).on fun _ q => XS.icmpNo at_ hx rfl hd rfl (by rw [h_ge]; exact decide_eq_false hc) q
theorem r_if0_ge (at_ : At T m c below) (hx : p.tables.exec = Jvm.exec) {o : Int} {x : Int32} {pc2 : Nat} (hd : decode c.code pc = .ok (.ifCond .ge o, 3)) (ho : 0 ≤ (pc : Int) + o) (hp : ((pc : Int) + o).toNat = pc') (hp2 : pc + 3 = pc2) (r1 : 0 ≤ x.toInt → Run p e below Q En T (mkF m pc' Ls rest)) (r2 : ¬ (0 ≤ x.toInt) → Run p e below Q En T (mkF m pc2 Ls rest)) : Run p e below Q En T (mkF m pc Ls (.int x :: rest)) := by
  subst hp2
  by_cases hc : 0 ≤ x.toInt
  · exact (r1 hc).on fun _ q => XS.ifYes at_ hx rfl (pc0 := pc) rfl hd rfl (by rw [h0_ge]; exact decide_eq_true (by rw [show (0 : Int32).toInt = 0 from rfl]; exact hc)) ho hp q
  · exact (r2 hc).on fun _ q => XS.ifNo at_ hx rfl hd rfl (by rw [h0_ge]; exact decide_eq_false (by rw [show (0 : Int32).toInt = 0 from rfl]; exact hc)) q
theorem hL_ge (x y : Int64) : ifCond.holds .ge (cmpJ x y) = decide (y.toInt ≤ x.toInt) := by
  rw [h0_ge]; apply decide_eq_decide.mpr
  rcases cmpJ_c x y with ⟨q, e⟩ | ⟨q, e⟩ | ⟨q, e⟩ <;> rw [e]
  · have ne : ¬ x = y := fun z => by rw [z] at q; omega
    show ((0 : Int) ≤ 1) ↔ _; omega
  · subst q; show ((0 : Int) ≤ 0) ↔ _; omega
  · have ne : ¬ x = y := fun z => by rw [z] at q; omega
    show ((0 : Int) ≤ -1) ↔ _; omega
theorem r_ifL_ge (at_ : At T m c below) (hx : p.tables.exec = Jvm.exec) {o : Int} {x y : Int64} {pc2 : Nat} (hd : decode c.code pc = .ok (.ifCond .ge o, 3)) (ho : 0 ≤ (pc : Int) + o) (hp : ((pc : Int) + o).toNat = pc') (hp2 : pc + 3 = pc2) (r1 : y.toInt ≤ x.toInt → Run p e below Q En T (mkF m pc' Ls rest)) (r2 : ¬ (y.toInt ≤ x.toInt) → Run p e below Q En T (mkF m pc2 Ls rest)) : Run p e below Q En T (mkF m pc Ls (.int (cmpJ x y) :: rest)) := by
  subst hp2
  by_cases hc : y.toInt ≤ x.toInt
  · exact (r1 hc).on fun _ q => XS.ifYes at_ hx rfl (pc0 := pc) rfl hd rfl (by rw [hL_ge]; exact decide_eq_true hc) ho hp q
  · exact (r2 hc).on fun _ q => XS.ifNo at_ hx rfl hd rfl (by rw [hL_ge]; exact decide_eq_false hc) q
theorem h_gt (x y : Int32) : if_icmp.holds .gt x y = decide (y.toInt < x.toInt) := by simp [if_icmp.holds, Int32.lt_iff_toInt_lt]
theorem h0_gt (x : Int32) : ifCond.holds .gt x = decide ((0 : Int32).toInt < x.toInt) := h_gt x 0
theorem r_if_gt (at_ : At T m c below) (hx : p.tables.exec = Jvm.exec) {o : Int} {x y : Int32} {pc2 : Nat} (hd : decode c.code pc = .ok (.if_icmp .gt o, 3)) (ho : 0 ≤ (pc : Int) + o) (hp : ((pc : Int) + o).toNat = pc') (hp2 : pc + 3 = pc2) (r1 : y.toInt < x.toInt → Run p e below Q En T (mkF m pc' Ls rest)) (r2 : ¬ (y.toInt < x.toInt) → Run p e below Q En T (mkF m pc2 Ls rest)) : Run p e below Q En T (mkF m pc Ls (.int y :: .int x :: rest)) := by
  subst hp2
  by_cases hc : y.toInt < x.toInt
  · exact (r1 hc).on fun _ q => XS.icmpYes at_ hx rfl (pc0 := pc) rfl hd rfl (by rw [h_gt]; exact decide_eq_true hc) ho hp q
  · exact (r2 hc).on fun _ q => XS.icmpNo at_ hx rfl hd rfl (by rw [h_gt]; exact decide_eq_false hc) q
theorem r_if0_gt (at_ : At T m c below) (hx : p.tables.exec = Jvm.exec) {o : Int} {x : Int32} {pc2 : Nat} (hd : decode c.code pc = .ok (.ifCond .gt o, 3)) (ho : 0 ≤ (pc : Int) + o) (hp : ((pc : Int) + o).toNat = pc') (hp2 : pc + 3 = pc2) (r1 : 0 < x.toInt → Run p e below Q En T (mkF m pc' Ls rest)) (r2 : ¬ (0 < x.toInt) → Run p e below Q En T (mkF m pc2 Ls rest)) : Run p e below Q En T (mkF m pc Ls (.int x :: rest)) := by
  subst hp2
  by_cases hc : 0 < x.toInt
  · exact (r1 hc).on fun _ q => XS.ifYes at_ hx rfl (pc0 := pc) rfl hd rfl (by rw [h0_gt]; exact decide_eq_true (by rw [show (0 : Int32).toInt = 0 from rfl]; exact hc)) ho hp q
  · exact (r2 hc).on fun _ q => XS.ifNo at_ hx rfl hd rfl (by rw [h0_gt]; exact decide_eq_false (by rw [show (0 : Int32).toInt = 0 from rfl]; exact hc)) q
theorem hL_gt (x y : Int64) : ifCond.holds .gt (cmpJ x y) = decide (y.toInt < x.toInt) := by
  rw [h0_gt]; apply decide_eq_decide.mpr
  rcases cmpJ_c x y with ⟨q, e⟩ | ⟨q, e⟩ | ⟨q, e⟩ <;> rw [e]
  · have ne : ¬ x = y := fun z => by rw [z] at q; omega
    show ((0 : Int) < 1) ↔ _; omega
  · subst q; show ((0 : Int) < 0) ↔ _; omega
  · have ne : ¬ x = y := fun z => by rw [z] at q; omega
    show ((0 : Int) < -1) ↔ _; omega
theorem r_ifL_gt (at_ : At T m c below) (hx : p.tables.exec = Jvm.exec) {o : Int} {x y : Int64} {pc2 : Nat} (hd : decode c.code pc = .ok (.ifCond .gt o, 3)) (ho : 0 ≤ (pc : Int) + o) (hp : ((pc : Int) + o).toNat = pc') (hp2 : pc + 3 = pc2) (r1 : y.toInt < x.toInt → Run p e below Q En T (mkF m pc' Ls rest)) (r2 : ¬ (y.toInt < x.toInt) → Run p e below Q En T (mkF m pc2 Ls rest)) : Run p e below Q En T (mkF m pc Ls (.int (cmpJ x y) :: rest)) := by
  subst hp2
  by_cases hc : y.toInt < x.toInt
  · exact (r1 hc).on fun _ q => XS.ifYes at_ hx rfl (pc0 := pc) rfl hd rfl (by rw [hL_gt]; exact decide_eq_true hc) ho hp q
  · exact (r2 hc).on fun _ q => XS.ifNo at_ hx rfl hd rfl (by rw [hL_gt]; exact decide_eq_false hc) q
theorem h_le (x y : Int32) : if_icmp.holds .le x y = decide (x.toInt ≤ y.toInt) := by simp [if_icmp.holds, Int32.le_iff_toInt_le]
theorem h0_le (x : Int32) : ifCond.holds .le x = decide (x.toInt ≤ (0 : Int32).toInt) := h_le x 0
theorem r_if_le (at_ : At T m c below) (hx : p.tables.exec = Jvm.exec) {o : Int} {x y : Int32} {pc2 : Nat} (hd : decode c.code pc = .ok (.if_icmp .le o, 3)) (ho : 0 ≤ (pc : Int) + o) (hp : ((pc : Int) + o).toNat = pc') (hp2 : pc + 3 = pc2) (r1 : x.toInt ≤ y.toInt → Run p e below Q En T (mkF m pc' Ls rest)) (r2 : ¬ (x.toInt ≤ y.toInt) → Run p e below Q En T (mkF m pc2 Ls rest)) : Run p e below Q En T (mkF m pc Ls (.int y :: .int x :: rest)) := by
  subst hp2
  by_cases hc : x.toInt ≤ y.toInt
  · exact (r1 hc).on fun _ q => XS.icmpYes at_ hx rfl (pc0 := pc) rfl hd rfl (by rw [h_le]; exact decide_eq_true hc) ho hp q
  · exact (r2 hc).on fun _ q => XS.icmpNo at_ hx rfl hd rfl (by rw [h_le]; exact decide_eq_false hc) q
theorem r_if0_le (at_ : At T m c below) (hx : p.tables.exec = Jvm.exec) {o : Int} {x : Int32} {pc2 : Nat} (hd : decode c.code pc = .ok (.ifCond .le o, 3)) (ho : 0 ≤ (pc : Int) + o) (hp : ((pc : Int) + o).toNat = pc') (hp2 : pc + 3 = pc2) (r1 : x.toInt ≤ 0 → Run p e below Q En T (mkF m pc' Ls rest)) (r2 : ¬ (x.toInt ≤ 0) → Run p e below Q En T (mkF m pc2 Ls rest)) : Run p e below Q En T (mkF m pc Ls (.int x :: rest)) := by
  subst hp2
  by_cases hc : x.toInt ≤ 0
  · exact (r1 hc).on fun _ q => XS.ifYes at_ hx rfl (pc0 := pc) rfl hd rfl (by rw [h0_le]; exact decide_eq_true (by rw [show (0 : Int32).toInt = 0 from rfl]; exact hc)) ho hp q
  · exact (r2 hc).on fun _ q => XS.ifNo at_ hx rfl hd rfl (by rw [h0_le]; exact decide_eq_false (by rw [show (0 : Int32).toInt = 0 from rfl]; exact hc)) q
theorem hL_le (x y : Int64) : ifCond.holds .le (cmpJ x y) = decide (x.toInt ≤ y.toInt) := by
  rw [h0_le]; apply decide_eq_decide.mpr
  rcases cmpJ_c x y with ⟨q, e⟩ | ⟨q, e⟩ | ⟨q, e⟩ <;> rw [e]
  · have ne : ¬ x = y := fun z => by rw [z] at q; omega
    show ((1 : Int) ≤ 0) ↔ _; omega
  · subst q; show ((0 : Int) ≤ 0) ↔ _; omega
  · have ne : ¬ x = y := fun z => by rw [z] at q; omega
    show ((-1 : Int) ≤ 0) ↔ _; omega
theorem r_ifL_le (at_ : At T m c below) (hx : p.tables.exec = Jvm.exec) {o : Int} {x y : Int64} {pc2 : Nat} (hd : decode c.code pc = .ok (.ifCond .le o, 3)) (ho : 0 ≤ (pc : Int) + o) (hp : ((pc : Int) + o).toNat = pc') (hp2 : pc + 3 = pc2) (r1 : x.toInt ≤ y.toInt → Run p e below Q En T (mkF m pc' Ls rest)) (r2 : ¬ (x.toInt ≤ y.toInt) → Run p e below Q En T (mkF m pc2 Ls rest)) : Run p e below Q En T (mkF m pc Ls (.int (cmpJ x y) :: rest)) := by
  subst hp2
  by_cases hc : x.toInt ≤ y.toInt
  · exact (r1 hc).on fun _ q => XS.ifYes at_ hx rfl (pc0 := pc) rfl hd rfl (by rw [hL_le]; exact decide_eq_true hc) ho hp q
  · exact (r2 hc).on fun _ q => XS.ifNo at_ hx rfl hd rfl (by rw [hL_le]; exact decide_eq_false hc) q
theorem r_ifnullY (at_ : At T m c below) (hx : p.tables.exec = Jvm.exec) {o : Int} (hd : decode c.code pc = .ok (.ifnull o, 3)) (ho : 0 ≤ (pc : Int) + o) (hp : ((pc : Int) + o).toNat = pc') (r : Run p e below Q En T (mkF m pc' Ls rest)) : Run p e below Q En T (mkF m pc Ls (.null :: rest)) :=
  r.on fun _ q => XS.ifnullYes at_ hx rfl (pc0 := pc) rfl hd rfl ho hp q
theorem r_ifnullN (at_ : At T m c below) (hx : p.tables.exec = Jvm.exec) {o : Int} {b : Addr} (hd : decode c.code pc = .ok (.ifnull o, 3)) (hp : pc + 3 = pc') (r : Run p e below Q En T (mkF m pc' Ls rest)) : Run p e below Q En T (mkF m pc Ls (.ref b :: rest)) := by
  subst hp; exact r.on fun _ q => XS.ifnullNo at_ hx rfl hd rfl q
theorem r_ifnonnullY (at_ : At T m c below) (hx : p.tables.exec = Jvm.exec) {o : Int} {b : Addr} (hd : decode c.code pc = .ok (.ifnonnull o, 3)) (ho : 0 ≤ (pc : Int) + o) (hp : ((pc : Int) + o).toNat = pc') (r : Run p e below Q En T (mkF m pc' Ls rest)) : Run p e below Q En T (mkF m pc Ls (.ref b :: rest)) :=
  r.on fun _ q => XS.ifnonnullYes at_ hx rfl (pc0 := pc) rfl hd rfl ho hp q
theorem r_ifnonnullN (at_ : At T m c below) (hx : p.tables.exec = Jvm.exec) {o : Int} (hd : decode c.code pc = .ok (.ifnonnull o, 3)) (hp : pc + 3 = pc') (r : Run p e below Q En T (mkF m pc' Ls rest)) : Run p e below Q En T (mkF m pc Ls (.null :: rest)) := by
  subst hp; exact r.on fun _ q => XS.ifnonnullNo at_ hx rfl hd rfl q
theorem r_acmp_eq (at_ : At T m c below) (hx : p.tables.exec = Jvm.exec) {o : Int} {x y : Value} {pc2 : Nat} (hd : decode c.code pc = .ok (.if_acmp .eq o, 3)) (h1 : x.isRef = true) (h2 : y.isRef = true) (ho : 0 ≤ (pc : Int) + o) (hp : ((pc : Int) + o).toNat = pc') (hp2 : pc + 3 = pc2) (r1 : x = y → Run p e below Q En T (mkF m pc' Ls rest)) (r2 : ¬ x = y → Run p e below Q En T (mkF m pc2 Ls rest)) : Run p e below Q En T (mkF m pc Ls (y :: x :: rest)) := by
  subst hp2
  by_cases hc : x = y
  · exact (r1 hc).on fun _ q => XT.acmpYes at_ hx rfl (pc0 := pc) rfl hd rfl h1 h2 (by simp [XT.acmp, hc]) ho hp q
  · exact (r2 hc).on fun _ q => XT.acmpNo at_ hx rfl hd rfl h1 h2 (by simp [XT.acmp, hc]) q
theorem r_acmp_ne (at_ : At T m c below) (hx : p.tables.exec = Jvm.exec) {o : Int} {x y : Value} {pc2 : Nat} (hd : decode c.code pc = .ok (.if_acmp .ne o, 3)) (h1 : x.isRef = true) (h2 : y.isRef = true) (ho : 0 ≤ (pc : Int) + o) (hp : ((pc : Int) + o).toNat = pc') (hp2 : pc + 3 = pc2) (r1 : ¬ x = y → Run p e below Q En T (mkF m pc' Ls rest)) (r2 : x = y → Run p e below Q En T (mkF m pc2 Ls rest)) : Run p e below Q En T (mkF m pc Ls (y :: x :: rest)) := by
  subst hp2
  by_cases hc : x = y
  · exact (r2 hc).on fun _ q => XT.acmpNo at_ hx rfl hd rfl h1 h2 (by simp [XT.acmp, hc]) q
  · exact (r1 hc).on fun _ q => XT.acmpYes at_ hx rfl (pc0 := pc) rfl hd rfl h1 h2 (by simp [XT.acmp, hc]) ho hp q
theorem r_retN (X : Stand p l e R s m args below meth c T locs cells slots) (hx : p.tables.exec = Jvm.exec) (hlk : meth.locks = false) {t : FieldType} {z w : Int32} (hret : meth.sig.returnType = some t) (ht : t = .boolean ∨ t = .byte ∨ t = .char ∨ t = .short) (hd : decode c.code pc = .ok (.ireturn, 1)) (hn : nar t z = w) (hq : Q (some (.int w)) T.heap locs) (h1 : cells ≤ kc) (h2 : slots ≤ ks) : Run p e below Q (fun o t L => FrameEnd s o t L kc ks) T (mkF m pc Ls (.int z :: rest)) := by
  subst hn
  obtain ⟨fs, hr, hrun, hended, hW, hsame⟩ := X.leave (v := some (.int (nar t z))) (fun q => by rw [hret] at q; cases q) hlk
  exact ⟨_, _, retN X hx hret ht hd hr, hrun, hended, _, _, rfl, hq, ⟨_, rfl⟩, hW, hsame.mono h1 h2⟩
theorem r_retV (X : Stand p l e R s m args below meth c T locs cells slots) (hx : p.tables.exec = Jvm.exec) (hlk : meth.locks = false) {t : FieldType} {w : Value} {i : Instr} (hret : meth.sig.returnType = some t) (hn : narrow t w = w)
    (hi : (i = .ireturn ∧ (t = .int ∨ t = .boolean ∨ t = .byte ∨ t = .char ∨ t = .short) ∧ ∃ z, w = .int z) ∨ (i = .lreturn ∧ t = .long ∧ ∃ z, w = .long z) ∨ (i = .dreturn ∧ t = .double ∧ ∃ z, w = .double z) ∨ (i = .freturn ∧ t = .float ∧ ∃ z, w = .float z) ∨ (i = .areturn ∧ t.isReference = true ∧ w.isRef = true))
    (hd : decode c.code pc = .ok (i, 1)) (hq : Q (some w) T.heap locs) (h1 : cells ≤ kc) (h2 : slots ≤ ks) : Run p e below Q (fun o t L => FrameEnd s o t L kc ks) T (mkF m pc Ls (w :: rest)) := by
  obtain ⟨fs, hr, hrun, hended, hW, hsame⟩ := X.leave (v := some w) (fun q => by rw [hret] at q; cases q) hlk
  exact ⟨_, _, retOut X hx hret hn hi hd hr, hrun, hended, _, _, rfl, hq, ⟨_, rfl⟩, hW, hsame.mono h1 h2⟩
theorem r_retI (X : Stand p l e R s m args below meth c T locs cells slots) (hx : p.tables.exec = Jvm.exec) (hlk : meth.locks = false) {w : Int32} (hret : meth.sig.returnType = some .int) (hd : decode c.code pc = .ok (.ireturn, 1)) (hq : Q (some (.int w)) T.heap locs) (h1 : cells ≤ kc) (h2 : slots ≤ ks) : Run p e below Q (fun o t L => FrameEnd s o t L kc ks) T (mkF m pc Ls (.int w :: rest)) :=
  r_retV X hx hlk hret rfl (Or.inl ⟨rfl, Or.inl rfl, _, rfl⟩) hd hq h1 h2
theorem r_retJ (X : Stand p l e R s m args below meth c T locs cells slots) (hx : p.tables.exec = Jvm.exec) (hlk : meth.locks = false) {w : Int64} (hret : meth.sig.returnType = some .long) (hd : decode c.code pc = .ok (.lreturn, 1)) (hq : Q (some (.long w)) T.heap locs) (h1 : cells ≤ kc) (h2 : slots ≤ ks) : Run p e below Q (fun o t L => FrameEnd s o t L kc ks) T (mkF m pc Ls (.long w :: rest)) :=
  r_retV X hx hlk hret rfl (Or.inr (Or.inl ⟨rfl, rfl, _, rfl⟩)) hd hq h1 h2
theorem r_retD (X : Stand p l e R s m args below meth c T locs cells slots) (hx : p.tables.exec = Jvm.exec) (hlk : meth.locks = false) {w : UInt64} (hret : meth.sig.returnType = some .double) (hd : decode c.code pc = .ok (.dreturn, 1)) (hq : Q (some (.double w)) T.heap locs) (h1 : cells ≤ kc) (h2 : slots ≤ ks) : Run p e below Q (fun o t L => FrameEnd s o t L kc ks) T (mkF m pc Ls (.double w :: rest)) :=
  r_retV X hx hlk hret rfl (Or.inr (Or.inr (Or.inl ⟨rfl, rfl, _, rfl⟩))) hd hq h1 h2
theorem r_retA (X : Stand p l e R s m args below meth c T locs cells slots) (hx : p.tables.exec = Jvm.exec) (hlk : meth.locks = false) {t : FieldType} {w : Value} (hret : meth.sig.returnType = some t) (ht : t.isReference = true) (hw : w.isRef = true) (hd : decode c.code pc = .ok (.areturn, 1)) (hq : Q (some w) T.heap locs) (h1 : cells ≤ kc) (h2 : slots ≤ ks) : Run p e below Q (fun o t L => FrameEnd s o t L kc ks) T (mkF m pc Ls (w :: rest)) :=
  r_retV X hx hlk hret (by rcases ref_cases hw with rfl | ⟨a, rfl⟩ <;> cases t <;> first | rfl | cases ht) (Or.inr (Or.inr (Or.inr (Or.inr ⟨rfl, ht, hw⟩)))) hd hq h1 h2
theorem r_ret0 (X : Stand p l e R s m args below meth c T locs cells slots) (hx : p.tables.exec = Jvm.exec) (hlk : meth.locks = false) (hret : meth.sig.returnType = none) (hd : decode c.code pc = .ok (.return_, 1)) (hq : Q none T.heap locs) (h1 : cells ≤ kc) (h2 : slots ≤ ks) : Run p e below Q (fun o t L => FrameEnd s o t L kc ks) T (mkF m pc Ls []) := by
  obtain ⟨fs, hr, hrun, hended, hW, hsame⟩ := X.leave (v := none) (fun _ => rfl) hlk
  exact ⟨_, _, X.returnOut hx hret hd hr, hrun, hended, _, _, rfl, hq, ⟨_, rfl⟩, hW, hsame.mono h1 h2⟩
theorem r_ldc (X : Stand p l e R s m args below meth c T locs cells slots) (hx : p.tables.exec = Jvm.exec) (hZ : Z.Warmed39 s.vm) {own : String} {index : Nat} {v : Int32} (hown : s.vm.findClass own = some m.cls) (w : (Jvm.Cond.constant own index v).before a0 Z = true) (hd : decode c.code pc = .ok (.ldc index, 2)) (hp : pc + 2 = pc') (r : Run p e below Q En T (mkF m pc' Ls (.int v :: rest))) : Run p e below Q En T (mkF m pc Ls rest) := by
  subst hp; exact r.on fun _ q => X.ldcInt hx hown (mvT hZ w) (g := mkF m pc Ls rest) rfl hd _ q
theorem r_ldc2 (X : Stand p l e R s m args below meth c T locs cells slots) (hx : p.tables.exec = Jvm.exec) (hZ : Z.Warmed39 s.vm) {own : String} {index : Nat} {v : Int64} (hown : s.vm.findClass own = some m.cls) (w : (Jvm.Cond.constantLong own index v).before a0 Z = true) (hd : decode c.code pc = .ok (.ldc2_w index, 3)) (hp : pc + 3 = pc') (r : Run p e below Q En T (mkF m pc' Ls (.long v :: rest))) : Run p e below Q En T (mkF m pc Ls rest) := by
  subst hp; exact r.on fun _ q => X.ldc2Long hx hown (mvT hZ w) (g := mkF m pc Ls rest) rfl hd _ q
theorem r_callS (X : Stand p l e R s m args below meth c T locs cells slots) (hx : p.tables.exec = Jvm.exec) (hZ : Z.Warmed39 s.vm) {own : String} {index : Nat} {y : MethodName} {bytes : ByteArray} {maxL : Nat} {ret : Option FieldType} {rm : Room} {as' : Array Value} {Qc : Option Value → Heap → List Loc → Prop} {argsL : List Value} {W : Nat}
    (hown : s.vm.findClass own = some m.cls) (w1 : (Jvm.Cond.methodLink own index y).before a0 Z = true) (w2 : (Jvm.Cond.static y).before a0 Z = true) (w3 : (Jvm.Cond.initialized y.cls).before a0 Z = true) (w4 : (Jvm.Cond.code y bytes maxL ret).before a0 Z = true) (hy : y.cls ≠ "java/lang/invoke/MethodHandle" ∧ y.cls ≠ "java/lang/invoke/VarHandle")
    (hM : Met l Z y bytes maxL ret [] rm as' h Qc rm.cells rm.slots) (eT : T.heap = h) (hsz : Ls.size = c.maxLocals) (hlen : ∀ sig, parseMethodDescriptor y.desc = some sig → argsL.length = sig.parameters.length) (hst : st = argsL.reverse ++ rest) (has : argsL.toArray = as') (hW : (rest.map fun v => v.category).sum = W)
    (hf : rm.frames + 1 ≤ R.frames) (hl : W + (maxL + 11) + rm.locals ≤ R.locals) (hcl : cells + rm.cells ≤ R.cells) (hsl : slots + rm.slots ≤ R.slots) (hd : decode c.code pc = .ok (.invokestatic index, 3)) (hp : pc + 3 = pc')
    (r : ∀ (v : Option Value) (T' : State) (L : List Loc), Stand p l e R s m args below meth c T' (locs ++ L) (cells + rm.cells) (slots + rm.slots) → Qc v T'.heap L → Run p e below Q En T' (mkF m pc' Ls (v.toList ++ rest))) : Run p e below Q En T (mkF m pc Ls st) := by
  subst hp
  obtain ⟨v, _, ⟨T', L', k', n'⟩, -, X', ⟨L, hQ, l1, y1, z1⟩, stp⟩ := Jvm.LawKit.callS X hx (y := y) hown (mvT hZ w1) (mvT hZ w2) (mvT hZ w3) (mvT hZ w4) hy (backOf (W := W) hM hZ w4 w3 hf hl) (g := mkF m pc Ls st) rfl hsz (argsL := argsL) (rest := rest) hlen hst (by show 2 * 0 + _ ≤ _; omega) hd (fun _ _ => ⟨has, eT, hcl, hsl⟩)
  dsimp only at X' l1 y1 z1 stp hQ
  subst l1 y1 z1
  exact (r v T' L X' hQ).on stp
theorem r_callI (X : Stand p l e R s m args below meth c T locs cells slots) (hx : p.tables.exec = Jvm.exec) (hZ : Z.Warmed39 s.vm) {own : String} {index : Nat} {y : MethodName} {bytes : ByteArray} {maxL : Nat} {rm : Room} {as' : Array Value} {Qc : Option Value → Heap → List Loc → Prop} {argsL : List Value} {W : Nat} {a : Addr}
    (hown : s.vm.findClass own = some m.cls) (hy1 : y.name = "<init>") (w1 : (Jvm.Cond.methodLink own index y).before a0 Z = true) (w2 : (Jvm.Cond.instanceMethod y).before a0 Z = true) (w3 : (Jvm.Cond.initialized y.cls).before a0 Z = true) (w4 : (Jvm.Cond.code y bytes maxL none).before a0 Z = true) (hy : y.cls ≠ "java/lang/invoke/MethodHandle" ∧ y.cls ≠ "java/lang/invoke/VarHandle")
    (hM : Met l Z y bytes maxL none [] rm as' h Qc rm.cells rm.slots) (eT : T.heap = h) (hsz : Ls.size = c.maxLocals) (hlen : ∀ sig, parseMethodDescriptor y.desc = some sig → argsL.length = sig.parameters.length) (hst : st = argsL.reverse ++ .ref a :: rest) (has : (.ref a :: argsL).toArray = as') (hW : (rest.map fun v => v.category).sum = W)
    (hf : rm.frames + 1 ≤ R.frames) (hl : W + (maxL + 11) + rm.locals ≤ R.locals) (hcl : cells + rm.cells ≤ R.cells) (hsl : slots + rm.slots ≤ R.slots) (hd : decode c.code pc = .ok (.invokespecial index, 3)) (hp : pc + 3 = pc')
    (r : ∀ (v : Option Value) (T' : State) (L : List Loc), Stand p l e R s m args below meth c T' (locs ++ L) (cells + rm.cells) (slots + rm.slots) → Qc v T'.heap L → Run p e below Q En T' (mkF m pc' Ls (v.toList ++ rest))) : Run p e below Q En T (mkF m pc Ls st) := by
  subst hp
  obtain ⟨v, _, ⟨T', L', k', n'⟩, -, X', ⟨L, hQ, l1, y1, z1⟩, stp⟩ := X.specialBack hx (y := y) hy1 hown (mvT hZ w1) (mvT hZ w2) (mvT hZ w4) hy (backOf (W := W) hM hZ w4 w3 hf hl) (g := mkF m pc Ls st) rfl hsz (Steps.refl _) (a := a) (argsL := argsL) (rest := rest) hlen hst (by show 2 * 0 + _ ≤ _; omega) hd (fun _ _ => ⟨has, eT, hcl, hsl⟩)
  dsimp only at X' l1 y1 z1 stp hQ
  subst l1 y1 z1
  exact (r v T' L X' hQ).on fun _ q => stp.trans q
theorem r_callV (X : Stand p l e R s m args below meth c T locs cells slots) (hx : p.tables.exec = Jvm.exec) (hZ : Z.Warmed39 s.vm) {own C : String} {index : Nat} {y z : MethodName} {bytes : ByteArray} {maxL : Nat} {ret : Option FieldType} {rm : Room} {as' : Array Value} {Qc : Option Value → Heap → List Loc → Prop} {argsL : List Value} {W : Nat} {a : Addr}
    (hown : s.vm.findClass own = some m.cls) (w1 : (Jvm.Cond.methodLink own index y).before a0 Z = true) (w2 : (Jvm.Cond.declares y).before a0 Z = true) (nf : NotFace s y) (w5 : (Jvm.Cond.selects C y z).before a0 Z = true) (w6 : (Jvm.Cond.instanceMethod z).before a0 Z = true) (w3 : (Jvm.Cond.initialized z.cls).before a0 Z = true) (w4 : (Jvm.Cond.code z bytes maxL ret).before a0 Z = true) (hy : y.cls ≠ "java/lang/invoke/MethodHandle" ∧ y.cls ≠ "java/lang/invoke/VarHandle")
    (hM : Met l Z z bytes maxL ret [] rm as' h Qc rm.cells rm.slots) (eT : T.heap = h) (E : Exa Z h a C) (hsz : Ls.size = c.maxLocals) (hlen : ∀ sig, parseMethodDescriptor y.desc = some sig → argsL.length = sig.parameters.length) (hst : st = argsL.reverse ++ .ref a :: rest) (has : (.ref a :: argsL).toArray = as') (hW : (rest.map fun v => v.category).sum = W)
    (hf : rm.frames + 1 ≤ R.frames) (hl : W + (maxL + 11) + rm.locals ≤ R.locals) (hcl : cells + rm.cells ≤ R.cells) (hsl : slots + rm.slots ≤ R.slots) (hd : decode c.code pc = .ok (.invokevirtual index, 3)) (hp : pc + 3 = pc')
    (r : ∀ (v : Option Value) (T' : State) (L : List Loc), Stand p l e R s m args below meth c T' (locs ++ L) (cells + rm.cells) (slots + rm.slots) → Qc v T'.heap L → Run p e below Q En T' (mkF m pc' Ls (v.toList ++ rest))) : Run p e below Q En T (mkF m pc Ls st) := by
  subst hp
  obtain ⟨cq, kq, qa, qb, qc⟩ := isOf hZ eT E
  obtain ⟨v, _, ⟨T', L', k', n'⟩, -, X', ⟨L, hQ, l1, y1, z1⟩, stp⟩ := X.virtualBack hx (y := y) (z := z) hown (mvT hZ w1) (mvT hZ w2) nf (mvT hZ w5) (mvT hZ w6) hy (backOf (W := W) hM hZ w4 w3 hf hl) qa qc (g := mkF m pc Ls st) rfl hsz (Steps.refl _) (argsL := argsL) (rest := rest) hlen hst (by show 2 * 0 + _ ≤ _; omega) hd (fun _ _ => ⟨has, eT, hcl, hsl⟩)
  dsimp only at X' l1 y1 z1 stp hQ
  subst l1 y1 z1
  exact (r v T' L X' hQ).on fun _ q => stp.trans q
theorem r_initO (X : Stand p l e R s m args below meth c T locs cells slots) (hx : p.tables.exec = Jvm.exec) (hZ : Z.Warmed39 s.vm) {own : String} {index : Nat} {a : Addr} {W : Nat}
    (hown : s.vm.findClass own = some m.cls) (w1 : (Jvm.Cond.methodLink own index Lib.objectInit).before a0 Z = true) (w2 : (Jvm.Cond.instanceMethod Lib.objectInit).before a0 Z = true) (w4 : (Jvm.Cond.code Lib.objectInit ⟨#[0xb1]⟩ 1 none).before a0 Z = true)
    (eT : T.heap = h) (hsz : Ls.size = c.maxLocals) (hf : 1 ≤ R.frames) (hW : (rest.map fun v => v.category).sum = W) (hl : W + 12 ≤ R.locals) (hd : decode c.code pc = .ok (.invokespecial index, 3)) (hp : pc + 3 = pc')
    (r : ∀ T', Stand p l e R s m args below meth c T' locs cells slots → T'.heap = h → Run p e below Q En T' (mkF m pc' Ls rest)) : Run p e below Q En T (mkF m pc Ls (.ref a :: rest)) := by
  subst hp
  obtain ⟨T', X', e', stp⟩ := initO X hx hZ hown w1 w2 w4 eT (g := mkF m pc Ls (.ref a :: rest)) rfl hsz rfl hd hf (W := W) (by show 2 * 0 + _ ≤ _; omega) hl
  exact (r T' X' e').on stp
theorem r_new (X : Stand p l e R s m args below meth c T locs cells slots) (hx : p.tables.exec = Jvm.exec) (hZ : Z.Warmed39 s.vm) {own C : String} {index n : Nat} (hown : s.vm.findClass own = some m.cls) (w : (Jvm.Cond.classLink own index C).before a0 Z = true) (wi : (Jvm.Cond.instantiable C n).before a0 Z = true) (wz : (Jvm.Cond.initialized C).before a0 Z = true) (eT : T.heap = h) (hc : cells + 1 ≤ R.cells) (hl : slots + n ≤ R.slots) (hd : decode c.code pc = .ok (.new index, 3)) (hp : pc + 3 = pc')
    (r : ∀ (T' : State) (h' : Heap) (a : Addr), a = h.size → Stand p l e R s m args below meth c T' locs (cells + 1) (slots + n) → T'.heap = h' → Ext h h' → Exa Z h' a C → (∀ {O nm d : String} {ty : FieldType}, Laid Z a0 C O nm d → parseFieldDescriptor d = some ty → Fld Z h' a O nm d (defaultValue ty)) → Run p e below Q En T' (mkF m pc' Ls (.ref a :: rest))) : Run p e below Q En T (mkF m pc Ls rest) := by
  subst hp
  obtain ⟨T', h', X', e', E', A', D', -, stp⟩ := newO X hx hZ hown w wi wz eT (g := mkF m pc Ls rest) rfl hd hc hl
  exact (r T' h' h.size rfl X' e' E' A' D').on stp
theorem r_getF (X : Stand p l e R s m args below meth c T locs cells slots) (hx : p.tables.exec = Jvm.exec) (hZ : Z.Warmed39 s.vm) {own R0 O n d : String} {index : Nat} {a : Addr} {v : Value} (hown : s.vm.findClass own = some m.cls) (w : (Jvm.Cond.fieldLink own index R0 n d).before a0 Z = true) (via : Via Z R0 O n d) (eT : T.heap = h) (F : Fld Z h a O n d v) (hd : decode c.code pc = .ok (.getfield index, 3)) (hp : pc + 3 = pc')
    (r : ∀ T', Stand p l e R s m args below meth c T' locs cells slots → T'.heap = h → Run p e below Q En T' (mkF m pc' Ls (v :: rest))) : Run p e below Q En T (mkF m pc Ls (.ref a :: rest)) := by
  subst hp
  obtain ⟨T', X', e', stp⟩ := getF X hx hZ hown (host := "") (Or.inl w) via eT F (g := mkF m pc Ls (.ref a :: rest)) rfl rfl hd
  exact (r T' X' e').on stp
theorem r_getFN (X : Stand p l e R s m args below meth c T locs cells slots) (hx : p.tables.exec = Jvm.exec) (hZ : Z.Warmed39 s.vm) {own R0 O n d host : String} {index : Nat} {a : Addr} {v : Value} (hown : s.vm.findClass own = some m.cls) (w : (Jvm.Cond.fieldLinkNest own index R0 n d host).before a0 Z = true) (via : Via Z R0 O n d) (eT : T.heap = h) (F : Fld Z h a O n d v) (hd : decode c.code pc = .ok (.getfield index, 3)) (hp : pc + 3 = pc')
    (r : ∀ T', Stand p l e R s m args below meth c T' locs cells slots → T'.heap = h → Run p e below Q En T' (mkF m pc' Ls (v :: rest))) : Run p e below Q En T (mkF m pc Ls (.ref a :: rest)) := by
  subst hp
  obtain ⟨T', X', e', stp⟩ := getF X hx hZ hown (Or.inr w) via eT F (g := mkF m pc Ls (.ref a :: rest)) rfl rfl hd
  exact (r T' X' e').on stp
theorem r_getS (X : Stand p l e R s m args below meth c T locs cells slots) (hx : p.tables.exec = Jvm.exec) (hZ : Z.Warmed39 s.vm) {own R0 O n d : String} {index : Nat} {v : Value} (hown : s.vm.findClass own = some m.cls) (w : (Jvm.Cond.fieldLink own index R0 n d).before a0 Z = true) (via : Via Z R0 O n d) (eT : T.heap = h) (F : Sta Z h O n d v) (hd : decode c.code pc = .ok (.getstatic index, 3)) (hp : pc + 3 = pc')
    (r : ∀ T', Stand p l e R s m args below meth c T' locs cells slots → T'.heap = h → Run p e below Q En T' (mkF m pc' Ls (v :: rest))) : Run p e below Q En T (mkF m pc Ls rest) := by
  subst hp
  obtain ⟨T', X', e', stp⟩ := getS2 X hx hZ hown (host := "") (Or.inl w) via eT F (g := mkF m pc Ls rest) rfl hd
  exact (r T' X' e').on stp
theorem r_putF (X : Stand p l e R s m args below meth c T locs cells slots) (hx : p.tables.exec = Jvm.exec) (hZ : Z.Warmed39 s.vm) {own R0 O n d C : String} {index kk : Nat} {ty : FieldType} {a : Addr} {v old : Value} (hown : s.vm.findClass own = some m.cls) (w : (Jvm.Cond.fieldLink own index R0 n d).before a0 Z = true) (via : Via Z R0 O n d) (eT : T.heap = h) (F : Fld Z h a O n d old) (E : Exa Z h a C) (L : (Jvm.Cond.lays C O n d).before a0 Z = true ∨ ((Jvm.Cond.laysFinal C O n d).before a0 Z = true ∧ own = O ∧ meth.name = "<init>")) (wi : (Jvm.Cond.instantiable C kk).before a0 Z = true) (hty : parseFieldDescriptor d = some ty) (hn : narrow ty v = v) (hf : fits ty v = true) (hd : decode c.code pc = .ok (.putfield index, 3)) (hp : pc + 3 = pc')
    (r : ∀ (T' : State) (h' : Heap), Stand p l e R s m args below meth c T' (locs ++ [⟨a, Jvm.RoadKit.slotOf Z O n d⟩]) cells slots → T'.heap = h' → Wr h h' a (Jvm.RoadKit.slotOf Z O n d) v → Run p e below Q En T' (mkF m pc' Ls rest)) : Run p e below Q En T (mkF m pc Ls (v :: .ref a :: rest)) := by
  subst hp
  obtain ⟨T', h', X', e', W', stp⟩ := putF X hx hZ hown (host := "") (Or.inl w) via eT F E L wi hty hn hf (g := mkF m pc Ls (v :: .ref a :: rest)) rfl rfl hd
  exact (r T' h' X' e' W').on stp
theorem r_newarray (X : Stand p l e R s m args below meth c T locs cells slots) (hx : p.tables.exec = Jvm.exec) (hZ : Z.Warmed39 s.vm) {aty : ArrayType} (w : (Jvm.Cond.arrayClass (newarray.typeOf aty)).before a0 Z = true) (eT : T.heap = h) {n : Int32} {cap : Nat} (hn : ¬ n < 0) (hcap : n.toNatClampNeg ≤ cap) (hb8 : cap * 8 ≤ 536870912) (hc : cells + 1 ≤ R.cells) (hl : slots + cap ≤ R.slots) (hd : decode c.code pc = .ok (.newarray aty, 2)) (hp : pc + 2 = pc')
    (r : ∀ (T' : State) (h' : Heap) (a : Addr) (cA : ClassId), a = h.size → Stand p l e R s m args below meth c T' locs (cells + 1) (slots + cap) → T'.heap = h' → Ext h h' → Arr Z h' a (newA cA (newarray.typeOf aty) n) (newarray.typeOf aty) → Run p e below Q En T' (mkF m pc' Ls (.ref a :: rest))) : Run p e below Q En T (mkF m pc Ls (.int n :: rest)) := by
  subst hp
  obtain ⟨T', h', cA, X', e', E', A', stp⟩ := newP X hx hZ w eT (g := mkF m pc Ls (.int n :: rest)) rfl hd rfl hn hcap hb8 hc hl
  exact (r T' h' h.size cA rfl X' e' E' A').on stp
theorem r_putFN (X : Stand p l e R s m args below meth c T locs cells slots) (hx : p.tables.exec = Jvm.exec) (hZ : Z.Warmed39 s.vm) {own R0 O n d C : String} {index kk : Nat} {ty : FieldType} {a : Addr} {v v' old : Value} (hown : s.vm.findClass own = some m.cls) (w : (Jvm.Cond.fieldLink own index R0 n d).before a0 Z = true) (via : Via Z R0 O n d) (eT : T.heap = h) (F : Fld Z h a O n d old) (E : Exa Z h a C) (L : (Jvm.Cond.lays C O n d).before a0 Z = true ∨ ((Jvm.Cond.laysFinal C O n d).before a0 Z = true ∧ own = O ∧ meth.name = "<init>")) (wi : (Jvm.Cond.instantiable C kk).before a0 Z = true) (hty : parseFieldDescriptor d = some ty) (hn : narrow ty v = v') (hf : fits ty v' = true) (hd : decode c.code pc = .ok (.putfield index, 3)) (hp : pc + 3 = pc')
    (r : ∀ (T' : State) (h' : Heap), Stand p l e R s m args below meth c T' (locs ++ [⟨a, Jvm.RoadKit.slotOf Z O n d⟩]) cells slots → T'.heap = h' → Wr h h' a (Jvm.RoadKit.slotOf Z O n d) v' → Run p e below Q En T' (mkF m pc' Ls rest)) : Run p e below Q En T (mkF m pc Ls (v :: .ref a :: rest)) := by
  subst hp
  obtain ⟨T', h', X', e', W', stp⟩ := putFN X hx hZ hown w via eT F E L wi hty hn hf (g := mkF m pc Ls (v :: .ref a :: rest)) rfl rfl hd
  exact (r T' h' X' e' W').on stp
theorem r_anewarray (X : Stand p l e R s m args below meth c T locs cells slots) (hx : p.tables.exec = Jvm.exec) (hZ : Z.Warmed39 s.vm) {own C : String} {index : Nat} (hown : s.vm.findClass own = some m.cls) (w1 : (Jvm.Cond.classLink own index C).before a0 Z = true) (w2 : (Jvm.Cond.arrayOver (.object C)).before a0 Z = true) (eT : T.heap = h) {n : Int32} {cap : Nat} (hn : ¬ n < 0) (hcap : n.toNatClampNeg ≤ cap) (hb8 : cap * 8 ≤ 536870912) (hc : cells + 1 ≤ R.cells) (hl : slots + cap ≤ R.slots) (hd : decode c.code pc = .ok (.anewarray index, 3)) (hp : pc + 3 = pc')
    (r : ∀ (T' : State) (h' : Heap) (a : Addr) (cA : ClassId), a = h.size → Stand p l e R s m args below meth c T' locs (cells + 1) (slots + cap) → T'.heap = h' → Ext h h' → Arr Z h' a (newA cA (.object C) n) (.object C) → Ovr Z cA C → Run p e below Q En T' (mkF m pc' Ls (.ref a :: rest))) : Run p e below Q En T (mkF m pc Ls (.int n :: rest)) := by
  subst hp
  obtain ⟨T', h', cA, X', e', E', A', O', stp⟩ := newR X hx hZ hown w1 w2 eT (g := mkF m pc Ls (.int n :: rest)) rfl hd rfl hn hcap hb8 hc hl
  exact (r T' h' h.size cA rfl X' e' E' A' O').on stp
theorem r_iastore (X : Stand p l e R s m args below meth c T locs cells slots) (hx : p.tables.exec = Jvm.exec) (hZ : Z.Warmed39 s.vm) (eT : T.heap = h) {a : Addr} {cl : Cell} {j : Int32} {x : Int32} (A : Arr Z h a cl .int) (hj : ¬ (j < 0 ∨ cl.slots.size ≤ j.toNatClampNeg)) (hd : decode c.code pc = .ok (.iastore, 1)) (hp : pc + 1 = pc')
    (r : ∀ (T' : State) (h' : Heap), Stand p l e R s m args below meth c T' (locs ++ [⟨a, j.toNatClampNeg⟩]) cells slots → T'.heap = h' → Wr h h' a j.toNatClampNeg (.int x) → Run p e below Q En T' (mkF m pc' Ls rest)) : Run p e below Q En T (mkF m pc Ls (.int x :: .int j :: .ref a :: rest)) := by
  subst hp
  obtain ⟨T', h', X', e', W', stp⟩ := stI X hx hZ eT A hj (g := mkF m pc Ls (.int x :: .int j :: .ref a :: rest)) rfl rfl hd
  exact (r T' h' X' e' W').on stp
theorem r_lastore (X : Stand p l e R s m args below meth c T locs cells slots) (hx : p.tables.exec = Jvm.exec) (hZ : Z.Warmed39 s.vm) (eT : T.heap = h) {a : Addr} {cl : Cell} {j : Int32} {x : Int64} (A : Arr Z h a cl .long) (hj : ¬ (j < 0 ∨ cl.slots.size ≤ j.toNatClampNeg)) (hd : decode c.code pc = .ok (.lastore, 1)) (hp : pc + 1 = pc')
    (r : ∀ (T' : State) (h' : Heap), Stand p l e R s m args below meth c T' (locs ++ [⟨a, j.toNatClampNeg⟩]) cells slots → T'.heap = h' → Wr h h' a j.toNatClampNeg (.long x) → Run p e below Q En T' (mkF m pc' Ls rest)) : Run p e below Q En T (mkF m pc Ls (.long x :: .int j :: .ref a :: rest)) := by
  subst hp
  obtain ⟨T', h', X', e', W', stp⟩ := stJ X hx hZ eT A hj (g := mkF m pc Ls (.long x :: .int j :: .ref a :: rest)) rfl rfl hd
  exact (r T' h' X' e' W').on stp
theorem r_castore (X : Stand p l e R s m args below meth c T locs cells slots) (hx : p.tables.exec = Jvm.exec) (hZ : Z.Warmed39 s.vm) (eT : T.heap = h) {a : Addr} {cl : Cell} {j x : Int32} (A : Arr Z h a cl .char) (hj : ¬ (j < 0 ∨ cl.slots.size ≤ j.toNatClampNeg)) (hd : decode c.code pc = .ok (.castore, 1)) (hp : pc + 1 = pc')
    (r : ∀ (T' : State) (h' : Heap), Stand p l e R s m args below meth c T' (locs ++ [⟨a, j.toNatClampNeg⟩]) cells slots → T'.heap = h' → Wr h h' a j.toNatClampNeg (.int (nar .char x)) → Run p e below Q En T' (mkF m pc' Ls rest)) : Run p e below Q En T (mkF m pc Ls (.int x :: .int j :: .ref a :: rest)) := by
  subst hp
  obtain ⟨T', h', X', e', W', stp⟩ := stC X hx hZ eT A hj (g := mkF m pc Ls (.int x :: .int j :: .ref a :: rest)) rfl rfl hd
  exact (r T' h' X' e' W').on stp
theorem r_sastore (X : Stand p l e R s m args below meth c T locs cells slots) (hx : p.tables.exec = Jvm.exec) (hZ : Z.Warmed39 s.vm) (eT : T.heap = h) {a : Addr} {cl : Cell} {j x : Int32} (A : Arr Z h a cl .short) (hj : ¬ (j < 0 ∨ cl.slots.size ≤ j.toNatClampNeg)) (hd : decode c.code pc = .ok (.sastore, 1)) (hp : pc + 1 = pc')
    (r : ∀ (T' : State) (h' : Heap), Stand p l e R s m args below meth c T' (locs ++ [⟨a, j.toNatClampNeg⟩]) cells slots → T'.heap = h' → Wr h h' a j.toNatClampNeg (.int (nar .short x)) → Run p e below Q En T' (mkF m pc' Ls rest)) : Run p e below Q En T (mkF m pc Ls (.int x :: .int j :: .ref a :: rest)) := by
  subst hp
  obtain ⟨T', h', X', e', W', stp⟩ := stS X hx hZ eT A hj (g := mkF m pc Ls (.int x :: .int j :: .ref a :: rest)) rfl rfl hd
  exact (r T' h' X' e' W').on stp
theorem r_bastoreB (X : Stand p l e R s m args below meth c T locs cells slots) (hx : p.tables.exec = Jvm.exec) (hZ : Z.Warmed39 s.vm) (eT : T.heap = h) {a : Addr} {cl : Cell} {j x : Int32} (A : Arr Z h a cl .byte) (hj : ¬ (j < 0 ∨ cl.slots.size ≤ j.toNatClampNeg)) (hd : decode c.code pc = .ok (.bastore, 1)) (hp : pc + 1 = pc')
    (r : ∀ (T' : State) (h' : Heap), Stand p l e R s m args below meth c T' (locs ++ [⟨a, j.toNatClampNeg⟩]) cells slots → T'.heap = h' → Wr h h' a j.toNatClampNeg (.int (nar .byte x)) → Run p e below Q En T' (mkF m pc' Ls rest)) : Run p e below Q En T (mkF m pc Ls (.int x :: .int j :: .ref a :: rest)) := by
  subst hp
  obtain ⟨T', h', X', e', W', stp⟩ := stB X hx hZ eT A hj (g := mkF m pc Ls (.int x :: .int j :: .ref a :: rest)) rfl rfl hd
  exact (r T' h' X' e' W').on stp
theorem r_bastoreZ (X : Stand p l e R s m args below meth c T locs cells slots) (hx : p.tables.exec = Jvm.exec) (hZ : Z.Warmed39 s.vm) (eT : T.heap = h) {a : Addr} {cl : Cell} {j x : Int32} (A : Arr Z h a cl .boolean) (hj : ¬ (j < 0 ∨ cl.slots.size ≤ j.toNatClampNeg)) (hd : decode c.code pc = .ok (.bastore, 1)) (hp : pc + 1 = pc')
    (r : ∀ (T' : State) (h' : Heap), Stand p l e R s m args below meth c T' (locs ++ [⟨a, j.toNatClampNeg⟩]) cells slots → T'.heap = h' → Wr h h' a j.toNatClampNeg (.int (nar .boolean x)) → Run p e below Q En T' (mkF m pc' Ls rest)) : Run p e below Q En T (mkF m pc Ls (.int x :: .int j :: .ref a :: rest)) := by
  subst hp
  obtain ⟨T', h', X', e', W', stp⟩ := stZ X hx hZ eT A hj (g := mkF m pc Ls (.int x :: .int j :: .ref a :: rest)) rfl rfl hd
  exact (r T' h' X' e' W').on stp
theorem r_arraylength (X : Stand p l e R s m args below meth c T locs cells slots) (hx : p.tables.exec = Jvm.exec) (hZ : Z.Warmed39 s.vm) (eT : T.heap = h) {a : Addr} {cl : Cell} {ty : FieldType} {n : Int32} (A : Arr Z h a cl ty) (hn : cl.slots.size.toInt32 = n) (hd : decode c.code pc = .ok (.arraylength, 1)) (hp : pc + 1 = pc') (r : Run p e below Q En T (mkF m pc' Ls (.int n :: rest))) : Run p e below Q En T (mkF m pc Ls (.ref a :: rest)) := by
  subst hp hn; exact r.on fun _ q => X.arraylength hx (by rw [eT]; exact A.1) (State.isArrayOf_alike hZ.alike A.2.1) (g := mkF m pc Ls (.ref a :: rest)) rfl rfl hd _ q
theorem r_iaload (X : Stand p l e R s m args below meth c T locs cells slots) (hx : p.tables.exec = Jvm.exec) (hZ : Z.Warmed39 s.vm) (eT : T.heap = h) {a : Addr} {cl : Cell} {j : Int32} {v : Int32} (A : Arr Z h a cl .int) (hj : ¬ (j < 0 ∨ cl.slots.size ≤ j.toNatClampNeg)) (hat : cl.slots[j.toNatClampNeg]? = some (.int v)) (hd : decode c.code pc = .ok (.iaload, 1)) (hp : pc + 1 = pc') (r : Run p e below Q En T (mkF m pc' Ls (.int v :: rest))) : Run p e below Q En T (mkF m pc Ls (.int j :: .ref a :: rest)) := by
  subst hp; exact r.on fun _ q => X.iaload hx (j := j) (v := .int v) (by rw [eT]; exact A.1) (State.isArrayOf_alike hZ.alike A.2.1) A.2.2 hj hat (g := mkF m pc Ls (.int j :: .ref a :: rest)) rfl rfl hd _ q
theorem r_caload (X : Stand p l e R s m args below meth c T locs cells slots) (hx : p.tables.exec = Jvm.exec) (hZ : Z.Warmed39 s.vm) (eT : T.heap = h) {a : Addr} {cl : Cell} {j : Int32} {v : Int32} (A : Arr Z h a cl .char) (hj : ¬ (j < 0 ∨ cl.slots.size ≤ j.toNatClampNeg)) (hat : cl.slots[j.toNatClampNeg]? = some (.int v)) (hd : decode c.code pc = .ok (.caload, 1)) (hp : pc + 1 = pc') (r : Run p e below Q En T (mkF m pc' Ls (.int v :: rest))) : Run p e below Q En T (mkF m pc Ls (.int j :: .ref a :: rest)) := by
  subst hp; exact r.on fun _ q => X.caload hx (j := j) (v := .int v) (by rw [eT]; exact A.1) (State.isArrayOf_alike hZ.alike A.2.1) A.2.2 hj hat (g := mkF m pc Ls (.int j :: .ref a :: rest)) rfl rfl hd _ q
theorem r_saload (X : Stand p l e R s m args below meth c T locs cells slots) (hx : p.tables.exec = Jvm.exec) (hZ : Z.Warmed39 s.vm) (eT : T.heap = h) {a : Addr} {cl : Cell} {j : Int32} {v : Int32} (A : Arr Z h a cl .short) (hj : ¬ (j < 0 ∨ cl.slots.size ≤ j.toNatClampNeg)) (hat : cl.slots[j.toNatClampNeg]? = some (.int v)) (hd : decode c.code pc = .ok (.saload, 1)) (hp : pc + 1 = pc') (r : Run p e below Q En T (mkF m pc' Ls (.int v :: rest))) : Run p e below Q En T (mkF m pc Ls (.int j :: .ref a :: rest)) := by
  subst hp; exact r.on fun _ q => X.saload hx (j := j) (v := .int v) (by rw [eT]; exact A.1) (State.isArrayOf_alike hZ.alike A.2.1) A.2.2 hj hat (g := mkF m pc Ls (.int j :: .ref a :: rest)) rfl rfl hd _ q
theorem r_baload (X : Stand p l e R s m args below meth c T locs cells slots) (hx : p.tables.exec = Jvm.exec) (hZ : Z.Warmed39 s.vm) (eT : T.heap = h) {a : Addr} {cl : Cell} {j : Int32} {v : Int32} (A : Arr Z h a cl .byte) (hj : ¬ (j < 0 ∨ cl.slots.size ≤ j.toNatClampNeg)) (hat : cl.slots[j.toNatClampNeg]? = some (.int v)) (hd : decode c.code pc = .ok (.baload, 1)) (hp : pc + 1 = pc') (r : Run p e below Q En T (mkF m pc' Ls (.int v :: rest))) : Run p e below Q En T (mkF m pc Ls (.int j :: .ref a :: rest)) := by
  subst hp; exact r.on fun _ q => X.baloadBytes hx (j := j) (v := .int v) (by rw [eT]; exact A.1) (State.isArrayOf_alike hZ.alike A.2.1) A.2.2 hj hat (g := mkF m pc Ls (.int j :: .ref a :: rest)) rfl rfl hd _ q
theorem r_baloadZ (X : Stand p l e R s m args below meth c T locs cells slots) (hx : p.tables.exec = Jvm.exec) (hZ : Z.Warmed39 s.vm) (eT : T.heap = h) {a : Addr} {cl : Cell} {j : Int32} {v : Int32} (A : Arr Z h a cl .boolean) (hj : ¬ (j < 0 ∨ cl.slots.size ≤ j.toNatClampNeg)) (hat : cl.slots[j.toNatClampNeg]? = some (.int v)) (hd : decode c.code pc = .ok (.baload, 1)) (hp : pc + 1 = pc') (r : Run p e below Q En T (mkF m pc' Ls (.int v :: rest))) : Run p e below Q En T (mkF m pc Ls (.int j :: .ref a :: rest)) := by
  subst hp; exact r.on fun _ q => X.baloadBooleans hx (j := j) (v := .int v) (by rw [eT]; exact A.1) (State.isArrayOf_alike hZ.alike A.2.1) A.2.2 hj hat (g := mkF m pc Ls (.int j :: .ref a :: rest)) rfl rfl hd _ q
theorem r_laload (X : Stand p l e R s m args below meth c T locs cells slots) (hx : p.tables.exec = Jvm.exec) (hZ : Z.Warmed39 s.vm) (eT : T.heap = h) {a : Addr} {cl : Cell} {j : Int32} {v : Int64} (A : Arr Z h a cl .long) (hj : ¬ (j < 0 ∨ cl.slots.size ≤ j.toNatClampNeg)) (hat : cl.slots[j.toNatClampNeg]? = some (.long v)) (hd : decode c.code pc = .ok (.laload, 1)) (hp : pc + 1 = pc') (r : Run p e below Q En T (mkF m pc' Ls (.long v :: rest))) : Run p e below Q En T (mkF m pc Ls (.int j :: .ref a :: rest)) := by
  subst hp; exact r.on fun _ q => X.laload hx (j := j) (v := .long v) (by rw [eT]; exact A.1) (State.isArrayOf_alike hZ.alike A.2.1) A.2.2 hj hat (g := mkF m pc Ls (.int j :: .ref a :: rest)) rfl rfl hd _ q
theorem r_ldcS {vm0 : Vm} {k0 nn : Nat} (X : Stand p l e R (s.setVm vm0) m args below meth c T locs cells slots) (hx : p.tables.exec = Jvm.exec) (hZ : Z.Warmed39 vm0) {own text : String} {index : Nat} (hown : vm0.findClass own = some m.cls) (w : (Jvm.Cond.stringLink own index text).before a0 Z = true) (wS : ∀ a ∈ Bundle.stringAtoms, a.before a0 Z = true) (eT : T.heap = h) (hS : s.Since vm0 k0) (hk : k0 ≤ h.size) (hn : 4 * text.toList.length ≤ nn) (hbig : nn ≤ 536870912) (hc : cells + 2 ≤ R.cells) (hl : slots + (nn + 4) ≤ R.slots) (hd : decode c.code pc = .ok (.ldc index, 2)) (hp : pc + 2 = pc')
    (r : ∀ (a : Addr) (T' : State) (h' : Heap) (k1 : Nat), Stand p l e R (s.setVm T'.vm) m args below meth c T' locs (cells + 2) (slots + (nn + 4)) → T'.heap = h' → Ext h h' → s.Since T'.vm k1 → k1 ≤ h'.size → Z.Warmed39 (s.setVm T'.vm).vm → (s.setVm T'.vm).vm.findClass own = some m.cls → Run p e below Q En T' (mkF m pc' Ls (.ref a :: rest))) : Run p e below Q En T (mkF m pc Ls rest) := by
  subst hp
  obtain ⟨a, T', h', k1, X', e', E', hS', hk', hZ', ho', stp⟩ := ldcS X hx hZ hown w wS eT hS hk (g := mkF m pc Ls rest) rfl hd hn hbig hc hl
  exact (r a T' h' k1 X' e' E' hS' hk' hZ' ho').on stp
theorem w_retN {vm1 : Vm} {k1 : Nat} (X : Stand p l e R (s.setVm vm1) m args below meth c T locs cells slots) (hS : s.Since vm1 k1) (hk : k1 ≤ T.heap.size) (hx : p.tables.exec = Jvm.exec) (hlk : meth.locks = false) {t : FieldType} {z w : Int32} (hret : meth.sig.returnType = some t) (ht : t = .boolean ∨ t = .byte ∨ t = .char ∨ t = .short) (hd : decode c.code pc = .ok (.ireturn, 1)) (hn : nar t z = w) (hq : Q (some (.int w)) T.heap locs) (h1 : cells ≤ kc) (h2 : slots ≤ ks) : Run p e below Q (fun o t L => ReturnedEndW s o t L kc ks) T (mkF m pc Ls (.int z :: rest)) := by
  subst hn
  obtain ⟨fs, hr, hrun, hended, h4, h5, h6, h7⟩ := X.leaveW hS hk (v := some (.int (nar t z))) (fun q => by rw [hret] at q; cases q) hlk
  exact ⟨_, _, retN X hx hret ht hd hr, hrun, hended, _, _, rfl, hq, h4, h5, h6, h7.mono h1 h2⟩
theorem w_retV {vm1 : Vm} {k1 : Nat} (X : Stand p l e R (s.setVm vm1) m args below meth c T locs cells slots) (hS : s.Since vm1 k1) (hk : k1 ≤ T.heap.size) (hx : p.tables.exec = Jvm.exec) (hlk : meth.locks = false) {t : FieldType} {w : Value} {i : Instr} (hret : meth.sig.returnType = some t) (hn : narrow t w = w)
    (hi : (i = .ireturn ∧ (t = .int ∨ t = .boolean ∨ t = .byte ∨ t = .char ∨ t = .short) ∧ ∃ z, w = .int z) ∨ (i = .lreturn ∧ t = .long ∧ ∃ z, w = .long z) ∨ (i = .dreturn ∧ t = .double ∧ ∃ z, w = .double z) ∨ (i = .freturn ∧ t = .float ∧ ∃ z, w = .float z) ∨ (i = .areturn ∧ t.isReference = true ∧ w.isRef = true))
    (hd : decode c.code pc = .ok (i, 1)) (hq : Q (some w) T.heap locs) (h1 : cells ≤ kc) (h2 : slots ≤ ks) : Run p e below Q (fun o t L => ReturnedEndW s o t L kc ks) T (mkF m pc Ls (w :: rest)) := by
  obtain ⟨fs, hr, hrun, hended, h4, h5, h6, h7⟩ := X.leaveW hS hk (v := some w) (fun q => by rw [hret] at q; cases q) hlk
  exact ⟨_, _, retOut X hx hret hn hi hd hr, hrun, hended, _, _, rfl, hq, h4, h5, h6, h7.mono h1 h2⟩
theorem w_ret0 {vm1 : Vm} {k1 : Nat} (X : Stand p l e R (s.setVm vm1) m args below meth c T locs cells slots) (hS : s.Since vm1 k1) (hk : k1 ≤ T.heap.size) (hx : p.tables.exec = Jvm.exec) (hlk : meth.locks = false) (hret : meth.sig.returnType = none) (hd : decode c.code pc = .ok (.return_, 1)) (hq : Q none T.heap locs) (h1 : cells ≤ kc) (h2 : slots ≤ ks) : Run p e below Q (fun o t L => ReturnedEndW s o t L kc ks) T (mkF m pc Ls []) := by
  obtain ⟨fs, hr, hrun, hended, h4, h5, h6, h7⟩ := X.leaveW hS hk (v := none) (fun _ => rfl) hlk
  exact ⟨_, _, X.returnOut hx hret hd hr, hrun, hended, _, _, rfl, hq, h4, h5, h6, h7.mono h1 h2⟩
abbrev MetW (l : Launch) (Z : State) (y : MethodName) (bytes : ByteArray) (maxL : Nat) (ret : Option FieldType) (ws : List Jvm.Cond) (rm : Room) (as' : Array Value) (h0 : Heap) (Q : Option Value → Heap → List Loc → Prop) (kc ks : Nat) : Prop :=
  MetFree l y (head1 (Jvm.Cond.code y bytes maxL ret :: ws) rm) (fun a U => a = as' ∧ Z.Warmed39 U.vm ∧ U.heap = h0) (fun _ _ _ _ _ => True) (fun _ U o U' => ∃ v L, o = .returned v ∧ Q v U'.heap L ∧ ReturnedEndW U o U' L kc ks)
theorem metW_of {y : MethodName} {bytes : ByteArray} {maxL : Nat} {ret : Option FieldType} {ws : List Jvm.Cond} {rm : Room} {as' : Array Value} {h0 : Heap} {Q : Option Value → Heap → List Loc → Prop} {kc ks : Nat} {f0 : MethodId → JFrame} (hpn : plainFor y = true)
    (hef : ∀ m, entryFrame m as' maxL = f0 m)
    (body : ∀ (p : Program) (e : Env) (s : State) (m : MethodId) (below : List Frame) (meth : Method) (c : Code) (s₁ : State), Stand p l e rm s m as' below meth c s₁ [] 0 0 → p.tables.exec = Jvm.exec → c.code = bytes → c.maxLocals = maxL → meth.sig.returnType = ret → meth.locks = false → s.vm.findClass y.cls = some m.cls → meth.name = y.name → Z.Warmed39 s.vm → s₁.heap = h0 → Run p e below Q (fun o t L => ReturnedEndW s o t L kc ks) s₁ (f0 m)) :
    MetW l Z y bytes maxL ret ws rm as' h0 Q kc ks := by
  refine MetFree.of_bodySF (code := bytes) (maxLocals := maxL) (ret := ret) hpn hisR ?_
  intro p e s m args below meth c s₁ Bd hml0 hP hK
  obtain ⟨rfl, hZ, hh⟩ := hP
  obtain ⟨s₂, o, r⟩ := body p e s m below meth c s₁ (Stand.of_body Bd) Bd.exec Bd.bytes hml0 Bd.returns (BodyLoose.notSynchronized Bd) (findClass_of_methodNamed Bd.named) (name_of_methodNamed Bd.named Bd.method).1 hZ (by rw [← hh, Bd.state]; rfl)
  rw [hef m]
  exact ⟨s₂, o, r⟩
end Core
section Arrays
variable {p : Program} {l : Launch} {e : Env} {R : Room} {s : State} {m : MethodId} {args : Array Value} {below : List Frame} {meth : Method} {c : Code} {T T' : State} {locs : List Loc} {cells slots : Nat} {Q : Option Value → Heap → List Loc → Prop} {En : Outcome → State → List Loc → Prop} {kc ks : Nat} {Z : State} {a0 : Array Value} {h h' : Heap} {Ls : Array Slot} {st rest : List Value} {pc pc' : Nat} {a b : Addr} {ty : FieldType} {n : Nat} {f g : Nat → Value} {F : Nat → Int32} {sl : Nat} {v : Value} {j : Int32}
/-- an array of n places and what lies in each -/
def Ary (Z : State) (h : Heap) (a : Addr) (ty : FieldType) (n : Nat) (f : Nat → Value) : Prop := ∃ c : Cell, Arr Z h a c ty ∧ c.slots.size = n ∧ ∀ i, i < n → c.slots[i]? = some (f i)
theorem Ary.lt (A : Ary Z h a ty n f) : a < h.size := by obtain ⟨c, A, -⟩ := A; exact A.lt
theorem Ary.ext (A : Ary Z h a ty n f) (E : Ext h h') : Ary Z h' a ty n f := by obtain ⟨c, A, r⟩ := A; exact ⟨c, A.ext E, r⟩
theorem Ary.other (A : Ary Z h b ty n f) (W : Wr h h' a sl v) (q : b ≠ a) : Ary Z h' b ty n f := by obtain ⟨c, A, r⟩ := A; exact ⟨c, A.other W q, r⟩
theorem Ary.keep {ws : List Addr} (A : Ary Z h a ty n f) (K : Keep h h' ws) (q : a ∉ ws) : Ary Z h' a ty n f := by obtain ⟨c, A, r⟩ := A; exact ⟨c, ⟨K.2.1 a c A.1 q, A.2⟩, r⟩
theorem Ary.congr (A : Ary Z h a ty n f) (q : ∀ i, i < n → f i = g i) : Ary Z h a ty n g := by obtain ⟨c, A, r1, r2⟩ := A; exact ⟨c, A, r1, fun i hi => by rw [r2 i hi, q i hi]⟩
theorem Ary.set (A : Ary Z h a ty n f) (W : Wr h h' a j.toNatClampNeg v) : Ary Z h' a ty n (fun i => if i = j.toInt.toNat then v else f i) := by
  obtain ⟨c, A, r1, r2⟩ := A
  refine ⟨_, A.same W, by rw [sz_set]; exact r1, fun i hi => ?_⟩
  show (c.slots.setIfInBounds j.toNatClampNeg v)[i]? = _
  have ej : j.toNatClampNeg = j.toInt.toNat := rfl
  by_cases q : i = j.toInt.toNat
  · simp only [q, if_true]; rw [← ej]; rw [ej, ← q]; simp [Array.getElem?_setIfInBounds, r1, hi]
  · simp only [q, if_false]; rw [Array.getElem?_setIfInBounds_ne (by rw [ej]; exact fun y => q y.symm)]; exact r2 i hi
theorem Ary.setI {x : Int32} (A : Ary Z h a ty n (fun i => .int (F i))) (W : Wr h h' a j.toNatClampNeg (.int x)) : Ary Z h' a ty n (fun i => .int (if i = j.toInt.toNat then x else F i)) :=
  (A.set W).congr fun i _ => by
    by_cases q : i = j.toInt.toNat
    · simp only [if_pos q]
    · simp only [if_neg q]
theorem Ary.setJ {x : Int64} {F : Nat → Int64} (A : Ary Z h a ty n (fun i => .long (F i))) (W : Wr h h' a j.toNatClampNeg (.long x)) : Ary Z h' a ty n (fun i => .long (if i = j.toInt.toNat then x else F i)) :=
  (A.set W).congr fun i _ => by
    by_cases q : i = j.toInt.toNat
    · simp only [if_pos q]
    · simp only [if_neg q]
theorem Ary.new {cA : ClassId} {z : Int32} (A : Arr Z h a (newA cA ty z) ty) (hz : z.toInt.toNat = n) : Ary Z h a ty n (fun _ => defaultValue ty) := by
  have ej : z.toNatClampNeg = z.toInt.toNat := rfl
  refine ⟨_, A, by rw [sz_new]; exact hz, fun i hi => ?_⟩
  show (Array.replicate z.toNatClampNeg (defaultValue ty))[i]? = _
  rw [ej, hz]; simp [hi]
theorem own_inb {cl : Cell} (h1 : cl.slots.size = n) (h0 : 0 ≤ j.toInt) (h2 : j.toInt < n) : ¬ (j < 0 ∨ cl.slots.size ≤ j.toNatClampNeg) := by
  rw [Int32.lt_iff_toInt_lt, show (0 : Int32).toInt = 0 from rfl]
  have ej : j.toNatClampNeg = j.toInt.toNat := rfl
  omega
theorem own_at {cl : Cell} (h3 : ∀ i, i < n → cl.slots[i]? = some (f i)) (h0 : 0 ≤ j.toInt) (h2 : j.toInt < n) (hv : f j.toInt.toNat = v) : cl.slots[j.toNatClampNeg]? = some v := by
  rw [← hv]; exact h3 _ (show j.toInt.toNat < n by omega)
theorem r_len (X : Stand p l e R s m args below meth c T locs cells slots) (hx : p.tables.exec = Jvm.exec) (hZ : Z.Warmed39 s.vm) (eT : T.heap = h) {z : Int32} (A : Ary Z h a ty n f) (hn : z.toInt = n) (hd : decode c.code pc = .ok (.arraylength, 1)) (hp : pc + 1 = pc') (r : Run p e below Q En T (mkF m pc' Ls (.int z :: rest))) : Run p e below Q En T (mkF m pc Ls (.ref a :: rest)) := by
  obtain ⟨cl, A, r1, -⟩ := A
  refine r_arraylength X hx hZ eT A ?_ hd hp r
  rw [r1]
  have q : z.toInt.toNat = n := by omega
  rw [← q]
  exact (back32 (n := z) (by rw [Int32.lt_iff_toInt_lt, show (0 : Int32).toInt = 0 from rfl]; omega)).1
theorem q_iaload (X : Stand p l e R s m args below meth c T locs cells slots) (hx : p.tables.exec = Jvm.exec) (hZ : Z.Warmed39 s.vm) (eT : T.heap = h) {v : Int32} (A : Ary Z h a .int n f) (h0 : 0 ≤ j.toInt) (h1 : j.toInt < n) (hv : f j.toInt.toNat = .int v) (hd : decode c.code pc = .ok (.iaload, 1)) (hp : pc + 1 = pc') (r : Run p e below Q En T (mkF m pc' Ls (.int v :: rest))) : Run p e below Q En T (mkF m pc Ls (.int j :: .ref a :: rest)) := by
  obtain ⟨cl, A, r1, r2⟩ := A
  exact r_iaload X hx hZ eT A (own_inb r1 h0 h1) (own_at r2 h0 h1 hv) hd hp r
theorem q_caload (X : Stand p l e R s m args below meth c T locs cells slots) (hx : p.tables.exec = Jvm.exec) (hZ : Z.Warmed39 s.vm) (eT : T.heap = h) {v : Int32} (A : Ary Z h a .char n f) (h0 : 0 ≤ j.toInt) (h1 : j.toInt < n) (hv : f j.toInt.toNat = .int v) (hd : decode c.code pc = .ok (.caload, 1)) (hp : pc + 1 = pc') (r : Run p e below Q En T (mkF m pc' Ls (.int v :: rest))) : Run p e below Q En T (mkF m pc Ls (.int j :: .ref a :: rest)) := by
  obtain ⟨cl, A, r1, r2⟩ := A
  exact r_caload X hx hZ eT A (own_inb r1 h0 h1) (own_at r2 h0 h1 hv) hd hp r
theorem q_saload (X : Stand p l e R s m args below meth c T locs cells slots) (hx : p.tables.exec = Jvm.exec) (hZ : Z.Warmed39 s.vm) (eT : T.heap = h) {v : Int32} (A : Ary Z h a .short n f) (h0 : 0 ≤ j.toInt) (h1 : j.toInt < n) (hv : f j.toInt.toNat = .int v) (hd : decode c.code pc = .ok (.saload, 1)) (hp : pc + 1 = pc') (r : Run p e below Q En T (mkF m pc' Ls (.int v :: rest))) : Run p e below Q En T (mkF m pc Ls (.int j :: .ref a :: rest)) := by
  obtain ⟨cl, A, r1, r2⟩ := A
  exact r_saload X hx hZ eT A (own_inb r1 h0 h1) (own_at r2 h0 h1 hv) hd hp r
theorem q_baload (X : Stand p l e R s m args below meth c T locs cells slots) (hx : p.tables.exec = Jvm.exec) (hZ : Z.Warmed39 s.vm) (eT : T.heap = h) {v : Int32} (A : Ary Z h a .byte n f) (h0 : 0 ≤ j.toInt) (h1 : j.toInt < n) (hv : f j.toInt.toNat = .int v) (hd : decode c.code pc = .ok (.baload, 1)) (hp : pc + 1 = pc') (r : Run p e below Q En T (mkF m pc' Ls (.int v :: rest))) : Run p e below Q En T (mkF m pc Ls (.int j :: .ref a :: rest)) := by
  obtain ⟨cl, A, r1, r2⟩ := A
  exact r_baload X hx hZ eT A (own_inb r1 h0 h1) (own_at r2 h0 h1 hv) hd hp r
theorem q_baloadZ (X : Stand p l e R s m args below meth c T locs cells slots) (hx : p.tables.exec = Jvm.exec) (hZ : Z.Warmed39 s.vm) (eT : T.heap = h) {v : Int32} (A : Ary Z h a .boolean n f) (h0 : 0 ≤ j.toInt) (h1 : j.toInt < n) (hv : f j.toInt.toNat = .int v) (hd : decode c.code pc = .ok (.baload, 1)) (hp : pc + 1 = pc') (r : Run p e below Q En T (mkF m pc' Ls (.int v :: rest))) : Run p e below Q En T (mkF m pc Ls (.int j :: .ref a :: rest)) := by
  obtain ⟨cl, A, r1, r2⟩ := A
  exact r_baloadZ X hx hZ eT A (own_inb r1 h0 h1) (own_at r2 h0 h1 hv) hd hp r
theorem q_laload (X : Stand p l e R s m args below meth c T locs cells slots) (hx : p.tables.exec = Jvm.exec) (hZ : Z.Warmed39 s.vm) (eT : T.heap = h) {v : Int64} (A : Ary Z h a .long n f) (h0 : 0 ≤ j.toInt) (h1 : j.toInt < n) (hv : f j.toInt.toNat = .long v) (hd : decode c.code pc = .ok (.laload, 1)) (hp : pc + 1 = pc') (r : Run p e below Q En T (mkF m pc' Ls (.long v :: rest))) : Run p e below Q En T (mkF m pc Ls (.int j :: .ref a :: rest)) := by
  obtain ⟨cl, A, r1, r2⟩ := A
  exact r_laload X hx hZ eT A (own_inb r1 h0 h1) (own_at r2 h0 h1 hv) hd hp r
theorem q_iastore (X : Stand p l e R s m args below meth c T locs cells slots) (hx : p.tables.exec = Jvm.exec) (hZ : Z.Warmed39 s.vm) (eT : T.heap = h) {x : Int32} {F : Nat → Int32} (A : Ary Z h a .int n (fun i => .int (F i))) (h0 : 0 ≤ j.toInt) (h1 : j.toInt < n) (hd : decode c.code pc = .ok (.iastore, 1)) (hp : pc + 1 = pc')
    (r : ∀ (T' : State) (h' : Heap), Stand p l e R s m args below meth c T' (locs ++ [⟨a, j.toNatClampNeg⟩]) cells slots → T'.heap = h' → Wr h h' a j.toNatClampNeg (.int x) → Ary Z h' a .int n (fun i => .int (if i = j.toInt.toNat then x else F i)) → Run p e below Q En T' (mkF m pc' Ls rest)) : Run p e below Q En T (mkF m pc Ls (.int x :: .int j :: .ref a :: rest)) := by
  have A' := A
  obtain ⟨cl, A, r1, r2⟩ := A
  exact r_iastore X hx hZ eT A (own_inb r1 h0 h1) hd hp fun T' h' X' e' W' => r T' h' X' e' W' (A'.setI W')
theorem q_lastore (X : Stand p l e R s m args below meth c T locs cells slots) (hx : p.tables.exec = Jvm.exec) (hZ : Z.Warmed39 s.vm) (eT : T.heap = h) {x : Int64} {F : Nat → Int64} (A : Ary Z h a .long n (fun i => .long (F i))) (h0 : 0 ≤ j.toInt) (h1 : j.toInt < n) (hd : decode c.code pc = .ok (.lastore, 1)) (hp : pc + 1 = pc')
    (r : ∀ (T' : State) (h' : Heap), Stand p l e R s m args below meth c T' (locs ++ [⟨a, j.toNatClampNeg⟩]) cells slots → T'.heap = h' → Wr h h' a j.toNatClampNeg (.long x) → Ary Z h' a .long n (fun i => .long (if i = j.toInt.toNat then x else F i)) → Run p e below Q En T' (mkF m pc' Ls rest)) : Run p e below Q En T (mkF m pc Ls (.long x :: .int j :: .ref a :: rest)) := by
  have A' := A
  obtain ⟨cl, A, r1, r2⟩ := A
  exact r_lastore X hx hZ eT A (own_inb r1 h0 h1) hd hp fun T' h' X' e' W' => r T' h' X' e' W' (A'.setJ W')
theorem q_castore (X : Stand p l e R s m args below meth c T locs cells slots) (hx : p.tables.exec = Jvm.exec) (hZ : Z.Warmed39 s.vm) (eT : T.heap = h) {x w : Int32} (A : Ary Z h a .char n (fun i => .int (F i))) (h0 : 0 ≤ j.toInt) (h1 : j.toInt < n) (hn : nar .char x = w) (hd : decode c.code pc = .ok (.castore, 1)) (hp : pc + 1 = pc')
    (r : ∀ (T' : State) (h' : Heap), Stand p l e R s m args below meth c T' (locs ++ [⟨a, j.toNatClampNeg⟩]) cells slots → T'.heap = h' → Wr h h' a j.toNatClampNeg (.int w) → Ary Z h' a .char n (fun i => .int (if i = j.toInt.toNat then w else F i)) → Run p e below Q En T' (mkF m pc' Ls rest)) : Run p e below Q En T (mkF m pc Ls (.int x :: .int j :: .ref a :: rest)) := by
  subst hn
  have A' := A
  obtain ⟨cl, A, r1, r2⟩ := A
  exact r_castore X hx hZ eT A (own_inb r1 h0 h1) hd hp fun T' h' X' e' W' => r T' h' X' e' W' (A'.setI W')
theorem q_sastore (X : Stand p l e R s m args below meth c T locs cells slots) (hx : p.tables.exec = Jvm.exec) (hZ : Z.Warmed39 s.vm) (eT : T.heap = h) {x w : Int32} (A : Ary Z h a .short n (fun i => .int (F i))) (h0 : 0 ≤ j.toInt) (h1 : j.toInt < n) (hn : nar .short x = w) (hd : decode c.code pc = .ok (.sastore, 1)) (hp : pc + 1 = pc')
    (r : ∀ (T' : State) (h' : Heap), Stand p l e R s m args below meth c T' (locs ++ [⟨a, j.toNatClampNeg⟩]) cells slots → T'.heap = h' → Wr h h' a j.toNatClampNeg (.int w) → Ary Z h' a .short n (fun i => .int (if i = j.toInt.toNat then w else F i)) → Run p e below Q En T' (mkF m pc' Ls rest)) : Run p e below Q En T (mkF m pc Ls (.int x :: .int j :: .ref a :: rest)) := by
  subst hn
  have A' := A
  obtain ⟨cl, A, r1, r2⟩ := A
  exact r_sastore X hx hZ eT A (own_inb r1 h0 h1) hd hp fun T' h' X' e' W' => r T' h' X' e' W' (A'.setI W')
theorem q_bastoreB (X : Stand p l e R s m args below meth c T locs cells slots) (hx : p.tables.exec = Jvm.exec) (hZ : Z.Warmed39 s.vm) (eT : T.heap = h) {x w : Int32} (A : Ary Z h a .byte n (fun i => .int (F i))) (h0 : 0 ≤ j.toInt) (h1 : j.toInt < n) (hn : nar .byte x = w) (hd : decode c.code pc = .ok (.bastore, 1)) (hp : pc + 1 = pc')
    (r : ∀ (T' : State) (h' : Heap), Stand p l e R s m args below meth c T' (locs ++ [⟨a, j.toNatClampNeg⟩]) cells slots → T'.heap = h' → Wr h h' a j.toNatClampNeg (.int w) → Ary Z h' a .byte n (fun i => .int (if i = j.toInt.toNat then w else F i)) → Run p e below Q En T' (mkF m pc' Ls rest)) : Run p e below Q En T (mkF m pc Ls (.int x :: .int j :: .ref a :: rest)) := by
  subst hn
  have A' := A
  obtain ⟨cl, A, r1, r2⟩ := A
  exact r_bastoreB X hx hZ eT A (own_inb r1 h0 h1) hd hp fun T' h' X' e' W' => r T' h' X' e' W' (A'.setI W')
theorem q_bastoreZ (X : Stand p l e R s m args below meth c T locs cells slots) (hx : p.tables.exec = Jvm.exec) (hZ : Z.Warmed39 s.vm) (eT : T.heap = h) {x w : Int32} (A : Ary Z h a .boolean n (fun i => .int (F i))) (h0 : 0 ≤ j.toInt) (h1 : j.toInt < n) (hn : nar .boolean x = w) (hd : decode c.code pc = .ok (.bastore, 1)) (hp : pc + 1 = pc')
    (r : ∀ (T' : State) (h' : Heap), Stand p l e R s m args below meth c T' (locs ++ [⟨a, j.toNatClampNeg⟩]) cells slots → T'.heap = h' → Wr h h' a j.toNatClampNeg (.int w) → Ary Z h' a .boolean n (fun i => .int (if i = j.toInt.toNat then w else F i)) → Run p e below Q En T' (mkF m pc' Ls rest)) : Run p e below Q En T (mkF m pc Ls (.int x :: .int j :: .ref a :: rest)) := by
  subst hn
  have A' := A
  obtain ⟨cl, A, r1, r2⟩ := A
  exact r_bastoreZ X hx hZ eT A (own_inb r1 h0 h1) hd hp fun T' h' X' e' W' => r T' h' X' e' W' (A'.setI W')
end Arrays
section Facts2
variable {Z : State} {h h' h0 : Heap} {ws : List Addr} {C n d : String} {v : Value} {a b : Addr}
theorem own_staKeep (F : Sta Z h C n d v) (K : Keep h h' ws) (q : ∀ x ∈ ws, ∃ c : Cell, h[x]? = some c ∧ c.vm.isStatics = false) : Sta Z h' C n d v := by
  obtain ⟨cf, i, k, f, st, cell, h1, h2, h3, h4, h5, h6, h7⟩ := F
  refine ⟨cf, i, k, f, st, cell, h1, h2, h3, h4, K.2.1 st cell h5 fun m => ?_, h6, h7⟩
  obtain ⟨c, e1, e2⟩ := q _ m
  cases h5.symm.trans e1
  rw [e2] at h6; cases h6
theorem own_exaS (E : Exa Z h a C) : ∃ c : Cell, h[a]? = some c ∧ c.vm.isStatics = false := by
  obtain ⟨c, _, h1, -, -, h4, -⟩ := E; exact ⟨c, h1, h4⟩
theorem own_arrS {c : Cell} {ty : FieldType} (A : Arr Z h a c ty) : ∃ c : Cell, h[a]? = some c ∧ c.vm.isStatics = false := ⟨c, A.1, A.plain⟩
theorem own_aryS {ty : FieldType} {m : Nat} {f : Nat → Value} (A : Ary Z h a ty m f) : ∃ c : Cell, h[a]? = some c ∧ c.vm.isStatics = false := by
  obtain ⟨c, A, -⟩ := A; exact own_arrS A
theorem own_staExt (F : Sta Z h C n d v) (E : Ext h h') : Sta Z h' C n d v := Sta.ext E F
theorem own_kext {E : Ext h h'} : Keep h h' [] := ⟨E.1, fun x c q _ => E.2 x c q, fun x c q => ⟨c, E.2 x c q, rfl, rfl, rfl⟩⟩
end Facts2
section Copy
variable {p : Program} {l : Launch} {e : Env} {R : Room} {s : State} {m : MethodId} {args : Array Value} {below : List Frame} {meth : Method} {c : Code} {T T' : State} {locs : List Loc} {cells slots : Nat} {Q : Option Value → Heap → List Loc → Prop} {En : Outcome → State → List Loc → Prop} {kc ks : Nat} {Z : State} {a0 : Array Value} {h h' : Heap} {Ls : Array Slot} {st rest : List Value} {pc pc' : Nat} {a b : Addr} {ty : FieldType} {n n' : Nat} {f g : Nat → Value}
theorem own_toArv {z : Int32} {d : Value} (A : Ary Z h a ty n f) (hz : z.toInt = n) (hf : ∀ i, i < n → fits ty (f i) = true) : ∃ k, Arv Z h a k ty z ((List.range n).map f) d := by
  obtain ⟨c, A, r1, r2⟩ := A
  have ez : z.toNatClampNeg = n := by show z.toInt.toNat = n; omega
  refine ⟨c.cls, c, A, rfl, by rw [r1, ez], by rw [Int32.lt_iff_toInt_lt, show (0 : Int32).toInt = 0 from rfl]; omega, fun i hi => ?_, fun i hi => ?_⟩
  · rw [r1] at hi
    rw [r2 i hi]; simp [List.getD, hi]
  · rw [r1] at hi
    have := hf i hi
    simpa [List.getD, hi] using this
theorem own_ofArv {z : Int32} {k : ClassId} {vs : List Value} {d : Value} (A : Arv Z h a k ty z vs d) (hz : z.toInt = n) : Ary Z h a ty n (fun i => vs.getD i d) := by
  obtain ⟨c, A, -, r1, -, r2, -⟩ := A
  have ez : z.toNatClampNeg = n := by show z.toInt.toNat = n; omega
  rw [ez] at r1
  exact ⟨c, A, r1, fun i hi => r2 i (by rw [r1]; exact hi)⟩
theorem own_cpl (vd us : List Value) (d : Value) (dp nn : Nat) (h1 : us.length = nn) (h2 : dp + nn ≤ vd.length) (i : Nat) : (vd.take dp ++ us ++ vd.drop (dp + nn)).getD i d = if dp ≤ i ∧ i < dp + nn then us.getD (i - dp) d else vd.getD i d := by
  have lt : (vd.take dp).length = dp := by rw [List.length_take]; omega
  simp only [List.getD_eq_getElem?_getD]
  by_cases q1 : i < dp
  · rw [if_neg (by omega), List.getElem?_append_left (by rw [List.length_append, lt]; omega), List.getElem?_append_left (by rw [lt]; omega), List.getElem?_take_of_lt q1]
  · by_cases q2 : i < dp + nn
    · rw [if_pos ⟨by omega, q2⟩, List.getElem?_append_left (by rw [List.length_append, lt]; omega), List.getElem?_append_right (by rw [lt]; omega), lt]
    · rw [if_neg (by omega), List.getElem?_append_right (by rw [List.length_append, lt]; omega), List.length_append, lt, h1, List.getElem?_drop, show dp + nn + (i - (dp + nn)) = i by omega]
theorem own_rng (n i : Nat) (f : Nat → Value) (d : Value) (h : i < n) : ((List.range n).map f).getD i d = f i := by
  simp [List.getD_eq_getElem?_getD, h]
theorem r_arraycopy (X : Stand p l e R s m args below meth c T locs cells slots) (hx : p.tables.exec = Jvm.exec) (hZ : Z.Warmed39 s.vm) {own : String} {index : Nat} (hown : s.vm.findClass own = some m.cls)
    (w1 : (Jvm.Cond.methodLink own index Jvm.Stand.acN).before a0 Z = true) (w2 : (Jvm.Cond.native Jvm.Stand.acN).before a0 Z = true) (w3 : (Jvm.Cond.static Jvm.Stand.acN).before a0 Z = true) (w4 : (Jvm.Cond.initialized "java/lang/System").before a0 Z = true) (eT : T.heap = h)
    {z z' sp dp nn : Int32} {n0 W : Nat} (A : Ary Z h a ty n f) (B : Ary Z h b ty n' g) (hz : z.toInt = n) (hz' : z'.toInt = n') (hk : refKind ty = false) (fa : ∀ i, i < n → fits ty (f i) = true) (fb : ∀ i, i < n' → fits ty (g i) = true)
    (h1 : 0 ≤ sp.toInt) (h2 : 0 ≤ dp.toInt) (h3 : 0 ≤ nn.toInt) (h4 : sp.toInt + nn.toInt ≤ n) (h5 : dp.toInt + nn.toInt ≤ n') (N : Fr n0 locs) (ge : n0 ≤ b) (hsz : Ls.size = c.maxLocals)
    (hf : 1 ≤ R.frames) (hW : (rest.map fun v => v.category).sum = W) (hlo : W + (nativeFrameWords "java/lang/System" "arraycopy" 5 + 11) ≤ R.locals) (hd : decode c.code pc = .ok (.invokestatic index, 3)) (hp : pc + 3 = pc')
    (r : ∀ (T' : State) (h' : Heap) (L : List Loc), Stand p l e R s m args below meth c T' L cells slots → T'.heap = h' → Fr n0 L → Keep h h' [b] → Ary Z h' b ty n' (fun i => if dp.toInt.toNat ≤ i ∧ i < dp.toInt.toNat + nn.toInt.toNat then f (sp.toInt.toNat + (i - dp.toInt.toNat)) else g i) → Run p e below Q En T' (mkF m pc' Ls rest)) :
    Run p e below Q En T (mkF m pc Ls (.int nn :: .int dp :: .ref b :: .int sp :: .ref a :: rest)) := by
  subst hp
  have lt0 : ∀ {x : Int32}, 0 ≤ x.toInt → ¬ x < 0 := fun {x} q => by rw [Int32.lt_iff_toInt_lt, show (0 : Int32).toInt = 0 from rfl]; omega
  have es : sp.toNatClampNeg = sp.toInt.toNat := rfl
  have ed : dp.toNatClampNeg = dp.toInt.toNat := rfl
  have en : nn.toNatClampNeg = nn.toInt.toNat := rfl
  have ez : z.toNatClampNeg = n := by show z.toInt.toNat = n; omega
  have ez' : z'.toNatClampNeg = n' := by show z'.toInt.toNat = n'; omega
  obtain ⟨k1, A'⟩ := own_toArv (d := .int 0) A hz fa
  obtain ⟨k2, B'⟩ := own_toArv (d := .int 0) B hz' fb
  obtain ⟨T', h', L, X', e', N', K', C', stp⟩ := cpA X hx hZ hown w1 w2 w3 w4 eT A' B' (Or.inl ⟨rfl, hk⟩) (lt0 h1) (lt0 h2) (lt0 h3) (by rw [es, en, ez]; omega) (by rw [ed, en, ez']; omega) rfl (by rw [ed, en]; simp; omega) N ge (g := mkF m pc Ls (.int nn :: .int dp :: .ref b :: .int sp :: .ref a :: rest)) rfl hsz rfl hd hf (W := W) (by show 2 * 0 + _ ≤ _; omega) hlo
  refine (r T' h' L X' e' N' K' ((own_ofArv C' hz').congr fun i hi => ?_)).on stp
  rw [ed, en, es]
  rw [own_cpl _ _ _ _ _ (by simp) (by simp; omega)]
  by_cases q : dp.toInt.toNat ≤ i ∧ i < dp.toInt.toNat + nn.toInt.toNat
  · rw [if_pos q, if_pos q, own_rng _ _ _ _ (by omega), own_rng _ _ _ _ (by omega)]
  · rw [if_neg q, if_neg q, own_rng _ _ _ _ hi]
end Copy

def own_u3 (F : Nat → Int64) (k : Nat) (o g r : Int64) : Nat → Int64 := fun i => if i = 3 * k + 2 then r else if i = 3 * k + 1 then g else if i = 3 * k then o else F i
def own_cp (F : Nat → Int64) (n : Nat) : Nat → Int64 := fun i => if i < n then F i else 0
theorem d6_0 : decode jdk_29_method_69_code 0 = .ok (.iload_n 0, 1) := by decide +kernel
theorem d6_1 : decode jdk_29_method_69_code 1 = .ok (.iload_n 1, 1) := by decide +kernel
theorem d6_2 : decode jdk_29_method_69_code 2 = .ok (.if_icmp .gt 7, 3) := by decide +kernel
theorem d6_9 : decode jdk_29_method_69_code 9 = .ok (.iload_n 1, 1) := by decide +kernel
theorem d6_10 : decode jdk_29_method_69_code 10 = .ok (.ireturn, 1) := by decide +kernel
theorem d6_5 : decode jdk_29_method_69_code 5 = .ok (.iload_n 0, 1) := by decide +kernel
theorem d6_6 : decode jdk_29_method_69_code 6 = .ok (.goto 4, 3) := by decide +kernel
theorem ef_rmMin (m : MethodId) (x0 : Int32) (x1 : Int32) : entryFrame m #[(.int x0), (.int x1)] 2 = mkF m 0 #[.val (.int x0), .val (.int x1)] [] := by first | (simp [entryFrame, mkF, argsToLocals, Value.category, maxLocals]; done) | rfl
set_option maxRecDepth 65536 in
set_option maxHeartbeats 40000000 in
theorem rmMin (l : Launch) (Z : State) (a0 : Array Value) (hw : ∀ d ∈ tables_1, d.before a0 Z = true) (ws : List Jvm.Cond) (x y : Int32) (h0 : Heap) (n0 : Nat) (Z0 : n0 ≤ h0.size)  :
    Met l Z (⟨"java/lang/Math", "min", "(II)I"⟩ : MethodName) jdk_29_method_69_code 2 (some .int) ws ({ frames := 0, cells := 0, slots := 0, locals := 0 } : Room) #[(.int x), (.int y)] h0 (fun v h L => v = some (.int (if x.toInt ≤ y.toInt then x else y)) ∧ Fr n0 L ∧ h = h0) 0 0 := by
  refine met_of (by decide +kernel) (f0 := fun m => (mkF m 0 #[.val (.int x), .val (.int y)] [])) (fun m => ef_rmMin m x y) ?_
  intro p e s m below meth c s₁ X0 hx hby hml hret hlk hown hnm hZ e0
  replace hown : s.vm.findClass "java/lang/Math" = some m.cls := hown
  have N0 := Fr.nil n0
  refine r_iloadN X0.here hx (hb hby d6_0) rfl (pc' := 1) rfl ?_
  refine r_iloadN X0.here hx (hb hby d6_1) rfl (pc' := 2) rfl ?_
  refine r_if_gt X0.here hx (hb hby d6_2) (by decide) (pc' := 9) (by decide) (pc2 := 5) rfl (fun hc2 => ?_) (fun hc2 => ?_)
  · refine r_iloadN X0.here hx (hb hby d6_9) rfl (pc' := 10) rfl ?_
    refine r_retI X0 hx hlk hret (hb hby d6_10) ?_ (by decide) (by decide)
    try rw [e0]
    refine ⟨?_, N0, rfl⟩
    first | rw [if_pos (by omega)] | rw [if_neg (by omega)]
  · refine r_iloadN X0.here hx (hb hby d6_5) rfl (pc' := 6) rfl ?_
    refine r_goto X0.here hx (hb hby d6_6) (by decide) (pc' := 10) (by decide) ?_
    refine r_retI X0 hx hlk hret (hb hby d6_10) ?_ (by decide) (by decide)
    try rw [e0]
    refine ⟨?_, N0, rfl⟩
    first | rw [if_pos (by omega)] | rw [if_neg (by omega)]
theorem d5_0 : decode jdk_65_method_124_code 0 = .ok (.iload_n 1, 1) := by decide +kernel
theorem d5_1 : decode jdk_65_method_124_code 1 = .ok (.aload_n 0, 1) := by decide +kernel
theorem d5_2 : decode jdk_65_method_124_code 2 = .ok (.arraylength, 1) := by decide +kernel
theorem d5_3 : decode jdk_65_method_124_code 3 = .ok (.if_icmp .ne 11, 3) := by decide +kernel
theorem d5_14 : decode jdk_65_method_124_code 14 = .ok (.iload_n 1, 1) := by decide +kernel
theorem d5_15 : decode jdk_65_method_124_code 15 = .ok (.newarray .long, 2) := by decide +kernel
theorem d5_17 : decode jdk_65_method_124_code 17 = .ok (.astore_n 2, 1) := by decide +kernel
theorem d5_18 : decode jdk_65_method_124_code 18 = .ok (.aload_n 0, 1) := by decide +kernel
theorem d5_19 : decode jdk_65_method_124_code 19 = .ok (.iconst 0, 1) := by decide +kernel
theorem d5_20 : decode jdk_65_method_124_code 20 = .ok (.aload_n 2, 1) := by decide +kernel
theorem d5_21 : decode jdk_65_method_124_code 21 = .ok (.iconst 0, 1) := by decide +kernel
theorem d5_22 : decode jdk_65_method_124_code 22 = .ok (.aload_n 0, 1) := by decide +kernel
theorem d5_23 : decode jdk_65_method_124_code 23 = .ok (.arraylength, 1) := by decide +kernel
theorem d5_24 : decode jdk_65_method_124_code 24 = .ok (.iload_n 1, 1) := by decide +kernel
theorem d5_25 : decode jdk_65_method_124_code 25 = .ok (.invokestatic 304, 3) := by decide +kernel
theorem pd_0 : parseMethodDescriptor "(II)I" = some ⟨[.int, .int], some .int⟩ := by decide +kernel
theorem d5_28 : decode jdk_65_method_124_code 28 = .ok (.invokestatic 150, 3) := by decide +kernel
theorem d5_31 : decode jdk_65_method_124_code 31 = .ok (.aload_n 2, 1) := by decide +kernel
theorem d5_32 : decode jdk_65_method_124_code 32 = .ok (.areturn, 1) := by decide +kernel
theorem pn_0 : plainName "java/util/Arrays" = true := by first | (simp [plainName, overriddenIn]; done) | decide +kernel
theorem ef_rmC (m : MethodId) (x0 : Addr) (x1 : Int32) : entryFrame m #[(.ref x0), (.int x1)] 3 = mkF m 0 #[.val (.ref x0), .val (.int x1), .unset] [] := by first | (simp [entryFrame, mkF, argsToLocals, Value.category, maxLocals]; done) | rfl
set_option maxRecDepth 65536 in
set_option maxHeartbeats 40000000 in
theorem rmC (l : Launch) (Z : State) (a0 : Array Value) (hw : ∀ d ∈ tables_1, d.before a0 Z = true) (ws : List Jvm.Cond) (a : Addr) (F : Nat → Int64) (h0 : Heap) (n0 : Nat) (Z0 : n0 ≤ h0.size) (Aa : Ary Z h0 a .long 48 (fun i => .long (F i))) :
    Met l Z (⟨"java/util/Arrays", "copyOf", "([JI)[J"⟩ : MethodName) jdk_65_method_124_code 3 (some (.array .long)) ws ({ frames := 1, cells := 1, slots := 96, locals := 40 } : Room) #[(.ref a), (.int (96 : Int32))] h0 (fun v h L => ∃ b : Addr, v = some (.ref b) ∧ Fr n0 L ∧ Keep h0 h [] ∧ n0 ≤ b ∧ h0.size ≤ b ∧ Ary Z h b .long 96 (fun i => .long (own_cp F 48 i))) 1 96 := by
  refine met_of (plainFor_of_name pn_0) (f0 := fun m => (mkF m 0 #[.val (.ref a), .val (.int (96 : Int32)), .unset] [])) (fun m => ef_rmC m a (96 : Int32)) ?_
  intro p e s m below meth c s₁ X0 hx hby hml hret hlk hown hnm hZ e0
  replace hown : s.vm.findClass "java/util/Arrays" = some m.cls := hown
  have N0 := Fr.nil n0
  refine r_iloadN X0.here hx (hb hby d5_0) rfl (pc' := 1) rfl ?_
  refine r_aloadN X0.here hx (hb hby d5_1) rfl rfl (pc' := 2) rfl ?_
  refine r_len X0 hx hZ e0 (z := (48 : Int32)) Aa rfl (hb hby d5_2) (pc' := 3) rfl ?_
  refine r_if_ne X0.here hx (hb hby d5_3) (by decide) (pc' := 14) (by decide) (pc2 := 6) rfl (fun hc3 => ?_) (fun hc3 => absurd hc3 (by decide))
  refine r_iloadN X0.here hx (hb hby d5_14) rfl (pc' := 15) rfl ?_
  refine r_newarray X0 hx hZ (aty := .long) (hw _ (List.mem_of_getElem? (i := 9) rfl)) e0 (cap := 96) (by decide) (by decide) (by decide) (by decide) (by decide) (hb hby d5_15) (pc' := 17) rfl (fun T1 h1 b1 k1 g1 X1 e1 E1 A1 => ?_)
  have K2 : Keep h0 h0 [] := Keep.refl _ _
  have fr3 : h0.size ≤ b1 := by rw [g1]; exact K2.1
  have ne4 : b1 ≠ a := by have q := Aa.lt; rw [← g1] at q; exact Nat.ne_of_gt q
  have ge5 : n0 ≤ b1 := by rw [g1]; exact Z0
  have K6 := K2.ext E1
  have f7 := Aa.ext E1
  have Z8 : n0 ≤ h1.size := by have q := Z0; exact Nat.le_trans q E1.1
  have f9 : Ary Z h1 b1 .long 96 (fun _ => .long 0) := Ary.new A1 rfl
  refine r_astoreN X1.here hx (hb hby d5_17) rfl (l' := #[.val (.ref a), .val (.int (96 : Int32)), .val (.ref b1)]) rfl (pc' := 18) rfl ?_
  refine r_aloadN X1.here hx (hb hby d5_18) rfl rfl (pc' := 19) rfl ?_
  refine r_iconst X1.here hx (hb hby d5_19) (v := 0) rfl (pc' := 20) rfl ?_
  refine r_aloadN X1.here hx (hb hby d5_20) rfl rfl (pc' := 21) rfl ?_
  refine r_iconst X1.here hx (hb hby d5_21) (v := 0) rfl (pc' := 22) rfl ?_
  refine r_aloadN X1.here hx (hb hby d5_22) rfl rfl (pc' := 23) rfl ?_
  refine r_len X1 hx hZ e1 (z := (48 : Int32)) f7 rfl (hb hby d5_23) (pc' := 24) rfl ?_
  refine r_iloadN X1.here hx (hb hby d5_24) rfl (pc' := 25) rfl ?_
  refine r_callS X1 hx hZ (y := (⟨"java/lang/Math", "min", "(II)I"⟩ : MethodName)) (rm := ({ frames := 0, cells := 0, slots := 0, locals := 0 } : Room)) hown (hw _ (List.mem_of_getElem? (i := 42) rfl)) (hw _ (List.mem_of_getElem? (i := 43) rfl)) (hw _ (List.mem_of_getElem? (i := 44) rfl)) (hw _ (List.mem_of_getElem? (i := 45) rfl)) (by decide) (rmMin l Z a0 hw [] 48 96 h1 n0 Z8) e1 (by rw [hml]; rfl) (argsL := [(.int (48 : Int32)), (.int (96 : Int32))]) (rest := [(.int (0 : Int32)), (.ref b1), (.int (0 : Int32)), (.ref a)]) (lenOf pd_0 rfl) rfl rfl (W := 4) rfl (by decide) (by decide) (by decide) (by decide) (hb hby d5_25) (pc' := 28) rfl ?_
  rintro v10 T10 L10 X10 ⟨rfl, Nq10, e10⟩
  have N10 := Fr.app N0 Nq10
  show Run p e below _ _ T10 (mkF m 28 #[.val (.ref a), .val (.int (96 : Int32)), .val (.ref b1)] [(.int (48 : Int32)), (.int (0 : Int32)), (.ref b1), (.int (0 : Int32)), (.ref a)])
  refine r_arraycopy X10 hx hZ hown (hw _ (List.mem_of_getElem? (i := 46) rfl)) (hw _ (List.mem_of_getElem? (i := 49) rfl)) (hw _ (List.mem_of_getElem? (i := 47) rfl)) (hw _ (List.mem_of_getElem? (i := 48) rfl)) e10 (z := 48) (z' := 96) f7 f9 rfl rfl rfl (fun _ _ => rfl) (fun _ _ => rfl) (by decide) (by decide) (by decide) (by decide) (by decide) N10 ge5 (by rw [hml]; rfl) (by decide) (W := 0) rfl (by decide) (hb hby d5_28) (pc' := 31) rfl (fun T11 h11 L11 X11 e11 N11 K11 A11 => ?_)
  have K12 := K6.trans K11 (allS (Or.inr fr3) all0)
  have f13 := f7.keep K11 (ninS (Ne.symm ne4) nin0)
  have Z14 : n0 ≤ h11.size := by have q := Z8; exact Nat.le_trans q K11.1
  refine r_aloadN X11.here hx (hb hby d5_31) rfl rfl (pc' := 32) rfl ?_
  refine r_retA X11 hx hlk hret rfl rfl (hb hby d5_32) ?_ (by decide) (by decide)
  try rw [e11]
  refine ⟨b1, rfl, N11, K12, ge5, fr3, (A11).congr fun i hi => ?_⟩
  by_cases q : i < 48
  · rw [if_pos ⟨Nat.zero_le _, by simpa using q⟩]; simp [own_cp, q]
  · rw [if_neg (fun z => q (by simpa using z.2))]; simp [own_cp, q]
theorem d1_0 : decode prog_2_method_1_code 0 = .ok (.aload_n 0, 1) := by decide +kernel
theorem d1_1 : decode prog_2_method_1_code 1 = .ok (.invokespecial 1, 3) := by decide +kernel
theorem d1_4 : decode prog_2_method_1_code 4 = .ok (.aload_n 0, 1) := by decide +kernel
theorem d1_5 : decode prog_2_method_1_code 5 = .ok (.bipush 48, 2) := by decide +kernel
theorem d1_7 : decode prog_2_method_1_code 7 = .ok (.newarray .long, 2) := by decide +kernel
theorem d1_9 : decode prog_2_method_1_code 9 = .ok (.putfield 9, 3) := by decide +kernel
theorem d1_12 : decode prog_2_method_1_code 12 = .ok (.return_, 1) := by decide +kernel
theorem pn_1 : plainName "com/example/lease/lease/cli/BenchReport$Grants" = true := by first | (simp [plainName, overriddenIn]; done) | decide +kernel
theorem ef_rmI (m : MethodId) (x0 : Addr) : entryFrame m #[(.ref x0)] 1 = mkF m 0 #[.val (.ref x0)] [] := by first | (simp [entryFrame, mkF, argsToLocals, Value.category, maxLocals]; done) | rfl
set_option maxRecDepth 65536 in
set_option maxHeartbeats 40000000 in
theorem rmI (l : Launch) (Z : State) (a0 : Array Value) (hw : ∀ d ∈ tables_1, d.before a0 Z = true) (ws : List Jvm.Cond) (a : Addr) (h0 : Heap) (n0 : Nat) (Z0 : n0 ≤ h0.size) (ga : n0 ≤ a) (Ea : Exa Z h0 a "com/example/lease/lease/cli/BenchReport$Grants") (Fv : Fld Z h0 a "com/example/lease/lease/cli/BenchReport$Grants" "values" "[J" .null) (Fs : Fld Z h0 a "com/example/lease/lease/cli/BenchReport$Grants" "size" "I" (.int (0 : Int32))) :
    Met l Z (⟨"com/example/lease/lease/cli/BenchReport$Grants", "<init>", "()V"⟩ : MethodName) prog_2_method_1_code 1 none ws ({ frames := 1, cells := 1, slots := 48, locals := 12 } : Room) #[(.ref a)] h0 (fun v h L => v = none ∧ Fr n0 L ∧ Keep h0 h [a] ∧ ∃ b : Addr, Fld Z h a "com/example/lease/lease/cli/BenchReport$Grants" "values" "[J" (.ref b) ∧ Fld Z h a "com/example/lease/lease/cli/BenchReport$Grants" "size" "I" (.int (0 : Int32)) ∧ Ary Z h b .long 48 (fun _ => .long 0) ∧ n0 ≤ b ∧ b ≠ a) 1 48 := by
  refine met_of (plainFor_of_name pn_1) (f0 := fun m => (mkF m 0 #[.val (.ref a)] [])) (fun m => ef_rmI m a) ?_
  intro p e s m below meth c s₁ X0 hx hby hml hret hlk hown hnm hZ e0
  replace hown : s.vm.findClass "com/example/lease/lease/cli/BenchReport$Grants" = some m.cls := hown
  have N0 := Fr.nil n0
  refine r_aloadN X0.here hx (hb hby d1_0) rfl rfl (pc' := 1) rfl ?_
  refine r_initO X0 hx hZ hown (hw _ (List.mem_of_getElem? (i := 6) rfl)) (hw _ (List.mem_of_getElem? (i := 7) rfl)) (hw _ (List.mem_of_getElem? (i := 8) rfl)) e0 (by rw [hml]; rfl) (by decide) (W := 0) rfl (by decide) (hb hby d1_1) (pc' := 4) rfl (fun T15 X15 e15 => ?_)
  refine r_aloadN X15.here hx (hb hby d1_4) rfl rfl (pc' := 5) rfl ?_
  refine r_bipush X15.here hx (hb hby d1_5) (v := 48) rfl (pc' := 7) rfl ?_
  refine r_newarray X15 hx hZ (aty := .long) (hw _ (List.mem_of_getElem? (i := 9) rfl)) e15 (cap := 48) (by decide) (by decide) (by decide) (by decide) (by decide) (hb hby d1_7) (pc' := 9) rfl (fun T16 h16 b16 k16 g16 X16 e16 E16 A16 => ?_)
  have K17 : Keep h0 h0 [a] := Keep.refl _ _
  have fr18 : h0.size ≤ b16 := by rw [g16]; exact K17.1
  have ne19 : b16 ≠ a := by have q := Ea.lt; rw [← g16] at q; exact Nat.ne_of_gt q
  have ge20 : n0 ≤ b16 := by rw [g16]; exact Z0
  have K21 := K17.ext E16
  have f22 := Ea.ext E16
  have f23 := Fv.ext E16
  have f24 := Fs.ext E16
  have Z25 : n0 ≤ h16.size := by have q := Z0; exact Nat.le_trans q E16.1
  have f26 : Ary Z h16 b16 .long 48 (fun _ => .long 0) := Ary.new A16 rfl
  refine r_putF X16 hx hZ hown (hw _ (List.mem_of_getElem? (i := 10) rfl)) Via.refl e16 f23 f22 (Or.inl (hw _ (List.mem_of_getElem? (i := 11) rfl))) (hw _ (List.mem_of_getElem? (i := 1) rfl)) (ty := (.array .long)) (by decide) rfl rfl (hb hby d1_9) (pc' := 12) rfl (fun T27 h27 X27 e27 W27 => ?_)
  have f28 := f23.same W27
  have K29 := K21.wr W27 (Or.inl (List.mem_of_getElem? (i := 0) rfl))
  have f30 := f22.wr W27
  have f31 := f24.other W27 (Or.inr (slot_ne (Or.inl (hw _ (List.mem_of_getElem? (i := 18) rfl)) : Laid Z a0 "com/example/lease/lease/cli/BenchReport$Grants" "com/example/lease/lease/cli/BenchReport$Grants" "size" "I") (Or.inl (hw _ (List.mem_of_getElem? (i := 11) rfl)) : Laid Z a0 "com/example/lease/lease/cli/BenchReport$Grants" "com/example/lease/lease/cli/BenchReport$Grants" "values" "[J") (by decide) (t := .int) (t' := (.array .long)) (by decide) (by decide)))
  have f32 := f26.other W27 ne19
  have Z33 : n0 ≤ h27.size := by have q := Z25; rw [W27.size]; exact q
  have N27 := Fr.snoc X27 N0 ga
  refine r_ret0 X27 hx hlk hret (hb hby d1_12) ?_ (by decide) (by decide)
  try rw [e27]
  exact ⟨rfl, N27, K29, b16, f28, f31, f32, ge20, ne19⟩
theorem d3_0 : decode prog_2_method_2_code 0 = .ok (.iconst 3, 1) := by decide +kernel
theorem d3_1 : decode prog_2_method_2_code 1 = .ok (.aload_n 0, 1) := by decide +kernel
theorem d3_2 : decode prog_2_method_2_code 2 = .ok (.getfield 13, 3) := by decide +kernel
theorem d3_5 : decode prog_2_method_2_code 5 = .ok (.iconst 1, 1) := by decide +kernel
theorem d3_6 : decode prog_2_method_2_code 6 = .ok (.iadd, 1) := by decide +kernel
theorem d3_7 : decode prog_2_method_2_code 7 = .ok (.imul, 1) := by decide +kernel
theorem d3_8 : decode prog_2_method_2_code 8 = .ok (.aload_n 0, 1) := by decide +kernel
theorem d3_9 : decode prog_2_method_2_code 9 = .ok (.getfield 9, 3) := by decide +kernel
theorem d3_12 : decode prog_2_method_2_code 12 = .ok (.arraylength, 1) := by decide +kernel
theorem d3_13 : decode prog_2_method_2_code 13 = .ok (.if_icmp .le 21, 3) := by decide +kernel
theorem d3_34 : decode prog_2_method_2_code 34 = .ok (.iconst 3, 1) := by decide +kernel
theorem d3_35 : decode prog_2_method_2_code 35 = .ok (.aload_n 0, 1) := by decide +kernel
theorem d3_36 : decode prog_2_method_2_code 36 = .ok (.getfield 13, 3) := by decide +kernel
theorem d3_39 : decode prog_2_method_2_code 39 = .ok (.imul, 1) := by decide +kernel
theorem d3_40 : decode prog_2_method_2_code 40 = .ok (.istore 7, 2) := by decide +kernel
theorem d3_42 : decode prog_2_method_2_code 42 = .ok (.aload_n 0, 1) := by decide +kernel
theorem d3_43 : decode prog_2_method_2_code 43 = .ok (.getfield 9, 3) := by decide +kernel
theorem d3_46 : decode prog_2_method_2_code 46 = .ok (.iload 7, 2) := by decide +kernel
theorem d3_48 : decode prog_2_method_2_code 48 = .ok (.lload_n 1, 1) := by decide +kernel
theorem d3_49 : decode prog_2_method_2_code 49 = .ok (.lastore, 1) := by decide +kernel
theorem d3_50 : decode prog_2_method_2_code 50 = .ok (.aload_n 0, 1) := by decide +kernel
theorem d3_51 : decode prog_2_method_2_code 51 = .ok (.getfield 9, 3) := by decide +kernel
theorem d3_54 : decode prog_2_method_2_code 54 = .ok (.iload 7, 2) := by decide +kernel
theorem d3_56 : decode prog_2_method_2_code 56 = .ok (.iconst 1, 1) := by decide +kernel
theorem d3_57 : decode prog_2_method_2_code 57 = .ok (.iadd, 1) := by decide +kernel
theorem d3_58 : decode prog_2_method_2_code 58 = .ok (.lload_n 3, 1) := by decide +kernel
theorem d3_59 : decode prog_2_method_2_code 59 = .ok (.lastore, 1) := by decide +kernel
theorem d3_60 : decode prog_2_method_2_code 60 = .ok (.aload_n 0, 1) := by decide +kernel
theorem d3_61 : decode prog_2_method_2_code 61 = .ok (.getfield 9, 3) := by decide +kernel
theorem d3_64 : decode prog_2_method_2_code 64 = .ok (.iload 7, 2) := by decide +kernel
theorem d3_66 : decode prog_2_method_2_code 66 = .ok (.iconst 2, 1) := by decide +kernel
theorem d3_67 : decode prog_2_method_2_code 67 = .ok (.iadd, 1) := by decide +kernel
theorem d3_68 : decode prog_2_method_2_code 68 = .ok (.lload 5, 2) := by decide +kernel
theorem d3_70 : decode prog_2_method_2_code 70 = .ok (.lastore, 1) := by decide +kernel
theorem d3_71 : decode prog_2_method_2_code 71 = .ok (.aload_n 0, 1) := by decide +kernel
theorem d3_72 : decode prog_2_method_2_code 72 = .ok (.dup, 1) := by decide +kernel
theorem d3_73 : decode prog_2_method_2_code 73 = .ok (.getfield 13, 3) := by decide +kernel
theorem d3_76 : decode prog_2_method_2_code 76 = .ok (.iconst 1, 1) := by decide +kernel
theorem d3_77 : decode prog_2_method_2_code 77 = .ok (.iadd, 1) := by decide +kernel
theorem d3_78 : decode prog_2_method_2_code 78 = .ok (.putfield 13, 3) := by decide +kernel
theorem d3_81 : decode prog_2_method_2_code 81 = .ok (.return_, 1) := by decide +kernel
theorem ef_rmA (m : MethodId) (x0 : Addr) (x1 : Int64) (x2 : Int64) (x3 : Int64) : entryFrame m #[(.ref x0), (.long x1), (.long x2), (.long x3)] 8 = mkF m 0 #[.val (.ref x0), .val (.long x1), .second, .val (.long x2), .second, .val (.long x3), .second, .unset] [] := by first | (simp [entryFrame, mkF, argsToLocals, Value.category, maxLocals]; done) | rfl
set_option maxRecDepth 65536 in
set_option maxHeartbeats 40000000 in
theorem rmA (l : Launch) (Z : State) (a0 : Array Value) (hw : ∀ d ∈ tables_1, d.before a0 Z = true) (ws : List Jvm.Cond) (a b : Addr) (o g r : Int64) (F : Nat → Int64) (k : Int32) (kk : Nat) (h0 : Heap) (n0 : Nat) (Z0 : n0 ≤ h0.size) (ga : n0 ≤ a) (gb : n0 ≤ b) (ba : b ≠ a) (Ea : Exa Z h0 a "com/example/lease/lease/cli/BenchReport$Grants") (Fv : Fld Z h0 a "com/example/lease/lease/cli/BenchReport$Grants" "values" "[J" (.ref b)) (Fs : Fld Z h0 a "com/example/lease/lease/cli/BenchReport$Grants" "size" "I" (.int k)) (Ab : Ary Z h0 b .long 48 (fun i => .long (F i))) (h3k : ((3 : Int32) * k).toInt = 3 * kk) (h3k1 : ((3 : Int32) * k + 1).toInt = 3 * kk + 1) (h3k2 : ((3 : Int32) * k + 2).toInt = 3 * kk + 2) (hkk : kk < 16) (hk : ((3 : Int32) * (k + 1)).toInt ≤ (48 : Int32).toInt) :
    Met l Z (⟨"com/example/lease/lease/cli/BenchReport$Grants", "add", "(JJJ)V"⟩ : MethodName) prog_2_method_2_code 8 none ws ({ frames := 0, cells := 0, slots := 0, locals := 0 } : Room) #[(.ref a), (.long o), (.long g), (.long r)] h0 (fun v h L => v = none ∧ Fr n0 L ∧ Keep h0 h [a, b] ∧ Fld Z h a "com/example/lease/lease/cli/BenchReport$Grants" "values" "[J" (.ref b) ∧ Fld Z h a "com/example/lease/lease/cli/BenchReport$Grants" "size" "I" (.int (k + 1)) ∧ Ary Z h b .long 48 (fun i => .long (own_u3 F kk o g r i))) 0 0 := by
  refine met_of (plainFor_of_name pn_1) (f0 := fun m => (mkF m 0 #[.val (.ref a), .val (.long o), .second, .val (.long g), .second, .val (.long r), .second, .unset] [])) (fun m => ef_rmA m a o g r) ?_
  intro p e s m below meth c s₁ X0 hx hby hml hret hlk hown hnm hZ e0
  replace hown : s.vm.findClass "com/example/lease/lease/cli/BenchReport$Grants" = some m.cls := hown
  have N0 := Fr.nil n0
  have l1 : (1 : Int32).toInt = 1 := rfl
  have l2 : (2 : Int32).toInt = 2 := rfl
  refine r_iconst X0.here hx (hb hby d3_0) (v := 3) rfl (pc' := 1) rfl ?_
  refine r_aloadN X0.here hx (hb hby d3_1) rfl rfl (pc' := 2) rfl ?_
  refine r_getF X0 hx hZ hown (hw _ (List.mem_of_getElem? (i := 17) rfl)) Via.refl e0 Fs (hb hby d3_2) (pc' := 5) rfl (fun T34 X34 e34 => ?_)
  refine r_iconst X34.here hx (hb hby d3_5) (v := 1) rfl (pc' := 6) rfl ?_
  refine r_iadd X34.here hx (hb hby d3_6) (pc' := 7) rfl ?_
  refine r_imul X34.here hx (hb hby d3_7) (pc' := 8) rfl ?_
  refine r_aloadN X34.here hx (hb hby d3_8) rfl rfl (pc' := 9) rfl ?_
  refine r_getF X34 hx hZ hown (hw _ (List.mem_of_getElem? (i := 10) rfl)) Via.refl e34 Fv (hb hby d3_9) (pc' := 12) rfl (fun T35 X35 e35 => ?_)
  refine r_len X35 hx hZ e35 (z := (48 : Int32)) Ab rfl (hb hby d3_12) (pc' := 13) rfl ?_
  refine r_if_le X35.here hx (hb hby d3_13) (by decide) (pc' := 34) (by decide) (pc2 := 16) rfl (fun hc13 => ?_) (fun hc13 => absurd hk hc13)
  refine r_iconst X35.here hx (hb hby d3_34) (v := 3) rfl (pc' := 35) rfl ?_
  refine r_aloadN X35.here hx (hb hby d3_35) rfl rfl (pc' := 36) rfl ?_
  refine r_getF X35 hx hZ hown (hw _ (List.mem_of_getElem? (i := 17) rfl)) Via.refl e35 Fs (hb hby d3_36) (pc' := 39) rfl (fun T36 X36 e36 => ?_)
  refine r_imul X36.here hx (hb hby d3_39) (pc' := 40) rfl ?_
  refine r_istore X36.here hx (hb hby d3_40) (l' := #[.val (.ref a), .val (.long o), .second, .val (.long g), .second, .val (.long r), .second, .val (.int ((3 : Int32) * k))]) rfl (pc' := 42) rfl ?_
  refine r_aloadN X36.here hx (hb hby d3_42) rfl rfl (pc' := 43) rfl ?_
  refine r_getF X36 hx hZ hown (hw _ (List.mem_of_getElem? (i := 10) rfl)) Via.refl e36 Fv (hb hby d3_43) (pc' := 46) rfl (fun T37 X37 e37 => ?_)
  refine r_iload X37.here hx (hb hby d3_46) rfl (pc' := 48) rfl ?_
  refine r_lloadN X37.here hx (hb hby d3_48) rfl (pc' := 49) rfl ?_
  refine q_lastore X37 hx hZ e37 (j := ((3 : Int32) * k)) Ab (by rw [h3k]; omega) (by rw [h3k]; omega) (hb hby d3_49) (pc' := 50) rfl (fun T38 h38 X38 e38 W38 A38 => ?_)
  have K39 : Keep h0 h0 [a, b] := Keep.refl _ _
  have K40 := K39.wr W38 (Or.inl (List.mem_of_getElem? (i := 1) rfl))
  have f41 := Ea.wr W38
  have f42 := Fv.other W38 (Or.inl (Ne.symm ba))
  have f43 := Fs.other W38 (Or.inl (Ne.symm ba))
  have Z44 : n0 ≤ h38.size := by have q := Z0; rw [W38.size]; exact q
  have N38 := Fr.snoc X38 N0 gb
  refine r_aloadN X38.here hx (hb hby d3_50) rfl rfl (pc' := 51) rfl ?_
  refine r_getF X38 hx hZ hown (hw _ (List.mem_of_getElem? (i := 10) rfl)) Via.refl e38 f42 (hb hby d3_51) (pc' := 54) rfl (fun T45 X45 e45 => ?_)
  refine r_iload X45.here hx (hb hby d3_54) rfl (pc' := 56) rfl ?_
  refine r_iconst X45.here hx (hb hby d3_56) (v := 1) rfl (pc' := 57) rfl ?_
  refine r_iadd X45.here hx (hb hby d3_57) (pc' := 58) rfl ?_
  refine r_lloadN X45.here hx (hb hby d3_58) rfl (pc' := 59) rfl ?_
  refine q_lastore X45 hx hZ e45 (j := (((3 : Int32) * k) + (1 : Int32))) A38 (by rw [h3k1]; omega) (by rw [h3k1]; omega) (hb hby d3_59) (pc' := 60) rfl (fun T46 h46 X46 e46 W46 A46 => ?_)
  have K47 := K40.wr W46 (Or.inl (List.mem_of_getElem? (i := 1) rfl))
  have f48 := f41.wr W46
  have f49 := f42.other W46 (Or.inl (Ne.symm ba))
  have f50 := f43.other W46 (Or.inl (Ne.symm ba))
  have Z51 : n0 ≤ h46.size := by have q := Z44; rw [W46.size]; exact q
  have N46 := Fr.snoc X46 N38 gb
  refine r_aloadN X46.here hx (hb hby d3_60) rfl rfl (pc' := 61) rfl ?_
  refine r_getF X46 hx hZ hown (hw _ (List.mem_of_getElem? (i := 10) rfl)) Via.refl e46 f49 (hb hby d3_61) (pc' := 64) rfl (fun T52 X52 e52 => ?_)
  refine r_iload X52.here hx (hb hby d3_64) rfl (pc' := 66) rfl ?_
  refine r_iconst X52.here hx (hb hby d3_66) (v := 2) rfl (pc' := 67) rfl ?_
  refine r_iadd X52.here hx (hb hby d3_67) (pc' := 68) rfl ?_
  refine r_lload X52.here hx (hb hby d3_68) rfl (pc' := 70) rfl ?_
  refine q_lastore X52 hx hZ e52 (j := (((3 : Int32) * k) + (2 : Int32))) A46 (by rw [h3k2]; omega) (by rw [h3k2]; omega) (hb hby d3_70) (pc' := 71) rfl (fun T53 h53 X53 e53 W53 A53 => ?_)
  have K54 := K47.wr W53 (Or.inl (List.mem_of_getElem? (i := 1) rfl))
  have f55 := f48.wr W53
  have f56 := f49.other W53 (Or.inl (Ne.symm ba))
  have f57 := f50.other W53 (Or.inl (Ne.symm ba))
  have Z58 : n0 ≤ h53.size := by have q := Z51; rw [W53.size]; exact q
  have N53 := Fr.snoc X53 N46 gb
  refine r_aloadN X53.here hx (hb hby d3_71) rfl rfl (pc' := 72) rfl ?_
  refine r_dup X53.here hx (hb hby d3_72) rfl (pc' := 73) rfl ?_
  refine r_getF X53 hx hZ hown (hw _ (List.mem_of_getElem? (i := 17) rfl)) Via.refl e53 f57 (hb hby d3_73) (pc' := 76) rfl (fun T59 X59 e59 => ?_)
  refine r_iconst X59.here hx (hb hby d3_76) (v := 1) rfl (pc' := 77) rfl ?_
  refine r_iadd X59.here hx (hb hby d3_77) (pc' := 78) rfl ?_
  refine r_putF X59 hx hZ hown (hw _ (List.mem_of_getElem? (i := 17) rfl)) Via.refl e59 f57 f55 (Or.inl (hw _ (List.mem_of_getElem? (i := 18) rfl))) (hw _ (List.mem_of_getElem? (i := 1) rfl)) (ty := .int) (by decide) rfl rfl (hb hby d3_78) (pc' := 81) rfl (fun T60 h60 X60 e60 W60 => ?_)
  have f61 := f57.same W60
  have K62 := K54.wr W60 (Or.inl (List.mem_of_getElem? (i := 0) rfl))
  have f63 := f55.wr W60
  have f64 := f56.other W60 (Or.inr (slot_ne (Or.inl (hw _ (List.mem_of_getElem? (i := 11) rfl)) : Laid Z a0 "com/example/lease/lease/cli/BenchReport$Grants" "com/example/lease/lease/cli/BenchReport$Grants" "values" "[J") (Or.inl (hw _ (List.mem_of_getElem? (i := 18) rfl)) : Laid Z a0 "com/example/lease/lease/cli/BenchReport$Grants" "com/example/lease/lease/cli/BenchReport$Grants" "size" "I") (by decide) (t := (.array .long)) (t' := .int) (by decide) (by decide)))
  have f65 := A53.other W60 ba
  have Z66 : n0 ≤ h60.size := by have q := Z58; rw [W60.size]; exact q
  have N60 := Fr.snoc X60 N53 ga
  refine r_ret0 X60 hx hlk hret (hb hby d3_81) ?_ (by decide) (by decide)
  try rw [e60]
  refine ⟨rfl, N60, K62, f64, f61, (f65).congr fun i hi => ?_⟩
  have t0 : ((3 : Int32) * k).toInt.toNat = 3 * kk := by rw [h3k]; omega
  have t1 : ((3 : Int32) * k + 1).toInt.toNat = 3 * kk + 1 := by rw [h3k1]; omega
  have t2 : ((3 : Int32) * k + 2).toInt.toNat = 3 * kk + 2 := by rw [h3k2]; omega
  rw [t0, t1, t2]; rfl
theorem d3_16 : decode prog_2_method_2_code 16 = .ok (.aload_n 0, 1) := by decide +kernel
theorem d3_17 : decode prog_2_method_2_code 17 = .ok (.aload_n 0, 1) := by decide +kernel
theorem d3_18 : decode prog_2_method_2_code 18 = .ok (.getfield 9, 3) := by decide +kernel
theorem d3_21 : decode prog_2_method_2_code 21 = .ok (.aload_n 0, 1) := by decide +kernel
theorem d3_22 : decode prog_2_method_2_code 22 = .ok (.getfield 9, 3) := by decide +kernel
theorem d3_25 : decode prog_2_method_2_code 25 = .ok (.arraylength, 1) := by decide +kernel
theorem d3_26 : decode prog_2_method_2_code 26 = .ok (.iconst 2, 1) := by decide +kernel
theorem d3_27 : decode prog_2_method_2_code 27 = .ok (.imul, 1) := by decide +kernel
theorem d3_28 : decode prog_2_method_2_code 28 = .ok (.invokestatic 17, 3) := by decide +kernel
theorem pd_1 : parseMethodDescriptor "([JI)[J" = some ⟨[(.array .long), .int], some (.array .long)⟩ := by decide +kernel
theorem d3_31 : decode prog_2_method_2_code 31 = .ok (.putfield 9, 3) := by decide +kernel
theorem ef_rmG (m : MethodId) (x0 : Addr) (x1 : Int64) (x2 : Int64) (x3 : Int64) : entryFrame m #[(.ref x0), (.long x1), (.long x2), (.long x3)] 8 = mkF m 0 #[.val (.ref x0), .val (.long x1), .second, .val (.long x2), .second, .val (.long x3), .second, .unset] [] := by first | (simp [entryFrame, mkF, argsToLocals, Value.category, maxLocals]; done) | rfl
set_option maxRecDepth 65536 in
set_option maxHeartbeats 40000000 in
theorem rmG (l : Launch) (Z : State) (a0 : Array Value) (hw : ∀ d ∈ tables_1, d.before a0 Z = true) (ws : List Jvm.Cond) (a b : Addr) (o g r : Int64) (F : Nat → Int64) (h0 : Heap) (n0 : Nat) (Z0 : n0 ≤ h0.size) (ga : n0 ≤ a) (gb : n0 ≤ b) (ba : b ≠ a) (Ea : Exa Z h0 a "com/example/lease/lease/cli/BenchReport$Grants") (Fv : Fld Z h0 a "com/example/lease/lease/cli/BenchReport$Grants" "values" "[J" (.ref b)) (Fs : Fld Z h0 a "com/example/lease/lease/cli/BenchReport$Grants" "size" "I" (.int (16 : Int32))) (Ab : Ary Z h0 b .long 48 (fun i => .long (F i))) :
    Met l Z (⟨"com/example/lease/lease/cli/BenchReport$Grants", "add", "(JJJ)V"⟩ : MethodName) prog_2_method_2_code 8 none ws ({ frames := 2, cells := 1, slots := 96, locals := 55 } : Room) #[(.ref a), (.long o), (.long g), (.long r)] h0 (fun v h L => v = none ∧ Fr n0 L ∧ Keep h0 h [a] ∧ ∃ b2 : Addr, Fld Z h a "com/example/lease/lease/cli/BenchReport$Grants" "values" "[J" (.ref b2) ∧ Fld Z h a "com/example/lease/lease/cli/BenchReport$Grants" "size" "I" (.int (17 : Int32)) ∧ Ary Z h b2 .long 96 (fun i => .long (own_u3 (own_cp F 48) 16 o g r i)) ∧ n0 ≤ b2 ∧ b2 ≠ a) 1 96 := by
  refine met_of (plainFor_of_name pn_1) (f0 := fun m => (mkF m 0 #[.val (.ref a), .val (.long o), .second, .val (.long g), .second, .val (.long r), .second, .unset] [])) (fun m => ef_rmG m a o g r) ?_
  intro p e s m below meth c s₁ X0 hx hby hml hret hlk hown hnm hZ e0
  replace hown : s.vm.findClass "com/example/lease/lease/cli/BenchReport$Grants" = some m.cls := hown
  have N0 := Fr.nil n0
  refine r_iconst X0.here hx (hb hby d3_0) (v := 3) rfl (pc' := 1) rfl ?_
  refine r_aloadN X0.here hx (hb hby d3_1) rfl rfl (pc' := 2) rfl ?_
  refine r_getF X0 hx hZ hown (hw _ (List.mem_of_getElem? (i := 17) rfl)) Via.refl e0 Fs (hb hby d3_2) (pc' := 5) rfl (fun T67 X67 e67 => ?_)
  refine r_iconst X67.here hx (hb hby d3_5) (v := 1) rfl (pc' := 6) rfl ?_
  refine r_iadd X67.here hx (hb hby d3_6) (pc' := 7) rfl ?_
  refine r_imul X67.here hx (hb hby d3_7) (pc' := 8) rfl ?_
  refine r_aloadN X67.here hx (hb hby d3_8) rfl rfl (pc' := 9) rfl ?_
  refine r_getF X67 hx hZ hown (hw _ (List.mem_of_getElem? (i := 10) rfl)) Via.refl e67 Fv (hb hby d3_9) (pc' := 12) rfl (fun T68 X68 e68 => ?_)
  refine r_len X68 hx hZ e68 (z := (48 : Int32)) Ab rfl (hb hby d3_12) (pc' := 13) rfl ?_
  refine r_if_le X68.here hx (hb hby d3_13) (by decide) (pc' := 34) (by decide) (pc2 := 16) rfl (fun hc13 => absurd hc13 (by decide)) (fun hc13 => ?_)
  refine r_aloadN X68.here hx (hb hby d3_16) rfl rfl (pc' := 17) rfl ?_
  refine r_aloadN X68.here hx (hb hby d3_17) rfl rfl (pc' := 18) rfl ?_
  refine r_getF X68 hx hZ hown (hw _ (List.mem_of_getElem? (i := 10) rfl)) Via.refl e68 Fv (hb hby d3_18) (pc' := 21) rfl (fun T69 X69 e69 => ?_)
  refine r_aloadN X69.here hx (hb hby d3_21) rfl rfl (pc' := 22) rfl ?_
  refine r_getF X69 hx hZ hown (hw _ (List.mem_of_getElem? (i := 10) rfl)) Via.refl e69 Fv (hb hby d3_22) (pc' := 25) rfl (fun T70 X70 e70 => ?_)
  refine r_len X70 hx hZ e70 (z := (48 : Int32)) Ab rfl (hb hby d3_25) (pc' := 26) rfl ?_
  refine r_iconst X70.here hx (hb hby d3_26) (v := 2) rfl (pc' := 27) rfl ?_
  refine r_imul X70.here hx (hb hby d3_27) (pc' := 28) rfl ?_
  refine r_callS X70 hx hZ (y := (⟨"java/util/Arrays", "copyOf", "([JI)[J"⟩ : MethodName)) (rm := ({ frames := 1, cells := 1, slots := 96, locals := 40 } : Room)) hown (hw _ (List.mem_of_getElem? (i := 38) rfl)) (hw _ (List.mem_of_getElem? (i := 39) rfl)) (hw _ (List.mem_of_getElem? (i := 40) rfl)) (hw _ (List.mem_of_getElem? (i := 41) rfl)) (by decide) (rmC l Z a0 hw [] b F h0 n0 Z0 Ab) e70 (by rw [hml]; rfl) (argsL := [(.ref b), (.int ((48 : Int32) * (2 : Int32)))]) (rest := [(.ref a)]) (lenOf pd_1 rfl) rfl rfl (W := 1) rfl (by decide) (by decide) (by decide) (by decide) (hb hby d3_28) (pc' := 31) rfl ?_
  rintro v71 T71 L71 X71 ⟨b2, rfl, Nq71, K71, gb2, fb2, A71⟩
  have N71 := Fr.app N0 Nq71
  show Run p e below _ _ T71 (mkF m 31 #[.val (.ref a), .val (.long o), .second, .val (.long g), .second, .val (.long r), .second, .unset] [(.ref b2), (.ref a)])
  have ne72 : b2 ≠ a := Nat.ne_of_gt (Nat.lt_of_lt_of_le Ea.lt fb2)
  have ne73 : b2 ≠ b := Nat.ne_of_gt (Nat.lt_of_lt_of_le Ab.lt fb2)
  have fr74 : h0.size ≤ b2 := fb2
  have K75 : Keep h0 h0 [a] := Keep.refl _ _
  have K76 := K75.trans K71 all0
  have f77 := Ea.keep K71
  have f78 := Fv.keep K71 nin0
  have f79 := Fs.keep K71 nin0
  have f80 := Ab.keep K71 nin0
  have Z81 : n0 ≤ T71.heap.size := by have q := Z0; exact Nat.le_trans q K71.1
  refine r_putF X71 hx hZ hown (hw _ (List.mem_of_getElem? (i := 10) rfl)) Via.refl rfl f78 f77 (Or.inl (hw _ (List.mem_of_getElem? (i := 11) rfl))) (hw _ (List.mem_of_getElem? (i := 1) rfl)) (ty := (.array .long)) (by decide) rfl rfl (hb hby d3_31) (pc' := 34) rfl (fun T82 h82 X82 e82 W82 => ?_)
  have f83 := f78.same W82
  have K84 := K76.wr W82 (Or.inl (List.mem_of_getElem? (i := 0) rfl))
  have f85 := f77.wr W82
  have f86 := f79.other W82 (Or.inr (slot_ne (Or.inl (hw _ (List.mem_of_getElem? (i := 18) rfl)) : Laid Z a0 "com/example/lease/lease/cli/BenchReport$Grants" "com/example/lease/lease/cli/BenchReport$Grants" "size" "I") (Or.inl (hw _ (List.mem_of_getElem? (i := 11) rfl)) : Laid Z a0 "com/example/lease/lease/cli/BenchReport$Grants" "com/example/lease/lease/cli/BenchReport$Grants" "values" "[J") (by decide) (t := .int) (t' := (.array .long)) (by decide) (by decide)))
  have f87 := A71.other W82 ne72
  have Z88 : n0 ≤ h82.size := by have q := Z81; rw [W82.size]; exact q
  have N82 := Fr.snoc X82 N71 ga
  refine r_iconst X82.here hx (hb hby d3_34) (v := 3) rfl (pc' := 35) rfl ?_
  refine r_aloadN X82.here hx (hb hby d3_35) rfl rfl (pc' := 36) rfl ?_
  refine r_getF X82 hx hZ hown (hw _ (List.mem_of_getElem? (i := 17) rfl)) Via.refl e82 f86 (hb hby d3_36) (pc' := 39) rfl (fun T89 X89 e89 => ?_)
  refine r_imul X89.here hx (hb hby d3_39) (pc' := 40) rfl ?_
  refine r_istore X89.here hx (hb hby d3_40) (l' := #[.val (.ref a), .val (.long o), .second, .val (.long g), .second, .val (.long r), .second, .val (.int ((3 : Int32) * (16 : Int32)))]) rfl (pc' := 42) rfl ?_
  refine r_aloadN X89.here hx (hb hby d3_42) rfl rfl (pc' := 43) rfl ?_
  refine r_getF X89 hx hZ hown (hw _ (List.mem_of_getElem? (i := 10) rfl)) Via.refl e89 f83 (hb hby d3_43) (pc' := 46) rfl (fun T90 X90 e90 => ?_)
  refine r_iload X90.here hx (hb hby d3_46) rfl (pc' := 48) rfl ?_
  refine r_lloadN X90.here hx (hb hby d3_48) rfl (pc' := 49) rfl ?_
  refine q_lastore X90 hx hZ e90 (j := ((3 : Int32) * (16 : Int32))) f87 (by decide) (by decide) (hb hby d3_49) (pc' := 50) rfl (fun T91 h91 X91 e91 W91 A91 => ?_)
  have K92 := K84.wr W91 (Or.inr fr74)
  have f93 := f85.wr W91
  have f94 := f86.other W91 (Or.inl (Ne.symm ne72))
  have f95 := f83.other W91 (Or.inl (Ne.symm ne72))
  have Z96 : n0 ≤ h91.size := by have q := Z88; rw [W91.size]; exact q
  have N91 := Fr.snoc X91 N82 gb2
  refine r_aloadN X91.here hx (hb hby d3_50) rfl rfl (pc' := 51) rfl ?_
  refine r_getF X91 hx hZ hown (hw _ (List.mem_of_getElem? (i := 10) rfl)) Via.refl e91 f95 (hb hby d3_51) (pc' := 54) rfl (fun T97 X97 e97 => ?_)
  refine r_iload X97.here hx (hb hby d3_54) rfl (pc' := 56) rfl ?_
  refine r_iconst X97.here hx (hb hby d3_56) (v := 1) rfl (pc' := 57) rfl ?_
  refine r_iadd X97.here hx (hb hby d3_57) (pc' := 58) rfl ?_
  refine r_lloadN X97.here hx (hb hby d3_58) rfl (pc' := 59) rfl ?_
  refine q_lastore X97 hx hZ e97 (j := (((3 : Int32) * (16 : Int32)) + (1 : Int32))) A91 (by decide) (by decide) (hb hby d3_59) (pc' := 60) rfl (fun T98 h98 X98 e98 W98 A98 => ?_)
  have K99 := K92.wr W98 (Or.inr fr74)
  have f100 := f93.wr W98
  have f101 := f94.other W98 (Or.inl (Ne.symm ne72))
  have f102 := f95.other W98 (Or.inl (Ne.symm ne72))
  have Z103 : n0 ≤ h98.size := by have q := Z96; rw [W98.size]; exact q
  have N98 := Fr.snoc X98 N91 gb2
  refine r_aloadN X98.here hx (hb hby d3_60) rfl rfl (pc' := 61) rfl ?_
  refine r_getF X98 hx hZ hown (hw _ (List.mem_of_getElem? (i := 10) rfl)) Via.refl e98 f102 (hb hby d3_61) (pc' := 64) rfl (fun T104 X104 e104 => ?_)
  refine r_iload X104.here hx (hb hby d3_64) rfl (pc' := 66) rfl ?_
  refine r_iconst X104.here hx (hb hby d3_66) (v := 2) rfl (pc' := 67) rfl ?_
  refine r_iadd X104.here hx (hb hby d3_67) (pc' := 68) rfl ?_
  refine r_lload X104.here hx (hb hby d3_68) rfl (pc' := 70) rfl ?_
  refine q_lastore X104 hx hZ e104 (j := (((3 : Int32) * (16 : Int32)) + (2 : Int32))) A98 (by decide) (by decide) (hb hby d3_70) (pc' := 71) rfl (fun T105 h105 X105 e105 W105 A105 => ?_)
  have K106 := K99.wr W105 (Or.inr fr74)
  have f107 := f100.wr W105
  have f108 := f101.other W105 (Or.inl (Ne.symm ne72))
  have f109 := f102.other W105 (Or.inl (Ne.symm ne72))
  have Z110 : n0 ≤ h105.size := by have q := Z103; rw [W105.size]; exact q
  have N105 := Fr.snoc X105 N98 gb2
  refine r_aloadN X105.here hx (hb hby d3_71) rfl rfl (pc' := 72) rfl ?_
  refine r_dup X105.here hx (hb hby d3_72) rfl (pc' := 73) rfl ?_
  refine r_getF X105 hx hZ hown (hw _ (List.mem_of_getElem? (i := 17) rfl)) Via.refl e105 f108 (hb hby d3_73) (pc' := 76) rfl (fun T111 X111 e111 => ?_)
  refine r_iconst X111.here hx (hb hby d3_76) (v := 1) rfl (pc' := 77) rfl ?_
  refine r_iadd X111.here hx (hb hby d3_77) (pc' := 78) rfl ?_
  refine r_putF X111 hx hZ hown (hw _ (List.mem_of_getElem? (i := 17) rfl)) Via.refl e111 f108 f107 (Or.inl (hw _ (List.mem_of_getElem? (i := 18) rfl))) (hw _ (List.mem_of_getElem? (i := 1) rfl)) (ty := .int) (by decide) rfl rfl (hb hby d3_78) (pc' := 81) rfl (fun T112 h112 X112 e112 W112 => ?_)
  have f113 := f108.same W112
  have K114 := K106.wr W112 (Or.inl (List.mem_of_getElem? (i := 0) rfl))
  have f115 := f107.wr W112
  have f116 := f109.other W112 (Or.inr (slot_ne (Or.inl (hw _ (List.mem_of_getElem? (i := 11) rfl)) : Laid Z a0 "com/example/lease/lease/cli/BenchReport$Grants" "com/example/lease/lease/cli/BenchReport$Grants" "values" "[J") (Or.inl (hw _ (List.mem_of_getElem? (i := 18) rfl)) : Laid Z a0 "com/example/lease/lease/cli/BenchReport$Grants" "com/example/lease/lease/cli/BenchReport$Grants" "size" "I") (by decide) (t := (.array .long)) (t' := .int) (by decide) (by decide)))
  have f117 := A105.other W112 ne72
  have Z118 : n0 ≤ h112.size := by have q := Z110; rw [W112.size]; exact q
  have N112 := Fr.snoc X112 N105 ga
  refine r_ret0 X112 hx hlk hret (hb hby d3_81) ?_ (by decide) (by decide)
  try rw [e112]
  refine ⟨rfl, N112, K114, b2, f116, f113, (f117).congr fun i hi => rfl, gb2, ne72⟩
theorem d4_0 : decode prog_2_method_3_code 0 = .ok (.aload_n 0, 1) := by decide +kernel
theorem d4_1 : decode prog_2_method_3_code 1 = .ok (.getfield 13, 3) := by decide +kernel
theorem d4_4 : decode prog_2_method_3_code 4 = .ok (.ireturn, 1) := by decide +kernel
theorem ef_rmS (m : MethodId) (x0 : Addr) : entryFrame m #[(.ref x0)] 1 = mkF m 0 #[.val (.ref x0)] [] := by first | (simp [entryFrame, mkF, argsToLocals, Value.category, maxLocals]; done) | rfl
set_option maxRecDepth 65536 in
set_option maxHeartbeats 40000000 in
theorem rmS (l : Launch) (Z : State) (a0 : Array Value) (hw : ∀ d ∈ tables_1, d.before a0 Z = true) (ws : List Jvm.Cond) (a : Addr) (k : Int32) (h0 : Heap) (n0 : Nat) (Z0 : n0 ≤ h0.size) (Fs : Fld Z h0 a "com/example/lease/lease/cli/BenchReport$Grants" "size" "I" (.int k)) :
    Met l Z (⟨"com/example/lease/lease/cli/BenchReport$Grants", "size", "()I"⟩ : MethodName) prog_2_method_3_code 1 (some .int) ws ({ frames := 0, cells := 0, slots := 0, locals := 0 } : Room) #[(.ref a)] h0 (fun v h L => v = some (.int k) ∧ Fr n0 L ∧ h = h0) 0 0 := by
  refine met_of (plainFor_of_name pn_1) (f0 := fun m => (mkF m 0 #[.val (.ref a)] [])) (fun m => ef_rmS m a) ?_
  intro p e s m below meth c s₁ X0 hx hby hml hret hlk hown hnm hZ e0
  replace hown : s.vm.findClass "com/example/lease/lease/cli/BenchReport$Grants" = some m.cls := hown
  have N0 := Fr.nil n0
  refine r_aloadN X0.here hx (hb hby d4_0) rfl rfl (pc' := 1) rfl ?_
  refine r_getF X0 hx hZ hown (hw _ (List.mem_of_getElem? (i := 17) rfl)) Via.refl e0 Fs (hb hby d4_1) (pc' := 4) rfl (fun T119 X119 e119 => ?_)
  refine r_retI X119 hx hlk hret (hb hby d4_4) ?_ (by decide) (by decide)
  try rw [e119]
  exact ⟨rfl, N0, rfl⟩
theorem d8_0 : decode prog_2_method_4_code 0 = .ok (.aload_n 0, 1) := by decide +kernel
theorem d8_1 : decode prog_2_method_4_code 1 = .ok (.getfield 9, 3) := by decide +kernel
theorem d8_4 : decode prog_2_method_4_code 4 = .ok (.iconst 3, 1) := by decide +kernel
theorem d8_5 : decode prog_2_method_4_code 5 = .ok (.iload_n 1, 1) := by decide +kernel
theorem d8_6 : decode prog_2_method_4_code 6 = .ok (.imul, 1) := by decide +kernel
theorem d8_7 : decode prog_2_method_4_code 7 = .ok (.laload, 1) := by decide +kernel
theorem d8_8 : decode prog_2_method_4_code 8 = .ok (.lreturn, 1) := by decide +kernel
theorem ef_rm_order (m : MethodId) (x0 : Addr) (x1 : Int32) : entryFrame m #[(.ref x0), (.int x1)] 2 = mkF m 0 #[.val (.ref x0), .val (.int x1)] [] := by first | (simp [entryFrame, mkF, argsToLocals, Value.category, maxLocals]; done) | rfl
set_option maxRecDepth 65536 in
set_option maxHeartbeats 40000000 in
theorem rm_order (l : Launch) (Z : State) (a0 : Array Value) (hw : ∀ d ∈ tables_1, d.before a0 Z = true) (ws : List Jvm.Cond) (a b : Addr) (k : Int32) (F : Nat → Int64) (h0 : Heap) (n0 : Nat) (Z0 : n0 ≤ h0.size) (Fv : Fld Z h0 a "com/example/lease/lease/cli/BenchReport$Grants" "values" "[J" (.ref b)) (Ab : Ary Z h0 b .long 96 (fun i => .long (F i))) (h1 : 0 ≤ ((3 : Int32) * k).toInt) (h2 : ((3 : Int32) * k).toInt < 96) :
    Met l Z (⟨"com/example/lease/lease/cli/BenchReport$Grants", "order", "(I)J"⟩ : MethodName) prog_2_method_4_code 2 (some .long) ws ({ frames := 0, cells := 0, slots := 0, locals := 0 } : Room) #[(.ref a), (.int k)] h0 (fun v h L => v = some (.long (F ((3 : Int32) * k).toInt.toNat)) ∧ Fr n0 L ∧ h = h0) 0 0 := by
  refine met_of (plainFor_of_name pn_1) (f0 := fun m => (mkF m 0 #[.val (.ref a), .val (.int k)] [])) (fun m => ef_rm_order m a k) ?_
  intro p e s m below meth c s₁ X0 hx hby hml hret hlk hown hnm hZ e0
  replace hown : s.vm.findClass "com/example/lease/lease/cli/BenchReport$Grants" = some m.cls := hown
  have N0 := Fr.nil n0
  refine r_aloadN X0.here hx (hb hby d8_0) rfl rfl (pc' := 1) rfl ?_
  refine r_getF X0 hx hZ hown (hw _ (List.mem_of_getElem? (i := 10) rfl)) Via.refl e0 Fv (hb hby d8_1) (pc' := 4) rfl (fun T120 X120 e120 => ?_)
  refine r_iconst X120.here hx (hb hby d8_4) (v := 3) rfl (pc' := 5) rfl ?_
  refine r_iloadN X120.here hx (hb hby d8_5) rfl (pc' := 6) rfl ?_
  refine r_imul X120.here hx (hb hby d8_6) (pc' := 7) rfl ?_
  refine q_laload X120 hx hZ e120 (j := ((3 : Int32) * k)) (v := (F ((3 : Int32) * k).toInt.toNat)) Ab h1 h2 rfl (hb hby d8_7) (pc' := 8) rfl ?_
  refine r_retJ X120 hx hlk hret (hb hby d8_8) ?_ (by decide) (by decide)
  try rw [e120]
  exact ⟨rfl, N0, rfl⟩
theorem d9_0 : decode prog_2_method_5_code 0 = .ok (.aload_n 0, 1) := by decide +kernel
theorem d9_1 : decode prog_2_method_5_code 1 = .ok (.getfield 9, 3) := by decide +kernel
theorem d9_4 : decode prog_2_method_5_code 4 = .ok (.iconst 3, 1) := by decide +kernel
theorem d9_5 : decode prog_2_method_5_code 5 = .ok (.iload_n 1, 1) := by decide +kernel
theorem d9_6 : decode prog_2_method_5_code 6 = .ok (.imul, 1) := by decide +kernel
theorem d9_7 : decode prog_2_method_5_code 7 = .ok (.iconst 1, 1) := by decide +kernel
theorem d9_8 : decode prog_2_method_5_code 8 = .ok (.iadd, 1) := by decide +kernel
theorem d9_9 : decode prog_2_method_5_code 9 = .ok (.laload, 1) := by decide +kernel
theorem d9_10 : decode prog_2_method_5_code 10 = .ok (.lreturn, 1) := by decide +kernel
theorem ef_rm_grantedNanos (m : MethodId) (x0 : Addr) (x1 : Int32) : entryFrame m #[(.ref x0), (.int x1)] 2 = mkF m 0 #[.val (.ref x0), .val (.int x1)] [] := by first | (simp [entryFrame, mkF, argsToLocals, Value.category, maxLocals]; done) | rfl
set_option maxRecDepth 65536 in
set_option maxHeartbeats 40000000 in
theorem rm_grantedNanos (l : Launch) (Z : State) (a0 : Array Value) (hw : ∀ d ∈ tables_1, d.before a0 Z = true) (ws : List Jvm.Cond) (a b : Addr) (k : Int32) (F : Nat → Int64) (h0 : Heap) (n0 : Nat) (Z0 : n0 ≤ h0.size) (Fv : Fld Z h0 a "com/example/lease/lease/cli/BenchReport$Grants" "values" "[J" (.ref b)) (Ab : Ary Z h0 b .long 96 (fun i => .long (F i))) (h1 : 0 ≤ ((3 : Int32) * k + 1).toInt) (h2 : ((3 : Int32) * k + 1).toInt < 96) :
    Met l Z (⟨"com/example/lease/lease/cli/BenchReport$Grants", "grantedNanos", "(I)J"⟩ : MethodName) prog_2_method_5_code 2 (some .long) ws ({ frames := 0, cells := 0, slots := 0, locals := 0 } : Room) #[(.ref a), (.int k)] h0 (fun v h L => v = some (.long (F ((3 : Int32) * k + 1).toInt.toNat)) ∧ Fr n0 L ∧ h = h0) 0 0 := by
  refine met_of (plainFor_of_name pn_1) (f0 := fun m => (mkF m 0 #[.val (.ref a), .val (.int k)] [])) (fun m => ef_rm_grantedNanos m a k) ?_
  intro p e s m below meth c s₁ X0 hx hby hml hret hlk hown hnm hZ e0
  replace hown : s.vm.findClass "com/example/lease/lease/cli/BenchReport$Grants" = some m.cls := hown
  have N0 := Fr.nil n0
  refine r_aloadN X0.here hx (hb hby d9_0) rfl rfl (pc' := 1) rfl ?_
  refine r_getF X0 hx hZ hown (hw _ (List.mem_of_getElem? (i := 10) rfl)) Via.refl e0 Fv (hb hby d9_1) (pc' := 4) rfl (fun T121 X121 e121 => ?_)
  refine r_iconst X121.here hx (hb hby d9_4) (v := 3) rfl (pc' := 5) rfl ?_
  refine r_iloadN X121.here hx (hb hby d9_5) rfl (pc' := 6) rfl ?_
  refine r_imul X121.here hx (hb hby d9_6) (pc' := 7) rfl ?_
  refine r_iconst X121.here hx (hb hby d9_7) (v := 1) rfl (pc' := 8) rfl ?_
  refine r_iadd X121.here hx (hb hby d9_8) (pc' := 9) rfl ?_
  refine q_laload X121 hx hZ e121 (j := (((3 : Int32) * k) + (1 : Int32))) (v := (F ((3 : Int32) * k + 1).toInt.toNat)) Ab h1 h2 rfl (hb hby d9_9) (pc' := 10) rfl ?_
  refine r_retJ X121 hx hlk hret (hb hby d9_10) ?_ (by decide) (by decide)
  try rw [e121]
  exact ⟨rfl, N0, rfl⟩
theorem d10_0 : decode prog_2_method_6_code 0 = .ok (.aload_n 0, 1) := by decide +kernel
theorem d10_1 : decode prog_2_method_6_code 1 = .ok (.getfield 9, 3) := by decide +kernel
theorem d10_4 : decode prog_2_method_6_code 4 = .ok (.iconst 3, 1) := by decide +kernel
theorem d10_5 : decode prog_2_method_6_code 5 = .ok (.iload_n 1, 1) := by decide +kernel
theorem d10_6 : decode prog_2_method_6_code 6 = .ok (.imul, 1) := by decide +kernel
theorem d10_7 : decode prog_2_method_6_code 7 = .ok (.iconst 2, 1) := by decide +kernel
theorem d10_8 : decode prog_2_method_6_code 8 = .ok (.iadd, 1) := by decide +kernel
theorem d10_9 : decode prog_2_method_6_code 9 = .ok (.laload, 1) := by decide +kernel
theorem d10_10 : decode prog_2_method_6_code 10 = .ok (.lreturn, 1) := by decide +kernel
theorem ef_rm_releasedNanos (m : MethodId) (x0 : Addr) (x1 : Int32) : entryFrame m #[(.ref x0), (.int x1)] 2 = mkF m 0 #[.val (.ref x0), .val (.int x1)] [] := by first | (simp [entryFrame, mkF, argsToLocals, Value.category, maxLocals]; done) | rfl
set_option maxRecDepth 65536 in
set_option maxHeartbeats 40000000 in
theorem rm_releasedNanos (l : Launch) (Z : State) (a0 : Array Value) (hw : ∀ d ∈ tables_1, d.before a0 Z = true) (ws : List Jvm.Cond) (a b : Addr) (k : Int32) (F : Nat → Int64) (h0 : Heap) (n0 : Nat) (Z0 : n0 ≤ h0.size) (Fv : Fld Z h0 a "com/example/lease/lease/cli/BenchReport$Grants" "values" "[J" (.ref b)) (Ab : Ary Z h0 b .long 96 (fun i => .long (F i))) (h1 : 0 ≤ ((3 : Int32) * k + 2).toInt) (h2 : ((3 : Int32) * k + 2).toInt < 96) :
    Met l Z (⟨"com/example/lease/lease/cli/BenchReport$Grants", "releasedNanos", "(I)J"⟩ : MethodName) prog_2_method_6_code 2 (some .long) ws ({ frames := 0, cells := 0, slots := 0, locals := 0 } : Room) #[(.ref a), (.int k)] h0 (fun v h L => v = some (.long (F ((3 : Int32) * k + 2).toInt.toNat)) ∧ Fr n0 L ∧ h = h0) 0 0 := by
  refine met_of (plainFor_of_name pn_1) (f0 := fun m => (mkF m 0 #[.val (.ref a), .val (.int k)] [])) (fun m => ef_rm_releasedNanos m a k) ?_
  intro p e s m below meth c s₁ X0 hx hby hml hret hlk hown hnm hZ e0
  replace hown : s.vm.findClass "com/example/lease/lease/cli/BenchReport$Grants" = some m.cls := hown
  have N0 := Fr.nil n0
  refine r_aloadN X0.here hx (hb hby d10_0) rfl rfl (pc' := 1) rfl ?_
  refine r_getF X0 hx hZ hown (hw _ (List.mem_of_getElem? (i := 10) rfl)) Via.refl e0 Fv (hb hby d10_1) (pc' := 4) rfl (fun T122 X122 e122 => ?_)
  refine r_iconst X122.here hx (hb hby d10_4) (v := 3) rfl (pc' := 5) rfl ?_
  refine r_iloadN X122.here hx (hb hby d10_5) rfl (pc' := 6) rfl ?_
  refine r_imul X122.here hx (hb hby d10_6) (pc' := 7) rfl ?_
  refine r_iconst X122.here hx (hb hby d10_7) (v := 2) rfl (pc' := 8) rfl ?_
  refine r_iadd X122.here hx (hb hby d10_8) (pc' := 9) rfl ?_
  refine q_laload X122 hx hZ e122 (j := (((3 : Int32) * k) + (2 : Int32))) (v := (F ((3 : Int32) * k + 2).toInt.toNat)) Ab h1 h2 rfl (hb hby d10_9) (pc' := 10) rfl ?_
  refine r_retJ X122 hx hlk hret (hb hby d10_10) ?_ (by decide) (by decide)
  try rw [e122]
  exact ⟨rfl, N0, rfl⟩
theorem d7_0 : decode method_2_code 0 = .ok (.aload_n 0, 1) := by decide +kernel
theorem d7_1 : decode method_2_code 1 = .ok (.iload_n 1, 1) := by decide +kernel
theorem d7_2 : decode method_2_code 2 = .ok (.invokevirtual 7, 3) := by decide +kernel
theorem pd_2 : parseMethodDescriptor "(I)J" = some ⟨[.int], some .long⟩ := by decide +kernel
theorem d7_5 : decode method_2_code 5 = .ok (.lload_n 2, 1) := by decide +kernel
theorem d7_6 : decode method_2_code 6 = .ok (.lcmp, 1) := by decide +kernel
theorem d7_7 : decode method_2_code 7 = .ok (.ifCond .ne 29, 3) := by decide +kernel
theorem d7_10 : decode method_2_code 10 = .ok (.aload_n 0, 1) := by decide +kernel
theorem d7_11 : decode method_2_code 11 = .ok (.iload_n 1, 1) := by decide +kernel
theorem d7_12 : decode method_2_code 12 = .ok (.invokevirtual 13, 3) := by decide +kernel
theorem d7_15 : decode method_2_code 15 = .ok (.lload 4, 2) := by decide +kernel
theorem d7_17 : decode method_2_code 17 = .ok (.lcmp, 1) := by decide +kernel
theorem d7_18 : decode method_2_code 18 = .ok (.ifCond .ne 18, 3) := by decide +kernel
theorem d7_21 : decode method_2_code 21 = .ok (.aload_n 0, 1) := by decide +kernel
theorem d7_22 : decode method_2_code 22 = .ok (.iload_n 1, 1) := by decide +kernel
theorem d7_23 : decode method_2_code 23 = .ok (.invokevirtual 16, 3) := by decide +kernel
theorem d7_26 : decode method_2_code 26 = .ok (.lload 6, 2) := by decide +kernel
theorem d7_28 : decode method_2_code 28 = .ok (.lcmp, 1) := by decide +kernel
theorem d7_29 : decode method_2_code 29 = .ok (.ifCond .ne 7, 3) := by decide +kernel
theorem d7_32 : decode method_2_code 32 = .ok (.iconst 1, 1) := by decide +kernel
theorem d7_33 : decode method_2_code 33 = .ok (.goto 4, 3) := by decide +kernel
theorem d7_37 : decode method_2_code 37 = .ok (.ireturn, 1) := by decide +kernel
theorem pn_2 : plainName "com/example/lease/lease/cli/GrantsAddPinLaw" = true := by first | (simp [plainName, overriddenIn]; done) | decide +kernel
theorem ef_rmAt (m : MethodId) (x0 : Addr) (x1 : Int32) (x2 : Int64) (x3 : Int64) (x4 : Int64) : entryFrame m #[(.ref x0), (.int x1), (.long x2), (.long x3), (.long x4)] 8 = mkF m 0 #[.val (.ref x0), .val (.int x1), .val (.long x2), .second, .val (.long x3), .second, .val (.long x4), .second] [] := by first | (simp [entryFrame, mkF, argsToLocals, Value.category, maxLocals]; done) | rfl
set_option maxRecDepth 65536 in
set_option maxHeartbeats 40000000 in
theorem rmAt (l : Launch) (Z : State) (a0 : Array Value) (hw : ∀ d ∈ tables_1, d.before a0 Z = true) (ws : List Jvm.Cond) (a b : Addr) (k : Int32) (o g r : Int64) (F : Nat → Int64) (h0 : Heap) (n0 : Nat) (Z0 : n0 ≤ h0.size) (Ea : Exa Z h0 a "com/example/lease/lease/cli/BenchReport$Grants") (Fv : Fld Z h0 a "com/example/lease/lease/cli/BenchReport$Grants" "values" "[J" (.ref b)) (Ab : Ary Z h0 b .long 96 (fun i => .long (F i))) (q0 : 0 ≤ ((3 : Int32) * k).toInt ∧ ((3 : Int32) * k).toInt < 96) (t0 : F ((3 : Int32) * k).toInt.toNat = o) (q1 : 0 ≤ ((3 : Int32) * k + 1).toInt ∧ ((3 : Int32) * k + 1).toInt < 96) (t1 : F ((3 : Int32) * k + 1).toInt.toNat = g) (q2 : 0 ≤ ((3 : Int32) * k + 2).toInt ∧ ((3 : Int32) * k + 2).toInt < 96) (t2 : F ((3 : Int32) * k + 2).toInt.toNat = r) :
    Met l Z (⟨"com/example/lease/lease/cli/GrantsAddPinLaw", "at", "(Lcom/example/lease/lease/cli/BenchReport$Grants;IJJJ)Z"⟩ : MethodName) method_2_code 8 (some .boolean) ws ({ frames := 1, cells := 0, slots := 0, locals := 13 } : Room) #[(.ref a), (.int k), (.long o), (.long g), (.long r)] h0 (fun v h L => v = some (.int 1) ∧ Fr n0 L ∧ h = h0) 0 0 := by
  refine met_of (plainFor_of_name pn_2) (f0 := fun m => (mkF m 0 #[.val (.ref a), .val (.int k), .val (.long o), .second, .val (.long g), .second, .val (.long r), .second] [])) (fun m => ef_rmAt m a k o g r) ?_
  intro p e s m below meth c s₁ X0 hx hby hml hret hlk hown hnm hZ e0
  replace hown : s.vm.findClass "com/example/lease/lease/cli/GrantsAddPinLaw" = some m.cls := hown
  have N0 := Fr.nil n0
  refine r_aloadN X0.here hx (hb hby d7_0) rfl rfl (pc' := 1) rfl ?_
  refine r_iloadN X0.here hx (hb hby d7_1) rfl (pc' := 2) rfl ?_
  refine r_callV X0 hx hZ (y := (⟨"com/example/lease/lease/cli/BenchReport$Grants", "order", "(I)J"⟩ : MethodName)) (z := (⟨"com/example/lease/lease/cli/BenchReport$Grants", "order", "(I)J"⟩ : MethodName)) (rm := ({ frames := 0, cells := 0, slots := 0, locals := 0 } : Room)) hown (hw _ (List.mem_of_getElem? (i := 54) rfl)) (hw _ (List.mem_of_getElem? (i := 55) rfl)) (notFace_of_selects (args := #[]) (mvT hZ (hw _ (List.mem_of_getElem? (i := 57) rfl)))) (hw _ (List.mem_of_getElem? (i := 57) rfl)) (hw _ (List.mem_of_getElem? (i := 56) rfl)) (hw _ (List.mem_of_getElem? (i := 2) rfl)) (hw _ (List.mem_of_getElem? (i := 58) rfl)) (by decide) (rm_order l Z a0 hw [] a b k F h0 n0 Z0 Fv Ab q0.1 q0.2) e0 Ea (by rw [hml]; rfl) (argsL := [(.int k)]) (rest := []) (lenOf pd_2 rfl) rfl rfl (W := 0) rfl (by decide) (by decide) (by decide) (by decide) (hb hby d7_2) (pc' := 5) rfl ?_
  rintro v123 T123 L123 X123 ⟨rfl, Nq123, e123⟩
  have N123 := Fr.app N0 Nq123
  show Run p e below _ _ T123 (mkF m 5 #[.val (.ref a), .val (.int k), .val (.long o), .second, .val (.long g), .second, .val (.long r), .second] [(.long (F ((3 : Int32) * k).toInt.toNat))])
  refine r_lloadN X123.here hx (hb hby d7_5) rfl (pc' := 6) rfl ?_
  refine r_lcmp X123.here hx (hb hby d7_6) (pc' := 7) rfl ?_
  refine r_ifL_ne X123.here hx (hb hby d7_7) (by decide) (pc' := 36) (by decide) (pc2 := 10) rfl (fun hc7 => absurd t0 hc7) (fun hc7 => ?_)
  refine r_aloadN X123.here hx (hb hby d7_10) rfl rfl (pc' := 11) rfl ?_
  refine r_iloadN X123.here hx (hb hby d7_11) rfl (pc' := 12) rfl ?_
  refine r_callV X123 hx hZ (y := (⟨"com/example/lease/lease/cli/BenchReport$Grants", "grantedNanos", "(I)J"⟩ : MethodName)) (z := (⟨"com/example/lease/lease/cli/BenchReport$Grants", "grantedNanos", "(I)J"⟩ : MethodName)) (rm := ({ frames := 0, cells := 0, slots := 0, locals := 0 } : Room)) hown (hw _ (List.mem_of_getElem? (i := 59) rfl)) (hw _ (List.mem_of_getElem? (i := 60) rfl)) (notFace_of_selects (args := #[]) (mvT hZ (hw _ (List.mem_of_getElem? (i := 62) rfl)))) (hw _ (List.mem_of_getElem? (i := 62) rfl)) (hw _ (List.mem_of_getElem? (i := 61) rfl)) (hw _ (List.mem_of_getElem? (i := 2) rfl)) (hw _ (List.mem_of_getElem? (i := 63) rfl)) (by decide) (rm_grantedNanos l Z a0 hw [] a b k F h0 n0 Z0 Fv Ab q1.1 q1.2) e123 Ea (by rw [hml]; rfl) (argsL := [(.int k)]) (rest := []) (lenOf pd_2 rfl) rfl rfl (W := 0) rfl (by decide) (by decide) (by decide) (by decide) (hb hby d7_12) (pc' := 15) rfl ?_
  rintro v124 T124 L124 X124 ⟨rfl, Nq124, e124⟩
  have N124 := Fr.app N123 Nq124
  show Run p e below _ _ T124 (mkF m 15 #[.val (.ref a), .val (.int k), .val (.long o), .second, .val (.long g), .second, .val (.long r), .second] [(.long (F ((3 : Int32) * k + 1).toInt.toNat))])
  refine r_lload X124.here hx (hb hby d7_15) rfl (pc' := 17) rfl ?_
  refine r_lcmp X124.here hx (hb hby d7_17) (pc' := 18) rfl ?_
  refine r_ifL_ne X124.here hx (hb hby d7_18) (by decide) (pc' := 36) (by decide) (pc2 := 21) rfl (fun hc18 => absurd t1 hc18) (fun hc18 => ?_)
  refine r_aloadN X124.here hx (hb hby d7_21) rfl rfl (pc' := 22) rfl ?_
  refine r_iloadN X124.here hx (hb hby d7_22) rfl (pc' := 23) rfl ?_
  refine r_callV X124 hx hZ (y := (⟨"com/example/lease/lease/cli/BenchReport$Grants", "releasedNanos", "(I)J"⟩ : MethodName)) (z := (⟨"com/example/lease/lease/cli/BenchReport$Grants", "releasedNanos", "(I)J"⟩ : MethodName)) (rm := ({ frames := 0, cells := 0, slots := 0, locals := 0 } : Room)) hown (hw _ (List.mem_of_getElem? (i := 64) rfl)) (hw _ (List.mem_of_getElem? (i := 65) rfl)) (notFace_of_selects (args := #[]) (mvT hZ (hw _ (List.mem_of_getElem? (i := 67) rfl)))) (hw _ (List.mem_of_getElem? (i := 67) rfl)) (hw _ (List.mem_of_getElem? (i := 66) rfl)) (hw _ (List.mem_of_getElem? (i := 2) rfl)) (hw _ (List.mem_of_getElem? (i := 68) rfl)) (by decide) (rm_releasedNanos l Z a0 hw [] a b k F h0 n0 Z0 Fv Ab q2.1 q2.2) e124 Ea (by rw [hml]; rfl) (argsL := [(.int k)]) (rest := []) (lenOf pd_2 rfl) rfl rfl (W := 0) rfl (by decide) (by decide) (by decide) (by decide) (hb hby d7_23) (pc' := 26) rfl ?_
  rintro v125 T125 L125 X125 ⟨rfl, Nq125, e125⟩
  have N125 := Fr.app N124 Nq125
  show Run p e below _ _ T125 (mkF m 26 #[.val (.ref a), .val (.int k), .val (.long o), .second, .val (.long g), .second, .val (.long r), .second] [(.long (F ((3 : Int32) * k + 2).toInt.toNat))])
  refine r_lload X125.here hx (hb hby d7_26) rfl (pc' := 28) rfl ?_
  refine r_lcmp X125.here hx (hb hby d7_28) (pc' := 29) rfl ?_
  refine r_ifL_ne X125.here hx (hb hby d7_29) (by decide) (pc' := 36) (by decide) (pc2 := 32) rfl (fun hc29 => absurd t2 hc29) (fun hc29 => ?_)
  refine r_iconst X125.here hx (hb hby d7_32) (v := 1) rfl (pc' := 33) rfl ?_
  refine r_goto X125.here hx (hb hby d7_33) (by decide) (pc' := 37) (by decide) ?_
  refine r_retN X125 hx hlk hret (by simp) (hb hby d7_37) (w := (1 : Int32)) rfl ?_ (by decide) (by decide)
  try rw [e125]
  exact ⟨rfl, N125, rfl⟩
theorem pd_3 : parseMethodDescriptor "()V" = some ⟨[], none⟩ := by decide +kernel
theorem pd_4 : parseMethodDescriptor "(JJJ)V" = some ⟨[.long, .long, .long], none⟩ := by decide +kernel
theorem pd_5 : parseMethodDescriptor "()I" = some ⟨[], some .int⟩ := by decide +kernel
theorem pd_6 : parseMethodDescriptor "(Lcom/example/lease/lease/cli/BenchReport$Grants;IJJJ)Z" = some ⟨[(.object "com/example/lease/lease/cli/BenchReport$Grants"), .int, .long, .long, .long], some .boolean⟩ := by decide +kernel
theorem ef_rm0 (m : MethodId) (x0 : Int64) (x1 : Int64) (x2 : Int64) (x3 : Int64) (x4 : Int64) (x5 : Int64) : entryFrame m #[(.long x0), (.long x1), (.long x2), (.long x3), (.long x4), (.long x5)] maxLocals = mkF m 0 #[.val (.long x0), .second, .val (.long x1), .second, .val (.long x2), .second, .val (.long x3), .second, .val (.long x4), .second, .val (.long x5), .second, .unset, .unset] [] := by first | (simp [entryFrame, mkF, argsToLocals, Value.category, maxLocals]; done) | rfl
set_option maxRecDepth 65536 in
set_option maxHeartbeats 40000000 in
theorem rm0 (l : Launch) (Z : State) (a0 : Array Value) (hw : ∀ d ∈ tables_1, d.before a0 Z = true) (ws : List Jvm.Cond) (o g r o2 g2 r2 : Int64) (h0 : Heap) (n0 : Nat) (Z0 : n0 ≤ h0.size)  :
    Met l Z Jvm.Pilot.@@N@@.x code maxLocals ret ws room_1 #[(.long o), (.long g), (.long r), (.long o2), (.long g2), (.long r2)] h0 (fun v h L => v = some (.int 1) ∧ Fr n0 L) 16 384 := by
  refine met_of (plainFor_of_name pn_2) (f0 := fun m => (mkF m 0 #[.val (.long o), .second, .val (.long g), .second, .val (.long r), .second, .val (.long o2), .second, .val (.long g2), .second, .val (.long r2), .second, .unset, .unset] [])) (fun m => ef_rm0 m o g r o2 g2 r2) ?_
  intro p e s m below meth c s₁ X0 hx hby hml hret hlk hown hnm hZ e0
  replace hown : s.vm.findClass "com/example/lease/lease/cli/GrantsAddPinLaw" = some m.cls := hown
  have N0 := Fr.nil n0
  refine r_new X0 hx hZ hown (hw _ (List.mem_of_getElem? (i := 0) rfl)) (hw _ (List.mem_of_getElem? (i := 1) rfl)) (hw _ (List.mem_of_getElem? (i := 2) rfl)) e0 (by decide) (by decide) (hb hby at_0) (pc' := 3) rfl (fun T126 h126 b126 g126 X126 e126 E126 A126 D126 => ?_)
  have ge127 : n0 ≤ b126 := by rw [g126]; exact Z0
  have Z128 : n0 ≤ h126.size := by have q := Z0; exact Nat.le_trans q E126.1
  have f129 : Fld Z h126 b126 "com/example/lease/lease/cli/BenchReport$Grants" "values" "[J" .null := D126 (Or.inl (hw _ (List.mem_of_getElem? (i := 11) rfl))) (ty := (.array .long)) (by decide)
  have f130 : Fld Z h126 b126 "com/example/lease/lease/cli/BenchReport$Grants" "size" "I" (.int (0 : Int32)) := D126 (Or.inl (hw _ (List.mem_of_getElem? (i := 18) rfl))) (ty := .int) (by decide)
  refine r_dup X126.here hx (hb hby at_3) rfl (pc' := 4) rfl ?_
  refine r_callI X126 hx hZ (y := (⟨"com/example/lease/lease/cli/BenchReport$Grants", "<init>", "()V"⟩ : MethodName)) (rm := ({ frames := 1, cells := 1, slots := 48, locals := 12 } : Room)) hown rfl (hw _ (List.mem_of_getElem? (i := 3) rfl)) (hw _ (List.mem_of_getElem? (i := 4) rfl)) (hw _ (List.mem_of_getElem? (i := 2) rfl)) (hw _ (List.mem_of_getElem? (i := 5) rfl)) (by decide) (rmI l Z a0 hw [] b126 h126 n0 Z128 ge127 A126 f129 f130) e126 (by rw [hml]; rfl) (argsL := []) (rest := [(.ref b126)]) (lenOf pd_3 rfl) rfl rfl (W := 1) rfl (by decide) (by decide) (by decide) (by decide) (hb hby at_4) (pc' := 7) rfl ?_
  rintro v131 T131 L131 X131 ⟨rfl, Nq131, K131, b, Fv131, Fs131, Ab131, gb, ba⟩
  have N131 := Fr.app N0 Nq131
  show Run p e below _ _ T131 (mkF m 7 #[.val (.long o), .second, .val (.long g), .second, .val (.long r), .second, .val (.long o2), .second, .val (.long g2), .second, .val (.long r2), .second, .unset, .unset] [(.ref b126)])
  have f132 := A126.keep K131
  have Z133 : n0 ≤ T131.heap.size := by have q := Z128; exact Nat.le_trans q K131.1
  refine r_astore X131.here hx (hb hby at_7) rfl (l' := #[.val (.long o), .second, .val (.long g), .second, .val (.long r), .second, .val (.long o2), .second, .val (.long g2), .second, .val (.long r2), .second, .val (.ref b126), .unset]) rfl (pc' := 9) rfl ?_
  refine r_aload X131.here hx (hb hby at_9) rfl rfl (pc' := 11) rfl ?_
  refine r_lloadN X131.here hx (hb hby at_11) rfl (pc' := 12) rfl ?_
  refine r_lloadN X131.here hx (hb hby at_12) rfl (pc' := 13) rfl ?_
  refine r_lload X131.here hx (hb hby at_13) rfl (pc' := 15) rfl ?_
  refine r_callV X131 hx hZ (y := (⟨"com/example/lease/lease/cli/BenchReport$Grants", "add", "(JJJ)V"⟩ : MethodName)) (z := (⟨"com/example/lease/lease/cli/BenchReport$Grants", "add", "(JJJ)V"⟩ : MethodName)) (rm := ({ frames := 0, cells := 0, slots := 0, locals := 0 } : Room)) hown (hw _ (List.mem_of_getElem? (i := 12) rfl)) (hw _ (List.mem_of_getElem? (i := 13) rfl)) (notFace_of_selects (args := #[]) (mvT hZ (hw _ (List.mem_of_getElem? (i := 15) rfl)))) (hw _ (List.mem_of_getElem? (i := 15) rfl)) (hw _ (List.mem_of_getElem? (i := 14) rfl)) (hw _ (List.mem_of_getElem? (i := 2) rfl)) (hw _ (List.mem_of_getElem? (i := 16) rfl)) (by decide) (rmA l Z a0 hw [] b126 b o g r (fun _ => (0 : Int64)) 0 0 T131.heap n0 Z133 ge127 gb ba f132 Fv131 Fs131 Ab131 rfl rfl rfl (by decide) (by decide)) rfl f132 (by rw [hml]; rfl) (argsL := [(.long o), (.long g), (.long r)]) (rest := []) (lenOf pd_4 rfl) rfl rfl (W := 0) rfl (by decide) (by decide) (by decide) (by decide) (hb hby at_15) (pc' := 18) rfl ?_
  rintro v134 T134 L134 X134 ⟨rfl, Nq134, K134, Fv134, Fs134, Ab134⟩
  have N134 := Fr.app N131 Nq134
  show Run p e below _ _ T134 (mkF m 18 #[.val (.long o), .second, .val (.long g), .second, .val (.long r), .second, .val (.long o2), .second, .val (.long g2), .second, .val (.long r2), .second, .val (.ref b126), .unset] [])
  have f135 := f132.keep K134
  have Z136 : n0 ≤ T134.heap.size := by have q := Z133; exact Nat.le_trans q K134.1
  have fs137 : Fld Z T134.heap b126 "com/example/lease/lease/cli/BenchReport$Grants" "size" "I" (.int (1 : Int32)) := Fs134
  refine r_aload X134.here hx (hb hby at_18) rfl rfl (pc' := 20) rfl ?_
  refine r_callV X134 hx hZ (y := (⟨"com/example/lease/lease/cli/BenchReport$Grants", "size", "()I"⟩ : MethodName)) (z := (⟨"com/example/lease/lease/cli/BenchReport$Grants", "size", "()I"⟩ : MethodName)) (rm := ({ frames := 0, cells := 0, slots := 0, locals := 0 } : Room)) hown (hw _ (List.mem_of_getElem? (i := 19) rfl)) (hw _ (List.mem_of_getElem? (i := 20) rfl)) (notFace_of_selects (args := #[]) (mvT hZ (hw _ (List.mem_of_getElem? (i := 22) rfl)))) (hw _ (List.mem_of_getElem? (i := 22) rfl)) (hw _ (List.mem_of_getElem? (i := 21) rfl)) (hw _ (List.mem_of_getElem? (i := 2) rfl)) (hw _ (List.mem_of_getElem? (i := 23) rfl)) (by decide) (rmS l Z a0 hw [] b126 1 T134.heap n0 Z136 fs137) rfl f135 (by rw [hml]; rfl) (argsL := []) (rest := []) (lenOf pd_5 rfl) rfl rfl (W := 0) rfl (by decide) (by decide) (by decide) (by decide) (hb hby at_20) (pc' := 23) rfl ?_
  rintro v138 T138 L138 X138 ⟨rfl, Nq138, e138⟩
  have N138 := Fr.app N134 Nq138
  show Run p e below _ _ T138 (mkF m 23 #[.val (.long o), .second, .val (.long g), .second, .val (.long r), .second, .val (.long o2), .second, .val (.long g2), .second, .val (.long r2), .second, .val (.ref b126), .unset] [(.int (1 : Int32))])
  refine r_iconst X138.here hx (hb hby at_23) (v := 1) rfl (pc' := 24) rfl ?_
  refine r_if_ne X138.here hx (hb hby at_24) (by decide) (pc' := 31) (by decide) (pc2 := 27) rfl (fun hc24 => absurd rfl hc24) (fun hc24 => ?_)
  refine r_iconst X138.here hx (hb hby at_27) (v := 1) rfl (pc' := 28) rfl ?_
  refine r_goto X138.here hx (hb hby at_28) (by decide) (pc' := 32) (by decide) ?_
  refine r_istore X138.here hx (hb hby at_32) (l' := #[.val (.long o), .second, .val (.long g), .second, .val (.long r), .second, .val (.long o2), .second, .val (.long g2), .second, .val (.long r2), .second, .val (.ref b126), .val (.int (1 : Int32))]) rfl (pc' := 34) rfl ?_
  refine r_aload X138.here hx (hb hby at_34) rfl rfl (pc' := 36) rfl ?_
  refine r_lload X138.here hx (hb hby at_36) rfl (pc' := 38) rfl ?_
  refine r_lconst X138.here hx (hb hby at_38) (v := 1) rfl (pc' := 39) rfl ?_
  refine r_ladd X138.here hx (hb hby at_39) (pc' := 40) rfl ?_
  refine r_lload X138.here hx (hb hby at_40) rfl (pc' := 42) rfl ?_
  refine r_lconst X138.here hx (hb hby at_42) (v := 1) rfl (pc' := 43) rfl ?_
  refine r_lsub X138.here hx (hb hby at_43) (pc' := 44) rfl ?_
  refine r_lload X138.here hx (hb hby at_44) rfl (pc' := 46) rfl ?_
  refine r_lconst X138.here hx (hb hby at_46) (v := 1) rfl (pc' := 47) rfl ?_
  refine r_lxor X138.here hx (hb hby at_47) (pc' := 48) rfl ?_
  refine r_callV X138 hx hZ (y := (⟨"com/example/lease/lease/cli/BenchReport$Grants", "add", "(JJJ)V"⟩ : MethodName)) (z := (⟨"com/example/lease/lease/cli/BenchReport$Grants", "add", "(JJJ)V"⟩ : MethodName)) (rm := ({ frames := 0, cells := 0, slots := 0, locals := 0 } : Room)) hown (hw _ (List.mem_of_getElem? (i := 12) rfl)) (hw _ (List.mem_of_getElem? (i := 13) rfl)) (notFace_of_selects (args := #[]) (mvT hZ (hw _ (List.mem_of_getElem? (i := 15) rfl)))) (hw _ (List.mem_of_getElem? (i := 15) rfl)) (hw _ (List.mem_of_getElem? (i := 14) rfl)) (hw _ (List.mem_of_getElem? (i := 2) rfl)) (hw _ (List.mem_of_getElem? (i := 16) rfl)) (by decide) (rmA l Z a0 hw [] b126 b (o2 + (1 : Int64)) (g2 - (1 : Int64)) (r2 ^^^ (1 : Int64)) (own_u3 (fun _ => (0 : Int64)) 0 o g r) 1 1 T134.heap n0 Z136 ge127 gb ba f135 Fv134 fs137 Ab134 rfl rfl rfl (by decide) (by decide)) e138 f135 (by rw [hml]; rfl) (argsL := [(.long (o2 + (1 : Int64))), (.long (g2 - (1 : Int64))), (.long (r2 ^^^ (1 : Int64)))]) (rest := []) (lenOf pd_4 rfl) rfl rfl (W := 0) rfl (by decide) (by decide) (by decide) (by decide) (hb hby at_48) (pc' := 51) rfl ?_
  rintro v139 T139 L139 X139 ⟨rfl, Nq139, K139, Fv139, Fs139, Ab139⟩
  have N139 := Fr.app N138 Nq139
  show Run p e below _ _ T139 (mkF m 51 #[.val (.long o), .second, .val (.long g), .second, .val (.long r), .second, .val (.long o2), .second, .val (.long g2), .second, .val (.long r2), .second, .val (.ref b126), .val (.int (1 : Int32))] [])
  have f140 := f135.keep K139
  have Z141 : n0 ≤ T139.heap.size := by have q := Z136; exact Nat.le_trans q K139.1
  have fs142 : Fld Z T139.heap b126 "com/example/lease/lease/cli/BenchReport$Grants" "size" "I" (.int (2 : Int32)) := Fs139
  refine r_aload X139.here hx (hb hby at_51) rfl rfl (pc' := 53) rfl ?_
  refine r_lload X139.here hx (hb hby at_53) rfl (pc' := 55) rfl ?_
  refine r_ldc2 X139 hx hZ hown (hw _ (List.mem_of_getElem? (i := 24) rfl)) (hb hby at_55) (pc' := 58) rfl ?_
  refine r_ladd X139.here hx (hb hby at_58) (pc' := 59) rfl ?_
  refine r_lload X139.here hx (hb hby at_59) rfl (pc' := 61) rfl ?_
  refine r_ldc2 X139 hx hZ hown (hw _ (List.mem_of_getElem? (i := 24) rfl)) (hb hby at_61) (pc' := 64) rfl ?_
  refine r_lsub X139.here hx (hb hby at_64) (pc' := 65) rfl ?_
  refine r_lload X139.here hx (hb hby at_65) rfl (pc' := 67) rfl ?_
  refine r_ldc2 X139 hx hZ hown (hw _ (List.mem_of_getElem? (i := 24) rfl)) (hb hby at_67) (pc' := 70) rfl ?_
  refine r_lxor X139.here hx (hb hby at_70) (pc' := 71) rfl ?_
  refine r_callV X139 hx hZ (y := (⟨"com/example/lease/lease/cli/BenchReport$Grants", "add", "(JJJ)V"⟩ : MethodName)) (z := (⟨"com/example/lease/lease/cli/BenchReport$Grants", "add", "(JJJ)V"⟩ : MethodName)) (rm := ({ frames := 0, cells := 0, slots := 0, locals := 0 } : Room)) hown (hw _ (List.mem_of_getElem? (i := 12) rfl)) (hw _ (List.mem_of_getElem? (i := 13) rfl)) (notFace_of_selects (args := #[]) (mvT hZ (hw _ (List.mem_of_getElem? (i := 15) rfl)))) (hw _ (List.mem_of_getElem? (i := 15) rfl)) (hw _ (List.mem_of_getElem? (i := 14) rfl)) (hw _ (List.mem_of_getElem? (i := 2) rfl)) (hw _ (List.mem_of_getElem? (i := 16) rfl)) (by decide) (rmA l Z a0 hw [] b126 b (o2 + (2 : Int64)) (g2 - (2 : Int64)) (r2 ^^^ (2 : Int64)) (own_u3 (own_u3 (fun _ => (0 : Int64)) 0 o g r) 1 (o2 + (1 : Int64)) (g2 - (1 : Int64)) (r2 ^^^ (1 : Int64))) 2 2 T139.heap n0 Z141 ge127 gb ba f140 Fv139 fs142 Ab139 rfl rfl rfl (by decide) (by decide)) rfl f140 (by rw [hml]; rfl) (argsL := [(.long (o2 + (2 : Int64))), (.long (g2 - (2 : Int64))), (.long (r2 ^^^ (2 : Int64)))]) (rest := []) (lenOf pd_4 rfl) rfl rfl (W := 0) rfl (by decide) (by decide) (by decide) (by decide) (hb hby at_71) (pc' := 74) rfl ?_
  rintro v143 T143 L143 X143 ⟨rfl, Nq143, K143, Fv143, Fs143, Ab143⟩
  have N143 := Fr.app N139 Nq143
  show Run p e below _ _ T143 (mkF m 74 #[.val (.long o), .second, .val (.long g), .second, .val (.long r), .second, .val (.long o2), .second, .val (.long g2), .second, .val (.long r2), .second, .val (.ref b126), .val (.int (1 : Int32))] [])
  have f144 := f140.keep K143
  have Z145 : n0 ≤ T143.heap.size := by have q := Z141; exact Nat.le_trans q K143.1
  have fs146 : Fld Z T143.heap b126 "com/example/lease/lease/cli/BenchReport$Grants" "size" "I" (.int (3 : Int32)) := Fs143
  refine r_aload X143.here hx (hb hby at_74) rfl rfl (pc' := 76) rfl ?_
  refine r_lload X143.here hx (hb hby at_76) rfl (pc' := 78) rfl ?_
  refine r_ldc2 X143 hx hZ hown (hw _ (List.mem_of_getElem? (i := 25) rfl)) (hb hby at_78) (pc' := 81) rfl ?_
  refine r_ladd X143.here hx (hb hby at_81) (pc' := 82) rfl ?_
  refine r_lload X143.here hx (hb hby at_82) rfl (pc' := 84) rfl ?_
  refine r_ldc2 X143 hx hZ hown (hw _ (List.mem_of_getElem? (i := 25) rfl)) (hb hby at_84) (pc' := 87) rfl ?_
  refine r_lsub X143.here hx (hb hby at_87) (pc' := 88) rfl ?_
  refine r_lload X143.here hx (hb hby at_88) rfl (pc' := 90) rfl ?_
  refine r_ldc2 X143 hx hZ hown (hw _ (List.mem_of_getElem? (i := 25) rfl)) (hb hby at_90) (pc' := 93) rfl ?_
  refine r_lxor X143.here hx (hb hby at_93) (pc' := 94) rfl ?_
  refine r_callV X143 hx hZ (y := (⟨"com/example/lease/lease/cli/BenchReport$Grants", "add", "(JJJ)V"⟩ : MethodName)) (z := (⟨"com/example/lease/lease/cli/BenchReport$Grants", "add", "(JJJ)V"⟩ : MethodName)) (rm := ({ frames := 0, cells := 0, slots := 0, locals := 0 } : Room)) hown (hw _ (List.mem_of_getElem? (i := 12) rfl)) (hw _ (List.mem_of_getElem? (i := 13) rfl)) (notFace_of_selects (args := #[]) (mvT hZ (hw _ (List.mem_of_getElem? (i := 15) rfl)))) (hw _ (List.mem_of_getElem? (i := 15) rfl)) (hw _ (List.mem_of_getElem? (i := 14) rfl)) (hw _ (List.mem_of_getElem? (i := 2) rfl)) (hw _ (List.mem_of_getElem? (i := 16) rfl)) (by decide) (rmA l Z a0 hw [] b126 b (o2 + (3 : Int64)) (g2 - (3 : Int64)) (r2 ^^^ (3 : Int64)) (own_u3 (own_u3 (own_u3 (fun _ => (0 : Int64)) 0 o g r) 1 (o2 + (1 : Int64)) (g2 - (1 : Int64)) (r2 ^^^ (1 : Int64))) 2 (o2 + (2 : Int64)) (g2 - (2 : Int64)) (r2 ^^^ (2 : Int64))) 3 3 T143.heap n0 Z145 ge127 gb ba f144 Fv143 fs146 Ab143 rfl rfl rfl (by decide) (by decide)) rfl f144 (by rw [hml]; rfl) (argsL := [(.long (o2 + (3 : Int64))), (.long (g2 - (3 : Int64))), (.long (r2 ^^^ (3 : Int64)))]) (rest := []) (lenOf pd_4 rfl) rfl rfl (W := 0) rfl (by decide) (by decide) (by decide) (by decide) (hb hby at_94) (pc' := 97) rfl ?_
  rintro v147 T147 L147 X147 ⟨rfl, Nq147, K147, Fv147, Fs147, Ab147⟩
  have N147 := Fr.app N143 Nq147
  show Run p e below _ _ T147 (mkF m 97 #[.val (.long o), .second, .val (.long g), .second, .val (.long r), .second, .val (.long o2), .second, .val (.long g2), .second, .val (.long r2), .second, .val (.ref b126), .val (.int (1 : Int32))] [])
  have f148 := f144.keep K147
  have Z149 : n0 ≤ T147.heap.size := by have q := Z145; exact Nat.le_trans q K147.1
  have fs150 : Fld Z T147.heap b126 "com/example/lease/lease/cli/BenchReport$Grants" "size" "I" (.int (4 : Int32)) := Fs147
  refine r_aload X147.here hx (hb hby at_97) rfl rfl (pc' := 99) rfl ?_
  refine r_lload X147.here hx (hb hby at_99) rfl (pc' := 101) rfl ?_
  refine r_ldc2 X147 hx hZ hown (hw _ (List.mem_of_getElem? (i := 26) rfl)) (hb hby at_101) (pc' := 104) rfl ?_
  refine r_ladd X147.here hx (hb hby at_104) (pc' := 105) rfl ?_
  refine r_lload X147.here hx (hb hby at_105) rfl (pc' := 107) rfl ?_
  refine r_ldc2 X147 hx hZ hown (hw _ (List.mem_of_getElem? (i := 26) rfl)) (hb hby at_107) (pc' := 110) rfl ?_
  refine r_lsub X147.here hx (hb hby at_110) (pc' := 111) rfl ?_
  refine r_lload X147.here hx (hb hby at_111) rfl (pc' := 113) rfl ?_
  refine r_ldc2 X147 hx hZ hown (hw _ (List.mem_of_getElem? (i := 26) rfl)) (hb hby at_113) (pc' := 116) rfl ?_
  refine r_lxor X147.here hx (hb hby at_116) (pc' := 117) rfl ?_
  refine r_callV X147 hx hZ (y := (⟨"com/example/lease/lease/cli/BenchReport$Grants", "add", "(JJJ)V"⟩ : MethodName)) (z := (⟨"com/example/lease/lease/cli/BenchReport$Grants", "add", "(JJJ)V"⟩ : MethodName)) (rm := ({ frames := 0, cells := 0, slots := 0, locals := 0 } : Room)) hown (hw _ (List.mem_of_getElem? (i := 12) rfl)) (hw _ (List.mem_of_getElem? (i := 13) rfl)) (notFace_of_selects (args := #[]) (mvT hZ (hw _ (List.mem_of_getElem? (i := 15) rfl)))) (hw _ (List.mem_of_getElem? (i := 15) rfl)) (hw _ (List.mem_of_getElem? (i := 14) rfl)) (hw _ (List.mem_of_getElem? (i := 2) rfl)) (hw _ (List.mem_of_getElem? (i := 16) rfl)) (by decide) (rmA l Z a0 hw [] b126 b (o2 + (4 : Int64)) (g2 - (4 : Int64)) (r2 ^^^ (4 : Int64)) (own_u3 (own_u3 (own_u3 (own_u3 (fun _ => (0 : Int64)) 0 o g r) 1 (o2 + (1 : Int64)) (g2 - (1 : Int64)) (r2 ^^^ (1 : Int64))) 2 (o2 + (2 : Int64)) (g2 - (2 : Int64)) (r2 ^^^ (2 : Int64))) 3 (o2 + (3 : Int64)) (g2 - (3 : Int64)) (r2 ^^^ (3 : Int64))) 4 4 T147.heap n0 Z149 ge127 gb ba f148 Fv147 fs150 Ab147 rfl rfl rfl (by decide) (by decide)) rfl f148 (by rw [hml]; rfl) (argsL := [(.long (o2 + (4 : Int64))), (.long (g2 - (4 : Int64))), (.long (r2 ^^^ (4 : Int64)))]) (rest := []) (lenOf pd_4 rfl) rfl rfl (W := 0) rfl (by decide) (by decide) (by decide) (by decide) (hb hby at_117) (pc' := 120) rfl ?_
  rintro v151 T151 L151 X151 ⟨rfl, Nq151, K151, Fv151, Fs151, Ab151⟩
  have N151 := Fr.app N147 Nq151
  show Run p e below _ _ T151 (mkF m 120 #[.val (.long o), .second, .val (.long g), .second, .val (.long r), .second, .val (.long o2), .second, .val (.long g2), .second, .val (.long r2), .second, .val (.ref b126), .val (.int (1 : Int32))] [])
  have f152 := f148.keep K151
  have Z153 : n0 ≤ T151.heap.size := by have q := Z149; exact Nat.le_trans q K151.1
  have fs154 : Fld Z T151.heap b126 "com/example/lease/lease/cli/BenchReport$Grants" "size" "I" (.int (5 : Int32)) := Fs151
  refine r_aload X151.here hx (hb hby at_120) rfl rfl (pc' := 122) rfl ?_
  refine r_lload X151.here hx (hb hby at_122) rfl (pc' := 124) rfl ?_
  refine r_ldc2 X151 hx hZ hown (hw _ (List.mem_of_getElem? (i := 27) rfl)) (hb hby at_124) (pc' := 127) rfl ?_
  refine r_ladd X151.here hx (hb hby at_127) (pc' := 128) rfl ?_
  refine r_lload X151.here hx (hb hby at_128) rfl (pc' := 130) rfl ?_
  refine r_ldc2 X151 hx hZ hown (hw _ (List.mem_of_getElem? (i := 27) rfl)) (hb hby at_130) (pc' := 133) rfl ?_
  refine r_lsub X151.here hx (hb hby at_133) (pc' := 134) rfl ?_
  refine r_lload X151.here hx (hb hby at_134) rfl (pc' := 136) rfl ?_
  refine r_ldc2 X151 hx hZ hown (hw _ (List.mem_of_getElem? (i := 27) rfl)) (hb hby at_136) (pc' := 139) rfl ?_
  refine r_lxor X151.here hx (hb hby at_139) (pc' := 140) rfl ?_
  refine r_callV X151 hx hZ (y := (⟨"com/example/lease/lease/cli/BenchReport$Grants", "add", "(JJJ)V"⟩ : MethodName)) (z := (⟨"com/example/lease/lease/cli/BenchReport$Grants", "add", "(JJJ)V"⟩ : MethodName)) (rm := ({ frames := 0, cells := 0, slots := 0, locals := 0 } : Room)) hown (hw _ (List.mem_of_getElem? (i := 12) rfl)) (hw _ (List.mem_of_getElem? (i := 13) rfl)) (notFace_of_selects (args := #[]) (mvT hZ (hw _ (List.mem_of_getElem? (i := 15) rfl)))) (hw _ (List.mem_of_getElem? (i := 15) rfl)) (hw _ (List.mem_of_getElem? (i := 14) rfl)) (hw _ (List.mem_of_getElem? (i := 2) rfl)) (hw _ (List.mem_of_getElem? (i := 16) rfl)) (by decide) (rmA l Z a0 hw [] b126 b (o2 + (5 : Int64)) (g2 - (5 : Int64)) (r2 ^^^ (5 : Int64)) (own_u3 (own_u3 (own_u3 (own_u3 (own_u3 (fun _ => (0 : Int64)) 0 o g r) 1 (o2 + (1 : Int64)) (g2 - (1 : Int64)) (r2 ^^^ (1 : Int64))) 2 (o2 + (2 : Int64)) (g2 - (2 : Int64)) (r2 ^^^ (2 : Int64))) 3 (o2 + (3 : Int64)) (g2 - (3 : Int64)) (r2 ^^^ (3 : Int64))) 4 (o2 + (4 : Int64)) (g2 - (4 : Int64)) (r2 ^^^ (4 : Int64))) 5 5 T151.heap n0 Z153 ge127 gb ba f152 Fv151 fs154 Ab151 rfl rfl rfl (by decide) (by decide)) rfl f152 (by rw [hml]; rfl) (argsL := [(.long (o2 + (5 : Int64))), (.long (g2 - (5 : Int64))), (.long (r2 ^^^ (5 : Int64)))]) (rest := []) (lenOf pd_4 rfl) rfl rfl (W := 0) rfl (by decide) (by decide) (by decide) (by decide) (hb hby at_140) (pc' := 143) rfl ?_
  rintro v155 T155 L155 X155 ⟨rfl, Nq155, K155, Fv155, Fs155, Ab155⟩
  have N155 := Fr.app N151 Nq155
  show Run p e below _ _ T155 (mkF m 143 #[.val (.long o), .second, .val (.long g), .second, .val (.long r), .second, .val (.long o2), .second, .val (.long g2), .second, .val (.long r2), .second, .val (.ref b126), .val (.int (1 : Int32))] [])
  have f156 := f152.keep K155
  have Z157 : n0 ≤ T155.heap.size := by have q := Z153; exact Nat.le_trans q K155.1
  have fs158 : Fld Z T155.heap b126 "com/example/lease/lease/cli/BenchReport$Grants" "size" "I" (.int (6 : Int32)) := Fs155
  refine r_aload X155.here hx (hb hby at_143) rfl rfl (pc' := 145) rfl ?_
  refine r_lload X155.here hx (hb hby at_145) rfl (pc' := 147) rfl ?_
  refine r_ldc2 X155 hx hZ hown (hw _ (List.mem_of_getElem? (i := 28) rfl)) (hb hby at_147) (pc' := 150) rfl ?_
  refine r_ladd X155.here hx (hb hby at_150) (pc' := 151) rfl ?_
  refine r_lload X155.here hx (hb hby at_151) rfl (pc' := 153) rfl ?_
  refine r_ldc2 X155 hx hZ hown (hw _ (List.mem_of_getElem? (i := 28) rfl)) (hb hby at_153) (pc' := 156) rfl ?_
  refine r_lsub X155.here hx (hb hby at_156) (pc' := 157) rfl ?_
  refine r_lload X155.here hx (hb hby at_157) rfl (pc' := 159) rfl ?_
  refine r_ldc2 X155 hx hZ hown (hw _ (List.mem_of_getElem? (i := 28) rfl)) (hb hby at_159) (pc' := 162) rfl ?_
  refine r_lxor X155.here hx (hb hby at_162) (pc' := 163) rfl ?_
  refine r_callV X155 hx hZ (y := (⟨"com/example/lease/lease/cli/BenchReport$Grants", "add", "(JJJ)V"⟩ : MethodName)) (z := (⟨"com/example/lease/lease/cli/BenchReport$Grants", "add", "(JJJ)V"⟩ : MethodName)) (rm := ({ frames := 0, cells := 0, slots := 0, locals := 0 } : Room)) hown (hw _ (List.mem_of_getElem? (i := 12) rfl)) (hw _ (List.mem_of_getElem? (i := 13) rfl)) (notFace_of_selects (args := #[]) (mvT hZ (hw _ (List.mem_of_getElem? (i := 15) rfl)))) (hw _ (List.mem_of_getElem? (i := 15) rfl)) (hw _ (List.mem_of_getElem? (i := 14) rfl)) (hw _ (List.mem_of_getElem? (i := 2) rfl)) (hw _ (List.mem_of_getElem? (i := 16) rfl)) (by decide) (rmA l Z a0 hw [] b126 b (o2 + (6 : Int64)) (g2 - (6 : Int64)) (r2 ^^^ (6 : Int64)) (own_u3 (own_u3 (own_u3 (own_u3 (own_u3 (own_u3 (fun _ => (0 : Int64)) 0 o g r) 1 (o2 + (1 : Int64)) (g2 - (1 : Int64)) (r2 ^^^ (1 : Int64))) 2 (o2 + (2 : Int64)) (g2 - (2 : Int64)) (r2 ^^^ (2 : Int64))) 3 (o2 + (3 : Int64)) (g2 - (3 : Int64)) (r2 ^^^ (3 : Int64))) 4 (o2 + (4 : Int64)) (g2 - (4 : Int64)) (r2 ^^^ (4 : Int64))) 5 (o2 + (5 : Int64)) (g2 - (5 : Int64)) (r2 ^^^ (5 : Int64))) 6 6 T155.heap n0 Z157 ge127 gb ba f156 Fv155 fs158 Ab155 rfl rfl rfl (by decide) (by decide)) rfl f156 (by rw [hml]; rfl) (argsL := [(.long (o2 + (6 : Int64))), (.long (g2 - (6 : Int64))), (.long (r2 ^^^ (6 : Int64)))]) (rest := []) (lenOf pd_4 rfl) rfl rfl (W := 0) rfl (by decide) (by decide) (by decide) (by decide) (hb hby at_163) (pc' := 166) rfl ?_
  rintro v159 T159 L159 X159 ⟨rfl, Nq159, K159, Fv159, Fs159, Ab159⟩
  have N159 := Fr.app N155 Nq159
  show Run p e below _ _ T159 (mkF m 166 #[.val (.long o), .second, .val (.long g), .second, .val (.long r), .second, .val (.long o2), .second, .val (.long g2), .second, .val (.long r2), .second, .val (.ref b126), .val (.int (1 : Int32))] [])
  have f160 := f156.keep K159
  have Z161 : n0 ≤ T159.heap.size := by have q := Z157; exact Nat.le_trans q K159.1
  have fs162 : Fld Z T159.heap b126 "com/example/lease/lease/cli/BenchReport$Grants" "size" "I" (.int (7 : Int32)) := Fs159
  refine r_aload X159.here hx (hb hby at_166) rfl rfl (pc' := 168) rfl ?_
  refine r_lload X159.here hx (hb hby at_168) rfl (pc' := 170) rfl ?_
  refine r_ldc2 X159 hx hZ hown (hw _ (List.mem_of_getElem? (i := 29) rfl)) (hb hby at_170) (pc' := 173) rfl ?_
  refine r_ladd X159.here hx (hb hby at_173) (pc' := 174) rfl ?_
  refine r_lload X159.here hx (hb hby at_174) rfl (pc' := 176) rfl ?_
  refine r_ldc2 X159 hx hZ hown (hw _ (List.mem_of_getElem? (i := 29) rfl)) (hb hby at_176) (pc' := 179) rfl ?_
  refine r_lsub X159.here hx (hb hby at_179) (pc' := 180) rfl ?_
  refine r_lload X159.here hx (hb hby at_180) rfl (pc' := 182) rfl ?_
  refine r_ldc2 X159 hx hZ hown (hw _ (List.mem_of_getElem? (i := 29) rfl)) (hb hby at_182) (pc' := 185) rfl ?_
  refine r_lxor X159.here hx (hb hby at_185) (pc' := 186) rfl ?_
  refine r_callV X159 hx hZ (y := (⟨"com/example/lease/lease/cli/BenchReport$Grants", "add", "(JJJ)V"⟩ : MethodName)) (z := (⟨"com/example/lease/lease/cli/BenchReport$Grants", "add", "(JJJ)V"⟩ : MethodName)) (rm := ({ frames := 0, cells := 0, slots := 0, locals := 0 } : Room)) hown (hw _ (List.mem_of_getElem? (i := 12) rfl)) (hw _ (List.mem_of_getElem? (i := 13) rfl)) (notFace_of_selects (args := #[]) (mvT hZ (hw _ (List.mem_of_getElem? (i := 15) rfl)))) (hw _ (List.mem_of_getElem? (i := 15) rfl)) (hw _ (List.mem_of_getElem? (i := 14) rfl)) (hw _ (List.mem_of_getElem? (i := 2) rfl)) (hw _ (List.mem_of_getElem? (i := 16) rfl)) (by decide) (rmA l Z a0 hw [] b126 b (o2 + (7 : Int64)) (g2 - (7 : Int64)) (r2 ^^^ (7 : Int64)) (own_u3 (own_u3 (own_u3 (own_u3 (own_u3 (own_u3 (own_u3 (fun _ => (0 : Int64)) 0 o g r) 1 (o2 + (1 : Int64)) (g2 - (1 : Int64)) (r2 ^^^ (1 : Int64))) 2 (o2 + (2 : Int64)) (g2 - (2 : Int64)) (r2 ^^^ (2 : Int64))) 3 (o2 + (3 : Int64)) (g2 - (3 : Int64)) (r2 ^^^ (3 : Int64))) 4 (o2 + (4 : Int64)) (g2 - (4 : Int64)) (r2 ^^^ (4 : Int64))) 5 (o2 + (5 : Int64)) (g2 - (5 : Int64)) (r2 ^^^ (5 : Int64))) 6 (o2 + (6 : Int64)) (g2 - (6 : Int64)) (r2 ^^^ (6 : Int64))) 7 7 T159.heap n0 Z161 ge127 gb ba f160 Fv159 fs162 Ab159 rfl rfl rfl (by decide) (by decide)) rfl f160 (by rw [hml]; rfl) (argsL := [(.long (o2 + (7 : Int64))), (.long (g2 - (7 : Int64))), (.long (r2 ^^^ (7 : Int64)))]) (rest := []) (lenOf pd_4 rfl) rfl rfl (W := 0) rfl (by decide) (by decide) (by decide) (by decide) (hb hby at_186) (pc' := 189) rfl ?_
  rintro v163 T163 L163 X163 ⟨rfl, Nq163, K163, Fv163, Fs163, Ab163⟩
  have N163 := Fr.app N159 Nq163
  show Run p e below _ _ T163 (mkF m 189 #[.val (.long o), .second, .val (.long g), .second, .val (.long r), .second, .val (.long o2), .second, .val (.long g2), .second, .val (.long r2), .second, .val (.ref b126), .val (.int (1 : Int32))] [])
  have f164 := f160.keep K163
  have Z165 : n0 ≤ T163.heap.size := by have q := Z161; exact Nat.le_trans q K163.1
  have fs166 : Fld Z T163.heap b126 "com/example/lease/lease/cli/BenchReport$Grants" "size" "I" (.int (8 : Int32)) := Fs163
  refine r_aload X163.here hx (hb hby at_189) rfl rfl (pc' := 191) rfl ?_
  refine r_lload X163.here hx (hb hby at_191) rfl (pc' := 193) rfl ?_
  refine r_ldc2 X163 hx hZ hown (hw _ (List.mem_of_getElem? (i := 30) rfl)) (hb hby at_193) (pc' := 196) rfl ?_
  refine r_ladd X163.here hx (hb hby at_196) (pc' := 197) rfl ?_
  refine r_lload X163.here hx (hb hby at_197) rfl (pc' := 199) rfl ?_
  refine r_ldc2 X163 hx hZ hown (hw _ (List.mem_of_getElem? (i := 30) rfl)) (hb hby at_199) (pc' := 202) rfl ?_
  refine r_lsub X163.here hx (hb hby at_202) (pc' := 203) rfl ?_
  refine r_lload X163.here hx (hb hby at_203) rfl (pc' := 205) rfl ?_
  refine r_ldc2 X163 hx hZ hown (hw _ (List.mem_of_getElem? (i := 30) rfl)) (hb hby at_205) (pc' := 208) rfl ?_
  refine r_lxor X163.here hx (hb hby at_208) (pc' := 209) rfl ?_
  refine r_callV X163 hx hZ (y := (⟨"com/example/lease/lease/cli/BenchReport$Grants", "add", "(JJJ)V"⟩ : MethodName)) (z := (⟨"com/example/lease/lease/cli/BenchReport$Grants", "add", "(JJJ)V"⟩ : MethodName)) (rm := ({ frames := 0, cells := 0, slots := 0, locals := 0 } : Room)) hown (hw _ (List.mem_of_getElem? (i := 12) rfl)) (hw _ (List.mem_of_getElem? (i := 13) rfl)) (notFace_of_selects (args := #[]) (mvT hZ (hw _ (List.mem_of_getElem? (i := 15) rfl)))) (hw _ (List.mem_of_getElem? (i := 15) rfl)) (hw _ (List.mem_of_getElem? (i := 14) rfl)) (hw _ (List.mem_of_getElem? (i := 2) rfl)) (hw _ (List.mem_of_getElem? (i := 16) rfl)) (by decide) (rmA l Z a0 hw [] b126 b (o2 + (8 : Int64)) (g2 - (8 : Int64)) (r2 ^^^ (8 : Int64)) (own_u3 (own_u3 (own_u3 (own_u3 (own_u3 (own_u3 (own_u3 (own_u3 (fun _ => (0 : Int64)) 0 o g r) 1 (o2 + (1 : Int64)) (g2 - (1 : Int64)) (r2 ^^^ (1 : Int64))) 2 (o2 + (2 : Int64)) (g2 - (2 : Int64)) (r2 ^^^ (2 : Int64))) 3 (o2 + (3 : Int64)) (g2 - (3 : Int64)) (r2 ^^^ (3 : Int64))) 4 (o2 + (4 : Int64)) (g2 - (4 : Int64)) (r2 ^^^ (4 : Int64))) 5 (o2 + (5 : Int64)) (g2 - (5 : Int64)) (r2 ^^^ (5 : Int64))) 6 (o2 + (6 : Int64)) (g2 - (6 : Int64)) (r2 ^^^ (6 : Int64))) 7 (o2 + (7 : Int64)) (g2 - (7 : Int64)) (r2 ^^^ (7 : Int64))) 8 8 T163.heap n0 Z165 ge127 gb ba f164 Fv163 fs166 Ab163 rfl rfl rfl (by decide) (by decide)) rfl f164 (by rw [hml]; rfl) (argsL := [(.long (o2 + (8 : Int64))), (.long (g2 - (8 : Int64))), (.long (r2 ^^^ (8 : Int64)))]) (rest := []) (lenOf pd_4 rfl) rfl rfl (W := 0) rfl (by decide) (by decide) (by decide) (by decide) (hb hby at_209) (pc' := 212) rfl ?_
  rintro v167 T167 L167 X167 ⟨rfl, Nq167, K167, Fv167, Fs167, Ab167⟩
  have N167 := Fr.app N163 Nq167
  show Run p e below _ _ T167 (mkF m 212 #[.val (.long o), .second, .val (.long g), .second, .val (.long r), .second, .val (.long o2), .second, .val (.long g2), .second, .val (.long r2), .second, .val (.ref b126), .val (.int (1 : Int32))] [])
  have f168 := f164.keep K167
  have Z169 : n0 ≤ T167.heap.size := by have q := Z165; exact Nat.le_trans q K167.1
  have fs170 : Fld Z T167.heap b126 "com/example/lease/lease/cli/BenchReport$Grants" "size" "I" (.int (9 : Int32)) := Fs167
  refine r_aload X167.here hx (hb hby at_212) rfl rfl (pc' := 214) rfl ?_
  refine r_lload X167.here hx (hb hby at_214) rfl (pc' := 216) rfl ?_
  refine r_ldc2 X167 hx hZ hown (hw _ (List.mem_of_getElem? (i := 31) rfl)) (hb hby at_216) (pc' := 219) rfl ?_
  refine r_ladd X167.here hx (hb hby at_219) (pc' := 220) rfl ?_
  refine r_lload X167.here hx (hb hby at_220) rfl (pc' := 222) rfl ?_
  refine r_ldc2 X167 hx hZ hown (hw _ (List.mem_of_getElem? (i := 31) rfl)) (hb hby at_222) (pc' := 225) rfl ?_
  refine r_lsub X167.here hx (hb hby at_225) (pc' := 226) rfl ?_
  refine r_lload X167.here hx (hb hby at_226) rfl (pc' := 228) rfl ?_
  refine r_ldc2 X167 hx hZ hown (hw _ (List.mem_of_getElem? (i := 31) rfl)) (hb hby at_228) (pc' := 231) rfl ?_
  refine r_lxor X167.here hx (hb hby at_231) (pc' := 232) rfl ?_
  refine r_callV X167 hx hZ (y := (⟨"com/example/lease/lease/cli/BenchReport$Grants", "add", "(JJJ)V"⟩ : MethodName)) (z := (⟨"com/example/lease/lease/cli/BenchReport$Grants", "add", "(JJJ)V"⟩ : MethodName)) (rm := ({ frames := 0, cells := 0, slots := 0, locals := 0 } : Room)) hown (hw _ (List.mem_of_getElem? (i := 12) rfl)) (hw _ (List.mem_of_getElem? (i := 13) rfl)) (notFace_of_selects (args := #[]) (mvT hZ (hw _ (List.mem_of_getElem? (i := 15) rfl)))) (hw _ (List.mem_of_getElem? (i := 15) rfl)) (hw _ (List.mem_of_getElem? (i := 14) rfl)) (hw _ (List.mem_of_getElem? (i := 2) rfl)) (hw _ (List.mem_of_getElem? (i := 16) rfl)) (by decide) (rmA l Z a0 hw [] b126 b (o2 + (9 : Int64)) (g2 - (9 : Int64)) (r2 ^^^ (9 : Int64)) (own_u3 (own_u3 (own_u3 (own_u3 (own_u3 (own_u3 (own_u3 (own_u3 (own_u3 (fun _ => (0 : Int64)) 0 o g r) 1 (o2 + (1 : Int64)) (g2 - (1 : Int64)) (r2 ^^^ (1 : Int64))) 2 (o2 + (2 : Int64)) (g2 - (2 : Int64)) (r2 ^^^ (2 : Int64))) 3 (o2 + (3 : Int64)) (g2 - (3 : Int64)) (r2 ^^^ (3 : Int64))) 4 (o2 + (4 : Int64)) (g2 - (4 : Int64)) (r2 ^^^ (4 : Int64))) 5 (o2 + (5 : Int64)) (g2 - (5 : Int64)) (r2 ^^^ (5 : Int64))) 6 (o2 + (6 : Int64)) (g2 - (6 : Int64)) (r2 ^^^ (6 : Int64))) 7 (o2 + (7 : Int64)) (g2 - (7 : Int64)) (r2 ^^^ (7 : Int64))) 8 (o2 + (8 : Int64)) (g2 - (8 : Int64)) (r2 ^^^ (8 : Int64))) 9 9 T167.heap n0 Z169 ge127 gb ba f168 Fv167 fs170 Ab167 rfl rfl rfl (by decide) (by decide)) rfl f168 (by rw [hml]; rfl) (argsL := [(.long (o2 + (9 : Int64))), (.long (g2 - (9 : Int64))), (.long (r2 ^^^ (9 : Int64)))]) (rest := []) (lenOf pd_4 rfl) rfl rfl (W := 0) rfl (by decide) (by decide) (by decide) (by decide) (hb hby at_232) (pc' := 235) rfl ?_
  rintro v171 T171 L171 X171 ⟨rfl, Nq171, K171, Fv171, Fs171, Ab171⟩
  have N171 := Fr.app N167 Nq171
  show Run p e below _ _ T171 (mkF m 235 #[.val (.long o), .second, .val (.long g), .second, .val (.long r), .second, .val (.long o2), .second, .val (.long g2), .second, .val (.long r2), .second, .val (.ref b126), .val (.int (1 : Int32))] [])
  have f172 := f168.keep K171
  have Z173 : n0 ≤ T171.heap.size := by have q := Z169; exact Nat.le_trans q K171.1
  have fs174 : Fld Z T171.heap b126 "com/example/lease/lease/cli/BenchReport$Grants" "size" "I" (.int (10 : Int32)) := Fs171
  refine r_aload X171.here hx (hb hby at_235) rfl rfl (pc' := 237) rfl ?_
  refine r_lload X171.here hx (hb hby at_237) rfl (pc' := 239) rfl ?_
  refine r_ldc2 X171 hx hZ hown (hw _ (List.mem_of_getElem? (i := 32) rfl)) (hb hby at_239) (pc' := 242) rfl ?_
  refine r_ladd X171.here hx (hb hby at_242) (pc' := 243) rfl ?_
  refine r_lload X171.here hx (hb hby at_243) rfl (pc' := 245) rfl ?_
  refine r_ldc2 X171 hx hZ hown (hw _ (List.mem_of_getElem? (i := 32) rfl)) (hb hby at_245) (pc' := 248) rfl ?_
  refine r_lsub X171.here hx (hb hby at_248) (pc' := 249) rfl ?_
  refine r_lload X171.here hx (hb hby at_249) rfl (pc' := 251) rfl ?_
  refine r_ldc2 X171 hx hZ hown (hw _ (List.mem_of_getElem? (i := 32) rfl)) (hb hby at_251) (pc' := 254) rfl ?_
  refine r_lxor X171.here hx (hb hby at_254) (pc' := 255) rfl ?_
  refine r_callV X171 hx hZ (y := (⟨"com/example/lease/lease/cli/BenchReport$Grants", "add", "(JJJ)V"⟩ : MethodName)) (z := (⟨"com/example/lease/lease/cli/BenchReport$Grants", "add", "(JJJ)V"⟩ : MethodName)) (rm := ({ frames := 0, cells := 0, slots := 0, locals := 0 } : Room)) hown (hw _ (List.mem_of_getElem? (i := 12) rfl)) (hw _ (List.mem_of_getElem? (i := 13) rfl)) (notFace_of_selects (args := #[]) (mvT hZ (hw _ (List.mem_of_getElem? (i := 15) rfl)))) (hw _ (List.mem_of_getElem? (i := 15) rfl)) (hw _ (List.mem_of_getElem? (i := 14) rfl)) (hw _ (List.mem_of_getElem? (i := 2) rfl)) (hw _ (List.mem_of_getElem? (i := 16) rfl)) (by decide) (rmA l Z a0 hw [] b126 b (o2 + (10 : Int64)) (g2 - (10 : Int64)) (r2 ^^^ (10 : Int64)) (own_u3 (own_u3 (own_u3 (own_u3 (own_u3 (own_u3 (own_u3 (own_u3 (own_u3 (own_u3 (fun _ => (0 : Int64)) 0 o g r) 1 (o2 + (1 : Int64)) (g2 - (1 : Int64)) (r2 ^^^ (1 : Int64))) 2 (o2 + (2 : Int64)) (g2 - (2 : Int64)) (r2 ^^^ (2 : Int64))) 3 (o2 + (3 : Int64)) (g2 - (3 : Int64)) (r2 ^^^ (3 : Int64))) 4 (o2 + (4 : Int64)) (g2 - (4 : Int64)) (r2 ^^^ (4 : Int64))) 5 (o2 + (5 : Int64)) (g2 - (5 : Int64)) (r2 ^^^ (5 : Int64))) 6 (o2 + (6 : Int64)) (g2 - (6 : Int64)) (r2 ^^^ (6 : Int64))) 7 (o2 + (7 : Int64)) (g2 - (7 : Int64)) (r2 ^^^ (7 : Int64))) 8 (o2 + (8 : Int64)) (g2 - (8 : Int64)) (r2 ^^^ (8 : Int64))) 9 (o2 + (9 : Int64)) (g2 - (9 : Int64)) (r2 ^^^ (9 : Int64))) 10 10 T171.heap n0 Z173 ge127 gb ba f172 Fv171 fs174 Ab171 rfl rfl rfl (by decide) (by decide)) rfl f172 (by rw [hml]; rfl) (argsL := [(.long (o2 + (10 : Int64))), (.long (g2 - (10 : Int64))), (.long (r2 ^^^ (10 : Int64)))]) (rest := []) (lenOf pd_4 rfl) rfl rfl (W := 0) rfl (by decide) (by decide) (by decide) (by decide) (hb hby at_255) (pc' := 258) rfl ?_
  rintro v175 T175 L175 X175 ⟨rfl, Nq175, K175, Fv175, Fs175, Ab175⟩
  have N175 := Fr.app N171 Nq175
  show Run p e below _ _ T175 (mkF m 258 #[.val (.long o), .second, .val (.long g), .second, .val (.long r), .second, .val (.long o2), .second, .val (.long g2), .second, .val (.long r2), .second, .val (.ref b126), .val (.int (1 : Int32))] [])
  have f176 := f172.keep K175
  have Z177 : n0 ≤ T175.heap.size := by have q := Z173; exact Nat.le_trans q K175.1
  have fs178 : Fld Z T175.heap b126 "com/example/lease/lease/cli/BenchReport$Grants" "size" "I" (.int (11 : Int32)) := Fs175
  refine r_aload X175.here hx (hb hby at_258) rfl rfl (pc' := 260) rfl ?_
  refine r_lload X175.here hx (hb hby at_260) rfl (pc' := 262) rfl ?_
  refine r_ldc2 X175 hx hZ hown (hw _ (List.mem_of_getElem? (i := 33) rfl)) (hb hby at_262) (pc' := 265) rfl ?_
  refine r_ladd X175.here hx (hb hby at_265) (pc' := 266) rfl ?_
  refine r_lload X175.here hx (hb hby at_266) rfl (pc' := 268) rfl ?_
  refine r_ldc2 X175 hx hZ hown (hw _ (List.mem_of_getElem? (i := 33) rfl)) (hb hby at_268) (pc' := 271) rfl ?_
  refine r_lsub X175.here hx (hb hby at_271) (pc' := 272) rfl ?_
  refine r_lload X175.here hx (hb hby at_272) rfl (pc' := 274) rfl ?_
  refine r_ldc2 X175 hx hZ hown (hw _ (List.mem_of_getElem? (i := 33) rfl)) (hb hby at_274) (pc' := 277) rfl ?_
  refine r_lxor X175.here hx (hb hby at_277) (pc' := 278) rfl ?_
  refine r_callV X175 hx hZ (y := (⟨"com/example/lease/lease/cli/BenchReport$Grants", "add", "(JJJ)V"⟩ : MethodName)) (z := (⟨"com/example/lease/lease/cli/BenchReport$Grants", "add", "(JJJ)V"⟩ : MethodName)) (rm := ({ frames := 0, cells := 0, slots := 0, locals := 0 } : Room)) hown (hw _ (List.mem_of_getElem? (i := 12) rfl)) (hw _ (List.mem_of_getElem? (i := 13) rfl)) (notFace_of_selects (args := #[]) (mvT hZ (hw _ (List.mem_of_getElem? (i := 15) rfl)))) (hw _ (List.mem_of_getElem? (i := 15) rfl)) (hw _ (List.mem_of_getElem? (i := 14) rfl)) (hw _ (List.mem_of_getElem? (i := 2) rfl)) (hw _ (List.mem_of_getElem? (i := 16) rfl)) (by decide) (rmA l Z a0 hw [] b126 b (o2 + (11 : Int64)) (g2 - (11 : Int64)) (r2 ^^^ (11 : Int64)) (own_u3 (own_u3 (own_u3 (own_u3 (own_u3 (own_u3 (own_u3 (own_u3 (own_u3 (own_u3 (own_u3 (fun _ => (0 : Int64)) 0 o g r) 1 (o2 + (1 : Int64)) (g2 - (1 : Int64)) (r2 ^^^ (1 : Int64))) 2 (o2 + (2 : Int64)) (g2 - (2 : Int64)) (r2 ^^^ (2 : Int64))) 3 (o2 + (3 : Int64)) (g2 - (3 : Int64)) (r2 ^^^ (3 : Int64))) 4 (o2 + (4 : Int64)) (g2 - (4 : Int64)) (r2 ^^^ (4 : Int64))) 5 (o2 + (5 : Int64)) (g2 - (5 : Int64)) (r2 ^^^ (5 : Int64))) 6 (o2 + (6 : Int64)) (g2 - (6 : Int64)) (r2 ^^^ (6 : Int64))) 7 (o2 + (7 : Int64)) (g2 - (7 : Int64)) (r2 ^^^ (7 : Int64))) 8 (o2 + (8 : Int64)) (g2 - (8 : Int64)) (r2 ^^^ (8 : Int64))) 9 (o2 + (9 : Int64)) (g2 - (9 : Int64)) (r2 ^^^ (9 : Int64))) 10 (o2 + (10 : Int64)) (g2 - (10 : Int64)) (r2 ^^^ (10 : Int64))) 11 11 T175.heap n0 Z177 ge127 gb ba f176 Fv175 fs178 Ab175 rfl rfl rfl (by decide) (by decide)) rfl f176 (by rw [hml]; rfl) (argsL := [(.long (o2 + (11 : Int64))), (.long (g2 - (11 : Int64))), (.long (r2 ^^^ (11 : Int64)))]) (rest := []) (lenOf pd_4 rfl) rfl rfl (W := 0) rfl (by decide) (by decide) (by decide) (by decide) (hb hby at_278) (pc' := 281) rfl ?_
  rintro v179 T179 L179 X179 ⟨rfl, Nq179, K179, Fv179, Fs179, Ab179⟩
  have N179 := Fr.app N175 Nq179
  show Run p e below _ _ T179 (mkF m 281 #[.val (.long o), .second, .val (.long g), .second, .val (.long r), .second, .val (.long o2), .second, .val (.long g2), .second, .val (.long r2), .second, .val (.ref b126), .val (.int (1 : Int32))] [])
  have f180 := f176.keep K179
  have Z181 : n0 ≤ T179.heap.size := by have q := Z177; exact Nat.le_trans q K179.1
  have fs182 : Fld Z T179.heap b126 "com/example/lease/lease/cli/BenchReport$Grants" "size" "I" (.int (12 : Int32)) := Fs179
  refine r_aload X179.here hx (hb hby at_281) rfl rfl (pc' := 283) rfl ?_
  refine r_lload X179.here hx (hb hby at_283) rfl (pc' := 285) rfl ?_
  refine r_ldc2 X179 hx hZ hown (hw _ (List.mem_of_getElem? (i := 34) rfl)) (hb hby at_285) (pc' := 288) rfl ?_
  refine r_ladd X179.here hx (hb hby at_288) (pc' := 289) rfl ?_
  refine r_lload X179.here hx (hb hby at_289) rfl (pc' := 291) rfl ?_
  refine r_ldc2 X179 hx hZ hown (hw _ (List.mem_of_getElem? (i := 34) rfl)) (hb hby at_291) (pc' := 294) rfl ?_
  refine r_lsub X179.here hx (hb hby at_294) (pc' := 295) rfl ?_
  refine r_lload X179.here hx (hb hby at_295) rfl (pc' := 297) rfl ?_
  refine r_ldc2 X179 hx hZ hown (hw _ (List.mem_of_getElem? (i := 34) rfl)) (hb hby at_297) (pc' := 300) rfl ?_
  refine r_lxor X179.here hx (hb hby at_300) (pc' := 301) rfl ?_
  refine r_callV X179 hx hZ (y := (⟨"com/example/lease/lease/cli/BenchReport$Grants", "add", "(JJJ)V"⟩ : MethodName)) (z := (⟨"com/example/lease/lease/cli/BenchReport$Grants", "add", "(JJJ)V"⟩ : MethodName)) (rm := ({ frames := 0, cells := 0, slots := 0, locals := 0 } : Room)) hown (hw _ (List.mem_of_getElem? (i := 12) rfl)) (hw _ (List.mem_of_getElem? (i := 13) rfl)) (notFace_of_selects (args := #[]) (mvT hZ (hw _ (List.mem_of_getElem? (i := 15) rfl)))) (hw _ (List.mem_of_getElem? (i := 15) rfl)) (hw _ (List.mem_of_getElem? (i := 14) rfl)) (hw _ (List.mem_of_getElem? (i := 2) rfl)) (hw _ (List.mem_of_getElem? (i := 16) rfl)) (by decide) (rmA l Z a0 hw [] b126 b (o2 + (12 : Int64)) (g2 - (12 : Int64)) (r2 ^^^ (12 : Int64)) (own_u3 (own_u3 (own_u3 (own_u3 (own_u3 (own_u3 (own_u3 (own_u3 (own_u3 (own_u3 (own_u3 (own_u3 (fun _ => (0 : Int64)) 0 o g r) 1 (o2 + (1 : Int64)) (g2 - (1 : Int64)) (r2 ^^^ (1 : Int64))) 2 (o2 + (2 : Int64)) (g2 - (2 : Int64)) (r2 ^^^ (2 : Int64))) 3 (o2 + (3 : Int64)) (g2 - (3 : Int64)) (r2 ^^^ (3 : Int64))) 4 (o2 + (4 : Int64)) (g2 - (4 : Int64)) (r2 ^^^ (4 : Int64))) 5 (o2 + (5 : Int64)) (g2 - (5 : Int64)) (r2 ^^^ (5 : Int64))) 6 (o2 + (6 : Int64)) (g2 - (6 : Int64)) (r2 ^^^ (6 : Int64))) 7 (o2 + (7 : Int64)) (g2 - (7 : Int64)) (r2 ^^^ (7 : Int64))) 8 (o2 + (8 : Int64)) (g2 - (8 : Int64)) (r2 ^^^ (8 : Int64))) 9 (o2 + (9 : Int64)) (g2 - (9 : Int64)) (r2 ^^^ (9 : Int64))) 10 (o2 + (10 : Int64)) (g2 - (10 : Int64)) (r2 ^^^ (10 : Int64))) 11 (o2 + (11 : Int64)) (g2 - (11 : Int64)) (r2 ^^^ (11 : Int64))) 12 12 T179.heap n0 Z181 ge127 gb ba f180 Fv179 fs182 Ab179 rfl rfl rfl (by decide) (by decide)) rfl f180 (by rw [hml]; rfl) (argsL := [(.long (o2 + (12 : Int64))), (.long (g2 - (12 : Int64))), (.long (r2 ^^^ (12 : Int64)))]) (rest := []) (lenOf pd_4 rfl) rfl rfl (W := 0) rfl (by decide) (by decide) (by decide) (by decide) (hb hby at_301) (pc' := 304) rfl ?_
  rintro v183 T183 L183 X183 ⟨rfl, Nq183, K183, Fv183, Fs183, Ab183⟩
  have N183 := Fr.app N179 Nq183
  show Run p e below _ _ T183 (mkF m 304 #[.val (.long o), .second, .val (.long g), .second, .val (.long r), .second, .val (.long o2), .second, .val (.long g2), .second, .val (.long r2), .second, .val (.ref b126), .val (.int (1 : Int32))] [])
  have f184 := f180.keep K183
  have Z185 : n0 ≤ T183.heap.size := by have q := Z181; exact Nat.le_trans q K183.1
  have fs186 : Fld Z T183.heap b126 "com/example/lease/lease/cli/BenchReport$Grants" "size" "I" (.int (13 : Int32)) := Fs183
  refine r_aload X183.here hx (hb hby at_304) rfl rfl (pc' := 306) rfl ?_
  refine r_lload X183.here hx (hb hby at_306) rfl (pc' := 308) rfl ?_
  refine r_ldc2 X183 hx hZ hown (hw _ (List.mem_of_getElem? (i := 35) rfl)) (hb hby at_308) (pc' := 311) rfl ?_
  refine r_ladd X183.here hx (hb hby at_311) (pc' := 312) rfl ?_
  refine r_lload X183.here hx (hb hby at_312) rfl (pc' := 314) rfl ?_
  refine r_ldc2 X183 hx hZ hown (hw _ (List.mem_of_getElem? (i := 35) rfl)) (hb hby at_314) (pc' := 317) rfl ?_
  refine r_lsub X183.here hx (hb hby at_317) (pc' := 318) rfl ?_
  refine r_lload X183.here hx (hb hby at_318) rfl (pc' := 320) rfl ?_
  refine r_ldc2 X183 hx hZ hown (hw _ (List.mem_of_getElem? (i := 35) rfl)) (hb hby at_320) (pc' := 323) rfl ?_
  refine r_lxor X183.here hx (hb hby at_323) (pc' := 324) rfl ?_
  refine r_callV X183 hx hZ (y := (⟨"com/example/lease/lease/cli/BenchReport$Grants", "add", "(JJJ)V"⟩ : MethodName)) (z := (⟨"com/example/lease/lease/cli/BenchReport$Grants", "add", "(JJJ)V"⟩ : MethodName)) (rm := ({ frames := 0, cells := 0, slots := 0, locals := 0 } : Room)) hown (hw _ (List.mem_of_getElem? (i := 12) rfl)) (hw _ (List.mem_of_getElem? (i := 13) rfl)) (notFace_of_selects (args := #[]) (mvT hZ (hw _ (List.mem_of_getElem? (i := 15) rfl)))) (hw _ (List.mem_of_getElem? (i := 15) rfl)) (hw _ (List.mem_of_getElem? (i := 14) rfl)) (hw _ (List.mem_of_getElem? (i := 2) rfl)) (hw _ (List.mem_of_getElem? (i := 16) rfl)) (by decide) (rmA l Z a0 hw [] b126 b (o2 + (13 : Int64)) (g2 - (13 : Int64)) (r2 ^^^ (13 : Int64)) (own_u3 (own_u3 (own_u3 (own_u3 (own_u3 (own_u3 (own_u3 (own_u3 (own_u3 (own_u3 (own_u3 (own_u3 (own_u3 (fun _ => (0 : Int64)) 0 o g r) 1 (o2 + (1 : Int64)) (g2 - (1 : Int64)) (r2 ^^^ (1 : Int64))) 2 (o2 + (2 : Int64)) (g2 - (2 : Int64)) (r2 ^^^ (2 : Int64))) 3 (o2 + (3 : Int64)) (g2 - (3 : Int64)) (r2 ^^^ (3 : Int64))) 4 (o2 + (4 : Int64)) (g2 - (4 : Int64)) (r2 ^^^ (4 : Int64))) 5 (o2 + (5 : Int64)) (g2 - (5 : Int64)) (r2 ^^^ (5 : Int64))) 6 (o2 + (6 : Int64)) (g2 - (6 : Int64)) (r2 ^^^ (6 : Int64))) 7 (o2 + (7 : Int64)) (g2 - (7 : Int64)) (r2 ^^^ (7 : Int64))) 8 (o2 + (8 : Int64)) (g2 - (8 : Int64)) (r2 ^^^ (8 : Int64))) 9 (o2 + (9 : Int64)) (g2 - (9 : Int64)) (r2 ^^^ (9 : Int64))) 10 (o2 + (10 : Int64)) (g2 - (10 : Int64)) (r2 ^^^ (10 : Int64))) 11 (o2 + (11 : Int64)) (g2 - (11 : Int64)) (r2 ^^^ (11 : Int64))) 12 (o2 + (12 : Int64)) (g2 - (12 : Int64)) (r2 ^^^ (12 : Int64))) 13 13 T183.heap n0 Z185 ge127 gb ba f184 Fv183 fs186 Ab183 rfl rfl rfl (by decide) (by decide)) rfl f184 (by rw [hml]; rfl) (argsL := [(.long (o2 + (13 : Int64))), (.long (g2 - (13 : Int64))), (.long (r2 ^^^ (13 : Int64)))]) (rest := []) (lenOf pd_4 rfl) rfl rfl (W := 0) rfl (by decide) (by decide) (by decide) (by decide) (hb hby at_324) (pc' := 327) rfl ?_
  rintro v187 T187 L187 X187 ⟨rfl, Nq187, K187, Fv187, Fs187, Ab187⟩
  have N187 := Fr.app N183 Nq187
  show Run p e below _ _ T187 (mkF m 327 #[.val (.long o), .second, .val (.long g), .second, .val (.long r), .second, .val (.long o2), .second, .val (.long g2), .second, .val (.long r2), .second, .val (.ref b126), .val (.int (1 : Int32))] [])
  have f188 := f184.keep K187
  have Z189 : n0 ≤ T187.heap.size := by have q := Z185; exact Nat.le_trans q K187.1
  have fs190 : Fld Z T187.heap b126 "com/example/lease/lease/cli/BenchReport$Grants" "size" "I" (.int (14 : Int32)) := Fs187
  refine r_aload X187.here hx (hb hby at_327) rfl rfl (pc' := 329) rfl ?_
  refine r_lload X187.here hx (hb hby at_329) rfl (pc' := 331) rfl ?_
  refine r_ldc2 X187 hx hZ hown (hw _ (List.mem_of_getElem? (i := 36) rfl)) (hb hby at_331) (pc' := 334) rfl ?_
  refine r_ladd X187.here hx (hb hby at_334) (pc' := 335) rfl ?_
  refine r_lload X187.here hx (hb hby at_335) rfl (pc' := 337) rfl ?_
  refine r_ldc2 X187 hx hZ hown (hw _ (List.mem_of_getElem? (i := 36) rfl)) (hb hby at_337) (pc' := 340) rfl ?_
  refine r_lsub X187.here hx (hb hby at_340) (pc' := 341) rfl ?_
  refine r_lload X187.here hx (hb hby at_341) rfl (pc' := 343) rfl ?_
  refine r_ldc2 X187 hx hZ hown (hw _ (List.mem_of_getElem? (i := 36) rfl)) (hb hby at_343) (pc' := 346) rfl ?_
  refine r_lxor X187.here hx (hb hby at_346) (pc' := 347) rfl ?_
  refine r_callV X187 hx hZ (y := (⟨"com/example/lease/lease/cli/BenchReport$Grants", "add", "(JJJ)V"⟩ : MethodName)) (z := (⟨"com/example/lease/lease/cli/BenchReport$Grants", "add", "(JJJ)V"⟩ : MethodName)) (rm := ({ frames := 0, cells := 0, slots := 0, locals := 0 } : Room)) hown (hw _ (List.mem_of_getElem? (i := 12) rfl)) (hw _ (List.mem_of_getElem? (i := 13) rfl)) (notFace_of_selects (args := #[]) (mvT hZ (hw _ (List.mem_of_getElem? (i := 15) rfl)))) (hw _ (List.mem_of_getElem? (i := 15) rfl)) (hw _ (List.mem_of_getElem? (i := 14) rfl)) (hw _ (List.mem_of_getElem? (i := 2) rfl)) (hw _ (List.mem_of_getElem? (i := 16) rfl)) (by decide) (rmA l Z a0 hw [] b126 b (o2 + (14 : Int64)) (g2 - (14 : Int64)) (r2 ^^^ (14 : Int64)) (own_u3 (own_u3 (own_u3 (own_u3 (own_u3 (own_u3 (own_u3 (own_u3 (own_u3 (own_u3 (own_u3 (own_u3 (own_u3 (own_u3 (fun _ => (0 : Int64)) 0 o g r) 1 (o2 + (1 : Int64)) (g2 - (1 : Int64)) (r2 ^^^ (1 : Int64))) 2 (o2 + (2 : Int64)) (g2 - (2 : Int64)) (r2 ^^^ (2 : Int64))) 3 (o2 + (3 : Int64)) (g2 - (3 : Int64)) (r2 ^^^ (3 : Int64))) 4 (o2 + (4 : Int64)) (g2 - (4 : Int64)) (r2 ^^^ (4 : Int64))) 5 (o2 + (5 : Int64)) (g2 - (5 : Int64)) (r2 ^^^ (5 : Int64))) 6 (o2 + (6 : Int64)) (g2 - (6 : Int64)) (r2 ^^^ (6 : Int64))) 7 (o2 + (7 : Int64)) (g2 - (7 : Int64)) (r2 ^^^ (7 : Int64))) 8 (o2 + (8 : Int64)) (g2 - (8 : Int64)) (r2 ^^^ (8 : Int64))) 9 (o2 + (9 : Int64)) (g2 - (9 : Int64)) (r2 ^^^ (9 : Int64))) 10 (o2 + (10 : Int64)) (g2 - (10 : Int64)) (r2 ^^^ (10 : Int64))) 11 (o2 + (11 : Int64)) (g2 - (11 : Int64)) (r2 ^^^ (11 : Int64))) 12 (o2 + (12 : Int64)) (g2 - (12 : Int64)) (r2 ^^^ (12 : Int64))) 13 (o2 + (13 : Int64)) (g2 - (13 : Int64)) (r2 ^^^ (13 : Int64))) 14 14 T187.heap n0 Z189 ge127 gb ba f188 Fv187 fs190 Ab187 rfl rfl rfl (by decide) (by decide)) rfl f188 (by rw [hml]; rfl) (argsL := [(.long (o2 + (14 : Int64))), (.long (g2 - (14 : Int64))), (.long (r2 ^^^ (14 : Int64)))]) (rest := []) (lenOf pd_4 rfl) rfl rfl (W := 0) rfl (by decide) (by decide) (by decide) (by decide) (hb hby at_347) (pc' := 350) rfl ?_
  rintro v191 T191 L191 X191 ⟨rfl, Nq191, K191, Fv191, Fs191, Ab191⟩
  have N191 := Fr.app N187 Nq191
  show Run p e below _ _ T191 (mkF m 350 #[.val (.long o), .second, .val (.long g), .second, .val (.long r), .second, .val (.long o2), .second, .val (.long g2), .second, .val (.long r2), .second, .val (.ref b126), .val (.int (1 : Int32))] [])
  have f192 := f188.keep K191
  have Z193 : n0 ≤ T191.heap.size := by have q := Z189; exact Nat.le_trans q K191.1
  have fs194 : Fld Z T191.heap b126 "com/example/lease/lease/cli/BenchReport$Grants" "size" "I" (.int (15 : Int32)) := Fs191
  refine r_aload X191.here hx (hb hby at_350) rfl rfl (pc' := 352) rfl ?_
  refine r_lload X191.here hx (hb hby at_352) rfl (pc' := 354) rfl ?_
  refine r_ldc2 X191 hx hZ hown (hw _ (List.mem_of_getElem? (i := 37) rfl)) (hb hby at_354) (pc' := 357) rfl ?_
  refine r_ladd X191.here hx (hb hby at_357) (pc' := 358) rfl ?_
  refine r_lload X191.here hx (hb hby at_358) rfl (pc' := 360) rfl ?_
  refine r_ldc2 X191 hx hZ hown (hw _ (List.mem_of_getElem? (i := 37) rfl)) (hb hby at_360) (pc' := 363) rfl ?_
  refine r_lsub X191.here hx (hb hby at_363) (pc' := 364) rfl ?_
  refine r_lload X191.here hx (hb hby at_364) rfl (pc' := 366) rfl ?_
  refine r_ldc2 X191 hx hZ hown (hw _ (List.mem_of_getElem? (i := 37) rfl)) (hb hby at_366) (pc' := 369) rfl ?_
  refine r_lxor X191.here hx (hb hby at_369) (pc' := 370) rfl ?_
  refine r_callV X191 hx hZ (y := (⟨"com/example/lease/lease/cli/BenchReport$Grants", "add", "(JJJ)V"⟩ : MethodName)) (z := (⟨"com/example/lease/lease/cli/BenchReport$Grants", "add", "(JJJ)V"⟩ : MethodName)) (rm := ({ frames := 0, cells := 0, slots := 0, locals := 0 } : Room)) hown (hw _ (List.mem_of_getElem? (i := 12) rfl)) (hw _ (List.mem_of_getElem? (i := 13) rfl)) (notFace_of_selects (args := #[]) (mvT hZ (hw _ (List.mem_of_getElem? (i := 15) rfl)))) (hw _ (List.mem_of_getElem? (i := 15) rfl)) (hw _ (List.mem_of_getElem? (i := 14) rfl)) (hw _ (List.mem_of_getElem? (i := 2) rfl)) (hw _ (List.mem_of_getElem? (i := 16) rfl)) (by decide) (rmA l Z a0 hw [] b126 b (o2 + (15 : Int64)) (g2 - (15 : Int64)) (r2 ^^^ (15 : Int64)) (own_u3 (own_u3 (own_u3 (own_u3 (own_u3 (own_u3 (own_u3 (own_u3 (own_u3 (own_u3 (own_u3 (own_u3 (own_u3 (own_u3 (own_u3 (fun _ => (0 : Int64)) 0 o g r) 1 (o2 + (1 : Int64)) (g2 - (1 : Int64)) (r2 ^^^ (1 : Int64))) 2 (o2 + (2 : Int64)) (g2 - (2 : Int64)) (r2 ^^^ (2 : Int64))) 3 (o2 + (3 : Int64)) (g2 - (3 : Int64)) (r2 ^^^ (3 : Int64))) 4 (o2 + (4 : Int64)) (g2 - (4 : Int64)) (r2 ^^^ (4 : Int64))) 5 (o2 + (5 : Int64)) (g2 - (5 : Int64)) (r2 ^^^ (5 : Int64))) 6 (o2 + (6 : Int64)) (g2 - (6 : Int64)) (r2 ^^^ (6 : Int64))) 7 (o2 + (7 : Int64)) (g2 - (7 : Int64)) (r2 ^^^ (7 : Int64))) 8 (o2 + (8 : Int64)) (g2 - (8 : Int64)) (r2 ^^^ (8 : Int64))) 9 (o2 + (9 : Int64)) (g2 - (9 : Int64)) (r2 ^^^ (9 : Int64))) 10 (o2 + (10 : Int64)) (g2 - (10 : Int64)) (r2 ^^^ (10 : Int64))) 11 (o2 + (11 : Int64)) (g2 - (11 : Int64)) (r2 ^^^ (11 : Int64))) 12 (o2 + (12 : Int64)) (g2 - (12 : Int64)) (r2 ^^^ (12 : Int64))) 13 (o2 + (13 : Int64)) (g2 - (13 : Int64)) (r2 ^^^ (13 : Int64))) 14 (o2 + (14 : Int64)) (g2 - (14 : Int64)) (r2 ^^^ (14 : Int64))) 15 15 T191.heap n0 Z193 ge127 gb ba f192 Fv191 fs194 Ab191 rfl rfl rfl (by decide) (by decide)) rfl f192 (by rw [hml]; rfl) (argsL := [(.long (o2 + (15 : Int64))), (.long (g2 - (15 : Int64))), (.long (r2 ^^^ (15 : Int64)))]) (rest := []) (lenOf pd_4 rfl) rfl rfl (W := 0) rfl (by decide) (by decide) (by decide) (by decide) (hb hby at_370) (pc' := 373) rfl ?_
  rintro v195 T195 L195 X195 ⟨rfl, Nq195, K195, Fv195, Fs195, Ab195⟩
  have N195 := Fr.app N191 Nq195
  show Run p e below _ _ T195 (mkF m 373 #[.val (.long o), .second, .val (.long g), .second, .val (.long r), .second, .val (.long o2), .second, .val (.long g2), .second, .val (.long r2), .second, .val (.ref b126), .val (.int (1 : Int32))] [])
  have f196 := f192.keep K195
  have Z197 : n0 ≤ T195.heap.size := by have q := Z193; exact Nat.le_trans q K195.1
  have fs198 : Fld Z T195.heap b126 "com/example/lease/lease/cli/BenchReport$Grants" "size" "I" (.int (16 : Int32)) := Fs195
  refine r_aload X195.here hx (hb hby at_373) rfl rfl (pc' := 375) rfl ?_
  refine r_lload X195.here hx (hb hby at_375) rfl (pc' := 377) rfl ?_
  refine r_lloadN X195.here hx (hb hby at_377) rfl (pc' := 378) rfl ?_
  refine r_lloadN X195.here hx (hb hby at_378) rfl (pc' := 379) rfl ?_
  refine r_callV X195 hx hZ (y := (⟨"com/example/lease/lease/cli/BenchReport$Grants", "add", "(JJJ)V"⟩ : MethodName)) (z := (⟨"com/example/lease/lease/cli/BenchReport$Grants", "add", "(JJJ)V"⟩ : MethodName)) (rm := ({ frames := 2, cells := 1, slots := 96, locals := 55 } : Room)) hown (hw _ (List.mem_of_getElem? (i := 12) rfl)) (hw _ (List.mem_of_getElem? (i := 13) rfl)) (notFace_of_selects (args := #[]) (mvT hZ (hw _ (List.mem_of_getElem? (i := 15) rfl)))) (hw _ (List.mem_of_getElem? (i := 15) rfl)) (hw _ (List.mem_of_getElem? (i := 14) rfl)) (hw _ (List.mem_of_getElem? (i := 2) rfl)) (hw _ (List.mem_of_getElem? (i := 16) rfl)) (by decide) (rmG l Z a0 hw [] b126 b r o g (own_u3 (own_u3 (own_u3 (own_u3 (own_u3 (own_u3 (own_u3 (own_u3 (own_u3 (own_u3 (own_u3 (own_u3 (own_u3 (own_u3 (own_u3 (own_u3 (fun _ => (0 : Int64)) 0 o g r) 1 (o2 + (1 : Int64)) (g2 - (1 : Int64)) (r2 ^^^ (1 : Int64))) 2 (o2 + (2 : Int64)) (g2 - (2 : Int64)) (r2 ^^^ (2 : Int64))) 3 (o2 + (3 : Int64)) (g2 - (3 : Int64)) (r2 ^^^ (3 : Int64))) 4 (o2 + (4 : Int64)) (g2 - (4 : Int64)) (r2 ^^^ (4 : Int64))) 5 (o2 + (5 : Int64)) (g2 - (5 : Int64)) (r2 ^^^ (5 : Int64))) 6 (o2 + (6 : Int64)) (g2 - (6 : Int64)) (r2 ^^^ (6 : Int64))) 7 (o2 + (7 : Int64)) (g2 - (7 : Int64)) (r2 ^^^ (7 : Int64))) 8 (o2 + (8 : Int64)) (g2 - (8 : Int64)) (r2 ^^^ (8 : Int64))) 9 (o2 + (9 : Int64)) (g2 - (9 : Int64)) (r2 ^^^ (9 : Int64))) 10 (o2 + (10 : Int64)) (g2 - (10 : Int64)) (r2 ^^^ (10 : Int64))) 11 (o2 + (11 : Int64)) (g2 - (11 : Int64)) (r2 ^^^ (11 : Int64))) 12 (o2 + (12 : Int64)) (g2 - (12 : Int64)) (r2 ^^^ (12 : Int64))) 13 (o2 + (13 : Int64)) (g2 - (13 : Int64)) (r2 ^^^ (13 : Int64))) 14 (o2 + (14 : Int64)) (g2 - (14 : Int64)) (r2 ^^^ (14 : Int64))) 15 (o2 + (15 : Int64)) (g2 - (15 : Int64)) (r2 ^^^ (15 : Int64))) T195.heap n0 Z197 ge127 gb ba f196 Fv195 fs198 Ab195) rfl f196 (by rw [hml]; rfl) (argsL := [(.long r), (.long o), (.long g)]) (rest := []) (lenOf pd_4 rfl) rfl rfl (W := 0) rfl (by decide) (by decide) (by decide) (by decide) (hb hby at_379) (pc' := 382) rfl ?_
  rintro v199 T199 L199 X199 ⟨rfl, Nq199, K199, b2, Fv199, Fs199, Ab199, gb2, b2a⟩
  have N199 := Fr.app N195 Nq199
  show Run p e below _ _ T199 (mkF m 382 #[.val (.long o), .second, .val (.long g), .second, .val (.long r), .second, .val (.long o2), .second, .val (.long g2), .second, .val (.long r2), .second, .val (.ref b126), .val (.int (1 : Int32))] [])
  have f200 := f196.keep K199
  have Z201 : n0 ≤ T199.heap.size := by have q := Z197; exact Nat.le_trans q K199.1
  have fs202 : Fld Z T199.heap b126 "com/example/lease/lease/cli/BenchReport$Grants" "size" "I" (.int (17 : Int32)) := Fs199
  refine r_iload X199.here hx (hb hby at_382) rfl (pc' := 384) rfl ?_
  refine r_if0_eq X199.here hx (hb hby at_384) (by decide) (pc' := 456) (by decide) (pc2 := 387) rfl (fun hc384 => absurd hc384 (by decide)) (fun hc384 => ?_)
  refine r_aload X199.here hx (hb hby at_387) rfl rfl (pc' := 389) rfl ?_
  refine r_callV X199 hx hZ (y := (⟨"com/example/lease/lease/cli/BenchReport$Grants", "size", "()I"⟩ : MethodName)) (z := (⟨"com/example/lease/lease/cli/BenchReport$Grants", "size", "()I"⟩ : MethodName)) (rm := ({ frames := 0, cells := 0, slots := 0, locals := 0 } : Room)) hown (hw _ (List.mem_of_getElem? (i := 19) rfl)) (hw _ (List.mem_of_getElem? (i := 20) rfl)) (notFace_of_selects (args := #[]) (mvT hZ (hw _ (List.mem_of_getElem? (i := 22) rfl)))) (hw _ (List.mem_of_getElem? (i := 22) rfl)) (hw _ (List.mem_of_getElem? (i := 21) rfl)) (hw _ (List.mem_of_getElem? (i := 2) rfl)) (hw _ (List.mem_of_getElem? (i := 23) rfl)) (by decide) (rmS l Z a0 hw [] b126 17 T199.heap n0 Z201 fs202) rfl f200 (by rw [hml]; rfl) (argsL := []) (rest := []) (lenOf pd_5 rfl) rfl rfl (W := 0) rfl (by decide) (by decide) (by decide) (by decide) (hb hby at_389) (pc' := 392) rfl ?_
  rintro v203 T203 L203 X203 ⟨rfl, Nq203, e203⟩
  have N203 := Fr.app N199 Nq203
  show Run p e below _ _ T203 (mkF m 392 #[.val (.long o), .second, .val (.long g), .second, .val (.long r), .second, .val (.long o2), .second, .val (.long g2), .second, .val (.long r2), .second, .val (.ref b126), .val (.int (1 : Int32))] [(.int (17 : Int32))])
  refine r_bipush X203.here hx (hb hby at_392) (v := 17) rfl (pc' := 394) rfl ?_
  refine r_if_ne X203.here hx (hb hby at_394) (by decide) (pc' := 456) (by decide) (pc2 := 397) rfl (fun hc394 => absurd rfl hc394) (fun hc394 => ?_)
  refine r_aload X203.here hx (hb hby at_397) rfl rfl (pc' := 399) rfl ?_
  refine r_iconst X203.here hx (hb hby at_399) (v := 0) rfl (pc' := 400) rfl ?_
  refine r_lloadN X203.here hx (hb hby at_400) rfl (pc' := 401) rfl ?_
  refine r_lloadN X203.here hx (hb hby at_401) rfl (pc' := 402) rfl ?_
  refine r_lload X203.here hx (hb hby at_402) rfl (pc' := 404) rfl ?_
  refine r_callS X203 hx hZ (y := (⟨"com/example/lease/lease/cli/GrantsAddPinLaw", "at", "(Lcom/example/lease/lease/cli/BenchReport$Grants;IJJJ)Z"⟩ : MethodName)) (rm := ({ frames := 1, cells := 0, slots := 0, locals := 13 } : Room)) hown (hw _ (List.mem_of_getElem? (i := 50) rfl)) (hw _ (List.mem_of_getElem? (i := 51) rfl)) (hw _ (List.mem_of_getElem? (i := 52) rfl)) (hw _ (List.mem_of_getElem? (i := 53) rfl)) (by decide) (rmAt l Z a0 hw [] b126 b2 (0 : Int32) o g r (own_u3 (own_cp (own_u3 (own_u3 (own_u3 (own_u3 (own_u3 (own_u3 (own_u3 (own_u3 (own_u3 (own_u3 (own_u3 (own_u3 (own_u3 (own_u3 (own_u3 (own_u3 (fun _ => (0 : Int64)) 0 o g r) 1 (o2 + (1 : Int64)) (g2 - (1 : Int64)) (r2 ^^^ (1 : Int64))) 2 (o2 + (2 : Int64)) (g2 - (2 : Int64)) (r2 ^^^ (2 : Int64))) 3 (o2 + (3 : Int64)) (g2 - (3 : Int64)) (r2 ^^^ (3 : Int64))) 4 (o2 + (4 : Int64)) (g2 - (4 : Int64)) (r2 ^^^ (4 : Int64))) 5 (o2 + (5 : Int64)) (g2 - (5 : Int64)) (r2 ^^^ (5 : Int64))) 6 (o2 + (6 : Int64)) (g2 - (6 : Int64)) (r2 ^^^ (6 : Int64))) 7 (o2 + (7 : Int64)) (g2 - (7 : Int64)) (r2 ^^^ (7 : Int64))) 8 (o2 + (8 : Int64)) (g2 - (8 : Int64)) (r2 ^^^ (8 : Int64))) 9 (o2 + (9 : Int64)) (g2 - (9 : Int64)) (r2 ^^^ (9 : Int64))) 10 (o2 + (10 : Int64)) (g2 - (10 : Int64)) (r2 ^^^ (10 : Int64))) 11 (o2 + (11 : Int64)) (g2 - (11 : Int64)) (r2 ^^^ (11 : Int64))) 12 (o2 + (12 : Int64)) (g2 - (12 : Int64)) (r2 ^^^ (12 : Int64))) 13 (o2 + (13 : Int64)) (g2 - (13 : Int64)) (r2 ^^^ (13 : Int64))) 14 (o2 + (14 : Int64)) (g2 - (14 : Int64)) (r2 ^^^ (14 : Int64))) 15 (o2 + (15 : Int64)) (g2 - (15 : Int64)) (r2 ^^^ (15 : Int64))) 48) 16 r o g) T199.heap n0 Z201 f200 Fv199 Ab199 (by decide) rfl (by decide) rfl (by decide) rfl) e203 (by rw [hml]; rfl) (argsL := [(.ref b126), (.int (0 : Int32)), (.long o), (.long g), (.long r)]) (rest := []) (lenOf pd_6 rfl) rfl rfl (W := 0) rfl (by decide) (by decide) (by decide) (by decide) (hb hby at_404) (pc' := 407) rfl ?_
  rintro v204 T204 L204 X204 ⟨rfl, Nq204, e204⟩
  have N204 := Fr.app N203 Nq204
  show Run p e below _ _ T204 (mkF m 407 #[.val (.long o), .second, .val (.long g), .second, .val (.long r), .second, .val (.long o2), .second, .val (.long g2), .second, .val (.long r2), .second, .val (.ref b126), .val (.int (1 : Int32))] [(.int (1 : Int32))])
  refine r_if0_eq X204.here hx (hb hby at_407) (by decide) (pc' := 456) (by decide) (pc2 := 410) rfl (fun hc407 => absurd hc407 (by decide)) (fun hc407 => ?_)
  refine r_aload X204.here hx (hb hby at_410) rfl rfl (pc' := 412) rfl ?_
  refine r_bipush X204.here hx (hb hby at_412) (v := 15) rfl (pc' := 414) rfl ?_
  refine r_lload X204.here hx (hb hby at_414) rfl (pc' := 416) rfl ?_
  refine r_ldc2 X204 hx hZ hown (hw _ (List.mem_of_getElem? (i := 37) rfl)) (hb hby at_416) (pc' := 419) rfl ?_
  refine r_ladd X204.here hx (hb hby at_419) (pc' := 420) rfl ?_
  refine r_lload X204.here hx (hb hby at_420) rfl (pc' := 422) rfl ?_
  refine r_ldc2 X204 hx hZ hown (hw _ (List.mem_of_getElem? (i := 37) rfl)) (hb hby at_422) (pc' := 425) rfl ?_
  refine r_lsub X204.here hx (hb hby at_425) (pc' := 426) rfl ?_
  refine r_lload X204.here hx (hb hby at_426) rfl (pc' := 428) rfl ?_
  refine r_ldc2 X204 hx hZ hown (hw _ (List.mem_of_getElem? (i := 37) rfl)) (hb hby at_428) (pc' := 431) rfl ?_
  refine r_lxor X204.here hx (hb hby at_431) (pc' := 432) rfl ?_
  refine r_callS X204 hx hZ (y := (⟨"com/example/lease/lease/cli/GrantsAddPinLaw", "at", "(Lcom/example/lease/lease/cli/BenchReport$Grants;IJJJ)Z"⟩ : MethodName)) (rm := ({ frames := 1, cells := 0, slots := 0, locals := 13 } : Room)) hown (hw _ (List.mem_of_getElem? (i := 50) rfl)) (hw _ (List.mem_of_getElem? (i := 51) rfl)) (hw _ (List.mem_of_getElem? (i := 52) rfl)) (hw _ (List.mem_of_getElem? (i := 53) rfl)) (by decide) (rmAt l Z a0 hw [] b126 b2 (15 : Int32) (o2 + (15 : Int64)) (g2 - (15 : Int64)) (r2 ^^^ (15 : Int64)) (own_u3 (own_cp (own_u3 (own_u3 (own_u3 (own_u3 (own_u3 (own_u3 (own_u3 (own_u3 (own_u3 (own_u3 (own_u3 (own_u3 (own_u3 (own_u3 (own_u3 (own_u3 (fun _ => (0 : Int64)) 0 o g r) 1 (o2 + (1 : Int64)) (g2 - (1 : Int64)) (r2 ^^^ (1 : Int64))) 2 (o2 + (2 : Int64)) (g2 - (2 : Int64)) (r2 ^^^ (2 : Int64))) 3 (o2 + (3 : Int64)) (g2 - (3 : Int64)) (r2 ^^^ (3 : Int64))) 4 (o2 + (4 : Int64)) (g2 - (4 : Int64)) (r2 ^^^ (4 : Int64))) 5 (o2 + (5 : Int64)) (g2 - (5 : Int64)) (r2 ^^^ (5 : Int64))) 6 (o2 + (6 : Int64)) (g2 - (6 : Int64)) (r2 ^^^ (6 : Int64))) 7 (o2 + (7 : Int64)) (g2 - (7 : Int64)) (r2 ^^^ (7 : Int64))) 8 (o2 + (8 : Int64)) (g2 - (8 : Int64)) (r2 ^^^ (8 : Int64))) 9 (o2 + (9 : Int64)) (g2 - (9 : Int64)) (r2 ^^^ (9 : Int64))) 10 (o2 + (10 : Int64)) (g2 - (10 : Int64)) (r2 ^^^ (10 : Int64))) 11 (o2 + (11 : Int64)) (g2 - (11 : Int64)) (r2 ^^^ (11 : Int64))) 12 (o2 + (12 : Int64)) (g2 - (12 : Int64)) (r2 ^^^ (12 : Int64))) 13 (o2 + (13 : Int64)) (g2 - (13 : Int64)) (r2 ^^^ (13 : Int64))) 14 (o2 + (14 : Int64)) (g2 - (14 : Int64)) (r2 ^^^ (14 : Int64))) 15 (o2 + (15 : Int64)) (g2 - (15 : Int64)) (r2 ^^^ (15 : Int64))) 48) 16 r o g) T199.heap n0 Z201 f200 Fv199 Ab199 (by decide) rfl (by decide) rfl (by decide) rfl) e204 (by rw [hml]; rfl) (argsL := [(.ref b126), (.int (15 : Int32)), (.long (o2 + (15 : Int64))), (.long (g2 - (15 : Int64))), (.long (r2 ^^^ (15 : Int64)))]) (rest := []) (lenOf pd_6 rfl) rfl rfl (W := 0) rfl (by decide) (by decide) (by decide) (by decide) (hb hby at_432) (pc' := 435) rfl ?_
  rintro v205 T205 L205 X205 ⟨rfl, Nq205, e205⟩
  have N205 := Fr.app N204 Nq205
  show Run p e below _ _ T205 (mkF m 435 #[.val (.long o), .second, .val (.long g), .second, .val (.long r), .second, .val (.long o2), .second, .val (.long g2), .second, .val (.long r2), .second, .val (.ref b126), .val (.int (1 : Int32))] [(.int (1 : Int32))])
  refine r_if0_eq X205.here hx (hb hby at_435) (by decide) (pc' := 456) (by decide) (pc2 := 438) rfl (fun hc435 => absurd hc435 (by decide)) (fun hc435 => ?_)
  refine r_aload X205.here hx (hb hby at_438) rfl rfl (pc' := 440) rfl ?_
  refine r_bipush X205.here hx (hb hby at_440) (v := 16) rfl (pc' := 442) rfl ?_
  refine r_lload X205.here hx (hb hby at_442) rfl (pc' := 444) rfl ?_
  refine r_lloadN X205.here hx (hb hby at_444) rfl (pc' := 445) rfl ?_
  refine r_lloadN X205.here hx (hb hby at_445) rfl (pc' := 446) rfl ?_
  refine r_callS X205 hx hZ (y := (⟨"com/example/lease/lease/cli/GrantsAddPinLaw", "at", "(Lcom/example/lease/lease/cli/BenchReport$Grants;IJJJ)Z"⟩ : MethodName)) (rm := ({ frames := 1, cells := 0, slots := 0, locals := 13 } : Room)) hown (hw _ (List.mem_of_getElem? (i := 50) rfl)) (hw _ (List.mem_of_getElem? (i := 51) rfl)) (hw _ (List.mem_of_getElem? (i := 52) rfl)) (hw _ (List.mem_of_getElem? (i := 53) rfl)) (by decide) (rmAt l Z a0 hw [] b126 b2 (16 : Int32) r o g (own_u3 (own_cp (own_u3 (own_u3 (own_u3 (own_u3 (own_u3 (own_u3 (own_u3 (own_u3 (own_u3 (own_u3 (own_u3 (own_u3 (own_u3 (own_u3 (own_u3 (own_u3 (fun _ => (0 : Int64)) 0 o g r) 1 (o2 + (1 : Int64)) (g2 - (1 : Int64)) (r2 ^^^ (1 : Int64))) 2 (o2 + (2 : Int64)) (g2 - (2 : Int64)) (r2 ^^^ (2 : Int64))) 3 (o2 + (3 : Int64)) (g2 - (3 : Int64)) (r2 ^^^ (3 : Int64))) 4 (o2 + (4 : Int64)) (g2 - (4 : Int64)) (r2 ^^^ (4 : Int64))) 5 (o2 + (5 : Int64)) (g2 - (5 : Int64)) (r2 ^^^ (5 : Int64))) 6 (o2 + (6 : Int64)) (g2 - (6 : Int64)) (r2 ^^^ (6 : Int64))) 7 (o2 + (7 : Int64)) (g2 - (7 : Int64)) (r2 ^^^ (7 : Int64))) 8 (o2 + (8 : Int64)) (g2 - (8 : Int64)) (r2 ^^^ (8 : Int64))) 9 (o2 + (9 : Int64)) (g2 - (9 : Int64)) (r2 ^^^ (9 : Int64))) 10 (o2 + (10 : Int64)) (g2 - (10 : Int64)) (r2 ^^^ (10 : Int64))) 11 (o2 + (11 : Int64)) (g2 - (11 : Int64)) (r2 ^^^ (11 : Int64))) 12 (o2 + (12 : Int64)) (g2 - (12 : Int64)) (r2 ^^^ (12 : Int64))) 13 (o2 + (13 : Int64)) (g2 - (13 : Int64)) (r2 ^^^ (13 : Int64))) 14 (o2 + (14 : Int64)) (g2 - (14 : Int64)) (r2 ^^^ (14 : Int64))) 15 (o2 + (15 : Int64)) (g2 - (15 : Int64)) (r2 ^^^ (15 : Int64))) 48) 16 r o g) T199.heap n0 Z201 f200 Fv199 Ab199 (by decide) rfl (by decide) rfl (by decide) rfl) e205 (by rw [hml]; rfl) (argsL := [(.ref b126), (.int (16 : Int32)), (.long r), (.long o), (.long g)]) (rest := []) (lenOf pd_6 rfl) rfl rfl (W := 0) rfl (by decide) (by decide) (by decide) (by decide) (hb hby at_446) (pc' := 449) rfl ?_
  rintro v206 T206 L206 X206 ⟨rfl, Nq206, e206⟩
  have N206 := Fr.app N205 Nq206
  show Run p e below _ _ T206 (mkF m 449 #[.val (.long o), .second, .val (.long g), .second, .val (.long r), .second, .val (.long o2), .second, .val (.long g2), .second, .val (.long r2), .second, .val (.ref b126), .val (.int (1 : Int32))] [(.int (1 : Int32))])
  refine r_if0_eq X206.here hx (hb hby at_449) (by decide) (pc' := 456) (by decide) (pc2 := 452) rfl (fun hc449 => absurd hc449 (by decide)) (fun hc449 => ?_)
  refine r_iconst X206.here hx (hb hby at_452) (v := 1) rfl (pc' := 453) rfl ?_
  refine r_goto X206.here hx (hb hby at_453) (by decide) (pc' := 457) (by decide) ?_
  refine r_retN X206 hx hlk hret (by simp) (hb hby at_457) (w := (1 : Int32)) rfl ?_ (by decide) (by decide)
  try rw [e206]
  exact ⟨rfl, N206⟩
set_option maxRecDepth 65536 in
set_option maxHeartbeats 40000000 in
theorem comes_1 {Post : Tables → Env → Array Value → State → Outcome → State → Prop} (hpost : ∀ tb e args s v u, (limb_1_1.after args s (.returned v) u = true ∧ limb_1_2.after args s (.returned v) u = true ∧ True) → FrameEnd s (.returned v) u (Jvm.fieldLocs frame_1_writes args s ++ Jvm.arrayLocs frame_1_arrays args s ++ Jvm.staticLocs frame_1_statics s) 16 384 → Post tb e args s (.returned v) u) :
    ArmFor flags0 classFile x code maxLocals ret World_1 tables_1 room_1 Calls_1 rest_1 Pre_1 Post := by
  intro l hfl _ _ p e ha hc hk s m args below hf hA hF happ hP
  obtain ⟨hcalls, hrest, hpre⟩ := hP
  obtain ⟨-, -, -, hnamed, -, -, -, hat⟩ := (Spec.applies_iff hf).mp happ
  obtain ⟨hg, hn⟩ := and_e (Cond.before_iff.mp (show (Jvm.Cond.and given_1 narrow_1).before args s = true from hpre))
  obtain ⟨h1, g0⟩ := and_e hg
  obtain ⟨q0, g1⟩ := and_e g0
  obtain ⟨q1, g2⟩ := and_e g1
  obtain ⟨q2, g3⟩ := and_e g2
  obtain ⟨q3, g4⟩ := and_e g3
  obtain ⟨q4, g5⟩ := and_e g4
  have q5 := g5
  obtain ⟨w0, w1, w2, w3, w4, w5, rfl⟩ : ∃ w0 w1 w2 w3 w4 w5 : Value, args = #[w0, w1, w2, w3, w4, w5] := by
    have hs : args.size = 6 := by simpa [Cond.value, given_1] using h1
    obtain ⟨L⟩ := args
    match L, hs with
    | [w0, w1, w2, w3, w4, w5], _ => exact ⟨w0, w1, w2, w3, w4, w5, rfl⟩
  have hw := fun d (hd : d ∈ tables_1) => atoms_spec (ws := Jvm.Cond.code x code maxLocals ret :: tables_1) hat d (List.mem_cons_of_mem _ hd)
  have hfit : Fit s := fun {y c} hc i hi => by
    obtain ⟨ha, rfl⟩ := Array.getElem?_eq_some_iff.mp hc
    have q := List.all_eq_true.mp ((Array.all_eq_true_iff_forall_mem.mp hF) _ (Array.getElem_mem ha)) i (List.mem_range.mpr hi)
    simpa [Array.getElem?_eq_getElem hi] using q
  obtain ⟨i0, e0⟩ := isL_v q0
  obtain rfl : w0 = (.long i0) := Option.some.inj e0
  obtain ⟨i1, e1⟩ := isL_v q1
  obtain rfl : w1 = (.long i1) := Option.some.inj e1
  obtain ⟨i2, e2⟩ := isL_v q2
  obtain rfl : w2 = (.long i2) := Option.some.inj e2
  obtain ⟨i3, e3⟩ := isL_v q3
  obtain rfl : w3 = (.long i3) := Option.some.inj e3
  obtain ⟨i4, e4⟩ := isL_v q4
  obtain rfl : w4 = (.long i4) := Option.some.inj e4
  obtain ⟨i5, e5⟩ := isL_v q5
  obtain rfl : w5 = (.long i5) := Option.some.inj e5
  obtain ⟨n, o, h1, h2, h3, _, L, rfl, ⟨rfl, N⟩, hq⟩ := rm0 l s _ hw tables_1 i0 i1 i2 i3 i4 i5  s.heap s.heap.size (Nat.le_refl _)  p e ha hc hk s m _ below hf ((Spec.applies_iff_loose hf).mp happ).1 ⟨rfl, State.Warmed39.refl s, rfl⟩ trivial
  refine ⟨n, _, h1, h2, h3, hpost _ _ _ _ _ _ ⟨Cond.after_iff.mpr rfl, Cond.after_iff.mpr (eq_i res_at (Term.int_eval (1)) rfl), trivial⟩ ⟨hq.1, hq.2.1, (hq.2.2.sift fun y hy => Or.inr (N y hy)).mono (by decide) (by decide)⟩⟩
theorem main_1_1 : Claimed_1_1 := comes_1 fun _ _ _ _ _ _ h hF => ⟨h.1, hF⟩
theorem main_1_2 : Claimed_1_2 := comes_1 fun _ _ _ _ _ _ h hF => ⟨h.2.1, hF⟩
end Jvm.Pilot.@@N@@
namespace Jvm.Pilot.@@N@@
open Jvm Jvm.ClassFile Sem Op Lib Jvm.Free Jvm.Stand Jvm.Pilot.@@N@@.Jvm.D
/-! MADE BY PROGRAM (witnessworld.py) out of the Statement's table words and the real class files: 14 classes; the members and pool entries that the words name. The judged class is class 1, her method 2. -/
namespace start1
open Jvm.ClassFile
def u (s : String) : CpInfo := .utf8 (stringToUtf16 s)
/-- a pool by its gaps: so many unusable entries, then the entry; so many at the end -/
def gap : Nat → List CpInfo → List CpInfo
  | 0, r => r
  | n + 1, r => .unusable :: gap n r
def poolList (es : List (Nat × CpInfo)) (last : Nat) : List CpInfo := es.foldr (fun e r => gap e.1 (e.2 :: r)) (gap last [])
def pool (es : List (Nat × CpInfo)) (last : Nat) : Array CpInfo := ⟨poolList es last⟩
def fileOf (pool : Array CpInfo) (this : Nat) (attrs : Array Attribute := #[]) (ms : Array MethodInfo := #[]) (fl : Nat := 33) (sup : Nat := 0) (ifs : Array Nat := #[]) (fds : Array FieldInfo := #[]) : ClassFile where
  minorVersion := 0
  majorVersion := 65
  constantPool := pool
  accessFlags := fl
  thisClass := this
  superClass := sup
  interfaces := ifs
  fields := fds
  methods := ms
  attributes := attrs
def plain (name : String) (sup : Option ClassId) : Class where
  name := name
  kind := .ordinary
  loader := none
  accessFlags := 33
  super := sup
  interfaces := #[]
  cf := none
  fields := #[]
  methods := #[]
  instanceTypes := #[]
  staticTypes := #[]
  resolved := #[]
  callSites := []
  init := .initialized
  statics := none
  mirror := none

def pool0 : Array CpInfo := pool [(5, u "<init>"), (0, u "()V"), (1, .class_ 10), (1, u "java/lang/Object")] 113

def k0c0 : Code := { maxStack := 0, maxLocals := 1, code := object_method_1_code, exceptionTable := #[], attributes := #[] }
def k0m0 : Method := { name := "<init>", desc := "()V", sig := { parameters := [], returnType := none }, accessFlags := 1, code := some k0c0 }
/-- java/lang/Object -/
def k0 : Class := { plain "java/lang/Object" none with
  accessFlags := 33
  interfaces := #[]
  cf := some (fileOf pool0 8 #[] #[{ accessFlags := 1, nameIndex := 5, descriptorIndex := 6, attributes := #[] }] 33 0 #[] #[])
  fields := #[]
  methods := #[k0m0]
  instanceTypes := #[]
  staticTypes := #[]
  resolved := Array.replicate 124 none
  statics := none }

def pool1 : Array CpInfo := pool [(2, .class_ 4), (0, .nameAndType 5 6), (0, u "java/lang/Object"), (0, u "<init>"), (0, u "()V"), (0, .methodref 8 9), (0, .class_ 10), (0, .nameAndType 11 12), (0, u "com/example/lease/lease/cli/BenchReport$Grants"), (0, u "order"), (0, u "(I)J"), (0, .methodref 8 14), (0, .nameAndType 15 12), (0, u "grantedNanos"), (0, .methodref 8 17), (0, .nameAndType 18 12), (0, u "releasedNanos"), (0, .methodref 8 3), (0, .methodref 8 21), (0, .nameAndType 22 23), (0, u "add"), (0, u "(JJJ)V"), (0, .methodref 8 25), (0, .nameAndType 26 27), (0, u "size"), (0, u "()I"), (0, .long 2), (1, .long 3), (1, .long 4), (1, .long 5), (1, .long 6), (1, .long 7), (1, .long 8), (1, .long 9), (1, .long 10), (1, .long 11), (1, .long 12), (1, .long 13), (1, .long 14), (1, .long 15), (1, .methodref 57 58), (0, .class_ 59), (0, .nameAndType 60 61), (0, u "com/example/lease/lease/cli/GrantsAddPinLaw"), (0, u "at"), (0, u "(Lcom/example/lease/lease/cli/BenchReport$Grants;IJJJ)Z"), (3, u "law"), (0, u "(JJJJJJ)Z")] 6

def k1m0 : Method := { name := "<init>", desc := "()V", sig := { parameters := [], returnType := none }, accessFlags := 1, code := none }
def k1c1 : Code := { maxStack := 4, maxLocals := 8, code := method_2_code, exceptionTable := #[], attributes := #[] }
def k1m1 : Method := { name := "at", desc := "(Lcom/example/lease/lease/cli/BenchReport$Grants;IJJJ)Z", sig := { parameters := [(.object "com/example/lease/lease/cli/BenchReport$Grants"), .int, .long, .long, .long], returnType := some .boolean }, accessFlags := 10, code := some k1c1 }
def k1c2 : Code := { maxStack := 10, maxLocals := 14, code := code, exceptionTable := #[], attributes := #[] }
def k1m2 : Method := { name := "law", desc := "(JJJJJJ)Z", sig := { parameters := [.long, .long, .long, .long, .long, .long], returnType := some .boolean }, accessFlags := 9, code := some k1c2 }
/-- com/example/lease/lease/cli/GrantsAddPinLaw -/
def k1 : Class := { plain "com/example/lease/lease/cli/GrantsAddPinLaw" (some 0) with
  accessFlags := 49
  interfaces := #[]
  cf := some (fileOf pool1 57 #[] #[{ accessFlags := 1, nameIndex := 5, descriptorIndex := 6, attributes := #[] }, { accessFlags := 10, nameIndex := 60, descriptorIndex := 61, attributes := #[] }, { accessFlags := 9, nameIndex := 65, descriptorIndex := 66, attributes := #[] }] 49 2 #[] #[])
  fields := #[]
  methods := #[k1m0, k1m1, k1m2]
  instanceTypes := #[]
  staticTypes := #[]
  resolved := Array.replicate 73 none
  statics := none }

def pool2 : Array CpInfo := pool [(1, .methodref 2 3), (0, .class_ 4), (0, .nameAndType 5 6), (0, u "java/lang/Object"), (0, u "<init>"), (0, u "()V"), (0, .class_ 8), (0, u "com/example/lease/lease/cli/BenchReport$Grants"), (0, .fieldref 7 10), (0, .nameAndType 11 12), (0, u "values"), (0, u "[J"), (0, .fieldref 7 14), (0, .nameAndType 15 16), (0, u "size"), (0, u "I"), (0, .methodref 18 19), (0, .class_ 20), (0, .nameAndType 21 22), (0, u "java/util/Arrays"), (0, u "copyOf"), (0, u "([JI)[J"), (0, u "LONGS_PER_GRANT"), (4, u "add"), (0, u "(JJJ)V"), (1, u "()I"), (0, u "order"), (0, u "(I)J"), (0, u "grantedNanos"), (0, u "releasedNanos"), (3, .class_ 40), (0, u "com/example/lease/lease/cli/BenchReport")] 2

def k2c0 : Code := { maxStack := 2, maxLocals := 1, code := prog_2_method_1_code, exceptionTable := #[], attributes := #[] }
def k2m0 : Method := { name := "<init>", desc := "()V", sig := { parameters := [], returnType := none }, accessFlags := 0, code := some k2c0 }
def k2c1 : Code := { maxStack := 4, maxLocals := 8, code := prog_2_method_2_code, exceptionTable := #[], attributes := #[] }
def k2m1 : Method := { name := "add", desc := "(JJJ)V", sig := { parameters := [.long, .long, .long], returnType := none }, accessFlags := 0, code := some k2c1 }
def k2c2 : Code := { maxStack := 1, maxLocals := 1, code := prog_2_method_3_code, exceptionTable := #[], attributes := #[] }
def k2m2 : Method := { name := "size", desc := "()I", sig := { parameters := [], returnType := some .int }, accessFlags := 0, code := some k2c2 }
def k2c3 : Code := { maxStack := 3, maxLocals := 2, code := prog_2_method_4_code, exceptionTable := #[], attributes := #[] }
def k2m3 : Method := { name := "order", desc := "(I)J", sig := { parameters := [.int], returnType := some .long }, accessFlags := 0, code := some k2c3 }
def k2c4 : Code := { maxStack := 3, maxLocals := 2, code := prog_2_method_5_code, exceptionTable := #[], attributes := #[] }
def k2m4 : Method := { name := "grantedNanos", desc := "(I)J", sig := { parameters := [.int], returnType := some .long }, accessFlags := 0, code := some k2c4 }
def k2c5 : Code := { maxStack := 3, maxLocals := 2, code := prog_2_method_6_code, exceptionTable := #[], attributes := #[] }
def k2m5 : Method := { name := "releasedNanos", desc := "(I)J", sig := { parameters := [.int], returnType := some .long }, accessFlags := 0, code := some k2c5 }
/-- com/example/lease/lease/cli/BenchReport$Grants -/
def k2 : Class := { plain "com/example/lease/lease/cli/BenchReport$Grants" (some 0) with
  accessFlags := 32
  interfaces := #[]
  cf := some (fileOf pool2 7 #[.nestHost 39] #[{ accessFlags := 0, nameIndex := 5, descriptorIndex := 6, attributes := #[] }, { accessFlags := 0, nameIndex := 28, descriptorIndex := 29, attributes := #[] }, { accessFlags := 0, nameIndex := 15, descriptorIndex := 31, attributes := #[] }, { accessFlags := 0, nameIndex := 32, descriptorIndex := 33, attributes := #[] }, { accessFlags := 0, nameIndex := 34, descriptorIndex := 33, attributes := #[] }, { accessFlags := 0, nameIndex := 35, descriptorIndex := 33, attributes := #[] }] 32 2 #[] #[{ accessFlags := 26, nameIndex := 23, descriptorIndex := 16, attributes := #[] }, { accessFlags := 2, nameIndex := 11, descriptorIndex := 12, attributes := #[] }, { accessFlags := 2, nameIndex := 15, descriptorIndex := 16, attributes := #[] }])
  fields := #[{ name := "LONGS_PER_GRANT", type := .int, accessFlags := 26, slot := 0, constantValue := 0 }, { name := "values", type := (.array .long), accessFlags := 2, slot := 0, constantValue := 0 }, { name := "size", type := .int, accessFlags := 2, slot := 1, constantValue := 0 }]
  methods := #[k2m0, k2m1, k2m2, k2m3, k2m4, k2m5]
  instanceTypes := #[(.array .long), .int]
  staticTypes := #[.int]
  resolved := Array.replicate 43 none
  statics := none }

def pool3 : Array CpInfo := pool [(2, .class_ 4), (1, u "java/lang/Object"), (0, u "<init>"), (0, u "()V"), (7, .class_ 16), (1, u "java/util/Arrays"), (57, .class_ 76), (1, u "java/util/Arrays$NaturalOrder"), (36, .class_ 115), (1, u "java/util/Arrays$LegacyMergeSort"), (1, u "Z"), (32, .methodref 151 152), (0, .class_ 153), (0, .nameAndType 154 155), (0, u "java/lang/System"), (0, u "arraycopy"), (0, u "(Ljava/lang/Object;ILjava/lang/Object;II)V"), (146, u "copyOf"), (1, .methodref 305 306), (0, .class_ 307), (0, .nameAndType 308 309), (0, u "java/lang/Math"), (0, u "min"), (0, u "(II)I"), (65, .class_ 376), (0, u "java/util/Arrays$ArrayList"), (68, u "$assertionsDisabled"), (269, u "MIN_ARRAY_SORT_GRAN"), (0, u "I"), (2, u "INSERTIONSORT_THRESHOLD"), (152, u "([JI)[J"), (102, .class_ 976), (0, u "java/util/Arrays$ArrayItr")] 52

def k3m0 : Method := { name := "<init>", desc := "()V", sig := { parameters := [], returnType := none }, accessFlags := 2, code := none }
def k3c1 : Code := { maxStack := 6, maxLocals := 3, code := jdk_65_method_124_code, exceptionTable := #[], attributes := #[] }
def k3m1 : Method := { name := "copyOf", desc := "([JI)[J", sig := { parameters := [(.array .long), .int], returnType := some (.array .long) }, accessFlags := 9, code := some k3c1 }
/-- java/util/Arrays -/
def k3 : Class := { plain "java/util/Arrays" (some 0) with
  accessFlags := 49
  interfaces := #[]
  cf := some (fileOf pool3 14 #[.nestMembers #[975, 375, 113, 74]] #[{ accessFlags := 2, nameIndex := 5, descriptorIndex := 6, attributes := #[] }, { accessFlags := 9, nameIndex := 302, descriptorIndex := 872, attributes := #[] }] 49 2 #[] #[{ accessFlags := 26, nameIndex := 715, descriptorIndex := 716, attributes := #[] }, { accessFlags := 26, nameIndex := 719, descriptorIndex := 716, attributes := #[] }, { accessFlags := 4120, nameIndex := 445, descriptorIndex := 117, attributes := #[] }])
  fields := #[{ name := "MIN_ARRAY_SORT_GRAN", type := .int, accessFlags := 26, slot := 0, constantValue := 0 }, { name := "INSERTIONSORT_THRESHOLD", type := .int, accessFlags := 26, slot := 1, constantValue := 0 }, { name := "$assertionsDisabled", type := .boolean, accessFlags := 4120, slot := 2, constantValue := 0 }]
  methods := #[k3m0, k3m1]
  instanceTypes := #[]
  staticTypes := #[.int, .int, .boolean]
  resolved := Array.replicate 1029 none
  statics := none }

def pool4 : Array CpInfo := pool [(1, .class_ 2), (0, u "java/lang/Math"), (1, .class_ 6), (1, u "java/lang/Object"), (0, u "<init>"), (0, u "()V"), (89, .class_ 100), (1, u "java/lang/Math$RandomNumberGeneratorHolder"), (71, u "negativeZeroFloatBits"), (0, u "J"), (2, u "negativeZeroDoubleBits"), (24, u "min"), (43, u "$assertionsDisabled"), (0, u "Z"), (88, u "(II)I"), (2, u "twoToTheDoubleScaleDown"), (0, u "D"), (4, u "twoToTheDoubleScaleUp"), (9, u "E"), (3, u "PI"), (2, u "TAU"), (2, u "DEGREES_TO_RADIANS"), (0, u "RADIANS_TO_DEGREES")] 94

def k4m0 : Method := { name := "<init>", desc := "()V", sig := { parameters := [], returnType := none }, accessFlags := 2, code := none }
def k4c1 : Code := { maxStack := 2, maxLocals := 2, code := jdk_29_method_69_code, exceptionTable := #[], attributes := #[] }
def k4m1 : Method := { name := "min", desc := "(II)I", sig := { parameters := [.int, .int], returnType := some .int }, accessFlags := 9, code := some k4c1 }
/-- java/lang/Math -/
def k4 : Class := { plain "java/lang/Math" (some 0) with
  accessFlags := 49
  interfaces := #[]
  cf := some (fileOf pool4 1 #[.nestMembers #[98]] #[{ accessFlags := 2, nameIndex := 7, descriptorIndex := 8, attributes := #[] }, { accessFlags := 9, nameIndex := 201, descriptorIndex := 335, attributes := #[] }] 49 4 #[] #[{ accessFlags := 25, nameIndex := 354, descriptorIndex := 339, attributes := #[] }, { accessFlags := 25, nameIndex := 358, descriptorIndex := 339, attributes := #[] }, { accessFlags := 25, nameIndex := 361, descriptorIndex := 339, attributes := #[] }, { accessFlags := 26, nameIndex := 364, descriptorIndex := 339, attributes := #[] }, { accessFlags := 26, nameIndex := 365, descriptorIndex := 339, attributes := #[] }, { accessFlags := 26, nameIndex := 172, descriptorIndex := 173, attributes := #[] }, { accessFlags := 26, nameIndex := 176, descriptorIndex := 173, attributes := #[] }, { accessFlags := 8, nameIndex := 344, descriptorIndex := 339, attributes := #[] }, { accessFlags := 8, nameIndex := 338, descriptorIndex := 339, attributes := #[] }, { accessFlags := 4120, nameIndex := 245, descriptorIndex := 246, attributes := #[] }])
  fields := #[{ name := "E", type := .double, accessFlags := 25, slot := 0, constantValue := 0 }, { name := "PI", type := .double, accessFlags := 25, slot := 1, constantValue := 0 }, { name := "TAU", type := .double, accessFlags := 25, slot := 2, constantValue := 0 }, { name := "DEGREES_TO_RADIANS", type := .double, accessFlags := 26, slot := 3, constantValue := 0 }, { name := "RADIANS_TO_DEGREES", type := .double, accessFlags := 26, slot := 4, constantValue := 0 }, { name := "negativeZeroFloatBits", type := .long, accessFlags := 26, slot := 5, constantValue := 0 }, { name := "negativeZeroDoubleBits", type := .long, accessFlags := 26, slot := 6, constantValue := 0 }, { name := "twoToTheDoubleScaleUp", type := .double, accessFlags := 8, slot := 7, constantValue := 0 }, { name := "twoToTheDoubleScaleDown", type := .double, accessFlags := 8, slot := 8, constantValue := 0 }, { name := "$assertionsDisabled", type := .boolean, accessFlags := 4120, slot := 9, constantValue := 0 }]
  methods := #[k4m0, k4m1]
  instanceTypes := #[]
  staticTypes := #[.double, .double, .double, .double, .double, .long, .long, .double, .double, .boolean]
  resolved := Array.replicate 460 none
  statics := none }

def pool5 : Array CpInfo := pool [(2, .class_ 4), (1, u "java/lang/Object"), (0, u "<init>"), (0, u "()V"), (1, .class_ 10), (1, u "java/lang/System"), (0, u "allowSecurityManager"), (0, u "I"), (16, u "cons"), (0, u "Ljava/io/Console;"), (77, .class_ 110), (1, u "java/lang/System$CallersHolder"), (43, u "initialErrStream"), (0, u "Ljava/io/PrintStream;"), (19, u "security"), (0, u "Ljava/lang/SecurityManager;"), (31, .class_ 209), (0, u "java/lang/System$1"), (7, u "props"), (0, u "Ljava/util/Properties;"), (2, u "lineSeparator"), (0, u "Ljava/lang/String;"), (96, .class_ 321), (1, u "java/lang/System$LoggerFinder"), (5, .class_ 328), (0, u "java/lang/System$Logger"), (67, u "err"), (2, u "out"), (91, u "notSupportedJnuEncoding"), (15, u "in"), (17, u "initialIn"), (0, u "Ljava/io/InputStream;"), (35, u "bootLayer"), (0, u "Ljava/lang/ModuleLayer;"), (99, .class_ 664), (0, u "java/lang/System$2"), (9, u "NEVER"), (2, u "MAYBE"), (49, u "arraycopy"), (0, u "(Ljava/lang/Object;ILjava/lang/Object;II)V"), (72, .class_ 802), (0, u "java/lang/System$Logger$Level")] 31

def k5m0 : Method := { name := "<init>", desc := "()V", sig := { parameters := [], returnType := none }, accessFlags := 2, code := none }
def k5m1 : Method := { name := "arraycopy", desc := "(Ljava/lang/Object;ILjava/lang/Object;II)V", sig := { parameters := [(.object "java/lang/Object"), .int, (.object "java/lang/Object"), .int, .int], returnType := none }, accessFlags := 265, code := none }
/-- java/lang/System -/
def k5 : Class := { plain "java/lang/System" (some 0) with
  accessFlags := 49
  interfaces := #[]
  cf := some (fileOf pool5 8 #[.nestMembers #[319, 327, 801, 108, 663, 208]] #[{ accessFlags := 2, nameIndex := 5, descriptorIndex := 6, attributes := #[] }, { accessFlags := 265, nameIndex := 727, descriptorIndex := 728, attributes := #[] }] 49 2 #[] #[{ accessFlags := 25, nameIndex := 507, descriptorIndex := 526, attributes := #[] }, { accessFlags := 25, nameIndex := 399, descriptorIndex := 155, attributes := #[] }, { accessFlags := 25, nameIndex := 396, descriptorIndex := 155, attributes := #[] }, { accessFlags := 10, nameIndex := 525, descriptorIndex := 526, attributes := #[] }, { accessFlags := 26, nameIndex := 674, descriptorIndex := 12, attributes := #[] }, { accessFlags := 26, nameIndex := 677, descriptorIndex := 12, attributes := #[] }, { accessFlags := 10, nameIndex := 11, descriptorIndex := 12, attributes := #[] }, { accessFlags := 74, nameIndex := 175, descriptorIndex := 176, attributes := #[] }, { accessFlags := 10, nameIndex := 491, descriptorIndex := 222, attributes := #[] }, { accessFlags := 74, nameIndex := 29, descriptorIndex := 30, attributes := #[] }, { accessFlags := 74, nameIndex := 154, descriptorIndex := 155, attributes := #[] }, { accessFlags := 10, nameIndex := 217, descriptorIndex := 218, attributes := #[] }, { accessFlags := 10, nameIndex := 221, descriptorIndex := 222, attributes := #[] }, { accessFlags := 8, nameIndex := 562, descriptorIndex := 563, attributes := #[] }])
  fields := #[{ name := "in", type := (.object "java/io/InputStream"), accessFlags := 25, slot := 0, constantValue := 0 }, { name := "out", type := (.object "java/io/PrintStream"), accessFlags := 25, slot := 1, constantValue := 0 }, { name := "err", type := (.object "java/io/PrintStream"), accessFlags := 25, slot := 2, constantValue := 0 }, { name := "initialIn", type := (.object "java/io/InputStream"), accessFlags := 10, slot := 3, constantValue := 0 }, { name := "NEVER", type := .int, accessFlags := 26, slot := 4, constantValue := 0 }, { name := "MAYBE", type := .int, accessFlags := 26, slot := 5, constantValue := 0 }, { name := "allowSecurityManager", type := .int, accessFlags := 10, slot := 6, constantValue := 0 }, { name := "security", type := (.object "java/lang/SecurityManager"), accessFlags := 74, slot := 7, constantValue := 0 }, { name := "notSupportedJnuEncoding", type := (.object "java/lang/String"), accessFlags := 10, slot := 8, constantValue := 0 }, { name := "cons", type := (.object "java/io/Console"), accessFlags := 74, slot := 9, constantValue := 0 }, { name := "initialErrStream", type := (.object "java/io/PrintStream"), accessFlags := 74, slot := 10, constantValue := 0 }, { name := "props", type := (.object "java/util/Properties"), accessFlags := 10, slot := 11, constantValue := 0 }, { name := "lineSeparator", type := (.object "java/lang/String"), accessFlags := 10, slot := 12, constantValue := 0 }, { name := "bootLayer", type := (.object "java/lang/ModuleLayer"), accessFlags := 8, slot := 13, constantValue := 0 }]
  methods := #[k5m0, k5m1]
  instanceTypes := #[]
  staticTypes := #[(.object "java/io/InputStream"), (.object "java/io/PrintStream"), (.object "java/io/PrintStream"), (.object "java/io/InputStream"), .int, .int, .int, (.object "java/lang/SecurityManager"), (.object "java/lang/String"), (.object "java/io/Console"), (.object "java/io/PrintStream"), (.object "java/util/Properties"), (.object "java/lang/String"), (.object "java/lang/ModuleLayer")]
  resolved := Array.replicate 834 none
  statics := none }

def pool6 : Array CpInfo := pool [(1, u "java/lang/Cloneable"), (0, .class_ 1), (0, u "java/lang/Object"), (0, .class_ 3)] 3

/-- java/lang/Cloneable -/
def k6 : Class := { plain "java/lang/Cloneable" (some 0) with
  accessFlags := 1537
  interfaces := #[]
  cf := some (fileOf pool6 2 #[] #[] 1537 4 #[] #[])
  fields := #[]
  methods := #[]
  instanceTypes := #[]
  staticTypes := #[]
  resolved := Array.replicate 8 none
  statics := none }

def pool7 : Array CpInfo := pool [(1, u "java/io/Serializable"), (0, .class_ 1), (0, u "java/lang/Object"), (0, .class_ 3)] 3

/-- java/io/Serializable -/
def k7 : Class := { plain "java/io/Serializable" (some 0) with
  accessFlags := 1537
  interfaces := #[]
  cf := some (fileOf pool7 2 #[] #[] 1537 4 #[] #[])
  fields := #[]
  methods := #[]
  instanceTypes := #[]
  staticTypes := #[]
  resolved := Array.replicate 8 none
  statics := none }

/-- the primitive byte -/
def k8 : Class := { plain "byte" none with kind := .primitive 'B', accessFlags := 0x411 }
/-- [B -/
def k9 : Class := { plain "[B" (some 0) with kind := .array 8 .byte, interfaces := #[6, 7], accessFlags := 1041 }

/-- the primitive int -/
def k10 : Class := { plain "int" none with kind := .primitive 'I', accessFlags := 0x411 }
/-- [I -/
def k11 : Class := { plain "[I" (some 0) with kind := .array 10 .int, interfaces := #[6, 7], accessFlags := 1041 }

/-- the primitive long -/
def k12 : Class := { plain "long" none with kind := .primitive 'J', accessFlags := 0x411 }
/-- [J -/
def k13 : Class := { plain "[J" (some 0) with kind := .array 12 .long, interfaces := #[6, 7], accessFlags := 1041 }

def heap : Heap := #[]
def classes : Array Class := #[k0, k1, k2, k3, k4, k5, k6, k7, k8, k9, k10, k11, k12, k13]
def interned : List (Array UInt16 × Addr) := []
def slotsUsed : Nat := 0
def theMethod : MethodId := ⟨1, 2⟩
def args0 : Array Value := #[.long 5, .long 7, .long (-3), .long 9, .long 1, .long 0]
def aboutOver (below : List Frame) : State where
  vm := { classes := classes, interned := interned.toArray }
  heap := heap
  slotsUsed := slotsUsed
  threads := #[{ frames := .invoking theMethod args0 :: below }]
def below0 : List Frame := [.native { method := ⟨0, 0⟩, args := #[] }]
def about1 : State := aboutOver below0
def p0 : Program := .bare "" "" ""
def e0 : Env := launch0.env 0 0 0
theorem w_frames : about1.frames = Frame.invoking theMethod args0 :: below0 := rfl
set_option maxRecDepth 65536 in
theorem w_args : argsFit about1.vm theMethod args0 = true := by decide +kernel
set_option maxRecDepth 65536 in
theorem w_heap : heapFits about1 = true := by decide +kernel
set_option maxRecDepth 65536 in
theorem w_runnable : about1.curStatus? = some .runnable := by decide +kernel
set_option maxRecDepth 65536 in
theorem w_alone : about1.alone = true := by decide +kernel
set_option maxRecDepth 65536 in
theorem w_named : about1.methodNamed? x = some theMethod := by decide +kernel
set_option maxRecDepth 65536 in
theorem w_hears : about1.hears theMethod below0 = true := by decide +kernel
set_option maxRecDepth 65536 in
theorem w_ripe : about1.ripe theMethod args0 below0 = true := by decide +kernel
theorem w_running : about1.status = .running := rfl
set_option maxRecDepth 65536 in
theorem w_room : about1.hasRoom e0.platform room_1 = true :=
  launch0.hasRoom_least _ room_1 (by decide +kernel) (by decide +kernel) (by decide +kernel) (by decide +kernel) (by decide +kernel) (by decide +kernel)
theorem allAtoms_all (ts : List Jvm.Cond) (a : Array Jvm.Value) (st : Jvm.State) : (allAtoms ts).before a st = ts.all (fun c => c.before a st) := by
  induction ts with
  | nil => rfl
  | cons c t ih =>
    show (Jvm.Cond.and c (allAtoms t)).before a st = _
    rw [Jvm.Cond.before_and, ih, List.all_cons]
def words1 : List Jvm.Cond := Jvm.Cond.code x code maxLocals ret :: tables_1
/-- a 'code' word, met by the world's own term for the bytes: nothing is compared byte by byte -/
theorem code_word {y : MethodName} {bytes : ByteArray} {mx : Nat} {rt : Option FieldType} {a : Array Value} {s : State} {m : MethodId} {meth : Method} {c : Code} (h1 : s.methodNamed? y = some m) (h2 : s.vm.method? m = some meth) (h3 : meth.code = some c) (h4 : c.code = bytes)
    (h5 : (c.maxLocals == mx && c.exceptionTable.isEmpty && decide (c.maxStack ≤ mostOperands) && decide (meth.sig.returnType = rt) && !meth.locks && decide (parseMethodDescriptor y.desc = some meth.sig)) = true) : (Jvm.Cond.code y bytes mx rt).before a s = true := by
  simp only [Bool.and_eq_true, beq_iff_eq, Bool.not_eq_true', decide_eq_true_eq] at h5
  obtain ⟨⟨⟨⟨⟨g1, g2⟩, g3⟩, g4⟩, g5⟩, g6⟩ := h5
  simp [Cond.before, Cond.holds, Cond.value, h1, h2, h3, h4, g1, g2, g3, g4, g5, g6]
def isCode : Jvm.Cond → Bool
  | .code _ _ _ _ => true
  | _ => false
theorem all_split {L : List Jvm.Cond} {P : Jvm.Cond → Bool} (h1 : L.all (fun c => isCode c || P c) = true) (h2 : ∀ c ∈ L.filter isCode, P c = true) : L.all P = true := by
  refine List.all_eq_true.mpr fun c hc => ?_
  have h := List.all_eq_true.mp h1 c hc
  rcases Bool.eq_false_or_eq_true (isCode c) with hi | hi
  · exact h2 c (List.mem_filter.mpr ⟨hc, hi⟩)
  · simpa [hi] using h
set_option maxRecDepth 65536 in
theorem w_c0 : (Jvm.Cond.code x code maxLocals ret).before args0 about1 = true := code_word (m := ⟨1, 2⟩) (meth := k1m2) (c := k1c2) (by decide +kernel) rfl rfl rfl (by decide +kernel)
set_option maxRecDepth 65536 in
theorem w_c1 : (Jvm.Cond.code ({ cls := "com/example/lease/lease/cli/BenchReport$Grants", name := "<init>", desc := "()V" } : Jvm.MethodName) prog_2_method_1_code (1 : Nat) (Option.none : Option Jvm.ClassFile.FieldType)).before args0 about1 = true := code_word (m := ⟨2, 0⟩) (meth := k2m0) (c := k2c0) (by decide +kernel) rfl rfl rfl (by decide +kernel)
set_option maxRecDepth 65536 in
theorem w_c2 : (Jvm.Cond.code ({ cls := "java/lang/Object", name := "<init>", desc := "()V" } : Jvm.MethodName) object_method_1_code (1 : Nat) (Option.none : Option Jvm.ClassFile.FieldType)).before args0 about1 = true := code_word (m := ⟨0, 0⟩) (meth := k0m0) (c := k0c0) (by decide +kernel) rfl rfl rfl (by decide +kernel)
set_option maxRecDepth 65536 in
theorem w_c3 : (Jvm.Cond.code ({ cls := "com/example/lease/lease/cli/BenchReport$Grants", name := "add", desc := "(JJJ)V" } : Jvm.MethodName) prog_2_method_2_code (8 : Nat) (Option.none : Option Jvm.ClassFile.FieldType)).before args0 about1 = true := code_word (m := ⟨2, 1⟩) (meth := k2m1) (c := k2c1) (by decide +kernel) rfl rfl rfl (by decide +kernel)
set_option maxRecDepth 65536 in
theorem w_c4 : (Jvm.Cond.code ({ cls := "com/example/lease/lease/cli/BenchReport$Grants", name := "size", desc := "()I" } : Jvm.MethodName) prog_2_method_3_code (1 : Nat) (Option.some Jvm.ClassFile.FieldType.int)).before args0 about1 = true := code_word (m := ⟨2, 2⟩) (meth := k2m2) (c := k2c2) (by decide +kernel) rfl rfl rfl (by decide +kernel)
set_option maxRecDepth 65536 in
theorem w_c5 : (Jvm.Cond.code ({ cls := "java/util/Arrays", name := "copyOf", desc := "([JI)[J" } : Jvm.MethodName) jdk_65_method_124_code (3 : Nat) (Option.some (Jvm.ClassFile.FieldType.array Jvm.ClassFile.FieldType.long))).before args0 about1 = true := code_word (m := ⟨3, 1⟩) (meth := k3m1) (c := k3c1) (by decide +kernel) rfl rfl rfl (by decide +kernel)
set_option maxRecDepth 65536 in
theorem w_c6 : (Jvm.Cond.code ({ cls := "java/lang/Math", name := "min", desc := "(II)I" } : Jvm.MethodName) jdk_29_method_69_code (2 : Nat) (Option.some Jvm.ClassFile.FieldType.int)).before args0 about1 = true := code_word (m := ⟨4, 1⟩) (meth := k4m1) (c := k4c1) (by decide +kernel) rfl rfl rfl (by decide +kernel)
set_option maxRecDepth 65536 in
theorem w_c7 : (Jvm.Cond.code ({ cls := "com/example/lease/lease/cli/GrantsAddPinLaw", name := "at", desc := "(Lcom/example/lease/lease/cli/BenchReport$Grants;IJJJ)Z" } : Jvm.MethodName) method_2_code (8 : Nat) (Option.some Jvm.ClassFile.FieldType.boolean)).before args0 about1 = true := code_word (m := ⟨1, 1⟩) (meth := k1m1) (c := k1c1) (by decide +kernel) rfl rfl rfl (by decide +kernel)
set_option maxRecDepth 65536 in
theorem w_c8 : (Jvm.Cond.code ({ cls := "com/example/lease/lease/cli/BenchReport$Grants", name := "order", desc := "(I)J" } : Jvm.MethodName) prog_2_method_4_code (2 : Nat) (Option.some Jvm.ClassFile.FieldType.long)).before args0 about1 = true := code_word (m := ⟨2, 3⟩) (meth := k2m3) (c := k2c3) (by decide +kernel) rfl rfl rfl (by decide +kernel)
set_option maxRecDepth 65536 in
theorem w_c9 : (Jvm.Cond.code ({ cls := "com/example/lease/lease/cli/BenchReport$Grants", name := "grantedNanos", desc := "(I)J" } : Jvm.MethodName) prog_2_method_5_code (2 : Nat) (Option.some Jvm.ClassFile.FieldType.long)).before args0 about1 = true := code_word (m := ⟨2, 4⟩) (meth := k2m4) (c := k2c4) (by decide +kernel) rfl rfl rfl (by decide +kernel)
set_option maxRecDepth 65536 in
theorem w_c10 : (Jvm.Cond.code ({ cls := "com/example/lease/lease/cli/BenchReport$Grants", name := "releasedNanos", desc := "(I)J" } : Jvm.MethodName) prog_2_method_6_code (2 : Nat) (Option.some Jvm.ClassFile.FieldType.long)).before args0 about1 = true := code_word (m := ⟨2, 5⟩) (meth := k2m5) (c := k2c5) (by decide +kernel) rfl rfl rfl (by decide +kernel)
def codes1 : List Jvm.Cond := [Jvm.Cond.code x code maxLocals ret, Jvm.Cond.code ({ cls := "com/example/lease/lease/cli/BenchReport$Grants", name := "<init>", desc := "()V" } : Jvm.MethodName) prog_2_method_1_code (1 : Nat) (Option.none : Option Jvm.ClassFile.FieldType), Jvm.Cond.code ({ cls := "java/lang/Object", name := "<init>", desc := "()V" } : Jvm.MethodName) object_method_1_code (1 : Nat) (Option.none : Option Jvm.ClassFile.FieldType), Jvm.Cond.code ({ cls := "com/example/lease/lease/cli/BenchReport$Grants", name := "add", desc := "(JJJ)V" } : Jvm.MethodName) prog_2_method_2_code (8 : Nat) (Option.none : Option Jvm.ClassFile.FieldType), Jvm.Cond.code ({ cls := "com/example/lease/lease/cli/BenchReport$Grants", name := "size", desc := "()I" } : Jvm.MethodName) prog_2_method_3_code (1 : Nat) (Option.some Jvm.ClassFile.FieldType.int), Jvm.Cond.code ({ cls := "java/util/Arrays", name := "copyOf", desc := "([JI)[J" } : Jvm.MethodName) jdk_65_method_124_code (3 : Nat) (Option.some (Jvm.ClassFile.FieldType.array Jvm.ClassFile.FieldType.long)), Jvm.Cond.code ({ cls := "java/lang/Math", name := "min", desc := "(II)I" } : Jvm.MethodName) jdk_29_method_69_code (2 : Nat) (Option.some Jvm.ClassFile.FieldType.int), Jvm.Cond.code ({ cls := "com/example/lease/lease/cli/GrantsAddPinLaw", name := "at", desc := "(Lcom/example/lease/lease/cli/BenchReport$Grants;IJJJ)Z" } : Jvm.MethodName) method_2_code (8 : Nat) (Option.some Jvm.ClassFile.FieldType.boolean), Jvm.Cond.code ({ cls := "com/example/lease/lease/cli/BenchReport$Grants", name := "order", desc := "(I)J" } : Jvm.MethodName) prog_2_method_4_code (2 : Nat) (Option.some Jvm.ClassFile.FieldType.long), Jvm.Cond.code ({ cls := "com/example/lease/lease/cli/BenchReport$Grants", name := "grantedNanos", desc := "(I)J" } : Jvm.MethodName) prog_2_method_5_code (2 : Nat) (Option.some Jvm.ClassFile.FieldType.long), Jvm.Cond.code ({ cls := "com/example/lease/lease/cli/BenchReport$Grants", name := "releasedNanos", desc := "(I)J" } : Jvm.MethodName) prog_2_method_6_code (2 : Nat) (Option.some Jvm.ClassFile.FieldType.long)]
set_option maxRecDepth 65536 in
theorem codes_eq : words1.filter isCode = codes1 := rfl
theorem w_codes : ∀ c ∈ words1.filter isCode, c.before args0 about1 = true := by
  rw [codes_eq]
  intro c hc
  simp only [codes1, List.mem_cons, List.not_mem_nil, or_false] at hc
  rcases hc with rfl | rfl | rfl | rfl | rfl | rfl | rfl | rfl | rfl | rfl | rfl
  · exact w_c0
  · exact w_c1
  · exact w_c2
  · exact w_c3
  · exact w_c4
  · exact w_c5
  · exact w_c6
  · exact w_c7
  · exact w_c8
  · exact w_c9
  · exact w_c10
set_option maxRecDepth 65536 in
theorem w_t1 : (words1.take 24).all (fun c => isCode c || c.before args0 about1) = true := by decide +kernel
set_option maxRecDepth 65536 in
theorem w_t2 : ((words1.drop 24).take 24).all (fun c => isCode c || c.before args0 about1) = true := by decide +kernel
set_option maxRecDepth 65536 in
theorem w_t3 : ((words1.drop 24).drop 24).all (fun c => isCode c || c.before args0 about1) = true := by decide +kernel
theorem w_tables : (allAtoms (Jvm.Cond.code x code maxLocals ret :: tables_1)).before args0 about1 = true := by
  rw [allAtoms_all]
  show words1.all (fun c => c.before args0 about1) = true
  refine all_split ?_ w_codes
  rw [← List.take_append_drop 24 words1, List.all_append, w_t1, ← List.take_append_drop 24 (words1.drop 24), List.all_append, w_t2, w_t3]
  rfl
set_option maxRecDepth 65536 in
theorem w_case : (Jvm.Cond.and given_1 narrow_1).before args0 about1 = true := by decide +kernel
theorem w_applies : (headSpec (Jvm.Cond.code x code maxLocals ret :: tables_1) room_1).applies x e0.platform about1 = true :=
  (Spec.applies_iff w_frames).mpr ⟨w_running, w_runnable, w_alone, w_named, w_hears, w_ripe, w_room, w_tables⟩
theorem atStart : AtStart classFile x code maxLocals ret World_1 tables_1 room_1 Calls_1 rest_1 Pre_1 launch0 p0 e0 about1 theMethod args0 below0 :=
  ⟨lists_1, trivial, launch0.admits_env _ _ _, launch0.least_env, fairChoices_fair.cas, fairChoices_fair.clock, w_frames, w_args, w_heap, w_applies, trivial, trivial, w_case⟩
end start1
theorem witness_1 : WitnessClaimed_1 := ⟨start1.p0, start1.e0, start1.about1, start1.theMethod, start1.args0, start1.below0, start1.atStart⟩
end Jvm.Pilot.@@N@@
