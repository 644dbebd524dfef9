import JvmDerived
import JvmDerived.Pilot.@@N@@Statement
import JvmDerived.Pilot.@@N@@Code
set_option linter.unusedVariables false
set_option linter.unusedSimpArgs false
namespace Jvm.Pilot.@@N@@
open Jvm Jvm.ClassFile Sem Op Lib Jvm.Free Jvm.Stand Jvm.LawKit Jvm.RoadKit Bundle Jvm.Pilot.@@N@@.Jvm.D
section Core
variable {p : Program} {l : Launch} {e : Env} {R : Room} {s : State} {m : MethodId} {args : Array Value} {below : List Frame} {meth : Method} {c : Code} {T T' : State} {locs : List Loc} {cells slots : Nat} {Q : Option Value → Heap → List Loc → Prop} {En : Outcome → State → List Loc → Prop} {kc ks : Nat} {Z : State} {a0 : Array Value} {h : Heap} {Ls : Array Slot} {st rest : List Value} {pc pc' : Nat}
def ushrI (x y : Int32) : Int32 := (x.toUInt32 >>> (y &&& 31).toUInt32).toInt32
def ushrJ (x : Int64) (y : Int32) : Int64 := (x.toUInt64 >>> (y &&& 0x3f).toInt64.toUInt64).toInt64
def cmpJ (x y : Int64) : Int32 := if x > y then 1 else if x = y then 0 else -1
def Run (p : Program) (e : Env) (below : List Frame) (Q : Option Value → Heap → List Loc → Prop) (En : Outcome → State → List Loc → Prop) (T : State) (g : JFrame) : Prop :=
  ∃ s₂ o, Steps p.tables e below (T.setTop g) s₂ ∧ s₂.status = .running ∧ Ended s₂ below o ∧ ∃ v L, o = .returned v ∧ Q v s₂.heap L ∧ En o s₂ L
theorem Run.on {g g' : JFrame} (r : Run p e below Q En T' g') (q : ∀ t, Steps p.tables e below (T'.setTop g') t → Steps p.tables e below (T.setTop g) t) : Run p e below Q En T g := by
  obtain ⟨s₂, o, h1, r⟩ := r
  exact ⟨s₂, o, q _ h1, r⟩
theorem Run.cast {g g' : JFrame} (q : g = g') (r : Run p e below Q En T g') : Run p e below Q En T g := q ▸ r
abbrev Met (l : Launch) (Z : State) (y : MethodName) (bytes : ByteArray) (maxL : Nat) (ret : Option FieldType) (ws : List Jvm.Cond) (rm : Room) (as' : Array Value) (h0 : Heap) (Q : Option Value → Heap → List Loc → Prop) (kc ks : Nat) : Prop :=
  MetFree l y (head1 (Jvm.Cond.code y bytes maxL ret :: ws) rm) (fun a U => a = as' ∧ Z.Warmed39 U.vm ∧ U.heap = h0) (fun _ _ _ _ _ => True) (fun _ U o U' => ∃ v L, o = .returned v ∧ Q v U'.heap L ∧ FrameEnd U o U' L kc ks)
theorem met_of {y : MethodName} {bytes : ByteArray} {maxL : Nat} {ret : Option FieldType} {ws : List Jvm.Cond} {rm : Room} {as' : Array Value} {h0 : Heap} {Q : Option Value → Heap → List Loc → Prop} {kc ks : Nat} {f0 : MethodId → JFrame} (hpn : plainFor y = true)
    (hef : ∀ m, entryFrame m as' maxL = f0 m)
    (body : ∀ (p : Program) (e : Env) (s : State) (m : MethodId) (below : List Frame) (meth : Method) (c : Code) (s₁ : State), Stand p l e rm s m as' below meth c s₁ [] 0 0 → p.tables.exec = Jvm.exec → c.code = bytes → c.maxLocals = maxL → meth.sig.returnType = ret → meth.locks = false → s.vm.findClass y.cls = some m.cls → meth.name = y.name → Z.Warmed39 s.vm → s₁.heap = h0 → Run p e below Q (fun o t L => FrameEnd s o t L kc ks) s₁ (f0 m)) :
    Met l Z y bytes maxL ret ws rm as' h0 Q kc ks := by
  refine MetFree.of_bodySF (code := bytes) (maxLocals := maxL) (ret := ret) hpn hisR ?_
  intro p e s m args below meth c s₁ Bd hml0 hP hK
  obtain ⟨rfl, hZ, hh⟩ := hP
  obtain ⟨s₂, o, r⟩ := body p e s m below meth c s₁ (Stand.of_body Bd) Bd.exec Bd.bytes hml0 Bd.returns (BodyLoose.notSynchronized Bd) (findClass_of_methodNamed Bd.named) (name_of_methodNamed Bd.named Bd.method).1 hZ (by rw [← hh, Bd.state]; rfl)
  rw [hef m]
  exact ⟨s₂, o, r⟩
theorem r_aloadN (at_ : At T m c below) (hx : p.tables.exec = Jvm.exec) {k : Fin 4} {v : Value} (hd : decode c.code pc = .ok (.aload_n k, 1)) (hl : Ls[k.val]? = some (.val v)) (hv : v.isRef = true) (hp : pc + 1 = pc') (r : Run p e below Q En T (mkF m pc' Ls (v :: rest))) : Run p e below Q En T (mkF m pc Ls (rest)) := by
  subst hp; exact r.on fun _ q => XS.aloadN at_ hx rfl hd hl hv q
theorem r_aload (at_ : At T m c below) (hx : p.tables.exec = Jvm.exec) {k : Nat} {v : Value} (hd : decode c.code pc = .ok (.aload k, 2)) (hl : Ls[k]? = some (.val v)) (hv : v.isRef = true) (hp : pc + 2 = pc') (r : Run p e below Q En T (mkF m pc' Ls (v :: rest))) : Run p e below Q En T (mkF m pc Ls (rest)) := by
  subst hp; exact r.on fun _ q => XS.aload at_ hx rfl hd hl hv q
theorem r_iloadN (at_ : At T m c below) (hx : p.tables.exec = Jvm.exec) {k : Fin 4} {v : Int32} (hd : decode c.code pc = .ok (.iload_n k, 1)) (hl : Ls[k.val]? = some (.val (.int v))) (hp : pc + 1 = pc') (r : Run p e below Q En T (mkF m pc' Ls (.int v :: rest))) : Run p e below Q En T (mkF m pc Ls (rest)) := by
  subst hp; exact r.on fun _ q => XS.iloadN at_ hx rfl hd hl q
theorem r_iload (at_ : At T m c below) (hx : p.tables.exec = Jvm.exec) {k : Nat} {v : Int32} (hd : decode c.code pc = .ok (.iload k, 2)) (hl : Ls[k]? = some (.val (.int v))) (hp : pc + 2 = pc') (r : Run p e below Q En T (mkF m pc' Ls (.int v :: rest))) : Run p e below Q En T (mkF m pc Ls (rest)) := by
  subst hp; exact r.on fun _ q => XS.iload at_ hx rfl hd hl q
theorem r_lloadN (at_ : At T m c below) (hx : p.tables.exec = Jvm.exec) {k : Fin 4} {v : Int64} (hd : decode c.code pc = .ok (.lload_n k, 1)) (hl : Ls[k.val]? = some (.val (.long v))) (hp : pc + 1 = pc') (r : Run p e below Q En T (mkF m pc' Ls (.long v :: rest))) : Run p e below Q En T (mkF m pc Ls (rest)) := by
  subst hp; exact r.on fun _ q => XS.lloadN at_ hx rfl hd hl q
theorem r_lload (at_ : At T m c below) (hx : p.tables.exec = Jvm.exec) {k : Nat} {v : Int64} (hd : decode c.code pc = .ok (.lload k, 2)) (hl : Ls[k]? = some (.val (.long v))) (hp : pc + 2 = pc') (r : Run p e below Q En T (mkF m pc' Ls (.long v :: rest))) : Run p e below Q En T (mkF m pc Ls (rest)) := by
  subst hp; exact r.on fun _ q => XS.lload at_ hx rfl hd hl q
theorem r_istoreN (at_ : At T m c below) (hx : p.tables.exec = Jvm.exec) {k : Fin 4} {x : Int32} {l' : Array Slot} (hd : decode c.code pc = .ok (.istore_n k, 1)) (hl : storeLocals Ls k.val (.int x) = some l') (hp : pc + 1 = pc') (r : Run p e below Q En T (mkF m pc' l' (rest))) : Run p e below Q En T (mkF m pc Ls (.int x :: rest)) := by
  subst hp; exact r.on fun _ q => XS.istoreN at_ hx rfl hd rfl hl q
theorem r_istore (at_ : At T m c below) (hx : p.tables.exec = Jvm.exec) {k : Nat} {x : Int32} {l' : Array Slot} (hd : decode c.code pc = .ok (.istore k, 2)) (hl : storeLocals Ls k (.int x) = some l') (hp : pc + 2 = pc') (r : Run p e below Q En T (mkF m pc' l' (rest))) : Run p e below Q En T (mkF m pc Ls (.int x :: rest)) := by
  subst hp; exact r.on fun _ q => XS.istore at_ hx rfl hd rfl hl q
theorem r_lstoreN (at_ : At T m c below) (hx : p.tables.exec = Jvm.exec) {k : Fin 4} {x : Int64} {l' : Array Slot} (hd : decode c.code pc = .ok (.lstore_n k, 1)) (hl : storeLocals Ls k.val (.long x) = some l') (hp : pc + 1 = pc') (r : Run p e below Q En T (mkF m pc' l' (rest))) : Run p e below Q En T (mkF m pc Ls (.long x :: rest)) := by
  subst hp; exact r.on fun _ q => XS.lstoreN at_ hx rfl hd rfl hl q
theorem r_lstore (at_ : At T m c below) (hx : p.tables.exec = Jvm.exec) {k : Nat} {x : Int64} {l' : Array Slot} (hd : decode c.code pc = .ok (.lstore k, 2)) (hl : storeLocals Ls k (.long x) = some l') (hp : pc + 2 = pc') (r : Run p e below Q En T (mkF m pc' l' (rest))) : Run p e below Q En T (mkF m pc Ls (.long x :: rest)) := by
  subst hp; exact r.on fun _ q => XS.lstore at_ hx rfl hd rfl hl q
theorem r_astoreN (at_ : At T m c below) (hx : p.tables.exec = Jvm.exec) {k : Fin 4} {x : Value} {l' : Array Slot} (hd : decode c.code pc = .ok (.astore_n k, 1)) (hv : x.isRef = true) (hl : storeLocals Ls k.val x = some l') (hp : pc + 1 = pc') (r : Run p e below Q En T (mkF m pc' l' (rest))) : Run p e below Q En T (mkF m pc Ls (x :: rest)) := by
  subst hp; exact r.on fun _ q => XS.astoreN at_ hx rfl hd rfl hv hl q
theorem r_astore (at_ : At T m c below) (hx : p.tables.exec = Jvm.exec) {k : Nat} {x : Value} {l' : Array Slot} (hd : decode c.code pc = .ok (.astore k, 2)) (hv : x.isRef = true) (hl : storeLocals Ls k x = some l') (hp : pc + 2 = pc') (r : Run p e below Q En T (mkF m pc' l' (rest))) : Run p e below Q En T (mkF m pc Ls (x :: rest)) := by
  subst hp; exact r.on fun _ q => XS.astore at_ hx rfl hd rfl hv hl q
theorem r_iconst (at_ : At T m c below) (hx : p.tables.exec = Jvm.exec) {i : Int} {v : Int32} (hd : decode c.code pc = .ok (.iconst i, 1)) (hv : Int32.ofInt i = v) (hp : pc + 1 = pc') (r : Run p e below Q En T (mkF m pc' Ls (.int v :: rest))) : Run p e below Q En T (mkF m pc Ls rest) := by
  subst hp hv; exact r.on fun _ q => XS.iconst at_ hx rfl hd q
theorem r_bipush (at_ : At T m c below) (hx : p.tables.exec = Jvm.exec) {i : Int} {v : Int32} (hd : decode c.code pc = .ok (.bipush i, 2)) (hv : (Int8.ofInt i).toInt32 = v) (hp : pc + 2 = pc') (r : Run p e below Q En T (mkF m pc' Ls (.int v :: rest))) : Run p e below Q En T (mkF m pc Ls rest) := by
  subst hp hv; exact r.on fun _ q => XS.bipush at_ hx rfl hd q
theorem r_sipush (at_ : At T m c below) (hx : p.tables.exec = Jvm.exec) {i : Int} {v : Int32} (hd : decode c.code pc = .ok (.sipush i, 3)) (hv : (Int16.ofInt i).toInt32 = v) (hp : pc + 3 = pc') (r : Run p e below Q En T (mkF m pc' Ls (.int v :: rest))) : Run p e below Q En T (mkF m pc Ls rest) := by
  subst hp hv; exact r.on fun _ q => XS.sipush at_ hx rfl hd q
theorem r_lconst (at_ : At T m c below) (hx : p.tables.exec = Jvm.exec) {k : Fin 2} {v : Int64} (hd : decode c.code pc = .ok (.lconst k, 1)) (hv : Int64.ofNat k = v) (hp : pc + 1 = pc') (r : Run p e below Q En T (mkF m pc' Ls (.long v :: rest))) : Run p e below Q En T (mkF m pc Ls rest) := by
  subst hp hv; exact r.on fun _ q => XS.lconst at_ hx rfl hd q
theorem r_aconst_null (at_ : At T m c below) (hx : p.tables.exec = Jvm.exec)  (hd : decode c.code pc = .ok (.aconst_null, 1))  (hp : pc + 1 = pc') (r : Run p e below Q En T (mkF m pc' Ls (.null :: rest))) : Run p e below Q En T (mkF m pc Ls (rest)) := by
  subst hp; exact r.on fun _ q => XS.aconstNull at_ hx rfl hd  q
theorem r_iadd (at_ : At T m c below) (hx : p.tables.exec = Jvm.exec) {x y : Int32} (hd : decode c.code pc = .ok (.iadd, 1))  (hp : pc + 1 = pc') (r : Run p e below Q En T (mkF m pc' Ls (.int (x + y) :: rest))) : Run p e below Q En T (mkF m pc Ls (.int y :: .int x :: rest)) := by
  subst hp; exact r.on fun _ q => XS.iadd at_ hx rfl hd rfl q
theorem r_isub (at_ : At T m c below) (hx : p.tables.exec = Jvm.exec) {x y : Int32} (hd : decode c.code pc = .ok (.isub, 1))  (hp : pc + 1 = pc') (r : Run p e below Q En T (mkF m pc' Ls (.int (x - y) :: rest))) : Run p e below Q En T (mkF m pc Ls (.int y :: .int x :: rest)) := by
  subst hp; exact r.on fun _ q => XS.isub at_ hx rfl hd rfl q
theorem r_imul (at_ : At T m c below) (hx : p.tables.exec = Jvm.exec) {x y : Int32} (hd : decode c.code pc = .ok (.imul, 1))  (hp : pc + 1 = pc') (r : Run p e below Q En T (mkF m pc' Ls (.int (x * y) :: rest))) : Run p e below Q En T (mkF m pc Ls (.int y :: .int x :: rest)) := by
  subst hp; exact r.on fun _ q => XS.imul at_ hx rfl hd rfl q
theorem r_iand (at_ : At T m c below) (hx : p.tables.exec = Jvm.exec) {x y : Int32} (hd : decode c.code pc = .ok (.iand, 1))  (hp : pc + 1 = pc') (r : Run p e below Q En T (mkF m pc' Ls (.int (x &&& y) :: rest))) : Run p e below Q En T (mkF m pc Ls (.int y :: .int x :: rest)) := by
  subst hp; exact r.on fun _ q => XS.iand at_ hx rfl hd rfl q
theorem r_ior (at_ : At T m c below) (hx : p.tables.exec = Jvm.exec) {x y : Int32} (hd : decode c.code pc = .ok (.ior, 1))  (hp : pc + 1 = pc') (r : Run p e below Q En T (mkF m pc' Ls (.int (x ||| y) :: rest))) : Run p e below Q En T (mkF m pc Ls (.int y :: .int x :: rest)) := by
  subst hp; exact r.on fun _ q => XS.ior at_ hx rfl hd rfl q
theorem r_ixor (at_ : At T m c below) (hx : p.tables.exec = Jvm.exec) {x y : Int32} (hd : decode c.code pc = .ok (.ixor, 1))  (hp : pc + 1 = pc') (r : Run p e below Q En T (mkF m pc' Ls (.int (x ^^^ y) :: rest))) : Run p e below Q En T (mkF m pc Ls (.int y :: .int x :: rest)) := by
  subst hp; exact r.on fun _ q => XS.ixor at_ hx rfl hd rfl q
theorem r_ladd (at_ : At T m c below) (hx : p.tables.exec = Jvm.exec) {x y : Int64} (hd : decode c.code pc = .ok (.ladd, 1))  (hp : pc + 1 = pc') (r : Run p e below Q En T (mkF m pc' Ls (.long (x + y) :: rest))) : Run p e below Q En T (mkF m pc Ls (.long y :: .long x :: rest)) := by
  subst hp; exact r.on fun _ q => XS.ladd at_ hx rfl hd rfl q
theorem r_lsub (at_ : At T m c below) (hx : p.tables.exec = Jvm.exec) {x y : Int64} (hd : decode c.code pc = .ok (.lsub, 1))  (hp : pc + 1 = pc') (r : Run p e below Q En T (mkF m pc' Ls (.long (x - y) :: rest))) : Run p e below Q En T (mkF m pc Ls (.long y :: .long x :: rest)) := by
  subst hp; exact r.on fun _ q => XS.lsub at_ hx rfl hd rfl q
theorem r_lmul (at_ : At T m c below) (hx : p.tables.exec = Jvm.exec) {x y : Int64} (hd : decode c.code pc = .ok (.lmul, 1))  (hp : pc + 1 = pc') (r : Run p e below Q En T (mkF m pc' Ls (.long (x * y) :: rest))) : Run p e below Q En T (mkF m pc Ls (.long y :: .long x :: rest)) := by
  subst hp; exact r.on fun _ q => XS.lmul at_ hx rfl hd rfl q
theorem r_land (at_ : At T m c below) (hx : p.tables.exec = Jvm.exec) {x y : Int64} (hd : decode c.code pc = .ok (.land, 1))  (hp : pc + 1 = pc') (r : Run p e below Q En T (mkF m pc' Ls (.long (x &&& y) :: rest))) : Run p e below Q En T (mkF m pc Ls (.long y :: .long x :: rest)) := by
  subst hp; exact r.on fun _ q => XS.land at_ hx rfl hd rfl q
theorem r_lor (at_ : At T m c below) (hx : p.tables.exec = Jvm.exec) {x y : Int64} (hd : decode c.code pc = .ok (.lor, 1))  (hp : pc + 1 = pc') (r : Run p e below Q En T (mkF m pc' Ls (.long (x ||| y) :: rest))) : Run p e below Q En T (mkF m pc Ls (.long y :: .long x :: rest)) := by
  subst hp; exact r.on fun _ q => XS.lor at_ hx rfl hd rfl q
theorem r_lxor (at_ : At T m c below) (hx : p.tables.exec = Jvm.exec) {x y : Int64} (hd : decode c.code pc = .ok (.lxor, 1))  (hp : pc + 1 = pc') (r : Run p e below Q En T (mkF m pc' Ls (.long (x ^^^ y) :: rest))) : Run p e below Q En T (mkF m pc Ls (.long y :: .long x :: rest)) := by
  subst hp; exact r.on fun _ q => XS.lxor at_ hx rfl hd rfl q
theorem r_ineg (at_ : At T m c below) (hx : p.tables.exec = Jvm.exec) {x : Int32} (hd : decode c.code pc = .ok (.ineg, 1))  (hp : pc + 1 = pc') (r : Run p e below Q En T (mkF m pc' Ls (.int (-x) :: rest))) : Run p e below Q En T (mkF m pc Ls (.int x :: rest)) := by
  subst hp; exact r.on fun _ q => XS.ineg at_ hx rfl hd rfl q
theorem r_lneg (at_ : At T m c below) (hx : p.tables.exec = Jvm.exec) {x : Int64} (hd : decode c.code pc = .ok (.lneg, 1))  (hp : pc + 1 = pc') (r : Run p e below Q En T (mkF m pc' Ls (.long (-x) :: rest))) : Run p e below Q En T (mkF m pc Ls (.long x :: rest)) := by
  subst hp; exact r.on fun _ q => XS.lneg at_ hx rfl hd rfl q
theorem r_ishl (at_ : At T m c below) (hx : p.tables.exec = Jvm.exec) {x y : Int32} (hd : decode c.code pc = .ok (.ishl, 1))  (hp : pc + 1 = pc') (r : Run p e below Q En T (mkF m pc' Ls (.int (x <<< (y &&& 31)) :: rest))) : Run p e below Q En T (mkF m pc Ls (.int y :: .int x :: rest)) := by
  subst hp; exact r.on fun _ q => XS.ishl at_ hx rfl hd rfl q
theorem r_ishr (at_ : At T m c below) (hx : p.tables.exec = Jvm.exec) {x y : Int32} (hd : decode c.code pc = .ok (.ishr, 1))  (hp : pc + 1 = pc') (r : Run p e below Q En T (mkF m pc' Ls (.int (x >>> (y &&& 31)) :: rest))) : Run p e below Q En T (mkF m pc Ls (.int y :: .int x :: rest)) := by
  subst hp; exact r.on fun _ q => XS.ishr at_ hx rfl hd rfl q
theorem r_iushr (at_ : At T m c below) (hx : p.tables.exec = Jvm.exec) {x y : Int32} (hd : decode c.code pc = .ok (.iushr, 1))  (hp : pc + 1 = pc') (r : Run p e below Q En T (mkF m pc' Ls (.int (ushrI x y) :: rest))) : Run p e below Q En T (mkF m pc Ls (.int y :: .int x :: rest)) := by
  subst hp; exact r.on fun _ q => XS.iushr at_ hx rfl hd rfl q
theorem r_lshl (at_ : At T m c below) (hx : p.tables.exec = Jvm.exec) {x : Int64} {y : Int32} (hd : decode c.code pc = .ok (.lshl, 1))  (hp : pc + 1 = pc') (r : Run p e below Q En T (mkF m pc' Ls (.long (x <<< (y &&& 63).toInt64) :: rest))) : Run p e below Q En T (mkF m pc Ls (.int y :: .long x :: rest)) := by
  subst hp; exact r.on fun _ q => XS.lshl at_ hx rfl hd rfl q
theorem r_lshr (at_ : At T m c below) (hx : p.tables.exec = Jvm.exec) {x : Int64} {y : Int32} (hd : decode c.code pc = .ok (.lshr, 1))  (hp : pc + 1 = pc') (r : Run p e below Q En T (mkF m pc' Ls (.long (x >>> (y &&& 63).toInt64) :: rest))) : Run p e below Q En T (mkF m pc Ls (.int y :: .long x :: rest)) := by
  subst hp; exact r.on fun _ q => XS.lshr at_ hx rfl hd rfl q
theorem r_lushr (at_ : At T m c below) (hx : p.tables.exec = Jvm.exec) {x : Int64} {y : Int32} (hd : decode c.code pc = .ok (.lushr, 1))  (hp : pc + 1 = pc') (r : Run p e below Q En T (mkF m pc' Ls (.long (ushrJ x y) :: rest))) : Run p e below Q En T (mkF m pc Ls (.int y :: .long x :: rest)) := by
  subst hp; exact r.on fun _ q => XS.lushr at_ hx rfl hd rfl q
theorem r_idiv (at_ : At T m c below) (hx : p.tables.exec = Jvm.exec) {x y : Int32} (hd : decode c.code pc = .ok (.idiv, 1)) (hy : y ≠ 0) (hp : pc + 1 = pc') (r : Run p e below Q En T (mkF m pc' Ls (.int (x / y) :: rest))) : Run p e below Q En T (mkF m pc Ls (.int y :: .int x :: rest)) := by
  subst hp; exact r.on fun _ q => XS.idiv at_ hx rfl hd rfl hy q
theorem r_irem0 (at_ : At T m c below) (hx : p.tables.exec = Jvm.exec) {x y : Int32} (hd : decode c.code pc = .ok (.irem, 1)) (hy : y ≠ 0) (hp : pc + 1 = pc') (r : Run p e below Q En T (mkF m pc' Ls (.int (x - (x / y) * y) :: rest))) : Run p e below Q En T (mkF m pc Ls (.int y :: .int x :: rest)) := by
  subst hp; exact r.on fun _ q => XS.irem at_ hx rfl hd rfl hy q
theorem r_ldiv (at_ : At T m c below) (hx : p.tables.exec = Jvm.exec) {x y : Int64} (hd : decode c.code pc = .ok (.ldiv, 1)) (hy : y ≠ 0) (hp : pc + 1 = pc') (r : Run p e below Q En T (mkF m pc' Ls (.long (x / y) :: rest))) : Run p e below Q En T (mkF m pc Ls (.long y :: .long x :: rest)) := by
  subst hp; exact r.on fun _ q => XS.ldiv at_ hx rfl hd rfl hy q
theorem r_lrem0 (at_ : At T m c below) (hx : p.tables.exec = Jvm.exec) {x y : Int64} (hd : decode c.code pc = .ok (.lrem, 1)) (hy : y ≠ 0) (hp : pc + 1 = pc') (r : Run p e below Q En T (mkF m pc' Ls (.long (x - (x / y) * y) :: rest))) : Run p e below Q En T (mkF m pc Ls (.long y :: .long x :: rest)) := by
  subst hp; exact r.on fun _ q => XS.lrem at_ hx rfl hd rfl hy q
theorem r_irem (at_ : At T m c below) (hx : p.tables.exec = Jvm.exec) {x y : Int32} (hd : decode c.code pc = .ok (.irem, 1)) (hy : y ≠ 0) (hp : pc + 1 = pc') (r : Run p e below Q En T (mkF m pc' Ls (.int (x % y) :: rest))) : Run p e below Q En T (mkF m pc Ls (.int y :: .int x :: rest)) :=
  r_irem0 at_ hx hd hy hp (by rw [show x - x / y * y = x % y from irem_eq_mod x y]; exact r)
theorem r_i2l (at_ : At T m c below) (hx : p.tables.exec = Jvm.exec) {x : Int32} (hd : decode c.code pc = .ok (.i2l, 1))  (hp : pc + 1 = pc') (r : Run p e below Q En T (mkF m pc' Ls (.long (x.toInt64) :: rest))) : Run p e below Q En T (mkF m pc Ls (.int x :: rest)) := by
  subst hp; exact r.on fun _ q => XS.i2l at_ hx rfl hd rfl q
theorem r_l2i (at_ : At T m c below) (hx : p.tables.exec = Jvm.exec) {x : Int64} (hd : decode c.code pc = .ok (.l2i, 1))  (hp : pc + 1 = pc') (r : Run p e below Q En T (mkF m pc' Ls (.int (x.toInt32) :: rest))) : Run p e below Q En T (mkF m pc Ls (.long x :: rest)) := by
  subst hp; exact r.on fun _ q => XS.l2i at_ hx rfl hd rfl q
theorem r_i2b (at_ : At T m c below) (hx : p.tables.exec = Jvm.exec) {x : Int32} (hd : decode c.code pc = .ok (.i2b, 1))  (hp : pc + 1 = pc') (r : Run p e below Q En T (mkF m pc' Ls (.int (x.toInt8.toInt32) :: rest))) : Run p e below Q En T (mkF m pc Ls (.int x :: rest)) := by
  subst hp; exact r.on fun _ q => XS.i2b at_ hx rfl hd rfl q
theorem r_i2c (at_ : At T m c below) (hx : p.tables.exec = Jvm.exec) {x : Int32} (hd : decode c.code pc = .ok (.i2c, 1))  (hp : pc + 1 = pc') (r : Run p e below Q En T (mkF m pc' Ls (.int (x.toUInt32.toUInt16.toUInt32.toInt32) :: rest))) : Run p e below Q En T (mkF m pc Ls (.int x :: rest)) := by
  subst hp; exact r.on fun _ q => XS.i2c at_ hx rfl hd rfl q
theorem r_i2s (at_ : At T m c below) (hx : p.tables.exec = Jvm.exec) {x : Int32} (hd : decode c.code pc = .ok (.i2s, 1))  (hp : pc + 1 = pc') (r : Run p e below Q En T (mkF m pc' Ls (.int (x.toInt16.toInt32) :: rest))) : Run p e below Q En T (mkF m pc Ls (.int x :: rest)) := by
  subst hp; exact r.on fun _ q => XS.i2s at_ hx rfl hd rfl q
theorem r_dup (at_ : At T m c below) (hx : p.tables.exec = Jvm.exec) {x : Value} (hd : decode c.code pc = .ok (.dup, 1)) (hc : x.category = 1) (hp : pc + 1 = pc') (r : Run p e below Q En T (mkF m pc' Ls (x :: x :: rest))) : Run p e below Q En T (mkF m pc Ls (x :: rest)) := by
  subst hp; exact r.on fun _ q => XS.dup at_ hx rfl hd rfl hc q
theorem r_pop (at_ : At T m c below) (hx : p.tables.exec = Jvm.exec) {x : Value} (hd : decode c.code pc = .ok (.pop, 1)) (hc : x.category = 1) (hp : pc + 1 = pc') (r : Run p e below Q En T (mkF m pc' Ls (rest))) : Run p e below Q En T (mkF m pc Ls (x :: rest)) := by
  subst hp; exact r.on fun _ q => XS.pop at_ hx rfl hd rfl hc q
theorem r_dup_x1 (at_ : At T m c below) (hx : p.tables.exec = Jvm.exec) {x y : Value} (hd : decode c.code pc = .ok (.dup_x1, 1)) (hc : x.category = 1) (hc' : y.category = 1) (hp : pc + 1 = pc') (r : Run p e below Q En T (mkF m pc' Ls (x :: y :: x :: rest))) : Run p e below Q En T (mkF m pc Ls (x :: y :: rest)) := by
  subst hp; exact r.on fun _ q => XS.dupX1 at_ hx rfl hd rfl hc hc' q
theorem r_dup2 (at_ : At T m c below) (hx : p.tables.exec = Jvm.exec) {x y : Value} (hd : decode c.code pc = .ok (.dup2, 1)) (hc : x.category = 1) (hc' : y.category = 1) (hp : pc + 1 = pc') (r : Run p e below Q En T (mkF m pc' Ls (x :: y :: x :: y :: rest))) : Run p e below Q En T (mkF m pc Ls (x :: y :: rest)) := by
  subst hp; exact r.on fun _ q => XT.dup2 at_ hx rfl hd rfl hc hc' q
theorem r_dup2L (at_ : At T m c below) (hx : p.tables.exec = Jvm.exec) {x : Int64} (hd : decode c.code pc = .ok (.dup2, 1))  (hp : pc + 1 = pc') (r : Run p e below Q En T (mkF m pc' Ls (.long x :: .long x :: rest))) : Run p e below Q En T (mkF m pc Ls (.long x :: rest)) := by
  subst hp; exact r.on fun _ q => XT.dup2L at_ hx rfl hd rfl q
theorem r_lcmp (at_ : At T m c below) (hx : p.tables.exec = Jvm.exec) {x y : Int64} (hd : decode c.code pc = .ok (.lcmp, 1))  (hp : pc + 1 = pc') (r : Run p e below Q En T (mkF m pc' Ls (.int (cmpJ x y) :: rest))) : Run p e below Q En T (mkF m pc Ls (.long y :: .long x :: rest)) := by
  subst hp; exact r.on fun _ q => XS.lcmp at_ hx rfl hd rfl q
theorem r_iinc (at_ : At T m c below) (hx : p.tables.exec = Jvm.exec) {k : Nat} {cst : Int} {x z : Int32} {l' : Array Slot} (hd : decode c.code pc = .ok (.iinc k cst, 3)) (hl : Ls[k]? = some (.val (.int x))) (hz : x + Int32.ofInt cst = z) (hl' : storeLocals Ls k (.int z) = some l') (hp : pc + 3 = pc') (r : Run p e below Q En T (mkF m pc' l' rest)) : Run p e below Q En T (mkF m pc Ls rest) := by
  subst hp hz; exact r.on fun _ q => XS.iinc at_ hx rfl hd hl hl' q
theorem r_goto (at_ : At T m c below) (hx : p.tables.exec = Jvm.exec) {o : Int} (hd : decode c.code pc = .ok (.goto o, 3)) (ho : 0 ≤ (pc : Int) + o) (hp : ((pc : Int) + o).toNat = pc') (r : Run p e below Q En T (mkF m pc' Ls rest)) : Run p e below Q En T (mkF m pc Ls rest) :=
  r.on fun _ q => XS.goto at_ hx rfl (pc0 := pc) rfl hd ho hp q
theorem cmpJ_c (x y : Int64) : (y.toInt < x.toInt ∧ cmpJ x y = 1) ∨ (x = y ∧ cmpJ x y = 0) ∨ (x.toInt < y.toInt ∧ cmpJ x y = -1) := by
  unfold cmpJ
  by_cases h1 : x > y
  · left; rw [if_pos h1]; exact ⟨Int64.lt_iff_toInt_lt.mp h1, rfl⟩
  · rw [if_neg h1]
    by_cases h2 : x = y
    · right; left; rw [if_pos h2]; exact ⟨h2, rfl⟩
    · right; right; rw [if_neg h2]
      have h3 : ¬ y.toInt < x.toInt := fun q => h1 (Int64.lt_iff_toInt_lt.mpr q)
      have h4 : ¬ x.toInt = y.toInt := fun q => h2 (Int64.toInt_inj.mp q)
      exact ⟨by omega, rfl⟩
theorem h_eq (x y : Int32) : if_icmp.holds .eq x y = decide (x = y) := by by_cases q : x = y <;> simp [if_icmp.holds, q]
theorem h0_eq (x : Int32) : ifCond.holds .eq x = decide (x = (0 : Int32)) := h_eq x 0
theorem r_if_eq (at_ : At T m c below) (hx : p.tables.exec = Jvm.exec) {o : Int} {x y : Int32} {pc2 : Nat} (hd : decode c.code pc = .ok (.if_icmp .eq o, 3)) (ho : 0 ≤ (pc : Int) + o) (hp : ((pc : Int) + o).toNat = pc') (hp2 : pc + 3 = pc2) (r1 : x = y → Run p e below Q En T (mkF m pc' Ls rest)) (r2 : ¬ (x = y) → Run p e below Q En T (mkF m pc2 Ls rest)) : Run p e below Q En T (mkF m pc Ls (.int y :: .int x :: rest)) := by
  subst hp2
  by_cases hc : x = y
  · exact (r1 hc).on fun _ q => XS.icmpYes at_ hx rfl (pc0 := pc) rfl hd rfl (by rw [h_eq]; exact decide_eq_true hc) ho hp q
  · exact (r2 hc).on fun _ q => XS.icmpNo at_ hx rfl hd rfl (by rw [h_eq]; exact decide_eq_false hc) q
theorem r_if0_eq (at_ : At T m c below) (hx : p.tables.exec = Jvm.exec) {o : Int} {x : Int32} {pc2 : Nat} (hd : decode c.code pc = .ok (.ifCond .eq o, 3)) (ho : 0 ≤ (pc : Int) + o) (hp : ((pc : Int) + o).toNat = pc') (hp2 : pc + 3 = pc2) (r1 : x = (0 : Int32) → Run p e below Q En T (mkF m pc' Ls rest)) (r2 : ¬ (x = (0 : Int32)) → Run p e below Q En T (mkF m pc2 Ls rest)) : Run p e below Q En T (mkF m pc Ls (.int x :: rest)) := by
  subst hp2
  by_cases hc : x = (0 : Int32)
  · exact (r1 hc).on fun _ q => XS.ifYes at_ hx rfl (pc0 := pc) rfl hd rfl (by rw [h0_eq]; exact decide_eq_true hc) ho hp q
  · exact (r2 hc).on fun _ q => XS.ifNo at_ hx rfl hd rfl (by rw [h0_eq]; exact decide_eq_false hc) q
theorem hL_eq (x y : Int64) : ifCond.holds .eq (cmpJ x y) = decide (x = y) := by
  rw [h0_eq]; apply decide_eq_decide.mpr
  rcases cmpJ_c x y with ⟨q, e⟩ | ⟨q, e⟩ | ⟨q, e⟩ <;> rw [e]
  · have ne : ¬ x = y := fun z => by rw [z] at q; omega
    simp [ne]
  · subst q; simp
  · have ne : ¬ x = y := fun z => by rw [z] at q; omega
    simp [ne]
theorem r_ifL_eq (at_ : At T m c below) (hx : p.tables.exec = Jvm.exec) {o : Int} {x y : Int64} {pc2 : Nat} (hd : decode c.code pc = .ok (.ifCond .eq o, 3)) (ho : 0 ≤ (pc : Int) + o) (hp : ((pc : Int) + o).toNat = pc') (hp2 : pc + 3 = pc2) (r1 : x = y → Run p e below Q En T (mkF m pc' Ls rest)) (r2 : ¬ (x = y) → Run p e below Q En T (mkF m pc2 Ls rest)) : Run p e below Q En T (mkF m pc Ls (.int (cmpJ x y) :: rest)) := by
  subst hp2
  by_cases hc : x = y
  · exact (r1 hc).on fun _ q => XS.ifYes at_ hx rfl (pc0 := pc) rfl hd rfl (by rw [hL_eq]; exact decide_eq_true hc) ho hp q
  · exact (r2 hc).on fun _ q => XS.ifNo at_ hx rfl hd rfl (by rw [hL_eq]; exact decide_eq_false hc) q
theorem h_ne (x y : Int32) : if_icmp.holds .ne x y = decide (¬ x = y) := by by_cases q : x = y <;> simp [if_icmp.holds, q]
theorem h0_ne (x : Int32) : ifCond.holds .ne x = decide (¬ x = (0 : Int32)) := h_ne x 0
theorem r_if_ne (at_ : At T m c below) (hx : p.tables.exec = Jvm.exec) {o : Int} {x y : Int32} {pc2 : Nat} (hd : decode c.code pc = .ok (.if_icmp .ne o, 3)) (ho : 0 ≤ (pc : Int) + o) (hp : ((pc : Int) + o).toNat = pc') (hp2 : pc + 3 = pc2) (r1 : ¬ x = y → Run p e below Q En T (mkF m pc' Ls rest)) (r2 : ¬ (¬ x = y) → Run p e below Q En T (mkF m pc2 Ls rest)) : Run p e below Q En T (mkF m pc Ls (.int y :: .int x :: rest)) := by
  subst hp2
  by_cases hc : ¬ x = y
  · exact (r1 hc).on fun _ q => XS.icmpYes at_ hx rfl (pc0 := pc) rfl hd rfl (by rw [h_ne]; exact decide_eq_true hc) ho hp q
  · exact (r2 hc).on fun _ q => XS.icmpNo at_ hx rfl hd rfl (by rw [h_ne]; exact decide_eq_false hc) q
theorem r_if0_ne (at_ : At T m c below) (hx : p.tables.exec = Jvm.exec) {o : Int} {x : Int32} {pc2 : Nat} (hd : decode c.code pc = .ok (.ifCond .ne o, 3)) (ho : 0 ≤ (pc : Int) + o) (hp : ((pc : Int) + o).toNat = pc') (hp2 : pc + 3 = pc2) (r1 : ¬ x = (0 : Int32) → Run p e below Q En T (mkF m pc' Ls rest)) (r2 : ¬ (¬ x = (0 : Int32)) → Run p e below Q En T (mkF m pc2 Ls rest)) : Run p e below Q En T (mkF m pc Ls (.int x :: rest)) := by
  subst hp2
  by_cases hc : ¬ x = (0 : Int32)
  · exact (r1 hc).on fun _ q => XS.ifYes at_ hx rfl (pc0 := pc) rfl hd rfl (by rw [h0_ne]; exact decide_eq_true hc) ho hp q
  · exact (r2 hc).on fun _ q => XS.ifNo at_ hx rfl hd rfl (by rw [h0_ne]; exact decide_eq_false hc) q
theorem hL_ne (x y : Int64) : ifCond.holds .ne (cmpJ x y) = decide (¬ x = y) := by
  rw [h0_ne]; apply decide_eq_decide.mpr
  rcases cmpJ_c x y with ⟨q, e⟩ | ⟨q, e⟩ | ⟨q, e⟩ <;> rw [e]
  · have ne : ¬ x = y := fun z => by rw [z] at q; omega
    simp [ne]
  · subst q; simp
  · have ne : ¬ x = y := fun z => by rw [z] at q; omega
    simp [ne]
theorem r_ifL_ne (at_ : At T m c below) (hx : p.tables.exec = Jvm.exec) {o : Int} {x y : Int64} {pc2 : Nat} (hd : decode c.code pc = .ok (.ifCond .ne o, 3)) (ho : 0 ≤ (pc : Int) + o) (hp : ((pc : Int) + o).toNat = pc') (hp2 : pc + 3 = pc2) (r1 : ¬ x = y → Run p e below Q En T (mkF m pc' Ls rest)) (r2 : ¬ (¬ x = y) → Run p e below Q En T (mkF m pc2 Ls rest)) : Run p e below Q En T (mkF m pc Ls (.int (cmpJ x y) :: rest)) := by
  subst hp2
  by_cases hc : ¬ x = y
  · exact (r1 hc).on fun _ q => XS.ifYes at_ hx rfl (pc0 := pc) rfl hd rfl (by rw [hL_ne]; exact decide_eq_true hc) ho hp q
  · exact (r2 hc).on fun _ q => XS.ifNo at_ hx rfl hd rfl (by rw [hL_ne]; exact decide_eq_false hc) q
theorem h_lt (x y : Int32) : if_icmp.holds .lt x y = decide (x.toInt < y.toInt) := by simp [if_icmp.holds, Int32.lt_iff_toInt_lt]
theorem h0_lt (x : Int32) : ifCond.holds .lt x = decide (x.toInt < (0 : Int32).toInt) := h_lt x 0
theorem r_if_lt (at_ : At T m c below) (hx : p.tables.exec = Jvm.exec) {o : Int} {x y : Int32} {pc2 : Nat} (hd : decode c.code pc = .ok (.if_icmp .lt o, 3)) (ho : 0 ≤ (pc : Int) + o) (hp : ((pc : Int) + o).toNat = pc') (hp2 : pc + 3 = pc2) (r1 : x.toInt < y.toInt → Run p e below Q En T (mkF m pc' Ls rest)) (r2 : ¬ (x.toInt < y.toInt) → Run p e below Q En T (mkF m pc2 Ls rest)) : Run p e below Q En T (mkF m pc Ls (.int y :: .int x :: rest)) := by
  subst hp2
  by_cases hc : x.toInt < y.toInt
  · exact (r1 hc).on fun _ q => XS.icmpYes at_ hx rfl (pc0 := pc) rfl hd rfl (by rw [h_lt]; exact decide_eq_true hc) ho hp q
  · exact (r2 hc).on fun _ q => XS.icmpNo at_ hx rfl hd rfl (by rw [h_lt]; exact decide_eq_false hc) q
theorem r_if0_lt (at_ : At T m c below) (hx : p.tables.exec = Jvm.exec) {o : Int} {x : Int32} {pc2 : Nat} (hd : decode c.code pc = .ok (.ifCond .lt o, 3)) (ho : 0 ≤ (pc : Int) + o) (hp : ((pc : Int) + o).toNat = pc') (hp2 : pc + 3 = pc2) (r1 : x.toInt < 0 → Run p e below Q En T (mkF m pc' Ls rest)) (r2 : ¬ (x.toInt < 0) → Run p e below Q En T (mkF m pc2 Ls rest)) : Run p e below Q En T (mkF m pc Ls (.int x :: rest)) := by
  subst hp2
  by_cases hc : x.toInt < 0
  · exact (r1 hc).on fun _ q => XS.ifYes at_ hx rfl (pc0 := pc) rfl hd rfl (by rw [h0_lt]; exact decide_eq_true (by rw [show (0 : Int32).toInt = 0 from rfl]; exact hc)) ho hp q
  · exact (r2 hc).on fun _ q => XS.ifNo at_ hx rfl hd rfl (by rw [h0_lt]; exact decide_eq_false (by rw [show (0 : Int32).toInt = 0 from rfl]; exact hc)) q
theorem hL_lt (x y : Int64) : ifCond.holds .lt (cmpJ x y) = decide (x.toInt < y.toInt) := by
  rw [h0_lt]; apply decide_eq_decide.mpr
  rcases cmpJ_c x y with ⟨q, e⟩ | ⟨q, e⟩ | ⟨q, e⟩ <;> rw [e]
  · have ne : ¬ x = y := fun z => by rw [z] at q; omega
    show ((1 : Int) < 0) ↔ _; omega
  · subst q; show ((0 : Int) < 0) ↔ _; omega
  · have ne : ¬ x = y := fun z => by rw [z] at q; omega
    show ((-1 : Int) < 0) ↔ _; omega
theorem r_ifL_lt (at_ : At T m c below) (hx : p.tables.exec = Jvm.exec) {o : Int} {x y : Int64} {pc2 : Nat} (hd : decode c.code pc = .ok (.ifCond .lt o, 3)) (ho : 0 ≤ (pc : Int) + o) (hp : ((pc : Int) + o).toNat = pc') (hp2 : pc + 3 = pc2) (r1 : x.toInt < y.toInt → Run p e below Q En T (mkF m pc' Ls rest)) (r2 : ¬ (x.toInt < y.toInt) → Run p e below Q En T (mkF m pc2 Ls rest)) : Run p e below Q En T (mkF m pc Ls (.int (cmpJ x y) :: rest)) := by
  subst hp2
  by_cases hc : x.toInt < y.toInt
  · exact (r1 hc).on fun _ q => XS.ifYes at_ hx rfl (pc0 := pc) rfl hd rfl (by rw [hL_lt]; exact decide_eq_true hc) ho hp q
  · exact (r2 hc).on fun _ q => XS.ifNo at_ hx rfl hd rfl (by rw [hL_lt]; exact decide_eq_false hc) q
theorem h_ge (x y : Int32) : if_icmp.holds .ge x y = decide (y.toInt ≤ x.toInt) := by simp [if_icmp.holds, Int32.le_iff_toInt_le]
theorem h0_ge (x : Int32) : ifCond.holds .ge x = decide ((0 : Int32).toInt ≤ x.toInt) := h_ge x 0
theorem r_if_ge (at_ : At T m c below) (hx : p.tables.exec = Jvm.exec) {o : Int} {x y : Int32} {pc2 : Nat} (hd : decode c.code pc = .ok (.if_icmp .ge o, 3)) (ho : 0 ≤ (pc : Int) + o) (hp : ((pc : Int) + o).toNat = pc') (hp2 : pc + 3 = pc2) (r1 : y.toInt ≤ x.toInt → Run p e below Q En T (mkF m pc' Ls rest)) (r2 : ¬ (y.toInt ≤ x.toInt) → Run p e below Q En T (mkF m pc2 Ls rest)) : Run p e below Q En T (mkF m pc Ls (.int y :: .int x :: rest)) := by
  subst hp2
  by_cases hc : y.toInt ≤ x.toInt
  · exact (r1 hc).on fun _ q => XS.icmpYes at_ hx rfl (pc0 := pc) rfl hd rfl (by rw [h_ge]; exact decide_eq_true hc) ho hp q
  · exact (r2 hc).on fun _ q => XS.icmpNo at_ hx rfl hd rfl (by rw [h_ge]; exact decide_eq_false hc) q
theorem r_if0_ge (at_ : At T m c below) (hx : p.tables.exec = Jvm.exec) {o : Int} {x : Int32} {pc2 : Nat} (hd : decode c.code pc = .ok (.ifCond .ge o, 3)) (ho : 0 ≤ (pc : Int) + o) (hp : ((pc : Int) + o).toNat = pc') (hp2 : pc + 3 = pc2) (r1 : 0 ≤ x.toInt → Run p e below Q En T (mkF m pc' Ls rest)) (r2 : ¬ (0 ≤ x.toInt) → Run p e below Q En T (mkF m pc2 Ls rest)) : Run p e below Q En T (mkF m pc Ls (.int x :: rest)) := by
  subst hp2
  by_cases hc : 0 ≤ x.toInt
  · exact (r1 hc).on fun _ q => XS.ifYes at_ hx rfl (pc0 := pc) rfl hd rfl (by rw [h0_ge]; exact decide_eq_true (by rw [show (0 : Int32).toInt = 0 from rfl]; exact hc)) ho hp q
  · exact (r2 hc).on fun _ q => XS.ifNo at_ hx rfl hd rfl (by rw [h0_ge]; exact decide_eq_false (by rw [show (0 : Int32).toInt = 0 from rfl]; exact hc)) q
theorem hL_ge (x y : Int64) : ifCond.holds .ge (cmpJ x y) = decide (y.toInt ≤ x.toInt) := by
  rw [h0_ge]; apply decide_eq_decide.mpr
  rcases cmpJ_c x y with ⟨q, e⟩ | ⟨q, e⟩ | ⟨q, e⟩ <;> rw [e]
  · have ne : ¬ x = y := fun z => by rw [z] at q; omega
    show ((0 : Int) ≤ 1) ↔ _; omega
  · subst q; show ((0 : Int) ≤ 0) ↔ _; omega
  · have ne : ¬ x = y := fun z => by rw [z] at q; omega
    show ((0 : Int) ≤ -1) ↔ _; omega
theorem r_ifL_ge (at_ : At T m c below) (hx : p.tables.exec = Jvm.exec) {o : Int} {x y : Int64} {pc2 : Nat} (hd : decode c.code pc = .ok (.ifCond .ge o, 3)) (ho : 0 ≤ (pc : Int) + o) (hp : ((pc : Int) + o).toNat = pc') (hp2 : pc + 3 = pc2) (r1 : y.toInt ≤ x.toInt → Run p e below Q En T (mkF m pc' Ls rest)) (r2 : ¬ (y.toInt ≤ x.toInt) → Run p e below Q En T (mkF m pc2 Ls rest)) : Run p e below Q En T (mkF m pc Ls (.int (cmpJ x y) :: rest)) := by
  subst hp2
  by_cases hc : y.toInt ≤ x.toInt
  · exact (r1 hc).on fun _ q => XS.ifYes at_ hx rfl (pc0 := pc) rfl hd rfl (by rw [hL_ge]; exact decide_eq_true hc) ho hp q
  · exact (r2 hc).on fun _ q => XS.ifNo at_ hx rfl hd rfl (by rw [hL_ge]; exact decide_eq_false hc) q
theorem h_gt (x y : Int32) : if_icmp.holds .gt x y = decide (y.toInt < x.toInt) := by simp [if_icmp.holds, Int32.lt_iff_toInt_lt]
theorem h0_gt (x : Int32) : ifCond.holds .gt x = decide ((0 : Int32).toInt < x.toInt) := h_gt x 0
theorem r_if_gt (at_ : At T m c below) (hx : p.tables.exec = Jvm.exec) {o : Int} {x y : Int32} {pc2 : Nat} (hd : decode c.code pc = .ok (.if_icmp .gt o, 3)) (ho : 0 ≤ (pc : Int) + o) (hp : ((pc : Int) + o).toNat = pc') (hp2 : pc + 3 = pc2) (r1 : y.toInt < x.toInt → Run p e below Q En T (mkF m pc' Ls rest)) (r2 : ¬ (y.toInt < x.toInt) → Run p e below Q En T (mkF m pc2 Ls rest)) : Run p e below Q En T (mkF m pc Ls (.int y :: .int x :: rest)) := by
  subst hp2
  by_cases hc : y.toInt < x.toInt
  · exact (r1 hc).on fun _ q => XS.icmpYes at_ hx rfl (pc0 := pc) rfl hd rfl (by rw [h_gt]; exact decide_eq_true hc) ho hp q
  · exact (r2 hc).on fun _ q => XS.icmpNo at_ hx rfl hd rfl (by rw [h_gt]; exact decide_eq_false hc) q
theorem r_if0_gt (at_ : At T m c below) (hx : p.tables.exec = Jvm.exec) {o : Int} {x : Int32} {pc2 : Nat} (hd : decode c.code pc = .ok (.ifCond .gt o, 3)) (ho : 0 ≤ (pc : Int) + o) (hp : ((pc : Int) + o).toNat = pc') (hp2 : pc + 3 = pc2) (r1 : 0 < x.toInt → Run p e below Q En T (mkF m pc' Ls rest)) (r2 : ¬ (0 < x.toInt) → Run p e below Q En T (mkF m pc2 Ls rest)) : Run p e below Q En T (mkF m pc Ls (.int x :: rest)) := by
  subst hp2
  by_cases hc : 0 < x.toInt
  · exact (r1 hc).on fun _ q => XS.ifYes at_ hx rfl (pc0 := pc) rfl hd rfl (by rw [h0_gt]; exact decide_eq_true (by rw [show (0 : Int32).toInt = 0 from rfl]; exact hc)) ho hp q
  · exact (r2 hc).on fun _ q => XS.ifNo at_ hx rfl hd rfl (by rw [h0_gt]; exact decide_eq_false (by rw [show (0 : Int32).toInt = 0 from rfl]; exact hc)) q
theorem hL_gt (x y : Int64) : ifCond.holds .gt (cmpJ x y) = decide (y.toInt < x.toInt) := by
  rw [h0_gt]; apply decide_eq_decide.mpr
  rcases cmpJ_c x y with ⟨q, e⟩ | ⟨q, e⟩ | ⟨q, e⟩ <;> rw [e]
  · have ne : ¬ x = y := fun z => by rw [z] at q; omega
    show ((0 : Int) < 1) ↔ _; omega
  · subst q; show ((0 : Int) < 0) ↔ _; omega
  · have ne : ¬ x = y := fun z => by rw [z] at q; omega
    show ((0 : Int) < -1) ↔ _; omega
theorem r_ifL_gt (at_ : At T m c below) (hx : p.tables.exec = Jvm.exec) {o : Int} {x y : Int64} {pc2 : Nat} (hd : decode c.code pc = .ok (.ifCond .gt o, 3)) (ho : 0 ≤ (pc : Int) + o) (hp : ((pc : Int) + o).toNat = pc') (hp2 : pc + 3 = pc2) (r1 : y.toInt < x.toInt → Run p e below Q En T (mkF m pc' Ls rest)) (r2 : ¬ (y.toInt < x.toInt) → Run p e below Q En T (mkF m pc2 Ls rest)) : Run p e below Q En T (mkF m pc Ls (.int (cmpJ x y) :: rest)) := by
  subst hp2
  by_cases hc : y.toInt < x.toInt
  · exact (r1 hc).on fun _ q => XS.ifYes at_ hx rfl (pc0 := pc) rfl hd rfl (by rw [hL_gt]; exact decide_eq_true hc) ho hp q
  · exact (r2 hc).on fun _ q => XS.ifNo at_ hx rfl hd rfl (by rw [hL_gt]; exact decide_eq_false hc) q
theorem h_le (x y : Int32) : if_icmp.holds .le x y = decide (x.toInt ≤ y.toInt) := by simp [if_icmp.holds, Int32.le_iff_toInt_le]
theorem h0_le (x : Int32) : ifCond.holds .le x = decide (x.toInt ≤ (0 : Int32).toInt) := h_le x 0
theorem r_if_le (at_ : At T m c below) (hx : p.tables.exec = Jvm.exec) {o : Int} {x y : Int32} {pc2 : Nat} (hd : decode c.code pc = .ok (.if_icmp .le o, 3)) (ho : 0 ≤ (pc : Int) + o) (hp : ((pc : Int) + o).toNat = pc') (hp2 : pc + 3 = pc2) (r1 : x.toInt ≤ y.toInt → Run p e below Q En T (mkF m pc' Ls rest)) (r2 : ¬ (x.toInt ≤ y.toInt) → Run p e below Q En T (mkF m pc2 Ls rest)) : Run p e below Q En T (mkF m pc Ls (.int y :: .int x :: rest)) := by
  subst hp2
  by_cases hc : x.toInt ≤ y.toInt
  · exact (r1 hc).on fun _ q => XS.icmpYes at_ hx rfl (pc0 := pc) rfl hd rfl (by rw [h_le]; exact decide_eq_true hc) ho hp q
  · exact (r2 hc).on fun _ q => XS.icmpNo at_ hx rfl hd rfl (by rw [h_le]; exact decide_eq_false hc) q
theorem r_if0_le (at_ : At T m c below) (hx : p.tables.exec = Jvm.exec) {o : Int} {x : Int32} {pc2 : Nat} (hd : decode c.code pc = .ok (.ifCond .le o, 3)) (ho : 0 ≤ (pc : Int) + o) (hp : ((pc : Int) + o).toNat = pc') (hp2 : pc + 3 = pc2) (r1 : x.toInt ≤ 0 → Run p e below Q En T (mkF m pc' Ls rest)) (r2 : ¬ (x.toInt ≤ 0) → Run p e below Q En T (mkF m pc2 Ls rest)) : Run p e below Q En T (mkF m pc Ls (.int x :: rest)) := by
  subst hp2
  by_cases hc : x.toInt ≤ 0
  · exact (r1 hc).on fun _ q => XS.ifYes at_ hx rfl (pc0 := pc) rfl hd rfl (by rw [h0_le]; exact decide_eq_true (by rw [show (0 : Int32).toInt = 0 from rfl]; exact hc)) ho hp q
  · exact (r2 hc).on fun _ q => XS.ifNo at_ hx rfl hd rfl (by rw [h0_le]; exact decide_eq_false (by rw [show (0 : Int32).toInt = 0 from rfl]; exact hc)) q
theorem hL_le (x y : Int64) : ifCond.holds .le (cmpJ x y) = decide (x.toInt ≤ y.toInt) := by
  rw [h0_le]; apply decide_eq_decide.mpr
  rcases cmpJ_c x y with ⟨q, e⟩ | ⟨q, e⟩ | ⟨q, e⟩ <;> rw [e]
  · have ne : ¬ x = y := fun z => by rw [z] at q; omega
    show ((1 : Int) ≤ 0) ↔ _; omega
  · subst q; show ((0 : Int) ≤ 0) ↔ _; omega
  · have ne : ¬ x = y := fun z => by rw [z] at q; omega
    show ((-1 : Int) ≤ 0) ↔ _; omega
theorem r_ifL_le (at_ : At T m c below) (hx : p.tables.exec = Jvm.exec) {o : Int} {x y : Int64} {pc2 : Nat} (hd : decode c.code pc = .ok (.ifCond .le o, 3)) (ho : 0 ≤ (pc : Int) + o) (hp : ((pc : Int) + o).toNat = pc') (hp2 : pc + 3 = pc2) (r1 : x.toInt ≤ y.toInt → Run p e below Q En T (mkF m pc' Ls rest)) (r2 : ¬ (x.toInt ≤ y.toInt) → Run p e below Q En T (mkF m pc2 Ls rest)) : Run p e below Q En T (mkF m pc Ls (.int (cmpJ x y) :: rest)) := by
  subst hp2
  by_cases hc : x.toInt ≤ y.toInt
  · exact (r1 hc).on fun _ q => XS.ifYes at_ hx rfl (pc0 := pc) rfl hd rfl (by rw [hL_le]; exact decide_eq_true hc) ho hp q
  · exact (r2 hc).on fun _ q => XS.ifNo at_ hx rfl hd rfl (by rw [hL_le]; exact decide_eq_false hc) q
theorem r_ifnullY (at_ : At T m c below) (hx : p.tables.exec = Jvm.exec) {o : Int} (hd : decode c.code pc = .ok (.ifnull o, 3)) (ho : 0 ≤ (pc : Int) + o) (hp : ((pc : Int) + o).toNat = pc') (r : Run p e below Q En T (mkF m pc' Ls rest)) : Run p e below Q En T (mkF m pc Ls (.null :: rest)) :=
  r.on fun _ q => XS.ifnullYes at_ hx rfl (pc0 := pc) rfl hd rfl ho hp q
theorem r_ifnullN (at_ : At T m c below) (hx : p.tables.exec = Jvm.exec) {o : Int} {b : Addr} (hd : decode c.code pc = .ok (.ifnull o, 3)) (hp : pc + 3 = pc') (r : Run p e below Q En T (mkF m pc' Ls rest)) : Run p e below Q En T (mkF m pc Ls (.ref b :: rest)) := by
  subst hp; exact r.on fun _ q => XS.ifnullNo at_ hx rfl hd rfl q
theorem r_ifnonnullY (at_ : At T m c below) (hx : p.tables.exec = Jvm.exec) {o : Int} {b : Addr} (hd : decode c.code pc = .ok (.ifnonnull o, 3)) (ho : 0 ≤ (pc : Int) + o) (hp : ((pc : Int) + o).toNat = pc') (r : Run p e below Q En T (mkF m pc' Ls rest)) : Run p e below Q En T (mkF m pc Ls (.ref b :: rest)) :=
  r.on fun _ q => XS.ifnonnullYes at_ hx rfl (pc0 := pc) rfl hd rfl ho hp q
theorem r_ifnonnullN (at_ : At T m c below) (hx : p.tables.exec = Jvm.exec) {o : Int} (hd : decode c.code pc = .ok (.ifnonnull o, 3)) (hp : pc + 3 = pc') (r : Run p e below Q En T (mkF m pc' Ls rest)) : Run p e below Q En T (mkF m pc Ls (.null :: rest)) := by
  subst hp; exact r.on fun _ q => XS.ifnonnullNo at_ hx rfl hd rfl q
theorem r_acmp_eq (at_ : At T m c below) (hx : p.tables.exec = Jvm.exec) {o : Int} {x y : Value} {pc2 : Nat} (hd : decode c.code pc = .ok (.if_acmp .eq o, 3)) (h1 : x.isRef = true) (h2 : y.isRef = true) (ho : 0 ≤ (pc : Int) + o) (hp : ((pc : Int) + o).toNat = pc') (hp2 : pc + 3 = pc2) (r1 : x = y → Run p e below Q En T (mkF m pc' Ls rest)) (r2 : ¬ x = y → Run p e below Q En T (mkF m pc2 Ls rest)) : Run p e below Q En T (mkF m pc Ls (y :: x :: rest)) := by
  subst hp2
  by_cases hc : x = y
  · exact (r1 hc).on fun _ q => XT.acmpYes at_ hx rfl (pc0 := pc) rfl hd rfl h1 h2 (by simp [XT.acmp, hc]) ho hp q
  · exact (r2 hc).on fun _ q => XT.acmpNo at_ hx rfl hd rfl h1 h2 (by simp [XT.acmp, hc]) q
theorem r_acmp_ne (at_ : At T m c below) (hx : p.tables.exec = Jvm.exec) {o : Int} {x y : Value} {pc2 : Nat} (hd : decode c.code pc = .ok (.if_acmp .ne o, 3)) (h1 : x.isRef = true) (h2 : y.isRef = true) (ho : 0 ≤ (pc : Int) + o) (hp : ((pc : Int) + o).toNat = pc') (hp2 : pc + 3 = pc2) (r1 : ¬ x = y → Run p e below Q En T (mkF m pc' Ls rest)) (r2 : x = y → Run p e below Q En T (mkF m pc2 Ls rest)) : Run p e below Q En T (mkF m pc Ls (y :: x :: rest)) := by
  subst hp2
  by_cases hc : x = y
  · exact (r2 hc).on fun _ q => XT.acmpNo at_ hx rfl hd rfl h1 h2 (by simp [XT.acmp, hc]) q
  · exact (r1 hc).on fun _ q => XT.acmpYes at_ hx rfl (pc0 := pc) rfl hd rfl h1 h2 (by simp [XT.acmp, hc]) ho hp q
theorem r_retN (X : Stand p l e R s m args below meth c T locs cells slots) (hx : p.tables.exec = Jvm.exec) (hlk : meth.locks = false) {t : FieldType} {z w : Int32} (hret : meth.sig.returnType = some t) (ht : t = .boolean ∨ t = .byte ∨ t = .char ∨ t = .short) (hd : decode c.code pc = .ok (.ireturn, 1)) (hn : nar t z = w) (hq : Q (some (.int w)) T.heap locs) (h1 : cells ≤ kc) (h2 : slots ≤ ks) : Run p e below Q (fun o t L => FrameEnd s o t L kc ks) T (mkF m pc Ls (.int z :: rest)) := by
  subst hn
  obtain ⟨fs, hr, hrun, hended, hW, hsame⟩ := X.leave (v := some (.int (nar t z))) (fun q => by rw [hret] at q; cases q) hlk
  exact ⟨_, _, retN X hx hret ht hd hr, hrun, hended, _, _, rfl, hq, ⟨_, rfl⟩, hW, hsame.mono h1 h2⟩
theorem r_retV (X : Stand p l e R s m args below meth c T locs cells slots) (hx : p.tables.exec = Jvm.exec) (hlk : meth.locks = false) {t : FieldType} {w : Value} {i : Instr} (hret : meth.sig.returnType = some t) (hn : narrow t w = w)
    (hi : (i = .ireturn ∧ (t = .int ∨ t = .boolean ∨ t = .byte ∨ t = .char ∨ t = .short) ∧ ∃ z, w = .int z) ∨ (i = .lreturn ∧ t = .long ∧ ∃ z, w = .long z) ∨ (i = .dreturn ∧ t = .double ∧ ∃ z, w = .double z) ∨ (i = .freturn ∧ t = .float ∧ ∃ z, w = .float z) ∨ (i = .areturn ∧ t.isReference = true ∧ w.isRef = true))
    (hd : decode c.code pc = .ok (i, 1)) (hq : Q (some w) T.heap locs) (h1 : cells ≤ kc) (h2 : slots ≤ ks) : Run p e below Q (fun o t L => FrameEnd s o t L kc ks) T (mkF m pc Ls (w :: rest)) := by
  obtain ⟨fs, hr, hrun, hended, hW, hsame⟩ := X.leave (v := some w) (fun q => by rw [hret] at q; cases q) hlk
  exact ⟨_, _, retOut X hx hret hn hi hd hr, hrun, hended, _, _, rfl, hq, ⟨_, rfl⟩, hW, hsame.mono h1 h2⟩
theorem r_retI (X : Stand p l e R s m args below meth c T locs cells slots) (hx : p.tables.exec = Jvm.exec) (hlk : meth.locks = false) {w : Int32} (hret : meth.sig.returnType = some .int) (hd : decode c.code pc = .ok (.ireturn, 1)) (hq : Q (some (.int w)) T.heap locs) (h1 : cells ≤ kc) (h2 : slots ≤ ks) : Run p e below Q (fun o t L => FrameEnd s o t L kc ks) T (mkF m pc Ls (.int w :: rest)) :=
  r_retV X hx hlk hret rfl (Or.inl ⟨rfl, Or.inl rfl, _, rfl⟩) hd hq h1 h2
theorem r_retJ (X : Stand p l e R s m args below meth c T locs cells slots) (hx : p.tables.exec = Jvm.exec) (hlk : meth.locks = false) {w : Int64} (hret : meth.sig.returnType = some .long) (hd : decode c.code pc = .ok (.lreturn, 1)) (hq : Q (some (.long w)) T.heap locs) (h1 : cells ≤ kc) (h2 : slots ≤ ks) : Run p e below Q (fun o t L => FrameEnd s o t L kc ks) T (mkF m pc Ls (.long w :: rest)) :=
  r_retV X hx hlk hret rfl (Or.inr (Or.inl ⟨rfl, rfl, _, rfl⟩)) hd hq h1 h2
theorem r_retD (X : Stand p l e R s m args below meth c T locs cells slots) (hx : p.tables.exec = Jvm.exec) (hlk : meth.locks = false) {w : UInt64} (hret : meth.sig.returnType = some .double) (hd : decode c.code pc = .ok (.dreturn, 1)) (hq : Q (some (.double w)) T.heap locs) (h1 : cells ≤ kc) (h2 : slots ≤ ks) : Run p e below Q (fun o t L => FrameEnd s o t L kc ks) T (mkF m pc Ls (.double w :: rest)) :=
  r_retV X hx hlk hret rfl (Or.inr (Or.inr (Or.inl ⟨rfl, rfl, _, rfl⟩))) hd hq h1 h2
theorem r_retA (X : Stand p l e R s m args below meth c T locs cells slots) (hx : p.tables.exec = Jvm.exec) (hlk : meth.locks = false) {t : FieldType} {w : Value} (hret : meth.sig.returnType = some t) (ht : t.isReference = true) (hw : w.isRef = true) (hd : decode c.code pc = .ok (.areturn, 1)) (hq : Q (some w) T.heap locs) (h1 : cells ≤ kc) (h2 : slots ≤ ks) : Run p e below Q (fun o t L => FrameEnd s o t L kc ks) T (mkF m pc Ls (w :: rest)) :=
  r_retV X hx hlk hret (by rcases ref_cases hw with rfl | ⟨a, rfl⟩ <;> cases t <;> first | rfl | cases ht) (Or.inr (Or.inr (Or.inr (Or.inr ⟨rfl, ht, hw⟩)))) hd hq h1 h2
theorem r_ret0 (X : Stand p l e R s m args below meth c T locs cells slots) (hx : p.tables.exec = Jvm.exec) (hlk : meth.locks = false) (hret : meth.sig.returnType = none) (hd : decode c.code pc = .ok (.return_, 1)) (hq : Q none T.heap locs) (h1 : cells ≤ kc) (h2 : slots ≤ ks) : Run p e below Q (fun o t L => FrameEnd s o t L kc ks) T (mkF m pc Ls []) := by
  obtain ⟨fs, hr, hrun, hended, hW, hsame⟩ := X.leave (v := none) (fun _ => rfl) hlk
  exact ⟨_, _, X.returnOut hx hret hd hr, hrun, hended, _, _, rfl, hq, ⟨_, rfl⟩, hW, hsame.mono h1 h2⟩
theorem r_ldc (X : Stand p l e R s m args below meth c T locs cells slots) (hx : p.tables.exec = Jvm.exec) (hZ : Z.Warmed39 s.vm) {own : String} {index : Nat} {v : Int32} (hown : s.vm.findClass own = some m.cls) (w : (Jvm.Cond.constant own index v).before a0 Z = true) (hd : decode c.code pc = .ok (.ldc index, 2)) (hp : pc + 2 = pc') (r : Run p e below Q En T (mkF m pc' Ls (.int v :: rest))) : Run p e below Q En T (mkF m pc Ls rest) := by
  subst hp; exact r.on fun _ q => X.ldcInt hx hown (mvT hZ w) (g := mkF m pc Ls rest) rfl hd _ q
theorem r_ldc2 (X : Stand p l e R s m args below meth c T locs cells slots) (hx : p.tables.exec = Jvm.exec) (hZ : Z.Warmed39 s.vm) {own : String} {index : Nat} {v : Int64} (hown : s.vm.findClass own = some m.cls) (w : (Jvm.Cond.constantLong own index v).before a0 Z = true) (hd : decode c.code pc = .ok (.ldc2_w index, 3)) (hp : pc + 3 = pc') (r : Run p e below Q En T (mkF m pc' Ls (.long v :: rest))) : Run p e below Q En T (mkF m pc Ls rest) := by
  subst hp; exact r.on fun _ q => X.ldc2Long hx hown (mvT hZ w) (g := mkF m pc Ls rest) rfl hd _ q
theorem r_callS (X : Stand p l e R s m args below meth c T locs cells slots) (hx : p.tables.exec = Jvm.exec) (hZ : Z.Warmed39 s.vm) {own : String} {index : Nat} {y : MethodName} {bytes : ByteArray} {maxL : Nat} {ret : Option FieldType} {rm : Room} {as' : Array Value} {Qc : Option Value → Heap → List Loc → Prop} {argsL : List Value} {W : Nat}
    (hown : s.vm.findClass own = some m.cls) (w1 : (Jvm.Cond.methodLink own index y).before a0 Z = true) (w2 : (Jvm.Cond.static y).before a0 Z = true) (w3 : (Jvm.Cond.initialized y.cls).before a0 Z = true) (w4 : (Jvm.Cond.code y bytes maxL ret).before a0 Z = true) (hy : y.cls ≠ "java/lang/invoke/MethodHandle" ∧ y.cls ≠ "java/lang/invoke/VarHandle")
    (hM : Met l Z y bytes maxL ret [] rm as' h Qc rm.cells rm.slots) (eT : T.heap = h) (hsz : Ls.size = c.maxLocals) (hlen : ∀ sig, parseMethodDescriptor y.desc = some sig → argsL.length = sig.parameters.length) (hst : st = argsL.reverse ++ rest) (has : argsL.toArray = as') (hW : (rest.map fun v => v.category).sum = W)
    (hf : rm.frames + 1 ≤ R.frames) (hl : W + (maxL + 11) + rm.locals ≤ R.locals) (hcl : cells + rm.cells ≤ R.cells) (hsl : slots + rm.slots ≤ R.slots) (hd : decode c.code pc = .ok (.invokestatic index, 3)) (hp : pc + 3 = pc')
    (r : ∀ (v : Option Value) (T' : State) (L : List Loc), Stand p l e R s m args below meth c T' (locs ++ L) (cells + rm.cells) (slots + rm.slots) → Qc v T'.heap L → Run p e below Q En T' (mkF m pc' Ls (v.toList ++ rest))) : Run p e below Q En T (mkF m pc Ls st) := by
  subst hp
  obtain ⟨v, _, ⟨T', L', k', n'⟩, -, X', ⟨L, hQ, l1, y1, z1⟩, stp⟩ := Jvm.LawKit.callS X hx (y := y) hown (mvT hZ w1) (mvT hZ w2) (mvT hZ w3) (mvT hZ w4) hy (backOf (W := W) hM hZ w4 w3 hf hl) (g := mkF m pc Ls st) rfl hsz (argsL := argsL) (rest := rest) hlen hst (by show 2 * 0 + _ ≤ _; omega) hd (fun _ _ => ⟨has, eT, hcl, hsl⟩)
  dsimp only at X' l1 y1 z1 stp hQ
  subst l1 y1 z1
  exact (r v T' L X' hQ).on stp
theorem r_callI (X : Stand p l e R s m args below meth c T locs cells slots) (hx : p.tables.exec = Jvm.exec) (hZ : Z.Warmed39 s.vm) {own : String} {index : Nat} {y : MethodName} {bytes : ByteArray} {maxL : Nat} {rm : Room} {as' : Array Value} {Qc : Option Value → Heap → List Loc → Prop} {argsL : List Value} {W : Nat} {a : Addr}
    (hown : s.vm.findClass own = some m.cls) (hy1 : y.name = "<init>") (w1 : (Jvm.Cond.methodLink own index y).before a0 Z = true) (w2 : (Jvm.Cond.instanceMethod y).before a0 Z = true) (w3 : (Jvm.Cond.initialized y.cls).before a0 Z = true) (w4 : (Jvm.Cond.code y bytes maxL none).before a0 Z = true) (hy : y.cls ≠ "java/lang/invoke/MethodHandle" ∧ y.cls ≠ "java/lang/invoke/VarHandle")
    (hM : Met l Z y bytes maxL none [] rm as' h Qc rm.cells rm.slots) (eT : T.heap = h) (hsz : Ls.size = c.maxLocals) (hlen : ∀ sig, parseMethodDescriptor y.desc = some sig → argsL.length = sig.parameters.length) (hst : st = argsL.reverse ++ .ref a :: rest) (has : (.ref a :: argsL).toArray = as') (hW : (rest.map fun v => v.category).sum = W)
    (hf : rm.frames + 1 ≤ R.frames) (hl : W + (maxL + 11) + rm.locals ≤ R.locals) (hcl : cells + rm.cells ≤ R.cells) (hsl : slots + rm.slots ≤ R.slots) (hd : decode c.code pc = .ok (.invokespecial index, 3)) (hp : pc + 3 = pc')
    (r : ∀ (v : Option Value) (T' : State) (L : List Loc), Stand p l e R s m args below meth c T' (locs ++ L) (cells + rm.cells) (slots + rm.slots) → Qc v T'.heap L → Run p e below Q En T' (mkF m pc' Ls (v.toList ++ rest))) : Run p e below Q En T (mkF m pc Ls st) := by
  subst hp
  obtain ⟨v, _, ⟨T', L', k', n'⟩, -, X', ⟨L, hQ, l1, y1, z1⟩, stp⟩ := X.specialBack hx (y := y) hy1 hown (mvT hZ w1) (mvT hZ w2) (mvT hZ w4) hy (backOf (W := W) hM hZ w4 w3 hf hl) (g := mkF m pc Ls st) rfl hsz (Steps.refl _) (a := a) (argsL := argsL) (rest := rest) hlen hst (by show 2 * 0 + _ ≤ _; omega) hd (fun _ _ => ⟨has, eT, hcl, hsl⟩)
  dsimp only at X' l1 y1 z1 stp hQ
  subst l1 y1 z1
  exact (r v T' L X' hQ).on fun _ q => stp.trans q
theorem r_callV (X : Stand p l e R s m args below meth c T locs cells slots) (hx : p.tables.exec = Jvm.exec) (hZ : Z.Warmed39 s.vm) {own C : String} {index : Nat} {y z : MethodName} {bytes : ByteArray} {maxL : Nat} {ret : Option FieldType} {rm : Room} {as' : Array Value} {Qc : Option Value → Heap → List Loc → Prop} {argsL : List Value} {W : Nat} {a : Addr}
    (hown : s.vm.findClass own = some m.cls) (w1 : (Jvm.Cond.methodLink own index y).before a0 Z = true) (w2 : (Jvm.Cond.declares y).before a0 Z = true) (nf : NotFace s y) (w5 : (Jvm.Cond.selects C y z).before a0 Z = true) (w6 : (Jvm.Cond.instanceMethod z).before a0 Z = true) (w3 : (Jvm.Cond.initialized z.cls).before a0 Z = true) (w4 : (Jvm.Cond.code z bytes maxL ret).before a0 Z = true) (hy : y.cls ≠ "java/lang/invoke/MethodHandle" ∧ y.cls ≠ "java/lang/invoke/VarHandle")
    (hM : Met l Z z bytes maxL ret [] rm as' h Qc rm.cells rm.slots) (eT : T.heap = h) (E : Exa Z h a C) (hsz : Ls.size = c.maxLocals) (hlen : ∀ sig, parseMethodDescriptor y.desc = some sig → argsL.length = sig.parameters.length) (hst : st = argsL.reverse ++ .ref a :: rest) (has : (.ref a :: argsL).toArray = as') (hW : (rest.map fun v => v.category).sum = W)
    (hf : rm.frames + 1 ≤ R.frames) (hl : W + (maxL + 11) + rm.locals ≤ R.locals) (hcl : cells + rm.cells ≤ R.cells) (hsl : slots + rm.slots ≤ R.slots) (hd : decode c.code pc = .ok (.invokevirtual index, 3)) (hp : pc + 3 = pc')
    (r : ∀ (v : Option Value) (T' : State) (L : List Loc), Stand p l e R s m args below meth c T' (locs ++ L) (cells + rm.cells) (slots + rm.slots) → Qc v T'.heap L → Run p e below Q En T' (mkF m pc' Ls (v.toList ++ rest))) : Run p e below Q En T (mkF m pc Ls st) := by
  subst hp
  obtain ⟨cq, kq, qa, qb, qc⟩ := isOf hZ eT E
  obtain ⟨v, _, ⟨T', L', k', n'⟩, -, X', ⟨L, hQ, l1, y1, z1⟩, stp⟩ := X.virtualBack hx (y := y) (z := z) hown (mvT hZ w1) (mvT hZ w2) nf (mvT hZ w5) (mvT hZ w6) hy (backOf (W := W) hM hZ w4 w3 hf hl) qa qc (g := mkF m pc Ls st) rfl hsz (Steps.refl _) (argsL := argsL) (rest := rest) hlen hst (by show 2 * 0 + _ ≤ _; omega) hd (fun _ _ => ⟨has, eT, hcl, hsl⟩)
  dsimp only at X' l1 y1 z1 stp hQ
  subst l1 y1 z1
  exact (r v T' L X' hQ).on fun _ q => stp.trans q
theorem r_initO (X : Stand p l e R s m args below meth c T locs cells slots) (hx : p.tables.exec = Jvm.exec) (hZ : Z.Warmed39 s.vm) {own : String} {index : Nat} {a : Addr} {W : Nat}
    (hown : s.vm.findClass own = some m.cls) (w1 : (Jvm.Cond.methodLink own index Lib.objectInit).before a0 Z = true) (w2 : (Jvm.Cond.instanceMethod Lib.objectInit).before a0 Z = true) (w4 : (Jvm.Cond.code Lib.objectInit ⟨#[0xb1]⟩ 1 none).before a0 Z = true)
    (eT : T.heap = h) (hsz : Ls.size = c.maxLocals) (hf : 1 ≤ R.frames) (hW : (rest.map fun v => v.category).sum = W) (hl : W + 12 ≤ R.locals) (hd : decode c.code pc = .ok (.invokespecial index, 3)) (hp : pc + 3 = pc')
    (r : ∀ T', Stand p l e R s m args below meth c T' locs cells slots → T'.heap = h → Run p e below Q En T' (mkF m pc' Ls rest)) : Run p e below Q En T (mkF m pc Ls (.ref a :: rest)) := by
  subst hp
  obtain ⟨T', X', e', stp⟩ := initO X hx hZ hown w1 w2 w4 eT (g := mkF m pc Ls (.ref a :: rest)) rfl hsz rfl hd hf (W := W) (by show 2 * 0 + _ ≤ _; omega) hl
  exact (r T' X' e').on stp
theorem r_new (X : Stand p l e R s m args below meth c T locs cells slots) (hx : p.tables.exec = Jvm.exec) (hZ : Z.Warmed39 s.vm) {own C : String} {index n : Nat} (hown : s.vm.findClass own = some m.cls) (w : (Jvm.Cond.classLink own index C).before a0 Z = true) (wi : (Jvm.Cond.instantiable C n).before a0 Z = true) (wz : (Jvm.Cond.initialized C).before a0 Z = true) (eT : T.heap = h) (hc : cells + 1 ≤ R.cells) (hl : slots + n ≤ R.slots) (hd : decode c.code pc = .ok (.new index, 3)) (hp : pc + 3 = pc')
    (r : ∀ (T' : State) (h' : Heap) (a : Addr), a = h.size → Stand p l e R s m args below meth c T' locs (cells + 1) (slots + n) → T'.heap = h' → Ext h h' → Exa Z h' a C → (∀ {O nm d : String} {ty : FieldType}, Laid Z a0 C O nm d → parseFieldDescriptor d = some ty → Fld Z h' a O nm d (defaultValue ty)) → Run p e below Q En T' (mkF m pc' Ls (.ref a :: rest))) : Run p e below Q En T (mkF m pc Ls rest) := by
  subst hp
  obtain ⟨T', h', X', e', E', A', D', -, stp⟩ := newO X hx hZ hown w wi wz eT (g := mkF m pc Ls rest) rfl hd hc hl
  exact (r T' h' h.size rfl X' e' E' A' D').on stp
theorem r_getF (X : Stand p l e R s m args below meth c T locs cells slots) (hx : p.tables.exec = Jvm.exec) (hZ : Z.Warmed39 s.vm) {own R0 O n d : String} {index : Nat} {a : Addr} {v : Value} (hown : s.vm.findClass own = some m.cls) (w : (Jvm.Cond.fieldLink own index R0 n d).before a0 Z = true) (via : Via Z R0 O n d) (eT : T.heap = h) (F : Fld Z h a O n d v) (hd : decode c.code pc = .ok (.getfield index, 3)) (hp : pc + 3 = pc')
    (r : ∀ T', Stand p l e R s m args below meth c T' locs cells slots → T'.heap = h → Run p e below Q En T' (mkF m pc' Ls (v :: rest))) : Run p e below Q En T (mkF m pc Ls (.ref a :: rest)) := by
  subst hp
  obtain ⟨T', X', e', stp⟩ := getF X hx hZ hown (host := "") (Or.inl w) via eT F (g := mkF m pc Ls (.ref a :: rest)) rfl rfl hd
  exact (r T' X' e').on stp
theorem r_getFN (X : Stand p l e R s m args below meth c T locs cells slots) (hx : p.tables.exec = Jvm.exec) (hZ : Z.Warmed39 s.vm) {own R0 O n d host : String} {index : Nat} {a : Addr} {v : Value} (hown : s.vm.findClass own = some m.cls) (w : (Jvm.Cond.fieldLinkNest own index R0 n d host).before a0 Z = true) (via : Via Z R0 O n d) (eT : T.heap = h) (F : Fld Z h a O n d v) (hd : decode c.code pc = .ok (.getfield index, 3)) (hp : pc + 3 = pc')
    (r : ∀ T', Stand p l e R s m args below meth c T' locs cells slots → T'.heap = h → Run p e below Q En T' (mkF m pc' Ls (v :: rest))) : Run p e below Q En T (mkF m pc Ls (.ref a :: rest)) := by
  subst hp
  obtain ⟨T', X', e', stp⟩ := getF X hx hZ hown (Or.inr w) via eT F (g := mkF m pc Ls (.ref a :: rest)) rfl rfl hd
  exact (r T' X' e').on stp
theorem r_getS (X : Stand p l e R s m args below meth c T locs cells slots) (hx : p.tables.exec = Jvm.exec) (hZ : Z.Warmed39 s.vm) {own R0 O n d : String} {index : Nat} {v : Value} (hown : s.vm.findClass own = some m.cls) (w : (Jvm.Cond.fieldLink own index R0 n d).before a0 Z = true) (via : Via Z R0 O n d) (eT : T.heap = h) (F : Sta Z h O n d v) (hd : decode c.code pc = .ok (.getstatic index, 3)) (hp : pc + 3 = pc')
    (r : ∀ T', Stand p l e R s m args below meth c T' locs cells slots → T'.heap = h → Run p e below Q En T' (mkF m pc' Ls (v :: rest))) : Run p e below Q En T (mkF m pc Ls rest) := by
  subst hp
  obtain ⟨T', X', e', stp⟩ := getS2 X hx hZ hown (host := "") (Or.inl w) via eT F (g := mkF m pc Ls rest) rfl hd
  exact (r T' X' e').on stp
theorem r_putF (X : Stand p l e R s m args below meth c T locs cells slots) (hx : p.tables.exec = Jvm.exec) (hZ : Z.Warmed39 s.vm) {own R0 O n d C : String} {index kk : Nat} {ty : FieldType} {a : Addr} {v old : Value} (hown : s.vm.findClass own = some m.cls) (w : (Jvm.Cond.fieldLink own index R0 n d).before a0 Z = true) (via : Via Z R0 O n d) (eT : T.heap = h) (F : Fld Z h a O n d old) (E : Exa Z h a C) (L : (Jvm.Cond.lays C O n d).before a0 Z = true ∨ ((Jvm.Cond.laysFinal C O n d).before a0 Z = true ∧ own = O ∧ meth.name = "<init>")) (wi : (Jvm.Cond.instantiable C kk).before a0 Z = true) (hty : parseFieldDescriptor d = some ty) (hn : narrow ty v = v) (hf : fits ty v = true) (hd : decode c.code pc = .ok (.putfield index, 3)) (hp : pc + 3 = pc')
    (r : ∀ (T' : State) (h' : Heap), Stand p l e R s m args below meth c T' (locs ++ [⟨a, Jvm.RoadKit.slotOf Z O n d⟩]) cells slots → T'.heap = h' → Wr h h' a (Jvm.RoadKit.slotOf Z O n d) v → Run p e below Q En T' (mkF m pc' Ls rest)) : Run p e below Q En T (mkF m pc Ls (v :: .ref a :: rest)) := by
  subst hp
  obtain ⟨T', h', X', e', W', stp⟩ := putF X hx hZ hown (host := "") (Or.inl w) via eT F E L wi hty hn hf (g := mkF m pc Ls (v :: .ref a :: rest)) rfl rfl hd
  exact (r T' h' X' e' W').on stp
theorem r_newarray (X : Stand p l e R s m args below meth c T locs cells slots) (hx : p.tables.exec = Jvm.exec) (hZ : Z.Warmed39 s.vm) {aty : ArrayType} (w : (Jvm.Cond.arrayClass (newarray.typeOf aty)).before a0 Z = true) (eT : T.heap = h) {n : Int32} {cap : Nat} (hn : ¬ n < 0) (hcap : n.toNatClampNeg ≤ cap) (hb8 : cap * 8 ≤ 536870912) (hc : cells + 1 ≤ R.cells) (hl : slots + cap ≤ R.slots) (hd : decode c.code pc = .ok (.newarray aty, 2)) (hp : pc + 2 = pc')
    (r : ∀ (T' : State) (h' : Heap) (a : Addr) (cA : ClassId), a = h.size → Stand p l e R s m args below meth c T' locs (cells + 1) (slots + cap) → T'.heap = h' → Ext h h' → Arr Z h' a (newA cA (newarray.typeOf aty) n) (newarray.typeOf aty) → Run p e below Q En T' (mkF m pc' Ls (.ref a :: rest))) : Run p e below Q En T (mkF m pc Ls (.int n :: rest)) := by
  subst hp
  obtain ⟨T', h', cA, X', e', E', A', stp⟩ := newP X hx hZ w eT (g := mkF m pc Ls (.int n :: rest)) rfl hd rfl hn hcap hb8 hc hl
  exact (r T' h' h.size cA rfl X' e' E' A').on stp
theorem r_putFN (X : Stand p l e R s m args below meth c T locs cells slots) (hx : p.tables.exec = Jvm.exec) (hZ : Z.Warmed39 s.vm) {own R0 O n d C : String} {index kk : Nat} {ty : FieldType} {a : Addr} {v v' old : Value} (hown : s.vm.findClass own = some m.cls) (w : (Jvm.Cond.fieldLink own index R0 n d).before a0 Z = true) (via : Via Z R0 O n d) (eT : T.heap = h) (F : Fld Z h a O n d old) (E : Exa Z h a C) (L : (Jvm.Cond.lays C O n d).before a0 Z = true ∨ ((Jvm.Cond.laysFinal C O n d).before a0 Z = true ∧ own = O ∧ meth.name = "<init>")) (wi : (Jvm.Cond.instantiable C kk).before a0 Z = true) (hty : parseFieldDescriptor d = some ty) (hn : narrow ty v = v') (hf : fits ty v' = true) (hd : decode c.code pc = .ok (.putfield index, 3)) (hp : pc + 3 = pc')
    (r : ∀ (T' : State) (h' : Heap), Stand p l e R s m args below meth c T' (locs ++ [⟨a, Jvm.RoadKit.slotOf Z O n d⟩]) cells slots → T'.heap = h' → Wr h h' a (Jvm.RoadKit.slotOf Z O n d) v' → Run p e below Q En T' (mkF m pc' Ls rest)) : Run p e below Q En T (mkF m pc Ls (v :: .ref a :: rest)) := by
  subst hp
  obtain ⟨T', h', X', e', W', stp⟩ := putFN X hx hZ hown w via eT F E L wi hty hn hf (g := mkF m pc Ls (v :: .ref a :: rest)) rfl rfl hd
  exact (r T' h' X' e' W').on stp
theorem r_anewarray (X : Stand p l e R s m args below meth c T locs cells slots) (hx : p.tables.exec = Jvm.exec) (hZ : Z.Warmed39 s.vm) {own C : String} {index : Nat} (hown : s.vm.findClass own = some m.cls) (w1 : (Jvm.Cond.classLink own index C).before a0 Z = true) (w2 : (Jvm.Cond.arrayOver (.object C)).before a0 Z = true) (eT : T.heap = h) {n : Int32} {cap : Nat} (hn : ¬ n < 0) (hcap : n.toNatClampNeg ≤ cap) (hb8 : cap * 8 ≤ 536870912) (hc : cells + 1 ≤ R.cells) (hl : slots + cap ≤ R.slots) (hd : decode c.code pc = .ok (.anewarray index, 3)) (hp : pc + 3 = pc')
    (r : ∀ (T' : State) (h' : Heap) (a : Addr) (cA : ClassId), a = h.size → Stand p l e R s m args below meth c T' locs (cells + 1) (slots + cap) → T'.heap = h' → Ext h h' → Arr Z h' a (newA cA (.object C) n) (.object C) → Ovr Z cA C → Run p e below Q En T' (mkF m pc' Ls (.ref a :: rest))) : Run p e below Q En T (mkF m pc Ls (.int n :: rest)) := by
  subst hp
  obtain ⟨T', h', cA, X', e', E', A', O', stp⟩ := newR X hx hZ hown w1 w2 eT (g := mkF m pc Ls (.int n :: rest)) rfl hd rfl hn hcap hb8 hc hl
  exact (r T' h' h.size cA rfl X' e' E' A' O').on stp
theorem r_iastore (X : Stand p l e R s m args below meth c T locs cells slots) (hx : p.tables.exec = Jvm.exec) (hZ : Z.Warmed39 s.vm) (eT : T.heap = h) {a : Addr} {cl : Cell} {j : Int32} {x : Int32} (A : Arr Z h a cl .int) (hj : ¬ (j < 0 ∨ cl.slots.size ≤ j.toNatClampNeg)) (hd : decode c.code pc = .ok (.iastore, 1)) (hp : pc + 1 = pc')
    (r : ∀ (T' : State) (h' : Heap), Stand p l e R s m args below meth c T' (locs ++ [⟨a, j.toNatClampNeg⟩]) cells slots → T'.heap = h' → Wr h h' a j.toNatClampNeg (.int x) → Run p e below Q En T' (mkF m pc' Ls rest)) : Run p e below Q En T (mkF m pc Ls (.int x :: .int j :: .ref a :: rest)) := by
  subst hp
  obtain ⟨T', h', X', e', W', stp⟩ := stI X hx hZ eT A hj (g := mkF m pc Ls (.int x :: .int j :: .ref a :: rest)) rfl rfl hd
  exact (r T' h' X' e' W').on stp
theorem r_lastore (X : Stand p l e R s m args below meth c T locs cells slots) (hx : p.tables.exec = Jvm.exec) (hZ : Z.Warmed39 s.vm) (eT : T.heap = h) {a : Addr} {cl : Cell} {j : Int32} {x : Int64} (A : Arr Z h a cl .long) (hj : ¬ (j < 0 ∨ cl.slots.size ≤ j.toNatClampNeg)) (hd : decode c.code pc = .ok (.lastore, 1)) (hp : pc + 1 = pc')
    (r : ∀ (T' : State) (h' : Heap), Stand p l e R s m args below meth c T' (locs ++ [⟨a, j.toNatClampNeg⟩]) cells slots → T'.heap = h' → Wr h h' a j.toNatClampNeg (.long x) → Run p e below Q En T' (mkF m pc' Ls rest)) : Run p e below Q En T (mkF m pc Ls (.long x :: .int j :: .ref a :: rest)) := by
  subst hp
  obtain ⟨T', h', X', e', W', stp⟩ := stJ X hx hZ eT A hj (g := mkF m pc Ls (.long x :: .int j :: .ref a :: rest)) rfl rfl hd
  exact (r T' h' X' e' W').on stp
theorem r_castore (X : Stand p l e R s m args below meth c T locs cells slots) (hx : p.tables.exec = Jvm.exec) (hZ : Z.Warmed39 s.vm) (eT : T.heap = h) {a : Addr} {cl : Cell} {j x : Int32} (A : Arr Z h a cl .char) (hj : ¬ (j < 0 ∨ cl.slots.size ≤ j.toNatClampNeg)) (hd : decode c.code pc = .ok (.castore, 1)) (hp : pc + 1 = pc')
    (r : ∀ (T' : State) (h' : Heap), Stand p l e R s m args below meth c T' (locs ++ [⟨a, j.toNatClampNeg⟩]) cells slots → T'.heap = h' → Wr h h' a j.toNatClampNeg (.int (nar .char x)) → Run p e below Q En T' (mkF m pc' Ls rest)) : Run p e below Q En T (mkF m pc Ls (.int x :: .int j :: .ref a :: rest)) := by
  subst hp
  obtain ⟨T', h', X', e', W', stp⟩ := stC X hx hZ eT A hj (g := mkF m pc Ls (.int x :: .int j :: .ref a :: rest)) rfl rfl hd
  exact (r T' h' X' e' W').on stp
theorem r_sastore (X : Stand p l e R s m args below meth c T locs cells slots) (hx : p.tables.exec = Jvm.exec) (hZ : Z.Warmed39 s.vm) (eT : T.heap = h) {a : Addr} {cl : Cell} {j x : Int32} (A : Arr Z h a cl .short) (hj : ¬ (j < 0 ∨ cl.slots.size ≤ j.toNatClampNeg)) (hd : decode c.code pc = .ok (.sastore, 1)) (hp : pc + 1 = pc')
    (r : ∀ (T' : State) (h' : Heap), Stand p l e R s m args below meth c T' (locs ++ [⟨a, j.toNatClampNeg⟩]) cells slots → T'.heap = h' → Wr h h' a j.toNatClampNeg (.int (nar .short x)) → Run p e below Q En T' (mkF m pc' Ls rest)) : Run p e below Q En T (mkF m pc Ls (.int x :: .int j :: .ref a :: rest)) := by
  subst hp
  obtain ⟨T', h', X', e', W', stp⟩ := stS X hx hZ eT A hj (g := mkF m pc Ls (.int x :: .int j :: .ref a :: rest)) rfl rfl hd
  exact (r T' h' X' e' W').on stp
theorem r_bastoreB (X : Stand p l e R s m args below meth c T locs cells slots) (hx : p.tables.exec = Jvm.exec) (hZ : Z.Warmed39 s.vm) (eT : T.heap = h) {a : Addr} {cl : Cell} {j x : Int32} (A : Arr Z h a cl .byte) (hj : ¬ (j < 0 ∨ cl.slots.size ≤ j.toNatClampNeg)) (hd : decode c.code pc = .ok (.bastore, 1)) (hp : pc + 1 = pc')
    (r : ∀ (T' : State) (h' : Heap), Stand p l e R s m args below meth c T' (locs ++ [⟨a, j.toNatClampNeg⟩]) cells slots → T'.heap = h' → Wr h h' a j.toNatClampNeg (.int (nar .byte x)) → Run p e below Q En T' (mkF m pc' Ls rest)) : Run p e below Q En T (mkF m pc Ls (.int x :: .int j :: .ref a :: rest)) := by
  subst hp
  obtain ⟨T', h', X', e', W', stp⟩ := stB X hx hZ eT A hj (g := mkF m pc Ls (.int x :: .int j :: .ref a :: rest)) rfl rfl hd
  exact (r T' h' X' e' W').on stp
theorem r_bastoreZ (X : Stand p l e R s m args below meth c T locs cells slots) (hx : p.tables.exec = Jvm.exec) (hZ : Z.Warmed39 s.vm) (eT : T.heap = h) {a : Addr} {cl : Cell} {j x : Int32} (A : Arr Z h a cl .boolean) (hj : ¬ (j < 0 ∨ cl.slots.size ≤ j.toNatClampNeg)) (hd : decode c.code pc = .ok (.bastore, 1)) (hp : pc + 1 = pc')
    (r : ∀ (T' : State) (h' : Heap), Stand p l e R s m args below meth c T' (locs ++ [⟨a, j.toNatClampNeg⟩]) cells slots → T'.heap = h' → Wr h h' a j.toNatClampNeg (.int (nar .boolean x)) → Run p e below Q En T' (mkF m pc' Ls rest)) : Run p e below Q En T (mkF m pc Ls (.int x :: .int j :: .ref a :: rest)) := by
  subst hp
  obtain ⟨T', h', X', e', W', stp⟩ := stZ X hx hZ eT A hj (g := mkF m pc Ls (.int x :: .int j :: .ref a :: rest)) rfl rfl hd
  exact (r T' h' X' e' W').on stp
theorem r_arraylength (X : Stand p l e R s m args below meth c T locs cells slots) (hx : p.tables.exec = Jvm.exec) (hZ : Z.Warmed39 s.vm) (eT : T.heap = h) {a : Addr} {cl : Cell} {ty : FieldType} {n : Int32} (A : Arr Z h a cl ty) (hn : cl.slots.size.toInt32 = n) (hd : decode c.code pc = .ok (.arraylength, 1)) (hp : pc + 1 = pc') (r : Run p e below Q En T (mkF m pc' Ls (.int n :: rest))) : Run p e below Q En T (mkF m pc Ls (.ref a :: rest)) := by
  subst hp hn; exact r.on fun _ q => X.arraylength hx (by rw [eT]; exact A.1) (State.isArrayOf_alike hZ.alike A.2.1) (g := mkF m pc Ls (.ref a :: rest)) rfl rfl hd _ q
theorem r_iaload (X : Stand p l e R s m args below meth c T locs cells slots) (hx : p.tables.exec = Jvm.exec) (hZ : Z.Warmed39 s.vm) (eT : T.heap = h) {a : Addr} {cl : Cell} {j : Int32} {v : Int32} (A : Arr Z h a cl .int) (hj : ¬ (j < 0 ∨ cl.slots.size ≤ j.toNatClampNeg)) (hat : cl.slots[j.toNatClampNeg]? = some (.int v)) (hd : decode c.code pc = .ok (.iaload, 1)) (hp : pc + 1 = pc') (r : Run p e below Q En T (mkF m pc' Ls (.int v :: rest))) : Run p e below Q En T (mkF m pc Ls (.int j :: .ref a :: rest)) := by
  subst hp; exact r.on fun _ q => X.iaload hx (j := j) (v := .int v) (by rw [eT]; exact A.1) (State.isArrayOf_alike hZ.alike A.2.1) A.2.2 hj hat (g := mkF m pc Ls (.int j :: .ref a :: rest)) rfl rfl hd _ q
theorem r_caload (X : Stand p l e R s m args below meth c T locs cells slots) (hx : p.tables.exec = Jvm.exec) (hZ : Z.Warmed39 s.vm) (eT : T.heap = h) {a : Addr} {cl : Cell} {j : Int32} {v : Int32} (A : Arr Z h a cl .char) (hj : ¬ (j < 0 ∨ cl.slots.size ≤ j.toNatClampNeg)) (hat : cl.slots[j.toNatClampNeg]? = some (.int v)) (hd : decode c.code pc = .ok (.caload, 1)) (hp : pc + 1 = pc') (r : Run p e below Q En T (mkF m pc' Ls (.int v :: rest))) : Run p e below Q En T (mkF m pc Ls (.int j :: .ref a :: rest)) := by
  subst hp; exact r.on fun _ q => X.caload hx (j := j) (v := .int v) (by rw [eT]; exact A.1) (State.isArrayOf_alike hZ.alike A.2.1) A.2.2 hj hat (g := mkF m pc Ls (.int j :: .ref a :: rest)) rfl rfl hd _ q
theorem r_saload (X : Stand p l e R s m args below meth c T locs cells slots) (hx : p.tables.exec = Jvm.exec) (hZ : Z.Warmed39 s.vm) (eT : T.heap = h) {a : Addr} {cl : Cell} {j : Int32} {v : Int32} (A : Arr Z h a cl .short) (hj : ¬ (j < 0 ∨ cl.slots.size ≤ j.toNatClampNeg)) (hat : cl.slots[j.toNatClampNeg]? = some (.int v)) (hd : decode c.code pc = .ok (.saload, 1)) (hp : pc + 1 = pc') (r : Run p e below Q En T (mkF m pc' Ls (.int v :: rest))) : Run p e below Q En T (mkF m pc Ls (.int j :: .ref a :: rest)) := by
  subst hp; exact r.on fun _ q => X.saload hx (j := j) (v := .int v) (by rw [eT]; exact A.1) (State.isArrayOf_alike hZ.alike A.2.1) A.2.2 hj hat (g := mkF m pc Ls (.int j :: .ref a :: rest)) rfl rfl hd _ q
theorem r_baload (X : Stand p l e R s m args below meth c T locs cells slots) (hx : p.tables.exec = Jvm.exec) (hZ : Z.Warmed39 s.vm) (eT : T.heap = h) {a : Addr} {cl : Cell} {j : Int32} {v : Int32} (A : Arr Z h a cl .byte) (hj : ¬ (j < 0 ∨ cl.slots.size ≤ j.toNatClampNeg)) (hat : cl.slots[j.toNatClampNeg]? = some (.int v)) (hd : decode c.code pc = .ok (.baload, 1)) (hp : pc + 1 = pc') (r : Run p e below Q En T (mkF m pc' Ls (.int v :: rest))) : Run p e below Q En T (mkF m pc Ls (.int j :: .ref a :: rest)) := by
  subst hp; exact r.on fun _ q => X.baloadBytes hx (j := j) (v := .int v) (by rw [eT]; exact A.1) (State.isArrayOf_alike hZ.alike A.2.1) A.2.2 hj hat (g := mkF m pc Ls (.int j :: .ref a :: rest)) rfl rfl hd _ q
theorem r_baloadZ (X : Stand p l e R s m args below meth c T locs cells slots) (hx : p.tables.exec = Jvm.exec) (hZ : Z.Warmed39 s.vm) (eT : T.heap = h) {a : Addr} {cl : Cell} {j : Int32} {v : Int32} (A : Arr Z h a cl .boolean) (hj : ¬ (j < 0 ∨ cl.slots.size ≤ j.toNatClampNeg)) (hat : cl.slots[j.toNatClampNeg]? = some (.int v)) (hd : decode c.code pc = .ok (.baload, 1)) (hp : pc + 1 = pc') (r : Run p e below Q En T (mkF m pc' Ls (.int v :: rest))) : Run p e below Q En T (mkF m pc Ls (.int j :: .ref a :: rest)) := by
  subst hp; exact r.on fun _ q => X.baloadBooleans hx (j := j) (v := .int v) (by rw [eT]; exact A.1) (State.isArrayOf_alike hZ.alike A.2.1) A.2.2 hj hat (g := mkF m pc Ls (.int j :: .ref a :: rest)) rfl rfl hd _ q
theorem r_laload (X : Stand p l e R s m args below meth c T locs cells slots) (hx : p.tables.exec = Jvm.exec) (hZ : Z.Warmed39 s.vm) (eT : T.heap = h) {a : Addr} {cl : Cell} {j : Int32} {v : Int64} (A : Arr Z h a cl .long) (hj : ¬ (j < 0 ∨ cl.slots.size ≤ j.toNatClampNeg)) (hat : cl.slots[j.toNatClampNeg]? = some (.long v)) (hd : decode c.code pc = .ok (.laload, 1)) (hp : pc + 1 = pc') (r : Run p e below Q En T (mkF m pc' Ls (.long v :: rest))) : Run p e below Q En T (mkF m pc Ls (.int j :: .ref a :: rest)) := by
  subst hp; exact r.on fun _ q => X.laload hx (j := j) (v := .long v) (by rw [eT]; exact A.1) (State.isArrayOf_alike hZ.alike A.2.1) A.2.2 hj hat (g := mkF m pc Ls (.int j :: .ref a :: rest)) rfl rfl hd _ q
theorem r_ldcS {vm0 : Vm} {k0 nn : Nat} (X : Stand p l e R (s.setVm vm0) m args below meth c T locs cells slots) (hx : p.tables.exec = Jvm.exec) (hZ : Z.Warmed39 vm0) {own text : String} {index : Nat} (hown : vm0.findClass own = some m.cls) (w : (Jvm.Cond.stringLink own index text).before a0 Z = true) (wS : ∀ a ∈ Bundle.stringAtoms, a.before a0 Z = true) (eT : T.heap = h) (hS : s.Since vm0 k0) (hk : k0 ≤ h.size) (hn : 4 * text.toList.length ≤ nn) (hbig : nn ≤ 536870912) (hc : cells + 2 ≤ R.cells) (hl : slots + (nn + 4) ≤ R.slots) (hd : decode c.code pc = .ok (.ldc index, 2)) (hp : pc + 2 = pc')
    (r : ∀ (a : Addr) (T' : State) (h' : Heap) (k1 : Nat), Stand p l e R (s.setVm T'.vm) m args below meth c T' locs (cells + 2) (slots + (nn + 4)) → T'.heap = h' → Ext h h' → s.Since T'.vm k1 → k1 ≤ h'.size → Z.Warmed39 (s.setVm T'.vm).vm → (s.setVm T'.vm).vm.findClass own = some m.cls → Run p e below Q En T' (mkF m pc' Ls (.ref a :: rest))) : Run p e below Q En T (mkF m pc Ls rest) := by
  subst hp
  obtain ⟨a, T', h', k1, X', e', E', hS', hk', hZ', ho', stp⟩ := ldcS X hx hZ hown w wS eT hS hk (g := mkF m pc Ls rest) rfl hd hn hbig hc hl
  exact (r a T' h' k1 X' e' E' hS' hk' hZ' ho').on stp
theorem w_retN {vm1 : Vm} {k1 : Nat} (X : Stand p l e R (s.setVm vm1) m args below meth c T locs cells slots) (hS : s.Since vm1 k1) (hk : k1 ≤ T.heap.size) (hx : p.tables.exec = Jvm.exec) (hlk : meth.locks = false) {t : FieldType} {z w : Int32} (hret : meth.sig.returnType = some t) (ht : t = .boolean ∨ t = .byte ∨ t = .char ∨ t = .short) (hd : decode c.code pc = .ok (.ireturn, 1)) (hn : nar t z = w) (hq : Q (some (.int w)) T.heap locs) (h1 : cells ≤ kc) (h2 : slots ≤ ks) : Run p e below Q (fun o t L => ReturnedEndW s o t L kc ks) T (mkF m pc Ls (.int z :: rest)) := by
  subst hn
  obtain ⟨fs, hr, hrun, hended, h4, h5, h6, h7⟩ := X.leaveW hS hk (v := some (.int (nar t z))) (fun q => by rw [hret] at q; cases q) hlk
  exact ⟨_, _, retN X hx hret ht hd hr, hrun, hended, _, _, rfl, hq, h4, h5, h6, h7.mono h1 h2⟩
theorem w_retV {vm1 : Vm} {k1 : Nat} (X : Stand p l e R (s.setVm vm1) m args below meth c T locs cells slots) (hS : s.Since vm1 k1) (hk : k1 ≤ T.heap.size) (hx : p.tables.exec = Jvm.exec) (hlk : meth.locks = false) {t : FieldType} {w : Value} {i : Instr} (hret : meth.sig.returnType = some t) (hn : narrow t w = w)
    (hi : (i = .ireturn ∧ (t = .int ∨ t = .boolean ∨ t = .byte ∨ t = .char ∨ t = .short) ∧ ∃ z, w = .int z) ∨ (i = .lreturn ∧ t = .long ∧ ∃ z, w = .long z) ∨ (i = .dreturn ∧ t = .double ∧ ∃ z, w = .double z) ∨ (i = .freturn ∧ t = .float ∧ ∃ z, w = .float z) ∨ (i = .areturn ∧ t.isReference = true ∧ w.isRef = true))
    (hd : decode c.code pc = .ok (i, 1)) (hq : Q (some w) T.heap locs) (h1 : cells ≤ kc) (h2 : slots ≤ ks) : Run p e below Q (fun o t L => ReturnedEndW s o t L kc ks) T (mkF m pc Ls (w :: rest)) := by
  obtain ⟨fs, hr, hrun, hended, h4, h5, h6, h7⟩ := X.leaveW hS hk (v := some w) (fun q => by rw [hret] at q; cases q) hlk
  exact ⟨_, _, retOut X hx hret hn hi hd hr, hrun, hended, _, _, rfl, hq, h4, h5, h6, h7.mono h1 h2⟩
theorem w_ret0 {vm1 : Vm} {k1 : Nat} (X : Stand p l e R (s.setVm vm1) m args below meth c T locs cells slots) (hS : s.Since vm1 k1) (hk : k1 ≤ T.heap.size) (hx : p.tables.exec = Jvm.exec) (hlk : meth.locks = false) (hret : meth.sig.returnType = none) (hd : decode c.code pc = .ok (.return_, 1)) (hq : Q none T.heap locs) (h1 : cells ≤ kc) (h2 : slots ≤ ks) : Run p e below Q (fun o t L => ReturnedEndW s o t L kc ks) T (mkF m pc Ls []) := by
  obtain ⟨fs, hr, hrun, hended, h4, h5, h6, h7⟩ := X.leaveW hS hk (v := none) (fun _ => rfl) hlk
  exact ⟨_, _, X.returnOut hx hret hd hr, hrun, hended, _, _, rfl, hq, h4, h5, h6, h7.mono h1 h2⟩
abbrev MetW (l : Launch) (Z : State) (y : MethodName) (bytes : ByteArray) (maxL : Nat) (ret : Option FieldType) (ws : List Jvm.Cond) (rm : Room) (as' : Array Value) (h0 : Heap) (Q : Option Value → Heap → List Loc → Prop) (kc ks : Nat) : Prop :=
  MetFree l y (head1 (Jvm.Cond.code y bytes maxL ret :: ws) rm) (fun a U => a = as' ∧ Z.Warmed39 U.vm ∧ U.heap = h0) (fun _ _ _ _ _ => True) (fun _ U o U' => ∃ v L, o = .returned v ∧ Q v U'.heap L ∧ ReturnedEndW U o U' L kc ks)
theorem metW_of {y : MethodName} {bytes : ByteArray} {maxL : Nat} {ret : Option FieldType} {ws : List Jvm.Cond} {rm : Room} {as' : Array Value} {h0 : Heap} {Q : Option Value → Heap → List Loc → Prop} {kc ks : Nat} {f0 : MethodId → JFrame} (hpn : plainFor y = true)
    (hef : ∀ m, entryFrame m as' maxL = f0 m)
    (body : ∀ (p : Program) (e : Env) (s : State) (m : MethodId) (below : List Frame) (meth : Method) (c : Code) (s₁ : State), Stand p l e rm s m as' below meth c s₁ [] 0 0 → p.tables.exec = Jvm.exec → c.code = bytes → c.maxLocals = maxL → meth.sig.returnType = ret → meth.locks = false → s.vm.findClass y.cls = some m.cls → meth.name = y.name → Z.Warmed39 s.vm → s₁.heap = h0 → Run p e below Q (fun o t L => ReturnedEndW s o t L kc ks) s₁ (f0 m)) :
    MetW l Z y bytes maxL ret ws rm as' h0 Q kc ks := by
  refine MetFree.of_bodySF (code := bytes) (maxLocals := maxL) (ret := ret) hpn hisR ?_
  intro p e s m args below meth c s₁ Bd hml0 hP hK
  obtain ⟨rfl, hZ, hh⟩ := hP
  obtain ⟨s₂, o, r⟩ := body p e s m below meth c s₁ (Stand.of_body Bd) Bd.exec Bd.bytes hml0 Bd.returns (BodyLoose.notSynchronized Bd) (findClass_of_methodNamed Bd.named) (name_of_methodNamed Bd.named Bd.method).1 hZ (by rw [← hh, Bd.state]; rfl)
  rw [hef m]
  exact ⟨s₂, o, r⟩
theorem r_callP (X : Stand p l e R s m args below meth c T locs cells slots) (hx : p.tables.exec = Jvm.exec) (hZ : Z.Warmed39 s.vm) {own C : String} {index kk : Nat} {y : MethodName} {bytes : ByteArray} {maxL : Nat} {ret : Option FieldType} {rm : Room} {as' : Array Value} {Qc : Option Value → Heap → List Loc → Prop} {argsL : List Value} {W : Nat} {a : Addr}
    (hown : s.vm.findClass own = some m.cls) (w1 : (Jvm.Cond.methodLink own index y).before a0 Z = true) (w2 : (Jvm.Cond.instanceMethod y).before a0 Z = true) (wp : (Jvm.Cond.privateMethod y).before a0 Z = true) (wi : (Jvm.Cond.instantiable y.cls kk).before a0 Z = true) (w3 : (Jvm.Cond.initialized y.cls).before a0 Z = true) (w4 : (Jvm.Cond.code y bytes maxL ret).before a0 Z = true) (hy : y.cls ≠ "java/lang/invoke/MethodHandle" ∧ y.cls ≠ "java/lang/invoke/VarHandle")
    (hM : Met l Z y bytes maxL ret [] rm as' h Qc rm.cells rm.slots) (eT : T.heap = h) (E : Exa Z h a C) (hsz : Ls.size = c.maxLocals) (hlen : ∀ sig, parseMethodDescriptor y.desc = some sig → argsL.length = sig.parameters.length) (hst : st = argsL.reverse ++ .ref a :: rest) (has : (.ref a :: argsL).toArray = as') (hW : (rest.map fun v => v.category).sum = W)
    (hf : rm.frames + 1 ≤ R.frames) (hl : W + (maxL + 11) + rm.locals ≤ R.locals) (hcl : cells + rm.cells ≤ R.cells) (hsl : slots + rm.slots ≤ R.slots) (hd : decode c.code pc = .ok (.invokevirtual index, 3)) (hp : pc + 3 = pc')
    (r : ∀ (v : Option Value) (T' : State) (L : List Loc), Stand p l e R s m args below meth c T' (locs ++ L) (cells + rm.cells) (slots + rm.slots) → Qc v T'.heap L → Run p e below Q En T' (mkF m pc' Ls (v.toList ++ rest))) : Run p e below Q En T (mkF m pc Ls st) := by
  subst hp
  obtain ⟨cq, q, q'⟩ := E.cell
  obtain ⟨c2, k2, i1, i2, -, i4, -⟩ := Cond.instantiable_spec (mvT (args := args) hZ wi)
  have hpr : s.PrivateAt y := Cond.privateMethod_at (mvP (args := args) hZ wp)
  have hsel : (Jvm.Cond.selects y.cls y y).before args s = true := selects_self_of_private i1 i2 (by simpa using (Bool.or_eq_false_iff.mp i4).1) hpr (mvT hZ w2) hy
  obtain ⟨v, _, ⟨T', L', k', n'⟩, -, X', ⟨L, hQ, l1, y1, z1⟩, stp⟩ := X.privateBack hx (y := y) hown (mvT hZ w1) (mvT hZ w2) hsel hpr (mvT hZ w4) hy (backOf (W := W) hM hZ w4 w3 hf hl) (g := mkF m pc Ls st) rfl hsz (Steps.refl _) (a := a) (by rw [eT]; exact q) q' (argsL := argsL) (rest := rest) hlen hst (by show 2 * 0 + _ ≤ _; omega) hd (fun _ _ => ⟨has, eT, hcl, hsl⟩)
  dsimp only at X' l1 y1 z1 stp hQ
  subst l1 y1 z1
  exact (r v T' L X' hQ).on fun _ q => stp.trans q
theorem r_dup_x2 (at_ : At T m c below) (hx : p.tables.exec = Jvm.exec) {x y z : Value} (hd : decode c.code pc = .ok (.dup_x2, 1)) (hc : x.category = 1) (hc' : y.category = 1) (hc'' : z.category = 1) (hp : pc + 1 = pc') (r : Run p e below Q En T (mkF m pc' Ls (x :: y :: z :: x :: rest))) : Run p e below Q En T (mkF m pc Ls (x :: y :: z :: rest)) := by
  subst hp
  refine r.on fun t q => ?_
  show Steps p.tables e below (T.setTop { method := m, pc := pc, locals := Ls, stack := x :: y :: z :: rest, locked := none }) _
  jvm_step at_ [at_.top, hx, hd, hc, hc', hc'']
  exact q
end Core
section Arrays
variable {p : Program} {l : Launch} {e : Env} {R : Room} {s : State} {m : MethodId} {args : Array Value} {below : List Frame} {meth : Method} {c : Code} {T T' : State} {locs : List Loc} {cells slots : Nat} {Q : Option Value → Heap → List Loc → Prop} {En : Outcome → State → List Loc → Prop} {kc ks : Nat} {Z : State} {a0 : Array Value} {h h' : Heap} {Ls : Array Slot} {st rest : List Value} {pc pc' : Nat} {a b : Addr} {ty : FieldType} {n : Nat} {f g : Nat → Value} {F : Nat → Int32} {sl : Nat} {v : Value} {j : Int32}
/-- an array of n places and what lies in each -/
def Ary (Z : State) (h : Heap) (a : Addr) (ty : FieldType) (n : Nat) (f : Nat → Value) : Prop := ∃ c : Cell, Arr Z h a c ty ∧ c.slots.size = n ∧ ∀ i, i < n → c.slots[i]? = some (f i)
theorem Ary.lt (A : Ary Z h a ty n f) : a < h.size := by obtain ⟨c, A, -⟩ := A; exact A.lt
theorem Ary.ext (A : Ary Z h a ty n f) (E : Ext h h') : Ary Z h' a ty n f := by obtain ⟨c, A, r⟩ := A; exact ⟨c, A.ext E, r⟩
theorem Ary.other (A : Ary Z h b ty n f) (W : Wr h h' a sl v) (q : b ≠ a) : Ary Z h' b ty n f := by obtain ⟨c, A, r⟩ := A; exact ⟨c, A.other W q, r⟩
theorem Ary.keep {ws : List Addr} (A : Ary Z h a ty n f) (K : Keep h h' ws) (q : a ∉ ws) : Ary Z h' a ty n f := by obtain ⟨c, A, r⟩ := A; exact ⟨c, ⟨K.2.1 a c A.1 q, A.2⟩, r⟩
theorem Ary.congr (A : Ary Z h a ty n f) (q : ∀ i, i < n → f i = g i) : Ary Z h a ty n g := by obtain ⟨c, A, r1, r2⟩ := A; exact ⟨c, A, r1, fun i hi => by rw [r2 i hi, q i hi]⟩
theorem Ary.set (A : Ary Z h a ty n f) (W : Wr h h' a j.toNatClampNeg v) : Ary Z h' a ty n (fun i => if i = j.toInt.toNat then v else f i) := by
  obtain ⟨c, A, r1, r2⟩ := A
  refine ⟨_, A.same W, by rw [sz_set]; exact r1, fun i hi => ?_⟩
  show (c.slots.setIfInBounds j.toNatClampNeg v)[i]? = _
  have ej : j.toNatClampNeg = j.toInt.toNat := rfl
  by_cases q : i = j.toInt.toNat
  · simp only [q, if_true]; rw [← ej]; rw [ej, ← q]; simp [Array.getElem?_setIfInBounds, r1, hi]
  · simp only [q, if_false]; rw [Array.getElem?_setIfInBounds_ne (by rw [ej]; exact fun y => q y.symm)]; exact r2 i hi
theorem Ary.setI {x : Int32} (A : Ary Z h a ty n (fun i => .int (F i))) (W : Wr h h' a j.toNatClampNeg (.int x)) : Ary Z h' a ty n (fun i => .int (if i = j.toInt.toNat then x else F i)) :=
  (A.set W).congr fun i _ => by
    by_cases q : i = j.toInt.toNat
    · simp only [if_pos q]
    · simp only [if_neg q]
theorem Ary.setJ {x : Int64} {F : Nat → Int64} (A : Ary Z h a ty n (fun i => .long (F i))) (W : Wr h h' a j.toNatClampNeg (.long x)) : Ary Z h' a ty n (fun i => .long (if i = j.toInt.toNat then x else F i)) :=
  (A.set W).congr fun i _ => by
    by_cases q : i = j.toInt.toNat
    · simp only [if_pos q]
    · simp only [if_neg q]
theorem Ary.new {cA : ClassId} {z : Int32} (A : Arr Z h a (newA cA ty z) ty) (hz : z.toInt.toNat = n) : Ary Z h a ty n (fun _ => defaultValue ty) := by
  have ej : z.toNatClampNeg = z.toInt.toNat := rfl
  refine ⟨_, A, by rw [sz_new]; exact hz, fun i hi => ?_⟩
  show (Array.replicate z.toNatClampNeg (defaultValue ty))[i]? = _
  rw [ej, hz]; simp [hi]
theorem own_inb {cl : Cell} (h1 : cl.slots.size = n) (h0 : 0 ≤ j.toInt) (h2 : j.toInt < n) : ¬ (j < 0 ∨ cl.slots.size ≤ j.toNatClampNeg) := by
  rw [Int32.lt_iff_toInt_lt, show (0 : Int32).toInt = 0 from rfl]
  have ej : j.toNatClampNeg = j.toInt.toNat := rfl
  omega
theorem own_at {cl : Cell} (h3 : ∀ i, i < n → cl.slots[i]? = some (f i)) (h0 : 0 ≤ j.toInt) (h2 : j.toInt < n) (hv : f j.toInt.toNat = v) : cl.slots[j.toNatClampNeg]? = some v := by
  rw [← hv]; exact h3 _ (show j.toInt.toNat < n by omega)
theorem r_len (X : Stand p l e R s m args below meth c T locs cells slots) (hx : p.tables.exec = Jvm.exec) (hZ : Z.Warmed39 s.vm) (eT : T.heap = h) {z : Int32} (A : Ary Z h a ty n f) (hn : z.toInt = n) (hd : decode c.code pc = .ok (.arraylength, 1)) (hp : pc + 1 = pc') (r : Run p e below Q En T (mkF m pc' Ls (.int z :: rest))) : Run p e below Q En T (mkF m pc Ls (.ref a :: rest)) := by
  obtain ⟨cl, A, r1, -⟩ := A
  refine r_arraylength X hx hZ eT A ?_ hd hp r
  rw [r1]
  have q : z.toInt.toNat = n := by omega
  rw [← q]
  exact (back32 (n := z) (by rw [Int32.lt_iff_toInt_lt, show (0 : Int32).toInt = 0 from rfl]; omega)).1
theorem q_iaload (X : Stand p l e R s m args below meth c T locs cells slots) (hx : p.tables.exec = Jvm.exec) (hZ : Z.Warmed39 s.vm) (eT : T.heap = h) {v : Int32} (A : Ary Z h a .int n f) (h0 : 0 ≤ j.toInt) (h1 : j.toInt < n) (hv : f j.toInt.toNat = .int v) (hd : decode c.code pc = .ok (.iaload, 1)) (hp : pc + 1 = pc') (r : Run p e below Q En T (mkF m pc' Ls (.int v :: rest))) : Run p e below Q En T (mkF m pc Ls (.int j :: .ref a :: rest)) := by
  obtain ⟨cl, A, r1, r2⟩ := A
  exact r_iaload X hx hZ eT A (own_inb r1 h0 h1) (own_at r2 h0 h1 hv) hd hp r
theorem q_caload (X : Stand p l e R s m args below meth c T locs cells slots) (hx : p.tables.exec = Jvm.exec) (hZ : Z.Warmed39 s.vm) (eT : T.heap = h) {v : Int32} (A : Ary Z h a .char n f) (h0 : 0 ≤ j.toInt) (h1 : j.toInt < n) (hv : f j.toInt.toNat = .int v) (hd : decode c.code pc = .ok (.caload, 1)) (hp : pc + 1 = pc') (r : Run p e below Q En T (mkF m pc' Ls (.int v :: rest))) : Run p e below Q En T (mkF m pc Ls (.int j :: .ref a :: rest)) := by
  obtain ⟨cl, A, r1, r2⟩ := A
  exact r_caload X hx hZ eT A (own_inb r1 h0 h1) (own_at r2 h0 h1 hv) hd hp r
theorem q_saload (X : Stand p l e R s m args below meth c T locs cells slots) (hx : p.tables.exec = Jvm.exec) (hZ : Z.Warmed39 s.vm) (eT : T.heap = h) {v : Int32} (A : Ary Z h a .short n f) (h0 : 0 ≤ j.toInt) (h1 : j.toInt < n) (hv : f j.toInt.toNat = .int v) (hd : decode c.code pc = .ok (.saload, 1)) (hp : pc + 1 = pc') (r : Run p e below Q En T (mkF m pc' Ls (.int v :: rest))) : Run p e below Q En T (mkF m pc Ls (.int j :: .ref a :: rest)) := by
  obtain ⟨cl, A, r1, r2⟩ := A
  exact r_saload X hx hZ eT A (own_inb r1 h0 h1) (own_at r2 h0 h1 hv) hd hp r
theorem q_baload (X : Stand p l e R s m args below meth c T locs cells slots) (hx : p.tables.exec = Jvm.exec) (hZ : Z.Warmed39 s.vm) (eT : T.heap = h) {v : Int32} (A : Ary Z h a .byte n f) (h0 : 0 ≤ j.toInt) (h1 : j.toInt < n) (hv : f j.toInt.toNat = .int v) (hd : decode c.code pc = .ok (.baload, 1)) (hp : pc + 1 = pc') (r : Run p e below Q En T (mkF m pc' Ls (.int v :: rest))) : Run p e below Q En T (mkF m pc Ls (.int j :: .ref a :: rest)) := by
  obtain ⟨cl, A, r1, r2⟩ := A
  exact r_baload X hx hZ eT A (own_inb r1 h0 h1) (own_at r2 h0 h1 hv) hd hp r
theorem q_baloadZ (X : Stand p l e R s m args below meth c T locs cells slots) (hx : p.tables.exec = Jvm.exec) (hZ : Z.Warmed39 s.vm) (eT : T.heap = h) {v : Int32} (A : Ary Z h a .boolean n f) (h0 : 0 ≤ j.toInt) (h1 : j.toInt < n) (hv : f j.toInt.toNat = .int v) (hd : decode c.code pc = .ok (.baload, 1)) (hp : pc + 1 = pc') (r : Run p e below Q En T (mkF m pc' Ls (.int v :: rest))) : Run p e below Q En T (mkF m pc Ls (.int j :: .ref a :: rest)) := by
  obtain ⟨cl, A, r1, r2⟩ := A
  exact r_baloadZ X hx hZ eT A (own_inb r1 h0 h1) (own_at r2 h0 h1 hv) hd hp r
theorem q_laload (X : Stand p l e R s m args below meth c T locs cells slots) (hx : p.tables.exec = Jvm.exec) (hZ : Z.Warmed39 s.vm) (eT : T.heap = h) {v : Int64} (A : Ary Z h a .long n f) (h0 : 0 ≤ j.toInt) (h1 : j.toInt < n) (hv : f j.toInt.toNat = .long v) (hd : decode c.code pc = .ok (.laload, 1)) (hp : pc + 1 = pc') (r : Run p e below Q En T (mkF m pc' Ls (.long v :: rest))) : Run p e below Q En T (mkF m pc Ls (.int j :: .ref a :: rest)) := by
  obtain ⟨cl, A, r1, r2⟩ := A
  exact r_laload X hx hZ eT A (own_inb r1 h0 h1) (own_at r2 h0 h1 hv) hd hp r
theorem q_iastore (X : Stand p l e R s m args below meth c T locs cells slots) (hx : p.tables.exec = Jvm.exec) (hZ : Z.Warmed39 s.vm) (eT : T.heap = h) {x : Int32} {F : Nat → Int32} (A : Ary Z h a .int n (fun i => .int (F i))) (h0 : 0 ≤ j.toInt) (h1 : j.toInt < n) (hd : decode c.code pc = .ok (.iastore, 1)) (hp : pc + 1 = pc')
    (r : ∀ (T' : State) (h' : Heap), Stand p l e R s m args below meth c T' (locs ++ [⟨a, j.toNatClampNeg⟩]) cells slots → T'.heap = h' → Wr h h' a j.toNatClampNeg (.int x) → Ary Z h' a .int n (fun i => .int (if i = j.toInt.toNat then x else F i)) → Run p e below Q En T' (mkF m pc' Ls rest)) : Run p e below Q En T (mkF m pc Ls (.int x :: .int j :: .ref a :: rest)) := by
  have A' := A
  obtain ⟨cl, A, r1, r2⟩ := A
  exact r_iastore X hx hZ eT A (own_inb r1 h0 h1) hd hp fun T' h' X' e' W' => r T' h' X' e' W' (A'.setI W')
theorem q_lastore (X : Stand p l e R s m args below meth c T locs cells slots) (hx : p.tables.exec = Jvm.exec) (hZ : Z.Warmed39 s.vm) (eT : T.heap = h) {x : Int64} {F : Nat → Int64} (A : Ary Z h a .long n (fun i => .long (F i))) (h0 : 0 ≤ j.toInt) (h1 : j.toInt < n) (hd : decode c.code pc = .ok (.lastore, 1)) (hp : pc + 1 = pc')
    (r : ∀ (T' : State) (h' : Heap), Stand p l e R s m args below meth c T' (locs ++ [⟨a, j.toNatClampNeg⟩]) cells slots → T'.heap = h' → Wr h h' a j.toNatClampNeg (.long x) → Ary Z h' a .long n (fun i => .long (if i = j.toInt.toNat then x else F i)) → Run p e below Q En T' (mkF m pc' Ls rest)) : Run p e below Q En T (mkF m pc Ls (.long x :: .int j :: .ref a :: rest)) := by
  have A' := A
  obtain ⟨cl, A, r1, r2⟩ := A
  exact r_lastore X hx hZ eT A (own_inb r1 h0 h1) hd hp fun T' h' X' e' W' => r T' h' X' e' W' (A'.setJ W')
theorem q_castore (X : Stand p l e R s m args below meth c T locs cells slots) (hx : p.tables.exec = Jvm.exec) (hZ : Z.Warmed39 s.vm) (eT : T.heap = h) {x w : Int32} (A : Ary Z h a .char n (fun i => .int (F i))) (h0 : 0 ≤ j.toInt) (h1 : j.toInt < n) (hn : nar .char x = w) (hd : decode c.code pc = .ok (.castore, 1)) (hp : pc + 1 = pc')
    (r : ∀ (T' : State) (h' : Heap), Stand p l e R s m args below meth c T' (locs ++ [⟨a, j.toNatClampNeg⟩]) cells slots → T'.heap = h' → Wr h h' a j.toNatClampNeg (.int w) → Ary Z h' a .char n (fun i => .int (if i = j.toInt.toNat then w else F i)) → Run p e below Q En T' (mkF m pc' Ls rest)) : Run p e below Q En T (mkF m pc Ls (.int x :: .int j :: .ref a :: rest)) := by
  subst hn
  have A' := A
  obtain ⟨cl, A, r1, r2⟩ := A
  exact r_castore X hx hZ eT A (own_inb r1 h0 h1) hd hp fun T' h' X' e' W' => r T' h' X' e' W' (A'.setI W')
theorem q_sastore (X : Stand p l e R s m args below meth c T locs cells slots) (hx : p.tables.exec = Jvm.exec) (hZ : Z.Warmed39 s.vm) (eT : T.heap = h) {x w : Int32} (A : Ary Z h a .short n (fun i => .int (F i))) (h0 : 0 ≤ j.toInt) (h1 : j.toInt < n) (hn : nar .short x = w) (hd : decode c.code pc = .ok (.sastore, 1)) (hp : pc + 1 = pc')
    (r : ∀ (T' : State) (h' : Heap), Stand p l e R s m args below meth c T' (locs ++ [⟨a, j.toNatClampNeg⟩]) cells slots → T'.heap = h' → Wr h h' a j.toNatClampNeg (.int w) → Ary Z h' a .short n (fun i => .int (if i = j.toInt.toNat then w else F i)) → Run p e below Q En T' (mkF m pc' Ls rest)) : Run p e below Q En T (mkF m pc Ls (.int x :: .int j :: .ref a :: rest)) := by
  subst hn
  have A' := A
  obtain ⟨cl, A, r1, r2⟩ := A
  exact r_sastore X hx hZ eT A (own_inb r1 h0 h1) hd hp fun T' h' X' e' W' => r T' h' X' e' W' (A'.setI W')
theorem q_bastoreB (X : Stand p l e R s m args below meth c T locs cells slots) (hx : p.tables.exec = Jvm.exec) (hZ : Z.Warmed39 s.vm) (eT : T.heap = h) {x w : Int32} (A : Ary Z h a .byte n (fun i => .int (F i))) (h0 : 0 ≤ j.toInt) (h1 : j.toInt < n) (hn : nar .byte x = w) (hd : decode c.code pc = .ok (.bastore, 1)) (hp : pc + 1 = pc')
    (r : ∀ (T' : State) (h' : Heap), Stand p l e R s m args below meth c T' (locs ++ [⟨a, j.toNatClampNeg⟩]) cells slots → T'.heap = h' → Wr h h' a j.toNatClampNeg (.int w) → Ary Z h' a .byte n (fun i => .int (if i = j.toInt.toNat then w else F i)) → Run p e below Q En T' (mkF m pc' Ls rest)) : Run p e below Q En T (mkF m pc Ls (.int x :: .int j :: .ref a :: rest)) := by
  subst hn
  have A' := A
  obtain ⟨cl, A, r1, r2⟩ := A
  exact r_bastoreB X hx hZ eT A (own_inb r1 h0 h1) hd hp fun T' h' X' e' W' => r T' h' X' e' W' (A'.setI W')
theorem q_bastoreZ (X : Stand p l e R s m args below meth c T locs cells slots) (hx : p.tables.exec = Jvm.exec) (hZ : Z.Warmed39 s.vm) (eT : T.heap = h) {x w : Int32} (A : Ary Z h a .boolean n (fun i => .int (F i))) (h0 : 0 ≤ j.toInt) (h1 : j.toInt < n) (hn : nar .boolean x = w) (hd : decode c.code pc = .ok (.bastore, 1)) (hp : pc + 1 = pc')
    (r : ∀ (T' : State) (h' : Heap), Stand p l e R s m args below meth c T' (locs ++ [⟨a, j.toNatClampNeg⟩]) cells slots → T'.heap = h' → Wr h h' a j.toNatClampNeg (.int w) → Ary Z h' a .boolean n (fun i => .int (if i = j.toInt.toNat then w else F i)) → Run p e below Q En T' (mkF m pc' Ls rest)) : Run p e below Q En T (mkF m pc Ls (.int x :: .int j :: .ref a :: rest)) := by
  subst hn
  have A' := A
  obtain ⟨cl, A, r1, r2⟩ := A
  exact r_bastoreZ X hx hZ eT A (own_inb r1 h0 h1) hd hp fun T' h' X' e' W' => r T' h' X' e' W' (A'.setI W')
end Arrays
section Facts2
variable {Z : State} {h h' h0 : Heap} {ws : List Addr} {C n d : String} {v : Value} {a b : Addr}
theorem own_staKeep (F : Sta Z h C n d v) (K : Keep h h' ws) (q : ∀ x ∈ ws, ∃ c : Cell, h[x]? = some c ∧ c.vm.isStatics = false) : Sta Z h' C n d v := by
  obtain ⟨cf, i, k, f, st, cell, h1, h2, h3, h4, h5, h6, h7⟩ := F
  refine ⟨cf, i, k, f, st, cell, h1, h2, h3, h4, K.2.1 st cell h5 fun m => ?_, h6, h7⟩
  obtain ⟨c, e1, e2⟩ := q _ m
  cases h5.symm.trans e1
  rw [e2] at h6; cases h6
theorem own_exaS (E : Exa Z h a C) : ∃ c : Cell, h[a]? = some c ∧ c.vm.isStatics = false := by
  obtain ⟨c, _, h1, -, -, h4, -⟩ := E; exact ⟨c, h1, h4⟩
theorem own_arrS {c : Cell} {ty : FieldType} (A : Arr Z h a c ty) : ∃ c : Cell, h[a]? = some c ∧ c.vm.isStatics = false := ⟨c, A.1, A.plain⟩
theorem own_aryS {ty : FieldType} {m : Nat} {f : Nat → Value} (A : Ary Z h a ty m f) : ∃ c : Cell, h[a]? = some c ∧ c.vm.isStatics = false := by
  obtain ⟨c, A, -⟩ := A; exact own_arrS A
theorem own_staExt (F : Sta Z h C n d v) (E : Ext h h') : Sta Z h' C n d v := Sta.ext E F
theorem own_kext {E : Ext h h'} : Keep h h' [] := ⟨E.1, fun x c q _ => E.2 x c q, fun x c q => ⟨c, E.2 x c q, rfl, rfl, rfl⟩⟩
end Facts2
section Dbl0
variable {p : Program} {l : Launch} {e : Env} {R : Room} {s : State} {m : MethodId} {args : Array Value} {below : List Frame} {meth : Method} {c : Code} {T T' : State} {locs : List Loc} {cells slots : Nat} {Q : Option Value → Heap → List Loc → Prop} {En : Outcome → State → List Loc → Prop} {kc ks : Nat} {Z : State} {a0 : Array Value} {h h' : Heap} {Ls : Array Slot} {st rest : List Value} {pc pc' : Nat} {a b : Addr} {n : Nat} {f : Nat → Value} {j : Int32}
theorem r_dloadN (at_ : At T m c below) (hx : p.tables.exec = Jvm.exec) {k : Fin 4} {v : UInt64} (hd : decode c.code pc = .ok (.dload_n k, 1)) (hl : Ls[k.val]? = some (.val (.double v))) (hp : pc + 1 = pc') (r : Run p e below Q En T (mkF m pc' Ls (.double v :: rest))) : Run p e below Q En T (mkF m pc Ls (rest)) := by
  subst hp; exact r.on fun _ q => XS.dloadN at_ hx rfl hd hl q
theorem r_dload (at_ : At T m c below) (hx : p.tables.exec = Jvm.exec) {k : Nat} {v : UInt64} (hd : decode c.code pc = .ok (.dload k, 2)) (hl : Ls[k]? = some (.val (.double v))) (hp : pc + 2 = pc') (r : Run p e below Q En T (mkF m pc' Ls (.double v :: rest))) : Run p e below Q En T (mkF m pc Ls (rest)) := by
  subst hp; exact r.on fun _ q => XS.dload at_ hx rfl hd hl q
theorem r_dstoreN (at_ : At T m c below) (hx : p.tables.exec = Jvm.exec) {k : Fin 4} {x : UInt64} {l' : Array Slot} (hd : decode c.code pc = .ok (.dstore_n k, 1)) (hl : storeLocals Ls k.val (.double x) = some l') (hp : pc + 1 = pc') (r : Run p e below Q En T (mkF m pc' l' (rest))) : Run p e below Q En T (mkF m pc Ls (.double x :: rest)) := by
  subst hp; exact r.on fun _ q => XS.dstoreN at_ hx rfl hd rfl hl q
theorem r_dstore (at_ : At T m c below) (hx : p.tables.exec = Jvm.exec) {k : Nat} {x : UInt64} {l' : Array Slot} (hd : decode c.code pc = .ok (.dstore k, 2)) (hl : storeLocals Ls k (.double x) = some l') (hp : pc + 2 = pc') (r : Run p e below Q En T (mkF m pc' l' (rest))) : Run p e below Q En T (mkF m pc Ls (.double x :: rest)) := by
  subst hp; exact r.on fun _ q => XS.dstore at_ hx rfl hd rfl hl q
theorem r_dconst0 (at_ : At T m c below) (hx : p.tables.exec = Jvm.exec) {v : UInt64} (hd : decode c.code pc = .ok (.dconst 0, 1)) (hv : FP.dconst0 = v) (hp : pc + 1 = pc') (r : Run p e below Q En T (mkF m pc' Ls (.double v :: rest))) : Run p e below Q En T (mkF m pc Ls (rest)) := by
  subst hp; exact r.on fun _ q => XS.dconst0 at_ hx rfl hd hv q
theorem r_dconst1 (at_ : At T m c below) (hx : p.tables.exec = Jvm.exec) {v : UInt64} (hd : decode c.code pc = .ok (.dconst 1, 1)) (hv : FP.dconst1 = v) (hp : pc + 1 = pc') (r : Run p e below Q En T (mkF m pc' Ls (.double v :: rest))) : Run p e below Q En T (mkF m pc Ls (rest)) := by
  subst hp; exact r.on fun _ q => XS.dconst1 at_ hx rfl hd hv q
theorem r_i2d (at_ : At T m c below) (hx : p.tables.exec = Jvm.exec) {x : Int32} {v : UInt64} (hd : decode c.code pc = .ok (.i2d, 1)) (hv : FP.i2d x = v) (hp : pc + 1 = pc') (r : Run p e below Q En T (mkF m pc' Ls (.double v :: rest))) : Run p e below Q En T (mkF m pc Ls (.int x :: rest)) := by
  subst hp; exact r.on fun _ q => XS.i2dS at_ hx rfl hd rfl hv q
theorem r_l2d (at_ : At T m c below) (hx : p.tables.exec = Jvm.exec) {x : Int64} {v : UInt64} (hd : decode c.code pc = .ok (.l2d, 1)) (hv : FP.l2d x = v) (hp : pc + 1 = pc') (r : Run p e below Q En T (mkF m pc' Ls (.double v :: rest))) : Run p e below Q En T (mkF m pc Ls (.long x :: rest)) := by
  subst hp; exact r.on fun _ q => XS.l2dS at_ hx rfl hd rfl hv q
theorem r_dcmp (at_ : At T m c below) (hx : p.tables.exec = Jvm.exec) {o : CmpOp} {x y : UInt64} {v : Int32} (hd : decode c.code pc = .ok (.dcmp o, 1)) (hv : cmpValue (FP.dcmp x y) o = v) (hp : pc + 1 = pc') (r : Run p e below Q En T (mkF m pc' Ls (.int v :: rest))) : Run p e below Q En T (mkF m pc Ls (.double y :: .double x :: rest)) := by
  subst hp; exact r.on fun _ q => XS.dcmpS at_ hx rfl hd rfl hv q
theorem r_dadd (at_ : At T m c below) (hx : p.tables.exec = Jvm.exec) {x y v : UInt64} (hd : decode c.code pc = .ok (.dadd, 1)) (hn : Jvm.Free.Fl.NoNaN64 (FP.dadd x y)) (hv : FP.dadd x y = v) (hp : pc + 1 = pc') (r : Run p e below Q En T (mkF m pc' Ls (.double v :: rest))) : Run p e below Q En T (mkF m pc Ls (.double y :: .double x :: rest)) := by
  subst hp; exact r.on fun _ q => XS.daddS at_ hx rfl hd rfl hn hv q
theorem r_dsub (at_ : At T m c below) (hx : p.tables.exec = Jvm.exec) {x y v : UInt64} (hd : decode c.code pc = .ok (.dsub, 1)) (hn : Jvm.Free.Fl.NoNaN64 (FP.dsub x y)) (hv : FP.dsub x y = v) (hp : pc + 1 = pc') (r : Run p e below Q En T (mkF m pc' Ls (.double v :: rest))) : Run p e below Q En T (mkF m pc Ls (.double y :: .double x :: rest)) := by
  subst hp; exact r.on fun _ q => XS.dsubS at_ hx rfl hd rfl hn hv q
theorem r_dmul (at_ : At T m c below) (hx : p.tables.exec = Jvm.exec) {x y v : UInt64} (hd : decode c.code pc = .ok (.dmul, 1)) (hn : Jvm.Free.Fl.NoNaN64 (FP.dmul x y)) (hv : FP.dmul x y = v) (hp : pc + 1 = pc') (r : Run p e below Q En T (mkF m pc' Ls (.double v :: rest))) : Run p e below Q En T (mkF m pc Ls (.double y :: .double x :: rest)) := by
  subst hp; exact r.on fun _ q => XS.dmulS at_ hx rfl hd rfl hn hv q
theorem r_ldc2D (X : Stand p l e R s m args below meth c T locs cells slots) (hx : p.tables.exec = Jvm.exec) (hZ : Z.Warmed39 s.vm) {own : String} {index : Nat} {v : UInt64} (hown : s.vm.findClass own = some m.cls) (w : (Jvm.Cond.constantDouble own index v).before a0 Z = true) (hd : decode c.code pc = .ok (.ldc2_w index, 3)) (hp : pc + 3 = pc') (r : Run p e below Q En T (mkF m pc' Ls (.double v :: rest))) : Run p e below Q En T (mkF m pc Ls rest) := by
  subst hp; exact r.on fun _ q => X.ldc2DoubleC hx hown (mvT hZ w) (g := mkF m pc Ls rest) rfl hd _ q
theorem Ary.setD {x : UInt64} {F : Nat → UInt64} {ty : FieldType} (A : Ary Z h a ty n (fun i => .double (F i))) (W : Wr h h' a j.toNatClampNeg (.double x)) : Ary Z h' a ty n (fun i => .double (if i = j.toInt.toNat then x else F i)) :=
  (A.set W).congr fun i _ => by
    by_cases q : i = j.toInt.toNat
    · simp only [if_pos q]
    · simp only [if_neg q]
theorem q_dastore (X : Stand p l e R s m args below meth c T locs cells slots) (hx : p.tables.exec = Jvm.exec) (hZ : Z.Warmed39 s.vm) (eT : T.heap = h) {x : UInt64} {F : Nat → UInt64} (A : Ary Z h a .double n (fun i => .double (F i))) (h0 : 0 ≤ j.toInt) (h1 : j.toInt < n) (hd : decode c.code pc = .ok (.dastore, 1)) (hp : pc + 1 = pc')
    (r : ∀ (T' : State) (h' : Heap), Stand p l e R s m args below meth c T' (locs ++ [⟨a, j.toNatClampNeg⟩]) cells slots → T'.heap = h' → Wr h h' a j.toNatClampNeg (.double x) → Ary Z h' a .double n (fun i => .double (if i = j.toInt.toNat then x else F i)) → Run p e below Q En T' (mkF m pc' Ls rest)) : Run p e below Q En T (mkF m pc Ls (.double x :: .int j :: .ref a :: rest)) := by
  subst hp
  have A' := A
  obtain ⟨cl, A, r1, r2⟩ := A
  obtain ⟨T', h', X', e', W', stp⟩ := stD X hx hZ eT A (own_inb r1 h0 h1) (g := mkF m pc Ls (.double x :: .int j :: .ref a :: rest)) rfl rfl hd
  exact (r T' h' X' e' W' (A'.setD W')).on stp
theorem q_daload (X : Stand p l e R s m args below meth c T locs cells slots) (hx : p.tables.exec = Jvm.exec) (hZ : Z.Warmed39 s.vm) (eT : T.heap = h) {v : UInt64} (A : Ary Z h a .double n f) (h0 : 0 ≤ j.toInt) (h1 : j.toInt < n) (hv : f j.toInt.toNat = .double v) (hd : decode c.code pc = .ok (.daload, 1)) (hp : pc + 1 = pc') (r : Run p e below Q En T (mkF m pc' Ls (.double v :: rest))) : Run p e below Q En T (mkF m pc Ls (.int j :: .ref a :: rest)) := by
  subst hp
  obtain ⟨cl, A, r1, r2⟩ := A
  exact r.on fun _ q => X.daload hx (j := j) (v := .double v) (by rw [eT]; exact A.1) (State.isArrayOf_alike hZ.alike A.2.1) A.2.2 (own_inb r1 h0 h1) (own_at r2 h0 h1 hv) (g := mkF m pc Ls (.int j :: .ref a :: rest)) rfl rfl hd _ q
end Dbl0

section Copy
variable {p : Program} {l : Launch} {e : Env} {R : Room} {s : State} {m : MethodId} {args : Array Value} {below : List Frame} {meth : Method} {c : Code} {T T' : State} {locs : List Loc} {cells slots : Nat} {Q : Option Value → Heap → List Loc → Prop} {En : Outcome → State → List Loc → Prop} {kc ks : Nat} {Z : State} {a0 : Array Value} {h h' : Heap} {Ls : Array Slot} {st rest : List Value} {pc pc' : Nat} {a b : Addr} {ty : FieldType} {n n' : Nat} {f g : Nat → Value}
theorem own_toArv {z : Int32} {d : Value} (A : Ary Z h a ty n f) (hz : z.toInt = n) (hf : ∀ i, i < n → fits ty (f i) = true) : ∃ k, Arv Z h a k ty z ((List.range n).map f) d := by
  obtain ⟨c, A, r1, r2⟩ := A
  have ez : z.toNatClampNeg = n := by show z.toInt.toNat = n; omega
  refine ⟨c.cls, c, A, rfl, by rw [r1, ez], by rw [Int32.lt_iff_toInt_lt, show (0 : Int32).toInt = 0 from rfl]; omega, fun i hi => ?_, fun i hi => ?_⟩
  · rw [r1] at hi
    rw [r2 i hi]; simp [List.getD, hi]
  · rw [r1] at hi
    have := hf i hi
    simpa [List.getD, hi] using this
theorem own_ofArv {z : Int32} {k : ClassId} {vs : List Value} {d : Value} (A : Arv Z h a k ty z vs d) (hz : z.toInt = n) : Ary Z h a ty n (fun i => vs.getD i d) := by
  obtain ⟨c, A, -, r1, -, r2, -⟩ := A
  have ez : z.toNatClampNeg = n := by show z.toInt.toNat = n; omega
  rw [ez] at r1
  exact ⟨c, A, r1, fun i hi => r2 i (by rw [r1]; exact hi)⟩
theorem own_cpl (vd us : List Value) (d : Value) (dp nn : Nat) (h1 : us.length = nn) (h2 : dp + nn ≤ vd.length) (i : Nat) : (vd.take dp ++ us ++ vd.drop (dp + nn)).getD i d = if dp ≤ i ∧ i < dp + nn then us.getD (i - dp) d else vd.getD i d := by
  have lt : (vd.take dp).length = dp := by rw [List.length_take]; omega
  simp only [List.getD_eq_getElem?_getD]
  by_cases q1 : i < dp
  · rw [if_neg (by omega), List.getElem?_append_left (by rw [List.length_append, lt]; omega), List.getElem?_append_left (by rw [lt]; omega), List.getElem?_take_of_lt q1]
  · by_cases q2 : i < dp + nn
    · rw [if_pos ⟨by omega, q2⟩, List.getElem?_append_left (by rw [List.length_append, lt]; omega), List.getElem?_append_right (by rw [lt]; omega), lt]
    · rw [if_neg (by omega), List.getElem?_append_right (by rw [List.length_append, lt]; omega), List.length_append, lt, h1, List.getElem?_drop, show dp + nn + (i - (dp + nn)) = i by omega]
theorem own_rng (n i : Nat) (f : Nat → Value) (d : Value) (h : i < n) : ((List.range n).map f).getD i d = f i := by
  simp [List.getD_eq_getElem?_getD, h]
theorem r_arraycopy (X : Stand p l e R s m args below meth c T locs cells slots) (hx : p.tables.exec = Jvm.exec) (hZ : Z.Warmed39 s.vm) {own : String} {index : Nat} (hown : s.vm.findClass own = some m.cls)
    (w1 : (Jvm.Cond.methodLink own index Jvm.Stand.acN).before a0 Z = true) (w2 : (Jvm.Cond.native Jvm.Stand.acN).before a0 Z = true) (w3 : (Jvm.Cond.static Jvm.Stand.acN).before a0 Z = true) (w4 : (Jvm.Cond.initialized "java/lang/System").before a0 Z = true) (eT : T.heap = h)
    {z z' sp dp nn : Int32} {n0 W : Nat} (A : Ary Z h a ty n f) (B : Ary Z h b ty n' g) (hz : z.toInt = n) (hz' : z'.toInt = n') (hk : refKind ty = false) (fa : ∀ i, i < n → fits ty (f i) = true) (fb : ∀ i, i < n' → fits ty (g i) = true)
    (h1 : 0 ≤ sp.toInt) (h2 : 0 ≤ dp.toInt) (h3 : 0 ≤ nn.toInt) (h4 : sp.toInt + nn.toInt ≤ n) (h5 : dp.toInt + nn.toInt ≤ n') (N : Fr n0 locs) (ge : n0 ≤ b) (hsz : Ls.size = c.maxLocals)
    (hf : 1 ≤ R.frames) (hW : (rest.map fun v => v.category).sum = W) (hlo : W + (nativeFrameWords "java/lang/System" "arraycopy" 5 + 11) ≤ R.locals) (hd : decode c.code pc = .ok (.invokestatic index, 3)) (hp : pc + 3 = pc')
    (r : ∀ (T' : State) (h' : Heap) (L : List Loc), Stand p l e R s m args below meth c T' L cells slots → T'.heap = h' → Fr n0 L → Keep h h' [b] → Ary Z h' b ty n' (fun i => if dp.toInt.toNat ≤ i ∧ i < dp.toInt.toNat + nn.toInt.toNat then f (sp.toInt.toNat + (i - dp.toInt.toNat)) else g i) → Run p e below Q En T' (mkF m pc' Ls rest)) :
    Run p e below Q En T (mkF m pc Ls (.int nn :: .int dp :: .ref b :: .int sp :: .ref a :: rest)) := by
  subst hp
  have lt0 : ∀ {x : Int32}, 0 ≤ x.toInt → ¬ x < 0 := fun {x} q => by rw [Int32.lt_iff_toInt_lt, show (0 : Int32).toInt = 0 from rfl]; omega
  have es : sp.toNatClampNeg = sp.toInt.toNat := rfl
  have ed : dp.toNatClampNeg = dp.toInt.toNat := rfl
  have en : nn.toNatClampNeg = nn.toInt.toNat := rfl
  have ez : z.toNatClampNeg = n := by show z.toInt.toNat = n; omega
  have ez' : z'.toNatClampNeg = n' := by show z'.toInt.toNat = n'; omega
  obtain ⟨k1, A'⟩ := own_toArv (d := .int 0) A hz fa
  obtain ⟨k2, B'⟩ := own_toArv (d := .int 0) B hz' fb
  obtain ⟨T', h', L, X', e', N', K', C', stp⟩ := cpA X hx hZ hown w1 w2 w3 w4 eT A' B' (Or.inl ⟨rfl, hk⟩) (lt0 h1) (lt0 h2) (lt0 h3) (by rw [es, en, ez]; omega) (by rw [ed, en, ez']; omega) rfl (by rw [ed, en]; simp; omega) N ge (g := mkF m pc Ls (.int nn :: .int dp :: .ref b :: .int sp :: .ref a :: rest)) rfl hsz rfl hd hf (W := W) (by show 2 * 0 + _ ≤ _; omega) hlo
  refine (r T' h' L X' e' N' K' ((own_ofArv C' hz').congr fun i hi => ?_)).on stp
  rw [ed, en, es]
  rw [own_cpl _ _ _ _ _ (by simp) (by simp; omega)]
  by_cases q : dp.toInt.toNat ≤ i ∧ i < dp.toInt.toNat + nn.toInt.toNat
  · rw [if_pos q, if_pos q, own_rng _ _ _ _ (by omega), own_rng _ _ _ _ (by omega)]
  · rw [if_neg q, if_neg q, own_rng _ _ _ _ hi]
end Copy

/-! the plain law of the graph: endpoints α, their counts, places -/
def own_al (A : Nat → Int32) (i : Nat) : Nat := (A i).toInt.toNat
def own_cnt (A : Nat → Int32) (v : Nat) : Nat → Nat
  | 0 => 0
  | k + 1 => own_cnt A v k + if own_al A k = v then 1 else 0
def own_S (A : Nat → Int32) (M : Nat) : Nat → Nat
  | 0 => 0
  | v + 1 => own_S A M v + own_cnt A v M
def own_pos (A : Nat → Int32) (M i : Nat) : Nat := own_S A M (own_al A i) + own_cnt A (own_al A i) i
def own_pa (i : Nat) : Nat := if i % 2 = 0 then i + 1 else i - 1
theorem own_cm (A : Nat → Int32) (v : Nat) {i k : Nat} (h : i ≤ k) : own_cnt A v i ≤ own_cnt A v k := by
  induction k with
  | zero => have : i = 0 := by omega
            subst this; exact Nat.le_refl _
  | succ k ih =>
    by_cases q : i = k + 1
    · subst q; exact Nat.le_refl _
    · have := ih (by omega)
      simp only [own_cnt]; omega
theorem own_cs (A : Nat → Int32) {v i k : Nat} (h : i < k) (hv : own_al A i = v) : own_cnt A v i < own_cnt A v k := by
  have h1 := own_cm A v (show i + 1 ≤ k from h)
  have h2 : own_cnt A v (i + 1) = own_cnt A v i + 1 := by simp only [own_cnt, if_pos hv]
  omega
theorem own_ck (A : Nat → Int32) (v k : Nat) : own_cnt A v k ≤ k := by
  induction k with
  | zero => exact Nat.le_refl _
  | succ k ih => simp only [own_cnt]; split <;> omega
theorem own_Sm (A : Nat → Int32) (M : Nat) {u v : Nat} (h : u ≤ v) : own_S A M u ≤ own_S A M v := by
  induction v with
  | zero => have : u = 0 := by omega
            subst this; exact Nat.le_refl _
  | succ v ih =>
    by_cases q : u = v + 1
    · subst q; exact Nat.le_refl _
    · have := ih (by omega)
      simp only [own_S]; omega
/-- the counts of all nodes below v, of k endpoints -/
theorem own_St (A : Nat → Int32) (k : Nat) : ∀ v, own_S A k v ≤ k := by
  induction k with
  | zero =>
    intro v
    induction v with
    | zero => exact Nat.le_refl _
    | succ v ih => simp only [own_S, own_cnt]; exact ih
  | succ k ih =>
    have step : ∀ v, own_S A (k + 1) v = own_S A k v + if own_al A k < v then 1 else 0 := by
      intro v
      induction v with
      | zero => simp [own_S]
      | succ v iv =>
        simp only [own_S, own_cnt, iv]
        by_cases q : own_al A k < v
        · have : own_al A k ≠ v := by omega
          simp only [if_pos q, if_neg this, if_pos (show own_al A k < v + 1 by omega)]; omega
        · by_cases q2 : own_al A k = v
          · simp only [if_neg q, if_pos q2, if_pos (show own_al A k < v + 1 by omega)]; omega
          · simp only [if_neg q, if_neg q2, if_neg (show ¬ own_al A k < v + 1 by omega)]; omega
    intro v
    rw [step v]
    have := ih v
    split <;> omega
theorem own_pl (A : Nat → Int32) {M i n : Nat} (h : i < M) (hn : own_al A i < n) : own_S A M (own_al A i) ≤ own_pos A M i ∧ own_pos A M i < own_S A M (own_al A i + 1) ∧ own_pos A M i < own_S A M n := by
  have h1 := own_cs A h rfl
  have h2 : own_S A M (own_al A i + 1) = own_S A M (own_al A i) + own_cnt A (own_al A i) M := rfl
  have h3 := own_Sm A M (show own_al A i + 1 ≤ n from hn)
  unfold own_pos
  omega
theorem own_pi (A : Nat → Int32) {M i j : Nat} (h : i < j) (hj : j < M) : own_pos A M i ≠ own_pos A M j := by
  by_cases q : own_al A i = own_al A j
  · have := own_cs A h q
    unfold own_pos; rw [q]; omega
  · have p1 := own_pl A (show i < M by omega) (Nat.lt_succ_self (own_al A i))
    have p2 := own_pl A hj (Nat.lt_succ_self (own_al A j))
    rcases Nat.lt_or_gt_of_ne q with q | q
    · have := own_Sm A M (show own_al A i + 1 ≤ own_al A j from q)
      omega
    · have := own_Sm A M (show own_al A j + 1 ≤ own_al A i from q)
      omega
/-- every place of v's stretch is an endpoint's -/
theorem own_ps (A : Nat → Int32) {M v j : Nat} (h1 : own_S A M v ≤ j) (h2 : j < own_S A M (v + 1)) : ∃ i, i < M ∧ own_al A i = v ∧ own_pos A M i = j := by
  have key : ∀ k t, t < own_cnt A v k → ∃ i, i < k ∧ own_al A i = v ∧ own_cnt A v i = t := by
    intro k
    induction k with
    | zero => intro t ht; simp [own_cnt] at ht
    | succ k ih =>
      intro t ht
      by_cases q : t < own_cnt A v k
      · obtain ⟨i, a, b, c⟩ := ih t q
        exact ⟨i, by omega, b, c⟩
      · simp only [own_cnt] at ht
        by_cases q2 : own_al A k = v
        · rw [if_pos q2] at ht
          exact ⟨k, by omega, q2, by omega⟩
        · rw [if_neg q2] at ht; omega
  have h3 : own_S A M (v + 1) = own_S A M v + own_cnt A v M := rfl
  obtain ⟨i, a, b, c⟩ := key M (j - own_S A M v) (by omega)
  exact ⟨i, a, b, by unfold own_pos; rw [b, c]; omega⟩
/-- a set that no edge leaves -/
def Clo (A : Nat → Int32) (m : Nat) (C : Nat → Prop) : Prop := ∀ e, e < m → (C (own_al A (2 * e)) ↔ C (own_al A (2 * e + 1)))
theorem Clo.pa {A : Nat → Int32} {m : Nat} {C : Nat → Prop} (h : Clo A m C) {i : Nat} (hi : i < 2 * m) (hc : C (own_al A i)) : C (own_al A (own_pa i)) := by
  by_cases q : i % 2 = 0
  · have e1 : i = 2 * (i / 2) := by omega
    have e2 : own_pa i = 2 * (i / 2) + 1 := by unfold own_pa; rw [if_pos q]; omega
    rw [e2]; rw [e1] at hc; exact (h (i / 2) (by omega)).mp hc
  · have e1 : i = 2 * (i / 2) + 1 := by omega
    have e2 : own_pa i = 2 * (i / 2) := by unfold own_pa; rw [if_neg q]; omega
    rw [e2]; rw [e1] at hc; exact (h (i / 2) (by omega)).mpr hc
theorem Clo.of {A : Nat → Int32} {m : Nat} {C : Nat → Prop} (h : ∀ i, i < 2 * m → C (own_al A i) → C (own_al A (own_pa i))) : Clo A m C := by
  intro e he
  have p1 : own_pa (2 * e) = 2 * e + 1 := by unfold own_pa; rw [if_pos (by omega)]
  have p2 : own_pa (2 * e + 1) = 2 * e := by unfold own_pa; rw [if_neg (by omega)]; omega
  exact ⟨fun q => p1 ▸ h (2 * e) (by omega) q, fun q => p2 ▸ h (2 * e + 1) (by omega) q⟩
/-- how many of the first n (at most 4) are set -/
def own_i (n : Nat) (F : Nat → Int32) (x : Nat) : Nat := if x < n ∧ ¬ F x = 0 then 1 else 0
def own_card (n : Nat) (F : Nat → Int32) : Nat := own_i n F 0 + own_i n F 1 + own_i n F 2 + own_i n F 3
def own_set (F : Nat → Int32) (k : Nat) : Nat → Int32 := fun i => if i = k then 1 else F i
theorem own_i1 (n : Nat) (F : Nat → Int32) (x : Nat) : own_i n F x ≤ 1 := by unfold own_i; split <;> omega
theorem own_i0 {n : Nat} {F : Nat → Int32} {x : Nat} (h : ¬ x < n) : own_i n F x = 0 := by unfold own_i; rw [if_neg (fun q => h q.1)]
theorem own_iset {n : Nat} {F : Nat → Int32} {k x : Nat} (h : x ≠ k) : own_i n (own_set F k) x = own_i n F x := by simp only [own_i, own_set, if_neg h]
theorem own_iset' {n : Nat} {F : Nat → Int32} {k : Nat} (h : k < n) : own_i n (own_set F k) k = 1 := by
  unfold own_i own_set; rw [if_pos]; exact ⟨h, by simp⟩
theorem own_cle {n : Nat} (F : Nat → Int32) (hn : n ≤ 4) : own_card n F ≤ n := by
  have a0 := own_i1 n F 0; have a1 := own_i1 n F 1; have a2 := own_i1 n F 2; have a3 := own_i1 n F 3
  have b0 := @own_i0 n F 0; have b1 := @own_i0 n F 1; have b2 := @own_i0 n F 2; have b3 := @own_i0 n F 3
  unfold own_card; omega
theorem own_clt {n : Nat} {F : Nat → Int32} {w : Nat} (hn : n ≤ 4) (hw : w < n) (h : F w = 0) : own_card n F < n ∧ own_card n (own_set F w) = own_card n F + 1 := by
  have z : own_i n F w = 0 := by unfold own_i; rw [if_neg (fun q => q.2 h)]
  have s := @own_iset' n F w hw
  have a0 := own_i1 n F 0; have a1 := own_i1 n F 1; have a2 := own_i1 n F 2; have a3 := own_i1 n F 3
  have b0 := @own_i0 n F 0; have b1 := @own_i0 n F 1; have b2 := @own_i0 n F 2; have b3 := @own_i0 n F 3
  have c0 := @own_iset n F w 0; have c1 := @own_iset n F w 1; have c2 := @own_iset n F w 2; have c3 := @own_iset n F w 3
  have hw4 : w = 0 ∨ w = 1 ∨ w = 2 ∨ w = 3 := by omega
  unfold own_card
  rcases hw4 with rfl | rfl | rfl | rfl
  · have := c1 (by decide); have := c2 (by decide); have := c3 (by decide); omega
  · have := c0 (by decide); have := c2 (by decide); have := c3 (by decide); omega
  · have := c0 (by decide); have := c1 (by decide); have := c3 (by decide); omega
  · have := c0 (by decide); have := c1 (by decide); have := c2 (by decide); omega
theorem own_call {n : Nat} {F : Nat → Int32} (hn : n ≤ 4) (h : 4 ≤ own_card n F) : ∀ x, x < n → ¬ F x = 0 := by
  have a0 := own_i1 n F 0; have a1 := own_i1 n F 1; have a2 := own_i1 n F 2; have a3 := own_i1 n F 3
  have g : ∀ x, own_i n F x = 1 → ¬ F x = 0 := fun x q => by
    unfold own_i at q; split at q
    · rename_i z; exact z.2
    · omega
  unfold own_card at h
  intro x hx
  have hx4 : x = 0 ∨ x = 1 ∨ x = 2 ∨ x = 3 := by omega
  rcases hx4 with rfl | rfl | rfl | rfl <;> exact g _ (by omega)
/-- one relaxing step, as the law does it -/
def own_rel (F : Nat → Int32) (a b : Nat) : Nat → Int32 :=
  let G := if F a = 0 then F else own_set F b
  if G b = 0 then G else own_set G a
theorem own_relv (F : Nat → Int32) (a b x : Nat) : (¬ own_rel F a b x = 0) ↔ (¬ F x = 0 ∨ ((x = a ∨ x = b) ∧ (¬ F a = 0 ∨ ¬ F b = 0))) := by
  unfold own_rel
  by_cases ha : F a = 0
  · simp only [if_pos ha]
    by_cases hb : F b = 0
    · simp only [if_pos hb, ha, hb]; simp
    · simp only [if_neg hb, own_set]
      by_cases q : x = a
      · simp [q, hb]
      · simp only [if_neg q]
        by_cases q2 : x = b
        · simp [q2, hb]
        · simp [q, q2]
  · simp only [if_neg ha]
    have e : own_set F b b = 1 := by simp [own_set]
    rw [e, if_neg (by decide)]
    simp only [own_set]
    by_cases q : x = a
    · simp [q, ha]
    · simp only [if_neg q]
      by_cases q2 : x = b
      · simp [q2, ha]
      · simp [q, q2]
theorem own_ieq {n : Nat} {F G : Nat → Int32} {x : Nat} (h : (¬ F x = 0) ↔ (¬ G x = 0)) : own_i n F x = own_i n G x := by
  unfold own_i
  by_cases q : F x = 0
  · have : G x = 0 := Classical.not_not.mp (fun z => h.mpr z q)
    simp [q, this]
  · have := h.mp q
    simp [q, this]
theorem own_cmono {n : Nat} {F G : Nat → Int32} (h : ∀ x, ¬ F x = 0 → ¬ G x = 0) : own_card n F ≤ own_card n G := by
  have g : ∀ x, own_i n F x ≤ own_i n G x := fun x => by
    by_cases q : F x = 0
    · unfold own_i; rw [if_neg (fun z => z.2 q)]; omega
    · rw [own_ieq (x := x) ⟨fun z => h x z, fun _ => q⟩]; omega
  have := g 0; have := g 1; have := g 2; have := g 3
  unfold own_card; omega
theorem own_csame {n : Nat} {F G : Nat → Int32} (hn : n ≤ 4) (h : ∀ x, ¬ F x = 0 → ¬ G x = 0) (e : own_card n G ≤ own_card n F) : ∀ x, x < n → ((¬ G x = 0) → ¬ F x = 0) := by
  have g : ∀ x, own_i n F x ≤ own_i n G x := fun x => by
    by_cases q : F x = 0
    · unfold own_i; rw [if_neg (fun z => z.2 q)]; omega
    · rw [own_ieq (x := x) ⟨fun z => h x z, fun _ => q⟩]; omega
  have a0 := g 0; have a1 := g 1; have a2 := g 2; have a3 := g 3
  unfold own_card at e
  have k : ∀ x, own_i n G x ≤ own_i n F x → x < n → ¬ G x = 0 → ¬ F x = 0 := fun x q hx hG hF => by
    have r1 : own_i n G x = 1 := by unfold own_i; rw [if_pos ⟨hx, hG⟩]
    have r2 : own_i n F x = 0 := by unfold own_i; rw [if_neg (fun z => z.2 hF)]
    omega
  intro x hx
  have hx4 : x = 0 ∨ x = 1 ∨ x = 2 ∨ x = 3 := by omega
  rcases hx4 with rfl | rfl | rfl | rfl <;> exact k _ (by omega) hx
/-- the law's relaxing of edge e, where it is there -/
def own_re (A : Nat → Int32) (m : Nat) (F : Nat → Int32) (e : Nat) : Nat → Int32 := if e < m then own_rel F (own_al A (2 * e)) (own_al A (2 * e + 1)) else F
def own_pass (A : Nat → Int32) (m : Nat) (F : Nat → Int32) : Nat → Int32 := own_re A m (own_re A m (own_re A m (own_re A m (own_re A m (own_re A m F 0) 1) 2) 3) 4) 5
theorem own_remono (A : Nat → Int32) (m : Nat) (F : Nat → Int32) (e x : Nat) (h : ¬ F x = 0) : ¬ own_re A m F e x = 0 := by
  unfold own_re; split
  · exact (own_relv _ _ _ _).mpr (Or.inl h)
  · exact h
/-- sound: within every closed set -/
theorem own_resound {A : Nat → Int32} {m : Nat} {F : Nat → Int32} {C : Nat → Prop} (hC : Clo A m C) (e : Nat) (h : ∀ x, ¬ F x = 0 → C x) : ∀ x, ¬ own_re A m F e x = 0 → C x := by
  intro x hx
  unfold own_re at hx
  split at hx
  · rename_i he
    have c := hC e he
    rcases (own_relv _ _ _ _).mp hx with q | ⟨q, r⟩
    · exact h x q
    · have ca : C (own_al A (2 * e)) := r.elim (fun z => h _ z) (fun z => c.mpr (h _ z))
      rcases q with q | q
      · rw [q]; exact ca
      · rw [q]; exact c.mp ca
  · exact h x hx
/-- where a step changes nothing below n, its edge doesn't leave -/
theorem own_restay {A : Nat → Int32} {m n : Nat} {F : Nat → Int32} {e : Nat} (hA : ∀ i, i < 2 * m → own_al A i < n) (h : ∀ x, x < n → (¬ own_re A m F e x = 0) → ¬ F x = 0) (he : e < m) : (¬ F (own_al A (2 * e)) = 0) ↔ (¬ F (own_al A (2 * e + 1)) = 0) := by
  unfold own_re at h
  rw [if_pos he] at h
  constructor
  · intro q; exact h _ (hA _ (by omega)) ((own_relv _ _ _ _).mpr (Or.inr ⟨Or.inr rfl, Or.inl q⟩))
  · intro q; exact h _ (hA _ (by omega)) ((own_relv _ _ _ _).mpr (Or.inr ⟨Or.inl rfl, Or.inr q⟩))
theorem own_pmono (A : Nat → Int32) (m : Nat) (F : Nat → Int32) (x : Nat) (h : ¬ F x = 0) : ¬ own_pass A m F x = 0 :=
  own_remono _ _ _ _ _ (own_remono _ _ _ _ _ (own_remono _ _ _ _ _ (own_remono _ _ _ _ _ (own_remono _ _ _ _ _ (own_remono _ _ _ _ _ h)))))
theorem own_psound {A : Nat → Int32} {m : Nat} {F : Nat → Int32} {C : Nat → Prop} (hC : Clo A m C) (h : ∀ x, ¬ F x = 0 → C x) : ∀ x, ¬ own_pass A m F x = 0 → C x :=
  own_resound hC _ (own_resound hC _ (own_resound hC _ (own_resound hC _ (own_resound hC _ (own_resound hC _ h)))))
/-- a pass that gains nothing finds a closed set -/
theorem own_pclo {A : Nat → Int32} {m n : Nat} {F : Nat → Int32} (hn : n ≤ 4) (hm : m ≤ 6) (hA : ∀ i, i < 2 * m → own_al A i < n) (e : own_card n (own_pass A m F) ≤ own_card n F) : Clo A m (fun x => ¬ F x = 0) := by
  obtain ⟨F1, h1⟩ : ∃ G, G = own_re A m F 0 := ⟨_, rfl⟩
  obtain ⟨F2, h2⟩ : ∃ G, G = own_re A m F1 1 := ⟨_, rfl⟩
  obtain ⟨F3, h3⟩ : ∃ G, G = own_re A m F2 2 := ⟨_, rfl⟩
  obtain ⟨F4, h4⟩ : ∃ G, G = own_re A m F3 3 := ⟨_, rfl⟩
  obtain ⟨F5, h5⟩ : ∃ G, G = own_re A m F4 4 := ⟨_, rfl⟩
  obtain ⟨F6, h6⟩ : ∃ G, G = own_re A m F5 5 := ⟨_, rfl⟩
  have ep : own_pass A m F = F6 := by unfold own_pass; rw [h6, h5, h4, h3, h2, h1]
  rw [ep] at e
  have m1 : ∀ x, ¬ F x = 0 → ¬ F1 x = 0 := fun x q => h1 ▸ own_remono _ _ _ _ _ q
  have m2 : ∀ x, ¬ F1 x = 0 → ¬ F2 x = 0 := fun x q => h2 ▸ own_remono _ _ _ _ _ q
  have m3 : ∀ x, ¬ F2 x = 0 → ¬ F3 x = 0 := fun x q => h3 ▸ own_remono _ _ _ _ _ q
  have m4 : ∀ x, ¬ F3 x = 0 → ¬ F4 x = 0 := fun x q => h4 ▸ own_remono _ _ _ _ _ q
  have m5 : ∀ x, ¬ F4 x = 0 → ¬ F5 x = 0 := fun x q => h5 ▸ own_remono _ _ _ _ _ q
  have m6 : ∀ x, ¬ F5 x = 0 → ¬ F6 x = 0 := fun x q => h6 ▸ own_remono _ _ _ _ _ q
  have s := own_csame hn (fun x q => m6 x (m5 x (m4 x (m3 x (m2 x (m1 x q)))))) e
  have b1 : ∀ x, x < n → ¬ F1 x = 0 → ¬ F x = 0 := fun x hx q => s x hx (m6 x (m5 x (m4 x (m3 x (m2 x q)))))
  have b2 : ∀ x, x < n → ¬ F2 x = 0 → ¬ F x = 0 := fun x hx q => s x hx (m6 x (m5 x (m4 x (m3 x q))))
  have b3 : ∀ x, x < n → ¬ F3 x = 0 → ¬ F x = 0 := fun x hx q => s x hx (m6 x (m5 x (m4 x q)))
  have b4 : ∀ x, x < n → ¬ F4 x = 0 → ¬ F x = 0 := fun x hx q => s x hx (m6 x (m5 x q))
  have b5 : ∀ x, x < n → ¬ F5 x = 0 → ¬ F x = 0 := fun x hx q => s x hx (m6 x q)
  have f2 : ∀ x, ¬ F x = 0 → ¬ F2 x = 0 := fun x q => m2 x (m1 x q)
  have f3 : ∀ x, ¬ F x = 0 → ¬ F3 x = 0 := fun x q => m3 x (f2 x q)
  have f4 : ∀ x, ¬ F x = 0 → ¬ F4 x = 0 := fun x q => m4 x (f3 x q)
  have f5 : ∀ x, ¬ F x = 0 → ¬ F5 x = 0 := fun x q => m5 x (f4 x q)
  have tr : ∀ (G : Nat → Int32) (e : Nat), e < m → (∀ x, ¬ F x = 0 → ¬ G x = 0) → (∀ x, x < n → ¬ G x = 0 → ¬ F x = 0) → (∀ x, x < n → ¬ own_re A m G e x = 0 → ¬ F x = 0) → ((¬ F (own_al A (2 * e)) = 0) ↔ (¬ F (own_al A (2 * e + 1)) = 0)) := fun G e he up dn st => by
    have k := own_restay (A := A) (m := m) (n := n) (F := G) (e := e) hA (fun x hx q => up x (st x hx q)) he
    exact ⟨fun q => dn _ (hA _ (by omega)) (k.mp (up _ q)), fun q => dn _ (hA _ (by omega)) (k.mpr (up _ q))⟩
  intro e he
  have he6 : e = 0 ∨ e = 1 ∨ e = 2 ∨ e = 3 ∨ e = 4 ∨ e = 5 := by omega
  rcases he6 with rfl | rfl | rfl | rfl | rfl | rfl
  · exact tr F 0 he (fun _ q => q) (fun _ _ q => q) (fun x hx q => b1 x hx (h1 ▸ q))
  · exact tr F1 1 he m1 b1 (fun x hx q => b2 x hx (h2 ▸ q))
  · exact tr F2 2 he f2 b2 (fun x hx q => b3 x hx (h3 ▸ q))
  · exact tr F3 3 he f3 b3 (fun x hx q => b4 x hx (h4 ▸ q))
  · exact tr F4 4 he f4 b4 (fun x hx q => b5 x hx (h5 ▸ q))
  · exact tr F5 5 he f5 b5 (fun x hx q => s x hx (h6 ▸ q))
theorem own_cloeq {A : Nat → Int32} {m n : Nat} {F G : Nat → Int32} (hA : ∀ i, i < 2 * m → own_al A i < n) (h : ∀ x, x < n → ((¬ F x = 0) ↔ ¬ G x = 0)) (c : Clo A m (fun x => ¬ F x = 0)) : Clo A m (fun x => ¬ G x = 0) := fun e he => by
  have q := c e he
  show (¬ G _ = 0) ↔ (¬ G _ = 0)
  rw [← h _ (hA _ (by omega)), ← h _ (hA _ (by omega))]; exact q
/-- three passes are enough below four nodes -/
theorem own_three {A : Nat → Int32} {m n : Nat} {F : Nat → Int32} (hn : n ≤ 4) (h1 : 1 ≤ n) (hm : m ≤ 6) (hA : ∀ i, i < 2 * m → own_al A i < n) (h0 : ¬ F 0 = 0) :
    Clo A m (fun x => ¬ own_pass A m (own_pass A m (own_pass A m F)) x = 0) := by
  obtain ⟨F1, e1⟩ : ∃ G, G = own_pass A m F := ⟨_, rfl⟩
  obtain ⟨F2, e2⟩ : ∃ G, G = own_pass A m F1 := ⟨_, rfl⟩
  obtain ⟨F3, e3⟩ : ∃ G, G = own_pass A m F2 := ⟨_, rfl⟩
  rw [← e1, ← e2, ← e3]
  have stay : ∀ G : Nat → Int32, Clo A m (fun x => ¬ G x = 0) → Clo A m (fun x => ¬ own_pass A m G x = 0) ∧ ∀ x, (¬ own_pass A m G x = 0) → ¬ G x = 0 := fun G c => by
    have d := own_psound (F := G) c (fun x q => q)
    exact ⟨own_cloeq hA (fun x _ => ⟨fun q => own_pmono _ _ _ _ q, fun q => d x q⟩) c, d⟩
  by_cases q1 : own_card n F1 ≤ own_card n F
  · have c0 := own_pclo hn hm hA (e1 ▸ q1)
    have c1 := (stay F c0).1
    rw [← e1] at c1
    have c2 := (stay F1 c1).1
    rw [← e2] at c2
    have c3 := (stay F2 c2).1
    rw [← e3] at c3
    exact c3
  · by_cases q2 : own_card n F2 ≤ own_card n F1
    · have c1 := own_pclo (F := F1) hn hm hA (e2 ▸ q2)
      have c2 := (stay F1 c1).1
      rw [← e2] at c2
      have c3 := (stay F2 c2).1
      rw [← e3] at c3
      exact c3
    · by_cases q3 : own_card n F3 ≤ own_card n F2
      · have c2 := own_pclo (F := F2) hn hm hA (e3 ▸ q3)
        have c3 := (stay F2 c2).1
        rw [← e3] at c3
        exact c3
      · have z : 1 ≤ own_card n F := by
          have : own_i n F 0 = 1 := by unfold own_i; rw [if_pos ⟨by omega, h0⟩]
          unfold own_card; omega
        have all := own_call (F := F3) hn (by omega)
        intro e he
        exact ⟨fun _ => all _ (hA _ (by omega)), fun _ => all _ (hA _ (by omega))⟩

theorem own_ri (x : Int32) : -2147483648 ≤ x.toInt ∧ x.toInt ≤ 2147483647 := by
  have h1 := Int32.minValue_le_toInt x
  have h2 := Int32.toInt_le x
  have e1 : Int32.minValue.toInt = -2147483648 := by decide
  have e2 : Int32.maxValue.toInt = 2147483647 := by decide
  omega
theorem own_ad {x y : Int32} {s : Int} (hs : x.toInt + y.toInt = s) (h1 : -2147483648 ≤ s) (h2 : s ≤ 2147483647) : (x + y).toInt = s := by
  have := c_iadd x y; have := own_ri (x + y); omega
theorem own_2e {e : Int32} {ee : Nat} (h : e.toInt = ee) (h2 : ee ≤ 6) : ((2 : Int32) * e).toInt = 2 * ee ∧ ((2 : Int32) * e + 1).toInt = 2 * ee + 1 := by
  have c := c_imul 2 e
  have l : (2 : Int32).toInt = 2 := rfl
  have l1 : (1 : Int32).toInt = 1 := rfl
  have g := own_ri ((2 : Int32) * e)
  rw [l, h] at c
  have a : ((2 : Int32) * e).toInt = 2 * ee := by omega
  exact ⟨a, own_ad (by rw [a, l1]) (by omega) (by omega)⟩
theorem own_inc {e : Int32} {ee : Nat} (h : e.toInt = ee) (h2 : ee ≤ 1000) : (e + 1).toInt = ((ee + 1 : Nat) : Int) := own_ad (by have l1 : (1 : Int32).toInt = 1 := rfl; rw [h, l1]; omega) (by omega) (by omega)
theorem own_nz1 : nar .boolean 1 = 1 := rfl
theorem d1_0 : decode method_3_code 0 = .ok (.iload_n 0, 1) := by decide +kernel
theorem d1_1 : decode method_3_code 1 = .ok (.iconst 2, 1) := by decide +kernel
theorem d1_2 : decode method_3_code 2 = .ok (.iload_n 1, 1) := by decide +kernel
theorem d1_3 : decode method_3_code 3 = .ok (.imul, 1) := by decide +kernel
theorem d1_4 : decode method_3_code 4 = .ok (.iushr, 1) := by decide +kernel
theorem d1_5 : decode method_3_code 5 = .ok (.iconst 3, 1) := by decide +kernel
theorem d1_6 : decode method_3_code 6 = .ok (.iand, 1) := by decide +kernel
theorem d1_7 : decode method_3_code 7 = .ok (.iload_n 2, 1) := by decide +kernel
theorem d1_8 : decode method_3_code 8 = .ok (.irem, 1) := by decide +kernel
theorem d1_9 : decode method_3_code 9 = .ok (.ireturn, 1) := by decide +kernel
theorem pn_0 : plainName "com/example/medianest/medianest/GraphFirstUnreachablePinLaw" = true := by first | (simp [plainName, overriddenIn]; done) | decide +kernel
theorem ef_rmE (m : MethodId) (x0 : Int32) (x1 : Int32) (x2 : Int32) : entryFrame m #[(.int x0), (.int x1), (.int x2)] 3 = mkF m 0 #[.val (.int x0), .val (.int x1), .val (.int x2)] [] := by first | (simp [entryFrame, mkF, argsToLocals, Value.category, maxLocals]; done) | rfl
set_option maxRecDepth 65536 in
set_option maxHeartbeats 40000000 in
theorem rmE (l : Launch) (Z : State) (a0 : Array Value) (hw : ∀ d ∈ tables_1, d.before a0 Z = true) (ws : List Jvm.Cond) (bits i n : Int32) (h0 : Heap) (n0 : Nat) (Z0 : n0 ≤ h0.size) (hn : 1 ≤ n.toInt) :
    Met l Z (⟨"com/example/medianest/medianest/GraphFirstUnreachablePinLaw", "end", "(III)I"⟩ : MethodName) method_3_code 3 (some .int) ws ({ frames := 0, cells := 0, slots := 0, locals := 0 } : Room) #[(.int bits), (.int i), (.int n)] h0 (fun v h L => ∃ z : Int32, v = some (.int z) ∧ Fr n0 L ∧ h = h0 ∧ 0 ≤ z.toInt ∧ z.toInt < n.toInt) 0 0 := by
  refine met_of (plainFor_of_name pn_0) (f0 := fun m => (mkF m 0 #[.val (.int bits), .val (.int i), .val (.int n)] [])) (fun m => ef_rmE m bits i n) ?_
  intro p e s m below meth c s₁ X0 hx hby hml hret hlk hown hnm hZ e0
  replace hown : s.vm.findClass "com/example/medianest/medianest/GraphFirstUnreachablePinLaw" = some m.cls := hown
  have N0 := Fr.nil n0
  refine r_iloadN X0.here hx (hb hby d1_0) rfl (pc' := 1) rfl ?_
  refine r_iconst X0.here hx (hb hby d1_1) (v := 2) rfl (pc' := 2) rfl ?_
  refine r_iloadN X0.here hx (hb hby d1_2) rfl (pc' := 3) rfl ?_
  refine r_imul X0.here hx (hb hby d1_3) (pc' := 4) rfl ?_
  refine r_iushr X0.here hx (hb hby d1_4) (pc' := 5) rfl ?_
  refine r_iconst X0.here hx (hb hby d1_5) (v := 3) rfl (pc' := 6) rfl ?_
  refine r_iand X0.here hx (hb hby d1_6) (pc' := 7) rfl ?_
  refine r_iloadN X0.here hx (hb hby d1_7) rfl (pc' := 8) rfl ?_
  refine r_irem X0.here hx (hb hby d1_8) (fun q => by rw [q] at hn; revert hn; decide) (pc' := 9) rfl ?_
  refine r_retI X0 hx hlk hret (hb hby d1_9) ?_ (by decide) (by decide)
  try rw [e0]
  have h1 := c_and (ushrI bits (2 * i)) 3 (by decide)
  have h2 := (c_iremV ((ushrI bits (2 * i)) &&& 3) n).1 h1.1 (by omega)
  exact ⟨_, rfl, N0, rfl, h2.1, h2.2.1⟩
theorem d8_0 : decode method_5_code 0 = .ok (.iload_n 3, 1) := by decide +kernel
theorem d8_1 : decode method_5_code 1 = .ok (.iload_n 2, 1) := by decide +kernel
theorem d8_2 : decode method_5_code 2 = .ok (.if_icmp .ge 43, 3) := by decide +kernel
theorem d8_45 : decode method_5_code 45 = .ok (.return_, 1) := by decide +kernel
theorem d8_5 : decode method_5_code 5 = .ok (.aload_n 1, 1) := by decide +kernel
theorem d8_6 : decode method_5_code 6 = .ok (.iconst 2, 1) := by decide +kernel
theorem d8_7 : decode method_5_code 7 = .ok (.iload_n 3, 1) := by decide +kernel
theorem d8_8 : decode method_5_code 8 = .ok (.imul, 1) := by decide +kernel
theorem d8_9 : decode method_5_code 9 = .ok (.iaload, 1) := by decide +kernel
theorem d8_10 : decode method_5_code 10 = .ok (.istore 4, 2) := by decide +kernel
theorem d8_12 : decode method_5_code 12 = .ok (.aload_n 1, 1) := by decide +kernel
theorem d8_13 : decode method_5_code 13 = .ok (.iconst 2, 1) := by decide +kernel
theorem d8_14 : decode method_5_code 14 = .ok (.iload_n 3, 1) := by decide +kernel
theorem d8_15 : decode method_5_code 15 = .ok (.imul, 1) := by decide +kernel
theorem d8_16 : decode method_5_code 16 = .ok (.iconst 1, 1) := by decide +kernel
theorem d8_17 : decode method_5_code 17 = .ok (.iadd, 1) := by decide +kernel
theorem d8_18 : decode method_5_code 18 = .ok (.iaload, 1) := by decide +kernel
theorem d8_19 : decode method_5_code 19 = .ok (.istore 5, 2) := by decide +kernel
theorem d8_21 : decode method_5_code 21 = .ok (.aload_n 0, 1) := by decide +kernel
theorem d8_22 : decode method_5_code 22 = .ok (.iload 4, 2) := by decide +kernel
theorem d8_24 : decode method_5_code 24 = .ok (.baload, 1) := by decide +kernel
theorem d8_25 : decode method_5_code 25 = .ok (.ifCond .eq 8, 3) := by decide +kernel
theorem d8_33 : decode method_5_code 33 = .ok (.aload_n 0, 1) := by decide +kernel
theorem d8_34 : decode method_5_code 34 = .ok (.iload 5, 2) := by decide +kernel
theorem d8_36 : decode method_5_code 36 = .ok (.baload, 1) := by decide +kernel
theorem d8_37 : decode method_5_code 37 = .ok (.ifCond .eq 8, 3) := by decide +kernel
theorem d8_40 : decode method_5_code 40 = .ok (.aload_n 0, 1) := by decide +kernel
theorem d8_41 : decode method_5_code 41 = .ok (.iload 4, 2) := by decide +kernel
theorem d8_43 : decode method_5_code 43 = .ok (.iconst 1, 1) := by decide +kernel
theorem d8_44 : decode method_5_code 44 = .ok (.bastore, 1) := by decide +kernel
theorem d8_28 : decode method_5_code 28 = .ok (.aload_n 0, 1) := by decide +kernel
theorem d8_29 : decode method_5_code 29 = .ok (.iload 5, 2) := by decide +kernel
theorem d8_31 : decode method_5_code 31 = .ok (.iconst 1, 1) := by decide +kernel
theorem d8_32 : decode method_5_code 32 = .ok (.bastore, 1) := by decide +kernel
theorem ef_rmR (m : MethodId) (x0 : Addr) (x1 : Addr) (x2 : Int32) (x3 : Int32) : entryFrame m #[(.ref x0), (.ref x1), (.int x2), (.int x3)] 6 = mkF m 0 #[.val (.ref x0), .val (.ref x1), .val (.int x2), .val (.int x3), .unset, .unset] [] := by first | (simp [entryFrame, mkF, argsToLocals, Value.category, maxLocals]; done) | rfl
set_option maxRecDepth 65536 in
set_option maxHeartbeats 40000000 in
theorem rmR (l : Launch) (Z : State) (a0 : Array Value) (hw : ∀ d ∈ tables_1, d.before a0 Z = true) (ws : List Jvm.Cond) (r en : Addr) (mc ei : Int32) (M ee N : Nat) (F A : Nat → Int32) (h0 : Heap) (n0 : Nat) (Z0 : n0 ≤ h0.size) (gr : n0 ≤ r) (ner : en ≠ r) (Ar : Ary Z h0 r .boolean 4 (fun i => .int (F i))) (Ae : Ary Z h0 en .int 12 (fun i => .int (A i))) (hm : mc.toInt = M) (he : ei.toInt = ee) (h6 : ee < 6) (hN : N ≤ 4) (rA : ∀ i, i < 12 → 0 ≤ (A i).toInt ∧ (A i).toInt < N) :
    Met l Z (⟨"com/example/medianest/medianest/GraphFirstUnreachablePinLaw", "relax", "([Z[III)V"⟩ : MethodName) method_5_code 6 none ws ({ frames := 0, cells := 0, slots := 0, locals := 0 } : Room) #[(.ref r), (.ref en), (.int mc), (.int ei)] h0 (fun v h L => v = none ∧ Fr n0 L ∧ Keep h0 h [r] ∧ Ary Z h r .boolean 4 (fun i => .int (own_re A M F ee i))) 0 0 := by
  refine met_of (plainFor_of_name pn_0) (f0 := fun m => (mkF m 0 #[.val (.ref r), .val (.ref en), .val (.int mc), .val (.int ei), .unset, .unset] [])) (fun m => ef_rmR m r en mc ei) ?_
  intro p e s m below meth c s₁ X0 hx hby hml hret hlk hown hnm hZ e0
  replace hown : s.vm.findClass "com/example/medianest/medianest/GraphFirstUnreachablePinLaw" = some m.cls := hown
  have N0 := Fr.nil n0
  have i2 := own_2e he (by omega)
  refine r_iloadN X0.here hx (hb hby d8_0) rfl (pc' := 1) rfl ?_
  refine r_iloadN X0.here hx (hb hby d8_1) rfl (pc' := 2) rfl ?_
  refine r_if_ge X0.here hx (hb hby d8_2) (by decide) (pc' := 45) (by decide) (pc2 := 5) rfl (fun hc2 => ?_) (fun hc2 => ?_)
  · refine r_ret0 X0 hx hlk hret (hb hby d8_45) ?_ (by decide) (by decide)
    try rw [e0]
    refine ⟨rfl, N0, Keep.refl _ _, Ar.congr fun i _ => ?_⟩
    rw [show own_re A M F ee = F from if_neg (by omega)]
  · have hee : ee < M := by omega
    have ra := rA (2 * ee) (by omega)
    have rb := rA (2 * ee + 1) (by omega)
    refine r_aloadN X0.here hx (hb hby d8_5) rfl rfl (pc' := 6) rfl ?_
    refine r_iconst X0.here hx (hb hby d8_6) (v := 2) rfl (pc' := 7) rfl ?_
    refine r_iloadN X0.here hx (hb hby d8_7) rfl (pc' := 8) rfl ?_
    refine r_imul X0.here hx (hb hby d8_8) (pc' := 9) rfl ?_
    refine q_iaload X0 hx hZ e0 (j := ((2 : Int32) * ei)) (v := (A (2 * ee))) Ae (by omega) (by omega) (congrArg (fun z => Value.int (A z)) (show ((2 : Int32) * ei).toInt.toNat = 2 * ee by omega)) (hb hby d8_9) (pc' := 10) rfl ?_
    refine r_istore X0.here hx (hb hby d8_10) (l' := #[.val (.ref r), .val (.ref en), .val (.int mc), .val (.int ei), .val (.int (A (2 * ee))), .unset]) rfl (pc' := 12) rfl ?_
    refine r_aloadN X0.here hx (hb hby d8_12) rfl rfl (pc' := 13) rfl ?_
    refine r_iconst X0.here hx (hb hby d8_13) (v := 2) rfl (pc' := 14) rfl ?_
    refine r_iloadN X0.here hx (hb hby d8_14) rfl (pc' := 15) rfl ?_
    refine r_imul X0.here hx (hb hby d8_15) (pc' := 16) rfl ?_
    refine r_iconst X0.here hx (hb hby d8_16) (v := 1) rfl (pc' := 17) rfl ?_
    refine r_iadd X0.here hx (hb hby d8_17) (pc' := 18) rfl ?_
    refine q_iaload X0 hx hZ e0 (j := (((2 : Int32) * ei) + (1 : Int32))) (v := (A (2 * ee + 1))) Ae (by omega) (by omega) (congrArg (fun z => Value.int (A z)) (show ((2 : Int32) * ei + 1).toInt.toNat = 2 * ee + 1 by omega)) (hb hby d8_18) (pc' := 19) rfl ?_
    refine r_istore X0.here hx (hb hby d8_19) (l' := #[.val (.ref r), .val (.ref en), .val (.int mc), .val (.int ei), .val (.int (A (2 * ee))), .val (.int (A (2 * ee + 1)))]) rfl (pc' := 21) rfl ?_
    refine r_aloadN X0.here hx (hb hby d8_21) rfl rfl (pc' := 22) rfl ?_
    refine r_iload X0.here hx (hb hby d8_22) rfl (pc' := 24) rfl ?_
    refine q_baloadZ X0 hx hZ e0 (j := (A (2 * ee))) (v := (F (own_al A (2 * ee)))) Ar (by omega) (by omega) rfl (hb hby d8_24) (pc' := 25) rfl ?_
    refine r_if0_eq X0.here hx (hb hby d8_25) (by decide) (pc' := 33) (by decide) (pc2 := 28) rfl (fun hc25 => ?_) (fun hc25 => ?_)
    · refine r_aloadN X0.here hx (hb hby d8_33) rfl rfl (pc' := 34) rfl ?_
      refine r_iload X0.here hx (hb hby d8_34) rfl (pc' := 36) rfl ?_
      refine q_baloadZ X0 hx hZ e0 (j := (A (2 * ee + 1))) (v := (F (own_al A (2 * ee + 1)))) Ar (by omega) (by omega) rfl (hb hby d8_36) (pc' := 37) rfl ?_
      refine r_if0_eq X0.here hx (hb hby d8_37) (by decide) (pc' := 45) (by decide) (pc2 := 40) rfl (fun hc37 => ?_) (fun hc37 => ?_)
      · refine r_ret0 X0 hx hlk hret (hb hby d8_45) ?_ (by decide) (by decide)
        try rw [e0]
        refine ⟨rfl, N0, Keep.refl _ _, (Ar).congr fun i _ => ?_⟩
        rw [show own_re A M F ee = own_rel F (own_al A (2 * ee)) (own_al A (2 * ee + 1)) from if_pos hee]
        simp only [own_rel, if_pos hc25, if_pos hc37]
        try rfl
      · refine r_aloadN X0.here hx (hb hby d8_40) rfl rfl (pc' := 41) rfl ?_
        refine r_iload X0.here hx (hb hby d8_41) rfl (pc' := 43) rfl ?_
        refine r_iconst X0.here hx (hb hby d8_43) (v := 1) rfl (pc' := 44) rfl ?_
        refine q_bastoreZ X0 hx hZ e0 (j := (A (2 * ee))) Ar (by omega) (by omega) (w := (1 : Int32)) rfl (hb hby d8_44) (pc' := 45) rfl (fun T1 h1 X1 e1 W1 A1 => ?_)
        have K2 : Keep h0 h0 [r] := Keep.refl _ _
        have K3 := K2.wr W1 (Or.inl (List.mem_of_getElem? (i := 0) rfl))
        have f4 := Ae.other W1 ner
        have Z5 : n0 ≤ h1.size := by have q := Z0; rw [W1.size]; exact q
        have N1 := Fr.snoc X1 N0 gr
        refine r_ret0 X1 hx hlk hret (hb hby d8_45) ?_ (by decide) (by decide)
        try rw [e1]
        refine ⟨rfl, N1, K3, (A1).congr fun i _ => ?_⟩
        rw [show own_re A M F ee = own_rel F (own_al A (2 * ee)) (own_al A (2 * ee + 1)) from if_pos hee]
        simp only [own_rel, if_pos hc25, if_neg hc37]
        try rfl
    · refine r_aloadN X0.here hx (hb hby d8_28) rfl rfl (pc' := 29) rfl ?_
      refine r_iload X0.here hx (hb hby d8_29) rfl (pc' := 31) rfl ?_
      refine r_iconst X0.here hx (hb hby d8_31) (v := 1) rfl (pc' := 32) rfl ?_
      refine q_bastoreZ X0 hx hZ e0 (j := (A (2 * ee + 1))) Ar (by omega) (by omega) (w := (1 : Int32)) rfl (hb hby d8_32) (pc' := 33) rfl (fun T6 h6 X6 e6 W6 A6 => ?_)
      have K7 : Keep h0 h0 [r] := Keep.refl _ _
      have K8 := K7.wr W6 (Or.inl (List.mem_of_getElem? (i := 0) rfl))
      have f9 := Ae.other W6 ner
      have Z10 : n0 ≤ h6.size := by have q := Z0; rw [W6.size]; exact q
      have N6 := Fr.snoc X6 N0 gr
      refine r_aloadN X6.here hx (hb hby d8_33) rfl rfl (pc' := 34) rfl ?_
      refine r_iload X6.here hx (hb hby d8_34) rfl (pc' := 36) rfl ?_
      refine q_baloadZ X6 hx hZ e6 (j := (A (2 * ee + 1))) (v := (1 : Int32)) A6 (by omega) (by omega) (by show Value.int (if _ = _ then 1 else _) = _; rw [if_pos rfl]) (hb hby d8_36) (pc' := 37) rfl ?_
      refine r_if0_eq X6.here hx (hb hby d8_37) (by decide) (pc' := 45) (by decide) (pc2 := 40) rfl (fun hc37 => absurd hc37 (by decide)) (fun hc37 => ?_)
      refine r_aloadN X6.here hx (hb hby d8_40) rfl rfl (pc' := 41) rfl ?_
      refine r_iload X6.here hx (hb hby d8_41) rfl (pc' := 43) rfl ?_
      refine r_iconst X6.here hx (hb hby d8_43) (v := 1) rfl (pc' := 44) rfl ?_
      refine q_bastoreZ X6 hx hZ e6 (j := (A (2 * ee))) A6 (by omega) (by omega) (w := (1 : Int32)) rfl (hb hby d8_44) (pc' := 45) rfl (fun T11 h11 X11 e11 W11 A11 => ?_)
      have K12 := K8.wr W11 (Or.inl (List.mem_of_getElem? (i := 0) rfl))
      have f13 := f9.other W11 ner
      have Z14 : n0 ≤ h11.size := by have q := Z10; rw [W11.size]; exact q
      have N11 := Fr.snoc X11 N6 gr
      refine r_ret0 X11 hx hlk hret (hb hby d8_45) ?_ (by decide) (by decide)
      try rw [e11]
      refine ⟨rfl, N11, K12, (A11).congr fun i _ => ?_⟩
      rw [show own_re A M F ee = own_rel F (own_al A (2 * ee)) (own_al A (2 * ee + 1)) from if_pos hee]
      have e1 : own_set F (own_al A (2 * ee + 1)) (own_al A (2 * ee + 1)) = 1 := by simp [own_set]
      simp only [own_rel, if_neg hc25, e1, if_neg (show ¬ (1 : Int32) = 0 by decide)]
      try rfl
theorem d7_0 : decode method_4_code 0 = .ok (.aload_n 0, 1) := by decide +kernel
theorem d7_1 : decode method_4_code 1 = .ok (.aload_n 1, 1) := by decide +kernel
theorem d7_2 : decode method_4_code 2 = .ok (.iload_n 2, 1) := by decide +kernel
theorem d7_3 : decode method_4_code 3 = .ok (.iconst 0, 1) := by decide +kernel
theorem d7_4 : decode method_4_code 4 = .ok (.invokestatic 26, 3) := by decide +kernel
theorem pd_0 : parseMethodDescriptor "([Z[III)V" = some ⟨[(.array .boolean), (.array .int), .int, .int], none⟩ := by decide +kernel
theorem d7_7 : decode method_4_code 7 = .ok (.aload_n 0, 1) := by decide +kernel
theorem d7_8 : decode method_4_code 8 = .ok (.aload_n 1, 1) := by decide +kernel
theorem d7_9 : decode method_4_code 9 = .ok (.iload_n 2, 1) := by decide +kernel
theorem d7_10 : decode method_4_code 10 = .ok (.iconst 1, 1) := by decide +kernel
theorem d7_11 : decode method_4_code 11 = .ok (.invokestatic 26, 3) := by decide +kernel
theorem d7_14 : decode method_4_code 14 = .ok (.aload_n 0, 1) := by decide +kernel
theorem d7_15 : decode method_4_code 15 = .ok (.aload_n 1, 1) := by decide +kernel
theorem d7_16 : decode method_4_code 16 = .ok (.iload_n 2, 1) := by decide +kernel
theorem d7_17 : decode method_4_code 17 = .ok (.iconst 2, 1) := by decide +kernel
theorem d7_18 : decode method_4_code 18 = .ok (.invokestatic 26, 3) := by decide +kernel
theorem d7_21 : decode method_4_code 21 = .ok (.aload_n 0, 1) := by decide +kernel
theorem d7_22 : decode method_4_code 22 = .ok (.aload_n 1, 1) := by decide +kernel
theorem d7_23 : decode method_4_code 23 = .ok (.iload_n 2, 1) := by decide +kernel
theorem d7_24 : decode method_4_code 24 = .ok (.iconst 3, 1) := by decide +kernel
theorem d7_25 : decode method_4_code 25 = .ok (.invokestatic 26, 3) := by decide +kernel
theorem d7_28 : decode method_4_code 28 = .ok (.aload_n 0, 1) := by decide +kernel
theorem d7_29 : decode method_4_code 29 = .ok (.aload_n 1, 1) := by decide +kernel
theorem d7_30 : decode method_4_code 30 = .ok (.iload_n 2, 1) := by decide +kernel
theorem d7_31 : decode method_4_code 31 = .ok (.iconst 4, 1) := by decide +kernel
theorem d7_32 : decode method_4_code 32 = .ok (.invokestatic 26, 3) := by decide +kernel
theorem d7_35 : decode method_4_code 35 = .ok (.aload_n 0, 1) := by decide +kernel
theorem d7_36 : decode method_4_code 36 = .ok (.aload_n 1, 1) := by decide +kernel
theorem d7_37 : decode method_4_code 37 = .ok (.iload_n 2, 1) := by decide +kernel
theorem d7_38 : decode method_4_code 38 = .ok (.iconst 5, 1) := by decide +kernel
theorem d7_39 : decode method_4_code 39 = .ok (.invokestatic 26, 3) := by decide +kernel
theorem d7_42 : decode method_4_code 42 = .ok (.return_, 1) := by decide +kernel
theorem ef_rmPs (m : MethodId) (x0 : Addr) (x1 : Addr) (x2 : Int32) : entryFrame m #[(.ref x0), (.ref x1), (.int x2)] 3 = mkF m 0 #[.val (.ref x0), .val (.ref x1), .val (.int x2)] [] := by first | (simp [entryFrame, mkF, argsToLocals, Value.category, maxLocals]; done) | rfl
set_option maxRecDepth 65536 in
set_option maxHeartbeats 40000000 in
theorem rmPs (l : Launch) (Z : State) (a0 : Array Value) (hw : ∀ d ∈ tables_1, d.before a0 Z = true) (ws : List Jvm.Cond) (r en : Addr) (mc : Int32) (M N : Nat) (F A : Nat → Int32) (h0 : Heap) (n0 : Nat) (Z0 : n0 ≤ h0.size) (gr : n0 ≤ r) (ner : en ≠ r) (Ar : Ary Z h0 r .boolean 4 (fun i => .int (F i))) (Ae : Ary Z h0 en .int 12 (fun i => .int (A i))) (hm : mc.toInt = M) (hN : N ≤ 4) (rA : ∀ i, i < 12 → 0 ≤ (A i).toInt ∧ (A i).toInt < N) :
    Met l Z (⟨"com/example/medianest/medianest/GraphFirstUnreachablePinLaw", "pass", "([Z[II)V"⟩ : MethodName) method_4_code 3 none ws ({ frames := 1, cells := 0, slots := 0, locals := 17 } : Room) #[(.ref r), (.ref en), (.int mc)] h0 (fun v h L => v = none ∧ Fr n0 L ∧ Keep h0 h [r] ∧ Ary Z h r .boolean 4 (fun i => .int (own_pass A M F i))) 0 0 := by
  refine met_of (plainFor_of_name pn_0) (f0 := fun m => (mkF m 0 #[.val (.ref r), .val (.ref en), .val (.int mc)] [])) (fun m => ef_rmPs m r en mc) ?_
  intro p e s m below meth c s₁ X0 hx hby hml hret hlk hown hnm hZ e0
  replace hown : s.vm.findClass "com/example/medianest/medianest/GraphFirstUnreachablePinLaw" = some m.cls := hown
  have N0 := Fr.nil n0
  refine r_aloadN X0.here hx (hb hby d7_0) rfl rfl (pc' := 1) rfl ?_
  refine r_aloadN X0.here hx (hb hby d7_1) rfl rfl (pc' := 2) rfl ?_
  refine r_iloadN X0.here hx (hb hby d7_2) rfl (pc' := 3) rfl ?_
  refine r_iconst X0.here hx (hb hby d7_3) (v := 0) rfl (pc' := 4) rfl ?_
  refine r_callS X0 hx hZ (y := (⟨"com/example/medianest/medianest/GraphFirstUnreachablePinLaw", "relax", "([Z[III)V"⟩ : MethodName)) (rm := ({ frames := 0, cells := 0, slots := 0, locals := 0 } : Room)) hown (hw _ (List.mem_of_getElem? (i := 44) rfl)) (hw _ (List.mem_of_getElem? (i := 45) rfl)) (hw _ (List.mem_of_getElem? (i := 3) rfl)) (hw _ (List.mem_of_getElem? (i := 46) rfl)) (by decide) (rmR l Z a0 hw [] r en mc 0 M 0 N F A h0 n0 Z0 gr ner Ar Ae hm rfl (by decide) hN rA) e0 (by rw [hml]; rfl) (argsL := [(.ref r), (.ref en), (.int mc), (.int (0 : Int32))]) (rest := []) (lenOf pd_0 rfl) rfl rfl (W := 0) rfl (by decide) (by decide) (by decide) (by decide) (hb hby d7_4) (pc' := 7) rfl ?_
  rintro v15 T15 L15 X15 ⟨rfl, Nq15, K15, A15⟩
  have N15 := Fr.app N0 Nq15
  show Run p e below _ _ T15 (mkF m 7 #[.val (.ref r), .val (.ref en), .val (.int mc)] [])
  have K16 : Keep h0 h0 [r] := Keep.refl _ _
  have K17 := K16.trans K15 (allS (Or.inl (List.mem_of_getElem? (i := 0) rfl)) all0)
  have f18 := Ae.keep K15 (ninS ner nin0)
  have Z19 : n0 ≤ T15.heap.size := by have q := Z0; exact Nat.le_trans q K15.1
  refine r_aloadN X15.here hx (hb hby d7_7) rfl rfl (pc' := 8) rfl ?_
  refine r_aloadN X15.here hx (hb hby d7_8) rfl rfl (pc' := 9) rfl ?_
  refine r_iloadN X15.here hx (hb hby d7_9) rfl (pc' := 10) rfl ?_
  refine r_iconst X15.here hx (hb hby d7_10) (v := 1) rfl (pc' := 11) rfl ?_
  refine r_callS X15 hx hZ (y := (⟨"com/example/medianest/medianest/GraphFirstUnreachablePinLaw", "relax", "([Z[III)V"⟩ : MethodName)) (rm := ({ frames := 0, cells := 0, slots := 0, locals := 0 } : Room)) hown (hw _ (List.mem_of_getElem? (i := 44) rfl)) (hw _ (List.mem_of_getElem? (i := 45) rfl)) (hw _ (List.mem_of_getElem? (i := 3) rfl)) (hw _ (List.mem_of_getElem? (i := 46) rfl)) (by decide) (rmR l Z a0 hw [] r en mc 1 M 1 N (own_re A M F 0) A T15.heap n0 Z19 gr ner A15 f18 hm rfl (by decide) hN rA) rfl (by rw [hml]; rfl) (argsL := [(.ref r), (.ref en), (.int mc), (.int (1 : Int32))]) (rest := []) (lenOf pd_0 rfl) rfl rfl (W := 0) rfl (by decide) (by decide) (by decide) (by decide) (hb hby d7_11) (pc' := 14) rfl ?_
  rintro v20 T20 L20 X20 ⟨rfl, Nq20, K20, A20⟩
  have N20 := Fr.app N15 Nq20
  show Run p e below _ _ T20 (mkF m 14 #[.val (.ref r), .val (.ref en), .val (.int mc)] [])
  have K21 := K17.trans K20 (allS (Or.inl (List.mem_of_getElem? (i := 0) rfl)) all0)
  have f22 := f18.keep K20 (ninS ner nin0)
  have Z23 : n0 ≤ T20.heap.size := by have q := Z19; exact Nat.le_trans q K20.1
  refine r_aloadN X20.here hx (hb hby d7_14) rfl rfl (pc' := 15) rfl ?_
  refine r_aloadN X20.here hx (hb hby d7_15) rfl rfl (pc' := 16) rfl ?_
  refine r_iloadN X20.here hx (hb hby d7_16) rfl (pc' := 17) rfl ?_
  refine r_iconst X20.here hx (hb hby d7_17) (v := 2) rfl (pc' := 18) rfl ?_
  refine r_callS X20 hx hZ (y := (⟨"com/example/medianest/medianest/GraphFirstUnreachablePinLaw", "relax", "([Z[III)V"⟩ : MethodName)) (rm := ({ frames := 0, cells := 0, slots := 0, locals := 0 } : Room)) hown (hw _ (List.mem_of_getElem? (i := 44) rfl)) (hw _ (List.mem_of_getElem? (i := 45) rfl)) (hw _ (List.mem_of_getElem? (i := 3) rfl)) (hw _ (List.mem_of_getElem? (i := 46) rfl)) (by decide) (rmR l Z a0 hw [] r en mc 2 M 2 N (own_re A M (own_re A M F 0) 1) A T20.heap n0 Z23 gr ner A20 f22 hm rfl (by decide) hN rA) rfl (by rw [hml]; rfl) (argsL := [(.ref r), (.ref en), (.int mc), (.int (2 : Int32))]) (rest := []) (lenOf pd_0 rfl) rfl rfl (W := 0) rfl (by decide) (by decide) (by decide) (by decide) (hb hby d7_18) (pc' := 21) rfl ?_
  rintro v24 T24 L24 X24 ⟨rfl, Nq24, K24, A24⟩
  have N24 := Fr.app N20 Nq24
  show Run p e below _ _ T24 (mkF m 21 #[.val (.ref r), .val (.ref en), .val (.int mc)] [])
  have K25 := K21.trans K24 (allS (Or.inl (List.mem_of_getElem? (i := 0) rfl)) all0)
  have f26 := f22.keep K24 (ninS ner nin0)
  have Z27 : n0 ≤ T24.heap.size := by have q := Z23; exact Nat.le_trans q K24.1
  refine r_aloadN X24.here hx (hb hby d7_21) rfl rfl (pc' := 22) rfl ?_
  refine r_aloadN X24.here hx (hb hby d7_22) rfl rfl (pc' := 23) rfl ?_
  refine r_iloadN X24.here hx (hb hby d7_23) rfl (pc' := 24) rfl ?_
  refine r_iconst X24.here hx (hb hby d7_24) (v := 3) rfl (pc' := 25) rfl ?_
  refine r_callS X24 hx hZ (y := (⟨"com/example/medianest/medianest/GraphFirstUnreachablePinLaw", "relax", "([Z[III)V"⟩ : MethodName)) (rm := ({ frames := 0, cells := 0, slots := 0, locals := 0 } : Room)) hown (hw _ (List.mem_of_getElem? (i := 44) rfl)) (hw _ (List.mem_of_getElem? (i := 45) rfl)) (hw _ (List.mem_of_getElem? (i := 3) rfl)) (hw _ (List.mem_of_getElem? (i := 46) rfl)) (by decide) (rmR l Z a0 hw [] r en mc 3 M 3 N (own_re A M (own_re A M (own_re A M F 0) 1) 2) A T24.heap n0 Z27 gr ner A24 f26 hm rfl (by decide) hN rA) rfl (by rw [hml]; rfl) (argsL := [(.ref r), (.ref en), (.int mc), (.int (3 : Int32))]) (rest := []) (lenOf pd_0 rfl) rfl rfl (W := 0) rfl (by decide) (by decide) (by decide) (by decide) (hb hby d7_25) (pc' := 28) rfl ?_
  rintro v28 T28 L28 X28 ⟨rfl, Nq28, K28, A28⟩
  have N28 := Fr.app N24 Nq28
  show Run p e below _ _ T28 (mkF m 28 #[.val (.ref r), .val (.ref en), .val (.int mc)] [])
  have K29 := K25.trans K28 (allS (Or.inl (List.mem_of_getElem? (i := 0) rfl)) all0)
  have f30 := f26.keep K28 (ninS ner nin0)
  have Z31 : n0 ≤ T28.heap.size := by have q := Z27; exact Nat.le_trans q K28.1
  refine r_aloadN X28.here hx (hb hby d7_28) rfl rfl (pc' := 29) rfl ?_
  refine r_aloadN X28.here hx (hb hby d7_29) rfl rfl (pc' := 30) rfl ?_
  refine r_iloadN X28.here hx (hb hby d7_30) rfl (pc' := 31) rfl ?_
  refine r_iconst X28.here hx (hb hby d7_31) (v := 4) rfl (pc' := 32) rfl ?_
  refine r_callS X28 hx hZ (y := (⟨"com/example/medianest/medianest/GraphFirstUnreachablePinLaw", "relax", "([Z[III)V"⟩ : MethodName)) (rm := ({ frames := 0, cells := 0, slots := 0, locals := 0 } : Room)) hown (hw _ (List.mem_of_getElem? (i := 44) rfl)) (hw _ (List.mem_of_getElem? (i := 45) rfl)) (hw _ (List.mem_of_getElem? (i := 3) rfl)) (hw _ (List.mem_of_getElem? (i := 46) rfl)) (by decide) (rmR l Z a0 hw [] r en mc 4 M 4 N (own_re A M (own_re A M (own_re A M (own_re A M F 0) 1) 2) 3) A T28.heap n0 Z31 gr ner A28 f30 hm rfl (by decide) hN rA) rfl (by rw [hml]; rfl) (argsL := [(.ref r), (.ref en), (.int mc), (.int (4 : Int32))]) (rest := []) (lenOf pd_0 rfl) rfl rfl (W := 0) rfl (by decide) (by decide) (by decide) (by decide) (hb hby d7_32) (pc' := 35) rfl ?_
  rintro v32 T32 L32 X32 ⟨rfl, Nq32, K32, A32⟩
  have N32 := Fr.app N28 Nq32
  show Run p e below _ _ T32 (mkF m 35 #[.val (.ref r), .val (.ref en), .val (.int mc)] [])
  have K33 := K29.trans K32 (allS (Or.inl (List.mem_of_getElem? (i := 0) rfl)) all0)
  have f34 := f30.keep K32 (ninS ner nin0)
  have Z35 : n0 ≤ T32.heap.size := by have q := Z31; exact Nat.le_trans q K32.1
  refine r_aloadN X32.here hx (hb hby d7_35) rfl rfl (pc' := 36) rfl ?_
  refine r_aloadN X32.here hx (hb hby d7_36) rfl rfl (pc' := 37) rfl ?_
  refine r_iloadN X32.here hx (hb hby d7_37) rfl (pc' := 38) rfl ?_
  refine r_iconst X32.here hx (hb hby d7_38) (v := 5) rfl (pc' := 39) rfl ?_
  refine r_callS X32 hx hZ (y := (⟨"com/example/medianest/medianest/GraphFirstUnreachablePinLaw", "relax", "([Z[III)V"⟩ : MethodName)) (rm := ({ frames := 0, cells := 0, slots := 0, locals := 0 } : Room)) hown (hw _ (List.mem_of_getElem? (i := 44) rfl)) (hw _ (List.mem_of_getElem? (i := 45) rfl)) (hw _ (List.mem_of_getElem? (i := 3) rfl)) (hw _ (List.mem_of_getElem? (i := 46) rfl)) (by decide) (rmR l Z a0 hw [] r en mc 5 M 5 N (own_re A M (own_re A M (own_re A M (own_re A M (own_re A M F 0) 1) 2) 3) 4) A T32.heap n0 Z35 gr ner A32 f34 hm rfl (by decide) hN rA) rfl (by rw [hml]; rfl) (argsL := [(.ref r), (.ref en), (.int mc), (.int (5 : Int32))]) (rest := []) (lenOf pd_0 rfl) rfl rfl (W := 0) rfl (by decide) (by decide) (by decide) (by decide) (hb hby d7_39) (pc' := 42) rfl ?_
  rintro v36 T36 L36 X36 ⟨rfl, Nq36, K36, A36⟩
  have N36 := Fr.app N32 Nq36
  show Run p e below _ _ T36 (mkF m 42 #[.val (.ref r), .val (.ref en), .val (.int mc)] [])
  have K37 := K33.trans K36 (allS (Or.inl (List.mem_of_getElem? (i := 0) rfl)) all0)
  have f38 := f34.keep K36 (ninS ner nin0)
  have Z39 : n0 ≤ T36.heap.size := by have q := Z35; exact Nat.le_trans q K36.1
  refine r_ret0 X36 hx hlk hret (hb hby d7_42) ?_ (by decide) (by decide)
  skip
  exact ⟨rfl, N36, K37, A36⟩
theorem d5_0 : decode jdk_29_method_69_code 0 = .ok (.iload_n 0, 1) := by decide +kernel
theorem d5_1 : decode jdk_29_method_69_code 1 = .ok (.iload_n 1, 1) := by decide +kernel
theorem d5_2 : decode jdk_29_method_69_code 2 = .ok (.if_icmp .gt 7, 3) := by decide +kernel
theorem d5_9 : decode jdk_29_method_69_code 9 = .ok (.iload_n 1, 1) := by decide +kernel
theorem d5_10 : decode jdk_29_method_69_code 10 = .ok (.ireturn, 1) := by decide +kernel
theorem d5_5 : decode jdk_29_method_69_code 5 = .ok (.iload_n 0, 1) := by decide +kernel
theorem d5_6 : decode jdk_29_method_69_code 6 = .ok (.goto 4, 3) := by decide +kernel
theorem ef_rmMin (m : MethodId) (x0 : Int32) (x1 : Int32) : entryFrame m #[(.int x0), (.int x1)] 2 = mkF m 0 #[.val (.int x0), .val (.int x1)] [] := by first | (simp [entryFrame, mkF, argsToLocals, Value.category, maxLocals]; done) | rfl
set_option maxRecDepth 65536 in
set_option maxHeartbeats 40000000 in
theorem rmMin (l : Launch) (Z : State) (a0 : Array Value) (hw : ∀ d ∈ tables_1, d.before a0 Z = true) (ws : List Jvm.Cond) (x y : Int32) (h0 : Heap) (n0 : Nat) (Z0 : n0 ≤ h0.size)  :
    Met l Z (⟨"java/lang/Math", "min", "(II)I"⟩ : MethodName) jdk_29_method_69_code 2 (some .int) ws ({ frames := 0, cells := 0, slots := 0, locals := 0 } : Room) #[(.int x), (.int y)] h0 (fun v h L => v = some (.int (if x.toInt ≤ y.toInt then x else y)) ∧ Fr n0 L ∧ h = h0) 0 0 := by
  refine met_of (by decide +kernel) (f0 := fun m => (mkF m 0 #[.val (.int x), .val (.int y)] [])) (fun m => ef_rmMin m x y) ?_
  intro p e s m below meth c s₁ X0 hx hby hml hret hlk hown hnm hZ e0
  replace hown : s.vm.findClass "java/lang/Math" = some m.cls := hown
  have N0 := Fr.nil n0
  refine r_iloadN X0.here hx (hb hby d5_0) rfl (pc' := 1) rfl ?_
  refine r_iloadN X0.here hx (hb hby d5_1) rfl (pc' := 2) rfl ?_
  refine r_if_gt X0.here hx (hb hby d5_2) (by decide) (pc' := 9) (by decide) (pc2 := 5) rfl (fun hc2 => ?_) (fun hc2 => ?_)
  · refine r_iloadN X0.here hx (hb hby d5_9) rfl (pc' := 10) rfl ?_
    refine r_retI X0 hx hlk hret (hb hby d5_10) ?_ (by decide) (by decide)
    try rw [e0]
    refine ⟨?_, N0, rfl⟩
    first | rw [if_pos (by omega)] | rw [if_neg (by omega)]
  · refine r_iloadN X0.here hx (hb hby d5_5) rfl (pc' := 6) rfl ?_
    refine r_goto X0.here hx (hb hby d5_6) (by decide) (pc' := 10) (by decide) ?_
    refine r_retI X0 hx hlk hret (hb hby d5_10) ?_ (by decide) (by decide)
    try rw [e0]
    refine ⟨?_, N0, rfl⟩
    first | rw [if_pos (by omega)] | rw [if_neg (by omega)]
theorem d4_0 : decode jdk_65_method_123_code 0 = .ok (.iload_n 1, 1) := by decide +kernel
theorem d4_1 : decode jdk_65_method_123_code 1 = .ok (.aload_n 0, 1) := by decide +kernel
theorem d4_2 : decode jdk_65_method_123_code 2 = .ok (.arraylength, 1) := by decide +kernel
theorem d4_3 : decode jdk_65_method_123_code 3 = .ok (.if_icmp .ne 11, 3) := by decide +kernel
theorem d4_14 : decode jdk_65_method_123_code 14 = .ok (.iload_n 1, 1) := by decide +kernel
theorem d4_15 : decode jdk_65_method_123_code 15 = .ok (.newarray .int, 2) := by decide +kernel
theorem d4_17 : decode jdk_65_method_123_code 17 = .ok (.astore_n 2, 1) := by decide +kernel
theorem d4_18 : decode jdk_65_method_123_code 18 = .ok (.aload_n 0, 1) := by decide +kernel
theorem d4_19 : decode jdk_65_method_123_code 19 = .ok (.iconst 0, 1) := by decide +kernel
theorem d4_20 : decode jdk_65_method_123_code 20 = .ok (.aload_n 2, 1) := by decide +kernel
theorem d4_21 : decode jdk_65_method_123_code 21 = .ok (.iconst 0, 1) := by decide +kernel
theorem d4_22 : decode jdk_65_method_123_code 22 = .ok (.aload_n 0, 1) := by decide +kernel
theorem d4_23 : decode jdk_65_method_123_code 23 = .ok (.arraylength, 1) := by decide +kernel
theorem d4_24 : decode jdk_65_method_123_code 24 = .ok (.iload_n 1, 1) := by decide +kernel
theorem d4_25 : decode jdk_65_method_123_code 25 = .ok (.invokestatic 304, 3) := by decide +kernel
theorem pd_1 : parseMethodDescriptor "(II)I" = some ⟨[.int, .int], some .int⟩ := by decide +kernel
theorem d4_28 : decode jdk_65_method_123_code 28 = .ok (.invokestatic 150, 3) := by decide +kernel
theorem d4_31 : decode jdk_65_method_123_code 31 = .ok (.aload_n 2, 1) := by decide +kernel
theorem d4_32 : decode jdk_65_method_123_code 32 = .ok (.areturn, 1) := by decide +kernel
theorem pn_1 : plainName "java/util/Arrays" = true := by first | (simp [plainName, overriddenIn]; done) | decide +kernel
theorem ef_rmCp (m : MethodId) (x0 : Addr) (x1 : Int32) : entryFrame m #[(.ref x0), (.int x1)] 3 = mkF m 0 #[.val (.ref x0), .val (.int x1), .unset] [] := by first | (simp [entryFrame, mkF, argsToLocals, Value.category, maxLocals]; done) | rfl
set_option maxRecDepth 65536 in
set_option maxHeartbeats 40000000 in
theorem rmCp (l : Launch) (Z : State) (a0 : Array Value) (hw : ∀ d ∈ tables_1, d.before a0 Z = true) (ws : List Jvm.Cond) (a : Addr) (n : Int32) (N : Nat) (F : Nat → Int32) (h0 : Heap) (n0 : Nat) (Z0 : n0 ≤ h0.size) (Aa : Ary Z h0 a .int (N + 1) (fun i => .int (F i))) (hn : n.toInt = N) (hN : N ≤ 4) :
    Met l Z (⟨"java/util/Arrays", "copyOf", "([II)[I"⟩ : MethodName) jdk_65_method_123_code 3 (some (.array .int)) ws ({ frames := 1, cells := 1, slots := 4, locals := 40 } : Room) #[(.ref a), (.int n)] h0 (fun v h L => ∃ b : Addr, v = some (.ref b) ∧ Fr n0 L ∧ Keep h0 h [] ∧ n0 ≤ b ∧ h0.size ≤ b ∧ Ary Z h b .int N (fun i => .int (F i))) 1 4 := by
  refine met_of (plainFor_of_name pn_1) (f0 := fun m => (mkF m 0 #[.val (.ref a), .val (.int n), .unset] [])) (fun m => ef_rmCp m a n) ?_
  intro p e s m below meth c s₁ X0 hx hby hml hret hlk hown hnm hZ e0
  replace hown : s.vm.findClass "java/util/Arrays" = some m.cls := hown
  have N0 := Fr.nil n0
  have hn1 : (n + 1).toInt = ((N + 1 : Nat) : Int) := own_inc hn (by omega)
  refine r_iloadN X0.here hx (hb hby d4_0) rfl (pc' := 1) rfl ?_
  refine r_aloadN X0.here hx (hb hby d4_1) rfl rfl (pc' := 2) rfl ?_
  refine r_len X0 hx hZ e0 (z := (n + 1)) Aa hn1 (hb hby d4_2) (pc' := 3) rfl ?_
  refine r_if_ne X0.here hx (hb hby d4_3) (by decide) (pc' := 14) (by decide) (pc2 := 6) rfl (fun hc3 => ?_) (fun hc3 => absurd (fun q => by have := congrArg Int32.toInt q; omega) hc3)
  refine r_iloadN X0.here hx (hb hby d4_14) rfl (pc' := 15) rfl ?_
  refine r_newarray X0 hx hZ (aty := .int) (hw _ (List.mem_of_getElem? (i := 0) rfl)) e0 (cap := 4) (by rw [Int32.lt_iff_toInt_lt, show (0 : Int32).toInt = 0 from rfl]; omega) (show n.toInt.toNat ≤ 4 by omega) (by decide) (by decide) (by decide) (hb hby d4_15) (pc' := 17) rfl (fun T40 h40 b40 k40 g40 X40 e40 E40 A40 => ?_)
  have K41 : Keep h0 h0 [] := Keep.refl _ _
  have fr42 : h0.size ≤ b40 := by rw [g40]; exact K41.1
  have ne43 : b40 ≠ a := by have q := Aa.lt; rw [← g40] at q; exact Nat.ne_of_gt q
  have ge44 : n0 ≤ b40 := by rw [g40]; exact Z0
  have K45 := K41.ext E40
  have f46 := Aa.ext E40
  have Z47 : n0 ≤ h40.size := by have q := Z0; exact Nat.le_trans q E40.1
  have f48 : Ary Z h40 b40 .int N (fun _ => .int 0) := Ary.new A40 (show n.toInt.toNat = N by omega)
  refine r_astoreN X40.here hx (hb hby d4_17) rfl (l' := #[.val (.ref a), .val (.int n), .val (.ref b40)]) rfl (pc' := 18) rfl ?_
  refine r_aloadN X40.here hx (hb hby d4_18) rfl rfl (pc' := 19) rfl ?_
  refine r_iconst X40.here hx (hb hby d4_19) (v := 0) rfl (pc' := 20) rfl ?_
  refine r_aloadN X40.here hx (hb hby d4_20) rfl rfl (pc' := 21) rfl ?_
  refine r_iconst X40.here hx (hb hby d4_21) (v := 0) rfl (pc' := 22) rfl ?_
  refine r_aloadN X40.here hx (hb hby d4_22) rfl rfl (pc' := 23) rfl ?_
  refine r_len X40 hx hZ e40 (z := (n + 1)) f46 hn1 (hb hby d4_23) (pc' := 24) rfl ?_
  refine r_iloadN X40.here hx (hb hby d4_24) rfl (pc' := 25) rfl ?_
  refine r_callS X40 hx hZ (y := (⟨"java/lang/Math", "min", "(II)I"⟩ : MethodName)) (rm := ({ frames := 0, cells := 0, slots := 0, locals := 0 } : Room)) hown (hw _ (List.mem_of_getElem? (i := 27) rfl)) (hw _ (List.mem_of_getElem? (i := 28) rfl)) (hw _ (List.mem_of_getElem? (i := 29) rfl)) (hw _ (List.mem_of_getElem? (i := 30) rfl)) (by decide) (rmMin l Z a0 hw [] (n + 1) n h40 n0 Z47) e40 (by rw [hml]; rfl) (argsL := [(.int (n + 1)), (.int n)]) (rest := [(.int (0 : Int32)), (.ref b40), (.int (0 : Int32)), (.ref a)]) (lenOf pd_1 rfl) rfl rfl (W := 4) rfl (by decide) (by decide) (by decide) (by decide) (hb hby d4_25) (pc' := 28) rfl ?_
  rintro v49 T49 L49 X49 ⟨rfl, Nq49, e49⟩
  have N49 := Fr.app N0 Nq49
  show Run p e below _ _ T49 (mkF m 28 #[.val (.ref a), .val (.int n), .val (.ref b40)] [(.int (if (n + 1).toInt ≤ n.toInt then n + 1 else n)), (.int (0 : Int32)), (.ref b40), (.int (0 : Int32)), (.ref a)])
  rw [if_neg (by omega)]
  refine r_arraycopy X49 hx hZ hown (hw _ (List.mem_of_getElem? (i := 31) rfl)) (hw _ (List.mem_of_getElem? (i := 34) rfl)) (hw _ (List.mem_of_getElem? (i := 32) rfl)) (hw _ (List.mem_of_getElem? (i := 33) rfl)) e49 (z := n + 1) (z' := n) f46 f48 hn1 hn rfl (fun _ _ => rfl) (fun _ _ => rfl) (by decide) (by decide) (by omega) (by show (0 : Int) + n.toInt ≤ ((N + 1 : Nat) : Int); omega) (by show (0 : Int) + n.toInt ≤ (N : Int); omega) N49 ge44 (by rw [hml]; rfl) (by decide) (W := 0) rfl (by decide) (hb hby d4_28) (pc' := 31) rfl (fun T50 h50 L50 X50 e50 N50 K50 A50 => ?_)
  have K51 := K45.trans K50 (allS (Or.inr fr42) all0)
  have f52 := f46.keep K50 (ninS (Ne.symm ne43) nin0)
  have Z53 : n0 ≤ h50.size := by have q := Z47; exact Nat.le_trans q K50.1
  refine r_aloadN X50.here hx (hb hby d4_31) rfl rfl (pc' := 32) rfl ?_
  refine r_retA X50 hx hlk hret rfl rfl (hb hby d4_32) ?_ (by decide) (by decide)
  try rw [e50]
  refine ⟨b40, rfl, N50, K51, ge44, fr42, (A50).congr fun i hi => ?_⟩
  rw [if_pos ⟨Nat.zero_le _, by show i < 0 + n.toInt.toNat; omega⟩]
  show Value.int (F (0 + (i - 0))) = _
  rw [Nat.sub_zero, Nat.zero_add]
def own_C1 (A : Nat → Int32) (N k : Nat) (F : Nat → Int32) : Prop := (F 0).toInt = 0 ∧ ∀ v, v < N → (F (v + 1)).toInt = own_cnt A v k
theorem own_s1 {A F : Nat → Int32} {N k : Nat} {j x : Int32} (h : own_C1 A N k F) (hk : k < 12) (rk : 0 ≤ (A k).toInt ∧ (A k).toInt < N) (hj : j.toInt = (A k).toInt + 1) (hx : x = F j.toInt.toNat + 1) : own_C1 A N (k + 1) (fun i => if i = j.toInt.toNat then x else F i) := by
  have ej : j.toInt.toNat = own_al A k + 1 := by unfold own_al; omega
  rw [ej] at hx ⊢
  refine ⟨by simp only [if_neg (show ¬ (0 = own_al A k + 1) by omega)]; exact h.1, fun v hv => ?_⟩
  have hv' := h.2 v hv
  simp only [own_cnt]
  by_cases q : own_al A k = v
  · rw [if_pos q, if_pos (by omega), hx]
    have e := h.2 (own_al A k) (by rw [q]; exact hv)
    have c := own_ck A v k
    rw [q] at e ⊢
    exact own_ad (by rw [e, show (1 : Int32).toInt = 1 from rfl]; omega) (by omega) (by omega)
  · rw [if_neg q, if_neg (by omega)]; omega
def own_C2 (A : Nat → Int32) (N M2 ii : Nat) (F : Nat → Int32) : Prop := (∀ v, v ≤ ii → (F v).toInt = own_S A M2 v) ∧ ∀ v, ii ≤ v → v < N → (F (v + 1)).toInt = own_cnt A v M2
theorem own_c2 {A F : Nat → Int32} {N k : Nat} (h : own_C1 A N k F) : own_C2 A N k 0 F := by
  refine ⟨fun v hv => ?_, fun v _ hv => h.2 v hv⟩
  have q : v = 0 := by omega
  rw [q, h.1]; rfl
theorem own_s2 {A F : Nat → Int32} {N M2 ii : Nat} {j x : Int32} (h : own_C2 A N M2 ii F) (hN : ii < N) (h12 : M2 ≤ 12) (hj : j.toInt = ii + 1) (hx : x = F (ii + 1) + F ii) : own_C2 A N M2 (ii + 1) (fun i => if i = j.toInt.toNat then x else F i) := by
  have ej : j.toInt.toNat = ii + 1 := by omega
  rw [ej]
  have e1 := h.1 ii (Nat.le_refl _)
  have e2 := h.2 ii (Nat.le_refl _) hN
  have b1 := own_St A M2 (ii + 1)
  have b2 : own_S A M2 (ii + 1) = own_S A M2 ii + own_cnt A ii M2 := rfl
  refine ⟨fun v hv => ?_, fun v hv hn => ?_⟩
  · by_cases q : v = ii + 1
    · subst q; simp only [if_true]; rw [hx, b2]
      exact own_ad (by rw [e1, e2]; omega) (by omega) (by omega)
    · simp only [if_neg q]; exact h.1 v (by omega)
  · simp only [if_neg (show ¬ (v + 1 = ii + 1) by omega)]; exact h.2 v (by omega) hn
/-- the fill marks behind k endpoints -/
def own_C3 (A : Nat → Int32) (N M2 k : Nat) (F : Nat → Int32) : Prop := ∀ v, v < N → (F v).toInt = own_S A M2 v + own_cnt A v k
theorem own_s3 {A F : Nat → Int32} {N M2 k : Nat} {x : Int32} (h : own_C3 A N M2 k F) (h12 : M2 ≤ 12) (hk : k < M2) (rk : 0 ≤ (A k).toInt ∧ (A k).toInt < N) (hx : x = F (own_al A k) + 1) : own_C3 A N M2 (k + 1) (fun i => if i = (A k).toInt.toNat then x else F i) := by
  intro v hv
  have e := h v hv
  simp only [own_cnt]
  have p := own_pl A hk (n := N) (by unfold own_al; omega)
  have st := own_St A M2 N
  by_cases q : own_al A k = v
  · have q' : v = (A k).toInt.toNat := q.symm
    rw [if_pos q, if_pos q', hx]
    rw [q]
    have pe : own_pos A M2 k = own_S A M2 v + own_cnt A v k := by unfold own_pos; rw [q]
    exact own_ad (by rw [e, show (1 : Int32).toInt = 1 from rfl]; omega) (by omega) (by omega)
  · have q' : ¬ v = (A k).toInt.toNat := fun z => q z.symm
    rw [if_neg q, if_neg q']; omega
/-- the arcs of the first k endpoints lie at their places -/
def own_C4 (A : Nat → Int32) (M2 k : Nat) (B : Nat → Int32) : Prop := ∀ i, i < k → B (own_pos A M2 i) = A (own_pa i)
theorem own_s4 {A B : Nat → Int32} {M2 k : Nat} {j x : Int32} (h : own_C4 A M2 k B) (hk : k < M2) (hj : j.toInt = own_pos A M2 k) (hx : x = A (own_pa k)) : own_C4 A M2 (k + 1) (fun i => if i = j.toInt.toNat then x else B i) := by
  have ej : j.toInt.toNat = own_pos A M2 k := by omega
  rw [ej]
  intro i hi
  by_cases q : i = k
  · subst q; simp only [if_true]; exact hx
  · simp only [if_neg (own_pi A (show i < k by omega) hk)]; exact h i (by omega)
theorem own_pa0 (e : Nat) : own_pa (2 * e) = 2 * e + 1 := by unfold own_pa; rw [if_pos (by omega)]
theorem own_pa1 (e : Nat) : own_pa (2 * e + 1) = 2 * e := by unfold own_pa; rw [if_neg (by omega)]; omega
theorem d2_0 : decode prog_5_method_1_code 0 = .ok (.aload_n 0, 1) := by decide +kernel
theorem d2_1 : decode prog_5_method_1_code 1 = .ok (.invokespecial 1, 3) := by decide +kernel
theorem d2_4 : decode prog_5_method_1_code 4 = .ok (.aload_n 0, 1) := by decide +kernel
theorem d2_5 : decode prog_5_method_1_code 5 = .ok (.iload_n 1, 1) := by decide +kernel
theorem d2_6 : decode prog_5_method_1_code 6 = .ok (.putfield 7, 3) := by decide +kernel
theorem d2_9 : decode prog_5_method_1_code 9 = .ok (.aload_n 0, 1) := by decide +kernel
theorem d2_10 : decode prog_5_method_1_code 10 = .ok (.iload_n 1, 1) := by decide +kernel
theorem d2_11 : decode prog_5_method_1_code 11 = .ok (.iconst 1, 1) := by decide +kernel
theorem d2_12 : decode prog_5_method_1_code 12 = .ok (.iadd, 1) := by decide +kernel
theorem d2_13 : decode prog_5_method_1_code 13 = .ok (.newarray .int, 2) := by decide +kernel
theorem d2_15 : decode prog_5_method_1_code 15 = .ok (.putfield 13, 3) := by decide +kernel
theorem d2_18 : decode prog_5_method_1_code 18 = .ok (.iconst 0, 1) := by decide +kernel
theorem d2_19 : decode prog_5_method_1_code 19 = .ok (.istore 5, 2) := by decide +kernel
theorem d2_21 : decode prog_5_method_1_code 21 = .ok (.iload 5, 2) := by decide +kernel
theorem d2_23 : decode prog_5_method_1_code 23 = .ok (.iload 4, 2) := by decide +kernel
theorem d2_25 : decode prog_5_method_1_code 25 = .ok (.if_icmp .ge 45, 3) := by decide +kernel
theorem d2_70 : decode prog_5_method_1_code 70 = .ok (.iconst 0, 1) := by decide +kernel
theorem d2_71 : decode prog_5_method_1_code 71 = .ok (.istore 5, 2) := by decide +kernel
theorem d2_73 : decode prog_5_method_1_code 73 = .ok (.iload 5, 2) := by decide +kernel
theorem d2_75 : decode prog_5_method_1_code 75 = .ok (.iload_n 1, 1) := by decide +kernel
theorem d2_76 : decode prog_5_method_1_code 76 = .ok (.if_icmp .ge 28, 3) := by decide +kernel
theorem d2_104 : decode prog_5_method_1_code 104 = .ok (.aload_n 0, 1) := by decide +kernel
theorem d2_105 : decode prog_5_method_1_code 105 = .ok (.aload_n 0, 1) := by decide +kernel
theorem d2_106 : decode prog_5_method_1_code 106 = .ok (.getfield 13, 3) := by decide +kernel
theorem d2_109 : decode prog_5_method_1_code 109 = .ok (.iload_n 1, 1) := by decide +kernel
theorem d2_110 : decode prog_5_method_1_code 110 = .ok (.iaload, 1) := by decide +kernel
theorem d2_111 : decode prog_5_method_1_code 111 = .ok (.newarray .int, 2) := by decide +kernel
theorem d2_113 : decode prog_5_method_1_code 113 = .ok (.putfield 17, 3) := by decide +kernel
theorem d2_116 : decode prog_5_method_1_code 116 = .ok (.aload_n 0, 1) := by decide +kernel
theorem d2_117 : decode prog_5_method_1_code 117 = .ok (.aload_n 0, 1) := by decide +kernel
theorem d2_118 : decode prog_5_method_1_code 118 = .ok (.getfield 13, 3) := by decide +kernel
theorem d2_121 : decode prog_5_method_1_code 121 = .ok (.iload_n 1, 1) := by decide +kernel
theorem d2_122 : decode prog_5_method_1_code 122 = .ok (.iaload, 1) := by decide +kernel
theorem d2_123 : decode prog_5_method_1_code 123 = .ok (.newarray .double, 2) := by decide +kernel
theorem d2_125 : decode prog_5_method_1_code 125 = .ok (.putfield 20, 3) := by decide +kernel
theorem d2_128 : decode prog_5_method_1_code 128 = .ok (.aload_n 0, 1) := by decide +kernel
theorem d2_129 : decode prog_5_method_1_code 129 = .ok (.getfield 13, 3) := by decide +kernel
theorem d2_132 : decode prog_5_method_1_code 132 = .ok (.iload_n 1, 1) := by decide +kernel
theorem d2_133 : decode prog_5_method_1_code 133 = .ok (.invokestatic 24, 3) := by decide +kernel
theorem pd_2 : parseMethodDescriptor "([II)[I" = some ⟨[(.array .int), .int], some (.array .int)⟩ := by decide +kernel
theorem d2_136 : decode prog_5_method_1_code 136 = .ok (.astore 5, 2) := by decide +kernel
theorem d2_138 : decode prog_5_method_1_code 138 = .ok (.iconst 0, 1) := by decide +kernel
theorem d2_139 : decode prog_5_method_1_code 139 = .ok (.istore 6, 2) := by decide +kernel
theorem d2_141 : decode prog_5_method_1_code 141 = .ok (.iload 6, 2) := by decide +kernel
theorem d2_143 : decode prog_5_method_1_code 143 = .ok (.iload 4, 2) := by decide +kernel
theorem d2_145 : decode prog_5_method_1_code 145 = .ok (.if_icmp .ge 89, 3) := by decide +kernel
theorem d2_234 : decode prog_5_method_1_code 234 = .ok (.return_, 1) := by decide +kernel
theorem d2_148 : decode prog_5_method_1_code 148 = .ok (.aload_n 2, 1) := by decide +kernel
theorem d2_149 : decode prog_5_method_1_code 149 = .ok (.iconst 2, 1) := by decide +kernel
theorem d2_150 : decode prog_5_method_1_code 150 = .ok (.iload 6, 2) := by decide +kernel
theorem d2_152 : decode prog_5_method_1_code 152 = .ok (.imul, 1) := by decide +kernel
theorem d2_153 : decode prog_5_method_1_code 153 = .ok (.iaload, 1) := by decide +kernel
theorem d2_154 : decode prog_5_method_1_code 154 = .ok (.istore 7, 2) := by decide +kernel
theorem d2_156 : decode prog_5_method_1_code 156 = .ok (.aload_n 2, 1) := by decide +kernel
theorem d2_157 : decode prog_5_method_1_code 157 = .ok (.iconst 2, 1) := by decide +kernel
theorem d2_158 : decode prog_5_method_1_code 158 = .ok (.iload 6, 2) := by decide +kernel
theorem d2_160 : decode prog_5_method_1_code 160 = .ok (.imul, 1) := by decide +kernel
theorem d2_161 : decode prog_5_method_1_code 161 = .ok (.iconst 1, 1) := by decide +kernel
theorem d2_162 : decode prog_5_method_1_code 162 = .ok (.iadd, 1) := by decide +kernel
theorem d2_163 : decode prog_5_method_1_code 163 = .ok (.iaload, 1) := by decide +kernel
theorem d2_164 : decode prog_5_method_1_code 164 = .ok (.istore 8, 2) := by decide +kernel
theorem d2_166 : decode prog_5_method_1_code 166 = .ok (.aload_n 0, 1) := by decide +kernel
theorem d2_167 : decode prog_5_method_1_code 167 = .ok (.getfield 17, 3) := by decide +kernel
theorem d2_170 : decode prog_5_method_1_code 170 = .ok (.aload 5, 2) := by decide +kernel
theorem d2_172 : decode prog_5_method_1_code 172 = .ok (.iload 7, 2) := by decide +kernel
theorem d2_174 : decode prog_5_method_1_code 174 = .ok (.iaload, 1) := by decide +kernel
theorem d2_175 : decode prog_5_method_1_code 175 = .ok (.iload 8, 2) := by decide +kernel
theorem d2_177 : decode prog_5_method_1_code 177 = .ok (.iastore, 1) := by decide +kernel
theorem d2_178 : decode prog_5_method_1_code 178 = .ok (.aload_n 0, 1) := by decide +kernel
theorem d2_179 : decode prog_5_method_1_code 179 = .ok (.getfield 20, 3) := by decide +kernel
theorem d2_182 : decode prog_5_method_1_code 182 = .ok (.aload 5, 2) := by decide +kernel
theorem d2_184 : decode prog_5_method_1_code 184 = .ok (.iload 7, 2) := by decide +kernel
theorem d2_186 : decode prog_5_method_1_code 186 = .ok (.dup2, 1) := by decide +kernel
theorem d2_187 : decode prog_5_method_1_code 187 = .ok (.iaload, 1) := by decide +kernel
theorem d2_188 : decode prog_5_method_1_code 188 = .ok (.dup_x2, 1) := by decide +kernel
theorem d2_189 : decode prog_5_method_1_code 189 = .ok (.iconst 1, 1) := by decide +kernel
theorem d2_190 : decode prog_5_method_1_code 190 = .ok (.iadd, 1) := by decide +kernel
theorem d2_191 : decode prog_5_method_1_code 191 = .ok (.iastore, 1) := by decide +kernel
theorem d2_192 : decode prog_5_method_1_code 192 = .ok (.aload_n 3, 1) := by decide +kernel
theorem d2_193 : decode prog_5_method_1_code 193 = .ok (.iload 6, 2) := by decide +kernel
theorem d2_195 : decode prog_5_method_1_code 195 = .ok (.daload, 1) := by decide +kernel
theorem d2_196 : decode prog_5_method_1_code 196 = .ok (.dastore, 1) := by decide +kernel
theorem d2_197 : decode prog_5_method_1_code 197 = .ok (.aload_n 0, 1) := by decide +kernel
theorem d2_198 : decode prog_5_method_1_code 198 = .ok (.getfield 17, 3) := by decide +kernel
theorem d2_201 : decode prog_5_method_1_code 201 = .ok (.aload 5, 2) := by decide +kernel
theorem d2_203 : decode prog_5_method_1_code 203 = .ok (.iload 8, 2) := by decide +kernel
theorem d2_205 : decode prog_5_method_1_code 205 = .ok (.iaload, 1) := by decide +kernel
theorem d2_206 : decode prog_5_method_1_code 206 = .ok (.iload 7, 2) := by decide +kernel
theorem d2_208 : decode prog_5_method_1_code 208 = .ok (.iastore, 1) := by decide +kernel
theorem d2_209 : decode prog_5_method_1_code 209 = .ok (.aload_n 0, 1) := by decide +kernel
theorem d2_210 : decode prog_5_method_1_code 210 = .ok (.getfield 20, 3) := by decide +kernel
theorem d2_213 : decode prog_5_method_1_code 213 = .ok (.aload 5, 2) := by decide +kernel
theorem d2_215 : decode prog_5_method_1_code 215 = .ok (.iload 8, 2) := by decide +kernel
theorem d2_217 : decode prog_5_method_1_code 217 = .ok (.dup2, 1) := by decide +kernel
theorem d2_218 : decode prog_5_method_1_code 218 = .ok (.iaload, 1) := by decide +kernel
theorem d2_219 : decode prog_5_method_1_code 219 = .ok (.dup_x2, 1) := by decide +kernel
theorem d2_220 : decode prog_5_method_1_code 220 = .ok (.iconst 1, 1) := by decide +kernel
theorem d2_221 : decode prog_5_method_1_code 221 = .ok (.iadd, 1) := by decide +kernel
theorem d2_222 : decode prog_5_method_1_code 222 = .ok (.iastore, 1) := by decide +kernel
theorem d2_223 : decode prog_5_method_1_code 223 = .ok (.aload_n 3, 1) := by decide +kernel
theorem d2_224 : decode prog_5_method_1_code 224 = .ok (.iload 6, 2) := by decide +kernel
theorem d2_226 : decode prog_5_method_1_code 226 = .ok (.daload, 1) := by decide +kernel
theorem d2_227 : decode prog_5_method_1_code 227 = .ok (.dastore, 1) := by decide +kernel
theorem d2_228 : decode prog_5_method_1_code 228 = .ok (.iinc 6 1, 3) := by decide +kernel
theorem d2_231 : decode prog_5_method_1_code 231 = .ok (.goto (-90), 3) := by decide +kernel
theorem d2_79 : decode prog_5_method_1_code 79 = .ok (.aload_n 0, 1) := by decide +kernel
theorem d2_80 : decode prog_5_method_1_code 80 = .ok (.getfield 13, 3) := by decide +kernel
theorem d2_83 : decode prog_5_method_1_code 83 = .ok (.iload 5, 2) := by decide +kernel
theorem d2_85 : decode prog_5_method_1_code 85 = .ok (.iconst 1, 1) := by decide +kernel
theorem d2_86 : decode prog_5_method_1_code 86 = .ok (.iadd, 1) := by decide +kernel
theorem d2_87 : decode prog_5_method_1_code 87 = .ok (.dup2, 1) := by decide +kernel
theorem d2_88 : decode prog_5_method_1_code 88 = .ok (.iaload, 1) := by decide +kernel
theorem d2_89 : decode prog_5_method_1_code 89 = .ok (.aload_n 0, 1) := by decide +kernel
theorem d2_90 : decode prog_5_method_1_code 90 = .ok (.getfield 13, 3) := by decide +kernel
theorem d2_93 : decode prog_5_method_1_code 93 = .ok (.iload 5, 2) := by decide +kernel
theorem d2_95 : decode prog_5_method_1_code 95 = .ok (.iaload, 1) := by decide +kernel
theorem d2_96 : decode prog_5_method_1_code 96 = .ok (.iadd, 1) := by decide +kernel
theorem d2_97 : decode prog_5_method_1_code 97 = .ok (.iastore, 1) := by decide +kernel
theorem d2_98 : decode prog_5_method_1_code 98 = .ok (.iinc 5 1, 3) := by decide +kernel
theorem d2_101 : decode prog_5_method_1_code 101 = .ok (.goto (-28), 3) := by decide +kernel
theorem d2_28 : decode prog_5_method_1_code 28 = .ok (.aload_n 0, 1) := by decide +kernel
theorem d2_29 : decode prog_5_method_1_code 29 = .ok (.getfield 13, 3) := by decide +kernel
theorem d2_32 : decode prog_5_method_1_code 32 = .ok (.aload_n 2, 1) := by decide +kernel
theorem d2_33 : decode prog_5_method_1_code 33 = .ok (.iconst 2, 1) := by decide +kernel
theorem d2_34 : decode prog_5_method_1_code 34 = .ok (.iload 5, 2) := by decide +kernel
theorem d2_36 : decode prog_5_method_1_code 36 = .ok (.imul, 1) := by decide +kernel
theorem d2_37 : decode prog_5_method_1_code 37 = .ok (.iaload, 1) := by decide +kernel
theorem d2_38 : decode prog_5_method_1_code 38 = .ok (.iconst 1, 1) := by decide +kernel
theorem d2_39 : decode prog_5_method_1_code 39 = .ok (.iadd, 1) := by decide +kernel
theorem d2_40 : decode prog_5_method_1_code 40 = .ok (.dup2, 1) := by decide +kernel
theorem d2_41 : decode prog_5_method_1_code 41 = .ok (.iaload, 1) := by decide +kernel
theorem d2_42 : decode prog_5_method_1_code 42 = .ok (.iconst 1, 1) := by decide +kernel
theorem d2_43 : decode prog_5_method_1_code 43 = .ok (.iadd, 1) := by decide +kernel
theorem d2_44 : decode prog_5_method_1_code 44 = .ok (.iastore, 1) := by decide +kernel
theorem d2_45 : decode prog_5_method_1_code 45 = .ok (.aload_n 0, 1) := by decide +kernel
theorem d2_46 : decode prog_5_method_1_code 46 = .ok (.getfield 13, 3) := by decide +kernel
theorem d2_49 : decode prog_5_method_1_code 49 = .ok (.aload_n 2, 1) := by decide +kernel
theorem d2_50 : decode prog_5_method_1_code 50 = .ok (.iconst 2, 1) := by decide +kernel
theorem d2_51 : decode prog_5_method_1_code 51 = .ok (.iload 5, 2) := by decide +kernel
theorem d2_53 : decode prog_5_method_1_code 53 = .ok (.imul, 1) := by decide +kernel
theorem d2_54 : decode prog_5_method_1_code 54 = .ok (.iconst 1, 1) := by decide +kernel
theorem d2_55 : decode prog_5_method_1_code 55 = .ok (.iadd, 1) := by decide +kernel
theorem d2_56 : decode prog_5_method_1_code 56 = .ok (.iaload, 1) := by decide +kernel
theorem d2_57 : decode prog_5_method_1_code 57 = .ok (.iconst 1, 1) := by decide +kernel
theorem d2_58 : decode prog_5_method_1_code 58 = .ok (.iadd, 1) := by decide +kernel
theorem d2_59 : decode prog_5_method_1_code 59 = .ok (.dup2, 1) := by decide +kernel
theorem d2_60 : decode prog_5_method_1_code 60 = .ok (.iaload, 1) := by decide +kernel
theorem d2_61 : decode prog_5_method_1_code 61 = .ok (.iconst 1, 1) := by decide +kernel
theorem d2_62 : decode prog_5_method_1_code 62 = .ok (.iadd, 1) := by decide +kernel
theorem d2_63 : decode prog_5_method_1_code 63 = .ok (.iastore, 1) := by decide +kernel
theorem d2_64 : decode prog_5_method_1_code 64 = .ok (.iinc 5 1, 3) := by decide +kernel
theorem d2_67 : decode prog_5_method_1_code 67 = .ok (.goto (-46), 3) := by decide +kernel
theorem pn_2 : plainName "com/example/medianest/medianest/Graph" = true := by first | (simp [plainName, overriddenIn]; done) | decide +kernel
theorem ef_rmG (m : MethodId) (x0 : Addr) (x1 : Int32) (x2 : Addr) (x3 : Addr) (x4 : Int32) : entryFrame m #[(.ref x0), (.int x1), (.ref x2), (.ref x3), (.int x4)] 9 = mkF m 0 #[.val (.ref x0), .val (.int x1), .val (.ref x2), .val (.ref x3), .val (.int x4), .unset, .unset, .unset, .unset] [] := by first | (simp [entryFrame, mkF, argsToLocals, Value.category, maxLocals]; done) | rfl
set_option maxRecDepth 65536 in
set_option maxHeartbeats 40000000 in
theorem rmG (l : Launch) (Z : State) (a0 : Array Value) (hw : ∀ d ∈ tables_1, d.before a0 Z = true) (ws : List Jvm.Cond) (a en le : Addr) (n mc : Int32) (N M : Nat) (A : Nat → Int32) (lf : Nat → UInt64) (h0 : Heap) (n0 : Nat) (Z0 : n0 ≤ h0.size) (ga : n0 ≤ a) (Ea : Exa Z h0 a "com/example/medianest/medianest/Graph") (F_size : Fld Z h0 a "com/example/medianest/medianest/Graph" "size" "I" (.int 0)) (F_start : Fld Z h0 a "com/example/medianest/medianest/Graph" "start" "[I" .null) (F_arcs : Fld Z h0 a "com/example/medianest/medianest/Graph" "arcs" "[I" .null) (F_lengths : Fld Z h0 a "com/example/medianest/medianest/Graph" "lengths" "[D" .null) (nea : en ≠ a) (nla : le ≠ a) (nel : en ≠ le) (Ae : Ary Z h0 en .int 12 (fun i => .int (A i))) (rA : ∀ i, i < 12 → 0 ≤ (A i).toInt ∧ (A i).toInt < N) (Al : Ary Z h0 le .double 6 (fun i => .double (lf i))) (hn : n.toInt = N) (hN : N ≤ 4) (hm : mc.toInt = M) (hM : M ≤ 6) :
    Met l Z (⟨"com/example/medianest/medianest/Graph", "<init>", "(I[I[DI)V"⟩ : MethodName) prog_5_method_1_code 9 none ws ({ frames := 2, cells := 4, slots := 33, locals := 54 } : Room) #[(.ref a), (.int n), (.ref en), (.ref le), (.int mc)] h0 (fun v h L => v = none ∧ Fr n0 L ∧ Keep h0 h [a] ∧ ∃ (sa aa : Addr) (fS B : Nat → Int32), Fld Z h a "com/example/medianest/medianest/Graph" "size" "I" (.int n) ∧ Fld Z h a "com/example/medianest/medianest/Graph" "start" "[I" (.ref sa) ∧ Fld Z h a "com/example/medianest/medianest/Graph" "arcs" "[I" (.ref aa) ∧ Ary Z h sa .int (N + 1) (fun i => .int (fS i)) ∧ Ary Z h aa .int (own_S A (2 * M) N) (fun i => .int (B i)) ∧ (∀ v, v ≤ N → (fS v).toInt = own_S A (2 * M) v) ∧ own_C4 A (2 * M) (2 * M) B) 4 33 := by
  refine met_of (plainFor_of_name pn_2) (f0 := fun m => (mkF m 0 #[.val (.ref a), .val (.int n), .val (.ref en), .val (.ref le), .val (.int mc), .unset, .unset, .unset, .unset] [])) (fun m => ef_rmG m a n en le mc) ?_
  intro p e s m below meth c s₁ X0 hx hby hml hret hlk hown hnm hZ e0
  replace hown : s.vm.findClass "com/example/medianest/medianest/Graph" = some m.cls := hown
  have N0 := Fr.nil n0
  have hn1 : (n + 1).toInt = ((N + 1 : Nat) : Int) := own_inc hn (by omega)
  refine r_aloadN X0.here hx (hb hby d2_0) rfl rfl (pc' := 1) rfl ?_
  refine r_initO X0 hx hZ hown (hw _ (List.mem_of_getElem? (i := 12) rfl)) (hw _ (List.mem_of_getElem? (i := 13) rfl)) (hw _ (List.mem_of_getElem? (i := 14) rfl)) e0 (by rw [hml]; rfl) (by decide) (W := 0) rfl (by decide) (hb hby d2_1) (pc' := 4) rfl (fun T54 X54 e54 => ?_)
  refine r_aloadN X54.here hx (hb hby d2_4) rfl rfl (pc' := 5) rfl ?_
  refine r_iloadN X54.here hx (hb hby d2_5) rfl (pc' := 6) rfl ?_
  refine r_putF X54 hx hZ hown (hw _ (List.mem_of_getElem? (i := 15) rfl)) Via.refl e54 F_size Ea (Or.inr ⟨(hw _ (List.mem_of_getElem? (i := 16) rfl)), rfl, hnm⟩) (hw _ (List.mem_of_getElem? (i := 7) rfl)) (ty := .int) (by decide) rfl rfl (hb hby d2_6) (pc' := 9) rfl (fun T55 h55 X55 e55 W55 => ?_)
  have f56 := F_size.same W55
  have K57 : Keep h0 h0 [a] := Keep.refl _ _
  have K58 := K57.wr W55 (Or.inl (List.mem_of_getElem? (i := 0) rfl))
  have f59 := Ea.wr W55
  have f60 := F_start.other W55 (Or.inr (slot_ne (Or.inr (hw _ (List.mem_of_getElem? (i := 18) rfl)) : Laid Z a0 "com/example/medianest/medianest/Graph" "com/example/medianest/medianest/Graph" "start" "[I") (Or.inr (hw _ (List.mem_of_getElem? (i := 16) rfl)) : Laid Z a0 "com/example/medianest/medianest/Graph" "com/example/medianest/medianest/Graph" "size" "I") (by decide) (t := (.array .int)) (t' := .int) (by decide) (by decide)))
  have f61 := F_arcs.other W55 (Or.inr (slot_ne (Or.inr (hw _ (List.mem_of_getElem? (i := 20) rfl)) : Laid Z a0 "com/example/medianest/medianest/Graph" "com/example/medianest/medianest/Graph" "arcs" "[I") (Or.inr (hw _ (List.mem_of_getElem? (i := 16) rfl)) : Laid Z a0 "com/example/medianest/medianest/Graph" "com/example/medianest/medianest/Graph" "size" "I") (by decide) (t := (.array .int)) (t' := .int) (by decide) (by decide)))
  have f62 := F_lengths.other W55 (Or.inr (slot_ne (Or.inr (hw _ (List.mem_of_getElem? (i := 22) rfl)) : Laid Z a0 "com/example/medianest/medianest/Graph" "com/example/medianest/medianest/Graph" "lengths" "[D") (Or.inr (hw _ (List.mem_of_getElem? (i := 16) rfl)) : Laid Z a0 "com/example/medianest/medianest/Graph" "com/example/medianest/medianest/Graph" "size" "I") (by decide) (t := (.array .double)) (t' := .int) (by decide) (by decide)))
  have f63 := Ae.other W55 nea
  have f64 := Al.other W55 nla
  have Z65 : n0 ≤ h55.size := by have q := Z0; rw [W55.size]; exact q
  have N55 := Fr.snoc X55 N0 ga
  refine r_aloadN X55.here hx (hb hby d2_9) rfl rfl (pc' := 10) rfl ?_
  refine r_iloadN X55.here hx (hb hby d2_10) rfl (pc' := 11) rfl ?_
  refine r_iconst X55.here hx (hb hby d2_11) (v := 1) rfl (pc' := 12) rfl ?_
  refine r_iadd X55.here hx (hb hby d2_12) (pc' := 13) rfl ?_
  refine r_newarray X55 hx hZ (aty := .int) (hw _ (List.mem_of_getElem? (i := 0) rfl)) e55 (cap := 5) (by rw [Int32.lt_iff_toInt_lt, show (0 : Int32).toInt = 0 from rfl]; omega) (show (n + 1).toInt.toNat ≤ 5 by omega) (by decide) (by decide) (by decide) (hb hby d2_13) (pc' := 15) rfl (fun T66 h66 b66 k66 g66 X66 e66 E66 A66 => ?_)
  have fr67 : h0.size ≤ b66 := by rw [g66]; exact K58.1
  have ne68 : b66 ≠ a := by have q := f59.lt; rw [← g66] at q; exact Nat.ne_of_gt q
  have ne69 : b66 ≠ en := by have q := f63.lt; rw [← g66] at q; exact Nat.ne_of_gt q
  have ne70 : b66 ≠ le := by have q := f64.lt; rw [← g66] at q; exact Nat.ne_of_gt q
  have ge71 : n0 ≤ b66 := by rw [g66]; exact Z65
  have K72 := K58.ext E66
  have f73 := f59.ext E66
  have f74 := f60.ext E66
  have f75 := f61.ext E66
  have f76 := f62.ext E66
  have f77 := f63.ext E66
  have f78 := f64.ext E66
  have f79 := f56.ext E66
  have Z80 : n0 ≤ h66.size := by have q := Z65; exact Nat.le_trans q E66.1
  have f81 : Ary Z h66 b66 .int (N + 1) (fun _ => .int 0) := Ary.new A66 (show (n + 1).toInt.toNat = N + 1 by omega)
  refine r_putF X66 hx hZ hown (hw _ (List.mem_of_getElem? (i := 17) rfl)) Via.refl e66 f74 f73 (Or.inr ⟨(hw _ (List.mem_of_getElem? (i := 18) rfl)), rfl, hnm⟩) (hw _ (List.mem_of_getElem? (i := 7) rfl)) (ty := (.array .int)) (by decide) rfl rfl (hb hby d2_15) (pc' := 18) rfl (fun T82 h82 X82 e82 W82 => ?_)
  have f83 := f74.same W82
  have K84 := K72.wr W82 (Or.inl (List.mem_of_getElem? (i := 0) rfl))
  have f85 := f73.wr W82
  have f86 := f75.other W82 (Or.inr (slot_ne (Or.inr (hw _ (List.mem_of_getElem? (i := 20) rfl)) : Laid Z a0 "com/example/medianest/medianest/Graph" "com/example/medianest/medianest/Graph" "arcs" "[I") (Or.inr (hw _ (List.mem_of_getElem? (i := 18) rfl)) : Laid Z a0 "com/example/medianest/medianest/Graph" "com/example/medianest/medianest/Graph" "start" "[I") (by decide) (t := (.array .int)) (t' := (.array .int)) (by decide) (by decide)))
  have f87 := f76.other W82 (Or.inr (slot_ne (Or.inr (hw _ (List.mem_of_getElem? (i := 22) rfl)) : Laid Z a0 "com/example/medianest/medianest/Graph" "com/example/medianest/medianest/Graph" "lengths" "[D") (Or.inr (hw _ (List.mem_of_getElem? (i := 18) rfl)) : Laid Z a0 "com/example/medianest/medianest/Graph" "com/example/medianest/medianest/Graph" "start" "[I") (by decide) (t := (.array .double)) (t' := (.array .int)) (by decide) (by decide)))
  have f88 := f77.other W82 nea
  have f89 := f78.other W82 nla
  have f90 := f79.other W82 (Or.inr (slot_ne (Or.inr (hw _ (List.mem_of_getElem? (i := 16) rfl)) : Laid Z a0 "com/example/medianest/medianest/Graph" "com/example/medianest/medianest/Graph" "size" "I") (Or.inr (hw _ (List.mem_of_getElem? (i := 18) rfl)) : Laid Z a0 "com/example/medianest/medianest/Graph" "com/example/medianest/medianest/Graph" "start" "[I") (by decide) (t := .int) (t' := (.array .int)) (by decide) (by decide)))
  have f91 := f81.other W82 ne68
  have Z92 : n0 ≤ h82.size := by have q := Z80; rw [W82.size]; exact q
  have N82 := Fr.snoc X82 N55 ga
  refine r_iconst X82.here hx (hb hby d2_18) (v := 0) rfl (pc' := 19) rfl ?_
  refine r_istore X82.here hx (hb hby d2_19) (l' := #[.val (.ref a), .val (.int n), .val (.ref en), .val (.ref le), .val (.int mc), .val (.int (0 : Int32)), .unset, .unset, .unset]) rfl (pc' := 21) rfl ?_
  have c10 : own_C1 A N 0 (fun _ => 0) := ⟨rfl, fun v _ => rfl⟩
  have Ja : ∀ (dJa : Nat) (ee : Nat) (ei : Int32) (F : Nat → Int32) (TJa : State) (LJa : List Loc), Stand p l e ({ frames := 2, cells := 4, slots := 33, locals := 54 } : Room) s m #[(.ref a), (.int n), (.ref en), (.ref le), (.int mc)] below meth c TJa LJa 1 5 → Fr n0 LJa → n0 ≤ TJa.heap.size → Keep h0 TJa.heap [a] → Exa Z TJa.heap a "com/example/medianest/medianest/Graph" → Fld Z TJa.heap a "com/example/medianest/medianest/Graph" "arcs" "[I" .null → Fld Z TJa.heap a "com/example/medianest/medianest/Graph" "lengths" "[D" .null → Ary Z TJa.heap en .int 12 (fun i => .int (A i)) → Ary Z TJa.heap le .double 6 (fun i => .double (lf i)) → Fld Z TJa.heap a "com/example/medianest/medianest/Graph" "size" "I" (.int n) → Ary Z TJa.heap b66 .int (N + 1) (fun i => .int (F i)) → Fld Z TJa.heap a "com/example/medianest/medianest/Graph" "start" "[I" (.ref b66) → ei.toInt = ee → ee + dJa = M → own_C1 A N (2 * ee) F → Run p e below (fun v h L => v = none ∧ Fr n0 L ∧ Keep h0 h [a] ∧ ∃ (sa aa : Addr) (fS B : Nat → Int32), Fld Z h a "com/example/medianest/medianest/Graph" "size" "I" (.int n) ∧ Fld Z h a "com/example/medianest/medianest/Graph" "start" "[I" (.ref sa) ∧ Fld Z h a "com/example/medianest/medianest/Graph" "arcs" "[I" (.ref aa) ∧ Ary Z h sa .int (N + 1) (fun i => .int (fS i)) ∧ Ary Z h aa .int (own_S A (2 * M) N) (fun i => .int (B i)) ∧ (∀ v, v ≤ N → (fS v).toInt = own_S A (2 * M) v) ∧ own_C4 A (2 * M) (2 * M) B) (fun o t L => FrameEnd s o t L 4 33) TJa (mkF m 21 #[.val (.ref a), .val (.int n), .val (.ref en), .val (.ref le), .val (.int mc), .val (.int ei), .unset, .unset, .unset] []) := by
    intro dJa
    induction dJa with
    | zero =>
      intro ee ei F TJa LJa XJa NJa ZJa KJa fJa_0 fJa_1 fJa_2 fJa_3 fJa_4 fJa_5 fJa_6 fJa_7 he hd hC
      have hee : ee = M := by omega
      subst hee
      refine r_iload XJa.here hx (hb hby d2_21) rfl (pc' := 23) rfl ?_
      refine r_iload XJa.here hx (hb hby d2_23) rfl (pc' := 25) rfl ?_
      refine r_if_ge XJa.here hx (hb hby d2_25) (by decide) (pc' := 70) (by decide) (pc2 := 28) rfl (fun hc25 => ?_) (fun hc25 => absurd (show mc.toInt ≤ ei.toInt by omega) hc25)
      refine r_iconst XJa.here hx (hb hby d2_70) (v := 0) rfl (pc' := 71) rfl ?_
      refine r_istore XJa.here hx (hb hby d2_71) (l' := #[.val (.ref a), .val (.int n), .val (.ref en), .val (.ref le), .val (.int mc), .val (.int (0 : Int32)), .unset, .unset, .unset]) rfl (pc' := 73) rfl ?_
      have Jb : ∀ (dJb : Nat) (ii : Nat) (ix : Int32) (G : Nat → Int32) (TJb : State) (LJb : List Loc), Stand p l e ({ frames := 2, cells := 4, slots := 33, locals := 54 } : Room) s m #[(.ref a), (.int n), (.ref en), (.ref le), (.int mc)] below meth c TJb LJb 1 5 → Fr n0 LJb → n0 ≤ TJb.heap.size → Keep h0 TJb.heap [a] → Exa Z TJb.heap a "com/example/medianest/medianest/Graph" → Fld Z TJb.heap a "com/example/medianest/medianest/Graph" "arcs" "[I" .null → Fld Z TJb.heap a "com/example/medianest/medianest/Graph" "lengths" "[D" .null → Ary Z TJb.heap en .int 12 (fun i => .int (A i)) → Ary Z TJb.heap le .double 6 (fun i => .double (lf i)) → Fld Z TJb.heap a "com/example/medianest/medianest/Graph" "size" "I" (.int n) → Ary Z TJb.heap b66 .int (N + 1) (fun i => .int (G i)) → Fld Z TJb.heap a "com/example/medianest/medianest/Graph" "start" "[I" (.ref b66) → ix.toInt = ii → ii + dJb = N → own_C2 A N (2 * ee) ii G → Run p e below (fun v h L => v = none ∧ Fr n0 L ∧ Keep h0 h [a] ∧ ∃ (sa aa : Addr) (fS B : Nat → Int32), Fld Z h a "com/example/medianest/medianest/Graph" "size" "I" (.int n) ∧ Fld Z h a "com/example/medianest/medianest/Graph" "start" "[I" (.ref sa) ∧ Fld Z h a "com/example/medianest/medianest/Graph" "arcs" "[I" (.ref aa) ∧ Ary Z h sa .int (N + 1) (fun i => .int (fS i)) ∧ Ary Z h aa .int (own_S A (2 * ee) N) (fun i => .int (B i)) ∧ (∀ v, v ≤ N → (fS v).toInt = own_S A (2 * ee) v) ∧ own_C4 A (2 * ee) (2 * ee) B) (fun o t L => FrameEnd s o t L 4 33) TJb (mkF m 73 #[.val (.ref a), .val (.int n), .val (.ref en), .val (.ref le), .val (.int mc), .val (.int ix), .unset, .unset, .unset] []) := by
        intro dJb
        induction dJb with
        | zero =>
          intro ii ix G TJb LJb XJb NJb ZJb KJb fJb_0 fJb_1 fJb_2 fJb_3 fJb_4 fJb_5 fJb_6 fJb_7 hi hdb hG
          have hii : ii = N := by omega
          subst hii
          have gN := hG.1 ii (Nat.le_refl _)
          have sN := own_St A (2 * ee) ii
          have nn : n.toInt.toNat = ii := by omega
          refine r_iload XJb.here hx (hb hby d2_73) rfl (pc' := 75) rfl ?_
          refine r_iloadN XJb.here hx (hb hby d2_75) rfl (pc' := 76) rfl ?_
          refine r_if_ge XJb.here hx (hb hby d2_76) (by decide) (pc' := 104) (by decide) (pc2 := 79) rfl (fun hc76 => ?_) (fun hc76 => absurd (show n.toInt ≤ ix.toInt by omega) hc76)
          refine r_aloadN XJb.here hx (hb hby d2_104) rfl rfl (pc' := 105) rfl ?_
          refine r_aloadN XJb.here hx (hb hby d2_105) rfl rfl (pc' := 106) rfl ?_
          refine r_getF XJb hx hZ hown (hw _ (List.mem_of_getElem? (i := 17) rfl)) Via.refl rfl fJb_7 (hb hby d2_106) (pc' := 109) rfl (fun T93 X93 e93 => ?_)
          refine r_iloadN X93.here hx (hb hby d2_109) rfl (pc' := 110) rfl ?_
          refine q_iaload X93 hx hZ e93 (j := n) (v := (G ii)) fJb_6 (by omega) (by omega) (congrArg (fun z => Value.int (G z)) nn) (hb hby d2_110) (pc' := 111) rfl ?_
          refine r_newarray X93 hx hZ (aty := .int) (hw _ (List.mem_of_getElem? (i := 0) rfl)) e93 (cap := 12) (by rw [Int32.lt_iff_toInt_lt, show (0 : Int32).toInt = 0 from rfl]; omega) (show (G ii).toInt.toNat ≤ 12 by omega) (by decide) (by decide) (by decide) (hb hby d2_111) (pc' := 113) rfl (fun T94 h94 b94 k94 g94 X94 e94 E94 A94 => ?_)
          have fr95 : h0.size ≤ b94 := by rw [g94]; exact KJb.1
          have ne96 : b94 ≠ a := by have q := fJb_0.lt; rw [← g94] at q; exact Nat.ne_of_gt q
          have ne97 : b94 ≠ en := by have q := fJb_3.lt; rw [← g94] at q; exact Nat.ne_of_gt q
          have ne98 : b94 ≠ le := by have q := fJb_4.lt; rw [← g94] at q; exact Nat.ne_of_gt q
          have ne99 : b94 ≠ b66 := by have q := fJb_6.lt; rw [← g94] at q; exact Nat.ne_of_gt q
          have ge100 : n0 ≤ b94 := by rw [g94]; exact ZJb
          have K101 := KJb.ext E94
          have f102 := fJb_0.ext E94
          have f103 := fJb_1.ext E94
          have f104 := fJb_2.ext E94
          have f105 := fJb_3.ext E94
          have f106 := fJb_4.ext E94
          have f107 := fJb_5.ext E94
          have f108 := fJb_6.ext E94
          have f109 := fJb_7.ext E94
          have Z110 : n0 ≤ h94.size := by have q := ZJb; exact Nat.le_trans q E94.1
          have f111 : Ary Z h94 b94 .int (own_S A (2 * ee) ii) (fun _ => .int 0) := Ary.new A94 (show (G ii).toInt.toNat = own_S A (2 * ee) ii by omega)
          refine r_putF X94 hx hZ hown (hw _ (List.mem_of_getElem? (i := 19) rfl)) Via.refl e94 f103 f102 (Or.inr ⟨(hw _ (List.mem_of_getElem? (i := 20) rfl)), rfl, hnm⟩) (hw _ (List.mem_of_getElem? (i := 7) rfl)) (ty := (.array .int)) (by decide) rfl rfl (hb hby d2_113) (pc' := 116) rfl (fun T112 h112 X112 e112 W112 => ?_)
          have f113 := f103.same W112
          have K114 := K101.wr W112 (Or.inl (List.mem_of_getElem? (i := 0) rfl))
          have f115 := f102.wr W112
          have f116 := f104.other W112 (Or.inr (slot_ne (Or.inr (hw _ (List.mem_of_getElem? (i := 22) rfl)) : Laid Z a0 "com/example/medianest/medianest/Graph" "com/example/medianest/medianest/Graph" "lengths" "[D") (Or.inr (hw _ (List.mem_of_getElem? (i := 20) rfl)) : Laid Z a0 "com/example/medianest/medianest/Graph" "com/example/medianest/medianest/Graph" "arcs" "[I") (by decide) (t := (.array .double)) (t' := (.array .int)) (by decide) (by decide)))
          have f117 := f105.other W112 nea
          have f118 := f106.other W112 nla
          have f119 := f107.other W112 (Or.inr (slot_ne (Or.inr (hw _ (List.mem_of_getElem? (i := 16) rfl)) : Laid Z a0 "com/example/medianest/medianest/Graph" "com/example/medianest/medianest/Graph" "size" "I") (Or.inr (hw _ (List.mem_of_getElem? (i := 20) rfl)) : Laid Z a0 "com/example/medianest/medianest/Graph" "com/example/medianest/medianest/Graph" "arcs" "[I") (by decide) (t := .int) (t' := (.array .int)) (by decide) (by decide)))
          have f120 := f108.other W112 ne68
          have f121 := f109.other W112 (Or.inr (slot_ne (Or.inr (hw _ (List.mem_of_getElem? (i := 18) rfl)) : Laid Z a0 "com/example/medianest/medianest/Graph" "com/example/medianest/medianest/Graph" "start" "[I") (Or.inr (hw _ (List.mem_of_getElem? (i := 20) rfl)) : Laid Z a0 "com/example/medianest/medianest/Graph" "com/example/medianest/medianest/Graph" "arcs" "[I") (by decide) (t := (.array .int)) (t' := (.array .int)) (by decide) (by decide)))
          have f122 := f111.other W112 ne96
          have Z123 : n0 ≤ h112.size := by have q := Z110; rw [W112.size]; exact q
          have N112 := Fr.snoc X112 NJb ga
          refine r_aloadN X112.here hx (hb hby d2_116) rfl rfl (pc' := 117) rfl ?_
          refine r_aloadN X112.here hx (hb hby d2_117) rfl rfl (pc' := 118) rfl ?_
          refine r_getF X112 hx hZ hown (hw _ (List.mem_of_getElem? (i := 17) rfl)) Via.refl e112 f121 (hb hby d2_118) (pc' := 121) rfl (fun T124 X124 e124 => ?_)
          refine r_iloadN X124.here hx (hb hby d2_121) rfl (pc' := 122) rfl ?_
          refine q_iaload X124 hx hZ e124 (j := n) (v := (G ii)) f120 (by omega) (by omega) (congrArg (fun z => Value.int (G z)) nn) (hb hby d2_122) (pc' := 123) rfl ?_
          refine r_newarray X124 hx hZ (aty := .double) (hw _ (List.mem_of_getElem? (i := 5) rfl)) e124 (cap := 12) (by rw [Int32.lt_iff_toInt_lt, show (0 : Int32).toInt = 0 from rfl]; omega) (show (G ii).toInt.toNat ≤ 12 by omega) (by decide) (by decide) (by decide) (hb hby d2_123) (pc' := 125) rfl (fun T125 h125 b125 k125 g125 X125 e125 E125 A125 => ?_)
          have fr126 : h0.size ≤ b125 := by rw [g125]; exact K114.1
          have ne127 : b125 ≠ a := by have q := f115.lt; rw [← g125] at q; exact Nat.ne_of_gt q
          have ne128 : b125 ≠ en := by have q := f117.lt; rw [← g125] at q; exact Nat.ne_of_gt q
          have ne129 : b125 ≠ le := by have q := f118.lt; rw [← g125] at q; exact Nat.ne_of_gt q
          have ne130 : b125 ≠ b66 := by have q := f120.lt; rw [← g125] at q; exact Nat.ne_of_gt q
          have ne131 : b125 ≠ b94 := by have q := f122.lt; rw [← g125] at q; exact Nat.ne_of_gt q
          have ge132 : n0 ≤ b125 := by rw [g125]; exact Z123
          have K133 := K114.ext E125
          have f134 := f115.ext E125
          have f135 := f116.ext E125
          have f136 := f117.ext E125
          have f137 := f118.ext E125
          have f138 := f119.ext E125
          have f139 := f120.ext E125
          have f140 := f121.ext E125
          have f141 := f122.ext E125
          have f142 := f113.ext E125
          have Z143 : n0 ≤ h125.size := by have q := Z123; exact Nat.le_trans q E125.1
          have f144 : Ary Z h125 b125 .double (own_S A (2 * ee) ii) (fun _ => .double 0) := Ary.new A125 (show (G ii).toInt.toNat = own_S A (2 * ee) ii by omega)
          refine r_putF X125 hx hZ hown (hw _ (List.mem_of_getElem? (i := 21) rfl)) Via.refl e125 f135 f134 (Or.inr ⟨(hw _ (List.mem_of_getElem? (i := 22) rfl)), rfl, hnm⟩) (hw _ (List.mem_of_getElem? (i := 7) rfl)) (ty := (.array .double)) (by decide) rfl rfl (hb hby d2_125) (pc' := 128) rfl (fun T145 h145 X145 e145 W145 => ?_)
          have f146 := f135.same W145
          have K147 := K133.wr W145 (Or.inl (List.mem_of_getElem? (i := 0) rfl))
          have f148 := f134.wr W145
          have f149 := f136.other W145 nea
          have f150 := f137.other W145 nla
          have f151 := f138.other W145 (Or.inr (slot_ne (Or.inr (hw _ (List.mem_of_getElem? (i := 16) rfl)) : Laid Z a0 "com/example/medianest/medianest/Graph" "com/example/medianest/medianest/Graph" "size" "I") (Or.inr (hw _ (List.mem_of_getElem? (i := 22) rfl)) : Laid Z a0 "com/example/medianest/medianest/Graph" "com/example/medianest/medianest/Graph" "lengths" "[D") (by decide) (t := .int) (t' := (.array .double)) (by decide) (by decide)))
          have f152 := f139.other W145 ne68
          have f153 := f140.other W145 (Or.inr (slot_ne (Or.inr (hw _ (List.mem_of_getElem? (i := 18) rfl)) : Laid Z a0 "com/example/medianest/medianest/Graph" "com/example/medianest/medianest/Graph" "start" "[I") (Or.inr (hw _ (List.mem_of_getElem? (i := 22) rfl)) : Laid Z a0 "com/example/medianest/medianest/Graph" "com/example/medianest/medianest/Graph" "lengths" "[D") (by decide) (t := (.array .int)) (t' := (.array .double)) (by decide) (by decide)))
          have f154 := f141.other W145 ne96
          have f155 := f142.other W145 (Or.inr (slot_ne (Or.inr (hw _ (List.mem_of_getElem? (i := 20) rfl)) : Laid Z a0 "com/example/medianest/medianest/Graph" "com/example/medianest/medianest/Graph" "arcs" "[I") (Or.inr (hw _ (List.mem_of_getElem? (i := 22) rfl)) : Laid Z a0 "com/example/medianest/medianest/Graph" "com/example/medianest/medianest/Graph" "lengths" "[D") (by decide) (t := (.array .int)) (t' := (.array .double)) (by decide) (by decide)))
          have f156 := f144.other W145 ne127
          have Z157 : n0 ≤ h145.size := by have q := Z143; rw [W145.size]; exact q
          have N145 := Fr.snoc X145 N112 ga
          refine r_aloadN X145.here hx (hb hby d2_128) rfl rfl (pc' := 129) rfl ?_
          refine r_getF X145 hx hZ hown (hw _ (List.mem_of_getElem? (i := 17) rfl)) Via.refl e145 f153 (hb hby d2_129) (pc' := 132) rfl (fun T158 X158 e158 => ?_)
          refine r_iloadN X158.here hx (hb hby d2_132) rfl (pc' := 133) rfl ?_
          refine r_callS X158 hx hZ (y := (⟨"java/util/Arrays", "copyOf", "([II)[I"⟩ : MethodName)) (rm := ({ frames := 1, cells := 1, slots := 4, locals := 40 } : Room)) hown (hw _ (List.mem_of_getElem? (i := 23) rfl)) (hw _ (List.mem_of_getElem? (i := 24) rfl)) (hw _ (List.mem_of_getElem? (i := 25) rfl)) (hw _ (List.mem_of_getElem? (i := 26) rfl)) (by decide) (rmCp l Z a0 hw [] b66 n ii G h145 n0 Z157 f152 hn (by omega)) e158 (by rw [hml]; rfl) (argsL := [(.ref b66), (.int n)]) (rest := []) (lenOf pd_2 rfl) rfl rfl (W := 0) rfl (by decide) (by decide) (by decide) (by decide) (hb hby d2_133) (pc' := 136) rfl ?_
          rintro v159 T159 L159 X159 ⟨fb, rfl, Nq159, K159, gfb, ffb, A159⟩
          have N159 := Fr.app N145 Nq159
          show Run p e below _ _ T159 (mkF m 136 #[.val (.ref a), .val (.int n), .val (.ref en), .val (.ref le), .val (.int mc), .val (.int ix), .unset, .unset, .unset] [(.ref fb)])
          have ne160 : fb ≠ a := Nat.ne_of_gt (Nat.lt_of_lt_of_le f148.lt ffb)
          have ne161 : fb ≠ en := Nat.ne_of_gt (Nat.lt_of_lt_of_le f149.lt ffb)
          have ne162 : fb ≠ le := Nat.ne_of_gt (Nat.lt_of_lt_of_le f150.lt ffb)
          have ne163 : fb ≠ b66 := Nat.ne_of_gt (Nat.lt_of_lt_of_le f152.lt ffb)
          have ne164 : fb ≠ b94 := Nat.ne_of_gt (Nat.lt_of_lt_of_le f154.lt ffb)
          have ne165 : fb ≠ b125 := Nat.ne_of_gt (Nat.lt_of_lt_of_le f156.lt ffb)
          have fr166 : h0.size ≤ fb := Nat.le_trans K147.1 ffb
          have K167 := K147.trans K159 all0
          have f168 := f148.keep K159
          have f169 := f149.keep K159 nin0
          have f170 := f150.keep K159 nin0
          have f171 := f151.keep K159 nin0
          have f172 := f152.keep K159 nin0
          have f173 := f153.keep K159 nin0
          have f174 := f154.keep K159 nin0
          have f175 := f155.keep K159 nin0
          have f176 := f156.keep K159 nin0
          have f177 := f146.keep K159 nin0
          have Z178 : n0 ≤ T159.heap.size := by have q := Z157; exact Nat.le_trans q K159.1
          refine r_astore X159.here hx (hb hby d2_136) rfl (l' := #[.val (.ref a), .val (.int n), .val (.ref en), .val (.ref le), .val (.int mc), .val (.ref fb), .unset, .unset, .unset]) rfl (pc' := 138) rfl ?_
          refine r_iconst X159.here hx (hb hby d2_138) (v := 0) rfl (pc' := 139) rfl ?_
          refine r_istore X159.here hx (hb hby d2_139) (l' := #[.val (.ref a), .val (.int n), .val (.ref en), .val (.ref le), .val (.int mc), .val (.ref fb), .val (.int (0 : Int32)), .unset, .unset]) rfl (pc' := 141) rfl ?_
          have c30 : own_C3 A ii (2 * ee) 0 G := fun v hv => by rw [hG.1 v (by omega)]; simp [own_cnt]
          have c40 : own_C4 A (2 * ee) 0 (fun _ => 0) := fun i hi => absurd hi (by omega)
          have Jc : ∀ (dJc : Nat) (kk : Nat) (ki : Int32) (P B : Nat → Int32) (D : Nat → UInt64) (o7 o8 : Slot) (TJc : State) (LJc : List Loc), Stand p l e ({ frames := 2, cells := 4, slots := 33, locals := 54 } : Room) s m #[(.ref a), (.int n), (.ref en), (.ref le), (.int mc)] below meth c TJc LJc 4 33 → Fr n0 LJc → n0 ≤ TJc.heap.size → Keep h0 TJc.heap [a] → Exa Z TJc.heap a "com/example/medianest/medianest/Graph" → Ary Z TJc.heap en .int 12 (fun i => .int (A i)) → Ary Z TJc.heap le .double 6 (fun i => .double (lf i)) → Fld Z TJc.heap a "com/example/medianest/medianest/Graph" "size" "I" (.int n) → Ary Z TJc.heap b66 .int (ii + 1) (fun i => .int (G i)) → Fld Z TJc.heap a "com/example/medianest/medianest/Graph" "start" "[I" (.ref b66) → Ary Z TJc.heap b94 .int (own_S A (2 * ee) ii) (fun i => .int (B i)) → Fld Z TJc.heap a "com/example/medianest/medianest/Graph" "arcs" "[I" (.ref b94) → Ary Z TJc.heap b125 .double (own_S A (2 * ee) ii) (fun i => .double (D i)) → Fld Z TJc.heap a "com/example/medianest/medianest/Graph" "lengths" "[D" (.ref b125) → Ary Z TJc.heap fb .int ii (fun i => .int (P i)) → ki.toInt = kk → kk + dJc = ee → own_C3 A ii (2 * ee) (2 * kk) P → own_C4 A (2 * ee) (2 * kk) B → ((o7 = .unset ∧ o8 = .unset) ∨ ∃ x y : Int32, o7 = .val (.int x) ∧ o8 = .val (.int y)) → Run p e below (fun v h L => v = none ∧ Fr n0 L ∧ Keep h0 h [a] ∧ ∃ (sa aa : Addr) (fS B : Nat → Int32), Fld Z h a "com/example/medianest/medianest/Graph" "size" "I" (.int n) ∧ Fld Z h a "com/example/medianest/medianest/Graph" "start" "[I" (.ref sa) ∧ Fld Z h a "com/example/medianest/medianest/Graph" "arcs" "[I" (.ref aa) ∧ Ary Z h sa .int (ii + 1) (fun i => .int (fS i)) ∧ Ary Z h aa .int (own_S A (2 * ee) ii) (fun i => .int (B i)) ∧ (∀ v, v ≤ ii → (fS v).toInt = own_S A (2 * ee) v) ∧ own_C4 A (2 * ee) (2 * ee) B) (fun o t L => FrameEnd s o t L 4 33) TJc (mkF m 141 #[.val (.ref a), .val (.int n), .val (.ref en), .val (.ref le), .val (.int mc), .val (.ref fb), .val (.int ki), o7, o8] []) := by
            intro dJc
            induction dJc with
            | zero =>
              intro kk ki P B D o7 o8 TJc LJc XJc NJc ZJc KJc fJc_0 fJc_1 fJc_2 fJc_3 fJc_4 fJc_5 fJc_6 fJc_7 fJc_8 fJc_9 fJc_10 hk hdc hP hB ho
              have hkk : kk = ee := by omega
              have hB2 : own_C4 A (2 * ee) (2 * ee) B := by have q := hB; rw [hkk] at q; exact q
              refine r_iload XJc.here hx (hb hby d2_141) rfl (pc' := 143) rfl ?_
              refine r_iload XJc.here hx (hb hby d2_143) rfl (pc' := 145) rfl ?_
              refine r_if_ge XJc.here hx (hb hby d2_145) (by decide) (pc' := 234) (by decide) (pc2 := 148) rfl (fun hc145 => ?_) (fun hc145 => absurd (show mc.toInt ≤ ki.toInt by omega) hc145)
              refine r_ret0 XJc hx hlk hret (hb hby d2_234) ?_ (by decide) (by decide)
              skip
              exact ⟨rfl, NJc, KJc, b66, b94, G, B, fJc_3, fJc_5, fJc_7, fJc_4, fJc_6, fun v hv => hG.1 v hv, hB2⟩
            | succ dJc ihJc =>
              intro kk ki P B D o7 o8 TJc LJc XJc NJc ZJc KJc fJc_0 fJc_1 fJc_2 fJc_3 fJc_4 fJc_5 fJc_6 fJc_7 fJc_8 fJc_9 fJc_10 hk hdc hP hB ho
              have i2 := own_2e hk (by omega)
              have ra := rA (2 * kk) (by omega)
              have rb := rA (2 * kk + 1) (by omega)
              have pka : (P (own_al A (2 * kk))).toInt = own_pos A (2 * ee) (2 * kk) := by have q := hP (own_al A (2 * kk)) (by unfold own_al; omega); rw [q]; unfold own_pos; omega
              have pla := (own_pl A (M := 2 * ee) (i := 2 * kk) (n := ii) (by omega) (by unfold own_al; omega)).2.2
              refine r_iload XJc.here hx (hb hby d2_141) rfl (pc' := 143) rfl ?_
              refine r_iload XJc.here hx (hb hby d2_143) rfl (pc' := 145) rfl ?_
              refine r_if_ge XJc.here hx (hb hby d2_145) (by decide) (pc' := 234) (by decide) (pc2 := 148) rfl (fun hc145 => absurd hc145 (by omega)) (fun hc145 => ?_)
              refine r_aloadN XJc.here hx (hb hby d2_148) rfl rfl (pc' := 149) rfl ?_
              refine r_iconst XJc.here hx (hb hby d2_149) (v := 2) rfl (pc' := 150) rfl ?_
              refine r_iload XJc.here hx (hb hby d2_150) rfl (pc' := 152) rfl ?_
              refine r_imul XJc.here hx (hb hby d2_152) (pc' := 153) rfl ?_
              refine q_iaload XJc hx hZ rfl (j := ((2 : Int32) * ki)) (v := (A (2 * kk))) fJc_1 (by omega) (by omega) (congrArg (fun z => Value.int (A z)) (show ((2 : Int32) * ki).toInt.toNat = 2 * kk by omega)) (hb hby d2_153) (pc' := 154) rfl ?_
              refine r_istore XJc.here hx (hb hby d2_154) (l' := #[.val (.ref a), .val (.int n), .val (.ref en), .val (.ref le), .val (.int mc), .val (.ref fb), .val (.int ki), .val (.int (A (2 * kk))), o8]) (by rcases ho with ⟨rfl, rfl⟩ | ⟨_, _, rfl, rfl⟩ <;> rfl) (pc' := 156) rfl ?_
              refine r_aloadN XJc.here hx (hb hby d2_156) rfl rfl (pc' := 157) rfl ?_
              refine r_iconst XJc.here hx (hb hby d2_157) (v := 2) rfl (pc' := 158) rfl ?_
              refine r_iload XJc.here hx (hb hby d2_158) rfl (pc' := 160) rfl ?_
              refine r_imul XJc.here hx (hb hby d2_160) (pc' := 161) rfl ?_
              refine r_iconst XJc.here hx (hb hby d2_161) (v := 1) rfl (pc' := 162) rfl ?_
              refine r_iadd XJc.here hx (hb hby d2_162) (pc' := 163) rfl ?_
              refine q_iaload XJc hx hZ rfl (j := (((2 : Int32) * ki) + (1 : Int32))) (v := (A (2 * kk + 1))) fJc_1 (by omega) (by omega) (congrArg (fun z => Value.int (A z)) (show ((2 : Int32) * ki + 1).toInt.toNat = 2 * kk + 1 by omega)) (hb hby d2_163) (pc' := 164) rfl ?_
              refine r_istore XJc.here hx (hb hby d2_164) (l' := #[.val (.ref a), .val (.int n), .val (.ref en), .val (.ref le), .val (.int mc), .val (.ref fb), .val (.int ki), .val (.int (A (2 * kk))), .val (.int (A (2 * kk + 1)))]) (by rcases ho with ⟨rfl, rfl⟩ | ⟨_, _, rfl, rfl⟩ <;> rfl) (pc' := 166) rfl ?_
              refine r_aloadN XJc.here hx (hb hby d2_166) rfl rfl (pc' := 167) rfl ?_
              refine r_getF XJc hx hZ hown (hw _ (List.mem_of_getElem? (i := 19) rfl)) Via.refl rfl fJc_7 (hb hby d2_167) (pc' := 170) rfl (fun T179 X179 e179 => ?_)
              refine r_aload X179.here hx (hb hby d2_170) rfl rfl (pc' := 172) rfl ?_
              refine r_iload X179.here hx (hb hby d2_172) rfl (pc' := 174) rfl ?_
              refine q_iaload X179 hx hZ e179 (j := (A (2 * kk))) (v := (P (own_al A (2 * kk)))) fJc_10 (by omega) (by omega) rfl (hb hby d2_174) (pc' := 175) rfl ?_
              refine r_iload X179.here hx (hb hby d2_175) rfl (pc' := 177) rfl ?_
              refine q_iastore X179 hx hZ e179 (j := (P (own_al A (2 * kk)))) fJc_6 (by omega) (by omega) (hb hby d2_177) (pc' := 178) rfl (fun T180 h180 X180 e180 W180 A180 => ?_)
              have K181 := KJc.wr W180 (Or.inr fr95)
              have f182 := fJc_0.wr W180
              have f183 := fJc_1.other W180 (Ne.symm ne97)
              have f184 := fJc_2.other W180 (Ne.symm ne98)
              have f185 := fJc_3.other W180 (Or.inl (Ne.symm ne96))
              have f186 := fJc_4.other W180 (Ne.symm ne99)
              have f187 := fJc_5.other W180 (Or.inl (Ne.symm ne96))
              have f188 := fJc_7.other W180 (Or.inl (Ne.symm ne96))
              have f189 := fJc_8.other W180 ne131
              have f190 := fJc_9.other W180 (Or.inl (Ne.symm ne96))
              have f191 := fJc_10.other W180 ne164
              have Z192 : n0 ≤ h180.size := by have q := ZJc; rw [W180.size]; exact q
              have N180 := Fr.snoc X180 NJc ge100
              refine r_aloadN X180.here hx (hb hby d2_178) rfl rfl (pc' := 179) rfl ?_
              refine r_getF X180 hx hZ hown (hw _ (List.mem_of_getElem? (i := 21) rfl)) Via.refl e180 f190 (hb hby d2_179) (pc' := 182) rfl (fun T193 X193 e193 => ?_)
              refine r_aload X193.here hx (hb hby d2_182) rfl rfl (pc' := 184) rfl ?_
              refine r_iload X193.here hx (hb hby d2_184) rfl (pc' := 186) rfl ?_
              refine r_dup2 X193.here hx (hb hby d2_186) rfl rfl (pc' := 187) rfl ?_
              refine q_iaload X193 hx hZ e193 (j := (A (2 * kk))) (v := (P (own_al A (2 * kk)))) f191 (by omega) (by omega) rfl (hb hby d2_187) (pc' := 188) rfl ?_
              refine r_dup_x2 X193.here hx (hb hby d2_188) rfl rfl rfl (pc' := 189) rfl ?_
              refine r_iconst X193.here hx (hb hby d2_189) (v := 1) rfl (pc' := 190) rfl ?_
              refine r_iadd X193.here hx (hb hby d2_190) (pc' := 191) rfl ?_
              refine q_iastore X193 hx hZ e193 (j := (A (2 * kk))) f191 (by omega) (by omega) (hb hby d2_191) (pc' := 192) rfl (fun T194 h194 X194 e194 W194 A194 => ?_)
              have K195 := K181.wr W194 (Or.inr fr166)
              have f196 := f182.wr W194
              have f197 := f183.other W194 (Ne.symm ne161)
              have f198 := f184.other W194 (Ne.symm ne162)
              have f199 := f185.other W194 (Or.inl (Ne.symm ne160))
              have f200 := f186.other W194 (Ne.symm ne163)
              have f201 := f187.other W194 (Or.inl (Ne.symm ne160))
              have f202 := f188.other W194 (Or.inl (Ne.symm ne160))
              have f203 := f189.other W194 (Ne.symm ne165)
              have f204 := f190.other W194 (Or.inl (Ne.symm ne160))
              have f205 := A180.other W194 (Ne.symm ne164)
              have Z206 : n0 ≤ h194.size := by have q := Z192; rw [W194.size]; exact q
              have N194 := Fr.snoc X194 N180 gfb
              obtain ⟨P1, hP1⟩ : ∃ P1 : Nat → Int32, P1 = (fun i => if i = (A (2 * kk)).toInt.toNat then P (own_al A (2 * kk)) + 1 else P i) := ⟨_, rfl⟩
              have AP207 : Ary Z h194 fb .int ii (fun i => .int (P1 i)) := by rw [hP1]; exact A194
              have c3 : own_C3 A ii (2 * ee) (2 * kk + 1) P1 := by rw [hP1]; exact own_s3 hP (by omega) (by omega) ra rfl
              have c4 := own_s4 hB (by omega) pka (show A (2 * kk + 1) = A (own_pa (2 * kk)) by rw [own_pa0])
              have pkb : (P1 (own_al A (2 * kk + 1))).toInt = own_pos A (2 * ee) (2 * kk + 1) := by have q := c3 (own_al A (2 * kk + 1)) (by unfold own_al; omega); rw [q]; unfold own_pos; omega
              have plb := (own_pl A (M := 2 * ee) (i := 2 * kk + 1) (n := ii) (by omega) (by unfold own_al; omega)).2.2
              refine r_aloadN X194.here hx (hb hby d2_192) rfl rfl (pc' := 193) rfl ?_
              refine r_iload X194.here hx (hb hby d2_193) rfl (pc' := 195) rfl ?_
              refine q_daload X194 hx hZ e194 (j := ki) (v := (lf kk)) f198 (by omega) (by omega) (congrArg (fun z => Value.double (lf z)) (show ki.toInt.toNat = kk by omega)) (hb hby d2_195) (pc' := 196) rfl ?_
              refine q_dastore X194 hx hZ e194 (j := (P (own_al A (2 * kk)))) f203 (by omega) (by omega) (hb hby d2_196) (pc' := 197) rfl (fun T208 h208 X208 e208 W208 A208 => ?_)
              have K209 := K195.wr W208 (Or.inr fr126)
              have f210 := f196.wr W208
              have f211 := f197.other W208 (Ne.symm ne128)
              have f212 := f198.other W208 (Ne.symm ne129)
              have f213 := f199.other W208 (Or.inl (Ne.symm ne127))
              have f214 := f200.other W208 (Ne.symm ne130)
              have f215 := f201.other W208 (Or.inl (Ne.symm ne127))
              have f216 := f202.other W208 (Or.inl (Ne.symm ne127))
              have f217 := f204.other W208 (Or.inl (Ne.symm ne127))
              have f218 := f205.other W208 (Ne.symm ne131)
              have f219 := AP207.other W208 ne165
              have Z220 : n0 ≤ h208.size := by have q := Z206; rw [W208.size]; exact q
              have N208 := Fr.snoc X208 N194 ge132
              refine r_aloadN X208.here hx (hb hby d2_197) rfl rfl (pc' := 198) rfl ?_
              refine r_getF X208 hx hZ hown (hw _ (List.mem_of_getElem? (i := 19) rfl)) Via.refl e208 f216 (hb hby d2_198) (pc' := 201) rfl (fun T221 X221 e221 => ?_)
              refine r_aload X221.here hx (hb hby d2_201) rfl rfl (pc' := 203) rfl ?_
              refine r_iload X221.here hx (hb hby d2_203) rfl (pc' := 205) rfl ?_
              refine q_iaload X221 hx hZ e221 (j := (A (2 * kk + 1))) (v := (P1 (own_al A (2 * kk + 1)))) f219 (by omega) (by omega) rfl (hb hby d2_205) (pc' := 206) rfl ?_
              refine r_iload X221.here hx (hb hby d2_206) rfl (pc' := 208) rfl ?_
              refine q_iastore X221 hx hZ e221 (j := (P1 (own_al A (2 * kk + 1)))) f218 (by omega) (by omega) (hb hby d2_208) (pc' := 209) rfl (fun T222 h222 X222 e222 W222 A222 => ?_)
              have K223 := K209.wr W222 (Or.inr fr95)
              have f224 := f210.wr W222
              have f225 := f211.other W222 (Ne.symm ne97)
              have f226 := f212.other W222 (Ne.symm ne98)
              have f227 := f213.other W222 (Or.inl (Ne.symm ne96))
              have f228 := f214.other W222 (Ne.symm ne99)
              have f229 := f215.other W222 (Or.inl (Ne.symm ne96))
              have f230 := f216.other W222 (Or.inl (Ne.symm ne96))
              have f231 := f217.other W222 (Or.inl (Ne.symm ne96))
              have f232 := f219.other W222 ne164
              have f233 := A208.other W222 ne131
              have Z234 : n0 ≤ h222.size := by have q := Z220; rw [W222.size]; exact q
              have N222 := Fr.snoc X222 N208 ge100
              refine r_aloadN X222.here hx (hb hby d2_209) rfl rfl (pc' := 210) rfl ?_
              refine r_getF X222 hx hZ hown (hw _ (List.mem_of_getElem? (i := 21) rfl)) Via.refl e222 f231 (hb hby d2_210) (pc' := 213) rfl (fun T235 X235 e235 => ?_)
              refine r_aload X235.here hx (hb hby d2_213) rfl rfl (pc' := 215) rfl ?_
              refine r_iload X235.here hx (hb hby d2_215) rfl (pc' := 217) rfl ?_
              refine r_dup2 X235.here hx (hb hby d2_217) rfl rfl (pc' := 218) rfl ?_
              refine q_iaload X235 hx hZ e235 (j := (A (2 * kk + 1))) (v := (P1 (own_al A (2 * kk + 1)))) f232 (by omega) (by omega) rfl (hb hby d2_218) (pc' := 219) rfl ?_
              refine r_dup_x2 X235.here hx (hb hby d2_219) rfl rfl rfl (pc' := 220) rfl ?_
              refine r_iconst X235.here hx (hb hby d2_220) (v := 1) rfl (pc' := 221) rfl ?_
              refine r_iadd X235.here hx (hb hby d2_221) (pc' := 222) rfl ?_
              refine q_iastore X235 hx hZ e235 (j := (A (2 * kk + 1))) f232 (by omega) (by omega) (hb hby d2_222) (pc' := 223) rfl (fun T236 h236 X236 e236 W236 A236 => ?_)
              have K237 := K223.wr W236 (Or.inr fr166)
              have f238 := f224.wr W236
              have f239 := f225.other W236 (Ne.symm ne161)
              have f240 := f226.other W236 (Ne.symm ne162)
              have f241 := f227.other W236 (Or.inl (Ne.symm ne160))
              have f242 := f228.other W236 (Ne.symm ne163)
              have f243 := f229.other W236 (Or.inl (Ne.symm ne160))
              have f244 := f230.other W236 (Or.inl (Ne.symm ne160))
              have f245 := f231.other W236 (Or.inl (Ne.symm ne160))
              have f246 := f233.other W236 (Ne.symm ne165)
              have f247 := A222.other W236 (Ne.symm ne164)
              have Z248 : n0 ≤ h236.size := by have q := Z234; rw [W236.size]; exact q
              have N236 := Fr.snoc X236 N222 gfb
              refine r_aloadN X236.here hx (hb hby d2_223) rfl rfl (pc' := 224) rfl ?_
              refine r_iload X236.here hx (hb hby d2_224) rfl (pc' := 226) rfl ?_
              refine q_daload X236 hx hZ e236 (j := ki) (v := (lf kk)) f240 (by omega) (by omega) (congrArg (fun z => Value.double (lf z)) (show ki.toInt.toNat = kk by omega)) (hb hby d2_226) (pc' := 227) rfl ?_
              refine q_dastore X236 hx hZ e236 (j := (P1 (own_al A (2 * kk + 1)))) f246 (by omega) (by omega) (hb hby d2_227) (pc' := 228) rfl (fun T249 h249 X249 e249 W249 A249 => ?_)
              have K250 := K237.wr W249 (Or.inr fr126)
              have f251 := f238.wr W249
              have f252 := f239.other W249 (Ne.symm ne128)
              have f253 := f240.other W249 (Ne.symm ne129)
              have f254 := f241.other W249 (Or.inl (Ne.symm ne127))
              have f255 := f242.other W249 (Ne.symm ne130)
              have f256 := f243.other W249 (Or.inl (Ne.symm ne127))
              have f257 := f244.other W249 (Or.inl (Ne.symm ne127))
              have f258 := f245.other W249 (Or.inl (Ne.symm ne127))
              have f259 := f247.other W249 (Ne.symm ne131)
              have f260 := A236.other W249 ne165
              have Z261 : n0 ≤ h249.size := by have q := Z248; rw [W249.size]; exact q
              have N249 := Fr.snoc X249 N236 ge132
              refine r_iinc X249.here hx (hb hby d2_228) rfl (z := (ki + (1 : Int32))) rfl (l' := #[.val (.ref a), .val (.int n), .val (.ref en), .val (.ref le), .val (.int mc), .val (.ref fb), .val (.int (ki + (1 : Int32))), .val (.int (A (2 * kk))), .val (.int (A (2 * kk + 1)))]) rfl (pc' := 231) rfl ?_
              refine r_goto X249.here hx (hb hby d2_231) (by decide) (pc' := 141) (by decide) ?_
              subst e249
              exact ihJc  (kk + 1) (ki + 1) _ _ _ _ _ T249 _ X249 N249 Z261 K250 f251 f252 f253 f254 f255 f256 f259 f257 A249 f258 f260 (own_inc hk (by omega)) (by omega) (show own_C3 A ii (2 * ee) (2 * kk + 1 + 1) _ from own_s3 (k := 2 * kk + 1) c3 (by omega) (by omega) rb rfl) (show own_C4 A (2 * ee) (2 * kk + 1 + 1) _ from own_s4 (k := 2 * kk + 1) c4 (by omega) pkb (show A (2 * kk) = A (own_pa (2 * kk + 1)) by rw [own_pa1])) (Or.inr ⟨_, _, rfl, rfl⟩)
          exact Jc ee 0 0 _ _ _ _ _ T159 _ X159 N159 Z178 K167 f168 f169 f170 f171 f172 f173 f174 f175 f176 f177 A159 rfl (by omega) c30 c40 (Or.inl ⟨rfl, rfl⟩)
        | succ dJb ihJb =>
          intro ii ix G TJb LJb XJb NJb ZJb KJb fJb_0 fJb_1 fJb_2 fJb_3 fJb_4 fJb_5 fJb_6 fJb_7 hi hdb hG
          have l1 : (1 : Int32).toInt = 1 := rfl
          have jx : (ix + 1).toInt = ii + 1 := own_ad (by omega) (by omega) (by omega)
          refine r_iload XJb.here hx (hb hby d2_73) rfl (pc' := 75) rfl ?_
          refine r_iloadN XJb.here hx (hb hby d2_75) rfl (pc' := 76) rfl ?_
          refine r_if_ge XJb.here hx (hb hby d2_76) (by decide) (pc' := 104) (by decide) (pc2 := 79) rfl (fun hc76 => absurd hc76 (by omega)) (fun hc76 => ?_)
          refine r_aloadN XJb.here hx (hb hby d2_79) rfl rfl (pc' := 80) rfl ?_
          refine r_getF XJb hx hZ hown (hw _ (List.mem_of_getElem? (i := 17) rfl)) Via.refl rfl fJb_7 (hb hby d2_80) (pc' := 83) rfl (fun T262 X262 e262 => ?_)
          refine r_iload X262.here hx (hb hby d2_83) rfl (pc' := 85) rfl ?_
          refine r_iconst X262.here hx (hb hby d2_85) (v := 1) rfl (pc' := 86) rfl ?_
          refine r_iadd X262.here hx (hb hby d2_86) (pc' := 87) rfl ?_
          refine r_dup2 X262.here hx (hb hby d2_87) rfl rfl (pc' := 88) rfl ?_
          refine q_iaload X262 hx hZ e262 (j := (ix + (1 : Int32))) (v := (G (ii + 1))) fJb_6 (by omega) (by omega) (congrArg (fun z => Value.int (G z)) (show (ix + 1).toInt.toNat = ii + 1 by omega)) (hb hby d2_88) (pc' := 89) rfl ?_
          refine r_aloadN X262.here hx (hb hby d2_89) rfl rfl (pc' := 90) rfl ?_
          refine r_getF X262 hx hZ hown (hw _ (List.mem_of_getElem? (i := 17) rfl)) Via.refl e262 fJb_7 (hb hby d2_90) (pc' := 93) rfl (fun T263 X263 e263 => ?_)
          refine r_iload X263.here hx (hb hby d2_93) rfl (pc' := 95) rfl ?_
          refine q_iaload X263 hx hZ e263 (j := ix) (v := (G ii)) fJb_6 (by omega) (by omega) (congrArg (fun z => Value.int (G z)) (show ix.toInt.toNat = ii by omega)) (hb hby d2_95) (pc' := 96) rfl ?_
          refine r_iadd X263.here hx (hb hby d2_96) (pc' := 97) rfl ?_
          refine q_iastore X263 hx hZ e263 (j := (ix + (1 : Int32))) fJb_6 (by omega) (by omega) (hb hby d2_97) (pc' := 98) rfl (fun T264 h264 X264 e264 W264 A264 => ?_)
          have K265 := KJb.wr W264 (Or.inr fr67)
          have f266 := fJb_0.wr W264
          have f267 := fJb_1.other W264 (Or.inl (Ne.symm ne68))
          have f268 := fJb_2.other W264 (Or.inl (Ne.symm ne68))
          have f269 := fJb_3.other W264 (Ne.symm ne69)
          have f270 := fJb_4.other W264 (Ne.symm ne70)
          have f271 := fJb_5.other W264 (Or.inl (Ne.symm ne68))
          have f272 := fJb_7.other W264 (Or.inl (Ne.symm ne68))
          have Z273 : n0 ≤ h264.size := by have q := ZJb; rw [W264.size]; exact q
          have N264 := Fr.snoc X264 NJb ge71
          refine r_iinc X264.here hx (hb hby d2_98) rfl (z := (ix + (1 : Int32))) rfl (l' := #[.val (.ref a), .val (.int n), .val (.ref en), .val (.ref le), .val (.int mc), .val (.int (ix + (1 : Int32))), .unset, .unset, .unset]) rfl (pc' := 101) rfl ?_
          refine r_goto X264.here hx (hb hby d2_101) (by decide) (pc' := 73) (by decide) ?_
          subst e264
          exact ihJb  (ii + 1) (ix + 1) _ T264 _ X264 N264 Z273 K265 f266 f267 f268 f269 f270 f271 A264 f272 (own_inc hi (by omega)) (by omega) (own_s2 hG (by omega) (by omega) jx rfl)
      exact Jb N 0 0 _ TJa _ XJa NJa ZJa KJa fJa_0 fJa_1 fJa_2 fJa_3 fJa_4 fJa_5 fJa_6 fJa_7 rfl (by omega) (own_c2 hC)
    | succ dJa ihJa =>
      intro ee ei F TJa LJa XJa NJa ZJa KJa fJa_0 fJa_1 fJa_2 fJa_3 fJa_4 fJa_5 fJa_6 fJa_7 he hd hC
      have i2 := own_2e he (by omega)
      have ra := rA (2 * ee) (by omega)
      have rb := rA (2 * ee + 1) (by omega)
      have l1 : (1 : Int32).toInt = 1 := rfl
      have ja : (A (2 * ee) + 1).toInt = (A (2 * ee)).toInt + 1 := own_ad (by omega) (by omega) (by omega)
      have jb : (A (2 * ee + 1) + 1).toInt = (A (2 * ee + 1)).toInt + 1 := own_ad (by omega) (by omega) (by omega)
      refine r_iload XJa.here hx (hb hby d2_21) rfl (pc' := 23) rfl ?_
      refine r_iload XJa.here hx (hb hby d2_23) rfl (pc' := 25) rfl ?_
      refine r_if_ge XJa.here hx (hb hby d2_25) (by decide) (pc' := 70) (by decide) (pc2 := 28) rfl (fun hc25 => absurd hc25 (by omega)) (fun hc25 => ?_)
      refine r_aloadN XJa.here hx (hb hby d2_28) rfl rfl (pc' := 29) rfl ?_
      refine r_getF XJa hx hZ hown (hw _ (List.mem_of_getElem? (i := 17) rfl)) Via.refl rfl fJa_7 (hb hby d2_29) (pc' := 32) rfl (fun T274 X274 e274 => ?_)
      refine r_aloadN X274.here hx (hb hby d2_32) rfl rfl (pc' := 33) rfl ?_
      refine r_iconst X274.here hx (hb hby d2_33) (v := 2) rfl (pc' := 34) rfl ?_
      refine r_iload X274.here hx (hb hby d2_34) rfl (pc' := 36) rfl ?_
      refine r_imul X274.here hx (hb hby d2_36) (pc' := 37) rfl ?_
      refine q_iaload X274 hx hZ e274 (j := ((2 : Int32) * ei)) (v := (A (2 * ee))) fJa_3 (by omega) (by omega) (congrArg (fun z => Value.int (A z)) (show ((2 : Int32) * ei).toInt.toNat = 2 * ee by omega)) (hb hby d2_37) (pc' := 38) rfl ?_
      refine r_iconst X274.here hx (hb hby d2_38) (v := 1) rfl (pc' := 39) rfl ?_
      refine r_iadd X274.here hx (hb hby d2_39) (pc' := 40) rfl ?_
      refine r_dup2 X274.here hx (hb hby d2_40) rfl rfl (pc' := 41) rfl ?_
      refine q_iaload X274 hx hZ e274 (j := ((A (2 * ee)) + (1 : Int32))) (v := (F (A (2 * ee) + 1).toInt.toNat)) fJa_6 (by omega) (by omega) rfl (hb hby d2_41) (pc' := 42) rfl ?_
      refine r_iconst X274.here hx (hb hby d2_42) (v := 1) rfl (pc' := 43) rfl ?_
      refine r_iadd X274.here hx (hb hby d2_43) (pc' := 44) rfl ?_
      refine q_iastore X274 hx hZ e274 (j := ((A (2 * ee)) + (1 : Int32))) fJa_6 (by omega) (by omega) (hb hby d2_44) (pc' := 45) rfl (fun T275 h275 X275 e275 W275 A275 => ?_)
      have K276 := KJa.wr W275 (Or.inr fr67)
      have f277 := fJa_0.wr W275
      have f278 := fJa_1.other W275 (Or.inl (Ne.symm ne68))
      have f279 := fJa_2.other W275 (Or.inl (Ne.symm ne68))
      have f280 := fJa_3.other W275 (Ne.symm ne69)
      have f281 := fJa_4.other W275 (Ne.symm ne70)
      have f282 := fJa_5.other W275 (Or.inl (Ne.symm ne68))
      have f283 := fJa_7.other W275 (Or.inl (Ne.symm ne68))
      have Z284 : n0 ≤ h275.size := by have q := ZJa; rw [W275.size]; exact q
      have N275 := Fr.snoc X275 NJa ge71
      refine r_aloadN X275.here hx (hb hby d2_45) rfl rfl (pc' := 46) rfl ?_
      refine r_getF X275 hx hZ hown (hw _ (List.mem_of_getElem? (i := 17) rfl)) Via.refl e275 f283 (hb hby d2_46) (pc' := 49) rfl (fun T285 X285 e285 => ?_)
      refine r_aloadN X285.here hx (hb hby d2_49) rfl rfl (pc' := 50) rfl ?_
      refine r_iconst X285.here hx (hb hby d2_50) (v := 2) rfl (pc' := 51) rfl ?_
      refine r_iload X285.here hx (hb hby d2_51) rfl (pc' := 53) rfl ?_
      refine r_imul X285.here hx (hb hby d2_53) (pc' := 54) rfl ?_
      refine r_iconst X285.here hx (hb hby d2_54) (v := 1) rfl (pc' := 55) rfl ?_
      refine r_iadd X285.here hx (hb hby d2_55) (pc' := 56) rfl ?_
      refine q_iaload X285 hx hZ e285 (j := (((2 : Int32) * ei) + (1 : Int32))) (v := (A (2 * ee + 1))) f280 (by omega) (by omega) (congrArg (fun z => Value.int (A z)) (show ((2 : Int32) * ei + 1).toInt.toNat = 2 * ee + 1 by omega)) (hb hby d2_56) (pc' := 57) rfl ?_
      refine r_iconst X285.here hx (hb hby d2_57) (v := 1) rfl (pc' := 58) rfl ?_
      refine r_iadd X285.here hx (hb hby d2_58) (pc' := 59) rfl ?_
      refine r_dup2 X285.here hx (hb hby d2_59) rfl rfl (pc' := 60) rfl ?_
      refine q_iaload X285 hx hZ e285 (j := ((A (2 * ee + 1)) + (1 : Int32))) (v := ((fun i => if i = (A (2 * ee) + 1).toInt.toNat then F (A (2 * ee) + 1).toInt.toNat + 1 else F i) (A (2 * ee + 1) + 1).toInt.toNat)) A275 (by omega) (by omega) rfl (hb hby d2_60) (pc' := 61) rfl ?_
      refine r_iconst X285.here hx (hb hby d2_61) (v := 1) rfl (pc' := 62) rfl ?_
      refine r_iadd X285.here hx (hb hby d2_62) (pc' := 63) rfl ?_
      refine q_iastore X285 hx hZ e285 (j := ((A (2 * ee + 1)) + (1 : Int32))) A275 (by omega) (by omega) (hb hby d2_63) (pc' := 64) rfl (fun T286 h286 X286 e286 W286 A286 => ?_)
      have K287 := K276.wr W286 (Or.inr fr67)
      have f288 := f277.wr W286
      have f289 := f278.other W286 (Or.inl (Ne.symm ne68))
      have f290 := f279.other W286 (Or.inl (Ne.symm ne68))
      have f291 := f280.other W286 (Ne.symm ne69)
      have f292 := f281.other W286 (Ne.symm ne70)
      have f293 := f282.other W286 (Or.inl (Ne.symm ne68))
      have f294 := f283.other W286 (Or.inl (Ne.symm ne68))
      have Z295 : n0 ≤ h286.size := by have q := Z284; rw [W286.size]; exact q
      have N286 := Fr.snoc X286 N275 ge71
      refine r_iinc X286.here hx (hb hby d2_64) rfl (z := (ei + (1 : Int32))) rfl (l' := #[.val (.ref a), .val (.int n), .val (.ref en), .val (.ref le), .val (.int mc), .val (.int (ei + (1 : Int32))), .unset, .unset, .unset]) rfl (pc' := 67) rfl ?_
      refine r_goto X286.here hx (hb hby d2_67) (by decide) (pc' := 21) (by decide) ?_
      subst e286
      exact ihJa  (ee + 1) (ei + 1) _ T286 _ X286 N286 Z295 K287 f288 f289 f290 f291 f292 f293 A286 f294 (own_inc he (by omega)) (by omega) (show own_C1 A N (2 * ee + 1 + 1) _ from own_s1 (k := 2 * ee + 1) (own_s1 (k := 2 * ee) hC (by omega) ra ja rfl) (by omega) rb jb rfl)
  subst e82
  exact Ja M 0 0 _ T82 _ X82 N82 Z92 K84 f85 f86 f87 f88 f89 f90 f91 f83 rfl (by omega) c10
def own_Snd (A : Nat → Int32) (M : Nat) (R : Nat → Int32) : Prop := ∀ K : Nat → Prop, Clo A M K → K 0 → ∀ x, ¬ R x = 0 → K x
def own_Stk (N : Nat) (R S : Nat → Int32) (d : Nat) : Prop := ∀ k, k < d → 0 ≤ (S k).toInt ∧ (S k).toInt < N ∧ ¬ R (own_al S k) = 0
def own_Cov (A : Nat → Int32) (M N : Nat) (R S : Nat → Int32) (d v j : Nat) : Prop := ∀ x, x < N → ¬ R x = 0 → (∃ k, k < d ∧ own_al S k = x) ∨ ∀ i, i < 2 * M → own_al A i = x → (x = v → own_pos A (2 * M) i < j) → ¬ R (own_al A (own_pa i)) = 0
def own_Iv (A : Nat → Int32) (M N : Nat) (R S : Nat → Int32) (d v j : Nat) : Prop := ¬ R 0 = 0 ∧ own_Snd A M R ∧ own_Stk N R S d ∧ d ≤ own_card N R ∧ own_Cov A M N R S d v j
theorem own_v0 {A : Nat → Int32} {M N : Nat} (h1 : 1 ≤ N) : own_Iv A M N (fun i => if i = 0 then 1 else 0) (fun i => if i = 0 then 0 else 0) 1 N 0 := by
  have z : ∀ x, ¬ (if x = 0 then (1 : Int32) else 0) = 0 → x = 0 := fun x q => by
    by_cases h : x = 0
    · exact h
    · rw [if_neg h] at q; exact absurd rfl q
  refine ⟨by simp, fun K _ k0 x q => by rw [z x q]; exact k0, fun k hk => ?_, ?_, fun x _ q => Or.inl ⟨0, by omega, ?_⟩⟩
  · have : k = 0 := by omega
    subst this
    exact ⟨by decide, by show (0 : Int) < N; omega, by show ¬ (if (0 : Nat) = 0 then (1 : Int32) else 0) = 0; simp⟩
  · have : own_i N (fun i => if i = 0 then (1 : Int32) else 0) 0 = 1 := by unfold own_i; rw [if_pos ⟨by omega, by simp⟩]
    unfold own_card; omega
  · have := z x q
    subst this; rfl
theorem own_v1 {A : Nat → Int32} {M N : Nat} {R S : Nat → Int32} {d v : Nat} (hA : ∀ i, i < 2 * M → own_al A i < N) (h : own_Iv A M N R S (d + 1) N 0) (hv : own_al S d = v) : own_Iv A M N R S d v (own_S A (2 * M) v) := by
  obtain ⟨r0, sn, sk, cd, cv⟩ := h
  refine ⟨r0, sn, fun k hk => sk k (by omega), by omega, fun x hx q => ?_⟩
  rcases cv x hx q with ⟨k, hk, e⟩ | g
  · by_cases hkd : k = d
    · subst hkd
      refine Or.inr fun i hi ei hp => ?_
      have p := own_pl A hi (hA i hi)
      have := hp (by rw [← e, hv])
      rw [ei, ← e, hv] at p
      omega
    · exact Or.inl ⟨k, by omega, e⟩
  · exact Or.inr fun i hi ei _ => g i hi ei (fun z => by omega)
theorem own_v2 {A B : Nat → Int32} {M N : Nat} {R S : Nat → Int32} {d v j : Nat} (hB : own_C4 A (2 * M) (2 * M) B) (h : own_Iv A M N R S d v j) (hr : ¬ R (own_al B j) = 0) : own_Iv A M N R S d v (j + 1) := by
  obtain ⟨r0, sn, sk, cd, cv⟩ := h
  refine ⟨r0, sn, sk, cd, fun x hx q => ?_⟩
  rcases cv x hx q with g | g
  · exact Or.inl g
  · refine Or.inr fun i hi ei hp => ?_
    by_cases e : own_pos A (2 * M) i = j
    · have b := hB i hi
      rw [e] at b
      have : own_al B j = own_al A (own_pa i) := by unfold own_al; rw [b]
      rw [← this]; exact hr
    · exact g i hi ei (fun z => by have := hp z; omega)
theorem own_v3 {A B : Nat → Int32} {M N : Nat} {R S S' : Nat → Int32} {d v j : Nat} {di : Int32} (hN : N ≤ 4) (hB : own_C4 A (2 * M) (2 * M) B) (h : own_Iv A M N R S d v j) (hv : ¬ R v = 0) (h1 : own_S A (2 * M) v ≤ j) (h2 : j < own_S A (2 * M) (v + 1)) (hr : R (own_al B j) = 0) (hw : own_al B j < N) (b0 : 0 ≤ (B j).toInt)
    (hd : di.toInt = d) (hS : S' = fun i => if i = di.toInt.toNat then B j else S i) : own_Iv A M N (own_set R (own_al B j)) S' (d + 1) v (j + 1) ∧ own_card N (own_set R (own_al B j)) = own_card N R + 1 ∧ ¬ own_set R (own_al B j) v = 0 := by
  obtain ⟨r0, sn, sk, cd, cv⟩ := h
  have dd : di.toInt.toNat = d := by omega
  rw [dd] at hS
  have up : ∀ x, ¬ R x = 0 → ¬ own_set R (own_al B j) x = 0 := fun x q => by unfold own_set; split; decide; exact q
  have self : ¬ own_set R (own_al B j) (own_al B j) = 0 := by simp [own_set]
  have cc := own_clt hN hw hr
  have eS : ∀ k, k ≠ d → own_al S' k = own_al S k := fun k q => by unfold own_al; rw [hS]; simp only [if_neg q]
  have eS2 : S' d = B j := by rw [hS]; simp
  obtain ⟨i0, a1, a2, a3⟩ := own_ps A h1 h2
  have b := hB i0 a1
  rw [a3] at b
  have ew : own_al B j = own_al A (own_pa i0) := by unfold own_al; rw [b]
  refine ⟨⟨up _ r0, fun K hK k0 x q => ?_, fun k hk => ?_, by omega, fun x hx q => ?_⟩, cc.2, up _ hv⟩
  · by_cases e : x = own_al B j
    · rw [e, ew]; exact hK.pa a1 (by rw [a2]; exact sn K hK k0 v hv)
    · unfold own_set at q; rw [if_neg e] at q; exact sn K hK k0 x q
  · by_cases e : k = d
    · subst e
      rw [eS2]
      have : own_al S' k = own_al B j := by unfold own_al; rw [eS2]
      rw [this]
      exact ⟨b0, by unfold own_al at hw; omega, self⟩
    · have s := sk k (by omega)
      rw [eS k e]
      have : S' k = S k := by rw [hS]; simp only [if_neg e]
      rw [this]
      exact ⟨s.1, s.2.1, up _ s.2.2⟩
  · by_cases e : x = own_al B j
    · exact Or.inl ⟨d, by omega, by unfold own_al; rw [eS2, e]; rfl⟩
    · have q' : ¬ R x = 0 := by unfold own_set at q; rw [if_neg e] at q; exact q
      rcases cv x hx q' with ⟨k, hk, ek⟩ | g
      · exact Or.inl ⟨k, by omega, by rw [eS k (by omega)]; exact ek⟩
      · refine Or.inr fun i hi ei hp => ?_
        by_cases ep : own_pos A (2 * M) i = j
        · have b2 := hB i hi
          rw [ep] at b2
          have : own_al B j = own_al A (own_pa i) := by unfold own_al; rw [b2]
          rw [← this]; exact self
        · exact up _ (g i hi ei (fun z => by have := hp z; omega))
theorem own_v4 {A : Nat → Int32} {M N : Nat} {R S : Nat → Int32} {d v : Nat} (hA : ∀ i, i < 2 * M → own_al A i < N) (h : own_Iv A M N R S d v (own_S A (2 * M) (v + 1))) : own_Iv A M N R S d N 0 := by
  obtain ⟨r0, sn, sk, cd, cv⟩ := h
  refine ⟨r0, sn, sk, cd, fun x hx q => ?_⟩
  rcases cv x hx q with g | g
  · exact Or.inl g
  · refine Or.inr fun i hi ei _ => g i hi ei (fun z => ?_)
    have p := (own_pl A hi (hA i hi)).2.1
    rw [ei, z] at p
    exact p
def own_Fin (A : Nat → Int32) (M : Nat) (R : Nat → Int32) : Prop := ¬ R 0 = 0 ∧ own_Snd A M R ∧ Clo A M (fun x => ¬ R x = 0)
theorem own_v5 {A : Nat → Int32} {M N : Nat} {R S : Nat → Int32} (hA : ∀ i, i < 2 * M → own_al A i < N) (h : own_Iv A M N R S 0 N 0) : own_Fin A M R := by
  obtain ⟨r0, sn, sk, cd, cv⟩ := h
  refine ⟨r0, sn, Clo.of fun i hi q => ?_⟩
  rcases cv _ (hA i hi) q with ⟨k, hk, _⟩ | g
  · exact absurd hk (by omega)
  · exact g i hi rfl (fun z => absurd z (by have := hA i hi; omega))
def own_First (N : Nat) (R : Nat → Int32) (z : Int32) : Prop := (∃ x, x < N ∧ z.toInt = x ∧ R x = 0 ∧ ∀ y, y < x → ¬ R y = 0) ∨ (z.toInt = -1 ∧ ∀ y, y < N → ¬ R y = 0)
theorem d6_0 : decode prog_5_method_2_code 0 = .ok (.aload_n 0, 1) := by decide +kernel
theorem d6_1 : decode prog_5_method_2_code 1 = .ok (.getfield 7, 3) := by decide +kernel
theorem d6_4 : decode prog_5_method_2_code 4 = .ok (.newarray .boolean, 2) := by decide +kernel
theorem d6_6 : decode prog_5_method_2_code 6 = .ok (.astore_n 1, 1) := by decide +kernel
theorem d6_7 : decode prog_5_method_2_code 7 = .ok (.aload_n 0, 1) := by decide +kernel
theorem d6_8 : decode prog_5_method_2_code 8 = .ok (.getfield 7, 3) := by decide +kernel
theorem d6_11 : decode prog_5_method_2_code 11 = .ok (.newarray .int, 2) := by decide +kernel
theorem d6_13 : decode prog_5_method_2_code 13 = .ok (.astore_n 2, 1) := by decide +kernel
theorem d6_14 : decode prog_5_method_2_code 14 = .ok (.iconst 0, 1) := by decide +kernel
theorem d6_15 : decode prog_5_method_2_code 15 = .ok (.istore_n 3, 1) := by decide +kernel
theorem d6_16 : decode prog_5_method_2_code 16 = .ok (.aload_n 1, 1) := by decide +kernel
theorem d6_17 : decode prog_5_method_2_code 17 = .ok (.iconst 0, 1) := by decide +kernel
theorem d6_18 : decode prog_5_method_2_code 18 = .ok (.iconst 1, 1) := by decide +kernel
theorem d6_19 : decode prog_5_method_2_code 19 = .ok (.bastore, 1) := by decide +kernel
theorem d6_20 : decode prog_5_method_2_code 20 = .ok (.aload_n 2, 1) := by decide +kernel
theorem d6_21 : decode prog_5_method_2_code 21 = .ok (.iload_n 3, 1) := by decide +kernel
theorem d6_22 : decode prog_5_method_2_code 22 = .ok (.iinc 3 1, 3) := by decide +kernel
theorem d6_25 : decode prog_5_method_2_code 25 = .ok (.iconst 0, 1) := by decide +kernel
theorem d6_26 : decode prog_5_method_2_code 26 = .ok (.iastore, 1) := by decide +kernel
theorem d6_103 : decode prog_5_method_2_code 103 = .ok (.iload 4, 2) := by decide +kernel
theorem d6_105 : decode prog_5_method_2_code 105 = .ok (.aload_n 0, 1) := by decide +kernel
theorem d6_106 : decode prog_5_method_2_code 106 = .ok (.getfield 7, 3) := by decide +kernel
theorem d6_109 : decode prog_5_method_2_code 109 = .ok (.if_icmp .ge 19, 3) := by decide +kernel
theorem d6_128 : decode prog_5_method_2_code 128 = .ok (.iconst (-1), 1) := by decide +kernel
theorem d6_129 : decode prog_5_method_2_code 129 = .ok (.ireturn, 1) := by decide +kernel
theorem d6_112 : decode prog_5_method_2_code 112 = .ok (.aload_n 1, 1) := by decide +kernel
theorem d6_113 : decode prog_5_method_2_code 113 = .ok (.iload 4, 2) := by decide +kernel
theorem d6_115 : decode prog_5_method_2_code 115 = .ok (.baload, 1) := by decide +kernel
theorem d6_116 : decode prog_5_method_2_code 116 = .ok (.ifCond .ne 6, 3) := by decide +kernel
theorem d6_122 : decode prog_5_method_2_code 122 = .ok (.iinc 4 1, 3) := by decide +kernel
theorem d6_125 : decode prog_5_method_2_code 125 = .ok (.goto (-22), 3) := by decide +kernel
theorem d6_119 : decode prog_5_method_2_code 119 = .ok (.iload 4, 2) := by decide +kernel
theorem d6_121 : decode prog_5_method_2_code 121 = .ok (.ireturn, 1) := by decide +kernel
theorem d6_27 : decode prog_5_method_2_code 27 = .ok (.iload_n 3, 1) := by decide +kernel
theorem d6_28 : decode prog_5_method_2_code 28 = .ok (.ifCond .le 72, 3) := by decide +kernel
theorem d6_100 : decode prog_5_method_2_code 100 = .ok (.iconst 0, 1) := by decide +kernel
theorem d6_101 : decode prog_5_method_2_code 101 = .ok (.istore 4, 2) := by decide +kernel
theorem d6_31 : decode prog_5_method_2_code 31 = .ok (.aload_n 2, 1) := by decide +kernel
theorem d6_32 : decode prog_5_method_2_code 32 = .ok (.iinc 3 (-1), 3) := by decide +kernel
theorem d6_35 : decode prog_5_method_2_code 35 = .ok (.iload_n 3, 1) := by decide +kernel
theorem d6_36 : decode prog_5_method_2_code 36 = .ok (.iaload, 1) := by decide +kernel
theorem d6_37 : decode prog_5_method_2_code 37 = .ok (.istore 4, 2) := by decide +kernel
theorem d6_39 : decode prog_5_method_2_code 39 = .ok (.aload_n 0, 1) := by decide +kernel
theorem d6_40 : decode prog_5_method_2_code 40 = .ok (.getfield 13, 3) := by decide +kernel
theorem d6_43 : decode prog_5_method_2_code 43 = .ok (.iload 4, 2) := by decide +kernel
theorem d6_45 : decode prog_5_method_2_code 45 = .ok (.iaload, 1) := by decide +kernel
theorem d6_46 : decode prog_5_method_2_code 46 = .ok (.istore 5, 2) := by decide +kernel
theorem d6_48 : decode prog_5_method_2_code 48 = .ok (.iload 5, 2) := by decide +kernel
theorem d6_50 : decode prog_5_method_2_code 50 = .ok (.aload_n 0, 1) := by decide +kernel
theorem d6_51 : decode prog_5_method_2_code 51 = .ok (.getfield 13, 3) := by decide +kernel
theorem d6_54 : decode prog_5_method_2_code 54 = .ok (.iload 4, 2) := by decide +kernel
theorem d6_56 : decode prog_5_method_2_code 56 = .ok (.iconst 1, 1) := by decide +kernel
theorem d6_57 : decode prog_5_method_2_code 57 = .ok (.iadd, 1) := by decide +kernel
theorem d6_58 : decode prog_5_method_2_code 58 = .ok (.iaload, 1) := by decide +kernel
theorem d6_59 : decode prog_5_method_2_code 59 = .ok (.if_icmp .ge 38, 3) := by decide +kernel
theorem d6_97 : decode prog_5_method_2_code 97 = .ok (.goto (-70), 3) := by decide +kernel
theorem d6_62 : decode prog_5_method_2_code 62 = .ok (.aload_n 0, 1) := by decide +kernel
theorem d6_63 : decode prog_5_method_2_code 63 = .ok (.getfield 17, 3) := by decide +kernel
theorem d6_66 : decode prog_5_method_2_code 66 = .ok (.iload 5, 2) := by decide +kernel
theorem d6_68 : decode prog_5_method_2_code 68 = .ok (.iaload, 1) := by decide +kernel
theorem d6_69 : decode prog_5_method_2_code 69 = .ok (.istore 6, 2) := by decide +kernel
theorem d6_71 : decode prog_5_method_2_code 71 = .ok (.aload_n 1, 1) := by decide +kernel
theorem d6_72 : decode prog_5_method_2_code 72 = .ok (.iload 6, 2) := by decide +kernel
theorem d6_74 : decode prog_5_method_2_code 74 = .ok (.baload, 1) := by decide +kernel
theorem d6_75 : decode prog_5_method_2_code 75 = .ok (.ifCond .ne 16, 3) := by decide +kernel
theorem d6_91 : decode prog_5_method_2_code 91 = .ok (.iinc 5 1, 3) := by decide +kernel
theorem d6_94 : decode prog_5_method_2_code 94 = .ok (.goto (-46), 3) := by decide +kernel
theorem d6_78 : decode prog_5_method_2_code 78 = .ok (.aload_n 1, 1) := by decide +kernel
theorem d6_79 : decode prog_5_method_2_code 79 = .ok (.iload 6, 2) := by decide +kernel
theorem d6_81 : decode prog_5_method_2_code 81 = .ok (.iconst 1, 1) := by decide +kernel
theorem d6_82 : decode prog_5_method_2_code 82 = .ok (.bastore, 1) := by decide +kernel
theorem d6_83 : decode prog_5_method_2_code 83 = .ok (.aload_n 2, 1) := by decide +kernel
theorem d6_84 : decode prog_5_method_2_code 84 = .ok (.iload_n 3, 1) := by decide +kernel
theorem d6_85 : decode prog_5_method_2_code 85 = .ok (.iinc 3 1, 3) := by decide +kernel
theorem d6_88 : decode prog_5_method_2_code 88 = .ok (.iload 6, 2) := by decide +kernel
theorem d6_90 : decode prog_5_method_2_code 90 = .ok (.iastore, 1) := by decide +kernel
theorem ef_rmF (m : MethodId) (x0 : Addr) : entryFrame m #[(.ref x0)] 7 = mkF m 0 #[.val (.ref x0), .unset, .unset, .unset, .unset, .unset, .unset] [] := by first | (simp [entryFrame, mkF, argsToLocals, Value.category, maxLocals]; done) | rfl
set_option maxRecDepth 65536 in
set_option maxHeartbeats 40000000 in
theorem rmF (l : Launch) (Z : State) (a0 : Array Value) (hw : ∀ d ∈ tables_1, d.before a0 Z = true) (ws : List Jvm.Cond) (a sa aa : Addr) (n : Int32) (N M : Nat) (A fS B : Nat → Int32) (h0 : Heap) (n0 : Nat) (Z0 : n0 ≤ h0.size) (Ea : Exa Z h0 a "com/example/medianest/medianest/Graph") (F_size : Fld Z h0 a "com/example/medianest/medianest/Graph" "size" "I" (.int n)) (F_start : Fld Z h0 a "com/example/medianest/medianest/Graph" "start" "[I" (.ref sa)) (F_arcs : Fld Z h0 a "com/example/medianest/medianest/Graph" "arcs" "[I" (.ref aa)) (As : Ary Z h0 sa .int (N + 1) (fun i => .int (fS i))) (Aa : Ary Z h0 aa .int (own_S A (2 * M) N) (fun i => .int (B i))) (hS : ∀ v, v ≤ N → (fS v).toInt = own_S A (2 * M) v) (hB : own_C4 A (2 * M) (2 * M) B) (hn : n.toInt = N) (hN : N ≤ 4) (hN1 : 1 ≤ N) (hM : M ≤ 6) (rA : ∀ i, i < 12 → 0 ≤ (A i).toInt ∧ (A i).toInt < N) :
    Met l Z (⟨"com/example/medianest/medianest/Graph", "firstUnreachable", "()I"⟩ : MethodName) prog_5_method_2_code 7 (some .int) ws ({ frames := 0, cells := 2, slots := 8, locals := 0 } : Room) #[(.ref a)] h0 (fun v h L => ∃ z : Int32, v = some (.int z) ∧ Fr n0 L ∧ Keep h0 h [] ∧ ∃ R : Nat → Int32, own_Fin A M R ∧ own_First N R z) 2 8 := by
  refine met_of (plainFor_of_name pn_2) (f0 := fun m => (mkF m 0 #[.val (.ref a), .unset, .unset, .unset, .unset, .unset, .unset] [])) (fun m => ef_rmF m a) ?_
  intro p e s m below meth c s₁ X0 hx hby hml hret hlk hown hnm hZ e0
  replace hown : s.vm.findClass "com/example/medianest/medianest/Graph" = some m.cls := hown
  have N0 := Fr.nil n0
  have hA : ∀ i, i < 2 * M → own_al A i < N := fun i hi => by have q := rA i (by omega); unfold own_al; omega
  have l1 : (1 : Int32).toInt = 1 := rfl
  have lm : (-1 : Int32).toInt = -1 := by decide
  have lz : (0 : Int32).toInt = 0 := rfl
  have hpa : ∀ j, j < own_S A (2 * M) N → True := fun _ _ => trivial
  refine r_aloadN X0.here hx (hb hby d6_0) rfl rfl (pc' := 1) rfl ?_
  refine r_getF X0 hx hZ hown (hw _ (List.mem_of_getElem? (i := 15) rfl)) Via.refl e0 F_size (hb hby d6_1) (pc' := 4) rfl (fun T296 X296 e296 => ?_)
  refine r_newarray X296 hx hZ (aty := .boolean) (hw _ (List.mem_of_getElem? (i := 40) rfl)) e296 (cap := 4) (by rw [Int32.lt_iff_toInt_lt, show (0 : Int32).toInt = 0 from rfl]; omega) (show n.toInt.toNat ≤ 4 by omega) (by decide) (by decide) (by decide) (hb hby d6_4) (pc' := 6) rfl (fun T297 h297 b297 k297 g297 X297 e297 E297 A297 => ?_)
  have K298 : Keep h0 h0 [] := Keep.refl _ _
  have fr299 : h0.size ≤ b297 := by rw [g297]; exact K298.1
  have ne300 : b297 ≠ a := by have q := Ea.lt; rw [← g297] at q; exact Nat.ne_of_gt q
  have ne301 : b297 ≠ sa := by have q := As.lt; rw [← g297] at q; exact Nat.ne_of_gt q
  have ne302 : b297 ≠ aa := by have q := Aa.lt; rw [← g297] at q; exact Nat.ne_of_gt q
  have ge303 : n0 ≤ b297 := by rw [g297]; exact Z0
  have K304 := K298.ext E297
  have f305 := Ea.ext E297
  have f306 := F_size.ext E297
  have f307 := F_start.ext E297
  have f308 := F_arcs.ext E297
  have f309 := As.ext E297
  have f310 := Aa.ext E297
  have Z311 : n0 ≤ h297.size := by have q := Z0; exact Nat.le_trans q E297.1
  have f312 : Ary Z h297 b297 .boolean N (fun _ => .int 0) := Ary.new A297 (show n.toInt.toNat = N by omega)
  refine r_astoreN X297.here hx (hb hby d6_6) rfl (l' := #[.val (.ref a), .val (.ref b297), .unset, .unset, .unset, .unset, .unset]) rfl (pc' := 7) rfl ?_
  refine r_aloadN X297.here hx (hb hby d6_7) rfl rfl (pc' := 8) rfl ?_
  refine r_getF X297 hx hZ hown (hw _ (List.mem_of_getElem? (i := 15) rfl)) Via.refl e297 f306 (hb hby d6_8) (pc' := 11) rfl (fun T313 X313 e313 => ?_)
  refine r_newarray X313 hx hZ (aty := .int) (hw _ (List.mem_of_getElem? (i := 0) rfl)) e313 (cap := 4) (by rw [Int32.lt_iff_toInt_lt, show (0 : Int32).toInt = 0 from rfl]; omega) (show n.toInt.toNat ≤ 4 by omega) (by decide) (by decide) (by decide) (hb hby d6_11) (pc' := 13) rfl (fun T314 h314 b314 k314 g314 X314 e314 E314 A314 => ?_)
  have fr315 : h0.size ≤ b314 := by rw [g314]; exact K304.1
  have ne316 : b314 ≠ a := by have q := f305.lt; rw [← g314] at q; exact Nat.ne_of_gt q
  have ne317 : b314 ≠ sa := by have q := f309.lt; rw [← g314] at q; exact Nat.ne_of_gt q
  have ne318 : b314 ≠ aa := by have q := f310.lt; rw [← g314] at q; exact Nat.ne_of_gt q
  have ne319 : b314 ≠ b297 := by have q := f312.lt; rw [← g314] at q; exact Nat.ne_of_gt q
  have ge320 : n0 ≤ b314 := by rw [g314]; exact Z311
  have K321 := K304.ext E314
  have f322 := f305.ext E314
  have f323 := f306.ext E314
  have f324 := f307.ext E314
  have f325 := f308.ext E314
  have f326 := f309.ext E314
  have f327 := f310.ext E314
  have f328 := f312.ext E314
  have Z329 : n0 ≤ h314.size := by have q := Z311; exact Nat.le_trans q E314.1
  have f330 : Ary Z h314 b314 .int N (fun _ => .int 0) := Ary.new A314 (show n.toInt.toNat = N by omega)
  refine r_astoreN X314.here hx (hb hby d6_13) rfl (l' := #[.val (.ref a), .val (.ref b297), .val (.ref b314), .unset, .unset, .unset, .unset]) rfl (pc' := 14) rfl ?_
  refine r_iconst X314.here hx (hb hby d6_14) (v := 0) rfl (pc' := 15) rfl ?_
  refine r_istoreN X314.here hx (hb hby d6_15) (l' := #[.val (.ref a), .val (.ref b297), .val (.ref b314), .val (.int (0 : Int32)), .unset, .unset, .unset]) rfl (pc' := 16) rfl ?_
  refine r_aloadN X314.here hx (hb hby d6_16) rfl rfl (pc' := 17) rfl ?_
  refine r_iconst X314.here hx (hb hby d6_17) (v := 0) rfl (pc' := 18) rfl ?_
  refine r_iconst X314.here hx (hb hby d6_18) (v := 1) rfl (pc' := 19) rfl ?_
  refine q_bastoreZ X314 hx hZ e314 (j := (0 : Int32)) f328 (by decide) (by show (0 : Int) < N; omega) (w := (1 : Int32)) rfl (hb hby d6_19) (pc' := 20) rfl (fun T331 h331 X331 e331 W331 A331 => ?_)
  have K332 := K321.wr W331 (Or.inr fr299)
  have f333 := f322.wr W331
  have f334 := f323.other W331 (Or.inl (Ne.symm ne300))
  have f335 := f324.other W331 (Or.inl (Ne.symm ne300))
  have f336 := f325.other W331 (Or.inl (Ne.symm ne300))
  have f337 := f326.other W331 (Ne.symm ne301)
  have f338 := f327.other W331 (Ne.symm ne302)
  have f339 := f330.other W331 ne319
  have Z340 : n0 ≤ h331.size := by have q := Z329; rw [W331.size]; exact q
  have N331 := Fr.snoc X331 N0 ge303
  refine r_aloadN X331.here hx (hb hby d6_20) rfl rfl (pc' := 21) rfl ?_
  refine r_iloadN X331.here hx (hb hby d6_21) rfl (pc' := 22) rfl ?_
  refine r_iinc X331.here hx (hb hby d6_22) rfl (z := ((0 : Int32) + (1 : Int32))) rfl (l' := #[.val (.ref a), .val (.ref b297), .val (.ref b314), .val (.int ((0 : Int32) + (1 : Int32))), .unset, .unset, .unset]) rfl (pc' := 25) rfl ?_
  refine r_iconst X331.here hx (hb hby d6_25) (v := 0) rfl (pc' := 26) rfl ?_
  refine q_iastore X331 hx hZ e331 (j := (0 : Int32)) f339 (by decide) (by show (0 : Int) < N; omega) (hb hby d6_26) (pc' := 27) rfl (fun T341 h341 X341 e341 W341 A341 => ?_)
  have K342 := K332.wr W341 (Or.inr fr315)
  have f343 := f333.wr W341
  have f344 := f334.other W341 (Or.inl (Ne.symm ne316))
  have f345 := f335.other W341 (Or.inl (Ne.symm ne316))
  have f346 := f336.other W341 (Or.inl (Ne.symm ne316))
  have f347 := f337.other W341 (Ne.symm ne317)
  have f348 := f338.other W341 (Ne.symm ne318)
  have f349 := A331.other W341 (Ne.symm ne319)
  have Z350 : n0 ≤ h341.size := by have q := Z340; rw [W341.size]; exact q
  have N341 := Fr.snoc X341 N331 ge320
  have Jf : ∀ (dJf : Nat) (x : Nat) (xi di : Int32) (R S : Nat → Int32) (o5 o6 : Slot) (TJf : State) (LJf : List Loc), Stand p l e ({ frames := 0, cells := 2, slots := 8, locals := 0 } : Room) s m #[(.ref a)] below meth c TJf LJf 2 8 → Fr n0 LJf → n0 ≤ TJf.heap.size → Keep h0 TJf.heap [] → Exa Z TJf.heap a "com/example/medianest/medianest/Graph" → Fld Z TJf.heap a "com/example/medianest/medianest/Graph" "size" "I" (.int n) → Fld Z TJf.heap a "com/example/medianest/medianest/Graph" "start" "[I" (.ref sa) → Fld Z TJf.heap a "com/example/medianest/medianest/Graph" "arcs" "[I" (.ref aa) → Ary Z TJf.heap sa .int (N + 1) (fun i => .int (fS i)) → Ary Z TJf.heap aa .int (own_S A (2 * M) N) (fun i => .int (B i)) → Ary Z TJf.heap b297 .boolean N (fun i => .int (R i)) → Ary Z TJf.heap b314 .int N (fun i => .int (S i)) → xi.toInt = x → x + dJf = N → own_Fin A M R → (∀ y, y < x → ¬ R y = 0) → Run p e below (fun v h L => ∃ z : Int32, v = some (.int z) ∧ Fr n0 L ∧ Keep h0 h [] ∧ ∃ R : Nat → Int32, own_Fin A M R ∧ own_First N R z) (fun o t L => FrameEnd s o t L 2 8) TJf (mkF m 103 #[.val (.ref a), .val (.ref b297), .val (.ref b314), .val (.int di), .val (.int xi), o5, o6] []) := by
    intro dJf
    induction dJf with
    | zero =>
      intro x xi di R S o5 o6 TJf LJf XJf NJf ZJf KJf fJf_0 fJf_1 fJf_2 fJf_3 fJf_4 fJf_5 fJf_6 fJf_7 hxi hxd hF hy
      have hxN : x = N := by omega
      subst hxN
      refine r_iload XJf.here hx (hb hby d6_103) rfl (pc' := 105) rfl ?_
      refine r_aloadN XJf.here hx (hb hby d6_105) rfl rfl (pc' := 106) rfl ?_
      refine r_getF XJf hx hZ hown (hw _ (List.mem_of_getElem? (i := 15) rfl)) Via.refl rfl fJf_1 (hb hby d6_106) (pc' := 109) rfl (fun T351 X351 e351 => ?_)
      refine r_if_ge X351.here hx (hb hby d6_109) (by decide) (pc' := 128) (by decide) (pc2 := 112) rfl (fun hc109 => ?_) (fun hc109 => absurd (show n.toInt ≤ xi.toInt by omega) hc109)
      refine r_iconst X351.here hx (hb hby d6_128) (v := -1) rfl (pc' := 129) rfl ?_
      refine r_retI X351 hx hlk hret (hb hby d6_129) ?_ (by decide) (by decide)
      try rw [e351]
      exact ⟨_, rfl, NJf, KJf, R, hF, Or.inr ⟨by decide, hy⟩⟩
    | succ dJf ihJf =>
      intro x xi di R S o5 o6 TJf LJf XJf NJf ZJf KJf fJf_0 fJf_1 fJf_2 fJf_3 fJf_4 fJf_5 fJf_6 fJf_7 hxi hxd hF hy
      refine r_iload XJf.here hx (hb hby d6_103) rfl (pc' := 105) rfl ?_
      refine r_aloadN XJf.here hx (hb hby d6_105) rfl rfl (pc' := 106) rfl ?_
      refine r_getF XJf hx hZ hown (hw _ (List.mem_of_getElem? (i := 15) rfl)) Via.refl rfl fJf_1 (hb hby d6_106) (pc' := 109) rfl (fun T352 X352 e352 => ?_)
      refine r_if_ge X352.here hx (hb hby d6_109) (by decide) (pc' := 128) (by decide) (pc2 := 112) rfl (fun hc109 => absurd hc109 (by omega)) (fun hc109 => ?_)
      refine r_aloadN X352.here hx (hb hby d6_112) rfl rfl (pc' := 113) rfl ?_
      refine r_iload X352.here hx (hb hby d6_113) rfl (pc' := 115) rfl ?_
      refine q_baloadZ X352 hx hZ e352 (j := xi) (v := (R x)) fJf_6 (by omega) (by omega) (congrArg (fun z => Value.int (R z)) (show xi.toInt.toNat = x by omega)) (hb hby d6_115) (pc' := 116) rfl ?_
      refine r_if0_ne X352.here hx (hb hby d6_116) (by decide) (pc' := 122) (by decide) (pc2 := 119) rfl (fun hc116 => ?_) (fun hc116 => ?_)
      · refine r_iinc X352.here hx (hb hby d6_122) rfl (z := (xi + (1 : Int32))) rfl (l' := #[.val (.ref a), .val (.ref b297), .val (.ref b314), .val (.int di), .val (.int (xi + (1 : Int32))), o5, o6]) rfl (pc' := 125) rfl ?_
        refine r_goto X352.here hx (hb hby d6_125) (by decide) (pc' := 103) (by decide) ?_
        exact ihJf  (x + 1) (xi + 1) di R S o5 o6 T352 _ X352 NJf (by rw [e352]; exact ZJf) (by rw [e352]; exact KJf) (by rw [e352]; exact fJf_0) (by rw [e352]; exact fJf_1) (by rw [e352]; exact fJf_2) (by rw [e352]; exact fJf_3) (by rw [e352]; exact fJf_4) (by rw [e352]; exact fJf_5) (by rw [e352]; exact fJf_6) (by rw [e352]; exact fJf_7) (own_inc hxi (by omega)) (by omega) hF (fun y q => by by_cases e : y = x; (rw [e]; exact hc116); exact hy y (by omega))
      · refine r_iload X352.here hx (hb hby d6_119) rfl (pc' := 121) rfl ?_
        refine r_retI X352 hx hlk hret (hb hby d6_121) ?_ (by decide) (by decide)
        try rw [e352]
        exact ⟨_, rfl, NJf, KJf, R, hF, Or.inl ⟨x, by omega, hxi, Classical.not_not.mp hc116, hy⟩⟩
  have Jo : ∀ (dJo : Nat) (d : Nat) (di : Int32) (R S : Nat → Int32) (o4 o5 o6 : Slot) (TJo : State) (LJo : List Loc), Stand p l e ({ frames := 0, cells := 2, slots := 8, locals := 0 } : Room) s m #[(.ref a)] below meth c TJo LJo 2 8 → Fr n0 LJo → n0 ≤ TJo.heap.size → Keep h0 TJo.heap [] → Exa Z TJo.heap a "com/example/medianest/medianest/Graph" → Fld Z TJo.heap a "com/example/medianest/medianest/Graph" "size" "I" (.int n) → Fld Z TJo.heap a "com/example/medianest/medianest/Graph" "start" "[I" (.ref sa) → Fld Z TJo.heap a "com/example/medianest/medianest/Graph" "arcs" "[I" (.ref aa) → Ary Z TJo.heap sa .int (N + 1) (fun i => .int (fS i)) → Ary Z TJo.heap aa .int (own_S A (2 * M) N) (fun i => .int (B i)) → Ary Z TJo.heap b297 .boolean N (fun i => .int (R i)) → Ary Z TJo.heap b314 .int N (fun i => .int (S i)) → di.toInt = d → 2 * (N - own_card N R) + d ≤ dJo → own_Iv A M N R S d N 0 → (o4 = .unset ∨ ∃ x : Int32, o4 = .val (.int x)) → (o5 = .unset ∨ ∃ x : Int32, o5 = .val (.int x)) → (o6 = .unset ∨ ∃ x : Int32, o6 = .val (.int x)) → Run p e below (fun v h L => ∃ z : Int32, v = some (.int z) ∧ Fr n0 L ∧ Keep h0 h [] ∧ ∃ R : Nat → Int32, own_Fin A M R ∧ own_First N R z) (fun o t L => FrameEnd s o t L 2 8) TJo (mkF m 27 #[.val (.ref a), .val (.ref b297), .val (.ref b314), .val (.int di), o4, o5, o6] []) := by
    intro dJo
    induction dJo with
    | zero =>
      intro d di R S o4 o5 o6 TJo LJo XJo NJo ZJo KJo fJo_0 fJo_1 fJo_2 fJo_3 fJo_4 fJo_5 fJo_6 fJo_7 hdi hms hI h4 h5 h6
      refine r_iloadN XJo.here hx (hb hby d6_27) rfl (pc' := 28) rfl ?_
      refine r_if0_le XJo.here hx (hb hby d6_28) (by decide) (pc' := 100) (by decide) (pc2 := 31) rfl (fun hc28 => ?_) (fun hc28 => absurd (show di.toInt ≤ 0 by omega) hc28)
      refine r_iconst XJo.here hx (hb hby d6_100) (v := 0) rfl (pc' := 101) rfl ?_
      refine r_istore XJo.here hx (hb hby d6_101) (l' := #[.val (.ref a), .val (.ref b297), .val (.ref b314), .val (.int di), .val (.int (0 : Int32)), o5, o6]) (by rcases h4 with rfl | ⟨_, rfl⟩ <;> rcases h5 with rfl | ⟨_, rfl⟩ <;> rcases h6 with rfl | ⟨_, rfl⟩ <;> rfl) (pc' := 103) rfl ?_
      have hd0 : d = 0 := by omega
      have hF := own_v5 hA (hd0 ▸ hI)
      exact Jf N 0 0 _ R S _ _ TJo _ XJo NJo ZJo KJo fJo_0 fJo_1 fJo_2 fJo_3 fJo_4 fJo_5 fJo_6 fJo_7 rfl (by omega) hF (fun y q => absurd q (by omega))
    | succ dJo ihJo =>
      intro d di R S o4 o5 o6 TJo LJo XJo NJo ZJo KJo fJo_0 fJo_1 fJo_2 fJo_3 fJo_4 fJo_5 fJo_6 fJo_7 hdi hms hI h4 h5 h6
      refine r_iloadN XJo.here hx (hb hby d6_27) rfl (pc' := 28) rfl ?_
      refine r_if0_le XJo.here hx (hb hby d6_28) (by decide) (pc' := 100) (by decide) (pc2 := 31) rfl (fun hc28 => ?_) (fun hc28 => ?_)
      · refine r_iconst XJo.here hx (hb hby d6_100) (v := 0) rfl (pc' := 101) rfl ?_
        refine r_istore XJo.here hx (hb hby d6_101) (l' := #[.val (.ref a), .val (.ref b297), .val (.ref b314), .val (.int di), .val (.int (0 : Int32)), o5, o6]) (by rcases h4 with rfl | ⟨_, rfl⟩ <;> rcases h5 with rfl | ⟨_, rfl⟩ <;> rcases h6 with rfl | ⟨_, rfl⟩ <;> rfl) (pc' := 103) rfl ?_
        have hd0 : d = 0 := by omega
        have hF := own_v5 hA (hd0 ▸ hI)
        exact Jf N 0 0 _ R S _ _ TJo _ XJo NJo ZJo KJo fJo_0 fJo_1 fJo_2 fJo_3 fJo_4 fJo_5 fJo_6 fJo_7 rfl (by omega) hF (fun y q => absurd q (by omega))
      · obtain ⟨dd, hdd⟩ : ∃ dd, d = dd + 1 := ⟨d - 1, by omega⟩
        subst hdd
        have hcl := own_cle R hN
        have hcd := hI.2.2.2.1
        obtain ⟨dj, hdj⟩ : ∃ z, di + (-1 : Int32) = z := ⟨_, rfl⟩
        have dm : dj.toInt = dd := by rw [← hdj]; exact own_ad (s := (dd : Int)) (by rw [hdi, lm]; omega) (by omega) (by omega)
        clear lm
        obtain ⟨vi, hvi⟩ : ∃ z, z = S dd := ⟨_, rfl⟩
        have hvr := hI.2.2.1 dd (by omega)
        rw [← hvi] at hvr
        obtain ⟨vv, hvv⟩ : ∃ vv : Nat, vi.toInt = vv := ⟨vi.toInt.toNat, by omega⟩
        have ev : own_al S dd = vv := by unfold own_al; rw [← hvi]; omega
        have hI1 := own_v1 hA hI ev
        have hRv : ¬ R vv = 0 := ev ▸ hvr.2.2
        have s1 := hS vv (by omega)
        have s2 := hS (vv + 1) (by omega)
        have sm := own_Sm A (2 * M) (show vv + 1 ≤ N by omega)
        have st_ := own_St A (2 * M) N
        have sv := own_Sm A (2 * M) (show vv ≤ vv + 1 by omega)
        have v1 : (vi + 1).toInt = vv + 1 := own_ad (by omega) (by omega) (by omega)
        refine r_aloadN XJo.here hx (hb hby d6_31) rfl rfl (pc' := 32) rfl ?_
        refine r_iinc XJo.here hx (hb hby d6_32) rfl (z := dj) hdj (l' := #[.val (.ref a), .val (.ref b297), .val (.ref b314), .val (.int dj), o4, o5, o6]) rfl (pc' := 35) rfl ?_
        refine r_iloadN XJo.here hx (hb hby d6_35) rfl (pc' := 36) rfl ?_
        refine q_iaload XJo hx hZ rfl (j := dj) (v := vi) fJo_7 (by omega) (by omega) (by rw [hvi]; exact congrArg (fun z => Value.int (S z)) (show dj.toInt.toNat = dd by omega)) (hb hby d6_36) (pc' := 37) rfl ?_
        refine r_istore XJo.here hx (hb hby d6_37) (l' := #[.val (.ref a), .val (.ref b297), .val (.ref b314), .val (.int dj), .val (.int vi), o5, o6]) (by rcases h4 with rfl | ⟨_, rfl⟩ <;> rcases h5 with rfl | ⟨_, rfl⟩ <;> rcases h6 with rfl | ⟨_, rfl⟩ <;> rfl) (pc' := 39) rfl ?_
        refine r_aloadN XJo.here hx (hb hby d6_39) rfl rfl (pc' := 40) rfl ?_
        refine r_getF XJo hx hZ hown (hw _ (List.mem_of_getElem? (i := 17) rfl)) Via.refl rfl fJo_2 (hb hby d6_40) (pc' := 43) rfl (fun T353 X353 e353 => ?_)
        refine r_iload X353.here hx (hb hby d6_43) rfl (pc' := 45) rfl ?_
        refine q_iaload X353 hx hZ e353 (j := vi) (v := (fS vv)) fJo_4 (by omega) (by omega) (congrArg (fun z => Value.int (fS z)) (show vi.toInt.toNat = vv by omega)) (hb hby d6_45) (pc' := 46) rfl ?_
        refine r_istore X353.here hx (hb hby d6_46) (l' := #[.val (.ref a), .val (.ref b297), .val (.ref b314), .val (.int dj), .val (.int vi), .val (.int (fS vv)), o6]) (by rcases h4 with rfl | ⟨_, rfl⟩ <;> rcases h5 with rfl | ⟨_, rfl⟩ <;> rcases h6 with rfl | ⟨_, rfl⟩ <;> rfl) (pc' := 48) rfl ?_
        have Ji : ∀ (dJi : Nat) (j : Nat) (ji : Int32) (d2 : Nat) (di2 : Int32) (R2 S2 : Nat → Int32) (o6 : Slot) (TJi : State) (LJi : List Loc), Stand p l e ({ frames := 0, cells := 2, slots := 8, locals := 0 } : Room) s m #[(.ref a)] below meth c TJi LJi 2 8 → Fr n0 LJi → n0 ≤ TJi.heap.size → Keep h0 TJi.heap [] → Exa Z TJi.heap a "com/example/medianest/medianest/Graph" → Fld Z TJi.heap a "com/example/medianest/medianest/Graph" "size" "I" (.int n) → Fld Z TJi.heap a "com/example/medianest/medianest/Graph" "start" "[I" (.ref sa) → Fld Z TJi.heap a "com/example/medianest/medianest/Graph" "arcs" "[I" (.ref aa) → Ary Z TJi.heap sa .int (N + 1) (fun i => .int (fS i)) → Ary Z TJi.heap aa .int (own_S A (2 * M) N) (fun i => .int (B i)) → Ary Z TJi.heap b297 .boolean N (fun i => .int (R2 i)) → Ary Z TJi.heap b314 .int N (fun i => .int (S2 i)) → ji.toInt = j → own_S A (2 * M) vv ≤ j → j + dJi = own_S A (2 * M) (vv + 1) → di2.toInt = d2 → 2 * (N - own_card N R2) + d2 ≤ dJo → own_Iv A M N R2 S2 d2 vv j → ¬ R2 vv = 0 → (o6 = .unset ∨ ∃ x : Int32, o6 = .val (.int x)) → Run p e below (fun v h L => ∃ z : Int32, v = some (.int z) ∧ Fr n0 L ∧ Keep h0 h [] ∧ ∃ R : Nat → Int32, own_Fin A M R ∧ own_First N R z) (fun o t L => FrameEnd s o t L 2 8) TJi (mkF m 48 #[.val (.ref a), .val (.ref b297), .val (.ref b314), .val (.int di2), .val (.int vi), .val (.int ji), o6] []) := by
          intro dJi
          induction dJi with
          | zero =>
            intro j ji d2 di2 R2 S2 o6 TJi LJi XJi NJi ZJi KJi fJi_0 fJi_1 fJi_2 fJi_3 fJi_4 fJi_5 fJi_6 fJi_7 hj hj1 hj2 hd2 hm2 hI2 hR2 h6
            have ej : j = own_S A (2 * M) (vv + 1) := by omega
            have hI3 := own_v4 hA (ej ▸ hI2)
            refine r_iload XJi.here hx (hb hby d6_48) rfl (pc' := 50) rfl ?_
            refine r_aloadN XJi.here hx (hb hby d6_50) rfl rfl (pc' := 51) rfl ?_
            refine r_getF XJi hx hZ hown (hw _ (List.mem_of_getElem? (i := 17) rfl)) Via.refl rfl fJi_2 (hb hby d6_51) (pc' := 54) rfl (fun T354 X354 e354 => ?_)
            refine r_iload X354.here hx (hb hby d6_54) rfl (pc' := 56) rfl ?_
            refine r_iconst X354.here hx (hb hby d6_56) (v := 1) rfl (pc' := 57) rfl ?_
            refine r_iadd X354.here hx (hb hby d6_57) (pc' := 58) rfl ?_
            refine q_iaload X354 hx hZ e354 (j := (vi + (1 : Int32))) (v := (fS (vv + 1))) fJi_4 (by omega) (by omega) (congrArg (fun z => Value.int (fS z)) (show (vi + 1).toInt.toNat = vv + 1 by omega)) (hb hby d6_58) (pc' := 59) rfl ?_
            refine r_if_ge X354.here hx (hb hby d6_59) (by decide) (pc' := 97) (by decide) (pc2 := 62) rfl (fun hc59 => ?_) (fun hc59 => absurd (show (fS (vv + 1)).toInt ≤ ji.toInt by omega) hc59)
            refine r_goto X354.here hx (hb hby d6_97) (by decide) (pc' := 27) (by decide) ?_
            exact ihJo  d2 di2 R2 S2 _ _ _ T354 _ X354 NJi (by rw [e354]; exact ZJi) (by rw [e354]; exact KJi) (by rw [e354]; exact fJi_0) (by rw [e354]; exact fJi_1) (by rw [e354]; exact fJi_2) (by rw [e354]; exact fJi_3) (by rw [e354]; exact fJi_4) (by rw [e354]; exact fJi_5) (by rw [e354]; exact fJi_6) (by rw [e354]; exact fJi_7) hd2 hm2 hI3 (Or.inr ⟨_, rfl⟩) (Or.inr ⟨_, rfl⟩) h6
          | succ dJi ihJi =>
            intro j ji d2 di2 R2 S2 o6 TJi LJi XJi NJi ZJi KJi fJi_0 fJi_1 fJi_2 fJi_3 fJi_4 fJi_5 fJi_6 fJi_7 hj hj1 hj2 hd2 hm2 hI2 hR2 h6
            have hb' : 0 ≤ (B j).toInt ∧ (B j).toInt < N := by obtain ⟨i0, a1, a2, a3⟩ := own_ps A hj1 (show j < own_S A (2 * M) (vv + 1) by omega); rw [← a3, hB i0 a1]; exact rA _ (by unfold own_pa; split <;> omega)
            have hcl2 := own_cle R2 hN
            have hcd2 := hI2.2.2.2.1
            skip
            refine r_iload XJi.here hx (hb hby d6_48) rfl (pc' := 50) rfl ?_
            refine r_aloadN XJi.here hx (hb hby d6_50) rfl rfl (pc' := 51) rfl ?_
            refine r_getF XJi hx hZ hown (hw _ (List.mem_of_getElem? (i := 17) rfl)) Via.refl rfl fJi_2 (hb hby d6_51) (pc' := 54) rfl (fun T355 X355 e355 => ?_)
            refine r_iload X355.here hx (hb hby d6_54) rfl (pc' := 56) rfl ?_
            refine r_iconst X355.here hx (hb hby d6_56) (v := 1) rfl (pc' := 57) rfl ?_
            refine r_iadd X355.here hx (hb hby d6_57) (pc' := 58) rfl ?_
            refine q_iaload X355 hx hZ e355 (j := (vi + (1 : Int32))) (v := (fS (vv + 1))) fJi_4 (by omega) (by omega) (congrArg (fun z => Value.int (fS z)) (show (vi + 1).toInt.toNat = vv + 1 by omega)) (hb hby d6_58) (pc' := 59) rfl ?_
            refine r_if_ge X355.here hx (hb hby d6_59) (by decide) (pc' := 97) (by decide) (pc2 := 62) rfl (fun hc59 => absurd hc59 (by omega)) (fun hc59 => ?_)
            refine r_aloadN X355.here hx (hb hby d6_62) rfl rfl (pc' := 63) rfl ?_
            refine r_getF X355 hx hZ hown (hw _ (List.mem_of_getElem? (i := 19) rfl)) Via.refl e355 fJi_3 (hb hby d6_63) (pc' := 66) rfl (fun T356 X356 e356 => ?_)
            refine r_iload X356.here hx (hb hby d6_66) rfl (pc' := 68) rfl ?_
            refine q_iaload X356 hx hZ e356 (j := ji) (v := (B j)) fJi_5 (by omega) (by omega) (congrArg (fun z => Value.int (B z)) (show ji.toInt.toNat = j by omega)) (hb hby d6_68) (pc' := 69) rfl ?_
            refine r_istore X356.here hx (hb hby d6_69) (l' := #[.val (.ref a), .val (.ref b297), .val (.ref b314), .val (.int di2), .val (.int vi), .val (.int ji), .val (.int (B j))]) (by rcases h6 with rfl | ⟨_, rfl⟩ <;> rfl) (pc' := 71) rfl ?_
            refine r_aloadN X356.here hx (hb hby d6_71) rfl rfl (pc' := 72) rfl ?_
            refine r_iload X356.here hx (hb hby d6_72) rfl (pc' := 74) rfl ?_
            refine q_baloadZ X356 hx hZ e356 (j := (B j)) (v := (R2 (own_al B j))) fJi_6 (by omega) (by omega) rfl (hb hby d6_74) (pc' := 75) rfl ?_
            refine r_if0_ne X356.here hx (hb hby d6_75) (by decide) (pc' := 91) (by decide) (pc2 := 78) rfl (fun hc75 => ?_) (fun hc75 => ?_)
            · refine r_iinc X356.here hx (hb hby d6_91) rfl (z := (ji + (1 : Int32))) rfl (l' := #[.val (.ref a), .val (.ref b297), .val (.ref b314), .val (.int di2), .val (.int vi), .val (.int (ji + (1 : Int32))), .val (.int (B j))]) rfl (pc' := 94) rfl ?_
              refine r_goto X356.here hx (hb hby d6_94) (by decide) (pc' := 48) (by decide) ?_
              exact ihJi  (j + 1) (ji + 1) d2 di2 R2 S2 _ T356 _ X356 NJi (by rw [e356]; exact ZJi) (by rw [e356]; exact KJi) (by rw [e356]; exact fJi_0) (by rw [e356]; exact fJi_1) (by rw [e356]; exact fJi_2) (by rw [e356]; exact fJi_3) (by rw [e356]; exact fJi_4) (by rw [e356]; exact fJi_5) (by rw [e356]; exact fJi_6) (by rw [e356]; exact fJi_7) (own_inc hj (by omega)) (by omega) (by omega) hd2 hm2 (own_v2 hB hI2 hc75) hR2 (Or.inr ⟨_, rfl⟩)
            · have hz := Classical.not_not.mp hc75
              have cl := own_clt (F := R2) hN (show own_al B j < N by unfold own_al; omega) hz
              have dn : (di2 + 1).toInt = ((d2 + 1 : Nat) : Int) := own_inc hd2 (by omega)
              have v3 := own_v3 (S' := fun i => if i = di2.toInt.toNat then B j else S2 i) hN hB hI2 hR2 hj1 (by omega) hz (by unfold own_al; omega) hb'.1 hd2 rfl
              refine r_aloadN X356.here hx (hb hby d6_78) rfl rfl (pc' := 79) rfl ?_
              refine r_iload X356.here hx (hb hby d6_79) rfl (pc' := 81) rfl ?_
              refine r_iconst X356.here hx (hb hby d6_81) (v := 1) rfl (pc' := 82) rfl ?_
              refine q_bastoreZ X356 hx hZ e356 (j := (B j)) fJi_6 (by omega) (by omega) (w := (1 : Int32)) rfl (hb hby d6_82) (pc' := 83) rfl (fun T357 h357 X357 e357 W357 A357 => ?_)
              have K358 := KJi.wr W357 (Or.inr fr299)
              have f359 := fJi_0.wr W357
              have f360 := fJi_1.other W357 (Or.inl (Ne.symm ne300))
              have f361 := fJi_2.other W357 (Or.inl (Ne.symm ne300))
              have f362 := fJi_3.other W357 (Or.inl (Ne.symm ne300))
              have f363 := fJi_4.other W357 (Ne.symm ne301)
              have f364 := fJi_5.other W357 (Ne.symm ne302)
              have f365 := fJi_7.other W357 ne319
              have Z366 : n0 ≤ h357.size := by have q := ZJi; rw [W357.size]; exact q
              have N357 := Fr.snoc X357 NJi ge303
              refine r_aloadN X357.here hx (hb hby d6_83) rfl rfl (pc' := 84) rfl ?_
              refine r_iloadN X357.here hx (hb hby d6_84) rfl (pc' := 85) rfl ?_
              refine r_iinc X357.here hx (hb hby d6_85) rfl (z := (di2 + (1 : Int32))) rfl (l' := #[.val (.ref a), .val (.ref b297), .val (.ref b314), .val (.int (di2 + (1 : Int32))), .val (.int vi), .val (.int ji), .val (.int (B j))]) rfl (pc' := 88) rfl ?_
              refine r_iload X357.here hx (hb hby d6_88) rfl (pc' := 90) rfl ?_
              refine q_iastore X357 hx hZ e357 (j := di2) f365 (by omega) (by omega) (hb hby d6_90) (pc' := 91) rfl (fun T367 h367 X367 e367 W367 A367 => ?_)
              have K368 := K358.wr W367 (Or.inr fr315)
              have f369 := f359.wr W367
              have f370 := f360.other W367 (Or.inl (Ne.symm ne316))
              have f371 := f361.other W367 (Or.inl (Ne.symm ne316))
              have f372 := f362.other W367 (Or.inl (Ne.symm ne316))
              have f373 := f363.other W367 (Ne.symm ne317)
              have f374 := f364.other W367 (Ne.symm ne318)
              have f375 := A357.other W367 (Ne.symm ne319)
              have Z376 : n0 ≤ h367.size := by have q := Z366; rw [W367.size]; exact q
              have N367 := Fr.snoc X367 N357 ge320
              refine r_iinc X367.here hx (hb hby d6_91) rfl (z := (ji + (1 : Int32))) rfl (l' := #[.val (.ref a), .val (.ref b297), .val (.ref b314), .val (.int (di2 + (1 : Int32))), .val (.int vi), .val (.int (ji + (1 : Int32))), .val (.int (B j))]) rfl (pc' := 94) rfl ?_
              refine r_goto X367.here hx (hb hby d6_94) (by decide) (pc' := 48) (by decide) ?_
              subst e367
              exact ihJi  (j + 1) (ji + 1) (d2 + 1) (di2 + 1) _ _ _ T367 _ X367 N367 Z376 K368 f369 f370 f371 f372 f373 f374 f375 A367 (own_inc hj (by omega)) (by omega) (by omega) dn (show 2 * (N - own_card N (own_set R2 (own_al B j))) + (d2 + 1) ≤ dJo by omega) v3.1 v3.2.2 (Or.inr ⟨_, rfl⟩)
        exact Ji (own_S A (2 * M) (vv + 1) - own_S A (2 * M) vv) (own_S A (2 * M) vv) _ dd _ R S _ T353 _ X353 NJo (by rw [e353]; exact ZJo) (by rw [e353]; exact KJo) (by rw [e353]; exact fJo_0) (by rw [e353]; exact fJo_1) (by rw [e353]; exact fJo_2) (by rw [e353]; exact fJo_3) (by rw [e353]; exact fJo_4) (by rw [e353]; exact fJo_5) (by rw [e353]; exact fJo_6) (by rw [e353]; exact fJo_7) s1 (Nat.le_refl _) (by omega) dm (by omega) hI1 hRv h6
  subst e341
  exact Jo (2 * N) 1 _ _ _ .unset .unset .unset T341 _ X341 N341 Z350 K342 f343 f344 f345 f346 f347 f348 f349 A341 rfl (show 2 * (N - own_card N (fun i => if i = 0 then 1 else 0)) + 1 ≤ 2 * N by have := (own_v0 (A := A) (M := M) hN1).2.2.2.1; omega) (own_v0 hN1) (Or.inl rfl) (Or.inl rfl) (Or.inl rfl)
theorem own_gr {P : Int32 → Prop} {F : Nat → Int32} {k : Nat} {j x : Int32} (h : ∀ i, i < k → P (F i)) (hj : j.toInt = k) (hx : P x) : ∀ i, i < k + 1 → P (if i = j.toInt.toNat then x else F i) := by
  intro i hi
  by_cases q : i = j.toInt.toNat
  · rw [if_pos q]; exact hx
  · rw [if_neg q]; exact h i (by omega)
theorem own_wn {A R r : Nat → Int32} {M N : Nat} {z : Int32} (hN : N ≤ 4) (h1 : 1 ≤ N) (fin : own_Fin A M R) (fst : own_First N R z) (r0 : ¬ r 0 = 0) (rs : own_Snd A M r) (rc : Clo A M (fun x => ¬ r x = 0)) :
    (1 < N → r 1 = 0 → z = 1) ∧ ((1 < N → ¬ r 1 = 0) → 2 < N → r 2 = 0 → z = 2) ∧ ((1 < N → ¬ r 1 = 0) → (2 < N → ¬ r 2 = 0) → 3 < N → r 3 = 0 → z = 3) ∧ ((1 < N → ¬ r 1 = 0) → (2 < N → ¬ r 2 = 0) → (3 < N → ¬ r 3 = 0) → z = (-1)) := by
  have up : ∀ x, ¬ R x = 0 → ¬ r x = 0 := fin.2.1 _ rc r0
  have dn : ∀ x, ¬ r x = 0 → ¬ R x = 0 := rs _ fin.2.2 fin.1
  have z0 : ∀ x, r x = 0 → R x = 0 := fun x q => Classical.not_not.mp fun g => up x g q
  have z1 : ∀ x, R x = 0 → r x = 0 := fun x q => Classical.not_not.mp fun g => dn x g q
  have key : ∀ k : Nat, k < N → r k = 0 → (∀ y, y < k → ¬ r y = 0) → z.toInt = k := by
    intro k hk e p
    rcases fst with ⟨x, a, b, c, d⟩ | ⟨a, b⟩
    · have e1 : ¬ x < k := fun q => p x q (z1 x c)
      have e2 : ¬ k < x := fun q => d k q (z0 k e)
      omega
    · exact absurd (z0 k e) (b k hk)
  have all : (∀ y, y < N → ¬ r y = 0) → z.toInt = -1 := by
    intro p
    rcases fst with ⟨x, a, b, c, d⟩ | ⟨a, b⟩
    · exact absurd (z1 x c) (p x a)
    · exact a
  refine ⟨fun a b => Int32.toInt_inj.mp (key 1 a b fun y hy => ?_), fun c1 a b => Int32.toInt_inj.mp (key 2 a b fun y hy => ?_), fun c1 c2 a b => Int32.toInt_inj.mp (key 3 a b fun y hy => ?_), fun c1 c2 c3 => Int32.toInt_inj.mp ((all fun y hy => ?_).trans (by decide))⟩
  · have : y = 0 := by omega
    rw [this]; exact r0
  · have : y = 0 ∨ y = 1 := by omega
    rcases this with rfl | rfl
    · exact r0
    · exact c1 (by omega)
  · have : y = 0 ∨ y = 1 ∨ y = 2 := by omega
    rcases this with rfl | rfl | rfl
    · exact r0
    · exact c1 (by omega)
    · exact c2 (by omega)
  · have : y = 0 ∨ y = 1 ∨ y = 2 ∨ y = 3 := by omega
    rcases this with rfl | rfl | rfl | rfl
    · exact r0
    · exact c1 (by omega)
    · exact c2 (by omega)
    · exact c3 (by omega)
theorem pd_3 : parseMethodDescriptor "(III)I" = some ⟨[.int, .int, .int], some .int⟩ := by decide +kernel
theorem pd_4 : parseMethodDescriptor "(I[I[DI)V" = some ⟨[.int, (.array .int), (.array .double), .int], none⟩ := by decide +kernel
theorem pd_5 : parseMethodDescriptor "()I" = some ⟨[], some .int⟩ := by decide +kernel
theorem pd_6 : parseMethodDescriptor "([Z[II)V" = some ⟨[(.array .boolean), (.array .int), .int], none⟩ := by decide +kernel
theorem ef_rm0 (m : MethodId) (x0 : Int32) (x1 : Int32) (x2 : Int32) : entryFrame m #[(.int x0), (.int x1), (.int x2)] maxLocals = mkF m 0 #[.val (.int x0), .val (.int x1), .val (.int x2), .unset, .unset, .unset, .unset, .unset, .unset, .unset, .unset] [] := by first | (simp [entryFrame, mkF, argsToLocals, Value.category, maxLocals]; done) | rfl
set_option maxRecDepth 65536 in
set_option maxHeartbeats 40000000 in
theorem rm0 (l : Launch) (Z : State) (a0 : Array Value) (hw : ∀ d ∈ tables_1, d.before a0 Z = true) (ws : List Jvm.Cond) (sz es eb : Int32) (h0 : Heap) (n0 : Nat) (Z0 : n0 ≤ h0.size)  :
    Met l Z Jvm.Pilot.@@N@@.x code maxLocals ret ws room_1 #[(.int sz), (.int es), (.int eb)] h0 (fun v h L => v = some (.int 1) ∧ Fr n0 L) 32 256 := by
  refine met_of (plainFor_of_name pn_0) (f0 := fun m => (mkF m 0 #[.val (.int sz), .val (.int es), .val (.int eb), .unset, .unset, .unset, .unset, .unset, .unset, .unset, .unset] [])) (fun m => ef_rm0 m sz es eb) ?_
  intro p e s m below meth c s₁ X0 hx hby hml hret hlk hown hnm hZ e0
  replace hown : s.vm.findClass "com/example/medianest/medianest/GraphFirstUnreachablePinLaw" = some m.cls := hown
  have N0 := Fr.nil n0
  refine r_iconst X0.here hx (hb hby at_0) (v := 1) rfl (pc' := 1) rfl ?_
  refine r_iloadN X0.here hx (hb hby at_1) rfl (pc' := 2) rfl ?_
  refine r_iconst X0.here hx (hb hby at_2) (v := 3) rfl (pc' := 3) rfl ?_
  refine r_iand X0.here hx (hb hby at_3) (pc' := 4) rfl ?_
  refine r_iadd X0.here hx (hb hby at_4) (pc' := 5) rfl ?_
  refine r_istoreN X0.here hx (hb hby at_5) (l' := #[.val (.int sz), .val (.int es), .val (.int eb), .val (.int ((1 : Int32) + (sz &&& (3 : Int32)))), .unset, .unset, .unset, .unset, .unset, .unset, .unset]) rfl (pc' := 6) rfl ?_
  obtain ⟨n, hnn⟩ : ∃ z, (1 : Int32) + (sz &&& (3 : Int32)) = z := ⟨_, rfl⟩
  show Run p e below _ _ s₁ (mkF m 6 #[.val (.int sz), .val (.int es), .val (.int eb), .val (.int ((1 : Int32) + (sz &&& (3 : Int32)))), .unset, .unset, .unset, .unset, .unset, .unset, .unset] [])
  rw [hnn]
  have l1 : (1 : Int32).toInt = 1 := rfl
  have l3 : (3 : Int32).toInt = 3 := rfl
  have l2 : (2 : Int32).toInt = 2 := rfl
  have hna : 1 ≤ n.toInt ∧ n.toInt ≤ 4 := by have c := c_and sz 3 (by decide); have q := own_ad (x := 1) (y := sz &&& 3) rfl (by omega) (by omega); rw [hnn] at q; omega
  obtain ⟨N, hn⟩ : ∃ N : Nat, n.toInt = N := ⟨n.toInt.toNat, by omega⟩
  refine r_iloadN X0.here hx (hb hby at_6) rfl (pc' := 7) rfl ?_
  refine r_bipush X0.here hx (hb hby at_7) (v := 7) rfl (pc' := 9) rfl ?_
  refine r_iand X0.here hx (hb hby at_9) (pc' := 10) rfl ?_
  refine r_bipush X0.here hx (hb hby at_10) (v := 7) rfl (pc' := 12) rfl ?_
  refine r_irem X0.here hx (hb hby at_12) (by decide) (pc' := 13) rfl ?_
  refine r_istore X0.here hx (hb hby at_13) (l' := #[.val (.int sz), .val (.int es), .val (.int eb), .val (.int n), .val (.int ((es &&& (7 : Int32)) % (7 : Int32))), .unset, .unset, .unset, .unset, .unset, .unset]) rfl (pc' := 15) rfl ?_
  obtain ⟨mc, hmm⟩ : ∃ z, (es &&& (7 : Int32)) % (7 : Int32) = z := ⟨_, rfl⟩
  show Run p e below _ _ s₁ (mkF m 15 #[.val (.int sz), .val (.int es), .val (.int eb), .val (.int n), .val (.int ((es &&& (7 : Int32)) % (7 : Int32))), .unset, .unset, .unset, .unset, .unset, .unset] [])
  rw [hmm]
  have hma : 0 ≤ mc.toInt ∧ mc.toInt ≤ 6 := by have c := c_and es 7 (by decide); have l7 : (7 : Int32).toInt = 7 := rfl; have q := (c_iremV (es &&& 7) 7).1 c.1 (by decide); rw [hmm] at q; omega
  obtain ⟨M, hm⟩ : ∃ M : Nat, mc.toInt = M := ⟨mc.toInt.toNat, by omega⟩
  have g0 : ∀ i : Nat, i < 0 → 0 ≤ ((fun _ => (0 : Int32)) i).toInt ∧ ((fun _ => (0 : Int32)) i).toInt < N := fun i hi => absurd hi (by omega)
  refine r_bipush X0.here hx (hb hby at_15) (v := 12) rfl (pc' := 17) rfl ?_
  refine r_newarray X0 hx hZ (aty := .int) (hw _ (List.mem_of_getElem? (i := 0) rfl)) e0 (cap := 12) (by decide) (by decide) (by decide) (by decide) (by decide) (hb hby at_17) (pc' := 19) rfl (fun T377 h377 b377 k377 g377 X377 e377 E377 A377 => ?_)
  have ge378 : n0 ≤ b377 := by rw [g377]; exact Z0
  have Z379 : n0 ≤ h377.size := by have q := Z0; exact Nat.le_trans q E377.1
  have f380 : Ary Z h377 b377 .int 12 (fun _ => .int 0) := Ary.new A377 rfl
  refine r_astore X377.here hx (hb hby at_19) rfl (l' := #[.val (.int sz), .val (.int es), .val (.int eb), .val (.int n), .val (.int mc), .val (.ref b377), .unset, .unset, .unset, .unset, .unset]) rfl (pc' := 21) rfl ?_
  refine r_aload X377.here hx (hb hby at_21) rfl rfl (pc' := 23) rfl ?_
  refine r_iconst X377.here hx (hb hby at_23) (v := 0) rfl (pc' := 24) rfl ?_
  refine r_iloadN X377.here hx (hb hby at_24) rfl (pc' := 25) rfl ?_
  refine r_iconst X377.here hx (hb hby at_25) (v := 0) rfl (pc' := 26) rfl ?_
  refine r_iloadN X377.here hx (hb hby at_26) rfl (pc' := 27) rfl ?_
  refine r_callS X377 hx hZ (y := (⟨"com/example/medianest/medianest/GraphFirstUnreachablePinLaw", "end", "(III)I"⟩ : MethodName)) (rm := ({ frames := 0, cells := 0, slots := 0, locals := 0 } : Room)) hown (hw _ (List.mem_of_getElem? (i := 1) rfl)) (hw _ (List.mem_of_getElem? (i := 2) rfl)) (hw _ (List.mem_of_getElem? (i := 3) rfl)) (hw _ (List.mem_of_getElem? (i := 4) rfl)) (by decide) (rmE l Z a0 hw [] eb 0 n h377 n0 Z379 hna.1) e377 (by rw [hml]; rfl) (argsL := [(.int eb), (.int (0 : Int32)), (.int n)]) (rest := [(.int (0 : Int32)), (.ref b377)]) (lenOf pd_3 rfl) rfl rfl (W := 2) rfl (by decide) (by decide) (by decide) (by decide) (hb hby at_27) (pc' := 30) rfl ?_
  rintro v381 T381 L381 X381 ⟨z0, rfl, Nq381, e381, za0, zb0⟩
  have N381 := Fr.app N0 Nq381
  show Run p e below _ _ T381 (mkF m 30 #[.val (.int sz), .val (.int es), .val (.int eb), .val (.int n), .val (.int mc), .val (.ref b377), .unset, .unset, .unset, .unset, .unset] [(.int z0), (.int (0 : Int32)), (.ref b377)])
  refine q_iastore X381 hx hZ e381 (j := (0 : Int32)) f380 (by decide) (by decide) (hb hby at_30) (pc' := 31) rfl (fun T382 h382 X382 e382 W382 A382 => ?_)
  have Z383 : n0 ≤ h382.size := by have q := Z379; rw [W382.size]; exact q
  have N382 := Fr.snoc X382 N381 ge378
  obtain ⟨G0, hG0⟩ : ∃ G : Nat → Int32, G = (fun i => if i = (0 : Int32).toInt.toNat then z0 else (fun _ => (0 : Int32)) i) := ⟨_, rfl⟩
  have AG384 : Ary Z h382 b377 .int 12 (fun i => .int (G0 i)) := by rw [hG0]; exact A382
  have g1 : ∀ i, i < 1 → 0 ≤ (G0 i).toInt ∧ (G0 i).toInt < N := by rw [hG0]; exact own_gr (P := fun x : Int32 => 0 ≤ x.toInt ∧ x.toInt < N) g0 rfl ⟨za0, by omega⟩
  refine r_aload X382.here hx (hb hby at_31) rfl rfl (pc' := 33) rfl ?_
  refine r_iconst X382.here hx (hb hby at_33) (v := 1) rfl (pc' := 34) rfl ?_
  refine r_iloadN X382.here hx (hb hby at_34) rfl (pc' := 35) rfl ?_
  refine r_iconst X382.here hx (hb hby at_35) (v := 1) rfl (pc' := 36) rfl ?_
  refine r_iloadN X382.here hx (hb hby at_36) rfl (pc' := 37) rfl ?_
  refine r_callS X382 hx hZ (y := (⟨"com/example/medianest/medianest/GraphFirstUnreachablePinLaw", "end", "(III)I"⟩ : MethodName)) (rm := ({ frames := 0, cells := 0, slots := 0, locals := 0 } : Room)) hown (hw _ (List.mem_of_getElem? (i := 1) rfl)) (hw _ (List.mem_of_getElem? (i := 2) rfl)) (hw _ (List.mem_of_getElem? (i := 3) rfl)) (hw _ (List.mem_of_getElem? (i := 4) rfl)) (by decide) (rmE l Z a0 hw [] eb 1 n h382 n0 Z383 hna.1) e382 (by rw [hml]; rfl) (argsL := [(.int eb), (.int (1 : Int32)), (.int n)]) (rest := [(.int (1 : Int32)), (.ref b377)]) (lenOf pd_3 rfl) rfl rfl (W := 2) rfl (by decide) (by decide) (by decide) (by decide) (hb hby at_37) (pc' := 40) rfl ?_
  rintro v385 T385 L385 X385 ⟨z1, rfl, Nq385, e385, za1, zb1⟩
  have N385 := Fr.app N382 Nq385
  show Run p e below _ _ T385 (mkF m 40 #[.val (.int sz), .val (.int es), .val (.int eb), .val (.int n), .val (.int mc), .val (.ref b377), .unset, .unset, .unset, .unset, .unset] [(.int z1), (.int (1 : Int32)), (.ref b377)])
  refine q_iastore X385 hx hZ e385 (j := (1 : Int32)) AG384 (by decide) (by decide) (hb hby at_40) (pc' := 41) rfl (fun T386 h386 X386 e386 W386 A386 => ?_)
  have Z387 : n0 ≤ h386.size := by have q := Z383; rw [W386.size]; exact q
  have N386 := Fr.snoc X386 N385 ge378
  obtain ⟨G1, hG1⟩ : ∃ G : Nat → Int32, G = (fun i => if i = (1 : Int32).toInt.toNat then z1 else G0 i) := ⟨_, rfl⟩
  have AG388 : Ary Z h386 b377 .int 12 (fun i => .int (G1 i)) := by rw [hG1]; exact A386
  have g2 : ∀ i, i < 2 → 0 ≤ (G1 i).toInt ∧ (G1 i).toInt < N := by rw [hG1]; exact own_gr (P := fun x : Int32 => 0 ≤ x.toInt ∧ x.toInt < N) g1 rfl ⟨za1, by omega⟩
  refine r_aload X386.here hx (hb hby at_41) rfl rfl (pc' := 43) rfl ?_
  refine r_iconst X386.here hx (hb hby at_43) (v := 2) rfl (pc' := 44) rfl ?_
  refine r_iloadN X386.here hx (hb hby at_44) rfl (pc' := 45) rfl ?_
  refine r_iconst X386.here hx (hb hby at_45) (v := 2) rfl (pc' := 46) rfl ?_
  refine r_iloadN X386.here hx (hb hby at_46) rfl (pc' := 47) rfl ?_
  refine r_callS X386 hx hZ (y := (⟨"com/example/medianest/medianest/GraphFirstUnreachablePinLaw", "end", "(III)I"⟩ : MethodName)) (rm := ({ frames := 0, cells := 0, slots := 0, locals := 0 } : Room)) hown (hw _ (List.mem_of_getElem? (i := 1) rfl)) (hw _ (List.mem_of_getElem? (i := 2) rfl)) (hw _ (List.mem_of_getElem? (i := 3) rfl)) (hw _ (List.mem_of_getElem? (i := 4) rfl)) (by decide) (rmE l Z a0 hw [] eb 2 n h386 n0 Z387 hna.1) e386 (by rw [hml]; rfl) (argsL := [(.int eb), (.int (2 : Int32)), (.int n)]) (rest := [(.int (2 : Int32)), (.ref b377)]) (lenOf pd_3 rfl) rfl rfl (W := 2) rfl (by decide) (by decide) (by decide) (by decide) (hb hby at_47) (pc' := 50) rfl ?_
  rintro v389 T389 L389 X389 ⟨z2, rfl, Nq389, e389, za2, zb2⟩
  have N389 := Fr.app N386 Nq389
  show Run p e below _ _ T389 (mkF m 50 #[.val (.int sz), .val (.int es), .val (.int eb), .val (.int n), .val (.int mc), .val (.ref b377), .unset, .unset, .unset, .unset, .unset] [(.int z2), (.int (2 : Int32)), (.ref b377)])
  refine q_iastore X389 hx hZ e389 (j := (2 : Int32)) AG388 (by decide) (by decide) (hb hby at_50) (pc' := 51) rfl (fun T390 h390 X390 e390 W390 A390 => ?_)
  have Z391 : n0 ≤ h390.size := by have q := Z387; rw [W390.size]; exact q
  have N390 := Fr.snoc X390 N389 ge378
  obtain ⟨G2, hG2⟩ : ∃ G : Nat → Int32, G = (fun i => if i = (2 : Int32).toInt.toNat then z2 else G1 i) := ⟨_, rfl⟩
  have AG392 : Ary Z h390 b377 .int 12 (fun i => .int (G2 i)) := by rw [hG2]; exact A390
  have g3 : ∀ i, i < 3 → 0 ≤ (G2 i).toInt ∧ (G2 i).toInt < N := by rw [hG2]; exact own_gr (P := fun x : Int32 => 0 ≤ x.toInt ∧ x.toInt < N) g2 rfl ⟨za2, by omega⟩
  refine r_aload X390.here hx (hb hby at_51) rfl rfl (pc' := 53) rfl ?_
  refine r_iconst X390.here hx (hb hby at_53) (v := 3) rfl (pc' := 54) rfl ?_
  refine r_iloadN X390.here hx (hb hby at_54) rfl (pc' := 55) rfl ?_
  refine r_iconst X390.here hx (hb hby at_55) (v := 3) rfl (pc' := 56) rfl ?_
  refine r_iloadN X390.here hx (hb hby at_56) rfl (pc' := 57) rfl ?_
  refine r_callS X390 hx hZ (y := (⟨"com/example/medianest/medianest/GraphFirstUnreachablePinLaw", "end", "(III)I"⟩ : MethodName)) (rm := ({ frames := 0, cells := 0, slots := 0, locals := 0 } : Room)) hown (hw _ (List.mem_of_getElem? (i := 1) rfl)) (hw _ (List.mem_of_getElem? (i := 2) rfl)) (hw _ (List.mem_of_getElem? (i := 3) rfl)) (hw _ (List.mem_of_getElem? (i := 4) rfl)) (by decide) (rmE l Z a0 hw [] eb 3 n h390 n0 Z391 hna.1) e390 (by rw [hml]; rfl) (argsL := [(.int eb), (.int (3 : Int32)), (.int n)]) (rest := [(.int (3 : Int32)), (.ref b377)]) (lenOf pd_3 rfl) rfl rfl (W := 2) rfl (by decide) (by decide) (by decide) (by decide) (hb hby at_57) (pc' := 60) rfl ?_
  rintro v393 T393 L393 X393 ⟨z3, rfl, Nq393, e393, za3, zb3⟩
  have N393 := Fr.app N390 Nq393
  show Run p e below _ _ T393 (mkF m 60 #[.val (.int sz), .val (.int es), .val (.int eb), .val (.int n), .val (.int mc), .val (.ref b377), .unset, .unset, .unset, .unset, .unset] [(.int z3), (.int (3 : Int32)), (.ref b377)])
  refine q_iastore X393 hx hZ e393 (j := (3 : Int32)) AG392 (by decide) (by decide) (hb hby at_60) (pc' := 61) rfl (fun T394 h394 X394 e394 W394 A394 => ?_)
  have Z395 : n0 ≤ h394.size := by have q := Z391; rw [W394.size]; exact q
  have N394 := Fr.snoc X394 N393 ge378
  obtain ⟨G3, hG3⟩ : ∃ G : Nat → Int32, G = (fun i => if i = (3 : Int32).toInt.toNat then z3 else G2 i) := ⟨_, rfl⟩
  have AG396 : Ary Z h394 b377 .int 12 (fun i => .int (G3 i)) := by rw [hG3]; exact A394
  have g4 : ∀ i, i < 4 → 0 ≤ (G3 i).toInt ∧ (G3 i).toInt < N := by rw [hG3]; exact own_gr (P := fun x : Int32 => 0 ≤ x.toInt ∧ x.toInt < N) g3 rfl ⟨za3, by omega⟩
  refine r_aload X394.here hx (hb hby at_61) rfl rfl (pc' := 63) rfl ?_
  refine r_iconst X394.here hx (hb hby at_63) (v := 4) rfl (pc' := 64) rfl ?_
  refine r_iloadN X394.here hx (hb hby at_64) rfl (pc' := 65) rfl ?_
  refine r_iconst X394.here hx (hb hby at_65) (v := 4) rfl (pc' := 66) rfl ?_
  refine r_iloadN X394.here hx (hb hby at_66) rfl (pc' := 67) rfl ?_
  refine r_callS X394 hx hZ (y := (⟨"com/example/medianest/medianest/GraphFirstUnreachablePinLaw", "end", "(III)I"⟩ : MethodName)) (rm := ({ frames := 0, cells := 0, slots := 0, locals := 0 } : Room)) hown (hw _ (List.mem_of_getElem? (i := 1) rfl)) (hw _ (List.mem_of_getElem? (i := 2) rfl)) (hw _ (List.mem_of_getElem? (i := 3) rfl)) (hw _ (List.mem_of_getElem? (i := 4) rfl)) (by decide) (rmE l Z a0 hw [] eb 4 n h394 n0 Z395 hna.1) e394 (by rw [hml]; rfl) (argsL := [(.int eb), (.int (4 : Int32)), (.int n)]) (rest := [(.int (4 : Int32)), (.ref b377)]) (lenOf pd_3 rfl) rfl rfl (W := 2) rfl (by decide) (by decide) (by decide) (by decide) (hb hby at_67) (pc' := 70) rfl ?_
  rintro v397 T397 L397 X397 ⟨z4, rfl, Nq397, e397, za4, zb4⟩
  have N397 := Fr.app N394 Nq397
  show Run p e below _ _ T397 (mkF m 70 #[.val (.int sz), .val (.int es), .val (.int eb), .val (.int n), .val (.int mc), .val (.ref b377), .unset, .unset, .unset, .unset, .unset] [(.int z4), (.int (4 : Int32)), (.ref b377)])
  refine q_iastore X397 hx hZ e397 (j := (4 : Int32)) AG396 (by decide) (by decide) (hb hby at_70) (pc' := 71) rfl (fun T398 h398 X398 e398 W398 A398 => ?_)
  have Z399 : n0 ≤ h398.size := by have q := Z395; rw [W398.size]; exact q
  have N398 := Fr.snoc X398 N397 ge378
  obtain ⟨G4, hG4⟩ : ∃ G : Nat → Int32, G = (fun i => if i = (4 : Int32).toInt.toNat then z4 else G3 i) := ⟨_, rfl⟩
  have AG400 : Ary Z h398 b377 .int 12 (fun i => .int (G4 i)) := by rw [hG4]; exact A398
  have g5 : ∀ i, i < 5 → 0 ≤ (G4 i).toInt ∧ (G4 i).toInt < N := by rw [hG4]; exact own_gr (P := fun x : Int32 => 0 ≤ x.toInt ∧ x.toInt < N) g4 rfl ⟨za4, by omega⟩
  refine r_aload X398.here hx (hb hby at_71) rfl rfl (pc' := 73) rfl ?_
  refine r_iconst X398.here hx (hb hby at_73) (v := 5) rfl (pc' := 74) rfl ?_
  refine r_iloadN X398.here hx (hb hby at_74) rfl (pc' := 75) rfl ?_
  refine r_iconst X398.here hx (hb hby at_75) (v := 5) rfl (pc' := 76) rfl ?_
  refine r_iloadN X398.here hx (hb hby at_76) rfl (pc' := 77) rfl ?_
  refine r_callS X398 hx hZ (y := (⟨"com/example/medianest/medianest/GraphFirstUnreachablePinLaw", "end", "(III)I"⟩ : MethodName)) (rm := ({ frames := 0, cells := 0, slots := 0, locals := 0 } : Room)) hown (hw _ (List.mem_of_getElem? (i := 1) rfl)) (hw _ (List.mem_of_getElem? (i := 2) rfl)) (hw _ (List.mem_of_getElem? (i := 3) rfl)) (hw _ (List.mem_of_getElem? (i := 4) rfl)) (by decide) (rmE l Z a0 hw [] eb 5 n h398 n0 Z399 hna.1) e398 (by rw [hml]; rfl) (argsL := [(.int eb), (.int (5 : Int32)), (.int n)]) (rest := [(.int (5 : Int32)), (.ref b377)]) (lenOf pd_3 rfl) rfl rfl (W := 2) rfl (by decide) (by decide) (by decide) (by decide) (hb hby at_77) (pc' := 80) rfl ?_
  rintro v401 T401 L401 X401 ⟨z5, rfl, Nq401, e401, za5, zb5⟩
  have N401 := Fr.app N398 Nq401
  show Run p e below _ _ T401 (mkF m 80 #[.val (.int sz), .val (.int es), .val (.int eb), .val (.int n), .val (.int mc), .val (.ref b377), .unset, .unset, .unset, .unset, .unset] [(.int z5), (.int (5 : Int32)), (.ref b377)])
  refine q_iastore X401 hx hZ e401 (j := (5 : Int32)) AG400 (by decide) (by decide) (hb hby at_80) (pc' := 81) rfl (fun T402 h402 X402 e402 W402 A402 => ?_)
  have Z403 : n0 ≤ h402.size := by have q := Z399; rw [W402.size]; exact q
  have N402 := Fr.snoc X402 N401 ge378
  obtain ⟨G5, hG5⟩ : ∃ G : Nat → Int32, G = (fun i => if i = (5 : Int32).toInt.toNat then z5 else G4 i) := ⟨_, rfl⟩
  have AG404 : Ary Z h402 b377 .int 12 (fun i => .int (G5 i)) := by rw [hG5]; exact A402
  have g6 : ∀ i, i < 6 → 0 ≤ (G5 i).toInt ∧ (G5 i).toInt < N := by rw [hG5]; exact own_gr (P := fun x : Int32 => 0 ≤ x.toInt ∧ x.toInt < N) g5 rfl ⟨za5, by omega⟩
  refine r_aload X402.here hx (hb hby at_81) rfl rfl (pc' := 83) rfl ?_
  refine r_bipush X402.here hx (hb hby at_83) (v := 6) rfl (pc' := 85) rfl ?_
  refine r_iloadN X402.here hx (hb hby at_85) rfl (pc' := 86) rfl ?_
  refine r_bipush X402.here hx (hb hby at_86) (v := 6) rfl (pc' := 88) rfl ?_
  refine r_iloadN X402.here hx (hb hby at_88) rfl (pc' := 89) rfl ?_
  refine r_callS X402 hx hZ (y := (⟨"com/example/medianest/medianest/GraphFirstUnreachablePinLaw", "end", "(III)I"⟩ : MethodName)) (rm := ({ frames := 0, cells := 0, slots := 0, locals := 0 } : Room)) hown (hw _ (List.mem_of_getElem? (i := 1) rfl)) (hw _ (List.mem_of_getElem? (i := 2) rfl)) (hw _ (List.mem_of_getElem? (i := 3) rfl)) (hw _ (List.mem_of_getElem? (i := 4) rfl)) (by decide) (rmE l Z a0 hw [] eb 6 n h402 n0 Z403 hna.1) e402 (by rw [hml]; rfl) (argsL := [(.int eb), (.int (6 : Int32)), (.int n)]) (rest := [(.int (6 : Int32)), (.ref b377)]) (lenOf pd_3 rfl) rfl rfl (W := 2) rfl (by decide) (by decide) (by decide) (by decide) (hb hby at_89) (pc' := 92) rfl ?_
  rintro v405 T405 L405 X405 ⟨z6, rfl, Nq405, e405, za6, zb6⟩
  have N405 := Fr.app N402 Nq405
  show Run p e below _ _ T405 (mkF m 92 #[.val (.int sz), .val (.int es), .val (.int eb), .val (.int n), .val (.int mc), .val (.ref b377), .unset, .unset, .unset, .unset, .unset] [(.int z6), (.int (6 : Int32)), (.ref b377)])
  refine q_iastore X405 hx hZ e405 (j := (6 : Int32)) AG404 (by decide) (by decide) (hb hby at_92) (pc' := 93) rfl (fun T406 h406 X406 e406 W406 A406 => ?_)
  have Z407 : n0 ≤ h406.size := by have q := Z403; rw [W406.size]; exact q
  have N406 := Fr.snoc X406 N405 ge378
  obtain ⟨G6, hG6⟩ : ∃ G : Nat → Int32, G = (fun i => if i = (6 : Int32).toInt.toNat then z6 else G5 i) := ⟨_, rfl⟩
  have AG408 : Ary Z h406 b377 .int 12 (fun i => .int (G6 i)) := by rw [hG6]; exact A406
  have g7 : ∀ i, i < 7 → 0 ≤ (G6 i).toInt ∧ (G6 i).toInt < N := by rw [hG6]; exact own_gr (P := fun x : Int32 => 0 ≤ x.toInt ∧ x.toInt < N) g6 rfl ⟨za6, by omega⟩
  refine r_aload X406.here hx (hb hby at_93) rfl rfl (pc' := 95) rfl ?_
  refine r_bipush X406.here hx (hb hby at_95) (v := 7) rfl (pc' := 97) rfl ?_
  refine r_iloadN X406.here hx (hb hby at_97) rfl (pc' := 98) rfl ?_
  refine r_bipush X406.here hx (hb hby at_98) (v := 7) rfl (pc' := 100) rfl ?_
  refine r_iloadN X406.here hx (hb hby at_100) rfl (pc' := 101) rfl ?_
  refine r_callS X406 hx hZ (y := (⟨"com/example/medianest/medianest/GraphFirstUnreachablePinLaw", "end", "(III)I"⟩ : MethodName)) (rm := ({ frames := 0, cells := 0, slots := 0, locals := 0 } : Room)) hown (hw _ (List.mem_of_getElem? (i := 1) rfl)) (hw _ (List.mem_of_getElem? (i := 2) rfl)) (hw _ (List.mem_of_getElem? (i := 3) rfl)) (hw _ (List.mem_of_getElem? (i := 4) rfl)) (by decide) (rmE l Z a0 hw [] eb 7 n h406 n0 Z407 hna.1) e406 (by rw [hml]; rfl) (argsL := [(.int eb), (.int (7 : Int32)), (.int n)]) (rest := [(.int (7 : Int32)), (.ref b377)]) (lenOf pd_3 rfl) rfl rfl (W := 2) rfl (by decide) (by decide) (by decide) (by decide) (hb hby at_101) (pc' := 104) rfl ?_
  rintro v409 T409 L409 X409 ⟨z7, rfl, Nq409, e409, za7, zb7⟩
  have N409 := Fr.app N406 Nq409
  show Run p e below _ _ T409 (mkF m 104 #[.val (.int sz), .val (.int es), .val (.int eb), .val (.int n), .val (.int mc), .val (.ref b377), .unset, .unset, .unset, .unset, .unset] [(.int z7), (.int (7 : Int32)), (.ref b377)])
  refine q_iastore X409 hx hZ e409 (j := (7 : Int32)) AG408 (by decide) (by decide) (hb hby at_104) (pc' := 105) rfl (fun T410 h410 X410 e410 W410 A410 => ?_)
  have Z411 : n0 ≤ h410.size := by have q := Z407; rw [W410.size]; exact q
  have N410 := Fr.snoc X410 N409 ge378
  obtain ⟨G7, hG7⟩ : ∃ G : Nat → Int32, G = (fun i => if i = (7 : Int32).toInt.toNat then z7 else G6 i) := ⟨_, rfl⟩
  have AG412 : Ary Z h410 b377 .int 12 (fun i => .int (G7 i)) := by rw [hG7]; exact A410
  have g8 : ∀ i, i < 8 → 0 ≤ (G7 i).toInt ∧ (G7 i).toInt < N := by rw [hG7]; exact own_gr (P := fun x : Int32 => 0 ≤ x.toInt ∧ x.toInt < N) g7 rfl ⟨za7, by omega⟩
  refine r_aload X410.here hx (hb hby at_105) rfl rfl (pc' := 107) rfl ?_
  refine r_bipush X410.here hx (hb hby at_107) (v := 8) rfl (pc' := 109) rfl ?_
  refine r_iloadN X410.here hx (hb hby at_109) rfl (pc' := 110) rfl ?_
  refine r_bipush X410.here hx (hb hby at_110) (v := 8) rfl (pc' := 112) rfl ?_
  refine r_iloadN X410.here hx (hb hby at_112) rfl (pc' := 113) rfl ?_
  refine r_callS X410 hx hZ (y := (⟨"com/example/medianest/medianest/GraphFirstUnreachablePinLaw", "end", "(III)I"⟩ : MethodName)) (rm := ({ frames := 0, cells := 0, slots := 0, locals := 0 } : Room)) hown (hw _ (List.mem_of_getElem? (i := 1) rfl)) (hw _ (List.mem_of_getElem? (i := 2) rfl)) (hw _ (List.mem_of_getElem? (i := 3) rfl)) (hw _ (List.mem_of_getElem? (i := 4) rfl)) (by decide) (rmE l Z a0 hw [] eb 8 n h410 n0 Z411 hna.1) e410 (by rw [hml]; rfl) (argsL := [(.int eb), (.int (8 : Int32)), (.int n)]) (rest := [(.int (8 : Int32)), (.ref b377)]) (lenOf pd_3 rfl) rfl rfl (W := 2) rfl (by decide) (by decide) (by decide) (by decide) (hb hby at_113) (pc' := 116) rfl ?_
  rintro v413 T413 L413 X413 ⟨z8, rfl, Nq413, e413, za8, zb8⟩
  have N413 := Fr.app N410 Nq413
  show Run p e below _ _ T413 (mkF m 116 #[.val (.int sz), .val (.int es), .val (.int eb), .val (.int n), .val (.int mc), .val (.ref b377), .unset, .unset, .unset, .unset, .unset] [(.int z8), (.int (8 : Int32)), (.ref b377)])
  refine q_iastore X413 hx hZ e413 (j := (8 : Int32)) AG412 (by decide) (by decide) (hb hby at_116) (pc' := 117) rfl (fun T414 h414 X414 e414 W414 A414 => ?_)
  have Z415 : n0 ≤ h414.size := by have q := Z411; rw [W414.size]; exact q
  have N414 := Fr.snoc X414 N413 ge378
  obtain ⟨G8, hG8⟩ : ∃ G : Nat → Int32, G = (fun i => if i = (8 : Int32).toInt.toNat then z8 else G7 i) := ⟨_, rfl⟩
  have AG416 : Ary Z h414 b377 .int 12 (fun i => .int (G8 i)) := by rw [hG8]; exact A414
  have g9 : ∀ i, i < 9 → 0 ≤ (G8 i).toInt ∧ (G8 i).toInt < N := by rw [hG8]; exact own_gr (P := fun x : Int32 => 0 ≤ x.toInt ∧ x.toInt < N) g8 rfl ⟨za8, by omega⟩
  refine r_aload X414.here hx (hb hby at_117) rfl rfl (pc' := 119) rfl ?_
  refine r_bipush X414.here hx (hb hby at_119) (v := 9) rfl (pc' := 121) rfl ?_
  refine r_iloadN X414.here hx (hb hby at_121) rfl (pc' := 122) rfl ?_
  refine r_bipush X414.here hx (hb hby at_122) (v := 9) rfl (pc' := 124) rfl ?_
  refine r_iloadN X414.here hx (hb hby at_124) rfl (pc' := 125) rfl ?_
  refine r_callS X414 hx hZ (y := (⟨"com/example/medianest/medianest/GraphFirstUnreachablePinLaw", "end", "(III)I"⟩ : MethodName)) (rm := ({ frames := 0, cells := 0, slots := 0, locals := 0 } : Room)) hown (hw _ (List.mem_of_getElem? (i := 1) rfl)) (hw _ (List.mem_of_getElem? (i := 2) rfl)) (hw _ (List.mem_of_getElem? (i := 3) rfl)) (hw _ (List.mem_of_getElem? (i := 4) rfl)) (by decide) (rmE l Z a0 hw [] eb 9 n h414 n0 Z415 hna.1) e414 (by rw [hml]; rfl) (argsL := [(.int eb), (.int (9 : Int32)), (.int n)]) (rest := [(.int (9 : Int32)), (.ref b377)]) (lenOf pd_3 rfl) rfl rfl (W := 2) rfl (by decide) (by decide) (by decide) (by decide) (hb hby at_125) (pc' := 128) rfl ?_
  rintro v417 T417 L417 X417 ⟨z9, rfl, Nq417, e417, za9, zb9⟩
  have N417 := Fr.app N414 Nq417
  show Run p e below _ _ T417 (mkF m 128 #[.val (.int sz), .val (.int es), .val (.int eb), .val (.int n), .val (.int mc), .val (.ref b377), .unset, .unset, .unset, .unset, .unset] [(.int z9), (.int (9 : Int32)), (.ref b377)])
  refine q_iastore X417 hx hZ e417 (j := (9 : Int32)) AG416 (by decide) (by decide) (hb hby at_128) (pc' := 129) rfl (fun T418 h418 X418 e418 W418 A418 => ?_)
  have Z419 : n0 ≤ h418.size := by have q := Z415; rw [W418.size]; exact q
  have N418 := Fr.snoc X418 N417 ge378
  obtain ⟨G9, hG9⟩ : ∃ G : Nat → Int32, G = (fun i => if i = (9 : Int32).toInt.toNat then z9 else G8 i) := ⟨_, rfl⟩
  have AG420 : Ary Z h418 b377 .int 12 (fun i => .int (G9 i)) := by rw [hG9]; exact A418
  have g10 : ∀ i, i < 10 → 0 ≤ (G9 i).toInt ∧ (G9 i).toInt < N := by rw [hG9]; exact own_gr (P := fun x : Int32 => 0 ≤ x.toInt ∧ x.toInt < N) g9 rfl ⟨za9, by omega⟩
  refine r_aload X418.here hx (hb hby at_129) rfl rfl (pc' := 131) rfl ?_
  refine r_bipush X418.here hx (hb hby at_131) (v := 10) rfl (pc' := 133) rfl ?_
  refine r_iloadN X418.here hx (hb hby at_133) rfl (pc' := 134) rfl ?_
  refine r_bipush X418.here hx (hb hby at_134) (v := 10) rfl (pc' := 136) rfl ?_
  refine r_iloadN X418.here hx (hb hby at_136) rfl (pc' := 137) rfl ?_
  refine r_callS X418 hx hZ (y := (⟨"com/example/medianest/medianest/GraphFirstUnreachablePinLaw", "end", "(III)I"⟩ : MethodName)) (rm := ({ frames := 0, cells := 0, slots := 0, locals := 0 } : Room)) hown (hw _ (List.mem_of_getElem? (i := 1) rfl)) (hw _ (List.mem_of_getElem? (i := 2) rfl)) (hw _ (List.mem_of_getElem? (i := 3) rfl)) (hw _ (List.mem_of_getElem? (i := 4) rfl)) (by decide) (rmE l Z a0 hw [] eb 10 n h418 n0 Z419 hna.1) e418 (by rw [hml]; rfl) (argsL := [(.int eb), (.int (10 : Int32)), (.int n)]) (rest := [(.int (10 : Int32)), (.ref b377)]) (lenOf pd_3 rfl) rfl rfl (W := 2) rfl (by decide) (by decide) (by decide) (by decide) (hb hby at_137) (pc' := 140) rfl ?_
  rintro v421 T421 L421 X421 ⟨z10, rfl, Nq421, e421, za10, zb10⟩
  have N421 := Fr.app N418 Nq421
  show Run p e below _ _ T421 (mkF m 140 #[.val (.int sz), .val (.int es), .val (.int eb), .val (.int n), .val (.int mc), .val (.ref b377), .unset, .unset, .unset, .unset, .unset] [(.int z10), (.int (10 : Int32)), (.ref b377)])
  refine q_iastore X421 hx hZ e421 (j := (10 : Int32)) AG420 (by decide) (by decide) (hb hby at_140) (pc' := 141) rfl (fun T422 h422 X422 e422 W422 A422 => ?_)
  have Z423 : n0 ≤ h422.size := by have q := Z419; rw [W422.size]; exact q
  have N422 := Fr.snoc X422 N421 ge378
  obtain ⟨G10, hG10⟩ : ∃ G : Nat → Int32, G = (fun i => if i = (10 : Int32).toInt.toNat then z10 else G9 i) := ⟨_, rfl⟩
  have AG424 : Ary Z h422 b377 .int 12 (fun i => .int (G10 i)) := by rw [hG10]; exact A422
  have g11 : ∀ i, i < 11 → 0 ≤ (G10 i).toInt ∧ (G10 i).toInt < N := by rw [hG10]; exact own_gr (P := fun x : Int32 => 0 ≤ x.toInt ∧ x.toInt < N) g10 rfl ⟨za10, by omega⟩
  refine r_aload X422.here hx (hb hby at_141) rfl rfl (pc' := 143) rfl ?_
  refine r_bipush X422.here hx (hb hby at_143) (v := 11) rfl (pc' := 145) rfl ?_
  refine r_iloadN X422.here hx (hb hby at_145) rfl (pc' := 146) rfl ?_
  refine r_bipush X422.here hx (hb hby at_146) (v := 11) rfl (pc' := 148) rfl ?_
  refine r_iloadN X422.here hx (hb hby at_148) rfl (pc' := 149) rfl ?_
  refine r_callS X422 hx hZ (y := (⟨"com/example/medianest/medianest/GraphFirstUnreachablePinLaw", "end", "(III)I"⟩ : MethodName)) (rm := ({ frames := 0, cells := 0, slots := 0, locals := 0 } : Room)) hown (hw _ (List.mem_of_getElem? (i := 1) rfl)) (hw _ (List.mem_of_getElem? (i := 2) rfl)) (hw _ (List.mem_of_getElem? (i := 3) rfl)) (hw _ (List.mem_of_getElem? (i := 4) rfl)) (by decide) (rmE l Z a0 hw [] eb 11 n h422 n0 Z423 hna.1) e422 (by rw [hml]; rfl) (argsL := [(.int eb), (.int (11 : Int32)), (.int n)]) (rest := [(.int (11 : Int32)), (.ref b377)]) (lenOf pd_3 rfl) rfl rfl (W := 2) rfl (by decide) (by decide) (by decide) (by decide) (hb hby at_149) (pc' := 152) rfl ?_
  rintro v425 T425 L425 X425 ⟨z11, rfl, Nq425, e425, za11, zb11⟩
  have N425 := Fr.app N422 Nq425
  show Run p e below _ _ T425 (mkF m 152 #[.val (.int sz), .val (.int es), .val (.int eb), .val (.int n), .val (.int mc), .val (.ref b377), .unset, .unset, .unset, .unset, .unset] [(.int z11), (.int (11 : Int32)), (.ref b377)])
  refine q_iastore X425 hx hZ e425 (j := (11 : Int32)) AG424 (by decide) (by decide) (hb hby at_152) (pc' := 153) rfl (fun T426 h426 X426 e426 W426 A426 => ?_)
  have Z427 : n0 ≤ h426.size := by have q := Z423; rw [W426.size]; exact q
  have N426 := Fr.snoc X426 N425 ge378
  obtain ⟨G11, hG11⟩ : ∃ G : Nat → Int32, G = (fun i => if i = (11 : Int32).toInt.toNat then z11 else G10 i) := ⟨_, rfl⟩
  have AG428 : Ary Z h426 b377 .int 12 (fun i => .int (G11 i)) := by rw [hG11]; exact A426
  have g12 : ∀ i, i < 12 → 0 ≤ (G11 i).toInt ∧ (G11 i).toInt < N := by rw [hG11]; exact own_gr (P := fun x : Int32 => 0 ≤ x.toInt ∧ x.toInt < N) g11 rfl ⟨za11, by omega⟩
  refine r_bipush X426.here hx (hb hby at_153) (v := 6) rfl (pc' := 155) rfl ?_
  refine r_newarray X426 hx hZ (aty := .double) (hw _ (List.mem_of_getElem? (i := 5) rfl)) e426 (cap := 6) (by decide) (by decide) (by decide) (by decide) (by decide) (hb hby at_155) (pc' := 157) rfl (fun T429 h429 b429 k429 g429 X429 e429 E429 A429 => ?_)
  have ne430 : b429 ≠ b377 := by have q := AG428.lt; rw [← g429] at q; exact Nat.ne_of_gt q
  have ge431 : n0 ≤ b429 := by rw [g429]; exact Z427
  have f432 := AG428.ext E429
  have Z433 : n0 ≤ h429.size := by have q := Z427; exact Nat.le_trans q E429.1
  have f434 : Ary Z h429 b429 .double 6 (fun _ => .double 0) := Ary.new A429 rfl
  refine r_astore X429.here hx (hb hby at_157) rfl (l' := #[.val (.int sz), .val (.int es), .val (.int eb), .val (.int n), .val (.int mc), .val (.ref b377), .val (.ref b429), .unset, .unset, .unset, .unset]) rfl (pc' := 159) rfl ?_
  refine r_aload X429.here hx (hb hby at_159) rfl rfl (pc' := 161) rfl ?_
  refine r_iconst X429.here hx (hb hby at_161) (v := 0) rfl (pc' := 162) rfl ?_
  refine r_dconst1 X429.here hx (hb hby at_162) (v := FP.dconst1) rfl (pc' := 163) rfl ?_
  refine q_dastore X429 hx hZ e429 (j := (0 : Int32)) f434 (by decide) (by decide) (hb hby at_163) (pc' := 164) rfl (fun T435 h435 X435 e435 W435 A435 => ?_)
  have f436 := f432.other W435 (Ne.symm ne430)
  have Z437 : n0 ≤ h435.size := by have q := Z433; rw [W435.size]; exact q
  have N435 := Fr.snoc X435 N426 ge431
  refine r_aload X435.here hx (hb hby at_164) rfl rfl (pc' := 166) rfl ?_
  refine r_iconst X435.here hx (hb hby at_166) (v := 1) rfl (pc' := 167) rfl ?_
  refine r_dconst1 X435.here hx (hb hby at_167) (v := FP.dconst1) rfl (pc' := 168) rfl ?_
  refine q_dastore X435 hx hZ e435 (j := (1 : Int32)) A435 (by decide) (by decide) (hb hby at_168) (pc' := 169) rfl (fun T438 h438 X438 e438 W438 A438 => ?_)
  have f439 := f436.other W438 (Ne.symm ne430)
  have Z440 : n0 ≤ h438.size := by have q := Z437; rw [W438.size]; exact q
  have N438 := Fr.snoc X438 N435 ge431
  refine r_aload X438.here hx (hb hby at_169) rfl rfl (pc' := 171) rfl ?_
  refine r_iconst X438.here hx (hb hby at_171) (v := 2) rfl (pc' := 172) rfl ?_
  refine r_dconst1 X438.here hx (hb hby at_172) (v := FP.dconst1) rfl (pc' := 173) rfl ?_
  refine q_dastore X438 hx hZ e438 (j := (2 : Int32)) A438 (by decide) (by decide) (hb hby at_173) (pc' := 174) rfl (fun T441 h441 X441 e441 W441 A441 => ?_)
  have f442 := f439.other W441 (Ne.symm ne430)
  have Z443 : n0 ≤ h441.size := by have q := Z440; rw [W441.size]; exact q
  have N441 := Fr.snoc X441 N438 ge431
  refine r_aload X441.here hx (hb hby at_174) rfl rfl (pc' := 176) rfl ?_
  refine r_iconst X441.here hx (hb hby at_176) (v := 3) rfl (pc' := 177) rfl ?_
  refine r_dconst1 X441.here hx (hb hby at_177) (v := FP.dconst1) rfl (pc' := 178) rfl ?_
  refine q_dastore X441 hx hZ e441 (j := (3 : Int32)) A441 (by decide) (by decide) (hb hby at_178) (pc' := 179) rfl (fun T444 h444 X444 e444 W444 A444 => ?_)
  have f445 := f442.other W444 (Ne.symm ne430)
  have Z446 : n0 ≤ h444.size := by have q := Z443; rw [W444.size]; exact q
  have N444 := Fr.snoc X444 N441 ge431
  refine r_aload X444.here hx (hb hby at_179) rfl rfl (pc' := 181) rfl ?_
  refine r_iconst X444.here hx (hb hby at_181) (v := 4) rfl (pc' := 182) rfl ?_
  refine r_dconst1 X444.here hx (hb hby at_182) (v := FP.dconst1) rfl (pc' := 183) rfl ?_
  refine q_dastore X444 hx hZ e444 (j := (4 : Int32)) A444 (by decide) (by decide) (hb hby at_183) (pc' := 184) rfl (fun T447 h447 X447 e447 W447 A447 => ?_)
  have f448 := f445.other W447 (Ne.symm ne430)
  have Z449 : n0 ≤ h447.size := by have q := Z446; rw [W447.size]; exact q
  have N447 := Fr.snoc X447 N444 ge431
  refine r_aload X447.here hx (hb hby at_184) rfl rfl (pc' := 186) rfl ?_
  refine r_iconst X447.here hx (hb hby at_186) (v := 5) rfl (pc' := 187) rfl ?_
  refine r_dconst1 X447.here hx (hb hby at_187) (v := FP.dconst1) rfl (pc' := 188) rfl ?_
  refine q_dastore X447 hx hZ e447 (j := (5 : Int32)) A447 (by decide) (by decide) (hb hby at_188) (pc' := 189) rfl (fun T450 h450 X450 e450 W450 A450 => ?_)
  have f451 := f448.other W450 (Ne.symm ne430)
  have Z452 : n0 ≤ h450.size := by have q := Z449; rw [W450.size]; exact q
  have N450 := Fr.snoc X450 N447 ge431
  refine r_new X450 hx hZ hown (hw _ (List.mem_of_getElem? (i := 6) rfl)) (hw _ (List.mem_of_getElem? (i := 7) rfl)) (hw _ (List.mem_of_getElem? (i := 8) rfl)) e450 (by decide) (by decide) (hb hby at_189) (pc' := 192) rfl (fun T453 h453 b453 g453 X453 e453 E453 A453 D453 => ?_)
  have ne454 : b453 ≠ b377 := by have q := f451.lt; rw [← g453] at q; exact Nat.ne_of_gt q
  have ne455 : b453 ≠ b429 := by have q := A450.lt; rw [← g453] at q; exact Nat.ne_of_gt q
  have ge456 : n0 ≤ b453 := by rw [g453]; exact Z452
  have f457 := f451.ext E453
  have f458 := A450.ext E453
  have Z459 : n0 ≤ h453.size := by have q := Z452; exact Nat.le_trans q E453.1
  have f460 : Fld Z h453 b453 "com/example/medianest/medianest/Graph" "size" "I" (.int (0 : Int32)) := D453 (Or.inr (hw _ (List.mem_of_getElem? (i := 16) rfl))) (ty := .int) (by decide)
  have f461 : Fld Z h453 b453 "com/example/medianest/medianest/Graph" "start" "[I" .null := D453 (Or.inr (hw _ (List.mem_of_getElem? (i := 18) rfl))) (ty := (.array .int)) (by decide)
  have f462 : Fld Z h453 b453 "com/example/medianest/medianest/Graph" "arcs" "[I" .null := D453 (Or.inr (hw _ (List.mem_of_getElem? (i := 20) rfl))) (ty := (.array .int)) (by decide)
  have f463 : Fld Z h453 b453 "com/example/medianest/medianest/Graph" "lengths" "[D" .null := D453 (Or.inr (hw _ (List.mem_of_getElem? (i := 22) rfl))) (ty := (.array .double)) (by decide)
  refine r_dup X453.here hx (hb hby at_192) rfl (pc' := 193) rfl ?_
  refine r_iloadN X453.here hx (hb hby at_193) rfl (pc' := 194) rfl ?_
  refine r_aload X453.here hx (hb hby at_194) rfl rfl (pc' := 196) rfl ?_
  refine r_aload X453.here hx (hb hby at_196) rfl rfl (pc' := 198) rfl ?_
  refine r_iload X453.here hx (hb hby at_198) rfl (pc' := 200) rfl ?_
  refine r_callI X453 hx hZ (y := (⟨"com/example/medianest/medianest/Graph", "<init>", "(I[I[DI)V"⟩ : MethodName)) (rm := ({ frames := 2, cells := 4, slots := 33, locals := 54 } : Room)) hown rfl (hw _ (List.mem_of_getElem? (i := 9) rfl)) (hw _ (List.mem_of_getElem? (i := 10) rfl)) (hw _ (List.mem_of_getElem? (i := 8) rfl)) (hw _ (List.mem_of_getElem? (i := 11) rfl)) (by decide) (rmG l Z a0 hw [] b453 b377 b429 n mc N M G11 _ h453 n0 Z459 ge456 A453 f460 f461 f462 f463 (Ne.symm ne454) (Ne.symm ne455) (Ne.symm ne430) f457 g12 f458 hn (by omega) hm (by omega)) e453 (by rw [hml]; rfl) (argsL := [(.int n), (.ref b377), (.ref b429), (.int mc)]) (rest := [(.ref b453)]) (lenOf pd_4 rfl) rfl rfl (W := 1) rfl (by decide) (by decide) (by decide) (by decide) (hb hby at_200) (pc' := 203) rfl ?_
  rintro v464 T464 L464 X464 ⟨rfl, Nq464, K464, sa, aa, fS, B, Fz, Fst, Fa, As, Aa, hS, hB⟩
  have N464 := Fr.app N450 Nq464
  show Run p e below _ _ T464 (mkF m 203 #[.val (.int sz), .val (.int es), .val (.int eb), .val (.int n), .val (.int mc), .val (.ref b377), .val (.ref b429), .unset, .unset, .unset, .unset] [(.ref b453)])
  have f465 := f457.keep K464 (ninS (Ne.symm ne454) nin0)
  have f466 := f458.keep K464 (ninS (Ne.symm ne455) nin0)
  have f467 := A453.keep K464
  have Z468 : n0 ≤ T464.heap.size := by have q := Z459; exact Nat.le_trans q K464.1
  refine r_astore X464.here hx (hb hby at_203) rfl (l' := #[.val (.int sz), .val (.int es), .val (.int eb), .val (.int n), .val (.int mc), .val (.ref b377), .val (.ref b429), .val (.ref b453), .unset, .unset, .unset]) rfl (pc' := 205) rfl ?_
  refine r_aload X464.here hx (hb hby at_205) rfl rfl (pc' := 207) rfl ?_
  refine r_callV X464 hx hZ (y := (⟨"com/example/medianest/medianest/Graph", "firstUnreachable", "()I"⟩ : MethodName)) (z := (⟨"com/example/medianest/medianest/Graph", "firstUnreachable", "()I"⟩ : MethodName)) (rm := ({ frames := 0, cells := 2, slots := 8, locals := 0 } : Room)) hown (hw _ (List.mem_of_getElem? (i := 35) rfl)) (hw _ (List.mem_of_getElem? (i := 36) rfl)) (notFace_of_selects (args := #[]) (mvT hZ (hw _ (List.mem_of_getElem? (i := 38) rfl)))) (hw _ (List.mem_of_getElem? (i := 38) rfl)) (hw _ (List.mem_of_getElem? (i := 37) rfl)) (hw _ (List.mem_of_getElem? (i := 8) rfl)) (hw _ (List.mem_of_getElem? (i := 39) rfl)) (by decide) (rmF l Z a0 hw [] b453 sa aa n N M G11 fS B T464.heap n0 Z468 f467 Fz Fst Fa As Aa hS hB hn (by omega) (by omega) (by omega) g12) rfl f467 (by rw [hml]; rfl) (argsL := []) (rest := []) (lenOf pd_5 rfl) rfl rfl (W := 0) rfl (by decide) (by decide) (by decide) (by decide) (hb hby at_207) (pc' := 210) rfl ?_
  rintro v469 T469 L469 X469 ⟨got, rfl, Nq469, K469, RR, hFin, hFst⟩
  have N469 := Fr.app N464 Nq469
  show Run p e below _ _ T469 (mkF m 210 #[.val (.int sz), .val (.int es), .val (.int eb), .val (.int n), .val (.int mc), .val (.ref b377), .val (.ref b429), .val (.ref b453), .unset, .unset, .unset] [(.int got)])
  have f470 := f465.keep K469 nin0
  have f471 := f466.keep K469 nin0
  have f472 := f467.keep K469
  have Z473 : n0 ≤ T469.heap.size := by have q := Z468; exact Nat.le_trans q K469.1
  refine r_istore X469.here hx (hb hby at_210) (l' := #[.val (.int sz), .val (.int es), .val (.int eb), .val (.int n), .val (.int mc), .val (.ref b377), .val (.ref b429), .val (.ref b453), .val (.int got), .unset, .unset]) rfl (pc' := 212) rfl ?_
  refine r_iconst X469.here hx (hb hby at_212) (v := 4) rfl (pc' := 213) rfl ?_
  refine r_newarray X469 hx hZ (aty := .boolean) (hw _ (List.mem_of_getElem? (i := 40) rfl)) rfl (cap := 4) (by decide) (by decide) (by decide) (by decide) (by decide) (hb hby at_213) (pc' := 215) rfl (fun T474 h474 b474 k474 g474 X474 e474 E474 A474 => ?_)
  have ne475 : b474 ≠ b377 := by have q := f470.lt; rw [← g474] at q; exact Nat.ne_of_gt q
  have ne476 : b474 ≠ b429 := by have q := f471.lt; rw [← g474] at q; exact Nat.ne_of_gt q
  have ne477 : b474 ≠ b453 := by have q := f472.lt; rw [← g474] at q; exact Nat.ne_of_gt q
  have ge478 : n0 ≤ b474 := by rw [g474]; exact Z473
  have f479 := f470.ext E474
  have f480 := f471.ext E474
  have f481 := f472.ext E474
  have Z482 : n0 ≤ h474.size := by have q := Z473; exact Nat.le_trans q E474.1
  have f483 : Ary Z h474 b474 .boolean 4 (fun _ => .int 0) := Ary.new A474 rfl
  refine r_astore X474.here hx (hb hby at_215) rfl (l' := #[.val (.int sz), .val (.int es), .val (.int eb), .val (.int n), .val (.int mc), .val (.ref b377), .val (.ref b429), .val (.ref b453), .val (.int got), .val (.ref b474), .unset]) rfl (pc' := 217) rfl ?_
  refine r_aload X474.here hx (hb hby at_217) rfl rfl (pc' := 219) rfl ?_
  refine r_iconst X474.here hx (hb hby at_219) (v := 0) rfl (pc' := 220) rfl ?_
  refine r_iconst X474.here hx (hb hby at_220) (v := 1) rfl (pc' := 221) rfl ?_
  refine q_bastoreZ X474 hx hZ e474 (j := (0 : Int32)) f483 (by decide) (by decide) (w := (1 : Int32)) rfl (hb hby at_221) (pc' := 222) rfl (fun T484 h484 X484 e484 W484 A484 => ?_)
  have f485 := f479.other W484 (Ne.symm ne475)
  have f486 := f480.other W484 (Ne.symm ne476)
  have f487 := f481.wr W484
  have Z488 : n0 ≤ h484.size := by have q := Z482; rw [W484.size]; exact q
  have N484 := Fr.snoc X484 N469 ge478
  obtain ⟨F0, hF0⟩ : ∃ G : Nat → Int32, G = (fun i => if i = 0 then 1 else 0) := ⟨_, rfl⟩
  have AF489 : Ary Z h484 b474 .boolean 4 (fun i => .int (F0 i)) := by rw [hF0]; exact A484
  refine r_aload X484.here hx (hb hby at_222) rfl rfl (pc' := 224) rfl ?_
  refine r_aload X484.here hx (hb hby at_224) rfl rfl (pc' := 226) rfl ?_
  refine r_iload X484.here hx (hb hby at_226) rfl (pc' := 228) rfl ?_
  refine r_callS X484 hx hZ (y := (⟨"com/example/medianest/medianest/GraphFirstUnreachablePinLaw", "pass", "([Z[II)V"⟩ : MethodName)) (rm := ({ frames := 1, cells := 0, slots := 0, locals := 17 } : Room)) hown (hw _ (List.mem_of_getElem? (i := 41) rfl)) (hw _ (List.mem_of_getElem? (i := 42) rfl)) (hw _ (List.mem_of_getElem? (i := 3) rfl)) (hw _ (List.mem_of_getElem? (i := 43) rfl)) (by decide) (rmPs l Z a0 hw [] b474 b377 mc M N F0 G11 h484 n0 Z488 ge478 (Ne.symm ne475) AF489 f485 hm (by omega) g12) e484 (by rw [hml]; rfl) (argsL := [(.ref b474), (.ref b377), (.int mc)]) (rest := []) (lenOf pd_6 rfl) rfl rfl (W := 0) rfl (by decide) (by decide) (by decide) (by decide) (hb hby at_228) (pc' := 231) rfl ?_
  rintro v490 T490 L490 X490 ⟨rfl, Nq490, K490, A490⟩
  have N490 := Fr.app N484 Nq490
  show Run p e below _ _ T490 (mkF m 231 #[.val (.int sz), .val (.int es), .val (.int eb), .val (.int n), .val (.int mc), .val (.ref b377), .val (.ref b429), .val (.ref b453), .val (.int got), .val (.ref b474), .unset] [])
  have f491 := f485.keep K490 (ninS (Ne.symm ne475) nin0)
  have f492 := f486.keep K490 (ninS (Ne.symm ne476) nin0)
  have f493 := f487.keep K490
  have Z494 : n0 ≤ T490.heap.size := by have q := Z488; exact Nat.le_trans q K490.1
  refine r_aload X490.here hx (hb hby at_231) rfl rfl (pc' := 233) rfl ?_
  refine r_aload X490.here hx (hb hby at_233) rfl rfl (pc' := 235) rfl ?_
  refine r_iload X490.here hx (hb hby at_235) rfl (pc' := 237) rfl ?_
  refine r_callS X490 hx hZ (y := (⟨"com/example/medianest/medianest/GraphFirstUnreachablePinLaw", "pass", "([Z[II)V"⟩ : MethodName)) (rm := ({ frames := 1, cells := 0, slots := 0, locals := 17 } : Room)) hown (hw _ (List.mem_of_getElem? (i := 41) rfl)) (hw _ (List.mem_of_getElem? (i := 42) rfl)) (hw _ (List.mem_of_getElem? (i := 3) rfl)) (hw _ (List.mem_of_getElem? (i := 43) rfl)) (by decide) (rmPs l Z a0 hw [] b474 b377 mc M N (own_pass G11 M F0) G11 T490.heap n0 Z494 ge478 (Ne.symm ne475) A490 f491 hm (by omega) g12) rfl (by rw [hml]; rfl) (argsL := [(.ref b474), (.ref b377), (.int mc)]) (rest := []) (lenOf pd_6 rfl) rfl rfl (W := 0) rfl (by decide) (by decide) (by decide) (by decide) (hb hby at_237) (pc' := 240) rfl ?_
  rintro v495 T495 L495 X495 ⟨rfl, Nq495, K495, A495⟩
  have N495 := Fr.app N490 Nq495
  show Run p e below _ _ T495 (mkF m 240 #[.val (.int sz), .val (.int es), .val (.int eb), .val (.int n), .val (.int mc), .val (.ref b377), .val (.ref b429), .val (.ref b453), .val (.int got), .val (.ref b474), .unset] [])
  have f496 := f491.keep K495 (ninS (Ne.symm ne475) nin0)
  have f497 := f492.keep K495 (ninS (Ne.symm ne476) nin0)
  have f498 := f493.keep K495
  have Z499 : n0 ≤ T495.heap.size := by have q := Z494; exact Nat.le_trans q K495.1
  refine r_aload X495.here hx (hb hby at_240) rfl rfl (pc' := 242) rfl ?_
  refine r_aload X495.here hx (hb hby at_242) rfl rfl (pc' := 244) rfl ?_
  refine r_iload X495.here hx (hb hby at_244) rfl (pc' := 246) rfl ?_
  refine r_callS X495 hx hZ (y := (⟨"com/example/medianest/medianest/GraphFirstUnreachablePinLaw", "pass", "([Z[II)V"⟩ : MethodName)) (rm := ({ frames := 1, cells := 0, slots := 0, locals := 17 } : Room)) hown (hw _ (List.mem_of_getElem? (i := 41) rfl)) (hw _ (List.mem_of_getElem? (i := 42) rfl)) (hw _ (List.mem_of_getElem? (i := 3) rfl)) (hw _ (List.mem_of_getElem? (i := 43) rfl)) (by decide) (rmPs l Z a0 hw [] b474 b377 mc M N (own_pass G11 M (own_pass G11 M F0)) G11 T495.heap n0 Z499 ge478 (Ne.symm ne475) A495 f496 hm (by omega) g12) rfl (by rw [hml]; rfl) (argsL := [(.ref b474), (.ref b377), (.int mc)]) (rest := []) (lenOf pd_6 rfl) rfl rfl (W := 0) rfl (by decide) (by decide) (by decide) (by decide) (hb hby at_246) (pc' := 249) rfl ?_
  rintro v500 T500 L500 X500 ⟨rfl, Nq500, K500, A500⟩
  have N500 := Fr.app N495 Nq500
  show Run p e below _ _ T500 (mkF m 249 #[.val (.int sz), .val (.int es), .val (.int eb), .val (.int n), .val (.int mc), .val (.ref b377), .val (.ref b429), .val (.ref b453), .val (.int got), .val (.ref b474), .unset] [])
  have f501 := f496.keep K500 (ninS (Ne.symm ne475) nin0)
  have f502 := f497.keep K500 (ninS (Ne.symm ne476) nin0)
  have f503 := f498.keep K500
  have Z504 : n0 ≤ T500.heap.size := by have q := Z499; exact Nat.le_trans q K500.1
  have z0 : ¬ F0 0 = 0 := by rw [hF0]; decide
  have hAl : ∀ i, i < 2 * M → own_al G11 i < N := fun i hi => by have q := g12 i (by omega); unfold own_al; omega
  have tc := own_three (F := F0) (m := M) (by omega) (by omega) (by omega) hAl z0
  have tr := own_pmono G11 M _ 0 (own_pmono G11 M _ 0 (own_pmono G11 M _ 0 z0))
  have ts : own_Snd G11 M (own_pass G11 M (own_pass G11 M (own_pass G11 M F0))) := fun K hK k0 => own_psound hK (own_psound hK (own_psound hK (fun x q => by have : x = 0 := Classical.byContradiction (fun e => q (by rw [hF0]; simp only [if_neg e])); rw [this]; exact k0)))
  obtain ⟨F3, hF3⟩ : ∃ G : Nat → Int32, G = (own_pass G11 M (own_pass G11 M (own_pass G11 M F0))) := ⟨_, rfl⟩
  rw [← hF3] at tc tr ts
  have AF505 : Ary Z T500.heap b474 .boolean 4 (fun i => .int (F3 i)) := by rw [hF3]; exact A500
  have ww := own_wn (by omega) (by omega) hFin hFst tr ts tc
  refine r_iloadN X500.here hx (hb hby at_249) rfl (pc' := 250) rfl ?_
  refine r_iconst X500.here hx (hb hby at_250) (v := 1) rfl (pc' := 251) rfl ?_
  refine r_if_le X500.here hx (hb hby at_251) (by decide) (pc' := 267) (by decide) (pc2 := 254) rfl (fun hc251 => ?_) (fun hc251 => ?_)
  · refine r_iloadN X500.here hx (hb hby at_267) rfl (pc' := 268) rfl ?_
    refine r_iconst X500.here hx (hb hby at_268) (v := 2) rfl (pc' := 269) rfl ?_
    refine r_if_le X500.here hx (hb hby at_269) (by decide) (pc' := 285) (by decide) (pc2 := 272) rfl (fun hc269 => ?_) (fun hc269 => ?_)
    · refine r_iloadN X500.here hx (hb hby at_285) rfl (pc' := 286) rfl ?_
      refine r_iconst X500.here hx (hb hby at_286) (v := 3) rfl (pc' := 287) rfl ?_
      refine r_if_le X500.here hx (hb hby at_287) (by decide) (pc' := 303) (by decide) (pc2 := 290) rfl (fun hc287 => ?_) (fun hc287 => ?_)
      · refine r_iconst X500.here hx (hb hby at_303) (v := -1) rfl (pc' := 304) rfl ?_
        refine r_istore X500.here hx (hb hby at_304) (l' := #[.val (.int sz), .val (.int es), .val (.int eb), .val (.int n), .val (.int mc), .val (.ref b377), .val (.ref b429), .val (.ref b453), .val (.int got), .val (.ref b474), .val (.int (-1 : Int32))]) rfl (pc' := 306) rfl ?_
        refine r_iload X500.here hx (hb hby at_306) rfl (pc' := 308) rfl ?_
        refine r_iload X500.here hx (hb hby at_308) rfl (pc' := 310) rfl ?_
        refine r_if_ne X500.here hx (hb hby at_310) (by decide) (pc' := 317) (by decide) (pc2 := 313) rfl (fun hc310 => absurd (ww.2.2.2 (fun q => absurd q (by omega)) (fun q => absurd q (by omega)) (fun q => absurd q (by omega))) hc310) (fun hc310 => ?_)
        refine r_iconst X500.here hx (hb hby at_313) (v := 1) rfl (pc' := 314) rfl ?_
        refine r_goto X500.here hx (hb hby at_314) (by decide) (pc' := 318) (by decide) ?_
        refine r_retN X500 hx hlk hret (by simp) (hb hby at_318) (w := (1 : Int32)) rfl ?_ (by decide) (by decide)
        skip
        exact ⟨rfl, N500⟩
      · refine r_aload X500.here hx (hb hby at_290) rfl rfl (pc' := 292) rfl ?_
        refine r_iconst X500.here hx (hb hby at_292) (v := 3) rfl (pc' := 293) rfl ?_
        refine q_baloadZ X500 hx hZ rfl (j := (3 : Int32)) (v := (F3 3)) AF505 (by decide) (by decide) rfl (hb hby at_293) (pc' := 294) rfl ?_
        refine r_if0_ne X500.here hx (hb hby at_294) (by decide) (pc' := 303) (by decide) (pc2 := 297) rfl (fun hc294 => ?_) (fun hc294 => ?_)
        · refine r_iconst X500.here hx (hb hby at_303) (v := -1) rfl (pc' := 304) rfl ?_
          refine r_istore X500.here hx (hb hby at_304) (l' := #[.val (.int sz), .val (.int es), .val (.int eb), .val (.int n), .val (.int mc), .val (.ref b377), .val (.ref b429), .val (.ref b453), .val (.int got), .val (.ref b474), .val (.int (-1 : Int32))]) rfl (pc' := 306) rfl ?_
          refine r_iload X500.here hx (hb hby at_306) rfl (pc' := 308) rfl ?_
          refine r_iload X500.here hx (hb hby at_308) rfl (pc' := 310) rfl ?_
          refine r_if_ne X500.here hx (hb hby at_310) (by decide) (pc' := 317) (by decide) (pc2 := 313) rfl (fun hc310 => absurd (ww.2.2.2 (fun q => absurd q (by omega)) (fun q => absurd q (by omega)) (fun _ => hc294)) hc310) (fun hc310 => ?_)
          refine r_iconst X500.here hx (hb hby at_313) (v := 1) rfl (pc' := 314) rfl ?_
          refine r_goto X500.here hx (hb hby at_314) (by decide) (pc' := 318) (by decide) ?_
          refine r_retN X500 hx hlk hret (by simp) (hb hby at_318) (w := (1 : Int32)) rfl ?_ (by decide) (by decide)
          skip
          exact ⟨rfl, N500⟩
        · refine r_iconst X500.here hx (hb hby at_297) (v := 3) rfl (pc' := 298) rfl ?_
          refine r_istore X500.here hx (hb hby at_298) (l' := #[.val (.int sz), .val (.int es), .val (.int eb), .val (.int n), .val (.int mc), .val (.ref b377), .val (.ref b429), .val (.ref b453), .val (.int got), .val (.ref b474), .val (.int (3 : Int32))]) rfl (pc' := 300) rfl ?_
          refine r_goto X500.here hx (hb hby at_300) (by decide) (pc' := 306) (by decide) ?_
          refine r_iload X500.here hx (hb hby at_306) rfl (pc' := 308) rfl ?_
          refine r_iload X500.here hx (hb hby at_308) rfl (pc' := 310) rfl ?_
          refine r_if_ne X500.here hx (hb hby at_310) (by decide) (pc' := 317) (by decide) (pc2 := 313) rfl (fun hc310 => absurd (ww.2.2.1 (fun q => absurd q (by omega)) (fun q => absurd q (by omega)) (by omega) (Classical.not_not.mp hc294)) hc310) (fun hc310 => ?_)
          refine r_iconst X500.here hx (hb hby at_313) (v := 1) rfl (pc' := 314) rfl ?_
          refine r_goto X500.here hx (hb hby at_314) (by decide) (pc' := 318) (by decide) ?_
          refine r_retN X500 hx hlk hret (by simp) (hb hby at_318) (w := (1 : Int32)) rfl ?_ (by decide) (by decide)
          skip
          exact ⟨rfl, N500⟩
    · refine r_aload X500.here hx (hb hby at_272) rfl rfl (pc' := 274) rfl ?_
      refine r_iconst X500.here hx (hb hby at_274) (v := 2) rfl (pc' := 275) rfl ?_
      refine q_baloadZ X500 hx hZ rfl (j := (2 : Int32)) (v := (F3 2)) AF505 (by decide) (by decide) rfl (hb hby at_275) (pc' := 276) rfl ?_
      refine r_if0_ne X500.here hx (hb hby at_276) (by decide) (pc' := 285) (by decide) (pc2 := 279) rfl (fun hc276 => ?_) (fun hc276 => ?_)
      · refine r_iloadN X500.here hx (hb hby at_285) rfl (pc' := 286) rfl ?_
        refine r_iconst X500.here hx (hb hby at_286) (v := 3) rfl (pc' := 287) rfl ?_
        refine r_if_le X500.here hx (hb hby at_287) (by decide) (pc' := 303) (by decide) (pc2 := 290) rfl (fun hc287 => ?_) (fun hc287 => ?_)
        · refine r_iconst X500.here hx (hb hby at_303) (v := -1) rfl (pc' := 304) rfl ?_
          refine r_istore X500.here hx (hb hby at_304) (l' := #[.val (.int sz), .val (.int es), .val (.int eb), .val (.int n), .val (.int mc), .val (.ref b377), .val (.ref b429), .val (.ref b453), .val (.int got), .val (.ref b474), .val (.int (-1 : Int32))]) rfl (pc' := 306) rfl ?_
          refine r_iload X500.here hx (hb hby at_306) rfl (pc' := 308) rfl ?_
          refine r_iload X500.here hx (hb hby at_308) rfl (pc' := 310) rfl ?_
          refine r_if_ne X500.here hx (hb hby at_310) (by decide) (pc' := 317) (by decide) (pc2 := 313) rfl (fun hc310 => absurd (ww.2.2.2 (fun q => absurd q (by omega)) (fun _ => hc276) (fun q => absurd q (by omega))) hc310) (fun hc310 => ?_)
          refine r_iconst X500.here hx (hb hby at_313) (v := 1) rfl (pc' := 314) rfl ?_
          refine r_goto X500.here hx (hb hby at_314) (by decide) (pc' := 318) (by decide) ?_
          refine r_retN X500 hx hlk hret (by simp) (hb hby at_318) (w := (1 : Int32)) rfl ?_ (by decide) (by decide)
          skip
          exact ⟨rfl, N500⟩
        · refine r_aload X500.here hx (hb hby at_290) rfl rfl (pc' := 292) rfl ?_
          refine r_iconst X500.here hx (hb hby at_292) (v := 3) rfl (pc' := 293) rfl ?_
          refine q_baloadZ X500 hx hZ rfl (j := (3 : Int32)) (v := (F3 3)) AF505 (by decide) (by decide) rfl (hb hby at_293) (pc' := 294) rfl ?_
          refine r_if0_ne X500.here hx (hb hby at_294) (by decide) (pc' := 303) (by decide) (pc2 := 297) rfl (fun hc294 => ?_) (fun hc294 => ?_)
          · refine r_iconst X500.here hx (hb hby at_303) (v := -1) rfl (pc' := 304) rfl ?_
            refine r_istore X500.here hx (hb hby at_304) (l' := #[.val (.int sz), .val (.int es), .val (.int eb), .val (.int n), .val (.int mc), .val (.ref b377), .val (.ref b429), .val (.ref b453), .val (.int got), .val (.ref b474), .val (.int (-1 : Int32))]) rfl (pc' := 306) rfl ?_
            refine r_iload X500.here hx (hb hby at_306) rfl (pc' := 308) rfl ?_
            refine r_iload X500.here hx (hb hby at_308) rfl (pc' := 310) rfl ?_
            refine r_if_ne X500.here hx (hb hby at_310) (by decide) (pc' := 317) (by decide) (pc2 := 313) rfl (fun hc310 => absurd (ww.2.2.2 (fun q => absurd q (by omega)) (fun _ => hc276) (fun _ => hc294)) hc310) (fun hc310 => ?_)
            refine r_iconst X500.here hx (hb hby at_313) (v := 1) rfl (pc' := 314) rfl ?_
            refine r_goto X500.here hx (hb hby at_314) (by decide) (pc' := 318) (by decide) ?_
            refine r_retN X500 hx hlk hret (by simp) (hb hby at_318) (w := (1 : Int32)) rfl ?_ (by decide) (by decide)
            skip
            exact ⟨rfl, N500⟩
          · refine r_iconst X500.here hx (hb hby at_297) (v := 3) rfl (pc' := 298) rfl ?_
            refine r_istore X500.here hx (hb hby at_298) (l' := #[.val (.int sz), .val (.int es), .val (.int eb), .val (.int n), .val (.int mc), .val (.ref b377), .val (.ref b429), .val (.ref b453), .val (.int got), .val (.ref b474), .val (.int (3 : Int32))]) rfl (pc' := 300) rfl ?_
            refine r_goto X500.here hx (hb hby at_300) (by decide) (pc' := 306) (by decide) ?_
            refine r_iload X500.here hx (hb hby at_306) rfl (pc' := 308) rfl ?_
            refine r_iload X500.here hx (hb hby at_308) rfl (pc' := 310) rfl ?_
            refine r_if_ne X500.here hx (hb hby at_310) (by decide) (pc' := 317) (by decide) (pc2 := 313) rfl (fun hc310 => absurd (ww.2.2.1 (fun q => absurd q (by omega)) (fun _ => hc276) (by omega) (Classical.not_not.mp hc294)) hc310) (fun hc310 => ?_)
            refine r_iconst X500.here hx (hb hby at_313) (v := 1) rfl (pc' := 314) rfl ?_
            refine r_goto X500.here hx (hb hby at_314) (by decide) (pc' := 318) (by decide) ?_
            refine r_retN X500 hx hlk hret (by simp) (hb hby at_318) (w := (1 : Int32)) rfl ?_ (by decide) (by decide)
            skip
            exact ⟨rfl, N500⟩
      · refine r_iconst X500.here hx (hb hby at_279) (v := 2) rfl (pc' := 280) rfl ?_
        refine r_istore X500.here hx (hb hby at_280) (l' := #[.val (.int sz), .val (.int es), .val (.int eb), .val (.int n), .val (.int mc), .val (.ref b377), .val (.ref b429), .val (.ref b453), .val (.int got), .val (.ref b474), .val (.int (2 : Int32))]) rfl (pc' := 282) rfl ?_
        refine r_goto X500.here hx (hb hby at_282) (by decide) (pc' := 306) (by decide) ?_
        refine r_iload X500.here hx (hb hby at_306) rfl (pc' := 308) rfl ?_
        refine r_iload X500.here hx (hb hby at_308) rfl (pc' := 310) rfl ?_
        refine r_if_ne X500.here hx (hb hby at_310) (by decide) (pc' := 317) (by decide) (pc2 := 313) rfl (fun hc310 => absurd (ww.2.1 (fun q => absurd q (by omega)) (by omega) (Classical.not_not.mp hc276)) hc310) (fun hc310 => ?_)
        refine r_iconst X500.here hx (hb hby at_313) (v := 1) rfl (pc' := 314) rfl ?_
        refine r_goto X500.here hx (hb hby at_314) (by decide) (pc' := 318) (by decide) ?_
        refine r_retN X500 hx hlk hret (by simp) (hb hby at_318) (w := (1 : Int32)) rfl ?_ (by decide) (by decide)
        skip
        exact ⟨rfl, N500⟩
  · refine r_aload X500.here hx (hb hby at_254) rfl rfl (pc' := 256) rfl ?_
    refine r_iconst X500.here hx (hb hby at_256) (v := 1) rfl (pc' := 257) rfl ?_
    refine q_baloadZ X500 hx hZ rfl (j := (1 : Int32)) (v := (F3 1)) AF505 (by decide) (by decide) rfl (hb hby at_257) (pc' := 258) rfl ?_
    refine r_if0_ne X500.here hx (hb hby at_258) (by decide) (pc' := 267) (by decide) (pc2 := 261) rfl (fun hc258 => ?_) (fun hc258 => ?_)
    · refine r_iloadN X500.here hx (hb hby at_267) rfl (pc' := 268) rfl ?_
      refine r_iconst X500.here hx (hb hby at_268) (v := 2) rfl (pc' := 269) rfl ?_
      refine r_if_le X500.here hx (hb hby at_269) (by decide) (pc' := 285) (by decide) (pc2 := 272) rfl (fun hc269 => ?_) (fun hc269 => ?_)
      · refine r_iloadN X500.here hx (hb hby at_285) rfl (pc' := 286) rfl ?_
        refine r_iconst X500.here hx (hb hby at_286) (v := 3) rfl (pc' := 287) rfl ?_
        refine r_if_le X500.here hx (hb hby at_287) (by decide) (pc' := 303) (by decide) (pc2 := 290) rfl (fun hc287 => ?_) (fun hc287 => ?_)
        · refine r_iconst X500.here hx (hb hby at_303) (v := -1) rfl (pc' := 304) rfl ?_
          refine r_istore X500.here hx (hb hby at_304) (l' := #[.val (.int sz), .val (.int es), .val (.int eb), .val (.int n), .val (.int mc), .val (.ref b377), .val (.ref b429), .val (.ref b453), .val (.int got), .val (.ref b474), .val (.int (-1 : Int32))]) rfl (pc' := 306) rfl ?_
          refine r_iload X500.here hx (hb hby at_306) rfl (pc' := 308) rfl ?_
          refine r_iload X500.here hx (hb hby at_308) rfl (pc' := 310) rfl ?_
          refine r_if_ne X500.here hx (hb hby at_310) (by decide) (pc' := 317) (by decide) (pc2 := 313) rfl (fun hc310 => absurd (ww.2.2.2 (fun _ => hc258) (fun q => absurd q (by omega)) (fun q => absurd q (by omega))) hc310) (fun hc310 => ?_)
          refine r_iconst X500.here hx (hb hby at_313) (v := 1) rfl (pc' := 314) rfl ?_
          refine r_goto X500.here hx (hb hby at_314) (by decide) (pc' := 318) (by decide) ?_
          refine r_retN X500 hx hlk hret (by simp) (hb hby at_318) (w := (1 : Int32)) rfl ?_ (by decide) (by decide)
          skip
          exact ⟨rfl, N500⟩
        · refine r_aload X500.here hx (hb hby at_290) rfl rfl (pc' := 292) rfl ?_
          refine r_iconst X500.here hx (hb hby at_292) (v := 3) rfl (pc' := 293) rfl ?_
          refine q_baloadZ X500 hx hZ rfl (j := (3 : Int32)) (v := (F3 3)) AF505 (by decide) (by decide) rfl (hb hby at_293) (pc' := 294) rfl ?_
          refine r_if0_ne X500.here hx (hb hby at_294) (by decide) (pc' := 303) (by decide) (pc2 := 297) rfl (fun hc294 => ?_) (fun hc294 => ?_)
          · refine r_iconst X500.here hx (hb hby at_303) (v := -1) rfl (pc' := 304) rfl ?_
            refine r_istore X500.here hx (hb hby at_304) (l' := #[.val (.int sz), .val (.int es), .val (.int eb), .val (.int n), .val (.int mc), .val (.ref b377), .val (.ref b429), .val (.ref b453), .val (.int got), .val (.ref b474), .val (.int (-1 : Int32))]) rfl (pc' := 306) rfl ?_
            refine r_iload X500.here hx (hb hby at_306) rfl (pc' := 308) rfl ?_
            refine r_iload X500.here hx (hb hby at_308) rfl (pc' := 310) rfl ?_
            refine r_if_ne X500.here hx (hb hby at_310) (by decide) (pc' := 317) (by decide) (pc2 := 313) rfl (fun hc310 => absurd (ww.2.2.2 (fun _ => hc258) (fun q => absurd q (by omega)) (fun _ => hc294)) hc310) (fun hc310 => ?_)
            refine r_iconst X500.here hx (hb hby at_313) (v := 1) rfl (pc' := 314) rfl ?_
            refine r_goto X500.here hx (hb hby at_314) (by decide) (pc' := 318) (by decide) ?_
            refine r_retN X500 hx hlk hret (by simp) (hb hby at_318) (w := (1 : Int32)) rfl ?_ (by decide) (by decide)
            skip
            exact ⟨rfl, N500⟩
          · refine r_iconst X500.here hx (hb hby at_297) (v := 3) rfl (pc' := 298) rfl ?_
            refine r_istore X500.here hx (hb hby at_298) (l' := #[.val (.int sz), .val (.int es), .val (.int eb), .val (.int n), .val (.int mc), .val (.ref b377), .val (.ref b429), .val (.ref b453), .val (.int got), .val (.ref b474), .val (.int (3 : Int32))]) rfl (pc' := 300) rfl ?_
            refine r_goto X500.here hx (hb hby at_300) (by decide) (pc' := 306) (by decide) ?_
            refine r_iload X500.here hx (hb hby at_306) rfl (pc' := 308) rfl ?_
            refine r_iload X500.here hx (hb hby at_308) rfl (pc' := 310) rfl ?_
            refine r_if_ne X500.here hx (hb hby at_310) (by decide) (pc' := 317) (by decide) (pc2 := 313) rfl (fun hc310 => absurd (ww.2.2.1 (fun _ => hc258) (fun q => absurd q (by omega)) (by omega) (Classical.not_not.mp hc294)) hc310) (fun hc310 => ?_)
            refine r_iconst X500.here hx (hb hby at_313) (v := 1) rfl (pc' := 314) rfl ?_
            refine r_goto X500.here hx (hb hby at_314) (by decide) (pc' := 318) (by decide) ?_
            refine r_retN X500 hx hlk hret (by simp) (hb hby at_318) (w := (1 : Int32)) rfl ?_ (by decide) (by decide)
            skip
            exact ⟨rfl, N500⟩
      · refine r_aload X500.here hx (hb hby at_272) rfl rfl (pc' := 274) rfl ?_
        refine r_iconst X500.here hx (hb hby at_274) (v := 2) rfl (pc' := 275) rfl ?_
        refine q_baloadZ X500 hx hZ rfl (j := (2 : Int32)) (v := (F3 2)) AF505 (by decide) (by decide) rfl (hb hby at_275) (pc' := 276) rfl ?_
        refine r_if0_ne X500.here hx (hb hby at_276) (by decide) (pc' := 285) (by decide) (pc2 := 279) rfl (fun hc276 => ?_) (fun hc276 => ?_)
        · refine r_iloadN X500.here hx (hb hby at_285) rfl (pc' := 286) rfl ?_
          refine r_iconst X500.here hx (hb hby at_286) (v := 3) rfl (pc' := 287) rfl ?_
          refine r_if_le X500.here hx (hb hby at_287) (by decide) (pc' := 303) (by decide) (pc2 := 290) rfl (fun hc287 => ?_) (fun hc287 => ?_)
          · refine r_iconst X500.here hx (hb hby at_303) (v := -1) rfl (pc' := 304) rfl ?_
            refine r_istore X500.here hx (hb hby at_304) (l' := #[.val (.int sz), .val (.int es), .val (.int eb), .val (.int n), .val (.int mc), .val (.ref b377), .val (.ref b429), .val (.ref b453), .val (.int got), .val (.ref b474), .val (.int (-1 : Int32))]) rfl (pc' := 306) rfl ?_
            refine r_iload X500.here hx (hb hby at_306) rfl (pc' := 308) rfl ?_
            refine r_iload X500.here hx (hb hby at_308) rfl (pc' := 310) rfl ?_
            refine r_if_ne X500.here hx (hb hby at_310) (by decide) (pc' := 317) (by decide) (pc2 := 313) rfl (fun hc310 => absurd (ww.2.2.2 (fun _ => hc258) (fun _ => hc276) (fun q => absurd q (by omega))) hc310) (fun hc310 => ?_)
            refine r_iconst X500.here hx (hb hby at_313) (v := 1) rfl (pc' := 314) rfl ?_
            refine r_goto X500.here hx (hb hby at_314) (by decide) (pc' := 318) (by decide) ?_
            refine r_retN X500 hx hlk hret (by simp) (hb hby at_318) (w := (1 : Int32)) rfl ?_ (by decide) (by decide)
            skip
            exact ⟨rfl, N500⟩
          · refine r_aload X500.here hx (hb hby at_290) rfl rfl (pc' := 292) rfl ?_
            refine r_iconst X500.here hx (hb hby at_292) (v := 3) rfl (pc' := 293) rfl ?_
            refine q_baloadZ X500 hx hZ rfl (j := (3 : Int32)) (v := (F3 3)) AF505 (by decide) (by decide) rfl (hb hby at_293) (pc' := 294) rfl ?_
            refine r_if0_ne X500.here hx (hb hby at_294) (by decide) (pc' := 303) (by decide) (pc2 := 297) rfl (fun hc294 => ?_) (fun hc294 => ?_)
            · refine r_iconst X500.here hx (hb hby at_303) (v := -1) rfl (pc' := 304) rfl ?_
              refine r_istore X500.here hx (hb hby at_304) (l' := #[.val (.int sz), .val (.int es), .val (.int eb), .val (.int n), .val (.int mc), .val (.ref b377), .val (.ref b429), .val (.ref b453), .val (.int got), .val (.ref b474), .val (.int (-1 : Int32))]) rfl (pc' := 306) rfl ?_
              refine r_iload X500.here hx (hb hby at_306) rfl (pc' := 308) rfl ?_
              refine r_iload X500.here hx (hb hby at_308) rfl (pc' := 310) rfl ?_
              refine r_if_ne X500.here hx (hb hby at_310) (by decide) (pc' := 317) (by decide) (pc2 := 313) rfl (fun hc310 => absurd (ww.2.2.2 (fun _ => hc258) (fun _ => hc276) (fun _ => hc294)) hc310) (fun hc310 => ?_)
              refine r_iconst X500.here hx (hb hby at_313) (v := 1) rfl (pc' := 314) rfl ?_
              refine r_goto X500.here hx (hb hby at_314) (by decide) (pc' := 318) (by decide) ?_
              refine r_retN X500 hx hlk hret (by simp) (hb hby at_318) (w := (1 : Int32)) rfl ?_ (by decide) (by decide)
              skip
              exact ⟨rfl, N500⟩
            · refine r_iconst X500.here hx (hb hby at_297) (v := 3) rfl (pc' := 298) rfl ?_
              refine r_istore X500.here hx (hb hby at_298) (l' := #[.val (.int sz), .val (.int es), .val (.int eb), .val (.int n), .val (.int mc), .val (.ref b377), .val (.ref b429), .val (.ref b453), .val (.int got), .val (.ref b474), .val (.int (3 : Int32))]) rfl (pc' := 300) rfl ?_
              refine r_goto X500.here hx (hb hby at_300) (by decide) (pc' := 306) (by decide) ?_
              refine r_iload X500.here hx (hb hby at_306) rfl (pc' := 308) rfl ?_
              refine r_iload X500.here hx (hb hby at_308) rfl (pc' := 310) rfl ?_
              refine r_if_ne X500.here hx (hb hby at_310) (by decide) (pc' := 317) (by decide) (pc2 := 313) rfl (fun hc310 => absurd (ww.2.2.1 (fun _ => hc258) (fun _ => hc276) (by omega) (Classical.not_not.mp hc294)) hc310) (fun hc310 => ?_)
              refine r_iconst X500.here hx (hb hby at_313) (v := 1) rfl (pc' := 314) rfl ?_
              refine r_goto X500.here hx (hb hby at_314) (by decide) (pc' := 318) (by decide) ?_
              refine r_retN X500 hx hlk hret (by simp) (hb hby at_318) (w := (1 : Int32)) rfl ?_ (by decide) (by decide)
              skip
              exact ⟨rfl, N500⟩
        · refine r_iconst X500.here hx (hb hby at_279) (v := 2) rfl (pc' := 280) rfl ?_
          refine r_istore X500.here hx (hb hby at_280) (l' := #[.val (.int sz), .val (.int es), .val (.int eb), .val (.int n), .val (.int mc), .val (.ref b377), .val (.ref b429), .val (.ref b453), .val (.int got), .val (.ref b474), .val (.int (2 : Int32))]) rfl (pc' := 282) rfl ?_
          refine r_goto X500.here hx (hb hby at_282) (by decide) (pc' := 306) (by decide) ?_
          refine r_iload X500.here hx (hb hby at_306) rfl (pc' := 308) rfl ?_
          refine r_iload X500.here hx (hb hby at_308) rfl (pc' := 310) rfl ?_
          refine r_if_ne X500.here hx (hb hby at_310) (by decide) (pc' := 317) (by decide) (pc2 := 313) rfl (fun hc310 => absurd (ww.2.1 (fun _ => hc258) (by omega) (Classical.not_not.mp hc276)) hc310) (fun hc310 => ?_)
          refine r_iconst X500.here hx (hb hby at_313) (v := 1) rfl (pc' := 314) rfl ?_
          refine r_goto X500.here hx (hb hby at_314) (by decide) (pc' := 318) (by decide) ?_
          refine r_retN X500 hx hlk hret (by simp) (hb hby at_318) (w := (1 : Int32)) rfl ?_ (by decide) (by decide)
          skip
          exact ⟨rfl, N500⟩
    · refine r_iconst X500.here hx (hb hby at_261) (v := 1) rfl (pc' := 262) rfl ?_
      refine r_istore X500.here hx (hb hby at_262) (l' := #[.val (.int sz), .val (.int es), .val (.int eb), .val (.int n), .val (.int mc), .val (.ref b377), .val (.ref b429), .val (.ref b453), .val (.int got), .val (.ref b474), .val (.int (1 : Int32))]) rfl (pc' := 264) rfl ?_
      refine r_goto X500.here hx (hb hby at_264) (by decide) (pc' := 306) (by decide) ?_
      refine r_iload X500.here hx (hb hby at_306) rfl (pc' := 308) rfl ?_
      refine r_iload X500.here hx (hb hby at_308) rfl (pc' := 310) rfl ?_
      refine r_if_ne X500.here hx (hb hby at_310) (by decide) (pc' := 317) (by decide) (pc2 := 313) rfl (fun hc310 => absurd (ww.1 (by omega) (Classical.not_not.mp hc258)) hc310) (fun hc310 => ?_)
      refine r_iconst X500.here hx (hb hby at_313) (v := 1) rfl (pc' := 314) rfl ?_
      refine r_goto X500.here hx (hb hby at_314) (by decide) (pc' := 318) (by decide) ?_
      refine r_retN X500 hx hlk hret (by simp) (hb hby at_318) (w := (1 : Int32)) rfl ?_ (by decide) (by decide)
      skip
      exact ⟨rfl, N500⟩
set_option maxRecDepth 65536 in
set_option maxHeartbeats 40000000 in
theorem comes_1 {Post : Tables → Env → Array Value → State → Outcome → State → Prop} (hpost : ∀ tb e args s v u, (limb_1_1.after args s (.returned v) u = true ∧ limb_1_2.after args s (.returned v) u = true ∧ True) → FrameEnd s (.returned v) u (Jvm.fieldLocs frame_1_writes args s ++ Jvm.arrayLocs frame_1_arrays args s ++ Jvm.staticLocs frame_1_statics s) 32 256 → Post tb e args s (.returned v) u) :
    ArmFor flags0 classFile x code maxLocals ret World_1 tables_1 room_1 Calls_1 rest_1 Pre_1 Post := by
  intro l hfl _ _ p e ha hc hk s m args below hf hA hF happ hP
  obtain ⟨hcalls, hrest, hpre⟩ := hP
  obtain ⟨-, -, -, hnamed, -, -, -, hat⟩ := (Spec.applies_iff hf).mp happ
  obtain ⟨hg, hn⟩ := and_e (Cond.before_iff.mp (show (Jvm.Cond.and given_1 narrow_1).before args s = true from hpre))
  obtain ⟨h1, g0⟩ := and_e hg
  obtain ⟨q0, g1⟩ := and_e g0
  obtain ⟨q1, g2⟩ := and_e g1
  have q2 := g2
  obtain ⟨w0, w1, w2, rfl⟩ : ∃ w0 w1 w2 : Value, args = #[w0, w1, w2] := by
    have hs : args.size = 3 := by simpa [Cond.value, given_1] using h1
    obtain ⟨L⟩ := args
    match L, hs with
    | [w0, w1, w2], _ => exact ⟨w0, w1, w2, rfl⟩
  have hw := fun d (hd : d ∈ tables_1) => atoms_spec (ws := Jvm.Cond.code x code maxLocals ret :: tables_1) hat d (List.mem_cons_of_mem _ hd)
  have hfit : Fit s := fun {y c} hc i hi => by
    obtain ⟨ha, rfl⟩ := Array.getElem?_eq_some_iff.mp hc
    have q := List.all_eq_true.mp ((Array.all_eq_true_iff_forall_mem.mp hF) _ (Array.getElem_mem ha)) i (List.mem_range.mpr hi)
    simpa [Array.getElem?_eq_getElem hi] using q
  obtain ⟨i0, e0⟩ := is_v q0
  obtain rfl : w0 = (.int i0) := Option.some.inj e0
  obtain ⟨i1, e1⟩ := is_v q1
  obtain rfl : w1 = (.int i1) := Option.some.inj e1
  obtain ⟨i2, e2⟩ := is_v q2
  obtain rfl : w2 = (.int i2) := Option.some.inj e2
  obtain ⟨n, o, h1, h2, h3, _, L, rfl, ⟨rfl, N⟩, hq⟩ := rm0 l s _ hw tables_1 i0 i1 i2  s.heap s.heap.size (Nat.le_refl _)  p e ha hc hk s m _ below hf ((Spec.applies_iff_loose hf).mp happ).1 ⟨rfl, State.Warmed39.refl s, rfl⟩ trivial
  refine ⟨n, _, h1, h2, h3, hpost _ _ _ _ _ _ ⟨Cond.after_iff.mpr rfl, Cond.after_iff.mpr (eq_i res_at (Term.int_eval (1)) rfl), trivial⟩ ⟨hq.1, hq.2.1, (hq.2.2.sift fun y hy => Or.inr (N y hy)).mono (by decide) (by decide)⟩⟩
theorem main_1_1 : Claimed_1_1 := comes_1 fun _ _ _ _ _ _ h hF => ⟨h.1, hF⟩
theorem main_1_2 : Claimed_1_2 := comes_1 fun _ _ _ _ _ _ h hF => ⟨h.2.1, hF⟩
end Jvm.Pilot.@@N@@
namespace Jvm.Pilot.@@N@@
open Jvm Jvm.ClassFile Sem Op Lib Jvm.Free Jvm.Stand Jvm.Pilot.@@N@@.Jvm.D
/-! MADE BY PROGRAM (witnessworld.py) out of the Statement's table words and the real class files: 16 classes; the members and pool entries that the words name. The judged class is class 1, her method 1. -/
namespace start1
open Jvm.ClassFile
def u (s : String) : CpInfo := .utf8 (stringToUtf16 s)
/-- a pool by its gaps: so many unusable entries, then the entry; so many at the end -/
def gap : Nat → List CpInfo → List CpInfo
  | 0, r => r
  | n + 1, r => .unusable :: gap n r
def poolList (es : List (Nat × CpInfo)) (last : Nat) : List CpInfo := es.foldr (fun e r => gap e.1 (e.2 :: r)) (gap last [])
def pool (es : List (Nat × CpInfo)) (last : Nat) : Array CpInfo := ⟨poolList es last⟩
def fileOf (pool : Array CpInfo) (this : Nat) (attrs : Array Attribute := #[]) (ms : Array MethodInfo := #[]) (fl : Nat := 33) (sup : Nat := 0) (ifs : Array Nat := #[]) (fds : Array FieldInfo := #[]) : ClassFile where
  minorVersion := 0
  majorVersion := 65
  constantPool := pool
  accessFlags := fl
  thisClass := this
  superClass := sup
  interfaces := ifs
  fields := fds
  methods := ms
  attributes := attrs
def plain (name : String) (sup : Option ClassId) : Class where
  name := name
  kind := .ordinary
  loader := none
  accessFlags := 33
  super := sup
  interfaces := #[]
  cf := none
  fields := #[]
  methods := #[]
  instanceTypes := #[]
  staticTypes := #[]
  resolved := #[]
  callSites := []
  init := .initialized
  statics := none
  mirror := none

def pool0 : Array CpInfo := pool [(5, u "<init>"), (0, u "()V"), (1, .class_ 10), (1, u "java/lang/Object")] 113

def k0c0 : Code := { maxStack := 0, maxLocals := 1, code := object_method_1_code, exceptionTable := #[], attributes := #[] }
def k0m0 : Method := { name := "<init>", desc := "()V", sig := { parameters := [], returnType := none }, accessFlags := 1, code := some k0c0 }
/-- java/lang/Object -/
def k0 : Class := { plain "java/lang/Object" none with
  accessFlags := 33
  interfaces := #[]
  cf := some (fileOf pool0 8 #[] #[{ accessFlags := 1, nameIndex := 5, descriptorIndex := 6, attributes := #[] }] 33 0 #[] #[])
  fields := #[]
  methods := #[k0m0]
  instanceTypes := #[]
  staticTypes := #[]
  resolved := Array.replicate 124 none
  statics := none }

def pool1 : Array CpInfo := pool [(2, .class_ 4), (1, u "java/lang/Object"), (0, u "<init>"), (0, u "()V"), (0, .methodref 8 9), (0, .class_ 10), (0, .nameAndType 11 12), (0, u "com/example/medianest/medianest/GraphFirstUnreachablePinLaw"), (0, u "end"), (0, u "(III)I"), (0, .class_ 14), (0, u "com/example/medianest/medianest/Graph"), (0, .methodref 13 16), (0, .nameAndType 5 17), (0, u "(I[I[DI)V"), (0, .methodref 13 19), (0, .nameAndType 20 21), (0, u "firstUnreachable"), (0, u "()I"), (0, .methodref 8 23), (0, .nameAndType 24 25), (0, u "pass"), (0, u "([Z[II)V"), (0, .methodref 8 27), (0, .nameAndType 28 29), (0, u "relax"), (0, u "([Z[III)V"), (2, u "law"), (0, u "(III)Z")] 9

def k1m0 : Method := { name := "<init>", desc := "()V", sig := { parameters := [], returnType := none }, accessFlags := 1, code := none }
def k1c1 : Code := { maxStack := 6, maxLocals := 11, code := code, exceptionTable := #[], attributes := #[] }
def k1m1 : Method := { name := "law", desc := "(III)Z", sig := { parameters := [.int, .int, .int], returnType := some .boolean }, accessFlags := 9, code := some k1c1 }
def k1c2 : Code := { maxStack := 3, maxLocals := 3, code := method_3_code, exceptionTable := #[], attributes := #[] }
def k1m2 : Method := { name := "end", desc := "(III)I", sig := { parameters := [.int, .int, .int], returnType := some .int }, accessFlags := 10, code := some k1c2 }
def k1c3 : Code := { maxStack := 4, maxLocals := 3, code := method_4_code, exceptionTable := #[], attributes := #[] }
def k1m3 : Method := { name := "pass", desc := "([Z[II)V", sig := { parameters := [(.array .boolean), (.array .int), .int], returnType := none }, accessFlags := 10, code := some k1c3 }
def k1c4 : Code := { maxStack := 3, maxLocals := 6, code := method_5_code, exceptionTable := #[], attributes := #[] }
def k1m4 : Method := { name := "relax", desc := "([Z[III)V", sig := { parameters := [(.array .boolean), (.array .int), .int, .int], returnType := none }, accessFlags := 10, code := some k1c4 }
/-- com/example/medianest/medianest/GraphFirstUnreachablePinLaw -/
def k1 : Class := { plain "com/example/medianest/medianest/GraphFirstUnreachablePinLaw" (some 0) with
  accessFlags := 49
  interfaces := #[]
  cf := some (fileOf pool1 8 #[] #[{ accessFlags := 1, nameIndex := 5, descriptorIndex := 6, attributes := #[] }, { accessFlags := 9, nameIndex := 32, descriptorIndex := 33, attributes := #[] }, { accessFlags := 10, nameIndex := 11, descriptorIndex := 12, attributes := #[] }, { accessFlags := 10, nameIndex := 24, descriptorIndex := 25, attributes := #[] }, { accessFlags := 10, nameIndex := 28, descriptorIndex := 29, attributes := #[] }] 49 2 #[] #[])
  fields := #[]
  methods := #[k1m0, k1m1, k1m2, k1m3, k1m4]
  instanceTypes := #[]
  staticTypes := #[]
  resolved := Array.replicate 43 none
  statics := none }

def pool2 : Array CpInfo := pool [(1, .methodref 2 3), (0, .class_ 4), (0, .nameAndType 5 6), (0, u "java/lang/Object"), (0, u "<init>"), (0, u "()V"), (0, .fieldref 8 9), (0, .class_ 10), (0, .nameAndType 11 12), (0, u "com/example/medianest/medianest/Graph"), (0, u "size"), (0, u "I"), (0, .fieldref 8 14), (0, .nameAndType 15 16), (0, u "start"), (0, u "[I"), (0, .fieldref 8 18), (0, .nameAndType 19 16), (0, u "arcs"), (0, .fieldref 8 21), (0, .nameAndType 22 23), (0, u "lengths"), (0, u "[D"), (0, .methodref 25 26), (0, .class_ 27), (0, .nameAndType 28 29), (0, u "java/util/Arrays"), (0, u "copyOf"), (0, u "([II)[I"), (0, .class_ 31), (0, u "com/example/medianest/medianest/Graph$Heap"), (26, u "()I"), (11, u "(I[I[DI)V"), (5, u "firstUnreachable")] 9

def k2c0 : Code := { maxStack := 6, maxLocals := 9, code := prog_5_method_1_code, exceptionTable := #[], attributes := #[] }
def k2m0 : Method := { name := "<init>", desc := "(I[I[DI)V", sig := { parameters := [.int, (.array .int), (.array .double), .int], returnType := none }, accessFlags := 0, code := some k2c0 }
def k2c1 : Code := { maxStack := 4, maxLocals := 7, code := prog_5_method_2_code, exceptionTable := #[], attributes := #[] }
def k2m1 : Method := { name := "firstUnreachable", desc := "()I", sig := { parameters := [], returnType := some .int }, accessFlags := 0, code := some k2c1 }
/-- com/example/medianest/medianest/Graph -/
def k2 : Class := { plain "com/example/medianest/medianest/Graph" (some 0) with
  accessFlags := 48
  interfaces := #[]
  cf := some (fileOf pool2 8 #[.nestMembers #[30]] #[{ accessFlags := 0, nameIndex := 5, descriptorIndex := 70, attributes := #[] }, { accessFlags := 0, nameIndex := 76, descriptorIndex := 58, attributes := #[] }] 48 2 #[] #[{ accessFlags := 18, nameIndex := 11, descriptorIndex := 12, attributes := #[] }, { accessFlags := 18, nameIndex := 15, descriptorIndex := 16, attributes := #[] }, { accessFlags := 18, nameIndex := 19, descriptorIndex := 16, attributes := #[] }, { accessFlags := 18, nameIndex := 22, descriptorIndex := 23, attributes := #[] }])
  fields := #[{ name := "size", type := .int, accessFlags := 18, slot := 0, constantValue := 0 }, { name := "start", type := (.array .int), accessFlags := 18, slot := 1, constantValue := 0 }, { name := "arcs", type := (.array .int), accessFlags := 18, slot := 2, constantValue := 0 }, { name := "lengths", type := (.array .double), accessFlags := 18, slot := 3, constantValue := 0 }]
  methods := #[k2m0, k2m1]
  instanceTypes := #[.int, (.array .int), (.array .int), (.array .double)]
  staticTypes := #[]
  resolved := Array.replicate 86 none
  statics := none }

def pool3 : Array CpInfo := pool [(2, .class_ 4), (1, u "java/lang/Object"), (0, u "<init>"), (0, u "()V"), (7, .class_ 16), (1, u "java/util/Arrays"), (57, .class_ 76), (1, u "java/util/Arrays$NaturalOrder"), (36, .class_ 115), (1, u "java/util/Arrays$LegacyMergeSort"), (1, u "Z"), (32, .methodref 151 152), (0, .class_ 153), (0, .nameAndType 154 155), (0, u "java/lang/System"), (0, u "arraycopy"), (0, u "(Ljava/lang/Object;ILjava/lang/Object;II)V"), (146, u "copyOf"), (1, .methodref 305 306), (0, .class_ 307), (0, .nameAndType 308 309), (0, u "java/lang/Math"), (0, u "min"), (0, u "(II)I"), (65, .class_ 376), (0, u "java/util/Arrays$ArrayList"), (68, u "$assertionsDisabled"), (269, u "MIN_ARRAY_SORT_GRAN"), (0, u "I"), (2, u "INSERTIONSORT_THRESHOLD"), (151, u "([II)[I"), (103, .class_ 976), (0, u "java/util/Arrays$ArrayItr")] 52

def k3m0 : Method := { name := "<init>", desc := "()V", sig := { parameters := [], returnType := none }, accessFlags := 2, code := none }
def k3c1 : Code := { maxStack := 6, maxLocals := 3, code := jdk_65_method_123_code, exceptionTable := #[], attributes := #[] }
def k3m1 : Method := { name := "copyOf", desc := "([II)[I", sig := { parameters := [(.array .int), .int], returnType := some (.array .int) }, accessFlags := 9, code := some k3c1 }
/-- java/util/Arrays -/
def k3 : Class := { plain "java/util/Arrays" (some 0) with
  accessFlags := 49
  interfaces := #[]
  cf := some (fileOf pool3 14 #[.nestMembers #[975, 375, 113, 74]] #[{ accessFlags := 2, nameIndex := 5, descriptorIndex := 6, attributes := #[] }, { accessFlags := 9, nameIndex := 302, descriptorIndex := 871, attributes := #[] }] 49 2 #[] #[{ accessFlags := 26, nameIndex := 715, descriptorIndex := 716, attributes := #[] }, { accessFlags := 26, nameIndex := 719, descriptorIndex := 716, attributes := #[] }, { accessFlags := 4120, nameIndex := 445, descriptorIndex := 117, attributes := #[] }])
  fields := #[{ name := "MIN_ARRAY_SORT_GRAN", type := .int, accessFlags := 26, slot := 0, constantValue := 0 }, { name := "INSERTIONSORT_THRESHOLD", type := .int, accessFlags := 26, slot := 1, constantValue := 0 }, { name := "$assertionsDisabled", type := .boolean, accessFlags := 4120, slot := 2, constantValue := 0 }]
  methods := #[k3m0, k3m1]
  instanceTypes := #[]
  staticTypes := #[.int, .int, .boolean]
  resolved := Array.replicate 1029 none
  statics := none }

def pool4 : Array CpInfo := pool [(1, .class_ 2), (0, u "java/lang/Math"), (1, .class_ 6), (1, u "java/lang/Object"), (0, u "<init>"), (0, u "()V"), (89, .class_ 100), (1, u "java/lang/Math$RandomNumberGeneratorHolder"), (71, u "negativeZeroFloatBits"), (0, u "J"), (2, u "negativeZeroDoubleBits"), (24, u "min"), (43, u "$assertionsDisabled"), (0, u "Z"), (88, u "(II)I"), (2, u "twoToTheDoubleScaleDown"), (0, u "D"), (4, u "twoToTheDoubleScaleUp"), (9, u "E"), (3, u "PI"), (2, u "TAU"), (2, u "DEGREES_TO_RADIANS"), (0, u "RADIANS_TO_DEGREES")] 94

def k4m0 : Method := { name := "<init>", desc := "()V", sig := { parameters := [], returnType := none }, accessFlags := 2, code := none }
def k4c1 : Code := { maxStack := 2, maxLocals := 2, code := jdk_29_method_69_code, exceptionTable := #[], attributes := #[] }
def k4m1 : Method := { name := "min", desc := "(II)I", sig := { parameters := [.int, .int], returnType := some .int }, accessFlags := 9, code := some k4c1 }
/-- java/lang/Math -/
def k4 : Class := { plain "java/lang/Math" (some 0) with
  accessFlags := 49
  interfaces := #[]
  cf := some (fileOf pool4 1 #[.nestMembers #[98]] #[{ accessFlags := 2, nameIndex := 7, descriptorIndex := 8, attributes := #[] }, { accessFlags := 9, nameIndex := 201, descriptorIndex := 335, attributes := #[] }] 49 4 #[] #[{ accessFlags := 25, nameIndex := 354, descriptorIndex := 339, attributes := #[] }, { accessFlags := 25, nameIndex := 358, descriptorIndex := 339, attributes := #[] }, { accessFlags := 25, nameIndex := 361, descriptorIndex := 339, attributes := #[] }, { accessFlags := 26, nameIndex := 364, descriptorIndex := 339, attributes := #[] }, { accessFlags := 26, nameIndex := 365, descriptorIndex := 339, attributes := #[] }, { accessFlags := 26, nameIndex := 172, descriptorIndex := 173, attributes := #[] }, { accessFlags := 26, nameIndex := 176, descriptorIndex := 173, attributes := #[] }, { accessFlags := 8, nameIndex := 344, descriptorIndex := 339, attributes := #[] }, { accessFlags := 8, nameIndex := 338, descriptorIndex := 339, attributes := #[] }, { accessFlags := 4120, nameIndex := 245, descriptorIndex := 246, attributes := #[] }])
  fields := #[{ name := "E", type := .double, accessFlags := 25, slot := 0, constantValue := 0 }, { name := "PI", type := .double, accessFlags := 25, slot := 1, constantValue := 0 }, { name := "TAU", type := .double, accessFlags := 25, slot := 2, constantValue := 0 }, { name := "DEGREES_TO_RADIANS", type := .double, accessFlags := 26, slot := 3, constantValue := 0 }, { name := "RADIANS_TO_DEGREES", type := .double, accessFlags := 26, slot := 4, constantValue := 0 }, { name := "negativeZeroFloatBits", type := .long, accessFlags := 26, slot := 5, constantValue := 0 }, { name := "negativeZeroDoubleBits", type := .long, accessFlags := 26, slot := 6, constantValue := 0 }, { name := "twoToTheDoubleScaleUp", type := .double, accessFlags := 8, slot := 7, constantValue := 0 }, { name := "twoToTheDoubleScaleDown", type := .double, accessFlags := 8, slot := 8, constantValue := 0 }, { name := "$assertionsDisabled", type := .boolean, accessFlags := 4120, slot := 9, constantValue := 0 }]
  methods := #[k4m0, k4m1]
  instanceTypes := #[]
  staticTypes := #[.double, .double, .double, .double, .double, .long, .long, .double, .double, .boolean]
  resolved := Array.replicate 460 none
  statics := none }

def pool5 : Array CpInfo := pool [(2, .class_ 4), (1, u "java/lang/Object"), (0, u "<init>"), (0, u "()V"), (1, .class_ 10), (1, u "java/lang/System"), (0, u "allowSecurityManager"), (0, u "I"), (16, u "cons"), (0, u "Ljava/io/Console;"), (77, .class_ 110), (1, u "java/lang/System$CallersHolder"), (43, u "initialErrStream"), (0, u "Ljava/io/PrintStream;"), (19, u "security"), (0, u "Ljava/lang/SecurityManager;"), (31, .class_ 209), (0, u "java/lang/System$1"), (7, u "props"), (0, u "Ljava/util/Properties;"), (2, u "lineSeparator"), (0, u "Ljava/lang/String;"), (96, .class_ 321), (1, u "java/lang/System$LoggerFinder"), (5, .class_ 328), (0, u "java/lang/System$Logger"), (67, u "err"), (2, u "out"), (91, u "notSupportedJnuEncoding"), (15, u "in"), (17, u "initialIn"), (0, u "Ljava/io/InputStream;"), (35, u "bootLayer"), (0, u "Ljava/lang/ModuleLayer;"), (99, .class_ 664), (0, u "java/lang/System$2"), (9, u "NEVER"), (2, u "MAYBE"), (49, u "arraycopy"), (0, u "(Ljava/lang/Object;ILjava/lang/Object;II)V"), (72, .class_ 802), (0, u "java/lang/System$Logger$Level")] 31

def k5m0 : Method := { name := "<init>", desc := "()V", sig := { parameters := [], returnType := none }, accessFlags := 2, code := none }
def k5m1 : Method := { name := "arraycopy", desc := "(Ljava/lang/Object;ILjava/lang/Object;II)V", sig := { parameters := [(.object "java/lang/Object"), .int, (.object "java/lang/Object"), .int, .int], returnType := none }, accessFlags := 265, code := none }
/-- java/lang/System -/
def k5 : Class := { plain "java/lang/System" (some 0) with
  accessFlags := 49
  interfaces := #[]
  cf := some (fileOf pool5 8 #[.nestMembers #[319, 327, 801, 108, 663, 208]] #[{ accessFlags := 2, nameIndex := 5, descriptorIndex := 6, attributes := #[] }, { accessFlags := 265, nameIndex := 727, descriptorIndex := 728, attributes := #[] }] 49 2 #[] #[{ accessFlags := 25, nameIndex := 507, descriptorIndex := 526, attributes := #[] }, { accessFlags := 25, nameIndex := 399, descriptorIndex := 155, attributes := #[] }, { accessFlags := 25, nameIndex := 396, descriptorIndex := 155, attributes := #[] }, { accessFlags := 10, nameIndex := 525, descriptorIndex := 526, attributes := #[] }, { accessFlags := 26, nameIndex := 674, descriptorIndex := 12, attributes := #[] }, { accessFlags := 26, nameIndex := 677, descriptorIndex := 12, attributes := #[] }, { accessFlags := 10, nameIndex := 11, descriptorIndex := 12, attributes := #[] }, { accessFlags := 74, nameIndex := 175, descriptorIndex := 176, attributes := #[] }, { accessFlags := 10, nameIndex := 491, descriptorIndex := 222, attributes := #[] }, { accessFlags := 74, nameIndex := 29, descriptorIndex := 30, attributes := #[] }, { accessFlags := 74, nameIndex := 154, descriptorIndex := 155, attributes := #[] }, { accessFlags := 10, nameIndex := 217, descriptorIndex := 218, attributes := #[] }, { accessFlags := 10, nameIndex := 221, descriptorIndex := 222, attributes := #[] }, { accessFlags := 8, nameIndex := 562, descriptorIndex := 563, attributes := #[] }])
  fields := #[{ name := "in", type := (.object "java/io/InputStream"), accessFlags := 25, slot := 0, constantValue := 0 }, { name := "out", type := (.object "java/io/PrintStream"), accessFlags := 25, slot := 1, constantValue := 0 }, { name := "err", type := (.object "java/io/PrintStream"), accessFlags := 25, slot := 2, constantValue := 0 }, { name := "initialIn", type := (.object "java/io/InputStream"), accessFlags := 10, slot := 3, constantValue := 0 }, { name := "NEVER", type := .int, accessFlags := 26, slot := 4, constantValue := 0 }, { name := "MAYBE", type := .int, accessFlags := 26, slot := 5, constantValue := 0 }, { name := "allowSecurityManager", type := .int, accessFlags := 10, slot := 6, constantValue := 0 }, { name := "security", type := (.object "java/lang/SecurityManager"), accessFlags := 74, slot := 7, constantValue := 0 }, { name := "notSupportedJnuEncoding", type := (.object "java/lang/String"), accessFlags := 10, slot := 8, constantValue := 0 }, { name := "cons", type := (.object "java/io/Console"), accessFlags := 74, slot := 9, constantValue := 0 }, { name := "initialErrStream", type := (.object "java/io/PrintStream"), accessFlags := 74, slot := 10, constantValue := 0 }, { name := "props", type := (.object "java/util/Properties"), accessFlags := 10, slot := 11, constantValue := 0 }, { name := "lineSeparator", type := (.object "java/lang/String"), accessFlags := 10, slot := 12, constantValue := 0 }, { name := "bootLayer", type := (.object "java/lang/ModuleLayer"), accessFlags := 8, slot := 13, constantValue := 0 }]
  methods := #[k5m0, k5m1]
  instanceTypes := #[]
  staticTypes := #[(.object "java/io/InputStream"), (.object "java/io/PrintStream"), (.object "java/io/PrintStream"), (.object "java/io/InputStream"), .int, .int, .int, (.object "java/lang/SecurityManager"), (.object "java/lang/String"), (.object "java/io/Console"), (.object "java/io/PrintStream"), (.object "java/util/Properties"), (.object "java/lang/String"), (.object "java/lang/ModuleLayer")]
  resolved := Array.replicate 834 none
  statics := none }

def pool6 : Array CpInfo := pool [(1, u "java/lang/Cloneable"), (0, .class_ 1), (0, u "java/lang/Object"), (0, .class_ 3)] 3

/-- java/lang/Cloneable -/
def k6 : Class := { plain "java/lang/Cloneable" (some 0) with
  accessFlags := 1537
  interfaces := #[]
  cf := some (fileOf pool6 2 #[] #[] 1537 4 #[] #[])
  fields := #[]
  methods := #[]
  instanceTypes := #[]
  staticTypes := #[]
  resolved := Array.replicate 8 none
  statics := none }

def pool7 : Array CpInfo := pool [(1, u "java/io/Serializable"), (0, .class_ 1), (0, u "java/lang/Object"), (0, .class_ 3)] 3

/-- java/io/Serializable -/
def k7 : Class := { plain "java/io/Serializable" (some 0) with
  accessFlags := 1537
  interfaces := #[]
  cf := some (fileOf pool7 2 #[] #[] 1537 4 #[] #[])
  fields := #[]
  methods := #[]
  instanceTypes := #[]
  staticTypes := #[]
  resolved := Array.replicate 8 none
  statics := none }

/-- the primitive boolean -/
def k8 : Class := { plain "boolean" none with kind := .primitive 'Z', accessFlags := 0x411 }
/-- [Z -/
def k9 : Class := { plain "[Z" (some 0) with kind := .array 8 .boolean, interfaces := #[6, 7], accessFlags := 1041 }

/-- the primitive byte -/
def k10 : Class := { plain "byte" none with kind := .primitive 'B', accessFlags := 0x411 }
/-- [B -/
def k11 : Class := { plain "[B" (some 0) with kind := .array 10 .byte, interfaces := #[6, 7], accessFlags := 1041 }

/-- the primitive double -/
def k12 : Class := { plain "double" none with kind := .primitive 'D', accessFlags := 0x411 }
/-- [D -/
def k13 : Class := { plain "[D" (some 0) with kind := .array 12 .double, interfaces := #[6, 7], accessFlags := 1041 }

/-- the primitive int -/
def k14 : Class := { plain "int" none with kind := .primitive 'I', accessFlags := 0x411 }
/-- [I -/
def k15 : Class := { plain "[I" (some 0) with kind := .array 14 .int, interfaces := #[6, 7], accessFlags := 1041 }

def heap : Heap := #[]
def classes : Array Class := #[k0, k1, k2, k3, k4, k5, k6, k7, k8, k9, k10, k11, k12, k13, k14, k15]
def interned : List (Array UInt16 × Addr) := []
def slotsUsed : Nat := 0
def theMethod : MethodId := ⟨1, 1⟩
def args0 : Array Value := #[.int 5, .int 7, .int 3]
def aboutOver (below : List Frame) : State where
  vm := { classes := classes, interned := interned.toArray }
  heap := heap
  slotsUsed := slotsUsed
  threads := #[{ frames := .invoking theMethod args0 :: below }]
def below0 : List Frame := [.native { method := ⟨0, 0⟩, args := #[] }]
def about1 : State := aboutOver below0
def p0 : Program := .bare "" "" ""
def e0 : Env := launch0.env 0 0 0
theorem w_frames : about1.frames = Frame.invoking theMethod args0 :: below0 := rfl
set_option maxRecDepth 65536 in
theorem w_args : argsFit about1.vm theMethod args0 = true := by decide +kernel
set_option maxRecDepth 65536 in
theorem w_heap : heapFits about1 = true := by decide +kernel
set_option maxRecDepth 65536 in
theorem w_runnable : about1.curStatus? = some .runnable := by decide +kernel
set_option maxRecDepth 65536 in
theorem w_alone : about1.alone = true := by decide +kernel
set_option maxRecDepth 65536 in
theorem w_named : about1.methodNamed? x = some theMethod := by decide +kernel
set_option maxRecDepth 65536 in
theorem w_hears : about1.hears theMethod below0 = true := by decide +kernel
set_option maxRecDepth 65536 in
theorem w_ripe : about1.ripe theMethod args0 below0 = true := by decide +kernel
theorem w_running : about1.status = .running := rfl
set_option maxRecDepth 65536 in
theorem w_room : about1.hasRoom e0.platform room_1 = true :=
  launch0.hasRoom_least _ room_1 (by decide +kernel) (by decide +kernel) (by decide +kernel) (by decide +kernel) (by decide +kernel) (by decide +kernel)
theorem allAtoms_all (ts : List Jvm.Cond) (a : Array Jvm.Value) (st : Jvm.State) : (allAtoms ts).before a st = ts.all (fun c => c.before a st) := by
  induction ts with
  | nil => rfl
  | cons c t ih =>
    show (Jvm.Cond.and c (allAtoms t)).before a st = _
    rw [Jvm.Cond.before_and, ih, List.all_cons]
def words1 : List Jvm.Cond := Jvm.Cond.code x code maxLocals ret :: tables_1
/-- a 'code' word, met by the world's own term for the bytes: nothing is compared byte by byte -/
theorem code_word {y : MethodName} {bytes : ByteArray} {mx : Nat} {rt : Option FieldType} {a : Array Value} {s : State} {m : MethodId} {meth : Method} {c : Code} (h1 : s.methodNamed? y = some m) (h2 : s.vm.method? m = some meth) (h3 : meth.code = some c) (h4 : c.code = bytes)
    (h5 : (c.maxLocals == mx && c.exceptionTable.isEmpty && decide (c.maxStack ≤ mostOperands) && decide (meth.sig.returnType = rt) && !meth.locks && decide (parseMethodDescriptor y.desc = some meth.sig)) = true) : (Jvm.Cond.code y bytes mx rt).before a s = true := by
  simp only [Bool.and_eq_true, beq_iff_eq, Bool.not_eq_true', decide_eq_true_eq] at h5
  obtain ⟨⟨⟨⟨⟨g1, g2⟩, g3⟩, g4⟩, g5⟩, g6⟩ := h5
  simp [Cond.before, Cond.holds, Cond.value, h1, h2, h3, h4, g1, g2, g3, g4, g5, g6]
def isCode : Jvm.Cond → Bool
  | .code _ _ _ _ => true
  | _ => false
theorem all_split {L : List Jvm.Cond} {P : Jvm.Cond → Bool} (h1 : L.all (fun c => isCode c || P c) = true) (h2 : ∀ c ∈ L.filter isCode, P c = true) : L.all P = true := by
  refine List.all_eq_true.mpr fun c hc => ?_
  have h := List.all_eq_true.mp h1 c hc
  rcases Bool.eq_false_or_eq_true (isCode c) with hi | hi
  · exact h2 c (List.mem_filter.mpr ⟨hc, hi⟩)
  · simpa [hi] using h
set_option maxRecDepth 65536 in
theorem w_c0 : (Jvm.Cond.code x code maxLocals ret).before args0 about1 = true := code_word (m := ⟨1, 1⟩) (meth := k1m1) (c := k1c1) (by decide +kernel) rfl rfl rfl (by decide +kernel)
set_option maxRecDepth 65536 in
theorem w_c1 : (Jvm.Cond.code ({ cls := "com/example/medianest/medianest/GraphFirstUnreachablePinLaw", name := "end", desc := "(III)I" } : Jvm.MethodName) method_3_code (3 : Nat) (Option.some Jvm.ClassFile.FieldType.int)).before args0 about1 = true := code_word (m := ⟨1, 2⟩) (meth := k1m2) (c := k1c2) (by decide +kernel) rfl rfl rfl (by decide +kernel)
set_option maxRecDepth 65536 in
theorem w_c2 : (Jvm.Cond.code ({ cls := "com/example/medianest/medianest/Graph", name := "<init>", desc := "(I[I[DI)V" } : Jvm.MethodName) prog_5_method_1_code (9 : Nat) (Option.none : Option Jvm.ClassFile.FieldType)).before args0 about1 = true := code_word (m := ⟨2, 0⟩) (meth := k2m0) (c := k2c0) (by decide +kernel) rfl rfl rfl (by decide +kernel)
set_option maxRecDepth 65536 in
theorem w_c3 : (Jvm.Cond.code ({ cls := "java/lang/Object", name := "<init>", desc := "()V" } : Jvm.MethodName) object_method_1_code (1 : Nat) (Option.none : Option Jvm.ClassFile.FieldType)).before args0 about1 = true := code_word (m := ⟨0, 0⟩) (meth := k0m0) (c := k0c0) (by decide +kernel) rfl rfl rfl (by decide +kernel)
set_option maxRecDepth 65536 in
theorem w_c4 : (Jvm.Cond.code ({ cls := "java/util/Arrays", name := "copyOf", desc := "([II)[I" } : Jvm.MethodName) jdk_65_method_123_code (3 : Nat) (Option.some (Jvm.ClassFile.FieldType.array Jvm.ClassFile.FieldType.int))).before args0 about1 = true := code_word (m := ⟨3, 1⟩) (meth := k3m1) (c := k3c1) (by decide +kernel) rfl rfl rfl (by decide +kernel)
set_option maxRecDepth 65536 in
theorem w_c5 : (Jvm.Cond.code ({ cls := "java/lang/Math", name := "min", desc := "(II)I" } : Jvm.MethodName) jdk_29_method_69_code (2 : Nat) (Option.some Jvm.ClassFile.FieldType.int)).before args0 about1 = true := code_word (m := ⟨4, 1⟩) (meth := k4m1) (c := k4c1) (by decide +kernel) rfl rfl rfl (by decide +kernel)
set_option maxRecDepth 65536 in
theorem w_c6 : (Jvm.Cond.code ({ cls := "com/example/medianest/medianest/Graph", name := "firstUnreachable", desc := "()I" } : Jvm.MethodName) prog_5_method_2_code (7 : Nat) (Option.some Jvm.ClassFile.FieldType.int)).before args0 about1 = true := code_word (m := ⟨2, 1⟩) (meth := k2m1) (c := k2c1) (by decide +kernel) rfl rfl rfl (by decide +kernel)
set_option maxRecDepth 65536 in
theorem w_c7 : (Jvm.Cond.code ({ cls := "com/example/medianest/medianest/GraphFirstUnreachablePinLaw", name := "pass", desc := "([Z[II)V" } : Jvm.MethodName) method_4_code (3 : Nat) (Option.none : Option Jvm.ClassFile.FieldType)).before args0 about1 = true := code_word (m := ⟨1, 3⟩) (meth := k1m3) (c := k1c3) (by decide +kernel) rfl rfl rfl (by decide +kernel)
set_option maxRecDepth 65536 in
theorem w_c8 : (Jvm.Cond.code ({ cls := "com/example/medianest/medianest/GraphFirstUnreachablePinLaw", name := "relax", desc := "([Z[III)V" } : Jvm.MethodName) method_5_code (6 : Nat) (Option.none : Option Jvm.ClassFile.FieldType)).before args0 about1 = true := code_word (m := ⟨1, 4⟩) (meth := k1m4) (c := k1c4) (by decide +kernel) rfl rfl rfl (by decide +kernel)
def codes1 : List Jvm.Cond := [Jvm.Cond.code x code maxLocals ret, Jvm.Cond.code ({ cls := "com/example/medianest/medianest/GraphFirstUnreachablePinLaw", name := "end", desc := "(III)I" } : Jvm.MethodName) method_3_code (3 : Nat) (Option.some Jvm.ClassFile.FieldType.int), Jvm.Cond.code ({ cls := "com/example/medianest/medianest/Graph", name := "<init>", desc := "(I[I[DI)V" } : Jvm.MethodName) prog_5_method_1_code (9 : Nat) (Option.none : Option Jvm.ClassFile.FieldType), Jvm.Cond.code ({ cls := "java/lang/Object", name := "<init>", desc := "()V" } : Jvm.MethodName) object_method_1_code (1 : Nat) (Option.none : Option Jvm.ClassFile.FieldType), Jvm.Cond.code ({ cls := "java/util/Arrays", name := "copyOf", desc := "([II)[I" } : Jvm.MethodName) jdk_65_method_123_code (3 : Nat) (Option.some (Jvm.ClassFile.FieldType.array Jvm.ClassFile.FieldType.int)), Jvm.Cond.code ({ cls := "java/lang/Math", name := "min", desc := "(II)I" } : Jvm.MethodName) jdk_29_method_69_code (2 : Nat) (Option.some Jvm.ClassFile.FieldType.int), Jvm.Cond.code ({ cls := "com/example/medianest/medianest/Graph", name := "firstUnreachable", desc := "()I" } : Jvm.MethodName) prog_5_method_2_code (7 : Nat) (Option.some Jvm.ClassFile.FieldType.int), Jvm.Cond.code ({ cls := "com/example/medianest/medianest/GraphFirstUnreachablePinLaw", name := "pass", desc := "([Z[II)V" } : Jvm.MethodName) method_4_code (3 : Nat) (Option.none : Option Jvm.ClassFile.FieldType), Jvm.Cond.code ({ cls := "com/example/medianest/medianest/GraphFirstUnreachablePinLaw", name := "relax", desc := "([Z[III)V" } : Jvm.MethodName) method_5_code (6 : Nat) (Option.none : Option Jvm.ClassFile.FieldType)]
set_option maxRecDepth 65536 in
theorem codes_eq : words1.filter isCode = codes1 := rfl
theorem w_codes : ∀ c ∈ words1.filter isCode, c.before args0 about1 = true := by
  rw [codes_eq]
  intro c hc
  simp only [codes1, List.mem_cons, List.not_mem_nil, or_false] at hc
  rcases hc with rfl | rfl | rfl | rfl | rfl | rfl | rfl | rfl | rfl
  · exact w_c0
  · exact w_c1
  · exact w_c2
  · exact w_c3
  · exact w_c4
  · exact w_c5
  · exact w_c6
  · exact w_c7
  · exact w_c8
set_option maxRecDepth 65536 in
theorem w_t1 : (words1.take 24).all (fun c => isCode c || c.before args0 about1) = true := by decide +kernel
set_option maxRecDepth 65536 in
theorem w_t2 : (words1.drop 24).all (fun c => isCode c || c.before args0 about1) = true := by decide +kernel
theorem w_tables : (allAtoms (Jvm.Cond.code x code maxLocals ret :: tables_1)).before args0 about1 = true := by
  rw [allAtoms_all]
  show words1.all (fun c => c.before args0 about1) = true
  refine all_split ?_ w_codes
  rw [← List.take_append_drop 24 words1, List.all_append, w_t1, w_t2]
  rfl
set_option maxRecDepth 65536 in
theorem w_case : (Jvm.Cond.and given_1 narrow_1).before args0 about1 = true := by decide +kernel
theorem w_applies : (headSpec (Jvm.Cond.code x code maxLocals ret :: tables_1) room_1).applies x e0.platform about1 = true :=
  (Spec.applies_iff w_frames).mpr ⟨w_running, w_runnable, w_alone, w_named, w_hears, w_ripe, w_room, w_tables⟩
theorem atStart : AtStart classFile x code maxLocals ret World_1 tables_1 room_1 Calls_1 rest_1 Pre_1 launch0 p0 e0 about1 theMethod args0 below0 :=
  ⟨lists_1, trivial, launch0.admits_env _ _ _, launch0.least_env, fairChoices_fair.cas, fairChoices_fair.clock, w_frames, w_args, w_heap, w_applies, trivial, trivial, w_case⟩
end start1
theorem witness_1 : WitnessClaimed_1 := ⟨start1.p0, start1.e0, start1.about1, start1.theMethod, start1.args0, start1.below0, start1.atStart⟩
end Jvm.Pilot.@@N@@
